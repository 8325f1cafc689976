import JvmDerived
import JvmDerived.Pilot.@@N@@Statement
import JvmDerived.Pilot.@@N@@Code
set_option linter.unusedVariables false
set_option linter.unusedSimpArgs false
namespace Jvm.RoadKit
open Sem ClassFile Op Lib Jvm.Stand Jvm.Free Jvm.LawKit
section New
variable {p : Program} {l : Launch} {e : Env} {R : Room} {s : State} {m : MethodId} {args : Array Value} {below : List Frame} {meth : Method} {c : Code} {T : State} {locs : List Loc} {cells slots : Nat}
theorem retI (X : Stand p l e R s m args below meth c T locs cells slots) (hx : p.tables.exec = Jvm.exec) {pc : Nat} {Ls : Array Slot} {z : Int32} {rest : List Value} (hret : meth.sig.returnType = some .int) (hd : decode c.code pc = .ok (.ireturn, 1)) {fs : List Frame}
    (hl : ∀ (f : JFrame) (acts : List Action), f.method = m → f.locked = none → f.entered = [] → (doReturn e (T.setTop f) acts (some (.int z))).1 = T.setFrames fs) : Steps p.tables e below (T.setTop (mkF m pc Ls (.int z :: rest))) (T.setFrames fs) := by
  have hm' : T.vm.method? m = some meth := X.method'
  have hn : narrow .int (.int z) = .int z := rfl
  show Steps p.tables e below (T.setTop { method := m, pc := pc, locals := Ls, stack := _ :: rest, locked := none }) _
  jvm_step X.here [X.here.top, hx, hd, hm', hret, hn]
  first | (intro acts; rw [hl _ acts rfl rfl rfl]) | rw [hl _ _ rfl rfl rfl]
  exact Steps.refl _
end New
end Jvm.RoadKit
namespace Jvm.Pilot.@@N@@
open Jvm Jvm.ClassFile Sem Op Lib Jvm.Free Jvm.Stand Jvm.LawKit Jvm.RoadKit Bundle Jvm.Pilot.@@N@@.Jvm.D
section OwnArrays
variable {Z : State} {h h' : Heap} {a b : Addr} {ty : FieldType} {n j : Int32} {F : Nat → Int32} {G : Nat → Int64} {sl : Nat} {v : Value} {ws : List Addr} {k : ClassId} {x : Int32} {y : Int64}
/-- an array of ints (chars, bytes, booleans ..): its length and its components -/
def own_AI (Z : State) (h : Heap) (a : Addr) (ty : FieldType) (n : Int32) (F : Nat → Int32) : Prop := ∃ c : Cell, Arr Z h a c ty ∧ c.slots.size = n.toNatClampNeg ∧ ¬ n < 0 ∧ ∀ i, i < c.slots.size → c.slots[i]? = some (.int (F i)) ∧ fits ty (.int (F i)) = true
/-- an array of longs -/
def own_AJ (Z : State) (h : Heap) (a : Addr) (ty : FieldType) (n : Int32) (F : Nat → Int64) : Prop := ∃ c : Cell, Arr Z h a c ty ∧ c.slots.size = n.toNatClampNeg ∧ ¬ n < 0 ∧ ∀ i, i < c.slots.size → c.slots[i]? = some (.long (F i))
/-- an array of which the length alone is told -/
def own_AL (Z : State) (h : Heap) (a : Addr) (ty : FieldType) (n : Int32) : Prop := ∃ c : Cell, Arr Z h a c ty ∧ c.slots.size = n.toNatClampNeg ∧ ¬ n < 0 ∧ True
def own_upd {α : Type} (F : Nat → α) (i : Nat) (v : α) : Nat → α := fun q => if q = i then v else F q
theorem own_upd_at {α : Type} (F : Nat → α) (i : Nat) (v : α) (q : Nat) : own_upd F i v q = if q = i then v else F q := rfl
theorem own_lt {c : Cell} (q : ¬ (j < 0 ∨ c.slots.size ≤ j.toNatClampNeg)) : j.toNatClampNeg < c.slots.size := Nat.lt_of_not_le fun z => q (Or.inr z)
theorem own_AI.lt (H : own_AI Z h a ty n F) : a < h.size := by obtain ⟨c, A, -⟩ := H; exact A.lt
theorem own_AI.ext (H : own_AI Z h a ty n F) (E : Ext h h') : own_AI Z h' a ty n F := by obtain ⟨c, A, r⟩ := H; exact ⟨c, A.ext E, r⟩
theorem own_AI.other (H : own_AI Z h b ty n F) (W : Wr h h' a sl v) (q : b ≠ a) : own_AI Z h' b ty n F := by obtain ⟨c, A, r⟩ := H; exact ⟨c, A.other W q, r⟩
theorem own_AI.keep (H : own_AI Z h a ty n F) (K : Keep h h' ws) (q : a ∉ ws) : own_AI Z h' a ty n F := by obtain ⟨c, A, r⟩ := H; exact ⟨c, ⟨K.2.1 a c A.1 q, A.2⟩, r⟩
theorem own_AI.new (A : Arr Z h a (newA k ty n) ty) (q : ¬ n < 0) (hd : defaultValue ty = .int 0) : own_AI Z h a ty n (fun _ => 0) :=
  ⟨_, A, sz_new _ _ _, q, fun i hi => by
    rw [sz_new] at hi
    refine ⟨by simp [newA, hi, hd], ?_⟩
    rw [← hd]; cases ty <;> rfl⟩
theorem own_AI.set (H : own_AI Z h a ty n F) (hv : fits ty (.int x) = true) (W : Wr h h' a j.toNatClampNeg (.int x)) : own_AI Z h' a ty n (own_upd F j.toNatClampNeg x) := by
  obtain ⟨c, A, S, q, H⟩ := H
  refine ⟨_, A.same W, by simpa [Cell.setSlot] using S, q, fun i hi => ?_⟩
  have hi' : i < c.slots.size := by simpa [Cell.setSlot] using hi
  by_cases u : i = j.toNatClampNeg
  · rw [own_upd_at, if_pos u]; subst u; exact ⟨by simp [Cell.setSlot, hi'], hv⟩
  · rw [own_upd_at, if_neg u]
    refine ⟨?_, (H i hi').2⟩
    have := (H i hi').1
    simp only [Cell.setSlot] at this ⊢
    rw [Array.getElem?_setIfInBounds_ne (Ne.symm u)]; exact this
theorem own_AJ.lt (H : own_AJ Z h a ty n G) : a < h.size := by obtain ⟨c, A, -⟩ := H; exact A.lt
theorem own_AJ.ext (H : own_AJ Z h a ty n G) (E : Ext h h') : own_AJ Z h' a ty n G := by obtain ⟨c, A, r⟩ := H; exact ⟨c, A.ext E, r⟩
theorem own_AJ.other (H : own_AJ Z h b ty n G) (W : Wr h h' a sl v) (q : b ≠ a) : own_AJ Z h' b ty n G := by obtain ⟨c, A, r⟩ := H; exact ⟨c, A.other W q, r⟩
theorem own_AJ.keep (H : own_AJ Z h a ty n G) (K : Keep h h' ws) (q : a ∉ ws) : own_AJ Z h' a ty n G := by obtain ⟨c, A, r⟩ := H; exact ⟨c, ⟨K.2.1 a c A.1 q, A.2⟩, r⟩
theorem own_AJ.new (A : Arr Z h a (newA k .long n) .long) (q : ¬ n < 0) : own_AJ Z h a .long n (fun _ => 0) :=
  ⟨_, A, sz_new _ _ _, q, fun i hi => by rw [sz_new] at hi; simp [newA, hi, defaultValue]⟩
theorem own_AJ.set (H : own_AJ Z h a ty n G) (W : Wr h h' a j.toNatClampNeg (.long y)) : own_AJ Z h' a ty n (own_upd G j.toNatClampNeg y) := by
  obtain ⟨c, A, S, q, H⟩ := H
  refine ⟨_, A.same W, by simpa [Cell.setSlot] using S, q, fun i hi => ?_⟩
  have hi' : i < c.slots.size := by simpa [Cell.setSlot] using hi
  by_cases u : i = j.toNatClampNeg
  · rw [own_upd_at, if_pos u]; subst u; simp [Cell.setSlot, hi']
  · rw [own_upd_at, if_neg u]
    have := H i hi'
    simp only [Cell.setSlot] at this ⊢
    rw [Array.getElem?_setIfInBounds_ne (Ne.symm u)]; exact this
theorem own_AL.lt (H : own_AL Z h a ty n) : a < h.size := by obtain ⟨c, A, -⟩ := H; exact A.lt
theorem own_AL.ext (H : own_AL Z h a ty n) (E : Ext h h') : own_AL Z h' a ty n := by obtain ⟨c, A, r⟩ := H; exact ⟨c, A.ext E, r⟩
theorem own_AL.other (H : own_AL Z h b ty n) (W : Wr h h' a sl v) (q : b ≠ a) : own_AL Z h' b ty n := by obtain ⟨c, A, r⟩ := H; exact ⟨c, A.other W q, r⟩
theorem own_AL.keep (H : own_AL Z h a ty n) (K : Keep h h' ws) (q : a ∉ ws) : own_AL Z h' a ty n := by obtain ⟨c, A, r⟩ := H; exact ⟨c, ⟨K.2.1 a c A.1 q, A.2⟩, r⟩
theorem own_AL.new (A : Arr Z h a (newA k ty n) ty) (q : ¬ n < 0) : own_AL Z h a ty n := ⟨_, A, sz_new _ _ _, q, trivial⟩
theorem own_AL.set (H : own_AL Z h a ty n) (W : Wr h h' a sl v) : own_AL Z h' a ty n := by
  obtain ⟨c, A, S, q, -⟩ := H
  exact ⟨_, A.same W, by simpa [Cell.setSlot] using S, q, trivial⟩
end OwnArrays
theorem own_idx (x : Int32) : ¬ ((x &&& (2147483647 : Int32)) - ((x &&& (2147483647 : Int32)) / (20 : Int32)) * (20 : Int32)) < 0 ∧ ((x &&& (2147483647 : Int32)) - ((x &&& (2147483647 : Int32)) / (20 : Int32)) * (20 : Int32)) < (20 : Int32) := by
  have h1 : (x &&& 2147483647).toInt = x.toInt % 2147483648 := c_mask x 2147483647 31 (by decide) (by decide)
  have h2 := (c_irem (x &&& 2147483647) 20 20 (by decide)).1 (by omega)
  have e0 : (0 : Int32).toInt = 0 := by decide
  have en : (20 : Int32).toInt = 20 := by decide
  rw [irem_eq_mod, Int32.lt_iff_toInt_lt, Int32.lt_iff_toInt_lt, e0, en]
  omega
theorem d1_0 : decode method_2_code 0 = .ok (.iload_n 0, 1) := by decide +kernel
theorem d1_1 : decode method_2_code 1 = .ok (.ldc 7, 2) := by decide +kernel
theorem d1_3 : decode method_2_code 3 = .ok (.iand, 1) := by decide +kernel
theorem d1_4 : decode method_2_code 4 = .ok (.bipush 20, 2) := by decide +kernel
theorem d1_6 : decode method_2_code 6 = .ok (.irem, 1) := by decide +kernel
theorem d1_7 : decode method_2_code 7 = .ok (.ireturn, 1) := by decide +kernel
theorem pn_1 : plainName "com/example/cardhost/cardhost/LogicalChannelsResetPinLaw" = true := by first | (simp [plainName, overriddenIn]; done) | decide +kernel
theorem ef_1 (m : MethodId) (x0 : Int32) : entryFrame m #[(.int x0)] 1 = mkF m 0 #[.val (.int x0)] [] := by first | (simp [entryFrame, mkF, argsToLocals, Value.category]; done) | rfl
def f1 (p0 : Int32) : Int32 :=
  ((p0 &&& (2147483647 : Int32)) - ((p0 &&& (2147483647 : Int32)) / (20 : Int32)) * (20 : Int32))
def Q1 (Z : State) (p0 : Int32) (h0 : Heap) (n0 : Nat) (v : Option Value) (h : Heap) (L : List Loc) : Prop := v = some (.int (f1 p0)) ∧ Fr n0 L ∧ h = h0
set_option maxRecDepth 65536 in
set_option maxHeartbeats 40000000 in
theorem rm1 (l : Launch) (Z : State) (a0 : Array Value) (hw : ∀ d ∈ tables_1, d.before a0 Z = true) (ws : List Jvm.Cond) (p0 : Int32) (h0 : Heap) (n0 : Nat) (Z0 : n0 ≤ h0.size) :
    MetFree l (⟨"com/example/cardhost/cardhost/LogicalChannelsResetPinLaw", "channelOf", "(I)I"⟩ : MethodName) (head1 (Jvm.Cond.code (⟨"com/example/cardhost/cardhost/LogicalChannelsResetPinLaw", "channelOf", "(I)I"⟩ : MethodName) method_2_code 1 (some .int) :: ws) ({ frames := 0, cells := 0, slots := 0, locals := 0 } : Room)) (fun a U => a = #[(.int p0)] ∧ Z.Warmed39 U.vm ∧ U.heap = h0) (fun _ _ _ _ _ => True) (fun _ U o U' => ∃ v L, o = .returned v ∧ Q1 Z p0 h0 n0 v U'.heap L ∧ FrameEnd U o U' L ({ frames := 0, cells := 0, slots := 0, locals := 0 } : Room).cells ({ frames := 0, cells := 0, slots := 0, locals := 0 } : Room).slots) := by
  refine MetFree.of_bodySF (plainFor_of_name pn_1) hisR ?_
  intro p e s m args below meth c s₁ Bd hml0 hP hK
  obtain ⟨rfl, hZ, hh⟩ := hP
  have hx := Bd.exec
  have hby := Bd.bytes
  have hml : c.maxLocals = 1 := hml0
  have hown : s.vm.findClass "com/example/cardhost/cardhost/LogicalChannelsResetPinLaw" = some m.cls := findClass_of_methodNamed Bd.named
  have hnm := (name_of_methodNamed Bd.named Bd.method).1
  have X0 : Stand p l e ({ frames := 0, cells := 0, slots := 0, locals := 0 } : Room) s m #[(.int p0)] below meth c s₁ [] 0 0 := Stand.of_body Bd
  have e0 : s₁.heap = h0 := by rw [← hh, Bd.state]; rfl
  have N0 := Fr.nil n0
  have pre0 : ∀ t, Steps p.tables e below (s₁.setTop (mkF m 0 #[.val (.int p0)] [])) t → Steps p.tables e below (s₁.setTop (entryFrame m #[(.int p0)] 1)) t := fun t k => castTop (ef_1 m p0) k
  obtain ⟨fs, hr, hrun, hended, hW, hsame⟩ := X0.leave (v := some (.int ((p0 &&& (2147483647 : Int32)) - ((p0 &&& (2147483647 : Int32)) / (20 : Int32)) * (20 : Int32)))) (fun h => by rw [Bd.returns] at h; cases h)
  have hv1 : (f1 p0) = ((p0 &&& (2147483647 : Int32)) - ((p0 &&& (2147483647 : Int32)) / (20 : Int32)) * (20 : Int32)) := rfl
  refine ⟨_, _, pre0 _ ?_, hrun, hended, _, _, rfl, ?_, ⟨_, rfl⟩, hW, hsame.mono (by decide) (by decide)⟩
  · show Steps p.tables e below (s₁.setTop (mkF m 0 #[.val (.int p0)] [])) _
    refine XS.iloadN X0.here hx rfl (hb hby d1_0) rfl ?_
    show Steps p.tables e below (s₁.setTop (mkF m 1 #[.val (.int p0)] [(.int p0)])) _
    refine X0.ldcInt hx hown (mvT hZ (hw _ (List.mem_of_getElem? (i := 4) rfl))) (g := (mkF m 1 #[.val (.int p0)] [(.int p0)])) rfl (hb hby d1_1) _ ?_
    show Steps p.tables e below (s₁.setTop (mkF m 3 #[.val (.int p0)] [(.int (2147483647 : Int32)), (.int p0)])) _
    refine XS.iand X0.here hx rfl (hb hby d1_3) rfl ?_
    show Steps p.tables e below (s₁.setTop (mkF m 4 #[.val (.int p0)] [(.int (p0 &&& (2147483647 : Int32)))])) _
    refine XS.bipush X0.here hx rfl (hb hby d1_4) ?_
    show Steps p.tables e below (s₁.setTop (mkF m 6 #[.val (.int p0)] [(.int (20 : Int32)), (.int (p0 &&& (2147483647 : Int32)))])) _
    refine XS.irem X0.here hx rfl (hb hby d1_6) rfl (by decide) ?_
    show Steps p.tables e below (s₁.setTop (mkF m 7 #[.val (.int p0)] [(.int ((p0 &&& (2147483647 : Int32)) - ((p0 &&& (2147483647 : Int32)) / (20 : Int32)) * (20 : Int32)))])) _
    exact retI X0 hx Bd.returns (hb hby d1_7) hr
  · show Q1 Z p0 h0 n0 _ s₁.heap _
    rw [e0]
    exact ⟨congrArg (fun q => some (Value.int q)) hv1.symm, N0, rfl⟩
theorem d2_0 : decode prog_4_method_1_code 0 = .ok (.aload_n 0, 1) := by decide +kernel
theorem d2_1 : decode prog_4_method_1_code 1 = .ok (.invokespecial 1, 3) := by decide +kernel
theorem d2_4 : decode prog_4_method_1_code 4 = .ok (.aload_n 0, 1) := by decide +kernel
theorem d2_5 : decode prog_4_method_1_code 5 = .ok (.bipush 20, 2) := by decide +kernel
theorem d2_7 : decode prog_4_method_1_code 7 = .ok (.newarray .boolean, 2) := by decide +kernel
theorem d2_9 : decode prog_4_method_1_code 9 = .ok (.putfield 9, 3) := by decide +kernel
theorem d2_12 : decode prog_4_method_1_code 12 = .ok (.aload_n 0, 1) := by decide +kernel
theorem d2_13 : decode prog_4_method_1_code 13 = .ok (.bipush 20, 2) := by decide +kernel
theorem d2_15 : decode prog_4_method_1_code 15 = .ok (.anewarray 13, 3) := by decide +kernel
theorem d2_18 : decode prog_4_method_1_code 18 = .ok (.putfield 15, 3) := by decide +kernel
theorem d2_21 : decode prog_4_method_1_code 21 = .ok (.aload_n 0, 1) := by decide +kernel
theorem d2_22 : decode prog_4_method_1_code 22 = .ok (.bipush 20, 2) := by decide +kernel
theorem d2_24 : decode prog_4_method_1_code 24 = .ok (.anewarray 13, 3) := by decide +kernel
theorem d2_27 : decode prog_4_method_1_code 27 = .ok (.putfield 19, 3) := by decide +kernel
theorem d2_30 : decode prog_4_method_1_code 30 = .ok (.aload_n 0, 1) := by decide +kernel
theorem d2_31 : decode prog_4_method_1_code 31 = .ok (.getfield 9, 3) := by decide +kernel
theorem d2_34 : decode prog_4_method_1_code 34 = .ok (.iconst 0, 1) := by decide +kernel
theorem d2_35 : decode prog_4_method_1_code 35 = .ok (.iconst 1, 1) := by decide +kernel
theorem d2_36 : decode prog_4_method_1_code 36 = .ok (.bastore, 1) := by decide +kernel
theorem d2_37 : decode prog_4_method_1_code 37 = .ok (.return_, 1) := by decide +kernel
theorem pn_2 : plainName "com/example/cardhost/cardhost/LogicalChannels" = true := by first | (simp [plainName, overriddenIn]; done) | decide +kernel
theorem ef_2 (m : MethodId) (x0 : Addr) : entryFrame m #[(.ref x0)] 1 = mkF m 0 #[.val (.ref x0)] [] := by first | (simp [entryFrame, mkF, argsToLocals, Value.category]; done) | rfl
def Q2 (Z : State) (o0 : Addr) (h0 : Heap) (n0 : Nat) (v : Option Value) (h : Heap) (L : List Loc) : Prop := ∃ r_o0_open : Addr, ∃ r_o0_active : Addr, ∃ r_o0_defaults : Addr, v = none ∧ Fr n0 L ∧ Keep h0 h [o0] ∧ n0 ≤ r_o0_open ∧ h0.size ≤ r_o0_open ∧ n0 ≤ r_o0_active ∧ h0.size ≤ r_o0_active ∧ r_o0_open ≠ r_o0_active ∧ n0 ≤ r_o0_defaults ∧ h0.size ≤ r_o0_defaults ∧ r_o0_open ≠ r_o0_defaults ∧ r_o0_active ≠ r_o0_defaults ∧ Fld Z h o0 "com/example/cardhost/cardhost/LogicalChannels" "open" "[Z" (.ref r_o0_open) ∧ own_AI Z h r_o0_open .boolean (20 : Int32) (own_upd (fun _ => 0) 0 (1 : Int32)) ∧ Fld Z h o0 "com/example/cardhost/cardhost/LogicalChannels" "active" "[Lcom/example/cardhost/cardhost/InstalledApplet;" (.ref r_o0_active) ∧ own_AL Z h r_o0_active (.object "com/example/cardhost/cardhost/InstalledApplet") (20 : Int32) ∧ Fld Z h o0 "com/example/cardhost/cardhost/LogicalChannels" "defaults" "[Lcom/example/cardhost/cardhost/InstalledApplet;" (.ref r_o0_defaults) ∧ own_AL Z h r_o0_defaults (.object "com/example/cardhost/cardhost/InstalledApplet") (20 : Int32)
set_option maxRecDepth 65536 in
set_option maxHeartbeats 40000000 in
theorem rm2 (l : Launch) (Z : State) (a0 : Array Value) (hw : ∀ d ∈ tables_1, d.before a0 Z = true) (ws : List Jvm.Cond) (o0 : Addr) (h0 : Heap) (n0 : Nat) (Z0 : n0 ≤ h0.size) (E_o0 : Exa Z h0 o0 "com/example/cardhost/cardhost/LogicalChannels") (F_open_o0 : Fld Z h0 o0 "com/example/cardhost/cardhost/LogicalChannels" "open" "[Z" .null) (g_o0 : n0 ≤ o0) (F_active_o0 : Fld Z h0 o0 "com/example/cardhost/cardhost/LogicalChannels" "active" "[Lcom/example/cardhost/cardhost/InstalledApplet;" .null) (F_defaults_o0 : Fld Z h0 o0 "com/example/cardhost/cardhost/LogicalChannels" "defaults" "[Lcom/example/cardhost/cardhost/InstalledApplet;" .null) :
    MetFree l (⟨"com/example/cardhost/cardhost/LogicalChannels", "<init>", "()V"⟩ : MethodName) (head1 (Jvm.Cond.code (⟨"com/example/cardhost/cardhost/LogicalChannels", "<init>", "()V"⟩ : MethodName) prog_4_method_1_code 1 none :: ws) ({ frames := 1, cells := 3, slots := 60, locals := 12 } : Room)) (fun a U => a = #[(.ref o0)] ∧ Z.Warmed39 U.vm ∧ U.heap = h0) (fun _ _ _ _ _ => True) (fun _ U o U' => ∃ v L, o = .returned v ∧ Q2 Z o0 h0 n0 v U'.heap L ∧ FrameEnd U o U' L ({ frames := 1, cells := 3, slots := 60, locals := 12 } : Room).cells ({ frames := 1, cells := 3, slots := 60, locals := 12 } : Room).slots) := by
  refine MetFree.of_bodySF (plainFor_of_name pn_2) hisR ?_
  intro p e s m args below meth c s₁ Bd hml0 hP hK
  obtain ⟨rfl, hZ, hh⟩ := hP
  have hx := Bd.exec
  have hby := Bd.bytes
  have hml : c.maxLocals = 1 := hml0
  have hown : s.vm.findClass "com/example/cardhost/cardhost/LogicalChannels" = some m.cls := findClass_of_methodNamed Bd.named
  have hnm := (name_of_methodNamed Bd.named Bd.method).1
  have X0 : Stand p l e ({ frames := 1, cells := 3, slots := 60, locals := 12 } : Room) s m #[(.ref o0)] below meth c s₁ [] 0 0 := Stand.of_body Bd
  have e0 : s₁.heap = h0 := by rw [← hh, Bd.state]; rfl
  have N0 := Fr.nil n0
  have pre0 : ∀ t, Steps p.tables e below (s₁.setTop (mkF m 0 #[.val (.ref o0)] [])) t → Steps p.tables e below (s₁.setTop (entryFrame m #[(.ref o0)] 1)) t := fun t k => castTop (ef_2 m o0) k
  obtain ⟨T1, X1, e1, st1⟩ := initO X0 hx hZ hown (hw _ (List.mem_of_getElem? (i := 11) rfl)) (hw _ (List.mem_of_getElem? (i := 12) rfl)) (hw _ (List.mem_of_getElem? (i := 13) rfl)) e0 (g := (mkF m 1 #[.val (.ref o0)] [(.ref o0)])) rfl (by rw [hml]; rfl) rfl (hb hby d2_1) (by decide) (W := 0) (by show 2 * 0 + _ ≤ _; exact Nat.le_of_eq rfl) (by decide)
  obtain ⟨T2, h2, k2, X2, e2, E2, A2, st2⟩ := newP X1 hx hZ (hw _ (List.mem_of_getElem? (i := 14) rfl)) e1 (g := (mkF m 7 #[.val (.ref o0)] [(.int (20 : Int32)), (.ref o0)])) rfl (hb hby d2_7) rfl (by decide) (cap := 20) (by decide) (by decide) (by decide) (by decide)
  obtain ⟨b2, g2⟩ : ∃ z, z = h0.size := ⟨_, rfl⟩
  rw [← g2] at A2 st2
  have g_b2 : n0 ≤ b2 := Nat.le_trans Z0 (Nat.le_of_eq g2.symm)
  have sz_b2 : h0.size ≤ b2 := Nat.le_trans (Keep.refl h0 [o0]).1 (Nat.le_of_eq g2.symm)
  have ne_o0_b2 : o0 ≠ b2 := Nat.ne_of_lt (Nat.lt_of_lt_of_le E_o0.lt (Nat.le_of_eq g2.symm))
  have K3 : Keep h0 h2 [o0] := (Keep.refl h0 [o0]).ext E2
  have Z4 : n0 ≤ h2.size := Nat.le_trans Z0 K3.1
  have V_b2 : own_AI Z h2 b2 .boolean (20 : Int32) (fun _ => 0) := own_AI.new A2 (by decide) rfl
  obtain ⟨T5, h5, X5, e5, W5, st5⟩ := putF X2 hx hZ hown (host := "") (Or.inl (hw _ (List.mem_of_getElem? (i := 15) rfl))) Via.refl e2 (F_open_o0.ext E2) (E_o0.ext E2) (Or.inr ⟨(hw _ (List.mem_of_getElem? (i := 16) rfl)), rfl, hnm⟩) (hw _ (List.mem_of_getElem? (i := 6) rfl)) (ty := (.array .boolean)) (by decide) rfl rfl (g := (mkF m 9 #[.val (.ref o0)] [(.ref b2), (.ref o0)])) rfl rfl (hb hby d2_9)
  have Fw5 := (F_open_o0.ext E2).same W5
  have K6 : Keep h0 h5 [o0] := K3.wr W5 (Or.inl (List.mem_of_getElem? (i := 0) rfl))
  have Z7 : n0 ≤ h5.size := Nat.le_trans Z0 K6.1
  have N5 := Fr.snoc X5 N0 g_o0
  obtain ⟨LS5, X5, N5⟩ : ∃ L, Stand p l e ({ frames := 1, cells := 3, slots := 60, locals := 12 } : Room) s m #[(.ref o0)] below meth c T5 L 1 20 ∧ Fr n0 L := ⟨_, X5, N5⟩
  obtain ⟨T8, h8, k8, X8, e8, E8, A8, O8, st8⟩ := newR X5 hx hZ hown (hw _ (List.mem_of_getElem? (i := 17) rfl)) (hw _ (List.mem_of_getElem? (i := 18) rfl)) e5 (g := (mkF m 15 #[.val (.ref o0)] [(.int (20 : Int32)), (.ref o0)])) rfl (hb hby d2_15) rfl (by decide) (cap := 20) (by decide) (by decide) (by decide) (by decide)
  obtain ⟨b8, g8⟩ : ∃ z, z = h5.size := ⟨_, rfl⟩
  rw [← g8] at A8 st8
  have g_b8 : n0 ≤ b8 := Nat.le_trans Z7 (Nat.le_of_eq g8.symm)
  have sz_b8 : h0.size ≤ b8 := Nat.le_trans K6.1 (Nat.le_of_eq g8.symm)
  have ne_o0_b8 : o0 ≠ b8 := Nat.ne_of_lt (Nat.lt_of_lt_of_le ((E_o0.ext E2).wr W5).lt (Nat.le_of_eq g8.symm))
  have ne_b2_b8 : b2 ≠ b8 := Nat.ne_of_lt (Nat.lt_of_lt_of_le (V_b2.other W5 (Ne.symm ne_o0_b2)).lt (Nat.le_of_eq g8.symm))
  have K9 : Keep h0 h8 [o0] := K6.ext E8
  have Z10 : n0 ≤ h8.size := Nat.le_trans Z0 K9.1
  have V_b8 : own_AL Z h8 b8 (.object "com/example/cardhost/cardhost/InstalledApplet") (20 : Int32) := own_AL.new A8 (by decide)
  have c11 := (((F_active_o0.ext E2).other W5 (Or.inr (slot_ne (Or.inr (hw _ (List.mem_of_getElem? (i := 20) rfl))) (Or.inr (hw _ (List.mem_of_getElem? (i := 16) rfl))) (by decide) (t := (.array (.object "com/example/cardhost/cardhost/InstalledApplet"))) (t' := (.array .boolean)) (by decide) (by decide)))).ext E8)
  obtain ⟨T12, h12, X12, e12, W12, st12⟩ := putF X8 hx hZ hown (host := "") (Or.inl (hw _ (List.mem_of_getElem? (i := 19) rfl))) Via.refl e8 c11 (((E_o0.ext E2).wr W5).ext E8) (Or.inr ⟨(hw _ (List.mem_of_getElem? (i := 20) rfl)), rfl, hnm⟩) (hw _ (List.mem_of_getElem? (i := 6) rfl)) (ty := (.array (.object "com/example/cardhost/cardhost/InstalledApplet"))) (by decide) rfl rfl (g := (mkF m 18 #[.val (.ref o0)] [(.ref b8), (.ref o0)])) rfl rfl (hb hby d2_18)
  have Fw12 := c11.same W12
  have K13 : Keep h0 h12 [o0] := K9.wr W12 (Or.inl (List.mem_of_getElem? (i := 0) rfl))
  have Z14 : n0 ≤ h12.size := Nat.le_trans Z0 K13.1
  have N12 := Fr.snoc X12 N5 g_o0
  obtain ⟨LS12, X12, N12⟩ : ∃ L, Stand p l e ({ frames := 1, cells := 3, slots := 60, locals := 12 } : Room) s m #[(.ref o0)] below meth c T12 L 2 40 ∧ Fr n0 L := ⟨_, X12, N12⟩
  obtain ⟨T15, h15, k15, X15, e15, E15, A15, O15, st15⟩ := newR X12 hx hZ hown (hw _ (List.mem_of_getElem? (i := 17) rfl)) (hw _ (List.mem_of_getElem? (i := 18) rfl)) e12 (g := (mkF m 24 #[.val (.ref o0)] [(.int (20 : Int32)), (.ref o0)])) rfl (hb hby d2_24) rfl (by decide) (cap := 20) (by decide) (by decide) (by decide) (by decide)
  obtain ⟨b15, g15⟩ : ∃ z, z = h12.size := ⟨_, rfl⟩
  rw [← g15] at A15 st15
  have g_b15 : n0 ≤ b15 := Nat.le_trans Z14 (Nat.le_of_eq g15.symm)
  have sz_b15 : h0.size ≤ b15 := Nat.le_trans K13.1 (Nat.le_of_eq g15.symm)
  have ne_o0_b15 : o0 ≠ b15 := Nat.ne_of_lt (Nat.lt_of_lt_of_le ((((E_o0.ext E2).wr W5).ext E8).wr W12).lt (Nat.le_of_eq g15.symm))
  have c16 := (((V_b2.other W5 (Ne.symm ne_o0_b2)).ext E8).other W12 (Ne.symm ne_o0_b2))
  have ne_b2_b15 : b2 ≠ b15 := Nat.ne_of_lt (Nat.lt_of_lt_of_le c16.lt (Nat.le_of_eq g15.symm))
  have ne_b8_b15 : b8 ≠ b15 := Nat.ne_of_lt (Nat.lt_of_lt_of_le (V_b8.other W12 (Ne.symm ne_o0_b8)).lt (Nat.le_of_eq g15.symm))
  have K17 : Keep h0 h15 [o0] := K13.ext E15
  have Z18 : n0 ≤ h15.size := Nat.le_trans Z0 K17.1
  have V_b15 : own_AL Z h15 b15 (.object "com/example/cardhost/cardhost/InstalledApplet") (20 : Int32) := own_AL.new A15 (by decide)
  have c19 := (((((F_defaults_o0.ext E2).other W5 (Or.inr (slot_ne (Or.inr (hw _ (List.mem_of_getElem? (i := 22) rfl))) (Or.inr (hw _ (List.mem_of_getElem? (i := 16) rfl))) (by decide) (t := (.array (.object "com/example/cardhost/cardhost/InstalledApplet"))) (t' := (.array .boolean)) (by decide) (by decide)))).ext E8).other W12 (Or.inr (slot_ne (Or.inr (hw _ (List.mem_of_getElem? (i := 22) rfl))) (Or.inr (hw _ (List.mem_of_getElem? (i := 20) rfl))) (by decide) (t := (.array (.object "com/example/cardhost/cardhost/InstalledApplet"))) (t' := (.array (.object "com/example/cardhost/cardhost/InstalledApplet"))) (by decide) (by decide)))).ext E15)
  obtain ⟨T20, h20, X20, e20, W20, st20⟩ := putF X15 hx hZ hown (host := "") (Or.inl (hw _ (List.mem_of_getElem? (i := 21) rfl))) Via.refl e15 c19 (((((E_o0.ext E2).wr W5).ext E8).wr W12).ext E15) (Or.inr ⟨(hw _ (List.mem_of_getElem? (i := 22) rfl)), rfl, hnm⟩) (hw _ (List.mem_of_getElem? (i := 6) rfl)) (ty := (.array (.object "com/example/cardhost/cardhost/InstalledApplet"))) (by decide) rfl rfl (g := (mkF m 27 #[.val (.ref o0)] [(.ref b15), (.ref o0)])) rfl rfl (hb hby d2_27)
  have Fw20 := c19.same W20
  have K21 : Keep h0 h20 [o0] := K17.wr W20 (Or.inl (List.mem_of_getElem? (i := 0) rfl))
  have Z22 : n0 ≤ h20.size := Nat.le_trans Z0 K21.1
  have N20 := Fr.snoc X20 N12 g_o0
  obtain ⟨LS20, X20, N20⟩ : ∃ L, Stand p l e ({ frames := 1, cells := 3, slots := 60, locals := 12 } : Room) s m #[(.ref o0)] below meth c T20 L 3 60 ∧ Fr n0 L := ⟨_, X20, N20⟩
  have c23 := ((((Fw5.ext E8).other W12 (Or.inr (slot_ne (Or.inr (hw _ (List.mem_of_getElem? (i := 16) rfl))) (Or.inr (hw _ (List.mem_of_getElem? (i := 20) rfl))) (by decide) (t := (.array .boolean)) (t' := (.array (.object "com/example/cardhost/cardhost/InstalledApplet"))) (by decide) (by decide)))).ext E15).other W20 (Or.inr (slot_ne (Or.inr (hw _ (List.mem_of_getElem? (i := 16) rfl))) (Or.inr (hw _ (List.mem_of_getElem? (i := 22) rfl))) (by decide) (t := (.array .boolean)) (t' := (.array (.object "com/example/cardhost/cardhost/InstalledApplet"))) (by decide) (by decide))))
  obtain ⟨T24, X24, e24, st24⟩ := getF X20 hx hZ hown (host := "") (Or.inl (hw _ (List.mem_of_getElem? (i := 15) rfl))) Via.refl e20 c23 (g := (mkF m 31 #[.val (.ref o0)] [(.ref o0)])) rfl rfl (hb hby d2_31)
  obtain ⟨cl25, Ar25, Sz25, Nn25, Hs25⟩ := id ((c16.ext E15).other W20 (Ne.symm ne_o0_b2))
  have hin25 : ¬ ((0 : Int32) < 0 ∨ cl25.slots.size ≤ ((0 : Int32)).toNatClampNeg) := inb_of Sz25 ⟨by decide, by decide⟩
  obtain ⟨T26, h26, X26, e26, W26, st26⟩ := stZ X24 hx hZ e24 Ar25 (j := (0 : Int32)) hin25 (g := (mkF m 36 #[.val (.ref o0)] [(.int (1 : Int32)), (.int (0 : Int32)), (.ref b2)])) rfl rfl (hb hby d2_36)
  have V26 : own_AI Z h26 b2 .boolean (20 : Int32) (own_upd (fun _ => 0) 0 (1 : Int32)) := own_AI.set ((c16.ext E15).other W20 (Ne.symm ne_o0_b2)) (fits_nar_bool (1 : Int32)) W26
  have K27 : Keep h0 h26 [o0] := K21.wr W26 (Or.inr sz_b2)
  have Z28 : n0 ≤ h26.size := Nat.le_trans Z0 K27.1
  have N26 := Fr.snoc X26 N20 g_b2
  obtain ⟨LS26, X26, N26⟩ : ∃ L, Stand p l e ({ frames := 1, cells := 3, slots := 60, locals := 12 } : Room) s m #[(.ref o0)] below meth c T26 L 3 60 ∧ Fr n0 L := ⟨_, X26, N26⟩
  obtain ⟨fs, hr, hrun, hended, hW, hsame⟩ := X26.leave (v := none) (fun _ => rfl)
  have c29 := (((Fw12.ext E15).other W20 (Or.inr (slot_ne (Or.inr (hw _ (List.mem_of_getElem? (i := 20) rfl))) (Or.inr (hw _ (List.mem_of_getElem? (i := 22) rfl))) (by decide) (t := (.array (.object "com/example/cardhost/cardhost/InstalledApplet"))) (t' := (.array (.object "com/example/cardhost/cardhost/InstalledApplet"))) (by decide) (by decide)))).other W26 (Or.inl ne_o0_b2))
  have c30 := ((((V_b8.other W12 (Ne.symm ne_o0_b8)).ext E15).other W20 (Ne.symm ne_o0_b8)).other W26 (Ne.symm ne_b2_b8))
  have c31 := ((V_b15.other W20 (Ne.symm ne_o0_b15)).other W26 (Ne.symm ne_b2_b15))
  refine ⟨_, _, pre0 _ ?_, hrun, hended, _, _, rfl, ?_, ⟨_, rfl⟩, hW, hsame.mono (by decide) (by decide)⟩
  · show Steps p.tables e below (s₁.setTop (mkF m 0 #[.val (.ref o0)] [])) _
    refine XS.aloadN X0.here hx rfl (hb hby d2_0) rfl rfl ?_
    show Steps p.tables e below (s₁.setTop (mkF m 1 #[.val (.ref o0)] [(.ref o0)])) _
    refine st1 _ ?_
    show Steps p.tables e below (T1.setTop (mkF m 4 #[.val (.ref o0)] [])) _
    refine XS.aloadN X1.here hx rfl (hb hby d2_4) rfl rfl ?_
    show Steps p.tables e below (T1.setTop (mkF m 5 #[.val (.ref o0)] [(.ref o0)])) _
    refine XS.bipush X1.here hx rfl (hb hby d2_5) ?_
    show Steps p.tables e below (T1.setTop (mkF m 7 #[.val (.ref o0)] [(.int (20 : Int32)), (.ref o0)])) _
    refine st2 _ ?_
    show Steps p.tables e below (T2.setTop (mkF m 9 #[.val (.ref o0)] [(.ref b2), (.ref o0)])) _
    refine st5 _ ?_
    show Steps p.tables e below (T5.setTop (mkF m 12 #[.val (.ref o0)] [])) _
    refine XS.aloadN X5.here hx rfl (hb hby d2_12) rfl rfl ?_
    show Steps p.tables e below (T5.setTop (mkF m 13 #[.val (.ref o0)] [(.ref o0)])) _
    refine XS.bipush X5.here hx rfl (hb hby d2_13) ?_
    show Steps p.tables e below (T5.setTop (mkF m 15 #[.val (.ref o0)] [(.int (20 : Int32)), (.ref o0)])) _
    refine st8 _ ?_
    show Steps p.tables e below (T8.setTop (mkF m 18 #[.val (.ref o0)] [(.ref b8), (.ref o0)])) _
    refine st12 _ ?_
    show Steps p.tables e below (T12.setTop (mkF m 21 #[.val (.ref o0)] [])) _
    refine XS.aloadN X12.here hx rfl (hb hby d2_21) rfl rfl ?_
    show Steps p.tables e below (T12.setTop (mkF m 22 #[.val (.ref o0)] [(.ref o0)])) _
    refine XS.bipush X12.here hx rfl (hb hby d2_22) ?_
    show Steps p.tables e below (T12.setTop (mkF m 24 #[.val (.ref o0)] [(.int (20 : Int32)), (.ref o0)])) _
    refine st15 _ ?_
    show Steps p.tables e below (T15.setTop (mkF m 27 #[.val (.ref o0)] [(.ref b15), (.ref o0)])) _
    refine st20 _ ?_
    show Steps p.tables e below (T20.setTop (mkF m 30 #[.val (.ref o0)] [])) _
    refine XS.aloadN X20.here hx rfl (hb hby d2_30) rfl rfl ?_
    show Steps p.tables e below (T20.setTop (mkF m 31 #[.val (.ref o0)] [(.ref o0)])) _
    refine st24 _ ?_
    show Steps p.tables e below (T24.setTop (mkF m 34 #[.val (.ref o0)] [(.ref b2)])) _
    refine XS.iconst X24.here hx rfl (hb hby d2_34) ?_
    show Steps p.tables e below (T24.setTop (mkF m 35 #[.val (.ref o0)] [(.int (0 : Int32)), (.ref b2)])) _
    refine XS.iconst X24.here hx rfl (hb hby d2_35) ?_
    show Steps p.tables e below (T24.setTop (mkF m 36 #[.val (.ref o0)] [(.int (1 : Int32)), (.int (0 : Int32)), (.ref b2)])) _
    refine st26 _ ?_
    show Steps p.tables e below (T26.setTop (mkF m 37 #[.val (.ref o0)] [])) _
    exact X26.returnOut hx Bd.returns (hb hby d2_37) hr
  · show Q2 Z o0 h0 n0 _ T26.heap _
    rw [e26]
    exact ⟨b2, b8, b15, rfl, N26, K27, g_b2, sz_b2, g_b8, sz_b8, ne_b2_b8, g_b15, sz_b15, ne_b2_b15, ne_b8_b15, (c23.other W26 (Or.inl ne_o0_b2)), V26, c29, c30, (Fw20.other W26 (Or.inl ne_o0_b2)), c31⟩
theorem d4_0 : decode prog_4_method_4_code 0 = .ok (.aload_n 0, 1) := by decide +kernel
theorem d4_1 : decode prog_4_method_4_code 1 = .ok (.getfield 9, 3) := by decide +kernel
theorem d4_4 : decode prog_4_method_4_code 4 = .ok (.iload_n 1, 1) := by decide +kernel
theorem d4_5 : decode prog_4_method_4_code 5 = .ok (.iconst 1, 1) := by decide +kernel
theorem d4_6 : decode prog_4_method_4_code 6 = .ok (.bastore, 1) := by decide +kernel
theorem d4_7 : decode prog_4_method_4_code 7 = .ok (.return_, 1) := by decide +kernel
theorem pn_4 : plainName "com/example/cardhost/cardhost/LogicalChannels" = true := by first | (simp [plainName, overriddenIn]; done) | decide +kernel
theorem ef_4 (m : MethodId) (x0 : Addr) (x1 : Int32) : entryFrame m #[(.ref x0), (.int x1)] 2 = mkF m 0 #[.val (.ref x0), .val (.int x1)] [] := by first | (simp [entryFrame, mkF, argsToLocals, Value.category]; done) | rfl
def Q4 (Z : State) (o0 : Addr) (p1 : Int32) (r1 : Addr) (F1 : Nat → Int32) (h0 : Heap) (n0 : Nat) (v : Option Value) (h : Heap) (L : List Loc) : Prop := v = none ∧ Fr n0 L ∧ Keep h0 h [r1] ∧ own_AI Z h r1 .boolean (20 : Int32) (own_upd F1 (p1).toNatClampNeg (1 : Int32))
set_option maxRecDepth 65536 in
set_option maxHeartbeats 40000000 in
theorem rm4 (l : Launch) (Z : State) (a0 : Array Value) (hw : ∀ d ∈ tables_1, d.before a0 Z = true) (ws : List Jvm.Cond) (o0 : Addr) (p1 : Int32) (r1 : Addr) (F1 : Nat → Int32) (h0 : Heap) (n0 : Nat) (Z0 : n0 ≤ h0.size) (F_open_o0 : Fld Z h0 o0 "com/example/cardhost/cardhost/LogicalChannels" "open" "[Z" (.ref r1)) (V_r1 : own_AI Z h0 r1 .boolean (20 : Int32) F1) (g_r1 : n0 ≤ r1) (hbd : ¬ p1 < 0 ∧ p1 < (20 : Int32)) :
    MetFree l (⟨"com/example/cardhost/cardhost/LogicalChannels", "open", "(I)V"⟩ : MethodName) (head1 (Jvm.Cond.code (⟨"com/example/cardhost/cardhost/LogicalChannels", "open", "(I)V"⟩ : MethodName) prog_4_method_4_code 2 none :: ws) ({ frames := 0, cells := 0, slots := 0, locals := 0 } : Room)) (fun a U => a = #[(.ref o0), (.int p1)] ∧ Z.Warmed39 U.vm ∧ U.heap = h0) (fun _ _ _ _ _ => True) (fun _ U o U' => ∃ v L, o = .returned v ∧ Q4 Z o0 p1 r1 F1 h0 n0 v U'.heap L ∧ FrameEnd U o U' L ({ frames := 0, cells := 0, slots := 0, locals := 0 } : Room).cells ({ frames := 0, cells := 0, slots := 0, locals := 0 } : Room).slots) := by
  refine MetFree.of_bodySF (plainFor_of_name pn_4) hisR ?_
  intro p e s m args below meth c s₁ Bd hml0 hP hK
  obtain ⟨rfl, hZ, hh⟩ := hP
  have hx := Bd.exec
  have hby := Bd.bytes
  have hml : c.maxLocals = 2 := hml0
  have hown : s.vm.findClass "com/example/cardhost/cardhost/LogicalChannels" = some m.cls := findClass_of_methodNamed Bd.named
  have hnm := (name_of_methodNamed Bd.named Bd.method).1
  have X0 : Stand p l e ({ frames := 0, cells := 0, slots := 0, locals := 0 } : Room) s m #[(.ref o0), (.int p1)] below meth c s₁ [] 0 0 := Stand.of_body Bd
  have e0 : s₁.heap = h0 := by rw [← hh, Bd.state]; rfl
  have N0 := Fr.nil n0
  have pre0 : ∀ t, Steps p.tables e below (s₁.setTop (mkF m 0 #[.val (.ref o0), .val (.int p1)] [])) t → Steps p.tables e below (s₁.setTop (entryFrame m #[(.ref o0), (.int p1)] 2)) t := fun t k => castTop (ef_4 m o0 p1) k
  obtain ⟨T1, X1, e1, st1⟩ := getF X0 hx hZ hown (host := "") (Or.inl (hw _ (List.mem_of_getElem? (i := 15) rfl))) Via.refl e0 F_open_o0 (g := (mkF m 1 #[.val (.ref o0), .val (.int p1)] [(.ref o0)])) rfl rfl (hb hby d4_1)
  obtain ⟨cl2, Ar2, Sz2, Nn2, Hs2⟩ := id V_r1
  have hin2 : ¬ (p1 < 0 ∨ cl2.slots.size ≤ (p1).toNatClampNeg) := inb_of Sz2 hbd
  obtain ⟨T3, h3, X3, e3, W3, st3⟩ := stZ X1 hx hZ e1 Ar2 (j := p1) hin2 (g := (mkF m 6 #[.val (.ref o0), .val (.int p1)] [(.int (1 : Int32)), (.int p1), (.ref r1)])) rfl rfl (hb hby d4_6)
  have V3 : own_AI Z h3 r1 .boolean (20 : Int32) (own_upd F1 (p1).toNatClampNeg (1 : Int32)) := own_AI.set V_r1 (fits_nar_bool (1 : Int32)) W3
  have K4 : Keep h0 h3 [r1] := (Keep.refl h0 [r1]).wr W3 (Or.inl (List.mem_of_getElem? (i := 0) rfl))
  have Z5 : n0 ≤ h3.size := Nat.le_trans Z0 K4.1
  have N3 := Fr.snoc X3 N0 g_r1
  obtain ⟨LS3, X3, N3⟩ : ∃ L, Stand p l e ({ frames := 0, cells := 0, slots := 0, locals := 0 } : Room) s m #[(.ref o0), (.int p1)] below meth c T3 L 0 0 ∧ Fr n0 L := ⟨_, X3, N3⟩
  obtain ⟨fs, hr, hrun, hended, hW, hsame⟩ := X3.leave (v := none) (fun _ => rfl)
  refine ⟨_, _, pre0 _ ?_, hrun, hended, _, _, rfl, ?_, ⟨_, rfl⟩, hW, hsame.mono (by decide) (by decide)⟩
  · show Steps p.tables e below (s₁.setTop (mkF m 0 #[.val (.ref o0), .val (.int p1)] [])) _
    refine XS.aloadN X0.here hx rfl (hb hby d4_0) rfl rfl ?_
    show Steps p.tables e below (s₁.setTop (mkF m 1 #[.val (.ref o0), .val (.int p1)] [(.ref o0)])) _
    refine st1 _ ?_
    show Steps p.tables e below (T1.setTop (mkF m 4 #[.val (.ref o0), .val (.int p1)] [(.ref r1)])) _
    refine XS.iloadN X1.here hx rfl (hb hby d4_4) rfl ?_
    show Steps p.tables e below (T1.setTop (mkF m 5 #[.val (.ref o0), .val (.int p1)] [(.int p1), (.ref r1)])) _
    refine XS.iconst X1.here hx rfl (hb hby d4_5) ?_
    show Steps p.tables e below (T1.setTop (mkF m 6 #[.val (.ref o0), .val (.int p1)] [(.int (1 : Int32)), (.int p1), (.ref r1)])) _
    refine st3 _ ?_
    show Steps p.tables e below (T3.setTop (mkF m 7 #[.val (.ref o0), .val (.int p1)] [])) _
    exact X3.returnOut hx Bd.returns (hb hby d4_7) hr
  · show Q4 Z o0 p1 r1 F1 h0 n0 _ T3.heap _
    rw [e3]
    exact ⟨rfl, N3, K4, V3⟩
theorem d5_0 : decode prog_4_method_5_code 0 = .ok (.aload_n 0, 1) := by decide +kernel
theorem d5_1 : decode prog_4_method_5_code 1 = .ok (.getfield 9, 3) := by decide +kernel
theorem d5_4 : decode prog_4_method_5_code 4 = .ok (.iload_n 1, 1) := by decide +kernel
theorem d5_5 : decode prog_4_method_5_code 5 = .ok (.iconst 0, 1) := by decide +kernel
theorem d5_6 : decode prog_4_method_5_code 6 = .ok (.bastore, 1) := by decide +kernel
theorem d5_7 : decode prog_4_method_5_code 7 = .ok (.return_, 1) := by decide +kernel
theorem pn_5 : plainName "com/example/cardhost/cardhost/LogicalChannels" = true := by first | (simp [plainName, overriddenIn]; done) | decide +kernel
theorem ef_5 (m : MethodId) (x0 : Addr) (x1 : Int32) : entryFrame m #[(.ref x0), (.int x1)] 2 = mkF m 0 #[.val (.ref x0), .val (.int x1)] [] := by first | (simp [entryFrame, mkF, argsToLocals, Value.category]; done) | rfl
def Q5 (Z : State) (o0 : Addr) (p1 : Int32) (r1 : Addr) (F1 : Nat → Int32) (h0 : Heap) (n0 : Nat) (v : Option Value) (h : Heap) (L : List Loc) : Prop := v = none ∧ Fr n0 L ∧ Keep h0 h [r1] ∧ own_AI Z h r1 .boolean (20 : Int32) (own_upd F1 (p1).toNatClampNeg (0 : Int32))
set_option maxRecDepth 65536 in
set_option maxHeartbeats 40000000 in
theorem rm5 (l : Launch) (Z : State) (a0 : Array Value) (hw : ∀ d ∈ tables_1, d.before a0 Z = true) (ws : List Jvm.Cond) (o0 : Addr) (p1 : Int32) (r1 : Addr) (F1 : Nat → Int32) (h0 : Heap) (n0 : Nat) (Z0 : n0 ≤ h0.size) (F_open_o0 : Fld Z h0 o0 "com/example/cardhost/cardhost/LogicalChannels" "open" "[Z" (.ref r1)) (V_r1 : own_AI Z h0 r1 .boolean (20 : Int32) F1) (g_r1 : n0 ≤ r1) (hbd : ¬ p1 < 0 ∧ p1 < (20 : Int32)) :
    MetFree l (⟨"com/example/cardhost/cardhost/LogicalChannels", "close", "(I)V"⟩ : MethodName) (head1 (Jvm.Cond.code (⟨"com/example/cardhost/cardhost/LogicalChannels", "close", "(I)V"⟩ : MethodName) prog_4_method_5_code 2 none :: ws) ({ frames := 0, cells := 0, slots := 0, locals := 0 } : Room)) (fun a U => a = #[(.ref o0), (.int p1)] ∧ Z.Warmed39 U.vm ∧ U.heap = h0) (fun _ _ _ _ _ => True) (fun _ U o U' => ∃ v L, o = .returned v ∧ Q5 Z o0 p1 r1 F1 h0 n0 v U'.heap L ∧ FrameEnd U o U' L ({ frames := 0, cells := 0, slots := 0, locals := 0 } : Room).cells ({ frames := 0, cells := 0, slots := 0, locals := 0 } : Room).slots) := by
  refine MetFree.of_bodySF (plainFor_of_name pn_5) hisR ?_
  intro p e s m args below meth c s₁ Bd hml0 hP hK
  obtain ⟨rfl, hZ, hh⟩ := hP
  have hx := Bd.exec
  have hby := Bd.bytes
  have hml : c.maxLocals = 2 := hml0
  have hown : s.vm.findClass "com/example/cardhost/cardhost/LogicalChannels" = some m.cls := findClass_of_methodNamed Bd.named
  have hnm := (name_of_methodNamed Bd.named Bd.method).1
  have X0 : Stand p l e ({ frames := 0, cells := 0, slots := 0, locals := 0 } : Room) s m #[(.ref o0), (.int p1)] below meth c s₁ [] 0 0 := Stand.of_body Bd
  have e0 : s₁.heap = h0 := by rw [← hh, Bd.state]; rfl
  have N0 := Fr.nil n0
  have pre0 : ∀ t, Steps p.tables e below (s₁.setTop (mkF m 0 #[.val (.ref o0), .val (.int p1)] [])) t → Steps p.tables e below (s₁.setTop (entryFrame m #[(.ref o0), (.int p1)] 2)) t := fun t k => castTop (ef_5 m o0 p1) k
  obtain ⟨T1, X1, e1, st1⟩ := getF X0 hx hZ hown (host := "") (Or.inl (hw _ (List.mem_of_getElem? (i := 15) rfl))) Via.refl e0 F_open_o0 (g := (mkF m 1 #[.val (.ref o0), .val (.int p1)] [(.ref o0)])) rfl rfl (hb hby d5_1)
  obtain ⟨cl2, Ar2, Sz2, Nn2, Hs2⟩ := id V_r1
  have hin2 : ¬ (p1 < 0 ∨ cl2.slots.size ≤ (p1).toNatClampNeg) := inb_of Sz2 hbd
  obtain ⟨T3, h3, X3, e3, W3, st3⟩ := stZ X1 hx hZ e1 Ar2 (j := p1) hin2 (g := (mkF m 6 #[.val (.ref o0), .val (.int p1)] [(.int (0 : Int32)), (.int p1), (.ref r1)])) rfl rfl (hb hby d5_6)
  have V3 : own_AI Z h3 r1 .boolean (20 : Int32) (own_upd F1 (p1).toNatClampNeg (0 : Int32)) := own_AI.set V_r1 (fits_nar_bool (0 : Int32)) W3
  have K4 : Keep h0 h3 [r1] := (Keep.refl h0 [r1]).wr W3 (Or.inl (List.mem_of_getElem? (i := 0) rfl))
  have Z5 : n0 ≤ h3.size := Nat.le_trans Z0 K4.1
  have N3 := Fr.snoc X3 N0 g_r1
  obtain ⟨LS3, X3, N3⟩ : ∃ L, Stand p l e ({ frames := 0, cells := 0, slots := 0, locals := 0 } : Room) s m #[(.ref o0), (.int p1)] below meth c T3 L 0 0 ∧ Fr n0 L := ⟨_, X3, N3⟩
  obtain ⟨fs, hr, hrun, hended, hW, hsame⟩ := X3.leave (v := none) (fun _ => rfl)
  refine ⟨_, _, pre0 _ ?_, hrun, hended, _, _, rfl, ?_, ⟨_, rfl⟩, hW, hsame.mono (by decide) (by decide)⟩
  · show Steps p.tables e below (s₁.setTop (mkF m 0 #[.val (.ref o0), .val (.int p1)] [])) _
    refine XS.aloadN X0.here hx rfl (hb hby d5_0) rfl rfl ?_
    show Steps p.tables e below (s₁.setTop (mkF m 1 #[.val (.ref o0), .val (.int p1)] [(.ref o0)])) _
    refine st1 _ ?_
    show Steps p.tables e below (T1.setTop (mkF m 4 #[.val (.ref o0), .val (.int p1)] [(.ref r1)])) _
    refine XS.iloadN X1.here hx rfl (hb hby d5_4) rfl ?_
    show Steps p.tables e below (T1.setTop (mkF m 5 #[.val (.ref o0), .val (.int p1)] [(.int p1), (.ref r1)])) _
    refine XS.iconst X1.here hx rfl (hb hby d5_5) ?_
    show Steps p.tables e below (T1.setTop (mkF m 6 #[.val (.ref o0), .val (.int p1)] [(.int (0 : Int32)), (.int p1), (.ref r1)])) _
    refine st3 _ ?_
    show Steps p.tables e below (T3.setTop (mkF m 7 #[.val (.ref o0), .val (.int p1)] [])) _
    exact X3.returnOut hx Bd.returns (hb hby d5_7) hr
  · show Q5 Z o0 p1 r1 F1 h0 n0 _ T3.heap _
    rw [e3]
    exact ⟨rfl, N3, K4, V3⟩
theorem d6_0 : decode prog_4_method_13_code 0 = .ok (.iconst 0, 1) := by decide +kernel
theorem d6_1 : decode prog_4_method_13_code 1 = .ok (.istore_n 1, 1) := by decide +kernel
theorem d6_2 : decode prog_4_method_13_code 2 = .ok (.iload_n 1, 1) := by decide +kernel
theorem d6_3 : decode prog_4_method_13_code 3 = .ok (.bipush 20, 2) := by decide +kernel
theorem d6_5 : decode prog_4_method_13_code 5 = .ok (.if_icmp .ge 31, 3) := by decide +kernel
theorem d6_8 : decode prog_4_method_13_code 8 = .ok (.aload_n 0, 1) := by decide +kernel
theorem d6_9 : decode prog_4_method_13_code 9 = .ok (.getfield 9, 3) := by decide +kernel
theorem d6_12 : decode prog_4_method_13_code 12 = .ok (.iload_n 1, 1) := by decide +kernel
theorem d6_13 : decode prog_4_method_13_code 13 = .ok (.iload_n 1, 1) := by decide +kernel
theorem d6_14 : decode prog_4_method_13_code 14 = .ok (.ifCond .ne 7, 3) := by decide +kernel
theorem d6_17 : decode prog_4_method_13_code 17 = .ok (.iconst 1, 1) := by decide +kernel
theorem d6_18 : decode prog_4_method_13_code 18 = .ok (.goto 4, 3) := by decide +kernel
theorem d6_21 : decode prog_4_method_13_code 21 = .ok (.iconst 0, 1) := by decide +kernel
theorem d6_22 : decode prog_4_method_13_code 22 = .ok (.bastore, 1) := by decide +kernel
theorem d6_23 : decode prog_4_method_13_code 23 = .ok (.aload_n 0, 1) := by decide +kernel
theorem d6_24 : decode prog_4_method_13_code 24 = .ok (.getfield 15, 3) := by decide +kernel
theorem d6_27 : decode prog_4_method_13_code 27 = .ok (.iload_n 1, 1) := by decide +kernel
theorem d6_28 : decode prog_4_method_13_code 28 = .ok (.aconst_null, 1) := by decide +kernel
theorem d6_29 : decode prog_4_method_13_code 29 = .ok (.aastore, 1) := by decide +kernel
theorem d6_30 : decode prog_4_method_13_code 30 = .ok (.iinc 1 1, 3) := by decide +kernel
theorem d6_33 : decode prog_4_method_13_code 33 = .ok (.goto (-31), 3) := by decide +kernel
theorem d6_36 : decode prog_4_method_13_code 36 = .ok (.return_, 1) := by decide +kernel
theorem pn_6 : plainName "com/example/cardhost/cardhost/LogicalChannels" = true := by first | (simp [plainName, overriddenIn]; done) | decide +kernel
theorem ef_6 (m : MethodId) (x0 : Addr) : entryFrame m #[(.ref x0)] 2 = mkF m 0 #[.val (.ref x0), .unset] [] := by first | (simp [entryFrame, mkF, argsToLocals, Value.category]; done) | rfl
def f6_r1_a (F1 : Nat → Int32) : Nat → Int32 :=
  (own_upd (own_upd (own_upd (own_upd (own_upd (own_upd (own_upd (own_upd (own_upd (own_upd (own_upd (own_upd (own_upd (own_upd (own_upd (own_upd (own_upd (own_upd (own_upd (own_upd F1 0 (1 : Int32)) 1 (0 : Int32)) 2 (0 : Int32)) 3 (0 : Int32)) 4 (0 : Int32)) 5 (0 : Int32)) 6 (0 : Int32)) 7 (0 : Int32)) 8 (0 : Int32)) 9 (0 : Int32)) 10 (0 : Int32)) 11 (0 : Int32)) 12 (0 : Int32)) 13 (0 : Int32)) 14 (0 : Int32)) 15 (0 : Int32)) 16 (0 : Int32)) 17 (0 : Int32)) 18 (0 : Int32)) 19 (0 : Int32))
def Q6 (Z : State) (o0 : Addr) (r1 : Addr) (F1 : Nat → Int32) (r2 : Addr) (h0 : Heap) (n0 : Nat) (v : Option Value) (h : Heap) (L : List Loc) : Prop := v = none ∧ Fr n0 L ∧ Keep h0 h [r1, r2] ∧ own_AI Z h r1 .boolean (20 : Int32) (f6_r1_a F1) ∧ own_AL Z h r2 (.object "com/example/cardhost/cardhost/InstalledApplet") (20 : Int32)
set_option maxRecDepth 65536 in
set_option maxHeartbeats 40000000 in
theorem rm6 (l : Launch) (Z : State) (a0 : Array Value) (hw : ∀ d ∈ tables_1, d.before a0 Z = true) (ws : List Jvm.Cond) (o0 : Addr) (r1 : Addr) (F1 : Nat → Int32) (r2 : Addr) (h0 : Heap) (n0 : Nat) (Z0 : n0 ≤ h0.size) (F_open_o0 : Fld Z h0 o0 "com/example/cardhost/cardhost/LogicalChannels" "open" "[Z" (.ref r1)) (V_r1 : own_AI Z h0 r1 .boolean (20 : Int32) F1) (F_active_o0 : Fld Z h0 o0 "com/example/cardhost/cardhost/LogicalChannels" "active" "[Lcom/example/cardhost/cardhost/InstalledApplet;" (.ref r2)) (V_r2 : own_AL Z h0 r2 (.object "com/example/cardhost/cardhost/InstalledApplet") (20 : Int32)) (g_r1 : n0 ≤ r1) (g_r2 : n0 ≤ r2) (ne_o0_r1 : o0 ≠ r1) (ne_o0_r2 : o0 ≠ r2) (ne_r1_r2 : r1 ≠ r2) :
    MetFree l (⟨"com/example/cardhost/cardhost/LogicalChannels", "reset", "()V"⟩ : MethodName) (head1 (Jvm.Cond.code (⟨"com/example/cardhost/cardhost/LogicalChannels", "reset", "()V"⟩ : MethodName) prog_4_method_13_code 2 none :: ws) ({ frames := 0, cells := 0, slots := 0, locals := 0 } : Room)) (fun a U => a = #[(.ref o0)] ∧ Z.Warmed39 U.vm ∧ U.heap = h0) (fun _ _ _ _ _ => True) (fun _ U o U' => ∃ v L, o = .returned v ∧ Q6 Z o0 r1 F1 r2 h0 n0 v U'.heap L ∧ FrameEnd U o U' L ({ frames := 0, cells := 0, slots := 0, locals := 0 } : Room).cells ({ frames := 0, cells := 0, slots := 0, locals := 0 } : Room).slots) := by
  refine MetFree.of_bodySF (plainFor_of_name pn_6) hisR ?_
  intro p e s m args below meth c s₁ Bd hml0 hP hK
  obtain ⟨rfl, hZ, hh⟩ := hP
  have hx := Bd.exec
  have hby := Bd.bytes
  have hml : c.maxLocals = 2 := hml0
  have hown : s.vm.findClass "com/example/cardhost/cardhost/LogicalChannels" = some m.cls := findClass_of_methodNamed Bd.named
  have hnm := (name_of_methodNamed Bd.named Bd.method).1
  have X0 : Stand p l e ({ frames := 0, cells := 0, slots := 0, locals := 0 } : Room) s m #[(.ref o0)] below meth c s₁ [] 0 0 := Stand.of_body Bd
  have e0 : s₁.heap = h0 := by rw [← hh, Bd.state]; rfl
  have N0 := Fr.nil n0
  have pre0 : ∀ t, Steps p.tables e below (s₁.setTop (mkF m 0 #[.val (.ref o0), .unset] [])) t → Steps p.tables e below (s₁.setTop (entryFrame m #[(.ref o0)] 2)) t := fun t k => castTop (ef_6 m o0) k
  have pre1 : ∀ t, Steps p.tables e below (s₁.setTop (mkF m 5 #[.val (.ref o0), .val (.int (0 : Int32))] [(.int (20 : Int32)), (.int (0 : Int32))])) t → Steps p.tables e below (s₁.setTop (entryFrame m #[(.ref o0)] 2)) t := fun t kt => pre0 t (by
      show Steps p.tables e below (s₁.setTop (mkF m 0 #[.val (.ref o0), .unset] [])) _
      refine XS.iconst X0.here hx rfl (hb hby d6_0) ?_
      show Steps p.tables e below (s₁.setTop (mkF m 1 #[.val (.ref o0), .unset] [(.int (0 : Int32))])) _
      refine XS.istoreN X0.here hx rfl (hb hby d6_1) rfl (l' := #[.val (.ref o0), .val (.int (0 : Int32))]) rfl ?_
      show Steps p.tables e below (s₁.setTop (mkF m 2 #[.val (.ref o0), .val (.int (0 : Int32))] [])) _
      refine XS.iloadN X0.here hx rfl (hb hby d6_2) rfl ?_
      show Steps p.tables e below (s₁.setTop (mkF m 3 #[.val (.ref o0), .val (.int (0 : Int32))] [(.int (0 : Int32))])) _
      refine XS.bipush X0.here hx rfl (hb hby d6_3) ?_
      exact kt)
  obtain ⟨T2, X2, e2, st2⟩ := getF X0 hx hZ hown (host := "") (Or.inl (hw _ (List.mem_of_getElem? (i := 15) rfl))) Via.refl e0 F_open_o0 (g := (mkF m 9 #[.val (.ref o0), .val (.int (0 : Int32))] [(.ref o0)])) rfl rfl (hb hby d6_9)
  have pre3 : ∀ t, Steps p.tables e below (T2.setTop (mkF m 14 #[.val (.ref o0), .val (.int (0 : Int32))] [(.int (0 : Int32)), (.int (0 : Int32)), (.ref r1)])) t → Steps p.tables e below (s₁.setTop (entryFrame m #[(.ref o0)] 2)) t := fun t kt => pre1 t (by
      show Steps p.tables e below (s₁.setTop (mkF m 5 #[.val (.ref o0), .val (.int (0 : Int32))] [(.int (20 : Int32)), (.int (0 : Int32))])) _
      refine XS.icmpNo X0.here hx rfl (hb hby d6_5) rfl (tlt (by decide : ((0 : Int32) < (20 : Int32)))).2.1 ?_
      show Steps p.tables e below (s₁.setTop (mkF m 8 #[.val (.ref o0), .val (.int (0 : Int32))] [])) _
      refine XS.aloadN X0.here hx rfl (hb hby d6_8) rfl rfl ?_
      show Steps p.tables e below (s₁.setTop (mkF m 9 #[.val (.ref o0), .val (.int (0 : Int32))] [(.ref o0)])) _
      refine st2 _ ?_
      show Steps p.tables e below (T2.setTop (mkF m 12 #[.val (.ref o0), .val (.int (0 : Int32))] [(.ref r1)])) _
      refine XS.iloadN X2.here hx rfl (hb hby d6_12) rfl ?_
      show Steps p.tables e below (T2.setTop (mkF m 13 #[.val (.ref o0), .val (.int (0 : Int32))] [(.int (0 : Int32)), (.ref r1)])) _
      refine XS.iloadN X2.here hx rfl (hb hby d6_13) rfl ?_
      exact kt)
  obtain ⟨cl4, Ar4, Sz4, Nn4, Hs4⟩ := id V_r1
  have hin4 : ¬ ((0 : Int32) < 0 ∨ cl4.slots.size ≤ ((0 : Int32)).toNatClampNeg) := inb_of Sz4 ⟨by decide, by decide⟩
  obtain ⟨T5, h5, X5, e5, W5, st5⟩ := stZ X2 hx hZ e2 Ar4 (j := (0 : Int32)) hin4 (g := (mkF m 22 #[.val (.ref o0), .val (.int (0 : Int32))] [(.int (1 : Int32)), (.int (0 : Int32)), (.ref r1)])) rfl rfl (hb hby d6_22)
  have V5 : own_AI Z h5 r1 .boolean (20 : Int32) (own_upd F1 0 (1 : Int32)) := own_AI.set V_r1 (fits_nar_bool (1 : Int32)) W5
  have K6 : Keep h0 h5 [r1, r2] := (Keep.refl h0 [r1, r2]).wr W5 (Or.inl (List.mem_of_getElem? (i := 0) rfl))
  have Z7 : n0 ≤ h5.size := Nat.le_trans Z0 K6.1
  have N5 := Fr.snoc X5 N0 g_r1
  obtain ⟨LS5, X5, N5⟩ : ∃ L, Stand p l e ({ frames := 0, cells := 0, slots := 0, locals := 0 } : Room) s m #[(.ref o0)] below meth c T5 L 0 0 ∧ Fr n0 L := ⟨_, X5, N5⟩
  obtain ⟨T8, X8, e8, st8⟩ := getF X5 hx hZ hown (host := "") (Or.inl (hw _ (List.mem_of_getElem? (i := 19) rfl))) Via.refl e5 (F_active_o0.other W5 (Or.inl ne_o0_r1)) (g := (mkF m 24 #[.val (.ref o0), .val (.int (0 : Int32))] [(.ref o0)])) rfl rfl (hb hby d6_24)
  obtain ⟨cl9, Ar9, Sz9, Nn9, -⟩ := id (V_r2.other W5 (Ne.symm ne_r1_r2))
  have hin9 : ¬ ((0 : Int32) < 0 ∨ cl9.slots.size ≤ ((0 : Int32)).toNatClampNeg) := inb_of Sz9 ⟨by decide, by decide⟩
  obtain ⟨T10, h10, X10, e10, W10, st10⟩ := stR X8 hx hZ e8 Ar9 (j := (0 : Int32)) hin9 rfl (Or.inl rfl) (g := (mkF m 29 #[.val (.ref o0), .val (.int (0 : Int32))] [.null, (.int (0 : Int32)), (.ref r2)])) rfl rfl (hb hby d6_29)
  have V10 : own_AL Z h10 r2 (.object "com/example/cardhost/cardhost/InstalledApplet") (20 : Int32) := own_AL.set (V_r2.other W5 (Ne.symm ne_r1_r2)) W10
  have K11 : Keep h0 h10 [r1, r2] := K6.wr W10 (Or.inl (List.mem_of_getElem? (i := 1) rfl))
  have Z12 : n0 ≤ h10.size := Nat.le_trans Z0 K11.1
  have N10 := Fr.snoc X10 N5 g_r2
  obtain ⟨LS10, X10, N10⟩ : ∃ L, Stand p l e ({ frames := 0, cells := 0, slots := 0, locals := 0 } : Room) s m #[(.ref o0)] below meth c T10 L 0 0 ∧ Fr n0 L := ⟨_, X10, N10⟩
  have pre13 : ∀ t, Steps p.tables e below (T10.setTop (mkF m 5 #[.val (.ref o0), .val (.int (1 : Int32))] [(.int (20 : Int32)), (.int (1 : Int32))])) t → Steps p.tables e below (s₁.setTop (entryFrame m #[(.ref o0)] 2)) t := fun t kt => pre3 t (by
      show Steps p.tables e below (T2.setTop (mkF m 14 #[.val (.ref o0), .val (.int (0 : Int32))] [(.int (0 : Int32)), (.int (0 : Int32)), (.ref r1)])) _
      refine XS.ifNo X2.here hx rfl (hb hby d6_14) rfl ((if0 _ _).trans (teq (by decide : ((0 : Int32) = (0 : Int32)))).2) ?_
      show Steps p.tables e below (T2.setTop (mkF m 17 #[.val (.ref o0), .val (.int (0 : Int32))] [(.int (0 : Int32)), (.ref r1)])) _
      refine XS.iconst X2.here hx rfl (hb hby d6_17) ?_
      show Steps p.tables e below (T2.setTop (mkF m 18 #[.val (.ref o0), .val (.int (0 : Int32))] [(.int (1 : Int32)), (.int (0 : Int32)), (.ref r1)])) _
      refine XS.goto X2.here hx rfl (pc0 := 18) (pc' := 22) rfl (hb hby d6_18) (by decide) (by decide) ?_
      show Steps p.tables e below (T2.setTop (mkF m 22 #[.val (.ref o0), .val (.int (0 : Int32))] [(.int (1 : Int32)), (.int (0 : Int32)), (.ref r1)])) _
      refine st5 _ ?_
      show Steps p.tables e below (T5.setTop (mkF m 23 #[.val (.ref o0), .val (.int (0 : Int32))] [])) _
      refine XS.aloadN X5.here hx rfl (hb hby d6_23) rfl rfl ?_
      show Steps p.tables e below (T5.setTop (mkF m 24 #[.val (.ref o0), .val (.int (0 : Int32))] [(.ref o0)])) _
      refine st8 _ ?_
      show Steps p.tables e below (T8.setTop (mkF m 27 #[.val (.ref o0), .val (.int (0 : Int32))] [(.ref r2)])) _
      refine XS.iloadN X8.here hx rfl (hb hby d6_27) rfl ?_
      show Steps p.tables e below (T8.setTop (mkF m 28 #[.val (.ref o0), .val (.int (0 : Int32))] [(.int (0 : Int32)), (.ref r2)])) _
      refine XS.aconstNull X8.here hx rfl (hb hby d6_28) ?_
      show Steps p.tables e below (T8.setTop (mkF m 29 #[.val (.ref o0), .val (.int (0 : Int32))] [.null, (.int (0 : Int32)), (.ref r2)])) _
      refine st10 _ ?_
      show Steps p.tables e below (T10.setTop (mkF m 30 #[.val (.ref o0), .val (.int (0 : Int32))] [])) _
      refine XS.iinc X10.here hx rfl (hb hby d6_30) rfl (l' := #[.val (.ref o0), .val (.int (1 : Int32))]) rfl ?_
      show Steps p.tables e below (T10.setTop (mkF m 33 #[.val (.ref o0), .val (.int (1 : Int32))] [])) _
      refine XS.goto X10.here hx rfl (pc0 := 33) (pc' := 2) rfl (hb hby d6_33) (by decide) (by decide) ?_
      show Steps p.tables e below (T10.setTop (mkF m 2 #[.val (.ref o0), .val (.int (1 : Int32))] [])) _
      refine XS.iloadN X10.here hx rfl (hb hby d6_2) rfl ?_
      show Steps p.tables e below (T10.setTop (mkF m 3 #[.val (.ref o0), .val (.int (1 : Int32))] [(.int (1 : Int32))])) _
      refine XS.bipush X10.here hx rfl (hb hby d6_3) ?_
      exact kt)
  have c14 := ((F_open_o0.other W5 (Or.inl ne_o0_r1)).other W10 (Or.inl ne_o0_r2))
  obtain ⟨T15, X15, e15, st15⟩ := getF X10 hx hZ hown (host := "") (Or.inl (hw _ (List.mem_of_getElem? (i := 15) rfl))) Via.refl e10 c14 (g := (mkF m 9 #[.val (.ref o0), .val (.int (1 : Int32))] [(.ref o0)])) rfl rfl (hb hby d6_9)
  have pre16 : ∀ t, Steps p.tables e below (T15.setTop (mkF m 14 #[.val (.ref o0), .val (.int (1 : Int32))] [(.int (1 : Int32)), (.int (1 : Int32)), (.ref r1)])) t → Steps p.tables e below (s₁.setTop (entryFrame m #[(.ref o0)] 2)) t := fun t kt => pre13 t (by
      show Steps p.tables e below (T10.setTop (mkF m 5 #[.val (.ref o0), .val (.int (1 : Int32))] [(.int (20 : Int32)), (.int (1 : Int32))])) _
      refine XS.icmpNo X10.here hx rfl (hb hby d6_5) rfl (tlt (by decide : ((1 : Int32) < (20 : Int32)))).2.1 ?_
      show Steps p.tables e below (T10.setTop (mkF m 8 #[.val (.ref o0), .val (.int (1 : Int32))] [])) _
      refine XS.aloadN X10.here hx rfl (hb hby d6_8) rfl rfl ?_
      show Steps p.tables e below (T10.setTop (mkF m 9 #[.val (.ref o0), .val (.int (1 : Int32))] [(.ref o0)])) _
      refine st15 _ ?_
      show Steps p.tables e below (T15.setTop (mkF m 12 #[.val (.ref o0), .val (.int (1 : Int32))] [(.ref r1)])) _
      refine XS.iloadN X15.here hx rfl (hb hby d6_12) rfl ?_
      show Steps p.tables e below (T15.setTop (mkF m 13 #[.val (.ref o0), .val (.int (1 : Int32))] [(.int (1 : Int32)), (.ref r1)])) _
      refine XS.iloadN X15.here hx rfl (hb hby d6_13) rfl ?_
      exact kt)
  obtain ⟨cl17, Ar17, Sz17, Nn17, Hs17⟩ := id (V5.other W10 ne_r1_r2)
  have hin17 : ¬ ((1 : Int32) < 0 ∨ cl17.slots.size ≤ ((1 : Int32)).toNatClampNeg) := inb_of Sz17 ⟨by decide, by decide⟩
  obtain ⟨T18, h18, X18, e18, W18, st18⟩ := stZ X15 hx hZ e15 Ar17 (j := (1 : Int32)) hin17 (g := (mkF m 22 #[.val (.ref o0), .val (.int (1 : Int32))] [(.int (0 : Int32)), (.int (1 : Int32)), (.ref r1)])) rfl rfl (hb hby d6_22)
  have V18 : own_AI Z h18 r1 .boolean (20 : Int32) (own_upd (own_upd F1 0 (1 : Int32)) 1 (0 : Int32)) := own_AI.set (V5.other W10 ne_r1_r2) (fits_nar_bool (0 : Int32)) W18
  have K19 : Keep h0 h18 [r1, r2] := K11.wr W18 (Or.inl (List.mem_of_getElem? (i := 0) rfl))
  have Z20 : n0 ≤ h18.size := Nat.le_trans Z0 K19.1
  have N18 := Fr.snoc X18 N10 g_r1
  obtain ⟨LS18, X18, N18⟩ : ∃ L, Stand p l e ({ frames := 0, cells := 0, slots := 0, locals := 0 } : Room) s m #[(.ref o0)] below meth c T18 L 0 0 ∧ Fr n0 L := ⟨_, X18, N18⟩
  have c21 := (((F_active_o0.other W5 (Or.inl ne_o0_r1)).other W10 (Or.inl ne_o0_r2)).other W18 (Or.inl ne_o0_r1))
  obtain ⟨T22, X22, e22, st22⟩ := getF X18 hx hZ hown (host := "") (Or.inl (hw _ (List.mem_of_getElem? (i := 19) rfl))) Via.refl e18 c21 (g := (mkF m 24 #[.val (.ref o0), .val (.int (1 : Int32))] [(.ref o0)])) rfl rfl (hb hby d6_24)
  obtain ⟨cl23, Ar23, Sz23, Nn23, -⟩ := id (V10.other W18 (Ne.symm ne_r1_r2))
  have hin23 : ¬ ((1 : Int32) < 0 ∨ cl23.slots.size ≤ ((1 : Int32)).toNatClampNeg) := inb_of Sz23 ⟨by decide, by decide⟩
  obtain ⟨T24, h24, X24, e24, W24, st24⟩ := stR X22 hx hZ e22 Ar23 (j := (1 : Int32)) hin23 rfl (Or.inl rfl) (g := (mkF m 29 #[.val (.ref o0), .val (.int (1 : Int32))] [.null, (.int (1 : Int32)), (.ref r2)])) rfl rfl (hb hby d6_29)
  have V24 : own_AL Z h24 r2 (.object "com/example/cardhost/cardhost/InstalledApplet") (20 : Int32) := own_AL.set (V10.other W18 (Ne.symm ne_r1_r2)) W24
  have K25 : Keep h0 h24 [r1, r2] := K19.wr W24 (Or.inl (List.mem_of_getElem? (i := 1) rfl))
  have Z26 : n0 ≤ h24.size := Nat.le_trans Z0 K25.1
  have N24 := Fr.snoc X24 N18 g_r2
  obtain ⟨LS24, X24, N24⟩ : ∃ L, Stand p l e ({ frames := 0, cells := 0, slots := 0, locals := 0 } : Room) s m #[(.ref o0)] below meth c T24 L 0 0 ∧ Fr n0 L := ⟨_, X24, N24⟩
  have pre27 : ∀ t, Steps p.tables e below (T24.setTop (mkF m 5 #[.val (.ref o0), .val (.int (2 : Int32))] [(.int (20 : Int32)), (.int (2 : Int32))])) t → Steps p.tables e below (s₁.setTop (entryFrame m #[(.ref o0)] 2)) t := fun t kt => pre16 t (by
      show Steps p.tables e below (T15.setTop (mkF m 14 #[.val (.ref o0), .val (.int (1 : Int32))] [(.int (1 : Int32)), (.int (1 : Int32)), (.ref r1)])) _
      refine XS.ifYes X15.here hx rfl (pc0 := 14) (pc' := 21) rfl (hb hby d6_14) rfl ((if0 _ _).trans (feq (by decide : ¬ ((1 : Int32) = (0 : Int32)))).2) (by decide) (by decide) ?_
      show Steps p.tables e below (T15.setTop (mkF m 21 #[.val (.ref o0), .val (.int (1 : Int32))] [(.int (1 : Int32)), (.ref r1)])) _
      refine XS.iconst X15.here hx rfl (hb hby d6_21) ?_
      show Steps p.tables e below (T15.setTop (mkF m 22 #[.val (.ref o0), .val (.int (1 : Int32))] [(.int (0 : Int32)), (.int (1 : Int32)), (.ref r1)])) _
      refine st18 _ ?_
      show Steps p.tables e below (T18.setTop (mkF m 23 #[.val (.ref o0), .val (.int (1 : Int32))] [])) _
      refine XS.aloadN X18.here hx rfl (hb hby d6_23) rfl rfl ?_
      show Steps p.tables e below (T18.setTop (mkF m 24 #[.val (.ref o0), .val (.int (1 : Int32))] [(.ref o0)])) _
      refine st22 _ ?_
      show Steps p.tables e below (T22.setTop (mkF m 27 #[.val (.ref o0), .val (.int (1 : Int32))] [(.ref r2)])) _
      refine XS.iloadN X22.here hx rfl (hb hby d6_27) rfl ?_
      show Steps p.tables e below (T22.setTop (mkF m 28 #[.val (.ref o0), .val (.int (1 : Int32))] [(.int (1 : Int32)), (.ref r2)])) _
      refine XS.aconstNull X22.here hx rfl (hb hby d6_28) ?_
      show Steps p.tables e below (T22.setTop (mkF m 29 #[.val (.ref o0), .val (.int (1 : Int32))] [.null, (.int (1 : Int32)), (.ref r2)])) _
      refine st24 _ ?_
      show Steps p.tables e below (T24.setTop (mkF m 30 #[.val (.ref o0), .val (.int (1 : Int32))] [])) _
      refine XS.iinc X24.here hx rfl (hb hby d6_30) rfl (l' := #[.val (.ref o0), .val (.int (2 : Int32))]) rfl ?_
      show Steps p.tables e below (T24.setTop (mkF m 33 #[.val (.ref o0), .val (.int (2 : Int32))] [])) _
      refine XS.goto X24.here hx rfl (pc0 := 33) (pc' := 2) rfl (hb hby d6_33) (by decide) (by decide) ?_
      show Steps p.tables e below (T24.setTop (mkF m 2 #[.val (.ref o0), .val (.int (2 : Int32))] [])) _
      refine XS.iloadN X24.here hx rfl (hb hby d6_2) rfl ?_
      show Steps p.tables e below (T24.setTop (mkF m 3 #[.val (.ref o0), .val (.int (2 : Int32))] [(.int (2 : Int32))])) _
      refine XS.bipush X24.here hx rfl (hb hby d6_3) ?_
      exact kt)
  have c28 := ((c14.other W18 (Or.inl ne_o0_r1)).other W24 (Or.inl ne_o0_r2))
  obtain ⟨T29, X29, e29, st29⟩ := getF X24 hx hZ hown (host := "") (Or.inl (hw _ (List.mem_of_getElem? (i := 15) rfl))) Via.refl e24 c28 (g := (mkF m 9 #[.val (.ref o0), .val (.int (2 : Int32))] [(.ref o0)])) rfl rfl (hb hby d6_9)
  have pre30 : ∀ t, Steps p.tables e below (T29.setTop (mkF m 14 #[.val (.ref o0), .val (.int (2 : Int32))] [(.int (2 : Int32)), (.int (2 : Int32)), (.ref r1)])) t → Steps p.tables e below (s₁.setTop (entryFrame m #[(.ref o0)] 2)) t := fun t kt => pre27 t (by
      show Steps p.tables e below (T24.setTop (mkF m 5 #[.val (.ref o0), .val (.int (2 : Int32))] [(.int (20 : Int32)), (.int (2 : Int32))])) _
      refine XS.icmpNo X24.here hx rfl (hb hby d6_5) rfl (tlt (by decide : ((2 : Int32) < (20 : Int32)))).2.1 ?_
      show Steps p.tables e below (T24.setTop (mkF m 8 #[.val (.ref o0), .val (.int (2 : Int32))] [])) _
      refine XS.aloadN X24.here hx rfl (hb hby d6_8) rfl rfl ?_
      show Steps p.tables e below (T24.setTop (mkF m 9 #[.val (.ref o0), .val (.int (2 : Int32))] [(.ref o0)])) _
      refine st29 _ ?_
      show Steps p.tables e below (T29.setTop (mkF m 12 #[.val (.ref o0), .val (.int (2 : Int32))] [(.ref r1)])) _
      refine XS.iloadN X29.here hx rfl (hb hby d6_12) rfl ?_
      show Steps p.tables e below (T29.setTop (mkF m 13 #[.val (.ref o0), .val (.int (2 : Int32))] [(.int (2 : Int32)), (.ref r1)])) _
      refine XS.iloadN X29.here hx rfl (hb hby d6_13) rfl ?_
      exact kt)
  obtain ⟨cl31, Ar31, Sz31, Nn31, Hs31⟩ := id (V18.other W24 ne_r1_r2)
  have hin31 : ¬ ((2 : Int32) < 0 ∨ cl31.slots.size ≤ ((2 : Int32)).toNatClampNeg) := inb_of Sz31 ⟨by decide, by decide⟩
  obtain ⟨T32, h32, X32, e32, W32, st32⟩ := stZ X29 hx hZ e29 Ar31 (j := (2 : Int32)) hin31 (g := (mkF m 22 #[.val (.ref o0), .val (.int (2 : Int32))] [(.int (0 : Int32)), (.int (2 : Int32)), (.ref r1)])) rfl rfl (hb hby d6_22)
  have V32 : own_AI Z h32 r1 .boolean (20 : Int32) (own_upd (own_upd (own_upd F1 0 (1 : Int32)) 1 (0 : Int32)) 2 (0 : Int32)) := own_AI.set (V18.other W24 ne_r1_r2) (fits_nar_bool (0 : Int32)) W32
  have K33 : Keep h0 h32 [r1, r2] := K25.wr W32 (Or.inl (List.mem_of_getElem? (i := 0) rfl))
  have Z34 : n0 ≤ h32.size := Nat.le_trans Z0 K33.1
  have N32 := Fr.snoc X32 N24 g_r1
  obtain ⟨LS32, X32, N32⟩ : ∃ L, Stand p l e ({ frames := 0, cells := 0, slots := 0, locals := 0 } : Room) s m #[(.ref o0)] below meth c T32 L 0 0 ∧ Fr n0 L := ⟨_, X32, N32⟩
  have c35 := ((c21.other W24 (Or.inl ne_o0_r2)).other W32 (Or.inl ne_o0_r1))
  obtain ⟨T36, X36, e36, st36⟩ := getF X32 hx hZ hown (host := "") (Or.inl (hw _ (List.mem_of_getElem? (i := 19) rfl))) Via.refl e32 c35 (g := (mkF m 24 #[.val (.ref o0), .val (.int (2 : Int32))] [(.ref o0)])) rfl rfl (hb hby d6_24)
  obtain ⟨cl37, Ar37, Sz37, Nn37, -⟩ := id (V24.other W32 (Ne.symm ne_r1_r2))
  have hin37 : ¬ ((2 : Int32) < 0 ∨ cl37.slots.size ≤ ((2 : Int32)).toNatClampNeg) := inb_of Sz37 ⟨by decide, by decide⟩
  obtain ⟨T38, h38, X38, e38, W38, st38⟩ := stR X36 hx hZ e36 Ar37 (j := (2 : Int32)) hin37 rfl (Or.inl rfl) (g := (mkF m 29 #[.val (.ref o0), .val (.int (2 : Int32))] [.null, (.int (2 : Int32)), (.ref r2)])) rfl rfl (hb hby d6_29)
  have V38 : own_AL Z h38 r2 (.object "com/example/cardhost/cardhost/InstalledApplet") (20 : Int32) := own_AL.set (V24.other W32 (Ne.symm ne_r1_r2)) W38
  have K39 : Keep h0 h38 [r1, r2] := K33.wr W38 (Or.inl (List.mem_of_getElem? (i := 1) rfl))
  have Z40 : n0 ≤ h38.size := Nat.le_trans Z0 K39.1
  have N38 := Fr.snoc X38 N32 g_r2
  obtain ⟨LS38, X38, N38⟩ : ∃ L, Stand p l e ({ frames := 0, cells := 0, slots := 0, locals := 0 } : Room) s m #[(.ref o0)] below meth c T38 L 0 0 ∧ Fr n0 L := ⟨_, X38, N38⟩
  have pre41 : ∀ t, Steps p.tables e below (T38.setTop (mkF m 5 #[.val (.ref o0), .val (.int (3 : Int32))] [(.int (20 : Int32)), (.int (3 : Int32))])) t → Steps p.tables e below (s₁.setTop (entryFrame m #[(.ref o0)] 2)) t := fun t kt => pre30 t (by
      show Steps p.tables e below (T29.setTop (mkF m 14 #[.val (.ref o0), .val (.int (2 : Int32))] [(.int (2 : Int32)), (.int (2 : Int32)), (.ref r1)])) _
      refine XS.ifYes X29.here hx rfl (pc0 := 14) (pc' := 21) rfl (hb hby d6_14) rfl ((if0 _ _).trans (feq (by decide : ¬ ((2 : Int32) = (0 : Int32)))).2) (by decide) (by decide) ?_
      show Steps p.tables e below (T29.setTop (mkF m 21 #[.val (.ref o0), .val (.int (2 : Int32))] [(.int (2 : Int32)), (.ref r1)])) _
      refine XS.iconst X29.here hx rfl (hb hby d6_21) ?_
      show Steps p.tables e below (T29.setTop (mkF m 22 #[.val (.ref o0), .val (.int (2 : Int32))] [(.int (0 : Int32)), (.int (2 : Int32)), (.ref r1)])) _
      refine st32 _ ?_
      show Steps p.tables e below (T32.setTop (mkF m 23 #[.val (.ref o0), .val (.int (2 : Int32))] [])) _
      refine XS.aloadN X32.here hx rfl (hb hby d6_23) rfl rfl ?_
      show Steps p.tables e below (T32.setTop (mkF m 24 #[.val (.ref o0), .val (.int (2 : Int32))] [(.ref o0)])) _
      refine st36 _ ?_
      show Steps p.tables e below (T36.setTop (mkF m 27 #[.val (.ref o0), .val (.int (2 : Int32))] [(.ref r2)])) _
      refine XS.iloadN X36.here hx rfl (hb hby d6_27) rfl ?_
      show Steps p.tables e below (T36.setTop (mkF m 28 #[.val (.ref o0), .val (.int (2 : Int32))] [(.int (2 : Int32)), (.ref r2)])) _
      refine XS.aconstNull X36.here hx rfl (hb hby d6_28) ?_
      show Steps p.tables e below (T36.setTop (mkF m 29 #[.val (.ref o0), .val (.int (2 : Int32))] [.null, (.int (2 : Int32)), (.ref r2)])) _
      refine st38 _ ?_
      show Steps p.tables e below (T38.setTop (mkF m 30 #[.val (.ref o0), .val (.int (2 : Int32))] [])) _
      refine XS.iinc X38.here hx rfl (hb hby d6_30) rfl (l' := #[.val (.ref o0), .val (.int (3 : Int32))]) rfl ?_
      show Steps p.tables e below (T38.setTop (mkF m 33 #[.val (.ref o0), .val (.int (3 : Int32))] [])) _
      refine XS.goto X38.here hx rfl (pc0 := 33) (pc' := 2) rfl (hb hby d6_33) (by decide) (by decide) ?_
      show Steps p.tables e below (T38.setTop (mkF m 2 #[.val (.ref o0), .val (.int (3 : Int32))] [])) _
      refine XS.iloadN X38.here hx rfl (hb hby d6_2) rfl ?_
      show Steps p.tables e below (T38.setTop (mkF m 3 #[.val (.ref o0), .val (.int (3 : Int32))] [(.int (3 : Int32))])) _
      refine XS.bipush X38.here hx rfl (hb hby d6_3) ?_
      exact kt)
  have c42 := ((c28.other W32 (Or.inl ne_o0_r1)).other W38 (Or.inl ne_o0_r2))
  obtain ⟨T43, X43, e43, st43⟩ := getF X38 hx hZ hown (host := "") (Or.inl (hw _ (List.mem_of_getElem? (i := 15) rfl))) Via.refl e38 c42 (g := (mkF m 9 #[.val (.ref o0), .val (.int (3 : Int32))] [(.ref o0)])) rfl rfl (hb hby d6_9)
  have pre44 : ∀ t, Steps p.tables e below (T43.setTop (mkF m 14 #[.val (.ref o0), .val (.int (3 : Int32))] [(.int (3 : Int32)), (.int (3 : Int32)), (.ref r1)])) t → Steps p.tables e below (s₁.setTop (entryFrame m #[(.ref o0)] 2)) t := fun t kt => pre41 t (by
      show Steps p.tables e below (T38.setTop (mkF m 5 #[.val (.ref o0), .val (.int (3 : Int32))] [(.int (20 : Int32)), (.int (3 : Int32))])) _
      refine XS.icmpNo X38.here hx rfl (hb hby d6_5) rfl (tlt (by decide : ((3 : Int32) < (20 : Int32)))).2.1 ?_
      show Steps p.tables e below (T38.setTop (mkF m 8 #[.val (.ref o0), .val (.int (3 : Int32))] [])) _
      refine XS.aloadN X38.here hx rfl (hb hby d6_8) rfl rfl ?_
      show Steps p.tables e below (T38.setTop (mkF m 9 #[.val (.ref o0), .val (.int (3 : Int32))] [(.ref o0)])) _
      refine st43 _ ?_
      show Steps p.tables e below (T43.setTop (mkF m 12 #[.val (.ref o0), .val (.int (3 : Int32))] [(.ref r1)])) _
      refine XS.iloadN X43.here hx rfl (hb hby d6_12) rfl ?_
      show Steps p.tables e below (T43.setTop (mkF m 13 #[.val (.ref o0), .val (.int (3 : Int32))] [(.int (3 : Int32)), (.ref r1)])) _
      refine XS.iloadN X43.here hx rfl (hb hby d6_13) rfl ?_
      exact kt)
  obtain ⟨cl45, Ar45, Sz45, Nn45, Hs45⟩ := id (V32.other W38 ne_r1_r2)
  have hin45 : ¬ ((3 : Int32) < 0 ∨ cl45.slots.size ≤ ((3 : Int32)).toNatClampNeg) := inb_of Sz45 ⟨by decide, by decide⟩
  obtain ⟨T46, h46, X46, e46, W46, st46⟩ := stZ X43 hx hZ e43 Ar45 (j := (3 : Int32)) hin45 (g := (mkF m 22 #[.val (.ref o0), .val (.int (3 : Int32))] [(.int (0 : Int32)), (.int (3 : Int32)), (.ref r1)])) rfl rfl (hb hby d6_22)
  have V46 : own_AI Z h46 r1 .boolean (20 : Int32) (own_upd (own_upd (own_upd (own_upd F1 0 (1 : Int32)) 1 (0 : Int32)) 2 (0 : Int32)) 3 (0 : Int32)) := own_AI.set (V32.other W38 ne_r1_r2) (fits_nar_bool (0 : Int32)) W46
  have K47 : Keep h0 h46 [r1, r2] := K39.wr W46 (Or.inl (List.mem_of_getElem? (i := 0) rfl))
  have Z48 : n0 ≤ h46.size := Nat.le_trans Z0 K47.1
  have N46 := Fr.snoc X46 N38 g_r1
  obtain ⟨LS46, X46, N46⟩ : ∃ L, Stand p l e ({ frames := 0, cells := 0, slots := 0, locals := 0 } : Room) s m #[(.ref o0)] below meth c T46 L 0 0 ∧ Fr n0 L := ⟨_, X46, N46⟩
  have c49 := ((c35.other W38 (Or.inl ne_o0_r2)).other W46 (Or.inl ne_o0_r1))
  obtain ⟨T50, X50, e50, st50⟩ := getF X46 hx hZ hown (host := "") (Or.inl (hw _ (List.mem_of_getElem? (i := 19) rfl))) Via.refl e46 c49 (g := (mkF m 24 #[.val (.ref o0), .val (.int (3 : Int32))] [(.ref o0)])) rfl rfl (hb hby d6_24)
  obtain ⟨cl51, Ar51, Sz51, Nn51, -⟩ := id (V38.other W46 (Ne.symm ne_r1_r2))
  have hin51 : ¬ ((3 : Int32) < 0 ∨ cl51.slots.size ≤ ((3 : Int32)).toNatClampNeg) := inb_of Sz51 ⟨by decide, by decide⟩
  obtain ⟨T52, h52, X52, e52, W52, st52⟩ := stR X50 hx hZ e50 Ar51 (j := (3 : Int32)) hin51 rfl (Or.inl rfl) (g := (mkF m 29 #[.val (.ref o0), .val (.int (3 : Int32))] [.null, (.int (3 : Int32)), (.ref r2)])) rfl rfl (hb hby d6_29)
  have V52 : own_AL Z h52 r2 (.object "com/example/cardhost/cardhost/InstalledApplet") (20 : Int32) := own_AL.set (V38.other W46 (Ne.symm ne_r1_r2)) W52
  have K53 : Keep h0 h52 [r1, r2] := K47.wr W52 (Or.inl (List.mem_of_getElem? (i := 1) rfl))
  have Z54 : n0 ≤ h52.size := Nat.le_trans Z0 K53.1
  have N52 := Fr.snoc X52 N46 g_r2
  obtain ⟨LS52, X52, N52⟩ : ∃ L, Stand p l e ({ frames := 0, cells := 0, slots := 0, locals := 0 } : Room) s m #[(.ref o0)] below meth c T52 L 0 0 ∧ Fr n0 L := ⟨_, X52, N52⟩
  have pre55 : ∀ t, Steps p.tables e below (T52.setTop (mkF m 5 #[.val (.ref o0), .val (.int (4 : Int32))] [(.int (20 : Int32)), (.int (4 : Int32))])) t → Steps p.tables e below (s₁.setTop (entryFrame m #[(.ref o0)] 2)) t := fun t kt => pre44 t (by
      show Steps p.tables e below (T43.setTop (mkF m 14 #[.val (.ref o0), .val (.int (3 : Int32))] [(.int (3 : Int32)), (.int (3 : Int32)), (.ref r1)])) _
      refine XS.ifYes X43.here hx rfl (pc0 := 14) (pc' := 21) rfl (hb hby d6_14) rfl ((if0 _ _).trans (feq (by decide : ¬ ((3 : Int32) = (0 : Int32)))).2) (by decide) (by decide) ?_
      show Steps p.tables e below (T43.setTop (mkF m 21 #[.val (.ref o0), .val (.int (3 : Int32))] [(.int (3 : Int32)), (.ref r1)])) _
      refine XS.iconst X43.here hx rfl (hb hby d6_21) ?_
      show Steps p.tables e below (T43.setTop (mkF m 22 #[.val (.ref o0), .val (.int (3 : Int32))] [(.int (0 : Int32)), (.int (3 : Int32)), (.ref r1)])) _
      refine st46 _ ?_
      show Steps p.tables e below (T46.setTop (mkF m 23 #[.val (.ref o0), .val (.int (3 : Int32))] [])) _
      refine XS.aloadN X46.here hx rfl (hb hby d6_23) rfl rfl ?_
      show Steps p.tables e below (T46.setTop (mkF m 24 #[.val (.ref o0), .val (.int (3 : Int32))] [(.ref o0)])) _
      refine st50 _ ?_
      show Steps p.tables e below (T50.setTop (mkF m 27 #[.val (.ref o0), .val (.int (3 : Int32))] [(.ref r2)])) _
      refine XS.iloadN X50.here hx rfl (hb hby d6_27) rfl ?_
      show Steps p.tables e below (T50.setTop (mkF m 28 #[.val (.ref o0), .val (.int (3 : Int32))] [(.int (3 : Int32)), (.ref r2)])) _
      refine XS.aconstNull X50.here hx rfl (hb hby d6_28) ?_
      show Steps p.tables e below (T50.setTop (mkF m 29 #[.val (.ref o0), .val (.int (3 : Int32))] [.null, (.int (3 : Int32)), (.ref r2)])) _
      refine st52 _ ?_
      show Steps p.tables e below (T52.setTop (mkF m 30 #[.val (.ref o0), .val (.int (3 : Int32))] [])) _
      refine XS.iinc X52.here hx rfl (hb hby d6_30) rfl (l' := #[.val (.ref o0), .val (.int (4 : Int32))]) rfl ?_
      show Steps p.tables e below (T52.setTop (mkF m 33 #[.val (.ref o0), .val (.int (4 : Int32))] [])) _
      refine XS.goto X52.here hx rfl (pc0 := 33) (pc' := 2) rfl (hb hby d6_33) (by decide) (by decide) ?_
      show Steps p.tables e below (T52.setTop (mkF m 2 #[.val (.ref o0), .val (.int (4 : Int32))] [])) _
      refine XS.iloadN X52.here hx rfl (hb hby d6_2) rfl ?_
      show Steps p.tables e below (T52.setTop (mkF m 3 #[.val (.ref o0), .val (.int (4 : Int32))] [(.int (4 : Int32))])) _
      refine XS.bipush X52.here hx rfl (hb hby d6_3) ?_
      exact kt)
  have c56 := ((c42.other W46 (Or.inl ne_o0_r1)).other W52 (Or.inl ne_o0_r2))
  obtain ⟨T57, X57, e57, st57⟩ := getF X52 hx hZ hown (host := "") (Or.inl (hw _ (List.mem_of_getElem? (i := 15) rfl))) Via.refl e52 c56 (g := (mkF m 9 #[.val (.ref o0), .val (.int (4 : Int32))] [(.ref o0)])) rfl rfl (hb hby d6_9)
  have pre58 : ∀ t, Steps p.tables e below (T57.setTop (mkF m 14 #[.val (.ref o0), .val (.int (4 : Int32))] [(.int (4 : Int32)), (.int (4 : Int32)), (.ref r1)])) t → Steps p.tables e below (s₁.setTop (entryFrame m #[(.ref o0)] 2)) t := fun t kt => pre55 t (by
      show Steps p.tables e below (T52.setTop (mkF m 5 #[.val (.ref o0), .val (.int (4 : Int32))] [(.int (20 : Int32)), (.int (4 : Int32))])) _
      refine XS.icmpNo X52.here hx rfl (hb hby d6_5) rfl (tlt (by decide : ((4 : Int32) < (20 : Int32)))).2.1 ?_
      show Steps p.tables e below (T52.setTop (mkF m 8 #[.val (.ref o0), .val (.int (4 : Int32))] [])) _
      refine XS.aloadN X52.here hx rfl (hb hby d6_8) rfl rfl ?_
      show Steps p.tables e below (T52.setTop (mkF m 9 #[.val (.ref o0), .val (.int (4 : Int32))] [(.ref o0)])) _
      refine st57 _ ?_
      show Steps p.tables e below (T57.setTop (mkF m 12 #[.val (.ref o0), .val (.int (4 : Int32))] [(.ref r1)])) _
      refine XS.iloadN X57.here hx rfl (hb hby d6_12) rfl ?_
      show Steps p.tables e below (T57.setTop (mkF m 13 #[.val (.ref o0), .val (.int (4 : Int32))] [(.int (4 : Int32)), (.ref r1)])) _
      refine XS.iloadN X57.here hx rfl (hb hby d6_13) rfl ?_
      exact kt)
  obtain ⟨cl59, Ar59, Sz59, Nn59, Hs59⟩ := id (V46.other W52 ne_r1_r2)
  have hin59 : ¬ ((4 : Int32) < 0 ∨ cl59.slots.size ≤ ((4 : Int32)).toNatClampNeg) := inb_of Sz59 ⟨by decide, by decide⟩
  obtain ⟨T60, h60, X60, e60, W60, st60⟩ := stZ X57 hx hZ e57 Ar59 (j := (4 : Int32)) hin59 (g := (mkF m 22 #[.val (.ref o0), .val (.int (4 : Int32))] [(.int (0 : Int32)), (.int (4 : Int32)), (.ref r1)])) rfl rfl (hb hby d6_22)
  have V60 : own_AI Z h60 r1 .boolean (20 : Int32) (own_upd (own_upd (own_upd (own_upd (own_upd F1 0 (1 : Int32)) 1 (0 : Int32)) 2 (0 : Int32)) 3 (0 : Int32)) 4 (0 : Int32)) := own_AI.set (V46.other W52 ne_r1_r2) (fits_nar_bool (0 : Int32)) W60
  have K61 : Keep h0 h60 [r1, r2] := K53.wr W60 (Or.inl (List.mem_of_getElem? (i := 0) rfl))
  have Z62 : n0 ≤ h60.size := Nat.le_trans Z0 K61.1
  have N60 := Fr.snoc X60 N52 g_r1
  obtain ⟨LS60, X60, N60⟩ : ∃ L, Stand p l e ({ frames := 0, cells := 0, slots := 0, locals := 0 } : Room) s m #[(.ref o0)] below meth c T60 L 0 0 ∧ Fr n0 L := ⟨_, X60, N60⟩
  have c63 := ((c49.other W52 (Or.inl ne_o0_r2)).other W60 (Or.inl ne_o0_r1))
  obtain ⟨T64, X64, e64, st64⟩ := getF X60 hx hZ hown (host := "") (Or.inl (hw _ (List.mem_of_getElem? (i := 19) rfl))) Via.refl e60 c63 (g := (mkF m 24 #[.val (.ref o0), .val (.int (4 : Int32))] [(.ref o0)])) rfl rfl (hb hby d6_24)
  obtain ⟨cl65, Ar65, Sz65, Nn65, -⟩ := id (V52.other W60 (Ne.symm ne_r1_r2))
  have hin65 : ¬ ((4 : Int32) < 0 ∨ cl65.slots.size ≤ ((4 : Int32)).toNatClampNeg) := inb_of Sz65 ⟨by decide, by decide⟩
  obtain ⟨T66, h66, X66, e66, W66, st66⟩ := stR X64 hx hZ e64 Ar65 (j := (4 : Int32)) hin65 rfl (Or.inl rfl) (g := (mkF m 29 #[.val (.ref o0), .val (.int (4 : Int32))] [.null, (.int (4 : Int32)), (.ref r2)])) rfl rfl (hb hby d6_29)
  have V66 : own_AL Z h66 r2 (.object "com/example/cardhost/cardhost/InstalledApplet") (20 : Int32) := own_AL.set (V52.other W60 (Ne.symm ne_r1_r2)) W66
  have K67 : Keep h0 h66 [r1, r2] := K61.wr W66 (Or.inl (List.mem_of_getElem? (i := 1) rfl))
  have Z68 : n0 ≤ h66.size := Nat.le_trans Z0 K67.1
  have N66 := Fr.snoc X66 N60 g_r2
  obtain ⟨LS66, X66, N66⟩ : ∃ L, Stand p l e ({ frames := 0, cells := 0, slots := 0, locals := 0 } : Room) s m #[(.ref o0)] below meth c T66 L 0 0 ∧ Fr n0 L := ⟨_, X66, N66⟩
  have pre69 : ∀ t, Steps p.tables e below (T66.setTop (mkF m 5 #[.val (.ref o0), .val (.int (5 : Int32))] [(.int (20 : Int32)), (.int (5 : Int32))])) t → Steps p.tables e below (s₁.setTop (entryFrame m #[(.ref o0)] 2)) t := fun t kt => pre58 t (by
      show Steps p.tables e below (T57.setTop (mkF m 14 #[.val (.ref o0), .val (.int (4 : Int32))] [(.int (4 : Int32)), (.int (4 : Int32)), (.ref r1)])) _
      refine XS.ifYes X57.here hx rfl (pc0 := 14) (pc' := 21) rfl (hb hby d6_14) rfl ((if0 _ _).trans (feq (by decide : ¬ ((4 : Int32) = (0 : Int32)))).2) (by decide) (by decide) ?_
      show Steps p.tables e below (T57.setTop (mkF m 21 #[.val (.ref o0), .val (.int (4 : Int32))] [(.int (4 : Int32)), (.ref r1)])) _
      refine XS.iconst X57.here hx rfl (hb hby d6_21) ?_
      show Steps p.tables e below (T57.setTop (mkF m 22 #[.val (.ref o0), .val (.int (4 : Int32))] [(.int (0 : Int32)), (.int (4 : Int32)), (.ref r1)])) _
      refine st60 _ ?_
      show Steps p.tables e below (T60.setTop (mkF m 23 #[.val (.ref o0), .val (.int (4 : Int32))] [])) _
      refine XS.aloadN X60.here hx rfl (hb hby d6_23) rfl rfl ?_
      show Steps p.tables e below (T60.setTop (mkF m 24 #[.val (.ref o0), .val (.int (4 : Int32))] [(.ref o0)])) _
      refine st64 _ ?_
      show Steps p.tables e below (T64.setTop (mkF m 27 #[.val (.ref o0), .val (.int (4 : Int32))] [(.ref r2)])) _
      refine XS.iloadN X64.here hx rfl (hb hby d6_27) rfl ?_
      show Steps p.tables e below (T64.setTop (mkF m 28 #[.val (.ref o0), .val (.int (4 : Int32))] [(.int (4 : Int32)), (.ref r2)])) _
      refine XS.aconstNull X64.here hx rfl (hb hby d6_28) ?_
      show Steps p.tables e below (T64.setTop (mkF m 29 #[.val (.ref o0), .val (.int (4 : Int32))] [.null, (.int (4 : Int32)), (.ref r2)])) _
      refine st66 _ ?_
      show Steps p.tables e below (T66.setTop (mkF m 30 #[.val (.ref o0), .val (.int (4 : Int32))] [])) _
      refine XS.iinc X66.here hx rfl (hb hby d6_30) rfl (l' := #[.val (.ref o0), .val (.int (5 : Int32))]) rfl ?_
      show Steps p.tables e below (T66.setTop (mkF m 33 #[.val (.ref o0), .val (.int (5 : Int32))] [])) _
      refine XS.goto X66.here hx rfl (pc0 := 33) (pc' := 2) rfl (hb hby d6_33) (by decide) (by decide) ?_
      show Steps p.tables e below (T66.setTop (mkF m 2 #[.val (.ref o0), .val (.int (5 : Int32))] [])) _
      refine XS.iloadN X66.here hx rfl (hb hby d6_2) rfl ?_
      show Steps p.tables e below (T66.setTop (mkF m 3 #[.val (.ref o0), .val (.int (5 : Int32))] [(.int (5 : Int32))])) _
      refine XS.bipush X66.here hx rfl (hb hby d6_3) ?_
      exact kt)
  have c70 := ((c56.other W60 (Or.inl ne_o0_r1)).other W66 (Or.inl ne_o0_r2))
  obtain ⟨T71, X71, e71, st71⟩ := getF X66 hx hZ hown (host := "") (Or.inl (hw _ (List.mem_of_getElem? (i := 15) rfl))) Via.refl e66 c70 (g := (mkF m 9 #[.val (.ref o0), .val (.int (5 : Int32))] [(.ref o0)])) rfl rfl (hb hby d6_9)
  have pre72 : ∀ t, Steps p.tables e below (T71.setTop (mkF m 14 #[.val (.ref o0), .val (.int (5 : Int32))] [(.int (5 : Int32)), (.int (5 : Int32)), (.ref r1)])) t → Steps p.tables e below (s₁.setTop (entryFrame m #[(.ref o0)] 2)) t := fun t kt => pre69 t (by
      show Steps p.tables e below (T66.setTop (mkF m 5 #[.val (.ref o0), .val (.int (5 : Int32))] [(.int (20 : Int32)), (.int (5 : Int32))])) _
      refine XS.icmpNo X66.here hx rfl (hb hby d6_5) rfl (tlt (by decide : ((5 : Int32) < (20 : Int32)))).2.1 ?_
      show Steps p.tables e below (T66.setTop (mkF m 8 #[.val (.ref o0), .val (.int (5 : Int32))] [])) _
      refine XS.aloadN X66.here hx rfl (hb hby d6_8) rfl rfl ?_
      show Steps p.tables e below (T66.setTop (mkF m 9 #[.val (.ref o0), .val (.int (5 : Int32))] [(.ref o0)])) _
      refine st71 _ ?_
      show Steps p.tables e below (T71.setTop (mkF m 12 #[.val (.ref o0), .val (.int (5 : Int32))] [(.ref r1)])) _
      refine XS.iloadN X71.here hx rfl (hb hby d6_12) rfl ?_
      show Steps p.tables e below (T71.setTop (mkF m 13 #[.val (.ref o0), .val (.int (5 : Int32))] [(.int (5 : Int32)), (.ref r1)])) _
      refine XS.iloadN X71.here hx rfl (hb hby d6_13) rfl ?_
      exact kt)
  obtain ⟨cl73, Ar73, Sz73, Nn73, Hs73⟩ := id (V60.other W66 ne_r1_r2)
  have hin73 : ¬ ((5 : Int32) < 0 ∨ cl73.slots.size ≤ ((5 : Int32)).toNatClampNeg) := inb_of Sz73 ⟨by decide, by decide⟩
  obtain ⟨T74, h74, X74, e74, W74, st74⟩ := stZ X71 hx hZ e71 Ar73 (j := (5 : Int32)) hin73 (g := (mkF m 22 #[.val (.ref o0), .val (.int (5 : Int32))] [(.int (0 : Int32)), (.int (5 : Int32)), (.ref r1)])) rfl rfl (hb hby d6_22)
  have V74 : own_AI Z h74 r1 .boolean (20 : Int32) (own_upd (own_upd (own_upd (own_upd (own_upd (own_upd F1 0 (1 : Int32)) 1 (0 : Int32)) 2 (0 : Int32)) 3 (0 : Int32)) 4 (0 : Int32)) 5 (0 : Int32)) := own_AI.set (V60.other W66 ne_r1_r2) (fits_nar_bool (0 : Int32)) W74
  have K75 : Keep h0 h74 [r1, r2] := K67.wr W74 (Or.inl (List.mem_of_getElem? (i := 0) rfl))
  have Z76 : n0 ≤ h74.size := Nat.le_trans Z0 K75.1
  have N74 := Fr.snoc X74 N66 g_r1
  obtain ⟨LS74, X74, N74⟩ : ∃ L, Stand p l e ({ frames := 0, cells := 0, slots := 0, locals := 0 } : Room) s m #[(.ref o0)] below meth c T74 L 0 0 ∧ Fr n0 L := ⟨_, X74, N74⟩
  have c77 := ((c63.other W66 (Or.inl ne_o0_r2)).other W74 (Or.inl ne_o0_r1))
  obtain ⟨T78, X78, e78, st78⟩ := getF X74 hx hZ hown (host := "") (Or.inl (hw _ (List.mem_of_getElem? (i := 19) rfl))) Via.refl e74 c77 (g := (mkF m 24 #[.val (.ref o0), .val (.int (5 : Int32))] [(.ref o0)])) rfl rfl (hb hby d6_24)
  obtain ⟨cl79, Ar79, Sz79, Nn79, -⟩ := id (V66.other W74 (Ne.symm ne_r1_r2))
  have hin79 : ¬ ((5 : Int32) < 0 ∨ cl79.slots.size ≤ ((5 : Int32)).toNatClampNeg) := inb_of Sz79 ⟨by decide, by decide⟩
  obtain ⟨T80, h80, X80, e80, W80, st80⟩ := stR X78 hx hZ e78 Ar79 (j := (5 : Int32)) hin79 rfl (Or.inl rfl) (g := (mkF m 29 #[.val (.ref o0), .val (.int (5 : Int32))] [.null, (.int (5 : Int32)), (.ref r2)])) rfl rfl (hb hby d6_29)
  have V80 : own_AL Z h80 r2 (.object "com/example/cardhost/cardhost/InstalledApplet") (20 : Int32) := own_AL.set (V66.other W74 (Ne.symm ne_r1_r2)) W80
  have K81 : Keep h0 h80 [r1, r2] := K75.wr W80 (Or.inl (List.mem_of_getElem? (i := 1) rfl))
  have Z82 : n0 ≤ h80.size := Nat.le_trans Z0 K81.1
  have N80 := Fr.snoc X80 N74 g_r2
  obtain ⟨LS80, X80, N80⟩ : ∃ L, Stand p l e ({ frames := 0, cells := 0, slots := 0, locals := 0 } : Room) s m #[(.ref o0)] below meth c T80 L 0 0 ∧ Fr n0 L := ⟨_, X80, N80⟩
  have pre83 : ∀ t, Steps p.tables e below (T80.setTop (mkF m 5 #[.val (.ref o0), .val (.int (6 : Int32))] [(.int (20 : Int32)), (.int (6 : Int32))])) t → Steps p.tables e below (s₁.setTop (entryFrame m #[(.ref o0)] 2)) t := fun t kt => pre72 t (by
      show Steps p.tables e below (T71.setTop (mkF m 14 #[.val (.ref o0), .val (.int (5 : Int32))] [(.int (5 : Int32)), (.int (5 : Int32)), (.ref r1)])) _
      refine XS.ifYes X71.here hx rfl (pc0 := 14) (pc' := 21) rfl (hb hby d6_14) rfl ((if0 _ _).trans (feq (by decide : ¬ ((5 : Int32) = (0 : Int32)))).2) (by decide) (by decide) ?_
      show Steps p.tables e below (T71.setTop (mkF m 21 #[.val (.ref o0), .val (.int (5 : Int32))] [(.int (5 : Int32)), (.ref r1)])) _
      refine XS.iconst X71.here hx rfl (hb hby d6_21) ?_
      show Steps p.tables e below (T71.setTop (mkF m 22 #[.val (.ref o0), .val (.int (5 : Int32))] [(.int (0 : Int32)), (.int (5 : Int32)), (.ref r1)])) _
      refine st74 _ ?_
      show Steps p.tables e below (T74.setTop (mkF m 23 #[.val (.ref o0), .val (.int (5 : Int32))] [])) _
      refine XS.aloadN X74.here hx rfl (hb hby d6_23) rfl rfl ?_
      show Steps p.tables e below (T74.setTop (mkF m 24 #[.val (.ref o0), .val (.int (5 : Int32))] [(.ref o0)])) _
      refine st78 _ ?_
      show Steps p.tables e below (T78.setTop (mkF m 27 #[.val (.ref o0), .val (.int (5 : Int32))] [(.ref r2)])) _
      refine XS.iloadN X78.here hx rfl (hb hby d6_27) rfl ?_
      show Steps p.tables e below (T78.setTop (mkF m 28 #[.val (.ref o0), .val (.int (5 : Int32))] [(.int (5 : Int32)), (.ref r2)])) _
      refine XS.aconstNull X78.here hx rfl (hb hby d6_28) ?_
      show Steps p.tables e below (T78.setTop (mkF m 29 #[.val (.ref o0), .val (.int (5 : Int32))] [.null, (.int (5 : Int32)), (.ref r2)])) _
      refine st80 _ ?_
      show Steps p.tables e below (T80.setTop (mkF m 30 #[.val (.ref o0), .val (.int (5 : Int32))] [])) _
      refine XS.iinc X80.here hx rfl (hb hby d6_30) rfl (l' := #[.val (.ref o0), .val (.int (6 : Int32))]) rfl ?_
      show Steps p.tables e below (T80.setTop (mkF m 33 #[.val (.ref o0), .val (.int (6 : Int32))] [])) _
      refine XS.goto X80.here hx rfl (pc0 := 33) (pc' := 2) rfl (hb hby d6_33) (by decide) (by decide) ?_
      show Steps p.tables e below (T80.setTop (mkF m 2 #[.val (.ref o0), .val (.int (6 : Int32))] [])) _
      refine XS.iloadN X80.here hx rfl (hb hby d6_2) rfl ?_
      show Steps p.tables e below (T80.setTop (mkF m 3 #[.val (.ref o0), .val (.int (6 : Int32))] [(.int (6 : Int32))])) _
      refine XS.bipush X80.here hx rfl (hb hby d6_3) ?_
      exact kt)
  have c84 := ((c70.other W74 (Or.inl ne_o0_r1)).other W80 (Or.inl ne_o0_r2))
  obtain ⟨T85, X85, e85, st85⟩ := getF X80 hx hZ hown (host := "") (Or.inl (hw _ (List.mem_of_getElem? (i := 15) rfl))) Via.refl e80 c84 (g := (mkF m 9 #[.val (.ref o0), .val (.int (6 : Int32))] [(.ref o0)])) rfl rfl (hb hby d6_9)
  have pre86 : ∀ t, Steps p.tables e below (T85.setTop (mkF m 14 #[.val (.ref o0), .val (.int (6 : Int32))] [(.int (6 : Int32)), (.int (6 : Int32)), (.ref r1)])) t → Steps p.tables e below (s₁.setTop (entryFrame m #[(.ref o0)] 2)) t := fun t kt => pre83 t (by
      show Steps p.tables e below (T80.setTop (mkF m 5 #[.val (.ref o0), .val (.int (6 : Int32))] [(.int (20 : Int32)), (.int (6 : Int32))])) _
      refine XS.icmpNo X80.here hx rfl (hb hby d6_5) rfl (tlt (by decide : ((6 : Int32) < (20 : Int32)))).2.1 ?_
      show Steps p.tables e below (T80.setTop (mkF m 8 #[.val (.ref o0), .val (.int (6 : Int32))] [])) _
      refine XS.aloadN X80.here hx rfl (hb hby d6_8) rfl rfl ?_
      show Steps p.tables e below (T80.setTop (mkF m 9 #[.val (.ref o0), .val (.int (6 : Int32))] [(.ref o0)])) _
      refine st85 _ ?_
      show Steps p.tables e below (T85.setTop (mkF m 12 #[.val (.ref o0), .val (.int (6 : Int32))] [(.ref r1)])) _
      refine XS.iloadN X85.here hx rfl (hb hby d6_12) rfl ?_
      show Steps p.tables e below (T85.setTop (mkF m 13 #[.val (.ref o0), .val (.int (6 : Int32))] [(.int (6 : Int32)), (.ref r1)])) _
      refine XS.iloadN X85.here hx rfl (hb hby d6_13) rfl ?_
      exact kt)
  obtain ⟨cl87, Ar87, Sz87, Nn87, Hs87⟩ := id (V74.other W80 ne_r1_r2)
  have hin87 : ¬ ((6 : Int32) < 0 ∨ cl87.slots.size ≤ ((6 : Int32)).toNatClampNeg) := inb_of Sz87 ⟨by decide, by decide⟩
  obtain ⟨T88, h88, X88, e88, W88, st88⟩ := stZ X85 hx hZ e85 Ar87 (j := (6 : Int32)) hin87 (g := (mkF m 22 #[.val (.ref o0), .val (.int (6 : Int32))] [(.int (0 : Int32)), (.int (6 : Int32)), (.ref r1)])) rfl rfl (hb hby d6_22)
  have V88 : own_AI Z h88 r1 .boolean (20 : Int32) (own_upd (own_upd (own_upd (own_upd (own_upd (own_upd (own_upd F1 0 (1 : Int32)) 1 (0 : Int32)) 2 (0 : Int32)) 3 (0 : Int32)) 4 (0 : Int32)) 5 (0 : Int32)) 6 (0 : Int32)) := own_AI.set (V74.other W80 ne_r1_r2) (fits_nar_bool (0 : Int32)) W88
  have K89 : Keep h0 h88 [r1, r2] := K81.wr W88 (Or.inl (List.mem_of_getElem? (i := 0) rfl))
  have Z90 : n0 ≤ h88.size := Nat.le_trans Z0 K89.1
  have N88 := Fr.snoc X88 N80 g_r1
  obtain ⟨LS88, X88, N88⟩ : ∃ L, Stand p l e ({ frames := 0, cells := 0, slots := 0, locals := 0 } : Room) s m #[(.ref o0)] below meth c T88 L 0 0 ∧ Fr n0 L := ⟨_, X88, N88⟩
  have c91 := ((c77.other W80 (Or.inl ne_o0_r2)).other W88 (Or.inl ne_o0_r1))
  obtain ⟨T92, X92, e92, st92⟩ := getF X88 hx hZ hown (host := "") (Or.inl (hw _ (List.mem_of_getElem? (i := 19) rfl))) Via.refl e88 c91 (g := (mkF m 24 #[.val (.ref o0), .val (.int (6 : Int32))] [(.ref o0)])) rfl rfl (hb hby d6_24)
  obtain ⟨cl93, Ar93, Sz93, Nn93, -⟩ := id (V80.other W88 (Ne.symm ne_r1_r2))
  have hin93 : ¬ ((6 : Int32) < 0 ∨ cl93.slots.size ≤ ((6 : Int32)).toNatClampNeg) := inb_of Sz93 ⟨by decide, by decide⟩
  obtain ⟨T94, h94, X94, e94, W94, st94⟩ := stR X92 hx hZ e92 Ar93 (j := (6 : Int32)) hin93 rfl (Or.inl rfl) (g := (mkF m 29 #[.val (.ref o0), .val (.int (6 : Int32))] [.null, (.int (6 : Int32)), (.ref r2)])) rfl rfl (hb hby d6_29)
  have V94 : own_AL Z h94 r2 (.object "com/example/cardhost/cardhost/InstalledApplet") (20 : Int32) := own_AL.set (V80.other W88 (Ne.symm ne_r1_r2)) W94
  have K95 : Keep h0 h94 [r1, r2] := K89.wr W94 (Or.inl (List.mem_of_getElem? (i := 1) rfl))
  have Z96 : n0 ≤ h94.size := Nat.le_trans Z0 K95.1
  have N94 := Fr.snoc X94 N88 g_r2
  obtain ⟨LS94, X94, N94⟩ : ∃ L, Stand p l e ({ frames := 0, cells := 0, slots := 0, locals := 0 } : Room) s m #[(.ref o0)] below meth c T94 L 0 0 ∧ Fr n0 L := ⟨_, X94, N94⟩
  have pre97 : ∀ t, Steps p.tables e below (T94.setTop (mkF m 5 #[.val (.ref o0), .val (.int (7 : Int32))] [(.int (20 : Int32)), (.int (7 : Int32))])) t → Steps p.tables e below (s₁.setTop (entryFrame m #[(.ref o0)] 2)) t := fun t kt => pre86 t (by
      show Steps p.tables e below (T85.setTop (mkF m 14 #[.val (.ref o0), .val (.int (6 : Int32))] [(.int (6 : Int32)), (.int (6 : Int32)), (.ref r1)])) _
      refine XS.ifYes X85.here hx rfl (pc0 := 14) (pc' := 21) rfl (hb hby d6_14) rfl ((if0 _ _).trans (feq (by decide : ¬ ((6 : Int32) = (0 : Int32)))).2) (by decide) (by decide) ?_
      show Steps p.tables e below (T85.setTop (mkF m 21 #[.val (.ref o0), .val (.int (6 : Int32))] [(.int (6 : Int32)), (.ref r1)])) _
      refine XS.iconst X85.here hx rfl (hb hby d6_21) ?_
      show Steps p.tables e below (T85.setTop (mkF m 22 #[.val (.ref o0), .val (.int (6 : Int32))] [(.int (0 : Int32)), (.int (6 : Int32)), (.ref r1)])) _
      refine st88 _ ?_
      show Steps p.tables e below (T88.setTop (mkF m 23 #[.val (.ref o0), .val (.int (6 : Int32))] [])) _
      refine XS.aloadN X88.here hx rfl (hb hby d6_23) rfl rfl ?_
      show Steps p.tables e below (T88.setTop (mkF m 24 #[.val (.ref o0), .val (.int (6 : Int32))] [(.ref o0)])) _
      refine st92 _ ?_
      show Steps p.tables e below (T92.setTop (mkF m 27 #[.val (.ref o0), .val (.int (6 : Int32))] [(.ref r2)])) _
      refine XS.iloadN X92.here hx rfl (hb hby d6_27) rfl ?_
      show Steps p.tables e below (T92.setTop (mkF m 28 #[.val (.ref o0), .val (.int (6 : Int32))] [(.int (6 : Int32)), (.ref r2)])) _
      refine XS.aconstNull X92.here hx rfl (hb hby d6_28) ?_
      show Steps p.tables e below (T92.setTop (mkF m 29 #[.val (.ref o0), .val (.int (6 : Int32))] [.null, (.int (6 : Int32)), (.ref r2)])) _
      refine st94 _ ?_
      show Steps p.tables e below (T94.setTop (mkF m 30 #[.val (.ref o0), .val (.int (6 : Int32))] [])) _
      refine XS.iinc X94.here hx rfl (hb hby d6_30) rfl (l' := #[.val (.ref o0), .val (.int (7 : Int32))]) rfl ?_
      show Steps p.tables e below (T94.setTop (mkF m 33 #[.val (.ref o0), .val (.int (7 : Int32))] [])) _
      refine XS.goto X94.here hx rfl (pc0 := 33) (pc' := 2) rfl (hb hby d6_33) (by decide) (by decide) ?_
      show Steps p.tables e below (T94.setTop (mkF m 2 #[.val (.ref o0), .val (.int (7 : Int32))] [])) _
      refine XS.iloadN X94.here hx rfl (hb hby d6_2) rfl ?_
      show Steps p.tables e below (T94.setTop (mkF m 3 #[.val (.ref o0), .val (.int (7 : Int32))] [(.int (7 : Int32))])) _
      refine XS.bipush X94.here hx rfl (hb hby d6_3) ?_
      exact kt)
  have c98 := ((c84.other W88 (Or.inl ne_o0_r1)).other W94 (Or.inl ne_o0_r2))
  obtain ⟨T99, X99, e99, st99⟩ := getF X94 hx hZ hown (host := "") (Or.inl (hw _ (List.mem_of_getElem? (i := 15) rfl))) Via.refl e94 c98 (g := (mkF m 9 #[.val (.ref o0), .val (.int (7 : Int32))] [(.ref o0)])) rfl rfl (hb hby d6_9)
  have pre100 : ∀ t, Steps p.tables e below (T99.setTop (mkF m 14 #[.val (.ref o0), .val (.int (7 : Int32))] [(.int (7 : Int32)), (.int (7 : Int32)), (.ref r1)])) t → Steps p.tables e below (s₁.setTop (entryFrame m #[(.ref o0)] 2)) t := fun t kt => pre97 t (by
      show Steps p.tables e below (T94.setTop (mkF m 5 #[.val (.ref o0), .val (.int (7 : Int32))] [(.int (20 : Int32)), (.int (7 : Int32))])) _
      refine XS.icmpNo X94.here hx rfl (hb hby d6_5) rfl (tlt (by decide : ((7 : Int32) < (20 : Int32)))).2.1 ?_
      show Steps p.tables e below (T94.setTop (mkF m 8 #[.val (.ref o0), .val (.int (7 : Int32))] [])) _
      refine XS.aloadN X94.here hx rfl (hb hby d6_8) rfl rfl ?_
      show Steps p.tables e below (T94.setTop (mkF m 9 #[.val (.ref o0), .val (.int (7 : Int32))] [(.ref o0)])) _
      refine st99 _ ?_
      show Steps p.tables e below (T99.setTop (mkF m 12 #[.val (.ref o0), .val (.int (7 : Int32))] [(.ref r1)])) _
      refine XS.iloadN X99.here hx rfl (hb hby d6_12) rfl ?_
      show Steps p.tables e below (T99.setTop (mkF m 13 #[.val (.ref o0), .val (.int (7 : Int32))] [(.int (7 : Int32)), (.ref r1)])) _
      refine XS.iloadN X99.here hx rfl (hb hby d6_13) rfl ?_
      exact kt)
  obtain ⟨cl101, Ar101, Sz101, Nn101, Hs101⟩ := id (V88.other W94 ne_r1_r2)
  have hin101 : ¬ ((7 : Int32) < 0 ∨ cl101.slots.size ≤ ((7 : Int32)).toNatClampNeg) := inb_of Sz101 ⟨by decide, by decide⟩
  obtain ⟨T102, h102, X102, e102, W102, st102⟩ := stZ X99 hx hZ e99 Ar101 (j := (7 : Int32)) hin101 (g := (mkF m 22 #[.val (.ref o0), .val (.int (7 : Int32))] [(.int (0 : Int32)), (.int (7 : Int32)), (.ref r1)])) rfl rfl (hb hby d6_22)
  have V102 : own_AI Z h102 r1 .boolean (20 : Int32) (own_upd (own_upd (own_upd (own_upd (own_upd (own_upd (own_upd (own_upd F1 0 (1 : Int32)) 1 (0 : Int32)) 2 (0 : Int32)) 3 (0 : Int32)) 4 (0 : Int32)) 5 (0 : Int32)) 6 (0 : Int32)) 7 (0 : Int32)) := own_AI.set (V88.other W94 ne_r1_r2) (fits_nar_bool (0 : Int32)) W102
  have K103 : Keep h0 h102 [r1, r2] := K95.wr W102 (Or.inl (List.mem_of_getElem? (i := 0) rfl))
  have Z104 : n0 ≤ h102.size := Nat.le_trans Z0 K103.1
  have N102 := Fr.snoc X102 N94 g_r1
  obtain ⟨LS102, X102, N102⟩ : ∃ L, Stand p l e ({ frames := 0, cells := 0, slots := 0, locals := 0 } : Room) s m #[(.ref o0)] below meth c T102 L 0 0 ∧ Fr n0 L := ⟨_, X102, N102⟩
  have c105 := ((c91.other W94 (Or.inl ne_o0_r2)).other W102 (Or.inl ne_o0_r1))
  obtain ⟨T106, X106, e106, st106⟩ := getF X102 hx hZ hown (host := "") (Or.inl (hw _ (List.mem_of_getElem? (i := 19) rfl))) Via.refl e102 c105 (g := (mkF m 24 #[.val (.ref o0), .val (.int (7 : Int32))] [(.ref o0)])) rfl rfl (hb hby d6_24)
  obtain ⟨cl107, Ar107, Sz107, Nn107, -⟩ := id (V94.other W102 (Ne.symm ne_r1_r2))
  have hin107 : ¬ ((7 : Int32) < 0 ∨ cl107.slots.size ≤ ((7 : Int32)).toNatClampNeg) := inb_of Sz107 ⟨by decide, by decide⟩
  obtain ⟨T108, h108, X108, e108, W108, st108⟩ := stR X106 hx hZ e106 Ar107 (j := (7 : Int32)) hin107 rfl (Or.inl rfl) (g := (mkF m 29 #[.val (.ref o0), .val (.int (7 : Int32))] [.null, (.int (7 : Int32)), (.ref r2)])) rfl rfl (hb hby d6_29)
  have V108 : own_AL Z h108 r2 (.object "com/example/cardhost/cardhost/InstalledApplet") (20 : Int32) := own_AL.set (V94.other W102 (Ne.symm ne_r1_r2)) W108
  have K109 : Keep h0 h108 [r1, r2] := K103.wr W108 (Or.inl (List.mem_of_getElem? (i := 1) rfl))
  have Z110 : n0 ≤ h108.size := Nat.le_trans Z0 K109.1
  have N108 := Fr.snoc X108 N102 g_r2
  obtain ⟨LS108, X108, N108⟩ : ∃ L, Stand p l e ({ frames := 0, cells := 0, slots := 0, locals := 0 } : Room) s m #[(.ref o0)] below meth c T108 L 0 0 ∧ Fr n0 L := ⟨_, X108, N108⟩
  have pre111 : ∀ t, Steps p.tables e below (T108.setTop (mkF m 5 #[.val (.ref o0), .val (.int (8 : Int32))] [(.int (20 : Int32)), (.int (8 : Int32))])) t → Steps p.tables e below (s₁.setTop (entryFrame m #[(.ref o0)] 2)) t := fun t kt => pre100 t (by
      show Steps p.tables e below (T99.setTop (mkF m 14 #[.val (.ref o0), .val (.int (7 : Int32))] [(.int (7 : Int32)), (.int (7 : Int32)), (.ref r1)])) _
      refine XS.ifYes X99.here hx rfl (pc0 := 14) (pc' := 21) rfl (hb hby d6_14) rfl ((if0 _ _).trans (feq (by decide : ¬ ((7 : Int32) = (0 : Int32)))).2) (by decide) (by decide) ?_
      show Steps p.tables e below (T99.setTop (mkF m 21 #[.val (.ref o0), .val (.int (7 : Int32))] [(.int (7 : Int32)), (.ref r1)])) _
      refine XS.iconst X99.here hx rfl (hb hby d6_21) ?_
      show Steps p.tables e below (T99.setTop (mkF m 22 #[.val (.ref o0), .val (.int (7 : Int32))] [(.int (0 : Int32)), (.int (7 : Int32)), (.ref r1)])) _
      refine st102 _ ?_
      show Steps p.tables e below (T102.setTop (mkF m 23 #[.val (.ref o0), .val (.int (7 : Int32))] [])) _
      refine XS.aloadN X102.here hx rfl (hb hby d6_23) rfl rfl ?_
      show Steps p.tables e below (T102.setTop (mkF m 24 #[.val (.ref o0), .val (.int (7 : Int32))] [(.ref o0)])) _
      refine st106 _ ?_
      show Steps p.tables e below (T106.setTop (mkF m 27 #[.val (.ref o0), .val (.int (7 : Int32))] [(.ref r2)])) _
      refine XS.iloadN X106.here hx rfl (hb hby d6_27) rfl ?_
      show Steps p.tables e below (T106.setTop (mkF m 28 #[.val (.ref o0), .val (.int (7 : Int32))] [(.int (7 : Int32)), (.ref r2)])) _
      refine XS.aconstNull X106.here hx rfl (hb hby d6_28) ?_
      show Steps p.tables e below (T106.setTop (mkF m 29 #[.val (.ref o0), .val (.int (7 : Int32))] [.null, (.int (7 : Int32)), (.ref r2)])) _
      refine st108 _ ?_
      show Steps p.tables e below (T108.setTop (mkF m 30 #[.val (.ref o0), .val (.int (7 : Int32))] [])) _
      refine XS.iinc X108.here hx rfl (hb hby d6_30) rfl (l' := #[.val (.ref o0), .val (.int (8 : Int32))]) rfl ?_
      show Steps p.tables e below (T108.setTop (mkF m 33 #[.val (.ref o0), .val (.int (8 : Int32))] [])) _
      refine XS.goto X108.here hx rfl (pc0 := 33) (pc' := 2) rfl (hb hby d6_33) (by decide) (by decide) ?_
      show Steps p.tables e below (T108.setTop (mkF m 2 #[.val (.ref o0), .val (.int (8 : Int32))] [])) _
      refine XS.iloadN X108.here hx rfl (hb hby d6_2) rfl ?_
      show Steps p.tables e below (T108.setTop (mkF m 3 #[.val (.ref o0), .val (.int (8 : Int32))] [(.int (8 : Int32))])) _
      refine XS.bipush X108.here hx rfl (hb hby d6_3) ?_
      exact kt)
  have c112 := ((c98.other W102 (Or.inl ne_o0_r1)).other W108 (Or.inl ne_o0_r2))
  obtain ⟨T113, X113, e113, st113⟩ := getF X108 hx hZ hown (host := "") (Or.inl (hw _ (List.mem_of_getElem? (i := 15) rfl))) Via.refl e108 c112 (g := (mkF m 9 #[.val (.ref o0), .val (.int (8 : Int32))] [(.ref o0)])) rfl rfl (hb hby d6_9)
  have pre114 : ∀ t, Steps p.tables e below (T113.setTop (mkF m 14 #[.val (.ref o0), .val (.int (8 : Int32))] [(.int (8 : Int32)), (.int (8 : Int32)), (.ref r1)])) t → Steps p.tables e below (s₁.setTop (entryFrame m #[(.ref o0)] 2)) t := fun t kt => pre111 t (by
      show Steps p.tables e below (T108.setTop (mkF m 5 #[.val (.ref o0), .val (.int (8 : Int32))] [(.int (20 : Int32)), (.int (8 : Int32))])) _
      refine XS.icmpNo X108.here hx rfl (hb hby d6_5) rfl (tlt (by decide : ((8 : Int32) < (20 : Int32)))).2.1 ?_
      show Steps p.tables e below (T108.setTop (mkF m 8 #[.val (.ref o0), .val (.int (8 : Int32))] [])) _
      refine XS.aloadN X108.here hx rfl (hb hby d6_8) rfl rfl ?_
      show Steps p.tables e below (T108.setTop (mkF m 9 #[.val (.ref o0), .val (.int (8 : Int32))] [(.ref o0)])) _
      refine st113 _ ?_
      show Steps p.tables e below (T113.setTop (mkF m 12 #[.val (.ref o0), .val (.int (8 : Int32))] [(.ref r1)])) _
      refine XS.iloadN X113.here hx rfl (hb hby d6_12) rfl ?_
      show Steps p.tables e below (T113.setTop (mkF m 13 #[.val (.ref o0), .val (.int (8 : Int32))] [(.int (8 : Int32)), (.ref r1)])) _
      refine XS.iloadN X113.here hx rfl (hb hby d6_13) rfl ?_
      exact kt)
  obtain ⟨cl115, Ar115, Sz115, Nn115, Hs115⟩ := id (V102.other W108 ne_r1_r2)
  have hin115 : ¬ ((8 : Int32) < 0 ∨ cl115.slots.size ≤ ((8 : Int32)).toNatClampNeg) := inb_of Sz115 ⟨by decide, by decide⟩
  obtain ⟨T116, h116, X116, e116, W116, st116⟩ := stZ X113 hx hZ e113 Ar115 (j := (8 : Int32)) hin115 (g := (mkF m 22 #[.val (.ref o0), .val (.int (8 : Int32))] [(.int (0 : Int32)), (.int (8 : Int32)), (.ref r1)])) rfl rfl (hb hby d6_22)
  have V116 : own_AI Z h116 r1 .boolean (20 : Int32) (own_upd (own_upd (own_upd (own_upd (own_upd (own_upd (own_upd (own_upd (own_upd F1 0 (1 : Int32)) 1 (0 : Int32)) 2 (0 : Int32)) 3 (0 : Int32)) 4 (0 : Int32)) 5 (0 : Int32)) 6 (0 : Int32)) 7 (0 : Int32)) 8 (0 : Int32)) := own_AI.set (V102.other W108 ne_r1_r2) (fits_nar_bool (0 : Int32)) W116
  have K117 : Keep h0 h116 [r1, r2] := K109.wr W116 (Or.inl (List.mem_of_getElem? (i := 0) rfl))
  have Z118 : n0 ≤ h116.size := Nat.le_trans Z0 K117.1
  have N116 := Fr.snoc X116 N108 g_r1
  obtain ⟨LS116, X116, N116⟩ : ∃ L, Stand p l e ({ frames := 0, cells := 0, slots := 0, locals := 0 } : Room) s m #[(.ref o0)] below meth c T116 L 0 0 ∧ Fr n0 L := ⟨_, X116, N116⟩
  have c119 := ((c105.other W108 (Or.inl ne_o0_r2)).other W116 (Or.inl ne_o0_r1))
  obtain ⟨T120, X120, e120, st120⟩ := getF X116 hx hZ hown (host := "") (Or.inl (hw _ (List.mem_of_getElem? (i := 19) rfl))) Via.refl e116 c119 (g := (mkF m 24 #[.val (.ref o0), .val (.int (8 : Int32))] [(.ref o0)])) rfl rfl (hb hby d6_24)
  obtain ⟨cl121, Ar121, Sz121, Nn121, -⟩ := id (V108.other W116 (Ne.symm ne_r1_r2))
  have hin121 : ¬ ((8 : Int32) < 0 ∨ cl121.slots.size ≤ ((8 : Int32)).toNatClampNeg) := inb_of Sz121 ⟨by decide, by decide⟩
  obtain ⟨T122, h122, X122, e122, W122, st122⟩ := stR X120 hx hZ e120 Ar121 (j := (8 : Int32)) hin121 rfl (Or.inl rfl) (g := (mkF m 29 #[.val (.ref o0), .val (.int (8 : Int32))] [.null, (.int (8 : Int32)), (.ref r2)])) rfl rfl (hb hby d6_29)
  have V122 : own_AL Z h122 r2 (.object "com/example/cardhost/cardhost/InstalledApplet") (20 : Int32) := own_AL.set (V108.other W116 (Ne.symm ne_r1_r2)) W122
  have K123 : Keep h0 h122 [r1, r2] := K117.wr W122 (Or.inl (List.mem_of_getElem? (i := 1) rfl))
  have Z124 : n0 ≤ h122.size := Nat.le_trans Z0 K123.1
  have N122 := Fr.snoc X122 N116 g_r2
  obtain ⟨LS122, X122, N122⟩ : ∃ L, Stand p l e ({ frames := 0, cells := 0, slots := 0, locals := 0 } : Room) s m #[(.ref o0)] below meth c T122 L 0 0 ∧ Fr n0 L := ⟨_, X122, N122⟩
  have pre125 : ∀ t, Steps p.tables e below (T122.setTop (mkF m 5 #[.val (.ref o0), .val (.int (9 : Int32))] [(.int (20 : Int32)), (.int (9 : Int32))])) t → Steps p.tables e below (s₁.setTop (entryFrame m #[(.ref o0)] 2)) t := fun t kt => pre114 t (by
      show Steps p.tables e below (T113.setTop (mkF m 14 #[.val (.ref o0), .val (.int (8 : Int32))] [(.int (8 : Int32)), (.int (8 : Int32)), (.ref r1)])) _
      refine XS.ifYes X113.here hx rfl (pc0 := 14) (pc' := 21) rfl (hb hby d6_14) rfl ((if0 _ _).trans (feq (by decide : ¬ ((8 : Int32) = (0 : Int32)))).2) (by decide) (by decide) ?_
      show Steps p.tables e below (T113.setTop (mkF m 21 #[.val (.ref o0), .val (.int (8 : Int32))] [(.int (8 : Int32)), (.ref r1)])) _
      refine XS.iconst X113.here hx rfl (hb hby d6_21) ?_
      show Steps p.tables e below (T113.setTop (mkF m 22 #[.val (.ref o0), .val (.int (8 : Int32))] [(.int (0 : Int32)), (.int (8 : Int32)), (.ref r1)])) _
      refine st116 _ ?_
      show Steps p.tables e below (T116.setTop (mkF m 23 #[.val (.ref o0), .val (.int (8 : Int32))] [])) _
      refine XS.aloadN X116.here hx rfl (hb hby d6_23) rfl rfl ?_
      show Steps p.tables e below (T116.setTop (mkF m 24 #[.val (.ref o0), .val (.int (8 : Int32))] [(.ref o0)])) _
      refine st120 _ ?_
      show Steps p.tables e below (T120.setTop (mkF m 27 #[.val (.ref o0), .val (.int (8 : Int32))] [(.ref r2)])) _
      refine XS.iloadN X120.here hx rfl (hb hby d6_27) rfl ?_
      show Steps p.tables e below (T120.setTop (mkF m 28 #[.val (.ref o0), .val (.int (8 : Int32))] [(.int (8 : Int32)), (.ref r2)])) _
      refine XS.aconstNull X120.here hx rfl (hb hby d6_28) ?_
      show Steps p.tables e below (T120.setTop (mkF m 29 #[.val (.ref o0), .val (.int (8 : Int32))] [.null, (.int (8 : Int32)), (.ref r2)])) _
      refine st122 _ ?_
      show Steps p.tables e below (T122.setTop (mkF m 30 #[.val (.ref o0), .val (.int (8 : Int32))] [])) _
      refine XS.iinc X122.here hx rfl (hb hby d6_30) rfl (l' := #[.val (.ref o0), .val (.int (9 : Int32))]) rfl ?_
      show Steps p.tables e below (T122.setTop (mkF m 33 #[.val (.ref o0), .val (.int (9 : Int32))] [])) _
      refine XS.goto X122.here hx rfl (pc0 := 33) (pc' := 2) rfl (hb hby d6_33) (by decide) (by decide) ?_
      show Steps p.tables e below (T122.setTop (mkF m 2 #[.val (.ref o0), .val (.int (9 : Int32))] [])) _
      refine XS.iloadN X122.here hx rfl (hb hby d6_2) rfl ?_
      show Steps p.tables e below (T122.setTop (mkF m 3 #[.val (.ref o0), .val (.int (9 : Int32))] [(.int (9 : Int32))])) _
      refine XS.bipush X122.here hx rfl (hb hby d6_3) ?_
      exact kt)
  have c126 := ((c112.other W116 (Or.inl ne_o0_r1)).other W122 (Or.inl ne_o0_r2))
  obtain ⟨T127, X127, e127, st127⟩ := getF X122 hx hZ hown (host := "") (Or.inl (hw _ (List.mem_of_getElem? (i := 15) rfl))) Via.refl e122 c126 (g := (mkF m 9 #[.val (.ref o0), .val (.int (9 : Int32))] [(.ref o0)])) rfl rfl (hb hby d6_9)
  have pre128 : ∀ t, Steps p.tables e below (T127.setTop (mkF m 14 #[.val (.ref o0), .val (.int (9 : Int32))] [(.int (9 : Int32)), (.int (9 : Int32)), (.ref r1)])) t → Steps p.tables e below (s₁.setTop (entryFrame m #[(.ref o0)] 2)) t := fun t kt => pre125 t (by
      show Steps p.tables e below (T122.setTop (mkF m 5 #[.val (.ref o0), .val (.int (9 : Int32))] [(.int (20 : Int32)), (.int (9 : Int32))])) _
      refine XS.icmpNo X122.here hx rfl (hb hby d6_5) rfl (tlt (by decide : ((9 : Int32) < (20 : Int32)))).2.1 ?_
      show Steps p.tables e below (T122.setTop (mkF m 8 #[.val (.ref o0), .val (.int (9 : Int32))] [])) _
      refine XS.aloadN X122.here hx rfl (hb hby d6_8) rfl rfl ?_
      show Steps p.tables e below (T122.setTop (mkF m 9 #[.val (.ref o0), .val (.int (9 : Int32))] [(.ref o0)])) _
      refine st127 _ ?_
      show Steps p.tables e below (T127.setTop (mkF m 12 #[.val (.ref o0), .val (.int (9 : Int32))] [(.ref r1)])) _
      refine XS.iloadN X127.here hx rfl (hb hby d6_12) rfl ?_
      show Steps p.tables e below (T127.setTop (mkF m 13 #[.val (.ref o0), .val (.int (9 : Int32))] [(.int (9 : Int32)), (.ref r1)])) _
      refine XS.iloadN X127.here hx rfl (hb hby d6_13) rfl ?_
      exact kt)
  obtain ⟨cl129, Ar129, Sz129, Nn129, Hs129⟩ := id (V116.other W122 ne_r1_r2)
  have hin129 : ¬ ((9 : Int32) < 0 ∨ cl129.slots.size ≤ ((9 : Int32)).toNatClampNeg) := inb_of Sz129 ⟨by decide, by decide⟩
  obtain ⟨T130, h130, X130, e130, W130, st130⟩ := stZ X127 hx hZ e127 Ar129 (j := (9 : Int32)) hin129 (g := (mkF m 22 #[.val (.ref o0), .val (.int (9 : Int32))] [(.int (0 : Int32)), (.int (9 : Int32)), (.ref r1)])) rfl rfl (hb hby d6_22)
  have V130 : own_AI Z h130 r1 .boolean (20 : Int32) (own_upd (own_upd (own_upd (own_upd (own_upd (own_upd (own_upd (own_upd (own_upd (own_upd F1 0 (1 : Int32)) 1 (0 : Int32)) 2 (0 : Int32)) 3 (0 : Int32)) 4 (0 : Int32)) 5 (0 : Int32)) 6 (0 : Int32)) 7 (0 : Int32)) 8 (0 : Int32)) 9 (0 : Int32)) := own_AI.set (V116.other W122 ne_r1_r2) (fits_nar_bool (0 : Int32)) W130
  have K131 : Keep h0 h130 [r1, r2] := K123.wr W130 (Or.inl (List.mem_of_getElem? (i := 0) rfl))
  have Z132 : n0 ≤ h130.size := Nat.le_trans Z0 K131.1
  have N130 := Fr.snoc X130 N122 g_r1
  obtain ⟨LS130, X130, N130⟩ : ∃ L, Stand p l e ({ frames := 0, cells := 0, slots := 0, locals := 0 } : Room) s m #[(.ref o0)] below meth c T130 L 0 0 ∧ Fr n0 L := ⟨_, X130, N130⟩
  have c133 := ((c119.other W122 (Or.inl ne_o0_r2)).other W130 (Or.inl ne_o0_r1))
  obtain ⟨T134, X134, e134, st134⟩ := getF X130 hx hZ hown (host := "") (Or.inl (hw _ (List.mem_of_getElem? (i := 19) rfl))) Via.refl e130 c133 (g := (mkF m 24 #[.val (.ref o0), .val (.int (9 : Int32))] [(.ref o0)])) rfl rfl (hb hby d6_24)
  obtain ⟨cl135, Ar135, Sz135, Nn135, -⟩ := id (V122.other W130 (Ne.symm ne_r1_r2))
  have hin135 : ¬ ((9 : Int32) < 0 ∨ cl135.slots.size ≤ ((9 : Int32)).toNatClampNeg) := inb_of Sz135 ⟨by decide, by decide⟩
  obtain ⟨T136, h136, X136, e136, W136, st136⟩ := stR X134 hx hZ e134 Ar135 (j := (9 : Int32)) hin135 rfl (Or.inl rfl) (g := (mkF m 29 #[.val (.ref o0), .val (.int (9 : Int32))] [.null, (.int (9 : Int32)), (.ref r2)])) rfl rfl (hb hby d6_29)
  have V136 : own_AL Z h136 r2 (.object "com/example/cardhost/cardhost/InstalledApplet") (20 : Int32) := own_AL.set (V122.other W130 (Ne.symm ne_r1_r2)) W136
  have K137 : Keep h0 h136 [r1, r2] := K131.wr W136 (Or.inl (List.mem_of_getElem? (i := 1) rfl))
  have Z138 : n0 ≤ h136.size := Nat.le_trans Z0 K137.1
  have N136 := Fr.snoc X136 N130 g_r2
  obtain ⟨LS136, X136, N136⟩ : ∃ L, Stand p l e ({ frames := 0, cells := 0, slots := 0, locals := 0 } : Room) s m #[(.ref o0)] below meth c T136 L 0 0 ∧ Fr n0 L := ⟨_, X136, N136⟩
  have pre139 : ∀ t, Steps p.tables e below (T136.setTop (mkF m 5 #[.val (.ref o0), .val (.int (10 : Int32))] [(.int (20 : Int32)), (.int (10 : Int32))])) t → Steps p.tables e below (s₁.setTop (entryFrame m #[(.ref o0)] 2)) t := fun t kt => pre128 t (by
      show Steps p.tables e below (T127.setTop (mkF m 14 #[.val (.ref o0), .val (.int (9 : Int32))] [(.int (9 : Int32)), (.int (9 : Int32)), (.ref r1)])) _
      refine XS.ifYes X127.here hx rfl (pc0 := 14) (pc' := 21) rfl (hb hby d6_14) rfl ((if0 _ _).trans (feq (by decide : ¬ ((9 : Int32) = (0 : Int32)))).2) (by decide) (by decide) ?_
      show Steps p.tables e below (T127.setTop (mkF m 21 #[.val (.ref o0), .val (.int (9 : Int32))] [(.int (9 : Int32)), (.ref r1)])) _
      refine XS.iconst X127.here hx rfl (hb hby d6_21) ?_
      show Steps p.tables e below (T127.setTop (mkF m 22 #[.val (.ref o0), .val (.int (9 : Int32))] [(.int (0 : Int32)), (.int (9 : Int32)), (.ref r1)])) _
      refine st130 _ ?_
      show Steps p.tables e below (T130.setTop (mkF m 23 #[.val (.ref o0), .val (.int (9 : Int32))] [])) _
      refine XS.aloadN X130.here hx rfl (hb hby d6_23) rfl rfl ?_
      show Steps p.tables e below (T130.setTop (mkF m 24 #[.val (.ref o0), .val (.int (9 : Int32))] [(.ref o0)])) _
      refine st134 _ ?_
      show Steps p.tables e below (T134.setTop (mkF m 27 #[.val (.ref o0), .val (.int (9 : Int32))] [(.ref r2)])) _
      refine XS.iloadN X134.here hx rfl (hb hby d6_27) rfl ?_
      show Steps p.tables e below (T134.setTop (mkF m 28 #[.val (.ref o0), .val (.int (9 : Int32))] [(.int (9 : Int32)), (.ref r2)])) _
      refine XS.aconstNull X134.here hx rfl (hb hby d6_28) ?_
      show Steps p.tables e below (T134.setTop (mkF m 29 #[.val (.ref o0), .val (.int (9 : Int32))] [.null, (.int (9 : Int32)), (.ref r2)])) _
      refine st136 _ ?_
      show Steps p.tables e below (T136.setTop (mkF m 30 #[.val (.ref o0), .val (.int (9 : Int32))] [])) _
      refine XS.iinc X136.here hx rfl (hb hby d6_30) rfl (l' := #[.val (.ref o0), .val (.int (10 : Int32))]) rfl ?_
      show Steps p.tables e below (T136.setTop (mkF m 33 #[.val (.ref o0), .val (.int (10 : Int32))] [])) _
      refine XS.goto X136.here hx rfl (pc0 := 33) (pc' := 2) rfl (hb hby d6_33) (by decide) (by decide) ?_
      show Steps p.tables e below (T136.setTop (mkF m 2 #[.val (.ref o0), .val (.int (10 : Int32))] [])) _
      refine XS.iloadN X136.here hx rfl (hb hby d6_2) rfl ?_
      show Steps p.tables e below (T136.setTop (mkF m 3 #[.val (.ref o0), .val (.int (10 : Int32))] [(.int (10 : Int32))])) _
      refine XS.bipush X136.here hx rfl (hb hby d6_3) ?_
      exact kt)
  have c140 := ((c126.other W130 (Or.inl ne_o0_r1)).other W136 (Or.inl ne_o0_r2))
  obtain ⟨T141, X141, e141, st141⟩ := getF X136 hx hZ hown (host := "") (Or.inl (hw _ (List.mem_of_getElem? (i := 15) rfl))) Via.refl e136 c140 (g := (mkF m 9 #[.val (.ref o0), .val (.int (10 : Int32))] [(.ref o0)])) rfl rfl (hb hby d6_9)
  have pre142 : ∀ t, Steps p.tables e below (T141.setTop (mkF m 14 #[.val (.ref o0), .val (.int (10 : Int32))] [(.int (10 : Int32)), (.int (10 : Int32)), (.ref r1)])) t → Steps p.tables e below (s₁.setTop (entryFrame m #[(.ref o0)] 2)) t := fun t kt => pre139 t (by
      show Steps p.tables e below (T136.setTop (mkF m 5 #[.val (.ref o0), .val (.int (10 : Int32))] [(.int (20 : Int32)), (.int (10 : Int32))])) _
      refine XS.icmpNo X136.here hx rfl (hb hby d6_5) rfl (tlt (by decide : ((10 : Int32) < (20 : Int32)))).2.1 ?_
      show Steps p.tables e below (T136.setTop (mkF m 8 #[.val (.ref o0), .val (.int (10 : Int32))] [])) _
      refine XS.aloadN X136.here hx rfl (hb hby d6_8) rfl rfl ?_
      show Steps p.tables e below (T136.setTop (mkF m 9 #[.val (.ref o0), .val (.int (10 : Int32))] [(.ref o0)])) _
      refine st141 _ ?_
      show Steps p.tables e below (T141.setTop (mkF m 12 #[.val (.ref o0), .val (.int (10 : Int32))] [(.ref r1)])) _
      refine XS.iloadN X141.here hx rfl (hb hby d6_12) rfl ?_
      show Steps p.tables e below (T141.setTop (mkF m 13 #[.val (.ref o0), .val (.int (10 : Int32))] [(.int (10 : Int32)), (.ref r1)])) _
      refine XS.iloadN X141.here hx rfl (hb hby d6_13) rfl ?_
      exact kt)
  obtain ⟨cl143, Ar143, Sz143, Nn143, Hs143⟩ := id (V130.other W136 ne_r1_r2)
  have hin143 : ¬ ((10 : Int32) < 0 ∨ cl143.slots.size ≤ ((10 : Int32)).toNatClampNeg) := inb_of Sz143 ⟨by decide, by decide⟩
  obtain ⟨T144, h144, X144, e144, W144, st144⟩ := stZ X141 hx hZ e141 Ar143 (j := (10 : Int32)) hin143 (g := (mkF m 22 #[.val (.ref o0), .val (.int (10 : Int32))] [(.int (0 : Int32)), (.int (10 : Int32)), (.ref r1)])) rfl rfl (hb hby d6_22)
  have V144 : own_AI Z h144 r1 .boolean (20 : Int32) (own_upd (own_upd (own_upd (own_upd (own_upd (own_upd (own_upd (own_upd (own_upd (own_upd (own_upd F1 0 (1 : Int32)) 1 (0 : Int32)) 2 (0 : Int32)) 3 (0 : Int32)) 4 (0 : Int32)) 5 (0 : Int32)) 6 (0 : Int32)) 7 (0 : Int32)) 8 (0 : Int32)) 9 (0 : Int32)) 10 (0 : Int32)) := own_AI.set (V130.other W136 ne_r1_r2) (fits_nar_bool (0 : Int32)) W144
  have K145 : Keep h0 h144 [r1, r2] := K137.wr W144 (Or.inl (List.mem_of_getElem? (i := 0) rfl))
  have Z146 : n0 ≤ h144.size := Nat.le_trans Z0 K145.1
  have N144 := Fr.snoc X144 N136 g_r1
  obtain ⟨LS144, X144, N144⟩ : ∃ L, Stand p l e ({ frames := 0, cells := 0, slots := 0, locals := 0 } : Room) s m #[(.ref o0)] below meth c T144 L 0 0 ∧ Fr n0 L := ⟨_, X144, N144⟩
  have c147 := ((c133.other W136 (Or.inl ne_o0_r2)).other W144 (Or.inl ne_o0_r1))
  obtain ⟨T148, X148, e148, st148⟩ := getF X144 hx hZ hown (host := "") (Or.inl (hw _ (List.mem_of_getElem? (i := 19) rfl))) Via.refl e144 c147 (g := (mkF m 24 #[.val (.ref o0), .val (.int (10 : Int32))] [(.ref o0)])) rfl rfl (hb hby d6_24)
  obtain ⟨cl149, Ar149, Sz149, Nn149, -⟩ := id (V136.other W144 (Ne.symm ne_r1_r2))
  have hin149 : ¬ ((10 : Int32) < 0 ∨ cl149.slots.size ≤ ((10 : Int32)).toNatClampNeg) := inb_of Sz149 ⟨by decide, by decide⟩
  obtain ⟨T150, h150, X150, e150, W150, st150⟩ := stR X148 hx hZ e148 Ar149 (j := (10 : Int32)) hin149 rfl (Or.inl rfl) (g := (mkF m 29 #[.val (.ref o0), .val (.int (10 : Int32))] [.null, (.int (10 : Int32)), (.ref r2)])) rfl rfl (hb hby d6_29)
  have V150 : own_AL Z h150 r2 (.object "com/example/cardhost/cardhost/InstalledApplet") (20 : Int32) := own_AL.set (V136.other W144 (Ne.symm ne_r1_r2)) W150
  have K151 : Keep h0 h150 [r1, r2] := K145.wr W150 (Or.inl (List.mem_of_getElem? (i := 1) rfl))
  have Z152 : n0 ≤ h150.size := Nat.le_trans Z0 K151.1
  have N150 := Fr.snoc X150 N144 g_r2
  obtain ⟨LS150, X150, N150⟩ : ∃ L, Stand p l e ({ frames := 0, cells := 0, slots := 0, locals := 0 } : Room) s m #[(.ref o0)] below meth c T150 L 0 0 ∧ Fr n0 L := ⟨_, X150, N150⟩
  have pre153 : ∀ t, Steps p.tables e below (T150.setTop (mkF m 5 #[.val (.ref o0), .val (.int (11 : Int32))] [(.int (20 : Int32)), (.int (11 : Int32))])) t → Steps p.tables e below (s₁.setTop (entryFrame m #[(.ref o0)] 2)) t := fun t kt => pre142 t (by
      show Steps p.tables e below (T141.setTop (mkF m 14 #[.val (.ref o0), .val (.int (10 : Int32))] [(.int (10 : Int32)), (.int (10 : Int32)), (.ref r1)])) _
      refine XS.ifYes X141.here hx rfl (pc0 := 14) (pc' := 21) rfl (hb hby d6_14) rfl ((if0 _ _).trans (feq (by decide : ¬ ((10 : Int32) = (0 : Int32)))).2) (by decide) (by decide) ?_
      show Steps p.tables e below (T141.setTop (mkF m 21 #[.val (.ref o0), .val (.int (10 : Int32))] [(.int (10 : Int32)), (.ref r1)])) _
      refine XS.iconst X141.here hx rfl (hb hby d6_21) ?_
      show Steps p.tables e below (T141.setTop (mkF m 22 #[.val (.ref o0), .val (.int (10 : Int32))] [(.int (0 : Int32)), (.int (10 : Int32)), (.ref r1)])) _
      refine st144 _ ?_
      show Steps p.tables e below (T144.setTop (mkF m 23 #[.val (.ref o0), .val (.int (10 : Int32))] [])) _
      refine XS.aloadN X144.here hx rfl (hb hby d6_23) rfl rfl ?_
      show Steps p.tables e below (T144.setTop (mkF m 24 #[.val (.ref o0), .val (.int (10 : Int32))] [(.ref o0)])) _
      refine st148 _ ?_
      show Steps p.tables e below (T148.setTop (mkF m 27 #[.val (.ref o0), .val (.int (10 : Int32))] [(.ref r2)])) _
      refine XS.iloadN X148.here hx rfl (hb hby d6_27) rfl ?_
      show Steps p.tables e below (T148.setTop (mkF m 28 #[.val (.ref o0), .val (.int (10 : Int32))] [(.int (10 : Int32)), (.ref r2)])) _
      refine XS.aconstNull X148.here hx rfl (hb hby d6_28) ?_
      show Steps p.tables e below (T148.setTop (mkF m 29 #[.val (.ref o0), .val (.int (10 : Int32))] [.null, (.int (10 : Int32)), (.ref r2)])) _
      refine st150 _ ?_
      show Steps p.tables e below (T150.setTop (mkF m 30 #[.val (.ref o0), .val (.int (10 : Int32))] [])) _
      refine XS.iinc X150.here hx rfl (hb hby d6_30) rfl (l' := #[.val (.ref o0), .val (.int (11 : Int32))]) rfl ?_
      show Steps p.tables e below (T150.setTop (mkF m 33 #[.val (.ref o0), .val (.int (11 : Int32))] [])) _
      refine XS.goto X150.here hx rfl (pc0 := 33) (pc' := 2) rfl (hb hby d6_33) (by decide) (by decide) ?_
      show Steps p.tables e below (T150.setTop (mkF m 2 #[.val (.ref o0), .val (.int (11 : Int32))] [])) _
      refine XS.iloadN X150.here hx rfl (hb hby d6_2) rfl ?_
      show Steps p.tables e below (T150.setTop (mkF m 3 #[.val (.ref o0), .val (.int (11 : Int32))] [(.int (11 : Int32))])) _
      refine XS.bipush X150.here hx rfl (hb hby d6_3) ?_
      exact kt)
  have c154 := ((c140.other W144 (Or.inl ne_o0_r1)).other W150 (Or.inl ne_o0_r2))
  obtain ⟨T155, X155, e155, st155⟩ := getF X150 hx hZ hown (host := "") (Or.inl (hw _ (List.mem_of_getElem? (i := 15) rfl))) Via.refl e150 c154 (g := (mkF m 9 #[.val (.ref o0), .val (.int (11 : Int32))] [(.ref o0)])) rfl rfl (hb hby d6_9)
  have pre156 : ∀ t, Steps p.tables e below (T155.setTop (mkF m 14 #[.val (.ref o0), .val (.int (11 : Int32))] [(.int (11 : Int32)), (.int (11 : Int32)), (.ref r1)])) t → Steps p.tables e below (s₁.setTop (entryFrame m #[(.ref o0)] 2)) t := fun t kt => pre153 t (by
      show Steps p.tables e below (T150.setTop (mkF m 5 #[.val (.ref o0), .val (.int (11 : Int32))] [(.int (20 : Int32)), (.int (11 : Int32))])) _
      refine XS.icmpNo X150.here hx rfl (hb hby d6_5) rfl (tlt (by decide : ((11 : Int32) < (20 : Int32)))).2.1 ?_
      show Steps p.tables e below (T150.setTop (mkF m 8 #[.val (.ref o0), .val (.int (11 : Int32))] [])) _
      refine XS.aloadN X150.here hx rfl (hb hby d6_8) rfl rfl ?_
      show Steps p.tables e below (T150.setTop (mkF m 9 #[.val (.ref o0), .val (.int (11 : Int32))] [(.ref o0)])) _
      refine st155 _ ?_
      show Steps p.tables e below (T155.setTop (mkF m 12 #[.val (.ref o0), .val (.int (11 : Int32))] [(.ref r1)])) _
      refine XS.iloadN X155.here hx rfl (hb hby d6_12) rfl ?_
      show Steps p.tables e below (T155.setTop (mkF m 13 #[.val (.ref o0), .val (.int (11 : Int32))] [(.int (11 : Int32)), (.ref r1)])) _
      refine XS.iloadN X155.here hx rfl (hb hby d6_13) rfl ?_
      exact kt)
  obtain ⟨cl157, Ar157, Sz157, Nn157, Hs157⟩ := id (V144.other W150 ne_r1_r2)
  have hin157 : ¬ ((11 : Int32) < 0 ∨ cl157.slots.size ≤ ((11 : Int32)).toNatClampNeg) := inb_of Sz157 ⟨by decide, by decide⟩
  obtain ⟨T158, h158, X158, e158, W158, st158⟩ := stZ X155 hx hZ e155 Ar157 (j := (11 : Int32)) hin157 (g := (mkF m 22 #[.val (.ref o0), .val (.int (11 : Int32))] [(.int (0 : Int32)), (.int (11 : Int32)), (.ref r1)])) rfl rfl (hb hby d6_22)
  have V158 : own_AI Z h158 r1 .boolean (20 : Int32) (own_upd (own_upd (own_upd (own_upd (own_upd (own_upd (own_upd (own_upd (own_upd (own_upd (own_upd (own_upd F1 0 (1 : Int32)) 1 (0 : Int32)) 2 (0 : Int32)) 3 (0 : Int32)) 4 (0 : Int32)) 5 (0 : Int32)) 6 (0 : Int32)) 7 (0 : Int32)) 8 (0 : Int32)) 9 (0 : Int32)) 10 (0 : Int32)) 11 (0 : Int32)) := own_AI.set (V144.other W150 ne_r1_r2) (fits_nar_bool (0 : Int32)) W158
  have K159 : Keep h0 h158 [r1, r2] := K151.wr W158 (Or.inl (List.mem_of_getElem? (i := 0) rfl))
  have Z160 : n0 ≤ h158.size := Nat.le_trans Z0 K159.1
  have N158 := Fr.snoc X158 N150 g_r1
  obtain ⟨LS158, X158, N158⟩ : ∃ L, Stand p l e ({ frames := 0, cells := 0, slots := 0, locals := 0 } : Room) s m #[(.ref o0)] below meth c T158 L 0 0 ∧ Fr n0 L := ⟨_, X158, N158⟩
  have c161 := ((c147.other W150 (Or.inl ne_o0_r2)).other W158 (Or.inl ne_o0_r1))
  obtain ⟨T162, X162, e162, st162⟩ := getF X158 hx hZ hown (host := "") (Or.inl (hw _ (List.mem_of_getElem? (i := 19) rfl))) Via.refl e158 c161 (g := (mkF m 24 #[.val (.ref o0), .val (.int (11 : Int32))] [(.ref o0)])) rfl rfl (hb hby d6_24)
  obtain ⟨cl163, Ar163, Sz163, Nn163, -⟩ := id (V150.other W158 (Ne.symm ne_r1_r2))
  have hin163 : ¬ ((11 : Int32) < 0 ∨ cl163.slots.size ≤ ((11 : Int32)).toNatClampNeg) := inb_of Sz163 ⟨by decide, by decide⟩
  obtain ⟨T164, h164, X164, e164, W164, st164⟩ := stR X162 hx hZ e162 Ar163 (j := (11 : Int32)) hin163 rfl (Or.inl rfl) (g := (mkF m 29 #[.val (.ref o0), .val (.int (11 : Int32))] [.null, (.int (11 : Int32)), (.ref r2)])) rfl rfl (hb hby d6_29)
  have V164 : own_AL Z h164 r2 (.object "com/example/cardhost/cardhost/InstalledApplet") (20 : Int32) := own_AL.set (V150.other W158 (Ne.symm ne_r1_r2)) W164
  have K165 : Keep h0 h164 [r1, r2] := K159.wr W164 (Or.inl (List.mem_of_getElem? (i := 1) rfl))
  have Z166 : n0 ≤ h164.size := Nat.le_trans Z0 K165.1
  have N164 := Fr.snoc X164 N158 g_r2
  obtain ⟨LS164, X164, N164⟩ : ∃ L, Stand p l e ({ frames := 0, cells := 0, slots := 0, locals := 0 } : Room) s m #[(.ref o0)] below meth c T164 L 0 0 ∧ Fr n0 L := ⟨_, X164, N164⟩
  have pre167 : ∀ t, Steps p.tables e below (T164.setTop (mkF m 5 #[.val (.ref o0), .val (.int (12 : Int32))] [(.int (20 : Int32)), (.int (12 : Int32))])) t → Steps p.tables e below (s₁.setTop (entryFrame m #[(.ref o0)] 2)) t := fun t kt => pre156 t (by
      show Steps p.tables e below (T155.setTop (mkF m 14 #[.val (.ref o0), .val (.int (11 : Int32))] [(.int (11 : Int32)), (.int (11 : Int32)), (.ref r1)])) _
      refine XS.ifYes X155.here hx rfl (pc0 := 14) (pc' := 21) rfl (hb hby d6_14) rfl ((if0 _ _).trans (feq (by decide : ¬ ((11 : Int32) = (0 : Int32)))).2) (by decide) (by decide) ?_
      show Steps p.tables e below (T155.setTop (mkF m 21 #[.val (.ref o0), .val (.int (11 : Int32))] [(.int (11 : Int32)), (.ref r1)])) _
      refine XS.iconst X155.here hx rfl (hb hby d6_21) ?_
      show Steps p.tables e below (T155.setTop (mkF m 22 #[.val (.ref o0), .val (.int (11 : Int32))] [(.int (0 : Int32)), (.int (11 : Int32)), (.ref r1)])) _
      refine st158 _ ?_
      show Steps p.tables e below (T158.setTop (mkF m 23 #[.val (.ref o0), .val (.int (11 : Int32))] [])) _
      refine XS.aloadN X158.here hx rfl (hb hby d6_23) rfl rfl ?_
      show Steps p.tables e below (T158.setTop (mkF m 24 #[.val (.ref o0), .val (.int (11 : Int32))] [(.ref o0)])) _
      refine st162 _ ?_
      show Steps p.tables e below (T162.setTop (mkF m 27 #[.val (.ref o0), .val (.int (11 : Int32))] [(.ref r2)])) _
      refine XS.iloadN X162.here hx rfl (hb hby d6_27) rfl ?_
      show Steps p.tables e below (T162.setTop (mkF m 28 #[.val (.ref o0), .val (.int (11 : Int32))] [(.int (11 : Int32)), (.ref r2)])) _
      refine XS.aconstNull X162.here hx rfl (hb hby d6_28) ?_
      show Steps p.tables e below (T162.setTop (mkF m 29 #[.val (.ref o0), .val (.int (11 : Int32))] [.null, (.int (11 : Int32)), (.ref r2)])) _
      refine st164 _ ?_
      show Steps p.tables e below (T164.setTop (mkF m 30 #[.val (.ref o0), .val (.int (11 : Int32))] [])) _
      refine XS.iinc X164.here hx rfl (hb hby d6_30) rfl (l' := #[.val (.ref o0), .val (.int (12 : Int32))]) rfl ?_
      show Steps p.tables e below (T164.setTop (mkF m 33 #[.val (.ref o0), .val (.int (12 : Int32))] [])) _
      refine XS.goto X164.here hx rfl (pc0 := 33) (pc' := 2) rfl (hb hby d6_33) (by decide) (by decide) ?_
      show Steps p.tables e below (T164.setTop (mkF m 2 #[.val (.ref o0), .val (.int (12 : Int32))] [])) _
      refine XS.iloadN X164.here hx rfl (hb hby d6_2) rfl ?_
      show Steps p.tables e below (T164.setTop (mkF m 3 #[.val (.ref o0), .val (.int (12 : Int32))] [(.int (12 : Int32))])) _
      refine XS.bipush X164.here hx rfl (hb hby d6_3) ?_
      exact kt)
  have c168 := ((c154.other W158 (Or.inl ne_o0_r1)).other W164 (Or.inl ne_o0_r2))
  obtain ⟨T169, X169, e169, st169⟩ := getF X164 hx hZ hown (host := "") (Or.inl (hw _ (List.mem_of_getElem? (i := 15) rfl))) Via.refl e164 c168 (g := (mkF m 9 #[.val (.ref o0), .val (.int (12 : Int32))] [(.ref o0)])) rfl rfl (hb hby d6_9)
  have pre170 : ∀ t, Steps p.tables e below (T169.setTop (mkF m 14 #[.val (.ref o0), .val (.int (12 : Int32))] [(.int (12 : Int32)), (.int (12 : Int32)), (.ref r1)])) t → Steps p.tables e below (s₁.setTop (entryFrame m #[(.ref o0)] 2)) t := fun t kt => pre167 t (by
      show Steps p.tables e below (T164.setTop (mkF m 5 #[.val (.ref o0), .val (.int (12 : Int32))] [(.int (20 : Int32)), (.int (12 : Int32))])) _
      refine XS.icmpNo X164.here hx rfl (hb hby d6_5) rfl (tlt (by decide : ((12 : Int32) < (20 : Int32)))).2.1 ?_
      show Steps p.tables e below (T164.setTop (mkF m 8 #[.val (.ref o0), .val (.int (12 : Int32))] [])) _
      refine XS.aloadN X164.here hx rfl (hb hby d6_8) rfl rfl ?_
      show Steps p.tables e below (T164.setTop (mkF m 9 #[.val (.ref o0), .val (.int (12 : Int32))] [(.ref o0)])) _
      refine st169 _ ?_
      show Steps p.tables e below (T169.setTop (mkF m 12 #[.val (.ref o0), .val (.int (12 : Int32))] [(.ref r1)])) _
      refine XS.iloadN X169.here hx rfl (hb hby d6_12) rfl ?_
      show Steps p.tables e below (T169.setTop (mkF m 13 #[.val (.ref o0), .val (.int (12 : Int32))] [(.int (12 : Int32)), (.ref r1)])) _
      refine XS.iloadN X169.here hx rfl (hb hby d6_13) rfl ?_
      exact kt)
  obtain ⟨cl171, Ar171, Sz171, Nn171, Hs171⟩ := id (V158.other W164 ne_r1_r2)
  have hin171 : ¬ ((12 : Int32) < 0 ∨ cl171.slots.size ≤ ((12 : Int32)).toNatClampNeg) := inb_of Sz171 ⟨by decide, by decide⟩
  obtain ⟨T172, h172, X172, e172, W172, st172⟩ := stZ X169 hx hZ e169 Ar171 (j := (12 : Int32)) hin171 (g := (mkF m 22 #[.val (.ref o0), .val (.int (12 : Int32))] [(.int (0 : Int32)), (.int (12 : Int32)), (.ref r1)])) rfl rfl (hb hby d6_22)
  have V172 : own_AI Z h172 r1 .boolean (20 : Int32) (own_upd (own_upd (own_upd (own_upd (own_upd (own_upd (own_upd (own_upd (own_upd (own_upd (own_upd (own_upd (own_upd F1 0 (1 : Int32)) 1 (0 : Int32)) 2 (0 : Int32)) 3 (0 : Int32)) 4 (0 : Int32)) 5 (0 : Int32)) 6 (0 : Int32)) 7 (0 : Int32)) 8 (0 : Int32)) 9 (0 : Int32)) 10 (0 : Int32)) 11 (0 : Int32)) 12 (0 : Int32)) := own_AI.set (V158.other W164 ne_r1_r2) (fits_nar_bool (0 : Int32)) W172
  have K173 : Keep h0 h172 [r1, r2] := K165.wr W172 (Or.inl (List.mem_of_getElem? (i := 0) rfl))
  have Z174 : n0 ≤ h172.size := Nat.le_trans Z0 K173.1
  have N172 := Fr.snoc X172 N164 g_r1
  obtain ⟨LS172, X172, N172⟩ : ∃ L, Stand p l e ({ frames := 0, cells := 0, slots := 0, locals := 0 } : Room) s m #[(.ref o0)] below meth c T172 L 0 0 ∧ Fr n0 L := ⟨_, X172, N172⟩
  have c175 := ((c161.other W164 (Or.inl ne_o0_r2)).other W172 (Or.inl ne_o0_r1))
  obtain ⟨T176, X176, e176, st176⟩ := getF X172 hx hZ hown (host := "") (Or.inl (hw _ (List.mem_of_getElem? (i := 19) rfl))) Via.refl e172 c175 (g := (mkF m 24 #[.val (.ref o0), .val (.int (12 : Int32))] [(.ref o0)])) rfl rfl (hb hby d6_24)
  obtain ⟨cl177, Ar177, Sz177, Nn177, -⟩ := id (V164.other W172 (Ne.symm ne_r1_r2))
  have hin177 : ¬ ((12 : Int32) < 0 ∨ cl177.slots.size ≤ ((12 : Int32)).toNatClampNeg) := inb_of Sz177 ⟨by decide, by decide⟩
  obtain ⟨T178, h178, X178, e178, W178, st178⟩ := stR X176 hx hZ e176 Ar177 (j := (12 : Int32)) hin177 rfl (Or.inl rfl) (g := (mkF m 29 #[.val (.ref o0), .val (.int (12 : Int32))] [.null, (.int (12 : Int32)), (.ref r2)])) rfl rfl (hb hby d6_29)
  have V178 : own_AL Z h178 r2 (.object "com/example/cardhost/cardhost/InstalledApplet") (20 : Int32) := own_AL.set (V164.other W172 (Ne.symm ne_r1_r2)) W178
  have K179 : Keep h0 h178 [r1, r2] := K173.wr W178 (Or.inl (List.mem_of_getElem? (i := 1) rfl))
  have Z180 : n0 ≤ h178.size := Nat.le_trans Z0 K179.1
  have N178 := Fr.snoc X178 N172 g_r2
  obtain ⟨LS178, X178, N178⟩ : ∃ L, Stand p l e ({ frames := 0, cells := 0, slots := 0, locals := 0 } : Room) s m #[(.ref o0)] below meth c T178 L 0 0 ∧ Fr n0 L := ⟨_, X178, N178⟩
  have pre181 : ∀ t, Steps p.tables e below (T178.setTop (mkF m 5 #[.val (.ref o0), .val (.int (13 : Int32))] [(.int (20 : Int32)), (.int (13 : Int32))])) t → Steps p.tables e below (s₁.setTop (entryFrame m #[(.ref o0)] 2)) t := fun t kt => pre170 t (by
      show Steps p.tables e below (T169.setTop (mkF m 14 #[.val (.ref o0), .val (.int (12 : Int32))] [(.int (12 : Int32)), (.int (12 : Int32)), (.ref r1)])) _
      refine XS.ifYes X169.here hx rfl (pc0 := 14) (pc' := 21) rfl (hb hby d6_14) rfl ((if0 _ _).trans (feq (by decide : ¬ ((12 : Int32) = (0 : Int32)))).2) (by decide) (by decide) ?_
      show Steps p.tables e below (T169.setTop (mkF m 21 #[.val (.ref o0), .val (.int (12 : Int32))] [(.int (12 : Int32)), (.ref r1)])) _
      refine XS.iconst X169.here hx rfl (hb hby d6_21) ?_
      show Steps p.tables e below (T169.setTop (mkF m 22 #[.val (.ref o0), .val (.int (12 : Int32))] [(.int (0 : Int32)), (.int (12 : Int32)), (.ref r1)])) _
      refine st172 _ ?_
      show Steps p.tables e below (T172.setTop (mkF m 23 #[.val (.ref o0), .val (.int (12 : Int32))] [])) _
      refine XS.aloadN X172.here hx rfl (hb hby d6_23) rfl rfl ?_
      show Steps p.tables e below (T172.setTop (mkF m 24 #[.val (.ref o0), .val (.int (12 : Int32))] [(.ref o0)])) _
      refine st176 _ ?_
      show Steps p.tables e below (T176.setTop (mkF m 27 #[.val (.ref o0), .val (.int (12 : Int32))] [(.ref r2)])) _
      refine XS.iloadN X176.here hx rfl (hb hby d6_27) rfl ?_
      show Steps p.tables e below (T176.setTop (mkF m 28 #[.val (.ref o0), .val (.int (12 : Int32))] [(.int (12 : Int32)), (.ref r2)])) _
      refine XS.aconstNull X176.here hx rfl (hb hby d6_28) ?_
      show Steps p.tables e below (T176.setTop (mkF m 29 #[.val (.ref o0), .val (.int (12 : Int32))] [.null, (.int (12 : Int32)), (.ref r2)])) _
      refine st178 _ ?_
      show Steps p.tables e below (T178.setTop (mkF m 30 #[.val (.ref o0), .val (.int (12 : Int32))] [])) _
      refine XS.iinc X178.here hx rfl (hb hby d6_30) rfl (l' := #[.val (.ref o0), .val (.int (13 : Int32))]) rfl ?_
      show Steps p.tables e below (T178.setTop (mkF m 33 #[.val (.ref o0), .val (.int (13 : Int32))] [])) _
      refine XS.goto X178.here hx rfl (pc0 := 33) (pc' := 2) rfl (hb hby d6_33) (by decide) (by decide) ?_
      show Steps p.tables e below (T178.setTop (mkF m 2 #[.val (.ref o0), .val (.int (13 : Int32))] [])) _
      refine XS.iloadN X178.here hx rfl (hb hby d6_2) rfl ?_
      show Steps p.tables e below (T178.setTop (mkF m 3 #[.val (.ref o0), .val (.int (13 : Int32))] [(.int (13 : Int32))])) _
      refine XS.bipush X178.here hx rfl (hb hby d6_3) ?_
      exact kt)
  have c182 := ((c168.other W172 (Or.inl ne_o0_r1)).other W178 (Or.inl ne_o0_r2))
  obtain ⟨T183, X183, e183, st183⟩ := getF X178 hx hZ hown (host := "") (Or.inl (hw _ (List.mem_of_getElem? (i := 15) rfl))) Via.refl e178 c182 (g := (mkF m 9 #[.val (.ref o0), .val (.int (13 : Int32))] [(.ref o0)])) rfl rfl (hb hby d6_9)
  have pre184 : ∀ t, Steps p.tables e below (T183.setTop (mkF m 14 #[.val (.ref o0), .val (.int (13 : Int32))] [(.int (13 : Int32)), (.int (13 : Int32)), (.ref r1)])) t → Steps p.tables e below (s₁.setTop (entryFrame m #[(.ref o0)] 2)) t := fun t kt => pre181 t (by
      show Steps p.tables e below (T178.setTop (mkF m 5 #[.val (.ref o0), .val (.int (13 : Int32))] [(.int (20 : Int32)), (.int (13 : Int32))])) _
      refine XS.icmpNo X178.here hx rfl (hb hby d6_5) rfl (tlt (by decide : ((13 : Int32) < (20 : Int32)))).2.1 ?_
      show Steps p.tables e below (T178.setTop (mkF m 8 #[.val (.ref o0), .val (.int (13 : Int32))] [])) _
      refine XS.aloadN X178.here hx rfl (hb hby d6_8) rfl rfl ?_
      show Steps p.tables e below (T178.setTop (mkF m 9 #[.val (.ref o0), .val (.int (13 : Int32))] [(.ref o0)])) _
      refine st183 _ ?_
      show Steps p.tables e below (T183.setTop (mkF m 12 #[.val (.ref o0), .val (.int (13 : Int32))] [(.ref r1)])) _
      refine XS.iloadN X183.here hx rfl (hb hby d6_12) rfl ?_
      show Steps p.tables e below (T183.setTop (mkF m 13 #[.val (.ref o0), .val (.int (13 : Int32))] [(.int (13 : Int32)), (.ref r1)])) _
      refine XS.iloadN X183.here hx rfl (hb hby d6_13) rfl ?_
      exact kt)
  obtain ⟨cl185, Ar185, Sz185, Nn185, Hs185⟩ := id (V172.other W178 ne_r1_r2)
  have hin185 : ¬ ((13 : Int32) < 0 ∨ cl185.slots.size ≤ ((13 : Int32)).toNatClampNeg) := inb_of Sz185 ⟨by decide, by decide⟩
  obtain ⟨T186, h186, X186, e186, W186, st186⟩ := stZ X183 hx hZ e183 Ar185 (j := (13 : Int32)) hin185 (g := (mkF m 22 #[.val (.ref o0), .val (.int (13 : Int32))] [(.int (0 : Int32)), (.int (13 : Int32)), (.ref r1)])) rfl rfl (hb hby d6_22)
  have V186 : own_AI Z h186 r1 .boolean (20 : Int32) (own_upd (own_upd (own_upd (own_upd (own_upd (own_upd (own_upd (own_upd (own_upd (own_upd (own_upd (own_upd (own_upd (own_upd F1 0 (1 : Int32)) 1 (0 : Int32)) 2 (0 : Int32)) 3 (0 : Int32)) 4 (0 : Int32)) 5 (0 : Int32)) 6 (0 : Int32)) 7 (0 : Int32)) 8 (0 : Int32)) 9 (0 : Int32)) 10 (0 : Int32)) 11 (0 : Int32)) 12 (0 : Int32)) 13 (0 : Int32)) := own_AI.set (V172.other W178 ne_r1_r2) (fits_nar_bool (0 : Int32)) W186
  have K187 : Keep h0 h186 [r1, r2] := K179.wr W186 (Or.inl (List.mem_of_getElem? (i := 0) rfl))
  have Z188 : n0 ≤ h186.size := Nat.le_trans Z0 K187.1
  have N186 := Fr.snoc X186 N178 g_r1
  obtain ⟨LS186, X186, N186⟩ : ∃ L, Stand p l e ({ frames := 0, cells := 0, slots := 0, locals := 0 } : Room) s m #[(.ref o0)] below meth c T186 L 0 0 ∧ Fr n0 L := ⟨_, X186, N186⟩
  have c189 := ((c175.other W178 (Or.inl ne_o0_r2)).other W186 (Or.inl ne_o0_r1))
  obtain ⟨T190, X190, e190, st190⟩ := getF X186 hx hZ hown (host := "") (Or.inl (hw _ (List.mem_of_getElem? (i := 19) rfl))) Via.refl e186 c189 (g := (mkF m 24 #[.val (.ref o0), .val (.int (13 : Int32))] [(.ref o0)])) rfl rfl (hb hby d6_24)
  obtain ⟨cl191, Ar191, Sz191, Nn191, -⟩ := id (V178.other W186 (Ne.symm ne_r1_r2))
  have hin191 : ¬ ((13 : Int32) < 0 ∨ cl191.slots.size ≤ ((13 : Int32)).toNatClampNeg) := inb_of Sz191 ⟨by decide, by decide⟩
  obtain ⟨T192, h192, X192, e192, W192, st192⟩ := stR X190 hx hZ e190 Ar191 (j := (13 : Int32)) hin191 rfl (Or.inl rfl) (g := (mkF m 29 #[.val (.ref o0), .val (.int (13 : Int32))] [.null, (.int (13 : Int32)), (.ref r2)])) rfl rfl (hb hby d6_29)
  have V192 : own_AL Z h192 r2 (.object "com/example/cardhost/cardhost/InstalledApplet") (20 : Int32) := own_AL.set (V178.other W186 (Ne.symm ne_r1_r2)) W192
  have K193 : Keep h0 h192 [r1, r2] := K187.wr W192 (Or.inl (List.mem_of_getElem? (i := 1) rfl))
  have Z194 : n0 ≤ h192.size := Nat.le_trans Z0 K193.1
  have N192 := Fr.snoc X192 N186 g_r2
  obtain ⟨LS192, X192, N192⟩ : ∃ L, Stand p l e ({ frames := 0, cells := 0, slots := 0, locals := 0 } : Room) s m #[(.ref o0)] below meth c T192 L 0 0 ∧ Fr n0 L := ⟨_, X192, N192⟩
  have pre195 : ∀ t, Steps p.tables e below (T192.setTop (mkF m 5 #[.val (.ref o0), .val (.int (14 : Int32))] [(.int (20 : Int32)), (.int (14 : Int32))])) t → Steps p.tables e below (s₁.setTop (entryFrame m #[(.ref o0)] 2)) t := fun t kt => pre184 t (by
      show Steps p.tables e below (T183.setTop (mkF m 14 #[.val (.ref o0), .val (.int (13 : Int32))] [(.int (13 : Int32)), (.int (13 : Int32)), (.ref r1)])) _
      refine XS.ifYes X183.here hx rfl (pc0 := 14) (pc' := 21) rfl (hb hby d6_14) rfl ((if0 _ _).trans (feq (by decide : ¬ ((13 : Int32) = (0 : Int32)))).2) (by decide) (by decide) ?_
      show Steps p.tables e below (T183.setTop (mkF m 21 #[.val (.ref o0), .val (.int (13 : Int32))] [(.int (13 : Int32)), (.ref r1)])) _
      refine XS.iconst X183.here hx rfl (hb hby d6_21) ?_
      show Steps p.tables e below (T183.setTop (mkF m 22 #[.val (.ref o0), .val (.int (13 : Int32))] [(.int (0 : Int32)), (.int (13 : Int32)), (.ref r1)])) _
      refine st186 _ ?_
      show Steps p.tables e below (T186.setTop (mkF m 23 #[.val (.ref o0), .val (.int (13 : Int32))] [])) _
      refine XS.aloadN X186.here hx rfl (hb hby d6_23) rfl rfl ?_
      show Steps p.tables e below (T186.setTop (mkF m 24 #[.val (.ref o0), .val (.int (13 : Int32))] [(.ref o0)])) _
      refine st190 _ ?_
      show Steps p.tables e below (T190.setTop (mkF m 27 #[.val (.ref o0), .val (.int (13 : Int32))] [(.ref r2)])) _
      refine XS.iloadN X190.here hx rfl (hb hby d6_27) rfl ?_
      show Steps p.tables e below (T190.setTop (mkF m 28 #[.val (.ref o0), .val (.int (13 : Int32))] [(.int (13 : Int32)), (.ref r2)])) _
      refine XS.aconstNull X190.here hx rfl (hb hby d6_28) ?_
      show Steps p.tables e below (T190.setTop (mkF m 29 #[.val (.ref o0), .val (.int (13 : Int32))] [.null, (.int (13 : Int32)), (.ref r2)])) _
      refine st192 _ ?_
      show Steps p.tables e below (T192.setTop (mkF m 30 #[.val (.ref o0), .val (.int (13 : Int32))] [])) _
      refine XS.iinc X192.here hx rfl (hb hby d6_30) rfl (l' := #[.val (.ref o0), .val (.int (14 : Int32))]) rfl ?_
      show Steps p.tables e below (T192.setTop (mkF m 33 #[.val (.ref o0), .val (.int (14 : Int32))] [])) _
      refine XS.goto X192.here hx rfl (pc0 := 33) (pc' := 2) rfl (hb hby d6_33) (by decide) (by decide) ?_
      show Steps p.tables e below (T192.setTop (mkF m 2 #[.val (.ref o0), .val (.int (14 : Int32))] [])) _
      refine XS.iloadN X192.here hx rfl (hb hby d6_2) rfl ?_
      show Steps p.tables e below (T192.setTop (mkF m 3 #[.val (.ref o0), .val (.int (14 : Int32))] [(.int (14 : Int32))])) _
      refine XS.bipush X192.here hx rfl (hb hby d6_3) ?_
      exact kt)
  have c196 := ((c182.other W186 (Or.inl ne_o0_r1)).other W192 (Or.inl ne_o0_r2))
  obtain ⟨T197, X197, e197, st197⟩ := getF X192 hx hZ hown (host := "") (Or.inl (hw _ (List.mem_of_getElem? (i := 15) rfl))) Via.refl e192 c196 (g := (mkF m 9 #[.val (.ref o0), .val (.int (14 : Int32))] [(.ref o0)])) rfl rfl (hb hby d6_9)
  have pre198 : ∀ t, Steps p.tables e below (T197.setTop (mkF m 14 #[.val (.ref o0), .val (.int (14 : Int32))] [(.int (14 : Int32)), (.int (14 : Int32)), (.ref r1)])) t → Steps p.tables e below (s₁.setTop (entryFrame m #[(.ref o0)] 2)) t := fun t kt => pre195 t (by
      show Steps p.tables e below (T192.setTop (mkF m 5 #[.val (.ref o0), .val (.int (14 : Int32))] [(.int (20 : Int32)), (.int (14 : Int32))])) _
      refine XS.icmpNo X192.here hx rfl (hb hby d6_5) rfl (tlt (by decide : ((14 : Int32) < (20 : Int32)))).2.1 ?_
      show Steps p.tables e below (T192.setTop (mkF m 8 #[.val (.ref o0), .val (.int (14 : Int32))] [])) _
      refine XS.aloadN X192.here hx rfl (hb hby d6_8) rfl rfl ?_
      show Steps p.tables e below (T192.setTop (mkF m 9 #[.val (.ref o0), .val (.int (14 : Int32))] [(.ref o0)])) _
      refine st197 _ ?_
      show Steps p.tables e below (T197.setTop (mkF m 12 #[.val (.ref o0), .val (.int (14 : Int32))] [(.ref r1)])) _
      refine XS.iloadN X197.here hx rfl (hb hby d6_12) rfl ?_
      show Steps p.tables e below (T197.setTop (mkF m 13 #[.val (.ref o0), .val (.int (14 : Int32))] [(.int (14 : Int32)), (.ref r1)])) _
      refine XS.iloadN X197.here hx rfl (hb hby d6_13) rfl ?_
      exact kt)
  obtain ⟨cl199, Ar199, Sz199, Nn199, Hs199⟩ := id (V186.other W192 ne_r1_r2)
  have hin199 : ¬ ((14 : Int32) < 0 ∨ cl199.slots.size ≤ ((14 : Int32)).toNatClampNeg) := inb_of Sz199 ⟨by decide, by decide⟩
  obtain ⟨T200, h200, X200, e200, W200, st200⟩ := stZ X197 hx hZ e197 Ar199 (j := (14 : Int32)) hin199 (g := (mkF m 22 #[.val (.ref o0), .val (.int (14 : Int32))] [(.int (0 : Int32)), (.int (14 : Int32)), (.ref r1)])) rfl rfl (hb hby d6_22)
  have V200 : own_AI Z h200 r1 .boolean (20 : Int32) (own_upd (own_upd (own_upd (own_upd (own_upd (own_upd (own_upd (own_upd (own_upd (own_upd (own_upd (own_upd (own_upd (own_upd (own_upd F1 0 (1 : Int32)) 1 (0 : Int32)) 2 (0 : Int32)) 3 (0 : Int32)) 4 (0 : Int32)) 5 (0 : Int32)) 6 (0 : Int32)) 7 (0 : Int32)) 8 (0 : Int32)) 9 (0 : Int32)) 10 (0 : Int32)) 11 (0 : Int32)) 12 (0 : Int32)) 13 (0 : Int32)) 14 (0 : Int32)) := own_AI.set (V186.other W192 ne_r1_r2) (fits_nar_bool (0 : Int32)) W200
  have K201 : Keep h0 h200 [r1, r2] := K193.wr W200 (Or.inl (List.mem_of_getElem? (i := 0) rfl))
  have Z202 : n0 ≤ h200.size := Nat.le_trans Z0 K201.1
  have N200 := Fr.snoc X200 N192 g_r1
  obtain ⟨LS200, X200, N200⟩ : ∃ L, Stand p l e ({ frames := 0, cells := 0, slots := 0, locals := 0 } : Room) s m #[(.ref o0)] below meth c T200 L 0 0 ∧ Fr n0 L := ⟨_, X200, N200⟩
  have c203 := ((c189.other W192 (Or.inl ne_o0_r2)).other W200 (Or.inl ne_o0_r1))
  obtain ⟨T204, X204, e204, st204⟩ := getF X200 hx hZ hown (host := "") (Or.inl (hw _ (List.mem_of_getElem? (i := 19) rfl))) Via.refl e200 c203 (g := (mkF m 24 #[.val (.ref o0), .val (.int (14 : Int32))] [(.ref o0)])) rfl rfl (hb hby d6_24)
  obtain ⟨cl205, Ar205, Sz205, Nn205, -⟩ := id (V192.other W200 (Ne.symm ne_r1_r2))
  have hin205 : ¬ ((14 : Int32) < 0 ∨ cl205.slots.size ≤ ((14 : Int32)).toNatClampNeg) := inb_of Sz205 ⟨by decide, by decide⟩
  obtain ⟨T206, h206, X206, e206, W206, st206⟩ := stR X204 hx hZ e204 Ar205 (j := (14 : Int32)) hin205 rfl (Or.inl rfl) (g := (mkF m 29 #[.val (.ref o0), .val (.int (14 : Int32))] [.null, (.int (14 : Int32)), (.ref r2)])) rfl rfl (hb hby d6_29)
  have V206 : own_AL Z h206 r2 (.object "com/example/cardhost/cardhost/InstalledApplet") (20 : Int32) := own_AL.set (V192.other W200 (Ne.symm ne_r1_r2)) W206
  have K207 : Keep h0 h206 [r1, r2] := K201.wr W206 (Or.inl (List.mem_of_getElem? (i := 1) rfl))
  have Z208 : n0 ≤ h206.size := Nat.le_trans Z0 K207.1
  have N206 := Fr.snoc X206 N200 g_r2
  obtain ⟨LS206, X206, N206⟩ : ∃ L, Stand p l e ({ frames := 0, cells := 0, slots := 0, locals := 0 } : Room) s m #[(.ref o0)] below meth c T206 L 0 0 ∧ Fr n0 L := ⟨_, X206, N206⟩
  have pre209 : ∀ t, Steps p.tables e below (T206.setTop (mkF m 5 #[.val (.ref o0), .val (.int (15 : Int32))] [(.int (20 : Int32)), (.int (15 : Int32))])) t → Steps p.tables e below (s₁.setTop (entryFrame m #[(.ref o0)] 2)) t := fun t kt => pre198 t (by
      show Steps p.tables e below (T197.setTop (mkF m 14 #[.val (.ref o0), .val (.int (14 : Int32))] [(.int (14 : Int32)), (.int (14 : Int32)), (.ref r1)])) _
      refine XS.ifYes X197.here hx rfl (pc0 := 14) (pc' := 21) rfl (hb hby d6_14) rfl ((if0 _ _).trans (feq (by decide : ¬ ((14 : Int32) = (0 : Int32)))).2) (by decide) (by decide) ?_
      show Steps p.tables e below (T197.setTop (mkF m 21 #[.val (.ref o0), .val (.int (14 : Int32))] [(.int (14 : Int32)), (.ref r1)])) _
      refine XS.iconst X197.here hx rfl (hb hby d6_21) ?_
      show Steps p.tables e below (T197.setTop (mkF m 22 #[.val (.ref o0), .val (.int (14 : Int32))] [(.int (0 : Int32)), (.int (14 : Int32)), (.ref r1)])) _
      refine st200 _ ?_
      show Steps p.tables e below (T200.setTop (mkF m 23 #[.val (.ref o0), .val (.int (14 : Int32))] [])) _
      refine XS.aloadN X200.here hx rfl (hb hby d6_23) rfl rfl ?_
      show Steps p.tables e below (T200.setTop (mkF m 24 #[.val (.ref o0), .val (.int (14 : Int32))] [(.ref o0)])) _
      refine st204 _ ?_
      show Steps p.tables e below (T204.setTop (mkF m 27 #[.val (.ref o0), .val (.int (14 : Int32))] [(.ref r2)])) _
      refine XS.iloadN X204.here hx rfl (hb hby d6_27) rfl ?_
      show Steps p.tables e below (T204.setTop (mkF m 28 #[.val (.ref o0), .val (.int (14 : Int32))] [(.int (14 : Int32)), (.ref r2)])) _
      refine XS.aconstNull X204.here hx rfl (hb hby d6_28) ?_
      show Steps p.tables e below (T204.setTop (mkF m 29 #[.val (.ref o0), .val (.int (14 : Int32))] [.null, (.int (14 : Int32)), (.ref r2)])) _
      refine st206 _ ?_
      show Steps p.tables e below (T206.setTop (mkF m 30 #[.val (.ref o0), .val (.int (14 : Int32))] [])) _
      refine XS.iinc X206.here hx rfl (hb hby d6_30) rfl (l' := #[.val (.ref o0), .val (.int (15 : Int32))]) rfl ?_
      show Steps p.tables e below (T206.setTop (mkF m 33 #[.val (.ref o0), .val (.int (15 : Int32))] [])) _
      refine XS.goto X206.here hx rfl (pc0 := 33) (pc' := 2) rfl (hb hby d6_33) (by decide) (by decide) ?_
      show Steps p.tables e below (T206.setTop (mkF m 2 #[.val (.ref o0), .val (.int (15 : Int32))] [])) _
      refine XS.iloadN X206.here hx rfl (hb hby d6_2) rfl ?_
      show Steps p.tables e below (T206.setTop (mkF m 3 #[.val (.ref o0), .val (.int (15 : Int32))] [(.int (15 : Int32))])) _
      refine XS.bipush X206.here hx rfl (hb hby d6_3) ?_
      exact kt)
  have c210 := ((c196.other W200 (Or.inl ne_o0_r1)).other W206 (Or.inl ne_o0_r2))
  obtain ⟨T211, X211, e211, st211⟩ := getF X206 hx hZ hown (host := "") (Or.inl (hw _ (List.mem_of_getElem? (i := 15) rfl))) Via.refl e206 c210 (g := (mkF m 9 #[.val (.ref o0), .val (.int (15 : Int32))] [(.ref o0)])) rfl rfl (hb hby d6_9)
  have pre212 : ∀ t, Steps p.tables e below (T211.setTop (mkF m 14 #[.val (.ref o0), .val (.int (15 : Int32))] [(.int (15 : Int32)), (.int (15 : Int32)), (.ref r1)])) t → Steps p.tables e below (s₁.setTop (entryFrame m #[(.ref o0)] 2)) t := fun t kt => pre209 t (by
      show Steps p.tables e below (T206.setTop (mkF m 5 #[.val (.ref o0), .val (.int (15 : Int32))] [(.int (20 : Int32)), (.int (15 : Int32))])) _
      refine XS.icmpNo X206.here hx rfl (hb hby d6_5) rfl (tlt (by decide : ((15 : Int32) < (20 : Int32)))).2.1 ?_
      show Steps p.tables e below (T206.setTop (mkF m 8 #[.val (.ref o0), .val (.int (15 : Int32))] [])) _
      refine XS.aloadN X206.here hx rfl (hb hby d6_8) rfl rfl ?_
      show Steps p.tables e below (T206.setTop (mkF m 9 #[.val (.ref o0), .val (.int (15 : Int32))] [(.ref o0)])) _
      refine st211 _ ?_
      show Steps p.tables e below (T211.setTop (mkF m 12 #[.val (.ref o0), .val (.int (15 : Int32))] [(.ref r1)])) _
      refine XS.iloadN X211.here hx rfl (hb hby d6_12) rfl ?_
      show Steps p.tables e below (T211.setTop (mkF m 13 #[.val (.ref o0), .val (.int (15 : Int32))] [(.int (15 : Int32)), (.ref r1)])) _
      refine XS.iloadN X211.here hx rfl (hb hby d6_13) rfl ?_
      exact kt)
  obtain ⟨cl213, Ar213, Sz213, Nn213, Hs213⟩ := id (V200.other W206 ne_r1_r2)
  have hin213 : ¬ ((15 : Int32) < 0 ∨ cl213.slots.size ≤ ((15 : Int32)).toNatClampNeg) := inb_of Sz213 ⟨by decide, by decide⟩
  obtain ⟨T214, h214, X214, e214, W214, st214⟩ := stZ X211 hx hZ e211 Ar213 (j := (15 : Int32)) hin213 (g := (mkF m 22 #[.val (.ref o0), .val (.int (15 : Int32))] [(.int (0 : Int32)), (.int (15 : Int32)), (.ref r1)])) rfl rfl (hb hby d6_22)
  have V214 : own_AI Z h214 r1 .boolean (20 : Int32) (own_upd (own_upd (own_upd (own_upd (own_upd (own_upd (own_upd (own_upd (own_upd (own_upd (own_upd (own_upd (own_upd (own_upd (own_upd (own_upd F1 0 (1 : Int32)) 1 (0 : Int32)) 2 (0 : Int32)) 3 (0 : Int32)) 4 (0 : Int32)) 5 (0 : Int32)) 6 (0 : Int32)) 7 (0 : Int32)) 8 (0 : Int32)) 9 (0 : Int32)) 10 (0 : Int32)) 11 (0 : Int32)) 12 (0 : Int32)) 13 (0 : Int32)) 14 (0 : Int32)) 15 (0 : Int32)) := own_AI.set (V200.other W206 ne_r1_r2) (fits_nar_bool (0 : Int32)) W214
  have K215 : Keep h0 h214 [r1, r2] := K207.wr W214 (Or.inl (List.mem_of_getElem? (i := 0) rfl))
  have Z216 : n0 ≤ h214.size := Nat.le_trans Z0 K215.1
  have N214 := Fr.snoc X214 N206 g_r1
  obtain ⟨LS214, X214, N214⟩ : ∃ L, Stand p l e ({ frames := 0, cells := 0, slots := 0, locals := 0 } : Room) s m #[(.ref o0)] below meth c T214 L 0 0 ∧ Fr n0 L := ⟨_, X214, N214⟩
  have c217 := ((c203.other W206 (Or.inl ne_o0_r2)).other W214 (Or.inl ne_o0_r1))
  obtain ⟨T218, X218, e218, st218⟩ := getF X214 hx hZ hown (host := "") (Or.inl (hw _ (List.mem_of_getElem? (i := 19) rfl))) Via.refl e214 c217 (g := (mkF m 24 #[.val (.ref o0), .val (.int (15 : Int32))] [(.ref o0)])) rfl rfl (hb hby d6_24)
  obtain ⟨cl219, Ar219, Sz219, Nn219, -⟩ := id (V206.other W214 (Ne.symm ne_r1_r2))
  have hin219 : ¬ ((15 : Int32) < 0 ∨ cl219.slots.size ≤ ((15 : Int32)).toNatClampNeg) := inb_of Sz219 ⟨by decide, by decide⟩
  obtain ⟨T220, h220, X220, e220, W220, st220⟩ := stR X218 hx hZ e218 Ar219 (j := (15 : Int32)) hin219 rfl (Or.inl rfl) (g := (mkF m 29 #[.val (.ref o0), .val (.int (15 : Int32))] [.null, (.int (15 : Int32)), (.ref r2)])) rfl rfl (hb hby d6_29)
  have V220 : own_AL Z h220 r2 (.object "com/example/cardhost/cardhost/InstalledApplet") (20 : Int32) := own_AL.set (V206.other W214 (Ne.symm ne_r1_r2)) W220
  have K221 : Keep h0 h220 [r1, r2] := K215.wr W220 (Or.inl (List.mem_of_getElem? (i := 1) rfl))
  have Z222 : n0 ≤ h220.size := Nat.le_trans Z0 K221.1
  have N220 := Fr.snoc X220 N214 g_r2
  obtain ⟨LS220, X220, N220⟩ : ∃ L, Stand p l e ({ frames := 0, cells := 0, slots := 0, locals := 0 } : Room) s m #[(.ref o0)] below meth c T220 L 0 0 ∧ Fr n0 L := ⟨_, X220, N220⟩
  have pre223 : ∀ t, Steps p.tables e below (T220.setTop (mkF m 5 #[.val (.ref o0), .val (.int (16 : Int32))] [(.int (20 : Int32)), (.int (16 : Int32))])) t → Steps p.tables e below (s₁.setTop (entryFrame m #[(.ref o0)] 2)) t := fun t kt => pre212 t (by
      show Steps p.tables e below (T211.setTop (mkF m 14 #[.val (.ref o0), .val (.int (15 : Int32))] [(.int (15 : Int32)), (.int (15 : Int32)), (.ref r1)])) _
      refine XS.ifYes X211.here hx rfl (pc0 := 14) (pc' := 21) rfl (hb hby d6_14) rfl ((if0 _ _).trans (feq (by decide : ¬ ((15 : Int32) = (0 : Int32)))).2) (by decide) (by decide) ?_
      show Steps p.tables e below (T211.setTop (mkF m 21 #[.val (.ref o0), .val (.int (15 : Int32))] [(.int (15 : Int32)), (.ref r1)])) _
      refine XS.iconst X211.here hx rfl (hb hby d6_21) ?_
      show Steps p.tables e below (T211.setTop (mkF m 22 #[.val (.ref o0), .val (.int (15 : Int32))] [(.int (0 : Int32)), (.int (15 : Int32)), (.ref r1)])) _
      refine st214 _ ?_
      show Steps p.tables e below (T214.setTop (mkF m 23 #[.val (.ref o0), .val (.int (15 : Int32))] [])) _
      refine XS.aloadN X214.here hx rfl (hb hby d6_23) rfl rfl ?_
      show Steps p.tables e below (T214.setTop (mkF m 24 #[.val (.ref o0), .val (.int (15 : Int32))] [(.ref o0)])) _
      refine st218 _ ?_
      show Steps p.tables e below (T218.setTop (mkF m 27 #[.val (.ref o0), .val (.int (15 : Int32))] [(.ref r2)])) _
      refine XS.iloadN X218.here hx rfl (hb hby d6_27) rfl ?_
      show Steps p.tables e below (T218.setTop (mkF m 28 #[.val (.ref o0), .val (.int (15 : Int32))] [(.int (15 : Int32)), (.ref r2)])) _
      refine XS.aconstNull X218.here hx rfl (hb hby d6_28) ?_
      show Steps p.tables e below (T218.setTop (mkF m 29 #[.val (.ref o0), .val (.int (15 : Int32))] [.null, (.int (15 : Int32)), (.ref r2)])) _
      refine st220 _ ?_
      show Steps p.tables e below (T220.setTop (mkF m 30 #[.val (.ref o0), .val (.int (15 : Int32))] [])) _
      refine XS.iinc X220.here hx rfl (hb hby d6_30) rfl (l' := #[.val (.ref o0), .val (.int (16 : Int32))]) rfl ?_
      show Steps p.tables e below (T220.setTop (mkF m 33 #[.val (.ref o0), .val (.int (16 : Int32))] [])) _
      refine XS.goto X220.here hx rfl (pc0 := 33) (pc' := 2) rfl (hb hby d6_33) (by decide) (by decide) ?_
      show Steps p.tables e below (T220.setTop (mkF m 2 #[.val (.ref o0), .val (.int (16 : Int32))] [])) _
      refine XS.iloadN X220.here hx rfl (hb hby d6_2) rfl ?_
      show Steps p.tables e below (T220.setTop (mkF m 3 #[.val (.ref o0), .val (.int (16 : Int32))] [(.int (16 : Int32))])) _
      refine XS.bipush X220.here hx rfl (hb hby d6_3) ?_
      exact kt)
  have c224 := ((c210.other W214 (Or.inl ne_o0_r1)).other W220 (Or.inl ne_o0_r2))
  obtain ⟨T225, X225, e225, st225⟩ := getF X220 hx hZ hown (host := "") (Or.inl (hw _ (List.mem_of_getElem? (i := 15) rfl))) Via.refl e220 c224 (g := (mkF m 9 #[.val (.ref o0), .val (.int (16 : Int32))] [(.ref o0)])) rfl rfl (hb hby d6_9)
  have pre226 : ∀ t, Steps p.tables e below (T225.setTop (mkF m 14 #[.val (.ref o0), .val (.int (16 : Int32))] [(.int (16 : Int32)), (.int (16 : Int32)), (.ref r1)])) t → Steps p.tables e below (s₁.setTop (entryFrame m #[(.ref o0)] 2)) t := fun t kt => pre223 t (by
      show Steps p.tables e below (T220.setTop (mkF m 5 #[.val (.ref o0), .val (.int (16 : Int32))] [(.int (20 : Int32)), (.int (16 : Int32))])) _
      refine XS.icmpNo X220.here hx rfl (hb hby d6_5) rfl (tlt (by decide : ((16 : Int32) < (20 : Int32)))).2.1 ?_
      show Steps p.tables e below (T220.setTop (mkF m 8 #[.val (.ref o0), .val (.int (16 : Int32))] [])) _
      refine XS.aloadN X220.here hx rfl (hb hby d6_8) rfl rfl ?_
      show Steps p.tables e below (T220.setTop (mkF m 9 #[.val (.ref o0), .val (.int (16 : Int32))] [(.ref o0)])) _
      refine st225 _ ?_
      show Steps p.tables e below (T225.setTop (mkF m 12 #[.val (.ref o0), .val (.int (16 : Int32))] [(.ref r1)])) _
      refine XS.iloadN X225.here hx rfl (hb hby d6_12) rfl ?_
      show Steps p.tables e below (T225.setTop (mkF m 13 #[.val (.ref o0), .val (.int (16 : Int32))] [(.int (16 : Int32)), (.ref r1)])) _
      refine XS.iloadN X225.here hx rfl (hb hby d6_13) rfl ?_
      exact kt)
  obtain ⟨cl227, Ar227, Sz227, Nn227, Hs227⟩ := id (V214.other W220 ne_r1_r2)
  have hin227 : ¬ ((16 : Int32) < 0 ∨ cl227.slots.size ≤ ((16 : Int32)).toNatClampNeg) := inb_of Sz227 ⟨by decide, by decide⟩
  obtain ⟨T228, h228, X228, e228, W228, st228⟩ := stZ X225 hx hZ e225 Ar227 (j := (16 : Int32)) hin227 (g := (mkF m 22 #[.val (.ref o0), .val (.int (16 : Int32))] [(.int (0 : Int32)), (.int (16 : Int32)), (.ref r1)])) rfl rfl (hb hby d6_22)
  have V228 : own_AI Z h228 r1 .boolean (20 : Int32) (own_upd (own_upd (own_upd (own_upd (own_upd (own_upd (own_upd (own_upd (own_upd (own_upd (own_upd (own_upd (own_upd (own_upd (own_upd (own_upd (own_upd F1 0 (1 : Int32)) 1 (0 : Int32)) 2 (0 : Int32)) 3 (0 : Int32)) 4 (0 : Int32)) 5 (0 : Int32)) 6 (0 : Int32)) 7 (0 : Int32)) 8 (0 : Int32)) 9 (0 : Int32)) 10 (0 : Int32)) 11 (0 : Int32)) 12 (0 : Int32)) 13 (0 : Int32)) 14 (0 : Int32)) 15 (0 : Int32)) 16 (0 : Int32)) := own_AI.set (V214.other W220 ne_r1_r2) (fits_nar_bool (0 : Int32)) W228
  have K229 : Keep h0 h228 [r1, r2] := K221.wr W228 (Or.inl (List.mem_of_getElem? (i := 0) rfl))
  have Z230 : n0 ≤ h228.size := Nat.le_trans Z0 K229.1
  have N228 := Fr.snoc X228 N220 g_r1
  obtain ⟨LS228, X228, N228⟩ : ∃ L, Stand p l e ({ frames := 0, cells := 0, slots := 0, locals := 0 } : Room) s m #[(.ref o0)] below meth c T228 L 0 0 ∧ Fr n0 L := ⟨_, X228, N228⟩
  have c231 := ((c217.other W220 (Or.inl ne_o0_r2)).other W228 (Or.inl ne_o0_r1))
  obtain ⟨T232, X232, e232, st232⟩ := getF X228 hx hZ hown (host := "") (Or.inl (hw _ (List.mem_of_getElem? (i := 19) rfl))) Via.refl e228 c231 (g := (mkF m 24 #[.val (.ref o0), .val (.int (16 : Int32))] [(.ref o0)])) rfl rfl (hb hby d6_24)
  obtain ⟨cl233, Ar233, Sz233, Nn233, -⟩ := id (V220.other W228 (Ne.symm ne_r1_r2))
  have hin233 : ¬ ((16 : Int32) < 0 ∨ cl233.slots.size ≤ ((16 : Int32)).toNatClampNeg) := inb_of Sz233 ⟨by decide, by decide⟩
  obtain ⟨T234, h234, X234, e234, W234, st234⟩ := stR X232 hx hZ e232 Ar233 (j := (16 : Int32)) hin233 rfl (Or.inl rfl) (g := (mkF m 29 #[.val (.ref o0), .val (.int (16 : Int32))] [.null, (.int (16 : Int32)), (.ref r2)])) rfl rfl (hb hby d6_29)
  have V234 : own_AL Z h234 r2 (.object "com/example/cardhost/cardhost/InstalledApplet") (20 : Int32) := own_AL.set (V220.other W228 (Ne.symm ne_r1_r2)) W234
  have K235 : Keep h0 h234 [r1, r2] := K229.wr W234 (Or.inl (List.mem_of_getElem? (i := 1) rfl))
  have Z236 : n0 ≤ h234.size := Nat.le_trans Z0 K235.1
  have N234 := Fr.snoc X234 N228 g_r2
  obtain ⟨LS234, X234, N234⟩ : ∃ L, Stand p l e ({ frames := 0, cells := 0, slots := 0, locals := 0 } : Room) s m #[(.ref o0)] below meth c T234 L 0 0 ∧ Fr n0 L := ⟨_, X234, N234⟩
  have pre237 : ∀ t, Steps p.tables e below (T234.setTop (mkF m 5 #[.val (.ref o0), .val (.int (17 : Int32))] [(.int (20 : Int32)), (.int (17 : Int32))])) t → Steps p.tables e below (s₁.setTop (entryFrame m #[(.ref o0)] 2)) t := fun t kt => pre226 t (by
      show Steps p.tables e below (T225.setTop (mkF m 14 #[.val (.ref o0), .val (.int (16 : Int32))] [(.int (16 : Int32)), (.int (16 : Int32)), (.ref r1)])) _
      refine XS.ifYes X225.here hx rfl (pc0 := 14) (pc' := 21) rfl (hb hby d6_14) rfl ((if0 _ _).trans (feq (by decide : ¬ ((16 : Int32) = (0 : Int32)))).2) (by decide) (by decide) ?_
      show Steps p.tables e below (T225.setTop (mkF m 21 #[.val (.ref o0), .val (.int (16 : Int32))] [(.int (16 : Int32)), (.ref r1)])) _
      refine XS.iconst X225.here hx rfl (hb hby d6_21) ?_
      show Steps p.tables e below (T225.setTop (mkF m 22 #[.val (.ref o0), .val (.int (16 : Int32))] [(.int (0 : Int32)), (.int (16 : Int32)), (.ref r1)])) _
      refine st228 _ ?_
      show Steps p.tables e below (T228.setTop (mkF m 23 #[.val (.ref o0), .val (.int (16 : Int32))] [])) _
      refine XS.aloadN X228.here hx rfl (hb hby d6_23) rfl rfl ?_
      show Steps p.tables e below (T228.setTop (mkF m 24 #[.val (.ref o0), .val (.int (16 : Int32))] [(.ref o0)])) _
      refine st232 _ ?_
      show Steps p.tables e below (T232.setTop (mkF m 27 #[.val (.ref o0), .val (.int (16 : Int32))] [(.ref r2)])) _
      refine XS.iloadN X232.here hx rfl (hb hby d6_27) rfl ?_
      show Steps p.tables e below (T232.setTop (mkF m 28 #[.val (.ref o0), .val (.int (16 : Int32))] [(.int (16 : Int32)), (.ref r2)])) _
      refine XS.aconstNull X232.here hx rfl (hb hby d6_28) ?_
      show Steps p.tables e below (T232.setTop (mkF m 29 #[.val (.ref o0), .val (.int (16 : Int32))] [.null, (.int (16 : Int32)), (.ref r2)])) _
      refine st234 _ ?_
      show Steps p.tables e below (T234.setTop (mkF m 30 #[.val (.ref o0), .val (.int (16 : Int32))] [])) _
      refine XS.iinc X234.here hx rfl (hb hby d6_30) rfl (l' := #[.val (.ref o0), .val (.int (17 : Int32))]) rfl ?_
      show Steps p.tables e below (T234.setTop (mkF m 33 #[.val (.ref o0), .val (.int (17 : Int32))] [])) _
      refine XS.goto X234.here hx rfl (pc0 := 33) (pc' := 2) rfl (hb hby d6_33) (by decide) (by decide) ?_
      show Steps p.tables e below (T234.setTop (mkF m 2 #[.val (.ref o0), .val (.int (17 : Int32))] [])) _
      refine XS.iloadN X234.here hx rfl (hb hby d6_2) rfl ?_
      show Steps p.tables e below (T234.setTop (mkF m 3 #[.val (.ref o0), .val (.int (17 : Int32))] [(.int (17 : Int32))])) _
      refine XS.bipush X234.here hx rfl (hb hby d6_3) ?_
      exact kt)
  have c238 := ((c224.other W228 (Or.inl ne_o0_r1)).other W234 (Or.inl ne_o0_r2))
  obtain ⟨T239, X239, e239, st239⟩ := getF X234 hx hZ hown (host := "") (Or.inl (hw _ (List.mem_of_getElem? (i := 15) rfl))) Via.refl e234 c238 (g := (mkF m 9 #[.val (.ref o0), .val (.int (17 : Int32))] [(.ref o0)])) rfl rfl (hb hby d6_9)
  have pre240 : ∀ t, Steps p.tables e below (T239.setTop (mkF m 14 #[.val (.ref o0), .val (.int (17 : Int32))] [(.int (17 : Int32)), (.int (17 : Int32)), (.ref r1)])) t → Steps p.tables e below (s₁.setTop (entryFrame m #[(.ref o0)] 2)) t := fun t kt => pre237 t (by
      show Steps p.tables e below (T234.setTop (mkF m 5 #[.val (.ref o0), .val (.int (17 : Int32))] [(.int (20 : Int32)), (.int (17 : Int32))])) _
      refine XS.icmpNo X234.here hx rfl (hb hby d6_5) rfl (tlt (by decide : ((17 : Int32) < (20 : Int32)))).2.1 ?_
      show Steps p.tables e below (T234.setTop (mkF m 8 #[.val (.ref o0), .val (.int (17 : Int32))] [])) _
      refine XS.aloadN X234.here hx rfl (hb hby d6_8) rfl rfl ?_
      show Steps p.tables e below (T234.setTop (mkF m 9 #[.val (.ref o0), .val (.int (17 : Int32))] [(.ref o0)])) _
      refine st239 _ ?_
      show Steps p.tables e below (T239.setTop (mkF m 12 #[.val (.ref o0), .val (.int (17 : Int32))] [(.ref r1)])) _
      refine XS.iloadN X239.here hx rfl (hb hby d6_12) rfl ?_
      show Steps p.tables e below (T239.setTop (mkF m 13 #[.val (.ref o0), .val (.int (17 : Int32))] [(.int (17 : Int32)), (.ref r1)])) _
      refine XS.iloadN X239.here hx rfl (hb hby d6_13) rfl ?_
      exact kt)
  obtain ⟨cl241, Ar241, Sz241, Nn241, Hs241⟩ := id (V228.other W234 ne_r1_r2)
  have hin241 : ¬ ((17 : Int32) < 0 ∨ cl241.slots.size ≤ ((17 : Int32)).toNatClampNeg) := inb_of Sz241 ⟨by decide, by decide⟩
  obtain ⟨T242, h242, X242, e242, W242, st242⟩ := stZ X239 hx hZ e239 Ar241 (j := (17 : Int32)) hin241 (g := (mkF m 22 #[.val (.ref o0), .val (.int (17 : Int32))] [(.int (0 : Int32)), (.int (17 : Int32)), (.ref r1)])) rfl rfl (hb hby d6_22)
  have V242 : own_AI Z h242 r1 .boolean (20 : Int32) (own_upd (own_upd (own_upd (own_upd (own_upd (own_upd (own_upd (own_upd (own_upd (own_upd (own_upd (own_upd (own_upd (own_upd (own_upd (own_upd (own_upd (own_upd F1 0 (1 : Int32)) 1 (0 : Int32)) 2 (0 : Int32)) 3 (0 : Int32)) 4 (0 : Int32)) 5 (0 : Int32)) 6 (0 : Int32)) 7 (0 : Int32)) 8 (0 : Int32)) 9 (0 : Int32)) 10 (0 : Int32)) 11 (0 : Int32)) 12 (0 : Int32)) 13 (0 : Int32)) 14 (0 : Int32)) 15 (0 : Int32)) 16 (0 : Int32)) 17 (0 : Int32)) := own_AI.set (V228.other W234 ne_r1_r2) (fits_nar_bool (0 : Int32)) W242
  have K243 : Keep h0 h242 [r1, r2] := K235.wr W242 (Or.inl (List.mem_of_getElem? (i := 0) rfl))
  have Z244 : n0 ≤ h242.size := Nat.le_trans Z0 K243.1
  have N242 := Fr.snoc X242 N234 g_r1
  obtain ⟨LS242, X242, N242⟩ : ∃ L, Stand p l e ({ frames := 0, cells := 0, slots := 0, locals := 0 } : Room) s m #[(.ref o0)] below meth c T242 L 0 0 ∧ Fr n0 L := ⟨_, X242, N242⟩
  have c245 := ((c231.other W234 (Or.inl ne_o0_r2)).other W242 (Or.inl ne_o0_r1))
  obtain ⟨T246, X246, e246, st246⟩ := getF X242 hx hZ hown (host := "") (Or.inl (hw _ (List.mem_of_getElem? (i := 19) rfl))) Via.refl e242 c245 (g := (mkF m 24 #[.val (.ref o0), .val (.int (17 : Int32))] [(.ref o0)])) rfl rfl (hb hby d6_24)
  obtain ⟨cl247, Ar247, Sz247, Nn247, -⟩ := id (V234.other W242 (Ne.symm ne_r1_r2))
  have hin247 : ¬ ((17 : Int32) < 0 ∨ cl247.slots.size ≤ ((17 : Int32)).toNatClampNeg) := inb_of Sz247 ⟨by decide, by decide⟩
  obtain ⟨T248, h248, X248, e248, W248, st248⟩ := stR X246 hx hZ e246 Ar247 (j := (17 : Int32)) hin247 rfl (Or.inl rfl) (g := (mkF m 29 #[.val (.ref o0), .val (.int (17 : Int32))] [.null, (.int (17 : Int32)), (.ref r2)])) rfl rfl (hb hby d6_29)
  have V248 : own_AL Z h248 r2 (.object "com/example/cardhost/cardhost/InstalledApplet") (20 : Int32) := own_AL.set (V234.other W242 (Ne.symm ne_r1_r2)) W248
  have K249 : Keep h0 h248 [r1, r2] := K243.wr W248 (Or.inl (List.mem_of_getElem? (i := 1) rfl))
  have Z250 : n0 ≤ h248.size := Nat.le_trans Z0 K249.1
  have N248 := Fr.snoc X248 N242 g_r2
  obtain ⟨LS248, X248, N248⟩ : ∃ L, Stand p l e ({ frames := 0, cells := 0, slots := 0, locals := 0 } : Room) s m #[(.ref o0)] below meth c T248 L 0 0 ∧ Fr n0 L := ⟨_, X248, N248⟩
  have pre251 : ∀ t, Steps p.tables e below (T248.setTop (mkF m 5 #[.val (.ref o0), .val (.int (18 : Int32))] [(.int (20 : Int32)), (.int (18 : Int32))])) t → Steps p.tables e below (s₁.setTop (entryFrame m #[(.ref o0)] 2)) t := fun t kt => pre240 t (by
      show Steps p.tables e below (T239.setTop (mkF m 14 #[.val (.ref o0), .val (.int (17 : Int32))] [(.int (17 : Int32)), (.int (17 : Int32)), (.ref r1)])) _
      refine XS.ifYes X239.here hx rfl (pc0 := 14) (pc' := 21) rfl (hb hby d6_14) rfl ((if0 _ _).trans (feq (by decide : ¬ ((17 : Int32) = (0 : Int32)))).2) (by decide) (by decide) ?_
      show Steps p.tables e below (T239.setTop (mkF m 21 #[.val (.ref o0), .val (.int (17 : Int32))] [(.int (17 : Int32)), (.ref r1)])) _
      refine XS.iconst X239.here hx rfl (hb hby d6_21) ?_
      show Steps p.tables e below (T239.setTop (mkF m 22 #[.val (.ref o0), .val (.int (17 : Int32))] [(.int (0 : Int32)), (.int (17 : Int32)), (.ref r1)])) _
      refine st242 _ ?_
      show Steps p.tables e below (T242.setTop (mkF m 23 #[.val (.ref o0), .val (.int (17 : Int32))] [])) _
      refine XS.aloadN X242.here hx rfl (hb hby d6_23) rfl rfl ?_
      show Steps p.tables e below (T242.setTop (mkF m 24 #[.val (.ref o0), .val (.int (17 : Int32))] [(.ref o0)])) _
      refine st246 _ ?_
      show Steps p.tables e below (T246.setTop (mkF m 27 #[.val (.ref o0), .val (.int (17 : Int32))] [(.ref r2)])) _
      refine XS.iloadN X246.here hx rfl (hb hby d6_27) rfl ?_
      show Steps p.tables e below (T246.setTop (mkF m 28 #[.val (.ref o0), .val (.int (17 : Int32))] [(.int (17 : Int32)), (.ref r2)])) _
      refine XS.aconstNull X246.here hx rfl (hb hby d6_28) ?_
      show Steps p.tables e below (T246.setTop (mkF m 29 #[.val (.ref o0), .val (.int (17 : Int32))] [.null, (.int (17 : Int32)), (.ref r2)])) _
      refine st248 _ ?_
      show Steps p.tables e below (T248.setTop (mkF m 30 #[.val (.ref o0), .val (.int (17 : Int32))] [])) _
      refine XS.iinc X248.here hx rfl (hb hby d6_30) rfl (l' := #[.val (.ref o0), .val (.int (18 : Int32))]) rfl ?_
      show Steps p.tables e below (T248.setTop (mkF m 33 #[.val (.ref o0), .val (.int (18 : Int32))] [])) _
      refine XS.goto X248.here hx rfl (pc0 := 33) (pc' := 2) rfl (hb hby d6_33) (by decide) (by decide) ?_
      show Steps p.tables e below (T248.setTop (mkF m 2 #[.val (.ref o0), .val (.int (18 : Int32))] [])) _
      refine XS.iloadN X248.here hx rfl (hb hby d6_2) rfl ?_
      show Steps p.tables e below (T248.setTop (mkF m 3 #[.val (.ref o0), .val (.int (18 : Int32))] [(.int (18 : Int32))])) _
      refine XS.bipush X248.here hx rfl (hb hby d6_3) ?_
      exact kt)
  have c252 := ((c238.other W242 (Or.inl ne_o0_r1)).other W248 (Or.inl ne_o0_r2))
  obtain ⟨T253, X253, e253, st253⟩ := getF X248 hx hZ hown (host := "") (Or.inl (hw _ (List.mem_of_getElem? (i := 15) rfl))) Via.refl e248 c252 (g := (mkF m 9 #[.val (.ref o0), .val (.int (18 : Int32))] [(.ref o0)])) rfl rfl (hb hby d6_9)
  have pre254 : ∀ t, Steps p.tables e below (T253.setTop (mkF m 14 #[.val (.ref o0), .val (.int (18 : Int32))] [(.int (18 : Int32)), (.int (18 : Int32)), (.ref r1)])) t → Steps p.tables e below (s₁.setTop (entryFrame m #[(.ref o0)] 2)) t := fun t kt => pre251 t (by
      show Steps p.tables e below (T248.setTop (mkF m 5 #[.val (.ref o0), .val (.int (18 : Int32))] [(.int (20 : Int32)), (.int (18 : Int32))])) _
      refine XS.icmpNo X248.here hx rfl (hb hby d6_5) rfl (tlt (by decide : ((18 : Int32) < (20 : Int32)))).2.1 ?_
      show Steps p.tables e below (T248.setTop (mkF m 8 #[.val (.ref o0), .val (.int (18 : Int32))] [])) _
      refine XS.aloadN X248.here hx rfl (hb hby d6_8) rfl rfl ?_
      show Steps p.tables e below (T248.setTop (mkF m 9 #[.val (.ref o0), .val (.int (18 : Int32))] [(.ref o0)])) _
      refine st253 _ ?_
      show Steps p.tables e below (T253.setTop (mkF m 12 #[.val (.ref o0), .val (.int (18 : Int32))] [(.ref r1)])) _
      refine XS.iloadN X253.here hx rfl (hb hby d6_12) rfl ?_
      show Steps p.tables e below (T253.setTop (mkF m 13 #[.val (.ref o0), .val (.int (18 : Int32))] [(.int (18 : Int32)), (.ref r1)])) _
      refine XS.iloadN X253.here hx rfl (hb hby d6_13) rfl ?_
      exact kt)
  obtain ⟨cl255, Ar255, Sz255, Nn255, Hs255⟩ := id (V242.other W248 ne_r1_r2)
  have hin255 : ¬ ((18 : Int32) < 0 ∨ cl255.slots.size ≤ ((18 : Int32)).toNatClampNeg) := inb_of Sz255 ⟨by decide, by decide⟩
  obtain ⟨T256, h256, X256, e256, W256, st256⟩ := stZ X253 hx hZ e253 Ar255 (j := (18 : Int32)) hin255 (g := (mkF m 22 #[.val (.ref o0), .val (.int (18 : Int32))] [(.int (0 : Int32)), (.int (18 : Int32)), (.ref r1)])) rfl rfl (hb hby d6_22)
  have V256 : own_AI Z h256 r1 .boolean (20 : Int32) (own_upd (own_upd (own_upd (own_upd (own_upd (own_upd (own_upd (own_upd (own_upd (own_upd (own_upd (own_upd (own_upd (own_upd (own_upd (own_upd (own_upd (own_upd (own_upd F1 0 (1 : Int32)) 1 (0 : Int32)) 2 (0 : Int32)) 3 (0 : Int32)) 4 (0 : Int32)) 5 (0 : Int32)) 6 (0 : Int32)) 7 (0 : Int32)) 8 (0 : Int32)) 9 (0 : Int32)) 10 (0 : Int32)) 11 (0 : Int32)) 12 (0 : Int32)) 13 (0 : Int32)) 14 (0 : Int32)) 15 (0 : Int32)) 16 (0 : Int32)) 17 (0 : Int32)) 18 (0 : Int32)) := own_AI.set (V242.other W248 ne_r1_r2) (fits_nar_bool (0 : Int32)) W256
  have K257 : Keep h0 h256 [r1, r2] := K249.wr W256 (Or.inl (List.mem_of_getElem? (i := 0) rfl))
  have Z258 : n0 ≤ h256.size := Nat.le_trans Z0 K257.1
  have N256 := Fr.snoc X256 N248 g_r1
  obtain ⟨LS256, X256, N256⟩ : ∃ L, Stand p l e ({ frames := 0, cells := 0, slots := 0, locals := 0 } : Room) s m #[(.ref o0)] below meth c T256 L 0 0 ∧ Fr n0 L := ⟨_, X256, N256⟩
  have c259 := ((c245.other W248 (Or.inl ne_o0_r2)).other W256 (Or.inl ne_o0_r1))
  obtain ⟨T260, X260, e260, st260⟩ := getF X256 hx hZ hown (host := "") (Or.inl (hw _ (List.mem_of_getElem? (i := 19) rfl))) Via.refl e256 c259 (g := (mkF m 24 #[.val (.ref o0), .val (.int (18 : Int32))] [(.ref o0)])) rfl rfl (hb hby d6_24)
  obtain ⟨cl261, Ar261, Sz261, Nn261, -⟩ := id (V248.other W256 (Ne.symm ne_r1_r2))
  have hin261 : ¬ ((18 : Int32) < 0 ∨ cl261.slots.size ≤ ((18 : Int32)).toNatClampNeg) := inb_of Sz261 ⟨by decide, by decide⟩
  obtain ⟨T262, h262, X262, e262, W262, st262⟩ := stR X260 hx hZ e260 Ar261 (j := (18 : Int32)) hin261 rfl (Or.inl rfl) (g := (mkF m 29 #[.val (.ref o0), .val (.int (18 : Int32))] [.null, (.int (18 : Int32)), (.ref r2)])) rfl rfl (hb hby d6_29)
  have V262 : own_AL Z h262 r2 (.object "com/example/cardhost/cardhost/InstalledApplet") (20 : Int32) := own_AL.set (V248.other W256 (Ne.symm ne_r1_r2)) W262
  have K263 : Keep h0 h262 [r1, r2] := K257.wr W262 (Or.inl (List.mem_of_getElem? (i := 1) rfl))
  have Z264 : n0 ≤ h262.size := Nat.le_trans Z0 K263.1
  have N262 := Fr.snoc X262 N256 g_r2
  obtain ⟨LS262, X262, N262⟩ : ∃ L, Stand p l e ({ frames := 0, cells := 0, slots := 0, locals := 0 } : Room) s m #[(.ref o0)] below meth c T262 L 0 0 ∧ Fr n0 L := ⟨_, X262, N262⟩
  have pre265 : ∀ t, Steps p.tables e below (T262.setTop (mkF m 5 #[.val (.ref o0), .val (.int (19 : Int32))] [(.int (20 : Int32)), (.int (19 : Int32))])) t → Steps p.tables e below (s₁.setTop (entryFrame m #[(.ref o0)] 2)) t := fun t kt => pre254 t (by
      show Steps p.tables e below (T253.setTop (mkF m 14 #[.val (.ref o0), .val (.int (18 : Int32))] [(.int (18 : Int32)), (.int (18 : Int32)), (.ref r1)])) _
      refine XS.ifYes X253.here hx rfl (pc0 := 14) (pc' := 21) rfl (hb hby d6_14) rfl ((if0 _ _).trans (feq (by decide : ¬ ((18 : Int32) = (0 : Int32)))).2) (by decide) (by decide) ?_
      show Steps p.tables e below (T253.setTop (mkF m 21 #[.val (.ref o0), .val (.int (18 : Int32))] [(.int (18 : Int32)), (.ref r1)])) _
      refine XS.iconst X253.here hx rfl (hb hby d6_21) ?_
      show Steps p.tables e below (T253.setTop (mkF m 22 #[.val (.ref o0), .val (.int (18 : Int32))] [(.int (0 : Int32)), (.int (18 : Int32)), (.ref r1)])) _
      refine st256 _ ?_
      show Steps p.tables e below (T256.setTop (mkF m 23 #[.val (.ref o0), .val (.int (18 : Int32))] [])) _
      refine XS.aloadN X256.here hx rfl (hb hby d6_23) rfl rfl ?_
      show Steps p.tables e below (T256.setTop (mkF m 24 #[.val (.ref o0), .val (.int (18 : Int32))] [(.ref o0)])) _
      refine st260 _ ?_
      show Steps p.tables e below (T260.setTop (mkF m 27 #[.val (.ref o0), .val (.int (18 : Int32))] [(.ref r2)])) _
      refine XS.iloadN X260.here hx rfl (hb hby d6_27) rfl ?_
      show Steps p.tables e below (T260.setTop (mkF m 28 #[.val (.ref o0), .val (.int (18 : Int32))] [(.int (18 : Int32)), (.ref r2)])) _
      refine XS.aconstNull X260.here hx rfl (hb hby d6_28) ?_
      show Steps p.tables e below (T260.setTop (mkF m 29 #[.val (.ref o0), .val (.int (18 : Int32))] [.null, (.int (18 : Int32)), (.ref r2)])) _
      refine st262 _ ?_
      show Steps p.tables e below (T262.setTop (mkF m 30 #[.val (.ref o0), .val (.int (18 : Int32))] [])) _
      refine XS.iinc X262.here hx rfl (hb hby d6_30) rfl (l' := #[.val (.ref o0), .val (.int (19 : Int32))]) rfl ?_
      show Steps p.tables e below (T262.setTop (mkF m 33 #[.val (.ref o0), .val (.int (19 : Int32))] [])) _
      refine XS.goto X262.here hx rfl (pc0 := 33) (pc' := 2) rfl (hb hby d6_33) (by decide) (by decide) ?_
      show Steps p.tables e below (T262.setTop (mkF m 2 #[.val (.ref o0), .val (.int (19 : Int32))] [])) _
      refine XS.iloadN X262.here hx rfl (hb hby d6_2) rfl ?_
      show Steps p.tables e below (T262.setTop (mkF m 3 #[.val (.ref o0), .val (.int (19 : Int32))] [(.int (19 : Int32))])) _
      refine XS.bipush X262.here hx rfl (hb hby d6_3) ?_
      exact kt)
  have c266 := ((c252.other W256 (Or.inl ne_o0_r1)).other W262 (Or.inl ne_o0_r2))
  obtain ⟨T267, X267, e267, st267⟩ := getF X262 hx hZ hown (host := "") (Or.inl (hw _ (List.mem_of_getElem? (i := 15) rfl))) Via.refl e262 c266 (g := (mkF m 9 #[.val (.ref o0), .val (.int (19 : Int32))] [(.ref o0)])) rfl rfl (hb hby d6_9)
  have pre268 : ∀ t, Steps p.tables e below (T267.setTop (mkF m 14 #[.val (.ref o0), .val (.int (19 : Int32))] [(.int (19 : Int32)), (.int (19 : Int32)), (.ref r1)])) t → Steps p.tables e below (s₁.setTop (entryFrame m #[(.ref o0)] 2)) t := fun t kt => pre265 t (by
      show Steps p.tables e below (T262.setTop (mkF m 5 #[.val (.ref o0), .val (.int (19 : Int32))] [(.int (20 : Int32)), (.int (19 : Int32))])) _
      refine XS.icmpNo X262.here hx rfl (hb hby d6_5) rfl (tlt (by decide : ((19 : Int32) < (20 : Int32)))).2.1 ?_
      show Steps p.tables e below (T262.setTop (mkF m 8 #[.val (.ref o0), .val (.int (19 : Int32))] [])) _
      refine XS.aloadN X262.here hx rfl (hb hby d6_8) rfl rfl ?_
      show Steps p.tables e below (T262.setTop (mkF m 9 #[.val (.ref o0), .val (.int (19 : Int32))] [(.ref o0)])) _
      refine st267 _ ?_
      show Steps p.tables e below (T267.setTop (mkF m 12 #[.val (.ref o0), .val (.int (19 : Int32))] [(.ref r1)])) _
      refine XS.iloadN X267.here hx rfl (hb hby d6_12) rfl ?_
      show Steps p.tables e below (T267.setTop (mkF m 13 #[.val (.ref o0), .val (.int (19 : Int32))] [(.int (19 : Int32)), (.ref r1)])) _
      refine XS.iloadN X267.here hx rfl (hb hby d6_13) rfl ?_
      exact kt)
  obtain ⟨cl269, Ar269, Sz269, Nn269, Hs269⟩ := id (V256.other W262 ne_r1_r2)
  have hin269 : ¬ ((19 : Int32) < 0 ∨ cl269.slots.size ≤ ((19 : Int32)).toNatClampNeg) := inb_of Sz269 ⟨by decide, by decide⟩
  obtain ⟨T270, h270, X270, e270, W270, st270⟩ := stZ X267 hx hZ e267 Ar269 (j := (19 : Int32)) hin269 (g := (mkF m 22 #[.val (.ref o0), .val (.int (19 : Int32))] [(.int (0 : Int32)), (.int (19 : Int32)), (.ref r1)])) rfl rfl (hb hby d6_22)
  have V270 : own_AI Z h270 r1 .boolean (20 : Int32) (own_upd (own_upd (own_upd (own_upd (own_upd (own_upd (own_upd (own_upd (own_upd (own_upd (own_upd (own_upd (own_upd (own_upd (own_upd (own_upd (own_upd (own_upd (own_upd (own_upd F1 0 (1 : Int32)) 1 (0 : Int32)) 2 (0 : Int32)) 3 (0 : Int32)) 4 (0 : Int32)) 5 (0 : Int32)) 6 (0 : Int32)) 7 (0 : Int32)) 8 (0 : Int32)) 9 (0 : Int32)) 10 (0 : Int32)) 11 (0 : Int32)) 12 (0 : Int32)) 13 (0 : Int32)) 14 (0 : Int32)) 15 (0 : Int32)) 16 (0 : Int32)) 17 (0 : Int32)) 18 (0 : Int32)) 19 (0 : Int32)) := own_AI.set (V256.other W262 ne_r1_r2) (fits_nar_bool (0 : Int32)) W270
  have K271 : Keep h0 h270 [r1, r2] := K263.wr W270 (Or.inl (List.mem_of_getElem? (i := 0) rfl))
  have Z272 : n0 ≤ h270.size := Nat.le_trans Z0 K271.1
  have N270 := Fr.snoc X270 N262 g_r1
  obtain ⟨LS270, X270, N270⟩ : ∃ L, Stand p l e ({ frames := 0, cells := 0, slots := 0, locals := 0 } : Room) s m #[(.ref o0)] below meth c T270 L 0 0 ∧ Fr n0 L := ⟨_, X270, N270⟩
  have c273 := ((c259.other W262 (Or.inl ne_o0_r2)).other W270 (Or.inl ne_o0_r1))
  obtain ⟨T274, X274, e274, st274⟩ := getF X270 hx hZ hown (host := "") (Or.inl (hw _ (List.mem_of_getElem? (i := 19) rfl))) Via.refl e270 c273 (g := (mkF m 24 #[.val (.ref o0), .val (.int (19 : Int32))] [(.ref o0)])) rfl rfl (hb hby d6_24)
  obtain ⟨cl275, Ar275, Sz275, Nn275, -⟩ := id (V262.other W270 (Ne.symm ne_r1_r2))
  have hin275 : ¬ ((19 : Int32) < 0 ∨ cl275.slots.size ≤ ((19 : Int32)).toNatClampNeg) := inb_of Sz275 ⟨by decide, by decide⟩
  obtain ⟨T276, h276, X276, e276, W276, st276⟩ := stR X274 hx hZ e274 Ar275 (j := (19 : Int32)) hin275 rfl (Or.inl rfl) (g := (mkF m 29 #[.val (.ref o0), .val (.int (19 : Int32))] [.null, (.int (19 : Int32)), (.ref r2)])) rfl rfl (hb hby d6_29)
  have V276 : own_AL Z h276 r2 (.object "com/example/cardhost/cardhost/InstalledApplet") (20 : Int32) := own_AL.set (V262.other W270 (Ne.symm ne_r1_r2)) W276
  have K277 : Keep h0 h276 [r1, r2] := K271.wr W276 (Or.inl (List.mem_of_getElem? (i := 1) rfl))
  have Z278 : n0 ≤ h276.size := Nat.le_trans Z0 K277.1
  have N276 := Fr.snoc X276 N270 g_r2
  obtain ⟨LS276, X276, N276⟩ : ∃ L, Stand p l e ({ frames := 0, cells := 0, slots := 0, locals := 0 } : Room) s m #[(.ref o0)] below meth c T276 L 0 0 ∧ Fr n0 L := ⟨_, X276, N276⟩
  have pre279 : ∀ t, Steps p.tables e below (T276.setTop (mkF m 5 #[.val (.ref o0), .val (.int (20 : Int32))] [(.int (20 : Int32)), (.int (20 : Int32))])) t → Steps p.tables e below (s₁.setTop (entryFrame m #[(.ref o0)] 2)) t := fun t kt => pre268 t (by
      show Steps p.tables e below (T267.setTop (mkF m 14 #[.val (.ref o0), .val (.int (19 : Int32))] [(.int (19 : Int32)), (.int (19 : Int32)), (.ref r1)])) _
      refine XS.ifYes X267.here hx rfl (pc0 := 14) (pc' := 21) rfl (hb hby d6_14) rfl ((if0 _ _).trans (feq (by decide : ¬ ((19 : Int32) = (0 : Int32)))).2) (by decide) (by decide) ?_
      show Steps p.tables e below (T267.setTop (mkF m 21 #[.val (.ref o0), .val (.int (19 : Int32))] [(.int (19 : Int32)), (.ref r1)])) _
      refine XS.iconst X267.here hx rfl (hb hby d6_21) ?_
      show Steps p.tables e below (T267.setTop (mkF m 22 #[.val (.ref o0), .val (.int (19 : Int32))] [(.int (0 : Int32)), (.int (19 : Int32)), (.ref r1)])) _
      refine st270 _ ?_
      show Steps p.tables e below (T270.setTop (mkF m 23 #[.val (.ref o0), .val (.int (19 : Int32))] [])) _
      refine XS.aloadN X270.here hx rfl (hb hby d6_23) rfl rfl ?_
      show Steps p.tables e below (T270.setTop (mkF m 24 #[.val (.ref o0), .val (.int (19 : Int32))] [(.ref o0)])) _
      refine st274 _ ?_
      show Steps p.tables e below (T274.setTop (mkF m 27 #[.val (.ref o0), .val (.int (19 : Int32))] [(.ref r2)])) _
      refine XS.iloadN X274.here hx rfl (hb hby d6_27) rfl ?_
      show Steps p.tables e below (T274.setTop (mkF m 28 #[.val (.ref o0), .val (.int (19 : Int32))] [(.int (19 : Int32)), (.ref r2)])) _
      refine XS.aconstNull X274.here hx rfl (hb hby d6_28) ?_
      show Steps p.tables e below (T274.setTop (mkF m 29 #[.val (.ref o0), .val (.int (19 : Int32))] [.null, (.int (19 : Int32)), (.ref r2)])) _
      refine st276 _ ?_
      show Steps p.tables e below (T276.setTop (mkF m 30 #[.val (.ref o0), .val (.int (19 : Int32))] [])) _
      refine XS.iinc X276.here hx rfl (hb hby d6_30) rfl (l' := #[.val (.ref o0), .val (.int (20 : Int32))]) rfl ?_
      show Steps p.tables e below (T276.setTop (mkF m 33 #[.val (.ref o0), .val (.int (20 : Int32))] [])) _
      refine XS.goto X276.here hx rfl (pc0 := 33) (pc' := 2) rfl (hb hby d6_33) (by decide) (by decide) ?_
      show Steps p.tables e below (T276.setTop (mkF m 2 #[.val (.ref o0), .val (.int (20 : Int32))] [])) _
      refine XS.iloadN X276.here hx rfl (hb hby d6_2) rfl ?_
      show Steps p.tables e below (T276.setTop (mkF m 3 #[.val (.ref o0), .val (.int (20 : Int32))] [(.int (20 : Int32))])) _
      refine XS.bipush X276.here hx rfl (hb hby d6_3) ?_
      exact kt)
  obtain ⟨fs, hr, hrun, hended, hW, hsame⟩ := X276.leave (v := none) (fun _ => rfl)
  refine ⟨_, _, pre279 _ ?_, hrun, hended, _, _, rfl, ?_, ⟨_, rfl⟩, hW, hsame.mono (by decide) (by decide)⟩
  · show Steps p.tables e below (T276.setTop (mkF m 5 #[.val (.ref o0), .val (.int (20 : Int32))] [(.int (20 : Int32)), (.int (20 : Int32))])) _
    refine XS.icmpYes X276.here hx rfl (pc0 := 5) (pc' := 36) rfl (hb hby d6_5) rfl (flt (by decide : ¬ ((20 : Int32) < (20 : Int32)))).2.1 (by decide) (by decide) ?_
    show Steps p.tables e below (T276.setTop (mkF m 36 #[.val (.ref o0), .val (.int (20 : Int32))] [])) _
    exact X276.returnOut hx Bd.returns (hb hby d6_36) hr
  · show Q6 Z o0 r1 F1 r2 h0 n0 _ T276.heap _
    rw [e276]
    exact ⟨rfl, N276, K277, (by rw [f6_r1_a]; exact (V270.other W276 ne_r1_r2)), V276⟩
theorem d7_0 : decode prog_4_method_2_code 0 = .ok (.aload_n 0, 1) := by decide +kernel
theorem d7_1 : decode prog_4_method_2_code 1 = .ok (.getfield 9, 3) := by decide +kernel
theorem d7_4 : decode prog_4_method_2_code 4 = .ok (.iload_n 1, 1) := by decide +kernel
theorem d7_5 : decode prog_4_method_2_code 5 = .ok (.baload, 1) := by decide +kernel
theorem d7_6 : decode prog_4_method_2_code 6 = .ok (.ireturn, 1) := by decide +kernel
theorem pn_7 : plainName "com/example/cardhost/cardhost/LogicalChannels" = true := by first | (simp [plainName, overriddenIn]; done) | decide +kernel
theorem ef_7 (m : MethodId) (x0 : Addr) (x1 : Int32) : entryFrame m #[(.ref x0), (.int x1)] 2 = mkF m 0 #[.val (.ref x0), .val (.int x1)] [] := by first | (simp [entryFrame, mkF, argsToLocals, Value.category]; done) | rfl
def Q7 (Z : State) (o0 : Addr) (p1 : Int32) (r1 : Addr) (F1 : Nat → Int32) (h0 : Heap) (n0 : Nat) (v : Option Value) (h : Heap) (L : List Loc) : Prop := v = some (.int (nar .boolean (F1 (p1).toNatClampNeg))) ∧ Fr n0 L ∧ h = h0
set_option maxRecDepth 65536 in
set_option maxHeartbeats 40000000 in
theorem rm7 (l : Launch) (Z : State) (a0 : Array Value) (hw : ∀ d ∈ tables_1, d.before a0 Z = true) (ws : List Jvm.Cond) (o0 : Addr) (p1 : Int32) (r1 : Addr) (F1 : Nat → Int32) (h0 : Heap) (n0 : Nat) (Z0 : n0 ≤ h0.size) (F_open_o0 : Fld Z h0 o0 "com/example/cardhost/cardhost/LogicalChannels" "open" "[Z" (.ref r1)) (V_r1 : own_AI Z h0 r1 .boolean (20 : Int32) F1) (g_r1 : n0 ≤ r1) (hbd : ¬ p1 < 0 ∧ p1 < (20 : Int32)) :
    MetFree l (⟨"com/example/cardhost/cardhost/LogicalChannels", "isOpen", "(I)Z"⟩ : MethodName) (head1 (Jvm.Cond.code (⟨"com/example/cardhost/cardhost/LogicalChannels", "isOpen", "(I)Z"⟩ : MethodName) prog_4_method_2_code 2 (some .boolean) :: ws) ({ frames := 0, cells := 0, slots := 0, locals := 0 } : Room)) (fun a U => a = #[(.ref o0), (.int p1)] ∧ Z.Warmed39 U.vm ∧ U.heap = h0) (fun _ _ _ _ _ => True) (fun _ U o U' => ∃ v L, o = .returned v ∧ Q7 Z o0 p1 r1 F1 h0 n0 v U'.heap L ∧ FrameEnd U o U' L ({ frames := 0, cells := 0, slots := 0, locals := 0 } : Room).cells ({ frames := 0, cells := 0, slots := 0, locals := 0 } : Room).slots) := by
  refine MetFree.of_bodySF (plainFor_of_name pn_7) hisR ?_
  intro p e s m args below meth c s₁ Bd hml0 hP hK
  obtain ⟨rfl, hZ, hh⟩ := hP
  have hx := Bd.exec
  have hby := Bd.bytes
  have hml : c.maxLocals = 2 := hml0
  have hown : s.vm.findClass "com/example/cardhost/cardhost/LogicalChannels" = some m.cls := findClass_of_methodNamed Bd.named
  have hnm := (name_of_methodNamed Bd.named Bd.method).1
  have X0 : Stand p l e ({ frames := 0, cells := 0, slots := 0, locals := 0 } : Room) s m #[(.ref o0), (.int p1)] below meth c s₁ [] 0 0 := Stand.of_body Bd
  have e0 : s₁.heap = h0 := by rw [← hh, Bd.state]; rfl
  have N0 := Fr.nil n0
  have pre0 : ∀ t, Steps p.tables e below (s₁.setTop (mkF m 0 #[.val (.ref o0), .val (.int p1)] [])) t → Steps p.tables e below (s₁.setTop (entryFrame m #[(.ref o0), (.int p1)] 2)) t := fun t k => castTop (ef_7 m o0 p1) k
  obtain ⟨T1, X1, e1, st1⟩ := getF X0 hx hZ hown (host := "") (Or.inl (hw _ (List.mem_of_getElem? (i := 15) rfl))) Via.refl e0 F_open_o0 (g := (mkF m 1 #[.val (.ref o0), .val (.int p1)] [(.ref o0)])) rfl rfl (hb hby d7_1)
  obtain ⟨cl2, Ar2, Sz2, Nn2, Hs2⟩ := id V_r1
  have hin2 : ¬ (p1 < 0 ∨ cl2.slots.size ≤ (p1).toNatClampNeg) := inb_of Sz2 hbd
  have hat2 : cl2.slots[(p1).toNatClampNeg]? = some (.int (F1 (p1).toNatClampNeg)) := (Hs2 _ (own_lt hin2)).1
  obtain ⟨fs, hr, hrun, hended, hW, hsame⟩ := X1.leave (v := some (.int (nar .boolean (F1 (p1).toNatClampNeg)))) (fun h => by rw [Bd.returns] at h; cases h)
  have hv3 : (nar .boolean (F1 (p1).toNatClampNeg)) = (nar .boolean (F1 (p1).toNatClampNeg)) := rfl
  refine ⟨_, _, pre0 _ ?_, hrun, hended, _, _, rfl, ?_, ⟨_, rfl⟩, hW, hsame.mono (by decide) (by decide)⟩
  · show Steps p.tables e below (s₁.setTop (mkF m 0 #[.val (.ref o0), .val (.int p1)] [])) _
    refine XS.aloadN X0.here hx rfl (hb hby d7_0) rfl rfl ?_
    show Steps p.tables e below (s₁.setTop (mkF m 1 #[.val (.ref o0), .val (.int p1)] [(.ref o0)])) _
    refine st1 _ ?_
    show Steps p.tables e below (T1.setTop (mkF m 4 #[.val (.ref o0), .val (.int p1)] [(.ref r1)])) _
    refine XS.iloadN X1.here hx rfl (hb hby d7_4) rfl ?_
    show Steps p.tables e below (T1.setTop (mkF m 5 #[.val (.ref o0), .val (.int p1)] [(.int p1), (.ref r1)])) _
    refine X1.baloadBooleans hx (j := p1) (v := (.int (F1 (p1).toNatClampNeg))) (by rw [e1]; exact Ar2.1) (State.isArrayOf_alike hZ.alike Ar2.2.1) Ar2.2.2 hin2 hat2 (g := (mkF m 5 #[.val (.ref o0), .val (.int p1)] [(.int p1), (.ref r1)])) rfl rfl (hb hby d7_5) _ ?_
    show Steps p.tables e below (T1.setTop (mkF m 6 #[.val (.ref o0), .val (.int p1)] [(.int (F1 (p1).toNatClampNeg))])) _
    exact retN X1 hx (t := .boolean) Bd.returns (by simp) (hb hby d7_6) hr
  · show Q7 Z o0 p1 r1 F1 h0 n0 _ T1.heap _
    rw [e1]
    exact ⟨congrArg (fun q => some (Value.int q)) hv3.symm, N0, rfl⟩
theorem d8_0 : decode prog_4_method_3_code 0 = .ok (.iconst 1, 1) := by decide +kernel
theorem d8_1 : decode prog_4_method_3_code 1 = .ok (.istore_n 1, 1) := by decide +kernel
theorem d8_2 : decode prog_4_method_3_code 2 = .ok (.iload_n 1, 1) := by decide +kernel
theorem d8_3 : decode prog_4_method_3_code 3 = .ok (.bipush 20, 2) := by decide +kernel
theorem d8_5 : decode prog_4_method_3_code 5 = .ok (.if_icmp .ge 18, 3) := by decide +kernel
theorem d8_8 : decode prog_4_method_3_code 8 = .ok (.aload_n 0, 1) := by decide +kernel
theorem d8_9 : decode prog_4_method_3_code 9 = .ok (.getfield 9, 3) := by decide +kernel
theorem d8_12 : decode prog_4_method_3_code 12 = .ok (.iload_n 1, 1) := by decide +kernel
theorem d8_13 : decode prog_4_method_3_code 13 = .ok (.baload, 1) := by decide +kernel
theorem d8_14 : decode prog_4_method_3_code 14 = .ok (.ifCond .eq 9, 3) := by decide +kernel
theorem d8_17 : decode prog_4_method_3_code 17 = .ok (.iinc 1 1, 3) := by decide +kernel
theorem d8_20 : decode prog_4_method_3_code 20 = .ok (.goto (-18), 3) := by decide +kernel
theorem d8_23 : decode prog_4_method_3_code 23 = .ok (.iload_n 1, 1) := by decide +kernel
theorem d8_24 : decode prog_4_method_3_code 24 = .ok (.ireturn, 1) := by decide +kernel
theorem pn_8 : plainName "com/example/cardhost/cardhost/LogicalChannels" = true := by first | (simp [plainName, overriddenIn]; done) | decide +kernel
theorem ef_8 (m : MethodId) (x0 : Addr) : entryFrame m #[(.ref x0)] 2 = mkF m 0 #[.val (.ref x0), .unset] [] := by first | (simp [entryFrame, mkF, argsToLocals, Value.category]; done) | rfl
def f8 (F1 : Nat → Int32) : Int32 :=
  if (F1 1) = (0 : Int32) then ((1 : Int32)) else
  (if (F1 2) = (0 : Int32) then ((2 : Int32)) else
  (if (F1 3) = (0 : Int32) then ((3 : Int32)) else
  (if (F1 4) = (0 : Int32) then ((4 : Int32)) else
  (if (F1 5) = (0 : Int32) then ((5 : Int32)) else
  (if (F1 6) = (0 : Int32) then ((6 : Int32)) else
  (if (F1 7) = (0 : Int32) then ((7 : Int32)) else
  (if (F1 8) = (0 : Int32) then ((8 : Int32)) else
  (if (F1 9) = (0 : Int32) then ((9 : Int32)) else
  (if (F1 10) = (0 : Int32) then ((10 : Int32)) else
  (if (F1 11) = (0 : Int32) then ((11 : Int32)) else
  (if (F1 12) = (0 : Int32) then ((12 : Int32)) else
  (if (F1 13) = (0 : Int32) then ((13 : Int32)) else
  (if (F1 14) = (0 : Int32) then ((14 : Int32)) else
  (if (F1 15) = (0 : Int32) then ((15 : Int32)) else
  (if (F1 16) = (0 : Int32) then ((16 : Int32)) else
  (if (F1 17) = (0 : Int32) then ((17 : Int32)) else
  (if (F1 18) = (0 : Int32) then ((18 : Int32)) else
  (if (F1 19) = (0 : Int32) then ((19 : Int32)) else
  ((20 : Int32))))))))))))))))))))
def Q8 (Z : State) (o0 : Addr) (r1 : Addr) (F1 : Nat → Int32) (h0 : Heap) (n0 : Nat) (v : Option Value) (h : Heap) (L : List Loc) : Prop := v = some (.int (f8 F1)) ∧ Fr n0 L ∧ h = h0
set_option maxRecDepth 65536 in
set_option maxHeartbeats 40000000 in
theorem rm8 (l : Launch) (Z : State) (a0 : Array Value) (hw : ∀ d ∈ tables_1, d.before a0 Z = true) (ws : List Jvm.Cond) (o0 : Addr) (r1 : Addr) (F1 : Nat → Int32) (h0 : Heap) (n0 : Nat) (Z0 : n0 ≤ h0.size) (F_open_o0 : Fld Z h0 o0 "com/example/cardhost/cardhost/LogicalChannels" "open" "[Z" (.ref r1)) (V_r1 : own_AI Z h0 r1 .boolean (20 : Int32) F1) (g_r1 : n0 ≤ r1) :
    MetFree l (⟨"com/example/cardhost/cardhost/LogicalChannels", "lowestClosed", "()I"⟩ : MethodName) (head1 (Jvm.Cond.code (⟨"com/example/cardhost/cardhost/LogicalChannels", "lowestClosed", "()I"⟩ : MethodName) prog_4_method_3_code 2 (some .int) :: ws) ({ frames := 0, cells := 0, slots := 0, locals := 0 } : Room)) (fun a U => a = #[(.ref o0)] ∧ Z.Warmed39 U.vm ∧ U.heap = h0) (fun _ _ _ _ _ => True) (fun _ U o U' => ∃ v L, o = .returned v ∧ Q8 Z o0 r1 F1 h0 n0 v U'.heap L ∧ FrameEnd U o U' L ({ frames := 0, cells := 0, slots := 0, locals := 0 } : Room).cells ({ frames := 0, cells := 0, slots := 0, locals := 0 } : Room).slots) := by
  refine MetFree.of_bodySF (plainFor_of_name pn_8) hisR ?_
  intro p e s m args below meth c s₁ Bd hml0 hP hK
  obtain ⟨rfl, hZ, hh⟩ := hP
  have hx := Bd.exec
  have hby := Bd.bytes
  have hml : c.maxLocals = 2 := hml0
  have hown : s.vm.findClass "com/example/cardhost/cardhost/LogicalChannels" = some m.cls := findClass_of_methodNamed Bd.named
  have hnm := (name_of_methodNamed Bd.named Bd.method).1
  have X0 : Stand p l e ({ frames := 0, cells := 0, slots := 0, locals := 0 } : Room) s m #[(.ref o0)] below meth c s₁ [] 0 0 := Stand.of_body Bd
  have e0 : s₁.heap = h0 := by rw [← hh, Bd.state]; rfl
  have N0 := Fr.nil n0
  have pre0 : ∀ t, Steps p.tables e below (s₁.setTop (mkF m 0 #[.val (.ref o0), .unset] [])) t → Steps p.tables e below (s₁.setTop (entryFrame m #[(.ref o0)] 2)) t := fun t k => castTop (ef_8 m o0) k
  have pre1 : ∀ t, Steps p.tables e below (s₁.setTop (mkF m 5 #[.val (.ref o0), .val (.int (1 : Int32))] [(.int (20 : Int32)), (.int (1 : Int32))])) t → Steps p.tables e below (s₁.setTop (entryFrame m #[(.ref o0)] 2)) t := fun t kt => pre0 t (by
      show Steps p.tables e below (s₁.setTop (mkF m 0 #[.val (.ref o0), .unset] [])) _
      refine XS.iconst X0.here hx rfl (hb hby d8_0) ?_
      show Steps p.tables e below (s₁.setTop (mkF m 1 #[.val (.ref o0), .unset] [(.int (1 : Int32))])) _
      refine XS.istoreN X0.here hx rfl (hb hby d8_1) rfl (l' := #[.val (.ref o0), .val (.int (1 : Int32))]) rfl ?_
      show Steps p.tables e below (s₁.setTop (mkF m 2 #[.val (.ref o0), .val (.int (1 : Int32))] [])) _
      refine XS.iloadN X0.here hx rfl (hb hby d8_2) rfl ?_
      show Steps p.tables e below (s₁.setTop (mkF m 3 #[.val (.ref o0), .val (.int (1 : Int32))] [(.int (1 : Int32))])) _
      refine XS.bipush X0.here hx rfl (hb hby d8_3) ?_
      exact kt)
  obtain ⟨T2, X2, e2, st2⟩ := getF X0 hx hZ hown (host := "") (Or.inl (hw _ (List.mem_of_getElem? (i := 15) rfl))) Via.refl e0 F_open_o0 (g := (mkF m 9 #[.val (.ref o0), .val (.int (1 : Int32))] [(.ref o0)])) rfl rfl (hb hby d8_9)
  obtain ⟨cl3, Ar3, Sz3, Nn3, Hs3⟩ := id V_r1
  have hin3 : ¬ ((1 : Int32) < 0 ∨ cl3.slots.size ≤ ((1 : Int32)).toNatClampNeg) := inb_of Sz3 ⟨by decide, by decide⟩
  have hat3 : cl3.slots[((1 : Int32)).toNatClampNeg]? = some (.int (F1 1)) := (Hs3 _ (own_lt hin3)).1
  have pre4 : ∀ t, Steps p.tables e below (T2.setTop (mkF m 14 #[.val (.ref o0), .val (.int (1 : Int32))] [(.int (F1 1))])) t → Steps p.tables e below (s₁.setTop (entryFrame m #[(.ref o0)] 2)) t := fun t kt => pre1 t (by
      show Steps p.tables e below (s₁.setTop (mkF m 5 #[.val (.ref o0), .val (.int (1 : Int32))] [(.int (20 : Int32)), (.int (1 : Int32))])) _
      refine XS.icmpNo X0.here hx rfl (hb hby d8_5) rfl (tlt (by decide : ((1 : Int32) < (20 : Int32)))).2.1 ?_
      show Steps p.tables e below (s₁.setTop (mkF m 8 #[.val (.ref o0), .val (.int (1 : Int32))] [])) _
      refine XS.aloadN X0.here hx rfl (hb hby d8_8) rfl rfl ?_
      show Steps p.tables e below (s₁.setTop (mkF m 9 #[.val (.ref o0), .val (.int (1 : Int32))] [(.ref o0)])) _
      refine st2 _ ?_
      show Steps p.tables e below (T2.setTop (mkF m 12 #[.val (.ref o0), .val (.int (1 : Int32))] [(.ref r1)])) _
      refine XS.iloadN X2.here hx rfl (hb hby d8_12) rfl ?_
      show Steps p.tables e below (T2.setTop (mkF m 13 #[.val (.ref o0), .val (.int (1 : Int32))] [(.int (1 : Int32)), (.ref r1)])) _
      refine X2.baloadBooleans hx (j := (1 : Int32)) (v := (.int (F1 1))) (by rw [e2]; exact Ar3.1) (State.isArrayOf_alike hZ.alike Ar3.2.1) Ar3.2.2 hin3 hat3 (g := (mkF m 13 #[.val (.ref o0), .val (.int (1 : Int32))] [(.int (1 : Int32)), (.ref r1)])) rfl rfl (hb hby d8_13) _ ?_
      exact kt)
  by_cases hc14_5 : (F1 1) = (0 : Int32)
  · obtain ⟨fs, hr, hrun, hended, hW, hsame⟩ := X2.leave (v := some (.int (1 : Int32))) (fun h => by rw [Bd.returns] at h; cases h)
    have hv97 : (f8 F1) = (1 : Int32) := by rw [f8, if_pos hc14_5]
    refine ⟨_, _, pre4 _ ?_, hrun, hended, _, _, rfl, ?_, ⟨_, rfl⟩, hW, hsame.mono (by decide) (by decide)⟩
    · show Steps p.tables e below (T2.setTop (mkF m 14 #[.val (.ref o0), .val (.int (1 : Int32))] [(.int (F1 1))])) _
      refine XS.ifYes X2.here hx rfl (pc0 := 14) (pc' := 23) rfl (hb hby d8_14) rfl ((if0 _ _).trans (teq hc14_5).1) (by decide) (by decide) ?_
      show Steps p.tables e below (T2.setTop (mkF m 23 #[.val (.ref o0), .val (.int (1 : Int32))] [])) _
      refine XS.iloadN X2.here hx rfl (hb hby d8_23) rfl ?_
      show Steps p.tables e below (T2.setTop (mkF m 24 #[.val (.ref o0), .val (.int (1 : Int32))] [(.int (1 : Int32))])) _
      exact retI X2 hx Bd.returns (hb hby d8_24) hr
    · show Q8 Z o0 r1 F1 h0 n0 _ T2.heap _
      rw [e2]
      exact ⟨congrArg (fun q => some (Value.int q)) hv97.symm, N0, rfl⟩
  · have pre6 : ∀ t, Steps p.tables e below (T2.setTop (mkF m 5 #[.val (.ref o0), .val (.int (2 : Int32))] [(.int (20 : Int32)), (.int (2 : Int32))])) t → Steps p.tables e below (s₁.setTop (entryFrame m #[(.ref o0)] 2)) t := fun t kt => pre4 t (by
        show Steps p.tables e below (T2.setTop (mkF m 14 #[.val (.ref o0), .val (.int (1 : Int32))] [(.int (F1 1))])) _
        refine XS.ifNo X2.here hx rfl (hb hby d8_14) rfl ((if0 _ _).trans (feq hc14_5).1) ?_
        show Steps p.tables e below (T2.setTop (mkF m 17 #[.val (.ref o0), .val (.int (1 : Int32))] [])) _
        refine XS.iinc X2.here hx rfl (hb hby d8_17) rfl (l' := #[.val (.ref o0), .val (.int (2 : Int32))]) rfl ?_
        show Steps p.tables e below (T2.setTop (mkF m 20 #[.val (.ref o0), .val (.int (2 : Int32))] [])) _
        refine XS.goto X2.here hx rfl (pc0 := 20) (pc' := 2) rfl (hb hby d8_20) (by decide) (by decide) ?_
        show Steps p.tables e below (T2.setTop (mkF m 2 #[.val (.ref o0), .val (.int (2 : Int32))] [])) _
        refine XS.iloadN X2.here hx rfl (hb hby d8_2) rfl ?_
        show Steps p.tables e below (T2.setTop (mkF m 3 #[.val (.ref o0), .val (.int (2 : Int32))] [(.int (2 : Int32))])) _
        refine XS.bipush X2.here hx rfl (hb hby d8_3) ?_
        exact kt)
    obtain ⟨T7, X7, e7, st7⟩ := getF X2 hx hZ hown (host := "") (Or.inl (hw _ (List.mem_of_getElem? (i := 15) rfl))) Via.refl e2 F_open_o0 (g := (mkF m 9 #[.val (.ref o0), .val (.int (2 : Int32))] [(.ref o0)])) rfl rfl (hb hby d8_9)
    obtain ⟨cl8, Ar8, Sz8, Nn8, Hs8⟩ := id V_r1
    have hin8 : ¬ ((2 : Int32) < 0 ∨ cl8.slots.size ≤ ((2 : Int32)).toNatClampNeg) := inb_of Sz8 ⟨by decide, by decide⟩
    have hat8 : cl8.slots[((2 : Int32)).toNatClampNeg]? = some (.int (F1 2)) := (Hs8 _ (own_lt hin8)).1
    have pre9 : ∀ t, Steps p.tables e below (T7.setTop (mkF m 14 #[.val (.ref o0), .val (.int (2 : Int32))] [(.int (F1 2))])) t → Steps p.tables e below (s₁.setTop (entryFrame m #[(.ref o0)] 2)) t := fun t kt => pre6 t (by
        show Steps p.tables e below (T2.setTop (mkF m 5 #[.val (.ref o0), .val (.int (2 : Int32))] [(.int (20 : Int32)), (.int (2 : Int32))])) _
        refine XS.icmpNo X2.here hx rfl (hb hby d8_5) rfl (tlt (by decide : ((2 : Int32) < (20 : Int32)))).2.1 ?_
        show Steps p.tables e below (T2.setTop (mkF m 8 #[.val (.ref o0), .val (.int (2 : Int32))] [])) _
        refine XS.aloadN X2.here hx rfl (hb hby d8_8) rfl rfl ?_
        show Steps p.tables e below (T2.setTop (mkF m 9 #[.val (.ref o0), .val (.int (2 : Int32))] [(.ref o0)])) _
        refine st7 _ ?_
        show Steps p.tables e below (T7.setTop (mkF m 12 #[.val (.ref o0), .val (.int (2 : Int32))] [(.ref r1)])) _
        refine XS.iloadN X7.here hx rfl (hb hby d8_12) rfl ?_
        show Steps p.tables e below (T7.setTop (mkF m 13 #[.val (.ref o0), .val (.int (2 : Int32))] [(.int (2 : Int32)), (.ref r1)])) _
        refine X7.baloadBooleans hx (j := (2 : Int32)) (v := (.int (F1 2))) (by rw [e7]; exact Ar8.1) (State.isArrayOf_alike hZ.alike Ar8.2.1) Ar8.2.2 hin8 hat8 (g := (mkF m 13 #[.val (.ref o0), .val (.int (2 : Int32))] [(.int (2 : Int32)), (.ref r1)])) rfl rfl (hb hby d8_13) _ ?_
        exact kt)
    by_cases hc14_10 : (F1 2) = (0 : Int32)
    · obtain ⟨fs, hr, hrun, hended, hW, hsame⟩ := X7.leave (v := some (.int (2 : Int32))) (fun h => by rw [Bd.returns] at h; cases h)
      have hv98 : (f8 F1) = (2 : Int32) := by rw [f8, if_neg hc14_5, if_pos hc14_10]
      refine ⟨_, _, pre9 _ ?_, hrun, hended, _, _, rfl, ?_, ⟨_, rfl⟩, hW, hsame.mono (by decide) (by decide)⟩
      · show Steps p.tables e below (T7.setTop (mkF m 14 #[.val (.ref o0), .val (.int (2 : Int32))] [(.int (F1 2))])) _
        refine XS.ifYes X7.here hx rfl (pc0 := 14) (pc' := 23) rfl (hb hby d8_14) rfl ((if0 _ _).trans (teq hc14_10).1) (by decide) (by decide) ?_
        show Steps p.tables e below (T7.setTop (mkF m 23 #[.val (.ref o0), .val (.int (2 : Int32))] [])) _
        refine XS.iloadN X7.here hx rfl (hb hby d8_23) rfl ?_
        show Steps p.tables e below (T7.setTop (mkF m 24 #[.val (.ref o0), .val (.int (2 : Int32))] [(.int (2 : Int32))])) _
        exact retI X7 hx Bd.returns (hb hby d8_24) hr
      · show Q8 Z o0 r1 F1 h0 n0 _ T7.heap _
        rw [e7]
        exact ⟨congrArg (fun q => some (Value.int q)) hv98.symm, N0, rfl⟩
    · have pre11 : ∀ t, Steps p.tables e below (T7.setTop (mkF m 5 #[.val (.ref o0), .val (.int (3 : Int32))] [(.int (20 : Int32)), (.int (3 : Int32))])) t → Steps p.tables e below (s₁.setTop (entryFrame m #[(.ref o0)] 2)) t := fun t kt => pre9 t (by
          show Steps p.tables e below (T7.setTop (mkF m 14 #[.val (.ref o0), .val (.int (2 : Int32))] [(.int (F1 2))])) _
          refine XS.ifNo X7.here hx rfl (hb hby d8_14) rfl ((if0 _ _).trans (feq hc14_10).1) ?_
          show Steps p.tables e below (T7.setTop (mkF m 17 #[.val (.ref o0), .val (.int (2 : Int32))] [])) _
          refine XS.iinc X7.here hx rfl (hb hby d8_17) rfl (l' := #[.val (.ref o0), .val (.int (3 : Int32))]) rfl ?_
          show Steps p.tables e below (T7.setTop (mkF m 20 #[.val (.ref o0), .val (.int (3 : Int32))] [])) _
          refine XS.goto X7.here hx rfl (pc0 := 20) (pc' := 2) rfl (hb hby d8_20) (by decide) (by decide) ?_
          show Steps p.tables e below (T7.setTop (mkF m 2 #[.val (.ref o0), .val (.int (3 : Int32))] [])) _
          refine XS.iloadN X7.here hx rfl (hb hby d8_2) rfl ?_
          show Steps p.tables e below (T7.setTop (mkF m 3 #[.val (.ref o0), .val (.int (3 : Int32))] [(.int (3 : Int32))])) _
          refine XS.bipush X7.here hx rfl (hb hby d8_3) ?_
          exact kt)
      obtain ⟨T12, X12, e12, st12⟩ := getF X7 hx hZ hown (host := "") (Or.inl (hw _ (List.mem_of_getElem? (i := 15) rfl))) Via.refl e7 F_open_o0 (g := (mkF m 9 #[.val (.ref o0), .val (.int (3 : Int32))] [(.ref o0)])) rfl rfl (hb hby d8_9)
      obtain ⟨cl13, Ar13, Sz13, Nn13, Hs13⟩ := id V_r1
      have hin13 : ¬ ((3 : Int32) < 0 ∨ cl13.slots.size ≤ ((3 : Int32)).toNatClampNeg) := inb_of Sz13 ⟨by decide, by decide⟩
      have hat13 : cl13.slots[((3 : Int32)).toNatClampNeg]? = some (.int (F1 3)) := (Hs13 _ (own_lt hin13)).1
      have pre14 : ∀ t, Steps p.tables e below (T12.setTop (mkF m 14 #[.val (.ref o0), .val (.int (3 : Int32))] [(.int (F1 3))])) t → Steps p.tables e below (s₁.setTop (entryFrame m #[(.ref o0)] 2)) t := fun t kt => pre11 t (by
          show Steps p.tables e below (T7.setTop (mkF m 5 #[.val (.ref o0), .val (.int (3 : Int32))] [(.int (20 : Int32)), (.int (3 : Int32))])) _
          refine XS.icmpNo X7.here hx rfl (hb hby d8_5) rfl (tlt (by decide : ((3 : Int32) < (20 : Int32)))).2.1 ?_
          show Steps p.tables e below (T7.setTop (mkF m 8 #[.val (.ref o0), .val (.int (3 : Int32))] [])) _
          refine XS.aloadN X7.here hx rfl (hb hby d8_8) rfl rfl ?_
          show Steps p.tables e below (T7.setTop (mkF m 9 #[.val (.ref o0), .val (.int (3 : Int32))] [(.ref o0)])) _
          refine st12 _ ?_
          show Steps p.tables e below (T12.setTop (mkF m 12 #[.val (.ref o0), .val (.int (3 : Int32))] [(.ref r1)])) _
          refine XS.iloadN X12.here hx rfl (hb hby d8_12) rfl ?_
          show Steps p.tables e below (T12.setTop (mkF m 13 #[.val (.ref o0), .val (.int (3 : Int32))] [(.int (3 : Int32)), (.ref r1)])) _
          refine X12.baloadBooleans hx (j := (3 : Int32)) (v := (.int (F1 3))) (by rw [e12]; exact Ar13.1) (State.isArrayOf_alike hZ.alike Ar13.2.1) Ar13.2.2 hin13 hat13 (g := (mkF m 13 #[.val (.ref o0), .val (.int (3 : Int32))] [(.int (3 : Int32)), (.ref r1)])) rfl rfl (hb hby d8_13) _ ?_
          exact kt)
      by_cases hc14_15 : (F1 3) = (0 : Int32)
      · obtain ⟨fs, hr, hrun, hended, hW, hsame⟩ := X12.leave (v := some (.int (3 : Int32))) (fun h => by rw [Bd.returns] at h; cases h)
        have hv99 : (f8 F1) = (3 : Int32) := by rw [f8, if_neg hc14_5, if_neg hc14_10, if_pos hc14_15]
        refine ⟨_, _, pre14 _ ?_, hrun, hended, _, _, rfl, ?_, ⟨_, rfl⟩, hW, hsame.mono (by decide) (by decide)⟩
        · show Steps p.tables e below (T12.setTop (mkF m 14 #[.val (.ref o0), .val (.int (3 : Int32))] [(.int (F1 3))])) _
          refine XS.ifYes X12.here hx rfl (pc0 := 14) (pc' := 23) rfl (hb hby d8_14) rfl ((if0 _ _).trans (teq hc14_15).1) (by decide) (by decide) ?_
          show Steps p.tables e below (T12.setTop (mkF m 23 #[.val (.ref o0), .val (.int (3 : Int32))] [])) _
          refine XS.iloadN X12.here hx rfl (hb hby d8_23) rfl ?_
          show Steps p.tables e below (T12.setTop (mkF m 24 #[.val (.ref o0), .val (.int (3 : Int32))] [(.int (3 : Int32))])) _
          exact retI X12 hx Bd.returns (hb hby d8_24) hr
        · show Q8 Z o0 r1 F1 h0 n0 _ T12.heap _
          rw [e12]
          exact ⟨congrArg (fun q => some (Value.int q)) hv99.symm, N0, rfl⟩
      · have pre16 : ∀ t, Steps p.tables e below (T12.setTop (mkF m 5 #[.val (.ref o0), .val (.int (4 : Int32))] [(.int (20 : Int32)), (.int (4 : Int32))])) t → Steps p.tables e below (s₁.setTop (entryFrame m #[(.ref o0)] 2)) t := fun t kt => pre14 t (by
            show Steps p.tables e below (T12.setTop (mkF m 14 #[.val (.ref o0), .val (.int (3 : Int32))] [(.int (F1 3))])) _
            refine XS.ifNo X12.here hx rfl (hb hby d8_14) rfl ((if0 _ _).trans (feq hc14_15).1) ?_
            show Steps p.tables e below (T12.setTop (mkF m 17 #[.val (.ref o0), .val (.int (3 : Int32))] [])) _
            refine XS.iinc X12.here hx rfl (hb hby d8_17) rfl (l' := #[.val (.ref o0), .val (.int (4 : Int32))]) rfl ?_
            show Steps p.tables e below (T12.setTop (mkF m 20 #[.val (.ref o0), .val (.int (4 : Int32))] [])) _
            refine XS.goto X12.here hx rfl (pc0 := 20) (pc' := 2) rfl (hb hby d8_20) (by decide) (by decide) ?_
            show Steps p.tables e below (T12.setTop (mkF m 2 #[.val (.ref o0), .val (.int (4 : Int32))] [])) _
            refine XS.iloadN X12.here hx rfl (hb hby d8_2) rfl ?_
            show Steps p.tables e below (T12.setTop (mkF m 3 #[.val (.ref o0), .val (.int (4 : Int32))] [(.int (4 : Int32))])) _
            refine XS.bipush X12.here hx rfl (hb hby d8_3) ?_
            exact kt)
        obtain ⟨T17, X17, e17, st17⟩ := getF X12 hx hZ hown (host := "") (Or.inl (hw _ (List.mem_of_getElem? (i := 15) rfl))) Via.refl e12 F_open_o0 (g := (mkF m 9 #[.val (.ref o0), .val (.int (4 : Int32))] [(.ref o0)])) rfl rfl (hb hby d8_9)
        obtain ⟨cl18, Ar18, Sz18, Nn18, Hs18⟩ := id V_r1
        have hin18 : ¬ ((4 : Int32) < 0 ∨ cl18.slots.size ≤ ((4 : Int32)).toNatClampNeg) := inb_of Sz18 ⟨by decide, by decide⟩
        have hat18 : cl18.slots[((4 : Int32)).toNatClampNeg]? = some (.int (F1 4)) := (Hs18 _ (own_lt hin18)).1
        have pre19 : ∀ t, Steps p.tables e below (T17.setTop (mkF m 14 #[.val (.ref o0), .val (.int (4 : Int32))] [(.int (F1 4))])) t → Steps p.tables e below (s₁.setTop (entryFrame m #[(.ref o0)] 2)) t := fun t kt => pre16 t (by
            show Steps p.tables e below (T12.setTop (mkF m 5 #[.val (.ref o0), .val (.int (4 : Int32))] [(.int (20 : Int32)), (.int (4 : Int32))])) _
            refine XS.icmpNo X12.here hx rfl (hb hby d8_5) rfl (tlt (by decide : ((4 : Int32) < (20 : Int32)))).2.1 ?_
            show Steps p.tables e below (T12.setTop (mkF m 8 #[.val (.ref o0), .val (.int (4 : Int32))] [])) _
            refine XS.aloadN X12.here hx rfl (hb hby d8_8) rfl rfl ?_
            show Steps p.tables e below (T12.setTop (mkF m 9 #[.val (.ref o0), .val (.int (4 : Int32))] [(.ref o0)])) _
            refine st17 _ ?_
            show Steps p.tables e below (T17.setTop (mkF m 12 #[.val (.ref o0), .val (.int (4 : Int32))] [(.ref r1)])) _
            refine XS.iloadN X17.here hx rfl (hb hby d8_12) rfl ?_
            show Steps p.tables e below (T17.setTop (mkF m 13 #[.val (.ref o0), .val (.int (4 : Int32))] [(.int (4 : Int32)), (.ref r1)])) _
            refine X17.baloadBooleans hx (j := (4 : Int32)) (v := (.int (F1 4))) (by rw [e17]; exact Ar18.1) (State.isArrayOf_alike hZ.alike Ar18.2.1) Ar18.2.2 hin18 hat18 (g := (mkF m 13 #[.val (.ref o0), .val (.int (4 : Int32))] [(.int (4 : Int32)), (.ref r1)])) rfl rfl (hb hby d8_13) _ ?_
            exact kt)
        by_cases hc14_20 : (F1 4) = (0 : Int32)
        · obtain ⟨fs, hr, hrun, hended, hW, hsame⟩ := X17.leave (v := some (.int (4 : Int32))) (fun h => by rw [Bd.returns] at h; cases h)
          have hv100 : (f8 F1) = (4 : Int32) := by rw [f8, if_neg hc14_5, if_neg hc14_10, if_neg hc14_15, if_pos hc14_20]
          refine ⟨_, _, pre19 _ ?_, hrun, hended, _, _, rfl, ?_, ⟨_, rfl⟩, hW, hsame.mono (by decide) (by decide)⟩
          · show Steps p.tables e below (T17.setTop (mkF m 14 #[.val (.ref o0), .val (.int (4 : Int32))] [(.int (F1 4))])) _
            refine XS.ifYes X17.here hx rfl (pc0 := 14) (pc' := 23) rfl (hb hby d8_14) rfl ((if0 _ _).trans (teq hc14_20).1) (by decide) (by decide) ?_
            show Steps p.tables e below (T17.setTop (mkF m 23 #[.val (.ref o0), .val (.int (4 : Int32))] [])) _
            refine XS.iloadN X17.here hx rfl (hb hby d8_23) rfl ?_
            show Steps p.tables e below (T17.setTop (mkF m 24 #[.val (.ref o0), .val (.int (4 : Int32))] [(.int (4 : Int32))])) _
            exact retI X17 hx Bd.returns (hb hby d8_24) hr
          · show Q8 Z o0 r1 F1 h0 n0 _ T17.heap _
            rw [e17]
            exact ⟨congrArg (fun q => some (Value.int q)) hv100.symm, N0, rfl⟩
        · have pre21 : ∀ t, Steps p.tables e below (T17.setTop (mkF m 5 #[.val (.ref o0), .val (.int (5 : Int32))] [(.int (20 : Int32)), (.int (5 : Int32))])) t → Steps p.tables e below (s₁.setTop (entryFrame m #[(.ref o0)] 2)) t := fun t kt => pre19 t (by
              show Steps p.tables e below (T17.setTop (mkF m 14 #[.val (.ref o0), .val (.int (4 : Int32))] [(.int (F1 4))])) _
              refine XS.ifNo X17.here hx rfl (hb hby d8_14) rfl ((if0 _ _).trans (feq hc14_20).1) ?_
              show Steps p.tables e below (T17.setTop (mkF m 17 #[.val (.ref o0), .val (.int (4 : Int32))] [])) _
              refine XS.iinc X17.here hx rfl (hb hby d8_17) rfl (l' := #[.val (.ref o0), .val (.int (5 : Int32))]) rfl ?_
              show Steps p.tables e below (T17.setTop (mkF m 20 #[.val (.ref o0), .val (.int (5 : Int32))] [])) _
              refine XS.goto X17.here hx rfl (pc0 := 20) (pc' := 2) rfl (hb hby d8_20) (by decide) (by decide) ?_
              show Steps p.tables e below (T17.setTop (mkF m 2 #[.val (.ref o0), .val (.int (5 : Int32))] [])) _
              refine XS.iloadN X17.here hx rfl (hb hby d8_2) rfl ?_
              show Steps p.tables e below (T17.setTop (mkF m 3 #[.val (.ref o0), .val (.int (5 : Int32))] [(.int (5 : Int32))])) _
              refine XS.bipush X17.here hx rfl (hb hby d8_3) ?_
              exact kt)
          obtain ⟨T22, X22, e22, st22⟩ := getF X17 hx hZ hown (host := "") (Or.inl (hw _ (List.mem_of_getElem? (i := 15) rfl))) Via.refl e17 F_open_o0 (g := (mkF m 9 #[.val (.ref o0), .val (.int (5 : Int32))] [(.ref o0)])) rfl rfl (hb hby d8_9)
          obtain ⟨cl23, Ar23, Sz23, Nn23, Hs23⟩ := id V_r1
          have hin23 : ¬ ((5 : Int32) < 0 ∨ cl23.slots.size ≤ ((5 : Int32)).toNatClampNeg) := inb_of Sz23 ⟨by decide, by decide⟩
          have hat23 : cl23.slots[((5 : Int32)).toNatClampNeg]? = some (.int (F1 5)) := (Hs23 _ (own_lt hin23)).1
          have pre24 : ∀ t, Steps p.tables e below (T22.setTop (mkF m 14 #[.val (.ref o0), .val (.int (5 : Int32))] [(.int (F1 5))])) t → Steps p.tables e below (s₁.setTop (entryFrame m #[(.ref o0)] 2)) t := fun t kt => pre21 t (by
              show Steps p.tables e below (T17.setTop (mkF m 5 #[.val (.ref o0), .val (.int (5 : Int32))] [(.int (20 : Int32)), (.int (5 : Int32))])) _
              refine XS.icmpNo X17.here hx rfl (hb hby d8_5) rfl (tlt (by decide : ((5 : Int32) < (20 : Int32)))).2.1 ?_
              show Steps p.tables e below (T17.setTop (mkF m 8 #[.val (.ref o0), .val (.int (5 : Int32))] [])) _
              refine XS.aloadN X17.here hx rfl (hb hby d8_8) rfl rfl ?_
              show Steps p.tables e below (T17.setTop (mkF m 9 #[.val (.ref o0), .val (.int (5 : Int32))] [(.ref o0)])) _
              refine st22 _ ?_
              show Steps p.tables e below (T22.setTop (mkF m 12 #[.val (.ref o0), .val (.int (5 : Int32))] [(.ref r1)])) _
              refine XS.iloadN X22.here hx rfl (hb hby d8_12) rfl ?_
              show Steps p.tables e below (T22.setTop (mkF m 13 #[.val (.ref o0), .val (.int (5 : Int32))] [(.int (5 : Int32)), (.ref r1)])) _
              refine X22.baloadBooleans hx (j := (5 : Int32)) (v := (.int (F1 5))) (by rw [e22]; exact Ar23.1) (State.isArrayOf_alike hZ.alike Ar23.2.1) Ar23.2.2 hin23 hat23 (g := (mkF m 13 #[.val (.ref o0), .val (.int (5 : Int32))] [(.int (5 : Int32)), (.ref r1)])) rfl rfl (hb hby d8_13) _ ?_
              exact kt)
          by_cases hc14_25 : (F1 5) = (0 : Int32)
          · obtain ⟨fs, hr, hrun, hended, hW, hsame⟩ := X22.leave (v := some (.int (5 : Int32))) (fun h => by rw [Bd.returns] at h; cases h)
            have hv101 : (f8 F1) = (5 : Int32) := by rw [f8, if_neg hc14_5, if_neg hc14_10, if_neg hc14_15, if_neg hc14_20, if_pos hc14_25]
            refine ⟨_, _, pre24 _ ?_, hrun, hended, _, _, rfl, ?_, ⟨_, rfl⟩, hW, hsame.mono (by decide) (by decide)⟩
            · show Steps p.tables e below (T22.setTop (mkF m 14 #[.val (.ref o0), .val (.int (5 : Int32))] [(.int (F1 5))])) _
              refine XS.ifYes X22.here hx rfl (pc0 := 14) (pc' := 23) rfl (hb hby d8_14) rfl ((if0 _ _).trans (teq hc14_25).1) (by decide) (by decide) ?_
              show Steps p.tables e below (T22.setTop (mkF m 23 #[.val (.ref o0), .val (.int (5 : Int32))] [])) _
              refine XS.iloadN X22.here hx rfl (hb hby d8_23) rfl ?_
              show Steps p.tables e below (T22.setTop (mkF m 24 #[.val (.ref o0), .val (.int (5 : Int32))] [(.int (5 : Int32))])) _
              exact retI X22 hx Bd.returns (hb hby d8_24) hr
            · show Q8 Z o0 r1 F1 h0 n0 _ T22.heap _
              rw [e22]
              exact ⟨congrArg (fun q => some (Value.int q)) hv101.symm, N0, rfl⟩
          · have pre26 : ∀ t, Steps p.tables e below (T22.setTop (mkF m 5 #[.val (.ref o0), .val (.int (6 : Int32))] [(.int (20 : Int32)), (.int (6 : Int32))])) t → Steps p.tables e below (s₁.setTop (entryFrame m #[(.ref o0)] 2)) t := fun t kt => pre24 t (by
                show Steps p.tables e below (T22.setTop (mkF m 14 #[.val (.ref o0), .val (.int (5 : Int32))] [(.int (F1 5))])) _
                refine XS.ifNo X22.here hx rfl (hb hby d8_14) rfl ((if0 _ _).trans (feq hc14_25).1) ?_
                show Steps p.tables e below (T22.setTop (mkF m 17 #[.val (.ref o0), .val (.int (5 : Int32))] [])) _
                refine XS.iinc X22.here hx rfl (hb hby d8_17) rfl (l' := #[.val (.ref o0), .val (.int (6 : Int32))]) rfl ?_
                show Steps p.tables e below (T22.setTop (mkF m 20 #[.val (.ref o0), .val (.int (6 : Int32))] [])) _
                refine XS.goto X22.here hx rfl (pc0 := 20) (pc' := 2) rfl (hb hby d8_20) (by decide) (by decide) ?_
                show Steps p.tables e below (T22.setTop (mkF m 2 #[.val (.ref o0), .val (.int (6 : Int32))] [])) _
                refine XS.iloadN X22.here hx rfl (hb hby d8_2) rfl ?_
                show Steps p.tables e below (T22.setTop (mkF m 3 #[.val (.ref o0), .val (.int (6 : Int32))] [(.int (6 : Int32))])) _
                refine XS.bipush X22.here hx rfl (hb hby d8_3) ?_
                exact kt)
            obtain ⟨T27, X27, e27, st27⟩ := getF X22 hx hZ hown (host := "") (Or.inl (hw _ (List.mem_of_getElem? (i := 15) rfl))) Via.refl e22 F_open_o0 (g := (mkF m 9 #[.val (.ref o0), .val (.int (6 : Int32))] [(.ref o0)])) rfl rfl (hb hby d8_9)
            obtain ⟨cl28, Ar28, Sz28, Nn28, Hs28⟩ := id V_r1
            have hin28 : ¬ ((6 : Int32) < 0 ∨ cl28.slots.size ≤ ((6 : Int32)).toNatClampNeg) := inb_of Sz28 ⟨by decide, by decide⟩
            have hat28 : cl28.slots[((6 : Int32)).toNatClampNeg]? = some (.int (F1 6)) := (Hs28 _ (own_lt hin28)).1
            have pre29 : ∀ t, Steps p.tables e below (T27.setTop (mkF m 14 #[.val (.ref o0), .val (.int (6 : Int32))] [(.int (F1 6))])) t → Steps p.tables e below (s₁.setTop (entryFrame m #[(.ref o0)] 2)) t := fun t kt => pre26 t (by
                show Steps p.tables e below (T22.setTop (mkF m 5 #[.val (.ref o0), .val (.int (6 : Int32))] [(.int (20 : Int32)), (.int (6 : Int32))])) _
                refine XS.icmpNo X22.here hx rfl (hb hby d8_5) rfl (tlt (by decide : ((6 : Int32) < (20 : Int32)))).2.1 ?_
                show Steps p.tables e below (T22.setTop (mkF m 8 #[.val (.ref o0), .val (.int (6 : Int32))] [])) _
                refine XS.aloadN X22.here hx rfl (hb hby d8_8) rfl rfl ?_
                show Steps p.tables e below (T22.setTop (mkF m 9 #[.val (.ref o0), .val (.int (6 : Int32))] [(.ref o0)])) _
                refine st27 _ ?_
                show Steps p.tables e below (T27.setTop (mkF m 12 #[.val (.ref o0), .val (.int (6 : Int32))] [(.ref r1)])) _
                refine XS.iloadN X27.here hx rfl (hb hby d8_12) rfl ?_
                show Steps p.tables e below (T27.setTop (mkF m 13 #[.val (.ref o0), .val (.int (6 : Int32))] [(.int (6 : Int32)), (.ref r1)])) _
                refine X27.baloadBooleans hx (j := (6 : Int32)) (v := (.int (F1 6))) (by rw [e27]; exact Ar28.1) (State.isArrayOf_alike hZ.alike Ar28.2.1) Ar28.2.2 hin28 hat28 (g := (mkF m 13 #[.val (.ref o0), .val (.int (6 : Int32))] [(.int (6 : Int32)), (.ref r1)])) rfl rfl (hb hby d8_13) _ ?_
                exact kt)
            by_cases hc14_30 : (F1 6) = (0 : Int32)
            · obtain ⟨fs, hr, hrun, hended, hW, hsame⟩ := X27.leave (v := some (.int (6 : Int32))) (fun h => by rw [Bd.returns] at h; cases h)
              have hv102 : (f8 F1) = (6 : Int32) := by rw [f8, if_neg hc14_5, if_neg hc14_10, if_neg hc14_15, if_neg hc14_20, if_neg hc14_25, if_pos hc14_30]
              refine ⟨_, _, pre29 _ ?_, hrun, hended, _, _, rfl, ?_, ⟨_, rfl⟩, hW, hsame.mono (by decide) (by decide)⟩
              · show Steps p.tables e below (T27.setTop (mkF m 14 #[.val (.ref o0), .val (.int (6 : Int32))] [(.int (F1 6))])) _
                refine XS.ifYes X27.here hx rfl (pc0 := 14) (pc' := 23) rfl (hb hby d8_14) rfl ((if0 _ _).trans (teq hc14_30).1) (by decide) (by decide) ?_
                show Steps p.tables e below (T27.setTop (mkF m 23 #[.val (.ref o0), .val (.int (6 : Int32))] [])) _
                refine XS.iloadN X27.here hx rfl (hb hby d8_23) rfl ?_
                show Steps p.tables e below (T27.setTop (mkF m 24 #[.val (.ref o0), .val (.int (6 : Int32))] [(.int (6 : Int32))])) _
                exact retI X27 hx Bd.returns (hb hby d8_24) hr
              · show Q8 Z o0 r1 F1 h0 n0 _ T27.heap _
                rw [e27]
                exact ⟨congrArg (fun q => some (Value.int q)) hv102.symm, N0, rfl⟩
            · have pre31 : ∀ t, Steps p.tables e below (T27.setTop (mkF m 5 #[.val (.ref o0), .val (.int (7 : Int32))] [(.int (20 : Int32)), (.int (7 : Int32))])) t → Steps p.tables e below (s₁.setTop (entryFrame m #[(.ref o0)] 2)) t := fun t kt => pre29 t (by
                  show Steps p.tables e below (T27.setTop (mkF m 14 #[.val (.ref o0), .val (.int (6 : Int32))] [(.int (F1 6))])) _
                  refine XS.ifNo X27.here hx rfl (hb hby d8_14) rfl ((if0 _ _).trans (feq hc14_30).1) ?_
                  show Steps p.tables e below (T27.setTop (mkF m 17 #[.val (.ref o0), .val (.int (6 : Int32))] [])) _
                  refine XS.iinc X27.here hx rfl (hb hby d8_17) rfl (l' := #[.val (.ref o0), .val (.int (7 : Int32))]) rfl ?_
                  show Steps p.tables e below (T27.setTop (mkF m 20 #[.val (.ref o0), .val (.int (7 : Int32))] [])) _
                  refine XS.goto X27.here hx rfl (pc0 := 20) (pc' := 2) rfl (hb hby d8_20) (by decide) (by decide) ?_
                  show Steps p.tables e below (T27.setTop (mkF m 2 #[.val (.ref o0), .val (.int (7 : Int32))] [])) _
                  refine XS.iloadN X27.here hx rfl (hb hby d8_2) rfl ?_
                  show Steps p.tables e below (T27.setTop (mkF m 3 #[.val (.ref o0), .val (.int (7 : Int32))] [(.int (7 : Int32))])) _
                  refine XS.bipush X27.here hx rfl (hb hby d8_3) ?_
                  exact kt)
              obtain ⟨T32, X32, e32, st32⟩ := getF X27 hx hZ hown (host := "") (Or.inl (hw _ (List.mem_of_getElem? (i := 15) rfl))) Via.refl e27 F_open_o0 (g := (mkF m 9 #[.val (.ref o0), .val (.int (7 : Int32))] [(.ref o0)])) rfl rfl (hb hby d8_9)
              obtain ⟨cl33, Ar33, Sz33, Nn33, Hs33⟩ := id V_r1
              have hin33 : ¬ ((7 : Int32) < 0 ∨ cl33.slots.size ≤ ((7 : Int32)).toNatClampNeg) := inb_of Sz33 ⟨by decide, by decide⟩
              have hat33 : cl33.slots[((7 : Int32)).toNatClampNeg]? = some (.int (F1 7)) := (Hs33 _ (own_lt hin33)).1
              have pre34 : ∀ t, Steps p.tables e below (T32.setTop (mkF m 14 #[.val (.ref o0), .val (.int (7 : Int32))] [(.int (F1 7))])) t → Steps p.tables e below (s₁.setTop (entryFrame m #[(.ref o0)] 2)) t := fun t kt => pre31 t (by
                  show Steps p.tables e below (T27.setTop (mkF m 5 #[.val (.ref o0), .val (.int (7 : Int32))] [(.int (20 : Int32)), (.int (7 : Int32))])) _
                  refine XS.icmpNo X27.here hx rfl (hb hby d8_5) rfl (tlt (by decide : ((7 : Int32) < (20 : Int32)))).2.1 ?_
                  show Steps p.tables e below (T27.setTop (mkF m 8 #[.val (.ref o0), .val (.int (7 : Int32))] [])) _
                  refine XS.aloadN X27.here hx rfl (hb hby d8_8) rfl rfl ?_
                  show Steps p.tables e below (T27.setTop (mkF m 9 #[.val (.ref o0), .val (.int (7 : Int32))] [(.ref o0)])) _
                  refine st32 _ ?_
                  show Steps p.tables e below (T32.setTop (mkF m 12 #[.val (.ref o0), .val (.int (7 : Int32))] [(.ref r1)])) _
                  refine XS.iloadN X32.here hx rfl (hb hby d8_12) rfl ?_
                  show Steps p.tables e below (T32.setTop (mkF m 13 #[.val (.ref o0), .val (.int (7 : Int32))] [(.int (7 : Int32)), (.ref r1)])) _
                  refine X32.baloadBooleans hx (j := (7 : Int32)) (v := (.int (F1 7))) (by rw [e32]; exact Ar33.1) (State.isArrayOf_alike hZ.alike Ar33.2.1) Ar33.2.2 hin33 hat33 (g := (mkF m 13 #[.val (.ref o0), .val (.int (7 : Int32))] [(.int (7 : Int32)), (.ref r1)])) rfl rfl (hb hby d8_13) _ ?_
                  exact kt)
              by_cases hc14_35 : (F1 7) = (0 : Int32)
              · obtain ⟨fs, hr, hrun, hended, hW, hsame⟩ := X32.leave (v := some (.int (7 : Int32))) (fun h => by rw [Bd.returns] at h; cases h)
                have hv103 : (f8 F1) = (7 : Int32) := by rw [f8, if_neg hc14_5, if_neg hc14_10, if_neg hc14_15, if_neg hc14_20, if_neg hc14_25, if_neg hc14_30, if_pos hc14_35]
                refine ⟨_, _, pre34 _ ?_, hrun, hended, _, _, rfl, ?_, ⟨_, rfl⟩, hW, hsame.mono (by decide) (by decide)⟩
                · show Steps p.tables e below (T32.setTop (mkF m 14 #[.val (.ref o0), .val (.int (7 : Int32))] [(.int (F1 7))])) _
                  refine XS.ifYes X32.here hx rfl (pc0 := 14) (pc' := 23) rfl (hb hby d8_14) rfl ((if0 _ _).trans (teq hc14_35).1) (by decide) (by decide) ?_
                  show Steps p.tables e below (T32.setTop (mkF m 23 #[.val (.ref o0), .val (.int (7 : Int32))] [])) _
                  refine XS.iloadN X32.here hx rfl (hb hby d8_23) rfl ?_
                  show Steps p.tables e below (T32.setTop (mkF m 24 #[.val (.ref o0), .val (.int (7 : Int32))] [(.int (7 : Int32))])) _
                  exact retI X32 hx Bd.returns (hb hby d8_24) hr
                · show Q8 Z o0 r1 F1 h0 n0 _ T32.heap _
                  rw [e32]
                  exact ⟨congrArg (fun q => some (Value.int q)) hv103.symm, N0, rfl⟩
              · have pre36 : ∀ t, Steps p.tables e below (T32.setTop (mkF m 5 #[.val (.ref o0), .val (.int (8 : Int32))] [(.int (20 : Int32)), (.int (8 : Int32))])) t → Steps p.tables e below (s₁.setTop (entryFrame m #[(.ref o0)] 2)) t := fun t kt => pre34 t (by
                    show Steps p.tables e below (T32.setTop (mkF m 14 #[.val (.ref o0), .val (.int (7 : Int32))] [(.int (F1 7))])) _
                    refine XS.ifNo X32.here hx rfl (hb hby d8_14) rfl ((if0 _ _).trans (feq hc14_35).1) ?_
                    show Steps p.tables e below (T32.setTop (mkF m 17 #[.val (.ref o0), .val (.int (7 : Int32))] [])) _
                    refine XS.iinc X32.here hx rfl (hb hby d8_17) rfl (l' := #[.val (.ref o0), .val (.int (8 : Int32))]) rfl ?_
                    show Steps p.tables e below (T32.setTop (mkF m 20 #[.val (.ref o0), .val (.int (8 : Int32))] [])) _
                    refine XS.goto X32.here hx rfl (pc0 := 20) (pc' := 2) rfl (hb hby d8_20) (by decide) (by decide) ?_
                    show Steps p.tables e below (T32.setTop (mkF m 2 #[.val (.ref o0), .val (.int (8 : Int32))] [])) _
                    refine XS.iloadN X32.here hx rfl (hb hby d8_2) rfl ?_
                    show Steps p.tables e below (T32.setTop (mkF m 3 #[.val (.ref o0), .val (.int (8 : Int32))] [(.int (8 : Int32))])) _
                    refine XS.bipush X32.here hx rfl (hb hby d8_3) ?_
                    exact kt)
                obtain ⟨T37, X37, e37, st37⟩ := getF X32 hx hZ hown (host := "") (Or.inl (hw _ (List.mem_of_getElem? (i := 15) rfl))) Via.refl e32 F_open_o0 (g := (mkF m 9 #[.val (.ref o0), .val (.int (8 : Int32))] [(.ref o0)])) rfl rfl (hb hby d8_9)
                obtain ⟨cl38, Ar38, Sz38, Nn38, Hs38⟩ := id V_r1
                have hin38 : ¬ ((8 : Int32) < 0 ∨ cl38.slots.size ≤ ((8 : Int32)).toNatClampNeg) := inb_of Sz38 ⟨by decide, by decide⟩
                have hat38 : cl38.slots[((8 : Int32)).toNatClampNeg]? = some (.int (F1 8)) := (Hs38 _ (own_lt hin38)).1
                have pre39 : ∀ t, Steps p.tables e below (T37.setTop (mkF m 14 #[.val (.ref o0), .val (.int (8 : Int32))] [(.int (F1 8))])) t → Steps p.tables e below (s₁.setTop (entryFrame m #[(.ref o0)] 2)) t := fun t kt => pre36 t (by
                    show Steps p.tables e below (T32.setTop (mkF m 5 #[.val (.ref o0), .val (.int (8 : Int32))] [(.int (20 : Int32)), (.int (8 : Int32))])) _
                    refine XS.icmpNo X32.here hx rfl (hb hby d8_5) rfl (tlt (by decide : ((8 : Int32) < (20 : Int32)))).2.1 ?_
                    show Steps p.tables e below (T32.setTop (mkF m 8 #[.val (.ref o0), .val (.int (8 : Int32))] [])) _
                    refine XS.aloadN X32.here hx rfl (hb hby d8_8) rfl rfl ?_
                    show Steps p.tables e below (T32.setTop (mkF m 9 #[.val (.ref o0), .val (.int (8 : Int32))] [(.ref o0)])) _
                    refine st37 _ ?_
                    show Steps p.tables e below (T37.setTop (mkF m 12 #[.val (.ref o0), .val (.int (8 : Int32))] [(.ref r1)])) _
                    refine XS.iloadN X37.here hx rfl (hb hby d8_12) rfl ?_
                    show Steps p.tables e below (T37.setTop (mkF m 13 #[.val (.ref o0), .val (.int (8 : Int32))] [(.int (8 : Int32)), (.ref r1)])) _
                    refine X37.baloadBooleans hx (j := (8 : Int32)) (v := (.int (F1 8))) (by rw [e37]; exact Ar38.1) (State.isArrayOf_alike hZ.alike Ar38.2.1) Ar38.2.2 hin38 hat38 (g := (mkF m 13 #[.val (.ref o0), .val (.int (8 : Int32))] [(.int (8 : Int32)), (.ref r1)])) rfl rfl (hb hby d8_13) _ ?_
                    exact kt)
                by_cases hc14_40 : (F1 8) = (0 : Int32)
                · obtain ⟨fs, hr, hrun, hended, hW, hsame⟩ := X37.leave (v := some (.int (8 : Int32))) (fun h => by rw [Bd.returns] at h; cases h)
                  have hv104 : (f8 F1) = (8 : Int32) := by rw [f8, if_neg hc14_5, if_neg hc14_10, if_neg hc14_15, if_neg hc14_20, if_neg hc14_25, if_neg hc14_30, if_neg hc14_35, if_pos hc14_40]
                  refine ⟨_, _, pre39 _ ?_, hrun, hended, _, _, rfl, ?_, ⟨_, rfl⟩, hW, hsame.mono (by decide) (by decide)⟩
                  · show Steps p.tables e below (T37.setTop (mkF m 14 #[.val (.ref o0), .val (.int (8 : Int32))] [(.int (F1 8))])) _
                    refine XS.ifYes X37.here hx rfl (pc0 := 14) (pc' := 23) rfl (hb hby d8_14) rfl ((if0 _ _).trans (teq hc14_40).1) (by decide) (by decide) ?_
                    show Steps p.tables e below (T37.setTop (mkF m 23 #[.val (.ref o0), .val (.int (8 : Int32))] [])) _
                    refine XS.iloadN X37.here hx rfl (hb hby d8_23) rfl ?_
                    show Steps p.tables e below (T37.setTop (mkF m 24 #[.val (.ref o0), .val (.int (8 : Int32))] [(.int (8 : Int32))])) _
                    exact retI X37 hx Bd.returns (hb hby d8_24) hr
                  · show Q8 Z o0 r1 F1 h0 n0 _ T37.heap _
                    rw [e37]
                    exact ⟨congrArg (fun q => some (Value.int q)) hv104.symm, N0, rfl⟩
                · have pre41 : ∀ t, Steps p.tables e below (T37.setTop (mkF m 5 #[.val (.ref o0), .val (.int (9 : Int32))] [(.int (20 : Int32)), (.int (9 : Int32))])) t → Steps p.tables e below (s₁.setTop (entryFrame m #[(.ref o0)] 2)) t := fun t kt => pre39 t (by
                      show Steps p.tables e below (T37.setTop (mkF m 14 #[.val (.ref o0), .val (.int (8 : Int32))] [(.int (F1 8))])) _
                      refine XS.ifNo X37.here hx rfl (hb hby d8_14) rfl ((if0 _ _).trans (feq hc14_40).1) ?_
                      show Steps p.tables e below (T37.setTop (mkF m 17 #[.val (.ref o0), .val (.int (8 : Int32))] [])) _
                      refine XS.iinc X37.here hx rfl (hb hby d8_17) rfl (l' := #[.val (.ref o0), .val (.int (9 : Int32))]) rfl ?_
                      show Steps p.tables e below (T37.setTop (mkF m 20 #[.val (.ref o0), .val (.int (9 : Int32))] [])) _
                      refine XS.goto X37.here hx rfl (pc0 := 20) (pc' := 2) rfl (hb hby d8_20) (by decide) (by decide) ?_
                      show Steps p.tables e below (T37.setTop (mkF m 2 #[.val (.ref o0), .val (.int (9 : Int32))] [])) _
                      refine XS.iloadN X37.here hx rfl (hb hby d8_2) rfl ?_
                      show Steps p.tables e below (T37.setTop (mkF m 3 #[.val (.ref o0), .val (.int (9 : Int32))] [(.int (9 : Int32))])) _
                      refine XS.bipush X37.here hx rfl (hb hby d8_3) ?_
                      exact kt)
                  obtain ⟨T42, X42, e42, st42⟩ := getF X37 hx hZ hown (host := "") (Or.inl (hw _ (List.mem_of_getElem? (i := 15) rfl))) Via.refl e37 F_open_o0 (g := (mkF m 9 #[.val (.ref o0), .val (.int (9 : Int32))] [(.ref o0)])) rfl rfl (hb hby d8_9)
                  obtain ⟨cl43, Ar43, Sz43, Nn43, Hs43⟩ := id V_r1
                  have hin43 : ¬ ((9 : Int32) < 0 ∨ cl43.slots.size ≤ ((9 : Int32)).toNatClampNeg) := inb_of Sz43 ⟨by decide, by decide⟩
                  have hat43 : cl43.slots[((9 : Int32)).toNatClampNeg]? = some (.int (F1 9)) := (Hs43 _ (own_lt hin43)).1
                  have pre44 : ∀ t, Steps p.tables e below (T42.setTop (mkF m 14 #[.val (.ref o0), .val (.int (9 : Int32))] [(.int (F1 9))])) t → Steps p.tables e below (s₁.setTop (entryFrame m #[(.ref o0)] 2)) t := fun t kt => pre41 t (by
                      show Steps p.tables e below (T37.setTop (mkF m 5 #[.val (.ref o0), .val (.int (9 : Int32))] [(.int (20 : Int32)), (.int (9 : Int32))])) _
                      refine XS.icmpNo X37.here hx rfl (hb hby d8_5) rfl (tlt (by decide : ((9 : Int32) < (20 : Int32)))).2.1 ?_
                      show Steps p.tables e below (T37.setTop (mkF m 8 #[.val (.ref o0), .val (.int (9 : Int32))] [])) _
                      refine XS.aloadN X37.here hx rfl (hb hby d8_8) rfl rfl ?_
                      show Steps p.tables e below (T37.setTop (mkF m 9 #[.val (.ref o0), .val (.int (9 : Int32))] [(.ref o0)])) _
                      refine st42 _ ?_
                      show Steps p.tables e below (T42.setTop (mkF m 12 #[.val (.ref o0), .val (.int (9 : Int32))] [(.ref r1)])) _
                      refine XS.iloadN X42.here hx rfl (hb hby d8_12) rfl ?_
                      show Steps p.tables e below (T42.setTop (mkF m 13 #[.val (.ref o0), .val (.int (9 : Int32))] [(.int (9 : Int32)), (.ref r1)])) _
                      refine X42.baloadBooleans hx (j := (9 : Int32)) (v := (.int (F1 9))) (by rw [e42]; exact Ar43.1) (State.isArrayOf_alike hZ.alike Ar43.2.1) Ar43.2.2 hin43 hat43 (g := (mkF m 13 #[.val (.ref o0), .val (.int (9 : Int32))] [(.int (9 : Int32)), (.ref r1)])) rfl rfl (hb hby d8_13) _ ?_
                      exact kt)
                  by_cases hc14_45 : (F1 9) = (0 : Int32)
                  · obtain ⟨fs, hr, hrun, hended, hW, hsame⟩ := X42.leave (v := some (.int (9 : Int32))) (fun h => by rw [Bd.returns] at h; cases h)
                    have hv105 : (f8 F1) = (9 : Int32) := by rw [f8, if_neg hc14_5, if_neg hc14_10, if_neg hc14_15, if_neg hc14_20, if_neg hc14_25, if_neg hc14_30, if_neg hc14_35, if_neg hc14_40, if_pos hc14_45]
                    refine ⟨_, _, pre44 _ ?_, hrun, hended, _, _, rfl, ?_, ⟨_, rfl⟩, hW, hsame.mono (by decide) (by decide)⟩
                    · show Steps p.tables e below (T42.setTop (mkF m 14 #[.val (.ref o0), .val (.int (9 : Int32))] [(.int (F1 9))])) _
                      refine XS.ifYes X42.here hx rfl (pc0 := 14) (pc' := 23) rfl (hb hby d8_14) rfl ((if0 _ _).trans (teq hc14_45).1) (by decide) (by decide) ?_
                      show Steps p.tables e below (T42.setTop (mkF m 23 #[.val (.ref o0), .val (.int (9 : Int32))] [])) _
                      refine XS.iloadN X42.here hx rfl (hb hby d8_23) rfl ?_
                      show Steps p.tables e below (T42.setTop (mkF m 24 #[.val (.ref o0), .val (.int (9 : Int32))] [(.int (9 : Int32))])) _
                      exact retI X42 hx Bd.returns (hb hby d8_24) hr
                    · show Q8 Z o0 r1 F1 h0 n0 _ T42.heap _
                      rw [e42]
                      exact ⟨congrArg (fun q => some (Value.int q)) hv105.symm, N0, rfl⟩
                  · have pre46 : ∀ t, Steps p.tables e below (T42.setTop (mkF m 5 #[.val (.ref o0), .val (.int (10 : Int32))] [(.int (20 : Int32)), (.int (10 : Int32))])) t → Steps p.tables e below (s₁.setTop (entryFrame m #[(.ref o0)] 2)) t := fun t kt => pre44 t (by
                        show Steps p.tables e below (T42.setTop (mkF m 14 #[.val (.ref o0), .val (.int (9 : Int32))] [(.int (F1 9))])) _
                        refine XS.ifNo X42.here hx rfl (hb hby d8_14) rfl ((if0 _ _).trans (feq hc14_45).1) ?_
                        show Steps p.tables e below (T42.setTop (mkF m 17 #[.val (.ref o0), .val (.int (9 : Int32))] [])) _
                        refine XS.iinc X42.here hx rfl (hb hby d8_17) rfl (l' := #[.val (.ref o0), .val (.int (10 : Int32))]) rfl ?_
                        show Steps p.tables e below (T42.setTop (mkF m 20 #[.val (.ref o0), .val (.int (10 : Int32))] [])) _
                        refine XS.goto X42.here hx rfl (pc0 := 20) (pc' := 2) rfl (hb hby d8_20) (by decide) (by decide) ?_
                        show Steps p.tables e below (T42.setTop (mkF m 2 #[.val (.ref o0), .val (.int (10 : Int32))] [])) _
                        refine XS.iloadN X42.here hx rfl (hb hby d8_2) rfl ?_
                        show Steps p.tables e below (T42.setTop (mkF m 3 #[.val (.ref o0), .val (.int (10 : Int32))] [(.int (10 : Int32))])) _
                        refine XS.bipush X42.here hx rfl (hb hby d8_3) ?_
                        exact kt)
                    obtain ⟨T47, X47, e47, st47⟩ := getF X42 hx hZ hown (host := "") (Or.inl (hw _ (List.mem_of_getElem? (i := 15) rfl))) Via.refl e42 F_open_o0 (g := (mkF m 9 #[.val (.ref o0), .val (.int (10 : Int32))] [(.ref o0)])) rfl rfl (hb hby d8_9)
                    obtain ⟨cl48, Ar48, Sz48, Nn48, Hs48⟩ := id V_r1
                    have hin48 : ¬ ((10 : Int32) < 0 ∨ cl48.slots.size ≤ ((10 : Int32)).toNatClampNeg) := inb_of Sz48 ⟨by decide, by decide⟩
                    have hat48 : cl48.slots[((10 : Int32)).toNatClampNeg]? = some (.int (F1 10)) := (Hs48 _ (own_lt hin48)).1
                    have pre49 : ∀ t, Steps p.tables e below (T47.setTop (mkF m 14 #[.val (.ref o0), .val (.int (10 : Int32))] [(.int (F1 10))])) t → Steps p.tables e below (s₁.setTop (entryFrame m #[(.ref o0)] 2)) t := fun t kt => pre46 t (by
                        show Steps p.tables e below (T42.setTop (mkF m 5 #[.val (.ref o0), .val (.int (10 : Int32))] [(.int (20 : Int32)), (.int (10 : Int32))])) _
                        refine XS.icmpNo X42.here hx rfl (hb hby d8_5) rfl (tlt (by decide : ((10 : Int32) < (20 : Int32)))).2.1 ?_
                        show Steps p.tables e below (T42.setTop (mkF m 8 #[.val (.ref o0), .val (.int (10 : Int32))] [])) _
                        refine XS.aloadN X42.here hx rfl (hb hby d8_8) rfl rfl ?_
                        show Steps p.tables e below (T42.setTop (mkF m 9 #[.val (.ref o0), .val (.int (10 : Int32))] [(.ref o0)])) _
                        refine st47 _ ?_
                        show Steps p.tables e below (T47.setTop (mkF m 12 #[.val (.ref o0), .val (.int (10 : Int32))] [(.ref r1)])) _
                        refine XS.iloadN X47.here hx rfl (hb hby d8_12) rfl ?_
                        show Steps p.tables e below (T47.setTop (mkF m 13 #[.val (.ref o0), .val (.int (10 : Int32))] [(.int (10 : Int32)), (.ref r1)])) _
                        refine X47.baloadBooleans hx (j := (10 : Int32)) (v := (.int (F1 10))) (by rw [e47]; exact Ar48.1) (State.isArrayOf_alike hZ.alike Ar48.2.1) Ar48.2.2 hin48 hat48 (g := (mkF m 13 #[.val (.ref o0), .val (.int (10 : Int32))] [(.int (10 : Int32)), (.ref r1)])) rfl rfl (hb hby d8_13) _ ?_
                        exact kt)
                    by_cases hc14_50 : (F1 10) = (0 : Int32)
                    · obtain ⟨fs, hr, hrun, hended, hW, hsame⟩ := X47.leave (v := some (.int (10 : Int32))) (fun h => by rw [Bd.returns] at h; cases h)
                      have hv106 : (f8 F1) = (10 : Int32) := by rw [f8, if_neg hc14_5, if_neg hc14_10, if_neg hc14_15, if_neg hc14_20, if_neg hc14_25, if_neg hc14_30, if_neg hc14_35, if_neg hc14_40, if_neg hc14_45, if_pos hc14_50]
                      refine ⟨_, _, pre49 _ ?_, hrun, hended, _, _, rfl, ?_, ⟨_, rfl⟩, hW, hsame.mono (by decide) (by decide)⟩
                      · show Steps p.tables e below (T47.setTop (mkF m 14 #[.val (.ref o0), .val (.int (10 : Int32))] [(.int (F1 10))])) _
                        refine XS.ifYes X47.here hx rfl (pc0 := 14) (pc' := 23) rfl (hb hby d8_14) rfl ((if0 _ _).trans (teq hc14_50).1) (by decide) (by decide) ?_
                        show Steps p.tables e below (T47.setTop (mkF m 23 #[.val (.ref o0), .val (.int (10 : Int32))] [])) _
                        refine XS.iloadN X47.here hx rfl (hb hby d8_23) rfl ?_
                        show Steps p.tables e below (T47.setTop (mkF m 24 #[.val (.ref o0), .val (.int (10 : Int32))] [(.int (10 : Int32))])) _
                        exact retI X47 hx Bd.returns (hb hby d8_24) hr
                      · show Q8 Z o0 r1 F1 h0 n0 _ T47.heap _
                        rw [e47]
                        exact ⟨congrArg (fun q => some (Value.int q)) hv106.symm, N0, rfl⟩
                    · have pre51 : ∀ t, Steps p.tables e below (T47.setTop (mkF m 5 #[.val (.ref o0), .val (.int (11 : Int32))] [(.int (20 : Int32)), (.int (11 : Int32))])) t → Steps p.tables e below (s₁.setTop (entryFrame m #[(.ref o0)] 2)) t := fun t kt => pre49 t (by
                          show Steps p.tables e below (T47.setTop (mkF m 14 #[.val (.ref o0), .val (.int (10 : Int32))] [(.int (F1 10))])) _
                          refine XS.ifNo X47.here hx rfl (hb hby d8_14) rfl ((if0 _ _).trans (feq hc14_50).1) ?_
                          show Steps p.tables e below (T47.setTop (mkF m 17 #[.val (.ref o0), .val (.int (10 : Int32))] [])) _
                          refine XS.iinc X47.here hx rfl (hb hby d8_17) rfl (l' := #[.val (.ref o0), .val (.int (11 : Int32))]) rfl ?_
                          show Steps p.tables e below (T47.setTop (mkF m 20 #[.val (.ref o0), .val (.int (11 : Int32))] [])) _
                          refine XS.goto X47.here hx rfl (pc0 := 20) (pc' := 2) rfl (hb hby d8_20) (by decide) (by decide) ?_
                          show Steps p.tables e below (T47.setTop (mkF m 2 #[.val (.ref o0), .val (.int (11 : Int32))] [])) _
                          refine XS.iloadN X47.here hx rfl (hb hby d8_2) rfl ?_
                          show Steps p.tables e below (T47.setTop (mkF m 3 #[.val (.ref o0), .val (.int (11 : Int32))] [(.int (11 : Int32))])) _
                          refine XS.bipush X47.here hx rfl (hb hby d8_3) ?_
                          exact kt)
                      obtain ⟨T52, X52, e52, st52⟩ := getF X47 hx hZ hown (host := "") (Or.inl (hw _ (List.mem_of_getElem? (i := 15) rfl))) Via.refl e47 F_open_o0 (g := (mkF m 9 #[.val (.ref o0), .val (.int (11 : Int32))] [(.ref o0)])) rfl rfl (hb hby d8_9)
                      obtain ⟨cl53, Ar53, Sz53, Nn53, Hs53⟩ := id V_r1
                      have hin53 : ¬ ((11 : Int32) < 0 ∨ cl53.slots.size ≤ ((11 : Int32)).toNatClampNeg) := inb_of Sz53 ⟨by decide, by decide⟩
                      have hat53 : cl53.slots[((11 : Int32)).toNatClampNeg]? = some (.int (F1 11)) := (Hs53 _ (own_lt hin53)).1
                      have pre54 : ∀ t, Steps p.tables e below (T52.setTop (mkF m 14 #[.val (.ref o0), .val (.int (11 : Int32))] [(.int (F1 11))])) t → Steps p.tables e below (s₁.setTop (entryFrame m #[(.ref o0)] 2)) t := fun t kt => pre51 t (by
                          show Steps p.tables e below (T47.setTop (mkF m 5 #[.val (.ref o0), .val (.int (11 : Int32))] [(.int (20 : Int32)), (.int (11 : Int32))])) _
                          refine XS.icmpNo X47.here hx rfl (hb hby d8_5) rfl (tlt (by decide : ((11 : Int32) < (20 : Int32)))).2.1 ?_
                          show Steps p.tables e below (T47.setTop (mkF m 8 #[.val (.ref o0), .val (.int (11 : Int32))] [])) _
                          refine XS.aloadN X47.here hx rfl (hb hby d8_8) rfl rfl ?_
                          show Steps p.tables e below (T47.setTop (mkF m 9 #[.val (.ref o0), .val (.int (11 : Int32))] [(.ref o0)])) _
                          refine st52 _ ?_
                          show Steps p.tables e below (T52.setTop (mkF m 12 #[.val (.ref o0), .val (.int (11 : Int32))] [(.ref r1)])) _
                          refine XS.iloadN X52.here hx rfl (hb hby d8_12) rfl ?_
                          show Steps p.tables e below (T52.setTop (mkF m 13 #[.val (.ref o0), .val (.int (11 : Int32))] [(.int (11 : Int32)), (.ref r1)])) _
                          refine X52.baloadBooleans hx (j := (11 : Int32)) (v := (.int (F1 11))) (by rw [e52]; exact Ar53.1) (State.isArrayOf_alike hZ.alike Ar53.2.1) Ar53.2.2 hin53 hat53 (g := (mkF m 13 #[.val (.ref o0), .val (.int (11 : Int32))] [(.int (11 : Int32)), (.ref r1)])) rfl rfl (hb hby d8_13) _ ?_
                          exact kt)
                      by_cases hc14_55 : (F1 11) = (0 : Int32)
                      · obtain ⟨fs, hr, hrun, hended, hW, hsame⟩ := X52.leave (v := some (.int (11 : Int32))) (fun h => by rw [Bd.returns] at h; cases h)
                        have hv107 : (f8 F1) = (11 : Int32) := by rw [f8, if_neg hc14_5, if_neg hc14_10, if_neg hc14_15, if_neg hc14_20, if_neg hc14_25, if_neg hc14_30, if_neg hc14_35, if_neg hc14_40, if_neg hc14_45, if_neg hc14_50, if_pos hc14_55]
                        refine ⟨_, _, pre54 _ ?_, hrun, hended, _, _, rfl, ?_, ⟨_, rfl⟩, hW, hsame.mono (by decide) (by decide)⟩
                        · show Steps p.tables e below (T52.setTop (mkF m 14 #[.val (.ref o0), .val (.int (11 : Int32))] [(.int (F1 11))])) _
                          refine XS.ifYes X52.here hx rfl (pc0 := 14) (pc' := 23) rfl (hb hby d8_14) rfl ((if0 _ _).trans (teq hc14_55).1) (by decide) (by decide) ?_
                          show Steps p.tables e below (T52.setTop (mkF m 23 #[.val (.ref o0), .val (.int (11 : Int32))] [])) _
                          refine XS.iloadN X52.here hx rfl (hb hby d8_23) rfl ?_
                          show Steps p.tables e below (T52.setTop (mkF m 24 #[.val (.ref o0), .val (.int (11 : Int32))] [(.int (11 : Int32))])) _
                          exact retI X52 hx Bd.returns (hb hby d8_24) hr
                        · show Q8 Z o0 r1 F1 h0 n0 _ T52.heap _
                          rw [e52]
                          exact ⟨congrArg (fun q => some (Value.int q)) hv107.symm, N0, rfl⟩
                      · have pre56 : ∀ t, Steps p.tables e below (T52.setTop (mkF m 5 #[.val (.ref o0), .val (.int (12 : Int32))] [(.int (20 : Int32)), (.int (12 : Int32))])) t → Steps p.tables e below (s₁.setTop (entryFrame m #[(.ref o0)] 2)) t := fun t kt => pre54 t (by
                            show Steps p.tables e below (T52.setTop (mkF m 14 #[.val (.ref o0), .val (.int (11 : Int32))] [(.int (F1 11))])) _
                            refine XS.ifNo X52.here hx rfl (hb hby d8_14) rfl ((if0 _ _).trans (feq hc14_55).1) ?_
                            show Steps p.tables e below (T52.setTop (mkF m 17 #[.val (.ref o0), .val (.int (11 : Int32))] [])) _
                            refine XS.iinc X52.here hx rfl (hb hby d8_17) rfl (l' := #[.val (.ref o0), .val (.int (12 : Int32))]) rfl ?_
                            show Steps p.tables e below (T52.setTop (mkF m 20 #[.val (.ref o0), .val (.int (12 : Int32))] [])) _
                            refine XS.goto X52.here hx rfl (pc0 := 20) (pc' := 2) rfl (hb hby d8_20) (by decide) (by decide) ?_
                            show Steps p.tables e below (T52.setTop (mkF m 2 #[.val (.ref o0), .val (.int (12 : Int32))] [])) _
                            refine XS.iloadN X52.here hx rfl (hb hby d8_2) rfl ?_
                            show Steps p.tables e below (T52.setTop (mkF m 3 #[.val (.ref o0), .val (.int (12 : Int32))] [(.int (12 : Int32))])) _
                            refine XS.bipush X52.here hx rfl (hb hby d8_3) ?_
                            exact kt)
                        obtain ⟨T57, X57, e57, st57⟩ := getF X52 hx hZ hown (host := "") (Or.inl (hw _ (List.mem_of_getElem? (i := 15) rfl))) Via.refl e52 F_open_o0 (g := (mkF m 9 #[.val (.ref o0), .val (.int (12 : Int32))] [(.ref o0)])) rfl rfl (hb hby d8_9)
                        obtain ⟨cl58, Ar58, Sz58, Nn58, Hs58⟩ := id V_r1
                        have hin58 : ¬ ((12 : Int32) < 0 ∨ cl58.slots.size ≤ ((12 : Int32)).toNatClampNeg) := inb_of Sz58 ⟨by decide, by decide⟩
                        have hat58 : cl58.slots[((12 : Int32)).toNatClampNeg]? = some (.int (F1 12)) := (Hs58 _ (own_lt hin58)).1
                        have pre59 : ∀ t, Steps p.tables e below (T57.setTop (mkF m 14 #[.val (.ref o0), .val (.int (12 : Int32))] [(.int (F1 12))])) t → Steps p.tables e below (s₁.setTop (entryFrame m #[(.ref o0)] 2)) t := fun t kt => pre56 t (by
                            show Steps p.tables e below (T52.setTop (mkF m 5 #[.val (.ref o0), .val (.int (12 : Int32))] [(.int (20 : Int32)), (.int (12 : Int32))])) _
                            refine XS.icmpNo X52.here hx rfl (hb hby d8_5) rfl (tlt (by decide : ((12 : Int32) < (20 : Int32)))).2.1 ?_
                            show Steps p.tables e below (T52.setTop (mkF m 8 #[.val (.ref o0), .val (.int (12 : Int32))] [])) _
                            refine XS.aloadN X52.here hx rfl (hb hby d8_8) rfl rfl ?_
                            show Steps p.tables e below (T52.setTop (mkF m 9 #[.val (.ref o0), .val (.int (12 : Int32))] [(.ref o0)])) _
                            refine st57 _ ?_
                            show Steps p.tables e below (T57.setTop (mkF m 12 #[.val (.ref o0), .val (.int (12 : Int32))] [(.ref r1)])) _
                            refine XS.iloadN X57.here hx rfl (hb hby d8_12) rfl ?_
                            show Steps p.tables e below (T57.setTop (mkF m 13 #[.val (.ref o0), .val (.int (12 : Int32))] [(.int (12 : Int32)), (.ref r1)])) _
                            refine X57.baloadBooleans hx (j := (12 : Int32)) (v := (.int (F1 12))) (by rw [e57]; exact Ar58.1) (State.isArrayOf_alike hZ.alike Ar58.2.1) Ar58.2.2 hin58 hat58 (g := (mkF m 13 #[.val (.ref o0), .val (.int (12 : Int32))] [(.int (12 : Int32)), (.ref r1)])) rfl rfl (hb hby d8_13) _ ?_
                            exact kt)
                        by_cases hc14_60 : (F1 12) = (0 : Int32)
                        · obtain ⟨fs, hr, hrun, hended, hW, hsame⟩ := X57.leave (v := some (.int (12 : Int32))) (fun h => by rw [Bd.returns] at h; cases h)
                          have hv108 : (f8 F1) = (12 : Int32) := by rw [f8, if_neg hc14_5, if_neg hc14_10, if_neg hc14_15, if_neg hc14_20, if_neg hc14_25, if_neg hc14_30, if_neg hc14_35, if_neg hc14_40, if_neg hc14_45, if_neg hc14_50, if_neg hc14_55, if_pos hc14_60]
                          refine ⟨_, _, pre59 _ ?_, hrun, hended, _, _, rfl, ?_, ⟨_, rfl⟩, hW, hsame.mono (by decide) (by decide)⟩
                          · show Steps p.tables e below (T57.setTop (mkF m 14 #[.val (.ref o0), .val (.int (12 : Int32))] [(.int (F1 12))])) _
                            refine XS.ifYes X57.here hx rfl (pc0 := 14) (pc' := 23) rfl (hb hby d8_14) rfl ((if0 _ _).trans (teq hc14_60).1) (by decide) (by decide) ?_
                            show Steps p.tables e below (T57.setTop (mkF m 23 #[.val (.ref o0), .val (.int (12 : Int32))] [])) _
                            refine XS.iloadN X57.here hx rfl (hb hby d8_23) rfl ?_
                            show Steps p.tables e below (T57.setTop (mkF m 24 #[.val (.ref o0), .val (.int (12 : Int32))] [(.int (12 : Int32))])) _
                            exact retI X57 hx Bd.returns (hb hby d8_24) hr
                          · show Q8 Z o0 r1 F1 h0 n0 _ T57.heap _
                            rw [e57]
                            exact ⟨congrArg (fun q => some (Value.int q)) hv108.symm, N0, rfl⟩
                        · have pre61 : ∀ t, Steps p.tables e below (T57.setTop (mkF m 5 #[.val (.ref o0), .val (.int (13 : Int32))] [(.int (20 : Int32)), (.int (13 : Int32))])) t → Steps p.tables e below (s₁.setTop (entryFrame m #[(.ref o0)] 2)) t := fun t kt => pre59 t (by
                              show Steps p.tables e below (T57.setTop (mkF m 14 #[.val (.ref o0), .val (.int (12 : Int32))] [(.int (F1 12))])) _
                              refine XS.ifNo X57.here hx rfl (hb hby d8_14) rfl ((if0 _ _).trans (feq hc14_60).1) ?_
                              show Steps p.tables e below (T57.setTop (mkF m 17 #[.val (.ref o0), .val (.int (12 : Int32))] [])) _
                              refine XS.iinc X57.here hx rfl (hb hby d8_17) rfl (l' := #[.val (.ref o0), .val (.int (13 : Int32))]) rfl ?_
                              show Steps p.tables e below (T57.setTop (mkF m 20 #[.val (.ref o0), .val (.int (13 : Int32))] [])) _
                              refine XS.goto X57.here hx rfl (pc0 := 20) (pc' := 2) rfl (hb hby d8_20) (by decide) (by decide) ?_
                              show Steps p.tables e below (T57.setTop (mkF m 2 #[.val (.ref o0), .val (.int (13 : Int32))] [])) _
                              refine XS.iloadN X57.here hx rfl (hb hby d8_2) rfl ?_
                              show Steps p.tables e below (T57.setTop (mkF m 3 #[.val (.ref o0), .val (.int (13 : Int32))] [(.int (13 : Int32))])) _
                              refine XS.bipush X57.here hx rfl (hb hby d8_3) ?_
                              exact kt)
                          obtain ⟨T62, X62, e62, st62⟩ := getF X57 hx hZ hown (host := "") (Or.inl (hw _ (List.mem_of_getElem? (i := 15) rfl))) Via.refl e57 F_open_o0 (g := (mkF m 9 #[.val (.ref o0), .val (.int (13 : Int32))] [(.ref o0)])) rfl rfl (hb hby d8_9)
                          obtain ⟨cl63, Ar63, Sz63, Nn63, Hs63⟩ := id V_r1
                          have hin63 : ¬ ((13 : Int32) < 0 ∨ cl63.slots.size ≤ ((13 : Int32)).toNatClampNeg) := inb_of Sz63 ⟨by decide, by decide⟩
                          have hat63 : cl63.slots[((13 : Int32)).toNatClampNeg]? = some (.int (F1 13)) := (Hs63 _ (own_lt hin63)).1
                          have pre64 : ∀ t, Steps p.tables e below (T62.setTop (mkF m 14 #[.val (.ref o0), .val (.int (13 : Int32))] [(.int (F1 13))])) t → Steps p.tables e below (s₁.setTop (entryFrame m #[(.ref o0)] 2)) t := fun t kt => pre61 t (by
                              show Steps p.tables e below (T57.setTop (mkF m 5 #[.val (.ref o0), .val (.int (13 : Int32))] [(.int (20 : Int32)), (.int (13 : Int32))])) _
                              refine XS.icmpNo X57.here hx rfl (hb hby d8_5) rfl (tlt (by decide : ((13 : Int32) < (20 : Int32)))).2.1 ?_
                              show Steps p.tables e below (T57.setTop (mkF m 8 #[.val (.ref o0), .val (.int (13 : Int32))] [])) _
                              refine XS.aloadN X57.here hx rfl (hb hby d8_8) rfl rfl ?_
                              show Steps p.tables e below (T57.setTop (mkF m 9 #[.val (.ref o0), .val (.int (13 : Int32))] [(.ref o0)])) _
                              refine st62 _ ?_
                              show Steps p.tables e below (T62.setTop (mkF m 12 #[.val (.ref o0), .val (.int (13 : Int32))] [(.ref r1)])) _
                              refine XS.iloadN X62.here hx rfl (hb hby d8_12) rfl ?_
                              show Steps p.tables e below (T62.setTop (mkF m 13 #[.val (.ref o0), .val (.int (13 : Int32))] [(.int (13 : Int32)), (.ref r1)])) _
                              refine X62.baloadBooleans hx (j := (13 : Int32)) (v := (.int (F1 13))) (by rw [e62]; exact Ar63.1) (State.isArrayOf_alike hZ.alike Ar63.2.1) Ar63.2.2 hin63 hat63 (g := (mkF m 13 #[.val (.ref o0), .val (.int (13 : Int32))] [(.int (13 : Int32)), (.ref r1)])) rfl rfl (hb hby d8_13) _ ?_
                              exact kt)
                          by_cases hc14_65 : (F1 13) = (0 : Int32)
                          · obtain ⟨fs, hr, hrun, hended, hW, hsame⟩ := X62.leave (v := some (.int (13 : Int32))) (fun h => by rw [Bd.returns] at h; cases h)
                            have hv109 : (f8 F1) = (13 : Int32) := by rw [f8, if_neg hc14_5, if_neg hc14_10, if_neg hc14_15, if_neg hc14_20, if_neg hc14_25, if_neg hc14_30, if_neg hc14_35, if_neg hc14_40, if_neg hc14_45, if_neg hc14_50, if_neg hc14_55, if_neg hc14_60, if_pos hc14_65]
                            refine ⟨_, _, pre64 _ ?_, hrun, hended, _, _, rfl, ?_, ⟨_, rfl⟩, hW, hsame.mono (by decide) (by decide)⟩
                            · show Steps p.tables e below (T62.setTop (mkF m 14 #[.val (.ref o0), .val (.int (13 : Int32))] [(.int (F1 13))])) _
                              refine XS.ifYes X62.here hx rfl (pc0 := 14) (pc' := 23) rfl (hb hby d8_14) rfl ((if0 _ _).trans (teq hc14_65).1) (by decide) (by decide) ?_
                              show Steps p.tables e below (T62.setTop (mkF m 23 #[.val (.ref o0), .val (.int (13 : Int32))] [])) _
                              refine XS.iloadN X62.here hx rfl (hb hby d8_23) rfl ?_
                              show Steps p.tables e below (T62.setTop (mkF m 24 #[.val (.ref o0), .val (.int (13 : Int32))] [(.int (13 : Int32))])) _
                              exact retI X62 hx Bd.returns (hb hby d8_24) hr
                            · show Q8 Z o0 r1 F1 h0 n0 _ T62.heap _
                              rw [e62]
                              exact ⟨congrArg (fun q => some (Value.int q)) hv109.symm, N0, rfl⟩
                          · have pre66 : ∀ t, Steps p.tables e below (T62.setTop (mkF m 5 #[.val (.ref o0), .val (.int (14 : Int32))] [(.int (20 : Int32)), (.int (14 : Int32))])) t → Steps p.tables e below (s₁.setTop (entryFrame m #[(.ref o0)] 2)) t := fun t kt => pre64 t (by
                                show Steps p.tables e below (T62.setTop (mkF m 14 #[.val (.ref o0), .val (.int (13 : Int32))] [(.int (F1 13))])) _
                                refine XS.ifNo X62.here hx rfl (hb hby d8_14) rfl ((if0 _ _).trans (feq hc14_65).1) ?_
                                show Steps p.tables e below (T62.setTop (mkF m 17 #[.val (.ref o0), .val (.int (13 : Int32))] [])) _
                                refine XS.iinc X62.here hx rfl (hb hby d8_17) rfl (l' := #[.val (.ref o0), .val (.int (14 : Int32))]) rfl ?_
                                show Steps p.tables e below (T62.setTop (mkF m 20 #[.val (.ref o0), .val (.int (14 : Int32))] [])) _
                                refine XS.goto X62.here hx rfl (pc0 := 20) (pc' := 2) rfl (hb hby d8_20) (by decide) (by decide) ?_
                                show Steps p.tables e below (T62.setTop (mkF m 2 #[.val (.ref o0), .val (.int (14 : Int32))] [])) _
                                refine XS.iloadN X62.here hx rfl (hb hby d8_2) rfl ?_
                                show Steps p.tables e below (T62.setTop (mkF m 3 #[.val (.ref o0), .val (.int (14 : Int32))] [(.int (14 : Int32))])) _
                                refine XS.bipush X62.here hx rfl (hb hby d8_3) ?_
                                exact kt)
                            obtain ⟨T67, X67, e67, st67⟩ := getF X62 hx hZ hown (host := "") (Or.inl (hw _ (List.mem_of_getElem? (i := 15) rfl))) Via.refl e62 F_open_o0 (g := (mkF m 9 #[.val (.ref o0), .val (.int (14 : Int32))] [(.ref o0)])) rfl rfl (hb hby d8_9)
                            obtain ⟨cl68, Ar68, Sz68, Nn68, Hs68⟩ := id V_r1
                            have hin68 : ¬ ((14 : Int32) < 0 ∨ cl68.slots.size ≤ ((14 : Int32)).toNatClampNeg) := inb_of Sz68 ⟨by decide, by decide⟩
                            have hat68 : cl68.slots[((14 : Int32)).toNatClampNeg]? = some (.int (F1 14)) := (Hs68 _ (own_lt hin68)).1
                            have pre69 : ∀ t, Steps p.tables e below (T67.setTop (mkF m 14 #[.val (.ref o0), .val (.int (14 : Int32))] [(.int (F1 14))])) t → Steps p.tables e below (s₁.setTop (entryFrame m #[(.ref o0)] 2)) t := fun t kt => pre66 t (by
                                show Steps p.tables e below (T62.setTop (mkF m 5 #[.val (.ref o0), .val (.int (14 : Int32))] [(.int (20 : Int32)), (.int (14 : Int32))])) _
                                refine XS.icmpNo X62.here hx rfl (hb hby d8_5) rfl (tlt (by decide : ((14 : Int32) < (20 : Int32)))).2.1 ?_
                                show Steps p.tables e below (T62.setTop (mkF m 8 #[.val (.ref o0), .val (.int (14 : Int32))] [])) _
                                refine XS.aloadN X62.here hx rfl (hb hby d8_8) rfl rfl ?_
                                show Steps p.tables e below (T62.setTop (mkF m 9 #[.val (.ref o0), .val (.int (14 : Int32))] [(.ref o0)])) _
                                refine st67 _ ?_
                                show Steps p.tables e below (T67.setTop (mkF m 12 #[.val (.ref o0), .val (.int (14 : Int32))] [(.ref r1)])) _
                                refine XS.iloadN X67.here hx rfl (hb hby d8_12) rfl ?_
                                show Steps p.tables e below (T67.setTop (mkF m 13 #[.val (.ref o0), .val (.int (14 : Int32))] [(.int (14 : Int32)), (.ref r1)])) _
                                refine X67.baloadBooleans hx (j := (14 : Int32)) (v := (.int (F1 14))) (by rw [e67]; exact Ar68.1) (State.isArrayOf_alike hZ.alike Ar68.2.1) Ar68.2.2 hin68 hat68 (g := (mkF m 13 #[.val (.ref o0), .val (.int (14 : Int32))] [(.int (14 : Int32)), (.ref r1)])) rfl rfl (hb hby d8_13) _ ?_
                                exact kt)
                            by_cases hc14_70 : (F1 14) = (0 : Int32)
                            · obtain ⟨fs, hr, hrun, hended, hW, hsame⟩ := X67.leave (v := some (.int (14 : Int32))) (fun h => by rw [Bd.returns] at h; cases h)
                              have hv110 : (f8 F1) = (14 : Int32) := by rw [f8, if_neg hc14_5, if_neg hc14_10, if_neg hc14_15, if_neg hc14_20, if_neg hc14_25, if_neg hc14_30, if_neg hc14_35, if_neg hc14_40, if_neg hc14_45, if_neg hc14_50, if_neg hc14_55, if_neg hc14_60, if_neg hc14_65, if_pos hc14_70]
                              refine ⟨_, _, pre69 _ ?_, hrun, hended, _, _, rfl, ?_, ⟨_, rfl⟩, hW, hsame.mono (by decide) (by decide)⟩
                              · show Steps p.tables e below (T67.setTop (mkF m 14 #[.val (.ref o0), .val (.int (14 : Int32))] [(.int (F1 14))])) _
                                refine XS.ifYes X67.here hx rfl (pc0 := 14) (pc' := 23) rfl (hb hby d8_14) rfl ((if0 _ _).trans (teq hc14_70).1) (by decide) (by decide) ?_
                                show Steps p.tables e below (T67.setTop (mkF m 23 #[.val (.ref o0), .val (.int (14 : Int32))] [])) _
                                refine XS.iloadN X67.here hx rfl (hb hby d8_23) rfl ?_
                                show Steps p.tables e below (T67.setTop (mkF m 24 #[.val (.ref o0), .val (.int (14 : Int32))] [(.int (14 : Int32))])) _
                                exact retI X67 hx Bd.returns (hb hby d8_24) hr
                              · show Q8 Z o0 r1 F1 h0 n0 _ T67.heap _
                                rw [e67]
                                exact ⟨congrArg (fun q => some (Value.int q)) hv110.symm, N0, rfl⟩
                            · have pre71 : ∀ t, Steps p.tables e below (T67.setTop (mkF m 5 #[.val (.ref o0), .val (.int (15 : Int32))] [(.int (20 : Int32)), (.int (15 : Int32))])) t → Steps p.tables e below (s₁.setTop (entryFrame m #[(.ref o0)] 2)) t := fun t kt => pre69 t (by
                                  show Steps p.tables e below (T67.setTop (mkF m 14 #[.val (.ref o0), .val (.int (14 : Int32))] [(.int (F1 14))])) _
                                  refine XS.ifNo X67.here hx rfl (hb hby d8_14) rfl ((if0 _ _).trans (feq hc14_70).1) ?_
                                  show Steps p.tables e below (T67.setTop (mkF m 17 #[.val (.ref o0), .val (.int (14 : Int32))] [])) _
                                  refine XS.iinc X67.here hx rfl (hb hby d8_17) rfl (l' := #[.val (.ref o0), .val (.int (15 : Int32))]) rfl ?_
                                  show Steps p.tables e below (T67.setTop (mkF m 20 #[.val (.ref o0), .val (.int (15 : Int32))] [])) _
                                  refine XS.goto X67.here hx rfl (pc0 := 20) (pc' := 2) rfl (hb hby d8_20) (by decide) (by decide) ?_
                                  show Steps p.tables e below (T67.setTop (mkF m 2 #[.val (.ref o0), .val (.int (15 : Int32))] [])) _
                                  refine XS.iloadN X67.here hx rfl (hb hby d8_2) rfl ?_
                                  show Steps p.tables e below (T67.setTop (mkF m 3 #[.val (.ref o0), .val (.int (15 : Int32))] [(.int (15 : Int32))])) _
                                  refine XS.bipush X67.here hx rfl (hb hby d8_3) ?_
                                  exact kt)
                              obtain ⟨T72, X72, e72, st72⟩ := getF X67 hx hZ hown (host := "") (Or.inl (hw _ (List.mem_of_getElem? (i := 15) rfl))) Via.refl e67 F_open_o0 (g := (mkF m 9 #[.val (.ref o0), .val (.int (15 : Int32))] [(.ref o0)])) rfl rfl (hb hby d8_9)
                              obtain ⟨cl73, Ar73, Sz73, Nn73, Hs73⟩ := id V_r1
                              have hin73 : ¬ ((15 : Int32) < 0 ∨ cl73.slots.size ≤ ((15 : Int32)).toNatClampNeg) := inb_of Sz73 ⟨by decide, by decide⟩
                              have hat73 : cl73.slots[((15 : Int32)).toNatClampNeg]? = some (.int (F1 15)) := (Hs73 _ (own_lt hin73)).1
                              have pre74 : ∀ t, Steps p.tables e below (T72.setTop (mkF m 14 #[.val (.ref o0), .val (.int (15 : Int32))] [(.int (F1 15))])) t → Steps p.tables e below (s₁.setTop (entryFrame m #[(.ref o0)] 2)) t := fun t kt => pre71 t (by
                                  show Steps p.tables e below (T67.setTop (mkF m 5 #[.val (.ref o0), .val (.int (15 : Int32))] [(.int (20 : Int32)), (.int (15 : Int32))])) _
                                  refine XS.icmpNo X67.here hx rfl (hb hby d8_5) rfl (tlt (by decide : ((15 : Int32) < (20 : Int32)))).2.1 ?_
                                  show Steps p.tables e below (T67.setTop (mkF m 8 #[.val (.ref o0), .val (.int (15 : Int32))] [])) _
                                  refine XS.aloadN X67.here hx rfl (hb hby d8_8) rfl rfl ?_
                                  show Steps p.tables e below (T67.setTop (mkF m 9 #[.val (.ref o0), .val (.int (15 : Int32))] [(.ref o0)])) _
                                  refine st72 _ ?_
                                  show Steps p.tables e below (T72.setTop (mkF m 12 #[.val (.ref o0), .val (.int (15 : Int32))] [(.ref r1)])) _
                                  refine XS.iloadN X72.here hx rfl (hb hby d8_12) rfl ?_
                                  show Steps p.tables e below (T72.setTop (mkF m 13 #[.val (.ref o0), .val (.int (15 : Int32))] [(.int (15 : Int32)), (.ref r1)])) _
                                  refine X72.baloadBooleans hx (j := (15 : Int32)) (v := (.int (F1 15))) (by rw [e72]; exact Ar73.1) (State.isArrayOf_alike hZ.alike Ar73.2.1) Ar73.2.2 hin73 hat73 (g := (mkF m 13 #[.val (.ref o0), .val (.int (15 : Int32))] [(.int (15 : Int32)), (.ref r1)])) rfl rfl (hb hby d8_13) _ ?_
                                  exact kt)
                              by_cases hc14_75 : (F1 15) = (0 : Int32)
                              · obtain ⟨fs, hr, hrun, hended, hW, hsame⟩ := X72.leave (v := some (.int (15 : Int32))) (fun h => by rw [Bd.returns] at h; cases h)
                                have hv111 : (f8 F1) = (15 : Int32) := by rw [f8, if_neg hc14_5, if_neg hc14_10, if_neg hc14_15, if_neg hc14_20, if_neg hc14_25, if_neg hc14_30, if_neg hc14_35, if_neg hc14_40, if_neg hc14_45, if_neg hc14_50, if_neg hc14_55, if_neg hc14_60, if_neg hc14_65, if_neg hc14_70, if_pos hc14_75]
                                refine ⟨_, _, pre74 _ ?_, hrun, hended, _, _, rfl, ?_, ⟨_, rfl⟩, hW, hsame.mono (by decide) (by decide)⟩
                                · show Steps p.tables e below (T72.setTop (mkF m 14 #[.val (.ref o0), .val (.int (15 : Int32))] [(.int (F1 15))])) _
                                  refine XS.ifYes X72.here hx rfl (pc0 := 14) (pc' := 23) rfl (hb hby d8_14) rfl ((if0 _ _).trans (teq hc14_75).1) (by decide) (by decide) ?_
                                  show Steps p.tables e below (T72.setTop (mkF m 23 #[.val (.ref o0), .val (.int (15 : Int32))] [])) _
                                  refine XS.iloadN X72.here hx rfl (hb hby d8_23) rfl ?_
                                  show Steps p.tables e below (T72.setTop (mkF m 24 #[.val (.ref o0), .val (.int (15 : Int32))] [(.int (15 : Int32))])) _
                                  exact retI X72 hx Bd.returns (hb hby d8_24) hr
                                · show Q8 Z o0 r1 F1 h0 n0 _ T72.heap _
                                  rw [e72]
                                  exact ⟨congrArg (fun q => some (Value.int q)) hv111.symm, N0, rfl⟩
                              · have pre76 : ∀ t, Steps p.tables e below (T72.setTop (mkF m 5 #[.val (.ref o0), .val (.int (16 : Int32))] [(.int (20 : Int32)), (.int (16 : Int32))])) t → Steps p.tables e below (s₁.setTop (entryFrame m #[(.ref o0)] 2)) t := fun t kt => pre74 t (by
                                    show Steps p.tables e below (T72.setTop (mkF m 14 #[.val (.ref o0), .val (.int (15 : Int32))] [(.int (F1 15))])) _
                                    refine XS.ifNo X72.here hx rfl (hb hby d8_14) rfl ((if0 _ _).trans (feq hc14_75).1) ?_
                                    show Steps p.tables e below (T72.setTop (mkF m 17 #[.val (.ref o0), .val (.int (15 : Int32))] [])) _
                                    refine XS.iinc X72.here hx rfl (hb hby d8_17) rfl (l' := #[.val (.ref o0), .val (.int (16 : Int32))]) rfl ?_
                                    show Steps p.tables e below (T72.setTop (mkF m 20 #[.val (.ref o0), .val (.int (16 : Int32))] [])) _
                                    refine XS.goto X72.here hx rfl (pc0 := 20) (pc' := 2) rfl (hb hby d8_20) (by decide) (by decide) ?_
                                    show Steps p.tables e below (T72.setTop (mkF m 2 #[.val (.ref o0), .val (.int (16 : Int32))] [])) _
                                    refine XS.iloadN X72.here hx rfl (hb hby d8_2) rfl ?_
                                    show Steps p.tables e below (T72.setTop (mkF m 3 #[.val (.ref o0), .val (.int (16 : Int32))] [(.int (16 : Int32))])) _
                                    refine XS.bipush X72.here hx rfl (hb hby d8_3) ?_
                                    exact kt)
                                obtain ⟨T77, X77, e77, st77⟩ := getF X72 hx hZ hown (host := "") (Or.inl (hw _ (List.mem_of_getElem? (i := 15) rfl))) Via.refl e72 F_open_o0 (g := (mkF m 9 #[.val (.ref o0), .val (.int (16 : Int32))] [(.ref o0)])) rfl rfl (hb hby d8_9)
                                obtain ⟨cl78, Ar78, Sz78, Nn78, Hs78⟩ := id V_r1
                                have hin78 : ¬ ((16 : Int32) < 0 ∨ cl78.slots.size ≤ ((16 : Int32)).toNatClampNeg) := inb_of Sz78 ⟨by decide, by decide⟩
                                have hat78 : cl78.slots[((16 : Int32)).toNatClampNeg]? = some (.int (F1 16)) := (Hs78 _ (own_lt hin78)).1
                                have pre79 : ∀ t, Steps p.tables e below (T77.setTop (mkF m 14 #[.val (.ref o0), .val (.int (16 : Int32))] [(.int (F1 16))])) t → Steps p.tables e below (s₁.setTop (entryFrame m #[(.ref o0)] 2)) t := fun t kt => pre76 t (by
                                    show Steps p.tables e below (T72.setTop (mkF m 5 #[.val (.ref o0), .val (.int (16 : Int32))] [(.int (20 : Int32)), (.int (16 : Int32))])) _
                                    refine XS.icmpNo X72.here hx rfl (hb hby d8_5) rfl (tlt (by decide : ((16 : Int32) < (20 : Int32)))).2.1 ?_
                                    show Steps p.tables e below (T72.setTop (mkF m 8 #[.val (.ref o0), .val (.int (16 : Int32))] [])) _
                                    refine XS.aloadN X72.here hx rfl (hb hby d8_8) rfl rfl ?_
                                    show Steps p.tables e below (T72.setTop (mkF m 9 #[.val (.ref o0), .val (.int (16 : Int32))] [(.ref o0)])) _
                                    refine st77 _ ?_
                                    show Steps p.tables e below (T77.setTop (mkF m 12 #[.val (.ref o0), .val (.int (16 : Int32))] [(.ref r1)])) _
                                    refine XS.iloadN X77.here hx rfl (hb hby d8_12) rfl ?_
                                    show Steps p.tables e below (T77.setTop (mkF m 13 #[.val (.ref o0), .val (.int (16 : Int32))] [(.int (16 : Int32)), (.ref r1)])) _
                                    refine X77.baloadBooleans hx (j := (16 : Int32)) (v := (.int (F1 16))) (by rw [e77]; exact Ar78.1) (State.isArrayOf_alike hZ.alike Ar78.2.1) Ar78.2.2 hin78 hat78 (g := (mkF m 13 #[.val (.ref o0), .val (.int (16 : Int32))] [(.int (16 : Int32)), (.ref r1)])) rfl rfl (hb hby d8_13) _ ?_
                                    exact kt)
                                by_cases hc14_80 : (F1 16) = (0 : Int32)
                                · obtain ⟨fs, hr, hrun, hended, hW, hsame⟩ := X77.leave (v := some (.int (16 : Int32))) (fun h => by rw [Bd.returns] at h; cases h)
                                  have hv112 : (f8 F1) = (16 : Int32) := by rw [f8, if_neg hc14_5, if_neg hc14_10, if_neg hc14_15, if_neg hc14_20, if_neg hc14_25, if_neg hc14_30, if_neg hc14_35, if_neg hc14_40, if_neg hc14_45, if_neg hc14_50, if_neg hc14_55, if_neg hc14_60, if_neg hc14_65, if_neg hc14_70, if_neg hc14_75, if_pos hc14_80]
                                  refine ⟨_, _, pre79 _ ?_, hrun, hended, _, _, rfl, ?_, ⟨_, rfl⟩, hW, hsame.mono (by decide) (by decide)⟩
                                  · show Steps p.tables e below (T77.setTop (mkF m 14 #[.val (.ref o0), .val (.int (16 : Int32))] [(.int (F1 16))])) _
                                    refine XS.ifYes X77.here hx rfl (pc0 := 14) (pc' := 23) rfl (hb hby d8_14) rfl ((if0 _ _).trans (teq hc14_80).1) (by decide) (by decide) ?_
                                    show Steps p.tables e below (T77.setTop (mkF m 23 #[.val (.ref o0), .val (.int (16 : Int32))] [])) _
                                    refine XS.iloadN X77.here hx rfl (hb hby d8_23) rfl ?_
                                    show Steps p.tables e below (T77.setTop (mkF m 24 #[.val (.ref o0), .val (.int (16 : Int32))] [(.int (16 : Int32))])) _
                                    exact retI X77 hx Bd.returns (hb hby d8_24) hr
                                  · show Q8 Z o0 r1 F1 h0 n0 _ T77.heap _
                                    rw [e77]
                                    exact ⟨congrArg (fun q => some (Value.int q)) hv112.symm, N0, rfl⟩
                                · have pre81 : ∀ t, Steps p.tables e below (T77.setTop (mkF m 5 #[.val (.ref o0), .val (.int (17 : Int32))] [(.int (20 : Int32)), (.int (17 : Int32))])) t → Steps p.tables e below (s₁.setTop (entryFrame m #[(.ref o0)] 2)) t := fun t kt => pre79 t (by
                                      show Steps p.tables e below (T77.setTop (mkF m 14 #[.val (.ref o0), .val (.int (16 : Int32))] [(.int (F1 16))])) _
                                      refine XS.ifNo X77.here hx rfl (hb hby d8_14) rfl ((if0 _ _).trans (feq hc14_80).1) ?_
                                      show Steps p.tables e below (T77.setTop (mkF m 17 #[.val (.ref o0), .val (.int (16 : Int32))] [])) _
                                      refine XS.iinc X77.here hx rfl (hb hby d8_17) rfl (l' := #[.val (.ref o0), .val (.int (17 : Int32))]) rfl ?_
                                      show Steps p.tables e below (T77.setTop (mkF m 20 #[.val (.ref o0), .val (.int (17 : Int32))] [])) _
                                      refine XS.goto X77.here hx rfl (pc0 := 20) (pc' := 2) rfl (hb hby d8_20) (by decide) (by decide) ?_
                                      show Steps p.tables e below (T77.setTop (mkF m 2 #[.val (.ref o0), .val (.int (17 : Int32))] [])) _
                                      refine XS.iloadN X77.here hx rfl (hb hby d8_2) rfl ?_
                                      show Steps p.tables e below (T77.setTop (mkF m 3 #[.val (.ref o0), .val (.int (17 : Int32))] [(.int (17 : Int32))])) _
                                      refine XS.bipush X77.here hx rfl (hb hby d8_3) ?_
                                      exact kt)
                                  obtain ⟨T82, X82, e82, st82⟩ := getF X77 hx hZ hown (host := "") (Or.inl (hw _ (List.mem_of_getElem? (i := 15) rfl))) Via.refl e77 F_open_o0 (g := (mkF m 9 #[.val (.ref o0), .val (.int (17 : Int32))] [(.ref o0)])) rfl rfl (hb hby d8_9)
                                  obtain ⟨cl83, Ar83, Sz83, Nn83, Hs83⟩ := id V_r1
                                  have hin83 : ¬ ((17 : Int32) < 0 ∨ cl83.slots.size ≤ ((17 : Int32)).toNatClampNeg) := inb_of Sz83 ⟨by decide, by decide⟩
                                  have hat83 : cl83.slots[((17 : Int32)).toNatClampNeg]? = some (.int (F1 17)) := (Hs83 _ (own_lt hin83)).1
                                  have pre84 : ∀ t, Steps p.tables e below (T82.setTop (mkF m 14 #[.val (.ref o0), .val (.int (17 : Int32))] [(.int (F1 17))])) t → Steps p.tables e below (s₁.setTop (entryFrame m #[(.ref o0)] 2)) t := fun t kt => pre81 t (by
                                      show Steps p.tables e below (T77.setTop (mkF m 5 #[.val (.ref o0), .val (.int (17 : Int32))] [(.int (20 : Int32)), (.int (17 : Int32))])) _
                                      refine XS.icmpNo X77.here hx rfl (hb hby d8_5) rfl (tlt (by decide : ((17 : Int32) < (20 : Int32)))).2.1 ?_
                                      show Steps p.tables e below (T77.setTop (mkF m 8 #[.val (.ref o0), .val (.int (17 : Int32))] [])) _
                                      refine XS.aloadN X77.here hx rfl (hb hby d8_8) rfl rfl ?_
                                      show Steps p.tables e below (T77.setTop (mkF m 9 #[.val (.ref o0), .val (.int (17 : Int32))] [(.ref o0)])) _
                                      refine st82 _ ?_
                                      show Steps p.tables e below (T82.setTop (mkF m 12 #[.val (.ref o0), .val (.int (17 : Int32))] [(.ref r1)])) _
                                      refine XS.iloadN X82.here hx rfl (hb hby d8_12) rfl ?_
                                      show Steps p.tables e below (T82.setTop (mkF m 13 #[.val (.ref o0), .val (.int (17 : Int32))] [(.int (17 : Int32)), (.ref r1)])) _
                                      refine X82.baloadBooleans hx (j := (17 : Int32)) (v := (.int (F1 17))) (by rw [e82]; exact Ar83.1) (State.isArrayOf_alike hZ.alike Ar83.2.1) Ar83.2.2 hin83 hat83 (g := (mkF m 13 #[.val (.ref o0), .val (.int (17 : Int32))] [(.int (17 : Int32)), (.ref r1)])) rfl rfl (hb hby d8_13) _ ?_
                                      exact kt)
                                  by_cases hc14_85 : (F1 17) = (0 : Int32)
                                  · obtain ⟨fs, hr, hrun, hended, hW, hsame⟩ := X82.leave (v := some (.int (17 : Int32))) (fun h => by rw [Bd.returns] at h; cases h)
                                    have hv113 : (f8 F1) = (17 : Int32) := by rw [f8, if_neg hc14_5, if_neg hc14_10, if_neg hc14_15, if_neg hc14_20, if_neg hc14_25, if_neg hc14_30, if_neg hc14_35, if_neg hc14_40, if_neg hc14_45, if_neg hc14_50, if_neg hc14_55, if_neg hc14_60, if_neg hc14_65, if_neg hc14_70, if_neg hc14_75, if_neg hc14_80, if_pos hc14_85]
                                    refine ⟨_, _, pre84 _ ?_, hrun, hended, _, _, rfl, ?_, ⟨_, rfl⟩, hW, hsame.mono (by decide) (by decide)⟩
                                    · show Steps p.tables e below (T82.setTop (mkF m 14 #[.val (.ref o0), .val (.int (17 : Int32))] [(.int (F1 17))])) _
                                      refine XS.ifYes X82.here hx rfl (pc0 := 14) (pc' := 23) rfl (hb hby d8_14) rfl ((if0 _ _).trans (teq hc14_85).1) (by decide) (by decide) ?_
                                      show Steps p.tables e below (T82.setTop (mkF m 23 #[.val (.ref o0), .val (.int (17 : Int32))] [])) _
                                      refine XS.iloadN X82.here hx rfl (hb hby d8_23) rfl ?_
                                      show Steps p.tables e below (T82.setTop (mkF m 24 #[.val (.ref o0), .val (.int (17 : Int32))] [(.int (17 : Int32))])) _
                                      exact retI X82 hx Bd.returns (hb hby d8_24) hr
                                    · show Q8 Z o0 r1 F1 h0 n0 _ T82.heap _
                                      rw [e82]
                                      exact ⟨congrArg (fun q => some (Value.int q)) hv113.symm, N0, rfl⟩
                                  · have pre86 : ∀ t, Steps p.tables e below (T82.setTop (mkF m 5 #[.val (.ref o0), .val (.int (18 : Int32))] [(.int (20 : Int32)), (.int (18 : Int32))])) t → Steps p.tables e below (s₁.setTop (entryFrame m #[(.ref o0)] 2)) t := fun t kt => pre84 t (by
                                        show Steps p.tables e below (T82.setTop (mkF m 14 #[.val (.ref o0), .val (.int (17 : Int32))] [(.int (F1 17))])) _
                                        refine XS.ifNo X82.here hx rfl (hb hby d8_14) rfl ((if0 _ _).trans (feq hc14_85).1) ?_
                                        show Steps p.tables e below (T82.setTop (mkF m 17 #[.val (.ref o0), .val (.int (17 : Int32))] [])) _
                                        refine XS.iinc X82.here hx rfl (hb hby d8_17) rfl (l' := #[.val (.ref o0), .val (.int (18 : Int32))]) rfl ?_
                                        show Steps p.tables e below (T82.setTop (mkF m 20 #[.val (.ref o0), .val (.int (18 : Int32))] [])) _
                                        refine XS.goto X82.here hx rfl (pc0 := 20) (pc' := 2) rfl (hb hby d8_20) (by decide) (by decide) ?_
                                        show Steps p.tables e below (T82.setTop (mkF m 2 #[.val (.ref o0), .val (.int (18 : Int32))] [])) _
                                        refine XS.iloadN X82.here hx rfl (hb hby d8_2) rfl ?_
                                        show Steps p.tables e below (T82.setTop (mkF m 3 #[.val (.ref o0), .val (.int (18 : Int32))] [(.int (18 : Int32))])) _
                                        refine XS.bipush X82.here hx rfl (hb hby d8_3) ?_
                                        exact kt)
                                    obtain ⟨T87, X87, e87, st87⟩ := getF X82 hx hZ hown (host := "") (Or.inl (hw _ (List.mem_of_getElem? (i := 15) rfl))) Via.refl e82 F_open_o0 (g := (mkF m 9 #[.val (.ref o0), .val (.int (18 : Int32))] [(.ref o0)])) rfl rfl (hb hby d8_9)
                                    obtain ⟨cl88, Ar88, Sz88, Nn88, Hs88⟩ := id V_r1
                                    have hin88 : ¬ ((18 : Int32) < 0 ∨ cl88.slots.size ≤ ((18 : Int32)).toNatClampNeg) := inb_of Sz88 ⟨by decide, by decide⟩
                                    have hat88 : cl88.slots[((18 : Int32)).toNatClampNeg]? = some (.int (F1 18)) := (Hs88 _ (own_lt hin88)).1
                                    have pre89 : ∀ t, Steps p.tables e below (T87.setTop (mkF m 14 #[.val (.ref o0), .val (.int (18 : Int32))] [(.int (F1 18))])) t → Steps p.tables e below (s₁.setTop (entryFrame m #[(.ref o0)] 2)) t := fun t kt => pre86 t (by
                                        show Steps p.tables e below (T82.setTop (mkF m 5 #[.val (.ref o0), .val (.int (18 : Int32))] [(.int (20 : Int32)), (.int (18 : Int32))])) _
                                        refine XS.icmpNo X82.here hx rfl (hb hby d8_5) rfl (tlt (by decide : ((18 : Int32) < (20 : Int32)))).2.1 ?_
                                        show Steps p.tables e below (T82.setTop (mkF m 8 #[.val (.ref o0), .val (.int (18 : Int32))] [])) _
                                        refine XS.aloadN X82.here hx rfl (hb hby d8_8) rfl rfl ?_
                                        show Steps p.tables e below (T82.setTop (mkF m 9 #[.val (.ref o0), .val (.int (18 : Int32))] [(.ref o0)])) _
                                        refine st87 _ ?_
                                        show Steps p.tables e below (T87.setTop (mkF m 12 #[.val (.ref o0), .val (.int (18 : Int32))] [(.ref r1)])) _
                                        refine XS.iloadN X87.here hx rfl (hb hby d8_12) rfl ?_
                                        show Steps p.tables e below (T87.setTop (mkF m 13 #[.val (.ref o0), .val (.int (18 : Int32))] [(.int (18 : Int32)), (.ref r1)])) _
                                        refine X87.baloadBooleans hx (j := (18 : Int32)) (v := (.int (F1 18))) (by rw [e87]; exact Ar88.1) (State.isArrayOf_alike hZ.alike Ar88.2.1) Ar88.2.2 hin88 hat88 (g := (mkF m 13 #[.val (.ref o0), .val (.int (18 : Int32))] [(.int (18 : Int32)), (.ref r1)])) rfl rfl (hb hby d8_13) _ ?_
                                        exact kt)
                                    by_cases hc14_90 : (F1 18) = (0 : Int32)
                                    · obtain ⟨fs, hr, hrun, hended, hW, hsame⟩ := X87.leave (v := some (.int (18 : Int32))) (fun h => by rw [Bd.returns] at h; cases h)
                                      have hv114 : (f8 F1) = (18 : Int32) := by rw [f8, if_neg hc14_5, if_neg hc14_10, if_neg hc14_15, if_neg hc14_20, if_neg hc14_25, if_neg hc14_30, if_neg hc14_35, if_neg hc14_40, if_neg hc14_45, if_neg hc14_50, if_neg hc14_55, if_neg hc14_60, if_neg hc14_65, if_neg hc14_70, if_neg hc14_75, if_neg hc14_80, if_neg hc14_85, if_pos hc14_90]
                                      refine ⟨_, _, pre89 _ ?_, hrun, hended, _, _, rfl, ?_, ⟨_, rfl⟩, hW, hsame.mono (by decide) (by decide)⟩
                                      · show Steps p.tables e below (T87.setTop (mkF m 14 #[.val (.ref o0), .val (.int (18 : Int32))] [(.int (F1 18))])) _
                                        refine XS.ifYes X87.here hx rfl (pc0 := 14) (pc' := 23) rfl (hb hby d8_14) rfl ((if0 _ _).trans (teq hc14_90).1) (by decide) (by decide) ?_
                                        show Steps p.tables e below (T87.setTop (mkF m 23 #[.val (.ref o0), .val (.int (18 : Int32))] [])) _
                                        refine XS.iloadN X87.here hx rfl (hb hby d8_23) rfl ?_
                                        show Steps p.tables e below (T87.setTop (mkF m 24 #[.val (.ref o0), .val (.int (18 : Int32))] [(.int (18 : Int32))])) _
                                        exact retI X87 hx Bd.returns (hb hby d8_24) hr
                                      · show Q8 Z o0 r1 F1 h0 n0 _ T87.heap _
                                        rw [e87]
                                        exact ⟨congrArg (fun q => some (Value.int q)) hv114.symm, N0, rfl⟩
                                    · have pre91 : ∀ t, Steps p.tables e below (T87.setTop (mkF m 5 #[.val (.ref o0), .val (.int (19 : Int32))] [(.int (20 : Int32)), (.int (19 : Int32))])) t → Steps p.tables e below (s₁.setTop (entryFrame m #[(.ref o0)] 2)) t := fun t kt => pre89 t (by
                                          show Steps p.tables e below (T87.setTop (mkF m 14 #[.val (.ref o0), .val (.int (18 : Int32))] [(.int (F1 18))])) _
                                          refine XS.ifNo X87.here hx rfl (hb hby d8_14) rfl ((if0 _ _).trans (feq hc14_90).1) ?_
                                          show Steps p.tables e below (T87.setTop (mkF m 17 #[.val (.ref o0), .val (.int (18 : Int32))] [])) _
                                          refine XS.iinc X87.here hx rfl (hb hby d8_17) rfl (l' := #[.val (.ref o0), .val (.int (19 : Int32))]) rfl ?_
                                          show Steps p.tables e below (T87.setTop (mkF m 20 #[.val (.ref o0), .val (.int (19 : Int32))] [])) _
                                          refine XS.goto X87.here hx rfl (pc0 := 20) (pc' := 2) rfl (hb hby d8_20) (by decide) (by decide) ?_
                                          show Steps p.tables e below (T87.setTop (mkF m 2 #[.val (.ref o0), .val (.int (19 : Int32))] [])) _
                                          refine XS.iloadN X87.here hx rfl (hb hby d8_2) rfl ?_
                                          show Steps p.tables e below (T87.setTop (mkF m 3 #[.val (.ref o0), .val (.int (19 : Int32))] [(.int (19 : Int32))])) _
                                          refine XS.bipush X87.here hx rfl (hb hby d8_3) ?_
                                          exact kt)
                                      obtain ⟨T92, X92, e92, st92⟩ := getF X87 hx hZ hown (host := "") (Or.inl (hw _ (List.mem_of_getElem? (i := 15) rfl))) Via.refl e87 F_open_o0 (g := (mkF m 9 #[.val (.ref o0), .val (.int (19 : Int32))] [(.ref o0)])) rfl rfl (hb hby d8_9)
                                      obtain ⟨cl93, Ar93, Sz93, Nn93, Hs93⟩ := id V_r1
                                      have hin93 : ¬ ((19 : Int32) < 0 ∨ cl93.slots.size ≤ ((19 : Int32)).toNatClampNeg) := inb_of Sz93 ⟨by decide, by decide⟩
                                      have hat93 : cl93.slots[((19 : Int32)).toNatClampNeg]? = some (.int (F1 19)) := (Hs93 _ (own_lt hin93)).1
                                      have pre94 : ∀ t, Steps p.tables e below (T92.setTop (mkF m 14 #[.val (.ref o0), .val (.int (19 : Int32))] [(.int (F1 19))])) t → Steps p.tables e below (s₁.setTop (entryFrame m #[(.ref o0)] 2)) t := fun t kt => pre91 t (by
                                          show Steps p.tables e below (T87.setTop (mkF m 5 #[.val (.ref o0), .val (.int (19 : Int32))] [(.int (20 : Int32)), (.int (19 : Int32))])) _
                                          refine XS.icmpNo X87.here hx rfl (hb hby d8_5) rfl (tlt (by decide : ((19 : Int32) < (20 : Int32)))).2.1 ?_
                                          show Steps p.tables e below (T87.setTop (mkF m 8 #[.val (.ref o0), .val (.int (19 : Int32))] [])) _
                                          refine XS.aloadN X87.here hx rfl (hb hby d8_8) rfl rfl ?_
                                          show Steps p.tables e below (T87.setTop (mkF m 9 #[.val (.ref o0), .val (.int (19 : Int32))] [(.ref o0)])) _
                                          refine st92 _ ?_
                                          show Steps p.tables e below (T92.setTop (mkF m 12 #[.val (.ref o0), .val (.int (19 : Int32))] [(.ref r1)])) _
                                          refine XS.iloadN X92.here hx rfl (hb hby d8_12) rfl ?_
                                          show Steps p.tables e below (T92.setTop (mkF m 13 #[.val (.ref o0), .val (.int (19 : Int32))] [(.int (19 : Int32)), (.ref r1)])) _
                                          refine X92.baloadBooleans hx (j := (19 : Int32)) (v := (.int (F1 19))) (by rw [e92]; exact Ar93.1) (State.isArrayOf_alike hZ.alike Ar93.2.1) Ar93.2.2 hin93 hat93 (g := (mkF m 13 #[.val (.ref o0), .val (.int (19 : Int32))] [(.int (19 : Int32)), (.ref r1)])) rfl rfl (hb hby d8_13) _ ?_
                                          exact kt)
                                      by_cases hc14_95 : (F1 19) = (0 : Int32)
                                      · obtain ⟨fs, hr, hrun, hended, hW, hsame⟩ := X92.leave (v := some (.int (19 : Int32))) (fun h => by rw [Bd.returns] at h; cases h)
                                        have hv115 : (f8 F1) = (19 : Int32) := by rw [f8, if_neg hc14_5, if_neg hc14_10, if_neg hc14_15, if_neg hc14_20, if_neg hc14_25, if_neg hc14_30, if_neg hc14_35, if_neg hc14_40, if_neg hc14_45, if_neg hc14_50, if_neg hc14_55, if_neg hc14_60, if_neg hc14_65, if_neg hc14_70, if_neg hc14_75, if_neg hc14_80, if_neg hc14_85, if_neg hc14_90, if_pos hc14_95]
                                        refine ⟨_, _, pre94 _ ?_, hrun, hended, _, _, rfl, ?_, ⟨_, rfl⟩, hW, hsame.mono (by decide) (by decide)⟩
                                        · show Steps p.tables e below (T92.setTop (mkF m 14 #[.val (.ref o0), .val (.int (19 : Int32))] [(.int (F1 19))])) _
                                          refine XS.ifYes X92.here hx rfl (pc0 := 14) (pc' := 23) rfl (hb hby d8_14) rfl ((if0 _ _).trans (teq hc14_95).1) (by decide) (by decide) ?_
                                          show Steps p.tables e below (T92.setTop (mkF m 23 #[.val (.ref o0), .val (.int (19 : Int32))] [])) _
                                          refine XS.iloadN X92.here hx rfl (hb hby d8_23) rfl ?_
                                          show Steps p.tables e below (T92.setTop (mkF m 24 #[.val (.ref o0), .val (.int (19 : Int32))] [(.int (19 : Int32))])) _
                                          exact retI X92 hx Bd.returns (hb hby d8_24) hr
                                        · show Q8 Z o0 r1 F1 h0 n0 _ T92.heap _
                                          rw [e92]
                                          exact ⟨congrArg (fun q => some (Value.int q)) hv115.symm, N0, rfl⟩
                                      · have pre96 : ∀ t, Steps p.tables e below (T92.setTop (mkF m 5 #[.val (.ref o0), .val (.int (20 : Int32))] [(.int (20 : Int32)), (.int (20 : Int32))])) t → Steps p.tables e below (s₁.setTop (entryFrame m #[(.ref o0)] 2)) t := fun t kt => pre94 t (by
                                            show Steps p.tables e below (T92.setTop (mkF m 14 #[.val (.ref o0), .val (.int (19 : Int32))] [(.int (F1 19))])) _
                                            refine XS.ifNo X92.here hx rfl (hb hby d8_14) rfl ((if0 _ _).trans (feq hc14_95).1) ?_
                                            show Steps p.tables e below (T92.setTop (mkF m 17 #[.val (.ref o0), .val (.int (19 : Int32))] [])) _
                                            refine XS.iinc X92.here hx rfl (hb hby d8_17) rfl (l' := #[.val (.ref o0), .val (.int (20 : Int32))]) rfl ?_
                                            show Steps p.tables e below (T92.setTop (mkF m 20 #[.val (.ref o0), .val (.int (20 : Int32))] [])) _
                                            refine XS.goto X92.here hx rfl (pc0 := 20) (pc' := 2) rfl (hb hby d8_20) (by decide) (by decide) ?_
                                            show Steps p.tables e below (T92.setTop (mkF m 2 #[.val (.ref o0), .val (.int (20 : Int32))] [])) _
                                            refine XS.iloadN X92.here hx rfl (hb hby d8_2) rfl ?_
                                            show Steps p.tables e below (T92.setTop (mkF m 3 #[.val (.ref o0), .val (.int (20 : Int32))] [(.int (20 : Int32))])) _
                                            refine XS.bipush X92.here hx rfl (hb hby d8_3) ?_
                                            exact kt)
                                        obtain ⟨fs, hr, hrun, hended, hW, hsame⟩ := X92.leave (v := some (.int (20 : Int32))) (fun h => by rw [Bd.returns] at h; cases h)
                                        have hv116 : (f8 F1) = (20 : Int32) := by rw [f8, if_neg hc14_5, if_neg hc14_10, if_neg hc14_15, if_neg hc14_20, if_neg hc14_25, if_neg hc14_30, if_neg hc14_35, if_neg hc14_40, if_neg hc14_45, if_neg hc14_50, if_neg hc14_55, if_neg hc14_60, if_neg hc14_65, if_neg hc14_70, if_neg hc14_75, if_neg hc14_80, if_neg hc14_85, if_neg hc14_90, if_neg hc14_95]
                                        refine ⟨_, _, pre96 _ ?_, hrun, hended, _, _, rfl, ?_, ⟨_, rfl⟩, hW, hsame.mono (by decide) (by decide)⟩
                                        · show Steps p.tables e below (T92.setTop (mkF m 5 #[.val (.ref o0), .val (.int (20 : Int32))] [(.int (20 : Int32)), (.int (20 : Int32))])) _
                                          refine XS.icmpYes X92.here hx rfl (pc0 := 5) (pc' := 23) rfl (hb hby d8_5) rfl (flt (by decide : ¬ ((20 : Int32) < (20 : Int32)))).2.1 (by decide) (by decide) ?_
                                          show Steps p.tables e below (T92.setTop (mkF m 23 #[.val (.ref o0), .val (.int (20 : Int32))] [])) _
                                          refine XS.iloadN X92.here hx rfl (hb hby d8_23) rfl ?_
                                          show Steps p.tables e below (T92.setTop (mkF m 24 #[.val (.ref o0), .val (.int (20 : Int32))] [(.int (20 : Int32))])) _
                                          exact retI X92 hx Bd.returns (hb hby d8_24) hr
                                        · show Q8 Z o0 r1 F1 h0 n0 _ T92.heap _
                                          rw [e92]
                                          exact ⟨congrArg (fun q => some (Value.int q)) hv116.symm, N0, rfl⟩
theorem pn_0 : plainName "com/example/cardhost/cardhost/LogicalChannelsResetPinLaw" = true := by first | (simp [plainName, overriddenIn]; done) | decide +kernel
theorem pd_0_0 : parseMethodDescriptor "(I)I" = some ⟨[.int], some .int⟩ := by decide +kernel
theorem pd_0_1 : parseMethodDescriptor "()V" = some ⟨[], none⟩ := by decide +kernel
theorem pd_0_2 : parseMethodDescriptor "(I)V" = some ⟨[.int], none⟩ := by decide +kernel
theorem pd_0_3 : parseMethodDescriptor "(I)Z" = some ⟨[.int], some .boolean⟩ := by decide +kernel
theorem pd_0_4 : parseMethodDescriptor "()I" = some ⟨[], some .int⟩ := by decide +kernel
theorem ef_0 (m : MethodId) (x0 : Int32) (x1 : Int32) (x2 : Int32) (x3 : Int32) (x4 : Int32) (x5 : Int32) : entryFrame m #[(.int x0), (.int x1), (.int x2), (.int x3), (.int x4), (.int x5)] maxLocals = mkF m 0 #[.val (.int x0), .val (.int x1), .val (.int x2), .val (.int x3), .val (.int x4), .val (.int x5), .unset, .unset, .unset, .unset, .unset, .unset, .unset, .unset, .unset] [] := by first | (simp [entryFrame, mkF, argsToLocals, Value.category, maxLocals]; done) | rfl
theorem own_ch (x : Int32) : ¬ (f1 x) < 0 ∧ (f1 x) < (20 : Int32) := own_idx x
theorem own_cl (x : Int32) : ¬ ((1 : Int32) + (((x.toUInt32 >>> ((2 : Int32) &&& 31).toUInt32).toInt32) - (((x.toUInt32 >>> ((2 : Int32) &&& 31).toUInt32).toInt32) / (19 : Int32)) * (19 : Int32))) < 0 ∧ ((1 : Int32) + (((x.toUInt32 >>> ((2 : Int32) &&& 31).toUInt32).toInt32) - (((x.toUInt32 >>> ((2 : Int32) &&& 31).toUInt32).toInt32) / (19 : Int32)) * (19 : Int32))) < (20 : Int32) := by
  have h1 : ((x.toUInt32 >>> ((2 : Int32) &&& 31).toUInt32).toInt32).toInt = (x.toInt % 4294967296) / 4 := c_iushr x 2 2 (by decide) (by decide)
  have h2 := (c_irem ((x.toUInt32 >>> ((2 : Int32) &&& 31).toUInt32).toInt32) 19 19 (by decide)).1 (by omega)
  rw [irem_eq_mod]
  generalize ((x.toUInt32 >>> ((2 : Int32) &&& 31).toUInt32).toInt32) = u at *
  have h3 := c_iadd 1 (u % 19)
  have h4 := rng32 (1 + u % 19)
  have e1 : (1 : Int32).toInt = 1 := by decide
  have e0 : (0 : Int32).toInt = 0 := by decide
  have e20 : (20 : Int32).toInt = 20 := by decide
  rw [e1] at h3
  rw [Int32.lt_iff_toInt_lt, Int32.lt_iff_toInt_lt, e0, e20]
  omega
theorem own_rs (F : Nat → Int32) (i : Nat) (hi : i < 20) : f6_r1_a F i = if i = 0 then 1 else 0 := by
  have hc : i = 0 ∨ i = 1 ∨ i = 2 ∨ i = 3 ∨ i = 4 ∨ i = 5 ∨ i = 6 ∨ i = 7 ∨ i = 8 ∨ i = 9 ∨ i = 10 ∨ i = 11 ∨ i = 12 ∨ i = 13 ∨ i = 14 ∨ i = 15 ∨ i = 16 ∨ i = 17 ∨ i = 18 ∨ i = 19 := by omega
  rcases hc with rfl | rfl | rfl | rfl | rfl | rfl | rfl | rfl | rfl | rfl | rfl | rfl | rfl | rfl | rfl | rfl | rfl | rfl | rfl | rfl <;> rfl
theorem own_nat {x : Int32} (hx : ¬ x < 0 ∧ x < (20 : Int32)) : x.toNatClampNeg < 20 ∧ (x.toNatClampNeg = 0 ↔ x = 0) := by
  have e0 : (0 : Int32).toInt = 0 := by decide
  have e20 : (20 : Int32).toInt = 20 := by decide
  rw [Int32.lt_iff_toInt_lt, Int32.lt_iff_toInt_lt, e0, e20] at hx
  rw [← Int32.toInt_inj, e0]
  unfold Int32.toNatClampNeg
  omega
theorem own_is0 (F : Nat → Int32) {x : Int32} (hx : ¬ x < 0 ∧ x < (20 : Int32)) (h : x = 0) : nar .boolean (f6_r1_a F x.toNatClampNeg) = 1 := by
  rw [own_rs F _ (own_nat hx).1, if_pos ((own_nat hx).2.mpr h)]; rfl
theorem own_is1 (F : Nat → Int32) {x : Int32} (hx : ¬ x < 0 ∧ x < (20 : Int32)) (h : ¬ x = 0) : nar .boolean (f6_r1_a F x.toNatClampNeg) = 0 := by
  rw [own_rs F _ (own_nat hx).1, if_neg (fun q => h ((own_nat hx).2.mp q))]; rfl
theorem own_lc (F : Nat → Int32) : f8 (f6_r1_a F) = 1 := by
  unfold f8
  rw [if_pos]
  rw [own_rs F 1 (by decide), if_neg (by decide)]
def Q0 (Z : State) (p0 : Int32) (p1 : Int32) (p2 : Int32) (p3 : Int32) (p4 : Int32) (p5 : Int32) (h0 : Heap) (n0 : Nat) (v : Option Value) (h : Heap) (L : List Loc) : Prop := v = some (.int (1 : Int32)) ∧ Fr n0 L
set_option maxRecDepth 65536 in
set_option maxHeartbeats 40000000 in
theorem rm0 (l : Launch) (Z : State) (a0 : Array Value) (hw : ∀ d ∈ tables_1, d.before a0 Z = true) (ws : List Jvm.Cond) (p0 : Int32) (p1 : Int32) (p2 : Int32) (p3 : Int32) (p4 : Int32) (p5 : Int32) (h0 : Heap) (n0 : Nat) (Z0 : n0 ≤ h0.size) :
    MetFree l x (head1 (Jvm.Cond.code x code maxLocals ret :: ws) room_1) (fun a U => a = #[(.int p0), (.int p1), (.int p2), (.int p3), (.int p4), (.int p5)] ∧ Z.Warmed39 U.vm ∧ U.heap = h0) (fun _ _ _ _ _ => True) (fun _ U o U' => ∃ v L, o = .returned v ∧ Q0 Z p0 p1 p2 p3 p4 p5 h0 n0 v U'.heap L ∧ FrameEnd U o U' L room_1.cells room_1.slots) := by
  refine MetFree.of_bodySF (plainFor_of_name pn_0) hisR ?_
  intro p e s m args below meth c s₁ Bd hml0 hP hK
  obtain ⟨rfl, hZ, hh⟩ := hP
  have hx := Bd.exec
  have hby := Bd.bytes
  have hml : c.maxLocals = 15 := hml0
  have hown : s.vm.findClass "com/example/cardhost/cardhost/LogicalChannelsResetPinLaw" = some m.cls := findClass_of_methodNamed Bd.named
  have hnm := (name_of_methodNamed Bd.named Bd.method).1
  have X0 : Stand p l e room_1 s m #[(.int p0), (.int p1), (.int p2), (.int p3), (.int p4), (.int p5)] below meth c s₁ [] 0 0 := Stand.of_body Bd
  have e0 : s₁.heap = h0 := by rw [← hh, Bd.state]; rfl
  have N0 := Fr.nil n0
  have pre0 : ∀ t, Steps p.tables e below (s₁.setTop (mkF m 0 #[.val (.int p0), .val (.int p1), .val (.int p2), .val (.int p3), .val (.int p4), .val (.int p5), .unset, .unset, .unset, .unset, .unset, .unset, .unset, .unset, .unset] [])) t → Steps p.tables e below (s₁.setTop (entryFrame m #[(.int p0), (.int p1), (.int p2), (.int p3), (.int p4), (.int p5)] maxLocals)) t := fun t k => castTop (ef_0 m p0 p1 p2 p3 p4 p5) k
  obtain ⟨_, _, ⟨T1, L1, k1, n1⟩, -, X1, ⟨Lc1, hQ1, l1, y1, z1⟩, st1⟩ := Jvm.LawKit.callS X0 hx (y := (⟨"com/example/cardhost/cardhost/LogicalChannelsResetPinLaw", "channelOf", "(I)I"⟩ : MethodName)) hown (mvT hZ (hw _ (List.mem_of_getElem? (i := 0) rfl))) (mvT hZ (hw _ (List.mem_of_getElem? (i := 1) rfl))) (mvT hZ (hw _ (List.mem_of_getElem? (i := 2) rfl))) (mvT hZ (hw _ (List.mem_of_getElem? (i := 3) rfl))) (by decide) (backOf (W := 0) (rm1 l Z a0 hw [] p0 h0 n0 Z0 ) hZ (hw _ (List.mem_of_getElem? (i := 3) rfl)) (hw _ (List.mem_of_getElem? (i := 2) rfl)) (by decide) (by decide)) (g := (mkF m 1 #[.val (.int p0), .val (.int p1), .val (.int p2), .val (.int p3), .val (.int p4), .val (.int p5), .unset, .unset, .unset, .unset, .unset, .unset, .unset, .unset, .unset] [(.int p0)])) rfl (by rw [hml]; rfl) (argsL := [(.int p0)]) (rest := []) (lenOf pd_0_0 rfl) rfl (by show 2 * 0 + _ ≤ _; exact Nat.le_of_eq rfl) (hb hby at_1) (fun _ _ => ⟨rfl, e0, (by decide : 0 + 0 ≤ _), (by decide : 0 + 0 ≤ _)⟩)
  dsimp only [Pt.U, Pt.locs, Pt.cells, Pt.slots] at X1 l1 y1 z1 st1 hQ1
  subst l1 y1 z1
  obtain ⟨rfl, N1q, e1q⟩ := hQ1
  have N1 := Fr.app N0 N1q
  obtain ⟨_, _, ⟨T2, L2, k2, n2⟩, -, X2, ⟨Lc2, hQ2, l2, y2, z2⟩, st2⟩ := Jvm.LawKit.callS X1 hx (y := (⟨"com/example/cardhost/cardhost/LogicalChannelsResetPinLaw", "channelOf", "(I)I"⟩ : MethodName)) hown (mvT hZ (hw _ (List.mem_of_getElem? (i := 0) rfl))) (mvT hZ (hw _ (List.mem_of_getElem? (i := 1) rfl))) (mvT hZ (hw _ (List.mem_of_getElem? (i := 2) rfl))) (mvT hZ (hw _ (List.mem_of_getElem? (i := 3) rfl))) (by decide) (backOf (W := 0) (rm1 l Z a0 hw [] p1 h0 n0 Z0 ) hZ (hw _ (List.mem_of_getElem? (i := 3) rfl)) (hw _ (List.mem_of_getElem? (i := 2) rfl)) (by decide) (by decide)) (g := (mkF m 7 #[.val (.int p0), .val (.int p1), .val (.int p2), .val (.int p3), .val (.int p4), .val (.int p5), .val (.int (f1 p0)), .unset, .unset, .unset, .unset, .unset, .unset, .unset, .unset] [(.int p1)])) rfl (by rw [hml]; rfl) (argsL := [(.int p1)]) (rest := []) (lenOf pd_0_0 rfl) rfl (by show 2 * 0 + _ ≤ _; exact Nat.le_of_eq rfl) (hb hby at_7) (fun _ _ => ⟨rfl, e1q, (by decide : 0 + 0 ≤ _), (by decide : 0 + 0 ≤ _)⟩)
  dsimp only [Pt.U, Pt.locs, Pt.cells, Pt.slots] at X2 l2 y2 z2 st2 hQ2
  subst l2 y2 z2
  obtain ⟨rfl, N2q, e2q⟩ := hQ2
  have N2 := Fr.app N1 N2q
  obtain ⟨_, _, ⟨T3, L3, k3, n3⟩, -, X3, ⟨Lc3, hQ3, l3, y3, z3⟩, st3⟩ := Jvm.LawKit.callS X2 hx (y := (⟨"com/example/cardhost/cardhost/LogicalChannelsResetPinLaw", "channelOf", "(I)I"⟩ : MethodName)) hown (mvT hZ (hw _ (List.mem_of_getElem? (i := 0) rfl))) (mvT hZ (hw _ (List.mem_of_getElem? (i := 1) rfl))) (mvT hZ (hw _ (List.mem_of_getElem? (i := 2) rfl))) (mvT hZ (hw _ (List.mem_of_getElem? (i := 3) rfl))) (by decide) (backOf (W := 0) (rm1 l Z a0 hw [] p2 h0 n0 Z0 ) hZ (hw _ (List.mem_of_getElem? (i := 3) rfl)) (hw _ (List.mem_of_getElem? (i := 2) rfl)) (by decide) (by decide)) (g := (mkF m 13 #[.val (.int p0), .val (.int p1), .val (.int p2), .val (.int p3), .val (.int p4), .val (.int p5), .val (.int (f1 p0)), .val (.int (f1 p1)), .unset, .unset, .unset, .unset, .unset, .unset, .unset] [(.int p2)])) rfl (by rw [hml]; rfl) (argsL := [(.int p2)]) (rest := []) (lenOf pd_0_0 rfl) rfl (by show 2 * 0 + _ ≤ _; exact Nat.le_of_eq rfl) (hb hby at_13) (fun _ _ => ⟨rfl, e2q, (by decide : 0 + 0 ≤ _), (by decide : 0 + 0 ≤ _)⟩)
  dsimp only [Pt.U, Pt.locs, Pt.cells, Pt.slots] at X3 l3 y3 z3 st3 hQ3
  subst l3 y3 z3
  obtain ⟨rfl, N3q, e3q⟩ := hQ3
  have N3 := Fr.app N2 N3q
  obtain ⟨_, _, ⟨T4, L4, k4, n4⟩, -, X4, ⟨Lc4, hQ4, l4, y4, z4⟩, st4⟩ := Jvm.LawKit.callS X3 hx (y := (⟨"com/example/cardhost/cardhost/LogicalChannelsResetPinLaw", "channelOf", "(I)I"⟩ : MethodName)) hown (mvT hZ (hw _ (List.mem_of_getElem? (i := 0) rfl))) (mvT hZ (hw _ (List.mem_of_getElem? (i := 1) rfl))) (mvT hZ (hw _ (List.mem_of_getElem? (i := 2) rfl))) (mvT hZ (hw _ (List.mem_of_getElem? (i := 3) rfl))) (by decide) (backOf (W := 0) (rm1 l Z a0 hw [] p3 h0 n0 Z0 ) hZ (hw _ (List.mem_of_getElem? (i := 3) rfl)) (hw _ (List.mem_of_getElem? (i := 2) rfl)) (by decide) (by decide)) (g := (mkF m 19 #[.val (.int p0), .val (.int p1), .val (.int p2), .val (.int p3), .val (.int p4), .val (.int p5), .val (.int (f1 p0)), .val (.int (f1 p1)), .val (.int (f1 p2)), .unset, .unset, .unset, .unset, .unset, .unset] [(.int p3)])) rfl (by rw [hml]; rfl) (argsL := [(.int p3)]) (rest := []) (lenOf pd_0_0 rfl) rfl (by show 2 * 0 + _ ≤ _; exact Nat.le_of_eq rfl) (hb hby at_19) (fun _ _ => ⟨rfl, e3q, (by decide : 0 + 0 ≤ _), (by decide : 0 + 0 ≤ _)⟩)
  dsimp only [Pt.U, Pt.locs, Pt.cells, Pt.slots] at X4 l4 y4 z4 st4 hQ4
  subst l4 y4 z4
  obtain ⟨rfl, N4q, e4q⟩ := hQ4
  have N4 := Fr.app N3 N4q
  obtain ⟨_, _, ⟨T5, L5, k5, n5⟩, -, X5, ⟨Lc5, hQ5, l5, y5, z5⟩, st5⟩ := Jvm.LawKit.callS X4 hx (y := (⟨"com/example/cardhost/cardhost/LogicalChannelsResetPinLaw", "channelOf", "(I)I"⟩ : MethodName)) hown (mvT hZ (hw _ (List.mem_of_getElem? (i := 0) rfl))) (mvT hZ (hw _ (List.mem_of_getElem? (i := 1) rfl))) (mvT hZ (hw _ (List.mem_of_getElem? (i := 2) rfl))) (mvT hZ (hw _ (List.mem_of_getElem? (i := 3) rfl))) (by decide) (backOf (W := 0) (rm1 l Z a0 hw [] p4 h0 n0 Z0 ) hZ (hw _ (List.mem_of_getElem? (i := 3) rfl)) (hw _ (List.mem_of_getElem? (i := 2) rfl)) (by decide) (by decide)) (g := (mkF m 26 #[.val (.int p0), .val (.int p1), .val (.int p2), .val (.int p3), .val (.int p4), .val (.int p5), .val (.int (f1 p0)), .val (.int (f1 p1)), .val (.int (f1 p2)), .val (.int (f1 p3)), .unset, .unset, .unset, .unset, .unset] [(.int p4)])) rfl (by rw [hml]; rfl) (argsL := [(.int p4)]) (rest := []) (lenOf pd_0_0 rfl) rfl (by show 2 * 0 + _ ≤ _; exact Nat.le_of_eq rfl) (hb hby at_26) (fun _ _ => ⟨rfl, e4q, (by decide : 0 + 0 ≤ _), (by decide : 0 + 0 ≤ _)⟩)
  dsimp only [Pt.U, Pt.locs, Pt.cells, Pt.slots] at X5 l5 y5 z5 st5 hQ5
  subst l5 y5 z5
  obtain ⟨rfl, N5q, e5q⟩ := hQ5
  have N5 := Fr.app N4 N5q
  obtain ⟨T6, h6, X6, e6, E6, A6, D6, -, st6⟩ := newO X5 hx hZ hown (hw _ (List.mem_of_getElem? (i := 5) rfl)) (hw _ (List.mem_of_getElem? (i := 6) rfl)) (hw _ (List.mem_of_getElem? (i := 7) rfl)) e5q (g := (mkF m 31 #[.val (.int p0), .val (.int p1), .val (.int p2), .val (.int p3), .val (.int p4), .val (.int p5), .val (.int (f1 p0)), .val (.int (f1 p1)), .val (.int (f1 p2)), .val (.int (f1 p3)), .val (.int (f1 p4)), .unset, .unset, .unset, .unset] [])) rfl (hb hby at_31) (by decide) (by decide)
  obtain ⟨b6, g6⟩ : ∃ z, z = h0.size := ⟨_, rfl⟩
  rw [← g6] at A6 D6 st6
  have g_b6 : n0 ≤ b6 := Nat.le_trans Z0 (Nat.le_of_eq g6.symm)
  have sz_b6 : h0.size ≤ b6 := Nat.le_trans (Keep.refl h0 []).1 (Nat.le_of_eq g6.symm)
  have K7 : Keep h0 h6 [] := (Keep.refl h0 []).ext E6
  have Z8 : n0 ≤ h6.size := Nat.le_trans Z0 K7.1
  have E_b6 := A6
  have F_open_b6 : Fld Z h6 b6 "com/example/cardhost/cardhost/LogicalChannels" "open" "[Z" .null := D6 (Or.inr (hw _ (List.mem_of_getElem? (i := 16) rfl))) (ty := (.array .boolean)) (by decide)
  have F_active_b6 : Fld Z h6 b6 "com/example/cardhost/cardhost/LogicalChannels" "active" "[Lcom/example/cardhost/cardhost/InstalledApplet;" .null := D6 (Or.inr (hw _ (List.mem_of_getElem? (i := 20) rfl))) (ty := (.array (.object "com/example/cardhost/cardhost/InstalledApplet"))) (by decide)
  have F_defaults_b6 : Fld Z h6 b6 "com/example/cardhost/cardhost/LogicalChannels" "defaults" "[Lcom/example/cardhost/cardhost/InstalledApplet;" .null := D6 (Or.inr (hw _ (List.mem_of_getElem? (i := 22) rfl))) (ty := (.array (.object "com/example/cardhost/cardhost/InstalledApplet"))) (by decide)
  obtain ⟨_, _, ⟨T9, L9, k9, n9⟩, -, X9, ⟨Lc9, hQ9, l9, y9, z9⟩, st9⟩ := X6.specialBack hx (y := (⟨"com/example/cardhost/cardhost/LogicalChannels", "<init>", "()V"⟩ : MethodName)) rfl hown (mvT hZ (hw _ (List.mem_of_getElem? (i := 8) rfl))) (mvT hZ (hw _ (List.mem_of_getElem? (i := 9) rfl))) (mvT hZ (hw _ (List.mem_of_getElem? (i := 10) rfl))) (by decide) (backOf (W := 1) (rm2 l Z a0 hw [] b6 h6 n0 Z8 E_b6 F_open_b6 g_b6 F_active_b6 F_defaults_b6) hZ (hw _ (List.mem_of_getElem? (i := 10) rfl)) (hw _ (List.mem_of_getElem? (i := 7) rfl)) (by decide) (by decide)) (g := (mkF m 35 #[.val (.int p0), .val (.int p1), .val (.int p2), .val (.int p3), .val (.int p4), .val (.int p5), .val (.int (f1 p0)), .val (.int (f1 p1)), .val (.int (f1 p2)), .val (.int (f1 p3)), .val (.int (f1 p4)), .unset, .unset, .unset, .unset] [(.ref b6), (.ref b6)])) rfl (by rw [hml]; rfl) (Steps.refl _) (a := b6) (argsL := []) (rest := [(.ref b6)]) (lenOf pd_0_1 rfl) rfl (by show 2 * 0 + _ ≤ _; exact Nat.le_of_eq rfl) (hb hby at_35) (fun _ _ => ⟨rfl, e6, (by decide : 1 + 3 ≤ _), (by decide : 3 + 60 ≤ _)⟩)
  dsimp only [Pt.U, Pt.locs, Pt.cells, Pt.slots] at X9 l9 y9 z9 st9 hQ9
  subst l9 y9 z9
  obtain ⟨r_o0_open_9, r_o0_active_9, r_o0_defaults_9, rfl, N9q, K9q, g_r_o0_open_9, szq_r_o0_open_9, g_r_o0_active_9, szq_r_o0_active_9, ne_r_o0_open_9_r_o0_active_9, g_r_o0_defaults_9, szq_r_o0_defaults_9, ne_r_o0_open_9_r_o0_defaults_9, ne_r_o0_active_9_r_o0_defaults_9, G9_0, G9_1, G9_2, G9_3, G9_4, G9_5⟩ := hQ9
  have N9 := Fr.app N5 N9q
  have ne_b6_r_o0_open_9 : b6 ≠ r_o0_open_9 := Nat.ne_of_lt (Nat.lt_of_lt_of_le E_b6.lt szq_r_o0_open_9)
  have sz_r_o0_open_9 : h0.size ≤ r_o0_open_9 := Nat.le_trans K7.1 szq_r_o0_open_9
  have ne_b6_r_o0_active_9 : b6 ≠ r_o0_active_9 := Nat.ne_of_lt (Nat.lt_of_lt_of_le E_b6.lt szq_r_o0_active_9)
  have sz_r_o0_active_9 : h0.size ≤ r_o0_active_9 := Nat.le_trans K7.1 szq_r_o0_active_9
  have ne_b6_r_o0_defaults_9 : b6 ≠ r_o0_defaults_9 := Nat.ne_of_lt (Nat.lt_of_lt_of_le E_b6.lt szq_r_o0_defaults_9)
  have sz_r_o0_defaults_9 : h0.size ≤ r_o0_defaults_9 := Nat.le_trans K7.1 szq_r_o0_defaults_9
  have K10 : Keep h0 T9.heap [] := K7.trans K9q (allS (Or.inr sz_b6) all0)
  have Z11 : n0 ≤ T9.heap.size := Nat.le_trans Z0 K10.1
  obtain ⟨LS9, X9, N9⟩ : ∃ L, Stand p l e room_1 s m #[(.int p0), (.int p1), (.int p2), (.int p3), (.int p4), (.int p5)] below meth c T9 L 4 63 ∧ Fr n0 L := ⟨_, X9, N9⟩
  obtain ⟨cq12, kq12, q12a, q12b, q12c⟩ := isOf hZ rfl (E_b6.keep K9q)
  obtain ⟨_, _, ⟨T12, L12, k12, n12⟩, -, X12, ⟨Lc12, hQ12, l12, y12, z12⟩, st12⟩ := X9.virtualBack hx (y := (⟨"com/example/cardhost/cardhost/LogicalChannels", "open", "(I)V"⟩ : MethodName)) (z := (⟨"com/example/cardhost/cardhost/LogicalChannels", "open", "(I)V"⟩ : MethodName)) hown (mvT hZ (hw _ (List.mem_of_getElem? (i := 23) rfl))) (mvT hZ (hw _ (List.mem_of_getElem? (i := 24) rfl))) (notFace_of_selects (args := #[]) (mvT hZ (hw _ (List.mem_of_getElem? (i := 26) rfl)))) (mvT hZ (hw _ (List.mem_of_getElem? (i := 26) rfl))) (mvT hZ (hw _ (List.mem_of_getElem? (i := 25) rfl))) (by decide) (backOf (W := 0) (rm4 l Z a0 hw [] b6 (f1 p0) r_o0_open_9 (own_upd (fun _ => 0) 0 (1 : Int32)) T9.heap n0 Z11 G9_0 G9_1 g_r_o0_open_9 (own_ch _)) hZ (hw _ (List.mem_of_getElem? (i := 27) rfl)) (hw _ (List.mem_of_getElem? (i := 7) rfl)) (by decide) (by decide)) q12a q12c (g := (mkF m 44 #[.val (.int p0), .val (.int p1), .val (.int p2), .val (.int p3), .val (.int p4), .val (.int p5), .val (.int (f1 p0)), .val (.int (f1 p1)), .val (.int (f1 p2)), .val (.int (f1 p3)), .val (.int (f1 p4)), .val (.ref b6), .unset, .unset, .unset] [(.int (f1 p0)), (.ref b6)])) rfl (by rw [hml]; rfl) (Steps.refl _) (argsL := [(.int (f1 p0))]) (rest := []) (lenOf pd_0_2 rfl) rfl (by show 2 * 0 + _ ≤ _; exact Nat.le_of_eq rfl) (hb hby at_44) (fun _ _ => ⟨rfl, rfl, (by decide : 4 + 0 ≤ _), (by decide : 63 + 0 ≤ _)⟩)
  dsimp only [Pt.U, Pt.locs, Pt.cells, Pt.slots] at X12 l12 y12 z12 st12 hQ12
  subst l12 y12 z12
  obtain ⟨rfl, N12q, K12q, G12_0⟩ := hQ12
  have N12 := Fr.app N9 N12q
  have K13 : Keep h0 T12.heap [] := K10.trans K12q (allS (Or.inr sz_r_o0_open_9) all0)
  have Z14 : n0 ≤ T12.heap.size := Nat.le_trans Z0 K13.1
  obtain ⟨LS12, X12, N12⟩ : ∃ L, Stand p l e room_1 s m #[(.int p0), (.int p1), (.int p2), (.int p3), (.int p4), (.int p5)] below meth c T12 L 4 63 ∧ Fr n0 L := ⟨_, X12, N12⟩
  obtain ⟨cq15, kq15, q15a, q15b, q15c⟩ := isOf hZ rfl ((E_b6.keep K9q).keep K12q)
  obtain ⟨_, _, ⟨T15, L15, k15, n15⟩, -, X15, ⟨Lc15, hQ15, l15, y15, z15⟩, st15⟩ := X12.virtualBack hx (y := (⟨"com/example/cardhost/cardhost/LogicalChannels", "open", "(I)V"⟩ : MethodName)) (z := (⟨"com/example/cardhost/cardhost/LogicalChannels", "open", "(I)V"⟩ : MethodName)) hown (mvT hZ (hw _ (List.mem_of_getElem? (i := 23) rfl))) (mvT hZ (hw _ (List.mem_of_getElem? (i := 24) rfl))) (notFace_of_selects (args := #[]) (mvT hZ (hw _ (List.mem_of_getElem? (i := 26) rfl)))) (mvT hZ (hw _ (List.mem_of_getElem? (i := 26) rfl))) (mvT hZ (hw _ (List.mem_of_getElem? (i := 25) rfl))) (by decide) (backOf (W := 0) (rm4 l Z a0 hw [] b6 (f1 p1) r_o0_open_9 (own_upd (own_upd (fun _ => 0) 0 (1 : Int32)) ((f1 p0)).toNatClampNeg (1 : Int32)) T12.heap n0 Z14 (G9_0.keep K12q (ninS ne_b6_r_o0_open_9 nin0)) G12_0 g_r_o0_open_9 (own_ch _)) hZ (hw _ (List.mem_of_getElem? (i := 27) rfl)) (hw _ (List.mem_of_getElem? (i := 7) rfl)) (by decide) (by decide)) q15a q15c (g := (mkF m 51 #[.val (.int p0), .val (.int p1), .val (.int p2), .val (.int p3), .val (.int p4), .val (.int p5), .val (.int (f1 p0)), .val (.int (f1 p1)), .val (.int (f1 p2)), .val (.int (f1 p3)), .val (.int (f1 p4)), .val (.ref b6), .unset, .unset, .unset] [(.int (f1 p1)), (.ref b6)])) rfl (by rw [hml]; rfl) (Steps.refl _) (argsL := [(.int (f1 p1))]) (rest := []) (lenOf pd_0_2 rfl) rfl (by show 2 * 0 + _ ≤ _; exact Nat.le_of_eq rfl) (hb hby at_51) (fun _ _ => ⟨rfl, rfl, (by decide : 4 + 0 ≤ _), (by decide : 63 + 0 ≤ _)⟩)
  dsimp only [Pt.U, Pt.locs, Pt.cells, Pt.slots] at X15 l15 y15 z15 st15 hQ15
  subst l15 y15 z15
  obtain ⟨rfl, N15q, K15q, G15_0⟩ := hQ15
  have N15 := Fr.app N12 N15q
  have K16 : Keep h0 T15.heap [] := K13.trans K15q (allS (Or.inr sz_r_o0_open_9) all0)
  have Z17 : n0 ≤ T15.heap.size := Nat.le_trans Z0 K16.1
  obtain ⟨LS15, X15, N15⟩ : ∃ L, Stand p l e room_1 s m #[(.int p0), (.int p1), (.int p2), (.int p3), (.int p4), (.int p5)] below meth c T15 L 4 63 ∧ Fr n0 L := ⟨_, X15, N15⟩
  have c19 := ((G9_0.keep K12q (ninS ne_b6_r_o0_open_9 nin0)).keep K15q (ninS ne_b6_r_o0_open_9 nin0))
  obtain ⟨cq18, kq18, q18a, q18b, q18c⟩ := isOf hZ rfl (((E_b6.keep K9q).keep K12q).keep K15q)
  obtain ⟨_, _, ⟨T18, L18, k18, n18⟩, -, X18, ⟨Lc18, hQ18, l18, y18, z18⟩, st18⟩ := X15.virtualBack hx (y := (⟨"com/example/cardhost/cardhost/LogicalChannels", "open", "(I)V"⟩ : MethodName)) (z := (⟨"com/example/cardhost/cardhost/LogicalChannels", "open", "(I)V"⟩ : MethodName)) hown (mvT hZ (hw _ (List.mem_of_getElem? (i := 23) rfl))) (mvT hZ (hw _ (List.mem_of_getElem? (i := 24) rfl))) (notFace_of_selects (args := #[]) (mvT hZ (hw _ (List.mem_of_getElem? (i := 26) rfl)))) (mvT hZ (hw _ (List.mem_of_getElem? (i := 26) rfl))) (mvT hZ (hw _ (List.mem_of_getElem? (i := 25) rfl))) (by decide) (backOf (W := 0) (rm4 l Z a0 hw [] b6 (f1 p2) r_o0_open_9 (own_upd (own_upd (own_upd (fun _ => 0) 0 (1 : Int32)) ((f1 p0)).toNatClampNeg (1 : Int32)) ((f1 p1)).toNatClampNeg (1 : Int32)) T15.heap n0 Z17 c19 G15_0 g_r_o0_open_9 (own_ch _)) hZ (hw _ (List.mem_of_getElem? (i := 27) rfl)) (hw _ (List.mem_of_getElem? (i := 7) rfl)) (by decide) (by decide)) q18a q18c (g := (mkF m 58 #[.val (.int p0), .val (.int p1), .val (.int p2), .val (.int p3), .val (.int p4), .val (.int p5), .val (.int (f1 p0)), .val (.int (f1 p1)), .val (.int (f1 p2)), .val (.int (f1 p3)), .val (.int (f1 p4)), .val (.ref b6), .unset, .unset, .unset] [(.int (f1 p2)), (.ref b6)])) rfl (by rw [hml]; rfl) (Steps.refl _) (argsL := [(.int (f1 p2))]) (rest := []) (lenOf pd_0_2 rfl) rfl (by show 2 * 0 + _ ≤ _; exact Nat.le_of_eq rfl) (hb hby at_58) (fun _ _ => ⟨rfl, rfl, (by decide : 4 + 0 ≤ _), (by decide : 63 + 0 ≤ _)⟩)
  dsimp only [Pt.U, Pt.locs, Pt.cells, Pt.slots] at X18 l18 y18 z18 st18 hQ18
  subst l18 y18 z18
  obtain ⟨rfl, N18q, K18q, G18_0⟩ := hQ18
  have N18 := Fr.app N15 N18q
  have K20 : Keep h0 T18.heap [] := K16.trans K18q (allS (Or.inr sz_r_o0_open_9) all0)
  have Z21 : n0 ≤ T18.heap.size := Nat.le_trans Z0 K20.1
  obtain ⟨LS18, X18, N18⟩ : ∃ L, Stand p l e room_1 s m #[(.int p0), (.int p1), (.int p2), (.int p3), (.int p4), (.int p5)] below meth c T18 L 4 63 ∧ Fr n0 L := ⟨_, X18, N18⟩
  have pre22 : ∀ t, Steps p.tables e below (T18.setTop (mkF m 65 #[.val (.int p0), .val (.int p1), .val (.int p2), .val (.int p3), .val (.int p4), .val (.int p5), .val (.int (f1 p0)), .val (.int (f1 p1)), .val (.int (f1 p2)), .val (.int (f1 p3)), .val (.int (f1 p4)), .val (.ref b6), .unset, .unset, .unset] [(.int (p5 &&& (1 : Int32)))])) t → Steps p.tables e below (s₁.setTop (entryFrame m #[(.int p0), (.int p1), (.int p2), (.int p3), (.int p4), (.int p5)] maxLocals)) t := fun t kt => pre0 t (by
      show Steps p.tables e below (s₁.setTop (mkF m 0 #[.val (.int p0), .val (.int p1), .val (.int p2), .val (.int p3), .val (.int p4), .val (.int p5), .unset, .unset, .unset, .unset, .unset, .unset, .unset, .unset, .unset] [])) _
      refine XS.iloadN X0.here hx rfl (hb hby at_0) rfl ?_
      show Steps p.tables e below (s₁.setTop (mkF m 1 #[.val (.int p0), .val (.int p1), .val (.int p2), .val (.int p3), .val (.int p4), .val (.int p5), .unset, .unset, .unset, .unset, .unset, .unset, .unset, .unset, .unset] [(.int p0)])) _
      refine st1 _ ?_
      show Steps p.tables e below (T1.setTop (mkF m 4 #[.val (.int p0), .val (.int p1), .val (.int p2), .val (.int p3), .val (.int p4), .val (.int p5), .unset, .unset, .unset, .unset, .unset, .unset, .unset, .unset, .unset] [(.int (f1 p0))])) _
      refine XS.istore X1.here hx rfl (hb hby at_4) rfl (l' := #[.val (.int p0), .val (.int p1), .val (.int p2), .val (.int p3), .val (.int p4), .val (.int p5), .val (.int (f1 p0)), .unset, .unset, .unset, .unset, .unset, .unset, .unset, .unset]) rfl ?_
      show Steps p.tables e below (T1.setTop (mkF m 6 #[.val (.int p0), .val (.int p1), .val (.int p2), .val (.int p3), .val (.int p4), .val (.int p5), .val (.int (f1 p0)), .unset, .unset, .unset, .unset, .unset, .unset, .unset, .unset] [])) _
      refine XS.iloadN X1.here hx rfl (hb hby at_6) rfl ?_
      show Steps p.tables e below (T1.setTop (mkF m 7 #[.val (.int p0), .val (.int p1), .val (.int p2), .val (.int p3), .val (.int p4), .val (.int p5), .val (.int (f1 p0)), .unset, .unset, .unset, .unset, .unset, .unset, .unset, .unset] [(.int p1)])) _
      refine st2 _ ?_
      show Steps p.tables e below (T2.setTop (mkF m 10 #[.val (.int p0), .val (.int p1), .val (.int p2), .val (.int p3), .val (.int p4), .val (.int p5), .val (.int (f1 p0)), .unset, .unset, .unset, .unset, .unset, .unset, .unset, .unset] [(.int (f1 p1))])) _
      refine XS.istore X2.here hx rfl (hb hby at_10) rfl (l' := #[.val (.int p0), .val (.int p1), .val (.int p2), .val (.int p3), .val (.int p4), .val (.int p5), .val (.int (f1 p0)), .val (.int (f1 p1)), .unset, .unset, .unset, .unset, .unset, .unset, .unset]) rfl ?_
      show Steps p.tables e below (T2.setTop (mkF m 12 #[.val (.int p0), .val (.int p1), .val (.int p2), .val (.int p3), .val (.int p4), .val (.int p5), .val (.int (f1 p0)), .val (.int (f1 p1)), .unset, .unset, .unset, .unset, .unset, .unset, .unset] [])) _
      refine XS.iloadN X2.here hx rfl (hb hby at_12) rfl ?_
      show Steps p.tables e below (T2.setTop (mkF m 13 #[.val (.int p0), .val (.int p1), .val (.int p2), .val (.int p3), .val (.int p4), .val (.int p5), .val (.int (f1 p0)), .val (.int (f1 p1)), .unset, .unset, .unset, .unset, .unset, .unset, .unset] [(.int p2)])) _
      refine st3 _ ?_
      show Steps p.tables e below (T3.setTop (mkF m 16 #[.val (.int p0), .val (.int p1), .val (.int p2), .val (.int p3), .val (.int p4), .val (.int p5), .val (.int (f1 p0)), .val (.int (f1 p1)), .unset, .unset, .unset, .unset, .unset, .unset, .unset] [(.int (f1 p2))])) _
      refine XS.istore X3.here hx rfl (hb hby at_16) rfl (l' := #[.val (.int p0), .val (.int p1), .val (.int p2), .val (.int p3), .val (.int p4), .val (.int p5), .val (.int (f1 p0)), .val (.int (f1 p1)), .val (.int (f1 p2)), .unset, .unset, .unset, .unset, .unset, .unset]) rfl ?_
      show Steps p.tables e below (T3.setTop (mkF m 18 #[.val (.int p0), .val (.int p1), .val (.int p2), .val (.int p3), .val (.int p4), .val (.int p5), .val (.int (f1 p0)), .val (.int (f1 p1)), .val (.int (f1 p2)), .unset, .unset, .unset, .unset, .unset, .unset] [])) _
      refine XS.iloadN X3.here hx rfl (hb hby at_18) rfl ?_
      show Steps p.tables e below (T3.setTop (mkF m 19 #[.val (.int p0), .val (.int p1), .val (.int p2), .val (.int p3), .val (.int p4), .val (.int p5), .val (.int (f1 p0)), .val (.int (f1 p1)), .val (.int (f1 p2)), .unset, .unset, .unset, .unset, .unset, .unset] [(.int p3)])) _
      refine st4 _ ?_
      show Steps p.tables e below (T4.setTop (mkF m 22 #[.val (.int p0), .val (.int p1), .val (.int p2), .val (.int p3), .val (.int p4), .val (.int p5), .val (.int (f1 p0)), .val (.int (f1 p1)), .val (.int (f1 p2)), .unset, .unset, .unset, .unset, .unset, .unset] [(.int (f1 p3))])) _
      refine XS.istore X4.here hx rfl (hb hby at_22) rfl (l' := #[.val (.int p0), .val (.int p1), .val (.int p2), .val (.int p3), .val (.int p4), .val (.int p5), .val (.int (f1 p0)), .val (.int (f1 p1)), .val (.int (f1 p2)), .val (.int (f1 p3)), .unset, .unset, .unset, .unset, .unset]) rfl ?_
      show Steps p.tables e below (T4.setTop (mkF m 24 #[.val (.int p0), .val (.int p1), .val (.int p2), .val (.int p3), .val (.int p4), .val (.int p5), .val (.int (f1 p0)), .val (.int (f1 p1)), .val (.int (f1 p2)), .val (.int (f1 p3)), .unset, .unset, .unset, .unset, .unset] [])) _
      refine XS.iload X4.here hx rfl (hb hby at_24) rfl ?_
      show Steps p.tables e below (T4.setTop (mkF m 26 #[.val (.int p0), .val (.int p1), .val (.int p2), .val (.int p3), .val (.int p4), .val (.int p5), .val (.int (f1 p0)), .val (.int (f1 p1)), .val (.int (f1 p2)), .val (.int (f1 p3)), .unset, .unset, .unset, .unset, .unset] [(.int p4)])) _
      refine st5 _ ?_
      show Steps p.tables e below (T5.setTop (mkF m 29 #[.val (.int p0), .val (.int p1), .val (.int p2), .val (.int p3), .val (.int p4), .val (.int p5), .val (.int (f1 p0)), .val (.int (f1 p1)), .val (.int (f1 p2)), .val (.int (f1 p3)), .unset, .unset, .unset, .unset, .unset] [(.int (f1 p4))])) _
      refine XS.istore X5.here hx rfl (hb hby at_29) rfl (l' := #[.val (.int p0), .val (.int p1), .val (.int p2), .val (.int p3), .val (.int p4), .val (.int p5), .val (.int (f1 p0)), .val (.int (f1 p1)), .val (.int (f1 p2)), .val (.int (f1 p3)), .val (.int (f1 p4)), .unset, .unset, .unset, .unset]) rfl ?_
      show Steps p.tables e below (T5.setTop (mkF m 31 #[.val (.int p0), .val (.int p1), .val (.int p2), .val (.int p3), .val (.int p4), .val (.int p5), .val (.int (f1 p0)), .val (.int (f1 p1)), .val (.int (f1 p2)), .val (.int (f1 p3)), .val (.int (f1 p4)), .unset, .unset, .unset, .unset] [])) _
      refine st6 _ ?_
      show Steps p.tables e below (T6.setTop (mkF m 34 #[.val (.int p0), .val (.int p1), .val (.int p2), .val (.int p3), .val (.int p4), .val (.int p5), .val (.int (f1 p0)), .val (.int (f1 p1)), .val (.int (f1 p2)), .val (.int (f1 p3)), .val (.int (f1 p4)), .unset, .unset, .unset, .unset] [(.ref b6)])) _
      refine XS.dup X6.here hx rfl (hb hby at_34) rfl rfl ?_
      show Steps p.tables e below (T6.setTop (mkF m 35 #[.val (.int p0), .val (.int p1), .val (.int p2), .val (.int p3), .val (.int p4), .val (.int p5), .val (.int (f1 p0)), .val (.int (f1 p1)), .val (.int (f1 p2)), .val (.int (f1 p3)), .val (.int (f1 p4)), .unset, .unset, .unset, .unset] [(.ref b6), (.ref b6)])) _
      refine st9.trans ?_
      show Steps p.tables e below (T9.setTop (mkF m 38 #[.val (.int p0), .val (.int p1), .val (.int p2), .val (.int p3), .val (.int p4), .val (.int p5), .val (.int (f1 p0)), .val (.int (f1 p1)), .val (.int (f1 p2)), .val (.int (f1 p3)), .val (.int (f1 p4)), .unset, .unset, .unset, .unset] [(.ref b6)])) _
      refine XS.astore X9.here hx rfl (hb hby at_38) rfl rfl (l' := #[.val (.int p0), .val (.int p1), .val (.int p2), .val (.int p3), .val (.int p4), .val (.int p5), .val (.int (f1 p0)), .val (.int (f1 p1)), .val (.int (f1 p2)), .val (.int (f1 p3)), .val (.int (f1 p4)), .val (.ref b6), .unset, .unset, .unset]) rfl ?_
      show Steps p.tables e below (T9.setTop (mkF m 40 #[.val (.int p0), .val (.int p1), .val (.int p2), .val (.int p3), .val (.int p4), .val (.int p5), .val (.int (f1 p0)), .val (.int (f1 p1)), .val (.int (f1 p2)), .val (.int (f1 p3)), .val (.int (f1 p4)), .val (.ref b6), .unset, .unset, .unset] [])) _
      refine XS.aload X9.here hx rfl (hb hby at_40) rfl rfl ?_
      show Steps p.tables e below (T9.setTop (mkF m 42 #[.val (.int p0), .val (.int p1), .val (.int p2), .val (.int p3), .val (.int p4), .val (.int p5), .val (.int (f1 p0)), .val (.int (f1 p1)), .val (.int (f1 p2)), .val (.int (f1 p3)), .val (.int (f1 p4)), .val (.ref b6), .unset, .unset, .unset] [(.ref b6)])) _
      refine XS.iload X9.here hx rfl (hb hby at_42) rfl ?_
      show Steps p.tables e below (T9.setTop (mkF m 44 #[.val (.int p0), .val (.int p1), .val (.int p2), .val (.int p3), .val (.int p4), .val (.int p5), .val (.int (f1 p0)), .val (.int (f1 p1)), .val (.int (f1 p2)), .val (.int (f1 p3)), .val (.int (f1 p4)), .val (.ref b6), .unset, .unset, .unset] [(.int (f1 p0)), (.ref b6)])) _
      refine st12.trans ?_
      show Steps p.tables e below (T12.setTop (mkF m 47 #[.val (.int p0), .val (.int p1), .val (.int p2), .val (.int p3), .val (.int p4), .val (.int p5), .val (.int (f1 p0)), .val (.int (f1 p1)), .val (.int (f1 p2)), .val (.int (f1 p3)), .val (.int (f1 p4)), .val (.ref b6), .unset, .unset, .unset] [])) _
      refine XS.aload X12.here hx rfl (hb hby at_47) rfl rfl ?_
      show Steps p.tables e below (T12.setTop (mkF m 49 #[.val (.int p0), .val (.int p1), .val (.int p2), .val (.int p3), .val (.int p4), .val (.int p5), .val (.int (f1 p0)), .val (.int (f1 p1)), .val (.int (f1 p2)), .val (.int (f1 p3)), .val (.int (f1 p4)), .val (.ref b6), .unset, .unset, .unset] [(.ref b6)])) _
      refine XS.iload X12.here hx rfl (hb hby at_49) rfl ?_
      show Steps p.tables e below (T12.setTop (mkF m 51 #[.val (.int p0), .val (.int p1), .val (.int p2), .val (.int p3), .val (.int p4), .val (.int p5), .val (.int (f1 p0)), .val (.int (f1 p1)), .val (.int (f1 p2)), .val (.int (f1 p3)), .val (.int (f1 p4)), .val (.ref b6), .unset, .unset, .unset] [(.int (f1 p1)), (.ref b6)])) _
      refine st15.trans ?_
      show Steps p.tables e below (T15.setTop (mkF m 54 #[.val (.int p0), .val (.int p1), .val (.int p2), .val (.int p3), .val (.int p4), .val (.int p5), .val (.int (f1 p0)), .val (.int (f1 p1)), .val (.int (f1 p2)), .val (.int (f1 p3)), .val (.int (f1 p4)), .val (.ref b6), .unset, .unset, .unset] [])) _
      refine XS.aload X15.here hx rfl (hb hby at_54) rfl rfl ?_
      show Steps p.tables e below (T15.setTop (mkF m 56 #[.val (.int p0), .val (.int p1), .val (.int p2), .val (.int p3), .val (.int p4), .val (.int p5), .val (.int (f1 p0)), .val (.int (f1 p1)), .val (.int (f1 p2)), .val (.int (f1 p3)), .val (.int (f1 p4)), .val (.ref b6), .unset, .unset, .unset] [(.ref b6)])) _
      refine XS.iload X15.here hx rfl (hb hby at_56) rfl ?_
      show Steps p.tables e below (T15.setTop (mkF m 58 #[.val (.int p0), .val (.int p1), .val (.int p2), .val (.int p3), .val (.int p4), .val (.int p5), .val (.int (f1 p0)), .val (.int (f1 p1)), .val (.int (f1 p2)), .val (.int (f1 p3)), .val (.int (f1 p4)), .val (.ref b6), .unset, .unset, .unset] [(.int (f1 p2)), (.ref b6)])) _
      refine st18.trans ?_
      show Steps p.tables e below (T18.setTop (mkF m 61 #[.val (.int p0), .val (.int p1), .val (.int p2), .val (.int p3), .val (.int p4), .val (.int p5), .val (.int (f1 p0)), .val (.int (f1 p1)), .val (.int (f1 p2)), .val (.int (f1 p3)), .val (.int (f1 p4)), .val (.ref b6), .unset, .unset, .unset] [])) _
      refine XS.iload X18.here hx rfl (hb hby at_61) rfl ?_
      show Steps p.tables e below (T18.setTop (mkF m 63 #[.val (.int p0), .val (.int p1), .val (.int p2), .val (.int p3), .val (.int p4), .val (.int p5), .val (.int (f1 p0)), .val (.int (f1 p1)), .val (.int (f1 p2)), .val (.int (f1 p3)), .val (.int (f1 p4)), .val (.ref b6), .unset, .unset, .unset] [(.int p5)])) _
      refine XS.iconst X18.here hx rfl (hb hby at_63) ?_
      show Steps p.tables e below (T18.setTop (mkF m 64 #[.val (.int p0), .val (.int p1), .val (.int p2), .val (.int p3), .val (.int p4), .val (.int p5), .val (.int (f1 p0)), .val (.int (f1 p1)), .val (.int (f1 p2)), .val (.int (f1 p3)), .val (.int (f1 p4)), .val (.ref b6), .unset, .unset, .unset] [(.int (1 : Int32)), (.int p5)])) _
      refine XS.iand X18.here hx rfl (hb hby at_64) rfl ?_
      exact kt)
  by_cases hc65_23 : (p5 &&& (1 : Int32)) = (0 : Int32)
  · have c25 := (((G9_2.keep K12q (ninS ne_b6_r_o0_open_9 nin0)).keep K15q (ninS ne_b6_r_o0_open_9 nin0)).keep K18q (ninS ne_b6_r_o0_open_9 nin0))
    have c26 := (((G9_3.keep K12q (ninS (Ne.symm ne_r_o0_open_9_r_o0_active_9) nin0)).keep K15q (ninS (Ne.symm ne_r_o0_open_9_r_o0_active_9) nin0)).keep K18q (ninS (Ne.symm ne_r_o0_open_9_r_o0_active_9) nin0))
    obtain ⟨cq24, kq24, q24a, q24b, q24c⟩ := isOf hZ rfl ((((E_b6.keep K9q).keep K12q).keep K15q).keep K18q)
    obtain ⟨_, _, ⟨T24, L24, k24, n24⟩, -, X24, ⟨Lc24, hQ24, l24, y24, z24⟩, st24⟩ := X18.virtualBack hx (y := (⟨"com/example/cardhost/cardhost/LogicalChannels", "reset", "()V"⟩ : MethodName)) (z := (⟨"com/example/cardhost/cardhost/LogicalChannels", "reset", "()V"⟩ : MethodName)) hown (mvT hZ (hw _ (List.mem_of_getElem? (i := 33) rfl))) (mvT hZ (hw _ (List.mem_of_getElem? (i := 34) rfl))) (notFace_of_selects (args := #[]) (mvT hZ (hw _ (List.mem_of_getElem? (i := 36) rfl)))) (mvT hZ (hw _ (List.mem_of_getElem? (i := 36) rfl))) (mvT hZ (hw _ (List.mem_of_getElem? (i := 35) rfl))) (by decide) (backOf (W := 0) (rm6 l Z a0 hw [] b6 r_o0_open_9 (own_upd (own_upd (own_upd (own_upd (fun _ => 0) 0 (1 : Int32)) ((f1 p0)).toNatClampNeg (1 : Int32)) ((f1 p1)).toNatClampNeg (1 : Int32)) ((f1 p2)).toNatClampNeg (1 : Int32)) r_o0_active_9 T18.heap n0 Z21 (c19.keep K18q (ninS ne_b6_r_o0_open_9 nin0)) G18_0 c25 c26 g_r_o0_open_9 g_r_o0_active_9 ne_b6_r_o0_open_9 ne_b6_r_o0_active_9 ne_r_o0_open_9_r_o0_active_9) hZ (hw _ (List.mem_of_getElem? (i := 37) rfl)) (hw _ (List.mem_of_getElem? (i := 7) rfl)) (by decide) (by decide)) q24a q24c (g := (mkF m 84 #[.val (.int p0), .val (.int p1), .val (.int p2), .val (.int p3), .val (.int p4), .val (.int p5), .val (.int (f1 p0)), .val (.int (f1 p1)), .val (.int (f1 p2)), .val (.int (f1 p3)), .val (.int (f1 p4)), .val (.ref b6), .unset, .unset, .unset] [(.ref b6)])) rfl (by rw [hml]; rfl) (Steps.refl _) (argsL := []) (rest := []) (lenOf pd_0_1 rfl) rfl (by show 2 * 0 + _ ≤ _; exact Nat.le_of_eq rfl) (hb hby at_84) (fun _ _ => ⟨rfl, rfl, (by decide : 4 + 0 ≤ _), (by decide : 63 + 0 ≤ _)⟩)
    dsimp only [Pt.U, Pt.locs, Pt.cells, Pt.slots] at X24 l24 y24 z24 st24 hQ24
    subst l24 y24 z24
    obtain ⟨rfl, N24q, K24q, G24_0, G24_1⟩ := hQ24
    have N24 := Fr.app N18 N24q
    have K27 : Keep h0 T24.heap [] := K20.trans K24q (allS (Or.inr sz_r_o0_open_9) (allS (Or.inr sz_r_o0_active_9) all0))
    have Z28 : n0 ≤ T24.heap.size := Nat.le_trans Z0 K27.1
    obtain ⟨LS24, X24, N24⟩ : ∃ L, Stand p l e room_1 s m #[(.int p0), (.int p1), (.int p2), (.int p3), (.int p4), (.int p5)] below meth c T24 L 4 63 ∧ Fr n0 L := ⟨_, X24, N24⟩
    have pre29 : ∀ t, Steps p.tables e below (T24.setTop (mkF m 91 #[.val (.int p0), .val (.int p1), .val (.int p2), .val (.int p3), .val (.int p4), .val (.int p5), .val (.int (f1 p0)), .val (.int (f1 p1)), .val (.int (f1 p2)), .val (.int (f1 p3)), .val (.int (f1 p4)), .val (.ref b6), .unset, .unset, .unset] [(.int (p5 &&& (2 : Int32)))])) t → Steps p.tables e below (s₁.setTop (entryFrame m #[(.int p0), (.int p1), (.int p2), (.int p3), (.int p4), (.int p5)] maxLocals)) t := fun t kt => pre22 t (by
        show Steps p.tables e below (T18.setTop (mkF m 65 #[.val (.int p0), .val (.int p1), .val (.int p2), .val (.int p3), .val (.int p4), .val (.int p5), .val (.int (f1 p0)), .val (.int (f1 p1)), .val (.int (f1 p2)), .val (.int (f1 p3)), .val (.int (f1 p4)), .val (.ref b6), .unset, .unset, .unset] [(.int (p5 &&& (1 : Int32)))])) _
        refine XS.ifYes X18.here hx rfl (pc0 := 65) (pc' := 82) rfl (hb hby at_65) rfl ((if0 _ _).trans (teq hc65_23).1) (by decide) (by decide) ?_
        show Steps p.tables e below (T18.setTop (mkF m 82 #[.val (.int p0), .val (.int p1), .val (.int p2), .val (.int p3), .val (.int p4), .val (.int p5), .val (.int (f1 p0)), .val (.int (f1 p1)), .val (.int (f1 p2)), .val (.int (f1 p3)), .val (.int (f1 p4)), .val (.ref b6), .unset, .unset, .unset] [])) _
        refine XS.aload X18.here hx rfl (hb hby at_82) rfl rfl ?_
        show Steps p.tables e below (T18.setTop (mkF m 84 #[.val (.int p0), .val (.int p1), .val (.int p2), .val (.int p3), .val (.int p4), .val (.int p5), .val (.int (f1 p0)), .val (.int (f1 p1)), .val (.int (f1 p2)), .val (.int (f1 p3)), .val (.int (f1 p4)), .val (.ref b6), .unset, .unset, .unset] [(.ref b6)])) _
        refine st24.trans ?_
        show Steps p.tables e below (T24.setTop (mkF m 87 #[.val (.int p0), .val (.int p1), .val (.int p2), .val (.int p3), .val (.int p4), .val (.int p5), .val (.int (f1 p0)), .val (.int (f1 p1)), .val (.int (f1 p2)), .val (.int (f1 p3)), .val (.int (f1 p4)), .val (.ref b6), .unset, .unset, .unset] [])) _
        refine XS.iload X24.here hx rfl (hb hby at_87) rfl ?_
        show Steps p.tables e below (T24.setTop (mkF m 89 #[.val (.int p0), .val (.int p1), .val (.int p2), .val (.int p3), .val (.int p4), .val (.int p5), .val (.int (f1 p0)), .val (.int (f1 p1)), .val (.int (f1 p2)), .val (.int (f1 p3)), .val (.int (f1 p4)), .val (.ref b6), .unset, .unset, .unset] [(.int p5)])) _
        refine XS.iconst X24.here hx rfl (hb hby at_89) ?_
        show Steps p.tables e below (T24.setTop (mkF m 90 #[.val (.int p0), .val (.int p1), .val (.int p2), .val (.int p3), .val (.int p4), .val (.int p5), .val (.int (f1 p0)), .val (.int (f1 p1)), .val (.int (f1 p2)), .val (.int (f1 p3)), .val (.int (f1 p4)), .val (.ref b6), .unset, .unset, .unset] [(.int (2 : Int32)), (.int p5)])) _
        refine XS.iand X24.here hx rfl (hb hby at_90) rfl ?_
        exact kt)
    by_cases hc91_30 : (p5 &&& (2 : Int32)) = (0 : Int32)
    · have c32 := ((c19.keep K18q (ninS ne_b6_r_o0_open_9 nin0)).keep K24q (ninS ne_b6_r_o0_open_9 (ninS ne_b6_r_o0_active_9 nin0)))
      have c33 := (((((E_b6.keep K9q).keep K12q).keep K15q).keep K18q).keep K24q)
      obtain ⟨cq31, kq31, q31a, q31b, q31c⟩ := isOf hZ rfl c33
      obtain ⟨_, _, ⟨T31, L31, k31, n31⟩, -, X31, ⟨Lc31, hQ31, l31, y31, z31⟩, st31⟩ := X24.virtualBack hx (y := (⟨"com/example/cardhost/cardhost/LogicalChannels", "isOpen", "(I)Z"⟩ : MethodName)) (z := (⟨"com/example/cardhost/cardhost/LogicalChannels", "isOpen", "(I)Z"⟩ : MethodName)) hown (mvT hZ (hw _ (List.mem_of_getElem? (i := 38) rfl))) (mvT hZ (hw _ (List.mem_of_getElem? (i := 39) rfl))) (notFace_of_selects (args := #[]) (mvT hZ (hw _ (List.mem_of_getElem? (i := 41) rfl)))) (mvT hZ (hw _ (List.mem_of_getElem? (i := 41) rfl))) (mvT hZ (hw _ (List.mem_of_getElem? (i := 40) rfl))) (by decide) (backOf (W := 0) (rm7 l Z a0 hw [] b6 (f1 p3) r_o0_open_9 (f6_r1_a (own_upd (own_upd (own_upd (own_upd (fun _ => 0) 0 (1 : Int32)) ((f1 p0)).toNatClampNeg (1 : Int32)) ((f1 p1)).toNatClampNeg (1 : Int32)) ((f1 p2)).toNatClampNeg (1 : Int32))) T24.heap n0 Z28 c32 G24_0 g_r_o0_open_9 (own_ch _)) hZ (hw _ (List.mem_of_getElem? (i := 42) rfl)) (hw _ (List.mem_of_getElem? (i := 7) rfl)) (by decide) (by decide)) q31a q31c (g := (mkF m 103 #[.val (.int p0), .val (.int p1), .val (.int p2), .val (.int p3), .val (.int p4), .val (.int p5), .val (.int (f1 p0)), .val (.int (f1 p1)), .val (.int (f1 p2)), .val (.int (f1 p3)), .val (.int (f1 p4)), .val (.ref b6), .unset, .unset, .unset] [(.int (f1 p3)), (.ref b6)])) rfl (by rw [hml]; rfl) (Steps.refl _) (argsL := [(.int (f1 p3))]) (rest := []) (lenOf pd_0_3 rfl) rfl (by show 2 * 0 + _ ≤ _; exact Nat.le_of_eq rfl) (hb hby at_103) (fun _ _ => ⟨rfl, rfl, (by decide : 4 + 0 ≤ _), (by decide : 63 + 0 ≤ _)⟩)
      dsimp only [Pt.U, Pt.locs, Pt.cells, Pt.slots] at X31 l31 y31 z31 st31 hQ31
      subst l31 y31 z31
      obtain ⟨rfl, N31q, e31q⟩ := hQ31
      have N31 := Fr.app N24 N31q
      have pre34 : ∀ t, Steps p.tables e below (T31.setTop (mkF m 108 #[.val (.int p0), .val (.int p1), .val (.int p2), .val (.int p3), .val (.int p4), .val (.int p5), .val (.int (f1 p0)), .val (.int (f1 p1)), .val (.int (f1 p2)), .val (.int (f1 p3)), .val (.int (f1 p4)), .val (.ref b6), .unset, .unset, .unset] [(.int (f1 p3)), (.int (nar .boolean ((f6_r1_a (own_upd (own_upd (own_upd (own_upd (fun _ => 0) 0 (1 : Int32)) ((f1 p0)).toNatClampNeg (1 : Int32)) ((f1 p1)).toNatClampNeg (1 : Int32)) ((f1 p2)).toNatClampNeg (1 : Int32))) ((f1 p3)).toNatClampNeg)))])) t → Steps p.tables e below (s₁.setTop (entryFrame m #[(.int p0), (.int p1), (.int p2), (.int p3), (.int p4), (.int p5)] maxLocals)) t := fun t kt => pre29 t (by
          show Steps p.tables e below (T24.setTop (mkF m 91 #[.val (.int p0), .val (.int p1), .val (.int p2), .val (.int p3), .val (.int p4), .val (.int p5), .val (.int (f1 p0)), .val (.int (f1 p1)), .val (.int (f1 p2)), .val (.int (f1 p3)), .val (.int (f1 p4)), .val (.ref b6), .unset, .unset, .unset] [(.int (p5 &&& (2 : Int32)))])) _
          refine XS.ifYes X24.here hx rfl (pc0 := 91) (pc' := 99) rfl (hb hby at_91) rfl ((if0 _ _).trans (teq hc91_30).1) (by decide) (by decide) ?_
          show Steps p.tables e below (T24.setTop (mkF m 99 #[.val (.int p0), .val (.int p1), .val (.int p2), .val (.int p3), .val (.int p4), .val (.int p5), .val (.int (f1 p0)), .val (.int (f1 p1)), .val (.int (f1 p2)), .val (.int (f1 p3)), .val (.int (f1 p4)), .val (.ref b6), .unset, .unset, .unset] [])) _
          refine XS.aload X24.here hx rfl (hb hby at_99) rfl rfl ?_
          show Steps p.tables e below (T24.setTop (mkF m 101 #[.val (.int p0), .val (.int p1), .val (.int p2), .val (.int p3), .val (.int p4), .val (.int p5), .val (.int (f1 p0)), .val (.int (f1 p1)), .val (.int (f1 p2)), .val (.int (f1 p3)), .val (.int (f1 p4)), .val (.ref b6), .unset, .unset, .unset] [(.ref b6)])) _
          refine XS.iload X24.here hx rfl (hb hby at_101) rfl ?_
          show Steps p.tables e below (T24.setTop (mkF m 103 #[.val (.int p0), .val (.int p1), .val (.int p2), .val (.int p3), .val (.int p4), .val (.int p5), .val (.int (f1 p0)), .val (.int (f1 p1)), .val (.int (f1 p2)), .val (.int (f1 p3)), .val (.int (f1 p4)), .val (.ref b6), .unset, .unset, .unset] [(.int (f1 p3)), (.ref b6)])) _
          refine st31.trans ?_
          show Steps p.tables e below (T31.setTop (mkF m 106 #[.val (.int p0), .val (.int p1), .val (.int p2), .val (.int p3), .val (.int p4), .val (.int p5), .val (.int (f1 p0)), .val (.int (f1 p1)), .val (.int (f1 p2)), .val (.int (f1 p3)), .val (.int (f1 p4)), .val (.ref b6), .unset, .unset, .unset] [(.int (nar .boolean ((f6_r1_a (own_upd (own_upd (own_upd (own_upd (fun _ => 0) 0 (1 : Int32)) ((f1 p0)).toNatClampNeg (1 : Int32)) ((f1 p1)).toNatClampNeg (1 : Int32)) ((f1 p2)).toNatClampNeg (1 : Int32))) ((f1 p3)).toNatClampNeg)))])) _
          refine XS.iload X31.here hx rfl (hb hby at_106) rfl ?_
          exact kt)
      by_cases hc108_35 : (f1 p3) = (0 : Int32)
      · have pre36 : ∀ t, Steps p.tables e below (T31.setTop (mkF m 116 #[.val (.int p0), .val (.int p1), .val (.int p2), .val (.int p3), .val (.int p4), .val (.int p5), .val (.int (f1 p0)), .val (.int (f1 p1)), .val (.int (f1 p2)), .val (.int (f1 p3)), .val (.int (f1 p4)), .val (.ref b6), .unset, .unset, .unset] [(.int (1 : Int32)), (.int (nar .boolean ((f6_r1_a (own_upd (own_upd (own_upd (own_upd (fun _ => 0) 0 (1 : Int32)) ((f1 p0)).toNatClampNeg (1 : Int32)) ((f1 p1)).toNatClampNeg (1 : Int32)) ((f1 p2)).toNatClampNeg (1 : Int32))) ((f1 p3)).toNatClampNeg)))])) t → Steps p.tables e below (s₁.setTop (entryFrame m #[(.int p0), (.int p1), (.int p2), (.int p3), (.int p4), (.int p5)] maxLocals)) t := fun t kt => pre34 t (by
            show Steps p.tables e below (T31.setTop (mkF m 108 #[.val (.int p0), .val (.int p1), .val (.int p2), .val (.int p3), .val (.int p4), .val (.int p5), .val (.int (f1 p0)), .val (.int (f1 p1)), .val (.int (f1 p2)), .val (.int (f1 p3)), .val (.int (f1 p4)), .val (.ref b6), .unset, .unset, .unset] [(.int (f1 p3)), (.int (nar .boolean ((f6_r1_a (own_upd (own_upd (own_upd (own_upd (fun _ => 0) 0 (1 : Int32)) ((f1 p0)).toNatClampNeg (1 : Int32)) ((f1 p1)).toNatClampNeg (1 : Int32)) ((f1 p2)).toNatClampNeg (1 : Int32))) ((f1 p3)).toNatClampNeg)))])) _
            refine XS.ifNo X31.here hx rfl (hb hby at_108) rfl ((if0 _ _).trans (teq hc108_35).2) ?_
            show Steps p.tables e below (T31.setTop (mkF m 111 #[.val (.int p0), .val (.int p1), .val (.int p2), .val (.int p3), .val (.int p4), .val (.int p5), .val (.int (f1 p0)), .val (.int (f1 p1)), .val (.int (f1 p2)), .val (.int (f1 p3)), .val (.int (f1 p4)), .val (.ref b6), .unset, .unset, .unset] [(.int (nar .boolean ((f6_r1_a (own_upd (own_upd (own_upd (own_upd (fun _ => 0) 0 (1 : Int32)) ((f1 p0)).toNatClampNeg (1 : Int32)) ((f1 p1)).toNatClampNeg (1 : Int32)) ((f1 p2)).toNatClampNeg (1 : Int32))) ((f1 p3)).toNatClampNeg)))])) _
            refine XS.iconst X31.here hx rfl (hb hby at_111) ?_
            show Steps p.tables e below (T31.setTop (mkF m 112 #[.val (.int p0), .val (.int p1), .val (.int p2), .val (.int p3), .val (.int p4), .val (.int p5), .val (.int (f1 p0)), .val (.int (f1 p1)), .val (.int (f1 p2)), .val (.int (f1 p3)), .val (.int (f1 p4)), .val (.ref b6), .unset, .unset, .unset] [(.int (1 : Int32)), (.int (nar .boolean ((f6_r1_a (own_upd (own_upd (own_upd (own_upd (fun _ => 0) 0 (1 : Int32)) ((f1 p0)).toNatClampNeg (1 : Int32)) ((f1 p1)).toNatClampNeg (1 : Int32)) ((f1 p2)).toNatClampNeg (1 : Int32))) ((f1 p3)).toNatClampNeg)))])) _
            refine XS.goto X31.here hx rfl (pc0 := 112) (pc' := 116) rfl (hb hby at_112) (by decide) (by decide) ?_
            exact kt)
        have hd116_37 : (nar .boolean ((f6_r1_a (own_upd (own_upd (own_upd (own_upd (fun _ => 0) 0 (1 : Int32)) ((f1 p0)).toNatClampNeg (1 : Int32)) ((f1 p1)).toNatClampNeg (1 : Int32)) ((f1 p2)).toNatClampNeg (1 : Int32))) ((f1 p3)).toNatClampNeg)) = (1 : Int32) := own_is0 _ (own_ch _) hc108_35
        obtain ⟨cq38, kq38, q38a, q38b, q38c⟩ := isOf hZ e31q c33
        obtain ⟨_, _, ⟨T38, L38, k38, n38⟩, -, X38, ⟨Lc38, hQ38, l38, y38, z38⟩, st38⟩ := X31.virtualBack hx (y := (⟨"com/example/cardhost/cardhost/LogicalChannels", "isOpen", "(I)Z"⟩ : MethodName)) (z := (⟨"com/example/cardhost/cardhost/LogicalChannels", "isOpen", "(I)Z"⟩ : MethodName)) hown (mvT hZ (hw _ (List.mem_of_getElem? (i := 38) rfl))) (mvT hZ (hw _ (List.mem_of_getElem? (i := 39) rfl))) (notFace_of_selects (args := #[]) (mvT hZ (hw _ (List.mem_of_getElem? (i := 41) rfl)))) (mvT hZ (hw _ (List.mem_of_getElem? (i := 41) rfl))) (mvT hZ (hw _ (List.mem_of_getElem? (i := 40) rfl))) (by decide) (backOf (W := 0) (rm7 l Z a0 hw [] b6 (f1 p4) r_o0_open_9 (f6_r1_a (own_upd (own_upd (own_upd (own_upd (fun _ => 0) 0 (1 : Int32)) ((f1 p0)).toNatClampNeg (1 : Int32)) ((f1 p1)).toNatClampNeg (1 : Int32)) ((f1 p2)).toNatClampNeg (1 : Int32))) T24.heap n0 Z28 c32 G24_0 g_r_o0_open_9 (own_ch _)) hZ (hw _ (List.mem_of_getElem? (i := 42) rfl)) (hw _ (List.mem_of_getElem? (i := 7) rfl)) (by decide) (by decide)) q38a q38c (g := (mkF m 130 #[.val (.int p0), .val (.int p1), .val (.int p2), .val (.int p3), .val (.int p4), .val (.int p5), .val (.int (f1 p0)), .val (.int (f1 p1)), .val (.int (f1 p2)), .val (.int (f1 p3)), .val (.int (f1 p4)), .val (.ref b6), .val (.int (1 : Int32)), .unset, .unset] [(.int (f1 p4)), (.ref b6)])) rfl (by rw [hml]; rfl) (Steps.refl _) (argsL := [(.int (f1 p4))]) (rest := []) (lenOf pd_0_3 rfl) rfl (by show 2 * 0 + _ ≤ _; exact Nat.le_of_eq rfl) (hb hby at_130) (fun _ _ => ⟨rfl, e31q, (by decide : 4 + 0 ≤ _), (by decide : 63 + 0 ≤ _)⟩)
        dsimp only [Pt.U, Pt.locs, Pt.cells, Pt.slots] at X38 l38 y38 z38 st38 hQ38
        subst l38 y38 z38
        obtain ⟨rfl, N38q, e38q⟩ := hQ38
        have N38 := Fr.app N31 N38q
        have pre39 : ∀ t, Steps p.tables e below (T38.setTop (mkF m 135 #[.val (.int p0), .val (.int p1), .val (.int p2), .val (.int p3), .val (.int p4), .val (.int p5), .val (.int (f1 p0)), .val (.int (f1 p1)), .val (.int (f1 p2)), .val (.int (f1 p3)), .val (.int (f1 p4)), .val (.ref b6), .val (.int (1 : Int32)), .unset, .unset] [(.int (f1 p4)), (.int (nar .boolean ((f6_r1_a (own_upd (own_upd (own_upd (own_upd (fun _ => 0) 0 (1 : Int32)) ((f1 p0)).toNatClampNeg (1 : Int32)) ((f1 p1)).toNatClampNeg (1 : Int32)) ((f1 p2)).toNatClampNeg (1 : Int32))) ((f1 p4)).toNatClampNeg)))])) t → Steps p.tables e below (s₁.setTop (entryFrame m #[(.int p0), (.int p1), (.int p2), (.int p3), (.int p4), (.int p5)] maxLocals)) t := fun t kt => pre36 t (by
            show Steps p.tables e below (T31.setTop (mkF m 116 #[.val (.int p0), .val (.int p1), .val (.int p2), .val (.int p3), .val (.int p4), .val (.int p5), .val (.int (f1 p0)), .val (.int (f1 p1)), .val (.int (f1 p2)), .val (.int (f1 p3)), .val (.int (f1 p4)), .val (.ref b6), .unset, .unset, .unset] [(.int (1 : Int32)), (.int (nar .boolean ((f6_r1_a (own_upd (own_upd (own_upd (own_upd (fun _ => 0) 0 (1 : Int32)) ((f1 p0)).toNatClampNeg (1 : Int32)) ((f1 p1)).toNatClampNeg (1 : Int32)) ((f1 p2)).toNatClampNeg (1 : Int32))) ((f1 p3)).toNatClampNeg)))])) _
            refine XS.icmpNo X31.here hx rfl (hb hby at_116) rfl (teq hd116_37).2 ?_
            show Steps p.tables e below (T31.setTop (mkF m 119 #[.val (.int p0), .val (.int p1), .val (.int p2), .val (.int p3), .val (.int p4), .val (.int p5), .val (.int (f1 p0)), .val (.int (f1 p1)), .val (.int (f1 p2)), .val (.int (f1 p3)), .val (.int (f1 p4)), .val (.ref b6), .unset, .unset, .unset] [])) _
            refine XS.iconst X31.here hx rfl (hb hby at_119) ?_
            show Steps p.tables e below (T31.setTop (mkF m 120 #[.val (.int p0), .val (.int p1), .val (.int p2), .val (.int p3), .val (.int p4), .val (.int p5), .val (.int (f1 p0)), .val (.int (f1 p1)), .val (.int (f1 p2)), .val (.int (f1 p3)), .val (.int (f1 p4)), .val (.ref b6), .unset, .unset, .unset] [(.int (1 : Int32))])) _
            refine XS.goto X31.here hx rfl (pc0 := 120) (pc' := 124) rfl (hb hby at_120) (by decide) (by decide) ?_
            show Steps p.tables e below (T31.setTop (mkF m 124 #[.val (.int p0), .val (.int p1), .val (.int p2), .val (.int p3), .val (.int p4), .val (.int p5), .val (.int (f1 p0)), .val (.int (f1 p1)), .val (.int (f1 p2)), .val (.int (f1 p3)), .val (.int (f1 p4)), .val (.ref b6), .unset, .unset, .unset] [(.int (1 : Int32))])) _
            refine XS.istore X31.here hx rfl (hb hby at_124) rfl (l' := #[.val (.int p0), .val (.int p1), .val (.int p2), .val (.int p3), .val (.int p4), .val (.int p5), .val (.int (f1 p0)), .val (.int (f1 p1)), .val (.int (f1 p2)), .val (.int (f1 p3)), .val (.int (f1 p4)), .val (.ref b6), .val (.int (1 : Int32)), .unset, .unset]) rfl ?_
            show Steps p.tables e below (T31.setTop (mkF m 126 #[.val (.int p0), .val (.int p1), .val (.int p2), .val (.int p3), .val (.int p4), .val (.int p5), .val (.int (f1 p0)), .val (.int (f1 p1)), .val (.int (f1 p2)), .val (.int (f1 p3)), .val (.int (f1 p4)), .val (.ref b6), .val (.int (1 : Int32)), .unset, .unset] [])) _
            refine XS.aload X31.here hx rfl (hb hby at_126) rfl rfl ?_
            show Steps p.tables e below (T31.setTop (mkF m 128 #[.val (.int p0), .val (.int p1), .val (.int p2), .val (.int p3), .val (.int p4), .val (.int p5), .val (.int (f1 p0)), .val (.int (f1 p1)), .val (.int (f1 p2)), .val (.int (f1 p3)), .val (.int (f1 p4)), .val (.ref b6), .val (.int (1 : Int32)), .unset, .unset] [(.ref b6)])) _
            refine XS.iload X31.here hx rfl (hb hby at_128) rfl ?_
            show Steps p.tables e below (T31.setTop (mkF m 130 #[.val (.int p0), .val (.int p1), .val (.int p2), .val (.int p3), .val (.int p4), .val (.int p5), .val (.int (f1 p0)), .val (.int (f1 p1)), .val (.int (f1 p2)), .val (.int (f1 p3)), .val (.int (f1 p4)), .val (.ref b6), .val (.int (1 : Int32)), .unset, .unset] [(.int (f1 p4)), (.ref b6)])) _
            refine st38.trans ?_
            show Steps p.tables e below (T38.setTop (mkF m 133 #[.val (.int p0), .val (.int p1), .val (.int p2), .val (.int p3), .val (.int p4), .val (.int p5), .val (.int (f1 p0)), .val (.int (f1 p1)), .val (.int (f1 p2)), .val (.int (f1 p3)), .val (.int (f1 p4)), .val (.ref b6), .val (.int (1 : Int32)), .unset, .unset] [(.int (nar .boolean ((f6_r1_a (own_upd (own_upd (own_upd (own_upd (fun _ => 0) 0 (1 : Int32)) ((f1 p0)).toNatClampNeg (1 : Int32)) ((f1 p1)).toNatClampNeg (1 : Int32)) ((f1 p2)).toNatClampNeg (1 : Int32))) ((f1 p4)).toNatClampNeg)))])) _
            refine XS.iload X38.here hx rfl (hb hby at_133) rfl ?_
            exact kt)
        by_cases hc135_40 : (f1 p4) = (0 : Int32)
        · have pre41 : ∀ t, Steps p.tables e below (T38.setTop (mkF m 143 #[.val (.int p0), .val (.int p1), .val (.int p2), .val (.int p3), .val (.int p4), .val (.int p5), .val (.int (f1 p0)), .val (.int (f1 p1)), .val (.int (f1 p2)), .val (.int (f1 p3)), .val (.int (f1 p4)), .val (.ref b6), .val (.int (1 : Int32)), .unset, .unset] [(.int (1 : Int32)), (.int (nar .boolean ((f6_r1_a (own_upd (own_upd (own_upd (own_upd (fun _ => 0) 0 (1 : Int32)) ((f1 p0)).toNatClampNeg (1 : Int32)) ((f1 p1)).toNatClampNeg (1 : Int32)) ((f1 p2)).toNatClampNeg (1 : Int32))) ((f1 p4)).toNatClampNeg)))])) t → Steps p.tables e below (s₁.setTop (entryFrame m #[(.int p0), (.int p1), (.int p2), (.int p3), (.int p4), (.int p5)] maxLocals)) t := fun t kt => pre39 t (by
              show Steps p.tables e below (T38.setTop (mkF m 135 #[.val (.int p0), .val (.int p1), .val (.int p2), .val (.int p3), .val (.int p4), .val (.int p5), .val (.int (f1 p0)), .val (.int (f1 p1)), .val (.int (f1 p2)), .val (.int (f1 p3)), .val (.int (f1 p4)), .val (.ref b6), .val (.int (1 : Int32)), .unset, .unset] [(.int (f1 p4)), (.int (nar .boolean ((f6_r1_a (own_upd (own_upd (own_upd (own_upd (fun _ => 0) 0 (1 : Int32)) ((f1 p0)).toNatClampNeg (1 : Int32)) ((f1 p1)).toNatClampNeg (1 : Int32)) ((f1 p2)).toNatClampNeg (1 : Int32))) ((f1 p4)).toNatClampNeg)))])) _
              refine XS.ifNo X38.here hx rfl (hb hby at_135) rfl ((if0 _ _).trans (teq hc135_40).2) ?_
              show Steps p.tables e below (T38.setTop (mkF m 138 #[.val (.int p0), .val (.int p1), .val (.int p2), .val (.int p3), .val (.int p4), .val (.int p5), .val (.int (f1 p0)), .val (.int (f1 p1)), .val (.int (f1 p2)), .val (.int (f1 p3)), .val (.int (f1 p4)), .val (.ref b6), .val (.int (1 : Int32)), .unset, .unset] [(.int (nar .boolean ((f6_r1_a (own_upd (own_upd (own_upd (own_upd (fun _ => 0) 0 (1 : Int32)) ((f1 p0)).toNatClampNeg (1 : Int32)) ((f1 p1)).toNatClampNeg (1 : Int32)) ((f1 p2)).toNatClampNeg (1 : Int32))) ((f1 p4)).toNatClampNeg)))])) _
              refine XS.iconst X38.here hx rfl (hb hby at_138) ?_
              show Steps p.tables e below (T38.setTop (mkF m 139 #[.val (.int p0), .val (.int p1), .val (.int p2), .val (.int p3), .val (.int p4), .val (.int p5), .val (.int (f1 p0)), .val (.int (f1 p1)), .val (.int (f1 p2)), .val (.int (f1 p3)), .val (.int (f1 p4)), .val (.ref b6), .val (.int (1 : Int32)), .unset, .unset] [(.int (1 : Int32)), (.int (nar .boolean ((f6_r1_a (own_upd (own_upd (own_upd (own_upd (fun _ => 0) 0 (1 : Int32)) ((f1 p0)).toNatClampNeg (1 : Int32)) ((f1 p1)).toNatClampNeg (1 : Int32)) ((f1 p2)).toNatClampNeg (1 : Int32))) ((f1 p4)).toNatClampNeg)))])) _
              refine XS.goto X38.here hx rfl (pc0 := 139) (pc' := 143) rfl (hb hby at_139) (by decide) (by decide) ?_
              exact kt)
          have hd143_42 : (nar .boolean ((f6_r1_a (own_upd (own_upd (own_upd (own_upd (fun _ => 0) 0 (1 : Int32)) ((f1 p0)).toNatClampNeg (1 : Int32)) ((f1 p1)).toNatClampNeg (1 : Int32)) ((f1 p2)).toNatClampNeg (1 : Int32))) ((f1 p4)).toNatClampNeg)) = (1 : Int32) := own_is0 _ (own_ch _) hc135_40
          obtain ⟨cq43, kq43, q43a, q43b, q43c⟩ := isOf hZ e38q c33
          obtain ⟨_, _, ⟨T43, L43, k43, n43⟩, -, X43, ⟨Lc43, hQ43, l43, y43, z43⟩, st43⟩ := X38.virtualBack hx (y := (⟨"com/example/cardhost/cardhost/LogicalChannels", "lowestClosed", "()I"⟩ : MethodName)) (z := (⟨"com/example/cardhost/cardhost/LogicalChannels", "lowestClosed", "()I"⟩ : MethodName)) hown (mvT hZ (hw _ (List.mem_of_getElem? (i := 43) rfl))) (mvT hZ (hw _ (List.mem_of_getElem? (i := 44) rfl))) (notFace_of_selects (args := #[]) (mvT hZ (hw _ (List.mem_of_getElem? (i := 46) rfl)))) (mvT hZ (hw _ (List.mem_of_getElem? (i := 46) rfl))) (mvT hZ (hw _ (List.mem_of_getElem? (i := 45) rfl))) (by decide) (backOf (W := 0) (rm8 l Z a0 hw [] b6 r_o0_open_9 (f6_r1_a (own_upd (own_upd (own_upd (own_upd (fun _ => 0) 0 (1 : Int32)) ((f1 p0)).toNatClampNeg (1 : Int32)) ((f1 p1)).toNatClampNeg (1 : Int32)) ((f1 p2)).toNatClampNeg (1 : Int32))) T24.heap n0 Z28 c32 G24_0 g_r_o0_open_9) hZ (hw _ (List.mem_of_getElem? (i := 47) rfl)) (hw _ (List.mem_of_getElem? (i := 7) rfl)) (by decide) (by decide)) q43a q43c (g := (mkF m 155 #[.val (.int p0), .val (.int p1), .val (.int p2), .val (.int p3), .val (.int p4), .val (.int p5), .val (.int (f1 p0)), .val (.int (f1 p1)), .val (.int (f1 p2)), .val (.int (f1 p3)), .val (.int (f1 p4)), .val (.ref b6), .val (.int (1 : Int32)), .val (.int (1 : Int32)), .unset] [(.ref b6)])) rfl (by rw [hml]; rfl) (Steps.refl _) (argsL := []) (rest := []) (lenOf pd_0_4 rfl) rfl (by show 2 * 0 + _ ≤ _; exact Nat.le_of_eq rfl) (hb hby at_155) (fun _ _ => ⟨rfl, e38q, (by decide : 4 + 0 ≤ _), (by decide : 63 + 0 ≤ _)⟩)
          dsimp only [Pt.U, Pt.locs, Pt.cells, Pt.slots] at X43 l43 y43 z43 st43 hQ43
          subst l43 y43 z43
          obtain ⟨rfl, N43q, e43q⟩ := hQ43
          have N43 := Fr.app N38 N43q
          have pre44 : ∀ t, Steps p.tables e below (T43.setTop (mkF m 159 #[.val (.int p0), .val (.int p1), .val (.int p2), .val (.int p3), .val (.int p4), .val (.int p5), .val (.int (f1 p0)), .val (.int (f1 p1)), .val (.int (f1 p2)), .val (.int (f1 p3)), .val (.int (f1 p4)), .val (.ref b6), .val (.int (1 : Int32)), .val (.int (1 : Int32)), .unset] [(.int (1 : Int32)), (.int (f8 (f6_r1_a (own_upd (own_upd (own_upd (own_upd (fun _ => 0) 0 (1 : Int32)) ((f1 p0)).toNatClampNeg (1 : Int32)) ((f1 p1)).toNatClampNeg (1 : Int32)) ((f1 p2)).toNatClampNeg (1 : Int32)))))])) t → Steps p.tables e below (s₁.setTop (entryFrame m #[(.int p0), (.int p1), (.int p2), (.int p3), (.int p4), (.int p5)] maxLocals)) t := fun t kt => pre41 t (by
              show Steps p.tables e below (T38.setTop (mkF m 143 #[.val (.int p0), .val (.int p1), .val (.int p2), .val (.int p3), .val (.int p4), .val (.int p5), .val (.int (f1 p0)), .val (.int (f1 p1)), .val (.int (f1 p2)), .val (.int (f1 p3)), .val (.int (f1 p4)), .val (.ref b6), .val (.int (1 : Int32)), .unset, .unset] [(.int (1 : Int32)), (.int (nar .boolean ((f6_r1_a (own_upd (own_upd (own_upd (own_upd (fun _ => 0) 0 (1 : Int32)) ((f1 p0)).toNatClampNeg (1 : Int32)) ((f1 p1)).toNatClampNeg (1 : Int32)) ((f1 p2)).toNatClampNeg (1 : Int32))) ((f1 p4)).toNatClampNeg)))])) _
              refine XS.icmpNo X38.here hx rfl (hb hby at_143) rfl (teq hd143_42).2 ?_
              show Steps p.tables e below (T38.setTop (mkF m 146 #[.val (.int p0), .val (.int p1), .val (.int p2), .val (.int p3), .val (.int p4), .val (.int p5), .val (.int (f1 p0)), .val (.int (f1 p1)), .val (.int (f1 p2)), .val (.int (f1 p3)), .val (.int (f1 p4)), .val (.ref b6), .val (.int (1 : Int32)), .unset, .unset] [])) _
              refine XS.iconst X38.here hx rfl (hb hby at_146) ?_
              show Steps p.tables e below (T38.setTop (mkF m 147 #[.val (.int p0), .val (.int p1), .val (.int p2), .val (.int p3), .val (.int p4), .val (.int p5), .val (.int (f1 p0)), .val (.int (f1 p1)), .val (.int (f1 p2)), .val (.int (f1 p3)), .val (.int (f1 p4)), .val (.ref b6), .val (.int (1 : Int32)), .unset, .unset] [(.int (1 : Int32))])) _
              refine XS.goto X38.here hx rfl (pc0 := 147) (pc' := 151) rfl (hb hby at_147) (by decide) (by decide) ?_
              show Steps p.tables e below (T38.setTop (mkF m 151 #[.val (.int p0), .val (.int p1), .val (.int p2), .val (.int p3), .val (.int p4), .val (.int p5), .val (.int (f1 p0)), .val (.int (f1 p1)), .val (.int (f1 p2)), .val (.int (f1 p3)), .val (.int (f1 p4)), .val (.ref b6), .val (.int (1 : Int32)), .unset, .unset] [(.int (1 : Int32))])) _
              refine XS.istore X38.here hx rfl (hb hby at_151) rfl (l' := #[.val (.int p0), .val (.int p1), .val (.int p2), .val (.int p3), .val (.int p4), .val (.int p5), .val (.int (f1 p0)), .val (.int (f1 p1)), .val (.int (f1 p2)), .val (.int (f1 p3)), .val (.int (f1 p4)), .val (.ref b6), .val (.int (1 : Int32)), .val (.int (1 : Int32)), .unset]) rfl ?_
              show Steps p.tables e below (T38.setTop (mkF m 153 #[.val (.int p0), .val (.int p1), .val (.int p2), .val (.int p3), .val (.int p4), .val (.int p5), .val (.int (f1 p0)), .val (.int (f1 p1)), .val (.int (f1 p2)), .val (.int (f1 p3)), .val (.int (f1 p4)), .val (.ref b6), .val (.int (1 : Int32)), .val (.int (1 : Int32)), .unset] [])) _
              refine XS.aload X38.here hx rfl (hb hby at_153) rfl rfl ?_
              show Steps p.tables e below (T38.setTop (mkF m 155 #[.val (.int p0), .val (.int p1), .val (.int p2), .val (.int p3), .val (.int p4), .val (.int p5), .val (.int (f1 p0)), .val (.int (f1 p1)), .val (.int (f1 p2)), .val (.int (f1 p3)), .val (.int (f1 p4)), .val (.ref b6), .val (.int (1 : Int32)), .val (.int (1 : Int32)), .unset] [(.ref b6)])) _
              refine st43.trans ?_
              show Steps p.tables e below (T43.setTop (mkF m 158 #[.val (.int p0), .val (.int p1), .val (.int p2), .val (.int p3), .val (.int p4), .val (.int p5), .val (.int (f1 p0)), .val (.int (f1 p1)), .val (.int (f1 p2)), .val (.int (f1 p3)), .val (.int (f1 p4)), .val (.ref b6), .val (.int (1 : Int32)), .val (.int (1 : Int32)), .unset] [(.int (f8 (f6_r1_a (own_upd (own_upd (own_upd (own_upd (fun _ => 0) 0 (1 : Int32)) ((f1 p0)).toNatClampNeg (1 : Int32)) ((f1 p1)).toNatClampNeg (1 : Int32)) ((f1 p2)).toNatClampNeg (1 : Int32)))))])) _
              refine XS.iconst X43.here hx rfl (hb hby at_158) ?_
              exact kt)
          have hd159_45 : (f8 (f6_r1_a (own_upd (own_upd (own_upd (own_upd (fun _ => 0) 0 (1 : Int32)) ((f1 p0)).toNatClampNeg (1 : Int32)) ((f1 p1)).toNatClampNeg (1 : Int32)) ((f1 p2)).toNatClampNeg (1 : Int32)))) = (1 : Int32) := own_lc _
          have pre46 : ∀ t, Steps p.tables e below (T43.setTop (mkF m 171 #[.val (.int p0), .val (.int p1), .val (.int p2), .val (.int p3), .val (.int p4), .val (.int p5), .val (.int (f1 p0)), .val (.int (f1 p1)), .val (.int (f1 p2)), .val (.int (f1 p3)), .val (.int (f1 p4)), .val (.ref b6), .val (.int (1 : Int32)), .val (.int (1 : Int32)), .val (.int (1 : Int32))] [(.int (1 : Int32))])) t → Steps p.tables e below (s₁.setTop (entryFrame m #[(.int p0), (.int p1), (.int p2), (.int p3), (.int p4), (.int p5)] maxLocals)) t := fun t kt => pre44 t (by
              show Steps p.tables e below (T43.setTop (mkF m 159 #[.val (.int p0), .val (.int p1), .val (.int p2), .val (.int p3), .val (.int p4), .val (.int p5), .val (.int (f1 p0)), .val (.int (f1 p1)), .val (.int (f1 p2)), .val (.int (f1 p3)), .val (.int (f1 p4)), .val (.ref b6), .val (.int (1 : Int32)), .val (.int (1 : Int32)), .unset] [(.int (1 : Int32)), (.int (f8 (f6_r1_a (own_upd (own_upd (own_upd (own_upd (fun _ => 0) 0 (1 : Int32)) ((f1 p0)).toNatClampNeg (1 : Int32)) ((f1 p1)).toNatClampNeg (1 : Int32)) ((f1 p2)).toNatClampNeg (1 : Int32)))))])) _
              refine XS.icmpNo X43.here hx rfl (hb hby at_159) rfl (teq hd159_45).2 ?_
              show Steps p.tables e below (T43.setTop (mkF m 162 #[.val (.int p0), .val (.int p1), .val (.int p2), .val (.int p3), .val (.int p4), .val (.int p5), .val (.int (f1 p0)), .val (.int (f1 p1)), .val (.int (f1 p2)), .val (.int (f1 p3)), .val (.int (f1 p4)), .val (.ref b6), .val (.int (1 : Int32)), .val (.int (1 : Int32)), .unset] [])) _
              refine XS.iconst X43.here hx rfl (hb hby at_162) ?_
              show Steps p.tables e below (T43.setTop (mkF m 163 #[.val (.int p0), .val (.int p1), .val (.int p2), .val (.int p3), .val (.int p4), .val (.int p5), .val (.int (f1 p0)), .val (.int (f1 p1)), .val (.int (f1 p2)), .val (.int (f1 p3)), .val (.int (f1 p4)), .val (.ref b6), .val (.int (1 : Int32)), .val (.int (1 : Int32)), .unset] [(.int (1 : Int32))])) _
              refine XS.goto X43.here hx rfl (pc0 := 163) (pc' := 167) rfl (hb hby at_163) (by decide) (by decide) ?_
              show Steps p.tables e below (T43.setTop (mkF m 167 #[.val (.int p0), .val (.int p1), .val (.int p2), .val (.int p3), .val (.int p4), .val (.int p5), .val (.int (f1 p0)), .val (.int (f1 p1)), .val (.int (f1 p2)), .val (.int (f1 p3)), .val (.int (f1 p4)), .val (.ref b6), .val (.int (1 : Int32)), .val (.int (1 : Int32)), .unset] [(.int (1 : Int32))])) _
              refine XS.istore X43.here hx rfl (hb hby at_167) rfl (l' := #[.val (.int p0), .val (.int p1), .val (.int p2), .val (.int p3), .val (.int p4), .val (.int p5), .val (.int (f1 p0)), .val (.int (f1 p1)), .val (.int (f1 p2)), .val (.int (f1 p3)), .val (.int (f1 p4)), .val (.ref b6), .val (.int (1 : Int32)), .val (.int (1 : Int32)), .val (.int (1 : Int32))]) rfl ?_
              show Steps p.tables e below (T43.setTop (mkF m 169 #[.val (.int p0), .val (.int p1), .val (.int p2), .val (.int p3), .val (.int p4), .val (.int p5), .val (.int (f1 p0)), .val (.int (f1 p1)), .val (.int (f1 p2)), .val (.int (f1 p3)), .val (.int (f1 p4)), .val (.ref b6), .val (.int (1 : Int32)), .val (.int (1 : Int32)), .val (.int (1 : Int32))] [])) _
              refine XS.iload X43.here hx rfl (hb hby at_169) rfl ?_
              exact kt)
          have pre47 : ∀ t, Steps p.tables e below (T43.setTop (mkF m 176 #[.val (.int p0), .val (.int p1), .val (.int p2), .val (.int p3), .val (.int p4), .val (.int p5), .val (.int (f1 p0)), .val (.int (f1 p1)), .val (.int (f1 p2)), .val (.int (f1 p3)), .val (.int (f1 p4)), .val (.ref b6), .val (.int (1 : Int32)), .val (.int (1 : Int32)), .val (.int (1 : Int32))] [(.int (1 : Int32))])) t → Steps p.tables e below (s₁.setTop (entryFrame m #[(.int p0), (.int p1), (.int p2), (.int p3), (.int p4), (.int p5)] maxLocals)) t := fun t kt => pre46 t (by
              show Steps p.tables e below (T43.setTop (mkF m 171 #[.val (.int p0), .val (.int p1), .val (.int p2), .val (.int p3), .val (.int p4), .val (.int p5), .val (.int (f1 p0)), .val (.int (f1 p1)), .val (.int (f1 p2)), .val (.int (f1 p3)), .val (.int (f1 p4)), .val (.ref b6), .val (.int (1 : Int32)), .val (.int (1 : Int32)), .val (.int (1 : Int32))] [(.int (1 : Int32))])) _
              refine XS.ifNo X43.here hx rfl (hb hby at_171) rfl ((if0 _ _).trans (feq (by decide : ¬ ((1 : Int32) = (0 : Int32)))).1) ?_
              show Steps p.tables e below (T43.setTop (mkF m 174 #[.val (.int p0), .val (.int p1), .val (.int p2), .val (.int p3), .val (.int p4), .val (.int p5), .val (.int (f1 p0)), .val (.int (f1 p1)), .val (.int (f1 p2)), .val (.int (f1 p3)), .val (.int (f1 p4)), .val (.ref b6), .val (.int (1 : Int32)), .val (.int (1 : Int32)), .val (.int (1 : Int32))] [])) _
              refine XS.iload X43.here hx rfl (hb hby at_174) rfl ?_
              exact kt)
          have pre48 : ∀ t, Steps p.tables e below (T43.setTop (mkF m 181 #[.val (.int p0), .val (.int p1), .val (.int p2), .val (.int p3), .val (.int p4), .val (.int p5), .val (.int (f1 p0)), .val (.int (f1 p1)), .val (.int (f1 p2)), .val (.int (f1 p3)), .val (.int (f1 p4)), .val (.ref b6), .val (.int (1 : Int32)), .val (.int (1 : Int32)), .val (.int (1 : Int32))] [(.int (1 : Int32))])) t → Steps p.tables e below (s₁.setTop (entryFrame m #[(.int p0), (.int p1), (.int p2), (.int p3), (.int p4), (.int p5)] maxLocals)) t := fun t kt => pre47 t (by
              show Steps p.tables e below (T43.setTop (mkF m 176 #[.val (.int p0), .val (.int p1), .val (.int p2), .val (.int p3), .val (.int p4), .val (.int p5), .val (.int (f1 p0)), .val (.int (f1 p1)), .val (.int (f1 p2)), .val (.int (f1 p3)), .val (.int (f1 p4)), .val (.ref b6), .val (.int (1 : Int32)), .val (.int (1 : Int32)), .val (.int (1 : Int32))] [(.int (1 : Int32))])) _
              refine XS.ifNo X43.here hx rfl (hb hby at_176) rfl ((if0 _ _).trans (feq (by decide : ¬ ((1 : Int32) = (0 : Int32)))).1) ?_
              show Steps p.tables e below (T43.setTop (mkF m 179 #[.val (.int p0), .val (.int p1), .val (.int p2), .val (.int p3), .val (.int p4), .val (.int p5), .val (.int (f1 p0)), .val (.int (f1 p1)), .val (.int (f1 p2)), .val (.int (f1 p3)), .val (.int (f1 p4)), .val (.ref b6), .val (.int (1 : Int32)), .val (.int (1 : Int32)), .val (.int (1 : Int32))] [])) _
              refine XS.iload X43.here hx rfl (hb hby at_179) rfl ?_
              exact kt)
          obtain ⟨fs, hr, hrun, hended, hW, hsame⟩ := X43.leave (v := some (.int (1 : Int32))) (fun h => by rw [Bd.returns] at h; cases h)
          have hv239 : (1 : Int32) = (1 : Int32) := rfl
          refine ⟨_, _, pre48 _ ?_, hrun, hended, _, _, rfl, ?_, ⟨_, rfl⟩, hW, hsame.mono (by decide) (by decide)⟩
          · show Steps p.tables e below (T43.setTop (mkF m 181 #[.val (.int p0), .val (.int p1), .val (.int p2), .val (.int p3), .val (.int p4), .val (.int p5), .val (.int (f1 p0)), .val (.int (f1 p1)), .val (.int (f1 p2)), .val (.int (f1 p3)), .val (.int (f1 p4)), .val (.ref b6), .val (.int (1 : Int32)), .val (.int (1 : Int32)), .val (.int (1 : Int32))] [(.int (1 : Int32))])) _
            refine XS.ifNo X43.here hx rfl (hb hby at_181) rfl ((if0 _ _).trans (feq (by decide : ¬ ((1 : Int32) = (0 : Int32)))).1) ?_
            show Steps p.tables e below (T43.setTop (mkF m 184 #[.val (.int p0), .val (.int p1), .val (.int p2), .val (.int p3), .val (.int p4), .val (.int p5), .val (.int (f1 p0)), .val (.int (f1 p1)), .val (.int (f1 p2)), .val (.int (f1 p3)), .val (.int (f1 p4)), .val (.ref b6), .val (.int (1 : Int32)), .val (.int (1 : Int32)), .val (.int (1 : Int32))] [])) _
            refine XS.iconst X43.here hx rfl (hb hby at_184) ?_
            show Steps p.tables e below (T43.setTop (mkF m 185 #[.val (.int p0), .val (.int p1), .val (.int p2), .val (.int p3), .val (.int p4), .val (.int p5), .val (.int (f1 p0)), .val (.int (f1 p1)), .val (.int (f1 p2)), .val (.int (f1 p3)), .val (.int (f1 p4)), .val (.ref b6), .val (.int (1 : Int32)), .val (.int (1 : Int32)), .val (.int (1 : Int32))] [(.int (1 : Int32))])) _
            refine XS.goto X43.here hx rfl (pc0 := 185) (pc' := 189) rfl (hb hby at_185) (by decide) (by decide) ?_
            show Steps p.tables e below (T43.setTop (mkF m 189 #[.val (.int p0), .val (.int p1), .val (.int p2), .val (.int p3), .val (.int p4), .val (.int p5), .val (.int (f1 p0)), .val (.int (f1 p1)), .val (.int (f1 p2)), .val (.int (f1 p3)), .val (.int (f1 p4)), .val (.ref b6), .val (.int (1 : Int32)), .val (.int (1 : Int32)), .val (.int (1 : Int32))] [(.int (1 : Int32))])) _
            exact retN X43 hx (t := .boolean) Bd.returns (by simp) (hb hby at_189) hr
          · show Q0 Z p0 p1 p2 p3 p4 p5 h0 n0 _ T43.heap _
            rw [e43q]
            exact ⟨congrArg (fun q => some (Value.int q)) hv239, N43⟩
        · have pre49 : ∀ t, Steps p.tables e below (T38.setTop (mkF m 143 #[.val (.int p0), .val (.int p1), .val (.int p2), .val (.int p3), .val (.int p4), .val (.int p5), .val (.int (f1 p0)), .val (.int (f1 p1)), .val (.int (f1 p2)), .val (.int (f1 p3)), .val (.int (f1 p4)), .val (.ref b6), .val (.int (1 : Int32)), .unset, .unset] [(.int (0 : Int32)), (.int (nar .boolean ((f6_r1_a (own_upd (own_upd (own_upd (own_upd (fun _ => 0) 0 (1 : Int32)) ((f1 p0)).toNatClampNeg (1 : Int32)) ((f1 p1)).toNatClampNeg (1 : Int32)) ((f1 p2)).toNatClampNeg (1 : Int32))) ((f1 p4)).toNatClampNeg)))])) t → Steps p.tables e below (s₁.setTop (entryFrame m #[(.int p0), (.int p1), (.int p2), (.int p3), (.int p4), (.int p5)] maxLocals)) t := fun t kt => pre39 t (by
              show Steps p.tables e below (T38.setTop (mkF m 135 #[.val (.int p0), .val (.int p1), .val (.int p2), .val (.int p3), .val (.int p4), .val (.int p5), .val (.int (f1 p0)), .val (.int (f1 p1)), .val (.int (f1 p2)), .val (.int (f1 p3)), .val (.int (f1 p4)), .val (.ref b6), .val (.int (1 : Int32)), .unset, .unset] [(.int (f1 p4)), (.int (nar .boolean ((f6_r1_a (own_upd (own_upd (own_upd (own_upd (fun _ => 0) 0 (1 : Int32)) ((f1 p0)).toNatClampNeg (1 : Int32)) ((f1 p1)).toNatClampNeg (1 : Int32)) ((f1 p2)).toNatClampNeg (1 : Int32))) ((f1 p4)).toNatClampNeg)))])) _
              refine XS.ifYes X38.here hx rfl (pc0 := 135) (pc' := 142) rfl (hb hby at_135) rfl ((if0 _ _).trans (feq hc135_40).2) (by decide) (by decide) ?_
              show Steps p.tables e below (T38.setTop (mkF m 142 #[.val (.int p0), .val (.int p1), .val (.int p2), .val (.int p3), .val (.int p4), .val (.int p5), .val (.int (f1 p0)), .val (.int (f1 p1)), .val (.int (f1 p2)), .val (.int (f1 p3)), .val (.int (f1 p4)), .val (.ref b6), .val (.int (1 : Int32)), .unset, .unset] [(.int (nar .boolean ((f6_r1_a (own_upd (own_upd (own_upd (own_upd (fun _ => 0) 0 (1 : Int32)) ((f1 p0)).toNatClampNeg (1 : Int32)) ((f1 p1)).toNatClampNeg (1 : Int32)) ((f1 p2)).toNatClampNeg (1 : Int32))) ((f1 p4)).toNatClampNeg)))])) _
              refine XS.iconst X38.here hx rfl (hb hby at_142) ?_
              exact kt)
          have hd143_50 : (nar .boolean ((f6_r1_a (own_upd (own_upd (own_upd (own_upd (fun _ => 0) 0 (1 : Int32)) ((f1 p0)).toNatClampNeg (1 : Int32)) ((f1 p1)).toNatClampNeg (1 : Int32)) ((f1 p2)).toNatClampNeg (1 : Int32))) ((f1 p4)).toNatClampNeg)) = (0 : Int32) := own_is1 _ (own_ch _) hc135_40
          obtain ⟨cq51, kq51, q51a, q51b, q51c⟩ := isOf hZ e38q c33
          obtain ⟨_, _, ⟨T51, L51, k51, n51⟩, -, X51, ⟨Lc51, hQ51, l51, y51, z51⟩, st51⟩ := X38.virtualBack hx (y := (⟨"com/example/cardhost/cardhost/LogicalChannels", "lowestClosed", "()I"⟩ : MethodName)) (z := (⟨"com/example/cardhost/cardhost/LogicalChannels", "lowestClosed", "()I"⟩ : MethodName)) hown (mvT hZ (hw _ (List.mem_of_getElem? (i := 43) rfl))) (mvT hZ (hw _ (List.mem_of_getElem? (i := 44) rfl))) (notFace_of_selects (args := #[]) (mvT hZ (hw _ (List.mem_of_getElem? (i := 46) rfl)))) (mvT hZ (hw _ (List.mem_of_getElem? (i := 46) rfl))) (mvT hZ (hw _ (List.mem_of_getElem? (i := 45) rfl))) (by decide) (backOf (W := 0) (rm8 l Z a0 hw [] b6 r_o0_open_9 (f6_r1_a (own_upd (own_upd (own_upd (own_upd (fun _ => 0) 0 (1 : Int32)) ((f1 p0)).toNatClampNeg (1 : Int32)) ((f1 p1)).toNatClampNeg (1 : Int32)) ((f1 p2)).toNatClampNeg (1 : Int32))) T24.heap n0 Z28 c32 G24_0 g_r_o0_open_9) hZ (hw _ (List.mem_of_getElem? (i := 47) rfl)) (hw _ (List.mem_of_getElem? (i := 7) rfl)) (by decide) (by decide)) q51a q51c (g := (mkF m 155 #[.val (.int p0), .val (.int p1), .val (.int p2), .val (.int p3), .val (.int p4), .val (.int p5), .val (.int (f1 p0)), .val (.int (f1 p1)), .val (.int (f1 p2)), .val (.int (f1 p3)), .val (.int (f1 p4)), .val (.ref b6), .val (.int (1 : Int32)), .val (.int (1 : Int32)), .unset] [(.ref b6)])) rfl (by rw [hml]; rfl) (Steps.refl _) (argsL := []) (rest := []) (lenOf pd_0_4 rfl) rfl (by show 2 * 0 + _ ≤ _; exact Nat.le_of_eq rfl) (hb hby at_155) (fun _ _ => ⟨rfl, e38q, (by decide : 4 + 0 ≤ _), (by decide : 63 + 0 ≤ _)⟩)
          dsimp only [Pt.U, Pt.locs, Pt.cells, Pt.slots] at X51 l51 y51 z51 st51 hQ51
          subst l51 y51 z51
          obtain ⟨rfl, N51q, e51q⟩ := hQ51
          have N51 := Fr.app N38 N51q
          have pre52 : ∀ t, Steps p.tables e below (T51.setTop (mkF m 159 #[.val (.int p0), .val (.int p1), .val (.int p2), .val (.int p3), .val (.int p4), .val (.int p5), .val (.int (f1 p0)), .val (.int (f1 p1)), .val (.int (f1 p2)), .val (.int (f1 p3)), .val (.int (f1 p4)), .val (.ref b6), .val (.int (1 : Int32)), .val (.int (1 : Int32)), .unset] [(.int (1 : Int32)), (.int (f8 (f6_r1_a (own_upd (own_upd (own_upd (own_upd (fun _ => 0) 0 (1 : Int32)) ((f1 p0)).toNatClampNeg (1 : Int32)) ((f1 p1)).toNatClampNeg (1 : Int32)) ((f1 p2)).toNatClampNeg (1 : Int32)))))])) t → Steps p.tables e below (s₁.setTop (entryFrame m #[(.int p0), (.int p1), (.int p2), (.int p3), (.int p4), (.int p5)] maxLocals)) t := fun t kt => pre49 t (by
              show Steps p.tables e below (T38.setTop (mkF m 143 #[.val (.int p0), .val (.int p1), .val (.int p2), .val (.int p3), .val (.int p4), .val (.int p5), .val (.int (f1 p0)), .val (.int (f1 p1)), .val (.int (f1 p2)), .val (.int (f1 p3)), .val (.int (f1 p4)), .val (.ref b6), .val (.int (1 : Int32)), .unset, .unset] [(.int (0 : Int32)), (.int (nar .boolean ((f6_r1_a (own_upd (own_upd (own_upd (own_upd (fun _ => 0) 0 (1 : Int32)) ((f1 p0)).toNatClampNeg (1 : Int32)) ((f1 p1)).toNatClampNeg (1 : Int32)) ((f1 p2)).toNatClampNeg (1 : Int32))) ((f1 p4)).toNatClampNeg)))])) _
              refine XS.icmpNo X38.here hx rfl (hb hby at_143) rfl (teq hd143_50).2 ?_
              show Steps p.tables e below (T38.setTop (mkF m 146 #[.val (.int p0), .val (.int p1), .val (.int p2), .val (.int p3), .val (.int p4), .val (.int p5), .val (.int (f1 p0)), .val (.int (f1 p1)), .val (.int (f1 p2)), .val (.int (f1 p3)), .val (.int (f1 p4)), .val (.ref b6), .val (.int (1 : Int32)), .unset, .unset] [])) _
              refine XS.iconst X38.here hx rfl (hb hby at_146) ?_
              show Steps p.tables e below (T38.setTop (mkF m 147 #[.val (.int p0), .val (.int p1), .val (.int p2), .val (.int p3), .val (.int p4), .val (.int p5), .val (.int (f1 p0)), .val (.int (f1 p1)), .val (.int (f1 p2)), .val (.int (f1 p3)), .val (.int (f1 p4)), .val (.ref b6), .val (.int (1 : Int32)), .unset, .unset] [(.int (1 : Int32))])) _
              refine XS.goto X38.here hx rfl (pc0 := 147) (pc' := 151) rfl (hb hby at_147) (by decide) (by decide) ?_
              show Steps p.tables e below (T38.setTop (mkF m 151 #[.val (.int p0), .val (.int p1), .val (.int p2), .val (.int p3), .val (.int p4), .val (.int p5), .val (.int (f1 p0)), .val (.int (f1 p1)), .val (.int (f1 p2)), .val (.int (f1 p3)), .val (.int (f1 p4)), .val (.ref b6), .val (.int (1 : Int32)), .unset, .unset] [(.int (1 : Int32))])) _
              refine XS.istore X38.here hx rfl (hb hby at_151) rfl (l' := #[.val (.int p0), .val (.int p1), .val (.int p2), .val (.int p3), .val (.int p4), .val (.int p5), .val (.int (f1 p0)), .val (.int (f1 p1)), .val (.int (f1 p2)), .val (.int (f1 p3)), .val (.int (f1 p4)), .val (.ref b6), .val (.int (1 : Int32)), .val (.int (1 : Int32)), .unset]) rfl ?_
              show Steps p.tables e below (T38.setTop (mkF m 153 #[.val (.int p0), .val (.int p1), .val (.int p2), .val (.int p3), .val (.int p4), .val (.int p5), .val (.int (f1 p0)), .val (.int (f1 p1)), .val (.int (f1 p2)), .val (.int (f1 p3)), .val (.int (f1 p4)), .val (.ref b6), .val (.int (1 : Int32)), .val (.int (1 : Int32)), .unset] [])) _
              refine XS.aload X38.here hx rfl (hb hby at_153) rfl rfl ?_
              show Steps p.tables e below (T38.setTop (mkF m 155 #[.val (.int p0), .val (.int p1), .val (.int p2), .val (.int p3), .val (.int p4), .val (.int p5), .val (.int (f1 p0)), .val (.int (f1 p1)), .val (.int (f1 p2)), .val (.int (f1 p3)), .val (.int (f1 p4)), .val (.ref b6), .val (.int (1 : Int32)), .val (.int (1 : Int32)), .unset] [(.ref b6)])) _
              refine st51.trans ?_
              show Steps p.tables e below (T51.setTop (mkF m 158 #[.val (.int p0), .val (.int p1), .val (.int p2), .val (.int p3), .val (.int p4), .val (.int p5), .val (.int (f1 p0)), .val (.int (f1 p1)), .val (.int (f1 p2)), .val (.int (f1 p3)), .val (.int (f1 p4)), .val (.ref b6), .val (.int (1 : Int32)), .val (.int (1 : Int32)), .unset] [(.int (f8 (f6_r1_a (own_upd (own_upd (own_upd (own_upd (fun _ => 0) 0 (1 : Int32)) ((f1 p0)).toNatClampNeg (1 : Int32)) ((f1 p1)).toNatClampNeg (1 : Int32)) ((f1 p2)).toNatClampNeg (1 : Int32)))))])) _
              refine XS.iconst X51.here hx rfl (hb hby at_158) ?_
              exact kt)
          have hd159_53 : (f8 (f6_r1_a (own_upd (own_upd (own_upd (own_upd (fun _ => 0) 0 (1 : Int32)) ((f1 p0)).toNatClampNeg (1 : Int32)) ((f1 p1)).toNatClampNeg (1 : Int32)) ((f1 p2)).toNatClampNeg (1 : Int32)))) = (1 : Int32) := own_lc _
          have pre54 : ∀ t, Steps p.tables e below (T51.setTop (mkF m 171 #[.val (.int p0), .val (.int p1), .val (.int p2), .val (.int p3), .val (.int p4), .val (.int p5), .val (.int (f1 p0)), .val (.int (f1 p1)), .val (.int (f1 p2)), .val (.int (f1 p3)), .val (.int (f1 p4)), .val (.ref b6), .val (.int (1 : Int32)), .val (.int (1 : Int32)), .val (.int (1 : Int32))] [(.int (1 : Int32))])) t → Steps p.tables e below (s₁.setTop (entryFrame m #[(.int p0), (.int p1), (.int p2), (.int p3), (.int p4), (.int p5)] maxLocals)) t := fun t kt => pre52 t (by
              show Steps p.tables e below (T51.setTop (mkF m 159 #[.val (.int p0), .val (.int p1), .val (.int p2), .val (.int p3), .val (.int p4), .val (.int p5), .val (.int (f1 p0)), .val (.int (f1 p1)), .val (.int (f1 p2)), .val (.int (f1 p3)), .val (.int (f1 p4)), .val (.ref b6), .val (.int (1 : Int32)), .val (.int (1 : Int32)), .unset] [(.int (1 : Int32)), (.int (f8 (f6_r1_a (own_upd (own_upd (own_upd (own_upd (fun _ => 0) 0 (1 : Int32)) ((f1 p0)).toNatClampNeg (1 : Int32)) ((f1 p1)).toNatClampNeg (1 : Int32)) ((f1 p2)).toNatClampNeg (1 : Int32)))))])) _
              refine XS.icmpNo X51.here hx rfl (hb hby at_159) rfl (teq hd159_53).2 ?_
              show Steps p.tables e below (T51.setTop (mkF m 162 #[.val (.int p0), .val (.int p1), .val (.int p2), .val (.int p3), .val (.int p4), .val (.int p5), .val (.int (f1 p0)), .val (.int (f1 p1)), .val (.int (f1 p2)), .val (.int (f1 p3)), .val (.int (f1 p4)), .val (.ref b6), .val (.int (1 : Int32)), .val (.int (1 : Int32)), .unset] [])) _
              refine XS.iconst X51.here hx rfl (hb hby at_162) ?_
              show Steps p.tables e below (T51.setTop (mkF m 163 #[.val (.int p0), .val (.int p1), .val (.int p2), .val (.int p3), .val (.int p4), .val (.int p5), .val (.int (f1 p0)), .val (.int (f1 p1)), .val (.int (f1 p2)), .val (.int (f1 p3)), .val (.int (f1 p4)), .val (.ref b6), .val (.int (1 : Int32)), .val (.int (1 : Int32)), .unset] [(.int (1 : Int32))])) _
              refine XS.goto X51.here hx rfl (pc0 := 163) (pc' := 167) rfl (hb hby at_163) (by decide) (by decide) ?_
              show Steps p.tables e below (T51.setTop (mkF m 167 #[.val (.int p0), .val (.int p1), .val (.int p2), .val (.int p3), .val (.int p4), .val (.int p5), .val (.int (f1 p0)), .val (.int (f1 p1)), .val (.int (f1 p2)), .val (.int (f1 p3)), .val (.int (f1 p4)), .val (.ref b6), .val (.int (1 : Int32)), .val (.int (1 : Int32)), .unset] [(.int (1 : Int32))])) _
              refine XS.istore X51.here hx rfl (hb hby at_167) rfl (l' := #[.val (.int p0), .val (.int p1), .val (.int p2), .val (.int p3), .val (.int p4), .val (.int p5), .val (.int (f1 p0)), .val (.int (f1 p1)), .val (.int (f1 p2)), .val (.int (f1 p3)), .val (.int (f1 p4)), .val (.ref b6), .val (.int (1 : Int32)), .val (.int (1 : Int32)), .val (.int (1 : Int32))]) rfl ?_
              show Steps p.tables e below (T51.setTop (mkF m 169 #[.val (.int p0), .val (.int p1), .val (.int p2), .val (.int p3), .val (.int p4), .val (.int p5), .val (.int (f1 p0)), .val (.int (f1 p1)), .val (.int (f1 p2)), .val (.int (f1 p3)), .val (.int (f1 p4)), .val (.ref b6), .val (.int (1 : Int32)), .val (.int (1 : Int32)), .val (.int (1 : Int32))] [])) _
              refine XS.iload X51.here hx rfl (hb hby at_169) rfl ?_
              exact kt)
          have pre55 : ∀ t, Steps p.tables e below (T51.setTop (mkF m 176 #[.val (.int p0), .val (.int p1), .val (.int p2), .val (.int p3), .val (.int p4), .val (.int p5), .val (.int (f1 p0)), .val (.int (f1 p1)), .val (.int (f1 p2)), .val (.int (f1 p3)), .val (.int (f1 p4)), .val (.ref b6), .val (.int (1 : Int32)), .val (.int (1 : Int32)), .val (.int (1 : Int32))] [(.int (1 : Int32))])) t → Steps p.tables e below (s₁.setTop (entryFrame m #[(.int p0), (.int p1), (.int p2), (.int p3), (.int p4), (.int p5)] maxLocals)) t := fun t kt => pre54 t (by
              show Steps p.tables e below (T51.setTop (mkF m 171 #[.val (.int p0), .val (.int p1), .val (.int p2), .val (.int p3), .val (.int p4), .val (.int p5), .val (.int (f1 p0)), .val (.int (f1 p1)), .val (.int (f1 p2)), .val (.int (f1 p3)), .val (.int (f1 p4)), .val (.ref b6), .val (.int (1 : Int32)), .val (.int (1 : Int32)), .val (.int (1 : Int32))] [(.int (1 : Int32))])) _
              refine XS.ifNo X51.here hx rfl (hb hby at_171) rfl ((if0 _ _).trans (feq (by decide : ¬ ((1 : Int32) = (0 : Int32)))).1) ?_
              show Steps p.tables e below (T51.setTop (mkF m 174 #[.val (.int p0), .val (.int p1), .val (.int p2), .val (.int p3), .val (.int p4), .val (.int p5), .val (.int (f1 p0)), .val (.int (f1 p1)), .val (.int (f1 p2)), .val (.int (f1 p3)), .val (.int (f1 p4)), .val (.ref b6), .val (.int (1 : Int32)), .val (.int (1 : Int32)), .val (.int (1 : Int32))] [])) _
              refine XS.iload X51.here hx rfl (hb hby at_174) rfl ?_
              exact kt)
          have pre56 : ∀ t, Steps p.tables e below (T51.setTop (mkF m 181 #[.val (.int p0), .val (.int p1), .val (.int p2), .val (.int p3), .val (.int p4), .val (.int p5), .val (.int (f1 p0)), .val (.int (f1 p1)), .val (.int (f1 p2)), .val (.int (f1 p3)), .val (.int (f1 p4)), .val (.ref b6), .val (.int (1 : Int32)), .val (.int (1 : Int32)), .val (.int (1 : Int32))] [(.int (1 : Int32))])) t → Steps p.tables e below (s₁.setTop (entryFrame m #[(.int p0), (.int p1), (.int p2), (.int p3), (.int p4), (.int p5)] maxLocals)) t := fun t kt => pre55 t (by
              show Steps p.tables e below (T51.setTop (mkF m 176 #[.val (.int p0), .val (.int p1), .val (.int p2), .val (.int p3), .val (.int p4), .val (.int p5), .val (.int (f1 p0)), .val (.int (f1 p1)), .val (.int (f1 p2)), .val (.int (f1 p3)), .val (.int (f1 p4)), .val (.ref b6), .val (.int (1 : Int32)), .val (.int (1 : Int32)), .val (.int (1 : Int32))] [(.int (1 : Int32))])) _
              refine XS.ifNo X51.here hx rfl (hb hby at_176) rfl ((if0 _ _).trans (feq (by decide : ¬ ((1 : Int32) = (0 : Int32)))).1) ?_
              show Steps p.tables e below (T51.setTop (mkF m 179 #[.val (.int p0), .val (.int p1), .val (.int p2), .val (.int p3), .val (.int p4), .val (.int p5), .val (.int (f1 p0)), .val (.int (f1 p1)), .val (.int (f1 p2)), .val (.int (f1 p3)), .val (.int (f1 p4)), .val (.ref b6), .val (.int (1 : Int32)), .val (.int (1 : Int32)), .val (.int (1 : Int32))] [])) _
              refine XS.iload X51.here hx rfl (hb hby at_179) rfl ?_
              exact kt)
          obtain ⟨fs, hr, hrun, hended, hW, hsame⟩ := X51.leave (v := some (.int (1 : Int32))) (fun h => by rw [Bd.returns] at h; cases h)
          have hv240 : (1 : Int32) = (1 : Int32) := rfl
          refine ⟨_, _, pre56 _ ?_, hrun, hended, _, _, rfl, ?_, ⟨_, rfl⟩, hW, hsame.mono (by decide) (by decide)⟩
          · show Steps p.tables e below (T51.setTop (mkF m 181 #[.val (.int p0), .val (.int p1), .val (.int p2), .val (.int p3), .val (.int p4), .val (.int p5), .val (.int (f1 p0)), .val (.int (f1 p1)), .val (.int (f1 p2)), .val (.int (f1 p3)), .val (.int (f1 p4)), .val (.ref b6), .val (.int (1 : Int32)), .val (.int (1 : Int32)), .val (.int (1 : Int32))] [(.int (1 : Int32))])) _
            refine XS.ifNo X51.here hx rfl (hb hby at_181) rfl ((if0 _ _).trans (feq (by decide : ¬ ((1 : Int32) = (0 : Int32)))).1) ?_
            show Steps p.tables e below (T51.setTop (mkF m 184 #[.val (.int p0), .val (.int p1), .val (.int p2), .val (.int p3), .val (.int p4), .val (.int p5), .val (.int (f1 p0)), .val (.int (f1 p1)), .val (.int (f1 p2)), .val (.int (f1 p3)), .val (.int (f1 p4)), .val (.ref b6), .val (.int (1 : Int32)), .val (.int (1 : Int32)), .val (.int (1 : Int32))] [])) _
            refine XS.iconst X51.here hx rfl (hb hby at_184) ?_
            show Steps p.tables e below (T51.setTop (mkF m 185 #[.val (.int p0), .val (.int p1), .val (.int p2), .val (.int p3), .val (.int p4), .val (.int p5), .val (.int (f1 p0)), .val (.int (f1 p1)), .val (.int (f1 p2)), .val (.int (f1 p3)), .val (.int (f1 p4)), .val (.ref b6), .val (.int (1 : Int32)), .val (.int (1 : Int32)), .val (.int (1 : Int32))] [(.int (1 : Int32))])) _
            refine XS.goto X51.here hx rfl (pc0 := 185) (pc' := 189) rfl (hb hby at_185) (by decide) (by decide) ?_
            show Steps p.tables e below (T51.setTop (mkF m 189 #[.val (.int p0), .val (.int p1), .val (.int p2), .val (.int p3), .val (.int p4), .val (.int p5), .val (.int (f1 p0)), .val (.int (f1 p1)), .val (.int (f1 p2)), .val (.int (f1 p3)), .val (.int (f1 p4)), .val (.ref b6), .val (.int (1 : Int32)), .val (.int (1 : Int32)), .val (.int (1 : Int32))] [(.int (1 : Int32))])) _
            exact retN X51 hx (t := .boolean) Bd.returns (by simp) (hb hby at_189) hr
          · show Q0 Z p0 p1 p2 p3 p4 p5 h0 n0 _ T51.heap _
            rw [e51q]
            exact ⟨congrArg (fun q => some (Value.int q)) hv240, N51⟩
      · have pre57 : ∀ t, Steps p.tables e below (T31.setTop (mkF m 116 #[.val (.int p0), .val (.int p1), .val (.int p2), .val (.int p3), .val (.int p4), .val (.int p5), .val (.int (f1 p0)), .val (.int (f1 p1)), .val (.int (f1 p2)), .val (.int (f1 p3)), .val (.int (f1 p4)), .val (.ref b6), .unset, .unset, .unset] [(.int (0 : Int32)), (.int (nar .boolean ((f6_r1_a (own_upd (own_upd (own_upd (own_upd (fun _ => 0) 0 (1 : Int32)) ((f1 p0)).toNatClampNeg (1 : Int32)) ((f1 p1)).toNatClampNeg (1 : Int32)) ((f1 p2)).toNatClampNeg (1 : Int32))) ((f1 p3)).toNatClampNeg)))])) t → Steps p.tables e below (s₁.setTop (entryFrame m #[(.int p0), (.int p1), (.int p2), (.int p3), (.int p4), (.int p5)] maxLocals)) t := fun t kt => pre34 t (by
            show Steps p.tables e below (T31.setTop (mkF m 108 #[.val (.int p0), .val (.int p1), .val (.int p2), .val (.int p3), .val (.int p4), .val (.int p5), .val (.int (f1 p0)), .val (.int (f1 p1)), .val (.int (f1 p2)), .val (.int (f1 p3)), .val (.int (f1 p4)), .val (.ref b6), .unset, .unset, .unset] [(.int (f1 p3)), (.int (nar .boolean ((f6_r1_a (own_upd (own_upd (own_upd (own_upd (fun _ => 0) 0 (1 : Int32)) ((f1 p0)).toNatClampNeg (1 : Int32)) ((f1 p1)).toNatClampNeg (1 : Int32)) ((f1 p2)).toNatClampNeg (1 : Int32))) ((f1 p3)).toNatClampNeg)))])) _
            refine XS.ifYes X31.here hx rfl (pc0 := 108) (pc' := 115) rfl (hb hby at_108) rfl ((if0 _ _).trans (feq hc108_35).2) (by decide) (by decide) ?_
            show Steps p.tables e below (T31.setTop (mkF m 115 #[.val (.int p0), .val (.int p1), .val (.int p2), .val (.int p3), .val (.int p4), .val (.int p5), .val (.int (f1 p0)), .val (.int (f1 p1)), .val (.int (f1 p2)), .val (.int (f1 p3)), .val (.int (f1 p4)), .val (.ref b6), .unset, .unset, .unset] [(.int (nar .boolean ((f6_r1_a (own_upd (own_upd (own_upd (own_upd (fun _ => 0) 0 (1 : Int32)) ((f1 p0)).toNatClampNeg (1 : Int32)) ((f1 p1)).toNatClampNeg (1 : Int32)) ((f1 p2)).toNatClampNeg (1 : Int32))) ((f1 p3)).toNatClampNeg)))])) _
            refine XS.iconst X31.here hx rfl (hb hby at_115) ?_
            exact kt)
        have hd116_58 : (nar .boolean ((f6_r1_a (own_upd (own_upd (own_upd (own_upd (fun _ => 0) 0 (1 : Int32)) ((f1 p0)).toNatClampNeg (1 : Int32)) ((f1 p1)).toNatClampNeg (1 : Int32)) ((f1 p2)).toNatClampNeg (1 : Int32))) ((f1 p3)).toNatClampNeg)) = (0 : Int32) := own_is1 _ (own_ch _) hc108_35
        obtain ⟨cq59, kq59, q59a, q59b, q59c⟩ := isOf hZ e31q c33
        obtain ⟨_, _, ⟨T59, L59, k59, n59⟩, -, X59, ⟨Lc59, hQ59, l59, y59, z59⟩, st59⟩ := X31.virtualBack hx (y := (⟨"com/example/cardhost/cardhost/LogicalChannels", "isOpen", "(I)Z"⟩ : MethodName)) (z := (⟨"com/example/cardhost/cardhost/LogicalChannels", "isOpen", "(I)Z"⟩ : MethodName)) hown (mvT hZ (hw _ (List.mem_of_getElem? (i := 38) rfl))) (mvT hZ (hw _ (List.mem_of_getElem? (i := 39) rfl))) (notFace_of_selects (args := #[]) (mvT hZ (hw _ (List.mem_of_getElem? (i := 41) rfl)))) (mvT hZ (hw _ (List.mem_of_getElem? (i := 41) rfl))) (mvT hZ (hw _ (List.mem_of_getElem? (i := 40) rfl))) (by decide) (backOf (W := 0) (rm7 l Z a0 hw [] b6 (f1 p4) r_o0_open_9 (f6_r1_a (own_upd (own_upd (own_upd (own_upd (fun _ => 0) 0 (1 : Int32)) ((f1 p0)).toNatClampNeg (1 : Int32)) ((f1 p1)).toNatClampNeg (1 : Int32)) ((f1 p2)).toNatClampNeg (1 : Int32))) T24.heap n0 Z28 c32 G24_0 g_r_o0_open_9 (own_ch _)) hZ (hw _ (List.mem_of_getElem? (i := 42) rfl)) (hw _ (List.mem_of_getElem? (i := 7) rfl)) (by decide) (by decide)) q59a q59c (g := (mkF m 130 #[.val (.int p0), .val (.int p1), .val (.int p2), .val (.int p3), .val (.int p4), .val (.int p5), .val (.int (f1 p0)), .val (.int (f1 p1)), .val (.int (f1 p2)), .val (.int (f1 p3)), .val (.int (f1 p4)), .val (.ref b6), .val (.int (1 : Int32)), .unset, .unset] [(.int (f1 p4)), (.ref b6)])) rfl (by rw [hml]; rfl) (Steps.refl _) (argsL := [(.int (f1 p4))]) (rest := []) (lenOf pd_0_3 rfl) rfl (by show 2 * 0 + _ ≤ _; exact Nat.le_of_eq rfl) (hb hby at_130) (fun _ _ => ⟨rfl, e31q, (by decide : 4 + 0 ≤ _), (by decide : 63 + 0 ≤ _)⟩)
        dsimp only [Pt.U, Pt.locs, Pt.cells, Pt.slots] at X59 l59 y59 z59 st59 hQ59
        subst l59 y59 z59
        obtain ⟨rfl, N59q, e59q⟩ := hQ59
        have N59 := Fr.app N31 N59q
        have pre60 : ∀ t, Steps p.tables e below (T59.setTop (mkF m 135 #[.val (.int p0), .val (.int p1), .val (.int p2), .val (.int p3), .val (.int p4), .val (.int p5), .val (.int (f1 p0)), .val (.int (f1 p1)), .val (.int (f1 p2)), .val (.int (f1 p3)), .val (.int (f1 p4)), .val (.ref b6), .val (.int (1 : Int32)), .unset, .unset] [(.int (f1 p4)), (.int (nar .boolean ((f6_r1_a (own_upd (own_upd (own_upd (own_upd (fun _ => 0) 0 (1 : Int32)) ((f1 p0)).toNatClampNeg (1 : Int32)) ((f1 p1)).toNatClampNeg (1 : Int32)) ((f1 p2)).toNatClampNeg (1 : Int32))) ((f1 p4)).toNatClampNeg)))])) t → Steps p.tables e below (s₁.setTop (entryFrame m #[(.int p0), (.int p1), (.int p2), (.int p3), (.int p4), (.int p5)] maxLocals)) t := fun t kt => pre57 t (by
            show Steps p.tables e below (T31.setTop (mkF m 116 #[.val (.int p0), .val (.int p1), .val (.int p2), .val (.int p3), .val (.int p4), .val (.int p5), .val (.int (f1 p0)), .val (.int (f1 p1)), .val (.int (f1 p2)), .val (.int (f1 p3)), .val (.int (f1 p4)), .val (.ref b6), .unset, .unset, .unset] [(.int (0 : Int32)), (.int (nar .boolean ((f6_r1_a (own_upd (own_upd (own_upd (own_upd (fun _ => 0) 0 (1 : Int32)) ((f1 p0)).toNatClampNeg (1 : Int32)) ((f1 p1)).toNatClampNeg (1 : Int32)) ((f1 p2)).toNatClampNeg (1 : Int32))) ((f1 p3)).toNatClampNeg)))])) _
            refine XS.icmpNo X31.here hx rfl (hb hby at_116) rfl (teq hd116_58).2 ?_
            show Steps p.tables e below (T31.setTop (mkF m 119 #[.val (.int p0), .val (.int p1), .val (.int p2), .val (.int p3), .val (.int p4), .val (.int p5), .val (.int (f1 p0)), .val (.int (f1 p1)), .val (.int (f1 p2)), .val (.int (f1 p3)), .val (.int (f1 p4)), .val (.ref b6), .unset, .unset, .unset] [])) _
            refine XS.iconst X31.here hx rfl (hb hby at_119) ?_
            show Steps p.tables e below (T31.setTop (mkF m 120 #[.val (.int p0), .val (.int p1), .val (.int p2), .val (.int p3), .val (.int p4), .val (.int p5), .val (.int (f1 p0)), .val (.int (f1 p1)), .val (.int (f1 p2)), .val (.int (f1 p3)), .val (.int (f1 p4)), .val (.ref b6), .unset, .unset, .unset] [(.int (1 : Int32))])) _
            refine XS.goto X31.here hx rfl (pc0 := 120) (pc' := 124) rfl (hb hby at_120) (by decide) (by decide) ?_
            show Steps p.tables e below (T31.setTop (mkF m 124 #[.val (.int p0), .val (.int p1), .val (.int p2), .val (.int p3), .val (.int p4), .val (.int p5), .val (.int (f1 p0)), .val (.int (f1 p1)), .val (.int (f1 p2)), .val (.int (f1 p3)), .val (.int (f1 p4)), .val (.ref b6), .unset, .unset, .unset] [(.int (1 : Int32))])) _
            refine XS.istore X31.here hx rfl (hb hby at_124) rfl (l' := #[.val (.int p0), .val (.int p1), .val (.int p2), .val (.int p3), .val (.int p4), .val (.int p5), .val (.int (f1 p0)), .val (.int (f1 p1)), .val (.int (f1 p2)), .val (.int (f1 p3)), .val (.int (f1 p4)), .val (.ref b6), .val (.int (1 : Int32)), .unset, .unset]) rfl ?_
            show Steps p.tables e below (T31.setTop (mkF m 126 #[.val (.int p0), .val (.int p1), .val (.int p2), .val (.int p3), .val (.int p4), .val (.int p5), .val (.int (f1 p0)), .val (.int (f1 p1)), .val (.int (f1 p2)), .val (.int (f1 p3)), .val (.int (f1 p4)), .val (.ref b6), .val (.int (1 : Int32)), .unset, .unset] [])) _
            refine XS.aload X31.here hx rfl (hb hby at_126) rfl rfl ?_
            show Steps p.tables e below (T31.setTop (mkF m 128 #[.val (.int p0), .val (.int p1), .val (.int p2), .val (.int p3), .val (.int p4), .val (.int p5), .val (.int (f1 p0)), .val (.int (f1 p1)), .val (.int (f1 p2)), .val (.int (f1 p3)), .val (.int (f1 p4)), .val (.ref b6), .val (.int (1 : Int32)), .unset, .unset] [(.ref b6)])) _
            refine XS.iload X31.here hx rfl (hb hby at_128) rfl ?_
            show Steps p.tables e below (T31.setTop (mkF m 130 #[.val (.int p0), .val (.int p1), .val (.int p2), .val (.int p3), .val (.int p4), .val (.int p5), .val (.int (f1 p0)), .val (.int (f1 p1)), .val (.int (f1 p2)), .val (.int (f1 p3)), .val (.int (f1 p4)), .val (.ref b6), .val (.int (1 : Int32)), .unset, .unset] [(.int (f1 p4)), (.ref b6)])) _
            refine st59.trans ?_
            show Steps p.tables e below (T59.setTop (mkF m 133 #[.val (.int p0), .val (.int p1), .val (.int p2), .val (.int p3), .val (.int p4), .val (.int p5), .val (.int (f1 p0)), .val (.int (f1 p1)), .val (.int (f1 p2)), .val (.int (f1 p3)), .val (.int (f1 p4)), .val (.ref b6), .val (.int (1 : Int32)), .unset, .unset] [(.int (nar .boolean ((f6_r1_a (own_upd (own_upd (own_upd (own_upd (fun _ => 0) 0 (1 : Int32)) ((f1 p0)).toNatClampNeg (1 : Int32)) ((f1 p1)).toNatClampNeg (1 : Int32)) ((f1 p2)).toNatClampNeg (1 : Int32))) ((f1 p4)).toNatClampNeg)))])) _
            refine XS.iload X59.here hx rfl (hb hby at_133) rfl ?_
            exact kt)
        by_cases hc135_61 : (f1 p4) = (0 : Int32)
        · have pre62 : ∀ t, Steps p.tables e below (T59.setTop (mkF m 143 #[.val (.int p0), .val (.int p1), .val (.int p2), .val (.int p3), .val (.int p4), .val (.int p5), .val (.int (f1 p0)), .val (.int (f1 p1)), .val (.int (f1 p2)), .val (.int (f1 p3)), .val (.int (f1 p4)), .val (.ref b6), .val (.int (1 : Int32)), .unset, .unset] [(.int (1 : Int32)), (.int (nar .boolean ((f6_r1_a (own_upd (own_upd (own_upd (own_upd (fun _ => 0) 0 (1 : Int32)) ((f1 p0)).toNatClampNeg (1 : Int32)) ((f1 p1)).toNatClampNeg (1 : Int32)) ((f1 p2)).toNatClampNeg (1 : Int32))) ((f1 p4)).toNatClampNeg)))])) t → Steps p.tables e below (s₁.setTop (entryFrame m #[(.int p0), (.int p1), (.int p2), (.int p3), (.int p4), (.int p5)] maxLocals)) t := fun t kt => pre60 t (by
              show Steps p.tables e below (T59.setTop (mkF m 135 #[.val (.int p0), .val (.int p1), .val (.int p2), .val (.int p3), .val (.int p4), .val (.int p5), .val (.int (f1 p0)), .val (.int (f1 p1)), .val (.int (f1 p2)), .val (.int (f1 p3)), .val (.int (f1 p4)), .val (.ref b6), .val (.int (1 : Int32)), .unset, .unset] [(.int (f1 p4)), (.int (nar .boolean ((f6_r1_a (own_upd (own_upd (own_upd (own_upd (fun _ => 0) 0 (1 : Int32)) ((f1 p0)).toNatClampNeg (1 : Int32)) ((f1 p1)).toNatClampNeg (1 : Int32)) ((f1 p2)).toNatClampNeg (1 : Int32))) ((f1 p4)).toNatClampNeg)))])) _
              refine XS.ifNo X59.here hx rfl (hb hby at_135) rfl ((if0 _ _).trans (teq hc135_61).2) ?_
              show Steps p.tables e below (T59.setTop (mkF m 138 #[.val (.int p0), .val (.int p1), .val (.int p2), .val (.int p3), .val (.int p4), .val (.int p5), .val (.int (f1 p0)), .val (.int (f1 p1)), .val (.int (f1 p2)), .val (.int (f1 p3)), .val (.int (f1 p4)), .val (.ref b6), .val (.int (1 : Int32)), .unset, .unset] [(.int (nar .boolean ((f6_r1_a (own_upd (own_upd (own_upd (own_upd (fun _ => 0) 0 (1 : Int32)) ((f1 p0)).toNatClampNeg (1 : Int32)) ((f1 p1)).toNatClampNeg (1 : Int32)) ((f1 p2)).toNatClampNeg (1 : Int32))) ((f1 p4)).toNatClampNeg)))])) _
              refine XS.iconst X59.here hx rfl (hb hby at_138) ?_
              show Steps p.tables e below (T59.setTop (mkF m 139 #[.val (.int p0), .val (.int p1), .val (.int p2), .val (.int p3), .val (.int p4), .val (.int p5), .val (.int (f1 p0)), .val (.int (f1 p1)), .val (.int (f1 p2)), .val (.int (f1 p3)), .val (.int (f1 p4)), .val (.ref b6), .val (.int (1 : Int32)), .unset, .unset] [(.int (1 : Int32)), (.int (nar .boolean ((f6_r1_a (own_upd (own_upd (own_upd (own_upd (fun _ => 0) 0 (1 : Int32)) ((f1 p0)).toNatClampNeg (1 : Int32)) ((f1 p1)).toNatClampNeg (1 : Int32)) ((f1 p2)).toNatClampNeg (1 : Int32))) ((f1 p4)).toNatClampNeg)))])) _
              refine XS.goto X59.here hx rfl (pc0 := 139) (pc' := 143) rfl (hb hby at_139) (by decide) (by decide) ?_
              exact kt)
          have hd143_63 : (nar .boolean ((f6_r1_a (own_upd (own_upd (own_upd (own_upd (fun _ => 0) 0 (1 : Int32)) ((f1 p0)).toNatClampNeg (1 : Int32)) ((f1 p1)).toNatClampNeg (1 : Int32)) ((f1 p2)).toNatClampNeg (1 : Int32))) ((f1 p4)).toNatClampNeg)) = (1 : Int32) := own_is0 _ (own_ch _) hc135_61
          obtain ⟨cq64, kq64, q64a, q64b, q64c⟩ := isOf hZ e59q c33
          obtain ⟨_, _, ⟨T64, L64, k64, n64⟩, -, X64, ⟨Lc64, hQ64, l64, y64, z64⟩, st64⟩ := X59.virtualBack hx (y := (⟨"com/example/cardhost/cardhost/LogicalChannels", "lowestClosed", "()I"⟩ : MethodName)) (z := (⟨"com/example/cardhost/cardhost/LogicalChannels", "lowestClosed", "()I"⟩ : MethodName)) hown (mvT hZ (hw _ (List.mem_of_getElem? (i := 43) rfl))) (mvT hZ (hw _ (List.mem_of_getElem? (i := 44) rfl))) (notFace_of_selects (args := #[]) (mvT hZ (hw _ (List.mem_of_getElem? (i := 46) rfl)))) (mvT hZ (hw _ (List.mem_of_getElem? (i := 46) rfl))) (mvT hZ (hw _ (List.mem_of_getElem? (i := 45) rfl))) (by decide) (backOf (W := 0) (rm8 l Z a0 hw [] b6 r_o0_open_9 (f6_r1_a (own_upd (own_upd (own_upd (own_upd (fun _ => 0) 0 (1 : Int32)) ((f1 p0)).toNatClampNeg (1 : Int32)) ((f1 p1)).toNatClampNeg (1 : Int32)) ((f1 p2)).toNatClampNeg (1 : Int32))) T24.heap n0 Z28 c32 G24_0 g_r_o0_open_9) hZ (hw _ (List.mem_of_getElem? (i := 47) rfl)) (hw _ (List.mem_of_getElem? (i := 7) rfl)) (by decide) (by decide)) q64a q64c (g := (mkF m 155 #[.val (.int p0), .val (.int p1), .val (.int p2), .val (.int p3), .val (.int p4), .val (.int p5), .val (.int (f1 p0)), .val (.int (f1 p1)), .val (.int (f1 p2)), .val (.int (f1 p3)), .val (.int (f1 p4)), .val (.ref b6), .val (.int (1 : Int32)), .val (.int (1 : Int32)), .unset] [(.ref b6)])) rfl (by rw [hml]; rfl) (Steps.refl _) (argsL := []) (rest := []) (lenOf pd_0_4 rfl) rfl (by show 2 * 0 + _ ≤ _; exact Nat.le_of_eq rfl) (hb hby at_155) (fun _ _ => ⟨rfl, e59q, (by decide : 4 + 0 ≤ _), (by decide : 63 + 0 ≤ _)⟩)
          dsimp only [Pt.U, Pt.locs, Pt.cells, Pt.slots] at X64 l64 y64 z64 st64 hQ64
          subst l64 y64 z64
          obtain ⟨rfl, N64q, e64q⟩ := hQ64
          have N64 := Fr.app N59 N64q
          have pre65 : ∀ t, Steps p.tables e below (T64.setTop (mkF m 159 #[.val (.int p0), .val (.int p1), .val (.int p2), .val (.int p3), .val (.int p4), .val (.int p5), .val (.int (f1 p0)), .val (.int (f1 p1)), .val (.int (f1 p2)), .val (.int (f1 p3)), .val (.int (f1 p4)), .val (.ref b6), .val (.int (1 : Int32)), .val (.int (1 : Int32)), .unset] [(.int (1 : Int32)), (.int (f8 (f6_r1_a (own_upd (own_upd (own_upd (own_upd (fun _ => 0) 0 (1 : Int32)) ((f1 p0)).toNatClampNeg (1 : Int32)) ((f1 p1)).toNatClampNeg (1 : Int32)) ((f1 p2)).toNatClampNeg (1 : Int32)))))])) t → Steps p.tables e below (s₁.setTop (entryFrame m #[(.int p0), (.int p1), (.int p2), (.int p3), (.int p4), (.int p5)] maxLocals)) t := fun t kt => pre62 t (by
              show Steps p.tables e below (T59.setTop (mkF m 143 #[.val (.int p0), .val (.int p1), .val (.int p2), .val (.int p3), .val (.int p4), .val (.int p5), .val (.int (f1 p0)), .val (.int (f1 p1)), .val (.int (f1 p2)), .val (.int (f1 p3)), .val (.int (f1 p4)), .val (.ref b6), .val (.int (1 : Int32)), .unset, .unset] [(.int (1 : Int32)), (.int (nar .boolean ((f6_r1_a (own_upd (own_upd (own_upd (own_upd (fun _ => 0) 0 (1 : Int32)) ((f1 p0)).toNatClampNeg (1 : Int32)) ((f1 p1)).toNatClampNeg (1 : Int32)) ((f1 p2)).toNatClampNeg (1 : Int32))) ((f1 p4)).toNatClampNeg)))])) _
              refine XS.icmpNo X59.here hx rfl (hb hby at_143) rfl (teq hd143_63).2 ?_
              show Steps p.tables e below (T59.setTop (mkF m 146 #[.val (.int p0), .val (.int p1), .val (.int p2), .val (.int p3), .val (.int p4), .val (.int p5), .val (.int (f1 p0)), .val (.int (f1 p1)), .val (.int (f1 p2)), .val (.int (f1 p3)), .val (.int (f1 p4)), .val (.ref b6), .val (.int (1 : Int32)), .unset, .unset] [])) _
              refine XS.iconst X59.here hx rfl (hb hby at_146) ?_
              show Steps p.tables e below (T59.setTop (mkF m 147 #[.val (.int p0), .val (.int p1), .val (.int p2), .val (.int p3), .val (.int p4), .val (.int p5), .val (.int (f1 p0)), .val (.int (f1 p1)), .val (.int (f1 p2)), .val (.int (f1 p3)), .val (.int (f1 p4)), .val (.ref b6), .val (.int (1 : Int32)), .unset, .unset] [(.int (1 : Int32))])) _
              refine XS.goto X59.here hx rfl (pc0 := 147) (pc' := 151) rfl (hb hby at_147) (by decide) (by decide) ?_
              show Steps p.tables e below (T59.setTop (mkF m 151 #[.val (.int p0), .val (.int p1), .val (.int p2), .val (.int p3), .val (.int p4), .val (.int p5), .val (.int (f1 p0)), .val (.int (f1 p1)), .val (.int (f1 p2)), .val (.int (f1 p3)), .val (.int (f1 p4)), .val (.ref b6), .val (.int (1 : Int32)), .unset, .unset] [(.int (1 : Int32))])) _
              refine XS.istore X59.here hx rfl (hb hby at_151) rfl (l' := #[.val (.int p0), .val (.int p1), .val (.int p2), .val (.int p3), .val (.int p4), .val (.int p5), .val (.int (f1 p0)), .val (.int (f1 p1)), .val (.int (f1 p2)), .val (.int (f1 p3)), .val (.int (f1 p4)), .val (.ref b6), .val (.int (1 : Int32)), .val (.int (1 : Int32)), .unset]) rfl ?_
              show Steps p.tables e below (T59.setTop (mkF m 153 #[.val (.int p0), .val (.int p1), .val (.int p2), .val (.int p3), .val (.int p4), .val (.int p5), .val (.int (f1 p0)), .val (.int (f1 p1)), .val (.int (f1 p2)), .val (.int (f1 p3)), .val (.int (f1 p4)), .val (.ref b6), .val (.int (1 : Int32)), .val (.int (1 : Int32)), .unset] [])) _
              refine XS.aload X59.here hx rfl (hb hby at_153) rfl rfl ?_
              show Steps p.tables e below (T59.setTop (mkF m 155 #[.val (.int p0), .val (.int p1), .val (.int p2), .val (.int p3), .val (.int p4), .val (.int p5), .val (.int (f1 p0)), .val (.int (f1 p1)), .val (.int (f1 p2)), .val (.int (f1 p3)), .val (.int (f1 p4)), .val (.ref b6), .val (.int (1 : Int32)), .val (.int (1 : Int32)), .unset] [(.ref b6)])) _
              refine st64.trans ?_
              show Steps p.tables e below (T64.setTop (mkF m 158 #[.val (.int p0), .val (.int p1), .val (.int p2), .val (.int p3), .val (.int p4), .val (.int p5), .val (.int (f1 p0)), .val (.int (f1 p1)), .val (.int (f1 p2)), .val (.int (f1 p3)), .val (.int (f1 p4)), .val (.ref b6), .val (.int (1 : Int32)), .val (.int (1 : Int32)), .unset] [(.int (f8 (f6_r1_a (own_upd (own_upd (own_upd (own_upd (fun _ => 0) 0 (1 : Int32)) ((f1 p0)).toNatClampNeg (1 : Int32)) ((f1 p1)).toNatClampNeg (1 : Int32)) ((f1 p2)).toNatClampNeg (1 : Int32)))))])) _
              refine XS.iconst X64.here hx rfl (hb hby at_158) ?_
              exact kt)
          have hd159_66 : (f8 (f6_r1_a (own_upd (own_upd (own_upd (own_upd (fun _ => 0) 0 (1 : Int32)) ((f1 p0)).toNatClampNeg (1 : Int32)) ((f1 p1)).toNatClampNeg (1 : Int32)) ((f1 p2)).toNatClampNeg (1 : Int32)))) = (1 : Int32) := own_lc _
          have pre67 : ∀ t, Steps p.tables e below (T64.setTop (mkF m 171 #[.val (.int p0), .val (.int p1), .val (.int p2), .val (.int p3), .val (.int p4), .val (.int p5), .val (.int (f1 p0)), .val (.int (f1 p1)), .val (.int (f1 p2)), .val (.int (f1 p3)), .val (.int (f1 p4)), .val (.ref b6), .val (.int (1 : Int32)), .val (.int (1 : Int32)), .val (.int (1 : Int32))] [(.int (1 : Int32))])) t → Steps p.tables e below (s₁.setTop (entryFrame m #[(.int p0), (.int p1), (.int p2), (.int p3), (.int p4), (.int p5)] maxLocals)) t := fun t kt => pre65 t (by
              show Steps p.tables e below (T64.setTop (mkF m 159 #[.val (.int p0), .val (.int p1), .val (.int p2), .val (.int p3), .val (.int p4), .val (.int p5), .val (.int (f1 p0)), .val (.int (f1 p1)), .val (.int (f1 p2)), .val (.int (f1 p3)), .val (.int (f1 p4)), .val (.ref b6), .val (.int (1 : Int32)), .val (.int (1 : Int32)), .unset] [(.int (1 : Int32)), (.int (f8 (f6_r1_a (own_upd (own_upd (own_upd (own_upd (fun _ => 0) 0 (1 : Int32)) ((f1 p0)).toNatClampNeg (1 : Int32)) ((f1 p1)).toNatClampNeg (1 : Int32)) ((f1 p2)).toNatClampNeg (1 : Int32)))))])) _
              refine XS.icmpNo X64.here hx rfl (hb hby at_159) rfl (teq hd159_66).2 ?_
              show Steps p.tables e below (T64.setTop (mkF m 162 #[.val (.int p0), .val (.int p1), .val (.int p2), .val (.int p3), .val (.int p4), .val (.int p5), .val (.int (f1 p0)), .val (.int (f1 p1)), .val (.int (f1 p2)), .val (.int (f1 p3)), .val (.int (f1 p4)), .val (.ref b6), .val (.int (1 : Int32)), .val (.int (1 : Int32)), .unset] [])) _
              refine XS.iconst X64.here hx rfl (hb hby at_162) ?_
              show Steps p.tables e below (T64.setTop (mkF m 163 #[.val (.int p0), .val (.int p1), .val (.int p2), .val (.int p3), .val (.int p4), .val (.int p5), .val (.int (f1 p0)), .val (.int (f1 p1)), .val (.int (f1 p2)), .val (.int (f1 p3)), .val (.int (f1 p4)), .val (.ref b6), .val (.int (1 : Int32)), .val (.int (1 : Int32)), .unset] [(.int (1 : Int32))])) _
              refine XS.goto X64.here hx rfl (pc0 := 163) (pc' := 167) rfl (hb hby at_163) (by decide) (by decide) ?_
              show Steps p.tables e below (T64.setTop (mkF m 167 #[.val (.int p0), .val (.int p1), .val (.int p2), .val (.int p3), .val (.int p4), .val (.int p5), .val (.int (f1 p0)), .val (.int (f1 p1)), .val (.int (f1 p2)), .val (.int (f1 p3)), .val (.int (f1 p4)), .val (.ref b6), .val (.int (1 : Int32)), .val (.int (1 : Int32)), .unset] [(.int (1 : Int32))])) _
              refine XS.istore X64.here hx rfl (hb hby at_167) rfl (l' := #[.val (.int p0), .val (.int p1), .val (.int p2), .val (.int p3), .val (.int p4), .val (.int p5), .val (.int (f1 p0)), .val (.int (f1 p1)), .val (.int (f1 p2)), .val (.int (f1 p3)), .val (.int (f1 p4)), .val (.ref b6), .val (.int (1 : Int32)), .val (.int (1 : Int32)), .val (.int (1 : Int32))]) rfl ?_
              show Steps p.tables e below (T64.setTop (mkF m 169 #[.val (.int p0), .val (.int p1), .val (.int p2), .val (.int p3), .val (.int p4), .val (.int p5), .val (.int (f1 p0)), .val (.int (f1 p1)), .val (.int (f1 p2)), .val (.int (f1 p3)), .val (.int (f1 p4)), .val (.ref b6), .val (.int (1 : Int32)), .val (.int (1 : Int32)), .val (.int (1 : Int32))] [])) _
              refine XS.iload X64.here hx rfl (hb hby at_169) rfl ?_
              exact kt)
          have pre68 : ∀ t, Steps p.tables e below (T64.setTop (mkF m 176 #[.val (.int p0), .val (.int p1), .val (.int p2), .val (.int p3), .val (.int p4), .val (.int p5), .val (.int (f1 p0)), .val (.int (f1 p1)), .val (.int (f1 p2)), .val (.int (f1 p3)), .val (.int (f1 p4)), .val (.ref b6), .val (.int (1 : Int32)), .val (.int (1 : Int32)), .val (.int (1 : Int32))] [(.int (1 : Int32))])) t → Steps p.tables e below (s₁.setTop (entryFrame m #[(.int p0), (.int p1), (.int p2), (.int p3), (.int p4), (.int p5)] maxLocals)) t := fun t kt => pre67 t (by
              show Steps p.tables e below (T64.setTop (mkF m 171 #[.val (.int p0), .val (.int p1), .val (.int p2), .val (.int p3), .val (.int p4), .val (.int p5), .val (.int (f1 p0)), .val (.int (f1 p1)), .val (.int (f1 p2)), .val (.int (f1 p3)), .val (.int (f1 p4)), .val (.ref b6), .val (.int (1 : Int32)), .val (.int (1 : Int32)), .val (.int (1 : Int32))] [(.int (1 : Int32))])) _
              refine XS.ifNo X64.here hx rfl (hb hby at_171) rfl ((if0 _ _).trans (feq (by decide : ¬ ((1 : Int32) = (0 : Int32)))).1) ?_
              show Steps p.tables e below (T64.setTop (mkF m 174 #[.val (.int p0), .val (.int p1), .val (.int p2), .val (.int p3), .val (.int p4), .val (.int p5), .val (.int (f1 p0)), .val (.int (f1 p1)), .val (.int (f1 p2)), .val (.int (f1 p3)), .val (.int (f1 p4)), .val (.ref b6), .val (.int (1 : Int32)), .val (.int (1 : Int32)), .val (.int (1 : Int32))] [])) _
              refine XS.iload X64.here hx rfl (hb hby at_174) rfl ?_
              exact kt)
          have pre69 : ∀ t, Steps p.tables e below (T64.setTop (mkF m 181 #[.val (.int p0), .val (.int p1), .val (.int p2), .val (.int p3), .val (.int p4), .val (.int p5), .val (.int (f1 p0)), .val (.int (f1 p1)), .val (.int (f1 p2)), .val (.int (f1 p3)), .val (.int (f1 p4)), .val (.ref b6), .val (.int (1 : Int32)), .val (.int (1 : Int32)), .val (.int (1 : Int32))] [(.int (1 : Int32))])) t → Steps p.tables e below (s₁.setTop (entryFrame m #[(.int p0), (.int p1), (.int p2), (.int p3), (.int p4), (.int p5)] maxLocals)) t := fun t kt => pre68 t (by
              show Steps p.tables e below (T64.setTop (mkF m 176 #[.val (.int p0), .val (.int p1), .val (.int p2), .val (.int p3), .val (.int p4), .val (.int p5), .val (.int (f1 p0)), .val (.int (f1 p1)), .val (.int (f1 p2)), .val (.int (f1 p3)), .val (.int (f1 p4)), .val (.ref b6), .val (.int (1 : Int32)), .val (.int (1 : Int32)), .val (.int (1 : Int32))] [(.int (1 : Int32))])) _
              refine XS.ifNo X64.here hx rfl (hb hby at_176) rfl ((if0 _ _).trans (feq (by decide : ¬ ((1 : Int32) = (0 : Int32)))).1) ?_
              show Steps p.tables e below (T64.setTop (mkF m 179 #[.val (.int p0), .val (.int p1), .val (.int p2), .val (.int p3), .val (.int p4), .val (.int p5), .val (.int (f1 p0)), .val (.int (f1 p1)), .val (.int (f1 p2)), .val (.int (f1 p3)), .val (.int (f1 p4)), .val (.ref b6), .val (.int (1 : Int32)), .val (.int (1 : Int32)), .val (.int (1 : Int32))] [])) _
              refine XS.iload X64.here hx rfl (hb hby at_179) rfl ?_
              exact kt)
          obtain ⟨fs, hr, hrun, hended, hW, hsame⟩ := X64.leave (v := some (.int (1 : Int32))) (fun h => by rw [Bd.returns] at h; cases h)
          have hv241 : (1 : Int32) = (1 : Int32) := rfl
          refine ⟨_, _, pre69 _ ?_, hrun, hended, _, _, rfl, ?_, ⟨_, rfl⟩, hW, hsame.mono (by decide) (by decide)⟩
          · show Steps p.tables e below (T64.setTop (mkF m 181 #[.val (.int p0), .val (.int p1), .val (.int p2), .val (.int p3), .val (.int p4), .val (.int p5), .val (.int (f1 p0)), .val (.int (f1 p1)), .val (.int (f1 p2)), .val (.int (f1 p3)), .val (.int (f1 p4)), .val (.ref b6), .val (.int (1 : Int32)), .val (.int (1 : Int32)), .val (.int (1 : Int32))] [(.int (1 : Int32))])) _
            refine XS.ifNo X64.here hx rfl (hb hby at_181) rfl ((if0 _ _).trans (feq (by decide : ¬ ((1 : Int32) = (0 : Int32)))).1) ?_
            show Steps p.tables e below (T64.setTop (mkF m 184 #[.val (.int p0), .val (.int p1), .val (.int p2), .val (.int p3), .val (.int p4), .val (.int p5), .val (.int (f1 p0)), .val (.int (f1 p1)), .val (.int (f1 p2)), .val (.int (f1 p3)), .val (.int (f1 p4)), .val (.ref b6), .val (.int (1 : Int32)), .val (.int (1 : Int32)), .val (.int (1 : Int32))] [])) _
            refine XS.iconst X64.here hx rfl (hb hby at_184) ?_
            show Steps p.tables e below (T64.setTop (mkF m 185 #[.val (.int p0), .val (.int p1), .val (.int p2), .val (.int p3), .val (.int p4), .val (.int p5), .val (.int (f1 p0)), .val (.int (f1 p1)), .val (.int (f1 p2)), .val (.int (f1 p3)), .val (.int (f1 p4)), .val (.ref b6), .val (.int (1 : Int32)), .val (.int (1 : Int32)), .val (.int (1 : Int32))] [(.int (1 : Int32))])) _
            refine XS.goto X64.here hx rfl (pc0 := 185) (pc' := 189) rfl (hb hby at_185) (by decide) (by decide) ?_
            show Steps p.tables e below (T64.setTop (mkF m 189 #[.val (.int p0), .val (.int p1), .val (.int p2), .val (.int p3), .val (.int p4), .val (.int p5), .val (.int (f1 p0)), .val (.int (f1 p1)), .val (.int (f1 p2)), .val (.int (f1 p3)), .val (.int (f1 p4)), .val (.ref b6), .val (.int (1 : Int32)), .val (.int (1 : Int32)), .val (.int (1 : Int32))] [(.int (1 : Int32))])) _
            exact retN X64 hx (t := .boolean) Bd.returns (by simp) (hb hby at_189) hr
          · show Q0 Z p0 p1 p2 p3 p4 p5 h0 n0 _ T64.heap _
            rw [e64q]
            exact ⟨congrArg (fun q => some (Value.int q)) hv241, N64⟩
        · have pre70 : ∀ t, Steps p.tables e below (T59.setTop (mkF m 143 #[.val (.int p0), .val (.int p1), .val (.int p2), .val (.int p3), .val (.int p4), .val (.int p5), .val (.int (f1 p0)), .val (.int (f1 p1)), .val (.int (f1 p2)), .val (.int (f1 p3)), .val (.int (f1 p4)), .val (.ref b6), .val (.int (1 : Int32)), .unset, .unset] [(.int (0 : Int32)), (.int (nar .boolean ((f6_r1_a (own_upd (own_upd (own_upd (own_upd (fun _ => 0) 0 (1 : Int32)) ((f1 p0)).toNatClampNeg (1 : Int32)) ((f1 p1)).toNatClampNeg (1 : Int32)) ((f1 p2)).toNatClampNeg (1 : Int32))) ((f1 p4)).toNatClampNeg)))])) t → Steps p.tables e below (s₁.setTop (entryFrame m #[(.int p0), (.int p1), (.int p2), (.int p3), (.int p4), (.int p5)] maxLocals)) t := fun t kt => pre60 t (by
              show Steps p.tables e below (T59.setTop (mkF m 135 #[.val (.int p0), .val (.int p1), .val (.int p2), .val (.int p3), .val (.int p4), .val (.int p5), .val (.int (f1 p0)), .val (.int (f1 p1)), .val (.int (f1 p2)), .val (.int (f1 p3)), .val (.int (f1 p4)), .val (.ref b6), .val (.int (1 : Int32)), .unset, .unset] [(.int (f1 p4)), (.int (nar .boolean ((f6_r1_a (own_upd (own_upd (own_upd (own_upd (fun _ => 0) 0 (1 : Int32)) ((f1 p0)).toNatClampNeg (1 : Int32)) ((f1 p1)).toNatClampNeg (1 : Int32)) ((f1 p2)).toNatClampNeg (1 : Int32))) ((f1 p4)).toNatClampNeg)))])) _
              refine XS.ifYes X59.here hx rfl (pc0 := 135) (pc' := 142) rfl (hb hby at_135) rfl ((if0 _ _).trans (feq hc135_61).2) (by decide) (by decide) ?_
              show Steps p.tables e below (T59.setTop (mkF m 142 #[.val (.int p0), .val (.int p1), .val (.int p2), .val (.int p3), .val (.int p4), .val (.int p5), .val (.int (f1 p0)), .val (.int (f1 p1)), .val (.int (f1 p2)), .val (.int (f1 p3)), .val (.int (f1 p4)), .val (.ref b6), .val (.int (1 : Int32)), .unset, .unset] [(.int (nar .boolean ((f6_r1_a (own_upd (own_upd (own_upd (own_upd (fun _ => 0) 0 (1 : Int32)) ((f1 p0)).toNatClampNeg (1 : Int32)) ((f1 p1)).toNatClampNeg (1 : Int32)) ((f1 p2)).toNatClampNeg (1 : Int32))) ((f1 p4)).toNatClampNeg)))])) _
              refine XS.iconst X59.here hx rfl (hb hby at_142) ?_
              exact kt)
          have hd143_71 : (nar .boolean ((f6_r1_a (own_upd (own_upd (own_upd (own_upd (fun _ => 0) 0 (1 : Int32)) ((f1 p0)).toNatClampNeg (1 : Int32)) ((f1 p1)).toNatClampNeg (1 : Int32)) ((f1 p2)).toNatClampNeg (1 : Int32))) ((f1 p4)).toNatClampNeg)) = (0 : Int32) := own_is1 _ (own_ch _) hc135_61
          obtain ⟨cq72, kq72, q72a, q72b, q72c⟩ := isOf hZ e59q c33
          obtain ⟨_, _, ⟨T72, L72, k72, n72⟩, -, X72, ⟨Lc72, hQ72, l72, y72, z72⟩, st72⟩ := X59.virtualBack hx (y := (⟨"com/example/cardhost/cardhost/LogicalChannels", "lowestClosed", "()I"⟩ : MethodName)) (z := (⟨"com/example/cardhost/cardhost/LogicalChannels", "lowestClosed", "()I"⟩ : MethodName)) hown (mvT hZ (hw _ (List.mem_of_getElem? (i := 43) rfl))) (mvT hZ (hw _ (List.mem_of_getElem? (i := 44) rfl))) (notFace_of_selects (args := #[]) (mvT hZ (hw _ (List.mem_of_getElem? (i := 46) rfl)))) (mvT hZ (hw _ (List.mem_of_getElem? (i := 46) rfl))) (mvT hZ (hw _ (List.mem_of_getElem? (i := 45) rfl))) (by decide) (backOf (W := 0) (rm8 l Z a0 hw [] b6 r_o0_open_9 (f6_r1_a (own_upd (own_upd (own_upd (own_upd (fun _ => 0) 0 (1 : Int32)) ((f1 p0)).toNatClampNeg (1 : Int32)) ((f1 p1)).toNatClampNeg (1 : Int32)) ((f1 p2)).toNatClampNeg (1 : Int32))) T24.heap n0 Z28 c32 G24_0 g_r_o0_open_9) hZ (hw _ (List.mem_of_getElem? (i := 47) rfl)) (hw _ (List.mem_of_getElem? (i := 7) rfl)) (by decide) (by decide)) q72a q72c (g := (mkF m 155 #[.val (.int p0), .val (.int p1), .val (.int p2), .val (.int p3), .val (.int p4), .val (.int p5), .val (.int (f1 p0)), .val (.int (f1 p1)), .val (.int (f1 p2)), .val (.int (f1 p3)), .val (.int (f1 p4)), .val (.ref b6), .val (.int (1 : Int32)), .val (.int (1 : Int32)), .unset] [(.ref b6)])) rfl (by rw [hml]; rfl) (Steps.refl _) (argsL := []) (rest := []) (lenOf pd_0_4 rfl) rfl (by show 2 * 0 + _ ≤ _; exact Nat.le_of_eq rfl) (hb hby at_155) (fun _ _ => ⟨rfl, e59q, (by decide : 4 + 0 ≤ _), (by decide : 63 + 0 ≤ _)⟩)
          dsimp only [Pt.U, Pt.locs, Pt.cells, Pt.slots] at X72 l72 y72 z72 st72 hQ72
          subst l72 y72 z72
          obtain ⟨rfl, N72q, e72q⟩ := hQ72
          have N72 := Fr.app N59 N72q
          have pre73 : ∀ t, Steps p.tables e below (T72.setTop (mkF m 159 #[.val (.int p0), .val (.int p1), .val (.int p2), .val (.int p3), .val (.int p4), .val (.int p5), .val (.int (f1 p0)), .val (.int (f1 p1)), .val (.int (f1 p2)), .val (.int (f1 p3)), .val (.int (f1 p4)), .val (.ref b6), .val (.int (1 : Int32)), .val (.int (1 : Int32)), .unset] [(.int (1 : Int32)), (.int (f8 (f6_r1_a (own_upd (own_upd (own_upd (own_upd (fun _ => 0) 0 (1 : Int32)) ((f1 p0)).toNatClampNeg (1 : Int32)) ((f1 p1)).toNatClampNeg (1 : Int32)) ((f1 p2)).toNatClampNeg (1 : Int32)))))])) t → Steps p.tables e below (s₁.setTop (entryFrame m #[(.int p0), (.int p1), (.int p2), (.int p3), (.int p4), (.int p5)] maxLocals)) t := fun t kt => pre70 t (by
              show Steps p.tables e below (T59.setTop (mkF m 143 #[.val (.int p0), .val (.int p1), .val (.int p2), .val (.int p3), .val (.int p4), .val (.int p5), .val (.int (f1 p0)), .val (.int (f1 p1)), .val (.int (f1 p2)), .val (.int (f1 p3)), .val (.int (f1 p4)), .val (.ref b6), .val (.int (1 : Int32)), .unset, .unset] [(.int (0 : Int32)), (.int (nar .boolean ((f6_r1_a (own_upd (own_upd (own_upd (own_upd (fun _ => 0) 0 (1 : Int32)) ((f1 p0)).toNatClampNeg (1 : Int32)) ((f1 p1)).toNatClampNeg (1 : Int32)) ((f1 p2)).toNatClampNeg (1 : Int32))) ((f1 p4)).toNatClampNeg)))])) _
              refine XS.icmpNo X59.here hx rfl (hb hby at_143) rfl (teq hd143_71).2 ?_
              show Steps p.tables e below (T59.setTop (mkF m 146 #[.val (.int p0), .val (.int p1), .val (.int p2), .val (.int p3), .val (.int p4), .val (.int p5), .val (.int (f1 p0)), .val (.int (f1 p1)), .val (.int (f1 p2)), .val (.int (f1 p3)), .val (.int (f1 p4)), .val (.ref b6), .val (.int (1 : Int32)), .unset, .unset] [])) _
              refine XS.iconst X59.here hx rfl (hb hby at_146) ?_
              show Steps p.tables e below (T59.setTop (mkF m 147 #[.val (.int p0), .val (.int p1), .val (.int p2), .val (.int p3), .val (.int p4), .val (.int p5), .val (.int (f1 p0)), .val (.int (f1 p1)), .val (.int (f1 p2)), .val (.int (f1 p3)), .val (.int (f1 p4)), .val (.ref b6), .val (.int (1 : Int32)), .unset, .unset] [(.int (1 : Int32))])) _
              refine XS.goto X59.here hx rfl (pc0 := 147) (pc' := 151) rfl (hb hby at_147) (by decide) (by decide) ?_
              show Steps p.tables e below (T59.setTop (mkF m 151 #[.val (.int p0), .val (.int p1), .val (.int p2), .val (.int p3), .val (.int p4), .val (.int p5), .val (.int (f1 p0)), .val (.int (f1 p1)), .val (.int (f1 p2)), .val (.int (f1 p3)), .val (.int (f1 p4)), .val (.ref b6), .val (.int (1 : Int32)), .unset, .unset] [(.int (1 : Int32))])) _
              refine XS.istore X59.here hx rfl (hb hby at_151) rfl (l' := #[.val (.int p0), .val (.int p1), .val (.int p2), .val (.int p3), .val (.int p4), .val (.int p5), .val (.int (f1 p0)), .val (.int (f1 p1)), .val (.int (f1 p2)), .val (.int (f1 p3)), .val (.int (f1 p4)), .val (.ref b6), .val (.int (1 : Int32)), .val (.int (1 : Int32)), .unset]) rfl ?_
              show Steps p.tables e below (T59.setTop (mkF m 153 #[.val (.int p0), .val (.int p1), .val (.int p2), .val (.int p3), .val (.int p4), .val (.int p5), .val (.int (f1 p0)), .val (.int (f1 p1)), .val (.int (f1 p2)), .val (.int (f1 p3)), .val (.int (f1 p4)), .val (.ref b6), .val (.int (1 : Int32)), .val (.int (1 : Int32)), .unset] [])) _
              refine XS.aload X59.here hx rfl (hb hby at_153) rfl rfl ?_
              show Steps p.tables e below (T59.setTop (mkF m 155 #[.val (.int p0), .val (.int p1), .val (.int p2), .val (.int p3), .val (.int p4), .val (.int p5), .val (.int (f1 p0)), .val (.int (f1 p1)), .val (.int (f1 p2)), .val (.int (f1 p3)), .val (.int (f1 p4)), .val (.ref b6), .val (.int (1 : Int32)), .val (.int (1 : Int32)), .unset] [(.ref b6)])) _
              refine st72.trans ?_
              show Steps p.tables e below (T72.setTop (mkF m 158 #[.val (.int p0), .val (.int p1), .val (.int p2), .val (.int p3), .val (.int p4), .val (.int p5), .val (.int (f1 p0)), .val (.int (f1 p1)), .val (.int (f1 p2)), .val (.int (f1 p3)), .val (.int (f1 p4)), .val (.ref b6), .val (.int (1 : Int32)), .val (.int (1 : Int32)), .unset] [(.int (f8 (f6_r1_a (own_upd (own_upd (own_upd (own_upd (fun _ => 0) 0 (1 : Int32)) ((f1 p0)).toNatClampNeg (1 : Int32)) ((f1 p1)).toNatClampNeg (1 : Int32)) ((f1 p2)).toNatClampNeg (1 : Int32)))))])) _
              refine XS.iconst X72.here hx rfl (hb hby at_158) ?_
              exact kt)
          have hd159_74 : (f8 (f6_r1_a (own_upd (own_upd (own_upd (own_upd (fun _ => 0) 0 (1 : Int32)) ((f1 p0)).toNatClampNeg (1 : Int32)) ((f1 p1)).toNatClampNeg (1 : Int32)) ((f1 p2)).toNatClampNeg (1 : Int32)))) = (1 : Int32) := own_lc _
          have pre75 : ∀ t, Steps p.tables e below (T72.setTop (mkF m 171 #[.val (.int p0), .val (.int p1), .val (.int p2), .val (.int p3), .val (.int p4), .val (.int p5), .val (.int (f1 p0)), .val (.int (f1 p1)), .val (.int (f1 p2)), .val (.int (f1 p3)), .val (.int (f1 p4)), .val (.ref b6), .val (.int (1 : Int32)), .val (.int (1 : Int32)), .val (.int (1 : Int32))] [(.int (1 : Int32))])) t → Steps p.tables e below (s₁.setTop (entryFrame m #[(.int p0), (.int p1), (.int p2), (.int p3), (.int p4), (.int p5)] maxLocals)) t := fun t kt => pre73 t (by
              show Steps p.tables e below (T72.setTop (mkF m 159 #[.val (.int p0), .val (.int p1), .val (.int p2), .val (.int p3), .val (.int p4), .val (.int p5), .val (.int (f1 p0)), .val (.int (f1 p1)), .val (.int (f1 p2)), .val (.int (f1 p3)), .val (.int (f1 p4)), .val (.ref b6), .val (.int (1 : Int32)), .val (.int (1 : Int32)), .unset] [(.int (1 : Int32)), (.int (f8 (f6_r1_a (own_upd (own_upd (own_upd (own_upd (fun _ => 0) 0 (1 : Int32)) ((f1 p0)).toNatClampNeg (1 : Int32)) ((f1 p1)).toNatClampNeg (1 : Int32)) ((f1 p2)).toNatClampNeg (1 : Int32)))))])) _
              refine XS.icmpNo X72.here hx rfl (hb hby at_159) rfl (teq hd159_74).2 ?_
              show Steps p.tables e below (T72.setTop (mkF m 162 #[.val (.int p0), .val (.int p1), .val (.int p2), .val (.int p3), .val (.int p4), .val (.int p5), .val (.int (f1 p0)), .val (.int (f1 p1)), .val (.int (f1 p2)), .val (.int (f1 p3)), .val (.int (f1 p4)), .val (.ref b6), .val (.int (1 : Int32)), .val (.int (1 : Int32)), .unset] [])) _
              refine XS.iconst X72.here hx rfl (hb hby at_162) ?_
              show Steps p.tables e below (T72.setTop (mkF m 163 #[.val (.int p0), .val (.int p1), .val (.int p2), .val (.int p3), .val (.int p4), .val (.int p5), .val (.int (f1 p0)), .val (.int (f1 p1)), .val (.int (f1 p2)), .val (.int (f1 p3)), .val (.int (f1 p4)), .val (.ref b6), .val (.int (1 : Int32)), .val (.int (1 : Int32)), .unset] [(.int (1 : Int32))])) _
              refine XS.goto X72.here hx rfl (pc0 := 163) (pc' := 167) rfl (hb hby at_163) (by decide) (by decide) ?_
              show Steps p.tables e below (T72.setTop (mkF m 167 #[.val (.int p0), .val (.int p1), .val (.int p2), .val (.int p3), .val (.int p4), .val (.int p5), .val (.int (f1 p0)), .val (.int (f1 p1)), .val (.int (f1 p2)), .val (.int (f1 p3)), .val (.int (f1 p4)), .val (.ref b6), .val (.int (1 : Int32)), .val (.int (1 : Int32)), .unset] [(.int (1 : Int32))])) _
              refine XS.istore X72.here hx rfl (hb hby at_167) rfl (l' := #[.val (.int p0), .val (.int p1), .val (.int p2), .val (.int p3), .val (.int p4), .val (.int p5), .val (.int (f1 p0)), .val (.int (f1 p1)), .val (.int (f1 p2)), .val (.int (f1 p3)), .val (.int (f1 p4)), .val (.ref b6), .val (.int (1 : Int32)), .val (.int (1 : Int32)), .val (.int (1 : Int32))]) rfl ?_
              show Steps p.tables e below (T72.setTop (mkF m 169 #[.val (.int p0), .val (.int p1), .val (.int p2), .val (.int p3), .val (.int p4), .val (.int p5), .val (.int (f1 p0)), .val (.int (f1 p1)), .val (.int (f1 p2)), .val (.int (f1 p3)), .val (.int (f1 p4)), .val (.ref b6), .val (.int (1 : Int32)), .val (.int (1 : Int32)), .val (.int (1 : Int32))] [])) _
              refine XS.iload X72.here hx rfl (hb hby at_169) rfl ?_
              exact kt)
          have pre76 : ∀ t, Steps p.tables e below (T72.setTop (mkF m 176 #[.val (.int p0), .val (.int p1), .val (.int p2), .val (.int p3), .val (.int p4), .val (.int p5), .val (.int (f1 p0)), .val (.int (f1 p1)), .val (.int (f1 p2)), .val (.int (f1 p3)), .val (.int (f1 p4)), .val (.ref b6), .val (.int (1 : Int32)), .val (.int (1 : Int32)), .val (.int (1 : Int32))] [(.int (1 : Int32))])) t → Steps p.tables e below (s₁.setTop (entryFrame m #[(.int p0), (.int p1), (.int p2), (.int p3), (.int p4), (.int p5)] maxLocals)) t := fun t kt => pre75 t (by
              show Steps p.tables e below (T72.setTop (mkF m 171 #[.val (.int p0), .val (.int p1), .val (.int p2), .val (.int p3), .val (.int p4), .val (.int p5), .val (.int (f1 p0)), .val (.int (f1 p1)), .val (.int (f1 p2)), .val (.int (f1 p3)), .val (.int (f1 p4)), .val (.ref b6), .val (.int (1 : Int32)), .val (.int (1 : Int32)), .val (.int (1 : Int32))] [(.int (1 : Int32))])) _
              refine XS.ifNo X72.here hx rfl (hb hby at_171) rfl ((if0 _ _).trans (feq (by decide : ¬ ((1 : Int32) = (0 : Int32)))).1) ?_
              show Steps p.tables e below (T72.setTop (mkF m 174 #[.val (.int p0), .val (.int p1), .val (.int p2), .val (.int p3), .val (.int p4), .val (.int p5), .val (.int (f1 p0)), .val (.int (f1 p1)), .val (.int (f1 p2)), .val (.int (f1 p3)), .val (.int (f1 p4)), .val (.ref b6), .val (.int (1 : Int32)), .val (.int (1 : Int32)), .val (.int (1 : Int32))] [])) _
              refine XS.iload X72.here hx rfl (hb hby at_174) rfl ?_
              exact kt)
          have pre77 : ∀ t, Steps p.tables e below (T72.setTop (mkF m 181 #[.val (.int p0), .val (.int p1), .val (.int p2), .val (.int p3), .val (.int p4), .val (.int p5), .val (.int (f1 p0)), .val (.int (f1 p1)), .val (.int (f1 p2)), .val (.int (f1 p3)), .val (.int (f1 p4)), .val (.ref b6), .val (.int (1 : Int32)), .val (.int (1 : Int32)), .val (.int (1 : Int32))] [(.int (1 : Int32))])) t → Steps p.tables e below (s₁.setTop (entryFrame m #[(.int p0), (.int p1), (.int p2), (.int p3), (.int p4), (.int p5)] maxLocals)) t := fun t kt => pre76 t (by
              show Steps p.tables e below (T72.setTop (mkF m 176 #[.val (.int p0), .val (.int p1), .val (.int p2), .val (.int p3), .val (.int p4), .val (.int p5), .val (.int (f1 p0)), .val (.int (f1 p1)), .val (.int (f1 p2)), .val (.int (f1 p3)), .val (.int (f1 p4)), .val (.ref b6), .val (.int (1 : Int32)), .val (.int (1 : Int32)), .val (.int (1 : Int32))] [(.int (1 : Int32))])) _
              refine XS.ifNo X72.here hx rfl (hb hby at_176) rfl ((if0 _ _).trans (feq (by decide : ¬ ((1 : Int32) = (0 : Int32)))).1) ?_
              show Steps p.tables e below (T72.setTop (mkF m 179 #[.val (.int p0), .val (.int p1), .val (.int p2), .val (.int p3), .val (.int p4), .val (.int p5), .val (.int (f1 p0)), .val (.int (f1 p1)), .val (.int (f1 p2)), .val (.int (f1 p3)), .val (.int (f1 p4)), .val (.ref b6), .val (.int (1 : Int32)), .val (.int (1 : Int32)), .val (.int (1 : Int32))] [])) _
              refine XS.iload X72.here hx rfl (hb hby at_179) rfl ?_
              exact kt)
          obtain ⟨fs, hr, hrun, hended, hW, hsame⟩ := X72.leave (v := some (.int (1 : Int32))) (fun h => by rw [Bd.returns] at h; cases h)
          have hv242 : (1 : Int32) = (1 : Int32) := rfl
          refine ⟨_, _, pre77 _ ?_, hrun, hended, _, _, rfl, ?_, ⟨_, rfl⟩, hW, hsame.mono (by decide) (by decide)⟩
          · show Steps p.tables e below (T72.setTop (mkF m 181 #[.val (.int p0), .val (.int p1), .val (.int p2), .val (.int p3), .val (.int p4), .val (.int p5), .val (.int (f1 p0)), .val (.int (f1 p1)), .val (.int (f1 p2)), .val (.int (f1 p3)), .val (.int (f1 p4)), .val (.ref b6), .val (.int (1 : Int32)), .val (.int (1 : Int32)), .val (.int (1 : Int32))] [(.int (1 : Int32))])) _
            refine XS.ifNo X72.here hx rfl (hb hby at_181) rfl ((if0 _ _).trans (feq (by decide : ¬ ((1 : Int32) = (0 : Int32)))).1) ?_
            show Steps p.tables e below (T72.setTop (mkF m 184 #[.val (.int p0), .val (.int p1), .val (.int p2), .val (.int p3), .val (.int p4), .val (.int p5), .val (.int (f1 p0)), .val (.int (f1 p1)), .val (.int (f1 p2)), .val (.int (f1 p3)), .val (.int (f1 p4)), .val (.ref b6), .val (.int (1 : Int32)), .val (.int (1 : Int32)), .val (.int (1 : Int32))] [])) _
            refine XS.iconst X72.here hx rfl (hb hby at_184) ?_
            show Steps p.tables e below (T72.setTop (mkF m 185 #[.val (.int p0), .val (.int p1), .val (.int p2), .val (.int p3), .val (.int p4), .val (.int p5), .val (.int (f1 p0)), .val (.int (f1 p1)), .val (.int (f1 p2)), .val (.int (f1 p3)), .val (.int (f1 p4)), .val (.ref b6), .val (.int (1 : Int32)), .val (.int (1 : Int32)), .val (.int (1 : Int32))] [(.int (1 : Int32))])) _
            refine XS.goto X72.here hx rfl (pc0 := 185) (pc' := 189) rfl (hb hby at_185) (by decide) (by decide) ?_
            show Steps p.tables e below (T72.setTop (mkF m 189 #[.val (.int p0), .val (.int p1), .val (.int p2), .val (.int p3), .val (.int p4), .val (.int p5), .val (.int (f1 p0)), .val (.int (f1 p1)), .val (.int (f1 p2)), .val (.int (f1 p3)), .val (.int (f1 p4)), .val (.ref b6), .val (.int (1 : Int32)), .val (.int (1 : Int32)), .val (.int (1 : Int32))] [(.int (1 : Int32))])) _
            exact retN X72 hx (t := .boolean) Bd.returns (by simp) (hb hby at_189) hr
          · show Q0 Z p0 p1 p2 p3 p4 p5 h0 n0 _ T72.heap _
            rw [e72q]
            exact ⟨congrArg (fun q => some (Value.int q)) hv242, N72⟩
    · have c79 := ((c19.keep K18q (ninS ne_b6_r_o0_open_9 nin0)).keep K24q (ninS ne_b6_r_o0_open_9 (ninS ne_b6_r_o0_active_9 nin0)))
      have c80 := (c25.keep K24q (ninS ne_b6_r_o0_open_9 (ninS ne_b6_r_o0_active_9 nin0)))
      have c81 := (((((E_b6.keep K9q).keep K12q).keep K15q).keep K18q).keep K24q)
      obtain ⟨cq78, kq78, q78a, q78b, q78c⟩ := isOf hZ rfl c81
      obtain ⟨_, _, ⟨T78, L78, k78, n78⟩, -, X78, ⟨Lc78, hQ78, l78, y78, z78⟩, st78⟩ := X24.virtualBack hx (y := (⟨"com/example/cardhost/cardhost/LogicalChannels", "reset", "()V"⟩ : MethodName)) (z := (⟨"com/example/cardhost/cardhost/LogicalChannels", "reset", "()V"⟩ : MethodName)) hown (mvT hZ (hw _ (List.mem_of_getElem? (i := 33) rfl))) (mvT hZ (hw _ (List.mem_of_getElem? (i := 34) rfl))) (notFace_of_selects (args := #[]) (mvT hZ (hw _ (List.mem_of_getElem? (i := 36) rfl)))) (mvT hZ (hw _ (List.mem_of_getElem? (i := 36) rfl))) (mvT hZ (hw _ (List.mem_of_getElem? (i := 35) rfl))) (by decide) (backOf (W := 0) (rm6 l Z a0 hw [] b6 r_o0_open_9 (f6_r1_a (own_upd (own_upd (own_upd (own_upd (fun _ => 0) 0 (1 : Int32)) ((f1 p0)).toNatClampNeg (1 : Int32)) ((f1 p1)).toNatClampNeg (1 : Int32)) ((f1 p2)).toNatClampNeg (1 : Int32))) r_o0_active_9 T24.heap n0 Z28 c79 G24_0 c80 G24_1 g_r_o0_open_9 g_r_o0_active_9 ne_b6_r_o0_open_9 ne_b6_r_o0_active_9 ne_r_o0_open_9_r_o0_active_9) hZ (hw _ (List.mem_of_getElem? (i := 37) rfl)) (hw _ (List.mem_of_getElem? (i := 7) rfl)) (by decide) (by decide)) q78a q78c (g := (mkF m 96 #[.val (.int p0), .val (.int p1), .val (.int p2), .val (.int p3), .val (.int p4), .val (.int p5), .val (.int (f1 p0)), .val (.int (f1 p1)), .val (.int (f1 p2)), .val (.int (f1 p3)), .val (.int (f1 p4)), .val (.ref b6), .unset, .unset, .unset] [(.ref b6)])) rfl (by rw [hml]; rfl) (Steps.refl _) (argsL := []) (rest := []) (lenOf pd_0_1 rfl) rfl (by show 2 * 0 + _ ≤ _; exact Nat.le_of_eq rfl) (hb hby at_96) (fun _ _ => ⟨rfl, rfl, (by decide : 4 + 0 ≤ _), (by decide : 63 + 0 ≤ _)⟩)
      dsimp only [Pt.U, Pt.locs, Pt.cells, Pt.slots] at X78 l78 y78 z78 st78 hQ78
      subst l78 y78 z78
      obtain ⟨rfl, N78q, K78q, G78_0, G78_1⟩ := hQ78
      have N78 := Fr.app N24 N78q
      have K82 : Keep h0 T78.heap [] := K27.trans K78q (allS (Or.inr sz_r_o0_open_9) (allS (Or.inr sz_r_o0_active_9) all0))
      have Z83 : n0 ≤ T78.heap.size := Nat.le_trans Z0 K82.1
      obtain ⟨LS78, X78, N78⟩ : ∃ L, Stand p l e room_1 s m #[(.int p0), (.int p1), (.int p2), (.int p3), (.int p4), (.int p5)] below meth c T78 L 4 63 ∧ Fr n0 L := ⟨_, X78, N78⟩
      have c85 := (c79.keep K78q (ninS ne_b6_r_o0_open_9 (ninS ne_b6_r_o0_active_9 nin0)))
      obtain ⟨cq84, kq84, q84a, q84b, q84c⟩ := isOf hZ rfl (c81.keep K78q)
      obtain ⟨_, _, ⟨T84, L84, k84, n84⟩, -, X84, ⟨Lc84, hQ84, l84, y84, z84⟩, st84⟩ := X78.virtualBack hx (y := (⟨"com/example/cardhost/cardhost/LogicalChannels", "isOpen", "(I)Z"⟩ : MethodName)) (z := (⟨"com/example/cardhost/cardhost/LogicalChannels", "isOpen", "(I)Z"⟩ : MethodName)) hown (mvT hZ (hw _ (List.mem_of_getElem? (i := 38) rfl))) (mvT hZ (hw _ (List.mem_of_getElem? (i := 39) rfl))) (notFace_of_selects (args := #[]) (mvT hZ (hw _ (List.mem_of_getElem? (i := 41) rfl)))) (mvT hZ (hw _ (List.mem_of_getElem? (i := 41) rfl))) (mvT hZ (hw _ (List.mem_of_getElem? (i := 40) rfl))) (by decide) (backOf (W := 0) (rm7 l Z a0 hw [] b6 (f1 p3) r_o0_open_9 (f6_r1_a (f6_r1_a (own_upd (own_upd (own_upd (own_upd (fun _ => 0) 0 (1 : Int32)) ((f1 p0)).toNatClampNeg (1 : Int32)) ((f1 p1)).toNatClampNeg (1 : Int32)) ((f1 p2)).toNatClampNeg (1 : Int32)))) T78.heap n0 Z83 c85 G78_0 g_r_o0_open_9 (own_ch _)) hZ (hw _ (List.mem_of_getElem? (i := 42) rfl)) (hw _ (List.mem_of_getElem? (i := 7) rfl)) (by decide) (by decide)) q84a q84c (g := (mkF m 103 #[.val (.int p0), .val (.int p1), .val (.int p2), .val (.int p3), .val (.int p4), .val (.int p5), .val (.int (f1 p0)), .val (.int (f1 p1)), .val (.int (f1 p2)), .val (.int (f1 p3)), .val (.int (f1 p4)), .val (.ref b6), .unset, .unset, .unset] [(.int (f1 p3)), (.ref b6)])) rfl (by rw [hml]; rfl) (Steps.refl _) (argsL := [(.int (f1 p3))]) (rest := []) (lenOf pd_0_3 rfl) rfl (by show 2 * 0 + _ ≤ _; exact Nat.le_of_eq rfl) (hb hby at_103) (fun _ _ => ⟨rfl, rfl, (by decide : 4 + 0 ≤ _), (by decide : 63 + 0 ≤ _)⟩)
      dsimp only [Pt.U, Pt.locs, Pt.cells, Pt.slots] at X84 l84 y84 z84 st84 hQ84
      subst l84 y84 z84
      obtain ⟨rfl, N84q, e84q⟩ := hQ84
      have N84 := Fr.app N78 N84q
      have pre86 : ∀ t, Steps p.tables e below (T84.setTop (mkF m 108 #[.val (.int p0), .val (.int p1), .val (.int p2), .val (.int p3), .val (.int p4), .val (.int p5), .val (.int (f1 p0)), .val (.int (f1 p1)), .val (.int (f1 p2)), .val (.int (f1 p3)), .val (.int (f1 p4)), .val (.ref b6), .unset, .unset, .unset] [(.int (f1 p3)), (.int (nar .boolean ((f6_r1_a (f6_r1_a (own_upd (own_upd (own_upd (own_upd (fun _ => 0) 0 (1 : Int32)) ((f1 p0)).toNatClampNeg (1 : Int32)) ((f1 p1)).toNatClampNeg (1 : Int32)) ((f1 p2)).toNatClampNeg (1 : Int32)))) ((f1 p3)).toNatClampNeg)))])) t → Steps p.tables e below (s₁.setTop (entryFrame m #[(.int p0), (.int p1), (.int p2), (.int p3), (.int p4), (.int p5)] maxLocals)) t := fun t kt => pre29 t (by
          show Steps p.tables e below (T24.setTop (mkF m 91 #[.val (.int p0), .val (.int p1), .val (.int p2), .val (.int p3), .val (.int p4), .val (.int p5), .val (.int (f1 p0)), .val (.int (f1 p1)), .val (.int (f1 p2)), .val (.int (f1 p3)), .val (.int (f1 p4)), .val (.ref b6), .unset, .unset, .unset] [(.int (p5 &&& (2 : Int32)))])) _
          refine XS.ifNo X24.here hx rfl (hb hby at_91) rfl ((if0 _ _).trans (feq hc91_30).1) ?_
          show Steps p.tables e below (T24.setTop (mkF m 94 #[.val (.int p0), .val (.int p1), .val (.int p2), .val (.int p3), .val (.int p4), .val (.int p5), .val (.int (f1 p0)), .val (.int (f1 p1)), .val (.int (f1 p2)), .val (.int (f1 p3)), .val (.int (f1 p4)), .val (.ref b6), .unset, .unset, .unset] [])) _
          refine XS.aload X24.here hx rfl (hb hby at_94) rfl rfl ?_
          show Steps p.tables e below (T24.setTop (mkF m 96 #[.val (.int p0), .val (.int p1), .val (.int p2), .val (.int p3), .val (.int p4), .val (.int p5), .val (.int (f1 p0)), .val (.int (f1 p1)), .val (.int (f1 p2)), .val (.int (f1 p3)), .val (.int (f1 p4)), .val (.ref b6), .unset, .unset, .unset] [(.ref b6)])) _
          refine st78.trans ?_
          show Steps p.tables e below (T78.setTop (mkF m 99 #[.val (.int p0), .val (.int p1), .val (.int p2), .val (.int p3), .val (.int p4), .val (.int p5), .val (.int (f1 p0)), .val (.int (f1 p1)), .val (.int (f1 p2)), .val (.int (f1 p3)), .val (.int (f1 p4)), .val (.ref b6), .unset, .unset, .unset] [])) _
          refine XS.aload X78.here hx rfl (hb hby at_99) rfl rfl ?_
          show Steps p.tables e below (T78.setTop (mkF m 101 #[.val (.int p0), .val (.int p1), .val (.int p2), .val (.int p3), .val (.int p4), .val (.int p5), .val (.int (f1 p0)), .val (.int (f1 p1)), .val (.int (f1 p2)), .val (.int (f1 p3)), .val (.int (f1 p4)), .val (.ref b6), .unset, .unset, .unset] [(.ref b6)])) _
          refine XS.iload X78.here hx rfl (hb hby at_101) rfl ?_
          show Steps p.tables e below (T78.setTop (mkF m 103 #[.val (.int p0), .val (.int p1), .val (.int p2), .val (.int p3), .val (.int p4), .val (.int p5), .val (.int (f1 p0)), .val (.int (f1 p1)), .val (.int (f1 p2)), .val (.int (f1 p3)), .val (.int (f1 p4)), .val (.ref b6), .unset, .unset, .unset] [(.int (f1 p3)), (.ref b6)])) _
          refine st84.trans ?_
          show Steps p.tables e below (T84.setTop (mkF m 106 #[.val (.int p0), .val (.int p1), .val (.int p2), .val (.int p3), .val (.int p4), .val (.int p5), .val (.int (f1 p0)), .val (.int (f1 p1)), .val (.int (f1 p2)), .val (.int (f1 p3)), .val (.int (f1 p4)), .val (.ref b6), .unset, .unset, .unset] [(.int (nar .boolean ((f6_r1_a (f6_r1_a (own_upd (own_upd (own_upd (own_upd (fun _ => 0) 0 (1 : Int32)) ((f1 p0)).toNatClampNeg (1 : Int32)) ((f1 p1)).toNatClampNeg (1 : Int32)) ((f1 p2)).toNatClampNeg (1 : Int32)))) ((f1 p3)).toNatClampNeg)))])) _
          refine XS.iload X84.here hx rfl (hb hby at_106) rfl ?_
          exact kt)
      by_cases hc108_87 : (f1 p3) = (0 : Int32)
      · have pre88 : ∀ t, Steps p.tables e below (T84.setTop (mkF m 116 #[.val (.int p0), .val (.int p1), .val (.int p2), .val (.int p3), .val (.int p4), .val (.int p5), .val (.int (f1 p0)), .val (.int (f1 p1)), .val (.int (f1 p2)), .val (.int (f1 p3)), .val (.int (f1 p4)), .val (.ref b6), .unset, .unset, .unset] [(.int (1 : Int32)), (.int (nar .boolean ((f6_r1_a (f6_r1_a (own_upd (own_upd (own_upd (own_upd (fun _ => 0) 0 (1 : Int32)) ((f1 p0)).toNatClampNeg (1 : Int32)) ((f1 p1)).toNatClampNeg (1 : Int32)) ((f1 p2)).toNatClampNeg (1 : Int32)))) ((f1 p3)).toNatClampNeg)))])) t → Steps p.tables e below (s₁.setTop (entryFrame m #[(.int p0), (.int p1), (.int p2), (.int p3), (.int p4), (.int p5)] maxLocals)) t := fun t kt => pre86 t (by
            show Steps p.tables e below (T84.setTop (mkF m 108 #[.val (.int p0), .val (.int p1), .val (.int p2), .val (.int p3), .val (.int p4), .val (.int p5), .val (.int (f1 p0)), .val (.int (f1 p1)), .val (.int (f1 p2)), .val (.int (f1 p3)), .val (.int (f1 p4)), .val (.ref b6), .unset, .unset, .unset] [(.int (f1 p3)), (.int (nar .boolean ((f6_r1_a (f6_r1_a (own_upd (own_upd (own_upd (own_upd (fun _ => 0) 0 (1 : Int32)) ((f1 p0)).toNatClampNeg (1 : Int32)) ((f1 p1)).toNatClampNeg (1 : Int32)) ((f1 p2)).toNatClampNeg (1 : Int32)))) ((f1 p3)).toNatClampNeg)))])) _
            refine XS.ifNo X84.here hx rfl (hb hby at_108) rfl ((if0 _ _).trans (teq hc108_87).2) ?_
            show Steps p.tables e below (T84.setTop (mkF m 111 #[.val (.int p0), .val (.int p1), .val (.int p2), .val (.int p3), .val (.int p4), .val (.int p5), .val (.int (f1 p0)), .val (.int (f1 p1)), .val (.int (f1 p2)), .val (.int (f1 p3)), .val (.int (f1 p4)), .val (.ref b6), .unset, .unset, .unset] [(.int (nar .boolean ((f6_r1_a (f6_r1_a (own_upd (own_upd (own_upd (own_upd (fun _ => 0) 0 (1 : Int32)) ((f1 p0)).toNatClampNeg (1 : Int32)) ((f1 p1)).toNatClampNeg (1 : Int32)) ((f1 p2)).toNatClampNeg (1 : Int32)))) ((f1 p3)).toNatClampNeg)))])) _
            refine XS.iconst X84.here hx rfl (hb hby at_111) ?_
            show Steps p.tables e below (T84.setTop (mkF m 112 #[.val (.int p0), .val (.int p1), .val (.int p2), .val (.int p3), .val (.int p4), .val (.int p5), .val (.int (f1 p0)), .val (.int (f1 p1)), .val (.int (f1 p2)), .val (.int (f1 p3)), .val (.int (f1 p4)), .val (.ref b6), .unset, .unset, .unset] [(.int (1 : Int32)), (.int (nar .boolean ((f6_r1_a (f6_r1_a (own_upd (own_upd (own_upd (own_upd (fun _ => 0) 0 (1 : Int32)) ((f1 p0)).toNatClampNeg (1 : Int32)) ((f1 p1)).toNatClampNeg (1 : Int32)) ((f1 p2)).toNatClampNeg (1 : Int32)))) ((f1 p3)).toNatClampNeg)))])) _
            refine XS.goto X84.here hx rfl (pc0 := 112) (pc' := 116) rfl (hb hby at_112) (by decide) (by decide) ?_
            exact kt)
        have hd116_89 : (nar .boolean ((f6_r1_a (f6_r1_a (own_upd (own_upd (own_upd (own_upd (fun _ => 0) 0 (1 : Int32)) ((f1 p0)).toNatClampNeg (1 : Int32)) ((f1 p1)).toNatClampNeg (1 : Int32)) ((f1 p2)).toNatClampNeg (1 : Int32)))) ((f1 p3)).toNatClampNeg)) = (1 : Int32) := own_is0 _ (own_ch _) hc108_87
        obtain ⟨cq90, kq90, q90a, q90b, q90c⟩ := isOf hZ e84q (c81.keep K78q)
        obtain ⟨_, _, ⟨T90, L90, k90, n90⟩, -, X90, ⟨Lc90, hQ90, l90, y90, z90⟩, st90⟩ := X84.virtualBack hx (y := (⟨"com/example/cardhost/cardhost/LogicalChannels", "isOpen", "(I)Z"⟩ : MethodName)) (z := (⟨"com/example/cardhost/cardhost/LogicalChannels", "isOpen", "(I)Z"⟩ : MethodName)) hown (mvT hZ (hw _ (List.mem_of_getElem? (i := 38) rfl))) (mvT hZ (hw _ (List.mem_of_getElem? (i := 39) rfl))) (notFace_of_selects (args := #[]) (mvT hZ (hw _ (List.mem_of_getElem? (i := 41) rfl)))) (mvT hZ (hw _ (List.mem_of_getElem? (i := 41) rfl))) (mvT hZ (hw _ (List.mem_of_getElem? (i := 40) rfl))) (by decide) (backOf (W := 0) (rm7 l Z a0 hw [] b6 (f1 p4) r_o0_open_9 (f6_r1_a (f6_r1_a (own_upd (own_upd (own_upd (own_upd (fun _ => 0) 0 (1 : Int32)) ((f1 p0)).toNatClampNeg (1 : Int32)) ((f1 p1)).toNatClampNeg (1 : Int32)) ((f1 p2)).toNatClampNeg (1 : Int32)))) T78.heap n0 Z83 c85 G78_0 g_r_o0_open_9 (own_ch _)) hZ (hw _ (List.mem_of_getElem? (i := 42) rfl)) (hw _ (List.mem_of_getElem? (i := 7) rfl)) (by decide) (by decide)) q90a q90c (g := (mkF m 130 #[.val (.int p0), .val (.int p1), .val (.int p2), .val (.int p3), .val (.int p4), .val (.int p5), .val (.int (f1 p0)), .val (.int (f1 p1)), .val (.int (f1 p2)), .val (.int (f1 p3)), .val (.int (f1 p4)), .val (.ref b6), .val (.int (1 : Int32)), .unset, .unset] [(.int (f1 p4)), (.ref b6)])) rfl (by rw [hml]; rfl) (Steps.refl _) (argsL := [(.int (f1 p4))]) (rest := []) (lenOf pd_0_3 rfl) rfl (by show 2 * 0 + _ ≤ _; exact Nat.le_of_eq rfl) (hb hby at_130) (fun _ _ => ⟨rfl, e84q, (by decide : 4 + 0 ≤ _), (by decide : 63 + 0 ≤ _)⟩)
        dsimp only [Pt.U, Pt.locs, Pt.cells, Pt.slots] at X90 l90 y90 z90 st90 hQ90
        subst l90 y90 z90
        obtain ⟨rfl, N90q, e90q⟩ := hQ90
        have N90 := Fr.app N84 N90q
        have pre91 : ∀ t, Steps p.tables e below (T90.setTop (mkF m 135 #[.val (.int p0), .val (.int p1), .val (.int p2), .val (.int p3), .val (.int p4), .val (.int p5), .val (.int (f1 p0)), .val (.int (f1 p1)), .val (.int (f1 p2)), .val (.int (f1 p3)), .val (.int (f1 p4)), .val (.ref b6), .val (.int (1 : Int32)), .unset, .unset] [(.int (f1 p4)), (.int (nar .boolean ((f6_r1_a (f6_r1_a (own_upd (own_upd (own_upd (own_upd (fun _ => 0) 0 (1 : Int32)) ((f1 p0)).toNatClampNeg (1 : Int32)) ((f1 p1)).toNatClampNeg (1 : Int32)) ((f1 p2)).toNatClampNeg (1 : Int32)))) ((f1 p4)).toNatClampNeg)))])) t → Steps p.tables e below (s₁.setTop (entryFrame m #[(.int p0), (.int p1), (.int p2), (.int p3), (.int p4), (.int p5)] maxLocals)) t := fun t kt => pre88 t (by
            show Steps p.tables e below (T84.setTop (mkF m 116 #[.val (.int p0), .val (.int p1), .val (.int p2), .val (.int p3), .val (.int p4), .val (.int p5), .val (.int (f1 p0)), .val (.int (f1 p1)), .val (.int (f1 p2)), .val (.int (f1 p3)), .val (.int (f1 p4)), .val (.ref b6), .unset, .unset, .unset] [(.int (1 : Int32)), (.int (nar .boolean ((f6_r1_a (f6_r1_a (own_upd (own_upd (own_upd (own_upd (fun _ => 0) 0 (1 : Int32)) ((f1 p0)).toNatClampNeg (1 : Int32)) ((f1 p1)).toNatClampNeg (1 : Int32)) ((f1 p2)).toNatClampNeg (1 : Int32)))) ((f1 p3)).toNatClampNeg)))])) _
            refine XS.icmpNo X84.here hx rfl (hb hby at_116) rfl (teq hd116_89).2 ?_
            show Steps p.tables e below (T84.setTop (mkF m 119 #[.val (.int p0), .val (.int p1), .val (.int p2), .val (.int p3), .val (.int p4), .val (.int p5), .val (.int (f1 p0)), .val (.int (f1 p1)), .val (.int (f1 p2)), .val (.int (f1 p3)), .val (.int (f1 p4)), .val (.ref b6), .unset, .unset, .unset] [])) _
            refine XS.iconst X84.here hx rfl (hb hby at_119) ?_
            show Steps p.tables e below (T84.setTop (mkF m 120 #[.val (.int p0), .val (.int p1), .val (.int p2), .val (.int p3), .val (.int p4), .val (.int p5), .val (.int (f1 p0)), .val (.int (f1 p1)), .val (.int (f1 p2)), .val (.int (f1 p3)), .val (.int (f1 p4)), .val (.ref b6), .unset, .unset, .unset] [(.int (1 : Int32))])) _
            refine XS.goto X84.here hx rfl (pc0 := 120) (pc' := 124) rfl (hb hby at_120) (by decide) (by decide) ?_
            show Steps p.tables e below (T84.setTop (mkF m 124 #[.val (.int p0), .val (.int p1), .val (.int p2), .val (.int p3), .val (.int p4), .val (.int p5), .val (.int (f1 p0)), .val (.int (f1 p1)), .val (.int (f1 p2)), .val (.int (f1 p3)), .val (.int (f1 p4)), .val (.ref b6), .unset, .unset, .unset] [(.int (1 : Int32))])) _
            refine XS.istore X84.here hx rfl (hb hby at_124) rfl (l' := #[.val (.int p0), .val (.int p1), .val (.int p2), .val (.int p3), .val (.int p4), .val (.int p5), .val (.int (f1 p0)), .val (.int (f1 p1)), .val (.int (f1 p2)), .val (.int (f1 p3)), .val (.int (f1 p4)), .val (.ref b6), .val (.int (1 : Int32)), .unset, .unset]) rfl ?_
            show Steps p.tables e below (T84.setTop (mkF m 126 #[.val (.int p0), .val (.int p1), .val (.int p2), .val (.int p3), .val (.int p4), .val (.int p5), .val (.int (f1 p0)), .val (.int (f1 p1)), .val (.int (f1 p2)), .val (.int (f1 p3)), .val (.int (f1 p4)), .val (.ref b6), .val (.int (1 : Int32)), .unset, .unset] [])) _
            refine XS.aload X84.here hx rfl (hb hby at_126) rfl rfl ?_
            show Steps p.tables e below (T84.setTop (mkF m 128 #[.val (.int p0), .val (.int p1), .val (.int p2), .val (.int p3), .val (.int p4), .val (.int p5), .val (.int (f1 p0)), .val (.int (f1 p1)), .val (.int (f1 p2)), .val (.int (f1 p3)), .val (.int (f1 p4)), .val (.ref b6), .val (.int (1 : Int32)), .unset, .unset] [(.ref b6)])) _
            refine XS.iload X84.here hx rfl (hb hby at_128) rfl ?_
            show Steps p.tables e below (T84.setTop (mkF m 130 #[.val (.int p0), .val (.int p1), .val (.int p2), .val (.int p3), .val (.int p4), .val (.int p5), .val (.int (f1 p0)), .val (.int (f1 p1)), .val (.int (f1 p2)), .val (.int (f1 p3)), .val (.int (f1 p4)), .val (.ref b6), .val (.int (1 : Int32)), .unset, .unset] [(.int (f1 p4)), (.ref b6)])) _
            refine st90.trans ?_
            show Steps p.tables e below (T90.setTop (mkF m 133 #[.val (.int p0), .val (.int p1), .val (.int p2), .val (.int p3), .val (.int p4), .val (.int p5), .val (.int (f1 p0)), .val (.int (f1 p1)), .val (.int (f1 p2)), .val (.int (f1 p3)), .val (.int (f1 p4)), .val (.ref b6), .val (.int (1 : Int32)), .unset, .unset] [(.int (nar .boolean ((f6_r1_a (f6_r1_a (own_upd (own_upd (own_upd (own_upd (fun _ => 0) 0 (1 : Int32)) ((f1 p0)).toNatClampNeg (1 : Int32)) ((f1 p1)).toNatClampNeg (1 : Int32)) ((f1 p2)).toNatClampNeg (1 : Int32)))) ((f1 p4)).toNatClampNeg)))])) _
            refine XS.iload X90.here hx rfl (hb hby at_133) rfl ?_
            exact kt)
        by_cases hc135_92 : (f1 p4) = (0 : Int32)
        · have pre93 : ∀ t, Steps p.tables e below (T90.setTop (mkF m 143 #[.val (.int p0), .val (.int p1), .val (.int p2), .val (.int p3), .val (.int p4), .val (.int p5), .val (.int (f1 p0)), .val (.int (f1 p1)), .val (.int (f1 p2)), .val (.int (f1 p3)), .val (.int (f1 p4)), .val (.ref b6), .val (.int (1 : Int32)), .unset, .unset] [(.int (1 : Int32)), (.int (nar .boolean ((f6_r1_a (f6_r1_a (own_upd (own_upd (own_upd (own_upd (fun _ => 0) 0 (1 : Int32)) ((f1 p0)).toNatClampNeg (1 : Int32)) ((f1 p1)).toNatClampNeg (1 : Int32)) ((f1 p2)).toNatClampNeg (1 : Int32)))) ((f1 p4)).toNatClampNeg)))])) t → Steps p.tables e below (s₁.setTop (entryFrame m #[(.int p0), (.int p1), (.int p2), (.int p3), (.int p4), (.int p5)] maxLocals)) t := fun t kt => pre91 t (by
              show Steps p.tables e below (T90.setTop (mkF m 135 #[.val (.int p0), .val (.int p1), .val (.int p2), .val (.int p3), .val (.int p4), .val (.int p5), .val (.int (f1 p0)), .val (.int (f1 p1)), .val (.int (f1 p2)), .val (.int (f1 p3)), .val (.int (f1 p4)), .val (.ref b6), .val (.int (1 : Int32)), .unset, .unset] [(.int (f1 p4)), (.int (nar .boolean ((f6_r1_a (f6_r1_a (own_upd (own_upd (own_upd (own_upd (fun _ => 0) 0 (1 : Int32)) ((f1 p0)).toNatClampNeg (1 : Int32)) ((f1 p1)).toNatClampNeg (1 : Int32)) ((f1 p2)).toNatClampNeg (1 : Int32)))) ((f1 p4)).toNatClampNeg)))])) _
              refine XS.ifNo X90.here hx rfl (hb hby at_135) rfl ((if0 _ _).trans (teq hc135_92).2) ?_
              show Steps p.tables e below (T90.setTop (mkF m 138 #[.val (.int p0), .val (.int p1), .val (.int p2), .val (.int p3), .val (.int p4), .val (.int p5), .val (.int (f1 p0)), .val (.int (f1 p1)), .val (.int (f1 p2)), .val (.int (f1 p3)), .val (.int (f1 p4)), .val (.ref b6), .val (.int (1 : Int32)), .unset, .unset] [(.int (nar .boolean ((f6_r1_a (f6_r1_a (own_upd (own_upd (own_upd (own_upd (fun _ => 0) 0 (1 : Int32)) ((f1 p0)).toNatClampNeg (1 : Int32)) ((f1 p1)).toNatClampNeg (1 : Int32)) ((f1 p2)).toNatClampNeg (1 : Int32)))) ((f1 p4)).toNatClampNeg)))])) _
              refine XS.iconst X90.here hx rfl (hb hby at_138) ?_
              show Steps p.tables e below (T90.setTop (mkF m 139 #[.val (.int p0), .val (.int p1), .val (.int p2), .val (.int p3), .val (.int p4), .val (.int p5), .val (.int (f1 p0)), .val (.int (f1 p1)), .val (.int (f1 p2)), .val (.int (f1 p3)), .val (.int (f1 p4)), .val (.ref b6), .val (.int (1 : Int32)), .unset, .unset] [(.int (1 : Int32)), (.int (nar .boolean ((f6_r1_a (f6_r1_a (own_upd (own_upd (own_upd (own_upd (fun _ => 0) 0 (1 : Int32)) ((f1 p0)).toNatClampNeg (1 : Int32)) ((f1 p1)).toNatClampNeg (1 : Int32)) ((f1 p2)).toNatClampNeg (1 : Int32)))) ((f1 p4)).toNatClampNeg)))])) _
              refine XS.goto X90.here hx rfl (pc0 := 139) (pc' := 143) rfl (hb hby at_139) (by decide) (by decide) ?_
              exact kt)
          have hd143_94 : (nar .boolean ((f6_r1_a (f6_r1_a (own_upd (own_upd (own_upd (own_upd (fun _ => 0) 0 (1 : Int32)) ((f1 p0)).toNatClampNeg (1 : Int32)) ((f1 p1)).toNatClampNeg (1 : Int32)) ((f1 p2)).toNatClampNeg (1 : Int32)))) ((f1 p4)).toNatClampNeg)) = (1 : Int32) := own_is0 _ (own_ch _) hc135_92
          obtain ⟨cq95, kq95, q95a, q95b, q95c⟩ := isOf hZ e90q (c81.keep K78q)
          obtain ⟨_, _, ⟨T95, L95, k95, n95⟩, -, X95, ⟨Lc95, hQ95, l95, y95, z95⟩, st95⟩ := X90.virtualBack hx (y := (⟨"com/example/cardhost/cardhost/LogicalChannels", "lowestClosed", "()I"⟩ : MethodName)) (z := (⟨"com/example/cardhost/cardhost/LogicalChannels", "lowestClosed", "()I"⟩ : MethodName)) hown (mvT hZ (hw _ (List.mem_of_getElem? (i := 43) rfl))) (mvT hZ (hw _ (List.mem_of_getElem? (i := 44) rfl))) (notFace_of_selects (args := #[]) (mvT hZ (hw _ (List.mem_of_getElem? (i := 46) rfl)))) (mvT hZ (hw _ (List.mem_of_getElem? (i := 46) rfl))) (mvT hZ (hw _ (List.mem_of_getElem? (i := 45) rfl))) (by decide) (backOf (W := 0) (rm8 l Z a0 hw [] b6 r_o0_open_9 (f6_r1_a (f6_r1_a (own_upd (own_upd (own_upd (own_upd (fun _ => 0) 0 (1 : Int32)) ((f1 p0)).toNatClampNeg (1 : Int32)) ((f1 p1)).toNatClampNeg (1 : Int32)) ((f1 p2)).toNatClampNeg (1 : Int32)))) T78.heap n0 Z83 c85 G78_0 g_r_o0_open_9) hZ (hw _ (List.mem_of_getElem? (i := 47) rfl)) (hw _ (List.mem_of_getElem? (i := 7) rfl)) (by decide) (by decide)) q95a q95c (g := (mkF m 155 #[.val (.int p0), .val (.int p1), .val (.int p2), .val (.int p3), .val (.int p4), .val (.int p5), .val (.int (f1 p0)), .val (.int (f1 p1)), .val (.int (f1 p2)), .val (.int (f1 p3)), .val (.int (f1 p4)), .val (.ref b6), .val (.int (1 : Int32)), .val (.int (1 : Int32)), .unset] [(.ref b6)])) rfl (by rw [hml]; rfl) (Steps.refl _) (argsL := []) (rest := []) (lenOf pd_0_4 rfl) rfl (by show 2 * 0 + _ ≤ _; exact Nat.le_of_eq rfl) (hb hby at_155) (fun _ _ => ⟨rfl, e90q, (by decide : 4 + 0 ≤ _), (by decide : 63 + 0 ≤ _)⟩)
          dsimp only [Pt.U, Pt.locs, Pt.cells, Pt.slots] at X95 l95 y95 z95 st95 hQ95
          subst l95 y95 z95
          obtain ⟨rfl, N95q, e95q⟩ := hQ95
          have N95 := Fr.app N90 N95q
          have pre96 : ∀ t, Steps p.tables e below (T95.setTop (mkF m 159 #[.val (.int p0), .val (.int p1), .val (.int p2), .val (.int p3), .val (.int p4), .val (.int p5), .val (.int (f1 p0)), .val (.int (f1 p1)), .val (.int (f1 p2)), .val (.int (f1 p3)), .val (.int (f1 p4)), .val (.ref b6), .val (.int (1 : Int32)), .val (.int (1 : Int32)), .unset] [(.int (1 : Int32)), (.int (f8 (f6_r1_a (f6_r1_a (own_upd (own_upd (own_upd (own_upd (fun _ => 0) 0 (1 : Int32)) ((f1 p0)).toNatClampNeg (1 : Int32)) ((f1 p1)).toNatClampNeg (1 : Int32)) ((f1 p2)).toNatClampNeg (1 : Int32))))))])) t → Steps p.tables e below (s₁.setTop (entryFrame m #[(.int p0), (.int p1), (.int p2), (.int p3), (.int p4), (.int p5)] maxLocals)) t := fun t kt => pre93 t (by
              show Steps p.tables e below (T90.setTop (mkF m 143 #[.val (.int p0), .val (.int p1), .val (.int p2), .val (.int p3), .val (.int p4), .val (.int p5), .val (.int (f1 p0)), .val (.int (f1 p1)), .val (.int (f1 p2)), .val (.int (f1 p3)), .val (.int (f1 p4)), .val (.ref b6), .val (.int (1 : Int32)), .unset, .unset] [(.int (1 : Int32)), (.int (nar .boolean ((f6_r1_a (f6_r1_a (own_upd (own_upd (own_upd (own_upd (fun _ => 0) 0 (1 : Int32)) ((f1 p0)).toNatClampNeg (1 : Int32)) ((f1 p1)).toNatClampNeg (1 : Int32)) ((f1 p2)).toNatClampNeg (1 : Int32)))) ((f1 p4)).toNatClampNeg)))])) _
              refine XS.icmpNo X90.here hx rfl (hb hby at_143) rfl (teq hd143_94).2 ?_
              show Steps p.tables e below (T90.setTop (mkF m 146 #[.val (.int p0), .val (.int p1), .val (.int p2), .val (.int p3), .val (.int p4), .val (.int p5), .val (.int (f1 p0)), .val (.int (f1 p1)), .val (.int (f1 p2)), .val (.int (f1 p3)), .val (.int (f1 p4)), .val (.ref b6), .val (.int (1 : Int32)), .unset, .unset] [])) _
              refine XS.iconst X90.here hx rfl (hb hby at_146) ?_
              show Steps p.tables e below (T90.setTop (mkF m 147 #[.val (.int p0), .val (.int p1), .val (.int p2), .val (.int p3), .val (.int p4), .val (.int p5), .val (.int (f1 p0)), .val (.int (f1 p1)), .val (.int (f1 p2)), .val (.int (f1 p3)), .val (.int (f1 p4)), .val (.ref b6), .val (.int (1 : Int32)), .unset, .unset] [(.int (1 : Int32))])) _
              refine XS.goto X90.here hx rfl (pc0 := 147) (pc' := 151) rfl (hb hby at_147) (by decide) (by decide) ?_
              show Steps p.tables e below (T90.setTop (mkF m 151 #[.val (.int p0), .val (.int p1), .val (.int p2), .val (.int p3), .val (.int p4), .val (.int p5), .val (.int (f1 p0)), .val (.int (f1 p1)), .val (.int (f1 p2)), .val (.int (f1 p3)), .val (.int (f1 p4)), .val (.ref b6), .val (.int (1 : Int32)), .unset, .unset] [(.int (1 : Int32))])) _
              refine XS.istore X90.here hx rfl (hb hby at_151) rfl (l' := #[.val (.int p0), .val (.int p1), .val (.int p2), .val (.int p3), .val (.int p4), .val (.int p5), .val (.int (f1 p0)), .val (.int (f1 p1)), .val (.int (f1 p2)), .val (.int (f1 p3)), .val (.int (f1 p4)), .val (.ref b6), .val (.int (1 : Int32)), .val (.int (1 : Int32)), .unset]) rfl ?_
              show Steps p.tables e below (T90.setTop (mkF m 153 #[.val (.int p0), .val (.int p1), .val (.int p2), .val (.int p3), .val (.int p4), .val (.int p5), .val (.int (f1 p0)), .val (.int (f1 p1)), .val (.int (f1 p2)), .val (.int (f1 p3)), .val (.int (f1 p4)), .val (.ref b6), .val (.int (1 : Int32)), .val (.int (1 : Int32)), .unset] [])) _
              refine XS.aload X90.here hx rfl (hb hby at_153) rfl rfl ?_
              show Steps p.tables e below (T90.setTop (mkF m 155 #[.val (.int p0), .val (.int p1), .val (.int p2), .val (.int p3), .val (.int p4), .val (.int p5), .val (.int (f1 p0)), .val (.int (f1 p1)), .val (.int (f1 p2)), .val (.int (f1 p3)), .val (.int (f1 p4)), .val (.ref b6), .val (.int (1 : Int32)), .val (.int (1 : Int32)), .unset] [(.ref b6)])) _
              refine st95.trans ?_
              show Steps p.tables e below (T95.setTop (mkF m 158 #[.val (.int p0), .val (.int p1), .val (.int p2), .val (.int p3), .val (.int p4), .val (.int p5), .val (.int (f1 p0)), .val (.int (f1 p1)), .val (.int (f1 p2)), .val (.int (f1 p3)), .val (.int (f1 p4)), .val (.ref b6), .val (.int (1 : Int32)), .val (.int (1 : Int32)), .unset] [(.int (f8 (f6_r1_a (f6_r1_a (own_upd (own_upd (own_upd (own_upd (fun _ => 0) 0 (1 : Int32)) ((f1 p0)).toNatClampNeg (1 : Int32)) ((f1 p1)).toNatClampNeg (1 : Int32)) ((f1 p2)).toNatClampNeg (1 : Int32))))))])) _
              refine XS.iconst X95.here hx rfl (hb hby at_158) ?_
              exact kt)
          have hd159_97 : (f8 (f6_r1_a (f6_r1_a (own_upd (own_upd (own_upd (own_upd (fun _ => 0) 0 (1 : Int32)) ((f1 p0)).toNatClampNeg (1 : Int32)) ((f1 p1)).toNatClampNeg (1 : Int32)) ((f1 p2)).toNatClampNeg (1 : Int32))))) = (1 : Int32) := own_lc _
          have pre98 : ∀ t, Steps p.tables e below (T95.setTop (mkF m 171 #[.val (.int p0), .val (.int p1), .val (.int p2), .val (.int p3), .val (.int p4), .val (.int p5), .val (.int (f1 p0)), .val (.int (f1 p1)), .val (.int (f1 p2)), .val (.int (f1 p3)), .val (.int (f1 p4)), .val (.ref b6), .val (.int (1 : Int32)), .val (.int (1 : Int32)), .val (.int (1 : Int32))] [(.int (1 : Int32))])) t → Steps p.tables e below (s₁.setTop (entryFrame m #[(.int p0), (.int p1), (.int p2), (.int p3), (.int p4), (.int p5)] maxLocals)) t := fun t kt => pre96 t (by
              show Steps p.tables e below (T95.setTop (mkF m 159 #[.val (.int p0), .val (.int p1), .val (.int p2), .val (.int p3), .val (.int p4), .val (.int p5), .val (.int (f1 p0)), .val (.int (f1 p1)), .val (.int (f1 p2)), .val (.int (f1 p3)), .val (.int (f1 p4)), .val (.ref b6), .val (.int (1 : Int32)), .val (.int (1 : Int32)), .unset] [(.int (1 : Int32)), (.int (f8 (f6_r1_a (f6_r1_a (own_upd (own_upd (own_upd (own_upd (fun _ => 0) 0 (1 : Int32)) ((f1 p0)).toNatClampNeg (1 : Int32)) ((f1 p1)).toNatClampNeg (1 : Int32)) ((f1 p2)).toNatClampNeg (1 : Int32))))))])) _
              refine XS.icmpNo X95.here hx rfl (hb hby at_159) rfl (teq hd159_97).2 ?_
              show Steps p.tables e below (T95.setTop (mkF m 162 #[.val (.int p0), .val (.int p1), .val (.int p2), .val (.int p3), .val (.int p4), .val (.int p5), .val (.int (f1 p0)), .val (.int (f1 p1)), .val (.int (f1 p2)), .val (.int (f1 p3)), .val (.int (f1 p4)), .val (.ref b6), .val (.int (1 : Int32)), .val (.int (1 : Int32)), .unset] [])) _
              refine XS.iconst X95.here hx rfl (hb hby at_162) ?_
              show Steps p.tables e below (T95.setTop (mkF m 163 #[.val (.int p0), .val (.int p1), .val (.int p2), .val (.int p3), .val (.int p4), .val (.int p5), .val (.int (f1 p0)), .val (.int (f1 p1)), .val (.int (f1 p2)), .val (.int (f1 p3)), .val (.int (f1 p4)), .val (.ref b6), .val (.int (1 : Int32)), .val (.int (1 : Int32)), .unset] [(.int (1 : Int32))])) _
              refine XS.goto X95.here hx rfl (pc0 := 163) (pc' := 167) rfl (hb hby at_163) (by decide) (by decide) ?_
              show Steps p.tables e below (T95.setTop (mkF m 167 #[.val (.int p0), .val (.int p1), .val (.int p2), .val (.int p3), .val (.int p4), .val (.int p5), .val (.int (f1 p0)), .val (.int (f1 p1)), .val (.int (f1 p2)), .val (.int (f1 p3)), .val (.int (f1 p4)), .val (.ref b6), .val (.int (1 : Int32)), .val (.int (1 : Int32)), .unset] [(.int (1 : Int32))])) _
              refine XS.istore X95.here hx rfl (hb hby at_167) rfl (l' := #[.val (.int p0), .val (.int p1), .val (.int p2), .val (.int p3), .val (.int p4), .val (.int p5), .val (.int (f1 p0)), .val (.int (f1 p1)), .val (.int (f1 p2)), .val (.int (f1 p3)), .val (.int (f1 p4)), .val (.ref b6), .val (.int (1 : Int32)), .val (.int (1 : Int32)), .val (.int (1 : Int32))]) rfl ?_
              show Steps p.tables e below (T95.setTop (mkF m 169 #[.val (.int p0), .val (.int p1), .val (.int p2), .val (.int p3), .val (.int p4), .val (.int p5), .val (.int (f1 p0)), .val (.int (f1 p1)), .val (.int (f1 p2)), .val (.int (f1 p3)), .val (.int (f1 p4)), .val (.ref b6), .val (.int (1 : Int32)), .val (.int (1 : Int32)), .val (.int (1 : Int32))] [])) _
              refine XS.iload X95.here hx rfl (hb hby at_169) rfl ?_
              exact kt)
          have pre99 : ∀ t, Steps p.tables e below (T95.setTop (mkF m 176 #[.val (.int p0), .val (.int p1), .val (.int p2), .val (.int p3), .val (.int p4), .val (.int p5), .val (.int (f1 p0)), .val (.int (f1 p1)), .val (.int (f1 p2)), .val (.int (f1 p3)), .val (.int (f1 p4)), .val (.ref b6), .val (.int (1 : Int32)), .val (.int (1 : Int32)), .val (.int (1 : Int32))] [(.int (1 : Int32))])) t → Steps p.tables e below (s₁.setTop (entryFrame m #[(.int p0), (.int p1), (.int p2), (.int p3), (.int p4), (.int p5)] maxLocals)) t := fun t kt => pre98 t (by
              show Steps p.tables e below (T95.setTop (mkF m 171 #[.val (.int p0), .val (.int p1), .val (.int p2), .val (.int p3), .val (.int p4), .val (.int p5), .val (.int (f1 p0)), .val (.int (f1 p1)), .val (.int (f1 p2)), .val (.int (f1 p3)), .val (.int (f1 p4)), .val (.ref b6), .val (.int (1 : Int32)), .val (.int (1 : Int32)), .val (.int (1 : Int32))] [(.int (1 : Int32))])) _
              refine XS.ifNo X95.here hx rfl (hb hby at_171) rfl ((if0 _ _).trans (feq (by decide : ¬ ((1 : Int32) = (0 : Int32)))).1) ?_
              show Steps p.tables e below (T95.setTop (mkF m 174 #[.val (.int p0), .val (.int p1), .val (.int p2), .val (.int p3), .val (.int p4), .val (.int p5), .val (.int (f1 p0)), .val (.int (f1 p1)), .val (.int (f1 p2)), .val (.int (f1 p3)), .val (.int (f1 p4)), .val (.ref b6), .val (.int (1 : Int32)), .val (.int (1 : Int32)), .val (.int (1 : Int32))] [])) _
              refine XS.iload X95.here hx rfl (hb hby at_174) rfl ?_
              exact kt)
          have pre100 : ∀ t, Steps p.tables e below (T95.setTop (mkF m 181 #[.val (.int p0), .val (.int p1), .val (.int p2), .val (.int p3), .val (.int p4), .val (.int p5), .val (.int (f1 p0)), .val (.int (f1 p1)), .val (.int (f1 p2)), .val (.int (f1 p3)), .val (.int (f1 p4)), .val (.ref b6), .val (.int (1 : Int32)), .val (.int (1 : Int32)), .val (.int (1 : Int32))] [(.int (1 : Int32))])) t → Steps p.tables e below (s₁.setTop (entryFrame m #[(.int p0), (.int p1), (.int p2), (.int p3), (.int p4), (.int p5)] maxLocals)) t := fun t kt => pre99 t (by
              show Steps p.tables e below (T95.setTop (mkF m 176 #[.val (.int p0), .val (.int p1), .val (.int p2), .val (.int p3), .val (.int p4), .val (.int p5), .val (.int (f1 p0)), .val (.int (f1 p1)), .val (.int (f1 p2)), .val (.int (f1 p3)), .val (.int (f1 p4)), .val (.ref b6), .val (.int (1 : Int32)), .val (.int (1 : Int32)), .val (.int (1 : Int32))] [(.int (1 : Int32))])) _
              refine XS.ifNo X95.here hx rfl (hb hby at_176) rfl ((if0 _ _).trans (feq (by decide : ¬ ((1 : Int32) = (0 : Int32)))).1) ?_
              show Steps p.tables e below (T95.setTop (mkF m 179 #[.val (.int p0), .val (.int p1), .val (.int p2), .val (.int p3), .val (.int p4), .val (.int p5), .val (.int (f1 p0)), .val (.int (f1 p1)), .val (.int (f1 p2)), .val (.int (f1 p3)), .val (.int (f1 p4)), .val (.ref b6), .val (.int (1 : Int32)), .val (.int (1 : Int32)), .val (.int (1 : Int32))] [])) _
              refine XS.iload X95.here hx rfl (hb hby at_179) rfl ?_
              exact kt)
          obtain ⟨fs, hr, hrun, hended, hW, hsame⟩ := X95.leave (v := some (.int (1 : Int32))) (fun h => by rw [Bd.returns] at h; cases h)
          have hv243 : (1 : Int32) = (1 : Int32) := rfl
          refine ⟨_, _, pre100 _ ?_, hrun, hended, _, _, rfl, ?_, ⟨_, rfl⟩, hW, hsame.mono (by decide) (by decide)⟩
          · show Steps p.tables e below (T95.setTop (mkF m 181 #[.val (.int p0), .val (.int p1), .val (.int p2), .val (.int p3), .val (.int p4), .val (.int p5), .val (.int (f1 p0)), .val (.int (f1 p1)), .val (.int (f1 p2)), .val (.int (f1 p3)), .val (.int (f1 p4)), .val (.ref b6), .val (.int (1 : Int32)), .val (.int (1 : Int32)), .val (.int (1 : Int32))] [(.int (1 : Int32))])) _
            refine XS.ifNo X95.here hx rfl (hb hby at_181) rfl ((if0 _ _).trans (feq (by decide : ¬ ((1 : Int32) = (0 : Int32)))).1) ?_
            show Steps p.tables e below (T95.setTop (mkF m 184 #[.val (.int p0), .val (.int p1), .val (.int p2), .val (.int p3), .val (.int p4), .val (.int p5), .val (.int (f1 p0)), .val (.int (f1 p1)), .val (.int (f1 p2)), .val (.int (f1 p3)), .val (.int (f1 p4)), .val (.ref b6), .val (.int (1 : Int32)), .val (.int (1 : Int32)), .val (.int (1 : Int32))] [])) _
            refine XS.iconst X95.here hx rfl (hb hby at_184) ?_
            show Steps p.tables e below (T95.setTop (mkF m 185 #[.val (.int p0), .val (.int p1), .val (.int p2), .val (.int p3), .val (.int p4), .val (.int p5), .val (.int (f1 p0)), .val (.int (f1 p1)), .val (.int (f1 p2)), .val (.int (f1 p3)), .val (.int (f1 p4)), .val (.ref b6), .val (.int (1 : Int32)), .val (.int (1 : Int32)), .val (.int (1 : Int32))] [(.int (1 : Int32))])) _
            refine XS.goto X95.here hx rfl (pc0 := 185) (pc' := 189) rfl (hb hby at_185) (by decide) (by decide) ?_
            show Steps p.tables e below (T95.setTop (mkF m 189 #[.val (.int p0), .val (.int p1), .val (.int p2), .val (.int p3), .val (.int p4), .val (.int p5), .val (.int (f1 p0)), .val (.int (f1 p1)), .val (.int (f1 p2)), .val (.int (f1 p3)), .val (.int (f1 p4)), .val (.ref b6), .val (.int (1 : Int32)), .val (.int (1 : Int32)), .val (.int (1 : Int32))] [(.int (1 : Int32))])) _
            exact retN X95 hx (t := .boolean) Bd.returns (by simp) (hb hby at_189) hr
          · show Q0 Z p0 p1 p2 p3 p4 p5 h0 n0 _ T95.heap _
            rw [e95q]
            exact ⟨congrArg (fun q => some (Value.int q)) hv243, N95⟩
        · have pre101 : ∀ t, Steps p.tables e below (T90.setTop (mkF m 143 #[.val (.int p0), .val (.int p1), .val (.int p2), .val (.int p3), .val (.int p4), .val (.int p5), .val (.int (f1 p0)), .val (.int (f1 p1)), .val (.int (f1 p2)), .val (.int (f1 p3)), .val (.int (f1 p4)), .val (.ref b6), .val (.int (1 : Int32)), .unset, .unset] [(.int (0 : Int32)), (.int (nar .boolean ((f6_r1_a (f6_r1_a (own_upd (own_upd (own_upd (own_upd (fun _ => 0) 0 (1 : Int32)) ((f1 p0)).toNatClampNeg (1 : Int32)) ((f1 p1)).toNatClampNeg (1 : Int32)) ((f1 p2)).toNatClampNeg (1 : Int32)))) ((f1 p4)).toNatClampNeg)))])) t → Steps p.tables e below (s₁.setTop (entryFrame m #[(.int p0), (.int p1), (.int p2), (.int p3), (.int p4), (.int p5)] maxLocals)) t := fun t kt => pre91 t (by
              show Steps p.tables e below (T90.setTop (mkF m 135 #[.val (.int p0), .val (.int p1), .val (.int p2), .val (.int p3), .val (.int p4), .val (.int p5), .val (.int (f1 p0)), .val (.int (f1 p1)), .val (.int (f1 p2)), .val (.int (f1 p3)), .val (.int (f1 p4)), .val (.ref b6), .val (.int (1 : Int32)), .unset, .unset] [(.int (f1 p4)), (.int (nar .boolean ((f6_r1_a (f6_r1_a (own_upd (own_upd (own_upd (own_upd (fun _ => 0) 0 (1 : Int32)) ((f1 p0)).toNatClampNeg (1 : Int32)) ((f1 p1)).toNatClampNeg (1 : Int32)) ((f1 p2)).toNatClampNeg (1 : Int32)))) ((f1 p4)).toNatClampNeg)))])) _
              refine XS.ifYes X90.here hx rfl (pc0 := 135) (pc' := 142) rfl (hb hby at_135) rfl ((if0 _ _).trans (feq hc135_92).2) (by decide) (by decide) ?_
              show Steps p.tables e below (T90.setTop (mkF m 142 #[.val (.int p0), .val (.int p1), .val (.int p2), .val (.int p3), .val (.int p4), .val (.int p5), .val (.int (f1 p0)), .val (.int (f1 p1)), .val (.int (f1 p2)), .val (.int (f1 p3)), .val (.int (f1 p4)), .val (.ref b6), .val (.int (1 : Int32)), .unset, .unset] [(.int (nar .boolean ((f6_r1_a (f6_r1_a (own_upd (own_upd (own_upd (own_upd (fun _ => 0) 0 (1 : Int32)) ((f1 p0)).toNatClampNeg (1 : Int32)) ((f1 p1)).toNatClampNeg (1 : Int32)) ((f1 p2)).toNatClampNeg (1 : Int32)))) ((f1 p4)).toNatClampNeg)))])) _
              refine XS.iconst X90.here hx rfl (hb hby at_142) ?_
              exact kt)
          have hd143_102 : (nar .boolean ((f6_r1_a (f6_r1_a (own_upd (own_upd (own_upd (own_upd (fun _ => 0) 0 (1 : Int32)) ((f1 p0)).toNatClampNeg (1 : Int32)) ((f1 p1)).toNatClampNeg (1 : Int32)) ((f1 p2)).toNatClampNeg (1 : Int32)))) ((f1 p4)).toNatClampNeg)) = (0 : Int32) := own_is1 _ (own_ch _) hc135_92
          obtain ⟨cq103, kq103, q103a, q103b, q103c⟩ := isOf hZ e90q (c81.keep K78q)
          obtain ⟨_, _, ⟨T103, L103, k103, n103⟩, -, X103, ⟨Lc103, hQ103, l103, y103, z103⟩, st103⟩ := X90.virtualBack hx (y := (⟨"com/example/cardhost/cardhost/LogicalChannels", "lowestClosed", "()I"⟩ : MethodName)) (z := (⟨"com/example/cardhost/cardhost/LogicalChannels", "lowestClosed", "()I"⟩ : MethodName)) hown (mvT hZ (hw _ (List.mem_of_getElem? (i := 43) rfl))) (mvT hZ (hw _ (List.mem_of_getElem? (i := 44) rfl))) (notFace_of_selects (args := #[]) (mvT hZ (hw _ (List.mem_of_getElem? (i := 46) rfl)))) (mvT hZ (hw _ (List.mem_of_getElem? (i := 46) rfl))) (mvT hZ (hw _ (List.mem_of_getElem? (i := 45) rfl))) (by decide) (backOf (W := 0) (rm8 l Z a0 hw [] b6 r_o0_open_9 (f6_r1_a (f6_r1_a (own_upd (own_upd (own_upd (own_upd (fun _ => 0) 0 (1 : Int32)) ((f1 p0)).toNatClampNeg (1 : Int32)) ((f1 p1)).toNatClampNeg (1 : Int32)) ((f1 p2)).toNatClampNeg (1 : Int32)))) T78.heap n0 Z83 c85 G78_0 g_r_o0_open_9) hZ (hw _ (List.mem_of_getElem? (i := 47) rfl)) (hw _ (List.mem_of_getElem? (i := 7) rfl)) (by decide) (by decide)) q103a q103c (g := (mkF m 155 #[.val (.int p0), .val (.int p1), .val (.int p2), .val (.int p3), .val (.int p4), .val (.int p5), .val (.int (f1 p0)), .val (.int (f1 p1)), .val (.int (f1 p2)), .val (.int (f1 p3)), .val (.int (f1 p4)), .val (.ref b6), .val (.int (1 : Int32)), .val (.int (1 : Int32)), .unset] [(.ref b6)])) rfl (by rw [hml]; rfl) (Steps.refl _) (argsL := []) (rest := []) (lenOf pd_0_4 rfl) rfl (by show 2 * 0 + _ ≤ _; exact Nat.le_of_eq rfl) (hb hby at_155) (fun _ _ => ⟨rfl, e90q, (by decide : 4 + 0 ≤ _), (by decide : 63 + 0 ≤ _)⟩)
          dsimp only [Pt.U, Pt.locs, Pt.cells, Pt.slots] at X103 l103 y103 z103 st103 hQ103
          subst l103 y103 z103
          obtain ⟨rfl, N103q, e103q⟩ := hQ103
          have N103 := Fr.app N90 N103q
          have pre104 : ∀ t, Steps p.tables e below (T103.setTop (mkF m 159 #[.val (.int p0), .val (.int p1), .val (.int p2), .val (.int p3), .val (.int p4), .val (.int p5), .val (.int (f1 p0)), .val (.int (f1 p1)), .val (.int (f1 p2)), .val (.int (f1 p3)), .val (.int (f1 p4)), .val (.ref b6), .val (.int (1 : Int32)), .val (.int (1 : Int32)), .unset] [(.int (1 : Int32)), (.int (f8 (f6_r1_a (f6_r1_a (own_upd (own_upd (own_upd (own_upd (fun _ => 0) 0 (1 : Int32)) ((f1 p0)).toNatClampNeg (1 : Int32)) ((f1 p1)).toNatClampNeg (1 : Int32)) ((f1 p2)).toNatClampNeg (1 : Int32))))))])) t → Steps p.tables e below (s₁.setTop (entryFrame m #[(.int p0), (.int p1), (.int p2), (.int p3), (.int p4), (.int p5)] maxLocals)) t := fun t kt => pre101 t (by
              show Steps p.tables e below (T90.setTop (mkF m 143 #[.val (.int p0), .val (.int p1), .val (.int p2), .val (.int p3), .val (.int p4), .val (.int p5), .val (.int (f1 p0)), .val (.int (f1 p1)), .val (.int (f1 p2)), .val (.int (f1 p3)), .val (.int (f1 p4)), .val (.ref b6), .val (.int (1 : Int32)), .unset, .unset] [(.int (0 : Int32)), (.int (nar .boolean ((f6_r1_a (f6_r1_a (own_upd (own_upd (own_upd (own_upd (fun _ => 0) 0 (1 : Int32)) ((f1 p0)).toNatClampNeg (1 : Int32)) ((f1 p1)).toNatClampNeg (1 : Int32)) ((f1 p2)).toNatClampNeg (1 : Int32)))) ((f1 p4)).toNatClampNeg)))])) _
              refine XS.icmpNo X90.here hx rfl (hb hby at_143) rfl (teq hd143_102).2 ?_
              show Steps p.tables e below (T90.setTop (mkF m 146 #[.val (.int p0), .val (.int p1), .val (.int p2), .val (.int p3), .val (.int p4), .val (.int p5), .val (.int (f1 p0)), .val (.int (f1 p1)), .val (.int (f1 p2)), .val (.int (f1 p3)), .val (.int (f1 p4)), .val (.ref b6), .val (.int (1 : Int32)), .unset, .unset] [])) _
              refine XS.iconst X90.here hx rfl (hb hby at_146) ?_
              show Steps p.tables e below (T90.setTop (mkF m 147 #[.val (.int p0), .val (.int p1), .val (.int p2), .val (.int p3), .val (.int p4), .val (.int p5), .val (.int (f1 p0)), .val (.int (f1 p1)), .val (.int (f1 p2)), .val (.int (f1 p3)), .val (.int (f1 p4)), .val (.ref b6), .val (.int (1 : Int32)), .unset, .unset] [(.int (1 : Int32))])) _
              refine XS.goto X90.here hx rfl (pc0 := 147) (pc' := 151) rfl (hb hby at_147) (by decide) (by decide) ?_
              show Steps p.tables e below (T90.setTop (mkF m 151 #[.val (.int p0), .val (.int p1), .val (.int p2), .val (.int p3), .val (.int p4), .val (.int p5), .val (.int (f1 p0)), .val (.int (f1 p1)), .val (.int (f1 p2)), .val (.int (f1 p3)), .val (.int (f1 p4)), .val (.ref b6), .val (.int (1 : Int32)), .unset, .unset] [(.int (1 : Int32))])) _
              refine XS.istore X90.here hx rfl (hb hby at_151) rfl (l' := #[.val (.int p0), .val (.int p1), .val (.int p2), .val (.int p3), .val (.int p4), .val (.int p5), .val (.int (f1 p0)), .val (.int (f1 p1)), .val (.int (f1 p2)), .val (.int (f1 p3)), .val (.int (f1 p4)), .val (.ref b6), .val (.int (1 : Int32)), .val (.int (1 : Int32)), .unset]) rfl ?_
              show Steps p.tables e below (T90.setTop (mkF m 153 #[.val (.int p0), .val (.int p1), .val (.int p2), .val (.int p3), .val (.int p4), .val (.int p5), .val (.int (f1 p0)), .val (.int (f1 p1)), .val (.int (f1 p2)), .val (.int (f1 p3)), .val (.int (f1 p4)), .val (.ref b6), .val (.int (1 : Int32)), .val (.int (1 : Int32)), .unset] [])) _
              refine XS.aload X90.here hx rfl (hb hby at_153) rfl rfl ?_
              show Steps p.tables e below (T90.setTop (mkF m 155 #[.val (.int p0), .val (.int p1), .val (.int p2), .val (.int p3), .val (.int p4), .val (.int p5), .val (.int (f1 p0)), .val (.int (f1 p1)), .val (.int (f1 p2)), .val (.int (f1 p3)), .val (.int (f1 p4)), .val (.ref b6), .val (.int (1 : Int32)), .val (.int (1 : Int32)), .unset] [(.ref b6)])) _
              refine st103.trans ?_
              show Steps p.tables e below (T103.setTop (mkF m 158 #[.val (.int p0), .val (.int p1), .val (.int p2), .val (.int p3), .val (.int p4), .val (.int p5), .val (.int (f1 p0)), .val (.int (f1 p1)), .val (.int (f1 p2)), .val (.int (f1 p3)), .val (.int (f1 p4)), .val (.ref b6), .val (.int (1 : Int32)), .val (.int (1 : Int32)), .unset] [(.int (f8 (f6_r1_a (f6_r1_a (own_upd (own_upd (own_upd (own_upd (fun _ => 0) 0 (1 : Int32)) ((f1 p0)).toNatClampNeg (1 : Int32)) ((f1 p1)).toNatClampNeg (1 : Int32)) ((f1 p2)).toNatClampNeg (1 : Int32))))))])) _
              refine XS.iconst X103.here hx rfl (hb hby at_158) ?_
              exact kt)
          have hd159_105 : (f8 (f6_r1_a (f6_r1_a (own_upd (own_upd (own_upd (own_upd (fun _ => 0) 0 (1 : Int32)) ((f1 p0)).toNatClampNeg (1 : Int32)) ((f1 p1)).toNatClampNeg (1 : Int32)) ((f1 p2)).toNatClampNeg (1 : Int32))))) = (1 : Int32) := own_lc _
          have pre106 : ∀ t, Steps p.tables e below (T103.setTop (mkF m 171 #[.val (.int p0), .val (.int p1), .val (.int p2), .val (.int p3), .val (.int p4), .val (.int p5), .val (.int (f1 p0)), .val (.int (f1 p1)), .val (.int (f1 p2)), .val (.int (f1 p3)), .val (.int (f1 p4)), .val (.ref b6), .val (.int (1 : Int32)), .val (.int (1 : Int32)), .val (.int (1 : Int32))] [(.int (1 : Int32))])) t → Steps p.tables e below (s₁.setTop (entryFrame m #[(.int p0), (.int p1), (.int p2), (.int p3), (.int p4), (.int p5)] maxLocals)) t := fun t kt => pre104 t (by
              show Steps p.tables e below (T103.setTop (mkF m 159 #[.val (.int p0), .val (.int p1), .val (.int p2), .val (.int p3), .val (.int p4), .val (.int p5), .val (.int (f1 p0)), .val (.int (f1 p1)), .val (.int (f1 p2)), .val (.int (f1 p3)), .val (.int (f1 p4)), .val (.ref b6), .val (.int (1 : Int32)), .val (.int (1 : Int32)), .unset] [(.int (1 : Int32)), (.int (f8 (f6_r1_a (f6_r1_a (own_upd (own_upd (own_upd (own_upd (fun _ => 0) 0 (1 : Int32)) ((f1 p0)).toNatClampNeg (1 : Int32)) ((f1 p1)).toNatClampNeg (1 : Int32)) ((f1 p2)).toNatClampNeg (1 : Int32))))))])) _
              refine XS.icmpNo X103.here hx rfl (hb hby at_159) rfl (teq hd159_105).2 ?_
              show Steps p.tables e below (T103.setTop (mkF m 162 #[.val (.int p0), .val (.int p1), .val (.int p2), .val (.int p3), .val (.int p4), .val (.int p5), .val (.int (f1 p0)), .val (.int (f1 p1)), .val (.int (f1 p2)), .val (.int (f1 p3)), .val (.int (f1 p4)), .val (.ref b6), .val (.int (1 : Int32)), .val (.int (1 : Int32)), .unset] [])) _
              refine XS.iconst X103.here hx rfl (hb hby at_162) ?_
              show Steps p.tables e below (T103.setTop (mkF m 163 #[.val (.int p0), .val (.int p1), .val (.int p2), .val (.int p3), .val (.int p4), .val (.int p5), .val (.int (f1 p0)), .val (.int (f1 p1)), .val (.int (f1 p2)), .val (.int (f1 p3)), .val (.int (f1 p4)), .val (.ref b6), .val (.int (1 : Int32)), .val (.int (1 : Int32)), .unset] [(.int (1 : Int32))])) _
              refine XS.goto X103.here hx rfl (pc0 := 163) (pc' := 167) rfl (hb hby at_163) (by decide) (by decide) ?_
              show Steps p.tables e below (T103.setTop (mkF m 167 #[.val (.int p0), .val (.int p1), .val (.int p2), .val (.int p3), .val (.int p4), .val (.int p5), .val (.int (f1 p0)), .val (.int (f1 p1)), .val (.int (f1 p2)), .val (.int (f1 p3)), .val (.int (f1 p4)), .val (.ref b6), .val (.int (1 : Int32)), .val (.int (1 : Int32)), .unset] [(.int (1 : Int32))])) _
              refine XS.istore X103.here hx rfl (hb hby at_167) rfl (l' := #[.val (.int p0), .val (.int p1), .val (.int p2), .val (.int p3), .val (.int p4), .val (.int p5), .val (.int (f1 p0)), .val (.int (f1 p1)), .val (.int (f1 p2)), .val (.int (f1 p3)), .val (.int (f1 p4)), .val (.ref b6), .val (.int (1 : Int32)), .val (.int (1 : Int32)), .val (.int (1 : Int32))]) rfl ?_
              show Steps p.tables e below (T103.setTop (mkF m 169 #[.val (.int p0), .val (.int p1), .val (.int p2), .val (.int p3), .val (.int p4), .val (.int p5), .val (.int (f1 p0)), .val (.int (f1 p1)), .val (.int (f1 p2)), .val (.int (f1 p3)), .val (.int (f1 p4)), .val (.ref b6), .val (.int (1 : Int32)), .val (.int (1 : Int32)), .val (.int (1 : Int32))] [])) _
              refine XS.iload X103.here hx rfl (hb hby at_169) rfl ?_
              exact kt)
          have pre107 : ∀ t, Steps p.tables e below (T103.setTop (mkF m 176 #[.val (.int p0), .val (.int p1), .val (.int p2), .val (.int p3), .val (.int p4), .val (.int p5), .val (.int (f1 p0)), .val (.int (f1 p1)), .val (.int (f1 p2)), .val (.int (f1 p3)), .val (.int (f1 p4)), .val (.ref b6), .val (.int (1 : Int32)), .val (.int (1 : Int32)), .val (.int (1 : Int32))] [(.int (1 : Int32))])) t → Steps p.tables e below (s₁.setTop (entryFrame m #[(.int p0), (.int p1), (.int p2), (.int p3), (.int p4), (.int p5)] maxLocals)) t := fun t kt => pre106 t (by
              show Steps p.tables e below (T103.setTop (mkF m 171 #[.val (.int p0), .val (.int p1), .val (.int p2), .val (.int p3), .val (.int p4), .val (.int p5), .val (.int (f1 p0)), .val (.int (f1 p1)), .val (.int (f1 p2)), .val (.int (f1 p3)), .val (.int (f1 p4)), .val (.ref b6), .val (.int (1 : Int32)), .val (.int (1 : Int32)), .val (.int (1 : Int32))] [(.int (1 : Int32))])) _
              refine XS.ifNo X103.here hx rfl (hb hby at_171) rfl ((if0 _ _).trans (feq (by decide : ¬ ((1 : Int32) = (0 : Int32)))).1) ?_
              show Steps p.tables e below (T103.setTop (mkF m 174 #[.val (.int p0), .val (.int p1), .val (.int p2), .val (.int p3), .val (.int p4), .val (.int p5), .val (.int (f1 p0)), .val (.int (f1 p1)), .val (.int (f1 p2)), .val (.int (f1 p3)), .val (.int (f1 p4)), .val (.ref b6), .val (.int (1 : Int32)), .val (.int (1 : Int32)), .val (.int (1 : Int32))] [])) _
              refine XS.iload X103.here hx rfl (hb hby at_174) rfl ?_
              exact kt)
          have pre108 : ∀ t, Steps p.tables e below (T103.setTop (mkF m 181 #[.val (.int p0), .val (.int p1), .val (.int p2), .val (.int p3), .val (.int p4), .val (.int p5), .val (.int (f1 p0)), .val (.int (f1 p1)), .val (.int (f1 p2)), .val (.int (f1 p3)), .val (.int (f1 p4)), .val (.ref b6), .val (.int (1 : Int32)), .val (.int (1 : Int32)), .val (.int (1 : Int32))] [(.int (1 : Int32))])) t → Steps p.tables e below (s₁.setTop (entryFrame m #[(.int p0), (.int p1), (.int p2), (.int p3), (.int p4), (.int p5)] maxLocals)) t := fun t kt => pre107 t (by
              show Steps p.tables e below (T103.setTop (mkF m 176 #[.val (.int p0), .val (.int p1), .val (.int p2), .val (.int p3), .val (.int p4), .val (.int p5), .val (.int (f1 p0)), .val (.int (f1 p1)), .val (.int (f1 p2)), .val (.int (f1 p3)), .val (.int (f1 p4)), .val (.ref b6), .val (.int (1 : Int32)), .val (.int (1 : Int32)), .val (.int (1 : Int32))] [(.int (1 : Int32))])) _
              refine XS.ifNo X103.here hx rfl (hb hby at_176) rfl ((if0 _ _).trans (feq (by decide : ¬ ((1 : Int32) = (0 : Int32)))).1) ?_
              show Steps p.tables e below (T103.setTop (mkF m 179 #[.val (.int p0), .val (.int p1), .val (.int p2), .val (.int p3), .val (.int p4), .val (.int p5), .val (.int (f1 p0)), .val (.int (f1 p1)), .val (.int (f1 p2)), .val (.int (f1 p3)), .val (.int (f1 p4)), .val (.ref b6), .val (.int (1 : Int32)), .val (.int (1 : Int32)), .val (.int (1 : Int32))] [])) _
              refine XS.iload X103.here hx rfl (hb hby at_179) rfl ?_
              exact kt)
          obtain ⟨fs, hr, hrun, hended, hW, hsame⟩ := X103.leave (v := some (.int (1 : Int32))) (fun h => by rw [Bd.returns] at h; cases h)
          have hv244 : (1 : Int32) = (1 : Int32) := rfl
          refine ⟨_, _, pre108 _ ?_, hrun, hended, _, _, rfl, ?_, ⟨_, rfl⟩, hW, hsame.mono (by decide) (by decide)⟩
          · show Steps p.tables e below (T103.setTop (mkF m 181 #[.val (.int p0), .val (.int p1), .val (.int p2), .val (.int p3), .val (.int p4), .val (.int p5), .val (.int (f1 p0)), .val (.int (f1 p1)), .val (.int (f1 p2)), .val (.int (f1 p3)), .val (.int (f1 p4)), .val (.ref b6), .val (.int (1 : Int32)), .val (.int (1 : Int32)), .val (.int (1 : Int32))] [(.int (1 : Int32))])) _
            refine XS.ifNo X103.here hx rfl (hb hby at_181) rfl ((if0 _ _).trans (feq (by decide : ¬ ((1 : Int32) = (0 : Int32)))).1) ?_
            show Steps p.tables e below (T103.setTop (mkF m 184 #[.val (.int p0), .val (.int p1), .val (.int p2), .val (.int p3), .val (.int p4), .val (.int p5), .val (.int (f1 p0)), .val (.int (f1 p1)), .val (.int (f1 p2)), .val (.int (f1 p3)), .val (.int (f1 p4)), .val (.ref b6), .val (.int (1 : Int32)), .val (.int (1 : Int32)), .val (.int (1 : Int32))] [])) _
            refine XS.iconst X103.here hx rfl (hb hby at_184) ?_
            show Steps p.tables e below (T103.setTop (mkF m 185 #[.val (.int p0), .val (.int p1), .val (.int p2), .val (.int p3), .val (.int p4), .val (.int p5), .val (.int (f1 p0)), .val (.int (f1 p1)), .val (.int (f1 p2)), .val (.int (f1 p3)), .val (.int (f1 p4)), .val (.ref b6), .val (.int (1 : Int32)), .val (.int (1 : Int32)), .val (.int (1 : Int32))] [(.int (1 : Int32))])) _
            refine XS.goto X103.here hx rfl (pc0 := 185) (pc' := 189) rfl (hb hby at_185) (by decide) (by decide) ?_
            show Steps p.tables e below (T103.setTop (mkF m 189 #[.val (.int p0), .val (.int p1), .val (.int p2), .val (.int p3), .val (.int p4), .val (.int p5), .val (.int (f1 p0)), .val (.int (f1 p1)), .val (.int (f1 p2)), .val (.int (f1 p3)), .val (.int (f1 p4)), .val (.ref b6), .val (.int (1 : Int32)), .val (.int (1 : Int32)), .val (.int (1 : Int32))] [(.int (1 : Int32))])) _
            exact retN X103 hx (t := .boolean) Bd.returns (by simp) (hb hby at_189) hr
          · show Q0 Z p0 p1 p2 p3 p4 p5 h0 n0 _ T103.heap _
            rw [e103q]
            exact ⟨congrArg (fun q => some (Value.int q)) hv244, N103⟩
      · have pre109 : ∀ t, Steps p.tables e below (T84.setTop (mkF m 116 #[.val (.int p0), .val (.int p1), .val (.int p2), .val (.int p3), .val (.int p4), .val (.int p5), .val (.int (f1 p0)), .val (.int (f1 p1)), .val (.int (f1 p2)), .val (.int (f1 p3)), .val (.int (f1 p4)), .val (.ref b6), .unset, .unset, .unset] [(.int (0 : Int32)), (.int (nar .boolean ((f6_r1_a (f6_r1_a (own_upd (own_upd (own_upd (own_upd (fun _ => 0) 0 (1 : Int32)) ((f1 p0)).toNatClampNeg (1 : Int32)) ((f1 p1)).toNatClampNeg (1 : Int32)) ((f1 p2)).toNatClampNeg (1 : Int32)))) ((f1 p3)).toNatClampNeg)))])) t → Steps p.tables e below (s₁.setTop (entryFrame m #[(.int p0), (.int p1), (.int p2), (.int p3), (.int p4), (.int p5)] maxLocals)) t := fun t kt => pre86 t (by
            show Steps p.tables e below (T84.setTop (mkF m 108 #[.val (.int p0), .val (.int p1), .val (.int p2), .val (.int p3), .val (.int p4), .val (.int p5), .val (.int (f1 p0)), .val (.int (f1 p1)), .val (.int (f1 p2)), .val (.int (f1 p3)), .val (.int (f1 p4)), .val (.ref b6), .unset, .unset, .unset] [(.int (f1 p3)), (.int (nar .boolean ((f6_r1_a (f6_r1_a (own_upd (own_upd (own_upd (own_upd (fun _ => 0) 0 (1 : Int32)) ((f1 p0)).toNatClampNeg (1 : Int32)) ((f1 p1)).toNatClampNeg (1 : Int32)) ((f1 p2)).toNatClampNeg (1 : Int32)))) ((f1 p3)).toNatClampNeg)))])) _
            refine XS.ifYes X84.here hx rfl (pc0 := 108) (pc' := 115) rfl (hb hby at_108) rfl ((if0 _ _).trans (feq hc108_87).2) (by decide) (by decide) ?_
            show Steps p.tables e below (T84.setTop (mkF m 115 #[.val (.int p0), .val (.int p1), .val (.int p2), .val (.int p3), .val (.int p4), .val (.int p5), .val (.int (f1 p0)), .val (.int (f1 p1)), .val (.int (f1 p2)), .val (.int (f1 p3)), .val (.int (f1 p4)), .val (.ref b6), .unset, .unset, .unset] [(.int (nar .boolean ((f6_r1_a (f6_r1_a (own_upd (own_upd (own_upd (own_upd (fun _ => 0) 0 (1 : Int32)) ((f1 p0)).toNatClampNeg (1 : Int32)) ((f1 p1)).toNatClampNeg (1 : Int32)) ((f1 p2)).toNatClampNeg (1 : Int32)))) ((f1 p3)).toNatClampNeg)))])) _
            refine XS.iconst X84.here hx rfl (hb hby at_115) ?_
            exact kt)
        have hd116_110 : (nar .boolean ((f6_r1_a (f6_r1_a (own_upd (own_upd (own_upd (own_upd (fun _ => 0) 0 (1 : Int32)) ((f1 p0)).toNatClampNeg (1 : Int32)) ((f1 p1)).toNatClampNeg (1 : Int32)) ((f1 p2)).toNatClampNeg (1 : Int32)))) ((f1 p3)).toNatClampNeg)) = (0 : Int32) := own_is1 _ (own_ch _) hc108_87
        obtain ⟨cq111, kq111, q111a, q111b, q111c⟩ := isOf hZ e84q (c81.keep K78q)
        obtain ⟨_, _, ⟨T111, L111, k111, n111⟩, -, X111, ⟨Lc111, hQ111, l111, y111, z111⟩, st111⟩ := X84.virtualBack hx (y := (⟨"com/example/cardhost/cardhost/LogicalChannels", "isOpen", "(I)Z"⟩ : MethodName)) (z := (⟨"com/example/cardhost/cardhost/LogicalChannels", "isOpen", "(I)Z"⟩ : MethodName)) hown (mvT hZ (hw _ (List.mem_of_getElem? (i := 38) rfl))) (mvT hZ (hw _ (List.mem_of_getElem? (i := 39) rfl))) (notFace_of_selects (args := #[]) (mvT hZ (hw _ (List.mem_of_getElem? (i := 41) rfl)))) (mvT hZ (hw _ (List.mem_of_getElem? (i := 41) rfl))) (mvT hZ (hw _ (List.mem_of_getElem? (i := 40) rfl))) (by decide) (backOf (W := 0) (rm7 l Z a0 hw [] b6 (f1 p4) r_o0_open_9 (f6_r1_a (f6_r1_a (own_upd (own_upd (own_upd (own_upd (fun _ => 0) 0 (1 : Int32)) ((f1 p0)).toNatClampNeg (1 : Int32)) ((f1 p1)).toNatClampNeg (1 : Int32)) ((f1 p2)).toNatClampNeg (1 : Int32)))) T78.heap n0 Z83 c85 G78_0 g_r_o0_open_9 (own_ch _)) hZ (hw _ (List.mem_of_getElem? (i := 42) rfl)) (hw _ (List.mem_of_getElem? (i := 7) rfl)) (by decide) (by decide)) q111a q111c (g := (mkF m 130 #[.val (.int p0), .val (.int p1), .val (.int p2), .val (.int p3), .val (.int p4), .val (.int p5), .val (.int (f1 p0)), .val (.int (f1 p1)), .val (.int (f1 p2)), .val (.int (f1 p3)), .val (.int (f1 p4)), .val (.ref b6), .val (.int (1 : Int32)), .unset, .unset] [(.int (f1 p4)), (.ref b6)])) rfl (by rw [hml]; rfl) (Steps.refl _) (argsL := [(.int (f1 p4))]) (rest := []) (lenOf pd_0_3 rfl) rfl (by show 2 * 0 + _ ≤ _; exact Nat.le_of_eq rfl) (hb hby at_130) (fun _ _ => ⟨rfl, e84q, (by decide : 4 + 0 ≤ _), (by decide : 63 + 0 ≤ _)⟩)
        dsimp only [Pt.U, Pt.locs, Pt.cells, Pt.slots] at X111 l111 y111 z111 st111 hQ111
        subst l111 y111 z111
        obtain ⟨rfl, N111q, e111q⟩ := hQ111
        have N111 := Fr.app N84 N111q
        have pre112 : ∀ t, Steps p.tables e below (T111.setTop (mkF m 135 #[.val (.int p0), .val (.int p1), .val (.int p2), .val (.int p3), .val (.int p4), .val (.int p5), .val (.int (f1 p0)), .val (.int (f1 p1)), .val (.int (f1 p2)), .val (.int (f1 p3)), .val (.int (f1 p4)), .val (.ref b6), .val (.int (1 : Int32)), .unset, .unset] [(.int (f1 p4)), (.int (nar .boolean ((f6_r1_a (f6_r1_a (own_upd (own_upd (own_upd (own_upd (fun _ => 0) 0 (1 : Int32)) ((f1 p0)).toNatClampNeg (1 : Int32)) ((f1 p1)).toNatClampNeg (1 : Int32)) ((f1 p2)).toNatClampNeg (1 : Int32)))) ((f1 p4)).toNatClampNeg)))])) t → Steps p.tables e below (s₁.setTop (entryFrame m #[(.int p0), (.int p1), (.int p2), (.int p3), (.int p4), (.int p5)] maxLocals)) t := fun t kt => pre109 t (by
            show Steps p.tables e below (T84.setTop (mkF m 116 #[.val (.int p0), .val (.int p1), .val (.int p2), .val (.int p3), .val (.int p4), .val (.int p5), .val (.int (f1 p0)), .val (.int (f1 p1)), .val (.int (f1 p2)), .val (.int (f1 p3)), .val (.int (f1 p4)), .val (.ref b6), .unset, .unset, .unset] [(.int (0 : Int32)), (.int (nar .boolean ((f6_r1_a (f6_r1_a (own_upd (own_upd (own_upd (own_upd (fun _ => 0) 0 (1 : Int32)) ((f1 p0)).toNatClampNeg (1 : Int32)) ((f1 p1)).toNatClampNeg (1 : Int32)) ((f1 p2)).toNatClampNeg (1 : Int32)))) ((f1 p3)).toNatClampNeg)))])) _
            refine XS.icmpNo X84.here hx rfl (hb hby at_116) rfl (teq hd116_110).2 ?_
            show Steps p.tables e below (T84.setTop (mkF m 119 #[.val (.int p0), .val (.int p1), .val (.int p2), .val (.int p3), .val (.int p4), .val (.int p5), .val (.int (f1 p0)), .val (.int (f1 p1)), .val (.int (f1 p2)), .val (.int (f1 p3)), .val (.int (f1 p4)), .val (.ref b6), .unset, .unset, .unset] [])) _
            refine XS.iconst X84.here hx rfl (hb hby at_119) ?_
            show Steps p.tables e below (T84.setTop (mkF m 120 #[.val (.int p0), .val (.int p1), .val (.int p2), .val (.int p3), .val (.int p4), .val (.int p5), .val (.int (f1 p0)), .val (.int (f1 p1)), .val (.int (f1 p2)), .val (.int (f1 p3)), .val (.int (f1 p4)), .val (.ref b6), .unset, .unset, .unset] [(.int (1 : Int32))])) _
            refine XS.goto X84.here hx rfl (pc0 := 120) (pc' := 124) rfl (hb hby at_120) (by decide) (by decide) ?_
            show Steps p.tables e below (T84.setTop (mkF m 124 #[.val (.int p0), .val (.int p1), .val (.int p2), .val (.int p3), .val (.int p4), .val (.int p5), .val (.int (f1 p0)), .val (.int (f1 p1)), .val (.int (f1 p2)), .val (.int (f1 p3)), .val (.int (f1 p4)), .val (.ref b6), .unset, .unset, .unset] [(.int (1 : Int32))])) _
            refine XS.istore X84.here hx rfl (hb hby at_124) rfl (l' := #[.val (.int p0), .val (.int p1), .val (.int p2), .val (.int p3), .val (.int p4), .val (.int p5), .val (.int (f1 p0)), .val (.int (f1 p1)), .val (.int (f1 p2)), .val (.int (f1 p3)), .val (.int (f1 p4)), .val (.ref b6), .val (.int (1 : Int32)), .unset, .unset]) rfl ?_
            show Steps p.tables e below (T84.setTop (mkF m 126 #[.val (.int p0), .val (.int p1), .val (.int p2), .val (.int p3), .val (.int p4), .val (.int p5), .val (.int (f1 p0)), .val (.int (f1 p1)), .val (.int (f1 p2)), .val (.int (f1 p3)), .val (.int (f1 p4)), .val (.ref b6), .val (.int (1 : Int32)), .unset, .unset] [])) _
            refine XS.aload X84.here hx rfl (hb hby at_126) rfl rfl ?_
            show Steps p.tables e below (T84.setTop (mkF m 128 #[.val (.int p0), .val (.int p1), .val (.int p2), .val (.int p3), .val (.int p4), .val (.int p5), .val (.int (f1 p0)), .val (.int (f1 p1)), .val (.int (f1 p2)), .val (.int (f1 p3)), .val (.int (f1 p4)), .val (.ref b6), .val (.int (1 : Int32)), .unset, .unset] [(.ref b6)])) _
            refine XS.iload X84.here hx rfl (hb hby at_128) rfl ?_
            show Steps p.tables e below (T84.setTop (mkF m 130 #[.val (.int p0), .val (.int p1), .val (.int p2), .val (.int p3), .val (.int p4), .val (.int p5), .val (.int (f1 p0)), .val (.int (f1 p1)), .val (.int (f1 p2)), .val (.int (f1 p3)), .val (.int (f1 p4)), .val (.ref b6), .val (.int (1 : Int32)), .unset, .unset] [(.int (f1 p4)), (.ref b6)])) _
            refine st111.trans ?_
            show Steps p.tables e below (T111.setTop (mkF m 133 #[.val (.int p0), .val (.int p1), .val (.int p2), .val (.int p3), .val (.int p4), .val (.int p5), .val (.int (f1 p0)), .val (.int (f1 p1)), .val (.int (f1 p2)), .val (.int (f1 p3)), .val (.int (f1 p4)), .val (.ref b6), .val (.int (1 : Int32)), .unset, .unset] [(.int (nar .boolean ((f6_r1_a (f6_r1_a (own_upd (own_upd (own_upd (own_upd (fun _ => 0) 0 (1 : Int32)) ((f1 p0)).toNatClampNeg (1 : Int32)) ((f1 p1)).toNatClampNeg (1 : Int32)) ((f1 p2)).toNatClampNeg (1 : Int32)))) ((f1 p4)).toNatClampNeg)))])) _
            refine XS.iload X111.here hx rfl (hb hby at_133) rfl ?_
            exact kt)
        by_cases hc135_113 : (f1 p4) = (0 : Int32)
        · have pre114 : ∀ t, Steps p.tables e below (T111.setTop (mkF m 143 #[.val (.int p0), .val (.int p1), .val (.int p2), .val (.int p3), .val (.int p4), .val (.int p5), .val (.int (f1 p0)), .val (.int (f1 p1)), .val (.int (f1 p2)), .val (.int (f1 p3)), .val (.int (f1 p4)), .val (.ref b6), .val (.int (1 : Int32)), .unset, .unset] [(.int (1 : Int32)), (.int (nar .boolean ((f6_r1_a (f6_r1_a (own_upd (own_upd (own_upd (own_upd (fun _ => 0) 0 (1 : Int32)) ((f1 p0)).toNatClampNeg (1 : Int32)) ((f1 p1)).toNatClampNeg (1 : Int32)) ((f1 p2)).toNatClampNeg (1 : Int32)))) ((f1 p4)).toNatClampNeg)))])) t → Steps p.tables e below (s₁.setTop (entryFrame m #[(.int p0), (.int p1), (.int p2), (.int p3), (.int p4), (.int p5)] maxLocals)) t := fun t kt => pre112 t (by
              show Steps p.tables e below (T111.setTop (mkF m 135 #[.val (.int p0), .val (.int p1), .val (.int p2), .val (.int p3), .val (.int p4), .val (.int p5), .val (.int (f1 p0)), .val (.int (f1 p1)), .val (.int (f1 p2)), .val (.int (f1 p3)), .val (.int (f1 p4)), .val (.ref b6), .val (.int (1 : Int32)), .unset, .unset] [(.int (f1 p4)), (.int (nar .boolean ((f6_r1_a (f6_r1_a (own_upd (own_upd (own_upd (own_upd (fun _ => 0) 0 (1 : Int32)) ((f1 p0)).toNatClampNeg (1 : Int32)) ((f1 p1)).toNatClampNeg (1 : Int32)) ((f1 p2)).toNatClampNeg (1 : Int32)))) ((f1 p4)).toNatClampNeg)))])) _
              refine XS.ifNo X111.here hx rfl (hb hby at_135) rfl ((if0 _ _).trans (teq hc135_113).2) ?_
              show Steps p.tables e below (T111.setTop (mkF m 138 #[.val (.int p0), .val (.int p1), .val (.int p2), .val (.int p3), .val (.int p4), .val (.int p5), .val (.int (f1 p0)), .val (.int (f1 p1)), .val (.int (f1 p2)), .val (.int (f1 p3)), .val (.int (f1 p4)), .val (.ref b6), .val (.int (1 : Int32)), .unset, .unset] [(.int (nar .boolean ((f6_r1_a (f6_r1_a (own_upd (own_upd (own_upd (own_upd (fun _ => 0) 0 (1 : Int32)) ((f1 p0)).toNatClampNeg (1 : Int32)) ((f1 p1)).toNatClampNeg (1 : Int32)) ((f1 p2)).toNatClampNeg (1 : Int32)))) ((f1 p4)).toNatClampNeg)))])) _
              refine XS.iconst X111.here hx rfl (hb hby at_138) ?_
              show Steps p.tables e below (T111.setTop (mkF m 139 #[.val (.int p0), .val (.int p1), .val (.int p2), .val (.int p3), .val (.int p4), .val (.int p5), .val (.int (f1 p0)), .val (.int (f1 p1)), .val (.int (f1 p2)), .val (.int (f1 p3)), .val (.int (f1 p4)), .val (.ref b6), .val (.int (1 : Int32)), .unset, .unset] [(.int (1 : Int32)), (.int (nar .boolean ((f6_r1_a (f6_r1_a (own_upd (own_upd (own_upd (own_upd (fun _ => 0) 0 (1 : Int32)) ((f1 p0)).toNatClampNeg (1 : Int32)) ((f1 p1)).toNatClampNeg (1 : Int32)) ((f1 p2)).toNatClampNeg (1 : Int32)))) ((f1 p4)).toNatClampNeg)))])) _
              refine XS.goto X111.here hx rfl (pc0 := 139) (pc' := 143) rfl (hb hby at_139) (by decide) (by decide) ?_
              exact kt)
          have hd143_115 : (nar .boolean ((f6_r1_a (f6_r1_a (own_upd (own_upd (own_upd (own_upd (fun _ => 0) 0 (1 : Int32)) ((f1 p0)).toNatClampNeg (1 : Int32)) ((f1 p1)).toNatClampNeg (1 : Int32)) ((f1 p2)).toNatClampNeg (1 : Int32)))) ((f1 p4)).toNatClampNeg)) = (1 : Int32) := own_is0 _ (own_ch _) hc135_113
          obtain ⟨cq116, kq116, q116a, q116b, q116c⟩ := isOf hZ e111q (c81.keep K78q)
          obtain ⟨_, _, ⟨T116, L116, k116, n116⟩, -, X116, ⟨Lc116, hQ116, l116, y116, z116⟩, st116⟩ := X111.virtualBack hx (y := (⟨"com/example/cardhost/cardhost/LogicalChannels", "lowestClosed", "()I"⟩ : MethodName)) (z := (⟨"com/example/cardhost/cardhost/LogicalChannels", "lowestClosed", "()I"⟩ : MethodName)) hown (mvT hZ (hw _ (List.mem_of_getElem? (i := 43) rfl))) (mvT hZ (hw _ (List.mem_of_getElem? (i := 44) rfl))) (notFace_of_selects (args := #[]) (mvT hZ (hw _ (List.mem_of_getElem? (i := 46) rfl)))) (mvT hZ (hw _ (List.mem_of_getElem? (i := 46) rfl))) (mvT hZ (hw _ (List.mem_of_getElem? (i := 45) rfl))) (by decide) (backOf (W := 0) (rm8 l Z a0 hw [] b6 r_o0_open_9 (f6_r1_a (f6_r1_a (own_upd (own_upd (own_upd (own_upd (fun _ => 0) 0 (1 : Int32)) ((f1 p0)).toNatClampNeg (1 : Int32)) ((f1 p1)).toNatClampNeg (1 : Int32)) ((f1 p2)).toNatClampNeg (1 : Int32)))) T78.heap n0 Z83 c85 G78_0 g_r_o0_open_9) hZ (hw _ (List.mem_of_getElem? (i := 47) rfl)) (hw _ (List.mem_of_getElem? (i := 7) rfl)) (by decide) (by decide)) q116a q116c (g := (mkF m 155 #[.val (.int p0), .val (.int p1), .val (.int p2), .val (.int p3), .val (.int p4), .val (.int p5), .val (.int (f1 p0)), .val (.int (f1 p1)), .val (.int (f1 p2)), .val (.int (f1 p3)), .val (.int (f1 p4)), .val (.ref b6), .val (.int (1 : Int32)), .val (.int (1 : Int32)), .unset] [(.ref b6)])) rfl (by rw [hml]; rfl) (Steps.refl _) (argsL := []) (rest := []) (lenOf pd_0_4 rfl) rfl (by show 2 * 0 + _ ≤ _; exact Nat.le_of_eq rfl) (hb hby at_155) (fun _ _ => ⟨rfl, e111q, (by decide : 4 + 0 ≤ _), (by decide : 63 + 0 ≤ _)⟩)
          dsimp only [Pt.U, Pt.locs, Pt.cells, Pt.slots] at X116 l116 y116 z116 st116 hQ116
          subst l116 y116 z116
          obtain ⟨rfl, N116q, e116q⟩ := hQ116
          have N116 := Fr.app N111 N116q
          have pre117 : ∀ t, Steps p.tables e below (T116.setTop (mkF m 159 #[.val (.int p0), .val (.int p1), .val (.int p2), .val (.int p3), .val (.int p4), .val (.int p5), .val (.int (f1 p0)), .val (.int (f1 p1)), .val (.int (f1 p2)), .val (.int (f1 p3)), .val (.int (f1 p4)), .val (.ref b6), .val (.int (1 : Int32)), .val (.int (1 : Int32)), .unset] [(.int (1 : Int32)), (.int (f8 (f6_r1_a (f6_r1_a (own_upd (own_upd (own_upd (own_upd (fun _ => 0) 0 (1 : Int32)) ((f1 p0)).toNatClampNeg (1 : Int32)) ((f1 p1)).toNatClampNeg (1 : Int32)) ((f1 p2)).toNatClampNeg (1 : Int32))))))])) t → Steps p.tables e below (s₁.setTop (entryFrame m #[(.int p0), (.int p1), (.int p2), (.int p3), (.int p4), (.int p5)] maxLocals)) t := fun t kt => pre114 t (by
              show Steps p.tables e below (T111.setTop (mkF m 143 #[.val (.int p0), .val (.int p1), .val (.int p2), .val (.int p3), .val (.int p4), .val (.int p5), .val (.int (f1 p0)), .val (.int (f1 p1)), .val (.int (f1 p2)), .val (.int (f1 p3)), .val (.int (f1 p4)), .val (.ref b6), .val (.int (1 : Int32)), .unset, .unset] [(.int (1 : Int32)), (.int (nar .boolean ((f6_r1_a (f6_r1_a (own_upd (own_upd (own_upd (own_upd (fun _ => 0) 0 (1 : Int32)) ((f1 p0)).toNatClampNeg (1 : Int32)) ((f1 p1)).toNatClampNeg (1 : Int32)) ((f1 p2)).toNatClampNeg (1 : Int32)))) ((f1 p4)).toNatClampNeg)))])) _
              refine XS.icmpNo X111.here hx rfl (hb hby at_143) rfl (teq hd143_115).2 ?_
              show Steps p.tables e below (T111.setTop (mkF m 146 #[.val (.int p0), .val (.int p1), .val (.int p2), .val (.int p3), .val (.int p4), .val (.int p5), .val (.int (f1 p0)), .val (.int (f1 p1)), .val (.int (f1 p2)), .val (.int (f1 p3)), .val (.int (f1 p4)), .val (.ref b6), .val (.int (1 : Int32)), .unset, .unset] [])) _
              refine XS.iconst X111.here hx rfl (hb hby at_146) ?_
              show Steps p.tables e below (T111.setTop (mkF m 147 #[.val (.int p0), .val (.int p1), .val (.int p2), .val (.int p3), .val (.int p4), .val (.int p5), .val (.int (f1 p0)), .val (.int (f1 p1)), .val (.int (f1 p2)), .val (.int (f1 p3)), .val (.int (f1 p4)), .val (.ref b6), .val (.int (1 : Int32)), .unset, .unset] [(.int (1 : Int32))])) _
              refine XS.goto X111.here hx rfl (pc0 := 147) (pc' := 151) rfl (hb hby at_147) (by decide) (by decide) ?_
              show Steps p.tables e below (T111.setTop (mkF m 151 #[.val (.int p0), .val (.int p1), .val (.int p2), .val (.int p3), .val (.int p4), .val (.int p5), .val (.int (f1 p0)), .val (.int (f1 p1)), .val (.int (f1 p2)), .val (.int (f1 p3)), .val (.int (f1 p4)), .val (.ref b6), .val (.int (1 : Int32)), .unset, .unset] [(.int (1 : Int32))])) _
              refine XS.istore X111.here hx rfl (hb hby at_151) rfl (l' := #[.val (.int p0), .val (.int p1), .val (.int p2), .val (.int p3), .val (.int p4), .val (.int p5), .val (.int (f1 p0)), .val (.int (f1 p1)), .val (.int (f1 p2)), .val (.int (f1 p3)), .val (.int (f1 p4)), .val (.ref b6), .val (.int (1 : Int32)), .val (.int (1 : Int32)), .unset]) rfl ?_
              show Steps p.tables e below (T111.setTop (mkF m 153 #[.val (.int p0), .val (.int p1), .val (.int p2), .val (.int p3), .val (.int p4), .val (.int p5), .val (.int (f1 p0)), .val (.int (f1 p1)), .val (.int (f1 p2)), .val (.int (f1 p3)), .val (.int (f1 p4)), .val (.ref b6), .val (.int (1 : Int32)), .val (.int (1 : Int32)), .unset] [])) _
              refine XS.aload X111.here hx rfl (hb hby at_153) rfl rfl ?_
              show Steps p.tables e below (T111.setTop (mkF m 155 #[.val (.int p0), .val (.int p1), .val (.int p2), .val (.int p3), .val (.int p4), .val (.int p5), .val (.int (f1 p0)), .val (.int (f1 p1)), .val (.int (f1 p2)), .val (.int (f1 p3)), .val (.int (f1 p4)), .val (.ref b6), .val (.int (1 : Int32)), .val (.int (1 : Int32)), .unset] [(.ref b6)])) _
              refine st116.trans ?_
              show Steps p.tables e below (T116.setTop (mkF m 158 #[.val (.int p0), .val (.int p1), .val (.int p2), .val (.int p3), .val (.int p4), .val (.int p5), .val (.int (f1 p0)), .val (.int (f1 p1)), .val (.int (f1 p2)), .val (.int (f1 p3)), .val (.int (f1 p4)), .val (.ref b6), .val (.int (1 : Int32)), .val (.int (1 : Int32)), .unset] [(.int (f8 (f6_r1_a (f6_r1_a (own_upd (own_upd (own_upd (own_upd (fun _ => 0) 0 (1 : Int32)) ((f1 p0)).toNatClampNeg (1 : Int32)) ((f1 p1)).toNatClampNeg (1 : Int32)) ((f1 p2)).toNatClampNeg (1 : Int32))))))])) _
              refine XS.iconst X116.here hx rfl (hb hby at_158) ?_
              exact kt)
          have hd159_118 : (f8 (f6_r1_a (f6_r1_a (own_upd (own_upd (own_upd (own_upd (fun _ => 0) 0 (1 : Int32)) ((f1 p0)).toNatClampNeg (1 : Int32)) ((f1 p1)).toNatClampNeg (1 : Int32)) ((f1 p2)).toNatClampNeg (1 : Int32))))) = (1 : Int32) := own_lc _
          have pre119 : ∀ t, Steps p.tables e below (T116.setTop (mkF m 171 #[.val (.int p0), .val (.int p1), .val (.int p2), .val (.int p3), .val (.int p4), .val (.int p5), .val (.int (f1 p0)), .val (.int (f1 p1)), .val (.int (f1 p2)), .val (.int (f1 p3)), .val (.int (f1 p4)), .val (.ref b6), .val (.int (1 : Int32)), .val (.int (1 : Int32)), .val (.int (1 : Int32))] [(.int (1 : Int32))])) t → Steps p.tables e below (s₁.setTop (entryFrame m #[(.int p0), (.int p1), (.int p2), (.int p3), (.int p4), (.int p5)] maxLocals)) t := fun t kt => pre117 t (by
              show Steps p.tables e below (T116.setTop (mkF m 159 #[.val (.int p0), .val (.int p1), .val (.int p2), .val (.int p3), .val (.int p4), .val (.int p5), .val (.int (f1 p0)), .val (.int (f1 p1)), .val (.int (f1 p2)), .val (.int (f1 p3)), .val (.int (f1 p4)), .val (.ref b6), .val (.int (1 : Int32)), .val (.int (1 : Int32)), .unset] [(.int (1 : Int32)), (.int (f8 (f6_r1_a (f6_r1_a (own_upd (own_upd (own_upd (own_upd (fun _ => 0) 0 (1 : Int32)) ((f1 p0)).toNatClampNeg (1 : Int32)) ((f1 p1)).toNatClampNeg (1 : Int32)) ((f1 p2)).toNatClampNeg (1 : Int32))))))])) _
              refine XS.icmpNo X116.here hx rfl (hb hby at_159) rfl (teq hd159_118).2 ?_
              show Steps p.tables e below (T116.setTop (mkF m 162 #[.val (.int p0), .val (.int p1), .val (.int p2), .val (.int p3), .val (.int p4), .val (.int p5), .val (.int (f1 p0)), .val (.int (f1 p1)), .val (.int (f1 p2)), .val (.int (f1 p3)), .val (.int (f1 p4)), .val (.ref b6), .val (.int (1 : Int32)), .val (.int (1 : Int32)), .unset] [])) _
              refine XS.iconst X116.here hx rfl (hb hby at_162) ?_
              show Steps p.tables e below (T116.setTop (mkF m 163 #[.val (.int p0), .val (.int p1), .val (.int p2), .val (.int p3), .val (.int p4), .val (.int p5), .val (.int (f1 p0)), .val (.int (f1 p1)), .val (.int (f1 p2)), .val (.int (f1 p3)), .val (.int (f1 p4)), .val (.ref b6), .val (.int (1 : Int32)), .val (.int (1 : Int32)), .unset] [(.int (1 : Int32))])) _
              refine XS.goto X116.here hx rfl (pc0 := 163) (pc' := 167) rfl (hb hby at_163) (by decide) (by decide) ?_
              show Steps p.tables e below (T116.setTop (mkF m 167 #[.val (.int p0), .val (.int p1), .val (.int p2), .val (.int p3), .val (.int p4), .val (.int p5), .val (.int (f1 p0)), .val (.int (f1 p1)), .val (.int (f1 p2)), .val (.int (f1 p3)), .val (.int (f1 p4)), .val (.ref b6), .val (.int (1 : Int32)), .val (.int (1 : Int32)), .unset] [(.int (1 : Int32))])) _
              refine XS.istore X116.here hx rfl (hb hby at_167) rfl (l' := #[.val (.int p0), .val (.int p1), .val (.int p2), .val (.int p3), .val (.int p4), .val (.int p5), .val (.int (f1 p0)), .val (.int (f1 p1)), .val (.int (f1 p2)), .val (.int (f1 p3)), .val (.int (f1 p4)), .val (.ref b6), .val (.int (1 : Int32)), .val (.int (1 : Int32)), .val (.int (1 : Int32))]) rfl ?_
              show Steps p.tables e below (T116.setTop (mkF m 169 #[.val (.int p0), .val (.int p1), .val (.int p2), .val (.int p3), .val (.int p4), .val (.int p5), .val (.int (f1 p0)), .val (.int (f1 p1)), .val (.int (f1 p2)), .val (.int (f1 p3)), .val (.int (f1 p4)), .val (.ref b6), .val (.int (1 : Int32)), .val (.int (1 : Int32)), .val (.int (1 : Int32))] [])) _
              refine XS.iload X116.here hx rfl (hb hby at_169) rfl ?_
              exact kt)
          have pre120 : ∀ t, Steps p.tables e below (T116.setTop (mkF m 176 #[.val (.int p0), .val (.int p1), .val (.int p2), .val (.int p3), .val (.int p4), .val (.int p5), .val (.int (f1 p0)), .val (.int (f1 p1)), .val (.int (f1 p2)), .val (.int (f1 p3)), .val (.int (f1 p4)), .val (.ref b6), .val (.int (1 : Int32)), .val (.int (1 : Int32)), .val (.int (1 : Int32))] [(.int (1 : Int32))])) t → Steps p.tables e below (s₁.setTop (entryFrame m #[(.int p0), (.int p1), (.int p2), (.int p3), (.int p4), (.int p5)] maxLocals)) t := fun t kt => pre119 t (by
              show Steps p.tables e below (T116.setTop (mkF m 171 #[.val (.int p0), .val (.int p1), .val (.int p2), .val (.int p3), .val (.int p4), .val (.int p5), .val (.int (f1 p0)), .val (.int (f1 p1)), .val (.int (f1 p2)), .val (.int (f1 p3)), .val (.int (f1 p4)), .val (.ref b6), .val (.int (1 : Int32)), .val (.int (1 : Int32)), .val (.int (1 : Int32))] [(.int (1 : Int32))])) _
              refine XS.ifNo X116.here hx rfl (hb hby at_171) rfl ((if0 _ _).trans (feq (by decide : ¬ ((1 : Int32) = (0 : Int32)))).1) ?_
              show Steps p.tables e below (T116.setTop (mkF m 174 #[.val (.int p0), .val (.int p1), .val (.int p2), .val (.int p3), .val (.int p4), .val (.int p5), .val (.int (f1 p0)), .val (.int (f1 p1)), .val (.int (f1 p2)), .val (.int (f1 p3)), .val (.int (f1 p4)), .val (.ref b6), .val (.int (1 : Int32)), .val (.int (1 : Int32)), .val (.int (1 : Int32))] [])) _
              refine XS.iload X116.here hx rfl (hb hby at_174) rfl ?_
              exact kt)
          have pre121 : ∀ t, Steps p.tables e below (T116.setTop (mkF m 181 #[.val (.int p0), .val (.int p1), .val (.int p2), .val (.int p3), .val (.int p4), .val (.int p5), .val (.int (f1 p0)), .val (.int (f1 p1)), .val (.int (f1 p2)), .val (.int (f1 p3)), .val (.int (f1 p4)), .val (.ref b6), .val (.int (1 : Int32)), .val (.int (1 : Int32)), .val (.int (1 : Int32))] [(.int (1 : Int32))])) t → Steps p.tables e below (s₁.setTop (entryFrame m #[(.int p0), (.int p1), (.int p2), (.int p3), (.int p4), (.int p5)] maxLocals)) t := fun t kt => pre120 t (by
              show Steps p.tables e below (T116.setTop (mkF m 176 #[.val (.int p0), .val (.int p1), .val (.int p2), .val (.int p3), .val (.int p4), .val (.int p5), .val (.int (f1 p0)), .val (.int (f1 p1)), .val (.int (f1 p2)), .val (.int (f1 p3)), .val (.int (f1 p4)), .val (.ref b6), .val (.int (1 : Int32)), .val (.int (1 : Int32)), .val (.int (1 : Int32))] [(.int (1 : Int32))])) _
              refine XS.ifNo X116.here hx rfl (hb hby at_176) rfl ((if0 _ _).trans (feq (by decide : ¬ ((1 : Int32) = (0 : Int32)))).1) ?_
              show Steps p.tables e below (T116.setTop (mkF m 179 #[.val (.int p0), .val (.int p1), .val (.int p2), .val (.int p3), .val (.int p4), .val (.int p5), .val (.int (f1 p0)), .val (.int (f1 p1)), .val (.int (f1 p2)), .val (.int (f1 p3)), .val (.int (f1 p4)), .val (.ref b6), .val (.int (1 : Int32)), .val (.int (1 : Int32)), .val (.int (1 : Int32))] [])) _
              refine XS.iload X116.here hx rfl (hb hby at_179) rfl ?_
              exact kt)
          obtain ⟨fs, hr, hrun, hended, hW, hsame⟩ := X116.leave (v := some (.int (1 : Int32))) (fun h => by rw [Bd.returns] at h; cases h)
          have hv245 : (1 : Int32) = (1 : Int32) := rfl
          refine ⟨_, _, pre121 _ ?_, hrun, hended, _, _, rfl, ?_, ⟨_, rfl⟩, hW, hsame.mono (by decide) (by decide)⟩
          · show Steps p.tables e below (T116.setTop (mkF m 181 #[.val (.int p0), .val (.int p1), .val (.int p2), .val (.int p3), .val (.int p4), .val (.int p5), .val (.int (f1 p0)), .val (.int (f1 p1)), .val (.int (f1 p2)), .val (.int (f1 p3)), .val (.int (f1 p4)), .val (.ref b6), .val (.int (1 : Int32)), .val (.int (1 : Int32)), .val (.int (1 : Int32))] [(.int (1 : Int32))])) _
            refine XS.ifNo X116.here hx rfl (hb hby at_181) rfl ((if0 _ _).trans (feq (by decide : ¬ ((1 : Int32) = (0 : Int32)))).1) ?_
            show Steps p.tables e below (T116.setTop (mkF m 184 #[.val (.int p0), .val (.int p1), .val (.int p2), .val (.int p3), .val (.int p4), .val (.int p5), .val (.int (f1 p0)), .val (.int (f1 p1)), .val (.int (f1 p2)), .val (.int (f1 p3)), .val (.int (f1 p4)), .val (.ref b6), .val (.int (1 : Int32)), .val (.int (1 : Int32)), .val (.int (1 : Int32))] [])) _
            refine XS.iconst X116.here hx rfl (hb hby at_184) ?_
            show Steps p.tables e below (T116.setTop (mkF m 185 #[.val (.int p0), .val (.int p1), .val (.int p2), .val (.int p3), .val (.int p4), .val (.int p5), .val (.int (f1 p0)), .val (.int (f1 p1)), .val (.int (f1 p2)), .val (.int (f1 p3)), .val (.int (f1 p4)), .val (.ref b6), .val (.int (1 : Int32)), .val (.int (1 : Int32)), .val (.int (1 : Int32))] [(.int (1 : Int32))])) _
            refine XS.goto X116.here hx rfl (pc0 := 185) (pc' := 189) rfl (hb hby at_185) (by decide) (by decide) ?_
            show Steps p.tables e below (T116.setTop (mkF m 189 #[.val (.int p0), .val (.int p1), .val (.int p2), .val (.int p3), .val (.int p4), .val (.int p5), .val (.int (f1 p0)), .val (.int (f1 p1)), .val (.int (f1 p2)), .val (.int (f1 p3)), .val (.int (f1 p4)), .val (.ref b6), .val (.int (1 : Int32)), .val (.int (1 : Int32)), .val (.int (1 : Int32))] [(.int (1 : Int32))])) _
            exact retN X116 hx (t := .boolean) Bd.returns (by simp) (hb hby at_189) hr
          · show Q0 Z p0 p1 p2 p3 p4 p5 h0 n0 _ T116.heap _
            rw [e116q]
            exact ⟨congrArg (fun q => some (Value.int q)) hv245, N116⟩
        · have pre122 : ∀ t, Steps p.tables e below (T111.setTop (mkF m 143 #[.val (.int p0), .val (.int p1), .val (.int p2), .val (.int p3), .val (.int p4), .val (.int p5), .val (.int (f1 p0)), .val (.int (f1 p1)), .val (.int (f1 p2)), .val (.int (f1 p3)), .val (.int (f1 p4)), .val (.ref b6), .val (.int (1 : Int32)), .unset, .unset] [(.int (0 : Int32)), (.int (nar .boolean ((f6_r1_a (f6_r1_a (own_upd (own_upd (own_upd (own_upd (fun _ => 0) 0 (1 : Int32)) ((f1 p0)).toNatClampNeg (1 : Int32)) ((f1 p1)).toNatClampNeg (1 : Int32)) ((f1 p2)).toNatClampNeg (1 : Int32)))) ((f1 p4)).toNatClampNeg)))])) t → Steps p.tables e below (s₁.setTop (entryFrame m #[(.int p0), (.int p1), (.int p2), (.int p3), (.int p4), (.int p5)] maxLocals)) t := fun t kt => pre112 t (by
              show Steps p.tables e below (T111.setTop (mkF m 135 #[.val (.int p0), .val (.int p1), .val (.int p2), .val (.int p3), .val (.int p4), .val (.int p5), .val (.int (f1 p0)), .val (.int (f1 p1)), .val (.int (f1 p2)), .val (.int (f1 p3)), .val (.int (f1 p4)), .val (.ref b6), .val (.int (1 : Int32)), .unset, .unset] [(.int (f1 p4)), (.int (nar .boolean ((f6_r1_a (f6_r1_a (own_upd (own_upd (own_upd (own_upd (fun _ => 0) 0 (1 : Int32)) ((f1 p0)).toNatClampNeg (1 : Int32)) ((f1 p1)).toNatClampNeg (1 : Int32)) ((f1 p2)).toNatClampNeg (1 : Int32)))) ((f1 p4)).toNatClampNeg)))])) _
              refine XS.ifYes X111.here hx rfl (pc0 := 135) (pc' := 142) rfl (hb hby at_135) rfl ((if0 _ _).trans (feq hc135_113).2) (by decide) (by decide) ?_
              show Steps p.tables e below (T111.setTop (mkF m 142 #[.val (.int p0), .val (.int p1), .val (.int p2), .val (.int p3), .val (.int p4), .val (.int p5), .val (.int (f1 p0)), .val (.int (f1 p1)), .val (.int (f1 p2)), .val (.int (f1 p3)), .val (.int (f1 p4)), .val (.ref b6), .val (.int (1 : Int32)), .unset, .unset] [(.int (nar .boolean ((f6_r1_a (f6_r1_a (own_upd (own_upd (own_upd (own_upd (fun _ => 0) 0 (1 : Int32)) ((f1 p0)).toNatClampNeg (1 : Int32)) ((f1 p1)).toNatClampNeg (1 : Int32)) ((f1 p2)).toNatClampNeg (1 : Int32)))) ((f1 p4)).toNatClampNeg)))])) _
              refine XS.iconst X111.here hx rfl (hb hby at_142) ?_
              exact kt)
          have hd143_123 : (nar .boolean ((f6_r1_a (f6_r1_a (own_upd (own_upd (own_upd (own_upd (fun _ => 0) 0 (1 : Int32)) ((f1 p0)).toNatClampNeg (1 : Int32)) ((f1 p1)).toNatClampNeg (1 : Int32)) ((f1 p2)).toNatClampNeg (1 : Int32)))) ((f1 p4)).toNatClampNeg)) = (0 : Int32) := own_is1 _ (own_ch _) hc135_113
          obtain ⟨cq124, kq124, q124a, q124b, q124c⟩ := isOf hZ e111q (c81.keep K78q)
          obtain ⟨_, _, ⟨T124, L124, k124, n124⟩, -, X124, ⟨Lc124, hQ124, l124, y124, z124⟩, st124⟩ := X111.virtualBack hx (y := (⟨"com/example/cardhost/cardhost/LogicalChannels", "lowestClosed", "()I"⟩ : MethodName)) (z := (⟨"com/example/cardhost/cardhost/LogicalChannels", "lowestClosed", "()I"⟩ : MethodName)) hown (mvT hZ (hw _ (List.mem_of_getElem? (i := 43) rfl))) (mvT hZ (hw _ (List.mem_of_getElem? (i := 44) rfl))) (notFace_of_selects (args := #[]) (mvT hZ (hw _ (List.mem_of_getElem? (i := 46) rfl)))) (mvT hZ (hw _ (List.mem_of_getElem? (i := 46) rfl))) (mvT hZ (hw _ (List.mem_of_getElem? (i := 45) rfl))) (by decide) (backOf (W := 0) (rm8 l Z a0 hw [] b6 r_o0_open_9 (f6_r1_a (f6_r1_a (own_upd (own_upd (own_upd (own_upd (fun _ => 0) 0 (1 : Int32)) ((f1 p0)).toNatClampNeg (1 : Int32)) ((f1 p1)).toNatClampNeg (1 : Int32)) ((f1 p2)).toNatClampNeg (1 : Int32)))) T78.heap n0 Z83 c85 G78_0 g_r_o0_open_9) hZ (hw _ (List.mem_of_getElem? (i := 47) rfl)) (hw _ (List.mem_of_getElem? (i := 7) rfl)) (by decide) (by decide)) q124a q124c (g := (mkF m 155 #[.val (.int p0), .val (.int p1), .val (.int p2), .val (.int p3), .val (.int p4), .val (.int p5), .val (.int (f1 p0)), .val (.int (f1 p1)), .val (.int (f1 p2)), .val (.int (f1 p3)), .val (.int (f1 p4)), .val (.ref b6), .val (.int (1 : Int32)), .val (.int (1 : Int32)), .unset] [(.ref b6)])) rfl (by rw [hml]; rfl) (Steps.refl _) (argsL := []) (rest := []) (lenOf pd_0_4 rfl) rfl (by show 2 * 0 + _ ≤ _; exact Nat.le_of_eq rfl) (hb hby at_155) (fun _ _ => ⟨rfl, e111q, (by decide : 4 + 0 ≤ _), (by decide : 63 + 0 ≤ _)⟩)
          dsimp only [Pt.U, Pt.locs, Pt.cells, Pt.slots] at X124 l124 y124 z124 st124 hQ124
          subst l124 y124 z124
          obtain ⟨rfl, N124q, e124q⟩ := hQ124
          have N124 := Fr.app N111 N124q
          have pre125 : ∀ t, Steps p.tables e below (T124.setTop (mkF m 159 #[.val (.int p0), .val (.int p1), .val (.int p2), .val (.int p3), .val (.int p4), .val (.int p5), .val (.int (f1 p0)), .val (.int (f1 p1)), .val (.int (f1 p2)), .val (.int (f1 p3)), .val (.int (f1 p4)), .val (.ref b6), .val (.int (1 : Int32)), .val (.int (1 : Int32)), .unset] [(.int (1 : Int32)), (.int (f8 (f6_r1_a (f6_r1_a (own_upd (own_upd (own_upd (own_upd (fun _ => 0) 0 (1 : Int32)) ((f1 p0)).toNatClampNeg (1 : Int32)) ((f1 p1)).toNatClampNeg (1 : Int32)) ((f1 p2)).toNatClampNeg (1 : Int32))))))])) t → Steps p.tables e below (s₁.setTop (entryFrame m #[(.int p0), (.int p1), (.int p2), (.int p3), (.int p4), (.int p5)] maxLocals)) t := fun t kt => pre122 t (by
              show Steps p.tables e below (T111.setTop (mkF m 143 #[.val (.int p0), .val (.int p1), .val (.int p2), .val (.int p3), .val (.int p4), .val (.int p5), .val (.int (f1 p0)), .val (.int (f1 p1)), .val (.int (f1 p2)), .val (.int (f1 p3)), .val (.int (f1 p4)), .val (.ref b6), .val (.int (1 : Int32)), .unset, .unset] [(.int (0 : Int32)), (.int (nar .boolean ((f6_r1_a (f6_r1_a (own_upd (own_upd (own_upd (own_upd (fun _ => 0) 0 (1 : Int32)) ((f1 p0)).toNatClampNeg (1 : Int32)) ((f1 p1)).toNatClampNeg (1 : Int32)) ((f1 p2)).toNatClampNeg (1 : Int32)))) ((f1 p4)).toNatClampNeg)))])) _
              refine XS.icmpNo X111.here hx rfl (hb hby at_143) rfl (teq hd143_123).2 ?_
              show Steps p.tables e below (T111.setTop (mkF m 146 #[.val (.int p0), .val (.int p1), .val (.int p2), .val (.int p3), .val (.int p4), .val (.int p5), .val (.int (f1 p0)), .val (.int (f1 p1)), .val (.int (f1 p2)), .val (.int (f1 p3)), .val (.int (f1 p4)), .val (.ref b6), .val (.int (1 : Int32)), .unset, .unset] [])) _
              refine XS.iconst X111.here hx rfl (hb hby at_146) ?_
              show Steps p.tables e below (T111.setTop (mkF m 147 #[.val (.int p0), .val (.int p1), .val (.int p2), .val (.int p3), .val (.int p4), .val (.int p5), .val (.int (f1 p0)), .val (.int (f1 p1)), .val (.int (f1 p2)), .val (.int (f1 p3)), .val (.int (f1 p4)), .val (.ref b6), .val (.int (1 : Int32)), .unset, .unset] [(.int (1 : Int32))])) _
              refine XS.goto X111.here hx rfl (pc0 := 147) (pc' := 151) rfl (hb hby at_147) (by decide) (by decide) ?_
              show Steps p.tables e below (T111.setTop (mkF m 151 #[.val (.int p0), .val (.int p1), .val (.int p2), .val (.int p3), .val (.int p4), .val (.int p5), .val (.int (f1 p0)), .val (.int (f1 p1)), .val (.int (f1 p2)), .val (.int (f1 p3)), .val (.int (f1 p4)), .val (.ref b6), .val (.int (1 : Int32)), .unset, .unset] [(.int (1 : Int32))])) _
              refine XS.istore X111.here hx rfl (hb hby at_151) rfl (l' := #[.val (.int p0), .val (.int p1), .val (.int p2), .val (.int p3), .val (.int p4), .val (.int p5), .val (.int (f1 p0)), .val (.int (f1 p1)), .val (.int (f1 p2)), .val (.int (f1 p3)), .val (.int (f1 p4)), .val (.ref b6), .val (.int (1 : Int32)), .val (.int (1 : Int32)), .unset]) rfl ?_
              show Steps p.tables e below (T111.setTop (mkF m 153 #[.val (.int p0), .val (.int p1), .val (.int p2), .val (.int p3), .val (.int p4), .val (.int p5), .val (.int (f1 p0)), .val (.int (f1 p1)), .val (.int (f1 p2)), .val (.int (f1 p3)), .val (.int (f1 p4)), .val (.ref b6), .val (.int (1 : Int32)), .val (.int (1 : Int32)), .unset] [])) _
              refine XS.aload X111.here hx rfl (hb hby at_153) rfl rfl ?_
              show Steps p.tables e below (T111.setTop (mkF m 155 #[.val (.int p0), .val (.int p1), .val (.int p2), .val (.int p3), .val (.int p4), .val (.int p5), .val (.int (f1 p0)), .val (.int (f1 p1)), .val (.int (f1 p2)), .val (.int (f1 p3)), .val (.int (f1 p4)), .val (.ref b6), .val (.int (1 : Int32)), .val (.int (1 : Int32)), .unset] [(.ref b6)])) _
              refine st124.trans ?_
              show Steps p.tables e below (T124.setTop (mkF m 158 #[.val (.int p0), .val (.int p1), .val (.int p2), .val (.int p3), .val (.int p4), .val (.int p5), .val (.int (f1 p0)), .val (.int (f1 p1)), .val (.int (f1 p2)), .val (.int (f1 p3)), .val (.int (f1 p4)), .val (.ref b6), .val (.int (1 : Int32)), .val (.int (1 : Int32)), .unset] [(.int (f8 (f6_r1_a (f6_r1_a (own_upd (own_upd (own_upd (own_upd (fun _ => 0) 0 (1 : Int32)) ((f1 p0)).toNatClampNeg (1 : Int32)) ((f1 p1)).toNatClampNeg (1 : Int32)) ((f1 p2)).toNatClampNeg (1 : Int32))))))])) _
              refine XS.iconst X124.here hx rfl (hb hby at_158) ?_
              exact kt)
          have hd159_126 : (f8 (f6_r1_a (f6_r1_a (own_upd (own_upd (own_upd (own_upd (fun _ => 0) 0 (1 : Int32)) ((f1 p0)).toNatClampNeg (1 : Int32)) ((f1 p1)).toNatClampNeg (1 : Int32)) ((f1 p2)).toNatClampNeg (1 : Int32))))) = (1 : Int32) := own_lc _
          have pre127 : ∀ t, Steps p.tables e below (T124.setTop (mkF m 171 #[.val (.int p0), .val (.int p1), .val (.int p2), .val (.int p3), .val (.int p4), .val (.int p5), .val (.int (f1 p0)), .val (.int (f1 p1)), .val (.int (f1 p2)), .val (.int (f1 p3)), .val (.int (f1 p4)), .val (.ref b6), .val (.int (1 : Int32)), .val (.int (1 : Int32)), .val (.int (1 : Int32))] [(.int (1 : Int32))])) t → Steps p.tables e below (s₁.setTop (entryFrame m #[(.int p0), (.int p1), (.int p2), (.int p3), (.int p4), (.int p5)] maxLocals)) t := fun t kt => pre125 t (by
              show Steps p.tables e below (T124.setTop (mkF m 159 #[.val (.int p0), .val (.int p1), .val (.int p2), .val (.int p3), .val (.int p4), .val (.int p5), .val (.int (f1 p0)), .val (.int (f1 p1)), .val (.int (f1 p2)), .val (.int (f1 p3)), .val (.int (f1 p4)), .val (.ref b6), .val (.int (1 : Int32)), .val (.int (1 : Int32)), .unset] [(.int (1 : Int32)), (.int (f8 (f6_r1_a (f6_r1_a (own_upd (own_upd (own_upd (own_upd (fun _ => 0) 0 (1 : Int32)) ((f1 p0)).toNatClampNeg (1 : Int32)) ((f1 p1)).toNatClampNeg (1 : Int32)) ((f1 p2)).toNatClampNeg (1 : Int32))))))])) _
              refine XS.icmpNo X124.here hx rfl (hb hby at_159) rfl (teq hd159_126).2 ?_
              show Steps p.tables e below (T124.setTop (mkF m 162 #[.val (.int p0), .val (.int p1), .val (.int p2), .val (.int p3), .val (.int p4), .val (.int p5), .val (.int (f1 p0)), .val (.int (f1 p1)), .val (.int (f1 p2)), .val (.int (f1 p3)), .val (.int (f1 p4)), .val (.ref b6), .val (.int (1 : Int32)), .val (.int (1 : Int32)), .unset] [])) _
              refine XS.iconst X124.here hx rfl (hb hby at_162) ?_
              show Steps p.tables e below (T124.setTop (mkF m 163 #[.val (.int p0), .val (.int p1), .val (.int p2), .val (.int p3), .val (.int p4), .val (.int p5), .val (.int (f1 p0)), .val (.int (f1 p1)), .val (.int (f1 p2)), .val (.int (f1 p3)), .val (.int (f1 p4)), .val (.ref b6), .val (.int (1 : Int32)), .val (.int (1 : Int32)), .unset] [(.int (1 : Int32))])) _
              refine XS.goto X124.here hx rfl (pc0 := 163) (pc' := 167) rfl (hb hby at_163) (by decide) (by decide) ?_
              show Steps p.tables e below (T124.setTop (mkF m 167 #[.val (.int p0), .val (.int p1), .val (.int p2), .val (.int p3), .val (.int p4), .val (.int p5), .val (.int (f1 p0)), .val (.int (f1 p1)), .val (.int (f1 p2)), .val (.int (f1 p3)), .val (.int (f1 p4)), .val (.ref b6), .val (.int (1 : Int32)), .val (.int (1 : Int32)), .unset] [(.int (1 : Int32))])) _
              refine XS.istore X124.here hx rfl (hb hby at_167) rfl (l' := #[.val (.int p0), .val (.int p1), .val (.int p2), .val (.int p3), .val (.int p4), .val (.int p5), .val (.int (f1 p0)), .val (.int (f1 p1)), .val (.int (f1 p2)), .val (.int (f1 p3)), .val (.int (f1 p4)), .val (.ref b6), .val (.int (1 : Int32)), .val (.int (1 : Int32)), .val (.int (1 : Int32))]) rfl ?_
              show Steps p.tables e below (T124.setTop (mkF m 169 #[.val (.int p0), .val (.int p1), .val (.int p2), .val (.int p3), .val (.int p4), .val (.int p5), .val (.int (f1 p0)), .val (.int (f1 p1)), .val (.int (f1 p2)), .val (.int (f1 p3)), .val (.int (f1 p4)), .val (.ref b6), .val (.int (1 : Int32)), .val (.int (1 : Int32)), .val (.int (1 : Int32))] [])) _
              refine XS.iload X124.here hx rfl (hb hby at_169) rfl ?_
              exact kt)
          have pre128 : ∀ t, Steps p.tables e below (T124.setTop (mkF m 176 #[.val (.int p0), .val (.int p1), .val (.int p2), .val (.int p3), .val (.int p4), .val (.int p5), .val (.int (f1 p0)), .val (.int (f1 p1)), .val (.int (f1 p2)), .val (.int (f1 p3)), .val (.int (f1 p4)), .val (.ref b6), .val (.int (1 : Int32)), .val (.int (1 : Int32)), .val (.int (1 : Int32))] [(.int (1 : Int32))])) t → Steps p.tables e below (s₁.setTop (entryFrame m #[(.int p0), (.int p1), (.int p2), (.int p3), (.int p4), (.int p5)] maxLocals)) t := fun t kt => pre127 t (by
              show Steps p.tables e below (T124.setTop (mkF m 171 #[.val (.int p0), .val (.int p1), .val (.int p2), .val (.int p3), .val (.int p4), .val (.int p5), .val (.int (f1 p0)), .val (.int (f1 p1)), .val (.int (f1 p2)), .val (.int (f1 p3)), .val (.int (f1 p4)), .val (.ref b6), .val (.int (1 : Int32)), .val (.int (1 : Int32)), .val (.int (1 : Int32))] [(.int (1 : Int32))])) _
              refine XS.ifNo X124.here hx rfl (hb hby at_171) rfl ((if0 _ _).trans (feq (by decide : ¬ ((1 : Int32) = (0 : Int32)))).1) ?_
              show Steps p.tables e below (T124.setTop (mkF m 174 #[.val (.int p0), .val (.int p1), .val (.int p2), .val (.int p3), .val (.int p4), .val (.int p5), .val (.int (f1 p0)), .val (.int (f1 p1)), .val (.int (f1 p2)), .val (.int (f1 p3)), .val (.int (f1 p4)), .val (.ref b6), .val (.int (1 : Int32)), .val (.int (1 : Int32)), .val (.int (1 : Int32))] [])) _
              refine XS.iload X124.here hx rfl (hb hby at_174) rfl ?_
              exact kt)
          have pre129 : ∀ t, Steps p.tables e below (T124.setTop (mkF m 181 #[.val (.int p0), .val (.int p1), .val (.int p2), .val (.int p3), .val (.int p4), .val (.int p5), .val (.int (f1 p0)), .val (.int (f1 p1)), .val (.int (f1 p2)), .val (.int (f1 p3)), .val (.int (f1 p4)), .val (.ref b6), .val (.int (1 : Int32)), .val (.int (1 : Int32)), .val (.int (1 : Int32))] [(.int (1 : Int32))])) t → Steps p.tables e below (s₁.setTop (entryFrame m #[(.int p0), (.int p1), (.int p2), (.int p3), (.int p4), (.int p5)] maxLocals)) t := fun t kt => pre128 t (by
              show Steps p.tables e below (T124.setTop (mkF m 176 #[.val (.int p0), .val (.int p1), .val (.int p2), .val (.int p3), .val (.int p4), .val (.int p5), .val (.int (f1 p0)), .val (.int (f1 p1)), .val (.int (f1 p2)), .val (.int (f1 p3)), .val (.int (f1 p4)), .val (.ref b6), .val (.int (1 : Int32)), .val (.int (1 : Int32)), .val (.int (1 : Int32))] [(.int (1 : Int32))])) _
              refine XS.ifNo X124.here hx rfl (hb hby at_176) rfl ((if0 _ _).trans (feq (by decide : ¬ ((1 : Int32) = (0 : Int32)))).1) ?_
              show Steps p.tables e below (T124.setTop (mkF m 179 #[.val (.int p0), .val (.int p1), .val (.int p2), .val (.int p3), .val (.int p4), .val (.int p5), .val (.int (f1 p0)), .val (.int (f1 p1)), .val (.int (f1 p2)), .val (.int (f1 p3)), .val (.int (f1 p4)), .val (.ref b6), .val (.int (1 : Int32)), .val (.int (1 : Int32)), .val (.int (1 : Int32))] [])) _
              refine XS.iload X124.here hx rfl (hb hby at_179) rfl ?_
              exact kt)
          obtain ⟨fs, hr, hrun, hended, hW, hsame⟩ := X124.leave (v := some (.int (1 : Int32))) (fun h => by rw [Bd.returns] at h; cases h)
          have hv246 : (1 : Int32) = (1 : Int32) := rfl
          refine ⟨_, _, pre129 _ ?_, hrun, hended, _, _, rfl, ?_, ⟨_, rfl⟩, hW, hsame.mono (by decide) (by decide)⟩
          · show Steps p.tables e below (T124.setTop (mkF m 181 #[.val (.int p0), .val (.int p1), .val (.int p2), .val (.int p3), .val (.int p4), .val (.int p5), .val (.int (f1 p0)), .val (.int (f1 p1)), .val (.int (f1 p2)), .val (.int (f1 p3)), .val (.int (f1 p4)), .val (.ref b6), .val (.int (1 : Int32)), .val (.int (1 : Int32)), .val (.int (1 : Int32))] [(.int (1 : Int32))])) _
            refine XS.ifNo X124.here hx rfl (hb hby at_181) rfl ((if0 _ _).trans (feq (by decide : ¬ ((1 : Int32) = (0 : Int32)))).1) ?_
            show Steps p.tables e below (T124.setTop (mkF m 184 #[.val (.int p0), .val (.int p1), .val (.int p2), .val (.int p3), .val (.int p4), .val (.int p5), .val (.int (f1 p0)), .val (.int (f1 p1)), .val (.int (f1 p2)), .val (.int (f1 p3)), .val (.int (f1 p4)), .val (.ref b6), .val (.int (1 : Int32)), .val (.int (1 : Int32)), .val (.int (1 : Int32))] [])) _
            refine XS.iconst X124.here hx rfl (hb hby at_184) ?_
            show Steps p.tables e below (T124.setTop (mkF m 185 #[.val (.int p0), .val (.int p1), .val (.int p2), .val (.int p3), .val (.int p4), .val (.int p5), .val (.int (f1 p0)), .val (.int (f1 p1)), .val (.int (f1 p2)), .val (.int (f1 p3)), .val (.int (f1 p4)), .val (.ref b6), .val (.int (1 : Int32)), .val (.int (1 : Int32)), .val (.int (1 : Int32))] [(.int (1 : Int32))])) _
            refine XS.goto X124.here hx rfl (pc0 := 185) (pc' := 189) rfl (hb hby at_185) (by decide) (by decide) ?_
            show Steps p.tables e below (T124.setTop (mkF m 189 #[.val (.int p0), .val (.int p1), .val (.int p2), .val (.int p3), .val (.int p4), .val (.int p5), .val (.int (f1 p0)), .val (.int (f1 p1)), .val (.int (f1 p2)), .val (.int (f1 p3)), .val (.int (f1 p4)), .val (.ref b6), .val (.int (1 : Int32)), .val (.int (1 : Int32)), .val (.int (1 : Int32))] [(.int (1 : Int32))])) _
            exact retN X124 hx (t := .boolean) Bd.returns (by simp) (hb hby at_189) hr
          · show Q0 Z p0 p1 p2 p3 p4 p5 h0 n0 _ T124.heap _
            rw [e124q]
            exact ⟨congrArg (fun q => some (Value.int q)) hv246, N124⟩
  · obtain ⟨cq130, kq130, q130a, q130b, q130c⟩ := isOf hZ rfl ((((E_b6.keep K9q).keep K12q).keep K15q).keep K18q)
    obtain ⟨_, _, ⟨T130, L130, k130, n130⟩, -, X130, ⟨Lc130, hQ130, l130, y130, z130⟩, st130⟩ := X18.virtualBack hx (y := (⟨"com/example/cardhost/cardhost/LogicalChannels", "close", "(I)V"⟩ : MethodName)) (z := (⟨"com/example/cardhost/cardhost/LogicalChannels", "close", "(I)V"⟩ : MethodName)) hown (mvT hZ (hw _ (List.mem_of_getElem? (i := 28) rfl))) (mvT hZ (hw _ (List.mem_of_getElem? (i := 29) rfl))) (notFace_of_selects (args := #[]) (mvT hZ (hw _ (List.mem_of_getElem? (i := 31) rfl)))) (mvT hZ (hw _ (List.mem_of_getElem? (i := 31) rfl))) (mvT hZ (hw _ (List.mem_of_getElem? (i := 30) rfl))) (by decide) (backOf (W := 0) (rm5 l Z a0 hw [] b6 ((1 : Int32) + (((p5.toUInt32 >>> ((2 : Int32) &&& 31).toUInt32).toInt32) - (((p5.toUInt32 >>> ((2 : Int32) &&& 31).toUInt32).toInt32) / (19 : Int32)) * (19 : Int32))) r_o0_open_9 (own_upd (own_upd (own_upd (own_upd (fun _ => 0) 0 (1 : Int32)) ((f1 p0)).toNatClampNeg (1 : Int32)) ((f1 p1)).toNatClampNeg (1 : Int32)) ((f1 p2)).toNatClampNeg (1 : Int32)) T18.heap n0 Z21 (c19.keep K18q (ninS ne_b6_r_o0_open_9 nin0)) G18_0 g_r_o0_open_9 (own_cl _)) hZ (hw _ (List.mem_of_getElem? (i := 32) rfl)) (hw _ (List.mem_of_getElem? (i := 7) rfl)) (by decide) (by decide)) q130a q130c (g := (mkF m 79 #[.val (.int p0), .val (.int p1), .val (.int p2), .val (.int p3), .val (.int p4), .val (.int p5), .val (.int (f1 p0)), .val (.int (f1 p1)), .val (.int (f1 p2)), .val (.int (f1 p3)), .val (.int (f1 p4)), .val (.ref b6), .unset, .unset, .unset] [(.int ((1 : Int32) + (((p5.toUInt32 >>> ((2 : Int32) &&& 31).toUInt32).toInt32) - (((p5.toUInt32 >>> ((2 : Int32) &&& 31).toUInt32).toInt32) / (19 : Int32)) * (19 : Int32)))), (.ref b6)])) rfl (by rw [hml]; rfl) (Steps.refl _) (argsL := [(.int ((1 : Int32) + (((p5.toUInt32 >>> ((2 : Int32) &&& 31).toUInt32).toInt32) - (((p5.toUInt32 >>> ((2 : Int32) &&& 31).toUInt32).toInt32) / (19 : Int32)) * (19 : Int32))))]) (rest := []) (lenOf pd_0_2 rfl) rfl (by show 2 * 0 + _ ≤ _; exact Nat.le_of_eq rfl) (hb hby at_79) (fun _ _ => ⟨rfl, rfl, (by decide : 4 + 0 ≤ _), (by decide : 63 + 0 ≤ _)⟩)
    dsimp only [Pt.U, Pt.locs, Pt.cells, Pt.slots] at X130 l130 y130 z130 st130 hQ130
    subst l130 y130 z130
    obtain ⟨rfl, N130q, K130q, G130_0⟩ := hQ130
    have N130 := Fr.app N18 N130q
    have K131 : Keep h0 T130.heap [] := K20.trans K130q (allS (Or.inr sz_r_o0_open_9) all0)
    have Z132 : n0 ≤ T130.heap.size := Nat.le_trans Z0 K131.1
    obtain ⟨LS130, X130, N130⟩ : ∃ L, Stand p l e room_1 s m #[(.int p0), (.int p1), (.int p2), (.int p3), (.int p4), (.int p5)] below meth c T130 L 4 63 ∧ Fr n0 L := ⟨_, X130, N130⟩
    have c134 := ((c19.keep K18q (ninS ne_b6_r_o0_open_9 nin0)).keep K130q (ninS ne_b6_r_o0_open_9 nin0))
    have c135 := ((((G9_2.keep K12q (ninS ne_b6_r_o0_open_9 nin0)).keep K15q (ninS ne_b6_r_o0_open_9 nin0)).keep K18q (ninS ne_b6_r_o0_open_9 nin0)).keep K130q (ninS ne_b6_r_o0_open_9 nin0))
    have c136 := ((((G9_3.keep K12q (ninS (Ne.symm ne_r_o0_open_9_r_o0_active_9) nin0)).keep K15q (ninS (Ne.symm ne_r_o0_open_9_r_o0_active_9) nin0)).keep K18q (ninS (Ne.symm ne_r_o0_open_9_r_o0_active_9) nin0)).keep K130q (ninS (Ne.symm ne_r_o0_open_9_r_o0_active_9) nin0))
    have c137 := (((((E_b6.keep K9q).keep K12q).keep K15q).keep K18q).keep K130q)
    obtain ⟨cq133, kq133, q133a, q133b, q133c⟩ := isOf hZ rfl c137
    obtain ⟨_, _, ⟨T133, L133, k133, n133⟩, -, X133, ⟨Lc133, hQ133, l133, y133, z133⟩, st133⟩ := X130.virtualBack hx (y := (⟨"com/example/cardhost/cardhost/LogicalChannels", "reset", "()V"⟩ : MethodName)) (z := (⟨"com/example/cardhost/cardhost/LogicalChannels", "reset", "()V"⟩ : MethodName)) hown (mvT hZ (hw _ (List.mem_of_getElem? (i := 33) rfl))) (mvT hZ (hw _ (List.mem_of_getElem? (i := 34) rfl))) (notFace_of_selects (args := #[]) (mvT hZ (hw _ (List.mem_of_getElem? (i := 36) rfl)))) (mvT hZ (hw _ (List.mem_of_getElem? (i := 36) rfl))) (mvT hZ (hw _ (List.mem_of_getElem? (i := 35) rfl))) (by decide) (backOf (W := 0) (rm6 l Z a0 hw [] b6 r_o0_open_9 (own_upd (own_upd (own_upd (own_upd (own_upd (fun _ => 0) 0 (1 : Int32)) ((f1 p0)).toNatClampNeg (1 : Int32)) ((f1 p1)).toNatClampNeg (1 : Int32)) ((f1 p2)).toNatClampNeg (1 : Int32)) (((1 : Int32) + (((p5.toUInt32 >>> ((2 : Int32) &&& 31).toUInt32).toInt32) - (((p5.toUInt32 >>> ((2 : Int32) &&& 31).toUInt32).toInt32) / (19 : Int32)) * (19 : Int32)))).toNatClampNeg (0 : Int32)) r_o0_active_9 T130.heap n0 Z132 c134 G130_0 c135 c136 g_r_o0_open_9 g_r_o0_active_9 ne_b6_r_o0_open_9 ne_b6_r_o0_active_9 ne_r_o0_open_9_r_o0_active_9) hZ (hw _ (List.mem_of_getElem? (i := 37) rfl)) (hw _ (List.mem_of_getElem? (i := 7) rfl)) (by decide) (by decide)) q133a q133c (g := (mkF m 84 #[.val (.int p0), .val (.int p1), .val (.int p2), .val (.int p3), .val (.int p4), .val (.int p5), .val (.int (f1 p0)), .val (.int (f1 p1)), .val (.int (f1 p2)), .val (.int (f1 p3)), .val (.int (f1 p4)), .val (.ref b6), .unset, .unset, .unset] [(.ref b6)])) rfl (by rw [hml]; rfl) (Steps.refl _) (argsL := []) (rest := []) (lenOf pd_0_1 rfl) rfl (by show 2 * 0 + _ ≤ _; exact Nat.le_of_eq rfl) (hb hby at_84) (fun _ _ => ⟨rfl, rfl, (by decide : 4 + 0 ≤ _), (by decide : 63 + 0 ≤ _)⟩)
    dsimp only [Pt.U, Pt.locs, Pt.cells, Pt.slots] at X133 l133 y133 z133 st133 hQ133
    subst l133 y133 z133
    obtain ⟨rfl, N133q, K133q, G133_0, G133_1⟩ := hQ133
    have N133 := Fr.app N130 N133q
    have K138 : Keep h0 T133.heap [] := K131.trans K133q (allS (Or.inr sz_r_o0_open_9) (allS (Or.inr sz_r_o0_active_9) all0))
    have Z139 : n0 ≤ T133.heap.size := Nat.le_trans Z0 K138.1
    obtain ⟨LS133, X133, N133⟩ : ∃ L, Stand p l e room_1 s m #[(.int p0), (.int p1), (.int p2), (.int p3), (.int p4), (.int p5)] below meth c T133 L 4 63 ∧ Fr n0 L := ⟨_, X133, N133⟩
    have pre140 : ∀ t, Steps p.tables e below (T133.setTop (mkF m 91 #[.val (.int p0), .val (.int p1), .val (.int p2), .val (.int p3), .val (.int p4), .val (.int p5), .val (.int (f1 p0)), .val (.int (f1 p1)), .val (.int (f1 p2)), .val (.int (f1 p3)), .val (.int (f1 p4)), .val (.ref b6), .unset, .unset, .unset] [(.int (p5 &&& (2 : Int32)))])) t → Steps p.tables e below (s₁.setTop (entryFrame m #[(.int p0), (.int p1), (.int p2), (.int p3), (.int p4), (.int p5)] maxLocals)) t := fun t kt => pre22 t (by
        show Steps p.tables e below (T18.setTop (mkF m 65 #[.val (.int p0), .val (.int p1), .val (.int p2), .val (.int p3), .val (.int p4), .val (.int p5), .val (.int (f1 p0)), .val (.int (f1 p1)), .val (.int (f1 p2)), .val (.int (f1 p3)), .val (.int (f1 p4)), .val (.ref b6), .unset, .unset, .unset] [(.int (p5 &&& (1 : Int32)))])) _
        refine XS.ifNo X18.here hx rfl (hb hby at_65) rfl ((if0 _ _).trans (feq hc65_23).1) ?_
        show Steps p.tables e below (T18.setTop (mkF m 68 #[.val (.int p0), .val (.int p1), .val (.int p2), .val (.int p3), .val (.int p4), .val (.int p5), .val (.int (f1 p0)), .val (.int (f1 p1)), .val (.int (f1 p2)), .val (.int (f1 p3)), .val (.int (f1 p4)), .val (.ref b6), .unset, .unset, .unset] [])) _
        refine XS.aload X18.here hx rfl (hb hby at_68) rfl rfl ?_
        show Steps p.tables e below (T18.setTop (mkF m 70 #[.val (.int p0), .val (.int p1), .val (.int p2), .val (.int p3), .val (.int p4), .val (.int p5), .val (.int (f1 p0)), .val (.int (f1 p1)), .val (.int (f1 p2)), .val (.int (f1 p3)), .val (.int (f1 p4)), .val (.ref b6), .unset, .unset, .unset] [(.ref b6)])) _
        refine XS.iconst X18.here hx rfl (hb hby at_70) ?_
        show Steps p.tables e below (T18.setTop (mkF m 71 #[.val (.int p0), .val (.int p1), .val (.int p2), .val (.int p3), .val (.int p4), .val (.int p5), .val (.int (f1 p0)), .val (.int (f1 p1)), .val (.int (f1 p2)), .val (.int (f1 p3)), .val (.int (f1 p4)), .val (.ref b6), .unset, .unset, .unset] [(.int (1 : Int32)), (.ref b6)])) _
        refine XS.iload X18.here hx rfl (hb hby at_71) rfl ?_
        show Steps p.tables e below (T18.setTop (mkF m 73 #[.val (.int p0), .val (.int p1), .val (.int p2), .val (.int p3), .val (.int p4), .val (.int p5), .val (.int (f1 p0)), .val (.int (f1 p1)), .val (.int (f1 p2)), .val (.int (f1 p3)), .val (.int (f1 p4)), .val (.ref b6), .unset, .unset, .unset] [(.int p5), (.int (1 : Int32)), (.ref b6)])) _
        refine XS.iconst X18.here hx rfl (hb hby at_73) ?_
        show Steps p.tables e below (T18.setTop (mkF m 74 #[.val (.int p0), .val (.int p1), .val (.int p2), .val (.int p3), .val (.int p4), .val (.int p5), .val (.int (f1 p0)), .val (.int (f1 p1)), .val (.int (f1 p2)), .val (.int (f1 p3)), .val (.int (f1 p4)), .val (.ref b6), .unset, .unset, .unset] [(.int (2 : Int32)), (.int p5), (.int (1 : Int32)), (.ref b6)])) _
        refine XS.iushr X18.here hx rfl (hb hby at_74) rfl ?_
        show Steps p.tables e below (T18.setTop (mkF m 75 #[.val (.int p0), .val (.int p1), .val (.int p2), .val (.int p3), .val (.int p4), .val (.int p5), .val (.int (f1 p0)), .val (.int (f1 p1)), .val (.int (f1 p2)), .val (.int (f1 p3)), .val (.int (f1 p4)), .val (.ref b6), .unset, .unset, .unset] [(.int ((p5.toUInt32 >>> ((2 : Int32) &&& 31).toUInt32).toInt32)), (.int (1 : Int32)), (.ref b6)])) _
        refine XS.bipush X18.here hx rfl (hb hby at_75) ?_
        show Steps p.tables e below (T18.setTop (mkF m 77 #[.val (.int p0), .val (.int p1), .val (.int p2), .val (.int p3), .val (.int p4), .val (.int p5), .val (.int (f1 p0)), .val (.int (f1 p1)), .val (.int (f1 p2)), .val (.int (f1 p3)), .val (.int (f1 p4)), .val (.ref b6), .unset, .unset, .unset] [(.int (19 : Int32)), (.int ((p5.toUInt32 >>> ((2 : Int32) &&& 31).toUInt32).toInt32)), (.int (1 : Int32)), (.ref b6)])) _
        refine XS.irem X18.here hx rfl (hb hby at_77) rfl (by decide) ?_
        show Steps p.tables e below (T18.setTop (mkF m 78 #[.val (.int p0), .val (.int p1), .val (.int p2), .val (.int p3), .val (.int p4), .val (.int p5), .val (.int (f1 p0)), .val (.int (f1 p1)), .val (.int (f1 p2)), .val (.int (f1 p3)), .val (.int (f1 p4)), .val (.ref b6), .unset, .unset, .unset] [(.int (((p5.toUInt32 >>> ((2 : Int32) &&& 31).toUInt32).toInt32) - (((p5.toUInt32 >>> ((2 : Int32) &&& 31).toUInt32).toInt32) / (19 : Int32)) * (19 : Int32))), (.int (1 : Int32)), (.ref b6)])) _
        refine XS.iadd X18.here hx rfl (hb hby at_78) rfl ?_
        show Steps p.tables e below (T18.setTop (mkF m 79 #[.val (.int p0), .val (.int p1), .val (.int p2), .val (.int p3), .val (.int p4), .val (.int p5), .val (.int (f1 p0)), .val (.int (f1 p1)), .val (.int (f1 p2)), .val (.int (f1 p3)), .val (.int (f1 p4)), .val (.ref b6), .unset, .unset, .unset] [(.int ((1 : Int32) + (((p5.toUInt32 >>> ((2 : Int32) &&& 31).toUInt32).toInt32) - (((p5.toUInt32 >>> ((2 : Int32) &&& 31).toUInt32).toInt32) / (19 : Int32)) * (19 : Int32)))), (.ref b6)])) _
        refine st130.trans ?_
        show Steps p.tables e below (T130.setTop (mkF m 82 #[.val (.int p0), .val (.int p1), .val (.int p2), .val (.int p3), .val (.int p4), .val (.int p5), .val (.int (f1 p0)), .val (.int (f1 p1)), .val (.int (f1 p2)), .val (.int (f1 p3)), .val (.int (f1 p4)), .val (.ref b6), .unset, .unset, .unset] [])) _
        refine XS.aload X130.here hx rfl (hb hby at_82) rfl rfl ?_
        show Steps p.tables e below (T130.setTop (mkF m 84 #[.val (.int p0), .val (.int p1), .val (.int p2), .val (.int p3), .val (.int p4), .val (.int p5), .val (.int (f1 p0)), .val (.int (f1 p1)), .val (.int (f1 p2)), .val (.int (f1 p3)), .val (.int (f1 p4)), .val (.ref b6), .unset, .unset, .unset] [(.ref b6)])) _
        refine st133.trans ?_
        show Steps p.tables e below (T133.setTop (mkF m 87 #[.val (.int p0), .val (.int p1), .val (.int p2), .val (.int p3), .val (.int p4), .val (.int p5), .val (.int (f1 p0)), .val (.int (f1 p1)), .val (.int (f1 p2)), .val (.int (f1 p3)), .val (.int (f1 p4)), .val (.ref b6), .unset, .unset, .unset] [])) _
        refine XS.iload X133.here hx rfl (hb hby at_87) rfl ?_
        show Steps p.tables e below (T133.setTop (mkF m 89 #[.val (.int p0), .val (.int p1), .val (.int p2), .val (.int p3), .val (.int p4), .val (.int p5), .val (.int (f1 p0)), .val (.int (f1 p1)), .val (.int (f1 p2)), .val (.int (f1 p3)), .val (.int (f1 p4)), .val (.ref b6), .unset, .unset, .unset] [(.int p5)])) _
        refine XS.iconst X133.here hx rfl (hb hby at_89) ?_
        show Steps p.tables e below (T133.setTop (mkF m 90 #[.val (.int p0), .val (.int p1), .val (.int p2), .val (.int p3), .val (.int p4), .val (.int p5), .val (.int (f1 p0)), .val (.int (f1 p1)), .val (.int (f1 p2)), .val (.int (f1 p3)), .val (.int (f1 p4)), .val (.ref b6), .unset, .unset, .unset] [(.int (2 : Int32)), (.int p5)])) _
        refine XS.iand X133.here hx rfl (hb hby at_90) rfl ?_
        exact kt)
    by_cases hc91_141 : (p5 &&& (2 : Int32)) = (0 : Int32)
    · have c143 := (c134.keep K133q (ninS ne_b6_r_o0_open_9 (ninS ne_b6_r_o0_active_9 nin0)))
      obtain ⟨cq142, kq142, q142a, q142b, q142c⟩ := isOf hZ rfl (c137.keep K133q)
      obtain ⟨_, _, ⟨T142, L142, k142, n142⟩, -, X142, ⟨Lc142, hQ142, l142, y142, z142⟩, st142⟩ := X133.virtualBack hx (y := (⟨"com/example/cardhost/cardhost/LogicalChannels", "isOpen", "(I)Z"⟩ : MethodName)) (z := (⟨"com/example/cardhost/cardhost/LogicalChannels", "isOpen", "(I)Z"⟩ : MethodName)) hown (mvT hZ (hw _ (List.mem_of_getElem? (i := 38) rfl))) (mvT hZ (hw _ (List.mem_of_getElem? (i := 39) rfl))) (notFace_of_selects (args := #[]) (mvT hZ (hw _ (List.mem_of_getElem? (i := 41) rfl)))) (mvT hZ (hw _ (List.mem_of_getElem? (i := 41) rfl))) (mvT hZ (hw _ (List.mem_of_getElem? (i := 40) rfl))) (by decide) (backOf (W := 0) (rm7 l Z a0 hw [] b6 (f1 p3) r_o0_open_9 (f6_r1_a (own_upd (own_upd (own_upd (own_upd (own_upd (fun _ => 0) 0 (1 : Int32)) ((f1 p0)).toNatClampNeg (1 : Int32)) ((f1 p1)).toNatClampNeg (1 : Int32)) ((f1 p2)).toNatClampNeg (1 : Int32)) (((1 : Int32) + (((p5.toUInt32 >>> ((2 : Int32) &&& 31).toUInt32).toInt32) - (((p5.toUInt32 >>> ((2 : Int32) &&& 31).toUInt32).toInt32) / (19 : Int32)) * (19 : Int32)))).toNatClampNeg (0 : Int32))) T133.heap n0 Z139 c143 G133_0 g_r_o0_open_9 (own_ch _)) hZ (hw _ (List.mem_of_getElem? (i := 42) rfl)) (hw _ (List.mem_of_getElem? (i := 7) rfl)) (by decide) (by decide)) q142a q142c (g := (mkF m 103 #[.val (.int p0), .val (.int p1), .val (.int p2), .val (.int p3), .val (.int p4), .val (.int p5), .val (.int (f1 p0)), .val (.int (f1 p1)), .val (.int (f1 p2)), .val (.int (f1 p3)), .val (.int (f1 p4)), .val (.ref b6), .unset, .unset, .unset] [(.int (f1 p3)), (.ref b6)])) rfl (by rw [hml]; rfl) (Steps.refl _) (argsL := [(.int (f1 p3))]) (rest := []) (lenOf pd_0_3 rfl) rfl (by show 2 * 0 + _ ≤ _; exact Nat.le_of_eq rfl) (hb hby at_103) (fun _ _ => ⟨rfl, rfl, (by decide : 4 + 0 ≤ _), (by decide : 63 + 0 ≤ _)⟩)
      dsimp only [Pt.U, Pt.locs, Pt.cells, Pt.slots] at X142 l142 y142 z142 st142 hQ142
      subst l142 y142 z142
      obtain ⟨rfl, N142q, e142q⟩ := hQ142
      have N142 := Fr.app N133 N142q
      have pre144 : ∀ t, Steps p.tables e below (T142.setTop (mkF m 108 #[.val (.int p0), .val (.int p1), .val (.int p2), .val (.int p3), .val (.int p4), .val (.int p5), .val (.int (f1 p0)), .val (.int (f1 p1)), .val (.int (f1 p2)), .val (.int (f1 p3)), .val (.int (f1 p4)), .val (.ref b6), .unset, .unset, .unset] [(.int (f1 p3)), (.int (nar .boolean ((f6_r1_a (own_upd (own_upd (own_upd (own_upd (own_upd (fun _ => 0) 0 (1 : Int32)) ((f1 p0)).toNatClampNeg (1 : Int32)) ((f1 p1)).toNatClampNeg (1 : Int32)) ((f1 p2)).toNatClampNeg (1 : Int32)) (((1 : Int32) + (((p5.toUInt32 >>> ((2 : Int32) &&& 31).toUInt32).toInt32) - (((p5.toUInt32 >>> ((2 : Int32) &&& 31).toUInt32).toInt32) / (19 : Int32)) * (19 : Int32)))).toNatClampNeg (0 : Int32))) ((f1 p3)).toNatClampNeg)))])) t → Steps p.tables e below (s₁.setTop (entryFrame m #[(.int p0), (.int p1), (.int p2), (.int p3), (.int p4), (.int p5)] maxLocals)) t := fun t kt => pre140 t (by
          show Steps p.tables e below (T133.setTop (mkF m 91 #[.val (.int p0), .val (.int p1), .val (.int p2), .val (.int p3), .val (.int p4), .val (.int p5), .val (.int (f1 p0)), .val (.int (f1 p1)), .val (.int (f1 p2)), .val (.int (f1 p3)), .val (.int (f1 p4)), .val (.ref b6), .unset, .unset, .unset] [(.int (p5 &&& (2 : Int32)))])) _
          refine XS.ifYes X133.here hx rfl (pc0 := 91) (pc' := 99) rfl (hb hby at_91) rfl ((if0 _ _).trans (teq hc91_141).1) (by decide) (by decide) ?_
          show Steps p.tables e below (T133.setTop (mkF m 99 #[.val (.int p0), .val (.int p1), .val (.int p2), .val (.int p3), .val (.int p4), .val (.int p5), .val (.int (f1 p0)), .val (.int (f1 p1)), .val (.int (f1 p2)), .val (.int (f1 p3)), .val (.int (f1 p4)), .val (.ref b6), .unset, .unset, .unset] [])) _
          refine XS.aload X133.here hx rfl (hb hby at_99) rfl rfl ?_
          show Steps p.tables e below (T133.setTop (mkF m 101 #[.val (.int p0), .val (.int p1), .val (.int p2), .val (.int p3), .val (.int p4), .val (.int p5), .val (.int (f1 p0)), .val (.int (f1 p1)), .val (.int (f1 p2)), .val (.int (f1 p3)), .val (.int (f1 p4)), .val (.ref b6), .unset, .unset, .unset] [(.ref b6)])) _
          refine XS.iload X133.here hx rfl (hb hby at_101) rfl ?_
          show Steps p.tables e below (T133.setTop (mkF m 103 #[.val (.int p0), .val (.int p1), .val (.int p2), .val (.int p3), .val (.int p4), .val (.int p5), .val (.int (f1 p0)), .val (.int (f1 p1)), .val (.int (f1 p2)), .val (.int (f1 p3)), .val (.int (f1 p4)), .val (.ref b6), .unset, .unset, .unset] [(.int (f1 p3)), (.ref b6)])) _
          refine st142.trans ?_
          show Steps p.tables e below (T142.setTop (mkF m 106 #[.val (.int p0), .val (.int p1), .val (.int p2), .val (.int p3), .val (.int p4), .val (.int p5), .val (.int (f1 p0)), .val (.int (f1 p1)), .val (.int (f1 p2)), .val (.int (f1 p3)), .val (.int (f1 p4)), .val (.ref b6), .unset, .unset, .unset] [(.int (nar .boolean ((f6_r1_a (own_upd (own_upd (own_upd (own_upd (own_upd (fun _ => 0) 0 (1 : Int32)) ((f1 p0)).toNatClampNeg (1 : Int32)) ((f1 p1)).toNatClampNeg (1 : Int32)) ((f1 p2)).toNatClampNeg (1 : Int32)) (((1 : Int32) + (((p5.toUInt32 >>> ((2 : Int32) &&& 31).toUInt32).toInt32) - (((p5.toUInt32 >>> ((2 : Int32) &&& 31).toUInt32).toInt32) / (19 : Int32)) * (19 : Int32)))).toNatClampNeg (0 : Int32))) ((f1 p3)).toNatClampNeg)))])) _
          refine XS.iload X142.here hx rfl (hb hby at_106) rfl ?_
          exact kt)
      by_cases hc108_145 : (f1 p3) = (0 : Int32)
      · have pre146 : ∀ t, Steps p.tables e below (T142.setTop (mkF m 116 #[.val (.int p0), .val (.int p1), .val (.int p2), .val (.int p3), .val (.int p4), .val (.int p5), .val (.int (f1 p0)), .val (.int (f1 p1)), .val (.int (f1 p2)), .val (.int (f1 p3)), .val (.int (f1 p4)), .val (.ref b6), .unset, .unset, .unset] [(.int (1 : Int32)), (.int (nar .boolean ((f6_r1_a (own_upd (own_upd (own_upd (own_upd (own_upd (fun _ => 0) 0 (1 : Int32)) ((f1 p0)).toNatClampNeg (1 : Int32)) ((f1 p1)).toNatClampNeg (1 : Int32)) ((f1 p2)).toNatClampNeg (1 : Int32)) (((1 : Int32) + (((p5.toUInt32 >>> ((2 : Int32) &&& 31).toUInt32).toInt32) - (((p5.toUInt32 >>> ((2 : Int32) &&& 31).toUInt32).toInt32) / (19 : Int32)) * (19 : Int32)))).toNatClampNeg (0 : Int32))) ((f1 p3)).toNatClampNeg)))])) t → Steps p.tables e below (s₁.setTop (entryFrame m #[(.int p0), (.int p1), (.int p2), (.int p3), (.int p4), (.int p5)] maxLocals)) t := fun t kt => pre144 t (by
            show Steps p.tables e below (T142.setTop (mkF m 108 #[.val (.int p0), .val (.int p1), .val (.int p2), .val (.int p3), .val (.int p4), .val (.int p5), .val (.int (f1 p0)), .val (.int (f1 p1)), .val (.int (f1 p2)), .val (.int (f1 p3)), .val (.int (f1 p4)), .val (.ref b6), .unset, .unset, .unset] [(.int (f1 p3)), (.int (nar .boolean ((f6_r1_a (own_upd (own_upd (own_upd (own_upd (own_upd (fun _ => 0) 0 (1 : Int32)) ((f1 p0)).toNatClampNeg (1 : Int32)) ((f1 p1)).toNatClampNeg (1 : Int32)) ((f1 p2)).toNatClampNeg (1 : Int32)) (((1 : Int32) + (((p5.toUInt32 >>> ((2 : Int32) &&& 31).toUInt32).toInt32) - (((p5.toUInt32 >>> ((2 : Int32) &&& 31).toUInt32).toInt32) / (19 : Int32)) * (19 : Int32)))).toNatClampNeg (0 : Int32))) ((f1 p3)).toNatClampNeg)))])) _
            refine XS.ifNo X142.here hx rfl (hb hby at_108) rfl ((if0 _ _).trans (teq hc108_145).2) ?_
            show Steps p.tables e below (T142.setTop (mkF m 111 #[.val (.int p0), .val (.int p1), .val (.int p2), .val (.int p3), .val (.int p4), .val (.int p5), .val (.int (f1 p0)), .val (.int (f1 p1)), .val (.int (f1 p2)), .val (.int (f1 p3)), .val (.int (f1 p4)), .val (.ref b6), .unset, .unset, .unset] [(.int (nar .boolean ((f6_r1_a (own_upd (own_upd (own_upd (own_upd (own_upd (fun _ => 0) 0 (1 : Int32)) ((f1 p0)).toNatClampNeg (1 : Int32)) ((f1 p1)).toNatClampNeg (1 : Int32)) ((f1 p2)).toNatClampNeg (1 : Int32)) (((1 : Int32) + (((p5.toUInt32 >>> ((2 : Int32) &&& 31).toUInt32).toInt32) - (((p5.toUInt32 >>> ((2 : Int32) &&& 31).toUInt32).toInt32) / (19 : Int32)) * (19 : Int32)))).toNatClampNeg (0 : Int32))) ((f1 p3)).toNatClampNeg)))])) _
            refine XS.iconst X142.here hx rfl (hb hby at_111) ?_
            show Steps p.tables e below (T142.setTop (mkF m 112 #[.val (.int p0), .val (.int p1), .val (.int p2), .val (.int p3), .val (.int p4), .val (.int p5), .val (.int (f1 p0)), .val (.int (f1 p1)), .val (.int (f1 p2)), .val (.int (f1 p3)), .val (.int (f1 p4)), .val (.ref b6), .unset, .unset, .unset] [(.int (1 : Int32)), (.int (nar .boolean ((f6_r1_a (own_upd (own_upd (own_upd (own_upd (own_upd (fun _ => 0) 0 (1 : Int32)) ((f1 p0)).toNatClampNeg (1 : Int32)) ((f1 p1)).toNatClampNeg (1 : Int32)) ((f1 p2)).toNatClampNeg (1 : Int32)) (((1 : Int32) + (((p5.toUInt32 >>> ((2 : Int32) &&& 31).toUInt32).toInt32) - (((p5.toUInt32 >>> ((2 : Int32) &&& 31).toUInt32).toInt32) / (19 : Int32)) * (19 : Int32)))).toNatClampNeg (0 : Int32))) ((f1 p3)).toNatClampNeg)))])) _
            refine XS.goto X142.here hx rfl (pc0 := 112) (pc' := 116) rfl (hb hby at_112) (by decide) (by decide) ?_
            exact kt)
        have hd116_147 : (nar .boolean ((f6_r1_a (own_upd (own_upd (own_upd (own_upd (own_upd (fun _ => 0) 0 (1 : Int32)) ((f1 p0)).toNatClampNeg (1 : Int32)) ((f1 p1)).toNatClampNeg (1 : Int32)) ((f1 p2)).toNatClampNeg (1 : Int32)) (((1 : Int32) + (((p5.toUInt32 >>> ((2 : Int32) &&& 31).toUInt32).toInt32) - (((p5.toUInt32 >>> ((2 : Int32) &&& 31).toUInt32).toInt32) / (19 : Int32)) * (19 : Int32)))).toNatClampNeg (0 : Int32))) ((f1 p3)).toNatClampNeg)) = (1 : Int32) := own_is0 _ (own_ch _) hc108_145
        obtain ⟨cq148, kq148, q148a, q148b, q148c⟩ := isOf hZ e142q (c137.keep K133q)
        obtain ⟨_, _, ⟨T148, L148, k148, n148⟩, -, X148, ⟨Lc148, hQ148, l148, y148, z148⟩, st148⟩ := X142.virtualBack hx (y := (⟨"com/example/cardhost/cardhost/LogicalChannels", "isOpen", "(I)Z"⟩ : MethodName)) (z := (⟨"com/example/cardhost/cardhost/LogicalChannels", "isOpen", "(I)Z"⟩ : MethodName)) hown (mvT hZ (hw _ (List.mem_of_getElem? (i := 38) rfl))) (mvT hZ (hw _ (List.mem_of_getElem? (i := 39) rfl))) (notFace_of_selects (args := #[]) (mvT hZ (hw _ (List.mem_of_getElem? (i := 41) rfl)))) (mvT hZ (hw _ (List.mem_of_getElem? (i := 41) rfl))) (mvT hZ (hw _ (List.mem_of_getElem? (i := 40) rfl))) (by decide) (backOf (W := 0) (rm7 l Z a0 hw [] b6 (f1 p4) r_o0_open_9 (f6_r1_a (own_upd (own_upd (own_upd (own_upd (own_upd (fun _ => 0) 0 (1 : Int32)) ((f1 p0)).toNatClampNeg (1 : Int32)) ((f1 p1)).toNatClampNeg (1 : Int32)) ((f1 p2)).toNatClampNeg (1 : Int32)) (((1 : Int32) + (((p5.toUInt32 >>> ((2 : Int32) &&& 31).toUInt32).toInt32) - (((p5.toUInt32 >>> ((2 : Int32) &&& 31).toUInt32).toInt32) / (19 : Int32)) * (19 : Int32)))).toNatClampNeg (0 : Int32))) T133.heap n0 Z139 c143 G133_0 g_r_o0_open_9 (own_ch _)) hZ (hw _ (List.mem_of_getElem? (i := 42) rfl)) (hw _ (List.mem_of_getElem? (i := 7) rfl)) (by decide) (by decide)) q148a q148c (g := (mkF m 130 #[.val (.int p0), .val (.int p1), .val (.int p2), .val (.int p3), .val (.int p4), .val (.int p5), .val (.int (f1 p0)), .val (.int (f1 p1)), .val (.int (f1 p2)), .val (.int (f1 p3)), .val (.int (f1 p4)), .val (.ref b6), .val (.int (1 : Int32)), .unset, .unset] [(.int (f1 p4)), (.ref b6)])) rfl (by rw [hml]; rfl) (Steps.refl _) (argsL := [(.int (f1 p4))]) (rest := []) (lenOf pd_0_3 rfl) rfl (by show 2 * 0 + _ ≤ _; exact Nat.le_of_eq rfl) (hb hby at_130) (fun _ _ => ⟨rfl, e142q, (by decide : 4 + 0 ≤ _), (by decide : 63 + 0 ≤ _)⟩)
        dsimp only [Pt.U, Pt.locs, Pt.cells, Pt.slots] at X148 l148 y148 z148 st148 hQ148
        subst l148 y148 z148
        obtain ⟨rfl, N148q, e148q⟩ := hQ148
        have N148 := Fr.app N142 N148q
        have pre149 : ∀ t, Steps p.tables e below (T148.setTop (mkF m 135 #[.val (.int p0), .val (.int p1), .val (.int p2), .val (.int p3), .val (.int p4), .val (.int p5), .val (.int (f1 p0)), .val (.int (f1 p1)), .val (.int (f1 p2)), .val (.int (f1 p3)), .val (.int (f1 p4)), .val (.ref b6), .val (.int (1 : Int32)), .unset, .unset] [(.int (f1 p4)), (.int (nar .boolean ((f6_r1_a (own_upd (own_upd (own_upd (own_upd (own_upd (fun _ => 0) 0 (1 : Int32)) ((f1 p0)).toNatClampNeg (1 : Int32)) ((f1 p1)).toNatClampNeg (1 : Int32)) ((f1 p2)).toNatClampNeg (1 : Int32)) (((1 : Int32) + (((p5.toUInt32 >>> ((2 : Int32) &&& 31).toUInt32).toInt32) - (((p5.toUInt32 >>> ((2 : Int32) &&& 31).toUInt32).toInt32) / (19 : Int32)) * (19 : Int32)))).toNatClampNeg (0 : Int32))) ((f1 p4)).toNatClampNeg)))])) t → Steps p.tables e below (s₁.setTop (entryFrame m #[(.int p0), (.int p1), (.int p2), (.int p3), (.int p4), (.int p5)] maxLocals)) t := fun t kt => pre146 t (by
            show Steps p.tables e below (T142.setTop (mkF m 116 #[.val (.int p0), .val (.int p1), .val (.int p2), .val (.int p3), .val (.int p4), .val (.int p5), .val (.int (f1 p0)), .val (.int (f1 p1)), .val (.int (f1 p2)), .val (.int (f1 p3)), .val (.int (f1 p4)), .val (.ref b6), .unset, .unset, .unset] [(.int (1 : Int32)), (.int (nar .boolean ((f6_r1_a (own_upd (own_upd (own_upd (own_upd (own_upd (fun _ => 0) 0 (1 : Int32)) ((f1 p0)).toNatClampNeg (1 : Int32)) ((f1 p1)).toNatClampNeg (1 : Int32)) ((f1 p2)).toNatClampNeg (1 : Int32)) (((1 : Int32) + (((p5.toUInt32 >>> ((2 : Int32) &&& 31).toUInt32).toInt32) - (((p5.toUInt32 >>> ((2 : Int32) &&& 31).toUInt32).toInt32) / (19 : Int32)) * (19 : Int32)))).toNatClampNeg (0 : Int32))) ((f1 p3)).toNatClampNeg)))])) _
            refine XS.icmpNo X142.here hx rfl (hb hby at_116) rfl (teq hd116_147).2 ?_
            show Steps p.tables e below (T142.setTop (mkF m 119 #[.val (.int p0), .val (.int p1), .val (.int p2), .val (.int p3), .val (.int p4), .val (.int p5), .val (.int (f1 p0)), .val (.int (f1 p1)), .val (.int (f1 p2)), .val (.int (f1 p3)), .val (.int (f1 p4)), .val (.ref b6), .unset, .unset, .unset] [])) _
            refine XS.iconst X142.here hx rfl (hb hby at_119) ?_
            show Steps p.tables e below (T142.setTop (mkF m 120 #[.val (.int p0), .val (.int p1), .val (.int p2), .val (.int p3), .val (.int p4), .val (.int p5), .val (.int (f1 p0)), .val (.int (f1 p1)), .val (.int (f1 p2)), .val (.int (f1 p3)), .val (.int (f1 p4)), .val (.ref b6), .unset, .unset, .unset] [(.int (1 : Int32))])) _
            refine XS.goto X142.here hx rfl (pc0 := 120) (pc' := 124) rfl (hb hby at_120) (by decide) (by decide) ?_
            show Steps p.tables e below (T142.setTop (mkF m 124 #[.val (.int p0), .val (.int p1), .val (.int p2), .val (.int p3), .val (.int p4), .val (.int p5), .val (.int (f1 p0)), .val (.int (f1 p1)), .val (.int (f1 p2)), .val (.int (f1 p3)), .val (.int (f1 p4)), .val (.ref b6), .unset, .unset, .unset] [(.int (1 : Int32))])) _
            refine XS.istore X142.here hx rfl (hb hby at_124) rfl (l' := #[.val (.int p0), .val (.int p1), .val (.int p2), .val (.int p3), .val (.int p4), .val (.int p5), .val (.int (f1 p0)), .val (.int (f1 p1)), .val (.int (f1 p2)), .val (.int (f1 p3)), .val (.int (f1 p4)), .val (.ref b6), .val (.int (1 : Int32)), .unset, .unset]) rfl ?_
            show Steps p.tables e below (T142.setTop (mkF m 126 #[.val (.int p0), .val (.int p1), .val (.int p2), .val (.int p3), .val (.int p4), .val (.int p5), .val (.int (f1 p0)), .val (.int (f1 p1)), .val (.int (f1 p2)), .val (.int (f1 p3)), .val (.int (f1 p4)), .val (.ref b6), .val (.int (1 : Int32)), .unset, .unset] [])) _
            refine XS.aload X142.here hx rfl (hb hby at_126) rfl rfl ?_
            show Steps p.tables e below (T142.setTop (mkF m 128 #[.val (.int p0), .val (.int p1), .val (.int p2), .val (.int p3), .val (.int p4), .val (.int p5), .val (.int (f1 p0)), .val (.int (f1 p1)), .val (.int (f1 p2)), .val (.int (f1 p3)), .val (.int (f1 p4)), .val (.ref b6), .val (.int (1 : Int32)), .unset, .unset] [(.ref b6)])) _
            refine XS.iload X142.here hx rfl (hb hby at_128) rfl ?_
            show Steps p.tables e below (T142.setTop (mkF m 130 #[.val (.int p0), .val (.int p1), .val (.int p2), .val (.int p3), .val (.int p4), .val (.int p5), .val (.int (f1 p0)), .val (.int (f1 p1)), .val (.int (f1 p2)), .val (.int (f1 p3)), .val (.int (f1 p4)), .val (.ref b6), .val (.int (1 : Int32)), .unset, .unset] [(.int (f1 p4)), (.ref b6)])) _
            refine st148.trans ?_
            show Steps p.tables e below (T148.setTop (mkF m 133 #[.val (.int p0), .val (.int p1), .val (.int p2), .val (.int p3), .val (.int p4), .val (.int p5), .val (.int (f1 p0)), .val (.int (f1 p1)), .val (.int (f1 p2)), .val (.int (f1 p3)), .val (.int (f1 p4)), .val (.ref b6), .val (.int (1 : Int32)), .unset, .unset] [(.int (nar .boolean ((f6_r1_a (own_upd (own_upd (own_upd (own_upd (own_upd (fun _ => 0) 0 (1 : Int32)) ((f1 p0)).toNatClampNeg (1 : Int32)) ((f1 p1)).toNatClampNeg (1 : Int32)) ((f1 p2)).toNatClampNeg (1 : Int32)) (((1 : Int32) + (((p5.toUInt32 >>> ((2 : Int32) &&& 31).toUInt32).toInt32) - (((p5.toUInt32 >>> ((2 : Int32) &&& 31).toUInt32).toInt32) / (19 : Int32)) * (19 : Int32)))).toNatClampNeg (0 : Int32))) ((f1 p4)).toNatClampNeg)))])) _
            refine XS.iload X148.here hx rfl (hb hby at_133) rfl ?_
            exact kt)
        by_cases hc135_150 : (f1 p4) = (0 : Int32)
        · have pre151 : ∀ t, Steps p.tables e below (T148.setTop (mkF m 143 #[.val (.int p0), .val (.int p1), .val (.int p2), .val (.int p3), .val (.int p4), .val (.int p5), .val (.int (f1 p0)), .val (.int (f1 p1)), .val (.int (f1 p2)), .val (.int (f1 p3)), .val (.int (f1 p4)), .val (.ref b6), .val (.int (1 : Int32)), .unset, .unset] [(.int (1 : Int32)), (.int (nar .boolean ((f6_r1_a (own_upd (own_upd (own_upd (own_upd (own_upd (fun _ => 0) 0 (1 : Int32)) ((f1 p0)).toNatClampNeg (1 : Int32)) ((f1 p1)).toNatClampNeg (1 : Int32)) ((f1 p2)).toNatClampNeg (1 : Int32)) (((1 : Int32) + (((p5.toUInt32 >>> ((2 : Int32) &&& 31).toUInt32).toInt32) - (((p5.toUInt32 >>> ((2 : Int32) &&& 31).toUInt32).toInt32) / (19 : Int32)) * (19 : Int32)))).toNatClampNeg (0 : Int32))) ((f1 p4)).toNatClampNeg)))])) t → Steps p.tables e below (s₁.setTop (entryFrame m #[(.int p0), (.int p1), (.int p2), (.int p3), (.int p4), (.int p5)] maxLocals)) t := fun t kt => pre149 t (by
              show Steps p.tables e below (T148.setTop (mkF m 135 #[.val (.int p0), .val (.int p1), .val (.int p2), .val (.int p3), .val (.int p4), .val (.int p5), .val (.int (f1 p0)), .val (.int (f1 p1)), .val (.int (f1 p2)), .val (.int (f1 p3)), .val (.int (f1 p4)), .val (.ref b6), .val (.int (1 : Int32)), .unset, .unset] [(.int (f1 p4)), (.int (nar .boolean ((f6_r1_a (own_upd (own_upd (own_upd (own_upd (own_upd (fun _ => 0) 0 (1 : Int32)) ((f1 p0)).toNatClampNeg (1 : Int32)) ((f1 p1)).toNatClampNeg (1 : Int32)) ((f1 p2)).toNatClampNeg (1 : Int32)) (((1 : Int32) + (((p5.toUInt32 >>> ((2 : Int32) &&& 31).toUInt32).toInt32) - (((p5.toUInt32 >>> ((2 : Int32) &&& 31).toUInt32).toInt32) / (19 : Int32)) * (19 : Int32)))).toNatClampNeg (0 : Int32))) ((f1 p4)).toNatClampNeg)))])) _
              refine XS.ifNo X148.here hx rfl (hb hby at_135) rfl ((if0 _ _).trans (teq hc135_150).2) ?_
              show Steps p.tables e below (T148.setTop (mkF m 138 #[.val (.int p0), .val (.int p1), .val (.int p2), .val (.int p3), .val (.int p4), .val (.int p5), .val (.int (f1 p0)), .val (.int (f1 p1)), .val (.int (f1 p2)), .val (.int (f1 p3)), .val (.int (f1 p4)), .val (.ref b6), .val (.int (1 : Int32)), .unset, .unset] [(.int (nar .boolean ((f6_r1_a (own_upd (own_upd (own_upd (own_upd (own_upd (fun _ => 0) 0 (1 : Int32)) ((f1 p0)).toNatClampNeg (1 : Int32)) ((f1 p1)).toNatClampNeg (1 : Int32)) ((f1 p2)).toNatClampNeg (1 : Int32)) (((1 : Int32) + (((p5.toUInt32 >>> ((2 : Int32) &&& 31).toUInt32).toInt32) - (((p5.toUInt32 >>> ((2 : Int32) &&& 31).toUInt32).toInt32) / (19 : Int32)) * (19 : Int32)))).toNatClampNeg (0 : Int32))) ((f1 p4)).toNatClampNeg)))])) _
              refine XS.iconst X148.here hx rfl (hb hby at_138) ?_
              show Steps p.tables e below (T148.setTop (mkF m 139 #[.val (.int p0), .val (.int p1), .val (.int p2), .val (.int p3), .val (.int p4), .val (.int p5), .val (.int (f1 p0)), .val (.int (f1 p1)), .val (.int (f1 p2)), .val (.int (f1 p3)), .val (.int (f1 p4)), .val (.ref b6), .val (.int (1 : Int32)), .unset, .unset] [(.int (1 : Int32)), (.int (nar .boolean ((f6_r1_a (own_upd (own_upd (own_upd (own_upd (own_upd (fun _ => 0) 0 (1 : Int32)) ((f1 p0)).toNatClampNeg (1 : Int32)) ((f1 p1)).toNatClampNeg (1 : Int32)) ((f1 p2)).toNatClampNeg (1 : Int32)) (((1 : Int32) + (((p5.toUInt32 >>> ((2 : Int32) &&& 31).toUInt32).toInt32) - (((p5.toUInt32 >>> ((2 : Int32) &&& 31).toUInt32).toInt32) / (19 : Int32)) * (19 : Int32)))).toNatClampNeg (0 : Int32))) ((f1 p4)).toNatClampNeg)))])) _
              refine XS.goto X148.here hx rfl (pc0 := 139) (pc' := 143) rfl (hb hby at_139) (by decide) (by decide) ?_
              exact kt)
          have hd143_152 : (nar .boolean ((f6_r1_a (own_upd (own_upd (own_upd (own_upd (own_upd (fun _ => 0) 0 (1 : Int32)) ((f1 p0)).toNatClampNeg (1 : Int32)) ((f1 p1)).toNatClampNeg (1 : Int32)) ((f1 p2)).toNatClampNeg (1 : Int32)) (((1 : Int32) + (((p5.toUInt32 >>> ((2 : Int32) &&& 31).toUInt32).toInt32) - (((p5.toUInt32 >>> ((2 : Int32) &&& 31).toUInt32).toInt32) / (19 : Int32)) * (19 : Int32)))).toNatClampNeg (0 : Int32))) ((f1 p4)).toNatClampNeg)) = (1 : Int32) := own_is0 _ (own_ch _) hc135_150
          obtain ⟨cq153, kq153, q153a, q153b, q153c⟩ := isOf hZ e148q (c137.keep K133q)
          obtain ⟨_, _, ⟨T153, L153, k153, n153⟩, -, X153, ⟨Lc153, hQ153, l153, y153, z153⟩, st153⟩ := X148.virtualBack hx (y := (⟨"com/example/cardhost/cardhost/LogicalChannels", "lowestClosed", "()I"⟩ : MethodName)) (z := (⟨"com/example/cardhost/cardhost/LogicalChannels", "lowestClosed", "()I"⟩ : MethodName)) hown (mvT hZ (hw _ (List.mem_of_getElem? (i := 43) rfl))) (mvT hZ (hw _ (List.mem_of_getElem? (i := 44) rfl))) (notFace_of_selects (args := #[]) (mvT hZ (hw _ (List.mem_of_getElem? (i := 46) rfl)))) (mvT hZ (hw _ (List.mem_of_getElem? (i := 46) rfl))) (mvT hZ (hw _ (List.mem_of_getElem? (i := 45) rfl))) (by decide) (backOf (W := 0) (rm8 l Z a0 hw [] b6 r_o0_open_9 (f6_r1_a (own_upd (own_upd (own_upd (own_upd (own_upd (fun _ => 0) 0 (1 : Int32)) ((f1 p0)).toNatClampNeg (1 : Int32)) ((f1 p1)).toNatClampNeg (1 : Int32)) ((f1 p2)).toNatClampNeg (1 : Int32)) (((1 : Int32) + (((p5.toUInt32 >>> ((2 : Int32) &&& 31).toUInt32).toInt32) - (((p5.toUInt32 >>> ((2 : Int32) &&& 31).toUInt32).toInt32) / (19 : Int32)) * (19 : Int32)))).toNatClampNeg (0 : Int32))) T133.heap n0 Z139 c143 G133_0 g_r_o0_open_9) hZ (hw _ (List.mem_of_getElem? (i := 47) rfl)) (hw _ (List.mem_of_getElem? (i := 7) rfl)) (by decide) (by decide)) q153a q153c (g := (mkF m 155 #[.val (.int p0), .val (.int p1), .val (.int p2), .val (.int p3), .val (.int p4), .val (.int p5), .val (.int (f1 p0)), .val (.int (f1 p1)), .val (.int (f1 p2)), .val (.int (f1 p3)), .val (.int (f1 p4)), .val (.ref b6), .val (.int (1 : Int32)), .val (.int (1 : Int32)), .unset] [(.ref b6)])) rfl (by rw [hml]; rfl) (Steps.refl _) (argsL := []) (rest := []) (lenOf pd_0_4 rfl) rfl (by show 2 * 0 + _ ≤ _; exact Nat.le_of_eq rfl) (hb hby at_155) (fun _ _ => ⟨rfl, e148q, (by decide : 4 + 0 ≤ _), (by decide : 63 + 0 ≤ _)⟩)
          dsimp only [Pt.U, Pt.locs, Pt.cells, Pt.slots] at X153 l153 y153 z153 st153 hQ153
          subst l153 y153 z153
          obtain ⟨rfl, N153q, e153q⟩ := hQ153
          have N153 := Fr.app N148 N153q
          have pre154 : ∀ t, Steps p.tables e below (T153.setTop (mkF m 159 #[.val (.int p0), .val (.int p1), .val (.int p2), .val (.int p3), .val (.int p4), .val (.int p5), .val (.int (f1 p0)), .val (.int (f1 p1)), .val (.int (f1 p2)), .val (.int (f1 p3)), .val (.int (f1 p4)), .val (.ref b6), .val (.int (1 : Int32)), .val (.int (1 : Int32)), .unset] [(.int (1 : Int32)), (.int (f8 (f6_r1_a (own_upd (own_upd (own_upd (own_upd (own_upd (fun _ => 0) 0 (1 : Int32)) ((f1 p0)).toNatClampNeg (1 : Int32)) ((f1 p1)).toNatClampNeg (1 : Int32)) ((f1 p2)).toNatClampNeg (1 : Int32)) (((1 : Int32) + (((p5.toUInt32 >>> ((2 : Int32) &&& 31).toUInt32).toInt32) - (((p5.toUInt32 >>> ((2 : Int32) &&& 31).toUInt32).toInt32) / (19 : Int32)) * (19 : Int32)))).toNatClampNeg (0 : Int32)))))])) t → Steps p.tables e below (s₁.setTop (entryFrame m #[(.int p0), (.int p1), (.int p2), (.int p3), (.int p4), (.int p5)] maxLocals)) t := fun t kt => pre151 t (by
              show Steps p.tables e below (T148.setTop (mkF m 143 #[.val (.int p0), .val (.int p1), .val (.int p2), .val (.int p3), .val (.int p4), .val (.int p5), .val (.int (f1 p0)), .val (.int (f1 p1)), .val (.int (f1 p2)), .val (.int (f1 p3)), .val (.int (f1 p4)), .val (.ref b6), .val (.int (1 : Int32)), .unset, .unset] [(.int (1 : Int32)), (.int (nar .boolean ((f6_r1_a (own_upd (own_upd (own_upd (own_upd (own_upd (fun _ => 0) 0 (1 : Int32)) ((f1 p0)).toNatClampNeg (1 : Int32)) ((f1 p1)).toNatClampNeg (1 : Int32)) ((f1 p2)).toNatClampNeg (1 : Int32)) (((1 : Int32) + (((p5.toUInt32 >>> ((2 : Int32) &&& 31).toUInt32).toInt32) - (((p5.toUInt32 >>> ((2 : Int32) &&& 31).toUInt32).toInt32) / (19 : Int32)) * (19 : Int32)))).toNatClampNeg (0 : Int32))) ((f1 p4)).toNatClampNeg)))])) _
              refine XS.icmpNo X148.here hx rfl (hb hby at_143) rfl (teq hd143_152).2 ?_
              show Steps p.tables e below (T148.setTop (mkF m 146 #[.val (.int p0), .val (.int p1), .val (.int p2), .val (.int p3), .val (.int p4), .val (.int p5), .val (.int (f1 p0)), .val (.int (f1 p1)), .val (.int (f1 p2)), .val (.int (f1 p3)), .val (.int (f1 p4)), .val (.ref b6), .val (.int (1 : Int32)), .unset, .unset] [])) _
              refine XS.iconst X148.here hx rfl (hb hby at_146) ?_
              show Steps p.tables e below (T148.setTop (mkF m 147 #[.val (.int p0), .val (.int p1), .val (.int p2), .val (.int p3), .val (.int p4), .val (.int p5), .val (.int (f1 p0)), .val (.int (f1 p1)), .val (.int (f1 p2)), .val (.int (f1 p3)), .val (.int (f1 p4)), .val (.ref b6), .val (.int (1 : Int32)), .unset, .unset] [(.int (1 : Int32))])) _
              refine XS.goto X148.here hx rfl (pc0 := 147) (pc' := 151) rfl (hb hby at_147) (by decide) (by decide) ?_
              show Steps p.tables e below (T148.setTop (mkF m 151 #[.val (.int p0), .val (.int p1), .val (.int p2), .val (.int p3), .val (.int p4), .val (.int p5), .val (.int (f1 p0)), .val (.int (f1 p1)), .val (.int (f1 p2)), .val (.int (f1 p3)), .val (.int (f1 p4)), .val (.ref b6), .val (.int (1 : Int32)), .unset, .unset] [(.int (1 : Int32))])) _
              refine XS.istore X148.here hx rfl (hb hby at_151) rfl (l' := #[.val (.int p0), .val (.int p1), .val (.int p2), .val (.int p3), .val (.int p4), .val (.int p5), .val (.int (f1 p0)), .val (.int (f1 p1)), .val (.int (f1 p2)), .val (.int (f1 p3)), .val (.int (f1 p4)), .val (.ref b6), .val (.int (1 : Int32)), .val (.int (1 : Int32)), .unset]) rfl ?_
              show Steps p.tables e below (T148.setTop (mkF m 153 #[.val (.int p0), .val (.int p1), .val (.int p2), .val (.int p3), .val (.int p4), .val (.int p5), .val (.int (f1 p0)), .val (.int (f1 p1)), .val (.int (f1 p2)), .val (.int (f1 p3)), .val (.int (f1 p4)), .val (.ref b6), .val (.int (1 : Int32)), .val (.int (1 : Int32)), .unset] [])) _
              refine XS.aload X148.here hx rfl (hb hby at_153) rfl rfl ?_
              show Steps p.tables e below (T148.setTop (mkF m 155 #[.val (.int p0), .val (.int p1), .val (.int p2), .val (.int p3), .val (.int p4), .val (.int p5), .val (.int (f1 p0)), .val (.int (f1 p1)), .val (.int (f1 p2)), .val (.int (f1 p3)), .val (.int (f1 p4)), .val (.ref b6), .val (.int (1 : Int32)), .val (.int (1 : Int32)), .unset] [(.ref b6)])) _
              refine st153.trans ?_
              show Steps p.tables e below (T153.setTop (mkF m 158 #[.val (.int p0), .val (.int p1), .val (.int p2), .val (.int p3), .val (.int p4), .val (.int p5), .val (.int (f1 p0)), .val (.int (f1 p1)), .val (.int (f1 p2)), .val (.int (f1 p3)), .val (.int (f1 p4)), .val (.ref b6), .val (.int (1 : Int32)), .val (.int (1 : Int32)), .unset] [(.int (f8 (f6_r1_a (own_upd (own_upd (own_upd (own_upd (own_upd (fun _ => 0) 0 (1 : Int32)) ((f1 p0)).toNatClampNeg (1 : Int32)) ((f1 p1)).toNatClampNeg (1 : Int32)) ((f1 p2)).toNatClampNeg (1 : Int32)) (((1 : Int32) + (((p5.toUInt32 >>> ((2 : Int32) &&& 31).toUInt32).toInt32) - (((p5.toUInt32 >>> ((2 : Int32) &&& 31).toUInt32).toInt32) / (19 : Int32)) * (19 : Int32)))).toNatClampNeg (0 : Int32)))))])) _
              refine XS.iconst X153.here hx rfl (hb hby at_158) ?_
              exact kt)
          have hd159_155 : (f8 (f6_r1_a (own_upd (own_upd (own_upd (own_upd (own_upd (fun _ => 0) 0 (1 : Int32)) ((f1 p0)).toNatClampNeg (1 : Int32)) ((f1 p1)).toNatClampNeg (1 : Int32)) ((f1 p2)).toNatClampNeg (1 : Int32)) (((1 : Int32) + (((p5.toUInt32 >>> ((2 : Int32) &&& 31).toUInt32).toInt32) - (((p5.toUInt32 >>> ((2 : Int32) &&& 31).toUInt32).toInt32) / (19 : Int32)) * (19 : Int32)))).toNatClampNeg (0 : Int32)))) = (1 : Int32) := own_lc _
          have pre156 : ∀ t, Steps p.tables e below (T153.setTop (mkF m 171 #[.val (.int p0), .val (.int p1), .val (.int p2), .val (.int p3), .val (.int p4), .val (.int p5), .val (.int (f1 p0)), .val (.int (f1 p1)), .val (.int (f1 p2)), .val (.int (f1 p3)), .val (.int (f1 p4)), .val (.ref b6), .val (.int (1 : Int32)), .val (.int (1 : Int32)), .val (.int (1 : Int32))] [(.int (1 : Int32))])) t → Steps p.tables e below (s₁.setTop (entryFrame m #[(.int p0), (.int p1), (.int p2), (.int p3), (.int p4), (.int p5)] maxLocals)) t := fun t kt => pre154 t (by
              show Steps p.tables e below (T153.setTop (mkF m 159 #[.val (.int p0), .val (.int p1), .val (.int p2), .val (.int p3), .val (.int p4), .val (.int p5), .val (.int (f1 p0)), .val (.int (f1 p1)), .val (.int (f1 p2)), .val (.int (f1 p3)), .val (.int (f1 p4)), .val (.ref b6), .val (.int (1 : Int32)), .val (.int (1 : Int32)), .unset] [(.int (1 : Int32)), (.int (f8 (f6_r1_a (own_upd (own_upd (own_upd (own_upd (own_upd (fun _ => 0) 0 (1 : Int32)) ((f1 p0)).toNatClampNeg (1 : Int32)) ((f1 p1)).toNatClampNeg (1 : Int32)) ((f1 p2)).toNatClampNeg (1 : Int32)) (((1 : Int32) + (((p5.toUInt32 >>> ((2 : Int32) &&& 31).toUInt32).toInt32) - (((p5.toUInt32 >>> ((2 : Int32) &&& 31).toUInt32).toInt32) / (19 : Int32)) * (19 : Int32)))).toNatClampNeg (0 : Int32)))))])) _
              refine XS.icmpNo X153.here hx rfl (hb hby at_159) rfl (teq hd159_155).2 ?_
              show Steps p.tables e below (T153.setTop (mkF m 162 #[.val (.int p0), .val (.int p1), .val (.int p2), .val (.int p3), .val (.int p4), .val (.int p5), .val (.int (f1 p0)), .val (.int (f1 p1)), .val (.int (f1 p2)), .val (.int (f1 p3)), .val (.int (f1 p4)), .val (.ref b6), .val (.int (1 : Int32)), .val (.int (1 : Int32)), .unset] [])) _
              refine XS.iconst X153.here hx rfl (hb hby at_162) ?_
              show Steps p.tables e below (T153.setTop (mkF m 163 #[.val (.int p0), .val (.int p1), .val (.int p2), .val (.int p3), .val (.int p4), .val (.int p5), .val (.int (f1 p0)), .val (.int (f1 p1)), .val (.int (f1 p2)), .val (.int (f1 p3)), .val (.int (f1 p4)), .val (.ref b6), .val (.int (1 : Int32)), .val (.int (1 : Int32)), .unset] [(.int (1 : Int32))])) _
              refine XS.goto X153.here hx rfl (pc0 := 163) (pc' := 167) rfl (hb hby at_163) (by decide) (by decide) ?_
              show Steps p.tables e below (T153.setTop (mkF m 167 #[.val (.int p0), .val (.int p1), .val (.int p2), .val (.int p3), .val (.int p4), .val (.int p5), .val (.int (f1 p0)), .val (.int (f1 p1)), .val (.int (f1 p2)), .val (.int (f1 p3)), .val (.int (f1 p4)), .val (.ref b6), .val (.int (1 : Int32)), .val (.int (1 : Int32)), .unset] [(.int (1 : Int32))])) _
              refine XS.istore X153.here hx rfl (hb hby at_167) rfl (l' := #[.val (.int p0), .val (.int p1), .val (.int p2), .val (.int p3), .val (.int p4), .val (.int p5), .val (.int (f1 p0)), .val (.int (f1 p1)), .val (.int (f1 p2)), .val (.int (f1 p3)), .val (.int (f1 p4)), .val (.ref b6), .val (.int (1 : Int32)), .val (.int (1 : Int32)), .val (.int (1 : Int32))]) rfl ?_
              show Steps p.tables e below (T153.setTop (mkF m 169 #[.val (.int p0), .val (.int p1), .val (.int p2), .val (.int p3), .val (.int p4), .val (.int p5), .val (.int (f1 p0)), .val (.int (f1 p1)), .val (.int (f1 p2)), .val (.int (f1 p3)), .val (.int (f1 p4)), .val (.ref b6), .val (.int (1 : Int32)), .val (.int (1 : Int32)), .val (.int (1 : Int32))] [])) _
              refine XS.iload X153.here hx rfl (hb hby at_169) rfl ?_
              exact kt)
          have pre157 : ∀ t, Steps p.tables e below (T153.setTop (mkF m 176 #[.val (.int p0), .val (.int p1), .val (.int p2), .val (.int p3), .val (.int p4), .val (.int p5), .val (.int (f1 p0)), .val (.int (f1 p1)), .val (.int (f1 p2)), .val (.int (f1 p3)), .val (.int (f1 p4)), .val (.ref b6), .val (.int (1 : Int32)), .val (.int (1 : Int32)), .val (.int (1 : Int32))] [(.int (1 : Int32))])) t → Steps p.tables e below (s₁.setTop (entryFrame m #[(.int p0), (.int p1), (.int p2), (.int p3), (.int p4), (.int p5)] maxLocals)) t := fun t kt => pre156 t (by
              show Steps p.tables e below (T153.setTop (mkF m 171 #[.val (.int p0), .val (.int p1), .val (.int p2), .val (.int p3), .val (.int p4), .val (.int p5), .val (.int (f1 p0)), .val (.int (f1 p1)), .val (.int (f1 p2)), .val (.int (f1 p3)), .val (.int (f1 p4)), .val (.ref b6), .val (.int (1 : Int32)), .val (.int (1 : Int32)), .val (.int (1 : Int32))] [(.int (1 : Int32))])) _
              refine XS.ifNo X153.here hx rfl (hb hby at_171) rfl ((if0 _ _).trans (feq (by decide : ¬ ((1 : Int32) = (0 : Int32)))).1) ?_
              show Steps p.tables e below (T153.setTop (mkF m 174 #[.val (.int p0), .val (.int p1), .val (.int p2), .val (.int p3), .val (.int p4), .val (.int p5), .val (.int (f1 p0)), .val (.int (f1 p1)), .val (.int (f1 p2)), .val (.int (f1 p3)), .val (.int (f1 p4)), .val (.ref b6), .val (.int (1 : Int32)), .val (.int (1 : Int32)), .val (.int (1 : Int32))] [])) _
              refine XS.iload X153.here hx rfl (hb hby at_174) rfl ?_
              exact kt)
          have pre158 : ∀ t, Steps p.tables e below (T153.setTop (mkF m 181 #[.val (.int p0), .val (.int p1), .val (.int p2), .val (.int p3), .val (.int p4), .val (.int p5), .val (.int (f1 p0)), .val (.int (f1 p1)), .val (.int (f1 p2)), .val (.int (f1 p3)), .val (.int (f1 p4)), .val (.ref b6), .val (.int (1 : Int32)), .val (.int (1 : Int32)), .val (.int (1 : Int32))] [(.int (1 : Int32))])) t → Steps p.tables e below (s₁.setTop (entryFrame m #[(.int p0), (.int p1), (.int p2), (.int p3), (.int p4), (.int p5)] maxLocals)) t := fun t kt => pre157 t (by
              show Steps p.tables e below (T153.setTop (mkF m 176 #[.val (.int p0), .val (.int p1), .val (.int p2), .val (.int p3), .val (.int p4), .val (.int p5), .val (.int (f1 p0)), .val (.int (f1 p1)), .val (.int (f1 p2)), .val (.int (f1 p3)), .val (.int (f1 p4)), .val (.ref b6), .val (.int (1 : Int32)), .val (.int (1 : Int32)), .val (.int (1 : Int32))] [(.int (1 : Int32))])) _
              refine XS.ifNo X153.here hx rfl (hb hby at_176) rfl ((if0 _ _).trans (feq (by decide : ¬ ((1 : Int32) = (0 : Int32)))).1) ?_
              show Steps p.tables e below (T153.setTop (mkF m 179 #[.val (.int p0), .val (.int p1), .val (.int p2), .val (.int p3), .val (.int p4), .val (.int p5), .val (.int (f1 p0)), .val (.int (f1 p1)), .val (.int (f1 p2)), .val (.int (f1 p3)), .val (.int (f1 p4)), .val (.ref b6), .val (.int (1 : Int32)), .val (.int (1 : Int32)), .val (.int (1 : Int32))] [])) _
              refine XS.iload X153.here hx rfl (hb hby at_179) rfl ?_
              exact kt)
          obtain ⟨fs, hr, hrun, hended, hW, hsame⟩ := X153.leave (v := some (.int (1 : Int32))) (fun h => by rw [Bd.returns] at h; cases h)
          have hv247 : (1 : Int32) = (1 : Int32) := rfl
          refine ⟨_, _, pre158 _ ?_, hrun, hended, _, _, rfl, ?_, ⟨_, rfl⟩, hW, hsame.mono (by decide) (by decide)⟩
          · show Steps p.tables e below (T153.setTop (mkF m 181 #[.val (.int p0), .val (.int p1), .val (.int p2), .val (.int p3), .val (.int p4), .val (.int p5), .val (.int (f1 p0)), .val (.int (f1 p1)), .val (.int (f1 p2)), .val (.int (f1 p3)), .val (.int (f1 p4)), .val (.ref b6), .val (.int (1 : Int32)), .val (.int (1 : Int32)), .val (.int (1 : Int32))] [(.int (1 : Int32))])) _
            refine XS.ifNo X153.here hx rfl (hb hby at_181) rfl ((if0 _ _).trans (feq (by decide : ¬ ((1 : Int32) = (0 : Int32)))).1) ?_
            show Steps p.tables e below (T153.setTop (mkF m 184 #[.val (.int p0), .val (.int p1), .val (.int p2), .val (.int p3), .val (.int p4), .val (.int p5), .val (.int (f1 p0)), .val (.int (f1 p1)), .val (.int (f1 p2)), .val (.int (f1 p3)), .val (.int (f1 p4)), .val (.ref b6), .val (.int (1 : Int32)), .val (.int (1 : Int32)), .val (.int (1 : Int32))] [])) _
            refine XS.iconst X153.here hx rfl (hb hby at_184) ?_
            show Steps p.tables e below (T153.setTop (mkF m 185 #[.val (.int p0), .val (.int p1), .val (.int p2), .val (.int p3), .val (.int p4), .val (.int p5), .val (.int (f1 p0)), .val (.int (f1 p1)), .val (.int (f1 p2)), .val (.int (f1 p3)), .val (.int (f1 p4)), .val (.ref b6), .val (.int (1 : Int32)), .val (.int (1 : Int32)), .val (.int (1 : Int32))] [(.int (1 : Int32))])) _
            refine XS.goto X153.here hx rfl (pc0 := 185) (pc' := 189) rfl (hb hby at_185) (by decide) (by decide) ?_
            show Steps p.tables e below (T153.setTop (mkF m 189 #[.val (.int p0), .val (.int p1), .val (.int p2), .val (.int p3), .val (.int p4), .val (.int p5), .val (.int (f1 p0)), .val (.int (f1 p1)), .val (.int (f1 p2)), .val (.int (f1 p3)), .val (.int (f1 p4)), .val (.ref b6), .val (.int (1 : Int32)), .val (.int (1 : Int32)), .val (.int (1 : Int32))] [(.int (1 : Int32))])) _
            exact retN X153 hx (t := .boolean) Bd.returns (by simp) (hb hby at_189) hr
          · show Q0 Z p0 p1 p2 p3 p4 p5 h0 n0 _ T153.heap _
            rw [e153q]
            exact ⟨congrArg (fun q => some (Value.int q)) hv247, N153⟩
        · have pre159 : ∀ t, Steps p.tables e below (T148.setTop (mkF m 143 #[.val (.int p0), .val (.int p1), .val (.int p2), .val (.int p3), .val (.int p4), .val (.int p5), .val (.int (f1 p0)), .val (.int (f1 p1)), .val (.int (f1 p2)), .val (.int (f1 p3)), .val (.int (f1 p4)), .val (.ref b6), .val (.int (1 : Int32)), .unset, .unset] [(.int (0 : Int32)), (.int (nar .boolean ((f6_r1_a (own_upd (own_upd (own_upd (own_upd (own_upd (fun _ => 0) 0 (1 : Int32)) ((f1 p0)).toNatClampNeg (1 : Int32)) ((f1 p1)).toNatClampNeg (1 : Int32)) ((f1 p2)).toNatClampNeg (1 : Int32)) (((1 : Int32) + (((p5.toUInt32 >>> ((2 : Int32) &&& 31).toUInt32).toInt32) - (((p5.toUInt32 >>> ((2 : Int32) &&& 31).toUInt32).toInt32) / (19 : Int32)) * (19 : Int32)))).toNatClampNeg (0 : Int32))) ((f1 p4)).toNatClampNeg)))])) t → Steps p.tables e below (s₁.setTop (entryFrame m #[(.int p0), (.int p1), (.int p2), (.int p3), (.int p4), (.int p5)] maxLocals)) t := fun t kt => pre149 t (by
              show Steps p.tables e below (T148.setTop (mkF m 135 #[.val (.int p0), .val (.int p1), .val (.int p2), .val (.int p3), .val (.int p4), .val (.int p5), .val (.int (f1 p0)), .val (.int (f1 p1)), .val (.int (f1 p2)), .val (.int (f1 p3)), .val (.int (f1 p4)), .val (.ref b6), .val (.int (1 : Int32)), .unset, .unset] [(.int (f1 p4)), (.int (nar .boolean ((f6_r1_a (own_upd (own_upd (own_upd (own_upd (own_upd (fun _ => 0) 0 (1 : Int32)) ((f1 p0)).toNatClampNeg (1 : Int32)) ((f1 p1)).toNatClampNeg (1 : Int32)) ((f1 p2)).toNatClampNeg (1 : Int32)) (((1 : Int32) + (((p5.toUInt32 >>> ((2 : Int32) &&& 31).toUInt32).toInt32) - (((p5.toUInt32 >>> ((2 : Int32) &&& 31).toUInt32).toInt32) / (19 : Int32)) * (19 : Int32)))).toNatClampNeg (0 : Int32))) ((f1 p4)).toNatClampNeg)))])) _
              refine XS.ifYes X148.here hx rfl (pc0 := 135) (pc' := 142) rfl (hb hby at_135) rfl ((if0 _ _).trans (feq hc135_150).2) (by decide) (by decide) ?_
              show Steps p.tables e below (T148.setTop (mkF m 142 #[.val (.int p0), .val (.int p1), .val (.int p2), .val (.int p3), .val (.int p4), .val (.int p5), .val (.int (f1 p0)), .val (.int (f1 p1)), .val (.int (f1 p2)), .val (.int (f1 p3)), .val (.int (f1 p4)), .val (.ref b6), .val (.int (1 : Int32)), .unset, .unset] [(.int (nar .boolean ((f6_r1_a (own_upd (own_upd (own_upd (own_upd (own_upd (fun _ => 0) 0 (1 : Int32)) ((f1 p0)).toNatClampNeg (1 : Int32)) ((f1 p1)).toNatClampNeg (1 : Int32)) ((f1 p2)).toNatClampNeg (1 : Int32)) (((1 : Int32) + (((p5.toUInt32 >>> ((2 : Int32) &&& 31).toUInt32).toInt32) - (((p5.toUInt32 >>> ((2 : Int32) &&& 31).toUInt32).toInt32) / (19 : Int32)) * (19 : Int32)))).toNatClampNeg (0 : Int32))) ((f1 p4)).toNatClampNeg)))])) _
              refine XS.iconst X148.here hx rfl (hb hby at_142) ?_
              exact kt)
          have hd143_160 : (nar .boolean ((f6_r1_a (own_upd (own_upd (own_upd (own_upd (own_upd (fun _ => 0) 0 (1 : Int32)) ((f1 p0)).toNatClampNeg (1 : Int32)) ((f1 p1)).toNatClampNeg (1 : Int32)) ((f1 p2)).toNatClampNeg (1 : Int32)) (((1 : Int32) + (((p5.toUInt32 >>> ((2 : Int32) &&& 31).toUInt32).toInt32) - (((p5.toUInt32 >>> ((2 : Int32) &&& 31).toUInt32).toInt32) / (19 : Int32)) * (19 : Int32)))).toNatClampNeg (0 : Int32))) ((f1 p4)).toNatClampNeg)) = (0 : Int32) := own_is1 _ (own_ch _) hc135_150
          obtain ⟨cq161, kq161, q161a, q161b, q161c⟩ := isOf hZ e148q (c137.keep K133q)
          obtain ⟨_, _, ⟨T161, L161, k161, n161⟩, -, X161, ⟨Lc161, hQ161, l161, y161, z161⟩, st161⟩ := X148.virtualBack hx (y := (⟨"com/example/cardhost/cardhost/LogicalChannels", "lowestClosed", "()I"⟩ : MethodName)) (z := (⟨"com/example/cardhost/cardhost/LogicalChannels", "lowestClosed", "()I"⟩ : MethodName)) hown (mvT hZ (hw _ (List.mem_of_getElem? (i := 43) rfl))) (mvT hZ (hw _ (List.mem_of_getElem? (i := 44) rfl))) (notFace_of_selects (args := #[]) (mvT hZ (hw _ (List.mem_of_getElem? (i := 46) rfl)))) (mvT hZ (hw _ (List.mem_of_getElem? (i := 46) rfl))) (mvT hZ (hw _ (List.mem_of_getElem? (i := 45) rfl))) (by decide) (backOf (W := 0) (rm8 l Z a0 hw [] b6 r_o0_open_9 (f6_r1_a (own_upd (own_upd (own_upd (own_upd (own_upd (fun _ => 0) 0 (1 : Int32)) ((f1 p0)).toNatClampNeg (1 : Int32)) ((f1 p1)).toNatClampNeg (1 : Int32)) ((f1 p2)).toNatClampNeg (1 : Int32)) (((1 : Int32) + (((p5.toUInt32 >>> ((2 : Int32) &&& 31).toUInt32).toInt32) - (((p5.toUInt32 >>> ((2 : Int32) &&& 31).toUInt32).toInt32) / (19 : Int32)) * (19 : Int32)))).toNatClampNeg (0 : Int32))) T133.heap n0 Z139 c143 G133_0 g_r_o0_open_9) hZ (hw _ (List.mem_of_getElem? (i := 47) rfl)) (hw _ (List.mem_of_getElem? (i := 7) rfl)) (by decide) (by decide)) q161a q161c (g := (mkF m 155 #[.val (.int p0), .val (.int p1), .val (.int p2), .val (.int p3), .val (.int p4), .val (.int p5), .val (.int (f1 p0)), .val (.int (f1 p1)), .val (.int (f1 p2)), .val (.int (f1 p3)), .val (.int (f1 p4)), .val (.ref b6), .val (.int (1 : Int32)), .val (.int (1 : Int32)), .unset] [(.ref b6)])) rfl (by rw [hml]; rfl) (Steps.refl _) (argsL := []) (rest := []) (lenOf pd_0_4 rfl) rfl (by show 2 * 0 + _ ≤ _; exact Nat.le_of_eq rfl) (hb hby at_155) (fun _ _ => ⟨rfl, e148q, (by decide : 4 + 0 ≤ _), (by decide : 63 + 0 ≤ _)⟩)
          dsimp only [Pt.U, Pt.locs, Pt.cells, Pt.slots] at X161 l161 y161 z161 st161 hQ161
          subst l161 y161 z161
          obtain ⟨rfl, N161q, e161q⟩ := hQ161
          have N161 := Fr.app N148 N161q
          have pre162 : ∀ t, Steps p.tables e below (T161.setTop (mkF m 159 #[.val (.int p0), .val (.int p1), .val (.int p2), .val (.int p3), .val (.int p4), .val (.int p5), .val (.int (f1 p0)), .val (.int (f1 p1)), .val (.int (f1 p2)), .val (.int (f1 p3)), .val (.int (f1 p4)), .val (.ref b6), .val (.int (1 : Int32)), .val (.int (1 : Int32)), .unset] [(.int (1 : Int32)), (.int (f8 (f6_r1_a (own_upd (own_upd (own_upd (own_upd (own_upd (fun _ => 0) 0 (1 : Int32)) ((f1 p0)).toNatClampNeg (1 : Int32)) ((f1 p1)).toNatClampNeg (1 : Int32)) ((f1 p2)).toNatClampNeg (1 : Int32)) (((1 : Int32) + (((p5.toUInt32 >>> ((2 : Int32) &&& 31).toUInt32).toInt32) - (((p5.toUInt32 >>> ((2 : Int32) &&& 31).toUInt32).toInt32) / (19 : Int32)) * (19 : Int32)))).toNatClampNeg (0 : Int32)))))])) t → Steps p.tables e below (s₁.setTop (entryFrame m #[(.int p0), (.int p1), (.int p2), (.int p3), (.int p4), (.int p5)] maxLocals)) t := fun t kt => pre159 t (by
              show Steps p.tables e below (T148.setTop (mkF m 143 #[.val (.int p0), .val (.int p1), .val (.int p2), .val (.int p3), .val (.int p4), .val (.int p5), .val (.int (f1 p0)), .val (.int (f1 p1)), .val (.int (f1 p2)), .val (.int (f1 p3)), .val (.int (f1 p4)), .val (.ref b6), .val (.int (1 : Int32)), .unset, .unset] [(.int (0 : Int32)), (.int (nar .boolean ((f6_r1_a (own_upd (own_upd (own_upd (own_upd (own_upd (fun _ => 0) 0 (1 : Int32)) ((f1 p0)).toNatClampNeg (1 : Int32)) ((f1 p1)).toNatClampNeg (1 : Int32)) ((f1 p2)).toNatClampNeg (1 : Int32)) (((1 : Int32) + (((p5.toUInt32 >>> ((2 : Int32) &&& 31).toUInt32).toInt32) - (((p5.toUInt32 >>> ((2 : Int32) &&& 31).toUInt32).toInt32) / (19 : Int32)) * (19 : Int32)))).toNatClampNeg (0 : Int32))) ((f1 p4)).toNatClampNeg)))])) _
              refine XS.icmpNo X148.here hx rfl (hb hby at_143) rfl (teq hd143_160).2 ?_
              show Steps p.tables e below (T148.setTop (mkF m 146 #[.val (.int p0), .val (.int p1), .val (.int p2), .val (.int p3), .val (.int p4), .val (.int p5), .val (.int (f1 p0)), .val (.int (f1 p1)), .val (.int (f1 p2)), .val (.int (f1 p3)), .val (.int (f1 p4)), .val (.ref b6), .val (.int (1 : Int32)), .unset, .unset] [])) _
              refine XS.iconst X148.here hx rfl (hb hby at_146) ?_
              show Steps p.tables e below (T148.setTop (mkF m 147 #[.val (.int p0), .val (.int p1), .val (.int p2), .val (.int p3), .val (.int p4), .val (.int p5), .val (.int (f1 p0)), .val (.int (f1 p1)), .val (.int (f1 p2)), .val (.int (f1 p3)), .val (.int (f1 p4)), .val (.ref b6), .val (.int (1 : Int32)), .unset, .unset] [(.int (1 : Int32))])) _
              refine XS.goto X148.here hx rfl (pc0 := 147) (pc' := 151) rfl (hb hby at_147) (by decide) (by decide) ?_
              show Steps p.tables e below (T148.setTop (mkF m 151 #[.val (.int p0), .val (.int p1), .val (.int p2), .val (.int p3), .val (.int p4), .val (.int p5), .val (.int (f1 p0)), .val (.int (f1 p1)), .val (.int (f1 p2)), .val (.int (f1 p3)), .val (.int (f1 p4)), .val (.ref b6), .val (.int (1 : Int32)), .unset, .unset] [(.int (1 : Int32))])) _
              refine XS.istore X148.here hx rfl (hb hby at_151) rfl (l' := #[.val (.int p0), .val (.int p1), .val (.int p2), .val (.int p3), .val (.int p4), .val (.int p5), .val (.int (f1 p0)), .val (.int (f1 p1)), .val (.int (f1 p2)), .val (.int (f1 p3)), .val (.int (f1 p4)), .val (.ref b6), .val (.int (1 : Int32)), .val (.int (1 : Int32)), .unset]) rfl ?_
              show Steps p.tables e below (T148.setTop (mkF m 153 #[.val (.int p0), .val (.int p1), .val (.int p2), .val (.int p3), .val (.int p4), .val (.int p5), .val (.int (f1 p0)), .val (.int (f1 p1)), .val (.int (f1 p2)), .val (.int (f1 p3)), .val (.int (f1 p4)), .val (.ref b6), .val (.int (1 : Int32)), .val (.int (1 : Int32)), .unset] [])) _
              refine XS.aload X148.here hx rfl (hb hby at_153) rfl rfl ?_
              show Steps p.tables e below (T148.setTop (mkF m 155 #[.val (.int p0), .val (.int p1), .val (.int p2), .val (.int p3), .val (.int p4), .val (.int p5), .val (.int (f1 p0)), .val (.int (f1 p1)), .val (.int (f1 p2)), .val (.int (f1 p3)), .val (.int (f1 p4)), .val (.ref b6), .val (.int (1 : Int32)), .val (.int (1 : Int32)), .unset] [(.ref b6)])) _
              refine st161.trans ?_
              show Steps p.tables e below (T161.setTop (mkF m 158 #[.val (.int p0), .val (.int p1), .val (.int p2), .val (.int p3), .val (.int p4), .val (.int p5), .val (.int (f1 p0)), .val (.int (f1 p1)), .val (.int (f1 p2)), .val (.int (f1 p3)), .val (.int (f1 p4)), .val (.ref b6), .val (.int (1 : Int32)), .val (.int (1 : Int32)), .unset] [(.int (f8 (f6_r1_a (own_upd (own_upd (own_upd (own_upd (own_upd (fun _ => 0) 0 (1 : Int32)) ((f1 p0)).toNatClampNeg (1 : Int32)) ((f1 p1)).toNatClampNeg (1 : Int32)) ((f1 p2)).toNatClampNeg (1 : Int32)) (((1 : Int32) + (((p5.toUInt32 >>> ((2 : Int32) &&& 31).toUInt32).toInt32) - (((p5.toUInt32 >>> ((2 : Int32) &&& 31).toUInt32).toInt32) / (19 : Int32)) * (19 : Int32)))).toNatClampNeg (0 : Int32)))))])) _
              refine XS.iconst X161.here hx rfl (hb hby at_158) ?_
              exact kt)
          have hd159_163 : (f8 (f6_r1_a (own_upd (own_upd (own_upd (own_upd (own_upd (fun _ => 0) 0 (1 : Int32)) ((f1 p0)).toNatClampNeg (1 : Int32)) ((f1 p1)).toNatClampNeg (1 : Int32)) ((f1 p2)).toNatClampNeg (1 : Int32)) (((1 : Int32) + (((p5.toUInt32 >>> ((2 : Int32) &&& 31).toUInt32).toInt32) - (((p5.toUInt32 >>> ((2 : Int32) &&& 31).toUInt32).toInt32) / (19 : Int32)) * (19 : Int32)))).toNatClampNeg (0 : Int32)))) = (1 : Int32) := own_lc _
          have pre164 : ∀ t, Steps p.tables e below (T161.setTop (mkF m 171 #[.val (.int p0), .val (.int p1), .val (.int p2), .val (.int p3), .val (.int p4), .val (.int p5), .val (.int (f1 p0)), .val (.int (f1 p1)), .val (.int (f1 p2)), .val (.int (f1 p3)), .val (.int (f1 p4)), .val (.ref b6), .val (.int (1 : Int32)), .val (.int (1 : Int32)), .val (.int (1 : Int32))] [(.int (1 : Int32))])) t → Steps p.tables e below (s₁.setTop (entryFrame m #[(.int p0), (.int p1), (.int p2), (.int p3), (.int p4), (.int p5)] maxLocals)) t := fun t kt => pre162 t (by
              show Steps p.tables e below (T161.setTop (mkF m 159 #[.val (.int p0), .val (.int p1), .val (.int p2), .val (.int p3), .val (.int p4), .val (.int p5), .val (.int (f1 p0)), .val (.int (f1 p1)), .val (.int (f1 p2)), .val (.int (f1 p3)), .val (.int (f1 p4)), .val (.ref b6), .val (.int (1 : Int32)), .val (.int (1 : Int32)), .unset] [(.int (1 : Int32)), (.int (f8 (f6_r1_a (own_upd (own_upd (own_upd (own_upd (own_upd (fun _ => 0) 0 (1 : Int32)) ((f1 p0)).toNatClampNeg (1 : Int32)) ((f1 p1)).toNatClampNeg (1 : Int32)) ((f1 p2)).toNatClampNeg (1 : Int32)) (((1 : Int32) + (((p5.toUInt32 >>> ((2 : Int32) &&& 31).toUInt32).toInt32) - (((p5.toUInt32 >>> ((2 : Int32) &&& 31).toUInt32).toInt32) / (19 : Int32)) * (19 : Int32)))).toNatClampNeg (0 : Int32)))))])) _
              refine XS.icmpNo X161.here hx rfl (hb hby at_159) rfl (teq hd159_163).2 ?_
              show Steps p.tables e below (T161.setTop (mkF m 162 #[.val (.int p0), .val (.int p1), .val (.int p2), .val (.int p3), .val (.int p4), .val (.int p5), .val (.int (f1 p0)), .val (.int (f1 p1)), .val (.int (f1 p2)), .val (.int (f1 p3)), .val (.int (f1 p4)), .val (.ref b6), .val (.int (1 : Int32)), .val (.int (1 : Int32)), .unset] [])) _
              refine XS.iconst X161.here hx rfl (hb hby at_162) ?_
              show Steps p.tables e below (T161.setTop (mkF m 163 #[.val (.int p0), .val (.int p1), .val (.int p2), .val (.int p3), .val (.int p4), .val (.int p5), .val (.int (f1 p0)), .val (.int (f1 p1)), .val (.int (f1 p2)), .val (.int (f1 p3)), .val (.int (f1 p4)), .val (.ref b6), .val (.int (1 : Int32)), .val (.int (1 : Int32)), .unset] [(.int (1 : Int32))])) _
              refine XS.goto X161.here hx rfl (pc0 := 163) (pc' := 167) rfl (hb hby at_163) (by decide) (by decide) ?_
              show Steps p.tables e below (T161.setTop (mkF m 167 #[.val (.int p0), .val (.int p1), .val (.int p2), .val (.int p3), .val (.int p4), .val (.int p5), .val (.int (f1 p0)), .val (.int (f1 p1)), .val (.int (f1 p2)), .val (.int (f1 p3)), .val (.int (f1 p4)), .val (.ref b6), .val (.int (1 : Int32)), .val (.int (1 : Int32)), .unset] [(.int (1 : Int32))])) _
              refine XS.istore X161.here hx rfl (hb hby at_167) rfl (l' := #[.val (.int p0), .val (.int p1), .val (.int p2), .val (.int p3), .val (.int p4), .val (.int p5), .val (.int (f1 p0)), .val (.int (f1 p1)), .val (.int (f1 p2)), .val (.int (f1 p3)), .val (.int (f1 p4)), .val (.ref b6), .val (.int (1 : Int32)), .val (.int (1 : Int32)), .val (.int (1 : Int32))]) rfl ?_
              show Steps p.tables e below (T161.setTop (mkF m 169 #[.val (.int p0), .val (.int p1), .val (.int p2), .val (.int p3), .val (.int p4), .val (.int p5), .val (.int (f1 p0)), .val (.int (f1 p1)), .val (.int (f1 p2)), .val (.int (f1 p3)), .val (.int (f1 p4)), .val (.ref b6), .val (.int (1 : Int32)), .val (.int (1 : Int32)), .val (.int (1 : Int32))] [])) _
              refine XS.iload X161.here hx rfl (hb hby at_169) rfl ?_
              exact kt)
          have pre165 : ∀ t, Steps p.tables e below (T161.setTop (mkF m 176 #[.val (.int p0), .val (.int p1), .val (.int p2), .val (.int p3), .val (.int p4), .val (.int p5), .val (.int (f1 p0)), .val (.int (f1 p1)), .val (.int (f1 p2)), .val (.int (f1 p3)), .val (.int (f1 p4)), .val (.ref b6), .val (.int (1 : Int32)), .val (.int (1 : Int32)), .val (.int (1 : Int32))] [(.int (1 : Int32))])) t → Steps p.tables e below (s₁.setTop (entryFrame m #[(.int p0), (.int p1), (.int p2), (.int p3), (.int p4), (.int p5)] maxLocals)) t := fun t kt => pre164 t (by
              show Steps p.tables e below (T161.setTop (mkF m 171 #[.val (.int p0), .val (.int p1), .val (.int p2), .val (.int p3), .val (.int p4), .val (.int p5), .val (.int (f1 p0)), .val (.int (f1 p1)), .val (.int (f1 p2)), .val (.int (f1 p3)), .val (.int (f1 p4)), .val (.ref b6), .val (.int (1 : Int32)), .val (.int (1 : Int32)), .val (.int (1 : Int32))] [(.int (1 : Int32))])) _
              refine XS.ifNo X161.here hx rfl (hb hby at_171) rfl ((if0 _ _).trans (feq (by decide : ¬ ((1 : Int32) = (0 : Int32)))).1) ?_
              show Steps p.tables e below (T161.setTop (mkF m 174 #[.val (.int p0), .val (.int p1), .val (.int p2), .val (.int p3), .val (.int p4), .val (.int p5), .val (.int (f1 p0)), .val (.int (f1 p1)), .val (.int (f1 p2)), .val (.int (f1 p3)), .val (.int (f1 p4)), .val (.ref b6), .val (.int (1 : Int32)), .val (.int (1 : Int32)), .val (.int (1 : Int32))] [])) _
              refine XS.iload X161.here hx rfl (hb hby at_174) rfl ?_
              exact kt)
          have pre166 : ∀ t, Steps p.tables e below (T161.setTop (mkF m 181 #[.val (.int p0), .val (.int p1), .val (.int p2), .val (.int p3), .val (.int p4), .val (.int p5), .val (.int (f1 p0)), .val (.int (f1 p1)), .val (.int (f1 p2)), .val (.int (f1 p3)), .val (.int (f1 p4)), .val (.ref b6), .val (.int (1 : Int32)), .val (.int (1 : Int32)), .val (.int (1 : Int32))] [(.int (1 : Int32))])) t → Steps p.tables e below (s₁.setTop (entryFrame m #[(.int p0), (.int p1), (.int p2), (.int p3), (.int p4), (.int p5)] maxLocals)) t := fun t kt => pre165 t (by
              show Steps p.tables e below (T161.setTop (mkF m 176 #[.val (.int p0), .val (.int p1), .val (.int p2), .val (.int p3), .val (.int p4), .val (.int p5), .val (.int (f1 p0)), .val (.int (f1 p1)), .val (.int (f1 p2)), .val (.int (f1 p3)), .val (.int (f1 p4)), .val (.ref b6), .val (.int (1 : Int32)), .val (.int (1 : Int32)), .val (.int (1 : Int32))] [(.int (1 : Int32))])) _
              refine XS.ifNo X161.here hx rfl (hb hby at_176) rfl ((if0 _ _).trans (feq (by decide : ¬ ((1 : Int32) = (0 : Int32)))).1) ?_
              show Steps p.tables e below (T161.setTop (mkF m 179 #[.val (.int p0), .val (.int p1), .val (.int p2), .val (.int p3), .val (.int p4), .val (.int p5), .val (.int (f1 p0)), .val (.int (f1 p1)), .val (.int (f1 p2)), .val (.int (f1 p3)), .val (.int (f1 p4)), .val (.ref b6), .val (.int (1 : Int32)), .val (.int (1 : Int32)), .val (.int (1 : Int32))] [])) _
              refine XS.iload X161.here hx rfl (hb hby at_179) rfl ?_
              exact kt)
          obtain ⟨fs, hr, hrun, hended, hW, hsame⟩ := X161.leave (v := some (.int (1 : Int32))) (fun h => by rw [Bd.returns] at h; cases h)
          have hv248 : (1 : Int32) = (1 : Int32) := rfl
          refine ⟨_, _, pre166 _ ?_, hrun, hended, _, _, rfl, ?_, ⟨_, rfl⟩, hW, hsame.mono (by decide) (by decide)⟩
          · show Steps p.tables e below (T161.setTop (mkF m 181 #[.val (.int p0), .val (.int p1), .val (.int p2), .val (.int p3), .val (.int p4), .val (.int p5), .val (.int (f1 p0)), .val (.int (f1 p1)), .val (.int (f1 p2)), .val (.int (f1 p3)), .val (.int (f1 p4)), .val (.ref b6), .val (.int (1 : Int32)), .val (.int (1 : Int32)), .val (.int (1 : Int32))] [(.int (1 : Int32))])) _
            refine XS.ifNo X161.here hx rfl (hb hby at_181) rfl ((if0 _ _).trans (feq (by decide : ¬ ((1 : Int32) = (0 : Int32)))).1) ?_
            show Steps p.tables e below (T161.setTop (mkF m 184 #[.val (.int p0), .val (.int p1), .val (.int p2), .val (.int p3), .val (.int p4), .val (.int p5), .val (.int (f1 p0)), .val (.int (f1 p1)), .val (.int (f1 p2)), .val (.int (f1 p3)), .val (.int (f1 p4)), .val (.ref b6), .val (.int (1 : Int32)), .val (.int (1 : Int32)), .val (.int (1 : Int32))] [])) _
            refine XS.iconst X161.here hx rfl (hb hby at_184) ?_
            show Steps p.tables e below (T161.setTop (mkF m 185 #[.val (.int p0), .val (.int p1), .val (.int p2), .val (.int p3), .val (.int p4), .val (.int p5), .val (.int (f1 p0)), .val (.int (f1 p1)), .val (.int (f1 p2)), .val (.int (f1 p3)), .val (.int (f1 p4)), .val (.ref b6), .val (.int (1 : Int32)), .val (.int (1 : Int32)), .val (.int (1 : Int32))] [(.int (1 : Int32))])) _
            refine XS.goto X161.here hx rfl (pc0 := 185) (pc' := 189) rfl (hb hby at_185) (by decide) (by decide) ?_
            show Steps p.tables e below (T161.setTop (mkF m 189 #[.val (.int p0), .val (.int p1), .val (.int p2), .val (.int p3), .val (.int p4), .val (.int p5), .val (.int (f1 p0)), .val (.int (f1 p1)), .val (.int (f1 p2)), .val (.int (f1 p3)), .val (.int (f1 p4)), .val (.ref b6), .val (.int (1 : Int32)), .val (.int (1 : Int32)), .val (.int (1 : Int32))] [(.int (1 : Int32))])) _
            exact retN X161 hx (t := .boolean) Bd.returns (by simp) (hb hby at_189) hr
          · show Q0 Z p0 p1 p2 p3 p4 p5 h0 n0 _ T161.heap _
            rw [e161q]
            exact ⟨congrArg (fun q => some (Value.int q)) hv248, N161⟩
      · have pre167 : ∀ t, Steps p.tables e below (T142.setTop (mkF m 116 #[.val (.int p0), .val (.int p1), .val (.int p2), .val (.int p3), .val (.int p4), .val (.int p5), .val (.int (f1 p0)), .val (.int (f1 p1)), .val (.int (f1 p2)), .val (.int (f1 p3)), .val (.int (f1 p4)), .val (.ref b6), .unset, .unset, .unset] [(.int (0 : Int32)), (.int (nar .boolean ((f6_r1_a (own_upd (own_upd (own_upd (own_upd (own_upd (fun _ => 0) 0 (1 : Int32)) ((f1 p0)).toNatClampNeg (1 : Int32)) ((f1 p1)).toNatClampNeg (1 : Int32)) ((f1 p2)).toNatClampNeg (1 : Int32)) (((1 : Int32) + (((p5.toUInt32 >>> ((2 : Int32) &&& 31).toUInt32).toInt32) - (((p5.toUInt32 >>> ((2 : Int32) &&& 31).toUInt32).toInt32) / (19 : Int32)) * (19 : Int32)))).toNatClampNeg (0 : Int32))) ((f1 p3)).toNatClampNeg)))])) t → Steps p.tables e below (s₁.setTop (entryFrame m #[(.int p0), (.int p1), (.int p2), (.int p3), (.int p4), (.int p5)] maxLocals)) t := fun t kt => pre144 t (by
            show Steps p.tables e below (T142.setTop (mkF m 108 #[.val (.int p0), .val (.int p1), .val (.int p2), .val (.int p3), .val (.int p4), .val (.int p5), .val (.int (f1 p0)), .val (.int (f1 p1)), .val (.int (f1 p2)), .val (.int (f1 p3)), .val (.int (f1 p4)), .val (.ref b6), .unset, .unset, .unset] [(.int (f1 p3)), (.int (nar .boolean ((f6_r1_a (own_upd (own_upd (own_upd (own_upd (own_upd (fun _ => 0) 0 (1 : Int32)) ((f1 p0)).toNatClampNeg (1 : Int32)) ((f1 p1)).toNatClampNeg (1 : Int32)) ((f1 p2)).toNatClampNeg (1 : Int32)) (((1 : Int32) + (((p5.toUInt32 >>> ((2 : Int32) &&& 31).toUInt32).toInt32) - (((p5.toUInt32 >>> ((2 : Int32) &&& 31).toUInt32).toInt32) / (19 : Int32)) * (19 : Int32)))).toNatClampNeg (0 : Int32))) ((f1 p3)).toNatClampNeg)))])) _
            refine XS.ifYes X142.here hx rfl (pc0 := 108) (pc' := 115) rfl (hb hby at_108) rfl ((if0 _ _).trans (feq hc108_145).2) (by decide) (by decide) ?_
            show Steps p.tables e below (T142.setTop (mkF m 115 #[.val (.int p0), .val (.int p1), .val (.int p2), .val (.int p3), .val (.int p4), .val (.int p5), .val (.int (f1 p0)), .val (.int (f1 p1)), .val (.int (f1 p2)), .val (.int (f1 p3)), .val (.int (f1 p4)), .val (.ref b6), .unset, .unset, .unset] [(.int (nar .boolean ((f6_r1_a (own_upd (own_upd (own_upd (own_upd (own_upd (fun _ => 0) 0 (1 : Int32)) ((f1 p0)).toNatClampNeg (1 : Int32)) ((f1 p1)).toNatClampNeg (1 : Int32)) ((f1 p2)).toNatClampNeg (1 : Int32)) (((1 : Int32) + (((p5.toUInt32 >>> ((2 : Int32) &&& 31).toUInt32).toInt32) - (((p5.toUInt32 >>> ((2 : Int32) &&& 31).toUInt32).toInt32) / (19 : Int32)) * (19 : Int32)))).toNatClampNeg (0 : Int32))) ((f1 p3)).toNatClampNeg)))])) _
            refine XS.iconst X142.here hx rfl (hb hby at_115) ?_
            exact kt)
        have hd116_168 : (nar .boolean ((f6_r1_a (own_upd (own_upd (own_upd (own_upd (own_upd (fun _ => 0) 0 (1 : Int32)) ((f1 p0)).toNatClampNeg (1 : Int32)) ((f1 p1)).toNatClampNeg (1 : Int32)) ((f1 p2)).toNatClampNeg (1 : Int32)) (((1 : Int32) + (((p5.toUInt32 >>> ((2 : Int32) &&& 31).toUInt32).toInt32) - (((p5.toUInt32 >>> ((2 : Int32) &&& 31).toUInt32).toInt32) / (19 : Int32)) * (19 : Int32)))).toNatClampNeg (0 : Int32))) ((f1 p3)).toNatClampNeg)) = (0 : Int32) := own_is1 _ (own_ch _) hc108_145
        obtain ⟨cq169, kq169, q169a, q169b, q169c⟩ := isOf hZ e142q (c137.keep K133q)
        obtain ⟨_, _, ⟨T169, L169, k169, n169⟩, -, X169, ⟨Lc169, hQ169, l169, y169, z169⟩, st169⟩ := X142.virtualBack hx (y := (⟨"com/example/cardhost/cardhost/LogicalChannels", "isOpen", "(I)Z"⟩ : MethodName)) (z := (⟨"com/example/cardhost/cardhost/LogicalChannels", "isOpen", "(I)Z"⟩ : MethodName)) hown (mvT hZ (hw _ (List.mem_of_getElem? (i := 38) rfl))) (mvT hZ (hw _ (List.mem_of_getElem? (i := 39) rfl))) (notFace_of_selects (args := #[]) (mvT hZ (hw _ (List.mem_of_getElem? (i := 41) rfl)))) (mvT hZ (hw _ (List.mem_of_getElem? (i := 41) rfl))) (mvT hZ (hw _ (List.mem_of_getElem? (i := 40) rfl))) (by decide) (backOf (W := 0) (rm7 l Z a0 hw [] b6 (f1 p4) r_o0_open_9 (f6_r1_a (own_upd (own_upd (own_upd (own_upd (own_upd (fun _ => 0) 0 (1 : Int32)) ((f1 p0)).toNatClampNeg (1 : Int32)) ((f1 p1)).toNatClampNeg (1 : Int32)) ((f1 p2)).toNatClampNeg (1 : Int32)) (((1 : Int32) + (((p5.toUInt32 >>> ((2 : Int32) &&& 31).toUInt32).toInt32) - (((p5.toUInt32 >>> ((2 : Int32) &&& 31).toUInt32).toInt32) / (19 : Int32)) * (19 : Int32)))).toNatClampNeg (0 : Int32))) T133.heap n0 Z139 c143 G133_0 g_r_o0_open_9 (own_ch _)) hZ (hw _ (List.mem_of_getElem? (i := 42) rfl)) (hw _ (List.mem_of_getElem? (i := 7) rfl)) (by decide) (by decide)) q169a q169c (g := (mkF m 130 #[.val (.int p0), .val (.int p1), .val (.int p2), .val (.int p3), .val (.int p4), .val (.int p5), .val (.int (f1 p0)), .val (.int (f1 p1)), .val (.int (f1 p2)), .val (.int (f1 p3)), .val (.int (f1 p4)), .val (.ref b6), .val (.int (1 : Int32)), .unset, .unset] [(.int (f1 p4)), (.ref b6)])) rfl (by rw [hml]; rfl) (Steps.refl _) (argsL := [(.int (f1 p4))]) (rest := []) (lenOf pd_0_3 rfl) rfl (by show 2 * 0 + _ ≤ _; exact Nat.le_of_eq rfl) (hb hby at_130) (fun _ _ => ⟨rfl, e142q, (by decide : 4 + 0 ≤ _), (by decide : 63 + 0 ≤ _)⟩)
        dsimp only [Pt.U, Pt.locs, Pt.cells, Pt.slots] at X169 l169 y169 z169 st169 hQ169
        subst l169 y169 z169
        obtain ⟨rfl, N169q, e169q⟩ := hQ169
        have N169 := Fr.app N142 N169q
        have pre170 : ∀ t, Steps p.tables e below (T169.setTop (mkF m 135 #[.val (.int p0), .val (.int p1), .val (.int p2), .val (.int p3), .val (.int p4), .val (.int p5), .val (.int (f1 p0)), .val (.int (f1 p1)), .val (.int (f1 p2)), .val (.int (f1 p3)), .val (.int (f1 p4)), .val (.ref b6), .val (.int (1 : Int32)), .unset, .unset] [(.int (f1 p4)), (.int (nar .boolean ((f6_r1_a (own_upd (own_upd (own_upd (own_upd (own_upd (fun _ => 0) 0 (1 : Int32)) ((f1 p0)).toNatClampNeg (1 : Int32)) ((f1 p1)).toNatClampNeg (1 : Int32)) ((f1 p2)).toNatClampNeg (1 : Int32)) (((1 : Int32) + (((p5.toUInt32 >>> ((2 : Int32) &&& 31).toUInt32).toInt32) - (((p5.toUInt32 >>> ((2 : Int32) &&& 31).toUInt32).toInt32) / (19 : Int32)) * (19 : Int32)))).toNatClampNeg (0 : Int32))) ((f1 p4)).toNatClampNeg)))])) t → Steps p.tables e below (s₁.setTop (entryFrame m #[(.int p0), (.int p1), (.int p2), (.int p3), (.int p4), (.int p5)] maxLocals)) t := fun t kt => pre167 t (by
            show Steps p.tables e below (T142.setTop (mkF m 116 #[.val (.int p0), .val (.int p1), .val (.int p2), .val (.int p3), .val (.int p4), .val (.int p5), .val (.int (f1 p0)), .val (.int (f1 p1)), .val (.int (f1 p2)), .val (.int (f1 p3)), .val (.int (f1 p4)), .val (.ref b6), .unset, .unset, .unset] [(.int (0 : Int32)), (.int (nar .boolean ((f6_r1_a (own_upd (own_upd (own_upd (own_upd (own_upd (fun _ => 0) 0 (1 : Int32)) ((f1 p0)).toNatClampNeg (1 : Int32)) ((f1 p1)).toNatClampNeg (1 : Int32)) ((f1 p2)).toNatClampNeg (1 : Int32)) (((1 : Int32) + (((p5.toUInt32 >>> ((2 : Int32) &&& 31).toUInt32).toInt32) - (((p5.toUInt32 >>> ((2 : Int32) &&& 31).toUInt32).toInt32) / (19 : Int32)) * (19 : Int32)))).toNatClampNeg (0 : Int32))) ((f1 p3)).toNatClampNeg)))])) _
            refine XS.icmpNo X142.here hx rfl (hb hby at_116) rfl (teq hd116_168).2 ?_
            show Steps p.tables e below (T142.setTop (mkF m 119 #[.val (.int p0), .val (.int p1), .val (.int p2), .val (.int p3), .val (.int p4), .val (.int p5), .val (.int (f1 p0)), .val (.int (f1 p1)), .val (.int (f1 p2)), .val (.int (f1 p3)), .val (.int (f1 p4)), .val (.ref b6), .unset, .unset, .unset] [])) _
            refine XS.iconst X142.here hx rfl (hb hby at_119) ?_
            show Steps p.tables e below (T142.setTop (mkF m 120 #[.val (.int p0), .val (.int p1), .val (.int p2), .val (.int p3), .val (.int p4), .val (.int p5), .val (.int (f1 p0)), .val (.int (f1 p1)), .val (.int (f1 p2)), .val (.int (f1 p3)), .val (.int (f1 p4)), .val (.ref b6), .unset, .unset, .unset] [(.int (1 : Int32))])) _
            refine XS.goto X142.here hx rfl (pc0 := 120) (pc' := 124) rfl (hb hby at_120) (by decide) (by decide) ?_
            show Steps p.tables e below (T142.setTop (mkF m 124 #[.val (.int p0), .val (.int p1), .val (.int p2), .val (.int p3), .val (.int p4), .val (.int p5), .val (.int (f1 p0)), .val (.int (f1 p1)), .val (.int (f1 p2)), .val (.int (f1 p3)), .val (.int (f1 p4)), .val (.ref b6), .unset, .unset, .unset] [(.int (1 : Int32))])) _
            refine XS.istore X142.here hx rfl (hb hby at_124) rfl (l' := #[.val (.int p0), .val (.int p1), .val (.int p2), .val (.int p3), .val (.int p4), .val (.int p5), .val (.int (f1 p0)), .val (.int (f1 p1)), .val (.int (f1 p2)), .val (.int (f1 p3)), .val (.int (f1 p4)), .val (.ref b6), .val (.int (1 : Int32)), .unset, .unset]) rfl ?_
            show Steps p.tables e below (T142.setTop (mkF m 126 #[.val (.int p0), .val (.int p1), .val (.int p2), .val (.int p3), .val (.int p4), .val (.int p5), .val (.int (f1 p0)), .val (.int (f1 p1)), .val (.int (f1 p2)), .val (.int (f1 p3)), .val (.int (f1 p4)), .val (.ref b6), .val (.int (1 : Int32)), .unset, .unset] [])) _
            refine XS.aload X142.here hx rfl (hb hby at_126) rfl rfl ?_
            show Steps p.tables e below (T142.setTop (mkF m 128 #[.val (.int p0), .val (.int p1), .val (.int p2), .val (.int p3), .val (.int p4), .val (.int p5), .val (.int (f1 p0)), .val (.int (f1 p1)), .val (.int (f1 p2)), .val (.int (f1 p3)), .val (.int (f1 p4)), .val (.ref b6), .val (.int (1 : Int32)), .unset, .unset] [(.ref b6)])) _
            refine XS.iload X142.here hx rfl (hb hby at_128) rfl ?_
            show Steps p.tables e below (T142.setTop (mkF m 130 #[.val (.int p0), .val (.int p1), .val (.int p2), .val (.int p3), .val (.int p4), .val (.int p5), .val (.int (f1 p0)), .val (.int (f1 p1)), .val (.int (f1 p2)), .val (.int (f1 p3)), .val (.int (f1 p4)), .val (.ref b6), .val (.int (1 : Int32)), .unset, .unset] [(.int (f1 p4)), (.ref b6)])) _
            refine st169.trans ?_
            show Steps p.tables e below (T169.setTop (mkF m 133 #[.val (.int p0), .val (.int p1), .val (.int p2), .val (.int p3), .val (.int p4), .val (.int p5), .val (.int (f1 p0)), .val (.int (f1 p1)), .val (.int (f1 p2)), .val (.int (f1 p3)), .val (.int (f1 p4)), .val (.ref b6), .val (.int (1 : Int32)), .unset, .unset] [(.int (nar .boolean ((f6_r1_a (own_upd (own_upd (own_upd (own_upd (own_upd (fun _ => 0) 0 (1 : Int32)) ((f1 p0)).toNatClampNeg (1 : Int32)) ((f1 p1)).toNatClampNeg (1 : Int32)) ((f1 p2)).toNatClampNeg (1 : Int32)) (((1 : Int32) + (((p5.toUInt32 >>> ((2 : Int32) &&& 31).toUInt32).toInt32) - (((p5.toUInt32 >>> ((2 : Int32) &&& 31).toUInt32).toInt32) / (19 : Int32)) * (19 : Int32)))).toNatClampNeg (0 : Int32))) ((f1 p4)).toNatClampNeg)))])) _
            refine XS.iload X169.here hx rfl (hb hby at_133) rfl ?_
            exact kt)
        by_cases hc135_171 : (f1 p4) = (0 : Int32)
        · have pre172 : ∀ t, Steps p.tables e below (T169.setTop (mkF m 143 #[.val (.int p0), .val (.int p1), .val (.int p2), .val (.int p3), .val (.int p4), .val (.int p5), .val (.int (f1 p0)), .val (.int (f1 p1)), .val (.int (f1 p2)), .val (.int (f1 p3)), .val (.int (f1 p4)), .val (.ref b6), .val (.int (1 : Int32)), .unset, .unset] [(.int (1 : Int32)), (.int (nar .boolean ((f6_r1_a (own_upd (own_upd (own_upd (own_upd (own_upd (fun _ => 0) 0 (1 : Int32)) ((f1 p0)).toNatClampNeg (1 : Int32)) ((f1 p1)).toNatClampNeg (1 : Int32)) ((f1 p2)).toNatClampNeg (1 : Int32)) (((1 : Int32) + (((p5.toUInt32 >>> ((2 : Int32) &&& 31).toUInt32).toInt32) - (((p5.toUInt32 >>> ((2 : Int32) &&& 31).toUInt32).toInt32) / (19 : Int32)) * (19 : Int32)))).toNatClampNeg (0 : Int32))) ((f1 p4)).toNatClampNeg)))])) t → Steps p.tables e below (s₁.setTop (entryFrame m #[(.int p0), (.int p1), (.int p2), (.int p3), (.int p4), (.int p5)] maxLocals)) t := fun t kt => pre170 t (by
              show Steps p.tables e below (T169.setTop (mkF m 135 #[.val (.int p0), .val (.int p1), .val (.int p2), .val (.int p3), .val (.int p4), .val (.int p5), .val (.int (f1 p0)), .val (.int (f1 p1)), .val (.int (f1 p2)), .val (.int (f1 p3)), .val (.int (f1 p4)), .val (.ref b6), .val (.int (1 : Int32)), .unset, .unset] [(.int (f1 p4)), (.int (nar .boolean ((f6_r1_a (own_upd (own_upd (own_upd (own_upd (own_upd (fun _ => 0) 0 (1 : Int32)) ((f1 p0)).toNatClampNeg (1 : Int32)) ((f1 p1)).toNatClampNeg (1 : Int32)) ((f1 p2)).toNatClampNeg (1 : Int32)) (((1 : Int32) + (((p5.toUInt32 >>> ((2 : Int32) &&& 31).toUInt32).toInt32) - (((p5.toUInt32 >>> ((2 : Int32) &&& 31).toUInt32).toInt32) / (19 : Int32)) * (19 : Int32)))).toNatClampNeg (0 : Int32))) ((f1 p4)).toNatClampNeg)))])) _
              refine XS.ifNo X169.here hx rfl (hb hby at_135) rfl ((if0 _ _).trans (teq hc135_171).2) ?_
              show Steps p.tables e below (T169.setTop (mkF m 138 #[.val (.int p0), .val (.int p1), .val (.int p2), .val (.int p3), .val (.int p4), .val (.int p5), .val (.int (f1 p0)), .val (.int (f1 p1)), .val (.int (f1 p2)), .val (.int (f1 p3)), .val (.int (f1 p4)), .val (.ref b6), .val (.int (1 : Int32)), .unset, .unset] [(.int (nar .boolean ((f6_r1_a (own_upd (own_upd (own_upd (own_upd (own_upd (fun _ => 0) 0 (1 : Int32)) ((f1 p0)).toNatClampNeg (1 : Int32)) ((f1 p1)).toNatClampNeg (1 : Int32)) ((f1 p2)).toNatClampNeg (1 : Int32)) (((1 : Int32) + (((p5.toUInt32 >>> ((2 : Int32) &&& 31).toUInt32).toInt32) - (((p5.toUInt32 >>> ((2 : Int32) &&& 31).toUInt32).toInt32) / (19 : Int32)) * (19 : Int32)))).toNatClampNeg (0 : Int32))) ((f1 p4)).toNatClampNeg)))])) _
              refine XS.iconst X169.here hx rfl (hb hby at_138) ?_
              show Steps p.tables e below (T169.setTop (mkF m 139 #[.val (.int p0), .val (.int p1), .val (.int p2), .val (.int p3), .val (.int p4), .val (.int p5), .val (.int (f1 p0)), .val (.int (f1 p1)), .val (.int (f1 p2)), .val (.int (f1 p3)), .val (.int (f1 p4)), .val (.ref b6), .val (.int (1 : Int32)), .unset, .unset] [(.int (1 : Int32)), (.int (nar .boolean ((f6_r1_a (own_upd (own_upd (own_upd (own_upd (own_upd (fun _ => 0) 0 (1 : Int32)) ((f1 p0)).toNatClampNeg (1 : Int32)) ((f1 p1)).toNatClampNeg (1 : Int32)) ((f1 p2)).toNatClampNeg (1 : Int32)) (((1 : Int32) + (((p5.toUInt32 >>> ((2 : Int32) &&& 31).toUInt32).toInt32) - (((p5.toUInt32 >>> ((2 : Int32) &&& 31).toUInt32).toInt32) / (19 : Int32)) * (19 : Int32)))).toNatClampNeg (0 : Int32))) ((f1 p4)).toNatClampNeg)))])) _
              refine XS.goto X169.here hx rfl (pc0 := 139) (pc' := 143) rfl (hb hby at_139) (by decide) (by decide) ?_
              exact kt)
          have hd143_173 : (nar .boolean ((f6_r1_a (own_upd (own_upd (own_upd (own_upd (own_upd (fun _ => 0) 0 (1 : Int32)) ((f1 p0)).toNatClampNeg (1 : Int32)) ((f1 p1)).toNatClampNeg (1 : Int32)) ((f1 p2)).toNatClampNeg (1 : Int32)) (((1 : Int32) + (((p5.toUInt32 >>> ((2 : Int32) &&& 31).toUInt32).toInt32) - (((p5.toUInt32 >>> ((2 : Int32) &&& 31).toUInt32).toInt32) / (19 : Int32)) * (19 : Int32)))).toNatClampNeg (0 : Int32))) ((f1 p4)).toNatClampNeg)) = (1 : Int32) := own_is0 _ (own_ch _) hc135_171
          obtain ⟨cq174, kq174, q174a, q174b, q174c⟩ := isOf hZ e169q (c137.keep K133q)
          obtain ⟨_, _, ⟨T174, L174, k174, n174⟩, -, X174, ⟨Lc174, hQ174, l174, y174, z174⟩, st174⟩ := X169.virtualBack hx (y := (⟨"com/example/cardhost/cardhost/LogicalChannels", "lowestClosed", "()I"⟩ : MethodName)) (z := (⟨"com/example/cardhost/cardhost/LogicalChannels", "lowestClosed", "()I"⟩ : MethodName)) hown (mvT hZ (hw _ (List.mem_of_getElem? (i := 43) rfl))) (mvT hZ (hw _ (List.mem_of_getElem? (i := 44) rfl))) (notFace_of_selects (args := #[]) (mvT hZ (hw _ (List.mem_of_getElem? (i := 46) rfl)))) (mvT hZ (hw _ (List.mem_of_getElem? (i := 46) rfl))) (mvT hZ (hw _ (List.mem_of_getElem? (i := 45) rfl))) (by decide) (backOf (W := 0) (rm8 l Z a0 hw [] b6 r_o0_open_9 (f6_r1_a (own_upd (own_upd (own_upd (own_upd (own_upd (fun _ => 0) 0 (1 : Int32)) ((f1 p0)).toNatClampNeg (1 : Int32)) ((f1 p1)).toNatClampNeg (1 : Int32)) ((f1 p2)).toNatClampNeg (1 : Int32)) (((1 : Int32) + (((p5.toUInt32 >>> ((2 : Int32) &&& 31).toUInt32).toInt32) - (((p5.toUInt32 >>> ((2 : Int32) &&& 31).toUInt32).toInt32) / (19 : Int32)) * (19 : Int32)))).toNatClampNeg (0 : Int32))) T133.heap n0 Z139 c143 G133_0 g_r_o0_open_9) hZ (hw _ (List.mem_of_getElem? (i := 47) rfl)) (hw _ (List.mem_of_getElem? (i := 7) rfl)) (by decide) (by decide)) q174a q174c (g := (mkF m 155 #[.val (.int p0), .val (.int p1), .val (.int p2), .val (.int p3), .val (.int p4), .val (.int p5), .val (.int (f1 p0)), .val (.int (f1 p1)), .val (.int (f1 p2)), .val (.int (f1 p3)), .val (.int (f1 p4)), .val (.ref b6), .val (.int (1 : Int32)), .val (.int (1 : Int32)), .unset] [(.ref b6)])) rfl (by rw [hml]; rfl) (Steps.refl _) (argsL := []) (rest := []) (lenOf pd_0_4 rfl) rfl (by show 2 * 0 + _ ≤ _; exact Nat.le_of_eq rfl) (hb hby at_155) (fun _ _ => ⟨rfl, e169q, (by decide : 4 + 0 ≤ _), (by decide : 63 + 0 ≤ _)⟩)
          dsimp only [Pt.U, Pt.locs, Pt.cells, Pt.slots] at X174 l174 y174 z174 st174 hQ174
          subst l174 y174 z174
          obtain ⟨rfl, N174q, e174q⟩ := hQ174
          have N174 := Fr.app N169 N174q
          have pre175 : ∀ t, Steps p.tables e below (T174.setTop (mkF m 159 #[.val (.int p0), .val (.int p1), .val (.int p2), .val (.int p3), .val (.int p4), .val (.int p5), .val (.int (f1 p0)), .val (.int (f1 p1)), .val (.int (f1 p2)), .val (.int (f1 p3)), .val (.int (f1 p4)), .val (.ref b6), .val (.int (1 : Int32)), .val (.int (1 : Int32)), .unset] [(.int (1 : Int32)), (.int (f8 (f6_r1_a (own_upd (own_upd (own_upd (own_upd (own_upd (fun _ => 0) 0 (1 : Int32)) ((f1 p0)).toNatClampNeg (1 : Int32)) ((f1 p1)).toNatClampNeg (1 : Int32)) ((f1 p2)).toNatClampNeg (1 : Int32)) (((1 : Int32) + (((p5.toUInt32 >>> ((2 : Int32) &&& 31).toUInt32).toInt32) - (((p5.toUInt32 >>> ((2 : Int32) &&& 31).toUInt32).toInt32) / (19 : Int32)) * (19 : Int32)))).toNatClampNeg (0 : Int32)))))])) t → Steps p.tables e below (s₁.setTop (entryFrame m #[(.int p0), (.int p1), (.int p2), (.int p3), (.int p4), (.int p5)] maxLocals)) t := fun t kt => pre172 t (by
              show Steps p.tables e below (T169.setTop (mkF m 143 #[.val (.int p0), .val (.int p1), .val (.int p2), .val (.int p3), .val (.int p4), .val (.int p5), .val (.int (f1 p0)), .val (.int (f1 p1)), .val (.int (f1 p2)), .val (.int (f1 p3)), .val (.int (f1 p4)), .val (.ref b6), .val (.int (1 : Int32)), .unset, .unset] [(.int (1 : Int32)), (.int (nar .boolean ((f6_r1_a (own_upd (own_upd (own_upd (own_upd (own_upd (fun _ => 0) 0 (1 : Int32)) ((f1 p0)).toNatClampNeg (1 : Int32)) ((f1 p1)).toNatClampNeg (1 : Int32)) ((f1 p2)).toNatClampNeg (1 : Int32)) (((1 : Int32) + (((p5.toUInt32 >>> ((2 : Int32) &&& 31).toUInt32).toInt32) - (((p5.toUInt32 >>> ((2 : Int32) &&& 31).toUInt32).toInt32) / (19 : Int32)) * (19 : Int32)))).toNatClampNeg (0 : Int32))) ((f1 p4)).toNatClampNeg)))])) _
              refine XS.icmpNo X169.here hx rfl (hb hby at_143) rfl (teq hd143_173).2 ?_
              show Steps p.tables e below (T169.setTop (mkF m 146 #[.val (.int p0), .val (.int p1), .val (.int p2), .val (.int p3), .val (.int p4), .val (.int p5), .val (.int (f1 p0)), .val (.int (f1 p1)), .val (.int (f1 p2)), .val (.int (f1 p3)), .val (.int (f1 p4)), .val (.ref b6), .val (.int (1 : Int32)), .unset, .unset] [])) _
              refine XS.iconst X169.here hx rfl (hb hby at_146) ?_
              show Steps p.tables e below (T169.setTop (mkF m 147 #[.val (.int p0), .val (.int p1), .val (.int p2), .val (.int p3), .val (.int p4), .val (.int p5), .val (.int (f1 p0)), .val (.int (f1 p1)), .val (.int (f1 p2)), .val (.int (f1 p3)), .val (.int (f1 p4)), .val (.ref b6), .val (.int (1 : Int32)), .unset, .unset] [(.int (1 : Int32))])) _
              refine XS.goto X169.here hx rfl (pc0 := 147) (pc' := 151) rfl (hb hby at_147) (by decide) (by decide) ?_
              show Steps p.tables e below (T169.setTop (mkF m 151 #[.val (.int p0), .val (.int p1), .val (.int p2), .val (.int p3), .val (.int p4), .val (.int p5), .val (.int (f1 p0)), .val (.int (f1 p1)), .val (.int (f1 p2)), .val (.int (f1 p3)), .val (.int (f1 p4)), .val (.ref b6), .val (.int (1 : Int32)), .unset, .unset] [(.int (1 : Int32))])) _
              refine XS.istore X169.here hx rfl (hb hby at_151) rfl (l' := #[.val (.int p0), .val (.int p1), .val (.int p2), .val (.int p3), .val (.int p4), .val (.int p5), .val (.int (f1 p0)), .val (.int (f1 p1)), .val (.int (f1 p2)), .val (.int (f1 p3)), .val (.int (f1 p4)), .val (.ref b6), .val (.int (1 : Int32)), .val (.int (1 : Int32)), .unset]) rfl ?_
              show Steps p.tables e below (T169.setTop (mkF m 153 #[.val (.int p0), .val (.int p1), .val (.int p2), .val (.int p3), .val (.int p4), .val (.int p5), .val (.int (f1 p0)), .val (.int (f1 p1)), .val (.int (f1 p2)), .val (.int (f1 p3)), .val (.int (f1 p4)), .val (.ref b6), .val (.int (1 : Int32)), .val (.int (1 : Int32)), .unset] [])) _
              refine XS.aload X169.here hx rfl (hb hby at_153) rfl rfl ?_
              show Steps p.tables e below (T169.setTop (mkF m 155 #[.val (.int p0), .val (.int p1), .val (.int p2), .val (.int p3), .val (.int p4), .val (.int p5), .val (.int (f1 p0)), .val (.int (f1 p1)), .val (.int (f1 p2)), .val (.int (f1 p3)), .val (.int (f1 p4)), .val (.ref b6), .val (.int (1 : Int32)), .val (.int (1 : Int32)), .unset] [(.ref b6)])) _
              refine st174.trans ?_
              show Steps p.tables e below (T174.setTop (mkF m 158 #[.val (.int p0), .val (.int p1), .val (.int p2), .val (.int p3), .val (.int p4), .val (.int p5), .val (.int (f1 p0)), .val (.int (f1 p1)), .val (.int (f1 p2)), .val (.int (f1 p3)), .val (.int (f1 p4)), .val (.ref b6), .val (.int (1 : Int32)), .val (.int (1 : Int32)), .unset] [(.int (f8 (f6_r1_a (own_upd (own_upd (own_upd (own_upd (own_upd (fun _ => 0) 0 (1 : Int32)) ((f1 p0)).toNatClampNeg (1 : Int32)) ((f1 p1)).toNatClampNeg (1 : Int32)) ((f1 p2)).toNatClampNeg (1 : Int32)) (((1 : Int32) + (((p5.toUInt32 >>> ((2 : Int32) &&& 31).toUInt32).toInt32) - (((p5.toUInt32 >>> ((2 : Int32) &&& 31).toUInt32).toInt32) / (19 : Int32)) * (19 : Int32)))).toNatClampNeg (0 : Int32)))))])) _
              refine XS.iconst X174.here hx rfl (hb hby at_158) ?_
              exact kt)
          have hd159_176 : (f8 (f6_r1_a (own_upd (own_upd (own_upd (own_upd (own_upd (fun _ => 0) 0 (1 : Int32)) ((f1 p0)).toNatClampNeg (1 : Int32)) ((f1 p1)).toNatClampNeg (1 : Int32)) ((f1 p2)).toNatClampNeg (1 : Int32)) (((1 : Int32) + (((p5.toUInt32 >>> ((2 : Int32) &&& 31).toUInt32).toInt32) - (((p5.toUInt32 >>> ((2 : Int32) &&& 31).toUInt32).toInt32) / (19 : Int32)) * (19 : Int32)))).toNatClampNeg (0 : Int32)))) = (1 : Int32) := own_lc _
          have pre177 : ∀ t, Steps p.tables e below (T174.setTop (mkF m 171 #[.val (.int p0), .val (.int p1), .val (.int p2), .val (.int p3), .val (.int p4), .val (.int p5), .val (.int (f1 p0)), .val (.int (f1 p1)), .val (.int (f1 p2)), .val (.int (f1 p3)), .val (.int (f1 p4)), .val (.ref b6), .val (.int (1 : Int32)), .val (.int (1 : Int32)), .val (.int (1 : Int32))] [(.int (1 : Int32))])) t → Steps p.tables e below (s₁.setTop (entryFrame m #[(.int p0), (.int p1), (.int p2), (.int p3), (.int p4), (.int p5)] maxLocals)) t := fun t kt => pre175 t (by
              show Steps p.tables e below (T174.setTop (mkF m 159 #[.val (.int p0), .val (.int p1), .val (.int p2), .val (.int p3), .val (.int p4), .val (.int p5), .val (.int (f1 p0)), .val (.int (f1 p1)), .val (.int (f1 p2)), .val (.int (f1 p3)), .val (.int (f1 p4)), .val (.ref b6), .val (.int (1 : Int32)), .val (.int (1 : Int32)), .unset] [(.int (1 : Int32)), (.int (f8 (f6_r1_a (own_upd (own_upd (own_upd (own_upd (own_upd (fun _ => 0) 0 (1 : Int32)) ((f1 p0)).toNatClampNeg (1 : Int32)) ((f1 p1)).toNatClampNeg (1 : Int32)) ((f1 p2)).toNatClampNeg (1 : Int32)) (((1 : Int32) + (((p5.toUInt32 >>> ((2 : Int32) &&& 31).toUInt32).toInt32) - (((p5.toUInt32 >>> ((2 : Int32) &&& 31).toUInt32).toInt32) / (19 : Int32)) * (19 : Int32)))).toNatClampNeg (0 : Int32)))))])) _
              refine XS.icmpNo X174.here hx rfl (hb hby at_159) rfl (teq hd159_176).2 ?_
              show Steps p.tables e below (T174.setTop (mkF m 162 #[.val (.int p0), .val (.int p1), .val (.int p2), .val (.int p3), .val (.int p4), .val (.int p5), .val (.int (f1 p0)), .val (.int (f1 p1)), .val (.int (f1 p2)), .val (.int (f1 p3)), .val (.int (f1 p4)), .val (.ref b6), .val (.int (1 : Int32)), .val (.int (1 : Int32)), .unset] [])) _
              refine XS.iconst X174.here hx rfl (hb hby at_162) ?_
              show Steps p.tables e below (T174.setTop (mkF m 163 #[.val (.int p0), .val (.int p1), .val (.int p2), .val (.int p3), .val (.int p4), .val (.int p5), .val (.int (f1 p0)), .val (.int (f1 p1)), .val (.int (f1 p2)), .val (.int (f1 p3)), .val (.int (f1 p4)), .val (.ref b6), .val (.int (1 : Int32)), .val (.int (1 : Int32)), .unset] [(.int (1 : Int32))])) _
              refine XS.goto X174.here hx rfl (pc0 := 163) (pc' := 167) rfl (hb hby at_163) (by decide) (by decide) ?_
              show Steps p.tables e below (T174.setTop (mkF m 167 #[.val (.int p0), .val (.int p1), .val (.int p2), .val (.int p3), .val (.int p4), .val (.int p5), .val (.int (f1 p0)), .val (.int (f1 p1)), .val (.int (f1 p2)), .val (.int (f1 p3)), .val (.int (f1 p4)), .val (.ref b6), .val (.int (1 : Int32)), .val (.int (1 : Int32)), .unset] [(.int (1 : Int32))])) _
              refine XS.istore X174.here hx rfl (hb hby at_167) rfl (l' := #[.val (.int p0), .val (.int p1), .val (.int p2), .val (.int p3), .val (.int p4), .val (.int p5), .val (.int (f1 p0)), .val (.int (f1 p1)), .val (.int (f1 p2)), .val (.int (f1 p3)), .val (.int (f1 p4)), .val (.ref b6), .val (.int (1 : Int32)), .val (.int (1 : Int32)), .val (.int (1 : Int32))]) rfl ?_
              show Steps p.tables e below (T174.setTop (mkF m 169 #[.val (.int p0), .val (.int p1), .val (.int p2), .val (.int p3), .val (.int p4), .val (.int p5), .val (.int (f1 p0)), .val (.int (f1 p1)), .val (.int (f1 p2)), .val (.int (f1 p3)), .val (.int (f1 p4)), .val (.ref b6), .val (.int (1 : Int32)), .val (.int (1 : Int32)), .val (.int (1 : Int32))] [])) _
              refine XS.iload X174.here hx rfl (hb hby at_169) rfl ?_
              exact kt)
          have pre178 : ∀ t, Steps p.tables e below (T174.setTop (mkF m 176 #[.val (.int p0), .val (.int p1), .val (.int p2), .val (.int p3), .val (.int p4), .val (.int p5), .val (.int (f1 p0)), .val (.int (f1 p1)), .val (.int (f1 p2)), .val (.int (f1 p3)), .val (.int (f1 p4)), .val (.ref b6), .val (.int (1 : Int32)), .val (.int (1 : Int32)), .val (.int (1 : Int32))] [(.int (1 : Int32))])) t → Steps p.tables e below (s₁.setTop (entryFrame m #[(.int p0), (.int p1), (.int p2), (.int p3), (.int p4), (.int p5)] maxLocals)) t := fun t kt => pre177 t (by
              show Steps p.tables e below (T174.setTop (mkF m 171 #[.val (.int p0), .val (.int p1), .val (.int p2), .val (.int p3), .val (.int p4), .val (.int p5), .val (.int (f1 p0)), .val (.int (f1 p1)), .val (.int (f1 p2)), .val (.int (f1 p3)), .val (.int (f1 p4)), .val (.ref b6), .val (.int (1 : Int32)), .val (.int (1 : Int32)), .val (.int (1 : Int32))] [(.int (1 : Int32))])) _
              refine XS.ifNo X174.here hx rfl (hb hby at_171) rfl ((if0 _ _).trans (feq (by decide : ¬ ((1 : Int32) = (0 : Int32)))).1) ?_
              show Steps p.tables e below (T174.setTop (mkF m 174 #[.val (.int p0), .val (.int p1), .val (.int p2), .val (.int p3), .val (.int p4), .val (.int p5), .val (.int (f1 p0)), .val (.int (f1 p1)), .val (.int (f1 p2)), .val (.int (f1 p3)), .val (.int (f1 p4)), .val (.ref b6), .val (.int (1 : Int32)), .val (.int (1 : Int32)), .val (.int (1 : Int32))] [])) _
              refine XS.iload X174.here hx rfl (hb hby at_174) rfl ?_
              exact kt)
          have pre179 : ∀ t, Steps p.tables e below (T174.setTop (mkF m 181 #[.val (.int p0), .val (.int p1), .val (.int p2), .val (.int p3), .val (.int p4), .val (.int p5), .val (.int (f1 p0)), .val (.int (f1 p1)), .val (.int (f1 p2)), .val (.int (f1 p3)), .val (.int (f1 p4)), .val (.ref b6), .val (.int (1 : Int32)), .val (.int (1 : Int32)), .val (.int (1 : Int32))] [(.int (1 : Int32))])) t → Steps p.tables e below (s₁.setTop (entryFrame m #[(.int p0), (.int p1), (.int p2), (.int p3), (.int p4), (.int p5)] maxLocals)) t := fun t kt => pre178 t (by
              show Steps p.tables e below (T174.setTop (mkF m 176 #[.val (.int p0), .val (.int p1), .val (.int p2), .val (.int p3), .val (.int p4), .val (.int p5), .val (.int (f1 p0)), .val (.int (f1 p1)), .val (.int (f1 p2)), .val (.int (f1 p3)), .val (.int (f1 p4)), .val (.ref b6), .val (.int (1 : Int32)), .val (.int (1 : Int32)), .val (.int (1 : Int32))] [(.int (1 : Int32))])) _
              refine XS.ifNo X174.here hx rfl (hb hby at_176) rfl ((if0 _ _).trans (feq (by decide : ¬ ((1 : Int32) = (0 : Int32)))).1) ?_
              show Steps p.tables e below (T174.setTop (mkF m 179 #[.val (.int p0), .val (.int p1), .val (.int p2), .val (.int p3), .val (.int p4), .val (.int p5), .val (.int (f1 p0)), .val (.int (f1 p1)), .val (.int (f1 p2)), .val (.int (f1 p3)), .val (.int (f1 p4)), .val (.ref b6), .val (.int (1 : Int32)), .val (.int (1 : Int32)), .val (.int (1 : Int32))] [])) _
              refine XS.iload X174.here hx rfl (hb hby at_179) rfl ?_
              exact kt)
          obtain ⟨fs, hr, hrun, hended, hW, hsame⟩ := X174.leave (v := some (.int (1 : Int32))) (fun h => by rw [Bd.returns] at h; cases h)
          have hv249 : (1 : Int32) = (1 : Int32) := rfl
          refine ⟨_, _, pre179 _ ?_, hrun, hended, _, _, rfl, ?_, ⟨_, rfl⟩, hW, hsame.mono (by decide) (by decide)⟩
          · show Steps p.tables e below (T174.setTop (mkF m 181 #[.val (.int p0), .val (.int p1), .val (.int p2), .val (.int p3), .val (.int p4), .val (.int p5), .val (.int (f1 p0)), .val (.int (f1 p1)), .val (.int (f1 p2)), .val (.int (f1 p3)), .val (.int (f1 p4)), .val (.ref b6), .val (.int (1 : Int32)), .val (.int (1 : Int32)), .val (.int (1 : Int32))] [(.int (1 : Int32))])) _
            refine XS.ifNo X174.here hx rfl (hb hby at_181) rfl ((if0 _ _).trans (feq (by decide : ¬ ((1 : Int32) = (0 : Int32)))).1) ?_
            show Steps p.tables e below (T174.setTop (mkF m 184 #[.val (.int p0), .val (.int p1), .val (.int p2), .val (.int p3), .val (.int p4), .val (.int p5), .val (.int (f1 p0)), .val (.int (f1 p1)), .val (.int (f1 p2)), .val (.int (f1 p3)), .val (.int (f1 p4)), .val (.ref b6), .val (.int (1 : Int32)), .val (.int (1 : Int32)), .val (.int (1 : Int32))] [])) _
            refine XS.iconst X174.here hx rfl (hb hby at_184) ?_
            show Steps p.tables e below (T174.setTop (mkF m 185 #[.val (.int p0), .val (.int p1), .val (.int p2), .val (.int p3), .val (.int p4), .val (.int p5), .val (.int (f1 p0)), .val (.int (f1 p1)), .val (.int (f1 p2)), .val (.int (f1 p3)), .val (.int (f1 p4)), .val (.ref b6), .val (.int (1 : Int32)), .val (.int (1 : Int32)), .val (.int (1 : Int32))] [(.int (1 : Int32))])) _
            refine XS.goto X174.here hx rfl (pc0 := 185) (pc' := 189) rfl (hb hby at_185) (by decide) (by decide) ?_
            show Steps p.tables e below (T174.setTop (mkF m 189 #[.val (.int p0), .val (.int p1), .val (.int p2), .val (.int p3), .val (.int p4), .val (.int p5), .val (.int (f1 p0)), .val (.int (f1 p1)), .val (.int (f1 p2)), .val (.int (f1 p3)), .val (.int (f1 p4)), .val (.ref b6), .val (.int (1 : Int32)), .val (.int (1 : Int32)), .val (.int (1 : Int32))] [(.int (1 : Int32))])) _
            exact retN X174 hx (t := .boolean) Bd.returns (by simp) (hb hby at_189) hr
          · show Q0 Z p0 p1 p2 p3 p4 p5 h0 n0 _ T174.heap _
            rw [e174q]
            exact ⟨congrArg (fun q => some (Value.int q)) hv249, N174⟩
        · have pre180 : ∀ t, Steps p.tables e below (T169.setTop (mkF m 143 #[.val (.int p0), .val (.int p1), .val (.int p2), .val (.int p3), .val (.int p4), .val (.int p5), .val (.int (f1 p0)), .val (.int (f1 p1)), .val (.int (f1 p2)), .val (.int (f1 p3)), .val (.int (f1 p4)), .val (.ref b6), .val (.int (1 : Int32)), .unset, .unset] [(.int (0 : Int32)), (.int (nar .boolean ((f6_r1_a (own_upd (own_upd (own_upd (own_upd (own_upd (fun _ => 0) 0 (1 : Int32)) ((f1 p0)).toNatClampNeg (1 : Int32)) ((f1 p1)).toNatClampNeg (1 : Int32)) ((f1 p2)).toNatClampNeg (1 : Int32)) (((1 : Int32) + (((p5.toUInt32 >>> ((2 : Int32) &&& 31).toUInt32).toInt32) - (((p5.toUInt32 >>> ((2 : Int32) &&& 31).toUInt32).toInt32) / (19 : Int32)) * (19 : Int32)))).toNatClampNeg (0 : Int32))) ((f1 p4)).toNatClampNeg)))])) t → Steps p.tables e below (s₁.setTop (entryFrame m #[(.int p0), (.int p1), (.int p2), (.int p3), (.int p4), (.int p5)] maxLocals)) t := fun t kt => pre170 t (by
              show Steps p.tables e below (T169.setTop (mkF m 135 #[.val (.int p0), .val (.int p1), .val (.int p2), .val (.int p3), .val (.int p4), .val (.int p5), .val (.int (f1 p0)), .val (.int (f1 p1)), .val (.int (f1 p2)), .val (.int (f1 p3)), .val (.int (f1 p4)), .val (.ref b6), .val (.int (1 : Int32)), .unset, .unset] [(.int (f1 p4)), (.int (nar .boolean ((f6_r1_a (own_upd (own_upd (own_upd (own_upd (own_upd (fun _ => 0) 0 (1 : Int32)) ((f1 p0)).toNatClampNeg (1 : Int32)) ((f1 p1)).toNatClampNeg (1 : Int32)) ((f1 p2)).toNatClampNeg (1 : Int32)) (((1 : Int32) + (((p5.toUInt32 >>> ((2 : Int32) &&& 31).toUInt32).toInt32) - (((p5.toUInt32 >>> ((2 : Int32) &&& 31).toUInt32).toInt32) / (19 : Int32)) * (19 : Int32)))).toNatClampNeg (0 : Int32))) ((f1 p4)).toNatClampNeg)))])) _
              refine XS.ifYes X169.here hx rfl (pc0 := 135) (pc' := 142) rfl (hb hby at_135) rfl ((if0 _ _).trans (feq hc135_171).2) (by decide) (by decide) ?_
              show Steps p.tables e below (T169.setTop (mkF m 142 #[.val (.int p0), .val (.int p1), .val (.int p2), .val (.int p3), .val (.int p4), .val (.int p5), .val (.int (f1 p0)), .val (.int (f1 p1)), .val (.int (f1 p2)), .val (.int (f1 p3)), .val (.int (f1 p4)), .val (.ref b6), .val (.int (1 : Int32)), .unset, .unset] [(.int (nar .boolean ((f6_r1_a (own_upd (own_upd (own_upd (own_upd (own_upd (fun _ => 0) 0 (1 : Int32)) ((f1 p0)).toNatClampNeg (1 : Int32)) ((f1 p1)).toNatClampNeg (1 : Int32)) ((f1 p2)).toNatClampNeg (1 : Int32)) (((1 : Int32) + (((p5.toUInt32 >>> ((2 : Int32) &&& 31).toUInt32).toInt32) - (((p5.toUInt32 >>> ((2 : Int32) &&& 31).toUInt32).toInt32) / (19 : Int32)) * (19 : Int32)))).toNatClampNeg (0 : Int32))) ((f1 p4)).toNatClampNeg)))])) _
              refine XS.iconst X169.here hx rfl (hb hby at_142) ?_
              exact kt)
          have hd143_181 : (nar .boolean ((f6_r1_a (own_upd (own_upd (own_upd (own_upd (own_upd (fun _ => 0) 0 (1 : Int32)) ((f1 p0)).toNatClampNeg (1 : Int32)) ((f1 p1)).toNatClampNeg (1 : Int32)) ((f1 p2)).toNatClampNeg (1 : Int32)) (((1 : Int32) + (((p5.toUInt32 >>> ((2 : Int32) &&& 31).toUInt32).toInt32) - (((p5.toUInt32 >>> ((2 : Int32) &&& 31).toUInt32).toInt32) / (19 : Int32)) * (19 : Int32)))).toNatClampNeg (0 : Int32))) ((f1 p4)).toNatClampNeg)) = (0 : Int32) := own_is1 _ (own_ch _) hc135_171
          obtain ⟨cq182, kq182, q182a, q182b, q182c⟩ := isOf hZ e169q (c137.keep K133q)
          obtain ⟨_, _, ⟨T182, L182, k182, n182⟩, -, X182, ⟨Lc182, hQ182, l182, y182, z182⟩, st182⟩ := X169.virtualBack hx (y := (⟨"com/example/cardhost/cardhost/LogicalChannels", "lowestClosed", "()I"⟩ : MethodName)) (z := (⟨"com/example/cardhost/cardhost/LogicalChannels", "lowestClosed", "()I"⟩ : MethodName)) hown (mvT hZ (hw _ (List.mem_of_getElem? (i := 43) rfl))) (mvT hZ (hw _ (List.mem_of_getElem? (i := 44) rfl))) (notFace_of_selects (args := #[]) (mvT hZ (hw _ (List.mem_of_getElem? (i := 46) rfl)))) (mvT hZ (hw _ (List.mem_of_getElem? (i := 46) rfl))) (mvT hZ (hw _ (List.mem_of_getElem? (i := 45) rfl))) (by decide) (backOf (W := 0) (rm8 l Z a0 hw [] b6 r_o0_open_9 (f6_r1_a (own_upd (own_upd (own_upd (own_upd (own_upd (fun _ => 0) 0 (1 : Int32)) ((f1 p0)).toNatClampNeg (1 : Int32)) ((f1 p1)).toNatClampNeg (1 : Int32)) ((f1 p2)).toNatClampNeg (1 : Int32)) (((1 : Int32) + (((p5.toUInt32 >>> ((2 : Int32) &&& 31).toUInt32).toInt32) - (((p5.toUInt32 >>> ((2 : Int32) &&& 31).toUInt32).toInt32) / (19 : Int32)) * (19 : Int32)))).toNatClampNeg (0 : Int32))) T133.heap n0 Z139 c143 G133_0 g_r_o0_open_9) hZ (hw _ (List.mem_of_getElem? (i := 47) rfl)) (hw _ (List.mem_of_getElem? (i := 7) rfl)) (by decide) (by decide)) q182a q182c (g := (mkF m 155 #[.val (.int p0), .val (.int p1), .val (.int p2), .val (.int p3), .val (.int p4), .val (.int p5), .val (.int (f1 p0)), .val (.int (f1 p1)), .val (.int (f1 p2)), .val (.int (f1 p3)), .val (.int (f1 p4)), .val (.ref b6), .val (.int (1 : Int32)), .val (.int (1 : Int32)), .unset] [(.ref b6)])) rfl (by rw [hml]; rfl) (Steps.refl _) (argsL := []) (rest := []) (lenOf pd_0_4 rfl) rfl (by show 2 * 0 + _ ≤ _; exact Nat.le_of_eq rfl) (hb hby at_155) (fun _ _ => ⟨rfl, e169q, (by decide : 4 + 0 ≤ _), (by decide : 63 + 0 ≤ _)⟩)
          dsimp only [Pt.U, Pt.locs, Pt.cells, Pt.slots] at X182 l182 y182 z182 st182 hQ182
          subst l182 y182 z182
          obtain ⟨rfl, N182q, e182q⟩ := hQ182
          have N182 := Fr.app N169 N182q
          have pre183 : ∀ t, Steps p.tables e below (T182.setTop (mkF m 159 #[.val (.int p0), .val (.int p1), .val (.int p2), .val (.int p3), .val (.int p4), .val (.int p5), .val (.int (f1 p0)), .val (.int (f1 p1)), .val (.int (f1 p2)), .val (.int (f1 p3)), .val (.int (f1 p4)), .val (.ref b6), .val (.int (1 : Int32)), .val (.int (1 : Int32)), .unset] [(.int (1 : Int32)), (.int (f8 (f6_r1_a (own_upd (own_upd (own_upd (own_upd (own_upd (fun _ => 0) 0 (1 : Int32)) ((f1 p0)).toNatClampNeg (1 : Int32)) ((f1 p1)).toNatClampNeg (1 : Int32)) ((f1 p2)).toNatClampNeg (1 : Int32)) (((1 : Int32) + (((p5.toUInt32 >>> ((2 : Int32) &&& 31).toUInt32).toInt32) - (((p5.toUInt32 >>> ((2 : Int32) &&& 31).toUInt32).toInt32) / (19 : Int32)) * (19 : Int32)))).toNatClampNeg (0 : Int32)))))])) t → Steps p.tables e below (s₁.setTop (entryFrame m #[(.int p0), (.int p1), (.int p2), (.int p3), (.int p4), (.int p5)] maxLocals)) t := fun t kt => pre180 t (by
              show Steps p.tables e below (T169.setTop (mkF m 143 #[.val (.int p0), .val (.int p1), .val (.int p2), .val (.int p3), .val (.int p4), .val (.int p5), .val (.int (f1 p0)), .val (.int (f1 p1)), .val (.int (f1 p2)), .val (.int (f1 p3)), .val (.int (f1 p4)), .val (.ref b6), .val (.int (1 : Int32)), .unset, .unset] [(.int (0 : Int32)), (.int (nar .boolean ((f6_r1_a (own_upd (own_upd (own_upd (own_upd (own_upd (fun _ => 0) 0 (1 : Int32)) ((f1 p0)).toNatClampNeg (1 : Int32)) ((f1 p1)).toNatClampNeg (1 : Int32)) ((f1 p2)).toNatClampNeg (1 : Int32)) (((1 : Int32) + (((p5.toUInt32 >>> ((2 : Int32) &&& 31).toUInt32).toInt32) - (((p5.toUInt32 >>> ((2 : Int32) &&& 31).toUInt32).toInt32) / (19 : Int32)) * (19 : Int32)))).toNatClampNeg (0 : Int32))) ((f1 p4)).toNatClampNeg)))])) _
              refine XS.icmpNo X169.here hx rfl (hb hby at_143) rfl (teq hd143_181).2 ?_
              show Steps p.tables e below (T169.setTop (mkF m 146 #[.val (.int p0), .val (.int p1), .val (.int p2), .val (.int p3), .val (.int p4), .val (.int p5), .val (.int (f1 p0)), .val (.int (f1 p1)), .val (.int (f1 p2)), .val (.int (f1 p3)), .val (.int (f1 p4)), .val (.ref b6), .val (.int (1 : Int32)), .unset, .unset] [])) _
              refine XS.iconst X169.here hx rfl (hb hby at_146) ?_
              show Steps p.tables e below (T169.setTop (mkF m 147 #[.val (.int p0), .val (.int p1), .val (.int p2), .val (.int p3), .val (.int p4), .val (.int p5), .val (.int (f1 p0)), .val (.int (f1 p1)), .val (.int (f1 p2)), .val (.int (f1 p3)), .val (.int (f1 p4)), .val (.ref b6), .val (.int (1 : Int32)), .unset, .unset] [(.int (1 : Int32))])) _
              refine XS.goto X169.here hx rfl (pc0 := 147) (pc' := 151) rfl (hb hby at_147) (by decide) (by decide) ?_
              show Steps p.tables e below (T169.setTop (mkF m 151 #[.val (.int p0), .val (.int p1), .val (.int p2), .val (.int p3), .val (.int p4), .val (.int p5), .val (.int (f1 p0)), .val (.int (f1 p1)), .val (.int (f1 p2)), .val (.int (f1 p3)), .val (.int (f1 p4)), .val (.ref b6), .val (.int (1 : Int32)), .unset, .unset] [(.int (1 : Int32))])) _
              refine XS.istore X169.here hx rfl (hb hby at_151) rfl (l' := #[.val (.int p0), .val (.int p1), .val (.int p2), .val (.int p3), .val (.int p4), .val (.int p5), .val (.int (f1 p0)), .val (.int (f1 p1)), .val (.int (f1 p2)), .val (.int (f1 p3)), .val (.int (f1 p4)), .val (.ref b6), .val (.int (1 : Int32)), .val (.int (1 : Int32)), .unset]) rfl ?_
              show Steps p.tables e below (T169.setTop (mkF m 153 #[.val (.int p0), .val (.int p1), .val (.int p2), .val (.int p3), .val (.int p4), .val (.int p5), .val (.int (f1 p0)), .val (.int (f1 p1)), .val (.int (f1 p2)), .val (.int (f1 p3)), .val (.int (f1 p4)), .val (.ref b6), .val (.int (1 : Int32)), .val (.int (1 : Int32)), .unset] [])) _
              refine XS.aload X169.here hx rfl (hb hby at_153) rfl rfl ?_
              show Steps p.tables e below (T169.setTop (mkF m 155 #[.val (.int p0), .val (.int p1), .val (.int p2), .val (.int p3), .val (.int p4), .val (.int p5), .val (.int (f1 p0)), .val (.int (f1 p1)), .val (.int (f1 p2)), .val (.int (f1 p3)), .val (.int (f1 p4)), .val (.ref b6), .val (.int (1 : Int32)), .val (.int (1 : Int32)), .unset] [(.ref b6)])) _
              refine st182.trans ?_
              show Steps p.tables e below (T182.setTop (mkF m 158 #[.val (.int p0), .val (.int p1), .val (.int p2), .val (.int p3), .val (.int p4), .val (.int p5), .val (.int (f1 p0)), .val (.int (f1 p1)), .val (.int (f1 p2)), .val (.int (f1 p3)), .val (.int (f1 p4)), .val (.ref b6), .val (.int (1 : Int32)), .val (.int (1 : Int32)), .unset] [(.int (f8 (f6_r1_a (own_upd (own_upd (own_upd (own_upd (own_upd (fun _ => 0) 0 (1 : Int32)) ((f1 p0)).toNatClampNeg (1 : Int32)) ((f1 p1)).toNatClampNeg (1 : Int32)) ((f1 p2)).toNatClampNeg (1 : Int32)) (((1 : Int32) + (((p5.toUInt32 >>> ((2 : Int32) &&& 31).toUInt32).toInt32) - (((p5.toUInt32 >>> ((2 : Int32) &&& 31).toUInt32).toInt32) / (19 : Int32)) * (19 : Int32)))).toNatClampNeg (0 : Int32)))))])) _
              refine XS.iconst X182.here hx rfl (hb hby at_158) ?_
              exact kt)
          have hd159_184 : (f8 (f6_r1_a (own_upd (own_upd (own_upd (own_upd (own_upd (fun _ => 0) 0 (1 : Int32)) ((f1 p0)).toNatClampNeg (1 : Int32)) ((f1 p1)).toNatClampNeg (1 : Int32)) ((f1 p2)).toNatClampNeg (1 : Int32)) (((1 : Int32) + (((p5.toUInt32 >>> ((2 : Int32) &&& 31).toUInt32).toInt32) - (((p5.toUInt32 >>> ((2 : Int32) &&& 31).toUInt32).toInt32) / (19 : Int32)) * (19 : Int32)))).toNatClampNeg (0 : Int32)))) = (1 : Int32) := own_lc _
          have pre185 : ∀ t, Steps p.tables e below (T182.setTop (mkF m 171 #[.val (.int p0), .val (.int p1), .val (.int p2), .val (.int p3), .val (.int p4), .val (.int p5), .val (.int (f1 p0)), .val (.int (f1 p1)), .val (.int (f1 p2)), .val (.int (f1 p3)), .val (.int (f1 p4)), .val (.ref b6), .val (.int (1 : Int32)), .val (.int (1 : Int32)), .val (.int (1 : Int32))] [(.int (1 : Int32))])) t → Steps p.tables e below (s₁.setTop (entryFrame m #[(.int p0), (.int p1), (.int p2), (.int p3), (.int p4), (.int p5)] maxLocals)) t := fun t kt => pre183 t (by
              show Steps p.tables e below (T182.setTop (mkF m 159 #[.val (.int p0), .val (.int p1), .val (.int p2), .val (.int p3), .val (.int p4), .val (.int p5), .val (.int (f1 p0)), .val (.int (f1 p1)), .val (.int (f1 p2)), .val (.int (f1 p3)), .val (.int (f1 p4)), .val (.ref b6), .val (.int (1 : Int32)), .val (.int (1 : Int32)), .unset] [(.int (1 : Int32)), (.int (f8 (f6_r1_a (own_upd (own_upd (own_upd (own_upd (own_upd (fun _ => 0) 0 (1 : Int32)) ((f1 p0)).toNatClampNeg (1 : Int32)) ((f1 p1)).toNatClampNeg (1 : Int32)) ((f1 p2)).toNatClampNeg (1 : Int32)) (((1 : Int32) + (((p5.toUInt32 >>> ((2 : Int32) &&& 31).toUInt32).toInt32) - (((p5.toUInt32 >>> ((2 : Int32) &&& 31).toUInt32).toInt32) / (19 : Int32)) * (19 : Int32)))).toNatClampNeg (0 : Int32)))))])) _
              refine XS.icmpNo X182.here hx rfl (hb hby at_159) rfl (teq hd159_184).2 ?_
              show Steps p.tables e below (T182.setTop (mkF m 162 #[.val (.int p0), .val (.int p1), .val (.int p2), .val (.int p3), .val (.int p4), .val (.int p5), .val (.int (f1 p0)), .val (.int (f1 p1)), .val (.int (f1 p2)), .val (.int (f1 p3)), .val (.int (f1 p4)), .val (.ref b6), .val (.int (1 : Int32)), .val (.int (1 : Int32)), .unset] [])) _
              refine XS.iconst X182.here hx rfl (hb hby at_162) ?_
              show Steps p.tables e below (T182.setTop (mkF m 163 #[.val (.int p0), .val (.int p1), .val (.int p2), .val (.int p3), .val (.int p4), .val (.int p5), .val (.int (f1 p0)), .val (.int (f1 p1)), .val (.int (f1 p2)), .val (.int (f1 p3)), .val (.int (f1 p4)), .val (.ref b6), .val (.int (1 : Int32)), .val (.int (1 : Int32)), .unset] [(.int (1 : Int32))])) _
              refine XS.goto X182.here hx rfl (pc0 := 163) (pc' := 167) rfl (hb hby at_163) (by decide) (by decide) ?_
              show Steps p.tables e below (T182.setTop (mkF m 167 #[.val (.int p0), .val (.int p1), .val (.int p2), .val (.int p3), .val (.int p4), .val (.int p5), .val (.int (f1 p0)), .val (.int (f1 p1)), .val (.int (f1 p2)), .val (.int (f1 p3)), .val (.int (f1 p4)), .val (.ref b6), .val (.int (1 : Int32)), .val (.int (1 : Int32)), .unset] [(.int (1 : Int32))])) _
              refine XS.istore X182.here hx rfl (hb hby at_167) rfl (l' := #[.val (.int p0), .val (.int p1), .val (.int p2), .val (.int p3), .val (.int p4), .val (.int p5), .val (.int (f1 p0)), .val (.int (f1 p1)), .val (.int (f1 p2)), .val (.int (f1 p3)), .val (.int (f1 p4)), .val (.ref b6), .val (.int (1 : Int32)), .val (.int (1 : Int32)), .val (.int (1 : Int32))]) rfl ?_
              show Steps p.tables e below (T182.setTop (mkF m 169 #[.val (.int p0), .val (.int p1), .val (.int p2), .val (.int p3), .val (.int p4), .val (.int p5), .val (.int (f1 p0)), .val (.int (f1 p1)), .val (.int (f1 p2)), .val (.int (f1 p3)), .val (.int (f1 p4)), .val (.ref b6), .val (.int (1 : Int32)), .val (.int (1 : Int32)), .val (.int (1 : Int32))] [])) _
              refine XS.iload X182.here hx rfl (hb hby at_169) rfl ?_
              exact kt)
          have pre186 : ∀ t, Steps p.tables e below (T182.setTop (mkF m 176 #[.val (.int p0), .val (.int p1), .val (.int p2), .val (.int p3), .val (.int p4), .val (.int p5), .val (.int (f1 p0)), .val (.int (f1 p1)), .val (.int (f1 p2)), .val (.int (f1 p3)), .val (.int (f1 p4)), .val (.ref b6), .val (.int (1 : Int32)), .val (.int (1 : Int32)), .val (.int (1 : Int32))] [(.int (1 : Int32))])) t → Steps p.tables e below (s₁.setTop (entryFrame m #[(.int p0), (.int p1), (.int p2), (.int p3), (.int p4), (.int p5)] maxLocals)) t := fun t kt => pre185 t (by
              show Steps p.tables e below (T182.setTop (mkF m 171 #[.val (.int p0), .val (.int p1), .val (.int p2), .val (.int p3), .val (.int p4), .val (.int p5), .val (.int (f1 p0)), .val (.int (f1 p1)), .val (.int (f1 p2)), .val (.int (f1 p3)), .val (.int (f1 p4)), .val (.ref b6), .val (.int (1 : Int32)), .val (.int (1 : Int32)), .val (.int (1 : Int32))] [(.int (1 : Int32))])) _
              refine XS.ifNo X182.here hx rfl (hb hby at_171) rfl ((if0 _ _).trans (feq (by decide : ¬ ((1 : Int32) = (0 : Int32)))).1) ?_
              show Steps p.tables e below (T182.setTop (mkF m 174 #[.val (.int p0), .val (.int p1), .val (.int p2), .val (.int p3), .val (.int p4), .val (.int p5), .val (.int (f1 p0)), .val (.int (f1 p1)), .val (.int (f1 p2)), .val (.int (f1 p3)), .val (.int (f1 p4)), .val (.ref b6), .val (.int (1 : Int32)), .val (.int (1 : Int32)), .val (.int (1 : Int32))] [])) _
              refine XS.iload X182.here hx rfl (hb hby at_174) rfl ?_
              exact kt)
          have pre187 : ∀ t, Steps p.tables e below (T182.setTop (mkF m 181 #[.val (.int p0), .val (.int p1), .val (.int p2), .val (.int p3), .val (.int p4), .val (.int p5), .val (.int (f1 p0)), .val (.int (f1 p1)), .val (.int (f1 p2)), .val (.int (f1 p3)), .val (.int (f1 p4)), .val (.ref b6), .val (.int (1 : Int32)), .val (.int (1 : Int32)), .val (.int (1 : Int32))] [(.int (1 : Int32))])) t → Steps p.tables e below (s₁.setTop (entryFrame m #[(.int p0), (.int p1), (.int p2), (.int p3), (.int p4), (.int p5)] maxLocals)) t := fun t kt => pre186 t (by
              show Steps p.tables e below (T182.setTop (mkF m 176 #[.val (.int p0), .val (.int p1), .val (.int p2), .val (.int p3), .val (.int p4), .val (.int p5), .val (.int (f1 p0)), .val (.int (f1 p1)), .val (.int (f1 p2)), .val (.int (f1 p3)), .val (.int (f1 p4)), .val (.ref b6), .val (.int (1 : Int32)), .val (.int (1 : Int32)), .val (.int (1 : Int32))] [(.int (1 : Int32))])) _
              refine XS.ifNo X182.here hx rfl (hb hby at_176) rfl ((if0 _ _).trans (feq (by decide : ¬ ((1 : Int32) = (0 : Int32)))).1) ?_
              show Steps p.tables e below (T182.setTop (mkF m 179 #[.val (.int p0), .val (.int p1), .val (.int p2), .val (.int p3), .val (.int p4), .val (.int p5), .val (.int (f1 p0)), .val (.int (f1 p1)), .val (.int (f1 p2)), .val (.int (f1 p3)), .val (.int (f1 p4)), .val (.ref b6), .val (.int (1 : Int32)), .val (.int (1 : Int32)), .val (.int (1 : Int32))] [])) _
              refine XS.iload X182.here hx rfl (hb hby at_179) rfl ?_
              exact kt)
          obtain ⟨fs, hr, hrun, hended, hW, hsame⟩ := X182.leave (v := some (.int (1 : Int32))) (fun h => by rw [Bd.returns] at h; cases h)
          have hv250 : (1 : Int32) = (1 : Int32) := rfl
          refine ⟨_, _, pre187 _ ?_, hrun, hended, _, _, rfl, ?_, ⟨_, rfl⟩, hW, hsame.mono (by decide) (by decide)⟩
          · show Steps p.tables e below (T182.setTop (mkF m 181 #[.val (.int p0), .val (.int p1), .val (.int p2), .val (.int p3), .val (.int p4), .val (.int p5), .val (.int (f1 p0)), .val (.int (f1 p1)), .val (.int (f1 p2)), .val (.int (f1 p3)), .val (.int (f1 p4)), .val (.ref b6), .val (.int (1 : Int32)), .val (.int (1 : Int32)), .val (.int (1 : Int32))] [(.int (1 : Int32))])) _
            refine XS.ifNo X182.here hx rfl (hb hby at_181) rfl ((if0 _ _).trans (feq (by decide : ¬ ((1 : Int32) = (0 : Int32)))).1) ?_
            show Steps p.tables e below (T182.setTop (mkF m 184 #[.val (.int p0), .val (.int p1), .val (.int p2), .val (.int p3), .val (.int p4), .val (.int p5), .val (.int (f1 p0)), .val (.int (f1 p1)), .val (.int (f1 p2)), .val (.int (f1 p3)), .val (.int (f1 p4)), .val (.ref b6), .val (.int (1 : Int32)), .val (.int (1 : Int32)), .val (.int (1 : Int32))] [])) _
            refine XS.iconst X182.here hx rfl (hb hby at_184) ?_
            show Steps p.tables e below (T182.setTop (mkF m 185 #[.val (.int p0), .val (.int p1), .val (.int p2), .val (.int p3), .val (.int p4), .val (.int p5), .val (.int (f1 p0)), .val (.int (f1 p1)), .val (.int (f1 p2)), .val (.int (f1 p3)), .val (.int (f1 p4)), .val (.ref b6), .val (.int (1 : Int32)), .val (.int (1 : Int32)), .val (.int (1 : Int32))] [(.int (1 : Int32))])) _
            refine XS.goto X182.here hx rfl (pc0 := 185) (pc' := 189) rfl (hb hby at_185) (by decide) (by decide) ?_
            show Steps p.tables e below (T182.setTop (mkF m 189 #[.val (.int p0), .val (.int p1), .val (.int p2), .val (.int p3), .val (.int p4), .val (.int p5), .val (.int (f1 p0)), .val (.int (f1 p1)), .val (.int (f1 p2)), .val (.int (f1 p3)), .val (.int (f1 p4)), .val (.ref b6), .val (.int (1 : Int32)), .val (.int (1 : Int32)), .val (.int (1 : Int32))] [(.int (1 : Int32))])) _
            exact retN X182 hx (t := .boolean) Bd.returns (by simp) (hb hby at_189) hr
          · show Q0 Z p0 p1 p2 p3 p4 p5 h0 n0 _ T182.heap _
            rw [e182q]
            exact ⟨congrArg (fun q => some (Value.int q)) hv250, N182⟩
    · have c189 := (c134.keep K133q (ninS ne_b6_r_o0_open_9 (ninS ne_b6_r_o0_active_9 nin0)))
      have c190 := (c135.keep K133q (ninS ne_b6_r_o0_open_9 (ninS ne_b6_r_o0_active_9 nin0)))
      obtain ⟨cq188, kq188, q188a, q188b, q188c⟩ := isOf hZ rfl (c137.keep K133q)
      obtain ⟨_, _, ⟨T188, L188, k188, n188⟩, -, X188, ⟨Lc188, hQ188, l188, y188, z188⟩, st188⟩ := X133.virtualBack hx (y := (⟨"com/example/cardhost/cardhost/LogicalChannels", "reset", "()V"⟩ : MethodName)) (z := (⟨"com/example/cardhost/cardhost/LogicalChannels", "reset", "()V"⟩ : MethodName)) hown (mvT hZ (hw _ (List.mem_of_getElem? (i := 33) rfl))) (mvT hZ (hw _ (List.mem_of_getElem? (i := 34) rfl))) (notFace_of_selects (args := #[]) (mvT hZ (hw _ (List.mem_of_getElem? (i := 36) rfl)))) (mvT hZ (hw _ (List.mem_of_getElem? (i := 36) rfl))) (mvT hZ (hw _ (List.mem_of_getElem? (i := 35) rfl))) (by decide) (backOf (W := 0) (rm6 l Z a0 hw [] b6 r_o0_open_9 (f6_r1_a (own_upd (own_upd (own_upd (own_upd (own_upd (fun _ => 0) 0 (1 : Int32)) ((f1 p0)).toNatClampNeg (1 : Int32)) ((f1 p1)).toNatClampNeg (1 : Int32)) ((f1 p2)).toNatClampNeg (1 : Int32)) (((1 : Int32) + (((p5.toUInt32 >>> ((2 : Int32) &&& 31).toUInt32).toInt32) - (((p5.toUInt32 >>> ((2 : Int32) &&& 31).toUInt32).toInt32) / (19 : Int32)) * (19 : Int32)))).toNatClampNeg (0 : Int32))) r_o0_active_9 T133.heap n0 Z139 c189 G133_0 c190 G133_1 g_r_o0_open_9 g_r_o0_active_9 ne_b6_r_o0_open_9 ne_b6_r_o0_active_9 ne_r_o0_open_9_r_o0_active_9) hZ (hw _ (List.mem_of_getElem? (i := 37) rfl)) (hw _ (List.mem_of_getElem? (i := 7) rfl)) (by decide) (by decide)) q188a q188c (g := (mkF m 96 #[.val (.int p0), .val (.int p1), .val (.int p2), .val (.int p3), .val (.int p4), .val (.int p5), .val (.int (f1 p0)), .val (.int (f1 p1)), .val (.int (f1 p2)), .val (.int (f1 p3)), .val (.int (f1 p4)), .val (.ref b6), .unset, .unset, .unset] [(.ref b6)])) rfl (by rw [hml]; rfl) (Steps.refl _) (argsL := []) (rest := []) (lenOf pd_0_1 rfl) rfl (by show 2 * 0 + _ ≤ _; exact Nat.le_of_eq rfl) (hb hby at_96) (fun _ _ => ⟨rfl, rfl, (by decide : 4 + 0 ≤ _), (by decide : 63 + 0 ≤ _)⟩)
      dsimp only [Pt.U, Pt.locs, Pt.cells, Pt.slots] at X188 l188 y188 z188 st188 hQ188
      subst l188 y188 z188
      obtain ⟨rfl, N188q, K188q, G188_0, G188_1⟩ := hQ188
      have N188 := Fr.app N133 N188q
      have K191 : Keep h0 T188.heap [] := K138.trans K188q (allS (Or.inr sz_r_o0_open_9) (allS (Or.inr sz_r_o0_active_9) all0))
      have Z192 : n0 ≤ T188.heap.size := Nat.le_trans Z0 K191.1
      obtain ⟨LS188, X188, N188⟩ : ∃ L, Stand p l e room_1 s m #[(.int p0), (.int p1), (.int p2), (.int p3), (.int p4), (.int p5)] below meth c T188 L 4 63 ∧ Fr n0 L := ⟨_, X188, N188⟩
      have c194 := (c189.keep K188q (ninS ne_b6_r_o0_open_9 (ninS ne_b6_r_o0_active_9 nin0)))
      obtain ⟨cq193, kq193, q193a, q193b, q193c⟩ := isOf hZ rfl ((c137.keep K133q).keep K188q)
      obtain ⟨_, _, ⟨T193, L193, k193, n193⟩, -, X193, ⟨Lc193, hQ193, l193, y193, z193⟩, st193⟩ := X188.virtualBack hx (y := (⟨"com/example/cardhost/cardhost/LogicalChannels", "isOpen", "(I)Z"⟩ : MethodName)) (z := (⟨"com/example/cardhost/cardhost/LogicalChannels", "isOpen", "(I)Z"⟩ : MethodName)) hown (mvT hZ (hw _ (List.mem_of_getElem? (i := 38) rfl))) (mvT hZ (hw _ (List.mem_of_getElem? (i := 39) rfl))) (notFace_of_selects (args := #[]) (mvT hZ (hw _ (List.mem_of_getElem? (i := 41) rfl)))) (mvT hZ (hw _ (List.mem_of_getElem? (i := 41) rfl))) (mvT hZ (hw _ (List.mem_of_getElem? (i := 40) rfl))) (by decide) (backOf (W := 0) (rm7 l Z a0 hw [] b6 (f1 p3) r_o0_open_9 (f6_r1_a (f6_r1_a (own_upd (own_upd (own_upd (own_upd (own_upd (fun _ => 0) 0 (1 : Int32)) ((f1 p0)).toNatClampNeg (1 : Int32)) ((f1 p1)).toNatClampNeg (1 : Int32)) ((f1 p2)).toNatClampNeg (1 : Int32)) (((1 : Int32) + (((p5.toUInt32 >>> ((2 : Int32) &&& 31).toUInt32).toInt32) - (((p5.toUInt32 >>> ((2 : Int32) &&& 31).toUInt32).toInt32) / (19 : Int32)) * (19 : Int32)))).toNatClampNeg (0 : Int32)))) T188.heap n0 Z192 c194 G188_0 g_r_o0_open_9 (own_ch _)) hZ (hw _ (List.mem_of_getElem? (i := 42) rfl)) (hw _ (List.mem_of_getElem? (i := 7) rfl)) (by decide) (by decide)) q193a q193c (g := (mkF m 103 #[.val (.int p0), .val (.int p1), .val (.int p2), .val (.int p3), .val (.int p4), .val (.int p5), .val (.int (f1 p0)), .val (.int (f1 p1)), .val (.int (f1 p2)), .val (.int (f1 p3)), .val (.int (f1 p4)), .val (.ref b6), .unset, .unset, .unset] [(.int (f1 p3)), (.ref b6)])) rfl (by rw [hml]; rfl) (Steps.refl _) (argsL := [(.int (f1 p3))]) (rest := []) (lenOf pd_0_3 rfl) rfl (by show 2 * 0 + _ ≤ _; exact Nat.le_of_eq rfl) (hb hby at_103) (fun _ _ => ⟨rfl, rfl, (by decide : 4 + 0 ≤ _), (by decide : 63 + 0 ≤ _)⟩)
      dsimp only [Pt.U, Pt.locs, Pt.cells, Pt.slots] at X193 l193 y193 z193 st193 hQ193
      subst l193 y193 z193
      obtain ⟨rfl, N193q, e193q⟩ := hQ193
      have N193 := Fr.app N188 N193q
      have pre195 : ∀ t, Steps p.tables e below (T193.setTop (mkF m 108 #[.val (.int p0), .val (.int p1), .val (.int p2), .val (.int p3), .val (.int p4), .val (.int p5), .val (.int (f1 p0)), .val (.int (f1 p1)), .val (.int (f1 p2)), .val (.int (f1 p3)), .val (.int (f1 p4)), .val (.ref b6), .unset, .unset, .unset] [(.int (f1 p3)), (.int (nar .boolean ((f6_r1_a (f6_r1_a (own_upd (own_upd (own_upd (own_upd (own_upd (fun _ => 0) 0 (1 : Int32)) ((f1 p0)).toNatClampNeg (1 : Int32)) ((f1 p1)).toNatClampNeg (1 : Int32)) ((f1 p2)).toNatClampNeg (1 : Int32)) (((1 : Int32) + (((p5.toUInt32 >>> ((2 : Int32) &&& 31).toUInt32).toInt32) - (((p5.toUInt32 >>> ((2 : Int32) &&& 31).toUInt32).toInt32) / (19 : Int32)) * (19 : Int32)))).toNatClampNeg (0 : Int32)))) ((f1 p3)).toNatClampNeg)))])) t → Steps p.tables e below (s₁.setTop (entryFrame m #[(.int p0), (.int p1), (.int p2), (.int p3), (.int p4), (.int p5)] maxLocals)) t := fun t kt => pre140 t (by
          show Steps p.tables e below (T133.setTop (mkF m 91 #[.val (.int p0), .val (.int p1), .val (.int p2), .val (.int p3), .val (.int p4), .val (.int p5), .val (.int (f1 p0)), .val (.int (f1 p1)), .val (.int (f1 p2)), .val (.int (f1 p3)), .val (.int (f1 p4)), .val (.ref b6), .unset, .unset, .unset] [(.int (p5 &&& (2 : Int32)))])) _
          refine XS.ifNo X133.here hx rfl (hb hby at_91) rfl ((if0 _ _).trans (feq hc91_141).1) ?_
          show Steps p.tables e below (T133.setTop (mkF m 94 #[.val (.int p0), .val (.int p1), .val (.int p2), .val (.int p3), .val (.int p4), .val (.int p5), .val (.int (f1 p0)), .val (.int (f1 p1)), .val (.int (f1 p2)), .val (.int (f1 p3)), .val (.int (f1 p4)), .val (.ref b6), .unset, .unset, .unset] [])) _
          refine XS.aload X133.here hx rfl (hb hby at_94) rfl rfl ?_
          show Steps p.tables e below (T133.setTop (mkF m 96 #[.val (.int p0), .val (.int p1), .val (.int p2), .val (.int p3), .val (.int p4), .val (.int p5), .val (.int (f1 p0)), .val (.int (f1 p1)), .val (.int (f1 p2)), .val (.int (f1 p3)), .val (.int (f1 p4)), .val (.ref b6), .unset, .unset, .unset] [(.ref b6)])) _
          refine st188.trans ?_
          show Steps p.tables e below (T188.setTop (mkF m 99 #[.val (.int p0), .val (.int p1), .val (.int p2), .val (.int p3), .val (.int p4), .val (.int p5), .val (.int (f1 p0)), .val (.int (f1 p1)), .val (.int (f1 p2)), .val (.int (f1 p3)), .val (.int (f1 p4)), .val (.ref b6), .unset, .unset, .unset] [])) _
          refine XS.aload X188.here hx rfl (hb hby at_99) rfl rfl ?_
          show Steps p.tables e below (T188.setTop (mkF m 101 #[.val (.int p0), .val (.int p1), .val (.int p2), .val (.int p3), .val (.int p4), .val (.int p5), .val (.int (f1 p0)), .val (.int (f1 p1)), .val (.int (f1 p2)), .val (.int (f1 p3)), .val (.int (f1 p4)), .val (.ref b6), .unset, .unset, .unset] [(.ref b6)])) _
          refine XS.iload X188.here hx rfl (hb hby at_101) rfl ?_
          show Steps p.tables e below (T188.setTop (mkF m 103 #[.val (.int p0), .val (.int p1), .val (.int p2), .val (.int p3), .val (.int p4), .val (.int p5), .val (.int (f1 p0)), .val (.int (f1 p1)), .val (.int (f1 p2)), .val (.int (f1 p3)), .val (.int (f1 p4)), .val (.ref b6), .unset, .unset, .unset] [(.int (f1 p3)), (.ref b6)])) _
          refine st193.trans ?_
          show Steps p.tables e below (T193.setTop (mkF m 106 #[.val (.int p0), .val (.int p1), .val (.int p2), .val (.int p3), .val (.int p4), .val (.int p5), .val (.int (f1 p0)), .val (.int (f1 p1)), .val (.int (f1 p2)), .val (.int (f1 p3)), .val (.int (f1 p4)), .val (.ref b6), .unset, .unset, .unset] [(.int (nar .boolean ((f6_r1_a (f6_r1_a (own_upd (own_upd (own_upd (own_upd (own_upd (fun _ => 0) 0 (1 : Int32)) ((f1 p0)).toNatClampNeg (1 : Int32)) ((f1 p1)).toNatClampNeg (1 : Int32)) ((f1 p2)).toNatClampNeg (1 : Int32)) (((1 : Int32) + (((p5.toUInt32 >>> ((2 : Int32) &&& 31).toUInt32).toInt32) - (((p5.toUInt32 >>> ((2 : Int32) &&& 31).toUInt32).toInt32) / (19 : Int32)) * (19 : Int32)))).toNatClampNeg (0 : Int32)))) ((f1 p3)).toNatClampNeg)))])) _
          refine XS.iload X193.here hx rfl (hb hby at_106) rfl ?_
          exact kt)
      by_cases hc108_196 : (f1 p3) = (0 : Int32)
      · have pre197 : ∀ t, Steps p.tables e below (T193.setTop (mkF m 116 #[.val (.int p0), .val (.int p1), .val (.int p2), .val (.int p3), .val (.int p4), .val (.int p5), .val (.int (f1 p0)), .val (.int (f1 p1)), .val (.int (f1 p2)), .val (.int (f1 p3)), .val (.int (f1 p4)), .val (.ref b6), .unset, .unset, .unset] [(.int (1 : Int32)), (.int (nar .boolean ((f6_r1_a (f6_r1_a (own_upd (own_upd (own_upd (own_upd (own_upd (fun _ => 0) 0 (1 : Int32)) ((f1 p0)).toNatClampNeg (1 : Int32)) ((f1 p1)).toNatClampNeg (1 : Int32)) ((f1 p2)).toNatClampNeg (1 : Int32)) (((1 : Int32) + (((p5.toUInt32 >>> ((2 : Int32) &&& 31).toUInt32).toInt32) - (((p5.toUInt32 >>> ((2 : Int32) &&& 31).toUInt32).toInt32) / (19 : Int32)) * (19 : Int32)))).toNatClampNeg (0 : Int32)))) ((f1 p3)).toNatClampNeg)))])) t → Steps p.tables e below (s₁.setTop (entryFrame m #[(.int p0), (.int p1), (.int p2), (.int p3), (.int p4), (.int p5)] maxLocals)) t := fun t kt => pre195 t (by
            show Steps p.tables e below (T193.setTop (mkF m 108 #[.val (.int p0), .val (.int p1), .val (.int p2), .val (.int p3), .val (.int p4), .val (.int p5), .val (.int (f1 p0)), .val (.int (f1 p1)), .val (.int (f1 p2)), .val (.int (f1 p3)), .val (.int (f1 p4)), .val (.ref b6), .unset, .unset, .unset] [(.int (f1 p3)), (.int (nar .boolean ((f6_r1_a (f6_r1_a (own_upd (own_upd (own_upd (own_upd (own_upd (fun _ => 0) 0 (1 : Int32)) ((f1 p0)).toNatClampNeg (1 : Int32)) ((f1 p1)).toNatClampNeg (1 : Int32)) ((f1 p2)).toNatClampNeg (1 : Int32)) (((1 : Int32) + (((p5.toUInt32 >>> ((2 : Int32) &&& 31).toUInt32).toInt32) - (((p5.toUInt32 >>> ((2 : Int32) &&& 31).toUInt32).toInt32) / (19 : Int32)) * (19 : Int32)))).toNatClampNeg (0 : Int32)))) ((f1 p3)).toNatClampNeg)))])) _
            refine XS.ifNo X193.here hx rfl (hb hby at_108) rfl ((if0 _ _).trans (teq hc108_196).2) ?_
            show Steps p.tables e below (T193.setTop (mkF m 111 #[.val (.int p0), .val (.int p1), .val (.int p2), .val (.int p3), .val (.int p4), .val (.int p5), .val (.int (f1 p0)), .val (.int (f1 p1)), .val (.int (f1 p2)), .val (.int (f1 p3)), .val (.int (f1 p4)), .val (.ref b6), .unset, .unset, .unset] [(.int (nar .boolean ((f6_r1_a (f6_r1_a (own_upd (own_upd (own_upd (own_upd (own_upd (fun _ => 0) 0 (1 : Int32)) ((f1 p0)).toNatClampNeg (1 : Int32)) ((f1 p1)).toNatClampNeg (1 : Int32)) ((f1 p2)).toNatClampNeg (1 : Int32)) (((1 : Int32) + (((p5.toUInt32 >>> ((2 : Int32) &&& 31).toUInt32).toInt32) - (((p5.toUInt32 >>> ((2 : Int32) &&& 31).toUInt32).toInt32) / (19 : Int32)) * (19 : Int32)))).toNatClampNeg (0 : Int32)))) ((f1 p3)).toNatClampNeg)))])) _
            refine XS.iconst X193.here hx rfl (hb hby at_111) ?_
            show Steps p.tables e below (T193.setTop (mkF m 112 #[.val (.int p0), .val (.int p1), .val (.int p2), .val (.int p3), .val (.int p4), .val (.int p5), .val (.int (f1 p0)), .val (.int (f1 p1)), .val (.int (f1 p2)), .val (.int (f1 p3)), .val (.int (f1 p4)), .val (.ref b6), .unset, .unset, .unset] [(.int (1 : Int32)), (.int (nar .boolean ((f6_r1_a (f6_r1_a (own_upd (own_upd (own_upd (own_upd (own_upd (fun _ => 0) 0 (1 : Int32)) ((f1 p0)).toNatClampNeg (1 : Int32)) ((f1 p1)).toNatClampNeg (1 : Int32)) ((f1 p2)).toNatClampNeg (1 : Int32)) (((1 : Int32) + (((p5.toUInt32 >>> ((2 : Int32) &&& 31).toUInt32).toInt32) - (((p5.toUInt32 >>> ((2 : Int32) &&& 31).toUInt32).toInt32) / (19 : Int32)) * (19 : Int32)))).toNatClampNeg (0 : Int32)))) ((f1 p3)).toNatClampNeg)))])) _
            refine XS.goto X193.here hx rfl (pc0 := 112) (pc' := 116) rfl (hb hby at_112) (by decide) (by decide) ?_
            exact kt)
        have hd116_198 : (nar .boolean ((f6_r1_a (f6_r1_a (own_upd (own_upd (own_upd (own_upd (own_upd (fun _ => 0) 0 (1 : Int32)) ((f1 p0)).toNatClampNeg (1 : Int32)) ((f1 p1)).toNatClampNeg (1 : Int32)) ((f1 p2)).toNatClampNeg (1 : Int32)) (((1 : Int32) + (((p5.toUInt32 >>> ((2 : Int32) &&& 31).toUInt32).toInt32) - (((p5.toUInt32 >>> ((2 : Int32) &&& 31).toUInt32).toInt32) / (19 : Int32)) * (19 : Int32)))).toNatClampNeg (0 : Int32)))) ((f1 p3)).toNatClampNeg)) = (1 : Int32) := own_is0 _ (own_ch _) hc108_196
        obtain ⟨cq199, kq199, q199a, q199b, q199c⟩ := isOf hZ e193q ((c137.keep K133q).keep K188q)
        obtain ⟨_, _, ⟨T199, L199, k199, n199⟩, -, X199, ⟨Lc199, hQ199, l199, y199, z199⟩, st199⟩ := X193.virtualBack hx (y := (⟨"com/example/cardhost/cardhost/LogicalChannels", "isOpen", "(I)Z"⟩ : MethodName)) (z := (⟨"com/example/cardhost/cardhost/LogicalChannels", "isOpen", "(I)Z"⟩ : MethodName)) hown (mvT hZ (hw _ (List.mem_of_getElem? (i := 38) rfl))) (mvT hZ (hw _ (List.mem_of_getElem? (i := 39) rfl))) (notFace_of_selects (args := #[]) (mvT hZ (hw _ (List.mem_of_getElem? (i := 41) rfl)))) (mvT hZ (hw _ (List.mem_of_getElem? (i := 41) rfl))) (mvT hZ (hw _ (List.mem_of_getElem? (i := 40) rfl))) (by decide) (backOf (W := 0) (rm7 l Z a0 hw [] b6 (f1 p4) r_o0_open_9 (f6_r1_a (f6_r1_a (own_upd (own_upd (own_upd (own_upd (own_upd (fun _ => 0) 0 (1 : Int32)) ((f1 p0)).toNatClampNeg (1 : Int32)) ((f1 p1)).toNatClampNeg (1 : Int32)) ((f1 p2)).toNatClampNeg (1 : Int32)) (((1 : Int32) + (((p5.toUInt32 >>> ((2 : Int32) &&& 31).toUInt32).toInt32) - (((p5.toUInt32 >>> ((2 : Int32) &&& 31).toUInt32).toInt32) / (19 : Int32)) * (19 : Int32)))).toNatClampNeg (0 : Int32)))) T188.heap n0 Z192 c194 G188_0 g_r_o0_open_9 (own_ch _)) hZ (hw _ (List.mem_of_getElem? (i := 42) rfl)) (hw _ (List.mem_of_getElem? (i := 7) rfl)) (by decide) (by decide)) q199a q199c (g := (mkF m 130 #[.val (.int p0), .val (.int p1), .val (.int p2), .val (.int p3), .val (.int p4), .val (.int p5), .val (.int (f1 p0)), .val (.int (f1 p1)), .val (.int (f1 p2)), .val (.int (f1 p3)), .val (.int (f1 p4)), .val (.ref b6), .val (.int (1 : Int32)), .unset, .unset] [(.int (f1 p4)), (.ref b6)])) rfl (by rw [hml]; rfl) (Steps.refl _) (argsL := [(.int (f1 p4))]) (rest := []) (lenOf pd_0_3 rfl) rfl (by show 2 * 0 + _ ≤ _; exact Nat.le_of_eq rfl) (hb hby at_130) (fun _ _ => ⟨rfl, e193q, (by decide : 4 + 0 ≤ _), (by decide : 63 + 0 ≤ _)⟩)
        dsimp only [Pt.U, Pt.locs, Pt.cells, Pt.slots] at X199 l199 y199 z199 st199 hQ199
        subst l199 y199 z199
        obtain ⟨rfl, N199q, e199q⟩ := hQ199
        have N199 := Fr.app N193 N199q
        have pre200 : ∀ t, Steps p.tables e below (T199.setTop (mkF m 135 #[.val (.int p0), .val (.int p1), .val (.int p2), .val (.int p3), .val (.int p4), .val (.int p5), .val (.int (f1 p0)), .val (.int (f1 p1)), .val (.int (f1 p2)), .val (.int (f1 p3)), .val (.int (f1 p4)), .val (.ref b6), .val (.int (1 : Int32)), .unset, .unset] [(.int (f1 p4)), (.int (nar .boolean ((f6_r1_a (f6_r1_a (own_upd (own_upd (own_upd (own_upd (own_upd (fun _ => 0) 0 (1 : Int32)) ((f1 p0)).toNatClampNeg (1 : Int32)) ((f1 p1)).toNatClampNeg (1 : Int32)) ((f1 p2)).toNatClampNeg (1 : Int32)) (((1 : Int32) + (((p5.toUInt32 >>> ((2 : Int32) &&& 31).toUInt32).toInt32) - (((p5.toUInt32 >>> ((2 : Int32) &&& 31).toUInt32).toInt32) / (19 : Int32)) * (19 : Int32)))).toNatClampNeg (0 : Int32)))) ((f1 p4)).toNatClampNeg)))])) t → Steps p.tables e below (s₁.setTop (entryFrame m #[(.int p0), (.int p1), (.int p2), (.int p3), (.int p4), (.int p5)] maxLocals)) t := fun t kt => pre197 t (by
            show Steps p.tables e below (T193.setTop (mkF m 116 #[.val (.int p0), .val (.int p1), .val (.int p2), .val (.int p3), .val (.int p4), .val (.int p5), .val (.int (f1 p0)), .val (.int (f1 p1)), .val (.int (f1 p2)), .val (.int (f1 p3)), .val (.int (f1 p4)), .val (.ref b6), .unset, .unset, .unset] [(.int (1 : Int32)), (.int (nar .boolean ((f6_r1_a (f6_r1_a (own_upd (own_upd (own_upd (own_upd (own_upd (fun _ => 0) 0 (1 : Int32)) ((f1 p0)).toNatClampNeg (1 : Int32)) ((f1 p1)).toNatClampNeg (1 : Int32)) ((f1 p2)).toNatClampNeg (1 : Int32)) (((1 : Int32) + (((p5.toUInt32 >>> ((2 : Int32) &&& 31).toUInt32).toInt32) - (((p5.toUInt32 >>> ((2 : Int32) &&& 31).toUInt32).toInt32) / (19 : Int32)) * (19 : Int32)))).toNatClampNeg (0 : Int32)))) ((f1 p3)).toNatClampNeg)))])) _
            refine XS.icmpNo X193.here hx rfl (hb hby at_116) rfl (teq hd116_198).2 ?_
            show Steps p.tables e below (T193.setTop (mkF m 119 #[.val (.int p0), .val (.int p1), .val (.int p2), .val (.int p3), .val (.int p4), .val (.int p5), .val (.int (f1 p0)), .val (.int (f1 p1)), .val (.int (f1 p2)), .val (.int (f1 p3)), .val (.int (f1 p4)), .val (.ref b6), .unset, .unset, .unset] [])) _
            refine XS.iconst X193.here hx rfl (hb hby at_119) ?_
            show Steps p.tables e below (T193.setTop (mkF m 120 #[.val (.int p0), .val (.int p1), .val (.int p2), .val (.int p3), .val (.int p4), .val (.int p5), .val (.int (f1 p0)), .val (.int (f1 p1)), .val (.int (f1 p2)), .val (.int (f1 p3)), .val (.int (f1 p4)), .val (.ref b6), .unset, .unset, .unset] [(.int (1 : Int32))])) _
            refine XS.goto X193.here hx rfl (pc0 := 120) (pc' := 124) rfl (hb hby at_120) (by decide) (by decide) ?_
            show Steps p.tables e below (T193.setTop (mkF m 124 #[.val (.int p0), .val (.int p1), .val (.int p2), .val (.int p3), .val (.int p4), .val (.int p5), .val (.int (f1 p0)), .val (.int (f1 p1)), .val (.int (f1 p2)), .val (.int (f1 p3)), .val (.int (f1 p4)), .val (.ref b6), .unset, .unset, .unset] [(.int (1 : Int32))])) _
            refine XS.istore X193.here hx rfl (hb hby at_124) rfl (l' := #[.val (.int p0), .val (.int p1), .val (.int p2), .val (.int p3), .val (.int p4), .val (.int p5), .val (.int (f1 p0)), .val (.int (f1 p1)), .val (.int (f1 p2)), .val (.int (f1 p3)), .val (.int (f1 p4)), .val (.ref b6), .val (.int (1 : Int32)), .unset, .unset]) rfl ?_
            show Steps p.tables e below (T193.setTop (mkF m 126 #[.val (.int p0), .val (.int p1), .val (.int p2), .val (.int p3), .val (.int p4), .val (.int p5), .val (.int (f1 p0)), .val (.int (f1 p1)), .val (.int (f1 p2)), .val (.int (f1 p3)), .val (.int (f1 p4)), .val (.ref b6), .val (.int (1 : Int32)), .unset, .unset] [])) _
            refine XS.aload X193.here hx rfl (hb hby at_126) rfl rfl ?_
            show Steps p.tables e below (T193.setTop (mkF m 128 #[.val (.int p0), .val (.int p1), .val (.int p2), .val (.int p3), .val (.int p4), .val (.int p5), .val (.int (f1 p0)), .val (.int (f1 p1)), .val (.int (f1 p2)), .val (.int (f1 p3)), .val (.int (f1 p4)), .val (.ref b6), .val (.int (1 : Int32)), .unset, .unset] [(.ref b6)])) _
            refine XS.iload X193.here hx rfl (hb hby at_128) rfl ?_
            show Steps p.tables e below (T193.setTop (mkF m 130 #[.val (.int p0), .val (.int p1), .val (.int p2), .val (.int p3), .val (.int p4), .val (.int p5), .val (.int (f1 p0)), .val (.int (f1 p1)), .val (.int (f1 p2)), .val (.int (f1 p3)), .val (.int (f1 p4)), .val (.ref b6), .val (.int (1 : Int32)), .unset, .unset] [(.int (f1 p4)), (.ref b6)])) _
            refine st199.trans ?_
            show Steps p.tables e below (T199.setTop (mkF m 133 #[.val (.int p0), .val (.int p1), .val (.int p2), .val (.int p3), .val (.int p4), .val (.int p5), .val (.int (f1 p0)), .val (.int (f1 p1)), .val (.int (f1 p2)), .val (.int (f1 p3)), .val (.int (f1 p4)), .val (.ref b6), .val (.int (1 : Int32)), .unset, .unset] [(.int (nar .boolean ((f6_r1_a (f6_r1_a (own_upd (own_upd (own_upd (own_upd (own_upd (fun _ => 0) 0 (1 : Int32)) ((f1 p0)).toNatClampNeg (1 : Int32)) ((f1 p1)).toNatClampNeg (1 : Int32)) ((f1 p2)).toNatClampNeg (1 : Int32)) (((1 : Int32) + (((p5.toUInt32 >>> ((2 : Int32) &&& 31).toUInt32).toInt32) - (((p5.toUInt32 >>> ((2 : Int32) &&& 31).toUInt32).toInt32) / (19 : Int32)) * (19 : Int32)))).toNatClampNeg (0 : Int32)))) ((f1 p4)).toNatClampNeg)))])) _
            refine XS.iload X199.here hx rfl (hb hby at_133) rfl ?_
            exact kt)
        by_cases hc135_201 : (f1 p4) = (0 : Int32)
        · have pre202 : ∀ t, Steps p.tables e below (T199.setTop (mkF m 143 #[.val (.int p0), .val (.int p1), .val (.int p2), .val (.int p3), .val (.int p4), .val (.int p5), .val (.int (f1 p0)), .val (.int (f1 p1)), .val (.int (f1 p2)), .val (.int (f1 p3)), .val (.int (f1 p4)), .val (.ref b6), .val (.int (1 : Int32)), .unset, .unset] [(.int (1 : Int32)), (.int (nar .boolean ((f6_r1_a (f6_r1_a (own_upd (own_upd (own_upd (own_upd (own_upd (fun _ => 0) 0 (1 : Int32)) ((f1 p0)).toNatClampNeg (1 : Int32)) ((f1 p1)).toNatClampNeg (1 : Int32)) ((f1 p2)).toNatClampNeg (1 : Int32)) (((1 : Int32) + (((p5.toUInt32 >>> ((2 : Int32) &&& 31).toUInt32).toInt32) - (((p5.toUInt32 >>> ((2 : Int32) &&& 31).toUInt32).toInt32) / (19 : Int32)) * (19 : Int32)))).toNatClampNeg (0 : Int32)))) ((f1 p4)).toNatClampNeg)))])) t → Steps p.tables e below (s₁.setTop (entryFrame m #[(.int p0), (.int p1), (.int p2), (.int p3), (.int p4), (.int p5)] maxLocals)) t := fun t kt => pre200 t (by
              show Steps p.tables e below (T199.setTop (mkF m 135 #[.val (.int p0), .val (.int p1), .val (.int p2), .val (.int p3), .val (.int p4), .val (.int p5), .val (.int (f1 p0)), .val (.int (f1 p1)), .val (.int (f1 p2)), .val (.int (f1 p3)), .val (.int (f1 p4)), .val (.ref b6), .val (.int (1 : Int32)), .unset, .unset] [(.int (f1 p4)), (.int (nar .boolean ((f6_r1_a (f6_r1_a (own_upd (own_upd (own_upd (own_upd (own_upd (fun _ => 0) 0 (1 : Int32)) ((f1 p0)).toNatClampNeg (1 : Int32)) ((f1 p1)).toNatClampNeg (1 : Int32)) ((f1 p2)).toNatClampNeg (1 : Int32)) (((1 : Int32) + (((p5.toUInt32 >>> ((2 : Int32) &&& 31).toUInt32).toInt32) - (((p5.toUInt32 >>> ((2 : Int32) &&& 31).toUInt32).toInt32) / (19 : Int32)) * (19 : Int32)))).toNatClampNeg (0 : Int32)))) ((f1 p4)).toNatClampNeg)))])) _
              refine XS.ifNo X199.here hx rfl (hb hby at_135) rfl ((if0 _ _).trans (teq hc135_201).2) ?_
              show Steps p.tables e below (T199.setTop (mkF m 138 #[.val (.int p0), .val (.int p1), .val (.int p2), .val (.int p3), .val (.int p4), .val (.int p5), .val (.int (f1 p0)), .val (.int (f1 p1)), .val (.int (f1 p2)), .val (.int (f1 p3)), .val (.int (f1 p4)), .val (.ref b6), .val (.int (1 : Int32)), .unset, .unset] [(.int (nar .boolean ((f6_r1_a (f6_r1_a (own_upd (own_upd (own_upd (own_upd (own_upd (fun _ => 0) 0 (1 : Int32)) ((f1 p0)).toNatClampNeg (1 : Int32)) ((f1 p1)).toNatClampNeg (1 : Int32)) ((f1 p2)).toNatClampNeg (1 : Int32)) (((1 : Int32) + (((p5.toUInt32 >>> ((2 : Int32) &&& 31).toUInt32).toInt32) - (((p5.toUInt32 >>> ((2 : Int32) &&& 31).toUInt32).toInt32) / (19 : Int32)) * (19 : Int32)))).toNatClampNeg (0 : Int32)))) ((f1 p4)).toNatClampNeg)))])) _
              refine XS.iconst X199.here hx rfl (hb hby at_138) ?_
              show Steps p.tables e below (T199.setTop (mkF m 139 #[.val (.int p0), .val (.int p1), .val (.int p2), .val (.int p3), .val (.int p4), .val (.int p5), .val (.int (f1 p0)), .val (.int (f1 p1)), .val (.int (f1 p2)), .val (.int (f1 p3)), .val (.int (f1 p4)), .val (.ref b6), .val (.int (1 : Int32)), .unset, .unset] [(.int (1 : Int32)), (.int (nar .boolean ((f6_r1_a (f6_r1_a (own_upd (own_upd (own_upd (own_upd (own_upd (fun _ => 0) 0 (1 : Int32)) ((f1 p0)).toNatClampNeg (1 : Int32)) ((f1 p1)).toNatClampNeg (1 : Int32)) ((f1 p2)).toNatClampNeg (1 : Int32)) (((1 : Int32) + (((p5.toUInt32 >>> ((2 : Int32) &&& 31).toUInt32).toInt32) - (((p5.toUInt32 >>> ((2 : Int32) &&& 31).toUInt32).toInt32) / (19 : Int32)) * (19 : Int32)))).toNatClampNeg (0 : Int32)))) ((f1 p4)).toNatClampNeg)))])) _
              refine XS.goto X199.here hx rfl (pc0 := 139) (pc' := 143) rfl (hb hby at_139) (by decide) (by decide) ?_
              exact kt)
          have hd143_203 : (nar .boolean ((f6_r1_a (f6_r1_a (own_upd (own_upd (own_upd (own_upd (own_upd (fun _ => 0) 0 (1 : Int32)) ((f1 p0)).toNatClampNeg (1 : Int32)) ((f1 p1)).toNatClampNeg (1 : Int32)) ((f1 p2)).toNatClampNeg (1 : Int32)) (((1 : Int32) + (((p5.toUInt32 >>> ((2 : Int32) &&& 31).toUInt32).toInt32) - (((p5.toUInt32 >>> ((2 : Int32) &&& 31).toUInt32).toInt32) / (19 : Int32)) * (19 : Int32)))).toNatClampNeg (0 : Int32)))) ((f1 p4)).toNatClampNeg)) = (1 : Int32) := own_is0 _ (own_ch _) hc135_201
          obtain ⟨cq204, kq204, q204a, q204b, q204c⟩ := isOf hZ e199q ((c137.keep K133q).keep K188q)
          obtain ⟨_, _, ⟨T204, L204, k204, n204⟩, -, X204, ⟨Lc204, hQ204, l204, y204, z204⟩, st204⟩ := X199.virtualBack hx (y := (⟨"com/example/cardhost/cardhost/LogicalChannels", "lowestClosed", "()I"⟩ : MethodName)) (z := (⟨"com/example/cardhost/cardhost/LogicalChannels", "lowestClosed", "()I"⟩ : MethodName)) hown (mvT hZ (hw _ (List.mem_of_getElem? (i := 43) rfl))) (mvT hZ (hw _ (List.mem_of_getElem? (i := 44) rfl))) (notFace_of_selects (args := #[]) (mvT hZ (hw _ (List.mem_of_getElem? (i := 46) rfl)))) (mvT hZ (hw _ (List.mem_of_getElem? (i := 46) rfl))) (mvT hZ (hw _ (List.mem_of_getElem? (i := 45) rfl))) (by decide) (backOf (W := 0) (rm8 l Z a0 hw [] b6 r_o0_open_9 (f6_r1_a (f6_r1_a (own_upd (own_upd (own_upd (own_upd (own_upd (fun _ => 0) 0 (1 : Int32)) ((f1 p0)).toNatClampNeg (1 : Int32)) ((f1 p1)).toNatClampNeg (1 : Int32)) ((f1 p2)).toNatClampNeg (1 : Int32)) (((1 : Int32) + (((p5.toUInt32 >>> ((2 : Int32) &&& 31).toUInt32).toInt32) - (((p5.toUInt32 >>> ((2 : Int32) &&& 31).toUInt32).toInt32) / (19 : Int32)) * (19 : Int32)))).toNatClampNeg (0 : Int32)))) T188.heap n0 Z192 c194 G188_0 g_r_o0_open_9) hZ (hw _ (List.mem_of_getElem? (i := 47) rfl)) (hw _ (List.mem_of_getElem? (i := 7) rfl)) (by decide) (by decide)) q204a q204c (g := (mkF m 155 #[.val (.int p0), .val (.int p1), .val (.int p2), .val (.int p3), .val (.int p4), .val (.int p5), .val (.int (f1 p0)), .val (.int (f1 p1)), .val (.int (f1 p2)), .val (.int (f1 p3)), .val (.int (f1 p4)), .val (.ref b6), .val (.int (1 : Int32)), .val (.int (1 : Int32)), .unset] [(.ref b6)])) rfl (by rw [hml]; rfl) (Steps.refl _) (argsL := []) (rest := []) (lenOf pd_0_4 rfl) rfl (by show 2 * 0 + _ ≤ _; exact Nat.le_of_eq rfl) (hb hby at_155) (fun _ _ => ⟨rfl, e199q, (by decide : 4 + 0 ≤ _), (by decide : 63 + 0 ≤ _)⟩)
          dsimp only [Pt.U, Pt.locs, Pt.cells, Pt.slots] at X204 l204 y204 z204 st204 hQ204
          subst l204 y204 z204
          obtain ⟨rfl, N204q, e204q⟩ := hQ204
          have N204 := Fr.app N199 N204q
          have pre205 : ∀ t, Steps p.tables e below (T204.setTop (mkF m 159 #[.val (.int p0), .val (.int p1), .val (.int p2), .val (.int p3), .val (.int p4), .val (.int p5), .val (.int (f1 p0)), .val (.int (f1 p1)), .val (.int (f1 p2)), .val (.int (f1 p3)), .val (.int (f1 p4)), .val (.ref b6), .val (.int (1 : Int32)), .val (.int (1 : Int32)), .unset] [(.int (1 : Int32)), (.int (f8 (f6_r1_a (f6_r1_a (own_upd (own_upd (own_upd (own_upd (own_upd (fun _ => 0) 0 (1 : Int32)) ((f1 p0)).toNatClampNeg (1 : Int32)) ((f1 p1)).toNatClampNeg (1 : Int32)) ((f1 p2)).toNatClampNeg (1 : Int32)) (((1 : Int32) + (((p5.toUInt32 >>> ((2 : Int32) &&& 31).toUInt32).toInt32) - (((p5.toUInt32 >>> ((2 : Int32) &&& 31).toUInt32).toInt32) / (19 : Int32)) * (19 : Int32)))).toNatClampNeg (0 : Int32))))))])) t → Steps p.tables e below (s₁.setTop (entryFrame m #[(.int p0), (.int p1), (.int p2), (.int p3), (.int p4), (.int p5)] maxLocals)) t := fun t kt => pre202 t (by
              show Steps p.tables e below (T199.setTop (mkF m 143 #[.val (.int p0), .val (.int p1), .val (.int p2), .val (.int p3), .val (.int p4), .val (.int p5), .val (.int (f1 p0)), .val (.int (f1 p1)), .val (.int (f1 p2)), .val (.int (f1 p3)), .val (.int (f1 p4)), .val (.ref b6), .val (.int (1 : Int32)), .unset, .unset] [(.int (1 : Int32)), (.int (nar .boolean ((f6_r1_a (f6_r1_a (own_upd (own_upd (own_upd (own_upd (own_upd (fun _ => 0) 0 (1 : Int32)) ((f1 p0)).toNatClampNeg (1 : Int32)) ((f1 p1)).toNatClampNeg (1 : Int32)) ((f1 p2)).toNatClampNeg (1 : Int32)) (((1 : Int32) + (((p5.toUInt32 >>> ((2 : Int32) &&& 31).toUInt32).toInt32) - (((p5.toUInt32 >>> ((2 : Int32) &&& 31).toUInt32).toInt32) / (19 : Int32)) * (19 : Int32)))).toNatClampNeg (0 : Int32)))) ((f1 p4)).toNatClampNeg)))])) _
              refine XS.icmpNo X199.here hx rfl (hb hby at_143) rfl (teq hd143_203).2 ?_
              show Steps p.tables e below (T199.setTop (mkF m 146 #[.val (.int p0), .val (.int p1), .val (.int p2), .val (.int p3), .val (.int p4), .val (.int p5), .val (.int (f1 p0)), .val (.int (f1 p1)), .val (.int (f1 p2)), .val (.int (f1 p3)), .val (.int (f1 p4)), .val (.ref b6), .val (.int (1 : Int32)), .unset, .unset] [])) _
              refine XS.iconst X199.here hx rfl (hb hby at_146) ?_
              show Steps p.tables e below (T199.setTop (mkF m 147 #[.val (.int p0), .val (.int p1), .val (.int p2), .val (.int p3), .val (.int p4), .val (.int p5), .val (.int (f1 p0)), .val (.int (f1 p1)), .val (.int (f1 p2)), .val (.int (f1 p3)), .val (.int (f1 p4)), .val (.ref b6), .val (.int (1 : Int32)), .unset, .unset] [(.int (1 : Int32))])) _
              refine XS.goto X199.here hx rfl (pc0 := 147) (pc' := 151) rfl (hb hby at_147) (by decide) (by decide) ?_
              show Steps p.tables e below (T199.setTop (mkF m 151 #[.val (.int p0), .val (.int p1), .val (.int p2), .val (.int p3), .val (.int p4), .val (.int p5), .val (.int (f1 p0)), .val (.int (f1 p1)), .val (.int (f1 p2)), .val (.int (f1 p3)), .val (.int (f1 p4)), .val (.ref b6), .val (.int (1 : Int32)), .unset, .unset] [(.int (1 : Int32))])) _
              refine XS.istore X199.here hx rfl (hb hby at_151) rfl (l' := #[.val (.int p0), .val (.int p1), .val (.int p2), .val (.int p3), .val (.int p4), .val (.int p5), .val (.int (f1 p0)), .val (.int (f1 p1)), .val (.int (f1 p2)), .val (.int (f1 p3)), .val (.int (f1 p4)), .val (.ref b6), .val (.int (1 : Int32)), .val (.int (1 : Int32)), .unset]) rfl ?_
              show Steps p.tables e below (T199.setTop (mkF m 153 #[.val (.int p0), .val (.int p1), .val (.int p2), .val (.int p3), .val (.int p4), .val (.int p5), .val (.int (f1 p0)), .val (.int (f1 p1)), .val (.int (f1 p2)), .val (.int (f1 p3)), .val (.int (f1 p4)), .val (.ref b6), .val (.int (1 : Int32)), .val (.int (1 : Int32)), .unset] [])) _
              refine XS.aload X199.here hx rfl (hb hby at_153) rfl rfl ?_
              show Steps p.tables e below (T199.setTop (mkF m 155 #[.val (.int p0), .val (.int p1), .val (.int p2), .val (.int p3), .val (.int p4), .val (.int p5), .val (.int (f1 p0)), .val (.int (f1 p1)), .val (.int (f1 p2)), .val (.int (f1 p3)), .val (.int (f1 p4)), .val (.ref b6), .val (.int (1 : Int32)), .val (.int (1 : Int32)), .unset] [(.ref b6)])) _
              refine st204.trans ?_
              show Steps p.tables e below (T204.setTop (mkF m 158 #[.val (.int p0), .val (.int p1), .val (.int p2), .val (.int p3), .val (.int p4), .val (.int p5), .val (.int (f1 p0)), .val (.int (f1 p1)), .val (.int (f1 p2)), .val (.int (f1 p3)), .val (.int (f1 p4)), .val (.ref b6), .val (.int (1 : Int32)), .val (.int (1 : Int32)), .unset] [(.int (f8 (f6_r1_a (f6_r1_a (own_upd (own_upd (own_upd (own_upd (own_upd (fun _ => 0) 0 (1 : Int32)) ((f1 p0)).toNatClampNeg (1 : Int32)) ((f1 p1)).toNatClampNeg (1 : Int32)) ((f1 p2)).toNatClampNeg (1 : Int32)) (((1 : Int32) + (((p5.toUInt32 >>> ((2 : Int32) &&& 31).toUInt32).toInt32) - (((p5.toUInt32 >>> ((2 : Int32) &&& 31).toUInt32).toInt32) / (19 : Int32)) * (19 : Int32)))).toNatClampNeg (0 : Int32))))))])) _
              refine XS.iconst X204.here hx rfl (hb hby at_158) ?_
              exact kt)
          have hd159_206 : (f8 (f6_r1_a (f6_r1_a (own_upd (own_upd (own_upd (own_upd (own_upd (fun _ => 0) 0 (1 : Int32)) ((f1 p0)).toNatClampNeg (1 : Int32)) ((f1 p1)).toNatClampNeg (1 : Int32)) ((f1 p2)).toNatClampNeg (1 : Int32)) (((1 : Int32) + (((p5.toUInt32 >>> ((2 : Int32) &&& 31).toUInt32).toInt32) - (((p5.toUInt32 >>> ((2 : Int32) &&& 31).toUInt32).toInt32) / (19 : Int32)) * (19 : Int32)))).toNatClampNeg (0 : Int32))))) = (1 : Int32) := own_lc _
          have pre207 : ∀ t, Steps p.tables e below (T204.setTop (mkF m 171 #[.val (.int p0), .val (.int p1), .val (.int p2), .val (.int p3), .val (.int p4), .val (.int p5), .val (.int (f1 p0)), .val (.int (f1 p1)), .val (.int (f1 p2)), .val (.int (f1 p3)), .val (.int (f1 p4)), .val (.ref b6), .val (.int (1 : Int32)), .val (.int (1 : Int32)), .val (.int (1 : Int32))] [(.int (1 : Int32))])) t → Steps p.tables e below (s₁.setTop (entryFrame m #[(.int p0), (.int p1), (.int p2), (.int p3), (.int p4), (.int p5)] maxLocals)) t := fun t kt => pre205 t (by
              show Steps p.tables e below (T204.setTop (mkF m 159 #[.val (.int p0), .val (.int p1), .val (.int p2), .val (.int p3), .val (.int p4), .val (.int p5), .val (.int (f1 p0)), .val (.int (f1 p1)), .val (.int (f1 p2)), .val (.int (f1 p3)), .val (.int (f1 p4)), .val (.ref b6), .val (.int (1 : Int32)), .val (.int (1 : Int32)), .unset] [(.int (1 : Int32)), (.int (f8 (f6_r1_a (f6_r1_a (own_upd (own_upd (own_upd (own_upd (own_upd (fun _ => 0) 0 (1 : Int32)) ((f1 p0)).toNatClampNeg (1 : Int32)) ((f1 p1)).toNatClampNeg (1 : Int32)) ((f1 p2)).toNatClampNeg (1 : Int32)) (((1 : Int32) + (((p5.toUInt32 >>> ((2 : Int32) &&& 31).toUInt32).toInt32) - (((p5.toUInt32 >>> ((2 : Int32) &&& 31).toUInt32).toInt32) / (19 : Int32)) * (19 : Int32)))).toNatClampNeg (0 : Int32))))))])) _
              refine XS.icmpNo X204.here hx rfl (hb hby at_159) rfl (teq hd159_206).2 ?_
              show Steps p.tables e below (T204.setTop (mkF m 162 #[.val (.int p0), .val (.int p1), .val (.int p2), .val (.int p3), .val (.int p4), .val (.int p5), .val (.int (f1 p0)), .val (.int (f1 p1)), .val (.int (f1 p2)), .val (.int (f1 p3)), .val (.int (f1 p4)), .val (.ref b6), .val (.int (1 : Int32)), .val (.int (1 : Int32)), .unset] [])) _
              refine XS.iconst X204.here hx rfl (hb hby at_162) ?_
              show Steps p.tables e below (T204.setTop (mkF m 163 #[.val (.int p0), .val (.int p1), .val (.int p2), .val (.int p3), .val (.int p4), .val (.int p5), .val (.int (f1 p0)), .val (.int (f1 p1)), .val (.int (f1 p2)), .val (.int (f1 p3)), .val (.int (f1 p4)), .val (.ref b6), .val (.int (1 : Int32)), .val (.int (1 : Int32)), .unset] [(.int (1 : Int32))])) _
              refine XS.goto X204.here hx rfl (pc0 := 163) (pc' := 167) rfl (hb hby at_163) (by decide) (by decide) ?_
              show Steps p.tables e below (T204.setTop (mkF m 167 #[.val (.int p0), .val (.int p1), .val (.int p2), .val (.int p3), .val (.int p4), .val (.int p5), .val (.int (f1 p0)), .val (.int (f1 p1)), .val (.int (f1 p2)), .val (.int (f1 p3)), .val (.int (f1 p4)), .val (.ref b6), .val (.int (1 : Int32)), .val (.int (1 : Int32)), .unset] [(.int (1 : Int32))])) _
              refine XS.istore X204.here hx rfl (hb hby at_167) rfl (l' := #[.val (.int p0), .val (.int p1), .val (.int p2), .val (.int p3), .val (.int p4), .val (.int p5), .val (.int (f1 p0)), .val (.int (f1 p1)), .val (.int (f1 p2)), .val (.int (f1 p3)), .val (.int (f1 p4)), .val (.ref b6), .val (.int (1 : Int32)), .val (.int (1 : Int32)), .val (.int (1 : Int32))]) rfl ?_
              show Steps p.tables e below (T204.setTop (mkF m 169 #[.val (.int p0), .val (.int p1), .val (.int p2), .val (.int p3), .val (.int p4), .val (.int p5), .val (.int (f1 p0)), .val (.int (f1 p1)), .val (.int (f1 p2)), .val (.int (f1 p3)), .val (.int (f1 p4)), .val (.ref b6), .val (.int (1 : Int32)), .val (.int (1 : Int32)), .val (.int (1 : Int32))] [])) _
              refine XS.iload X204.here hx rfl (hb hby at_169) rfl ?_
              exact kt)
          have pre208 : ∀ t, Steps p.tables e below (T204.setTop (mkF m 176 #[.val (.int p0), .val (.int p1), .val (.int p2), .val (.int p3), .val (.int p4), .val (.int p5), .val (.int (f1 p0)), .val (.int (f1 p1)), .val (.int (f1 p2)), .val (.int (f1 p3)), .val (.int (f1 p4)), .val (.ref b6), .val (.int (1 : Int32)), .val (.int (1 : Int32)), .val (.int (1 : Int32))] [(.int (1 : Int32))])) t → Steps p.tables e below (s₁.setTop (entryFrame m #[(.int p0), (.int p1), (.int p2), (.int p3), (.int p4), (.int p5)] maxLocals)) t := fun t kt => pre207 t (by
              show Steps p.tables e below (T204.setTop (mkF m 171 #[.val (.int p0), .val (.int p1), .val (.int p2), .val (.int p3), .val (.int p4), .val (.int p5), .val (.int (f1 p0)), .val (.int (f1 p1)), .val (.int (f1 p2)), .val (.int (f1 p3)), .val (.int (f1 p4)), .val (.ref b6), .val (.int (1 : Int32)), .val (.int (1 : Int32)), .val (.int (1 : Int32))] [(.int (1 : Int32))])) _
              refine XS.ifNo X204.here hx rfl (hb hby at_171) rfl ((if0 _ _).trans (feq (by decide : ¬ ((1 : Int32) = (0 : Int32)))).1) ?_
              show Steps p.tables e below (T204.setTop (mkF m 174 #[.val (.int p0), .val (.int p1), .val (.int p2), .val (.int p3), .val (.int p4), .val (.int p5), .val (.int (f1 p0)), .val (.int (f1 p1)), .val (.int (f1 p2)), .val (.int (f1 p3)), .val (.int (f1 p4)), .val (.ref b6), .val (.int (1 : Int32)), .val (.int (1 : Int32)), .val (.int (1 : Int32))] [])) _
              refine XS.iload X204.here hx rfl (hb hby at_174) rfl ?_
              exact kt)
          have pre209 : ∀ t, Steps p.tables e below (T204.setTop (mkF m 181 #[.val (.int p0), .val (.int p1), .val (.int p2), .val (.int p3), .val (.int p4), .val (.int p5), .val (.int (f1 p0)), .val (.int (f1 p1)), .val (.int (f1 p2)), .val (.int (f1 p3)), .val (.int (f1 p4)), .val (.ref b6), .val (.int (1 : Int32)), .val (.int (1 : Int32)), .val (.int (1 : Int32))] [(.int (1 : Int32))])) t → Steps p.tables e below (s₁.setTop (entryFrame m #[(.int p0), (.int p1), (.int p2), (.int p3), (.int p4), (.int p5)] maxLocals)) t := fun t kt => pre208 t (by
              show Steps p.tables e below (T204.setTop (mkF m 176 #[.val (.int p0), .val (.int p1), .val (.int p2), .val (.int p3), .val (.int p4), .val (.int p5), .val (.int (f1 p0)), .val (.int (f1 p1)), .val (.int (f1 p2)), .val (.int (f1 p3)), .val (.int (f1 p4)), .val (.ref b6), .val (.int (1 : Int32)), .val (.int (1 : Int32)), .val (.int (1 : Int32))] [(.int (1 : Int32))])) _
              refine XS.ifNo X204.here hx rfl (hb hby at_176) rfl ((if0 _ _).trans (feq (by decide : ¬ ((1 : Int32) = (0 : Int32)))).1) ?_
              show Steps p.tables e below (T204.setTop (mkF m 179 #[.val (.int p0), .val (.int p1), .val (.int p2), .val (.int p3), .val (.int p4), .val (.int p5), .val (.int (f1 p0)), .val (.int (f1 p1)), .val (.int (f1 p2)), .val (.int (f1 p3)), .val (.int (f1 p4)), .val (.ref b6), .val (.int (1 : Int32)), .val (.int (1 : Int32)), .val (.int (1 : Int32))] [])) _
              refine XS.iload X204.here hx rfl (hb hby at_179) rfl ?_
              exact kt)
          obtain ⟨fs, hr, hrun, hended, hW, hsame⟩ := X204.leave (v := some (.int (1 : Int32))) (fun h => by rw [Bd.returns] at h; cases h)
          have hv251 : (1 : Int32) = (1 : Int32) := rfl
          refine ⟨_, _, pre209 _ ?_, hrun, hended, _, _, rfl, ?_, ⟨_, rfl⟩, hW, hsame.mono (by decide) (by decide)⟩
          · show Steps p.tables e below (T204.setTop (mkF m 181 #[.val (.int p0), .val (.int p1), .val (.int p2), .val (.int p3), .val (.int p4), .val (.int p5), .val (.int (f1 p0)), .val (.int (f1 p1)), .val (.int (f1 p2)), .val (.int (f1 p3)), .val (.int (f1 p4)), .val (.ref b6), .val (.int (1 : Int32)), .val (.int (1 : Int32)), .val (.int (1 : Int32))] [(.int (1 : Int32))])) _
            refine XS.ifNo X204.here hx rfl (hb hby at_181) rfl ((if0 _ _).trans (feq (by decide : ¬ ((1 : Int32) = (0 : Int32)))).1) ?_
            show Steps p.tables e below (T204.setTop (mkF m 184 #[.val (.int p0), .val (.int p1), .val (.int p2), .val (.int p3), .val (.int p4), .val (.int p5), .val (.int (f1 p0)), .val (.int (f1 p1)), .val (.int (f1 p2)), .val (.int (f1 p3)), .val (.int (f1 p4)), .val (.ref b6), .val (.int (1 : Int32)), .val (.int (1 : Int32)), .val (.int (1 : Int32))] [])) _
            refine XS.iconst X204.here hx rfl (hb hby at_184) ?_
            show Steps p.tables e below (T204.setTop (mkF m 185 #[.val (.int p0), .val (.int p1), .val (.int p2), .val (.int p3), .val (.int p4), .val (.int p5), .val (.int (f1 p0)), .val (.int (f1 p1)), .val (.int (f1 p2)), .val (.int (f1 p3)), .val (.int (f1 p4)), .val (.ref b6), .val (.int (1 : Int32)), .val (.int (1 : Int32)), .val (.int (1 : Int32))] [(.int (1 : Int32))])) _
            refine XS.goto X204.here hx rfl (pc0 := 185) (pc' := 189) rfl (hb hby at_185) (by decide) (by decide) ?_
            show Steps p.tables e below (T204.setTop (mkF m 189 #[.val (.int p0), .val (.int p1), .val (.int p2), .val (.int p3), .val (.int p4), .val (.int p5), .val (.int (f1 p0)), .val (.int (f1 p1)), .val (.int (f1 p2)), .val (.int (f1 p3)), .val (.int (f1 p4)), .val (.ref b6), .val (.int (1 : Int32)), .val (.int (1 : Int32)), .val (.int (1 : Int32))] [(.int (1 : Int32))])) _
            exact retN X204 hx (t := .boolean) Bd.returns (by simp) (hb hby at_189) hr
          · show Q0 Z p0 p1 p2 p3 p4 p5 h0 n0 _ T204.heap _
            rw [e204q]
            exact ⟨congrArg (fun q => some (Value.int q)) hv251, N204⟩
        · have pre210 : ∀ t, Steps p.tables e below (T199.setTop (mkF m 143 #[.val (.int p0), .val (.int p1), .val (.int p2), .val (.int p3), .val (.int p4), .val (.int p5), .val (.int (f1 p0)), .val (.int (f1 p1)), .val (.int (f1 p2)), .val (.int (f1 p3)), .val (.int (f1 p4)), .val (.ref b6), .val (.int (1 : Int32)), .unset, .unset] [(.int (0 : Int32)), (.int (nar .boolean ((f6_r1_a (f6_r1_a (own_upd (own_upd (own_upd (own_upd (own_upd (fun _ => 0) 0 (1 : Int32)) ((f1 p0)).toNatClampNeg (1 : Int32)) ((f1 p1)).toNatClampNeg (1 : Int32)) ((f1 p2)).toNatClampNeg (1 : Int32)) (((1 : Int32) + (((p5.toUInt32 >>> ((2 : Int32) &&& 31).toUInt32).toInt32) - (((p5.toUInt32 >>> ((2 : Int32) &&& 31).toUInt32).toInt32) / (19 : Int32)) * (19 : Int32)))).toNatClampNeg (0 : Int32)))) ((f1 p4)).toNatClampNeg)))])) t → Steps p.tables e below (s₁.setTop (entryFrame m #[(.int p0), (.int p1), (.int p2), (.int p3), (.int p4), (.int p5)] maxLocals)) t := fun t kt => pre200 t (by
              show Steps p.tables e below (T199.setTop (mkF m 135 #[.val (.int p0), .val (.int p1), .val (.int p2), .val (.int p3), .val (.int p4), .val (.int p5), .val (.int (f1 p0)), .val (.int (f1 p1)), .val (.int (f1 p2)), .val (.int (f1 p3)), .val (.int (f1 p4)), .val (.ref b6), .val (.int (1 : Int32)), .unset, .unset] [(.int (f1 p4)), (.int (nar .boolean ((f6_r1_a (f6_r1_a (own_upd (own_upd (own_upd (own_upd (own_upd (fun _ => 0) 0 (1 : Int32)) ((f1 p0)).toNatClampNeg (1 : Int32)) ((f1 p1)).toNatClampNeg (1 : Int32)) ((f1 p2)).toNatClampNeg (1 : Int32)) (((1 : Int32) + (((p5.toUInt32 >>> ((2 : Int32) &&& 31).toUInt32).toInt32) - (((p5.toUInt32 >>> ((2 : Int32) &&& 31).toUInt32).toInt32) / (19 : Int32)) * (19 : Int32)))).toNatClampNeg (0 : Int32)))) ((f1 p4)).toNatClampNeg)))])) _
              refine XS.ifYes X199.here hx rfl (pc0 := 135) (pc' := 142) rfl (hb hby at_135) rfl ((if0 _ _).trans (feq hc135_201).2) (by decide) (by decide) ?_
              show Steps p.tables e below (T199.setTop (mkF m 142 #[.val (.int p0), .val (.int p1), .val (.int p2), .val (.int p3), .val (.int p4), .val (.int p5), .val (.int (f1 p0)), .val (.int (f1 p1)), .val (.int (f1 p2)), .val (.int (f1 p3)), .val (.int (f1 p4)), .val (.ref b6), .val (.int (1 : Int32)), .unset, .unset] [(.int (nar .boolean ((f6_r1_a (f6_r1_a (own_upd (own_upd (own_upd (own_upd (own_upd (fun _ => 0) 0 (1 : Int32)) ((f1 p0)).toNatClampNeg (1 : Int32)) ((f1 p1)).toNatClampNeg (1 : Int32)) ((f1 p2)).toNatClampNeg (1 : Int32)) (((1 : Int32) + (((p5.toUInt32 >>> ((2 : Int32) &&& 31).toUInt32).toInt32) - (((p5.toUInt32 >>> ((2 : Int32) &&& 31).toUInt32).toInt32) / (19 : Int32)) * (19 : Int32)))).toNatClampNeg (0 : Int32)))) ((f1 p4)).toNatClampNeg)))])) _
              refine XS.iconst X199.here hx rfl (hb hby at_142) ?_
              exact kt)
          have hd143_211 : (nar .boolean ((f6_r1_a (f6_r1_a (own_upd (own_upd (own_upd (own_upd (own_upd (fun _ => 0) 0 (1 : Int32)) ((f1 p0)).toNatClampNeg (1 : Int32)) ((f1 p1)).toNatClampNeg (1 : Int32)) ((f1 p2)).toNatClampNeg (1 : Int32)) (((1 : Int32) + (((p5.toUInt32 >>> ((2 : Int32) &&& 31).toUInt32).toInt32) - (((p5.toUInt32 >>> ((2 : Int32) &&& 31).toUInt32).toInt32) / (19 : Int32)) * (19 : Int32)))).toNatClampNeg (0 : Int32)))) ((f1 p4)).toNatClampNeg)) = (0 : Int32) := own_is1 _ (own_ch _) hc135_201
          obtain ⟨cq212, kq212, q212a, q212b, q212c⟩ := isOf hZ e199q ((c137.keep K133q).keep K188q)
          obtain ⟨_, _, ⟨T212, L212, k212, n212⟩, -, X212, ⟨Lc212, hQ212, l212, y212, z212⟩, st212⟩ := X199.virtualBack hx (y := (⟨"com/example/cardhost/cardhost/LogicalChannels", "lowestClosed", "()I"⟩ : MethodName)) (z := (⟨"com/example/cardhost/cardhost/LogicalChannels", "lowestClosed", "()I"⟩ : MethodName)) hown (mvT hZ (hw _ (List.mem_of_getElem? (i := 43) rfl))) (mvT hZ (hw _ (List.mem_of_getElem? (i := 44) rfl))) (notFace_of_selects (args := #[]) (mvT hZ (hw _ (List.mem_of_getElem? (i := 46) rfl)))) (mvT hZ (hw _ (List.mem_of_getElem? (i := 46) rfl))) (mvT hZ (hw _ (List.mem_of_getElem? (i := 45) rfl))) (by decide) (backOf (W := 0) (rm8 l Z a0 hw [] b6 r_o0_open_9 (f6_r1_a (f6_r1_a (own_upd (own_upd (own_upd (own_upd (own_upd (fun _ => 0) 0 (1 : Int32)) ((f1 p0)).toNatClampNeg (1 : Int32)) ((f1 p1)).toNatClampNeg (1 : Int32)) ((f1 p2)).toNatClampNeg (1 : Int32)) (((1 : Int32) + (((p5.toUInt32 >>> ((2 : Int32) &&& 31).toUInt32).toInt32) - (((p5.toUInt32 >>> ((2 : Int32) &&& 31).toUInt32).toInt32) / (19 : Int32)) * (19 : Int32)))).toNatClampNeg (0 : Int32)))) T188.heap n0 Z192 c194 G188_0 g_r_o0_open_9) hZ (hw _ (List.mem_of_getElem? (i := 47) rfl)) (hw _ (List.mem_of_getElem? (i := 7) rfl)) (by decide) (by decide)) q212a q212c (g := (mkF m 155 #[.val (.int p0), .val (.int p1), .val (.int p2), .val (.int p3), .val (.int p4), .val (.int p5), .val (.int (f1 p0)), .val (.int (f1 p1)), .val (.int (f1 p2)), .val (.int (f1 p3)), .val (.int (f1 p4)), .val (.ref b6), .val (.int (1 : Int32)), .val (.int (1 : Int32)), .unset] [(.ref b6)])) rfl (by rw [hml]; rfl) (Steps.refl _) (argsL := []) (rest := []) (lenOf pd_0_4 rfl) rfl (by show 2 * 0 + _ ≤ _; exact Nat.le_of_eq rfl) (hb hby at_155) (fun _ _ => ⟨rfl, e199q, (by decide : 4 + 0 ≤ _), (by decide : 63 + 0 ≤ _)⟩)
          dsimp only [Pt.U, Pt.locs, Pt.cells, Pt.slots] at X212 l212 y212 z212 st212 hQ212
          subst l212 y212 z212
          obtain ⟨rfl, N212q, e212q⟩ := hQ212
          have N212 := Fr.app N199 N212q
          have pre213 : ∀ t, Steps p.tables e below (T212.setTop (mkF m 159 #[.val (.int p0), .val (.int p1), .val (.int p2), .val (.int p3), .val (.int p4), .val (.int p5), .val (.int (f1 p0)), .val (.int (f1 p1)), .val (.int (f1 p2)), .val (.int (f1 p3)), .val (.int (f1 p4)), .val (.ref b6), .val (.int (1 : Int32)), .val (.int (1 : Int32)), .unset] [(.int (1 : Int32)), (.int (f8 (f6_r1_a (f6_r1_a (own_upd (own_upd (own_upd (own_upd (own_upd (fun _ => 0) 0 (1 : Int32)) ((f1 p0)).toNatClampNeg (1 : Int32)) ((f1 p1)).toNatClampNeg (1 : Int32)) ((f1 p2)).toNatClampNeg (1 : Int32)) (((1 : Int32) + (((p5.toUInt32 >>> ((2 : Int32) &&& 31).toUInt32).toInt32) - (((p5.toUInt32 >>> ((2 : Int32) &&& 31).toUInt32).toInt32) / (19 : Int32)) * (19 : Int32)))).toNatClampNeg (0 : Int32))))))])) t → Steps p.tables e below (s₁.setTop (entryFrame m #[(.int p0), (.int p1), (.int p2), (.int p3), (.int p4), (.int p5)] maxLocals)) t := fun t kt => pre210 t (by
              show Steps p.tables e below (T199.setTop (mkF m 143 #[.val (.int p0), .val (.int p1), .val (.int p2), .val (.int p3), .val (.int p4), .val (.int p5), .val (.int (f1 p0)), .val (.int (f1 p1)), .val (.int (f1 p2)), .val (.int (f1 p3)), .val (.int (f1 p4)), .val (.ref b6), .val (.int (1 : Int32)), .unset, .unset] [(.int (0 : Int32)), (.int (nar .boolean ((f6_r1_a (f6_r1_a (own_upd (own_upd (own_upd (own_upd (own_upd (fun _ => 0) 0 (1 : Int32)) ((f1 p0)).toNatClampNeg (1 : Int32)) ((f1 p1)).toNatClampNeg (1 : Int32)) ((f1 p2)).toNatClampNeg (1 : Int32)) (((1 : Int32) + (((p5.toUInt32 >>> ((2 : Int32) &&& 31).toUInt32).toInt32) - (((p5.toUInt32 >>> ((2 : Int32) &&& 31).toUInt32).toInt32) / (19 : Int32)) * (19 : Int32)))).toNatClampNeg (0 : Int32)))) ((f1 p4)).toNatClampNeg)))])) _
              refine XS.icmpNo X199.here hx rfl (hb hby at_143) rfl (teq hd143_211).2 ?_
              show Steps p.tables e below (T199.setTop (mkF m 146 #[.val (.int p0), .val (.int p1), .val (.int p2), .val (.int p3), .val (.int p4), .val (.int p5), .val (.int (f1 p0)), .val (.int (f1 p1)), .val (.int (f1 p2)), .val (.int (f1 p3)), .val (.int (f1 p4)), .val (.ref b6), .val (.int (1 : Int32)), .unset, .unset] [])) _
              refine XS.iconst X199.here hx rfl (hb hby at_146) ?_
              show Steps p.tables e below (T199.setTop (mkF m 147 #[.val (.int p0), .val (.int p1), .val (.int p2), .val (.int p3), .val (.int p4), .val (.int p5), .val (.int (f1 p0)), .val (.int (f1 p1)), .val (.int (f1 p2)), .val (.int (f1 p3)), .val (.int (f1 p4)), .val (.ref b6), .val (.int (1 : Int32)), .unset, .unset] [(.int (1 : Int32))])) _
              refine XS.goto X199.here hx rfl (pc0 := 147) (pc' := 151) rfl (hb hby at_147) (by decide) (by decide) ?_
              show Steps p.tables e below (T199.setTop (mkF m 151 #[.val (.int p0), .val (.int p1), .val (.int p2), .val (.int p3), .val (.int p4), .val (.int p5), .val (.int (f1 p0)), .val (.int (f1 p1)), .val (.int (f1 p2)), .val (.int (f1 p3)), .val (.int (f1 p4)), .val (.ref b6), .val (.int (1 : Int32)), .unset, .unset] [(.int (1 : Int32))])) _
              refine XS.istore X199.here hx rfl (hb hby at_151) rfl (l' := #[.val (.int p0), .val (.int p1), .val (.int p2), .val (.int p3), .val (.int p4), .val (.int p5), .val (.int (f1 p0)), .val (.int (f1 p1)), .val (.int (f1 p2)), .val (.int (f1 p3)), .val (.int (f1 p4)), .val (.ref b6), .val (.int (1 : Int32)), .val (.int (1 : Int32)), .unset]) rfl ?_
              show Steps p.tables e below (T199.setTop (mkF m 153 #[.val (.int p0), .val (.int p1), .val (.int p2), .val (.int p3), .val (.int p4), .val (.int p5), .val (.int (f1 p0)), .val (.int (f1 p1)), .val (.int (f1 p2)), .val (.int (f1 p3)), .val (.int (f1 p4)), .val (.ref b6), .val (.int (1 : Int32)), .val (.int (1 : Int32)), .unset] [])) _
              refine XS.aload X199.here hx rfl (hb hby at_153) rfl rfl ?_
              show Steps p.tables e below (T199.setTop (mkF m 155 #[.val (.int p0), .val (.int p1), .val (.int p2), .val (.int p3), .val (.int p4), .val (.int p5), .val (.int (f1 p0)), .val (.int (f1 p1)), .val (.int (f1 p2)), .val (.int (f1 p3)), .val (.int (f1 p4)), .val (.ref b6), .val (.int (1 : Int32)), .val (.int (1 : Int32)), .unset] [(.ref b6)])) _
              refine st212.trans ?_
              show Steps p.tables e below (T212.setTop (mkF m 158 #[.val (.int p0), .val (.int p1), .val (.int p2), .val (.int p3), .val (.int p4), .val (.int p5), .val (.int (f1 p0)), .val (.int (f1 p1)), .val (.int (f1 p2)), .val (.int (f1 p3)), .val (.int (f1 p4)), .val (.ref b6), .val (.int (1 : Int32)), .val (.int (1 : Int32)), .unset] [(.int (f8 (f6_r1_a (f6_r1_a (own_upd (own_upd (own_upd (own_upd (own_upd (fun _ => 0) 0 (1 : Int32)) ((f1 p0)).toNatClampNeg (1 : Int32)) ((f1 p1)).toNatClampNeg (1 : Int32)) ((f1 p2)).toNatClampNeg (1 : Int32)) (((1 : Int32) + (((p5.toUInt32 >>> ((2 : Int32) &&& 31).toUInt32).toInt32) - (((p5.toUInt32 >>> ((2 : Int32) &&& 31).toUInt32).toInt32) / (19 : Int32)) * (19 : Int32)))).toNatClampNeg (0 : Int32))))))])) _
              refine XS.iconst X212.here hx rfl (hb hby at_158) ?_
              exact kt)
          have hd159_214 : (f8 (f6_r1_a (f6_r1_a (own_upd (own_upd (own_upd (own_upd (own_upd (fun _ => 0) 0 (1 : Int32)) ((f1 p0)).toNatClampNeg (1 : Int32)) ((f1 p1)).toNatClampNeg (1 : Int32)) ((f1 p2)).toNatClampNeg (1 : Int32)) (((1 : Int32) + (((p5.toUInt32 >>> ((2 : Int32) &&& 31).toUInt32).toInt32) - (((p5.toUInt32 >>> ((2 : Int32) &&& 31).toUInt32).toInt32) / (19 : Int32)) * (19 : Int32)))).toNatClampNeg (0 : Int32))))) = (1 : Int32) := own_lc _
          have pre215 : ∀ t, Steps p.tables e below (T212.setTop (mkF m 171 #[.val (.int p0), .val (.int p1), .val (.int p2), .val (.int p3), .val (.int p4), .val (.int p5), .val (.int (f1 p0)), .val (.int (f1 p1)), .val (.int (f1 p2)), .val (.int (f1 p3)), .val (.int (f1 p4)), .val (.ref b6), .val (.int (1 : Int32)), .val (.int (1 : Int32)), .val (.int (1 : Int32))] [(.int (1 : Int32))])) t → Steps p.tables e below (s₁.setTop (entryFrame m #[(.int p0), (.int p1), (.int p2), (.int p3), (.int p4), (.int p5)] maxLocals)) t := fun t kt => pre213 t (by
              show Steps p.tables e below (T212.setTop (mkF m 159 #[.val (.int p0), .val (.int p1), .val (.int p2), .val (.int p3), .val (.int p4), .val (.int p5), .val (.int (f1 p0)), .val (.int (f1 p1)), .val (.int (f1 p2)), .val (.int (f1 p3)), .val (.int (f1 p4)), .val (.ref b6), .val (.int (1 : Int32)), .val (.int (1 : Int32)), .unset] [(.int (1 : Int32)), (.int (f8 (f6_r1_a (f6_r1_a (own_upd (own_upd (own_upd (own_upd (own_upd (fun _ => 0) 0 (1 : Int32)) ((f1 p0)).toNatClampNeg (1 : Int32)) ((f1 p1)).toNatClampNeg (1 : Int32)) ((f1 p2)).toNatClampNeg (1 : Int32)) (((1 : Int32) + (((p5.toUInt32 >>> ((2 : Int32) &&& 31).toUInt32).toInt32) - (((p5.toUInt32 >>> ((2 : Int32) &&& 31).toUInt32).toInt32) / (19 : Int32)) * (19 : Int32)))).toNatClampNeg (0 : Int32))))))])) _
              refine XS.icmpNo X212.here hx rfl (hb hby at_159) rfl (teq hd159_214).2 ?_
              show Steps p.tables e below (T212.setTop (mkF m 162 #[.val (.int p0), .val (.int p1), .val (.int p2), .val (.int p3), .val (.int p4), .val (.int p5), .val (.int (f1 p0)), .val (.int (f1 p1)), .val (.int (f1 p2)), .val (.int (f1 p3)), .val (.int (f1 p4)), .val (.ref b6), .val (.int (1 : Int32)), .val (.int (1 : Int32)), .unset] [])) _
              refine XS.iconst X212.here hx rfl (hb hby at_162) ?_
              show Steps p.tables e below (T212.setTop (mkF m 163 #[.val (.int p0), .val (.int p1), .val (.int p2), .val (.int p3), .val (.int p4), .val (.int p5), .val (.int (f1 p0)), .val (.int (f1 p1)), .val (.int (f1 p2)), .val (.int (f1 p3)), .val (.int (f1 p4)), .val (.ref b6), .val (.int (1 : Int32)), .val (.int (1 : Int32)), .unset] [(.int (1 : Int32))])) _
              refine XS.goto X212.here hx rfl (pc0 := 163) (pc' := 167) rfl (hb hby at_163) (by decide) (by decide) ?_
              show Steps p.tables e below (T212.setTop (mkF m 167 #[.val (.int p0), .val (.int p1), .val (.int p2), .val (.int p3), .val (.int p4), .val (.int p5), .val (.int (f1 p0)), .val (.int (f1 p1)), .val (.int (f1 p2)), .val (.int (f1 p3)), .val (.int (f1 p4)), .val (.ref b6), .val (.int (1 : Int32)), .val (.int (1 : Int32)), .unset] [(.int (1 : Int32))])) _
              refine XS.istore X212.here hx rfl (hb hby at_167) rfl (l' := #[.val (.int p0), .val (.int p1), .val (.int p2), .val (.int p3), .val (.int p4), .val (.int p5), .val (.int (f1 p0)), .val (.int (f1 p1)), .val (.int (f1 p2)), .val (.int (f1 p3)), .val (.int (f1 p4)), .val (.ref b6), .val (.int (1 : Int32)), .val (.int (1 : Int32)), .val (.int (1 : Int32))]) rfl ?_
              show Steps p.tables e below (T212.setTop (mkF m 169 #[.val (.int p0), .val (.int p1), .val (.int p2), .val (.int p3), .val (.int p4), .val (.int p5), .val (.int (f1 p0)), .val (.int (f1 p1)), .val (.int (f1 p2)), .val (.int (f1 p3)), .val (.int (f1 p4)), .val (.ref b6), .val (.int (1 : Int32)), .val (.int (1 : Int32)), .val (.int (1 : Int32))] [])) _
              refine XS.iload X212.here hx rfl (hb hby at_169) rfl ?_
              exact kt)
          have pre216 : ∀ t, Steps p.tables e below (T212.setTop (mkF m 176 #[.val (.int p0), .val (.int p1), .val (.int p2), .val (.int p3), .val (.int p4), .val (.int p5), .val (.int (f1 p0)), .val (.int (f1 p1)), .val (.int (f1 p2)), .val (.int (f1 p3)), .val (.int (f1 p4)), .val (.ref b6), .val (.int (1 : Int32)), .val (.int (1 : Int32)), .val (.int (1 : Int32))] [(.int (1 : Int32))])) t → Steps p.tables e below (s₁.setTop (entryFrame m #[(.int p0), (.int p1), (.int p2), (.int p3), (.int p4), (.int p5)] maxLocals)) t := fun t kt => pre215 t (by
              show Steps p.tables e below (T212.setTop (mkF m 171 #[.val (.int p0), .val (.int p1), .val (.int p2), .val (.int p3), .val (.int p4), .val (.int p5), .val (.int (f1 p0)), .val (.int (f1 p1)), .val (.int (f1 p2)), .val (.int (f1 p3)), .val (.int (f1 p4)), .val (.ref b6), .val (.int (1 : Int32)), .val (.int (1 : Int32)), .val (.int (1 : Int32))] [(.int (1 : Int32))])) _
              refine XS.ifNo X212.here hx rfl (hb hby at_171) rfl ((if0 _ _).trans (feq (by decide : ¬ ((1 : Int32) = (0 : Int32)))).1) ?_
              show Steps p.tables e below (T212.setTop (mkF m 174 #[.val (.int p0), .val (.int p1), .val (.int p2), .val (.int p3), .val (.int p4), .val (.int p5), .val (.int (f1 p0)), .val (.int (f1 p1)), .val (.int (f1 p2)), .val (.int (f1 p3)), .val (.int (f1 p4)), .val (.ref b6), .val (.int (1 : Int32)), .val (.int (1 : Int32)), .val (.int (1 : Int32))] [])) _
              refine XS.iload X212.here hx rfl (hb hby at_174) rfl ?_
              exact kt)
          have pre217 : ∀ t, Steps p.tables e below (T212.setTop (mkF m 181 #[.val (.int p0), .val (.int p1), .val (.int p2), .val (.int p3), .val (.int p4), .val (.int p5), .val (.int (f1 p0)), .val (.int (f1 p1)), .val (.int (f1 p2)), .val (.int (f1 p3)), .val (.int (f1 p4)), .val (.ref b6), .val (.int (1 : Int32)), .val (.int (1 : Int32)), .val (.int (1 : Int32))] [(.int (1 : Int32))])) t → Steps p.tables e below (s₁.setTop (entryFrame m #[(.int p0), (.int p1), (.int p2), (.int p3), (.int p4), (.int p5)] maxLocals)) t := fun t kt => pre216 t (by
              show Steps p.tables e below (T212.setTop (mkF m 176 #[.val (.int p0), .val (.int p1), .val (.int p2), .val (.int p3), .val (.int p4), .val (.int p5), .val (.int (f1 p0)), .val (.int (f1 p1)), .val (.int (f1 p2)), .val (.int (f1 p3)), .val (.int (f1 p4)), .val (.ref b6), .val (.int (1 : Int32)), .val (.int (1 : Int32)), .val (.int (1 : Int32))] [(.int (1 : Int32))])) _
              refine XS.ifNo X212.here hx rfl (hb hby at_176) rfl ((if0 _ _).trans (feq (by decide : ¬ ((1 : Int32) = (0 : Int32)))).1) ?_
              show Steps p.tables e below (T212.setTop (mkF m 179 #[.val (.int p0), .val (.int p1), .val (.int p2), .val (.int p3), .val (.int p4), .val (.int p5), .val (.int (f1 p0)), .val (.int (f1 p1)), .val (.int (f1 p2)), .val (.int (f1 p3)), .val (.int (f1 p4)), .val (.ref b6), .val (.int (1 : Int32)), .val (.int (1 : Int32)), .val (.int (1 : Int32))] [])) _
              refine XS.iload X212.here hx rfl (hb hby at_179) rfl ?_
              exact kt)
          obtain ⟨fs, hr, hrun, hended, hW, hsame⟩ := X212.leave (v := some (.int (1 : Int32))) (fun h => by rw [Bd.returns] at h; cases h)
          have hv252 : (1 : Int32) = (1 : Int32) := rfl
          refine ⟨_, _, pre217 _ ?_, hrun, hended, _, _, rfl, ?_, ⟨_, rfl⟩, hW, hsame.mono (by decide) (by decide)⟩
          · show Steps p.tables e below (T212.setTop (mkF m 181 #[.val (.int p0), .val (.int p1), .val (.int p2), .val (.int p3), .val (.int p4), .val (.int p5), .val (.int (f1 p0)), .val (.int (f1 p1)), .val (.int (f1 p2)), .val (.int (f1 p3)), .val (.int (f1 p4)), .val (.ref b6), .val (.int (1 : Int32)), .val (.int (1 : Int32)), .val (.int (1 : Int32))] [(.int (1 : Int32))])) _
            refine XS.ifNo X212.here hx rfl (hb hby at_181) rfl ((if0 _ _).trans (feq (by decide : ¬ ((1 : Int32) = (0 : Int32)))).1) ?_
            show Steps p.tables e below (T212.setTop (mkF m 184 #[.val (.int p0), .val (.int p1), .val (.int p2), .val (.int p3), .val (.int p4), .val (.int p5), .val (.int (f1 p0)), .val (.int (f1 p1)), .val (.int (f1 p2)), .val (.int (f1 p3)), .val (.int (f1 p4)), .val (.ref b6), .val (.int (1 : Int32)), .val (.int (1 : Int32)), .val (.int (1 : Int32))] [])) _
            refine XS.iconst X212.here hx rfl (hb hby at_184) ?_
            show Steps p.tables e below (T212.setTop (mkF m 185 #[.val (.int p0), .val (.int p1), .val (.int p2), .val (.int p3), .val (.int p4), .val (.int p5), .val (.int (f1 p0)), .val (.int (f1 p1)), .val (.int (f1 p2)), .val (.int (f1 p3)), .val (.int (f1 p4)), .val (.ref b6), .val (.int (1 : Int32)), .val (.int (1 : Int32)), .val (.int (1 : Int32))] [(.int (1 : Int32))])) _
            refine XS.goto X212.here hx rfl (pc0 := 185) (pc' := 189) rfl (hb hby at_185) (by decide) (by decide) ?_
            show Steps p.tables e below (T212.setTop (mkF m 189 #[.val (.int p0), .val (.int p1), .val (.int p2), .val (.int p3), .val (.int p4), .val (.int p5), .val (.int (f1 p0)), .val (.int (f1 p1)), .val (.int (f1 p2)), .val (.int (f1 p3)), .val (.int (f1 p4)), .val (.ref b6), .val (.int (1 : Int32)), .val (.int (1 : Int32)), .val (.int (1 : Int32))] [(.int (1 : Int32))])) _
            exact retN X212 hx (t := .boolean) Bd.returns (by simp) (hb hby at_189) hr
          · show Q0 Z p0 p1 p2 p3 p4 p5 h0 n0 _ T212.heap _
            rw [e212q]
            exact ⟨congrArg (fun q => some (Value.int q)) hv252, N212⟩
      · have pre218 : ∀ t, Steps p.tables e below (T193.setTop (mkF m 116 #[.val (.int p0), .val (.int p1), .val (.int p2), .val (.int p3), .val (.int p4), .val (.int p5), .val (.int (f1 p0)), .val (.int (f1 p1)), .val (.int (f1 p2)), .val (.int (f1 p3)), .val (.int (f1 p4)), .val (.ref b6), .unset, .unset, .unset] [(.int (0 : Int32)), (.int (nar .boolean ((f6_r1_a (f6_r1_a (own_upd (own_upd (own_upd (own_upd (own_upd (fun _ => 0) 0 (1 : Int32)) ((f1 p0)).toNatClampNeg (1 : Int32)) ((f1 p1)).toNatClampNeg (1 : Int32)) ((f1 p2)).toNatClampNeg (1 : Int32)) (((1 : Int32) + (((p5.toUInt32 >>> ((2 : Int32) &&& 31).toUInt32).toInt32) - (((p5.toUInt32 >>> ((2 : Int32) &&& 31).toUInt32).toInt32) / (19 : Int32)) * (19 : Int32)))).toNatClampNeg (0 : Int32)))) ((f1 p3)).toNatClampNeg)))])) t → Steps p.tables e below (s₁.setTop (entryFrame m #[(.int p0), (.int p1), (.int p2), (.int p3), (.int p4), (.int p5)] maxLocals)) t := fun t kt => pre195 t (by
            show Steps p.tables e below (T193.setTop (mkF m 108 #[.val (.int p0), .val (.int p1), .val (.int p2), .val (.int p3), .val (.int p4), .val (.int p5), .val (.int (f1 p0)), .val (.int (f1 p1)), .val (.int (f1 p2)), .val (.int (f1 p3)), .val (.int (f1 p4)), .val (.ref b6), .unset, .unset, .unset] [(.int (f1 p3)), (.int (nar .boolean ((f6_r1_a (f6_r1_a (own_upd (own_upd (own_upd (own_upd (own_upd (fun _ => 0) 0 (1 : Int32)) ((f1 p0)).toNatClampNeg (1 : Int32)) ((f1 p1)).toNatClampNeg (1 : Int32)) ((f1 p2)).toNatClampNeg (1 : Int32)) (((1 : Int32) + (((p5.toUInt32 >>> ((2 : Int32) &&& 31).toUInt32).toInt32) - (((p5.toUInt32 >>> ((2 : Int32) &&& 31).toUInt32).toInt32) / (19 : Int32)) * (19 : Int32)))).toNatClampNeg (0 : Int32)))) ((f1 p3)).toNatClampNeg)))])) _
            refine XS.ifYes X193.here hx rfl (pc0 := 108) (pc' := 115) rfl (hb hby at_108) rfl ((if0 _ _).trans (feq hc108_196).2) (by decide) (by decide) ?_
            show Steps p.tables e below (T193.setTop (mkF m 115 #[.val (.int p0), .val (.int p1), .val (.int p2), .val (.int p3), .val (.int p4), .val (.int p5), .val (.int (f1 p0)), .val (.int (f1 p1)), .val (.int (f1 p2)), .val (.int (f1 p3)), .val (.int (f1 p4)), .val (.ref b6), .unset, .unset, .unset] [(.int (nar .boolean ((f6_r1_a (f6_r1_a (own_upd (own_upd (own_upd (own_upd (own_upd (fun _ => 0) 0 (1 : Int32)) ((f1 p0)).toNatClampNeg (1 : Int32)) ((f1 p1)).toNatClampNeg (1 : Int32)) ((f1 p2)).toNatClampNeg (1 : Int32)) (((1 : Int32) + (((p5.toUInt32 >>> ((2 : Int32) &&& 31).toUInt32).toInt32) - (((p5.toUInt32 >>> ((2 : Int32) &&& 31).toUInt32).toInt32) / (19 : Int32)) * (19 : Int32)))).toNatClampNeg (0 : Int32)))) ((f1 p3)).toNatClampNeg)))])) _
            refine XS.iconst X193.here hx rfl (hb hby at_115) ?_
            exact kt)
        have hd116_219 : (nar .boolean ((f6_r1_a (f6_r1_a (own_upd (own_upd (own_upd (own_upd (own_upd (fun _ => 0) 0 (1 : Int32)) ((f1 p0)).toNatClampNeg (1 : Int32)) ((f1 p1)).toNatClampNeg (1 : Int32)) ((f1 p2)).toNatClampNeg (1 : Int32)) (((1 : Int32) + (((p5.toUInt32 >>> ((2 : Int32) &&& 31).toUInt32).toInt32) - (((p5.toUInt32 >>> ((2 : Int32) &&& 31).toUInt32).toInt32) / (19 : Int32)) * (19 : Int32)))).toNatClampNeg (0 : Int32)))) ((f1 p3)).toNatClampNeg)) = (0 : Int32) := own_is1 _ (own_ch _) hc108_196
        obtain ⟨cq220, kq220, q220a, q220b, q220c⟩ := isOf hZ e193q ((c137.keep K133q).keep K188q)
        obtain ⟨_, _, ⟨T220, L220, k220, n220⟩, -, X220, ⟨Lc220, hQ220, l220, y220, z220⟩, st220⟩ := X193.virtualBack hx (y := (⟨"com/example/cardhost/cardhost/LogicalChannels", "isOpen", "(I)Z"⟩ : MethodName)) (z := (⟨"com/example/cardhost/cardhost/LogicalChannels", "isOpen", "(I)Z"⟩ : MethodName)) hown (mvT hZ (hw _ (List.mem_of_getElem? (i := 38) rfl))) (mvT hZ (hw _ (List.mem_of_getElem? (i := 39) rfl))) (notFace_of_selects (args := #[]) (mvT hZ (hw _ (List.mem_of_getElem? (i := 41) rfl)))) (mvT hZ (hw _ (List.mem_of_getElem? (i := 41) rfl))) (mvT hZ (hw _ (List.mem_of_getElem? (i := 40) rfl))) (by decide) (backOf (W := 0) (rm7 l Z a0 hw [] b6 (f1 p4) r_o0_open_9 (f6_r1_a (f6_r1_a (own_upd (own_upd (own_upd (own_upd (own_upd (fun _ => 0) 0 (1 : Int32)) ((f1 p0)).toNatClampNeg (1 : Int32)) ((f1 p1)).toNatClampNeg (1 : Int32)) ((f1 p2)).toNatClampNeg (1 : Int32)) (((1 : Int32) + (((p5.toUInt32 >>> ((2 : Int32) &&& 31).toUInt32).toInt32) - (((p5.toUInt32 >>> ((2 : Int32) &&& 31).toUInt32).toInt32) / (19 : Int32)) * (19 : Int32)))).toNatClampNeg (0 : Int32)))) T188.heap n0 Z192 c194 G188_0 g_r_o0_open_9 (own_ch _)) hZ (hw _ (List.mem_of_getElem? (i := 42) rfl)) (hw _ (List.mem_of_getElem? (i := 7) rfl)) (by decide) (by decide)) q220a q220c (g := (mkF m 130 #[.val (.int p0), .val (.int p1), .val (.int p2), .val (.int p3), .val (.int p4), .val (.int p5), .val (.int (f1 p0)), .val (.int (f1 p1)), .val (.int (f1 p2)), .val (.int (f1 p3)), .val (.int (f1 p4)), .val (.ref b6), .val (.int (1 : Int32)), .unset, .unset] [(.int (f1 p4)), (.ref b6)])) rfl (by rw [hml]; rfl) (Steps.refl _) (argsL := [(.int (f1 p4))]) (rest := []) (lenOf pd_0_3 rfl) rfl (by show 2 * 0 + _ ≤ _; exact Nat.le_of_eq rfl) (hb hby at_130) (fun _ _ => ⟨rfl, e193q, (by decide : 4 + 0 ≤ _), (by decide : 63 + 0 ≤ _)⟩)
        dsimp only [Pt.U, Pt.locs, Pt.cells, Pt.slots] at X220 l220 y220 z220 st220 hQ220
        subst l220 y220 z220
        obtain ⟨rfl, N220q, e220q⟩ := hQ220
        have N220 := Fr.app N193 N220q
        have pre221 : ∀ t, Steps p.tables e below (T220.setTop (mkF m 135 #[.val (.int p0), .val (.int p1), .val (.int p2), .val (.int p3), .val (.int p4), .val (.int p5), .val (.int (f1 p0)), .val (.int (f1 p1)), .val (.int (f1 p2)), .val (.int (f1 p3)), .val (.int (f1 p4)), .val (.ref b6), .val (.int (1 : Int32)), .unset, .unset] [(.int (f1 p4)), (.int (nar .boolean ((f6_r1_a (f6_r1_a (own_upd (own_upd (own_upd (own_upd (own_upd (fun _ => 0) 0 (1 : Int32)) ((f1 p0)).toNatClampNeg (1 : Int32)) ((f1 p1)).toNatClampNeg (1 : Int32)) ((f1 p2)).toNatClampNeg (1 : Int32)) (((1 : Int32) + (((p5.toUInt32 >>> ((2 : Int32) &&& 31).toUInt32).toInt32) - (((p5.toUInt32 >>> ((2 : Int32) &&& 31).toUInt32).toInt32) / (19 : Int32)) * (19 : Int32)))).toNatClampNeg (0 : Int32)))) ((f1 p4)).toNatClampNeg)))])) t → Steps p.tables e below (s₁.setTop (entryFrame m #[(.int p0), (.int p1), (.int p2), (.int p3), (.int p4), (.int p5)] maxLocals)) t := fun t kt => pre218 t (by
            show Steps p.tables e below (T193.setTop (mkF m 116 #[.val (.int p0), .val (.int p1), .val (.int p2), .val (.int p3), .val (.int p4), .val (.int p5), .val (.int (f1 p0)), .val (.int (f1 p1)), .val (.int (f1 p2)), .val (.int (f1 p3)), .val (.int (f1 p4)), .val (.ref b6), .unset, .unset, .unset] [(.int (0 : Int32)), (.int (nar .boolean ((f6_r1_a (f6_r1_a (own_upd (own_upd (own_upd (own_upd (own_upd (fun _ => 0) 0 (1 : Int32)) ((f1 p0)).toNatClampNeg (1 : Int32)) ((f1 p1)).toNatClampNeg (1 : Int32)) ((f1 p2)).toNatClampNeg (1 : Int32)) (((1 : Int32) + (((p5.toUInt32 >>> ((2 : Int32) &&& 31).toUInt32).toInt32) - (((p5.toUInt32 >>> ((2 : Int32) &&& 31).toUInt32).toInt32) / (19 : Int32)) * (19 : Int32)))).toNatClampNeg (0 : Int32)))) ((f1 p3)).toNatClampNeg)))])) _
            refine XS.icmpNo X193.here hx rfl (hb hby at_116) rfl (teq hd116_219).2 ?_
            show Steps p.tables e below (T193.setTop (mkF m 119 #[.val (.int p0), .val (.int p1), .val (.int p2), .val (.int p3), .val (.int p4), .val (.int p5), .val (.int (f1 p0)), .val (.int (f1 p1)), .val (.int (f1 p2)), .val (.int (f1 p3)), .val (.int (f1 p4)), .val (.ref b6), .unset, .unset, .unset] [])) _
            refine XS.iconst X193.here hx rfl (hb hby at_119) ?_
            show Steps p.tables e below (T193.setTop (mkF m 120 #[.val (.int p0), .val (.int p1), .val (.int p2), .val (.int p3), .val (.int p4), .val (.int p5), .val (.int (f1 p0)), .val (.int (f1 p1)), .val (.int (f1 p2)), .val (.int (f1 p3)), .val (.int (f1 p4)), .val (.ref b6), .unset, .unset, .unset] [(.int (1 : Int32))])) _
            refine XS.goto X193.here hx rfl (pc0 := 120) (pc' := 124) rfl (hb hby at_120) (by decide) (by decide) ?_
            show Steps p.tables e below (T193.setTop (mkF m 124 #[.val (.int p0), .val (.int p1), .val (.int p2), .val (.int p3), .val (.int p4), .val (.int p5), .val (.int (f1 p0)), .val (.int (f1 p1)), .val (.int (f1 p2)), .val (.int (f1 p3)), .val (.int (f1 p4)), .val (.ref b6), .unset, .unset, .unset] [(.int (1 : Int32))])) _
            refine XS.istore X193.here hx rfl (hb hby at_124) rfl (l' := #[.val (.int p0), .val (.int p1), .val (.int p2), .val (.int p3), .val (.int p4), .val (.int p5), .val (.int (f1 p0)), .val (.int (f1 p1)), .val (.int (f1 p2)), .val (.int (f1 p3)), .val (.int (f1 p4)), .val (.ref b6), .val (.int (1 : Int32)), .unset, .unset]) rfl ?_
            show Steps p.tables e below (T193.setTop (mkF m 126 #[.val (.int p0), .val (.int p1), .val (.int p2), .val (.int p3), .val (.int p4), .val (.int p5), .val (.int (f1 p0)), .val (.int (f1 p1)), .val (.int (f1 p2)), .val (.int (f1 p3)), .val (.int (f1 p4)), .val (.ref b6), .val (.int (1 : Int32)), .unset, .unset] [])) _
            refine XS.aload X193.here hx rfl (hb hby at_126) rfl rfl ?_
            show Steps p.tables e below (T193.setTop (mkF m 128 #[.val (.int p0), .val (.int p1), .val (.int p2), .val (.int p3), .val (.int p4), .val (.int p5), .val (.int (f1 p0)), .val (.int (f1 p1)), .val (.int (f1 p2)), .val (.int (f1 p3)), .val (.int (f1 p4)), .val (.ref b6), .val (.int (1 : Int32)), .unset, .unset] [(.ref b6)])) _
            refine XS.iload X193.here hx rfl (hb hby at_128) rfl ?_
            show Steps p.tables e below (T193.setTop (mkF m 130 #[.val (.int p0), .val (.int p1), .val (.int p2), .val (.int p3), .val (.int p4), .val (.int p5), .val (.int (f1 p0)), .val (.int (f1 p1)), .val (.int (f1 p2)), .val (.int (f1 p3)), .val (.int (f1 p4)), .val (.ref b6), .val (.int (1 : Int32)), .unset, .unset] [(.int (f1 p4)), (.ref b6)])) _
            refine st220.trans ?_
            show Steps p.tables e below (T220.setTop (mkF m 133 #[.val (.int p0), .val (.int p1), .val (.int p2), .val (.int p3), .val (.int p4), .val (.int p5), .val (.int (f1 p0)), .val (.int (f1 p1)), .val (.int (f1 p2)), .val (.int (f1 p3)), .val (.int (f1 p4)), .val (.ref b6), .val (.int (1 : Int32)), .unset, .unset] [(.int (nar .boolean ((f6_r1_a (f6_r1_a (own_upd (own_upd (own_upd (own_upd (own_upd (fun _ => 0) 0 (1 : Int32)) ((f1 p0)).toNatClampNeg (1 : Int32)) ((f1 p1)).toNatClampNeg (1 : Int32)) ((f1 p2)).toNatClampNeg (1 : Int32)) (((1 : Int32) + (((p5.toUInt32 >>> ((2 : Int32) &&& 31).toUInt32).toInt32) - (((p5.toUInt32 >>> ((2 : Int32) &&& 31).toUInt32).toInt32) / (19 : Int32)) * (19 : Int32)))).toNatClampNeg (0 : Int32)))) ((f1 p4)).toNatClampNeg)))])) _
            refine XS.iload X220.here hx rfl (hb hby at_133) rfl ?_
            exact kt)
        by_cases hc135_222 : (f1 p4) = (0 : Int32)
        · have pre223 : ∀ t, Steps p.tables e below (T220.setTop (mkF m 143 #[.val (.int p0), .val (.int p1), .val (.int p2), .val (.int p3), .val (.int p4), .val (.int p5), .val (.int (f1 p0)), .val (.int (f1 p1)), .val (.int (f1 p2)), .val (.int (f1 p3)), .val (.int (f1 p4)), .val (.ref b6), .val (.int (1 : Int32)), .unset, .unset] [(.int (1 : Int32)), (.int (nar .boolean ((f6_r1_a (f6_r1_a (own_upd (own_upd (own_upd (own_upd (own_upd (fun _ => 0) 0 (1 : Int32)) ((f1 p0)).toNatClampNeg (1 : Int32)) ((f1 p1)).toNatClampNeg (1 : Int32)) ((f1 p2)).toNatClampNeg (1 : Int32)) (((1 : Int32) + (((p5.toUInt32 >>> ((2 : Int32) &&& 31).toUInt32).toInt32) - (((p5.toUInt32 >>> ((2 : Int32) &&& 31).toUInt32).toInt32) / (19 : Int32)) * (19 : Int32)))).toNatClampNeg (0 : Int32)))) ((f1 p4)).toNatClampNeg)))])) t → Steps p.tables e below (s₁.setTop (entryFrame m #[(.int p0), (.int p1), (.int p2), (.int p3), (.int p4), (.int p5)] maxLocals)) t := fun t kt => pre221 t (by
              show Steps p.tables e below (T220.setTop (mkF m 135 #[.val (.int p0), .val (.int p1), .val (.int p2), .val (.int p3), .val (.int p4), .val (.int p5), .val (.int (f1 p0)), .val (.int (f1 p1)), .val (.int (f1 p2)), .val (.int (f1 p3)), .val (.int (f1 p4)), .val (.ref b6), .val (.int (1 : Int32)), .unset, .unset] [(.int (f1 p4)), (.int (nar .boolean ((f6_r1_a (f6_r1_a (own_upd (own_upd (own_upd (own_upd (own_upd (fun _ => 0) 0 (1 : Int32)) ((f1 p0)).toNatClampNeg (1 : Int32)) ((f1 p1)).toNatClampNeg (1 : Int32)) ((f1 p2)).toNatClampNeg (1 : Int32)) (((1 : Int32) + (((p5.toUInt32 >>> ((2 : Int32) &&& 31).toUInt32).toInt32) - (((p5.toUInt32 >>> ((2 : Int32) &&& 31).toUInt32).toInt32) / (19 : Int32)) * (19 : Int32)))).toNatClampNeg (0 : Int32)))) ((f1 p4)).toNatClampNeg)))])) _
              refine XS.ifNo X220.here hx rfl (hb hby at_135) rfl ((if0 _ _).trans (teq hc135_222).2) ?_
              show Steps p.tables e below (T220.setTop (mkF m 138 #[.val (.int p0), .val (.int p1), .val (.int p2), .val (.int p3), .val (.int p4), .val (.int p5), .val (.int (f1 p0)), .val (.int (f1 p1)), .val (.int (f1 p2)), .val (.int (f1 p3)), .val (.int (f1 p4)), .val (.ref b6), .val (.int (1 : Int32)), .unset, .unset] [(.int (nar .boolean ((f6_r1_a (f6_r1_a (own_upd (own_upd (own_upd (own_upd (own_upd (fun _ => 0) 0 (1 : Int32)) ((f1 p0)).toNatClampNeg (1 : Int32)) ((f1 p1)).toNatClampNeg (1 : Int32)) ((f1 p2)).toNatClampNeg (1 : Int32)) (((1 : Int32) + (((p5.toUInt32 >>> ((2 : Int32) &&& 31).toUInt32).toInt32) - (((p5.toUInt32 >>> ((2 : Int32) &&& 31).toUInt32).toInt32) / (19 : Int32)) * (19 : Int32)))).toNatClampNeg (0 : Int32)))) ((f1 p4)).toNatClampNeg)))])) _
              refine XS.iconst X220.here hx rfl (hb hby at_138) ?_
              show Steps p.tables e below (T220.setTop (mkF m 139 #[.val (.int p0), .val (.int p1), .val (.int p2), .val (.int p3), .val (.int p4), .val (.int p5), .val (.int (f1 p0)), .val (.int (f1 p1)), .val (.int (f1 p2)), .val (.int (f1 p3)), .val (.int (f1 p4)), .val (.ref b6), .val (.int (1 : Int32)), .unset, .unset] [(.int (1 : Int32)), (.int (nar .boolean ((f6_r1_a (f6_r1_a (own_upd (own_upd (own_upd (own_upd (own_upd (fun _ => 0) 0 (1 : Int32)) ((f1 p0)).toNatClampNeg (1 : Int32)) ((f1 p1)).toNatClampNeg (1 : Int32)) ((f1 p2)).toNatClampNeg (1 : Int32)) (((1 : Int32) + (((p5.toUInt32 >>> ((2 : Int32) &&& 31).toUInt32).toInt32) - (((p5.toUInt32 >>> ((2 : Int32) &&& 31).toUInt32).toInt32) / (19 : Int32)) * (19 : Int32)))).toNatClampNeg (0 : Int32)))) ((f1 p4)).toNatClampNeg)))])) _
              refine XS.goto X220.here hx rfl (pc0 := 139) (pc' := 143) rfl (hb hby at_139) (by decide) (by decide) ?_
              exact kt)
          have hd143_224 : (nar .boolean ((f6_r1_a (f6_r1_a (own_upd (own_upd (own_upd (own_upd (own_upd (fun _ => 0) 0 (1 : Int32)) ((f1 p0)).toNatClampNeg (1 : Int32)) ((f1 p1)).toNatClampNeg (1 : Int32)) ((f1 p2)).toNatClampNeg (1 : Int32)) (((1 : Int32) + (((p5.toUInt32 >>> ((2 : Int32) &&& 31).toUInt32).toInt32) - (((p5.toUInt32 >>> ((2 : Int32) &&& 31).toUInt32).toInt32) / (19 : Int32)) * (19 : Int32)))).toNatClampNeg (0 : Int32)))) ((f1 p4)).toNatClampNeg)) = (1 : Int32) := own_is0 _ (own_ch _) hc135_222
          obtain ⟨cq225, kq225, q225a, q225b, q225c⟩ := isOf hZ e220q ((c137.keep K133q).keep K188q)
          obtain ⟨_, _, ⟨T225, L225, k225, n225⟩, -, X225, ⟨Lc225, hQ225, l225, y225, z225⟩, st225⟩ := X220.virtualBack hx (y := (⟨"com/example/cardhost/cardhost/LogicalChannels", "lowestClosed", "()I"⟩ : MethodName)) (z := (⟨"com/example/cardhost/cardhost/LogicalChannels", "lowestClosed", "()I"⟩ : MethodName)) hown (mvT hZ (hw _ (List.mem_of_getElem? (i := 43) rfl))) (mvT hZ (hw _ (List.mem_of_getElem? (i := 44) rfl))) (notFace_of_selects (args := #[]) (mvT hZ (hw _ (List.mem_of_getElem? (i := 46) rfl)))) (mvT hZ (hw _ (List.mem_of_getElem? (i := 46) rfl))) (mvT hZ (hw _ (List.mem_of_getElem? (i := 45) rfl))) (by decide) (backOf (W := 0) (rm8 l Z a0 hw [] b6 r_o0_open_9 (f6_r1_a (f6_r1_a (own_upd (own_upd (own_upd (own_upd (own_upd (fun _ => 0) 0 (1 : Int32)) ((f1 p0)).toNatClampNeg (1 : Int32)) ((f1 p1)).toNatClampNeg (1 : Int32)) ((f1 p2)).toNatClampNeg (1 : Int32)) (((1 : Int32) + (((p5.toUInt32 >>> ((2 : Int32) &&& 31).toUInt32).toInt32) - (((p5.toUInt32 >>> ((2 : Int32) &&& 31).toUInt32).toInt32) / (19 : Int32)) * (19 : Int32)))).toNatClampNeg (0 : Int32)))) T188.heap n0 Z192 c194 G188_0 g_r_o0_open_9) hZ (hw _ (List.mem_of_getElem? (i := 47) rfl)) (hw _ (List.mem_of_getElem? (i := 7) rfl)) (by decide) (by decide)) q225a q225c (g := (mkF m 155 #[.val (.int p0), .val (.int p1), .val (.int p2), .val (.int p3), .val (.int p4), .val (.int p5), .val (.int (f1 p0)), .val (.int (f1 p1)), .val (.int (f1 p2)), .val (.int (f1 p3)), .val (.int (f1 p4)), .val (.ref b6), .val (.int (1 : Int32)), .val (.int (1 : Int32)), .unset] [(.ref b6)])) rfl (by rw [hml]; rfl) (Steps.refl _) (argsL := []) (rest := []) (lenOf pd_0_4 rfl) rfl (by show 2 * 0 + _ ≤ _; exact Nat.le_of_eq rfl) (hb hby at_155) (fun _ _ => ⟨rfl, e220q, (by decide : 4 + 0 ≤ _), (by decide : 63 + 0 ≤ _)⟩)
          dsimp only [Pt.U, Pt.locs, Pt.cells, Pt.slots] at X225 l225 y225 z225 st225 hQ225
          subst l225 y225 z225
          obtain ⟨rfl, N225q, e225q⟩ := hQ225
          have N225 := Fr.app N220 N225q
          have pre226 : ∀ t, Steps p.tables e below (T225.setTop (mkF m 159 #[.val (.int p0), .val (.int p1), .val (.int p2), .val (.int p3), .val (.int p4), .val (.int p5), .val (.int (f1 p0)), .val (.int (f1 p1)), .val (.int (f1 p2)), .val (.int (f1 p3)), .val (.int (f1 p4)), .val (.ref b6), .val (.int (1 : Int32)), .val (.int (1 : Int32)), .unset] [(.int (1 : Int32)), (.int (f8 (f6_r1_a (f6_r1_a (own_upd (own_upd (own_upd (own_upd (own_upd (fun _ => 0) 0 (1 : Int32)) ((f1 p0)).toNatClampNeg (1 : Int32)) ((f1 p1)).toNatClampNeg (1 : Int32)) ((f1 p2)).toNatClampNeg (1 : Int32)) (((1 : Int32) + (((p5.toUInt32 >>> ((2 : Int32) &&& 31).toUInt32).toInt32) - (((p5.toUInt32 >>> ((2 : Int32) &&& 31).toUInt32).toInt32) / (19 : Int32)) * (19 : Int32)))).toNatClampNeg (0 : Int32))))))])) t → Steps p.tables e below (s₁.setTop (entryFrame m #[(.int p0), (.int p1), (.int p2), (.int p3), (.int p4), (.int p5)] maxLocals)) t := fun t kt => pre223 t (by
              show Steps p.tables e below (T220.setTop (mkF m 143 #[.val (.int p0), .val (.int p1), .val (.int p2), .val (.int p3), .val (.int p4), .val (.int p5), .val (.int (f1 p0)), .val (.int (f1 p1)), .val (.int (f1 p2)), .val (.int (f1 p3)), .val (.int (f1 p4)), .val (.ref b6), .val (.int (1 : Int32)), .unset, .unset] [(.int (1 : Int32)), (.int (nar .boolean ((f6_r1_a (f6_r1_a (own_upd (own_upd (own_upd (own_upd (own_upd (fun _ => 0) 0 (1 : Int32)) ((f1 p0)).toNatClampNeg (1 : Int32)) ((f1 p1)).toNatClampNeg (1 : Int32)) ((f1 p2)).toNatClampNeg (1 : Int32)) (((1 : Int32) + (((p5.toUInt32 >>> ((2 : Int32) &&& 31).toUInt32).toInt32) - (((p5.toUInt32 >>> ((2 : Int32) &&& 31).toUInt32).toInt32) / (19 : Int32)) * (19 : Int32)))).toNatClampNeg (0 : Int32)))) ((f1 p4)).toNatClampNeg)))])) _
              refine XS.icmpNo X220.here hx rfl (hb hby at_143) rfl (teq hd143_224).2 ?_
              show Steps p.tables e below (T220.setTop (mkF m 146 #[.val (.int p0), .val (.int p1), .val (.int p2), .val (.int p3), .val (.int p4), .val (.int p5), .val (.int (f1 p0)), .val (.int (f1 p1)), .val (.int (f1 p2)), .val (.int (f1 p3)), .val (.int (f1 p4)), .val (.ref b6), .val (.int (1 : Int32)), .unset, .unset] [])) _
              refine XS.iconst X220.here hx rfl (hb hby at_146) ?_
              show Steps p.tables e below (T220.setTop (mkF m 147 #[.val (.int p0), .val (.int p1), .val (.int p2), .val (.int p3), .val (.int p4), .val (.int p5), .val (.int (f1 p0)), .val (.int (f1 p1)), .val (.int (f1 p2)), .val (.int (f1 p3)), .val (.int (f1 p4)), .val (.ref b6), .val (.int (1 : Int32)), .unset, .unset] [(.int (1 : Int32))])) _
              refine XS.goto X220.here hx rfl (pc0 := 147) (pc' := 151) rfl (hb hby at_147) (by decide) (by decide) ?_
              show Steps p.tables e below (T220.setTop (mkF m 151 #[.val (.int p0), .val (.int p1), .val (.int p2), .val (.int p3), .val (.int p4), .val (.int p5), .val (.int (f1 p0)), .val (.int (f1 p1)), .val (.int (f1 p2)), .val (.int (f1 p3)), .val (.int (f1 p4)), .val (.ref b6), .val (.int (1 : Int32)), .unset, .unset] [(.int (1 : Int32))])) _
              refine XS.istore X220.here hx rfl (hb hby at_151) rfl (l' := #[.val (.int p0), .val (.int p1), .val (.int p2), .val (.int p3), .val (.int p4), .val (.int p5), .val (.int (f1 p0)), .val (.int (f1 p1)), .val (.int (f1 p2)), .val (.int (f1 p3)), .val (.int (f1 p4)), .val (.ref b6), .val (.int (1 : Int32)), .val (.int (1 : Int32)), .unset]) rfl ?_
              show Steps p.tables e below (T220.setTop (mkF m 153 #[.val (.int p0), .val (.int p1), .val (.int p2), .val (.int p3), .val (.int p4), .val (.int p5), .val (.int (f1 p0)), .val (.int (f1 p1)), .val (.int (f1 p2)), .val (.int (f1 p3)), .val (.int (f1 p4)), .val (.ref b6), .val (.int (1 : Int32)), .val (.int (1 : Int32)), .unset] [])) _
              refine XS.aload X220.here hx rfl (hb hby at_153) rfl rfl ?_
              show Steps p.tables e below (T220.setTop (mkF m 155 #[.val (.int p0), .val (.int p1), .val (.int p2), .val (.int p3), .val (.int p4), .val (.int p5), .val (.int (f1 p0)), .val (.int (f1 p1)), .val (.int (f1 p2)), .val (.int (f1 p3)), .val (.int (f1 p4)), .val (.ref b6), .val (.int (1 : Int32)), .val (.int (1 : Int32)), .unset] [(.ref b6)])) _
              refine st225.trans ?_
              show Steps p.tables e below (T225.setTop (mkF m 158 #[.val (.int p0), .val (.int p1), .val (.int p2), .val (.int p3), .val (.int p4), .val (.int p5), .val (.int (f1 p0)), .val (.int (f1 p1)), .val (.int (f1 p2)), .val (.int (f1 p3)), .val (.int (f1 p4)), .val (.ref b6), .val (.int (1 : Int32)), .val (.int (1 : Int32)), .unset] [(.int (f8 (f6_r1_a (f6_r1_a (own_upd (own_upd (own_upd (own_upd (own_upd (fun _ => 0) 0 (1 : Int32)) ((f1 p0)).toNatClampNeg (1 : Int32)) ((f1 p1)).toNatClampNeg (1 : Int32)) ((f1 p2)).toNatClampNeg (1 : Int32)) (((1 : Int32) + (((p5.toUInt32 >>> ((2 : Int32) &&& 31).toUInt32).toInt32) - (((p5.toUInt32 >>> ((2 : Int32) &&& 31).toUInt32).toInt32) / (19 : Int32)) * (19 : Int32)))).toNatClampNeg (0 : Int32))))))])) _
              refine XS.iconst X225.here hx rfl (hb hby at_158) ?_
              exact kt)
          have hd159_227 : (f8 (f6_r1_a (f6_r1_a (own_upd (own_upd (own_upd (own_upd (own_upd (fun _ => 0) 0 (1 : Int32)) ((f1 p0)).toNatClampNeg (1 : Int32)) ((f1 p1)).toNatClampNeg (1 : Int32)) ((f1 p2)).toNatClampNeg (1 : Int32)) (((1 : Int32) + (((p5.toUInt32 >>> ((2 : Int32) &&& 31).toUInt32).toInt32) - (((p5.toUInt32 >>> ((2 : Int32) &&& 31).toUInt32).toInt32) / (19 : Int32)) * (19 : Int32)))).toNatClampNeg (0 : Int32))))) = (1 : Int32) := own_lc _
          have pre228 : ∀ t, Steps p.tables e below (T225.setTop (mkF m 171 #[.val (.int p0), .val (.int p1), .val (.int p2), .val (.int p3), .val (.int p4), .val (.int p5), .val (.int (f1 p0)), .val (.int (f1 p1)), .val (.int (f1 p2)), .val (.int (f1 p3)), .val (.int (f1 p4)), .val (.ref b6), .val (.int (1 : Int32)), .val (.int (1 : Int32)), .val (.int (1 : Int32))] [(.int (1 : Int32))])) t → Steps p.tables e below (s₁.setTop (entryFrame m #[(.int p0), (.int p1), (.int p2), (.int p3), (.int p4), (.int p5)] maxLocals)) t := fun t kt => pre226 t (by
              show Steps p.tables e below (T225.setTop (mkF m 159 #[.val (.int p0), .val (.int p1), .val (.int p2), .val (.int p3), .val (.int p4), .val (.int p5), .val (.int (f1 p0)), .val (.int (f1 p1)), .val (.int (f1 p2)), .val (.int (f1 p3)), .val (.int (f1 p4)), .val (.ref b6), .val (.int (1 : Int32)), .val (.int (1 : Int32)), .unset] [(.int (1 : Int32)), (.int (f8 (f6_r1_a (f6_r1_a (own_upd (own_upd (own_upd (own_upd (own_upd (fun _ => 0) 0 (1 : Int32)) ((f1 p0)).toNatClampNeg (1 : Int32)) ((f1 p1)).toNatClampNeg (1 : Int32)) ((f1 p2)).toNatClampNeg (1 : Int32)) (((1 : Int32) + (((p5.toUInt32 >>> ((2 : Int32) &&& 31).toUInt32).toInt32) - (((p5.toUInt32 >>> ((2 : Int32) &&& 31).toUInt32).toInt32) / (19 : Int32)) * (19 : Int32)))).toNatClampNeg (0 : Int32))))))])) _
              refine XS.icmpNo X225.here hx rfl (hb hby at_159) rfl (teq hd159_227).2 ?_
              show Steps p.tables e below (T225.setTop (mkF m 162 #[.val (.int p0), .val (.int p1), .val (.int p2), .val (.int p3), .val (.int p4), .val (.int p5), .val (.int (f1 p0)), .val (.int (f1 p1)), .val (.int (f1 p2)), .val (.int (f1 p3)), .val (.int (f1 p4)), .val (.ref b6), .val (.int (1 : Int32)), .val (.int (1 : Int32)), .unset] [])) _
              refine XS.iconst X225.here hx rfl (hb hby at_162) ?_
              show Steps p.tables e below (T225.setTop (mkF m 163 #[.val (.int p0), .val (.int p1), .val (.int p2), .val (.int p3), .val (.int p4), .val (.int p5), .val (.int (f1 p0)), .val (.int (f1 p1)), .val (.int (f1 p2)), .val (.int (f1 p3)), .val (.int (f1 p4)), .val (.ref b6), .val (.int (1 : Int32)), .val (.int (1 : Int32)), .unset] [(.int (1 : Int32))])) _
              refine XS.goto X225.here hx rfl (pc0 := 163) (pc' := 167) rfl (hb hby at_163) (by decide) (by decide) ?_
              show Steps p.tables e below (T225.setTop (mkF m 167 #[.val (.int p0), .val (.int p1), .val (.int p2), .val (.int p3), .val (.int p4), .val (.int p5), .val (.int (f1 p0)), .val (.int (f1 p1)), .val (.int (f1 p2)), .val (.int (f1 p3)), .val (.int (f1 p4)), .val (.ref b6), .val (.int (1 : Int32)), .val (.int (1 : Int32)), .unset] [(.int (1 : Int32))])) _
              refine XS.istore X225.here hx rfl (hb hby at_167) rfl (l' := #[.val (.int p0), .val (.int p1), .val (.int p2), .val (.int p3), .val (.int p4), .val (.int p5), .val (.int (f1 p0)), .val (.int (f1 p1)), .val (.int (f1 p2)), .val (.int (f1 p3)), .val (.int (f1 p4)), .val (.ref b6), .val (.int (1 : Int32)), .val (.int (1 : Int32)), .val (.int (1 : Int32))]) rfl ?_
              show Steps p.tables e below (T225.setTop (mkF m 169 #[.val (.int p0), .val (.int p1), .val (.int p2), .val (.int p3), .val (.int p4), .val (.int p5), .val (.int (f1 p0)), .val (.int (f1 p1)), .val (.int (f1 p2)), .val (.int (f1 p3)), .val (.int (f1 p4)), .val (.ref b6), .val (.int (1 : Int32)), .val (.int (1 : Int32)), .val (.int (1 : Int32))] [])) _
              refine XS.iload X225.here hx rfl (hb hby at_169) rfl ?_
              exact kt)
          have pre229 : ∀ t, Steps p.tables e below (T225.setTop (mkF m 176 #[.val (.int p0), .val (.int p1), .val (.int p2), .val (.int p3), .val (.int p4), .val (.int p5), .val (.int (f1 p0)), .val (.int (f1 p1)), .val (.int (f1 p2)), .val (.int (f1 p3)), .val (.int (f1 p4)), .val (.ref b6), .val (.int (1 : Int32)), .val (.int (1 : Int32)), .val (.int (1 : Int32))] [(.int (1 : Int32))])) t → Steps p.tables e below (s₁.setTop (entryFrame m #[(.int p0), (.int p1), (.int p2), (.int p3), (.int p4), (.int p5)] maxLocals)) t := fun t kt => pre228 t (by
              show Steps p.tables e below (T225.setTop (mkF m 171 #[.val (.int p0), .val (.int p1), .val (.int p2), .val (.int p3), .val (.int p4), .val (.int p5), .val (.int (f1 p0)), .val (.int (f1 p1)), .val (.int (f1 p2)), .val (.int (f1 p3)), .val (.int (f1 p4)), .val (.ref b6), .val (.int (1 : Int32)), .val (.int (1 : Int32)), .val (.int (1 : Int32))] [(.int (1 : Int32))])) _
              refine XS.ifNo X225.here hx rfl (hb hby at_171) rfl ((if0 _ _).trans (feq (by decide : ¬ ((1 : Int32) = (0 : Int32)))).1) ?_
              show Steps p.tables e below (T225.setTop (mkF m 174 #[.val (.int p0), .val (.int p1), .val (.int p2), .val (.int p3), .val (.int p4), .val (.int p5), .val (.int (f1 p0)), .val (.int (f1 p1)), .val (.int (f1 p2)), .val (.int (f1 p3)), .val (.int (f1 p4)), .val (.ref b6), .val (.int (1 : Int32)), .val (.int (1 : Int32)), .val (.int (1 : Int32))] [])) _
              refine XS.iload X225.here hx rfl (hb hby at_174) rfl ?_
              exact kt)
          have pre230 : ∀ t, Steps p.tables e below (T225.setTop (mkF m 181 #[.val (.int p0), .val (.int p1), .val (.int p2), .val (.int p3), .val (.int p4), .val (.int p5), .val (.int (f1 p0)), .val (.int (f1 p1)), .val (.int (f1 p2)), .val (.int (f1 p3)), .val (.int (f1 p4)), .val (.ref b6), .val (.int (1 : Int32)), .val (.int (1 : Int32)), .val (.int (1 : Int32))] [(.int (1 : Int32))])) t → Steps p.tables e below (s₁.setTop (entryFrame m #[(.int p0), (.int p1), (.int p2), (.int p3), (.int p4), (.int p5)] maxLocals)) t := fun t kt => pre229 t (by
              show Steps p.tables e below (T225.setTop (mkF m 176 #[.val (.int p0), .val (.int p1), .val (.int p2), .val (.int p3), .val (.int p4), .val (.int p5), .val (.int (f1 p0)), .val (.int (f1 p1)), .val (.int (f1 p2)), .val (.int (f1 p3)), .val (.int (f1 p4)), .val (.ref b6), .val (.int (1 : Int32)), .val (.int (1 : Int32)), .val (.int (1 : Int32))] [(.int (1 : Int32))])) _
              refine XS.ifNo X225.here hx rfl (hb hby at_176) rfl ((if0 _ _).trans (feq (by decide : ¬ ((1 : Int32) = (0 : Int32)))).1) ?_
              show Steps p.tables e below (T225.setTop (mkF m 179 #[.val (.int p0), .val (.int p1), .val (.int p2), .val (.int p3), .val (.int p4), .val (.int p5), .val (.int (f1 p0)), .val (.int (f1 p1)), .val (.int (f1 p2)), .val (.int (f1 p3)), .val (.int (f1 p4)), .val (.ref b6), .val (.int (1 : Int32)), .val (.int (1 : Int32)), .val (.int (1 : Int32))] [])) _
              refine XS.iload X225.here hx rfl (hb hby at_179) rfl ?_
              exact kt)
          obtain ⟨fs, hr, hrun, hended, hW, hsame⟩ := X225.leave (v := some (.int (1 : Int32))) (fun h => by rw [Bd.returns] at h; cases h)
          have hv253 : (1 : Int32) = (1 : Int32) := rfl
          refine ⟨_, _, pre230 _ ?_, hrun, hended, _, _, rfl, ?_, ⟨_, rfl⟩, hW, hsame.mono (by decide) (by decide)⟩
          · show Steps p.tables e below (T225.setTop (mkF m 181 #[.val (.int p0), .val (.int p1), .val (.int p2), .val (.int p3), .val (.int p4), .val (.int p5), .val (.int (f1 p0)), .val (.int (f1 p1)), .val (.int (f1 p2)), .val (.int (f1 p3)), .val (.int (f1 p4)), .val (.ref b6), .val (.int (1 : Int32)), .val (.int (1 : Int32)), .val (.int (1 : Int32))] [(.int (1 : Int32))])) _
            refine XS.ifNo X225.here hx rfl (hb hby at_181) rfl ((if0 _ _).trans (feq (by decide : ¬ ((1 : Int32) = (0 : Int32)))).1) ?_
            show Steps p.tables e below (T225.setTop (mkF m 184 #[.val (.int p0), .val (.int p1), .val (.int p2), .val (.int p3), .val (.int p4), .val (.int p5), .val (.int (f1 p0)), .val (.int (f1 p1)), .val (.int (f1 p2)), .val (.int (f1 p3)), .val (.int (f1 p4)), .val (.ref b6), .val (.int (1 : Int32)), .val (.int (1 : Int32)), .val (.int (1 : Int32))] [])) _
            refine XS.iconst X225.here hx rfl (hb hby at_184) ?_
            show Steps p.tables e below (T225.setTop (mkF m 185 #[.val (.int p0), .val (.int p1), .val (.int p2), .val (.int p3), .val (.int p4), .val (.int p5), .val (.int (f1 p0)), .val (.int (f1 p1)), .val (.int (f1 p2)), .val (.int (f1 p3)), .val (.int (f1 p4)), .val (.ref b6), .val (.int (1 : Int32)), .val (.int (1 : Int32)), .val (.int (1 : Int32))] [(.int (1 : Int32))])) _
            refine XS.goto X225.here hx rfl (pc0 := 185) (pc' := 189) rfl (hb hby at_185) (by decide) (by decide) ?_
            show Steps p.tables e below (T225.setTop (mkF m 189 #[.val (.int p0), .val (.int p1), .val (.int p2), .val (.int p3), .val (.int p4), .val (.int p5), .val (.int (f1 p0)), .val (.int (f1 p1)), .val (.int (f1 p2)), .val (.int (f1 p3)), .val (.int (f1 p4)), .val (.ref b6), .val (.int (1 : Int32)), .val (.int (1 : Int32)), .val (.int (1 : Int32))] [(.int (1 : Int32))])) _
            exact retN X225 hx (t := .boolean) Bd.returns (by simp) (hb hby at_189) hr
          · show Q0 Z p0 p1 p2 p3 p4 p5 h0 n0 _ T225.heap _
            rw [e225q]
            exact ⟨congrArg (fun q => some (Value.int q)) hv253, N225⟩
        · have pre231 : ∀ t, Steps p.tables e below (T220.setTop (mkF m 143 #[.val (.int p0), .val (.int p1), .val (.int p2), .val (.int p3), .val (.int p4), .val (.int p5), .val (.int (f1 p0)), .val (.int (f1 p1)), .val (.int (f1 p2)), .val (.int (f1 p3)), .val (.int (f1 p4)), .val (.ref b6), .val (.int (1 : Int32)), .unset, .unset] [(.int (0 : Int32)), (.int (nar .boolean ((f6_r1_a (f6_r1_a (own_upd (own_upd (own_upd (own_upd (own_upd (fun _ => 0) 0 (1 : Int32)) ((f1 p0)).toNatClampNeg (1 : Int32)) ((f1 p1)).toNatClampNeg (1 : Int32)) ((f1 p2)).toNatClampNeg (1 : Int32)) (((1 : Int32) + (((p5.toUInt32 >>> ((2 : Int32) &&& 31).toUInt32).toInt32) - (((p5.toUInt32 >>> ((2 : Int32) &&& 31).toUInt32).toInt32) / (19 : Int32)) * (19 : Int32)))).toNatClampNeg (0 : Int32)))) ((f1 p4)).toNatClampNeg)))])) t → Steps p.tables e below (s₁.setTop (entryFrame m #[(.int p0), (.int p1), (.int p2), (.int p3), (.int p4), (.int p5)] maxLocals)) t := fun t kt => pre221 t (by
              show Steps p.tables e below (T220.setTop (mkF m 135 #[.val (.int p0), .val (.int p1), .val (.int p2), .val (.int p3), .val (.int p4), .val (.int p5), .val (.int (f1 p0)), .val (.int (f1 p1)), .val (.int (f1 p2)), .val (.int (f1 p3)), .val (.int (f1 p4)), .val (.ref b6), .val (.int (1 : Int32)), .unset, .unset] [(.int (f1 p4)), (.int (nar .boolean ((f6_r1_a (f6_r1_a (own_upd (own_upd (own_upd (own_upd (own_upd (fun _ => 0) 0 (1 : Int32)) ((f1 p0)).toNatClampNeg (1 : Int32)) ((f1 p1)).toNatClampNeg (1 : Int32)) ((f1 p2)).toNatClampNeg (1 : Int32)) (((1 : Int32) + (((p5.toUInt32 >>> ((2 : Int32) &&& 31).toUInt32).toInt32) - (((p5.toUInt32 >>> ((2 : Int32) &&& 31).toUInt32).toInt32) / (19 : Int32)) * (19 : Int32)))).toNatClampNeg (0 : Int32)))) ((f1 p4)).toNatClampNeg)))])) _
              refine XS.ifYes X220.here hx rfl (pc0 := 135) (pc' := 142) rfl (hb hby at_135) rfl ((if0 _ _).trans (feq hc135_222).2) (by decide) (by decide) ?_
              show Steps p.tables e below (T220.setTop (mkF m 142 #[.val (.int p0), .val (.int p1), .val (.int p2), .val (.int p3), .val (.int p4), .val (.int p5), .val (.int (f1 p0)), .val (.int (f1 p1)), .val (.int (f1 p2)), .val (.int (f1 p3)), .val (.int (f1 p4)), .val (.ref b6), .val (.int (1 : Int32)), .unset, .unset] [(.int (nar .boolean ((f6_r1_a (f6_r1_a (own_upd (own_upd (own_upd (own_upd (own_upd (fun _ => 0) 0 (1 : Int32)) ((f1 p0)).toNatClampNeg (1 : Int32)) ((f1 p1)).toNatClampNeg (1 : Int32)) ((f1 p2)).toNatClampNeg (1 : Int32)) (((1 : Int32) + (((p5.toUInt32 >>> ((2 : Int32) &&& 31).toUInt32).toInt32) - (((p5.toUInt32 >>> ((2 : Int32) &&& 31).toUInt32).toInt32) / (19 : Int32)) * (19 : Int32)))).toNatClampNeg (0 : Int32)))) ((f1 p4)).toNatClampNeg)))])) _
              refine XS.iconst X220.here hx rfl (hb hby at_142) ?_
              exact kt)
          have hd143_232 : (nar .boolean ((f6_r1_a (f6_r1_a (own_upd (own_upd (own_upd (own_upd (own_upd (fun _ => 0) 0 (1 : Int32)) ((f1 p0)).toNatClampNeg (1 : Int32)) ((f1 p1)).toNatClampNeg (1 : Int32)) ((f1 p2)).toNatClampNeg (1 : Int32)) (((1 : Int32) + (((p5.toUInt32 >>> ((2 : Int32) &&& 31).toUInt32).toInt32) - (((p5.toUInt32 >>> ((2 : Int32) &&& 31).toUInt32).toInt32) / (19 : Int32)) * (19 : Int32)))).toNatClampNeg (0 : Int32)))) ((f1 p4)).toNatClampNeg)) = (0 : Int32) := own_is1 _ (own_ch _) hc135_222
          obtain ⟨cq233, kq233, q233a, q233b, q233c⟩ := isOf hZ e220q ((c137.keep K133q).keep K188q)
          obtain ⟨_, _, ⟨T233, L233, k233, n233⟩, -, X233, ⟨Lc233, hQ233, l233, y233, z233⟩, st233⟩ := X220.virtualBack hx (y := (⟨"com/example/cardhost/cardhost/LogicalChannels", "lowestClosed", "()I"⟩ : MethodName)) (z := (⟨"com/example/cardhost/cardhost/LogicalChannels", "lowestClosed", "()I"⟩ : MethodName)) hown (mvT hZ (hw _ (List.mem_of_getElem? (i := 43) rfl))) (mvT hZ (hw _ (List.mem_of_getElem? (i := 44) rfl))) (notFace_of_selects (args := #[]) (mvT hZ (hw _ (List.mem_of_getElem? (i := 46) rfl)))) (mvT hZ (hw _ (List.mem_of_getElem? (i := 46) rfl))) (mvT hZ (hw _ (List.mem_of_getElem? (i := 45) rfl))) (by decide) (backOf (W := 0) (rm8 l Z a0 hw [] b6 r_o0_open_9 (f6_r1_a (f6_r1_a (own_upd (own_upd (own_upd (own_upd (own_upd (fun _ => 0) 0 (1 : Int32)) ((f1 p0)).toNatClampNeg (1 : Int32)) ((f1 p1)).toNatClampNeg (1 : Int32)) ((f1 p2)).toNatClampNeg (1 : Int32)) (((1 : Int32) + (((p5.toUInt32 >>> ((2 : Int32) &&& 31).toUInt32).toInt32) - (((p5.toUInt32 >>> ((2 : Int32) &&& 31).toUInt32).toInt32) / (19 : Int32)) * (19 : Int32)))).toNatClampNeg (0 : Int32)))) T188.heap n0 Z192 c194 G188_0 g_r_o0_open_9) hZ (hw _ (List.mem_of_getElem? (i := 47) rfl)) (hw _ (List.mem_of_getElem? (i := 7) rfl)) (by decide) (by decide)) q233a q233c (g := (mkF m 155 #[.val (.int p0), .val (.int p1), .val (.int p2), .val (.int p3), .val (.int p4), .val (.int p5), .val (.int (f1 p0)), .val (.int (f1 p1)), .val (.int (f1 p2)), .val (.int (f1 p3)), .val (.int (f1 p4)), .val (.ref b6), .val (.int (1 : Int32)), .val (.int (1 : Int32)), .unset] [(.ref b6)])) rfl (by rw [hml]; rfl) (Steps.refl _) (argsL := []) (rest := []) (lenOf pd_0_4 rfl) rfl (by show 2 * 0 + _ ≤ _; exact Nat.le_of_eq rfl) (hb hby at_155) (fun _ _ => ⟨rfl, e220q, (by decide : 4 + 0 ≤ _), (by decide : 63 + 0 ≤ _)⟩)
          dsimp only [Pt.U, Pt.locs, Pt.cells, Pt.slots] at X233 l233 y233 z233 st233 hQ233
          subst l233 y233 z233
          obtain ⟨rfl, N233q, e233q⟩ := hQ233
          have N233 := Fr.app N220 N233q
          have pre234 : ∀ t, Steps p.tables e below (T233.setTop (mkF m 159 #[.val (.int p0), .val (.int p1), .val (.int p2), .val (.int p3), .val (.int p4), .val (.int p5), .val (.int (f1 p0)), .val (.int (f1 p1)), .val (.int (f1 p2)), .val (.int (f1 p3)), .val (.int (f1 p4)), .val (.ref b6), .val (.int (1 : Int32)), .val (.int (1 : Int32)), .unset] [(.int (1 : Int32)), (.int (f8 (f6_r1_a (f6_r1_a (own_upd (own_upd (own_upd (own_upd (own_upd (fun _ => 0) 0 (1 : Int32)) ((f1 p0)).toNatClampNeg (1 : Int32)) ((f1 p1)).toNatClampNeg (1 : Int32)) ((f1 p2)).toNatClampNeg (1 : Int32)) (((1 : Int32) + (((p5.toUInt32 >>> ((2 : Int32) &&& 31).toUInt32).toInt32) - (((p5.toUInt32 >>> ((2 : Int32) &&& 31).toUInt32).toInt32) / (19 : Int32)) * (19 : Int32)))).toNatClampNeg (0 : Int32))))))])) t → Steps p.tables e below (s₁.setTop (entryFrame m #[(.int p0), (.int p1), (.int p2), (.int p3), (.int p4), (.int p5)] maxLocals)) t := fun t kt => pre231 t (by
              show Steps p.tables e below (T220.setTop (mkF m 143 #[.val (.int p0), .val (.int p1), .val (.int p2), .val (.int p3), .val (.int p4), .val (.int p5), .val (.int (f1 p0)), .val (.int (f1 p1)), .val (.int (f1 p2)), .val (.int (f1 p3)), .val (.int (f1 p4)), .val (.ref b6), .val (.int (1 : Int32)), .unset, .unset] [(.int (0 : Int32)), (.int (nar .boolean ((f6_r1_a (f6_r1_a (own_upd (own_upd (own_upd (own_upd (own_upd (fun _ => 0) 0 (1 : Int32)) ((f1 p0)).toNatClampNeg (1 : Int32)) ((f1 p1)).toNatClampNeg (1 : Int32)) ((f1 p2)).toNatClampNeg (1 : Int32)) (((1 : Int32) + (((p5.toUInt32 >>> ((2 : Int32) &&& 31).toUInt32).toInt32) - (((p5.toUInt32 >>> ((2 : Int32) &&& 31).toUInt32).toInt32) / (19 : Int32)) * (19 : Int32)))).toNatClampNeg (0 : Int32)))) ((f1 p4)).toNatClampNeg)))])) _
              refine XS.icmpNo X220.here hx rfl (hb hby at_143) rfl (teq hd143_232).2 ?_
              show Steps p.tables e below (T220.setTop (mkF m 146 #[.val (.int p0), .val (.int p1), .val (.int p2), .val (.int p3), .val (.int p4), .val (.int p5), .val (.int (f1 p0)), .val (.int (f1 p1)), .val (.int (f1 p2)), .val (.int (f1 p3)), .val (.int (f1 p4)), .val (.ref b6), .val (.int (1 : Int32)), .unset, .unset] [])) _
              refine XS.iconst X220.here hx rfl (hb hby at_146) ?_
              show Steps p.tables e below (T220.setTop (mkF m 147 #[.val (.int p0), .val (.int p1), .val (.int p2), .val (.int p3), .val (.int p4), .val (.int p5), .val (.int (f1 p0)), .val (.int (f1 p1)), .val (.int (f1 p2)), .val (.int (f1 p3)), .val (.int (f1 p4)), .val (.ref b6), .val (.int (1 : Int32)), .unset, .unset] [(.int (1 : Int32))])) _
              refine XS.goto X220.here hx rfl (pc0 := 147) (pc' := 151) rfl (hb hby at_147) (by decide) (by decide) ?_
              show Steps p.tables e below (T220.setTop (mkF m 151 #[.val (.int p0), .val (.int p1), .val (.int p2), .val (.int p3), .val (.int p4), .val (.int p5), .val (.int (f1 p0)), .val (.int (f1 p1)), .val (.int (f1 p2)), .val (.int (f1 p3)), .val (.int (f1 p4)), .val (.ref b6), .val (.int (1 : Int32)), .unset, .unset] [(.int (1 : Int32))])) _
              refine XS.istore X220.here hx rfl (hb hby at_151) rfl (l' := #[.val (.int p0), .val (.int p1), .val (.int p2), .val (.int p3), .val (.int p4), .val (.int p5), .val (.int (f1 p0)), .val (.int (f1 p1)), .val (.int (f1 p2)), .val (.int (f1 p3)), .val (.int (f1 p4)), .val (.ref b6), .val (.int (1 : Int32)), .val (.int (1 : Int32)), .unset]) rfl ?_
              show Steps p.tables e below (T220.setTop (mkF m 153 #[.val (.int p0), .val (.int p1), .val (.int p2), .val (.int p3), .val (.int p4), .val (.int p5), .val (.int (f1 p0)), .val (.int (f1 p1)), .val (.int (f1 p2)), .val (.int (f1 p3)), .val (.int (f1 p4)), .val (.ref b6), .val (.int (1 : Int32)), .val (.int (1 : Int32)), .unset] [])) _
              refine XS.aload X220.here hx rfl (hb hby at_153) rfl rfl ?_
              show Steps p.tables e below (T220.setTop (mkF m 155 #[.val (.int p0), .val (.int p1), .val (.int p2), .val (.int p3), .val (.int p4), .val (.int p5), .val (.int (f1 p0)), .val (.int (f1 p1)), .val (.int (f1 p2)), .val (.int (f1 p3)), .val (.int (f1 p4)), .val (.ref b6), .val (.int (1 : Int32)), .val (.int (1 : Int32)), .unset] [(.ref b6)])) _
              refine st233.trans ?_
              show Steps p.tables e below (T233.setTop (mkF m 158 #[.val (.int p0), .val (.int p1), .val (.int p2), .val (.int p3), .val (.int p4), .val (.int p5), .val (.int (f1 p0)), .val (.int (f1 p1)), .val (.int (f1 p2)), .val (.int (f1 p3)), .val (.int (f1 p4)), .val (.ref b6), .val (.int (1 : Int32)), .val (.int (1 : Int32)), .unset] [(.int (f8 (f6_r1_a (f6_r1_a (own_upd (own_upd (own_upd (own_upd (own_upd (fun _ => 0) 0 (1 : Int32)) ((f1 p0)).toNatClampNeg (1 : Int32)) ((f1 p1)).toNatClampNeg (1 : Int32)) ((f1 p2)).toNatClampNeg (1 : Int32)) (((1 : Int32) + (((p5.toUInt32 >>> ((2 : Int32) &&& 31).toUInt32).toInt32) - (((p5.toUInt32 >>> ((2 : Int32) &&& 31).toUInt32).toInt32) / (19 : Int32)) * (19 : Int32)))).toNatClampNeg (0 : Int32))))))])) _
              refine XS.iconst X233.here hx rfl (hb hby at_158) ?_
              exact kt)
          have hd159_235 : (f8 (f6_r1_a (f6_r1_a (own_upd (own_upd (own_upd (own_upd (own_upd (fun _ => 0) 0 (1 : Int32)) ((f1 p0)).toNatClampNeg (1 : Int32)) ((f1 p1)).toNatClampNeg (1 : Int32)) ((f1 p2)).toNatClampNeg (1 : Int32)) (((1 : Int32) + (((p5.toUInt32 >>> ((2 : Int32) &&& 31).toUInt32).toInt32) - (((p5.toUInt32 >>> ((2 : Int32) &&& 31).toUInt32).toInt32) / (19 : Int32)) * (19 : Int32)))).toNatClampNeg (0 : Int32))))) = (1 : Int32) := own_lc _
          have pre236 : ∀ t, Steps p.tables e below (T233.setTop (mkF m 171 #[.val (.int p0), .val (.int p1), .val (.int p2), .val (.int p3), .val (.int p4), .val (.int p5), .val (.int (f1 p0)), .val (.int (f1 p1)), .val (.int (f1 p2)), .val (.int (f1 p3)), .val (.int (f1 p4)), .val (.ref b6), .val (.int (1 : Int32)), .val (.int (1 : Int32)), .val (.int (1 : Int32))] [(.int (1 : Int32))])) t → Steps p.tables e below (s₁.setTop (entryFrame m #[(.int p0), (.int p1), (.int p2), (.int p3), (.int p4), (.int p5)] maxLocals)) t := fun t kt => pre234 t (by
              show Steps p.tables e below (T233.setTop (mkF m 159 #[.val (.int p0), .val (.int p1), .val (.int p2), .val (.int p3), .val (.int p4), .val (.int p5), .val (.int (f1 p0)), .val (.int (f1 p1)), .val (.int (f1 p2)), .val (.int (f1 p3)), .val (.int (f1 p4)), .val (.ref b6), .val (.int (1 : Int32)), .val (.int (1 : Int32)), .unset] [(.int (1 : Int32)), (.int (f8 (f6_r1_a (f6_r1_a (own_upd (own_upd (own_upd (own_upd (own_upd (fun _ => 0) 0 (1 : Int32)) ((f1 p0)).toNatClampNeg (1 : Int32)) ((f1 p1)).toNatClampNeg (1 : Int32)) ((f1 p2)).toNatClampNeg (1 : Int32)) (((1 : Int32) + (((p5.toUInt32 >>> ((2 : Int32) &&& 31).toUInt32).toInt32) - (((p5.toUInt32 >>> ((2 : Int32) &&& 31).toUInt32).toInt32) / (19 : Int32)) * (19 : Int32)))).toNatClampNeg (0 : Int32))))))])) _
              refine XS.icmpNo X233.here hx rfl (hb hby at_159) rfl (teq hd159_235).2 ?_
              show Steps p.tables e below (T233.setTop (mkF m 162 #[.val (.int p0), .val (.int p1), .val (.int p2), .val (.int p3), .val (.int p4), .val (.int p5), .val (.int (f1 p0)), .val (.int (f1 p1)), .val (.int (f1 p2)), .val (.int (f1 p3)), .val (.int (f1 p4)), .val (.ref b6), .val (.int (1 : Int32)), .val (.int (1 : Int32)), .unset] [])) _
              refine XS.iconst X233.here hx rfl (hb hby at_162) ?_
              show Steps p.tables e below (T233.setTop (mkF m 163 #[.val (.int p0), .val (.int p1), .val (.int p2), .val (.int p3), .val (.int p4), .val (.int p5), .val (.int (f1 p0)), .val (.int (f1 p1)), .val (.int (f1 p2)), .val (.int (f1 p3)), .val (.int (f1 p4)), .val (.ref b6), .val (.int (1 : Int32)), .val (.int (1 : Int32)), .unset] [(.int (1 : Int32))])) _
              refine XS.goto X233.here hx rfl (pc0 := 163) (pc' := 167) rfl (hb hby at_163) (by decide) (by decide) ?_
              show Steps p.tables e below (T233.setTop (mkF m 167 #[.val (.int p0), .val (.int p1), .val (.int p2), .val (.int p3), .val (.int p4), .val (.int p5), .val (.int (f1 p0)), .val (.int (f1 p1)), .val (.int (f1 p2)), .val (.int (f1 p3)), .val (.int (f1 p4)), .val (.ref b6), .val (.int (1 : Int32)), .val (.int (1 : Int32)), .unset] [(.int (1 : Int32))])) _
              refine XS.istore X233.here hx rfl (hb hby at_167) rfl (l' := #[.val (.int p0), .val (.int p1), .val (.int p2), .val (.int p3), .val (.int p4), .val (.int p5), .val (.int (f1 p0)), .val (.int (f1 p1)), .val (.int (f1 p2)), .val (.int (f1 p3)), .val (.int (f1 p4)), .val (.ref b6), .val (.int (1 : Int32)), .val (.int (1 : Int32)), .val (.int (1 : Int32))]) rfl ?_
              show Steps p.tables e below (T233.setTop (mkF m 169 #[.val (.int p0), .val (.int p1), .val (.int p2), .val (.int p3), .val (.int p4), .val (.int p5), .val (.int (f1 p0)), .val (.int (f1 p1)), .val (.int (f1 p2)), .val (.int (f1 p3)), .val (.int (f1 p4)), .val (.ref b6), .val (.int (1 : Int32)), .val (.int (1 : Int32)), .val (.int (1 : Int32))] [])) _
              refine XS.iload X233.here hx rfl (hb hby at_169) rfl ?_
              exact kt)
          have pre237 : ∀ t, Steps p.tables e below (T233.setTop (mkF m 176 #[.val (.int p0), .val (.int p1), .val (.int p2), .val (.int p3), .val (.int p4), .val (.int p5), .val (.int (f1 p0)), .val (.int (f1 p1)), .val (.int (f1 p2)), .val (.int (f1 p3)), .val (.int (f1 p4)), .val (.ref b6), .val (.int (1 : Int32)), .val (.int (1 : Int32)), .val (.int (1 : Int32))] [(.int (1 : Int32))])) t → Steps p.tables e below (s₁.setTop (entryFrame m #[(.int p0), (.int p1), (.int p2), (.int p3), (.int p4), (.int p5)] maxLocals)) t := fun t kt => pre236 t (by
              show Steps p.tables e below (T233.setTop (mkF m 171 #[.val (.int p0), .val (.int p1), .val (.int p2), .val (.int p3), .val (.int p4), .val (.int p5), .val (.int (f1 p0)), .val (.int (f1 p1)), .val (.int (f1 p2)), .val (.int (f1 p3)), .val (.int (f1 p4)), .val (.ref b6), .val (.int (1 : Int32)), .val (.int (1 : Int32)), .val (.int (1 : Int32))] [(.int (1 : Int32))])) _
              refine XS.ifNo X233.here hx rfl (hb hby at_171) rfl ((if0 _ _).trans (feq (by decide : ¬ ((1 : Int32) = (0 : Int32)))).1) ?_
              show Steps p.tables e below (T233.setTop (mkF m 174 #[.val (.int p0), .val (.int p1), .val (.int p2), .val (.int p3), .val (.int p4), .val (.int p5), .val (.int (f1 p0)), .val (.int (f1 p1)), .val (.int (f1 p2)), .val (.int (f1 p3)), .val (.int (f1 p4)), .val (.ref b6), .val (.int (1 : Int32)), .val (.int (1 : Int32)), .val (.int (1 : Int32))] [])) _
              refine XS.iload X233.here hx rfl (hb hby at_174) rfl ?_
              exact kt)
          have pre238 : ∀ t, Steps p.tables e below (T233.setTop (mkF m 181 #[.val (.int p0), .val (.int p1), .val (.int p2), .val (.int p3), .val (.int p4), .val (.int p5), .val (.int (f1 p0)), .val (.int (f1 p1)), .val (.int (f1 p2)), .val (.int (f1 p3)), .val (.int (f1 p4)), .val (.ref b6), .val (.int (1 : Int32)), .val (.int (1 : Int32)), .val (.int (1 : Int32))] [(.int (1 : Int32))])) t → Steps p.tables e below (s₁.setTop (entryFrame m #[(.int p0), (.int p1), (.int p2), (.int p3), (.int p4), (.int p5)] maxLocals)) t := fun t kt => pre237 t (by
              show Steps p.tables e below (T233.setTop (mkF m 176 #[.val (.int p0), .val (.int p1), .val (.int p2), .val (.int p3), .val (.int p4), .val (.int p5), .val (.int (f1 p0)), .val (.int (f1 p1)), .val (.int (f1 p2)), .val (.int (f1 p3)), .val (.int (f1 p4)), .val (.ref b6), .val (.int (1 : Int32)), .val (.int (1 : Int32)), .val (.int (1 : Int32))] [(.int (1 : Int32))])) _
              refine XS.ifNo X233.here hx rfl (hb hby at_176) rfl ((if0 _ _).trans (feq (by decide : ¬ ((1 : Int32) = (0 : Int32)))).1) ?_
              show Steps p.tables e below (T233.setTop (mkF m 179 #[.val (.int p0), .val (.int p1), .val (.int p2), .val (.int p3), .val (.int p4), .val (.int p5), .val (.int (f1 p0)), .val (.int (f1 p1)), .val (.int (f1 p2)), .val (.int (f1 p3)), .val (.int (f1 p4)), .val (.ref b6), .val (.int (1 : Int32)), .val (.int (1 : Int32)), .val (.int (1 : Int32))] [])) _
              refine XS.iload X233.here hx rfl (hb hby at_179) rfl ?_
              exact kt)
          obtain ⟨fs, hr, hrun, hended, hW, hsame⟩ := X233.leave (v := some (.int (1 : Int32))) (fun h => by rw [Bd.returns] at h; cases h)
          have hv254 : (1 : Int32) = (1 : Int32) := rfl
          refine ⟨_, _, pre238 _ ?_, hrun, hended, _, _, rfl, ?_, ⟨_, rfl⟩, hW, hsame.mono (by decide) (by decide)⟩
          · show Steps p.tables e below (T233.setTop (mkF m 181 #[.val (.int p0), .val (.int p1), .val (.int p2), .val (.int p3), .val (.int p4), .val (.int p5), .val (.int (f1 p0)), .val (.int (f1 p1)), .val (.int (f1 p2)), .val (.int (f1 p3)), .val (.int (f1 p4)), .val (.ref b6), .val (.int (1 : Int32)), .val (.int (1 : Int32)), .val (.int (1 : Int32))] [(.int (1 : Int32))])) _
            refine XS.ifNo X233.here hx rfl (hb hby at_181) rfl ((if0 _ _).trans (feq (by decide : ¬ ((1 : Int32) = (0 : Int32)))).1) ?_
            show Steps p.tables e below (T233.setTop (mkF m 184 #[.val (.int p0), .val (.int p1), .val (.int p2), .val (.int p3), .val (.int p4), .val (.int p5), .val (.int (f1 p0)), .val (.int (f1 p1)), .val (.int (f1 p2)), .val (.int (f1 p3)), .val (.int (f1 p4)), .val (.ref b6), .val (.int (1 : Int32)), .val (.int (1 : Int32)), .val (.int (1 : Int32))] [])) _
            refine XS.iconst X233.here hx rfl (hb hby at_184) ?_
            show Steps p.tables e below (T233.setTop (mkF m 185 #[.val (.int p0), .val (.int p1), .val (.int p2), .val (.int p3), .val (.int p4), .val (.int p5), .val (.int (f1 p0)), .val (.int (f1 p1)), .val (.int (f1 p2)), .val (.int (f1 p3)), .val (.int (f1 p4)), .val (.ref b6), .val (.int (1 : Int32)), .val (.int (1 : Int32)), .val (.int (1 : Int32))] [(.int (1 : Int32))])) _
            refine XS.goto X233.here hx rfl (pc0 := 185) (pc' := 189) rfl (hb hby at_185) (by decide) (by decide) ?_
            show Steps p.tables e below (T233.setTop (mkF m 189 #[.val (.int p0), .val (.int p1), .val (.int p2), .val (.int p3), .val (.int p4), .val (.int p5), .val (.int (f1 p0)), .val (.int (f1 p1)), .val (.int (f1 p2)), .val (.int (f1 p3)), .val (.int (f1 p4)), .val (.ref b6), .val (.int (1 : Int32)), .val (.int (1 : Int32)), .val (.int (1 : Int32))] [(.int (1 : Int32))])) _
            exact retN X233 hx (t := .boolean) Bd.returns (by simp) (hb hby at_189) hr
          · show Q0 Z p0 p1 p2 p3 p4 p5 h0 n0 _ T233.heap _
            rw [e233q]
            exact ⟨congrArg (fun q => some (Value.int q)) hv254, N233⟩
set_option maxRecDepth 65536 in
set_option maxHeartbeats 40000000 in
theorem comes_1 {Post : Tables → Env → Array Value → State → Outcome → State → Prop} (hpost : ∀ tb e args s v u, (limb_1_1.after args s (.returned v) u = true ∧ limb_1_2.after args s (.returned v) u = true ∧ True) → FrameEnd s (.returned v) u (Jvm.fieldLocs frame_1_writes args s ++ Jvm.arrayLocs frame_1_arrays args s ++ Jvm.staticLocs frame_1_statics s) 16 192 → Post tb e args s (.returned v) u) :
    ArmFor flags0 classFile x code maxLocals ret World_1 tables_1 room_1 Calls_1 rest_1 Pre_1 Post := by
  intro l hfl _ _ p e ha hc hk s m args below hf hA hF happ hP
  obtain ⟨hcalls, hrest, hpre⟩ := hP
  obtain ⟨-, -, -, hnamed, -, -, -, hat⟩ := (Spec.applies_iff hf).mp happ
  obtain ⟨hg, hn⟩ := and_e (Cond.before_iff.mp (show (Jvm.Cond.and given_1 narrow_1).before args s = true from hpre))
  obtain ⟨g1, g2⟩ := and_e hg
  obtain ⟨g3, g4⟩ := and_e g2
  obtain ⟨g5, g6⟩ := and_e g4
  obtain ⟨g7, g8⟩ := and_e g6
  obtain ⟨g9, g10⟩ := and_e g8
  obtain ⟨g11, g12⟩ := and_e g10
  obtain ⟨w0, w1, w2, w3, w4, w5, rfl⟩ : ∃ w0 w1 w2 w3 w4 w5 : Value, args = #[w0, w1, w2, w3, w4, w5] := by
    have hs : args.size = 6 := by simpa [Cond.value, given_1] using g1
    obtain ⟨L⟩ := args
    match L, hs with
    | [w0, w1, w2, w3, w4, w5], _ => exact ⟨w0, w1, w2, w3, w4, w5, rfl⟩
  have hw := fun d (hd : d ∈ tables_1) => atoms_spec (ws := Jvm.Cond.code x code maxLocals ret :: tables_1) hat d (List.mem_cons_of_mem _ hd)
  have hfit : Fit s := fun {y c} hc i hi => by
    obtain ⟨ha, rfl⟩ := Array.getElem?_eq_some_iff.mp hc
    have q := List.all_eq_true.mp ((Array.all_eq_true_iff_forall_mem.mp hF) _ (Array.getElem_mem ha)) i (List.mem_range.mpr hi)
    simpa [Array.getElem?_eq_getElem hi] using q
  obtain ⟨i0, ei0⟩ := is_v g3
  obtain rfl : w0 = (.int i0) := Option.some.inj ei0
  obtain ⟨i1, ei1⟩ := is_v g5
  obtain rfl : w1 = (.int i1) := Option.some.inj ei1
  obtain ⟨i2, ei2⟩ := is_v g7
  obtain rfl : w2 = (.int i2) := Option.some.inj ei2
  obtain ⟨i3, ei3⟩ := is_v g9
  obtain rfl : w3 = (.int i3) := Option.some.inj ei3
  obtain ⟨i4, ei4⟩ := is_v g11
  obtain rfl : w4 = (.int i4) := Option.some.inj ei4
  obtain ⟨i5, ei5⟩ := is_v g12
  obtain rfl : w5 = (.int i5) := Option.some.inj ei5
  obtain ⟨n, o, h1, h2, h3, _, L, rfl, ⟨hv0, N⟩, hq⟩ := rm0 l s _ hw tables_1 i0 i1 i2 i3 i4 i5 s.heap s.heap.size (Nat.le_refl _) p e ha hc hk s m _ below hf ((Spec.applies_iff_loose hf).mp happ).1 ⟨rfl, State.Warmed39.refl s, rfl⟩ trivial
  subst hv0
  refine ⟨n, _, h1, h2, h3, hpost _ _ _ _ _ _ ⟨Cond.after_iff.mpr rfl, Cond.after_iff.mpr (eq_i res_at (Term.int_eval (1)) rfl), trivial⟩ ⟨hq.1, hq.2.1, (hq.2.2.sift fun y hy => Or.inr (N y hy)).mono (by decide) (by decide)⟩⟩
theorem main_1_1 : Claimed_1_1 := comes_1 fun _ _ _ _ _ _ h hF => ⟨h.1, hF⟩
theorem main_1_2 : Claimed_1_2 := comes_1 fun _ _ _ _ _ _ h hF => ⟨h.2.1, hF⟩
end Jvm.Pilot.@@N@@
namespace Jvm.Pilot.@@N@@
open Jvm Jvm.ClassFile Sem Op Lib Jvm.Free Jvm.Stand Jvm.Pilot.@@N@@.Jvm.D
/-! MADE BY PROGRAM (witnessworld.py) out of the Statement's table words and the real class files: 13 classes; the members and pool entries that the words name. The judged class is class 1, her method 2. -/
namespace start1
open Jvm.ClassFile
def u (s : String) : CpInfo := .utf8 (stringToUtf16 s)
/-- a pool by its gaps: so many unusable entries, then the entry; so many at the end -/
def gap : Nat → List CpInfo → List CpInfo
  | 0, r => r
  | n + 1, r => .unusable :: gap n r
def poolList (es : List (Nat × CpInfo)) (last : Nat) : List CpInfo := es.foldr (fun e r => gap e.1 (e.2 :: r)) (gap last [])
def pool (es : List (Nat × CpInfo)) (last : Nat) : Array CpInfo := ⟨poolList es last⟩
def fileOf (pool : Array CpInfo) (this : Nat) (attrs : Array Attribute := #[]) (ms : Array MethodInfo := #[]) (fl : Nat := 33) (sup : Nat := 0) (ifs : Array Nat := #[]) (fds : Array FieldInfo := #[]) : ClassFile where
  minorVersion := 0
  majorVersion := 65
  constantPool := pool
  accessFlags := fl
  thisClass := this
  superClass := sup
  interfaces := ifs
  fields := fds
  methods := ms
  attributes := attrs
def plain (name : String) (sup : Option ClassId) : Class where
  name := name
  kind := .ordinary
  loader := none
  accessFlags := 33
  super := sup
  interfaces := #[]
  cf := none
  fields := #[]
  methods := #[]
  instanceTypes := #[]
  staticTypes := #[]
  resolved := #[]
  callSites := []
  init := .initialized
  statics := none
  mirror := none

def pool0 : Array CpInfo := pool [(5, u "<init>"), (0, u "()V"), (1, .class_ 10), (1, u "java/lang/Object")] 113

def k0c0 : Code := { maxStack := 0, maxLocals := 1, code := object_method_1_code, exceptionTable := #[], attributes := #[] }
def k0m0 : Method := { name := "<init>", desc := "()V", sig := { parameters := [], returnType := none }, accessFlags := 1, code := some k0c0 }
/-- java/lang/Object -/
def k0 : Class := { plain "java/lang/Object" none with
  accessFlags := 33
  interfaces := #[]
  cf := some (fileOf pool0 8 #[] #[{ accessFlags := 1, nameIndex := 5, descriptorIndex := 6, attributes := #[] }] 33 0 #[] #[])
  fields := #[]
  methods := #[k0m0]
  instanceTypes := #[]
  staticTypes := #[]
  resolved := Array.replicate 124 none
  statics := none }

def pool1 : Array CpInfo := pool [(2, .class_ 4), (0, .nameAndType 5 6), (0, u "java/lang/Object"), (0, u "<init>"), (0, u "()V"), (0, .integer 2147483647), (0, .methodref 9 10), (0, .class_ 11), (0, .nameAndType 12 13), (0, u "com/example/cardhost/cardhost/LogicalChannelsResetPinLaw"), (0, u "channelOf"), (0, u "(I)I"), (0, .class_ 15), (0, u "com/example/cardhost/cardhost/LogicalChannels"), (0, .methodref 14 3), (0, .methodref 14 18), (0, .nameAndType 19 20), (0, u "open"), (0, u "(I)V"), (0, .methodref 14 22), (0, .nameAndType 23 20), (0, u "close"), (0, .methodref 14 25), (0, .nameAndType 26 6), (0, u "reset"), (0, .methodref 14 28), (0, .nameAndType 29 30), (0, u "isOpen"), (0, u "(I)Z"), (0, .methodref 14 32), (0, .nameAndType 33 34), (0, u "lowestClosed"), (0, u "()I"), (2, u "law"), (0, u "(IIIIII)Z")] 3

def k1m0 : Method := { name := "<init>", desc := "()V", sig := { parameters := [], returnType := none }, accessFlags := 1, code := none }
def k1c1 : Code := { maxStack := 2, maxLocals := 1, code := method_2_code, exceptionTable := #[], attributes := #[] }
def k1m1 : Method := { name := "channelOf", desc := "(I)I", sig := { parameters := [.int], returnType := some .int }, accessFlags := 10, code := some k1c1 }
def k1c2 : Code := { maxStack := 4, maxLocals := 15, code := code, exceptionTable := #[], attributes := #[] }
def k1m2 : Method := { name := "law", desc := "(IIIIII)Z", sig := { parameters := [.int, .int, .int, .int, .int, .int], returnType := some .boolean }, accessFlags := 9, code := some k1c2 }
/-- com/example/cardhost/cardhost/LogicalChannelsResetPinLaw -/
def k1 : Class := { plain "com/example/cardhost/cardhost/LogicalChannelsResetPinLaw" (some 0) with
  accessFlags := 49
  interfaces := #[]
  cf := some (fileOf pool1 9 #[] #[{ accessFlags := 1, nameIndex := 5, descriptorIndex := 6, attributes := #[] }, { accessFlags := 10, nameIndex := 12, descriptorIndex := 13, attributes := #[] }, { accessFlags := 9, nameIndex := 37, descriptorIndex := 38, attributes := #[] }] 49 2 #[] #[])
  fields := #[]
  methods := #[k1m0, k1m1, k1m2]
  instanceTypes := #[]
  staticTypes := #[]
  resolved := Array.replicate 42 none
  statics := none }

def pool2 : Array CpInfo := pool [(1, .methodref 2 3), (0, .class_ 4), (0, .nameAndType 5 6), (0, u "java/lang/Object"), (0, u "<init>"), (0, u "()V"), (0, .class_ 8), (0, u "com/example/cardhost/cardhost/LogicalChannels"), (0, .fieldref 7 10), (0, .nameAndType 11 12), (0, u "open"), (0, u "[Z"), (0, .class_ 14), (0, u "com/example/cardhost/cardhost/InstalledApplet"), (0, .fieldref 7 16), (0, .nameAndType 17 18), (0, u "active"), (0, u "[Lcom/example/cardhost/cardhost/InstalledApplet;"), (0, .fieldref 7 20), (0, .nameAndType 21 18), (0, u "defaults"), (20, u "COUNT"), (0, u "I"), (2, u "NONE"), (3, u "isOpen"), (0, u "(I)Z"), (0, u "lowestClosed"), (0, u "()I"), (1, u "(I)V"), (0, u "close"), (12, u "reset")] 29

def k2c0 : Code := { maxStack := 3, maxLocals := 1, code := prog_4_method_1_code, exceptionTable := #[], attributes := #[] }
def k2m0 : Method := { name := "<init>", desc := "()V", sig := { parameters := [], returnType := none }, accessFlags := 0, code := some k2c0 }
def k2c1 : Code := { maxStack := 2, maxLocals := 2, code := prog_4_method_2_code, exceptionTable := #[], attributes := #[] }
def k2m1 : Method := { name := "isOpen", desc := "(I)Z", sig := { parameters := [.int], returnType := some .boolean }, accessFlags := 0, code := some k2c1 }
def k2c2 : Code := { maxStack := 2, maxLocals := 2, code := prog_4_method_3_code, exceptionTable := #[], attributes := #[] }
def k2m2 : Method := { name := "lowestClosed", desc := "()I", sig := { parameters := [], returnType := some .int }, accessFlags := 0, code := some k2c2 }
def k2c3 : Code := { maxStack := 3, maxLocals := 2, code := prog_4_method_4_code, exceptionTable := #[], attributes := #[] }
def k2m3 : Method := { name := "open", desc := "(I)V", sig := { parameters := [.int], returnType := none }, accessFlags := 0, code := some k2c3 }
def k2c4 : Code := { maxStack := 3, maxLocals := 2, code := prog_4_method_5_code, exceptionTable := #[], attributes := #[] }
def k2m4 : Method := { name := "close", desc := "(I)V", sig := { parameters := [.int], returnType := none }, accessFlags := 0, code := some k2c4 }
def k2c5 : Code := { maxStack := 3, maxLocals := 2, code := prog_4_method_13_code, exceptionTable := #[], attributes := #[] }
def k2m5 : Method := { name := "reset", desc := "()V", sig := { parameters := [], returnType := none }, accessFlags := 0, code := some k2c5 }
/-- com/example/cardhost/cardhost/LogicalChannels -/
def k2 : Class := { plain "com/example/cardhost/cardhost/LogicalChannels" (some 0) with
  accessFlags := 48
  interfaces := #[]
  cf := some (fileOf pool2 7 #[] #[{ accessFlags := 0, nameIndex := 5, descriptorIndex := 6, attributes := #[] }, { accessFlags := 0, nameIndex := 50, descriptorIndex := 51, attributes := #[] }, { accessFlags := 0, nameIndex := 52, descriptorIndex := 53, attributes := #[] }, { accessFlags := 0, nameIndex := 11, descriptorIndex := 55, attributes := #[] }, { accessFlags := 0, nameIndex := 56, descriptorIndex := 55, attributes := #[] }, { accessFlags := 0, nameIndex := 69, descriptorIndex := 6, attributes := #[] }] 48 2 #[] #[{ accessFlags := 24, nameIndex := 42, descriptorIndex := 43, attributes := #[] }, { accessFlags := 24, nameIndex := 46, descriptorIndex := 43, attributes := #[] }, { accessFlags := 18, nameIndex := 11, descriptorIndex := 12, attributes := #[] }, { accessFlags := 18, nameIndex := 17, descriptorIndex := 18, attributes := #[] }, { accessFlags := 18, nameIndex := 21, descriptorIndex := 18, attributes := #[] }])
  fields := #[{ name := "COUNT", type := .int, accessFlags := 24, slot := 0, constantValue := 0 }, { name := "NONE", type := .int, accessFlags := 24, slot := 1, constantValue := 0 }, { name := "open", type := (.array .boolean), accessFlags := 18, slot := 0, constantValue := 0 }, { name := "active", type := (.array (.object "com/example/cardhost/cardhost/InstalledApplet")), accessFlags := 18, slot := 1, constantValue := 0 }, { name := "defaults", type := (.array (.object "com/example/cardhost/cardhost/InstalledApplet")), accessFlags := 18, slot := 2, constantValue := 0 }]
  methods := #[k2m0, k2m1, k2m2, k2m3, k2m4, k2m5]
  instanceTypes := #[(.array .boolean), (.array (.object "com/example/cardhost/cardhost/InstalledApplet")), (.array (.object "com/example/cardhost/cardhost/InstalledApplet"))]
  staticTypes := #[.int, .int]
  resolved := Array.replicate 99 none
  statics := none }

def pool3 : Array CpInfo := pool [(2, .class_ 4), (1, u "java/lang/Object"), (3, .class_ 10), (1, u "com/example/cardhost/cardhost/InstalledApplet"), (0, u "aid"), (0, u "Lcom/example/cardhost/cardhost/Aid;"), (2, u "applet"), (0, u "Ljavacard/framework/Applet;"), (12, u "context"), (0, u "Ljava/lang/Package;")] 30

/-- com/example/cardhost/cardhost/InstalledApplet -/
def k3 : Class := { plain "com/example/cardhost/cardhost/InstalledApplet" (some 0) with
  accessFlags := 48
  interfaces := #[]
  cf := some (fileOf pool3 8 #[] #[] 48 2 #[] #[{ accessFlags := 18, nameIndex := 11, descriptorIndex := 12, attributes := #[] }, { accessFlags := 18, nameIndex := 15, descriptorIndex := 16, attributes := #[] }, { accessFlags := 18, nameIndex := 29, descriptorIndex := 30, attributes := #[] }])
  fields := #[{ name := "aid", type := (.object "com/example/cardhost/cardhost/Aid"), accessFlags := 18, slot := 0, constantValue := 0 }, { name := "applet", type := (.object "javacard/framework/Applet"), accessFlags := 18, slot := 1, constantValue := 0 }, { name := "context", type := (.object "java/lang/Package"), accessFlags := 18, slot := 2, constantValue := 0 }]
  methods := #[]
  instanceTypes := #[(.object "com/example/cardhost/cardhost/Aid"), (.object "javacard/framework/Applet"), (.object "java/lang/Package")]
  staticTypes := #[]
  resolved := Array.replicate 61 none
  statics := none }

def pool4 : Array CpInfo := pool [(1, u "java/lang/Cloneable"), (0, .class_ 1), (0, u "java/lang/Object"), (0, .class_ 3)] 3

/-- java/lang/Cloneable -/
def k4 : Class := { plain "java/lang/Cloneable" (some 0) with
  accessFlags := 1537
  interfaces := #[]
  cf := some (fileOf pool4 2 #[] #[] 1537 4 #[] #[])
  fields := #[]
  methods := #[]
  instanceTypes := #[]
  staticTypes := #[]
  resolved := Array.replicate 8 none
  statics := none }

def pool5 : Array CpInfo := pool [(1, u "java/io/Serializable"), (0, .class_ 1), (0, u "java/lang/Object"), (0, .class_ 3)] 3

/-- java/io/Serializable -/
def k5 : Class := { plain "java/io/Serializable" (some 0) with
  accessFlags := 1537
  interfaces := #[]
  cf := some (fileOf pool5 2 #[] #[] 1537 4 #[] #[])
  fields := #[]
  methods := #[]
  instanceTypes := #[]
  staticTypes := #[]
  resolved := Array.replicate 8 none
  statics := none }

/-- the primitive boolean -/
def k6 : Class := { plain "boolean" none with kind := .primitive 'Z', accessFlags := 0x411 }
/-- [Z -/
def k7 : Class := { plain "[Z" (some 0) with kind := .array 6 .boolean, interfaces := #[4, 5], accessFlags := 1041 }

/-- the primitive byte -/
def k8 : Class := { plain "byte" none with kind := .primitive 'B', accessFlags := 0x411 }
/-- [B -/
def k9 : Class := { plain "[B" (some 0) with kind := .array 8 .byte, interfaces := #[4, 5], accessFlags := 1041 }

/-- the primitive int -/
def k10 : Class := { plain "int" none with kind := .primitive 'I', accessFlags := 0x411 }
/-- [I -/
def k11 : Class := { plain "[I" (some 0) with kind := .array 10 .int, interfaces := #[4, 5], accessFlags := 1041 }

/-- [Lcom/example/cardhost/cardhost/InstalledApplet; -/
def k12 : Class := { plain "[Lcom/example/cardhost/cardhost/InstalledApplet;" (some 0) with kind := .array 3 (.object "com/example/cardhost/cardhost/InstalledApplet"), interfaces := #[4, 5], accessFlags := 1041 }

def heap : Heap := #[]
def classes : Array Class := #[k0, k1, k2, k3, k4, k5, k6, k7, k8, k9, k10, k11, k12]
def interned : List (Array UInt16 × Addr) := []
def slotsUsed : Nat := 0
def theMethod : MethodId := ⟨1, 2⟩
def args0 : Array Value := #[.int 5, .int 9, .int 3, .int 5, .int 7, .int 2]
def aboutOver (below : List Frame) : State where
  vm := { classes := classes, interned := interned.toArray }
  heap := heap
  slotsUsed := slotsUsed
  threads := #[{ frames := .invoking theMethod args0 :: below }]
def below0 : List Frame := [.native { method := ⟨0, 0⟩, args := #[] }]
def about1 : State := aboutOver below0
def p0 : Program := .bare "" "" ""
def e0 : Env := launch0.env 0 0 0
theorem w_frames : about1.frames = Frame.invoking theMethod args0 :: below0 := rfl
set_option maxRecDepth 65536 in
theorem w_args : argsFit about1.vm theMethod args0 = true := by decide +kernel
set_option maxRecDepth 65536 in
theorem w_heap : heapFits about1 = true := by decide +kernel
set_option maxRecDepth 65536 in
theorem w_runnable : about1.curStatus? = some .runnable := by decide +kernel
set_option maxRecDepth 65536 in
theorem w_alone : about1.alone = true := by decide +kernel
set_option maxRecDepth 65536 in
theorem w_named : about1.methodNamed? x = some theMethod := by decide +kernel
set_option maxRecDepth 65536 in
theorem w_hears : about1.hears theMethod below0 = true := by decide +kernel
set_option maxRecDepth 65536 in
theorem w_ripe : about1.ripe theMethod args0 below0 = true := by decide +kernel
theorem w_running : about1.status = .running := rfl
set_option maxRecDepth 65536 in
theorem w_room : about1.hasRoom e0.platform room_1 = true :=
  launch0.hasRoom_least _ room_1 (by decide +kernel) (by decide +kernel) (by decide +kernel) (by decide +kernel) (by decide +kernel) (by decide +kernel)
theorem allAtoms_all (ts : List Jvm.Cond) (a : Array Jvm.Value) (st : Jvm.State) : (allAtoms ts).before a st = ts.all (fun c => c.before a st) := by
  induction ts with
  | nil => rfl
  | cons c t ih =>
    show (Jvm.Cond.and c (allAtoms t)).before a st = _
    rw [Jvm.Cond.before_and, ih, List.all_cons]
def words1 : List Jvm.Cond := Jvm.Cond.code x code maxLocals ret :: tables_1
/-- a 'code' word, met by the world's own term for the bytes: nothing is compared byte by byte -/
theorem code_word {y : MethodName} {bytes : ByteArray} {mx : Nat} {rt : Option FieldType} {a : Array Value} {s : State} {m : MethodId} {meth : Method} {c : Code} (h1 : s.methodNamed? y = some m) (h2 : s.vm.method? m = some meth) (h3 : meth.code = some c) (h4 : c.code = bytes)
    (h5 : (c.maxLocals == mx && c.exceptionTable.isEmpty && decide (c.maxStack ≤ mostOperands) && decide (meth.sig.returnType = rt) && !meth.locks && decide (parseMethodDescriptor y.desc = some meth.sig)) = true) : (Jvm.Cond.code y bytes mx rt).before a s = true := by
  simp only [Bool.and_eq_true, beq_iff_eq, Bool.not_eq_true', decide_eq_true_eq] at h5
  obtain ⟨⟨⟨⟨⟨g1, g2⟩, g3⟩, g4⟩, g5⟩, g6⟩ := h5
  simp [Cond.before, Cond.holds, Cond.value, h1, h2, h3, h4, g1, g2, g3, g4, g5, g6]
def isCode : Jvm.Cond → Bool
  | .code _ _ _ _ => true
  | _ => false
theorem all_split {L : List Jvm.Cond} {P : Jvm.Cond → Bool} (h1 : L.all (fun c => isCode c || P c) = true) (h2 : ∀ c ∈ L.filter isCode, P c = true) : L.all P = true := by
  refine List.all_eq_true.mpr fun c hc => ?_
  have h := List.all_eq_true.mp h1 c hc
  rcases Bool.eq_false_or_eq_true (isCode c) with hi | hi
  · exact h2 c (List.mem_filter.mpr ⟨hc, hi⟩)
  · simpa [hi] using h
set_option maxRecDepth 65536 in
theorem w_c0 : (Jvm.Cond.code x code maxLocals ret).before args0 about1 = true := code_word (m := ⟨1, 2⟩) (meth := k1m2) (c := k1c2) (by decide +kernel) rfl rfl rfl (by decide +kernel)
set_option maxRecDepth 65536 in
theorem w_c1 : (Jvm.Cond.code ({ cls := "com/example/cardhost/cardhost/LogicalChannelsResetPinLaw", name := "channelOf", desc := "(I)I" } : Jvm.MethodName) method_2_code (1 : Nat) (Option.some Jvm.ClassFile.FieldType.int)).before args0 about1 = true := code_word (m := ⟨1, 1⟩) (meth := k1m1) (c := k1c1) (by decide +kernel) rfl rfl rfl (by decide +kernel)
set_option maxRecDepth 65536 in
theorem w_c2 : (Jvm.Cond.code ({ cls := "com/example/cardhost/cardhost/LogicalChannels", name := "<init>", desc := "()V" } : Jvm.MethodName) prog_4_method_1_code (1 : Nat) (Option.none : Option Jvm.ClassFile.FieldType)).before args0 about1 = true := code_word (m := ⟨2, 0⟩) (meth := k2m0) (c := k2c0) (by decide +kernel) rfl rfl rfl (by decide +kernel)
set_option maxRecDepth 65536 in
theorem w_c3 : (Jvm.Cond.code ({ cls := "java/lang/Object", name := "<init>", desc := "()V" } : Jvm.MethodName) object_method_1_code (1 : Nat) (Option.none : Option Jvm.ClassFile.FieldType)).before args0 about1 = true := code_word (m := ⟨0, 0⟩) (meth := k0m0) (c := k0c0) (by decide +kernel) rfl rfl rfl (by decide +kernel)
set_option maxRecDepth 65536 in
theorem w_c4 : (Jvm.Cond.code ({ cls := "com/example/cardhost/cardhost/LogicalChannels", name := "open", desc := "(I)V" } : Jvm.MethodName) prog_4_method_4_code (2 : Nat) (Option.none : Option Jvm.ClassFile.FieldType)).before args0 about1 = true := code_word (m := ⟨2, 3⟩) (meth := k2m3) (c := k2c3) (by decide +kernel) rfl rfl rfl (by decide +kernel)
set_option maxRecDepth 65536 in
theorem w_c5 : (Jvm.Cond.code ({ cls := "com/example/cardhost/cardhost/LogicalChannels", name := "close", desc := "(I)V" } : Jvm.MethodName) prog_4_method_5_code (2 : Nat) (Option.none : Option Jvm.ClassFile.FieldType)).before args0 about1 = true := code_word (m := ⟨2, 4⟩) (meth := k2m4) (c := k2c4) (by decide +kernel) rfl rfl rfl (by decide +kernel)
set_option maxRecDepth 65536 in
theorem w_c6 : (Jvm.Cond.code ({ cls := "com/example/cardhost/cardhost/LogicalChannels", name := "reset", desc := "()V" } : Jvm.MethodName) prog_4_method_13_code (2 : Nat) (Option.none : Option Jvm.ClassFile.FieldType)).before args0 about1 = true := code_word (m := ⟨2, 5⟩) (meth := k2m5) (c := k2c5) (by decide +kernel) rfl rfl rfl (by decide +kernel)
set_option maxRecDepth 65536 in
theorem w_c7 : (Jvm.Cond.code ({ cls := "com/example/cardhost/cardhost/LogicalChannels", name := "isOpen", desc := "(I)Z" } : Jvm.MethodName) prog_4_method_2_code (2 : Nat) (Option.some Jvm.ClassFile.FieldType.boolean)).before args0 about1 = true := code_word (m := ⟨2, 1⟩) (meth := k2m1) (c := k2c1) (by decide +kernel) rfl rfl rfl (by decide +kernel)
set_option maxRecDepth 65536 in
theorem w_c8 : (Jvm.Cond.code ({ cls := "com/example/cardhost/cardhost/LogicalChannels", name := "lowestClosed", desc := "()I" } : Jvm.MethodName) prog_4_method_3_code (2 : Nat) (Option.some Jvm.ClassFile.FieldType.int)).before args0 about1 = true := code_word (m := ⟨2, 2⟩) (meth := k2m2) (c := k2c2) (by decide +kernel) rfl rfl rfl (by decide +kernel)
def codes1 : List Jvm.Cond := [Jvm.Cond.code x code maxLocals ret, Jvm.Cond.code ({ cls := "com/example/cardhost/cardhost/LogicalChannelsResetPinLaw", name := "channelOf", desc := "(I)I" } : Jvm.MethodName) method_2_code (1 : Nat) (Option.some Jvm.ClassFile.FieldType.int), Jvm.Cond.code ({ cls := "com/example/cardhost/cardhost/LogicalChannels", name := "<init>", desc := "()V" } : Jvm.MethodName) prog_4_method_1_code (1 : Nat) (Option.none : Option Jvm.ClassFile.FieldType), Jvm.Cond.code ({ cls := "java/lang/Object", name := "<init>", desc := "()V" } : Jvm.MethodName) object_method_1_code (1 : Nat) (Option.none : Option Jvm.ClassFile.FieldType), Jvm.Cond.code ({ cls := "com/example/cardhost/cardhost/LogicalChannels", name := "open", desc := "(I)V" } : Jvm.MethodName) prog_4_method_4_code (2 : Nat) (Option.none : Option Jvm.ClassFile.FieldType), Jvm.Cond.code ({ cls := "com/example/cardhost/cardhost/LogicalChannels", name := "close", desc := "(I)V" } : Jvm.MethodName) prog_4_method_5_code (2 : Nat) (Option.none : Option Jvm.ClassFile.FieldType), Jvm.Cond.code ({ cls := "com/example/cardhost/cardhost/LogicalChannels", name := "reset", desc := "()V" } : Jvm.MethodName) prog_4_method_13_code (2 : Nat) (Option.none : Option Jvm.ClassFile.FieldType), Jvm.Cond.code ({ cls := "com/example/cardhost/cardhost/LogicalChannels", name := "isOpen", desc := "(I)Z" } : Jvm.MethodName) prog_4_method_2_code (2 : Nat) (Option.some Jvm.ClassFile.FieldType.boolean), Jvm.Cond.code ({ cls := "com/example/cardhost/cardhost/LogicalChannels", name := "lowestClosed", desc := "()I" } : Jvm.MethodName) prog_4_method_3_code (2 : Nat) (Option.some Jvm.ClassFile.FieldType.int)]
set_option maxRecDepth 65536 in
theorem codes_eq : words1.filter isCode = codes1 := rfl
theorem w_codes : ∀ c ∈ words1.filter isCode, c.before args0 about1 = true := by
  rw [codes_eq]
  intro c hc
  simp only [codes1, List.mem_cons, List.not_mem_nil, or_false] at hc
  rcases hc with rfl | rfl | rfl | rfl | rfl | rfl | rfl | rfl | rfl
  · exact w_c0
  · exact w_c1
  · exact w_c2
  · exact w_c3
  · exact w_c4
  · exact w_c5
  · exact w_c6
  · exact w_c7
  · exact w_c8
set_option maxRecDepth 65536 in
theorem w_t1 : (words1.take 24).all (fun c => isCode c || c.before args0 about1) = true := by decide +kernel
set_option maxRecDepth 65536 in
theorem w_t2 : ((words1.drop 24).take 24).all (fun c => isCode c || c.before args0 about1) = true := by decide +kernel
set_option maxRecDepth 65536 in
theorem w_t3 : ((words1.drop 24).drop 24).all (fun c => isCode c || c.before args0 about1) = true := by decide +kernel
theorem w_tables : (allAtoms (Jvm.Cond.code x code maxLocals ret :: tables_1)).before args0 about1 = true := by
  rw [allAtoms_all]
  show words1.all (fun c => c.before args0 about1) = true
  refine all_split ?_ w_codes
  rw [← List.take_append_drop 24 words1, List.all_append, w_t1, ← List.take_append_drop 24 (words1.drop 24), List.all_append, w_t2, w_t3]
  rfl
set_option maxRecDepth 65536 in
theorem w_case : (Jvm.Cond.and given_1 narrow_1).before args0 about1 = true := by decide +kernel
theorem w_applies : (headSpec (Jvm.Cond.code x code maxLocals ret :: tables_1) room_1).applies x e0.platform about1 = true :=
  (Spec.applies_iff w_frames).mpr ⟨w_running, w_runnable, w_alone, w_named, w_hears, w_ripe, w_room, w_tables⟩
theorem atStart : AtStart classFile x code maxLocals ret World_1 tables_1 room_1 Calls_1 rest_1 Pre_1 launch0 p0 e0 about1 theMethod args0 below0 :=
  ⟨lists_1, trivial, launch0.admits_env _ _ _, launch0.least_env, fairChoices_fair.cas, fairChoices_fair.clock, w_frames, w_args, w_heap, w_applies, trivial, trivial, w_case⟩
end start1
theorem witness_1 : WitnessClaimed_1 := ⟨start1.p0, start1.e0, start1.about1, start1.theMethod, start1.args0, start1.below0, start1.atStart⟩
end Jvm.Pilot.@@N@@
