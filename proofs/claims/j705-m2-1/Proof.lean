import JvmDerived
import JvmDerived.Pilot.@@N@@Statement
import JvmDerived.Pilot.@@N@@Code
set_option linter.unusedVariables false
set_option linter.unusedSimpArgs false
namespace Jvm.RoadKit
open Sem ClassFile Op Lib Jvm.Stand Jvm.Free Jvm.LawKit
section New
variable {p : Program} {l : Launch} {e : Env} {R : Room} {s : State} {m : MethodId} {args : Array Value} {below : List Frame} {meth : Method} {c : Code} {T : State} {locs : List Loc} {cells slots : Nat}
theorem retI (X : Stand p l e R s m args below meth c T locs cells slots) (hx : p.tables.exec = Jvm.exec) {pc : Nat} {Ls : Array Slot} {z : Int32} {rest : List Value} (hret : meth.sig.returnType = some .int) (hd : decode c.code pc = .ok (.ireturn, 1)) {fs : List Frame}
    (hl : ∀ (f : JFrame) (acts : List Action), f.method = m → f.locked = none → f.entered = [] → (doReturn e (T.setTop f) acts (some (.int z))).1 = T.setFrames fs) : Steps p.tables e below (T.setTop (mkF m pc Ls (.int z :: rest))) (T.setFrames fs) := by
  have hm' : T.vm.method? m = some meth := X.method'
  have hn : narrow .int (.int z) = .int z := rfl
  show Steps p.tables e below (T.setTop { method := m, pc := pc, locals := Ls, stack := _ :: rest, locked := none }) _
  jvm_step X.here [X.here.top, hx, hd, hm', hret, hn]
  first | (intro acts; rw [hl _ acts rfl rfl rfl]) | rw [hl _ _ rfl rfl rfl]
  exact Steps.refl _
end New
end Jvm.RoadKit
namespace Jvm.Pilot.@@N@@
open Jvm Jvm.ClassFile Sem Op Lib Jvm.Free Jvm.Stand Jvm.LawKit Jvm.RoadKit Bundle Jvm.Pilot.@@N@@.Jvm.D
section OwnArrays
variable {Z : State} {h h' : Heap} {a b : Addr} {ty : FieldType} {n j : Int32} {F : Nat → Int32} {G : Nat → Int64} {sl : Nat} {v : Value} {ws : List Addr} {k : ClassId} {x : Int32} {y : Int64}
/-- an array of ints (chars, bytes, booleans ..): its length and its components -/
def own_AI (Z : State) (h : Heap) (a : Addr) (ty : FieldType) (n : Int32) (F : Nat → Int32) : Prop := ∃ c : Cell, Arr Z h a c ty ∧ c.slots.size = n.toNatClampNeg ∧ ¬ n < 0 ∧ ∀ i, i < c.slots.size → c.slots[i]? = some (.int (F i)) ∧ fits ty (.int (F i)) = true
/-- an array of longs -/
def own_AJ (Z : State) (h : Heap) (a : Addr) (ty : FieldType) (n : Int32) (F : Nat → Int64) : Prop := ∃ c : Cell, Arr Z h a c ty ∧ c.slots.size = n.toNatClampNeg ∧ ¬ n < 0 ∧ ∀ i, i < c.slots.size → c.slots[i]? = some (.long (F i))
/-- an array of which the length alone is told -/
def own_AL (Z : State) (h : Heap) (a : Addr) (ty : FieldType) (n : Int32) : Prop := ∃ c : Cell, Arr Z h a c ty ∧ c.slots.size = n.toNatClampNeg ∧ ¬ n < 0 ∧ True
def own_upd {α : Type} (F : Nat → α) (i : Nat) (v : α) : Nat → α := fun q => if q = i then v else F q
theorem own_upd_at {α : Type} (F : Nat → α) (i : Nat) (v : α) (q : Nat) : own_upd F i v q = if q = i then v else F q := rfl
theorem own_lt {c : Cell} (q : ¬ (j < 0 ∨ c.slots.size ≤ j.toNatClampNeg)) : j.toNatClampNeg < c.slots.size := Nat.lt_of_not_le fun z => q (Or.inr z)
theorem own_AI.lt (H : own_AI Z h a ty n F) : a < h.size := by obtain ⟨c, A, -⟩ := H; exact A.lt
theorem own_AI.ext (H : own_AI Z h a ty n F) (E : Ext h h') : own_AI Z h' a ty n F := by obtain ⟨c, A, r⟩ := H; exact ⟨c, A.ext E, r⟩
theorem own_AI.other (H : own_AI Z h b ty n F) (W : Wr h h' a sl v) (q : b ≠ a) : own_AI Z h' b ty n F := by obtain ⟨c, A, r⟩ := H; exact ⟨c, A.other W q, r⟩
theorem own_AI.keep (H : own_AI Z h a ty n F) (K : Keep h h' ws) (q : a ∉ ws) : own_AI Z h' a ty n F := by obtain ⟨c, A, r⟩ := H; exact ⟨c, ⟨K.2.1 a c A.1 q, A.2⟩, r⟩
theorem own_AI.new (A : Arr Z h a (newA k ty n) ty) (q : ¬ n < 0) (hd : defaultValue ty = .int 0) : own_AI Z h a ty n (fun _ => 0) :=
  ⟨_, A, sz_new _ _ _, q, fun i hi => by
    rw [sz_new] at hi
    refine ⟨by simp [newA, hi, hd], ?_⟩
    rw [← hd]; cases ty <;> rfl⟩
theorem own_AI.set (H : own_AI Z h a ty n F) (hv : fits ty (.int x) = true) (W : Wr h h' a j.toNatClampNeg (.int x)) : own_AI Z h' a ty n (own_upd F j.toNatClampNeg x) := by
  obtain ⟨c, A, S, q, H⟩ := H
  refine ⟨_, A.same W, by simpa [Cell.setSlot] using S, q, fun i hi => ?_⟩
  have hi' : i < c.slots.size := by simpa [Cell.setSlot] using hi
  by_cases u : i = j.toNatClampNeg
  · rw [own_upd_at, if_pos u]; subst u; exact ⟨by simp [Cell.setSlot, hi'], hv⟩
  · rw [own_upd_at, if_neg u]
    refine ⟨?_, (H i hi').2⟩
    have := (H i hi').1
    simp only [Cell.setSlot] at this ⊢
    rw [Array.getElem?_setIfInBounds_ne (Ne.symm u)]; exact this
theorem own_AJ.lt (H : own_AJ Z h a ty n G) : a < h.size := by obtain ⟨c, A, -⟩ := H; exact A.lt
theorem own_AJ.ext (H : own_AJ Z h a ty n G) (E : Ext h h') : own_AJ Z h' a ty n G := by obtain ⟨c, A, r⟩ := H; exact ⟨c, A.ext E, r⟩
theorem own_AJ.other (H : own_AJ Z h b ty n G) (W : Wr h h' a sl v) (q : b ≠ a) : own_AJ Z h' b ty n G := by obtain ⟨c, A, r⟩ := H; exact ⟨c, A.other W q, r⟩
theorem own_AJ.keep (H : own_AJ Z h a ty n G) (K : Keep h h' ws) (q : a ∉ ws) : own_AJ Z h' a ty n G := by obtain ⟨c, A, r⟩ := H; exact ⟨c, ⟨K.2.1 a c A.1 q, A.2⟩, r⟩
theorem own_AJ.new (A : Arr Z h a (newA k .long n) .long) (q : ¬ n < 0) : own_AJ Z h a .long n (fun _ => 0) :=
  ⟨_, A, sz_new _ _ _, q, fun i hi => by rw [sz_new] at hi; simp [newA, hi, defaultValue]⟩
theorem own_AJ.set (H : own_AJ Z h a ty n G) (W : Wr h h' a j.toNatClampNeg (.long y)) : own_AJ Z h' a ty n (own_upd G j.toNatClampNeg y) := by
  obtain ⟨c, A, S, q, H⟩ := H
  refine ⟨_, A.same W, by simpa [Cell.setSlot] using S, q, fun i hi => ?_⟩
  have hi' : i < c.slots.size := by simpa [Cell.setSlot] using hi
  by_cases u : i = j.toNatClampNeg
  · rw [own_upd_at, if_pos u]; subst u; simp [Cell.setSlot, hi']
  · rw [own_upd_at, if_neg u]
    have := H i hi'
    simp only [Cell.setSlot] at this ⊢
    rw [Array.getElem?_setIfInBounds_ne (Ne.symm u)]; exact this
theorem own_AL.lt (H : own_AL Z h a ty n) : a < h.size := by obtain ⟨c, A, -⟩ := H; exact A.lt
theorem own_AL.ext (H : own_AL Z h a ty n) (E : Ext h h') : own_AL Z h' a ty n := by obtain ⟨c, A, r⟩ := H; exact ⟨c, A.ext E, r⟩
theorem own_AL.other (H : own_AL Z h b ty n) (W : Wr h h' a sl v) (q : b ≠ a) : own_AL Z h' b ty n := by obtain ⟨c, A, r⟩ := H; exact ⟨c, A.other W q, r⟩
theorem own_AL.keep (H : own_AL Z h a ty n) (K : Keep h h' ws) (q : a ∉ ws) : own_AL Z h' a ty n := by obtain ⟨c, A, r⟩ := H; exact ⟨c, ⟨K.2.1 a c A.1 q, A.2⟩, r⟩
theorem own_AL.new (A : Arr Z h a (newA k ty n) ty) (q : ¬ n < 0) : own_AL Z h a ty n := ⟨_, A, sz_new _ _ _, q, trivial⟩
theorem own_AL.set (H : own_AL Z h a ty n) (W : Wr h h' a sl v) : own_AL Z h' a ty n := by
  obtain ⟨c, A, S, q, -⟩ := H
  exact ⟨_, A.same W, by simpa [Cell.setSlot] using S, q, trivial⟩
end OwnArrays
theorem own_idx (x : Int32) : ¬ ((x &&& (2147483647 : Int32)) - ((x &&& (2147483647 : Int32)) / (20 : Int32)) * (20 : Int32)) < 0 ∧ ((x &&& (2147483647 : Int32)) - ((x &&& (2147483647 : Int32)) / (20 : Int32)) * (20 : Int32)) < (20 : Int32) := by
  have h1 : (x &&& 2147483647).toInt = x.toInt % 2147483648 := c_mask x 2147483647 31 (by decide) (by decide)
  have h2 := (c_irem (x &&& 2147483647) 20 20 (by decide)).1 (by omega)
  have e0 : (0 : Int32).toInt = 0 := by decide
  have en : (20 : Int32).toInt = 20 := by decide
  rw [irem_eq_mod, Int32.lt_iff_toInt_lt, Int32.lt_iff_toInt_lt, e0, en]
  omega
theorem own_idx19 (x : Int32) : ¬ ((x &&& (2147483647 : Int32)) - ((x &&& (2147483647 : Int32)) / (19 : Int32)) * (19 : Int32)) < 0 ∧ ((x &&& (2147483647 : Int32)) - ((x &&& (2147483647 : Int32)) / (19 : Int32)) * (19 : Int32)) < (19 : Int32) := by
  have h1 : (x &&& 2147483647).toInt = x.toInt % 2147483648 := c_mask x 2147483647 31 (by decide) (by decide)
  have h2 := (c_irem (x &&& 2147483647) 19 19 (by decide)).1 (by omega)
  have e0 : (0 : Int32).toInt = 0 := by decide
  have en : (19 : Int32).toInt = 19 := by decide
  rw [irem_eq_mod, Int32.lt_iff_toInt_lt, Int32.lt_iff_toInt_lt, e0, en]
  omega
theorem d1_0 : decode prog_4_method_1_code 0 = .ok (.aload_n 0, 1) := by decide +kernel
theorem d1_1 : decode prog_4_method_1_code 1 = .ok (.invokespecial 1, 3) := by decide +kernel
theorem d1_4 : decode prog_4_method_1_code 4 = .ok (.aload_n 0, 1) := by decide +kernel
theorem d1_5 : decode prog_4_method_1_code 5 = .ok (.bipush 20, 2) := by decide +kernel
theorem d1_7 : decode prog_4_method_1_code 7 = .ok (.newarray .boolean, 2) := by decide +kernel
theorem d1_9 : decode prog_4_method_1_code 9 = .ok (.putfield 9, 3) := by decide +kernel
theorem d1_12 : decode prog_4_method_1_code 12 = .ok (.aload_n 0, 1) := by decide +kernel
theorem d1_13 : decode prog_4_method_1_code 13 = .ok (.bipush 20, 2) := by decide +kernel
theorem d1_15 : decode prog_4_method_1_code 15 = .ok (.anewarray 13, 3) := by decide +kernel
theorem d1_18 : decode prog_4_method_1_code 18 = .ok (.putfield 15, 3) := by decide +kernel
theorem d1_21 : decode prog_4_method_1_code 21 = .ok (.aload_n 0, 1) := by decide +kernel
theorem d1_22 : decode prog_4_method_1_code 22 = .ok (.bipush 20, 2) := by decide +kernel
theorem d1_24 : decode prog_4_method_1_code 24 = .ok (.anewarray 13, 3) := by decide +kernel
theorem d1_27 : decode prog_4_method_1_code 27 = .ok (.putfield 19, 3) := by decide +kernel
theorem d1_30 : decode prog_4_method_1_code 30 = .ok (.aload_n 0, 1) := by decide +kernel
theorem d1_31 : decode prog_4_method_1_code 31 = .ok (.getfield 9, 3) := by decide +kernel
theorem d1_34 : decode prog_4_method_1_code 34 = .ok (.iconst 0, 1) := by decide +kernel
theorem d1_35 : decode prog_4_method_1_code 35 = .ok (.iconst 1, 1) := by decide +kernel
theorem d1_36 : decode prog_4_method_1_code 36 = .ok (.bastore, 1) := by decide +kernel
theorem d1_37 : decode prog_4_method_1_code 37 = .ok (.return_, 1) := by decide +kernel
theorem pn_1 : plainName "com/example/cardhost/cardhost/LogicalChannels" = true := by first | (simp [plainName, overriddenIn]; done) | decide +kernel
theorem ef_1 (m : MethodId) (x0 : Addr) : entryFrame m #[(.ref x0)] 1 = mkF m 0 #[.val (.ref x0)] [] := by first | (simp [entryFrame, mkF, argsToLocals, Value.category]; done) | rfl
def Q1 (Z : State) (o0 : Addr) (h0 : Heap) (n0 : Nat) (v : Option Value) (h : Heap) (L : List Loc) : Prop := ∃ r_o0_open : Addr, ∃ r_o0_active : Addr, ∃ r_o0_defaults : Addr, v = none ∧ Fr n0 L ∧ Keep h0 h [o0] ∧ n0 ≤ r_o0_open ∧ h0.size ≤ r_o0_open ∧ n0 ≤ r_o0_active ∧ h0.size ≤ r_o0_active ∧ r_o0_open ≠ r_o0_active ∧ n0 ≤ r_o0_defaults ∧ h0.size ≤ r_o0_defaults ∧ r_o0_open ≠ r_o0_defaults ∧ r_o0_active ≠ r_o0_defaults ∧ Fld Z h o0 "com/example/cardhost/cardhost/LogicalChannels" "open" "[Z" (.ref r_o0_open) ∧ own_AI Z h r_o0_open .boolean (20 : Int32) (own_upd (fun _ => 0) 0 (1 : Int32)) ∧ Fld Z h o0 "com/example/cardhost/cardhost/LogicalChannels" "active" "[Lcom/example/cardhost/cardhost/InstalledApplet;" (.ref r_o0_active) ∧ own_AL Z h r_o0_active (.object "com/example/cardhost/cardhost/InstalledApplet") (20 : Int32) ∧ Fld Z h o0 "com/example/cardhost/cardhost/LogicalChannels" "defaults" "[Lcom/example/cardhost/cardhost/InstalledApplet;" (.ref r_o0_defaults) ∧ own_AL Z h r_o0_defaults (.object "com/example/cardhost/cardhost/InstalledApplet") (20 : Int32)
set_option maxRecDepth 65536 in
set_option maxHeartbeats 40000000 in
theorem rm1 (l : Launch) (Z : State) (a0 : Array Value) (hw : ∀ d ∈ tables_1, d.before a0 Z = true) (ws : List Jvm.Cond) (o0 : Addr) (h0 : Heap) (n0 : Nat) (Z0 : n0 ≤ h0.size) (E_o0 : Exa Z h0 o0 "com/example/cardhost/cardhost/LogicalChannels") (F_open_o0 : Fld Z h0 o0 "com/example/cardhost/cardhost/LogicalChannels" "open" "[Z" .null) (g_o0 : n0 ≤ o0) (F_active_o0 : Fld Z h0 o0 "com/example/cardhost/cardhost/LogicalChannels" "active" "[Lcom/example/cardhost/cardhost/InstalledApplet;" .null) (F_defaults_o0 : Fld Z h0 o0 "com/example/cardhost/cardhost/LogicalChannels" "defaults" "[Lcom/example/cardhost/cardhost/InstalledApplet;" .null) :
    MetFree l (⟨"com/example/cardhost/cardhost/LogicalChannels", "<init>", "()V"⟩ : MethodName) (head1 (Jvm.Cond.code (⟨"com/example/cardhost/cardhost/LogicalChannels", "<init>", "()V"⟩ : MethodName) prog_4_method_1_code 1 none :: ws) ({ frames := 1, cells := 3, slots := 60, locals := 12 } : Room)) (fun a U => a = #[(.ref o0)] ∧ Z.Warmed39 U.vm ∧ U.heap = h0) (fun _ _ _ _ _ => True) (fun _ U o U' => ∃ v L, o = .returned v ∧ Q1 Z o0 h0 n0 v U'.heap L ∧ FrameEnd U o U' L ({ frames := 1, cells := 3, slots := 60, locals := 12 } : Room).cells ({ frames := 1, cells := 3, slots := 60, locals := 12 } : Room).slots) := by
  refine MetFree.of_bodySF (plainFor_of_name pn_1) hisR ?_
  intro p e s m args below meth c s₁ Bd hml0 hP hK
  obtain ⟨rfl, hZ, hh⟩ := hP
  have hx := Bd.exec
  have hby := Bd.bytes
  have hml : c.maxLocals = 1 := hml0
  have hown : s.vm.findClass "com/example/cardhost/cardhost/LogicalChannels" = some m.cls := findClass_of_methodNamed Bd.named
  have hnm := (name_of_methodNamed Bd.named Bd.method).1
  have X0 : Stand p l e ({ frames := 1, cells := 3, slots := 60, locals := 12 } : Room) s m #[(.ref o0)] below meth c s₁ [] 0 0 := Stand.of_body Bd
  have e0 : s₁.heap = h0 := by rw [← hh, Bd.state]; rfl
  have N0 := Fr.nil n0
  have pre0 : ∀ t, Steps p.tables e below (s₁.setTop (mkF m 0 #[.val (.ref o0)] [])) t → Steps p.tables e below (s₁.setTop (entryFrame m #[(.ref o0)] 1)) t := fun t k => castTop (ef_1 m o0) k
  obtain ⟨T1, X1, e1, st1⟩ := initO X0 hx hZ hown (hw _ (List.mem_of_getElem? (i := 7) rfl)) (hw _ (List.mem_of_getElem? (i := 8) rfl)) (hw _ (List.mem_of_getElem? (i := 9) rfl)) e0 (g := (mkF m 1 #[.val (.ref o0)] [(.ref o0)])) rfl (by rw [hml]; rfl) rfl (hb hby d1_1) (by decide) (W := 0) (by show 2 * 0 + _ ≤ _; exact Nat.le_of_eq rfl) (by decide)
  obtain ⟨T2, h2, k2, X2, e2, E2, A2, st2⟩ := newP X1 hx hZ (hw _ (List.mem_of_getElem? (i := 10) rfl)) e1 (g := (mkF m 7 #[.val (.ref o0)] [(.int (20 : Int32)), (.ref o0)])) rfl (hb hby d1_7) rfl (by decide) (cap := 20) (by decide) (by decide) (by decide) (by decide)
  obtain ⟨b2, g2⟩ : ∃ z, z = h0.size := ⟨_, rfl⟩
  rw [← g2] at A2 st2
  have g_b2 : n0 ≤ b2 := Nat.le_trans Z0 (Nat.le_of_eq g2.symm)
  have sz_b2 : h0.size ≤ b2 := Nat.le_trans (Keep.refl h0 [o0]).1 (Nat.le_of_eq g2.symm)
  have ne_o0_b2 : o0 ≠ b2 := Nat.ne_of_lt (Nat.lt_of_lt_of_le E_o0.lt (Nat.le_of_eq g2.symm))
  have K3 : Keep h0 h2 [o0] := (Keep.refl h0 [o0]).ext E2
  have Z4 : n0 ≤ h2.size := Nat.le_trans Z0 K3.1
  have V_b2 : own_AI Z h2 b2 .boolean (20 : Int32) (fun _ => 0) := own_AI.new A2 (by decide) rfl
  obtain ⟨T5, h5, X5, e5, W5, st5⟩ := putF X2 hx hZ hown (host := "") (Or.inl (hw _ (List.mem_of_getElem? (i := 11) rfl))) Via.refl e2 (F_open_o0.ext E2) (E_o0.ext E2) (Or.inr ⟨(hw _ (List.mem_of_getElem? (i := 12) rfl)), rfl, hnm⟩) (hw _ (List.mem_of_getElem? (i := 2) rfl)) (ty := (.array .boolean)) (by decide) rfl rfl (g := (mkF m 9 #[.val (.ref o0)] [(.ref b2), (.ref o0)])) rfl rfl (hb hby d1_9)
  have Fw5 := (F_open_o0.ext E2).same W5
  have K6 : Keep h0 h5 [o0] := K3.wr W5 (Or.inl (List.mem_of_getElem? (i := 0) rfl))
  have Z7 : n0 ≤ h5.size := Nat.le_trans Z0 K6.1
  have N5 := Fr.snoc X5 N0 g_o0
  obtain ⟨LS5, X5, N5⟩ : ∃ L, Stand p l e ({ frames := 1, cells := 3, slots := 60, locals := 12 } : Room) s m #[(.ref o0)] below meth c T5 L 1 20 ∧ Fr n0 L := ⟨_, X5, N5⟩
  obtain ⟨T8, h8, k8, X8, e8, E8, A8, O8, st8⟩ := newR X5 hx hZ hown (hw _ (List.mem_of_getElem? (i := 13) rfl)) (hw _ (List.mem_of_getElem? (i := 14) rfl)) e5 (g := (mkF m 15 #[.val (.ref o0)] [(.int (20 : Int32)), (.ref o0)])) rfl (hb hby d1_15) rfl (by decide) (cap := 20) (by decide) (by decide) (by decide) (by decide)
  obtain ⟨b8, g8⟩ : ∃ z, z = h5.size := ⟨_, rfl⟩
  rw [← g8] at A8 st8
  have g_b8 : n0 ≤ b8 := Nat.le_trans Z7 (Nat.le_of_eq g8.symm)
  have sz_b8 : h0.size ≤ b8 := Nat.le_trans K6.1 (Nat.le_of_eq g8.symm)
  have ne_o0_b8 : o0 ≠ b8 := Nat.ne_of_lt (Nat.lt_of_lt_of_le ((E_o0.ext E2).wr W5).lt (Nat.le_of_eq g8.symm))
  have ne_b2_b8 : b2 ≠ b8 := Nat.ne_of_lt (Nat.lt_of_lt_of_le (V_b2.other W5 (Ne.symm ne_o0_b2)).lt (Nat.le_of_eq g8.symm))
  have K9 : Keep h0 h8 [o0] := K6.ext E8
  have Z10 : n0 ≤ h8.size := Nat.le_trans Z0 K9.1
  have V_b8 : own_AL Z h8 b8 (.object "com/example/cardhost/cardhost/InstalledApplet") (20 : Int32) := own_AL.new A8 (by decide)
  have c11 := (((F_active_o0.ext E2).other W5 (Or.inr (slot_ne (Or.inr (hw _ (List.mem_of_getElem? (i := 16) rfl))) (Or.inr (hw _ (List.mem_of_getElem? (i := 12) rfl))) (by decide) (t := (.array (.object "com/example/cardhost/cardhost/InstalledApplet"))) (t' := (.array .boolean)) (by decide) (by decide)))).ext E8)
  obtain ⟨T12, h12, X12, e12, W12, st12⟩ := putF X8 hx hZ hown (host := "") (Or.inl (hw _ (List.mem_of_getElem? (i := 15) rfl))) Via.refl e8 c11 (((E_o0.ext E2).wr W5).ext E8) (Or.inr ⟨(hw _ (List.mem_of_getElem? (i := 16) rfl)), rfl, hnm⟩) (hw _ (List.mem_of_getElem? (i := 2) rfl)) (ty := (.array (.object "com/example/cardhost/cardhost/InstalledApplet"))) (by decide) rfl rfl (g := (mkF m 18 #[.val (.ref o0)] [(.ref b8), (.ref o0)])) rfl rfl (hb hby d1_18)
  have Fw12 := c11.same W12
  have K13 : Keep h0 h12 [o0] := K9.wr W12 (Or.inl (List.mem_of_getElem? (i := 0) rfl))
  have Z14 : n0 ≤ h12.size := Nat.le_trans Z0 K13.1
  have N12 := Fr.snoc X12 N5 g_o0
  obtain ⟨LS12, X12, N12⟩ : ∃ L, Stand p l e ({ frames := 1, cells := 3, slots := 60, locals := 12 } : Room) s m #[(.ref o0)] below meth c T12 L 2 40 ∧ Fr n0 L := ⟨_, X12, N12⟩
  obtain ⟨T15, h15, k15, X15, e15, E15, A15, O15, st15⟩ := newR X12 hx hZ hown (hw _ (List.mem_of_getElem? (i := 13) rfl)) (hw _ (List.mem_of_getElem? (i := 14) rfl)) e12 (g := (mkF m 24 #[.val (.ref o0)] [(.int (20 : Int32)), (.ref o0)])) rfl (hb hby d1_24) rfl (by decide) (cap := 20) (by decide) (by decide) (by decide) (by decide)
  obtain ⟨b15, g15⟩ : ∃ z, z = h12.size := ⟨_, rfl⟩
  rw [← g15] at A15 st15
  have g_b15 : n0 ≤ b15 := Nat.le_trans Z14 (Nat.le_of_eq g15.symm)
  have sz_b15 : h0.size ≤ b15 := Nat.le_trans K13.1 (Nat.le_of_eq g15.symm)
  have ne_o0_b15 : o0 ≠ b15 := Nat.ne_of_lt (Nat.lt_of_lt_of_le ((((E_o0.ext E2).wr W5).ext E8).wr W12).lt (Nat.le_of_eq g15.symm))
  have c16 := (((V_b2.other W5 (Ne.symm ne_o0_b2)).ext E8).other W12 (Ne.symm ne_o0_b2))
  have ne_b2_b15 : b2 ≠ b15 := Nat.ne_of_lt (Nat.lt_of_lt_of_le c16.lt (Nat.le_of_eq g15.symm))
  have ne_b8_b15 : b8 ≠ b15 := Nat.ne_of_lt (Nat.lt_of_lt_of_le (V_b8.other W12 (Ne.symm ne_o0_b8)).lt (Nat.le_of_eq g15.symm))
  have K17 : Keep h0 h15 [o0] := K13.ext E15
  have Z18 : n0 ≤ h15.size := Nat.le_trans Z0 K17.1
  have V_b15 : own_AL Z h15 b15 (.object "com/example/cardhost/cardhost/InstalledApplet") (20 : Int32) := own_AL.new A15 (by decide)
  have c19 := (((((F_defaults_o0.ext E2).other W5 (Or.inr (slot_ne (Or.inr (hw _ (List.mem_of_getElem? (i := 18) rfl))) (Or.inr (hw _ (List.mem_of_getElem? (i := 12) rfl))) (by decide) (t := (.array (.object "com/example/cardhost/cardhost/InstalledApplet"))) (t' := (.array .boolean)) (by decide) (by decide)))).ext E8).other W12 (Or.inr (slot_ne (Or.inr (hw _ (List.mem_of_getElem? (i := 18) rfl))) (Or.inr (hw _ (List.mem_of_getElem? (i := 16) rfl))) (by decide) (t := (.array (.object "com/example/cardhost/cardhost/InstalledApplet"))) (t' := (.array (.object "com/example/cardhost/cardhost/InstalledApplet"))) (by decide) (by decide)))).ext E15)
  obtain ⟨T20, h20, X20, e20, W20, st20⟩ := putF X15 hx hZ hown (host := "") (Or.inl (hw _ (List.mem_of_getElem? (i := 17) rfl))) Via.refl e15 c19 (((((E_o0.ext E2).wr W5).ext E8).wr W12).ext E15) (Or.inr ⟨(hw _ (List.mem_of_getElem? (i := 18) rfl)), rfl, hnm⟩) (hw _ (List.mem_of_getElem? (i := 2) rfl)) (ty := (.array (.object "com/example/cardhost/cardhost/InstalledApplet"))) (by decide) rfl rfl (g := (mkF m 27 #[.val (.ref o0)] [(.ref b15), (.ref o0)])) rfl rfl (hb hby d1_27)
  have Fw20 := c19.same W20
  have K21 : Keep h0 h20 [o0] := K17.wr W20 (Or.inl (List.mem_of_getElem? (i := 0) rfl))
  have Z22 : n0 ≤ h20.size := Nat.le_trans Z0 K21.1
  have N20 := Fr.snoc X20 N12 g_o0
  obtain ⟨LS20, X20, N20⟩ : ∃ L, Stand p l e ({ frames := 1, cells := 3, slots := 60, locals := 12 } : Room) s m #[(.ref o0)] below meth c T20 L 3 60 ∧ Fr n0 L := ⟨_, X20, N20⟩
  have c23 := ((((Fw5.ext E8).other W12 (Or.inr (slot_ne (Or.inr (hw _ (List.mem_of_getElem? (i := 12) rfl))) (Or.inr (hw _ (List.mem_of_getElem? (i := 16) rfl))) (by decide) (t := (.array .boolean)) (t' := (.array (.object "com/example/cardhost/cardhost/InstalledApplet"))) (by decide) (by decide)))).ext E15).other W20 (Or.inr (slot_ne (Or.inr (hw _ (List.mem_of_getElem? (i := 12) rfl))) (Or.inr (hw _ (List.mem_of_getElem? (i := 18) rfl))) (by decide) (t := (.array .boolean)) (t' := (.array (.object "com/example/cardhost/cardhost/InstalledApplet"))) (by decide) (by decide))))
  obtain ⟨T24, X24, e24, st24⟩ := getF X20 hx hZ hown (host := "") (Or.inl (hw _ (List.mem_of_getElem? (i := 11) rfl))) Via.refl e20 c23 (g := (mkF m 31 #[.val (.ref o0)] [(.ref o0)])) rfl rfl (hb hby d1_31)
  obtain ⟨cl25, Ar25, Sz25, Nn25, Hs25⟩ := id ((c16.ext E15).other W20 (Ne.symm ne_o0_b2))
  have hin25 : ¬ ((0 : Int32) < 0 ∨ cl25.slots.size ≤ ((0 : Int32)).toNatClampNeg) := inb_of Sz25 ⟨by decide, by decide⟩
  obtain ⟨T26, h26, X26, e26, W26, st26⟩ := stZ X24 hx hZ e24 Ar25 (j := (0 : Int32)) hin25 (g := (mkF m 36 #[.val (.ref o0)] [(.int (1 : Int32)), (.int (0 : Int32)), (.ref b2)])) rfl rfl (hb hby d1_36)
  have V26 : own_AI Z h26 b2 .boolean (20 : Int32) (own_upd (fun _ => 0) 0 (1 : Int32)) := own_AI.set ((c16.ext E15).other W20 (Ne.symm ne_o0_b2)) (fits_nar_bool (1 : Int32)) W26
  have K27 : Keep h0 h26 [o0] := K21.wr W26 (Or.inr sz_b2)
  have Z28 : n0 ≤ h26.size := Nat.le_trans Z0 K27.1
  have N26 := Fr.snoc X26 N20 g_b2
  obtain ⟨LS26, X26, N26⟩ : ∃ L, Stand p l e ({ frames := 1, cells := 3, slots := 60, locals := 12 } : Room) s m #[(.ref o0)] below meth c T26 L 3 60 ∧ Fr n0 L := ⟨_, X26, N26⟩
  obtain ⟨fs, hr, hrun, hended, hW, hsame⟩ := X26.leave (v := none) (fun _ => rfl)
  have c29 := (((Fw12.ext E15).other W20 (Or.inr (slot_ne (Or.inr (hw _ (List.mem_of_getElem? (i := 16) rfl))) (Or.inr (hw _ (List.mem_of_getElem? (i := 18) rfl))) (by decide) (t := (.array (.object "com/example/cardhost/cardhost/InstalledApplet"))) (t' := (.array (.object "com/example/cardhost/cardhost/InstalledApplet"))) (by decide) (by decide)))).other W26 (Or.inl ne_o0_b2))
  have c30 := ((((V_b8.other W12 (Ne.symm ne_o0_b8)).ext E15).other W20 (Ne.symm ne_o0_b8)).other W26 (Ne.symm ne_b2_b8))
  have c31 := ((V_b15.other W20 (Ne.symm ne_o0_b15)).other W26 (Ne.symm ne_b2_b15))
  refine ⟨_, _, pre0 _ ?_, hrun, hended, _, _, rfl, ?_, ⟨_, rfl⟩, hW, hsame.mono (by decide) (by decide)⟩
  · show Steps p.tables e below (s₁.setTop (mkF m 0 #[.val (.ref o0)] [])) _
    refine XS.aloadN X0.here hx rfl (hb hby d1_0) rfl rfl ?_
    show Steps p.tables e below (s₁.setTop (mkF m 1 #[.val (.ref o0)] [(.ref o0)])) _
    refine st1 _ ?_
    show Steps p.tables e below (T1.setTop (mkF m 4 #[.val (.ref o0)] [])) _
    refine XS.aloadN X1.here hx rfl (hb hby d1_4) rfl rfl ?_
    show Steps p.tables e below (T1.setTop (mkF m 5 #[.val (.ref o0)] [(.ref o0)])) _
    refine XS.bipush X1.here hx rfl (hb hby d1_5) ?_
    show Steps p.tables e below (T1.setTop (mkF m 7 #[.val (.ref o0)] [(.int (20 : Int32)), (.ref o0)])) _
    refine st2 _ ?_
    show Steps p.tables e below (T2.setTop (mkF m 9 #[.val (.ref o0)] [(.ref b2), (.ref o0)])) _
    refine st5 _ ?_
    show Steps p.tables e below (T5.setTop (mkF m 12 #[.val (.ref o0)] [])) _
    refine XS.aloadN X5.here hx rfl (hb hby d1_12) rfl rfl ?_
    show Steps p.tables e below (T5.setTop (mkF m 13 #[.val (.ref o0)] [(.ref o0)])) _
    refine XS.bipush X5.here hx rfl (hb hby d1_13) ?_
    show Steps p.tables e below (T5.setTop (mkF m 15 #[.val (.ref o0)] [(.int (20 : Int32)), (.ref o0)])) _
    refine st8 _ ?_
    show Steps p.tables e below (T8.setTop (mkF m 18 #[.val (.ref o0)] [(.ref b8), (.ref o0)])) _
    refine st12 _ ?_
    show Steps p.tables e below (T12.setTop (mkF m 21 #[.val (.ref o0)] [])) _
    refine XS.aloadN X12.here hx rfl (hb hby d1_21) rfl rfl ?_
    show Steps p.tables e below (T12.setTop (mkF m 22 #[.val (.ref o0)] [(.ref o0)])) _
    refine XS.bipush X12.here hx rfl (hb hby d1_22) ?_
    show Steps p.tables e below (T12.setTop (mkF m 24 #[.val (.ref o0)] [(.int (20 : Int32)), (.ref o0)])) _
    refine st15 _ ?_
    show Steps p.tables e below (T15.setTop (mkF m 27 #[.val (.ref o0)] [(.ref b15), (.ref o0)])) _
    refine st20 _ ?_
    show Steps p.tables e below (T20.setTop (mkF m 30 #[.val (.ref o0)] [])) _
    refine XS.aloadN X20.here hx rfl (hb hby d1_30) rfl rfl ?_
    show Steps p.tables e below (T20.setTop (mkF m 31 #[.val (.ref o0)] [(.ref o0)])) _
    refine st24 _ ?_
    show Steps p.tables e below (T24.setTop (mkF m 34 #[.val (.ref o0)] [(.ref b2)])) _
    refine XS.iconst X24.here hx rfl (hb hby d1_34) ?_
    show Steps p.tables e below (T24.setTop (mkF m 35 #[.val (.ref o0)] [(.int (0 : Int32)), (.ref b2)])) _
    refine XS.iconst X24.here hx rfl (hb hby d1_35) ?_
    show Steps p.tables e below (T24.setTop (mkF m 36 #[.val (.ref o0)] [(.int (1 : Int32)), (.int (0 : Int32)), (.ref b2)])) _
    refine st26 _ ?_
    show Steps p.tables e below (T26.setTop (mkF m 37 #[.val (.ref o0)] [])) _
    exact X26.returnOut hx Bd.returns (hb hby d1_37) hr
  · show Q1 Z o0 h0 n0 _ T26.heap _
    rw [e26]
    exact ⟨b2, b8, b15, rfl, N26, K27, g_b2, sz_b2, g_b8, sz_b8, ne_b2_b8, g_b15, sz_b15, ne_b2_b15, ne_b8_b15, (c23.other W26 (Or.inl ne_o0_b2)), V26, c29, c30, (Fw20.other W26 (Or.inl ne_o0_b2)), c31⟩
theorem d4_0 : decode prog_4_method_4_code 0 = .ok (.aload_n 0, 1) := by decide +kernel
theorem d4_1 : decode prog_4_method_4_code 1 = .ok (.getfield 9, 3) := by decide +kernel
theorem d4_4 : decode prog_4_method_4_code 4 = .ok (.iload_n 1, 1) := by decide +kernel
theorem d4_5 : decode prog_4_method_4_code 5 = .ok (.iconst 1, 1) := by decide +kernel
theorem d4_6 : decode prog_4_method_4_code 6 = .ok (.bastore, 1) := by decide +kernel
theorem d4_7 : decode prog_4_method_4_code 7 = .ok (.return_, 1) := by decide +kernel
theorem pn_4 : plainName "com/example/cardhost/cardhost/LogicalChannels" = true := by first | (simp [plainName, overriddenIn]; done) | decide +kernel
theorem ef_4 (m : MethodId) (x0 : Addr) (x1 : Int32) : entryFrame m #[(.ref x0), (.int x1)] 2 = mkF m 0 #[.val (.ref x0), .val (.int x1)] [] := by first | (simp [entryFrame, mkF, argsToLocals, Value.category]; done) | rfl
def Q4 (Z : State) (o0 : Addr) (p1 : Int32) (r1 : Addr) (F1 : Nat → Int32) (h0 : Heap) (n0 : Nat) (v : Option Value) (h : Heap) (L : List Loc) : Prop := v = none ∧ Fr n0 L ∧ Keep h0 h [r1] ∧ own_AI Z h r1 .boolean (20 : Int32) (own_upd F1 (p1).toNatClampNeg (1 : Int32))
set_option maxRecDepth 65536 in
set_option maxHeartbeats 40000000 in
theorem rm4 (l : Launch) (Z : State) (a0 : Array Value) (hw : ∀ d ∈ tables_1, d.before a0 Z = true) (ws : List Jvm.Cond) (o0 : Addr) (p1 : Int32) (r1 : Addr) (F1 : Nat → Int32) (h0 : Heap) (n0 : Nat) (Z0 : n0 ≤ h0.size) (F_open_o0 : Fld Z h0 o0 "com/example/cardhost/cardhost/LogicalChannels" "open" "[Z" (.ref r1)) (V_r1 : own_AI Z h0 r1 .boolean (20 : Int32) F1) (g_r1 : n0 ≤ r1) (hbd : ¬ p1 < 0 ∧ p1 < (20 : Int32)) :
    MetFree l (⟨"com/example/cardhost/cardhost/LogicalChannels", "open", "(I)V"⟩ : MethodName) (head1 (Jvm.Cond.code (⟨"com/example/cardhost/cardhost/LogicalChannels", "open", "(I)V"⟩ : MethodName) prog_4_method_4_code 2 none :: ws) ({ frames := 0, cells := 0, slots := 0, locals := 0 } : Room)) (fun a U => a = #[(.ref o0), (.int p1)] ∧ Z.Warmed39 U.vm ∧ U.heap = h0) (fun _ _ _ _ _ => True) (fun _ U o U' => ∃ v L, o = .returned v ∧ Q4 Z o0 p1 r1 F1 h0 n0 v U'.heap L ∧ FrameEnd U o U' L ({ frames := 0, cells := 0, slots := 0, locals := 0 } : Room).cells ({ frames := 0, cells := 0, slots := 0, locals := 0 } : Room).slots) := by
  refine MetFree.of_bodySF (plainFor_of_name pn_4) hisR ?_
  intro p e s m args below meth c s₁ Bd hml0 hP hK
  obtain ⟨rfl, hZ, hh⟩ := hP
  have hx := Bd.exec
  have hby := Bd.bytes
  have hml : c.maxLocals = 2 := hml0
  have hown : s.vm.findClass "com/example/cardhost/cardhost/LogicalChannels" = some m.cls := findClass_of_methodNamed Bd.named
  have hnm := (name_of_methodNamed Bd.named Bd.method).1
  have X0 : Stand p l e ({ frames := 0, cells := 0, slots := 0, locals := 0 } : Room) s m #[(.ref o0), (.int p1)] below meth c s₁ [] 0 0 := Stand.of_body Bd
  have e0 : s₁.heap = h0 := by rw [← hh, Bd.state]; rfl
  have N0 := Fr.nil n0
  have pre0 : ∀ t, Steps p.tables e below (s₁.setTop (mkF m 0 #[.val (.ref o0), .val (.int p1)] [])) t → Steps p.tables e below (s₁.setTop (entryFrame m #[(.ref o0), (.int p1)] 2)) t := fun t k => castTop (ef_4 m o0 p1) k
  obtain ⟨T1, X1, e1, st1⟩ := getF X0 hx hZ hown (host := "") (Or.inl (hw _ (List.mem_of_getElem? (i := 11) rfl))) Via.refl e0 F_open_o0 (g := (mkF m 1 #[.val (.ref o0), .val (.int p1)] [(.ref o0)])) rfl rfl (hb hby d4_1)
  obtain ⟨cl2, Ar2, Sz2, Nn2, Hs2⟩ := id V_r1
  have hin2 : ¬ (p1 < 0 ∨ cl2.slots.size ≤ (p1).toNatClampNeg) := inb_of Sz2 hbd
  obtain ⟨T3, h3, X3, e3, W3, st3⟩ := stZ X1 hx hZ e1 Ar2 (j := p1) hin2 (g := (mkF m 6 #[.val (.ref o0), .val (.int p1)] [(.int (1 : Int32)), (.int p1), (.ref r1)])) rfl rfl (hb hby d4_6)
  have V3 : own_AI Z h3 r1 .boolean (20 : Int32) (own_upd F1 (p1).toNatClampNeg (1 : Int32)) := own_AI.set V_r1 (fits_nar_bool (1 : Int32)) W3
  have K4 : Keep h0 h3 [r1] := (Keep.refl h0 [r1]).wr W3 (Or.inl (List.mem_of_getElem? (i := 0) rfl))
  have Z5 : n0 ≤ h3.size := Nat.le_trans Z0 K4.1
  have N3 := Fr.snoc X3 N0 g_r1
  obtain ⟨LS3, X3, N3⟩ : ∃ L, Stand p l e ({ frames := 0, cells := 0, slots := 0, locals := 0 } : Room) s m #[(.ref o0), (.int p1)] below meth c T3 L 0 0 ∧ Fr n0 L := ⟨_, X3, N3⟩
  obtain ⟨fs, hr, hrun, hended, hW, hsame⟩ := X3.leave (v := none) (fun _ => rfl)
  refine ⟨_, _, pre0 _ ?_, hrun, hended, _, _, rfl, ?_, ⟨_, rfl⟩, hW, hsame.mono (by decide) (by decide)⟩
  · show Steps p.tables e below (s₁.setTop (mkF m 0 #[.val (.ref o0), .val (.int p1)] [])) _
    refine XS.aloadN X0.here hx rfl (hb hby d4_0) rfl rfl ?_
    show Steps p.tables e below (s₁.setTop (mkF m 1 #[.val (.ref o0), .val (.int p1)] [(.ref o0)])) _
    refine st1 _ ?_
    show Steps p.tables e below (T1.setTop (mkF m 4 #[.val (.ref o0), .val (.int p1)] [(.ref r1)])) _
    refine XS.iloadN X1.here hx rfl (hb hby d4_4) rfl ?_
    show Steps p.tables e below (T1.setTop (mkF m 5 #[.val (.ref o0), .val (.int p1)] [(.int p1), (.ref r1)])) _
    refine XS.iconst X1.here hx rfl (hb hby d4_5) ?_
    show Steps p.tables e below (T1.setTop (mkF m 6 #[.val (.ref o0), .val (.int p1)] [(.int (1 : Int32)), (.int p1), (.ref r1)])) _
    refine st3 _ ?_
    show Steps p.tables e below (T3.setTop (mkF m 7 #[.val (.ref o0), .val (.int p1)] [])) _
    exact X3.returnOut hx Bd.returns (hb hby d4_7) hr
  · show Q4 Z o0 p1 r1 F1 h0 n0 _ T3.heap _
    rw [e3]
    exact ⟨rfl, N3, K4, V3⟩
theorem d3_0 : decode method_3_code 0 = .ok (.iload_n 1, 1) := by decide +kernel
theorem d3_1 : decode method_3_code 1 = .ok (.iconst 1, 1) := by decide +kernel
theorem d3_2 : decode method_3_code 2 = .ok (.if_icmp .lt 8, 3) := by decide +kernel
theorem d3_5 : decode method_3_code 5 = .ok (.aload_n 0, 1) := by decide +kernel
theorem d3_6 : decode method_3_code 6 = .ok (.iconst 1, 1) := by decide +kernel
theorem d3_7 : decode method_3_code 7 = .ok (.invokevirtual 17, 3) := by decide +kernel
theorem d3_10 : decode method_3_code 10 = .ok (.iload_n 1, 1) := by decide +kernel
theorem d3_11 : decode method_3_code 11 = .ok (.iconst 2, 1) := by decide +kernel
theorem d3_12 : decode method_3_code 12 = .ok (.if_icmp .lt 8, 3) := by decide +kernel
theorem d3_15 : decode method_3_code 15 = .ok (.aload_n 0, 1) := by decide +kernel
theorem d3_16 : decode method_3_code 16 = .ok (.iconst 2, 1) := by decide +kernel
theorem d3_17 : decode method_3_code 17 = .ok (.invokevirtual 17, 3) := by decide +kernel
theorem d3_20 : decode method_3_code 20 = .ok (.iload_n 1, 1) := by decide +kernel
theorem d3_21 : decode method_3_code 21 = .ok (.iconst 3, 1) := by decide +kernel
theorem d3_22 : decode method_3_code 22 = .ok (.if_icmp .lt 8, 3) := by decide +kernel
theorem d3_25 : decode method_3_code 25 = .ok (.aload_n 0, 1) := by decide +kernel
theorem d3_26 : decode method_3_code 26 = .ok (.iconst 3, 1) := by decide +kernel
theorem d3_27 : decode method_3_code 27 = .ok (.invokevirtual 17, 3) := by decide +kernel
theorem d3_30 : decode method_3_code 30 = .ok (.iload_n 1, 1) := by decide +kernel
theorem d3_31 : decode method_3_code 31 = .ok (.iconst 4, 1) := by decide +kernel
theorem d3_32 : decode method_3_code 32 = .ok (.if_icmp .lt 8, 3) := by decide +kernel
theorem d3_35 : decode method_3_code 35 = .ok (.aload_n 0, 1) := by decide +kernel
theorem d3_36 : decode method_3_code 36 = .ok (.iconst 4, 1) := by decide +kernel
theorem d3_37 : decode method_3_code 37 = .ok (.invokevirtual 17, 3) := by decide +kernel
theorem d3_40 : decode method_3_code 40 = .ok (.iload_n 1, 1) := by decide +kernel
theorem d3_41 : decode method_3_code 41 = .ok (.iconst 5, 1) := by decide +kernel
theorem d3_42 : decode method_3_code 42 = .ok (.if_icmp .lt 8, 3) := by decide +kernel
theorem d3_45 : decode method_3_code 45 = .ok (.aload_n 0, 1) := by decide +kernel
theorem d3_46 : decode method_3_code 46 = .ok (.iconst 5, 1) := by decide +kernel
theorem d3_47 : decode method_3_code 47 = .ok (.invokevirtual 17, 3) := by decide +kernel
theorem d3_50 : decode method_3_code 50 = .ok (.iload_n 1, 1) := by decide +kernel
theorem d3_51 : decode method_3_code 51 = .ok (.bipush 6, 2) := by decide +kernel
theorem d3_53 : decode method_3_code 53 = .ok (.if_icmp .lt 9, 3) := by decide +kernel
theorem d3_56 : decode method_3_code 56 = .ok (.aload_n 0, 1) := by decide +kernel
theorem d3_57 : decode method_3_code 57 = .ok (.bipush 6, 2) := by decide +kernel
theorem d3_59 : decode method_3_code 59 = .ok (.invokevirtual 17, 3) := by decide +kernel
theorem d3_62 : decode method_3_code 62 = .ok (.iload_n 1, 1) := by decide +kernel
theorem d3_63 : decode method_3_code 63 = .ok (.bipush 7, 2) := by decide +kernel
theorem d3_65 : decode method_3_code 65 = .ok (.if_icmp .lt 9, 3) := by decide +kernel
theorem d3_68 : decode method_3_code 68 = .ok (.aload_n 0, 1) := by decide +kernel
theorem d3_69 : decode method_3_code 69 = .ok (.bipush 7, 2) := by decide +kernel
theorem d3_71 : decode method_3_code 71 = .ok (.invokevirtual 17, 3) := by decide +kernel
theorem d3_74 : decode method_3_code 74 = .ok (.iload_n 1, 1) := by decide +kernel
theorem d3_75 : decode method_3_code 75 = .ok (.bipush 8, 2) := by decide +kernel
theorem d3_77 : decode method_3_code 77 = .ok (.if_icmp .lt 9, 3) := by decide +kernel
theorem d3_80 : decode method_3_code 80 = .ok (.aload_n 0, 1) := by decide +kernel
theorem d3_81 : decode method_3_code 81 = .ok (.bipush 8, 2) := by decide +kernel
theorem d3_83 : decode method_3_code 83 = .ok (.invokevirtual 17, 3) := by decide +kernel
theorem d3_86 : decode method_3_code 86 = .ok (.iload_n 1, 1) := by decide +kernel
theorem d3_87 : decode method_3_code 87 = .ok (.bipush 9, 2) := by decide +kernel
theorem d3_89 : decode method_3_code 89 = .ok (.if_icmp .lt 9, 3) := by decide +kernel
theorem d3_92 : decode method_3_code 92 = .ok (.aload_n 0, 1) := by decide +kernel
theorem d3_93 : decode method_3_code 93 = .ok (.bipush 9, 2) := by decide +kernel
theorem d3_95 : decode method_3_code 95 = .ok (.invokevirtual 17, 3) := by decide +kernel
theorem d3_98 : decode method_3_code 98 = .ok (.iload_n 1, 1) := by decide +kernel
theorem d3_99 : decode method_3_code 99 = .ok (.bipush 10, 2) := by decide +kernel
theorem d3_101 : decode method_3_code 101 = .ok (.if_icmp .lt 9, 3) := by decide +kernel
theorem d3_104 : decode method_3_code 104 = .ok (.aload_n 0, 1) := by decide +kernel
theorem d3_105 : decode method_3_code 105 = .ok (.bipush 10, 2) := by decide +kernel
theorem d3_107 : decode method_3_code 107 = .ok (.invokevirtual 17, 3) := by decide +kernel
theorem d3_110 : decode method_3_code 110 = .ok (.iload_n 1, 1) := by decide +kernel
theorem d3_111 : decode method_3_code 111 = .ok (.bipush 11, 2) := by decide +kernel
theorem d3_113 : decode method_3_code 113 = .ok (.if_icmp .lt 9, 3) := by decide +kernel
theorem d3_116 : decode method_3_code 116 = .ok (.aload_n 0, 1) := by decide +kernel
theorem d3_117 : decode method_3_code 117 = .ok (.bipush 11, 2) := by decide +kernel
theorem d3_119 : decode method_3_code 119 = .ok (.invokevirtual 17, 3) := by decide +kernel
theorem d3_122 : decode method_3_code 122 = .ok (.iload_n 1, 1) := by decide +kernel
theorem d3_123 : decode method_3_code 123 = .ok (.bipush 12, 2) := by decide +kernel
theorem d3_125 : decode method_3_code 125 = .ok (.if_icmp .lt 9, 3) := by decide +kernel
theorem d3_128 : decode method_3_code 128 = .ok (.aload_n 0, 1) := by decide +kernel
theorem d3_129 : decode method_3_code 129 = .ok (.bipush 12, 2) := by decide +kernel
theorem d3_131 : decode method_3_code 131 = .ok (.invokevirtual 17, 3) := by decide +kernel
theorem d3_134 : decode method_3_code 134 = .ok (.iload_n 1, 1) := by decide +kernel
theorem d3_135 : decode method_3_code 135 = .ok (.bipush 13, 2) := by decide +kernel
theorem d3_137 : decode method_3_code 137 = .ok (.if_icmp .lt 9, 3) := by decide +kernel
theorem d3_140 : decode method_3_code 140 = .ok (.aload_n 0, 1) := by decide +kernel
theorem d3_141 : decode method_3_code 141 = .ok (.bipush 13, 2) := by decide +kernel
theorem d3_143 : decode method_3_code 143 = .ok (.invokevirtual 17, 3) := by decide +kernel
theorem d3_146 : decode method_3_code 146 = .ok (.iload_n 1, 1) := by decide +kernel
theorem d3_147 : decode method_3_code 147 = .ok (.bipush 14, 2) := by decide +kernel
theorem d3_149 : decode method_3_code 149 = .ok (.if_icmp .lt 9, 3) := by decide +kernel
theorem d3_152 : decode method_3_code 152 = .ok (.aload_n 0, 1) := by decide +kernel
theorem d3_153 : decode method_3_code 153 = .ok (.bipush 14, 2) := by decide +kernel
theorem d3_155 : decode method_3_code 155 = .ok (.invokevirtual 17, 3) := by decide +kernel
theorem d3_158 : decode method_3_code 158 = .ok (.iload_n 1, 1) := by decide +kernel
theorem d3_159 : decode method_3_code 159 = .ok (.bipush 15, 2) := by decide +kernel
theorem d3_161 : decode method_3_code 161 = .ok (.if_icmp .lt 9, 3) := by decide +kernel
theorem d3_164 : decode method_3_code 164 = .ok (.aload_n 0, 1) := by decide +kernel
theorem d3_165 : decode method_3_code 165 = .ok (.bipush 15, 2) := by decide +kernel
theorem d3_167 : decode method_3_code 167 = .ok (.invokevirtual 17, 3) := by decide +kernel
theorem d3_170 : decode method_3_code 170 = .ok (.iload_n 1, 1) := by decide +kernel
theorem d3_171 : decode method_3_code 171 = .ok (.bipush 16, 2) := by decide +kernel
theorem d3_173 : decode method_3_code 173 = .ok (.if_icmp .lt 9, 3) := by decide +kernel
theorem d3_176 : decode method_3_code 176 = .ok (.aload_n 0, 1) := by decide +kernel
theorem d3_177 : decode method_3_code 177 = .ok (.bipush 16, 2) := by decide +kernel
theorem d3_179 : decode method_3_code 179 = .ok (.invokevirtual 17, 3) := by decide +kernel
theorem d3_182 : decode method_3_code 182 = .ok (.iload_n 1, 1) := by decide +kernel
theorem d3_183 : decode method_3_code 183 = .ok (.bipush 17, 2) := by decide +kernel
theorem d3_185 : decode method_3_code 185 = .ok (.if_icmp .lt 9, 3) := by decide +kernel
theorem d3_188 : decode method_3_code 188 = .ok (.aload_n 0, 1) := by decide +kernel
theorem d3_189 : decode method_3_code 189 = .ok (.bipush 17, 2) := by decide +kernel
theorem d3_191 : decode method_3_code 191 = .ok (.invokevirtual 17, 3) := by decide +kernel
theorem d3_194 : decode method_3_code 194 = .ok (.iload_n 1, 1) := by decide +kernel
theorem d3_195 : decode method_3_code 195 = .ok (.bipush 18, 2) := by decide +kernel
theorem d3_197 : decode method_3_code 197 = .ok (.if_icmp .lt 9, 3) := by decide +kernel
theorem d3_200 : decode method_3_code 200 = .ok (.aload_n 0, 1) := by decide +kernel
theorem d3_201 : decode method_3_code 201 = .ok (.bipush 18, 2) := by decide +kernel
theorem d3_203 : decode method_3_code 203 = .ok (.invokevirtual 17, 3) := by decide +kernel
theorem d3_206 : decode method_3_code 206 = .ok (.iload_n 1, 1) := by decide +kernel
theorem d3_207 : decode method_3_code 207 = .ok (.bipush 19, 2) := by decide +kernel
theorem d3_209 : decode method_3_code 209 = .ok (.if_icmp .lt 9, 3) := by decide +kernel
theorem d3_212 : decode method_3_code 212 = .ok (.aload_n 0, 1) := by decide +kernel
theorem d3_213 : decode method_3_code 213 = .ok (.bipush 19, 2) := by decide +kernel
theorem d3_215 : decode method_3_code 215 = .ok (.invokevirtual 17, 3) := by decide +kernel
theorem d3_218 : decode method_3_code 218 = .ok (.return_, 1) := by decide +kernel
theorem pn_3 : plainName "com/example/cardhost/cardhost/LogicalChannelsLowestClosedPinLaw" = true := by first | (simp [plainName, overriddenIn]; done) | decide +kernel
theorem pd_3_0 : parseMethodDescriptor "(I)V" = some ⟨[.int], none⟩ := by decide +kernel
theorem ef_3 (m : MethodId) (x0 : Addr) (x1 : Int32) : entryFrame m #[(.ref x0), (.int x1)] 2 = mkF m 0 #[.val (.ref x0), .val (.int x1)] [] := by first | (simp [entryFrame, mkF, argsToLocals, Value.category]; done) | rfl
def f3_r1_a (p1 : Int32) (F1 : Nat → Int32) : Nat → Int32 :=
  if p1 < (1 : Int32) then (F1) else
  (if p1 < (2 : Int32) then ((own_upd F1 ((1 : Int32)).toNatClampNeg (1 : Int32))) else
  (if p1 < (3 : Int32) then ((own_upd (own_upd F1 ((1 : Int32)).toNatClampNeg (1 : Int32)) ((2 : Int32)).toNatClampNeg (1 : Int32))) else
  (if p1 < (4 : Int32) then ((own_upd (own_upd (own_upd F1 ((1 : Int32)).toNatClampNeg (1 : Int32)) ((2 : Int32)).toNatClampNeg (1 : Int32)) ((3 : Int32)).toNatClampNeg (1 : Int32))) else
  (if p1 < (5 : Int32) then ((own_upd (own_upd (own_upd (own_upd F1 ((1 : Int32)).toNatClampNeg (1 : Int32)) ((2 : Int32)).toNatClampNeg (1 : Int32)) ((3 : Int32)).toNatClampNeg (1 : Int32)) ((4 : Int32)).toNatClampNeg (1 : Int32))) else
  (if p1 < (6 : Int32) then ((own_upd (own_upd (own_upd (own_upd (own_upd F1 ((1 : Int32)).toNatClampNeg (1 : Int32)) ((2 : Int32)).toNatClampNeg (1 : Int32)) ((3 : Int32)).toNatClampNeg (1 : Int32)) ((4 : Int32)).toNatClampNeg (1 : Int32)) ((5 : Int32)).toNatClampNeg (1 : Int32))) else
  (if p1 < (7 : Int32) then ((own_upd (own_upd (own_upd (own_upd (own_upd (own_upd F1 ((1 : Int32)).toNatClampNeg (1 : Int32)) ((2 : Int32)).toNatClampNeg (1 : Int32)) ((3 : Int32)).toNatClampNeg (1 : Int32)) ((4 : Int32)).toNatClampNeg (1 : Int32)) ((5 : Int32)).toNatClampNeg (1 : Int32)) ((6 : Int32)).toNatClampNeg (1 : Int32))) else
  (if p1 < (8 : Int32) then ((own_upd (own_upd (own_upd (own_upd (own_upd (own_upd (own_upd F1 ((1 : Int32)).toNatClampNeg (1 : Int32)) ((2 : Int32)).toNatClampNeg (1 : Int32)) ((3 : Int32)).toNatClampNeg (1 : Int32)) ((4 : Int32)).toNatClampNeg (1 : Int32)) ((5 : Int32)).toNatClampNeg (1 : Int32)) ((6 : Int32)).toNatClampNeg (1 : Int32)) ((7 : Int32)).toNatClampNeg (1 : Int32))) else
  (if p1 < (9 : Int32) then ((own_upd (own_upd (own_upd (own_upd (own_upd (own_upd (own_upd (own_upd F1 ((1 : Int32)).toNatClampNeg (1 : Int32)) ((2 : Int32)).toNatClampNeg (1 : Int32)) ((3 : Int32)).toNatClampNeg (1 : Int32)) ((4 : Int32)).toNatClampNeg (1 : Int32)) ((5 : Int32)).toNatClampNeg (1 : Int32)) ((6 : Int32)).toNatClampNeg (1 : Int32)) ((7 : Int32)).toNatClampNeg (1 : Int32)) ((8 : Int32)).toNatClampNeg (1 : Int32))) else
  (if p1 < (10 : Int32) then ((own_upd (own_upd (own_upd (own_upd (own_upd (own_upd (own_upd (own_upd (own_upd F1 ((1 : Int32)).toNatClampNeg (1 : Int32)) ((2 : Int32)).toNatClampNeg (1 : Int32)) ((3 : Int32)).toNatClampNeg (1 : Int32)) ((4 : Int32)).toNatClampNeg (1 : Int32)) ((5 : Int32)).toNatClampNeg (1 : Int32)) ((6 : Int32)).toNatClampNeg (1 : Int32)) ((7 : Int32)).toNatClampNeg (1 : Int32)) ((8 : Int32)).toNatClampNeg (1 : Int32)) ((9 : Int32)).toNatClampNeg (1 : Int32))) else
  (if p1 < (11 : Int32) then ((own_upd (own_upd (own_upd (own_upd (own_upd (own_upd (own_upd (own_upd (own_upd (own_upd F1 ((1 : Int32)).toNatClampNeg (1 : Int32)) ((2 : Int32)).toNatClampNeg (1 : Int32)) ((3 : Int32)).toNatClampNeg (1 : Int32)) ((4 : Int32)).toNatClampNeg (1 : Int32)) ((5 : Int32)).toNatClampNeg (1 : Int32)) ((6 : Int32)).toNatClampNeg (1 : Int32)) ((7 : Int32)).toNatClampNeg (1 : Int32)) ((8 : Int32)).toNatClampNeg (1 : Int32)) ((9 : Int32)).toNatClampNeg (1 : Int32)) ((10 : Int32)).toNatClampNeg (1 : Int32))) else
  (if p1 < (12 : Int32) then ((own_upd (own_upd (own_upd (own_upd (own_upd (own_upd (own_upd (own_upd (own_upd (own_upd (own_upd F1 ((1 : Int32)).toNatClampNeg (1 : Int32)) ((2 : Int32)).toNatClampNeg (1 : Int32)) ((3 : Int32)).toNatClampNeg (1 : Int32)) ((4 : Int32)).toNatClampNeg (1 : Int32)) ((5 : Int32)).toNatClampNeg (1 : Int32)) ((6 : Int32)).toNatClampNeg (1 : Int32)) ((7 : Int32)).toNatClampNeg (1 : Int32)) ((8 : Int32)).toNatClampNeg (1 : Int32)) ((9 : Int32)).toNatClampNeg (1 : Int32)) ((10 : Int32)).toNatClampNeg (1 : Int32)) ((11 : Int32)).toNatClampNeg (1 : Int32))) else
  (if p1 < (13 : Int32) then ((own_upd (own_upd (own_upd (own_upd (own_upd (own_upd (own_upd (own_upd (own_upd (own_upd (own_upd (own_upd F1 ((1 : Int32)).toNatClampNeg (1 : Int32)) ((2 : Int32)).toNatClampNeg (1 : Int32)) ((3 : Int32)).toNatClampNeg (1 : Int32)) ((4 : Int32)).toNatClampNeg (1 : Int32)) ((5 : Int32)).toNatClampNeg (1 : Int32)) ((6 : Int32)).toNatClampNeg (1 : Int32)) ((7 : Int32)).toNatClampNeg (1 : Int32)) ((8 : Int32)).toNatClampNeg (1 : Int32)) ((9 : Int32)).toNatClampNeg (1 : Int32)) ((10 : Int32)).toNatClampNeg (1 : Int32)) ((11 : Int32)).toNatClampNeg (1 : Int32)) ((12 : Int32)).toNatClampNeg (1 : Int32))) else
  (if p1 < (14 : Int32) then ((own_upd (own_upd (own_upd (own_upd (own_upd (own_upd (own_upd (own_upd (own_upd (own_upd (own_upd (own_upd (own_upd F1 ((1 : Int32)).toNatClampNeg (1 : Int32)) ((2 : Int32)).toNatClampNeg (1 : Int32)) ((3 : Int32)).toNatClampNeg (1 : Int32)) ((4 : Int32)).toNatClampNeg (1 : Int32)) ((5 : Int32)).toNatClampNeg (1 : Int32)) ((6 : Int32)).toNatClampNeg (1 : Int32)) ((7 : Int32)).toNatClampNeg (1 : Int32)) ((8 : Int32)).toNatClampNeg (1 : Int32)) ((9 : Int32)).toNatClampNeg (1 : Int32)) ((10 : Int32)).toNatClampNeg (1 : Int32)) ((11 : Int32)).toNatClampNeg (1 : Int32)) ((12 : Int32)).toNatClampNeg (1 : Int32)) ((13 : Int32)).toNatClampNeg (1 : Int32))) else
  (if p1 < (15 : Int32) then ((own_upd (own_upd (own_upd (own_upd (own_upd (own_upd (own_upd (own_upd (own_upd (own_upd (own_upd (own_upd (own_upd (own_upd F1 ((1 : Int32)).toNatClampNeg (1 : Int32)) ((2 : Int32)).toNatClampNeg (1 : Int32)) ((3 : Int32)).toNatClampNeg (1 : Int32)) ((4 : Int32)).toNatClampNeg (1 : Int32)) ((5 : Int32)).toNatClampNeg (1 : Int32)) ((6 : Int32)).toNatClampNeg (1 : Int32)) ((7 : Int32)).toNatClampNeg (1 : Int32)) ((8 : Int32)).toNatClampNeg (1 : Int32)) ((9 : Int32)).toNatClampNeg (1 : Int32)) ((10 : Int32)).toNatClampNeg (1 : Int32)) ((11 : Int32)).toNatClampNeg (1 : Int32)) ((12 : Int32)).toNatClampNeg (1 : Int32)) ((13 : Int32)).toNatClampNeg (1 : Int32)) ((14 : Int32)).toNatClampNeg (1 : Int32))) else
  (if p1 < (16 : Int32) then ((own_upd (own_upd (own_upd (own_upd (own_upd (own_upd (own_upd (own_upd (own_upd (own_upd (own_upd (own_upd (own_upd (own_upd (own_upd F1 ((1 : Int32)).toNatClampNeg (1 : Int32)) ((2 : Int32)).toNatClampNeg (1 : Int32)) ((3 : Int32)).toNatClampNeg (1 : Int32)) ((4 : Int32)).toNatClampNeg (1 : Int32)) ((5 : Int32)).toNatClampNeg (1 : Int32)) ((6 : Int32)).toNatClampNeg (1 : Int32)) ((7 : Int32)).toNatClampNeg (1 : Int32)) ((8 : Int32)).toNatClampNeg (1 : Int32)) ((9 : Int32)).toNatClampNeg (1 : Int32)) ((10 : Int32)).toNatClampNeg (1 : Int32)) ((11 : Int32)).toNatClampNeg (1 : Int32)) ((12 : Int32)).toNatClampNeg (1 : Int32)) ((13 : Int32)).toNatClampNeg (1 : Int32)) ((14 : Int32)).toNatClampNeg (1 : Int32)) ((15 : Int32)).toNatClampNeg (1 : Int32))) else
  (if p1 < (17 : Int32) then ((own_upd (own_upd (own_upd (own_upd (own_upd (own_upd (own_upd (own_upd (own_upd (own_upd (own_upd (own_upd (own_upd (own_upd (own_upd (own_upd F1 ((1 : Int32)).toNatClampNeg (1 : Int32)) ((2 : Int32)).toNatClampNeg (1 : Int32)) ((3 : Int32)).toNatClampNeg (1 : Int32)) ((4 : Int32)).toNatClampNeg (1 : Int32)) ((5 : Int32)).toNatClampNeg (1 : Int32)) ((6 : Int32)).toNatClampNeg (1 : Int32)) ((7 : Int32)).toNatClampNeg (1 : Int32)) ((8 : Int32)).toNatClampNeg (1 : Int32)) ((9 : Int32)).toNatClampNeg (1 : Int32)) ((10 : Int32)).toNatClampNeg (1 : Int32)) ((11 : Int32)).toNatClampNeg (1 : Int32)) ((12 : Int32)).toNatClampNeg (1 : Int32)) ((13 : Int32)).toNatClampNeg (1 : Int32)) ((14 : Int32)).toNatClampNeg (1 : Int32)) ((15 : Int32)).toNatClampNeg (1 : Int32)) ((16 : Int32)).toNatClampNeg (1 : Int32))) else
  (if p1 < (18 : Int32) then ((own_upd (own_upd (own_upd (own_upd (own_upd (own_upd (own_upd (own_upd (own_upd (own_upd (own_upd (own_upd (own_upd (own_upd (own_upd (own_upd (own_upd F1 ((1 : Int32)).toNatClampNeg (1 : Int32)) ((2 : Int32)).toNatClampNeg (1 : Int32)) ((3 : Int32)).toNatClampNeg (1 : Int32)) ((4 : Int32)).toNatClampNeg (1 : Int32)) ((5 : Int32)).toNatClampNeg (1 : Int32)) ((6 : Int32)).toNatClampNeg (1 : Int32)) ((7 : Int32)).toNatClampNeg (1 : Int32)) ((8 : Int32)).toNatClampNeg (1 : Int32)) ((9 : Int32)).toNatClampNeg (1 : Int32)) ((10 : Int32)).toNatClampNeg (1 : Int32)) ((11 : Int32)).toNatClampNeg (1 : Int32)) ((12 : Int32)).toNatClampNeg (1 : Int32)) ((13 : Int32)).toNatClampNeg (1 : Int32)) ((14 : Int32)).toNatClampNeg (1 : Int32)) ((15 : Int32)).toNatClampNeg (1 : Int32)) ((16 : Int32)).toNatClampNeg (1 : Int32)) ((17 : Int32)).toNatClampNeg (1 : Int32))) else
  (if p1 < (19 : Int32) then ((own_upd (own_upd (own_upd (own_upd (own_upd (own_upd (own_upd (own_upd (own_upd (own_upd (own_upd (own_upd (own_upd (own_upd (own_upd (own_upd (own_upd (own_upd F1 ((1 : Int32)).toNatClampNeg (1 : Int32)) ((2 : Int32)).toNatClampNeg (1 : Int32)) ((3 : Int32)).toNatClampNeg (1 : Int32)) ((4 : Int32)).toNatClampNeg (1 : Int32)) ((5 : Int32)).toNatClampNeg (1 : Int32)) ((6 : Int32)).toNatClampNeg (1 : Int32)) ((7 : Int32)).toNatClampNeg (1 : Int32)) ((8 : Int32)).toNatClampNeg (1 : Int32)) ((9 : Int32)).toNatClampNeg (1 : Int32)) ((10 : Int32)).toNatClampNeg (1 : Int32)) ((11 : Int32)).toNatClampNeg (1 : Int32)) ((12 : Int32)).toNatClampNeg (1 : Int32)) ((13 : Int32)).toNatClampNeg (1 : Int32)) ((14 : Int32)).toNatClampNeg (1 : Int32)) ((15 : Int32)).toNatClampNeg (1 : Int32)) ((16 : Int32)).toNatClampNeg (1 : Int32)) ((17 : Int32)).toNatClampNeg (1 : Int32)) ((18 : Int32)).toNatClampNeg (1 : Int32))) else
  ((own_upd (own_upd (own_upd (own_upd (own_upd (own_upd (own_upd (own_upd (own_upd (own_upd (own_upd (own_upd (own_upd (own_upd (own_upd (own_upd (own_upd (own_upd (own_upd F1 ((1 : Int32)).toNatClampNeg (1 : Int32)) ((2 : Int32)).toNatClampNeg (1 : Int32)) ((3 : Int32)).toNatClampNeg (1 : Int32)) ((4 : Int32)).toNatClampNeg (1 : Int32)) ((5 : Int32)).toNatClampNeg (1 : Int32)) ((6 : Int32)).toNatClampNeg (1 : Int32)) ((7 : Int32)).toNatClampNeg (1 : Int32)) ((8 : Int32)).toNatClampNeg (1 : Int32)) ((9 : Int32)).toNatClampNeg (1 : Int32)) ((10 : Int32)).toNatClampNeg (1 : Int32)) ((11 : Int32)).toNatClampNeg (1 : Int32)) ((12 : Int32)).toNatClampNeg (1 : Int32)) ((13 : Int32)).toNatClampNeg (1 : Int32)) ((14 : Int32)).toNatClampNeg (1 : Int32)) ((15 : Int32)).toNatClampNeg (1 : Int32)) ((16 : Int32)).toNatClampNeg (1 : Int32)) ((17 : Int32)).toNatClampNeg (1 : Int32)) ((18 : Int32)).toNatClampNeg (1 : Int32)) ((19 : Int32)).toNatClampNeg (1 : Int32)))))))))))))))))))))
def Q3 (Z : State) (o0 : Addr) (p1 : Int32) (r1 : Addr) (F1 : Nat → Int32) (h0 : Heap) (n0 : Nat) (v : Option Value) (h : Heap) (L : List Loc) : Prop := v = none ∧ Fr n0 L ∧ Keep h0 h [r1] ∧ own_AI Z h r1 .boolean (20 : Int32) (f3_r1_a p1 F1)
set_option maxRecDepth 65536 in
set_option maxHeartbeats 40000000 in
theorem rm3 (l : Launch) (Z : State) (a0 : Array Value) (hw : ∀ d ∈ tables_1, d.before a0 Z = true) (ws : List Jvm.Cond) (o0 : Addr) (p1 : Int32) (r1 : Addr) (F1 : Nat → Int32) (h0 : Heap) (n0 : Nat) (Z0 : n0 ≤ h0.size) (E_o0 : Exa Z h0 o0 "com/example/cardhost/cardhost/LogicalChannels") (F_open_o0 : Fld Z h0 o0 "com/example/cardhost/cardhost/LogicalChannels" "open" "[Z" (.ref r1)) (V_r1 : own_AI Z h0 r1 .boolean (20 : Int32) F1) (g_r1 : n0 ≤ r1) (ne_o0_r1 : o0 ≠ r1) :
    MetFree l (⟨"com/example/cardhost/cardhost/LogicalChannelsLowestClosedPinLaw", "openPrefix", "(Lcom/example/cardhost/cardhost/LogicalChannels;I)V"⟩ : MethodName) (head1 (Jvm.Cond.code (⟨"com/example/cardhost/cardhost/LogicalChannelsLowestClosedPinLaw", "openPrefix", "(Lcom/example/cardhost/cardhost/LogicalChannels;I)V"⟩ : MethodName) method_3_code 2 none :: ws) ({ frames := 1, cells := 0, slots := 0, locals := 13 } : Room)) (fun a U => a = #[(.ref o0), (.int p1)] ∧ Z.Warmed39 U.vm ∧ U.heap = h0) (fun _ _ _ _ _ => True) (fun _ U o U' => ∃ v L, o = .returned v ∧ Q3 Z o0 p1 r1 F1 h0 n0 v U'.heap L ∧ FrameEnd U o U' L ({ frames := 1, cells := 0, slots := 0, locals := 13 } : Room).cells ({ frames := 1, cells := 0, slots := 0, locals := 13 } : Room).slots) := by
  refine MetFree.of_bodySF (plainFor_of_name pn_3) hisR ?_
  intro p e s m args below meth c s₁ Bd hml0 hP hK
  obtain ⟨rfl, hZ, hh⟩ := hP
  have hx := Bd.exec
  have hby := Bd.bytes
  have hml : c.maxLocals = 2 := hml0
  have hown : s.vm.findClass "com/example/cardhost/cardhost/LogicalChannelsLowestClosedPinLaw" = some m.cls := findClass_of_methodNamed Bd.named
  have hnm := (name_of_methodNamed Bd.named Bd.method).1
  have X0 : Stand p l e ({ frames := 1, cells := 0, slots := 0, locals := 13 } : Room) s m #[(.ref o0), (.int p1)] below meth c s₁ [] 0 0 := Stand.of_body Bd
  have e0 : s₁.heap = h0 := by rw [← hh, Bd.state]; rfl
  have N0 := Fr.nil n0
  have pre0 : ∀ t, Steps p.tables e below (s₁.setTop (mkF m 0 #[.val (.ref o0), .val (.int p1)] [])) t → Steps p.tables e below (s₁.setTop (entryFrame m #[(.ref o0), (.int p1)] 2)) t := fun t k => castTop (ef_3 m o0 p1) k
  have pre1 : ∀ t, Steps p.tables e below (s₁.setTop (mkF m 2 #[.val (.ref o0), .val (.int p1)] [(.int (1 : Int32)), (.int p1)])) t → Steps p.tables e below (s₁.setTop (entryFrame m #[(.ref o0), (.int p1)] 2)) t := fun t kt => pre0 t (by
      show Steps p.tables e below (s₁.setTop (mkF m 0 #[.val (.ref o0), .val (.int p1)] [])) _
      refine XS.iloadN X0.here hx rfl (hb hby d3_0) rfl ?_
      show Steps p.tables e below (s₁.setTop (mkF m 1 #[.val (.ref o0), .val (.int p1)] [(.int p1)])) _
      refine XS.iconst X0.here hx rfl (hb hby d3_1) ?_
      exact kt)
  by_cases hc2_2 : p1 < (1 : Int32)
  · have pre3 : ∀ t, Steps p.tables e below (s₁.setTop (mkF m 12 #[.val (.ref o0), .val (.int p1)] [(.int (2 : Int32)), (.int p1)])) t → Steps p.tables e below (s₁.setTop (entryFrame m #[(.ref o0), (.int p1)] 2)) t := fun t kt => pre1 t (by
        show Steps p.tables e below (s₁.setTop (mkF m 2 #[.val (.ref o0), .val (.int p1)] [(.int (1 : Int32)), (.int p1)])) _
        refine XS.icmpYes X0.here hx rfl (pc0 := 2) (pc' := 10) rfl (hb hby d3_2) rfl (tlt hc2_2).1 (by decide) (by decide) ?_
        show Steps p.tables e below (s₁.setTop (mkF m 10 #[.val (.ref o0), .val (.int p1)] [])) _
        refine XS.iloadN X0.here hx rfl (hb hby d3_10) rfl ?_
        show Steps p.tables e below (s₁.setTop (mkF m 11 #[.val (.ref o0), .val (.int p1)] [(.int p1)])) _
        refine XS.iconst X0.here hx rfl (hb hby d3_11) ?_
        exact kt)
    have hd12_4 : p1 < (2 : Int32) := Int32.lt_of_lt_of_le hc2_2 (by decide)
    have pre5 : ∀ t, Steps p.tables e below (s₁.setTop (mkF m 22 #[.val (.ref o0), .val (.int p1)] [(.int (3 : Int32)), (.int p1)])) t → Steps p.tables e below (s₁.setTop (entryFrame m #[(.ref o0), (.int p1)] 2)) t := fun t kt => pre3 t (by
        show Steps p.tables e below (s₁.setTop (mkF m 12 #[.val (.ref o0), .val (.int p1)] [(.int (2 : Int32)), (.int p1)])) _
        refine XS.icmpYes X0.here hx rfl (pc0 := 12) (pc' := 20) rfl (hb hby d3_12) rfl (tlt hd12_4).1 (by decide) (by decide) ?_
        show Steps p.tables e below (s₁.setTop (mkF m 20 #[.val (.ref o0), .val (.int p1)] [])) _
        refine XS.iloadN X0.here hx rfl (hb hby d3_20) rfl ?_
        show Steps p.tables e below (s₁.setTop (mkF m 21 #[.val (.ref o0), .val (.int p1)] [(.int p1)])) _
        refine XS.iconst X0.here hx rfl (hb hby d3_21) ?_
        exact kt)
    have hd22_6 : p1 < (3 : Int32) := Int32.lt_of_lt_of_le hc2_2 (by decide)
    have pre7 : ∀ t, Steps p.tables e below (s₁.setTop (mkF m 32 #[.val (.ref o0), .val (.int p1)] [(.int (4 : Int32)), (.int p1)])) t → Steps p.tables e below (s₁.setTop (entryFrame m #[(.ref o0), (.int p1)] 2)) t := fun t kt => pre5 t (by
        show Steps p.tables e below (s₁.setTop (mkF m 22 #[.val (.ref o0), .val (.int p1)] [(.int (3 : Int32)), (.int p1)])) _
        refine XS.icmpYes X0.here hx rfl (pc0 := 22) (pc' := 30) rfl (hb hby d3_22) rfl (tlt hd22_6).1 (by decide) (by decide) ?_
        show Steps p.tables e below (s₁.setTop (mkF m 30 #[.val (.ref o0), .val (.int p1)] [])) _
        refine XS.iloadN X0.here hx rfl (hb hby d3_30) rfl ?_
        show Steps p.tables e below (s₁.setTop (mkF m 31 #[.val (.ref o0), .val (.int p1)] [(.int p1)])) _
        refine XS.iconst X0.here hx rfl (hb hby d3_31) ?_
        exact kt)
    have hd32_8 : p1 < (4 : Int32) := Int32.lt_of_lt_of_le hc2_2 (by decide)
    have pre9 : ∀ t, Steps p.tables e below (s₁.setTop (mkF m 42 #[.val (.ref o0), .val (.int p1)] [(.int (5 : Int32)), (.int p1)])) t → Steps p.tables e below (s₁.setTop (entryFrame m #[(.ref o0), (.int p1)] 2)) t := fun t kt => pre7 t (by
        show Steps p.tables e below (s₁.setTop (mkF m 32 #[.val (.ref o0), .val (.int p1)] [(.int (4 : Int32)), (.int p1)])) _
        refine XS.icmpYes X0.here hx rfl (pc0 := 32) (pc' := 40) rfl (hb hby d3_32) rfl (tlt hd32_8).1 (by decide) (by decide) ?_
        show Steps p.tables e below (s₁.setTop (mkF m 40 #[.val (.ref o0), .val (.int p1)] [])) _
        refine XS.iloadN X0.here hx rfl (hb hby d3_40) rfl ?_
        show Steps p.tables e below (s₁.setTop (mkF m 41 #[.val (.ref o0), .val (.int p1)] [(.int p1)])) _
        refine XS.iconst X0.here hx rfl (hb hby d3_41) ?_
        exact kt)
    have hd42_10 : p1 < (5 : Int32) := Int32.lt_of_lt_of_le hc2_2 (by decide)
    have pre11 : ∀ t, Steps p.tables e below (s₁.setTop (mkF m 53 #[.val (.ref o0), .val (.int p1)] [(.int (6 : Int32)), (.int p1)])) t → Steps p.tables e below (s₁.setTop (entryFrame m #[(.ref o0), (.int p1)] 2)) t := fun t kt => pre9 t (by
        show Steps p.tables e below (s₁.setTop (mkF m 42 #[.val (.ref o0), .val (.int p1)] [(.int (5 : Int32)), (.int p1)])) _
        refine XS.icmpYes X0.here hx rfl (pc0 := 42) (pc' := 50) rfl (hb hby d3_42) rfl (tlt hd42_10).1 (by decide) (by decide) ?_
        show Steps p.tables e below (s₁.setTop (mkF m 50 #[.val (.ref o0), .val (.int p1)] [])) _
        refine XS.iloadN X0.here hx rfl (hb hby d3_50) rfl ?_
        show Steps p.tables e below (s₁.setTop (mkF m 51 #[.val (.ref o0), .val (.int p1)] [(.int p1)])) _
        refine XS.bipush X0.here hx rfl (hb hby d3_51) ?_
        exact kt)
    have hd53_12 : p1 < (6 : Int32) := Int32.lt_of_lt_of_le hc2_2 (by decide)
    have pre13 : ∀ t, Steps p.tables e below (s₁.setTop (mkF m 65 #[.val (.ref o0), .val (.int p1)] [(.int (7 : Int32)), (.int p1)])) t → Steps p.tables e below (s₁.setTop (entryFrame m #[(.ref o0), (.int p1)] 2)) t := fun t kt => pre11 t (by
        show Steps p.tables e below (s₁.setTop (mkF m 53 #[.val (.ref o0), .val (.int p1)] [(.int (6 : Int32)), (.int p1)])) _
        refine XS.icmpYes X0.here hx rfl (pc0 := 53) (pc' := 62) rfl (hb hby d3_53) rfl (tlt hd53_12).1 (by decide) (by decide) ?_
        show Steps p.tables e below (s₁.setTop (mkF m 62 #[.val (.ref o0), .val (.int p1)] [])) _
        refine XS.iloadN X0.here hx rfl (hb hby d3_62) rfl ?_
        show Steps p.tables e below (s₁.setTop (mkF m 63 #[.val (.ref o0), .val (.int p1)] [(.int p1)])) _
        refine XS.bipush X0.here hx rfl (hb hby d3_63) ?_
        exact kt)
    have hd65_14 : p1 < (7 : Int32) := Int32.lt_of_lt_of_le hc2_2 (by decide)
    have pre15 : ∀ t, Steps p.tables e below (s₁.setTop (mkF m 77 #[.val (.ref o0), .val (.int p1)] [(.int (8 : Int32)), (.int p1)])) t → Steps p.tables e below (s₁.setTop (entryFrame m #[(.ref o0), (.int p1)] 2)) t := fun t kt => pre13 t (by
        show Steps p.tables e below (s₁.setTop (mkF m 65 #[.val (.ref o0), .val (.int p1)] [(.int (7 : Int32)), (.int p1)])) _
        refine XS.icmpYes X0.here hx rfl (pc0 := 65) (pc' := 74) rfl (hb hby d3_65) rfl (tlt hd65_14).1 (by decide) (by decide) ?_
        show Steps p.tables e below (s₁.setTop (mkF m 74 #[.val (.ref o0), .val (.int p1)] [])) _
        refine XS.iloadN X0.here hx rfl (hb hby d3_74) rfl ?_
        show Steps p.tables e below (s₁.setTop (mkF m 75 #[.val (.ref o0), .val (.int p1)] [(.int p1)])) _
        refine XS.bipush X0.here hx rfl (hb hby d3_75) ?_
        exact kt)
    have hd77_16 : p1 < (8 : Int32) := Int32.lt_of_lt_of_le hc2_2 (by decide)
    have pre17 : ∀ t, Steps p.tables e below (s₁.setTop (mkF m 89 #[.val (.ref o0), .val (.int p1)] [(.int (9 : Int32)), (.int p1)])) t → Steps p.tables e below (s₁.setTop (entryFrame m #[(.ref o0), (.int p1)] 2)) t := fun t kt => pre15 t (by
        show Steps p.tables e below (s₁.setTop (mkF m 77 #[.val (.ref o0), .val (.int p1)] [(.int (8 : Int32)), (.int p1)])) _
        refine XS.icmpYes X0.here hx rfl (pc0 := 77) (pc' := 86) rfl (hb hby d3_77) rfl (tlt hd77_16).1 (by decide) (by decide) ?_
        show Steps p.tables e below (s₁.setTop (mkF m 86 #[.val (.ref o0), .val (.int p1)] [])) _
        refine XS.iloadN X0.here hx rfl (hb hby d3_86) rfl ?_
        show Steps p.tables e below (s₁.setTop (mkF m 87 #[.val (.ref o0), .val (.int p1)] [(.int p1)])) _
        refine XS.bipush X0.here hx rfl (hb hby d3_87) ?_
        exact kt)
    have hd89_18 : p1 < (9 : Int32) := Int32.lt_of_lt_of_le hc2_2 (by decide)
    have pre19 : ∀ t, Steps p.tables e below (s₁.setTop (mkF m 101 #[.val (.ref o0), .val (.int p1)] [(.int (10 : Int32)), (.int p1)])) t → Steps p.tables e below (s₁.setTop (entryFrame m #[(.ref o0), (.int p1)] 2)) t := fun t kt => pre17 t (by
        show Steps p.tables e below (s₁.setTop (mkF m 89 #[.val (.ref o0), .val (.int p1)] [(.int (9 : Int32)), (.int p1)])) _
        refine XS.icmpYes X0.here hx rfl (pc0 := 89) (pc' := 98) rfl (hb hby d3_89) rfl (tlt hd89_18).1 (by decide) (by decide) ?_
        show Steps p.tables e below (s₁.setTop (mkF m 98 #[.val (.ref o0), .val (.int p1)] [])) _
        refine XS.iloadN X0.here hx rfl (hb hby d3_98) rfl ?_
        show Steps p.tables e below (s₁.setTop (mkF m 99 #[.val (.ref o0), .val (.int p1)] [(.int p1)])) _
        refine XS.bipush X0.here hx rfl (hb hby d3_99) ?_
        exact kt)
    have hd101_20 : p1 < (10 : Int32) := Int32.lt_of_lt_of_le hc2_2 (by decide)
    have pre21 : ∀ t, Steps p.tables e below (s₁.setTop (mkF m 113 #[.val (.ref o0), .val (.int p1)] [(.int (11 : Int32)), (.int p1)])) t → Steps p.tables e below (s₁.setTop (entryFrame m #[(.ref o0), (.int p1)] 2)) t := fun t kt => pre19 t (by
        show Steps p.tables e below (s₁.setTop (mkF m 101 #[.val (.ref o0), .val (.int p1)] [(.int (10 : Int32)), (.int p1)])) _
        refine XS.icmpYes X0.here hx rfl (pc0 := 101) (pc' := 110) rfl (hb hby d3_101) rfl (tlt hd101_20).1 (by decide) (by decide) ?_
        show Steps p.tables e below (s₁.setTop (mkF m 110 #[.val (.ref o0), .val (.int p1)] [])) _
        refine XS.iloadN X0.here hx rfl (hb hby d3_110) rfl ?_
        show Steps p.tables e below (s₁.setTop (mkF m 111 #[.val (.ref o0), .val (.int p1)] [(.int p1)])) _
        refine XS.bipush X0.here hx rfl (hb hby d3_111) ?_
        exact kt)
    have hd113_22 : p1 < (11 : Int32) := Int32.lt_of_lt_of_le hc2_2 (by decide)
    have pre23 : ∀ t, Steps p.tables e below (s₁.setTop (mkF m 125 #[.val (.ref o0), .val (.int p1)] [(.int (12 : Int32)), (.int p1)])) t → Steps p.tables e below (s₁.setTop (entryFrame m #[(.ref o0), (.int p1)] 2)) t := fun t kt => pre21 t (by
        show Steps p.tables e below (s₁.setTop (mkF m 113 #[.val (.ref o0), .val (.int p1)] [(.int (11 : Int32)), (.int p1)])) _
        refine XS.icmpYes X0.here hx rfl (pc0 := 113) (pc' := 122) rfl (hb hby d3_113) rfl (tlt hd113_22).1 (by decide) (by decide) ?_
        show Steps p.tables e below (s₁.setTop (mkF m 122 #[.val (.ref o0), .val (.int p1)] [])) _
        refine XS.iloadN X0.here hx rfl (hb hby d3_122) rfl ?_
        show Steps p.tables e below (s₁.setTop (mkF m 123 #[.val (.ref o0), .val (.int p1)] [(.int p1)])) _
        refine XS.bipush X0.here hx rfl (hb hby d3_123) ?_
        exact kt)
    have hd125_24 : p1 < (12 : Int32) := Int32.lt_of_lt_of_le hc2_2 (by decide)
    have pre25 : ∀ t, Steps p.tables e below (s₁.setTop (mkF m 137 #[.val (.ref o0), .val (.int p1)] [(.int (13 : Int32)), (.int p1)])) t → Steps p.tables e below (s₁.setTop (entryFrame m #[(.ref o0), (.int p1)] 2)) t := fun t kt => pre23 t (by
        show Steps p.tables e below (s₁.setTop (mkF m 125 #[.val (.ref o0), .val (.int p1)] [(.int (12 : Int32)), (.int p1)])) _
        refine XS.icmpYes X0.here hx rfl (pc0 := 125) (pc' := 134) rfl (hb hby d3_125) rfl (tlt hd125_24).1 (by decide) (by decide) ?_
        show Steps p.tables e below (s₁.setTop (mkF m 134 #[.val (.ref o0), .val (.int p1)] [])) _
        refine XS.iloadN X0.here hx rfl (hb hby d3_134) rfl ?_
        show Steps p.tables e below (s₁.setTop (mkF m 135 #[.val (.ref o0), .val (.int p1)] [(.int p1)])) _
        refine XS.bipush X0.here hx rfl (hb hby d3_135) ?_
        exact kt)
    have hd137_26 : p1 < (13 : Int32) := Int32.lt_of_lt_of_le hc2_2 (by decide)
    have pre27 : ∀ t, Steps p.tables e below (s₁.setTop (mkF m 149 #[.val (.ref o0), .val (.int p1)] [(.int (14 : Int32)), (.int p1)])) t → Steps p.tables e below (s₁.setTop (entryFrame m #[(.ref o0), (.int p1)] 2)) t := fun t kt => pre25 t (by
        show Steps p.tables e below (s₁.setTop (mkF m 137 #[.val (.ref o0), .val (.int p1)] [(.int (13 : Int32)), (.int p1)])) _
        refine XS.icmpYes X0.here hx rfl (pc0 := 137) (pc' := 146) rfl (hb hby d3_137) rfl (tlt hd137_26).1 (by decide) (by decide) ?_
        show Steps p.tables e below (s₁.setTop (mkF m 146 #[.val (.ref o0), .val (.int p1)] [])) _
        refine XS.iloadN X0.here hx rfl (hb hby d3_146) rfl ?_
        show Steps p.tables e below (s₁.setTop (mkF m 147 #[.val (.ref o0), .val (.int p1)] [(.int p1)])) _
        refine XS.bipush X0.here hx rfl (hb hby d3_147) ?_
        exact kt)
    have hd149_28 : p1 < (14 : Int32) := Int32.lt_of_lt_of_le hc2_2 (by decide)
    have pre29 : ∀ t, Steps p.tables e below (s₁.setTop (mkF m 161 #[.val (.ref o0), .val (.int p1)] [(.int (15 : Int32)), (.int p1)])) t → Steps p.tables e below (s₁.setTop (entryFrame m #[(.ref o0), (.int p1)] 2)) t := fun t kt => pre27 t (by
        show Steps p.tables e below (s₁.setTop (mkF m 149 #[.val (.ref o0), .val (.int p1)] [(.int (14 : Int32)), (.int p1)])) _
        refine XS.icmpYes X0.here hx rfl (pc0 := 149) (pc' := 158) rfl (hb hby d3_149) rfl (tlt hd149_28).1 (by decide) (by decide) ?_
        show Steps p.tables e below (s₁.setTop (mkF m 158 #[.val (.ref o0), .val (.int p1)] [])) _
        refine XS.iloadN X0.here hx rfl (hb hby d3_158) rfl ?_
        show Steps p.tables e below (s₁.setTop (mkF m 159 #[.val (.ref o0), .val (.int p1)] [(.int p1)])) _
        refine XS.bipush X0.here hx rfl (hb hby d3_159) ?_
        exact kt)
    have hd161_30 : p1 < (15 : Int32) := Int32.lt_of_lt_of_le hc2_2 (by decide)
    have pre31 : ∀ t, Steps p.tables e below (s₁.setTop (mkF m 173 #[.val (.ref o0), .val (.int p1)] [(.int (16 : Int32)), (.int p1)])) t → Steps p.tables e below (s₁.setTop (entryFrame m #[(.ref o0), (.int p1)] 2)) t := fun t kt => pre29 t (by
        show Steps p.tables e below (s₁.setTop (mkF m 161 #[.val (.ref o0), .val (.int p1)] [(.int (15 : Int32)), (.int p1)])) _
        refine XS.icmpYes X0.here hx rfl (pc0 := 161) (pc' := 170) rfl (hb hby d3_161) rfl (tlt hd161_30).1 (by decide) (by decide) ?_
        show Steps p.tables e below (s₁.setTop (mkF m 170 #[.val (.ref o0), .val (.int p1)] [])) _
        refine XS.iloadN X0.here hx rfl (hb hby d3_170) rfl ?_
        show Steps p.tables e below (s₁.setTop (mkF m 171 #[.val (.ref o0), .val (.int p1)] [(.int p1)])) _
        refine XS.bipush X0.here hx rfl (hb hby d3_171) ?_
        exact kt)
    have hd173_32 : p1 < (16 : Int32) := Int32.lt_of_lt_of_le hc2_2 (by decide)
    have pre33 : ∀ t, Steps p.tables e below (s₁.setTop (mkF m 185 #[.val (.ref o0), .val (.int p1)] [(.int (17 : Int32)), (.int p1)])) t → Steps p.tables e below (s₁.setTop (entryFrame m #[(.ref o0), (.int p1)] 2)) t := fun t kt => pre31 t (by
        show Steps p.tables e below (s₁.setTop (mkF m 173 #[.val (.ref o0), .val (.int p1)] [(.int (16 : Int32)), (.int p1)])) _
        refine XS.icmpYes X0.here hx rfl (pc0 := 173) (pc' := 182) rfl (hb hby d3_173) rfl (tlt hd173_32).1 (by decide) (by decide) ?_
        show Steps p.tables e below (s₁.setTop (mkF m 182 #[.val (.ref o0), .val (.int p1)] [])) _
        refine XS.iloadN X0.here hx rfl (hb hby d3_182) rfl ?_
        show Steps p.tables e below (s₁.setTop (mkF m 183 #[.val (.ref o0), .val (.int p1)] [(.int p1)])) _
        refine XS.bipush X0.here hx rfl (hb hby d3_183) ?_
        exact kt)
    have hd185_34 : p1 < (17 : Int32) := Int32.lt_of_lt_of_le hc2_2 (by decide)
    have pre35 : ∀ t, Steps p.tables e below (s₁.setTop (mkF m 197 #[.val (.ref o0), .val (.int p1)] [(.int (18 : Int32)), (.int p1)])) t → Steps p.tables e below (s₁.setTop (entryFrame m #[(.ref o0), (.int p1)] 2)) t := fun t kt => pre33 t (by
        show Steps p.tables e below (s₁.setTop (mkF m 185 #[.val (.ref o0), .val (.int p1)] [(.int (17 : Int32)), (.int p1)])) _
        refine XS.icmpYes X0.here hx rfl (pc0 := 185) (pc' := 194) rfl (hb hby d3_185) rfl (tlt hd185_34).1 (by decide) (by decide) ?_
        show Steps p.tables e below (s₁.setTop (mkF m 194 #[.val (.ref o0), .val (.int p1)] [])) _
        refine XS.iloadN X0.here hx rfl (hb hby d3_194) rfl ?_
        show Steps p.tables e below (s₁.setTop (mkF m 195 #[.val (.ref o0), .val (.int p1)] [(.int p1)])) _
        refine XS.bipush X0.here hx rfl (hb hby d3_195) ?_
        exact kt)
    have hd197_36 : p1 < (18 : Int32) := Int32.lt_of_lt_of_le hc2_2 (by decide)
    have pre37 : ∀ t, Steps p.tables e below (s₁.setTop (mkF m 209 #[.val (.ref o0), .val (.int p1)] [(.int (19 : Int32)), (.int p1)])) t → Steps p.tables e below (s₁.setTop (entryFrame m #[(.ref o0), (.int p1)] 2)) t := fun t kt => pre35 t (by
        show Steps p.tables e below (s₁.setTop (mkF m 197 #[.val (.ref o0), .val (.int p1)] [(.int (18 : Int32)), (.int p1)])) _
        refine XS.icmpYes X0.here hx rfl (pc0 := 197) (pc' := 206) rfl (hb hby d3_197) rfl (tlt hd197_36).1 (by decide) (by decide) ?_
        show Steps p.tables e below (s₁.setTop (mkF m 206 #[.val (.ref o0), .val (.int p1)] [])) _
        refine XS.iloadN X0.here hx rfl (hb hby d3_206) rfl ?_
        show Steps p.tables e below (s₁.setTop (mkF m 207 #[.val (.ref o0), .val (.int p1)] [(.int p1)])) _
        refine XS.bipush X0.here hx rfl (hb hby d3_207) ?_
        exact kt)
    have hd209_38 : p1 < (19 : Int32) := Int32.lt_of_lt_of_le hc2_2 (by decide)
    obtain ⟨fs, hr, hrun, hended, hW, hsame⟩ := X0.leave (v := none) (fun _ => rfl)
    refine ⟨_, _, pre37 _ ?_, hrun, hended, _, _, rfl, ?_, ⟨_, rfl⟩, hW, hsame.mono (by decide) (by decide)⟩
    · show Steps p.tables e below (s₁.setTop (mkF m 209 #[.val (.ref o0), .val (.int p1)] [(.int (19 : Int32)), (.int p1)])) _
      refine XS.icmpYes X0.here hx rfl (pc0 := 209) (pc' := 218) rfl (hb hby d3_209) rfl (tlt hd209_38).1 (by decide) (by decide) ?_
      show Steps p.tables e below (s₁.setTop (mkF m 218 #[.val (.ref o0), .val (.int p1)] [])) _
      exact X0.returnOut hx Bd.returns (hb hby d3_218) hr
    · show Q3 Z o0 p1 r1 F1 h0 n0 _ s₁.heap _
      rw [e0]
      exact ⟨rfl, N0, (Keep.refl h0 [r1]), (by rw [f3_r1_a, if_pos hc2_2]; exact V_r1)⟩
  · obtain ⟨cq39, kq39, q39a, q39b, q39c⟩ := isOf hZ e0 E_o0
    obtain ⟨_, _, ⟨T39, L39, k39, n39⟩, -, X39, ⟨Lc39, hQ39, l39, y39, z39⟩, st39⟩ := X0.virtualBack hx (y := (⟨"com/example/cardhost/cardhost/LogicalChannels", "open", "(I)V"⟩ : MethodName)) (z := (⟨"com/example/cardhost/cardhost/LogicalChannels", "open", "(I)V"⟩ : MethodName)) hown (mvT hZ (hw _ (List.mem_of_getElem? (i := 23) rfl))) (mvT hZ (hw _ (List.mem_of_getElem? (i := 24) rfl))) (notFace_of_selects (args := #[]) (mvT hZ (hw _ (List.mem_of_getElem? (i := 26) rfl)))) (mvT hZ (hw _ (List.mem_of_getElem? (i := 26) rfl))) (mvT hZ (hw _ (List.mem_of_getElem? (i := 25) rfl))) (by decide) (backOf (W := 0) (rm4 l Z a0 hw [] o0 (1 : Int32) r1 F1 h0 n0 Z0 F_open_o0 V_r1 g_r1 (by decide)) hZ (hw _ (List.mem_of_getElem? (i := 27) rfl)) (hw _ (List.mem_of_getElem? (i := 3) rfl)) (by decide) (by decide)) q39a q39c (g := (mkF m 7 #[.val (.ref o0), .val (.int p1)] [(.int (1 : Int32)), (.ref o0)])) rfl (by rw [hml]; rfl) (Steps.refl _) (argsL := [(.int (1 : Int32))]) (rest := []) (lenOf pd_3_0 rfl) rfl (by show 2 * 0 + _ ≤ _; exact Nat.le_of_eq rfl) (hb hby d3_7) (fun _ _ => ⟨rfl, e0, (by decide : 0 + 0 ≤ _), (by decide : 0 + 0 ≤ _)⟩)
    dsimp only [Pt.U, Pt.locs, Pt.cells, Pt.slots] at X39 l39 y39 z39 st39 hQ39
    subst l39 y39 z39
    obtain ⟨rfl, N39q, K39q, G39_0⟩ := hQ39
    have N39 := Fr.app N0 N39q
    have K40 : Keep h0 T39.heap [r1] := (Keep.refl h0 [r1]).trans K39q (allS (Or.inl (List.mem_of_getElem? (i := 0) rfl)) all0)
    have Z41 : n0 ≤ T39.heap.size := Nat.le_trans Z0 K40.1
    obtain ⟨LS39, X39, N39⟩ : ∃ L, Stand p l e ({ frames := 1, cells := 0, slots := 0, locals := 13 } : Room) s m #[(.ref o0), (.int p1)] below meth c T39 L 0 0 ∧ Fr n0 L := ⟨_, X39, N39⟩
    have pre42 : ∀ t, Steps p.tables e below (T39.setTop (mkF m 12 #[.val (.ref o0), .val (.int p1)] [(.int (2 : Int32)), (.int p1)])) t → Steps p.tables e below (s₁.setTop (entryFrame m #[(.ref o0), (.int p1)] 2)) t := fun t kt => pre1 t (by
        show Steps p.tables e below (s₁.setTop (mkF m 2 #[.val (.ref o0), .val (.int p1)] [(.int (1 : Int32)), (.int p1)])) _
        refine XS.icmpNo X0.here hx rfl (hb hby d3_2) rfl (flt hc2_2).1 ?_
        show Steps p.tables e below (s₁.setTop (mkF m 5 #[.val (.ref o0), .val (.int p1)] [])) _
        refine XS.aloadN X0.here hx rfl (hb hby d3_5) rfl rfl ?_
        show Steps p.tables e below (s₁.setTop (mkF m 6 #[.val (.ref o0), .val (.int p1)] [(.ref o0)])) _
        refine XS.iconst X0.here hx rfl (hb hby d3_6) ?_
        show Steps p.tables e below (s₁.setTop (mkF m 7 #[.val (.ref o0), .val (.int p1)] [(.int (1 : Int32)), (.ref o0)])) _
        refine st39.trans ?_
        show Steps p.tables e below (T39.setTop (mkF m 10 #[.val (.ref o0), .val (.int p1)] [])) _
        refine XS.iloadN X39.here hx rfl (hb hby d3_10) rfl ?_
        show Steps p.tables e below (T39.setTop (mkF m 11 #[.val (.ref o0), .val (.int p1)] [(.int p1)])) _
        refine XS.iconst X39.here hx rfl (hb hby d3_11) ?_
        exact kt)
    by_cases hc12_43 : p1 < (2 : Int32)
    · have pre44 : ∀ t, Steps p.tables e below (T39.setTop (mkF m 22 #[.val (.ref o0), .val (.int p1)] [(.int (3 : Int32)), (.int p1)])) t → Steps p.tables e below (s₁.setTop (entryFrame m #[(.ref o0), (.int p1)] 2)) t := fun t kt => pre42 t (by
          show Steps p.tables e below (T39.setTop (mkF m 12 #[.val (.ref o0), .val (.int p1)] [(.int (2 : Int32)), (.int p1)])) _
          refine XS.icmpYes X39.here hx rfl (pc0 := 12) (pc' := 20) rfl (hb hby d3_12) rfl (tlt hc12_43).1 (by decide) (by decide) ?_
          show Steps p.tables e below (T39.setTop (mkF m 20 #[.val (.ref o0), .val (.int p1)] [])) _
          refine XS.iloadN X39.here hx rfl (hb hby d3_20) rfl ?_
          show Steps p.tables e below (T39.setTop (mkF m 21 #[.val (.ref o0), .val (.int p1)] [(.int p1)])) _
          refine XS.iconst X39.here hx rfl (hb hby d3_21) ?_
          exact kt)
      have hd22_45 : p1 < (3 : Int32) := Int32.lt_of_lt_of_le hc12_43 (by decide)
      have pre46 : ∀ t, Steps p.tables e below (T39.setTop (mkF m 32 #[.val (.ref o0), .val (.int p1)] [(.int (4 : Int32)), (.int p1)])) t → Steps p.tables e below (s₁.setTop (entryFrame m #[(.ref o0), (.int p1)] 2)) t := fun t kt => pre44 t (by
          show Steps p.tables e below (T39.setTop (mkF m 22 #[.val (.ref o0), .val (.int p1)] [(.int (3 : Int32)), (.int p1)])) _
          refine XS.icmpYes X39.here hx rfl (pc0 := 22) (pc' := 30) rfl (hb hby d3_22) rfl (tlt hd22_45).1 (by decide) (by decide) ?_
          show Steps p.tables e below (T39.setTop (mkF m 30 #[.val (.ref o0), .val (.int p1)] [])) _
          refine XS.iloadN X39.here hx rfl (hb hby d3_30) rfl ?_
          show Steps p.tables e below (T39.setTop (mkF m 31 #[.val (.ref o0), .val (.int p1)] [(.int p1)])) _
          refine XS.iconst X39.here hx rfl (hb hby d3_31) ?_
          exact kt)
      have hd32_47 : p1 < (4 : Int32) := Int32.lt_of_lt_of_le hc12_43 (by decide)
      have pre48 : ∀ t, Steps p.tables e below (T39.setTop (mkF m 42 #[.val (.ref o0), .val (.int p1)] [(.int (5 : Int32)), (.int p1)])) t → Steps p.tables e below (s₁.setTop (entryFrame m #[(.ref o0), (.int p1)] 2)) t := fun t kt => pre46 t (by
          show Steps p.tables e below (T39.setTop (mkF m 32 #[.val (.ref o0), .val (.int p1)] [(.int (4 : Int32)), (.int p1)])) _
          refine XS.icmpYes X39.here hx rfl (pc0 := 32) (pc' := 40) rfl (hb hby d3_32) rfl (tlt hd32_47).1 (by decide) (by decide) ?_
          show Steps p.tables e below (T39.setTop (mkF m 40 #[.val (.ref o0), .val (.int p1)] [])) _
          refine XS.iloadN X39.here hx rfl (hb hby d3_40) rfl ?_
          show Steps p.tables e below (T39.setTop (mkF m 41 #[.val (.ref o0), .val (.int p1)] [(.int p1)])) _
          refine XS.iconst X39.here hx rfl (hb hby d3_41) ?_
          exact kt)
      have hd42_49 : p1 < (5 : Int32) := Int32.lt_of_lt_of_le hc12_43 (by decide)
      have pre50 : ∀ t, Steps p.tables e below (T39.setTop (mkF m 53 #[.val (.ref o0), .val (.int p1)] [(.int (6 : Int32)), (.int p1)])) t → Steps p.tables e below (s₁.setTop (entryFrame m #[(.ref o0), (.int p1)] 2)) t := fun t kt => pre48 t (by
          show Steps p.tables e below (T39.setTop (mkF m 42 #[.val (.ref o0), .val (.int p1)] [(.int (5 : Int32)), (.int p1)])) _
          refine XS.icmpYes X39.here hx rfl (pc0 := 42) (pc' := 50) rfl (hb hby d3_42) rfl (tlt hd42_49).1 (by decide) (by decide) ?_
          show Steps p.tables e below (T39.setTop (mkF m 50 #[.val (.ref o0), .val (.int p1)] [])) _
          refine XS.iloadN X39.here hx rfl (hb hby d3_50) rfl ?_
          show Steps p.tables e below (T39.setTop (mkF m 51 #[.val (.ref o0), .val (.int p1)] [(.int p1)])) _
          refine XS.bipush X39.here hx rfl (hb hby d3_51) ?_
          exact kt)
      have hd53_51 : p1 < (6 : Int32) := Int32.lt_of_lt_of_le hc12_43 (by decide)
      have pre52 : ∀ t, Steps p.tables e below (T39.setTop (mkF m 65 #[.val (.ref o0), .val (.int p1)] [(.int (7 : Int32)), (.int p1)])) t → Steps p.tables e below (s₁.setTop (entryFrame m #[(.ref o0), (.int p1)] 2)) t := fun t kt => pre50 t (by
          show Steps p.tables e below (T39.setTop (mkF m 53 #[.val (.ref o0), .val (.int p1)] [(.int (6 : Int32)), (.int p1)])) _
          refine XS.icmpYes X39.here hx rfl (pc0 := 53) (pc' := 62) rfl (hb hby d3_53) rfl (tlt hd53_51).1 (by decide) (by decide) ?_
          show Steps p.tables e below (T39.setTop (mkF m 62 #[.val (.ref o0), .val (.int p1)] [])) _
          refine XS.iloadN X39.here hx rfl (hb hby d3_62) rfl ?_
          show Steps p.tables e below (T39.setTop (mkF m 63 #[.val (.ref o0), .val (.int p1)] [(.int p1)])) _
          refine XS.bipush X39.here hx rfl (hb hby d3_63) ?_
          exact kt)
      have hd65_53 : p1 < (7 : Int32) := Int32.lt_of_lt_of_le hc12_43 (by decide)
      have pre54 : ∀ t, Steps p.tables e below (T39.setTop (mkF m 77 #[.val (.ref o0), .val (.int p1)] [(.int (8 : Int32)), (.int p1)])) t → Steps p.tables e below (s₁.setTop (entryFrame m #[(.ref o0), (.int p1)] 2)) t := fun t kt => pre52 t (by
          show Steps p.tables e below (T39.setTop (mkF m 65 #[.val (.ref o0), .val (.int p1)] [(.int (7 : Int32)), (.int p1)])) _
          refine XS.icmpYes X39.here hx rfl (pc0 := 65) (pc' := 74) rfl (hb hby d3_65) rfl (tlt hd65_53).1 (by decide) (by decide) ?_
          show Steps p.tables e below (T39.setTop (mkF m 74 #[.val (.ref o0), .val (.int p1)] [])) _
          refine XS.iloadN X39.here hx rfl (hb hby d3_74) rfl ?_
          show Steps p.tables e below (T39.setTop (mkF m 75 #[.val (.ref o0), .val (.int p1)] [(.int p1)])) _
          refine XS.bipush X39.here hx rfl (hb hby d3_75) ?_
          exact kt)
      have hd77_55 : p1 < (8 : Int32) := Int32.lt_of_lt_of_le hc12_43 (by decide)
      have pre56 : ∀ t, Steps p.tables e below (T39.setTop (mkF m 89 #[.val (.ref o0), .val (.int p1)] [(.int (9 : Int32)), (.int p1)])) t → Steps p.tables e below (s₁.setTop (entryFrame m #[(.ref o0), (.int p1)] 2)) t := fun t kt => pre54 t (by
          show Steps p.tables e below (T39.setTop (mkF m 77 #[.val (.ref o0), .val (.int p1)] [(.int (8 : Int32)), (.int p1)])) _
          refine XS.icmpYes X39.here hx rfl (pc0 := 77) (pc' := 86) rfl (hb hby d3_77) rfl (tlt hd77_55).1 (by decide) (by decide) ?_
          show Steps p.tables e below (T39.setTop (mkF m 86 #[.val (.ref o0), .val (.int p1)] [])) _
          refine XS.iloadN X39.here hx rfl (hb hby d3_86) rfl ?_
          show Steps p.tables e below (T39.setTop (mkF m 87 #[.val (.ref o0), .val (.int p1)] [(.int p1)])) _
          refine XS.bipush X39.here hx rfl (hb hby d3_87) ?_
          exact kt)
      have hd89_57 : p1 < (9 : Int32) := Int32.lt_of_lt_of_le hc12_43 (by decide)
      have pre58 : ∀ t, Steps p.tables e below (T39.setTop (mkF m 101 #[.val (.ref o0), .val (.int p1)] [(.int (10 : Int32)), (.int p1)])) t → Steps p.tables e below (s₁.setTop (entryFrame m #[(.ref o0), (.int p1)] 2)) t := fun t kt => pre56 t (by
          show Steps p.tables e below (T39.setTop (mkF m 89 #[.val (.ref o0), .val (.int p1)] [(.int (9 : Int32)), (.int p1)])) _
          refine XS.icmpYes X39.here hx rfl (pc0 := 89) (pc' := 98) rfl (hb hby d3_89) rfl (tlt hd89_57).1 (by decide) (by decide) ?_
          show Steps p.tables e below (T39.setTop (mkF m 98 #[.val (.ref o0), .val (.int p1)] [])) _
          refine XS.iloadN X39.here hx rfl (hb hby d3_98) rfl ?_
          show Steps p.tables e below (T39.setTop (mkF m 99 #[.val (.ref o0), .val (.int p1)] [(.int p1)])) _
          refine XS.bipush X39.here hx rfl (hb hby d3_99) ?_
          exact kt)
      have hd101_59 : p1 < (10 : Int32) := Int32.lt_of_lt_of_le hc12_43 (by decide)
      have pre60 : ∀ t, Steps p.tables e below (T39.setTop (mkF m 113 #[.val (.ref o0), .val (.int p1)] [(.int (11 : Int32)), (.int p1)])) t → Steps p.tables e below (s₁.setTop (entryFrame m #[(.ref o0), (.int p1)] 2)) t := fun t kt => pre58 t (by
          show Steps p.tables e below (T39.setTop (mkF m 101 #[.val (.ref o0), .val (.int p1)] [(.int (10 : Int32)), (.int p1)])) _
          refine XS.icmpYes X39.here hx rfl (pc0 := 101) (pc' := 110) rfl (hb hby d3_101) rfl (tlt hd101_59).1 (by decide) (by decide) ?_
          show Steps p.tables e below (T39.setTop (mkF m 110 #[.val (.ref o0), .val (.int p1)] [])) _
          refine XS.iloadN X39.here hx rfl (hb hby d3_110) rfl ?_
          show Steps p.tables e below (T39.setTop (mkF m 111 #[.val (.ref o0), .val (.int p1)] [(.int p1)])) _
          refine XS.bipush X39.here hx rfl (hb hby d3_111) ?_
          exact kt)
      have hd113_61 : p1 < (11 : Int32) := Int32.lt_of_lt_of_le hc12_43 (by decide)
      have pre62 : ∀ t, Steps p.tables e below (T39.setTop (mkF m 125 #[.val (.ref o0), .val (.int p1)] [(.int (12 : Int32)), (.int p1)])) t → Steps p.tables e below (s₁.setTop (entryFrame m #[(.ref o0), (.int p1)] 2)) t := fun t kt => pre60 t (by
          show Steps p.tables e below (T39.setTop (mkF m 113 #[.val (.ref o0), .val (.int p1)] [(.int (11 : Int32)), (.int p1)])) _
          refine XS.icmpYes X39.here hx rfl (pc0 := 113) (pc' := 122) rfl (hb hby d3_113) rfl (tlt hd113_61).1 (by decide) (by decide) ?_
          show Steps p.tables e below (T39.setTop (mkF m 122 #[.val (.ref o0), .val (.int p1)] [])) _
          refine XS.iloadN X39.here hx rfl (hb hby d3_122) rfl ?_
          show Steps p.tables e below (T39.setTop (mkF m 123 #[.val (.ref o0), .val (.int p1)] [(.int p1)])) _
          refine XS.bipush X39.here hx rfl (hb hby d3_123) ?_
          exact kt)
      have hd125_63 : p1 < (12 : Int32) := Int32.lt_of_lt_of_le hc12_43 (by decide)
      have pre64 : ∀ t, Steps p.tables e below (T39.setTop (mkF m 137 #[.val (.ref o0), .val (.int p1)] [(.int (13 : Int32)), (.int p1)])) t → Steps p.tables e below (s₁.setTop (entryFrame m #[(.ref o0), (.int p1)] 2)) t := fun t kt => pre62 t (by
          show Steps p.tables e below (T39.setTop (mkF m 125 #[.val (.ref o0), .val (.int p1)] [(.int (12 : Int32)), (.int p1)])) _
          refine XS.icmpYes X39.here hx rfl (pc0 := 125) (pc' := 134) rfl (hb hby d3_125) rfl (tlt hd125_63).1 (by decide) (by decide) ?_
          show Steps p.tables e below (T39.setTop (mkF m 134 #[.val (.ref o0), .val (.int p1)] [])) _
          refine XS.iloadN X39.here hx rfl (hb hby d3_134) rfl ?_
          show Steps p.tables e below (T39.setTop (mkF m 135 #[.val (.ref o0), .val (.int p1)] [(.int p1)])) _
          refine XS.bipush X39.here hx rfl (hb hby d3_135) ?_
          exact kt)
      have hd137_65 : p1 < (13 : Int32) := Int32.lt_of_lt_of_le hc12_43 (by decide)
      have pre66 : ∀ t, Steps p.tables e below (T39.setTop (mkF m 149 #[.val (.ref o0), .val (.int p1)] [(.int (14 : Int32)), (.int p1)])) t → Steps p.tables e below (s₁.setTop (entryFrame m #[(.ref o0), (.int p1)] 2)) t := fun t kt => pre64 t (by
          show Steps p.tables e below (T39.setTop (mkF m 137 #[.val (.ref o0), .val (.int p1)] [(.int (13 : Int32)), (.int p1)])) _
          refine XS.icmpYes X39.here hx rfl (pc0 := 137) (pc' := 146) rfl (hb hby d3_137) rfl (tlt hd137_65).1 (by decide) (by decide) ?_
          show Steps p.tables e below (T39.setTop (mkF m 146 #[.val (.ref o0), .val (.int p1)] [])) _
          refine XS.iloadN X39.here hx rfl (hb hby d3_146) rfl ?_
          show Steps p.tables e below (T39.setTop (mkF m 147 #[.val (.ref o0), .val (.int p1)] [(.int p1)])) _
          refine XS.bipush X39.here hx rfl (hb hby d3_147) ?_
          exact kt)
      have hd149_67 : p1 < (14 : Int32) := Int32.lt_of_lt_of_le hc12_43 (by decide)
      have pre68 : ∀ t, Steps p.tables e below (T39.setTop (mkF m 161 #[.val (.ref o0), .val (.int p1)] [(.int (15 : Int32)), (.int p1)])) t → Steps p.tables e below (s₁.setTop (entryFrame m #[(.ref o0), (.int p1)] 2)) t := fun t kt => pre66 t (by
          show Steps p.tables e below (T39.setTop (mkF m 149 #[.val (.ref o0), .val (.int p1)] [(.int (14 : Int32)), (.int p1)])) _
          refine XS.icmpYes X39.here hx rfl (pc0 := 149) (pc' := 158) rfl (hb hby d3_149) rfl (tlt hd149_67).1 (by decide) (by decide) ?_
          show Steps p.tables e below (T39.setTop (mkF m 158 #[.val (.ref o0), .val (.int p1)] [])) _
          refine XS.iloadN X39.here hx rfl (hb hby d3_158) rfl ?_
          show Steps p.tables e below (T39.setTop (mkF m 159 #[.val (.ref o0), .val (.int p1)] [(.int p1)])) _
          refine XS.bipush X39.here hx rfl (hb hby d3_159) ?_
          exact kt)
      have hd161_69 : p1 < (15 : Int32) := Int32.lt_of_lt_of_le hc12_43 (by decide)
      have pre70 : ∀ t, Steps p.tables e below (T39.setTop (mkF m 173 #[.val (.ref o0), .val (.int p1)] [(.int (16 : Int32)), (.int p1)])) t → Steps p.tables e below (s₁.setTop (entryFrame m #[(.ref o0), (.int p1)] 2)) t := fun t kt => pre68 t (by
          show Steps p.tables e below (T39.setTop (mkF m 161 #[.val (.ref o0), .val (.int p1)] [(.int (15 : Int32)), (.int p1)])) _
          refine XS.icmpYes X39.here hx rfl (pc0 := 161) (pc' := 170) rfl (hb hby d3_161) rfl (tlt hd161_69).1 (by decide) (by decide) ?_
          show Steps p.tables e below (T39.setTop (mkF m 170 #[.val (.ref o0), .val (.int p1)] [])) _
          refine XS.iloadN X39.here hx rfl (hb hby d3_170) rfl ?_
          show Steps p.tables e below (T39.setTop (mkF m 171 #[.val (.ref o0), .val (.int p1)] [(.int p1)])) _
          refine XS.bipush X39.here hx rfl (hb hby d3_171) ?_
          exact kt)
      have hd173_71 : p1 < (16 : Int32) := Int32.lt_of_lt_of_le hc12_43 (by decide)
      have pre72 : ∀ t, Steps p.tables e below (T39.setTop (mkF m 185 #[.val (.ref o0), .val (.int p1)] [(.int (17 : Int32)), (.int p1)])) t → Steps p.tables e below (s₁.setTop (entryFrame m #[(.ref o0), (.int p1)] 2)) t := fun t kt => pre70 t (by
          show Steps p.tables e below (T39.setTop (mkF m 173 #[.val (.ref o0), .val (.int p1)] [(.int (16 : Int32)), (.int p1)])) _
          refine XS.icmpYes X39.here hx rfl (pc0 := 173) (pc' := 182) rfl (hb hby d3_173) rfl (tlt hd173_71).1 (by decide) (by decide) ?_
          show Steps p.tables e below (T39.setTop (mkF m 182 #[.val (.ref o0), .val (.int p1)] [])) _
          refine XS.iloadN X39.here hx rfl (hb hby d3_182) rfl ?_
          show Steps p.tables e below (T39.setTop (mkF m 183 #[.val (.ref o0), .val (.int p1)] [(.int p1)])) _
          refine XS.bipush X39.here hx rfl (hb hby d3_183) ?_
          exact kt)
      have hd185_73 : p1 < (17 : Int32) := Int32.lt_of_lt_of_le hc12_43 (by decide)
      have pre74 : ∀ t, Steps p.tables e below (T39.setTop (mkF m 197 #[.val (.ref o0), .val (.int p1)] [(.int (18 : Int32)), (.int p1)])) t → Steps p.tables e below (s₁.setTop (entryFrame m #[(.ref o0), (.int p1)] 2)) t := fun t kt => pre72 t (by
          show Steps p.tables e below (T39.setTop (mkF m 185 #[.val (.ref o0), .val (.int p1)] [(.int (17 : Int32)), (.int p1)])) _
          refine XS.icmpYes X39.here hx rfl (pc0 := 185) (pc' := 194) rfl (hb hby d3_185) rfl (tlt hd185_73).1 (by decide) (by decide) ?_
          show Steps p.tables e below (T39.setTop (mkF m 194 #[.val (.ref o0), .val (.int p1)] [])) _
          refine XS.iloadN X39.here hx rfl (hb hby d3_194) rfl ?_
          show Steps p.tables e below (T39.setTop (mkF m 195 #[.val (.ref o0), .val (.int p1)] [(.int p1)])) _
          refine XS.bipush X39.here hx rfl (hb hby d3_195) ?_
          exact kt)
      have hd197_75 : p1 < (18 : Int32) := Int32.lt_of_lt_of_le hc12_43 (by decide)
      have pre76 : ∀ t, Steps p.tables e below (T39.setTop (mkF m 209 #[.val (.ref o0), .val (.int p1)] [(.int (19 : Int32)), (.int p1)])) t → Steps p.tables e below (s₁.setTop (entryFrame m #[(.ref o0), (.int p1)] 2)) t := fun t kt => pre74 t (by
          show Steps p.tables e below (T39.setTop (mkF m 197 #[.val (.ref o0), .val (.int p1)] [(.int (18 : Int32)), (.int p1)])) _
          refine XS.icmpYes X39.here hx rfl (pc0 := 197) (pc' := 206) rfl (hb hby d3_197) rfl (tlt hd197_75).1 (by decide) (by decide) ?_
          show Steps p.tables e below (T39.setTop (mkF m 206 #[.val (.ref o0), .val (.int p1)] [])) _
          refine XS.iloadN X39.here hx rfl (hb hby d3_206) rfl ?_
          show Steps p.tables e below (T39.setTop (mkF m 207 #[.val (.ref o0), .val (.int p1)] [(.int p1)])) _
          refine XS.bipush X39.here hx rfl (hb hby d3_207) ?_
          exact kt)
      have hd209_77 : p1 < (19 : Int32) := Int32.lt_of_lt_of_le hc12_43 (by decide)
      obtain ⟨fs, hr, hrun, hended, hW, hsame⟩ := X39.leave (v := none) (fun _ => rfl)
      refine ⟨_, _, pre76 _ ?_, hrun, hended, _, _, rfl, ?_, ⟨_, rfl⟩, hW, hsame.mono (by decide) (by decide)⟩
      · show Steps p.tables e below (T39.setTop (mkF m 209 #[.val (.ref o0), .val (.int p1)] [(.int (19 : Int32)), (.int p1)])) _
        refine XS.icmpYes X39.here hx rfl (pc0 := 209) (pc' := 218) rfl (hb hby d3_209) rfl (tlt hd209_77).1 (by decide) (by decide) ?_
        show Steps p.tables e below (T39.setTop (mkF m 218 #[.val (.ref o0), .val (.int p1)] [])) _
        exact X39.returnOut hx Bd.returns (hb hby d3_218) hr
      · show Q3 Z o0 p1 r1 F1 h0 n0 _ T39.heap _
        exact ⟨rfl, N39, K40, (by rw [f3_r1_a, if_neg hc2_2, if_pos hc12_43]; exact G39_0)⟩
    · obtain ⟨cq78, kq78, q78a, q78b, q78c⟩ := isOf hZ rfl (E_o0.keep K39q)
      obtain ⟨_, _, ⟨T78, L78, k78, n78⟩, -, X78, ⟨Lc78, hQ78, l78, y78, z78⟩, st78⟩ := X39.virtualBack hx (y := (⟨"com/example/cardhost/cardhost/LogicalChannels", "open", "(I)V"⟩ : MethodName)) (z := (⟨"com/example/cardhost/cardhost/LogicalChannels", "open", "(I)V"⟩ : MethodName)) hown (mvT hZ (hw _ (List.mem_of_getElem? (i := 23) rfl))) (mvT hZ (hw _ (List.mem_of_getElem? (i := 24) rfl))) (notFace_of_selects (args := #[]) (mvT hZ (hw _ (List.mem_of_getElem? (i := 26) rfl)))) (mvT hZ (hw _ (List.mem_of_getElem? (i := 26) rfl))) (mvT hZ (hw _ (List.mem_of_getElem? (i := 25) rfl))) (by decide) (backOf (W := 0) (rm4 l Z a0 hw [] o0 (2 : Int32) r1 (own_upd F1 ((1 : Int32)).toNatClampNeg (1 : Int32)) T39.heap n0 Z41 (F_open_o0.keep K39q (ninS ne_o0_r1 nin0)) G39_0 g_r1 (by decide)) hZ (hw _ (List.mem_of_getElem? (i := 27) rfl)) (hw _ (List.mem_of_getElem? (i := 3) rfl)) (by decide) (by decide)) q78a q78c (g := (mkF m 17 #[.val (.ref o0), .val (.int p1)] [(.int (2 : Int32)), (.ref o0)])) rfl (by rw [hml]; rfl) (Steps.refl _) (argsL := [(.int (2 : Int32))]) (rest := []) (lenOf pd_3_0 rfl) rfl (by show 2 * 0 + _ ≤ _; exact Nat.le_of_eq rfl) (hb hby d3_17) (fun _ _ => ⟨rfl, rfl, (by decide : 0 + 0 ≤ _), (by decide : 0 + 0 ≤ _)⟩)
      dsimp only [Pt.U, Pt.locs, Pt.cells, Pt.slots] at X78 l78 y78 z78 st78 hQ78
      subst l78 y78 z78
      obtain ⟨rfl, N78q, K78q, G78_0⟩ := hQ78
      have N78 := Fr.app N39 N78q
      have K79 : Keep h0 T78.heap [r1] := K40.trans K78q (allS (Or.inl (List.mem_of_getElem? (i := 0) rfl)) all0)
      have Z80 : n0 ≤ T78.heap.size := Nat.le_trans Z0 K79.1
      obtain ⟨LS78, X78, N78⟩ : ∃ L, Stand p l e ({ frames := 1, cells := 0, slots := 0, locals := 13 } : Room) s m #[(.ref o0), (.int p1)] below meth c T78 L 0 0 ∧ Fr n0 L := ⟨_, X78, N78⟩
      have pre81 : ∀ t, Steps p.tables e below (T78.setTop (mkF m 22 #[.val (.ref o0), .val (.int p1)] [(.int (3 : Int32)), (.int p1)])) t → Steps p.tables e below (s₁.setTop (entryFrame m #[(.ref o0), (.int p1)] 2)) t := fun t kt => pre42 t (by
          show Steps p.tables e below (T39.setTop (mkF m 12 #[.val (.ref o0), .val (.int p1)] [(.int (2 : Int32)), (.int p1)])) _
          refine XS.icmpNo X39.here hx rfl (hb hby d3_12) rfl (flt hc12_43).1 ?_
          show Steps p.tables e below (T39.setTop (mkF m 15 #[.val (.ref o0), .val (.int p1)] [])) _
          refine XS.aloadN X39.here hx rfl (hb hby d3_15) rfl rfl ?_
          show Steps p.tables e below (T39.setTop (mkF m 16 #[.val (.ref o0), .val (.int p1)] [(.ref o0)])) _
          refine XS.iconst X39.here hx rfl (hb hby d3_16) ?_
          show Steps p.tables e below (T39.setTop (mkF m 17 #[.val (.ref o0), .val (.int p1)] [(.int (2 : Int32)), (.ref o0)])) _
          refine st78.trans ?_
          show Steps p.tables e below (T78.setTop (mkF m 20 #[.val (.ref o0), .val (.int p1)] [])) _
          refine XS.iloadN X78.here hx rfl (hb hby d3_20) rfl ?_
          show Steps p.tables e below (T78.setTop (mkF m 21 #[.val (.ref o0), .val (.int p1)] [(.int p1)])) _
          refine XS.iconst X78.here hx rfl (hb hby d3_21) ?_
          exact kt)
      by_cases hc22_82 : p1 < (3 : Int32)
      · have pre83 : ∀ t, Steps p.tables e below (T78.setTop (mkF m 32 #[.val (.ref o0), .val (.int p1)] [(.int (4 : Int32)), (.int p1)])) t → Steps p.tables e below (s₁.setTop (entryFrame m #[(.ref o0), (.int p1)] 2)) t := fun t kt => pre81 t (by
            show Steps p.tables e below (T78.setTop (mkF m 22 #[.val (.ref o0), .val (.int p1)] [(.int (3 : Int32)), (.int p1)])) _
            refine XS.icmpYes X78.here hx rfl (pc0 := 22) (pc' := 30) rfl (hb hby d3_22) rfl (tlt hc22_82).1 (by decide) (by decide) ?_
            show Steps p.tables e below (T78.setTop (mkF m 30 #[.val (.ref o0), .val (.int p1)] [])) _
            refine XS.iloadN X78.here hx rfl (hb hby d3_30) rfl ?_
            show Steps p.tables e below (T78.setTop (mkF m 31 #[.val (.ref o0), .val (.int p1)] [(.int p1)])) _
            refine XS.iconst X78.here hx rfl (hb hby d3_31) ?_
            exact kt)
        have hd32_84 : p1 < (4 : Int32) := Int32.lt_of_lt_of_le hc22_82 (by decide)
        have pre85 : ∀ t, Steps p.tables e below (T78.setTop (mkF m 42 #[.val (.ref o0), .val (.int p1)] [(.int (5 : Int32)), (.int p1)])) t → Steps p.tables e below (s₁.setTop (entryFrame m #[(.ref o0), (.int p1)] 2)) t := fun t kt => pre83 t (by
            show Steps p.tables e below (T78.setTop (mkF m 32 #[.val (.ref o0), .val (.int p1)] [(.int (4 : Int32)), (.int p1)])) _
            refine XS.icmpYes X78.here hx rfl (pc0 := 32) (pc' := 40) rfl (hb hby d3_32) rfl (tlt hd32_84).1 (by decide) (by decide) ?_
            show Steps p.tables e below (T78.setTop (mkF m 40 #[.val (.ref o0), .val (.int p1)] [])) _
            refine XS.iloadN X78.here hx rfl (hb hby d3_40) rfl ?_
            show Steps p.tables e below (T78.setTop (mkF m 41 #[.val (.ref o0), .val (.int p1)] [(.int p1)])) _
            refine XS.iconst X78.here hx rfl (hb hby d3_41) ?_
            exact kt)
        have hd42_86 : p1 < (5 : Int32) := Int32.lt_of_lt_of_le hc22_82 (by decide)
        have pre87 : ∀ t, Steps p.tables e below (T78.setTop (mkF m 53 #[.val (.ref o0), .val (.int p1)] [(.int (6 : Int32)), (.int p1)])) t → Steps p.tables e below (s₁.setTop (entryFrame m #[(.ref o0), (.int p1)] 2)) t := fun t kt => pre85 t (by
            show Steps p.tables e below (T78.setTop (mkF m 42 #[.val (.ref o0), .val (.int p1)] [(.int (5 : Int32)), (.int p1)])) _
            refine XS.icmpYes X78.here hx rfl (pc0 := 42) (pc' := 50) rfl (hb hby d3_42) rfl (tlt hd42_86).1 (by decide) (by decide) ?_
            show Steps p.tables e below (T78.setTop (mkF m 50 #[.val (.ref o0), .val (.int p1)] [])) _
            refine XS.iloadN X78.here hx rfl (hb hby d3_50) rfl ?_
            show Steps p.tables e below (T78.setTop (mkF m 51 #[.val (.ref o0), .val (.int p1)] [(.int p1)])) _
            refine XS.bipush X78.here hx rfl (hb hby d3_51) ?_
            exact kt)
        have hd53_88 : p1 < (6 : Int32) := Int32.lt_of_lt_of_le hc22_82 (by decide)
        have pre89 : ∀ t, Steps p.tables e below (T78.setTop (mkF m 65 #[.val (.ref o0), .val (.int p1)] [(.int (7 : Int32)), (.int p1)])) t → Steps p.tables e below (s₁.setTop (entryFrame m #[(.ref o0), (.int p1)] 2)) t := fun t kt => pre87 t (by
            show Steps p.tables e below (T78.setTop (mkF m 53 #[.val (.ref o0), .val (.int p1)] [(.int (6 : Int32)), (.int p1)])) _
            refine XS.icmpYes X78.here hx rfl (pc0 := 53) (pc' := 62) rfl (hb hby d3_53) rfl (tlt hd53_88).1 (by decide) (by decide) ?_
            show Steps p.tables e below (T78.setTop (mkF m 62 #[.val (.ref o0), .val (.int p1)] [])) _
            refine XS.iloadN X78.here hx rfl (hb hby d3_62) rfl ?_
            show Steps p.tables e below (T78.setTop (mkF m 63 #[.val (.ref o0), .val (.int p1)] [(.int p1)])) _
            refine XS.bipush X78.here hx rfl (hb hby d3_63) ?_
            exact kt)
        have hd65_90 : p1 < (7 : Int32) := Int32.lt_of_lt_of_le hc22_82 (by decide)
        have pre91 : ∀ t, Steps p.tables e below (T78.setTop (mkF m 77 #[.val (.ref o0), .val (.int p1)] [(.int (8 : Int32)), (.int p1)])) t → Steps p.tables e below (s₁.setTop (entryFrame m #[(.ref o0), (.int p1)] 2)) t := fun t kt => pre89 t (by
            show Steps p.tables e below (T78.setTop (mkF m 65 #[.val (.ref o0), .val (.int p1)] [(.int (7 : Int32)), (.int p1)])) _
            refine XS.icmpYes X78.here hx rfl (pc0 := 65) (pc' := 74) rfl (hb hby d3_65) rfl (tlt hd65_90).1 (by decide) (by decide) ?_
            show Steps p.tables e below (T78.setTop (mkF m 74 #[.val (.ref o0), .val (.int p1)] [])) _
            refine XS.iloadN X78.here hx rfl (hb hby d3_74) rfl ?_
            show Steps p.tables e below (T78.setTop (mkF m 75 #[.val (.ref o0), .val (.int p1)] [(.int p1)])) _
            refine XS.bipush X78.here hx rfl (hb hby d3_75) ?_
            exact kt)
        have hd77_92 : p1 < (8 : Int32) := Int32.lt_of_lt_of_le hc22_82 (by decide)
        have pre93 : ∀ t, Steps p.tables e below (T78.setTop (mkF m 89 #[.val (.ref o0), .val (.int p1)] [(.int (9 : Int32)), (.int p1)])) t → Steps p.tables e below (s₁.setTop (entryFrame m #[(.ref o0), (.int p1)] 2)) t := fun t kt => pre91 t (by
            show Steps p.tables e below (T78.setTop (mkF m 77 #[.val (.ref o0), .val (.int p1)] [(.int (8 : Int32)), (.int p1)])) _
            refine XS.icmpYes X78.here hx rfl (pc0 := 77) (pc' := 86) rfl (hb hby d3_77) rfl (tlt hd77_92).1 (by decide) (by decide) ?_
            show Steps p.tables e below (T78.setTop (mkF m 86 #[.val (.ref o0), .val (.int p1)] [])) _
            refine XS.iloadN X78.here hx rfl (hb hby d3_86) rfl ?_
            show Steps p.tables e below (T78.setTop (mkF m 87 #[.val (.ref o0), .val (.int p1)] [(.int p1)])) _
            refine XS.bipush X78.here hx rfl (hb hby d3_87) ?_
            exact kt)
        have hd89_94 : p1 < (9 : Int32) := Int32.lt_of_lt_of_le hc22_82 (by decide)
        have pre95 : ∀ t, Steps p.tables e below (T78.setTop (mkF m 101 #[.val (.ref o0), .val (.int p1)] [(.int (10 : Int32)), (.int p1)])) t → Steps p.tables e below (s₁.setTop (entryFrame m #[(.ref o0), (.int p1)] 2)) t := fun t kt => pre93 t (by
            show Steps p.tables e below (T78.setTop (mkF m 89 #[.val (.ref o0), .val (.int p1)] [(.int (9 : Int32)), (.int p1)])) _
            refine XS.icmpYes X78.here hx rfl (pc0 := 89) (pc' := 98) rfl (hb hby d3_89) rfl (tlt hd89_94).1 (by decide) (by decide) ?_
            show Steps p.tables e below (T78.setTop (mkF m 98 #[.val (.ref o0), .val (.int p1)] [])) _
            refine XS.iloadN X78.here hx rfl (hb hby d3_98) rfl ?_
            show Steps p.tables e below (T78.setTop (mkF m 99 #[.val (.ref o0), .val (.int p1)] [(.int p1)])) _
            refine XS.bipush X78.here hx rfl (hb hby d3_99) ?_
            exact kt)
        have hd101_96 : p1 < (10 : Int32) := Int32.lt_of_lt_of_le hc22_82 (by decide)
        have pre97 : ∀ t, Steps p.tables e below (T78.setTop (mkF m 113 #[.val (.ref o0), .val (.int p1)] [(.int (11 : Int32)), (.int p1)])) t → Steps p.tables e below (s₁.setTop (entryFrame m #[(.ref o0), (.int p1)] 2)) t := fun t kt => pre95 t (by
            show Steps p.tables e below (T78.setTop (mkF m 101 #[.val (.ref o0), .val (.int p1)] [(.int (10 : Int32)), (.int p1)])) _
            refine XS.icmpYes X78.here hx rfl (pc0 := 101) (pc' := 110) rfl (hb hby d3_101) rfl (tlt hd101_96).1 (by decide) (by decide) ?_
            show Steps p.tables e below (T78.setTop (mkF m 110 #[.val (.ref o0), .val (.int p1)] [])) _
            refine XS.iloadN X78.here hx rfl (hb hby d3_110) rfl ?_
            show Steps p.tables e below (T78.setTop (mkF m 111 #[.val (.ref o0), .val (.int p1)] [(.int p1)])) _
            refine XS.bipush X78.here hx rfl (hb hby d3_111) ?_
            exact kt)
        have hd113_98 : p1 < (11 : Int32) := Int32.lt_of_lt_of_le hc22_82 (by decide)
        have pre99 : ∀ t, Steps p.tables e below (T78.setTop (mkF m 125 #[.val (.ref o0), .val (.int p1)] [(.int (12 : Int32)), (.int p1)])) t → Steps p.tables e below (s₁.setTop (entryFrame m #[(.ref o0), (.int p1)] 2)) t := fun t kt => pre97 t (by
            show Steps p.tables e below (T78.setTop (mkF m 113 #[.val (.ref o0), .val (.int p1)] [(.int (11 : Int32)), (.int p1)])) _
            refine XS.icmpYes X78.here hx rfl (pc0 := 113) (pc' := 122) rfl (hb hby d3_113) rfl (tlt hd113_98).1 (by decide) (by decide) ?_
            show Steps p.tables e below (T78.setTop (mkF m 122 #[.val (.ref o0), .val (.int p1)] [])) _
            refine XS.iloadN X78.here hx rfl (hb hby d3_122) rfl ?_
            show Steps p.tables e below (T78.setTop (mkF m 123 #[.val (.ref o0), .val (.int p1)] [(.int p1)])) _
            refine XS.bipush X78.here hx rfl (hb hby d3_123) ?_
            exact kt)
        have hd125_100 : p1 < (12 : Int32) := Int32.lt_of_lt_of_le hc22_82 (by decide)
        have pre101 : ∀ t, Steps p.tables e below (T78.setTop (mkF m 137 #[.val (.ref o0), .val (.int p1)] [(.int (13 : Int32)), (.int p1)])) t → Steps p.tables e below (s₁.setTop (entryFrame m #[(.ref o0), (.int p1)] 2)) t := fun t kt => pre99 t (by
            show Steps p.tables e below (T78.setTop (mkF m 125 #[.val (.ref o0), .val (.int p1)] [(.int (12 : Int32)), (.int p1)])) _
            refine XS.icmpYes X78.here hx rfl (pc0 := 125) (pc' := 134) rfl (hb hby d3_125) rfl (tlt hd125_100).1 (by decide) (by decide) ?_
            show Steps p.tables e below (T78.setTop (mkF m 134 #[.val (.ref o0), .val (.int p1)] [])) _
            refine XS.iloadN X78.here hx rfl (hb hby d3_134) rfl ?_
            show Steps p.tables e below (T78.setTop (mkF m 135 #[.val (.ref o0), .val (.int p1)] [(.int p1)])) _
            refine XS.bipush X78.here hx rfl (hb hby d3_135) ?_
            exact kt)
        have hd137_102 : p1 < (13 : Int32) := Int32.lt_of_lt_of_le hc22_82 (by decide)
        have pre103 : ∀ t, Steps p.tables e below (T78.setTop (mkF m 149 #[.val (.ref o0), .val (.int p1)] [(.int (14 : Int32)), (.int p1)])) t → Steps p.tables e below (s₁.setTop (entryFrame m #[(.ref o0), (.int p1)] 2)) t := fun t kt => pre101 t (by
            show Steps p.tables e below (T78.setTop (mkF m 137 #[.val (.ref o0), .val (.int p1)] [(.int (13 : Int32)), (.int p1)])) _
            refine XS.icmpYes X78.here hx rfl (pc0 := 137) (pc' := 146) rfl (hb hby d3_137) rfl (tlt hd137_102).1 (by decide) (by decide) ?_
            show Steps p.tables e below (T78.setTop (mkF m 146 #[.val (.ref o0), .val (.int p1)] [])) _
            refine XS.iloadN X78.here hx rfl (hb hby d3_146) rfl ?_
            show Steps p.tables e below (T78.setTop (mkF m 147 #[.val (.ref o0), .val (.int p1)] [(.int p1)])) _
            refine XS.bipush X78.here hx rfl (hb hby d3_147) ?_
            exact kt)
        have hd149_104 : p1 < (14 : Int32) := Int32.lt_of_lt_of_le hc22_82 (by decide)
        have pre105 : ∀ t, Steps p.tables e below (T78.setTop (mkF m 161 #[.val (.ref o0), .val (.int p1)] [(.int (15 : Int32)), (.int p1)])) t → Steps p.tables e below (s₁.setTop (entryFrame m #[(.ref o0), (.int p1)] 2)) t := fun t kt => pre103 t (by
            show Steps p.tables e below (T78.setTop (mkF m 149 #[.val (.ref o0), .val (.int p1)] [(.int (14 : Int32)), (.int p1)])) _
            refine XS.icmpYes X78.here hx rfl (pc0 := 149) (pc' := 158) rfl (hb hby d3_149) rfl (tlt hd149_104).1 (by decide) (by decide) ?_
            show Steps p.tables e below (T78.setTop (mkF m 158 #[.val (.ref o0), .val (.int p1)] [])) _
            refine XS.iloadN X78.here hx rfl (hb hby d3_158) rfl ?_
            show Steps p.tables e below (T78.setTop (mkF m 159 #[.val (.ref o0), .val (.int p1)] [(.int p1)])) _
            refine XS.bipush X78.here hx rfl (hb hby d3_159) ?_
            exact kt)
        have hd161_106 : p1 < (15 : Int32) := Int32.lt_of_lt_of_le hc22_82 (by decide)
        have pre107 : ∀ t, Steps p.tables e below (T78.setTop (mkF m 173 #[.val (.ref o0), .val (.int p1)] [(.int (16 : Int32)), (.int p1)])) t → Steps p.tables e below (s₁.setTop (entryFrame m #[(.ref o0), (.int p1)] 2)) t := fun t kt => pre105 t (by
            show Steps p.tables e below (T78.setTop (mkF m 161 #[.val (.ref o0), .val (.int p1)] [(.int (15 : Int32)), (.int p1)])) _
            refine XS.icmpYes X78.here hx rfl (pc0 := 161) (pc' := 170) rfl (hb hby d3_161) rfl (tlt hd161_106).1 (by decide) (by decide) ?_
            show Steps p.tables e below (T78.setTop (mkF m 170 #[.val (.ref o0), .val (.int p1)] [])) _
            refine XS.iloadN X78.here hx rfl (hb hby d3_170) rfl ?_
            show Steps p.tables e below (T78.setTop (mkF m 171 #[.val (.ref o0), .val (.int p1)] [(.int p1)])) _
            refine XS.bipush X78.here hx rfl (hb hby d3_171) ?_
            exact kt)
        have hd173_108 : p1 < (16 : Int32) := Int32.lt_of_lt_of_le hc22_82 (by decide)
        have pre109 : ∀ t, Steps p.tables e below (T78.setTop (mkF m 185 #[.val (.ref o0), .val (.int p1)] [(.int (17 : Int32)), (.int p1)])) t → Steps p.tables e below (s₁.setTop (entryFrame m #[(.ref o0), (.int p1)] 2)) t := fun t kt => pre107 t (by
            show Steps p.tables e below (T78.setTop (mkF m 173 #[.val (.ref o0), .val (.int p1)] [(.int (16 : Int32)), (.int p1)])) _
            refine XS.icmpYes X78.here hx rfl (pc0 := 173) (pc' := 182) rfl (hb hby d3_173) rfl (tlt hd173_108).1 (by decide) (by decide) ?_
            show Steps p.tables e below (T78.setTop (mkF m 182 #[.val (.ref o0), .val (.int p1)] [])) _
            refine XS.iloadN X78.here hx rfl (hb hby d3_182) rfl ?_
            show Steps p.tables e below (T78.setTop (mkF m 183 #[.val (.ref o0), .val (.int p1)] [(.int p1)])) _
            refine XS.bipush X78.here hx rfl (hb hby d3_183) ?_
            exact kt)
        have hd185_110 : p1 < (17 : Int32) := Int32.lt_of_lt_of_le hc22_82 (by decide)
        have pre111 : ∀ t, Steps p.tables e below (T78.setTop (mkF m 197 #[.val (.ref o0), .val (.int p1)] [(.int (18 : Int32)), (.int p1)])) t → Steps p.tables e below (s₁.setTop (entryFrame m #[(.ref o0), (.int p1)] 2)) t := fun t kt => pre109 t (by
            show Steps p.tables e below (T78.setTop (mkF m 185 #[.val (.ref o0), .val (.int p1)] [(.int (17 : Int32)), (.int p1)])) _
            refine XS.icmpYes X78.here hx rfl (pc0 := 185) (pc' := 194) rfl (hb hby d3_185) rfl (tlt hd185_110).1 (by decide) (by decide) ?_
            show Steps p.tables e below (T78.setTop (mkF m 194 #[.val (.ref o0), .val (.int p1)] [])) _
            refine XS.iloadN X78.here hx rfl (hb hby d3_194) rfl ?_
            show Steps p.tables e below (T78.setTop (mkF m 195 #[.val (.ref o0), .val (.int p1)] [(.int p1)])) _
            refine XS.bipush X78.here hx rfl (hb hby d3_195) ?_
            exact kt)
        have hd197_112 : p1 < (18 : Int32) := Int32.lt_of_lt_of_le hc22_82 (by decide)
        have pre113 : ∀ t, Steps p.tables e below (T78.setTop (mkF m 209 #[.val (.ref o0), .val (.int p1)] [(.int (19 : Int32)), (.int p1)])) t → Steps p.tables e below (s₁.setTop (entryFrame m #[(.ref o0), (.int p1)] 2)) t := fun t kt => pre111 t (by
            show Steps p.tables e below (T78.setTop (mkF m 197 #[.val (.ref o0), .val (.int p1)] [(.int (18 : Int32)), (.int p1)])) _
            refine XS.icmpYes X78.here hx rfl (pc0 := 197) (pc' := 206) rfl (hb hby d3_197) rfl (tlt hd197_112).1 (by decide) (by decide) ?_
            show Steps p.tables e below (T78.setTop (mkF m 206 #[.val (.ref o0), .val (.int p1)] [])) _
            refine XS.iloadN X78.here hx rfl (hb hby d3_206) rfl ?_
            show Steps p.tables e below (T78.setTop (mkF m 207 #[.val (.ref o0), .val (.int p1)] [(.int p1)])) _
            refine XS.bipush X78.here hx rfl (hb hby d3_207) ?_
            exact kt)
        have hd209_114 : p1 < (19 : Int32) := Int32.lt_of_lt_of_le hc22_82 (by decide)
        obtain ⟨fs, hr, hrun, hended, hW, hsame⟩ := X78.leave (v := none) (fun _ => rfl)
        refine ⟨_, _, pre113 _ ?_, hrun, hended, _, _, rfl, ?_, ⟨_, rfl⟩, hW, hsame.mono (by decide) (by decide)⟩
        · show Steps p.tables e below (T78.setTop (mkF m 209 #[.val (.ref o0), .val (.int p1)] [(.int (19 : Int32)), (.int p1)])) _
          refine XS.icmpYes X78.here hx rfl (pc0 := 209) (pc' := 218) rfl (hb hby d3_209) rfl (tlt hd209_114).1 (by decide) (by decide) ?_
          show Steps p.tables e below (T78.setTop (mkF m 218 #[.val (.ref o0), .val (.int p1)] [])) _
          exact X78.returnOut hx Bd.returns (hb hby d3_218) hr
        · show Q3 Z o0 p1 r1 F1 h0 n0 _ T78.heap _
          exact ⟨rfl, N78, K79, (by rw [f3_r1_a, if_neg hc2_2, if_neg hc12_43, if_pos hc22_82]; exact G78_0)⟩
      · have c116 := ((F_open_o0.keep K39q (ninS ne_o0_r1 nin0)).keep K78q (ninS ne_o0_r1 nin0))
        obtain ⟨cq115, kq115, q115a, q115b, q115c⟩ := isOf hZ rfl ((E_o0.keep K39q).keep K78q)
        obtain ⟨_, _, ⟨T115, L115, k115, n115⟩, -, X115, ⟨Lc115, hQ115, l115, y115, z115⟩, st115⟩ := X78.virtualBack hx (y := (⟨"com/example/cardhost/cardhost/LogicalChannels", "open", "(I)V"⟩ : MethodName)) (z := (⟨"com/example/cardhost/cardhost/LogicalChannels", "open", "(I)V"⟩ : MethodName)) hown (mvT hZ (hw _ (List.mem_of_getElem? (i := 23) rfl))) (mvT hZ (hw _ (List.mem_of_getElem? (i := 24) rfl))) (notFace_of_selects (args := #[]) (mvT hZ (hw _ (List.mem_of_getElem? (i := 26) rfl)))) (mvT hZ (hw _ (List.mem_of_getElem? (i := 26) rfl))) (mvT hZ (hw _ (List.mem_of_getElem? (i := 25) rfl))) (by decide) (backOf (W := 0) (rm4 l Z a0 hw [] o0 (3 : Int32) r1 (own_upd (own_upd F1 ((1 : Int32)).toNatClampNeg (1 : Int32)) ((2 : Int32)).toNatClampNeg (1 : Int32)) T78.heap n0 Z80 c116 G78_0 g_r1 (by decide)) hZ (hw _ (List.mem_of_getElem? (i := 27) rfl)) (hw _ (List.mem_of_getElem? (i := 3) rfl)) (by decide) (by decide)) q115a q115c (g := (mkF m 27 #[.val (.ref o0), .val (.int p1)] [(.int (3 : Int32)), (.ref o0)])) rfl (by rw [hml]; rfl) (Steps.refl _) (argsL := [(.int (3 : Int32))]) (rest := []) (lenOf pd_3_0 rfl) rfl (by show 2 * 0 + _ ≤ _; exact Nat.le_of_eq rfl) (hb hby d3_27) (fun _ _ => ⟨rfl, rfl, (by decide : 0 + 0 ≤ _), (by decide : 0 + 0 ≤ _)⟩)
        dsimp only [Pt.U, Pt.locs, Pt.cells, Pt.slots] at X115 l115 y115 z115 st115 hQ115
        subst l115 y115 z115
        obtain ⟨rfl, N115q, K115q, G115_0⟩ := hQ115
        have N115 := Fr.app N78 N115q
        have K117 : Keep h0 T115.heap [r1] := K79.trans K115q (allS (Or.inl (List.mem_of_getElem? (i := 0) rfl)) all0)
        have Z118 : n0 ≤ T115.heap.size := Nat.le_trans Z0 K117.1
        obtain ⟨LS115, X115, N115⟩ : ∃ L, Stand p l e ({ frames := 1, cells := 0, slots := 0, locals := 13 } : Room) s m #[(.ref o0), (.int p1)] below meth c T115 L 0 0 ∧ Fr n0 L := ⟨_, X115, N115⟩
        have pre119 : ∀ t, Steps p.tables e below (T115.setTop (mkF m 32 #[.val (.ref o0), .val (.int p1)] [(.int (4 : Int32)), (.int p1)])) t → Steps p.tables e below (s₁.setTop (entryFrame m #[(.ref o0), (.int p1)] 2)) t := fun t kt => pre81 t (by
            show Steps p.tables e below (T78.setTop (mkF m 22 #[.val (.ref o0), .val (.int p1)] [(.int (3 : Int32)), (.int p1)])) _
            refine XS.icmpNo X78.here hx rfl (hb hby d3_22) rfl (flt hc22_82).1 ?_
            show Steps p.tables e below (T78.setTop (mkF m 25 #[.val (.ref o0), .val (.int p1)] [])) _
            refine XS.aloadN X78.here hx rfl (hb hby d3_25) rfl rfl ?_
            show Steps p.tables e below (T78.setTop (mkF m 26 #[.val (.ref o0), .val (.int p1)] [(.ref o0)])) _
            refine XS.iconst X78.here hx rfl (hb hby d3_26) ?_
            show Steps p.tables e below (T78.setTop (mkF m 27 #[.val (.ref o0), .val (.int p1)] [(.int (3 : Int32)), (.ref o0)])) _
            refine st115.trans ?_
            show Steps p.tables e below (T115.setTop (mkF m 30 #[.val (.ref o0), .val (.int p1)] [])) _
            refine XS.iloadN X115.here hx rfl (hb hby d3_30) rfl ?_
            show Steps p.tables e below (T115.setTop (mkF m 31 #[.val (.ref o0), .val (.int p1)] [(.int p1)])) _
            refine XS.iconst X115.here hx rfl (hb hby d3_31) ?_
            exact kt)
        by_cases hc32_120 : p1 < (4 : Int32)
        · have pre121 : ∀ t, Steps p.tables e below (T115.setTop (mkF m 42 #[.val (.ref o0), .val (.int p1)] [(.int (5 : Int32)), (.int p1)])) t → Steps p.tables e below (s₁.setTop (entryFrame m #[(.ref o0), (.int p1)] 2)) t := fun t kt => pre119 t (by
              show Steps p.tables e below (T115.setTop (mkF m 32 #[.val (.ref o0), .val (.int p1)] [(.int (4 : Int32)), (.int p1)])) _
              refine XS.icmpYes X115.here hx rfl (pc0 := 32) (pc' := 40) rfl (hb hby d3_32) rfl (tlt hc32_120).1 (by decide) (by decide) ?_
              show Steps p.tables e below (T115.setTop (mkF m 40 #[.val (.ref o0), .val (.int p1)] [])) _
              refine XS.iloadN X115.here hx rfl (hb hby d3_40) rfl ?_
              show Steps p.tables e below (T115.setTop (mkF m 41 #[.val (.ref o0), .val (.int p1)] [(.int p1)])) _
              refine XS.iconst X115.here hx rfl (hb hby d3_41) ?_
              exact kt)
          have hd42_122 : p1 < (5 : Int32) := Int32.lt_of_lt_of_le hc32_120 (by decide)
          have pre123 : ∀ t, Steps p.tables e below (T115.setTop (mkF m 53 #[.val (.ref o0), .val (.int p1)] [(.int (6 : Int32)), (.int p1)])) t → Steps p.tables e below (s₁.setTop (entryFrame m #[(.ref o0), (.int p1)] 2)) t := fun t kt => pre121 t (by
              show Steps p.tables e below (T115.setTop (mkF m 42 #[.val (.ref o0), .val (.int p1)] [(.int (5 : Int32)), (.int p1)])) _
              refine XS.icmpYes X115.here hx rfl (pc0 := 42) (pc' := 50) rfl (hb hby d3_42) rfl (tlt hd42_122).1 (by decide) (by decide) ?_
              show Steps p.tables e below (T115.setTop (mkF m 50 #[.val (.ref o0), .val (.int p1)] [])) _
              refine XS.iloadN X115.here hx rfl (hb hby d3_50) rfl ?_
              show Steps p.tables e below (T115.setTop (mkF m 51 #[.val (.ref o0), .val (.int p1)] [(.int p1)])) _
              refine XS.bipush X115.here hx rfl (hb hby d3_51) ?_
              exact kt)
          have hd53_124 : p1 < (6 : Int32) := Int32.lt_of_lt_of_le hc32_120 (by decide)
          have pre125 : ∀ t, Steps p.tables e below (T115.setTop (mkF m 65 #[.val (.ref o0), .val (.int p1)] [(.int (7 : Int32)), (.int p1)])) t → Steps p.tables e below (s₁.setTop (entryFrame m #[(.ref o0), (.int p1)] 2)) t := fun t kt => pre123 t (by
              show Steps p.tables e below (T115.setTop (mkF m 53 #[.val (.ref o0), .val (.int p1)] [(.int (6 : Int32)), (.int p1)])) _
              refine XS.icmpYes X115.here hx rfl (pc0 := 53) (pc' := 62) rfl (hb hby d3_53) rfl (tlt hd53_124).1 (by decide) (by decide) ?_
              show Steps p.tables e below (T115.setTop (mkF m 62 #[.val (.ref o0), .val (.int p1)] [])) _
              refine XS.iloadN X115.here hx rfl (hb hby d3_62) rfl ?_
              show Steps p.tables e below (T115.setTop (mkF m 63 #[.val (.ref o0), .val (.int p1)] [(.int p1)])) _
              refine XS.bipush X115.here hx rfl (hb hby d3_63) ?_
              exact kt)
          have hd65_126 : p1 < (7 : Int32) := Int32.lt_of_lt_of_le hc32_120 (by decide)
          have pre127 : ∀ t, Steps p.tables e below (T115.setTop (mkF m 77 #[.val (.ref o0), .val (.int p1)] [(.int (8 : Int32)), (.int p1)])) t → Steps p.tables e below (s₁.setTop (entryFrame m #[(.ref o0), (.int p1)] 2)) t := fun t kt => pre125 t (by
              show Steps p.tables e below (T115.setTop (mkF m 65 #[.val (.ref o0), .val (.int p1)] [(.int (7 : Int32)), (.int p1)])) _
              refine XS.icmpYes X115.here hx rfl (pc0 := 65) (pc' := 74) rfl (hb hby d3_65) rfl (tlt hd65_126).1 (by decide) (by decide) ?_
              show Steps p.tables e below (T115.setTop (mkF m 74 #[.val (.ref o0), .val (.int p1)] [])) _
              refine XS.iloadN X115.here hx rfl (hb hby d3_74) rfl ?_
              show Steps p.tables e below (T115.setTop (mkF m 75 #[.val (.ref o0), .val (.int p1)] [(.int p1)])) _
              refine XS.bipush X115.here hx rfl (hb hby d3_75) ?_
              exact kt)
          have hd77_128 : p1 < (8 : Int32) := Int32.lt_of_lt_of_le hc32_120 (by decide)
          have pre129 : ∀ t, Steps p.tables e below (T115.setTop (mkF m 89 #[.val (.ref o0), .val (.int p1)] [(.int (9 : Int32)), (.int p1)])) t → Steps p.tables e below (s₁.setTop (entryFrame m #[(.ref o0), (.int p1)] 2)) t := fun t kt => pre127 t (by
              show Steps p.tables e below (T115.setTop (mkF m 77 #[.val (.ref o0), .val (.int p1)] [(.int (8 : Int32)), (.int p1)])) _
              refine XS.icmpYes X115.here hx rfl (pc0 := 77) (pc' := 86) rfl (hb hby d3_77) rfl (tlt hd77_128).1 (by decide) (by decide) ?_
              show Steps p.tables e below (T115.setTop (mkF m 86 #[.val (.ref o0), .val (.int p1)] [])) _
              refine XS.iloadN X115.here hx rfl (hb hby d3_86) rfl ?_
              show Steps p.tables e below (T115.setTop (mkF m 87 #[.val (.ref o0), .val (.int p1)] [(.int p1)])) _
              refine XS.bipush X115.here hx rfl (hb hby d3_87) ?_
              exact kt)
          have hd89_130 : p1 < (9 : Int32) := Int32.lt_of_lt_of_le hc32_120 (by decide)
          have pre131 : ∀ t, Steps p.tables e below (T115.setTop (mkF m 101 #[.val (.ref o0), .val (.int p1)] [(.int (10 : Int32)), (.int p1)])) t → Steps p.tables e below (s₁.setTop (entryFrame m #[(.ref o0), (.int p1)] 2)) t := fun t kt => pre129 t (by
              show Steps p.tables e below (T115.setTop (mkF m 89 #[.val (.ref o0), .val (.int p1)] [(.int (9 : Int32)), (.int p1)])) _
              refine XS.icmpYes X115.here hx rfl (pc0 := 89) (pc' := 98) rfl (hb hby d3_89) rfl (tlt hd89_130).1 (by decide) (by decide) ?_
              show Steps p.tables e below (T115.setTop (mkF m 98 #[.val (.ref o0), .val (.int p1)] [])) _
              refine XS.iloadN X115.here hx rfl (hb hby d3_98) rfl ?_
              show Steps p.tables e below (T115.setTop (mkF m 99 #[.val (.ref o0), .val (.int p1)] [(.int p1)])) _
              refine XS.bipush X115.here hx rfl (hb hby d3_99) ?_
              exact kt)
          have hd101_132 : p1 < (10 : Int32) := Int32.lt_of_lt_of_le hc32_120 (by decide)
          have pre133 : ∀ t, Steps p.tables e below (T115.setTop (mkF m 113 #[.val (.ref o0), .val (.int p1)] [(.int (11 : Int32)), (.int p1)])) t → Steps p.tables e below (s₁.setTop (entryFrame m #[(.ref o0), (.int p1)] 2)) t := fun t kt => pre131 t (by
              show Steps p.tables e below (T115.setTop (mkF m 101 #[.val (.ref o0), .val (.int p1)] [(.int (10 : Int32)), (.int p1)])) _
              refine XS.icmpYes X115.here hx rfl (pc0 := 101) (pc' := 110) rfl (hb hby d3_101) rfl (tlt hd101_132).1 (by decide) (by decide) ?_
              show Steps p.tables e below (T115.setTop (mkF m 110 #[.val (.ref o0), .val (.int p1)] [])) _
              refine XS.iloadN X115.here hx rfl (hb hby d3_110) rfl ?_
              show Steps p.tables e below (T115.setTop (mkF m 111 #[.val (.ref o0), .val (.int p1)] [(.int p1)])) _
              refine XS.bipush X115.here hx rfl (hb hby d3_111) ?_
              exact kt)
          have hd113_134 : p1 < (11 : Int32) := Int32.lt_of_lt_of_le hc32_120 (by decide)
          have pre135 : ∀ t, Steps p.tables e below (T115.setTop (mkF m 125 #[.val (.ref o0), .val (.int p1)] [(.int (12 : Int32)), (.int p1)])) t → Steps p.tables e below (s₁.setTop (entryFrame m #[(.ref o0), (.int p1)] 2)) t := fun t kt => pre133 t (by
              show Steps p.tables e below (T115.setTop (mkF m 113 #[.val (.ref o0), .val (.int p1)] [(.int (11 : Int32)), (.int p1)])) _
              refine XS.icmpYes X115.here hx rfl (pc0 := 113) (pc' := 122) rfl (hb hby d3_113) rfl (tlt hd113_134).1 (by decide) (by decide) ?_
              show Steps p.tables e below (T115.setTop (mkF m 122 #[.val (.ref o0), .val (.int p1)] [])) _
              refine XS.iloadN X115.here hx rfl (hb hby d3_122) rfl ?_
              show Steps p.tables e below (T115.setTop (mkF m 123 #[.val (.ref o0), .val (.int p1)] [(.int p1)])) _
              refine XS.bipush X115.here hx rfl (hb hby d3_123) ?_
              exact kt)
          have hd125_136 : p1 < (12 : Int32) := Int32.lt_of_lt_of_le hc32_120 (by decide)
          have pre137 : ∀ t, Steps p.tables e below (T115.setTop (mkF m 137 #[.val (.ref o0), .val (.int p1)] [(.int (13 : Int32)), (.int p1)])) t → Steps p.tables e below (s₁.setTop (entryFrame m #[(.ref o0), (.int p1)] 2)) t := fun t kt => pre135 t (by
              show Steps p.tables e below (T115.setTop (mkF m 125 #[.val (.ref o0), .val (.int p1)] [(.int (12 : Int32)), (.int p1)])) _
              refine XS.icmpYes X115.here hx rfl (pc0 := 125) (pc' := 134) rfl (hb hby d3_125) rfl (tlt hd125_136).1 (by decide) (by decide) ?_
              show Steps p.tables e below (T115.setTop (mkF m 134 #[.val (.ref o0), .val (.int p1)] [])) _
              refine XS.iloadN X115.here hx rfl (hb hby d3_134) rfl ?_
              show Steps p.tables e below (T115.setTop (mkF m 135 #[.val (.ref o0), .val (.int p1)] [(.int p1)])) _
              refine XS.bipush X115.here hx rfl (hb hby d3_135) ?_
              exact kt)
          have hd137_138 : p1 < (13 : Int32) := Int32.lt_of_lt_of_le hc32_120 (by decide)
          have pre139 : ∀ t, Steps p.tables e below (T115.setTop (mkF m 149 #[.val (.ref o0), .val (.int p1)] [(.int (14 : Int32)), (.int p1)])) t → Steps p.tables e below (s₁.setTop (entryFrame m #[(.ref o0), (.int p1)] 2)) t := fun t kt => pre137 t (by
              show Steps p.tables e below (T115.setTop (mkF m 137 #[.val (.ref o0), .val (.int p1)] [(.int (13 : Int32)), (.int p1)])) _
              refine XS.icmpYes X115.here hx rfl (pc0 := 137) (pc' := 146) rfl (hb hby d3_137) rfl (tlt hd137_138).1 (by decide) (by decide) ?_
              show Steps p.tables e below (T115.setTop (mkF m 146 #[.val (.ref o0), .val (.int p1)] [])) _
              refine XS.iloadN X115.here hx rfl (hb hby d3_146) rfl ?_
              show Steps p.tables e below (T115.setTop (mkF m 147 #[.val (.ref o0), .val (.int p1)] [(.int p1)])) _
              refine XS.bipush X115.here hx rfl (hb hby d3_147) ?_
              exact kt)
          have hd149_140 : p1 < (14 : Int32) := Int32.lt_of_lt_of_le hc32_120 (by decide)
          have pre141 : ∀ t, Steps p.tables e below (T115.setTop (mkF m 161 #[.val (.ref o0), .val (.int p1)] [(.int (15 : Int32)), (.int p1)])) t → Steps p.tables e below (s₁.setTop (entryFrame m #[(.ref o0), (.int p1)] 2)) t := fun t kt => pre139 t (by
              show Steps p.tables e below (T115.setTop (mkF m 149 #[.val (.ref o0), .val (.int p1)] [(.int (14 : Int32)), (.int p1)])) _
              refine XS.icmpYes X115.here hx rfl (pc0 := 149) (pc' := 158) rfl (hb hby d3_149) rfl (tlt hd149_140).1 (by decide) (by decide) ?_
              show Steps p.tables e below (T115.setTop (mkF m 158 #[.val (.ref o0), .val (.int p1)] [])) _
              refine XS.iloadN X115.here hx rfl (hb hby d3_158) rfl ?_
              show Steps p.tables e below (T115.setTop (mkF m 159 #[.val (.ref o0), .val (.int p1)] [(.int p1)])) _
              refine XS.bipush X115.here hx rfl (hb hby d3_159) ?_
              exact kt)
          have hd161_142 : p1 < (15 : Int32) := Int32.lt_of_lt_of_le hc32_120 (by decide)
          have pre143 : ∀ t, Steps p.tables e below (T115.setTop (mkF m 173 #[.val (.ref o0), .val (.int p1)] [(.int (16 : Int32)), (.int p1)])) t → Steps p.tables e below (s₁.setTop (entryFrame m #[(.ref o0), (.int p1)] 2)) t := fun t kt => pre141 t (by
              show Steps p.tables e below (T115.setTop (mkF m 161 #[.val (.ref o0), .val (.int p1)] [(.int (15 : Int32)), (.int p1)])) _
              refine XS.icmpYes X115.here hx rfl (pc0 := 161) (pc' := 170) rfl (hb hby d3_161) rfl (tlt hd161_142).1 (by decide) (by decide) ?_
              show Steps p.tables e below (T115.setTop (mkF m 170 #[.val (.ref o0), .val (.int p1)] [])) _
              refine XS.iloadN X115.here hx rfl (hb hby d3_170) rfl ?_
              show Steps p.tables e below (T115.setTop (mkF m 171 #[.val (.ref o0), .val (.int p1)] [(.int p1)])) _
              refine XS.bipush X115.here hx rfl (hb hby d3_171) ?_
              exact kt)
          have hd173_144 : p1 < (16 : Int32) := Int32.lt_of_lt_of_le hc32_120 (by decide)
          have pre145 : ∀ t, Steps p.tables e below (T115.setTop (mkF m 185 #[.val (.ref o0), .val (.int p1)] [(.int (17 : Int32)), (.int p1)])) t → Steps p.tables e below (s₁.setTop (entryFrame m #[(.ref o0), (.int p1)] 2)) t := fun t kt => pre143 t (by
              show Steps p.tables e below (T115.setTop (mkF m 173 #[.val (.ref o0), .val (.int p1)] [(.int (16 : Int32)), (.int p1)])) _
              refine XS.icmpYes X115.here hx rfl (pc0 := 173) (pc' := 182) rfl (hb hby d3_173) rfl (tlt hd173_144).1 (by decide) (by decide) ?_
              show Steps p.tables e below (T115.setTop (mkF m 182 #[.val (.ref o0), .val (.int p1)] [])) _
              refine XS.iloadN X115.here hx rfl (hb hby d3_182) rfl ?_
              show Steps p.tables e below (T115.setTop (mkF m 183 #[.val (.ref o0), .val (.int p1)] [(.int p1)])) _
              refine XS.bipush X115.here hx rfl (hb hby d3_183) ?_
              exact kt)
          have hd185_146 : p1 < (17 : Int32) := Int32.lt_of_lt_of_le hc32_120 (by decide)
          have pre147 : ∀ t, Steps p.tables e below (T115.setTop (mkF m 197 #[.val (.ref o0), .val (.int p1)] [(.int (18 : Int32)), (.int p1)])) t → Steps p.tables e below (s₁.setTop (entryFrame m #[(.ref o0), (.int p1)] 2)) t := fun t kt => pre145 t (by
              show Steps p.tables e below (T115.setTop (mkF m 185 #[.val (.ref o0), .val (.int p1)] [(.int (17 : Int32)), (.int p1)])) _
              refine XS.icmpYes X115.here hx rfl (pc0 := 185) (pc' := 194) rfl (hb hby d3_185) rfl (tlt hd185_146).1 (by decide) (by decide) ?_
              show Steps p.tables e below (T115.setTop (mkF m 194 #[.val (.ref o0), .val (.int p1)] [])) _
              refine XS.iloadN X115.here hx rfl (hb hby d3_194) rfl ?_
              show Steps p.tables e below (T115.setTop (mkF m 195 #[.val (.ref o0), .val (.int p1)] [(.int p1)])) _
              refine XS.bipush X115.here hx rfl (hb hby d3_195) ?_
              exact kt)
          have hd197_148 : p1 < (18 : Int32) := Int32.lt_of_lt_of_le hc32_120 (by decide)
          have pre149 : ∀ t, Steps p.tables e below (T115.setTop (mkF m 209 #[.val (.ref o0), .val (.int p1)] [(.int (19 : Int32)), (.int p1)])) t → Steps p.tables e below (s₁.setTop (entryFrame m #[(.ref o0), (.int p1)] 2)) t := fun t kt => pre147 t (by
              show Steps p.tables e below (T115.setTop (mkF m 197 #[.val (.ref o0), .val (.int p1)] [(.int (18 : Int32)), (.int p1)])) _
              refine XS.icmpYes X115.here hx rfl (pc0 := 197) (pc' := 206) rfl (hb hby d3_197) rfl (tlt hd197_148).1 (by decide) (by decide) ?_
              show Steps p.tables e below (T115.setTop (mkF m 206 #[.val (.ref o0), .val (.int p1)] [])) _
              refine XS.iloadN X115.here hx rfl (hb hby d3_206) rfl ?_
              show Steps p.tables e below (T115.setTop (mkF m 207 #[.val (.ref o0), .val (.int p1)] [(.int p1)])) _
              refine XS.bipush X115.here hx rfl (hb hby d3_207) ?_
              exact kt)
          have hd209_150 : p1 < (19 : Int32) := Int32.lt_of_lt_of_le hc32_120 (by decide)
          obtain ⟨fs, hr, hrun, hended, hW, hsame⟩ := X115.leave (v := none) (fun _ => rfl)
          refine ⟨_, _, pre149 _ ?_, hrun, hended, _, _, rfl, ?_, ⟨_, rfl⟩, hW, hsame.mono (by decide) (by decide)⟩
          · show Steps p.tables e below (T115.setTop (mkF m 209 #[.val (.ref o0), .val (.int p1)] [(.int (19 : Int32)), (.int p1)])) _
            refine XS.icmpYes X115.here hx rfl (pc0 := 209) (pc' := 218) rfl (hb hby d3_209) rfl (tlt hd209_150).1 (by decide) (by decide) ?_
            show Steps p.tables e below (T115.setTop (mkF m 218 #[.val (.ref o0), .val (.int p1)] [])) _
            exact X115.returnOut hx Bd.returns (hb hby d3_218) hr
          · show Q3 Z o0 p1 r1 F1 h0 n0 _ T115.heap _
            exact ⟨rfl, N115, K117, (by rw [f3_r1_a, if_neg hc2_2, if_neg hc12_43, if_neg hc22_82, if_pos hc32_120]; exact G115_0)⟩
        · obtain ⟨cq151, kq151, q151a, q151b, q151c⟩ := isOf hZ rfl (((E_o0.keep K39q).keep K78q).keep K115q)
          obtain ⟨_, _, ⟨T151, L151, k151, n151⟩, -, X151, ⟨Lc151, hQ151, l151, y151, z151⟩, st151⟩ := X115.virtualBack hx (y := (⟨"com/example/cardhost/cardhost/LogicalChannels", "open", "(I)V"⟩ : MethodName)) (z := (⟨"com/example/cardhost/cardhost/LogicalChannels", "open", "(I)V"⟩ : MethodName)) hown (mvT hZ (hw _ (List.mem_of_getElem? (i := 23) rfl))) (mvT hZ (hw _ (List.mem_of_getElem? (i := 24) rfl))) (notFace_of_selects (args := #[]) (mvT hZ (hw _ (List.mem_of_getElem? (i := 26) rfl)))) (mvT hZ (hw _ (List.mem_of_getElem? (i := 26) rfl))) (mvT hZ (hw _ (List.mem_of_getElem? (i := 25) rfl))) (by decide) (backOf (W := 0) (rm4 l Z a0 hw [] o0 (4 : Int32) r1 (own_upd (own_upd (own_upd F1 ((1 : Int32)).toNatClampNeg (1 : Int32)) ((2 : Int32)).toNatClampNeg (1 : Int32)) ((3 : Int32)).toNatClampNeg (1 : Int32)) T115.heap n0 Z118 (c116.keep K115q (ninS ne_o0_r1 nin0)) G115_0 g_r1 (by decide)) hZ (hw _ (List.mem_of_getElem? (i := 27) rfl)) (hw _ (List.mem_of_getElem? (i := 3) rfl)) (by decide) (by decide)) q151a q151c (g := (mkF m 37 #[.val (.ref o0), .val (.int p1)] [(.int (4 : Int32)), (.ref o0)])) rfl (by rw [hml]; rfl) (Steps.refl _) (argsL := [(.int (4 : Int32))]) (rest := []) (lenOf pd_3_0 rfl) rfl (by show 2 * 0 + _ ≤ _; exact Nat.le_of_eq rfl) (hb hby d3_37) (fun _ _ => ⟨rfl, rfl, (by decide : 0 + 0 ≤ _), (by decide : 0 + 0 ≤ _)⟩)
          dsimp only [Pt.U, Pt.locs, Pt.cells, Pt.slots] at X151 l151 y151 z151 st151 hQ151
          subst l151 y151 z151
          obtain ⟨rfl, N151q, K151q, G151_0⟩ := hQ151
          have N151 := Fr.app N115 N151q
          have K152 : Keep h0 T151.heap [r1] := K117.trans K151q (allS (Or.inl (List.mem_of_getElem? (i := 0) rfl)) all0)
          have Z153 : n0 ≤ T151.heap.size := Nat.le_trans Z0 K152.1
          obtain ⟨LS151, X151, N151⟩ : ∃ L, Stand p l e ({ frames := 1, cells := 0, slots := 0, locals := 13 } : Room) s m #[(.ref o0), (.int p1)] below meth c T151 L 0 0 ∧ Fr n0 L := ⟨_, X151, N151⟩
          have pre154 : ∀ t, Steps p.tables e below (T151.setTop (mkF m 42 #[.val (.ref o0), .val (.int p1)] [(.int (5 : Int32)), (.int p1)])) t → Steps p.tables e below (s₁.setTop (entryFrame m #[(.ref o0), (.int p1)] 2)) t := fun t kt => pre119 t (by
              show Steps p.tables e below (T115.setTop (mkF m 32 #[.val (.ref o0), .val (.int p1)] [(.int (4 : Int32)), (.int p1)])) _
              refine XS.icmpNo X115.here hx rfl (hb hby d3_32) rfl (flt hc32_120).1 ?_
              show Steps p.tables e below (T115.setTop (mkF m 35 #[.val (.ref o0), .val (.int p1)] [])) _
              refine XS.aloadN X115.here hx rfl (hb hby d3_35) rfl rfl ?_
              show Steps p.tables e below (T115.setTop (mkF m 36 #[.val (.ref o0), .val (.int p1)] [(.ref o0)])) _
              refine XS.iconst X115.here hx rfl (hb hby d3_36) ?_
              show Steps p.tables e below (T115.setTop (mkF m 37 #[.val (.ref o0), .val (.int p1)] [(.int (4 : Int32)), (.ref o0)])) _
              refine st151.trans ?_
              show Steps p.tables e below (T151.setTop (mkF m 40 #[.val (.ref o0), .val (.int p1)] [])) _
              refine XS.iloadN X151.here hx rfl (hb hby d3_40) rfl ?_
              show Steps p.tables e below (T151.setTop (mkF m 41 #[.val (.ref o0), .val (.int p1)] [(.int p1)])) _
              refine XS.iconst X151.here hx rfl (hb hby d3_41) ?_
              exact kt)
          by_cases hc42_155 : p1 < (5 : Int32)
          · have pre156 : ∀ t, Steps p.tables e below (T151.setTop (mkF m 53 #[.val (.ref o0), .val (.int p1)] [(.int (6 : Int32)), (.int p1)])) t → Steps p.tables e below (s₁.setTop (entryFrame m #[(.ref o0), (.int p1)] 2)) t := fun t kt => pre154 t (by
                show Steps p.tables e below (T151.setTop (mkF m 42 #[.val (.ref o0), .val (.int p1)] [(.int (5 : Int32)), (.int p1)])) _
                refine XS.icmpYes X151.here hx rfl (pc0 := 42) (pc' := 50) rfl (hb hby d3_42) rfl (tlt hc42_155).1 (by decide) (by decide) ?_
                show Steps p.tables e below (T151.setTop (mkF m 50 #[.val (.ref o0), .val (.int p1)] [])) _
                refine XS.iloadN X151.here hx rfl (hb hby d3_50) rfl ?_
                show Steps p.tables e below (T151.setTop (mkF m 51 #[.val (.ref o0), .val (.int p1)] [(.int p1)])) _
                refine XS.bipush X151.here hx rfl (hb hby d3_51) ?_
                exact kt)
            have hd53_157 : p1 < (6 : Int32) := Int32.lt_of_lt_of_le hc42_155 (by decide)
            have pre158 : ∀ t, Steps p.tables e below (T151.setTop (mkF m 65 #[.val (.ref o0), .val (.int p1)] [(.int (7 : Int32)), (.int p1)])) t → Steps p.tables e below (s₁.setTop (entryFrame m #[(.ref o0), (.int p1)] 2)) t := fun t kt => pre156 t (by
                show Steps p.tables e below (T151.setTop (mkF m 53 #[.val (.ref o0), .val (.int p1)] [(.int (6 : Int32)), (.int p1)])) _
                refine XS.icmpYes X151.here hx rfl (pc0 := 53) (pc' := 62) rfl (hb hby d3_53) rfl (tlt hd53_157).1 (by decide) (by decide) ?_
                show Steps p.tables e below (T151.setTop (mkF m 62 #[.val (.ref o0), .val (.int p1)] [])) _
                refine XS.iloadN X151.here hx rfl (hb hby d3_62) rfl ?_
                show Steps p.tables e below (T151.setTop (mkF m 63 #[.val (.ref o0), .val (.int p1)] [(.int p1)])) _
                refine XS.bipush X151.here hx rfl (hb hby d3_63) ?_
                exact kt)
            have hd65_159 : p1 < (7 : Int32) := Int32.lt_of_lt_of_le hc42_155 (by decide)
            have pre160 : ∀ t, Steps p.tables e below (T151.setTop (mkF m 77 #[.val (.ref o0), .val (.int p1)] [(.int (8 : Int32)), (.int p1)])) t → Steps p.tables e below (s₁.setTop (entryFrame m #[(.ref o0), (.int p1)] 2)) t := fun t kt => pre158 t (by
                show Steps p.tables e below (T151.setTop (mkF m 65 #[.val (.ref o0), .val (.int p1)] [(.int (7 : Int32)), (.int p1)])) _
                refine XS.icmpYes X151.here hx rfl (pc0 := 65) (pc' := 74) rfl (hb hby d3_65) rfl (tlt hd65_159).1 (by decide) (by decide) ?_
                show Steps p.tables e below (T151.setTop (mkF m 74 #[.val (.ref o0), .val (.int p1)] [])) _
                refine XS.iloadN X151.here hx rfl (hb hby d3_74) rfl ?_
                show Steps p.tables e below (T151.setTop (mkF m 75 #[.val (.ref o0), .val (.int p1)] [(.int p1)])) _
                refine XS.bipush X151.here hx rfl (hb hby d3_75) ?_
                exact kt)
            have hd77_161 : p1 < (8 : Int32) := Int32.lt_of_lt_of_le hc42_155 (by decide)
            have pre162 : ∀ t, Steps p.tables e below (T151.setTop (mkF m 89 #[.val (.ref o0), .val (.int p1)] [(.int (9 : Int32)), (.int p1)])) t → Steps p.tables e below (s₁.setTop (entryFrame m #[(.ref o0), (.int p1)] 2)) t := fun t kt => pre160 t (by
                show Steps p.tables e below (T151.setTop (mkF m 77 #[.val (.ref o0), .val (.int p1)] [(.int (8 : Int32)), (.int p1)])) _
                refine XS.icmpYes X151.here hx rfl (pc0 := 77) (pc' := 86) rfl (hb hby d3_77) rfl (tlt hd77_161).1 (by decide) (by decide) ?_
                show Steps p.tables e below (T151.setTop (mkF m 86 #[.val (.ref o0), .val (.int p1)] [])) _
                refine XS.iloadN X151.here hx rfl (hb hby d3_86) rfl ?_
                show Steps p.tables e below (T151.setTop (mkF m 87 #[.val (.ref o0), .val (.int p1)] [(.int p1)])) _
                refine XS.bipush X151.here hx rfl (hb hby d3_87) ?_
                exact kt)
            have hd89_163 : p1 < (9 : Int32) := Int32.lt_of_lt_of_le hc42_155 (by decide)
            have pre164 : ∀ t, Steps p.tables e below (T151.setTop (mkF m 101 #[.val (.ref o0), .val (.int p1)] [(.int (10 : Int32)), (.int p1)])) t → Steps p.tables e below (s₁.setTop (entryFrame m #[(.ref o0), (.int p1)] 2)) t := fun t kt => pre162 t (by
                show Steps p.tables e below (T151.setTop (mkF m 89 #[.val (.ref o0), .val (.int p1)] [(.int (9 : Int32)), (.int p1)])) _
                refine XS.icmpYes X151.here hx rfl (pc0 := 89) (pc' := 98) rfl (hb hby d3_89) rfl (tlt hd89_163).1 (by decide) (by decide) ?_
                show Steps p.tables e below (T151.setTop (mkF m 98 #[.val (.ref o0), .val (.int p1)] [])) _
                refine XS.iloadN X151.here hx rfl (hb hby d3_98) rfl ?_
                show Steps p.tables e below (T151.setTop (mkF m 99 #[.val (.ref o0), .val (.int p1)] [(.int p1)])) _
                refine XS.bipush X151.here hx rfl (hb hby d3_99) ?_
                exact kt)
            have hd101_165 : p1 < (10 : Int32) := Int32.lt_of_lt_of_le hc42_155 (by decide)
            have pre166 : ∀ t, Steps p.tables e below (T151.setTop (mkF m 113 #[.val (.ref o0), .val (.int p1)] [(.int (11 : Int32)), (.int p1)])) t → Steps p.tables e below (s₁.setTop (entryFrame m #[(.ref o0), (.int p1)] 2)) t := fun t kt => pre164 t (by
                show Steps p.tables e below (T151.setTop (mkF m 101 #[.val (.ref o0), .val (.int p1)] [(.int (10 : Int32)), (.int p1)])) _
                refine XS.icmpYes X151.here hx rfl (pc0 := 101) (pc' := 110) rfl (hb hby d3_101) rfl (tlt hd101_165).1 (by decide) (by decide) ?_
                show Steps p.tables e below (T151.setTop (mkF m 110 #[.val (.ref o0), .val (.int p1)] [])) _
                refine XS.iloadN X151.here hx rfl (hb hby d3_110) rfl ?_
                show Steps p.tables e below (T151.setTop (mkF m 111 #[.val (.ref o0), .val (.int p1)] [(.int p1)])) _
                refine XS.bipush X151.here hx rfl (hb hby d3_111) ?_
                exact kt)
            have hd113_167 : p1 < (11 : Int32) := Int32.lt_of_lt_of_le hc42_155 (by decide)
            have pre168 : ∀ t, Steps p.tables e below (T151.setTop (mkF m 125 #[.val (.ref o0), .val (.int p1)] [(.int (12 : Int32)), (.int p1)])) t → Steps p.tables e below (s₁.setTop (entryFrame m #[(.ref o0), (.int p1)] 2)) t := fun t kt => pre166 t (by
                show Steps p.tables e below (T151.setTop (mkF m 113 #[.val (.ref o0), .val (.int p1)] [(.int (11 : Int32)), (.int p1)])) _
                refine XS.icmpYes X151.here hx rfl (pc0 := 113) (pc' := 122) rfl (hb hby d3_113) rfl (tlt hd113_167).1 (by decide) (by decide) ?_
                show Steps p.tables e below (T151.setTop (mkF m 122 #[.val (.ref o0), .val (.int p1)] [])) _
                refine XS.iloadN X151.here hx rfl (hb hby d3_122) rfl ?_
                show Steps p.tables e below (T151.setTop (mkF m 123 #[.val (.ref o0), .val (.int p1)] [(.int p1)])) _
                refine XS.bipush X151.here hx rfl (hb hby d3_123) ?_
                exact kt)
            have hd125_169 : p1 < (12 : Int32) := Int32.lt_of_lt_of_le hc42_155 (by decide)
            have pre170 : ∀ t, Steps p.tables e below (T151.setTop (mkF m 137 #[.val (.ref o0), .val (.int p1)] [(.int (13 : Int32)), (.int p1)])) t → Steps p.tables e below (s₁.setTop (entryFrame m #[(.ref o0), (.int p1)] 2)) t := fun t kt => pre168 t (by
                show Steps p.tables e below (T151.setTop (mkF m 125 #[.val (.ref o0), .val (.int p1)] [(.int (12 : Int32)), (.int p1)])) _
                refine XS.icmpYes X151.here hx rfl (pc0 := 125) (pc' := 134) rfl (hb hby d3_125) rfl (tlt hd125_169).1 (by decide) (by decide) ?_
                show Steps p.tables e below (T151.setTop (mkF m 134 #[.val (.ref o0), .val (.int p1)] [])) _
                refine XS.iloadN X151.here hx rfl (hb hby d3_134) rfl ?_
                show Steps p.tables e below (T151.setTop (mkF m 135 #[.val (.ref o0), .val (.int p1)] [(.int p1)])) _
                refine XS.bipush X151.here hx rfl (hb hby d3_135) ?_
                exact kt)
            have hd137_171 : p1 < (13 : Int32) := Int32.lt_of_lt_of_le hc42_155 (by decide)
            have pre172 : ∀ t, Steps p.tables e below (T151.setTop (mkF m 149 #[.val (.ref o0), .val (.int p1)] [(.int (14 : Int32)), (.int p1)])) t → Steps p.tables e below (s₁.setTop (entryFrame m #[(.ref o0), (.int p1)] 2)) t := fun t kt => pre170 t (by
                show Steps p.tables e below (T151.setTop (mkF m 137 #[.val (.ref o0), .val (.int p1)] [(.int (13 : Int32)), (.int p1)])) _
                refine XS.icmpYes X151.here hx rfl (pc0 := 137) (pc' := 146) rfl (hb hby d3_137) rfl (tlt hd137_171).1 (by decide) (by decide) ?_
                show Steps p.tables e below (T151.setTop (mkF m 146 #[.val (.ref o0), .val (.int p1)] [])) _
                refine XS.iloadN X151.here hx rfl (hb hby d3_146) rfl ?_
                show Steps p.tables e below (T151.setTop (mkF m 147 #[.val (.ref o0), .val (.int p1)] [(.int p1)])) _
                refine XS.bipush X151.here hx rfl (hb hby d3_147) ?_
                exact kt)
            have hd149_173 : p1 < (14 : Int32) := Int32.lt_of_lt_of_le hc42_155 (by decide)
            have pre174 : ∀ t, Steps p.tables e below (T151.setTop (mkF m 161 #[.val (.ref o0), .val (.int p1)] [(.int (15 : Int32)), (.int p1)])) t → Steps p.tables e below (s₁.setTop (entryFrame m #[(.ref o0), (.int p1)] 2)) t := fun t kt => pre172 t (by
                show Steps p.tables e below (T151.setTop (mkF m 149 #[.val (.ref o0), .val (.int p1)] [(.int (14 : Int32)), (.int p1)])) _
                refine XS.icmpYes X151.here hx rfl (pc0 := 149) (pc' := 158) rfl (hb hby d3_149) rfl (tlt hd149_173).1 (by decide) (by decide) ?_
                show Steps p.tables e below (T151.setTop (mkF m 158 #[.val (.ref o0), .val (.int p1)] [])) _
                refine XS.iloadN X151.here hx rfl (hb hby d3_158) rfl ?_
                show Steps p.tables e below (T151.setTop (mkF m 159 #[.val (.ref o0), .val (.int p1)] [(.int p1)])) _
                refine XS.bipush X151.here hx rfl (hb hby d3_159) ?_
                exact kt)
            have hd161_175 : p1 < (15 : Int32) := Int32.lt_of_lt_of_le hc42_155 (by decide)
            have pre176 : ∀ t, Steps p.tables e below (T151.setTop (mkF m 173 #[.val (.ref o0), .val (.int p1)] [(.int (16 : Int32)), (.int p1)])) t → Steps p.tables e below (s₁.setTop (entryFrame m #[(.ref o0), (.int p1)] 2)) t := fun t kt => pre174 t (by
                show Steps p.tables e below (T151.setTop (mkF m 161 #[.val (.ref o0), .val (.int p1)] [(.int (15 : Int32)), (.int p1)])) _
                refine XS.icmpYes X151.here hx rfl (pc0 := 161) (pc' := 170) rfl (hb hby d3_161) rfl (tlt hd161_175).1 (by decide) (by decide) ?_
                show Steps p.tables e below (T151.setTop (mkF m 170 #[.val (.ref o0), .val (.int p1)] [])) _
                refine XS.iloadN X151.here hx rfl (hb hby d3_170) rfl ?_
                show Steps p.tables e below (T151.setTop (mkF m 171 #[.val (.ref o0), .val (.int p1)] [(.int p1)])) _
                refine XS.bipush X151.here hx rfl (hb hby d3_171) ?_
                exact kt)
            have hd173_177 : p1 < (16 : Int32) := Int32.lt_of_lt_of_le hc42_155 (by decide)
            have pre178 : ∀ t, Steps p.tables e below (T151.setTop (mkF m 185 #[.val (.ref o0), .val (.int p1)] [(.int (17 : Int32)), (.int p1)])) t → Steps p.tables e below (s₁.setTop (entryFrame m #[(.ref o0), (.int p1)] 2)) t := fun t kt => pre176 t (by
                show Steps p.tables e below (T151.setTop (mkF m 173 #[.val (.ref o0), .val (.int p1)] [(.int (16 : Int32)), (.int p1)])) _
                refine XS.icmpYes X151.here hx rfl (pc0 := 173) (pc' := 182) rfl (hb hby d3_173) rfl (tlt hd173_177).1 (by decide) (by decide) ?_
                show Steps p.tables e below (T151.setTop (mkF m 182 #[.val (.ref o0), .val (.int p1)] [])) _
                refine XS.iloadN X151.here hx rfl (hb hby d3_182) rfl ?_
                show Steps p.tables e below (T151.setTop (mkF m 183 #[.val (.ref o0), .val (.int p1)] [(.int p1)])) _
                refine XS.bipush X151.here hx rfl (hb hby d3_183) ?_
                exact kt)
            have hd185_179 : p1 < (17 : Int32) := Int32.lt_of_lt_of_le hc42_155 (by decide)
            have pre180 : ∀ t, Steps p.tables e below (T151.setTop (mkF m 197 #[.val (.ref o0), .val (.int p1)] [(.int (18 : Int32)), (.int p1)])) t → Steps p.tables e below (s₁.setTop (entryFrame m #[(.ref o0), (.int p1)] 2)) t := fun t kt => pre178 t (by
                show Steps p.tables e below (T151.setTop (mkF m 185 #[.val (.ref o0), .val (.int p1)] [(.int (17 : Int32)), (.int p1)])) _
                refine XS.icmpYes X151.here hx rfl (pc0 := 185) (pc' := 194) rfl (hb hby d3_185) rfl (tlt hd185_179).1 (by decide) (by decide) ?_
                show Steps p.tables e below (T151.setTop (mkF m 194 #[.val (.ref o0), .val (.int p1)] [])) _
                refine XS.iloadN X151.here hx rfl (hb hby d3_194) rfl ?_
                show Steps p.tables e below (T151.setTop (mkF m 195 #[.val (.ref o0), .val (.int p1)] [(.int p1)])) _
                refine XS.bipush X151.here hx rfl (hb hby d3_195) ?_
                exact kt)
            have hd197_181 : p1 < (18 : Int32) := Int32.lt_of_lt_of_le hc42_155 (by decide)
            have pre182 : ∀ t, Steps p.tables e below (T151.setTop (mkF m 209 #[.val (.ref o0), .val (.int p1)] [(.int (19 : Int32)), (.int p1)])) t → Steps p.tables e below (s₁.setTop (entryFrame m #[(.ref o0), (.int p1)] 2)) t := fun t kt => pre180 t (by
                show Steps p.tables e below (T151.setTop (mkF m 197 #[.val (.ref o0), .val (.int p1)] [(.int (18 : Int32)), (.int p1)])) _
                refine XS.icmpYes X151.here hx rfl (pc0 := 197) (pc' := 206) rfl (hb hby d3_197) rfl (tlt hd197_181).1 (by decide) (by decide) ?_
                show Steps p.tables e below (T151.setTop (mkF m 206 #[.val (.ref o0), .val (.int p1)] [])) _
                refine XS.iloadN X151.here hx rfl (hb hby d3_206) rfl ?_
                show Steps p.tables e below (T151.setTop (mkF m 207 #[.val (.ref o0), .val (.int p1)] [(.int p1)])) _
                refine XS.bipush X151.here hx rfl (hb hby d3_207) ?_
                exact kt)
            have hd209_183 : p1 < (19 : Int32) := Int32.lt_of_lt_of_le hc42_155 (by decide)
            obtain ⟨fs, hr, hrun, hended, hW, hsame⟩ := X151.leave (v := none) (fun _ => rfl)
            refine ⟨_, _, pre182 _ ?_, hrun, hended, _, _, rfl, ?_, ⟨_, rfl⟩, hW, hsame.mono (by decide) (by decide)⟩
            · show Steps p.tables e below (T151.setTop (mkF m 209 #[.val (.ref o0), .val (.int p1)] [(.int (19 : Int32)), (.int p1)])) _
              refine XS.icmpYes X151.here hx rfl (pc0 := 209) (pc' := 218) rfl (hb hby d3_209) rfl (tlt hd209_183).1 (by decide) (by decide) ?_
              show Steps p.tables e below (T151.setTop (mkF m 218 #[.val (.ref o0), .val (.int p1)] [])) _
              exact X151.returnOut hx Bd.returns (hb hby d3_218) hr
            · show Q3 Z o0 p1 r1 F1 h0 n0 _ T151.heap _
              exact ⟨rfl, N151, K152, (by rw [f3_r1_a, if_neg hc2_2, if_neg hc12_43, if_neg hc22_82, if_neg hc32_120, if_pos hc42_155]; exact G151_0)⟩
          · have c185 := ((c116.keep K115q (ninS ne_o0_r1 nin0)).keep K151q (ninS ne_o0_r1 nin0))
            obtain ⟨cq184, kq184, q184a, q184b, q184c⟩ := isOf hZ rfl ((((E_o0.keep K39q).keep K78q).keep K115q).keep K151q)
            obtain ⟨_, _, ⟨T184, L184, k184, n184⟩, -, X184, ⟨Lc184, hQ184, l184, y184, z184⟩, st184⟩ := X151.virtualBack hx (y := (⟨"com/example/cardhost/cardhost/LogicalChannels", "open", "(I)V"⟩ : MethodName)) (z := (⟨"com/example/cardhost/cardhost/LogicalChannels", "open", "(I)V"⟩ : MethodName)) hown (mvT hZ (hw _ (List.mem_of_getElem? (i := 23) rfl))) (mvT hZ (hw _ (List.mem_of_getElem? (i := 24) rfl))) (notFace_of_selects (args := #[]) (mvT hZ (hw _ (List.mem_of_getElem? (i := 26) rfl)))) (mvT hZ (hw _ (List.mem_of_getElem? (i := 26) rfl))) (mvT hZ (hw _ (List.mem_of_getElem? (i := 25) rfl))) (by decide) (backOf (W := 0) (rm4 l Z a0 hw [] o0 (5 : Int32) r1 (own_upd (own_upd (own_upd (own_upd F1 ((1 : Int32)).toNatClampNeg (1 : Int32)) ((2 : Int32)).toNatClampNeg (1 : Int32)) ((3 : Int32)).toNatClampNeg (1 : Int32)) ((4 : Int32)).toNatClampNeg (1 : Int32)) T151.heap n0 Z153 c185 G151_0 g_r1 (by decide)) hZ (hw _ (List.mem_of_getElem? (i := 27) rfl)) (hw _ (List.mem_of_getElem? (i := 3) rfl)) (by decide) (by decide)) q184a q184c (g := (mkF m 47 #[.val (.ref o0), .val (.int p1)] [(.int (5 : Int32)), (.ref o0)])) rfl (by rw [hml]; rfl) (Steps.refl _) (argsL := [(.int (5 : Int32))]) (rest := []) (lenOf pd_3_0 rfl) rfl (by show 2 * 0 + _ ≤ _; exact Nat.le_of_eq rfl) (hb hby d3_47) (fun _ _ => ⟨rfl, rfl, (by decide : 0 + 0 ≤ _), (by decide : 0 + 0 ≤ _)⟩)
            dsimp only [Pt.U, Pt.locs, Pt.cells, Pt.slots] at X184 l184 y184 z184 st184 hQ184
            subst l184 y184 z184
            obtain ⟨rfl, N184q, K184q, G184_0⟩ := hQ184
            have N184 := Fr.app N151 N184q
            have K186 : Keep h0 T184.heap [r1] := K152.trans K184q (allS (Or.inl (List.mem_of_getElem? (i := 0) rfl)) all0)
            have Z187 : n0 ≤ T184.heap.size := Nat.le_trans Z0 K186.1
            obtain ⟨LS184, X184, N184⟩ : ∃ L, Stand p l e ({ frames := 1, cells := 0, slots := 0, locals := 13 } : Room) s m #[(.ref o0), (.int p1)] below meth c T184 L 0 0 ∧ Fr n0 L := ⟨_, X184, N184⟩
            have pre188 : ∀ t, Steps p.tables e below (T184.setTop (mkF m 53 #[.val (.ref o0), .val (.int p1)] [(.int (6 : Int32)), (.int p1)])) t → Steps p.tables e below (s₁.setTop (entryFrame m #[(.ref o0), (.int p1)] 2)) t := fun t kt => pre154 t (by
                show Steps p.tables e below (T151.setTop (mkF m 42 #[.val (.ref o0), .val (.int p1)] [(.int (5 : Int32)), (.int p1)])) _
                refine XS.icmpNo X151.here hx rfl (hb hby d3_42) rfl (flt hc42_155).1 ?_
                show Steps p.tables e below (T151.setTop (mkF m 45 #[.val (.ref o0), .val (.int p1)] [])) _
                refine XS.aloadN X151.here hx rfl (hb hby d3_45) rfl rfl ?_
                show Steps p.tables e below (T151.setTop (mkF m 46 #[.val (.ref o0), .val (.int p1)] [(.ref o0)])) _
                refine XS.iconst X151.here hx rfl (hb hby d3_46) ?_
                show Steps p.tables e below (T151.setTop (mkF m 47 #[.val (.ref o0), .val (.int p1)] [(.int (5 : Int32)), (.ref o0)])) _
                refine st184.trans ?_
                show Steps p.tables e below (T184.setTop (mkF m 50 #[.val (.ref o0), .val (.int p1)] [])) _
                refine XS.iloadN X184.here hx rfl (hb hby d3_50) rfl ?_
                show Steps p.tables e below (T184.setTop (mkF m 51 #[.val (.ref o0), .val (.int p1)] [(.int p1)])) _
                refine XS.bipush X184.here hx rfl (hb hby d3_51) ?_
                exact kt)
            by_cases hc53_189 : p1 < (6 : Int32)
            · have pre190 : ∀ t, Steps p.tables e below (T184.setTop (mkF m 65 #[.val (.ref o0), .val (.int p1)] [(.int (7 : Int32)), (.int p1)])) t → Steps p.tables e below (s₁.setTop (entryFrame m #[(.ref o0), (.int p1)] 2)) t := fun t kt => pre188 t (by
                  show Steps p.tables e below (T184.setTop (mkF m 53 #[.val (.ref o0), .val (.int p1)] [(.int (6 : Int32)), (.int p1)])) _
                  refine XS.icmpYes X184.here hx rfl (pc0 := 53) (pc' := 62) rfl (hb hby d3_53) rfl (tlt hc53_189).1 (by decide) (by decide) ?_
                  show Steps p.tables e below (T184.setTop (mkF m 62 #[.val (.ref o0), .val (.int p1)] [])) _
                  refine XS.iloadN X184.here hx rfl (hb hby d3_62) rfl ?_
                  show Steps p.tables e below (T184.setTop (mkF m 63 #[.val (.ref o0), .val (.int p1)] [(.int p1)])) _
                  refine XS.bipush X184.here hx rfl (hb hby d3_63) ?_
                  exact kt)
              have hd65_191 : p1 < (7 : Int32) := Int32.lt_of_lt_of_le hc53_189 (by decide)
              have pre192 : ∀ t, Steps p.tables e below (T184.setTop (mkF m 77 #[.val (.ref o0), .val (.int p1)] [(.int (8 : Int32)), (.int p1)])) t → Steps p.tables e below (s₁.setTop (entryFrame m #[(.ref o0), (.int p1)] 2)) t := fun t kt => pre190 t (by
                  show Steps p.tables e below (T184.setTop (mkF m 65 #[.val (.ref o0), .val (.int p1)] [(.int (7 : Int32)), (.int p1)])) _
                  refine XS.icmpYes X184.here hx rfl (pc0 := 65) (pc' := 74) rfl (hb hby d3_65) rfl (tlt hd65_191).1 (by decide) (by decide) ?_
                  show Steps p.tables e below (T184.setTop (mkF m 74 #[.val (.ref o0), .val (.int p1)] [])) _
                  refine XS.iloadN X184.here hx rfl (hb hby d3_74) rfl ?_
                  show Steps p.tables e below (T184.setTop (mkF m 75 #[.val (.ref o0), .val (.int p1)] [(.int p1)])) _
                  refine XS.bipush X184.here hx rfl (hb hby d3_75) ?_
                  exact kt)
              have hd77_193 : p1 < (8 : Int32) := Int32.lt_of_lt_of_le hc53_189 (by decide)
              have pre194 : ∀ t, Steps p.tables e below (T184.setTop (mkF m 89 #[.val (.ref o0), .val (.int p1)] [(.int (9 : Int32)), (.int p1)])) t → Steps p.tables e below (s₁.setTop (entryFrame m #[(.ref o0), (.int p1)] 2)) t := fun t kt => pre192 t (by
                  show Steps p.tables e below (T184.setTop (mkF m 77 #[.val (.ref o0), .val (.int p1)] [(.int (8 : Int32)), (.int p1)])) _
                  refine XS.icmpYes X184.here hx rfl (pc0 := 77) (pc' := 86) rfl (hb hby d3_77) rfl (tlt hd77_193).1 (by decide) (by decide) ?_
                  show Steps p.tables e below (T184.setTop (mkF m 86 #[.val (.ref o0), .val (.int p1)] [])) _
                  refine XS.iloadN X184.here hx rfl (hb hby d3_86) rfl ?_
                  show Steps p.tables e below (T184.setTop (mkF m 87 #[.val (.ref o0), .val (.int p1)] [(.int p1)])) _
                  refine XS.bipush X184.here hx rfl (hb hby d3_87) ?_
                  exact kt)
              have hd89_195 : p1 < (9 : Int32) := Int32.lt_of_lt_of_le hc53_189 (by decide)
              have pre196 : ∀ t, Steps p.tables e below (T184.setTop (mkF m 101 #[.val (.ref o0), .val (.int p1)] [(.int (10 : Int32)), (.int p1)])) t → Steps p.tables e below (s₁.setTop (entryFrame m #[(.ref o0), (.int p1)] 2)) t := fun t kt => pre194 t (by
                  show Steps p.tables e below (T184.setTop (mkF m 89 #[.val (.ref o0), .val (.int p1)] [(.int (9 : Int32)), (.int p1)])) _
                  refine XS.icmpYes X184.here hx rfl (pc0 := 89) (pc' := 98) rfl (hb hby d3_89) rfl (tlt hd89_195).1 (by decide) (by decide) ?_
                  show Steps p.tables e below (T184.setTop (mkF m 98 #[.val (.ref o0), .val (.int p1)] [])) _
                  refine XS.iloadN X184.here hx rfl (hb hby d3_98) rfl ?_
                  show Steps p.tables e below (T184.setTop (mkF m 99 #[.val (.ref o0), .val (.int p1)] [(.int p1)])) _
                  refine XS.bipush X184.here hx rfl (hb hby d3_99) ?_
                  exact kt)
              have hd101_197 : p1 < (10 : Int32) := Int32.lt_of_lt_of_le hc53_189 (by decide)
              have pre198 : ∀ t, Steps p.tables e below (T184.setTop (mkF m 113 #[.val (.ref o0), .val (.int p1)] [(.int (11 : Int32)), (.int p1)])) t → Steps p.tables e below (s₁.setTop (entryFrame m #[(.ref o0), (.int p1)] 2)) t := fun t kt => pre196 t (by
                  show Steps p.tables e below (T184.setTop (mkF m 101 #[.val (.ref o0), .val (.int p1)] [(.int (10 : Int32)), (.int p1)])) _
                  refine XS.icmpYes X184.here hx rfl (pc0 := 101) (pc' := 110) rfl (hb hby d3_101) rfl (tlt hd101_197).1 (by decide) (by decide) ?_
                  show Steps p.tables e below (T184.setTop (mkF m 110 #[.val (.ref o0), .val (.int p1)] [])) _
                  refine XS.iloadN X184.here hx rfl (hb hby d3_110) rfl ?_
                  show Steps p.tables e below (T184.setTop (mkF m 111 #[.val (.ref o0), .val (.int p1)] [(.int p1)])) _
                  refine XS.bipush X184.here hx rfl (hb hby d3_111) ?_
                  exact kt)
              have hd113_199 : p1 < (11 : Int32) := Int32.lt_of_lt_of_le hc53_189 (by decide)
              have pre200 : ∀ t, Steps p.tables e below (T184.setTop (mkF m 125 #[.val (.ref o0), .val (.int p1)] [(.int (12 : Int32)), (.int p1)])) t → Steps p.tables e below (s₁.setTop (entryFrame m #[(.ref o0), (.int p1)] 2)) t := fun t kt => pre198 t (by
                  show Steps p.tables e below (T184.setTop (mkF m 113 #[.val (.ref o0), .val (.int p1)] [(.int (11 : Int32)), (.int p1)])) _
                  refine XS.icmpYes X184.here hx rfl (pc0 := 113) (pc' := 122) rfl (hb hby d3_113) rfl (tlt hd113_199).1 (by decide) (by decide) ?_
                  show Steps p.tables e below (T184.setTop (mkF m 122 #[.val (.ref o0), .val (.int p1)] [])) _
                  refine XS.iloadN X184.here hx rfl (hb hby d3_122) rfl ?_
                  show Steps p.tables e below (T184.setTop (mkF m 123 #[.val (.ref o0), .val (.int p1)] [(.int p1)])) _
                  refine XS.bipush X184.here hx rfl (hb hby d3_123) ?_
                  exact kt)
              have hd125_201 : p1 < (12 : Int32) := Int32.lt_of_lt_of_le hc53_189 (by decide)
              have pre202 : ∀ t, Steps p.tables e below (T184.setTop (mkF m 137 #[.val (.ref o0), .val (.int p1)] [(.int (13 : Int32)), (.int p1)])) t → Steps p.tables e below (s₁.setTop (entryFrame m #[(.ref o0), (.int p1)] 2)) t := fun t kt => pre200 t (by
                  show Steps p.tables e below (T184.setTop (mkF m 125 #[.val (.ref o0), .val (.int p1)] [(.int (12 : Int32)), (.int p1)])) _
                  refine XS.icmpYes X184.here hx rfl (pc0 := 125) (pc' := 134) rfl (hb hby d3_125) rfl (tlt hd125_201).1 (by decide) (by decide) ?_
                  show Steps p.tables e below (T184.setTop (mkF m 134 #[.val (.ref o0), .val (.int p1)] [])) _
                  refine XS.iloadN X184.here hx rfl (hb hby d3_134) rfl ?_
                  show Steps p.tables e below (T184.setTop (mkF m 135 #[.val (.ref o0), .val (.int p1)] [(.int p1)])) _
                  refine XS.bipush X184.here hx rfl (hb hby d3_135) ?_
                  exact kt)
              have hd137_203 : p1 < (13 : Int32) := Int32.lt_of_lt_of_le hc53_189 (by decide)
              have pre204 : ∀ t, Steps p.tables e below (T184.setTop (mkF m 149 #[.val (.ref o0), .val (.int p1)] [(.int (14 : Int32)), (.int p1)])) t → Steps p.tables e below (s₁.setTop (entryFrame m #[(.ref o0), (.int p1)] 2)) t := fun t kt => pre202 t (by
                  show Steps p.tables e below (T184.setTop (mkF m 137 #[.val (.ref o0), .val (.int p1)] [(.int (13 : Int32)), (.int p1)])) _
                  refine XS.icmpYes X184.here hx rfl (pc0 := 137) (pc' := 146) rfl (hb hby d3_137) rfl (tlt hd137_203).1 (by decide) (by decide) ?_
                  show Steps p.tables e below (T184.setTop (mkF m 146 #[.val (.ref o0), .val (.int p1)] [])) _
                  refine XS.iloadN X184.here hx rfl (hb hby d3_146) rfl ?_
                  show Steps p.tables e below (T184.setTop (mkF m 147 #[.val (.ref o0), .val (.int p1)] [(.int p1)])) _
                  refine XS.bipush X184.here hx rfl (hb hby d3_147) ?_
                  exact kt)
              have hd149_205 : p1 < (14 : Int32) := Int32.lt_of_lt_of_le hc53_189 (by decide)
              have pre206 : ∀ t, Steps p.tables e below (T184.setTop (mkF m 161 #[.val (.ref o0), .val (.int p1)] [(.int (15 : Int32)), (.int p1)])) t → Steps p.tables e below (s₁.setTop (entryFrame m #[(.ref o0), (.int p1)] 2)) t := fun t kt => pre204 t (by
                  show Steps p.tables e below (T184.setTop (mkF m 149 #[.val (.ref o0), .val (.int p1)] [(.int (14 : Int32)), (.int p1)])) _
                  refine XS.icmpYes X184.here hx rfl (pc0 := 149) (pc' := 158) rfl (hb hby d3_149) rfl (tlt hd149_205).1 (by decide) (by decide) ?_
                  show Steps p.tables e below (T184.setTop (mkF m 158 #[.val (.ref o0), .val (.int p1)] [])) _
                  refine XS.iloadN X184.here hx rfl (hb hby d3_158) rfl ?_
                  show Steps p.tables e below (T184.setTop (mkF m 159 #[.val (.ref o0), .val (.int p1)] [(.int p1)])) _
                  refine XS.bipush X184.here hx rfl (hb hby d3_159) ?_
                  exact kt)
              have hd161_207 : p1 < (15 : Int32) := Int32.lt_of_lt_of_le hc53_189 (by decide)
              have pre208 : ∀ t, Steps p.tables e below (T184.setTop (mkF m 173 #[.val (.ref o0), .val (.int p1)] [(.int (16 : Int32)), (.int p1)])) t → Steps p.tables e below (s₁.setTop (entryFrame m #[(.ref o0), (.int p1)] 2)) t := fun t kt => pre206 t (by
                  show Steps p.tables e below (T184.setTop (mkF m 161 #[.val (.ref o0), .val (.int p1)] [(.int (15 : Int32)), (.int p1)])) _
                  refine XS.icmpYes X184.here hx rfl (pc0 := 161) (pc' := 170) rfl (hb hby d3_161) rfl (tlt hd161_207).1 (by decide) (by decide) ?_
                  show Steps p.tables e below (T184.setTop (mkF m 170 #[.val (.ref o0), .val (.int p1)] [])) _
                  refine XS.iloadN X184.here hx rfl (hb hby d3_170) rfl ?_
                  show Steps p.tables e below (T184.setTop (mkF m 171 #[.val (.ref o0), .val (.int p1)] [(.int p1)])) _
                  refine XS.bipush X184.here hx rfl (hb hby d3_171) ?_
                  exact kt)
              have hd173_209 : p1 < (16 : Int32) := Int32.lt_of_lt_of_le hc53_189 (by decide)
              have pre210 : ∀ t, Steps p.tables e below (T184.setTop (mkF m 185 #[.val (.ref o0), .val (.int p1)] [(.int (17 : Int32)), (.int p1)])) t → Steps p.tables e below (s₁.setTop (entryFrame m #[(.ref o0), (.int p1)] 2)) t := fun t kt => pre208 t (by
                  show Steps p.tables e below (T184.setTop (mkF m 173 #[.val (.ref o0), .val (.int p1)] [(.int (16 : Int32)), (.int p1)])) _
                  refine XS.icmpYes X184.here hx rfl (pc0 := 173) (pc' := 182) rfl (hb hby d3_173) rfl (tlt hd173_209).1 (by decide) (by decide) ?_
                  show Steps p.tables e below (T184.setTop (mkF m 182 #[.val (.ref o0), .val (.int p1)] [])) _
                  refine XS.iloadN X184.here hx rfl (hb hby d3_182) rfl ?_
                  show Steps p.tables e below (T184.setTop (mkF m 183 #[.val (.ref o0), .val (.int p1)] [(.int p1)])) _
                  refine XS.bipush X184.here hx rfl (hb hby d3_183) ?_
                  exact kt)
              have hd185_211 : p1 < (17 : Int32) := Int32.lt_of_lt_of_le hc53_189 (by decide)
              have pre212 : ∀ t, Steps p.tables e below (T184.setTop (mkF m 197 #[.val (.ref o0), .val (.int p1)] [(.int (18 : Int32)), (.int p1)])) t → Steps p.tables e below (s₁.setTop (entryFrame m #[(.ref o0), (.int p1)] 2)) t := fun t kt => pre210 t (by
                  show Steps p.tables e below (T184.setTop (mkF m 185 #[.val (.ref o0), .val (.int p1)] [(.int (17 : Int32)), (.int p1)])) _
                  refine XS.icmpYes X184.here hx rfl (pc0 := 185) (pc' := 194) rfl (hb hby d3_185) rfl (tlt hd185_211).1 (by decide) (by decide) ?_
                  show Steps p.tables e below (T184.setTop (mkF m 194 #[.val (.ref o0), .val (.int p1)] [])) _
                  refine XS.iloadN X184.here hx rfl (hb hby d3_194) rfl ?_
                  show Steps p.tables e below (T184.setTop (mkF m 195 #[.val (.ref o0), .val (.int p1)] [(.int p1)])) _
                  refine XS.bipush X184.here hx rfl (hb hby d3_195) ?_
                  exact kt)
              have hd197_213 : p1 < (18 : Int32) := Int32.lt_of_lt_of_le hc53_189 (by decide)
              have pre214 : ∀ t, Steps p.tables e below (T184.setTop (mkF m 209 #[.val (.ref o0), .val (.int p1)] [(.int (19 : Int32)), (.int p1)])) t → Steps p.tables e below (s₁.setTop (entryFrame m #[(.ref o0), (.int p1)] 2)) t := fun t kt => pre212 t (by
                  show Steps p.tables e below (T184.setTop (mkF m 197 #[.val (.ref o0), .val (.int p1)] [(.int (18 : Int32)), (.int p1)])) _
                  refine XS.icmpYes X184.here hx rfl (pc0 := 197) (pc' := 206) rfl (hb hby d3_197) rfl (tlt hd197_213).1 (by decide) (by decide) ?_
                  show Steps p.tables e below (T184.setTop (mkF m 206 #[.val (.ref o0), .val (.int p1)] [])) _
                  refine XS.iloadN X184.here hx rfl (hb hby d3_206) rfl ?_
                  show Steps p.tables e below (T184.setTop (mkF m 207 #[.val (.ref o0), .val (.int p1)] [(.int p1)])) _
                  refine XS.bipush X184.here hx rfl (hb hby d3_207) ?_
                  exact kt)
              have hd209_215 : p1 < (19 : Int32) := Int32.lt_of_lt_of_le hc53_189 (by decide)
              obtain ⟨fs, hr, hrun, hended, hW, hsame⟩ := X184.leave (v := none) (fun _ => rfl)
              refine ⟨_, _, pre214 _ ?_, hrun, hended, _, _, rfl, ?_, ⟨_, rfl⟩, hW, hsame.mono (by decide) (by decide)⟩
              · show Steps p.tables e below (T184.setTop (mkF m 209 #[.val (.ref o0), .val (.int p1)] [(.int (19 : Int32)), (.int p1)])) _
                refine XS.icmpYes X184.here hx rfl (pc0 := 209) (pc' := 218) rfl (hb hby d3_209) rfl (tlt hd209_215).1 (by decide) (by decide) ?_
                show Steps p.tables e below (T184.setTop (mkF m 218 #[.val (.ref o0), .val (.int p1)] [])) _
                exact X184.returnOut hx Bd.returns (hb hby d3_218) hr
              · show Q3 Z o0 p1 r1 F1 h0 n0 _ T184.heap _
                exact ⟨rfl, N184, K186, (by rw [f3_r1_a, if_neg hc2_2, if_neg hc12_43, if_neg hc22_82, if_neg hc32_120, if_neg hc42_155, if_pos hc53_189]; exact G184_0)⟩
            · have c217 := (((((E_o0.keep K39q).keep K78q).keep K115q).keep K151q).keep K184q)
              obtain ⟨cq216, kq216, q216a, q216b, q216c⟩ := isOf hZ rfl c217
              obtain ⟨_, _, ⟨T216, L216, k216, n216⟩, -, X216, ⟨Lc216, hQ216, l216, y216, z216⟩, st216⟩ := X184.virtualBack hx (y := (⟨"com/example/cardhost/cardhost/LogicalChannels", "open", "(I)V"⟩ : MethodName)) (z := (⟨"com/example/cardhost/cardhost/LogicalChannels", "open", "(I)V"⟩ : MethodName)) hown (mvT hZ (hw _ (List.mem_of_getElem? (i := 23) rfl))) (mvT hZ (hw _ (List.mem_of_getElem? (i := 24) rfl))) (notFace_of_selects (args := #[]) (mvT hZ (hw _ (List.mem_of_getElem? (i := 26) rfl)))) (mvT hZ (hw _ (List.mem_of_getElem? (i := 26) rfl))) (mvT hZ (hw _ (List.mem_of_getElem? (i := 25) rfl))) (by decide) (backOf (W := 0) (rm4 l Z a0 hw [] o0 (6 : Int32) r1 (own_upd (own_upd (own_upd (own_upd (own_upd F1 ((1 : Int32)).toNatClampNeg (1 : Int32)) ((2 : Int32)).toNatClampNeg (1 : Int32)) ((3 : Int32)).toNatClampNeg (1 : Int32)) ((4 : Int32)).toNatClampNeg (1 : Int32)) ((5 : Int32)).toNatClampNeg (1 : Int32)) T184.heap n0 Z187 (c185.keep K184q (ninS ne_o0_r1 nin0)) G184_0 g_r1 (by decide)) hZ (hw _ (List.mem_of_getElem? (i := 27) rfl)) (hw _ (List.mem_of_getElem? (i := 3) rfl)) (by decide) (by decide)) q216a q216c (g := (mkF m 59 #[.val (.ref o0), .val (.int p1)] [(.int (6 : Int32)), (.ref o0)])) rfl (by rw [hml]; rfl) (Steps.refl _) (argsL := [(.int (6 : Int32))]) (rest := []) (lenOf pd_3_0 rfl) rfl (by show 2 * 0 + _ ≤ _; exact Nat.le_of_eq rfl) (hb hby d3_59) (fun _ _ => ⟨rfl, rfl, (by decide : 0 + 0 ≤ _), (by decide : 0 + 0 ≤ _)⟩)
              dsimp only [Pt.U, Pt.locs, Pt.cells, Pt.slots] at X216 l216 y216 z216 st216 hQ216
              subst l216 y216 z216
              obtain ⟨rfl, N216q, K216q, G216_0⟩ := hQ216
              have N216 := Fr.app N184 N216q
              have K218 : Keep h0 T216.heap [r1] := K186.trans K216q (allS (Or.inl (List.mem_of_getElem? (i := 0) rfl)) all0)
              have Z219 : n0 ≤ T216.heap.size := Nat.le_trans Z0 K218.1
              obtain ⟨LS216, X216, N216⟩ : ∃ L, Stand p l e ({ frames := 1, cells := 0, slots := 0, locals := 13 } : Room) s m #[(.ref o0), (.int p1)] below meth c T216 L 0 0 ∧ Fr n0 L := ⟨_, X216, N216⟩
              have pre220 : ∀ t, Steps p.tables e below (T216.setTop (mkF m 65 #[.val (.ref o0), .val (.int p1)] [(.int (7 : Int32)), (.int p1)])) t → Steps p.tables e below (s₁.setTop (entryFrame m #[(.ref o0), (.int p1)] 2)) t := fun t kt => pre188 t (by
                  show Steps p.tables e below (T184.setTop (mkF m 53 #[.val (.ref o0), .val (.int p1)] [(.int (6 : Int32)), (.int p1)])) _
                  refine XS.icmpNo X184.here hx rfl (hb hby d3_53) rfl (flt hc53_189).1 ?_
                  show Steps p.tables e below (T184.setTop (mkF m 56 #[.val (.ref o0), .val (.int p1)] [])) _
                  refine XS.aloadN X184.here hx rfl (hb hby d3_56) rfl rfl ?_
                  show Steps p.tables e below (T184.setTop (mkF m 57 #[.val (.ref o0), .val (.int p1)] [(.ref o0)])) _
                  refine XS.bipush X184.here hx rfl (hb hby d3_57) ?_
                  show Steps p.tables e below (T184.setTop (mkF m 59 #[.val (.ref o0), .val (.int p1)] [(.int (6 : Int32)), (.ref o0)])) _
                  refine st216.trans ?_
                  show Steps p.tables e below (T216.setTop (mkF m 62 #[.val (.ref o0), .val (.int p1)] [])) _
                  refine XS.iloadN X216.here hx rfl (hb hby d3_62) rfl ?_
                  show Steps p.tables e below (T216.setTop (mkF m 63 #[.val (.ref o0), .val (.int p1)] [(.int p1)])) _
                  refine XS.bipush X216.here hx rfl (hb hby d3_63) ?_
                  exact kt)
              by_cases hc65_221 : p1 < (7 : Int32)
              · have pre222 : ∀ t, Steps p.tables e below (T216.setTop (mkF m 77 #[.val (.ref o0), .val (.int p1)] [(.int (8 : Int32)), (.int p1)])) t → Steps p.tables e below (s₁.setTop (entryFrame m #[(.ref o0), (.int p1)] 2)) t := fun t kt => pre220 t (by
                    show Steps p.tables e below (T216.setTop (mkF m 65 #[.val (.ref o0), .val (.int p1)] [(.int (7 : Int32)), (.int p1)])) _
                    refine XS.icmpYes X216.here hx rfl (pc0 := 65) (pc' := 74) rfl (hb hby d3_65) rfl (tlt hc65_221).1 (by decide) (by decide) ?_
                    show Steps p.tables e below (T216.setTop (mkF m 74 #[.val (.ref o0), .val (.int p1)] [])) _
                    refine XS.iloadN X216.here hx rfl (hb hby d3_74) rfl ?_
                    show Steps p.tables e below (T216.setTop (mkF m 75 #[.val (.ref o0), .val (.int p1)] [(.int p1)])) _
                    refine XS.bipush X216.here hx rfl (hb hby d3_75) ?_
                    exact kt)
                have hd77_223 : p1 < (8 : Int32) := Int32.lt_of_lt_of_le hc65_221 (by decide)
                have pre224 : ∀ t, Steps p.tables e below (T216.setTop (mkF m 89 #[.val (.ref o0), .val (.int p1)] [(.int (9 : Int32)), (.int p1)])) t → Steps p.tables e below (s₁.setTop (entryFrame m #[(.ref o0), (.int p1)] 2)) t := fun t kt => pre222 t (by
                    show Steps p.tables e below (T216.setTop (mkF m 77 #[.val (.ref o0), .val (.int p1)] [(.int (8 : Int32)), (.int p1)])) _
                    refine XS.icmpYes X216.here hx rfl (pc0 := 77) (pc' := 86) rfl (hb hby d3_77) rfl (tlt hd77_223).1 (by decide) (by decide) ?_
                    show Steps p.tables e below (T216.setTop (mkF m 86 #[.val (.ref o0), .val (.int p1)] [])) _
                    refine XS.iloadN X216.here hx rfl (hb hby d3_86) rfl ?_
                    show Steps p.tables e below (T216.setTop (mkF m 87 #[.val (.ref o0), .val (.int p1)] [(.int p1)])) _
                    refine XS.bipush X216.here hx rfl (hb hby d3_87) ?_
                    exact kt)
                have hd89_225 : p1 < (9 : Int32) := Int32.lt_of_lt_of_le hc65_221 (by decide)
                have pre226 : ∀ t, Steps p.tables e below (T216.setTop (mkF m 101 #[.val (.ref o0), .val (.int p1)] [(.int (10 : Int32)), (.int p1)])) t → Steps p.tables e below (s₁.setTop (entryFrame m #[(.ref o0), (.int p1)] 2)) t := fun t kt => pre224 t (by
                    show Steps p.tables e below (T216.setTop (mkF m 89 #[.val (.ref o0), .val (.int p1)] [(.int (9 : Int32)), (.int p1)])) _
                    refine XS.icmpYes X216.here hx rfl (pc0 := 89) (pc' := 98) rfl (hb hby d3_89) rfl (tlt hd89_225).1 (by decide) (by decide) ?_
                    show Steps p.tables e below (T216.setTop (mkF m 98 #[.val (.ref o0), .val (.int p1)] [])) _
                    refine XS.iloadN X216.here hx rfl (hb hby d3_98) rfl ?_
                    show Steps p.tables e below (T216.setTop (mkF m 99 #[.val (.ref o0), .val (.int p1)] [(.int p1)])) _
                    refine XS.bipush X216.here hx rfl (hb hby d3_99) ?_
                    exact kt)
                have hd101_227 : p1 < (10 : Int32) := Int32.lt_of_lt_of_le hc65_221 (by decide)
                have pre228 : ∀ t, Steps p.tables e below (T216.setTop (mkF m 113 #[.val (.ref o0), .val (.int p1)] [(.int (11 : Int32)), (.int p1)])) t → Steps p.tables e below (s₁.setTop (entryFrame m #[(.ref o0), (.int p1)] 2)) t := fun t kt => pre226 t (by
                    show Steps p.tables e below (T216.setTop (mkF m 101 #[.val (.ref o0), .val (.int p1)] [(.int (10 : Int32)), (.int p1)])) _
                    refine XS.icmpYes X216.here hx rfl (pc0 := 101) (pc' := 110) rfl (hb hby d3_101) rfl (tlt hd101_227).1 (by decide) (by decide) ?_
                    show Steps p.tables e below (T216.setTop (mkF m 110 #[.val (.ref o0), .val (.int p1)] [])) _
                    refine XS.iloadN X216.here hx rfl (hb hby d3_110) rfl ?_
                    show Steps p.tables e below (T216.setTop (mkF m 111 #[.val (.ref o0), .val (.int p1)] [(.int p1)])) _
                    refine XS.bipush X216.here hx rfl (hb hby d3_111) ?_
                    exact kt)
                have hd113_229 : p1 < (11 : Int32) := Int32.lt_of_lt_of_le hc65_221 (by decide)
                have pre230 : ∀ t, Steps p.tables e below (T216.setTop (mkF m 125 #[.val (.ref o0), .val (.int p1)] [(.int (12 : Int32)), (.int p1)])) t → Steps p.tables e below (s₁.setTop (entryFrame m #[(.ref o0), (.int p1)] 2)) t := fun t kt => pre228 t (by
                    show Steps p.tables e below (T216.setTop (mkF m 113 #[.val (.ref o0), .val (.int p1)] [(.int (11 : Int32)), (.int p1)])) _
                    refine XS.icmpYes X216.here hx rfl (pc0 := 113) (pc' := 122) rfl (hb hby d3_113) rfl (tlt hd113_229).1 (by decide) (by decide) ?_
                    show Steps p.tables e below (T216.setTop (mkF m 122 #[.val (.ref o0), .val (.int p1)] [])) _
                    refine XS.iloadN X216.here hx rfl (hb hby d3_122) rfl ?_
                    show Steps p.tables e below (T216.setTop (mkF m 123 #[.val (.ref o0), .val (.int p1)] [(.int p1)])) _
                    refine XS.bipush X216.here hx rfl (hb hby d3_123) ?_
                    exact kt)
                have hd125_231 : p1 < (12 : Int32) := Int32.lt_of_lt_of_le hc65_221 (by decide)
                have pre232 : ∀ t, Steps p.tables e below (T216.setTop (mkF m 137 #[.val (.ref o0), .val (.int p1)] [(.int (13 : Int32)), (.int p1)])) t → Steps p.tables e below (s₁.setTop (entryFrame m #[(.ref o0), (.int p1)] 2)) t := fun t kt => pre230 t (by
                    show Steps p.tables e below (T216.setTop (mkF m 125 #[.val (.ref o0), .val (.int p1)] [(.int (12 : Int32)), (.int p1)])) _
                    refine XS.icmpYes X216.here hx rfl (pc0 := 125) (pc' := 134) rfl (hb hby d3_125) rfl (tlt hd125_231).1 (by decide) (by decide) ?_
                    show Steps p.tables e below (T216.setTop (mkF m 134 #[.val (.ref o0), .val (.int p1)] [])) _
                    refine XS.iloadN X216.here hx rfl (hb hby d3_134) rfl ?_
                    show Steps p.tables e below (T216.setTop (mkF m 135 #[.val (.ref o0), .val (.int p1)] [(.int p1)])) _
                    refine XS.bipush X216.here hx rfl (hb hby d3_135) ?_
                    exact kt)
                have hd137_233 : p1 < (13 : Int32) := Int32.lt_of_lt_of_le hc65_221 (by decide)
                have pre234 : ∀ t, Steps p.tables e below (T216.setTop (mkF m 149 #[.val (.ref o0), .val (.int p1)] [(.int (14 : Int32)), (.int p1)])) t → Steps p.tables e below (s₁.setTop (entryFrame m #[(.ref o0), (.int p1)] 2)) t := fun t kt => pre232 t (by
                    show Steps p.tables e below (T216.setTop (mkF m 137 #[.val (.ref o0), .val (.int p1)] [(.int (13 : Int32)), (.int p1)])) _
                    refine XS.icmpYes X216.here hx rfl (pc0 := 137) (pc' := 146) rfl (hb hby d3_137) rfl (tlt hd137_233).1 (by decide) (by decide) ?_
                    show Steps p.tables e below (T216.setTop (mkF m 146 #[.val (.ref o0), .val (.int p1)] [])) _
                    refine XS.iloadN X216.here hx rfl (hb hby d3_146) rfl ?_
                    show Steps p.tables e below (T216.setTop (mkF m 147 #[.val (.ref o0), .val (.int p1)] [(.int p1)])) _
                    refine XS.bipush X216.here hx rfl (hb hby d3_147) ?_
                    exact kt)
                have hd149_235 : p1 < (14 : Int32) := Int32.lt_of_lt_of_le hc65_221 (by decide)
                have pre236 : ∀ t, Steps p.tables e below (T216.setTop (mkF m 161 #[.val (.ref o0), .val (.int p1)] [(.int (15 : Int32)), (.int p1)])) t → Steps p.tables e below (s₁.setTop (entryFrame m #[(.ref o0), (.int p1)] 2)) t := fun t kt => pre234 t (by
                    show Steps p.tables e below (T216.setTop (mkF m 149 #[.val (.ref o0), .val (.int p1)] [(.int (14 : Int32)), (.int p1)])) _
                    refine XS.icmpYes X216.here hx rfl (pc0 := 149) (pc' := 158) rfl (hb hby d3_149) rfl (tlt hd149_235).1 (by decide) (by decide) ?_
                    show Steps p.tables e below (T216.setTop (mkF m 158 #[.val (.ref o0), .val (.int p1)] [])) _
                    refine XS.iloadN X216.here hx rfl (hb hby d3_158) rfl ?_
                    show Steps p.tables e below (T216.setTop (mkF m 159 #[.val (.ref o0), .val (.int p1)] [(.int p1)])) _
                    refine XS.bipush X216.here hx rfl (hb hby d3_159) ?_
                    exact kt)
                have hd161_237 : p1 < (15 : Int32) := Int32.lt_of_lt_of_le hc65_221 (by decide)
                have pre238 : ∀ t, Steps p.tables e below (T216.setTop (mkF m 173 #[.val (.ref o0), .val (.int p1)] [(.int (16 : Int32)), (.int p1)])) t → Steps p.tables e below (s₁.setTop (entryFrame m #[(.ref o0), (.int p1)] 2)) t := fun t kt => pre236 t (by
                    show Steps p.tables e below (T216.setTop (mkF m 161 #[.val (.ref o0), .val (.int p1)] [(.int (15 : Int32)), (.int p1)])) _
                    refine XS.icmpYes X216.here hx rfl (pc0 := 161) (pc' := 170) rfl (hb hby d3_161) rfl (tlt hd161_237).1 (by decide) (by decide) ?_
                    show Steps p.tables e below (T216.setTop (mkF m 170 #[.val (.ref o0), .val (.int p1)] [])) _
                    refine XS.iloadN X216.here hx rfl (hb hby d3_170) rfl ?_
                    show Steps p.tables e below (T216.setTop (mkF m 171 #[.val (.ref o0), .val (.int p1)] [(.int p1)])) _
                    refine XS.bipush X216.here hx rfl (hb hby d3_171) ?_
                    exact kt)
                have hd173_239 : p1 < (16 : Int32) := Int32.lt_of_lt_of_le hc65_221 (by decide)
                have pre240 : ∀ t, Steps p.tables e below (T216.setTop (mkF m 185 #[.val (.ref o0), .val (.int p1)] [(.int (17 : Int32)), (.int p1)])) t → Steps p.tables e below (s₁.setTop (entryFrame m #[(.ref o0), (.int p1)] 2)) t := fun t kt => pre238 t (by
                    show Steps p.tables e below (T216.setTop (mkF m 173 #[.val (.ref o0), .val (.int p1)] [(.int (16 : Int32)), (.int p1)])) _
                    refine XS.icmpYes X216.here hx rfl (pc0 := 173) (pc' := 182) rfl (hb hby d3_173) rfl (tlt hd173_239).1 (by decide) (by decide) ?_
                    show Steps p.tables e below (T216.setTop (mkF m 182 #[.val (.ref o0), .val (.int p1)] [])) _
                    refine XS.iloadN X216.here hx rfl (hb hby d3_182) rfl ?_
                    show Steps p.tables e below (T216.setTop (mkF m 183 #[.val (.ref o0), .val (.int p1)] [(.int p1)])) _
                    refine XS.bipush X216.here hx rfl (hb hby d3_183) ?_
                    exact kt)
                have hd185_241 : p1 < (17 : Int32) := Int32.lt_of_lt_of_le hc65_221 (by decide)
                have pre242 : ∀ t, Steps p.tables e below (T216.setTop (mkF m 197 #[.val (.ref o0), .val (.int p1)] [(.int (18 : Int32)), (.int p1)])) t → Steps p.tables e below (s₁.setTop (entryFrame m #[(.ref o0), (.int p1)] 2)) t := fun t kt => pre240 t (by
                    show Steps p.tables e below (T216.setTop (mkF m 185 #[.val (.ref o0), .val (.int p1)] [(.int (17 : Int32)), (.int p1)])) _
                    refine XS.icmpYes X216.here hx rfl (pc0 := 185) (pc' := 194) rfl (hb hby d3_185) rfl (tlt hd185_241).1 (by decide) (by decide) ?_
                    show Steps p.tables e below (T216.setTop (mkF m 194 #[.val (.ref o0), .val (.int p1)] [])) _
                    refine XS.iloadN X216.here hx rfl (hb hby d3_194) rfl ?_
                    show Steps p.tables e below (T216.setTop (mkF m 195 #[.val (.ref o0), .val (.int p1)] [(.int p1)])) _
                    refine XS.bipush X216.here hx rfl (hb hby d3_195) ?_
                    exact kt)
                have hd197_243 : p1 < (18 : Int32) := Int32.lt_of_lt_of_le hc65_221 (by decide)
                have pre244 : ∀ t, Steps p.tables e below (T216.setTop (mkF m 209 #[.val (.ref o0), .val (.int p1)] [(.int (19 : Int32)), (.int p1)])) t → Steps p.tables e below (s₁.setTop (entryFrame m #[(.ref o0), (.int p1)] 2)) t := fun t kt => pre242 t (by
                    show Steps p.tables e below (T216.setTop (mkF m 197 #[.val (.ref o0), .val (.int p1)] [(.int (18 : Int32)), (.int p1)])) _
                    refine XS.icmpYes X216.here hx rfl (pc0 := 197) (pc' := 206) rfl (hb hby d3_197) rfl (tlt hd197_243).1 (by decide) (by decide) ?_
                    show Steps p.tables e below (T216.setTop (mkF m 206 #[.val (.ref o0), .val (.int p1)] [])) _
                    refine XS.iloadN X216.here hx rfl (hb hby d3_206) rfl ?_
                    show Steps p.tables e below (T216.setTop (mkF m 207 #[.val (.ref o0), .val (.int p1)] [(.int p1)])) _
                    refine XS.bipush X216.here hx rfl (hb hby d3_207) ?_
                    exact kt)
                have hd209_245 : p1 < (19 : Int32) := Int32.lt_of_lt_of_le hc65_221 (by decide)
                obtain ⟨fs, hr, hrun, hended, hW, hsame⟩ := X216.leave (v := none) (fun _ => rfl)
                refine ⟨_, _, pre244 _ ?_, hrun, hended, _, _, rfl, ?_, ⟨_, rfl⟩, hW, hsame.mono (by decide) (by decide)⟩
                · show Steps p.tables e below (T216.setTop (mkF m 209 #[.val (.ref o0), .val (.int p1)] [(.int (19 : Int32)), (.int p1)])) _
                  refine XS.icmpYes X216.here hx rfl (pc0 := 209) (pc' := 218) rfl (hb hby d3_209) rfl (tlt hd209_245).1 (by decide) (by decide) ?_
                  show Steps p.tables e below (T216.setTop (mkF m 218 #[.val (.ref o0), .val (.int p1)] [])) _
                  exact X216.returnOut hx Bd.returns (hb hby d3_218) hr
                · show Q3 Z o0 p1 r1 F1 h0 n0 _ T216.heap _
                  exact ⟨rfl, N216, K218, (by rw [f3_r1_a, if_neg hc2_2, if_neg hc12_43, if_neg hc22_82, if_neg hc32_120, if_neg hc42_155, if_neg hc53_189, if_pos hc65_221]; exact G216_0)⟩
              · have c247 := ((c185.keep K184q (ninS ne_o0_r1 nin0)).keep K216q (ninS ne_o0_r1 nin0))
                obtain ⟨cq246, kq246, q246a, q246b, q246c⟩ := isOf hZ rfl (c217.keep K216q)
                obtain ⟨_, _, ⟨T246, L246, k246, n246⟩, -, X246, ⟨Lc246, hQ246, l246, y246, z246⟩, st246⟩ := X216.virtualBack hx (y := (⟨"com/example/cardhost/cardhost/LogicalChannels", "open", "(I)V"⟩ : MethodName)) (z := (⟨"com/example/cardhost/cardhost/LogicalChannels", "open", "(I)V"⟩ : MethodName)) hown (mvT hZ (hw _ (List.mem_of_getElem? (i := 23) rfl))) (mvT hZ (hw _ (List.mem_of_getElem? (i := 24) rfl))) (notFace_of_selects (args := #[]) (mvT hZ (hw _ (List.mem_of_getElem? (i := 26) rfl)))) (mvT hZ (hw _ (List.mem_of_getElem? (i := 26) rfl))) (mvT hZ (hw _ (List.mem_of_getElem? (i := 25) rfl))) (by decide) (backOf (W := 0) (rm4 l Z a0 hw [] o0 (7 : Int32) r1 (own_upd (own_upd (own_upd (own_upd (own_upd (own_upd F1 ((1 : Int32)).toNatClampNeg (1 : Int32)) ((2 : Int32)).toNatClampNeg (1 : Int32)) ((3 : Int32)).toNatClampNeg (1 : Int32)) ((4 : Int32)).toNatClampNeg (1 : Int32)) ((5 : Int32)).toNatClampNeg (1 : Int32)) ((6 : Int32)).toNatClampNeg (1 : Int32)) T216.heap n0 Z219 c247 G216_0 g_r1 (by decide)) hZ (hw _ (List.mem_of_getElem? (i := 27) rfl)) (hw _ (List.mem_of_getElem? (i := 3) rfl)) (by decide) (by decide)) q246a q246c (g := (mkF m 71 #[.val (.ref o0), .val (.int p1)] [(.int (7 : Int32)), (.ref o0)])) rfl (by rw [hml]; rfl) (Steps.refl _) (argsL := [(.int (7 : Int32))]) (rest := []) (lenOf pd_3_0 rfl) rfl (by show 2 * 0 + _ ≤ _; exact Nat.le_of_eq rfl) (hb hby d3_71) (fun _ _ => ⟨rfl, rfl, (by decide : 0 + 0 ≤ _), (by decide : 0 + 0 ≤ _)⟩)
                dsimp only [Pt.U, Pt.locs, Pt.cells, Pt.slots] at X246 l246 y246 z246 st246 hQ246
                subst l246 y246 z246
                obtain ⟨rfl, N246q, K246q, G246_0⟩ := hQ246
                have N246 := Fr.app N216 N246q
                have K248 : Keep h0 T246.heap [r1] := K218.trans K246q (allS (Or.inl (List.mem_of_getElem? (i := 0) rfl)) all0)
                have Z249 : n0 ≤ T246.heap.size := Nat.le_trans Z0 K248.1
                obtain ⟨LS246, X246, N246⟩ : ∃ L, Stand p l e ({ frames := 1, cells := 0, slots := 0, locals := 13 } : Room) s m #[(.ref o0), (.int p1)] below meth c T246 L 0 0 ∧ Fr n0 L := ⟨_, X246, N246⟩
                have pre250 : ∀ t, Steps p.tables e below (T246.setTop (mkF m 77 #[.val (.ref o0), .val (.int p1)] [(.int (8 : Int32)), (.int p1)])) t → Steps p.tables e below (s₁.setTop (entryFrame m #[(.ref o0), (.int p1)] 2)) t := fun t kt => pre220 t (by
                    show Steps p.tables e below (T216.setTop (mkF m 65 #[.val (.ref o0), .val (.int p1)] [(.int (7 : Int32)), (.int p1)])) _
                    refine XS.icmpNo X216.here hx rfl (hb hby d3_65) rfl (flt hc65_221).1 ?_
                    show Steps p.tables e below (T216.setTop (mkF m 68 #[.val (.ref o0), .val (.int p1)] [])) _
                    refine XS.aloadN X216.here hx rfl (hb hby d3_68) rfl rfl ?_
                    show Steps p.tables e below (T216.setTop (mkF m 69 #[.val (.ref o0), .val (.int p1)] [(.ref o0)])) _
                    refine XS.bipush X216.here hx rfl (hb hby d3_69) ?_
                    show Steps p.tables e below (T216.setTop (mkF m 71 #[.val (.ref o0), .val (.int p1)] [(.int (7 : Int32)), (.ref o0)])) _
                    refine st246.trans ?_
                    show Steps p.tables e below (T246.setTop (mkF m 74 #[.val (.ref o0), .val (.int p1)] [])) _
                    refine XS.iloadN X246.here hx rfl (hb hby d3_74) rfl ?_
                    show Steps p.tables e below (T246.setTop (mkF m 75 #[.val (.ref o0), .val (.int p1)] [(.int p1)])) _
                    refine XS.bipush X246.here hx rfl (hb hby d3_75) ?_
                    exact kt)
                by_cases hc77_251 : p1 < (8 : Int32)
                · have pre252 : ∀ t, Steps p.tables e below (T246.setTop (mkF m 89 #[.val (.ref o0), .val (.int p1)] [(.int (9 : Int32)), (.int p1)])) t → Steps p.tables e below (s₁.setTop (entryFrame m #[(.ref o0), (.int p1)] 2)) t := fun t kt => pre250 t (by
                      show Steps p.tables e below (T246.setTop (mkF m 77 #[.val (.ref o0), .val (.int p1)] [(.int (8 : Int32)), (.int p1)])) _
                      refine XS.icmpYes X246.here hx rfl (pc0 := 77) (pc' := 86) rfl (hb hby d3_77) rfl (tlt hc77_251).1 (by decide) (by decide) ?_
                      show Steps p.tables e below (T246.setTop (mkF m 86 #[.val (.ref o0), .val (.int p1)] [])) _
                      refine XS.iloadN X246.here hx rfl (hb hby d3_86) rfl ?_
                      show Steps p.tables e below (T246.setTop (mkF m 87 #[.val (.ref o0), .val (.int p1)] [(.int p1)])) _
                      refine XS.bipush X246.here hx rfl (hb hby d3_87) ?_
                      exact kt)
                  have hd89_253 : p1 < (9 : Int32) := Int32.lt_of_lt_of_le hc77_251 (by decide)
                  have pre254 : ∀ t, Steps p.tables e below (T246.setTop (mkF m 101 #[.val (.ref o0), .val (.int p1)] [(.int (10 : Int32)), (.int p1)])) t → Steps p.tables e below (s₁.setTop (entryFrame m #[(.ref o0), (.int p1)] 2)) t := fun t kt => pre252 t (by
                      show Steps p.tables e below (T246.setTop (mkF m 89 #[.val (.ref o0), .val (.int p1)] [(.int (9 : Int32)), (.int p1)])) _
                      refine XS.icmpYes X246.here hx rfl (pc0 := 89) (pc' := 98) rfl (hb hby d3_89) rfl (tlt hd89_253).1 (by decide) (by decide) ?_
                      show Steps p.tables e below (T246.setTop (mkF m 98 #[.val (.ref o0), .val (.int p1)] [])) _
                      refine XS.iloadN X246.here hx rfl (hb hby d3_98) rfl ?_
                      show Steps p.tables e below (T246.setTop (mkF m 99 #[.val (.ref o0), .val (.int p1)] [(.int p1)])) _
                      refine XS.bipush X246.here hx rfl (hb hby d3_99) ?_
                      exact kt)
                  have hd101_255 : p1 < (10 : Int32) := Int32.lt_of_lt_of_le hc77_251 (by decide)
                  have pre256 : ∀ t, Steps p.tables e below (T246.setTop (mkF m 113 #[.val (.ref o0), .val (.int p1)] [(.int (11 : Int32)), (.int p1)])) t → Steps p.tables e below (s₁.setTop (entryFrame m #[(.ref o0), (.int p1)] 2)) t := fun t kt => pre254 t (by
                      show Steps p.tables e below (T246.setTop (mkF m 101 #[.val (.ref o0), .val (.int p1)] [(.int (10 : Int32)), (.int p1)])) _
                      refine XS.icmpYes X246.here hx rfl (pc0 := 101) (pc' := 110) rfl (hb hby d3_101) rfl (tlt hd101_255).1 (by decide) (by decide) ?_
                      show Steps p.tables e below (T246.setTop (mkF m 110 #[.val (.ref o0), .val (.int p1)] [])) _
                      refine XS.iloadN X246.here hx rfl (hb hby d3_110) rfl ?_
                      show Steps p.tables e below (T246.setTop (mkF m 111 #[.val (.ref o0), .val (.int p1)] [(.int p1)])) _
                      refine XS.bipush X246.here hx rfl (hb hby d3_111) ?_
                      exact kt)
                  have hd113_257 : p1 < (11 : Int32) := Int32.lt_of_lt_of_le hc77_251 (by decide)
                  have pre258 : ∀ t, Steps p.tables e below (T246.setTop (mkF m 125 #[.val (.ref o0), .val (.int p1)] [(.int (12 : Int32)), (.int p1)])) t → Steps p.tables e below (s₁.setTop (entryFrame m #[(.ref o0), (.int p1)] 2)) t := fun t kt => pre256 t (by
                      show Steps p.tables e below (T246.setTop (mkF m 113 #[.val (.ref o0), .val (.int p1)] [(.int (11 : Int32)), (.int p1)])) _
                      refine XS.icmpYes X246.here hx rfl (pc0 := 113) (pc' := 122) rfl (hb hby d3_113) rfl (tlt hd113_257).1 (by decide) (by decide) ?_
                      show Steps p.tables e below (T246.setTop (mkF m 122 #[.val (.ref o0), .val (.int p1)] [])) _
                      refine XS.iloadN X246.here hx rfl (hb hby d3_122) rfl ?_
                      show Steps p.tables e below (T246.setTop (mkF m 123 #[.val (.ref o0), .val (.int p1)] [(.int p1)])) _
                      refine XS.bipush X246.here hx rfl (hb hby d3_123) ?_
                      exact kt)
                  have hd125_259 : p1 < (12 : Int32) := Int32.lt_of_lt_of_le hc77_251 (by decide)
                  have pre260 : ∀ t, Steps p.tables e below (T246.setTop (mkF m 137 #[.val (.ref o0), .val (.int p1)] [(.int (13 : Int32)), (.int p1)])) t → Steps p.tables e below (s₁.setTop (entryFrame m #[(.ref o0), (.int p1)] 2)) t := fun t kt => pre258 t (by
                      show Steps p.tables e below (T246.setTop (mkF m 125 #[.val (.ref o0), .val (.int p1)] [(.int (12 : Int32)), (.int p1)])) _
                      refine XS.icmpYes X246.here hx rfl (pc0 := 125) (pc' := 134) rfl (hb hby d3_125) rfl (tlt hd125_259).1 (by decide) (by decide) ?_
                      show Steps p.tables e below (T246.setTop (mkF m 134 #[.val (.ref o0), .val (.int p1)] [])) _
                      refine XS.iloadN X246.here hx rfl (hb hby d3_134) rfl ?_
                      show Steps p.tables e below (T246.setTop (mkF m 135 #[.val (.ref o0), .val (.int p1)] [(.int p1)])) _
                      refine XS.bipush X246.here hx rfl (hb hby d3_135) ?_
                      exact kt)
                  have hd137_261 : p1 < (13 : Int32) := Int32.lt_of_lt_of_le hc77_251 (by decide)
                  have pre262 : ∀ t, Steps p.tables e below (T246.setTop (mkF m 149 #[.val (.ref o0), .val (.int p1)] [(.int (14 : Int32)), (.int p1)])) t → Steps p.tables e below (s₁.setTop (entryFrame m #[(.ref o0), (.int p1)] 2)) t := fun t kt => pre260 t (by
                      show Steps p.tables e below (T246.setTop (mkF m 137 #[.val (.ref o0), .val (.int p1)] [(.int (13 : Int32)), (.int p1)])) _
                      refine XS.icmpYes X246.here hx rfl (pc0 := 137) (pc' := 146) rfl (hb hby d3_137) rfl (tlt hd137_261).1 (by decide) (by decide) ?_
                      show Steps p.tables e below (T246.setTop (mkF m 146 #[.val (.ref o0), .val (.int p1)] [])) _
                      refine XS.iloadN X246.here hx rfl (hb hby d3_146) rfl ?_
                      show Steps p.tables e below (T246.setTop (mkF m 147 #[.val (.ref o0), .val (.int p1)] [(.int p1)])) _
                      refine XS.bipush X246.here hx rfl (hb hby d3_147) ?_
                      exact kt)
                  have hd149_263 : p1 < (14 : Int32) := Int32.lt_of_lt_of_le hc77_251 (by decide)
                  have pre264 : ∀ t, Steps p.tables e below (T246.setTop (mkF m 161 #[.val (.ref o0), .val (.int p1)] [(.int (15 : Int32)), (.int p1)])) t → Steps p.tables e below (s₁.setTop (entryFrame m #[(.ref o0), (.int p1)] 2)) t := fun t kt => pre262 t (by
                      show Steps p.tables e below (T246.setTop (mkF m 149 #[.val (.ref o0), .val (.int p1)] [(.int (14 : Int32)), (.int p1)])) _
                      refine XS.icmpYes X246.here hx rfl (pc0 := 149) (pc' := 158) rfl (hb hby d3_149) rfl (tlt hd149_263).1 (by decide) (by decide) ?_
                      show Steps p.tables e below (T246.setTop (mkF m 158 #[.val (.ref o0), .val (.int p1)] [])) _
                      refine XS.iloadN X246.here hx rfl (hb hby d3_158) rfl ?_
                      show Steps p.tables e below (T246.setTop (mkF m 159 #[.val (.ref o0), .val (.int p1)] [(.int p1)])) _
                      refine XS.bipush X246.here hx rfl (hb hby d3_159) ?_
                      exact kt)
                  have hd161_265 : p1 < (15 : Int32) := Int32.lt_of_lt_of_le hc77_251 (by decide)
                  have pre266 : ∀ t, Steps p.tables e below (T246.setTop (mkF m 173 #[.val (.ref o0), .val (.int p1)] [(.int (16 : Int32)), (.int p1)])) t → Steps p.tables e below (s₁.setTop (entryFrame m #[(.ref o0), (.int p1)] 2)) t := fun t kt => pre264 t (by
                      show Steps p.tables e below (T246.setTop (mkF m 161 #[.val (.ref o0), .val (.int p1)] [(.int (15 : Int32)), (.int p1)])) _
                      refine XS.icmpYes X246.here hx rfl (pc0 := 161) (pc' := 170) rfl (hb hby d3_161) rfl (tlt hd161_265).1 (by decide) (by decide) ?_
                      show Steps p.tables e below (T246.setTop (mkF m 170 #[.val (.ref o0), .val (.int p1)] [])) _
                      refine XS.iloadN X246.here hx rfl (hb hby d3_170) rfl ?_
                      show Steps p.tables e below (T246.setTop (mkF m 171 #[.val (.ref o0), .val (.int p1)] [(.int p1)])) _
                      refine XS.bipush X246.here hx rfl (hb hby d3_171) ?_
                      exact kt)
                  have hd173_267 : p1 < (16 : Int32) := Int32.lt_of_lt_of_le hc77_251 (by decide)
                  have pre268 : ∀ t, Steps p.tables e below (T246.setTop (mkF m 185 #[.val (.ref o0), .val (.int p1)] [(.int (17 : Int32)), (.int p1)])) t → Steps p.tables e below (s₁.setTop (entryFrame m #[(.ref o0), (.int p1)] 2)) t := fun t kt => pre266 t (by
                      show Steps p.tables e below (T246.setTop (mkF m 173 #[.val (.ref o0), .val (.int p1)] [(.int (16 : Int32)), (.int p1)])) _
                      refine XS.icmpYes X246.here hx rfl (pc0 := 173) (pc' := 182) rfl (hb hby d3_173) rfl (tlt hd173_267).1 (by decide) (by decide) ?_
                      show Steps p.tables e below (T246.setTop (mkF m 182 #[.val (.ref o0), .val (.int p1)] [])) _
                      refine XS.iloadN X246.here hx rfl (hb hby d3_182) rfl ?_
                      show Steps p.tables e below (T246.setTop (mkF m 183 #[.val (.ref o0), .val (.int p1)] [(.int p1)])) _
                      refine XS.bipush X246.here hx rfl (hb hby d3_183) ?_
                      exact kt)
                  have hd185_269 : p1 < (17 : Int32) := Int32.lt_of_lt_of_le hc77_251 (by decide)
                  have pre270 : ∀ t, Steps p.tables e below (T246.setTop (mkF m 197 #[.val (.ref o0), .val (.int p1)] [(.int (18 : Int32)), (.int p1)])) t → Steps p.tables e below (s₁.setTop (entryFrame m #[(.ref o0), (.int p1)] 2)) t := fun t kt => pre268 t (by
                      show Steps p.tables e below (T246.setTop (mkF m 185 #[.val (.ref o0), .val (.int p1)] [(.int (17 : Int32)), (.int p1)])) _
                      refine XS.icmpYes X246.here hx rfl (pc0 := 185) (pc' := 194) rfl (hb hby d3_185) rfl (tlt hd185_269).1 (by decide) (by decide) ?_
                      show Steps p.tables e below (T246.setTop (mkF m 194 #[.val (.ref o0), .val (.int p1)] [])) _
                      refine XS.iloadN X246.here hx rfl (hb hby d3_194) rfl ?_
                      show Steps p.tables e below (T246.setTop (mkF m 195 #[.val (.ref o0), .val (.int p1)] [(.int p1)])) _
                      refine XS.bipush X246.here hx rfl (hb hby d3_195) ?_
                      exact kt)
                  have hd197_271 : p1 < (18 : Int32) := Int32.lt_of_lt_of_le hc77_251 (by decide)
                  have pre272 : ∀ t, Steps p.tables e below (T246.setTop (mkF m 209 #[.val (.ref o0), .val (.int p1)] [(.int (19 : Int32)), (.int p1)])) t → Steps p.tables e below (s₁.setTop (entryFrame m #[(.ref o0), (.int p1)] 2)) t := fun t kt => pre270 t (by
                      show Steps p.tables e below (T246.setTop (mkF m 197 #[.val (.ref o0), .val (.int p1)] [(.int (18 : Int32)), (.int p1)])) _
                      refine XS.icmpYes X246.here hx rfl (pc0 := 197) (pc' := 206) rfl (hb hby d3_197) rfl (tlt hd197_271).1 (by decide) (by decide) ?_
                      show Steps p.tables e below (T246.setTop (mkF m 206 #[.val (.ref o0), .val (.int p1)] [])) _
                      refine XS.iloadN X246.here hx rfl (hb hby d3_206) rfl ?_
                      show Steps p.tables e below (T246.setTop (mkF m 207 #[.val (.ref o0), .val (.int p1)] [(.int p1)])) _
                      refine XS.bipush X246.here hx rfl (hb hby d3_207) ?_
                      exact kt)
                  have hd209_273 : p1 < (19 : Int32) := Int32.lt_of_lt_of_le hc77_251 (by decide)
                  obtain ⟨fs, hr, hrun, hended, hW, hsame⟩ := X246.leave (v := none) (fun _ => rfl)
                  refine ⟨_, _, pre272 _ ?_, hrun, hended, _, _, rfl, ?_, ⟨_, rfl⟩, hW, hsame.mono (by decide) (by decide)⟩
                  · show Steps p.tables e below (T246.setTop (mkF m 209 #[.val (.ref o0), .val (.int p1)] [(.int (19 : Int32)), (.int p1)])) _
                    refine XS.icmpYes X246.here hx rfl (pc0 := 209) (pc' := 218) rfl (hb hby d3_209) rfl (tlt hd209_273).1 (by decide) (by decide) ?_
                    show Steps p.tables e below (T246.setTop (mkF m 218 #[.val (.ref o0), .val (.int p1)] [])) _
                    exact X246.returnOut hx Bd.returns (hb hby d3_218) hr
                  · show Q3 Z o0 p1 r1 F1 h0 n0 _ T246.heap _
                    exact ⟨rfl, N246, K248, (by rw [f3_r1_a, if_neg hc2_2, if_neg hc12_43, if_neg hc22_82, if_neg hc32_120, if_neg hc42_155, if_neg hc53_189, if_neg hc65_221, if_pos hc77_251]; exact G246_0)⟩
                · obtain ⟨cq274, kq274, q274a, q274b, q274c⟩ := isOf hZ rfl ((c217.keep K216q).keep K246q)
                  obtain ⟨_, _, ⟨T274, L274, k274, n274⟩, -, X274, ⟨Lc274, hQ274, l274, y274, z274⟩, st274⟩ := X246.virtualBack hx (y := (⟨"com/example/cardhost/cardhost/LogicalChannels", "open", "(I)V"⟩ : MethodName)) (z := (⟨"com/example/cardhost/cardhost/LogicalChannels", "open", "(I)V"⟩ : MethodName)) hown (mvT hZ (hw _ (List.mem_of_getElem? (i := 23) rfl))) (mvT hZ (hw _ (List.mem_of_getElem? (i := 24) rfl))) (notFace_of_selects (args := #[]) (mvT hZ (hw _ (List.mem_of_getElem? (i := 26) rfl)))) (mvT hZ (hw _ (List.mem_of_getElem? (i := 26) rfl))) (mvT hZ (hw _ (List.mem_of_getElem? (i := 25) rfl))) (by decide) (backOf (W := 0) (rm4 l Z a0 hw [] o0 (8 : Int32) r1 (own_upd (own_upd (own_upd (own_upd (own_upd (own_upd (own_upd F1 ((1 : Int32)).toNatClampNeg (1 : Int32)) ((2 : Int32)).toNatClampNeg (1 : Int32)) ((3 : Int32)).toNatClampNeg (1 : Int32)) ((4 : Int32)).toNatClampNeg (1 : Int32)) ((5 : Int32)).toNatClampNeg (1 : Int32)) ((6 : Int32)).toNatClampNeg (1 : Int32)) ((7 : Int32)).toNatClampNeg (1 : Int32)) T246.heap n0 Z249 (c247.keep K246q (ninS ne_o0_r1 nin0)) G246_0 g_r1 (by decide)) hZ (hw _ (List.mem_of_getElem? (i := 27) rfl)) (hw _ (List.mem_of_getElem? (i := 3) rfl)) (by decide) (by decide)) q274a q274c (g := (mkF m 83 #[.val (.ref o0), .val (.int p1)] [(.int (8 : Int32)), (.ref o0)])) rfl (by rw [hml]; rfl) (Steps.refl _) (argsL := [(.int (8 : Int32))]) (rest := []) (lenOf pd_3_0 rfl) rfl (by show 2 * 0 + _ ≤ _; exact Nat.le_of_eq rfl) (hb hby d3_83) (fun _ _ => ⟨rfl, rfl, (by decide : 0 + 0 ≤ _), (by decide : 0 + 0 ≤ _)⟩)
                  dsimp only [Pt.U, Pt.locs, Pt.cells, Pt.slots] at X274 l274 y274 z274 st274 hQ274
                  subst l274 y274 z274
                  obtain ⟨rfl, N274q, K274q, G274_0⟩ := hQ274
                  have N274 := Fr.app N246 N274q
                  have K275 : Keep h0 T274.heap [r1] := K248.trans K274q (allS (Or.inl (List.mem_of_getElem? (i := 0) rfl)) all0)
                  have Z276 : n0 ≤ T274.heap.size := Nat.le_trans Z0 K275.1
                  obtain ⟨LS274, X274, N274⟩ : ∃ L, Stand p l e ({ frames := 1, cells := 0, slots := 0, locals := 13 } : Room) s m #[(.ref o0), (.int p1)] below meth c T274 L 0 0 ∧ Fr n0 L := ⟨_, X274, N274⟩
                  have pre277 : ∀ t, Steps p.tables e below (T274.setTop (mkF m 89 #[.val (.ref o0), .val (.int p1)] [(.int (9 : Int32)), (.int p1)])) t → Steps p.tables e below (s₁.setTop (entryFrame m #[(.ref o0), (.int p1)] 2)) t := fun t kt => pre250 t (by
                      show Steps p.tables e below (T246.setTop (mkF m 77 #[.val (.ref o0), .val (.int p1)] [(.int (8 : Int32)), (.int p1)])) _
                      refine XS.icmpNo X246.here hx rfl (hb hby d3_77) rfl (flt hc77_251).1 ?_
                      show Steps p.tables e below (T246.setTop (mkF m 80 #[.val (.ref o0), .val (.int p1)] [])) _
                      refine XS.aloadN X246.here hx rfl (hb hby d3_80) rfl rfl ?_
                      show Steps p.tables e below (T246.setTop (mkF m 81 #[.val (.ref o0), .val (.int p1)] [(.ref o0)])) _
                      refine XS.bipush X246.here hx rfl (hb hby d3_81) ?_
                      show Steps p.tables e below (T246.setTop (mkF m 83 #[.val (.ref o0), .val (.int p1)] [(.int (8 : Int32)), (.ref o0)])) _
                      refine st274.trans ?_
                      show Steps p.tables e below (T274.setTop (mkF m 86 #[.val (.ref o0), .val (.int p1)] [])) _
                      refine XS.iloadN X274.here hx rfl (hb hby d3_86) rfl ?_
                      show Steps p.tables e below (T274.setTop (mkF m 87 #[.val (.ref o0), .val (.int p1)] [(.int p1)])) _
                      refine XS.bipush X274.here hx rfl (hb hby d3_87) ?_
                      exact kt)
                  by_cases hc89_278 : p1 < (9 : Int32)
                  · have pre279 : ∀ t, Steps p.tables e below (T274.setTop (mkF m 101 #[.val (.ref o0), .val (.int p1)] [(.int (10 : Int32)), (.int p1)])) t → Steps p.tables e below (s₁.setTop (entryFrame m #[(.ref o0), (.int p1)] 2)) t := fun t kt => pre277 t (by
                        show Steps p.tables e below (T274.setTop (mkF m 89 #[.val (.ref o0), .val (.int p1)] [(.int (9 : Int32)), (.int p1)])) _
                        refine XS.icmpYes X274.here hx rfl (pc0 := 89) (pc' := 98) rfl (hb hby d3_89) rfl (tlt hc89_278).1 (by decide) (by decide) ?_
                        show Steps p.tables e below (T274.setTop (mkF m 98 #[.val (.ref o0), .val (.int p1)] [])) _
                        refine XS.iloadN X274.here hx rfl (hb hby d3_98) rfl ?_
                        show Steps p.tables e below (T274.setTop (mkF m 99 #[.val (.ref o0), .val (.int p1)] [(.int p1)])) _
                        refine XS.bipush X274.here hx rfl (hb hby d3_99) ?_
                        exact kt)
                    have hd101_280 : p1 < (10 : Int32) := Int32.lt_of_lt_of_le hc89_278 (by decide)
                    have pre281 : ∀ t, Steps p.tables e below (T274.setTop (mkF m 113 #[.val (.ref o0), .val (.int p1)] [(.int (11 : Int32)), (.int p1)])) t → Steps p.tables e below (s₁.setTop (entryFrame m #[(.ref o0), (.int p1)] 2)) t := fun t kt => pre279 t (by
                        show Steps p.tables e below (T274.setTop (mkF m 101 #[.val (.ref o0), .val (.int p1)] [(.int (10 : Int32)), (.int p1)])) _
                        refine XS.icmpYes X274.here hx rfl (pc0 := 101) (pc' := 110) rfl (hb hby d3_101) rfl (tlt hd101_280).1 (by decide) (by decide) ?_
                        show Steps p.tables e below (T274.setTop (mkF m 110 #[.val (.ref o0), .val (.int p1)] [])) _
                        refine XS.iloadN X274.here hx rfl (hb hby d3_110) rfl ?_
                        show Steps p.tables e below (T274.setTop (mkF m 111 #[.val (.ref o0), .val (.int p1)] [(.int p1)])) _
                        refine XS.bipush X274.here hx rfl (hb hby d3_111) ?_
                        exact kt)
                    have hd113_282 : p1 < (11 : Int32) := Int32.lt_of_lt_of_le hc89_278 (by decide)
                    have pre283 : ∀ t, Steps p.tables e below (T274.setTop (mkF m 125 #[.val (.ref o0), .val (.int p1)] [(.int (12 : Int32)), (.int p1)])) t → Steps p.tables e below (s₁.setTop (entryFrame m #[(.ref o0), (.int p1)] 2)) t := fun t kt => pre281 t (by
                        show Steps p.tables e below (T274.setTop (mkF m 113 #[.val (.ref o0), .val (.int p1)] [(.int (11 : Int32)), (.int p1)])) _
                        refine XS.icmpYes X274.here hx rfl (pc0 := 113) (pc' := 122) rfl (hb hby d3_113) rfl (tlt hd113_282).1 (by decide) (by decide) ?_
                        show Steps p.tables e below (T274.setTop (mkF m 122 #[.val (.ref o0), .val (.int p1)] [])) _
                        refine XS.iloadN X274.here hx rfl (hb hby d3_122) rfl ?_
                        show Steps p.tables e below (T274.setTop (mkF m 123 #[.val (.ref o0), .val (.int p1)] [(.int p1)])) _
                        refine XS.bipush X274.here hx rfl (hb hby d3_123) ?_
                        exact kt)
                    have hd125_284 : p1 < (12 : Int32) := Int32.lt_of_lt_of_le hc89_278 (by decide)
                    have pre285 : ∀ t, Steps p.tables e below (T274.setTop (mkF m 137 #[.val (.ref o0), .val (.int p1)] [(.int (13 : Int32)), (.int p1)])) t → Steps p.tables e below (s₁.setTop (entryFrame m #[(.ref o0), (.int p1)] 2)) t := fun t kt => pre283 t (by
                        show Steps p.tables e below (T274.setTop (mkF m 125 #[.val (.ref o0), .val (.int p1)] [(.int (12 : Int32)), (.int p1)])) _
                        refine XS.icmpYes X274.here hx rfl (pc0 := 125) (pc' := 134) rfl (hb hby d3_125) rfl (tlt hd125_284).1 (by decide) (by decide) ?_
                        show Steps p.tables e below (T274.setTop (mkF m 134 #[.val (.ref o0), .val (.int p1)] [])) _
                        refine XS.iloadN X274.here hx rfl (hb hby d3_134) rfl ?_
                        show Steps p.tables e below (T274.setTop (mkF m 135 #[.val (.ref o0), .val (.int p1)] [(.int p1)])) _
                        refine XS.bipush X274.here hx rfl (hb hby d3_135) ?_
                        exact kt)
                    have hd137_286 : p1 < (13 : Int32) := Int32.lt_of_lt_of_le hc89_278 (by decide)
                    have pre287 : ∀ t, Steps p.tables e below (T274.setTop (mkF m 149 #[.val (.ref o0), .val (.int p1)] [(.int (14 : Int32)), (.int p1)])) t → Steps p.tables e below (s₁.setTop (entryFrame m #[(.ref o0), (.int p1)] 2)) t := fun t kt => pre285 t (by
                        show Steps p.tables e below (T274.setTop (mkF m 137 #[.val (.ref o0), .val (.int p1)] [(.int (13 : Int32)), (.int p1)])) _
                        refine XS.icmpYes X274.here hx rfl (pc0 := 137) (pc' := 146) rfl (hb hby d3_137) rfl (tlt hd137_286).1 (by decide) (by decide) ?_
                        show Steps p.tables e below (T274.setTop (mkF m 146 #[.val (.ref o0), .val (.int p1)] [])) _
                        refine XS.iloadN X274.here hx rfl (hb hby d3_146) rfl ?_
                        show Steps p.tables e below (T274.setTop (mkF m 147 #[.val (.ref o0), .val (.int p1)] [(.int p1)])) _
                        refine XS.bipush X274.here hx rfl (hb hby d3_147) ?_
                        exact kt)
                    have hd149_288 : p1 < (14 : Int32) := Int32.lt_of_lt_of_le hc89_278 (by decide)
                    have pre289 : ∀ t, Steps p.tables e below (T274.setTop (mkF m 161 #[.val (.ref o0), .val (.int p1)] [(.int (15 : Int32)), (.int p1)])) t → Steps p.tables e below (s₁.setTop (entryFrame m #[(.ref o0), (.int p1)] 2)) t := fun t kt => pre287 t (by
                        show Steps p.tables e below (T274.setTop (mkF m 149 #[.val (.ref o0), .val (.int p1)] [(.int (14 : Int32)), (.int p1)])) _
                        refine XS.icmpYes X274.here hx rfl (pc0 := 149) (pc' := 158) rfl (hb hby d3_149) rfl (tlt hd149_288).1 (by decide) (by decide) ?_
                        show Steps p.tables e below (T274.setTop (mkF m 158 #[.val (.ref o0), .val (.int p1)] [])) _
                        refine XS.iloadN X274.here hx rfl (hb hby d3_158) rfl ?_
                        show Steps p.tables e below (T274.setTop (mkF m 159 #[.val (.ref o0), .val (.int p1)] [(.int p1)])) _
                        refine XS.bipush X274.here hx rfl (hb hby d3_159) ?_
                        exact kt)
                    have hd161_290 : p1 < (15 : Int32) := Int32.lt_of_lt_of_le hc89_278 (by decide)
                    have pre291 : ∀ t, Steps p.tables e below (T274.setTop (mkF m 173 #[.val (.ref o0), .val (.int p1)] [(.int (16 : Int32)), (.int p1)])) t → Steps p.tables e below (s₁.setTop (entryFrame m #[(.ref o0), (.int p1)] 2)) t := fun t kt => pre289 t (by
                        show Steps p.tables e below (T274.setTop (mkF m 161 #[.val (.ref o0), .val (.int p1)] [(.int (15 : Int32)), (.int p1)])) _
                        refine XS.icmpYes X274.here hx rfl (pc0 := 161) (pc' := 170) rfl (hb hby d3_161) rfl (tlt hd161_290).1 (by decide) (by decide) ?_
                        show Steps p.tables e below (T274.setTop (mkF m 170 #[.val (.ref o0), .val (.int p1)] [])) _
                        refine XS.iloadN X274.here hx rfl (hb hby d3_170) rfl ?_
                        show Steps p.tables e below (T274.setTop (mkF m 171 #[.val (.ref o0), .val (.int p1)] [(.int p1)])) _
                        refine XS.bipush X274.here hx rfl (hb hby d3_171) ?_
                        exact kt)
                    have hd173_292 : p1 < (16 : Int32) := Int32.lt_of_lt_of_le hc89_278 (by decide)
                    have pre293 : ∀ t, Steps p.tables e below (T274.setTop (mkF m 185 #[.val (.ref o0), .val (.int p1)] [(.int (17 : Int32)), (.int p1)])) t → Steps p.tables e below (s₁.setTop (entryFrame m #[(.ref o0), (.int p1)] 2)) t := fun t kt => pre291 t (by
                        show Steps p.tables e below (T274.setTop (mkF m 173 #[.val (.ref o0), .val (.int p1)] [(.int (16 : Int32)), (.int p1)])) _
                        refine XS.icmpYes X274.here hx rfl (pc0 := 173) (pc' := 182) rfl (hb hby d3_173) rfl (tlt hd173_292).1 (by decide) (by decide) ?_
                        show Steps p.tables e below (T274.setTop (mkF m 182 #[.val (.ref o0), .val (.int p1)] [])) _
                        refine XS.iloadN X274.here hx rfl (hb hby d3_182) rfl ?_
                        show Steps p.tables e below (T274.setTop (mkF m 183 #[.val (.ref o0), .val (.int p1)] [(.int p1)])) _
                        refine XS.bipush X274.here hx rfl (hb hby d3_183) ?_
                        exact kt)
                    have hd185_294 : p1 < (17 : Int32) := Int32.lt_of_lt_of_le hc89_278 (by decide)
                    have pre295 : ∀ t, Steps p.tables e below (T274.setTop (mkF m 197 #[.val (.ref o0), .val (.int p1)] [(.int (18 : Int32)), (.int p1)])) t → Steps p.tables e below (s₁.setTop (entryFrame m #[(.ref o0), (.int p1)] 2)) t := fun t kt => pre293 t (by
                        show Steps p.tables e below (T274.setTop (mkF m 185 #[.val (.ref o0), .val (.int p1)] [(.int (17 : Int32)), (.int p1)])) _
                        refine XS.icmpYes X274.here hx rfl (pc0 := 185) (pc' := 194) rfl (hb hby d3_185) rfl (tlt hd185_294).1 (by decide) (by decide) ?_
                        show Steps p.tables e below (T274.setTop (mkF m 194 #[.val (.ref o0), .val (.int p1)] [])) _
                        refine XS.iloadN X274.here hx rfl (hb hby d3_194) rfl ?_
                        show Steps p.tables e below (T274.setTop (mkF m 195 #[.val (.ref o0), .val (.int p1)] [(.int p1)])) _
                        refine XS.bipush X274.here hx rfl (hb hby d3_195) ?_
                        exact kt)
                    have hd197_296 : p1 < (18 : Int32) := Int32.lt_of_lt_of_le hc89_278 (by decide)
                    have pre297 : ∀ t, Steps p.tables e below (T274.setTop (mkF m 209 #[.val (.ref o0), .val (.int p1)] [(.int (19 : Int32)), (.int p1)])) t → Steps p.tables e below (s₁.setTop (entryFrame m #[(.ref o0), (.int p1)] 2)) t := fun t kt => pre295 t (by
                        show Steps p.tables e below (T274.setTop (mkF m 197 #[.val (.ref o0), .val (.int p1)] [(.int (18 : Int32)), (.int p1)])) _
                        refine XS.icmpYes X274.here hx rfl (pc0 := 197) (pc' := 206) rfl (hb hby d3_197) rfl (tlt hd197_296).1 (by decide) (by decide) ?_
                        show Steps p.tables e below (T274.setTop (mkF m 206 #[.val (.ref o0), .val (.int p1)] [])) _
                        refine XS.iloadN X274.here hx rfl (hb hby d3_206) rfl ?_
                        show Steps p.tables e below (T274.setTop (mkF m 207 #[.val (.ref o0), .val (.int p1)] [(.int p1)])) _
                        refine XS.bipush X274.here hx rfl (hb hby d3_207) ?_
                        exact kt)
                    have hd209_298 : p1 < (19 : Int32) := Int32.lt_of_lt_of_le hc89_278 (by decide)
                    obtain ⟨fs, hr, hrun, hended, hW, hsame⟩ := X274.leave (v := none) (fun _ => rfl)
                    refine ⟨_, _, pre297 _ ?_, hrun, hended, _, _, rfl, ?_, ⟨_, rfl⟩, hW, hsame.mono (by decide) (by decide)⟩
                    · show Steps p.tables e below (T274.setTop (mkF m 209 #[.val (.ref o0), .val (.int p1)] [(.int (19 : Int32)), (.int p1)])) _
                      refine XS.icmpYes X274.here hx rfl (pc0 := 209) (pc' := 218) rfl (hb hby d3_209) rfl (tlt hd209_298).1 (by decide) (by decide) ?_
                      show Steps p.tables e below (T274.setTop (mkF m 218 #[.val (.ref o0), .val (.int p1)] [])) _
                      exact X274.returnOut hx Bd.returns (hb hby d3_218) hr
                    · show Q3 Z o0 p1 r1 F1 h0 n0 _ T274.heap _
                      exact ⟨rfl, N274, K275, (by rw [f3_r1_a, if_neg hc2_2, if_neg hc12_43, if_neg hc22_82, if_neg hc32_120, if_neg hc42_155, if_neg hc53_189, if_neg hc65_221, if_neg hc77_251, if_pos hc89_278]; exact G274_0)⟩
                  · have c300 := ((c247.keep K246q (ninS ne_o0_r1 nin0)).keep K274q (ninS ne_o0_r1 nin0))
                    obtain ⟨cq299, kq299, q299a, q299b, q299c⟩ := isOf hZ rfl (((c217.keep K216q).keep K246q).keep K274q)
                    obtain ⟨_, _, ⟨T299, L299, k299, n299⟩, -, X299, ⟨Lc299, hQ299, l299, y299, z299⟩, st299⟩ := X274.virtualBack hx (y := (⟨"com/example/cardhost/cardhost/LogicalChannels", "open", "(I)V"⟩ : MethodName)) (z := (⟨"com/example/cardhost/cardhost/LogicalChannels", "open", "(I)V"⟩ : MethodName)) hown (mvT hZ (hw _ (List.mem_of_getElem? (i := 23) rfl))) (mvT hZ (hw _ (List.mem_of_getElem? (i := 24) rfl))) (notFace_of_selects (args := #[]) (mvT hZ (hw _ (List.mem_of_getElem? (i := 26) rfl)))) (mvT hZ (hw _ (List.mem_of_getElem? (i := 26) rfl))) (mvT hZ (hw _ (List.mem_of_getElem? (i := 25) rfl))) (by decide) (backOf (W := 0) (rm4 l Z a0 hw [] o0 (9 : Int32) r1 (own_upd (own_upd (own_upd (own_upd (own_upd (own_upd (own_upd (own_upd F1 ((1 : Int32)).toNatClampNeg (1 : Int32)) ((2 : Int32)).toNatClampNeg (1 : Int32)) ((3 : Int32)).toNatClampNeg (1 : Int32)) ((4 : Int32)).toNatClampNeg (1 : Int32)) ((5 : Int32)).toNatClampNeg (1 : Int32)) ((6 : Int32)).toNatClampNeg (1 : Int32)) ((7 : Int32)).toNatClampNeg (1 : Int32)) ((8 : Int32)).toNatClampNeg (1 : Int32)) T274.heap n0 Z276 c300 G274_0 g_r1 (by decide)) hZ (hw _ (List.mem_of_getElem? (i := 27) rfl)) (hw _ (List.mem_of_getElem? (i := 3) rfl)) (by decide) (by decide)) q299a q299c (g := (mkF m 95 #[.val (.ref o0), .val (.int p1)] [(.int (9 : Int32)), (.ref o0)])) rfl (by rw [hml]; rfl) (Steps.refl _) (argsL := [(.int (9 : Int32))]) (rest := []) (lenOf pd_3_0 rfl) rfl (by show 2 * 0 + _ ≤ _; exact Nat.le_of_eq rfl) (hb hby d3_95) (fun _ _ => ⟨rfl, rfl, (by decide : 0 + 0 ≤ _), (by decide : 0 + 0 ≤ _)⟩)
                    dsimp only [Pt.U, Pt.locs, Pt.cells, Pt.slots] at X299 l299 y299 z299 st299 hQ299
                    subst l299 y299 z299
                    obtain ⟨rfl, N299q, K299q, G299_0⟩ := hQ299
                    have N299 := Fr.app N274 N299q
                    have K301 : Keep h0 T299.heap [r1] := K275.trans K299q (allS (Or.inl (List.mem_of_getElem? (i := 0) rfl)) all0)
                    have Z302 : n0 ≤ T299.heap.size := Nat.le_trans Z0 K301.1
                    obtain ⟨LS299, X299, N299⟩ : ∃ L, Stand p l e ({ frames := 1, cells := 0, slots := 0, locals := 13 } : Room) s m #[(.ref o0), (.int p1)] below meth c T299 L 0 0 ∧ Fr n0 L := ⟨_, X299, N299⟩
                    have pre303 : ∀ t, Steps p.tables e below (T299.setTop (mkF m 101 #[.val (.ref o0), .val (.int p1)] [(.int (10 : Int32)), (.int p1)])) t → Steps p.tables e below (s₁.setTop (entryFrame m #[(.ref o0), (.int p1)] 2)) t := fun t kt => pre277 t (by
                        show Steps p.tables e below (T274.setTop (mkF m 89 #[.val (.ref o0), .val (.int p1)] [(.int (9 : Int32)), (.int p1)])) _
                        refine XS.icmpNo X274.here hx rfl (hb hby d3_89) rfl (flt hc89_278).1 ?_
                        show Steps p.tables e below (T274.setTop (mkF m 92 #[.val (.ref o0), .val (.int p1)] [])) _
                        refine XS.aloadN X274.here hx rfl (hb hby d3_92) rfl rfl ?_
                        show Steps p.tables e below (T274.setTop (mkF m 93 #[.val (.ref o0), .val (.int p1)] [(.ref o0)])) _
                        refine XS.bipush X274.here hx rfl (hb hby d3_93) ?_
                        show Steps p.tables e below (T274.setTop (mkF m 95 #[.val (.ref o0), .val (.int p1)] [(.int (9 : Int32)), (.ref o0)])) _
                        refine st299.trans ?_
                        show Steps p.tables e below (T299.setTop (mkF m 98 #[.val (.ref o0), .val (.int p1)] [])) _
                        refine XS.iloadN X299.here hx rfl (hb hby d3_98) rfl ?_
                        show Steps p.tables e below (T299.setTop (mkF m 99 #[.val (.ref o0), .val (.int p1)] [(.int p1)])) _
                        refine XS.bipush X299.here hx rfl (hb hby d3_99) ?_
                        exact kt)
                    by_cases hc101_304 : p1 < (10 : Int32)
                    · have pre305 : ∀ t, Steps p.tables e below (T299.setTop (mkF m 113 #[.val (.ref o0), .val (.int p1)] [(.int (11 : Int32)), (.int p1)])) t → Steps p.tables e below (s₁.setTop (entryFrame m #[(.ref o0), (.int p1)] 2)) t := fun t kt => pre303 t (by
                          show Steps p.tables e below (T299.setTop (mkF m 101 #[.val (.ref o0), .val (.int p1)] [(.int (10 : Int32)), (.int p1)])) _
                          refine XS.icmpYes X299.here hx rfl (pc0 := 101) (pc' := 110) rfl (hb hby d3_101) rfl (tlt hc101_304).1 (by decide) (by decide) ?_
                          show Steps p.tables e below (T299.setTop (mkF m 110 #[.val (.ref o0), .val (.int p1)] [])) _
                          refine XS.iloadN X299.here hx rfl (hb hby d3_110) rfl ?_
                          show Steps p.tables e below (T299.setTop (mkF m 111 #[.val (.ref o0), .val (.int p1)] [(.int p1)])) _
                          refine XS.bipush X299.here hx rfl (hb hby d3_111) ?_
                          exact kt)
                      have hd113_306 : p1 < (11 : Int32) := Int32.lt_of_lt_of_le hc101_304 (by decide)
                      have pre307 : ∀ t, Steps p.tables e below (T299.setTop (mkF m 125 #[.val (.ref o0), .val (.int p1)] [(.int (12 : Int32)), (.int p1)])) t → Steps p.tables e below (s₁.setTop (entryFrame m #[(.ref o0), (.int p1)] 2)) t := fun t kt => pre305 t (by
                          show Steps p.tables e below (T299.setTop (mkF m 113 #[.val (.ref o0), .val (.int p1)] [(.int (11 : Int32)), (.int p1)])) _
                          refine XS.icmpYes X299.here hx rfl (pc0 := 113) (pc' := 122) rfl (hb hby d3_113) rfl (tlt hd113_306).1 (by decide) (by decide) ?_
                          show Steps p.tables e below (T299.setTop (mkF m 122 #[.val (.ref o0), .val (.int p1)] [])) _
                          refine XS.iloadN X299.here hx rfl (hb hby d3_122) rfl ?_
                          show Steps p.tables e below (T299.setTop (mkF m 123 #[.val (.ref o0), .val (.int p1)] [(.int p1)])) _
                          refine XS.bipush X299.here hx rfl (hb hby d3_123) ?_
                          exact kt)
                      have hd125_308 : p1 < (12 : Int32) := Int32.lt_of_lt_of_le hc101_304 (by decide)
                      have pre309 : ∀ t, Steps p.tables e below (T299.setTop (mkF m 137 #[.val (.ref o0), .val (.int p1)] [(.int (13 : Int32)), (.int p1)])) t → Steps p.tables e below (s₁.setTop (entryFrame m #[(.ref o0), (.int p1)] 2)) t := fun t kt => pre307 t (by
                          show Steps p.tables e below (T299.setTop (mkF m 125 #[.val (.ref o0), .val (.int p1)] [(.int (12 : Int32)), (.int p1)])) _
                          refine XS.icmpYes X299.here hx rfl (pc0 := 125) (pc' := 134) rfl (hb hby d3_125) rfl (tlt hd125_308).1 (by decide) (by decide) ?_
                          show Steps p.tables e below (T299.setTop (mkF m 134 #[.val (.ref o0), .val (.int p1)] [])) _
                          refine XS.iloadN X299.here hx rfl (hb hby d3_134) rfl ?_
                          show Steps p.tables e below (T299.setTop (mkF m 135 #[.val (.ref o0), .val (.int p1)] [(.int p1)])) _
                          refine XS.bipush X299.here hx rfl (hb hby d3_135) ?_
                          exact kt)
                      have hd137_310 : p1 < (13 : Int32) := Int32.lt_of_lt_of_le hc101_304 (by decide)
                      have pre311 : ∀ t, Steps p.tables e below (T299.setTop (mkF m 149 #[.val (.ref o0), .val (.int p1)] [(.int (14 : Int32)), (.int p1)])) t → Steps p.tables e below (s₁.setTop (entryFrame m #[(.ref o0), (.int p1)] 2)) t := fun t kt => pre309 t (by
                          show Steps p.tables e below (T299.setTop (mkF m 137 #[.val (.ref o0), .val (.int p1)] [(.int (13 : Int32)), (.int p1)])) _
                          refine XS.icmpYes X299.here hx rfl (pc0 := 137) (pc' := 146) rfl (hb hby d3_137) rfl (tlt hd137_310).1 (by decide) (by decide) ?_
                          show Steps p.tables e below (T299.setTop (mkF m 146 #[.val (.ref o0), .val (.int p1)] [])) _
                          refine XS.iloadN X299.here hx rfl (hb hby d3_146) rfl ?_
                          show Steps p.tables e below (T299.setTop (mkF m 147 #[.val (.ref o0), .val (.int p1)] [(.int p1)])) _
                          refine XS.bipush X299.here hx rfl (hb hby d3_147) ?_
                          exact kt)
                      have hd149_312 : p1 < (14 : Int32) := Int32.lt_of_lt_of_le hc101_304 (by decide)
                      have pre313 : ∀ t, Steps p.tables e below (T299.setTop (mkF m 161 #[.val (.ref o0), .val (.int p1)] [(.int (15 : Int32)), (.int p1)])) t → Steps p.tables e below (s₁.setTop (entryFrame m #[(.ref o0), (.int p1)] 2)) t := fun t kt => pre311 t (by
                          show Steps p.tables e below (T299.setTop (mkF m 149 #[.val (.ref o0), .val (.int p1)] [(.int (14 : Int32)), (.int p1)])) _
                          refine XS.icmpYes X299.here hx rfl (pc0 := 149) (pc' := 158) rfl (hb hby d3_149) rfl (tlt hd149_312).1 (by decide) (by decide) ?_
                          show Steps p.tables e below (T299.setTop (mkF m 158 #[.val (.ref o0), .val (.int p1)] [])) _
                          refine XS.iloadN X299.here hx rfl (hb hby d3_158) rfl ?_
                          show Steps p.tables e below (T299.setTop (mkF m 159 #[.val (.ref o0), .val (.int p1)] [(.int p1)])) _
                          refine XS.bipush X299.here hx rfl (hb hby d3_159) ?_
                          exact kt)
                      have hd161_314 : p1 < (15 : Int32) := Int32.lt_of_lt_of_le hc101_304 (by decide)
                      have pre315 : ∀ t, Steps p.tables e below (T299.setTop (mkF m 173 #[.val (.ref o0), .val (.int p1)] [(.int (16 : Int32)), (.int p1)])) t → Steps p.tables e below (s₁.setTop (entryFrame m #[(.ref o0), (.int p1)] 2)) t := fun t kt => pre313 t (by
                          show Steps p.tables e below (T299.setTop (mkF m 161 #[.val (.ref o0), .val (.int p1)] [(.int (15 : Int32)), (.int p1)])) _
                          refine XS.icmpYes X299.here hx rfl (pc0 := 161) (pc' := 170) rfl (hb hby d3_161) rfl (tlt hd161_314).1 (by decide) (by decide) ?_
                          show Steps p.tables e below (T299.setTop (mkF m 170 #[.val (.ref o0), .val (.int p1)] [])) _
                          refine XS.iloadN X299.here hx rfl (hb hby d3_170) rfl ?_
                          show Steps p.tables e below (T299.setTop (mkF m 171 #[.val (.ref o0), .val (.int p1)] [(.int p1)])) _
                          refine XS.bipush X299.here hx rfl (hb hby d3_171) ?_
                          exact kt)
                      have hd173_316 : p1 < (16 : Int32) := Int32.lt_of_lt_of_le hc101_304 (by decide)
                      have pre317 : ∀ t, Steps p.tables e below (T299.setTop (mkF m 185 #[.val (.ref o0), .val (.int p1)] [(.int (17 : Int32)), (.int p1)])) t → Steps p.tables e below (s₁.setTop (entryFrame m #[(.ref o0), (.int p1)] 2)) t := fun t kt => pre315 t (by
                          show Steps p.tables e below (T299.setTop (mkF m 173 #[.val (.ref o0), .val (.int p1)] [(.int (16 : Int32)), (.int p1)])) _
                          refine XS.icmpYes X299.here hx rfl (pc0 := 173) (pc' := 182) rfl (hb hby d3_173) rfl (tlt hd173_316).1 (by decide) (by decide) ?_
                          show Steps p.tables e below (T299.setTop (mkF m 182 #[.val (.ref o0), .val (.int p1)] [])) _
                          refine XS.iloadN X299.here hx rfl (hb hby d3_182) rfl ?_
                          show Steps p.tables e below (T299.setTop (mkF m 183 #[.val (.ref o0), .val (.int p1)] [(.int p1)])) _
                          refine XS.bipush X299.here hx rfl (hb hby d3_183) ?_
                          exact kt)
                      have hd185_318 : p1 < (17 : Int32) := Int32.lt_of_lt_of_le hc101_304 (by decide)
                      have pre319 : ∀ t, Steps p.tables e below (T299.setTop (mkF m 197 #[.val (.ref o0), .val (.int p1)] [(.int (18 : Int32)), (.int p1)])) t → Steps p.tables e below (s₁.setTop (entryFrame m #[(.ref o0), (.int p1)] 2)) t := fun t kt => pre317 t (by
                          show Steps p.tables e below (T299.setTop (mkF m 185 #[.val (.ref o0), .val (.int p1)] [(.int (17 : Int32)), (.int p1)])) _
                          refine XS.icmpYes X299.here hx rfl (pc0 := 185) (pc' := 194) rfl (hb hby d3_185) rfl (tlt hd185_318).1 (by decide) (by decide) ?_
                          show Steps p.tables e below (T299.setTop (mkF m 194 #[.val (.ref o0), .val (.int p1)] [])) _
                          refine XS.iloadN X299.here hx rfl (hb hby d3_194) rfl ?_
                          show Steps p.tables e below (T299.setTop (mkF m 195 #[.val (.ref o0), .val (.int p1)] [(.int p1)])) _
                          refine XS.bipush X299.here hx rfl (hb hby d3_195) ?_
                          exact kt)
                      have hd197_320 : p1 < (18 : Int32) := Int32.lt_of_lt_of_le hc101_304 (by decide)
                      have pre321 : ∀ t, Steps p.tables e below (T299.setTop (mkF m 209 #[.val (.ref o0), .val (.int p1)] [(.int (19 : Int32)), (.int p1)])) t → Steps p.tables e below (s₁.setTop (entryFrame m #[(.ref o0), (.int p1)] 2)) t := fun t kt => pre319 t (by
                          show Steps p.tables e below (T299.setTop (mkF m 197 #[.val (.ref o0), .val (.int p1)] [(.int (18 : Int32)), (.int p1)])) _
                          refine XS.icmpYes X299.here hx rfl (pc0 := 197) (pc' := 206) rfl (hb hby d3_197) rfl (tlt hd197_320).1 (by decide) (by decide) ?_
                          show Steps p.tables e below (T299.setTop (mkF m 206 #[.val (.ref o0), .val (.int p1)] [])) _
                          refine XS.iloadN X299.here hx rfl (hb hby d3_206) rfl ?_
                          show Steps p.tables e below (T299.setTop (mkF m 207 #[.val (.ref o0), .val (.int p1)] [(.int p1)])) _
                          refine XS.bipush X299.here hx rfl (hb hby d3_207) ?_
                          exact kt)
                      have hd209_322 : p1 < (19 : Int32) := Int32.lt_of_lt_of_le hc101_304 (by decide)
                      obtain ⟨fs, hr, hrun, hended, hW, hsame⟩ := X299.leave (v := none) (fun _ => rfl)
                      refine ⟨_, _, pre321 _ ?_, hrun, hended, _, _, rfl, ?_, ⟨_, rfl⟩, hW, hsame.mono (by decide) (by decide)⟩
                      · show Steps p.tables e below (T299.setTop (mkF m 209 #[.val (.ref o0), .val (.int p1)] [(.int (19 : Int32)), (.int p1)])) _
                        refine XS.icmpYes X299.here hx rfl (pc0 := 209) (pc' := 218) rfl (hb hby d3_209) rfl (tlt hd209_322).1 (by decide) (by decide) ?_
                        show Steps p.tables e below (T299.setTop (mkF m 218 #[.val (.ref o0), .val (.int p1)] [])) _
                        exact X299.returnOut hx Bd.returns (hb hby d3_218) hr
                      · show Q3 Z o0 p1 r1 F1 h0 n0 _ T299.heap _
                        exact ⟨rfl, N299, K301, (by rw [f3_r1_a, if_neg hc2_2, if_neg hc12_43, if_neg hc22_82, if_neg hc32_120, if_neg hc42_155, if_neg hc53_189, if_neg hc65_221, if_neg hc77_251, if_neg hc89_278, if_pos hc101_304]; exact G299_0)⟩
                    · obtain ⟨cq323, kq323, q323a, q323b, q323c⟩ := isOf hZ rfl ((((c217.keep K216q).keep K246q).keep K274q).keep K299q)
                      obtain ⟨_, _, ⟨T323, L323, k323, n323⟩, -, X323, ⟨Lc323, hQ323, l323, y323, z323⟩, st323⟩ := X299.virtualBack hx (y := (⟨"com/example/cardhost/cardhost/LogicalChannels", "open", "(I)V"⟩ : MethodName)) (z := (⟨"com/example/cardhost/cardhost/LogicalChannels", "open", "(I)V"⟩ : MethodName)) hown (mvT hZ (hw _ (List.mem_of_getElem? (i := 23) rfl))) (mvT hZ (hw _ (List.mem_of_getElem? (i := 24) rfl))) (notFace_of_selects (args := #[]) (mvT hZ (hw _ (List.mem_of_getElem? (i := 26) rfl)))) (mvT hZ (hw _ (List.mem_of_getElem? (i := 26) rfl))) (mvT hZ (hw _ (List.mem_of_getElem? (i := 25) rfl))) (by decide) (backOf (W := 0) (rm4 l Z a0 hw [] o0 (10 : Int32) r1 (own_upd (own_upd (own_upd (own_upd (own_upd (own_upd (own_upd (own_upd (own_upd F1 ((1 : Int32)).toNatClampNeg (1 : Int32)) ((2 : Int32)).toNatClampNeg (1 : Int32)) ((3 : Int32)).toNatClampNeg (1 : Int32)) ((4 : Int32)).toNatClampNeg (1 : Int32)) ((5 : Int32)).toNatClampNeg (1 : Int32)) ((6 : Int32)).toNatClampNeg (1 : Int32)) ((7 : Int32)).toNatClampNeg (1 : Int32)) ((8 : Int32)).toNatClampNeg (1 : Int32)) ((9 : Int32)).toNatClampNeg (1 : Int32)) T299.heap n0 Z302 (c300.keep K299q (ninS ne_o0_r1 nin0)) G299_0 g_r1 (by decide)) hZ (hw _ (List.mem_of_getElem? (i := 27) rfl)) (hw _ (List.mem_of_getElem? (i := 3) rfl)) (by decide) (by decide)) q323a q323c (g := (mkF m 107 #[.val (.ref o0), .val (.int p1)] [(.int (10 : Int32)), (.ref o0)])) rfl (by rw [hml]; rfl) (Steps.refl _) (argsL := [(.int (10 : Int32))]) (rest := []) (lenOf pd_3_0 rfl) rfl (by show 2 * 0 + _ ≤ _; exact Nat.le_of_eq rfl) (hb hby d3_107) (fun _ _ => ⟨rfl, rfl, (by decide : 0 + 0 ≤ _), (by decide : 0 + 0 ≤ _)⟩)
                      dsimp only [Pt.U, Pt.locs, Pt.cells, Pt.slots] at X323 l323 y323 z323 st323 hQ323
                      subst l323 y323 z323
                      obtain ⟨rfl, N323q, K323q, G323_0⟩ := hQ323
                      have N323 := Fr.app N299 N323q
                      have K324 : Keep h0 T323.heap [r1] := K301.trans K323q (allS (Or.inl (List.mem_of_getElem? (i := 0) rfl)) all0)
                      have Z325 : n0 ≤ T323.heap.size := Nat.le_trans Z0 K324.1
                      obtain ⟨LS323, X323, N323⟩ : ∃ L, Stand p l e ({ frames := 1, cells := 0, slots := 0, locals := 13 } : Room) s m #[(.ref o0), (.int p1)] below meth c T323 L 0 0 ∧ Fr n0 L := ⟨_, X323, N323⟩
                      have pre326 : ∀ t, Steps p.tables e below (T323.setTop (mkF m 113 #[.val (.ref o0), .val (.int p1)] [(.int (11 : Int32)), (.int p1)])) t → Steps p.tables e below (s₁.setTop (entryFrame m #[(.ref o0), (.int p1)] 2)) t := fun t kt => pre303 t (by
                          show Steps p.tables e below (T299.setTop (mkF m 101 #[.val (.ref o0), .val (.int p1)] [(.int (10 : Int32)), (.int p1)])) _
                          refine XS.icmpNo X299.here hx rfl (hb hby d3_101) rfl (flt hc101_304).1 ?_
                          show Steps p.tables e below (T299.setTop (mkF m 104 #[.val (.ref o0), .val (.int p1)] [])) _
                          refine XS.aloadN X299.here hx rfl (hb hby d3_104) rfl rfl ?_
                          show Steps p.tables e below (T299.setTop (mkF m 105 #[.val (.ref o0), .val (.int p1)] [(.ref o0)])) _
                          refine XS.bipush X299.here hx rfl (hb hby d3_105) ?_
                          show Steps p.tables e below (T299.setTop (mkF m 107 #[.val (.ref o0), .val (.int p1)] [(.int (10 : Int32)), (.ref o0)])) _
                          refine st323.trans ?_
                          show Steps p.tables e below (T323.setTop (mkF m 110 #[.val (.ref o0), .val (.int p1)] [])) _
                          refine XS.iloadN X323.here hx rfl (hb hby d3_110) rfl ?_
                          show Steps p.tables e below (T323.setTop (mkF m 111 #[.val (.ref o0), .val (.int p1)] [(.int p1)])) _
                          refine XS.bipush X323.here hx rfl (hb hby d3_111) ?_
                          exact kt)
                      by_cases hc113_327 : p1 < (11 : Int32)
                      · have pre328 : ∀ t, Steps p.tables e below (T323.setTop (mkF m 125 #[.val (.ref o0), .val (.int p1)] [(.int (12 : Int32)), (.int p1)])) t → Steps p.tables e below (s₁.setTop (entryFrame m #[(.ref o0), (.int p1)] 2)) t := fun t kt => pre326 t (by
                            show Steps p.tables e below (T323.setTop (mkF m 113 #[.val (.ref o0), .val (.int p1)] [(.int (11 : Int32)), (.int p1)])) _
                            refine XS.icmpYes X323.here hx rfl (pc0 := 113) (pc' := 122) rfl (hb hby d3_113) rfl (tlt hc113_327).1 (by decide) (by decide) ?_
                            show Steps p.tables e below (T323.setTop (mkF m 122 #[.val (.ref o0), .val (.int p1)] [])) _
                            refine XS.iloadN X323.here hx rfl (hb hby d3_122) rfl ?_
                            show Steps p.tables e below (T323.setTop (mkF m 123 #[.val (.ref o0), .val (.int p1)] [(.int p1)])) _
                            refine XS.bipush X323.here hx rfl (hb hby d3_123) ?_
                            exact kt)
                        have hd125_329 : p1 < (12 : Int32) := Int32.lt_of_lt_of_le hc113_327 (by decide)
                        have pre330 : ∀ t, Steps p.tables e below (T323.setTop (mkF m 137 #[.val (.ref o0), .val (.int p1)] [(.int (13 : Int32)), (.int p1)])) t → Steps p.tables e below (s₁.setTop (entryFrame m #[(.ref o0), (.int p1)] 2)) t := fun t kt => pre328 t (by
                            show Steps p.tables e below (T323.setTop (mkF m 125 #[.val (.ref o0), .val (.int p1)] [(.int (12 : Int32)), (.int p1)])) _
                            refine XS.icmpYes X323.here hx rfl (pc0 := 125) (pc' := 134) rfl (hb hby d3_125) rfl (tlt hd125_329).1 (by decide) (by decide) ?_
                            show Steps p.tables e below (T323.setTop (mkF m 134 #[.val (.ref o0), .val (.int p1)] [])) _
                            refine XS.iloadN X323.here hx rfl (hb hby d3_134) rfl ?_
                            show Steps p.tables e below (T323.setTop (mkF m 135 #[.val (.ref o0), .val (.int p1)] [(.int p1)])) _
                            refine XS.bipush X323.here hx rfl (hb hby d3_135) ?_
                            exact kt)
                        have hd137_331 : p1 < (13 : Int32) := Int32.lt_of_lt_of_le hc113_327 (by decide)
                        have pre332 : ∀ t, Steps p.tables e below (T323.setTop (mkF m 149 #[.val (.ref o0), .val (.int p1)] [(.int (14 : Int32)), (.int p1)])) t → Steps p.tables e below (s₁.setTop (entryFrame m #[(.ref o0), (.int p1)] 2)) t := fun t kt => pre330 t (by
                            show Steps p.tables e below (T323.setTop (mkF m 137 #[.val (.ref o0), .val (.int p1)] [(.int (13 : Int32)), (.int p1)])) _
                            refine XS.icmpYes X323.here hx rfl (pc0 := 137) (pc' := 146) rfl (hb hby d3_137) rfl (tlt hd137_331).1 (by decide) (by decide) ?_
                            show Steps p.tables e below (T323.setTop (mkF m 146 #[.val (.ref o0), .val (.int p1)] [])) _
                            refine XS.iloadN X323.here hx rfl (hb hby d3_146) rfl ?_
                            show Steps p.tables e below (T323.setTop (mkF m 147 #[.val (.ref o0), .val (.int p1)] [(.int p1)])) _
                            refine XS.bipush X323.here hx rfl (hb hby d3_147) ?_
                            exact kt)
                        have hd149_333 : p1 < (14 : Int32) := Int32.lt_of_lt_of_le hc113_327 (by decide)
                        have pre334 : ∀ t, Steps p.tables e below (T323.setTop (mkF m 161 #[.val (.ref o0), .val (.int p1)] [(.int (15 : Int32)), (.int p1)])) t → Steps p.tables e below (s₁.setTop (entryFrame m #[(.ref o0), (.int p1)] 2)) t := fun t kt => pre332 t (by
                            show Steps p.tables e below (T323.setTop (mkF m 149 #[.val (.ref o0), .val (.int p1)] [(.int (14 : Int32)), (.int p1)])) _
                            refine XS.icmpYes X323.here hx rfl (pc0 := 149) (pc' := 158) rfl (hb hby d3_149) rfl (tlt hd149_333).1 (by decide) (by decide) ?_
                            show Steps p.tables e below (T323.setTop (mkF m 158 #[.val (.ref o0), .val (.int p1)] [])) _
                            refine XS.iloadN X323.here hx rfl (hb hby d3_158) rfl ?_
                            show Steps p.tables e below (T323.setTop (mkF m 159 #[.val (.ref o0), .val (.int p1)] [(.int p1)])) _
                            refine XS.bipush X323.here hx rfl (hb hby d3_159) ?_
                            exact kt)
                        have hd161_335 : p1 < (15 : Int32) := Int32.lt_of_lt_of_le hc113_327 (by decide)
                        have pre336 : ∀ t, Steps p.tables e below (T323.setTop (mkF m 173 #[.val (.ref o0), .val (.int p1)] [(.int (16 : Int32)), (.int p1)])) t → Steps p.tables e below (s₁.setTop (entryFrame m #[(.ref o0), (.int p1)] 2)) t := fun t kt => pre334 t (by
                            show Steps p.tables e below (T323.setTop (mkF m 161 #[.val (.ref o0), .val (.int p1)] [(.int (15 : Int32)), (.int p1)])) _
                            refine XS.icmpYes X323.here hx rfl (pc0 := 161) (pc' := 170) rfl (hb hby d3_161) rfl (tlt hd161_335).1 (by decide) (by decide) ?_
                            show Steps p.tables e below (T323.setTop (mkF m 170 #[.val (.ref o0), .val (.int p1)] [])) _
                            refine XS.iloadN X323.here hx rfl (hb hby d3_170) rfl ?_
                            show Steps p.tables e below (T323.setTop (mkF m 171 #[.val (.ref o0), .val (.int p1)] [(.int p1)])) _
                            refine XS.bipush X323.here hx rfl (hb hby d3_171) ?_
                            exact kt)
                        have hd173_337 : p1 < (16 : Int32) := Int32.lt_of_lt_of_le hc113_327 (by decide)
                        have pre338 : ∀ t, Steps p.tables e below (T323.setTop (mkF m 185 #[.val (.ref o0), .val (.int p1)] [(.int (17 : Int32)), (.int p1)])) t → Steps p.tables e below (s₁.setTop (entryFrame m #[(.ref o0), (.int p1)] 2)) t := fun t kt => pre336 t (by
                            show Steps p.tables e below (T323.setTop (mkF m 173 #[.val (.ref o0), .val (.int p1)] [(.int (16 : Int32)), (.int p1)])) _
                            refine XS.icmpYes X323.here hx rfl (pc0 := 173) (pc' := 182) rfl (hb hby d3_173) rfl (tlt hd173_337).1 (by decide) (by decide) ?_
                            show Steps p.tables e below (T323.setTop (mkF m 182 #[.val (.ref o0), .val (.int p1)] [])) _
                            refine XS.iloadN X323.here hx rfl (hb hby d3_182) rfl ?_
                            show Steps p.tables e below (T323.setTop (mkF m 183 #[.val (.ref o0), .val (.int p1)] [(.int p1)])) _
                            refine XS.bipush X323.here hx rfl (hb hby d3_183) ?_
                            exact kt)
                        have hd185_339 : p1 < (17 : Int32) := Int32.lt_of_lt_of_le hc113_327 (by decide)
                        have pre340 : ∀ t, Steps p.tables e below (T323.setTop (mkF m 197 #[.val (.ref o0), .val (.int p1)] [(.int (18 : Int32)), (.int p1)])) t → Steps p.tables e below (s₁.setTop (entryFrame m #[(.ref o0), (.int p1)] 2)) t := fun t kt => pre338 t (by
                            show Steps p.tables e below (T323.setTop (mkF m 185 #[.val (.ref o0), .val (.int p1)] [(.int (17 : Int32)), (.int p1)])) _
                            refine XS.icmpYes X323.here hx rfl (pc0 := 185) (pc' := 194) rfl (hb hby d3_185) rfl (tlt hd185_339).1 (by decide) (by decide) ?_
                            show Steps p.tables e below (T323.setTop (mkF m 194 #[.val (.ref o0), .val (.int p1)] [])) _
                            refine XS.iloadN X323.here hx rfl (hb hby d3_194) rfl ?_
                            show Steps p.tables e below (T323.setTop (mkF m 195 #[.val (.ref o0), .val (.int p1)] [(.int p1)])) _
                            refine XS.bipush X323.here hx rfl (hb hby d3_195) ?_
                            exact kt)
                        have hd197_341 : p1 < (18 : Int32) := Int32.lt_of_lt_of_le hc113_327 (by decide)
                        have pre342 : ∀ t, Steps p.tables e below (T323.setTop (mkF m 209 #[.val (.ref o0), .val (.int p1)] [(.int (19 : Int32)), (.int p1)])) t → Steps p.tables e below (s₁.setTop (entryFrame m #[(.ref o0), (.int p1)] 2)) t := fun t kt => pre340 t (by
                            show Steps p.tables e below (T323.setTop (mkF m 197 #[.val (.ref o0), .val (.int p1)] [(.int (18 : Int32)), (.int p1)])) _
                            refine XS.icmpYes X323.here hx rfl (pc0 := 197) (pc' := 206) rfl (hb hby d3_197) rfl (tlt hd197_341).1 (by decide) (by decide) ?_
                            show Steps p.tables e below (T323.setTop (mkF m 206 #[.val (.ref o0), .val (.int p1)] [])) _
                            refine XS.iloadN X323.here hx rfl (hb hby d3_206) rfl ?_
                            show Steps p.tables e below (T323.setTop (mkF m 207 #[.val (.ref o0), .val (.int p1)] [(.int p1)])) _
                            refine XS.bipush X323.here hx rfl (hb hby d3_207) ?_
                            exact kt)
                        have hd209_343 : p1 < (19 : Int32) := Int32.lt_of_lt_of_le hc113_327 (by decide)
                        obtain ⟨fs, hr, hrun, hended, hW, hsame⟩ := X323.leave (v := none) (fun _ => rfl)
                        refine ⟨_, _, pre342 _ ?_, hrun, hended, _, _, rfl, ?_, ⟨_, rfl⟩, hW, hsame.mono (by decide) (by decide)⟩
                        · show Steps p.tables e below (T323.setTop (mkF m 209 #[.val (.ref o0), .val (.int p1)] [(.int (19 : Int32)), (.int p1)])) _
                          refine XS.icmpYes X323.here hx rfl (pc0 := 209) (pc' := 218) rfl (hb hby d3_209) rfl (tlt hd209_343).1 (by decide) (by decide) ?_
                          show Steps p.tables e below (T323.setTop (mkF m 218 #[.val (.ref o0), .val (.int p1)] [])) _
                          exact X323.returnOut hx Bd.returns (hb hby d3_218) hr
                        · show Q3 Z o0 p1 r1 F1 h0 n0 _ T323.heap _
                          exact ⟨rfl, N323, K324, (by rw [f3_r1_a, if_neg hc2_2, if_neg hc12_43, if_neg hc22_82, if_neg hc32_120, if_neg hc42_155, if_neg hc53_189, if_neg hc65_221, if_neg hc77_251, if_neg hc89_278, if_neg hc101_304, if_pos hc113_327]; exact G323_0)⟩
                      · have c345 := ((c300.keep K299q (ninS ne_o0_r1 nin0)).keep K323q (ninS ne_o0_r1 nin0))
                        have c346 := (((((c217.keep K216q).keep K246q).keep K274q).keep K299q).keep K323q)
                        obtain ⟨cq344, kq344, q344a, q344b, q344c⟩ := isOf hZ rfl c346
                        obtain ⟨_, _, ⟨T344, L344, k344, n344⟩, -, X344, ⟨Lc344, hQ344, l344, y344, z344⟩, st344⟩ := X323.virtualBack hx (y := (⟨"com/example/cardhost/cardhost/LogicalChannels", "open", "(I)V"⟩ : MethodName)) (z := (⟨"com/example/cardhost/cardhost/LogicalChannels", "open", "(I)V"⟩ : MethodName)) hown (mvT hZ (hw _ (List.mem_of_getElem? (i := 23) rfl))) (mvT hZ (hw _ (List.mem_of_getElem? (i := 24) rfl))) (notFace_of_selects (args := #[]) (mvT hZ (hw _ (List.mem_of_getElem? (i := 26) rfl)))) (mvT hZ (hw _ (List.mem_of_getElem? (i := 26) rfl))) (mvT hZ (hw _ (List.mem_of_getElem? (i := 25) rfl))) (by decide) (backOf (W := 0) (rm4 l Z a0 hw [] o0 (11 : Int32) r1 (own_upd (own_upd (own_upd (own_upd (own_upd (own_upd (own_upd (own_upd (own_upd (own_upd F1 ((1 : Int32)).toNatClampNeg (1 : Int32)) ((2 : Int32)).toNatClampNeg (1 : Int32)) ((3 : Int32)).toNatClampNeg (1 : Int32)) ((4 : Int32)).toNatClampNeg (1 : Int32)) ((5 : Int32)).toNatClampNeg (1 : Int32)) ((6 : Int32)).toNatClampNeg (1 : Int32)) ((7 : Int32)).toNatClampNeg (1 : Int32)) ((8 : Int32)).toNatClampNeg (1 : Int32)) ((9 : Int32)).toNatClampNeg (1 : Int32)) ((10 : Int32)).toNatClampNeg (1 : Int32)) T323.heap n0 Z325 c345 G323_0 g_r1 (by decide)) hZ (hw _ (List.mem_of_getElem? (i := 27) rfl)) (hw _ (List.mem_of_getElem? (i := 3) rfl)) (by decide) (by decide)) q344a q344c (g := (mkF m 119 #[.val (.ref o0), .val (.int p1)] [(.int (11 : Int32)), (.ref o0)])) rfl (by rw [hml]; rfl) (Steps.refl _) (argsL := [(.int (11 : Int32))]) (rest := []) (lenOf pd_3_0 rfl) rfl (by show 2 * 0 + _ ≤ _; exact Nat.le_of_eq rfl) (hb hby d3_119) (fun _ _ => ⟨rfl, rfl, (by decide : 0 + 0 ≤ _), (by decide : 0 + 0 ≤ _)⟩)
                        dsimp only [Pt.U, Pt.locs, Pt.cells, Pt.slots] at X344 l344 y344 z344 st344 hQ344
                        subst l344 y344 z344
                        obtain ⟨rfl, N344q, K344q, G344_0⟩ := hQ344
                        have N344 := Fr.app N323 N344q
                        have K347 : Keep h0 T344.heap [r1] := K324.trans K344q (allS (Or.inl (List.mem_of_getElem? (i := 0) rfl)) all0)
                        have Z348 : n0 ≤ T344.heap.size := Nat.le_trans Z0 K347.1
                        obtain ⟨LS344, X344, N344⟩ : ∃ L, Stand p l e ({ frames := 1, cells := 0, slots := 0, locals := 13 } : Room) s m #[(.ref o0), (.int p1)] below meth c T344 L 0 0 ∧ Fr n0 L := ⟨_, X344, N344⟩
                        have pre349 : ∀ t, Steps p.tables e below (T344.setTop (mkF m 125 #[.val (.ref o0), .val (.int p1)] [(.int (12 : Int32)), (.int p1)])) t → Steps p.tables e below (s₁.setTop (entryFrame m #[(.ref o0), (.int p1)] 2)) t := fun t kt => pre326 t (by
                            show Steps p.tables e below (T323.setTop (mkF m 113 #[.val (.ref o0), .val (.int p1)] [(.int (11 : Int32)), (.int p1)])) _
                            refine XS.icmpNo X323.here hx rfl (hb hby d3_113) rfl (flt hc113_327).1 ?_
                            show Steps p.tables e below (T323.setTop (mkF m 116 #[.val (.ref o0), .val (.int p1)] [])) _
                            refine XS.aloadN X323.here hx rfl (hb hby d3_116) rfl rfl ?_
                            show Steps p.tables e below (T323.setTop (mkF m 117 #[.val (.ref o0), .val (.int p1)] [(.ref o0)])) _
                            refine XS.bipush X323.here hx rfl (hb hby d3_117) ?_
                            show Steps p.tables e below (T323.setTop (mkF m 119 #[.val (.ref o0), .val (.int p1)] [(.int (11 : Int32)), (.ref o0)])) _
                            refine st344.trans ?_
                            show Steps p.tables e below (T344.setTop (mkF m 122 #[.val (.ref o0), .val (.int p1)] [])) _
                            refine XS.iloadN X344.here hx rfl (hb hby d3_122) rfl ?_
                            show Steps p.tables e below (T344.setTop (mkF m 123 #[.val (.ref o0), .val (.int p1)] [(.int p1)])) _
                            refine XS.bipush X344.here hx rfl (hb hby d3_123) ?_
                            exact kt)
                        by_cases hc125_350 : p1 < (12 : Int32)
                        · have pre351 : ∀ t, Steps p.tables e below (T344.setTop (mkF m 137 #[.val (.ref o0), .val (.int p1)] [(.int (13 : Int32)), (.int p1)])) t → Steps p.tables e below (s₁.setTop (entryFrame m #[(.ref o0), (.int p1)] 2)) t := fun t kt => pre349 t (by
                              show Steps p.tables e below (T344.setTop (mkF m 125 #[.val (.ref o0), .val (.int p1)] [(.int (12 : Int32)), (.int p1)])) _
                              refine XS.icmpYes X344.here hx rfl (pc0 := 125) (pc' := 134) rfl (hb hby d3_125) rfl (tlt hc125_350).1 (by decide) (by decide) ?_
                              show Steps p.tables e below (T344.setTop (mkF m 134 #[.val (.ref o0), .val (.int p1)] [])) _
                              refine XS.iloadN X344.here hx rfl (hb hby d3_134) rfl ?_
                              show Steps p.tables e below (T344.setTop (mkF m 135 #[.val (.ref o0), .val (.int p1)] [(.int p1)])) _
                              refine XS.bipush X344.here hx rfl (hb hby d3_135) ?_
                              exact kt)
                          have hd137_352 : p1 < (13 : Int32) := Int32.lt_of_lt_of_le hc125_350 (by decide)
                          have pre353 : ∀ t, Steps p.tables e below (T344.setTop (mkF m 149 #[.val (.ref o0), .val (.int p1)] [(.int (14 : Int32)), (.int p1)])) t → Steps p.tables e below (s₁.setTop (entryFrame m #[(.ref o0), (.int p1)] 2)) t := fun t kt => pre351 t (by
                              show Steps p.tables e below (T344.setTop (mkF m 137 #[.val (.ref o0), .val (.int p1)] [(.int (13 : Int32)), (.int p1)])) _
                              refine XS.icmpYes X344.here hx rfl (pc0 := 137) (pc' := 146) rfl (hb hby d3_137) rfl (tlt hd137_352).1 (by decide) (by decide) ?_
                              show Steps p.tables e below (T344.setTop (mkF m 146 #[.val (.ref o0), .val (.int p1)] [])) _
                              refine XS.iloadN X344.here hx rfl (hb hby d3_146) rfl ?_
                              show Steps p.tables e below (T344.setTop (mkF m 147 #[.val (.ref o0), .val (.int p1)] [(.int p1)])) _
                              refine XS.bipush X344.here hx rfl (hb hby d3_147) ?_
                              exact kt)
                          have hd149_354 : p1 < (14 : Int32) := Int32.lt_of_lt_of_le hc125_350 (by decide)
                          have pre355 : ∀ t, Steps p.tables e below (T344.setTop (mkF m 161 #[.val (.ref o0), .val (.int p1)] [(.int (15 : Int32)), (.int p1)])) t → Steps p.tables e below (s₁.setTop (entryFrame m #[(.ref o0), (.int p1)] 2)) t := fun t kt => pre353 t (by
                              show Steps p.tables e below (T344.setTop (mkF m 149 #[.val (.ref o0), .val (.int p1)] [(.int (14 : Int32)), (.int p1)])) _
                              refine XS.icmpYes X344.here hx rfl (pc0 := 149) (pc' := 158) rfl (hb hby d3_149) rfl (tlt hd149_354).1 (by decide) (by decide) ?_
                              show Steps p.tables e below (T344.setTop (mkF m 158 #[.val (.ref o0), .val (.int p1)] [])) _
                              refine XS.iloadN X344.here hx rfl (hb hby d3_158) rfl ?_
                              show Steps p.tables e below (T344.setTop (mkF m 159 #[.val (.ref o0), .val (.int p1)] [(.int p1)])) _
                              refine XS.bipush X344.here hx rfl (hb hby d3_159) ?_
                              exact kt)
                          have hd161_356 : p1 < (15 : Int32) := Int32.lt_of_lt_of_le hc125_350 (by decide)
                          have pre357 : ∀ t, Steps p.tables e below (T344.setTop (mkF m 173 #[.val (.ref o0), .val (.int p1)] [(.int (16 : Int32)), (.int p1)])) t → Steps p.tables e below (s₁.setTop (entryFrame m #[(.ref o0), (.int p1)] 2)) t := fun t kt => pre355 t (by
                              show Steps p.tables e below (T344.setTop (mkF m 161 #[.val (.ref o0), .val (.int p1)] [(.int (15 : Int32)), (.int p1)])) _
                              refine XS.icmpYes X344.here hx rfl (pc0 := 161) (pc' := 170) rfl (hb hby d3_161) rfl (tlt hd161_356).1 (by decide) (by decide) ?_
                              show Steps p.tables e below (T344.setTop (mkF m 170 #[.val (.ref o0), .val (.int p1)] [])) _
                              refine XS.iloadN X344.here hx rfl (hb hby d3_170) rfl ?_
                              show Steps p.tables e below (T344.setTop (mkF m 171 #[.val (.ref o0), .val (.int p1)] [(.int p1)])) _
                              refine XS.bipush X344.here hx rfl (hb hby d3_171) ?_
                              exact kt)
                          have hd173_358 : p1 < (16 : Int32) := Int32.lt_of_lt_of_le hc125_350 (by decide)
                          have pre359 : ∀ t, Steps p.tables e below (T344.setTop (mkF m 185 #[.val (.ref o0), .val (.int p1)] [(.int (17 : Int32)), (.int p1)])) t → Steps p.tables e below (s₁.setTop (entryFrame m #[(.ref o0), (.int p1)] 2)) t := fun t kt => pre357 t (by
                              show Steps p.tables e below (T344.setTop (mkF m 173 #[.val (.ref o0), .val (.int p1)] [(.int (16 : Int32)), (.int p1)])) _
                              refine XS.icmpYes X344.here hx rfl (pc0 := 173) (pc' := 182) rfl (hb hby d3_173) rfl (tlt hd173_358).1 (by decide) (by decide) ?_
                              show Steps p.tables e below (T344.setTop (mkF m 182 #[.val (.ref o0), .val (.int p1)] [])) _
                              refine XS.iloadN X344.here hx rfl (hb hby d3_182) rfl ?_
                              show Steps p.tables e below (T344.setTop (mkF m 183 #[.val (.ref o0), .val (.int p1)] [(.int p1)])) _
                              refine XS.bipush X344.here hx rfl (hb hby d3_183) ?_
                              exact kt)
                          have hd185_360 : p1 < (17 : Int32) := Int32.lt_of_lt_of_le hc125_350 (by decide)
                          have pre361 : ∀ t, Steps p.tables e below (T344.setTop (mkF m 197 #[.val (.ref o0), .val (.int p1)] [(.int (18 : Int32)), (.int p1)])) t → Steps p.tables e below (s₁.setTop (entryFrame m #[(.ref o0), (.int p1)] 2)) t := fun t kt => pre359 t (by
                              show Steps p.tables e below (T344.setTop (mkF m 185 #[.val (.ref o0), .val (.int p1)] [(.int (17 : Int32)), (.int p1)])) _
                              refine XS.icmpYes X344.here hx rfl (pc0 := 185) (pc' := 194) rfl (hb hby d3_185) rfl (tlt hd185_360).1 (by decide) (by decide) ?_
                              show Steps p.tables e below (T344.setTop (mkF m 194 #[.val (.ref o0), .val (.int p1)] [])) _
                              refine XS.iloadN X344.here hx rfl (hb hby d3_194) rfl ?_
                              show Steps p.tables e below (T344.setTop (mkF m 195 #[.val (.ref o0), .val (.int p1)] [(.int p1)])) _
                              refine XS.bipush X344.here hx rfl (hb hby d3_195) ?_
                              exact kt)
                          have hd197_362 : p1 < (18 : Int32) := Int32.lt_of_lt_of_le hc125_350 (by decide)
                          have pre363 : ∀ t, Steps p.tables e below (T344.setTop (mkF m 209 #[.val (.ref o0), .val (.int p1)] [(.int (19 : Int32)), (.int p1)])) t → Steps p.tables e below (s₁.setTop (entryFrame m #[(.ref o0), (.int p1)] 2)) t := fun t kt => pre361 t (by
                              show Steps p.tables e below (T344.setTop (mkF m 197 #[.val (.ref o0), .val (.int p1)] [(.int (18 : Int32)), (.int p1)])) _
                              refine XS.icmpYes X344.here hx rfl (pc0 := 197) (pc' := 206) rfl (hb hby d3_197) rfl (tlt hd197_362).1 (by decide) (by decide) ?_
                              show Steps p.tables e below (T344.setTop (mkF m 206 #[.val (.ref o0), .val (.int p1)] [])) _
                              refine XS.iloadN X344.here hx rfl (hb hby d3_206) rfl ?_
                              show Steps p.tables e below (T344.setTop (mkF m 207 #[.val (.ref o0), .val (.int p1)] [(.int p1)])) _
                              refine XS.bipush X344.here hx rfl (hb hby d3_207) ?_
                              exact kt)
                          have hd209_364 : p1 < (19 : Int32) := Int32.lt_of_lt_of_le hc125_350 (by decide)
                          obtain ⟨fs, hr, hrun, hended, hW, hsame⟩ := X344.leave (v := none) (fun _ => rfl)
                          refine ⟨_, _, pre363 _ ?_, hrun, hended, _, _, rfl, ?_, ⟨_, rfl⟩, hW, hsame.mono (by decide) (by decide)⟩
                          · show Steps p.tables e below (T344.setTop (mkF m 209 #[.val (.ref o0), .val (.int p1)] [(.int (19 : Int32)), (.int p1)])) _
                            refine XS.icmpYes X344.here hx rfl (pc0 := 209) (pc' := 218) rfl (hb hby d3_209) rfl (tlt hd209_364).1 (by decide) (by decide) ?_
                            show Steps p.tables e below (T344.setTop (mkF m 218 #[.val (.ref o0), .val (.int p1)] [])) _
                            exact X344.returnOut hx Bd.returns (hb hby d3_218) hr
                          · show Q3 Z o0 p1 r1 F1 h0 n0 _ T344.heap _
                            exact ⟨rfl, N344, K347, (by rw [f3_r1_a, if_neg hc2_2, if_neg hc12_43, if_neg hc22_82, if_neg hc32_120, if_neg hc42_155, if_neg hc53_189, if_neg hc65_221, if_neg hc77_251, if_neg hc89_278, if_neg hc101_304, if_neg hc113_327, if_pos hc125_350]; exact G344_0)⟩
                        · obtain ⟨cq365, kq365, q365a, q365b, q365c⟩ := isOf hZ rfl (c346.keep K344q)
                          obtain ⟨_, _, ⟨T365, L365, k365, n365⟩, -, X365, ⟨Lc365, hQ365, l365, y365, z365⟩, st365⟩ := X344.virtualBack hx (y := (⟨"com/example/cardhost/cardhost/LogicalChannels", "open", "(I)V"⟩ : MethodName)) (z := (⟨"com/example/cardhost/cardhost/LogicalChannels", "open", "(I)V"⟩ : MethodName)) hown (mvT hZ (hw _ (List.mem_of_getElem? (i := 23) rfl))) (mvT hZ (hw _ (List.mem_of_getElem? (i := 24) rfl))) (notFace_of_selects (args := #[]) (mvT hZ (hw _ (List.mem_of_getElem? (i := 26) rfl)))) (mvT hZ (hw _ (List.mem_of_getElem? (i := 26) rfl))) (mvT hZ (hw _ (List.mem_of_getElem? (i := 25) rfl))) (by decide) (backOf (W := 0) (rm4 l Z a0 hw [] o0 (12 : Int32) r1 (own_upd (own_upd (own_upd (own_upd (own_upd (own_upd (own_upd (own_upd (own_upd (own_upd (own_upd F1 ((1 : Int32)).toNatClampNeg (1 : Int32)) ((2 : Int32)).toNatClampNeg (1 : Int32)) ((3 : Int32)).toNatClampNeg (1 : Int32)) ((4 : Int32)).toNatClampNeg (1 : Int32)) ((5 : Int32)).toNatClampNeg (1 : Int32)) ((6 : Int32)).toNatClampNeg (1 : Int32)) ((7 : Int32)).toNatClampNeg (1 : Int32)) ((8 : Int32)).toNatClampNeg (1 : Int32)) ((9 : Int32)).toNatClampNeg (1 : Int32)) ((10 : Int32)).toNatClampNeg (1 : Int32)) ((11 : Int32)).toNatClampNeg (1 : Int32)) T344.heap n0 Z348 (c345.keep K344q (ninS ne_o0_r1 nin0)) G344_0 g_r1 (by decide)) hZ (hw _ (List.mem_of_getElem? (i := 27) rfl)) (hw _ (List.mem_of_getElem? (i := 3) rfl)) (by decide) (by decide)) q365a q365c (g := (mkF m 131 #[.val (.ref o0), .val (.int p1)] [(.int (12 : Int32)), (.ref o0)])) rfl (by rw [hml]; rfl) (Steps.refl _) (argsL := [(.int (12 : Int32))]) (rest := []) (lenOf pd_3_0 rfl) rfl (by show 2 * 0 + _ ≤ _; exact Nat.le_of_eq rfl) (hb hby d3_131) (fun _ _ => ⟨rfl, rfl, (by decide : 0 + 0 ≤ _), (by decide : 0 + 0 ≤ _)⟩)
                          dsimp only [Pt.U, Pt.locs, Pt.cells, Pt.slots] at X365 l365 y365 z365 st365 hQ365
                          subst l365 y365 z365
                          obtain ⟨rfl, N365q, K365q, G365_0⟩ := hQ365
                          have N365 := Fr.app N344 N365q
                          have K366 : Keep h0 T365.heap [r1] := K347.trans K365q (allS (Or.inl (List.mem_of_getElem? (i := 0) rfl)) all0)
                          have Z367 : n0 ≤ T365.heap.size := Nat.le_trans Z0 K366.1
                          obtain ⟨LS365, X365, N365⟩ : ∃ L, Stand p l e ({ frames := 1, cells := 0, slots := 0, locals := 13 } : Room) s m #[(.ref o0), (.int p1)] below meth c T365 L 0 0 ∧ Fr n0 L := ⟨_, X365, N365⟩
                          have pre368 : ∀ t, Steps p.tables e below (T365.setTop (mkF m 137 #[.val (.ref o0), .val (.int p1)] [(.int (13 : Int32)), (.int p1)])) t → Steps p.tables e below (s₁.setTop (entryFrame m #[(.ref o0), (.int p1)] 2)) t := fun t kt => pre349 t (by
                              show Steps p.tables e below (T344.setTop (mkF m 125 #[.val (.ref o0), .val (.int p1)] [(.int (12 : Int32)), (.int p1)])) _
                              refine XS.icmpNo X344.here hx rfl (hb hby d3_125) rfl (flt hc125_350).1 ?_
                              show Steps p.tables e below (T344.setTop (mkF m 128 #[.val (.ref o0), .val (.int p1)] [])) _
                              refine XS.aloadN X344.here hx rfl (hb hby d3_128) rfl rfl ?_
                              show Steps p.tables e below (T344.setTop (mkF m 129 #[.val (.ref o0), .val (.int p1)] [(.ref o0)])) _
                              refine XS.bipush X344.here hx rfl (hb hby d3_129) ?_
                              show Steps p.tables e below (T344.setTop (mkF m 131 #[.val (.ref o0), .val (.int p1)] [(.int (12 : Int32)), (.ref o0)])) _
                              refine st365.trans ?_
                              show Steps p.tables e below (T365.setTop (mkF m 134 #[.val (.ref o0), .val (.int p1)] [])) _
                              refine XS.iloadN X365.here hx rfl (hb hby d3_134) rfl ?_
                              show Steps p.tables e below (T365.setTop (mkF m 135 #[.val (.ref o0), .val (.int p1)] [(.int p1)])) _
                              refine XS.bipush X365.here hx rfl (hb hby d3_135) ?_
                              exact kt)
                          by_cases hc137_369 : p1 < (13 : Int32)
                          · have pre370 : ∀ t, Steps p.tables e below (T365.setTop (mkF m 149 #[.val (.ref o0), .val (.int p1)] [(.int (14 : Int32)), (.int p1)])) t → Steps p.tables e below (s₁.setTop (entryFrame m #[(.ref o0), (.int p1)] 2)) t := fun t kt => pre368 t (by
                                show Steps p.tables e below (T365.setTop (mkF m 137 #[.val (.ref o0), .val (.int p1)] [(.int (13 : Int32)), (.int p1)])) _
                                refine XS.icmpYes X365.here hx rfl (pc0 := 137) (pc' := 146) rfl (hb hby d3_137) rfl (tlt hc137_369).1 (by decide) (by decide) ?_
                                show Steps p.tables e below (T365.setTop (mkF m 146 #[.val (.ref o0), .val (.int p1)] [])) _
                                refine XS.iloadN X365.here hx rfl (hb hby d3_146) rfl ?_
                                show Steps p.tables e below (T365.setTop (mkF m 147 #[.val (.ref o0), .val (.int p1)] [(.int p1)])) _
                                refine XS.bipush X365.here hx rfl (hb hby d3_147) ?_
                                exact kt)
                            have hd149_371 : p1 < (14 : Int32) := Int32.lt_of_lt_of_le hc137_369 (by decide)
                            have pre372 : ∀ t, Steps p.tables e below (T365.setTop (mkF m 161 #[.val (.ref o0), .val (.int p1)] [(.int (15 : Int32)), (.int p1)])) t → Steps p.tables e below (s₁.setTop (entryFrame m #[(.ref o0), (.int p1)] 2)) t := fun t kt => pre370 t (by
                                show Steps p.tables e below (T365.setTop (mkF m 149 #[.val (.ref o0), .val (.int p1)] [(.int (14 : Int32)), (.int p1)])) _
                                refine XS.icmpYes X365.here hx rfl (pc0 := 149) (pc' := 158) rfl (hb hby d3_149) rfl (tlt hd149_371).1 (by decide) (by decide) ?_
                                show Steps p.tables e below (T365.setTop (mkF m 158 #[.val (.ref o0), .val (.int p1)] [])) _
                                refine XS.iloadN X365.here hx rfl (hb hby d3_158) rfl ?_
                                show Steps p.tables e below (T365.setTop (mkF m 159 #[.val (.ref o0), .val (.int p1)] [(.int p1)])) _
                                refine XS.bipush X365.here hx rfl (hb hby d3_159) ?_
                                exact kt)
                            have hd161_373 : p1 < (15 : Int32) := Int32.lt_of_lt_of_le hc137_369 (by decide)
                            have pre374 : ∀ t, Steps p.tables e below (T365.setTop (mkF m 173 #[.val (.ref o0), .val (.int p1)] [(.int (16 : Int32)), (.int p1)])) t → Steps p.tables e below (s₁.setTop (entryFrame m #[(.ref o0), (.int p1)] 2)) t := fun t kt => pre372 t (by
                                show Steps p.tables e below (T365.setTop (mkF m 161 #[.val (.ref o0), .val (.int p1)] [(.int (15 : Int32)), (.int p1)])) _
                                refine XS.icmpYes X365.here hx rfl (pc0 := 161) (pc' := 170) rfl (hb hby d3_161) rfl (tlt hd161_373).1 (by decide) (by decide) ?_
                                show Steps p.tables e below (T365.setTop (mkF m 170 #[.val (.ref o0), .val (.int p1)] [])) _
                                refine XS.iloadN X365.here hx rfl (hb hby d3_170) rfl ?_
                                show Steps p.tables e below (T365.setTop (mkF m 171 #[.val (.ref o0), .val (.int p1)] [(.int p1)])) _
                                refine XS.bipush X365.here hx rfl (hb hby d3_171) ?_
                                exact kt)
                            have hd173_375 : p1 < (16 : Int32) := Int32.lt_of_lt_of_le hc137_369 (by decide)
                            have pre376 : ∀ t, Steps p.tables e below (T365.setTop (mkF m 185 #[.val (.ref o0), .val (.int p1)] [(.int (17 : Int32)), (.int p1)])) t → Steps p.tables e below (s₁.setTop (entryFrame m #[(.ref o0), (.int p1)] 2)) t := fun t kt => pre374 t (by
                                show Steps p.tables e below (T365.setTop (mkF m 173 #[.val (.ref o0), .val (.int p1)] [(.int (16 : Int32)), (.int p1)])) _
                                refine XS.icmpYes X365.here hx rfl (pc0 := 173) (pc' := 182) rfl (hb hby d3_173) rfl (tlt hd173_375).1 (by decide) (by decide) ?_
                                show Steps p.tables e below (T365.setTop (mkF m 182 #[.val (.ref o0), .val (.int p1)] [])) _
                                refine XS.iloadN X365.here hx rfl (hb hby d3_182) rfl ?_
                                show Steps p.tables e below (T365.setTop (mkF m 183 #[.val (.ref o0), .val (.int p1)] [(.int p1)])) _
                                refine XS.bipush X365.here hx rfl (hb hby d3_183) ?_
                                exact kt)
                            have hd185_377 : p1 < (17 : Int32) := Int32.lt_of_lt_of_le hc137_369 (by decide)
                            have pre378 : ∀ t, Steps p.tables e below (T365.setTop (mkF m 197 #[.val (.ref o0), .val (.int p1)] [(.int (18 : Int32)), (.int p1)])) t → Steps p.tables e below (s₁.setTop (entryFrame m #[(.ref o0), (.int p1)] 2)) t := fun t kt => pre376 t (by
                                show Steps p.tables e below (T365.setTop (mkF m 185 #[.val (.ref o0), .val (.int p1)] [(.int (17 : Int32)), (.int p1)])) _
                                refine XS.icmpYes X365.here hx rfl (pc0 := 185) (pc' := 194) rfl (hb hby d3_185) rfl (tlt hd185_377).1 (by decide) (by decide) ?_
                                show Steps p.tables e below (T365.setTop (mkF m 194 #[.val (.ref o0), .val (.int p1)] [])) _
                                refine XS.iloadN X365.here hx rfl (hb hby d3_194) rfl ?_
                                show Steps p.tables e below (T365.setTop (mkF m 195 #[.val (.ref o0), .val (.int p1)] [(.int p1)])) _
                                refine XS.bipush X365.here hx rfl (hb hby d3_195) ?_
                                exact kt)
                            have hd197_379 : p1 < (18 : Int32) := Int32.lt_of_lt_of_le hc137_369 (by decide)
                            have pre380 : ∀ t, Steps p.tables e below (T365.setTop (mkF m 209 #[.val (.ref o0), .val (.int p1)] [(.int (19 : Int32)), (.int p1)])) t → Steps p.tables e below (s₁.setTop (entryFrame m #[(.ref o0), (.int p1)] 2)) t := fun t kt => pre378 t (by
                                show Steps p.tables e below (T365.setTop (mkF m 197 #[.val (.ref o0), .val (.int p1)] [(.int (18 : Int32)), (.int p1)])) _
                                refine XS.icmpYes X365.here hx rfl (pc0 := 197) (pc' := 206) rfl (hb hby d3_197) rfl (tlt hd197_379).1 (by decide) (by decide) ?_
                                show Steps p.tables e below (T365.setTop (mkF m 206 #[.val (.ref o0), .val (.int p1)] [])) _
                                refine XS.iloadN X365.here hx rfl (hb hby d3_206) rfl ?_
                                show Steps p.tables e below (T365.setTop (mkF m 207 #[.val (.ref o0), .val (.int p1)] [(.int p1)])) _
                                refine XS.bipush X365.here hx rfl (hb hby d3_207) ?_
                                exact kt)
                            have hd209_381 : p1 < (19 : Int32) := Int32.lt_of_lt_of_le hc137_369 (by decide)
                            obtain ⟨fs, hr, hrun, hended, hW, hsame⟩ := X365.leave (v := none) (fun _ => rfl)
                            refine ⟨_, _, pre380 _ ?_, hrun, hended, _, _, rfl, ?_, ⟨_, rfl⟩, hW, hsame.mono (by decide) (by decide)⟩
                            · show Steps p.tables e below (T365.setTop (mkF m 209 #[.val (.ref o0), .val (.int p1)] [(.int (19 : Int32)), (.int p1)])) _
                              refine XS.icmpYes X365.here hx rfl (pc0 := 209) (pc' := 218) rfl (hb hby d3_209) rfl (tlt hd209_381).1 (by decide) (by decide) ?_
                              show Steps p.tables e below (T365.setTop (mkF m 218 #[.val (.ref o0), .val (.int p1)] [])) _
                              exact X365.returnOut hx Bd.returns (hb hby d3_218) hr
                            · show Q3 Z o0 p1 r1 F1 h0 n0 _ T365.heap _
                              exact ⟨rfl, N365, K366, (by rw [f3_r1_a, if_neg hc2_2, if_neg hc12_43, if_neg hc22_82, if_neg hc32_120, if_neg hc42_155, if_neg hc53_189, if_neg hc65_221, if_neg hc77_251, if_neg hc89_278, if_neg hc101_304, if_neg hc113_327, if_neg hc125_350, if_pos hc137_369]; exact G365_0)⟩
                          · have c383 := ((c345.keep K344q (ninS ne_o0_r1 nin0)).keep K365q (ninS ne_o0_r1 nin0))
                            obtain ⟨cq382, kq382, q382a, q382b, q382c⟩ := isOf hZ rfl ((c346.keep K344q).keep K365q)
                            obtain ⟨_, _, ⟨T382, L382, k382, n382⟩, -, X382, ⟨Lc382, hQ382, l382, y382, z382⟩, st382⟩ := X365.virtualBack hx (y := (⟨"com/example/cardhost/cardhost/LogicalChannels", "open", "(I)V"⟩ : MethodName)) (z := (⟨"com/example/cardhost/cardhost/LogicalChannels", "open", "(I)V"⟩ : MethodName)) hown (mvT hZ (hw _ (List.mem_of_getElem? (i := 23) rfl))) (mvT hZ (hw _ (List.mem_of_getElem? (i := 24) rfl))) (notFace_of_selects (args := #[]) (mvT hZ (hw _ (List.mem_of_getElem? (i := 26) rfl)))) (mvT hZ (hw _ (List.mem_of_getElem? (i := 26) rfl))) (mvT hZ (hw _ (List.mem_of_getElem? (i := 25) rfl))) (by decide) (backOf (W := 0) (rm4 l Z a0 hw [] o0 (13 : Int32) r1 (own_upd (own_upd (own_upd (own_upd (own_upd (own_upd (own_upd (own_upd (own_upd (own_upd (own_upd (own_upd F1 ((1 : Int32)).toNatClampNeg (1 : Int32)) ((2 : Int32)).toNatClampNeg (1 : Int32)) ((3 : Int32)).toNatClampNeg (1 : Int32)) ((4 : Int32)).toNatClampNeg (1 : Int32)) ((5 : Int32)).toNatClampNeg (1 : Int32)) ((6 : Int32)).toNatClampNeg (1 : Int32)) ((7 : Int32)).toNatClampNeg (1 : Int32)) ((8 : Int32)).toNatClampNeg (1 : Int32)) ((9 : Int32)).toNatClampNeg (1 : Int32)) ((10 : Int32)).toNatClampNeg (1 : Int32)) ((11 : Int32)).toNatClampNeg (1 : Int32)) ((12 : Int32)).toNatClampNeg (1 : Int32)) T365.heap n0 Z367 c383 G365_0 g_r1 (by decide)) hZ (hw _ (List.mem_of_getElem? (i := 27) rfl)) (hw _ (List.mem_of_getElem? (i := 3) rfl)) (by decide) (by decide)) q382a q382c (g := (mkF m 143 #[.val (.ref o0), .val (.int p1)] [(.int (13 : Int32)), (.ref o0)])) rfl (by rw [hml]; rfl) (Steps.refl _) (argsL := [(.int (13 : Int32))]) (rest := []) (lenOf pd_3_0 rfl) rfl (by show 2 * 0 + _ ≤ _; exact Nat.le_of_eq rfl) (hb hby d3_143) (fun _ _ => ⟨rfl, rfl, (by decide : 0 + 0 ≤ _), (by decide : 0 + 0 ≤ _)⟩)
                            dsimp only [Pt.U, Pt.locs, Pt.cells, Pt.slots] at X382 l382 y382 z382 st382 hQ382
                            subst l382 y382 z382
                            obtain ⟨rfl, N382q, K382q, G382_0⟩ := hQ382
                            have N382 := Fr.app N365 N382q
                            have K384 : Keep h0 T382.heap [r1] := K366.trans K382q (allS (Or.inl (List.mem_of_getElem? (i := 0) rfl)) all0)
                            have Z385 : n0 ≤ T382.heap.size := Nat.le_trans Z0 K384.1
                            obtain ⟨LS382, X382, N382⟩ : ∃ L, Stand p l e ({ frames := 1, cells := 0, slots := 0, locals := 13 } : Room) s m #[(.ref o0), (.int p1)] below meth c T382 L 0 0 ∧ Fr n0 L := ⟨_, X382, N382⟩
                            have pre386 : ∀ t, Steps p.tables e below (T382.setTop (mkF m 149 #[.val (.ref o0), .val (.int p1)] [(.int (14 : Int32)), (.int p1)])) t → Steps p.tables e below (s₁.setTop (entryFrame m #[(.ref o0), (.int p1)] 2)) t := fun t kt => pre368 t (by
                                show Steps p.tables e below (T365.setTop (mkF m 137 #[.val (.ref o0), .val (.int p1)] [(.int (13 : Int32)), (.int p1)])) _
                                refine XS.icmpNo X365.here hx rfl (hb hby d3_137) rfl (flt hc137_369).1 ?_
                                show Steps p.tables e below (T365.setTop (mkF m 140 #[.val (.ref o0), .val (.int p1)] [])) _
                                refine XS.aloadN X365.here hx rfl (hb hby d3_140) rfl rfl ?_
                                show Steps p.tables e below (T365.setTop (mkF m 141 #[.val (.ref o0), .val (.int p1)] [(.ref o0)])) _
                                refine XS.bipush X365.here hx rfl (hb hby d3_141) ?_
                                show Steps p.tables e below (T365.setTop (mkF m 143 #[.val (.ref o0), .val (.int p1)] [(.int (13 : Int32)), (.ref o0)])) _
                                refine st382.trans ?_
                                show Steps p.tables e below (T382.setTop (mkF m 146 #[.val (.ref o0), .val (.int p1)] [])) _
                                refine XS.iloadN X382.here hx rfl (hb hby d3_146) rfl ?_
                                show Steps p.tables e below (T382.setTop (mkF m 147 #[.val (.ref o0), .val (.int p1)] [(.int p1)])) _
                                refine XS.bipush X382.here hx rfl (hb hby d3_147) ?_
                                exact kt)
                            by_cases hc149_387 : p1 < (14 : Int32)
                            · have pre388 : ∀ t, Steps p.tables e below (T382.setTop (mkF m 161 #[.val (.ref o0), .val (.int p1)] [(.int (15 : Int32)), (.int p1)])) t → Steps p.tables e below (s₁.setTop (entryFrame m #[(.ref o0), (.int p1)] 2)) t := fun t kt => pre386 t (by
                                  show Steps p.tables e below (T382.setTop (mkF m 149 #[.val (.ref o0), .val (.int p1)] [(.int (14 : Int32)), (.int p1)])) _
                                  refine XS.icmpYes X382.here hx rfl (pc0 := 149) (pc' := 158) rfl (hb hby d3_149) rfl (tlt hc149_387).1 (by decide) (by decide) ?_
                                  show Steps p.tables e below (T382.setTop (mkF m 158 #[.val (.ref o0), .val (.int p1)] [])) _
                                  refine XS.iloadN X382.here hx rfl (hb hby d3_158) rfl ?_
                                  show Steps p.tables e below (T382.setTop (mkF m 159 #[.val (.ref o0), .val (.int p1)] [(.int p1)])) _
                                  refine XS.bipush X382.here hx rfl (hb hby d3_159) ?_
                                  exact kt)
                              have hd161_389 : p1 < (15 : Int32) := Int32.lt_of_lt_of_le hc149_387 (by decide)
                              have pre390 : ∀ t, Steps p.tables e below (T382.setTop (mkF m 173 #[.val (.ref o0), .val (.int p1)] [(.int (16 : Int32)), (.int p1)])) t → Steps p.tables e below (s₁.setTop (entryFrame m #[(.ref o0), (.int p1)] 2)) t := fun t kt => pre388 t (by
                                  show Steps p.tables e below (T382.setTop (mkF m 161 #[.val (.ref o0), .val (.int p1)] [(.int (15 : Int32)), (.int p1)])) _
                                  refine XS.icmpYes X382.here hx rfl (pc0 := 161) (pc' := 170) rfl (hb hby d3_161) rfl (tlt hd161_389).1 (by decide) (by decide) ?_
                                  show Steps p.tables e below (T382.setTop (mkF m 170 #[.val (.ref o0), .val (.int p1)] [])) _
                                  refine XS.iloadN X382.here hx rfl (hb hby d3_170) rfl ?_
                                  show Steps p.tables e below (T382.setTop (mkF m 171 #[.val (.ref o0), .val (.int p1)] [(.int p1)])) _
                                  refine XS.bipush X382.here hx rfl (hb hby d3_171) ?_
                                  exact kt)
                              have hd173_391 : p1 < (16 : Int32) := Int32.lt_of_lt_of_le hc149_387 (by decide)
                              have pre392 : ∀ t, Steps p.tables e below (T382.setTop (mkF m 185 #[.val (.ref o0), .val (.int p1)] [(.int (17 : Int32)), (.int p1)])) t → Steps p.tables e below (s₁.setTop (entryFrame m #[(.ref o0), (.int p1)] 2)) t := fun t kt => pre390 t (by
                                  show Steps p.tables e below (T382.setTop (mkF m 173 #[.val (.ref o0), .val (.int p1)] [(.int (16 : Int32)), (.int p1)])) _
                                  refine XS.icmpYes X382.here hx rfl (pc0 := 173) (pc' := 182) rfl (hb hby d3_173) rfl (tlt hd173_391).1 (by decide) (by decide) ?_
                                  show Steps p.tables e below (T382.setTop (mkF m 182 #[.val (.ref o0), .val (.int p1)] [])) _
                                  refine XS.iloadN X382.here hx rfl (hb hby d3_182) rfl ?_
                                  show Steps p.tables e below (T382.setTop (mkF m 183 #[.val (.ref o0), .val (.int p1)] [(.int p1)])) _
                                  refine XS.bipush X382.here hx rfl (hb hby d3_183) ?_
                                  exact kt)
                              have hd185_393 : p1 < (17 : Int32) := Int32.lt_of_lt_of_le hc149_387 (by decide)
                              have pre394 : ∀ t, Steps p.tables e below (T382.setTop (mkF m 197 #[.val (.ref o0), .val (.int p1)] [(.int (18 : Int32)), (.int p1)])) t → Steps p.tables e below (s₁.setTop (entryFrame m #[(.ref o0), (.int p1)] 2)) t := fun t kt => pre392 t (by
                                  show Steps p.tables e below (T382.setTop (mkF m 185 #[.val (.ref o0), .val (.int p1)] [(.int (17 : Int32)), (.int p1)])) _
                                  refine XS.icmpYes X382.here hx rfl (pc0 := 185) (pc' := 194) rfl (hb hby d3_185) rfl (tlt hd185_393).1 (by decide) (by decide) ?_
                                  show Steps p.tables e below (T382.setTop (mkF m 194 #[.val (.ref o0), .val (.int p1)] [])) _
                                  refine XS.iloadN X382.here hx rfl (hb hby d3_194) rfl ?_
                                  show Steps p.tables e below (T382.setTop (mkF m 195 #[.val (.ref o0), .val (.int p1)] [(.int p1)])) _
                                  refine XS.bipush X382.here hx rfl (hb hby d3_195) ?_
                                  exact kt)
                              have hd197_395 : p1 < (18 : Int32) := Int32.lt_of_lt_of_le hc149_387 (by decide)
                              have pre396 : ∀ t, Steps p.tables e below (T382.setTop (mkF m 209 #[.val (.ref o0), .val (.int p1)] [(.int (19 : Int32)), (.int p1)])) t → Steps p.tables e below (s₁.setTop (entryFrame m #[(.ref o0), (.int p1)] 2)) t := fun t kt => pre394 t (by
                                  show Steps p.tables e below (T382.setTop (mkF m 197 #[.val (.ref o0), .val (.int p1)] [(.int (18 : Int32)), (.int p1)])) _
                                  refine XS.icmpYes X382.here hx rfl (pc0 := 197) (pc' := 206) rfl (hb hby d3_197) rfl (tlt hd197_395).1 (by decide) (by decide) ?_
                                  show Steps p.tables e below (T382.setTop (mkF m 206 #[.val (.ref o0), .val (.int p1)] [])) _
                                  refine XS.iloadN X382.here hx rfl (hb hby d3_206) rfl ?_
                                  show Steps p.tables e below (T382.setTop (mkF m 207 #[.val (.ref o0), .val (.int p1)] [(.int p1)])) _
                                  refine XS.bipush X382.here hx rfl (hb hby d3_207) ?_
                                  exact kt)
                              have hd209_397 : p1 < (19 : Int32) := Int32.lt_of_lt_of_le hc149_387 (by decide)
                              obtain ⟨fs, hr, hrun, hended, hW, hsame⟩ := X382.leave (v := none) (fun _ => rfl)
                              refine ⟨_, _, pre396 _ ?_, hrun, hended, _, _, rfl, ?_, ⟨_, rfl⟩, hW, hsame.mono (by decide) (by decide)⟩
                              · show Steps p.tables e below (T382.setTop (mkF m 209 #[.val (.ref o0), .val (.int p1)] [(.int (19 : Int32)), (.int p1)])) _
                                refine XS.icmpYes X382.here hx rfl (pc0 := 209) (pc' := 218) rfl (hb hby d3_209) rfl (tlt hd209_397).1 (by decide) (by decide) ?_
                                show Steps p.tables e below (T382.setTop (mkF m 218 #[.val (.ref o0), .val (.int p1)] [])) _
                                exact X382.returnOut hx Bd.returns (hb hby d3_218) hr
                              · show Q3 Z o0 p1 r1 F1 h0 n0 _ T382.heap _
                                exact ⟨rfl, N382, K384, (by rw [f3_r1_a, if_neg hc2_2, if_neg hc12_43, if_neg hc22_82, if_neg hc32_120, if_neg hc42_155, if_neg hc53_189, if_neg hc65_221, if_neg hc77_251, if_neg hc89_278, if_neg hc101_304, if_neg hc113_327, if_neg hc125_350, if_neg hc137_369, if_pos hc149_387]; exact G382_0)⟩
                            · obtain ⟨cq398, kq398, q398a, q398b, q398c⟩ := isOf hZ rfl (((c346.keep K344q).keep K365q).keep K382q)
                              obtain ⟨_, _, ⟨T398, L398, k398, n398⟩, -, X398, ⟨Lc398, hQ398, l398, y398, z398⟩, st398⟩ := X382.virtualBack hx (y := (⟨"com/example/cardhost/cardhost/LogicalChannels", "open", "(I)V"⟩ : MethodName)) (z := (⟨"com/example/cardhost/cardhost/LogicalChannels", "open", "(I)V"⟩ : MethodName)) hown (mvT hZ (hw _ (List.mem_of_getElem? (i := 23) rfl))) (mvT hZ (hw _ (List.mem_of_getElem? (i := 24) rfl))) (notFace_of_selects (args := #[]) (mvT hZ (hw _ (List.mem_of_getElem? (i := 26) rfl)))) (mvT hZ (hw _ (List.mem_of_getElem? (i := 26) rfl))) (mvT hZ (hw _ (List.mem_of_getElem? (i := 25) rfl))) (by decide) (backOf (W := 0) (rm4 l Z a0 hw [] o0 (14 : Int32) r1 (own_upd (own_upd (own_upd (own_upd (own_upd (own_upd (own_upd (own_upd (own_upd (own_upd (own_upd (own_upd (own_upd F1 ((1 : Int32)).toNatClampNeg (1 : Int32)) ((2 : Int32)).toNatClampNeg (1 : Int32)) ((3 : Int32)).toNatClampNeg (1 : Int32)) ((4 : Int32)).toNatClampNeg (1 : Int32)) ((5 : Int32)).toNatClampNeg (1 : Int32)) ((6 : Int32)).toNatClampNeg (1 : Int32)) ((7 : Int32)).toNatClampNeg (1 : Int32)) ((8 : Int32)).toNatClampNeg (1 : Int32)) ((9 : Int32)).toNatClampNeg (1 : Int32)) ((10 : Int32)).toNatClampNeg (1 : Int32)) ((11 : Int32)).toNatClampNeg (1 : Int32)) ((12 : Int32)).toNatClampNeg (1 : Int32)) ((13 : Int32)).toNatClampNeg (1 : Int32)) T382.heap n0 Z385 (c383.keep K382q (ninS ne_o0_r1 nin0)) G382_0 g_r1 (by decide)) hZ (hw _ (List.mem_of_getElem? (i := 27) rfl)) (hw _ (List.mem_of_getElem? (i := 3) rfl)) (by decide) (by decide)) q398a q398c (g := (mkF m 155 #[.val (.ref o0), .val (.int p1)] [(.int (14 : Int32)), (.ref o0)])) rfl (by rw [hml]; rfl) (Steps.refl _) (argsL := [(.int (14 : Int32))]) (rest := []) (lenOf pd_3_0 rfl) rfl (by show 2 * 0 + _ ≤ _; exact Nat.le_of_eq rfl) (hb hby d3_155) (fun _ _ => ⟨rfl, rfl, (by decide : 0 + 0 ≤ _), (by decide : 0 + 0 ≤ _)⟩)
                              dsimp only [Pt.U, Pt.locs, Pt.cells, Pt.slots] at X398 l398 y398 z398 st398 hQ398
                              subst l398 y398 z398
                              obtain ⟨rfl, N398q, K398q, G398_0⟩ := hQ398
                              have N398 := Fr.app N382 N398q
                              have K399 : Keep h0 T398.heap [r1] := K384.trans K398q (allS (Or.inl (List.mem_of_getElem? (i := 0) rfl)) all0)
                              have Z400 : n0 ≤ T398.heap.size := Nat.le_trans Z0 K399.1
                              obtain ⟨LS398, X398, N398⟩ : ∃ L, Stand p l e ({ frames := 1, cells := 0, slots := 0, locals := 13 } : Room) s m #[(.ref o0), (.int p1)] below meth c T398 L 0 0 ∧ Fr n0 L := ⟨_, X398, N398⟩
                              have pre401 : ∀ t, Steps p.tables e below (T398.setTop (mkF m 161 #[.val (.ref o0), .val (.int p1)] [(.int (15 : Int32)), (.int p1)])) t → Steps p.tables e below (s₁.setTop (entryFrame m #[(.ref o0), (.int p1)] 2)) t := fun t kt => pre386 t (by
                                  show Steps p.tables e below (T382.setTop (mkF m 149 #[.val (.ref o0), .val (.int p1)] [(.int (14 : Int32)), (.int p1)])) _
                                  refine XS.icmpNo X382.here hx rfl (hb hby d3_149) rfl (flt hc149_387).1 ?_
                                  show Steps p.tables e below (T382.setTop (mkF m 152 #[.val (.ref o0), .val (.int p1)] [])) _
                                  refine XS.aloadN X382.here hx rfl (hb hby d3_152) rfl rfl ?_
                                  show Steps p.tables e below (T382.setTop (mkF m 153 #[.val (.ref o0), .val (.int p1)] [(.ref o0)])) _
                                  refine XS.bipush X382.here hx rfl (hb hby d3_153) ?_
                                  show Steps p.tables e below (T382.setTop (mkF m 155 #[.val (.ref o0), .val (.int p1)] [(.int (14 : Int32)), (.ref o0)])) _
                                  refine st398.trans ?_
                                  show Steps p.tables e below (T398.setTop (mkF m 158 #[.val (.ref o0), .val (.int p1)] [])) _
                                  refine XS.iloadN X398.here hx rfl (hb hby d3_158) rfl ?_
                                  show Steps p.tables e below (T398.setTop (mkF m 159 #[.val (.ref o0), .val (.int p1)] [(.int p1)])) _
                                  refine XS.bipush X398.here hx rfl (hb hby d3_159) ?_
                                  exact kt)
                              by_cases hc161_402 : p1 < (15 : Int32)
                              · have pre403 : ∀ t, Steps p.tables e below (T398.setTop (mkF m 173 #[.val (.ref o0), .val (.int p1)] [(.int (16 : Int32)), (.int p1)])) t → Steps p.tables e below (s₁.setTop (entryFrame m #[(.ref o0), (.int p1)] 2)) t := fun t kt => pre401 t (by
                                    show Steps p.tables e below (T398.setTop (mkF m 161 #[.val (.ref o0), .val (.int p1)] [(.int (15 : Int32)), (.int p1)])) _
                                    refine XS.icmpYes X398.here hx rfl (pc0 := 161) (pc' := 170) rfl (hb hby d3_161) rfl (tlt hc161_402).1 (by decide) (by decide) ?_
                                    show Steps p.tables e below (T398.setTop (mkF m 170 #[.val (.ref o0), .val (.int p1)] [])) _
                                    refine XS.iloadN X398.here hx rfl (hb hby d3_170) rfl ?_
                                    show Steps p.tables e below (T398.setTop (mkF m 171 #[.val (.ref o0), .val (.int p1)] [(.int p1)])) _
                                    refine XS.bipush X398.here hx rfl (hb hby d3_171) ?_
                                    exact kt)
                                have hd173_404 : p1 < (16 : Int32) := Int32.lt_of_lt_of_le hc161_402 (by decide)
                                have pre405 : ∀ t, Steps p.tables e below (T398.setTop (mkF m 185 #[.val (.ref o0), .val (.int p1)] [(.int (17 : Int32)), (.int p1)])) t → Steps p.tables e below (s₁.setTop (entryFrame m #[(.ref o0), (.int p1)] 2)) t := fun t kt => pre403 t (by
                                    show Steps p.tables e below (T398.setTop (mkF m 173 #[.val (.ref o0), .val (.int p1)] [(.int (16 : Int32)), (.int p1)])) _
                                    refine XS.icmpYes X398.here hx rfl (pc0 := 173) (pc' := 182) rfl (hb hby d3_173) rfl (tlt hd173_404).1 (by decide) (by decide) ?_
                                    show Steps p.tables e below (T398.setTop (mkF m 182 #[.val (.ref o0), .val (.int p1)] [])) _
                                    refine XS.iloadN X398.here hx rfl (hb hby d3_182) rfl ?_
                                    show Steps p.tables e below (T398.setTop (mkF m 183 #[.val (.ref o0), .val (.int p1)] [(.int p1)])) _
                                    refine XS.bipush X398.here hx rfl (hb hby d3_183) ?_
                                    exact kt)
                                have hd185_406 : p1 < (17 : Int32) := Int32.lt_of_lt_of_le hc161_402 (by decide)
                                have pre407 : ∀ t, Steps p.tables e below (T398.setTop (mkF m 197 #[.val (.ref o0), .val (.int p1)] [(.int (18 : Int32)), (.int p1)])) t → Steps p.tables e below (s₁.setTop (entryFrame m #[(.ref o0), (.int p1)] 2)) t := fun t kt => pre405 t (by
                                    show Steps p.tables e below (T398.setTop (mkF m 185 #[.val (.ref o0), .val (.int p1)] [(.int (17 : Int32)), (.int p1)])) _
                                    refine XS.icmpYes X398.here hx rfl (pc0 := 185) (pc' := 194) rfl (hb hby d3_185) rfl (tlt hd185_406).1 (by decide) (by decide) ?_
                                    show Steps p.tables e below (T398.setTop (mkF m 194 #[.val (.ref o0), .val (.int p1)] [])) _
                                    refine XS.iloadN X398.here hx rfl (hb hby d3_194) rfl ?_
                                    show Steps p.tables e below (T398.setTop (mkF m 195 #[.val (.ref o0), .val (.int p1)] [(.int p1)])) _
                                    refine XS.bipush X398.here hx rfl (hb hby d3_195) ?_
                                    exact kt)
                                have hd197_408 : p1 < (18 : Int32) := Int32.lt_of_lt_of_le hc161_402 (by decide)
                                have pre409 : ∀ t, Steps p.tables e below (T398.setTop (mkF m 209 #[.val (.ref o0), .val (.int p1)] [(.int (19 : Int32)), (.int p1)])) t → Steps p.tables e below (s₁.setTop (entryFrame m #[(.ref o0), (.int p1)] 2)) t := fun t kt => pre407 t (by
                                    show Steps p.tables e below (T398.setTop (mkF m 197 #[.val (.ref o0), .val (.int p1)] [(.int (18 : Int32)), (.int p1)])) _
                                    refine XS.icmpYes X398.here hx rfl (pc0 := 197) (pc' := 206) rfl (hb hby d3_197) rfl (tlt hd197_408).1 (by decide) (by decide) ?_
                                    show Steps p.tables e below (T398.setTop (mkF m 206 #[.val (.ref o0), .val (.int p1)] [])) _
                                    refine XS.iloadN X398.here hx rfl (hb hby d3_206) rfl ?_
                                    show Steps p.tables e below (T398.setTop (mkF m 207 #[.val (.ref o0), .val (.int p1)] [(.int p1)])) _
                                    refine XS.bipush X398.here hx rfl (hb hby d3_207) ?_
                                    exact kt)
                                have hd209_410 : p1 < (19 : Int32) := Int32.lt_of_lt_of_le hc161_402 (by decide)
                                obtain ⟨fs, hr, hrun, hended, hW, hsame⟩ := X398.leave (v := none) (fun _ => rfl)
                                refine ⟨_, _, pre409 _ ?_, hrun, hended, _, _, rfl, ?_, ⟨_, rfl⟩, hW, hsame.mono (by decide) (by decide)⟩
                                · show Steps p.tables e below (T398.setTop (mkF m 209 #[.val (.ref o0), .val (.int p1)] [(.int (19 : Int32)), (.int p1)])) _
                                  refine XS.icmpYes X398.here hx rfl (pc0 := 209) (pc' := 218) rfl (hb hby d3_209) rfl (tlt hd209_410).1 (by decide) (by decide) ?_
                                  show Steps p.tables e below (T398.setTop (mkF m 218 #[.val (.ref o0), .val (.int p1)] [])) _
                                  exact X398.returnOut hx Bd.returns (hb hby d3_218) hr
                                · show Q3 Z o0 p1 r1 F1 h0 n0 _ T398.heap _
                                  exact ⟨rfl, N398, K399, (by rw [f3_r1_a, if_neg hc2_2, if_neg hc12_43, if_neg hc22_82, if_neg hc32_120, if_neg hc42_155, if_neg hc53_189, if_neg hc65_221, if_neg hc77_251, if_neg hc89_278, if_neg hc101_304, if_neg hc113_327, if_neg hc125_350, if_neg hc137_369, if_neg hc149_387, if_pos hc161_402]; exact G398_0)⟩
                              · have c412 := ((c383.keep K382q (ninS ne_o0_r1 nin0)).keep K398q (ninS ne_o0_r1 nin0))
                                obtain ⟨cq411, kq411, q411a, q411b, q411c⟩ := isOf hZ rfl ((((c346.keep K344q).keep K365q).keep K382q).keep K398q)
                                obtain ⟨_, _, ⟨T411, L411, k411, n411⟩, -, X411, ⟨Lc411, hQ411, l411, y411, z411⟩, st411⟩ := X398.virtualBack hx (y := (⟨"com/example/cardhost/cardhost/LogicalChannels", "open", "(I)V"⟩ : MethodName)) (z := (⟨"com/example/cardhost/cardhost/LogicalChannels", "open", "(I)V"⟩ : MethodName)) hown (mvT hZ (hw _ (List.mem_of_getElem? (i := 23) rfl))) (mvT hZ (hw _ (List.mem_of_getElem? (i := 24) rfl))) (notFace_of_selects (args := #[]) (mvT hZ (hw _ (List.mem_of_getElem? (i := 26) rfl)))) (mvT hZ (hw _ (List.mem_of_getElem? (i := 26) rfl))) (mvT hZ (hw _ (List.mem_of_getElem? (i := 25) rfl))) (by decide) (backOf (W := 0) (rm4 l Z a0 hw [] o0 (15 : Int32) r1 (own_upd (own_upd (own_upd (own_upd (own_upd (own_upd (own_upd (own_upd (own_upd (own_upd (own_upd (own_upd (own_upd (own_upd F1 ((1 : Int32)).toNatClampNeg (1 : Int32)) ((2 : Int32)).toNatClampNeg (1 : Int32)) ((3 : Int32)).toNatClampNeg (1 : Int32)) ((4 : Int32)).toNatClampNeg (1 : Int32)) ((5 : Int32)).toNatClampNeg (1 : Int32)) ((6 : Int32)).toNatClampNeg (1 : Int32)) ((7 : Int32)).toNatClampNeg (1 : Int32)) ((8 : Int32)).toNatClampNeg (1 : Int32)) ((9 : Int32)).toNatClampNeg (1 : Int32)) ((10 : Int32)).toNatClampNeg (1 : Int32)) ((11 : Int32)).toNatClampNeg (1 : Int32)) ((12 : Int32)).toNatClampNeg (1 : Int32)) ((13 : Int32)).toNatClampNeg (1 : Int32)) ((14 : Int32)).toNatClampNeg (1 : Int32)) T398.heap n0 Z400 c412 G398_0 g_r1 (by decide)) hZ (hw _ (List.mem_of_getElem? (i := 27) rfl)) (hw _ (List.mem_of_getElem? (i := 3) rfl)) (by decide) (by decide)) q411a q411c (g := (mkF m 167 #[.val (.ref o0), .val (.int p1)] [(.int (15 : Int32)), (.ref o0)])) rfl (by rw [hml]; rfl) (Steps.refl _) (argsL := [(.int (15 : Int32))]) (rest := []) (lenOf pd_3_0 rfl) rfl (by show 2 * 0 + _ ≤ _; exact Nat.le_of_eq rfl) (hb hby d3_167) (fun _ _ => ⟨rfl, rfl, (by decide : 0 + 0 ≤ _), (by decide : 0 + 0 ≤ _)⟩)
                                dsimp only [Pt.U, Pt.locs, Pt.cells, Pt.slots] at X411 l411 y411 z411 st411 hQ411
                                subst l411 y411 z411
                                obtain ⟨rfl, N411q, K411q, G411_0⟩ := hQ411
                                have N411 := Fr.app N398 N411q
                                have K413 : Keep h0 T411.heap [r1] := K399.trans K411q (allS (Or.inl (List.mem_of_getElem? (i := 0) rfl)) all0)
                                have Z414 : n0 ≤ T411.heap.size := Nat.le_trans Z0 K413.1
                                obtain ⟨LS411, X411, N411⟩ : ∃ L, Stand p l e ({ frames := 1, cells := 0, slots := 0, locals := 13 } : Room) s m #[(.ref o0), (.int p1)] below meth c T411 L 0 0 ∧ Fr n0 L := ⟨_, X411, N411⟩
                                have pre415 : ∀ t, Steps p.tables e below (T411.setTop (mkF m 173 #[.val (.ref o0), .val (.int p1)] [(.int (16 : Int32)), (.int p1)])) t → Steps p.tables e below (s₁.setTop (entryFrame m #[(.ref o0), (.int p1)] 2)) t := fun t kt => pre401 t (by
                                    show Steps p.tables e below (T398.setTop (mkF m 161 #[.val (.ref o0), .val (.int p1)] [(.int (15 : Int32)), (.int p1)])) _
                                    refine XS.icmpNo X398.here hx rfl (hb hby d3_161) rfl (flt hc161_402).1 ?_
                                    show Steps p.tables e below (T398.setTop (mkF m 164 #[.val (.ref o0), .val (.int p1)] [])) _
                                    refine XS.aloadN X398.here hx rfl (hb hby d3_164) rfl rfl ?_
                                    show Steps p.tables e below (T398.setTop (mkF m 165 #[.val (.ref o0), .val (.int p1)] [(.ref o0)])) _
                                    refine XS.bipush X398.here hx rfl (hb hby d3_165) ?_
                                    show Steps p.tables e below (T398.setTop (mkF m 167 #[.val (.ref o0), .val (.int p1)] [(.int (15 : Int32)), (.ref o0)])) _
                                    refine st411.trans ?_
                                    show Steps p.tables e below (T411.setTop (mkF m 170 #[.val (.ref o0), .val (.int p1)] [])) _
                                    refine XS.iloadN X411.here hx rfl (hb hby d3_170) rfl ?_
                                    show Steps p.tables e below (T411.setTop (mkF m 171 #[.val (.ref o0), .val (.int p1)] [(.int p1)])) _
                                    refine XS.bipush X411.here hx rfl (hb hby d3_171) ?_
                                    exact kt)
                                by_cases hc173_416 : p1 < (16 : Int32)
                                · have pre417 : ∀ t, Steps p.tables e below (T411.setTop (mkF m 185 #[.val (.ref o0), .val (.int p1)] [(.int (17 : Int32)), (.int p1)])) t → Steps p.tables e below (s₁.setTop (entryFrame m #[(.ref o0), (.int p1)] 2)) t := fun t kt => pre415 t (by
                                      show Steps p.tables e below (T411.setTop (mkF m 173 #[.val (.ref o0), .val (.int p1)] [(.int (16 : Int32)), (.int p1)])) _
                                      refine XS.icmpYes X411.here hx rfl (pc0 := 173) (pc' := 182) rfl (hb hby d3_173) rfl (tlt hc173_416).1 (by decide) (by decide) ?_
                                      show Steps p.tables e below (T411.setTop (mkF m 182 #[.val (.ref o0), .val (.int p1)] [])) _
                                      refine XS.iloadN X411.here hx rfl (hb hby d3_182) rfl ?_
                                      show Steps p.tables e below (T411.setTop (mkF m 183 #[.val (.ref o0), .val (.int p1)] [(.int p1)])) _
                                      refine XS.bipush X411.here hx rfl (hb hby d3_183) ?_
                                      exact kt)
                                  have hd185_418 : p1 < (17 : Int32) := Int32.lt_of_lt_of_le hc173_416 (by decide)
                                  have pre419 : ∀ t, Steps p.tables e below (T411.setTop (mkF m 197 #[.val (.ref o0), .val (.int p1)] [(.int (18 : Int32)), (.int p1)])) t → Steps p.tables e below (s₁.setTop (entryFrame m #[(.ref o0), (.int p1)] 2)) t := fun t kt => pre417 t (by
                                      show Steps p.tables e below (T411.setTop (mkF m 185 #[.val (.ref o0), .val (.int p1)] [(.int (17 : Int32)), (.int p1)])) _
                                      refine XS.icmpYes X411.here hx rfl (pc0 := 185) (pc' := 194) rfl (hb hby d3_185) rfl (tlt hd185_418).1 (by decide) (by decide) ?_
                                      show Steps p.tables e below (T411.setTop (mkF m 194 #[.val (.ref o0), .val (.int p1)] [])) _
                                      refine XS.iloadN X411.here hx rfl (hb hby d3_194) rfl ?_
                                      show Steps p.tables e below (T411.setTop (mkF m 195 #[.val (.ref o0), .val (.int p1)] [(.int p1)])) _
                                      refine XS.bipush X411.here hx rfl (hb hby d3_195) ?_
                                      exact kt)
                                  have hd197_420 : p1 < (18 : Int32) := Int32.lt_of_lt_of_le hc173_416 (by decide)
                                  have pre421 : ∀ t, Steps p.tables e below (T411.setTop (mkF m 209 #[.val (.ref o0), .val (.int p1)] [(.int (19 : Int32)), (.int p1)])) t → Steps p.tables e below (s₁.setTop (entryFrame m #[(.ref o0), (.int p1)] 2)) t := fun t kt => pre419 t (by
                                      show Steps p.tables e below (T411.setTop (mkF m 197 #[.val (.ref o0), .val (.int p1)] [(.int (18 : Int32)), (.int p1)])) _
                                      refine XS.icmpYes X411.here hx rfl (pc0 := 197) (pc' := 206) rfl (hb hby d3_197) rfl (tlt hd197_420).1 (by decide) (by decide) ?_
                                      show Steps p.tables e below (T411.setTop (mkF m 206 #[.val (.ref o0), .val (.int p1)] [])) _
                                      refine XS.iloadN X411.here hx rfl (hb hby d3_206) rfl ?_
                                      show Steps p.tables e below (T411.setTop (mkF m 207 #[.val (.ref o0), .val (.int p1)] [(.int p1)])) _
                                      refine XS.bipush X411.here hx rfl (hb hby d3_207) ?_
                                      exact kt)
                                  have hd209_422 : p1 < (19 : Int32) := Int32.lt_of_lt_of_le hc173_416 (by decide)
                                  obtain ⟨fs, hr, hrun, hended, hW, hsame⟩ := X411.leave (v := none) (fun _ => rfl)
                                  refine ⟨_, _, pre421 _ ?_, hrun, hended, _, _, rfl, ?_, ⟨_, rfl⟩, hW, hsame.mono (by decide) (by decide)⟩
                                  · show Steps p.tables e below (T411.setTop (mkF m 209 #[.val (.ref o0), .val (.int p1)] [(.int (19 : Int32)), (.int p1)])) _
                                    refine XS.icmpYes X411.here hx rfl (pc0 := 209) (pc' := 218) rfl (hb hby d3_209) rfl (tlt hd209_422).1 (by decide) (by decide) ?_
                                    show Steps p.tables e below (T411.setTop (mkF m 218 #[.val (.ref o0), .val (.int p1)] [])) _
                                    exact X411.returnOut hx Bd.returns (hb hby d3_218) hr
                                  · show Q3 Z o0 p1 r1 F1 h0 n0 _ T411.heap _
                                    exact ⟨rfl, N411, K413, (by rw [f3_r1_a, if_neg hc2_2, if_neg hc12_43, if_neg hc22_82, if_neg hc32_120, if_neg hc42_155, if_neg hc53_189, if_neg hc65_221, if_neg hc77_251, if_neg hc89_278, if_neg hc101_304, if_neg hc113_327, if_neg hc125_350, if_neg hc137_369, if_neg hc149_387, if_neg hc161_402, if_pos hc173_416]; exact G411_0)⟩
                                · have c424 := (((((c346.keep K344q).keep K365q).keep K382q).keep K398q).keep K411q)
                                  obtain ⟨cq423, kq423, q423a, q423b, q423c⟩ := isOf hZ rfl c424
                                  obtain ⟨_, _, ⟨T423, L423, k423, n423⟩, -, X423, ⟨Lc423, hQ423, l423, y423, z423⟩, st423⟩ := X411.virtualBack hx (y := (⟨"com/example/cardhost/cardhost/LogicalChannels", "open", "(I)V"⟩ : MethodName)) (z := (⟨"com/example/cardhost/cardhost/LogicalChannels", "open", "(I)V"⟩ : MethodName)) hown (mvT hZ (hw _ (List.mem_of_getElem? (i := 23) rfl))) (mvT hZ (hw _ (List.mem_of_getElem? (i := 24) rfl))) (notFace_of_selects (args := #[]) (mvT hZ (hw _ (List.mem_of_getElem? (i := 26) rfl)))) (mvT hZ (hw _ (List.mem_of_getElem? (i := 26) rfl))) (mvT hZ (hw _ (List.mem_of_getElem? (i := 25) rfl))) (by decide) (backOf (W := 0) (rm4 l Z a0 hw [] o0 (16 : Int32) r1 (own_upd (own_upd (own_upd (own_upd (own_upd (own_upd (own_upd (own_upd (own_upd (own_upd (own_upd (own_upd (own_upd (own_upd (own_upd F1 ((1 : Int32)).toNatClampNeg (1 : Int32)) ((2 : Int32)).toNatClampNeg (1 : Int32)) ((3 : Int32)).toNatClampNeg (1 : Int32)) ((4 : Int32)).toNatClampNeg (1 : Int32)) ((5 : Int32)).toNatClampNeg (1 : Int32)) ((6 : Int32)).toNatClampNeg (1 : Int32)) ((7 : Int32)).toNatClampNeg (1 : Int32)) ((8 : Int32)).toNatClampNeg (1 : Int32)) ((9 : Int32)).toNatClampNeg (1 : Int32)) ((10 : Int32)).toNatClampNeg (1 : Int32)) ((11 : Int32)).toNatClampNeg (1 : Int32)) ((12 : Int32)).toNatClampNeg (1 : Int32)) ((13 : Int32)).toNatClampNeg (1 : Int32)) ((14 : Int32)).toNatClampNeg (1 : Int32)) ((15 : Int32)).toNatClampNeg (1 : Int32)) T411.heap n0 Z414 (c412.keep K411q (ninS ne_o0_r1 nin0)) G411_0 g_r1 (by decide)) hZ (hw _ (List.mem_of_getElem? (i := 27) rfl)) (hw _ (List.mem_of_getElem? (i := 3) rfl)) (by decide) (by decide)) q423a q423c (g := (mkF m 179 #[.val (.ref o0), .val (.int p1)] [(.int (16 : Int32)), (.ref o0)])) rfl (by rw [hml]; rfl) (Steps.refl _) (argsL := [(.int (16 : Int32))]) (rest := []) (lenOf pd_3_0 rfl) rfl (by show 2 * 0 + _ ≤ _; exact Nat.le_of_eq rfl) (hb hby d3_179) (fun _ _ => ⟨rfl, rfl, (by decide : 0 + 0 ≤ _), (by decide : 0 + 0 ≤ _)⟩)
                                  dsimp only [Pt.U, Pt.locs, Pt.cells, Pt.slots] at X423 l423 y423 z423 st423 hQ423
                                  subst l423 y423 z423
                                  obtain ⟨rfl, N423q, K423q, G423_0⟩ := hQ423
                                  have N423 := Fr.app N411 N423q
                                  have K425 : Keep h0 T423.heap [r1] := K413.trans K423q (allS (Or.inl (List.mem_of_getElem? (i := 0) rfl)) all0)
                                  have Z426 : n0 ≤ T423.heap.size := Nat.le_trans Z0 K425.1
                                  obtain ⟨LS423, X423, N423⟩ : ∃ L, Stand p l e ({ frames := 1, cells := 0, slots := 0, locals := 13 } : Room) s m #[(.ref o0), (.int p1)] below meth c T423 L 0 0 ∧ Fr n0 L := ⟨_, X423, N423⟩
                                  have pre427 : ∀ t, Steps p.tables e below (T423.setTop (mkF m 185 #[.val (.ref o0), .val (.int p1)] [(.int (17 : Int32)), (.int p1)])) t → Steps p.tables e below (s₁.setTop (entryFrame m #[(.ref o0), (.int p1)] 2)) t := fun t kt => pre415 t (by
                                      show Steps p.tables e below (T411.setTop (mkF m 173 #[.val (.ref o0), .val (.int p1)] [(.int (16 : Int32)), (.int p1)])) _
                                      refine XS.icmpNo X411.here hx rfl (hb hby d3_173) rfl (flt hc173_416).1 ?_
                                      show Steps p.tables e below (T411.setTop (mkF m 176 #[.val (.ref o0), .val (.int p1)] [])) _
                                      refine XS.aloadN X411.here hx rfl (hb hby d3_176) rfl rfl ?_
                                      show Steps p.tables e below (T411.setTop (mkF m 177 #[.val (.ref o0), .val (.int p1)] [(.ref o0)])) _
                                      refine XS.bipush X411.here hx rfl (hb hby d3_177) ?_
                                      show Steps p.tables e below (T411.setTop (mkF m 179 #[.val (.ref o0), .val (.int p1)] [(.int (16 : Int32)), (.ref o0)])) _
                                      refine st423.trans ?_
                                      show Steps p.tables e below (T423.setTop (mkF m 182 #[.val (.ref o0), .val (.int p1)] [])) _
                                      refine XS.iloadN X423.here hx rfl (hb hby d3_182) rfl ?_
                                      show Steps p.tables e below (T423.setTop (mkF m 183 #[.val (.ref o0), .val (.int p1)] [(.int p1)])) _
                                      refine XS.bipush X423.here hx rfl (hb hby d3_183) ?_
                                      exact kt)
                                  by_cases hc185_428 : p1 < (17 : Int32)
                                  · have pre429 : ∀ t, Steps p.tables e below (T423.setTop (mkF m 197 #[.val (.ref o0), .val (.int p1)] [(.int (18 : Int32)), (.int p1)])) t → Steps p.tables e below (s₁.setTop (entryFrame m #[(.ref o0), (.int p1)] 2)) t := fun t kt => pre427 t (by
                                        show Steps p.tables e below (T423.setTop (mkF m 185 #[.val (.ref o0), .val (.int p1)] [(.int (17 : Int32)), (.int p1)])) _
                                        refine XS.icmpYes X423.here hx rfl (pc0 := 185) (pc' := 194) rfl (hb hby d3_185) rfl (tlt hc185_428).1 (by decide) (by decide) ?_
                                        show Steps p.tables e below (T423.setTop (mkF m 194 #[.val (.ref o0), .val (.int p1)] [])) _
                                        refine XS.iloadN X423.here hx rfl (hb hby d3_194) rfl ?_
                                        show Steps p.tables e below (T423.setTop (mkF m 195 #[.val (.ref o0), .val (.int p1)] [(.int p1)])) _
                                        refine XS.bipush X423.here hx rfl (hb hby d3_195) ?_
                                        exact kt)
                                    have hd197_430 : p1 < (18 : Int32) := Int32.lt_of_lt_of_le hc185_428 (by decide)
                                    have pre431 : ∀ t, Steps p.tables e below (T423.setTop (mkF m 209 #[.val (.ref o0), .val (.int p1)] [(.int (19 : Int32)), (.int p1)])) t → Steps p.tables e below (s₁.setTop (entryFrame m #[(.ref o0), (.int p1)] 2)) t := fun t kt => pre429 t (by
                                        show Steps p.tables e below (T423.setTop (mkF m 197 #[.val (.ref o0), .val (.int p1)] [(.int (18 : Int32)), (.int p1)])) _
                                        refine XS.icmpYes X423.here hx rfl (pc0 := 197) (pc' := 206) rfl (hb hby d3_197) rfl (tlt hd197_430).1 (by decide) (by decide) ?_
                                        show Steps p.tables e below (T423.setTop (mkF m 206 #[.val (.ref o0), .val (.int p1)] [])) _
                                        refine XS.iloadN X423.here hx rfl (hb hby d3_206) rfl ?_
                                        show Steps p.tables e below (T423.setTop (mkF m 207 #[.val (.ref o0), .val (.int p1)] [(.int p1)])) _
                                        refine XS.bipush X423.here hx rfl (hb hby d3_207) ?_
                                        exact kt)
                                    have hd209_432 : p1 < (19 : Int32) := Int32.lt_of_lt_of_le hc185_428 (by decide)
                                    obtain ⟨fs, hr, hrun, hended, hW, hsame⟩ := X423.leave (v := none) (fun _ => rfl)
                                    refine ⟨_, _, pre431 _ ?_, hrun, hended, _, _, rfl, ?_, ⟨_, rfl⟩, hW, hsame.mono (by decide) (by decide)⟩
                                    · show Steps p.tables e below (T423.setTop (mkF m 209 #[.val (.ref o0), .val (.int p1)] [(.int (19 : Int32)), (.int p1)])) _
                                      refine XS.icmpYes X423.here hx rfl (pc0 := 209) (pc' := 218) rfl (hb hby d3_209) rfl (tlt hd209_432).1 (by decide) (by decide) ?_
                                      show Steps p.tables e below (T423.setTop (mkF m 218 #[.val (.ref o0), .val (.int p1)] [])) _
                                      exact X423.returnOut hx Bd.returns (hb hby d3_218) hr
                                    · show Q3 Z o0 p1 r1 F1 h0 n0 _ T423.heap _
                                      exact ⟨rfl, N423, K425, (by rw [f3_r1_a, if_neg hc2_2, if_neg hc12_43, if_neg hc22_82, if_neg hc32_120, if_neg hc42_155, if_neg hc53_189, if_neg hc65_221, if_neg hc77_251, if_neg hc89_278, if_neg hc101_304, if_neg hc113_327, if_neg hc125_350, if_neg hc137_369, if_neg hc149_387, if_neg hc161_402, if_neg hc173_416, if_pos hc185_428]; exact G423_0)⟩
                                  · have c434 := ((c412.keep K411q (ninS ne_o0_r1 nin0)).keep K423q (ninS ne_o0_r1 nin0))
                                    obtain ⟨cq433, kq433, q433a, q433b, q433c⟩ := isOf hZ rfl (c424.keep K423q)
                                    obtain ⟨_, _, ⟨T433, L433, k433, n433⟩, -, X433, ⟨Lc433, hQ433, l433, y433, z433⟩, st433⟩ := X423.virtualBack hx (y := (⟨"com/example/cardhost/cardhost/LogicalChannels", "open", "(I)V"⟩ : MethodName)) (z := (⟨"com/example/cardhost/cardhost/LogicalChannels", "open", "(I)V"⟩ : MethodName)) hown (mvT hZ (hw _ (List.mem_of_getElem? (i := 23) rfl))) (mvT hZ (hw _ (List.mem_of_getElem? (i := 24) rfl))) (notFace_of_selects (args := #[]) (mvT hZ (hw _ (List.mem_of_getElem? (i := 26) rfl)))) (mvT hZ (hw _ (List.mem_of_getElem? (i := 26) rfl))) (mvT hZ (hw _ (List.mem_of_getElem? (i := 25) rfl))) (by decide) (backOf (W := 0) (rm4 l Z a0 hw [] o0 (17 : Int32) r1 (own_upd (own_upd (own_upd (own_upd (own_upd (own_upd (own_upd (own_upd (own_upd (own_upd (own_upd (own_upd (own_upd (own_upd (own_upd (own_upd F1 ((1 : Int32)).toNatClampNeg (1 : Int32)) ((2 : Int32)).toNatClampNeg (1 : Int32)) ((3 : Int32)).toNatClampNeg (1 : Int32)) ((4 : Int32)).toNatClampNeg (1 : Int32)) ((5 : Int32)).toNatClampNeg (1 : Int32)) ((6 : Int32)).toNatClampNeg (1 : Int32)) ((7 : Int32)).toNatClampNeg (1 : Int32)) ((8 : Int32)).toNatClampNeg (1 : Int32)) ((9 : Int32)).toNatClampNeg (1 : Int32)) ((10 : Int32)).toNatClampNeg (1 : Int32)) ((11 : Int32)).toNatClampNeg (1 : Int32)) ((12 : Int32)).toNatClampNeg (1 : Int32)) ((13 : Int32)).toNatClampNeg (1 : Int32)) ((14 : Int32)).toNatClampNeg (1 : Int32)) ((15 : Int32)).toNatClampNeg (1 : Int32)) ((16 : Int32)).toNatClampNeg (1 : Int32)) T423.heap n0 Z426 c434 G423_0 g_r1 (by decide)) hZ (hw _ (List.mem_of_getElem? (i := 27) rfl)) (hw _ (List.mem_of_getElem? (i := 3) rfl)) (by decide) (by decide)) q433a q433c (g := (mkF m 191 #[.val (.ref o0), .val (.int p1)] [(.int (17 : Int32)), (.ref o0)])) rfl (by rw [hml]; rfl) (Steps.refl _) (argsL := [(.int (17 : Int32))]) (rest := []) (lenOf pd_3_0 rfl) rfl (by show 2 * 0 + _ ≤ _; exact Nat.le_of_eq rfl) (hb hby d3_191) (fun _ _ => ⟨rfl, rfl, (by decide : 0 + 0 ≤ _), (by decide : 0 + 0 ≤ _)⟩)
                                    dsimp only [Pt.U, Pt.locs, Pt.cells, Pt.slots] at X433 l433 y433 z433 st433 hQ433
                                    subst l433 y433 z433
                                    obtain ⟨rfl, N433q, K433q, G433_0⟩ := hQ433
                                    have N433 := Fr.app N423 N433q
                                    have K435 : Keep h0 T433.heap [r1] := K425.trans K433q (allS (Or.inl (List.mem_of_getElem? (i := 0) rfl)) all0)
                                    have Z436 : n0 ≤ T433.heap.size := Nat.le_trans Z0 K435.1
                                    obtain ⟨LS433, X433, N433⟩ : ∃ L, Stand p l e ({ frames := 1, cells := 0, slots := 0, locals := 13 } : Room) s m #[(.ref o0), (.int p1)] below meth c T433 L 0 0 ∧ Fr n0 L := ⟨_, X433, N433⟩
                                    have pre437 : ∀ t, Steps p.tables e below (T433.setTop (mkF m 197 #[.val (.ref o0), .val (.int p1)] [(.int (18 : Int32)), (.int p1)])) t → Steps p.tables e below (s₁.setTop (entryFrame m #[(.ref o0), (.int p1)] 2)) t := fun t kt => pre427 t (by
                                        show Steps p.tables e below (T423.setTop (mkF m 185 #[.val (.ref o0), .val (.int p1)] [(.int (17 : Int32)), (.int p1)])) _
                                        refine XS.icmpNo X423.here hx rfl (hb hby d3_185) rfl (flt hc185_428).1 ?_
                                        show Steps p.tables e below (T423.setTop (mkF m 188 #[.val (.ref o0), .val (.int p1)] [])) _
                                        refine XS.aloadN X423.here hx rfl (hb hby d3_188) rfl rfl ?_
                                        show Steps p.tables e below (T423.setTop (mkF m 189 #[.val (.ref o0), .val (.int p1)] [(.ref o0)])) _
                                        refine XS.bipush X423.here hx rfl (hb hby d3_189) ?_
                                        show Steps p.tables e below (T423.setTop (mkF m 191 #[.val (.ref o0), .val (.int p1)] [(.int (17 : Int32)), (.ref o0)])) _
                                        refine st433.trans ?_
                                        show Steps p.tables e below (T433.setTop (mkF m 194 #[.val (.ref o0), .val (.int p1)] [])) _
                                        refine XS.iloadN X433.here hx rfl (hb hby d3_194) rfl ?_
                                        show Steps p.tables e below (T433.setTop (mkF m 195 #[.val (.ref o0), .val (.int p1)] [(.int p1)])) _
                                        refine XS.bipush X433.here hx rfl (hb hby d3_195) ?_
                                        exact kt)
                                    by_cases hc197_438 : p1 < (18 : Int32)
                                    · have pre439 : ∀ t, Steps p.tables e below (T433.setTop (mkF m 209 #[.val (.ref o0), .val (.int p1)] [(.int (19 : Int32)), (.int p1)])) t → Steps p.tables e below (s₁.setTop (entryFrame m #[(.ref o0), (.int p1)] 2)) t := fun t kt => pre437 t (by
                                          show Steps p.tables e below (T433.setTop (mkF m 197 #[.val (.ref o0), .val (.int p1)] [(.int (18 : Int32)), (.int p1)])) _
                                          refine XS.icmpYes X433.here hx rfl (pc0 := 197) (pc' := 206) rfl (hb hby d3_197) rfl (tlt hc197_438).1 (by decide) (by decide) ?_
                                          show Steps p.tables e below (T433.setTop (mkF m 206 #[.val (.ref o0), .val (.int p1)] [])) _
                                          refine XS.iloadN X433.here hx rfl (hb hby d3_206) rfl ?_
                                          show Steps p.tables e below (T433.setTop (mkF m 207 #[.val (.ref o0), .val (.int p1)] [(.int p1)])) _
                                          refine XS.bipush X433.here hx rfl (hb hby d3_207) ?_
                                          exact kt)
                                      have hd209_440 : p1 < (19 : Int32) := Int32.lt_of_lt_of_le hc197_438 (by decide)
                                      obtain ⟨fs, hr, hrun, hended, hW, hsame⟩ := X433.leave (v := none) (fun _ => rfl)
                                      refine ⟨_, _, pre439 _ ?_, hrun, hended, _, _, rfl, ?_, ⟨_, rfl⟩, hW, hsame.mono (by decide) (by decide)⟩
                                      · show Steps p.tables e below (T433.setTop (mkF m 209 #[.val (.ref o0), .val (.int p1)] [(.int (19 : Int32)), (.int p1)])) _
                                        refine XS.icmpYes X433.here hx rfl (pc0 := 209) (pc' := 218) rfl (hb hby d3_209) rfl (tlt hd209_440).1 (by decide) (by decide) ?_
                                        show Steps p.tables e below (T433.setTop (mkF m 218 #[.val (.ref o0), .val (.int p1)] [])) _
                                        exact X433.returnOut hx Bd.returns (hb hby d3_218) hr
                                      · show Q3 Z o0 p1 r1 F1 h0 n0 _ T433.heap _
                                        exact ⟨rfl, N433, K435, (by rw [f3_r1_a, if_neg hc2_2, if_neg hc12_43, if_neg hc22_82, if_neg hc32_120, if_neg hc42_155, if_neg hc53_189, if_neg hc65_221, if_neg hc77_251, if_neg hc89_278, if_neg hc101_304, if_neg hc113_327, if_neg hc125_350, if_neg hc137_369, if_neg hc149_387, if_neg hc161_402, if_neg hc173_416, if_neg hc185_428, if_pos hc197_438]; exact G433_0)⟩
                                    · obtain ⟨cq441, kq441, q441a, q441b, q441c⟩ := isOf hZ rfl ((c424.keep K423q).keep K433q)
                                      obtain ⟨_, _, ⟨T441, L441, k441, n441⟩, -, X441, ⟨Lc441, hQ441, l441, y441, z441⟩, st441⟩ := X433.virtualBack hx (y := (⟨"com/example/cardhost/cardhost/LogicalChannels", "open", "(I)V"⟩ : MethodName)) (z := (⟨"com/example/cardhost/cardhost/LogicalChannels", "open", "(I)V"⟩ : MethodName)) hown (mvT hZ (hw _ (List.mem_of_getElem? (i := 23) rfl))) (mvT hZ (hw _ (List.mem_of_getElem? (i := 24) rfl))) (notFace_of_selects (args := #[]) (mvT hZ (hw _ (List.mem_of_getElem? (i := 26) rfl)))) (mvT hZ (hw _ (List.mem_of_getElem? (i := 26) rfl))) (mvT hZ (hw _ (List.mem_of_getElem? (i := 25) rfl))) (by decide) (backOf (W := 0) (rm4 l Z a0 hw [] o0 (18 : Int32) r1 (own_upd (own_upd (own_upd (own_upd (own_upd (own_upd (own_upd (own_upd (own_upd (own_upd (own_upd (own_upd (own_upd (own_upd (own_upd (own_upd (own_upd F1 ((1 : Int32)).toNatClampNeg (1 : Int32)) ((2 : Int32)).toNatClampNeg (1 : Int32)) ((3 : Int32)).toNatClampNeg (1 : Int32)) ((4 : Int32)).toNatClampNeg (1 : Int32)) ((5 : Int32)).toNatClampNeg (1 : Int32)) ((6 : Int32)).toNatClampNeg (1 : Int32)) ((7 : Int32)).toNatClampNeg (1 : Int32)) ((8 : Int32)).toNatClampNeg (1 : Int32)) ((9 : Int32)).toNatClampNeg (1 : Int32)) ((10 : Int32)).toNatClampNeg (1 : Int32)) ((11 : Int32)).toNatClampNeg (1 : Int32)) ((12 : Int32)).toNatClampNeg (1 : Int32)) ((13 : Int32)).toNatClampNeg (1 : Int32)) ((14 : Int32)).toNatClampNeg (1 : Int32)) ((15 : Int32)).toNatClampNeg (1 : Int32)) ((16 : Int32)).toNatClampNeg (1 : Int32)) ((17 : Int32)).toNatClampNeg (1 : Int32)) T433.heap n0 Z436 (c434.keep K433q (ninS ne_o0_r1 nin0)) G433_0 g_r1 (by decide)) hZ (hw _ (List.mem_of_getElem? (i := 27) rfl)) (hw _ (List.mem_of_getElem? (i := 3) rfl)) (by decide) (by decide)) q441a q441c (g := (mkF m 203 #[.val (.ref o0), .val (.int p1)] [(.int (18 : Int32)), (.ref o0)])) rfl (by rw [hml]; rfl) (Steps.refl _) (argsL := [(.int (18 : Int32))]) (rest := []) (lenOf pd_3_0 rfl) rfl (by show 2 * 0 + _ ≤ _; exact Nat.le_of_eq rfl) (hb hby d3_203) (fun _ _ => ⟨rfl, rfl, (by decide : 0 + 0 ≤ _), (by decide : 0 + 0 ≤ _)⟩)
                                      dsimp only [Pt.U, Pt.locs, Pt.cells, Pt.slots] at X441 l441 y441 z441 st441 hQ441
                                      subst l441 y441 z441
                                      obtain ⟨rfl, N441q, K441q, G441_0⟩ := hQ441
                                      have N441 := Fr.app N433 N441q
                                      have K442 : Keep h0 T441.heap [r1] := K435.trans K441q (allS (Or.inl (List.mem_of_getElem? (i := 0) rfl)) all0)
                                      have Z443 : n0 ≤ T441.heap.size := Nat.le_trans Z0 K442.1
                                      obtain ⟨LS441, X441, N441⟩ : ∃ L, Stand p l e ({ frames := 1, cells := 0, slots := 0, locals := 13 } : Room) s m #[(.ref o0), (.int p1)] below meth c T441 L 0 0 ∧ Fr n0 L := ⟨_, X441, N441⟩
                                      have pre444 : ∀ t, Steps p.tables e below (T441.setTop (mkF m 209 #[.val (.ref o0), .val (.int p1)] [(.int (19 : Int32)), (.int p1)])) t → Steps p.tables e below (s₁.setTop (entryFrame m #[(.ref o0), (.int p1)] 2)) t := fun t kt => pre437 t (by
                                          show Steps p.tables e below (T433.setTop (mkF m 197 #[.val (.ref o0), .val (.int p1)] [(.int (18 : Int32)), (.int p1)])) _
                                          refine XS.icmpNo X433.here hx rfl (hb hby d3_197) rfl (flt hc197_438).1 ?_
                                          show Steps p.tables e below (T433.setTop (mkF m 200 #[.val (.ref o0), .val (.int p1)] [])) _
                                          refine XS.aloadN X433.here hx rfl (hb hby d3_200) rfl rfl ?_
                                          show Steps p.tables e below (T433.setTop (mkF m 201 #[.val (.ref o0), .val (.int p1)] [(.ref o0)])) _
                                          refine XS.bipush X433.here hx rfl (hb hby d3_201) ?_
                                          show Steps p.tables e below (T433.setTop (mkF m 203 #[.val (.ref o0), .val (.int p1)] [(.int (18 : Int32)), (.ref o0)])) _
                                          refine st441.trans ?_
                                          show Steps p.tables e below (T441.setTop (mkF m 206 #[.val (.ref o0), .val (.int p1)] [])) _
                                          refine XS.iloadN X441.here hx rfl (hb hby d3_206) rfl ?_
                                          show Steps p.tables e below (T441.setTop (mkF m 207 #[.val (.ref o0), .val (.int p1)] [(.int p1)])) _
                                          refine XS.bipush X441.here hx rfl (hb hby d3_207) ?_
                                          exact kt)
                                      by_cases hc209_445 : p1 < (19 : Int32)
                                      · obtain ⟨fs, hr, hrun, hended, hW, hsame⟩ := X441.leave (v := none) (fun _ => rfl)
                                        refine ⟨_, _, pre444 _ ?_, hrun, hended, _, _, rfl, ?_, ⟨_, rfl⟩, hW, hsame.mono (by decide) (by decide)⟩
                                        · show Steps p.tables e below (T441.setTop (mkF m 209 #[.val (.ref o0), .val (.int p1)] [(.int (19 : Int32)), (.int p1)])) _
                                          refine XS.icmpYes X441.here hx rfl (pc0 := 209) (pc' := 218) rfl (hb hby d3_209) rfl (tlt hc209_445).1 (by decide) (by decide) ?_
                                          show Steps p.tables e below (T441.setTop (mkF m 218 #[.val (.ref o0), .val (.int p1)] [])) _
                                          exact X441.returnOut hx Bd.returns (hb hby d3_218) hr
                                        · show Q3 Z o0 p1 r1 F1 h0 n0 _ T441.heap _
                                          exact ⟨rfl, N441, K442, (by rw [f3_r1_a, if_neg hc2_2, if_neg hc12_43, if_neg hc22_82, if_neg hc32_120, if_neg hc42_155, if_neg hc53_189, if_neg hc65_221, if_neg hc77_251, if_neg hc89_278, if_neg hc101_304, if_neg hc113_327, if_neg hc125_350, if_neg hc137_369, if_neg hc149_387, if_neg hc161_402, if_neg hc173_416, if_neg hc185_428, if_neg hc197_438, if_pos hc209_445]; exact G441_0)⟩
                                      · have c447 := ((c434.keep K433q (ninS ne_o0_r1 nin0)).keep K441q (ninS ne_o0_r1 nin0))
                                        obtain ⟨cq446, kq446, q446a, q446b, q446c⟩ := isOf hZ rfl (((c424.keep K423q).keep K433q).keep K441q)
                                        obtain ⟨_, _, ⟨T446, L446, k446, n446⟩, -, X446, ⟨Lc446, hQ446, l446, y446, z446⟩, st446⟩ := X441.virtualBack hx (y := (⟨"com/example/cardhost/cardhost/LogicalChannels", "open", "(I)V"⟩ : MethodName)) (z := (⟨"com/example/cardhost/cardhost/LogicalChannels", "open", "(I)V"⟩ : MethodName)) hown (mvT hZ (hw _ (List.mem_of_getElem? (i := 23) rfl))) (mvT hZ (hw _ (List.mem_of_getElem? (i := 24) rfl))) (notFace_of_selects (args := #[]) (mvT hZ (hw _ (List.mem_of_getElem? (i := 26) rfl)))) (mvT hZ (hw _ (List.mem_of_getElem? (i := 26) rfl))) (mvT hZ (hw _ (List.mem_of_getElem? (i := 25) rfl))) (by decide) (backOf (W := 0) (rm4 l Z a0 hw [] o0 (19 : Int32) r1 (own_upd (own_upd (own_upd (own_upd (own_upd (own_upd (own_upd (own_upd (own_upd (own_upd (own_upd (own_upd (own_upd (own_upd (own_upd (own_upd (own_upd (own_upd F1 ((1 : Int32)).toNatClampNeg (1 : Int32)) ((2 : Int32)).toNatClampNeg (1 : Int32)) ((3 : Int32)).toNatClampNeg (1 : Int32)) ((4 : Int32)).toNatClampNeg (1 : Int32)) ((5 : Int32)).toNatClampNeg (1 : Int32)) ((6 : Int32)).toNatClampNeg (1 : Int32)) ((7 : Int32)).toNatClampNeg (1 : Int32)) ((8 : Int32)).toNatClampNeg (1 : Int32)) ((9 : Int32)).toNatClampNeg (1 : Int32)) ((10 : Int32)).toNatClampNeg (1 : Int32)) ((11 : Int32)).toNatClampNeg (1 : Int32)) ((12 : Int32)).toNatClampNeg (1 : Int32)) ((13 : Int32)).toNatClampNeg (1 : Int32)) ((14 : Int32)).toNatClampNeg (1 : Int32)) ((15 : Int32)).toNatClampNeg (1 : Int32)) ((16 : Int32)).toNatClampNeg (1 : Int32)) ((17 : Int32)).toNatClampNeg (1 : Int32)) ((18 : Int32)).toNatClampNeg (1 : Int32)) T441.heap n0 Z443 c447 G441_0 g_r1 (by decide)) hZ (hw _ (List.mem_of_getElem? (i := 27) rfl)) (hw _ (List.mem_of_getElem? (i := 3) rfl)) (by decide) (by decide)) q446a q446c (g := (mkF m 215 #[.val (.ref o0), .val (.int p1)] [(.int (19 : Int32)), (.ref o0)])) rfl (by rw [hml]; rfl) (Steps.refl _) (argsL := [(.int (19 : Int32))]) (rest := []) (lenOf pd_3_0 rfl) rfl (by show 2 * 0 + _ ≤ _; exact Nat.le_of_eq rfl) (hb hby d3_215) (fun _ _ => ⟨rfl, rfl, (by decide : 0 + 0 ≤ _), (by decide : 0 + 0 ≤ _)⟩)
                                        dsimp only [Pt.U, Pt.locs, Pt.cells, Pt.slots] at X446 l446 y446 z446 st446 hQ446
                                        subst l446 y446 z446
                                        obtain ⟨rfl, N446q, K446q, G446_0⟩ := hQ446
                                        have N446 := Fr.app N441 N446q
                                        have K448 : Keep h0 T446.heap [r1] := K442.trans K446q (allS (Or.inl (List.mem_of_getElem? (i := 0) rfl)) all0)
                                        have Z449 : n0 ≤ T446.heap.size := Nat.le_trans Z0 K448.1
                                        obtain ⟨LS446, X446, N446⟩ : ∃ L, Stand p l e ({ frames := 1, cells := 0, slots := 0, locals := 13 } : Room) s m #[(.ref o0), (.int p1)] below meth c T446 L 0 0 ∧ Fr n0 L := ⟨_, X446, N446⟩
                                        obtain ⟨fs, hr, hrun, hended, hW, hsame⟩ := X446.leave (v := none) (fun _ => rfl)
                                        refine ⟨_, _, pre444 _ ?_, hrun, hended, _, _, rfl, ?_, ⟨_, rfl⟩, hW, hsame.mono (by decide) (by decide)⟩
                                        · show Steps p.tables e below (T441.setTop (mkF m 209 #[.val (.ref o0), .val (.int p1)] [(.int (19 : Int32)), (.int p1)])) _
                                          refine XS.icmpNo X441.here hx rfl (hb hby d3_209) rfl (flt hc209_445).1 ?_
                                          show Steps p.tables e below (T441.setTop (mkF m 212 #[.val (.ref o0), .val (.int p1)] [])) _
                                          refine XS.aloadN X441.here hx rfl (hb hby d3_212) rfl rfl ?_
                                          show Steps p.tables e below (T441.setTop (mkF m 213 #[.val (.ref o0), .val (.int p1)] [(.ref o0)])) _
                                          refine XS.bipush X441.here hx rfl (hb hby d3_213) ?_
                                          show Steps p.tables e below (T441.setTop (mkF m 215 #[.val (.ref o0), .val (.int p1)] [(.int (19 : Int32)), (.ref o0)])) _
                                          refine st446.trans ?_
                                          show Steps p.tables e below (T446.setTop (mkF m 218 #[.val (.ref o0), .val (.int p1)] [])) _
                                          exact X446.returnOut hx Bd.returns (hb hby d3_218) hr
                                        · show Q3 Z o0 p1 r1 F1 h0 n0 _ T446.heap _
                                          exact ⟨rfl, N446, K448, (by rw [f3_r1_a, if_neg hc2_2, if_neg hc12_43, if_neg hc22_82, if_neg hc32_120, if_neg hc42_155, if_neg hc53_189, if_neg hc65_221, if_neg hc77_251, if_neg hc89_278, if_neg hc101_304, if_neg hc113_327, if_neg hc125_350, if_neg hc137_369, if_neg hc149_387, if_neg hc161_402, if_neg hc173_416, if_neg hc185_428, if_neg hc197_438, if_neg hc209_445]; exact G446_0)⟩
theorem d5_0 : decode prog_4_method_3_code 0 = .ok (.iconst 1, 1) := by decide +kernel
theorem d5_1 : decode prog_4_method_3_code 1 = .ok (.istore_n 1, 1) := by decide +kernel
theorem d5_2 : decode prog_4_method_3_code 2 = .ok (.iload_n 1, 1) := by decide +kernel
theorem d5_3 : decode prog_4_method_3_code 3 = .ok (.bipush 20, 2) := by decide +kernel
theorem d5_5 : decode prog_4_method_3_code 5 = .ok (.if_icmp .ge 18, 3) := by decide +kernel
theorem d5_8 : decode prog_4_method_3_code 8 = .ok (.aload_n 0, 1) := by decide +kernel
theorem d5_9 : decode prog_4_method_3_code 9 = .ok (.getfield 9, 3) := by decide +kernel
theorem d5_12 : decode prog_4_method_3_code 12 = .ok (.iload_n 1, 1) := by decide +kernel
theorem d5_13 : decode prog_4_method_3_code 13 = .ok (.baload, 1) := by decide +kernel
theorem d5_14 : decode prog_4_method_3_code 14 = .ok (.ifCond .eq 9, 3) := by decide +kernel
theorem d5_17 : decode prog_4_method_3_code 17 = .ok (.iinc 1 1, 3) := by decide +kernel
theorem d5_20 : decode prog_4_method_3_code 20 = .ok (.goto (-18), 3) := by decide +kernel
theorem d5_23 : decode prog_4_method_3_code 23 = .ok (.iload_n 1, 1) := by decide +kernel
theorem d5_24 : decode prog_4_method_3_code 24 = .ok (.ireturn, 1) := by decide +kernel
theorem pn_5 : plainName "com/example/cardhost/cardhost/LogicalChannels" = true := by first | (simp [plainName, overriddenIn]; done) | decide +kernel
theorem ef_5 (m : MethodId) (x0 : Addr) : entryFrame m #[(.ref x0)] 2 = mkF m 0 #[.val (.ref x0), .unset] [] := by first | (simp [entryFrame, mkF, argsToLocals, Value.category]; done) | rfl
def f5 (F1 : Nat → Int32) : Int32 :=
  if (F1 1) = (0 : Int32) then ((1 : Int32)) else
  (if (F1 2) = (0 : Int32) then ((2 : Int32)) else
  (if (F1 3) = (0 : Int32) then ((3 : Int32)) else
  (if (F1 4) = (0 : Int32) then ((4 : Int32)) else
  (if (F1 5) = (0 : Int32) then ((5 : Int32)) else
  (if (F1 6) = (0 : Int32) then ((6 : Int32)) else
  (if (F1 7) = (0 : Int32) then ((7 : Int32)) else
  (if (F1 8) = (0 : Int32) then ((8 : Int32)) else
  (if (F1 9) = (0 : Int32) then ((9 : Int32)) else
  (if (F1 10) = (0 : Int32) then ((10 : Int32)) else
  (if (F1 11) = (0 : Int32) then ((11 : Int32)) else
  (if (F1 12) = (0 : Int32) then ((12 : Int32)) else
  (if (F1 13) = (0 : Int32) then ((13 : Int32)) else
  (if (F1 14) = (0 : Int32) then ((14 : Int32)) else
  (if (F1 15) = (0 : Int32) then ((15 : Int32)) else
  (if (F1 16) = (0 : Int32) then ((16 : Int32)) else
  (if (F1 17) = (0 : Int32) then ((17 : Int32)) else
  (if (F1 18) = (0 : Int32) then ((18 : Int32)) else
  (if (F1 19) = (0 : Int32) then ((19 : Int32)) else
  ((20 : Int32))))))))))))))))))))
def Q5 (Z : State) (o0 : Addr) (r1 : Addr) (F1 : Nat → Int32) (h0 : Heap) (n0 : Nat) (v : Option Value) (h : Heap) (L : List Loc) : Prop := v = some (.int (f5 F1)) ∧ Fr n0 L ∧ h = h0
set_option maxRecDepth 65536 in
set_option maxHeartbeats 40000000 in
theorem rm5 (l : Launch) (Z : State) (a0 : Array Value) (hw : ∀ d ∈ tables_1, d.before a0 Z = true) (ws : List Jvm.Cond) (o0 : Addr) (r1 : Addr) (F1 : Nat → Int32) (h0 : Heap) (n0 : Nat) (Z0 : n0 ≤ h0.size) (F_open_o0 : Fld Z h0 o0 "com/example/cardhost/cardhost/LogicalChannels" "open" "[Z" (.ref r1)) (V_r1 : own_AI Z h0 r1 .boolean (20 : Int32) F1) (g_r1 : n0 ≤ r1) :
    MetFree l (⟨"com/example/cardhost/cardhost/LogicalChannels", "lowestClosed", "()I"⟩ : MethodName) (head1 (Jvm.Cond.code (⟨"com/example/cardhost/cardhost/LogicalChannels", "lowestClosed", "()I"⟩ : MethodName) prog_4_method_3_code 2 (some .int) :: ws) ({ frames := 0, cells := 0, slots := 0, locals := 0 } : Room)) (fun a U => a = #[(.ref o0)] ∧ Z.Warmed39 U.vm ∧ U.heap = h0) (fun _ _ _ _ _ => True) (fun _ U o U' => ∃ v L, o = .returned v ∧ Q5 Z o0 r1 F1 h0 n0 v U'.heap L ∧ FrameEnd U o U' L ({ frames := 0, cells := 0, slots := 0, locals := 0 } : Room).cells ({ frames := 0, cells := 0, slots := 0, locals := 0 } : Room).slots) := by
  refine MetFree.of_bodySF (plainFor_of_name pn_5) hisR ?_
  intro p e s m args below meth c s₁ Bd hml0 hP hK
  obtain ⟨rfl, hZ, hh⟩ := hP
  have hx := Bd.exec
  have hby := Bd.bytes
  have hml : c.maxLocals = 2 := hml0
  have hown : s.vm.findClass "com/example/cardhost/cardhost/LogicalChannels" = some m.cls := findClass_of_methodNamed Bd.named
  have hnm := (name_of_methodNamed Bd.named Bd.method).1
  have X0 : Stand p l e ({ frames := 0, cells := 0, slots := 0, locals := 0 } : Room) s m #[(.ref o0)] below meth c s₁ [] 0 0 := Stand.of_body Bd
  have e0 : s₁.heap = h0 := by rw [← hh, Bd.state]; rfl
  have N0 := Fr.nil n0
  have pre0 : ∀ t, Steps p.tables e below (s₁.setTop (mkF m 0 #[.val (.ref o0), .unset] [])) t → Steps p.tables e below (s₁.setTop (entryFrame m #[(.ref o0)] 2)) t := fun t k => castTop (ef_5 m o0) k
  have pre1 : ∀ t, Steps p.tables e below (s₁.setTop (mkF m 5 #[.val (.ref o0), .val (.int (1 : Int32))] [(.int (20 : Int32)), (.int (1 : Int32))])) t → Steps p.tables e below (s₁.setTop (entryFrame m #[(.ref o0)] 2)) t := fun t kt => pre0 t (by
      show Steps p.tables e below (s₁.setTop (mkF m 0 #[.val (.ref o0), .unset] [])) _
      refine XS.iconst X0.here hx rfl (hb hby d5_0) ?_
      show Steps p.tables e below (s₁.setTop (mkF m 1 #[.val (.ref o0), .unset] [(.int (1 : Int32))])) _
      refine XS.istoreN X0.here hx rfl (hb hby d5_1) rfl (l' := #[.val (.ref o0), .val (.int (1 : Int32))]) rfl ?_
      show Steps p.tables e below (s₁.setTop (mkF m 2 #[.val (.ref o0), .val (.int (1 : Int32))] [])) _
      refine XS.iloadN X0.here hx rfl (hb hby d5_2) rfl ?_
      show Steps p.tables e below (s₁.setTop (mkF m 3 #[.val (.ref o0), .val (.int (1 : Int32))] [(.int (1 : Int32))])) _
      refine XS.bipush X0.here hx rfl (hb hby d5_3) ?_
      exact kt)
  obtain ⟨T2, X2, e2, st2⟩ := getF X0 hx hZ hown (host := "") (Or.inl (hw _ (List.mem_of_getElem? (i := 11) rfl))) Via.refl e0 F_open_o0 (g := (mkF m 9 #[.val (.ref o0), .val (.int (1 : Int32))] [(.ref o0)])) rfl rfl (hb hby d5_9)
  obtain ⟨cl3, Ar3, Sz3, Nn3, Hs3⟩ := id V_r1
  have hin3 : ¬ ((1 : Int32) < 0 ∨ cl3.slots.size ≤ ((1 : Int32)).toNatClampNeg) := inb_of Sz3 ⟨by decide, by decide⟩
  have hat3 : cl3.slots[((1 : Int32)).toNatClampNeg]? = some (.int (F1 1)) := (Hs3 _ (own_lt hin3)).1
  have pre4 : ∀ t, Steps p.tables e below (T2.setTop (mkF m 14 #[.val (.ref o0), .val (.int (1 : Int32))] [(.int (F1 1))])) t → Steps p.tables e below (s₁.setTop (entryFrame m #[(.ref o0)] 2)) t := fun t kt => pre1 t (by
      show Steps p.tables e below (s₁.setTop (mkF m 5 #[.val (.ref o0), .val (.int (1 : Int32))] [(.int (20 : Int32)), (.int (1 : Int32))])) _
      refine XS.icmpNo X0.here hx rfl (hb hby d5_5) rfl (tlt (by decide : ((1 : Int32) < (20 : Int32)))).2.1 ?_
      show Steps p.tables e below (s₁.setTop (mkF m 8 #[.val (.ref o0), .val (.int (1 : Int32))] [])) _
      refine XS.aloadN X0.here hx rfl (hb hby d5_8) rfl rfl ?_
      show Steps p.tables e below (s₁.setTop (mkF m 9 #[.val (.ref o0), .val (.int (1 : Int32))] [(.ref o0)])) _
      refine st2 _ ?_
      show Steps p.tables e below (T2.setTop (mkF m 12 #[.val (.ref o0), .val (.int (1 : Int32))] [(.ref r1)])) _
      refine XS.iloadN X2.here hx rfl (hb hby d5_12) rfl ?_
      show Steps p.tables e below (T2.setTop (mkF m 13 #[.val (.ref o0), .val (.int (1 : Int32))] [(.int (1 : Int32)), (.ref r1)])) _
      refine X2.baloadBooleans hx (j := (1 : Int32)) (v := (.int (F1 1))) (by rw [e2]; exact Ar3.1) (State.isArrayOf_alike hZ.alike Ar3.2.1) Ar3.2.2 hin3 hat3 (g := (mkF m 13 #[.val (.ref o0), .val (.int (1 : Int32))] [(.int (1 : Int32)), (.ref r1)])) rfl rfl (hb hby d5_13) _ ?_
      exact kt)
  by_cases hc14_5 : (F1 1) = (0 : Int32)
  · obtain ⟨fs, hr, hrun, hended, hW, hsame⟩ := X2.leave (v := some (.int (1 : Int32))) (fun h => by rw [Bd.returns] at h; cases h)
    have hv97 : (f5 F1) = (1 : Int32) := by rw [f5, if_pos hc14_5]
    refine ⟨_, _, pre4 _ ?_, hrun, hended, _, _, rfl, ?_, ⟨_, rfl⟩, hW, hsame.mono (by decide) (by decide)⟩
    · show Steps p.tables e below (T2.setTop (mkF m 14 #[.val (.ref o0), .val (.int (1 : Int32))] [(.int (F1 1))])) _
      refine XS.ifYes X2.here hx rfl (pc0 := 14) (pc' := 23) rfl (hb hby d5_14) rfl ((if0 _ _).trans (teq hc14_5).1) (by decide) (by decide) ?_
      show Steps p.tables e below (T2.setTop (mkF m 23 #[.val (.ref o0), .val (.int (1 : Int32))] [])) _
      refine XS.iloadN X2.here hx rfl (hb hby d5_23) rfl ?_
      show Steps p.tables e below (T2.setTop (mkF m 24 #[.val (.ref o0), .val (.int (1 : Int32))] [(.int (1 : Int32))])) _
      exact retI X2 hx Bd.returns (hb hby d5_24) hr
    · show Q5 Z o0 r1 F1 h0 n0 _ T2.heap _
      rw [e2]
      exact ⟨congrArg (fun q => some (Value.int q)) hv97.symm, N0, rfl⟩
  · have pre6 : ∀ t, Steps p.tables e below (T2.setTop (mkF m 5 #[.val (.ref o0), .val (.int (2 : Int32))] [(.int (20 : Int32)), (.int (2 : Int32))])) t → Steps p.tables e below (s₁.setTop (entryFrame m #[(.ref o0)] 2)) t := fun t kt => pre4 t (by
        show Steps p.tables e below (T2.setTop (mkF m 14 #[.val (.ref o0), .val (.int (1 : Int32))] [(.int (F1 1))])) _
        refine XS.ifNo X2.here hx rfl (hb hby d5_14) rfl ((if0 _ _).trans (feq hc14_5).1) ?_
        show Steps p.tables e below (T2.setTop (mkF m 17 #[.val (.ref o0), .val (.int (1 : Int32))] [])) _
        refine XS.iinc X2.here hx rfl (hb hby d5_17) rfl (l' := #[.val (.ref o0), .val (.int (2 : Int32))]) rfl ?_
        show Steps p.tables e below (T2.setTop (mkF m 20 #[.val (.ref o0), .val (.int (2 : Int32))] [])) _
        refine XS.goto X2.here hx rfl (pc0 := 20) (pc' := 2) rfl (hb hby d5_20) (by decide) (by decide) ?_
        show Steps p.tables e below (T2.setTop (mkF m 2 #[.val (.ref o0), .val (.int (2 : Int32))] [])) _
        refine XS.iloadN X2.here hx rfl (hb hby d5_2) rfl ?_
        show Steps p.tables e below (T2.setTop (mkF m 3 #[.val (.ref o0), .val (.int (2 : Int32))] [(.int (2 : Int32))])) _
        refine XS.bipush X2.here hx rfl (hb hby d5_3) ?_
        exact kt)
    obtain ⟨T7, X7, e7, st7⟩ := getF X2 hx hZ hown (host := "") (Or.inl (hw _ (List.mem_of_getElem? (i := 11) rfl))) Via.refl e2 F_open_o0 (g := (mkF m 9 #[.val (.ref o0), .val (.int (2 : Int32))] [(.ref o0)])) rfl rfl (hb hby d5_9)
    obtain ⟨cl8, Ar8, Sz8, Nn8, Hs8⟩ := id V_r1
    have hin8 : ¬ ((2 : Int32) < 0 ∨ cl8.slots.size ≤ ((2 : Int32)).toNatClampNeg) := inb_of Sz8 ⟨by decide, by decide⟩
    have hat8 : cl8.slots[((2 : Int32)).toNatClampNeg]? = some (.int (F1 2)) := (Hs8 _ (own_lt hin8)).1
    have pre9 : ∀ t, Steps p.tables e below (T7.setTop (mkF m 14 #[.val (.ref o0), .val (.int (2 : Int32))] [(.int (F1 2))])) t → Steps p.tables e below (s₁.setTop (entryFrame m #[(.ref o0)] 2)) t := fun t kt => pre6 t (by
        show Steps p.tables e below (T2.setTop (mkF m 5 #[.val (.ref o0), .val (.int (2 : Int32))] [(.int (20 : Int32)), (.int (2 : Int32))])) _
        refine XS.icmpNo X2.here hx rfl (hb hby d5_5) rfl (tlt (by decide : ((2 : Int32) < (20 : Int32)))).2.1 ?_
        show Steps p.tables e below (T2.setTop (mkF m 8 #[.val (.ref o0), .val (.int (2 : Int32))] [])) _
        refine XS.aloadN X2.here hx rfl (hb hby d5_8) rfl rfl ?_
        show Steps p.tables e below (T2.setTop (mkF m 9 #[.val (.ref o0), .val (.int (2 : Int32))] [(.ref o0)])) _
        refine st7 _ ?_
        show Steps p.tables e below (T7.setTop (mkF m 12 #[.val (.ref o0), .val (.int (2 : Int32))] [(.ref r1)])) _
        refine XS.iloadN X7.here hx rfl (hb hby d5_12) rfl ?_
        show Steps p.tables e below (T7.setTop (mkF m 13 #[.val (.ref o0), .val (.int (2 : Int32))] [(.int (2 : Int32)), (.ref r1)])) _
        refine X7.baloadBooleans hx (j := (2 : Int32)) (v := (.int (F1 2))) (by rw [e7]; exact Ar8.1) (State.isArrayOf_alike hZ.alike Ar8.2.1) Ar8.2.2 hin8 hat8 (g := (mkF m 13 #[.val (.ref o0), .val (.int (2 : Int32))] [(.int (2 : Int32)), (.ref r1)])) rfl rfl (hb hby d5_13) _ ?_
        exact kt)
    by_cases hc14_10 : (F1 2) = (0 : Int32)
    · obtain ⟨fs, hr, hrun, hended, hW, hsame⟩ := X7.leave (v := some (.int (2 : Int32))) (fun h => by rw [Bd.returns] at h; cases h)
      have hv98 : (f5 F1) = (2 : Int32) := by rw [f5, if_neg hc14_5, if_pos hc14_10]
      refine ⟨_, _, pre9 _ ?_, hrun, hended, _, _, rfl, ?_, ⟨_, rfl⟩, hW, hsame.mono (by decide) (by decide)⟩
      · show Steps p.tables e below (T7.setTop (mkF m 14 #[.val (.ref o0), .val (.int (2 : Int32))] [(.int (F1 2))])) _
        refine XS.ifYes X7.here hx rfl (pc0 := 14) (pc' := 23) rfl (hb hby d5_14) rfl ((if0 _ _).trans (teq hc14_10).1) (by decide) (by decide) ?_
        show Steps p.tables e below (T7.setTop (mkF m 23 #[.val (.ref o0), .val (.int (2 : Int32))] [])) _
        refine XS.iloadN X7.here hx rfl (hb hby d5_23) rfl ?_
        show Steps p.tables e below (T7.setTop (mkF m 24 #[.val (.ref o0), .val (.int (2 : Int32))] [(.int (2 : Int32))])) _
        exact retI X7 hx Bd.returns (hb hby d5_24) hr
      · show Q5 Z o0 r1 F1 h0 n0 _ T7.heap _
        rw [e7]
        exact ⟨congrArg (fun q => some (Value.int q)) hv98.symm, N0, rfl⟩
    · have pre11 : ∀ t, Steps p.tables e below (T7.setTop (mkF m 5 #[.val (.ref o0), .val (.int (3 : Int32))] [(.int (20 : Int32)), (.int (3 : Int32))])) t → Steps p.tables e below (s₁.setTop (entryFrame m #[(.ref o0)] 2)) t := fun t kt => pre9 t (by
          show Steps p.tables e below (T7.setTop (mkF m 14 #[.val (.ref o0), .val (.int (2 : Int32))] [(.int (F1 2))])) _
          refine XS.ifNo X7.here hx rfl (hb hby d5_14) rfl ((if0 _ _).trans (feq hc14_10).1) ?_
          show Steps p.tables e below (T7.setTop (mkF m 17 #[.val (.ref o0), .val (.int (2 : Int32))] [])) _
          refine XS.iinc X7.here hx rfl (hb hby d5_17) rfl (l' := #[.val (.ref o0), .val (.int (3 : Int32))]) rfl ?_
          show Steps p.tables e below (T7.setTop (mkF m 20 #[.val (.ref o0), .val (.int (3 : Int32))] [])) _
          refine XS.goto X7.here hx rfl (pc0 := 20) (pc' := 2) rfl (hb hby d5_20) (by decide) (by decide) ?_
          show Steps p.tables e below (T7.setTop (mkF m 2 #[.val (.ref o0), .val (.int (3 : Int32))] [])) _
          refine XS.iloadN X7.here hx rfl (hb hby d5_2) rfl ?_
          show Steps p.tables e below (T7.setTop (mkF m 3 #[.val (.ref o0), .val (.int (3 : Int32))] [(.int (3 : Int32))])) _
          refine XS.bipush X7.here hx rfl (hb hby d5_3) ?_
          exact kt)
      obtain ⟨T12, X12, e12, st12⟩ := getF X7 hx hZ hown (host := "") (Or.inl (hw _ (List.mem_of_getElem? (i := 11) rfl))) Via.refl e7 F_open_o0 (g := (mkF m 9 #[.val (.ref o0), .val (.int (3 : Int32))] [(.ref o0)])) rfl rfl (hb hby d5_9)
      obtain ⟨cl13, Ar13, Sz13, Nn13, Hs13⟩ := id V_r1
      have hin13 : ¬ ((3 : Int32) < 0 ∨ cl13.slots.size ≤ ((3 : Int32)).toNatClampNeg) := inb_of Sz13 ⟨by decide, by decide⟩
      have hat13 : cl13.slots[((3 : Int32)).toNatClampNeg]? = some (.int (F1 3)) := (Hs13 _ (own_lt hin13)).1
      have pre14 : ∀ t, Steps p.tables e below (T12.setTop (mkF m 14 #[.val (.ref o0), .val (.int (3 : Int32))] [(.int (F1 3))])) t → Steps p.tables e below (s₁.setTop (entryFrame m #[(.ref o0)] 2)) t := fun t kt => pre11 t (by
          show Steps p.tables e below (T7.setTop (mkF m 5 #[.val (.ref o0), .val (.int (3 : Int32))] [(.int (20 : Int32)), (.int (3 : Int32))])) _
          refine XS.icmpNo X7.here hx rfl (hb hby d5_5) rfl (tlt (by decide : ((3 : Int32) < (20 : Int32)))).2.1 ?_
          show Steps p.tables e below (T7.setTop (mkF m 8 #[.val (.ref o0), .val (.int (3 : Int32))] [])) _
          refine XS.aloadN X7.here hx rfl (hb hby d5_8) rfl rfl ?_
          show Steps p.tables e below (T7.setTop (mkF m 9 #[.val (.ref o0), .val (.int (3 : Int32))] [(.ref o0)])) _
          refine st12 _ ?_
          show Steps p.tables e below (T12.setTop (mkF m 12 #[.val (.ref o0), .val (.int (3 : Int32))] [(.ref r1)])) _
          refine XS.iloadN X12.here hx rfl (hb hby d5_12) rfl ?_
          show Steps p.tables e below (T12.setTop (mkF m 13 #[.val (.ref o0), .val (.int (3 : Int32))] [(.int (3 : Int32)), (.ref r1)])) _
          refine X12.baloadBooleans hx (j := (3 : Int32)) (v := (.int (F1 3))) (by rw [e12]; exact Ar13.1) (State.isArrayOf_alike hZ.alike Ar13.2.1) Ar13.2.2 hin13 hat13 (g := (mkF m 13 #[.val (.ref o0), .val (.int (3 : Int32))] [(.int (3 : Int32)), (.ref r1)])) rfl rfl (hb hby d5_13) _ ?_
          exact kt)
      by_cases hc14_15 : (F1 3) = (0 : Int32)
      · obtain ⟨fs, hr, hrun, hended, hW, hsame⟩ := X12.leave (v := some (.int (3 : Int32))) (fun h => by rw [Bd.returns] at h; cases h)
        have hv99 : (f5 F1) = (3 : Int32) := by rw [f5, if_neg hc14_5, if_neg hc14_10, if_pos hc14_15]
        refine ⟨_, _, pre14 _ ?_, hrun, hended, _, _, rfl, ?_, ⟨_, rfl⟩, hW, hsame.mono (by decide) (by decide)⟩
        · show Steps p.tables e below (T12.setTop (mkF m 14 #[.val (.ref o0), .val (.int (3 : Int32))] [(.int (F1 3))])) _
          refine XS.ifYes X12.here hx rfl (pc0 := 14) (pc' := 23) rfl (hb hby d5_14) rfl ((if0 _ _).trans (teq hc14_15).1) (by decide) (by decide) ?_
          show Steps p.tables e below (T12.setTop (mkF m 23 #[.val (.ref o0), .val (.int (3 : Int32))] [])) _
          refine XS.iloadN X12.here hx rfl (hb hby d5_23) rfl ?_
          show Steps p.tables e below (T12.setTop (mkF m 24 #[.val (.ref o0), .val (.int (3 : Int32))] [(.int (3 : Int32))])) _
          exact retI X12 hx Bd.returns (hb hby d5_24) hr
        · show Q5 Z o0 r1 F1 h0 n0 _ T12.heap _
          rw [e12]
          exact ⟨congrArg (fun q => some (Value.int q)) hv99.symm, N0, rfl⟩
      · have pre16 : ∀ t, Steps p.tables e below (T12.setTop (mkF m 5 #[.val (.ref o0), .val (.int (4 : Int32))] [(.int (20 : Int32)), (.int (4 : Int32))])) t → Steps p.tables e below (s₁.setTop (entryFrame m #[(.ref o0)] 2)) t := fun t kt => pre14 t (by
            show Steps p.tables e below (T12.setTop (mkF m 14 #[.val (.ref o0), .val (.int (3 : Int32))] [(.int (F1 3))])) _
            refine XS.ifNo X12.here hx rfl (hb hby d5_14) rfl ((if0 _ _).trans (feq hc14_15).1) ?_
            show Steps p.tables e below (T12.setTop (mkF m 17 #[.val (.ref o0), .val (.int (3 : Int32))] [])) _
            refine XS.iinc X12.here hx rfl (hb hby d5_17) rfl (l' := #[.val (.ref o0), .val (.int (4 : Int32))]) rfl ?_
            show Steps p.tables e below (T12.setTop (mkF m 20 #[.val (.ref o0), .val (.int (4 : Int32))] [])) _
            refine XS.goto X12.here hx rfl (pc0 := 20) (pc' := 2) rfl (hb hby d5_20) (by decide) (by decide) ?_
            show Steps p.tables e below (T12.setTop (mkF m 2 #[.val (.ref o0), .val (.int (4 : Int32))] [])) _
            refine XS.iloadN X12.here hx rfl (hb hby d5_2) rfl ?_
            show Steps p.tables e below (T12.setTop (mkF m 3 #[.val (.ref o0), .val (.int (4 : Int32))] [(.int (4 : Int32))])) _
            refine XS.bipush X12.here hx rfl (hb hby d5_3) ?_
            exact kt)
        obtain ⟨T17, X17, e17, st17⟩ := getF X12 hx hZ hown (host := "") (Or.inl (hw _ (List.mem_of_getElem? (i := 11) rfl))) Via.refl e12 F_open_o0 (g := (mkF m 9 #[.val (.ref o0), .val (.int (4 : Int32))] [(.ref o0)])) rfl rfl (hb hby d5_9)
        obtain ⟨cl18, Ar18, Sz18, Nn18, Hs18⟩ := id V_r1
        have hin18 : ¬ ((4 : Int32) < 0 ∨ cl18.slots.size ≤ ((4 : Int32)).toNatClampNeg) := inb_of Sz18 ⟨by decide, by decide⟩
        have hat18 : cl18.slots[((4 : Int32)).toNatClampNeg]? = some (.int (F1 4)) := (Hs18 _ (own_lt hin18)).1
        have pre19 : ∀ t, Steps p.tables e below (T17.setTop (mkF m 14 #[.val (.ref o0), .val (.int (4 : Int32))] [(.int (F1 4))])) t → Steps p.tables e below (s₁.setTop (entryFrame m #[(.ref o0)] 2)) t := fun t kt => pre16 t (by
            show Steps p.tables e below (T12.setTop (mkF m 5 #[.val (.ref o0), .val (.int (4 : Int32))] [(.int (20 : Int32)), (.int (4 : Int32))])) _
            refine XS.icmpNo X12.here hx rfl (hb hby d5_5) rfl (tlt (by decide : ((4 : Int32) < (20 : Int32)))).2.1 ?_
            show Steps p.tables e below (T12.setTop (mkF m 8 #[.val (.ref o0), .val (.int (4 : Int32))] [])) _
            refine XS.aloadN X12.here hx rfl (hb hby d5_8) rfl rfl ?_
            show Steps p.tables e below (T12.setTop (mkF m 9 #[.val (.ref o0), .val (.int (4 : Int32))] [(.ref o0)])) _
            refine st17 _ ?_
            show Steps p.tables e below (T17.setTop (mkF m 12 #[.val (.ref o0), .val (.int (4 : Int32))] [(.ref r1)])) _
            refine XS.iloadN X17.here hx rfl (hb hby d5_12) rfl ?_
            show Steps p.tables e below (T17.setTop (mkF m 13 #[.val (.ref o0), .val (.int (4 : Int32))] [(.int (4 : Int32)), (.ref r1)])) _
            refine X17.baloadBooleans hx (j := (4 : Int32)) (v := (.int (F1 4))) (by rw [e17]; exact Ar18.1) (State.isArrayOf_alike hZ.alike Ar18.2.1) Ar18.2.2 hin18 hat18 (g := (mkF m 13 #[.val (.ref o0), .val (.int (4 : Int32))] [(.int (4 : Int32)), (.ref r1)])) rfl rfl (hb hby d5_13) _ ?_
            exact kt)
        by_cases hc14_20 : (F1 4) = (0 : Int32)
        · obtain ⟨fs, hr, hrun, hended, hW, hsame⟩ := X17.leave (v := some (.int (4 : Int32))) (fun h => by rw [Bd.returns] at h; cases h)
          have hv100 : (f5 F1) = (4 : Int32) := by rw [f5, if_neg hc14_5, if_neg hc14_10, if_neg hc14_15, if_pos hc14_20]
          refine ⟨_, _, pre19 _ ?_, hrun, hended, _, _, rfl, ?_, ⟨_, rfl⟩, hW, hsame.mono (by decide) (by decide)⟩
          · show Steps p.tables e below (T17.setTop (mkF m 14 #[.val (.ref o0), .val (.int (4 : Int32))] [(.int (F1 4))])) _
            refine XS.ifYes X17.here hx rfl (pc0 := 14) (pc' := 23) rfl (hb hby d5_14) rfl ((if0 _ _).trans (teq hc14_20).1) (by decide) (by decide) ?_
            show Steps p.tables e below (T17.setTop (mkF m 23 #[.val (.ref o0), .val (.int (4 : Int32))] [])) _
            refine XS.iloadN X17.here hx rfl (hb hby d5_23) rfl ?_
            show Steps p.tables e below (T17.setTop (mkF m 24 #[.val (.ref o0), .val (.int (4 : Int32))] [(.int (4 : Int32))])) _
            exact retI X17 hx Bd.returns (hb hby d5_24) hr
          · show Q5 Z o0 r1 F1 h0 n0 _ T17.heap _
            rw [e17]
            exact ⟨congrArg (fun q => some (Value.int q)) hv100.symm, N0, rfl⟩
        · have pre21 : ∀ t, Steps p.tables e below (T17.setTop (mkF m 5 #[.val (.ref o0), .val (.int (5 : Int32))] [(.int (20 : Int32)), (.int (5 : Int32))])) t → Steps p.tables e below (s₁.setTop (entryFrame m #[(.ref o0)] 2)) t := fun t kt => pre19 t (by
              show Steps p.tables e below (T17.setTop (mkF m 14 #[.val (.ref o0), .val (.int (4 : Int32))] [(.int (F1 4))])) _
              refine XS.ifNo X17.here hx rfl (hb hby d5_14) rfl ((if0 _ _).trans (feq hc14_20).1) ?_
              show Steps p.tables e below (T17.setTop (mkF m 17 #[.val (.ref o0), .val (.int (4 : Int32))] [])) _
              refine XS.iinc X17.here hx rfl (hb hby d5_17) rfl (l' := #[.val (.ref o0), .val (.int (5 : Int32))]) rfl ?_
              show Steps p.tables e below (T17.setTop (mkF m 20 #[.val (.ref o0), .val (.int (5 : Int32))] [])) _
              refine XS.goto X17.here hx rfl (pc0 := 20) (pc' := 2) rfl (hb hby d5_20) (by decide) (by decide) ?_
              show Steps p.tables e below (T17.setTop (mkF m 2 #[.val (.ref o0), .val (.int (5 : Int32))] [])) _
              refine XS.iloadN X17.here hx rfl (hb hby d5_2) rfl ?_
              show Steps p.tables e below (T17.setTop (mkF m 3 #[.val (.ref o0), .val (.int (5 : Int32))] [(.int (5 : Int32))])) _
              refine XS.bipush X17.here hx rfl (hb hby d5_3) ?_
              exact kt)
          obtain ⟨T22, X22, e22, st22⟩ := getF X17 hx hZ hown (host := "") (Or.inl (hw _ (List.mem_of_getElem? (i := 11) rfl))) Via.refl e17 F_open_o0 (g := (mkF m 9 #[.val (.ref o0), .val (.int (5 : Int32))] [(.ref o0)])) rfl rfl (hb hby d5_9)
          obtain ⟨cl23, Ar23, Sz23, Nn23, Hs23⟩ := id V_r1
          have hin23 : ¬ ((5 : Int32) < 0 ∨ cl23.slots.size ≤ ((5 : Int32)).toNatClampNeg) := inb_of Sz23 ⟨by decide, by decide⟩
          have hat23 : cl23.slots[((5 : Int32)).toNatClampNeg]? = some (.int (F1 5)) := (Hs23 _ (own_lt hin23)).1
          have pre24 : ∀ t, Steps p.tables e below (T22.setTop (mkF m 14 #[.val (.ref o0), .val (.int (5 : Int32))] [(.int (F1 5))])) t → Steps p.tables e below (s₁.setTop (entryFrame m #[(.ref o0)] 2)) t := fun t kt => pre21 t (by
              show Steps p.tables e below (T17.setTop (mkF m 5 #[.val (.ref o0), .val (.int (5 : Int32))] [(.int (20 : Int32)), (.int (5 : Int32))])) _
              refine XS.icmpNo X17.here hx rfl (hb hby d5_5) rfl (tlt (by decide : ((5 : Int32) < (20 : Int32)))).2.1 ?_
              show Steps p.tables e below (T17.setTop (mkF m 8 #[.val (.ref o0), .val (.int (5 : Int32))] [])) _
              refine XS.aloadN X17.here hx rfl (hb hby d5_8) rfl rfl ?_
              show Steps p.tables e below (T17.setTop (mkF m 9 #[.val (.ref o0), .val (.int (5 : Int32))] [(.ref o0)])) _
              refine st22 _ ?_
              show Steps p.tables e below (T22.setTop (mkF m 12 #[.val (.ref o0), .val (.int (5 : Int32))] [(.ref r1)])) _
              refine XS.iloadN X22.here hx rfl (hb hby d5_12) rfl ?_
              show Steps p.tables e below (T22.setTop (mkF m 13 #[.val (.ref o0), .val (.int (5 : Int32))] [(.int (5 : Int32)), (.ref r1)])) _
              refine X22.baloadBooleans hx (j := (5 : Int32)) (v := (.int (F1 5))) (by rw [e22]; exact Ar23.1) (State.isArrayOf_alike hZ.alike Ar23.2.1) Ar23.2.2 hin23 hat23 (g := (mkF m 13 #[.val (.ref o0), .val (.int (5 : Int32))] [(.int (5 : Int32)), (.ref r1)])) rfl rfl (hb hby d5_13) _ ?_
              exact kt)
          by_cases hc14_25 : (F1 5) = (0 : Int32)
          · obtain ⟨fs, hr, hrun, hended, hW, hsame⟩ := X22.leave (v := some (.int (5 : Int32))) (fun h => by rw [Bd.returns] at h; cases h)
            have hv101 : (f5 F1) = (5 : Int32) := by rw [f5, if_neg hc14_5, if_neg hc14_10, if_neg hc14_15, if_neg hc14_20, if_pos hc14_25]
            refine ⟨_, _, pre24 _ ?_, hrun, hended, _, _, rfl, ?_, ⟨_, rfl⟩, hW, hsame.mono (by decide) (by decide)⟩
            · show Steps p.tables e below (T22.setTop (mkF m 14 #[.val (.ref o0), .val (.int (5 : Int32))] [(.int (F1 5))])) _
              refine XS.ifYes X22.here hx rfl (pc0 := 14) (pc' := 23) rfl (hb hby d5_14) rfl ((if0 _ _).trans (teq hc14_25).1) (by decide) (by decide) ?_
              show Steps p.tables e below (T22.setTop (mkF m 23 #[.val (.ref o0), .val (.int (5 : Int32))] [])) _
              refine XS.iloadN X22.here hx rfl (hb hby d5_23) rfl ?_
              show Steps p.tables e below (T22.setTop (mkF m 24 #[.val (.ref o0), .val (.int (5 : Int32))] [(.int (5 : Int32))])) _
              exact retI X22 hx Bd.returns (hb hby d5_24) hr
            · show Q5 Z o0 r1 F1 h0 n0 _ T22.heap _
              rw [e22]
              exact ⟨congrArg (fun q => some (Value.int q)) hv101.symm, N0, rfl⟩
          · have pre26 : ∀ t, Steps p.tables e below (T22.setTop (mkF m 5 #[.val (.ref o0), .val (.int (6 : Int32))] [(.int (20 : Int32)), (.int (6 : Int32))])) t → Steps p.tables e below (s₁.setTop (entryFrame m #[(.ref o0)] 2)) t := fun t kt => pre24 t (by
                show Steps p.tables e below (T22.setTop (mkF m 14 #[.val (.ref o0), .val (.int (5 : Int32))] [(.int (F1 5))])) _
                refine XS.ifNo X22.here hx rfl (hb hby d5_14) rfl ((if0 _ _).trans (feq hc14_25).1) ?_
                show Steps p.tables e below (T22.setTop (mkF m 17 #[.val (.ref o0), .val (.int (5 : Int32))] [])) _
                refine XS.iinc X22.here hx rfl (hb hby d5_17) rfl (l' := #[.val (.ref o0), .val (.int (6 : Int32))]) rfl ?_
                show Steps p.tables e below (T22.setTop (mkF m 20 #[.val (.ref o0), .val (.int (6 : Int32))] [])) _
                refine XS.goto X22.here hx rfl (pc0 := 20) (pc' := 2) rfl (hb hby d5_20) (by decide) (by decide) ?_
                show Steps p.tables e below (T22.setTop (mkF m 2 #[.val (.ref o0), .val (.int (6 : Int32))] [])) _
                refine XS.iloadN X22.here hx rfl (hb hby d5_2) rfl ?_
                show Steps p.tables e below (T22.setTop (mkF m 3 #[.val (.ref o0), .val (.int (6 : Int32))] [(.int (6 : Int32))])) _
                refine XS.bipush X22.here hx rfl (hb hby d5_3) ?_
                exact kt)
            obtain ⟨T27, X27, e27, st27⟩ := getF X22 hx hZ hown (host := "") (Or.inl (hw _ (List.mem_of_getElem? (i := 11) rfl))) Via.refl e22 F_open_o0 (g := (mkF m 9 #[.val (.ref o0), .val (.int (6 : Int32))] [(.ref o0)])) rfl rfl (hb hby d5_9)
            obtain ⟨cl28, Ar28, Sz28, Nn28, Hs28⟩ := id V_r1
            have hin28 : ¬ ((6 : Int32) < 0 ∨ cl28.slots.size ≤ ((6 : Int32)).toNatClampNeg) := inb_of Sz28 ⟨by decide, by decide⟩
            have hat28 : cl28.slots[((6 : Int32)).toNatClampNeg]? = some (.int (F1 6)) := (Hs28 _ (own_lt hin28)).1
            have pre29 : ∀ t, Steps p.tables e below (T27.setTop (mkF m 14 #[.val (.ref o0), .val (.int (6 : Int32))] [(.int (F1 6))])) t → Steps p.tables e below (s₁.setTop (entryFrame m #[(.ref o0)] 2)) t := fun t kt => pre26 t (by
                show Steps p.tables e below (T22.setTop (mkF m 5 #[.val (.ref o0), .val (.int (6 : Int32))] [(.int (20 : Int32)), (.int (6 : Int32))])) _
                refine XS.icmpNo X22.here hx rfl (hb hby d5_5) rfl (tlt (by decide : ((6 : Int32) < (20 : Int32)))).2.1 ?_
                show Steps p.tables e below (T22.setTop (mkF m 8 #[.val (.ref o0), .val (.int (6 : Int32))] [])) _
                refine XS.aloadN X22.here hx rfl (hb hby d5_8) rfl rfl ?_
                show Steps p.tables e below (T22.setTop (mkF m 9 #[.val (.ref o0), .val (.int (6 : Int32))] [(.ref o0)])) _
                refine st27 _ ?_
                show Steps p.tables e below (T27.setTop (mkF m 12 #[.val (.ref o0), .val (.int (6 : Int32))] [(.ref r1)])) _
                refine XS.iloadN X27.here hx rfl (hb hby d5_12) rfl ?_
                show Steps p.tables e below (T27.setTop (mkF m 13 #[.val (.ref o0), .val (.int (6 : Int32))] [(.int (6 : Int32)), (.ref r1)])) _
                refine X27.baloadBooleans hx (j := (6 : Int32)) (v := (.int (F1 6))) (by rw [e27]; exact Ar28.1) (State.isArrayOf_alike hZ.alike Ar28.2.1) Ar28.2.2 hin28 hat28 (g := (mkF m 13 #[.val (.ref o0), .val (.int (6 : Int32))] [(.int (6 : Int32)), (.ref r1)])) rfl rfl (hb hby d5_13) _ ?_
                exact kt)
            by_cases hc14_30 : (F1 6) = (0 : Int32)
            · obtain ⟨fs, hr, hrun, hended, hW, hsame⟩ := X27.leave (v := some (.int (6 : Int32))) (fun h => by rw [Bd.returns] at h; cases h)
              have hv102 : (f5 F1) = (6 : Int32) := by rw [f5, if_neg hc14_5, if_neg hc14_10, if_neg hc14_15, if_neg hc14_20, if_neg hc14_25, if_pos hc14_30]
              refine ⟨_, _, pre29 _ ?_, hrun, hended, _, _, rfl, ?_, ⟨_, rfl⟩, hW, hsame.mono (by decide) (by decide)⟩
              · show Steps p.tables e below (T27.setTop (mkF m 14 #[.val (.ref o0), .val (.int (6 : Int32))] [(.int (F1 6))])) _
                refine XS.ifYes X27.here hx rfl (pc0 := 14) (pc' := 23) rfl (hb hby d5_14) rfl ((if0 _ _).trans (teq hc14_30).1) (by decide) (by decide) ?_
                show Steps p.tables e below (T27.setTop (mkF m 23 #[.val (.ref o0), .val (.int (6 : Int32))] [])) _
                refine XS.iloadN X27.here hx rfl (hb hby d5_23) rfl ?_
                show Steps p.tables e below (T27.setTop (mkF m 24 #[.val (.ref o0), .val (.int (6 : Int32))] [(.int (6 : Int32))])) _
                exact retI X27 hx Bd.returns (hb hby d5_24) hr
              · show Q5 Z o0 r1 F1 h0 n0 _ T27.heap _
                rw [e27]
                exact ⟨congrArg (fun q => some (Value.int q)) hv102.symm, N0, rfl⟩
            · have pre31 : ∀ t, Steps p.tables e below (T27.setTop (mkF m 5 #[.val (.ref o0), .val (.int (7 : Int32))] [(.int (20 : Int32)), (.int (7 : Int32))])) t → Steps p.tables e below (s₁.setTop (entryFrame m #[(.ref o0)] 2)) t := fun t kt => pre29 t (by
                  show Steps p.tables e below (T27.setTop (mkF m 14 #[.val (.ref o0), .val (.int (6 : Int32))] [(.int (F1 6))])) _
                  refine XS.ifNo X27.here hx rfl (hb hby d5_14) rfl ((if0 _ _).trans (feq hc14_30).1) ?_
                  show Steps p.tables e below (T27.setTop (mkF m 17 #[.val (.ref o0), .val (.int (6 : Int32))] [])) _
                  refine XS.iinc X27.here hx rfl (hb hby d5_17) rfl (l' := #[.val (.ref o0), .val (.int (7 : Int32))]) rfl ?_
                  show Steps p.tables e below (T27.setTop (mkF m 20 #[.val (.ref o0), .val (.int (7 : Int32))] [])) _
                  refine XS.goto X27.here hx rfl (pc0 := 20) (pc' := 2) rfl (hb hby d5_20) (by decide) (by decide) ?_
                  show Steps p.tables e below (T27.setTop (mkF m 2 #[.val (.ref o0), .val (.int (7 : Int32))] [])) _
                  refine XS.iloadN X27.here hx rfl (hb hby d5_2) rfl ?_
                  show Steps p.tables e below (T27.setTop (mkF m 3 #[.val (.ref o0), .val (.int (7 : Int32))] [(.int (7 : Int32))])) _
                  refine XS.bipush X27.here hx rfl (hb hby d5_3) ?_
                  exact kt)
              obtain ⟨T32, X32, e32, st32⟩ := getF X27 hx hZ hown (host := "") (Or.inl (hw _ (List.mem_of_getElem? (i := 11) rfl))) Via.refl e27 F_open_o0 (g := (mkF m 9 #[.val (.ref o0), .val (.int (7 : Int32))] [(.ref o0)])) rfl rfl (hb hby d5_9)
              obtain ⟨cl33, Ar33, Sz33, Nn33, Hs33⟩ := id V_r1
              have hin33 : ¬ ((7 : Int32) < 0 ∨ cl33.slots.size ≤ ((7 : Int32)).toNatClampNeg) := inb_of Sz33 ⟨by decide, by decide⟩
              have hat33 : cl33.slots[((7 : Int32)).toNatClampNeg]? = some (.int (F1 7)) := (Hs33 _ (own_lt hin33)).1
              have pre34 : ∀ t, Steps p.tables e below (T32.setTop (mkF m 14 #[.val (.ref o0), .val (.int (7 : Int32))] [(.int (F1 7))])) t → Steps p.tables e below (s₁.setTop (entryFrame m #[(.ref o0)] 2)) t := fun t kt => pre31 t (by
                  show Steps p.tables e below (T27.setTop (mkF m 5 #[.val (.ref o0), .val (.int (7 : Int32))] [(.int (20 : Int32)), (.int (7 : Int32))])) _
                  refine XS.icmpNo X27.here hx rfl (hb hby d5_5) rfl (tlt (by decide : ((7 : Int32) < (20 : Int32)))).2.1 ?_
                  show Steps p.tables e below (T27.setTop (mkF m 8 #[.val (.ref o0), .val (.int (7 : Int32))] [])) _
                  refine XS.aloadN X27.here hx rfl (hb hby d5_8) rfl rfl ?_
                  show Steps p.tables e below (T27.setTop (mkF m 9 #[.val (.ref o0), .val (.int (7 : Int32))] [(.ref o0)])) _
                  refine st32 _ ?_
                  show Steps p.tables e below (T32.setTop (mkF m 12 #[.val (.ref o0), .val (.int (7 : Int32))] [(.ref r1)])) _
                  refine XS.iloadN X32.here hx rfl (hb hby d5_12) rfl ?_
                  show Steps p.tables e below (T32.setTop (mkF m 13 #[.val (.ref o0), .val (.int (7 : Int32))] [(.int (7 : Int32)), (.ref r1)])) _
                  refine X32.baloadBooleans hx (j := (7 : Int32)) (v := (.int (F1 7))) (by rw [e32]; exact Ar33.1) (State.isArrayOf_alike hZ.alike Ar33.2.1) Ar33.2.2 hin33 hat33 (g := (mkF m 13 #[.val (.ref o0), .val (.int (7 : Int32))] [(.int (7 : Int32)), (.ref r1)])) rfl rfl (hb hby d5_13) _ ?_
                  exact kt)
              by_cases hc14_35 : (F1 7) = (0 : Int32)
              · obtain ⟨fs, hr, hrun, hended, hW, hsame⟩ := X32.leave (v := some (.int (7 : Int32))) (fun h => by rw [Bd.returns] at h; cases h)
                have hv103 : (f5 F1) = (7 : Int32) := by rw [f5, if_neg hc14_5, if_neg hc14_10, if_neg hc14_15, if_neg hc14_20, if_neg hc14_25, if_neg hc14_30, if_pos hc14_35]
                refine ⟨_, _, pre34 _ ?_, hrun, hended, _, _, rfl, ?_, ⟨_, rfl⟩, hW, hsame.mono (by decide) (by decide)⟩
                · show Steps p.tables e below (T32.setTop (mkF m 14 #[.val (.ref o0), .val (.int (7 : Int32))] [(.int (F1 7))])) _
                  refine XS.ifYes X32.here hx rfl (pc0 := 14) (pc' := 23) rfl (hb hby d5_14) rfl ((if0 _ _).trans (teq hc14_35).1) (by decide) (by decide) ?_
                  show Steps p.tables e below (T32.setTop (mkF m 23 #[.val (.ref o0), .val (.int (7 : Int32))] [])) _
                  refine XS.iloadN X32.here hx rfl (hb hby d5_23) rfl ?_
                  show Steps p.tables e below (T32.setTop (mkF m 24 #[.val (.ref o0), .val (.int (7 : Int32))] [(.int (7 : Int32))])) _
                  exact retI X32 hx Bd.returns (hb hby d5_24) hr
                · show Q5 Z o0 r1 F1 h0 n0 _ T32.heap _
                  rw [e32]
                  exact ⟨congrArg (fun q => some (Value.int q)) hv103.symm, N0, rfl⟩
              · have pre36 : ∀ t, Steps p.tables e below (T32.setTop (mkF m 5 #[.val (.ref o0), .val (.int (8 : Int32))] [(.int (20 : Int32)), (.int (8 : Int32))])) t → Steps p.tables e below (s₁.setTop (entryFrame m #[(.ref o0)] 2)) t := fun t kt => pre34 t (by
                    show Steps p.tables e below (T32.setTop (mkF m 14 #[.val (.ref o0), .val (.int (7 : Int32))] [(.int (F1 7))])) _
                    refine XS.ifNo X32.here hx rfl (hb hby d5_14) rfl ((if0 _ _).trans (feq hc14_35).1) ?_
                    show Steps p.tables e below (T32.setTop (mkF m 17 #[.val (.ref o0), .val (.int (7 : Int32))] [])) _
                    refine XS.iinc X32.here hx rfl (hb hby d5_17) rfl (l' := #[.val (.ref o0), .val (.int (8 : Int32))]) rfl ?_
                    show Steps p.tables e below (T32.setTop (mkF m 20 #[.val (.ref o0), .val (.int (8 : Int32))] [])) _
                    refine XS.goto X32.here hx rfl (pc0 := 20) (pc' := 2) rfl (hb hby d5_20) (by decide) (by decide) ?_
                    show Steps p.tables e below (T32.setTop (mkF m 2 #[.val (.ref o0), .val (.int (8 : Int32))] [])) _
                    refine XS.iloadN X32.here hx rfl (hb hby d5_2) rfl ?_
                    show Steps p.tables e below (T32.setTop (mkF m 3 #[.val (.ref o0), .val (.int (8 : Int32))] [(.int (8 : Int32))])) _
                    refine XS.bipush X32.here hx rfl (hb hby d5_3) ?_
                    exact kt)
                obtain ⟨T37, X37, e37, st37⟩ := getF X32 hx hZ hown (host := "") (Or.inl (hw _ (List.mem_of_getElem? (i := 11) rfl))) Via.refl e32 F_open_o0 (g := (mkF m 9 #[.val (.ref o0), .val (.int (8 : Int32))] [(.ref o0)])) rfl rfl (hb hby d5_9)
                obtain ⟨cl38, Ar38, Sz38, Nn38, Hs38⟩ := id V_r1
                have hin38 : ¬ ((8 : Int32) < 0 ∨ cl38.slots.size ≤ ((8 : Int32)).toNatClampNeg) := inb_of Sz38 ⟨by decide, by decide⟩
                have hat38 : cl38.slots[((8 : Int32)).toNatClampNeg]? = some (.int (F1 8)) := (Hs38 _ (own_lt hin38)).1
                have pre39 : ∀ t, Steps p.tables e below (T37.setTop (mkF m 14 #[.val (.ref o0), .val (.int (8 : Int32))] [(.int (F1 8))])) t → Steps p.tables e below (s₁.setTop (entryFrame m #[(.ref o0)] 2)) t := fun t kt => pre36 t (by
                    show Steps p.tables e below (T32.setTop (mkF m 5 #[.val (.ref o0), .val (.int (8 : Int32))] [(.int (20 : Int32)), (.int (8 : Int32))])) _
                    refine XS.icmpNo X32.here hx rfl (hb hby d5_5) rfl (tlt (by decide : ((8 : Int32) < (20 : Int32)))).2.1 ?_
                    show Steps p.tables e below (T32.setTop (mkF m 8 #[.val (.ref o0), .val (.int (8 : Int32))] [])) _
                    refine XS.aloadN X32.here hx rfl (hb hby d5_8) rfl rfl ?_
                    show Steps p.tables e below (T32.setTop (mkF m 9 #[.val (.ref o0), .val (.int (8 : Int32))] [(.ref o0)])) _
                    refine st37 _ ?_
                    show Steps p.tables e below (T37.setTop (mkF m 12 #[.val (.ref o0), .val (.int (8 : Int32))] [(.ref r1)])) _
                    refine XS.iloadN X37.here hx rfl (hb hby d5_12) rfl ?_
                    show Steps p.tables e below (T37.setTop (mkF m 13 #[.val (.ref o0), .val (.int (8 : Int32))] [(.int (8 : Int32)), (.ref r1)])) _
                    refine X37.baloadBooleans hx (j := (8 : Int32)) (v := (.int (F1 8))) (by rw [e37]; exact Ar38.1) (State.isArrayOf_alike hZ.alike Ar38.2.1) Ar38.2.2 hin38 hat38 (g := (mkF m 13 #[.val (.ref o0), .val (.int (8 : Int32))] [(.int (8 : Int32)), (.ref r1)])) rfl rfl (hb hby d5_13) _ ?_
                    exact kt)
                by_cases hc14_40 : (F1 8) = (0 : Int32)
                · obtain ⟨fs, hr, hrun, hended, hW, hsame⟩ := X37.leave (v := some (.int (8 : Int32))) (fun h => by rw [Bd.returns] at h; cases h)
                  have hv104 : (f5 F1) = (8 : Int32) := by rw [f5, if_neg hc14_5, if_neg hc14_10, if_neg hc14_15, if_neg hc14_20, if_neg hc14_25, if_neg hc14_30, if_neg hc14_35, if_pos hc14_40]
                  refine ⟨_, _, pre39 _ ?_, hrun, hended, _, _, rfl, ?_, ⟨_, rfl⟩, hW, hsame.mono (by decide) (by decide)⟩
                  · show Steps p.tables e below (T37.setTop (mkF m 14 #[.val (.ref o0), .val (.int (8 : Int32))] [(.int (F1 8))])) _
                    refine XS.ifYes X37.here hx rfl (pc0 := 14) (pc' := 23) rfl (hb hby d5_14) rfl ((if0 _ _).trans (teq hc14_40).1) (by decide) (by decide) ?_
                    show Steps p.tables e below (T37.setTop (mkF m 23 #[.val (.ref o0), .val (.int (8 : Int32))] [])) _
                    refine XS.iloadN X37.here hx rfl (hb hby d5_23) rfl ?_
                    show Steps p.tables e below (T37.setTop (mkF m 24 #[.val (.ref o0), .val (.int (8 : Int32))] [(.int (8 : Int32))])) _
                    exact retI X37 hx Bd.returns (hb hby d5_24) hr
                  · show Q5 Z o0 r1 F1 h0 n0 _ T37.heap _
                    rw [e37]
                    exact ⟨congrArg (fun q => some (Value.int q)) hv104.symm, N0, rfl⟩
                · have pre41 : ∀ t, Steps p.tables e below (T37.setTop (mkF m 5 #[.val (.ref o0), .val (.int (9 : Int32))] [(.int (20 : Int32)), (.int (9 : Int32))])) t → Steps p.tables e below (s₁.setTop (entryFrame m #[(.ref o0)] 2)) t := fun t kt => pre39 t (by
                      show Steps p.tables e below (T37.setTop (mkF m 14 #[.val (.ref o0), .val (.int (8 : Int32))] [(.int (F1 8))])) _
                      refine XS.ifNo X37.here hx rfl (hb hby d5_14) rfl ((if0 _ _).trans (feq hc14_40).1) ?_
                      show Steps p.tables e below (T37.setTop (mkF m 17 #[.val (.ref o0), .val (.int (8 : Int32))] [])) _
                      refine XS.iinc X37.here hx rfl (hb hby d5_17) rfl (l' := #[.val (.ref o0), .val (.int (9 : Int32))]) rfl ?_
                      show Steps p.tables e below (T37.setTop (mkF m 20 #[.val (.ref o0), .val (.int (9 : Int32))] [])) _
                      refine XS.goto X37.here hx rfl (pc0 := 20) (pc' := 2) rfl (hb hby d5_20) (by decide) (by decide) ?_
                      show Steps p.tables e below (T37.setTop (mkF m 2 #[.val (.ref o0), .val (.int (9 : Int32))] [])) _
                      refine XS.iloadN X37.here hx rfl (hb hby d5_2) rfl ?_
                      show Steps p.tables e below (T37.setTop (mkF m 3 #[.val (.ref o0), .val (.int (9 : Int32))] [(.int (9 : Int32))])) _
                      refine XS.bipush X37.here hx rfl (hb hby d5_3) ?_
                      exact kt)
                  obtain ⟨T42, X42, e42, st42⟩ := getF X37 hx hZ hown (host := "") (Or.inl (hw _ (List.mem_of_getElem? (i := 11) rfl))) Via.refl e37 F_open_o0 (g := (mkF m 9 #[.val (.ref o0), .val (.int (9 : Int32))] [(.ref o0)])) rfl rfl (hb hby d5_9)
                  obtain ⟨cl43, Ar43, Sz43, Nn43, Hs43⟩ := id V_r1
                  have hin43 : ¬ ((9 : Int32) < 0 ∨ cl43.slots.size ≤ ((9 : Int32)).toNatClampNeg) := inb_of Sz43 ⟨by decide, by decide⟩
                  have hat43 : cl43.slots[((9 : Int32)).toNatClampNeg]? = some (.int (F1 9)) := (Hs43 _ (own_lt hin43)).1
                  have pre44 : ∀ t, Steps p.tables e below (T42.setTop (mkF m 14 #[.val (.ref o0), .val (.int (9 : Int32))] [(.int (F1 9))])) t → Steps p.tables e below (s₁.setTop (entryFrame m #[(.ref o0)] 2)) t := fun t kt => pre41 t (by
                      show Steps p.tables e below (T37.setTop (mkF m 5 #[.val (.ref o0), .val (.int (9 : Int32))] [(.int (20 : Int32)), (.int (9 : Int32))])) _
                      refine XS.icmpNo X37.here hx rfl (hb hby d5_5) rfl (tlt (by decide : ((9 : Int32) < (20 : Int32)))).2.1 ?_
                      show Steps p.tables e below (T37.setTop (mkF m 8 #[.val (.ref o0), .val (.int (9 : Int32))] [])) _
                      refine XS.aloadN X37.here hx rfl (hb hby d5_8) rfl rfl ?_
                      show Steps p.tables e below (T37.setTop (mkF m 9 #[.val (.ref o0), .val (.int (9 : Int32))] [(.ref o0)])) _
                      refine st42 _ ?_
                      show Steps p.tables e below (T42.setTop (mkF m 12 #[.val (.ref o0), .val (.int (9 : Int32))] [(.ref r1)])) _
                      refine XS.iloadN X42.here hx rfl (hb hby d5_12) rfl ?_
                      show Steps p.tables e below (T42.setTop (mkF m 13 #[.val (.ref o0), .val (.int (9 : Int32))] [(.int (9 : Int32)), (.ref r1)])) _
                      refine X42.baloadBooleans hx (j := (9 : Int32)) (v := (.int (F1 9))) (by rw [e42]; exact Ar43.1) (State.isArrayOf_alike hZ.alike Ar43.2.1) Ar43.2.2 hin43 hat43 (g := (mkF m 13 #[.val (.ref o0), .val (.int (9 : Int32))] [(.int (9 : Int32)), (.ref r1)])) rfl rfl (hb hby d5_13) _ ?_
                      exact kt)
                  by_cases hc14_45 : (F1 9) = (0 : Int32)
                  · obtain ⟨fs, hr, hrun, hended, hW, hsame⟩ := X42.leave (v := some (.int (9 : Int32))) (fun h => by rw [Bd.returns] at h; cases h)
                    have hv105 : (f5 F1) = (9 : Int32) := by rw [f5, if_neg hc14_5, if_neg hc14_10, if_neg hc14_15, if_neg hc14_20, if_neg hc14_25, if_neg hc14_30, if_neg hc14_35, if_neg hc14_40, if_pos hc14_45]
                    refine ⟨_, _, pre44 _ ?_, hrun, hended, _, _, rfl, ?_, ⟨_, rfl⟩, hW, hsame.mono (by decide) (by decide)⟩
                    · show Steps p.tables e below (T42.setTop (mkF m 14 #[.val (.ref o0), .val (.int (9 : Int32))] [(.int (F1 9))])) _
                      refine XS.ifYes X42.here hx rfl (pc0 := 14) (pc' := 23) rfl (hb hby d5_14) rfl ((if0 _ _).trans (teq hc14_45).1) (by decide) (by decide) ?_
                      show Steps p.tables e below (T42.setTop (mkF m 23 #[.val (.ref o0), .val (.int (9 : Int32))] [])) _
                      refine XS.iloadN X42.here hx rfl (hb hby d5_23) rfl ?_
                      show Steps p.tables e below (T42.setTop (mkF m 24 #[.val (.ref o0), .val (.int (9 : Int32))] [(.int (9 : Int32))])) _
                      exact retI X42 hx Bd.returns (hb hby d5_24) hr
                    · show Q5 Z o0 r1 F1 h0 n0 _ T42.heap _
                      rw [e42]
                      exact ⟨congrArg (fun q => some (Value.int q)) hv105.symm, N0, rfl⟩
                  · have pre46 : ∀ t, Steps p.tables e below (T42.setTop (mkF m 5 #[.val (.ref o0), .val (.int (10 : Int32))] [(.int (20 : Int32)), (.int (10 : Int32))])) t → Steps p.tables e below (s₁.setTop (entryFrame m #[(.ref o0)] 2)) t := fun t kt => pre44 t (by
                        show Steps p.tables e below (T42.setTop (mkF m 14 #[.val (.ref o0), .val (.int (9 : Int32))] [(.int (F1 9))])) _
                        refine XS.ifNo X42.here hx rfl (hb hby d5_14) rfl ((if0 _ _).trans (feq hc14_45).1) ?_
                        show Steps p.tables e below (T42.setTop (mkF m 17 #[.val (.ref o0), .val (.int (9 : Int32))] [])) _
                        refine XS.iinc X42.here hx rfl (hb hby d5_17) rfl (l' := #[.val (.ref o0), .val (.int (10 : Int32))]) rfl ?_
                        show Steps p.tables e below (T42.setTop (mkF m 20 #[.val (.ref o0), .val (.int (10 : Int32))] [])) _
                        refine XS.goto X42.here hx rfl (pc0 := 20) (pc' := 2) rfl (hb hby d5_20) (by decide) (by decide) ?_
                        show Steps p.tables e below (T42.setTop (mkF m 2 #[.val (.ref o0), .val (.int (10 : Int32))] [])) _
                        refine XS.iloadN X42.here hx rfl (hb hby d5_2) rfl ?_
                        show Steps p.tables e below (T42.setTop (mkF m 3 #[.val (.ref o0), .val (.int (10 : Int32))] [(.int (10 : Int32))])) _
                        refine XS.bipush X42.here hx rfl (hb hby d5_3) ?_
                        exact kt)
                    obtain ⟨T47, X47, e47, st47⟩ := getF X42 hx hZ hown (host := "") (Or.inl (hw _ (List.mem_of_getElem? (i := 11) rfl))) Via.refl e42 F_open_o0 (g := (mkF m 9 #[.val (.ref o0), .val (.int (10 : Int32))] [(.ref o0)])) rfl rfl (hb hby d5_9)
                    obtain ⟨cl48, Ar48, Sz48, Nn48, Hs48⟩ := id V_r1
                    have hin48 : ¬ ((10 : Int32) < 0 ∨ cl48.slots.size ≤ ((10 : Int32)).toNatClampNeg) := inb_of Sz48 ⟨by decide, by decide⟩
                    have hat48 : cl48.slots[((10 : Int32)).toNatClampNeg]? = some (.int (F1 10)) := (Hs48 _ (own_lt hin48)).1
                    have pre49 : ∀ t, Steps p.tables e below (T47.setTop (mkF m 14 #[.val (.ref o0), .val (.int (10 : Int32))] [(.int (F1 10))])) t → Steps p.tables e below (s₁.setTop (entryFrame m #[(.ref o0)] 2)) t := fun t kt => pre46 t (by
                        show Steps p.tables e below (T42.setTop (mkF m 5 #[.val (.ref o0), .val (.int (10 : Int32))] [(.int (20 : Int32)), (.int (10 : Int32))])) _
                        refine XS.icmpNo X42.here hx rfl (hb hby d5_5) rfl (tlt (by decide : ((10 : Int32) < (20 : Int32)))).2.1 ?_
                        show Steps p.tables e below (T42.setTop (mkF m 8 #[.val (.ref o0), .val (.int (10 : Int32))] [])) _
                        refine XS.aloadN X42.here hx rfl (hb hby d5_8) rfl rfl ?_
                        show Steps p.tables e below (T42.setTop (mkF m 9 #[.val (.ref o0), .val (.int (10 : Int32))] [(.ref o0)])) _
                        refine st47 _ ?_
                        show Steps p.tables e below (T47.setTop (mkF m 12 #[.val (.ref o0), .val (.int (10 : Int32))] [(.ref r1)])) _
                        refine XS.iloadN X47.here hx rfl (hb hby d5_12) rfl ?_
                        show Steps p.tables e below (T47.setTop (mkF m 13 #[.val (.ref o0), .val (.int (10 : Int32))] [(.int (10 : Int32)), (.ref r1)])) _
                        refine X47.baloadBooleans hx (j := (10 : Int32)) (v := (.int (F1 10))) (by rw [e47]; exact Ar48.1) (State.isArrayOf_alike hZ.alike Ar48.2.1) Ar48.2.2 hin48 hat48 (g := (mkF m 13 #[.val (.ref o0), .val (.int (10 : Int32))] [(.int (10 : Int32)), (.ref r1)])) rfl rfl (hb hby d5_13) _ ?_
                        exact kt)
                    by_cases hc14_50 : (F1 10) = (0 : Int32)
                    · obtain ⟨fs, hr, hrun, hended, hW, hsame⟩ := X47.leave (v := some (.int (10 : Int32))) (fun h => by rw [Bd.returns] at h; cases h)
                      have hv106 : (f5 F1) = (10 : Int32) := by rw [f5, if_neg hc14_5, if_neg hc14_10, if_neg hc14_15, if_neg hc14_20, if_neg hc14_25, if_neg hc14_30, if_neg hc14_35, if_neg hc14_40, if_neg hc14_45, if_pos hc14_50]
                      refine ⟨_, _, pre49 _ ?_, hrun, hended, _, _, rfl, ?_, ⟨_, rfl⟩, hW, hsame.mono (by decide) (by decide)⟩
                      · show Steps p.tables e below (T47.setTop (mkF m 14 #[.val (.ref o0), .val (.int (10 : Int32))] [(.int (F1 10))])) _
                        refine XS.ifYes X47.here hx rfl (pc0 := 14) (pc' := 23) rfl (hb hby d5_14) rfl ((if0 _ _).trans (teq hc14_50).1) (by decide) (by decide) ?_
                        show Steps p.tables e below (T47.setTop (mkF m 23 #[.val (.ref o0), .val (.int (10 : Int32))] [])) _
                        refine XS.iloadN X47.here hx rfl (hb hby d5_23) rfl ?_
                        show Steps p.tables e below (T47.setTop (mkF m 24 #[.val (.ref o0), .val (.int (10 : Int32))] [(.int (10 : Int32))])) _
                        exact retI X47 hx Bd.returns (hb hby d5_24) hr
                      · show Q5 Z o0 r1 F1 h0 n0 _ T47.heap _
                        rw [e47]
                        exact ⟨congrArg (fun q => some (Value.int q)) hv106.symm, N0, rfl⟩
                    · have pre51 : ∀ t, Steps p.tables e below (T47.setTop (mkF m 5 #[.val (.ref o0), .val (.int (11 : Int32))] [(.int (20 : Int32)), (.int (11 : Int32))])) t → Steps p.tables e below (s₁.setTop (entryFrame m #[(.ref o0)] 2)) t := fun t kt => pre49 t (by
                          show Steps p.tables e below (T47.setTop (mkF m 14 #[.val (.ref o0), .val (.int (10 : Int32))] [(.int (F1 10))])) _
                          refine XS.ifNo X47.here hx rfl (hb hby d5_14) rfl ((if0 _ _).trans (feq hc14_50).1) ?_
                          show Steps p.tables e below (T47.setTop (mkF m 17 #[.val (.ref o0), .val (.int (10 : Int32))] [])) _
                          refine XS.iinc X47.here hx rfl (hb hby d5_17) rfl (l' := #[.val (.ref o0), .val (.int (11 : Int32))]) rfl ?_
                          show Steps p.tables e below (T47.setTop (mkF m 20 #[.val (.ref o0), .val (.int (11 : Int32))] [])) _
                          refine XS.goto X47.here hx rfl (pc0 := 20) (pc' := 2) rfl (hb hby d5_20) (by decide) (by decide) ?_
                          show Steps p.tables e below (T47.setTop (mkF m 2 #[.val (.ref o0), .val (.int (11 : Int32))] [])) _
                          refine XS.iloadN X47.here hx rfl (hb hby d5_2) rfl ?_
                          show Steps p.tables e below (T47.setTop (mkF m 3 #[.val (.ref o0), .val (.int (11 : Int32))] [(.int (11 : Int32))])) _
                          refine XS.bipush X47.here hx rfl (hb hby d5_3) ?_
                          exact kt)
                      obtain ⟨T52, X52, e52, st52⟩ := getF X47 hx hZ hown (host := "") (Or.inl (hw _ (List.mem_of_getElem? (i := 11) rfl))) Via.refl e47 F_open_o0 (g := (mkF m 9 #[.val (.ref o0), .val (.int (11 : Int32))] [(.ref o0)])) rfl rfl (hb hby d5_9)
                      obtain ⟨cl53, Ar53, Sz53, Nn53, Hs53⟩ := id V_r1
                      have hin53 : ¬ ((11 : Int32) < 0 ∨ cl53.slots.size ≤ ((11 : Int32)).toNatClampNeg) := inb_of Sz53 ⟨by decide, by decide⟩
                      have hat53 : cl53.slots[((11 : Int32)).toNatClampNeg]? = some (.int (F1 11)) := (Hs53 _ (own_lt hin53)).1
                      have pre54 : ∀ t, Steps p.tables e below (T52.setTop (mkF m 14 #[.val (.ref o0), .val (.int (11 : Int32))] [(.int (F1 11))])) t → Steps p.tables e below (s₁.setTop (entryFrame m #[(.ref o0)] 2)) t := fun t kt => pre51 t (by
                          show Steps p.tables e below (T47.setTop (mkF m 5 #[.val (.ref o0), .val (.int (11 : Int32))] [(.int (20 : Int32)), (.int (11 : Int32))])) _
                          refine XS.icmpNo X47.here hx rfl (hb hby d5_5) rfl (tlt (by decide : ((11 : Int32) < (20 : Int32)))).2.1 ?_
                          show Steps p.tables e below (T47.setTop (mkF m 8 #[.val (.ref o0), .val (.int (11 : Int32))] [])) _
                          refine XS.aloadN X47.here hx rfl (hb hby d5_8) rfl rfl ?_
                          show Steps p.tables e below (T47.setTop (mkF m 9 #[.val (.ref o0), .val (.int (11 : Int32))] [(.ref o0)])) _
                          refine st52 _ ?_
                          show Steps p.tables e below (T52.setTop (mkF m 12 #[.val (.ref o0), .val (.int (11 : Int32))] [(.ref r1)])) _
                          refine XS.iloadN X52.here hx rfl (hb hby d5_12) rfl ?_
                          show Steps p.tables e below (T52.setTop (mkF m 13 #[.val (.ref o0), .val (.int (11 : Int32))] [(.int (11 : Int32)), (.ref r1)])) _
                          refine X52.baloadBooleans hx (j := (11 : Int32)) (v := (.int (F1 11))) (by rw [e52]; exact Ar53.1) (State.isArrayOf_alike hZ.alike Ar53.2.1) Ar53.2.2 hin53 hat53 (g := (mkF m 13 #[.val (.ref o0), .val (.int (11 : Int32))] [(.int (11 : Int32)), (.ref r1)])) rfl rfl (hb hby d5_13) _ ?_
                          exact kt)
                      by_cases hc14_55 : (F1 11) = (0 : Int32)
                      · obtain ⟨fs, hr, hrun, hended, hW, hsame⟩ := X52.leave (v := some (.int (11 : Int32))) (fun h => by rw [Bd.returns] at h; cases h)
                        have hv107 : (f5 F1) = (11 : Int32) := by rw [f5, if_neg hc14_5, if_neg hc14_10, if_neg hc14_15, if_neg hc14_20, if_neg hc14_25, if_neg hc14_30, if_neg hc14_35, if_neg hc14_40, if_neg hc14_45, if_neg hc14_50, if_pos hc14_55]
                        refine ⟨_, _, pre54 _ ?_, hrun, hended, _, _, rfl, ?_, ⟨_, rfl⟩, hW, hsame.mono (by decide) (by decide)⟩
                        · show Steps p.tables e below (T52.setTop (mkF m 14 #[.val (.ref o0), .val (.int (11 : Int32))] [(.int (F1 11))])) _
                          refine XS.ifYes X52.here hx rfl (pc0 := 14) (pc' := 23) rfl (hb hby d5_14) rfl ((if0 _ _).trans (teq hc14_55).1) (by decide) (by decide) ?_
                          show Steps p.tables e below (T52.setTop (mkF m 23 #[.val (.ref o0), .val (.int (11 : Int32))] [])) _
                          refine XS.iloadN X52.here hx rfl (hb hby d5_23) rfl ?_
                          show Steps p.tables e below (T52.setTop (mkF m 24 #[.val (.ref o0), .val (.int (11 : Int32))] [(.int (11 : Int32))])) _
                          exact retI X52 hx Bd.returns (hb hby d5_24) hr
                        · show Q5 Z o0 r1 F1 h0 n0 _ T52.heap _
                          rw [e52]
                          exact ⟨congrArg (fun q => some (Value.int q)) hv107.symm, N0, rfl⟩
                      · have pre56 : ∀ t, Steps p.tables e below (T52.setTop (mkF m 5 #[.val (.ref o0), .val (.int (12 : Int32))] [(.int (20 : Int32)), (.int (12 : Int32))])) t → Steps p.tables e below (s₁.setTop (entryFrame m #[(.ref o0)] 2)) t := fun t kt => pre54 t (by
                            show Steps p.tables e below (T52.setTop (mkF m 14 #[.val (.ref o0), .val (.int (11 : Int32))] [(.int (F1 11))])) _
                            refine XS.ifNo X52.here hx rfl (hb hby d5_14) rfl ((if0 _ _).trans (feq hc14_55).1) ?_
                            show Steps p.tables e below (T52.setTop (mkF m 17 #[.val (.ref o0), .val (.int (11 : Int32))] [])) _
                            refine XS.iinc X52.here hx rfl (hb hby d5_17) rfl (l' := #[.val (.ref o0), .val (.int (12 : Int32))]) rfl ?_
                            show Steps p.tables e below (T52.setTop (mkF m 20 #[.val (.ref o0), .val (.int (12 : Int32))] [])) _
                            refine XS.goto X52.here hx rfl (pc0 := 20) (pc' := 2) rfl (hb hby d5_20) (by decide) (by decide) ?_
                            show Steps p.tables e below (T52.setTop (mkF m 2 #[.val (.ref o0), .val (.int (12 : Int32))] [])) _
                            refine XS.iloadN X52.here hx rfl (hb hby d5_2) rfl ?_
                            show Steps p.tables e below (T52.setTop (mkF m 3 #[.val (.ref o0), .val (.int (12 : Int32))] [(.int (12 : Int32))])) _
                            refine XS.bipush X52.here hx rfl (hb hby d5_3) ?_
                            exact kt)
                        obtain ⟨T57, X57, e57, st57⟩ := getF X52 hx hZ hown (host := "") (Or.inl (hw _ (List.mem_of_getElem? (i := 11) rfl))) Via.refl e52 F_open_o0 (g := (mkF m 9 #[.val (.ref o0), .val (.int (12 : Int32))] [(.ref o0)])) rfl rfl (hb hby d5_9)
                        obtain ⟨cl58, Ar58, Sz58, Nn58, Hs58⟩ := id V_r1
                        have hin58 : ¬ ((12 : Int32) < 0 ∨ cl58.slots.size ≤ ((12 : Int32)).toNatClampNeg) := inb_of Sz58 ⟨by decide, by decide⟩
                        have hat58 : cl58.slots[((12 : Int32)).toNatClampNeg]? = some (.int (F1 12)) := (Hs58 _ (own_lt hin58)).1
                        have pre59 : ∀ t, Steps p.tables e below (T57.setTop (mkF m 14 #[.val (.ref o0), .val (.int (12 : Int32))] [(.int (F1 12))])) t → Steps p.tables e below (s₁.setTop (entryFrame m #[(.ref o0)] 2)) t := fun t kt => pre56 t (by
                            show Steps p.tables e below (T52.setTop (mkF m 5 #[.val (.ref o0), .val (.int (12 : Int32))] [(.int (20 : Int32)), (.int (12 : Int32))])) _
                            refine XS.icmpNo X52.here hx rfl (hb hby d5_5) rfl (tlt (by decide : ((12 : Int32) < (20 : Int32)))).2.1 ?_
                            show Steps p.tables e below (T52.setTop (mkF m 8 #[.val (.ref o0), .val (.int (12 : Int32))] [])) _
                            refine XS.aloadN X52.here hx rfl (hb hby d5_8) rfl rfl ?_
                            show Steps p.tables e below (T52.setTop (mkF m 9 #[.val (.ref o0), .val (.int (12 : Int32))] [(.ref o0)])) _
                            refine st57 _ ?_
                            show Steps p.tables e below (T57.setTop (mkF m 12 #[.val (.ref o0), .val (.int (12 : Int32))] [(.ref r1)])) _
                            refine XS.iloadN X57.here hx rfl (hb hby d5_12) rfl ?_
                            show Steps p.tables e below (T57.setTop (mkF m 13 #[.val (.ref o0), .val (.int (12 : Int32))] [(.int (12 : Int32)), (.ref r1)])) _
                            refine X57.baloadBooleans hx (j := (12 : Int32)) (v := (.int (F1 12))) (by rw [e57]; exact Ar58.1) (State.isArrayOf_alike hZ.alike Ar58.2.1) Ar58.2.2 hin58 hat58 (g := (mkF m 13 #[.val (.ref o0), .val (.int (12 : Int32))] [(.int (12 : Int32)), (.ref r1)])) rfl rfl (hb hby d5_13) _ ?_
                            exact kt)
                        by_cases hc14_60 : (F1 12) = (0 : Int32)
                        · obtain ⟨fs, hr, hrun, hended, hW, hsame⟩ := X57.leave (v := some (.int (12 : Int32))) (fun h => by rw [Bd.returns] at h; cases h)
                          have hv108 : (f5 F1) = (12 : Int32) := by rw [f5, if_neg hc14_5, if_neg hc14_10, if_neg hc14_15, if_neg hc14_20, if_neg hc14_25, if_neg hc14_30, if_neg hc14_35, if_neg hc14_40, if_neg hc14_45, if_neg hc14_50, if_neg hc14_55, if_pos hc14_60]
                          refine ⟨_, _, pre59 _ ?_, hrun, hended, _, _, rfl, ?_, ⟨_, rfl⟩, hW, hsame.mono (by decide) (by decide)⟩
                          · show Steps p.tables e below (T57.setTop (mkF m 14 #[.val (.ref o0), .val (.int (12 : Int32))] [(.int (F1 12))])) _
                            refine XS.ifYes X57.here hx rfl (pc0 := 14) (pc' := 23) rfl (hb hby d5_14) rfl ((if0 _ _).trans (teq hc14_60).1) (by decide) (by decide) ?_
                            show Steps p.tables e below (T57.setTop (mkF m 23 #[.val (.ref o0), .val (.int (12 : Int32))] [])) _
                            refine XS.iloadN X57.here hx rfl (hb hby d5_23) rfl ?_
                            show Steps p.tables e below (T57.setTop (mkF m 24 #[.val (.ref o0), .val (.int (12 : Int32))] [(.int (12 : Int32))])) _
                            exact retI X57 hx Bd.returns (hb hby d5_24) hr
                          · show Q5 Z o0 r1 F1 h0 n0 _ T57.heap _
                            rw [e57]
                            exact ⟨congrArg (fun q => some (Value.int q)) hv108.symm, N0, rfl⟩
                        · have pre61 : ∀ t, Steps p.tables e below (T57.setTop (mkF m 5 #[.val (.ref o0), .val (.int (13 : Int32))] [(.int (20 : Int32)), (.int (13 : Int32))])) t → Steps p.tables e below (s₁.setTop (entryFrame m #[(.ref o0)] 2)) t := fun t kt => pre59 t (by
                              show Steps p.tables e below (T57.setTop (mkF m 14 #[.val (.ref o0), .val (.int (12 : Int32))] [(.int (F1 12))])) _
                              refine XS.ifNo X57.here hx rfl (hb hby d5_14) rfl ((if0 _ _).trans (feq hc14_60).1) ?_
                              show Steps p.tables e below (T57.setTop (mkF m 17 #[.val (.ref o0), .val (.int (12 : Int32))] [])) _
                              refine XS.iinc X57.here hx rfl (hb hby d5_17) rfl (l' := #[.val (.ref o0), .val (.int (13 : Int32))]) rfl ?_
                              show Steps p.tables e below (T57.setTop (mkF m 20 #[.val (.ref o0), .val (.int (13 : Int32))] [])) _
                              refine XS.goto X57.here hx rfl (pc0 := 20) (pc' := 2) rfl (hb hby d5_20) (by decide) (by decide) ?_
                              show Steps p.tables e below (T57.setTop (mkF m 2 #[.val (.ref o0), .val (.int (13 : Int32))] [])) _
                              refine XS.iloadN X57.here hx rfl (hb hby d5_2) rfl ?_
                              show Steps p.tables e below (T57.setTop (mkF m 3 #[.val (.ref o0), .val (.int (13 : Int32))] [(.int (13 : Int32))])) _
                              refine XS.bipush X57.here hx rfl (hb hby d5_3) ?_
                              exact kt)
                          obtain ⟨T62, X62, e62, st62⟩ := getF X57 hx hZ hown (host := "") (Or.inl (hw _ (List.mem_of_getElem? (i := 11) rfl))) Via.refl e57 F_open_o0 (g := (mkF m 9 #[.val (.ref o0), .val (.int (13 : Int32))] [(.ref o0)])) rfl rfl (hb hby d5_9)
                          obtain ⟨cl63, Ar63, Sz63, Nn63, Hs63⟩ := id V_r1
                          have hin63 : ¬ ((13 : Int32) < 0 ∨ cl63.slots.size ≤ ((13 : Int32)).toNatClampNeg) := inb_of Sz63 ⟨by decide, by decide⟩
                          have hat63 : cl63.slots[((13 : Int32)).toNatClampNeg]? = some (.int (F1 13)) := (Hs63 _ (own_lt hin63)).1
                          have pre64 : ∀ t, Steps p.tables e below (T62.setTop (mkF m 14 #[.val (.ref o0), .val (.int (13 : Int32))] [(.int (F1 13))])) t → Steps p.tables e below (s₁.setTop (entryFrame m #[(.ref o0)] 2)) t := fun t kt => pre61 t (by
                              show Steps p.tables e below (T57.setTop (mkF m 5 #[.val (.ref o0), .val (.int (13 : Int32))] [(.int (20 : Int32)), (.int (13 : Int32))])) _
                              refine XS.icmpNo X57.here hx rfl (hb hby d5_5) rfl (tlt (by decide : ((13 : Int32) < (20 : Int32)))).2.1 ?_
                              show Steps p.tables e below (T57.setTop (mkF m 8 #[.val (.ref o0), .val (.int (13 : Int32))] [])) _
                              refine XS.aloadN X57.here hx rfl (hb hby d5_8) rfl rfl ?_
                              show Steps p.tables e below (T57.setTop (mkF m 9 #[.val (.ref o0), .val (.int (13 : Int32))] [(.ref o0)])) _
                              refine st62 _ ?_
                              show Steps p.tables e below (T62.setTop (mkF m 12 #[.val (.ref o0), .val (.int (13 : Int32))] [(.ref r1)])) _
                              refine XS.iloadN X62.here hx rfl (hb hby d5_12) rfl ?_
                              show Steps p.tables e below (T62.setTop (mkF m 13 #[.val (.ref o0), .val (.int (13 : Int32))] [(.int (13 : Int32)), (.ref r1)])) _
                              refine X62.baloadBooleans hx (j := (13 : Int32)) (v := (.int (F1 13))) (by rw [e62]; exact Ar63.1) (State.isArrayOf_alike hZ.alike Ar63.2.1) Ar63.2.2 hin63 hat63 (g := (mkF m 13 #[.val (.ref o0), .val (.int (13 : Int32))] [(.int (13 : Int32)), (.ref r1)])) rfl rfl (hb hby d5_13) _ ?_
                              exact kt)
                          by_cases hc14_65 : (F1 13) = (0 : Int32)
                          · obtain ⟨fs, hr, hrun, hended, hW, hsame⟩ := X62.leave (v := some (.int (13 : Int32))) (fun h => by rw [Bd.returns] at h; cases h)
                            have hv109 : (f5 F1) = (13 : Int32) := by rw [f5, if_neg hc14_5, if_neg hc14_10, if_neg hc14_15, if_neg hc14_20, if_neg hc14_25, if_neg hc14_30, if_neg hc14_35, if_neg hc14_40, if_neg hc14_45, if_neg hc14_50, if_neg hc14_55, if_neg hc14_60, if_pos hc14_65]
                            refine ⟨_, _, pre64 _ ?_, hrun, hended, _, _, rfl, ?_, ⟨_, rfl⟩, hW, hsame.mono (by decide) (by decide)⟩
                            · show Steps p.tables e below (T62.setTop (mkF m 14 #[.val (.ref o0), .val (.int (13 : Int32))] [(.int (F1 13))])) _
                              refine XS.ifYes X62.here hx rfl (pc0 := 14) (pc' := 23) rfl (hb hby d5_14) rfl ((if0 _ _).trans (teq hc14_65).1) (by decide) (by decide) ?_
                              show Steps p.tables e below (T62.setTop (mkF m 23 #[.val (.ref o0), .val (.int (13 : Int32))] [])) _
                              refine XS.iloadN X62.here hx rfl (hb hby d5_23) rfl ?_
                              show Steps p.tables e below (T62.setTop (mkF m 24 #[.val (.ref o0), .val (.int (13 : Int32))] [(.int (13 : Int32))])) _
                              exact retI X62 hx Bd.returns (hb hby d5_24) hr
                            · show Q5 Z o0 r1 F1 h0 n0 _ T62.heap _
                              rw [e62]
                              exact ⟨congrArg (fun q => some (Value.int q)) hv109.symm, N0, rfl⟩
                          · have pre66 : ∀ t, Steps p.tables e below (T62.setTop (mkF m 5 #[.val (.ref o0), .val (.int (14 : Int32))] [(.int (20 : Int32)), (.int (14 : Int32))])) t → Steps p.tables e below (s₁.setTop (entryFrame m #[(.ref o0)] 2)) t := fun t kt => pre64 t (by
                                show Steps p.tables e below (T62.setTop (mkF m 14 #[.val (.ref o0), .val (.int (13 : Int32))] [(.int (F1 13))])) _
                                refine XS.ifNo X62.here hx rfl (hb hby d5_14) rfl ((if0 _ _).trans (feq hc14_65).1) ?_
                                show Steps p.tables e below (T62.setTop (mkF m 17 #[.val (.ref o0), .val (.int (13 : Int32))] [])) _
                                refine XS.iinc X62.here hx rfl (hb hby d5_17) rfl (l' := #[.val (.ref o0), .val (.int (14 : Int32))]) rfl ?_
                                show Steps p.tables e below (T62.setTop (mkF m 20 #[.val (.ref o0), .val (.int (14 : Int32))] [])) _
                                refine XS.goto X62.here hx rfl (pc0 := 20) (pc' := 2) rfl (hb hby d5_20) (by decide) (by decide) ?_
                                show Steps p.tables e below (T62.setTop (mkF m 2 #[.val (.ref o0), .val (.int (14 : Int32))] [])) _
                                refine XS.iloadN X62.here hx rfl (hb hby d5_2) rfl ?_
                                show Steps p.tables e below (T62.setTop (mkF m 3 #[.val (.ref o0), .val (.int (14 : Int32))] [(.int (14 : Int32))])) _
                                refine XS.bipush X62.here hx rfl (hb hby d5_3) ?_
                                exact kt)
                            obtain ⟨T67, X67, e67, st67⟩ := getF X62 hx hZ hown (host := "") (Or.inl (hw _ (List.mem_of_getElem? (i := 11) rfl))) Via.refl e62 F_open_o0 (g := (mkF m 9 #[.val (.ref o0), .val (.int (14 : Int32))] [(.ref o0)])) rfl rfl (hb hby d5_9)
                            obtain ⟨cl68, Ar68, Sz68, Nn68, Hs68⟩ := id V_r1
                            have hin68 : ¬ ((14 : Int32) < 0 ∨ cl68.slots.size ≤ ((14 : Int32)).toNatClampNeg) := inb_of Sz68 ⟨by decide, by decide⟩
                            have hat68 : cl68.slots[((14 : Int32)).toNatClampNeg]? = some (.int (F1 14)) := (Hs68 _ (own_lt hin68)).1
                            have pre69 : ∀ t, Steps p.tables e below (T67.setTop (mkF m 14 #[.val (.ref o0), .val (.int (14 : Int32))] [(.int (F1 14))])) t → Steps p.tables e below (s₁.setTop (entryFrame m #[(.ref o0)] 2)) t := fun t kt => pre66 t (by
                                show Steps p.tables e below (T62.setTop (mkF m 5 #[.val (.ref o0), .val (.int (14 : Int32))] [(.int (20 : Int32)), (.int (14 : Int32))])) _
                                refine XS.icmpNo X62.here hx rfl (hb hby d5_5) rfl (tlt (by decide : ((14 : Int32) < (20 : Int32)))).2.1 ?_
                                show Steps p.tables e below (T62.setTop (mkF m 8 #[.val (.ref o0), .val (.int (14 : Int32))] [])) _
                                refine XS.aloadN X62.here hx rfl (hb hby d5_8) rfl rfl ?_
                                show Steps p.tables e below (T62.setTop (mkF m 9 #[.val (.ref o0), .val (.int (14 : Int32))] [(.ref o0)])) _
                                refine st67 _ ?_
                                show Steps p.tables e below (T67.setTop (mkF m 12 #[.val (.ref o0), .val (.int (14 : Int32))] [(.ref r1)])) _
                                refine XS.iloadN X67.here hx rfl (hb hby d5_12) rfl ?_
                                show Steps p.tables e below (T67.setTop (mkF m 13 #[.val (.ref o0), .val (.int (14 : Int32))] [(.int (14 : Int32)), (.ref r1)])) _
                                refine X67.baloadBooleans hx (j := (14 : Int32)) (v := (.int (F1 14))) (by rw [e67]; exact Ar68.1) (State.isArrayOf_alike hZ.alike Ar68.2.1) Ar68.2.2 hin68 hat68 (g := (mkF m 13 #[.val (.ref o0), .val (.int (14 : Int32))] [(.int (14 : Int32)), (.ref r1)])) rfl rfl (hb hby d5_13) _ ?_
                                exact kt)
                            by_cases hc14_70 : (F1 14) = (0 : Int32)
                            · obtain ⟨fs, hr, hrun, hended, hW, hsame⟩ := X67.leave (v := some (.int (14 : Int32))) (fun h => by rw [Bd.returns] at h; cases h)
                              have hv110 : (f5 F1) = (14 : Int32) := by rw [f5, if_neg hc14_5, if_neg hc14_10, if_neg hc14_15, if_neg hc14_20, if_neg hc14_25, if_neg hc14_30, if_neg hc14_35, if_neg hc14_40, if_neg hc14_45, if_neg hc14_50, if_neg hc14_55, if_neg hc14_60, if_neg hc14_65, if_pos hc14_70]
                              refine ⟨_, _, pre69 _ ?_, hrun, hended, _, _, rfl, ?_, ⟨_, rfl⟩, hW, hsame.mono (by decide) (by decide)⟩
                              · show Steps p.tables e below (T67.setTop (mkF m 14 #[.val (.ref o0), .val (.int (14 : Int32))] [(.int (F1 14))])) _
                                refine XS.ifYes X67.here hx rfl (pc0 := 14) (pc' := 23) rfl (hb hby d5_14) rfl ((if0 _ _).trans (teq hc14_70).1) (by decide) (by decide) ?_
                                show Steps p.tables e below (T67.setTop (mkF m 23 #[.val (.ref o0), .val (.int (14 : Int32))] [])) _
                                refine XS.iloadN X67.here hx rfl (hb hby d5_23) rfl ?_
                                show Steps p.tables e below (T67.setTop (mkF m 24 #[.val (.ref o0), .val (.int (14 : Int32))] [(.int (14 : Int32))])) _
                                exact retI X67 hx Bd.returns (hb hby d5_24) hr
                              · show Q5 Z o0 r1 F1 h0 n0 _ T67.heap _
                                rw [e67]
                                exact ⟨congrArg (fun q => some (Value.int q)) hv110.symm, N0, rfl⟩
                            · have pre71 : ∀ t, Steps p.tables e below (T67.setTop (mkF m 5 #[.val (.ref o0), .val (.int (15 : Int32))] [(.int (20 : Int32)), (.int (15 : Int32))])) t → Steps p.tables e below (s₁.setTop (entryFrame m #[(.ref o0)] 2)) t := fun t kt => pre69 t (by
                                  show Steps p.tables e below (T67.setTop (mkF m 14 #[.val (.ref o0), .val (.int (14 : Int32))] [(.int (F1 14))])) _
                                  refine XS.ifNo X67.here hx rfl (hb hby d5_14) rfl ((if0 _ _).trans (feq hc14_70).1) ?_
                                  show Steps p.tables e below (T67.setTop (mkF m 17 #[.val (.ref o0), .val (.int (14 : Int32))] [])) _
                                  refine XS.iinc X67.here hx rfl (hb hby d5_17) rfl (l' := #[.val (.ref o0), .val (.int (15 : Int32))]) rfl ?_
                                  show Steps p.tables e below (T67.setTop (mkF m 20 #[.val (.ref o0), .val (.int (15 : Int32))] [])) _
                                  refine XS.goto X67.here hx rfl (pc0 := 20) (pc' := 2) rfl (hb hby d5_20) (by decide) (by decide) ?_
                                  show Steps p.tables e below (T67.setTop (mkF m 2 #[.val (.ref o0), .val (.int (15 : Int32))] [])) _
                                  refine XS.iloadN X67.here hx rfl (hb hby d5_2) rfl ?_
                                  show Steps p.tables e below (T67.setTop (mkF m 3 #[.val (.ref o0), .val (.int (15 : Int32))] [(.int (15 : Int32))])) _
                                  refine XS.bipush X67.here hx rfl (hb hby d5_3) ?_
                                  exact kt)
                              obtain ⟨T72, X72, e72, st72⟩ := getF X67 hx hZ hown (host := "") (Or.inl (hw _ (List.mem_of_getElem? (i := 11) rfl))) Via.refl e67 F_open_o0 (g := (mkF m 9 #[.val (.ref o0), .val (.int (15 : Int32))] [(.ref o0)])) rfl rfl (hb hby d5_9)
                              obtain ⟨cl73, Ar73, Sz73, Nn73, Hs73⟩ := id V_r1
                              have hin73 : ¬ ((15 : Int32) < 0 ∨ cl73.slots.size ≤ ((15 : Int32)).toNatClampNeg) := inb_of Sz73 ⟨by decide, by decide⟩
                              have hat73 : cl73.slots[((15 : Int32)).toNatClampNeg]? = some (.int (F1 15)) := (Hs73 _ (own_lt hin73)).1
                              have pre74 : ∀ t, Steps p.tables e below (T72.setTop (mkF m 14 #[.val (.ref o0), .val (.int (15 : Int32))] [(.int (F1 15))])) t → Steps p.tables e below (s₁.setTop (entryFrame m #[(.ref o0)] 2)) t := fun t kt => pre71 t (by
                                  show Steps p.tables e below (T67.setTop (mkF m 5 #[.val (.ref o0), .val (.int (15 : Int32))] [(.int (20 : Int32)), (.int (15 : Int32))])) _
                                  refine XS.icmpNo X67.here hx rfl (hb hby d5_5) rfl (tlt (by decide : ((15 : Int32) < (20 : Int32)))).2.1 ?_
                                  show Steps p.tables e below (T67.setTop (mkF m 8 #[.val (.ref o0), .val (.int (15 : Int32))] [])) _
                                  refine XS.aloadN X67.here hx rfl (hb hby d5_8) rfl rfl ?_
                                  show Steps p.tables e below (T67.setTop (mkF m 9 #[.val (.ref o0), .val (.int (15 : Int32))] [(.ref o0)])) _
                                  refine st72 _ ?_
                                  show Steps p.tables e below (T72.setTop (mkF m 12 #[.val (.ref o0), .val (.int (15 : Int32))] [(.ref r1)])) _
                                  refine XS.iloadN X72.here hx rfl (hb hby d5_12) rfl ?_
                                  show Steps p.tables e below (T72.setTop (mkF m 13 #[.val (.ref o0), .val (.int (15 : Int32))] [(.int (15 : Int32)), (.ref r1)])) _
                                  refine X72.baloadBooleans hx (j := (15 : Int32)) (v := (.int (F1 15))) (by rw [e72]; exact Ar73.1) (State.isArrayOf_alike hZ.alike Ar73.2.1) Ar73.2.2 hin73 hat73 (g := (mkF m 13 #[.val (.ref o0), .val (.int (15 : Int32))] [(.int (15 : Int32)), (.ref r1)])) rfl rfl (hb hby d5_13) _ ?_
                                  exact kt)
                              by_cases hc14_75 : (F1 15) = (0 : Int32)
                              · obtain ⟨fs, hr, hrun, hended, hW, hsame⟩ := X72.leave (v := some (.int (15 : Int32))) (fun h => by rw [Bd.returns] at h; cases h)
                                have hv111 : (f5 F1) = (15 : Int32) := by rw [f5, if_neg hc14_5, if_neg hc14_10, if_neg hc14_15, if_neg hc14_20, if_neg hc14_25, if_neg hc14_30, if_neg hc14_35, if_neg hc14_40, if_neg hc14_45, if_neg hc14_50, if_neg hc14_55, if_neg hc14_60, if_neg hc14_65, if_neg hc14_70, if_pos hc14_75]
                                refine ⟨_, _, pre74 _ ?_, hrun, hended, _, _, rfl, ?_, ⟨_, rfl⟩, hW, hsame.mono (by decide) (by decide)⟩
                                · show Steps p.tables e below (T72.setTop (mkF m 14 #[.val (.ref o0), .val (.int (15 : Int32))] [(.int (F1 15))])) _
                                  refine XS.ifYes X72.here hx rfl (pc0 := 14) (pc' := 23) rfl (hb hby d5_14) rfl ((if0 _ _).trans (teq hc14_75).1) (by decide) (by decide) ?_
                                  show Steps p.tables e below (T72.setTop (mkF m 23 #[.val (.ref o0), .val (.int (15 : Int32))] [])) _
                                  refine XS.iloadN X72.here hx rfl (hb hby d5_23) rfl ?_
                                  show Steps p.tables e below (T72.setTop (mkF m 24 #[.val (.ref o0), .val (.int (15 : Int32))] [(.int (15 : Int32))])) _
                                  exact retI X72 hx Bd.returns (hb hby d5_24) hr
                                · show Q5 Z o0 r1 F1 h0 n0 _ T72.heap _
                                  rw [e72]
                                  exact ⟨congrArg (fun q => some (Value.int q)) hv111.symm, N0, rfl⟩
                              · have pre76 : ∀ t, Steps p.tables e below (T72.setTop (mkF m 5 #[.val (.ref o0), .val (.int (16 : Int32))] [(.int (20 : Int32)), (.int (16 : Int32))])) t → Steps p.tables e below (s₁.setTop (entryFrame m #[(.ref o0)] 2)) t := fun t kt => pre74 t (by
                                    show Steps p.tables e below (T72.setTop (mkF m 14 #[.val (.ref o0), .val (.int (15 : Int32))] [(.int (F1 15))])) _
                                    refine XS.ifNo X72.here hx rfl (hb hby d5_14) rfl ((if0 _ _).trans (feq hc14_75).1) ?_
                                    show Steps p.tables e below (T72.setTop (mkF m 17 #[.val (.ref o0), .val (.int (15 : Int32))] [])) _
                                    refine XS.iinc X72.here hx rfl (hb hby d5_17) rfl (l' := #[.val (.ref o0), .val (.int (16 : Int32))]) rfl ?_
                                    show Steps p.tables e below (T72.setTop (mkF m 20 #[.val (.ref o0), .val (.int (16 : Int32))] [])) _
                                    refine XS.goto X72.here hx rfl (pc0 := 20) (pc' := 2) rfl (hb hby d5_20) (by decide) (by decide) ?_
                                    show Steps p.tables e below (T72.setTop (mkF m 2 #[.val (.ref o0), .val (.int (16 : Int32))] [])) _
                                    refine XS.iloadN X72.here hx rfl (hb hby d5_2) rfl ?_
                                    show Steps p.tables e below (T72.setTop (mkF m 3 #[.val (.ref o0), .val (.int (16 : Int32))] [(.int (16 : Int32))])) _
                                    refine XS.bipush X72.here hx rfl (hb hby d5_3) ?_
                                    exact kt)
                                obtain ⟨T77, X77, e77, st77⟩ := getF X72 hx hZ hown (host := "") (Or.inl (hw _ (List.mem_of_getElem? (i := 11) rfl))) Via.refl e72 F_open_o0 (g := (mkF m 9 #[.val (.ref o0), .val (.int (16 : Int32))] [(.ref o0)])) rfl rfl (hb hby d5_9)
                                obtain ⟨cl78, Ar78, Sz78, Nn78, Hs78⟩ := id V_r1
                                have hin78 : ¬ ((16 : Int32) < 0 ∨ cl78.slots.size ≤ ((16 : Int32)).toNatClampNeg) := inb_of Sz78 ⟨by decide, by decide⟩
                                have hat78 : cl78.slots[((16 : Int32)).toNatClampNeg]? = some (.int (F1 16)) := (Hs78 _ (own_lt hin78)).1
                                have pre79 : ∀ t, Steps p.tables e below (T77.setTop (mkF m 14 #[.val (.ref o0), .val (.int (16 : Int32))] [(.int (F1 16))])) t → Steps p.tables e below (s₁.setTop (entryFrame m #[(.ref o0)] 2)) t := fun t kt => pre76 t (by
                                    show Steps p.tables e below (T72.setTop (mkF m 5 #[.val (.ref o0), .val (.int (16 : Int32))] [(.int (20 : Int32)), (.int (16 : Int32))])) _
                                    refine XS.icmpNo X72.here hx rfl (hb hby d5_5) rfl (tlt (by decide : ((16 : Int32) < (20 : Int32)))).2.1 ?_
                                    show Steps p.tables e below (T72.setTop (mkF m 8 #[.val (.ref o0), .val (.int (16 : Int32))] [])) _
                                    refine XS.aloadN X72.here hx rfl (hb hby d5_8) rfl rfl ?_
                                    show Steps p.tables e below (T72.setTop (mkF m 9 #[.val (.ref o0), .val (.int (16 : Int32))] [(.ref o0)])) _
                                    refine st77 _ ?_
                                    show Steps p.tables e below (T77.setTop (mkF m 12 #[.val (.ref o0), .val (.int (16 : Int32))] [(.ref r1)])) _
                                    refine XS.iloadN X77.here hx rfl (hb hby d5_12) rfl ?_
                                    show Steps p.tables e below (T77.setTop (mkF m 13 #[.val (.ref o0), .val (.int (16 : Int32))] [(.int (16 : Int32)), (.ref r1)])) _
                                    refine X77.baloadBooleans hx (j := (16 : Int32)) (v := (.int (F1 16))) (by rw [e77]; exact Ar78.1) (State.isArrayOf_alike hZ.alike Ar78.2.1) Ar78.2.2 hin78 hat78 (g := (mkF m 13 #[.val (.ref o0), .val (.int (16 : Int32))] [(.int (16 : Int32)), (.ref r1)])) rfl rfl (hb hby d5_13) _ ?_
                                    exact kt)
                                by_cases hc14_80 : (F1 16) = (0 : Int32)
                                · obtain ⟨fs, hr, hrun, hended, hW, hsame⟩ := X77.leave (v := some (.int (16 : Int32))) (fun h => by rw [Bd.returns] at h; cases h)
                                  have hv112 : (f5 F1) = (16 : Int32) := by rw [f5, if_neg hc14_5, if_neg hc14_10, if_neg hc14_15, if_neg hc14_20, if_neg hc14_25, if_neg hc14_30, if_neg hc14_35, if_neg hc14_40, if_neg hc14_45, if_neg hc14_50, if_neg hc14_55, if_neg hc14_60, if_neg hc14_65, if_neg hc14_70, if_neg hc14_75, if_pos hc14_80]
                                  refine ⟨_, _, pre79 _ ?_, hrun, hended, _, _, rfl, ?_, ⟨_, rfl⟩, hW, hsame.mono (by decide) (by decide)⟩
                                  · show Steps p.tables e below (T77.setTop (mkF m 14 #[.val (.ref o0), .val (.int (16 : Int32))] [(.int (F1 16))])) _
                                    refine XS.ifYes X77.here hx rfl (pc0 := 14) (pc' := 23) rfl (hb hby d5_14) rfl ((if0 _ _).trans (teq hc14_80).1) (by decide) (by decide) ?_
                                    show Steps p.tables e below (T77.setTop (mkF m 23 #[.val (.ref o0), .val (.int (16 : Int32))] [])) _
                                    refine XS.iloadN X77.here hx rfl (hb hby d5_23) rfl ?_
                                    show Steps p.tables e below (T77.setTop (mkF m 24 #[.val (.ref o0), .val (.int (16 : Int32))] [(.int (16 : Int32))])) _
                                    exact retI X77 hx Bd.returns (hb hby d5_24) hr
                                  · show Q5 Z o0 r1 F1 h0 n0 _ T77.heap _
                                    rw [e77]
                                    exact ⟨congrArg (fun q => some (Value.int q)) hv112.symm, N0, rfl⟩
                                · have pre81 : ∀ t, Steps p.tables e below (T77.setTop (mkF m 5 #[.val (.ref o0), .val (.int (17 : Int32))] [(.int (20 : Int32)), (.int (17 : Int32))])) t → Steps p.tables e below (s₁.setTop (entryFrame m #[(.ref o0)] 2)) t := fun t kt => pre79 t (by
                                      show Steps p.tables e below (T77.setTop (mkF m 14 #[.val (.ref o0), .val (.int (16 : Int32))] [(.int (F1 16))])) _
                                      refine XS.ifNo X77.here hx rfl (hb hby d5_14) rfl ((if0 _ _).trans (feq hc14_80).1) ?_
                                      show Steps p.tables e below (T77.setTop (mkF m 17 #[.val (.ref o0), .val (.int (16 : Int32))] [])) _
                                      refine XS.iinc X77.here hx rfl (hb hby d5_17) rfl (l' := #[.val (.ref o0), .val (.int (17 : Int32))]) rfl ?_
                                      show Steps p.tables e below (T77.setTop (mkF m 20 #[.val (.ref o0), .val (.int (17 : Int32))] [])) _
                                      refine XS.goto X77.here hx rfl (pc0 := 20) (pc' := 2) rfl (hb hby d5_20) (by decide) (by decide) ?_
                                      show Steps p.tables e below (T77.setTop (mkF m 2 #[.val (.ref o0), .val (.int (17 : Int32))] [])) _
                                      refine XS.iloadN X77.here hx rfl (hb hby d5_2) rfl ?_
                                      show Steps p.tables e below (T77.setTop (mkF m 3 #[.val (.ref o0), .val (.int (17 : Int32))] [(.int (17 : Int32))])) _
                                      refine XS.bipush X77.here hx rfl (hb hby d5_3) ?_
                                      exact kt)
                                  obtain ⟨T82, X82, e82, st82⟩ := getF X77 hx hZ hown (host := "") (Or.inl (hw _ (List.mem_of_getElem? (i := 11) rfl))) Via.refl e77 F_open_o0 (g := (mkF m 9 #[.val (.ref o0), .val (.int (17 : Int32))] [(.ref o0)])) rfl rfl (hb hby d5_9)
                                  obtain ⟨cl83, Ar83, Sz83, Nn83, Hs83⟩ := id V_r1
                                  have hin83 : ¬ ((17 : Int32) < 0 ∨ cl83.slots.size ≤ ((17 : Int32)).toNatClampNeg) := inb_of Sz83 ⟨by decide, by decide⟩
                                  have hat83 : cl83.slots[((17 : Int32)).toNatClampNeg]? = some (.int (F1 17)) := (Hs83 _ (own_lt hin83)).1
                                  have pre84 : ∀ t, Steps p.tables e below (T82.setTop (mkF m 14 #[.val (.ref o0), .val (.int (17 : Int32))] [(.int (F1 17))])) t → Steps p.tables e below (s₁.setTop (entryFrame m #[(.ref o0)] 2)) t := fun t kt => pre81 t (by
                                      show Steps p.tables e below (T77.setTop (mkF m 5 #[.val (.ref o0), .val (.int (17 : Int32))] [(.int (20 : Int32)), (.int (17 : Int32))])) _
                                      refine XS.icmpNo X77.here hx rfl (hb hby d5_5) rfl (tlt (by decide : ((17 : Int32) < (20 : Int32)))).2.1 ?_
                                      show Steps p.tables e below (T77.setTop (mkF m 8 #[.val (.ref o0), .val (.int (17 : Int32))] [])) _
                                      refine XS.aloadN X77.here hx rfl (hb hby d5_8) rfl rfl ?_
                                      show Steps p.tables e below (T77.setTop (mkF m 9 #[.val (.ref o0), .val (.int (17 : Int32))] [(.ref o0)])) _
                                      refine st82 _ ?_
                                      show Steps p.tables e below (T82.setTop (mkF m 12 #[.val (.ref o0), .val (.int (17 : Int32))] [(.ref r1)])) _
                                      refine XS.iloadN X82.here hx rfl (hb hby d5_12) rfl ?_
                                      show Steps p.tables e below (T82.setTop (mkF m 13 #[.val (.ref o0), .val (.int (17 : Int32))] [(.int (17 : Int32)), (.ref r1)])) _
                                      refine X82.baloadBooleans hx (j := (17 : Int32)) (v := (.int (F1 17))) (by rw [e82]; exact Ar83.1) (State.isArrayOf_alike hZ.alike Ar83.2.1) Ar83.2.2 hin83 hat83 (g := (mkF m 13 #[.val (.ref o0), .val (.int (17 : Int32))] [(.int (17 : Int32)), (.ref r1)])) rfl rfl (hb hby d5_13) _ ?_
                                      exact kt)
                                  by_cases hc14_85 : (F1 17) = (0 : Int32)
                                  · obtain ⟨fs, hr, hrun, hended, hW, hsame⟩ := X82.leave (v := some (.int (17 : Int32))) (fun h => by rw [Bd.returns] at h; cases h)
                                    have hv113 : (f5 F1) = (17 : Int32) := by rw [f5, if_neg hc14_5, if_neg hc14_10, if_neg hc14_15, if_neg hc14_20, if_neg hc14_25, if_neg hc14_30, if_neg hc14_35, if_neg hc14_40, if_neg hc14_45, if_neg hc14_50, if_neg hc14_55, if_neg hc14_60, if_neg hc14_65, if_neg hc14_70, if_neg hc14_75, if_neg hc14_80, if_pos hc14_85]
                                    refine ⟨_, _, pre84 _ ?_, hrun, hended, _, _, rfl, ?_, ⟨_, rfl⟩, hW, hsame.mono (by decide) (by decide)⟩
                                    · show Steps p.tables e below (T82.setTop (mkF m 14 #[.val (.ref o0), .val (.int (17 : Int32))] [(.int (F1 17))])) _
                                      refine XS.ifYes X82.here hx rfl (pc0 := 14) (pc' := 23) rfl (hb hby d5_14) rfl ((if0 _ _).trans (teq hc14_85).1) (by decide) (by decide) ?_
                                      show Steps p.tables e below (T82.setTop (mkF m 23 #[.val (.ref o0), .val (.int (17 : Int32))] [])) _
                                      refine XS.iloadN X82.here hx rfl (hb hby d5_23) rfl ?_
                                      show Steps p.tables e below (T82.setTop (mkF m 24 #[.val (.ref o0), .val (.int (17 : Int32))] [(.int (17 : Int32))])) _
                                      exact retI X82 hx Bd.returns (hb hby d5_24) hr
                                    · show Q5 Z o0 r1 F1 h0 n0 _ T82.heap _
                                      rw [e82]
                                      exact ⟨congrArg (fun q => some (Value.int q)) hv113.symm, N0, rfl⟩
                                  · have pre86 : ∀ t, Steps p.tables e below (T82.setTop (mkF m 5 #[.val (.ref o0), .val (.int (18 : Int32))] [(.int (20 : Int32)), (.int (18 : Int32))])) t → Steps p.tables e below (s₁.setTop (entryFrame m #[(.ref o0)] 2)) t := fun t kt => pre84 t (by
                                        show Steps p.tables e below (T82.setTop (mkF m 14 #[.val (.ref o0), .val (.int (17 : Int32))] [(.int (F1 17))])) _
                                        refine XS.ifNo X82.here hx rfl (hb hby d5_14) rfl ((if0 _ _).trans (feq hc14_85).1) ?_
                                        show Steps p.tables e below (T82.setTop (mkF m 17 #[.val (.ref o0), .val (.int (17 : Int32))] [])) _
                                        refine XS.iinc X82.here hx rfl (hb hby d5_17) rfl (l' := #[.val (.ref o0), .val (.int (18 : Int32))]) rfl ?_
                                        show Steps p.tables e below (T82.setTop (mkF m 20 #[.val (.ref o0), .val (.int (18 : Int32))] [])) _
                                        refine XS.goto X82.here hx rfl (pc0 := 20) (pc' := 2) rfl (hb hby d5_20) (by decide) (by decide) ?_
                                        show Steps p.tables e below (T82.setTop (mkF m 2 #[.val (.ref o0), .val (.int (18 : Int32))] [])) _
                                        refine XS.iloadN X82.here hx rfl (hb hby d5_2) rfl ?_
                                        show Steps p.tables e below (T82.setTop (mkF m 3 #[.val (.ref o0), .val (.int (18 : Int32))] [(.int (18 : Int32))])) _
                                        refine XS.bipush X82.here hx rfl (hb hby d5_3) ?_
                                        exact kt)
                                    obtain ⟨T87, X87, e87, st87⟩ := getF X82 hx hZ hown (host := "") (Or.inl (hw _ (List.mem_of_getElem? (i := 11) rfl))) Via.refl e82 F_open_o0 (g := (mkF m 9 #[.val (.ref o0), .val (.int (18 : Int32))] [(.ref o0)])) rfl rfl (hb hby d5_9)
                                    obtain ⟨cl88, Ar88, Sz88, Nn88, Hs88⟩ := id V_r1
                                    have hin88 : ¬ ((18 : Int32) < 0 ∨ cl88.slots.size ≤ ((18 : Int32)).toNatClampNeg) := inb_of Sz88 ⟨by decide, by decide⟩
                                    have hat88 : cl88.slots[((18 : Int32)).toNatClampNeg]? = some (.int (F1 18)) := (Hs88 _ (own_lt hin88)).1
                                    have pre89 : ∀ t, Steps p.tables e below (T87.setTop (mkF m 14 #[.val (.ref o0), .val (.int (18 : Int32))] [(.int (F1 18))])) t → Steps p.tables e below (s₁.setTop (entryFrame m #[(.ref o0)] 2)) t := fun t kt => pre86 t (by
                                        show Steps p.tables e below (T82.setTop (mkF m 5 #[.val (.ref o0), .val (.int (18 : Int32))] [(.int (20 : Int32)), (.int (18 : Int32))])) _
                                        refine XS.icmpNo X82.here hx rfl (hb hby d5_5) rfl (tlt (by decide : ((18 : Int32) < (20 : Int32)))).2.1 ?_
                                        show Steps p.tables e below (T82.setTop (mkF m 8 #[.val (.ref o0), .val (.int (18 : Int32))] [])) _
                                        refine XS.aloadN X82.here hx rfl (hb hby d5_8) rfl rfl ?_
                                        show Steps p.tables e below (T82.setTop (mkF m 9 #[.val (.ref o0), .val (.int (18 : Int32))] [(.ref o0)])) _
                                        refine st87 _ ?_
                                        show Steps p.tables e below (T87.setTop (mkF m 12 #[.val (.ref o0), .val (.int (18 : Int32))] [(.ref r1)])) _
                                        refine XS.iloadN X87.here hx rfl (hb hby d5_12) rfl ?_
                                        show Steps p.tables e below (T87.setTop (mkF m 13 #[.val (.ref o0), .val (.int (18 : Int32))] [(.int (18 : Int32)), (.ref r1)])) _
                                        refine X87.baloadBooleans hx (j := (18 : Int32)) (v := (.int (F1 18))) (by rw [e87]; exact Ar88.1) (State.isArrayOf_alike hZ.alike Ar88.2.1) Ar88.2.2 hin88 hat88 (g := (mkF m 13 #[.val (.ref o0), .val (.int (18 : Int32))] [(.int (18 : Int32)), (.ref r1)])) rfl rfl (hb hby d5_13) _ ?_
                                        exact kt)
                                    by_cases hc14_90 : (F1 18) = (0 : Int32)
                                    · obtain ⟨fs, hr, hrun, hended, hW, hsame⟩ := X87.leave (v := some (.int (18 : Int32))) (fun h => by rw [Bd.returns] at h; cases h)
                                      have hv114 : (f5 F1) = (18 : Int32) := by rw [f5, if_neg hc14_5, if_neg hc14_10, if_neg hc14_15, if_neg hc14_20, if_neg hc14_25, if_neg hc14_30, if_neg hc14_35, if_neg hc14_40, if_neg hc14_45, if_neg hc14_50, if_neg hc14_55, if_neg hc14_60, if_neg hc14_65, if_neg hc14_70, if_neg hc14_75, if_neg hc14_80, if_neg hc14_85, if_pos hc14_90]
                                      refine ⟨_, _, pre89 _ ?_, hrun, hended, _, _, rfl, ?_, ⟨_, rfl⟩, hW, hsame.mono (by decide) (by decide)⟩
                                      · show Steps p.tables e below (T87.setTop (mkF m 14 #[.val (.ref o0), .val (.int (18 : Int32))] [(.int (F1 18))])) _
                                        refine XS.ifYes X87.here hx rfl (pc0 := 14) (pc' := 23) rfl (hb hby d5_14) rfl ((if0 _ _).trans (teq hc14_90).1) (by decide) (by decide) ?_
                                        show Steps p.tables e below (T87.setTop (mkF m 23 #[.val (.ref o0), .val (.int (18 : Int32))] [])) _
                                        refine XS.iloadN X87.here hx rfl (hb hby d5_23) rfl ?_
                                        show Steps p.tables e below (T87.setTop (mkF m 24 #[.val (.ref o0), .val (.int (18 : Int32))] [(.int (18 : Int32))])) _
                                        exact retI X87 hx Bd.returns (hb hby d5_24) hr
                                      · show Q5 Z o0 r1 F1 h0 n0 _ T87.heap _
                                        rw [e87]
                                        exact ⟨congrArg (fun q => some (Value.int q)) hv114.symm, N0, rfl⟩
                                    · have pre91 : ∀ t, Steps p.tables e below (T87.setTop (mkF m 5 #[.val (.ref o0), .val (.int (19 : Int32))] [(.int (20 : Int32)), (.int (19 : Int32))])) t → Steps p.tables e below (s₁.setTop (entryFrame m #[(.ref o0)] 2)) t := fun t kt => pre89 t (by
                                          show Steps p.tables e below (T87.setTop (mkF m 14 #[.val (.ref o0), .val (.int (18 : Int32))] [(.int (F1 18))])) _
                                          refine XS.ifNo X87.here hx rfl (hb hby d5_14) rfl ((if0 _ _).trans (feq hc14_90).1) ?_
                                          show Steps p.tables e below (T87.setTop (mkF m 17 #[.val (.ref o0), .val (.int (18 : Int32))] [])) _
                                          refine XS.iinc X87.here hx rfl (hb hby d5_17) rfl (l' := #[.val (.ref o0), .val (.int (19 : Int32))]) rfl ?_
                                          show Steps p.tables e below (T87.setTop (mkF m 20 #[.val (.ref o0), .val (.int (19 : Int32))] [])) _
                                          refine XS.goto X87.here hx rfl (pc0 := 20) (pc' := 2) rfl (hb hby d5_20) (by decide) (by decide) ?_
                                          show Steps p.tables e below (T87.setTop (mkF m 2 #[.val (.ref o0), .val (.int (19 : Int32))] [])) _
                                          refine XS.iloadN X87.here hx rfl (hb hby d5_2) rfl ?_
                                          show Steps p.tables e below (T87.setTop (mkF m 3 #[.val (.ref o0), .val (.int (19 : Int32))] [(.int (19 : Int32))])) _
                                          refine XS.bipush X87.here hx rfl (hb hby d5_3) ?_
                                          exact kt)
                                      obtain ⟨T92, X92, e92, st92⟩ := getF X87 hx hZ hown (host := "") (Or.inl (hw _ (List.mem_of_getElem? (i := 11) rfl))) Via.refl e87 F_open_o0 (g := (mkF m 9 #[.val (.ref o0), .val (.int (19 : Int32))] [(.ref o0)])) rfl rfl (hb hby d5_9)
                                      obtain ⟨cl93, Ar93, Sz93, Nn93, Hs93⟩ := id V_r1
                                      have hin93 : ¬ ((19 : Int32) < 0 ∨ cl93.slots.size ≤ ((19 : Int32)).toNatClampNeg) := inb_of Sz93 ⟨by decide, by decide⟩
                                      have hat93 : cl93.slots[((19 : Int32)).toNatClampNeg]? = some (.int (F1 19)) := (Hs93 _ (own_lt hin93)).1
                                      have pre94 : ∀ t, Steps p.tables e below (T92.setTop (mkF m 14 #[.val (.ref o0), .val (.int (19 : Int32))] [(.int (F1 19))])) t → Steps p.tables e below (s₁.setTop (entryFrame m #[(.ref o0)] 2)) t := fun t kt => pre91 t (by
                                          show Steps p.tables e below (T87.setTop (mkF m 5 #[.val (.ref o0), .val (.int (19 : Int32))] [(.int (20 : Int32)), (.int (19 : Int32))])) _
                                          refine XS.icmpNo X87.here hx rfl (hb hby d5_5) rfl (tlt (by decide : ((19 : Int32) < (20 : Int32)))).2.1 ?_
                                          show Steps p.tables e below (T87.setTop (mkF m 8 #[.val (.ref o0), .val (.int (19 : Int32))] [])) _
                                          refine XS.aloadN X87.here hx rfl (hb hby d5_8) rfl rfl ?_
                                          show Steps p.tables e below (T87.setTop (mkF m 9 #[.val (.ref o0), .val (.int (19 : Int32))] [(.ref o0)])) _
                                          refine st92 _ ?_
                                          show Steps p.tables e below (T92.setTop (mkF m 12 #[.val (.ref o0), .val (.int (19 : Int32))] [(.ref r1)])) _
                                          refine XS.iloadN X92.here hx rfl (hb hby d5_12) rfl ?_
                                          show Steps p.tables e below (T92.setTop (mkF m 13 #[.val (.ref o0), .val (.int (19 : Int32))] [(.int (19 : Int32)), (.ref r1)])) _
                                          refine X92.baloadBooleans hx (j := (19 : Int32)) (v := (.int (F1 19))) (by rw [e92]; exact Ar93.1) (State.isArrayOf_alike hZ.alike Ar93.2.1) Ar93.2.2 hin93 hat93 (g := (mkF m 13 #[.val (.ref o0), .val (.int (19 : Int32))] [(.int (19 : Int32)), (.ref r1)])) rfl rfl (hb hby d5_13) _ ?_
                                          exact kt)
                                      by_cases hc14_95 : (F1 19) = (0 : Int32)
                                      · obtain ⟨fs, hr, hrun, hended, hW, hsame⟩ := X92.leave (v := some (.int (19 : Int32))) (fun h => by rw [Bd.returns] at h; cases h)
                                        have hv115 : (f5 F1) = (19 : Int32) := by rw [f5, if_neg hc14_5, if_neg hc14_10, if_neg hc14_15, if_neg hc14_20, if_neg hc14_25, if_neg hc14_30, if_neg hc14_35, if_neg hc14_40, if_neg hc14_45, if_neg hc14_50, if_neg hc14_55, if_neg hc14_60, if_neg hc14_65, if_neg hc14_70, if_neg hc14_75, if_neg hc14_80, if_neg hc14_85, if_neg hc14_90, if_pos hc14_95]
                                        refine ⟨_, _, pre94 _ ?_, hrun, hended, _, _, rfl, ?_, ⟨_, rfl⟩, hW, hsame.mono (by decide) (by decide)⟩
                                        · show Steps p.tables e below (T92.setTop (mkF m 14 #[.val (.ref o0), .val (.int (19 : Int32))] [(.int (F1 19))])) _
                                          refine XS.ifYes X92.here hx rfl (pc0 := 14) (pc' := 23) rfl (hb hby d5_14) rfl ((if0 _ _).trans (teq hc14_95).1) (by decide) (by decide) ?_
                                          show Steps p.tables e below (T92.setTop (mkF m 23 #[.val (.ref o0), .val (.int (19 : Int32))] [])) _
                                          refine XS.iloadN X92.here hx rfl (hb hby d5_23) rfl ?_
                                          show Steps p.tables e below (T92.setTop (mkF m 24 #[.val (.ref o0), .val (.int (19 : Int32))] [(.int (19 : Int32))])) _
                                          exact retI X92 hx Bd.returns (hb hby d5_24) hr
                                        · show Q5 Z o0 r1 F1 h0 n0 _ T92.heap _
                                          rw [e92]
                                          exact ⟨congrArg (fun q => some (Value.int q)) hv115.symm, N0, rfl⟩
                                      · have pre96 : ∀ t, Steps p.tables e below (T92.setTop (mkF m 5 #[.val (.ref o0), .val (.int (20 : Int32))] [(.int (20 : Int32)), (.int (20 : Int32))])) t → Steps p.tables e below (s₁.setTop (entryFrame m #[(.ref o0)] 2)) t := fun t kt => pre94 t (by
                                            show Steps p.tables e below (T92.setTop (mkF m 14 #[.val (.ref o0), .val (.int (19 : Int32))] [(.int (F1 19))])) _
                                            refine XS.ifNo X92.here hx rfl (hb hby d5_14) rfl ((if0 _ _).trans (feq hc14_95).1) ?_
                                            show Steps p.tables e below (T92.setTop (mkF m 17 #[.val (.ref o0), .val (.int (19 : Int32))] [])) _
                                            refine XS.iinc X92.here hx rfl (hb hby d5_17) rfl (l' := #[.val (.ref o0), .val (.int (20 : Int32))]) rfl ?_
                                            show Steps p.tables e below (T92.setTop (mkF m 20 #[.val (.ref o0), .val (.int (20 : Int32))] [])) _
                                            refine XS.goto X92.here hx rfl (pc0 := 20) (pc' := 2) rfl (hb hby d5_20) (by decide) (by decide) ?_
                                            show Steps p.tables e below (T92.setTop (mkF m 2 #[.val (.ref o0), .val (.int (20 : Int32))] [])) _
                                            refine XS.iloadN X92.here hx rfl (hb hby d5_2) rfl ?_
                                            show Steps p.tables e below (T92.setTop (mkF m 3 #[.val (.ref o0), .val (.int (20 : Int32))] [(.int (20 : Int32))])) _
                                            refine XS.bipush X92.here hx rfl (hb hby d5_3) ?_
                                            exact kt)
                                        obtain ⟨fs, hr, hrun, hended, hW, hsame⟩ := X92.leave (v := some (.int (20 : Int32))) (fun h => by rw [Bd.returns] at h; cases h)
                                        have hv116 : (f5 F1) = (20 : Int32) := by rw [f5, if_neg hc14_5, if_neg hc14_10, if_neg hc14_15, if_neg hc14_20, if_neg hc14_25, if_neg hc14_30, if_neg hc14_35, if_neg hc14_40, if_neg hc14_45, if_neg hc14_50, if_neg hc14_55, if_neg hc14_60, if_neg hc14_65, if_neg hc14_70, if_neg hc14_75, if_neg hc14_80, if_neg hc14_85, if_neg hc14_90, if_neg hc14_95]
                                        refine ⟨_, _, pre96 _ ?_, hrun, hended, _, _, rfl, ?_, ⟨_, rfl⟩, hW, hsame.mono (by decide) (by decide)⟩
                                        · show Steps p.tables e below (T92.setTop (mkF m 5 #[.val (.ref o0), .val (.int (20 : Int32))] [(.int (20 : Int32)), (.int (20 : Int32))])) _
                                          refine XS.icmpYes X92.here hx rfl (pc0 := 5) (pc' := 23) rfl (hb hby d5_5) rfl (flt (by decide : ¬ ((20 : Int32) < (20 : Int32)))).2.1 (by decide) (by decide) ?_
                                          show Steps p.tables e below (T92.setTop (mkF m 23 #[.val (.ref o0), .val (.int (20 : Int32))] [])) _
                                          refine XS.iloadN X92.here hx rfl (hb hby d5_23) rfl ?_
                                          show Steps p.tables e below (T92.setTop (mkF m 24 #[.val (.ref o0), .val (.int (20 : Int32))] [(.int (20 : Int32))])) _
                                          exact retI X92 hx Bd.returns (hb hby d5_24) hr
                                        · show Q5 Z o0 r1 F1 h0 n0 _ T92.heap _
                                          rw [e92]
                                          exact ⟨congrArg (fun q => some (Value.int q)) hv116.symm, N0, rfl⟩
theorem d6_0 : decode prog_4_method_5_code 0 = .ok (.aload_n 0, 1) := by decide +kernel
theorem d6_1 : decode prog_4_method_5_code 1 = .ok (.getfield 9, 3) := by decide +kernel
theorem d6_4 : decode prog_4_method_5_code 4 = .ok (.iload_n 1, 1) := by decide +kernel
theorem d6_5 : decode prog_4_method_5_code 5 = .ok (.iconst 0, 1) := by decide +kernel
theorem d6_6 : decode prog_4_method_5_code 6 = .ok (.bastore, 1) := by decide +kernel
theorem d6_7 : decode prog_4_method_5_code 7 = .ok (.return_, 1) := by decide +kernel
theorem pn_6 : plainName "com/example/cardhost/cardhost/LogicalChannels" = true := by first | (simp [plainName, overriddenIn]; done) | decide +kernel
theorem ef_6 (m : MethodId) (x0 : Addr) (x1 : Int32) : entryFrame m #[(.ref x0), (.int x1)] 2 = mkF m 0 #[.val (.ref x0), .val (.int x1)] [] := by first | (simp [entryFrame, mkF, argsToLocals, Value.category]; done) | rfl
def Q6 (Z : State) (o0 : Addr) (p1 : Int32) (r1 : Addr) (F1 : Nat → Int32) (h0 : Heap) (n0 : Nat) (v : Option Value) (h : Heap) (L : List Loc) : Prop := v = none ∧ Fr n0 L ∧ Keep h0 h [r1] ∧ own_AI Z h r1 .boolean (20 : Int32) (own_upd F1 (p1).toNatClampNeg (0 : Int32))
set_option maxRecDepth 65536 in
set_option maxHeartbeats 40000000 in
theorem rm6 (l : Launch) (Z : State) (a0 : Array Value) (hw : ∀ d ∈ tables_1, d.before a0 Z = true) (ws : List Jvm.Cond) (o0 : Addr) (p1 : Int32) (r1 : Addr) (F1 : Nat → Int32) (h0 : Heap) (n0 : Nat) (Z0 : n0 ≤ h0.size) (F_open_o0 : Fld Z h0 o0 "com/example/cardhost/cardhost/LogicalChannels" "open" "[Z" (.ref r1)) (V_r1 : own_AI Z h0 r1 .boolean (20 : Int32) F1) (g_r1 : n0 ≤ r1) (hbd : ¬ p1 < 0 ∧ p1 < (20 : Int32)) :
    MetFree l (⟨"com/example/cardhost/cardhost/LogicalChannels", "close", "(I)V"⟩ : MethodName) (head1 (Jvm.Cond.code (⟨"com/example/cardhost/cardhost/LogicalChannels", "close", "(I)V"⟩ : MethodName) prog_4_method_5_code 2 none :: ws) ({ frames := 0, cells := 0, slots := 0, locals := 0 } : Room)) (fun a U => a = #[(.ref o0), (.int p1)] ∧ Z.Warmed39 U.vm ∧ U.heap = h0) (fun _ _ _ _ _ => True) (fun _ U o U' => ∃ v L, o = .returned v ∧ Q6 Z o0 p1 r1 F1 h0 n0 v U'.heap L ∧ FrameEnd U o U' L ({ frames := 0, cells := 0, slots := 0, locals := 0 } : Room).cells ({ frames := 0, cells := 0, slots := 0, locals := 0 } : Room).slots) := by
  refine MetFree.of_bodySF (plainFor_of_name pn_6) hisR ?_
  intro p e s m args below meth c s₁ Bd hml0 hP hK
  obtain ⟨rfl, hZ, hh⟩ := hP
  have hx := Bd.exec
  have hby := Bd.bytes
  have hml : c.maxLocals = 2 := hml0
  have hown : s.vm.findClass "com/example/cardhost/cardhost/LogicalChannels" = some m.cls := findClass_of_methodNamed Bd.named
  have hnm := (name_of_methodNamed Bd.named Bd.method).1
  have X0 : Stand p l e ({ frames := 0, cells := 0, slots := 0, locals := 0 } : Room) s m #[(.ref o0), (.int p1)] below meth c s₁ [] 0 0 := Stand.of_body Bd
  have e0 : s₁.heap = h0 := by rw [← hh, Bd.state]; rfl
  have N0 := Fr.nil n0
  have pre0 : ∀ t, Steps p.tables e below (s₁.setTop (mkF m 0 #[.val (.ref o0), .val (.int p1)] [])) t → Steps p.tables e below (s₁.setTop (entryFrame m #[(.ref o0), (.int p1)] 2)) t := fun t k => castTop (ef_6 m o0 p1) k
  obtain ⟨T1, X1, e1, st1⟩ := getF X0 hx hZ hown (host := "") (Or.inl (hw _ (List.mem_of_getElem? (i := 11) rfl))) Via.refl e0 F_open_o0 (g := (mkF m 1 #[.val (.ref o0), .val (.int p1)] [(.ref o0)])) rfl rfl (hb hby d6_1)
  obtain ⟨cl2, Ar2, Sz2, Nn2, Hs2⟩ := id V_r1
  have hin2 : ¬ (p1 < 0 ∨ cl2.slots.size ≤ (p1).toNatClampNeg) := inb_of Sz2 hbd
  obtain ⟨T3, h3, X3, e3, W3, st3⟩ := stZ X1 hx hZ e1 Ar2 (j := p1) hin2 (g := (mkF m 6 #[.val (.ref o0), .val (.int p1)] [(.int (0 : Int32)), (.int p1), (.ref r1)])) rfl rfl (hb hby d6_6)
  have V3 : own_AI Z h3 r1 .boolean (20 : Int32) (own_upd F1 (p1).toNatClampNeg (0 : Int32)) := own_AI.set V_r1 (fits_nar_bool (0 : Int32)) W3
  have K4 : Keep h0 h3 [r1] := (Keep.refl h0 [r1]).wr W3 (Or.inl (List.mem_of_getElem? (i := 0) rfl))
  have Z5 : n0 ≤ h3.size := Nat.le_trans Z0 K4.1
  have N3 := Fr.snoc X3 N0 g_r1
  obtain ⟨LS3, X3, N3⟩ : ∃ L, Stand p l e ({ frames := 0, cells := 0, slots := 0, locals := 0 } : Room) s m #[(.ref o0), (.int p1)] below meth c T3 L 0 0 ∧ Fr n0 L := ⟨_, X3, N3⟩
  obtain ⟨fs, hr, hrun, hended, hW, hsame⟩ := X3.leave (v := none) (fun _ => rfl)
  refine ⟨_, _, pre0 _ ?_, hrun, hended, _, _, rfl, ?_, ⟨_, rfl⟩, hW, hsame.mono (by decide) (by decide)⟩
  · show Steps p.tables e below (s₁.setTop (mkF m 0 #[.val (.ref o0), .val (.int p1)] [])) _
    refine XS.aloadN X0.here hx rfl (hb hby d6_0) rfl rfl ?_
    show Steps p.tables e below (s₁.setTop (mkF m 1 #[.val (.ref o0), .val (.int p1)] [(.ref o0)])) _
    refine st1 _ ?_
    show Steps p.tables e below (T1.setTop (mkF m 4 #[.val (.ref o0), .val (.int p1)] [(.ref r1)])) _
    refine XS.iloadN X1.here hx rfl (hb hby d6_4) rfl ?_
    show Steps p.tables e below (T1.setTop (mkF m 5 #[.val (.ref o0), .val (.int p1)] [(.int p1), (.ref r1)])) _
    refine XS.iconst X1.here hx rfl (hb hby d6_5) ?_
    show Steps p.tables e below (T1.setTop (mkF m 6 #[.val (.ref o0), .val (.int p1)] [(.int (0 : Int32)), (.int p1), (.ref r1)])) _
    refine st3 _ ?_
    show Steps p.tables e below (T3.setTop (mkF m 7 #[.val (.ref o0), .val (.int p1)] [])) _
    exact X3.returnOut hx Bd.returns (hb hby d6_7) hr
  · show Q6 Z o0 p1 r1 F1 h0 n0 _ T3.heap _
    rw [e3]
    exact ⟨rfl, N3, K4, V3⟩
theorem d7_0 : decode jdk_29_method_69_code 0 = .ok (.iload_n 0, 1) := by decide +kernel
theorem d7_1 : decode jdk_29_method_69_code 1 = .ok (.iload_n 1, 1) := by decide +kernel
theorem d7_2 : decode jdk_29_method_69_code 2 = .ok (.if_icmp .gt 7, 3) := by decide +kernel
theorem d7_5 : decode jdk_29_method_69_code 5 = .ok (.iload_n 0, 1) := by decide +kernel
theorem d7_6 : decode jdk_29_method_69_code 6 = .ok (.goto 4, 3) := by decide +kernel
theorem d7_9 : decode jdk_29_method_69_code 9 = .ok (.iload_n 1, 1) := by decide +kernel
theorem d7_10 : decode jdk_29_method_69_code 10 = .ok (.ireturn, 1) := by decide +kernel
theorem ef_7 (m : MethodId) (x0 : Int32) (x1 : Int32) : entryFrame m #[(.int x0), (.int x1)] 2 = mkF m 0 #[.val (.int x0), .val (.int x1)] [] := by first | (simp [entryFrame, mkF, argsToLocals, Value.category]; done) | rfl
def f7 (p0 : Int32) (p1 : Int32) : Int32 :=
  if p1 < p0 then (p1) else
  (p0)
def Q7 (Z : State) (p0 : Int32) (p1 : Int32) (h0 : Heap) (n0 : Nat) (v : Option Value) (h : Heap) (L : List Loc) : Prop := v = some (.int (f7 p0 p1)) ∧ Fr n0 L ∧ h = h0
set_option maxRecDepth 65536 in
set_option maxHeartbeats 40000000 in
theorem rm7 (l : Launch) (Z : State) (a0 : Array Value) (hw : ∀ d ∈ tables_1, d.before a0 Z = true) (ws : List Jvm.Cond) (p0 : Int32) (p1 : Int32) (h0 : Heap) (n0 : Nat) (Z0 : n0 ≤ h0.size) :
    MetFree l (⟨"java/lang/Math", "min", "(II)I"⟩ : MethodName) (head1 (Jvm.Cond.code (⟨"java/lang/Math", "min", "(II)I"⟩ : MethodName) jdk_29_method_69_code 2 (some .int) :: ws) ({ frames := 0, cells := 0, slots := 0, locals := 0 } : Room)) (fun a U => a = #[(.int p0), (.int p1)] ∧ Z.Warmed39 U.vm ∧ U.heap = h0) (fun _ _ _ _ _ => True) (fun _ U o U' => ∃ v L, o = .returned v ∧ Q7 Z p0 p1 h0 n0 v U'.heap L ∧ FrameEnd U o U' L ({ frames := 0, cells := 0, slots := 0, locals := 0 } : Room).cells ({ frames := 0, cells := 0, slots := 0, locals := 0 } : Room).slots) := by
  refine MetFree.of_bodySF (Jvm.Free.JP.mathPlain rfl (by decide +kernel)) hisR ?_
  intro p e s m args below meth c s₁ Bd hml0 hP hK
  obtain ⟨rfl, hZ, hh⟩ := hP
  have hx := Bd.exec
  have hby := Bd.bytes
  have hml : c.maxLocals = 2 := hml0
  have hown : s.vm.findClass "java/lang/Math" = some m.cls := findClass_of_methodNamed Bd.named
  have hnm := (name_of_methodNamed Bd.named Bd.method).1
  have X0 : Stand p l e ({ frames := 0, cells := 0, slots := 0, locals := 0 } : Room) s m #[(.int p0), (.int p1)] below meth c s₁ [] 0 0 := Stand.of_body Bd
  have e0 : s₁.heap = h0 := by rw [← hh, Bd.state]; rfl
  have N0 := Fr.nil n0
  have pre0 : ∀ t, Steps p.tables e below (s₁.setTop (mkF m 0 #[.val (.int p0), .val (.int p1)] [])) t → Steps p.tables e below (s₁.setTop (entryFrame m #[(.int p0), (.int p1)] 2)) t := fun t k => castTop (ef_7 m p0 p1) k
  have pre1 : ∀ t, Steps p.tables e below (s₁.setTop (mkF m 2 #[.val (.int p0), .val (.int p1)] [(.int p1), (.int p0)])) t → Steps p.tables e below (s₁.setTop (entryFrame m #[(.int p0), (.int p1)] 2)) t := fun t kt => pre0 t (by
      show Steps p.tables e below (s₁.setTop (mkF m 0 #[.val (.int p0), .val (.int p1)] [])) _
      refine XS.iloadN X0.here hx rfl (hb hby d7_0) rfl ?_
      show Steps p.tables e below (s₁.setTop (mkF m 1 #[.val (.int p0), .val (.int p1)] [(.int p0)])) _
      refine XS.iloadN X0.here hx rfl (hb hby d7_1) rfl ?_
      exact kt)
  by_cases hc2_2 : p1 < p0
  · obtain ⟨fs, hr, hrun, hended, hW, hsame⟩ := X0.leave (v := some (.int p1)) (fun h => by rw [Bd.returns] at h; cases h)
    have hv3 : (f7 p0 p1) = p1 := by rw [f7, if_pos hc2_2]
    refine ⟨_, _, pre1 _ ?_, hrun, hended, _, _, rfl, ?_, ⟨_, rfl⟩, hW, hsame.mono (by decide) (by decide)⟩
    · show Steps p.tables e below (s₁.setTop (mkF m 2 #[.val (.int p0), .val (.int p1)] [(.int p1), (.int p0)])) _
      refine XS.icmpYes X0.here hx rfl (pc0 := 2) (pc' := 9) rfl (hb hby d7_2) rfl (tlt hc2_2).2.2.1 (by decide) (by decide) ?_
      show Steps p.tables e below (s₁.setTop (mkF m 9 #[.val (.int p0), .val (.int p1)] [])) _
      refine XS.iloadN X0.here hx rfl (hb hby d7_9) rfl ?_
      show Steps p.tables e below (s₁.setTop (mkF m 10 #[.val (.int p0), .val (.int p1)] [(.int p1)])) _
      exact retI X0 hx Bd.returns (hb hby d7_10) hr
    · show Q7 Z p0 p1 h0 n0 _ s₁.heap _
      rw [e0]
      exact ⟨congrArg (fun q => some (Value.int q)) hv3.symm, N0, rfl⟩
  · obtain ⟨fs, hr, hrun, hended, hW, hsame⟩ := X0.leave (v := some (.int p0)) (fun h => by rw [Bd.returns] at h; cases h)
    have hv4 : (f7 p0 p1) = p0 := by rw [f7, if_neg hc2_2]
    refine ⟨_, _, pre1 _ ?_, hrun, hended, _, _, rfl, ?_, ⟨_, rfl⟩, hW, hsame.mono (by decide) (by decide)⟩
    · show Steps p.tables e below (s₁.setTop (mkF m 2 #[.val (.int p0), .val (.int p1)] [(.int p1), (.int p0)])) _
      refine XS.icmpNo X0.here hx rfl (hb hby d7_2) rfl (flt hc2_2).2.2.1 ?_
      show Steps p.tables e below (s₁.setTop (mkF m 5 #[.val (.int p0), .val (.int p1)] [])) _
      refine XS.iloadN X0.here hx rfl (hb hby d7_5) rfl ?_
      show Steps p.tables e below (s₁.setTop (mkF m 6 #[.val (.int p0), .val (.int p1)] [(.int p0)])) _
      refine XS.goto X0.here hx rfl (pc0 := 6) (pc' := 10) rfl (hb hby d7_6) (by decide) (by decide) ?_
      show Steps p.tables e below (s₁.setTop (mkF m 10 #[.val (.int p0), .val (.int p1)] [(.int p0)])) _
      exact retI X0 hx Bd.returns (hb hby d7_10) hr
    · show Q7 Z p0 p1 h0 n0 _ s₁.heap _
      rw [e0]
      exact ⟨congrArg (fun q => some (Value.int q)) hv4.symm, N0, rfl⟩
theorem pn_0 : plainName "com/example/cardhost/cardhost/LogicalChannelsLowestClosedPinLaw" = true := by first | (simp [plainName, overriddenIn]; done) | decide +kernel
theorem pd_0_0 : parseMethodDescriptor "()V" = some ⟨[], none⟩ := by decide +kernel
theorem pd_0_1 : parseMethodDescriptor "(Lcom/example/cardhost/cardhost/LogicalChannels;I)V" = some ⟨[(.object "com/example/cardhost/cardhost/LogicalChannels"), .int], none⟩ := by decide +kernel
theorem pd_0_2 : parseMethodDescriptor "(I)V" = some ⟨[.int], none⟩ := by decide +kernel
theorem pd_0_3 : parseMethodDescriptor "()I" = some ⟨[], some .int⟩ := by decide +kernel
theorem pd_0_4 : parseMethodDescriptor "(II)I" = some ⟨[.int, .int], some .int⟩ := by decide +kernel
theorem ef_0 (m : MethodId) (x0 : Int32) (x1 : Int32) (x2 : Int32) (x3 : Int32) (x4 : Int32) : entryFrame m #[(.int x0), (.int x1), (.int x2), (.int x3), (.int x4)] maxLocals = mkF m 0 #[.val (.int x0), .val (.int x1), .val (.int x2), .val (.int x3), .val (.int x4), .unset, .unset, .unset, .unset, .unset, .unset, .unset, .unset] [] := by first | (simp [entryFrame, mkF, argsToLocals, Value.category, maxLocals]; done) | rfl
def e0_1 (p0 : Int32) : Int32 := ((p0 &&& (2147483647 : Int32)) - ((p0 &&& (2147483647 : Int32)) / (20 : Int32)) * (20 : Int32))
def e0_2 (p1 : Int32) : Int32 := ((p1 &&& (2147483647 : Int32)) - ((p1 &&& (2147483647 : Int32)) / (20 : Int32)) * (20 : Int32))
def e0_3 (p2 : Int32) : Int32 := ((p2 &&& (2147483647 : Int32)) - ((p2 &&& (2147483647 : Int32)) / (20 : Int32)) * (20 : Int32))
def e0_4 (p3 : Int32) : Int32 := ((1 : Int32) + ((p3 &&& (2147483647 : Int32)) - ((p3 &&& (2147483647 : Int32)) / (19 : Int32)) * (19 : Int32)))
def e0_5 (p0 : Int32) (p3 : Int32) : Int32 := (f7 ((((e0_1 p0) + (1 : Int32)) + (1 : Int32)) + (1 : Int32)) (e0_4 p3))
theorem own_low (F : Nat → Int32) (M : Int32) (hM : 1 ≤ M.toInt ∧ M.toInt ≤ 20) (h2 : ∀ i : Nat, 1 ≤ i → (i : Int) < M.toInt → ¬ F i = 0) (h3 : M.toInt < 20 → F M.toInt.toNat = 0) : f5 F = M := by
  have hc : M.toInt = 1 ∨ M.toInt = 2 ∨ M.toInt = 3 ∨ M.toInt = 4 ∨ M.toInt = 5 ∨ M.toInt = 6 ∨ M.toInt = 7 ∨ M.toInt = 8 ∨ M.toInt = 9 ∨ M.toInt = 10 ∨ M.toInt = 11 ∨ M.toInt = 12 ∨ M.toInt = 13 ∨ M.toInt = 14 ∨ M.toInt = 15 ∨ M.toInt = 16 ∨ M.toInt = 17 ∨ M.toInt = 18 ∨ M.toInt = 19 ∨ M.toInt = 20 := by omega
  unfold f5
  rcases hc with h | h | h | h | h | h | h | h | h | h | h | h | h | h | h | h | h | h | h | h
  · have e : M = (1 : Int32) := Int32.toInt_inj.mp (h.trans (by decide))
    rw [if_pos (by have q := h3 (by omega); rw [h] at q; exact q), e]
  · have e : M = (2 : Int32) := Int32.toInt_inj.mp (h.trans (by decide))
    rw [if_neg (h2 1 (by omega) (by omega)), if_pos (by have q := h3 (by omega); rw [h] at q; exact q), e]
  · have e : M = (3 : Int32) := Int32.toInt_inj.mp (h.trans (by decide))
    rw [if_neg (h2 1 (by omega) (by omega)), if_neg (h2 2 (by omega) (by omega)), if_pos (by have q := h3 (by omega); rw [h] at q; exact q), e]
  · have e : M = (4 : Int32) := Int32.toInt_inj.mp (h.trans (by decide))
    rw [if_neg (h2 1 (by omega) (by omega)), if_neg (h2 2 (by omega) (by omega)), if_neg (h2 3 (by omega) (by omega)), if_pos (by have q := h3 (by omega); rw [h] at q; exact q), e]
  · have e : M = (5 : Int32) := Int32.toInt_inj.mp (h.trans (by decide))
    rw [if_neg (h2 1 (by omega) (by omega)), if_neg (h2 2 (by omega) (by omega)), if_neg (h2 3 (by omega) (by omega)), if_neg (h2 4 (by omega) (by omega)), if_pos (by have q := h3 (by omega); rw [h] at q; exact q), e]
  · have e : M = (6 : Int32) := Int32.toInt_inj.mp (h.trans (by decide))
    rw [if_neg (h2 1 (by omega) (by omega)), if_neg (h2 2 (by omega) (by omega)), if_neg (h2 3 (by omega) (by omega)), if_neg (h2 4 (by omega) (by omega)), if_neg (h2 5 (by omega) (by omega)), if_pos (by have q := h3 (by omega); rw [h] at q; exact q), e]
  · have e : M = (7 : Int32) := Int32.toInt_inj.mp (h.trans (by decide))
    rw [if_neg (h2 1 (by omega) (by omega)), if_neg (h2 2 (by omega) (by omega)), if_neg (h2 3 (by omega) (by omega)), if_neg (h2 4 (by omega) (by omega)), if_neg (h2 5 (by omega) (by omega)), if_neg (h2 6 (by omega) (by omega)), if_pos (by have q := h3 (by omega); rw [h] at q; exact q), e]
  · have e : M = (8 : Int32) := Int32.toInt_inj.mp (h.trans (by decide))
    rw [if_neg (h2 1 (by omega) (by omega)), if_neg (h2 2 (by omega) (by omega)), if_neg (h2 3 (by omega) (by omega)), if_neg (h2 4 (by omega) (by omega)), if_neg (h2 5 (by omega) (by omega)), if_neg (h2 6 (by omega) (by omega)), if_neg (h2 7 (by omega) (by omega)), if_pos (by have q := h3 (by omega); rw [h] at q; exact q), e]
  · have e : M = (9 : Int32) := Int32.toInt_inj.mp (h.trans (by decide))
    rw [if_neg (h2 1 (by omega) (by omega)), if_neg (h2 2 (by omega) (by omega)), if_neg (h2 3 (by omega) (by omega)), if_neg (h2 4 (by omega) (by omega)), if_neg (h2 5 (by omega) (by omega)), if_neg (h2 6 (by omega) (by omega)), if_neg (h2 7 (by omega) (by omega)), if_neg (h2 8 (by omega) (by omega)), if_pos (by have q := h3 (by omega); rw [h] at q; exact q), e]
  · have e : M = (10 : Int32) := Int32.toInt_inj.mp (h.trans (by decide))
    rw [if_neg (h2 1 (by omega) (by omega)), if_neg (h2 2 (by omega) (by omega)), if_neg (h2 3 (by omega) (by omega)), if_neg (h2 4 (by omega) (by omega)), if_neg (h2 5 (by omega) (by omega)), if_neg (h2 6 (by omega) (by omega)), if_neg (h2 7 (by omega) (by omega)), if_neg (h2 8 (by omega) (by omega)), if_neg (h2 9 (by omega) (by omega)), if_pos (by have q := h3 (by omega); rw [h] at q; exact q), e]
  · have e : M = (11 : Int32) := Int32.toInt_inj.mp (h.trans (by decide))
    rw [if_neg (h2 1 (by omega) (by omega)), if_neg (h2 2 (by omega) (by omega)), if_neg (h2 3 (by omega) (by omega)), if_neg (h2 4 (by omega) (by omega)), if_neg (h2 5 (by omega) (by omega)), if_neg (h2 6 (by omega) (by omega)), if_neg (h2 7 (by omega) (by omega)), if_neg (h2 8 (by omega) (by omega)), if_neg (h2 9 (by omega) (by omega)), if_neg (h2 10 (by omega) (by omega)), if_pos (by have q := h3 (by omega); rw [h] at q; exact q), e]
  · have e : M = (12 : Int32) := Int32.toInt_inj.mp (h.trans (by decide))
    rw [if_neg (h2 1 (by omega) (by omega)), if_neg (h2 2 (by omega) (by omega)), if_neg (h2 3 (by omega) (by omega)), if_neg (h2 4 (by omega) (by omega)), if_neg (h2 5 (by omega) (by omega)), if_neg (h2 6 (by omega) (by omega)), if_neg (h2 7 (by omega) (by omega)), if_neg (h2 8 (by omega) (by omega)), if_neg (h2 9 (by omega) (by omega)), if_neg (h2 10 (by omega) (by omega)), if_neg (h2 11 (by omega) (by omega)), if_pos (by have q := h3 (by omega); rw [h] at q; exact q), e]
  · have e : M = (13 : Int32) := Int32.toInt_inj.mp (h.trans (by decide))
    rw [if_neg (h2 1 (by omega) (by omega)), if_neg (h2 2 (by omega) (by omega)), if_neg (h2 3 (by omega) (by omega)), if_neg (h2 4 (by omega) (by omega)), if_neg (h2 5 (by omega) (by omega)), if_neg (h2 6 (by omega) (by omega)), if_neg (h2 7 (by omega) (by omega)), if_neg (h2 8 (by omega) (by omega)), if_neg (h2 9 (by omega) (by omega)), if_neg (h2 10 (by omega) (by omega)), if_neg (h2 11 (by omega) (by omega)), if_neg (h2 12 (by omega) (by omega)), if_pos (by have q := h3 (by omega); rw [h] at q; exact q), e]
  · have e : M = (14 : Int32) := Int32.toInt_inj.mp (h.trans (by decide))
    rw [if_neg (h2 1 (by omega) (by omega)), if_neg (h2 2 (by omega) (by omega)), if_neg (h2 3 (by omega) (by omega)), if_neg (h2 4 (by omega) (by omega)), if_neg (h2 5 (by omega) (by omega)), if_neg (h2 6 (by omega) (by omega)), if_neg (h2 7 (by omega) (by omega)), if_neg (h2 8 (by omega) (by omega)), if_neg (h2 9 (by omega) (by omega)), if_neg (h2 10 (by omega) (by omega)), if_neg (h2 11 (by omega) (by omega)), if_neg (h2 12 (by omega) (by omega)), if_neg (h2 13 (by omega) (by omega)), if_pos (by have q := h3 (by omega); rw [h] at q; exact q), e]
  · have e : M = (15 : Int32) := Int32.toInt_inj.mp (h.trans (by decide))
    rw [if_neg (h2 1 (by omega) (by omega)), if_neg (h2 2 (by omega) (by omega)), if_neg (h2 3 (by omega) (by omega)), if_neg (h2 4 (by omega) (by omega)), if_neg (h2 5 (by omega) (by omega)), if_neg (h2 6 (by omega) (by omega)), if_neg (h2 7 (by omega) (by omega)), if_neg (h2 8 (by omega) (by omega)), if_neg (h2 9 (by omega) (by omega)), if_neg (h2 10 (by omega) (by omega)), if_neg (h2 11 (by omega) (by omega)), if_neg (h2 12 (by omega) (by omega)), if_neg (h2 13 (by omega) (by omega)), if_neg (h2 14 (by omega) (by omega)), if_pos (by have q := h3 (by omega); rw [h] at q; exact q), e]
  · have e : M = (16 : Int32) := Int32.toInt_inj.mp (h.trans (by decide))
    rw [if_neg (h2 1 (by omega) (by omega)), if_neg (h2 2 (by omega) (by omega)), if_neg (h2 3 (by omega) (by omega)), if_neg (h2 4 (by omega) (by omega)), if_neg (h2 5 (by omega) (by omega)), if_neg (h2 6 (by omega) (by omega)), if_neg (h2 7 (by omega) (by omega)), if_neg (h2 8 (by omega) (by omega)), if_neg (h2 9 (by omega) (by omega)), if_neg (h2 10 (by omega) (by omega)), if_neg (h2 11 (by omega) (by omega)), if_neg (h2 12 (by omega) (by omega)), if_neg (h2 13 (by omega) (by omega)), if_neg (h2 14 (by omega) (by omega)), if_neg (h2 15 (by omega) (by omega)), if_pos (by have q := h3 (by omega); rw [h] at q; exact q), e]
  · have e : M = (17 : Int32) := Int32.toInt_inj.mp (h.trans (by decide))
    rw [if_neg (h2 1 (by omega) (by omega)), if_neg (h2 2 (by omega) (by omega)), if_neg (h2 3 (by omega) (by omega)), if_neg (h2 4 (by omega) (by omega)), if_neg (h2 5 (by omega) (by omega)), if_neg (h2 6 (by omega) (by omega)), if_neg (h2 7 (by omega) (by omega)), if_neg (h2 8 (by omega) (by omega)), if_neg (h2 9 (by omega) (by omega)), if_neg (h2 10 (by omega) (by omega)), if_neg (h2 11 (by omega) (by omega)), if_neg (h2 12 (by omega) (by omega)), if_neg (h2 13 (by omega) (by omega)), if_neg (h2 14 (by omega) (by omega)), if_neg (h2 15 (by omega) (by omega)), if_neg (h2 16 (by omega) (by omega)), if_pos (by have q := h3 (by omega); rw [h] at q; exact q), e]
  · have e : M = (18 : Int32) := Int32.toInt_inj.mp (h.trans (by decide))
    rw [if_neg (h2 1 (by omega) (by omega)), if_neg (h2 2 (by omega) (by omega)), if_neg (h2 3 (by omega) (by omega)), if_neg (h2 4 (by omega) (by omega)), if_neg (h2 5 (by omega) (by omega)), if_neg (h2 6 (by omega) (by omega)), if_neg (h2 7 (by omega) (by omega)), if_neg (h2 8 (by omega) (by omega)), if_neg (h2 9 (by omega) (by omega)), if_neg (h2 10 (by omega) (by omega)), if_neg (h2 11 (by omega) (by omega)), if_neg (h2 12 (by omega) (by omega)), if_neg (h2 13 (by omega) (by omega)), if_neg (h2 14 (by omega) (by omega)), if_neg (h2 15 (by omega) (by omega)), if_neg (h2 16 (by omega) (by omega)), if_neg (h2 17 (by omega) (by omega)), if_pos (by have q := h3 (by omega); rw [h] at q; exact q), e]
  · have e : M = (19 : Int32) := Int32.toInt_inj.mp (h.trans (by decide))
    rw [if_neg (h2 1 (by omega) (by omega)), if_neg (h2 2 (by omega) (by omega)), if_neg (h2 3 (by omega) (by omega)), if_neg (h2 4 (by omega) (by omega)), if_neg (h2 5 (by omega) (by omega)), if_neg (h2 6 (by omega) (by omega)), if_neg (h2 7 (by omega) (by omega)), if_neg (h2 8 (by omega) (by omega)), if_neg (h2 9 (by omega) (by omega)), if_neg (h2 10 (by omega) (by omega)), if_neg (h2 11 (by omega) (by omega)), if_neg (h2 12 (by omega) (by omega)), if_neg (h2 13 (by omega) (by omega)), if_neg (h2 14 (by omega) (by omega)), if_neg (h2 15 (by omega) (by omega)), if_neg (h2 16 (by omega) (by omega)), if_neg (h2 17 (by omega) (by omega)), if_neg (h2 18 (by omega) (by omega)), if_pos (by have q := h3 (by omega); rw [h] at q; exact q), e]
  · have e : M = (20 : Int32) := Int32.toInt_inj.mp (h.trans (by decide))
    rw [if_neg (h2 1 (by omega) (by omega)), if_neg (h2 2 (by omega) (by omega)), if_neg (h2 3 (by omega) (by omega)), if_neg (h2 4 (by omega) (by omega)), if_neg (h2 5 (by omega) (by omega)), if_neg (h2 6 (by omega) (by omega)), if_neg (h2 7 (by omega) (by omega)), if_neg (h2 8 (by omega) (by omega)), if_neg (h2 9 (by omega) (by omega)), if_neg (h2 10 (by omega) (by omega)), if_neg (h2 11 (by omega) (by omega)), if_neg (h2 12 (by omega) (by omega)), if_neg (h2 13 (by omega) (by omega)), if_neg (h2 14 (by omega) (by omega)), if_neg (h2 15 (by omega) (by omega)), if_neg (h2 16 (by omega) (by omega)), if_neg (h2 17 (by omega) (by omega)), if_neg (h2 18 (by omega) (by omega)), if_neg (h2 19 (by omega) (by omega)), e]
theorem own_pref (k : Int32) (hk : 0 ≤ k.toInt ∧ k.toInt ≤ 19) (i : Nat) (hi : i < 20) : f3_r1_a k (own_upd (fun _ => 0) 0 (1 : Int32)) i = if (i : Int) ≤ k.toInt then 1 else 0 := by
  have hc : k.toInt = 0 ∨ k.toInt = 1 ∨ k.toInt = 2 ∨ k.toInt = 3 ∨ k.toInt = 4 ∨ k.toInt = 5 ∨ k.toInt = 6 ∨ k.toInt = 7 ∨ k.toInt = 8 ∨ k.toInt = 9 ∨ k.toInt = 10 ∨ k.toInt = 11 ∨ k.toInt = 12 ∨ k.toInt = 13 ∨ k.toInt = 14 ∨ k.toInt = 15 ∨ k.toInt = 16 ∨ k.toInt = 17 ∨ k.toInt = 18 ∨ k.toInt = 19 := by omega
  have hi' : i = 0 ∨ i = 1 ∨ i = 2 ∨ i = 3 ∨ i = 4 ∨ i = 5 ∨ i = 6 ∨ i = 7 ∨ i = 8 ∨ i = 9 ∨ i = 10 ∨ i = 11 ∨ i = 12 ∨ i = 13 ∨ i = 14 ∨ i = 15 ∨ i = 16 ∨ i = 17 ∨ i = 18 ∨ i = 19 := by omega
  rcases hc with h | h | h | h | h | h | h | h | h | h | h | h | h | h | h | h | h | h | h | h
  · obtain rfl : k = (0 : Int32) := Int32.toInt_inj.mp (h.trans (by decide))
    rcases hi' with rfl | rfl | rfl | rfl | rfl | rfl | rfl | rfl | rfl | rfl | rfl | rfl | rfl | rfl | rfl | rfl | rfl | rfl | rfl | rfl <;> rfl
  · obtain rfl : k = (1 : Int32) := Int32.toInt_inj.mp (h.trans (by decide))
    rcases hi' with rfl | rfl | rfl | rfl | rfl | rfl | rfl | rfl | rfl | rfl | rfl | rfl | rfl | rfl | rfl | rfl | rfl | rfl | rfl | rfl <;> rfl
  · obtain rfl : k = (2 : Int32) := Int32.toInt_inj.mp (h.trans (by decide))
    rcases hi' with rfl | rfl | rfl | rfl | rfl | rfl | rfl | rfl | rfl | rfl | rfl | rfl | rfl | rfl | rfl | rfl | rfl | rfl | rfl | rfl <;> rfl
  · obtain rfl : k = (3 : Int32) := Int32.toInt_inj.mp (h.trans (by decide))
    rcases hi' with rfl | rfl | rfl | rfl | rfl | rfl | rfl | rfl | rfl | rfl | rfl | rfl | rfl | rfl | rfl | rfl | rfl | rfl | rfl | rfl <;> rfl
  · obtain rfl : k = (4 : Int32) := Int32.toInt_inj.mp (h.trans (by decide))
    rcases hi' with rfl | rfl | rfl | rfl | rfl | rfl | rfl | rfl | rfl | rfl | rfl | rfl | rfl | rfl | rfl | rfl | rfl | rfl | rfl | rfl <;> rfl
  · obtain rfl : k = (5 : Int32) := Int32.toInt_inj.mp (h.trans (by decide))
    rcases hi' with rfl | rfl | rfl | rfl | rfl | rfl | rfl | rfl | rfl | rfl | rfl | rfl | rfl | rfl | rfl | rfl | rfl | rfl | rfl | rfl <;> rfl
  · obtain rfl : k = (6 : Int32) := Int32.toInt_inj.mp (h.trans (by decide))
    rcases hi' with rfl | rfl | rfl | rfl | rfl | rfl | rfl | rfl | rfl | rfl | rfl | rfl | rfl | rfl | rfl | rfl | rfl | rfl | rfl | rfl <;> rfl
  · obtain rfl : k = (7 : Int32) := Int32.toInt_inj.mp (h.trans (by decide))
    rcases hi' with rfl | rfl | rfl | rfl | rfl | rfl | rfl | rfl | rfl | rfl | rfl | rfl | rfl | rfl | rfl | rfl | rfl | rfl | rfl | rfl <;> rfl
  · obtain rfl : k = (8 : Int32) := Int32.toInt_inj.mp (h.trans (by decide))
    rcases hi' with rfl | rfl | rfl | rfl | rfl | rfl | rfl | rfl | rfl | rfl | rfl | rfl | rfl | rfl | rfl | rfl | rfl | rfl | rfl | rfl <;> rfl
  · obtain rfl : k = (9 : Int32) := Int32.toInt_inj.mp (h.trans (by decide))
    rcases hi' with rfl | rfl | rfl | rfl | rfl | rfl | rfl | rfl | rfl | rfl | rfl | rfl | rfl | rfl | rfl | rfl | rfl | rfl | rfl | rfl <;> rfl
  · obtain rfl : k = (10 : Int32) := Int32.toInt_inj.mp (h.trans (by decide))
    rcases hi' with rfl | rfl | rfl | rfl | rfl | rfl | rfl | rfl | rfl | rfl | rfl | rfl | rfl | rfl | rfl | rfl | rfl | rfl | rfl | rfl <;> rfl
  · obtain rfl : k = (11 : Int32) := Int32.toInt_inj.mp (h.trans (by decide))
    rcases hi' with rfl | rfl | rfl | rfl | rfl | rfl | rfl | rfl | rfl | rfl | rfl | rfl | rfl | rfl | rfl | rfl | rfl | rfl | rfl | rfl <;> rfl
  · obtain rfl : k = (12 : Int32) := Int32.toInt_inj.mp (h.trans (by decide))
    rcases hi' with rfl | rfl | rfl | rfl | rfl | rfl | rfl | rfl | rfl | rfl | rfl | rfl | rfl | rfl | rfl | rfl | rfl | rfl | rfl | rfl <;> rfl
  · obtain rfl : k = (13 : Int32) := Int32.toInt_inj.mp (h.trans (by decide))
    rcases hi' with rfl | rfl | rfl | rfl | rfl | rfl | rfl | rfl | rfl | rfl | rfl | rfl | rfl | rfl | rfl | rfl | rfl | rfl | rfl | rfl <;> rfl
  · obtain rfl : k = (14 : Int32) := Int32.toInt_inj.mp (h.trans (by decide))
    rcases hi' with rfl | rfl | rfl | rfl | rfl | rfl | rfl | rfl | rfl | rfl | rfl | rfl | rfl | rfl | rfl | rfl | rfl | rfl | rfl | rfl <;> rfl
  · obtain rfl : k = (15 : Int32) := Int32.toInt_inj.mp (h.trans (by decide))
    rcases hi' with rfl | rfl | rfl | rfl | rfl | rfl | rfl | rfl | rfl | rfl | rfl | rfl | rfl | rfl | rfl | rfl | rfl | rfl | rfl | rfl <;> rfl
  · obtain rfl : k = (16 : Int32) := Int32.toInt_inj.mp (h.trans (by decide))
    rcases hi' with rfl | rfl | rfl | rfl | rfl | rfl | rfl | rfl | rfl | rfl | rfl | rfl | rfl | rfl | rfl | rfl | rfl | rfl | rfl | rfl <;> rfl
  · obtain rfl : k = (17 : Int32) := Int32.toInt_inj.mp (h.trans (by decide))
    rcases hi' with rfl | rfl | rfl | rfl | rfl | rfl | rfl | rfl | rfl | rfl | rfl | rfl | rfl | rfl | rfl | rfl | rfl | rfl | rfl | rfl <;> rfl
  · obtain rfl : k = (18 : Int32) := Int32.toInt_inj.mp (h.trans (by decide))
    rcases hi' with rfl | rfl | rfl | rfl | rfl | rfl | rfl | rfl | rfl | rfl | rfl | rfl | rfl | rfl | rfl | rfl | rfl | rfl | rfl | rfl <;> rfl
  · obtain rfl : k = (19 : Int32) := Int32.toInt_inj.mp (h.trans (by decide))
    rcases hi' with rfl | rfl | rfl | rfl | rfl | rfl | rfl | rfl | rfl | rfl | rfl | rfl | rfl | rfl | rfl | rfl | rfl | rfl | rfl | rfl <;> rfl
theorem own_nat {x : Int32} (h : 0 ≤ x.toInt ∧ x.toInt ≤ 19) : (x.toNatClampNeg : Int) = x.toInt := by unfold Int32.toNatClampNeg; omega
theorem own_F {k a b : Int32} (hk : 0 ≤ k.toInt ∧ k.toInt ≤ 19) (ha : 0 ≤ a.toInt ∧ a.toInt ≤ 19) (hb : 0 ≤ b.toInt ∧ b.toInt ≤ 19) (i : Nat) (hi : i < 20) :
    own_upd (own_upd (f3_r1_a k (own_upd (fun _ => 0) 0 (1 : Int32))) a.toNatClampNeg (1 : Int32)) b.toNatClampNeg (1 : Int32) i = if (i : Int) = b.toInt ∨ (i : Int) = a.toInt ∨ (i : Int) ≤ k.toInt then 1 else 0 := by
  have na := own_nat ha
  have nb := own_nat hb
  rw [own_upd_at, own_upd_at, own_pref k hk i hi]
  repeat' split
  all_goals first | rfl | (exfalso; omega)
def own_mm (k a b : Int) : Int := if a = (if a = k + 1 ∨ b = k + 1 then k + 2 else k + 1) ∨ b = (if a = k + 1 ∨ b = k + 1 then k + 2 else k + 1) then (if a = k + 1 ∨ b = k + 1 then k + 2 else k + 1) + 1 else (if a = k + 1 ∨ b = k + 1 then k + 2 else k + 1)
theorem own_mm_is {k a b : Int} (hk : 0 ≤ k ∧ k ≤ 19) (ha : 0 ≤ a ∧ a ≤ 19) (hb : 0 ≤ b ∧ b ≤ 19) : 1 ≤ own_mm k a b ∧ own_mm k a b ≤ 20 ∧ (∀ i : Int, i < own_mm k a b → i = b ∨ i = a ∨ i ≤ k) ∧ ¬ (own_mm k a b = b ∨ own_mm k a b = a ∨ own_mm k a b ≤ k) := by
  unfold own_mm
  repeat' split
  all_goals refine ⟨by omega, by omega, fun i hi => by omega, by omega⟩
theorem own_fin0 {k a b M : Int32} (hk : 0 ≤ k.toInt ∧ k.toInt ≤ 19) (ha : 0 ≤ a.toInt ∧ a.toInt ≤ 19) (hb : 0 ≤ b.toInt ∧ b.toInt ≤ 19) (hM : M.toInt = own_mm k.toInt a.toInt b.toInt) :
    f5 (own_upd (own_upd (f3_r1_a k (own_upd (fun _ => 0) 0 (1 : Int32))) a.toNatClampNeg (1 : Int32)) b.toNatClampNeg (1 : Int32)) = M := by
  obtain ⟨m1, m2, m3, m4⟩ := own_mm_is hk ha hb
  rw [← hM] at m1 m2 m3 m4
  refine own_low _ M ⟨m1, m2⟩ (fun i h1 h2 => ?_) (fun h => ?_)
  · rw [own_F hk ha hb i (by omega), if_pos (m3 i h2)]; decide
  · rw [own_F hk ha hb _ (by omega), if_neg (by rw [Int.toNat_of_nonneg (by omega)]; exact m4)]
theorem own_fin1 {k a b c M : Int32} (hk : 0 ≤ k.toInt ∧ k.toInt ≤ 19) (ha : 0 ≤ a.toInt ∧ a.toInt ≤ 19) (hb : 0 ≤ b.toInt ∧ b.toInt ≤ 19) (hc : 1 ≤ c.toInt ∧ c.toInt ≤ 19) (hM : M.toInt = own_mm k.toInt a.toInt b.toInt) :
    f5 (own_upd (own_upd (own_upd (f3_r1_a k (own_upd (fun _ => 0) 0 (1 : Int32))) a.toNatClampNeg (1 : Int32)) b.toNatClampNeg (1 : Int32)) c.toNatClampNeg (0 : Int32)) = f7 M c := by
  obtain ⟨m1, m2, m3, m4⟩ := own_mm_is hk ha hb
  rw [← hM] at m1 m2 m3 m4
  have nc := own_nat (x := c) ⟨by omega, hc.2⟩
  have h7 : (f7 M c).toInt = if c.toInt < M.toInt then c.toInt else M.toInt := by
    unfold f7
    simp only [Int32.lt_iff_toInt_lt]
    split <;> rfl
  refine own_low _ (f7 M c) ?_ (fun i h1 h2 => ?_) (fun h => ?_)
  · rw [h7]; split <;> omega
  · rw [h7] at h2
    have h3 : (i : Int) < M.toInt ∧ (i : Int) < c.toInt := by split at h2 <;> omega
    rw [own_upd_at, if_neg (by omega), own_F hk ha hb i (by omega), if_pos (m3 i h3.1)]; decide
  · rw [own_upd_at]
    by_cases q : (f7 M c).toInt.toNat = c.toNatClampNeg
    · rw [if_pos q]
    · rw [if_neg q]
      have h8 : (f7 M c).toInt = M.toInt := by rw [h7] at q h ⊢; split at q <;> omega
      rw [h8] at h ⊢
      rw [own_F hk ha hb _ (by omega), if_neg (by rw [Int.toNat_of_nonneg (by omega)]; exact m4)]
theorem own_b (x : Int32) : 0 ≤ ((x &&& (2147483647 : Int32)) - ((x &&& (2147483647 : Int32)) / (20 : Int32)) * (20 : Int32)).toInt ∧ ((x &&& (2147483647 : Int32)) - ((x &&& (2147483647 : Int32)) / (20 : Int32)) * (20 : Int32)).toInt ≤ 19 := by
  have h := own_idx x
  have e0 : (0 : Int32).toInt = 0 := by decide
  have e20 : (20 : Int32).toInt = 20 := by decide
  rw [Int32.lt_iff_toInt_lt, Int32.lt_iff_toInt_lt, e0, e20] at h
  omega
theorem own_c (x : Int32) : 1 ≤ (e0_4 x).toInt ∧ (e0_4 x).toInt ≤ 19 := by
  have h := own_idx19 x
  have e0 : (0 : Int32).toInt = 0 := by decide
  have e1 : (1 : Int32).toInt = 1 := by decide
  have e19 : (19 : Int32).toInt = 19 := by decide
  rw [Int32.lt_iff_toInt_lt, Int32.lt_iff_toInt_lt, e0, e19] at h
  unfold e0_4
  generalize ((x &&& (2147483647 : Int32)) - ((x &&& (2147483647 : Int32)) / (19 : Int32)) * (19 : Int32)) = u at *
  have h3 := c_iadd 1 u
  have h4 := rng32 (1 + u)
  rw [e1] at h3
  omega
theorem own_cb (x : Int32) : ¬ (e0_4 x) < 0 ∧ (e0_4 x) < (20 : Int32) := by
  have h := own_c x
  have e0 : (0 : Int32).toInt = 0 := by decide
  have e20 : (20 : Int32).toInt = 20 := by decide
  rw [Int32.lt_iff_toInt_lt, Int32.lt_iff_toInt_lt, e0, e20]
  omega
def Q0 (Z : State) (p0 : Int32) (p1 : Int32) (p2 : Int32) (p3 : Int32) (p4 : Int32) (h0 : Heap) (n0 : Nat) (v : Option Value) (h : Heap) (L : List Loc) : Prop := v = some (.int (1 : Int32)) ∧ Fr n0 L
set_option maxRecDepth 65536 in
set_option maxHeartbeats 40000000 in
theorem rm0 (l : Launch) (Z : State) (a0 : Array Value) (hw : ∀ d ∈ tables_1, d.before a0 Z = true) (ws : List Jvm.Cond) (p0 : Int32) (p1 : Int32) (p2 : Int32) (p3 : Int32) (p4 : Int32) (h0 : Heap) (n0 : Nat) (Z0 : n0 ≤ h0.size) :
    MetFree l x (head1 (Jvm.Cond.code x code maxLocals ret :: ws) room_1) (fun a U => a = #[(.int p0), (.int p1), (.int p2), (.int p3), (.int p4)] ∧ Z.Warmed39 U.vm ∧ U.heap = h0) (fun _ _ _ _ _ => True) (fun _ U o U' => ∃ v L, o = .returned v ∧ Q0 Z p0 p1 p2 p3 p4 h0 n0 v U'.heap L ∧ FrameEnd U o U' L room_1.cells room_1.slots) := by
  refine MetFree.of_bodySF (plainFor_of_name pn_0) hisR ?_
  intro p e s m args below meth c s₁ Bd hml0 hP hK
  obtain ⟨rfl, hZ, hh⟩ := hP
  have hx := Bd.exec
  have hby := Bd.bytes
  have hml : c.maxLocals = 13 := hml0
  have hown : s.vm.findClass "com/example/cardhost/cardhost/LogicalChannelsLowestClosedPinLaw" = some m.cls := findClass_of_methodNamed Bd.named
  have hnm := (name_of_methodNamed Bd.named Bd.method).1
  have X0 : Stand p l e room_1 s m #[(.int p0), (.int p1), (.int p2), (.int p3), (.int p4)] below meth c s₁ [] 0 0 := Stand.of_body Bd
  have e0 : s₁.heap = h0 := by rw [← hh, Bd.state]; rfl
  have N0 := Fr.nil n0
  have pre0 : ∀ t, Steps p.tables e below (s₁.setTop (mkF m 0 #[.val (.int p0), .val (.int p1), .val (.int p2), .val (.int p3), .val (.int p4), .unset, .unset, .unset, .unset, .unset, .unset, .unset, .unset] [])) t → Steps p.tables e below (s₁.setTop (entryFrame m #[(.int p0), (.int p1), (.int p2), (.int p3), (.int p4)] maxLocals)) t := fun t k => castTop (ef_0 m p0 p1 p2 p3 p4) k
  have pre1 : ∀ t, Steps p.tables e below (s₁.setTop (mkF m 42 #[.val (.int p0), .val (.int p1), .val (.int p2), .val (.int p3), .val (.int p4), .val (.int (e0_1 p0)), .val (.int (e0_2 p1)), .val (.int (e0_3 p2)), .val (.int (e0_4 p3)), .unset, .unset, .unset, .unset] [(.int (p4 &&& (1 : Int32)))])) t → Steps p.tables e below (s₁.setTop (entryFrame m #[(.int p0), (.int p1), (.int p2), (.int p3), (.int p4)] maxLocals)) t := fun t kt => pre0 t (by
      show Steps p.tables e below (s₁.setTop (mkF m 0 #[.val (.int p0), .val (.int p1), .val (.int p2), .val (.int p3), .val (.int p4), .unset, .unset, .unset, .unset, .unset, .unset, .unset, .unset] [])) _
      refine XS.iloadN X0.here hx rfl (hb hby at_0) rfl ?_
      show Steps p.tables e below (s₁.setTop (mkF m 1 #[.val (.int p0), .val (.int p1), .val (.int p2), .val (.int p3), .val (.int p4), .unset, .unset, .unset, .unset, .unset, .unset, .unset, .unset] [(.int p0)])) _
      refine X0.ldcInt hx hown (mvT hZ (hw _ (List.mem_of_getElem? (i := 0) rfl))) (g := (mkF m 1 #[.val (.int p0), .val (.int p1), .val (.int p2), .val (.int p3), .val (.int p4), .unset, .unset, .unset, .unset, .unset, .unset, .unset, .unset] [(.int p0)])) rfl (hb hby at_1) _ ?_
      show Steps p.tables e below (s₁.setTop (mkF m 3 #[.val (.int p0), .val (.int p1), .val (.int p2), .val (.int p3), .val (.int p4), .unset, .unset, .unset, .unset, .unset, .unset, .unset, .unset] [(.int (2147483647 : Int32)), (.int p0)])) _
      refine XS.iand X0.here hx rfl (hb hby at_3) rfl ?_
      show Steps p.tables e below (s₁.setTop (mkF m 4 #[.val (.int p0), .val (.int p1), .val (.int p2), .val (.int p3), .val (.int p4), .unset, .unset, .unset, .unset, .unset, .unset, .unset, .unset] [(.int (p0 &&& (2147483647 : Int32)))])) _
      refine XS.bipush X0.here hx rfl (hb hby at_4) ?_
      show Steps p.tables e below (s₁.setTop (mkF m 6 #[.val (.int p0), .val (.int p1), .val (.int p2), .val (.int p3), .val (.int p4), .unset, .unset, .unset, .unset, .unset, .unset, .unset, .unset] [(.int (20 : Int32)), (.int (p0 &&& (2147483647 : Int32)))])) _
      refine XS.irem X0.here hx rfl (hb hby at_6) rfl (by decide) ?_
      show Steps p.tables e below (s₁.setTop (mkF m 7 #[.val (.int p0), .val (.int p1), .val (.int p2), .val (.int p3), .val (.int p4), .unset, .unset, .unset, .unset, .unset, .unset, .unset, .unset] [(.int ((p0 &&& (2147483647 : Int32)) - ((p0 &&& (2147483647 : Int32)) / (20 : Int32)) * (20 : Int32)))])) _
      refine XS.istore X0.here hx rfl (hb hby at_7) rfl (l' := #[.val (.int p0), .val (.int p1), .val (.int p2), .val (.int p3), .val (.int p4), .val (.int (e0_1 p0)), .unset, .unset, .unset, .unset, .unset, .unset, .unset]) rfl ?_
      show Steps p.tables e below (s₁.setTop (mkF m 9 #[.val (.int p0), .val (.int p1), .val (.int p2), .val (.int p3), .val (.int p4), .val (.int (e0_1 p0)), .unset, .unset, .unset, .unset, .unset, .unset, .unset] [])) _
      refine XS.iloadN X0.here hx rfl (hb hby at_9) rfl ?_
      show Steps p.tables e below (s₁.setTop (mkF m 10 #[.val (.int p0), .val (.int p1), .val (.int p2), .val (.int p3), .val (.int p4), .val (.int (e0_1 p0)), .unset, .unset, .unset, .unset, .unset, .unset, .unset] [(.int p1)])) _
      refine X0.ldcInt hx hown (mvT hZ (hw _ (List.mem_of_getElem? (i := 0) rfl))) (g := (mkF m 10 #[.val (.int p0), .val (.int p1), .val (.int p2), .val (.int p3), .val (.int p4), .val (.int (e0_1 p0)), .unset, .unset, .unset, .unset, .unset, .unset, .unset] [(.int p1)])) rfl (hb hby at_10) _ ?_
      show Steps p.tables e below (s₁.setTop (mkF m 12 #[.val (.int p0), .val (.int p1), .val (.int p2), .val (.int p3), .val (.int p4), .val (.int (e0_1 p0)), .unset, .unset, .unset, .unset, .unset, .unset, .unset] [(.int (2147483647 : Int32)), (.int p1)])) _
      refine XS.iand X0.here hx rfl (hb hby at_12) rfl ?_
      show Steps p.tables e below (s₁.setTop (mkF m 13 #[.val (.int p0), .val (.int p1), .val (.int p2), .val (.int p3), .val (.int p4), .val (.int (e0_1 p0)), .unset, .unset, .unset, .unset, .unset, .unset, .unset] [(.int (p1 &&& (2147483647 : Int32)))])) _
      refine XS.bipush X0.here hx rfl (hb hby at_13) ?_
      show Steps p.tables e below (s₁.setTop (mkF m 15 #[.val (.int p0), .val (.int p1), .val (.int p2), .val (.int p3), .val (.int p4), .val (.int (e0_1 p0)), .unset, .unset, .unset, .unset, .unset, .unset, .unset] [(.int (20 : Int32)), (.int (p1 &&& (2147483647 : Int32)))])) _
      refine XS.irem X0.here hx rfl (hb hby at_15) rfl (by decide) ?_
      show Steps p.tables e below (s₁.setTop (mkF m 16 #[.val (.int p0), .val (.int p1), .val (.int p2), .val (.int p3), .val (.int p4), .val (.int (e0_1 p0)), .unset, .unset, .unset, .unset, .unset, .unset, .unset] [(.int ((p1 &&& (2147483647 : Int32)) - ((p1 &&& (2147483647 : Int32)) / (20 : Int32)) * (20 : Int32)))])) _
      refine XS.istore X0.here hx rfl (hb hby at_16) rfl (l' := #[.val (.int p0), .val (.int p1), .val (.int p2), .val (.int p3), .val (.int p4), .val (.int (e0_1 p0)), .val (.int (e0_2 p1)), .unset, .unset, .unset, .unset, .unset, .unset]) rfl ?_
      show Steps p.tables e below (s₁.setTop (mkF m 18 #[.val (.int p0), .val (.int p1), .val (.int p2), .val (.int p3), .val (.int p4), .val (.int (e0_1 p0)), .val (.int (e0_2 p1)), .unset, .unset, .unset, .unset, .unset, .unset] [])) _
      refine XS.iloadN X0.here hx rfl (hb hby at_18) rfl ?_
      show Steps p.tables e below (s₁.setTop (mkF m 19 #[.val (.int p0), .val (.int p1), .val (.int p2), .val (.int p3), .val (.int p4), .val (.int (e0_1 p0)), .val (.int (e0_2 p1)), .unset, .unset, .unset, .unset, .unset, .unset] [(.int p2)])) _
      refine X0.ldcInt hx hown (mvT hZ (hw _ (List.mem_of_getElem? (i := 0) rfl))) (g := (mkF m 19 #[.val (.int p0), .val (.int p1), .val (.int p2), .val (.int p3), .val (.int p4), .val (.int (e0_1 p0)), .val (.int (e0_2 p1)), .unset, .unset, .unset, .unset, .unset, .unset] [(.int p2)])) rfl (hb hby at_19) _ ?_
      show Steps p.tables e below (s₁.setTop (mkF m 21 #[.val (.int p0), .val (.int p1), .val (.int p2), .val (.int p3), .val (.int p4), .val (.int (e0_1 p0)), .val (.int (e0_2 p1)), .unset, .unset, .unset, .unset, .unset, .unset] [(.int (2147483647 : Int32)), (.int p2)])) _
      refine XS.iand X0.here hx rfl (hb hby at_21) rfl ?_
      show Steps p.tables e below (s₁.setTop (mkF m 22 #[.val (.int p0), .val (.int p1), .val (.int p2), .val (.int p3), .val (.int p4), .val (.int (e0_1 p0)), .val (.int (e0_2 p1)), .unset, .unset, .unset, .unset, .unset, .unset] [(.int (p2 &&& (2147483647 : Int32)))])) _
      refine XS.bipush X0.here hx rfl (hb hby at_22) ?_
      show Steps p.tables e below (s₁.setTop (mkF m 24 #[.val (.int p0), .val (.int p1), .val (.int p2), .val (.int p3), .val (.int p4), .val (.int (e0_1 p0)), .val (.int (e0_2 p1)), .unset, .unset, .unset, .unset, .unset, .unset] [(.int (20 : Int32)), (.int (p2 &&& (2147483647 : Int32)))])) _
      refine XS.irem X0.here hx rfl (hb hby at_24) rfl (by decide) ?_
      show Steps p.tables e below (s₁.setTop (mkF m 25 #[.val (.int p0), .val (.int p1), .val (.int p2), .val (.int p3), .val (.int p4), .val (.int (e0_1 p0)), .val (.int (e0_2 p1)), .unset, .unset, .unset, .unset, .unset, .unset] [(.int ((p2 &&& (2147483647 : Int32)) - ((p2 &&& (2147483647 : Int32)) / (20 : Int32)) * (20 : Int32)))])) _
      refine XS.istore X0.here hx rfl (hb hby at_25) rfl (l' := #[.val (.int p0), .val (.int p1), .val (.int p2), .val (.int p3), .val (.int p4), .val (.int (e0_1 p0)), .val (.int (e0_2 p1)), .val (.int (e0_3 p2)), .unset, .unset, .unset, .unset, .unset]) rfl ?_
      show Steps p.tables e below (s₁.setTop (mkF m 27 #[.val (.int p0), .val (.int p1), .val (.int p2), .val (.int p3), .val (.int p4), .val (.int (e0_1 p0)), .val (.int (e0_2 p1)), .val (.int (e0_3 p2)), .unset, .unset, .unset, .unset, .unset] [])) _
      refine XS.iconst X0.here hx rfl (hb hby at_27) ?_
      show Steps p.tables e below (s₁.setTop (mkF m 28 #[.val (.int p0), .val (.int p1), .val (.int p2), .val (.int p3), .val (.int p4), .val (.int (e0_1 p0)), .val (.int (e0_2 p1)), .val (.int (e0_3 p2)), .unset, .unset, .unset, .unset, .unset] [(.int (1 : Int32))])) _
      refine XS.iloadN X0.here hx rfl (hb hby at_28) rfl ?_
      show Steps p.tables e below (s₁.setTop (mkF m 29 #[.val (.int p0), .val (.int p1), .val (.int p2), .val (.int p3), .val (.int p4), .val (.int (e0_1 p0)), .val (.int (e0_2 p1)), .val (.int (e0_3 p2)), .unset, .unset, .unset, .unset, .unset] [(.int p3), (.int (1 : Int32))])) _
      refine X0.ldcInt hx hown (mvT hZ (hw _ (List.mem_of_getElem? (i := 0) rfl))) (g := (mkF m 29 #[.val (.int p0), .val (.int p1), .val (.int p2), .val (.int p3), .val (.int p4), .val (.int (e0_1 p0)), .val (.int (e0_2 p1)), .val (.int (e0_3 p2)), .unset, .unset, .unset, .unset, .unset] [(.int p3), (.int (1 : Int32))])) rfl (hb hby at_29) _ ?_
      show Steps p.tables e below (s₁.setTop (mkF m 31 #[.val (.int p0), .val (.int p1), .val (.int p2), .val (.int p3), .val (.int p4), .val (.int (e0_1 p0)), .val (.int (e0_2 p1)), .val (.int (e0_3 p2)), .unset, .unset, .unset, .unset, .unset] [(.int (2147483647 : Int32)), (.int p3), (.int (1 : Int32))])) _
      refine XS.iand X0.here hx rfl (hb hby at_31) rfl ?_
      show Steps p.tables e below (s₁.setTop (mkF m 32 #[.val (.int p0), .val (.int p1), .val (.int p2), .val (.int p3), .val (.int p4), .val (.int (e0_1 p0)), .val (.int (e0_2 p1)), .val (.int (e0_3 p2)), .unset, .unset, .unset, .unset, .unset] [(.int (p3 &&& (2147483647 : Int32))), (.int (1 : Int32))])) _
      refine XS.bipush X0.here hx rfl (hb hby at_32) ?_
      show Steps p.tables e below (s₁.setTop (mkF m 34 #[.val (.int p0), .val (.int p1), .val (.int p2), .val (.int p3), .val (.int p4), .val (.int (e0_1 p0)), .val (.int (e0_2 p1)), .val (.int (e0_3 p2)), .unset, .unset, .unset, .unset, .unset] [(.int (19 : Int32)), (.int (p3 &&& (2147483647 : Int32))), (.int (1 : Int32))])) _
      refine XS.irem X0.here hx rfl (hb hby at_34) rfl (by decide) ?_
      show Steps p.tables e below (s₁.setTop (mkF m 35 #[.val (.int p0), .val (.int p1), .val (.int p2), .val (.int p3), .val (.int p4), .val (.int (e0_1 p0)), .val (.int (e0_2 p1)), .val (.int (e0_3 p2)), .unset, .unset, .unset, .unset, .unset] [(.int ((p3 &&& (2147483647 : Int32)) - ((p3 &&& (2147483647 : Int32)) / (19 : Int32)) * (19 : Int32))), (.int (1 : Int32))])) _
      refine XS.iadd X0.here hx rfl (hb hby at_35) rfl ?_
      show Steps p.tables e below (s₁.setTop (mkF m 36 #[.val (.int p0), .val (.int p1), .val (.int p2), .val (.int p3), .val (.int p4), .val (.int (e0_1 p0)), .val (.int (e0_2 p1)), .val (.int (e0_3 p2)), .unset, .unset, .unset, .unset, .unset] [(.int ((1 : Int32) + ((p3 &&& (2147483647 : Int32)) - ((p3 &&& (2147483647 : Int32)) / (19 : Int32)) * (19 : Int32))))])) _
      refine XS.istore X0.here hx rfl (hb hby at_36) rfl (l' := #[.val (.int p0), .val (.int p1), .val (.int p2), .val (.int p3), .val (.int p4), .val (.int (e0_1 p0)), .val (.int (e0_2 p1)), .val (.int (e0_3 p2)), .val (.int (e0_4 p3)), .unset, .unset, .unset, .unset]) rfl ?_
      show Steps p.tables e below (s₁.setTop (mkF m 38 #[.val (.int p0), .val (.int p1), .val (.int p2), .val (.int p3), .val (.int p4), .val (.int (e0_1 p0)), .val (.int (e0_2 p1)), .val (.int (e0_3 p2)), .val (.int (e0_4 p3)), .unset, .unset, .unset, .unset] [])) _
      refine XS.iload X0.here hx rfl (hb hby at_38) rfl ?_
      show Steps p.tables e below (s₁.setTop (mkF m 40 #[.val (.int p0), .val (.int p1), .val (.int p2), .val (.int p3), .val (.int p4), .val (.int (e0_1 p0)), .val (.int (e0_2 p1)), .val (.int (e0_3 p2)), .val (.int (e0_4 p3)), .unset, .unset, .unset, .unset] [(.int p4)])) _
      refine XS.iconst X0.here hx rfl (hb hby at_40) ?_
      show Steps p.tables e below (s₁.setTop (mkF m 41 #[.val (.int p0), .val (.int p1), .val (.int p2), .val (.int p3), .val (.int p4), .val (.int (e0_1 p0)), .val (.int (e0_2 p1)), .val (.int (e0_3 p2)), .val (.int (e0_4 p3)), .unset, .unset, .unset, .unset] [(.int (1 : Int32)), (.int p4)])) _
      refine XS.iand X0.here hx rfl (hb hby at_41) rfl ?_
      exact kt)
  by_cases hc42_2 : (p4 &&& (1 : Int32)) = (0 : Int32)
  · obtain ⟨T3, h3, X3, e3, E3, A3, D3, -, st3⟩ := newO X0 hx hZ hown (hw _ (List.mem_of_getElem? (i := 1) rfl)) (hw _ (List.mem_of_getElem? (i := 2) rfl)) (hw _ (List.mem_of_getElem? (i := 3) rfl)) e0 (g := (mkF m 52 #[.val (.int p0), .val (.int p1), .val (.int p2), .val (.int p3), .val (.int p4), .val (.int (e0_1 p0)), .val (.int (e0_2 p1)), .val (.int (e0_3 p2)), .val (.int (e0_4 p3)), .val (.int (0 : Int32)), .unset, .unset, .unset] [])) rfl (hb hby at_52) (by decide) (by decide)
    obtain ⟨b3, g3⟩ : ∃ z, z = h0.size := ⟨_, rfl⟩
    rw [← g3] at A3 D3 st3
    have g_b3 : n0 ≤ b3 := Nat.le_trans Z0 (Nat.le_of_eq g3.symm)
    have sz_b3 : h0.size ≤ b3 := Nat.le_trans (Keep.refl h0 []).1 (Nat.le_of_eq g3.symm)
    have K4 : Keep h0 h3 [] := (Keep.refl h0 []).ext E3
    have Z5 : n0 ≤ h3.size := Nat.le_trans Z0 K4.1
    have E_b3 := A3
    have F_open_b3 : Fld Z h3 b3 "com/example/cardhost/cardhost/LogicalChannels" "open" "[Z" .null := D3 (Or.inr (hw _ (List.mem_of_getElem? (i := 12) rfl))) (ty := (.array .boolean)) (by decide)
    have F_active_b3 : Fld Z h3 b3 "com/example/cardhost/cardhost/LogicalChannels" "active" "[Lcom/example/cardhost/cardhost/InstalledApplet;" .null := D3 (Or.inr (hw _ (List.mem_of_getElem? (i := 16) rfl))) (ty := (.array (.object "com/example/cardhost/cardhost/InstalledApplet"))) (by decide)
    have F_defaults_b3 : Fld Z h3 b3 "com/example/cardhost/cardhost/LogicalChannels" "defaults" "[Lcom/example/cardhost/cardhost/InstalledApplet;" .null := D3 (Or.inr (hw _ (List.mem_of_getElem? (i := 18) rfl))) (ty := (.array (.object "com/example/cardhost/cardhost/InstalledApplet"))) (by decide)
    obtain ⟨_, _, ⟨T6, L6, k6, n6⟩, -, X6, ⟨Lc6, hQ6, l6, y6, z6⟩, st6⟩ := X3.specialBack hx (y := (⟨"com/example/cardhost/cardhost/LogicalChannels", "<init>", "()V"⟩ : MethodName)) rfl hown (mvT hZ (hw _ (List.mem_of_getElem? (i := 4) rfl))) (mvT hZ (hw _ (List.mem_of_getElem? (i := 5) rfl))) (mvT hZ (hw _ (List.mem_of_getElem? (i := 6) rfl))) (by decide) (backOf (W := 1) (rm1 l Z a0 hw [] b3 h3 n0 Z5 E_b3 F_open_b3 g_b3 F_active_b3 F_defaults_b3) hZ (hw _ (List.mem_of_getElem? (i := 6) rfl)) (hw _ (List.mem_of_getElem? (i := 3) rfl)) (by decide) (by decide)) (g := (mkF m 56 #[.val (.int p0), .val (.int p1), .val (.int p2), .val (.int p3), .val (.int p4), .val (.int (e0_1 p0)), .val (.int (e0_2 p1)), .val (.int (e0_3 p2)), .val (.int (e0_4 p3)), .val (.int (0 : Int32)), .unset, .unset, .unset] [(.ref b3), (.ref b3)])) rfl (by rw [hml]; rfl) (Steps.refl _) (a := b3) (argsL := []) (rest := [(.ref b3)]) (lenOf pd_0_0 rfl) rfl (by show 2 * 0 + _ ≤ _; exact Nat.le_of_eq rfl) (hb hby at_56) (fun _ _ => ⟨rfl, e3, (by decide : 1 + 3 ≤ _), (by decide : 3 + 60 ≤ _)⟩)
    dsimp only [Pt.U, Pt.locs, Pt.cells, Pt.slots] at X6 l6 y6 z6 st6 hQ6
    subst l6 y6 z6
    obtain ⟨r_o0_open_6, r_o0_active_6, r_o0_defaults_6, rfl, N6q, K6q, g_r_o0_open_6, szq_r_o0_open_6, g_r_o0_active_6, szq_r_o0_active_6, ne_r_o0_open_6_r_o0_active_6, g_r_o0_defaults_6, szq_r_o0_defaults_6, ne_r_o0_open_6_r_o0_defaults_6, ne_r_o0_active_6_r_o0_defaults_6, G6_0, G6_1, G6_2, G6_3, G6_4, G6_5⟩ := hQ6
    have N6 := Fr.app N0 N6q
    have ne_b3_r_o0_open_6 : b3 ≠ r_o0_open_6 := Nat.ne_of_lt (Nat.lt_of_lt_of_le E_b3.lt szq_r_o0_open_6)
    have sz_r_o0_open_6 : h0.size ≤ r_o0_open_6 := Nat.le_trans K4.1 szq_r_o0_open_6
    have ne_b3_r_o0_active_6 : b3 ≠ r_o0_active_6 := Nat.ne_of_lt (Nat.lt_of_lt_of_le E_b3.lt szq_r_o0_active_6)
    have sz_r_o0_active_6 : h0.size ≤ r_o0_active_6 := Nat.le_trans K4.1 szq_r_o0_active_6
    have ne_b3_r_o0_defaults_6 : b3 ≠ r_o0_defaults_6 := Nat.ne_of_lt (Nat.lt_of_lt_of_le E_b3.lt szq_r_o0_defaults_6)
    have sz_r_o0_defaults_6 : h0.size ≤ r_o0_defaults_6 := Nat.le_trans K4.1 szq_r_o0_defaults_6
    have K7 : Keep h0 T6.heap [] := K4.trans K6q (allS (Or.inr sz_b3) all0)
    have Z8 : n0 ≤ T6.heap.size := Nat.le_trans Z0 K7.1
    obtain ⟨LS6, X6, N6⟩ : ∃ L, Stand p l e room_1 s m #[(.int p0), (.int p1), (.int p2), (.int p3), (.int p4)] below meth c T6 L 4 63 ∧ Fr n0 L := ⟨_, X6, N6⟩
    obtain ⟨_, _, ⟨T9, L9, k9, n9⟩, -, X9, ⟨Lc9, hQ9, l9, y9, z9⟩, st9⟩ := Jvm.LawKit.callS X6 hx (y := (⟨"com/example/cardhost/cardhost/LogicalChannelsLowestClosedPinLaw", "openPrefix", "(Lcom/example/cardhost/cardhost/LogicalChannels;I)V"⟩ : MethodName)) hown (mvT hZ (hw _ (List.mem_of_getElem? (i := 19) rfl))) (mvT hZ (hw _ (List.mem_of_getElem? (i := 20) rfl))) (mvT hZ (hw _ (List.mem_of_getElem? (i := 21) rfl))) (mvT hZ (hw _ (List.mem_of_getElem? (i := 22) rfl))) (by decide) (backOf (W := 0) (rm3 l Z a0 hw [] b3 (e0_1 p0) r_o0_open_6 (own_upd (fun _ => 0) 0 (1 : Int32)) T6.heap n0 Z8 (E_b3.keep K6q) G6_0 G6_1 g_r_o0_open_6 ne_b3_r_o0_open_6) hZ (hw _ (List.mem_of_getElem? (i := 22) rfl)) (hw _ (List.mem_of_getElem? (i := 21) rfl)) (by decide) (by decide)) (g := (mkF m 65 #[.val (.int p0), .val (.int p1), .val (.int p2), .val (.int p3), .val (.int p4), .val (.int (e0_1 p0)), .val (.int (e0_2 p1)), .val (.int (e0_3 p2)), .val (.int (e0_4 p3)), .val (.int (0 : Int32)), .val (.ref b3), .unset, .unset] [(.int (e0_1 p0)), (.ref b3)])) rfl (by rw [hml]; rfl) (argsL := [(.ref b3), (.int (e0_1 p0))]) (rest := []) (lenOf pd_0_1 rfl) rfl (by show 2 * 0 + _ ≤ _; exact Nat.le_of_eq rfl) (hb hby at_65) (fun _ _ => ⟨rfl, rfl, (by decide : 4 + 0 ≤ _), (by decide : 63 + 0 ≤ _)⟩)
    dsimp only [Pt.U, Pt.locs, Pt.cells, Pt.slots] at X9 l9 y9 z9 st9 hQ9
    subst l9 y9 z9
    obtain ⟨rfl, N9q, K9q, G9_0⟩ := hQ9
    have N9 := Fr.app N6 N9q
    have K10 : Keep h0 T9.heap [] := K7.trans K9q (allS (Or.inr sz_r_o0_open_6) all0)
    have Z11 : n0 ≤ T9.heap.size := Nat.le_trans Z0 K10.1
    obtain ⟨LS9, X9, N9⟩ : ∃ L, Stand p l e room_1 s m #[(.int p0), (.int p1), (.int p2), (.int p3), (.int p4)] below meth c T9 L 4 63 ∧ Fr n0 L := ⟨_, X9, N9⟩
    obtain ⟨cq12, kq12, q12a, q12b, q12c⟩ := isOf hZ rfl ((E_b3.keep K6q).keep K9q)
    obtain ⟨_, _, ⟨T12, L12, k12, n12⟩, -, X12, ⟨Lc12, hQ12, l12, y12, z12⟩, st12⟩ := X9.virtualBack hx (y := (⟨"com/example/cardhost/cardhost/LogicalChannels", "open", "(I)V"⟩ : MethodName)) (z := (⟨"com/example/cardhost/cardhost/LogicalChannels", "open", "(I)V"⟩ : MethodName)) hown (mvT hZ (hw _ (List.mem_of_getElem? (i := 23) rfl))) (mvT hZ (hw _ (List.mem_of_getElem? (i := 24) rfl))) (notFace_of_selects (args := #[]) (mvT hZ (hw _ (List.mem_of_getElem? (i := 26) rfl)))) (mvT hZ (hw _ (List.mem_of_getElem? (i := 26) rfl))) (mvT hZ (hw _ (List.mem_of_getElem? (i := 25) rfl))) (by decide) (backOf (W := 0) (rm4 l Z a0 hw [] b3 (e0_2 p1) r_o0_open_6 (f3_r1_a (e0_1 p0) (own_upd (fun _ => 0) 0 (1 : Int32))) T9.heap n0 Z11 (G6_0.keep K9q (ninS ne_b3_r_o0_open_6 nin0)) G9_0 g_r_o0_open_6 (own_idx _)) hZ (hw _ (List.mem_of_getElem? (i := 27) rfl)) (hw _ (List.mem_of_getElem? (i := 3) rfl)) (by decide) (by decide)) q12a q12c (g := (mkF m 72 #[.val (.int p0), .val (.int p1), .val (.int p2), .val (.int p3), .val (.int p4), .val (.int (e0_1 p0)), .val (.int (e0_2 p1)), .val (.int (e0_3 p2)), .val (.int (e0_4 p3)), .val (.int (0 : Int32)), .val (.ref b3), .unset, .unset] [(.int (e0_2 p1)), (.ref b3)])) rfl (by rw [hml]; rfl) (Steps.refl _) (argsL := [(.int (e0_2 p1))]) (rest := []) (lenOf pd_0_2 rfl) rfl (by show 2 * 0 + _ ≤ _; exact Nat.le_of_eq rfl) (hb hby at_72) (fun _ _ => ⟨rfl, rfl, (by decide : 4 + 0 ≤ _), (by decide : 63 + 0 ≤ _)⟩)
    dsimp only [Pt.U, Pt.locs, Pt.cells, Pt.slots] at X12 l12 y12 z12 st12 hQ12
    subst l12 y12 z12
    obtain ⟨rfl, N12q, K12q, G12_0⟩ := hQ12
    have N12 := Fr.app N9 N12q
    have K13 : Keep h0 T12.heap [] := K10.trans K12q (allS (Or.inr sz_r_o0_open_6) all0)
    have Z14 : n0 ≤ T12.heap.size := Nat.le_trans Z0 K13.1
    obtain ⟨LS12, X12, N12⟩ : ∃ L, Stand p l e room_1 s m #[(.int p0), (.int p1), (.int p2), (.int p3), (.int p4)] below meth c T12 L 4 63 ∧ Fr n0 L := ⟨_, X12, N12⟩
    have c16 := ((G6_0.keep K9q (ninS ne_b3_r_o0_open_6 nin0)).keep K12q (ninS ne_b3_r_o0_open_6 nin0))
    obtain ⟨cq15, kq15, q15a, q15b, q15c⟩ := isOf hZ rfl (((E_b3.keep K6q).keep K9q).keep K12q)
    obtain ⟨_, _, ⟨T15, L15, k15, n15⟩, -, X15, ⟨Lc15, hQ15, l15, y15, z15⟩, st15⟩ := X12.virtualBack hx (y := (⟨"com/example/cardhost/cardhost/LogicalChannels", "open", "(I)V"⟩ : MethodName)) (z := (⟨"com/example/cardhost/cardhost/LogicalChannels", "open", "(I)V"⟩ : MethodName)) hown (mvT hZ (hw _ (List.mem_of_getElem? (i := 23) rfl))) (mvT hZ (hw _ (List.mem_of_getElem? (i := 24) rfl))) (notFace_of_selects (args := #[]) (mvT hZ (hw _ (List.mem_of_getElem? (i := 26) rfl)))) (mvT hZ (hw _ (List.mem_of_getElem? (i := 26) rfl))) (mvT hZ (hw _ (List.mem_of_getElem? (i := 25) rfl))) (by decide) (backOf (W := 0) (rm4 l Z a0 hw [] b3 (e0_3 p2) r_o0_open_6 (own_upd (f3_r1_a (e0_1 p0) (own_upd (fun _ => 0) 0 (1 : Int32))) ((e0_2 p1)).toNatClampNeg (1 : Int32)) T12.heap n0 Z14 c16 G12_0 g_r_o0_open_6 (own_idx _)) hZ (hw _ (List.mem_of_getElem? (i := 27) rfl)) (hw _ (List.mem_of_getElem? (i := 3) rfl)) (by decide) (by decide)) q15a q15c (g := (mkF m 79 #[.val (.int p0), .val (.int p1), .val (.int p2), .val (.int p3), .val (.int p4), .val (.int (e0_1 p0)), .val (.int (e0_2 p1)), .val (.int (e0_3 p2)), .val (.int (e0_4 p3)), .val (.int (0 : Int32)), .val (.ref b3), .unset, .unset] [(.int (e0_3 p2)), (.ref b3)])) rfl (by rw [hml]; rfl) (Steps.refl _) (argsL := [(.int (e0_3 p2))]) (rest := []) (lenOf pd_0_2 rfl) rfl (by show 2 * 0 + _ ≤ _; exact Nat.le_of_eq rfl) (hb hby at_79) (fun _ _ => ⟨rfl, rfl, (by decide : 4 + 0 ≤ _), (by decide : 63 + 0 ≤ _)⟩)
    dsimp only [Pt.U, Pt.locs, Pt.cells, Pt.slots] at X15 l15 y15 z15 st15 hQ15
    subst l15 y15 z15
    obtain ⟨rfl, N15q, K15q, G15_0⟩ := hQ15
    have N15 := Fr.app N12 N15q
    have K17 : Keep h0 T15.heap [] := K13.trans K15q (allS (Or.inr sz_r_o0_open_6) all0)
    have Z18 : n0 ≤ T15.heap.size := Nat.le_trans Z0 K17.1
    obtain ⟨LS15, X15, N15⟩ : ∃ L, Stand p l e room_1 s m #[(.int p0), (.int p1), (.int p2), (.int p3), (.int p4)] below meth c T15 L 4 63 ∧ Fr n0 L := ⟨_, X15, N15⟩
    have pre19 : ∀ t, Steps p.tables e below (T15.setTop (mkF m 84 #[.val (.int p0), .val (.int p1), .val (.int p2), .val (.int p3), .val (.int p4), .val (.int (e0_1 p0)), .val (.int (e0_2 p1)), .val (.int (e0_3 p2)), .val (.int (e0_4 p3)), .val (.int (0 : Int32)), .val (.ref b3), .unset, .unset] [(.int (0 : Int32))])) t → Steps p.tables e below (s₁.setTop (entryFrame m #[(.int p0), (.int p1), (.int p2), (.int p3), (.int p4)] maxLocals)) t := fun t kt => pre1 t (by
        show Steps p.tables e below (s₁.setTop (mkF m 42 #[.val (.int p0), .val (.int p1), .val (.int p2), .val (.int p3), .val (.int p4), .val (.int (e0_1 p0)), .val (.int (e0_2 p1)), .val (.int (e0_3 p2)), .val (.int (e0_4 p3)), .unset, .unset, .unset, .unset] [(.int (p4 &&& (1 : Int32)))])) _
        refine XS.ifYes X0.here hx rfl (pc0 := 42) (pc' := 49) rfl (hb hby at_42) rfl ((if0 _ _).trans (teq hc42_2).1) (by decide) (by decide) ?_
        show Steps p.tables e below (s₁.setTop (mkF m 49 #[.val (.int p0), .val (.int p1), .val (.int p2), .val (.int p3), .val (.int p4), .val (.int (e0_1 p0)), .val (.int (e0_2 p1)), .val (.int (e0_3 p2)), .val (.int (e0_4 p3)), .unset, .unset, .unset, .unset] [])) _
        refine XS.iconst X0.here hx rfl (hb hby at_49) ?_
        show Steps p.tables e below (s₁.setTop (mkF m 50 #[.val (.int p0), .val (.int p1), .val (.int p2), .val (.int p3), .val (.int p4), .val (.int (e0_1 p0)), .val (.int (e0_2 p1)), .val (.int (e0_3 p2)), .val (.int (e0_4 p3)), .unset, .unset, .unset, .unset] [(.int (0 : Int32))])) _
        refine XS.istore X0.here hx rfl (hb hby at_50) rfl (l' := #[.val (.int p0), .val (.int p1), .val (.int p2), .val (.int p3), .val (.int p4), .val (.int (e0_1 p0)), .val (.int (e0_2 p1)), .val (.int (e0_3 p2)), .val (.int (e0_4 p3)), .val (.int (0 : Int32)), .unset, .unset, .unset]) rfl ?_
        show Steps p.tables e below (s₁.setTop (mkF m 52 #[.val (.int p0), .val (.int p1), .val (.int p2), .val (.int p3), .val (.int p4), .val (.int (e0_1 p0)), .val (.int (e0_2 p1)), .val (.int (e0_3 p2)), .val (.int (e0_4 p3)), .val (.int (0 : Int32)), .unset, .unset, .unset] [])) _
        refine st3 _ ?_
        show Steps p.tables e below (T3.setTop (mkF m 55 #[.val (.int p0), .val (.int p1), .val (.int p2), .val (.int p3), .val (.int p4), .val (.int (e0_1 p0)), .val (.int (e0_2 p1)), .val (.int (e0_3 p2)), .val (.int (e0_4 p3)), .val (.int (0 : Int32)), .unset, .unset, .unset] [(.ref b3)])) _
        refine XS.dup X3.here hx rfl (hb hby at_55) rfl rfl ?_
        show Steps p.tables e below (T3.setTop (mkF m 56 #[.val (.int p0), .val (.int p1), .val (.int p2), .val (.int p3), .val (.int p4), .val (.int (e0_1 p0)), .val (.int (e0_2 p1)), .val (.int (e0_3 p2)), .val (.int (e0_4 p3)), .val (.int (0 : Int32)), .unset, .unset, .unset] [(.ref b3), (.ref b3)])) _
        refine st6.trans ?_
        show Steps p.tables e below (T6.setTop (mkF m 59 #[.val (.int p0), .val (.int p1), .val (.int p2), .val (.int p3), .val (.int p4), .val (.int (e0_1 p0)), .val (.int (e0_2 p1)), .val (.int (e0_3 p2)), .val (.int (e0_4 p3)), .val (.int (0 : Int32)), .unset, .unset, .unset] [(.ref b3)])) _
        refine XS.astore X6.here hx rfl (hb hby at_59) rfl rfl (l' := #[.val (.int p0), .val (.int p1), .val (.int p2), .val (.int p3), .val (.int p4), .val (.int (e0_1 p0)), .val (.int (e0_2 p1)), .val (.int (e0_3 p2)), .val (.int (e0_4 p3)), .val (.int (0 : Int32)), .val (.ref b3), .unset, .unset]) rfl ?_
        show Steps p.tables e below (T6.setTop (mkF m 61 #[.val (.int p0), .val (.int p1), .val (.int p2), .val (.int p3), .val (.int p4), .val (.int (e0_1 p0)), .val (.int (e0_2 p1)), .val (.int (e0_3 p2)), .val (.int (e0_4 p3)), .val (.int (0 : Int32)), .val (.ref b3), .unset, .unset] [])) _
        refine XS.aload X6.here hx rfl (hb hby at_61) rfl rfl ?_
        show Steps p.tables e below (T6.setTop (mkF m 63 #[.val (.int p0), .val (.int p1), .val (.int p2), .val (.int p3), .val (.int p4), .val (.int (e0_1 p0)), .val (.int (e0_2 p1)), .val (.int (e0_3 p2)), .val (.int (e0_4 p3)), .val (.int (0 : Int32)), .val (.ref b3), .unset, .unset] [(.ref b3)])) _
        refine XS.iload X6.here hx rfl (hb hby at_63) rfl ?_
        show Steps p.tables e below (T6.setTop (mkF m 65 #[.val (.int p0), .val (.int p1), .val (.int p2), .val (.int p3), .val (.int p4), .val (.int (e0_1 p0)), .val (.int (e0_2 p1)), .val (.int (e0_3 p2)), .val (.int (e0_4 p3)), .val (.int (0 : Int32)), .val (.ref b3), .unset, .unset] [(.int (e0_1 p0)), (.ref b3)])) _
        refine st9 _ ?_
        show Steps p.tables e below (T9.setTop (mkF m 68 #[.val (.int p0), .val (.int p1), .val (.int p2), .val (.int p3), .val (.int p4), .val (.int (e0_1 p0)), .val (.int (e0_2 p1)), .val (.int (e0_3 p2)), .val (.int (e0_4 p3)), .val (.int (0 : Int32)), .val (.ref b3), .unset, .unset] [])) _
        refine XS.aload X9.here hx rfl (hb hby at_68) rfl rfl ?_
        show Steps p.tables e below (T9.setTop (mkF m 70 #[.val (.int p0), .val (.int p1), .val (.int p2), .val (.int p3), .val (.int p4), .val (.int (e0_1 p0)), .val (.int (e0_2 p1)), .val (.int (e0_3 p2)), .val (.int (e0_4 p3)), .val (.int (0 : Int32)), .val (.ref b3), .unset, .unset] [(.ref b3)])) _
        refine XS.iload X9.here hx rfl (hb hby at_70) rfl ?_
        show Steps p.tables e below (T9.setTop (mkF m 72 #[.val (.int p0), .val (.int p1), .val (.int p2), .val (.int p3), .val (.int p4), .val (.int (e0_1 p0)), .val (.int (e0_2 p1)), .val (.int (e0_3 p2)), .val (.int (e0_4 p3)), .val (.int (0 : Int32)), .val (.ref b3), .unset, .unset] [(.int (e0_2 p1)), (.ref b3)])) _
        refine st12.trans ?_
        show Steps p.tables e below (T12.setTop (mkF m 75 #[.val (.int p0), .val (.int p1), .val (.int p2), .val (.int p3), .val (.int p4), .val (.int (e0_1 p0)), .val (.int (e0_2 p1)), .val (.int (e0_3 p2)), .val (.int (e0_4 p3)), .val (.int (0 : Int32)), .val (.ref b3), .unset, .unset] [])) _
        refine XS.aload X12.here hx rfl (hb hby at_75) rfl rfl ?_
        show Steps p.tables e below (T12.setTop (mkF m 77 #[.val (.int p0), .val (.int p1), .val (.int p2), .val (.int p3), .val (.int p4), .val (.int (e0_1 p0)), .val (.int (e0_2 p1)), .val (.int (e0_3 p2)), .val (.int (e0_4 p3)), .val (.int (0 : Int32)), .val (.ref b3), .unset, .unset] [(.ref b3)])) _
        refine XS.iload X12.here hx rfl (hb hby at_77) rfl ?_
        show Steps p.tables e below (T12.setTop (mkF m 79 #[.val (.int p0), .val (.int p1), .val (.int p2), .val (.int p3), .val (.int p4), .val (.int (e0_1 p0)), .val (.int (e0_2 p1)), .val (.int (e0_3 p2)), .val (.int (e0_4 p3)), .val (.int (0 : Int32)), .val (.ref b3), .unset, .unset] [(.int (e0_3 p2)), (.ref b3)])) _
        refine st15.trans ?_
        show Steps p.tables e below (T15.setTop (mkF m 82 #[.val (.int p0), .val (.int p1), .val (.int p2), .val (.int p3), .val (.int p4), .val (.int (e0_1 p0)), .val (.int (e0_2 p1)), .val (.int (e0_3 p2)), .val (.int (e0_4 p3)), .val (.int (0 : Int32)), .val (.ref b3), .unset, .unset] [])) _
        refine XS.iload X15.here hx rfl (hb hby at_82) rfl ?_
        exact kt)
    have pre20 : ∀ t, Steps p.tables e below (T15.setTop (mkF m 104 #[.val (.int p0), .val (.int p1), .val (.int p2), .val (.int p3), .val (.int p4), .val (.int (e0_1 p0)), .val (.int (e0_2 p1)), .val (.int (e0_3 p2)), .val (.int (e0_4 p3)), .val (.int (0 : Int32)), .val (.ref b3), .val (.int ((e0_1 p0) + (1 : Int32))), .unset] [(.int ((e0_1 p0) + (1 : Int32))), (.int (e0_2 p1))])) t → Steps p.tables e below (s₁.setTop (entryFrame m #[(.int p0), (.int p1), (.int p2), (.int p3), (.int p4)] maxLocals)) t := fun t kt => pre19 t (by
        show Steps p.tables e below (T15.setTop (mkF m 84 #[.val (.int p0), .val (.int p1), .val (.int p2), .val (.int p3), .val (.int p4), .val (.int (e0_1 p0)), .val (.int (e0_2 p1)), .val (.int (e0_3 p2)), .val (.int (e0_4 p3)), .val (.int (0 : Int32)), .val (.ref b3), .unset, .unset] [(.int (0 : Int32))])) _
        refine XS.ifYes X15.here hx rfl (pc0 := 84) (pc' := 94) rfl (hb hby at_84) rfl ((if0 _ _).trans (teq (by decide : ((0 : Int32) = (0 : Int32)))).1) (by decide) (by decide) ?_
        show Steps p.tables e below (T15.setTop (mkF m 94 #[.val (.int p0), .val (.int p1), .val (.int p2), .val (.int p3), .val (.int p4), .val (.int (e0_1 p0)), .val (.int (e0_2 p1)), .val (.int (e0_3 p2)), .val (.int (e0_4 p3)), .val (.int (0 : Int32)), .val (.ref b3), .unset, .unset] [])) _
        refine XS.iload X15.here hx rfl (hb hby at_94) rfl ?_
        show Steps p.tables e below (T15.setTop (mkF m 96 #[.val (.int p0), .val (.int p1), .val (.int p2), .val (.int p3), .val (.int p4), .val (.int (e0_1 p0)), .val (.int (e0_2 p1)), .val (.int (e0_3 p2)), .val (.int (e0_4 p3)), .val (.int (0 : Int32)), .val (.ref b3), .unset, .unset] [(.int (e0_1 p0))])) _
        refine XS.iconst X15.here hx rfl (hb hby at_96) ?_
        show Steps p.tables e below (T15.setTop (mkF m 97 #[.val (.int p0), .val (.int p1), .val (.int p2), .val (.int p3), .val (.int p4), .val (.int (e0_1 p0)), .val (.int (e0_2 p1)), .val (.int (e0_3 p2)), .val (.int (e0_4 p3)), .val (.int (0 : Int32)), .val (.ref b3), .unset, .unset] [(.int (1 : Int32)), (.int (e0_1 p0))])) _
        refine XS.iadd X15.here hx rfl (hb hby at_97) rfl ?_
        show Steps p.tables e below (T15.setTop (mkF m 98 #[.val (.int p0), .val (.int p1), .val (.int p2), .val (.int p3), .val (.int p4), .val (.int (e0_1 p0)), .val (.int (e0_2 p1)), .val (.int (e0_3 p2)), .val (.int (e0_4 p3)), .val (.int (0 : Int32)), .val (.ref b3), .unset, .unset] [(.int ((e0_1 p0) + (1 : Int32)))])) _
        refine XS.istore X15.here hx rfl (hb hby at_98) rfl (l' := #[.val (.int p0), .val (.int p1), .val (.int p2), .val (.int p3), .val (.int p4), .val (.int (e0_1 p0)), .val (.int (e0_2 p1)), .val (.int (e0_3 p2)), .val (.int (e0_4 p3)), .val (.int (0 : Int32)), .val (.ref b3), .val (.int ((e0_1 p0) + (1 : Int32))), .unset]) rfl ?_
        show Steps p.tables e below (T15.setTop (mkF m 100 #[.val (.int p0), .val (.int p1), .val (.int p2), .val (.int p3), .val (.int p4), .val (.int (e0_1 p0)), .val (.int (e0_2 p1)), .val (.int (e0_3 p2)), .val (.int (e0_4 p3)), .val (.int (0 : Int32)), .val (.ref b3), .val (.int ((e0_1 p0) + (1 : Int32))), .unset] [])) _
        refine XS.iload X15.here hx rfl (hb hby at_100) rfl ?_
        show Steps p.tables e below (T15.setTop (mkF m 102 #[.val (.int p0), .val (.int p1), .val (.int p2), .val (.int p3), .val (.int p4), .val (.int (e0_1 p0)), .val (.int (e0_2 p1)), .val (.int (e0_3 p2)), .val (.int (e0_4 p3)), .val (.int (0 : Int32)), .val (.ref b3), .val (.int ((e0_1 p0) + (1 : Int32))), .unset] [(.int (e0_2 p1))])) _
        refine XS.iload X15.here hx rfl (hb hby at_102) rfl ?_
        exact kt)
    by_cases hc104_21 : (e0_2 p1) = ((e0_1 p0) + (1 : Int32))
    · have pre22 : ∀ t, Steps p.tables e below (T15.setTop (mkF m 124 #[.val (.int p0), .val (.int p1), .val (.int p2), .val (.int p3), .val (.int p4), .val (.int (e0_1 p0)), .val (.int (e0_2 p1)), .val (.int (e0_3 p2)), .val (.int (e0_4 p3)), .val (.int (0 : Int32)), .val (.ref b3), .val (.int (((e0_1 p0) + (1 : Int32)) + (1 : Int32))), .unset] [(.int (((e0_1 p0) + (1 : Int32)) + (1 : Int32))), (.int (e0_2 p1))])) t → Steps p.tables e below (s₁.setTop (entryFrame m #[(.int p0), (.int p1), (.int p2), (.int p3), (.int p4)] maxLocals)) t := fun t kt => pre20 t (by
          show Steps p.tables e below (T15.setTop (mkF m 104 #[.val (.int p0), .val (.int p1), .val (.int p2), .val (.int p3), .val (.int p4), .val (.int (e0_1 p0)), .val (.int (e0_2 p1)), .val (.int (e0_3 p2)), .val (.int (e0_4 p3)), .val (.int (0 : Int32)), .val (.ref b3), .val (.int ((e0_1 p0) + (1 : Int32))), .unset] [(.int ((e0_1 p0) + (1 : Int32))), (.int (e0_2 p1))])) _
          refine XS.icmpYes X15.here hx rfl (pc0 := 104) (pc' := 114) rfl (hb hby at_104) rfl (teq hc104_21).1 (by decide) (by decide) ?_
          show Steps p.tables e below (T15.setTop (mkF m 114 #[.val (.int p0), .val (.int p1), .val (.int p2), .val (.int p3), .val (.int p4), .val (.int (e0_1 p0)), .val (.int (e0_2 p1)), .val (.int (e0_3 p2)), .val (.int (e0_4 p3)), .val (.int (0 : Int32)), .val (.ref b3), .val (.int ((e0_1 p0) + (1 : Int32))), .unset] [])) _
          refine XS.iload X15.here hx rfl (hb hby at_114) rfl ?_
          show Steps p.tables e below (T15.setTop (mkF m 116 #[.val (.int p0), .val (.int p1), .val (.int p2), .val (.int p3), .val (.int p4), .val (.int (e0_1 p0)), .val (.int (e0_2 p1)), .val (.int (e0_3 p2)), .val (.int (e0_4 p3)), .val (.int (0 : Int32)), .val (.ref b3), .val (.int ((e0_1 p0) + (1 : Int32))), .unset] [(.int ((e0_1 p0) + (1 : Int32)))])) _
          refine XS.iconst X15.here hx rfl (hb hby at_116) ?_
          show Steps p.tables e below (T15.setTop (mkF m 117 #[.val (.int p0), .val (.int p1), .val (.int p2), .val (.int p3), .val (.int p4), .val (.int (e0_1 p0)), .val (.int (e0_2 p1)), .val (.int (e0_3 p2)), .val (.int (e0_4 p3)), .val (.int (0 : Int32)), .val (.ref b3), .val (.int ((e0_1 p0) + (1 : Int32))), .unset] [(.int (1 : Int32)), (.int ((e0_1 p0) + (1 : Int32)))])) _
          refine XS.iadd X15.here hx rfl (hb hby at_117) rfl ?_
          show Steps p.tables e below (T15.setTop (mkF m 118 #[.val (.int p0), .val (.int p1), .val (.int p2), .val (.int p3), .val (.int p4), .val (.int (e0_1 p0)), .val (.int (e0_2 p1)), .val (.int (e0_3 p2)), .val (.int (e0_4 p3)), .val (.int (0 : Int32)), .val (.ref b3), .val (.int ((e0_1 p0) + (1 : Int32))), .unset] [(.int (((e0_1 p0) + (1 : Int32)) + (1 : Int32)))])) _
          refine XS.istore X15.here hx rfl (hb hby at_118) rfl (l' := #[.val (.int p0), .val (.int p1), .val (.int p2), .val (.int p3), .val (.int p4), .val (.int (e0_1 p0)), .val (.int (e0_2 p1)), .val (.int (e0_3 p2)), .val (.int (e0_4 p3)), .val (.int (0 : Int32)), .val (.ref b3), .val (.int (((e0_1 p0) + (1 : Int32)) + (1 : Int32))), .unset]) rfl ?_
          show Steps p.tables e below (T15.setTop (mkF m 120 #[.val (.int p0), .val (.int p1), .val (.int p2), .val (.int p3), .val (.int p4), .val (.int (e0_1 p0)), .val (.int (e0_2 p1)), .val (.int (e0_3 p2)), .val (.int (e0_4 p3)), .val (.int (0 : Int32)), .val (.ref b3), .val (.int (((e0_1 p0) + (1 : Int32)) + (1 : Int32))), .unset] [])) _
          refine XS.iload X15.here hx rfl (hb hby at_120) rfl ?_
          show Steps p.tables e below (T15.setTop (mkF m 122 #[.val (.int p0), .val (.int p1), .val (.int p2), .val (.int p3), .val (.int p4), .val (.int (e0_1 p0)), .val (.int (e0_2 p1)), .val (.int (e0_3 p2)), .val (.int (e0_4 p3)), .val (.int (0 : Int32)), .val (.ref b3), .val (.int (((e0_1 p0) + (1 : Int32)) + (1 : Int32))), .unset] [(.int (e0_2 p1))])) _
          refine XS.iload X15.here hx rfl (hb hby at_122) rfl ?_
          exact kt)
      by_cases hc124_23 : (e0_2 p1) = (((e0_1 p0) + (1 : Int32)) + (1 : Int32))
      · have pre24 : ∀ t, Steps p.tables e below (T15.setTop (mkF m 142 #[.val (.int p0), .val (.int p1), .val (.int p2), .val (.int p3), .val (.int p4), .val (.int (e0_1 p0)), .val (.int (e0_2 p1)), .val (.int (e0_3 p2)), .val (.int (e0_4 p3)), .val (.int (0 : Int32)), .val (.ref b3), .val (.int ((((e0_1 p0) + (1 : Int32)) + (1 : Int32)) + (1 : Int32))), .unset] [(.int (0 : Int32))])) t → Steps p.tables e below (s₁.setTop (entryFrame m #[(.int p0), (.int p1), (.int p2), (.int p3), (.int p4)] maxLocals)) t := fun t kt => pre22 t (by
            show Steps p.tables e below (T15.setTop (mkF m 124 #[.val (.int p0), .val (.int p1), .val (.int p2), .val (.int p3), .val (.int p4), .val (.int (e0_1 p0)), .val (.int (e0_2 p1)), .val (.int (e0_3 p2)), .val (.int (e0_4 p3)), .val (.int (0 : Int32)), .val (.ref b3), .val (.int (((e0_1 p0) + (1 : Int32)) + (1 : Int32))), .unset] [(.int (((e0_1 p0) + (1 : Int32)) + (1 : Int32))), (.int (e0_2 p1))])) _
            refine XS.icmpYes X15.here hx rfl (pc0 := 124) (pc' := 134) rfl (hb hby at_124) rfl (teq hc124_23).1 (by decide) (by decide) ?_
            show Steps p.tables e below (T15.setTop (mkF m 134 #[.val (.int p0), .val (.int p1), .val (.int p2), .val (.int p3), .val (.int p4), .val (.int (e0_1 p0)), .val (.int (e0_2 p1)), .val (.int (e0_3 p2)), .val (.int (e0_4 p3)), .val (.int (0 : Int32)), .val (.ref b3), .val (.int (((e0_1 p0) + (1 : Int32)) + (1 : Int32))), .unset] [])) _
            refine XS.iload X15.here hx rfl (hb hby at_134) rfl ?_
            show Steps p.tables e below (T15.setTop (mkF m 136 #[.val (.int p0), .val (.int p1), .val (.int p2), .val (.int p3), .val (.int p4), .val (.int (e0_1 p0)), .val (.int (e0_2 p1)), .val (.int (e0_3 p2)), .val (.int (e0_4 p3)), .val (.int (0 : Int32)), .val (.ref b3), .val (.int (((e0_1 p0) + (1 : Int32)) + (1 : Int32))), .unset] [(.int (((e0_1 p0) + (1 : Int32)) + (1 : Int32)))])) _
            refine XS.iconst X15.here hx rfl (hb hby at_136) ?_
            show Steps p.tables e below (T15.setTop (mkF m 137 #[.val (.int p0), .val (.int p1), .val (.int p2), .val (.int p3), .val (.int p4), .val (.int (e0_1 p0)), .val (.int (e0_2 p1)), .val (.int (e0_3 p2)), .val (.int (e0_4 p3)), .val (.int (0 : Int32)), .val (.ref b3), .val (.int (((e0_1 p0) + (1 : Int32)) + (1 : Int32))), .unset] [(.int (1 : Int32)), (.int (((e0_1 p0) + (1 : Int32)) + (1 : Int32)))])) _
            refine XS.iadd X15.here hx rfl (hb hby at_137) rfl ?_
            show Steps p.tables e below (T15.setTop (mkF m 138 #[.val (.int p0), .val (.int p1), .val (.int p2), .val (.int p3), .val (.int p4), .val (.int (e0_1 p0)), .val (.int (e0_2 p1)), .val (.int (e0_3 p2)), .val (.int (e0_4 p3)), .val (.int (0 : Int32)), .val (.ref b3), .val (.int (((e0_1 p0) + (1 : Int32)) + (1 : Int32))), .unset] [(.int ((((e0_1 p0) + (1 : Int32)) + (1 : Int32)) + (1 : Int32)))])) _
            refine XS.istore X15.here hx rfl (hb hby at_138) rfl (l' := #[.val (.int p0), .val (.int p1), .val (.int p2), .val (.int p3), .val (.int p4), .val (.int (e0_1 p0)), .val (.int (e0_2 p1)), .val (.int (e0_3 p2)), .val (.int (e0_4 p3)), .val (.int (0 : Int32)), .val (.ref b3), .val (.int ((((e0_1 p0) + (1 : Int32)) + (1 : Int32)) + (1 : Int32))), .unset]) rfl ?_
            show Steps p.tables e below (T15.setTop (mkF m 140 #[.val (.int p0), .val (.int p1), .val (.int p2), .val (.int p3), .val (.int p4), .val (.int (e0_1 p0)), .val (.int (e0_2 p1)), .val (.int (e0_3 p2)), .val (.int (e0_4 p3)), .val (.int (0 : Int32)), .val (.ref b3), .val (.int ((((e0_1 p0) + (1 : Int32)) + (1 : Int32)) + (1 : Int32))), .unset] [])) _
            refine XS.iload X15.here hx rfl (hb hby at_140) rfl ?_
            exact kt)
        obtain ⟨cq25, kq25, q25a, q25b, q25c⟩ := isOf hZ rfl ((((E_b3.keep K6q).keep K9q).keep K12q).keep K15q)
        obtain ⟨_, _, ⟨T25, L25, k25, n25⟩, -, X25, ⟨Lc25, hQ25, l25, y25, z25⟩, st25⟩ := X15.virtualBack hx (y := (⟨"com/example/cardhost/cardhost/LogicalChannels", "lowestClosed", "()I"⟩ : MethodName)) (z := (⟨"com/example/cardhost/cardhost/LogicalChannels", "lowestClosed", "()I"⟩ : MethodName)) hown (mvT hZ (hw _ (List.mem_of_getElem? (i := 28) rfl))) (mvT hZ (hw _ (List.mem_of_getElem? (i := 29) rfl))) (notFace_of_selects (args := #[]) (mvT hZ (hw _ (List.mem_of_getElem? (i := 31) rfl)))) (mvT hZ (hw _ (List.mem_of_getElem? (i := 31) rfl))) (mvT hZ (hw _ (List.mem_of_getElem? (i := 30) rfl))) (by decide) (backOf (W := 0) (rm5 l Z a0 hw [] b3 r_o0_open_6 (own_upd (own_upd (f3_r1_a (e0_1 p0) (own_upd (fun _ => 0) 0 (1 : Int32))) ((e0_2 p1)).toNatClampNeg (1 : Int32)) ((e0_3 p2)).toNatClampNeg (1 : Int32)) T15.heap n0 Z18 (c16.keep K15q (ninS ne_b3_r_o0_open_6 nin0)) G15_0 g_r_o0_open_6) hZ (hw _ (List.mem_of_getElem? (i := 32) rfl)) (hw _ (List.mem_of_getElem? (i := 3) rfl)) (by decide) (by decide)) q25a q25c (g := (mkF m 161 #[.val (.int p0), .val (.int p1), .val (.int p2), .val (.int p3), .val (.int p4), .val (.int (e0_1 p0)), .val (.int (e0_2 p1)), .val (.int (e0_3 p2)), .val (.int (e0_4 p3)), .val (.int (0 : Int32)), .val (.ref b3), .val (.int ((((e0_1 p0) + (1 : Int32)) + (1 : Int32)) + (1 : Int32))), .val (.int ((((e0_1 p0) + (1 : Int32)) + (1 : Int32)) + (1 : Int32)))] [(.ref b3)])) rfl (by rw [hml]; rfl) (Steps.refl _) (argsL := []) (rest := []) (lenOf pd_0_3 rfl) rfl (by show 2 * 0 + _ ≤ _; exact Nat.le_of_eq rfl) (hb hby at_161) (fun _ _ => ⟨rfl, rfl, (by decide : 4 + 0 ≤ _), (by decide : 63 + 0 ≤ _)⟩)
        dsimp only [Pt.U, Pt.locs, Pt.cells, Pt.slots] at X25 l25 y25 z25 st25 hQ25
        subst l25 y25 z25
        obtain ⟨rfl, N25q, e25q⟩ := hQ25
        have N25 := Fr.app N15 N25q
        have pre26 : ∀ t, Steps p.tables e below (T25.setTop (mkF m 166 #[.val (.int p0), .val (.int p1), .val (.int p2), .val (.int p3), .val (.int p4), .val (.int (e0_1 p0)), .val (.int (e0_2 p1)), .val (.int (e0_3 p2)), .val (.int (e0_4 p3)), .val (.int (0 : Int32)), .val (.ref b3), .val (.int ((((e0_1 p0) + (1 : Int32)) + (1 : Int32)) + (1 : Int32))), .val (.int ((((e0_1 p0) + (1 : Int32)) + (1 : Int32)) + (1 : Int32)))] [(.int ((((e0_1 p0) + (1 : Int32)) + (1 : Int32)) + (1 : Int32))), (.int (f5 (own_upd (own_upd (f3_r1_a (e0_1 p0) (own_upd (fun _ => 0) 0 (1 : Int32))) ((e0_2 p1)).toNatClampNeg (1 : Int32)) ((e0_3 p2)).toNatClampNeg (1 : Int32))))])) t → Steps p.tables e below (s₁.setTop (entryFrame m #[(.int p0), (.int p1), (.int p2), (.int p3), (.int p4)] maxLocals)) t := fun t kt => pre24 t (by
            show Steps p.tables e below (T15.setTop (mkF m 142 #[.val (.int p0), .val (.int p1), .val (.int p2), .val (.int p3), .val (.int p4), .val (.int (e0_1 p0)), .val (.int (e0_2 p1)), .val (.int (e0_3 p2)), .val (.int (e0_4 p3)), .val (.int (0 : Int32)), .val (.ref b3), .val (.int ((((e0_1 p0) + (1 : Int32)) + (1 : Int32)) + (1 : Int32))), .unset] [(.int (0 : Int32))])) _
            refine XS.ifYes X15.here hx rfl (pc0 := 142) (pc' := 155) rfl (hb hby at_142) rfl ((if0 _ _).trans (teq (by decide : ((0 : Int32) = (0 : Int32)))).1) (by decide) (by decide) ?_
            show Steps p.tables e below (T15.setTop (mkF m 155 #[.val (.int p0), .val (.int p1), .val (.int p2), .val (.int p3), .val (.int p4), .val (.int (e0_1 p0)), .val (.int (e0_2 p1)), .val (.int (e0_3 p2)), .val (.int (e0_4 p3)), .val (.int (0 : Int32)), .val (.ref b3), .val (.int ((((e0_1 p0) + (1 : Int32)) + (1 : Int32)) + (1 : Int32))), .unset] [])) _
            refine XS.iload X15.here hx rfl (hb hby at_155) rfl ?_
            show Steps p.tables e below (T15.setTop (mkF m 157 #[.val (.int p0), .val (.int p1), .val (.int p2), .val (.int p3), .val (.int p4), .val (.int (e0_1 p0)), .val (.int (e0_2 p1)), .val (.int (e0_3 p2)), .val (.int (e0_4 p3)), .val (.int (0 : Int32)), .val (.ref b3), .val (.int ((((e0_1 p0) + (1 : Int32)) + (1 : Int32)) + (1 : Int32))), .unset] [(.int ((((e0_1 p0) + (1 : Int32)) + (1 : Int32)) + (1 : Int32)))])) _
            refine XS.istore X15.here hx rfl (hb hby at_157) rfl (l' := #[.val (.int p0), .val (.int p1), .val (.int p2), .val (.int p3), .val (.int p4), .val (.int (e0_1 p0)), .val (.int (e0_2 p1)), .val (.int (e0_3 p2)), .val (.int (e0_4 p3)), .val (.int (0 : Int32)), .val (.ref b3), .val (.int ((((e0_1 p0) + (1 : Int32)) + (1 : Int32)) + (1 : Int32))), .val (.int ((((e0_1 p0) + (1 : Int32)) + (1 : Int32)) + (1 : Int32)))]) rfl ?_
            show Steps p.tables e below (T15.setTop (mkF m 159 #[.val (.int p0), .val (.int p1), .val (.int p2), .val (.int p3), .val (.int p4), .val (.int (e0_1 p0)), .val (.int (e0_2 p1)), .val (.int (e0_3 p2)), .val (.int (e0_4 p3)), .val (.int (0 : Int32)), .val (.ref b3), .val (.int ((((e0_1 p0) + (1 : Int32)) + (1 : Int32)) + (1 : Int32))), .val (.int ((((e0_1 p0) + (1 : Int32)) + (1 : Int32)) + (1 : Int32)))] [])) _
            refine XS.aload X15.here hx rfl (hb hby at_159) rfl rfl ?_
            show Steps p.tables e below (T15.setTop (mkF m 161 #[.val (.int p0), .val (.int p1), .val (.int p2), .val (.int p3), .val (.int p4), .val (.int (e0_1 p0)), .val (.int (e0_2 p1)), .val (.int (e0_3 p2)), .val (.int (e0_4 p3)), .val (.int (0 : Int32)), .val (.ref b3), .val (.int ((((e0_1 p0) + (1 : Int32)) + (1 : Int32)) + (1 : Int32))), .val (.int ((((e0_1 p0) + (1 : Int32)) + (1 : Int32)) + (1 : Int32)))] [(.ref b3)])) _
            refine st25.trans ?_
            show Steps p.tables e below (T25.setTop (mkF m 164 #[.val (.int p0), .val (.int p1), .val (.int p2), .val (.int p3), .val (.int p4), .val (.int (e0_1 p0)), .val (.int (e0_2 p1)), .val (.int (e0_3 p2)), .val (.int (e0_4 p3)), .val (.int (0 : Int32)), .val (.ref b3), .val (.int ((((e0_1 p0) + (1 : Int32)) + (1 : Int32)) + (1 : Int32))), .val (.int ((((e0_1 p0) + (1 : Int32)) + (1 : Int32)) + (1 : Int32)))] [(.int (f5 (own_upd (own_upd (f3_r1_a (e0_1 p0) (own_upd (fun _ => 0) 0 (1 : Int32))) ((e0_2 p1)).toNatClampNeg (1 : Int32)) ((e0_3 p2)).toNatClampNeg (1 : Int32))))])) _
            refine XS.iload X25.here hx rfl (hb hby at_164) rfl ?_
            exact kt)
        have hd166_27 : (f5 (own_upd (own_upd (f3_r1_a (e0_1 p0) (own_upd (fun _ => 0) 0 (1 : Int32))) ((e0_2 p1)).toNatClampNeg (1 : Int32)) ((e0_3 p2)).toNatClampNeg (1 : Int32))) = ((((e0_1 p0) + (1 : Int32)) + (1 : Int32)) + (1 : Int32)) := by have q0 := hc104_21; rw [← Int32.toInt_inj] at q0; have q1 := hc124_23; rw [← Int32.toInt_inj] at q1; have s1 := c_iadd (e0_1 p0) 1; have r1 := rng32 ((e0_1 p0) + 1); have s2 := c_iadd ((e0_1 p0) + 1) 1; have r2 := rng32 ((e0_1 p0) + 1 + 1); have s3 := c_iadd ((e0_1 p0) + 1 + 1) 1; have r3 := rng32 ((e0_1 p0) + 1 + 1 + 1); have e1 : (1 : Int32).toInt = 1 := (by decide); rw [e1] at s1 s2 s3; have hk : 0 ≤ (e0_1 p0).toInt ∧ (e0_1 p0).toInt ≤ 19 := own_b p0; have ha : 0 ≤ (e0_2 p1).toInt ∧ (e0_2 p1).toInt ≤ 19 := own_b p1; have hb : 0 ≤ (e0_3 p2).toInt ∧ (e0_3 p2).toInt ≤ 19 := own_b p2; exact own_fin0 (M := ((((e0_1 p0) + (1 : Int32)) + (1 : Int32)) + (1 : Int32))) hk ha hb (by unfold own_mm; repeat' split; all_goals omega)
        obtain ⟨fs, hr, hrun, hended, hW, hsame⟩ := X25.leave (v := some (.int (1 : Int32))) (fun h => by rw [Bd.returns] at h; cases h)
        have hv145 : (1 : Int32) = (1 : Int32) := rfl
        refine ⟨_, _, pre26 _ ?_, hrun, hended, _, _, rfl, ?_, ⟨_, rfl⟩, hW, hsame.mono (by decide) (by decide)⟩
        · show Steps p.tables e below (T25.setTop (mkF m 166 #[.val (.int p0), .val (.int p1), .val (.int p2), .val (.int p3), .val (.int p4), .val (.int (e0_1 p0)), .val (.int (e0_2 p1)), .val (.int (e0_3 p2)), .val (.int (e0_4 p3)), .val (.int (0 : Int32)), .val (.ref b3), .val (.int ((((e0_1 p0) + (1 : Int32)) + (1 : Int32)) + (1 : Int32))), .val (.int ((((e0_1 p0) + (1 : Int32)) + (1 : Int32)) + (1 : Int32)))] [(.int ((((e0_1 p0) + (1 : Int32)) + (1 : Int32)) + (1 : Int32))), (.int (f5 (own_upd (own_upd (f3_r1_a (e0_1 p0) (own_upd (fun _ => 0) 0 (1 : Int32))) ((e0_2 p1)).toNatClampNeg (1 : Int32)) ((e0_3 p2)).toNatClampNeg (1 : Int32))))])) _
          refine XS.icmpNo X25.here hx rfl (hb hby at_166) rfl (teq hd166_27).2 ?_
          show Steps p.tables e below (T25.setTop (mkF m 169 #[.val (.int p0), .val (.int p1), .val (.int p2), .val (.int p3), .val (.int p4), .val (.int (e0_1 p0)), .val (.int (e0_2 p1)), .val (.int (e0_3 p2)), .val (.int (e0_4 p3)), .val (.int (0 : Int32)), .val (.ref b3), .val (.int ((((e0_1 p0) + (1 : Int32)) + (1 : Int32)) + (1 : Int32))), .val (.int ((((e0_1 p0) + (1 : Int32)) + (1 : Int32)) + (1 : Int32)))] [])) _
          refine XS.iconst X25.here hx rfl (hb hby at_169) ?_
          show Steps p.tables e below (T25.setTop (mkF m 170 #[.val (.int p0), .val (.int p1), .val (.int p2), .val (.int p3), .val (.int p4), .val (.int (e0_1 p0)), .val (.int (e0_2 p1)), .val (.int (e0_3 p2)), .val (.int (e0_4 p3)), .val (.int (0 : Int32)), .val (.ref b3), .val (.int ((((e0_1 p0) + (1 : Int32)) + (1 : Int32)) + (1 : Int32))), .val (.int ((((e0_1 p0) + (1 : Int32)) + (1 : Int32)) + (1 : Int32)))] [(.int (1 : Int32))])) _
          refine XS.goto X25.here hx rfl (pc0 := 170) (pc' := 174) rfl (hb hby at_170) (by decide) (by decide) ?_
          show Steps p.tables e below (T25.setTop (mkF m 174 #[.val (.int p0), .val (.int p1), .val (.int p2), .val (.int p3), .val (.int p4), .val (.int (e0_1 p0)), .val (.int (e0_2 p1)), .val (.int (e0_3 p2)), .val (.int (e0_4 p3)), .val (.int (0 : Int32)), .val (.ref b3), .val (.int ((((e0_1 p0) + (1 : Int32)) + (1 : Int32)) + (1 : Int32))), .val (.int ((((e0_1 p0) + (1 : Int32)) + (1 : Int32)) + (1 : Int32)))] [(.int (1 : Int32))])) _
          exact retN X25 hx (t := .boolean) Bd.returns (by simp) (hb hby at_174) hr
        · show Q0 Z p0 p1 p2 p3 p4 h0 n0 _ T25.heap _
          rw [e25q]
          exact ⟨congrArg (fun q => some (Value.int q)) hv145, N25⟩
      · have pre28 : ∀ t, Steps p.tables e below (T15.setTop (mkF m 131 #[.val (.int p0), .val (.int p1), .val (.int p2), .val (.int p3), .val (.int p4), .val (.int (e0_1 p0)), .val (.int (e0_2 p1)), .val (.int (e0_3 p2)), .val (.int (e0_4 p3)), .val (.int (0 : Int32)), .val (.ref b3), .val (.int (((e0_1 p0) + (1 : Int32)) + (1 : Int32))), .unset] [(.int (((e0_1 p0) + (1 : Int32)) + (1 : Int32))), (.int (e0_3 p2))])) t → Steps p.tables e below (s₁.setTop (entryFrame m #[(.int p0), (.int p1), (.int p2), (.int p3), (.int p4)] maxLocals)) t := fun t kt => pre22 t (by
            show Steps p.tables e below (T15.setTop (mkF m 124 #[.val (.int p0), .val (.int p1), .val (.int p2), .val (.int p3), .val (.int p4), .val (.int (e0_1 p0)), .val (.int (e0_2 p1)), .val (.int (e0_3 p2)), .val (.int (e0_4 p3)), .val (.int (0 : Int32)), .val (.ref b3), .val (.int (((e0_1 p0) + (1 : Int32)) + (1 : Int32))), .unset] [(.int (((e0_1 p0) + (1 : Int32)) + (1 : Int32))), (.int (e0_2 p1))])) _
            refine XS.icmpNo X15.here hx rfl (hb hby at_124) rfl (feq hc124_23).1 ?_
            show Steps p.tables e below (T15.setTop (mkF m 127 #[.val (.int p0), .val (.int p1), .val (.int p2), .val (.int p3), .val (.int p4), .val (.int (e0_1 p0)), .val (.int (e0_2 p1)), .val (.int (e0_3 p2)), .val (.int (e0_4 p3)), .val (.int (0 : Int32)), .val (.ref b3), .val (.int (((e0_1 p0) + (1 : Int32)) + (1 : Int32))), .unset] [])) _
            refine XS.iload X15.here hx rfl (hb hby at_127) rfl ?_
            show Steps p.tables e below (T15.setTop (mkF m 129 #[.val (.int p0), .val (.int p1), .val (.int p2), .val (.int p3), .val (.int p4), .val (.int (e0_1 p0)), .val (.int (e0_2 p1)), .val (.int (e0_3 p2)), .val (.int (e0_4 p3)), .val (.int (0 : Int32)), .val (.ref b3), .val (.int (((e0_1 p0) + (1 : Int32)) + (1 : Int32))), .unset] [(.int (e0_3 p2))])) _
            refine XS.iload X15.here hx rfl (hb hby at_129) rfl ?_
            exact kt)
        by_cases hc131_29 : (e0_3 p2) = (((e0_1 p0) + (1 : Int32)) + (1 : Int32))
        · have pre30 : ∀ t, Steps p.tables e below (T15.setTop (mkF m 142 #[.val (.int p0), .val (.int p1), .val (.int p2), .val (.int p3), .val (.int p4), .val (.int (e0_1 p0)), .val (.int (e0_2 p1)), .val (.int (e0_3 p2)), .val (.int (e0_4 p3)), .val (.int (0 : Int32)), .val (.ref b3), .val (.int ((((e0_1 p0) + (1 : Int32)) + (1 : Int32)) + (1 : Int32))), .unset] [(.int (0 : Int32))])) t → Steps p.tables e below (s₁.setTop (entryFrame m #[(.int p0), (.int p1), (.int p2), (.int p3), (.int p4)] maxLocals)) t := fun t kt => pre28 t (by
              show Steps p.tables e below (T15.setTop (mkF m 131 #[.val (.int p0), .val (.int p1), .val (.int p2), .val (.int p3), .val (.int p4), .val (.int (e0_1 p0)), .val (.int (e0_2 p1)), .val (.int (e0_3 p2)), .val (.int (e0_4 p3)), .val (.int (0 : Int32)), .val (.ref b3), .val (.int (((e0_1 p0) + (1 : Int32)) + (1 : Int32))), .unset] [(.int (((e0_1 p0) + (1 : Int32)) + (1 : Int32))), (.int (e0_3 p2))])) _
              refine XS.icmpNo X15.here hx rfl (hb hby at_131) rfl (teq hc131_29).2 ?_
              show Steps p.tables e below (T15.setTop (mkF m 134 #[.val (.int p0), .val (.int p1), .val (.int p2), .val (.int p3), .val (.int p4), .val (.int (e0_1 p0)), .val (.int (e0_2 p1)), .val (.int (e0_3 p2)), .val (.int (e0_4 p3)), .val (.int (0 : Int32)), .val (.ref b3), .val (.int (((e0_1 p0) + (1 : Int32)) + (1 : Int32))), .unset] [])) _
              refine XS.iload X15.here hx rfl (hb hby at_134) rfl ?_
              show Steps p.tables e below (T15.setTop (mkF m 136 #[.val (.int p0), .val (.int p1), .val (.int p2), .val (.int p3), .val (.int p4), .val (.int (e0_1 p0)), .val (.int (e0_2 p1)), .val (.int (e0_3 p2)), .val (.int (e0_4 p3)), .val (.int (0 : Int32)), .val (.ref b3), .val (.int (((e0_1 p0) + (1 : Int32)) + (1 : Int32))), .unset] [(.int (((e0_1 p0) + (1 : Int32)) + (1 : Int32)))])) _
              refine XS.iconst X15.here hx rfl (hb hby at_136) ?_
              show Steps p.tables e below (T15.setTop (mkF m 137 #[.val (.int p0), .val (.int p1), .val (.int p2), .val (.int p3), .val (.int p4), .val (.int (e0_1 p0)), .val (.int (e0_2 p1)), .val (.int (e0_3 p2)), .val (.int (e0_4 p3)), .val (.int (0 : Int32)), .val (.ref b3), .val (.int (((e0_1 p0) + (1 : Int32)) + (1 : Int32))), .unset] [(.int (1 : Int32)), (.int (((e0_1 p0) + (1 : Int32)) + (1 : Int32)))])) _
              refine XS.iadd X15.here hx rfl (hb hby at_137) rfl ?_
              show Steps p.tables e below (T15.setTop (mkF m 138 #[.val (.int p0), .val (.int p1), .val (.int p2), .val (.int p3), .val (.int p4), .val (.int (e0_1 p0)), .val (.int (e0_2 p1)), .val (.int (e0_3 p2)), .val (.int (e0_4 p3)), .val (.int (0 : Int32)), .val (.ref b3), .val (.int (((e0_1 p0) + (1 : Int32)) + (1 : Int32))), .unset] [(.int ((((e0_1 p0) + (1 : Int32)) + (1 : Int32)) + (1 : Int32)))])) _
              refine XS.istore X15.here hx rfl (hb hby at_138) rfl (l' := #[.val (.int p0), .val (.int p1), .val (.int p2), .val (.int p3), .val (.int p4), .val (.int (e0_1 p0)), .val (.int (e0_2 p1)), .val (.int (e0_3 p2)), .val (.int (e0_4 p3)), .val (.int (0 : Int32)), .val (.ref b3), .val (.int ((((e0_1 p0) + (1 : Int32)) + (1 : Int32)) + (1 : Int32))), .unset]) rfl ?_
              show Steps p.tables e below (T15.setTop (mkF m 140 #[.val (.int p0), .val (.int p1), .val (.int p2), .val (.int p3), .val (.int p4), .val (.int (e0_1 p0)), .val (.int (e0_2 p1)), .val (.int (e0_3 p2)), .val (.int (e0_4 p3)), .val (.int (0 : Int32)), .val (.ref b3), .val (.int ((((e0_1 p0) + (1 : Int32)) + (1 : Int32)) + (1 : Int32))), .unset] [])) _
              refine XS.iload X15.here hx rfl (hb hby at_140) rfl ?_
              exact kt)
          obtain ⟨cq31, kq31, q31a, q31b, q31c⟩ := isOf hZ rfl ((((E_b3.keep K6q).keep K9q).keep K12q).keep K15q)
          obtain ⟨_, _, ⟨T31, L31, k31, n31⟩, -, X31, ⟨Lc31, hQ31, l31, y31, z31⟩, st31⟩ := X15.virtualBack hx (y := (⟨"com/example/cardhost/cardhost/LogicalChannels", "lowestClosed", "()I"⟩ : MethodName)) (z := (⟨"com/example/cardhost/cardhost/LogicalChannels", "lowestClosed", "()I"⟩ : MethodName)) hown (mvT hZ (hw _ (List.mem_of_getElem? (i := 28) rfl))) (mvT hZ (hw _ (List.mem_of_getElem? (i := 29) rfl))) (notFace_of_selects (args := #[]) (mvT hZ (hw _ (List.mem_of_getElem? (i := 31) rfl)))) (mvT hZ (hw _ (List.mem_of_getElem? (i := 31) rfl))) (mvT hZ (hw _ (List.mem_of_getElem? (i := 30) rfl))) (by decide) (backOf (W := 0) (rm5 l Z a0 hw [] b3 r_o0_open_6 (own_upd (own_upd (f3_r1_a (e0_1 p0) (own_upd (fun _ => 0) 0 (1 : Int32))) ((e0_2 p1)).toNatClampNeg (1 : Int32)) ((e0_3 p2)).toNatClampNeg (1 : Int32)) T15.heap n0 Z18 (c16.keep K15q (ninS ne_b3_r_o0_open_6 nin0)) G15_0 g_r_o0_open_6) hZ (hw _ (List.mem_of_getElem? (i := 32) rfl)) (hw _ (List.mem_of_getElem? (i := 3) rfl)) (by decide) (by decide)) q31a q31c (g := (mkF m 161 #[.val (.int p0), .val (.int p1), .val (.int p2), .val (.int p3), .val (.int p4), .val (.int (e0_1 p0)), .val (.int (e0_2 p1)), .val (.int (e0_3 p2)), .val (.int (e0_4 p3)), .val (.int (0 : Int32)), .val (.ref b3), .val (.int ((((e0_1 p0) + (1 : Int32)) + (1 : Int32)) + (1 : Int32))), .val (.int ((((e0_1 p0) + (1 : Int32)) + (1 : Int32)) + (1 : Int32)))] [(.ref b3)])) rfl (by rw [hml]; rfl) (Steps.refl _) (argsL := []) (rest := []) (lenOf pd_0_3 rfl) rfl (by show 2 * 0 + _ ≤ _; exact Nat.le_of_eq rfl) (hb hby at_161) (fun _ _ => ⟨rfl, rfl, (by decide : 4 + 0 ≤ _), (by decide : 63 + 0 ≤ _)⟩)
          dsimp only [Pt.U, Pt.locs, Pt.cells, Pt.slots] at X31 l31 y31 z31 st31 hQ31
          subst l31 y31 z31
          obtain ⟨rfl, N31q, e31q⟩ := hQ31
          have N31 := Fr.app N15 N31q
          have pre32 : ∀ t, Steps p.tables e below (T31.setTop (mkF m 166 #[.val (.int p0), .val (.int p1), .val (.int p2), .val (.int p3), .val (.int p4), .val (.int (e0_1 p0)), .val (.int (e0_2 p1)), .val (.int (e0_3 p2)), .val (.int (e0_4 p3)), .val (.int (0 : Int32)), .val (.ref b3), .val (.int ((((e0_1 p0) + (1 : Int32)) + (1 : Int32)) + (1 : Int32))), .val (.int ((((e0_1 p0) + (1 : Int32)) + (1 : Int32)) + (1 : Int32)))] [(.int ((((e0_1 p0) + (1 : Int32)) + (1 : Int32)) + (1 : Int32))), (.int (f5 (own_upd (own_upd (f3_r1_a (e0_1 p0) (own_upd (fun _ => 0) 0 (1 : Int32))) ((e0_2 p1)).toNatClampNeg (1 : Int32)) ((e0_3 p2)).toNatClampNeg (1 : Int32))))])) t → Steps p.tables e below (s₁.setTop (entryFrame m #[(.int p0), (.int p1), (.int p2), (.int p3), (.int p4)] maxLocals)) t := fun t kt => pre30 t (by
              show Steps p.tables e below (T15.setTop (mkF m 142 #[.val (.int p0), .val (.int p1), .val (.int p2), .val (.int p3), .val (.int p4), .val (.int (e0_1 p0)), .val (.int (e0_2 p1)), .val (.int (e0_3 p2)), .val (.int (e0_4 p3)), .val (.int (0 : Int32)), .val (.ref b3), .val (.int ((((e0_1 p0) + (1 : Int32)) + (1 : Int32)) + (1 : Int32))), .unset] [(.int (0 : Int32))])) _
              refine XS.ifYes X15.here hx rfl (pc0 := 142) (pc' := 155) rfl (hb hby at_142) rfl ((if0 _ _).trans (teq (by decide : ((0 : Int32) = (0 : Int32)))).1) (by decide) (by decide) ?_
              show Steps p.tables e below (T15.setTop (mkF m 155 #[.val (.int p0), .val (.int p1), .val (.int p2), .val (.int p3), .val (.int p4), .val (.int (e0_1 p0)), .val (.int (e0_2 p1)), .val (.int (e0_3 p2)), .val (.int (e0_4 p3)), .val (.int (0 : Int32)), .val (.ref b3), .val (.int ((((e0_1 p0) + (1 : Int32)) + (1 : Int32)) + (1 : Int32))), .unset] [])) _
              refine XS.iload X15.here hx rfl (hb hby at_155) rfl ?_
              show Steps p.tables e below (T15.setTop (mkF m 157 #[.val (.int p0), .val (.int p1), .val (.int p2), .val (.int p3), .val (.int p4), .val (.int (e0_1 p0)), .val (.int (e0_2 p1)), .val (.int (e0_3 p2)), .val (.int (e0_4 p3)), .val (.int (0 : Int32)), .val (.ref b3), .val (.int ((((e0_1 p0) + (1 : Int32)) + (1 : Int32)) + (1 : Int32))), .unset] [(.int ((((e0_1 p0) + (1 : Int32)) + (1 : Int32)) + (1 : Int32)))])) _
              refine XS.istore X15.here hx rfl (hb hby at_157) rfl (l' := #[.val (.int p0), .val (.int p1), .val (.int p2), .val (.int p3), .val (.int p4), .val (.int (e0_1 p0)), .val (.int (e0_2 p1)), .val (.int (e0_3 p2)), .val (.int (e0_4 p3)), .val (.int (0 : Int32)), .val (.ref b3), .val (.int ((((e0_1 p0) + (1 : Int32)) + (1 : Int32)) + (1 : Int32))), .val (.int ((((e0_1 p0) + (1 : Int32)) + (1 : Int32)) + (1 : Int32)))]) rfl ?_
              show Steps p.tables e below (T15.setTop (mkF m 159 #[.val (.int p0), .val (.int p1), .val (.int p2), .val (.int p3), .val (.int p4), .val (.int (e0_1 p0)), .val (.int (e0_2 p1)), .val (.int (e0_3 p2)), .val (.int (e0_4 p3)), .val (.int (0 : Int32)), .val (.ref b3), .val (.int ((((e0_1 p0) + (1 : Int32)) + (1 : Int32)) + (1 : Int32))), .val (.int ((((e0_1 p0) + (1 : Int32)) + (1 : Int32)) + (1 : Int32)))] [])) _
              refine XS.aload X15.here hx rfl (hb hby at_159) rfl rfl ?_
              show Steps p.tables e below (T15.setTop (mkF m 161 #[.val (.int p0), .val (.int p1), .val (.int p2), .val (.int p3), .val (.int p4), .val (.int (e0_1 p0)), .val (.int (e0_2 p1)), .val (.int (e0_3 p2)), .val (.int (e0_4 p3)), .val (.int (0 : Int32)), .val (.ref b3), .val (.int ((((e0_1 p0) + (1 : Int32)) + (1 : Int32)) + (1 : Int32))), .val (.int ((((e0_1 p0) + (1 : Int32)) + (1 : Int32)) + (1 : Int32)))] [(.ref b3)])) _
              refine st31.trans ?_
              show Steps p.tables e below (T31.setTop (mkF m 164 #[.val (.int p0), .val (.int p1), .val (.int p2), .val (.int p3), .val (.int p4), .val (.int (e0_1 p0)), .val (.int (e0_2 p1)), .val (.int (e0_3 p2)), .val (.int (e0_4 p3)), .val (.int (0 : Int32)), .val (.ref b3), .val (.int ((((e0_1 p0) + (1 : Int32)) + (1 : Int32)) + (1 : Int32))), .val (.int ((((e0_1 p0) + (1 : Int32)) + (1 : Int32)) + (1 : Int32)))] [(.int (f5 (own_upd (own_upd (f3_r1_a (e0_1 p0) (own_upd (fun _ => 0) 0 (1 : Int32))) ((e0_2 p1)).toNatClampNeg (1 : Int32)) ((e0_3 p2)).toNatClampNeg (1 : Int32))))])) _
              refine XS.iload X31.here hx rfl (hb hby at_164) rfl ?_
              exact kt)
          have hd166_33 : (f5 (own_upd (own_upd (f3_r1_a (e0_1 p0) (own_upd (fun _ => 0) 0 (1 : Int32))) ((e0_2 p1)).toNatClampNeg (1 : Int32)) ((e0_3 p2)).toNatClampNeg (1 : Int32))) = ((((e0_1 p0) + (1 : Int32)) + (1 : Int32)) + (1 : Int32)) := by have q0 := hc104_21; rw [← Int32.toInt_inj] at q0; have q1 := hc124_23; rw [← Int32.toInt_inj] at q1; have q2 := hc131_29; rw [← Int32.toInt_inj] at q2; have s1 := c_iadd (e0_1 p0) 1; have r1 := rng32 ((e0_1 p0) + 1); have s2 := c_iadd ((e0_1 p0) + 1) 1; have r2 := rng32 ((e0_1 p0) + 1 + 1); have s3 := c_iadd ((e0_1 p0) + 1 + 1) 1; have r3 := rng32 ((e0_1 p0) + 1 + 1 + 1); have e1 : (1 : Int32).toInt = 1 := (by decide); rw [e1] at s1 s2 s3; have hk : 0 ≤ (e0_1 p0).toInt ∧ (e0_1 p0).toInt ≤ 19 := own_b p0; have ha : 0 ≤ (e0_2 p1).toInt ∧ (e0_2 p1).toInt ≤ 19 := own_b p1; have hb : 0 ≤ (e0_3 p2).toInt ∧ (e0_3 p2).toInt ≤ 19 := own_b p2; exact own_fin0 (M := ((((e0_1 p0) + (1 : Int32)) + (1 : Int32)) + (1 : Int32))) hk ha hb (by unfold own_mm; repeat' split; all_goals omega)
          obtain ⟨fs, hr, hrun, hended, hW, hsame⟩ := X31.leave (v := some (.int (1 : Int32))) (fun h => by rw [Bd.returns] at h; cases h)
          have hv146 : (1 : Int32) = (1 : Int32) := rfl
          refine ⟨_, _, pre32 _ ?_, hrun, hended, _, _, rfl, ?_, ⟨_, rfl⟩, hW, hsame.mono (by decide) (by decide)⟩
          · show Steps p.tables e below (T31.setTop (mkF m 166 #[.val (.int p0), .val (.int p1), .val (.int p2), .val (.int p3), .val (.int p4), .val (.int (e0_1 p0)), .val (.int (e0_2 p1)), .val (.int (e0_3 p2)), .val (.int (e0_4 p3)), .val (.int (0 : Int32)), .val (.ref b3), .val (.int ((((e0_1 p0) + (1 : Int32)) + (1 : Int32)) + (1 : Int32))), .val (.int ((((e0_1 p0) + (1 : Int32)) + (1 : Int32)) + (1 : Int32)))] [(.int ((((e0_1 p0) + (1 : Int32)) + (1 : Int32)) + (1 : Int32))), (.int (f5 (own_upd (own_upd (f3_r1_a (e0_1 p0) (own_upd (fun _ => 0) 0 (1 : Int32))) ((e0_2 p1)).toNatClampNeg (1 : Int32)) ((e0_3 p2)).toNatClampNeg (1 : Int32))))])) _
            refine XS.icmpNo X31.here hx rfl (hb hby at_166) rfl (teq hd166_33).2 ?_
            show Steps p.tables e below (T31.setTop (mkF m 169 #[.val (.int p0), .val (.int p1), .val (.int p2), .val (.int p3), .val (.int p4), .val (.int (e0_1 p0)), .val (.int (e0_2 p1)), .val (.int (e0_3 p2)), .val (.int (e0_4 p3)), .val (.int (0 : Int32)), .val (.ref b3), .val (.int ((((e0_1 p0) + (1 : Int32)) + (1 : Int32)) + (1 : Int32))), .val (.int ((((e0_1 p0) + (1 : Int32)) + (1 : Int32)) + (1 : Int32)))] [])) _
            refine XS.iconst X31.here hx rfl (hb hby at_169) ?_
            show Steps p.tables e below (T31.setTop (mkF m 170 #[.val (.int p0), .val (.int p1), .val (.int p2), .val (.int p3), .val (.int p4), .val (.int (e0_1 p0)), .val (.int (e0_2 p1)), .val (.int (e0_3 p2)), .val (.int (e0_4 p3)), .val (.int (0 : Int32)), .val (.ref b3), .val (.int ((((e0_1 p0) + (1 : Int32)) + (1 : Int32)) + (1 : Int32))), .val (.int ((((e0_1 p0) + (1 : Int32)) + (1 : Int32)) + (1 : Int32)))] [(.int (1 : Int32))])) _
            refine XS.goto X31.here hx rfl (pc0 := 170) (pc' := 174) rfl (hb hby at_170) (by decide) (by decide) ?_
            show Steps p.tables e below (T31.setTop (mkF m 174 #[.val (.int p0), .val (.int p1), .val (.int p2), .val (.int p3), .val (.int p4), .val (.int (e0_1 p0)), .val (.int (e0_2 p1)), .val (.int (e0_3 p2)), .val (.int (e0_4 p3)), .val (.int (0 : Int32)), .val (.ref b3), .val (.int ((((e0_1 p0) + (1 : Int32)) + (1 : Int32)) + (1 : Int32))), .val (.int ((((e0_1 p0) + (1 : Int32)) + (1 : Int32)) + (1 : Int32)))] [(.int (1 : Int32))])) _
            exact retN X31 hx (t := .boolean) Bd.returns (by simp) (hb hby at_174) hr
          · show Q0 Z p0 p1 p2 p3 p4 h0 n0 _ T31.heap _
            rw [e31q]
            exact ⟨congrArg (fun q => some (Value.int q)) hv146, N31⟩
        · have pre34 : ∀ t, Steps p.tables e below (T15.setTop (mkF m 142 #[.val (.int p0), .val (.int p1), .val (.int p2), .val (.int p3), .val (.int p4), .val (.int (e0_1 p0)), .val (.int (e0_2 p1)), .val (.int (e0_3 p2)), .val (.int (e0_4 p3)), .val (.int (0 : Int32)), .val (.ref b3), .val (.int (((e0_1 p0) + (1 : Int32)) + (1 : Int32))), .unset] [(.int (0 : Int32))])) t → Steps p.tables e below (s₁.setTop (entryFrame m #[(.int p0), (.int p1), (.int p2), (.int p3), (.int p4)] maxLocals)) t := fun t kt => pre28 t (by
              show Steps p.tables e below (T15.setTop (mkF m 131 #[.val (.int p0), .val (.int p1), .val (.int p2), .val (.int p3), .val (.int p4), .val (.int (e0_1 p0)), .val (.int (e0_2 p1)), .val (.int (e0_3 p2)), .val (.int (e0_4 p3)), .val (.int (0 : Int32)), .val (.ref b3), .val (.int (((e0_1 p0) + (1 : Int32)) + (1 : Int32))), .unset] [(.int (((e0_1 p0) + (1 : Int32)) + (1 : Int32))), (.int (e0_3 p2))])) _
              refine XS.icmpYes X15.here hx rfl (pc0 := 131) (pc' := 140) rfl (hb hby at_131) rfl (feq hc131_29).2 (by decide) (by decide) ?_
              show Steps p.tables e below (T15.setTop (mkF m 140 #[.val (.int p0), .val (.int p1), .val (.int p2), .val (.int p3), .val (.int p4), .val (.int (e0_1 p0)), .val (.int (e0_2 p1)), .val (.int (e0_3 p2)), .val (.int (e0_4 p3)), .val (.int (0 : Int32)), .val (.ref b3), .val (.int (((e0_1 p0) + (1 : Int32)) + (1 : Int32))), .unset] [])) _
              refine XS.iload X15.here hx rfl (hb hby at_140) rfl ?_
              exact kt)
          obtain ⟨cq35, kq35, q35a, q35b, q35c⟩ := isOf hZ rfl ((((E_b3.keep K6q).keep K9q).keep K12q).keep K15q)
          obtain ⟨_, _, ⟨T35, L35, k35, n35⟩, -, X35, ⟨Lc35, hQ35, l35, y35, z35⟩, st35⟩ := X15.virtualBack hx (y := (⟨"com/example/cardhost/cardhost/LogicalChannels", "lowestClosed", "()I"⟩ : MethodName)) (z := (⟨"com/example/cardhost/cardhost/LogicalChannels", "lowestClosed", "()I"⟩ : MethodName)) hown (mvT hZ (hw _ (List.mem_of_getElem? (i := 28) rfl))) (mvT hZ (hw _ (List.mem_of_getElem? (i := 29) rfl))) (notFace_of_selects (args := #[]) (mvT hZ (hw _ (List.mem_of_getElem? (i := 31) rfl)))) (mvT hZ (hw _ (List.mem_of_getElem? (i := 31) rfl))) (mvT hZ (hw _ (List.mem_of_getElem? (i := 30) rfl))) (by decide) (backOf (W := 0) (rm5 l Z a0 hw [] b3 r_o0_open_6 (own_upd (own_upd (f3_r1_a (e0_1 p0) (own_upd (fun _ => 0) 0 (1 : Int32))) ((e0_2 p1)).toNatClampNeg (1 : Int32)) ((e0_3 p2)).toNatClampNeg (1 : Int32)) T15.heap n0 Z18 (c16.keep K15q (ninS ne_b3_r_o0_open_6 nin0)) G15_0 g_r_o0_open_6) hZ (hw _ (List.mem_of_getElem? (i := 32) rfl)) (hw _ (List.mem_of_getElem? (i := 3) rfl)) (by decide) (by decide)) q35a q35c (g := (mkF m 161 #[.val (.int p0), .val (.int p1), .val (.int p2), .val (.int p3), .val (.int p4), .val (.int (e0_1 p0)), .val (.int (e0_2 p1)), .val (.int (e0_3 p2)), .val (.int (e0_4 p3)), .val (.int (0 : Int32)), .val (.ref b3), .val (.int (((e0_1 p0) + (1 : Int32)) + (1 : Int32))), .val (.int (((e0_1 p0) + (1 : Int32)) + (1 : Int32)))] [(.ref b3)])) rfl (by rw [hml]; rfl) (Steps.refl _) (argsL := []) (rest := []) (lenOf pd_0_3 rfl) rfl (by show 2 * 0 + _ ≤ _; exact Nat.le_of_eq rfl) (hb hby at_161) (fun _ _ => ⟨rfl, rfl, (by decide : 4 + 0 ≤ _), (by decide : 63 + 0 ≤ _)⟩)
          dsimp only [Pt.U, Pt.locs, Pt.cells, Pt.slots] at X35 l35 y35 z35 st35 hQ35
          subst l35 y35 z35
          obtain ⟨rfl, N35q, e35q⟩ := hQ35
          have N35 := Fr.app N15 N35q
          have pre36 : ∀ t, Steps p.tables e below (T35.setTop (mkF m 166 #[.val (.int p0), .val (.int p1), .val (.int p2), .val (.int p3), .val (.int p4), .val (.int (e0_1 p0)), .val (.int (e0_2 p1)), .val (.int (e0_3 p2)), .val (.int (e0_4 p3)), .val (.int (0 : Int32)), .val (.ref b3), .val (.int (((e0_1 p0) + (1 : Int32)) + (1 : Int32))), .val (.int (((e0_1 p0) + (1 : Int32)) + (1 : Int32)))] [(.int (((e0_1 p0) + (1 : Int32)) + (1 : Int32))), (.int (f5 (own_upd (own_upd (f3_r1_a (e0_1 p0) (own_upd (fun _ => 0) 0 (1 : Int32))) ((e0_2 p1)).toNatClampNeg (1 : Int32)) ((e0_3 p2)).toNatClampNeg (1 : Int32))))])) t → Steps p.tables e below (s₁.setTop (entryFrame m #[(.int p0), (.int p1), (.int p2), (.int p3), (.int p4)] maxLocals)) t := fun t kt => pre34 t (by
              show Steps p.tables e below (T15.setTop (mkF m 142 #[.val (.int p0), .val (.int p1), .val (.int p2), .val (.int p3), .val (.int p4), .val (.int (e0_1 p0)), .val (.int (e0_2 p1)), .val (.int (e0_3 p2)), .val (.int (e0_4 p3)), .val (.int (0 : Int32)), .val (.ref b3), .val (.int (((e0_1 p0) + (1 : Int32)) + (1 : Int32))), .unset] [(.int (0 : Int32))])) _
              refine XS.ifYes X15.here hx rfl (pc0 := 142) (pc' := 155) rfl (hb hby at_142) rfl ((if0 _ _).trans (teq (by decide : ((0 : Int32) = (0 : Int32)))).1) (by decide) (by decide) ?_
              show Steps p.tables e below (T15.setTop (mkF m 155 #[.val (.int p0), .val (.int p1), .val (.int p2), .val (.int p3), .val (.int p4), .val (.int (e0_1 p0)), .val (.int (e0_2 p1)), .val (.int (e0_3 p2)), .val (.int (e0_4 p3)), .val (.int (0 : Int32)), .val (.ref b3), .val (.int (((e0_1 p0) + (1 : Int32)) + (1 : Int32))), .unset] [])) _
              refine XS.iload X15.here hx rfl (hb hby at_155) rfl ?_
              show Steps p.tables e below (T15.setTop (mkF m 157 #[.val (.int p0), .val (.int p1), .val (.int p2), .val (.int p3), .val (.int p4), .val (.int (e0_1 p0)), .val (.int (e0_2 p1)), .val (.int (e0_3 p2)), .val (.int (e0_4 p3)), .val (.int (0 : Int32)), .val (.ref b3), .val (.int (((e0_1 p0) + (1 : Int32)) + (1 : Int32))), .unset] [(.int (((e0_1 p0) + (1 : Int32)) + (1 : Int32)))])) _
              refine XS.istore X15.here hx rfl (hb hby at_157) rfl (l' := #[.val (.int p0), .val (.int p1), .val (.int p2), .val (.int p3), .val (.int p4), .val (.int (e0_1 p0)), .val (.int (e0_2 p1)), .val (.int (e0_3 p2)), .val (.int (e0_4 p3)), .val (.int (0 : Int32)), .val (.ref b3), .val (.int (((e0_1 p0) + (1 : Int32)) + (1 : Int32))), .val (.int (((e0_1 p0) + (1 : Int32)) + (1 : Int32)))]) rfl ?_
              show Steps p.tables e below (T15.setTop (mkF m 159 #[.val (.int p0), .val (.int p1), .val (.int p2), .val (.int p3), .val (.int p4), .val (.int (e0_1 p0)), .val (.int (e0_2 p1)), .val (.int (e0_3 p2)), .val (.int (e0_4 p3)), .val (.int (0 : Int32)), .val (.ref b3), .val (.int (((e0_1 p0) + (1 : Int32)) + (1 : Int32))), .val (.int (((e0_1 p0) + (1 : Int32)) + (1 : Int32)))] [])) _
              refine XS.aload X15.here hx rfl (hb hby at_159) rfl rfl ?_
              show Steps p.tables e below (T15.setTop (mkF m 161 #[.val (.int p0), .val (.int p1), .val (.int p2), .val (.int p3), .val (.int p4), .val (.int (e0_1 p0)), .val (.int (e0_2 p1)), .val (.int (e0_3 p2)), .val (.int (e0_4 p3)), .val (.int (0 : Int32)), .val (.ref b3), .val (.int (((e0_1 p0) + (1 : Int32)) + (1 : Int32))), .val (.int (((e0_1 p0) + (1 : Int32)) + (1 : Int32)))] [(.ref b3)])) _
              refine st35.trans ?_
              show Steps p.tables e below (T35.setTop (mkF m 164 #[.val (.int p0), .val (.int p1), .val (.int p2), .val (.int p3), .val (.int p4), .val (.int (e0_1 p0)), .val (.int (e0_2 p1)), .val (.int (e0_3 p2)), .val (.int (e0_4 p3)), .val (.int (0 : Int32)), .val (.ref b3), .val (.int (((e0_1 p0) + (1 : Int32)) + (1 : Int32))), .val (.int (((e0_1 p0) + (1 : Int32)) + (1 : Int32)))] [(.int (f5 (own_upd (own_upd (f3_r1_a (e0_1 p0) (own_upd (fun _ => 0) 0 (1 : Int32))) ((e0_2 p1)).toNatClampNeg (1 : Int32)) ((e0_3 p2)).toNatClampNeg (1 : Int32))))])) _
              refine XS.iload X35.here hx rfl (hb hby at_164) rfl ?_
              exact kt)
          have hd166_37 : (f5 (own_upd (own_upd (f3_r1_a (e0_1 p0) (own_upd (fun _ => 0) 0 (1 : Int32))) ((e0_2 p1)).toNatClampNeg (1 : Int32)) ((e0_3 p2)).toNatClampNeg (1 : Int32))) = (((e0_1 p0) + (1 : Int32)) + (1 : Int32)) := by have q0 := hc104_21; rw [← Int32.toInt_inj] at q0; have q1 := hc124_23; rw [← Int32.toInt_inj] at q1; have q2 := hc131_29; rw [← Int32.toInt_inj] at q2; have s1 := c_iadd (e0_1 p0) 1; have r1 := rng32 ((e0_1 p0) + 1); have s2 := c_iadd ((e0_1 p0) + 1) 1; have r2 := rng32 ((e0_1 p0) + 1 + 1); have s3 := c_iadd ((e0_1 p0) + 1 + 1) 1; have r3 := rng32 ((e0_1 p0) + 1 + 1 + 1); have e1 : (1 : Int32).toInt = 1 := (by decide); rw [e1] at s1 s2 s3; have hk : 0 ≤ (e0_1 p0).toInt ∧ (e0_1 p0).toInt ≤ 19 := own_b p0; have ha : 0 ≤ (e0_2 p1).toInt ∧ (e0_2 p1).toInt ≤ 19 := own_b p1; have hb : 0 ≤ (e0_3 p2).toInt ∧ (e0_3 p2).toInt ≤ 19 := own_b p2; exact own_fin0 (M := (((e0_1 p0) + (1 : Int32)) + (1 : Int32))) hk ha hb (by unfold own_mm; repeat' split; all_goals omega)
          obtain ⟨fs, hr, hrun, hended, hW, hsame⟩ := X35.leave (v := some (.int (1 : Int32))) (fun h => by rw [Bd.returns] at h; cases h)
          have hv147 : (1 : Int32) = (1 : Int32) := rfl
          refine ⟨_, _, pre36 _ ?_, hrun, hended, _, _, rfl, ?_, ⟨_, rfl⟩, hW, hsame.mono (by decide) (by decide)⟩
          · show Steps p.tables e below (T35.setTop (mkF m 166 #[.val (.int p0), .val (.int p1), .val (.int p2), .val (.int p3), .val (.int p4), .val (.int (e0_1 p0)), .val (.int (e0_2 p1)), .val (.int (e0_3 p2)), .val (.int (e0_4 p3)), .val (.int (0 : Int32)), .val (.ref b3), .val (.int (((e0_1 p0) + (1 : Int32)) + (1 : Int32))), .val (.int (((e0_1 p0) + (1 : Int32)) + (1 : Int32)))] [(.int (((e0_1 p0) + (1 : Int32)) + (1 : Int32))), (.int (f5 (own_upd (own_upd (f3_r1_a (e0_1 p0) (own_upd (fun _ => 0) 0 (1 : Int32))) ((e0_2 p1)).toNatClampNeg (1 : Int32)) ((e0_3 p2)).toNatClampNeg (1 : Int32))))])) _
            refine XS.icmpNo X35.here hx rfl (hb hby at_166) rfl (teq hd166_37).2 ?_
            show Steps p.tables e below (T35.setTop (mkF m 169 #[.val (.int p0), .val (.int p1), .val (.int p2), .val (.int p3), .val (.int p4), .val (.int (e0_1 p0)), .val (.int (e0_2 p1)), .val (.int (e0_3 p2)), .val (.int (e0_4 p3)), .val (.int (0 : Int32)), .val (.ref b3), .val (.int (((e0_1 p0) + (1 : Int32)) + (1 : Int32))), .val (.int (((e0_1 p0) + (1 : Int32)) + (1 : Int32)))] [])) _
            refine XS.iconst X35.here hx rfl (hb hby at_169) ?_
            show Steps p.tables e below (T35.setTop (mkF m 170 #[.val (.int p0), .val (.int p1), .val (.int p2), .val (.int p3), .val (.int p4), .val (.int (e0_1 p0)), .val (.int (e0_2 p1)), .val (.int (e0_3 p2)), .val (.int (e0_4 p3)), .val (.int (0 : Int32)), .val (.ref b3), .val (.int (((e0_1 p0) + (1 : Int32)) + (1 : Int32))), .val (.int (((e0_1 p0) + (1 : Int32)) + (1 : Int32)))] [(.int (1 : Int32))])) _
            refine XS.goto X35.here hx rfl (pc0 := 170) (pc' := 174) rfl (hb hby at_170) (by decide) (by decide) ?_
            show Steps p.tables e below (T35.setTop (mkF m 174 #[.val (.int p0), .val (.int p1), .val (.int p2), .val (.int p3), .val (.int p4), .val (.int (e0_1 p0)), .val (.int (e0_2 p1)), .val (.int (e0_3 p2)), .val (.int (e0_4 p3)), .val (.int (0 : Int32)), .val (.ref b3), .val (.int (((e0_1 p0) + (1 : Int32)) + (1 : Int32))), .val (.int (((e0_1 p0) + (1 : Int32)) + (1 : Int32)))] [(.int (1 : Int32))])) _
            exact retN X35 hx (t := .boolean) Bd.returns (by simp) (hb hby at_174) hr
          · show Q0 Z p0 p1 p2 p3 p4 h0 n0 _ T35.heap _
            rw [e35q]
            exact ⟨congrArg (fun q => some (Value.int q)) hv147, N35⟩
    · have pre38 : ∀ t, Steps p.tables e below (T15.setTop (mkF m 111 #[.val (.int p0), .val (.int p1), .val (.int p2), .val (.int p3), .val (.int p4), .val (.int (e0_1 p0)), .val (.int (e0_2 p1)), .val (.int (e0_3 p2)), .val (.int (e0_4 p3)), .val (.int (0 : Int32)), .val (.ref b3), .val (.int ((e0_1 p0) + (1 : Int32))), .unset] [(.int ((e0_1 p0) + (1 : Int32))), (.int (e0_3 p2))])) t → Steps p.tables e below (s₁.setTop (entryFrame m #[(.int p0), (.int p1), (.int p2), (.int p3), (.int p4)] maxLocals)) t := fun t kt => pre20 t (by
          show Steps p.tables e below (T15.setTop (mkF m 104 #[.val (.int p0), .val (.int p1), .val (.int p2), .val (.int p3), .val (.int p4), .val (.int (e0_1 p0)), .val (.int (e0_2 p1)), .val (.int (e0_3 p2)), .val (.int (e0_4 p3)), .val (.int (0 : Int32)), .val (.ref b3), .val (.int ((e0_1 p0) + (1 : Int32))), .unset] [(.int ((e0_1 p0) + (1 : Int32))), (.int (e0_2 p1))])) _
          refine XS.icmpNo X15.here hx rfl (hb hby at_104) rfl (feq hc104_21).1 ?_
          show Steps p.tables e below (T15.setTop (mkF m 107 #[.val (.int p0), .val (.int p1), .val (.int p2), .val (.int p3), .val (.int p4), .val (.int (e0_1 p0)), .val (.int (e0_2 p1)), .val (.int (e0_3 p2)), .val (.int (e0_4 p3)), .val (.int (0 : Int32)), .val (.ref b3), .val (.int ((e0_1 p0) + (1 : Int32))), .unset] [])) _
          refine XS.iload X15.here hx rfl (hb hby at_107) rfl ?_
          show Steps p.tables e below (T15.setTop (mkF m 109 #[.val (.int p0), .val (.int p1), .val (.int p2), .val (.int p3), .val (.int p4), .val (.int (e0_1 p0)), .val (.int (e0_2 p1)), .val (.int (e0_3 p2)), .val (.int (e0_4 p3)), .val (.int (0 : Int32)), .val (.ref b3), .val (.int ((e0_1 p0) + (1 : Int32))), .unset] [(.int (e0_3 p2))])) _
          refine XS.iload X15.here hx rfl (hb hby at_109) rfl ?_
          exact kt)
      by_cases hc111_39 : (e0_3 p2) = ((e0_1 p0) + (1 : Int32))
      · have pre40 : ∀ t, Steps p.tables e below (T15.setTop (mkF m 124 #[.val (.int p0), .val (.int p1), .val (.int p2), .val (.int p3), .val (.int p4), .val (.int (e0_1 p0)), .val (.int (e0_2 p1)), .val (.int (e0_3 p2)), .val (.int (e0_4 p3)), .val (.int (0 : Int32)), .val (.ref b3), .val (.int (((e0_1 p0) + (1 : Int32)) + (1 : Int32))), .unset] [(.int (((e0_1 p0) + (1 : Int32)) + (1 : Int32))), (.int (e0_2 p1))])) t → Steps p.tables e below (s₁.setTop (entryFrame m #[(.int p0), (.int p1), (.int p2), (.int p3), (.int p4)] maxLocals)) t := fun t kt => pre38 t (by
            show Steps p.tables e below (T15.setTop (mkF m 111 #[.val (.int p0), .val (.int p1), .val (.int p2), .val (.int p3), .val (.int p4), .val (.int (e0_1 p0)), .val (.int (e0_2 p1)), .val (.int (e0_3 p2)), .val (.int (e0_4 p3)), .val (.int (0 : Int32)), .val (.ref b3), .val (.int ((e0_1 p0) + (1 : Int32))), .unset] [(.int ((e0_1 p0) + (1 : Int32))), (.int (e0_3 p2))])) _
            refine XS.icmpNo X15.here hx rfl (hb hby at_111) rfl (teq hc111_39).2 ?_
            show Steps p.tables e below (T15.setTop (mkF m 114 #[.val (.int p0), .val (.int p1), .val (.int p2), .val (.int p3), .val (.int p4), .val (.int (e0_1 p0)), .val (.int (e0_2 p1)), .val (.int (e0_3 p2)), .val (.int (e0_4 p3)), .val (.int (0 : Int32)), .val (.ref b3), .val (.int ((e0_1 p0) + (1 : Int32))), .unset] [])) _
            refine XS.iload X15.here hx rfl (hb hby at_114) rfl ?_
            show Steps p.tables e below (T15.setTop (mkF m 116 #[.val (.int p0), .val (.int p1), .val (.int p2), .val (.int p3), .val (.int p4), .val (.int (e0_1 p0)), .val (.int (e0_2 p1)), .val (.int (e0_3 p2)), .val (.int (e0_4 p3)), .val (.int (0 : Int32)), .val (.ref b3), .val (.int ((e0_1 p0) + (1 : Int32))), .unset] [(.int ((e0_1 p0) + (1 : Int32)))])) _
            refine XS.iconst X15.here hx rfl (hb hby at_116) ?_
            show Steps p.tables e below (T15.setTop (mkF m 117 #[.val (.int p0), .val (.int p1), .val (.int p2), .val (.int p3), .val (.int p4), .val (.int (e0_1 p0)), .val (.int (e0_2 p1)), .val (.int (e0_3 p2)), .val (.int (e0_4 p3)), .val (.int (0 : Int32)), .val (.ref b3), .val (.int ((e0_1 p0) + (1 : Int32))), .unset] [(.int (1 : Int32)), (.int ((e0_1 p0) + (1 : Int32)))])) _
            refine XS.iadd X15.here hx rfl (hb hby at_117) rfl ?_
            show Steps p.tables e below (T15.setTop (mkF m 118 #[.val (.int p0), .val (.int p1), .val (.int p2), .val (.int p3), .val (.int p4), .val (.int (e0_1 p0)), .val (.int (e0_2 p1)), .val (.int (e0_3 p2)), .val (.int (e0_4 p3)), .val (.int (0 : Int32)), .val (.ref b3), .val (.int ((e0_1 p0) + (1 : Int32))), .unset] [(.int (((e0_1 p0) + (1 : Int32)) + (1 : Int32)))])) _
            refine XS.istore X15.here hx rfl (hb hby at_118) rfl (l' := #[.val (.int p0), .val (.int p1), .val (.int p2), .val (.int p3), .val (.int p4), .val (.int (e0_1 p0)), .val (.int (e0_2 p1)), .val (.int (e0_3 p2)), .val (.int (e0_4 p3)), .val (.int (0 : Int32)), .val (.ref b3), .val (.int (((e0_1 p0) + (1 : Int32)) + (1 : Int32))), .unset]) rfl ?_
            show Steps p.tables e below (T15.setTop (mkF m 120 #[.val (.int p0), .val (.int p1), .val (.int p2), .val (.int p3), .val (.int p4), .val (.int (e0_1 p0)), .val (.int (e0_2 p1)), .val (.int (e0_3 p2)), .val (.int (e0_4 p3)), .val (.int (0 : Int32)), .val (.ref b3), .val (.int (((e0_1 p0) + (1 : Int32)) + (1 : Int32))), .unset] [])) _
            refine XS.iload X15.here hx rfl (hb hby at_120) rfl ?_
            show Steps p.tables e below (T15.setTop (mkF m 122 #[.val (.int p0), .val (.int p1), .val (.int p2), .val (.int p3), .val (.int p4), .val (.int (e0_1 p0)), .val (.int (e0_2 p1)), .val (.int (e0_3 p2)), .val (.int (e0_4 p3)), .val (.int (0 : Int32)), .val (.ref b3), .val (.int (((e0_1 p0) + (1 : Int32)) + (1 : Int32))), .unset] [(.int (e0_2 p1))])) _
            refine XS.iload X15.here hx rfl (hb hby at_122) rfl ?_
            exact kt)
        by_cases hc124_41 : (e0_2 p1) = (((e0_1 p0) + (1 : Int32)) + (1 : Int32))
        · have pre42 : ∀ t, Steps p.tables e below (T15.setTop (mkF m 142 #[.val (.int p0), .val (.int p1), .val (.int p2), .val (.int p3), .val (.int p4), .val (.int (e0_1 p0)), .val (.int (e0_2 p1)), .val (.int (e0_3 p2)), .val (.int (e0_4 p3)), .val (.int (0 : Int32)), .val (.ref b3), .val (.int ((((e0_1 p0) + (1 : Int32)) + (1 : Int32)) + (1 : Int32))), .unset] [(.int (0 : Int32))])) t → Steps p.tables e below (s₁.setTop (entryFrame m #[(.int p0), (.int p1), (.int p2), (.int p3), (.int p4)] maxLocals)) t := fun t kt => pre40 t (by
              show Steps p.tables e below (T15.setTop (mkF m 124 #[.val (.int p0), .val (.int p1), .val (.int p2), .val (.int p3), .val (.int p4), .val (.int (e0_1 p0)), .val (.int (e0_2 p1)), .val (.int (e0_3 p2)), .val (.int (e0_4 p3)), .val (.int (0 : Int32)), .val (.ref b3), .val (.int (((e0_1 p0) + (1 : Int32)) + (1 : Int32))), .unset] [(.int (((e0_1 p0) + (1 : Int32)) + (1 : Int32))), (.int (e0_2 p1))])) _
              refine XS.icmpYes X15.here hx rfl (pc0 := 124) (pc' := 134) rfl (hb hby at_124) rfl (teq hc124_41).1 (by decide) (by decide) ?_
              show Steps p.tables e below (T15.setTop (mkF m 134 #[.val (.int p0), .val (.int p1), .val (.int p2), .val (.int p3), .val (.int p4), .val (.int (e0_1 p0)), .val (.int (e0_2 p1)), .val (.int (e0_3 p2)), .val (.int (e0_4 p3)), .val (.int (0 : Int32)), .val (.ref b3), .val (.int (((e0_1 p0) + (1 : Int32)) + (1 : Int32))), .unset] [])) _
              refine XS.iload X15.here hx rfl (hb hby at_134) rfl ?_
              show Steps p.tables e below (T15.setTop (mkF m 136 #[.val (.int p0), .val (.int p1), .val (.int p2), .val (.int p3), .val (.int p4), .val (.int (e0_1 p0)), .val (.int (e0_2 p1)), .val (.int (e0_3 p2)), .val (.int (e0_4 p3)), .val (.int (0 : Int32)), .val (.ref b3), .val (.int (((e0_1 p0) + (1 : Int32)) + (1 : Int32))), .unset] [(.int (((e0_1 p0) + (1 : Int32)) + (1 : Int32)))])) _
              refine XS.iconst X15.here hx rfl (hb hby at_136) ?_
              show Steps p.tables e below (T15.setTop (mkF m 137 #[.val (.int p0), .val (.int p1), .val (.int p2), .val (.int p3), .val (.int p4), .val (.int (e0_1 p0)), .val (.int (e0_2 p1)), .val (.int (e0_3 p2)), .val (.int (e0_4 p3)), .val (.int (0 : Int32)), .val (.ref b3), .val (.int (((e0_1 p0) + (1 : Int32)) + (1 : Int32))), .unset] [(.int (1 : Int32)), (.int (((e0_1 p0) + (1 : Int32)) + (1 : Int32)))])) _
              refine XS.iadd X15.here hx rfl (hb hby at_137) rfl ?_
              show Steps p.tables e below (T15.setTop (mkF m 138 #[.val (.int p0), .val (.int p1), .val (.int p2), .val (.int p3), .val (.int p4), .val (.int (e0_1 p0)), .val (.int (e0_2 p1)), .val (.int (e0_3 p2)), .val (.int (e0_4 p3)), .val (.int (0 : Int32)), .val (.ref b3), .val (.int (((e0_1 p0) + (1 : Int32)) + (1 : Int32))), .unset] [(.int ((((e0_1 p0) + (1 : Int32)) + (1 : Int32)) + (1 : Int32)))])) _
              refine XS.istore X15.here hx rfl (hb hby at_138) rfl (l' := #[.val (.int p0), .val (.int p1), .val (.int p2), .val (.int p3), .val (.int p4), .val (.int (e0_1 p0)), .val (.int (e0_2 p1)), .val (.int (e0_3 p2)), .val (.int (e0_4 p3)), .val (.int (0 : Int32)), .val (.ref b3), .val (.int ((((e0_1 p0) + (1 : Int32)) + (1 : Int32)) + (1 : Int32))), .unset]) rfl ?_
              show Steps p.tables e below (T15.setTop (mkF m 140 #[.val (.int p0), .val (.int p1), .val (.int p2), .val (.int p3), .val (.int p4), .val (.int (e0_1 p0)), .val (.int (e0_2 p1)), .val (.int (e0_3 p2)), .val (.int (e0_4 p3)), .val (.int (0 : Int32)), .val (.ref b3), .val (.int ((((e0_1 p0) + (1 : Int32)) + (1 : Int32)) + (1 : Int32))), .unset] [])) _
              refine XS.iload X15.here hx rfl (hb hby at_140) rfl ?_
              exact kt)
          obtain ⟨cq43, kq43, q43a, q43b, q43c⟩ := isOf hZ rfl ((((E_b3.keep K6q).keep K9q).keep K12q).keep K15q)
          obtain ⟨_, _, ⟨T43, L43, k43, n43⟩, -, X43, ⟨Lc43, hQ43, l43, y43, z43⟩, st43⟩ := X15.virtualBack hx (y := (⟨"com/example/cardhost/cardhost/LogicalChannels", "lowestClosed", "()I"⟩ : MethodName)) (z := (⟨"com/example/cardhost/cardhost/LogicalChannels", "lowestClosed", "()I"⟩ : MethodName)) hown (mvT hZ (hw _ (List.mem_of_getElem? (i := 28) rfl))) (mvT hZ (hw _ (List.mem_of_getElem? (i := 29) rfl))) (notFace_of_selects (args := #[]) (mvT hZ (hw _ (List.mem_of_getElem? (i := 31) rfl)))) (mvT hZ (hw _ (List.mem_of_getElem? (i := 31) rfl))) (mvT hZ (hw _ (List.mem_of_getElem? (i := 30) rfl))) (by decide) (backOf (W := 0) (rm5 l Z a0 hw [] b3 r_o0_open_6 (own_upd (own_upd (f3_r1_a (e0_1 p0) (own_upd (fun _ => 0) 0 (1 : Int32))) ((e0_2 p1)).toNatClampNeg (1 : Int32)) ((e0_3 p2)).toNatClampNeg (1 : Int32)) T15.heap n0 Z18 (c16.keep K15q (ninS ne_b3_r_o0_open_6 nin0)) G15_0 g_r_o0_open_6) hZ (hw _ (List.mem_of_getElem? (i := 32) rfl)) (hw _ (List.mem_of_getElem? (i := 3) rfl)) (by decide) (by decide)) q43a q43c (g := (mkF m 161 #[.val (.int p0), .val (.int p1), .val (.int p2), .val (.int p3), .val (.int p4), .val (.int (e0_1 p0)), .val (.int (e0_2 p1)), .val (.int (e0_3 p2)), .val (.int (e0_4 p3)), .val (.int (0 : Int32)), .val (.ref b3), .val (.int ((((e0_1 p0) + (1 : Int32)) + (1 : Int32)) + (1 : Int32))), .val (.int ((((e0_1 p0) + (1 : Int32)) + (1 : Int32)) + (1 : Int32)))] [(.ref b3)])) rfl (by rw [hml]; rfl) (Steps.refl _) (argsL := []) (rest := []) (lenOf pd_0_3 rfl) rfl (by show 2 * 0 + _ ≤ _; exact Nat.le_of_eq rfl) (hb hby at_161) (fun _ _ => ⟨rfl, rfl, (by decide : 4 + 0 ≤ _), (by decide : 63 + 0 ≤ _)⟩)
          dsimp only [Pt.U, Pt.locs, Pt.cells, Pt.slots] at X43 l43 y43 z43 st43 hQ43
          subst l43 y43 z43
          obtain ⟨rfl, N43q, e43q⟩ := hQ43
          have N43 := Fr.app N15 N43q
          have pre44 : ∀ t, Steps p.tables e below (T43.setTop (mkF m 166 #[.val (.int p0), .val (.int p1), .val (.int p2), .val (.int p3), .val (.int p4), .val (.int (e0_1 p0)), .val (.int (e0_2 p1)), .val (.int (e0_3 p2)), .val (.int (e0_4 p3)), .val (.int (0 : Int32)), .val (.ref b3), .val (.int ((((e0_1 p0) + (1 : Int32)) + (1 : Int32)) + (1 : Int32))), .val (.int ((((e0_1 p0) + (1 : Int32)) + (1 : Int32)) + (1 : Int32)))] [(.int ((((e0_1 p0) + (1 : Int32)) + (1 : Int32)) + (1 : Int32))), (.int (f5 (own_upd (own_upd (f3_r1_a (e0_1 p0) (own_upd (fun _ => 0) 0 (1 : Int32))) ((e0_2 p1)).toNatClampNeg (1 : Int32)) ((e0_3 p2)).toNatClampNeg (1 : Int32))))])) t → Steps p.tables e below (s₁.setTop (entryFrame m #[(.int p0), (.int p1), (.int p2), (.int p3), (.int p4)] maxLocals)) t := fun t kt => pre42 t (by
              show Steps p.tables e below (T15.setTop (mkF m 142 #[.val (.int p0), .val (.int p1), .val (.int p2), .val (.int p3), .val (.int p4), .val (.int (e0_1 p0)), .val (.int (e0_2 p1)), .val (.int (e0_3 p2)), .val (.int (e0_4 p3)), .val (.int (0 : Int32)), .val (.ref b3), .val (.int ((((e0_1 p0) + (1 : Int32)) + (1 : Int32)) + (1 : Int32))), .unset] [(.int (0 : Int32))])) _
              refine XS.ifYes X15.here hx rfl (pc0 := 142) (pc' := 155) rfl (hb hby at_142) rfl ((if0 _ _).trans (teq (by decide : ((0 : Int32) = (0 : Int32)))).1) (by decide) (by decide) ?_
              show Steps p.tables e below (T15.setTop (mkF m 155 #[.val (.int p0), .val (.int p1), .val (.int p2), .val (.int p3), .val (.int p4), .val (.int (e0_1 p0)), .val (.int (e0_2 p1)), .val (.int (e0_3 p2)), .val (.int (e0_4 p3)), .val (.int (0 : Int32)), .val (.ref b3), .val (.int ((((e0_1 p0) + (1 : Int32)) + (1 : Int32)) + (1 : Int32))), .unset] [])) _
              refine XS.iload X15.here hx rfl (hb hby at_155) rfl ?_
              show Steps p.tables e below (T15.setTop (mkF m 157 #[.val (.int p0), .val (.int p1), .val (.int p2), .val (.int p3), .val (.int p4), .val (.int (e0_1 p0)), .val (.int (e0_2 p1)), .val (.int (e0_3 p2)), .val (.int (e0_4 p3)), .val (.int (0 : Int32)), .val (.ref b3), .val (.int ((((e0_1 p0) + (1 : Int32)) + (1 : Int32)) + (1 : Int32))), .unset] [(.int ((((e0_1 p0) + (1 : Int32)) + (1 : Int32)) + (1 : Int32)))])) _
              refine XS.istore X15.here hx rfl (hb hby at_157) rfl (l' := #[.val (.int p0), .val (.int p1), .val (.int p2), .val (.int p3), .val (.int p4), .val (.int (e0_1 p0)), .val (.int (e0_2 p1)), .val (.int (e0_3 p2)), .val (.int (e0_4 p3)), .val (.int (0 : Int32)), .val (.ref b3), .val (.int ((((e0_1 p0) + (1 : Int32)) + (1 : Int32)) + (1 : Int32))), .val (.int ((((e0_1 p0) + (1 : Int32)) + (1 : Int32)) + (1 : Int32)))]) rfl ?_
              show Steps p.tables e below (T15.setTop (mkF m 159 #[.val (.int p0), .val (.int p1), .val (.int p2), .val (.int p3), .val (.int p4), .val (.int (e0_1 p0)), .val (.int (e0_2 p1)), .val (.int (e0_3 p2)), .val (.int (e0_4 p3)), .val (.int (0 : Int32)), .val (.ref b3), .val (.int ((((e0_1 p0) + (1 : Int32)) + (1 : Int32)) + (1 : Int32))), .val (.int ((((e0_1 p0) + (1 : Int32)) + (1 : Int32)) + (1 : Int32)))] [])) _
              refine XS.aload X15.here hx rfl (hb hby at_159) rfl rfl ?_
              show Steps p.tables e below (T15.setTop (mkF m 161 #[.val (.int p0), .val (.int p1), .val (.int p2), .val (.int p3), .val (.int p4), .val (.int (e0_1 p0)), .val (.int (e0_2 p1)), .val (.int (e0_3 p2)), .val (.int (e0_4 p3)), .val (.int (0 : Int32)), .val (.ref b3), .val (.int ((((e0_1 p0) + (1 : Int32)) + (1 : Int32)) + (1 : Int32))), .val (.int ((((e0_1 p0) + (1 : Int32)) + (1 : Int32)) + (1 : Int32)))] [(.ref b3)])) _
              refine st43.trans ?_
              show Steps p.tables e below (T43.setTop (mkF m 164 #[.val (.int p0), .val (.int p1), .val (.int p2), .val (.int p3), .val (.int p4), .val (.int (e0_1 p0)), .val (.int (e0_2 p1)), .val (.int (e0_3 p2)), .val (.int (e0_4 p3)), .val (.int (0 : Int32)), .val (.ref b3), .val (.int ((((e0_1 p0) + (1 : Int32)) + (1 : Int32)) + (1 : Int32))), .val (.int ((((e0_1 p0) + (1 : Int32)) + (1 : Int32)) + (1 : Int32)))] [(.int (f5 (own_upd (own_upd (f3_r1_a (e0_1 p0) (own_upd (fun _ => 0) 0 (1 : Int32))) ((e0_2 p1)).toNatClampNeg (1 : Int32)) ((e0_3 p2)).toNatClampNeg (1 : Int32))))])) _
              refine XS.iload X43.here hx rfl (hb hby at_164) rfl ?_
              exact kt)
          have hd166_45 : (f5 (own_upd (own_upd (f3_r1_a (e0_1 p0) (own_upd (fun _ => 0) 0 (1 : Int32))) ((e0_2 p1)).toNatClampNeg (1 : Int32)) ((e0_3 p2)).toNatClampNeg (1 : Int32))) = ((((e0_1 p0) + (1 : Int32)) + (1 : Int32)) + (1 : Int32)) := by have q0 := hc104_21; rw [← Int32.toInt_inj] at q0; have q1 := hc111_39; rw [← Int32.toInt_inj] at q1; have q2 := hc124_41; rw [← Int32.toInt_inj] at q2; have s1 := c_iadd (e0_1 p0) 1; have r1 := rng32 ((e0_1 p0) + 1); have s2 := c_iadd ((e0_1 p0) + 1) 1; have r2 := rng32 ((e0_1 p0) + 1 + 1); have s3 := c_iadd ((e0_1 p0) + 1 + 1) 1; have r3 := rng32 ((e0_1 p0) + 1 + 1 + 1); have e1 : (1 : Int32).toInt = 1 := (by decide); rw [e1] at s1 s2 s3; have hk : 0 ≤ (e0_1 p0).toInt ∧ (e0_1 p0).toInt ≤ 19 := own_b p0; have ha : 0 ≤ (e0_2 p1).toInt ∧ (e0_2 p1).toInt ≤ 19 := own_b p1; have hb : 0 ≤ (e0_3 p2).toInt ∧ (e0_3 p2).toInt ≤ 19 := own_b p2; exact own_fin0 (M := ((((e0_1 p0) + (1 : Int32)) + (1 : Int32)) + (1 : Int32))) hk ha hb (by unfold own_mm; repeat' split; all_goals omega)
          obtain ⟨fs, hr, hrun, hended, hW, hsame⟩ := X43.leave (v := some (.int (1 : Int32))) (fun h => by rw [Bd.returns] at h; cases h)
          have hv148 : (1 : Int32) = (1 : Int32) := rfl
          refine ⟨_, _, pre44 _ ?_, hrun, hended, _, _, rfl, ?_, ⟨_, rfl⟩, hW, hsame.mono (by decide) (by decide)⟩
          · show Steps p.tables e below (T43.setTop (mkF m 166 #[.val (.int p0), .val (.int p1), .val (.int p2), .val (.int p3), .val (.int p4), .val (.int (e0_1 p0)), .val (.int (e0_2 p1)), .val (.int (e0_3 p2)), .val (.int (e0_4 p3)), .val (.int (0 : Int32)), .val (.ref b3), .val (.int ((((e0_1 p0) + (1 : Int32)) + (1 : Int32)) + (1 : Int32))), .val (.int ((((e0_1 p0) + (1 : Int32)) + (1 : Int32)) + (1 : Int32)))] [(.int ((((e0_1 p0) + (1 : Int32)) + (1 : Int32)) + (1 : Int32))), (.int (f5 (own_upd (own_upd (f3_r1_a (e0_1 p0) (own_upd (fun _ => 0) 0 (1 : Int32))) ((e0_2 p1)).toNatClampNeg (1 : Int32)) ((e0_3 p2)).toNatClampNeg (1 : Int32))))])) _
            refine XS.icmpNo X43.here hx rfl (hb hby at_166) rfl (teq hd166_45).2 ?_
            show Steps p.tables e below (T43.setTop (mkF m 169 #[.val (.int p0), .val (.int p1), .val (.int p2), .val (.int p3), .val (.int p4), .val (.int (e0_1 p0)), .val (.int (e0_2 p1)), .val (.int (e0_3 p2)), .val (.int (e0_4 p3)), .val (.int (0 : Int32)), .val (.ref b3), .val (.int ((((e0_1 p0) + (1 : Int32)) + (1 : Int32)) + (1 : Int32))), .val (.int ((((e0_1 p0) + (1 : Int32)) + (1 : Int32)) + (1 : Int32)))] [])) _
            refine XS.iconst X43.here hx rfl (hb hby at_169) ?_
            show Steps p.tables e below (T43.setTop (mkF m 170 #[.val (.int p0), .val (.int p1), .val (.int p2), .val (.int p3), .val (.int p4), .val (.int (e0_1 p0)), .val (.int (e0_2 p1)), .val (.int (e0_3 p2)), .val (.int (e0_4 p3)), .val (.int (0 : Int32)), .val (.ref b3), .val (.int ((((e0_1 p0) + (1 : Int32)) + (1 : Int32)) + (1 : Int32))), .val (.int ((((e0_1 p0) + (1 : Int32)) + (1 : Int32)) + (1 : Int32)))] [(.int (1 : Int32))])) _
            refine XS.goto X43.here hx rfl (pc0 := 170) (pc' := 174) rfl (hb hby at_170) (by decide) (by decide) ?_
            show Steps p.tables e below (T43.setTop (mkF m 174 #[.val (.int p0), .val (.int p1), .val (.int p2), .val (.int p3), .val (.int p4), .val (.int (e0_1 p0)), .val (.int (e0_2 p1)), .val (.int (e0_3 p2)), .val (.int (e0_4 p3)), .val (.int (0 : Int32)), .val (.ref b3), .val (.int ((((e0_1 p0) + (1 : Int32)) + (1 : Int32)) + (1 : Int32))), .val (.int ((((e0_1 p0) + (1 : Int32)) + (1 : Int32)) + (1 : Int32)))] [(.int (1 : Int32))])) _
            exact retN X43 hx (t := .boolean) Bd.returns (by simp) (hb hby at_174) hr
          · show Q0 Z p0 p1 p2 p3 p4 h0 n0 _ T43.heap _
            rw [e43q]
            exact ⟨congrArg (fun q => some (Value.int q)) hv148, N43⟩
        · have pre46 : ∀ t, Steps p.tables e below (T15.setTop (mkF m 131 #[.val (.int p0), .val (.int p1), .val (.int p2), .val (.int p3), .val (.int p4), .val (.int (e0_1 p0)), .val (.int (e0_2 p1)), .val (.int (e0_3 p2)), .val (.int (e0_4 p3)), .val (.int (0 : Int32)), .val (.ref b3), .val (.int (((e0_1 p0) + (1 : Int32)) + (1 : Int32))), .unset] [(.int (((e0_1 p0) + (1 : Int32)) + (1 : Int32))), (.int (e0_3 p2))])) t → Steps p.tables e below (s₁.setTop (entryFrame m #[(.int p0), (.int p1), (.int p2), (.int p3), (.int p4)] maxLocals)) t := fun t kt => pre40 t (by
              show Steps p.tables e below (T15.setTop (mkF m 124 #[.val (.int p0), .val (.int p1), .val (.int p2), .val (.int p3), .val (.int p4), .val (.int (e0_1 p0)), .val (.int (e0_2 p1)), .val (.int (e0_3 p2)), .val (.int (e0_4 p3)), .val (.int (0 : Int32)), .val (.ref b3), .val (.int (((e0_1 p0) + (1 : Int32)) + (1 : Int32))), .unset] [(.int (((e0_1 p0) + (1 : Int32)) + (1 : Int32))), (.int (e0_2 p1))])) _
              refine XS.icmpNo X15.here hx rfl (hb hby at_124) rfl (feq hc124_41).1 ?_
              show Steps p.tables e below (T15.setTop (mkF m 127 #[.val (.int p0), .val (.int p1), .val (.int p2), .val (.int p3), .val (.int p4), .val (.int (e0_1 p0)), .val (.int (e0_2 p1)), .val (.int (e0_3 p2)), .val (.int (e0_4 p3)), .val (.int (0 : Int32)), .val (.ref b3), .val (.int (((e0_1 p0) + (1 : Int32)) + (1 : Int32))), .unset] [])) _
              refine XS.iload X15.here hx rfl (hb hby at_127) rfl ?_
              show Steps p.tables e below (T15.setTop (mkF m 129 #[.val (.int p0), .val (.int p1), .val (.int p2), .val (.int p3), .val (.int p4), .val (.int (e0_1 p0)), .val (.int (e0_2 p1)), .val (.int (e0_3 p2)), .val (.int (e0_4 p3)), .val (.int (0 : Int32)), .val (.ref b3), .val (.int (((e0_1 p0) + (1 : Int32)) + (1 : Int32))), .unset] [(.int (e0_3 p2))])) _
              refine XS.iload X15.here hx rfl (hb hby at_129) rfl ?_
              exact kt)
          by_cases hc131_47 : (e0_3 p2) = (((e0_1 p0) + (1 : Int32)) + (1 : Int32))
          · have pre48 : ∀ t, Steps p.tables e below (T15.setTop (mkF m 142 #[.val (.int p0), .val (.int p1), .val (.int p2), .val (.int p3), .val (.int p4), .val (.int (e0_1 p0)), .val (.int (e0_2 p1)), .val (.int (e0_3 p2)), .val (.int (e0_4 p3)), .val (.int (0 : Int32)), .val (.ref b3), .val (.int ((((e0_1 p0) + (1 : Int32)) + (1 : Int32)) + (1 : Int32))), .unset] [(.int (0 : Int32))])) t → Steps p.tables e below (s₁.setTop (entryFrame m #[(.int p0), (.int p1), (.int p2), (.int p3), (.int p4)] maxLocals)) t := fun t kt => pre46 t (by
                show Steps p.tables e below (T15.setTop (mkF m 131 #[.val (.int p0), .val (.int p1), .val (.int p2), .val (.int p3), .val (.int p4), .val (.int (e0_1 p0)), .val (.int (e0_2 p1)), .val (.int (e0_3 p2)), .val (.int (e0_4 p3)), .val (.int (0 : Int32)), .val (.ref b3), .val (.int (((e0_1 p0) + (1 : Int32)) + (1 : Int32))), .unset] [(.int (((e0_1 p0) + (1 : Int32)) + (1 : Int32))), (.int (e0_3 p2))])) _
                refine XS.icmpNo X15.here hx rfl (hb hby at_131) rfl (teq hc131_47).2 ?_
                show Steps p.tables e below (T15.setTop (mkF m 134 #[.val (.int p0), .val (.int p1), .val (.int p2), .val (.int p3), .val (.int p4), .val (.int (e0_1 p0)), .val (.int (e0_2 p1)), .val (.int (e0_3 p2)), .val (.int (e0_4 p3)), .val (.int (0 : Int32)), .val (.ref b3), .val (.int (((e0_1 p0) + (1 : Int32)) + (1 : Int32))), .unset] [])) _
                refine XS.iload X15.here hx rfl (hb hby at_134) rfl ?_
                show Steps p.tables e below (T15.setTop (mkF m 136 #[.val (.int p0), .val (.int p1), .val (.int p2), .val (.int p3), .val (.int p4), .val (.int (e0_1 p0)), .val (.int (e0_2 p1)), .val (.int (e0_3 p2)), .val (.int (e0_4 p3)), .val (.int (0 : Int32)), .val (.ref b3), .val (.int (((e0_1 p0) + (1 : Int32)) + (1 : Int32))), .unset] [(.int (((e0_1 p0) + (1 : Int32)) + (1 : Int32)))])) _
                refine XS.iconst X15.here hx rfl (hb hby at_136) ?_
                show Steps p.tables e below (T15.setTop (mkF m 137 #[.val (.int p0), .val (.int p1), .val (.int p2), .val (.int p3), .val (.int p4), .val (.int (e0_1 p0)), .val (.int (e0_2 p1)), .val (.int (e0_3 p2)), .val (.int (e0_4 p3)), .val (.int (0 : Int32)), .val (.ref b3), .val (.int (((e0_1 p0) + (1 : Int32)) + (1 : Int32))), .unset] [(.int (1 : Int32)), (.int (((e0_1 p0) + (1 : Int32)) + (1 : Int32)))])) _
                refine XS.iadd X15.here hx rfl (hb hby at_137) rfl ?_
                show Steps p.tables e below (T15.setTop (mkF m 138 #[.val (.int p0), .val (.int p1), .val (.int p2), .val (.int p3), .val (.int p4), .val (.int (e0_1 p0)), .val (.int (e0_2 p1)), .val (.int (e0_3 p2)), .val (.int (e0_4 p3)), .val (.int (0 : Int32)), .val (.ref b3), .val (.int (((e0_1 p0) + (1 : Int32)) + (1 : Int32))), .unset] [(.int ((((e0_1 p0) + (1 : Int32)) + (1 : Int32)) + (1 : Int32)))])) _
                refine XS.istore X15.here hx rfl (hb hby at_138) rfl (l' := #[.val (.int p0), .val (.int p1), .val (.int p2), .val (.int p3), .val (.int p4), .val (.int (e0_1 p0)), .val (.int (e0_2 p1)), .val (.int (e0_3 p2)), .val (.int (e0_4 p3)), .val (.int (0 : Int32)), .val (.ref b3), .val (.int ((((e0_1 p0) + (1 : Int32)) + (1 : Int32)) + (1 : Int32))), .unset]) rfl ?_
                show Steps p.tables e below (T15.setTop (mkF m 140 #[.val (.int p0), .val (.int p1), .val (.int p2), .val (.int p3), .val (.int p4), .val (.int (e0_1 p0)), .val (.int (e0_2 p1)), .val (.int (e0_3 p2)), .val (.int (e0_4 p3)), .val (.int (0 : Int32)), .val (.ref b3), .val (.int ((((e0_1 p0) + (1 : Int32)) + (1 : Int32)) + (1 : Int32))), .unset] [])) _
                refine XS.iload X15.here hx rfl (hb hby at_140) rfl ?_
                exact kt)
            obtain ⟨cq49, kq49, q49a, q49b, q49c⟩ := isOf hZ rfl ((((E_b3.keep K6q).keep K9q).keep K12q).keep K15q)
            obtain ⟨_, _, ⟨T49, L49, k49, n49⟩, -, X49, ⟨Lc49, hQ49, l49, y49, z49⟩, st49⟩ := X15.virtualBack hx (y := (⟨"com/example/cardhost/cardhost/LogicalChannels", "lowestClosed", "()I"⟩ : MethodName)) (z := (⟨"com/example/cardhost/cardhost/LogicalChannels", "lowestClosed", "()I"⟩ : MethodName)) hown (mvT hZ (hw _ (List.mem_of_getElem? (i := 28) rfl))) (mvT hZ (hw _ (List.mem_of_getElem? (i := 29) rfl))) (notFace_of_selects (args := #[]) (mvT hZ (hw _ (List.mem_of_getElem? (i := 31) rfl)))) (mvT hZ (hw _ (List.mem_of_getElem? (i := 31) rfl))) (mvT hZ (hw _ (List.mem_of_getElem? (i := 30) rfl))) (by decide) (backOf (W := 0) (rm5 l Z a0 hw [] b3 r_o0_open_6 (own_upd (own_upd (f3_r1_a (e0_1 p0) (own_upd (fun _ => 0) 0 (1 : Int32))) ((e0_2 p1)).toNatClampNeg (1 : Int32)) ((e0_3 p2)).toNatClampNeg (1 : Int32)) T15.heap n0 Z18 (c16.keep K15q (ninS ne_b3_r_o0_open_6 nin0)) G15_0 g_r_o0_open_6) hZ (hw _ (List.mem_of_getElem? (i := 32) rfl)) (hw _ (List.mem_of_getElem? (i := 3) rfl)) (by decide) (by decide)) q49a q49c (g := (mkF m 161 #[.val (.int p0), .val (.int p1), .val (.int p2), .val (.int p3), .val (.int p4), .val (.int (e0_1 p0)), .val (.int (e0_2 p1)), .val (.int (e0_3 p2)), .val (.int (e0_4 p3)), .val (.int (0 : Int32)), .val (.ref b3), .val (.int ((((e0_1 p0) + (1 : Int32)) + (1 : Int32)) + (1 : Int32))), .val (.int ((((e0_1 p0) + (1 : Int32)) + (1 : Int32)) + (1 : Int32)))] [(.ref b3)])) rfl (by rw [hml]; rfl) (Steps.refl _) (argsL := []) (rest := []) (lenOf pd_0_3 rfl) rfl (by show 2 * 0 + _ ≤ _; exact Nat.le_of_eq rfl) (hb hby at_161) (fun _ _ => ⟨rfl, rfl, (by decide : 4 + 0 ≤ _), (by decide : 63 + 0 ≤ _)⟩)
            dsimp only [Pt.U, Pt.locs, Pt.cells, Pt.slots] at X49 l49 y49 z49 st49 hQ49
            subst l49 y49 z49
            obtain ⟨rfl, N49q, e49q⟩ := hQ49
            have N49 := Fr.app N15 N49q
            have pre50 : ∀ t, Steps p.tables e below (T49.setTop (mkF m 166 #[.val (.int p0), .val (.int p1), .val (.int p2), .val (.int p3), .val (.int p4), .val (.int (e0_1 p0)), .val (.int (e0_2 p1)), .val (.int (e0_3 p2)), .val (.int (e0_4 p3)), .val (.int (0 : Int32)), .val (.ref b3), .val (.int ((((e0_1 p0) + (1 : Int32)) + (1 : Int32)) + (1 : Int32))), .val (.int ((((e0_1 p0) + (1 : Int32)) + (1 : Int32)) + (1 : Int32)))] [(.int ((((e0_1 p0) + (1 : Int32)) + (1 : Int32)) + (1 : Int32))), (.int (f5 (own_upd (own_upd (f3_r1_a (e0_1 p0) (own_upd (fun _ => 0) 0 (1 : Int32))) ((e0_2 p1)).toNatClampNeg (1 : Int32)) ((e0_3 p2)).toNatClampNeg (1 : Int32))))])) t → Steps p.tables e below (s₁.setTop (entryFrame m #[(.int p0), (.int p1), (.int p2), (.int p3), (.int p4)] maxLocals)) t := fun t kt => pre48 t (by
                show Steps p.tables e below (T15.setTop (mkF m 142 #[.val (.int p0), .val (.int p1), .val (.int p2), .val (.int p3), .val (.int p4), .val (.int (e0_1 p0)), .val (.int (e0_2 p1)), .val (.int (e0_3 p2)), .val (.int (e0_4 p3)), .val (.int (0 : Int32)), .val (.ref b3), .val (.int ((((e0_1 p0) + (1 : Int32)) + (1 : Int32)) + (1 : Int32))), .unset] [(.int (0 : Int32))])) _
                refine XS.ifYes X15.here hx rfl (pc0 := 142) (pc' := 155) rfl (hb hby at_142) rfl ((if0 _ _).trans (teq (by decide : ((0 : Int32) = (0 : Int32)))).1) (by decide) (by decide) ?_
                show Steps p.tables e below (T15.setTop (mkF m 155 #[.val (.int p0), .val (.int p1), .val (.int p2), .val (.int p3), .val (.int p4), .val (.int (e0_1 p0)), .val (.int (e0_2 p1)), .val (.int (e0_3 p2)), .val (.int (e0_4 p3)), .val (.int (0 : Int32)), .val (.ref b3), .val (.int ((((e0_1 p0) + (1 : Int32)) + (1 : Int32)) + (1 : Int32))), .unset] [])) _
                refine XS.iload X15.here hx rfl (hb hby at_155) rfl ?_
                show Steps p.tables e below (T15.setTop (mkF m 157 #[.val (.int p0), .val (.int p1), .val (.int p2), .val (.int p3), .val (.int p4), .val (.int (e0_1 p0)), .val (.int (e0_2 p1)), .val (.int (e0_3 p2)), .val (.int (e0_4 p3)), .val (.int (0 : Int32)), .val (.ref b3), .val (.int ((((e0_1 p0) + (1 : Int32)) + (1 : Int32)) + (1 : Int32))), .unset] [(.int ((((e0_1 p0) + (1 : Int32)) + (1 : Int32)) + (1 : Int32)))])) _
                refine XS.istore X15.here hx rfl (hb hby at_157) rfl (l' := #[.val (.int p0), .val (.int p1), .val (.int p2), .val (.int p3), .val (.int p4), .val (.int (e0_1 p0)), .val (.int (e0_2 p1)), .val (.int (e0_3 p2)), .val (.int (e0_4 p3)), .val (.int (0 : Int32)), .val (.ref b3), .val (.int ((((e0_1 p0) + (1 : Int32)) + (1 : Int32)) + (1 : Int32))), .val (.int ((((e0_1 p0) + (1 : Int32)) + (1 : Int32)) + (1 : Int32)))]) rfl ?_
                show Steps p.tables e below (T15.setTop (mkF m 159 #[.val (.int p0), .val (.int p1), .val (.int p2), .val (.int p3), .val (.int p4), .val (.int (e0_1 p0)), .val (.int (e0_2 p1)), .val (.int (e0_3 p2)), .val (.int (e0_4 p3)), .val (.int (0 : Int32)), .val (.ref b3), .val (.int ((((e0_1 p0) + (1 : Int32)) + (1 : Int32)) + (1 : Int32))), .val (.int ((((e0_1 p0) + (1 : Int32)) + (1 : Int32)) + (1 : Int32)))] [])) _
                refine XS.aload X15.here hx rfl (hb hby at_159) rfl rfl ?_
                show Steps p.tables e below (T15.setTop (mkF m 161 #[.val (.int p0), .val (.int p1), .val (.int p2), .val (.int p3), .val (.int p4), .val (.int (e0_1 p0)), .val (.int (e0_2 p1)), .val (.int (e0_3 p2)), .val (.int (e0_4 p3)), .val (.int (0 : Int32)), .val (.ref b3), .val (.int ((((e0_1 p0) + (1 : Int32)) + (1 : Int32)) + (1 : Int32))), .val (.int ((((e0_1 p0) + (1 : Int32)) + (1 : Int32)) + (1 : Int32)))] [(.ref b3)])) _
                refine st49.trans ?_
                show Steps p.tables e below (T49.setTop (mkF m 164 #[.val (.int p0), .val (.int p1), .val (.int p2), .val (.int p3), .val (.int p4), .val (.int (e0_1 p0)), .val (.int (e0_2 p1)), .val (.int (e0_3 p2)), .val (.int (e0_4 p3)), .val (.int (0 : Int32)), .val (.ref b3), .val (.int ((((e0_1 p0) + (1 : Int32)) + (1 : Int32)) + (1 : Int32))), .val (.int ((((e0_1 p0) + (1 : Int32)) + (1 : Int32)) + (1 : Int32)))] [(.int (f5 (own_upd (own_upd (f3_r1_a (e0_1 p0) (own_upd (fun _ => 0) 0 (1 : Int32))) ((e0_2 p1)).toNatClampNeg (1 : Int32)) ((e0_3 p2)).toNatClampNeg (1 : Int32))))])) _
                refine XS.iload X49.here hx rfl (hb hby at_164) rfl ?_
                exact kt)
            have hd166_51 : (f5 (own_upd (own_upd (f3_r1_a (e0_1 p0) (own_upd (fun _ => 0) 0 (1 : Int32))) ((e0_2 p1)).toNatClampNeg (1 : Int32)) ((e0_3 p2)).toNatClampNeg (1 : Int32))) = ((((e0_1 p0) + (1 : Int32)) + (1 : Int32)) + (1 : Int32)) := by have q0 := hc104_21; rw [← Int32.toInt_inj] at q0; have q1 := hc111_39; rw [← Int32.toInt_inj] at q1; have q2 := hc124_41; rw [← Int32.toInt_inj] at q2; have q3 := hc131_47; rw [← Int32.toInt_inj] at q3; have s1 := c_iadd (e0_1 p0) 1; have r1 := rng32 ((e0_1 p0) + 1); have s2 := c_iadd ((e0_1 p0) + 1) 1; have r2 := rng32 ((e0_1 p0) + 1 + 1); have s3 := c_iadd ((e0_1 p0) + 1 + 1) 1; have r3 := rng32 ((e0_1 p0) + 1 + 1 + 1); have e1 : (1 : Int32).toInt = 1 := (by decide); rw [e1] at s1 s2 s3; have hk : 0 ≤ (e0_1 p0).toInt ∧ (e0_1 p0).toInt ≤ 19 := own_b p0; have ha : 0 ≤ (e0_2 p1).toInt ∧ (e0_2 p1).toInt ≤ 19 := own_b p1; have hb : 0 ≤ (e0_3 p2).toInt ∧ (e0_3 p2).toInt ≤ 19 := own_b p2; exact own_fin0 (M := ((((e0_1 p0) + (1 : Int32)) + (1 : Int32)) + (1 : Int32))) hk ha hb (by unfold own_mm; repeat' split; all_goals omega)
            obtain ⟨fs, hr, hrun, hended, hW, hsame⟩ := X49.leave (v := some (.int (1 : Int32))) (fun h => by rw [Bd.returns] at h; cases h)
            have hv149 : (1 : Int32) = (1 : Int32) := rfl
            refine ⟨_, _, pre50 _ ?_, hrun, hended, _, _, rfl, ?_, ⟨_, rfl⟩, hW, hsame.mono (by decide) (by decide)⟩
            · show Steps p.tables e below (T49.setTop (mkF m 166 #[.val (.int p0), .val (.int p1), .val (.int p2), .val (.int p3), .val (.int p4), .val (.int (e0_1 p0)), .val (.int (e0_2 p1)), .val (.int (e0_3 p2)), .val (.int (e0_4 p3)), .val (.int (0 : Int32)), .val (.ref b3), .val (.int ((((e0_1 p0) + (1 : Int32)) + (1 : Int32)) + (1 : Int32))), .val (.int ((((e0_1 p0) + (1 : Int32)) + (1 : Int32)) + (1 : Int32)))] [(.int ((((e0_1 p0) + (1 : Int32)) + (1 : Int32)) + (1 : Int32))), (.int (f5 (own_upd (own_upd (f3_r1_a (e0_1 p0) (own_upd (fun _ => 0) 0 (1 : Int32))) ((e0_2 p1)).toNatClampNeg (1 : Int32)) ((e0_3 p2)).toNatClampNeg (1 : Int32))))])) _
              refine XS.icmpNo X49.here hx rfl (hb hby at_166) rfl (teq hd166_51).2 ?_
              show Steps p.tables e below (T49.setTop (mkF m 169 #[.val (.int p0), .val (.int p1), .val (.int p2), .val (.int p3), .val (.int p4), .val (.int (e0_1 p0)), .val (.int (e0_2 p1)), .val (.int (e0_3 p2)), .val (.int (e0_4 p3)), .val (.int (0 : Int32)), .val (.ref b3), .val (.int ((((e0_1 p0) + (1 : Int32)) + (1 : Int32)) + (1 : Int32))), .val (.int ((((e0_1 p0) + (1 : Int32)) + (1 : Int32)) + (1 : Int32)))] [])) _
              refine XS.iconst X49.here hx rfl (hb hby at_169) ?_
              show Steps p.tables e below (T49.setTop (mkF m 170 #[.val (.int p0), .val (.int p1), .val (.int p2), .val (.int p3), .val (.int p4), .val (.int (e0_1 p0)), .val (.int (e0_2 p1)), .val (.int (e0_3 p2)), .val (.int (e0_4 p3)), .val (.int (0 : Int32)), .val (.ref b3), .val (.int ((((e0_1 p0) + (1 : Int32)) + (1 : Int32)) + (1 : Int32))), .val (.int ((((e0_1 p0) + (1 : Int32)) + (1 : Int32)) + (1 : Int32)))] [(.int (1 : Int32))])) _
              refine XS.goto X49.here hx rfl (pc0 := 170) (pc' := 174) rfl (hb hby at_170) (by decide) (by decide) ?_
              show Steps p.tables e below (T49.setTop (mkF m 174 #[.val (.int p0), .val (.int p1), .val (.int p2), .val (.int p3), .val (.int p4), .val (.int (e0_1 p0)), .val (.int (e0_2 p1)), .val (.int (e0_3 p2)), .val (.int (e0_4 p3)), .val (.int (0 : Int32)), .val (.ref b3), .val (.int ((((e0_1 p0) + (1 : Int32)) + (1 : Int32)) + (1 : Int32))), .val (.int ((((e0_1 p0) + (1 : Int32)) + (1 : Int32)) + (1 : Int32)))] [(.int (1 : Int32))])) _
              exact retN X49 hx (t := .boolean) Bd.returns (by simp) (hb hby at_174) hr
            · show Q0 Z p0 p1 p2 p3 p4 h0 n0 _ T49.heap _
              rw [e49q]
              exact ⟨congrArg (fun q => some (Value.int q)) hv149, N49⟩
          · have pre52 : ∀ t, Steps p.tables e below (T15.setTop (mkF m 142 #[.val (.int p0), .val (.int p1), .val (.int p2), .val (.int p3), .val (.int p4), .val (.int (e0_1 p0)), .val (.int (e0_2 p1)), .val (.int (e0_3 p2)), .val (.int (e0_4 p3)), .val (.int (0 : Int32)), .val (.ref b3), .val (.int (((e0_1 p0) + (1 : Int32)) + (1 : Int32))), .unset] [(.int (0 : Int32))])) t → Steps p.tables e below (s₁.setTop (entryFrame m #[(.int p0), (.int p1), (.int p2), (.int p3), (.int p4)] maxLocals)) t := fun t kt => pre46 t (by
                show Steps p.tables e below (T15.setTop (mkF m 131 #[.val (.int p0), .val (.int p1), .val (.int p2), .val (.int p3), .val (.int p4), .val (.int (e0_1 p0)), .val (.int (e0_2 p1)), .val (.int (e0_3 p2)), .val (.int (e0_4 p3)), .val (.int (0 : Int32)), .val (.ref b3), .val (.int (((e0_1 p0) + (1 : Int32)) + (1 : Int32))), .unset] [(.int (((e0_1 p0) + (1 : Int32)) + (1 : Int32))), (.int (e0_3 p2))])) _
                refine XS.icmpYes X15.here hx rfl (pc0 := 131) (pc' := 140) rfl (hb hby at_131) rfl (feq hc131_47).2 (by decide) (by decide) ?_
                show Steps p.tables e below (T15.setTop (mkF m 140 #[.val (.int p0), .val (.int p1), .val (.int p2), .val (.int p3), .val (.int p4), .val (.int (e0_1 p0)), .val (.int (e0_2 p1)), .val (.int (e0_3 p2)), .val (.int (e0_4 p3)), .val (.int (0 : Int32)), .val (.ref b3), .val (.int (((e0_1 p0) + (1 : Int32)) + (1 : Int32))), .unset] [])) _
                refine XS.iload X15.here hx rfl (hb hby at_140) rfl ?_
                exact kt)
            obtain ⟨cq53, kq53, q53a, q53b, q53c⟩ := isOf hZ rfl ((((E_b3.keep K6q).keep K9q).keep K12q).keep K15q)
            obtain ⟨_, _, ⟨T53, L53, k53, n53⟩, -, X53, ⟨Lc53, hQ53, l53, y53, z53⟩, st53⟩ := X15.virtualBack hx (y := (⟨"com/example/cardhost/cardhost/LogicalChannels", "lowestClosed", "()I"⟩ : MethodName)) (z := (⟨"com/example/cardhost/cardhost/LogicalChannels", "lowestClosed", "()I"⟩ : MethodName)) hown (mvT hZ (hw _ (List.mem_of_getElem? (i := 28) rfl))) (mvT hZ (hw _ (List.mem_of_getElem? (i := 29) rfl))) (notFace_of_selects (args := #[]) (mvT hZ (hw _ (List.mem_of_getElem? (i := 31) rfl)))) (mvT hZ (hw _ (List.mem_of_getElem? (i := 31) rfl))) (mvT hZ (hw _ (List.mem_of_getElem? (i := 30) rfl))) (by decide) (backOf (W := 0) (rm5 l Z a0 hw [] b3 r_o0_open_6 (own_upd (own_upd (f3_r1_a (e0_1 p0) (own_upd (fun _ => 0) 0 (1 : Int32))) ((e0_2 p1)).toNatClampNeg (1 : Int32)) ((e0_3 p2)).toNatClampNeg (1 : Int32)) T15.heap n0 Z18 (c16.keep K15q (ninS ne_b3_r_o0_open_6 nin0)) G15_0 g_r_o0_open_6) hZ (hw _ (List.mem_of_getElem? (i := 32) rfl)) (hw _ (List.mem_of_getElem? (i := 3) rfl)) (by decide) (by decide)) q53a q53c (g := (mkF m 161 #[.val (.int p0), .val (.int p1), .val (.int p2), .val (.int p3), .val (.int p4), .val (.int (e0_1 p0)), .val (.int (e0_2 p1)), .val (.int (e0_3 p2)), .val (.int (e0_4 p3)), .val (.int (0 : Int32)), .val (.ref b3), .val (.int (((e0_1 p0) + (1 : Int32)) + (1 : Int32))), .val (.int (((e0_1 p0) + (1 : Int32)) + (1 : Int32)))] [(.ref b3)])) rfl (by rw [hml]; rfl) (Steps.refl _) (argsL := []) (rest := []) (lenOf pd_0_3 rfl) rfl (by show 2 * 0 + _ ≤ _; exact Nat.le_of_eq rfl) (hb hby at_161) (fun _ _ => ⟨rfl, rfl, (by decide : 4 + 0 ≤ _), (by decide : 63 + 0 ≤ _)⟩)
            dsimp only [Pt.U, Pt.locs, Pt.cells, Pt.slots] at X53 l53 y53 z53 st53 hQ53
            subst l53 y53 z53
            obtain ⟨rfl, N53q, e53q⟩ := hQ53
            have N53 := Fr.app N15 N53q
            have pre54 : ∀ t, Steps p.tables e below (T53.setTop (mkF m 166 #[.val (.int p0), .val (.int p1), .val (.int p2), .val (.int p3), .val (.int p4), .val (.int (e0_1 p0)), .val (.int (e0_2 p1)), .val (.int (e0_3 p2)), .val (.int (e0_4 p3)), .val (.int (0 : Int32)), .val (.ref b3), .val (.int (((e0_1 p0) + (1 : Int32)) + (1 : Int32))), .val (.int (((e0_1 p0) + (1 : Int32)) + (1 : Int32)))] [(.int (((e0_1 p0) + (1 : Int32)) + (1 : Int32))), (.int (f5 (own_upd (own_upd (f3_r1_a (e0_1 p0) (own_upd (fun _ => 0) 0 (1 : Int32))) ((e0_2 p1)).toNatClampNeg (1 : Int32)) ((e0_3 p2)).toNatClampNeg (1 : Int32))))])) t → Steps p.tables e below (s₁.setTop (entryFrame m #[(.int p0), (.int p1), (.int p2), (.int p3), (.int p4)] maxLocals)) t := fun t kt => pre52 t (by
                show Steps p.tables e below (T15.setTop (mkF m 142 #[.val (.int p0), .val (.int p1), .val (.int p2), .val (.int p3), .val (.int p4), .val (.int (e0_1 p0)), .val (.int (e0_2 p1)), .val (.int (e0_3 p2)), .val (.int (e0_4 p3)), .val (.int (0 : Int32)), .val (.ref b3), .val (.int (((e0_1 p0) + (1 : Int32)) + (1 : Int32))), .unset] [(.int (0 : Int32))])) _
                refine XS.ifYes X15.here hx rfl (pc0 := 142) (pc' := 155) rfl (hb hby at_142) rfl ((if0 _ _).trans (teq (by decide : ((0 : Int32) = (0 : Int32)))).1) (by decide) (by decide) ?_
                show Steps p.tables e below (T15.setTop (mkF m 155 #[.val (.int p0), .val (.int p1), .val (.int p2), .val (.int p3), .val (.int p4), .val (.int (e0_1 p0)), .val (.int (e0_2 p1)), .val (.int (e0_3 p2)), .val (.int (e0_4 p3)), .val (.int (0 : Int32)), .val (.ref b3), .val (.int (((e0_1 p0) + (1 : Int32)) + (1 : Int32))), .unset] [])) _
                refine XS.iload X15.here hx rfl (hb hby at_155) rfl ?_
                show Steps p.tables e below (T15.setTop (mkF m 157 #[.val (.int p0), .val (.int p1), .val (.int p2), .val (.int p3), .val (.int p4), .val (.int (e0_1 p0)), .val (.int (e0_2 p1)), .val (.int (e0_3 p2)), .val (.int (e0_4 p3)), .val (.int (0 : Int32)), .val (.ref b3), .val (.int (((e0_1 p0) + (1 : Int32)) + (1 : Int32))), .unset] [(.int (((e0_1 p0) + (1 : Int32)) + (1 : Int32)))])) _
                refine XS.istore X15.here hx rfl (hb hby at_157) rfl (l' := #[.val (.int p0), .val (.int p1), .val (.int p2), .val (.int p3), .val (.int p4), .val (.int (e0_1 p0)), .val (.int (e0_2 p1)), .val (.int (e0_3 p2)), .val (.int (e0_4 p3)), .val (.int (0 : Int32)), .val (.ref b3), .val (.int (((e0_1 p0) + (1 : Int32)) + (1 : Int32))), .val (.int (((e0_1 p0) + (1 : Int32)) + (1 : Int32)))]) rfl ?_
                show Steps p.tables e below (T15.setTop (mkF m 159 #[.val (.int p0), .val (.int p1), .val (.int p2), .val (.int p3), .val (.int p4), .val (.int (e0_1 p0)), .val (.int (e0_2 p1)), .val (.int (e0_3 p2)), .val (.int (e0_4 p3)), .val (.int (0 : Int32)), .val (.ref b3), .val (.int (((e0_1 p0) + (1 : Int32)) + (1 : Int32))), .val (.int (((e0_1 p0) + (1 : Int32)) + (1 : Int32)))] [])) _
                refine XS.aload X15.here hx rfl (hb hby at_159) rfl rfl ?_
                show Steps p.tables e below (T15.setTop (mkF m 161 #[.val (.int p0), .val (.int p1), .val (.int p2), .val (.int p3), .val (.int p4), .val (.int (e0_1 p0)), .val (.int (e0_2 p1)), .val (.int (e0_3 p2)), .val (.int (e0_4 p3)), .val (.int (0 : Int32)), .val (.ref b3), .val (.int (((e0_1 p0) + (1 : Int32)) + (1 : Int32))), .val (.int (((e0_1 p0) + (1 : Int32)) + (1 : Int32)))] [(.ref b3)])) _
                refine st53.trans ?_
                show Steps p.tables e below (T53.setTop (mkF m 164 #[.val (.int p0), .val (.int p1), .val (.int p2), .val (.int p3), .val (.int p4), .val (.int (e0_1 p0)), .val (.int (e0_2 p1)), .val (.int (e0_3 p2)), .val (.int (e0_4 p3)), .val (.int (0 : Int32)), .val (.ref b3), .val (.int (((e0_1 p0) + (1 : Int32)) + (1 : Int32))), .val (.int (((e0_1 p0) + (1 : Int32)) + (1 : Int32)))] [(.int (f5 (own_upd (own_upd (f3_r1_a (e0_1 p0) (own_upd (fun _ => 0) 0 (1 : Int32))) ((e0_2 p1)).toNatClampNeg (1 : Int32)) ((e0_3 p2)).toNatClampNeg (1 : Int32))))])) _
                refine XS.iload X53.here hx rfl (hb hby at_164) rfl ?_
                exact kt)
            have hd166_55 : (f5 (own_upd (own_upd (f3_r1_a (e0_1 p0) (own_upd (fun _ => 0) 0 (1 : Int32))) ((e0_2 p1)).toNatClampNeg (1 : Int32)) ((e0_3 p2)).toNatClampNeg (1 : Int32))) = (((e0_1 p0) + (1 : Int32)) + (1 : Int32)) := by have q0 := hc104_21; rw [← Int32.toInt_inj] at q0; have q1 := hc111_39; rw [← Int32.toInt_inj] at q1; have q2 := hc124_41; rw [← Int32.toInt_inj] at q2; have q3 := hc131_47; rw [← Int32.toInt_inj] at q3; have s1 := c_iadd (e0_1 p0) 1; have r1 := rng32 ((e0_1 p0) + 1); have s2 := c_iadd ((e0_1 p0) + 1) 1; have r2 := rng32 ((e0_1 p0) + 1 + 1); have s3 := c_iadd ((e0_1 p0) + 1 + 1) 1; have r3 := rng32 ((e0_1 p0) + 1 + 1 + 1); have e1 : (1 : Int32).toInt = 1 := (by decide); rw [e1] at s1 s2 s3; have hk : 0 ≤ (e0_1 p0).toInt ∧ (e0_1 p0).toInt ≤ 19 := own_b p0; have ha : 0 ≤ (e0_2 p1).toInt ∧ (e0_2 p1).toInt ≤ 19 := own_b p1; have hb : 0 ≤ (e0_3 p2).toInt ∧ (e0_3 p2).toInt ≤ 19 := own_b p2; exact own_fin0 (M := (((e0_1 p0) + (1 : Int32)) + (1 : Int32))) hk ha hb (by unfold own_mm; repeat' split; all_goals omega)
            obtain ⟨fs, hr, hrun, hended, hW, hsame⟩ := X53.leave (v := some (.int (1 : Int32))) (fun h => by rw [Bd.returns] at h; cases h)
            have hv150 : (1 : Int32) = (1 : Int32) := rfl
            refine ⟨_, _, pre54 _ ?_, hrun, hended, _, _, rfl, ?_, ⟨_, rfl⟩, hW, hsame.mono (by decide) (by decide)⟩
            · show Steps p.tables e below (T53.setTop (mkF m 166 #[.val (.int p0), .val (.int p1), .val (.int p2), .val (.int p3), .val (.int p4), .val (.int (e0_1 p0)), .val (.int (e0_2 p1)), .val (.int (e0_3 p2)), .val (.int (e0_4 p3)), .val (.int (0 : Int32)), .val (.ref b3), .val (.int (((e0_1 p0) + (1 : Int32)) + (1 : Int32))), .val (.int (((e0_1 p0) + (1 : Int32)) + (1 : Int32)))] [(.int (((e0_1 p0) + (1 : Int32)) + (1 : Int32))), (.int (f5 (own_upd (own_upd (f3_r1_a (e0_1 p0) (own_upd (fun _ => 0) 0 (1 : Int32))) ((e0_2 p1)).toNatClampNeg (1 : Int32)) ((e0_3 p2)).toNatClampNeg (1 : Int32))))])) _
              refine XS.icmpNo X53.here hx rfl (hb hby at_166) rfl (teq hd166_55).2 ?_
              show Steps p.tables e below (T53.setTop (mkF m 169 #[.val (.int p0), .val (.int p1), .val (.int p2), .val (.int p3), .val (.int p4), .val (.int (e0_1 p0)), .val (.int (e0_2 p1)), .val (.int (e0_3 p2)), .val (.int (e0_4 p3)), .val (.int (0 : Int32)), .val (.ref b3), .val (.int (((e0_1 p0) + (1 : Int32)) + (1 : Int32))), .val (.int (((e0_1 p0) + (1 : Int32)) + (1 : Int32)))] [])) _
              refine XS.iconst X53.here hx rfl (hb hby at_169) ?_
              show Steps p.tables e below (T53.setTop (mkF m 170 #[.val (.int p0), .val (.int p1), .val (.int p2), .val (.int p3), .val (.int p4), .val (.int (e0_1 p0)), .val (.int (e0_2 p1)), .val (.int (e0_3 p2)), .val (.int (e0_4 p3)), .val (.int (0 : Int32)), .val (.ref b3), .val (.int (((e0_1 p0) + (1 : Int32)) + (1 : Int32))), .val (.int (((e0_1 p0) + (1 : Int32)) + (1 : Int32)))] [(.int (1 : Int32))])) _
              refine XS.goto X53.here hx rfl (pc0 := 170) (pc' := 174) rfl (hb hby at_170) (by decide) (by decide) ?_
              show Steps p.tables e below (T53.setTop (mkF m 174 #[.val (.int p0), .val (.int p1), .val (.int p2), .val (.int p3), .val (.int p4), .val (.int (e0_1 p0)), .val (.int (e0_2 p1)), .val (.int (e0_3 p2)), .val (.int (e0_4 p3)), .val (.int (0 : Int32)), .val (.ref b3), .val (.int (((e0_1 p0) + (1 : Int32)) + (1 : Int32))), .val (.int (((e0_1 p0) + (1 : Int32)) + (1 : Int32)))] [(.int (1 : Int32))])) _
              exact retN X53 hx (t := .boolean) Bd.returns (by simp) (hb hby at_174) hr
            · show Q0 Z p0 p1 p2 p3 p4 h0 n0 _ T53.heap _
              rw [e53q]
              exact ⟨congrArg (fun q => some (Value.int q)) hv150, N53⟩
      · have pre56 : ∀ t, Steps p.tables e below (T15.setTop (mkF m 124 #[.val (.int p0), .val (.int p1), .val (.int p2), .val (.int p3), .val (.int p4), .val (.int (e0_1 p0)), .val (.int (e0_2 p1)), .val (.int (e0_3 p2)), .val (.int (e0_4 p3)), .val (.int (0 : Int32)), .val (.ref b3), .val (.int ((e0_1 p0) + (1 : Int32))), .unset] [(.int ((e0_1 p0) + (1 : Int32))), (.int (e0_2 p1))])) t → Steps p.tables e below (s₁.setTop (entryFrame m #[(.int p0), (.int p1), (.int p2), (.int p3), (.int p4)] maxLocals)) t := fun t kt => pre38 t (by
            show Steps p.tables e below (T15.setTop (mkF m 111 #[.val (.int p0), .val (.int p1), .val (.int p2), .val (.int p3), .val (.int p4), .val (.int (e0_1 p0)), .val (.int (e0_2 p1)), .val (.int (e0_3 p2)), .val (.int (e0_4 p3)), .val (.int (0 : Int32)), .val (.ref b3), .val (.int ((e0_1 p0) + (1 : Int32))), .unset] [(.int ((e0_1 p0) + (1 : Int32))), (.int (e0_3 p2))])) _
            refine XS.icmpYes X15.here hx rfl (pc0 := 111) (pc' := 120) rfl (hb hby at_111) rfl (feq hc111_39).2 (by decide) (by decide) ?_
            show Steps p.tables e below (T15.setTop (mkF m 120 #[.val (.int p0), .val (.int p1), .val (.int p2), .val (.int p3), .val (.int p4), .val (.int (e0_1 p0)), .val (.int (e0_2 p1)), .val (.int (e0_3 p2)), .val (.int (e0_4 p3)), .val (.int (0 : Int32)), .val (.ref b3), .val (.int ((e0_1 p0) + (1 : Int32))), .unset] [])) _
            refine XS.iload X15.here hx rfl (hb hby at_120) rfl ?_
            show Steps p.tables e below (T15.setTop (mkF m 122 #[.val (.int p0), .val (.int p1), .val (.int p2), .val (.int p3), .val (.int p4), .val (.int (e0_1 p0)), .val (.int (e0_2 p1)), .val (.int (e0_3 p2)), .val (.int (e0_4 p3)), .val (.int (0 : Int32)), .val (.ref b3), .val (.int ((e0_1 p0) + (1 : Int32))), .unset] [(.int (e0_2 p1))])) _
            refine XS.iload X15.here hx rfl (hb hby at_122) rfl ?_
            exact kt)
        have pre57 : ∀ t, Steps p.tables e below (T15.setTop (mkF m 131 #[.val (.int p0), .val (.int p1), .val (.int p2), .val (.int p3), .val (.int p4), .val (.int (e0_1 p0)), .val (.int (e0_2 p1)), .val (.int (e0_3 p2)), .val (.int (e0_4 p3)), .val (.int (0 : Int32)), .val (.ref b3), .val (.int ((e0_1 p0) + (1 : Int32))), .unset] [(.int ((e0_1 p0) + (1 : Int32))), (.int (e0_3 p2))])) t → Steps p.tables e below (s₁.setTop (entryFrame m #[(.int p0), (.int p1), (.int p2), (.int p3), (.int p4)] maxLocals)) t := fun t kt => pre56 t (by
            show Steps p.tables e below (T15.setTop (mkF m 124 #[.val (.int p0), .val (.int p1), .val (.int p2), .val (.int p3), .val (.int p4), .val (.int (e0_1 p0)), .val (.int (e0_2 p1)), .val (.int (e0_3 p2)), .val (.int (e0_4 p3)), .val (.int (0 : Int32)), .val (.ref b3), .val (.int ((e0_1 p0) + (1 : Int32))), .unset] [(.int ((e0_1 p0) + (1 : Int32))), (.int (e0_2 p1))])) _
            refine XS.icmpNo X15.here hx rfl (hb hby at_124) rfl (feq hc104_21).1 ?_
            show Steps p.tables e below (T15.setTop (mkF m 127 #[.val (.int p0), .val (.int p1), .val (.int p2), .val (.int p3), .val (.int p4), .val (.int (e0_1 p0)), .val (.int (e0_2 p1)), .val (.int (e0_3 p2)), .val (.int (e0_4 p3)), .val (.int (0 : Int32)), .val (.ref b3), .val (.int ((e0_1 p0) + (1 : Int32))), .unset] [])) _
            refine XS.iload X15.here hx rfl (hb hby at_127) rfl ?_
            show Steps p.tables e below (T15.setTop (mkF m 129 #[.val (.int p0), .val (.int p1), .val (.int p2), .val (.int p3), .val (.int p4), .val (.int (e0_1 p0)), .val (.int (e0_2 p1)), .val (.int (e0_3 p2)), .val (.int (e0_4 p3)), .val (.int (0 : Int32)), .val (.ref b3), .val (.int ((e0_1 p0) + (1 : Int32))), .unset] [(.int (e0_3 p2))])) _
            refine XS.iload X15.here hx rfl (hb hby at_129) rfl ?_
            exact kt)
        have pre58 : ∀ t, Steps p.tables e below (T15.setTop (mkF m 142 #[.val (.int p0), .val (.int p1), .val (.int p2), .val (.int p3), .val (.int p4), .val (.int (e0_1 p0)), .val (.int (e0_2 p1)), .val (.int (e0_3 p2)), .val (.int (e0_4 p3)), .val (.int (0 : Int32)), .val (.ref b3), .val (.int ((e0_1 p0) + (1 : Int32))), .unset] [(.int (0 : Int32))])) t → Steps p.tables e below (s₁.setTop (entryFrame m #[(.int p0), (.int p1), (.int p2), (.int p3), (.int p4)] maxLocals)) t := fun t kt => pre57 t (by
            show Steps p.tables e below (T15.setTop (mkF m 131 #[.val (.int p0), .val (.int p1), .val (.int p2), .val (.int p3), .val (.int p4), .val (.int (e0_1 p0)), .val (.int (e0_2 p1)), .val (.int (e0_3 p2)), .val (.int (e0_4 p3)), .val (.int (0 : Int32)), .val (.ref b3), .val (.int ((e0_1 p0) + (1 : Int32))), .unset] [(.int ((e0_1 p0) + (1 : Int32))), (.int (e0_3 p2))])) _
            refine XS.icmpYes X15.here hx rfl (pc0 := 131) (pc' := 140) rfl (hb hby at_131) rfl (feq hc111_39).2 (by decide) (by decide) ?_
            show Steps p.tables e below (T15.setTop (mkF m 140 #[.val (.int p0), .val (.int p1), .val (.int p2), .val (.int p3), .val (.int p4), .val (.int (e0_1 p0)), .val (.int (e0_2 p1)), .val (.int (e0_3 p2)), .val (.int (e0_4 p3)), .val (.int (0 : Int32)), .val (.ref b3), .val (.int ((e0_1 p0) + (1 : Int32))), .unset] [])) _
            refine XS.iload X15.here hx rfl (hb hby at_140) rfl ?_
            exact kt)
        obtain ⟨cq59, kq59, q59a, q59b, q59c⟩ := isOf hZ rfl ((((E_b3.keep K6q).keep K9q).keep K12q).keep K15q)
        obtain ⟨_, _, ⟨T59, L59, k59, n59⟩, -, X59, ⟨Lc59, hQ59, l59, y59, z59⟩, st59⟩ := X15.virtualBack hx (y := (⟨"com/example/cardhost/cardhost/LogicalChannels", "lowestClosed", "()I"⟩ : MethodName)) (z := (⟨"com/example/cardhost/cardhost/LogicalChannels", "lowestClosed", "()I"⟩ : MethodName)) hown (mvT hZ (hw _ (List.mem_of_getElem? (i := 28) rfl))) (mvT hZ (hw _ (List.mem_of_getElem? (i := 29) rfl))) (notFace_of_selects (args := #[]) (mvT hZ (hw _ (List.mem_of_getElem? (i := 31) rfl)))) (mvT hZ (hw _ (List.mem_of_getElem? (i := 31) rfl))) (mvT hZ (hw _ (List.mem_of_getElem? (i := 30) rfl))) (by decide) (backOf (W := 0) (rm5 l Z a0 hw [] b3 r_o0_open_6 (own_upd (own_upd (f3_r1_a (e0_1 p0) (own_upd (fun _ => 0) 0 (1 : Int32))) ((e0_2 p1)).toNatClampNeg (1 : Int32)) ((e0_3 p2)).toNatClampNeg (1 : Int32)) T15.heap n0 Z18 (c16.keep K15q (ninS ne_b3_r_o0_open_6 nin0)) G15_0 g_r_o0_open_6) hZ (hw _ (List.mem_of_getElem? (i := 32) rfl)) (hw _ (List.mem_of_getElem? (i := 3) rfl)) (by decide) (by decide)) q59a q59c (g := (mkF m 161 #[.val (.int p0), .val (.int p1), .val (.int p2), .val (.int p3), .val (.int p4), .val (.int (e0_1 p0)), .val (.int (e0_2 p1)), .val (.int (e0_3 p2)), .val (.int (e0_4 p3)), .val (.int (0 : Int32)), .val (.ref b3), .val (.int ((e0_1 p0) + (1 : Int32))), .val (.int ((e0_1 p0) + (1 : Int32)))] [(.ref b3)])) rfl (by rw [hml]; rfl) (Steps.refl _) (argsL := []) (rest := []) (lenOf pd_0_3 rfl) rfl (by show 2 * 0 + _ ≤ _; exact Nat.le_of_eq rfl) (hb hby at_161) (fun _ _ => ⟨rfl, rfl, (by decide : 4 + 0 ≤ _), (by decide : 63 + 0 ≤ _)⟩)
        dsimp only [Pt.U, Pt.locs, Pt.cells, Pt.slots] at X59 l59 y59 z59 st59 hQ59
        subst l59 y59 z59
        obtain ⟨rfl, N59q, e59q⟩ := hQ59
        have N59 := Fr.app N15 N59q
        have pre60 : ∀ t, Steps p.tables e below (T59.setTop (mkF m 166 #[.val (.int p0), .val (.int p1), .val (.int p2), .val (.int p3), .val (.int p4), .val (.int (e0_1 p0)), .val (.int (e0_2 p1)), .val (.int (e0_3 p2)), .val (.int (e0_4 p3)), .val (.int (0 : Int32)), .val (.ref b3), .val (.int ((e0_1 p0) + (1 : Int32))), .val (.int ((e0_1 p0) + (1 : Int32)))] [(.int ((e0_1 p0) + (1 : Int32))), (.int (f5 (own_upd (own_upd (f3_r1_a (e0_1 p0) (own_upd (fun _ => 0) 0 (1 : Int32))) ((e0_2 p1)).toNatClampNeg (1 : Int32)) ((e0_3 p2)).toNatClampNeg (1 : Int32))))])) t → Steps p.tables e below (s₁.setTop (entryFrame m #[(.int p0), (.int p1), (.int p2), (.int p3), (.int p4)] maxLocals)) t := fun t kt => pre58 t (by
            show Steps p.tables e below (T15.setTop (mkF m 142 #[.val (.int p0), .val (.int p1), .val (.int p2), .val (.int p3), .val (.int p4), .val (.int (e0_1 p0)), .val (.int (e0_2 p1)), .val (.int (e0_3 p2)), .val (.int (e0_4 p3)), .val (.int (0 : Int32)), .val (.ref b3), .val (.int ((e0_1 p0) + (1 : Int32))), .unset] [(.int (0 : Int32))])) _
            refine XS.ifYes X15.here hx rfl (pc0 := 142) (pc' := 155) rfl (hb hby at_142) rfl ((if0 _ _).trans (teq (by decide : ((0 : Int32) = (0 : Int32)))).1) (by decide) (by decide) ?_
            show Steps p.tables e below (T15.setTop (mkF m 155 #[.val (.int p0), .val (.int p1), .val (.int p2), .val (.int p3), .val (.int p4), .val (.int (e0_1 p0)), .val (.int (e0_2 p1)), .val (.int (e0_3 p2)), .val (.int (e0_4 p3)), .val (.int (0 : Int32)), .val (.ref b3), .val (.int ((e0_1 p0) + (1 : Int32))), .unset] [])) _
            refine XS.iload X15.here hx rfl (hb hby at_155) rfl ?_
            show Steps p.tables e below (T15.setTop (mkF m 157 #[.val (.int p0), .val (.int p1), .val (.int p2), .val (.int p3), .val (.int p4), .val (.int (e0_1 p0)), .val (.int (e0_2 p1)), .val (.int (e0_3 p2)), .val (.int (e0_4 p3)), .val (.int (0 : Int32)), .val (.ref b3), .val (.int ((e0_1 p0) + (1 : Int32))), .unset] [(.int ((e0_1 p0) + (1 : Int32)))])) _
            refine XS.istore X15.here hx rfl (hb hby at_157) rfl (l' := #[.val (.int p0), .val (.int p1), .val (.int p2), .val (.int p3), .val (.int p4), .val (.int (e0_1 p0)), .val (.int (e0_2 p1)), .val (.int (e0_3 p2)), .val (.int (e0_4 p3)), .val (.int (0 : Int32)), .val (.ref b3), .val (.int ((e0_1 p0) + (1 : Int32))), .val (.int ((e0_1 p0) + (1 : Int32)))]) rfl ?_
            show Steps p.tables e below (T15.setTop (mkF m 159 #[.val (.int p0), .val (.int p1), .val (.int p2), .val (.int p3), .val (.int p4), .val (.int (e0_1 p0)), .val (.int (e0_2 p1)), .val (.int (e0_3 p2)), .val (.int (e0_4 p3)), .val (.int (0 : Int32)), .val (.ref b3), .val (.int ((e0_1 p0) + (1 : Int32))), .val (.int ((e0_1 p0) + (1 : Int32)))] [])) _
            refine XS.aload X15.here hx rfl (hb hby at_159) rfl rfl ?_
            show Steps p.tables e below (T15.setTop (mkF m 161 #[.val (.int p0), .val (.int p1), .val (.int p2), .val (.int p3), .val (.int p4), .val (.int (e0_1 p0)), .val (.int (e0_2 p1)), .val (.int (e0_3 p2)), .val (.int (e0_4 p3)), .val (.int (0 : Int32)), .val (.ref b3), .val (.int ((e0_1 p0) + (1 : Int32))), .val (.int ((e0_1 p0) + (1 : Int32)))] [(.ref b3)])) _
            refine st59.trans ?_
            show Steps p.tables e below (T59.setTop (mkF m 164 #[.val (.int p0), .val (.int p1), .val (.int p2), .val (.int p3), .val (.int p4), .val (.int (e0_1 p0)), .val (.int (e0_2 p1)), .val (.int (e0_3 p2)), .val (.int (e0_4 p3)), .val (.int (0 : Int32)), .val (.ref b3), .val (.int ((e0_1 p0) + (1 : Int32))), .val (.int ((e0_1 p0) + (1 : Int32)))] [(.int (f5 (own_upd (own_upd (f3_r1_a (e0_1 p0) (own_upd (fun _ => 0) 0 (1 : Int32))) ((e0_2 p1)).toNatClampNeg (1 : Int32)) ((e0_3 p2)).toNatClampNeg (1 : Int32))))])) _
            refine XS.iload X59.here hx rfl (hb hby at_164) rfl ?_
            exact kt)
        have hd166_61 : (f5 (own_upd (own_upd (f3_r1_a (e0_1 p0) (own_upd (fun _ => 0) 0 (1 : Int32))) ((e0_2 p1)).toNatClampNeg (1 : Int32)) ((e0_3 p2)).toNatClampNeg (1 : Int32))) = ((e0_1 p0) + (1 : Int32)) := by have q0 := hc104_21; rw [← Int32.toInt_inj] at q0; have q1 := hc111_39; rw [← Int32.toInt_inj] at q1; have s1 := c_iadd (e0_1 p0) 1; have r1 := rng32 ((e0_1 p0) + 1); have s2 := c_iadd ((e0_1 p0) + 1) 1; have r2 := rng32 ((e0_1 p0) + 1 + 1); have s3 := c_iadd ((e0_1 p0) + 1 + 1) 1; have r3 := rng32 ((e0_1 p0) + 1 + 1 + 1); have e1 : (1 : Int32).toInt = 1 := (by decide); rw [e1] at s1 s2 s3; have hk : 0 ≤ (e0_1 p0).toInt ∧ (e0_1 p0).toInt ≤ 19 := own_b p0; have ha : 0 ≤ (e0_2 p1).toInt ∧ (e0_2 p1).toInt ≤ 19 := own_b p1; have hb : 0 ≤ (e0_3 p2).toInt ∧ (e0_3 p2).toInt ≤ 19 := own_b p2; exact own_fin0 (M := ((e0_1 p0) + (1 : Int32))) hk ha hb (by unfold own_mm; repeat' split; all_goals omega)
        obtain ⟨fs, hr, hrun, hended, hW, hsame⟩ := X59.leave (v := some (.int (1 : Int32))) (fun h => by rw [Bd.returns] at h; cases h)
        have hv151 : (1 : Int32) = (1 : Int32) := rfl
        refine ⟨_, _, pre60 _ ?_, hrun, hended, _, _, rfl, ?_, ⟨_, rfl⟩, hW, hsame.mono (by decide) (by decide)⟩
        · show Steps p.tables e below (T59.setTop (mkF m 166 #[.val (.int p0), .val (.int p1), .val (.int p2), .val (.int p3), .val (.int p4), .val (.int (e0_1 p0)), .val (.int (e0_2 p1)), .val (.int (e0_3 p2)), .val (.int (e0_4 p3)), .val (.int (0 : Int32)), .val (.ref b3), .val (.int ((e0_1 p0) + (1 : Int32))), .val (.int ((e0_1 p0) + (1 : Int32)))] [(.int ((e0_1 p0) + (1 : Int32))), (.int (f5 (own_upd (own_upd (f3_r1_a (e0_1 p0) (own_upd (fun _ => 0) 0 (1 : Int32))) ((e0_2 p1)).toNatClampNeg (1 : Int32)) ((e0_3 p2)).toNatClampNeg (1 : Int32))))])) _
          refine XS.icmpNo X59.here hx rfl (hb hby at_166) rfl (teq hd166_61).2 ?_
          show Steps p.tables e below (T59.setTop (mkF m 169 #[.val (.int p0), .val (.int p1), .val (.int p2), .val (.int p3), .val (.int p4), .val (.int (e0_1 p0)), .val (.int (e0_2 p1)), .val (.int (e0_3 p2)), .val (.int (e0_4 p3)), .val (.int (0 : Int32)), .val (.ref b3), .val (.int ((e0_1 p0) + (1 : Int32))), .val (.int ((e0_1 p0) + (1 : Int32)))] [])) _
          refine XS.iconst X59.here hx rfl (hb hby at_169) ?_
          show Steps p.tables e below (T59.setTop (mkF m 170 #[.val (.int p0), .val (.int p1), .val (.int p2), .val (.int p3), .val (.int p4), .val (.int (e0_1 p0)), .val (.int (e0_2 p1)), .val (.int (e0_3 p2)), .val (.int (e0_4 p3)), .val (.int (0 : Int32)), .val (.ref b3), .val (.int ((e0_1 p0) + (1 : Int32))), .val (.int ((e0_1 p0) + (1 : Int32)))] [(.int (1 : Int32))])) _
          refine XS.goto X59.here hx rfl (pc0 := 170) (pc' := 174) rfl (hb hby at_170) (by decide) (by decide) ?_
          show Steps p.tables e below (T59.setTop (mkF m 174 #[.val (.int p0), .val (.int p1), .val (.int p2), .val (.int p3), .val (.int p4), .val (.int (e0_1 p0)), .val (.int (e0_2 p1)), .val (.int (e0_3 p2)), .val (.int (e0_4 p3)), .val (.int (0 : Int32)), .val (.ref b3), .val (.int ((e0_1 p0) + (1 : Int32))), .val (.int ((e0_1 p0) + (1 : Int32)))] [(.int (1 : Int32))])) _
          exact retN X59 hx (t := .boolean) Bd.returns (by simp) (hb hby at_174) hr
        · show Q0 Z p0 p1 p2 p3 p4 h0 n0 _ T59.heap _
          rw [e59q]
          exact ⟨congrArg (fun q => some (Value.int q)) hv151, N59⟩
  · obtain ⟨T62, h62, X62, e62, E62, A62, D62, -, st62⟩ := newO X0 hx hZ hown (hw _ (List.mem_of_getElem? (i := 1) rfl)) (hw _ (List.mem_of_getElem? (i := 2) rfl)) (hw _ (List.mem_of_getElem? (i := 3) rfl)) e0 (g := (mkF m 52 #[.val (.int p0), .val (.int p1), .val (.int p2), .val (.int p3), .val (.int p4), .val (.int (e0_1 p0)), .val (.int (e0_2 p1)), .val (.int (e0_3 p2)), .val (.int (e0_4 p3)), .val (.int (1 : Int32)), .unset, .unset, .unset] [])) rfl (hb hby at_52) (by decide) (by decide)
    obtain ⟨b62, g62⟩ : ∃ z, z = h0.size := ⟨_, rfl⟩
    rw [← g62] at A62 D62 st62
    have g_b62 : n0 ≤ b62 := Nat.le_trans Z0 (Nat.le_of_eq g62.symm)
    have sz_b62 : h0.size ≤ b62 := Nat.le_trans (Keep.refl h0 []).1 (Nat.le_of_eq g62.symm)
    have K63 : Keep h0 h62 [] := (Keep.refl h0 []).ext E62
    have Z64 : n0 ≤ h62.size := Nat.le_trans Z0 K63.1
    have E_b62 := A62
    have F_open_b62 : Fld Z h62 b62 "com/example/cardhost/cardhost/LogicalChannels" "open" "[Z" .null := D62 (Or.inr (hw _ (List.mem_of_getElem? (i := 12) rfl))) (ty := (.array .boolean)) (by decide)
    have F_active_b62 : Fld Z h62 b62 "com/example/cardhost/cardhost/LogicalChannels" "active" "[Lcom/example/cardhost/cardhost/InstalledApplet;" .null := D62 (Or.inr (hw _ (List.mem_of_getElem? (i := 16) rfl))) (ty := (.array (.object "com/example/cardhost/cardhost/InstalledApplet"))) (by decide)
    have F_defaults_b62 : Fld Z h62 b62 "com/example/cardhost/cardhost/LogicalChannels" "defaults" "[Lcom/example/cardhost/cardhost/InstalledApplet;" .null := D62 (Or.inr (hw _ (List.mem_of_getElem? (i := 18) rfl))) (ty := (.array (.object "com/example/cardhost/cardhost/InstalledApplet"))) (by decide)
    obtain ⟨_, _, ⟨T65, L65, k65, n65⟩, -, X65, ⟨Lc65, hQ65, l65, y65, z65⟩, st65⟩ := X62.specialBack hx (y := (⟨"com/example/cardhost/cardhost/LogicalChannels", "<init>", "()V"⟩ : MethodName)) rfl hown (mvT hZ (hw _ (List.mem_of_getElem? (i := 4) rfl))) (mvT hZ (hw _ (List.mem_of_getElem? (i := 5) rfl))) (mvT hZ (hw _ (List.mem_of_getElem? (i := 6) rfl))) (by decide) (backOf (W := 1) (rm1 l Z a0 hw [] b62 h62 n0 Z64 E_b62 F_open_b62 g_b62 F_active_b62 F_defaults_b62) hZ (hw _ (List.mem_of_getElem? (i := 6) rfl)) (hw _ (List.mem_of_getElem? (i := 3) rfl)) (by decide) (by decide)) (g := (mkF m 56 #[.val (.int p0), .val (.int p1), .val (.int p2), .val (.int p3), .val (.int p4), .val (.int (e0_1 p0)), .val (.int (e0_2 p1)), .val (.int (e0_3 p2)), .val (.int (e0_4 p3)), .val (.int (1 : Int32)), .unset, .unset, .unset] [(.ref b62), (.ref b62)])) rfl (by rw [hml]; rfl) (Steps.refl _) (a := b62) (argsL := []) (rest := [(.ref b62)]) (lenOf pd_0_0 rfl) rfl (by show 2 * 0 + _ ≤ _; exact Nat.le_of_eq rfl) (hb hby at_56) (fun _ _ => ⟨rfl, e62, (by decide : 1 + 3 ≤ _), (by decide : 3 + 60 ≤ _)⟩)
    dsimp only [Pt.U, Pt.locs, Pt.cells, Pt.slots] at X65 l65 y65 z65 st65 hQ65
    subst l65 y65 z65
    obtain ⟨r_o0_open_65, r_o0_active_65, r_o0_defaults_65, rfl, N65q, K65q, g_r_o0_open_65, szq_r_o0_open_65, g_r_o0_active_65, szq_r_o0_active_65, ne_r_o0_open_65_r_o0_active_65, g_r_o0_defaults_65, szq_r_o0_defaults_65, ne_r_o0_open_65_r_o0_defaults_65, ne_r_o0_active_65_r_o0_defaults_65, G65_0, G65_1, G65_2, G65_3, G65_4, G65_5⟩ := hQ65
    have N65 := Fr.app N0 N65q
    have ne_b62_r_o0_open_65 : b62 ≠ r_o0_open_65 := Nat.ne_of_lt (Nat.lt_of_lt_of_le E_b62.lt szq_r_o0_open_65)
    have sz_r_o0_open_65 : h0.size ≤ r_o0_open_65 := Nat.le_trans K63.1 szq_r_o0_open_65
    have ne_b62_r_o0_active_65 : b62 ≠ r_o0_active_65 := Nat.ne_of_lt (Nat.lt_of_lt_of_le E_b62.lt szq_r_o0_active_65)
    have sz_r_o0_active_65 : h0.size ≤ r_o0_active_65 := Nat.le_trans K63.1 szq_r_o0_active_65
    have ne_b62_r_o0_defaults_65 : b62 ≠ r_o0_defaults_65 := Nat.ne_of_lt (Nat.lt_of_lt_of_le E_b62.lt szq_r_o0_defaults_65)
    have sz_r_o0_defaults_65 : h0.size ≤ r_o0_defaults_65 := Nat.le_trans K63.1 szq_r_o0_defaults_65
    have K66 : Keep h0 T65.heap [] := K63.trans K65q (allS (Or.inr sz_b62) all0)
    have Z67 : n0 ≤ T65.heap.size := Nat.le_trans Z0 K66.1
    obtain ⟨LS65, X65, N65⟩ : ∃ L, Stand p l e room_1 s m #[(.int p0), (.int p1), (.int p2), (.int p3), (.int p4)] below meth c T65 L 4 63 ∧ Fr n0 L := ⟨_, X65, N65⟩
    obtain ⟨_, _, ⟨T68, L68, k68, n68⟩, -, X68, ⟨Lc68, hQ68, l68, y68, z68⟩, st68⟩ := Jvm.LawKit.callS X65 hx (y := (⟨"com/example/cardhost/cardhost/LogicalChannelsLowestClosedPinLaw", "openPrefix", "(Lcom/example/cardhost/cardhost/LogicalChannels;I)V"⟩ : MethodName)) hown (mvT hZ (hw _ (List.mem_of_getElem? (i := 19) rfl))) (mvT hZ (hw _ (List.mem_of_getElem? (i := 20) rfl))) (mvT hZ (hw _ (List.mem_of_getElem? (i := 21) rfl))) (mvT hZ (hw _ (List.mem_of_getElem? (i := 22) rfl))) (by decide) (backOf (W := 0) (rm3 l Z a0 hw [] b62 (e0_1 p0) r_o0_open_65 (own_upd (fun _ => 0) 0 (1 : Int32)) T65.heap n0 Z67 (E_b62.keep K65q) G65_0 G65_1 g_r_o0_open_65 ne_b62_r_o0_open_65) hZ (hw _ (List.mem_of_getElem? (i := 22) rfl)) (hw _ (List.mem_of_getElem? (i := 21) rfl)) (by decide) (by decide)) (g := (mkF m 65 #[.val (.int p0), .val (.int p1), .val (.int p2), .val (.int p3), .val (.int p4), .val (.int (e0_1 p0)), .val (.int (e0_2 p1)), .val (.int (e0_3 p2)), .val (.int (e0_4 p3)), .val (.int (1 : Int32)), .val (.ref b62), .unset, .unset] [(.int (e0_1 p0)), (.ref b62)])) rfl (by rw [hml]; rfl) (argsL := [(.ref b62), (.int (e0_1 p0))]) (rest := []) (lenOf pd_0_1 rfl) rfl (by show 2 * 0 + _ ≤ _; exact Nat.le_of_eq rfl) (hb hby at_65) (fun _ _ => ⟨rfl, rfl, (by decide : 4 + 0 ≤ _), (by decide : 63 + 0 ≤ _)⟩)
    dsimp only [Pt.U, Pt.locs, Pt.cells, Pt.slots] at X68 l68 y68 z68 st68 hQ68
    subst l68 y68 z68
    obtain ⟨rfl, N68q, K68q, G68_0⟩ := hQ68
    have N68 := Fr.app N65 N68q
    have K69 : Keep h0 T68.heap [] := K66.trans K68q (allS (Or.inr sz_r_o0_open_65) all0)
    have Z70 : n0 ≤ T68.heap.size := Nat.le_trans Z0 K69.1
    obtain ⟨LS68, X68, N68⟩ : ∃ L, Stand p l e room_1 s m #[(.int p0), (.int p1), (.int p2), (.int p3), (.int p4)] below meth c T68 L 4 63 ∧ Fr n0 L := ⟨_, X68, N68⟩
    obtain ⟨cq71, kq71, q71a, q71b, q71c⟩ := isOf hZ rfl ((E_b62.keep K65q).keep K68q)
    obtain ⟨_, _, ⟨T71, L71, k71, n71⟩, -, X71, ⟨Lc71, hQ71, l71, y71, z71⟩, st71⟩ := X68.virtualBack hx (y := (⟨"com/example/cardhost/cardhost/LogicalChannels", "open", "(I)V"⟩ : MethodName)) (z := (⟨"com/example/cardhost/cardhost/LogicalChannels", "open", "(I)V"⟩ : MethodName)) hown (mvT hZ (hw _ (List.mem_of_getElem? (i := 23) rfl))) (mvT hZ (hw _ (List.mem_of_getElem? (i := 24) rfl))) (notFace_of_selects (args := #[]) (mvT hZ (hw _ (List.mem_of_getElem? (i := 26) rfl)))) (mvT hZ (hw _ (List.mem_of_getElem? (i := 26) rfl))) (mvT hZ (hw _ (List.mem_of_getElem? (i := 25) rfl))) (by decide) (backOf (W := 0) (rm4 l Z a0 hw [] b62 (e0_2 p1) r_o0_open_65 (f3_r1_a (e0_1 p0) (own_upd (fun _ => 0) 0 (1 : Int32))) T68.heap n0 Z70 (G65_0.keep K68q (ninS ne_b62_r_o0_open_65 nin0)) G68_0 g_r_o0_open_65 (own_idx _)) hZ (hw _ (List.mem_of_getElem? (i := 27) rfl)) (hw _ (List.mem_of_getElem? (i := 3) rfl)) (by decide) (by decide)) q71a q71c (g := (mkF m 72 #[.val (.int p0), .val (.int p1), .val (.int p2), .val (.int p3), .val (.int p4), .val (.int (e0_1 p0)), .val (.int (e0_2 p1)), .val (.int (e0_3 p2)), .val (.int (e0_4 p3)), .val (.int (1 : Int32)), .val (.ref b62), .unset, .unset] [(.int (e0_2 p1)), (.ref b62)])) rfl (by rw [hml]; rfl) (Steps.refl _) (argsL := [(.int (e0_2 p1))]) (rest := []) (lenOf pd_0_2 rfl) rfl (by show 2 * 0 + _ ≤ _; exact Nat.le_of_eq rfl) (hb hby at_72) (fun _ _ => ⟨rfl, rfl, (by decide : 4 + 0 ≤ _), (by decide : 63 + 0 ≤ _)⟩)
    dsimp only [Pt.U, Pt.locs, Pt.cells, Pt.slots] at X71 l71 y71 z71 st71 hQ71
    subst l71 y71 z71
    obtain ⟨rfl, N71q, K71q, G71_0⟩ := hQ71
    have N71 := Fr.app N68 N71q
    have K72 : Keep h0 T71.heap [] := K69.trans K71q (allS (Or.inr sz_r_o0_open_65) all0)
    have Z73 : n0 ≤ T71.heap.size := Nat.le_trans Z0 K72.1
    obtain ⟨LS71, X71, N71⟩ : ∃ L, Stand p l e room_1 s m #[(.int p0), (.int p1), (.int p2), (.int p3), (.int p4)] below meth c T71 L 4 63 ∧ Fr n0 L := ⟨_, X71, N71⟩
    have c75 := ((G65_0.keep K68q (ninS ne_b62_r_o0_open_65 nin0)).keep K71q (ninS ne_b62_r_o0_open_65 nin0))
    obtain ⟨cq74, kq74, q74a, q74b, q74c⟩ := isOf hZ rfl (((E_b62.keep K65q).keep K68q).keep K71q)
    obtain ⟨_, _, ⟨T74, L74, k74, n74⟩, -, X74, ⟨Lc74, hQ74, l74, y74, z74⟩, st74⟩ := X71.virtualBack hx (y := (⟨"com/example/cardhost/cardhost/LogicalChannels", "open", "(I)V"⟩ : MethodName)) (z := (⟨"com/example/cardhost/cardhost/LogicalChannels", "open", "(I)V"⟩ : MethodName)) hown (mvT hZ (hw _ (List.mem_of_getElem? (i := 23) rfl))) (mvT hZ (hw _ (List.mem_of_getElem? (i := 24) rfl))) (notFace_of_selects (args := #[]) (mvT hZ (hw _ (List.mem_of_getElem? (i := 26) rfl)))) (mvT hZ (hw _ (List.mem_of_getElem? (i := 26) rfl))) (mvT hZ (hw _ (List.mem_of_getElem? (i := 25) rfl))) (by decide) (backOf (W := 0) (rm4 l Z a0 hw [] b62 (e0_3 p2) r_o0_open_65 (own_upd (f3_r1_a (e0_1 p0) (own_upd (fun _ => 0) 0 (1 : Int32))) ((e0_2 p1)).toNatClampNeg (1 : Int32)) T71.heap n0 Z73 c75 G71_0 g_r_o0_open_65 (own_idx _)) hZ (hw _ (List.mem_of_getElem? (i := 27) rfl)) (hw _ (List.mem_of_getElem? (i := 3) rfl)) (by decide) (by decide)) q74a q74c (g := (mkF m 79 #[.val (.int p0), .val (.int p1), .val (.int p2), .val (.int p3), .val (.int p4), .val (.int (e0_1 p0)), .val (.int (e0_2 p1)), .val (.int (e0_3 p2)), .val (.int (e0_4 p3)), .val (.int (1 : Int32)), .val (.ref b62), .unset, .unset] [(.int (e0_3 p2)), (.ref b62)])) rfl (by rw [hml]; rfl) (Steps.refl _) (argsL := [(.int (e0_3 p2))]) (rest := []) (lenOf pd_0_2 rfl) rfl (by show 2 * 0 + _ ≤ _; exact Nat.le_of_eq rfl) (hb hby at_79) (fun _ _ => ⟨rfl, rfl, (by decide : 4 + 0 ≤ _), (by decide : 63 + 0 ≤ _)⟩)
    dsimp only [Pt.U, Pt.locs, Pt.cells, Pt.slots] at X74 l74 y74 z74 st74 hQ74
    subst l74 y74 z74
    obtain ⟨rfl, N74q, K74q, G74_0⟩ := hQ74
    have N74 := Fr.app N71 N74q
    have K76 : Keep h0 T74.heap [] := K72.trans K74q (allS (Or.inr sz_r_o0_open_65) all0)
    have Z77 : n0 ≤ T74.heap.size := Nat.le_trans Z0 K76.1
    obtain ⟨LS74, X74, N74⟩ : ∃ L, Stand p l e room_1 s m #[(.int p0), (.int p1), (.int p2), (.int p3), (.int p4)] below meth c T74 L 4 63 ∧ Fr n0 L := ⟨_, X74, N74⟩
    have pre78 : ∀ t, Steps p.tables e below (T74.setTop (mkF m 84 #[.val (.int p0), .val (.int p1), .val (.int p2), .val (.int p3), .val (.int p4), .val (.int (e0_1 p0)), .val (.int (e0_2 p1)), .val (.int (e0_3 p2)), .val (.int (e0_4 p3)), .val (.int (1 : Int32)), .val (.ref b62), .unset, .unset] [(.int (1 : Int32))])) t → Steps p.tables e below (s₁.setTop (entryFrame m #[(.int p0), (.int p1), (.int p2), (.int p3), (.int p4)] maxLocals)) t := fun t kt => pre1 t (by
        show Steps p.tables e below (s₁.setTop (mkF m 42 #[.val (.int p0), .val (.int p1), .val (.int p2), .val (.int p3), .val (.int p4), .val (.int (e0_1 p0)), .val (.int (e0_2 p1)), .val (.int (e0_3 p2)), .val (.int (e0_4 p3)), .unset, .unset, .unset, .unset] [(.int (p4 &&& (1 : Int32)))])) _
        refine XS.ifNo X0.here hx rfl (hb hby at_42) rfl ((if0 _ _).trans (feq hc42_2).1) ?_
        show Steps p.tables e below (s₁.setTop (mkF m 45 #[.val (.int p0), .val (.int p1), .val (.int p2), .val (.int p3), .val (.int p4), .val (.int (e0_1 p0)), .val (.int (e0_2 p1)), .val (.int (e0_3 p2)), .val (.int (e0_4 p3)), .unset, .unset, .unset, .unset] [])) _
        refine XS.iconst X0.here hx rfl (hb hby at_45) ?_
        show Steps p.tables e below (s₁.setTop (mkF m 46 #[.val (.int p0), .val (.int p1), .val (.int p2), .val (.int p3), .val (.int p4), .val (.int (e0_1 p0)), .val (.int (e0_2 p1)), .val (.int (e0_3 p2)), .val (.int (e0_4 p3)), .unset, .unset, .unset, .unset] [(.int (1 : Int32))])) _
        refine XS.goto X0.here hx rfl (pc0 := 46) (pc' := 50) rfl (hb hby at_46) (by decide) (by decide) ?_
        show Steps p.tables e below (s₁.setTop (mkF m 50 #[.val (.int p0), .val (.int p1), .val (.int p2), .val (.int p3), .val (.int p4), .val (.int (e0_1 p0)), .val (.int (e0_2 p1)), .val (.int (e0_3 p2)), .val (.int (e0_4 p3)), .unset, .unset, .unset, .unset] [(.int (1 : Int32))])) _
        refine XS.istore X0.here hx rfl (hb hby at_50) rfl (l' := #[.val (.int p0), .val (.int p1), .val (.int p2), .val (.int p3), .val (.int p4), .val (.int (e0_1 p0)), .val (.int (e0_2 p1)), .val (.int (e0_3 p2)), .val (.int (e0_4 p3)), .val (.int (1 : Int32)), .unset, .unset, .unset]) rfl ?_
        show Steps p.tables e below (s₁.setTop (mkF m 52 #[.val (.int p0), .val (.int p1), .val (.int p2), .val (.int p3), .val (.int p4), .val (.int (e0_1 p0)), .val (.int (e0_2 p1)), .val (.int (e0_3 p2)), .val (.int (e0_4 p3)), .val (.int (1 : Int32)), .unset, .unset, .unset] [])) _
        refine st62 _ ?_
        show Steps p.tables e below (T62.setTop (mkF m 55 #[.val (.int p0), .val (.int p1), .val (.int p2), .val (.int p3), .val (.int p4), .val (.int (e0_1 p0)), .val (.int (e0_2 p1)), .val (.int (e0_3 p2)), .val (.int (e0_4 p3)), .val (.int (1 : Int32)), .unset, .unset, .unset] [(.ref b62)])) _
        refine XS.dup X62.here hx rfl (hb hby at_55) rfl rfl ?_
        show Steps p.tables e below (T62.setTop (mkF m 56 #[.val (.int p0), .val (.int p1), .val (.int p2), .val (.int p3), .val (.int p4), .val (.int (e0_1 p0)), .val (.int (e0_2 p1)), .val (.int (e0_3 p2)), .val (.int (e0_4 p3)), .val (.int (1 : Int32)), .unset, .unset, .unset] [(.ref b62), (.ref b62)])) _
        refine st65.trans ?_
        show Steps p.tables e below (T65.setTop (mkF m 59 #[.val (.int p0), .val (.int p1), .val (.int p2), .val (.int p3), .val (.int p4), .val (.int (e0_1 p0)), .val (.int (e0_2 p1)), .val (.int (e0_3 p2)), .val (.int (e0_4 p3)), .val (.int (1 : Int32)), .unset, .unset, .unset] [(.ref b62)])) _
        refine XS.astore X65.here hx rfl (hb hby at_59) rfl rfl (l' := #[.val (.int p0), .val (.int p1), .val (.int p2), .val (.int p3), .val (.int p4), .val (.int (e0_1 p0)), .val (.int (e0_2 p1)), .val (.int (e0_3 p2)), .val (.int (e0_4 p3)), .val (.int (1 : Int32)), .val (.ref b62), .unset, .unset]) rfl ?_
        show Steps p.tables e below (T65.setTop (mkF m 61 #[.val (.int p0), .val (.int p1), .val (.int p2), .val (.int p3), .val (.int p4), .val (.int (e0_1 p0)), .val (.int (e0_2 p1)), .val (.int (e0_3 p2)), .val (.int (e0_4 p3)), .val (.int (1 : Int32)), .val (.ref b62), .unset, .unset] [])) _
        refine XS.aload X65.here hx rfl (hb hby at_61) rfl rfl ?_
        show Steps p.tables e below (T65.setTop (mkF m 63 #[.val (.int p0), .val (.int p1), .val (.int p2), .val (.int p3), .val (.int p4), .val (.int (e0_1 p0)), .val (.int (e0_2 p1)), .val (.int (e0_3 p2)), .val (.int (e0_4 p3)), .val (.int (1 : Int32)), .val (.ref b62), .unset, .unset] [(.ref b62)])) _
        refine XS.iload X65.here hx rfl (hb hby at_63) rfl ?_
        show Steps p.tables e below (T65.setTop (mkF m 65 #[.val (.int p0), .val (.int p1), .val (.int p2), .val (.int p3), .val (.int p4), .val (.int (e0_1 p0)), .val (.int (e0_2 p1)), .val (.int (e0_3 p2)), .val (.int (e0_4 p3)), .val (.int (1 : Int32)), .val (.ref b62), .unset, .unset] [(.int (e0_1 p0)), (.ref b62)])) _
        refine st68 _ ?_
        show Steps p.tables e below (T68.setTop (mkF m 68 #[.val (.int p0), .val (.int p1), .val (.int p2), .val (.int p3), .val (.int p4), .val (.int (e0_1 p0)), .val (.int (e0_2 p1)), .val (.int (e0_3 p2)), .val (.int (e0_4 p3)), .val (.int (1 : Int32)), .val (.ref b62), .unset, .unset] [])) _
        refine XS.aload X68.here hx rfl (hb hby at_68) rfl rfl ?_
        show Steps p.tables e below (T68.setTop (mkF m 70 #[.val (.int p0), .val (.int p1), .val (.int p2), .val (.int p3), .val (.int p4), .val (.int (e0_1 p0)), .val (.int (e0_2 p1)), .val (.int (e0_3 p2)), .val (.int (e0_4 p3)), .val (.int (1 : Int32)), .val (.ref b62), .unset, .unset] [(.ref b62)])) _
        refine XS.iload X68.here hx rfl (hb hby at_70) rfl ?_
        show Steps p.tables e below (T68.setTop (mkF m 72 #[.val (.int p0), .val (.int p1), .val (.int p2), .val (.int p3), .val (.int p4), .val (.int (e0_1 p0)), .val (.int (e0_2 p1)), .val (.int (e0_3 p2)), .val (.int (e0_4 p3)), .val (.int (1 : Int32)), .val (.ref b62), .unset, .unset] [(.int (e0_2 p1)), (.ref b62)])) _
        refine st71.trans ?_
        show Steps p.tables e below (T71.setTop (mkF m 75 #[.val (.int p0), .val (.int p1), .val (.int p2), .val (.int p3), .val (.int p4), .val (.int (e0_1 p0)), .val (.int (e0_2 p1)), .val (.int (e0_3 p2)), .val (.int (e0_4 p3)), .val (.int (1 : Int32)), .val (.ref b62), .unset, .unset] [])) _
        refine XS.aload X71.here hx rfl (hb hby at_75) rfl rfl ?_
        show Steps p.tables e below (T71.setTop (mkF m 77 #[.val (.int p0), .val (.int p1), .val (.int p2), .val (.int p3), .val (.int p4), .val (.int (e0_1 p0)), .val (.int (e0_2 p1)), .val (.int (e0_3 p2)), .val (.int (e0_4 p3)), .val (.int (1 : Int32)), .val (.ref b62), .unset, .unset] [(.ref b62)])) _
        refine XS.iload X71.here hx rfl (hb hby at_77) rfl ?_
        show Steps p.tables e below (T71.setTop (mkF m 79 #[.val (.int p0), .val (.int p1), .val (.int p2), .val (.int p3), .val (.int p4), .val (.int (e0_1 p0)), .val (.int (e0_2 p1)), .val (.int (e0_3 p2)), .val (.int (e0_4 p3)), .val (.int (1 : Int32)), .val (.ref b62), .unset, .unset] [(.int (e0_3 p2)), (.ref b62)])) _
        refine st74.trans ?_
        show Steps p.tables e below (T74.setTop (mkF m 82 #[.val (.int p0), .val (.int p1), .val (.int p2), .val (.int p3), .val (.int p4), .val (.int (e0_1 p0)), .val (.int (e0_2 p1)), .val (.int (e0_3 p2)), .val (.int (e0_4 p3)), .val (.int (1 : Int32)), .val (.ref b62), .unset, .unset] [])) _
        refine XS.iload X74.here hx rfl (hb hby at_82) rfl ?_
        exact kt)
    obtain ⟨cq79, kq79, q79a, q79b, q79c⟩ := isOf hZ rfl ((((E_b62.keep K65q).keep K68q).keep K71q).keep K74q)
    obtain ⟨_, _, ⟨T79, L79, k79, n79⟩, -, X79, ⟨Lc79, hQ79, l79, y79, z79⟩, st79⟩ := X74.virtualBack hx (y := (⟨"com/example/cardhost/cardhost/LogicalChannels", "close", "(I)V"⟩ : MethodName)) (z := (⟨"com/example/cardhost/cardhost/LogicalChannels", "close", "(I)V"⟩ : MethodName)) hown (mvT hZ (hw _ (List.mem_of_getElem? (i := 33) rfl))) (mvT hZ (hw _ (List.mem_of_getElem? (i := 34) rfl))) (notFace_of_selects (args := #[]) (mvT hZ (hw _ (List.mem_of_getElem? (i := 36) rfl)))) (mvT hZ (hw _ (List.mem_of_getElem? (i := 36) rfl))) (mvT hZ (hw _ (List.mem_of_getElem? (i := 35) rfl))) (by decide) (backOf (W := 0) (rm6 l Z a0 hw [] b62 (e0_4 p3) r_o0_open_65 (own_upd (own_upd (f3_r1_a (e0_1 p0) (own_upd (fun _ => 0) 0 (1 : Int32))) ((e0_2 p1)).toNatClampNeg (1 : Int32)) ((e0_3 p2)).toNatClampNeg (1 : Int32)) T74.heap n0 Z77 (c75.keep K74q (ninS ne_b62_r_o0_open_65 nin0)) G74_0 g_r_o0_open_65 (own_cb _)) hZ (hw _ (List.mem_of_getElem? (i := 37) rfl)) (hw _ (List.mem_of_getElem? (i := 3) rfl)) (by decide) (by decide)) q79a q79c (g := (mkF m 91 #[.val (.int p0), .val (.int p1), .val (.int p2), .val (.int p3), .val (.int p4), .val (.int (e0_1 p0)), .val (.int (e0_2 p1)), .val (.int (e0_3 p2)), .val (.int (e0_4 p3)), .val (.int (1 : Int32)), .val (.ref b62), .unset, .unset] [(.int (e0_4 p3)), (.ref b62)])) rfl (by rw [hml]; rfl) (Steps.refl _) (argsL := [(.int (e0_4 p3))]) (rest := []) (lenOf pd_0_2 rfl) rfl (by show 2 * 0 + _ ≤ _; exact Nat.le_of_eq rfl) (hb hby at_91) (fun _ _ => ⟨rfl, rfl, (by decide : 4 + 0 ≤ _), (by decide : 63 + 0 ≤ _)⟩)
    dsimp only [Pt.U, Pt.locs, Pt.cells, Pt.slots] at X79 l79 y79 z79 st79 hQ79
    subst l79 y79 z79
    obtain ⟨rfl, N79q, K79q, G79_0⟩ := hQ79
    have N79 := Fr.app N74 N79q
    have K80 : Keep h0 T79.heap [] := K76.trans K79q (allS (Or.inr sz_r_o0_open_65) all0)
    have Z81 : n0 ≤ T79.heap.size := Nat.le_trans Z0 K80.1
    obtain ⟨LS79, X79, N79⟩ : ∃ L, Stand p l e room_1 s m #[(.int p0), (.int p1), (.int p2), (.int p3), (.int p4)] below meth c T79 L 4 63 ∧ Fr n0 L := ⟨_, X79, N79⟩
    have pre82 : ∀ t, Steps p.tables e below (T79.setTop (mkF m 104 #[.val (.int p0), .val (.int p1), .val (.int p2), .val (.int p3), .val (.int p4), .val (.int (e0_1 p0)), .val (.int (e0_2 p1)), .val (.int (e0_3 p2)), .val (.int (e0_4 p3)), .val (.int (1 : Int32)), .val (.ref b62), .val (.int ((e0_1 p0) + (1 : Int32))), .unset] [(.int ((e0_1 p0) + (1 : Int32))), (.int (e0_2 p1))])) t → Steps p.tables e below (s₁.setTop (entryFrame m #[(.int p0), (.int p1), (.int p2), (.int p3), (.int p4)] maxLocals)) t := fun t kt => pre78 t (by
        show Steps p.tables e below (T74.setTop (mkF m 84 #[.val (.int p0), .val (.int p1), .val (.int p2), .val (.int p3), .val (.int p4), .val (.int (e0_1 p0)), .val (.int (e0_2 p1)), .val (.int (e0_3 p2)), .val (.int (e0_4 p3)), .val (.int (1 : Int32)), .val (.ref b62), .unset, .unset] [(.int (1 : Int32))])) _
        refine XS.ifNo X74.here hx rfl (hb hby at_84) rfl ((if0 _ _).trans (feq (by decide : ¬ ((1 : Int32) = (0 : Int32)))).1) ?_
        show Steps p.tables e below (T74.setTop (mkF m 87 #[.val (.int p0), .val (.int p1), .val (.int p2), .val (.int p3), .val (.int p4), .val (.int (e0_1 p0)), .val (.int (e0_2 p1)), .val (.int (e0_3 p2)), .val (.int (e0_4 p3)), .val (.int (1 : Int32)), .val (.ref b62), .unset, .unset] [])) _
        refine XS.aload X74.here hx rfl (hb hby at_87) rfl rfl ?_
        show Steps p.tables e below (T74.setTop (mkF m 89 #[.val (.int p0), .val (.int p1), .val (.int p2), .val (.int p3), .val (.int p4), .val (.int (e0_1 p0)), .val (.int (e0_2 p1)), .val (.int (e0_3 p2)), .val (.int (e0_4 p3)), .val (.int (1 : Int32)), .val (.ref b62), .unset, .unset] [(.ref b62)])) _
        refine XS.iload X74.here hx rfl (hb hby at_89) rfl ?_
        show Steps p.tables e below (T74.setTop (mkF m 91 #[.val (.int p0), .val (.int p1), .val (.int p2), .val (.int p3), .val (.int p4), .val (.int (e0_1 p0)), .val (.int (e0_2 p1)), .val (.int (e0_3 p2)), .val (.int (e0_4 p3)), .val (.int (1 : Int32)), .val (.ref b62), .unset, .unset] [(.int (e0_4 p3)), (.ref b62)])) _
        refine st79.trans ?_
        show Steps p.tables e below (T79.setTop (mkF m 94 #[.val (.int p0), .val (.int p1), .val (.int p2), .val (.int p3), .val (.int p4), .val (.int (e0_1 p0)), .val (.int (e0_2 p1)), .val (.int (e0_3 p2)), .val (.int (e0_4 p3)), .val (.int (1 : Int32)), .val (.ref b62), .unset, .unset] [])) _
        refine XS.iload X79.here hx rfl (hb hby at_94) rfl ?_
        show Steps p.tables e below (T79.setTop (mkF m 96 #[.val (.int p0), .val (.int p1), .val (.int p2), .val (.int p3), .val (.int p4), .val (.int (e0_1 p0)), .val (.int (e0_2 p1)), .val (.int (e0_3 p2)), .val (.int (e0_4 p3)), .val (.int (1 : Int32)), .val (.ref b62), .unset, .unset] [(.int (e0_1 p0))])) _
        refine XS.iconst X79.here hx rfl (hb hby at_96) ?_
        show Steps p.tables e below (T79.setTop (mkF m 97 #[.val (.int p0), .val (.int p1), .val (.int p2), .val (.int p3), .val (.int p4), .val (.int (e0_1 p0)), .val (.int (e0_2 p1)), .val (.int (e0_3 p2)), .val (.int (e0_4 p3)), .val (.int (1 : Int32)), .val (.ref b62), .unset, .unset] [(.int (1 : Int32)), (.int (e0_1 p0))])) _
        refine XS.iadd X79.here hx rfl (hb hby at_97) rfl ?_
        show Steps p.tables e below (T79.setTop (mkF m 98 #[.val (.int p0), .val (.int p1), .val (.int p2), .val (.int p3), .val (.int p4), .val (.int (e0_1 p0)), .val (.int (e0_2 p1)), .val (.int (e0_3 p2)), .val (.int (e0_4 p3)), .val (.int (1 : Int32)), .val (.ref b62), .unset, .unset] [(.int ((e0_1 p0) + (1 : Int32)))])) _
        refine XS.istore X79.here hx rfl (hb hby at_98) rfl (l' := #[.val (.int p0), .val (.int p1), .val (.int p2), .val (.int p3), .val (.int p4), .val (.int (e0_1 p0)), .val (.int (e0_2 p1)), .val (.int (e0_3 p2)), .val (.int (e0_4 p3)), .val (.int (1 : Int32)), .val (.ref b62), .val (.int ((e0_1 p0) + (1 : Int32))), .unset]) rfl ?_
        show Steps p.tables e below (T79.setTop (mkF m 100 #[.val (.int p0), .val (.int p1), .val (.int p2), .val (.int p3), .val (.int p4), .val (.int (e0_1 p0)), .val (.int (e0_2 p1)), .val (.int (e0_3 p2)), .val (.int (e0_4 p3)), .val (.int (1 : Int32)), .val (.ref b62), .val (.int ((e0_1 p0) + (1 : Int32))), .unset] [])) _
        refine XS.iload X79.here hx rfl (hb hby at_100) rfl ?_
        show Steps p.tables e below (T79.setTop (mkF m 102 #[.val (.int p0), .val (.int p1), .val (.int p2), .val (.int p3), .val (.int p4), .val (.int (e0_1 p0)), .val (.int (e0_2 p1)), .val (.int (e0_3 p2)), .val (.int (e0_4 p3)), .val (.int (1 : Int32)), .val (.ref b62), .val (.int ((e0_1 p0) + (1 : Int32))), .unset] [(.int (e0_2 p1))])) _
        refine XS.iload X79.here hx rfl (hb hby at_102) rfl ?_
        exact kt)
    by_cases hc104_83 : (e0_2 p1) = ((e0_1 p0) + (1 : Int32))
    · have pre84 : ∀ t, Steps p.tables e below (T79.setTop (mkF m 124 #[.val (.int p0), .val (.int p1), .val (.int p2), .val (.int p3), .val (.int p4), .val (.int (e0_1 p0)), .val (.int (e0_2 p1)), .val (.int (e0_3 p2)), .val (.int (e0_4 p3)), .val (.int (1 : Int32)), .val (.ref b62), .val (.int (((e0_1 p0) + (1 : Int32)) + (1 : Int32))), .unset] [(.int (((e0_1 p0) + (1 : Int32)) + (1 : Int32))), (.int (e0_2 p1))])) t → Steps p.tables e below (s₁.setTop (entryFrame m #[(.int p0), (.int p1), (.int p2), (.int p3), (.int p4)] maxLocals)) t := fun t kt => pre82 t (by
          show Steps p.tables e below (T79.setTop (mkF m 104 #[.val (.int p0), .val (.int p1), .val (.int p2), .val (.int p3), .val (.int p4), .val (.int (e0_1 p0)), .val (.int (e0_2 p1)), .val (.int (e0_3 p2)), .val (.int (e0_4 p3)), .val (.int (1 : Int32)), .val (.ref b62), .val (.int ((e0_1 p0) + (1 : Int32))), .unset] [(.int ((e0_1 p0) + (1 : Int32))), (.int (e0_2 p1))])) _
          refine XS.icmpYes X79.here hx rfl (pc0 := 104) (pc' := 114) rfl (hb hby at_104) rfl (teq hc104_83).1 (by decide) (by decide) ?_
          show Steps p.tables e below (T79.setTop (mkF m 114 #[.val (.int p0), .val (.int p1), .val (.int p2), .val (.int p3), .val (.int p4), .val (.int (e0_1 p0)), .val (.int (e0_2 p1)), .val (.int (e0_3 p2)), .val (.int (e0_4 p3)), .val (.int (1 : Int32)), .val (.ref b62), .val (.int ((e0_1 p0) + (1 : Int32))), .unset] [])) _
          refine XS.iload X79.here hx rfl (hb hby at_114) rfl ?_
          show Steps p.tables e below (T79.setTop (mkF m 116 #[.val (.int p0), .val (.int p1), .val (.int p2), .val (.int p3), .val (.int p4), .val (.int (e0_1 p0)), .val (.int (e0_2 p1)), .val (.int (e0_3 p2)), .val (.int (e0_4 p3)), .val (.int (1 : Int32)), .val (.ref b62), .val (.int ((e0_1 p0) + (1 : Int32))), .unset] [(.int ((e0_1 p0) + (1 : Int32)))])) _
          refine XS.iconst X79.here hx rfl (hb hby at_116) ?_
          show Steps p.tables e below (T79.setTop (mkF m 117 #[.val (.int p0), .val (.int p1), .val (.int p2), .val (.int p3), .val (.int p4), .val (.int (e0_1 p0)), .val (.int (e0_2 p1)), .val (.int (e0_3 p2)), .val (.int (e0_4 p3)), .val (.int (1 : Int32)), .val (.ref b62), .val (.int ((e0_1 p0) + (1 : Int32))), .unset] [(.int (1 : Int32)), (.int ((e0_1 p0) + (1 : Int32)))])) _
          refine XS.iadd X79.here hx rfl (hb hby at_117) rfl ?_
          show Steps p.tables e below (T79.setTop (mkF m 118 #[.val (.int p0), .val (.int p1), .val (.int p2), .val (.int p3), .val (.int p4), .val (.int (e0_1 p0)), .val (.int (e0_2 p1)), .val (.int (e0_3 p2)), .val (.int (e0_4 p3)), .val (.int (1 : Int32)), .val (.ref b62), .val (.int ((e0_1 p0) + (1 : Int32))), .unset] [(.int (((e0_1 p0) + (1 : Int32)) + (1 : Int32)))])) _
          refine XS.istore X79.here hx rfl (hb hby at_118) rfl (l' := #[.val (.int p0), .val (.int p1), .val (.int p2), .val (.int p3), .val (.int p4), .val (.int (e0_1 p0)), .val (.int (e0_2 p1)), .val (.int (e0_3 p2)), .val (.int (e0_4 p3)), .val (.int (1 : Int32)), .val (.ref b62), .val (.int (((e0_1 p0) + (1 : Int32)) + (1 : Int32))), .unset]) rfl ?_
          show Steps p.tables e below (T79.setTop (mkF m 120 #[.val (.int p0), .val (.int p1), .val (.int p2), .val (.int p3), .val (.int p4), .val (.int (e0_1 p0)), .val (.int (e0_2 p1)), .val (.int (e0_3 p2)), .val (.int (e0_4 p3)), .val (.int (1 : Int32)), .val (.ref b62), .val (.int (((e0_1 p0) + (1 : Int32)) + (1 : Int32))), .unset] [])) _
          refine XS.iload X79.here hx rfl (hb hby at_120) rfl ?_
          show Steps p.tables e below (T79.setTop (mkF m 122 #[.val (.int p0), .val (.int p1), .val (.int p2), .val (.int p3), .val (.int p4), .val (.int (e0_1 p0)), .val (.int (e0_2 p1)), .val (.int (e0_3 p2)), .val (.int (e0_4 p3)), .val (.int (1 : Int32)), .val (.ref b62), .val (.int (((e0_1 p0) + (1 : Int32)) + (1 : Int32))), .unset] [(.int (e0_2 p1))])) _
          refine XS.iload X79.here hx rfl (hb hby at_122) rfl ?_
          exact kt)
      by_cases hc124_85 : (e0_2 p1) = (((e0_1 p0) + (1 : Int32)) + (1 : Int32))
      · have pre86 : ∀ t, Steps p.tables e below (T79.setTop (mkF m 142 #[.val (.int p0), .val (.int p1), .val (.int p2), .val (.int p3), .val (.int p4), .val (.int (e0_1 p0)), .val (.int (e0_2 p1)), .val (.int (e0_3 p2)), .val (.int (e0_4 p3)), .val (.int (1 : Int32)), .val (.ref b62), .val (.int ((((e0_1 p0) + (1 : Int32)) + (1 : Int32)) + (1 : Int32))), .unset] [(.int (1 : Int32))])) t → Steps p.tables e below (s₁.setTop (entryFrame m #[(.int p0), (.int p1), (.int p2), (.int p3), (.int p4)] maxLocals)) t := fun t kt => pre84 t (by
            show Steps p.tables e below (T79.setTop (mkF m 124 #[.val (.int p0), .val (.int p1), .val (.int p2), .val (.int p3), .val (.int p4), .val (.int (e0_1 p0)), .val (.int (e0_2 p1)), .val (.int (e0_3 p2)), .val (.int (e0_4 p3)), .val (.int (1 : Int32)), .val (.ref b62), .val (.int (((e0_1 p0) + (1 : Int32)) + (1 : Int32))), .unset] [(.int (((e0_1 p0) + (1 : Int32)) + (1 : Int32))), (.int (e0_2 p1))])) _
            refine XS.icmpYes X79.here hx rfl (pc0 := 124) (pc' := 134) rfl (hb hby at_124) rfl (teq hc124_85).1 (by decide) (by decide) ?_
            show Steps p.tables e below (T79.setTop (mkF m 134 #[.val (.int p0), .val (.int p1), .val (.int p2), .val (.int p3), .val (.int p4), .val (.int (e0_1 p0)), .val (.int (e0_2 p1)), .val (.int (e0_3 p2)), .val (.int (e0_4 p3)), .val (.int (1 : Int32)), .val (.ref b62), .val (.int (((e0_1 p0) + (1 : Int32)) + (1 : Int32))), .unset] [])) _
            refine XS.iload X79.here hx rfl (hb hby at_134) rfl ?_
            show Steps p.tables e below (T79.setTop (mkF m 136 #[.val (.int p0), .val (.int p1), .val (.int p2), .val (.int p3), .val (.int p4), .val (.int (e0_1 p0)), .val (.int (e0_2 p1)), .val (.int (e0_3 p2)), .val (.int (e0_4 p3)), .val (.int (1 : Int32)), .val (.ref b62), .val (.int (((e0_1 p0) + (1 : Int32)) + (1 : Int32))), .unset] [(.int (((e0_1 p0) + (1 : Int32)) + (1 : Int32)))])) _
            refine XS.iconst X79.here hx rfl (hb hby at_136) ?_
            show Steps p.tables e below (T79.setTop (mkF m 137 #[.val (.int p0), .val (.int p1), .val (.int p2), .val (.int p3), .val (.int p4), .val (.int (e0_1 p0)), .val (.int (e0_2 p1)), .val (.int (e0_3 p2)), .val (.int (e0_4 p3)), .val (.int (1 : Int32)), .val (.ref b62), .val (.int (((e0_1 p0) + (1 : Int32)) + (1 : Int32))), .unset] [(.int (1 : Int32)), (.int (((e0_1 p0) + (1 : Int32)) + (1 : Int32)))])) _
            refine XS.iadd X79.here hx rfl (hb hby at_137) rfl ?_
            show Steps p.tables e below (T79.setTop (mkF m 138 #[.val (.int p0), .val (.int p1), .val (.int p2), .val (.int p3), .val (.int p4), .val (.int (e0_1 p0)), .val (.int (e0_2 p1)), .val (.int (e0_3 p2)), .val (.int (e0_4 p3)), .val (.int (1 : Int32)), .val (.ref b62), .val (.int (((e0_1 p0) + (1 : Int32)) + (1 : Int32))), .unset] [(.int ((((e0_1 p0) + (1 : Int32)) + (1 : Int32)) + (1 : Int32)))])) _
            refine XS.istore X79.here hx rfl (hb hby at_138) rfl (l' := #[.val (.int p0), .val (.int p1), .val (.int p2), .val (.int p3), .val (.int p4), .val (.int (e0_1 p0)), .val (.int (e0_2 p1)), .val (.int (e0_3 p2)), .val (.int (e0_4 p3)), .val (.int (1 : Int32)), .val (.ref b62), .val (.int ((((e0_1 p0) + (1 : Int32)) + (1 : Int32)) + (1 : Int32))), .unset]) rfl ?_
            show Steps p.tables e below (T79.setTop (mkF m 140 #[.val (.int p0), .val (.int p1), .val (.int p2), .val (.int p3), .val (.int p4), .val (.int (e0_1 p0)), .val (.int (e0_2 p1)), .val (.int (e0_3 p2)), .val (.int (e0_4 p3)), .val (.int (1 : Int32)), .val (.ref b62), .val (.int ((((e0_1 p0) + (1 : Int32)) + (1 : Int32)) + (1 : Int32))), .unset] [])) _
            refine XS.iload X79.here hx rfl (hb hby at_140) rfl ?_
            exact kt)
        obtain ⟨_, _, ⟨T87, L87, k87, n87⟩, -, X87, ⟨Lc87, hQ87, l87, y87, z87⟩, st87⟩ := Jvm.LawKit.callS X79 hx (y := (⟨"java/lang/Math", "min", "(II)I"⟩ : MethodName)) hown (mvT hZ (hw _ (List.mem_of_getElem? (i := 38) rfl))) (mvT hZ (hw _ (List.mem_of_getElem? (i := 39) rfl))) (mvT hZ (hw _ (List.mem_of_getElem? (i := 40) rfl))) (mvT hZ (hw _ (List.mem_of_getElem? (i := 41) rfl))) (by decide) (backOf (W := 0) (rm7 l Z a0 hw [] ((((e0_1 p0) + (1 : Int32)) + (1 : Int32)) + (1 : Int32)) (e0_4 p3) T79.heap n0 Z81 ) hZ (hw _ (List.mem_of_getElem? (i := 41) rfl)) (hw _ (List.mem_of_getElem? (i := 40) rfl)) (by decide) (by decide)) (g := (mkF m 149 #[.val (.int p0), .val (.int p1), .val (.int p2), .val (.int p3), .val (.int p4), .val (.int (e0_1 p0)), .val (.int (e0_2 p1)), .val (.int (e0_3 p2)), .val (.int (e0_4 p3)), .val (.int (1 : Int32)), .val (.ref b62), .val (.int ((((e0_1 p0) + (1 : Int32)) + (1 : Int32)) + (1 : Int32))), .unset] [(.int (e0_4 p3)), (.int ((((e0_1 p0) + (1 : Int32)) + (1 : Int32)) + (1 : Int32)))])) rfl (by rw [hml]; rfl) (argsL := [(.int ((((e0_1 p0) + (1 : Int32)) + (1 : Int32)) + (1 : Int32))), (.int (e0_4 p3))]) (rest := []) (lenOf pd_0_4 rfl) rfl (by show 2 * 0 + _ ≤ _; exact Nat.le_of_eq rfl) (hb hby at_149) (fun _ _ => ⟨rfl, rfl, (by decide : 4 + 0 ≤ _), (by decide : 63 + 0 ≤ _)⟩)
        dsimp only [Pt.U, Pt.locs, Pt.cells, Pt.slots] at X87 l87 y87 z87 st87 hQ87
        subst l87 y87 z87
        obtain ⟨rfl, N87q, e87q⟩ := hQ87
        have N87 := Fr.app N79 N87q
        have c89 := ((c75.keep K74q (ninS ne_b62_r_o0_open_65 nin0)).keep K79q (ninS ne_b62_r_o0_open_65 nin0))
        have c90 := (((((E_b62.keep K65q).keep K68q).keep K71q).keep K74q).keep K79q)
        obtain ⟨cq88, kq88, q88a, q88b, q88c⟩ := isOf hZ e87q c90
        obtain ⟨_, _, ⟨T88, L88, k88, n88⟩, -, X88, ⟨Lc88, hQ88, l88, y88, z88⟩, st88⟩ := X87.virtualBack hx (y := (⟨"com/example/cardhost/cardhost/LogicalChannels", "lowestClosed", "()I"⟩ : MethodName)) (z := (⟨"com/example/cardhost/cardhost/LogicalChannels", "lowestClosed", "()I"⟩ : MethodName)) hown (mvT hZ (hw _ (List.mem_of_getElem? (i := 28) rfl))) (mvT hZ (hw _ (List.mem_of_getElem? (i := 29) rfl))) (notFace_of_selects (args := #[]) (mvT hZ (hw _ (List.mem_of_getElem? (i := 31) rfl)))) (mvT hZ (hw _ (List.mem_of_getElem? (i := 31) rfl))) (mvT hZ (hw _ (List.mem_of_getElem? (i := 30) rfl))) (by decide) (backOf (W := 0) (rm5 l Z a0 hw [] b62 r_o0_open_65 (own_upd (own_upd (own_upd (f3_r1_a (e0_1 p0) (own_upd (fun _ => 0) 0 (1 : Int32))) ((e0_2 p1)).toNatClampNeg (1 : Int32)) ((e0_3 p2)).toNatClampNeg (1 : Int32)) ((e0_4 p3)).toNatClampNeg (0 : Int32)) T79.heap n0 Z81 c89 G79_0 g_r_o0_open_65) hZ (hw _ (List.mem_of_getElem? (i := 32) rfl)) (hw _ (List.mem_of_getElem? (i := 3) rfl)) (by decide) (by decide)) q88a q88c (g := (mkF m 161 #[.val (.int p0), .val (.int p1), .val (.int p2), .val (.int p3), .val (.int p4), .val (.int (e0_1 p0)), .val (.int (e0_2 p1)), .val (.int (e0_3 p2)), .val (.int (e0_4 p3)), .val (.int (1 : Int32)), .val (.ref b62), .val (.int ((((e0_1 p0) + (1 : Int32)) + (1 : Int32)) + (1 : Int32))), .val (.int (e0_5 p0 p3))] [(.ref b62)])) rfl (by rw [hml]; rfl) (Steps.refl _) (argsL := []) (rest := []) (lenOf pd_0_3 rfl) rfl (by show 2 * 0 + _ ≤ _; exact Nat.le_of_eq rfl) (hb hby at_161) (fun _ _ => ⟨rfl, e87q, (by decide : 4 + 0 ≤ _), (by decide : 63 + 0 ≤ _)⟩)
        dsimp only [Pt.U, Pt.locs, Pt.cells, Pt.slots] at X88 l88 y88 z88 st88 hQ88
        subst l88 y88 z88
        obtain ⟨rfl, N88q, e88q⟩ := hQ88
        have N88 := Fr.app N87 N88q
        have pre91 : ∀ t, Steps p.tables e below (T88.setTop (mkF m 166 #[.val (.int p0), .val (.int p1), .val (.int p2), .val (.int p3), .val (.int p4), .val (.int (e0_1 p0)), .val (.int (e0_2 p1)), .val (.int (e0_3 p2)), .val (.int (e0_4 p3)), .val (.int (1 : Int32)), .val (.ref b62), .val (.int ((((e0_1 p0) + (1 : Int32)) + (1 : Int32)) + (1 : Int32))), .val (.int (e0_5 p0 p3))] [(.int (e0_5 p0 p3)), (.int (f5 (own_upd (own_upd (own_upd (f3_r1_a (e0_1 p0) (own_upd (fun _ => 0) 0 (1 : Int32))) ((e0_2 p1)).toNatClampNeg (1 : Int32)) ((e0_3 p2)).toNatClampNeg (1 : Int32)) ((e0_4 p3)).toNatClampNeg (0 : Int32))))])) t → Steps p.tables e below (s₁.setTop (entryFrame m #[(.int p0), (.int p1), (.int p2), (.int p3), (.int p4)] maxLocals)) t := fun t kt => pre86 t (by
            show Steps p.tables e below (T79.setTop (mkF m 142 #[.val (.int p0), .val (.int p1), .val (.int p2), .val (.int p3), .val (.int p4), .val (.int (e0_1 p0)), .val (.int (e0_2 p1)), .val (.int (e0_3 p2)), .val (.int (e0_4 p3)), .val (.int (1 : Int32)), .val (.ref b62), .val (.int ((((e0_1 p0) + (1 : Int32)) + (1 : Int32)) + (1 : Int32))), .unset] [(.int (1 : Int32))])) _
            refine XS.ifNo X79.here hx rfl (hb hby at_142) rfl ((if0 _ _).trans (feq (by decide : ¬ ((1 : Int32) = (0 : Int32)))).1) ?_
            show Steps p.tables e below (T79.setTop (mkF m 145 #[.val (.int p0), .val (.int p1), .val (.int p2), .val (.int p3), .val (.int p4), .val (.int (e0_1 p0)), .val (.int (e0_2 p1)), .val (.int (e0_3 p2)), .val (.int (e0_4 p3)), .val (.int (1 : Int32)), .val (.ref b62), .val (.int ((((e0_1 p0) + (1 : Int32)) + (1 : Int32)) + (1 : Int32))), .unset] [])) _
            refine XS.iload X79.here hx rfl (hb hby at_145) rfl ?_
            show Steps p.tables e below (T79.setTop (mkF m 147 #[.val (.int p0), .val (.int p1), .val (.int p2), .val (.int p3), .val (.int p4), .val (.int (e0_1 p0)), .val (.int (e0_2 p1)), .val (.int (e0_3 p2)), .val (.int (e0_4 p3)), .val (.int (1 : Int32)), .val (.ref b62), .val (.int ((((e0_1 p0) + (1 : Int32)) + (1 : Int32)) + (1 : Int32))), .unset] [(.int ((((e0_1 p0) + (1 : Int32)) + (1 : Int32)) + (1 : Int32)))])) _
            refine XS.iload X79.here hx rfl (hb hby at_147) rfl ?_
            show Steps p.tables e below (T79.setTop (mkF m 149 #[.val (.int p0), .val (.int p1), .val (.int p2), .val (.int p3), .val (.int p4), .val (.int (e0_1 p0)), .val (.int (e0_2 p1)), .val (.int (e0_3 p2)), .val (.int (e0_4 p3)), .val (.int (1 : Int32)), .val (.ref b62), .val (.int ((((e0_1 p0) + (1 : Int32)) + (1 : Int32)) + (1 : Int32))), .unset] [(.int (e0_4 p3)), (.int ((((e0_1 p0) + (1 : Int32)) + (1 : Int32)) + (1 : Int32)))])) _
            refine st87 _ ?_
            show Steps p.tables e below (T87.setTop (mkF m 152 #[.val (.int p0), .val (.int p1), .val (.int p2), .val (.int p3), .val (.int p4), .val (.int (e0_1 p0)), .val (.int (e0_2 p1)), .val (.int (e0_3 p2)), .val (.int (e0_4 p3)), .val (.int (1 : Int32)), .val (.ref b62), .val (.int ((((e0_1 p0) + (1 : Int32)) + (1 : Int32)) + (1 : Int32))), .unset] [(.int (f7 ((((e0_1 p0) + (1 : Int32)) + (1 : Int32)) + (1 : Int32)) (e0_4 p3)))])) _
            refine XS.goto X87.here hx rfl (pc0 := 152) (pc' := 157) rfl (hb hby at_152) (by decide) (by decide) ?_
            show Steps p.tables e below (T87.setTop (mkF m 157 #[.val (.int p0), .val (.int p1), .val (.int p2), .val (.int p3), .val (.int p4), .val (.int (e0_1 p0)), .val (.int (e0_2 p1)), .val (.int (e0_3 p2)), .val (.int (e0_4 p3)), .val (.int (1 : Int32)), .val (.ref b62), .val (.int ((((e0_1 p0) + (1 : Int32)) + (1 : Int32)) + (1 : Int32))), .unset] [(.int (f7 ((((e0_1 p0) + (1 : Int32)) + (1 : Int32)) + (1 : Int32)) (e0_4 p3)))])) _
            refine XS.istore X87.here hx rfl (hb hby at_157) rfl (l' := #[.val (.int p0), .val (.int p1), .val (.int p2), .val (.int p3), .val (.int p4), .val (.int (e0_1 p0)), .val (.int (e0_2 p1)), .val (.int (e0_3 p2)), .val (.int (e0_4 p3)), .val (.int (1 : Int32)), .val (.ref b62), .val (.int ((((e0_1 p0) + (1 : Int32)) + (1 : Int32)) + (1 : Int32))), .val (.int (e0_5 p0 p3))]) rfl ?_
            show Steps p.tables e below (T87.setTop (mkF m 159 #[.val (.int p0), .val (.int p1), .val (.int p2), .val (.int p3), .val (.int p4), .val (.int (e0_1 p0)), .val (.int (e0_2 p1)), .val (.int (e0_3 p2)), .val (.int (e0_4 p3)), .val (.int (1 : Int32)), .val (.ref b62), .val (.int ((((e0_1 p0) + (1 : Int32)) + (1 : Int32)) + (1 : Int32))), .val (.int (e0_5 p0 p3))] [])) _
            refine XS.aload X87.here hx rfl (hb hby at_159) rfl rfl ?_
            show Steps p.tables e below (T87.setTop (mkF m 161 #[.val (.int p0), .val (.int p1), .val (.int p2), .val (.int p3), .val (.int p4), .val (.int (e0_1 p0)), .val (.int (e0_2 p1)), .val (.int (e0_3 p2)), .val (.int (e0_4 p3)), .val (.int (1 : Int32)), .val (.ref b62), .val (.int ((((e0_1 p0) + (1 : Int32)) + (1 : Int32)) + (1 : Int32))), .val (.int (e0_5 p0 p3))] [(.ref b62)])) _
            refine st88.trans ?_
            show Steps p.tables e below (T88.setTop (mkF m 164 #[.val (.int p0), .val (.int p1), .val (.int p2), .val (.int p3), .val (.int p4), .val (.int (e0_1 p0)), .val (.int (e0_2 p1)), .val (.int (e0_3 p2)), .val (.int (e0_4 p3)), .val (.int (1 : Int32)), .val (.ref b62), .val (.int ((((e0_1 p0) + (1 : Int32)) + (1 : Int32)) + (1 : Int32))), .val (.int (e0_5 p0 p3))] [(.int (f5 (own_upd (own_upd (own_upd (f3_r1_a (e0_1 p0) (own_upd (fun _ => 0) 0 (1 : Int32))) ((e0_2 p1)).toNatClampNeg (1 : Int32)) ((e0_3 p2)).toNatClampNeg (1 : Int32)) ((e0_4 p3)).toNatClampNeg (0 : Int32))))])) _
            refine XS.iload X88.here hx rfl (hb hby at_164) rfl ?_
            exact kt)
        have hd166_92 : (f5 (own_upd (own_upd (own_upd (f3_r1_a (e0_1 p0) (own_upd (fun _ => 0) 0 (1 : Int32))) ((e0_2 p1)).toNatClampNeg (1 : Int32)) ((e0_3 p2)).toNatClampNeg (1 : Int32)) ((e0_4 p3)).toNatClampNeg (0 : Int32))) = (e0_5 p0 p3) := by have q0 := hc104_83; rw [← Int32.toInt_inj] at q0; have q1 := hc124_85; rw [← Int32.toInt_inj] at q1; have s1 := c_iadd (e0_1 p0) 1; have r1 := rng32 ((e0_1 p0) + 1); have s2 := c_iadd ((e0_1 p0) + 1) 1; have r2 := rng32 ((e0_1 p0) + 1 + 1); have s3 := c_iadd ((e0_1 p0) + 1 + 1) 1; have r3 := rng32 ((e0_1 p0) + 1 + 1 + 1); have e1 : (1 : Int32).toInt = 1 := (by decide); rw [e1] at s1 s2 s3; have hk : 0 ≤ (e0_1 p0).toInt ∧ (e0_1 p0).toInt ≤ 19 := own_b p0; have ha : 0 ≤ (e0_2 p1).toInt ∧ (e0_2 p1).toInt ≤ 19 := own_b p1; have hb : 0 ≤ (e0_3 p2).toInt ∧ (e0_3 p2).toInt ≤ 19 := own_b p2; exact own_fin1 (M := ((((e0_1 p0) + (1 : Int32)) + (1 : Int32)) + (1 : Int32))) hk ha hb (own_c p3) (by unfold own_mm; repeat' split; all_goals omega)
        obtain ⟨fs, hr, hrun, hended, hW, hsame⟩ := X88.leave (v := some (.int (1 : Int32))) (fun h => by rw [Bd.returns] at h; cases h)
        have hv152 : (1 : Int32) = (1 : Int32) := rfl
        refine ⟨_, _, pre91 _ ?_, hrun, hended, _, _, rfl, ?_, ⟨_, rfl⟩, hW, hsame.mono (by decide) (by decide)⟩
        · show Steps p.tables e below (T88.setTop (mkF m 166 #[.val (.int p0), .val (.int p1), .val (.int p2), .val (.int p3), .val (.int p4), .val (.int (e0_1 p0)), .val (.int (e0_2 p1)), .val (.int (e0_3 p2)), .val (.int (e0_4 p3)), .val (.int (1 : Int32)), .val (.ref b62), .val (.int ((((e0_1 p0) + (1 : Int32)) + (1 : Int32)) + (1 : Int32))), .val (.int (e0_5 p0 p3))] [(.int (e0_5 p0 p3)), (.int (f5 (own_upd (own_upd (own_upd (f3_r1_a (e0_1 p0) (own_upd (fun _ => 0) 0 (1 : Int32))) ((e0_2 p1)).toNatClampNeg (1 : Int32)) ((e0_3 p2)).toNatClampNeg (1 : Int32)) ((e0_4 p3)).toNatClampNeg (0 : Int32))))])) _
          refine XS.icmpNo X88.here hx rfl (hb hby at_166) rfl (teq hd166_92).2 ?_
          show Steps p.tables e below (T88.setTop (mkF m 169 #[.val (.int p0), .val (.int p1), .val (.int p2), .val (.int p3), .val (.int p4), .val (.int (e0_1 p0)), .val (.int (e0_2 p1)), .val (.int (e0_3 p2)), .val (.int (e0_4 p3)), .val (.int (1 : Int32)), .val (.ref b62), .val (.int ((((e0_1 p0) + (1 : Int32)) + (1 : Int32)) + (1 : Int32))), .val (.int (e0_5 p0 p3))] [])) _
          refine XS.iconst X88.here hx rfl (hb hby at_169) ?_
          show Steps p.tables e below (T88.setTop (mkF m 170 #[.val (.int p0), .val (.int p1), .val (.int p2), .val (.int p3), .val (.int p4), .val (.int (e0_1 p0)), .val (.int (e0_2 p1)), .val (.int (e0_3 p2)), .val (.int (e0_4 p3)), .val (.int (1 : Int32)), .val (.ref b62), .val (.int ((((e0_1 p0) + (1 : Int32)) + (1 : Int32)) + (1 : Int32))), .val (.int (e0_5 p0 p3))] [(.int (1 : Int32))])) _
          refine XS.goto X88.here hx rfl (pc0 := 170) (pc' := 174) rfl (hb hby at_170) (by decide) (by decide) ?_
          show Steps p.tables e below (T88.setTop (mkF m 174 #[.val (.int p0), .val (.int p1), .val (.int p2), .val (.int p3), .val (.int p4), .val (.int (e0_1 p0)), .val (.int (e0_2 p1)), .val (.int (e0_3 p2)), .val (.int (e0_4 p3)), .val (.int (1 : Int32)), .val (.ref b62), .val (.int ((((e0_1 p0) + (1 : Int32)) + (1 : Int32)) + (1 : Int32))), .val (.int (e0_5 p0 p3))] [(.int (1 : Int32))])) _
          exact retN X88 hx (t := .boolean) Bd.returns (by simp) (hb hby at_174) hr
        · show Q0 Z p0 p1 p2 p3 p4 h0 n0 _ T88.heap _
          rw [e88q]
          exact ⟨congrArg (fun q => some (Value.int q)) hv152, N88⟩
      · have pre93 : ∀ t, Steps p.tables e below (T79.setTop (mkF m 131 #[.val (.int p0), .val (.int p1), .val (.int p2), .val (.int p3), .val (.int p4), .val (.int (e0_1 p0)), .val (.int (e0_2 p1)), .val (.int (e0_3 p2)), .val (.int (e0_4 p3)), .val (.int (1 : Int32)), .val (.ref b62), .val (.int (((e0_1 p0) + (1 : Int32)) + (1 : Int32))), .unset] [(.int (((e0_1 p0) + (1 : Int32)) + (1 : Int32))), (.int (e0_3 p2))])) t → Steps p.tables e below (s₁.setTop (entryFrame m #[(.int p0), (.int p1), (.int p2), (.int p3), (.int p4)] maxLocals)) t := fun t kt => pre84 t (by
            show Steps p.tables e below (T79.setTop (mkF m 124 #[.val (.int p0), .val (.int p1), .val (.int p2), .val (.int p3), .val (.int p4), .val (.int (e0_1 p0)), .val (.int (e0_2 p1)), .val (.int (e0_3 p2)), .val (.int (e0_4 p3)), .val (.int (1 : Int32)), .val (.ref b62), .val (.int (((e0_1 p0) + (1 : Int32)) + (1 : Int32))), .unset] [(.int (((e0_1 p0) + (1 : Int32)) + (1 : Int32))), (.int (e0_2 p1))])) _
            refine XS.icmpNo X79.here hx rfl (hb hby at_124) rfl (feq hc124_85).1 ?_
            show Steps p.tables e below (T79.setTop (mkF m 127 #[.val (.int p0), .val (.int p1), .val (.int p2), .val (.int p3), .val (.int p4), .val (.int (e0_1 p0)), .val (.int (e0_2 p1)), .val (.int (e0_3 p2)), .val (.int (e0_4 p3)), .val (.int (1 : Int32)), .val (.ref b62), .val (.int (((e0_1 p0) + (1 : Int32)) + (1 : Int32))), .unset] [])) _
            refine XS.iload X79.here hx rfl (hb hby at_127) rfl ?_
            show Steps p.tables e below (T79.setTop (mkF m 129 #[.val (.int p0), .val (.int p1), .val (.int p2), .val (.int p3), .val (.int p4), .val (.int (e0_1 p0)), .val (.int (e0_2 p1)), .val (.int (e0_3 p2)), .val (.int (e0_4 p3)), .val (.int (1 : Int32)), .val (.ref b62), .val (.int (((e0_1 p0) + (1 : Int32)) + (1 : Int32))), .unset] [(.int (e0_3 p2))])) _
            refine XS.iload X79.here hx rfl (hb hby at_129) rfl ?_
            exact kt)
        by_cases hc131_94 : (e0_3 p2) = (((e0_1 p0) + (1 : Int32)) + (1 : Int32))
        · have pre95 : ∀ t, Steps p.tables e below (T79.setTop (mkF m 142 #[.val (.int p0), .val (.int p1), .val (.int p2), .val (.int p3), .val (.int p4), .val (.int (e0_1 p0)), .val (.int (e0_2 p1)), .val (.int (e0_3 p2)), .val (.int (e0_4 p3)), .val (.int (1 : Int32)), .val (.ref b62), .val (.int ((((e0_1 p0) + (1 : Int32)) + (1 : Int32)) + (1 : Int32))), .unset] [(.int (1 : Int32))])) t → Steps p.tables e below (s₁.setTop (entryFrame m #[(.int p0), (.int p1), (.int p2), (.int p3), (.int p4)] maxLocals)) t := fun t kt => pre93 t (by
              show Steps p.tables e below (T79.setTop (mkF m 131 #[.val (.int p0), .val (.int p1), .val (.int p2), .val (.int p3), .val (.int p4), .val (.int (e0_1 p0)), .val (.int (e0_2 p1)), .val (.int (e0_3 p2)), .val (.int (e0_4 p3)), .val (.int (1 : Int32)), .val (.ref b62), .val (.int (((e0_1 p0) + (1 : Int32)) + (1 : Int32))), .unset] [(.int (((e0_1 p0) + (1 : Int32)) + (1 : Int32))), (.int (e0_3 p2))])) _
              refine XS.icmpNo X79.here hx rfl (hb hby at_131) rfl (teq hc131_94).2 ?_
              show Steps p.tables e below (T79.setTop (mkF m 134 #[.val (.int p0), .val (.int p1), .val (.int p2), .val (.int p3), .val (.int p4), .val (.int (e0_1 p0)), .val (.int (e0_2 p1)), .val (.int (e0_3 p2)), .val (.int (e0_4 p3)), .val (.int (1 : Int32)), .val (.ref b62), .val (.int (((e0_1 p0) + (1 : Int32)) + (1 : Int32))), .unset] [])) _
              refine XS.iload X79.here hx rfl (hb hby at_134) rfl ?_
              show Steps p.tables e below (T79.setTop (mkF m 136 #[.val (.int p0), .val (.int p1), .val (.int p2), .val (.int p3), .val (.int p4), .val (.int (e0_1 p0)), .val (.int (e0_2 p1)), .val (.int (e0_3 p2)), .val (.int (e0_4 p3)), .val (.int (1 : Int32)), .val (.ref b62), .val (.int (((e0_1 p0) + (1 : Int32)) + (1 : Int32))), .unset] [(.int (((e0_1 p0) + (1 : Int32)) + (1 : Int32)))])) _
              refine XS.iconst X79.here hx rfl (hb hby at_136) ?_
              show Steps p.tables e below (T79.setTop (mkF m 137 #[.val (.int p0), .val (.int p1), .val (.int p2), .val (.int p3), .val (.int p4), .val (.int (e0_1 p0)), .val (.int (e0_2 p1)), .val (.int (e0_3 p2)), .val (.int (e0_4 p3)), .val (.int (1 : Int32)), .val (.ref b62), .val (.int (((e0_1 p0) + (1 : Int32)) + (1 : Int32))), .unset] [(.int (1 : Int32)), (.int (((e0_1 p0) + (1 : Int32)) + (1 : Int32)))])) _
              refine XS.iadd X79.here hx rfl (hb hby at_137) rfl ?_
              show Steps p.tables e below (T79.setTop (mkF m 138 #[.val (.int p0), .val (.int p1), .val (.int p2), .val (.int p3), .val (.int p4), .val (.int (e0_1 p0)), .val (.int (e0_2 p1)), .val (.int (e0_3 p2)), .val (.int (e0_4 p3)), .val (.int (1 : Int32)), .val (.ref b62), .val (.int (((e0_1 p0) + (1 : Int32)) + (1 : Int32))), .unset] [(.int ((((e0_1 p0) + (1 : Int32)) + (1 : Int32)) + (1 : Int32)))])) _
              refine XS.istore X79.here hx rfl (hb hby at_138) rfl (l' := #[.val (.int p0), .val (.int p1), .val (.int p2), .val (.int p3), .val (.int p4), .val (.int (e0_1 p0)), .val (.int (e0_2 p1)), .val (.int (e0_3 p2)), .val (.int (e0_4 p3)), .val (.int (1 : Int32)), .val (.ref b62), .val (.int ((((e0_1 p0) + (1 : Int32)) + (1 : Int32)) + (1 : Int32))), .unset]) rfl ?_
              show Steps p.tables e below (T79.setTop (mkF m 140 #[.val (.int p0), .val (.int p1), .val (.int p2), .val (.int p3), .val (.int p4), .val (.int (e0_1 p0)), .val (.int (e0_2 p1)), .val (.int (e0_3 p2)), .val (.int (e0_4 p3)), .val (.int (1 : Int32)), .val (.ref b62), .val (.int ((((e0_1 p0) + (1 : Int32)) + (1 : Int32)) + (1 : Int32))), .unset] [])) _
              refine XS.iload X79.here hx rfl (hb hby at_140) rfl ?_
              exact kt)
          obtain ⟨_, _, ⟨T96, L96, k96, n96⟩, -, X96, ⟨Lc96, hQ96, l96, y96, z96⟩, st96⟩ := Jvm.LawKit.callS X79 hx (y := (⟨"java/lang/Math", "min", "(II)I"⟩ : MethodName)) hown (mvT hZ (hw _ (List.mem_of_getElem? (i := 38) rfl))) (mvT hZ (hw _ (List.mem_of_getElem? (i := 39) rfl))) (mvT hZ (hw _ (List.mem_of_getElem? (i := 40) rfl))) (mvT hZ (hw _ (List.mem_of_getElem? (i := 41) rfl))) (by decide) (backOf (W := 0) (rm7 l Z a0 hw [] ((((e0_1 p0) + (1 : Int32)) + (1 : Int32)) + (1 : Int32)) (e0_4 p3) T79.heap n0 Z81 ) hZ (hw _ (List.mem_of_getElem? (i := 41) rfl)) (hw _ (List.mem_of_getElem? (i := 40) rfl)) (by decide) (by decide)) (g := (mkF m 149 #[.val (.int p0), .val (.int p1), .val (.int p2), .val (.int p3), .val (.int p4), .val (.int (e0_1 p0)), .val (.int (e0_2 p1)), .val (.int (e0_3 p2)), .val (.int (e0_4 p3)), .val (.int (1 : Int32)), .val (.ref b62), .val (.int ((((e0_1 p0) + (1 : Int32)) + (1 : Int32)) + (1 : Int32))), .unset] [(.int (e0_4 p3)), (.int ((((e0_1 p0) + (1 : Int32)) + (1 : Int32)) + (1 : Int32)))])) rfl (by rw [hml]; rfl) (argsL := [(.int ((((e0_1 p0) + (1 : Int32)) + (1 : Int32)) + (1 : Int32))), (.int (e0_4 p3))]) (rest := []) (lenOf pd_0_4 rfl) rfl (by show 2 * 0 + _ ≤ _; exact Nat.le_of_eq rfl) (hb hby at_149) (fun _ _ => ⟨rfl, rfl, (by decide : 4 + 0 ≤ _), (by decide : 63 + 0 ≤ _)⟩)
          dsimp only [Pt.U, Pt.locs, Pt.cells, Pt.slots] at X96 l96 y96 z96 st96 hQ96
          subst l96 y96 z96
          obtain ⟨rfl, N96q, e96q⟩ := hQ96
          have N96 := Fr.app N79 N96q
          have c98 := ((c75.keep K74q (ninS ne_b62_r_o0_open_65 nin0)).keep K79q (ninS ne_b62_r_o0_open_65 nin0))
          have c99 := (((((E_b62.keep K65q).keep K68q).keep K71q).keep K74q).keep K79q)
          obtain ⟨cq97, kq97, q97a, q97b, q97c⟩ := isOf hZ e96q c99
          obtain ⟨_, _, ⟨T97, L97, k97, n97⟩, -, X97, ⟨Lc97, hQ97, l97, y97, z97⟩, st97⟩ := X96.virtualBack hx (y := (⟨"com/example/cardhost/cardhost/LogicalChannels", "lowestClosed", "()I"⟩ : MethodName)) (z := (⟨"com/example/cardhost/cardhost/LogicalChannels", "lowestClosed", "()I"⟩ : MethodName)) hown (mvT hZ (hw _ (List.mem_of_getElem? (i := 28) rfl))) (mvT hZ (hw _ (List.mem_of_getElem? (i := 29) rfl))) (notFace_of_selects (args := #[]) (mvT hZ (hw _ (List.mem_of_getElem? (i := 31) rfl)))) (mvT hZ (hw _ (List.mem_of_getElem? (i := 31) rfl))) (mvT hZ (hw _ (List.mem_of_getElem? (i := 30) rfl))) (by decide) (backOf (W := 0) (rm5 l Z a0 hw [] b62 r_o0_open_65 (own_upd (own_upd (own_upd (f3_r1_a (e0_1 p0) (own_upd (fun _ => 0) 0 (1 : Int32))) ((e0_2 p1)).toNatClampNeg (1 : Int32)) ((e0_3 p2)).toNatClampNeg (1 : Int32)) ((e0_4 p3)).toNatClampNeg (0 : Int32)) T79.heap n0 Z81 c98 G79_0 g_r_o0_open_65) hZ (hw _ (List.mem_of_getElem? (i := 32) rfl)) (hw _ (List.mem_of_getElem? (i := 3) rfl)) (by decide) (by decide)) q97a q97c (g := (mkF m 161 #[.val (.int p0), .val (.int p1), .val (.int p2), .val (.int p3), .val (.int p4), .val (.int (e0_1 p0)), .val (.int (e0_2 p1)), .val (.int (e0_3 p2)), .val (.int (e0_4 p3)), .val (.int (1 : Int32)), .val (.ref b62), .val (.int ((((e0_1 p0) + (1 : Int32)) + (1 : Int32)) + (1 : Int32))), .val (.int (e0_5 p0 p3))] [(.ref b62)])) rfl (by rw [hml]; rfl) (Steps.refl _) (argsL := []) (rest := []) (lenOf pd_0_3 rfl) rfl (by show 2 * 0 + _ ≤ _; exact Nat.le_of_eq rfl) (hb hby at_161) (fun _ _ => ⟨rfl, e96q, (by decide : 4 + 0 ≤ _), (by decide : 63 + 0 ≤ _)⟩)
          dsimp only [Pt.U, Pt.locs, Pt.cells, Pt.slots] at X97 l97 y97 z97 st97 hQ97
          subst l97 y97 z97
          obtain ⟨rfl, N97q, e97q⟩ := hQ97
          have N97 := Fr.app N96 N97q
          have pre100 : ∀ t, Steps p.tables e below (T97.setTop (mkF m 166 #[.val (.int p0), .val (.int p1), .val (.int p2), .val (.int p3), .val (.int p4), .val (.int (e0_1 p0)), .val (.int (e0_2 p1)), .val (.int (e0_3 p2)), .val (.int (e0_4 p3)), .val (.int (1 : Int32)), .val (.ref b62), .val (.int ((((e0_1 p0) + (1 : Int32)) + (1 : Int32)) + (1 : Int32))), .val (.int (e0_5 p0 p3))] [(.int (e0_5 p0 p3)), (.int (f5 (own_upd (own_upd (own_upd (f3_r1_a (e0_1 p0) (own_upd (fun _ => 0) 0 (1 : Int32))) ((e0_2 p1)).toNatClampNeg (1 : Int32)) ((e0_3 p2)).toNatClampNeg (1 : Int32)) ((e0_4 p3)).toNatClampNeg (0 : Int32))))])) t → Steps p.tables e below (s₁.setTop (entryFrame m #[(.int p0), (.int p1), (.int p2), (.int p3), (.int p4)] maxLocals)) t := fun t kt => pre95 t (by
              show Steps p.tables e below (T79.setTop (mkF m 142 #[.val (.int p0), .val (.int p1), .val (.int p2), .val (.int p3), .val (.int p4), .val (.int (e0_1 p0)), .val (.int (e0_2 p1)), .val (.int (e0_3 p2)), .val (.int (e0_4 p3)), .val (.int (1 : Int32)), .val (.ref b62), .val (.int ((((e0_1 p0) + (1 : Int32)) + (1 : Int32)) + (1 : Int32))), .unset] [(.int (1 : Int32))])) _
              refine XS.ifNo X79.here hx rfl (hb hby at_142) rfl ((if0 _ _).trans (feq (by decide : ¬ ((1 : Int32) = (0 : Int32)))).1) ?_
              show Steps p.tables e below (T79.setTop (mkF m 145 #[.val (.int p0), .val (.int p1), .val (.int p2), .val (.int p3), .val (.int p4), .val (.int (e0_1 p0)), .val (.int (e0_2 p1)), .val (.int (e0_3 p2)), .val (.int (e0_4 p3)), .val (.int (1 : Int32)), .val (.ref b62), .val (.int ((((e0_1 p0) + (1 : Int32)) + (1 : Int32)) + (1 : Int32))), .unset] [])) _
              refine XS.iload X79.here hx rfl (hb hby at_145) rfl ?_
              show Steps p.tables e below (T79.setTop (mkF m 147 #[.val (.int p0), .val (.int p1), .val (.int p2), .val (.int p3), .val (.int p4), .val (.int (e0_1 p0)), .val (.int (e0_2 p1)), .val (.int (e0_3 p2)), .val (.int (e0_4 p3)), .val (.int (1 : Int32)), .val (.ref b62), .val (.int ((((e0_1 p0) + (1 : Int32)) + (1 : Int32)) + (1 : Int32))), .unset] [(.int ((((e0_1 p0) + (1 : Int32)) + (1 : Int32)) + (1 : Int32)))])) _
              refine XS.iload X79.here hx rfl (hb hby at_147) rfl ?_
              show Steps p.tables e below (T79.setTop (mkF m 149 #[.val (.int p0), .val (.int p1), .val (.int p2), .val (.int p3), .val (.int p4), .val (.int (e0_1 p0)), .val (.int (e0_2 p1)), .val (.int (e0_3 p2)), .val (.int (e0_4 p3)), .val (.int (1 : Int32)), .val (.ref b62), .val (.int ((((e0_1 p0) + (1 : Int32)) + (1 : Int32)) + (1 : Int32))), .unset] [(.int (e0_4 p3)), (.int ((((e0_1 p0) + (1 : Int32)) + (1 : Int32)) + (1 : Int32)))])) _
              refine st96 _ ?_
              show Steps p.tables e below (T96.setTop (mkF m 152 #[.val (.int p0), .val (.int p1), .val (.int p2), .val (.int p3), .val (.int p4), .val (.int (e0_1 p0)), .val (.int (e0_2 p1)), .val (.int (e0_3 p2)), .val (.int (e0_4 p3)), .val (.int (1 : Int32)), .val (.ref b62), .val (.int ((((e0_1 p0) + (1 : Int32)) + (1 : Int32)) + (1 : Int32))), .unset] [(.int (f7 ((((e0_1 p0) + (1 : Int32)) + (1 : Int32)) + (1 : Int32)) (e0_4 p3)))])) _
              refine XS.goto X96.here hx rfl (pc0 := 152) (pc' := 157) rfl (hb hby at_152) (by decide) (by decide) ?_
              show Steps p.tables e below (T96.setTop (mkF m 157 #[.val (.int p0), .val (.int p1), .val (.int p2), .val (.int p3), .val (.int p4), .val (.int (e0_1 p0)), .val (.int (e0_2 p1)), .val (.int (e0_3 p2)), .val (.int (e0_4 p3)), .val (.int (1 : Int32)), .val (.ref b62), .val (.int ((((e0_1 p0) + (1 : Int32)) + (1 : Int32)) + (1 : Int32))), .unset] [(.int (f7 ((((e0_1 p0) + (1 : Int32)) + (1 : Int32)) + (1 : Int32)) (e0_4 p3)))])) _
              refine XS.istore X96.here hx rfl (hb hby at_157) rfl (l' := #[.val (.int p0), .val (.int p1), .val (.int p2), .val (.int p3), .val (.int p4), .val (.int (e0_1 p0)), .val (.int (e0_2 p1)), .val (.int (e0_3 p2)), .val (.int (e0_4 p3)), .val (.int (1 : Int32)), .val (.ref b62), .val (.int ((((e0_1 p0) + (1 : Int32)) + (1 : Int32)) + (1 : Int32))), .val (.int (e0_5 p0 p3))]) rfl ?_
              show Steps p.tables e below (T96.setTop (mkF m 159 #[.val (.int p0), .val (.int p1), .val (.int p2), .val (.int p3), .val (.int p4), .val (.int (e0_1 p0)), .val (.int (e0_2 p1)), .val (.int (e0_3 p2)), .val (.int (e0_4 p3)), .val (.int (1 : Int32)), .val (.ref b62), .val (.int ((((e0_1 p0) + (1 : Int32)) + (1 : Int32)) + (1 : Int32))), .val (.int (e0_5 p0 p3))] [])) _
              refine XS.aload X96.here hx rfl (hb hby at_159) rfl rfl ?_
              show Steps p.tables e below (T96.setTop (mkF m 161 #[.val (.int p0), .val (.int p1), .val (.int p2), .val (.int p3), .val (.int p4), .val (.int (e0_1 p0)), .val (.int (e0_2 p1)), .val (.int (e0_3 p2)), .val (.int (e0_4 p3)), .val (.int (1 : Int32)), .val (.ref b62), .val (.int ((((e0_1 p0) + (1 : Int32)) + (1 : Int32)) + (1 : Int32))), .val (.int (e0_5 p0 p3))] [(.ref b62)])) _
              refine st97.trans ?_
              show Steps p.tables e below (T97.setTop (mkF m 164 #[.val (.int p0), .val (.int p1), .val (.int p2), .val (.int p3), .val (.int p4), .val (.int (e0_1 p0)), .val (.int (e0_2 p1)), .val (.int (e0_3 p2)), .val (.int (e0_4 p3)), .val (.int (1 : Int32)), .val (.ref b62), .val (.int ((((e0_1 p0) + (1 : Int32)) + (1 : Int32)) + (1 : Int32))), .val (.int (e0_5 p0 p3))] [(.int (f5 (own_upd (own_upd (own_upd (f3_r1_a (e0_1 p0) (own_upd (fun _ => 0) 0 (1 : Int32))) ((e0_2 p1)).toNatClampNeg (1 : Int32)) ((e0_3 p2)).toNatClampNeg (1 : Int32)) ((e0_4 p3)).toNatClampNeg (0 : Int32))))])) _
              refine XS.iload X97.here hx rfl (hb hby at_164) rfl ?_
              exact kt)
          have hd166_101 : (f5 (own_upd (own_upd (own_upd (f3_r1_a (e0_1 p0) (own_upd (fun _ => 0) 0 (1 : Int32))) ((e0_2 p1)).toNatClampNeg (1 : Int32)) ((e0_3 p2)).toNatClampNeg (1 : Int32)) ((e0_4 p3)).toNatClampNeg (0 : Int32))) = (e0_5 p0 p3) := by have q0 := hc104_83; rw [← Int32.toInt_inj] at q0; have q1 := hc124_85; rw [← Int32.toInt_inj] at q1; have q2 := hc131_94; rw [← Int32.toInt_inj] at q2; have s1 := c_iadd (e0_1 p0) 1; have r1 := rng32 ((e0_1 p0) + 1); have s2 := c_iadd ((e0_1 p0) + 1) 1; have r2 := rng32 ((e0_1 p0) + 1 + 1); have s3 := c_iadd ((e0_1 p0) + 1 + 1) 1; have r3 := rng32 ((e0_1 p0) + 1 + 1 + 1); have e1 : (1 : Int32).toInt = 1 := (by decide); rw [e1] at s1 s2 s3; have hk : 0 ≤ (e0_1 p0).toInt ∧ (e0_1 p0).toInt ≤ 19 := own_b p0; have ha : 0 ≤ (e0_2 p1).toInt ∧ (e0_2 p1).toInt ≤ 19 := own_b p1; have hb : 0 ≤ (e0_3 p2).toInt ∧ (e0_3 p2).toInt ≤ 19 := own_b p2; exact own_fin1 (M := ((((e0_1 p0) + (1 : Int32)) + (1 : Int32)) + (1 : Int32))) hk ha hb (own_c p3) (by unfold own_mm; repeat' split; all_goals omega)
          obtain ⟨fs, hr, hrun, hended, hW, hsame⟩ := X97.leave (v := some (.int (1 : Int32))) (fun h => by rw [Bd.returns] at h; cases h)
          have hv153 : (1 : Int32) = (1 : Int32) := rfl
          refine ⟨_, _, pre100 _ ?_, hrun, hended, _, _, rfl, ?_, ⟨_, rfl⟩, hW, hsame.mono (by decide) (by decide)⟩
          · show Steps p.tables e below (T97.setTop (mkF m 166 #[.val (.int p0), .val (.int p1), .val (.int p2), .val (.int p3), .val (.int p4), .val (.int (e0_1 p0)), .val (.int (e0_2 p1)), .val (.int (e0_3 p2)), .val (.int (e0_4 p3)), .val (.int (1 : Int32)), .val (.ref b62), .val (.int ((((e0_1 p0) + (1 : Int32)) + (1 : Int32)) + (1 : Int32))), .val (.int (e0_5 p0 p3))] [(.int (e0_5 p0 p3)), (.int (f5 (own_upd (own_upd (own_upd (f3_r1_a (e0_1 p0) (own_upd (fun _ => 0) 0 (1 : Int32))) ((e0_2 p1)).toNatClampNeg (1 : Int32)) ((e0_3 p2)).toNatClampNeg (1 : Int32)) ((e0_4 p3)).toNatClampNeg (0 : Int32))))])) _
            refine XS.icmpNo X97.here hx rfl (hb hby at_166) rfl (teq hd166_101).2 ?_
            show Steps p.tables e below (T97.setTop (mkF m 169 #[.val (.int p0), .val (.int p1), .val (.int p2), .val (.int p3), .val (.int p4), .val (.int (e0_1 p0)), .val (.int (e0_2 p1)), .val (.int (e0_3 p2)), .val (.int (e0_4 p3)), .val (.int (1 : Int32)), .val (.ref b62), .val (.int ((((e0_1 p0) + (1 : Int32)) + (1 : Int32)) + (1 : Int32))), .val (.int (e0_5 p0 p3))] [])) _
            refine XS.iconst X97.here hx rfl (hb hby at_169) ?_
            show Steps p.tables e below (T97.setTop (mkF m 170 #[.val (.int p0), .val (.int p1), .val (.int p2), .val (.int p3), .val (.int p4), .val (.int (e0_1 p0)), .val (.int (e0_2 p1)), .val (.int (e0_3 p2)), .val (.int (e0_4 p3)), .val (.int (1 : Int32)), .val (.ref b62), .val (.int ((((e0_1 p0) + (1 : Int32)) + (1 : Int32)) + (1 : Int32))), .val (.int (e0_5 p0 p3))] [(.int (1 : Int32))])) _
            refine XS.goto X97.here hx rfl (pc0 := 170) (pc' := 174) rfl (hb hby at_170) (by decide) (by decide) ?_
            show Steps p.tables e below (T97.setTop (mkF m 174 #[.val (.int p0), .val (.int p1), .val (.int p2), .val (.int p3), .val (.int p4), .val (.int (e0_1 p0)), .val (.int (e0_2 p1)), .val (.int (e0_3 p2)), .val (.int (e0_4 p3)), .val (.int (1 : Int32)), .val (.ref b62), .val (.int ((((e0_1 p0) + (1 : Int32)) + (1 : Int32)) + (1 : Int32))), .val (.int (e0_5 p0 p3))] [(.int (1 : Int32))])) _
            exact retN X97 hx (t := .boolean) Bd.returns (by simp) (hb hby at_174) hr
          · show Q0 Z p0 p1 p2 p3 p4 h0 n0 _ T97.heap _
            rw [e97q]
            exact ⟨congrArg (fun q => some (Value.int q)) hv153, N97⟩
        · have pre102 : ∀ t, Steps p.tables e below (T79.setTop (mkF m 142 #[.val (.int p0), .val (.int p1), .val (.int p2), .val (.int p3), .val (.int p4), .val (.int (e0_1 p0)), .val (.int (e0_2 p1)), .val (.int (e0_3 p2)), .val (.int (e0_4 p3)), .val (.int (1 : Int32)), .val (.ref b62), .val (.int (((e0_1 p0) + (1 : Int32)) + (1 : Int32))), .unset] [(.int (1 : Int32))])) t → Steps p.tables e below (s₁.setTop (entryFrame m #[(.int p0), (.int p1), (.int p2), (.int p3), (.int p4)] maxLocals)) t := fun t kt => pre93 t (by
              show Steps p.tables e below (T79.setTop (mkF m 131 #[.val (.int p0), .val (.int p1), .val (.int p2), .val (.int p3), .val (.int p4), .val (.int (e0_1 p0)), .val (.int (e0_2 p1)), .val (.int (e0_3 p2)), .val (.int (e0_4 p3)), .val (.int (1 : Int32)), .val (.ref b62), .val (.int (((e0_1 p0) + (1 : Int32)) + (1 : Int32))), .unset] [(.int (((e0_1 p0) + (1 : Int32)) + (1 : Int32))), (.int (e0_3 p2))])) _
              refine XS.icmpYes X79.here hx rfl (pc0 := 131) (pc' := 140) rfl (hb hby at_131) rfl (feq hc131_94).2 (by decide) (by decide) ?_
              show Steps p.tables e below (T79.setTop (mkF m 140 #[.val (.int p0), .val (.int p1), .val (.int p2), .val (.int p3), .val (.int p4), .val (.int (e0_1 p0)), .val (.int (e0_2 p1)), .val (.int (e0_3 p2)), .val (.int (e0_4 p3)), .val (.int (1 : Int32)), .val (.ref b62), .val (.int (((e0_1 p0) + (1 : Int32)) + (1 : Int32))), .unset] [])) _
              refine XS.iload X79.here hx rfl (hb hby at_140) rfl ?_
              exact kt)
          obtain ⟨_, _, ⟨T103, L103, k103, n103⟩, -, X103, ⟨Lc103, hQ103, l103, y103, z103⟩, st103⟩ := Jvm.LawKit.callS X79 hx (y := (⟨"java/lang/Math", "min", "(II)I"⟩ : MethodName)) hown (mvT hZ (hw _ (List.mem_of_getElem? (i := 38) rfl))) (mvT hZ (hw _ (List.mem_of_getElem? (i := 39) rfl))) (mvT hZ (hw _ (List.mem_of_getElem? (i := 40) rfl))) (mvT hZ (hw _ (List.mem_of_getElem? (i := 41) rfl))) (by decide) (backOf (W := 0) (rm7 l Z a0 hw [] (((e0_1 p0) + (1 : Int32)) + (1 : Int32)) (e0_4 p3) T79.heap n0 Z81 ) hZ (hw _ (List.mem_of_getElem? (i := 41) rfl)) (hw _ (List.mem_of_getElem? (i := 40) rfl)) (by decide) (by decide)) (g := (mkF m 149 #[.val (.int p0), .val (.int p1), .val (.int p2), .val (.int p3), .val (.int p4), .val (.int (e0_1 p0)), .val (.int (e0_2 p1)), .val (.int (e0_3 p2)), .val (.int (e0_4 p3)), .val (.int (1 : Int32)), .val (.ref b62), .val (.int (((e0_1 p0) + (1 : Int32)) + (1 : Int32))), .unset] [(.int (e0_4 p3)), (.int (((e0_1 p0) + (1 : Int32)) + (1 : Int32)))])) rfl (by rw [hml]; rfl) (argsL := [(.int (((e0_1 p0) + (1 : Int32)) + (1 : Int32))), (.int (e0_4 p3))]) (rest := []) (lenOf pd_0_4 rfl) rfl (by show 2 * 0 + _ ≤ _; exact Nat.le_of_eq rfl) (hb hby at_149) (fun _ _ => ⟨rfl, rfl, (by decide : 4 + 0 ≤ _), (by decide : 63 + 0 ≤ _)⟩)
          dsimp only [Pt.U, Pt.locs, Pt.cells, Pt.slots] at X103 l103 y103 z103 st103 hQ103
          subst l103 y103 z103
          obtain ⟨rfl, N103q, e103q⟩ := hQ103
          have N103 := Fr.app N79 N103q
          have c105 := ((c75.keep K74q (ninS ne_b62_r_o0_open_65 nin0)).keep K79q (ninS ne_b62_r_o0_open_65 nin0))
          have c106 := (((((E_b62.keep K65q).keep K68q).keep K71q).keep K74q).keep K79q)
          obtain ⟨cq104, kq104, q104a, q104b, q104c⟩ := isOf hZ e103q c106
          obtain ⟨_, _, ⟨T104, L104, k104, n104⟩, -, X104, ⟨Lc104, hQ104, l104, y104, z104⟩, st104⟩ := X103.virtualBack hx (y := (⟨"com/example/cardhost/cardhost/LogicalChannels", "lowestClosed", "()I"⟩ : MethodName)) (z := (⟨"com/example/cardhost/cardhost/LogicalChannels", "lowestClosed", "()I"⟩ : MethodName)) hown (mvT hZ (hw _ (List.mem_of_getElem? (i := 28) rfl))) (mvT hZ (hw _ (List.mem_of_getElem? (i := 29) rfl))) (notFace_of_selects (args := #[]) (mvT hZ (hw _ (List.mem_of_getElem? (i := 31) rfl)))) (mvT hZ (hw _ (List.mem_of_getElem? (i := 31) rfl))) (mvT hZ (hw _ (List.mem_of_getElem? (i := 30) rfl))) (by decide) (backOf (W := 0) (rm5 l Z a0 hw [] b62 r_o0_open_65 (own_upd (own_upd (own_upd (f3_r1_a (e0_1 p0) (own_upd (fun _ => 0) 0 (1 : Int32))) ((e0_2 p1)).toNatClampNeg (1 : Int32)) ((e0_3 p2)).toNatClampNeg (1 : Int32)) ((e0_4 p3)).toNatClampNeg (0 : Int32)) T79.heap n0 Z81 c105 G79_0 g_r_o0_open_65) hZ (hw _ (List.mem_of_getElem? (i := 32) rfl)) (hw _ (List.mem_of_getElem? (i := 3) rfl)) (by decide) (by decide)) q104a q104c (g := (mkF m 161 #[.val (.int p0), .val (.int p1), .val (.int p2), .val (.int p3), .val (.int p4), .val (.int (e0_1 p0)), .val (.int (e0_2 p1)), .val (.int (e0_3 p2)), .val (.int (e0_4 p3)), .val (.int (1 : Int32)), .val (.ref b62), .val (.int (((e0_1 p0) + (1 : Int32)) + (1 : Int32))), .val (.int (f7 (((e0_1 p0) + (1 : Int32)) + (1 : Int32)) (e0_4 p3)))] [(.ref b62)])) rfl (by rw [hml]; rfl) (Steps.refl _) (argsL := []) (rest := []) (lenOf pd_0_3 rfl) rfl (by show 2 * 0 + _ ≤ _; exact Nat.le_of_eq rfl) (hb hby at_161) (fun _ _ => ⟨rfl, e103q, (by decide : 4 + 0 ≤ _), (by decide : 63 + 0 ≤ _)⟩)
          dsimp only [Pt.U, Pt.locs, Pt.cells, Pt.slots] at X104 l104 y104 z104 st104 hQ104
          subst l104 y104 z104
          obtain ⟨rfl, N104q, e104q⟩ := hQ104
          have N104 := Fr.app N103 N104q
          have pre107 : ∀ t, Steps p.tables e below (T104.setTop (mkF m 166 #[.val (.int p0), .val (.int p1), .val (.int p2), .val (.int p3), .val (.int p4), .val (.int (e0_1 p0)), .val (.int (e0_2 p1)), .val (.int (e0_3 p2)), .val (.int (e0_4 p3)), .val (.int (1 : Int32)), .val (.ref b62), .val (.int (((e0_1 p0) + (1 : Int32)) + (1 : Int32))), .val (.int (f7 (((e0_1 p0) + (1 : Int32)) + (1 : Int32)) (e0_4 p3)))] [(.int (f7 (((e0_1 p0) + (1 : Int32)) + (1 : Int32)) (e0_4 p3))), (.int (f5 (own_upd (own_upd (own_upd (f3_r1_a (e0_1 p0) (own_upd (fun _ => 0) 0 (1 : Int32))) ((e0_2 p1)).toNatClampNeg (1 : Int32)) ((e0_3 p2)).toNatClampNeg (1 : Int32)) ((e0_4 p3)).toNatClampNeg (0 : Int32))))])) t → Steps p.tables e below (s₁.setTop (entryFrame m #[(.int p0), (.int p1), (.int p2), (.int p3), (.int p4)] maxLocals)) t := fun t kt => pre102 t (by
              show Steps p.tables e below (T79.setTop (mkF m 142 #[.val (.int p0), .val (.int p1), .val (.int p2), .val (.int p3), .val (.int p4), .val (.int (e0_1 p0)), .val (.int (e0_2 p1)), .val (.int (e0_3 p2)), .val (.int (e0_4 p3)), .val (.int (1 : Int32)), .val (.ref b62), .val (.int (((e0_1 p0) + (1 : Int32)) + (1 : Int32))), .unset] [(.int (1 : Int32))])) _
              refine XS.ifNo X79.here hx rfl (hb hby at_142) rfl ((if0 _ _).trans (feq (by decide : ¬ ((1 : Int32) = (0 : Int32)))).1) ?_
              show Steps p.tables e below (T79.setTop (mkF m 145 #[.val (.int p0), .val (.int p1), .val (.int p2), .val (.int p3), .val (.int p4), .val (.int (e0_1 p0)), .val (.int (e0_2 p1)), .val (.int (e0_3 p2)), .val (.int (e0_4 p3)), .val (.int (1 : Int32)), .val (.ref b62), .val (.int (((e0_1 p0) + (1 : Int32)) + (1 : Int32))), .unset] [])) _
              refine XS.iload X79.here hx rfl (hb hby at_145) rfl ?_
              show Steps p.tables e below (T79.setTop (mkF m 147 #[.val (.int p0), .val (.int p1), .val (.int p2), .val (.int p3), .val (.int p4), .val (.int (e0_1 p0)), .val (.int (e0_2 p1)), .val (.int (e0_3 p2)), .val (.int (e0_4 p3)), .val (.int (1 : Int32)), .val (.ref b62), .val (.int (((e0_1 p0) + (1 : Int32)) + (1 : Int32))), .unset] [(.int (((e0_1 p0) + (1 : Int32)) + (1 : Int32)))])) _
              refine XS.iload X79.here hx rfl (hb hby at_147) rfl ?_
              show Steps p.tables e below (T79.setTop (mkF m 149 #[.val (.int p0), .val (.int p1), .val (.int p2), .val (.int p3), .val (.int p4), .val (.int (e0_1 p0)), .val (.int (e0_2 p1)), .val (.int (e0_3 p2)), .val (.int (e0_4 p3)), .val (.int (1 : Int32)), .val (.ref b62), .val (.int (((e0_1 p0) + (1 : Int32)) + (1 : Int32))), .unset] [(.int (e0_4 p3)), (.int (((e0_1 p0) + (1 : Int32)) + (1 : Int32)))])) _
              refine st103 _ ?_
              show Steps p.tables e below (T103.setTop (mkF m 152 #[.val (.int p0), .val (.int p1), .val (.int p2), .val (.int p3), .val (.int p4), .val (.int (e0_1 p0)), .val (.int (e0_2 p1)), .val (.int (e0_3 p2)), .val (.int (e0_4 p3)), .val (.int (1 : Int32)), .val (.ref b62), .val (.int (((e0_1 p0) + (1 : Int32)) + (1 : Int32))), .unset] [(.int (f7 (((e0_1 p0) + (1 : Int32)) + (1 : Int32)) (e0_4 p3)))])) _
              refine XS.goto X103.here hx rfl (pc0 := 152) (pc' := 157) rfl (hb hby at_152) (by decide) (by decide) ?_
              show Steps p.tables e below (T103.setTop (mkF m 157 #[.val (.int p0), .val (.int p1), .val (.int p2), .val (.int p3), .val (.int p4), .val (.int (e0_1 p0)), .val (.int (e0_2 p1)), .val (.int (e0_3 p2)), .val (.int (e0_4 p3)), .val (.int (1 : Int32)), .val (.ref b62), .val (.int (((e0_1 p0) + (1 : Int32)) + (1 : Int32))), .unset] [(.int (f7 (((e0_1 p0) + (1 : Int32)) + (1 : Int32)) (e0_4 p3)))])) _
              refine XS.istore X103.here hx rfl (hb hby at_157) rfl (l' := #[.val (.int p0), .val (.int p1), .val (.int p2), .val (.int p3), .val (.int p4), .val (.int (e0_1 p0)), .val (.int (e0_2 p1)), .val (.int (e0_3 p2)), .val (.int (e0_4 p3)), .val (.int (1 : Int32)), .val (.ref b62), .val (.int (((e0_1 p0) + (1 : Int32)) + (1 : Int32))), .val (.int (f7 (((e0_1 p0) + (1 : Int32)) + (1 : Int32)) (e0_4 p3)))]) rfl ?_
              show Steps p.tables e below (T103.setTop (mkF m 159 #[.val (.int p0), .val (.int p1), .val (.int p2), .val (.int p3), .val (.int p4), .val (.int (e0_1 p0)), .val (.int (e0_2 p1)), .val (.int (e0_3 p2)), .val (.int (e0_4 p3)), .val (.int (1 : Int32)), .val (.ref b62), .val (.int (((e0_1 p0) + (1 : Int32)) + (1 : Int32))), .val (.int (f7 (((e0_1 p0) + (1 : Int32)) + (1 : Int32)) (e0_4 p3)))] [])) _
              refine XS.aload X103.here hx rfl (hb hby at_159) rfl rfl ?_
              show Steps p.tables e below (T103.setTop (mkF m 161 #[.val (.int p0), .val (.int p1), .val (.int p2), .val (.int p3), .val (.int p4), .val (.int (e0_1 p0)), .val (.int (e0_2 p1)), .val (.int (e0_3 p2)), .val (.int (e0_4 p3)), .val (.int (1 : Int32)), .val (.ref b62), .val (.int (((e0_1 p0) + (1 : Int32)) + (1 : Int32))), .val (.int (f7 (((e0_1 p0) + (1 : Int32)) + (1 : Int32)) (e0_4 p3)))] [(.ref b62)])) _
              refine st104.trans ?_
              show Steps p.tables e below (T104.setTop (mkF m 164 #[.val (.int p0), .val (.int p1), .val (.int p2), .val (.int p3), .val (.int p4), .val (.int (e0_1 p0)), .val (.int (e0_2 p1)), .val (.int (e0_3 p2)), .val (.int (e0_4 p3)), .val (.int (1 : Int32)), .val (.ref b62), .val (.int (((e0_1 p0) + (1 : Int32)) + (1 : Int32))), .val (.int (f7 (((e0_1 p0) + (1 : Int32)) + (1 : Int32)) (e0_4 p3)))] [(.int (f5 (own_upd (own_upd (own_upd (f3_r1_a (e0_1 p0) (own_upd (fun _ => 0) 0 (1 : Int32))) ((e0_2 p1)).toNatClampNeg (1 : Int32)) ((e0_3 p2)).toNatClampNeg (1 : Int32)) ((e0_4 p3)).toNatClampNeg (0 : Int32))))])) _
              refine XS.iload X104.here hx rfl (hb hby at_164) rfl ?_
              exact kt)
          have hd166_108 : (f5 (own_upd (own_upd (own_upd (f3_r1_a (e0_1 p0) (own_upd (fun _ => 0) 0 (1 : Int32))) ((e0_2 p1)).toNatClampNeg (1 : Int32)) ((e0_3 p2)).toNatClampNeg (1 : Int32)) ((e0_4 p3)).toNatClampNeg (0 : Int32))) = (f7 (((e0_1 p0) + (1 : Int32)) + (1 : Int32)) (e0_4 p3)) := by have q0 := hc104_83; rw [← Int32.toInt_inj] at q0; have q1 := hc124_85; rw [← Int32.toInt_inj] at q1; have q2 := hc131_94; rw [← Int32.toInt_inj] at q2; have s1 := c_iadd (e0_1 p0) 1; have r1 := rng32 ((e0_1 p0) + 1); have s2 := c_iadd ((e0_1 p0) + 1) 1; have r2 := rng32 ((e0_1 p0) + 1 + 1); have s3 := c_iadd ((e0_1 p0) + 1 + 1) 1; have r3 := rng32 ((e0_1 p0) + 1 + 1 + 1); have e1 : (1 : Int32).toInt = 1 := (by decide); rw [e1] at s1 s2 s3; have hk : 0 ≤ (e0_1 p0).toInt ∧ (e0_1 p0).toInt ≤ 19 := own_b p0; have ha : 0 ≤ (e0_2 p1).toInt ∧ (e0_2 p1).toInt ≤ 19 := own_b p1; have hb : 0 ≤ (e0_3 p2).toInt ∧ (e0_3 p2).toInt ≤ 19 := own_b p2; exact own_fin1 (M := (((e0_1 p0) + (1 : Int32)) + (1 : Int32))) hk ha hb (own_c p3) (by unfold own_mm; repeat' split; all_goals omega)
          obtain ⟨fs, hr, hrun, hended, hW, hsame⟩ := X104.leave (v := some (.int (1 : Int32))) (fun h => by rw [Bd.returns] at h; cases h)
          have hv154 : (1 : Int32) = (1 : Int32) := rfl
          refine ⟨_, _, pre107 _ ?_, hrun, hended, _, _, rfl, ?_, ⟨_, rfl⟩, hW, hsame.mono (by decide) (by decide)⟩
          · show Steps p.tables e below (T104.setTop (mkF m 166 #[.val (.int p0), .val (.int p1), .val (.int p2), .val (.int p3), .val (.int p4), .val (.int (e0_1 p0)), .val (.int (e0_2 p1)), .val (.int (e0_3 p2)), .val (.int (e0_4 p3)), .val (.int (1 : Int32)), .val (.ref b62), .val (.int (((e0_1 p0) + (1 : Int32)) + (1 : Int32))), .val (.int (f7 (((e0_1 p0) + (1 : Int32)) + (1 : Int32)) (e0_4 p3)))] [(.int (f7 (((e0_1 p0) + (1 : Int32)) + (1 : Int32)) (e0_4 p3))), (.int (f5 (own_upd (own_upd (own_upd (f3_r1_a (e0_1 p0) (own_upd (fun _ => 0) 0 (1 : Int32))) ((e0_2 p1)).toNatClampNeg (1 : Int32)) ((e0_3 p2)).toNatClampNeg (1 : Int32)) ((e0_4 p3)).toNatClampNeg (0 : Int32))))])) _
            refine XS.icmpNo X104.here hx rfl (hb hby at_166) rfl (teq hd166_108).2 ?_
            show Steps p.tables e below (T104.setTop (mkF m 169 #[.val (.int p0), .val (.int p1), .val (.int p2), .val (.int p3), .val (.int p4), .val (.int (e0_1 p0)), .val (.int (e0_2 p1)), .val (.int (e0_3 p2)), .val (.int (e0_4 p3)), .val (.int (1 : Int32)), .val (.ref b62), .val (.int (((e0_1 p0) + (1 : Int32)) + (1 : Int32))), .val (.int (f7 (((e0_1 p0) + (1 : Int32)) + (1 : Int32)) (e0_4 p3)))] [])) _
            refine XS.iconst X104.here hx rfl (hb hby at_169) ?_
            show Steps p.tables e below (T104.setTop (mkF m 170 #[.val (.int p0), .val (.int p1), .val (.int p2), .val (.int p3), .val (.int p4), .val (.int (e0_1 p0)), .val (.int (e0_2 p1)), .val (.int (e0_3 p2)), .val (.int (e0_4 p3)), .val (.int (1 : Int32)), .val (.ref b62), .val (.int (((e0_1 p0) + (1 : Int32)) + (1 : Int32))), .val (.int (f7 (((e0_1 p0) + (1 : Int32)) + (1 : Int32)) (e0_4 p3)))] [(.int (1 : Int32))])) _
            refine XS.goto X104.here hx rfl (pc0 := 170) (pc' := 174) rfl (hb hby at_170) (by decide) (by decide) ?_
            show Steps p.tables e below (T104.setTop (mkF m 174 #[.val (.int p0), .val (.int p1), .val (.int p2), .val (.int p3), .val (.int p4), .val (.int (e0_1 p0)), .val (.int (e0_2 p1)), .val (.int (e0_3 p2)), .val (.int (e0_4 p3)), .val (.int (1 : Int32)), .val (.ref b62), .val (.int (((e0_1 p0) + (1 : Int32)) + (1 : Int32))), .val (.int (f7 (((e0_1 p0) + (1 : Int32)) + (1 : Int32)) (e0_4 p3)))] [(.int (1 : Int32))])) _
            exact retN X104 hx (t := .boolean) Bd.returns (by simp) (hb hby at_174) hr
          · show Q0 Z p0 p1 p2 p3 p4 h0 n0 _ T104.heap _
            rw [e104q]
            exact ⟨congrArg (fun q => some (Value.int q)) hv154, N104⟩
    · have pre109 : ∀ t, Steps p.tables e below (T79.setTop (mkF m 111 #[.val (.int p0), .val (.int p1), .val (.int p2), .val (.int p3), .val (.int p4), .val (.int (e0_1 p0)), .val (.int (e0_2 p1)), .val (.int (e0_3 p2)), .val (.int (e0_4 p3)), .val (.int (1 : Int32)), .val (.ref b62), .val (.int ((e0_1 p0) + (1 : Int32))), .unset] [(.int ((e0_1 p0) + (1 : Int32))), (.int (e0_3 p2))])) t → Steps p.tables e below (s₁.setTop (entryFrame m #[(.int p0), (.int p1), (.int p2), (.int p3), (.int p4)] maxLocals)) t := fun t kt => pre82 t (by
          show Steps p.tables e below (T79.setTop (mkF m 104 #[.val (.int p0), .val (.int p1), .val (.int p2), .val (.int p3), .val (.int p4), .val (.int (e0_1 p0)), .val (.int (e0_2 p1)), .val (.int (e0_3 p2)), .val (.int (e0_4 p3)), .val (.int (1 : Int32)), .val (.ref b62), .val (.int ((e0_1 p0) + (1 : Int32))), .unset] [(.int ((e0_1 p0) + (1 : Int32))), (.int (e0_2 p1))])) _
          refine XS.icmpNo X79.here hx rfl (hb hby at_104) rfl (feq hc104_83).1 ?_
          show Steps p.tables e below (T79.setTop (mkF m 107 #[.val (.int p0), .val (.int p1), .val (.int p2), .val (.int p3), .val (.int p4), .val (.int (e0_1 p0)), .val (.int (e0_2 p1)), .val (.int (e0_3 p2)), .val (.int (e0_4 p3)), .val (.int (1 : Int32)), .val (.ref b62), .val (.int ((e0_1 p0) + (1 : Int32))), .unset] [])) _
          refine XS.iload X79.here hx rfl (hb hby at_107) rfl ?_
          show Steps p.tables e below (T79.setTop (mkF m 109 #[.val (.int p0), .val (.int p1), .val (.int p2), .val (.int p3), .val (.int p4), .val (.int (e0_1 p0)), .val (.int (e0_2 p1)), .val (.int (e0_3 p2)), .val (.int (e0_4 p3)), .val (.int (1 : Int32)), .val (.ref b62), .val (.int ((e0_1 p0) + (1 : Int32))), .unset] [(.int (e0_3 p2))])) _
          refine XS.iload X79.here hx rfl (hb hby at_109) rfl ?_
          exact kt)
      by_cases hc111_110 : (e0_3 p2) = ((e0_1 p0) + (1 : Int32))
      · have pre111 : ∀ t, Steps p.tables e below (T79.setTop (mkF m 124 #[.val (.int p0), .val (.int p1), .val (.int p2), .val (.int p3), .val (.int p4), .val (.int (e0_1 p0)), .val (.int (e0_2 p1)), .val (.int (e0_3 p2)), .val (.int (e0_4 p3)), .val (.int (1 : Int32)), .val (.ref b62), .val (.int (((e0_1 p0) + (1 : Int32)) + (1 : Int32))), .unset] [(.int (((e0_1 p0) + (1 : Int32)) + (1 : Int32))), (.int (e0_2 p1))])) t → Steps p.tables e below (s₁.setTop (entryFrame m #[(.int p0), (.int p1), (.int p2), (.int p3), (.int p4)] maxLocals)) t := fun t kt => pre109 t (by
            show Steps p.tables e below (T79.setTop (mkF m 111 #[.val (.int p0), .val (.int p1), .val (.int p2), .val (.int p3), .val (.int p4), .val (.int (e0_1 p0)), .val (.int (e0_2 p1)), .val (.int (e0_3 p2)), .val (.int (e0_4 p3)), .val (.int (1 : Int32)), .val (.ref b62), .val (.int ((e0_1 p0) + (1 : Int32))), .unset] [(.int ((e0_1 p0) + (1 : Int32))), (.int (e0_3 p2))])) _
            refine XS.icmpNo X79.here hx rfl (hb hby at_111) rfl (teq hc111_110).2 ?_
            show Steps p.tables e below (T79.setTop (mkF m 114 #[.val (.int p0), .val (.int p1), .val (.int p2), .val (.int p3), .val (.int p4), .val (.int (e0_1 p0)), .val (.int (e0_2 p1)), .val (.int (e0_3 p2)), .val (.int (e0_4 p3)), .val (.int (1 : Int32)), .val (.ref b62), .val (.int ((e0_1 p0) + (1 : Int32))), .unset] [])) _
            refine XS.iload X79.here hx rfl (hb hby at_114) rfl ?_
            show Steps p.tables e below (T79.setTop (mkF m 116 #[.val (.int p0), .val (.int p1), .val (.int p2), .val (.int p3), .val (.int p4), .val (.int (e0_1 p0)), .val (.int (e0_2 p1)), .val (.int (e0_3 p2)), .val (.int (e0_4 p3)), .val (.int (1 : Int32)), .val (.ref b62), .val (.int ((e0_1 p0) + (1 : Int32))), .unset] [(.int ((e0_1 p0) + (1 : Int32)))])) _
            refine XS.iconst X79.here hx rfl (hb hby at_116) ?_
            show Steps p.tables e below (T79.setTop (mkF m 117 #[.val (.int p0), .val (.int p1), .val (.int p2), .val (.int p3), .val (.int p4), .val (.int (e0_1 p0)), .val (.int (e0_2 p1)), .val (.int (e0_3 p2)), .val (.int (e0_4 p3)), .val (.int (1 : Int32)), .val (.ref b62), .val (.int ((e0_1 p0) + (1 : Int32))), .unset] [(.int (1 : Int32)), (.int ((e0_1 p0) + (1 : Int32)))])) _
            refine XS.iadd X79.here hx rfl (hb hby at_117) rfl ?_
            show Steps p.tables e below (T79.setTop (mkF m 118 #[.val (.int p0), .val (.int p1), .val (.int p2), .val (.int p3), .val (.int p4), .val (.int (e0_1 p0)), .val (.int (e0_2 p1)), .val (.int (e0_3 p2)), .val (.int (e0_4 p3)), .val (.int (1 : Int32)), .val (.ref b62), .val (.int ((e0_1 p0) + (1 : Int32))), .unset] [(.int (((e0_1 p0) + (1 : Int32)) + (1 : Int32)))])) _
            refine XS.istore X79.here hx rfl (hb hby at_118) rfl (l' := #[.val (.int p0), .val (.int p1), .val (.int p2), .val (.int p3), .val (.int p4), .val (.int (e0_1 p0)), .val (.int (e0_2 p1)), .val (.int (e0_3 p2)), .val (.int (e0_4 p3)), .val (.int (1 : Int32)), .val (.ref b62), .val (.int (((e0_1 p0) + (1 : Int32)) + (1 : Int32))), .unset]) rfl ?_
            show Steps p.tables e below (T79.setTop (mkF m 120 #[.val (.int p0), .val (.int p1), .val (.int p2), .val (.int p3), .val (.int p4), .val (.int (e0_1 p0)), .val (.int (e0_2 p1)), .val (.int (e0_3 p2)), .val (.int (e0_4 p3)), .val (.int (1 : Int32)), .val (.ref b62), .val (.int (((e0_1 p0) + (1 : Int32)) + (1 : Int32))), .unset] [])) _
            refine XS.iload X79.here hx rfl (hb hby at_120) rfl ?_
            show Steps p.tables e below (T79.setTop (mkF m 122 #[.val (.int p0), .val (.int p1), .val (.int p2), .val (.int p3), .val (.int p4), .val (.int (e0_1 p0)), .val (.int (e0_2 p1)), .val (.int (e0_3 p2)), .val (.int (e0_4 p3)), .val (.int (1 : Int32)), .val (.ref b62), .val (.int (((e0_1 p0) + (1 : Int32)) + (1 : Int32))), .unset] [(.int (e0_2 p1))])) _
            refine XS.iload X79.here hx rfl (hb hby at_122) rfl ?_
            exact kt)
        by_cases hc124_112 : (e0_2 p1) = (((e0_1 p0) + (1 : Int32)) + (1 : Int32))
        · have pre113 : ∀ t, Steps p.tables e below (T79.setTop (mkF m 142 #[.val (.int p0), .val (.int p1), .val (.int p2), .val (.int p3), .val (.int p4), .val (.int (e0_1 p0)), .val (.int (e0_2 p1)), .val (.int (e0_3 p2)), .val (.int (e0_4 p3)), .val (.int (1 : Int32)), .val (.ref b62), .val (.int ((((e0_1 p0) + (1 : Int32)) + (1 : Int32)) + (1 : Int32))), .unset] [(.int (1 : Int32))])) t → Steps p.tables e below (s₁.setTop (entryFrame m #[(.int p0), (.int p1), (.int p2), (.int p3), (.int p4)] maxLocals)) t := fun t kt => pre111 t (by
              show Steps p.tables e below (T79.setTop (mkF m 124 #[.val (.int p0), .val (.int p1), .val (.int p2), .val (.int p3), .val (.int p4), .val (.int (e0_1 p0)), .val (.int (e0_2 p1)), .val (.int (e0_3 p2)), .val (.int (e0_4 p3)), .val (.int (1 : Int32)), .val (.ref b62), .val (.int (((e0_1 p0) + (1 : Int32)) + (1 : Int32))), .unset] [(.int (((e0_1 p0) + (1 : Int32)) + (1 : Int32))), (.int (e0_2 p1))])) _
              refine XS.icmpYes X79.here hx rfl (pc0 := 124) (pc' := 134) rfl (hb hby at_124) rfl (teq hc124_112).1 (by decide) (by decide) ?_
              show Steps p.tables e below (T79.setTop (mkF m 134 #[.val (.int p0), .val (.int p1), .val (.int p2), .val (.int p3), .val (.int p4), .val (.int (e0_1 p0)), .val (.int (e0_2 p1)), .val (.int (e0_3 p2)), .val (.int (e0_4 p3)), .val (.int (1 : Int32)), .val (.ref b62), .val (.int (((e0_1 p0) + (1 : Int32)) + (1 : Int32))), .unset] [])) _
              refine XS.iload X79.here hx rfl (hb hby at_134) rfl ?_
              show Steps p.tables e below (T79.setTop (mkF m 136 #[.val (.int p0), .val (.int p1), .val (.int p2), .val (.int p3), .val (.int p4), .val (.int (e0_1 p0)), .val (.int (e0_2 p1)), .val (.int (e0_3 p2)), .val (.int (e0_4 p3)), .val (.int (1 : Int32)), .val (.ref b62), .val (.int (((e0_1 p0) + (1 : Int32)) + (1 : Int32))), .unset] [(.int (((e0_1 p0) + (1 : Int32)) + (1 : Int32)))])) _
              refine XS.iconst X79.here hx rfl (hb hby at_136) ?_
              show Steps p.tables e below (T79.setTop (mkF m 137 #[.val (.int p0), .val (.int p1), .val (.int p2), .val (.int p3), .val (.int p4), .val (.int (e0_1 p0)), .val (.int (e0_2 p1)), .val (.int (e0_3 p2)), .val (.int (e0_4 p3)), .val (.int (1 : Int32)), .val (.ref b62), .val (.int (((e0_1 p0) + (1 : Int32)) + (1 : Int32))), .unset] [(.int (1 : Int32)), (.int (((e0_1 p0) + (1 : Int32)) + (1 : Int32)))])) _
              refine XS.iadd X79.here hx rfl (hb hby at_137) rfl ?_
              show Steps p.tables e below (T79.setTop (mkF m 138 #[.val (.int p0), .val (.int p1), .val (.int p2), .val (.int p3), .val (.int p4), .val (.int (e0_1 p0)), .val (.int (e0_2 p1)), .val (.int (e0_3 p2)), .val (.int (e0_4 p3)), .val (.int (1 : Int32)), .val (.ref b62), .val (.int (((e0_1 p0) + (1 : Int32)) + (1 : Int32))), .unset] [(.int ((((e0_1 p0) + (1 : Int32)) + (1 : Int32)) + (1 : Int32)))])) _
              refine XS.istore X79.here hx rfl (hb hby at_138) rfl (l' := #[.val (.int p0), .val (.int p1), .val (.int p2), .val (.int p3), .val (.int p4), .val (.int (e0_1 p0)), .val (.int (e0_2 p1)), .val (.int (e0_3 p2)), .val (.int (e0_4 p3)), .val (.int (1 : Int32)), .val (.ref b62), .val (.int ((((e0_1 p0) + (1 : Int32)) + (1 : Int32)) + (1 : Int32))), .unset]) rfl ?_
              show Steps p.tables e below (T79.setTop (mkF m 140 #[.val (.int p0), .val (.int p1), .val (.int p2), .val (.int p3), .val (.int p4), .val (.int (e0_1 p0)), .val (.int (e0_2 p1)), .val (.int (e0_3 p2)), .val (.int (e0_4 p3)), .val (.int (1 : Int32)), .val (.ref b62), .val (.int ((((e0_1 p0) + (1 : Int32)) + (1 : Int32)) + (1 : Int32))), .unset] [])) _
              refine XS.iload X79.here hx rfl (hb hby at_140) rfl ?_
              exact kt)
          obtain ⟨_, _, ⟨T114, L114, k114, n114⟩, -, X114, ⟨Lc114, hQ114, l114, y114, z114⟩, st114⟩ := Jvm.LawKit.callS X79 hx (y := (⟨"java/lang/Math", "min", "(II)I"⟩ : MethodName)) hown (mvT hZ (hw _ (List.mem_of_getElem? (i := 38) rfl))) (mvT hZ (hw _ (List.mem_of_getElem? (i := 39) rfl))) (mvT hZ (hw _ (List.mem_of_getElem? (i := 40) rfl))) (mvT hZ (hw _ (List.mem_of_getElem? (i := 41) rfl))) (by decide) (backOf (W := 0) (rm7 l Z a0 hw [] ((((e0_1 p0) + (1 : Int32)) + (1 : Int32)) + (1 : Int32)) (e0_4 p3) T79.heap n0 Z81 ) hZ (hw _ (List.mem_of_getElem? (i := 41) rfl)) (hw _ (List.mem_of_getElem? (i := 40) rfl)) (by decide) (by decide)) (g := (mkF m 149 #[.val (.int p0), .val (.int p1), .val (.int p2), .val (.int p3), .val (.int p4), .val (.int (e0_1 p0)), .val (.int (e0_2 p1)), .val (.int (e0_3 p2)), .val (.int (e0_4 p3)), .val (.int (1 : Int32)), .val (.ref b62), .val (.int ((((e0_1 p0) + (1 : Int32)) + (1 : Int32)) + (1 : Int32))), .unset] [(.int (e0_4 p3)), (.int ((((e0_1 p0) + (1 : Int32)) + (1 : Int32)) + (1 : Int32)))])) rfl (by rw [hml]; rfl) (argsL := [(.int ((((e0_1 p0) + (1 : Int32)) + (1 : Int32)) + (1 : Int32))), (.int (e0_4 p3))]) (rest := []) (lenOf pd_0_4 rfl) rfl (by show 2 * 0 + _ ≤ _; exact Nat.le_of_eq rfl) (hb hby at_149) (fun _ _ => ⟨rfl, rfl, (by decide : 4 + 0 ≤ _), (by decide : 63 + 0 ≤ _)⟩)
          dsimp only [Pt.U, Pt.locs, Pt.cells, Pt.slots] at X114 l114 y114 z114 st114 hQ114
          subst l114 y114 z114
          obtain ⟨rfl, N114q, e114q⟩ := hQ114
          have N114 := Fr.app N79 N114q
          have c116 := ((c75.keep K74q (ninS ne_b62_r_o0_open_65 nin0)).keep K79q (ninS ne_b62_r_o0_open_65 nin0))
          have c117 := (((((E_b62.keep K65q).keep K68q).keep K71q).keep K74q).keep K79q)
          obtain ⟨cq115, kq115, q115a, q115b, q115c⟩ := isOf hZ e114q c117
          obtain ⟨_, _, ⟨T115, L115, k115, n115⟩, -, X115, ⟨Lc115, hQ115, l115, y115, z115⟩, st115⟩ := X114.virtualBack hx (y := (⟨"com/example/cardhost/cardhost/LogicalChannels", "lowestClosed", "()I"⟩ : MethodName)) (z := (⟨"com/example/cardhost/cardhost/LogicalChannels", "lowestClosed", "()I"⟩ : MethodName)) hown (mvT hZ (hw _ (List.mem_of_getElem? (i := 28) rfl))) (mvT hZ (hw _ (List.mem_of_getElem? (i := 29) rfl))) (notFace_of_selects (args := #[]) (mvT hZ (hw _ (List.mem_of_getElem? (i := 31) rfl)))) (mvT hZ (hw _ (List.mem_of_getElem? (i := 31) rfl))) (mvT hZ (hw _ (List.mem_of_getElem? (i := 30) rfl))) (by decide) (backOf (W := 0) (rm5 l Z a0 hw [] b62 r_o0_open_65 (own_upd (own_upd (own_upd (f3_r1_a (e0_1 p0) (own_upd (fun _ => 0) 0 (1 : Int32))) ((e0_2 p1)).toNatClampNeg (1 : Int32)) ((e0_3 p2)).toNatClampNeg (1 : Int32)) ((e0_4 p3)).toNatClampNeg (0 : Int32)) T79.heap n0 Z81 c116 G79_0 g_r_o0_open_65) hZ (hw _ (List.mem_of_getElem? (i := 32) rfl)) (hw _ (List.mem_of_getElem? (i := 3) rfl)) (by decide) (by decide)) q115a q115c (g := (mkF m 161 #[.val (.int p0), .val (.int p1), .val (.int p2), .val (.int p3), .val (.int p4), .val (.int (e0_1 p0)), .val (.int (e0_2 p1)), .val (.int (e0_3 p2)), .val (.int (e0_4 p3)), .val (.int (1 : Int32)), .val (.ref b62), .val (.int ((((e0_1 p0) + (1 : Int32)) + (1 : Int32)) + (1 : Int32))), .val (.int (e0_5 p0 p3))] [(.ref b62)])) rfl (by rw [hml]; rfl) (Steps.refl _) (argsL := []) (rest := []) (lenOf pd_0_3 rfl) rfl (by show 2 * 0 + _ ≤ _; exact Nat.le_of_eq rfl) (hb hby at_161) (fun _ _ => ⟨rfl, e114q, (by decide : 4 + 0 ≤ _), (by decide : 63 + 0 ≤ _)⟩)
          dsimp only [Pt.U, Pt.locs, Pt.cells, Pt.slots] at X115 l115 y115 z115 st115 hQ115
          subst l115 y115 z115
          obtain ⟨rfl, N115q, e115q⟩ := hQ115
          have N115 := Fr.app N114 N115q
          have pre118 : ∀ t, Steps p.tables e below (T115.setTop (mkF m 166 #[.val (.int p0), .val (.int p1), .val (.int p2), .val (.int p3), .val (.int p4), .val (.int (e0_1 p0)), .val (.int (e0_2 p1)), .val (.int (e0_3 p2)), .val (.int (e0_4 p3)), .val (.int (1 : Int32)), .val (.ref b62), .val (.int ((((e0_1 p0) + (1 : Int32)) + (1 : Int32)) + (1 : Int32))), .val (.int (e0_5 p0 p3))] [(.int (e0_5 p0 p3)), (.int (f5 (own_upd (own_upd (own_upd (f3_r1_a (e0_1 p0) (own_upd (fun _ => 0) 0 (1 : Int32))) ((e0_2 p1)).toNatClampNeg (1 : Int32)) ((e0_3 p2)).toNatClampNeg (1 : Int32)) ((e0_4 p3)).toNatClampNeg (0 : Int32))))])) t → Steps p.tables e below (s₁.setTop (entryFrame m #[(.int p0), (.int p1), (.int p2), (.int p3), (.int p4)] maxLocals)) t := fun t kt => pre113 t (by
              show Steps p.tables e below (T79.setTop (mkF m 142 #[.val (.int p0), .val (.int p1), .val (.int p2), .val (.int p3), .val (.int p4), .val (.int (e0_1 p0)), .val (.int (e0_2 p1)), .val (.int (e0_3 p2)), .val (.int (e0_4 p3)), .val (.int (1 : Int32)), .val (.ref b62), .val (.int ((((e0_1 p0) + (1 : Int32)) + (1 : Int32)) + (1 : Int32))), .unset] [(.int (1 : Int32))])) _
              refine XS.ifNo X79.here hx rfl (hb hby at_142) rfl ((if0 _ _).trans (feq (by decide : ¬ ((1 : Int32) = (0 : Int32)))).1) ?_
              show Steps p.tables e below (T79.setTop (mkF m 145 #[.val (.int p0), .val (.int p1), .val (.int p2), .val (.int p3), .val (.int p4), .val (.int (e0_1 p0)), .val (.int (e0_2 p1)), .val (.int (e0_3 p2)), .val (.int (e0_4 p3)), .val (.int (1 : Int32)), .val (.ref b62), .val (.int ((((e0_1 p0) + (1 : Int32)) + (1 : Int32)) + (1 : Int32))), .unset] [])) _
              refine XS.iload X79.here hx rfl (hb hby at_145) rfl ?_
              show Steps p.tables e below (T79.setTop (mkF m 147 #[.val (.int p0), .val (.int p1), .val (.int p2), .val (.int p3), .val (.int p4), .val (.int (e0_1 p0)), .val (.int (e0_2 p1)), .val (.int (e0_3 p2)), .val (.int (e0_4 p3)), .val (.int (1 : Int32)), .val (.ref b62), .val (.int ((((e0_1 p0) + (1 : Int32)) + (1 : Int32)) + (1 : Int32))), .unset] [(.int ((((e0_1 p0) + (1 : Int32)) + (1 : Int32)) + (1 : Int32)))])) _
              refine XS.iload X79.here hx rfl (hb hby at_147) rfl ?_
              show Steps p.tables e below (T79.setTop (mkF m 149 #[.val (.int p0), .val (.int p1), .val (.int p2), .val (.int p3), .val (.int p4), .val (.int (e0_1 p0)), .val (.int (e0_2 p1)), .val (.int (e0_3 p2)), .val (.int (e0_4 p3)), .val (.int (1 : Int32)), .val (.ref b62), .val (.int ((((e0_1 p0) + (1 : Int32)) + (1 : Int32)) + (1 : Int32))), .unset] [(.int (e0_4 p3)), (.int ((((e0_1 p0) + (1 : Int32)) + (1 : Int32)) + (1 : Int32)))])) _
              refine st114 _ ?_
              show Steps p.tables e below (T114.setTop (mkF m 152 #[.val (.int p0), .val (.int p1), .val (.int p2), .val (.int p3), .val (.int p4), .val (.int (e0_1 p0)), .val (.int (e0_2 p1)), .val (.int (e0_3 p2)), .val (.int (e0_4 p3)), .val (.int (1 : Int32)), .val (.ref b62), .val (.int ((((e0_1 p0) + (1 : Int32)) + (1 : Int32)) + (1 : Int32))), .unset] [(.int (f7 ((((e0_1 p0) + (1 : Int32)) + (1 : Int32)) + (1 : Int32)) (e0_4 p3)))])) _
              refine XS.goto X114.here hx rfl (pc0 := 152) (pc' := 157) rfl (hb hby at_152) (by decide) (by decide) ?_
              show Steps p.tables e below (T114.setTop (mkF m 157 #[.val (.int p0), .val (.int p1), .val (.int p2), .val (.int p3), .val (.int p4), .val (.int (e0_1 p0)), .val (.int (e0_2 p1)), .val (.int (e0_3 p2)), .val (.int (e0_4 p3)), .val (.int (1 : Int32)), .val (.ref b62), .val (.int ((((e0_1 p0) + (1 : Int32)) + (1 : Int32)) + (1 : Int32))), .unset] [(.int (f7 ((((e0_1 p0) + (1 : Int32)) + (1 : Int32)) + (1 : Int32)) (e0_4 p3)))])) _
              refine XS.istore X114.here hx rfl (hb hby at_157) rfl (l' := #[.val (.int p0), .val (.int p1), .val (.int p2), .val (.int p3), .val (.int p4), .val (.int (e0_1 p0)), .val (.int (e0_2 p1)), .val (.int (e0_3 p2)), .val (.int (e0_4 p3)), .val (.int (1 : Int32)), .val (.ref b62), .val (.int ((((e0_1 p0) + (1 : Int32)) + (1 : Int32)) + (1 : Int32))), .val (.int (e0_5 p0 p3))]) rfl ?_
              show Steps p.tables e below (T114.setTop (mkF m 159 #[.val (.int p0), .val (.int p1), .val (.int p2), .val (.int p3), .val (.int p4), .val (.int (e0_1 p0)), .val (.int (e0_2 p1)), .val (.int (e0_3 p2)), .val (.int (e0_4 p3)), .val (.int (1 : Int32)), .val (.ref b62), .val (.int ((((e0_1 p0) + (1 : Int32)) + (1 : Int32)) + (1 : Int32))), .val (.int (e0_5 p0 p3))] [])) _
              refine XS.aload X114.here hx rfl (hb hby at_159) rfl rfl ?_
              show Steps p.tables e below (T114.setTop (mkF m 161 #[.val (.int p0), .val (.int p1), .val (.int p2), .val (.int p3), .val (.int p4), .val (.int (e0_1 p0)), .val (.int (e0_2 p1)), .val (.int (e0_3 p2)), .val (.int (e0_4 p3)), .val (.int (1 : Int32)), .val (.ref b62), .val (.int ((((e0_1 p0) + (1 : Int32)) + (1 : Int32)) + (1 : Int32))), .val (.int (e0_5 p0 p3))] [(.ref b62)])) _
              refine st115.trans ?_
              show Steps p.tables e below (T115.setTop (mkF m 164 #[.val (.int p0), .val (.int p1), .val (.int p2), .val (.int p3), .val (.int p4), .val (.int (e0_1 p0)), .val (.int (e0_2 p1)), .val (.int (e0_3 p2)), .val (.int (e0_4 p3)), .val (.int (1 : Int32)), .val (.ref b62), .val (.int ((((e0_1 p0) + (1 : Int32)) + (1 : Int32)) + (1 : Int32))), .val (.int (e0_5 p0 p3))] [(.int (f5 (own_upd (own_upd (own_upd (f3_r1_a (e0_1 p0) (own_upd (fun _ => 0) 0 (1 : Int32))) ((e0_2 p1)).toNatClampNeg (1 : Int32)) ((e0_3 p2)).toNatClampNeg (1 : Int32)) ((e0_4 p3)).toNatClampNeg (0 : Int32))))])) _
              refine XS.iload X115.here hx rfl (hb hby at_164) rfl ?_
              exact kt)
          have hd166_119 : (f5 (own_upd (own_upd (own_upd (f3_r1_a (e0_1 p0) (own_upd (fun _ => 0) 0 (1 : Int32))) ((e0_2 p1)).toNatClampNeg (1 : Int32)) ((e0_3 p2)).toNatClampNeg (1 : Int32)) ((e0_4 p3)).toNatClampNeg (0 : Int32))) = (e0_5 p0 p3) := by have q0 := hc104_83; rw [← Int32.toInt_inj] at q0; have q1 := hc111_110; rw [← Int32.toInt_inj] at q1; have q2 := hc124_112; rw [← Int32.toInt_inj] at q2; have s1 := c_iadd (e0_1 p0) 1; have r1 := rng32 ((e0_1 p0) + 1); have s2 := c_iadd ((e0_1 p0) + 1) 1; have r2 := rng32 ((e0_1 p0) + 1 + 1); have s3 := c_iadd ((e0_1 p0) + 1 + 1) 1; have r3 := rng32 ((e0_1 p0) + 1 + 1 + 1); have e1 : (1 : Int32).toInt = 1 := (by decide); rw [e1] at s1 s2 s3; have hk : 0 ≤ (e0_1 p0).toInt ∧ (e0_1 p0).toInt ≤ 19 := own_b p0; have ha : 0 ≤ (e0_2 p1).toInt ∧ (e0_2 p1).toInt ≤ 19 := own_b p1; have hb : 0 ≤ (e0_3 p2).toInt ∧ (e0_3 p2).toInt ≤ 19 := own_b p2; exact own_fin1 (M := ((((e0_1 p0) + (1 : Int32)) + (1 : Int32)) + (1 : Int32))) hk ha hb (own_c p3) (by unfold own_mm; repeat' split; all_goals omega)
          obtain ⟨fs, hr, hrun, hended, hW, hsame⟩ := X115.leave (v := some (.int (1 : Int32))) (fun h => by rw [Bd.returns] at h; cases h)
          have hv155 : (1 : Int32) = (1 : Int32) := rfl
          refine ⟨_, _, pre118 _ ?_, hrun, hended, _, _, rfl, ?_, ⟨_, rfl⟩, hW, hsame.mono (by decide) (by decide)⟩
          · show Steps p.tables e below (T115.setTop (mkF m 166 #[.val (.int p0), .val (.int p1), .val (.int p2), .val (.int p3), .val (.int p4), .val (.int (e0_1 p0)), .val (.int (e0_2 p1)), .val (.int (e0_3 p2)), .val (.int (e0_4 p3)), .val (.int (1 : Int32)), .val (.ref b62), .val (.int ((((e0_1 p0) + (1 : Int32)) + (1 : Int32)) + (1 : Int32))), .val (.int (e0_5 p0 p3))] [(.int (e0_5 p0 p3)), (.int (f5 (own_upd (own_upd (own_upd (f3_r1_a (e0_1 p0) (own_upd (fun _ => 0) 0 (1 : Int32))) ((e0_2 p1)).toNatClampNeg (1 : Int32)) ((e0_3 p2)).toNatClampNeg (1 : Int32)) ((e0_4 p3)).toNatClampNeg (0 : Int32))))])) _
            refine XS.icmpNo X115.here hx rfl (hb hby at_166) rfl (teq hd166_119).2 ?_
            show Steps p.tables e below (T115.setTop (mkF m 169 #[.val (.int p0), .val (.int p1), .val (.int p2), .val (.int p3), .val (.int p4), .val (.int (e0_1 p0)), .val (.int (e0_2 p1)), .val (.int (e0_3 p2)), .val (.int (e0_4 p3)), .val (.int (1 : Int32)), .val (.ref b62), .val (.int ((((e0_1 p0) + (1 : Int32)) + (1 : Int32)) + (1 : Int32))), .val (.int (e0_5 p0 p3))] [])) _
            refine XS.iconst X115.here hx rfl (hb hby at_169) ?_
            show Steps p.tables e below (T115.setTop (mkF m 170 #[.val (.int p0), .val (.int p1), .val (.int p2), .val (.int p3), .val (.int p4), .val (.int (e0_1 p0)), .val (.int (e0_2 p1)), .val (.int (e0_3 p2)), .val (.int (e0_4 p3)), .val (.int (1 : Int32)), .val (.ref b62), .val (.int ((((e0_1 p0) + (1 : Int32)) + (1 : Int32)) + (1 : Int32))), .val (.int (e0_5 p0 p3))] [(.int (1 : Int32))])) _
            refine XS.goto X115.here hx rfl (pc0 := 170) (pc' := 174) rfl (hb hby at_170) (by decide) (by decide) ?_
            show Steps p.tables e below (T115.setTop (mkF m 174 #[.val (.int p0), .val (.int p1), .val (.int p2), .val (.int p3), .val (.int p4), .val (.int (e0_1 p0)), .val (.int (e0_2 p1)), .val (.int (e0_3 p2)), .val (.int (e0_4 p3)), .val (.int (1 : Int32)), .val (.ref b62), .val (.int ((((e0_1 p0) + (1 : Int32)) + (1 : Int32)) + (1 : Int32))), .val (.int (e0_5 p0 p3))] [(.int (1 : Int32))])) _
            exact retN X115 hx (t := .boolean) Bd.returns (by simp) (hb hby at_174) hr
          · show Q0 Z p0 p1 p2 p3 p4 h0 n0 _ T115.heap _
            rw [e115q]
            exact ⟨congrArg (fun q => some (Value.int q)) hv155, N115⟩
        · have pre120 : ∀ t, Steps p.tables e below (T79.setTop (mkF m 131 #[.val (.int p0), .val (.int p1), .val (.int p2), .val (.int p3), .val (.int p4), .val (.int (e0_1 p0)), .val (.int (e0_2 p1)), .val (.int (e0_3 p2)), .val (.int (e0_4 p3)), .val (.int (1 : Int32)), .val (.ref b62), .val (.int (((e0_1 p0) + (1 : Int32)) + (1 : Int32))), .unset] [(.int (((e0_1 p0) + (1 : Int32)) + (1 : Int32))), (.int (e0_3 p2))])) t → Steps p.tables e below (s₁.setTop (entryFrame m #[(.int p0), (.int p1), (.int p2), (.int p3), (.int p4)] maxLocals)) t := fun t kt => pre111 t (by
              show Steps p.tables e below (T79.setTop (mkF m 124 #[.val (.int p0), .val (.int p1), .val (.int p2), .val (.int p3), .val (.int p4), .val (.int (e0_1 p0)), .val (.int (e0_2 p1)), .val (.int (e0_3 p2)), .val (.int (e0_4 p3)), .val (.int (1 : Int32)), .val (.ref b62), .val (.int (((e0_1 p0) + (1 : Int32)) + (1 : Int32))), .unset] [(.int (((e0_1 p0) + (1 : Int32)) + (1 : Int32))), (.int (e0_2 p1))])) _
              refine XS.icmpNo X79.here hx rfl (hb hby at_124) rfl (feq hc124_112).1 ?_
              show Steps p.tables e below (T79.setTop (mkF m 127 #[.val (.int p0), .val (.int p1), .val (.int p2), .val (.int p3), .val (.int p4), .val (.int (e0_1 p0)), .val (.int (e0_2 p1)), .val (.int (e0_3 p2)), .val (.int (e0_4 p3)), .val (.int (1 : Int32)), .val (.ref b62), .val (.int (((e0_1 p0) + (1 : Int32)) + (1 : Int32))), .unset] [])) _
              refine XS.iload X79.here hx rfl (hb hby at_127) rfl ?_
              show Steps p.tables e below (T79.setTop (mkF m 129 #[.val (.int p0), .val (.int p1), .val (.int p2), .val (.int p3), .val (.int p4), .val (.int (e0_1 p0)), .val (.int (e0_2 p1)), .val (.int (e0_3 p2)), .val (.int (e0_4 p3)), .val (.int (1 : Int32)), .val (.ref b62), .val (.int (((e0_1 p0) + (1 : Int32)) + (1 : Int32))), .unset] [(.int (e0_3 p2))])) _
              refine XS.iload X79.here hx rfl (hb hby at_129) rfl ?_
              exact kt)
          by_cases hc131_121 : (e0_3 p2) = (((e0_1 p0) + (1 : Int32)) + (1 : Int32))
          · have pre122 : ∀ t, Steps p.tables e below (T79.setTop (mkF m 142 #[.val (.int p0), .val (.int p1), .val (.int p2), .val (.int p3), .val (.int p4), .val (.int (e0_1 p0)), .val (.int (e0_2 p1)), .val (.int (e0_3 p2)), .val (.int (e0_4 p3)), .val (.int (1 : Int32)), .val (.ref b62), .val (.int ((((e0_1 p0) + (1 : Int32)) + (1 : Int32)) + (1 : Int32))), .unset] [(.int (1 : Int32))])) t → Steps p.tables e below (s₁.setTop (entryFrame m #[(.int p0), (.int p1), (.int p2), (.int p3), (.int p4)] maxLocals)) t := fun t kt => pre120 t (by
                show Steps p.tables e below (T79.setTop (mkF m 131 #[.val (.int p0), .val (.int p1), .val (.int p2), .val (.int p3), .val (.int p4), .val (.int (e0_1 p0)), .val (.int (e0_2 p1)), .val (.int (e0_3 p2)), .val (.int (e0_4 p3)), .val (.int (1 : Int32)), .val (.ref b62), .val (.int (((e0_1 p0) + (1 : Int32)) + (1 : Int32))), .unset] [(.int (((e0_1 p0) + (1 : Int32)) + (1 : Int32))), (.int (e0_3 p2))])) _
                refine XS.icmpNo X79.here hx rfl (hb hby at_131) rfl (teq hc131_121).2 ?_
                show Steps p.tables e below (T79.setTop (mkF m 134 #[.val (.int p0), .val (.int p1), .val (.int p2), .val (.int p3), .val (.int p4), .val (.int (e0_1 p0)), .val (.int (e0_2 p1)), .val (.int (e0_3 p2)), .val (.int (e0_4 p3)), .val (.int (1 : Int32)), .val (.ref b62), .val (.int (((e0_1 p0) + (1 : Int32)) + (1 : Int32))), .unset] [])) _
                refine XS.iload X79.here hx rfl (hb hby at_134) rfl ?_
                show Steps p.tables e below (T79.setTop (mkF m 136 #[.val (.int p0), .val (.int p1), .val (.int p2), .val (.int p3), .val (.int p4), .val (.int (e0_1 p0)), .val (.int (e0_2 p1)), .val (.int (e0_3 p2)), .val (.int (e0_4 p3)), .val (.int (1 : Int32)), .val (.ref b62), .val (.int (((e0_1 p0) + (1 : Int32)) + (1 : Int32))), .unset] [(.int (((e0_1 p0) + (1 : Int32)) + (1 : Int32)))])) _
                refine XS.iconst X79.here hx rfl (hb hby at_136) ?_
                show Steps p.tables e below (T79.setTop (mkF m 137 #[.val (.int p0), .val (.int p1), .val (.int p2), .val (.int p3), .val (.int p4), .val (.int (e0_1 p0)), .val (.int (e0_2 p1)), .val (.int (e0_3 p2)), .val (.int (e0_4 p3)), .val (.int (1 : Int32)), .val (.ref b62), .val (.int (((e0_1 p0) + (1 : Int32)) + (1 : Int32))), .unset] [(.int (1 : Int32)), (.int (((e0_1 p0) + (1 : Int32)) + (1 : Int32)))])) _
                refine XS.iadd X79.here hx rfl (hb hby at_137) rfl ?_
                show Steps p.tables e below (T79.setTop (mkF m 138 #[.val (.int p0), .val (.int p1), .val (.int p2), .val (.int p3), .val (.int p4), .val (.int (e0_1 p0)), .val (.int (e0_2 p1)), .val (.int (e0_3 p2)), .val (.int (e0_4 p3)), .val (.int (1 : Int32)), .val (.ref b62), .val (.int (((e0_1 p0) + (1 : Int32)) + (1 : Int32))), .unset] [(.int ((((e0_1 p0) + (1 : Int32)) + (1 : Int32)) + (1 : Int32)))])) _
                refine XS.istore X79.here hx rfl (hb hby at_138) rfl (l' := #[.val (.int p0), .val (.int p1), .val (.int p2), .val (.int p3), .val (.int p4), .val (.int (e0_1 p0)), .val (.int (e0_2 p1)), .val (.int (e0_3 p2)), .val (.int (e0_4 p3)), .val (.int (1 : Int32)), .val (.ref b62), .val (.int ((((e0_1 p0) + (1 : Int32)) + (1 : Int32)) + (1 : Int32))), .unset]) rfl ?_
                show Steps p.tables e below (T79.setTop (mkF m 140 #[.val (.int p0), .val (.int p1), .val (.int p2), .val (.int p3), .val (.int p4), .val (.int (e0_1 p0)), .val (.int (e0_2 p1)), .val (.int (e0_3 p2)), .val (.int (e0_4 p3)), .val (.int (1 : Int32)), .val (.ref b62), .val (.int ((((e0_1 p0) + (1 : Int32)) + (1 : Int32)) + (1 : Int32))), .unset] [])) _
                refine XS.iload X79.here hx rfl (hb hby at_140) rfl ?_
                exact kt)
            obtain ⟨_, _, ⟨T123, L123, k123, n123⟩, -, X123, ⟨Lc123, hQ123, l123, y123, z123⟩, st123⟩ := Jvm.LawKit.callS X79 hx (y := (⟨"java/lang/Math", "min", "(II)I"⟩ : MethodName)) hown (mvT hZ (hw _ (List.mem_of_getElem? (i := 38) rfl))) (mvT hZ (hw _ (List.mem_of_getElem? (i := 39) rfl))) (mvT hZ (hw _ (List.mem_of_getElem? (i := 40) rfl))) (mvT hZ (hw _ (List.mem_of_getElem? (i := 41) rfl))) (by decide) (backOf (W := 0) (rm7 l Z a0 hw [] ((((e0_1 p0) + (1 : Int32)) + (1 : Int32)) + (1 : Int32)) (e0_4 p3) T79.heap n0 Z81 ) hZ (hw _ (List.mem_of_getElem? (i := 41) rfl)) (hw _ (List.mem_of_getElem? (i := 40) rfl)) (by decide) (by decide)) (g := (mkF m 149 #[.val (.int p0), .val (.int p1), .val (.int p2), .val (.int p3), .val (.int p4), .val (.int (e0_1 p0)), .val (.int (e0_2 p1)), .val (.int (e0_3 p2)), .val (.int (e0_4 p3)), .val (.int (1 : Int32)), .val (.ref b62), .val (.int ((((e0_1 p0) + (1 : Int32)) + (1 : Int32)) + (1 : Int32))), .unset] [(.int (e0_4 p3)), (.int ((((e0_1 p0) + (1 : Int32)) + (1 : Int32)) + (1 : Int32)))])) rfl (by rw [hml]; rfl) (argsL := [(.int ((((e0_1 p0) + (1 : Int32)) + (1 : Int32)) + (1 : Int32))), (.int (e0_4 p3))]) (rest := []) (lenOf pd_0_4 rfl) rfl (by show 2 * 0 + _ ≤ _; exact Nat.le_of_eq rfl) (hb hby at_149) (fun _ _ => ⟨rfl, rfl, (by decide : 4 + 0 ≤ _), (by decide : 63 + 0 ≤ _)⟩)
            dsimp only [Pt.U, Pt.locs, Pt.cells, Pt.slots] at X123 l123 y123 z123 st123 hQ123
            subst l123 y123 z123
            obtain ⟨rfl, N123q, e123q⟩ := hQ123
            have N123 := Fr.app N79 N123q
            have c125 := ((c75.keep K74q (ninS ne_b62_r_o0_open_65 nin0)).keep K79q (ninS ne_b62_r_o0_open_65 nin0))
            have c126 := (((((E_b62.keep K65q).keep K68q).keep K71q).keep K74q).keep K79q)
            obtain ⟨cq124, kq124, q124a, q124b, q124c⟩ := isOf hZ e123q c126
            obtain ⟨_, _, ⟨T124, L124, k124, n124⟩, -, X124, ⟨Lc124, hQ124, l124, y124, z124⟩, st124⟩ := X123.virtualBack hx (y := (⟨"com/example/cardhost/cardhost/LogicalChannels", "lowestClosed", "()I"⟩ : MethodName)) (z := (⟨"com/example/cardhost/cardhost/LogicalChannels", "lowestClosed", "()I"⟩ : MethodName)) hown (mvT hZ (hw _ (List.mem_of_getElem? (i := 28) rfl))) (mvT hZ (hw _ (List.mem_of_getElem? (i := 29) rfl))) (notFace_of_selects (args := #[]) (mvT hZ (hw _ (List.mem_of_getElem? (i := 31) rfl)))) (mvT hZ (hw _ (List.mem_of_getElem? (i := 31) rfl))) (mvT hZ (hw _ (List.mem_of_getElem? (i := 30) rfl))) (by decide) (backOf (W := 0) (rm5 l Z a0 hw [] b62 r_o0_open_65 (own_upd (own_upd (own_upd (f3_r1_a (e0_1 p0) (own_upd (fun _ => 0) 0 (1 : Int32))) ((e0_2 p1)).toNatClampNeg (1 : Int32)) ((e0_3 p2)).toNatClampNeg (1 : Int32)) ((e0_4 p3)).toNatClampNeg (0 : Int32)) T79.heap n0 Z81 c125 G79_0 g_r_o0_open_65) hZ (hw _ (List.mem_of_getElem? (i := 32) rfl)) (hw _ (List.mem_of_getElem? (i := 3) rfl)) (by decide) (by decide)) q124a q124c (g := (mkF m 161 #[.val (.int p0), .val (.int p1), .val (.int p2), .val (.int p3), .val (.int p4), .val (.int (e0_1 p0)), .val (.int (e0_2 p1)), .val (.int (e0_3 p2)), .val (.int (e0_4 p3)), .val (.int (1 : Int32)), .val (.ref b62), .val (.int ((((e0_1 p0) + (1 : Int32)) + (1 : Int32)) + (1 : Int32))), .val (.int (e0_5 p0 p3))] [(.ref b62)])) rfl (by rw [hml]; rfl) (Steps.refl _) (argsL := []) (rest := []) (lenOf pd_0_3 rfl) rfl (by show 2 * 0 + _ ≤ _; exact Nat.le_of_eq rfl) (hb hby at_161) (fun _ _ => ⟨rfl, e123q, (by decide : 4 + 0 ≤ _), (by decide : 63 + 0 ≤ _)⟩)
            dsimp only [Pt.U, Pt.locs, Pt.cells, Pt.slots] at X124 l124 y124 z124 st124 hQ124
            subst l124 y124 z124
            obtain ⟨rfl, N124q, e124q⟩ := hQ124
            have N124 := Fr.app N123 N124q
            have pre127 : ∀ t, Steps p.tables e below (T124.setTop (mkF m 166 #[.val (.int p0), .val (.int p1), .val (.int p2), .val (.int p3), .val (.int p4), .val (.int (e0_1 p0)), .val (.int (e0_2 p1)), .val (.int (e0_3 p2)), .val (.int (e0_4 p3)), .val (.int (1 : Int32)), .val (.ref b62), .val (.int ((((e0_1 p0) + (1 : Int32)) + (1 : Int32)) + (1 : Int32))), .val (.int (e0_5 p0 p3))] [(.int (e0_5 p0 p3)), (.int (f5 (own_upd (own_upd (own_upd (f3_r1_a (e0_1 p0) (own_upd (fun _ => 0) 0 (1 : Int32))) ((e0_2 p1)).toNatClampNeg (1 : Int32)) ((e0_3 p2)).toNatClampNeg (1 : Int32)) ((e0_4 p3)).toNatClampNeg (0 : Int32))))])) t → Steps p.tables e below (s₁.setTop (entryFrame m #[(.int p0), (.int p1), (.int p2), (.int p3), (.int p4)] maxLocals)) t := fun t kt => pre122 t (by
                show Steps p.tables e below (T79.setTop (mkF m 142 #[.val (.int p0), .val (.int p1), .val (.int p2), .val (.int p3), .val (.int p4), .val (.int (e0_1 p0)), .val (.int (e0_2 p1)), .val (.int (e0_3 p2)), .val (.int (e0_4 p3)), .val (.int (1 : Int32)), .val (.ref b62), .val (.int ((((e0_1 p0) + (1 : Int32)) + (1 : Int32)) + (1 : Int32))), .unset] [(.int (1 : Int32))])) _
                refine XS.ifNo X79.here hx rfl (hb hby at_142) rfl ((if0 _ _).trans (feq (by decide : ¬ ((1 : Int32) = (0 : Int32)))).1) ?_
                show Steps p.tables e below (T79.setTop (mkF m 145 #[.val (.int p0), .val (.int p1), .val (.int p2), .val (.int p3), .val (.int p4), .val (.int (e0_1 p0)), .val (.int (e0_2 p1)), .val (.int (e0_3 p2)), .val (.int (e0_4 p3)), .val (.int (1 : Int32)), .val (.ref b62), .val (.int ((((e0_1 p0) + (1 : Int32)) + (1 : Int32)) + (1 : Int32))), .unset] [])) _
                refine XS.iload X79.here hx rfl (hb hby at_145) rfl ?_
                show Steps p.tables e below (T79.setTop (mkF m 147 #[.val (.int p0), .val (.int p1), .val (.int p2), .val (.int p3), .val (.int p4), .val (.int (e0_1 p0)), .val (.int (e0_2 p1)), .val (.int (e0_3 p2)), .val (.int (e0_4 p3)), .val (.int (1 : Int32)), .val (.ref b62), .val (.int ((((e0_1 p0) + (1 : Int32)) + (1 : Int32)) + (1 : Int32))), .unset] [(.int ((((e0_1 p0) + (1 : Int32)) + (1 : Int32)) + (1 : Int32)))])) _
                refine XS.iload X79.here hx rfl (hb hby at_147) rfl ?_
                show Steps p.tables e below (T79.setTop (mkF m 149 #[.val (.int p0), .val (.int p1), .val (.int p2), .val (.int p3), .val (.int p4), .val (.int (e0_1 p0)), .val (.int (e0_2 p1)), .val (.int (e0_3 p2)), .val (.int (e0_4 p3)), .val (.int (1 : Int32)), .val (.ref b62), .val (.int ((((e0_1 p0) + (1 : Int32)) + (1 : Int32)) + (1 : Int32))), .unset] [(.int (e0_4 p3)), (.int ((((e0_1 p0) + (1 : Int32)) + (1 : Int32)) + (1 : Int32)))])) _
                refine st123 _ ?_
                show Steps p.tables e below (T123.setTop (mkF m 152 #[.val (.int p0), .val (.int p1), .val (.int p2), .val (.int p3), .val (.int p4), .val (.int (e0_1 p0)), .val (.int (e0_2 p1)), .val (.int (e0_3 p2)), .val (.int (e0_4 p3)), .val (.int (1 : Int32)), .val (.ref b62), .val (.int ((((e0_1 p0) + (1 : Int32)) + (1 : Int32)) + (1 : Int32))), .unset] [(.int (f7 ((((e0_1 p0) + (1 : Int32)) + (1 : Int32)) + (1 : Int32)) (e0_4 p3)))])) _
                refine XS.goto X123.here hx rfl (pc0 := 152) (pc' := 157) rfl (hb hby at_152) (by decide) (by decide) ?_
                show Steps p.tables e below (T123.setTop (mkF m 157 #[.val (.int p0), .val (.int p1), .val (.int p2), .val (.int p3), .val (.int p4), .val (.int (e0_1 p0)), .val (.int (e0_2 p1)), .val (.int (e0_3 p2)), .val (.int (e0_4 p3)), .val (.int (1 : Int32)), .val (.ref b62), .val (.int ((((e0_1 p0) + (1 : Int32)) + (1 : Int32)) + (1 : Int32))), .unset] [(.int (f7 ((((e0_1 p0) + (1 : Int32)) + (1 : Int32)) + (1 : Int32)) (e0_4 p3)))])) _
                refine XS.istore X123.here hx rfl (hb hby at_157) rfl (l' := #[.val (.int p0), .val (.int p1), .val (.int p2), .val (.int p3), .val (.int p4), .val (.int (e0_1 p0)), .val (.int (e0_2 p1)), .val (.int (e0_3 p2)), .val (.int (e0_4 p3)), .val (.int (1 : Int32)), .val (.ref b62), .val (.int ((((e0_1 p0) + (1 : Int32)) + (1 : Int32)) + (1 : Int32))), .val (.int (e0_5 p0 p3))]) rfl ?_
                show Steps p.tables e below (T123.setTop (mkF m 159 #[.val (.int p0), .val (.int p1), .val (.int p2), .val (.int p3), .val (.int p4), .val (.int (e0_1 p0)), .val (.int (e0_2 p1)), .val (.int (e0_3 p2)), .val (.int (e0_4 p3)), .val (.int (1 : Int32)), .val (.ref b62), .val (.int ((((e0_1 p0) + (1 : Int32)) + (1 : Int32)) + (1 : Int32))), .val (.int (e0_5 p0 p3))] [])) _
                refine XS.aload X123.here hx rfl (hb hby at_159) rfl rfl ?_
                show Steps p.tables e below (T123.setTop (mkF m 161 #[.val (.int p0), .val (.int p1), .val (.int p2), .val (.int p3), .val (.int p4), .val (.int (e0_1 p0)), .val (.int (e0_2 p1)), .val (.int (e0_3 p2)), .val (.int (e0_4 p3)), .val (.int (1 : Int32)), .val (.ref b62), .val (.int ((((e0_1 p0) + (1 : Int32)) + (1 : Int32)) + (1 : Int32))), .val (.int (e0_5 p0 p3))] [(.ref b62)])) _
                refine st124.trans ?_
                show Steps p.tables e below (T124.setTop (mkF m 164 #[.val (.int p0), .val (.int p1), .val (.int p2), .val (.int p3), .val (.int p4), .val (.int (e0_1 p0)), .val (.int (e0_2 p1)), .val (.int (e0_3 p2)), .val (.int (e0_4 p3)), .val (.int (1 : Int32)), .val (.ref b62), .val (.int ((((e0_1 p0) + (1 : Int32)) + (1 : Int32)) + (1 : Int32))), .val (.int (e0_5 p0 p3))] [(.int (f5 (own_upd (own_upd (own_upd (f3_r1_a (e0_1 p0) (own_upd (fun _ => 0) 0 (1 : Int32))) ((e0_2 p1)).toNatClampNeg (1 : Int32)) ((e0_3 p2)).toNatClampNeg (1 : Int32)) ((e0_4 p3)).toNatClampNeg (0 : Int32))))])) _
                refine XS.iload X124.here hx rfl (hb hby at_164) rfl ?_
                exact kt)
            have hd166_128 : (f5 (own_upd (own_upd (own_upd (f3_r1_a (e0_1 p0) (own_upd (fun _ => 0) 0 (1 : Int32))) ((e0_2 p1)).toNatClampNeg (1 : Int32)) ((e0_3 p2)).toNatClampNeg (1 : Int32)) ((e0_4 p3)).toNatClampNeg (0 : Int32))) = (e0_5 p0 p3) := by have q0 := hc104_83; rw [← Int32.toInt_inj] at q0; have q1 := hc111_110; rw [← Int32.toInt_inj] at q1; have q2 := hc124_112; rw [← Int32.toInt_inj] at q2; have q3 := hc131_121; rw [← Int32.toInt_inj] at q3; have s1 := c_iadd (e0_1 p0) 1; have r1 := rng32 ((e0_1 p0) + 1); have s2 := c_iadd ((e0_1 p0) + 1) 1; have r2 := rng32 ((e0_1 p0) + 1 + 1); have s3 := c_iadd ((e0_1 p0) + 1 + 1) 1; have r3 := rng32 ((e0_1 p0) + 1 + 1 + 1); have e1 : (1 : Int32).toInt = 1 := (by decide); rw [e1] at s1 s2 s3; have hk : 0 ≤ (e0_1 p0).toInt ∧ (e0_1 p0).toInt ≤ 19 := own_b p0; have ha : 0 ≤ (e0_2 p1).toInt ∧ (e0_2 p1).toInt ≤ 19 := own_b p1; have hb : 0 ≤ (e0_3 p2).toInt ∧ (e0_3 p2).toInt ≤ 19 := own_b p2; exact own_fin1 (M := ((((e0_1 p0) + (1 : Int32)) + (1 : Int32)) + (1 : Int32))) hk ha hb (own_c p3) (by unfold own_mm; repeat' split; all_goals omega)
            obtain ⟨fs, hr, hrun, hended, hW, hsame⟩ := X124.leave (v := some (.int (1 : Int32))) (fun h => by rw [Bd.returns] at h; cases h)
            have hv156 : (1 : Int32) = (1 : Int32) := rfl
            refine ⟨_, _, pre127 _ ?_, hrun, hended, _, _, rfl, ?_, ⟨_, rfl⟩, hW, hsame.mono (by decide) (by decide)⟩
            · show Steps p.tables e below (T124.setTop (mkF m 166 #[.val (.int p0), .val (.int p1), .val (.int p2), .val (.int p3), .val (.int p4), .val (.int (e0_1 p0)), .val (.int (e0_2 p1)), .val (.int (e0_3 p2)), .val (.int (e0_4 p3)), .val (.int (1 : Int32)), .val (.ref b62), .val (.int ((((e0_1 p0) + (1 : Int32)) + (1 : Int32)) + (1 : Int32))), .val (.int (e0_5 p0 p3))] [(.int (e0_5 p0 p3)), (.int (f5 (own_upd (own_upd (own_upd (f3_r1_a (e0_1 p0) (own_upd (fun _ => 0) 0 (1 : Int32))) ((e0_2 p1)).toNatClampNeg (1 : Int32)) ((e0_3 p2)).toNatClampNeg (1 : Int32)) ((e0_4 p3)).toNatClampNeg (0 : Int32))))])) _
              refine XS.icmpNo X124.here hx rfl (hb hby at_166) rfl (teq hd166_128).2 ?_
              show Steps p.tables e below (T124.setTop (mkF m 169 #[.val (.int p0), .val (.int p1), .val (.int p2), .val (.int p3), .val (.int p4), .val (.int (e0_1 p0)), .val (.int (e0_2 p1)), .val (.int (e0_3 p2)), .val (.int (e0_4 p3)), .val (.int (1 : Int32)), .val (.ref b62), .val (.int ((((e0_1 p0) + (1 : Int32)) + (1 : Int32)) + (1 : Int32))), .val (.int (e0_5 p0 p3))] [])) _
              refine XS.iconst X124.here hx rfl (hb hby at_169) ?_
              show Steps p.tables e below (T124.setTop (mkF m 170 #[.val (.int p0), .val (.int p1), .val (.int p2), .val (.int p3), .val (.int p4), .val (.int (e0_1 p0)), .val (.int (e0_2 p1)), .val (.int (e0_3 p2)), .val (.int (e0_4 p3)), .val (.int (1 : Int32)), .val (.ref b62), .val (.int ((((e0_1 p0) + (1 : Int32)) + (1 : Int32)) + (1 : Int32))), .val (.int (e0_5 p0 p3))] [(.int (1 : Int32))])) _
              refine XS.goto X124.here hx rfl (pc0 := 170) (pc' := 174) rfl (hb hby at_170) (by decide) (by decide) ?_
              show Steps p.tables e below (T124.setTop (mkF m 174 #[.val (.int p0), .val (.int p1), .val (.int p2), .val (.int p3), .val (.int p4), .val (.int (e0_1 p0)), .val (.int (e0_2 p1)), .val (.int (e0_3 p2)), .val (.int (e0_4 p3)), .val (.int (1 : Int32)), .val (.ref b62), .val (.int ((((e0_1 p0) + (1 : Int32)) + (1 : Int32)) + (1 : Int32))), .val (.int (e0_5 p0 p3))] [(.int (1 : Int32))])) _
              exact retN X124 hx (t := .boolean) Bd.returns (by simp) (hb hby at_174) hr
            · show Q0 Z p0 p1 p2 p3 p4 h0 n0 _ T124.heap _
              rw [e124q]
              exact ⟨congrArg (fun q => some (Value.int q)) hv156, N124⟩
          · have pre129 : ∀ t, Steps p.tables e below (T79.setTop (mkF m 142 #[.val (.int p0), .val (.int p1), .val (.int p2), .val (.int p3), .val (.int p4), .val (.int (e0_1 p0)), .val (.int (e0_2 p1)), .val (.int (e0_3 p2)), .val (.int (e0_4 p3)), .val (.int (1 : Int32)), .val (.ref b62), .val (.int (((e0_1 p0) + (1 : Int32)) + (1 : Int32))), .unset] [(.int (1 : Int32))])) t → Steps p.tables e below (s₁.setTop (entryFrame m #[(.int p0), (.int p1), (.int p2), (.int p3), (.int p4)] maxLocals)) t := fun t kt => pre120 t (by
                show Steps p.tables e below (T79.setTop (mkF m 131 #[.val (.int p0), .val (.int p1), .val (.int p2), .val (.int p3), .val (.int p4), .val (.int (e0_1 p0)), .val (.int (e0_2 p1)), .val (.int (e0_3 p2)), .val (.int (e0_4 p3)), .val (.int (1 : Int32)), .val (.ref b62), .val (.int (((e0_1 p0) + (1 : Int32)) + (1 : Int32))), .unset] [(.int (((e0_1 p0) + (1 : Int32)) + (1 : Int32))), (.int (e0_3 p2))])) _
                refine XS.icmpYes X79.here hx rfl (pc0 := 131) (pc' := 140) rfl (hb hby at_131) rfl (feq hc131_121).2 (by decide) (by decide) ?_
                show Steps p.tables e below (T79.setTop (mkF m 140 #[.val (.int p0), .val (.int p1), .val (.int p2), .val (.int p3), .val (.int p4), .val (.int (e0_1 p0)), .val (.int (e0_2 p1)), .val (.int (e0_3 p2)), .val (.int (e0_4 p3)), .val (.int (1 : Int32)), .val (.ref b62), .val (.int (((e0_1 p0) + (1 : Int32)) + (1 : Int32))), .unset] [])) _
                refine XS.iload X79.here hx rfl (hb hby at_140) rfl ?_
                exact kt)
            obtain ⟨_, _, ⟨T130, L130, k130, n130⟩, -, X130, ⟨Lc130, hQ130, l130, y130, z130⟩, st130⟩ := Jvm.LawKit.callS X79 hx (y := (⟨"java/lang/Math", "min", "(II)I"⟩ : MethodName)) hown (mvT hZ (hw _ (List.mem_of_getElem? (i := 38) rfl))) (mvT hZ (hw _ (List.mem_of_getElem? (i := 39) rfl))) (mvT hZ (hw _ (List.mem_of_getElem? (i := 40) rfl))) (mvT hZ (hw _ (List.mem_of_getElem? (i := 41) rfl))) (by decide) (backOf (W := 0) (rm7 l Z a0 hw [] (((e0_1 p0) + (1 : Int32)) + (1 : Int32)) (e0_4 p3) T79.heap n0 Z81 ) hZ (hw _ (List.mem_of_getElem? (i := 41) rfl)) (hw _ (List.mem_of_getElem? (i := 40) rfl)) (by decide) (by decide)) (g := (mkF m 149 #[.val (.int p0), .val (.int p1), .val (.int p2), .val (.int p3), .val (.int p4), .val (.int (e0_1 p0)), .val (.int (e0_2 p1)), .val (.int (e0_3 p2)), .val (.int (e0_4 p3)), .val (.int (1 : Int32)), .val (.ref b62), .val (.int (((e0_1 p0) + (1 : Int32)) + (1 : Int32))), .unset] [(.int (e0_4 p3)), (.int (((e0_1 p0) + (1 : Int32)) + (1 : Int32)))])) rfl (by rw [hml]; rfl) (argsL := [(.int (((e0_1 p0) + (1 : Int32)) + (1 : Int32))), (.int (e0_4 p3))]) (rest := []) (lenOf pd_0_4 rfl) rfl (by show 2 * 0 + _ ≤ _; exact Nat.le_of_eq rfl) (hb hby at_149) (fun _ _ => ⟨rfl, rfl, (by decide : 4 + 0 ≤ _), (by decide : 63 + 0 ≤ _)⟩)
            dsimp only [Pt.U, Pt.locs, Pt.cells, Pt.slots] at X130 l130 y130 z130 st130 hQ130
            subst l130 y130 z130
            obtain ⟨rfl, N130q, e130q⟩ := hQ130
            have N130 := Fr.app N79 N130q
            have c132 := ((c75.keep K74q (ninS ne_b62_r_o0_open_65 nin0)).keep K79q (ninS ne_b62_r_o0_open_65 nin0))
            have c133 := (((((E_b62.keep K65q).keep K68q).keep K71q).keep K74q).keep K79q)
            obtain ⟨cq131, kq131, q131a, q131b, q131c⟩ := isOf hZ e130q c133
            obtain ⟨_, _, ⟨T131, L131, k131, n131⟩, -, X131, ⟨Lc131, hQ131, l131, y131, z131⟩, st131⟩ := X130.virtualBack hx (y := (⟨"com/example/cardhost/cardhost/LogicalChannels", "lowestClosed", "()I"⟩ : MethodName)) (z := (⟨"com/example/cardhost/cardhost/LogicalChannels", "lowestClosed", "()I"⟩ : MethodName)) hown (mvT hZ (hw _ (List.mem_of_getElem? (i := 28) rfl))) (mvT hZ (hw _ (List.mem_of_getElem? (i := 29) rfl))) (notFace_of_selects (args := #[]) (mvT hZ (hw _ (List.mem_of_getElem? (i := 31) rfl)))) (mvT hZ (hw _ (List.mem_of_getElem? (i := 31) rfl))) (mvT hZ (hw _ (List.mem_of_getElem? (i := 30) rfl))) (by decide) (backOf (W := 0) (rm5 l Z a0 hw [] b62 r_o0_open_65 (own_upd (own_upd (own_upd (f3_r1_a (e0_1 p0) (own_upd (fun _ => 0) 0 (1 : Int32))) ((e0_2 p1)).toNatClampNeg (1 : Int32)) ((e0_3 p2)).toNatClampNeg (1 : Int32)) ((e0_4 p3)).toNatClampNeg (0 : Int32)) T79.heap n0 Z81 c132 G79_0 g_r_o0_open_65) hZ (hw _ (List.mem_of_getElem? (i := 32) rfl)) (hw _ (List.mem_of_getElem? (i := 3) rfl)) (by decide) (by decide)) q131a q131c (g := (mkF m 161 #[.val (.int p0), .val (.int p1), .val (.int p2), .val (.int p3), .val (.int p4), .val (.int (e0_1 p0)), .val (.int (e0_2 p1)), .val (.int (e0_3 p2)), .val (.int (e0_4 p3)), .val (.int (1 : Int32)), .val (.ref b62), .val (.int (((e0_1 p0) + (1 : Int32)) + (1 : Int32))), .val (.int (f7 (((e0_1 p0) + (1 : Int32)) + (1 : Int32)) (e0_4 p3)))] [(.ref b62)])) rfl (by rw [hml]; rfl) (Steps.refl _) (argsL := []) (rest := []) (lenOf pd_0_3 rfl) rfl (by show 2 * 0 + _ ≤ _; exact Nat.le_of_eq rfl) (hb hby at_161) (fun _ _ => ⟨rfl, e130q, (by decide : 4 + 0 ≤ _), (by decide : 63 + 0 ≤ _)⟩)
            dsimp only [Pt.U, Pt.locs, Pt.cells, Pt.slots] at X131 l131 y131 z131 st131 hQ131
            subst l131 y131 z131
            obtain ⟨rfl, N131q, e131q⟩ := hQ131
            have N131 := Fr.app N130 N131q
            have pre134 : ∀ t, Steps p.tables e below (T131.setTop (mkF m 166 #[.val (.int p0), .val (.int p1), .val (.int p2), .val (.int p3), .val (.int p4), .val (.int (e0_1 p0)), .val (.int (e0_2 p1)), .val (.int (e0_3 p2)), .val (.int (e0_4 p3)), .val (.int (1 : Int32)), .val (.ref b62), .val (.int (((e0_1 p0) + (1 : Int32)) + (1 : Int32))), .val (.int (f7 (((e0_1 p0) + (1 : Int32)) + (1 : Int32)) (e0_4 p3)))] [(.int (f7 (((e0_1 p0) + (1 : Int32)) + (1 : Int32)) (e0_4 p3))), (.int (f5 (own_upd (own_upd (own_upd (f3_r1_a (e0_1 p0) (own_upd (fun _ => 0) 0 (1 : Int32))) ((e0_2 p1)).toNatClampNeg (1 : Int32)) ((e0_3 p2)).toNatClampNeg (1 : Int32)) ((e0_4 p3)).toNatClampNeg (0 : Int32))))])) t → Steps p.tables e below (s₁.setTop (entryFrame m #[(.int p0), (.int p1), (.int p2), (.int p3), (.int p4)] maxLocals)) t := fun t kt => pre129 t (by
                show Steps p.tables e below (T79.setTop (mkF m 142 #[.val (.int p0), .val (.int p1), .val (.int p2), .val (.int p3), .val (.int p4), .val (.int (e0_1 p0)), .val (.int (e0_2 p1)), .val (.int (e0_3 p2)), .val (.int (e0_4 p3)), .val (.int (1 : Int32)), .val (.ref b62), .val (.int (((e0_1 p0) + (1 : Int32)) + (1 : Int32))), .unset] [(.int (1 : Int32))])) _
                refine XS.ifNo X79.here hx rfl (hb hby at_142) rfl ((if0 _ _).trans (feq (by decide : ¬ ((1 : Int32) = (0 : Int32)))).1) ?_
                show Steps p.tables e below (T79.setTop (mkF m 145 #[.val (.int p0), .val (.int p1), .val (.int p2), .val (.int p3), .val (.int p4), .val (.int (e0_1 p0)), .val (.int (e0_2 p1)), .val (.int (e0_3 p2)), .val (.int (e0_4 p3)), .val (.int (1 : Int32)), .val (.ref b62), .val (.int (((e0_1 p0) + (1 : Int32)) + (1 : Int32))), .unset] [])) _
                refine XS.iload X79.here hx rfl (hb hby at_145) rfl ?_
                show Steps p.tables e below (T79.setTop (mkF m 147 #[.val (.int p0), .val (.int p1), .val (.int p2), .val (.int p3), .val (.int p4), .val (.int (e0_1 p0)), .val (.int (e0_2 p1)), .val (.int (e0_3 p2)), .val (.int (e0_4 p3)), .val (.int (1 : Int32)), .val (.ref b62), .val (.int (((e0_1 p0) + (1 : Int32)) + (1 : Int32))), .unset] [(.int (((e0_1 p0) + (1 : Int32)) + (1 : Int32)))])) _
                refine XS.iload X79.here hx rfl (hb hby at_147) rfl ?_
                show Steps p.tables e below (T79.setTop (mkF m 149 #[.val (.int p0), .val (.int p1), .val (.int p2), .val (.int p3), .val (.int p4), .val (.int (e0_1 p0)), .val (.int (e0_2 p1)), .val (.int (e0_3 p2)), .val (.int (e0_4 p3)), .val (.int (1 : Int32)), .val (.ref b62), .val (.int (((e0_1 p0) + (1 : Int32)) + (1 : Int32))), .unset] [(.int (e0_4 p3)), (.int (((e0_1 p0) + (1 : Int32)) + (1 : Int32)))])) _
                refine st130 _ ?_
                show Steps p.tables e below (T130.setTop (mkF m 152 #[.val (.int p0), .val (.int p1), .val (.int p2), .val (.int p3), .val (.int p4), .val (.int (e0_1 p0)), .val (.int (e0_2 p1)), .val (.int (e0_3 p2)), .val (.int (e0_4 p3)), .val (.int (1 : Int32)), .val (.ref b62), .val (.int (((e0_1 p0) + (1 : Int32)) + (1 : Int32))), .unset] [(.int (f7 (((e0_1 p0) + (1 : Int32)) + (1 : Int32)) (e0_4 p3)))])) _
                refine XS.goto X130.here hx rfl (pc0 := 152) (pc' := 157) rfl (hb hby at_152) (by decide) (by decide) ?_
                show Steps p.tables e below (T130.setTop (mkF m 157 #[.val (.int p0), .val (.int p1), .val (.int p2), .val (.int p3), .val (.int p4), .val (.int (e0_1 p0)), .val (.int (e0_2 p1)), .val (.int (e0_3 p2)), .val (.int (e0_4 p3)), .val (.int (1 : Int32)), .val (.ref b62), .val (.int (((e0_1 p0) + (1 : Int32)) + (1 : Int32))), .unset] [(.int (f7 (((e0_1 p0) + (1 : Int32)) + (1 : Int32)) (e0_4 p3)))])) _
                refine XS.istore X130.here hx rfl (hb hby at_157) rfl (l' := #[.val (.int p0), .val (.int p1), .val (.int p2), .val (.int p3), .val (.int p4), .val (.int (e0_1 p0)), .val (.int (e0_2 p1)), .val (.int (e0_3 p2)), .val (.int (e0_4 p3)), .val (.int (1 : Int32)), .val (.ref b62), .val (.int (((e0_1 p0) + (1 : Int32)) + (1 : Int32))), .val (.int (f7 (((e0_1 p0) + (1 : Int32)) + (1 : Int32)) (e0_4 p3)))]) rfl ?_
                show Steps p.tables e below (T130.setTop (mkF m 159 #[.val (.int p0), .val (.int p1), .val (.int p2), .val (.int p3), .val (.int p4), .val (.int (e0_1 p0)), .val (.int (e0_2 p1)), .val (.int (e0_3 p2)), .val (.int (e0_4 p3)), .val (.int (1 : Int32)), .val (.ref b62), .val (.int (((e0_1 p0) + (1 : Int32)) + (1 : Int32))), .val (.int (f7 (((e0_1 p0) + (1 : Int32)) + (1 : Int32)) (e0_4 p3)))] [])) _
                refine XS.aload X130.here hx rfl (hb hby at_159) rfl rfl ?_
                show Steps p.tables e below (T130.setTop (mkF m 161 #[.val (.int p0), .val (.int p1), .val (.int p2), .val (.int p3), .val (.int p4), .val (.int (e0_1 p0)), .val (.int (e0_2 p1)), .val (.int (e0_3 p2)), .val (.int (e0_4 p3)), .val (.int (1 : Int32)), .val (.ref b62), .val (.int (((e0_1 p0) + (1 : Int32)) + (1 : Int32))), .val (.int (f7 (((e0_1 p0) + (1 : Int32)) + (1 : Int32)) (e0_4 p3)))] [(.ref b62)])) _
                refine st131.trans ?_
                show Steps p.tables e below (T131.setTop (mkF m 164 #[.val (.int p0), .val (.int p1), .val (.int p2), .val (.int p3), .val (.int p4), .val (.int (e0_1 p0)), .val (.int (e0_2 p1)), .val (.int (e0_3 p2)), .val (.int (e0_4 p3)), .val (.int (1 : Int32)), .val (.ref b62), .val (.int (((e0_1 p0) + (1 : Int32)) + (1 : Int32))), .val (.int (f7 (((e0_1 p0) + (1 : Int32)) + (1 : Int32)) (e0_4 p3)))] [(.int (f5 (own_upd (own_upd (own_upd (f3_r1_a (e0_1 p0) (own_upd (fun _ => 0) 0 (1 : Int32))) ((e0_2 p1)).toNatClampNeg (1 : Int32)) ((e0_3 p2)).toNatClampNeg (1 : Int32)) ((e0_4 p3)).toNatClampNeg (0 : Int32))))])) _
                refine XS.iload X131.here hx rfl (hb hby at_164) rfl ?_
                exact kt)
            have hd166_135 : (f5 (own_upd (own_upd (own_upd (f3_r1_a (e0_1 p0) (own_upd (fun _ => 0) 0 (1 : Int32))) ((e0_2 p1)).toNatClampNeg (1 : Int32)) ((e0_3 p2)).toNatClampNeg (1 : Int32)) ((e0_4 p3)).toNatClampNeg (0 : Int32))) = (f7 (((e0_1 p0) + (1 : Int32)) + (1 : Int32)) (e0_4 p3)) := by have q0 := hc104_83; rw [← Int32.toInt_inj] at q0; have q1 := hc111_110; rw [← Int32.toInt_inj] at q1; have q2 := hc124_112; rw [← Int32.toInt_inj] at q2; have q3 := hc131_121; rw [← Int32.toInt_inj] at q3; have s1 := c_iadd (e0_1 p0) 1; have r1 := rng32 ((e0_1 p0) + 1); have s2 := c_iadd ((e0_1 p0) + 1) 1; have r2 := rng32 ((e0_1 p0) + 1 + 1); have s3 := c_iadd ((e0_1 p0) + 1 + 1) 1; have r3 := rng32 ((e0_1 p0) + 1 + 1 + 1); have e1 : (1 : Int32).toInt = 1 := (by decide); rw [e1] at s1 s2 s3; have hk : 0 ≤ (e0_1 p0).toInt ∧ (e0_1 p0).toInt ≤ 19 := own_b p0; have ha : 0 ≤ (e0_2 p1).toInt ∧ (e0_2 p1).toInt ≤ 19 := own_b p1; have hb : 0 ≤ (e0_3 p2).toInt ∧ (e0_3 p2).toInt ≤ 19 := own_b p2; exact own_fin1 (M := (((e0_1 p0) + (1 : Int32)) + (1 : Int32))) hk ha hb (own_c p3) (by unfold own_mm; repeat' split; all_goals omega)
            obtain ⟨fs, hr, hrun, hended, hW, hsame⟩ := X131.leave (v := some (.int (1 : Int32))) (fun h => by rw [Bd.returns] at h; cases h)
            have hv157 : (1 : Int32) = (1 : Int32) := rfl
            refine ⟨_, _, pre134 _ ?_, hrun, hended, _, _, rfl, ?_, ⟨_, rfl⟩, hW, hsame.mono (by decide) (by decide)⟩
            · show Steps p.tables e below (T131.setTop (mkF m 166 #[.val (.int p0), .val (.int p1), .val (.int p2), .val (.int p3), .val (.int p4), .val (.int (e0_1 p0)), .val (.int (e0_2 p1)), .val (.int (e0_3 p2)), .val (.int (e0_4 p3)), .val (.int (1 : Int32)), .val (.ref b62), .val (.int (((e0_1 p0) + (1 : Int32)) + (1 : Int32))), .val (.int (f7 (((e0_1 p0) + (1 : Int32)) + (1 : Int32)) (e0_4 p3)))] [(.int (f7 (((e0_1 p0) + (1 : Int32)) + (1 : Int32)) (e0_4 p3))), (.int (f5 (own_upd (own_upd (own_upd (f3_r1_a (e0_1 p0) (own_upd (fun _ => 0) 0 (1 : Int32))) ((e0_2 p1)).toNatClampNeg (1 : Int32)) ((e0_3 p2)).toNatClampNeg (1 : Int32)) ((e0_4 p3)).toNatClampNeg (0 : Int32))))])) _
              refine XS.icmpNo X131.here hx rfl (hb hby at_166) rfl (teq hd166_135).2 ?_
              show Steps p.tables e below (T131.setTop (mkF m 169 #[.val (.int p0), .val (.int p1), .val (.int p2), .val (.int p3), .val (.int p4), .val (.int (e0_1 p0)), .val (.int (e0_2 p1)), .val (.int (e0_3 p2)), .val (.int (e0_4 p3)), .val (.int (1 : Int32)), .val (.ref b62), .val (.int (((e0_1 p0) + (1 : Int32)) + (1 : Int32))), .val (.int (f7 (((e0_1 p0) + (1 : Int32)) + (1 : Int32)) (e0_4 p3)))] [])) _
              refine XS.iconst X131.here hx rfl (hb hby at_169) ?_
              show Steps p.tables e below (T131.setTop (mkF m 170 #[.val (.int p0), .val (.int p1), .val (.int p2), .val (.int p3), .val (.int p4), .val (.int (e0_1 p0)), .val (.int (e0_2 p1)), .val (.int (e0_3 p2)), .val (.int (e0_4 p3)), .val (.int (1 : Int32)), .val (.ref b62), .val (.int (((e0_1 p0) + (1 : Int32)) + (1 : Int32))), .val (.int (f7 (((e0_1 p0) + (1 : Int32)) + (1 : Int32)) (e0_4 p3)))] [(.int (1 : Int32))])) _
              refine XS.goto X131.here hx rfl (pc0 := 170) (pc' := 174) rfl (hb hby at_170) (by decide) (by decide) ?_
              show Steps p.tables e below (T131.setTop (mkF m 174 #[.val (.int p0), .val (.int p1), .val (.int p2), .val (.int p3), .val (.int p4), .val (.int (e0_1 p0)), .val (.int (e0_2 p1)), .val (.int (e0_3 p2)), .val (.int (e0_4 p3)), .val (.int (1 : Int32)), .val (.ref b62), .val (.int (((e0_1 p0) + (1 : Int32)) + (1 : Int32))), .val (.int (f7 (((e0_1 p0) + (1 : Int32)) + (1 : Int32)) (e0_4 p3)))] [(.int (1 : Int32))])) _
              exact retN X131 hx (t := .boolean) Bd.returns (by simp) (hb hby at_174) hr
            · show Q0 Z p0 p1 p2 p3 p4 h0 n0 _ T131.heap _
              rw [e131q]
              exact ⟨congrArg (fun q => some (Value.int q)) hv157, N131⟩
      · have pre136 : ∀ t, Steps p.tables e below (T79.setTop (mkF m 124 #[.val (.int p0), .val (.int p1), .val (.int p2), .val (.int p3), .val (.int p4), .val (.int (e0_1 p0)), .val (.int (e0_2 p1)), .val (.int (e0_3 p2)), .val (.int (e0_4 p3)), .val (.int (1 : Int32)), .val (.ref b62), .val (.int ((e0_1 p0) + (1 : Int32))), .unset] [(.int ((e0_1 p0) + (1 : Int32))), (.int (e0_2 p1))])) t → Steps p.tables e below (s₁.setTop (entryFrame m #[(.int p0), (.int p1), (.int p2), (.int p3), (.int p4)] maxLocals)) t := fun t kt => pre109 t (by
            show Steps p.tables e below (T79.setTop (mkF m 111 #[.val (.int p0), .val (.int p1), .val (.int p2), .val (.int p3), .val (.int p4), .val (.int (e0_1 p0)), .val (.int (e0_2 p1)), .val (.int (e0_3 p2)), .val (.int (e0_4 p3)), .val (.int (1 : Int32)), .val (.ref b62), .val (.int ((e0_1 p0) + (1 : Int32))), .unset] [(.int ((e0_1 p0) + (1 : Int32))), (.int (e0_3 p2))])) _
            refine XS.icmpYes X79.here hx rfl (pc0 := 111) (pc' := 120) rfl (hb hby at_111) rfl (feq hc111_110).2 (by decide) (by decide) ?_
            show Steps p.tables e below (T79.setTop (mkF m 120 #[.val (.int p0), .val (.int p1), .val (.int p2), .val (.int p3), .val (.int p4), .val (.int (e0_1 p0)), .val (.int (e0_2 p1)), .val (.int (e0_3 p2)), .val (.int (e0_4 p3)), .val (.int (1 : Int32)), .val (.ref b62), .val (.int ((e0_1 p0) + (1 : Int32))), .unset] [])) _
            refine XS.iload X79.here hx rfl (hb hby at_120) rfl ?_
            show Steps p.tables e below (T79.setTop (mkF m 122 #[.val (.int p0), .val (.int p1), .val (.int p2), .val (.int p3), .val (.int p4), .val (.int (e0_1 p0)), .val (.int (e0_2 p1)), .val (.int (e0_3 p2)), .val (.int (e0_4 p3)), .val (.int (1 : Int32)), .val (.ref b62), .val (.int ((e0_1 p0) + (1 : Int32))), .unset] [(.int (e0_2 p1))])) _
            refine XS.iload X79.here hx rfl (hb hby at_122) rfl ?_
            exact kt)
        have pre137 : ∀ t, Steps p.tables e below (T79.setTop (mkF m 131 #[.val (.int p0), .val (.int p1), .val (.int p2), .val (.int p3), .val (.int p4), .val (.int (e0_1 p0)), .val (.int (e0_2 p1)), .val (.int (e0_3 p2)), .val (.int (e0_4 p3)), .val (.int (1 : Int32)), .val (.ref b62), .val (.int ((e0_1 p0) + (1 : Int32))), .unset] [(.int ((e0_1 p0) + (1 : Int32))), (.int (e0_3 p2))])) t → Steps p.tables e below (s₁.setTop (entryFrame m #[(.int p0), (.int p1), (.int p2), (.int p3), (.int p4)] maxLocals)) t := fun t kt => pre136 t (by
            show Steps p.tables e below (T79.setTop (mkF m 124 #[.val (.int p0), .val (.int p1), .val (.int p2), .val (.int p3), .val (.int p4), .val (.int (e0_1 p0)), .val (.int (e0_2 p1)), .val (.int (e0_3 p2)), .val (.int (e0_4 p3)), .val (.int (1 : Int32)), .val (.ref b62), .val (.int ((e0_1 p0) + (1 : Int32))), .unset] [(.int ((e0_1 p0) + (1 : Int32))), (.int (e0_2 p1))])) _
            refine XS.icmpNo X79.here hx rfl (hb hby at_124) rfl (feq hc104_83).1 ?_
            show Steps p.tables e below (T79.setTop (mkF m 127 #[.val (.int p0), .val (.int p1), .val (.int p2), .val (.int p3), .val (.int p4), .val (.int (e0_1 p0)), .val (.int (e0_2 p1)), .val (.int (e0_3 p2)), .val (.int (e0_4 p3)), .val (.int (1 : Int32)), .val (.ref b62), .val (.int ((e0_1 p0) + (1 : Int32))), .unset] [])) _
            refine XS.iload X79.here hx rfl (hb hby at_127) rfl ?_
            show Steps p.tables e below (T79.setTop (mkF m 129 #[.val (.int p0), .val (.int p1), .val (.int p2), .val (.int p3), .val (.int p4), .val (.int (e0_1 p0)), .val (.int (e0_2 p1)), .val (.int (e0_3 p2)), .val (.int (e0_4 p3)), .val (.int (1 : Int32)), .val (.ref b62), .val (.int ((e0_1 p0) + (1 : Int32))), .unset] [(.int (e0_3 p2))])) _
            refine XS.iload X79.here hx rfl (hb hby at_129) rfl ?_
            exact kt)
        have pre138 : ∀ t, Steps p.tables e below (T79.setTop (mkF m 142 #[.val (.int p0), .val (.int p1), .val (.int p2), .val (.int p3), .val (.int p4), .val (.int (e0_1 p0)), .val (.int (e0_2 p1)), .val (.int (e0_3 p2)), .val (.int (e0_4 p3)), .val (.int (1 : Int32)), .val (.ref b62), .val (.int ((e0_1 p0) + (1 : Int32))), .unset] [(.int (1 : Int32))])) t → Steps p.tables e below (s₁.setTop (entryFrame m #[(.int p0), (.int p1), (.int p2), (.int p3), (.int p4)] maxLocals)) t := fun t kt => pre137 t (by
            show Steps p.tables e below (T79.setTop (mkF m 131 #[.val (.int p0), .val (.int p1), .val (.int p2), .val (.int p3), .val (.int p4), .val (.int (e0_1 p0)), .val (.int (e0_2 p1)), .val (.int (e0_3 p2)), .val (.int (e0_4 p3)), .val (.int (1 : Int32)), .val (.ref b62), .val (.int ((e0_1 p0) + (1 : Int32))), .unset] [(.int ((e0_1 p0) + (1 : Int32))), (.int (e0_3 p2))])) _
            refine XS.icmpYes X79.here hx rfl (pc0 := 131) (pc' := 140) rfl (hb hby at_131) rfl (feq hc111_110).2 (by decide) (by decide) ?_
            show Steps p.tables e below (T79.setTop (mkF m 140 #[.val (.int p0), .val (.int p1), .val (.int p2), .val (.int p3), .val (.int p4), .val (.int (e0_1 p0)), .val (.int (e0_2 p1)), .val (.int (e0_3 p2)), .val (.int (e0_4 p3)), .val (.int (1 : Int32)), .val (.ref b62), .val (.int ((e0_1 p0) + (1 : Int32))), .unset] [])) _
            refine XS.iload X79.here hx rfl (hb hby at_140) rfl ?_
            exact kt)
        obtain ⟨_, _, ⟨T139, L139, k139, n139⟩, -, X139, ⟨Lc139, hQ139, l139, y139, z139⟩, st139⟩ := Jvm.LawKit.callS X79 hx (y := (⟨"java/lang/Math", "min", "(II)I"⟩ : MethodName)) hown (mvT hZ (hw _ (List.mem_of_getElem? (i := 38) rfl))) (mvT hZ (hw _ (List.mem_of_getElem? (i := 39) rfl))) (mvT hZ (hw _ (List.mem_of_getElem? (i := 40) rfl))) (mvT hZ (hw _ (List.mem_of_getElem? (i := 41) rfl))) (by decide) (backOf (W := 0) (rm7 l Z a0 hw [] ((e0_1 p0) + (1 : Int32)) (e0_4 p3) T79.heap n0 Z81 ) hZ (hw _ (List.mem_of_getElem? (i := 41) rfl)) (hw _ (List.mem_of_getElem? (i := 40) rfl)) (by decide) (by decide)) (g := (mkF m 149 #[.val (.int p0), .val (.int p1), .val (.int p2), .val (.int p3), .val (.int p4), .val (.int (e0_1 p0)), .val (.int (e0_2 p1)), .val (.int (e0_3 p2)), .val (.int (e0_4 p3)), .val (.int (1 : Int32)), .val (.ref b62), .val (.int ((e0_1 p0) + (1 : Int32))), .unset] [(.int (e0_4 p3)), (.int ((e0_1 p0) + (1 : Int32)))])) rfl (by rw [hml]; rfl) (argsL := [(.int ((e0_1 p0) + (1 : Int32))), (.int (e0_4 p3))]) (rest := []) (lenOf pd_0_4 rfl) rfl (by show 2 * 0 + _ ≤ _; exact Nat.le_of_eq rfl) (hb hby at_149) (fun _ _ => ⟨rfl, rfl, (by decide : 4 + 0 ≤ _), (by decide : 63 + 0 ≤ _)⟩)
        dsimp only [Pt.U, Pt.locs, Pt.cells, Pt.slots] at X139 l139 y139 z139 st139 hQ139
        subst l139 y139 z139
        obtain ⟨rfl, N139q, e139q⟩ := hQ139
        have N139 := Fr.app N79 N139q
        have c141 := ((c75.keep K74q (ninS ne_b62_r_o0_open_65 nin0)).keep K79q (ninS ne_b62_r_o0_open_65 nin0))
        have c142 := (((((E_b62.keep K65q).keep K68q).keep K71q).keep K74q).keep K79q)
        obtain ⟨cq140, kq140, q140a, q140b, q140c⟩ := isOf hZ e139q c142
        obtain ⟨_, _, ⟨T140, L140, k140, n140⟩, -, X140, ⟨Lc140, hQ140, l140, y140, z140⟩, st140⟩ := X139.virtualBack hx (y := (⟨"com/example/cardhost/cardhost/LogicalChannels", "lowestClosed", "()I"⟩ : MethodName)) (z := (⟨"com/example/cardhost/cardhost/LogicalChannels", "lowestClosed", "()I"⟩ : MethodName)) hown (mvT hZ (hw _ (List.mem_of_getElem? (i := 28) rfl))) (mvT hZ (hw _ (List.mem_of_getElem? (i := 29) rfl))) (notFace_of_selects (args := #[]) (mvT hZ (hw _ (List.mem_of_getElem? (i := 31) rfl)))) (mvT hZ (hw _ (List.mem_of_getElem? (i := 31) rfl))) (mvT hZ (hw _ (List.mem_of_getElem? (i := 30) rfl))) (by decide) (backOf (W := 0) (rm5 l Z a0 hw [] b62 r_o0_open_65 (own_upd (own_upd (own_upd (f3_r1_a (e0_1 p0) (own_upd (fun _ => 0) 0 (1 : Int32))) ((e0_2 p1)).toNatClampNeg (1 : Int32)) ((e0_3 p2)).toNatClampNeg (1 : Int32)) ((e0_4 p3)).toNatClampNeg (0 : Int32)) T79.heap n0 Z81 c141 G79_0 g_r_o0_open_65) hZ (hw _ (List.mem_of_getElem? (i := 32) rfl)) (hw _ (List.mem_of_getElem? (i := 3) rfl)) (by decide) (by decide)) q140a q140c (g := (mkF m 161 #[.val (.int p0), .val (.int p1), .val (.int p2), .val (.int p3), .val (.int p4), .val (.int (e0_1 p0)), .val (.int (e0_2 p1)), .val (.int (e0_3 p2)), .val (.int (e0_4 p3)), .val (.int (1 : Int32)), .val (.ref b62), .val (.int ((e0_1 p0) + (1 : Int32))), .val (.int (f7 ((e0_1 p0) + (1 : Int32)) (e0_4 p3)))] [(.ref b62)])) rfl (by rw [hml]; rfl) (Steps.refl _) (argsL := []) (rest := []) (lenOf pd_0_3 rfl) rfl (by show 2 * 0 + _ ≤ _; exact Nat.le_of_eq rfl) (hb hby at_161) (fun _ _ => ⟨rfl, e139q, (by decide : 4 + 0 ≤ _), (by decide : 63 + 0 ≤ _)⟩)
        dsimp only [Pt.U, Pt.locs, Pt.cells, Pt.slots] at X140 l140 y140 z140 st140 hQ140
        subst l140 y140 z140
        obtain ⟨rfl, N140q, e140q⟩ := hQ140
        have N140 := Fr.app N139 N140q
        have pre143 : ∀ t, Steps p.tables e below (T140.setTop (mkF m 166 #[.val (.int p0), .val (.int p1), .val (.int p2), .val (.int p3), .val (.int p4), .val (.int (e0_1 p0)), .val (.int (e0_2 p1)), .val (.int (e0_3 p2)), .val (.int (e0_4 p3)), .val (.int (1 : Int32)), .val (.ref b62), .val (.int ((e0_1 p0) + (1 : Int32))), .val (.int (f7 ((e0_1 p0) + (1 : Int32)) (e0_4 p3)))] [(.int (f7 ((e0_1 p0) + (1 : Int32)) (e0_4 p3))), (.int (f5 (own_upd (own_upd (own_upd (f3_r1_a (e0_1 p0) (own_upd (fun _ => 0) 0 (1 : Int32))) ((e0_2 p1)).toNatClampNeg (1 : Int32)) ((e0_3 p2)).toNatClampNeg (1 : Int32)) ((e0_4 p3)).toNatClampNeg (0 : Int32))))])) t → Steps p.tables e below (s₁.setTop (entryFrame m #[(.int p0), (.int p1), (.int p2), (.int p3), (.int p4)] maxLocals)) t := fun t kt => pre138 t (by
            show Steps p.tables e below (T79.setTop (mkF m 142 #[.val (.int p0), .val (.int p1), .val (.int p2), .val (.int p3), .val (.int p4), .val (.int (e0_1 p0)), .val (.int (e0_2 p1)), .val (.int (e0_3 p2)), .val (.int (e0_4 p3)), .val (.int (1 : Int32)), .val (.ref b62), .val (.int ((e0_1 p0) + (1 : Int32))), .unset] [(.int (1 : Int32))])) _
            refine XS.ifNo X79.here hx rfl (hb hby at_142) rfl ((if0 _ _).trans (feq (by decide : ¬ ((1 : Int32) = (0 : Int32)))).1) ?_
            show Steps p.tables e below (T79.setTop (mkF m 145 #[.val (.int p0), .val (.int p1), .val (.int p2), .val (.int p3), .val (.int p4), .val (.int (e0_1 p0)), .val (.int (e0_2 p1)), .val (.int (e0_3 p2)), .val (.int (e0_4 p3)), .val (.int (1 : Int32)), .val (.ref b62), .val (.int ((e0_1 p0) + (1 : Int32))), .unset] [])) _
            refine XS.iload X79.here hx rfl (hb hby at_145) rfl ?_
            show Steps p.tables e below (T79.setTop (mkF m 147 #[.val (.int p0), .val (.int p1), .val (.int p2), .val (.int p3), .val (.int p4), .val (.int (e0_1 p0)), .val (.int (e0_2 p1)), .val (.int (e0_3 p2)), .val (.int (e0_4 p3)), .val (.int (1 : Int32)), .val (.ref b62), .val (.int ((e0_1 p0) + (1 : Int32))), .unset] [(.int ((e0_1 p0) + (1 : Int32)))])) _
            refine XS.iload X79.here hx rfl (hb hby at_147) rfl ?_
            show Steps p.tables e below (T79.setTop (mkF m 149 #[.val (.int p0), .val (.int p1), .val (.int p2), .val (.int p3), .val (.int p4), .val (.int (e0_1 p0)), .val (.int (e0_2 p1)), .val (.int (e0_3 p2)), .val (.int (e0_4 p3)), .val (.int (1 : Int32)), .val (.ref b62), .val (.int ((e0_1 p0) + (1 : Int32))), .unset] [(.int (e0_4 p3)), (.int ((e0_1 p0) + (1 : Int32)))])) _
            refine st139 _ ?_
            show Steps p.tables e below (T139.setTop (mkF m 152 #[.val (.int p0), .val (.int p1), .val (.int p2), .val (.int p3), .val (.int p4), .val (.int (e0_1 p0)), .val (.int (e0_2 p1)), .val (.int (e0_3 p2)), .val (.int (e0_4 p3)), .val (.int (1 : Int32)), .val (.ref b62), .val (.int ((e0_1 p0) + (1 : Int32))), .unset] [(.int (f7 ((e0_1 p0) + (1 : Int32)) (e0_4 p3)))])) _
            refine XS.goto X139.here hx rfl (pc0 := 152) (pc' := 157) rfl (hb hby at_152) (by decide) (by decide) ?_
            show Steps p.tables e below (T139.setTop (mkF m 157 #[.val (.int p0), .val (.int p1), .val (.int p2), .val (.int p3), .val (.int p4), .val (.int (e0_1 p0)), .val (.int (e0_2 p1)), .val (.int (e0_3 p2)), .val (.int (e0_4 p3)), .val (.int (1 : Int32)), .val (.ref b62), .val (.int ((e0_1 p0) + (1 : Int32))), .unset] [(.int (f7 ((e0_1 p0) + (1 : Int32)) (e0_4 p3)))])) _
            refine XS.istore X139.here hx rfl (hb hby at_157) rfl (l' := #[.val (.int p0), .val (.int p1), .val (.int p2), .val (.int p3), .val (.int p4), .val (.int (e0_1 p0)), .val (.int (e0_2 p1)), .val (.int (e0_3 p2)), .val (.int (e0_4 p3)), .val (.int (1 : Int32)), .val (.ref b62), .val (.int ((e0_1 p0) + (1 : Int32))), .val (.int (f7 ((e0_1 p0) + (1 : Int32)) (e0_4 p3)))]) rfl ?_
            show Steps p.tables e below (T139.setTop (mkF m 159 #[.val (.int p0), .val (.int p1), .val (.int p2), .val (.int p3), .val (.int p4), .val (.int (e0_1 p0)), .val (.int (e0_2 p1)), .val (.int (e0_3 p2)), .val (.int (e0_4 p3)), .val (.int (1 : Int32)), .val (.ref b62), .val (.int ((e0_1 p0) + (1 : Int32))), .val (.int (f7 ((e0_1 p0) + (1 : Int32)) (e0_4 p3)))] [])) _
            refine XS.aload X139.here hx rfl (hb hby at_159) rfl rfl ?_
            show Steps p.tables e below (T139.setTop (mkF m 161 #[.val (.int p0), .val (.int p1), .val (.int p2), .val (.int p3), .val (.int p4), .val (.int (e0_1 p0)), .val (.int (e0_2 p1)), .val (.int (e0_3 p2)), .val (.int (e0_4 p3)), .val (.int (1 : Int32)), .val (.ref b62), .val (.int ((e0_1 p0) + (1 : Int32))), .val (.int (f7 ((e0_1 p0) + (1 : Int32)) (e0_4 p3)))] [(.ref b62)])) _
            refine st140.trans ?_
            show Steps p.tables e below (T140.setTop (mkF m 164 #[.val (.int p0), .val (.int p1), .val (.int p2), .val (.int p3), .val (.int p4), .val (.int (e0_1 p0)), .val (.int (e0_2 p1)), .val (.int (e0_3 p2)), .val (.int (e0_4 p3)), .val (.int (1 : Int32)), .val (.ref b62), .val (.int ((e0_1 p0) + (1 : Int32))), .val (.int (f7 ((e0_1 p0) + (1 : Int32)) (e0_4 p3)))] [(.int (f5 (own_upd (own_upd (own_upd (f3_r1_a (e0_1 p0) (own_upd (fun _ => 0) 0 (1 : Int32))) ((e0_2 p1)).toNatClampNeg (1 : Int32)) ((e0_3 p2)).toNatClampNeg (1 : Int32)) ((e0_4 p3)).toNatClampNeg (0 : Int32))))])) _
            refine XS.iload X140.here hx rfl (hb hby at_164) rfl ?_
            exact kt)
        have hd166_144 : (f5 (own_upd (own_upd (own_upd (f3_r1_a (e0_1 p0) (own_upd (fun _ => 0) 0 (1 : Int32))) ((e0_2 p1)).toNatClampNeg (1 : Int32)) ((e0_3 p2)).toNatClampNeg (1 : Int32)) ((e0_4 p3)).toNatClampNeg (0 : Int32))) = (f7 ((e0_1 p0) + (1 : Int32)) (e0_4 p3)) := by have q0 := hc104_83; rw [← Int32.toInt_inj] at q0; have q1 := hc111_110; rw [← Int32.toInt_inj] at q1; have s1 := c_iadd (e0_1 p0) 1; have r1 := rng32 ((e0_1 p0) + 1); have s2 := c_iadd ((e0_1 p0) + 1) 1; have r2 := rng32 ((e0_1 p0) + 1 + 1); have s3 := c_iadd ((e0_1 p0) + 1 + 1) 1; have r3 := rng32 ((e0_1 p0) + 1 + 1 + 1); have e1 : (1 : Int32).toInt = 1 := (by decide); rw [e1] at s1 s2 s3; have hk : 0 ≤ (e0_1 p0).toInt ∧ (e0_1 p0).toInt ≤ 19 := own_b p0; have ha : 0 ≤ (e0_2 p1).toInt ∧ (e0_2 p1).toInt ≤ 19 := own_b p1; have hb : 0 ≤ (e0_3 p2).toInt ∧ (e0_3 p2).toInt ≤ 19 := own_b p2; exact own_fin1 (M := ((e0_1 p0) + (1 : Int32))) hk ha hb (own_c p3) (by unfold own_mm; repeat' split; all_goals omega)
        obtain ⟨fs, hr, hrun, hended, hW, hsame⟩ := X140.leave (v := some (.int (1 : Int32))) (fun h => by rw [Bd.returns] at h; cases h)
        have hv158 : (1 : Int32) = (1 : Int32) := rfl
        refine ⟨_, _, pre143 _ ?_, hrun, hended, _, _, rfl, ?_, ⟨_, rfl⟩, hW, hsame.mono (by decide) (by decide)⟩
        · show Steps p.tables e below (T140.setTop (mkF m 166 #[.val (.int p0), .val (.int p1), .val (.int p2), .val (.int p3), .val (.int p4), .val (.int (e0_1 p0)), .val (.int (e0_2 p1)), .val (.int (e0_3 p2)), .val (.int (e0_4 p3)), .val (.int (1 : Int32)), .val (.ref b62), .val (.int ((e0_1 p0) + (1 : Int32))), .val (.int (f7 ((e0_1 p0) + (1 : Int32)) (e0_4 p3)))] [(.int (f7 ((e0_1 p0) + (1 : Int32)) (e0_4 p3))), (.int (f5 (own_upd (own_upd (own_upd (f3_r1_a (e0_1 p0) (own_upd (fun _ => 0) 0 (1 : Int32))) ((e0_2 p1)).toNatClampNeg (1 : Int32)) ((e0_3 p2)).toNatClampNeg (1 : Int32)) ((e0_4 p3)).toNatClampNeg (0 : Int32))))])) _
          refine XS.icmpNo X140.here hx rfl (hb hby at_166) rfl (teq hd166_144).2 ?_
          show Steps p.tables e below (T140.setTop (mkF m 169 #[.val (.int p0), .val (.int p1), .val (.int p2), .val (.int p3), .val (.int p4), .val (.int (e0_1 p0)), .val (.int (e0_2 p1)), .val (.int (e0_3 p2)), .val (.int (e0_4 p3)), .val (.int (1 : Int32)), .val (.ref b62), .val (.int ((e0_1 p0) + (1 : Int32))), .val (.int (f7 ((e0_1 p0) + (1 : Int32)) (e0_4 p3)))] [])) _
          refine XS.iconst X140.here hx rfl (hb hby at_169) ?_
          show Steps p.tables e below (T140.setTop (mkF m 170 #[.val (.int p0), .val (.int p1), .val (.int p2), .val (.int p3), .val (.int p4), .val (.int (e0_1 p0)), .val (.int (e0_2 p1)), .val (.int (e0_3 p2)), .val (.int (e0_4 p3)), .val (.int (1 : Int32)), .val (.ref b62), .val (.int ((e0_1 p0) + (1 : Int32))), .val (.int (f7 ((e0_1 p0) + (1 : Int32)) (e0_4 p3)))] [(.int (1 : Int32))])) _
          refine XS.goto X140.here hx rfl (pc0 := 170) (pc' := 174) rfl (hb hby at_170) (by decide) (by decide) ?_
          show Steps p.tables e below (T140.setTop (mkF m 174 #[.val (.int p0), .val (.int p1), .val (.int p2), .val (.int p3), .val (.int p4), .val (.int (e0_1 p0)), .val (.int (e0_2 p1)), .val (.int (e0_3 p2)), .val (.int (e0_4 p3)), .val (.int (1 : Int32)), .val (.ref b62), .val (.int ((e0_1 p0) + (1 : Int32))), .val (.int (f7 ((e0_1 p0) + (1 : Int32)) (e0_4 p3)))] [(.int (1 : Int32))])) _
          exact retN X140 hx (t := .boolean) Bd.returns (by simp) (hb hby at_174) hr
        · show Q0 Z p0 p1 p2 p3 p4 h0 n0 _ T140.heap _
          rw [e140q]
          exact ⟨congrArg (fun q => some (Value.int q)) hv158, N140⟩
set_option maxRecDepth 65536 in
set_option maxHeartbeats 40000000 in
theorem comes_1 {Post : Tables → Env → Array Value → State → Outcome → State → Prop} (hpost : ∀ tb e args s v u, (limb_1_1.after args s (.returned v) u = true ∧ limb_1_2.after args s (.returned v) u = true ∧ True) → FrameEnd s (.returned v) u (Jvm.fieldLocs frame_1_writes args s ++ Jvm.arrayLocs frame_1_arrays args s ++ Jvm.staticLocs frame_1_statics s) 16 192 → Post tb e args s (.returned v) u) :
    ArmFor flags0 classFile x code maxLocals ret World_1 tables_1 room_1 Calls_1 rest_1 Pre_1 Post := by
  intro l hfl _ _ p e ha hc hk s m args below hf hA hF happ hP
  obtain ⟨hcalls, hrest, hpre⟩ := hP
  obtain ⟨-, -, -, hnamed, -, -, -, hat⟩ := (Spec.applies_iff hf).mp happ
  obtain ⟨hg, hn⟩ := and_e (Cond.before_iff.mp (show (Jvm.Cond.and given_1 narrow_1).before args s = true from hpre))
  obtain ⟨g1, g2⟩ := and_e hg
  obtain ⟨g3, g4⟩ := and_e g2
  obtain ⟨g5, g6⟩ := and_e g4
  obtain ⟨g7, g8⟩ := and_e g6
  obtain ⟨g9, g10⟩ := and_e g8
  obtain ⟨w0, w1, w2, w3, w4, rfl⟩ : ∃ w0 w1 w2 w3 w4 : Value, args = #[w0, w1, w2, w3, w4] := by
    have hs : args.size = 5 := by simpa [Cond.value, given_1] using g1
    obtain ⟨L⟩ := args
    match L, hs with
    | [w0, w1, w2, w3, w4], _ => exact ⟨w0, w1, w2, w3, w4, rfl⟩
  have hw := fun d (hd : d ∈ tables_1) => atoms_spec (ws := Jvm.Cond.code x code maxLocals ret :: tables_1) hat d (List.mem_cons_of_mem _ hd)
  have hfit : Fit s := fun {y c} hc i hi => by
    obtain ⟨ha, rfl⟩ := Array.getElem?_eq_some_iff.mp hc
    have q := List.all_eq_true.mp ((Array.all_eq_true_iff_forall_mem.mp hF) _ (Array.getElem_mem ha)) i (List.mem_range.mpr hi)
    simpa [Array.getElem?_eq_getElem hi] using q
  obtain ⟨i0, ei0⟩ := is_v g3
  obtain rfl : w0 = (.int i0) := Option.some.inj ei0
  obtain ⟨i1, ei1⟩ := is_v g5
  obtain rfl : w1 = (.int i1) := Option.some.inj ei1
  obtain ⟨i2, ei2⟩ := is_v g7
  obtain rfl : w2 = (.int i2) := Option.some.inj ei2
  obtain ⟨i3, ei3⟩ := is_v g9
  obtain rfl : w3 = (.int i3) := Option.some.inj ei3
  obtain ⟨i4, ei4⟩ := is_v g10
  obtain rfl : w4 = (.int i4) := Option.some.inj ei4
  obtain ⟨n, o, h1, h2, h3, _, L, rfl, ⟨hv0, N⟩, hq⟩ := rm0 l s _ hw tables_1 i0 i1 i2 i3 i4 s.heap s.heap.size (Nat.le_refl _) p e ha hc hk s m _ below hf ((Spec.applies_iff_loose hf).mp happ).1 ⟨rfl, State.Warmed39.refl s, rfl⟩ trivial
  subst hv0
  refine ⟨n, _, h1, h2, h3, hpost _ _ _ _ _ _ ⟨Cond.after_iff.mpr rfl, Cond.after_iff.mpr (eq_i res_at (Term.int_eval (1)) rfl), trivial⟩ ⟨hq.1, hq.2.1, (hq.2.2.sift fun y hy => Or.inr (N y hy)).mono (by decide) (by decide)⟩⟩
theorem main_1_1 : Claimed_1_1 := comes_1 fun _ _ _ _ _ _ h hF => ⟨h.1, hF⟩
theorem main_1_2 : Claimed_1_2 := comes_1 fun _ _ _ _ _ _ h hF => ⟨h.2.1, hF⟩
end Jvm.Pilot.@@N@@
namespace Jvm.Pilot.@@N@@
open Jvm Jvm.ClassFile Sem Op Lib Jvm.Free Jvm.Stand Jvm.Pilot.@@N@@.Jvm.D
/-! MADE BY PROGRAM (witnessworld.py) out of the Statement's table words and the real class files: 14 classes; the members and pool entries that the words name. The judged class is class 1, her method 1. -/
namespace start1
open Jvm.ClassFile
def u (s : String) : CpInfo := .utf8 (stringToUtf16 s)
/-- a pool by its gaps: so many unusable entries, then the entry; so many at the end -/
def gap : Nat → List CpInfo → List CpInfo
  | 0, r => r
  | n + 1, r => .unusable :: gap n r
def poolList (es : List (Nat × CpInfo)) (last : Nat) : List CpInfo := es.foldr (fun e r => gap e.1 (e.2 :: r)) (gap last [])
def pool (es : List (Nat × CpInfo)) (last : Nat) : Array CpInfo := ⟨poolList es last⟩
def fileOf (pool : Array CpInfo) (this : Nat) (attrs : Array Attribute := #[]) (ms : Array MethodInfo := #[]) (fl : Nat := 33) (sup : Nat := 0) (ifs : Array Nat := #[]) (fds : Array FieldInfo := #[]) : ClassFile where
  minorVersion := 0
  majorVersion := 65
  constantPool := pool
  accessFlags := fl
  thisClass := this
  superClass := sup
  interfaces := ifs
  fields := fds
  methods := ms
  attributes := attrs
def plain (name : String) (sup : Option ClassId) : Class where
  name := name
  kind := .ordinary
  loader := none
  accessFlags := 33
  super := sup
  interfaces := #[]
  cf := none
  fields := #[]
  methods := #[]
  instanceTypes := #[]
  staticTypes := #[]
  resolved := #[]
  callSites := []
  init := .initialized
  statics := none
  mirror := none

def pool0 : Array CpInfo := pool [(5, u "<init>"), (0, u "()V"), (1, .class_ 10), (1, u "java/lang/Object")] 113

def k0c0 : Code := { maxStack := 0, maxLocals := 1, code := object_method_1_code, exceptionTable := #[], attributes := #[] }
def k0m0 : Method := { name := "<init>", desc := "()V", sig := { parameters := [], returnType := none }, accessFlags := 1, code := some k0c0 }
/-- java/lang/Object -/
def k0 : Class := { plain "java/lang/Object" none with
  accessFlags := 33
  interfaces := #[]
  cf := some (fileOf pool0 8 #[] #[{ accessFlags := 1, nameIndex := 5, descriptorIndex := 6, attributes := #[] }] 33 0 #[] #[])
  fields := #[]
  methods := #[k0m0]
  instanceTypes := #[]
  staticTypes := #[]
  resolved := Array.replicate 124 none
  statics := none }

def pool1 : Array CpInfo := pool [(2, .class_ 4), (0, .nameAndType 5 6), (0, u "java/lang/Object"), (0, u "<init>"), (0, u "()V"), (0, .integer 2147483647), (0, .class_ 9), (0, u "com/example/cardhost/cardhost/LogicalChannels"), (0, .methodref 8 3), (0, .methodref 12 13), (0, .class_ 14), (0, .nameAndType 15 16), (0, u "com/example/cardhost/cardhost/LogicalChannelsLowestClosedPinLaw"), (0, u "openPrefix"), (0, u "(Lcom/example/cardhost/cardhost/LogicalChannels;I)V"), (0, .methodref 8 18), (0, .nameAndType 19 20), (0, u "open"), (0, u "(I)V"), (0, .methodref 8 22), (0, .nameAndType 23 20), (0, u "close"), (0, .methodref 25 26), (0, .class_ 27), (0, .nameAndType 28 29), (0, u "java/lang/Math"), (0, u "min"), (0, u "(II)I"), (0, .methodref 8 31), (0, .nameAndType 32 33), (0, u "lowestClosed"), (0, u "()I"), (2, u "law"), (0, u "(IIIII)Z")] 3

def k1m0 : Method := { name := "<init>", desc := "()V", sig := { parameters := [], returnType := none }, accessFlags := 1, code := none }
def k1c1 : Code := { maxStack := 3, maxLocals := 13, code := code, exceptionTable := #[], attributes := #[] }
def k1m1 : Method := { name := "law", desc := "(IIIII)Z", sig := { parameters := [.int, .int, .int, .int, .int], returnType := some .boolean }, accessFlags := 9, code := some k1c1 }
def k1c2 : Code := { maxStack := 2, maxLocals := 2, code := method_3_code, exceptionTable := #[], attributes := #[] }
def k1m2 : Method := { name := "openPrefix", desc := "(Lcom/example/cardhost/cardhost/LogicalChannels;I)V", sig := { parameters := [(.object "com/example/cardhost/cardhost/LogicalChannels"), .int], returnType := none }, accessFlags := 10, code := some k1c2 }
/-- com/example/cardhost/cardhost/LogicalChannelsLowestClosedPinLaw -/
def k1 : Class := { plain "com/example/cardhost/cardhost/LogicalChannelsLowestClosedPinLaw" (some 0) with
  accessFlags := 49
  interfaces := #[]
  cf := some (fileOf pool1 12 #[] #[{ accessFlags := 1, nameIndex := 5, descriptorIndex := 6, attributes := #[] }, { accessFlags := 9, nameIndex := 36, descriptorIndex := 37, attributes := #[] }, { accessFlags := 10, nameIndex := 15, descriptorIndex := 16, attributes := #[] }] 49 2 #[] #[])
  fields := #[]
  methods := #[k1m0, k1m1, k1m2]
  instanceTypes := #[]
  staticTypes := #[]
  resolved := Array.replicate 41 none
  statics := none }

def pool2 : Array CpInfo := pool [(1, .methodref 2 3), (0, .class_ 4), (0, .nameAndType 5 6), (0, u "java/lang/Object"), (0, u "<init>"), (0, u "()V"), (0, .class_ 8), (0, u "com/example/cardhost/cardhost/LogicalChannels"), (0, .fieldref 7 10), (0, .nameAndType 11 12), (0, u "open"), (0, u "[Z"), (0, .class_ 14), (0, u "com/example/cardhost/cardhost/InstalledApplet"), (0, .fieldref 7 16), (0, .nameAndType 17 18), (0, u "active"), (0, u "[Lcom/example/cardhost/cardhost/InstalledApplet;"), (0, .fieldref 7 20), (0, .nameAndType 21 18), (0, u "defaults"), (20, u "COUNT"), (0, u "I"), (2, u "NONE"), (5, u "lowestClosed"), (0, u "()I"), (1, u "(I)V"), (0, u "close")] 42

def k2c0 : Code := { maxStack := 3, maxLocals := 1, code := prog_4_method_1_code, exceptionTable := #[], attributes := #[] }
def k2m0 : Method := { name := "<init>", desc := "()V", sig := { parameters := [], returnType := none }, accessFlags := 0, code := some k2c0 }
def k2c1 : Code := { maxStack := 2, maxLocals := 2, code := prog_4_method_3_code, exceptionTable := #[], attributes := #[] }
def k2m1 : Method := { name := "lowestClosed", desc := "()I", sig := { parameters := [], returnType := some .int }, accessFlags := 0, code := some k2c1 }
def k2c2 : Code := { maxStack := 3, maxLocals := 2, code := prog_4_method_4_code, exceptionTable := #[], attributes := #[] }
def k2m2 : Method := { name := "open", desc := "(I)V", sig := { parameters := [.int], returnType := none }, accessFlags := 0, code := some k2c2 }
def k2c3 : Code := { maxStack := 3, maxLocals := 2, code := prog_4_method_5_code, exceptionTable := #[], attributes := #[] }
def k2m3 : Method := { name := "close", desc := "(I)V", sig := { parameters := [.int], returnType := none }, accessFlags := 0, code := some k2c3 }
/-- com/example/cardhost/cardhost/LogicalChannels -/
def k2 : Class := { plain "com/example/cardhost/cardhost/LogicalChannels" (some 0) with
  accessFlags := 48
  interfaces := #[]
  cf := some (fileOf pool2 7 #[] #[{ accessFlags := 0, nameIndex := 5, descriptorIndex := 6, attributes := #[] }, { accessFlags := 0, nameIndex := 52, descriptorIndex := 53, attributes := #[] }, { accessFlags := 0, nameIndex := 11, descriptorIndex := 55, attributes := #[] }, { accessFlags := 0, nameIndex := 56, descriptorIndex := 55, attributes := #[] }] 48 2 #[] #[{ accessFlags := 24, nameIndex := 42, descriptorIndex := 43, attributes := #[] }, { accessFlags := 24, nameIndex := 46, descriptorIndex := 43, attributes := #[] }, { accessFlags := 18, nameIndex := 11, descriptorIndex := 12, attributes := #[] }, { accessFlags := 18, nameIndex := 17, descriptorIndex := 18, attributes := #[] }, { accessFlags := 18, nameIndex := 21, descriptorIndex := 18, attributes := #[] }])
  fields := #[{ name := "COUNT", type := .int, accessFlags := 24, slot := 0, constantValue := 0 }, { name := "NONE", type := .int, accessFlags := 24, slot := 1, constantValue := 0 }, { name := "open", type := (.array .boolean), accessFlags := 18, slot := 0, constantValue := 0 }, { name := "active", type := (.array (.object "com/example/cardhost/cardhost/InstalledApplet")), accessFlags := 18, slot := 1, constantValue := 0 }, { name := "defaults", type := (.array (.object "com/example/cardhost/cardhost/InstalledApplet")), accessFlags := 18, slot := 2, constantValue := 0 }]
  methods := #[k2m0, k2m1, k2m2, k2m3]
  instanceTypes := #[(.array .boolean), (.array (.object "com/example/cardhost/cardhost/InstalledApplet")), (.array (.object "com/example/cardhost/cardhost/InstalledApplet"))]
  staticTypes := #[.int, .int]
  resolved := Array.replicate 99 none
  statics := none }

def pool3 : Array CpInfo := pool [(2, .class_ 4), (1, u "java/lang/Object"), (3, .class_ 10), (1, u "com/example/cardhost/cardhost/InstalledApplet"), (0, u "aid"), (0, u "Lcom/example/cardhost/cardhost/Aid;"), (2, u "applet"), (0, u "Ljavacard/framework/Applet;"), (12, u "context"), (0, u "Ljava/lang/Package;")] 30

/-- com/example/cardhost/cardhost/InstalledApplet -/
def k3 : Class := { plain "com/example/cardhost/cardhost/InstalledApplet" (some 0) with
  accessFlags := 48
  interfaces := #[]
  cf := some (fileOf pool3 8 #[] #[] 48 2 #[] #[{ accessFlags := 18, nameIndex := 11, descriptorIndex := 12, attributes := #[] }, { accessFlags := 18, nameIndex := 15, descriptorIndex := 16, attributes := #[] }, { accessFlags := 18, nameIndex := 29, descriptorIndex := 30, attributes := #[] }])
  fields := #[{ name := "aid", type := (.object "com/example/cardhost/cardhost/Aid"), accessFlags := 18, slot := 0, constantValue := 0 }, { name := "applet", type := (.object "javacard/framework/Applet"), accessFlags := 18, slot := 1, constantValue := 0 }, { name := "context", type := (.object "java/lang/Package"), accessFlags := 18, slot := 2, constantValue := 0 }]
  methods := #[]
  instanceTypes := #[(.object "com/example/cardhost/cardhost/Aid"), (.object "javacard/framework/Applet"), (.object "java/lang/Package")]
  staticTypes := #[]
  resolved := Array.replicate 61 none
  statics := none }

def pool4 : Array CpInfo := pool [(1, .class_ 2), (0, u "java/lang/Math"), (1, .class_ 6), (1, u "java/lang/Object"), (0, u "<init>"), (0, u "()V"), (89, .class_ 100), (1, u "java/lang/Math$RandomNumberGeneratorHolder"), (71, u "negativeZeroFloatBits"), (0, u "J"), (2, u "negativeZeroDoubleBits"), (24, u "min"), (43, u "$assertionsDisabled"), (0, u "Z"), (88, u "(II)I"), (2, u "twoToTheDoubleScaleDown"), (0, u "D"), (4, u "twoToTheDoubleScaleUp"), (9, u "E"), (3, u "PI"), (2, u "TAU"), (2, u "DEGREES_TO_RADIANS"), (0, u "RADIANS_TO_DEGREES")] 94

def k4m0 : Method := { name := "<init>", desc := "()V", sig := { parameters := [], returnType := none }, accessFlags := 2, code := none }
def k4c1 : Code := { maxStack := 2, maxLocals := 2, code := jdk_29_method_69_code, exceptionTable := #[], attributes := #[] }
def k4m1 : Method := { name := "min", desc := "(II)I", sig := { parameters := [.int, .int], returnType := some .int }, accessFlags := 9, code := some k4c1 }
/-- java/lang/Math -/
def k4 : Class := { plain "java/lang/Math" (some 0) with
  accessFlags := 49
  interfaces := #[]
  cf := some (fileOf pool4 1 #[.nestMembers #[98]] #[{ accessFlags := 2, nameIndex := 7, descriptorIndex := 8, attributes := #[] }, { accessFlags := 9, nameIndex := 201, descriptorIndex := 335, attributes := #[] }] 49 4 #[] #[{ accessFlags := 25, nameIndex := 354, descriptorIndex := 339, attributes := #[] }, { accessFlags := 25, nameIndex := 358, descriptorIndex := 339, attributes := #[] }, { accessFlags := 25, nameIndex := 361, descriptorIndex := 339, attributes := #[] }, { accessFlags := 26, nameIndex := 364, descriptorIndex := 339, attributes := #[] }, { accessFlags := 26, nameIndex := 365, descriptorIndex := 339, attributes := #[] }, { accessFlags := 26, nameIndex := 172, descriptorIndex := 173, attributes := #[] }, { accessFlags := 26, nameIndex := 176, descriptorIndex := 173, attributes := #[] }, { accessFlags := 8, nameIndex := 344, descriptorIndex := 339, attributes := #[] }, { accessFlags := 8, nameIndex := 338, descriptorIndex := 339, attributes := #[] }, { accessFlags := 4120, nameIndex := 245, descriptorIndex := 246, attributes := #[] }])
  fields := #[{ name := "E", type := .double, accessFlags := 25, slot := 0, constantValue := 0 }, { name := "PI", type := .double, accessFlags := 25, slot := 1, constantValue := 0 }, { name := "TAU", type := .double, accessFlags := 25, slot := 2, constantValue := 0 }, { name := "DEGREES_TO_RADIANS", type := .double, accessFlags := 26, slot := 3, constantValue := 0 }, { name := "RADIANS_TO_DEGREES", type := .double, accessFlags := 26, slot := 4, constantValue := 0 }, { name := "negativeZeroFloatBits", type := .long, accessFlags := 26, slot := 5, constantValue := 0 }, { name := "negativeZeroDoubleBits", type := .long, accessFlags := 26, slot := 6, constantValue := 0 }, { name := "twoToTheDoubleScaleUp", type := .double, accessFlags := 8, slot := 7, constantValue := 0 }, { name := "twoToTheDoubleScaleDown", type := .double, accessFlags := 8, slot := 8, constantValue := 0 }, { name := "$assertionsDisabled", type := .boolean, accessFlags := 4120, slot := 9, constantValue := 0 }]
  methods := #[k4m0, k4m1]
  instanceTypes := #[]
  staticTypes := #[.double, .double, .double, .double, .double, .long, .long, .double, .double, .boolean]
  resolved := Array.replicate 460 none
  statics := none }

def pool5 : Array CpInfo := pool [(1, u "java/lang/Cloneable"), (0, .class_ 1), (0, u "java/lang/Object"), (0, .class_ 3)] 3

/-- java/lang/Cloneable -/
def k5 : Class := { plain "java/lang/Cloneable" (some 0) with
  accessFlags := 1537
  interfaces := #[]
  cf := some (fileOf pool5 2 #[] #[] 1537 4 #[] #[])
  fields := #[]
  methods := #[]
  instanceTypes := #[]
  staticTypes := #[]
  resolved := Array.replicate 8 none
  statics := none }

def pool6 : Array CpInfo := pool [(1, u "java/io/Serializable"), (0, .class_ 1), (0, u "java/lang/Object"), (0, .class_ 3)] 3

/-- java/io/Serializable -/
def k6 : Class := { plain "java/io/Serializable" (some 0) with
  accessFlags := 1537
  interfaces := #[]
  cf := some (fileOf pool6 2 #[] #[] 1537 4 #[] #[])
  fields := #[]
  methods := #[]
  instanceTypes := #[]
  staticTypes := #[]
  resolved := Array.replicate 8 none
  statics := none }

/-- the primitive boolean -/
def k7 : Class := { plain "boolean" none with kind := .primitive 'Z', accessFlags := 0x411 }
/-- [Z -/
def k8 : Class := { plain "[Z" (some 0) with kind := .array 7 .boolean, interfaces := #[5, 6], accessFlags := 1041 }

/-- the primitive byte -/
def k9 : Class := { plain "byte" none with kind := .primitive 'B', accessFlags := 0x411 }
/-- [B -/
def k10 : Class := { plain "[B" (some 0) with kind := .array 9 .byte, interfaces := #[5, 6], accessFlags := 1041 }

/-- the primitive int -/
def k11 : Class := { plain "int" none with kind := .primitive 'I', accessFlags := 0x411 }
/-- [I -/
def k12 : Class := { plain "[I" (some 0) with kind := .array 11 .int, interfaces := #[5, 6], accessFlags := 1041 }

/-- [Lcom/example/cardhost/cardhost/InstalledApplet; -/
def k13 : Class := { plain "[Lcom/example/cardhost/cardhost/InstalledApplet;" (some 0) with kind := .array 3 (.object "com/example/cardhost/cardhost/InstalledApplet"), interfaces := #[5, 6], accessFlags := 1041 }

def heap : Heap := #[]
def classes : Array Class := #[k0, k1, k2, k3, k4, k5, k6, k7, k8, k9, k10, k11, k12, k13]
def interned : List (Array UInt16 × Addr) := []
def slotsUsed : Nat := 0
def theMethod : MethodId := ⟨1, 1⟩
def args0 : Array Value := #[.int 5, .int 9, .int 3, .int 5, .int 7]
def aboutOver (below : List Frame) : State where
  vm := { classes := classes, interned := interned.toArray }
  heap := heap
  slotsUsed := slotsUsed
  threads := #[{ frames := .invoking theMethod args0 :: below }]
def below0 : List Frame := [.native { method := ⟨0, 0⟩, args := #[] }]
def about1 : State := aboutOver below0
def p0 : Program := .bare "" "" ""
def e0 : Env := launch0.env 0 0 0
theorem w_frames : about1.frames = Frame.invoking theMethod args0 :: below0 := rfl
set_option maxRecDepth 65536 in
theorem w_args : argsFit about1.vm theMethod args0 = true := by decide +kernel
set_option maxRecDepth 65536 in
theorem w_heap : heapFits about1 = true := by decide +kernel
set_option maxRecDepth 65536 in
theorem w_runnable : about1.curStatus? = some .runnable := by decide +kernel
set_option maxRecDepth 65536 in
theorem w_alone : about1.alone = true := by decide +kernel
set_option maxRecDepth 65536 in
theorem w_named : about1.methodNamed? x = some theMethod := by decide +kernel
set_option maxRecDepth 65536 in
theorem w_hears : about1.hears theMethod below0 = true := by decide +kernel
set_option maxRecDepth 65536 in
theorem w_ripe : about1.ripe theMethod args0 below0 = true := by decide +kernel
theorem w_running : about1.status = .running := rfl
set_option maxRecDepth 65536 in
theorem w_room : about1.hasRoom e0.platform room_1 = true :=
  launch0.hasRoom_least _ room_1 (by decide +kernel) (by decide +kernel) (by decide +kernel) (by decide +kernel) (by decide +kernel) (by decide +kernel)
theorem allAtoms_all (ts : List Jvm.Cond) (a : Array Jvm.Value) (st : Jvm.State) : (allAtoms ts).before a st = ts.all (fun c => c.before a st) := by
  induction ts with
  | nil => rfl
  | cons c t ih =>
    show (Jvm.Cond.and c (allAtoms t)).before a st = _
    rw [Jvm.Cond.before_and, ih, List.all_cons]
def words1 : List Jvm.Cond := Jvm.Cond.code x code maxLocals ret :: tables_1
/-- a 'code' word, met by the world's own term for the bytes: nothing is compared byte by byte -/
theorem code_word {y : MethodName} {bytes : ByteArray} {mx : Nat} {rt : Option FieldType} {a : Array Value} {s : State} {m : MethodId} {meth : Method} {c : Code} (h1 : s.methodNamed? y = some m) (h2 : s.vm.method? m = some meth) (h3 : meth.code = some c) (h4 : c.code = bytes)
    (h5 : (c.maxLocals == mx && c.exceptionTable.isEmpty && decide (c.maxStack ≤ mostOperands) && decide (meth.sig.returnType = rt) && !meth.locks && decide (parseMethodDescriptor y.desc = some meth.sig)) = true) : (Jvm.Cond.code y bytes mx rt).before a s = true := by
  simp only [Bool.and_eq_true, beq_iff_eq, Bool.not_eq_true', decide_eq_true_eq] at h5
  obtain ⟨⟨⟨⟨⟨g1, g2⟩, g3⟩, g4⟩, g5⟩, g6⟩ := h5
  simp [Cond.before, Cond.holds, Cond.value, h1, h2, h3, h4, g1, g2, g3, g4, g5, g6]
def isCode : Jvm.Cond → Bool
  | .code _ _ _ _ => true
  | _ => false
theorem all_split {L : List Jvm.Cond} {P : Jvm.Cond → Bool} (h1 : L.all (fun c => isCode c || P c) = true) (h2 : ∀ c ∈ L.filter isCode, P c = true) : L.all P = true := by
  refine List.all_eq_true.mpr fun c hc => ?_
  have h := List.all_eq_true.mp h1 c hc
  rcases Bool.eq_false_or_eq_true (isCode c) with hi | hi
  · exact h2 c (List.mem_filter.mpr ⟨hc, hi⟩)
  · simpa [hi] using h
set_option maxRecDepth 65536 in
theorem w_c0 : (Jvm.Cond.code x code maxLocals ret).before args0 about1 = true := code_word (m := ⟨1, 1⟩) (meth := k1m1) (c := k1c1) (by decide +kernel) rfl rfl rfl (by decide +kernel)
set_option maxRecDepth 65536 in
theorem w_c1 : (Jvm.Cond.code ({ cls := "com/example/cardhost/cardhost/LogicalChannels", name := "<init>", desc := "()V" } : Jvm.MethodName) prog_4_method_1_code (1 : Nat) (Option.none : Option Jvm.ClassFile.FieldType)).before args0 about1 = true := code_word (m := ⟨2, 0⟩) (meth := k2m0) (c := k2c0) (by decide +kernel) rfl rfl rfl (by decide +kernel)
set_option maxRecDepth 65536 in
theorem w_c2 : (Jvm.Cond.code ({ cls := "java/lang/Object", name := "<init>", desc := "()V" } : Jvm.MethodName) object_method_1_code (1 : Nat) (Option.none : Option Jvm.ClassFile.FieldType)).before args0 about1 = true := code_word (m := ⟨0, 0⟩) (meth := k0m0) (c := k0c0) (by decide +kernel) rfl rfl rfl (by decide +kernel)
set_option maxRecDepth 65536 in
theorem w_c3 : (Jvm.Cond.code ({ cls := "com/example/cardhost/cardhost/LogicalChannelsLowestClosedPinLaw", name := "openPrefix", desc := "(Lcom/example/cardhost/cardhost/LogicalChannels;I)V" } : Jvm.MethodName) method_3_code (2 : Nat) (Option.none : Option Jvm.ClassFile.FieldType)).before args0 about1 = true := code_word (m := ⟨1, 2⟩) (meth := k1m2) (c := k1c2) (by decide +kernel) rfl rfl rfl (by decide +kernel)
set_option maxRecDepth 65536 in
theorem w_c4 : (Jvm.Cond.code ({ cls := "com/example/cardhost/cardhost/LogicalChannels", name := "open", desc := "(I)V" } : Jvm.MethodName) prog_4_method_4_code (2 : Nat) (Option.none : Option Jvm.ClassFile.FieldType)).before args0 about1 = true := code_word (m := ⟨2, 2⟩) (meth := k2m2) (c := k2c2) (by decide +kernel) rfl rfl rfl (by decide +kernel)
set_option maxRecDepth 65536 in
theorem w_c5 : (Jvm.Cond.code ({ cls := "com/example/cardhost/cardhost/LogicalChannels", name := "lowestClosed", desc := "()I" } : Jvm.MethodName) prog_4_method_3_code (2 : Nat) (Option.some Jvm.ClassFile.FieldType.int)).before args0 about1 = true := code_word (m := ⟨2, 1⟩) (meth := k2m1) (c := k2c1) (by decide +kernel) rfl rfl rfl (by decide +kernel)
set_option maxRecDepth 65536 in
theorem w_c6 : (Jvm.Cond.code ({ cls := "com/example/cardhost/cardhost/LogicalChannels", name := "close", desc := "(I)V" } : Jvm.MethodName) prog_4_method_5_code (2 : Nat) (Option.none : Option Jvm.ClassFile.FieldType)).before args0 about1 = true := code_word (m := ⟨2, 3⟩) (meth := k2m3) (c := k2c3) (by decide +kernel) rfl rfl rfl (by decide +kernel)
set_option maxRecDepth 65536 in
theorem w_c7 : (Jvm.Cond.code ({ cls := "java/lang/Math", name := "min", desc := "(II)I" } : Jvm.MethodName) jdk_29_method_69_code (2 : Nat) (Option.some Jvm.ClassFile.FieldType.int)).before args0 about1 = true := code_word (m := ⟨4, 1⟩) (meth := k4m1) (c := k4c1) (by decide +kernel) rfl rfl rfl (by decide +kernel)
def codes1 : List Jvm.Cond := [Jvm.Cond.code x code maxLocals ret, Jvm.Cond.code ({ cls := "com/example/cardhost/cardhost/LogicalChannels", name := "<init>", desc := "()V" } : Jvm.MethodName) prog_4_method_1_code (1 : Nat) (Option.none : Option Jvm.ClassFile.FieldType), Jvm.Cond.code ({ cls := "java/lang/Object", name := "<init>", desc := "()V" } : Jvm.MethodName) object_method_1_code (1 : Nat) (Option.none : Option Jvm.ClassFile.FieldType), Jvm.Cond.code ({ cls := "com/example/cardhost/cardhost/LogicalChannelsLowestClosedPinLaw", name := "openPrefix", desc := "(Lcom/example/cardhost/cardhost/LogicalChannels;I)V" } : Jvm.MethodName) method_3_code (2 : Nat) (Option.none : Option Jvm.ClassFile.FieldType), Jvm.Cond.code ({ cls := "com/example/cardhost/cardhost/LogicalChannels", name := "open", desc := "(I)V" } : Jvm.MethodName) prog_4_method_4_code (2 : Nat) (Option.none : Option Jvm.ClassFile.FieldType), Jvm.Cond.code ({ cls := "com/example/cardhost/cardhost/LogicalChannels", name := "lowestClosed", desc := "()I" } : Jvm.MethodName) prog_4_method_3_code (2 : Nat) (Option.some Jvm.ClassFile.FieldType.int), Jvm.Cond.code ({ cls := "com/example/cardhost/cardhost/LogicalChannels", name := "close", desc := "(I)V" } : Jvm.MethodName) prog_4_method_5_code (2 : Nat) (Option.none : Option Jvm.ClassFile.FieldType), Jvm.Cond.code ({ cls := "java/lang/Math", name := "min", desc := "(II)I" } : Jvm.MethodName) jdk_29_method_69_code (2 : Nat) (Option.some Jvm.ClassFile.FieldType.int)]
set_option maxRecDepth 65536 in
theorem codes_eq : words1.filter isCode = codes1 := rfl
theorem w_codes : ∀ c ∈ words1.filter isCode, c.before args0 about1 = true := by
  rw [codes_eq]
  intro c hc
  simp only [codes1, List.mem_cons, List.not_mem_nil, or_false] at hc
  rcases hc with rfl | rfl | rfl | rfl | rfl | rfl | rfl | rfl
  · exact w_c0
  · exact w_c1
  · exact w_c2
  · exact w_c3
  · exact w_c4
  · exact w_c5
  · exact w_c6
  · exact w_c7
set_option maxRecDepth 65536 in
theorem w_t1 : (words1.take 24).all (fun c => isCode c || c.before args0 about1) = true := by decide +kernel
set_option maxRecDepth 65536 in
theorem w_t2 : (words1.drop 24).all (fun c => isCode c || c.before args0 about1) = true := by decide +kernel
theorem w_tables : (allAtoms (Jvm.Cond.code x code maxLocals ret :: tables_1)).before args0 about1 = true := by
  rw [allAtoms_all]
  show words1.all (fun c => c.before args0 about1) = true
  refine all_split ?_ w_codes
  rw [← List.take_append_drop 24 words1, List.all_append, w_t1, w_t2]
  rfl
set_option maxRecDepth 65536 in
theorem w_case : (Jvm.Cond.and given_1 narrow_1).before args0 about1 = true := by decide +kernel
theorem w_applies : (headSpec (Jvm.Cond.code x code maxLocals ret :: tables_1) room_1).applies x e0.platform about1 = true :=
  (Spec.applies_iff w_frames).mpr ⟨w_running, w_runnable, w_alone, w_named, w_hears, w_ripe, w_room, w_tables⟩
theorem atStart : AtStart classFile x code maxLocals ret World_1 tables_1 room_1 Calls_1 rest_1 Pre_1 launch0 p0 e0 about1 theMethod args0 below0 :=
  ⟨lists_1, trivial, launch0.admits_env _ _ _, launch0.least_env, fairChoices_fair.cas, fairChoices_fair.clock, w_frames, w_args, w_heap, w_applies, trivial, trivial, w_case⟩
end start1
theorem witness_1 : WitnessClaimed_1 := ⟨start1.p0, start1.e0, start1.about1, start1.theMethod, start1.args0, start1.below0, start1.atStart⟩
end Jvm.Pilot.@@N@@
