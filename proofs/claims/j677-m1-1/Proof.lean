import JvmDerived
import JvmDerived.Pilot.@@N@@Statement
import JvmDerived.Pilot.@@N@@Code
set_option linter.unusedVariables false
set_option linter.unusedSimpArgs false
namespace Jvm.RoadKit
open Sem ClassFile Op Lib Jvm.Stand Jvm.Free Jvm.LawKit
section New
variable {p : Program} {l : Launch} {e : Env} {R : Room} {s : State} {m : MethodId} {args : Array Value} {below : List Frame} {meth : Method} {c : Code} {T : State} {locs : List Loc} {cells slots : Nat}
theorem retI (X : Stand p l e R s m args below meth c T locs cells slots) (hx : p.tables.exec = Jvm.exec) {pc : Nat} {Ls : Array Slot} {z : Int32} {rest : List Value} (hret : meth.sig.returnType = some .int) (hd : decode c.code pc = .ok (.ireturn, 1)) {fs : List Frame}
    (hl : ∀ (f : JFrame) (acts : List Action), f.method = m → f.locked = none → f.entered = [] → (doReturn e (T.setTop f) acts (some (.int z))).1 = T.setFrames fs) : Steps p.tables e below (T.setTop (mkF m pc Ls (.int z :: rest))) (T.setFrames fs) := by
  have hm' : T.vm.method? m = some meth := X.method'
  have hn : narrow .int (.int z) = .int z := rfl
  show Steps p.tables e below (T.setTop { method := m, pc := pc, locals := Ls, stack := _ :: rest, locked := none }) _
  jvm_step X.here [X.here.top, hx, hd, hm', hret, hn]
  first | (intro acts; rw [hl _ acts rfl rfl rfl]) | rw [hl _ _ rfl rfl rfl]
  exact Steps.refl _
end New
end Jvm.RoadKit
namespace Jvm.Pilot.@@N@@
open Jvm Jvm.ClassFile Sem Op Lib Jvm.Free Jvm.Stand Jvm.LawKit Jvm.RoadKit Bundle Jvm.Pilot.@@N@@.Jvm.D
section OwnArrays
variable {Z : State} {h h' : Heap} {a b : Addr} {ty : FieldType} {n j : Int32} {F : Nat → Int32} {G : Nat → Int64} {sl : Nat} {v : Value} {ws : List Addr} {k : ClassId} {x : Int32} {y : Int64}
/-- an array of ints (chars, bytes, booleans ..): its length and its components -/
def own_AI (Z : State) (h : Heap) (a : Addr) (ty : FieldType) (n : Int32) (F : Nat → Int32) : Prop := ∃ c : Cell, Arr Z h a c ty ∧ c.slots.size = n.toNatClampNeg ∧ ¬ n < 0 ∧ ∀ i, i < c.slots.size → c.slots[i]? = some (.int (F i)) ∧ fits ty (.int (F i)) = true
/-- an array of longs -/
def own_AJ (Z : State) (h : Heap) (a : Addr) (ty : FieldType) (n : Int32) (F : Nat → Int64) : Prop := ∃ c : Cell, Arr Z h a c ty ∧ c.slots.size = n.toNatClampNeg ∧ ¬ n < 0 ∧ ∀ i, i < c.slots.size → c.slots[i]? = some (.long (F i))
/-- an array of which the length alone is told -/
def own_AL (Z : State) (h : Heap) (a : Addr) (ty : FieldType) (n : Int32) : Prop := ∃ c : Cell, Arr Z h a c ty ∧ c.slots.size = n.toNatClampNeg ∧ ¬ n < 0 ∧ True
def own_upd {α : Type} (F : Nat → α) (i : Nat) (v : α) : Nat → α := fun q => if q = i then v else F q
theorem own_upd_at {α : Type} (F : Nat → α) (i : Nat) (v : α) (q : Nat) : own_upd F i v q = if q = i then v else F q := rfl
theorem own_lt {c : Cell} (q : ¬ (j < 0 ∨ c.slots.size ≤ j.toNatClampNeg)) : j.toNatClampNeg < c.slots.size := Nat.lt_of_not_le fun z => q (Or.inr z)
theorem own_AI.lt (H : own_AI Z h a ty n F) : a < h.size := by obtain ⟨c, A, -⟩ := H; exact A.lt
theorem own_AI.ext (H : own_AI Z h a ty n F) (E : Ext h h') : own_AI Z h' a ty n F := by obtain ⟨c, A, r⟩ := H; exact ⟨c, A.ext E, r⟩
theorem own_AI.other (H : own_AI Z h b ty n F) (W : Wr h h' a sl v) (q : b ≠ a) : own_AI Z h' b ty n F := by obtain ⟨c, A, r⟩ := H; exact ⟨c, A.other W q, r⟩
theorem own_AI.keep (H : own_AI Z h a ty n F) (K : Keep h h' ws) (q : a ∉ ws) : own_AI Z h' a ty n F := by obtain ⟨c, A, r⟩ := H; exact ⟨c, ⟨K.2.1 a c A.1 q, A.2⟩, r⟩
theorem own_AI.new (A : Arr Z h a (newA k ty n) ty) (q : ¬ n < 0) (hd : defaultValue ty = .int 0) : own_AI Z h a ty n (fun _ => 0) :=
  ⟨_, A, sz_new _ _ _, q, fun i hi => by
    rw [sz_new] at hi
    refine ⟨by simp [newA, hi, hd], ?_⟩
    rw [← hd]; cases ty <;> rfl⟩
theorem own_AI.set (H : own_AI Z h a ty n F) (hv : fits ty (.int x) = true) (W : Wr h h' a j.toNatClampNeg (.int x)) : own_AI Z h' a ty n (own_upd F j.toNatClampNeg x) := by
  obtain ⟨c, A, S, q, H⟩ := H
  refine ⟨_, A.same W, by simpa [Cell.setSlot] using S, q, fun i hi => ?_⟩
  have hi' : i < c.slots.size := by simpa [Cell.setSlot] using hi
  by_cases u : i = j.toNatClampNeg
  · rw [own_upd_at, if_pos u]; subst u; exact ⟨by simp [Cell.setSlot, hi'], hv⟩
  · rw [own_upd_at, if_neg u]
    refine ⟨?_, (H i hi').2⟩
    have := (H i hi').1
    simp only [Cell.setSlot] at this ⊢
    rw [Array.getElem?_setIfInBounds_ne (Ne.symm u)]; exact this
theorem own_AJ.lt (H : own_AJ Z h a ty n G) : a < h.size := by obtain ⟨c, A, -⟩ := H; exact A.lt
theorem own_AJ.ext (H : own_AJ Z h a ty n G) (E : Ext h h') : own_AJ Z h' a ty n G := by obtain ⟨c, A, r⟩ := H; exact ⟨c, A.ext E, r⟩
theorem own_AJ.other (H : own_AJ Z h b ty n G) (W : Wr h h' a sl v) (q : b ≠ a) : own_AJ Z h' b ty n G := by obtain ⟨c, A, r⟩ := H; exact ⟨c, A.other W q, r⟩
theorem own_AJ.keep (H : own_AJ Z h a ty n G) (K : Keep h h' ws) (q : a ∉ ws) : own_AJ Z h' a ty n G := by obtain ⟨c, A, r⟩ := H; exact ⟨c, ⟨K.2.1 a c A.1 q, A.2⟩, r⟩
theorem own_AJ.new (A : Arr Z h a (newA k .long n) .long) (q : ¬ n < 0) : own_AJ Z h a .long n (fun _ => 0) :=
  ⟨_, A, sz_new _ _ _, q, fun i hi => by rw [sz_new] at hi; simp [newA, hi, defaultValue]⟩
theorem own_AJ.set (H : own_AJ Z h a ty n G) (W : Wr h h' a j.toNatClampNeg (.long y)) : own_AJ Z h' a ty n (own_upd G j.toNatClampNeg y) := by
  obtain ⟨c, A, S, q, H⟩ := H
  refine ⟨_, A.same W, by simpa [Cell.setSlot] using S, q, fun i hi => ?_⟩
  have hi' : i < c.slots.size := by simpa [Cell.setSlot] using hi
  by_cases u : i = j.toNatClampNeg
  · rw [own_upd_at, if_pos u]; subst u; simp [Cell.setSlot, hi']
  · rw [own_upd_at, if_neg u]
    have := H i hi'
    simp only [Cell.setSlot] at this ⊢
    rw [Array.getElem?_setIfInBounds_ne (Ne.symm u)]; exact this
theorem own_AL.lt (H : own_AL Z h a ty n) : a < h.size := by obtain ⟨c, A, -⟩ := H; exact A.lt
theorem own_AL.ext (H : own_AL Z h a ty n) (E : Ext h h') : own_AL Z h' a ty n := by obtain ⟨c, A, r⟩ := H; exact ⟨c, A.ext E, r⟩
theorem own_AL.other (H : own_AL Z h b ty n) (W : Wr h h' a sl v) (q : b ≠ a) : own_AL Z h' b ty n := by obtain ⟨c, A, r⟩ := H; exact ⟨c, A.other W q, r⟩
theorem own_AL.keep (H : own_AL Z h a ty n) (K : Keep h h' ws) (q : a ∉ ws) : own_AL Z h' a ty n := by obtain ⟨c, A, r⟩ := H; exact ⟨c, ⟨K.2.1 a c A.1 q, A.2⟩, r⟩
theorem own_AL.new (A : Arr Z h a (newA k ty n) ty) (q : ¬ n < 0) : own_AL Z h a ty n := ⟨_, A, sz_new _ _ _, q, trivial⟩
theorem own_AL.set (H : own_AL Z h a ty n) (W : Wr h h' a sl v) : own_AL Z h' a ty n := by
  obtain ⟨c, A, S, q, -⟩ := H
  exact ⟨_, A.same W, by simpa [Cell.setSlot] using S, q, trivial⟩
end OwnArrays
theorem own_eqi {args : Array Value} {s : State} {t : Term} {k : Int32} (h : (Jvm.Cond.eq t (.int k)).value args s none s [] = some true) : t.eval args s none [] s = some (.int k) := by
  obtain ⟨x, y, h1, h2, h3, h4⟩ := cmp_v (Or.inl h)
  have h2' : some (Value.int k) = some y := h2
  cases h2'
  obtain ⟨z, rfl⟩ := h4
  simp only [Jvm.Cond.value, h1, h2] at h
  simp at h
  rw [h1, h]
theorem own_len {args : Array Value} {s : State} {t : Term} {a : Addr} {cl : Cell} (ev : t.eval args s none [] s = some (.ref a)) (ha : s.arrayAt? a = some cl) (h : (Term.length t).eval args s none [] s = some (.int 128)) : cl.slots.size = 128 := by
  have hb : (Jvm.Cond.isInt (.length t)).before args s = true := by simp [Cond.before, Cond.holds, Cond.value, h]
  have q := len_toInt (Cond.small_of_lengthOf ev ha hb)
  rw [len_f ev ha (Cond.small_of_lengthOf ev ha hb)] at h
  have q2 : cl.slots.size.toInt32 = (128 : Int32) := Value.int.inj (Option.some.inj h)
  rw [q2] at q
  have q3 : (128 : Int32).toInt = 128 := by decide
  omega
def own_P (n : Int) : Prop := n = 58 ∨ (65 ≤ n ∧ n ≤ 90) ∨ n = 95 ∨ (97 ≤ n ∧ n ≤ 122)
/-- what an array of ints holds at a place -/
def own_val (c : Cell) (i : Nat) : Int32 := match c.slots[i]? with | some (.int x) => x | _ => 0
theorem own_val_of {c : Cell} {i : Nat} {x : Int32} (h : c.slots[i]? = some (.int x)) : own_val c i = x := by unfold own_val; rw [h]
theorem own_tab_start {s : State} {a : Addr} {cl : Cell} (hf : Fit s) (A : Arr s s.heap a cl .boolean) (hs : cl.slots.size = 128) : own_AI s s.heap a .boolean 128 (own_val cl) := by
  refine ⟨cl, A, hs, by decide, fun i hi => ?_⟩
  rw [hs] at hi
  have hn : (Int32.ofNat i).toInt = i := Int32.toInt_ofNat_small (by omega)
  have e : (Int32.ofNat i).toNatClampNeg = i := by unfold Int32.toNatClampNeg; rw [hn]; omega
  have e0 : (0 : Int32).toInt = 0 := by decide
  have hj : ¬ (Int32.ofNat i < 0 ∨ cl.slots.size ≤ (Int32.ofNat i).toNatClampNeg) := by
    rw [e, hs, Int32.lt_iff_toInt_lt, hn, e0]; omega
  obtain ⟨v, h1, h2⟩ := elem_fit hf A hj
  obtain ⟨x, rfl⟩ := fit_I h2 (by simp)
  rw [e] at h1
  rw [own_val_of h1]
  exact ⟨h1, h2⟩
section OwnTab
variable {s : State} {args : Array Value} {t : Term} {a : Addr} {cl : Cell} {b d v : Int32}
theorem own_el (hA : own_AI s s.heap a .boolean 128 (own_val cl)) (A : Arr s s.heap a cl .boolean) (hs : cl.slots.size = 128) (et : ∀ idx, t.eval args s none idx s = some (.ref a)) {j : Int32} (h0 : ¬ j < 0) (h1 : j < 128) :
    j.toNatClampNeg < cl.slots.size ∧ (Term.elem t (.index 0)).eval args s none [j.toNatClampNeg] s = some (.int (own_val cl j.toNatClampNeg)) := by
  have hl : j.toNatClampNeg < 128 := by
    have e0 : (0 : Int32).toInt = 0 := by decide
    have e128 : (128 : Int32).toInt = 128 := by decide
    rw [Int32.lt_iff_toInt_lt, e128] at h1
    unfold Int32.toNatClampNeg; omega
  refine ⟨by rw [hs]; exact hl, ?_⟩
  rw [elem_f (et _) (idx_at h0) (A.fin (Vm.Alike.refl _)) h0]
  obtain ⟨c', A', S', -, H'⟩ := hA
  cases A.1.symm.trans A'.1
  exact (H' _ (by rw [hs]; exact hl)).1
theorem own_all3 (hA : own_AI s s.heap a .boolean 128 (own_val cl)) (A : Arr s s.heap a cl .boolean) (hs : cl.slots.size = 128) (et : ∀ idx, t.eval args s none idx s = some (.ref a))
    (h : (Jvm.Cond.all t (.or (.lt (.index 0) (.int b)) (.or (.le (.int d) (.index 0)) (.eq (.elem t (.index 0)) (.int v))))).value args s none s [] = some true) (j : Int32) (h0 : ¬ j < 0) (h1 : j < 128) : j < b ∨ ¬ j < d ∨ own_val cl j.toNatClampNeg = v := by
  obtain ⟨k1, k2⟩ := own_el hA A hs et h0 h1
  exact or3 (Cond.all_elim (et []) (A.fin (Vm.Alike.refl _)) h _ k1) (Cond.lt_ints (idx_at h0) rfl) (Cond.le_ints rfl (idx_at h0)) (Cond.eq_ints k2 rfl)
theorem own_all2 (hA : own_AI s s.heap a .boolean 128 (own_val cl)) (A : Arr s s.heap a cl .boolean) (hs : cl.slots.size = 128) (et : ∀ idx, t.eval args s none idx s = some (.ref a))
    (h : (Jvm.Cond.all t (.or (.le (.int d) (.index 0)) (.eq (.elem t (.index 0)) (.int v)))).value args s none s [] = some true) (j : Int32) (h0 : ¬ j < 0) (h1 : j < 128) : d ≤ j ∨ own_val cl j.toNatClampNeg = v := by
  obtain ⟨k1, k2⟩ := own_el hA A hs et h0 h1
  exact or_e2 (Cond.le_ints rfl (idx_at h0)) (Cond.eq_ints k2 rfl) (Cond.all_elim (et []) (A.fin (Vm.Alike.refl _)) h _ k1)
theorem own_all1 (hA : own_AI s s.heap a .boolean 128 (own_val cl)) (A : Arr s s.heap a cl .boolean) (hs : cl.slots.size = 128) (et : ∀ idx, t.eval args s none idx s = some (.ref a))
    (h : (Jvm.Cond.all t (.or (.lt (.index 0) (.int b)) (.eq (.elem t (.index 0)) (.int v)))).value args s none s [] = some true) (j : Int32) (h0 : ¬ j < 0) (h1 : j < 128) : j < b ∨ own_val cl j.toNatClampNeg = v := by
  obtain ⟨k1, k2⟩ := own_el hA A hs et h0 h1
  exact or_e2 (Cond.lt_ints (idx_at h0) rfl) (Cond.eq_ints k2 rfl) (Cond.all_elim (et []) (A.fin (Vm.Alike.refl _)) h _ k1)
theorem own_at {k : Int32} (A : Arr s s.heap a cl .boolean) (et : ∀ idx, t.eval args s none idx s = some (.ref a)) (hk : ¬ k < 0) (h : (Jvm.Cond.eq (.elem t (.int k)) (.int v)).value args s none s [] = some true) (j : Int32) : ¬ j = k ∨ own_val cl j.toNatClampNeg = v := by
  by_cases q : j = k
  · subst q
    have := own_eqi h
    rw [elem_f (et _) rfl (A.fin (Vm.Alike.refl _)) hk] at this
    exact Or.inr (own_val_of this)
  · exact Or.inl q
end OwnTab
theorem d1_0 : decode prog_87_method_5_code 0 = .ok (.iload_n 0, 1) := by decide +kernel
theorem d1_1 : decode prog_87_method_5_code 1 = .ok (.sipush 128, 3) := by decide +kernel
theorem d1_4 : decode prog_87_method_5_code 4 = .ok (.if_icmp .ge 23, 3) := by decide +kernel
theorem d1_7 : decode prog_87_method_5_code 7 = .ok (.iload_n 0, 1) := by decide +kernel
theorem d1_8 : decode prog_87_method_5_code 8 = .ok (.ifCond .lt 15, 3) := by decide +kernel
theorem d1_11 : decode prog_87_method_5_code 11 = .ok (.getstatic 28, 3) := by decide +kernel
theorem d1_14 : decode prog_87_method_5_code 14 = .ok (.iload_n 0, 1) := by decide +kernel
theorem d1_15 : decode prog_87_method_5_code 15 = .ok (.baload, 1) := by decide +kernel
theorem d1_16 : decode prog_87_method_5_code 16 = .ok (.ifCond .eq 7, 3) := by decide +kernel
theorem d1_19 : decode prog_87_method_5_code 19 = .ok (.iconst 1, 1) := by decide +kernel
theorem d1_20 : decode prog_87_method_5_code 20 = .ok (.goto 173, 3) := by decide +kernel
theorem d1_23 : decode prog_87_method_5_code 23 = .ok (.iconst 0, 1) := by decide +kernel
theorem d1_24 : decode prog_87_method_5_code 24 = .ok (.goto 169, 3) := by decide +kernel
theorem d1_27 : decode prog_87_method_5_code 27 = .ok (.iload_n 0, 1) := by decide +kernel
theorem d1_28 : decode prog_87_method_5_code 28 = .ok (.sipush 192, 3) := by decide +kernel
theorem d1_31 : decode prog_87_method_5_code 31 = .ok (.if_icmp .lt 10, 3) := by decide +kernel
theorem d1_34 : decode prog_87_method_5_code 34 = .ok (.iload_n 0, 1) := by decide +kernel
theorem d1_35 : decode prog_87_method_5_code 35 = .ok (.sipush 214, 3) := by decide +kernel
theorem d1_38 : decode prog_87_method_5_code 38 = .ok (.if_icmp .le 150, 3) := by decide +kernel
theorem d1_41 : decode prog_87_method_5_code 41 = .ok (.iload_n 0, 1) := by decide +kernel
theorem d1_42 : decode prog_87_method_5_code 42 = .ok (.sipush 216, 3) := by decide +kernel
theorem d1_45 : decode prog_87_method_5_code 45 = .ok (.if_icmp .lt 10, 3) := by decide +kernel
theorem d1_48 : decode prog_87_method_5_code 48 = .ok (.iload_n 0, 1) := by decide +kernel
theorem d1_49 : decode prog_87_method_5_code 49 = .ok (.sipush 246, 3) := by decide +kernel
theorem d1_52 : decode prog_87_method_5_code 52 = .ok (.if_icmp .le 136, 3) := by decide +kernel
theorem d1_55 : decode prog_87_method_5_code 55 = .ok (.iload_n 0, 1) := by decide +kernel
theorem d1_56 : decode prog_87_method_5_code 56 = .ok (.sipush 248, 3) := by decide +kernel
theorem d1_59 : decode prog_87_method_5_code 59 = .ok (.if_icmp .lt 10, 3) := by decide +kernel
theorem d1_62 : decode prog_87_method_5_code 62 = .ok (.iload_n 0, 1) := by decide +kernel
theorem d1_63 : decode prog_87_method_5_code 63 = .ok (.sipush 767, 3) := by decide +kernel
theorem d1_66 : decode prog_87_method_5_code 66 = .ok (.if_icmp .le 122, 3) := by decide +kernel
theorem d1_69 : decode prog_87_method_5_code 69 = .ok (.iload_n 0, 1) := by decide +kernel
theorem d1_70 : decode prog_87_method_5_code 70 = .ok (.sipush 880, 3) := by decide +kernel
theorem d1_73 : decode prog_87_method_5_code 73 = .ok (.if_icmp .lt 10, 3) := by decide +kernel
theorem d1_76 : decode prog_87_method_5_code 76 = .ok (.iload_n 0, 1) := by decide +kernel
theorem d1_77 : decode prog_87_method_5_code 77 = .ok (.sipush 893, 3) := by decide +kernel
theorem d1_80 : decode prog_87_method_5_code 80 = .ok (.if_icmp .le 108, 3) := by decide +kernel
theorem d1_83 : decode prog_87_method_5_code 83 = .ok (.iload_n 0, 1) := by decide +kernel
theorem d1_84 : decode prog_87_method_5_code 84 = .ok (.sipush 895, 3) := by decide +kernel
theorem d1_87 : decode prog_87_method_5_code 87 = .ok (.if_icmp .lt 10, 3) := by decide +kernel
theorem d1_90 : decode prog_87_method_5_code 90 = .ok (.iload_n 0, 1) := by decide +kernel
theorem d1_91 : decode prog_87_method_5_code 91 = .ok (.sipush 8191, 3) := by decide +kernel
theorem d1_94 : decode prog_87_method_5_code 94 = .ok (.if_icmp .le 94, 3) := by decide +kernel
theorem d1_97 : decode prog_87_method_5_code 97 = .ok (.iload_n 0, 1) := by decide +kernel
theorem d1_98 : decode prog_87_method_5_code 98 = .ok (.sipush 8204, 3) := by decide +kernel
theorem d1_101 : decode prog_87_method_5_code 101 = .ok (.if_icmp .lt 10, 3) := by decide +kernel
theorem d1_104 : decode prog_87_method_5_code 104 = .ok (.iload_n 0, 1) := by decide +kernel
theorem d1_105 : decode prog_87_method_5_code 105 = .ok (.sipush 8205, 3) := by decide +kernel
theorem d1_108 : decode prog_87_method_5_code 108 = .ok (.if_icmp .le 80, 3) := by decide +kernel
theorem d1_111 : decode prog_87_method_5_code 111 = .ok (.iload_n 0, 1) := by decide +kernel
theorem d1_112 : decode prog_87_method_5_code 112 = .ok (.sipush 8304, 3) := by decide +kernel
theorem d1_115 : decode prog_87_method_5_code 115 = .ok (.if_icmp .lt 10, 3) := by decide +kernel
theorem d1_118 : decode prog_87_method_5_code 118 = .ok (.iload_n 0, 1) := by decide +kernel
theorem d1_119 : decode prog_87_method_5_code 119 = .ok (.sipush 8591, 3) := by decide +kernel
theorem d1_122 : decode prog_87_method_5_code 122 = .ok (.if_icmp .le 66, 3) := by decide +kernel
theorem d1_125 : decode prog_87_method_5_code 125 = .ok (.iload_n 0, 1) := by decide +kernel
theorem d1_126 : decode prog_87_method_5_code 126 = .ok (.sipush 11264, 3) := by decide +kernel
theorem d1_129 : decode prog_87_method_5_code 129 = .ok (.if_icmp .lt 10, 3) := by decide +kernel
theorem d1_132 : decode prog_87_method_5_code 132 = .ok (.iload_n 0, 1) := by decide +kernel
theorem d1_133 : decode prog_87_method_5_code 133 = .ok (.sipush 12271, 3) := by decide +kernel
theorem d1_136 : decode prog_87_method_5_code 136 = .ok (.if_icmp .le 52, 3) := by decide +kernel
theorem d1_139 : decode prog_87_method_5_code 139 = .ok (.iload_n 0, 1) := by decide +kernel
theorem d1_140 : decode prog_87_method_5_code 140 = .ok (.sipush 12289, 3) := by decide +kernel
theorem d1_143 : decode prog_87_method_5_code 143 = .ok (.if_icmp .lt 9, 3) := by decide +kernel
theorem d1_146 : decode prog_87_method_5_code 146 = .ok (.iload_n 0, 1) := by decide +kernel
theorem d1_147 : decode prog_87_method_5_code 147 = .ok (.ldc 7, 2) := by decide +kernel
theorem d1_149 : decode prog_87_method_5_code 149 = .ok (.if_icmp .le 39, 3) := by decide +kernel
theorem d1_152 : decode prog_87_method_5_code 152 = .ok (.iload_n 0, 1) := by decide +kernel
theorem d1_153 : decode prog_87_method_5_code 153 = .ok (.ldc 34, 2) := by decide +kernel
theorem d1_155 : decode prog_87_method_5_code 155 = .ok (.if_icmp .lt 9, 3) := by decide +kernel
theorem d1_158 : decode prog_87_method_5_code 158 = .ok (.iload_n 0, 1) := by decide +kernel
theorem d1_159 : decode prog_87_method_5_code 159 = .ok (.ldc 35, 2) := by decide +kernel
theorem d1_161 : decode prog_87_method_5_code 161 = .ok (.if_icmp .le 27, 3) := by decide +kernel
theorem d1_164 : decode prog_87_method_5_code 164 = .ok (.iload_n 0, 1) := by decide +kernel
theorem d1_165 : decode prog_87_method_5_code 165 = .ok (.ldc 36, 2) := by decide +kernel
theorem d1_167 : decode prog_87_method_5_code 167 = .ok (.if_icmp .lt 9, 3) := by decide +kernel
theorem d1_170 : decode prog_87_method_5_code 170 = .ok (.iload_n 0, 1) := by decide +kernel
theorem d1_171 : decode prog_87_method_5_code 171 = .ok (.ldc 9, 2) := by decide +kernel
theorem d1_173 : decode prog_87_method_5_code 173 = .ok (.if_icmp .le 15, 3) := by decide +kernel
theorem d1_176 : decode prog_87_method_5_code 176 = .ok (.iload_n 0, 1) := by decide +kernel
theorem d1_177 : decode prog_87_method_5_code 177 = .ok (.ldc 10, 2) := by decide +kernel
theorem d1_179 : decode prog_87_method_5_code 179 = .ok (.if_icmp .lt 13, 3) := by decide +kernel
theorem d1_182 : decode prog_87_method_5_code 182 = .ok (.iload_n 0, 1) := by decide +kernel
theorem d1_183 : decode prog_87_method_5_code 183 = .ok (.ldc 37, 2) := by decide +kernel
theorem d1_185 : decode prog_87_method_5_code 185 = .ok (.if_icmp .gt 7, 3) := by decide +kernel
theorem d1_188 : decode prog_87_method_5_code 188 = .ok (.iconst 1, 1) := by decide +kernel
theorem d1_189 : decode prog_87_method_5_code 189 = .ok (.goto 4, 3) := by decide +kernel
theorem d1_192 : decode prog_87_method_5_code 192 = .ok (.iconst 0, 1) := by decide +kernel
theorem d1_193 : decode prog_87_method_5_code 193 = .ok (.ireturn, 1) := by decide +kernel
theorem pn_1 : plainName "com/example/cuttlefish/cuttlefish/xml/XmlNames" = true := by first | (simp [plainName, overriddenIn]; done) | decide +kernel
theorem ef_1 (m : MethodId) (x0 : Int32) : entryFrame m #[(.int x0)] 1 = mkF m 0 #[.val (.int x0)] [] := by first | (simp [entryFrame, mkF, argsToLocals, Value.category]; done) | rfl
def f1 (p0 : Int32) (F1 : Nat → Int32) : Int32 :=
  if p0 < (128 : Int32) then (if p0 < (0 : Int32) then ((0 : Int32)) else
  (if (F1 (p0).toNatClampNeg) = (0 : Int32) then ((0 : Int32)) else
  ((1 : Int32)))) else
  (if p0 < (192 : Int32) then ((0 : Int32)) else
  (if (214 : Int32) < p0 then (if p0 < (216 : Int32) then ((0 : Int32)) else
  (if (246 : Int32) < p0 then (if p0 < (248 : Int32) then ((0 : Int32)) else
  (if (767 : Int32) < p0 then (if p0 < (880 : Int32) then ((0 : Int32)) else
  (if (893 : Int32) < p0 then (if p0 < (895 : Int32) then ((0 : Int32)) else
  (if (8191 : Int32) < p0 then (if p0 < (8204 : Int32) then ((0 : Int32)) else
  (if (8205 : Int32) < p0 then (if p0 < (8304 : Int32) then ((0 : Int32)) else
  (if (8591 : Int32) < p0 then (if p0 < (11264 : Int32) then ((0 : Int32)) else
  (if (12271 : Int32) < p0 then (if p0 < (12289 : Int32) then ((0 : Int32)) else
  (if (55295 : Int32) < p0 then (if p0 < (63744 : Int32) then ((0 : Int32)) else
  (if (64975 : Int32) < p0 then (if p0 < (65008 : Int32) then ((0 : Int32)) else
  (if (65533 : Int32) < p0 then (if p0 < (65536 : Int32) then ((0 : Int32)) else
  (if (983039 : Int32) < p0 then ((0 : Int32)) else
  ((1 : Int32)))) else
  ((1 : Int32)))) else
  ((1 : Int32)))) else
  ((1 : Int32)))) else
  ((1 : Int32)))) else
  ((1 : Int32)))) else
  ((1 : Int32)))) else
  ((1 : Int32)))) else
  ((1 : Int32)))) else
  ((1 : Int32)))) else
  ((1 : Int32)))) else
  ((1 : Int32))))
def Q1 (Z : State) (p0 : Int32) (t1 : Addr) (F1 : Nat → Int32) (h0 : Heap) (n0 : Nat) (v : Option Value) (h : Heap) (L : List Loc) : Prop := v = some (.int (f1 p0 F1)) ∧ Fr n0 L ∧ h = h0
set_option maxRecDepth 65536 in
set_option maxHeartbeats 40000000 in
theorem rm1 (l : Launch) (Z : State) (a0 : Array Value) (hw : ∀ d ∈ tables_1, d.before a0 Z = true) (ws : List Jvm.Cond) (p0 : Int32) (t1 : Addr) (F1 : Nat → Int32) (h0 : Heap) (n0 : Nat) (Z0 : n0 ≤ h0.size) (S_NAME_START : Sta Z h0 "com/example/cuttlefish/cuttlefish/xml/XmlNames" "NAME_START" "[Z" (.ref t1)) (V_t1 : own_AI Z h0 t1 .boolean (128 : Int32) F1) :
    MetFree l (⟨"com/example/cuttlefish/cuttlefish/xml/XmlNames", "isNameStart", "(I)Z"⟩ : MethodName) (head1 (Jvm.Cond.code (⟨"com/example/cuttlefish/cuttlefish/xml/XmlNames", "isNameStart", "(I)Z"⟩ : MethodName) prog_87_method_5_code 1 (some .boolean) :: ws) ({ frames := 0, cells := 0, slots := 0, locals := 0 } : Room)) (fun a U => a = #[(.int p0)] ∧ Z.Warmed39 U.vm ∧ U.heap = h0) (fun _ _ _ _ _ => True) (fun _ U o U' => ∃ v L, o = .returned v ∧ Q1 Z p0 t1 F1 h0 n0 v U'.heap L ∧ FrameEnd U o U' L ({ frames := 0, cells := 0, slots := 0, locals := 0 } : Room).cells ({ frames := 0, cells := 0, slots := 0, locals := 0 } : Room).slots) := by
  refine MetFree.of_bodySF (plainFor_of_name pn_1) hisR ?_
  intro p e s m args below meth c s₁ Bd hml0 hP hK
  obtain ⟨rfl, hZ, hh⟩ := hP
  have hx := Bd.exec
  have hby := Bd.bytes
  have hml : c.maxLocals = 1 := hml0
  have hown : s.vm.findClass "com/example/cuttlefish/cuttlefish/xml/XmlNames" = some m.cls := findClass_of_methodNamed Bd.named
  have hnm := (name_of_methodNamed Bd.named Bd.method).1
  have X0 : Stand p l e ({ frames := 0, cells := 0, slots := 0, locals := 0 } : Room) s m #[(.int p0)] below meth c s₁ [] 0 0 := Stand.of_body Bd
  have e0 : s₁.heap = h0 := by rw [← hh, Bd.state]; rfl
  have N0 := Fr.nil n0
  have pre0 : ∀ t, Steps p.tables e below (s₁.setTop (mkF m 0 #[.val (.int p0)] [])) t → Steps p.tables e below (s₁.setTop (entryFrame m #[(.int p0)] 1)) t := fun t k => castTop (ef_1 m p0) k
  have pre1 : ∀ t, Steps p.tables e below (s₁.setTop (mkF m 4 #[.val (.int p0)] [(.int (128 : Int32)), (.int p0)])) t → Steps p.tables e below (s₁.setTop (entryFrame m #[(.int p0)] 1)) t := fun t kt => pre0 t (by
      show Steps p.tables e below (s₁.setTop (mkF m 0 #[.val (.int p0)] [])) _
      refine XS.iloadN X0.here hx rfl (hb hby d1_0) rfl ?_
      show Steps p.tables e below (s₁.setTop (mkF m 1 #[.val (.int p0)] [(.int p0)])) _
      refine XS.sipush X0.here hx rfl (hb hby d1_1) ?_
      exact kt)
  by_cases hc4_2 : p0 < (128 : Int32)
  · have pre3 : ∀ t, Steps p.tables e below (s₁.setTop (mkF m 8 #[.val (.int p0)] [(.int p0)])) t → Steps p.tables e below (s₁.setTop (entryFrame m #[(.int p0)] 1)) t := fun t kt => pre1 t (by
        show Steps p.tables e below (s₁.setTop (mkF m 4 #[.val (.int p0)] [(.int (128 : Int32)), (.int p0)])) _
        refine XS.icmpNo X0.here hx rfl (hb hby d1_4) rfl (tlt hc4_2).2.1 ?_
        show Steps p.tables e below (s₁.setTop (mkF m 7 #[.val (.int p0)] [])) _
        refine XS.iloadN X0.here hx rfl (hb hby d1_7) rfl ?_
        exact kt)
    by_cases hc8_4 : p0 < (0 : Int32)
    · obtain ⟨fs, hr, hrun, hended, hW, hsame⟩ := X0.leave (v := some (.int (0 : Int32))) (fun h => by rw [Bd.returns] at h; cases h)
      have hv189 : (f1 p0 F1) = (0 : Int32) := by rw [f1, if_pos hc4_2, if_pos hc8_4]
      refine ⟨_, _, pre3 _ ?_, hrun, hended, _, _, rfl, ?_, ⟨_, rfl⟩, hW, hsame.mono (by decide) (by decide)⟩
      · show Steps p.tables e below (s₁.setTop (mkF m 8 #[.val (.int p0)] [(.int p0)])) _
        refine XS.ifYes X0.here hx rfl (pc0 := 8) (pc' := 23) rfl (hb hby d1_8) rfl ((if0 _ _).trans (tlt hc8_4).1) (by decide) (by decide) ?_
        show Steps p.tables e below (s₁.setTop (mkF m 23 #[.val (.int p0)] [])) _
        refine XS.iconst X0.here hx rfl (hb hby d1_23) ?_
        show Steps p.tables e below (s₁.setTop (mkF m 24 #[.val (.int p0)] [(.int (0 : Int32))])) _
        refine XS.goto X0.here hx rfl (pc0 := 24) (pc' := 193) rfl (hb hby d1_24) (by decide) (by decide) ?_
        show Steps p.tables e below (s₁.setTop (mkF m 193 #[.val (.int p0)] [(.int (0 : Int32))])) _
        exact retN X0 hx (t := .boolean) Bd.returns (by simp) (hb hby d1_193) hr
      · show Q1 Z p0 t1 F1 h0 n0 _ s₁.heap _
        rw [e0]
        exact ⟨congrArg (fun q => some (Value.int q)) hv189.symm, N0, rfl⟩
    · obtain ⟨T5, X5, e5, st5⟩ := getS2 X0 hx hZ hown (host := "") (Or.inl (hw _ (List.mem_of_getElem? (i := 15) rfl))) Via.refl e0 S_NAME_START (g := (mkF m 11 #[.val (.int p0)] [])) rfl (hb hby d1_11)
      obtain ⟨cl6, Ar6, Sz6, Nn6, Hs6⟩ := id V_t1
      have hin6 : ¬ (p0 < 0 ∨ cl6.slots.size ≤ (p0).toNatClampNeg) := inb_of Sz6 ⟨hc8_4, hc4_2⟩
      have hat6 : cl6.slots[(p0).toNatClampNeg]? = some (.int (F1 (p0).toNatClampNeg)) := (Hs6 _ (own_lt hin6)).1
      have pre7 : ∀ t, Steps p.tables e below (T5.setTop (mkF m 16 #[.val (.int p0)] [(.int (F1 (p0).toNatClampNeg))])) t → Steps p.tables e below (s₁.setTop (entryFrame m #[(.int p0)] 1)) t := fun t kt => pre3 t (by
          show Steps p.tables e below (s₁.setTop (mkF m 8 #[.val (.int p0)] [(.int p0)])) _
          refine XS.ifNo X0.here hx rfl (hb hby d1_8) rfl ((if0 _ _).trans (flt hc8_4).1) ?_
          show Steps p.tables e below (s₁.setTop (mkF m 11 #[.val (.int p0)] [])) _
          refine st5 _ ?_
          show Steps p.tables e below (T5.setTop (mkF m 14 #[.val (.int p0)] [(.ref t1)])) _
          refine XS.iloadN X5.here hx rfl (hb hby d1_14) rfl ?_
          show Steps p.tables e below (T5.setTop (mkF m 15 #[.val (.int p0)] [(.int p0), (.ref t1)])) _
          refine X5.baloadBooleans hx (j := p0) (v := (.int (F1 (p0).toNatClampNeg))) (by rw [e5]; exact Ar6.1) (State.isArrayOf_alike hZ.alike Ar6.2.1) Ar6.2.2 hin6 hat6 (g := (mkF m 15 #[.val (.int p0)] [(.int p0), (.ref t1)])) rfl rfl (hb hby d1_15) _ ?_
          exact kt)
      by_cases hc16_8 : (F1 (p0).toNatClampNeg) = (0 : Int32)
      · obtain ⟨fs, hr, hrun, hended, hW, hsame⟩ := X5.leave (v := some (.int (0 : Int32))) (fun h => by rw [Bd.returns] at h; cases h)
        have hv190 : (f1 p0 F1) = (0 : Int32) := by rw [f1, if_pos hc4_2, if_neg hc8_4, if_pos hc16_8]
        refine ⟨_, _, pre7 _ ?_, hrun, hended, _, _, rfl, ?_, ⟨_, rfl⟩, hW, hsame.mono (by decide) (by decide)⟩
        · show Steps p.tables e below (T5.setTop (mkF m 16 #[.val (.int p0)] [(.int (F1 (p0).toNatClampNeg))])) _
          refine XS.ifYes X5.here hx rfl (pc0 := 16) (pc' := 23) rfl (hb hby d1_16) rfl ((if0 _ _).trans (teq hc16_8).1) (by decide) (by decide) ?_
          show Steps p.tables e below (T5.setTop (mkF m 23 #[.val (.int p0)] [])) _
          refine XS.iconst X5.here hx rfl (hb hby d1_23) ?_
          show Steps p.tables e below (T5.setTop (mkF m 24 #[.val (.int p0)] [(.int (0 : Int32))])) _
          refine XS.goto X5.here hx rfl (pc0 := 24) (pc' := 193) rfl (hb hby d1_24) (by decide) (by decide) ?_
          show Steps p.tables e below (T5.setTop (mkF m 193 #[.val (.int p0)] [(.int (0 : Int32))])) _
          exact retN X5 hx (t := .boolean) Bd.returns (by simp) (hb hby d1_193) hr
        · show Q1 Z p0 t1 F1 h0 n0 _ T5.heap _
          rw [e5]
          exact ⟨congrArg (fun q => some (Value.int q)) hv190.symm, N0, rfl⟩
      · obtain ⟨fs, hr, hrun, hended, hW, hsame⟩ := X5.leave (v := some (.int (1 : Int32))) (fun h => by rw [Bd.returns] at h; cases h)
        have hv191 : (f1 p0 F1) = (1 : Int32) := by rw [f1, if_pos hc4_2, if_neg hc8_4, if_neg hc16_8]
        refine ⟨_, _, pre7 _ ?_, hrun, hended, _, _, rfl, ?_, ⟨_, rfl⟩, hW, hsame.mono (by decide) (by decide)⟩
        · show Steps p.tables e below (T5.setTop (mkF m 16 #[.val (.int p0)] [(.int (F1 (p0).toNatClampNeg))])) _
          refine XS.ifNo X5.here hx rfl (hb hby d1_16) rfl ((if0 _ _).trans (feq hc16_8).1) ?_
          show Steps p.tables e below (T5.setTop (mkF m 19 #[.val (.int p0)] [])) _
          refine XS.iconst X5.here hx rfl (hb hby d1_19) ?_
          show Steps p.tables e below (T5.setTop (mkF m 20 #[.val (.int p0)] [(.int (1 : Int32))])) _
          refine XS.goto X5.here hx rfl (pc0 := 20) (pc' := 193) rfl (hb hby d1_20) (by decide) (by decide) ?_
          show Steps p.tables e below (T5.setTop (mkF m 193 #[.val (.int p0)] [(.int (1 : Int32))])) _
          exact retN X5 hx (t := .boolean) Bd.returns (by simp) (hb hby d1_193) hr
        · show Q1 Z p0 t1 F1 h0 n0 _ T5.heap _
          rw [e5]
          exact ⟨congrArg (fun q => some (Value.int q)) hv191.symm, N0, rfl⟩
  · have pre9 : ∀ t, Steps p.tables e below (s₁.setTop (mkF m 31 #[.val (.int p0)] [(.int (192 : Int32)), (.int p0)])) t → Steps p.tables e below (s₁.setTop (entryFrame m #[(.int p0)] 1)) t := fun t kt => pre1 t (by
        show Steps p.tables e below (s₁.setTop (mkF m 4 #[.val (.int p0)] [(.int (128 : Int32)), (.int p0)])) _
        refine XS.icmpYes X0.here hx rfl (pc0 := 4) (pc' := 27) rfl (hb hby d1_4) rfl (flt hc4_2).2.1 (by decide) (by decide) ?_
        show Steps p.tables e below (s₁.setTop (mkF m 27 #[.val (.int p0)] [])) _
        refine XS.iloadN X0.here hx rfl (hb hby d1_27) rfl ?_
        show Steps p.tables e below (s₁.setTop (mkF m 28 #[.val (.int p0)] [(.int p0)])) _
        refine XS.sipush X0.here hx rfl (hb hby d1_28) ?_
        exact kt)
    by_cases hc31_10 : p0 < (192 : Int32)
    · have pre11 : ∀ t, Steps p.tables e below (s₁.setTop (mkF m 45 #[.val (.int p0)] [(.int (216 : Int32)), (.int p0)])) t → Steps p.tables e below (s₁.setTop (entryFrame m #[(.int p0)] 1)) t := fun t kt => pre9 t (by
          show Steps p.tables e below (s₁.setTop (mkF m 31 #[.val (.int p0)] [(.int (192 : Int32)), (.int p0)])) _
          refine XS.icmpYes X0.here hx rfl (pc0 := 31) (pc' := 41) rfl (hb hby d1_31) rfl (tlt hc31_10).1 (by decide) (by decide) ?_
          show Steps p.tables e below (s₁.setTop (mkF m 41 #[.val (.int p0)] [])) _
          refine XS.iloadN X0.here hx rfl (hb hby d1_41) rfl ?_
          show Steps p.tables e below (s₁.setTop (mkF m 42 #[.val (.int p0)] [(.int p0)])) _
          refine XS.sipush X0.here hx rfl (hb hby d1_42) ?_
          exact kt)
      have hd45_12 : p0 < (216 : Int32) := Int32.lt_of_lt_of_le hc31_10 (by decide)
      have pre13 : ∀ t, Steps p.tables e below (s₁.setTop (mkF m 59 #[.val (.int p0)] [(.int (248 : Int32)), (.int p0)])) t → Steps p.tables e below (s₁.setTop (entryFrame m #[(.int p0)] 1)) t := fun t kt => pre11 t (by
          show Steps p.tables e below (s₁.setTop (mkF m 45 #[.val (.int p0)] [(.int (216 : Int32)), (.int p0)])) _
          refine XS.icmpYes X0.here hx rfl (pc0 := 45) (pc' := 55) rfl (hb hby d1_45) rfl (tlt hd45_12).1 (by decide) (by decide) ?_
          show Steps p.tables e below (s₁.setTop (mkF m 55 #[.val (.int p0)] [])) _
          refine XS.iloadN X0.here hx rfl (hb hby d1_55) rfl ?_
          show Steps p.tables e below (s₁.setTop (mkF m 56 #[.val (.int p0)] [(.int p0)])) _
          refine XS.sipush X0.here hx rfl (hb hby d1_56) ?_
          exact kt)
      have hd59_14 : p0 < (248 : Int32) := Int32.lt_of_lt_of_le hc31_10 (by decide)
      have pre15 : ∀ t, Steps p.tables e below (s₁.setTop (mkF m 73 #[.val (.int p0)] [(.int (880 : Int32)), (.int p0)])) t → Steps p.tables e below (s₁.setTop (entryFrame m #[(.int p0)] 1)) t := fun t kt => pre13 t (by
          show Steps p.tables e below (s₁.setTop (mkF m 59 #[.val (.int p0)] [(.int (248 : Int32)), (.int p0)])) _
          refine XS.icmpYes X0.here hx rfl (pc0 := 59) (pc' := 69) rfl (hb hby d1_59) rfl (tlt hd59_14).1 (by decide) (by decide) ?_
          show Steps p.tables e below (s₁.setTop (mkF m 69 #[.val (.int p0)] [])) _
          refine XS.iloadN X0.here hx rfl (hb hby d1_69) rfl ?_
          show Steps p.tables e below (s₁.setTop (mkF m 70 #[.val (.int p0)] [(.int p0)])) _
          refine XS.sipush X0.here hx rfl (hb hby d1_70) ?_
          exact kt)
      have hd73_16 : p0 < (880 : Int32) := Int32.lt_of_lt_of_le hc31_10 (by decide)
      have pre17 : ∀ t, Steps p.tables e below (s₁.setTop (mkF m 87 #[.val (.int p0)] [(.int (895 : Int32)), (.int p0)])) t → Steps p.tables e below (s₁.setTop (entryFrame m #[(.int p0)] 1)) t := fun t kt => pre15 t (by
          show Steps p.tables e below (s₁.setTop (mkF m 73 #[.val (.int p0)] [(.int (880 : Int32)), (.int p0)])) _
          refine XS.icmpYes X0.here hx rfl (pc0 := 73) (pc' := 83) rfl (hb hby d1_73) rfl (tlt hd73_16).1 (by decide) (by decide) ?_
          show Steps p.tables e below (s₁.setTop (mkF m 83 #[.val (.int p0)] [])) _
          refine XS.iloadN X0.here hx rfl (hb hby d1_83) rfl ?_
          show Steps p.tables e below (s₁.setTop (mkF m 84 #[.val (.int p0)] [(.int p0)])) _
          refine XS.sipush X0.here hx rfl (hb hby d1_84) ?_
          exact kt)
      have hd87_18 : p0 < (895 : Int32) := Int32.lt_of_lt_of_le hc31_10 (by decide)
      have pre19 : ∀ t, Steps p.tables e below (s₁.setTop (mkF m 101 #[.val (.int p0)] [(.int (8204 : Int32)), (.int p0)])) t → Steps p.tables e below (s₁.setTop (entryFrame m #[(.int p0)] 1)) t := fun t kt => pre17 t (by
          show Steps p.tables e below (s₁.setTop (mkF m 87 #[.val (.int p0)] [(.int (895 : Int32)), (.int p0)])) _
          refine XS.icmpYes X0.here hx rfl (pc0 := 87) (pc' := 97) rfl (hb hby d1_87) rfl (tlt hd87_18).1 (by decide) (by decide) ?_
          show Steps p.tables e below (s₁.setTop (mkF m 97 #[.val (.int p0)] [])) _
          refine XS.iloadN X0.here hx rfl (hb hby d1_97) rfl ?_
          show Steps p.tables e below (s₁.setTop (mkF m 98 #[.val (.int p0)] [(.int p0)])) _
          refine XS.sipush X0.here hx rfl (hb hby d1_98) ?_
          exact kt)
      have hd101_20 : p0 < (8204 : Int32) := Int32.lt_of_lt_of_le hc31_10 (by decide)
      have pre21 : ∀ t, Steps p.tables e below (s₁.setTop (mkF m 115 #[.val (.int p0)] [(.int (8304 : Int32)), (.int p0)])) t → Steps p.tables e below (s₁.setTop (entryFrame m #[(.int p0)] 1)) t := fun t kt => pre19 t (by
          show Steps p.tables e below (s₁.setTop (mkF m 101 #[.val (.int p0)] [(.int (8204 : Int32)), (.int p0)])) _
          refine XS.icmpYes X0.here hx rfl (pc0 := 101) (pc' := 111) rfl (hb hby d1_101) rfl (tlt hd101_20).1 (by decide) (by decide) ?_
          show Steps p.tables e below (s₁.setTop (mkF m 111 #[.val (.int p0)] [])) _
          refine XS.iloadN X0.here hx rfl (hb hby d1_111) rfl ?_
          show Steps p.tables e below (s₁.setTop (mkF m 112 #[.val (.int p0)] [(.int p0)])) _
          refine XS.sipush X0.here hx rfl (hb hby d1_112) ?_
          exact kt)
      have hd115_22 : p0 < (8304 : Int32) := Int32.lt_of_lt_of_le hc31_10 (by decide)
      have pre23 : ∀ t, Steps p.tables e below (s₁.setTop (mkF m 129 #[.val (.int p0)] [(.int (11264 : Int32)), (.int p0)])) t → Steps p.tables e below (s₁.setTop (entryFrame m #[(.int p0)] 1)) t := fun t kt => pre21 t (by
          show Steps p.tables e below (s₁.setTop (mkF m 115 #[.val (.int p0)] [(.int (8304 : Int32)), (.int p0)])) _
          refine XS.icmpYes X0.here hx rfl (pc0 := 115) (pc' := 125) rfl (hb hby d1_115) rfl (tlt hd115_22).1 (by decide) (by decide) ?_
          show Steps p.tables e below (s₁.setTop (mkF m 125 #[.val (.int p0)] [])) _
          refine XS.iloadN X0.here hx rfl (hb hby d1_125) rfl ?_
          show Steps p.tables e below (s₁.setTop (mkF m 126 #[.val (.int p0)] [(.int p0)])) _
          refine XS.sipush X0.here hx rfl (hb hby d1_126) ?_
          exact kt)
      have hd129_24 : p0 < (11264 : Int32) := Int32.lt_of_lt_of_le hc31_10 (by decide)
      have pre25 : ∀ t, Steps p.tables e below (s₁.setTop (mkF m 143 #[.val (.int p0)] [(.int (12289 : Int32)), (.int p0)])) t → Steps p.tables e below (s₁.setTop (entryFrame m #[(.int p0)] 1)) t := fun t kt => pre23 t (by
          show Steps p.tables e below (s₁.setTop (mkF m 129 #[.val (.int p0)] [(.int (11264 : Int32)), (.int p0)])) _
          refine XS.icmpYes X0.here hx rfl (pc0 := 129) (pc' := 139) rfl (hb hby d1_129) rfl (tlt hd129_24).1 (by decide) (by decide) ?_
          show Steps p.tables e below (s₁.setTop (mkF m 139 #[.val (.int p0)] [])) _
          refine XS.iloadN X0.here hx rfl (hb hby d1_139) rfl ?_
          show Steps p.tables e below (s₁.setTop (mkF m 140 #[.val (.int p0)] [(.int p0)])) _
          refine XS.sipush X0.here hx rfl (hb hby d1_140) ?_
          exact kt)
      have hd143_26 : p0 < (12289 : Int32) := Int32.lt_of_lt_of_le hc31_10 (by decide)
      have pre27 : ∀ t, Steps p.tables e below (s₁.setTop (mkF m 155 #[.val (.int p0)] [(.int (63744 : Int32)), (.int p0)])) t → Steps p.tables e below (s₁.setTop (entryFrame m #[(.int p0)] 1)) t := fun t kt => pre25 t (by
          show Steps p.tables e below (s₁.setTop (mkF m 143 #[.val (.int p0)] [(.int (12289 : Int32)), (.int p0)])) _
          refine XS.icmpYes X0.here hx rfl (pc0 := 143) (pc' := 152) rfl (hb hby d1_143) rfl (tlt hd143_26).1 (by decide) (by decide) ?_
          show Steps p.tables e below (s₁.setTop (mkF m 152 #[.val (.int p0)] [])) _
          refine XS.iloadN X0.here hx rfl (hb hby d1_152) rfl ?_
          show Steps p.tables e below (s₁.setTop (mkF m 153 #[.val (.int p0)] [(.int p0)])) _
          refine X0.ldcInt hx hown (mvT hZ (hw _ (List.mem_of_getElem? (i := 25) rfl))) (g := (mkF m 153 #[.val (.int p0)] [(.int p0)])) rfl (hb hby d1_153) _ ?_
          exact kt)
      have hd155_28 : p0 < (63744 : Int32) := Int32.lt_of_lt_of_le hc31_10 (by decide)
      have pre29 : ∀ t, Steps p.tables e below (s₁.setTop (mkF m 167 #[.val (.int p0)] [(.int (65008 : Int32)), (.int p0)])) t → Steps p.tables e below (s₁.setTop (entryFrame m #[(.int p0)] 1)) t := fun t kt => pre27 t (by
          show Steps p.tables e below (s₁.setTop (mkF m 155 #[.val (.int p0)] [(.int (63744 : Int32)), (.int p0)])) _
          refine XS.icmpYes X0.here hx rfl (pc0 := 155) (pc' := 164) rfl (hb hby d1_155) rfl (tlt hd155_28).1 (by decide) (by decide) ?_
          show Steps p.tables e below (s₁.setTop (mkF m 164 #[.val (.int p0)] [])) _
          refine XS.iloadN X0.here hx rfl (hb hby d1_164) rfl ?_
          show Steps p.tables e below (s₁.setTop (mkF m 165 #[.val (.int p0)] [(.int p0)])) _
          refine X0.ldcInt hx hown (mvT hZ (hw _ (List.mem_of_getElem? (i := 26) rfl))) (g := (mkF m 165 #[.val (.int p0)] [(.int p0)])) rfl (hb hby d1_165) _ ?_
          exact kt)
      have hd167_30 : p0 < (65008 : Int32) := Int32.lt_of_lt_of_le hc31_10 (by decide)
      have pre31 : ∀ t, Steps p.tables e below (s₁.setTop (mkF m 179 #[.val (.int p0)] [(.int (65536 : Int32)), (.int p0)])) t → Steps p.tables e below (s₁.setTop (entryFrame m #[(.int p0)] 1)) t := fun t kt => pre29 t (by
          show Steps p.tables e below (s₁.setTop (mkF m 167 #[.val (.int p0)] [(.int (65008 : Int32)), (.int p0)])) _
          refine XS.icmpYes X0.here hx rfl (pc0 := 167) (pc' := 176) rfl (hb hby d1_167) rfl (tlt hd167_30).1 (by decide) (by decide) ?_
          show Steps p.tables e below (s₁.setTop (mkF m 176 #[.val (.int p0)] [])) _
          refine XS.iloadN X0.here hx rfl (hb hby d1_176) rfl ?_
          show Steps p.tables e below (s₁.setTop (mkF m 177 #[.val (.int p0)] [(.int p0)])) _
          refine X0.ldcInt hx hown (mvT hZ (hw _ (List.mem_of_getElem? (i := 27) rfl))) (g := (mkF m 177 #[.val (.int p0)] [(.int p0)])) rfl (hb hby d1_177) _ ?_
          exact kt)
      have hd179_32 : p0 < (65536 : Int32) := Int32.lt_of_lt_of_le hc31_10 (by decide)
      obtain ⟨fs, hr, hrun, hended, hW, hsame⟩ := X0.leave (v := some (.int (0 : Int32))) (fun h => by rw [Bd.returns] at h; cases h)
      have hv192 : (f1 p0 F1) = (0 : Int32) := by rw [f1, if_neg hc4_2, if_pos hc31_10]
      refine ⟨_, _, pre31 _ ?_, hrun, hended, _, _, rfl, ?_, ⟨_, rfl⟩, hW, hsame.mono (by decide) (by decide)⟩
      · show Steps p.tables e below (s₁.setTop (mkF m 179 #[.val (.int p0)] [(.int (65536 : Int32)), (.int p0)])) _
        refine XS.icmpYes X0.here hx rfl (pc0 := 179) (pc' := 192) rfl (hb hby d1_179) rfl (tlt hd179_32).1 (by decide) (by decide) ?_
        show Steps p.tables e below (s₁.setTop (mkF m 192 #[.val (.int p0)] [])) _
        refine XS.iconst X0.here hx rfl (hb hby d1_192) ?_
        show Steps p.tables e below (s₁.setTop (mkF m 193 #[.val (.int p0)] [(.int (0 : Int32))])) _
        exact retN X0 hx (t := .boolean) Bd.returns (by simp) (hb hby d1_193) hr
      · show Q1 Z p0 t1 F1 h0 n0 _ s₁.heap _
        rw [e0]
        exact ⟨congrArg (fun q => some (Value.int q)) hv192.symm, N0, rfl⟩
    · have pre33 : ∀ t, Steps p.tables e below (s₁.setTop (mkF m 38 #[.val (.int p0)] [(.int (214 : Int32)), (.int p0)])) t → Steps p.tables e below (s₁.setTop (entryFrame m #[(.int p0)] 1)) t := fun t kt => pre9 t (by
          show Steps p.tables e below (s₁.setTop (mkF m 31 #[.val (.int p0)] [(.int (192 : Int32)), (.int p0)])) _
          refine XS.icmpNo X0.here hx rfl (hb hby d1_31) rfl (flt hc31_10).1 ?_
          show Steps p.tables e below (s₁.setTop (mkF m 34 #[.val (.int p0)] [])) _
          refine XS.iloadN X0.here hx rfl (hb hby d1_34) rfl ?_
          show Steps p.tables e below (s₁.setTop (mkF m 35 #[.val (.int p0)] [(.int p0)])) _
          refine XS.sipush X0.here hx rfl (hb hby d1_35) ?_
          exact kt)
      by_cases hc38_34 : (214 : Int32) < p0
      · have pre35 : ∀ t, Steps p.tables e below (s₁.setTop (mkF m 45 #[.val (.int p0)] [(.int (216 : Int32)), (.int p0)])) t → Steps p.tables e below (s₁.setTop (entryFrame m #[(.int p0)] 1)) t := fun t kt => pre33 t (by
            show Steps p.tables e below (s₁.setTop (mkF m 38 #[.val (.int p0)] [(.int (214 : Int32)), (.int p0)])) _
            refine XS.icmpNo X0.here hx rfl (hb hby d1_38) rfl (tlt hc38_34).2.2.2 ?_
            show Steps p.tables e below (s₁.setTop (mkF m 41 #[.val (.int p0)] [])) _
            refine XS.iloadN X0.here hx rfl (hb hby d1_41) rfl ?_
            show Steps p.tables e below (s₁.setTop (mkF m 42 #[.val (.int p0)] [(.int p0)])) _
            refine XS.sipush X0.here hx rfl (hb hby d1_42) ?_
            exact kt)
        by_cases hc45_36 : p0 < (216 : Int32)
        · have pre37 : ∀ t, Steps p.tables e below (s₁.setTop (mkF m 59 #[.val (.int p0)] [(.int (248 : Int32)), (.int p0)])) t → Steps p.tables e below (s₁.setTop (entryFrame m #[(.int p0)] 1)) t := fun t kt => pre35 t (by
              show Steps p.tables e below (s₁.setTop (mkF m 45 #[.val (.int p0)] [(.int (216 : Int32)), (.int p0)])) _
              refine XS.icmpYes X0.here hx rfl (pc0 := 45) (pc' := 55) rfl (hb hby d1_45) rfl (tlt hc45_36).1 (by decide) (by decide) ?_
              show Steps p.tables e below (s₁.setTop (mkF m 55 #[.val (.int p0)] [])) _
              refine XS.iloadN X0.here hx rfl (hb hby d1_55) rfl ?_
              show Steps p.tables e below (s₁.setTop (mkF m 56 #[.val (.int p0)] [(.int p0)])) _
              refine XS.sipush X0.here hx rfl (hb hby d1_56) ?_
              exact kt)
          have hd59_38 : p0 < (248 : Int32) := Int32.lt_of_lt_of_le hc45_36 (by decide)
          have pre39 : ∀ t, Steps p.tables e below (s₁.setTop (mkF m 73 #[.val (.int p0)] [(.int (880 : Int32)), (.int p0)])) t → Steps p.tables e below (s₁.setTop (entryFrame m #[(.int p0)] 1)) t := fun t kt => pre37 t (by
              show Steps p.tables e below (s₁.setTop (mkF m 59 #[.val (.int p0)] [(.int (248 : Int32)), (.int p0)])) _
              refine XS.icmpYes X0.here hx rfl (pc0 := 59) (pc' := 69) rfl (hb hby d1_59) rfl (tlt hd59_38).1 (by decide) (by decide) ?_
              show Steps p.tables e below (s₁.setTop (mkF m 69 #[.val (.int p0)] [])) _
              refine XS.iloadN X0.here hx rfl (hb hby d1_69) rfl ?_
              show Steps p.tables e below (s₁.setTop (mkF m 70 #[.val (.int p0)] [(.int p0)])) _
              refine XS.sipush X0.here hx rfl (hb hby d1_70) ?_
              exact kt)
          have hd73_40 : p0 < (880 : Int32) := Int32.lt_of_lt_of_le hc45_36 (by decide)
          have pre41 : ∀ t, Steps p.tables e below (s₁.setTop (mkF m 87 #[.val (.int p0)] [(.int (895 : Int32)), (.int p0)])) t → Steps p.tables e below (s₁.setTop (entryFrame m #[(.int p0)] 1)) t := fun t kt => pre39 t (by
              show Steps p.tables e below (s₁.setTop (mkF m 73 #[.val (.int p0)] [(.int (880 : Int32)), (.int p0)])) _
              refine XS.icmpYes X0.here hx rfl (pc0 := 73) (pc' := 83) rfl (hb hby d1_73) rfl (tlt hd73_40).1 (by decide) (by decide) ?_
              show Steps p.tables e below (s₁.setTop (mkF m 83 #[.val (.int p0)] [])) _
              refine XS.iloadN X0.here hx rfl (hb hby d1_83) rfl ?_
              show Steps p.tables e below (s₁.setTop (mkF m 84 #[.val (.int p0)] [(.int p0)])) _
              refine XS.sipush X0.here hx rfl (hb hby d1_84) ?_
              exact kt)
          have hd87_42 : p0 < (895 : Int32) := Int32.lt_of_lt_of_le hc45_36 (by decide)
          have pre43 : ∀ t, Steps p.tables e below (s₁.setTop (mkF m 101 #[.val (.int p0)] [(.int (8204 : Int32)), (.int p0)])) t → Steps p.tables e below (s₁.setTop (entryFrame m #[(.int p0)] 1)) t := fun t kt => pre41 t (by
              show Steps p.tables e below (s₁.setTop (mkF m 87 #[.val (.int p0)] [(.int (895 : Int32)), (.int p0)])) _
              refine XS.icmpYes X0.here hx rfl (pc0 := 87) (pc' := 97) rfl (hb hby d1_87) rfl (tlt hd87_42).1 (by decide) (by decide) ?_
              show Steps p.tables e below (s₁.setTop (mkF m 97 #[.val (.int p0)] [])) _
              refine XS.iloadN X0.here hx rfl (hb hby d1_97) rfl ?_
              show Steps p.tables e below (s₁.setTop (mkF m 98 #[.val (.int p0)] [(.int p0)])) _
              refine XS.sipush X0.here hx rfl (hb hby d1_98) ?_
              exact kt)
          have hd101_44 : p0 < (8204 : Int32) := Int32.lt_of_lt_of_le hc45_36 (by decide)
          have pre45 : ∀ t, Steps p.tables e below (s₁.setTop (mkF m 115 #[.val (.int p0)] [(.int (8304 : Int32)), (.int p0)])) t → Steps p.tables e below (s₁.setTop (entryFrame m #[(.int p0)] 1)) t := fun t kt => pre43 t (by
              show Steps p.tables e below (s₁.setTop (mkF m 101 #[.val (.int p0)] [(.int (8204 : Int32)), (.int p0)])) _
              refine XS.icmpYes X0.here hx rfl (pc0 := 101) (pc' := 111) rfl (hb hby d1_101) rfl (tlt hd101_44).1 (by decide) (by decide) ?_
              show Steps p.tables e below (s₁.setTop (mkF m 111 #[.val (.int p0)] [])) _
              refine XS.iloadN X0.here hx rfl (hb hby d1_111) rfl ?_
              show Steps p.tables e below (s₁.setTop (mkF m 112 #[.val (.int p0)] [(.int p0)])) _
              refine XS.sipush X0.here hx rfl (hb hby d1_112) ?_
              exact kt)
          have hd115_46 : p0 < (8304 : Int32) := Int32.lt_of_lt_of_le hc45_36 (by decide)
          have pre47 : ∀ t, Steps p.tables e below (s₁.setTop (mkF m 129 #[.val (.int p0)] [(.int (11264 : Int32)), (.int p0)])) t → Steps p.tables e below (s₁.setTop (entryFrame m #[(.int p0)] 1)) t := fun t kt => pre45 t (by
              show Steps p.tables e below (s₁.setTop (mkF m 115 #[.val (.int p0)] [(.int (8304 : Int32)), (.int p0)])) _
              refine XS.icmpYes X0.here hx rfl (pc0 := 115) (pc' := 125) rfl (hb hby d1_115) rfl (tlt hd115_46).1 (by decide) (by decide) ?_
              show Steps p.tables e below (s₁.setTop (mkF m 125 #[.val (.int p0)] [])) _
              refine XS.iloadN X0.here hx rfl (hb hby d1_125) rfl ?_
              show Steps p.tables e below (s₁.setTop (mkF m 126 #[.val (.int p0)] [(.int p0)])) _
              refine XS.sipush X0.here hx rfl (hb hby d1_126) ?_
              exact kt)
          have hd129_48 : p0 < (11264 : Int32) := Int32.lt_of_lt_of_le hc45_36 (by decide)
          have pre49 : ∀ t, Steps p.tables e below (s₁.setTop (mkF m 143 #[.val (.int p0)] [(.int (12289 : Int32)), (.int p0)])) t → Steps p.tables e below (s₁.setTop (entryFrame m #[(.int p0)] 1)) t := fun t kt => pre47 t (by
              show Steps p.tables e below (s₁.setTop (mkF m 129 #[.val (.int p0)] [(.int (11264 : Int32)), (.int p0)])) _
              refine XS.icmpYes X0.here hx rfl (pc0 := 129) (pc' := 139) rfl (hb hby d1_129) rfl (tlt hd129_48).1 (by decide) (by decide) ?_
              show Steps p.tables e below (s₁.setTop (mkF m 139 #[.val (.int p0)] [])) _
              refine XS.iloadN X0.here hx rfl (hb hby d1_139) rfl ?_
              show Steps p.tables e below (s₁.setTop (mkF m 140 #[.val (.int p0)] [(.int p0)])) _
              refine XS.sipush X0.here hx rfl (hb hby d1_140) ?_
              exact kt)
          have hd143_50 : p0 < (12289 : Int32) := Int32.lt_of_lt_of_le hc45_36 (by decide)
          have pre51 : ∀ t, Steps p.tables e below (s₁.setTop (mkF m 155 #[.val (.int p0)] [(.int (63744 : Int32)), (.int p0)])) t → Steps p.tables e below (s₁.setTop (entryFrame m #[(.int p0)] 1)) t := fun t kt => pre49 t (by
              show Steps p.tables e below (s₁.setTop (mkF m 143 #[.val (.int p0)] [(.int (12289 : Int32)), (.int p0)])) _
              refine XS.icmpYes X0.here hx rfl (pc0 := 143) (pc' := 152) rfl (hb hby d1_143) rfl (tlt hd143_50).1 (by decide) (by decide) ?_
              show Steps p.tables e below (s₁.setTop (mkF m 152 #[.val (.int p0)] [])) _
              refine XS.iloadN X0.here hx rfl (hb hby d1_152) rfl ?_
              show Steps p.tables e below (s₁.setTop (mkF m 153 #[.val (.int p0)] [(.int p0)])) _
              refine X0.ldcInt hx hown (mvT hZ (hw _ (List.mem_of_getElem? (i := 25) rfl))) (g := (mkF m 153 #[.val (.int p0)] [(.int p0)])) rfl (hb hby d1_153) _ ?_
              exact kt)
          have hd155_52 : p0 < (63744 : Int32) := Int32.lt_of_lt_of_le hc45_36 (by decide)
          have pre53 : ∀ t, Steps p.tables e below (s₁.setTop (mkF m 167 #[.val (.int p0)] [(.int (65008 : Int32)), (.int p0)])) t → Steps p.tables e below (s₁.setTop (entryFrame m #[(.int p0)] 1)) t := fun t kt => pre51 t (by
              show Steps p.tables e below (s₁.setTop (mkF m 155 #[.val (.int p0)] [(.int (63744 : Int32)), (.int p0)])) _
              refine XS.icmpYes X0.here hx rfl (pc0 := 155) (pc' := 164) rfl (hb hby d1_155) rfl (tlt hd155_52).1 (by decide) (by decide) ?_
              show Steps p.tables e below (s₁.setTop (mkF m 164 #[.val (.int p0)] [])) _
              refine XS.iloadN X0.here hx rfl (hb hby d1_164) rfl ?_
              show Steps p.tables e below (s₁.setTop (mkF m 165 #[.val (.int p0)] [(.int p0)])) _
              refine X0.ldcInt hx hown (mvT hZ (hw _ (List.mem_of_getElem? (i := 26) rfl))) (g := (mkF m 165 #[.val (.int p0)] [(.int p0)])) rfl (hb hby d1_165) _ ?_
              exact kt)
          have hd167_54 : p0 < (65008 : Int32) := Int32.lt_of_lt_of_le hc45_36 (by decide)
          have pre55 : ∀ t, Steps p.tables e below (s₁.setTop (mkF m 179 #[.val (.int p0)] [(.int (65536 : Int32)), (.int p0)])) t → Steps p.tables e below (s₁.setTop (entryFrame m #[(.int p0)] 1)) t := fun t kt => pre53 t (by
              show Steps p.tables e below (s₁.setTop (mkF m 167 #[.val (.int p0)] [(.int (65008 : Int32)), (.int p0)])) _
              refine XS.icmpYes X0.here hx rfl (pc0 := 167) (pc' := 176) rfl (hb hby d1_167) rfl (tlt hd167_54).1 (by decide) (by decide) ?_
              show Steps p.tables e below (s₁.setTop (mkF m 176 #[.val (.int p0)] [])) _
              refine XS.iloadN X0.here hx rfl (hb hby d1_176) rfl ?_
              show Steps p.tables e below (s₁.setTop (mkF m 177 #[.val (.int p0)] [(.int p0)])) _
              refine X0.ldcInt hx hown (mvT hZ (hw _ (List.mem_of_getElem? (i := 27) rfl))) (g := (mkF m 177 #[.val (.int p0)] [(.int p0)])) rfl (hb hby d1_177) _ ?_
              exact kt)
          have hd179_56 : p0 < (65536 : Int32) := Int32.lt_of_lt_of_le hc45_36 (by decide)
          obtain ⟨fs, hr, hrun, hended, hW, hsame⟩ := X0.leave (v := some (.int (0 : Int32))) (fun h => by rw [Bd.returns] at h; cases h)
          have hv193 : (f1 p0 F1) = (0 : Int32) := by rw [f1, if_neg hc4_2, if_neg hc31_10, if_pos hc38_34, if_pos hc45_36]
          refine ⟨_, _, pre55 _ ?_, hrun, hended, _, _, rfl, ?_, ⟨_, rfl⟩, hW, hsame.mono (by decide) (by decide)⟩
          · show Steps p.tables e below (s₁.setTop (mkF m 179 #[.val (.int p0)] [(.int (65536 : Int32)), (.int p0)])) _
            refine XS.icmpYes X0.here hx rfl (pc0 := 179) (pc' := 192) rfl (hb hby d1_179) rfl (tlt hd179_56).1 (by decide) (by decide) ?_
            show Steps p.tables e below (s₁.setTop (mkF m 192 #[.val (.int p0)] [])) _
            refine XS.iconst X0.here hx rfl (hb hby d1_192) ?_
            show Steps p.tables e below (s₁.setTop (mkF m 193 #[.val (.int p0)] [(.int (0 : Int32))])) _
            exact retN X0 hx (t := .boolean) Bd.returns (by simp) (hb hby d1_193) hr
          · show Q1 Z p0 t1 F1 h0 n0 _ s₁.heap _
            rw [e0]
            exact ⟨congrArg (fun q => some (Value.int q)) hv193.symm, N0, rfl⟩
        · have pre57 : ∀ t, Steps p.tables e below (s₁.setTop (mkF m 52 #[.val (.int p0)] [(.int (246 : Int32)), (.int p0)])) t → Steps p.tables e below (s₁.setTop (entryFrame m #[(.int p0)] 1)) t := fun t kt => pre35 t (by
              show Steps p.tables e below (s₁.setTop (mkF m 45 #[.val (.int p0)] [(.int (216 : Int32)), (.int p0)])) _
              refine XS.icmpNo X0.here hx rfl (hb hby d1_45) rfl (flt hc45_36).1 ?_
              show Steps p.tables e below (s₁.setTop (mkF m 48 #[.val (.int p0)] [])) _
              refine XS.iloadN X0.here hx rfl (hb hby d1_48) rfl ?_
              show Steps p.tables e below (s₁.setTop (mkF m 49 #[.val (.int p0)] [(.int p0)])) _
              refine XS.sipush X0.here hx rfl (hb hby d1_49) ?_
              exact kt)
          by_cases hc52_58 : (246 : Int32) < p0
          · have pre59 : ∀ t, Steps p.tables e below (s₁.setTop (mkF m 59 #[.val (.int p0)] [(.int (248 : Int32)), (.int p0)])) t → Steps p.tables e below (s₁.setTop (entryFrame m #[(.int p0)] 1)) t := fun t kt => pre57 t (by
                show Steps p.tables e below (s₁.setTop (mkF m 52 #[.val (.int p0)] [(.int (246 : Int32)), (.int p0)])) _
                refine XS.icmpNo X0.here hx rfl (hb hby d1_52) rfl (tlt hc52_58).2.2.2 ?_
                show Steps p.tables e below (s₁.setTop (mkF m 55 #[.val (.int p0)] [])) _
                refine XS.iloadN X0.here hx rfl (hb hby d1_55) rfl ?_
                show Steps p.tables e below (s₁.setTop (mkF m 56 #[.val (.int p0)] [(.int p0)])) _
                refine XS.sipush X0.here hx rfl (hb hby d1_56) ?_
                exact kt)
            by_cases hc59_60 : p0 < (248 : Int32)
            · have pre61 : ∀ t, Steps p.tables e below (s₁.setTop (mkF m 73 #[.val (.int p0)] [(.int (880 : Int32)), (.int p0)])) t → Steps p.tables e below (s₁.setTop (entryFrame m #[(.int p0)] 1)) t := fun t kt => pre59 t (by
                  show Steps p.tables e below (s₁.setTop (mkF m 59 #[.val (.int p0)] [(.int (248 : Int32)), (.int p0)])) _
                  refine XS.icmpYes X0.here hx rfl (pc0 := 59) (pc' := 69) rfl (hb hby d1_59) rfl (tlt hc59_60).1 (by decide) (by decide) ?_
                  show Steps p.tables e below (s₁.setTop (mkF m 69 #[.val (.int p0)] [])) _
                  refine XS.iloadN X0.here hx rfl (hb hby d1_69) rfl ?_
                  show Steps p.tables e below (s₁.setTop (mkF m 70 #[.val (.int p0)] [(.int p0)])) _
                  refine XS.sipush X0.here hx rfl (hb hby d1_70) ?_
                  exact kt)
              have hd73_62 : p0 < (880 : Int32) := Int32.lt_of_lt_of_le hc59_60 (by decide)
              have pre63 : ∀ t, Steps p.tables e below (s₁.setTop (mkF m 87 #[.val (.int p0)] [(.int (895 : Int32)), (.int p0)])) t → Steps p.tables e below (s₁.setTop (entryFrame m #[(.int p0)] 1)) t := fun t kt => pre61 t (by
                  show Steps p.tables e below (s₁.setTop (mkF m 73 #[.val (.int p0)] [(.int (880 : Int32)), (.int p0)])) _
                  refine XS.icmpYes X0.here hx rfl (pc0 := 73) (pc' := 83) rfl (hb hby d1_73) rfl (tlt hd73_62).1 (by decide) (by decide) ?_
                  show Steps p.tables e below (s₁.setTop (mkF m 83 #[.val (.int p0)] [])) _
                  refine XS.iloadN X0.here hx rfl (hb hby d1_83) rfl ?_
                  show Steps p.tables e below (s₁.setTop (mkF m 84 #[.val (.int p0)] [(.int p0)])) _
                  refine XS.sipush X0.here hx rfl (hb hby d1_84) ?_
                  exact kt)
              have hd87_64 : p0 < (895 : Int32) := Int32.lt_of_lt_of_le hc59_60 (by decide)
              have pre65 : ∀ t, Steps p.tables e below (s₁.setTop (mkF m 101 #[.val (.int p0)] [(.int (8204 : Int32)), (.int p0)])) t → Steps p.tables e below (s₁.setTop (entryFrame m #[(.int p0)] 1)) t := fun t kt => pre63 t (by
                  show Steps p.tables e below (s₁.setTop (mkF m 87 #[.val (.int p0)] [(.int (895 : Int32)), (.int p0)])) _
                  refine XS.icmpYes X0.here hx rfl (pc0 := 87) (pc' := 97) rfl (hb hby d1_87) rfl (tlt hd87_64).1 (by decide) (by decide) ?_
                  show Steps p.tables e below (s₁.setTop (mkF m 97 #[.val (.int p0)] [])) _
                  refine XS.iloadN X0.here hx rfl (hb hby d1_97) rfl ?_
                  show Steps p.tables e below (s₁.setTop (mkF m 98 #[.val (.int p0)] [(.int p0)])) _
                  refine XS.sipush X0.here hx rfl (hb hby d1_98) ?_
                  exact kt)
              have hd101_66 : p0 < (8204 : Int32) := Int32.lt_of_lt_of_le hc59_60 (by decide)
              have pre67 : ∀ t, Steps p.tables e below (s₁.setTop (mkF m 115 #[.val (.int p0)] [(.int (8304 : Int32)), (.int p0)])) t → Steps p.tables e below (s₁.setTop (entryFrame m #[(.int p0)] 1)) t := fun t kt => pre65 t (by
                  show Steps p.tables e below (s₁.setTop (mkF m 101 #[.val (.int p0)] [(.int (8204 : Int32)), (.int p0)])) _
                  refine XS.icmpYes X0.here hx rfl (pc0 := 101) (pc' := 111) rfl (hb hby d1_101) rfl (tlt hd101_66).1 (by decide) (by decide) ?_
                  show Steps p.tables e below (s₁.setTop (mkF m 111 #[.val (.int p0)] [])) _
                  refine XS.iloadN X0.here hx rfl (hb hby d1_111) rfl ?_
                  show Steps p.tables e below (s₁.setTop (mkF m 112 #[.val (.int p0)] [(.int p0)])) _
                  refine XS.sipush X0.here hx rfl (hb hby d1_112) ?_
                  exact kt)
              have hd115_68 : p0 < (8304 : Int32) := Int32.lt_of_lt_of_le hc59_60 (by decide)
              have pre69 : ∀ t, Steps p.tables e below (s₁.setTop (mkF m 129 #[.val (.int p0)] [(.int (11264 : Int32)), (.int p0)])) t → Steps p.tables e below (s₁.setTop (entryFrame m #[(.int p0)] 1)) t := fun t kt => pre67 t (by
                  show Steps p.tables e below (s₁.setTop (mkF m 115 #[.val (.int p0)] [(.int (8304 : Int32)), (.int p0)])) _
                  refine XS.icmpYes X0.here hx rfl (pc0 := 115) (pc' := 125) rfl (hb hby d1_115) rfl (tlt hd115_68).1 (by decide) (by decide) ?_
                  show Steps p.tables e below (s₁.setTop (mkF m 125 #[.val (.int p0)] [])) _
                  refine XS.iloadN X0.here hx rfl (hb hby d1_125) rfl ?_
                  show Steps p.tables e below (s₁.setTop (mkF m 126 #[.val (.int p0)] [(.int p0)])) _
                  refine XS.sipush X0.here hx rfl (hb hby d1_126) ?_
                  exact kt)
              have hd129_70 : p0 < (11264 : Int32) := Int32.lt_of_lt_of_le hc59_60 (by decide)
              have pre71 : ∀ t, Steps p.tables e below (s₁.setTop (mkF m 143 #[.val (.int p0)] [(.int (12289 : Int32)), (.int p0)])) t → Steps p.tables e below (s₁.setTop (entryFrame m #[(.int p0)] 1)) t := fun t kt => pre69 t (by
                  show Steps p.tables e below (s₁.setTop (mkF m 129 #[.val (.int p0)] [(.int (11264 : Int32)), (.int p0)])) _
                  refine XS.icmpYes X0.here hx rfl (pc0 := 129) (pc' := 139) rfl (hb hby d1_129) rfl (tlt hd129_70).1 (by decide) (by decide) ?_
                  show Steps p.tables e below (s₁.setTop (mkF m 139 #[.val (.int p0)] [])) _
                  refine XS.iloadN X0.here hx rfl (hb hby d1_139) rfl ?_
                  show Steps p.tables e below (s₁.setTop (mkF m 140 #[.val (.int p0)] [(.int p0)])) _
                  refine XS.sipush X0.here hx rfl (hb hby d1_140) ?_
                  exact kt)
              have hd143_72 : p0 < (12289 : Int32) := Int32.lt_of_lt_of_le hc59_60 (by decide)
              have pre73 : ∀ t, Steps p.tables e below (s₁.setTop (mkF m 155 #[.val (.int p0)] [(.int (63744 : Int32)), (.int p0)])) t → Steps p.tables e below (s₁.setTop (entryFrame m #[(.int p0)] 1)) t := fun t kt => pre71 t (by
                  show Steps p.tables e below (s₁.setTop (mkF m 143 #[.val (.int p0)] [(.int (12289 : Int32)), (.int p0)])) _
                  refine XS.icmpYes X0.here hx rfl (pc0 := 143) (pc' := 152) rfl (hb hby d1_143) rfl (tlt hd143_72).1 (by decide) (by decide) ?_
                  show Steps p.tables e below (s₁.setTop (mkF m 152 #[.val (.int p0)] [])) _
                  refine XS.iloadN X0.here hx rfl (hb hby d1_152) rfl ?_
                  show Steps p.tables e below (s₁.setTop (mkF m 153 #[.val (.int p0)] [(.int p0)])) _
                  refine X0.ldcInt hx hown (mvT hZ (hw _ (List.mem_of_getElem? (i := 25) rfl))) (g := (mkF m 153 #[.val (.int p0)] [(.int p0)])) rfl (hb hby d1_153) _ ?_
                  exact kt)
              have hd155_74 : p0 < (63744 : Int32) := Int32.lt_of_lt_of_le hc59_60 (by decide)
              have pre75 : ∀ t, Steps p.tables e below (s₁.setTop (mkF m 167 #[.val (.int p0)] [(.int (65008 : Int32)), (.int p0)])) t → Steps p.tables e below (s₁.setTop (entryFrame m #[(.int p0)] 1)) t := fun t kt => pre73 t (by
                  show Steps p.tables e below (s₁.setTop (mkF m 155 #[.val (.int p0)] [(.int (63744 : Int32)), (.int p0)])) _
                  refine XS.icmpYes X0.here hx rfl (pc0 := 155) (pc' := 164) rfl (hb hby d1_155) rfl (tlt hd155_74).1 (by decide) (by decide) ?_
                  show Steps p.tables e below (s₁.setTop (mkF m 164 #[.val (.int p0)] [])) _
                  refine XS.iloadN X0.here hx rfl (hb hby d1_164) rfl ?_
                  show Steps p.tables e below (s₁.setTop (mkF m 165 #[.val (.int p0)] [(.int p0)])) _
                  refine X0.ldcInt hx hown (mvT hZ (hw _ (List.mem_of_getElem? (i := 26) rfl))) (g := (mkF m 165 #[.val (.int p0)] [(.int p0)])) rfl (hb hby d1_165) _ ?_
                  exact kt)
              have hd167_76 : p0 < (65008 : Int32) := Int32.lt_of_lt_of_le hc59_60 (by decide)
              have pre77 : ∀ t, Steps p.tables e below (s₁.setTop (mkF m 179 #[.val (.int p0)] [(.int (65536 : Int32)), (.int p0)])) t → Steps p.tables e below (s₁.setTop (entryFrame m #[(.int p0)] 1)) t := fun t kt => pre75 t (by
                  show Steps p.tables e below (s₁.setTop (mkF m 167 #[.val (.int p0)] [(.int (65008 : Int32)), (.int p0)])) _
                  refine XS.icmpYes X0.here hx rfl (pc0 := 167) (pc' := 176) rfl (hb hby d1_167) rfl (tlt hd167_76).1 (by decide) (by decide) ?_
                  show Steps p.tables e below (s₁.setTop (mkF m 176 #[.val (.int p0)] [])) _
                  refine XS.iloadN X0.here hx rfl (hb hby d1_176) rfl ?_
                  show Steps p.tables e below (s₁.setTop (mkF m 177 #[.val (.int p0)] [(.int p0)])) _
                  refine X0.ldcInt hx hown (mvT hZ (hw _ (List.mem_of_getElem? (i := 27) rfl))) (g := (mkF m 177 #[.val (.int p0)] [(.int p0)])) rfl (hb hby d1_177) _ ?_
                  exact kt)
              have hd179_78 : p0 < (65536 : Int32) := Int32.lt_of_lt_of_le hc59_60 (by decide)
              obtain ⟨fs, hr, hrun, hended, hW, hsame⟩ := X0.leave (v := some (.int (0 : Int32))) (fun h => by rw [Bd.returns] at h; cases h)
              have hv194 : (f1 p0 F1) = (0 : Int32) := by rw [f1, if_neg hc4_2, if_neg hc31_10, if_pos hc38_34, if_neg hc45_36, if_pos hc52_58, if_pos hc59_60]
              refine ⟨_, _, pre77 _ ?_, hrun, hended, _, _, rfl, ?_, ⟨_, rfl⟩, hW, hsame.mono (by decide) (by decide)⟩
              · show Steps p.tables e below (s₁.setTop (mkF m 179 #[.val (.int p0)] [(.int (65536 : Int32)), (.int p0)])) _
                refine XS.icmpYes X0.here hx rfl (pc0 := 179) (pc' := 192) rfl (hb hby d1_179) rfl (tlt hd179_78).1 (by decide) (by decide) ?_
                show Steps p.tables e below (s₁.setTop (mkF m 192 #[.val (.int p0)] [])) _
                refine XS.iconst X0.here hx rfl (hb hby d1_192) ?_
                show Steps p.tables e below (s₁.setTop (mkF m 193 #[.val (.int p0)] [(.int (0 : Int32))])) _
                exact retN X0 hx (t := .boolean) Bd.returns (by simp) (hb hby d1_193) hr
              · show Q1 Z p0 t1 F1 h0 n0 _ s₁.heap _
                rw [e0]
                exact ⟨congrArg (fun q => some (Value.int q)) hv194.symm, N0, rfl⟩
            · have pre79 : ∀ t, Steps p.tables e below (s₁.setTop (mkF m 66 #[.val (.int p0)] [(.int (767 : Int32)), (.int p0)])) t → Steps p.tables e below (s₁.setTop (entryFrame m #[(.int p0)] 1)) t := fun t kt => pre59 t (by
                  show Steps p.tables e below (s₁.setTop (mkF m 59 #[.val (.int p0)] [(.int (248 : Int32)), (.int p0)])) _
                  refine XS.icmpNo X0.here hx rfl (hb hby d1_59) rfl (flt hc59_60).1 ?_
                  show Steps p.tables e below (s₁.setTop (mkF m 62 #[.val (.int p0)] [])) _
                  refine XS.iloadN X0.here hx rfl (hb hby d1_62) rfl ?_
                  show Steps p.tables e below (s₁.setTop (mkF m 63 #[.val (.int p0)] [(.int p0)])) _
                  refine XS.sipush X0.here hx rfl (hb hby d1_63) ?_
                  exact kt)
              by_cases hc66_80 : (767 : Int32) < p0
              · have pre81 : ∀ t, Steps p.tables e below (s₁.setTop (mkF m 73 #[.val (.int p0)] [(.int (880 : Int32)), (.int p0)])) t → Steps p.tables e below (s₁.setTop (entryFrame m #[(.int p0)] 1)) t := fun t kt => pre79 t (by
                    show Steps p.tables e below (s₁.setTop (mkF m 66 #[.val (.int p0)] [(.int (767 : Int32)), (.int p0)])) _
                    refine XS.icmpNo X0.here hx rfl (hb hby d1_66) rfl (tlt hc66_80).2.2.2 ?_
                    show Steps p.tables e below (s₁.setTop (mkF m 69 #[.val (.int p0)] [])) _
                    refine XS.iloadN X0.here hx rfl (hb hby d1_69) rfl ?_
                    show Steps p.tables e below (s₁.setTop (mkF m 70 #[.val (.int p0)] [(.int p0)])) _
                    refine XS.sipush X0.here hx rfl (hb hby d1_70) ?_
                    exact kt)
                by_cases hc73_82 : p0 < (880 : Int32)
                · have pre83 : ∀ t, Steps p.tables e below (s₁.setTop (mkF m 87 #[.val (.int p0)] [(.int (895 : Int32)), (.int p0)])) t → Steps p.tables e below (s₁.setTop (entryFrame m #[(.int p0)] 1)) t := fun t kt => pre81 t (by
                      show Steps p.tables e below (s₁.setTop (mkF m 73 #[.val (.int p0)] [(.int (880 : Int32)), (.int p0)])) _
                      refine XS.icmpYes X0.here hx rfl (pc0 := 73) (pc' := 83) rfl (hb hby d1_73) rfl (tlt hc73_82).1 (by decide) (by decide) ?_
                      show Steps p.tables e below (s₁.setTop (mkF m 83 #[.val (.int p0)] [])) _
                      refine XS.iloadN X0.here hx rfl (hb hby d1_83) rfl ?_
                      show Steps p.tables e below (s₁.setTop (mkF m 84 #[.val (.int p0)] [(.int p0)])) _
                      refine XS.sipush X0.here hx rfl (hb hby d1_84) ?_
                      exact kt)
                  have hd87_84 : p0 < (895 : Int32) := Int32.lt_of_lt_of_le hc73_82 (by decide)
                  have pre85 : ∀ t, Steps p.tables e below (s₁.setTop (mkF m 101 #[.val (.int p0)] [(.int (8204 : Int32)), (.int p0)])) t → Steps p.tables e below (s₁.setTop (entryFrame m #[(.int p0)] 1)) t := fun t kt => pre83 t (by
                      show Steps p.tables e below (s₁.setTop (mkF m 87 #[.val (.int p0)] [(.int (895 : Int32)), (.int p0)])) _
                      refine XS.icmpYes X0.here hx rfl (pc0 := 87) (pc' := 97) rfl (hb hby d1_87) rfl (tlt hd87_84).1 (by decide) (by decide) ?_
                      show Steps p.tables e below (s₁.setTop (mkF m 97 #[.val (.int p0)] [])) _
                      refine XS.iloadN X0.here hx rfl (hb hby d1_97) rfl ?_
                      show Steps p.tables e below (s₁.setTop (mkF m 98 #[.val (.int p0)] [(.int p0)])) _
                      refine XS.sipush X0.here hx rfl (hb hby d1_98) ?_
                      exact kt)
                  have hd101_86 : p0 < (8204 : Int32) := Int32.lt_of_lt_of_le hc73_82 (by decide)
                  have pre87 : ∀ t, Steps p.tables e below (s₁.setTop (mkF m 115 #[.val (.int p0)] [(.int (8304 : Int32)), (.int p0)])) t → Steps p.tables e below (s₁.setTop (entryFrame m #[(.int p0)] 1)) t := fun t kt => pre85 t (by
                      show Steps p.tables e below (s₁.setTop (mkF m 101 #[.val (.int p0)] [(.int (8204 : Int32)), (.int p0)])) _
                      refine XS.icmpYes X0.here hx rfl (pc0 := 101) (pc' := 111) rfl (hb hby d1_101) rfl (tlt hd101_86).1 (by decide) (by decide) ?_
                      show Steps p.tables e below (s₁.setTop (mkF m 111 #[.val (.int p0)] [])) _
                      refine XS.iloadN X0.here hx rfl (hb hby d1_111) rfl ?_
                      show Steps p.tables e below (s₁.setTop (mkF m 112 #[.val (.int p0)] [(.int p0)])) _
                      refine XS.sipush X0.here hx rfl (hb hby d1_112) ?_
                      exact kt)
                  have hd115_88 : p0 < (8304 : Int32) := Int32.lt_of_lt_of_le hc73_82 (by decide)
                  have pre89 : ∀ t, Steps p.tables e below (s₁.setTop (mkF m 129 #[.val (.int p0)] [(.int (11264 : Int32)), (.int p0)])) t → Steps p.tables e below (s₁.setTop (entryFrame m #[(.int p0)] 1)) t := fun t kt => pre87 t (by
                      show Steps p.tables e below (s₁.setTop (mkF m 115 #[.val (.int p0)] [(.int (8304 : Int32)), (.int p0)])) _
                      refine XS.icmpYes X0.here hx rfl (pc0 := 115) (pc' := 125) rfl (hb hby d1_115) rfl (tlt hd115_88).1 (by decide) (by decide) ?_
                      show Steps p.tables e below (s₁.setTop (mkF m 125 #[.val (.int p0)] [])) _
                      refine XS.iloadN X0.here hx rfl (hb hby d1_125) rfl ?_
                      show Steps p.tables e below (s₁.setTop (mkF m 126 #[.val (.int p0)] [(.int p0)])) _
                      refine XS.sipush X0.here hx rfl (hb hby d1_126) ?_
                      exact kt)
                  have hd129_90 : p0 < (11264 : Int32) := Int32.lt_of_lt_of_le hc73_82 (by decide)
                  have pre91 : ∀ t, Steps p.tables e below (s₁.setTop (mkF m 143 #[.val (.int p0)] [(.int (12289 : Int32)), (.int p0)])) t → Steps p.tables e below (s₁.setTop (entryFrame m #[(.int p0)] 1)) t := fun t kt => pre89 t (by
                      show Steps p.tables e below (s₁.setTop (mkF m 129 #[.val (.int p0)] [(.int (11264 : Int32)), (.int p0)])) _
                      refine XS.icmpYes X0.here hx rfl (pc0 := 129) (pc' := 139) rfl (hb hby d1_129) rfl (tlt hd129_90).1 (by decide) (by decide) ?_
                      show Steps p.tables e below (s₁.setTop (mkF m 139 #[.val (.int p0)] [])) _
                      refine XS.iloadN X0.here hx rfl (hb hby d1_139) rfl ?_
                      show Steps p.tables e below (s₁.setTop (mkF m 140 #[.val (.int p0)] [(.int p0)])) _
                      refine XS.sipush X0.here hx rfl (hb hby d1_140) ?_
                      exact kt)
                  have hd143_92 : p0 < (12289 : Int32) := Int32.lt_of_lt_of_le hc73_82 (by decide)
                  have pre93 : ∀ t, Steps p.tables e below (s₁.setTop (mkF m 155 #[.val (.int p0)] [(.int (63744 : Int32)), (.int p0)])) t → Steps p.tables e below (s₁.setTop (entryFrame m #[(.int p0)] 1)) t := fun t kt => pre91 t (by
                      show Steps p.tables e below (s₁.setTop (mkF m 143 #[.val (.int p0)] [(.int (12289 : Int32)), (.int p0)])) _
                      refine XS.icmpYes X0.here hx rfl (pc0 := 143) (pc' := 152) rfl (hb hby d1_143) rfl (tlt hd143_92).1 (by decide) (by decide) ?_
                      show Steps p.tables e below (s₁.setTop (mkF m 152 #[.val (.int p0)] [])) _
                      refine XS.iloadN X0.here hx rfl (hb hby d1_152) rfl ?_
                      show Steps p.tables e below (s₁.setTop (mkF m 153 #[.val (.int p0)] [(.int p0)])) _
                      refine X0.ldcInt hx hown (mvT hZ (hw _ (List.mem_of_getElem? (i := 25) rfl))) (g := (mkF m 153 #[.val (.int p0)] [(.int p0)])) rfl (hb hby d1_153) _ ?_
                      exact kt)
                  have hd155_94 : p0 < (63744 : Int32) := Int32.lt_of_lt_of_le hc73_82 (by decide)
                  have pre95 : ∀ t, Steps p.tables e below (s₁.setTop (mkF m 167 #[.val (.int p0)] [(.int (65008 : Int32)), (.int p0)])) t → Steps p.tables e below (s₁.setTop (entryFrame m #[(.int p0)] 1)) t := fun t kt => pre93 t (by
                      show Steps p.tables e below (s₁.setTop (mkF m 155 #[.val (.int p0)] [(.int (63744 : Int32)), (.int p0)])) _
                      refine XS.icmpYes X0.here hx rfl (pc0 := 155) (pc' := 164) rfl (hb hby d1_155) rfl (tlt hd155_94).1 (by decide) (by decide) ?_
                      show Steps p.tables e below (s₁.setTop (mkF m 164 #[.val (.int p0)] [])) _
                      refine XS.iloadN X0.here hx rfl (hb hby d1_164) rfl ?_
                      show Steps p.tables e below (s₁.setTop (mkF m 165 #[.val (.int p0)] [(.int p0)])) _
                      refine X0.ldcInt hx hown (mvT hZ (hw _ (List.mem_of_getElem? (i := 26) rfl))) (g := (mkF m 165 #[.val (.int p0)] [(.int p0)])) rfl (hb hby d1_165) _ ?_
                      exact kt)
                  have hd167_96 : p0 < (65008 : Int32) := Int32.lt_of_lt_of_le hc73_82 (by decide)
                  have pre97 : ∀ t, Steps p.tables e below (s₁.setTop (mkF m 179 #[.val (.int p0)] [(.int (65536 : Int32)), (.int p0)])) t → Steps p.tables e below (s₁.setTop (entryFrame m #[(.int p0)] 1)) t := fun t kt => pre95 t (by
                      show Steps p.tables e below (s₁.setTop (mkF m 167 #[.val (.int p0)] [(.int (65008 : Int32)), (.int p0)])) _
                      refine XS.icmpYes X0.here hx rfl (pc0 := 167) (pc' := 176) rfl (hb hby d1_167) rfl (tlt hd167_96).1 (by decide) (by decide) ?_
                      show Steps p.tables e below (s₁.setTop (mkF m 176 #[.val (.int p0)] [])) _
                      refine XS.iloadN X0.here hx rfl (hb hby d1_176) rfl ?_
                      show Steps p.tables e below (s₁.setTop (mkF m 177 #[.val (.int p0)] [(.int p0)])) _
                      refine X0.ldcInt hx hown (mvT hZ (hw _ (List.mem_of_getElem? (i := 27) rfl))) (g := (mkF m 177 #[.val (.int p0)] [(.int p0)])) rfl (hb hby d1_177) _ ?_
                      exact kt)
                  have hd179_98 : p0 < (65536 : Int32) := Int32.lt_of_lt_of_le hc73_82 (by decide)
                  obtain ⟨fs, hr, hrun, hended, hW, hsame⟩ := X0.leave (v := some (.int (0 : Int32))) (fun h => by rw [Bd.returns] at h; cases h)
                  have hv195 : (f1 p0 F1) = (0 : Int32) := by rw [f1, if_neg hc4_2, if_neg hc31_10, if_pos hc38_34, if_neg hc45_36, if_pos hc52_58, if_neg hc59_60, if_pos hc66_80, if_pos hc73_82]
                  refine ⟨_, _, pre97 _ ?_, hrun, hended, _, _, rfl, ?_, ⟨_, rfl⟩, hW, hsame.mono (by decide) (by decide)⟩
                  · show Steps p.tables e below (s₁.setTop (mkF m 179 #[.val (.int p0)] [(.int (65536 : Int32)), (.int p0)])) _
                    refine XS.icmpYes X0.here hx rfl (pc0 := 179) (pc' := 192) rfl (hb hby d1_179) rfl (tlt hd179_98).1 (by decide) (by decide) ?_
                    show Steps p.tables e below (s₁.setTop (mkF m 192 #[.val (.int p0)] [])) _
                    refine XS.iconst X0.here hx rfl (hb hby d1_192) ?_
                    show Steps p.tables e below (s₁.setTop (mkF m 193 #[.val (.int p0)] [(.int (0 : Int32))])) _
                    exact retN X0 hx (t := .boolean) Bd.returns (by simp) (hb hby d1_193) hr
                  · show Q1 Z p0 t1 F1 h0 n0 _ s₁.heap _
                    rw [e0]
                    exact ⟨congrArg (fun q => some (Value.int q)) hv195.symm, N0, rfl⟩
                · have pre99 : ∀ t, Steps p.tables e below (s₁.setTop (mkF m 80 #[.val (.int p0)] [(.int (893 : Int32)), (.int p0)])) t → Steps p.tables e below (s₁.setTop (entryFrame m #[(.int p0)] 1)) t := fun t kt => pre81 t (by
                      show Steps p.tables e below (s₁.setTop (mkF m 73 #[.val (.int p0)] [(.int (880 : Int32)), (.int p0)])) _
                      refine XS.icmpNo X0.here hx rfl (hb hby d1_73) rfl (flt hc73_82).1 ?_
                      show Steps p.tables e below (s₁.setTop (mkF m 76 #[.val (.int p0)] [])) _
                      refine XS.iloadN X0.here hx rfl (hb hby d1_76) rfl ?_
                      show Steps p.tables e below (s₁.setTop (mkF m 77 #[.val (.int p0)] [(.int p0)])) _
                      refine XS.sipush X0.here hx rfl (hb hby d1_77) ?_
                      exact kt)
                  by_cases hc80_100 : (893 : Int32) < p0
                  · have pre101 : ∀ t, Steps p.tables e below (s₁.setTop (mkF m 87 #[.val (.int p0)] [(.int (895 : Int32)), (.int p0)])) t → Steps p.tables e below (s₁.setTop (entryFrame m #[(.int p0)] 1)) t := fun t kt => pre99 t (by
                        show Steps p.tables e below (s₁.setTop (mkF m 80 #[.val (.int p0)] [(.int (893 : Int32)), (.int p0)])) _
                        refine XS.icmpNo X0.here hx rfl (hb hby d1_80) rfl (tlt hc80_100).2.2.2 ?_
                        show Steps p.tables e below (s₁.setTop (mkF m 83 #[.val (.int p0)] [])) _
                        refine XS.iloadN X0.here hx rfl (hb hby d1_83) rfl ?_
                        show Steps p.tables e below (s₁.setTop (mkF m 84 #[.val (.int p0)] [(.int p0)])) _
                        refine XS.sipush X0.here hx rfl (hb hby d1_84) ?_
                        exact kt)
                    by_cases hc87_102 : p0 < (895 : Int32)
                    · have pre103 : ∀ t, Steps p.tables e below (s₁.setTop (mkF m 101 #[.val (.int p0)] [(.int (8204 : Int32)), (.int p0)])) t → Steps p.tables e below (s₁.setTop (entryFrame m #[(.int p0)] 1)) t := fun t kt => pre101 t (by
                          show Steps p.tables e below (s₁.setTop (mkF m 87 #[.val (.int p0)] [(.int (895 : Int32)), (.int p0)])) _
                          refine XS.icmpYes X0.here hx rfl (pc0 := 87) (pc' := 97) rfl (hb hby d1_87) rfl (tlt hc87_102).1 (by decide) (by decide) ?_
                          show Steps p.tables e below (s₁.setTop (mkF m 97 #[.val (.int p0)] [])) _
                          refine XS.iloadN X0.here hx rfl (hb hby d1_97) rfl ?_
                          show Steps p.tables e below (s₁.setTop (mkF m 98 #[.val (.int p0)] [(.int p0)])) _
                          refine XS.sipush X0.here hx rfl (hb hby d1_98) ?_
                          exact kt)
                      have hd101_104 : p0 < (8204 : Int32) := Int32.lt_of_lt_of_le hc87_102 (by decide)
                      have pre105 : ∀ t, Steps p.tables e below (s₁.setTop (mkF m 115 #[.val (.int p0)] [(.int (8304 : Int32)), (.int p0)])) t → Steps p.tables e below (s₁.setTop (entryFrame m #[(.int p0)] 1)) t := fun t kt => pre103 t (by
                          show Steps p.tables e below (s₁.setTop (mkF m 101 #[.val (.int p0)] [(.int (8204 : Int32)), (.int p0)])) _
                          refine XS.icmpYes X0.here hx rfl (pc0 := 101) (pc' := 111) rfl (hb hby d1_101) rfl (tlt hd101_104).1 (by decide) (by decide) ?_
                          show Steps p.tables e below (s₁.setTop (mkF m 111 #[.val (.int p0)] [])) _
                          refine XS.iloadN X0.here hx rfl (hb hby d1_111) rfl ?_
                          show Steps p.tables e below (s₁.setTop (mkF m 112 #[.val (.int p0)] [(.int p0)])) _
                          refine XS.sipush X0.here hx rfl (hb hby d1_112) ?_
                          exact kt)
                      have hd115_106 : p0 < (8304 : Int32) := Int32.lt_of_lt_of_le hc87_102 (by decide)
                      have pre107 : ∀ t, Steps p.tables e below (s₁.setTop (mkF m 129 #[.val (.int p0)] [(.int (11264 : Int32)), (.int p0)])) t → Steps p.tables e below (s₁.setTop (entryFrame m #[(.int p0)] 1)) t := fun t kt => pre105 t (by
                          show Steps p.tables e below (s₁.setTop (mkF m 115 #[.val (.int p0)] [(.int (8304 : Int32)), (.int p0)])) _
                          refine XS.icmpYes X0.here hx rfl (pc0 := 115) (pc' := 125) rfl (hb hby d1_115) rfl (tlt hd115_106).1 (by decide) (by decide) ?_
                          show Steps p.tables e below (s₁.setTop (mkF m 125 #[.val (.int p0)] [])) _
                          refine XS.iloadN X0.here hx rfl (hb hby d1_125) rfl ?_
                          show Steps p.tables e below (s₁.setTop (mkF m 126 #[.val (.int p0)] [(.int p0)])) _
                          refine XS.sipush X0.here hx rfl (hb hby d1_126) ?_
                          exact kt)
                      have hd129_108 : p0 < (11264 : Int32) := Int32.lt_of_lt_of_le hc87_102 (by decide)
                      have pre109 : ∀ t, Steps p.tables e below (s₁.setTop (mkF m 143 #[.val (.int p0)] [(.int (12289 : Int32)), (.int p0)])) t → Steps p.tables e below (s₁.setTop (entryFrame m #[(.int p0)] 1)) t := fun t kt => pre107 t (by
                          show Steps p.tables e below (s₁.setTop (mkF m 129 #[.val (.int p0)] [(.int (11264 : Int32)), (.int p0)])) _
                          refine XS.icmpYes X0.here hx rfl (pc0 := 129) (pc' := 139) rfl (hb hby d1_129) rfl (tlt hd129_108).1 (by decide) (by decide) ?_
                          show Steps p.tables e below (s₁.setTop (mkF m 139 #[.val (.int p0)] [])) _
                          refine XS.iloadN X0.here hx rfl (hb hby d1_139) rfl ?_
                          show Steps p.tables e below (s₁.setTop (mkF m 140 #[.val (.int p0)] [(.int p0)])) _
                          refine XS.sipush X0.here hx rfl (hb hby d1_140) ?_
                          exact kt)
                      have hd143_110 : p0 < (12289 : Int32) := Int32.lt_of_lt_of_le hc87_102 (by decide)
                      have pre111 : ∀ t, Steps p.tables e below (s₁.setTop (mkF m 155 #[.val (.int p0)] [(.int (63744 : Int32)), (.int p0)])) t → Steps p.tables e below (s₁.setTop (entryFrame m #[(.int p0)] 1)) t := fun t kt => pre109 t (by
                          show Steps p.tables e below (s₁.setTop (mkF m 143 #[.val (.int p0)] [(.int (12289 : Int32)), (.int p0)])) _
                          refine XS.icmpYes X0.here hx rfl (pc0 := 143) (pc' := 152) rfl (hb hby d1_143) rfl (tlt hd143_110).1 (by decide) (by decide) ?_
                          show Steps p.tables e below (s₁.setTop (mkF m 152 #[.val (.int p0)] [])) _
                          refine XS.iloadN X0.here hx rfl (hb hby d1_152) rfl ?_
                          show Steps p.tables e below (s₁.setTop (mkF m 153 #[.val (.int p0)] [(.int p0)])) _
                          refine X0.ldcInt hx hown (mvT hZ (hw _ (List.mem_of_getElem? (i := 25) rfl))) (g := (mkF m 153 #[.val (.int p0)] [(.int p0)])) rfl (hb hby d1_153) _ ?_
                          exact kt)
                      have hd155_112 : p0 < (63744 : Int32) := Int32.lt_of_lt_of_le hc87_102 (by decide)
                      have pre113 : ∀ t, Steps p.tables e below (s₁.setTop (mkF m 167 #[.val (.int p0)] [(.int (65008 : Int32)), (.int p0)])) t → Steps p.tables e below (s₁.setTop (entryFrame m #[(.int p0)] 1)) t := fun t kt => pre111 t (by
                          show Steps p.tables e below (s₁.setTop (mkF m 155 #[.val (.int p0)] [(.int (63744 : Int32)), (.int p0)])) _
                          refine XS.icmpYes X0.here hx rfl (pc0 := 155) (pc' := 164) rfl (hb hby d1_155) rfl (tlt hd155_112).1 (by decide) (by decide) ?_
                          show Steps p.tables e below (s₁.setTop (mkF m 164 #[.val (.int p0)] [])) _
                          refine XS.iloadN X0.here hx rfl (hb hby d1_164) rfl ?_
                          show Steps p.tables e below (s₁.setTop (mkF m 165 #[.val (.int p0)] [(.int p0)])) _
                          refine X0.ldcInt hx hown (mvT hZ (hw _ (List.mem_of_getElem? (i := 26) rfl))) (g := (mkF m 165 #[.val (.int p0)] [(.int p0)])) rfl (hb hby d1_165) _ ?_
                          exact kt)
                      have hd167_114 : p0 < (65008 : Int32) := Int32.lt_of_lt_of_le hc87_102 (by decide)
                      have pre115 : ∀ t, Steps p.tables e below (s₁.setTop (mkF m 179 #[.val (.int p0)] [(.int (65536 : Int32)), (.int p0)])) t → Steps p.tables e below (s₁.setTop (entryFrame m #[(.int p0)] 1)) t := fun t kt => pre113 t (by
                          show Steps p.tables e below (s₁.setTop (mkF m 167 #[.val (.int p0)] [(.int (65008 : Int32)), (.int p0)])) _
                          refine XS.icmpYes X0.here hx rfl (pc0 := 167) (pc' := 176) rfl (hb hby d1_167) rfl (tlt hd167_114).1 (by decide) (by decide) ?_
                          show Steps p.tables e below (s₁.setTop (mkF m 176 #[.val (.int p0)] [])) _
                          refine XS.iloadN X0.here hx rfl (hb hby d1_176) rfl ?_
                          show Steps p.tables e below (s₁.setTop (mkF m 177 #[.val (.int p0)] [(.int p0)])) _
                          refine X0.ldcInt hx hown (mvT hZ (hw _ (List.mem_of_getElem? (i := 27) rfl))) (g := (mkF m 177 #[.val (.int p0)] [(.int p0)])) rfl (hb hby d1_177) _ ?_
                          exact kt)
                      have hd179_116 : p0 < (65536 : Int32) := Int32.lt_of_lt_of_le hc87_102 (by decide)
                      obtain ⟨fs, hr, hrun, hended, hW, hsame⟩ := X0.leave (v := some (.int (0 : Int32))) (fun h => by rw [Bd.returns] at h; cases h)
                      have hv196 : (f1 p0 F1) = (0 : Int32) := by rw [f1, if_neg hc4_2, if_neg hc31_10, if_pos hc38_34, if_neg hc45_36, if_pos hc52_58, if_neg hc59_60, if_pos hc66_80, if_neg hc73_82, if_pos hc80_100, if_pos hc87_102]
                      refine ⟨_, _, pre115 _ ?_, hrun, hended, _, _, rfl, ?_, ⟨_, rfl⟩, hW, hsame.mono (by decide) (by decide)⟩
                      · show Steps p.tables e below (s₁.setTop (mkF m 179 #[.val (.int p0)] [(.int (65536 : Int32)), (.int p0)])) _
                        refine XS.icmpYes X0.here hx rfl (pc0 := 179) (pc' := 192) rfl (hb hby d1_179) rfl (tlt hd179_116).1 (by decide) (by decide) ?_
                        show Steps p.tables e below (s₁.setTop (mkF m 192 #[.val (.int p0)] [])) _
                        refine XS.iconst X0.here hx rfl (hb hby d1_192) ?_
                        show Steps p.tables e below (s₁.setTop (mkF m 193 #[.val (.int p0)] [(.int (0 : Int32))])) _
                        exact retN X0 hx (t := .boolean) Bd.returns (by simp) (hb hby d1_193) hr
                      · show Q1 Z p0 t1 F1 h0 n0 _ s₁.heap _
                        rw [e0]
                        exact ⟨congrArg (fun q => some (Value.int q)) hv196.symm, N0, rfl⟩
                    · have pre117 : ∀ t, Steps p.tables e below (s₁.setTop (mkF m 94 #[.val (.int p0)] [(.int (8191 : Int32)), (.int p0)])) t → Steps p.tables e below (s₁.setTop (entryFrame m #[(.int p0)] 1)) t := fun t kt => pre101 t (by
                          show Steps p.tables e below (s₁.setTop (mkF m 87 #[.val (.int p0)] [(.int (895 : Int32)), (.int p0)])) _
                          refine XS.icmpNo X0.here hx rfl (hb hby d1_87) rfl (flt hc87_102).1 ?_
                          show Steps p.tables e below (s₁.setTop (mkF m 90 #[.val (.int p0)] [])) _
                          refine XS.iloadN X0.here hx rfl (hb hby d1_90) rfl ?_
                          show Steps p.tables e below (s₁.setTop (mkF m 91 #[.val (.int p0)] [(.int p0)])) _
                          refine XS.sipush X0.here hx rfl (hb hby d1_91) ?_
                          exact kt)
                      by_cases hc94_118 : (8191 : Int32) < p0
                      · have pre119 : ∀ t, Steps p.tables e below (s₁.setTop (mkF m 101 #[.val (.int p0)] [(.int (8204 : Int32)), (.int p0)])) t → Steps p.tables e below (s₁.setTop (entryFrame m #[(.int p0)] 1)) t := fun t kt => pre117 t (by
                            show Steps p.tables e below (s₁.setTop (mkF m 94 #[.val (.int p0)] [(.int (8191 : Int32)), (.int p0)])) _
                            refine XS.icmpNo X0.here hx rfl (hb hby d1_94) rfl (tlt hc94_118).2.2.2 ?_
                            show Steps p.tables e below (s₁.setTop (mkF m 97 #[.val (.int p0)] [])) _
                            refine XS.iloadN X0.here hx rfl (hb hby d1_97) rfl ?_
                            show Steps p.tables e below (s₁.setTop (mkF m 98 #[.val (.int p0)] [(.int p0)])) _
                            refine XS.sipush X0.here hx rfl (hb hby d1_98) ?_
                            exact kt)
                        by_cases hc101_120 : p0 < (8204 : Int32)
                        · have pre121 : ∀ t, Steps p.tables e below (s₁.setTop (mkF m 115 #[.val (.int p0)] [(.int (8304 : Int32)), (.int p0)])) t → Steps p.tables e below (s₁.setTop (entryFrame m #[(.int p0)] 1)) t := fun t kt => pre119 t (by
                              show Steps p.tables e below (s₁.setTop (mkF m 101 #[.val (.int p0)] [(.int (8204 : Int32)), (.int p0)])) _
                              refine XS.icmpYes X0.here hx rfl (pc0 := 101) (pc' := 111) rfl (hb hby d1_101) rfl (tlt hc101_120).1 (by decide) (by decide) ?_
                              show Steps p.tables e below (s₁.setTop (mkF m 111 #[.val (.int p0)] [])) _
                              refine XS.iloadN X0.here hx rfl (hb hby d1_111) rfl ?_
                              show Steps p.tables e below (s₁.setTop (mkF m 112 #[.val (.int p0)] [(.int p0)])) _
                              refine XS.sipush X0.here hx rfl (hb hby d1_112) ?_
                              exact kt)
                          have hd115_122 : p0 < (8304 : Int32) := Int32.lt_of_lt_of_le hc101_120 (by decide)
                          have pre123 : ∀ t, Steps p.tables e below (s₁.setTop (mkF m 129 #[.val (.int p0)] [(.int (11264 : Int32)), (.int p0)])) t → Steps p.tables e below (s₁.setTop (entryFrame m #[(.int p0)] 1)) t := fun t kt => pre121 t (by
                              show Steps p.tables e below (s₁.setTop (mkF m 115 #[.val (.int p0)] [(.int (8304 : Int32)), (.int p0)])) _
                              refine XS.icmpYes X0.here hx rfl (pc0 := 115) (pc' := 125) rfl (hb hby d1_115) rfl (tlt hd115_122).1 (by decide) (by decide) ?_
                              show Steps p.tables e below (s₁.setTop (mkF m 125 #[.val (.int p0)] [])) _
                              refine XS.iloadN X0.here hx rfl (hb hby d1_125) rfl ?_
                              show Steps p.tables e below (s₁.setTop (mkF m 126 #[.val (.int p0)] [(.int p0)])) _
                              refine XS.sipush X0.here hx rfl (hb hby d1_126) ?_
                              exact kt)
                          have hd129_124 : p0 < (11264 : Int32) := Int32.lt_of_lt_of_le hc101_120 (by decide)
                          have pre125 : ∀ t, Steps p.tables e below (s₁.setTop (mkF m 143 #[.val (.int p0)] [(.int (12289 : Int32)), (.int p0)])) t → Steps p.tables e below (s₁.setTop (entryFrame m #[(.int p0)] 1)) t := fun t kt => pre123 t (by
                              show Steps p.tables e below (s₁.setTop (mkF m 129 #[.val (.int p0)] [(.int (11264 : Int32)), (.int p0)])) _
                              refine XS.icmpYes X0.here hx rfl (pc0 := 129) (pc' := 139) rfl (hb hby d1_129) rfl (tlt hd129_124).1 (by decide) (by decide) ?_
                              show Steps p.tables e below (s₁.setTop (mkF m 139 #[.val (.int p0)] [])) _
                              refine XS.iloadN X0.here hx rfl (hb hby d1_139) rfl ?_
                              show Steps p.tables e below (s₁.setTop (mkF m 140 #[.val (.int p0)] [(.int p0)])) _
                              refine XS.sipush X0.here hx rfl (hb hby d1_140) ?_
                              exact kt)
                          have hd143_126 : p0 < (12289 : Int32) := Int32.lt_of_lt_of_le hc101_120 (by decide)
                          have pre127 : ∀ t, Steps p.tables e below (s₁.setTop (mkF m 155 #[.val (.int p0)] [(.int (63744 : Int32)), (.int p0)])) t → Steps p.tables e below (s₁.setTop (entryFrame m #[(.int p0)] 1)) t := fun t kt => pre125 t (by
                              show Steps p.tables e below (s₁.setTop (mkF m 143 #[.val (.int p0)] [(.int (12289 : Int32)), (.int p0)])) _
                              refine XS.icmpYes X0.here hx rfl (pc0 := 143) (pc' := 152) rfl (hb hby d1_143) rfl (tlt hd143_126).1 (by decide) (by decide) ?_
                              show Steps p.tables e below (s₁.setTop (mkF m 152 #[.val (.int p0)] [])) _
                              refine XS.iloadN X0.here hx rfl (hb hby d1_152) rfl ?_
                              show Steps p.tables e below (s₁.setTop (mkF m 153 #[.val (.int p0)] [(.int p0)])) _
                              refine X0.ldcInt hx hown (mvT hZ (hw _ (List.mem_of_getElem? (i := 25) rfl))) (g := (mkF m 153 #[.val (.int p0)] [(.int p0)])) rfl (hb hby d1_153) _ ?_
                              exact kt)
                          have hd155_128 : p0 < (63744 : Int32) := Int32.lt_of_lt_of_le hc101_120 (by decide)
                          have pre129 : ∀ t, Steps p.tables e below (s₁.setTop (mkF m 167 #[.val (.int p0)] [(.int (65008 : Int32)), (.int p0)])) t → Steps p.tables e below (s₁.setTop (entryFrame m #[(.int p0)] 1)) t := fun t kt => pre127 t (by
                              show Steps p.tables e below (s₁.setTop (mkF m 155 #[.val (.int p0)] [(.int (63744 : Int32)), (.int p0)])) _
                              refine XS.icmpYes X0.here hx rfl (pc0 := 155) (pc' := 164) rfl (hb hby d1_155) rfl (tlt hd155_128).1 (by decide) (by decide) ?_
                              show Steps p.tables e below (s₁.setTop (mkF m 164 #[.val (.int p0)] [])) _
                              refine XS.iloadN X0.here hx rfl (hb hby d1_164) rfl ?_
                              show Steps p.tables e below (s₁.setTop (mkF m 165 #[.val (.int p0)] [(.int p0)])) _
                              refine X0.ldcInt hx hown (mvT hZ (hw _ (List.mem_of_getElem? (i := 26) rfl))) (g := (mkF m 165 #[.val (.int p0)] [(.int p0)])) rfl (hb hby d1_165) _ ?_
                              exact kt)
                          have hd167_130 : p0 < (65008 : Int32) := Int32.lt_of_lt_of_le hc101_120 (by decide)
                          have pre131 : ∀ t, Steps p.tables e below (s₁.setTop (mkF m 179 #[.val (.int p0)] [(.int (65536 : Int32)), (.int p0)])) t → Steps p.tables e below (s₁.setTop (entryFrame m #[(.int p0)] 1)) t := fun t kt => pre129 t (by
                              show Steps p.tables e below (s₁.setTop (mkF m 167 #[.val (.int p0)] [(.int (65008 : Int32)), (.int p0)])) _
                              refine XS.icmpYes X0.here hx rfl (pc0 := 167) (pc' := 176) rfl (hb hby d1_167) rfl (tlt hd167_130).1 (by decide) (by decide) ?_
                              show Steps p.tables e below (s₁.setTop (mkF m 176 #[.val (.int p0)] [])) _
                              refine XS.iloadN X0.here hx rfl (hb hby d1_176) rfl ?_
                              show Steps p.tables e below (s₁.setTop (mkF m 177 #[.val (.int p0)] [(.int p0)])) _
                              refine X0.ldcInt hx hown (mvT hZ (hw _ (List.mem_of_getElem? (i := 27) rfl))) (g := (mkF m 177 #[.val (.int p0)] [(.int p0)])) rfl (hb hby d1_177) _ ?_
                              exact kt)
                          have hd179_132 : p0 < (65536 : Int32) := Int32.lt_of_lt_of_le hc101_120 (by decide)
                          obtain ⟨fs, hr, hrun, hended, hW, hsame⟩ := X0.leave (v := some (.int (0 : Int32))) (fun h => by rw [Bd.returns] at h; cases h)
                          have hv197 : (f1 p0 F1) = (0 : Int32) := by rw [f1, if_neg hc4_2, if_neg hc31_10, if_pos hc38_34, if_neg hc45_36, if_pos hc52_58, if_neg hc59_60, if_pos hc66_80, if_neg hc73_82, if_pos hc80_100, if_neg hc87_102, if_pos hc94_118, if_pos hc101_120]
                          refine ⟨_, _, pre131 _ ?_, hrun, hended, _, _, rfl, ?_, ⟨_, rfl⟩, hW, hsame.mono (by decide) (by decide)⟩
                          · show Steps p.tables e below (s₁.setTop (mkF m 179 #[.val (.int p0)] [(.int (65536 : Int32)), (.int p0)])) _
                            refine XS.icmpYes X0.here hx rfl (pc0 := 179) (pc' := 192) rfl (hb hby d1_179) rfl (tlt hd179_132).1 (by decide) (by decide) ?_
                            show Steps p.tables e below (s₁.setTop (mkF m 192 #[.val (.int p0)] [])) _
                            refine XS.iconst X0.here hx rfl (hb hby d1_192) ?_
                            show Steps p.tables e below (s₁.setTop (mkF m 193 #[.val (.int p0)] [(.int (0 : Int32))])) _
                            exact retN X0 hx (t := .boolean) Bd.returns (by simp) (hb hby d1_193) hr
                          · show Q1 Z p0 t1 F1 h0 n0 _ s₁.heap _
                            rw [e0]
                            exact ⟨congrArg (fun q => some (Value.int q)) hv197.symm, N0, rfl⟩
                        · have pre133 : ∀ t, Steps p.tables e below (s₁.setTop (mkF m 108 #[.val (.int p0)] [(.int (8205 : Int32)), (.int p0)])) t → Steps p.tables e below (s₁.setTop (entryFrame m #[(.int p0)] 1)) t := fun t kt => pre119 t (by
                              show Steps p.tables e below (s₁.setTop (mkF m 101 #[.val (.int p0)] [(.int (8204 : Int32)), (.int p0)])) _
                              refine XS.icmpNo X0.here hx rfl (hb hby d1_101) rfl (flt hc101_120).1 ?_
                              show Steps p.tables e below (s₁.setTop (mkF m 104 #[.val (.int p0)] [])) _
                              refine XS.iloadN X0.here hx rfl (hb hby d1_104) rfl ?_
                              show Steps p.tables e below (s₁.setTop (mkF m 105 #[.val (.int p0)] [(.int p0)])) _
                              refine XS.sipush X0.here hx rfl (hb hby d1_105) ?_
                              exact kt)
                          by_cases hc108_134 : (8205 : Int32) < p0
                          · have pre135 : ∀ t, Steps p.tables e below (s₁.setTop (mkF m 115 #[.val (.int p0)] [(.int (8304 : Int32)), (.int p0)])) t → Steps p.tables e below (s₁.setTop (entryFrame m #[(.int p0)] 1)) t := fun t kt => pre133 t (by
                                show Steps p.tables e below (s₁.setTop (mkF m 108 #[.val (.int p0)] [(.int (8205 : Int32)), (.int p0)])) _
                                refine XS.icmpNo X0.here hx rfl (hb hby d1_108) rfl (tlt hc108_134).2.2.2 ?_
                                show Steps p.tables e below (s₁.setTop (mkF m 111 #[.val (.int p0)] [])) _
                                refine XS.iloadN X0.here hx rfl (hb hby d1_111) rfl ?_
                                show Steps p.tables e below (s₁.setTop (mkF m 112 #[.val (.int p0)] [(.int p0)])) _
                                refine XS.sipush X0.here hx rfl (hb hby d1_112) ?_
                                exact kt)
                            by_cases hc115_136 : p0 < (8304 : Int32)
                            · have pre137 : ∀ t, Steps p.tables e below (s₁.setTop (mkF m 129 #[.val (.int p0)] [(.int (11264 : Int32)), (.int p0)])) t → Steps p.tables e below (s₁.setTop (entryFrame m #[(.int p0)] 1)) t := fun t kt => pre135 t (by
                                  show Steps p.tables e below (s₁.setTop (mkF m 115 #[.val (.int p0)] [(.int (8304 : Int32)), (.int p0)])) _
                                  refine XS.icmpYes X0.here hx rfl (pc0 := 115) (pc' := 125) rfl (hb hby d1_115) rfl (tlt hc115_136).1 (by decide) (by decide) ?_
                                  show Steps p.tables e below (s₁.setTop (mkF m 125 #[.val (.int p0)] [])) _
                                  refine XS.iloadN X0.here hx rfl (hb hby d1_125) rfl ?_
                                  show Steps p.tables e below (s₁.setTop (mkF m 126 #[.val (.int p0)] [(.int p0)])) _
                                  refine XS.sipush X0.here hx rfl (hb hby d1_126) ?_
                                  exact kt)
                              have hd129_138 : p0 < (11264 : Int32) := Int32.lt_of_lt_of_le hc115_136 (by decide)
                              have pre139 : ∀ t, Steps p.tables e below (s₁.setTop (mkF m 143 #[.val (.int p0)] [(.int (12289 : Int32)), (.int p0)])) t → Steps p.tables e below (s₁.setTop (entryFrame m #[(.int p0)] 1)) t := fun t kt => pre137 t (by
                                  show Steps p.tables e below (s₁.setTop (mkF m 129 #[.val (.int p0)] [(.int (11264 : Int32)), (.int p0)])) _
                                  refine XS.icmpYes X0.here hx rfl (pc0 := 129) (pc' := 139) rfl (hb hby d1_129) rfl (tlt hd129_138).1 (by decide) (by decide) ?_
                                  show Steps p.tables e below (s₁.setTop (mkF m 139 #[.val (.int p0)] [])) _
                                  refine XS.iloadN X0.here hx rfl (hb hby d1_139) rfl ?_
                                  show Steps p.tables e below (s₁.setTop (mkF m 140 #[.val (.int p0)] [(.int p0)])) _
                                  refine XS.sipush X0.here hx rfl (hb hby d1_140) ?_
                                  exact kt)
                              have hd143_140 : p0 < (12289 : Int32) := Int32.lt_of_lt_of_le hc115_136 (by decide)
                              have pre141 : ∀ t, Steps p.tables e below (s₁.setTop (mkF m 155 #[.val (.int p0)] [(.int (63744 : Int32)), (.int p0)])) t → Steps p.tables e below (s₁.setTop (entryFrame m #[(.int p0)] 1)) t := fun t kt => pre139 t (by
                                  show Steps p.tables e below (s₁.setTop (mkF m 143 #[.val (.int p0)] [(.int (12289 : Int32)), (.int p0)])) _
                                  refine XS.icmpYes X0.here hx rfl (pc0 := 143) (pc' := 152) rfl (hb hby d1_143) rfl (tlt hd143_140).1 (by decide) (by decide) ?_
                                  show Steps p.tables e below (s₁.setTop (mkF m 152 #[.val (.int p0)] [])) _
                                  refine XS.iloadN X0.here hx rfl (hb hby d1_152) rfl ?_
                                  show Steps p.tables e below (s₁.setTop (mkF m 153 #[.val (.int p0)] [(.int p0)])) _
                                  refine X0.ldcInt hx hown (mvT hZ (hw _ (List.mem_of_getElem? (i := 25) rfl))) (g := (mkF m 153 #[.val (.int p0)] [(.int p0)])) rfl (hb hby d1_153) _ ?_
                                  exact kt)
                              have hd155_142 : p0 < (63744 : Int32) := Int32.lt_of_lt_of_le hc115_136 (by decide)
                              have pre143 : ∀ t, Steps p.tables e below (s₁.setTop (mkF m 167 #[.val (.int p0)] [(.int (65008 : Int32)), (.int p0)])) t → Steps p.tables e below (s₁.setTop (entryFrame m #[(.int p0)] 1)) t := fun t kt => pre141 t (by
                                  show Steps p.tables e below (s₁.setTop (mkF m 155 #[.val (.int p0)] [(.int (63744 : Int32)), (.int p0)])) _
                                  refine XS.icmpYes X0.here hx rfl (pc0 := 155) (pc' := 164) rfl (hb hby d1_155) rfl (tlt hd155_142).1 (by decide) (by decide) ?_
                                  show Steps p.tables e below (s₁.setTop (mkF m 164 #[.val (.int p0)] [])) _
                                  refine XS.iloadN X0.here hx rfl (hb hby d1_164) rfl ?_
                                  show Steps p.tables e below (s₁.setTop (mkF m 165 #[.val (.int p0)] [(.int p0)])) _
                                  refine X0.ldcInt hx hown (mvT hZ (hw _ (List.mem_of_getElem? (i := 26) rfl))) (g := (mkF m 165 #[.val (.int p0)] [(.int p0)])) rfl (hb hby d1_165) _ ?_
                                  exact kt)
                              have hd167_144 : p0 < (65008 : Int32) := Int32.lt_of_lt_of_le hc115_136 (by decide)
                              have pre145 : ∀ t, Steps p.tables e below (s₁.setTop (mkF m 179 #[.val (.int p0)] [(.int (65536 : Int32)), (.int p0)])) t → Steps p.tables e below (s₁.setTop (entryFrame m #[(.int p0)] 1)) t := fun t kt => pre143 t (by
                                  show Steps p.tables e below (s₁.setTop (mkF m 167 #[.val (.int p0)] [(.int (65008 : Int32)), (.int p0)])) _
                                  refine XS.icmpYes X0.here hx rfl (pc0 := 167) (pc' := 176) rfl (hb hby d1_167) rfl (tlt hd167_144).1 (by decide) (by decide) ?_
                                  show Steps p.tables e below (s₁.setTop (mkF m 176 #[.val (.int p0)] [])) _
                                  refine XS.iloadN X0.here hx rfl (hb hby d1_176) rfl ?_
                                  show Steps p.tables e below (s₁.setTop (mkF m 177 #[.val (.int p0)] [(.int p0)])) _
                                  refine X0.ldcInt hx hown (mvT hZ (hw _ (List.mem_of_getElem? (i := 27) rfl))) (g := (mkF m 177 #[.val (.int p0)] [(.int p0)])) rfl (hb hby d1_177) _ ?_
                                  exact kt)
                              have hd179_146 : p0 < (65536 : Int32) := Int32.lt_of_lt_of_le hc115_136 (by decide)
                              obtain ⟨fs, hr, hrun, hended, hW, hsame⟩ := X0.leave (v := some (.int (0 : Int32))) (fun h => by rw [Bd.returns] at h; cases h)
                              have hv198 : (f1 p0 F1) = (0 : Int32) := by rw [f1, if_neg hc4_2, if_neg hc31_10, if_pos hc38_34, if_neg hc45_36, if_pos hc52_58, if_neg hc59_60, if_pos hc66_80, if_neg hc73_82, if_pos hc80_100, if_neg hc87_102, if_pos hc94_118, if_neg hc101_120, if_pos hc108_134, if_pos hc115_136]
                              refine ⟨_, _, pre145 _ ?_, hrun, hended, _, _, rfl, ?_, ⟨_, rfl⟩, hW, hsame.mono (by decide) (by decide)⟩
                              · show Steps p.tables e below (s₁.setTop (mkF m 179 #[.val (.int p0)] [(.int (65536 : Int32)), (.int p0)])) _
                                refine XS.icmpYes X0.here hx rfl (pc0 := 179) (pc' := 192) rfl (hb hby d1_179) rfl (tlt hd179_146).1 (by decide) (by decide) ?_
                                show Steps p.tables e below (s₁.setTop (mkF m 192 #[.val (.int p0)] [])) _
                                refine XS.iconst X0.here hx rfl (hb hby d1_192) ?_
                                show Steps p.tables e below (s₁.setTop (mkF m 193 #[.val (.int p0)] [(.int (0 : Int32))])) _
                                exact retN X0 hx (t := .boolean) Bd.returns (by simp) (hb hby d1_193) hr
                              · show Q1 Z p0 t1 F1 h0 n0 _ s₁.heap _
                                rw [e0]
                                exact ⟨congrArg (fun q => some (Value.int q)) hv198.symm, N0, rfl⟩
                            · have pre147 : ∀ t, Steps p.tables e below (s₁.setTop (mkF m 122 #[.val (.int p0)] [(.int (8591 : Int32)), (.int p0)])) t → Steps p.tables e below (s₁.setTop (entryFrame m #[(.int p0)] 1)) t := fun t kt => pre135 t (by
                                  show Steps p.tables e below (s₁.setTop (mkF m 115 #[.val (.int p0)] [(.int (8304 : Int32)), (.int p0)])) _
                                  refine XS.icmpNo X0.here hx rfl (hb hby d1_115) rfl (flt hc115_136).1 ?_
                                  show Steps p.tables e below (s₁.setTop (mkF m 118 #[.val (.int p0)] [])) _
                                  refine XS.iloadN X0.here hx rfl (hb hby d1_118) rfl ?_
                                  show Steps p.tables e below (s₁.setTop (mkF m 119 #[.val (.int p0)] [(.int p0)])) _
                                  refine XS.sipush X0.here hx rfl (hb hby d1_119) ?_
                                  exact kt)
                              by_cases hc122_148 : (8591 : Int32) < p0
                              · have pre149 : ∀ t, Steps p.tables e below (s₁.setTop (mkF m 129 #[.val (.int p0)] [(.int (11264 : Int32)), (.int p0)])) t → Steps p.tables e below (s₁.setTop (entryFrame m #[(.int p0)] 1)) t := fun t kt => pre147 t (by
                                    show Steps p.tables e below (s₁.setTop (mkF m 122 #[.val (.int p0)] [(.int (8591 : Int32)), (.int p0)])) _
                                    refine XS.icmpNo X0.here hx rfl (hb hby d1_122) rfl (tlt hc122_148).2.2.2 ?_
                                    show Steps p.tables e below (s₁.setTop (mkF m 125 #[.val (.int p0)] [])) _
                                    refine XS.iloadN X0.here hx rfl (hb hby d1_125) rfl ?_
                                    show Steps p.tables e below (s₁.setTop (mkF m 126 #[.val (.int p0)] [(.int p0)])) _
                                    refine XS.sipush X0.here hx rfl (hb hby d1_126) ?_
                                    exact kt)
                                by_cases hc129_150 : p0 < (11264 : Int32)
                                · have pre151 : ∀ t, Steps p.tables e below (s₁.setTop (mkF m 143 #[.val (.int p0)] [(.int (12289 : Int32)), (.int p0)])) t → Steps p.tables e below (s₁.setTop (entryFrame m #[(.int p0)] 1)) t := fun t kt => pre149 t (by
                                      show Steps p.tables e below (s₁.setTop (mkF m 129 #[.val (.int p0)] [(.int (11264 : Int32)), (.int p0)])) _
                                      refine XS.icmpYes X0.here hx rfl (pc0 := 129) (pc' := 139) rfl (hb hby d1_129) rfl (tlt hc129_150).1 (by decide) (by decide) ?_
                                      show Steps p.tables e below (s₁.setTop (mkF m 139 #[.val (.int p0)] [])) _
                                      refine XS.iloadN X0.here hx rfl (hb hby d1_139) rfl ?_
                                      show Steps p.tables e below (s₁.setTop (mkF m 140 #[.val (.int p0)] [(.int p0)])) _
                                      refine XS.sipush X0.here hx rfl (hb hby d1_140) ?_
                                      exact kt)
                                  have hd143_152 : p0 < (12289 : Int32) := Int32.lt_of_lt_of_le hc129_150 (by decide)
                                  have pre153 : ∀ t, Steps p.tables e below (s₁.setTop (mkF m 155 #[.val (.int p0)] [(.int (63744 : Int32)), (.int p0)])) t → Steps p.tables e below (s₁.setTop (entryFrame m #[(.int p0)] 1)) t := fun t kt => pre151 t (by
                                      show Steps p.tables e below (s₁.setTop (mkF m 143 #[.val (.int p0)] [(.int (12289 : Int32)), (.int p0)])) _
                                      refine XS.icmpYes X0.here hx rfl (pc0 := 143) (pc' := 152) rfl (hb hby d1_143) rfl (tlt hd143_152).1 (by decide) (by decide) ?_
                                      show Steps p.tables e below (s₁.setTop (mkF m 152 #[.val (.int p0)] [])) _
                                      refine XS.iloadN X0.here hx rfl (hb hby d1_152) rfl ?_
                                      show Steps p.tables e below (s₁.setTop (mkF m 153 #[.val (.int p0)] [(.int p0)])) _
                                      refine X0.ldcInt hx hown (mvT hZ (hw _ (List.mem_of_getElem? (i := 25) rfl))) (g := (mkF m 153 #[.val (.int p0)] [(.int p0)])) rfl (hb hby d1_153) _ ?_
                                      exact kt)
                                  have hd155_154 : p0 < (63744 : Int32) := Int32.lt_of_lt_of_le hc129_150 (by decide)
                                  have pre155 : ∀ t, Steps p.tables e below (s₁.setTop (mkF m 167 #[.val (.int p0)] [(.int (65008 : Int32)), (.int p0)])) t → Steps p.tables e below (s₁.setTop (entryFrame m #[(.int p0)] 1)) t := fun t kt => pre153 t (by
                                      show Steps p.tables e below (s₁.setTop (mkF m 155 #[.val (.int p0)] [(.int (63744 : Int32)), (.int p0)])) _
                                      refine XS.icmpYes X0.here hx rfl (pc0 := 155) (pc' := 164) rfl (hb hby d1_155) rfl (tlt hd155_154).1 (by decide) (by decide) ?_
                                      show Steps p.tables e below (s₁.setTop (mkF m 164 #[.val (.int p0)] [])) _
                                      refine XS.iloadN X0.here hx rfl (hb hby d1_164) rfl ?_
                                      show Steps p.tables e below (s₁.setTop (mkF m 165 #[.val (.int p0)] [(.int p0)])) _
                                      refine X0.ldcInt hx hown (mvT hZ (hw _ (List.mem_of_getElem? (i := 26) rfl))) (g := (mkF m 165 #[.val (.int p0)] [(.int p0)])) rfl (hb hby d1_165) _ ?_
                                      exact kt)
                                  have hd167_156 : p0 < (65008 : Int32) := Int32.lt_of_lt_of_le hc129_150 (by decide)
                                  have pre157 : ∀ t, Steps p.tables e below (s₁.setTop (mkF m 179 #[.val (.int p0)] [(.int (65536 : Int32)), (.int p0)])) t → Steps p.tables e below (s₁.setTop (entryFrame m #[(.int p0)] 1)) t := fun t kt => pre155 t (by
                                      show Steps p.tables e below (s₁.setTop (mkF m 167 #[.val (.int p0)] [(.int (65008 : Int32)), (.int p0)])) _
                                      refine XS.icmpYes X0.here hx rfl (pc0 := 167) (pc' := 176) rfl (hb hby d1_167) rfl (tlt hd167_156).1 (by decide) (by decide) ?_
                                      show Steps p.tables e below (s₁.setTop (mkF m 176 #[.val (.int p0)] [])) _
                                      refine XS.iloadN X0.here hx rfl (hb hby d1_176) rfl ?_
                                      show Steps p.tables e below (s₁.setTop (mkF m 177 #[.val (.int p0)] [(.int p0)])) _
                                      refine X0.ldcInt hx hown (mvT hZ (hw _ (List.mem_of_getElem? (i := 27) rfl))) (g := (mkF m 177 #[.val (.int p0)] [(.int p0)])) rfl (hb hby d1_177) _ ?_
                                      exact kt)
                                  have hd179_158 : p0 < (65536 : Int32) := Int32.lt_of_lt_of_le hc129_150 (by decide)
                                  obtain ⟨fs, hr, hrun, hended, hW, hsame⟩ := X0.leave (v := some (.int (0 : Int32))) (fun h => by rw [Bd.returns] at h; cases h)
                                  have hv199 : (f1 p0 F1) = (0 : Int32) := by rw [f1, if_neg hc4_2, if_neg hc31_10, if_pos hc38_34, if_neg hc45_36, if_pos hc52_58, if_neg hc59_60, if_pos hc66_80, if_neg hc73_82, if_pos hc80_100, if_neg hc87_102, if_pos hc94_118, if_neg hc101_120, if_pos hc108_134, if_neg hc115_136, if_pos hc122_148, if_pos hc129_150]
                                  refine ⟨_, _, pre157 _ ?_, hrun, hended, _, _, rfl, ?_, ⟨_, rfl⟩, hW, hsame.mono (by decide) (by decide)⟩
                                  · show Steps p.tables e below (s₁.setTop (mkF m 179 #[.val (.int p0)] [(.int (65536 : Int32)), (.int p0)])) _
                                    refine XS.icmpYes X0.here hx rfl (pc0 := 179) (pc' := 192) rfl (hb hby d1_179) rfl (tlt hd179_158).1 (by decide) (by decide) ?_
                                    show Steps p.tables e below (s₁.setTop (mkF m 192 #[.val (.int p0)] [])) _
                                    refine XS.iconst X0.here hx rfl (hb hby d1_192) ?_
                                    show Steps p.tables e below (s₁.setTop (mkF m 193 #[.val (.int p0)] [(.int (0 : Int32))])) _
                                    exact retN X0 hx (t := .boolean) Bd.returns (by simp) (hb hby d1_193) hr
                                  · show Q1 Z p0 t1 F1 h0 n0 _ s₁.heap _
                                    rw [e0]
                                    exact ⟨congrArg (fun q => some (Value.int q)) hv199.symm, N0, rfl⟩
                                · have pre159 : ∀ t, Steps p.tables e below (s₁.setTop (mkF m 136 #[.val (.int p0)] [(.int (12271 : Int32)), (.int p0)])) t → Steps p.tables e below (s₁.setTop (entryFrame m #[(.int p0)] 1)) t := fun t kt => pre149 t (by
                                      show Steps p.tables e below (s₁.setTop (mkF m 129 #[.val (.int p0)] [(.int (11264 : Int32)), (.int p0)])) _
                                      refine XS.icmpNo X0.here hx rfl (hb hby d1_129) rfl (flt hc129_150).1 ?_
                                      show Steps p.tables e below (s₁.setTop (mkF m 132 #[.val (.int p0)] [])) _
                                      refine XS.iloadN X0.here hx rfl (hb hby d1_132) rfl ?_
                                      show Steps p.tables e below (s₁.setTop (mkF m 133 #[.val (.int p0)] [(.int p0)])) _
                                      refine XS.sipush X0.here hx rfl (hb hby d1_133) ?_
                                      exact kt)
                                  by_cases hc136_160 : (12271 : Int32) < p0
                                  · have pre161 : ∀ t, Steps p.tables e below (s₁.setTop (mkF m 143 #[.val (.int p0)] [(.int (12289 : Int32)), (.int p0)])) t → Steps p.tables e below (s₁.setTop (entryFrame m #[(.int p0)] 1)) t := fun t kt => pre159 t (by
                                        show Steps p.tables e below (s₁.setTop (mkF m 136 #[.val (.int p0)] [(.int (12271 : Int32)), (.int p0)])) _
                                        refine XS.icmpNo X0.here hx rfl (hb hby d1_136) rfl (tlt hc136_160).2.2.2 ?_
                                        show Steps p.tables e below (s₁.setTop (mkF m 139 #[.val (.int p0)] [])) _
                                        refine XS.iloadN X0.here hx rfl (hb hby d1_139) rfl ?_
                                        show Steps p.tables e below (s₁.setTop (mkF m 140 #[.val (.int p0)] [(.int p0)])) _
                                        refine XS.sipush X0.here hx rfl (hb hby d1_140) ?_
                                        exact kt)
                                    by_cases hc143_162 : p0 < (12289 : Int32)
                                    · have pre163 : ∀ t, Steps p.tables e below (s₁.setTop (mkF m 155 #[.val (.int p0)] [(.int (63744 : Int32)), (.int p0)])) t → Steps p.tables e below (s₁.setTop (entryFrame m #[(.int p0)] 1)) t := fun t kt => pre161 t (by
                                          show Steps p.tables e below (s₁.setTop (mkF m 143 #[.val (.int p0)] [(.int (12289 : Int32)), (.int p0)])) _
                                          refine XS.icmpYes X0.here hx rfl (pc0 := 143) (pc' := 152) rfl (hb hby d1_143) rfl (tlt hc143_162).1 (by decide) (by decide) ?_
                                          show Steps p.tables e below (s₁.setTop (mkF m 152 #[.val (.int p0)] [])) _
                                          refine XS.iloadN X0.here hx rfl (hb hby d1_152) rfl ?_
                                          show Steps p.tables e below (s₁.setTop (mkF m 153 #[.val (.int p0)] [(.int p0)])) _
                                          refine X0.ldcInt hx hown (mvT hZ (hw _ (List.mem_of_getElem? (i := 25) rfl))) (g := (mkF m 153 #[.val (.int p0)] [(.int p0)])) rfl (hb hby d1_153) _ ?_
                                          exact kt)
                                      have hd155_164 : p0 < (63744 : Int32) := Int32.lt_of_lt_of_le hc143_162 (by decide)
                                      have pre165 : ∀ t, Steps p.tables e below (s₁.setTop (mkF m 167 #[.val (.int p0)] [(.int (65008 : Int32)), (.int p0)])) t → Steps p.tables e below (s₁.setTop (entryFrame m #[(.int p0)] 1)) t := fun t kt => pre163 t (by
                                          show Steps p.tables e below (s₁.setTop (mkF m 155 #[.val (.int p0)] [(.int (63744 : Int32)), (.int p0)])) _
                                          refine XS.icmpYes X0.here hx rfl (pc0 := 155) (pc' := 164) rfl (hb hby d1_155) rfl (tlt hd155_164).1 (by decide) (by decide) ?_
                                          show Steps p.tables e below (s₁.setTop (mkF m 164 #[.val (.int p0)] [])) _
                                          refine XS.iloadN X0.here hx rfl (hb hby d1_164) rfl ?_
                                          show Steps p.tables e below (s₁.setTop (mkF m 165 #[.val (.int p0)] [(.int p0)])) _
                                          refine X0.ldcInt hx hown (mvT hZ (hw _ (List.mem_of_getElem? (i := 26) rfl))) (g := (mkF m 165 #[.val (.int p0)] [(.int p0)])) rfl (hb hby d1_165) _ ?_
                                          exact kt)
                                      have hd167_166 : p0 < (65008 : Int32) := Int32.lt_of_lt_of_le hc143_162 (by decide)
                                      have pre167 : ∀ t, Steps p.tables e below (s₁.setTop (mkF m 179 #[.val (.int p0)] [(.int (65536 : Int32)), (.int p0)])) t → Steps p.tables e below (s₁.setTop (entryFrame m #[(.int p0)] 1)) t := fun t kt => pre165 t (by
                                          show Steps p.tables e below (s₁.setTop (mkF m 167 #[.val (.int p0)] [(.int (65008 : Int32)), (.int p0)])) _
                                          refine XS.icmpYes X0.here hx rfl (pc0 := 167) (pc' := 176) rfl (hb hby d1_167) rfl (tlt hd167_166).1 (by decide) (by decide) ?_
                                          show Steps p.tables e below (s₁.setTop (mkF m 176 #[.val (.int p0)] [])) _
                                          refine XS.iloadN X0.here hx rfl (hb hby d1_176) rfl ?_
                                          show Steps p.tables e below (s₁.setTop (mkF m 177 #[.val (.int p0)] [(.int p0)])) _
                                          refine X0.ldcInt hx hown (mvT hZ (hw _ (List.mem_of_getElem? (i := 27) rfl))) (g := (mkF m 177 #[.val (.int p0)] [(.int p0)])) rfl (hb hby d1_177) _ ?_
                                          exact kt)
                                      have hd179_168 : p0 < (65536 : Int32) := Int32.lt_of_lt_of_le hc143_162 (by decide)
                                      obtain ⟨fs, hr, hrun, hended, hW, hsame⟩ := X0.leave (v := some (.int (0 : Int32))) (fun h => by rw [Bd.returns] at h; cases h)
                                      have hv200 : (f1 p0 F1) = (0 : Int32) := by rw [f1, if_neg hc4_2, if_neg hc31_10, if_pos hc38_34, if_neg hc45_36, if_pos hc52_58, if_neg hc59_60, if_pos hc66_80, if_neg hc73_82, if_pos hc80_100, if_neg hc87_102, if_pos hc94_118, if_neg hc101_120, if_pos hc108_134, if_neg hc115_136, if_pos hc122_148, if_neg hc129_150, if_pos hc136_160, if_pos hc143_162]
                                      refine ⟨_, _, pre167 _ ?_, hrun, hended, _, _, rfl, ?_, ⟨_, rfl⟩, hW, hsame.mono (by decide) (by decide)⟩
                                      · show Steps p.tables e below (s₁.setTop (mkF m 179 #[.val (.int p0)] [(.int (65536 : Int32)), (.int p0)])) _
                                        refine XS.icmpYes X0.here hx rfl (pc0 := 179) (pc' := 192) rfl (hb hby d1_179) rfl (tlt hd179_168).1 (by decide) (by decide) ?_
                                        show Steps p.tables e below (s₁.setTop (mkF m 192 #[.val (.int p0)] [])) _
                                        refine XS.iconst X0.here hx rfl (hb hby d1_192) ?_
                                        show Steps p.tables e below (s₁.setTop (mkF m 193 #[.val (.int p0)] [(.int (0 : Int32))])) _
                                        exact retN X0 hx (t := .boolean) Bd.returns (by simp) (hb hby d1_193) hr
                                      · show Q1 Z p0 t1 F1 h0 n0 _ s₁.heap _
                                        rw [e0]
                                        exact ⟨congrArg (fun q => some (Value.int q)) hv200.symm, N0, rfl⟩
                                    · have pre169 : ∀ t, Steps p.tables e below (s₁.setTop (mkF m 149 #[.val (.int p0)] [(.int (55295 : Int32)), (.int p0)])) t → Steps p.tables e below (s₁.setTop (entryFrame m #[(.int p0)] 1)) t := fun t kt => pre161 t (by
                                          show Steps p.tables e below (s₁.setTop (mkF m 143 #[.val (.int p0)] [(.int (12289 : Int32)), (.int p0)])) _
                                          refine XS.icmpNo X0.here hx rfl (hb hby d1_143) rfl (flt hc143_162).1 ?_
                                          show Steps p.tables e below (s₁.setTop (mkF m 146 #[.val (.int p0)] [])) _
                                          refine XS.iloadN X0.here hx rfl (hb hby d1_146) rfl ?_
                                          show Steps p.tables e below (s₁.setTop (mkF m 147 #[.val (.int p0)] [(.int p0)])) _
                                          refine X0.ldcInt hx hown (mvT hZ (hw _ (List.mem_of_getElem? (i := 28) rfl))) (g := (mkF m 147 #[.val (.int p0)] [(.int p0)])) rfl (hb hby d1_147) _ ?_
                                          exact kt)
                                      by_cases hc149_170 : (55295 : Int32) < p0
                                      · have pre171 : ∀ t, Steps p.tables e below (s₁.setTop (mkF m 155 #[.val (.int p0)] [(.int (63744 : Int32)), (.int p0)])) t → Steps p.tables e below (s₁.setTop (entryFrame m #[(.int p0)] 1)) t := fun t kt => pre169 t (by
                                            show Steps p.tables e below (s₁.setTop (mkF m 149 #[.val (.int p0)] [(.int (55295 : Int32)), (.int p0)])) _
                                            refine XS.icmpNo X0.here hx rfl (hb hby d1_149) rfl (tlt hc149_170).2.2.2 ?_
                                            show Steps p.tables e below (s₁.setTop (mkF m 152 #[.val (.int p0)] [])) _
                                            refine XS.iloadN X0.here hx rfl (hb hby d1_152) rfl ?_
                                            show Steps p.tables e below (s₁.setTop (mkF m 153 #[.val (.int p0)] [(.int p0)])) _
                                            refine X0.ldcInt hx hown (mvT hZ (hw _ (List.mem_of_getElem? (i := 25) rfl))) (g := (mkF m 153 #[.val (.int p0)] [(.int p0)])) rfl (hb hby d1_153) _ ?_
                                            exact kt)
                                        by_cases hc155_172 : p0 < (63744 : Int32)
                                        · have pre173 : ∀ t, Steps p.tables e below (s₁.setTop (mkF m 167 #[.val (.int p0)] [(.int (65008 : Int32)), (.int p0)])) t → Steps p.tables e below (s₁.setTop (entryFrame m #[(.int p0)] 1)) t := fun t kt => pre171 t (by
                                              show Steps p.tables e below (s₁.setTop (mkF m 155 #[.val (.int p0)] [(.int (63744 : Int32)), (.int p0)])) _
                                              refine XS.icmpYes X0.here hx rfl (pc0 := 155) (pc' := 164) rfl (hb hby d1_155) rfl (tlt hc155_172).1 (by decide) (by decide) ?_
                                              show Steps p.tables e below (s₁.setTop (mkF m 164 #[.val (.int p0)] [])) _
                                              refine XS.iloadN X0.here hx rfl (hb hby d1_164) rfl ?_
                                              show Steps p.tables e below (s₁.setTop (mkF m 165 #[.val (.int p0)] [(.int p0)])) _
                                              refine X0.ldcInt hx hown (mvT hZ (hw _ (List.mem_of_getElem? (i := 26) rfl))) (g := (mkF m 165 #[.val (.int p0)] [(.int p0)])) rfl (hb hby d1_165) _ ?_
                                              exact kt)
                                          have hd167_174 : p0 < (65008 : Int32) := Int32.lt_of_lt_of_le hc155_172 (by decide)
                                          have pre175 : ∀ t, Steps p.tables e below (s₁.setTop (mkF m 179 #[.val (.int p0)] [(.int (65536 : Int32)), (.int p0)])) t → Steps p.tables e below (s₁.setTop (entryFrame m #[(.int p0)] 1)) t := fun t kt => pre173 t (by
                                              show Steps p.tables e below (s₁.setTop (mkF m 167 #[.val (.int p0)] [(.int (65008 : Int32)), (.int p0)])) _
                                              refine XS.icmpYes X0.here hx rfl (pc0 := 167) (pc' := 176) rfl (hb hby d1_167) rfl (tlt hd167_174).1 (by decide) (by decide) ?_
                                              show Steps p.tables e below (s₁.setTop (mkF m 176 #[.val (.int p0)] [])) _
                                              refine XS.iloadN X0.here hx rfl (hb hby d1_176) rfl ?_
                                              show Steps p.tables e below (s₁.setTop (mkF m 177 #[.val (.int p0)] [(.int p0)])) _
                                              refine X0.ldcInt hx hown (mvT hZ (hw _ (List.mem_of_getElem? (i := 27) rfl))) (g := (mkF m 177 #[.val (.int p0)] [(.int p0)])) rfl (hb hby d1_177) _ ?_
                                              exact kt)
                                          have hd179_176 : p0 < (65536 : Int32) := Int32.lt_of_lt_of_le hc155_172 (by decide)
                                          obtain ⟨fs, hr, hrun, hended, hW, hsame⟩ := X0.leave (v := some (.int (0 : Int32))) (fun h => by rw [Bd.returns] at h; cases h)
                                          have hv201 : (f1 p0 F1) = (0 : Int32) := by rw [f1, if_neg hc4_2, if_neg hc31_10, if_pos hc38_34, if_neg hc45_36, if_pos hc52_58, if_neg hc59_60, if_pos hc66_80, if_neg hc73_82, if_pos hc80_100, if_neg hc87_102, if_pos hc94_118, if_neg hc101_120, if_pos hc108_134, if_neg hc115_136, if_pos hc122_148, if_neg hc129_150, if_pos hc136_160, if_neg hc143_162, if_pos hc149_170, if_pos hc155_172]
                                          refine ⟨_, _, pre175 _ ?_, hrun, hended, _, _, rfl, ?_, ⟨_, rfl⟩, hW, hsame.mono (by decide) (by decide)⟩
                                          · show Steps p.tables e below (s₁.setTop (mkF m 179 #[.val (.int p0)] [(.int (65536 : Int32)), (.int p0)])) _
                                            refine XS.icmpYes X0.here hx rfl (pc0 := 179) (pc' := 192) rfl (hb hby d1_179) rfl (tlt hd179_176).1 (by decide) (by decide) ?_
                                            show Steps p.tables e below (s₁.setTop (mkF m 192 #[.val (.int p0)] [])) _
                                            refine XS.iconst X0.here hx rfl (hb hby d1_192) ?_
                                            show Steps p.tables e below (s₁.setTop (mkF m 193 #[.val (.int p0)] [(.int (0 : Int32))])) _
                                            exact retN X0 hx (t := .boolean) Bd.returns (by simp) (hb hby d1_193) hr
                                          · show Q1 Z p0 t1 F1 h0 n0 _ s₁.heap _
                                            rw [e0]
                                            exact ⟨congrArg (fun q => some (Value.int q)) hv201.symm, N0, rfl⟩
                                        · have pre177 : ∀ t, Steps p.tables e below (s₁.setTop (mkF m 161 #[.val (.int p0)] [(.int (64975 : Int32)), (.int p0)])) t → Steps p.tables e below (s₁.setTop (entryFrame m #[(.int p0)] 1)) t := fun t kt => pre171 t (by
                                              show Steps p.tables e below (s₁.setTop (mkF m 155 #[.val (.int p0)] [(.int (63744 : Int32)), (.int p0)])) _
                                              refine XS.icmpNo X0.here hx rfl (hb hby d1_155) rfl (flt hc155_172).1 ?_
                                              show Steps p.tables e below (s₁.setTop (mkF m 158 #[.val (.int p0)] [])) _
                                              refine XS.iloadN X0.here hx rfl (hb hby d1_158) rfl ?_
                                              show Steps p.tables e below (s₁.setTop (mkF m 159 #[.val (.int p0)] [(.int p0)])) _
                                              refine X0.ldcInt hx hown (mvT hZ (hw _ (List.mem_of_getElem? (i := 29) rfl))) (g := (mkF m 159 #[.val (.int p0)] [(.int p0)])) rfl (hb hby d1_159) _ ?_
                                              exact kt)
                                          by_cases hc161_178 : (64975 : Int32) < p0
                                          · have pre179 : ∀ t, Steps p.tables e below (s₁.setTop (mkF m 167 #[.val (.int p0)] [(.int (65008 : Int32)), (.int p0)])) t → Steps p.tables e below (s₁.setTop (entryFrame m #[(.int p0)] 1)) t := fun t kt => pre177 t (by
                                                show Steps p.tables e below (s₁.setTop (mkF m 161 #[.val (.int p0)] [(.int (64975 : Int32)), (.int p0)])) _
                                                refine XS.icmpNo X0.here hx rfl (hb hby d1_161) rfl (tlt hc161_178).2.2.2 ?_
                                                show Steps p.tables e below (s₁.setTop (mkF m 164 #[.val (.int p0)] [])) _
                                                refine XS.iloadN X0.here hx rfl (hb hby d1_164) rfl ?_
                                                show Steps p.tables e below (s₁.setTop (mkF m 165 #[.val (.int p0)] [(.int p0)])) _
                                                refine X0.ldcInt hx hown (mvT hZ (hw _ (List.mem_of_getElem? (i := 26) rfl))) (g := (mkF m 165 #[.val (.int p0)] [(.int p0)])) rfl (hb hby d1_165) _ ?_
                                                exact kt)
                                            by_cases hc167_180 : p0 < (65008 : Int32)
                                            · have pre181 : ∀ t, Steps p.tables e below (s₁.setTop (mkF m 179 #[.val (.int p0)] [(.int (65536 : Int32)), (.int p0)])) t → Steps p.tables e below (s₁.setTop (entryFrame m #[(.int p0)] 1)) t := fun t kt => pre179 t (by
                                                  show Steps p.tables e below (s₁.setTop (mkF m 167 #[.val (.int p0)] [(.int (65008 : Int32)), (.int p0)])) _
                                                  refine XS.icmpYes X0.here hx rfl (pc0 := 167) (pc' := 176) rfl (hb hby d1_167) rfl (tlt hc167_180).1 (by decide) (by decide) ?_
                                                  show Steps p.tables e below (s₁.setTop (mkF m 176 #[.val (.int p0)] [])) _
                                                  refine XS.iloadN X0.here hx rfl (hb hby d1_176) rfl ?_
                                                  show Steps p.tables e below (s₁.setTop (mkF m 177 #[.val (.int p0)] [(.int p0)])) _
                                                  refine X0.ldcInt hx hown (mvT hZ (hw _ (List.mem_of_getElem? (i := 27) rfl))) (g := (mkF m 177 #[.val (.int p0)] [(.int p0)])) rfl (hb hby d1_177) _ ?_
                                                  exact kt)
                                              have hd179_182 : p0 < (65536 : Int32) := Int32.lt_of_lt_of_le hc167_180 (by decide)
                                              obtain ⟨fs, hr, hrun, hended, hW, hsame⟩ := X0.leave (v := some (.int (0 : Int32))) (fun h => by rw [Bd.returns] at h; cases h)
                                              have hv202 : (f1 p0 F1) = (0 : Int32) := by rw [f1, if_neg hc4_2, if_neg hc31_10, if_pos hc38_34, if_neg hc45_36, if_pos hc52_58, if_neg hc59_60, if_pos hc66_80, if_neg hc73_82, if_pos hc80_100, if_neg hc87_102, if_pos hc94_118, if_neg hc101_120, if_pos hc108_134, if_neg hc115_136, if_pos hc122_148, if_neg hc129_150, if_pos hc136_160, if_neg hc143_162, if_pos hc149_170, if_neg hc155_172, if_pos hc161_178, if_pos hc167_180]
                                              refine ⟨_, _, pre181 _ ?_, hrun, hended, _, _, rfl, ?_, ⟨_, rfl⟩, hW, hsame.mono (by decide) (by decide)⟩
                                              · show Steps p.tables e below (s₁.setTop (mkF m 179 #[.val (.int p0)] [(.int (65536 : Int32)), (.int p0)])) _
                                                refine XS.icmpYes X0.here hx rfl (pc0 := 179) (pc' := 192) rfl (hb hby d1_179) rfl (tlt hd179_182).1 (by decide) (by decide) ?_
                                                show Steps p.tables e below (s₁.setTop (mkF m 192 #[.val (.int p0)] [])) _
                                                refine XS.iconst X0.here hx rfl (hb hby d1_192) ?_
                                                show Steps p.tables e below (s₁.setTop (mkF m 193 #[.val (.int p0)] [(.int (0 : Int32))])) _
                                                exact retN X0 hx (t := .boolean) Bd.returns (by simp) (hb hby d1_193) hr
                                              · show Q1 Z p0 t1 F1 h0 n0 _ s₁.heap _
                                                rw [e0]
                                                exact ⟨congrArg (fun q => some (Value.int q)) hv202.symm, N0, rfl⟩
                                            · have pre183 : ∀ t, Steps p.tables e below (s₁.setTop (mkF m 173 #[.val (.int p0)] [(.int (65533 : Int32)), (.int p0)])) t → Steps p.tables e below (s₁.setTop (entryFrame m #[(.int p0)] 1)) t := fun t kt => pre179 t (by
                                                  show Steps p.tables e below (s₁.setTop (mkF m 167 #[.val (.int p0)] [(.int (65008 : Int32)), (.int p0)])) _
                                                  refine XS.icmpNo X0.here hx rfl (hb hby d1_167) rfl (flt hc167_180).1 ?_
                                                  show Steps p.tables e below (s₁.setTop (mkF m 170 #[.val (.int p0)] [])) _
                                                  refine XS.iloadN X0.here hx rfl (hb hby d1_170) rfl ?_
                                                  show Steps p.tables e below (s₁.setTop (mkF m 171 #[.val (.int p0)] [(.int p0)])) _
                                                  refine X0.ldcInt hx hown (mvT hZ (hw _ (List.mem_of_getElem? (i := 30) rfl))) (g := (mkF m 171 #[.val (.int p0)] [(.int p0)])) rfl (hb hby d1_171) _ ?_
                                                  exact kt)
                                              by_cases hc173_184 : (65533 : Int32) < p0
                                              · have pre185 : ∀ t, Steps p.tables e below (s₁.setTop (mkF m 179 #[.val (.int p0)] [(.int (65536 : Int32)), (.int p0)])) t → Steps p.tables e below (s₁.setTop (entryFrame m #[(.int p0)] 1)) t := fun t kt => pre183 t (by
                                                    show Steps p.tables e below (s₁.setTop (mkF m 173 #[.val (.int p0)] [(.int (65533 : Int32)), (.int p0)])) _
                                                    refine XS.icmpNo X0.here hx rfl (hb hby d1_173) rfl (tlt hc173_184).2.2.2 ?_
                                                    show Steps p.tables e below (s₁.setTop (mkF m 176 #[.val (.int p0)] [])) _
                                                    refine XS.iloadN X0.here hx rfl (hb hby d1_176) rfl ?_
                                                    show Steps p.tables e below (s₁.setTop (mkF m 177 #[.val (.int p0)] [(.int p0)])) _
                                                    refine X0.ldcInt hx hown (mvT hZ (hw _ (List.mem_of_getElem? (i := 27) rfl))) (g := (mkF m 177 #[.val (.int p0)] [(.int p0)])) rfl (hb hby d1_177) _ ?_
                                                    exact kt)
                                                by_cases hc179_186 : p0 < (65536 : Int32)
                                                · obtain ⟨fs, hr, hrun, hended, hW, hsame⟩ := X0.leave (v := some (.int (0 : Int32))) (fun h => by rw [Bd.returns] at h; cases h)
                                                  have hv203 : (f1 p0 F1) = (0 : Int32) := by rw [f1, if_neg hc4_2, if_neg hc31_10, if_pos hc38_34, if_neg hc45_36, if_pos hc52_58, if_neg hc59_60, if_pos hc66_80, if_neg hc73_82, if_pos hc80_100, if_neg hc87_102, if_pos hc94_118, if_neg hc101_120, if_pos hc108_134, if_neg hc115_136, if_pos hc122_148, if_neg hc129_150, if_pos hc136_160, if_neg hc143_162, if_pos hc149_170, if_neg hc155_172, if_pos hc161_178, if_neg hc167_180, if_pos hc173_184, if_pos hc179_186]
                                                  refine ⟨_, _, pre185 _ ?_, hrun, hended, _, _, rfl, ?_, ⟨_, rfl⟩, hW, hsame.mono (by decide) (by decide)⟩
                                                  · show Steps p.tables e below (s₁.setTop (mkF m 179 #[.val (.int p0)] [(.int (65536 : Int32)), (.int p0)])) _
                                                    refine XS.icmpYes X0.here hx rfl (pc0 := 179) (pc' := 192) rfl (hb hby d1_179) rfl (tlt hc179_186).1 (by decide) (by decide) ?_
                                                    show Steps p.tables e below (s₁.setTop (mkF m 192 #[.val (.int p0)] [])) _
                                                    refine XS.iconst X0.here hx rfl (hb hby d1_192) ?_
                                                    show Steps p.tables e below (s₁.setTop (mkF m 193 #[.val (.int p0)] [(.int (0 : Int32))])) _
                                                    exact retN X0 hx (t := .boolean) Bd.returns (by simp) (hb hby d1_193) hr
                                                  · show Q1 Z p0 t1 F1 h0 n0 _ s₁.heap _
                                                    rw [e0]
                                                    exact ⟨congrArg (fun q => some (Value.int q)) hv203.symm, N0, rfl⟩
                                                · have pre187 : ∀ t, Steps p.tables e below (s₁.setTop (mkF m 185 #[.val (.int p0)] [(.int (983039 : Int32)), (.int p0)])) t → Steps p.tables e below (s₁.setTop (entryFrame m #[(.int p0)] 1)) t := fun t kt => pre185 t (by
                                                      show Steps p.tables e below (s₁.setTop (mkF m 179 #[.val (.int p0)] [(.int (65536 : Int32)), (.int p0)])) _
                                                      refine XS.icmpNo X0.here hx rfl (hb hby d1_179) rfl (flt hc179_186).1 ?_
                                                      show Steps p.tables e below (s₁.setTop (mkF m 182 #[.val (.int p0)] [])) _
                                                      refine XS.iloadN X0.here hx rfl (hb hby d1_182) rfl ?_
                                                      show Steps p.tables e below (s₁.setTop (mkF m 183 #[.val (.int p0)] [(.int p0)])) _
                                                      refine X0.ldcInt hx hown (mvT hZ (hw _ (List.mem_of_getElem? (i := 31) rfl))) (g := (mkF m 183 #[.val (.int p0)] [(.int p0)])) rfl (hb hby d1_183) _ ?_
                                                      exact kt)
                                                  by_cases hc185_188 : (983039 : Int32) < p0
                                                  · obtain ⟨fs, hr, hrun, hended, hW, hsame⟩ := X0.leave (v := some (.int (0 : Int32))) (fun h => by rw [Bd.returns] at h; cases h)
                                                    have hv204 : (f1 p0 F1) = (0 : Int32) := by rw [f1, if_neg hc4_2, if_neg hc31_10, if_pos hc38_34, if_neg hc45_36, if_pos hc52_58, if_neg hc59_60, if_pos hc66_80, if_neg hc73_82, if_pos hc80_100, if_neg hc87_102, if_pos hc94_118, if_neg hc101_120, if_pos hc108_134, if_neg hc115_136, if_pos hc122_148, if_neg hc129_150, if_pos hc136_160, if_neg hc143_162, if_pos hc149_170, if_neg hc155_172, if_pos hc161_178, if_neg hc167_180, if_pos hc173_184, if_neg hc179_186, if_pos hc185_188]
                                                    refine ⟨_, _, pre187 _ ?_, hrun, hended, _, _, rfl, ?_, ⟨_, rfl⟩, hW, hsame.mono (by decide) (by decide)⟩
                                                    · show Steps p.tables e below (s₁.setTop (mkF m 185 #[.val (.int p0)] [(.int (983039 : Int32)), (.int p0)])) _
                                                      refine XS.icmpYes X0.here hx rfl (pc0 := 185) (pc' := 192) rfl (hb hby d1_185) rfl (tlt hc185_188).2.2.1 (by decide) (by decide) ?_
                                                      show Steps p.tables e below (s₁.setTop (mkF m 192 #[.val (.int p0)] [])) _
                                                      refine XS.iconst X0.here hx rfl (hb hby d1_192) ?_
                                                      show Steps p.tables e below (s₁.setTop (mkF m 193 #[.val (.int p0)] [(.int (0 : Int32))])) _
                                                      exact retN X0 hx (t := .boolean) Bd.returns (by simp) (hb hby d1_193) hr
                                                    · show Q1 Z p0 t1 F1 h0 n0 _ s₁.heap _
                                                      rw [e0]
                                                      exact ⟨congrArg (fun q => some (Value.int q)) hv204.symm, N0, rfl⟩
                                                  · obtain ⟨fs, hr, hrun, hended, hW, hsame⟩ := X0.leave (v := some (.int (1 : Int32))) (fun h => by rw [Bd.returns] at h; cases h)
                                                    have hv205 : (f1 p0 F1) = (1 : Int32) := by rw [f1, if_neg hc4_2, if_neg hc31_10, if_pos hc38_34, if_neg hc45_36, if_pos hc52_58, if_neg hc59_60, if_pos hc66_80, if_neg hc73_82, if_pos hc80_100, if_neg hc87_102, if_pos hc94_118, if_neg hc101_120, if_pos hc108_134, if_neg hc115_136, if_pos hc122_148, if_neg hc129_150, if_pos hc136_160, if_neg hc143_162, if_pos hc149_170, if_neg hc155_172, if_pos hc161_178, if_neg hc167_180, if_pos hc173_184, if_neg hc179_186, if_neg hc185_188]
                                                    refine ⟨_, _, pre187 _ ?_, hrun, hended, _, _, rfl, ?_, ⟨_, rfl⟩, hW, hsame.mono (by decide) (by decide)⟩
                                                    · show Steps p.tables e below (s₁.setTop (mkF m 185 #[.val (.int p0)] [(.int (983039 : Int32)), (.int p0)])) _
                                                      refine XS.icmpNo X0.here hx rfl (hb hby d1_185) rfl (flt hc185_188).2.2.1 ?_
                                                      show Steps p.tables e below (s₁.setTop (mkF m 188 #[.val (.int p0)] [])) _
                                                      refine XS.iconst X0.here hx rfl (hb hby d1_188) ?_
                                                      show Steps p.tables e below (s₁.setTop (mkF m 189 #[.val (.int p0)] [(.int (1 : Int32))])) _
                                                      refine XS.goto X0.here hx rfl (pc0 := 189) (pc' := 193) rfl (hb hby d1_189) (by decide) (by decide) ?_
                                                      show Steps p.tables e below (s₁.setTop (mkF m 193 #[.val (.int p0)] [(.int (1 : Int32))])) _
                                                      exact retN X0 hx (t := .boolean) Bd.returns (by simp) (hb hby d1_193) hr
                                                    · show Q1 Z p0 t1 F1 h0 n0 _ s₁.heap _
                                                      rw [e0]
                                                      exact ⟨congrArg (fun q => some (Value.int q)) hv205.symm, N0, rfl⟩
                                              · obtain ⟨fs, hr, hrun, hended, hW, hsame⟩ := X0.leave (v := some (.int (1 : Int32))) (fun h => by rw [Bd.returns] at h; cases h)
                                                have hv206 : (f1 p0 F1) = (1 : Int32) := by rw [f1, if_neg hc4_2, if_neg hc31_10, if_pos hc38_34, if_neg hc45_36, if_pos hc52_58, if_neg hc59_60, if_pos hc66_80, if_neg hc73_82, if_pos hc80_100, if_neg hc87_102, if_pos hc94_118, if_neg hc101_120, if_pos hc108_134, if_neg hc115_136, if_pos hc122_148, if_neg hc129_150, if_pos hc136_160, if_neg hc143_162, if_pos hc149_170, if_neg hc155_172, if_pos hc161_178, if_neg hc167_180, if_neg hc173_184]
                                                refine ⟨_, _, pre183 _ ?_, hrun, hended, _, _, rfl, ?_, ⟨_, rfl⟩, hW, hsame.mono (by decide) (by decide)⟩
                                                · show Steps p.tables e below (s₁.setTop (mkF m 173 #[.val (.int p0)] [(.int (65533 : Int32)), (.int p0)])) _
                                                  refine XS.icmpYes X0.here hx rfl (pc0 := 173) (pc' := 188) rfl (hb hby d1_173) rfl (flt hc173_184).2.2.2 (by decide) (by decide) ?_
                                                  show Steps p.tables e below (s₁.setTop (mkF m 188 #[.val (.int p0)] [])) _
                                                  refine XS.iconst X0.here hx rfl (hb hby d1_188) ?_
                                                  show Steps p.tables e below (s₁.setTop (mkF m 189 #[.val (.int p0)] [(.int (1 : Int32))])) _
                                                  refine XS.goto X0.here hx rfl (pc0 := 189) (pc' := 193) rfl (hb hby d1_189) (by decide) (by decide) ?_
                                                  show Steps p.tables e below (s₁.setTop (mkF m 193 #[.val (.int p0)] [(.int (1 : Int32))])) _
                                                  exact retN X0 hx (t := .boolean) Bd.returns (by simp) (hb hby d1_193) hr
                                                · show Q1 Z p0 t1 F1 h0 n0 _ s₁.heap _
                                                  rw [e0]
                                                  exact ⟨congrArg (fun q => some (Value.int q)) hv206.symm, N0, rfl⟩
                                          · obtain ⟨fs, hr, hrun, hended, hW, hsame⟩ := X0.leave (v := some (.int (1 : Int32))) (fun h => by rw [Bd.returns] at h; cases h)
                                            have hv207 : (f1 p0 F1) = (1 : Int32) := by rw [f1, if_neg hc4_2, if_neg hc31_10, if_pos hc38_34, if_neg hc45_36, if_pos hc52_58, if_neg hc59_60, if_pos hc66_80, if_neg hc73_82, if_pos hc80_100, if_neg hc87_102, if_pos hc94_118, if_neg hc101_120, if_pos hc108_134, if_neg hc115_136, if_pos hc122_148, if_neg hc129_150, if_pos hc136_160, if_neg hc143_162, if_pos hc149_170, if_neg hc155_172, if_neg hc161_178]
                                            refine ⟨_, _, pre177 _ ?_, hrun, hended, _, _, rfl, ?_, ⟨_, rfl⟩, hW, hsame.mono (by decide) (by decide)⟩
                                            · show Steps p.tables e below (s₁.setTop (mkF m 161 #[.val (.int p0)] [(.int (64975 : Int32)), (.int p0)])) _
                                              refine XS.icmpYes X0.here hx rfl (pc0 := 161) (pc' := 188) rfl (hb hby d1_161) rfl (flt hc161_178).2.2.2 (by decide) (by decide) ?_
                                              show Steps p.tables e below (s₁.setTop (mkF m 188 #[.val (.int p0)] [])) _
                                              refine XS.iconst X0.here hx rfl (hb hby d1_188) ?_
                                              show Steps p.tables e below (s₁.setTop (mkF m 189 #[.val (.int p0)] [(.int (1 : Int32))])) _
                                              refine XS.goto X0.here hx rfl (pc0 := 189) (pc' := 193) rfl (hb hby d1_189) (by decide) (by decide) ?_
                                              show Steps p.tables e below (s₁.setTop (mkF m 193 #[.val (.int p0)] [(.int (1 : Int32))])) _
                                              exact retN X0 hx (t := .boolean) Bd.returns (by simp) (hb hby d1_193) hr
                                            · show Q1 Z p0 t1 F1 h0 n0 _ s₁.heap _
                                              rw [e0]
                                              exact ⟨congrArg (fun q => some (Value.int q)) hv207.symm, N0, rfl⟩
                                      · obtain ⟨fs, hr, hrun, hended, hW, hsame⟩ := X0.leave (v := some (.int (1 : Int32))) (fun h => by rw [Bd.returns] at h; cases h)
                                        have hv208 : (f1 p0 F1) = (1 : Int32) := by rw [f1, if_neg hc4_2, if_neg hc31_10, if_pos hc38_34, if_neg hc45_36, if_pos hc52_58, if_neg hc59_60, if_pos hc66_80, if_neg hc73_82, if_pos hc80_100, if_neg hc87_102, if_pos hc94_118, if_neg hc101_120, if_pos hc108_134, if_neg hc115_136, if_pos hc122_148, if_neg hc129_150, if_pos hc136_160, if_neg hc143_162, if_neg hc149_170]
                                        refine ⟨_, _, pre169 _ ?_, hrun, hended, _, _, rfl, ?_, ⟨_, rfl⟩, hW, hsame.mono (by decide) (by decide)⟩
                                        · show Steps p.tables e below (s₁.setTop (mkF m 149 #[.val (.int p0)] [(.int (55295 : Int32)), (.int p0)])) _
                                          refine XS.icmpYes X0.here hx rfl (pc0 := 149) (pc' := 188) rfl (hb hby d1_149) rfl (flt hc149_170).2.2.2 (by decide) (by decide) ?_
                                          show Steps p.tables e below (s₁.setTop (mkF m 188 #[.val (.int p0)] [])) _
                                          refine XS.iconst X0.here hx rfl (hb hby d1_188) ?_
                                          show Steps p.tables e below (s₁.setTop (mkF m 189 #[.val (.int p0)] [(.int (1 : Int32))])) _
                                          refine XS.goto X0.here hx rfl (pc0 := 189) (pc' := 193) rfl (hb hby d1_189) (by decide) (by decide) ?_
                                          show Steps p.tables e below (s₁.setTop (mkF m 193 #[.val (.int p0)] [(.int (1 : Int32))])) _
                                          exact retN X0 hx (t := .boolean) Bd.returns (by simp) (hb hby d1_193) hr
                                        · show Q1 Z p0 t1 F1 h0 n0 _ s₁.heap _
                                          rw [e0]
                                          exact ⟨congrArg (fun q => some (Value.int q)) hv208.symm, N0, rfl⟩
                                  · obtain ⟨fs, hr, hrun, hended, hW, hsame⟩ := X0.leave (v := some (.int (1 : Int32))) (fun h => by rw [Bd.returns] at h; cases h)
                                    have hv209 : (f1 p0 F1) = (1 : Int32) := by rw [f1, if_neg hc4_2, if_neg hc31_10, if_pos hc38_34, if_neg hc45_36, if_pos hc52_58, if_neg hc59_60, if_pos hc66_80, if_neg hc73_82, if_pos hc80_100, if_neg hc87_102, if_pos hc94_118, if_neg hc101_120, if_pos hc108_134, if_neg hc115_136, if_pos hc122_148, if_neg hc129_150, if_neg hc136_160]
                                    refine ⟨_, _, pre159 _ ?_, hrun, hended, _, _, rfl, ?_, ⟨_, rfl⟩, hW, hsame.mono (by decide) (by decide)⟩
                                    · show Steps p.tables e below (s₁.setTop (mkF m 136 #[.val (.int p0)] [(.int (12271 : Int32)), (.int p0)])) _
                                      refine XS.icmpYes X0.here hx rfl (pc0 := 136) (pc' := 188) rfl (hb hby d1_136) rfl (flt hc136_160).2.2.2 (by decide) (by decide) ?_
                                      show Steps p.tables e below (s₁.setTop (mkF m 188 #[.val (.int p0)] [])) _
                                      refine XS.iconst X0.here hx rfl (hb hby d1_188) ?_
                                      show Steps p.tables e below (s₁.setTop (mkF m 189 #[.val (.int p0)] [(.int (1 : Int32))])) _
                                      refine XS.goto X0.here hx rfl (pc0 := 189) (pc' := 193) rfl (hb hby d1_189) (by decide) (by decide) ?_
                                      show Steps p.tables e below (s₁.setTop (mkF m 193 #[.val (.int p0)] [(.int (1 : Int32))])) _
                                      exact retN X0 hx (t := .boolean) Bd.returns (by simp) (hb hby d1_193) hr
                                    · show Q1 Z p0 t1 F1 h0 n0 _ s₁.heap _
                                      rw [e0]
                                      exact ⟨congrArg (fun q => some (Value.int q)) hv209.symm, N0, rfl⟩
                              · obtain ⟨fs, hr, hrun, hended, hW, hsame⟩ := X0.leave (v := some (.int (1 : Int32))) (fun h => by rw [Bd.returns] at h; cases h)
                                have hv210 : (f1 p0 F1) = (1 : Int32) := by rw [f1, if_neg hc4_2, if_neg hc31_10, if_pos hc38_34, if_neg hc45_36, if_pos hc52_58, if_neg hc59_60, if_pos hc66_80, if_neg hc73_82, if_pos hc80_100, if_neg hc87_102, if_pos hc94_118, if_neg hc101_120, if_pos hc108_134, if_neg hc115_136, if_neg hc122_148]
                                refine ⟨_, _, pre147 _ ?_, hrun, hended, _, _, rfl, ?_, ⟨_, rfl⟩, hW, hsame.mono (by decide) (by decide)⟩
                                · show Steps p.tables e below (s₁.setTop (mkF m 122 #[.val (.int p0)] [(.int (8591 : Int32)), (.int p0)])) _
                                  refine XS.icmpYes X0.here hx rfl (pc0 := 122) (pc' := 188) rfl (hb hby d1_122) rfl (flt hc122_148).2.2.2 (by decide) (by decide) ?_
                                  show Steps p.tables e below (s₁.setTop (mkF m 188 #[.val (.int p0)] [])) _
                                  refine XS.iconst X0.here hx rfl (hb hby d1_188) ?_
                                  show Steps p.tables e below (s₁.setTop (mkF m 189 #[.val (.int p0)] [(.int (1 : Int32))])) _
                                  refine XS.goto X0.here hx rfl (pc0 := 189) (pc' := 193) rfl (hb hby d1_189) (by decide) (by decide) ?_
                                  show Steps p.tables e below (s₁.setTop (mkF m 193 #[.val (.int p0)] [(.int (1 : Int32))])) _
                                  exact retN X0 hx (t := .boolean) Bd.returns (by simp) (hb hby d1_193) hr
                                · show Q1 Z p0 t1 F1 h0 n0 _ s₁.heap _
                                  rw [e0]
                                  exact ⟨congrArg (fun q => some (Value.int q)) hv210.symm, N0, rfl⟩
                          · obtain ⟨fs, hr, hrun, hended, hW, hsame⟩ := X0.leave (v := some (.int (1 : Int32))) (fun h => by rw [Bd.returns] at h; cases h)
                            have hv211 : (f1 p0 F1) = (1 : Int32) := by rw [f1, if_neg hc4_2, if_neg hc31_10, if_pos hc38_34, if_neg hc45_36, if_pos hc52_58, if_neg hc59_60, if_pos hc66_80, if_neg hc73_82, if_pos hc80_100, if_neg hc87_102, if_pos hc94_118, if_neg hc101_120, if_neg hc108_134]
                            refine ⟨_, _, pre133 _ ?_, hrun, hended, _, _, rfl, ?_, ⟨_, rfl⟩, hW, hsame.mono (by decide) (by decide)⟩
                            · show Steps p.tables e below (s₁.setTop (mkF m 108 #[.val (.int p0)] [(.int (8205 : Int32)), (.int p0)])) _
                              refine XS.icmpYes X0.here hx rfl (pc0 := 108) (pc' := 188) rfl (hb hby d1_108) rfl (flt hc108_134).2.2.2 (by decide) (by decide) ?_
                              show Steps p.tables e below (s₁.setTop (mkF m 188 #[.val (.int p0)] [])) _
                              refine XS.iconst X0.here hx rfl (hb hby d1_188) ?_
                              show Steps p.tables e below (s₁.setTop (mkF m 189 #[.val (.int p0)] [(.int (1 : Int32))])) _
                              refine XS.goto X0.here hx rfl (pc0 := 189) (pc' := 193) rfl (hb hby d1_189) (by decide) (by decide) ?_
                              show Steps p.tables e below (s₁.setTop (mkF m 193 #[.val (.int p0)] [(.int (1 : Int32))])) _
                              exact retN X0 hx (t := .boolean) Bd.returns (by simp) (hb hby d1_193) hr
                            · show Q1 Z p0 t1 F1 h0 n0 _ s₁.heap _
                              rw [e0]
                              exact ⟨congrArg (fun q => some (Value.int q)) hv211.symm, N0, rfl⟩
                      · obtain ⟨fs, hr, hrun, hended, hW, hsame⟩ := X0.leave (v := some (.int (1 : Int32))) (fun h => by rw [Bd.returns] at h; cases h)
                        have hv212 : (f1 p0 F1) = (1 : Int32) := by rw [f1, if_neg hc4_2, if_neg hc31_10, if_pos hc38_34, if_neg hc45_36, if_pos hc52_58, if_neg hc59_60, if_pos hc66_80, if_neg hc73_82, if_pos hc80_100, if_neg hc87_102, if_neg hc94_118]
                        refine ⟨_, _, pre117 _ ?_, hrun, hended, _, _, rfl, ?_, ⟨_, rfl⟩, hW, hsame.mono (by decide) (by decide)⟩
                        · show Steps p.tables e below (s₁.setTop (mkF m 94 #[.val (.int p0)] [(.int (8191 : Int32)), (.int p0)])) _
                          refine XS.icmpYes X0.here hx rfl (pc0 := 94) (pc' := 188) rfl (hb hby d1_94) rfl (flt hc94_118).2.2.2 (by decide) (by decide) ?_
                          show Steps p.tables e below (s₁.setTop (mkF m 188 #[.val (.int p0)] [])) _
                          refine XS.iconst X0.here hx rfl (hb hby d1_188) ?_
                          show Steps p.tables e below (s₁.setTop (mkF m 189 #[.val (.int p0)] [(.int (1 : Int32))])) _
                          refine XS.goto X0.here hx rfl (pc0 := 189) (pc' := 193) rfl (hb hby d1_189) (by decide) (by decide) ?_
                          show Steps p.tables e below (s₁.setTop (mkF m 193 #[.val (.int p0)] [(.int (1 : Int32))])) _
                          exact retN X0 hx (t := .boolean) Bd.returns (by simp) (hb hby d1_193) hr
                        · show Q1 Z p0 t1 F1 h0 n0 _ s₁.heap _
                          rw [e0]
                          exact ⟨congrArg (fun q => some (Value.int q)) hv212.symm, N0, rfl⟩
                  · obtain ⟨fs, hr, hrun, hended, hW, hsame⟩ := X0.leave (v := some (.int (1 : Int32))) (fun h => by rw [Bd.returns] at h; cases h)
                    have hv213 : (f1 p0 F1) = (1 : Int32) := by rw [f1, if_neg hc4_2, if_neg hc31_10, if_pos hc38_34, if_neg hc45_36, if_pos hc52_58, if_neg hc59_60, if_pos hc66_80, if_neg hc73_82, if_neg hc80_100]
                    refine ⟨_, _, pre99 _ ?_, hrun, hended, _, _, rfl, ?_, ⟨_, rfl⟩, hW, hsame.mono (by decide) (by decide)⟩
                    · show Steps p.tables e below (s₁.setTop (mkF m 80 #[.val (.int p0)] [(.int (893 : Int32)), (.int p0)])) _
                      refine XS.icmpYes X0.here hx rfl (pc0 := 80) (pc' := 188) rfl (hb hby d1_80) rfl (flt hc80_100).2.2.2 (by decide) (by decide) ?_
                      show Steps p.tables e below (s₁.setTop (mkF m 188 #[.val (.int p0)] [])) _
                      refine XS.iconst X0.here hx rfl (hb hby d1_188) ?_
                      show Steps p.tables e below (s₁.setTop (mkF m 189 #[.val (.int p0)] [(.int (1 : Int32))])) _
                      refine XS.goto X0.here hx rfl (pc0 := 189) (pc' := 193) rfl (hb hby d1_189) (by decide) (by decide) ?_
                      show Steps p.tables e below (s₁.setTop (mkF m 193 #[.val (.int p0)] [(.int (1 : Int32))])) _
                      exact retN X0 hx (t := .boolean) Bd.returns (by simp) (hb hby d1_193) hr
                    · show Q1 Z p0 t1 F1 h0 n0 _ s₁.heap _
                      rw [e0]
                      exact ⟨congrArg (fun q => some (Value.int q)) hv213.symm, N0, rfl⟩
              · obtain ⟨fs, hr, hrun, hended, hW, hsame⟩ := X0.leave (v := some (.int (1 : Int32))) (fun h => by rw [Bd.returns] at h; cases h)
                have hv214 : (f1 p0 F1) = (1 : Int32) := by rw [f1, if_neg hc4_2, if_neg hc31_10, if_pos hc38_34, if_neg hc45_36, if_pos hc52_58, if_neg hc59_60, if_neg hc66_80]
                refine ⟨_, _, pre79 _ ?_, hrun, hended, _, _, rfl, ?_, ⟨_, rfl⟩, hW, hsame.mono (by decide) (by decide)⟩
                · show Steps p.tables e below (s₁.setTop (mkF m 66 #[.val (.int p0)] [(.int (767 : Int32)), (.int p0)])) _
                  refine XS.icmpYes X0.here hx rfl (pc0 := 66) (pc' := 188) rfl (hb hby d1_66) rfl (flt hc66_80).2.2.2 (by decide) (by decide) ?_
                  show Steps p.tables e below (s₁.setTop (mkF m 188 #[.val (.int p0)] [])) _
                  refine XS.iconst X0.here hx rfl (hb hby d1_188) ?_
                  show Steps p.tables e below (s₁.setTop (mkF m 189 #[.val (.int p0)] [(.int (1 : Int32))])) _
                  refine XS.goto X0.here hx rfl (pc0 := 189) (pc' := 193) rfl (hb hby d1_189) (by decide) (by decide) ?_
                  show Steps p.tables e below (s₁.setTop (mkF m 193 #[.val (.int p0)] [(.int (1 : Int32))])) _
                  exact retN X0 hx (t := .boolean) Bd.returns (by simp) (hb hby d1_193) hr
                · show Q1 Z p0 t1 F1 h0 n0 _ s₁.heap _
                  rw [e0]
                  exact ⟨congrArg (fun q => some (Value.int q)) hv214.symm, N0, rfl⟩
          · obtain ⟨fs, hr, hrun, hended, hW, hsame⟩ := X0.leave (v := some (.int (1 : Int32))) (fun h => by rw [Bd.returns] at h; cases h)
            have hv215 : (f1 p0 F1) = (1 : Int32) := by rw [f1, if_neg hc4_2, if_neg hc31_10, if_pos hc38_34, if_neg hc45_36, if_neg hc52_58]
            refine ⟨_, _, pre57 _ ?_, hrun, hended, _, _, rfl, ?_, ⟨_, rfl⟩, hW, hsame.mono (by decide) (by decide)⟩
            · show Steps p.tables e below (s₁.setTop (mkF m 52 #[.val (.int p0)] [(.int (246 : Int32)), (.int p0)])) _
              refine XS.icmpYes X0.here hx rfl (pc0 := 52) (pc' := 188) rfl (hb hby d1_52) rfl (flt hc52_58).2.2.2 (by decide) (by decide) ?_
              show Steps p.tables e below (s₁.setTop (mkF m 188 #[.val (.int p0)] [])) _
              refine XS.iconst X0.here hx rfl (hb hby d1_188) ?_
              show Steps p.tables e below (s₁.setTop (mkF m 189 #[.val (.int p0)] [(.int (1 : Int32))])) _
              refine XS.goto X0.here hx rfl (pc0 := 189) (pc' := 193) rfl (hb hby d1_189) (by decide) (by decide) ?_
              show Steps p.tables e below (s₁.setTop (mkF m 193 #[.val (.int p0)] [(.int (1 : Int32))])) _
              exact retN X0 hx (t := .boolean) Bd.returns (by simp) (hb hby d1_193) hr
            · show Q1 Z p0 t1 F1 h0 n0 _ s₁.heap _
              rw [e0]
              exact ⟨congrArg (fun q => some (Value.int q)) hv215.symm, N0, rfl⟩
      · obtain ⟨fs, hr, hrun, hended, hW, hsame⟩ := X0.leave (v := some (.int (1 : Int32))) (fun h => by rw [Bd.returns] at h; cases h)
        have hv216 : (f1 p0 F1) = (1 : Int32) := by rw [f1, if_neg hc4_2, if_neg hc31_10, if_neg hc38_34]
        refine ⟨_, _, pre33 _ ?_, hrun, hended, _, _, rfl, ?_, ⟨_, rfl⟩, hW, hsame.mono (by decide) (by decide)⟩
        · show Steps p.tables e below (s₁.setTop (mkF m 38 #[.val (.int p0)] [(.int (214 : Int32)), (.int p0)])) _
          refine XS.icmpYes X0.here hx rfl (pc0 := 38) (pc' := 188) rfl (hb hby d1_38) rfl (flt hc38_34).2.2.2 (by decide) (by decide) ?_
          show Steps p.tables e below (s₁.setTop (mkF m 188 #[.val (.int p0)] [])) _
          refine XS.iconst X0.here hx rfl (hb hby d1_188) ?_
          show Steps p.tables e below (s₁.setTop (mkF m 189 #[.val (.int p0)] [(.int (1 : Int32))])) _
          refine XS.goto X0.here hx rfl (pc0 := 189) (pc' := 193) rfl (hb hby d1_189) (by decide) (by decide) ?_
          show Steps p.tables e below (s₁.setTop (mkF m 193 #[.val (.int p0)] [(.int (1 : Int32))])) _
          exact retN X0 hx (t := .boolean) Bd.returns (by simp) (hb hby d1_193) hr
        · show Q1 Z p0 t1 F1 h0 n0 _ s₁.heap _
          rw [e0]
          exact ⟨congrArg (fun q => some (Value.int q)) hv216.symm, N0, rfl⟩
theorem d2_0 : decode method_2_code 0 = .ok (.iload_n 0, 1) := by decide +kernel
theorem d2_1 : decode method_2_code 1 = .ok (.ifCond .lt 9, 3) := by decide +kernel
theorem d2_4 : decode method_2_code 4 = .ok (.iload_n 0, 1) := by decide +kernel
theorem d2_5 : decode method_2_code 5 = .ok (.ldc 7, 2) := by decide +kernel
theorem d2_7 : decode method_2_code 7 = .ok (.if_icmp .le 5, 3) := by decide +kernel
theorem d2_10 : decode method_2_code 10 = .ok (.iconst 0, 1) := by decide +kernel
theorem d2_11 : decode method_2_code 11 = .ok (.ireturn, 1) := by decide +kernel
theorem d2_12 : decode method_2_code 12 = .ok (.iload_n 0, 1) := by decide +kernel
theorem d2_13 : decode method_2_code 13 = .ok (.sipush 128, 3) := by decide +kernel
theorem d2_16 : decode method_2_code 16 = .ok (.if_icmp .ge 45, 3) := by decide +kernel
theorem d2_19 : decode method_2_code 19 = .ok (.iload_n 0, 1) := by decide +kernel
theorem d2_20 : decode method_2_code 20 = .ok (.bipush 65, 2) := by decide +kernel
theorem d2_22 : decode method_2_code 22 = .ok (.if_icmp .lt 9, 3) := by decide +kernel
theorem d2_25 : decode method_2_code 25 = .ok (.iload_n 0, 1) := by decide +kernel
theorem d2_26 : decode method_2_code 26 = .ok (.bipush 90, 2) := by decide +kernel
theorem d2_28 : decode method_2_code 28 = .ok (.if_icmp .le 27, 3) := by decide +kernel
theorem d2_31 : decode method_2_code 31 = .ok (.iload_n 0, 1) := by decide +kernel
theorem d2_32 : decode method_2_code 32 = .ok (.bipush 97, 2) := by decide +kernel
theorem d2_34 : decode method_2_code 34 = .ok (.if_icmp .lt 9, 3) := by decide +kernel
theorem d2_37 : decode method_2_code 37 = .ok (.iload_n 0, 1) := by decide +kernel
theorem d2_38 : decode method_2_code 38 = .ok (.bipush 122, 2) := by decide +kernel
theorem d2_40 : decode method_2_code 40 = .ok (.if_icmp .le 15, 3) := by decide +kernel
theorem d2_43 : decode method_2_code 43 = .ok (.iload_n 0, 1) := by decide +kernel
theorem d2_44 : decode method_2_code 44 = .ok (.bipush 95, 2) := by decide +kernel
theorem d2_46 : decode method_2_code 46 = .ok (.if_icmp .eq 9, 3) := by decide +kernel
theorem d2_49 : decode method_2_code 49 = .ok (.iload_n 0, 1) := by decide +kernel
theorem d2_50 : decode method_2_code 50 = .ok (.bipush 58, 2) := by decide +kernel
theorem d2_52 : decode method_2_code 52 = .ok (.if_icmp .ne 7, 3) := by decide +kernel
theorem d2_55 : decode method_2_code 55 = .ok (.iconst 1, 1) := by decide +kernel
theorem d2_56 : decode method_2_code 56 = .ok (.goto 4, 3) := by decide +kernel
theorem d2_59 : decode method_2_code 59 = .ok (.iconst 0, 1) := by decide +kernel
theorem d2_60 : decode method_2_code 60 = .ok (.ireturn, 1) := by decide +kernel
theorem d2_61 : decode method_2_code 61 = .ok (.iload_n 0, 1) := by decide +kernel
theorem d2_62 : decode method_2_code 62 = .ok (.sipush 191, 3) := by decide +kernel
theorem d2_65 : decode method_2_code 65 = .ok (.if_icmp .le 130, 3) := by decide +kernel
theorem d2_68 : decode method_2_code 68 = .ok (.iload_n 0, 1) := by decide +kernel
theorem d2_69 : decode method_2_code 69 = .ok (.sipush 215, 3) := by decide +kernel
theorem d2_72 : decode method_2_code 72 = .ok (.if_icmp .eq 123, 3) := by decide +kernel
theorem d2_75 : decode method_2_code 75 = .ok (.iload_n 0, 1) := by decide +kernel
theorem d2_76 : decode method_2_code 76 = .ok (.sipush 247, 3) := by decide +kernel
theorem d2_79 : decode method_2_code 79 = .ok (.if_icmp .eq 116, 3) := by decide +kernel
theorem d2_82 : decode method_2_code 82 = .ok (.iload_n 0, 1) := by decide +kernel
theorem d2_83 : decode method_2_code 83 = .ok (.sipush 768, 3) := by decide +kernel
theorem d2_86 : decode method_2_code 86 = .ok (.if_icmp .lt 10, 3) := by decide +kernel
theorem d2_89 : decode method_2_code 89 = .ok (.iload_n 0, 1) := by decide +kernel
theorem d2_90 : decode method_2_code 90 = .ok (.sipush 879, 3) := by decide +kernel
theorem d2_93 : decode method_2_code 93 = .ok (.if_icmp .le 102, 3) := by decide +kernel
theorem d2_96 : decode method_2_code 96 = .ok (.iload_n 0, 1) := by decide +kernel
theorem d2_97 : decode method_2_code 97 = .ok (.sipush 894, 3) := by decide +kernel
theorem d2_100 : decode method_2_code 100 = .ok (.if_icmp .eq 95, 3) := by decide +kernel
theorem d2_103 : decode method_2_code 103 = .ok (.iload_n 0, 1) := by decide +kernel
theorem d2_104 : decode method_2_code 104 = .ok (.sipush 8192, 3) := by decide +kernel
theorem d2_107 : decode method_2_code 107 = .ok (.if_icmp .lt 10, 3) := by decide +kernel
theorem d2_110 : decode method_2_code 110 = .ok (.iload_n 0, 1) := by decide +kernel
theorem d2_111 : decode method_2_code 111 = .ok (.sipush 8203, 3) := by decide +kernel
theorem d2_114 : decode method_2_code 114 = .ok (.if_icmp .le 81, 3) := by decide +kernel
theorem d2_117 : decode method_2_code 117 = .ok (.iload_n 0, 1) := by decide +kernel
theorem d2_118 : decode method_2_code 118 = .ok (.sipush 8206, 3) := by decide +kernel
theorem d2_121 : decode method_2_code 121 = .ok (.if_icmp .lt 10, 3) := by decide +kernel
theorem d2_124 : decode method_2_code 124 = .ok (.iload_n 0, 1) := by decide +kernel
theorem d2_125 : decode method_2_code 125 = .ok (.sipush 8303, 3) := by decide +kernel
theorem d2_128 : decode method_2_code 128 = .ok (.if_icmp .le 67, 3) := by decide +kernel
theorem d2_131 : decode method_2_code 131 = .ok (.iload_n 0, 1) := by decide +kernel
theorem d2_132 : decode method_2_code 132 = .ok (.sipush 8592, 3) := by decide +kernel
theorem d2_135 : decode method_2_code 135 = .ok (.if_icmp .lt 10, 3) := by decide +kernel
theorem d2_138 : decode method_2_code 138 = .ok (.iload_n 0, 1) := by decide +kernel
theorem d2_139 : decode method_2_code 139 = .ok (.sipush 11263, 3) := by decide +kernel
theorem d2_142 : decode method_2_code 142 = .ok (.if_icmp .le 53, 3) := by decide +kernel
theorem d2_145 : decode method_2_code 145 = .ok (.iload_n 0, 1) := by decide +kernel
theorem d2_146 : decode method_2_code 146 = .ok (.sipush 12272, 3) := by decide +kernel
theorem d2_149 : decode method_2_code 149 = .ok (.if_icmp .lt 10, 3) := by decide +kernel
theorem d2_152 : decode method_2_code 152 = .ok (.iload_n 0, 1) := by decide +kernel
theorem d2_153 : decode method_2_code 153 = .ok (.sipush 12288, 3) := by decide +kernel
theorem d2_156 : decode method_2_code 156 = .ok (.if_icmp .le 39, 3) := by decide +kernel
theorem d2_159 : decode method_2_code 159 = .ok (.iload_n 0, 1) := by decide +kernel
theorem d2_160 : decode method_2_code 160 = .ok (.ldc 8, 2) := by decide +kernel
theorem d2_162 : decode method_2_code 162 = .ok (.if_icmp .lt 9, 3) := by decide +kernel
theorem d2_165 : decode method_2_code 165 = .ok (.iload_n 0, 1) := by decide +kernel
theorem d2_166 : decode method_2_code 166 = .ok (.ldc 9, 2) := by decide +kernel
theorem d2_168 : decode method_2_code 168 = .ok (.if_icmp .le 27, 3) := by decide +kernel
theorem d2_171 : decode method_2_code 171 = .ok (.iload_n 0, 1) := by decide +kernel
theorem d2_172 : decode method_2_code 172 = .ok (.ldc 10, 2) := by decide +kernel
theorem d2_174 : decode method_2_code 174 = .ok (.if_icmp .lt 9, 3) := by decide +kernel
theorem d2_177 : decode method_2_code 177 = .ok (.iload_n 0, 1) := by decide +kernel
theorem d2_178 : decode method_2_code 178 = .ok (.ldc 11, 2) := by decide +kernel
theorem d2_180 : decode method_2_code 180 = .ok (.if_icmp .le 15, 3) := by decide +kernel
theorem d2_183 : decode method_2_code 183 = .ok (.iload_n 0, 1) := by decide +kernel
theorem d2_184 : decode method_2_code 184 = .ok (.ldc 12, 2) := by decide +kernel
theorem d2_186 : decode method_2_code 186 = .ok (.if_icmp .eq 9, 3) := by decide +kernel
theorem d2_189 : decode method_2_code 189 = .ok (.iload_n 0, 1) := by decide +kernel
theorem d2_190 : decode method_2_code 190 = .ok (.ldc 13, 2) := by decide +kernel
theorem d2_192 : decode method_2_code 192 = .ok (.if_icmp .ne 7, 3) := by decide +kernel
theorem d2_195 : decode method_2_code 195 = .ok (.iconst 1, 1) := by decide +kernel
theorem d2_196 : decode method_2_code 196 = .ok (.goto 4, 3) := by decide +kernel
theorem d2_199 : decode method_2_code 199 = .ok (.iconst 0, 1) := by decide +kernel
theorem d2_200 : decode method_2_code 200 = .ok (.istore_n 1, 1) := by decide +kernel
theorem d2_201 : decode method_2_code 201 = .ok (.iload_n 1, 1) := by decide +kernel
theorem d2_202 : decode method_2_code 202 = .ok (.ifCond .ne 7, 3) := by decide +kernel
theorem d2_205 : decode method_2_code 205 = .ok (.iconst 1, 1) := by decide +kernel
theorem d2_206 : decode method_2_code 206 = .ok (.goto 4, 3) := by decide +kernel
theorem d2_209 : decode method_2_code 209 = .ok (.iconst 0, 1) := by decide +kernel
theorem d2_210 : decode method_2_code 210 = .ok (.ireturn, 1) := by decide +kernel
theorem pn_2 : plainName "com/example/cuttlefish/cuttlefish/xml/XmlNamesIsNameStartPinLaw" = true := by first | (simp [plainName, overriddenIn]; done) | decide +kernel
theorem ef_2 (m : MethodId) (x0 : Int32) : entryFrame m #[(.int x0)] 2 = mkF m 0 #[.val (.int x0), .unset] [] := by first | (simp [entryFrame, mkF, argsToLocals, Value.category]; done) | rfl
def f2 (p0 : Int32) : Int32 :=
  if p0 < (0 : Int32) then ((0 : Int32)) else
  (if (983039 : Int32) < p0 then ((0 : Int32)) else
  (if p0 < (128 : Int32) then (if p0 < (65 : Int32) then (if p0 = (95 : Int32) then ((1 : Int32)) else
  (if p0 = (58 : Int32) then ((1 : Int32)) else
  ((0 : Int32)))) else
  (if (90 : Int32) < p0 then (if p0 < (97 : Int32) then (if p0 = (95 : Int32) then ((1 : Int32)) else
  (if p0 = (58 : Int32) then ((1 : Int32)) else
  ((0 : Int32)))) else
  (if (122 : Int32) < p0 then (if p0 = (95 : Int32) then ((1 : Int32)) else
  (if p0 = (58 : Int32) then ((1 : Int32)) else
  ((0 : Int32)))) else
  ((1 : Int32)))) else
  ((1 : Int32)))) else
  (if (191 : Int32) < p0 then (if p0 = (215 : Int32) then ((0 : Int32)) else
  (if p0 = (247 : Int32) then ((0 : Int32)) else
  (if p0 < (768 : Int32) then (if p0 = (894 : Int32) then ((0 : Int32)) else
  (if p0 = (65534 : Int32) then ((0 : Int32)) else
  (if p0 = (65535 : Int32) then ((0 : Int32)) else
  ((1 : Int32))))) else
  (if (879 : Int32) < p0 then (if p0 = (894 : Int32) then ((0 : Int32)) else
  (if p0 < (8192 : Int32) then (if p0 = (65534 : Int32) then ((0 : Int32)) else
  (if p0 = (65535 : Int32) then ((0 : Int32)) else
  ((1 : Int32)))) else
  (if (8203 : Int32) < p0 then (if p0 < (8206 : Int32) then (if p0 = (65534 : Int32) then ((0 : Int32)) else
  (if p0 = (65535 : Int32) then ((0 : Int32)) else
  ((1 : Int32)))) else
  (if (8303 : Int32) < p0 then (if p0 < (8592 : Int32) then (if p0 = (65534 : Int32) then ((0 : Int32)) else
  (if p0 = (65535 : Int32) then ((0 : Int32)) else
  ((1 : Int32)))) else
  (if (11263 : Int32) < p0 then (if p0 < (12272 : Int32) then (if p0 = (65534 : Int32) then ((0 : Int32)) else
  (if p0 = (65535 : Int32) then ((0 : Int32)) else
  ((1 : Int32)))) else
  (if (12288 : Int32) < p0 then (if p0 < (55296 : Int32) then (if p0 = (65534 : Int32) then ((0 : Int32)) else
  (if p0 = (65535 : Int32) then ((0 : Int32)) else
  ((1 : Int32)))) else
  (if (63743 : Int32) < p0 then (if p0 < (64976 : Int32) then (if p0 = (65534 : Int32) then ((0 : Int32)) else
  (if p0 = (65535 : Int32) then ((0 : Int32)) else
  ((1 : Int32)))) else
  (if (65007 : Int32) < p0 then (if p0 = (65534 : Int32) then ((0 : Int32)) else
  (if p0 = (65535 : Int32) then ((0 : Int32)) else
  ((1 : Int32)))) else
  ((0 : Int32)))) else
  ((0 : Int32)))) else
  ((0 : Int32)))) else
  ((0 : Int32)))) else
  ((0 : Int32)))) else
  ((0 : Int32))))) else
  ((0 : Int32)))))) else
  ((0 : Int32)))))
def Q2 (Z : State) (p0 : Int32) (h0 : Heap) (n0 : Nat) (v : Option Value) (h : Heap) (L : List Loc) : Prop := v = some (.int (f2 p0)) ∧ Fr n0 L ∧ h = h0
set_option maxRecDepth 65536 in
set_option maxHeartbeats 40000000 in
theorem rm2 (l : Launch) (Z : State) (a0 : Array Value) (hw : ∀ d ∈ tables_1, d.before a0 Z = true) (ws : List Jvm.Cond) (p0 : Int32) (h0 : Heap) (n0 : Nat) (Z0 : n0 ≤ h0.size) :
    MetFree l (⟨"com/example/cuttlefish/cuttlefish/xml/XmlNamesIsNameStartPinLaw", "ref", "(I)Z"⟩ : MethodName) (head1 (Jvm.Cond.code (⟨"com/example/cuttlefish/cuttlefish/xml/XmlNamesIsNameStartPinLaw", "ref", "(I)Z"⟩ : MethodName) method_2_code 2 (some .boolean) :: ws) ({ frames := 0, cells := 0, slots := 0, locals := 0 } : Room)) (fun a U => a = #[(.int p0)] ∧ Z.Warmed39 U.vm ∧ U.heap = h0) (fun _ _ _ _ _ => True) (fun _ U o U' => ∃ v L, o = .returned v ∧ Q2 Z p0 h0 n0 v U'.heap L ∧ FrameEnd U o U' L ({ frames := 0, cells := 0, slots := 0, locals := 0 } : Room).cells ({ frames := 0, cells := 0, slots := 0, locals := 0 } : Room).slots) := by
  refine MetFree.of_bodySF (plainFor_of_name pn_2) hisR ?_
  intro p e s m args below meth c s₁ Bd hml0 hP hK
  obtain ⟨rfl, hZ, hh⟩ := hP
  have hx := Bd.exec
  have hby := Bd.bytes
  have hml : c.maxLocals = 2 := hml0
  have hown : s.vm.findClass "com/example/cuttlefish/cuttlefish/xml/XmlNamesIsNameStartPinLaw" = some m.cls := findClass_of_methodNamed Bd.named
  have hnm := (name_of_methodNamed Bd.named Bd.method).1
  have X0 : Stand p l e ({ frames := 0, cells := 0, slots := 0, locals := 0 } : Room) s m #[(.int p0)] below meth c s₁ [] 0 0 := Stand.of_body Bd
  have e0 : s₁.heap = h0 := by rw [← hh, Bd.state]; rfl
  have N0 := Fr.nil n0
  have pre0 : ∀ t, Steps p.tables e below (s₁.setTop (mkF m 0 #[.val (.int p0), .unset] [])) t → Steps p.tables e below (s₁.setTop (entryFrame m #[(.int p0)] 2)) t := fun t k => castTop (ef_2 m p0) k
  have pre1 : ∀ t, Steps p.tables e below (s₁.setTop (mkF m 1 #[.val (.int p0), .unset] [(.int p0)])) t → Steps p.tables e below (s₁.setTop (entryFrame m #[(.int p0)] 2)) t := fun t kt => pre0 t (by
      show Steps p.tables e below (s₁.setTop (mkF m 0 #[.val (.int p0), .unset] [])) _
      refine XS.iloadN X0.here hx rfl (hb hby d2_0) rfl ?_
      exact kt)
  by_cases hc1_2 : p0 < (0 : Int32)
  · obtain ⟨fs, hr, hrun, hended, hW, hsame⟩ := X0.leave (v := some (.int (0 : Int32))) (fun h => by rw [Bd.returns] at h; cases h)
    have hv177 : (f2 p0) = (0 : Int32) := by rw [f2, if_pos hc1_2]
    refine ⟨_, _, pre1 _ ?_, hrun, hended, _, _, rfl, ?_, ⟨_, rfl⟩, hW, hsame.mono (by decide) (by decide)⟩
    · show Steps p.tables e below (s₁.setTop (mkF m 1 #[.val (.int p0), .unset] [(.int p0)])) _
      refine XS.ifYes X0.here hx rfl (pc0 := 1) (pc' := 10) rfl (hb hby d2_1) rfl ((if0 _ _).trans (tlt hc1_2).1) (by decide) (by decide) ?_
      show Steps p.tables e below (s₁.setTop (mkF m 10 #[.val (.int p0), .unset] [])) _
      refine XS.iconst X0.here hx rfl (hb hby d2_10) ?_
      show Steps p.tables e below (s₁.setTop (mkF m 11 #[.val (.int p0), .unset] [(.int (0 : Int32))])) _
      exact retN X0 hx (t := .boolean) Bd.returns (by simp) (hb hby d2_11) hr
    · show Q2 Z p0 h0 n0 _ s₁.heap _
      rw [e0]
      exact ⟨congrArg (fun q => some (Value.int q)) hv177.symm, N0, rfl⟩
  · have pre3 : ∀ t, Steps p.tables e below (s₁.setTop (mkF m 7 #[.val (.int p0), .unset] [(.int (983039 : Int32)), (.int p0)])) t → Steps p.tables e below (s₁.setTop (entryFrame m #[(.int p0)] 2)) t := fun t kt => pre1 t (by
        show Steps p.tables e below (s₁.setTop (mkF m 1 #[.val (.int p0), .unset] [(.int p0)])) _
        refine XS.ifNo X0.here hx rfl (hb hby d2_1) rfl ((if0 _ _).trans (flt hc1_2).1) ?_
        show Steps p.tables e below (s₁.setTop (mkF m 4 #[.val (.int p0), .unset] [])) _
        refine XS.iloadN X0.here hx rfl (hb hby d2_4) rfl ?_
        show Steps p.tables e below (s₁.setTop (mkF m 5 #[.val (.int p0), .unset] [(.int p0)])) _
        refine X0.ldcInt hx hown (mvT hZ (hw _ (List.mem_of_getElem? (i := 7) rfl))) (g := (mkF m 5 #[.val (.int p0), .unset] [(.int p0)])) rfl (hb hby d2_5) _ ?_
        exact kt)
    by_cases hc7_4 : (983039 : Int32) < p0
    · obtain ⟨fs, hr, hrun, hended, hW, hsame⟩ := X0.leave (v := some (.int (0 : Int32))) (fun h => by rw [Bd.returns] at h; cases h)
      have hv178 : (f2 p0) = (0 : Int32) := by rw [f2, if_neg hc1_2, if_pos hc7_4]
      refine ⟨_, _, pre3 _ ?_, hrun, hended, _, _, rfl, ?_, ⟨_, rfl⟩, hW, hsame.mono (by decide) (by decide)⟩
      · show Steps p.tables e below (s₁.setTop (mkF m 7 #[.val (.int p0), .unset] [(.int (983039 : Int32)), (.int p0)])) _
        refine XS.icmpNo X0.here hx rfl (hb hby d2_7) rfl (tlt hc7_4).2.2.2 ?_
        show Steps p.tables e below (s₁.setTop (mkF m 10 #[.val (.int p0), .unset] [])) _
        refine XS.iconst X0.here hx rfl (hb hby d2_10) ?_
        show Steps p.tables e below (s₁.setTop (mkF m 11 #[.val (.int p0), .unset] [(.int (0 : Int32))])) _
        exact retN X0 hx (t := .boolean) Bd.returns (by simp) (hb hby d2_11) hr
      · show Q2 Z p0 h0 n0 _ s₁.heap _
        rw [e0]
        exact ⟨congrArg (fun q => some (Value.int q)) hv178.symm, N0, rfl⟩
    · have pre5 : ∀ t, Steps p.tables e below (s₁.setTop (mkF m 16 #[.val (.int p0), .unset] [(.int (128 : Int32)), (.int p0)])) t → Steps p.tables e below (s₁.setTop (entryFrame m #[(.int p0)] 2)) t := fun t kt => pre3 t (by
          show Steps p.tables e below (s₁.setTop (mkF m 7 #[.val (.int p0), .unset] [(.int (983039 : Int32)), (.int p0)])) _
          refine XS.icmpYes X0.here hx rfl (pc0 := 7) (pc' := 12) rfl (hb hby d2_7) rfl (flt hc7_4).2.2.2 (by decide) (by decide) ?_
          show Steps p.tables e below (s₁.setTop (mkF m 12 #[.val (.int p0), .unset] [])) _
          refine XS.iloadN X0.here hx rfl (hb hby d2_12) rfl ?_
          show Steps p.tables e below (s₁.setTop (mkF m 13 #[.val (.int p0), .unset] [(.int p0)])) _
          refine XS.sipush X0.here hx rfl (hb hby d2_13) ?_
          exact kt)
      by_cases hc16_6 : p0 < (128 : Int32)
      · have pre7 : ∀ t, Steps p.tables e below (s₁.setTop (mkF m 22 #[.val (.int p0), .unset] [(.int (65 : Int32)), (.int p0)])) t → Steps p.tables e below (s₁.setTop (entryFrame m #[(.int p0)] 2)) t := fun t kt => pre5 t (by
            show Steps p.tables e below (s₁.setTop (mkF m 16 #[.val (.int p0), .unset] [(.int (128 : Int32)), (.int p0)])) _
            refine XS.icmpNo X0.here hx rfl (hb hby d2_16) rfl (tlt hc16_6).2.1 ?_
            show Steps p.tables e below (s₁.setTop (mkF m 19 #[.val (.int p0), .unset] [])) _
            refine XS.iloadN X0.here hx rfl (hb hby d2_19) rfl ?_
            show Steps p.tables e below (s₁.setTop (mkF m 20 #[.val (.int p0), .unset] [(.int p0)])) _
            refine XS.bipush X0.here hx rfl (hb hby d2_20) ?_
            exact kt)
        by_cases hc22_8 : p0 < (65 : Int32)
        · have pre9 : ∀ t, Steps p.tables e below (s₁.setTop (mkF m 34 #[.val (.int p0), .unset] [(.int (97 : Int32)), (.int p0)])) t → Steps p.tables e below (s₁.setTop (entryFrame m #[(.int p0)] 2)) t := fun t kt => pre7 t (by
              show Steps p.tables e below (s₁.setTop (mkF m 22 #[.val (.int p0), .unset] [(.int (65 : Int32)), (.int p0)])) _
              refine XS.icmpYes X0.here hx rfl (pc0 := 22) (pc' := 31) rfl (hb hby d2_22) rfl (tlt hc22_8).1 (by decide) (by decide) ?_
              show Steps p.tables e below (s₁.setTop (mkF m 31 #[.val (.int p0), .unset] [])) _
              refine XS.iloadN X0.here hx rfl (hb hby d2_31) rfl ?_
              show Steps p.tables e below (s₁.setTop (mkF m 32 #[.val (.int p0), .unset] [(.int p0)])) _
              refine XS.bipush X0.here hx rfl (hb hby d2_32) ?_
              exact kt)
          have hd34_10 : p0 < (97 : Int32) := Int32.lt_of_lt_of_le hc22_8 (by decide)
          have pre11 : ∀ t, Steps p.tables e below (s₁.setTop (mkF m 46 #[.val (.int p0), .unset] [(.int (95 : Int32)), (.int p0)])) t → Steps p.tables e below (s₁.setTop (entryFrame m #[(.int p0)] 2)) t := fun t kt => pre9 t (by
              show Steps p.tables e below (s₁.setTop (mkF m 34 #[.val (.int p0), .unset] [(.int (97 : Int32)), (.int p0)])) _
              refine XS.icmpYes X0.here hx rfl (pc0 := 34) (pc' := 43) rfl (hb hby d2_34) rfl (tlt hd34_10).1 (by decide) (by decide) ?_
              show Steps p.tables e below (s₁.setTop (mkF m 43 #[.val (.int p0), .unset] [])) _
              refine XS.iloadN X0.here hx rfl (hb hby d2_43) rfl ?_
              show Steps p.tables e below (s₁.setTop (mkF m 44 #[.val (.int p0), .unset] [(.int p0)])) _
              refine XS.bipush X0.here hx rfl (hb hby d2_44) ?_
              exact kt)
          by_cases hc46_12 : p0 = (95 : Int32)
          · obtain ⟨fs, hr, hrun, hended, hW, hsame⟩ := X0.leave (v := some (.int (1 : Int32))) (fun h => by rw [Bd.returns] at h; cases h)
            have hv179 : (f2 p0) = (1 : Int32) := by rw [f2, if_neg hc1_2, if_neg hc7_4, if_pos hc16_6, if_pos hc22_8, if_pos hc46_12]
            refine ⟨_, _, pre11 _ ?_, hrun, hended, _, _, rfl, ?_, ⟨_, rfl⟩, hW, hsame.mono (by decide) (by decide)⟩
            · show Steps p.tables e below (s₁.setTop (mkF m 46 #[.val (.int p0), .unset] [(.int (95 : Int32)), (.int p0)])) _
              refine XS.icmpYes X0.here hx rfl (pc0 := 46) (pc' := 55) rfl (hb hby d2_46) rfl (teq hc46_12).1 (by decide) (by decide) ?_
              show Steps p.tables e below (s₁.setTop (mkF m 55 #[.val (.int p0), .unset] [])) _
              refine XS.iconst X0.here hx rfl (hb hby d2_55) ?_
              show Steps p.tables e below (s₁.setTop (mkF m 56 #[.val (.int p0), .unset] [(.int (1 : Int32))])) _
              refine XS.goto X0.here hx rfl (pc0 := 56) (pc' := 60) rfl (hb hby d2_56) (by decide) (by decide) ?_
              show Steps p.tables e below (s₁.setTop (mkF m 60 #[.val (.int p0), .unset] [(.int (1 : Int32))])) _
              exact retN X0 hx (t := .boolean) Bd.returns (by simp) (hb hby d2_60) hr
            · show Q2 Z p0 h0 n0 _ s₁.heap _
              rw [e0]
              exact ⟨congrArg (fun q => some (Value.int q)) hv179.symm, N0, rfl⟩
          · have pre13 : ∀ t, Steps p.tables e below (s₁.setTop (mkF m 52 #[.val (.int p0), .unset] [(.int (58 : Int32)), (.int p0)])) t → Steps p.tables e below (s₁.setTop (entryFrame m #[(.int p0)] 2)) t := fun t kt => pre11 t (by
                show Steps p.tables e below (s₁.setTop (mkF m 46 #[.val (.int p0), .unset] [(.int (95 : Int32)), (.int p0)])) _
                refine XS.icmpNo X0.here hx rfl (hb hby d2_46) rfl (feq hc46_12).1 ?_
                show Steps p.tables e below (s₁.setTop (mkF m 49 #[.val (.int p0), .unset] [])) _
                refine XS.iloadN X0.here hx rfl (hb hby d2_49) rfl ?_
                show Steps p.tables e below (s₁.setTop (mkF m 50 #[.val (.int p0), .unset] [(.int p0)])) _
                refine XS.bipush X0.here hx rfl (hb hby d2_50) ?_
                exact kt)
            by_cases hc52_14 : p0 = (58 : Int32)
            · obtain ⟨fs, hr, hrun, hended, hW, hsame⟩ := X0.leave (v := some (.int (1 : Int32))) (fun h => by rw [Bd.returns] at h; cases h)
              have hv180 : (f2 p0) = (1 : Int32) := by rw [f2, if_neg hc1_2, if_neg hc7_4, if_pos hc16_6, if_pos hc22_8, if_neg hc46_12, if_pos hc52_14]
              refine ⟨_, _, pre13 _ ?_, hrun, hended, _, _, rfl, ?_, ⟨_, rfl⟩, hW, hsame.mono (by decide) (by decide)⟩
              · show Steps p.tables e below (s₁.setTop (mkF m 52 #[.val (.int p0), .unset] [(.int (58 : Int32)), (.int p0)])) _
                refine XS.icmpNo X0.here hx rfl (hb hby d2_52) rfl (teq hc52_14).2 ?_
                show Steps p.tables e below (s₁.setTop (mkF m 55 #[.val (.int p0), .unset] [])) _
                refine XS.iconst X0.here hx rfl (hb hby d2_55) ?_
                show Steps p.tables e below (s₁.setTop (mkF m 56 #[.val (.int p0), .unset] [(.int (1 : Int32))])) _
                refine XS.goto X0.here hx rfl (pc0 := 56) (pc' := 60) rfl (hb hby d2_56) (by decide) (by decide) ?_
                show Steps p.tables e below (s₁.setTop (mkF m 60 #[.val (.int p0), .unset] [(.int (1 : Int32))])) _
                exact retN X0 hx (t := .boolean) Bd.returns (by simp) (hb hby d2_60) hr
              · show Q2 Z p0 h0 n0 _ s₁.heap _
                rw [e0]
                exact ⟨congrArg (fun q => some (Value.int q)) hv180.symm, N0, rfl⟩
            · obtain ⟨fs, hr, hrun, hended, hW, hsame⟩ := X0.leave (v := some (.int (0 : Int32))) (fun h => by rw [Bd.returns] at h; cases h)
              have hv181 : (f2 p0) = (0 : Int32) := by rw [f2, if_neg hc1_2, if_neg hc7_4, if_pos hc16_6, if_pos hc22_8, if_neg hc46_12, if_neg hc52_14]
              refine ⟨_, _, pre13 _ ?_, hrun, hended, _, _, rfl, ?_, ⟨_, rfl⟩, hW, hsame.mono (by decide) (by decide)⟩
              · show Steps p.tables e below (s₁.setTop (mkF m 52 #[.val (.int p0), .unset] [(.int (58 : Int32)), (.int p0)])) _
                refine XS.icmpYes X0.here hx rfl (pc0 := 52) (pc' := 59) rfl (hb hby d2_52) rfl (feq hc52_14).2 (by decide) (by decide) ?_
                show Steps p.tables e below (s₁.setTop (mkF m 59 #[.val (.int p0), .unset] [])) _
                refine XS.iconst X0.here hx rfl (hb hby d2_59) ?_
                show Steps p.tables e below (s₁.setTop (mkF m 60 #[.val (.int p0), .unset] [(.int (0 : Int32))])) _
                exact retN X0 hx (t := .boolean) Bd.returns (by simp) (hb hby d2_60) hr
              · show Q2 Z p0 h0 n0 _ s₁.heap _
                rw [e0]
                exact ⟨congrArg (fun q => some (Value.int q)) hv181.symm, N0, rfl⟩
        · have pre15 : ∀ t, Steps p.tables e below (s₁.setTop (mkF m 28 #[.val (.int p0), .unset] [(.int (90 : Int32)), (.int p0)])) t → Steps p.tables e below (s₁.setTop (entryFrame m #[(.int p0)] 2)) t := fun t kt => pre7 t (by
              show Steps p.tables e below (s₁.setTop (mkF m 22 #[.val (.int p0), .unset] [(.int (65 : Int32)), (.int p0)])) _
              refine XS.icmpNo X0.here hx rfl (hb hby d2_22) rfl (flt hc22_8).1 ?_
              show Steps p.tables e below (s₁.setTop (mkF m 25 #[.val (.int p0), .unset] [])) _
              refine XS.iloadN X0.here hx rfl (hb hby d2_25) rfl ?_
              show Steps p.tables e below (s₁.setTop (mkF m 26 #[.val (.int p0), .unset] [(.int p0)])) _
              refine XS.bipush X0.here hx rfl (hb hby d2_26) ?_
              exact kt)
          by_cases hc28_16 : (90 : Int32) < p0
          · have pre17 : ∀ t, Steps p.tables e below (s₁.setTop (mkF m 34 #[.val (.int p0), .unset] [(.int (97 : Int32)), (.int p0)])) t → Steps p.tables e below (s₁.setTop (entryFrame m #[(.int p0)] 2)) t := fun t kt => pre15 t (by
                show Steps p.tables e below (s₁.setTop (mkF m 28 #[.val (.int p0), .unset] [(.int (90 : Int32)), (.int p0)])) _
                refine XS.icmpNo X0.here hx rfl (hb hby d2_28) rfl (tlt hc28_16).2.2.2 ?_
                show Steps p.tables e below (s₁.setTop (mkF m 31 #[.val (.int p0), .unset] [])) _
                refine XS.iloadN X0.here hx rfl (hb hby d2_31) rfl ?_
                show Steps p.tables e below (s₁.setTop (mkF m 32 #[.val (.int p0), .unset] [(.int p0)])) _
                refine XS.bipush X0.here hx rfl (hb hby d2_32) ?_
                exact kt)
            by_cases hc34_18 : p0 < (97 : Int32)
            · have pre19 : ∀ t, Steps p.tables e below (s₁.setTop (mkF m 46 #[.val (.int p0), .unset] [(.int (95 : Int32)), (.int p0)])) t → Steps p.tables e below (s₁.setTop (entryFrame m #[(.int p0)] 2)) t := fun t kt => pre17 t (by
                  show Steps p.tables e below (s₁.setTop (mkF m 34 #[.val (.int p0), .unset] [(.int (97 : Int32)), (.int p0)])) _
                  refine XS.icmpYes X0.here hx rfl (pc0 := 34) (pc' := 43) rfl (hb hby d2_34) rfl (tlt hc34_18).1 (by decide) (by decide) ?_
                  show Steps p.tables e below (s₁.setTop (mkF m 43 #[.val (.int p0), .unset] [])) _
                  refine XS.iloadN X0.here hx rfl (hb hby d2_43) rfl ?_
                  show Steps p.tables e below (s₁.setTop (mkF m 44 #[.val (.int p0), .unset] [(.int p0)])) _
                  refine XS.bipush X0.here hx rfl (hb hby d2_44) ?_
                  exact kt)
              by_cases hc46_20 : p0 = (95 : Int32)
              · obtain ⟨fs, hr, hrun, hended, hW, hsame⟩ := X0.leave (v := some (.int (1 : Int32))) (fun h => by rw [Bd.returns] at h; cases h)
                have hv182 : (f2 p0) = (1 : Int32) := by rw [f2, if_neg hc1_2, if_neg hc7_4, if_pos hc16_6, if_neg hc22_8, if_pos hc28_16, if_pos hc34_18, if_pos hc46_20]
                refine ⟨_, _, pre19 _ ?_, hrun, hended, _, _, rfl, ?_, ⟨_, rfl⟩, hW, hsame.mono (by decide) (by decide)⟩
                · show Steps p.tables e below (s₁.setTop (mkF m 46 #[.val (.int p0), .unset] [(.int (95 : Int32)), (.int p0)])) _
                  refine XS.icmpYes X0.here hx rfl (pc0 := 46) (pc' := 55) rfl (hb hby d2_46) rfl (teq hc46_20).1 (by decide) (by decide) ?_
                  show Steps p.tables e below (s₁.setTop (mkF m 55 #[.val (.int p0), .unset] [])) _
                  refine XS.iconst X0.here hx rfl (hb hby d2_55) ?_
                  show Steps p.tables e below (s₁.setTop (mkF m 56 #[.val (.int p0), .unset] [(.int (1 : Int32))])) _
                  refine XS.goto X0.here hx rfl (pc0 := 56) (pc' := 60) rfl (hb hby d2_56) (by decide) (by decide) ?_
                  show Steps p.tables e below (s₁.setTop (mkF m 60 #[.val (.int p0), .unset] [(.int (1 : Int32))])) _
                  exact retN X0 hx (t := .boolean) Bd.returns (by simp) (hb hby d2_60) hr
                · show Q2 Z p0 h0 n0 _ s₁.heap _
                  rw [e0]
                  exact ⟨congrArg (fun q => some (Value.int q)) hv182.symm, N0, rfl⟩
              · have pre21 : ∀ t, Steps p.tables e below (s₁.setTop (mkF m 52 #[.val (.int p0), .unset] [(.int (58 : Int32)), (.int p0)])) t → Steps p.tables e below (s₁.setTop (entryFrame m #[(.int p0)] 2)) t := fun t kt => pre19 t (by
                    show Steps p.tables e below (s₁.setTop (mkF m 46 #[.val (.int p0), .unset] [(.int (95 : Int32)), (.int p0)])) _
                    refine XS.icmpNo X0.here hx rfl (hb hby d2_46) rfl (feq hc46_20).1 ?_
                    show Steps p.tables e below (s₁.setTop (mkF m 49 #[.val (.int p0), .unset] [])) _
                    refine XS.iloadN X0.here hx rfl (hb hby d2_49) rfl ?_
                    show Steps p.tables e below (s₁.setTop (mkF m 50 #[.val (.int p0), .unset] [(.int p0)])) _
                    refine XS.bipush X0.here hx rfl (hb hby d2_50) ?_
                    exact kt)
                by_cases hc52_22 : p0 = (58 : Int32)
                · obtain ⟨fs, hr, hrun, hended, hW, hsame⟩ := X0.leave (v := some (.int (1 : Int32))) (fun h => by rw [Bd.returns] at h; cases h)
                  have hv183 : (f2 p0) = (1 : Int32) := by rw [f2, if_neg hc1_2, if_neg hc7_4, if_pos hc16_6, if_neg hc22_8, if_pos hc28_16, if_pos hc34_18, if_neg hc46_20, if_pos hc52_22]
                  refine ⟨_, _, pre21 _ ?_, hrun, hended, _, _, rfl, ?_, ⟨_, rfl⟩, hW, hsame.mono (by decide) (by decide)⟩
                  · show Steps p.tables e below (s₁.setTop (mkF m 52 #[.val (.int p0), .unset] [(.int (58 : Int32)), (.int p0)])) _
                    refine XS.icmpNo X0.here hx rfl (hb hby d2_52) rfl (teq hc52_22).2 ?_
                    show Steps p.tables e below (s₁.setTop (mkF m 55 #[.val (.int p0), .unset] [])) _
                    refine XS.iconst X0.here hx rfl (hb hby d2_55) ?_
                    show Steps p.tables e below (s₁.setTop (mkF m 56 #[.val (.int p0), .unset] [(.int (1 : Int32))])) _
                    refine XS.goto X0.here hx rfl (pc0 := 56) (pc' := 60) rfl (hb hby d2_56) (by decide) (by decide) ?_
                    show Steps p.tables e below (s₁.setTop (mkF m 60 #[.val (.int p0), .unset] [(.int (1 : Int32))])) _
                    exact retN X0 hx (t := .boolean) Bd.returns (by simp) (hb hby d2_60) hr
                  · show Q2 Z p0 h0 n0 _ s₁.heap _
                    rw [e0]
                    exact ⟨congrArg (fun q => some (Value.int q)) hv183.symm, N0, rfl⟩
                · obtain ⟨fs, hr, hrun, hended, hW, hsame⟩ := X0.leave (v := some (.int (0 : Int32))) (fun h => by rw [Bd.returns] at h; cases h)
                  have hv184 : (f2 p0) = (0 : Int32) := by rw [f2, if_neg hc1_2, if_neg hc7_4, if_pos hc16_6, if_neg hc22_8, if_pos hc28_16, if_pos hc34_18, if_neg hc46_20, if_neg hc52_22]
                  refine ⟨_, _, pre21 _ ?_, hrun, hended, _, _, rfl, ?_, ⟨_, rfl⟩, hW, hsame.mono (by decide) (by decide)⟩
                  · show Steps p.tables e below (s₁.setTop (mkF m 52 #[.val (.int p0), .unset] [(.int (58 : Int32)), (.int p0)])) _
                    refine XS.icmpYes X0.here hx rfl (pc0 := 52) (pc' := 59) rfl (hb hby d2_52) rfl (feq hc52_22).2 (by decide) (by decide) ?_
                    show Steps p.tables e below (s₁.setTop (mkF m 59 #[.val (.int p0), .unset] [])) _
                    refine XS.iconst X0.here hx rfl (hb hby d2_59) ?_
                    show Steps p.tables e below (s₁.setTop (mkF m 60 #[.val (.int p0), .unset] [(.int (0 : Int32))])) _
                    exact retN X0 hx (t := .boolean) Bd.returns (by simp) (hb hby d2_60) hr
                  · show Q2 Z p0 h0 n0 _ s₁.heap _
                    rw [e0]
                    exact ⟨congrArg (fun q => some (Value.int q)) hv184.symm, N0, rfl⟩
            · have pre23 : ∀ t, Steps p.tables e below (s₁.setTop (mkF m 40 #[.val (.int p0), .unset] [(.int (122 : Int32)), (.int p0)])) t → Steps p.tables e below (s₁.setTop (entryFrame m #[(.int p0)] 2)) t := fun t kt => pre17 t (by
                  show Steps p.tables e below (s₁.setTop (mkF m 34 #[.val (.int p0), .unset] [(.int (97 : Int32)), (.int p0)])) _
                  refine XS.icmpNo X0.here hx rfl (hb hby d2_34) rfl (flt hc34_18).1 ?_
                  show Steps p.tables e below (s₁.setTop (mkF m 37 #[.val (.int p0), .unset] [])) _
                  refine XS.iloadN X0.here hx rfl (hb hby d2_37) rfl ?_
                  show Steps p.tables e below (s₁.setTop (mkF m 38 #[.val (.int p0), .unset] [(.int p0)])) _
                  refine XS.bipush X0.here hx rfl (hb hby d2_38) ?_
                  exact kt)
              by_cases hc40_24 : (122 : Int32) < p0
              · have pre25 : ∀ t, Steps p.tables e below (s₁.setTop (mkF m 46 #[.val (.int p0), .unset] [(.int (95 : Int32)), (.int p0)])) t → Steps p.tables e below (s₁.setTop (entryFrame m #[(.int p0)] 2)) t := fun t kt => pre23 t (by
                    show Steps p.tables e below (s₁.setTop (mkF m 40 #[.val (.int p0), .unset] [(.int (122 : Int32)), (.int p0)])) _
                    refine XS.icmpNo X0.here hx rfl (hb hby d2_40) rfl (tlt hc40_24).2.2.2 ?_
                    show Steps p.tables e below (s₁.setTop (mkF m 43 #[.val (.int p0), .unset] [])) _
                    refine XS.iloadN X0.here hx rfl (hb hby d2_43) rfl ?_
                    show Steps p.tables e below (s₁.setTop (mkF m 44 #[.val (.int p0), .unset] [(.int p0)])) _
                    refine XS.bipush X0.here hx rfl (hb hby d2_44) ?_
                    exact kt)
                by_cases hc46_26 : p0 = (95 : Int32)
                · obtain ⟨fs, hr, hrun, hended, hW, hsame⟩ := X0.leave (v := some (.int (1 : Int32))) (fun h => by rw [Bd.returns] at h; cases h)
                  have hv185 : (f2 p0) = (1 : Int32) := by rw [f2, if_neg hc1_2, if_neg hc7_4, if_pos hc16_6, if_neg hc22_8, if_pos hc28_16, if_neg hc34_18, if_pos hc40_24, if_pos hc46_26]
                  refine ⟨_, _, pre25 _ ?_, hrun, hended, _, _, rfl, ?_, ⟨_, rfl⟩, hW, hsame.mono (by decide) (by decide)⟩
                  · show Steps p.tables e below (s₁.setTop (mkF m 46 #[.val (.int p0), .unset] [(.int (95 : Int32)), (.int p0)])) _
                    refine XS.icmpYes X0.here hx rfl (pc0 := 46) (pc' := 55) rfl (hb hby d2_46) rfl (teq hc46_26).1 (by decide) (by decide) ?_
                    show Steps p.tables e below (s₁.setTop (mkF m 55 #[.val (.int p0), .unset] [])) _
                    refine XS.iconst X0.here hx rfl (hb hby d2_55) ?_
                    show Steps p.tables e below (s₁.setTop (mkF m 56 #[.val (.int p0), .unset] [(.int (1 : Int32))])) _
                    refine XS.goto X0.here hx rfl (pc0 := 56) (pc' := 60) rfl (hb hby d2_56) (by decide) (by decide) ?_
                    show Steps p.tables e below (s₁.setTop (mkF m 60 #[.val (.int p0), .unset] [(.int (1 : Int32))])) _
                    exact retN X0 hx (t := .boolean) Bd.returns (by simp) (hb hby d2_60) hr
                  · show Q2 Z p0 h0 n0 _ s₁.heap _
                    rw [e0]
                    exact ⟨congrArg (fun q => some (Value.int q)) hv185.symm, N0, rfl⟩
                · have pre27 : ∀ t, Steps p.tables e below (s₁.setTop (mkF m 52 #[.val (.int p0), .unset] [(.int (58 : Int32)), (.int p0)])) t → Steps p.tables e below (s₁.setTop (entryFrame m #[(.int p0)] 2)) t := fun t kt => pre25 t (by
                      show Steps p.tables e below (s₁.setTop (mkF m 46 #[.val (.int p0), .unset] [(.int (95 : Int32)), (.int p0)])) _
                      refine XS.icmpNo X0.here hx rfl (hb hby d2_46) rfl (feq hc46_26).1 ?_
                      show Steps p.tables e below (s₁.setTop (mkF m 49 #[.val (.int p0), .unset] [])) _
                      refine XS.iloadN X0.here hx rfl (hb hby d2_49) rfl ?_
                      show Steps p.tables e below (s₁.setTop (mkF m 50 #[.val (.int p0), .unset] [(.int p0)])) _
                      refine XS.bipush X0.here hx rfl (hb hby d2_50) ?_
                      exact kt)
                  by_cases hc52_28 : p0 = (58 : Int32)
                  · obtain ⟨fs, hr, hrun, hended, hW, hsame⟩ := X0.leave (v := some (.int (1 : Int32))) (fun h => by rw [Bd.returns] at h; cases h)
                    have hv186 : (f2 p0) = (1 : Int32) := by rw [f2, if_neg hc1_2, if_neg hc7_4, if_pos hc16_6, if_neg hc22_8, if_pos hc28_16, if_neg hc34_18, if_pos hc40_24, if_neg hc46_26, if_pos hc52_28]
                    refine ⟨_, _, pre27 _ ?_, hrun, hended, _, _, rfl, ?_, ⟨_, rfl⟩, hW, hsame.mono (by decide) (by decide)⟩
                    · show Steps p.tables e below (s₁.setTop (mkF m 52 #[.val (.int p0), .unset] [(.int (58 : Int32)), (.int p0)])) _
                      refine XS.icmpNo X0.here hx rfl (hb hby d2_52) rfl (teq hc52_28).2 ?_
                      show Steps p.tables e below (s₁.setTop (mkF m 55 #[.val (.int p0), .unset] [])) _
                      refine XS.iconst X0.here hx rfl (hb hby d2_55) ?_
                      show Steps p.tables e below (s₁.setTop (mkF m 56 #[.val (.int p0), .unset] [(.int (1 : Int32))])) _
                      refine XS.goto X0.here hx rfl (pc0 := 56) (pc' := 60) rfl (hb hby d2_56) (by decide) (by decide) ?_
                      show Steps p.tables e below (s₁.setTop (mkF m 60 #[.val (.int p0), .unset] [(.int (1 : Int32))])) _
                      exact retN X0 hx (t := .boolean) Bd.returns (by simp) (hb hby d2_60) hr
                    · show Q2 Z p0 h0 n0 _ s₁.heap _
                      rw [e0]
                      exact ⟨congrArg (fun q => some (Value.int q)) hv186.symm, N0, rfl⟩
                  · obtain ⟨fs, hr, hrun, hended, hW, hsame⟩ := X0.leave (v := some (.int (0 : Int32))) (fun h => by rw [Bd.returns] at h; cases h)
                    have hv187 : (f2 p0) = (0 : Int32) := by rw [f2, if_neg hc1_2, if_neg hc7_4, if_pos hc16_6, if_neg hc22_8, if_pos hc28_16, if_neg hc34_18, if_pos hc40_24, if_neg hc46_26, if_neg hc52_28]
                    refine ⟨_, _, pre27 _ ?_, hrun, hended, _, _, rfl, ?_, ⟨_, rfl⟩, hW, hsame.mono (by decide) (by decide)⟩
                    · show Steps p.tables e below (s₁.setTop (mkF m 52 #[.val (.int p0), .unset] [(.int (58 : Int32)), (.int p0)])) _
                      refine XS.icmpYes X0.here hx rfl (pc0 := 52) (pc' := 59) rfl (hb hby d2_52) rfl (feq hc52_28).2 (by decide) (by decide) ?_
                      show Steps p.tables e below (s₁.setTop (mkF m 59 #[.val (.int p0), .unset] [])) _
                      refine XS.iconst X0.here hx rfl (hb hby d2_59) ?_
                      show Steps p.tables e below (s₁.setTop (mkF m 60 #[.val (.int p0), .unset] [(.int (0 : Int32))])) _
                      exact retN X0 hx (t := .boolean) Bd.returns (by simp) (hb hby d2_60) hr
                    · show Q2 Z p0 h0 n0 _ s₁.heap _
                      rw [e0]
                      exact ⟨congrArg (fun q => some (Value.int q)) hv187.symm, N0, rfl⟩
              · obtain ⟨fs, hr, hrun, hended, hW, hsame⟩ := X0.leave (v := some (.int (1 : Int32))) (fun h => by rw [Bd.returns] at h; cases h)
                have hv188 : (f2 p0) = (1 : Int32) := by rw [f2, if_neg hc1_2, if_neg hc7_4, if_pos hc16_6, if_neg hc22_8, if_pos hc28_16, if_neg hc34_18, if_neg hc40_24]
                refine ⟨_, _, pre23 _ ?_, hrun, hended, _, _, rfl, ?_, ⟨_, rfl⟩, hW, hsame.mono (by decide) (by decide)⟩
                · show Steps p.tables e below (s₁.setTop (mkF m 40 #[.val (.int p0), .unset] [(.int (122 : Int32)), (.int p0)])) _
                  refine XS.icmpYes X0.here hx rfl (pc0 := 40) (pc' := 55) rfl (hb hby d2_40) rfl (flt hc40_24).2.2.2 (by decide) (by decide) ?_
                  show Steps p.tables e below (s₁.setTop (mkF m 55 #[.val (.int p0), .unset] [])) _
                  refine XS.iconst X0.here hx rfl (hb hby d2_55) ?_
                  show Steps p.tables e below (s₁.setTop (mkF m 56 #[.val (.int p0), .unset] [(.int (1 : Int32))])) _
                  refine XS.goto X0.here hx rfl (pc0 := 56) (pc' := 60) rfl (hb hby d2_56) (by decide) (by decide) ?_
                  show Steps p.tables e below (s₁.setTop (mkF m 60 #[.val (.int p0), .unset] [(.int (1 : Int32))])) _
                  exact retN X0 hx (t := .boolean) Bd.returns (by simp) (hb hby d2_60) hr
                · show Q2 Z p0 h0 n0 _ s₁.heap _
                  rw [e0]
                  exact ⟨congrArg (fun q => some (Value.int q)) hv188.symm, N0, rfl⟩
          · obtain ⟨fs, hr, hrun, hended, hW, hsame⟩ := X0.leave (v := some (.int (1 : Int32))) (fun h => by rw [Bd.returns] at h; cases h)
            have hv189 : (f2 p0) = (1 : Int32) := by rw [f2, if_neg hc1_2, if_neg hc7_4, if_pos hc16_6, if_neg hc22_8, if_neg hc28_16]
            refine ⟨_, _, pre15 _ ?_, hrun, hended, _, _, rfl, ?_, ⟨_, rfl⟩, hW, hsame.mono (by decide) (by decide)⟩
            · show Steps p.tables e below (s₁.setTop (mkF m 28 #[.val (.int p0), .unset] [(.int (90 : Int32)), (.int p0)])) _
              refine XS.icmpYes X0.here hx rfl (pc0 := 28) (pc' := 55) rfl (hb hby d2_28) rfl (flt hc28_16).2.2.2 (by decide) (by decide) ?_
              show Steps p.tables e below (s₁.setTop (mkF m 55 #[.val (.int p0), .unset] [])) _
              refine XS.iconst X0.here hx rfl (hb hby d2_55) ?_
              show Steps p.tables e below (s₁.setTop (mkF m 56 #[.val (.int p0), .unset] [(.int (1 : Int32))])) _
              refine XS.goto X0.here hx rfl (pc0 := 56) (pc' := 60) rfl (hb hby d2_56) (by decide) (by decide) ?_
              show Steps p.tables e below (s₁.setTop (mkF m 60 #[.val (.int p0), .unset] [(.int (1 : Int32))])) _
              exact retN X0 hx (t := .boolean) Bd.returns (by simp) (hb hby d2_60) hr
            · show Q2 Z p0 h0 n0 _ s₁.heap _
              rw [e0]
              exact ⟨congrArg (fun q => some (Value.int q)) hv189.symm, N0, rfl⟩
      · have pre29 : ∀ t, Steps p.tables e below (s₁.setTop (mkF m 65 #[.val (.int p0), .unset] [(.int (191 : Int32)), (.int p0)])) t → Steps p.tables e below (s₁.setTop (entryFrame m #[(.int p0)] 2)) t := fun t kt => pre5 t (by
            show Steps p.tables e below (s₁.setTop (mkF m 16 #[.val (.int p0), .unset] [(.int (128 : Int32)), (.int p0)])) _
            refine XS.icmpYes X0.here hx rfl (pc0 := 16) (pc' := 61) rfl (hb hby d2_16) rfl (flt hc16_6).2.1 (by decide) (by decide) ?_
            show Steps p.tables e below (s₁.setTop (mkF m 61 #[.val (.int p0), .unset] [])) _
            refine XS.iloadN X0.here hx rfl (hb hby d2_61) rfl ?_
            show Steps p.tables e below (s₁.setTop (mkF m 62 #[.val (.int p0), .unset] [(.int p0)])) _
            refine XS.sipush X0.here hx rfl (hb hby d2_62) ?_
            exact kt)
        by_cases hc65_30 : (191 : Int32) < p0
        · have pre31 : ∀ t, Steps p.tables e below (s₁.setTop (mkF m 72 #[.val (.int p0), .unset] [(.int (215 : Int32)), (.int p0)])) t → Steps p.tables e below (s₁.setTop (entryFrame m #[(.int p0)] 2)) t := fun t kt => pre29 t (by
              show Steps p.tables e below (s₁.setTop (mkF m 65 #[.val (.int p0), .unset] [(.int (191 : Int32)), (.int p0)])) _
              refine XS.icmpNo X0.here hx rfl (hb hby d2_65) rfl (tlt hc65_30).2.2.2 ?_
              show Steps p.tables e below (s₁.setTop (mkF m 68 #[.val (.int p0), .unset] [])) _
              refine XS.iloadN X0.here hx rfl (hb hby d2_68) rfl ?_
              show Steps p.tables e below (s₁.setTop (mkF m 69 #[.val (.int p0), .unset] [(.int p0)])) _
              refine XS.sipush X0.here hx rfl (hb hby d2_69) ?_
              exact kt)
          by_cases hc72_32 : p0 = (215 : Int32)
          · have pre33 : ∀ t, Steps p.tables e below (s₁.setTop (mkF m 202 #[.val (.int p0), .val (.int (1 : Int32))] [(.int (1 : Int32))])) t → Steps p.tables e below (s₁.setTop (entryFrame m #[(.int p0)] 2)) t := fun t kt => pre31 t (by
                show Steps p.tables e below (s₁.setTop (mkF m 72 #[.val (.int p0), .unset] [(.int (215 : Int32)), (.int p0)])) _
                refine XS.icmpYes X0.here hx rfl (pc0 := 72) (pc' := 195) rfl (hb hby d2_72) rfl (teq hc72_32).1 (by decide) (by decide) ?_
                show Steps p.tables e below (s₁.setTop (mkF m 195 #[.val (.int p0), .unset] [])) _
                refine XS.iconst X0.here hx rfl (hb hby d2_195) ?_
                show Steps p.tables e below (s₁.setTop (mkF m 196 #[.val (.int p0), .unset] [(.int (1 : Int32))])) _
                refine XS.goto X0.here hx rfl (pc0 := 196) (pc' := 200) rfl (hb hby d2_196) (by decide) (by decide) ?_
                show Steps p.tables e below (s₁.setTop (mkF m 200 #[.val (.int p0), .unset] [(.int (1 : Int32))])) _
                refine XS.istoreN X0.here hx rfl (hb hby d2_200) rfl (l' := #[.val (.int p0), .val (.int (1 : Int32))]) rfl ?_
                show Steps p.tables e below (s₁.setTop (mkF m 201 #[.val (.int p0), .val (.int (1 : Int32))] [])) _
                refine XS.iloadN X0.here hx rfl (hb hby d2_201) rfl ?_
                exact kt)
            obtain ⟨fs, hr, hrun, hended, hW, hsame⟩ := X0.leave (v := some (.int (0 : Int32))) (fun h => by rw [Bd.returns] at h; cases h)
            have hv190 : (f2 p0) = (0 : Int32) := by rw [f2, if_neg hc1_2, if_neg hc7_4, if_neg hc16_6, if_pos hc65_30, if_pos hc72_32]
            refine ⟨_, _, pre33 _ ?_, hrun, hended, _, _, rfl, ?_, ⟨_, rfl⟩, hW, hsame.mono (by decide) (by decide)⟩
            · show Steps p.tables e below (s₁.setTop (mkF m 202 #[.val (.int p0), .val (.int (1 : Int32))] [(.int (1 : Int32))])) _
              refine XS.ifYes X0.here hx rfl (pc0 := 202) (pc' := 209) rfl (hb hby d2_202) rfl ((if0 _ _).trans (feq (by decide : ¬ ((1 : Int32) = (0 : Int32)))).2) (by decide) (by decide) ?_
              show Steps p.tables e below (s₁.setTop (mkF m 209 #[.val (.int p0), .val (.int (1 : Int32))] [])) _
              refine XS.iconst X0.here hx rfl (hb hby d2_209) ?_
              show Steps p.tables e below (s₁.setTop (mkF m 210 #[.val (.int p0), .val (.int (1 : Int32))] [(.int (0 : Int32))])) _
              exact retN X0 hx (t := .boolean) Bd.returns (by simp) (hb hby d2_210) hr
            · show Q2 Z p0 h0 n0 _ s₁.heap _
              rw [e0]
              exact ⟨congrArg (fun q => some (Value.int q)) hv190.symm, N0, rfl⟩
          · have pre34 : ∀ t, Steps p.tables e below (s₁.setTop (mkF m 79 #[.val (.int p0), .unset] [(.int (247 : Int32)), (.int p0)])) t → Steps p.tables e below (s₁.setTop (entryFrame m #[(.int p0)] 2)) t := fun t kt => pre31 t (by
                show Steps p.tables e below (s₁.setTop (mkF m 72 #[.val (.int p0), .unset] [(.int (215 : Int32)), (.int p0)])) _
                refine XS.icmpNo X0.here hx rfl (hb hby d2_72) rfl (feq hc72_32).1 ?_
                show Steps p.tables e below (s₁.setTop (mkF m 75 #[.val (.int p0), .unset] [])) _
                refine XS.iloadN X0.here hx rfl (hb hby d2_75) rfl ?_
                show Steps p.tables e below (s₁.setTop (mkF m 76 #[.val (.int p0), .unset] [(.int p0)])) _
                refine XS.sipush X0.here hx rfl (hb hby d2_76) ?_
                exact kt)
            by_cases hc79_35 : p0 = (247 : Int32)
            · have pre36 : ∀ t, Steps p.tables e below (s₁.setTop (mkF m 202 #[.val (.int p0), .val (.int (1 : Int32))] [(.int (1 : Int32))])) t → Steps p.tables e below (s₁.setTop (entryFrame m #[(.int p0)] 2)) t := fun t kt => pre34 t (by
                  show Steps p.tables e below (s₁.setTop (mkF m 79 #[.val (.int p0), .unset] [(.int (247 : Int32)), (.int p0)])) _
                  refine XS.icmpYes X0.here hx rfl (pc0 := 79) (pc' := 195) rfl (hb hby d2_79) rfl (teq hc79_35).1 (by decide) (by decide) ?_
                  show Steps p.tables e below (s₁.setTop (mkF m 195 #[.val (.int p0), .unset] [])) _
                  refine XS.iconst X0.here hx rfl (hb hby d2_195) ?_
                  show Steps p.tables e below (s₁.setTop (mkF m 196 #[.val (.int p0), .unset] [(.int (1 : Int32))])) _
                  refine XS.goto X0.here hx rfl (pc0 := 196) (pc' := 200) rfl (hb hby d2_196) (by decide) (by decide) ?_
                  show Steps p.tables e below (s₁.setTop (mkF m 200 #[.val (.int p0), .unset] [(.int (1 : Int32))])) _
                  refine XS.istoreN X0.here hx rfl (hb hby d2_200) rfl (l' := #[.val (.int p0), .val (.int (1 : Int32))]) rfl ?_
                  show Steps p.tables e below (s₁.setTop (mkF m 201 #[.val (.int p0), .val (.int (1 : Int32))] [])) _
                  refine XS.iloadN X0.here hx rfl (hb hby d2_201) rfl ?_
                  exact kt)
              obtain ⟨fs, hr, hrun, hended, hW, hsame⟩ := X0.leave (v := some (.int (0 : Int32))) (fun h => by rw [Bd.returns] at h; cases h)
              have hv191 : (f2 p0) = (0 : Int32) := by rw [f2, if_neg hc1_2, if_neg hc7_4, if_neg hc16_6, if_pos hc65_30, if_neg hc72_32, if_pos hc79_35]
              refine ⟨_, _, pre36 _ ?_, hrun, hended, _, _, rfl, ?_, ⟨_, rfl⟩, hW, hsame.mono (by decide) (by decide)⟩
              · show Steps p.tables e below (s₁.setTop (mkF m 202 #[.val (.int p0), .val (.int (1 : Int32))] [(.int (1 : Int32))])) _
                refine XS.ifYes X0.here hx rfl (pc0 := 202) (pc' := 209) rfl (hb hby d2_202) rfl ((if0 _ _).trans (feq (by decide : ¬ ((1 : Int32) = (0 : Int32)))).2) (by decide) (by decide) ?_
                show Steps p.tables e below (s₁.setTop (mkF m 209 #[.val (.int p0), .val (.int (1 : Int32))] [])) _
                refine XS.iconst X0.here hx rfl (hb hby d2_209) ?_
                show Steps p.tables e below (s₁.setTop (mkF m 210 #[.val (.int p0), .val (.int (1 : Int32))] [(.int (0 : Int32))])) _
                exact retN X0 hx (t := .boolean) Bd.returns (by simp) (hb hby d2_210) hr
              · show Q2 Z p0 h0 n0 _ s₁.heap _
                rw [e0]
                exact ⟨congrArg (fun q => some (Value.int q)) hv191.symm, N0, rfl⟩
            · have pre37 : ∀ t, Steps p.tables e below (s₁.setTop (mkF m 86 #[.val (.int p0), .unset] [(.int (768 : Int32)), (.int p0)])) t → Steps p.tables e below (s₁.setTop (entryFrame m #[(.int p0)] 2)) t := fun t kt => pre34 t (by
                  show Steps p.tables e below (s₁.setTop (mkF m 79 #[.val (.int p0), .unset] [(.int (247 : Int32)), (.int p0)])) _
                  refine XS.icmpNo X0.here hx rfl (hb hby d2_79) rfl (feq hc79_35).1 ?_
                  show Steps p.tables e below (s₁.setTop (mkF m 82 #[.val (.int p0), .unset] [])) _
                  refine XS.iloadN X0.here hx rfl (hb hby d2_82) rfl ?_
                  show Steps p.tables e below (s₁.setTop (mkF m 83 #[.val (.int p0), .unset] [(.int p0)])) _
                  refine XS.sipush X0.here hx rfl (hb hby d2_83) ?_
                  exact kt)
              by_cases hc86_38 : p0 < (768 : Int32)
              · have pre39 : ∀ t, Steps p.tables e below (s₁.setTop (mkF m 100 #[.val (.int p0), .unset] [(.int (894 : Int32)), (.int p0)])) t → Steps p.tables e below (s₁.setTop (entryFrame m #[(.int p0)] 2)) t := fun t kt => pre37 t (by
                    show Steps p.tables e below (s₁.setTop (mkF m 86 #[.val (.int p0), .unset] [(.int (768 : Int32)), (.int p0)])) _
                    refine XS.icmpYes X0.here hx rfl (pc0 := 86) (pc' := 96) rfl (hb hby d2_86) rfl (tlt hc86_38).1 (by decide) (by decide) ?_
                    show Steps p.tables e below (s₁.setTop (mkF m 96 #[.val (.int p0), .unset] [])) _
                    refine XS.iloadN X0.here hx rfl (hb hby d2_96) rfl ?_
                    show Steps p.tables e below (s₁.setTop (mkF m 97 #[.val (.int p0), .unset] [(.int p0)])) _
                    refine XS.sipush X0.here hx rfl (hb hby d2_97) ?_
                    exact kt)
                by_cases hc100_40 : p0 = (894 : Int32)
                · have pre41 : ∀ t, Steps p.tables e below (s₁.setTop (mkF m 202 #[.val (.int p0), .val (.int (1 : Int32))] [(.int (1 : Int32))])) t → Steps p.tables e below (s₁.setTop (entryFrame m #[(.int p0)] 2)) t := fun t kt => pre39 t (by
                      show Steps p.tables e below (s₁.setTop (mkF m 100 #[.val (.int p0), .unset] [(.int (894 : Int32)), (.int p0)])) _
                      refine XS.icmpYes X0.here hx rfl (pc0 := 100) (pc' := 195) rfl (hb hby d2_100) rfl (teq hc100_40).1 (by decide) (by decide) ?_
                      show Steps p.tables e below (s₁.setTop (mkF m 195 #[.val (.int p0), .unset] [])) _
                      refine XS.iconst X0.here hx rfl (hb hby d2_195) ?_
                      show Steps p.tables e below (s₁.setTop (mkF m 196 #[.val (.int p0), .unset] [(.int (1 : Int32))])) _
                      refine XS.goto X0.here hx rfl (pc0 := 196) (pc' := 200) rfl (hb hby d2_196) (by decide) (by decide) ?_
                      show Steps p.tables e below (s₁.setTop (mkF m 200 #[.val (.int p0), .unset] [(.int (1 : Int32))])) _
                      refine XS.istoreN X0.here hx rfl (hb hby d2_200) rfl (l' := #[.val (.int p0), .val (.int (1 : Int32))]) rfl ?_
                      show Steps p.tables e below (s₁.setTop (mkF m 201 #[.val (.int p0), .val (.int (1 : Int32))] [])) _
                      refine XS.iloadN X0.here hx rfl (hb hby d2_201) rfl ?_
                      exact kt)
                  obtain ⟨fs, hr, hrun, hended, hW, hsame⟩ := X0.leave (v := some (.int (0 : Int32))) (fun h => by rw [Bd.returns] at h; cases h)
                  have hv192 : (f2 p0) = (0 : Int32) := by rw [f2, if_neg hc1_2, if_neg hc7_4, if_neg hc16_6, if_pos hc65_30, if_neg hc72_32, if_neg hc79_35, if_pos hc86_38, if_pos hc100_40]
                  refine ⟨_, _, pre41 _ ?_, hrun, hended, _, _, rfl, ?_, ⟨_, rfl⟩, hW, hsame.mono (by decide) (by decide)⟩
                  · show Steps p.tables e below (s₁.setTop (mkF m 202 #[.val (.int p0), .val (.int (1 : Int32))] [(.int (1 : Int32))])) _
                    refine XS.ifYes X0.here hx rfl (pc0 := 202) (pc' := 209) rfl (hb hby d2_202) rfl ((if0 _ _).trans (feq (by decide : ¬ ((1 : Int32) = (0 : Int32)))).2) (by decide) (by decide) ?_
                    show Steps p.tables e below (s₁.setTop (mkF m 209 #[.val (.int p0), .val (.int (1 : Int32))] [])) _
                    refine XS.iconst X0.here hx rfl (hb hby d2_209) ?_
                    show Steps p.tables e below (s₁.setTop (mkF m 210 #[.val (.int p0), .val (.int (1 : Int32))] [(.int (0 : Int32))])) _
                    exact retN X0 hx (t := .boolean) Bd.returns (by simp) (hb hby d2_210) hr
                  · show Q2 Z p0 h0 n0 _ s₁.heap _
                    rw [e0]
                    exact ⟨congrArg (fun q => some (Value.int q)) hv192.symm, N0, rfl⟩
                · have pre42 : ∀ t, Steps p.tables e below (s₁.setTop (mkF m 107 #[.val (.int p0), .unset] [(.int (8192 : Int32)), (.int p0)])) t → Steps p.tables e below (s₁.setTop (entryFrame m #[(.int p0)] 2)) t := fun t kt => pre39 t (by
                      show Steps p.tables e below (s₁.setTop (mkF m 100 #[.val (.int p0), .unset] [(.int (894 : Int32)), (.int p0)])) _
                      refine XS.icmpNo X0.here hx rfl (hb hby d2_100) rfl (feq hc100_40).1 ?_
                      show Steps p.tables e below (s₁.setTop (mkF m 103 #[.val (.int p0), .unset] [])) _
                      refine XS.iloadN X0.here hx rfl (hb hby d2_103) rfl ?_
                      show Steps p.tables e below (s₁.setTop (mkF m 104 #[.val (.int p0), .unset] [(.int p0)])) _
                      refine XS.sipush X0.here hx rfl (hb hby d2_104) ?_
                      exact kt)
                  have hd107_43 : p0 < (8192 : Int32) := Int32.lt_of_lt_of_le hc86_38 (by decide)
                  have pre44 : ∀ t, Steps p.tables e below (s₁.setTop (mkF m 121 #[.val (.int p0), .unset] [(.int (8206 : Int32)), (.int p0)])) t → Steps p.tables e below (s₁.setTop (entryFrame m #[(.int p0)] 2)) t := fun t kt => pre42 t (by
                      show Steps p.tables e below (s₁.setTop (mkF m 107 #[.val (.int p0), .unset] [(.int (8192 : Int32)), (.int p0)])) _
                      refine XS.icmpYes X0.here hx rfl (pc0 := 107) (pc' := 117) rfl (hb hby d2_107) rfl (tlt hd107_43).1 (by decide) (by decide) ?_
                      show Steps p.tables e below (s₁.setTop (mkF m 117 #[.val (.int p0), .unset] [])) _
                      refine XS.iloadN X0.here hx rfl (hb hby d2_117) rfl ?_
                      show Steps p.tables e below (s₁.setTop (mkF m 118 #[.val (.int p0), .unset] [(.int p0)])) _
                      refine XS.sipush X0.here hx rfl (hb hby d2_118) ?_
                      exact kt)
                  have hd121_45 : p0 < (8206 : Int32) := Int32.lt_of_lt_of_le hc86_38 (by decide)
                  have pre46 : ∀ t, Steps p.tables e below (s₁.setTop (mkF m 135 #[.val (.int p0), .unset] [(.int (8592 : Int32)), (.int p0)])) t → Steps p.tables e below (s₁.setTop (entryFrame m #[(.int p0)] 2)) t := fun t kt => pre44 t (by
                      show Steps p.tables e below (s₁.setTop (mkF m 121 #[.val (.int p0), .unset] [(.int (8206 : Int32)), (.int p0)])) _
                      refine XS.icmpYes X0.here hx rfl (pc0 := 121) (pc' := 131) rfl (hb hby d2_121) rfl (tlt hd121_45).1 (by decide) (by decide) ?_
                      show Steps p.tables e below (s₁.setTop (mkF m 131 #[.val (.int p0), .unset] [])) _
                      refine XS.iloadN X0.here hx rfl (hb hby d2_131) rfl ?_
                      show Steps p.tables e below (s₁.setTop (mkF m 132 #[.val (.int p0), .unset] [(.int p0)])) _
                      refine XS.sipush X0.here hx rfl (hb hby d2_132) ?_
                      exact kt)
                  have hd135_47 : p0 < (8592 : Int32) := Int32.lt_of_lt_of_le hc86_38 (by decide)
                  have pre48 : ∀ t, Steps p.tables e below (s₁.setTop (mkF m 149 #[.val (.int p0), .unset] [(.int (12272 : Int32)), (.int p0)])) t → Steps p.tables e below (s₁.setTop (entryFrame m #[(.int p0)] 2)) t := fun t kt => pre46 t (by
                      show Steps p.tables e below (s₁.setTop (mkF m 135 #[.val (.int p0), .unset] [(.int (8592 : Int32)), (.int p0)])) _
                      refine XS.icmpYes X0.here hx rfl (pc0 := 135) (pc' := 145) rfl (hb hby d2_135) rfl (tlt hd135_47).1 (by decide) (by decide) ?_
                      show Steps p.tables e below (s₁.setTop (mkF m 145 #[.val (.int p0), .unset] [])) _
                      refine XS.iloadN X0.here hx rfl (hb hby d2_145) rfl ?_
                      show Steps p.tables e below (s₁.setTop (mkF m 146 #[.val (.int p0), .unset] [(.int p0)])) _
                      refine XS.sipush X0.here hx rfl (hb hby d2_146) ?_
                      exact kt)
                  have hd149_49 : p0 < (12272 : Int32) := Int32.lt_of_lt_of_le hc86_38 (by decide)
                  have pre50 : ∀ t, Steps p.tables e below (s₁.setTop (mkF m 162 #[.val (.int p0), .unset] [(.int (55296 : Int32)), (.int p0)])) t → Steps p.tables e below (s₁.setTop (entryFrame m #[(.int p0)] 2)) t := fun t kt => pre48 t (by
                      show Steps p.tables e below (s₁.setTop (mkF m 149 #[.val (.int p0), .unset] [(.int (12272 : Int32)), (.int p0)])) _
                      refine XS.icmpYes X0.here hx rfl (pc0 := 149) (pc' := 159) rfl (hb hby d2_149) rfl (tlt hd149_49).1 (by decide) (by decide) ?_
                      show Steps p.tables e below (s₁.setTop (mkF m 159 #[.val (.int p0), .unset] [])) _
                      refine XS.iloadN X0.here hx rfl (hb hby d2_159) rfl ?_
                      show Steps p.tables e below (s₁.setTop (mkF m 160 #[.val (.int p0), .unset] [(.int p0)])) _
                      refine X0.ldcInt hx hown (mvT hZ (hw _ (List.mem_of_getElem? (i := 21) rfl))) (g := (mkF m 160 #[.val (.int p0), .unset] [(.int p0)])) rfl (hb hby d2_160) _ ?_
                      exact kt)
                  have hd162_51 : p0 < (55296 : Int32) := Int32.lt_of_lt_of_le hc86_38 (by decide)
                  have pre52 : ∀ t, Steps p.tables e below (s₁.setTop (mkF m 174 #[.val (.int p0), .unset] [(.int (64976 : Int32)), (.int p0)])) t → Steps p.tables e below (s₁.setTop (entryFrame m #[(.int p0)] 2)) t := fun t kt => pre50 t (by
                      show Steps p.tables e below (s₁.setTop (mkF m 162 #[.val (.int p0), .unset] [(.int (55296 : Int32)), (.int p0)])) _
                      refine XS.icmpYes X0.here hx rfl (pc0 := 162) (pc' := 171) rfl (hb hby d2_162) rfl (tlt hd162_51).1 (by decide) (by decide) ?_
                      show Steps p.tables e below (s₁.setTop (mkF m 171 #[.val (.int p0), .unset] [])) _
                      refine XS.iloadN X0.here hx rfl (hb hby d2_171) rfl ?_
                      show Steps p.tables e below (s₁.setTop (mkF m 172 #[.val (.int p0), .unset] [(.int p0)])) _
                      refine X0.ldcInt hx hown (mvT hZ (hw _ (List.mem_of_getElem? (i := 22) rfl))) (g := (mkF m 172 #[.val (.int p0), .unset] [(.int p0)])) rfl (hb hby d2_172) _ ?_
                      exact kt)
                  have hd174_53 : p0 < (64976 : Int32) := Int32.lt_of_lt_of_le hc86_38 (by decide)
                  have pre54 : ∀ t, Steps p.tables e below (s₁.setTop (mkF m 186 #[.val (.int p0), .unset] [(.int (65534 : Int32)), (.int p0)])) t → Steps p.tables e below (s₁.setTop (entryFrame m #[(.int p0)] 2)) t := fun t kt => pre52 t (by
                      show Steps p.tables e below (s₁.setTop (mkF m 174 #[.val (.int p0), .unset] [(.int (64976 : Int32)), (.int p0)])) _
                      refine XS.icmpYes X0.here hx rfl (pc0 := 174) (pc' := 183) rfl (hb hby d2_174) rfl (tlt hd174_53).1 (by decide) (by decide) ?_
                      show Steps p.tables e below (s₁.setTop (mkF m 183 #[.val (.int p0), .unset] [])) _
                      refine XS.iloadN X0.here hx rfl (hb hby d2_183) rfl ?_
                      show Steps p.tables e below (s₁.setTop (mkF m 184 #[.val (.int p0), .unset] [(.int p0)])) _
                      refine X0.ldcInt hx hown (mvT hZ (hw _ (List.mem_of_getElem? (i := 23) rfl))) (g := (mkF m 184 #[.val (.int p0), .unset] [(.int p0)])) rfl (hb hby d2_184) _ ?_
                      exact kt)
                  by_cases hc186_55 : p0 = (65534 : Int32)
                  · have pre56 : ∀ t, Steps p.tables e below (s₁.setTop (mkF m 202 #[.val (.int p0), .val (.int (1 : Int32))] [(.int (1 : Int32))])) t → Steps p.tables e below (s₁.setTop (entryFrame m #[(.int p0)] 2)) t := fun t kt => pre54 t (by
                        show Steps p.tables e below (s₁.setTop (mkF m 186 #[.val (.int p0), .unset] [(.int (65534 : Int32)), (.int p0)])) _
                        refine XS.icmpYes X0.here hx rfl (pc0 := 186) (pc' := 195) rfl (hb hby d2_186) rfl (teq hc186_55).1 (by decide) (by decide) ?_
                        show Steps p.tables e below (s₁.setTop (mkF m 195 #[.val (.int p0), .unset] [])) _
                        refine XS.iconst X0.here hx rfl (hb hby d2_195) ?_
                        show Steps p.tables e below (s₁.setTop (mkF m 196 #[.val (.int p0), .unset] [(.int (1 : Int32))])) _
                        refine XS.goto X0.here hx rfl (pc0 := 196) (pc' := 200) rfl (hb hby d2_196) (by decide) (by decide) ?_
                        show Steps p.tables e below (s₁.setTop (mkF m 200 #[.val (.int p0), .unset] [(.int (1 : Int32))])) _
                        refine XS.istoreN X0.here hx rfl (hb hby d2_200) rfl (l' := #[.val (.int p0), .val (.int (1 : Int32))]) rfl ?_
                        show Steps p.tables e below (s₁.setTop (mkF m 201 #[.val (.int p0), .val (.int (1 : Int32))] [])) _
                        refine XS.iloadN X0.here hx rfl (hb hby d2_201) rfl ?_
                        exact kt)
                    obtain ⟨fs, hr, hrun, hended, hW, hsame⟩ := X0.leave (v := some (.int (0 : Int32))) (fun h => by rw [Bd.returns] at h; cases h)
                    have hv193 : (f2 p0) = (0 : Int32) := by rw [f2, if_neg hc1_2, if_neg hc7_4, if_neg hc16_6, if_pos hc65_30, if_neg hc72_32, if_neg hc79_35, if_pos hc86_38, if_neg hc100_40, if_pos hc186_55]
                    refine ⟨_, _, pre56 _ ?_, hrun, hended, _, _, rfl, ?_, ⟨_, rfl⟩, hW, hsame.mono (by decide) (by decide)⟩
                    · show Steps p.tables e below (s₁.setTop (mkF m 202 #[.val (.int p0), .val (.int (1 : Int32))] [(.int (1 : Int32))])) _
                      refine XS.ifYes X0.here hx rfl (pc0 := 202) (pc' := 209) rfl (hb hby d2_202) rfl ((if0 _ _).trans (feq (by decide : ¬ ((1 : Int32) = (0 : Int32)))).2) (by decide) (by decide) ?_
                      show Steps p.tables e below (s₁.setTop (mkF m 209 #[.val (.int p0), .val (.int (1 : Int32))] [])) _
                      refine XS.iconst X0.here hx rfl (hb hby d2_209) ?_
                      show Steps p.tables e below (s₁.setTop (mkF m 210 #[.val (.int p0), .val (.int (1 : Int32))] [(.int (0 : Int32))])) _
                      exact retN X0 hx (t := .boolean) Bd.returns (by simp) (hb hby d2_210) hr
                    · show Q2 Z p0 h0 n0 _ s₁.heap _
                      rw [e0]
                      exact ⟨congrArg (fun q => some (Value.int q)) hv193.symm, N0, rfl⟩
                  · have pre57 : ∀ t, Steps p.tables e below (s₁.setTop (mkF m 192 #[.val (.int p0), .unset] [(.int (65535 : Int32)), (.int p0)])) t → Steps p.tables e below (s₁.setTop (entryFrame m #[(.int p0)] 2)) t := fun t kt => pre54 t (by
                        show Steps p.tables e below (s₁.setTop (mkF m 186 #[.val (.int p0), .unset] [(.int (65534 : Int32)), (.int p0)])) _
                        refine XS.icmpNo X0.here hx rfl (hb hby d2_186) rfl (feq hc186_55).1 ?_
                        show Steps p.tables e below (s₁.setTop (mkF m 189 #[.val (.int p0), .unset] [])) _
                        refine XS.iloadN X0.here hx rfl (hb hby d2_189) rfl ?_
                        show Steps p.tables e below (s₁.setTop (mkF m 190 #[.val (.int p0), .unset] [(.int p0)])) _
                        refine X0.ldcInt hx hown (mvT hZ (hw _ (List.mem_of_getElem? (i := 24) rfl))) (g := (mkF m 190 #[.val (.int p0), .unset] [(.int p0)])) rfl (hb hby d2_190) _ ?_
                        exact kt)
                    by_cases hc192_58 : p0 = (65535 : Int32)
                    · have pre59 : ∀ t, Steps p.tables e below (s₁.setTop (mkF m 202 #[.val (.int p0), .val (.int (1 : Int32))] [(.int (1 : Int32))])) t → Steps p.tables e below (s₁.setTop (entryFrame m #[(.int p0)] 2)) t := fun t kt => pre57 t (by
                          show Steps p.tables e below (s₁.setTop (mkF m 192 #[.val (.int p0), .unset] [(.int (65535 : Int32)), (.int p0)])) _
                          refine XS.icmpNo X0.here hx rfl (hb hby d2_192) rfl (teq hc192_58).2 ?_
                          show Steps p.tables e below (s₁.setTop (mkF m 195 #[.val (.int p0), .unset] [])) _
                          refine XS.iconst X0.here hx rfl (hb hby d2_195) ?_
                          show Steps p.tables e below (s₁.setTop (mkF m 196 #[.val (.int p0), .unset] [(.int (1 : Int32))])) _
                          refine XS.goto X0.here hx rfl (pc0 := 196) (pc' := 200) rfl (hb hby d2_196) (by decide) (by decide) ?_
                          show Steps p.tables e below (s₁.setTop (mkF m 200 #[.val (.int p0), .unset] [(.int (1 : Int32))])) _
                          refine XS.istoreN X0.here hx rfl (hb hby d2_200) rfl (l' := #[.val (.int p0), .val (.int (1 : Int32))]) rfl ?_
                          show Steps p.tables e below (s₁.setTop (mkF m 201 #[.val (.int p0), .val (.int (1 : Int32))] [])) _
                          refine XS.iloadN X0.here hx rfl (hb hby d2_201) rfl ?_
                          exact kt)
                      obtain ⟨fs, hr, hrun, hended, hW, hsame⟩ := X0.leave (v := some (.int (0 : Int32))) (fun h => by rw [Bd.returns] at h; cases h)
                      have hv194 : (f2 p0) = (0 : Int32) := by rw [f2, if_neg hc1_2, if_neg hc7_4, if_neg hc16_6, if_pos hc65_30, if_neg hc72_32, if_neg hc79_35, if_pos hc86_38, if_neg hc100_40, if_neg hc186_55, if_pos hc192_58]
                      refine ⟨_, _, pre59 _ ?_, hrun, hended, _, _, rfl, ?_, ⟨_, rfl⟩, hW, hsame.mono (by decide) (by decide)⟩
                      · show Steps p.tables e below (s₁.setTop (mkF m 202 #[.val (.int p0), .val (.int (1 : Int32))] [(.int (1 : Int32))])) _
                        refine XS.ifYes X0.here hx rfl (pc0 := 202) (pc' := 209) rfl (hb hby d2_202) rfl ((if0 _ _).trans (feq (by decide : ¬ ((1 : Int32) = (0 : Int32)))).2) (by decide) (by decide) ?_
                        show Steps p.tables e below (s₁.setTop (mkF m 209 #[.val (.int p0), .val (.int (1 : Int32))] [])) _
                        refine XS.iconst X0.here hx rfl (hb hby d2_209) ?_
                        show Steps p.tables e below (s₁.setTop (mkF m 210 #[.val (.int p0), .val (.int (1 : Int32))] [(.int (0 : Int32))])) _
                        exact retN X0 hx (t := .boolean) Bd.returns (by simp) (hb hby d2_210) hr
                      · show Q2 Z p0 h0 n0 _ s₁.heap _
                        rw [e0]
                        exact ⟨congrArg (fun q => some (Value.int q)) hv194.symm, N0, rfl⟩
                    · have pre60 : ∀ t, Steps p.tables e below (s₁.setTop (mkF m 202 #[.val (.int p0), .val (.int (0 : Int32))] [(.int (0 : Int32))])) t → Steps p.tables e below (s₁.setTop (entryFrame m #[(.int p0)] 2)) t := fun t kt => pre57 t (by
                          show Steps p.tables e below (s₁.setTop (mkF m 192 #[.val (.int p0), .unset] [(.int (65535 : Int32)), (.int p0)])) _
                          refine XS.icmpYes X0.here hx rfl (pc0 := 192) (pc' := 199) rfl (hb hby d2_192) rfl (feq hc192_58).2 (by decide) (by decide) ?_
                          show Steps p.tables e below (s₁.setTop (mkF m 199 #[.val (.int p0), .unset] [])) _
                          refine XS.iconst X0.here hx rfl (hb hby d2_199) ?_
                          show Steps p.tables e below (s₁.setTop (mkF m 200 #[.val (.int p0), .unset] [(.int (0 : Int32))])) _
                          refine XS.istoreN X0.here hx rfl (hb hby d2_200) rfl (l' := #[.val (.int p0), .val (.int (0 : Int32))]) rfl ?_
                          show Steps p.tables e below (s₁.setTop (mkF m 201 #[.val (.int p0), .val (.int (0 : Int32))] [])) _
                          refine XS.iloadN X0.here hx rfl (hb hby d2_201) rfl ?_
                          exact kt)
                      obtain ⟨fs, hr, hrun, hended, hW, hsame⟩ := X0.leave (v := some (.int (1 : Int32))) (fun h => by rw [Bd.returns] at h; cases h)
                      have hv195 : (f2 p0) = (1 : Int32) := by rw [f2, if_neg hc1_2, if_neg hc7_4, if_neg hc16_6, if_pos hc65_30, if_neg hc72_32, if_neg hc79_35, if_pos hc86_38, if_neg hc100_40, if_neg hc186_55, if_neg hc192_58]
                      refine ⟨_, _, pre60 _ ?_, hrun, hended, _, _, rfl, ?_, ⟨_, rfl⟩, hW, hsame.mono (by decide) (by decide)⟩
                      · show Steps p.tables e below (s₁.setTop (mkF m 202 #[.val (.int p0), .val (.int (0 : Int32))] [(.int (0 : Int32))])) _
                        refine XS.ifNo X0.here hx rfl (hb hby d2_202) rfl ((if0 _ _).trans (teq (by decide : ((0 : Int32) = (0 : Int32)))).2) ?_
                        show Steps p.tables e below (s₁.setTop (mkF m 205 #[.val (.int p0), .val (.int (0 : Int32))] [])) _
                        refine XS.iconst X0.here hx rfl (hb hby d2_205) ?_
                        show Steps p.tables e below (s₁.setTop (mkF m 206 #[.val (.int p0), .val (.int (0 : Int32))] [(.int (1 : Int32))])) _
                        refine XS.goto X0.here hx rfl (pc0 := 206) (pc' := 210) rfl (hb hby d2_206) (by decide) (by decide) ?_
                        show Steps p.tables e below (s₁.setTop (mkF m 210 #[.val (.int p0), .val (.int (0 : Int32))] [(.int (1 : Int32))])) _
                        exact retN X0 hx (t := .boolean) Bd.returns (by simp) (hb hby d2_210) hr
                      · show Q2 Z p0 h0 n0 _ s₁.heap _
                        rw [e0]
                        exact ⟨congrArg (fun q => some (Value.int q)) hv195.symm, N0, rfl⟩
              · have pre61 : ∀ t, Steps p.tables e below (s₁.setTop (mkF m 93 #[.val (.int p0), .unset] [(.int (879 : Int32)), (.int p0)])) t → Steps p.tables e below (s₁.setTop (entryFrame m #[(.int p0)] 2)) t := fun t kt => pre37 t (by
                    show Steps p.tables e below (s₁.setTop (mkF m 86 #[.val (.int p0), .unset] [(.int (768 : Int32)), (.int p0)])) _
                    refine XS.icmpNo X0.here hx rfl (hb hby d2_86) rfl (flt hc86_38).1 ?_
                    show Steps p.tables e below (s₁.setTop (mkF m 89 #[.val (.int p0), .unset] [])) _
                    refine XS.iloadN X0.here hx rfl (hb hby d2_89) rfl ?_
                    show Steps p.tables e below (s₁.setTop (mkF m 90 #[.val (.int p0), .unset] [(.int p0)])) _
                    refine XS.sipush X0.here hx rfl (hb hby d2_90) ?_
                    exact kt)
                by_cases hc93_62 : (879 : Int32) < p0
                · have pre63 : ∀ t, Steps p.tables e below (s₁.setTop (mkF m 100 #[.val (.int p0), .unset] [(.int (894 : Int32)), (.int p0)])) t → Steps p.tables e below (s₁.setTop (entryFrame m #[(.int p0)] 2)) t := fun t kt => pre61 t (by
                      show Steps p.tables e below (s₁.setTop (mkF m 93 #[.val (.int p0), .unset] [(.int (879 : Int32)), (.int p0)])) _
                      refine XS.icmpNo X0.here hx rfl (hb hby d2_93) rfl (tlt hc93_62).2.2.2 ?_
                      show Steps p.tables e below (s₁.setTop (mkF m 96 #[.val (.int p0), .unset] [])) _
                      refine XS.iloadN X0.here hx rfl (hb hby d2_96) rfl ?_
                      show Steps p.tables e below (s₁.setTop (mkF m 97 #[.val (.int p0), .unset] [(.int p0)])) _
                      refine XS.sipush X0.here hx rfl (hb hby d2_97) ?_
                      exact kt)
                  by_cases hc100_64 : p0 = (894 : Int32)
                  · have pre65 : ∀ t, Steps p.tables e below (s₁.setTop (mkF m 202 #[.val (.int p0), .val (.int (1 : Int32))] [(.int (1 : Int32))])) t → Steps p.tables e below (s₁.setTop (entryFrame m #[(.int p0)] 2)) t := fun t kt => pre63 t (by
                        show Steps p.tables e below (s₁.setTop (mkF m 100 #[.val (.int p0), .unset] [(.int (894 : Int32)), (.int p0)])) _
                        refine XS.icmpYes X0.here hx rfl (pc0 := 100) (pc' := 195) rfl (hb hby d2_100) rfl (teq hc100_64).1 (by decide) (by decide) ?_
                        show Steps p.tables e below (s₁.setTop (mkF m 195 #[.val (.int p0), .unset] [])) _
                        refine XS.iconst X0.here hx rfl (hb hby d2_195) ?_
                        show Steps p.tables e below (s₁.setTop (mkF m 196 #[.val (.int p0), .unset] [(.int (1 : Int32))])) _
                        refine XS.goto X0.here hx rfl (pc0 := 196) (pc' := 200) rfl (hb hby d2_196) (by decide) (by decide) ?_
                        show Steps p.tables e below (s₁.setTop (mkF m 200 #[.val (.int p0), .unset] [(.int (1 : Int32))])) _
                        refine XS.istoreN X0.here hx rfl (hb hby d2_200) rfl (l' := #[.val (.int p0), .val (.int (1 : Int32))]) rfl ?_
                        show Steps p.tables e below (s₁.setTop (mkF m 201 #[.val (.int p0), .val (.int (1 : Int32))] [])) _
                        refine XS.iloadN X0.here hx rfl (hb hby d2_201) rfl ?_
                        exact kt)
                    obtain ⟨fs, hr, hrun, hended, hW, hsame⟩ := X0.leave (v := some (.int (0 : Int32))) (fun h => by rw [Bd.returns] at h; cases h)
                    have hv196 : (f2 p0) = (0 : Int32) := by rw [f2, if_neg hc1_2, if_neg hc7_4, if_neg hc16_6, if_pos hc65_30, if_neg hc72_32, if_neg hc79_35, if_neg hc86_38, if_pos hc93_62, if_pos hc100_64]
                    refine ⟨_, _, pre65 _ ?_, hrun, hended, _, _, rfl, ?_, ⟨_, rfl⟩, hW, hsame.mono (by decide) (by decide)⟩
                    · show Steps p.tables e below (s₁.setTop (mkF m 202 #[.val (.int p0), .val (.int (1 : Int32))] [(.int (1 : Int32))])) _
                      refine XS.ifYes X0.here hx rfl (pc0 := 202) (pc' := 209) rfl (hb hby d2_202) rfl ((if0 _ _).trans (feq (by decide : ¬ ((1 : Int32) = (0 : Int32)))).2) (by decide) (by decide) ?_
                      show Steps p.tables e below (s₁.setTop (mkF m 209 #[.val (.int p0), .val (.int (1 : Int32))] [])) _
                      refine XS.iconst X0.here hx rfl (hb hby d2_209) ?_
                      show Steps p.tables e below (s₁.setTop (mkF m 210 #[.val (.int p0), .val (.int (1 : Int32))] [(.int (0 : Int32))])) _
                      exact retN X0 hx (t := .boolean) Bd.returns (by simp) (hb hby d2_210) hr
                    · show Q2 Z p0 h0 n0 _ s₁.heap _
                      rw [e0]
                      exact ⟨congrArg (fun q => some (Value.int q)) hv196.symm, N0, rfl⟩
                  · have pre66 : ∀ t, Steps p.tables e below (s₁.setTop (mkF m 107 #[.val (.int p0), .unset] [(.int (8192 : Int32)), (.int p0)])) t → Steps p.tables e below (s₁.setTop (entryFrame m #[(.int p0)] 2)) t := fun t kt => pre63 t (by
                        show Steps p.tables e below (s₁.setTop (mkF m 100 #[.val (.int p0), .unset] [(.int (894 : Int32)), (.int p0)])) _
                        refine XS.icmpNo X0.here hx rfl (hb hby d2_100) rfl (feq hc100_64).1 ?_
                        show Steps p.tables e below (s₁.setTop (mkF m 103 #[.val (.int p0), .unset] [])) _
                        refine XS.iloadN X0.here hx rfl (hb hby d2_103) rfl ?_
                        show Steps p.tables e below (s₁.setTop (mkF m 104 #[.val (.int p0), .unset] [(.int p0)])) _
                        refine XS.sipush X0.here hx rfl (hb hby d2_104) ?_
                        exact kt)
                    by_cases hc107_67 : p0 < (8192 : Int32)
                    · have pre68 : ∀ t, Steps p.tables e below (s₁.setTop (mkF m 121 #[.val (.int p0), .unset] [(.int (8206 : Int32)), (.int p0)])) t → Steps p.tables e below (s₁.setTop (entryFrame m #[(.int p0)] 2)) t := fun t kt => pre66 t (by
                          show Steps p.tables e below (s₁.setTop (mkF m 107 #[.val (.int p0), .unset] [(.int (8192 : Int32)), (.int p0)])) _
                          refine XS.icmpYes X0.here hx rfl (pc0 := 107) (pc' := 117) rfl (hb hby d2_107) rfl (tlt hc107_67).1 (by decide) (by decide) ?_
                          show Steps p.tables e below (s₁.setTop (mkF m 117 #[.val (.int p0), .unset] [])) _
                          refine XS.iloadN X0.here hx rfl (hb hby d2_117) rfl ?_
                          show Steps p.tables e below (s₁.setTop (mkF m 118 #[.val (.int p0), .unset] [(.int p0)])) _
                          refine XS.sipush X0.here hx rfl (hb hby d2_118) ?_
                          exact kt)
                      have hd121_69 : p0 < (8206 : Int32) := Int32.lt_of_lt_of_le hc107_67 (by decide)
                      have pre70 : ∀ t, Steps p.tables e below (s₁.setTop (mkF m 135 #[.val (.int p0), .unset] [(.int (8592 : Int32)), (.int p0)])) t → Steps p.tables e below (s₁.setTop (entryFrame m #[(.int p0)] 2)) t := fun t kt => pre68 t (by
                          show Steps p.tables e below (s₁.setTop (mkF m 121 #[.val (.int p0), .unset] [(.int (8206 : Int32)), (.int p0)])) _
                          refine XS.icmpYes X0.here hx rfl (pc0 := 121) (pc' := 131) rfl (hb hby d2_121) rfl (tlt hd121_69).1 (by decide) (by decide) ?_
                          show Steps p.tables e below (s₁.setTop (mkF m 131 #[.val (.int p0), .unset] [])) _
                          refine XS.iloadN X0.here hx rfl (hb hby d2_131) rfl ?_
                          show Steps p.tables e below (s₁.setTop (mkF m 132 #[.val (.int p0), .unset] [(.int p0)])) _
                          refine XS.sipush X0.here hx rfl (hb hby d2_132) ?_
                          exact kt)
                      have hd135_71 : p0 < (8592 : Int32) := Int32.lt_of_lt_of_le hc107_67 (by decide)
                      have pre72 : ∀ t, Steps p.tables e below (s₁.setTop (mkF m 149 #[.val (.int p0), .unset] [(.int (12272 : Int32)), (.int p0)])) t → Steps p.tables e below (s₁.setTop (entryFrame m #[(.int p0)] 2)) t := fun t kt => pre70 t (by
                          show Steps p.tables e below (s₁.setTop (mkF m 135 #[.val (.int p0), .unset] [(.int (8592 : Int32)), (.int p0)])) _
                          refine XS.icmpYes X0.here hx rfl (pc0 := 135) (pc' := 145) rfl (hb hby d2_135) rfl (tlt hd135_71).1 (by decide) (by decide) ?_
                          show Steps p.tables e below (s₁.setTop (mkF m 145 #[.val (.int p0), .unset] [])) _
                          refine XS.iloadN X0.here hx rfl (hb hby d2_145) rfl ?_
                          show Steps p.tables e below (s₁.setTop (mkF m 146 #[.val (.int p0), .unset] [(.int p0)])) _
                          refine XS.sipush X0.here hx rfl (hb hby d2_146) ?_
                          exact kt)
                      have hd149_73 : p0 < (12272 : Int32) := Int32.lt_of_lt_of_le hc107_67 (by decide)
                      have pre74 : ∀ t, Steps p.tables e below (s₁.setTop (mkF m 162 #[.val (.int p0), .unset] [(.int (55296 : Int32)), (.int p0)])) t → Steps p.tables e below (s₁.setTop (entryFrame m #[(.int p0)] 2)) t := fun t kt => pre72 t (by
                          show Steps p.tables e below (s₁.setTop (mkF m 149 #[.val (.int p0), .unset] [(.int (12272 : Int32)), (.int p0)])) _
                          refine XS.icmpYes X0.here hx rfl (pc0 := 149) (pc' := 159) rfl (hb hby d2_149) rfl (tlt hd149_73).1 (by decide) (by decide) ?_
                          show Steps p.tables e below (s₁.setTop (mkF m 159 #[.val (.int p0), .unset] [])) _
                          refine XS.iloadN X0.here hx rfl (hb hby d2_159) rfl ?_
                          show Steps p.tables e below (s₁.setTop (mkF m 160 #[.val (.int p0), .unset] [(.int p0)])) _
                          refine X0.ldcInt hx hown (mvT hZ (hw _ (List.mem_of_getElem? (i := 21) rfl))) (g := (mkF m 160 #[.val (.int p0), .unset] [(.int p0)])) rfl (hb hby d2_160) _ ?_
                          exact kt)
                      have hd162_75 : p0 < (55296 : Int32) := Int32.lt_of_lt_of_le hc107_67 (by decide)
                      have pre76 : ∀ t, Steps p.tables e below (s₁.setTop (mkF m 174 #[.val (.int p0), .unset] [(.int (64976 : Int32)), (.int p0)])) t → Steps p.tables e below (s₁.setTop (entryFrame m #[(.int p0)] 2)) t := fun t kt => pre74 t (by
                          show Steps p.tables e below (s₁.setTop (mkF m 162 #[.val (.int p0), .unset] [(.int (55296 : Int32)), (.int p0)])) _
                          refine XS.icmpYes X0.here hx rfl (pc0 := 162) (pc' := 171) rfl (hb hby d2_162) rfl (tlt hd162_75).1 (by decide) (by decide) ?_
                          show Steps p.tables e below (s₁.setTop (mkF m 171 #[.val (.int p0), .unset] [])) _
                          refine XS.iloadN X0.here hx rfl (hb hby d2_171) rfl ?_
                          show Steps p.tables e below (s₁.setTop (mkF m 172 #[.val (.int p0), .unset] [(.int p0)])) _
                          refine X0.ldcInt hx hown (mvT hZ (hw _ (List.mem_of_getElem? (i := 22) rfl))) (g := (mkF m 172 #[.val (.int p0), .unset] [(.int p0)])) rfl (hb hby d2_172) _ ?_
                          exact kt)
                      have hd174_77 : p0 < (64976 : Int32) := Int32.lt_of_lt_of_le hc107_67 (by decide)
                      have pre78 : ∀ t, Steps p.tables e below (s₁.setTop (mkF m 186 #[.val (.int p0), .unset] [(.int (65534 : Int32)), (.int p0)])) t → Steps p.tables e below (s₁.setTop (entryFrame m #[(.int p0)] 2)) t := fun t kt => pre76 t (by
                          show Steps p.tables e below (s₁.setTop (mkF m 174 #[.val (.int p0), .unset] [(.int (64976 : Int32)), (.int p0)])) _
                          refine XS.icmpYes X0.here hx rfl (pc0 := 174) (pc' := 183) rfl (hb hby d2_174) rfl (tlt hd174_77).1 (by decide) (by decide) ?_
                          show Steps p.tables e below (s₁.setTop (mkF m 183 #[.val (.int p0), .unset] [])) _
                          refine XS.iloadN X0.here hx rfl (hb hby d2_183) rfl ?_
                          show Steps p.tables e below (s₁.setTop (mkF m 184 #[.val (.int p0), .unset] [(.int p0)])) _
                          refine X0.ldcInt hx hown (mvT hZ (hw _ (List.mem_of_getElem? (i := 23) rfl))) (g := (mkF m 184 #[.val (.int p0), .unset] [(.int p0)])) rfl (hb hby d2_184) _ ?_
                          exact kt)
                      by_cases hc186_79 : p0 = (65534 : Int32)
                      · have pre80 : ∀ t, Steps p.tables e below (s₁.setTop (mkF m 202 #[.val (.int p0), .val (.int (1 : Int32))] [(.int (1 : Int32))])) t → Steps p.tables e below (s₁.setTop (entryFrame m #[(.int p0)] 2)) t := fun t kt => pre78 t (by
                            show Steps p.tables e below (s₁.setTop (mkF m 186 #[.val (.int p0), .unset] [(.int (65534 : Int32)), (.int p0)])) _
                            refine XS.icmpYes X0.here hx rfl (pc0 := 186) (pc' := 195) rfl (hb hby d2_186) rfl (teq hc186_79).1 (by decide) (by decide) ?_
                            show Steps p.tables e below (s₁.setTop (mkF m 195 #[.val (.int p0), .unset] [])) _
                            refine XS.iconst X0.here hx rfl (hb hby d2_195) ?_
                            show Steps p.tables e below (s₁.setTop (mkF m 196 #[.val (.int p0), .unset] [(.int (1 : Int32))])) _
                            refine XS.goto X0.here hx rfl (pc0 := 196) (pc' := 200) rfl (hb hby d2_196) (by decide) (by decide) ?_
                            show Steps p.tables e below (s₁.setTop (mkF m 200 #[.val (.int p0), .unset] [(.int (1 : Int32))])) _
                            refine XS.istoreN X0.here hx rfl (hb hby d2_200) rfl (l' := #[.val (.int p0), .val (.int (1 : Int32))]) rfl ?_
                            show Steps p.tables e below (s₁.setTop (mkF m 201 #[.val (.int p0), .val (.int (1 : Int32))] [])) _
                            refine XS.iloadN X0.here hx rfl (hb hby d2_201) rfl ?_
                            exact kt)
                        obtain ⟨fs, hr, hrun, hended, hW, hsame⟩ := X0.leave (v := some (.int (0 : Int32))) (fun h => by rw [Bd.returns] at h; cases h)
                        have hv197 : (f2 p0) = (0 : Int32) := by rw [f2, if_neg hc1_2, if_neg hc7_4, if_neg hc16_6, if_pos hc65_30, if_neg hc72_32, if_neg hc79_35, if_neg hc86_38, if_pos hc93_62, if_neg hc100_64, if_pos hc107_67, if_pos hc186_79]
                        refine ⟨_, _, pre80 _ ?_, hrun, hended, _, _, rfl, ?_, ⟨_, rfl⟩, hW, hsame.mono (by decide) (by decide)⟩
                        · show Steps p.tables e below (s₁.setTop (mkF m 202 #[.val (.int p0), .val (.int (1 : Int32))] [(.int (1 : Int32))])) _
                          refine XS.ifYes X0.here hx rfl (pc0 := 202) (pc' := 209) rfl (hb hby d2_202) rfl ((if0 _ _).trans (feq (by decide : ¬ ((1 : Int32) = (0 : Int32)))).2) (by decide) (by decide) ?_
                          show Steps p.tables e below (s₁.setTop (mkF m 209 #[.val (.int p0), .val (.int (1 : Int32))] [])) _
                          refine XS.iconst X0.here hx rfl (hb hby d2_209) ?_
                          show Steps p.tables e below (s₁.setTop (mkF m 210 #[.val (.int p0), .val (.int (1 : Int32))] [(.int (0 : Int32))])) _
                          exact retN X0 hx (t := .boolean) Bd.returns (by simp) (hb hby d2_210) hr
                        · show Q2 Z p0 h0 n0 _ s₁.heap _
                          rw [e0]
                          exact ⟨congrArg (fun q => some (Value.int q)) hv197.symm, N0, rfl⟩
                      · have pre81 : ∀ t, Steps p.tables e below (s₁.setTop (mkF m 192 #[.val (.int p0), .unset] [(.int (65535 : Int32)), (.int p0)])) t → Steps p.tables e below (s₁.setTop (entryFrame m #[(.int p0)] 2)) t := fun t kt => pre78 t (by
                            show Steps p.tables e below (s₁.setTop (mkF m 186 #[.val (.int p0), .unset] [(.int (65534 : Int32)), (.int p0)])) _
                            refine XS.icmpNo X0.here hx rfl (hb hby d2_186) rfl (feq hc186_79).1 ?_
                            show Steps p.tables e below (s₁.setTop (mkF m 189 #[.val (.int p0), .unset] [])) _
                            refine XS.iloadN X0.here hx rfl (hb hby d2_189) rfl ?_
                            show Steps p.tables e below (s₁.setTop (mkF m 190 #[.val (.int p0), .unset] [(.int p0)])) _
                            refine X0.ldcInt hx hown (mvT hZ (hw _ (List.mem_of_getElem? (i := 24) rfl))) (g := (mkF m 190 #[.val (.int p0), .unset] [(.int p0)])) rfl (hb hby d2_190) _ ?_
                            exact kt)
                        by_cases hc192_82 : p0 = (65535 : Int32)
                        · have pre83 : ∀ t, Steps p.tables e below (s₁.setTop (mkF m 202 #[.val (.int p0), .val (.int (1 : Int32))] [(.int (1 : Int32))])) t → Steps p.tables e below (s₁.setTop (entryFrame m #[(.int p0)] 2)) t := fun t kt => pre81 t (by
                              show Steps p.tables e below (s₁.setTop (mkF m 192 #[.val (.int p0), .unset] [(.int (65535 : Int32)), (.int p0)])) _
                              refine XS.icmpNo X0.here hx rfl (hb hby d2_192) rfl (teq hc192_82).2 ?_
                              show Steps p.tables e below (s₁.setTop (mkF m 195 #[.val (.int p0), .unset] [])) _
                              refine XS.iconst X0.here hx rfl (hb hby d2_195) ?_
                              show Steps p.tables e below (s₁.setTop (mkF m 196 #[.val (.int p0), .unset] [(.int (1 : Int32))])) _
                              refine XS.goto X0.here hx rfl (pc0 := 196) (pc' := 200) rfl (hb hby d2_196) (by decide) (by decide) ?_
                              show Steps p.tables e below (s₁.setTop (mkF m 200 #[.val (.int p0), .unset] [(.int (1 : Int32))])) _
                              refine XS.istoreN X0.here hx rfl (hb hby d2_200) rfl (l' := #[.val (.int p0), .val (.int (1 : Int32))]) rfl ?_
                              show Steps p.tables e below (s₁.setTop (mkF m 201 #[.val (.int p0), .val (.int (1 : Int32))] [])) _
                              refine XS.iloadN X0.here hx rfl (hb hby d2_201) rfl ?_
                              exact kt)
                          obtain ⟨fs, hr, hrun, hended, hW, hsame⟩ := X0.leave (v := some (.int (0 : Int32))) (fun h => by rw [Bd.returns] at h; cases h)
                          have hv198 : (f2 p0) = (0 : Int32) := by rw [f2, if_neg hc1_2, if_neg hc7_4, if_neg hc16_6, if_pos hc65_30, if_neg hc72_32, if_neg hc79_35, if_neg hc86_38, if_pos hc93_62, if_neg hc100_64, if_pos hc107_67, if_neg hc186_79, if_pos hc192_82]
                          refine ⟨_, _, pre83 _ ?_, hrun, hended, _, _, rfl, ?_, ⟨_, rfl⟩, hW, hsame.mono (by decide) (by decide)⟩
                          · show Steps p.tables e below (s₁.setTop (mkF m 202 #[.val (.int p0), .val (.int (1 : Int32))] [(.int (1 : Int32))])) _
                            refine XS.ifYes X0.here hx rfl (pc0 := 202) (pc' := 209) rfl (hb hby d2_202) rfl ((if0 _ _).trans (feq (by decide : ¬ ((1 : Int32) = (0 : Int32)))).2) (by decide) (by decide) ?_
                            show Steps p.tables e below (s₁.setTop (mkF m 209 #[.val (.int p0), .val (.int (1 : Int32))] [])) _
                            refine XS.iconst X0.here hx rfl (hb hby d2_209) ?_
                            show Steps p.tables e below (s₁.setTop (mkF m 210 #[.val (.int p0), .val (.int (1 : Int32))] [(.int (0 : Int32))])) _
                            exact retN X0 hx (t := .boolean) Bd.returns (by simp) (hb hby d2_210) hr
                          · show Q2 Z p0 h0 n0 _ s₁.heap _
                            rw [e0]
                            exact ⟨congrArg (fun q => some (Value.int q)) hv198.symm, N0, rfl⟩
                        · have pre84 : ∀ t, Steps p.tables e below (s₁.setTop (mkF m 202 #[.val (.int p0), .val (.int (0 : Int32))] [(.int (0 : Int32))])) t → Steps p.tables e below (s₁.setTop (entryFrame m #[(.int p0)] 2)) t := fun t kt => pre81 t (by
                              show Steps p.tables e below (s₁.setTop (mkF m 192 #[.val (.int p0), .unset] [(.int (65535 : Int32)), (.int p0)])) _
                              refine XS.icmpYes X0.here hx rfl (pc0 := 192) (pc' := 199) rfl (hb hby d2_192) rfl (feq hc192_82).2 (by decide) (by decide) ?_
                              show Steps p.tables e below (s₁.setTop (mkF m 199 #[.val (.int p0), .unset] [])) _
                              refine XS.iconst X0.here hx rfl (hb hby d2_199) ?_
                              show Steps p.tables e below (s₁.setTop (mkF m 200 #[.val (.int p0), .unset] [(.int (0 : Int32))])) _
                              refine XS.istoreN X0.here hx rfl (hb hby d2_200) rfl (l' := #[.val (.int p0), .val (.int (0 : Int32))]) rfl ?_
                              show Steps p.tables e below (s₁.setTop (mkF m 201 #[.val (.int p0), .val (.int (0 : Int32))] [])) _
                              refine XS.iloadN X0.here hx rfl (hb hby d2_201) rfl ?_
                              exact kt)
                          obtain ⟨fs, hr, hrun, hended, hW, hsame⟩ := X0.leave (v := some (.int (1 : Int32))) (fun h => by rw [Bd.returns] at h; cases h)
                          have hv199 : (f2 p0) = (1 : Int32) := by rw [f2, if_neg hc1_2, if_neg hc7_4, if_neg hc16_6, if_pos hc65_30, if_neg hc72_32, if_neg hc79_35, if_neg hc86_38, if_pos hc93_62, if_neg hc100_64, if_pos hc107_67, if_neg hc186_79, if_neg hc192_82]
                          refine ⟨_, _, pre84 _ ?_, hrun, hended, _, _, rfl, ?_, ⟨_, rfl⟩, hW, hsame.mono (by decide) (by decide)⟩
                          · show Steps p.tables e below (s₁.setTop (mkF m 202 #[.val (.int p0), .val (.int (0 : Int32))] [(.int (0 : Int32))])) _
                            refine XS.ifNo X0.here hx rfl (hb hby d2_202) rfl ((if0 _ _).trans (teq (by decide : ((0 : Int32) = (0 : Int32)))).2) ?_
                            show Steps p.tables e below (s₁.setTop (mkF m 205 #[.val (.int p0), .val (.int (0 : Int32))] [])) _
                            refine XS.iconst X0.here hx rfl (hb hby d2_205) ?_
                            show Steps p.tables e below (s₁.setTop (mkF m 206 #[.val (.int p0), .val (.int (0 : Int32))] [(.int (1 : Int32))])) _
                            refine XS.goto X0.here hx rfl (pc0 := 206) (pc' := 210) rfl (hb hby d2_206) (by decide) (by decide) ?_
                            show Steps p.tables e below (s₁.setTop (mkF m 210 #[.val (.int p0), .val (.int (0 : Int32))] [(.int (1 : Int32))])) _
                            exact retN X0 hx (t := .boolean) Bd.returns (by simp) (hb hby d2_210) hr
                          · show Q2 Z p0 h0 n0 _ s₁.heap _
                            rw [e0]
                            exact ⟨congrArg (fun q => some (Value.int q)) hv199.symm, N0, rfl⟩
                    · have pre85 : ∀ t, Steps p.tables e below (s₁.setTop (mkF m 114 #[.val (.int p0), .unset] [(.int (8203 : Int32)), (.int p0)])) t → Steps p.tables e below (s₁.setTop (entryFrame m #[(.int p0)] 2)) t := fun t kt => pre66 t (by
                          show Steps p.tables e below (s₁.setTop (mkF m 107 #[.val (.int p0), .unset] [(.int (8192 : Int32)), (.int p0)])) _
                          refine XS.icmpNo X0.here hx rfl (hb hby d2_107) rfl (flt hc107_67).1 ?_
                          show Steps p.tables e below (s₁.setTop (mkF m 110 #[.val (.int p0), .unset] [])) _
                          refine XS.iloadN X0.here hx rfl (hb hby d2_110) rfl ?_
                          show Steps p.tables e below (s₁.setTop (mkF m 111 #[.val (.int p0), .unset] [(.int p0)])) _
                          refine XS.sipush X0.here hx rfl (hb hby d2_111) ?_
                          exact kt)
                      by_cases hc114_86 : (8203 : Int32) < p0
                      · have pre87 : ∀ t, Steps p.tables e below (s₁.setTop (mkF m 121 #[.val (.int p0), .unset] [(.int (8206 : Int32)), (.int p0)])) t → Steps p.tables e below (s₁.setTop (entryFrame m #[(.int p0)] 2)) t := fun t kt => pre85 t (by
                            show Steps p.tables e below (s₁.setTop (mkF m 114 #[.val (.int p0), .unset] [(.int (8203 : Int32)), (.int p0)])) _
                            refine XS.icmpNo X0.here hx rfl (hb hby d2_114) rfl (tlt hc114_86).2.2.2 ?_
                            show Steps p.tables e below (s₁.setTop (mkF m 117 #[.val (.int p0), .unset] [])) _
                            refine XS.iloadN X0.here hx rfl (hb hby d2_117) rfl ?_
                            show Steps p.tables e below (s₁.setTop (mkF m 118 #[.val (.int p0), .unset] [(.int p0)])) _
                            refine XS.sipush X0.here hx rfl (hb hby d2_118) ?_
                            exact kt)
                        by_cases hc121_88 : p0 < (8206 : Int32)
                        · have pre89 : ∀ t, Steps p.tables e below (s₁.setTop (mkF m 135 #[.val (.int p0), .unset] [(.int (8592 : Int32)), (.int p0)])) t → Steps p.tables e below (s₁.setTop (entryFrame m #[(.int p0)] 2)) t := fun t kt => pre87 t (by
                              show Steps p.tables e below (s₁.setTop (mkF m 121 #[.val (.int p0), .unset] [(.int (8206 : Int32)), (.int p0)])) _
                              refine XS.icmpYes X0.here hx rfl (pc0 := 121) (pc' := 131) rfl (hb hby d2_121) rfl (tlt hc121_88).1 (by decide) (by decide) ?_
                              show Steps p.tables e below (s₁.setTop (mkF m 131 #[.val (.int p0), .unset] [])) _
                              refine XS.iloadN X0.here hx rfl (hb hby d2_131) rfl ?_
                              show Steps p.tables e below (s₁.setTop (mkF m 132 #[.val (.int p0), .unset] [(.int p0)])) _
                              refine XS.sipush X0.here hx rfl (hb hby d2_132) ?_
                              exact kt)
                          have hd135_90 : p0 < (8592 : Int32) := Int32.lt_of_lt_of_le hc121_88 (by decide)
                          have pre91 : ∀ t, Steps p.tables e below (s₁.setTop (mkF m 149 #[.val (.int p0), .unset] [(.int (12272 : Int32)), (.int p0)])) t → Steps p.tables e below (s₁.setTop (entryFrame m #[(.int p0)] 2)) t := fun t kt => pre89 t (by
                              show Steps p.tables e below (s₁.setTop (mkF m 135 #[.val (.int p0), .unset] [(.int (8592 : Int32)), (.int p0)])) _
                              refine XS.icmpYes X0.here hx rfl (pc0 := 135) (pc' := 145) rfl (hb hby d2_135) rfl (tlt hd135_90).1 (by decide) (by decide) ?_
                              show Steps p.tables e below (s₁.setTop (mkF m 145 #[.val (.int p0), .unset] [])) _
                              refine XS.iloadN X0.here hx rfl (hb hby d2_145) rfl ?_
                              show Steps p.tables e below (s₁.setTop (mkF m 146 #[.val (.int p0), .unset] [(.int p0)])) _
                              refine XS.sipush X0.here hx rfl (hb hby d2_146) ?_
                              exact kt)
                          have hd149_92 : p0 < (12272 : Int32) := Int32.lt_of_lt_of_le hc121_88 (by decide)
                          have pre93 : ∀ t, Steps p.tables e below (s₁.setTop (mkF m 162 #[.val (.int p0), .unset] [(.int (55296 : Int32)), (.int p0)])) t → Steps p.tables e below (s₁.setTop (entryFrame m #[(.int p0)] 2)) t := fun t kt => pre91 t (by
                              show Steps p.tables e below (s₁.setTop (mkF m 149 #[.val (.int p0), .unset] [(.int (12272 : Int32)), (.int p0)])) _
                              refine XS.icmpYes X0.here hx rfl (pc0 := 149) (pc' := 159) rfl (hb hby d2_149) rfl (tlt hd149_92).1 (by decide) (by decide) ?_
                              show Steps p.tables e below (s₁.setTop (mkF m 159 #[.val (.int p0), .unset] [])) _
                              refine XS.iloadN X0.here hx rfl (hb hby d2_159) rfl ?_
                              show Steps p.tables e below (s₁.setTop (mkF m 160 #[.val (.int p0), .unset] [(.int p0)])) _
                              refine X0.ldcInt hx hown (mvT hZ (hw _ (List.mem_of_getElem? (i := 21) rfl))) (g := (mkF m 160 #[.val (.int p0), .unset] [(.int p0)])) rfl (hb hby d2_160) _ ?_
                              exact kt)
                          have hd162_94 : p0 < (55296 : Int32) := Int32.lt_of_lt_of_le hc121_88 (by decide)
                          have pre95 : ∀ t, Steps p.tables e below (s₁.setTop (mkF m 174 #[.val (.int p0), .unset] [(.int (64976 : Int32)), (.int p0)])) t → Steps p.tables e below (s₁.setTop (entryFrame m #[(.int p0)] 2)) t := fun t kt => pre93 t (by
                              show Steps p.tables e below (s₁.setTop (mkF m 162 #[.val (.int p0), .unset] [(.int (55296 : Int32)), (.int p0)])) _
                              refine XS.icmpYes X0.here hx rfl (pc0 := 162) (pc' := 171) rfl (hb hby d2_162) rfl (tlt hd162_94).1 (by decide) (by decide) ?_
                              show Steps p.tables e below (s₁.setTop (mkF m 171 #[.val (.int p0), .unset] [])) _
                              refine XS.iloadN X0.here hx rfl (hb hby d2_171) rfl ?_
                              show Steps p.tables e below (s₁.setTop (mkF m 172 #[.val (.int p0), .unset] [(.int p0)])) _
                              refine X0.ldcInt hx hown (mvT hZ (hw _ (List.mem_of_getElem? (i := 22) rfl))) (g := (mkF m 172 #[.val (.int p0), .unset] [(.int p0)])) rfl (hb hby d2_172) _ ?_
                              exact kt)
                          have hd174_96 : p0 < (64976 : Int32) := Int32.lt_of_lt_of_le hc121_88 (by decide)
                          have pre97 : ∀ t, Steps p.tables e below (s₁.setTop (mkF m 186 #[.val (.int p0), .unset] [(.int (65534 : Int32)), (.int p0)])) t → Steps p.tables e below (s₁.setTop (entryFrame m #[(.int p0)] 2)) t := fun t kt => pre95 t (by
                              show Steps p.tables e below (s₁.setTop (mkF m 174 #[.val (.int p0), .unset] [(.int (64976 : Int32)), (.int p0)])) _
                              refine XS.icmpYes X0.here hx rfl (pc0 := 174) (pc' := 183) rfl (hb hby d2_174) rfl (tlt hd174_96).1 (by decide) (by decide) ?_
                              show Steps p.tables e below (s₁.setTop (mkF m 183 #[.val (.int p0), .unset] [])) _
                              refine XS.iloadN X0.here hx rfl (hb hby d2_183) rfl ?_
                              show Steps p.tables e below (s₁.setTop (mkF m 184 #[.val (.int p0), .unset] [(.int p0)])) _
                              refine X0.ldcInt hx hown (mvT hZ (hw _ (List.mem_of_getElem? (i := 23) rfl))) (g := (mkF m 184 #[.val (.int p0), .unset] [(.int p0)])) rfl (hb hby d2_184) _ ?_
                              exact kt)
                          by_cases hc186_98 : p0 = (65534 : Int32)
                          · have pre99 : ∀ t, Steps p.tables e below (s₁.setTop (mkF m 202 #[.val (.int p0), .val (.int (1 : Int32))] [(.int (1 : Int32))])) t → Steps p.tables e below (s₁.setTop (entryFrame m #[(.int p0)] 2)) t := fun t kt => pre97 t (by
                                show Steps p.tables e below (s₁.setTop (mkF m 186 #[.val (.int p0), .unset] [(.int (65534 : Int32)), (.int p0)])) _
                                refine XS.icmpYes X0.here hx rfl (pc0 := 186) (pc' := 195) rfl (hb hby d2_186) rfl (teq hc186_98).1 (by decide) (by decide) ?_
                                show Steps p.tables e below (s₁.setTop (mkF m 195 #[.val (.int p0), .unset] [])) _
                                refine XS.iconst X0.here hx rfl (hb hby d2_195) ?_
                                show Steps p.tables e below (s₁.setTop (mkF m 196 #[.val (.int p0), .unset] [(.int (1 : Int32))])) _
                                refine XS.goto X0.here hx rfl (pc0 := 196) (pc' := 200) rfl (hb hby d2_196) (by decide) (by decide) ?_
                                show Steps p.tables e below (s₁.setTop (mkF m 200 #[.val (.int p0), .unset] [(.int (1 : Int32))])) _
                                refine XS.istoreN X0.here hx rfl (hb hby d2_200) rfl (l' := #[.val (.int p0), .val (.int (1 : Int32))]) rfl ?_
                                show Steps p.tables e below (s₁.setTop (mkF m 201 #[.val (.int p0), .val (.int (1 : Int32))] [])) _
                                refine XS.iloadN X0.here hx rfl (hb hby d2_201) rfl ?_
                                exact kt)
                            obtain ⟨fs, hr, hrun, hended, hW, hsame⟩ := X0.leave (v := some (.int (0 : Int32))) (fun h => by rw [Bd.returns] at h; cases h)
                            have hv200 : (f2 p0) = (0 : Int32) := by rw [f2, if_neg hc1_2, if_neg hc7_4, if_neg hc16_6, if_pos hc65_30, if_neg hc72_32, if_neg hc79_35, if_neg hc86_38, if_pos hc93_62, if_neg hc100_64, if_neg hc107_67, if_pos hc114_86, if_pos hc121_88, if_pos hc186_98]
                            refine ⟨_, _, pre99 _ ?_, hrun, hended, _, _, rfl, ?_, ⟨_, rfl⟩, hW, hsame.mono (by decide) (by decide)⟩
                            · show Steps p.tables e below (s₁.setTop (mkF m 202 #[.val (.int p0), .val (.int (1 : Int32))] [(.int (1 : Int32))])) _
                              refine XS.ifYes X0.here hx rfl (pc0 := 202) (pc' := 209) rfl (hb hby d2_202) rfl ((if0 _ _).trans (feq (by decide : ¬ ((1 : Int32) = (0 : Int32)))).2) (by decide) (by decide) ?_
                              show Steps p.tables e below (s₁.setTop (mkF m 209 #[.val (.int p0), .val (.int (1 : Int32))] [])) _
                              refine XS.iconst X0.here hx rfl (hb hby d2_209) ?_
                              show Steps p.tables e below (s₁.setTop (mkF m 210 #[.val (.int p0), .val (.int (1 : Int32))] [(.int (0 : Int32))])) _
                              exact retN X0 hx (t := .boolean) Bd.returns (by simp) (hb hby d2_210) hr
                            · show Q2 Z p0 h0 n0 _ s₁.heap _
                              rw [e0]
                              exact ⟨congrArg (fun q => some (Value.int q)) hv200.symm, N0, rfl⟩
                          · have pre100 : ∀ t, Steps p.tables e below (s₁.setTop (mkF m 192 #[.val (.int p0), .unset] [(.int (65535 : Int32)), (.int p0)])) t → Steps p.tables e below (s₁.setTop (entryFrame m #[(.int p0)] 2)) t := fun t kt => pre97 t (by
                                show Steps p.tables e below (s₁.setTop (mkF m 186 #[.val (.int p0), .unset] [(.int (65534 : Int32)), (.int p0)])) _
                                refine XS.icmpNo X0.here hx rfl (hb hby d2_186) rfl (feq hc186_98).1 ?_
                                show Steps p.tables e below (s₁.setTop (mkF m 189 #[.val (.int p0), .unset] [])) _
                                refine XS.iloadN X0.here hx rfl (hb hby d2_189) rfl ?_
                                show Steps p.tables e below (s₁.setTop (mkF m 190 #[.val (.int p0), .unset] [(.int p0)])) _
                                refine X0.ldcInt hx hown (mvT hZ (hw _ (List.mem_of_getElem? (i := 24) rfl))) (g := (mkF m 190 #[.val (.int p0), .unset] [(.int p0)])) rfl (hb hby d2_190) _ ?_
                                exact kt)
                            by_cases hc192_101 : p0 = (65535 : Int32)
                            · have pre102 : ∀ t, Steps p.tables e below (s₁.setTop (mkF m 202 #[.val (.int p0), .val (.int (1 : Int32))] [(.int (1 : Int32))])) t → Steps p.tables e below (s₁.setTop (entryFrame m #[(.int p0)] 2)) t := fun t kt => pre100 t (by
                                  show Steps p.tables e below (s₁.setTop (mkF m 192 #[.val (.int p0), .unset] [(.int (65535 : Int32)), (.int p0)])) _
                                  refine XS.icmpNo X0.here hx rfl (hb hby d2_192) rfl (teq hc192_101).2 ?_
                                  show Steps p.tables e below (s₁.setTop (mkF m 195 #[.val (.int p0), .unset] [])) _
                                  refine XS.iconst X0.here hx rfl (hb hby d2_195) ?_
                                  show Steps p.tables e below (s₁.setTop (mkF m 196 #[.val (.int p0), .unset] [(.int (1 : Int32))])) _
                                  refine XS.goto X0.here hx rfl (pc0 := 196) (pc' := 200) rfl (hb hby d2_196) (by decide) (by decide) ?_
                                  show Steps p.tables e below (s₁.setTop (mkF m 200 #[.val (.int p0), .unset] [(.int (1 : Int32))])) _
                                  refine XS.istoreN X0.here hx rfl (hb hby d2_200) rfl (l' := #[.val (.int p0), .val (.int (1 : Int32))]) rfl ?_
                                  show Steps p.tables e below (s₁.setTop (mkF m 201 #[.val (.int p0), .val (.int (1 : Int32))] [])) _
                                  refine XS.iloadN X0.here hx rfl (hb hby d2_201) rfl ?_
                                  exact kt)
                              obtain ⟨fs, hr, hrun, hended, hW, hsame⟩ := X0.leave (v := some (.int (0 : Int32))) (fun h => by rw [Bd.returns] at h; cases h)
                              have hv201 : (f2 p0) = (0 : Int32) := by rw [f2, if_neg hc1_2, if_neg hc7_4, if_neg hc16_6, if_pos hc65_30, if_neg hc72_32, if_neg hc79_35, if_neg hc86_38, if_pos hc93_62, if_neg hc100_64, if_neg hc107_67, if_pos hc114_86, if_pos hc121_88, if_neg hc186_98, if_pos hc192_101]
                              refine ⟨_, _, pre102 _ ?_, hrun, hended, _, _, rfl, ?_, ⟨_, rfl⟩, hW, hsame.mono (by decide) (by decide)⟩
                              · show Steps p.tables e below (s₁.setTop (mkF m 202 #[.val (.int p0), .val (.int (1 : Int32))] [(.int (1 : Int32))])) _
                                refine XS.ifYes X0.here hx rfl (pc0 := 202) (pc' := 209) rfl (hb hby d2_202) rfl ((if0 _ _).trans (feq (by decide : ¬ ((1 : Int32) = (0 : Int32)))).2) (by decide) (by decide) ?_
                                show Steps p.tables e below (s₁.setTop (mkF m 209 #[.val (.int p0), .val (.int (1 : Int32))] [])) _
                                refine XS.iconst X0.here hx rfl (hb hby d2_209) ?_
                                show Steps p.tables e below (s₁.setTop (mkF m 210 #[.val (.int p0), .val (.int (1 : Int32))] [(.int (0 : Int32))])) _
                                exact retN X0 hx (t := .boolean) Bd.returns (by simp) (hb hby d2_210) hr
                              · show Q2 Z p0 h0 n0 _ s₁.heap _
                                rw [e0]
                                exact ⟨congrArg (fun q => some (Value.int q)) hv201.symm, N0, rfl⟩
                            · have pre103 : ∀ t, Steps p.tables e below (s₁.setTop (mkF m 202 #[.val (.int p0), .val (.int (0 : Int32))] [(.int (0 : Int32))])) t → Steps p.tables e below (s₁.setTop (entryFrame m #[(.int p0)] 2)) t := fun t kt => pre100 t (by
                                  show Steps p.tables e below (s₁.setTop (mkF m 192 #[.val (.int p0), .unset] [(.int (65535 : Int32)), (.int p0)])) _
                                  refine XS.icmpYes X0.here hx rfl (pc0 := 192) (pc' := 199) rfl (hb hby d2_192) rfl (feq hc192_101).2 (by decide) (by decide) ?_
                                  show Steps p.tables e below (s₁.setTop (mkF m 199 #[.val (.int p0), .unset] [])) _
                                  refine XS.iconst X0.here hx rfl (hb hby d2_199) ?_
                                  show Steps p.tables e below (s₁.setTop (mkF m 200 #[.val (.int p0), .unset] [(.int (0 : Int32))])) _
                                  refine XS.istoreN X0.here hx rfl (hb hby d2_200) rfl (l' := #[.val (.int p0), .val (.int (0 : Int32))]) rfl ?_
                                  show Steps p.tables e below (s₁.setTop (mkF m 201 #[.val (.int p0), .val (.int (0 : Int32))] [])) _
                                  refine XS.iloadN X0.here hx rfl (hb hby d2_201) rfl ?_
                                  exact kt)
                              obtain ⟨fs, hr, hrun, hended, hW, hsame⟩ := X0.leave (v := some (.int (1 : Int32))) (fun h => by rw [Bd.returns] at h; cases h)
                              have hv202 : (f2 p0) = (1 : Int32) := by rw [f2, if_neg hc1_2, if_neg hc7_4, if_neg hc16_6, if_pos hc65_30, if_neg hc72_32, if_neg hc79_35, if_neg hc86_38, if_pos hc93_62, if_neg hc100_64, if_neg hc107_67, if_pos hc114_86, if_pos hc121_88, if_neg hc186_98, if_neg hc192_101]
                              refine ⟨_, _, pre103 _ ?_, hrun, hended, _, _, rfl, ?_, ⟨_, rfl⟩, hW, hsame.mono (by decide) (by decide)⟩
                              · show Steps p.tables e below (s₁.setTop (mkF m 202 #[.val (.int p0), .val (.int (0 : Int32))] [(.int (0 : Int32))])) _
                                refine XS.ifNo X0.here hx rfl (hb hby d2_202) rfl ((if0 _ _).trans (teq (by decide : ((0 : Int32) = (0 : Int32)))).2) ?_
                                show Steps p.tables e below (s₁.setTop (mkF m 205 #[.val (.int p0), .val (.int (0 : Int32))] [])) _
                                refine XS.iconst X0.here hx rfl (hb hby d2_205) ?_
                                show Steps p.tables e below (s₁.setTop (mkF m 206 #[.val (.int p0), .val (.int (0 : Int32))] [(.int (1 : Int32))])) _
                                refine XS.goto X0.here hx rfl (pc0 := 206) (pc' := 210) rfl (hb hby d2_206) (by decide) (by decide) ?_
                                show Steps p.tables e below (s₁.setTop (mkF m 210 #[.val (.int p0), .val (.int (0 : Int32))] [(.int (1 : Int32))])) _
                                exact retN X0 hx (t := .boolean) Bd.returns (by simp) (hb hby d2_210) hr
                              · show Q2 Z p0 h0 n0 _ s₁.heap _
                                rw [e0]
                                exact ⟨congrArg (fun q => some (Value.int q)) hv202.symm, N0, rfl⟩
                        · have pre104 : ∀ t, Steps p.tables e below (s₁.setTop (mkF m 128 #[.val (.int p0), .unset] [(.int (8303 : Int32)), (.int p0)])) t → Steps p.tables e below (s₁.setTop (entryFrame m #[(.int p0)] 2)) t := fun t kt => pre87 t (by
                              show Steps p.tables e below (s₁.setTop (mkF m 121 #[.val (.int p0), .unset] [(.int (8206 : Int32)), (.int p0)])) _
                              refine XS.icmpNo X0.here hx rfl (hb hby d2_121) rfl (flt hc121_88).1 ?_
                              show Steps p.tables e below (s₁.setTop (mkF m 124 #[.val (.int p0), .unset] [])) _
                              refine XS.iloadN X0.here hx rfl (hb hby d2_124) rfl ?_
                              show Steps p.tables e below (s₁.setTop (mkF m 125 #[.val (.int p0), .unset] [(.int p0)])) _
                              refine XS.sipush X0.here hx rfl (hb hby d2_125) ?_
                              exact kt)
                          by_cases hc128_105 : (8303 : Int32) < p0
                          · have pre106 : ∀ t, Steps p.tables e below (s₁.setTop (mkF m 135 #[.val (.int p0), .unset] [(.int (8592 : Int32)), (.int p0)])) t → Steps p.tables e below (s₁.setTop (entryFrame m #[(.int p0)] 2)) t := fun t kt => pre104 t (by
                                show Steps p.tables e below (s₁.setTop (mkF m 128 #[.val (.int p0), .unset] [(.int (8303 : Int32)), (.int p0)])) _
                                refine XS.icmpNo X0.here hx rfl (hb hby d2_128) rfl (tlt hc128_105).2.2.2 ?_
                                show Steps p.tables e below (s₁.setTop (mkF m 131 #[.val (.int p0), .unset] [])) _
                                refine XS.iloadN X0.here hx rfl (hb hby d2_131) rfl ?_
                                show Steps p.tables e below (s₁.setTop (mkF m 132 #[.val (.int p0), .unset] [(.int p0)])) _
                                refine XS.sipush X0.here hx rfl (hb hby d2_132) ?_
                                exact kt)
                            by_cases hc135_107 : p0 < (8592 : Int32)
                            · have pre108 : ∀ t, Steps p.tables e below (s₁.setTop (mkF m 149 #[.val (.int p0), .unset] [(.int (12272 : Int32)), (.int p0)])) t → Steps p.tables e below (s₁.setTop (entryFrame m #[(.int p0)] 2)) t := fun t kt => pre106 t (by
                                  show Steps p.tables e below (s₁.setTop (mkF m 135 #[.val (.int p0), .unset] [(.int (8592 : Int32)), (.int p0)])) _
                                  refine XS.icmpYes X0.here hx rfl (pc0 := 135) (pc' := 145) rfl (hb hby d2_135) rfl (tlt hc135_107).1 (by decide) (by decide) ?_
                                  show Steps p.tables e below (s₁.setTop (mkF m 145 #[.val (.int p0), .unset] [])) _
                                  refine XS.iloadN X0.here hx rfl (hb hby d2_145) rfl ?_
                                  show Steps p.tables e below (s₁.setTop (mkF m 146 #[.val (.int p0), .unset] [(.int p0)])) _
                                  refine XS.sipush X0.here hx rfl (hb hby d2_146) ?_
                                  exact kt)
                              have hd149_109 : p0 < (12272 : Int32) := Int32.lt_of_lt_of_le hc135_107 (by decide)
                              have pre110 : ∀ t, Steps p.tables e below (s₁.setTop (mkF m 162 #[.val (.int p0), .unset] [(.int (55296 : Int32)), (.int p0)])) t → Steps p.tables e below (s₁.setTop (entryFrame m #[(.int p0)] 2)) t := fun t kt => pre108 t (by
                                  show Steps p.tables e below (s₁.setTop (mkF m 149 #[.val (.int p0), .unset] [(.int (12272 : Int32)), (.int p0)])) _
                                  refine XS.icmpYes X0.here hx rfl (pc0 := 149) (pc' := 159) rfl (hb hby d2_149) rfl (tlt hd149_109).1 (by decide) (by decide) ?_
                                  show Steps p.tables e below (s₁.setTop (mkF m 159 #[.val (.int p0), .unset] [])) _
                                  refine XS.iloadN X0.here hx rfl (hb hby d2_159) rfl ?_
                                  show Steps p.tables e below (s₁.setTop (mkF m 160 #[.val (.int p0), .unset] [(.int p0)])) _
                                  refine X0.ldcInt hx hown (mvT hZ (hw _ (List.mem_of_getElem? (i := 21) rfl))) (g := (mkF m 160 #[.val (.int p0), .unset] [(.int p0)])) rfl (hb hby d2_160) _ ?_
                                  exact kt)
                              have hd162_111 : p0 < (55296 : Int32) := Int32.lt_of_lt_of_le hc135_107 (by decide)
                              have pre112 : ∀ t, Steps p.tables e below (s₁.setTop (mkF m 174 #[.val (.int p0), .unset] [(.int (64976 : Int32)), (.int p0)])) t → Steps p.tables e below (s₁.setTop (entryFrame m #[(.int p0)] 2)) t := fun t kt => pre110 t (by
                                  show Steps p.tables e below (s₁.setTop (mkF m 162 #[.val (.int p0), .unset] [(.int (55296 : Int32)), (.int p0)])) _
                                  refine XS.icmpYes X0.here hx rfl (pc0 := 162) (pc' := 171) rfl (hb hby d2_162) rfl (tlt hd162_111).1 (by decide) (by decide) ?_
                                  show Steps p.tables e below (s₁.setTop (mkF m 171 #[.val (.int p0), .unset] [])) _
                                  refine XS.iloadN X0.here hx rfl (hb hby d2_171) rfl ?_
                                  show Steps p.tables e below (s₁.setTop (mkF m 172 #[.val (.int p0), .unset] [(.int p0)])) _
                                  refine X0.ldcInt hx hown (mvT hZ (hw _ (List.mem_of_getElem? (i := 22) rfl))) (g := (mkF m 172 #[.val (.int p0), .unset] [(.int p0)])) rfl (hb hby d2_172) _ ?_
                                  exact kt)
                              have hd174_113 : p0 < (64976 : Int32) := Int32.lt_of_lt_of_le hc135_107 (by decide)
                              have pre114 : ∀ t, Steps p.tables e below (s₁.setTop (mkF m 186 #[.val (.int p0), .unset] [(.int (65534 : Int32)), (.int p0)])) t → Steps p.tables e below (s₁.setTop (entryFrame m #[(.int p0)] 2)) t := fun t kt => pre112 t (by
                                  show Steps p.tables e below (s₁.setTop (mkF m 174 #[.val (.int p0), .unset] [(.int (64976 : Int32)), (.int p0)])) _
                                  refine XS.icmpYes X0.here hx rfl (pc0 := 174) (pc' := 183) rfl (hb hby d2_174) rfl (tlt hd174_113).1 (by decide) (by decide) ?_
                                  show Steps p.tables e below (s₁.setTop (mkF m 183 #[.val (.int p0), .unset] [])) _
                                  refine XS.iloadN X0.here hx rfl (hb hby d2_183) rfl ?_
                                  show Steps p.tables e below (s₁.setTop (mkF m 184 #[.val (.int p0), .unset] [(.int p0)])) _
                                  refine X0.ldcInt hx hown (mvT hZ (hw _ (List.mem_of_getElem? (i := 23) rfl))) (g := (mkF m 184 #[.val (.int p0), .unset] [(.int p0)])) rfl (hb hby d2_184) _ ?_
                                  exact kt)
                              by_cases hc186_115 : p0 = (65534 : Int32)
                              · have pre116 : ∀ t, Steps p.tables e below (s₁.setTop (mkF m 202 #[.val (.int p0), .val (.int (1 : Int32))] [(.int (1 : Int32))])) t → Steps p.tables e below (s₁.setTop (entryFrame m #[(.int p0)] 2)) t := fun t kt => pre114 t (by
                                    show Steps p.tables e below (s₁.setTop (mkF m 186 #[.val (.int p0), .unset] [(.int (65534 : Int32)), (.int p0)])) _
                                    refine XS.icmpYes X0.here hx rfl (pc0 := 186) (pc' := 195) rfl (hb hby d2_186) rfl (teq hc186_115).1 (by decide) (by decide) ?_
                                    show Steps p.tables e below (s₁.setTop (mkF m 195 #[.val (.int p0), .unset] [])) _
                                    refine XS.iconst X0.here hx rfl (hb hby d2_195) ?_
                                    show Steps p.tables e below (s₁.setTop (mkF m 196 #[.val (.int p0), .unset] [(.int (1 : Int32))])) _
                                    refine XS.goto X0.here hx rfl (pc0 := 196) (pc' := 200) rfl (hb hby d2_196) (by decide) (by decide) ?_
                                    show Steps p.tables e below (s₁.setTop (mkF m 200 #[.val (.int p0), .unset] [(.int (1 : Int32))])) _
                                    refine XS.istoreN X0.here hx rfl (hb hby d2_200) rfl (l' := #[.val (.int p0), .val (.int (1 : Int32))]) rfl ?_
                                    show Steps p.tables e below (s₁.setTop (mkF m 201 #[.val (.int p0), .val (.int (1 : Int32))] [])) _
                                    refine XS.iloadN X0.here hx rfl (hb hby d2_201) rfl ?_
                                    exact kt)
                                obtain ⟨fs, hr, hrun, hended, hW, hsame⟩ := X0.leave (v := some (.int (0 : Int32))) (fun h => by rw [Bd.returns] at h; cases h)
                                have hv203 : (f2 p0) = (0 : Int32) := by rw [f2, if_neg hc1_2, if_neg hc7_4, if_neg hc16_6, if_pos hc65_30, if_neg hc72_32, if_neg hc79_35, if_neg hc86_38, if_pos hc93_62, if_neg hc100_64, if_neg hc107_67, if_pos hc114_86, if_neg hc121_88, if_pos hc128_105, if_pos hc135_107, if_pos hc186_115]
                                refine ⟨_, _, pre116 _ ?_, hrun, hended, _, _, rfl, ?_, ⟨_, rfl⟩, hW, hsame.mono (by decide) (by decide)⟩
                                · show Steps p.tables e below (s₁.setTop (mkF m 202 #[.val (.int p0), .val (.int (1 : Int32))] [(.int (1 : Int32))])) _
                                  refine XS.ifYes X0.here hx rfl (pc0 := 202) (pc' := 209) rfl (hb hby d2_202) rfl ((if0 _ _).trans (feq (by decide : ¬ ((1 : Int32) = (0 : Int32)))).2) (by decide) (by decide) ?_
                                  show Steps p.tables e below (s₁.setTop (mkF m 209 #[.val (.int p0), .val (.int (1 : Int32))] [])) _
                                  refine XS.iconst X0.here hx rfl (hb hby d2_209) ?_
                                  show Steps p.tables e below (s₁.setTop (mkF m 210 #[.val (.int p0), .val (.int (1 : Int32))] [(.int (0 : Int32))])) _
                                  exact retN X0 hx (t := .boolean) Bd.returns (by simp) (hb hby d2_210) hr
                                · show Q2 Z p0 h0 n0 _ s₁.heap _
                                  rw [e0]
                                  exact ⟨congrArg (fun q => some (Value.int q)) hv203.symm, N0, rfl⟩
                              · have pre117 : ∀ t, Steps p.tables e below (s₁.setTop (mkF m 192 #[.val (.int p0), .unset] [(.int (65535 : Int32)), (.int p0)])) t → Steps p.tables e below (s₁.setTop (entryFrame m #[(.int p0)] 2)) t := fun t kt => pre114 t (by
                                    show Steps p.tables e below (s₁.setTop (mkF m 186 #[.val (.int p0), .unset] [(.int (65534 : Int32)), (.int p0)])) _
                                    refine XS.icmpNo X0.here hx rfl (hb hby d2_186) rfl (feq hc186_115).1 ?_
                                    show Steps p.tables e below (s₁.setTop (mkF m 189 #[.val (.int p0), .unset] [])) _
                                    refine XS.iloadN X0.here hx rfl (hb hby d2_189) rfl ?_
                                    show Steps p.tables e below (s₁.setTop (mkF m 190 #[.val (.int p0), .unset] [(.int p0)])) _
                                    refine X0.ldcInt hx hown (mvT hZ (hw _ (List.mem_of_getElem? (i := 24) rfl))) (g := (mkF m 190 #[.val (.int p0), .unset] [(.int p0)])) rfl (hb hby d2_190) _ ?_
                                    exact kt)
                                by_cases hc192_118 : p0 = (65535 : Int32)
                                · have pre119 : ∀ t, Steps p.tables e below (s₁.setTop (mkF m 202 #[.val (.int p0), .val (.int (1 : Int32))] [(.int (1 : Int32))])) t → Steps p.tables e below (s₁.setTop (entryFrame m #[(.int p0)] 2)) t := fun t kt => pre117 t (by
                                      show Steps p.tables e below (s₁.setTop (mkF m 192 #[.val (.int p0), .unset] [(.int (65535 : Int32)), (.int p0)])) _
                                      refine XS.icmpNo X0.here hx rfl (hb hby d2_192) rfl (teq hc192_118).2 ?_
                                      show Steps p.tables e below (s₁.setTop (mkF m 195 #[.val (.int p0), .unset] [])) _
                                      refine XS.iconst X0.here hx rfl (hb hby d2_195) ?_
                                      show Steps p.tables e below (s₁.setTop (mkF m 196 #[.val (.int p0), .unset] [(.int (1 : Int32))])) _
                                      refine XS.goto X0.here hx rfl (pc0 := 196) (pc' := 200) rfl (hb hby d2_196) (by decide) (by decide) ?_
                                      show Steps p.tables e below (s₁.setTop (mkF m 200 #[.val (.int p0), .unset] [(.int (1 : Int32))])) _
                                      refine XS.istoreN X0.here hx rfl (hb hby d2_200) rfl (l' := #[.val (.int p0), .val (.int (1 : Int32))]) rfl ?_
                                      show Steps p.tables e below (s₁.setTop (mkF m 201 #[.val (.int p0), .val (.int (1 : Int32))] [])) _
                                      refine XS.iloadN X0.here hx rfl (hb hby d2_201) rfl ?_
                                      exact kt)
                                  obtain ⟨fs, hr, hrun, hended, hW, hsame⟩ := X0.leave (v := some (.int (0 : Int32))) (fun h => by rw [Bd.returns] at h; cases h)
                                  have hv204 : (f2 p0) = (0 : Int32) := by rw [f2, if_neg hc1_2, if_neg hc7_4, if_neg hc16_6, if_pos hc65_30, if_neg hc72_32, if_neg hc79_35, if_neg hc86_38, if_pos hc93_62, if_neg hc100_64, if_neg hc107_67, if_pos hc114_86, if_neg hc121_88, if_pos hc128_105, if_pos hc135_107, if_neg hc186_115, if_pos hc192_118]
                                  refine ⟨_, _, pre119 _ ?_, hrun, hended, _, _, rfl, ?_, ⟨_, rfl⟩, hW, hsame.mono (by decide) (by decide)⟩
                                  · show Steps p.tables e below (s₁.setTop (mkF m 202 #[.val (.int p0), .val (.int (1 : Int32))] [(.int (1 : Int32))])) _
                                    refine XS.ifYes X0.here hx rfl (pc0 := 202) (pc' := 209) rfl (hb hby d2_202) rfl ((if0 _ _).trans (feq (by decide : ¬ ((1 : Int32) = (0 : Int32)))).2) (by decide) (by decide) ?_
                                    show Steps p.tables e below (s₁.setTop (mkF m 209 #[.val (.int p0), .val (.int (1 : Int32))] [])) _
                                    refine XS.iconst X0.here hx rfl (hb hby d2_209) ?_
                                    show Steps p.tables e below (s₁.setTop (mkF m 210 #[.val (.int p0), .val (.int (1 : Int32))] [(.int (0 : Int32))])) _
                                    exact retN X0 hx (t := .boolean) Bd.returns (by simp) (hb hby d2_210) hr
                                  · show Q2 Z p0 h0 n0 _ s₁.heap _
                                    rw [e0]
                                    exact ⟨congrArg (fun q => some (Value.int q)) hv204.symm, N0, rfl⟩
                                · have pre120 : ∀ t, Steps p.tables e below (s₁.setTop (mkF m 202 #[.val (.int p0), .val (.int (0 : Int32))] [(.int (0 : Int32))])) t → Steps p.tables e below (s₁.setTop (entryFrame m #[(.int p0)] 2)) t := fun t kt => pre117 t (by
                                      show Steps p.tables e below (s₁.setTop (mkF m 192 #[.val (.int p0), .unset] [(.int (65535 : Int32)), (.int p0)])) _
                                      refine XS.icmpYes X0.here hx rfl (pc0 := 192) (pc' := 199) rfl (hb hby d2_192) rfl (feq hc192_118).2 (by decide) (by decide) ?_
                                      show Steps p.tables e below (s₁.setTop (mkF m 199 #[.val (.int p0), .unset] [])) _
                                      refine XS.iconst X0.here hx rfl (hb hby d2_199) ?_
                                      show Steps p.tables e below (s₁.setTop (mkF m 200 #[.val (.int p0), .unset] [(.int (0 : Int32))])) _
                                      refine XS.istoreN X0.here hx rfl (hb hby d2_200) rfl (l' := #[.val (.int p0), .val (.int (0 : Int32))]) rfl ?_
                                      show Steps p.tables e below (s₁.setTop (mkF m 201 #[.val (.int p0), .val (.int (0 : Int32))] [])) _
                                      refine XS.iloadN X0.here hx rfl (hb hby d2_201) rfl ?_
                                      exact kt)
                                  obtain ⟨fs, hr, hrun, hended, hW, hsame⟩ := X0.leave (v := some (.int (1 : Int32))) (fun h => by rw [Bd.returns] at h; cases h)
                                  have hv205 : (f2 p0) = (1 : Int32) := by rw [f2, if_neg hc1_2, if_neg hc7_4, if_neg hc16_6, if_pos hc65_30, if_neg hc72_32, if_neg hc79_35, if_neg hc86_38, if_pos hc93_62, if_neg hc100_64, if_neg hc107_67, if_pos hc114_86, if_neg hc121_88, if_pos hc128_105, if_pos hc135_107, if_neg hc186_115, if_neg hc192_118]
                                  refine ⟨_, _, pre120 _ ?_, hrun, hended, _, _, rfl, ?_, ⟨_, rfl⟩, hW, hsame.mono (by decide) (by decide)⟩
                                  · show Steps p.tables e below (s₁.setTop (mkF m 202 #[.val (.int p0), .val (.int (0 : Int32))] [(.int (0 : Int32))])) _
                                    refine XS.ifNo X0.here hx rfl (hb hby d2_202) rfl ((if0 _ _).trans (teq (by decide : ((0 : Int32) = (0 : Int32)))).2) ?_
                                    show Steps p.tables e below (s₁.setTop (mkF m 205 #[.val (.int p0), .val (.int (0 : Int32))] [])) _
                                    refine XS.iconst X0.here hx rfl (hb hby d2_205) ?_
                                    show Steps p.tables e below (s₁.setTop (mkF m 206 #[.val (.int p0), .val (.int (0 : Int32))] [(.int (1 : Int32))])) _
                                    refine XS.goto X0.here hx rfl (pc0 := 206) (pc' := 210) rfl (hb hby d2_206) (by decide) (by decide) ?_
                                    show Steps p.tables e below (s₁.setTop (mkF m 210 #[.val (.int p0), .val (.int (0 : Int32))] [(.int (1 : Int32))])) _
                                    exact retN X0 hx (t := .boolean) Bd.returns (by simp) (hb hby d2_210) hr
                                  · show Q2 Z p0 h0 n0 _ s₁.heap _
                                    rw [e0]
                                    exact ⟨congrArg (fun q => some (Value.int q)) hv205.symm, N0, rfl⟩
                            · have pre121 : ∀ t, Steps p.tables e below (s₁.setTop (mkF m 142 #[.val (.int p0), .unset] [(.int (11263 : Int32)), (.int p0)])) t → Steps p.tables e below (s₁.setTop (entryFrame m #[(.int p0)] 2)) t := fun t kt => pre106 t (by
                                  show Steps p.tables e below (s₁.setTop (mkF m 135 #[.val (.int p0), .unset] [(.int (8592 : Int32)), (.int p0)])) _
                                  refine XS.icmpNo X0.here hx rfl (hb hby d2_135) rfl (flt hc135_107).1 ?_
                                  show Steps p.tables e below (s₁.setTop (mkF m 138 #[.val (.int p0), .unset] [])) _
                                  refine XS.iloadN X0.here hx rfl (hb hby d2_138) rfl ?_
                                  show Steps p.tables e below (s₁.setTop (mkF m 139 #[.val (.int p0), .unset] [(.int p0)])) _
                                  refine XS.sipush X0.here hx rfl (hb hby d2_139) ?_
                                  exact kt)
                              by_cases hc142_122 : (11263 : Int32) < p0
                              · have pre123 : ∀ t, Steps p.tables e below (s₁.setTop (mkF m 149 #[.val (.int p0), .unset] [(.int (12272 : Int32)), (.int p0)])) t → Steps p.tables e below (s₁.setTop (entryFrame m #[(.int p0)] 2)) t := fun t kt => pre121 t (by
                                    show Steps p.tables e below (s₁.setTop (mkF m 142 #[.val (.int p0), .unset] [(.int (11263 : Int32)), (.int p0)])) _
                                    refine XS.icmpNo X0.here hx rfl (hb hby d2_142) rfl (tlt hc142_122).2.2.2 ?_
                                    show Steps p.tables e below (s₁.setTop (mkF m 145 #[.val (.int p0), .unset] [])) _
                                    refine XS.iloadN X0.here hx rfl (hb hby d2_145) rfl ?_
                                    show Steps p.tables e below (s₁.setTop (mkF m 146 #[.val (.int p0), .unset] [(.int p0)])) _
                                    refine XS.sipush X0.here hx rfl (hb hby d2_146) ?_
                                    exact kt)
                                by_cases hc149_124 : p0 < (12272 : Int32)
                                · have pre125 : ∀ t, Steps p.tables e below (s₁.setTop (mkF m 162 #[.val (.int p0), .unset] [(.int (55296 : Int32)), (.int p0)])) t → Steps p.tables e below (s₁.setTop (entryFrame m #[(.int p0)] 2)) t := fun t kt => pre123 t (by
                                      show Steps p.tables e below (s₁.setTop (mkF m 149 #[.val (.int p0), .unset] [(.int (12272 : Int32)), (.int p0)])) _
                                      refine XS.icmpYes X0.here hx rfl (pc0 := 149) (pc' := 159) rfl (hb hby d2_149) rfl (tlt hc149_124).1 (by decide) (by decide) ?_
                                      show Steps p.tables e below (s₁.setTop (mkF m 159 #[.val (.int p0), .unset] [])) _
                                      refine XS.iloadN X0.here hx rfl (hb hby d2_159) rfl ?_
                                      show Steps p.tables e below (s₁.setTop (mkF m 160 #[.val (.int p0), .unset] [(.int p0)])) _
                                      refine X0.ldcInt hx hown (mvT hZ (hw _ (List.mem_of_getElem? (i := 21) rfl))) (g := (mkF m 160 #[.val (.int p0), .unset] [(.int p0)])) rfl (hb hby d2_160) _ ?_
                                      exact kt)
                                  have hd162_126 : p0 < (55296 : Int32) := Int32.lt_of_lt_of_le hc149_124 (by decide)
                                  have pre127 : ∀ t, Steps p.tables e below (s₁.setTop (mkF m 174 #[.val (.int p0), .unset] [(.int (64976 : Int32)), (.int p0)])) t → Steps p.tables e below (s₁.setTop (entryFrame m #[(.int p0)] 2)) t := fun t kt => pre125 t (by
                                      show Steps p.tables e below (s₁.setTop (mkF m 162 #[.val (.int p0), .unset] [(.int (55296 : Int32)), (.int p0)])) _
                                      refine XS.icmpYes X0.here hx rfl (pc0 := 162) (pc' := 171) rfl (hb hby d2_162) rfl (tlt hd162_126).1 (by decide) (by decide) ?_
                                      show Steps p.tables e below (s₁.setTop (mkF m 171 #[.val (.int p0), .unset] [])) _
                                      refine XS.iloadN X0.here hx rfl (hb hby d2_171) rfl ?_
                                      show Steps p.tables e below (s₁.setTop (mkF m 172 #[.val (.int p0), .unset] [(.int p0)])) _
                                      refine X0.ldcInt hx hown (mvT hZ (hw _ (List.mem_of_getElem? (i := 22) rfl))) (g := (mkF m 172 #[.val (.int p0), .unset] [(.int p0)])) rfl (hb hby d2_172) _ ?_
                                      exact kt)
                                  have hd174_128 : p0 < (64976 : Int32) := Int32.lt_of_lt_of_le hc149_124 (by decide)
                                  have pre129 : ∀ t, Steps p.tables e below (s₁.setTop (mkF m 186 #[.val (.int p0), .unset] [(.int (65534 : Int32)), (.int p0)])) t → Steps p.tables e below (s₁.setTop (entryFrame m #[(.int p0)] 2)) t := fun t kt => pre127 t (by
                                      show Steps p.tables e below (s₁.setTop (mkF m 174 #[.val (.int p0), .unset] [(.int (64976 : Int32)), (.int p0)])) _
                                      refine XS.icmpYes X0.here hx rfl (pc0 := 174) (pc' := 183) rfl (hb hby d2_174) rfl (tlt hd174_128).1 (by decide) (by decide) ?_
                                      show Steps p.tables e below (s₁.setTop (mkF m 183 #[.val (.int p0), .unset] [])) _
                                      refine XS.iloadN X0.here hx rfl (hb hby d2_183) rfl ?_
                                      show Steps p.tables e below (s₁.setTop (mkF m 184 #[.val (.int p0), .unset] [(.int p0)])) _
                                      refine X0.ldcInt hx hown (mvT hZ (hw _ (List.mem_of_getElem? (i := 23) rfl))) (g := (mkF m 184 #[.val (.int p0), .unset] [(.int p0)])) rfl (hb hby d2_184) _ ?_
                                      exact kt)
                                  by_cases hc186_130 : p0 = (65534 : Int32)
                                  · have pre131 : ∀ t, Steps p.tables e below (s₁.setTop (mkF m 202 #[.val (.int p0), .val (.int (1 : Int32))] [(.int (1 : Int32))])) t → Steps p.tables e below (s₁.setTop (entryFrame m #[(.int p0)] 2)) t := fun t kt => pre129 t (by
                                        show Steps p.tables e below (s₁.setTop (mkF m 186 #[.val (.int p0), .unset] [(.int (65534 : Int32)), (.int p0)])) _
                                        refine XS.icmpYes X0.here hx rfl (pc0 := 186) (pc' := 195) rfl (hb hby d2_186) rfl (teq hc186_130).1 (by decide) (by decide) ?_
                                        show Steps p.tables e below (s₁.setTop (mkF m 195 #[.val (.int p0), .unset] [])) _
                                        refine XS.iconst X0.here hx rfl (hb hby d2_195) ?_
                                        show Steps p.tables e below (s₁.setTop (mkF m 196 #[.val (.int p0), .unset] [(.int (1 : Int32))])) _
                                        refine XS.goto X0.here hx rfl (pc0 := 196) (pc' := 200) rfl (hb hby d2_196) (by decide) (by decide) ?_
                                        show Steps p.tables e below (s₁.setTop (mkF m 200 #[.val (.int p0), .unset] [(.int (1 : Int32))])) _
                                        refine XS.istoreN X0.here hx rfl (hb hby d2_200) rfl (l' := #[.val (.int p0), .val (.int (1 : Int32))]) rfl ?_
                                        show Steps p.tables e below (s₁.setTop (mkF m 201 #[.val (.int p0), .val (.int (1 : Int32))] [])) _
                                        refine XS.iloadN X0.here hx rfl (hb hby d2_201) rfl ?_
                                        exact kt)
                                    obtain ⟨fs, hr, hrun, hended, hW, hsame⟩ := X0.leave (v := some (.int (0 : Int32))) (fun h => by rw [Bd.returns] at h; cases h)
                                    have hv206 : (f2 p0) = (0 : Int32) := by rw [f2, if_neg hc1_2, if_neg hc7_4, if_neg hc16_6, if_pos hc65_30, if_neg hc72_32, if_neg hc79_35, if_neg hc86_38, if_pos hc93_62, if_neg hc100_64, if_neg hc107_67, if_pos hc114_86, if_neg hc121_88, if_pos hc128_105, if_neg hc135_107, if_pos hc142_122, if_pos hc149_124, if_pos hc186_130]
                                    refine ⟨_, _, pre131 _ ?_, hrun, hended, _, _, rfl, ?_, ⟨_, rfl⟩, hW, hsame.mono (by decide) (by decide)⟩
                                    · show Steps p.tables e below (s₁.setTop (mkF m 202 #[.val (.int p0), .val (.int (1 : Int32))] [(.int (1 : Int32))])) _
                                      refine XS.ifYes X0.here hx rfl (pc0 := 202) (pc' := 209) rfl (hb hby d2_202) rfl ((if0 _ _).trans (feq (by decide : ¬ ((1 : Int32) = (0 : Int32)))).2) (by decide) (by decide) ?_
                                      show Steps p.tables e below (s₁.setTop (mkF m 209 #[.val (.int p0), .val (.int (1 : Int32))] [])) _
                                      refine XS.iconst X0.here hx rfl (hb hby d2_209) ?_
                                      show Steps p.tables e below (s₁.setTop (mkF m 210 #[.val (.int p0), .val (.int (1 : Int32))] [(.int (0 : Int32))])) _
                                      exact retN X0 hx (t := .boolean) Bd.returns (by simp) (hb hby d2_210) hr
                                    · show Q2 Z p0 h0 n0 _ s₁.heap _
                                      rw [e0]
                                      exact ⟨congrArg (fun q => some (Value.int q)) hv206.symm, N0, rfl⟩
                                  · have pre132 : ∀ t, Steps p.tables e below (s₁.setTop (mkF m 192 #[.val (.int p0), .unset] [(.int (65535 : Int32)), (.int p0)])) t → Steps p.tables e below (s₁.setTop (entryFrame m #[(.int p0)] 2)) t := fun t kt => pre129 t (by
                                        show Steps p.tables e below (s₁.setTop (mkF m 186 #[.val (.int p0), .unset] [(.int (65534 : Int32)), (.int p0)])) _
                                        refine XS.icmpNo X0.here hx rfl (hb hby d2_186) rfl (feq hc186_130).1 ?_
                                        show Steps p.tables e below (s₁.setTop (mkF m 189 #[.val (.int p0), .unset] [])) _
                                        refine XS.iloadN X0.here hx rfl (hb hby d2_189) rfl ?_
                                        show Steps p.tables e below (s₁.setTop (mkF m 190 #[.val (.int p0), .unset] [(.int p0)])) _
                                        refine X0.ldcInt hx hown (mvT hZ (hw _ (List.mem_of_getElem? (i := 24) rfl))) (g := (mkF m 190 #[.val (.int p0), .unset] [(.int p0)])) rfl (hb hby d2_190) _ ?_
                                        exact kt)
                                    by_cases hc192_133 : p0 = (65535 : Int32)
                                    · have pre134 : ∀ t, Steps p.tables e below (s₁.setTop (mkF m 202 #[.val (.int p0), .val (.int (1 : Int32))] [(.int (1 : Int32))])) t → Steps p.tables e below (s₁.setTop (entryFrame m #[(.int p0)] 2)) t := fun t kt => pre132 t (by
                                          show Steps p.tables e below (s₁.setTop (mkF m 192 #[.val (.int p0), .unset] [(.int (65535 : Int32)), (.int p0)])) _
                                          refine XS.icmpNo X0.here hx rfl (hb hby d2_192) rfl (teq hc192_133).2 ?_
                                          show Steps p.tables e below (s₁.setTop (mkF m 195 #[.val (.int p0), .unset] [])) _
                                          refine XS.iconst X0.here hx rfl (hb hby d2_195) ?_
                                          show Steps p.tables e below (s₁.setTop (mkF m 196 #[.val (.int p0), .unset] [(.int (1 : Int32))])) _
                                          refine XS.goto X0.here hx rfl (pc0 := 196) (pc' := 200) rfl (hb hby d2_196) (by decide) (by decide) ?_
                                          show Steps p.tables e below (s₁.setTop (mkF m 200 #[.val (.int p0), .unset] [(.int (1 : Int32))])) _
                                          refine XS.istoreN X0.here hx rfl (hb hby d2_200) rfl (l' := #[.val (.int p0), .val (.int (1 : Int32))]) rfl ?_
                                          show Steps p.tables e below (s₁.setTop (mkF m 201 #[.val (.int p0), .val (.int (1 : Int32))] [])) _
                                          refine XS.iloadN X0.here hx rfl (hb hby d2_201) rfl ?_
                                          exact kt)
                                      obtain ⟨fs, hr, hrun, hended, hW, hsame⟩ := X0.leave (v := some (.int (0 : Int32))) (fun h => by rw [Bd.returns] at h; cases h)
                                      have hv207 : (f2 p0) = (0 : Int32) := by rw [f2, if_neg hc1_2, if_neg hc7_4, if_neg hc16_6, if_pos hc65_30, if_neg hc72_32, if_neg hc79_35, if_neg hc86_38, if_pos hc93_62, if_neg hc100_64, if_neg hc107_67, if_pos hc114_86, if_neg hc121_88, if_pos hc128_105, if_neg hc135_107, if_pos hc142_122, if_pos hc149_124, if_neg hc186_130, if_pos hc192_133]
                                      refine ⟨_, _, pre134 _ ?_, hrun, hended, _, _, rfl, ?_, ⟨_, rfl⟩, hW, hsame.mono (by decide) (by decide)⟩
                                      · show Steps p.tables e below (s₁.setTop (mkF m 202 #[.val (.int p0), .val (.int (1 : Int32))] [(.int (1 : Int32))])) _
                                        refine XS.ifYes X0.here hx rfl (pc0 := 202) (pc' := 209) rfl (hb hby d2_202) rfl ((if0 _ _).trans (feq (by decide : ¬ ((1 : Int32) = (0 : Int32)))).2) (by decide) (by decide) ?_
                                        show Steps p.tables e below (s₁.setTop (mkF m 209 #[.val (.int p0), .val (.int (1 : Int32))] [])) _
                                        refine XS.iconst X0.here hx rfl (hb hby d2_209) ?_
                                        show Steps p.tables e below (s₁.setTop (mkF m 210 #[.val (.int p0), .val (.int (1 : Int32))] [(.int (0 : Int32))])) _
                                        exact retN X0 hx (t := .boolean) Bd.returns (by simp) (hb hby d2_210) hr
                                      · show Q2 Z p0 h0 n0 _ s₁.heap _
                                        rw [e0]
                                        exact ⟨congrArg (fun q => some (Value.int q)) hv207.symm, N0, rfl⟩
                                    · have pre135 : ∀ t, Steps p.tables e below (s₁.setTop (mkF m 202 #[.val (.int p0), .val (.int (0 : Int32))] [(.int (0 : Int32))])) t → Steps p.tables e below (s₁.setTop (entryFrame m #[(.int p0)] 2)) t := fun t kt => pre132 t (by
                                          show Steps p.tables e below (s₁.setTop (mkF m 192 #[.val (.int p0), .unset] [(.int (65535 : Int32)), (.int p0)])) _
                                          refine XS.icmpYes X0.here hx rfl (pc0 := 192) (pc' := 199) rfl (hb hby d2_192) rfl (feq hc192_133).2 (by decide) (by decide) ?_
                                          show Steps p.tables e below (s₁.setTop (mkF m 199 #[.val (.int p0), .unset] [])) _
                                          refine XS.iconst X0.here hx rfl (hb hby d2_199) ?_
                                          show Steps p.tables e below (s₁.setTop (mkF m 200 #[.val (.int p0), .unset] [(.int (0 : Int32))])) _
                                          refine XS.istoreN X0.here hx rfl (hb hby d2_200) rfl (l' := #[.val (.int p0), .val (.int (0 : Int32))]) rfl ?_
                                          show Steps p.tables e below (s₁.setTop (mkF m 201 #[.val (.int p0), .val (.int (0 : Int32))] [])) _
                                          refine XS.iloadN X0.here hx rfl (hb hby d2_201) rfl ?_
                                          exact kt)
                                      obtain ⟨fs, hr, hrun, hended, hW, hsame⟩ := X0.leave (v := some (.int (1 : Int32))) (fun h => by rw [Bd.returns] at h; cases h)
                                      have hv208 : (f2 p0) = (1 : Int32) := by rw [f2, if_neg hc1_2, if_neg hc7_4, if_neg hc16_6, if_pos hc65_30, if_neg hc72_32, if_neg hc79_35, if_neg hc86_38, if_pos hc93_62, if_neg hc100_64, if_neg hc107_67, if_pos hc114_86, if_neg hc121_88, if_pos hc128_105, if_neg hc135_107, if_pos hc142_122, if_pos hc149_124, if_neg hc186_130, if_neg hc192_133]
                                      refine ⟨_, _, pre135 _ ?_, hrun, hended, _, _, rfl, ?_, ⟨_, rfl⟩, hW, hsame.mono (by decide) (by decide)⟩
                                      · show Steps p.tables e below (s₁.setTop (mkF m 202 #[.val (.int p0), .val (.int (0 : Int32))] [(.int (0 : Int32))])) _
                                        refine XS.ifNo X0.here hx rfl (hb hby d2_202) rfl ((if0 _ _).trans (teq (by decide : ((0 : Int32) = (0 : Int32)))).2) ?_
                                        show Steps p.tables e below (s₁.setTop (mkF m 205 #[.val (.int p0), .val (.int (0 : Int32))] [])) _
                                        refine XS.iconst X0.here hx rfl (hb hby d2_205) ?_
                                        show Steps p.tables e below (s₁.setTop (mkF m 206 #[.val (.int p0), .val (.int (0 : Int32))] [(.int (1 : Int32))])) _
                                        refine XS.goto X0.here hx rfl (pc0 := 206) (pc' := 210) rfl (hb hby d2_206) (by decide) (by decide) ?_
                                        show Steps p.tables e below (s₁.setTop (mkF m 210 #[.val (.int p0), .val (.int (0 : Int32))] [(.int (1 : Int32))])) _
                                        exact retN X0 hx (t := .boolean) Bd.returns (by simp) (hb hby d2_210) hr
                                      · show Q2 Z p0 h0 n0 _ s₁.heap _
                                        rw [e0]
                                        exact ⟨congrArg (fun q => some (Value.int q)) hv208.symm, N0, rfl⟩
                                · have pre136 : ∀ t, Steps p.tables e below (s₁.setTop (mkF m 156 #[.val (.int p0), .unset] [(.int (12288 : Int32)), (.int p0)])) t → Steps p.tables e below (s₁.setTop (entryFrame m #[(.int p0)] 2)) t := fun t kt => pre123 t (by
                                      show Steps p.tables e below (s₁.setTop (mkF m 149 #[.val (.int p0), .unset] [(.int (12272 : Int32)), (.int p0)])) _
                                      refine XS.icmpNo X0.here hx rfl (hb hby d2_149) rfl (flt hc149_124).1 ?_
                                      show Steps p.tables e below (s₁.setTop (mkF m 152 #[.val (.int p0), .unset] [])) _
                                      refine XS.iloadN X0.here hx rfl (hb hby d2_152) rfl ?_
                                      show Steps p.tables e below (s₁.setTop (mkF m 153 #[.val (.int p0), .unset] [(.int p0)])) _
                                      refine XS.sipush X0.here hx rfl (hb hby d2_153) ?_
                                      exact kt)
                                  by_cases hc156_137 : (12288 : Int32) < p0
                                  · have pre138 : ∀ t, Steps p.tables e below (s₁.setTop (mkF m 162 #[.val (.int p0), .unset] [(.int (55296 : Int32)), (.int p0)])) t → Steps p.tables e below (s₁.setTop (entryFrame m #[(.int p0)] 2)) t := fun t kt => pre136 t (by
                                        show Steps p.tables e below (s₁.setTop (mkF m 156 #[.val (.int p0), .unset] [(.int (12288 : Int32)), (.int p0)])) _
                                        refine XS.icmpNo X0.here hx rfl (hb hby d2_156) rfl (tlt hc156_137).2.2.2 ?_
                                        show Steps p.tables e below (s₁.setTop (mkF m 159 #[.val (.int p0), .unset] [])) _
                                        refine XS.iloadN X0.here hx rfl (hb hby d2_159) rfl ?_
                                        show Steps p.tables e below (s₁.setTop (mkF m 160 #[.val (.int p0), .unset] [(.int p0)])) _
                                        refine X0.ldcInt hx hown (mvT hZ (hw _ (List.mem_of_getElem? (i := 21) rfl))) (g := (mkF m 160 #[.val (.int p0), .unset] [(.int p0)])) rfl (hb hby d2_160) _ ?_
                                        exact kt)
                                    by_cases hc162_139 : p0 < (55296 : Int32)
                                    · have pre140 : ∀ t, Steps p.tables e below (s₁.setTop (mkF m 174 #[.val (.int p0), .unset] [(.int (64976 : Int32)), (.int p0)])) t → Steps p.tables e below (s₁.setTop (entryFrame m #[(.int p0)] 2)) t := fun t kt => pre138 t (by
                                          show Steps p.tables e below (s₁.setTop (mkF m 162 #[.val (.int p0), .unset] [(.int (55296 : Int32)), (.int p0)])) _
                                          refine XS.icmpYes X0.here hx rfl (pc0 := 162) (pc' := 171) rfl (hb hby d2_162) rfl (tlt hc162_139).1 (by decide) (by decide) ?_
                                          show Steps p.tables e below (s₁.setTop (mkF m 171 #[.val (.int p0), .unset] [])) _
                                          refine XS.iloadN X0.here hx rfl (hb hby d2_171) rfl ?_
                                          show Steps p.tables e below (s₁.setTop (mkF m 172 #[.val (.int p0), .unset] [(.int p0)])) _
                                          refine X0.ldcInt hx hown (mvT hZ (hw _ (List.mem_of_getElem? (i := 22) rfl))) (g := (mkF m 172 #[.val (.int p0), .unset] [(.int p0)])) rfl (hb hby d2_172) _ ?_
                                          exact kt)
                                      have hd174_141 : p0 < (64976 : Int32) := Int32.lt_of_lt_of_le hc162_139 (by decide)
                                      have pre142 : ∀ t, Steps p.tables e below (s₁.setTop (mkF m 186 #[.val (.int p0), .unset] [(.int (65534 : Int32)), (.int p0)])) t → Steps p.tables e below (s₁.setTop (entryFrame m #[(.int p0)] 2)) t := fun t kt => pre140 t (by
                                          show Steps p.tables e below (s₁.setTop (mkF m 174 #[.val (.int p0), .unset] [(.int (64976 : Int32)), (.int p0)])) _
                                          refine XS.icmpYes X0.here hx rfl (pc0 := 174) (pc' := 183) rfl (hb hby d2_174) rfl (tlt hd174_141).1 (by decide) (by decide) ?_
                                          show Steps p.tables e below (s₁.setTop (mkF m 183 #[.val (.int p0), .unset] [])) _
                                          refine XS.iloadN X0.here hx rfl (hb hby d2_183) rfl ?_
                                          show Steps p.tables e below (s₁.setTop (mkF m 184 #[.val (.int p0), .unset] [(.int p0)])) _
                                          refine X0.ldcInt hx hown (mvT hZ (hw _ (List.mem_of_getElem? (i := 23) rfl))) (g := (mkF m 184 #[.val (.int p0), .unset] [(.int p0)])) rfl (hb hby d2_184) _ ?_
                                          exact kt)
                                      by_cases hc186_143 : p0 = (65534 : Int32)
                                      · have pre144 : ∀ t, Steps p.tables e below (s₁.setTop (mkF m 202 #[.val (.int p0), .val (.int (1 : Int32))] [(.int (1 : Int32))])) t → Steps p.tables e below (s₁.setTop (entryFrame m #[(.int p0)] 2)) t := fun t kt => pre142 t (by
                                            show Steps p.tables e below (s₁.setTop (mkF m 186 #[.val (.int p0), .unset] [(.int (65534 : Int32)), (.int p0)])) _
                                            refine XS.icmpYes X0.here hx rfl (pc0 := 186) (pc' := 195) rfl (hb hby d2_186) rfl (teq hc186_143).1 (by decide) (by decide) ?_
                                            show Steps p.tables e below (s₁.setTop (mkF m 195 #[.val (.int p0), .unset] [])) _
                                            refine XS.iconst X0.here hx rfl (hb hby d2_195) ?_
                                            show Steps p.tables e below (s₁.setTop (mkF m 196 #[.val (.int p0), .unset] [(.int (1 : Int32))])) _
                                            refine XS.goto X0.here hx rfl (pc0 := 196) (pc' := 200) rfl (hb hby d2_196) (by decide) (by decide) ?_
                                            show Steps p.tables e below (s₁.setTop (mkF m 200 #[.val (.int p0), .unset] [(.int (1 : Int32))])) _
                                            refine XS.istoreN X0.here hx rfl (hb hby d2_200) rfl (l' := #[.val (.int p0), .val (.int (1 : Int32))]) rfl ?_
                                            show Steps p.tables e below (s₁.setTop (mkF m 201 #[.val (.int p0), .val (.int (1 : Int32))] [])) _
                                            refine XS.iloadN X0.here hx rfl (hb hby d2_201) rfl ?_
                                            exact kt)
                                        obtain ⟨fs, hr, hrun, hended, hW, hsame⟩ := X0.leave (v := some (.int (0 : Int32))) (fun h => by rw [Bd.returns] at h; cases h)
                                        have hv209 : (f2 p0) = (0 : Int32) := by rw [f2, if_neg hc1_2, if_neg hc7_4, if_neg hc16_6, if_pos hc65_30, if_neg hc72_32, if_neg hc79_35, if_neg hc86_38, if_pos hc93_62, if_neg hc100_64, if_neg hc107_67, if_pos hc114_86, if_neg hc121_88, if_pos hc128_105, if_neg hc135_107, if_pos hc142_122, if_neg hc149_124, if_pos hc156_137, if_pos hc162_139, if_pos hc186_143]
                                        refine ⟨_, _, pre144 _ ?_, hrun, hended, _, _, rfl, ?_, ⟨_, rfl⟩, hW, hsame.mono (by decide) (by decide)⟩
                                        · show Steps p.tables e below (s₁.setTop (mkF m 202 #[.val (.int p0), .val (.int (1 : Int32))] [(.int (1 : Int32))])) _
                                          refine XS.ifYes X0.here hx rfl (pc0 := 202) (pc' := 209) rfl (hb hby d2_202) rfl ((if0 _ _).trans (feq (by decide : ¬ ((1 : Int32) = (0 : Int32)))).2) (by decide) (by decide) ?_
                                          show Steps p.tables e below (s₁.setTop (mkF m 209 #[.val (.int p0), .val (.int (1 : Int32))] [])) _
                                          refine XS.iconst X0.here hx rfl (hb hby d2_209) ?_
                                          show Steps p.tables e below (s₁.setTop (mkF m 210 #[.val (.int p0), .val (.int (1 : Int32))] [(.int (0 : Int32))])) _
                                          exact retN X0 hx (t := .boolean) Bd.returns (by simp) (hb hby d2_210) hr
                                        · show Q2 Z p0 h0 n0 _ s₁.heap _
                                          rw [e0]
                                          exact ⟨congrArg (fun q => some (Value.int q)) hv209.symm, N0, rfl⟩
                                      · have pre145 : ∀ t, Steps p.tables e below (s₁.setTop (mkF m 192 #[.val (.int p0), .unset] [(.int (65535 : Int32)), (.int p0)])) t → Steps p.tables e below (s₁.setTop (entryFrame m #[(.int p0)] 2)) t := fun t kt => pre142 t (by
                                            show Steps p.tables e below (s₁.setTop (mkF m 186 #[.val (.int p0), .unset] [(.int (65534 : Int32)), (.int p0)])) _
                                            refine XS.icmpNo X0.here hx rfl (hb hby d2_186) rfl (feq hc186_143).1 ?_
                                            show Steps p.tables e below (s₁.setTop (mkF m 189 #[.val (.int p0), .unset] [])) _
                                            refine XS.iloadN X0.here hx rfl (hb hby d2_189) rfl ?_
                                            show Steps p.tables e below (s₁.setTop (mkF m 190 #[.val (.int p0), .unset] [(.int p0)])) _
                                            refine X0.ldcInt hx hown (mvT hZ (hw _ (List.mem_of_getElem? (i := 24) rfl))) (g := (mkF m 190 #[.val (.int p0), .unset] [(.int p0)])) rfl (hb hby d2_190) _ ?_
                                            exact kt)
                                        by_cases hc192_146 : p0 = (65535 : Int32)
                                        · have pre147 : ∀ t, Steps p.tables e below (s₁.setTop (mkF m 202 #[.val (.int p0), .val (.int (1 : Int32))] [(.int (1 : Int32))])) t → Steps p.tables e below (s₁.setTop (entryFrame m #[(.int p0)] 2)) t := fun t kt => pre145 t (by
                                              show Steps p.tables e below (s₁.setTop (mkF m 192 #[.val (.int p0), .unset] [(.int (65535 : Int32)), (.int p0)])) _
                                              refine XS.icmpNo X0.here hx rfl (hb hby d2_192) rfl (teq hc192_146).2 ?_
                                              show Steps p.tables e below (s₁.setTop (mkF m 195 #[.val (.int p0), .unset] [])) _
                                              refine XS.iconst X0.here hx rfl (hb hby d2_195) ?_
                                              show Steps p.tables e below (s₁.setTop (mkF m 196 #[.val (.int p0), .unset] [(.int (1 : Int32))])) _
                                              refine XS.goto X0.here hx rfl (pc0 := 196) (pc' := 200) rfl (hb hby d2_196) (by decide) (by decide) ?_
                                              show Steps p.tables e below (s₁.setTop (mkF m 200 #[.val (.int p0), .unset] [(.int (1 : Int32))])) _
                                              refine XS.istoreN X0.here hx rfl (hb hby d2_200) rfl (l' := #[.val (.int p0), .val (.int (1 : Int32))]) rfl ?_
                                              show Steps p.tables e below (s₁.setTop (mkF m 201 #[.val (.int p0), .val (.int (1 : Int32))] [])) _
                                              refine XS.iloadN X0.here hx rfl (hb hby d2_201) rfl ?_
                                              exact kt)
                                          obtain ⟨fs, hr, hrun, hended, hW, hsame⟩ := X0.leave (v := some (.int (0 : Int32))) (fun h => by rw [Bd.returns] at h; cases h)
                                          have hv210 : (f2 p0) = (0 : Int32) := by rw [f2, if_neg hc1_2, if_neg hc7_4, if_neg hc16_6, if_pos hc65_30, if_neg hc72_32, if_neg hc79_35, if_neg hc86_38, if_pos hc93_62, if_neg hc100_64, if_neg hc107_67, if_pos hc114_86, if_neg hc121_88, if_pos hc128_105, if_neg hc135_107, if_pos hc142_122, if_neg hc149_124, if_pos hc156_137, if_pos hc162_139, if_neg hc186_143, if_pos hc192_146]
                                          refine ⟨_, _, pre147 _ ?_, hrun, hended, _, _, rfl, ?_, ⟨_, rfl⟩, hW, hsame.mono (by decide) (by decide)⟩
                                          · show Steps p.tables e below (s₁.setTop (mkF m 202 #[.val (.int p0), .val (.int (1 : Int32))] [(.int (1 : Int32))])) _
                                            refine XS.ifYes X0.here hx rfl (pc0 := 202) (pc' := 209) rfl (hb hby d2_202) rfl ((if0 _ _).trans (feq (by decide : ¬ ((1 : Int32) = (0 : Int32)))).2) (by decide) (by decide) ?_
                                            show Steps p.tables e below (s₁.setTop (mkF m 209 #[.val (.int p0), .val (.int (1 : Int32))] [])) _
                                            refine XS.iconst X0.here hx rfl (hb hby d2_209) ?_
                                            show Steps p.tables e below (s₁.setTop (mkF m 210 #[.val (.int p0), .val (.int (1 : Int32))] [(.int (0 : Int32))])) _
                                            exact retN X0 hx (t := .boolean) Bd.returns (by simp) (hb hby d2_210) hr
                                          · show Q2 Z p0 h0 n0 _ s₁.heap _
                                            rw [e0]
                                            exact ⟨congrArg (fun q => some (Value.int q)) hv210.symm, N0, rfl⟩
                                        · have pre148 : ∀ t, Steps p.tables e below (s₁.setTop (mkF m 202 #[.val (.int p0), .val (.int (0 : Int32))] [(.int (0 : Int32))])) t → Steps p.tables e below (s₁.setTop (entryFrame m #[(.int p0)] 2)) t := fun t kt => pre145 t (by
                                              show Steps p.tables e below (s₁.setTop (mkF m 192 #[.val (.int p0), .unset] [(.int (65535 : Int32)), (.int p0)])) _
                                              refine XS.icmpYes X0.here hx rfl (pc0 := 192) (pc' := 199) rfl (hb hby d2_192) rfl (feq hc192_146).2 (by decide) (by decide) ?_
                                              show Steps p.tables e below (s₁.setTop (mkF m 199 #[.val (.int p0), .unset] [])) _
                                              refine XS.iconst X0.here hx rfl (hb hby d2_199) ?_
                                              show Steps p.tables e below (s₁.setTop (mkF m 200 #[.val (.int p0), .unset] [(.int (0 : Int32))])) _
                                              refine XS.istoreN X0.here hx rfl (hb hby d2_200) rfl (l' := #[.val (.int p0), .val (.int (0 : Int32))]) rfl ?_
                                              show Steps p.tables e below (s₁.setTop (mkF m 201 #[.val (.int p0), .val (.int (0 : Int32))] [])) _
                                              refine XS.iloadN X0.here hx rfl (hb hby d2_201) rfl ?_
                                              exact kt)
                                          obtain ⟨fs, hr, hrun, hended, hW, hsame⟩ := X0.leave (v := some (.int (1 : Int32))) (fun h => by rw [Bd.returns] at h; cases h)
                                          have hv211 : (f2 p0) = (1 : Int32) := by rw [f2, if_neg hc1_2, if_neg hc7_4, if_neg hc16_6, if_pos hc65_30, if_neg hc72_32, if_neg hc79_35, if_neg hc86_38, if_pos hc93_62, if_neg hc100_64, if_neg hc107_67, if_pos hc114_86, if_neg hc121_88, if_pos hc128_105, if_neg hc135_107, if_pos hc142_122, if_neg hc149_124, if_pos hc156_137, if_pos hc162_139, if_neg hc186_143, if_neg hc192_146]
                                          refine ⟨_, _, pre148 _ ?_, hrun, hended, _, _, rfl, ?_, ⟨_, rfl⟩, hW, hsame.mono (by decide) (by decide)⟩
                                          · show Steps p.tables e below (s₁.setTop (mkF m 202 #[.val (.int p0), .val (.int (0 : Int32))] [(.int (0 : Int32))])) _
                                            refine XS.ifNo X0.here hx rfl (hb hby d2_202) rfl ((if0 _ _).trans (teq (by decide : ((0 : Int32) = (0 : Int32)))).2) ?_
                                            show Steps p.tables e below (s₁.setTop (mkF m 205 #[.val (.int p0), .val (.int (0 : Int32))] [])) _
                                            refine XS.iconst X0.here hx rfl (hb hby d2_205) ?_
                                            show Steps p.tables e below (s₁.setTop (mkF m 206 #[.val (.int p0), .val (.int (0 : Int32))] [(.int (1 : Int32))])) _
                                            refine XS.goto X0.here hx rfl (pc0 := 206) (pc' := 210) rfl (hb hby d2_206) (by decide) (by decide) ?_
                                            show Steps p.tables e below (s₁.setTop (mkF m 210 #[.val (.int p0), .val (.int (0 : Int32))] [(.int (1 : Int32))])) _
                                            exact retN X0 hx (t := .boolean) Bd.returns (by simp) (hb hby d2_210) hr
                                          · show Q2 Z p0 h0 n0 _ s₁.heap _
                                            rw [e0]
                                            exact ⟨congrArg (fun q => some (Value.int q)) hv211.symm, N0, rfl⟩
                                    · have pre149 : ∀ t, Steps p.tables e below (s₁.setTop (mkF m 168 #[.val (.int p0), .unset] [(.int (63743 : Int32)), (.int p0)])) t → Steps p.tables e below (s₁.setTop (entryFrame m #[(.int p0)] 2)) t := fun t kt => pre138 t (by
                                          show Steps p.tables e below (s₁.setTop (mkF m 162 #[.val (.int p0), .unset] [(.int (55296 : Int32)), (.int p0)])) _
                                          refine XS.icmpNo X0.here hx rfl (hb hby d2_162) rfl (flt hc162_139).1 ?_
                                          show Steps p.tables e below (s₁.setTop (mkF m 165 #[.val (.int p0), .unset] [])) _
                                          refine XS.iloadN X0.here hx rfl (hb hby d2_165) rfl ?_
                                          show Steps p.tables e below (s₁.setTop (mkF m 166 #[.val (.int p0), .unset] [(.int p0)])) _
                                          refine X0.ldcInt hx hown (mvT hZ (hw _ (List.mem_of_getElem? (i := 32) rfl))) (g := (mkF m 166 #[.val (.int p0), .unset] [(.int p0)])) rfl (hb hby d2_166) _ ?_
                                          exact kt)
                                      by_cases hc168_150 : (63743 : Int32) < p0
                                      · have pre151 : ∀ t, Steps p.tables e below (s₁.setTop (mkF m 174 #[.val (.int p0), .unset] [(.int (64976 : Int32)), (.int p0)])) t → Steps p.tables e below (s₁.setTop (entryFrame m #[(.int p0)] 2)) t := fun t kt => pre149 t (by
                                            show Steps p.tables e below (s₁.setTop (mkF m 168 #[.val (.int p0), .unset] [(.int (63743 : Int32)), (.int p0)])) _
                                            refine XS.icmpNo X0.here hx rfl (hb hby d2_168) rfl (tlt hc168_150).2.2.2 ?_
                                            show Steps p.tables e below (s₁.setTop (mkF m 171 #[.val (.int p0), .unset] [])) _
                                            refine XS.iloadN X0.here hx rfl (hb hby d2_171) rfl ?_
                                            show Steps p.tables e below (s₁.setTop (mkF m 172 #[.val (.int p0), .unset] [(.int p0)])) _
                                            refine X0.ldcInt hx hown (mvT hZ (hw _ (List.mem_of_getElem? (i := 22) rfl))) (g := (mkF m 172 #[.val (.int p0), .unset] [(.int p0)])) rfl (hb hby d2_172) _ ?_
                                            exact kt)
                                        by_cases hc174_152 : p0 < (64976 : Int32)
                                        · have pre153 : ∀ t, Steps p.tables e below (s₁.setTop (mkF m 186 #[.val (.int p0), .unset] [(.int (65534 : Int32)), (.int p0)])) t → Steps p.tables e below (s₁.setTop (entryFrame m #[(.int p0)] 2)) t := fun t kt => pre151 t (by
                                              show Steps p.tables e below (s₁.setTop (mkF m 174 #[.val (.int p0), .unset] [(.int (64976 : Int32)), (.int p0)])) _
                                              refine XS.icmpYes X0.here hx rfl (pc0 := 174) (pc' := 183) rfl (hb hby d2_174) rfl (tlt hc174_152).1 (by decide) (by decide) ?_
                                              show Steps p.tables e below (s₁.setTop (mkF m 183 #[.val (.int p0), .unset] [])) _
                                              refine XS.iloadN X0.here hx rfl (hb hby d2_183) rfl ?_
                                              show Steps p.tables e below (s₁.setTop (mkF m 184 #[.val (.int p0), .unset] [(.int p0)])) _
                                              refine X0.ldcInt hx hown (mvT hZ (hw _ (List.mem_of_getElem? (i := 23) rfl))) (g := (mkF m 184 #[.val (.int p0), .unset] [(.int p0)])) rfl (hb hby d2_184) _ ?_
                                              exact kt)
                                          by_cases hc186_154 : p0 = (65534 : Int32)
                                          · have pre155 : ∀ t, Steps p.tables e below (s₁.setTop (mkF m 202 #[.val (.int p0), .val (.int (1 : Int32))] [(.int (1 : Int32))])) t → Steps p.tables e below (s₁.setTop (entryFrame m #[(.int p0)] 2)) t := fun t kt => pre153 t (by
                                                show Steps p.tables e below (s₁.setTop (mkF m 186 #[.val (.int p0), .unset] [(.int (65534 : Int32)), (.int p0)])) _
                                                refine XS.icmpYes X0.here hx rfl (pc0 := 186) (pc' := 195) rfl (hb hby d2_186) rfl (teq hc186_154).1 (by decide) (by decide) ?_
                                                show Steps p.tables e below (s₁.setTop (mkF m 195 #[.val (.int p0), .unset] [])) _
                                                refine XS.iconst X0.here hx rfl (hb hby d2_195) ?_
                                                show Steps p.tables e below (s₁.setTop (mkF m 196 #[.val (.int p0), .unset] [(.int (1 : Int32))])) _
                                                refine XS.goto X0.here hx rfl (pc0 := 196) (pc' := 200) rfl (hb hby d2_196) (by decide) (by decide) ?_
                                                show Steps p.tables e below (s₁.setTop (mkF m 200 #[.val (.int p0), .unset] [(.int (1 : Int32))])) _
                                                refine XS.istoreN X0.here hx rfl (hb hby d2_200) rfl (l' := #[.val (.int p0), .val (.int (1 : Int32))]) rfl ?_
                                                show Steps p.tables e below (s₁.setTop (mkF m 201 #[.val (.int p0), .val (.int (1 : Int32))] [])) _
                                                refine XS.iloadN X0.here hx rfl (hb hby d2_201) rfl ?_
                                                exact kt)
                                            obtain ⟨fs, hr, hrun, hended, hW, hsame⟩ := X0.leave (v := some (.int (0 : Int32))) (fun h => by rw [Bd.returns] at h; cases h)
                                            have hv212 : (f2 p0) = (0 : Int32) := by rw [f2, if_neg hc1_2, if_neg hc7_4, if_neg hc16_6, if_pos hc65_30, if_neg hc72_32, if_neg hc79_35, if_neg hc86_38, if_pos hc93_62, if_neg hc100_64, if_neg hc107_67, if_pos hc114_86, if_neg hc121_88, if_pos hc128_105, if_neg hc135_107, if_pos hc142_122, if_neg hc149_124, if_pos hc156_137, if_neg hc162_139, if_pos hc168_150, if_pos hc174_152, if_pos hc186_154]
                                            refine ⟨_, _, pre155 _ ?_, hrun, hended, _, _, rfl, ?_, ⟨_, rfl⟩, hW, hsame.mono (by decide) (by decide)⟩
                                            · show Steps p.tables e below (s₁.setTop (mkF m 202 #[.val (.int p0), .val (.int (1 : Int32))] [(.int (1 : Int32))])) _
                                              refine XS.ifYes X0.here hx rfl (pc0 := 202) (pc' := 209) rfl (hb hby d2_202) rfl ((if0 _ _).trans (feq (by decide : ¬ ((1 : Int32) = (0 : Int32)))).2) (by decide) (by decide) ?_
                                              show Steps p.tables e below (s₁.setTop (mkF m 209 #[.val (.int p0), .val (.int (1 : Int32))] [])) _
                                              refine XS.iconst X0.here hx rfl (hb hby d2_209) ?_
                                              show Steps p.tables e below (s₁.setTop (mkF m 210 #[.val (.int p0), .val (.int (1 : Int32))] [(.int (0 : Int32))])) _
                                              exact retN X0 hx (t := .boolean) Bd.returns (by simp) (hb hby d2_210) hr
                                            · show Q2 Z p0 h0 n0 _ s₁.heap _
                                              rw [e0]
                                              exact ⟨congrArg (fun q => some (Value.int q)) hv212.symm, N0, rfl⟩
                                          · have pre156 : ∀ t, Steps p.tables e below (s₁.setTop (mkF m 192 #[.val (.int p0), .unset] [(.int (65535 : Int32)), (.int p0)])) t → Steps p.tables e below (s₁.setTop (entryFrame m #[(.int p0)] 2)) t := fun t kt => pre153 t (by
                                                show Steps p.tables e below (s₁.setTop (mkF m 186 #[.val (.int p0), .unset] [(.int (65534 : Int32)), (.int p0)])) _
                                                refine XS.icmpNo X0.here hx rfl (hb hby d2_186) rfl (feq hc186_154).1 ?_
                                                show Steps p.tables e below (s₁.setTop (mkF m 189 #[.val (.int p0), .unset] [])) _
                                                refine XS.iloadN X0.here hx rfl (hb hby d2_189) rfl ?_
                                                show Steps p.tables e below (s₁.setTop (mkF m 190 #[.val (.int p0), .unset] [(.int p0)])) _
                                                refine X0.ldcInt hx hown (mvT hZ (hw _ (List.mem_of_getElem? (i := 24) rfl))) (g := (mkF m 190 #[.val (.int p0), .unset] [(.int p0)])) rfl (hb hby d2_190) _ ?_
                                                exact kt)
                                            by_cases hc192_157 : p0 = (65535 : Int32)
                                            · have pre158 : ∀ t, Steps p.tables e below (s₁.setTop (mkF m 202 #[.val (.int p0), .val (.int (1 : Int32))] [(.int (1 : Int32))])) t → Steps p.tables e below (s₁.setTop (entryFrame m #[(.int p0)] 2)) t := fun t kt => pre156 t (by
                                                  show Steps p.tables e below (s₁.setTop (mkF m 192 #[.val (.int p0), .unset] [(.int (65535 : Int32)), (.int p0)])) _
                                                  refine XS.icmpNo X0.here hx rfl (hb hby d2_192) rfl (teq hc192_157).2 ?_
                                                  show Steps p.tables e below (s₁.setTop (mkF m 195 #[.val (.int p0), .unset] [])) _
                                                  refine XS.iconst X0.here hx rfl (hb hby d2_195) ?_
                                                  show Steps p.tables e below (s₁.setTop (mkF m 196 #[.val (.int p0), .unset] [(.int (1 : Int32))])) _
                                                  refine XS.goto X0.here hx rfl (pc0 := 196) (pc' := 200) rfl (hb hby d2_196) (by decide) (by decide) ?_
                                                  show Steps p.tables e below (s₁.setTop (mkF m 200 #[.val (.int p0), .unset] [(.int (1 : Int32))])) _
                                                  refine XS.istoreN X0.here hx rfl (hb hby d2_200) rfl (l' := #[.val (.int p0), .val (.int (1 : Int32))]) rfl ?_
                                                  show Steps p.tables e below (s₁.setTop (mkF m 201 #[.val (.int p0), .val (.int (1 : Int32))] [])) _
                                                  refine XS.iloadN X0.here hx rfl (hb hby d2_201) rfl ?_
                                                  exact kt)
                                              obtain ⟨fs, hr, hrun, hended, hW, hsame⟩ := X0.leave (v := some (.int (0 : Int32))) (fun h => by rw [Bd.returns] at h; cases h)
                                              have hv213 : (f2 p0) = (0 : Int32) := by rw [f2, if_neg hc1_2, if_neg hc7_4, if_neg hc16_6, if_pos hc65_30, if_neg hc72_32, if_neg hc79_35, if_neg hc86_38, if_pos hc93_62, if_neg hc100_64, if_neg hc107_67, if_pos hc114_86, if_neg hc121_88, if_pos hc128_105, if_neg hc135_107, if_pos hc142_122, if_neg hc149_124, if_pos hc156_137, if_neg hc162_139, if_pos hc168_150, if_pos hc174_152, if_neg hc186_154, if_pos hc192_157]
                                              refine ⟨_, _, pre158 _ ?_, hrun, hended, _, _, rfl, ?_, ⟨_, rfl⟩, hW, hsame.mono (by decide) (by decide)⟩
                                              · show Steps p.tables e below (s₁.setTop (mkF m 202 #[.val (.int p0), .val (.int (1 : Int32))] [(.int (1 : Int32))])) _
                                                refine XS.ifYes X0.here hx rfl (pc0 := 202) (pc' := 209) rfl (hb hby d2_202) rfl ((if0 _ _).trans (feq (by decide : ¬ ((1 : Int32) = (0 : Int32)))).2) (by decide) (by decide) ?_
                                                show Steps p.tables e below (s₁.setTop (mkF m 209 #[.val (.int p0), .val (.int (1 : Int32))] [])) _
                                                refine XS.iconst X0.here hx rfl (hb hby d2_209) ?_
                                                show Steps p.tables e below (s₁.setTop (mkF m 210 #[.val (.int p0), .val (.int (1 : Int32))] [(.int (0 : Int32))])) _
                                                exact retN X0 hx (t := .boolean) Bd.returns (by simp) (hb hby d2_210) hr
                                              · show Q2 Z p0 h0 n0 _ s₁.heap _
                                                rw [e0]
                                                exact ⟨congrArg (fun q => some (Value.int q)) hv213.symm, N0, rfl⟩
                                            · have pre159 : ∀ t, Steps p.tables e below (s₁.setTop (mkF m 202 #[.val (.int p0), .val (.int (0 : Int32))] [(.int (0 : Int32))])) t → Steps p.tables e below (s₁.setTop (entryFrame m #[(.int p0)] 2)) t := fun t kt => pre156 t (by
                                                  show Steps p.tables e below (s₁.setTop (mkF m 192 #[.val (.int p0), .unset] [(.int (65535 : Int32)), (.int p0)])) _
                                                  refine XS.icmpYes X0.here hx rfl (pc0 := 192) (pc' := 199) rfl (hb hby d2_192) rfl (feq hc192_157).2 (by decide) (by decide) ?_
                                                  show Steps p.tables e below (s₁.setTop (mkF m 199 #[.val (.int p0), .unset] [])) _
                                                  refine XS.iconst X0.here hx rfl (hb hby d2_199) ?_
                                                  show Steps p.tables e below (s₁.setTop (mkF m 200 #[.val (.int p0), .unset] [(.int (0 : Int32))])) _
                                                  refine XS.istoreN X0.here hx rfl (hb hby d2_200) rfl (l' := #[.val (.int p0), .val (.int (0 : Int32))]) rfl ?_
                                                  show Steps p.tables e below (s₁.setTop (mkF m 201 #[.val (.int p0), .val (.int (0 : Int32))] [])) _
                                                  refine XS.iloadN X0.here hx rfl (hb hby d2_201) rfl ?_
                                                  exact kt)
                                              obtain ⟨fs, hr, hrun, hended, hW, hsame⟩ := X0.leave (v := some (.int (1 : Int32))) (fun h => by rw [Bd.returns] at h; cases h)
                                              have hv214 : (f2 p0) = (1 : Int32) := by rw [f2, if_neg hc1_2, if_neg hc7_4, if_neg hc16_6, if_pos hc65_30, if_neg hc72_32, if_neg hc79_35, if_neg hc86_38, if_pos hc93_62, if_neg hc100_64, if_neg hc107_67, if_pos hc114_86, if_neg hc121_88, if_pos hc128_105, if_neg hc135_107, if_pos hc142_122, if_neg hc149_124, if_pos hc156_137, if_neg hc162_139, if_pos hc168_150, if_pos hc174_152, if_neg hc186_154, if_neg hc192_157]
                                              refine ⟨_, _, pre159 _ ?_, hrun, hended, _, _, rfl, ?_, ⟨_, rfl⟩, hW, hsame.mono (by decide) (by decide)⟩
                                              · show Steps p.tables e below (s₁.setTop (mkF m 202 #[.val (.int p0), .val (.int (0 : Int32))] [(.int (0 : Int32))])) _
                                                refine XS.ifNo X0.here hx rfl (hb hby d2_202) rfl ((if0 _ _).trans (teq (by decide : ((0 : Int32) = (0 : Int32)))).2) ?_
                                                show Steps p.tables e below (s₁.setTop (mkF m 205 #[.val (.int p0), .val (.int (0 : Int32))] [])) _
                                                refine XS.iconst X0.here hx rfl (hb hby d2_205) ?_
                                                show Steps p.tables e below (s₁.setTop (mkF m 206 #[.val (.int p0), .val (.int (0 : Int32))] [(.int (1 : Int32))])) _
                                                refine XS.goto X0.here hx rfl (pc0 := 206) (pc' := 210) rfl (hb hby d2_206) (by decide) (by decide) ?_
                                                show Steps p.tables e below (s₁.setTop (mkF m 210 #[.val (.int p0), .val (.int (0 : Int32))] [(.int (1 : Int32))])) _
                                                exact retN X0 hx (t := .boolean) Bd.returns (by simp) (hb hby d2_210) hr
                                              · show Q2 Z p0 h0 n0 _ s₁.heap _
                                                rw [e0]
                                                exact ⟨congrArg (fun q => some (Value.int q)) hv214.symm, N0, rfl⟩
                                        · have pre160 : ∀ t, Steps p.tables e below (s₁.setTop (mkF m 180 #[.val (.int p0), .unset] [(.int (65007 : Int32)), (.int p0)])) t → Steps p.tables e below (s₁.setTop (entryFrame m #[(.int p0)] 2)) t := fun t kt => pre151 t (by
                                              show Steps p.tables e below (s₁.setTop (mkF m 174 #[.val (.int p0), .unset] [(.int (64976 : Int32)), (.int p0)])) _
                                              refine XS.icmpNo X0.here hx rfl (hb hby d2_174) rfl (flt hc174_152).1 ?_
                                              show Steps p.tables e below (s₁.setTop (mkF m 177 #[.val (.int p0), .unset] [])) _
                                              refine XS.iloadN X0.here hx rfl (hb hby d2_177) rfl ?_
                                              show Steps p.tables e below (s₁.setTop (mkF m 178 #[.val (.int p0), .unset] [(.int p0)])) _
                                              refine X0.ldcInt hx hown (mvT hZ (hw _ (List.mem_of_getElem? (i := 33) rfl))) (g := (mkF m 178 #[.val (.int p0), .unset] [(.int p0)])) rfl (hb hby d2_178) _ ?_
                                              exact kt)
                                          by_cases hc180_161 : (65007 : Int32) < p0
                                          · have pre162 : ∀ t, Steps p.tables e below (s₁.setTop (mkF m 186 #[.val (.int p0), .unset] [(.int (65534 : Int32)), (.int p0)])) t → Steps p.tables e below (s₁.setTop (entryFrame m #[(.int p0)] 2)) t := fun t kt => pre160 t (by
                                                show Steps p.tables e below (s₁.setTop (mkF m 180 #[.val (.int p0), .unset] [(.int (65007 : Int32)), (.int p0)])) _
                                                refine XS.icmpNo X0.here hx rfl (hb hby d2_180) rfl (tlt hc180_161).2.2.2 ?_
                                                show Steps p.tables e below (s₁.setTop (mkF m 183 #[.val (.int p0), .unset] [])) _
                                                refine XS.iloadN X0.here hx rfl (hb hby d2_183) rfl ?_
                                                show Steps p.tables e below (s₁.setTop (mkF m 184 #[.val (.int p0), .unset] [(.int p0)])) _
                                                refine X0.ldcInt hx hown (mvT hZ (hw _ (List.mem_of_getElem? (i := 23) rfl))) (g := (mkF m 184 #[.val (.int p0), .unset] [(.int p0)])) rfl (hb hby d2_184) _ ?_
                                                exact kt)
                                            by_cases hc186_163 : p0 = (65534 : Int32)
                                            · have pre164 : ∀ t, Steps p.tables e below (s₁.setTop (mkF m 202 #[.val (.int p0), .val (.int (1 : Int32))] [(.int (1 : Int32))])) t → Steps p.tables e below (s₁.setTop (entryFrame m #[(.int p0)] 2)) t := fun t kt => pre162 t (by
                                                  show Steps p.tables e below (s₁.setTop (mkF m 186 #[.val (.int p0), .unset] [(.int (65534 : Int32)), (.int p0)])) _
                                                  refine XS.icmpYes X0.here hx rfl (pc0 := 186) (pc' := 195) rfl (hb hby d2_186) rfl (teq hc186_163).1 (by decide) (by decide) ?_
                                                  show Steps p.tables e below (s₁.setTop (mkF m 195 #[.val (.int p0), .unset] [])) _
                                                  refine XS.iconst X0.here hx rfl (hb hby d2_195) ?_
                                                  show Steps p.tables e below (s₁.setTop (mkF m 196 #[.val (.int p0), .unset] [(.int (1 : Int32))])) _
                                                  refine XS.goto X0.here hx rfl (pc0 := 196) (pc' := 200) rfl (hb hby d2_196) (by decide) (by decide) ?_
                                                  show Steps p.tables e below (s₁.setTop (mkF m 200 #[.val (.int p0), .unset] [(.int (1 : Int32))])) _
                                                  refine XS.istoreN X0.here hx rfl (hb hby d2_200) rfl (l' := #[.val (.int p0), .val (.int (1 : Int32))]) rfl ?_
                                                  show Steps p.tables e below (s₁.setTop (mkF m 201 #[.val (.int p0), .val (.int (1 : Int32))] [])) _
                                                  refine XS.iloadN X0.here hx rfl (hb hby d2_201) rfl ?_
                                                  exact kt)
                                              obtain ⟨fs, hr, hrun, hended, hW, hsame⟩ := X0.leave (v := some (.int (0 : Int32))) (fun h => by rw [Bd.returns] at h; cases h)
                                              have hv215 : (f2 p0) = (0 : Int32) := by rw [f2, if_neg hc1_2, if_neg hc7_4, if_neg hc16_6, if_pos hc65_30, if_neg hc72_32, if_neg hc79_35, if_neg hc86_38, if_pos hc93_62, if_neg hc100_64, if_neg hc107_67, if_pos hc114_86, if_neg hc121_88, if_pos hc128_105, if_neg hc135_107, if_pos hc142_122, if_neg hc149_124, if_pos hc156_137, if_neg hc162_139, if_pos hc168_150, if_neg hc174_152, if_pos hc180_161, if_pos hc186_163]
                                              refine ⟨_, _, pre164 _ ?_, hrun, hended, _, _, rfl, ?_, ⟨_, rfl⟩, hW, hsame.mono (by decide) (by decide)⟩
                                              · show Steps p.tables e below (s₁.setTop (mkF m 202 #[.val (.int p0), .val (.int (1 : Int32))] [(.int (1 : Int32))])) _
                                                refine XS.ifYes X0.here hx rfl (pc0 := 202) (pc' := 209) rfl (hb hby d2_202) rfl ((if0 _ _).trans (feq (by decide : ¬ ((1 : Int32) = (0 : Int32)))).2) (by decide) (by decide) ?_
                                                show Steps p.tables e below (s₁.setTop (mkF m 209 #[.val (.int p0), .val (.int (1 : Int32))] [])) _
                                                refine XS.iconst X0.here hx rfl (hb hby d2_209) ?_
                                                show Steps p.tables e below (s₁.setTop (mkF m 210 #[.val (.int p0), .val (.int (1 : Int32))] [(.int (0 : Int32))])) _
                                                exact retN X0 hx (t := .boolean) Bd.returns (by simp) (hb hby d2_210) hr
                                              · show Q2 Z p0 h0 n0 _ s₁.heap _
                                                rw [e0]
                                                exact ⟨congrArg (fun q => some (Value.int q)) hv215.symm, N0, rfl⟩
                                            · have pre165 : ∀ t, Steps p.tables e below (s₁.setTop (mkF m 192 #[.val (.int p0), .unset] [(.int (65535 : Int32)), (.int p0)])) t → Steps p.tables e below (s₁.setTop (entryFrame m #[(.int p0)] 2)) t := fun t kt => pre162 t (by
                                                  show Steps p.tables e below (s₁.setTop (mkF m 186 #[.val (.int p0), .unset] [(.int (65534 : Int32)), (.int p0)])) _
                                                  refine XS.icmpNo X0.here hx rfl (hb hby d2_186) rfl (feq hc186_163).1 ?_
                                                  show Steps p.tables e below (s₁.setTop (mkF m 189 #[.val (.int p0), .unset] [])) _
                                                  refine XS.iloadN X0.here hx rfl (hb hby d2_189) rfl ?_
                                                  show Steps p.tables e below (s₁.setTop (mkF m 190 #[.val (.int p0), .unset] [(.int p0)])) _
                                                  refine X0.ldcInt hx hown (mvT hZ (hw _ (List.mem_of_getElem? (i := 24) rfl))) (g := (mkF m 190 #[.val (.int p0), .unset] [(.int p0)])) rfl (hb hby d2_190) _ ?_
                                                  exact kt)
                                              by_cases hc192_166 : p0 = (65535 : Int32)
                                              · have pre167 : ∀ t, Steps p.tables e below (s₁.setTop (mkF m 202 #[.val (.int p0), .val (.int (1 : Int32))] [(.int (1 : Int32))])) t → Steps p.tables e below (s₁.setTop (entryFrame m #[(.int p0)] 2)) t := fun t kt => pre165 t (by
                                                    show Steps p.tables e below (s₁.setTop (mkF m 192 #[.val (.int p0), .unset] [(.int (65535 : Int32)), (.int p0)])) _
                                                    refine XS.icmpNo X0.here hx rfl (hb hby d2_192) rfl (teq hc192_166).2 ?_
                                                    show Steps p.tables e below (s₁.setTop (mkF m 195 #[.val (.int p0), .unset] [])) _
                                                    refine XS.iconst X0.here hx rfl (hb hby d2_195) ?_
                                                    show Steps p.tables e below (s₁.setTop (mkF m 196 #[.val (.int p0), .unset] [(.int (1 : Int32))])) _
                                                    refine XS.goto X0.here hx rfl (pc0 := 196) (pc' := 200) rfl (hb hby d2_196) (by decide) (by decide) ?_
                                                    show Steps p.tables e below (s₁.setTop (mkF m 200 #[.val (.int p0), .unset] [(.int (1 : Int32))])) _
                                                    refine XS.istoreN X0.here hx rfl (hb hby d2_200) rfl (l' := #[.val (.int p0), .val (.int (1 : Int32))]) rfl ?_
                                                    show Steps p.tables e below (s₁.setTop (mkF m 201 #[.val (.int p0), .val (.int (1 : Int32))] [])) _
                                                    refine XS.iloadN X0.here hx rfl (hb hby d2_201) rfl ?_
                                                    exact kt)
                                                obtain ⟨fs, hr, hrun, hended, hW, hsame⟩ := X0.leave (v := some (.int (0 : Int32))) (fun h => by rw [Bd.returns] at h; cases h)
                                                have hv216 : (f2 p0) = (0 : Int32) := by rw [f2, if_neg hc1_2, if_neg hc7_4, if_neg hc16_6, if_pos hc65_30, if_neg hc72_32, if_neg hc79_35, if_neg hc86_38, if_pos hc93_62, if_neg hc100_64, if_neg hc107_67, if_pos hc114_86, if_neg hc121_88, if_pos hc128_105, if_neg hc135_107, if_pos hc142_122, if_neg hc149_124, if_pos hc156_137, if_neg hc162_139, if_pos hc168_150, if_neg hc174_152, if_pos hc180_161, if_neg hc186_163, if_pos hc192_166]
                                                refine ⟨_, _, pre167 _ ?_, hrun, hended, _, _, rfl, ?_, ⟨_, rfl⟩, hW, hsame.mono (by decide) (by decide)⟩
                                                · show Steps p.tables e below (s₁.setTop (mkF m 202 #[.val (.int p0), .val (.int (1 : Int32))] [(.int (1 : Int32))])) _
                                                  refine XS.ifYes X0.here hx rfl (pc0 := 202) (pc' := 209) rfl (hb hby d2_202) rfl ((if0 _ _).trans (feq (by decide : ¬ ((1 : Int32) = (0 : Int32)))).2) (by decide) (by decide) ?_
                                                  show Steps p.tables e below (s₁.setTop (mkF m 209 #[.val (.int p0), .val (.int (1 : Int32))] [])) _
                                                  refine XS.iconst X0.here hx rfl (hb hby d2_209) ?_
                                                  show Steps p.tables e below (s₁.setTop (mkF m 210 #[.val (.int p0), .val (.int (1 : Int32))] [(.int (0 : Int32))])) _
                                                  exact retN X0 hx (t := .boolean) Bd.returns (by simp) (hb hby d2_210) hr
                                                · show Q2 Z p0 h0 n0 _ s₁.heap _
                                                  rw [e0]
                                                  exact ⟨congrArg (fun q => some (Value.int q)) hv216.symm, N0, rfl⟩
                                              · have pre168 : ∀ t, Steps p.tables e below (s₁.setTop (mkF m 202 #[.val (.int p0), .val (.int (0 : Int32))] [(.int (0 : Int32))])) t → Steps p.tables e below (s₁.setTop (entryFrame m #[(.int p0)] 2)) t := fun t kt => pre165 t (by
                                                    show Steps p.tables e below (s₁.setTop (mkF m 192 #[.val (.int p0), .unset] [(.int (65535 : Int32)), (.int p0)])) _
                                                    refine XS.icmpYes X0.here hx rfl (pc0 := 192) (pc' := 199) rfl (hb hby d2_192) rfl (feq hc192_166).2 (by decide) (by decide) ?_
                                                    show Steps p.tables e below (s₁.setTop (mkF m 199 #[.val (.int p0), .unset] [])) _
                                                    refine XS.iconst X0.here hx rfl (hb hby d2_199) ?_
                                                    show Steps p.tables e below (s₁.setTop (mkF m 200 #[.val (.int p0), .unset] [(.int (0 : Int32))])) _
                                                    refine XS.istoreN X0.here hx rfl (hb hby d2_200) rfl (l' := #[.val (.int p0), .val (.int (0 : Int32))]) rfl ?_
                                                    show Steps p.tables e below (s₁.setTop (mkF m 201 #[.val (.int p0), .val (.int (0 : Int32))] [])) _
                                                    refine XS.iloadN X0.here hx rfl (hb hby d2_201) rfl ?_
                                                    exact kt)
                                                obtain ⟨fs, hr, hrun, hended, hW, hsame⟩ := X0.leave (v := some (.int (1 : Int32))) (fun h => by rw [Bd.returns] at h; cases h)
                                                have hv217 : (f2 p0) = (1 : Int32) := by rw [f2, if_neg hc1_2, if_neg hc7_4, if_neg hc16_6, if_pos hc65_30, if_neg hc72_32, if_neg hc79_35, if_neg hc86_38, if_pos hc93_62, if_neg hc100_64, if_neg hc107_67, if_pos hc114_86, if_neg hc121_88, if_pos hc128_105, if_neg hc135_107, if_pos hc142_122, if_neg hc149_124, if_pos hc156_137, if_neg hc162_139, if_pos hc168_150, if_neg hc174_152, if_pos hc180_161, if_neg hc186_163, if_neg hc192_166]
                                                refine ⟨_, _, pre168 _ ?_, hrun, hended, _, _, rfl, ?_, ⟨_, rfl⟩, hW, hsame.mono (by decide) (by decide)⟩
                                                · show Steps p.tables e below (s₁.setTop (mkF m 202 #[.val (.int p0), .val (.int (0 : Int32))] [(.int (0 : Int32))])) _
                                                  refine XS.ifNo X0.here hx rfl (hb hby d2_202) rfl ((if0 _ _).trans (teq (by decide : ((0 : Int32) = (0 : Int32)))).2) ?_
                                                  show Steps p.tables e below (s₁.setTop (mkF m 205 #[.val (.int p0), .val (.int (0 : Int32))] [])) _
                                                  refine XS.iconst X0.here hx rfl (hb hby d2_205) ?_
                                                  show Steps p.tables e below (s₁.setTop (mkF m 206 #[.val (.int p0), .val (.int (0 : Int32))] [(.int (1 : Int32))])) _
                                                  refine XS.goto X0.here hx rfl (pc0 := 206) (pc' := 210) rfl (hb hby d2_206) (by decide) (by decide) ?_
                                                  show Steps p.tables e below (s₁.setTop (mkF m 210 #[.val (.int p0), .val (.int (0 : Int32))] [(.int (1 : Int32))])) _
                                                  exact retN X0 hx (t := .boolean) Bd.returns (by simp) (hb hby d2_210) hr
                                                · show Q2 Z p0 h0 n0 _ s₁.heap _
                                                  rw [e0]
                                                  exact ⟨congrArg (fun q => some (Value.int q)) hv217.symm, N0, rfl⟩
                                          · have pre169 : ∀ t, Steps p.tables e below (s₁.setTop (mkF m 202 #[.val (.int p0), .val (.int (1 : Int32))] [(.int (1 : Int32))])) t → Steps p.tables e below (s₁.setTop (entryFrame m #[(.int p0)] 2)) t := fun t kt => pre160 t (by
                                                show Steps p.tables e below (s₁.setTop (mkF m 180 #[.val (.int p0), .unset] [(.int (65007 : Int32)), (.int p0)])) _
                                                refine XS.icmpYes X0.here hx rfl (pc0 := 180) (pc' := 195) rfl (hb hby d2_180) rfl (flt hc180_161).2.2.2 (by decide) (by decide) ?_
                                                show Steps p.tables e below (s₁.setTop (mkF m 195 #[.val (.int p0), .unset] [])) _
                                                refine XS.iconst X0.here hx rfl (hb hby d2_195) ?_
                                                show Steps p.tables e below (s₁.setTop (mkF m 196 #[.val (.int p0), .unset] [(.int (1 : Int32))])) _
                                                refine XS.goto X0.here hx rfl (pc0 := 196) (pc' := 200) rfl (hb hby d2_196) (by decide) (by decide) ?_
                                                show Steps p.tables e below (s₁.setTop (mkF m 200 #[.val (.int p0), .unset] [(.int (1 : Int32))])) _
                                                refine XS.istoreN X0.here hx rfl (hb hby d2_200) rfl (l' := #[.val (.int p0), .val (.int (1 : Int32))]) rfl ?_
                                                show Steps p.tables e below (s₁.setTop (mkF m 201 #[.val (.int p0), .val (.int (1 : Int32))] [])) _
                                                refine XS.iloadN X0.here hx rfl (hb hby d2_201) rfl ?_
                                                exact kt)
                                            obtain ⟨fs, hr, hrun, hended, hW, hsame⟩ := X0.leave (v := some (.int (0 : Int32))) (fun h => by rw [Bd.returns] at h; cases h)
                                            have hv218 : (f2 p0) = (0 : Int32) := by rw [f2, if_neg hc1_2, if_neg hc7_4, if_neg hc16_6, if_pos hc65_30, if_neg hc72_32, if_neg hc79_35, if_neg hc86_38, if_pos hc93_62, if_neg hc100_64, if_neg hc107_67, if_pos hc114_86, if_neg hc121_88, if_pos hc128_105, if_neg hc135_107, if_pos hc142_122, if_neg hc149_124, if_pos hc156_137, if_neg hc162_139, if_pos hc168_150, if_neg hc174_152, if_neg hc180_161]
                                            refine ⟨_, _, pre169 _ ?_, hrun, hended, _, _, rfl, ?_, ⟨_, rfl⟩, hW, hsame.mono (by decide) (by decide)⟩
                                            · show Steps p.tables e below (s₁.setTop (mkF m 202 #[.val (.int p0), .val (.int (1 : Int32))] [(.int (1 : Int32))])) _
                                              refine XS.ifYes X0.here hx rfl (pc0 := 202) (pc' := 209) rfl (hb hby d2_202) rfl ((if0 _ _).trans (feq (by decide : ¬ ((1 : Int32) = (0 : Int32)))).2) (by decide) (by decide) ?_
                                              show Steps p.tables e below (s₁.setTop (mkF m 209 #[.val (.int p0), .val (.int (1 : Int32))] [])) _
                                              refine XS.iconst X0.here hx rfl (hb hby d2_209) ?_
                                              show Steps p.tables e below (s₁.setTop (mkF m 210 #[.val (.int p0), .val (.int (1 : Int32))] [(.int (0 : Int32))])) _
                                              exact retN X0 hx (t := .boolean) Bd.returns (by simp) (hb hby d2_210) hr
                                            · show Q2 Z p0 h0 n0 _ s₁.heap _
                                              rw [e0]
                                              exact ⟨congrArg (fun q => some (Value.int q)) hv218.symm, N0, rfl⟩
                                      · have pre170 : ∀ t, Steps p.tables e below (s₁.setTop (mkF m 202 #[.val (.int p0), .val (.int (1 : Int32))] [(.int (1 : Int32))])) t → Steps p.tables e below (s₁.setTop (entryFrame m #[(.int p0)] 2)) t := fun t kt => pre149 t (by
                                            show Steps p.tables e below (s₁.setTop (mkF m 168 #[.val (.int p0), .unset] [(.int (63743 : Int32)), (.int p0)])) _
                                            refine XS.icmpYes X0.here hx rfl (pc0 := 168) (pc' := 195) rfl (hb hby d2_168) rfl (flt hc168_150).2.2.2 (by decide) (by decide) ?_
                                            show Steps p.tables e below (s₁.setTop (mkF m 195 #[.val (.int p0), .unset] [])) _
                                            refine XS.iconst X0.here hx rfl (hb hby d2_195) ?_
                                            show Steps p.tables e below (s₁.setTop (mkF m 196 #[.val (.int p0), .unset] [(.int (1 : Int32))])) _
                                            refine XS.goto X0.here hx rfl (pc0 := 196) (pc' := 200) rfl (hb hby d2_196) (by decide) (by decide) ?_
                                            show Steps p.tables e below (s₁.setTop (mkF m 200 #[.val (.int p0), .unset] [(.int (1 : Int32))])) _
                                            refine XS.istoreN X0.here hx rfl (hb hby d2_200) rfl (l' := #[.val (.int p0), .val (.int (1 : Int32))]) rfl ?_
                                            show Steps p.tables e below (s₁.setTop (mkF m 201 #[.val (.int p0), .val (.int (1 : Int32))] [])) _
                                            refine XS.iloadN X0.here hx rfl (hb hby d2_201) rfl ?_
                                            exact kt)
                                        obtain ⟨fs, hr, hrun, hended, hW, hsame⟩ := X0.leave (v := some (.int (0 : Int32))) (fun h => by rw [Bd.returns] at h; cases h)
                                        have hv219 : (f2 p0) = (0 : Int32) := by rw [f2, if_neg hc1_2, if_neg hc7_4, if_neg hc16_6, if_pos hc65_30, if_neg hc72_32, if_neg hc79_35, if_neg hc86_38, if_pos hc93_62, if_neg hc100_64, if_neg hc107_67, if_pos hc114_86, if_neg hc121_88, if_pos hc128_105, if_neg hc135_107, if_pos hc142_122, if_neg hc149_124, if_pos hc156_137, if_neg hc162_139, if_neg hc168_150]
                                        refine ⟨_, _, pre170 _ ?_, hrun, hended, _, _, rfl, ?_, ⟨_, rfl⟩, hW, hsame.mono (by decide) (by decide)⟩
                                        · show Steps p.tables e below (s₁.setTop (mkF m 202 #[.val (.int p0), .val (.int (1 : Int32))] [(.int (1 : Int32))])) _
                                          refine XS.ifYes X0.here hx rfl (pc0 := 202) (pc' := 209) rfl (hb hby d2_202) rfl ((if0 _ _).trans (feq (by decide : ¬ ((1 : Int32) = (0 : Int32)))).2) (by decide) (by decide) ?_
                                          show Steps p.tables e below (s₁.setTop (mkF m 209 #[.val (.int p0), .val (.int (1 : Int32))] [])) _
                                          refine XS.iconst X0.here hx rfl (hb hby d2_209) ?_
                                          show Steps p.tables e below (s₁.setTop (mkF m 210 #[.val (.int p0), .val (.int (1 : Int32))] [(.int (0 : Int32))])) _
                                          exact retN X0 hx (t := .boolean) Bd.returns (by simp) (hb hby d2_210) hr
                                        · show Q2 Z p0 h0 n0 _ s₁.heap _
                                          rw [e0]
                                          exact ⟨congrArg (fun q => some (Value.int q)) hv219.symm, N0, rfl⟩
                                  · have pre171 : ∀ t, Steps p.tables e below (s₁.setTop (mkF m 202 #[.val (.int p0), .val (.int (1 : Int32))] [(.int (1 : Int32))])) t → Steps p.tables e below (s₁.setTop (entryFrame m #[(.int p0)] 2)) t := fun t kt => pre136 t (by
                                        show Steps p.tables e below (s₁.setTop (mkF m 156 #[.val (.int p0), .unset] [(.int (12288 : Int32)), (.int p0)])) _
                                        refine XS.icmpYes X0.here hx rfl (pc0 := 156) (pc' := 195) rfl (hb hby d2_156) rfl (flt hc156_137).2.2.2 (by decide) (by decide) ?_
                                        show Steps p.tables e below (s₁.setTop (mkF m 195 #[.val (.int p0), .unset] [])) _
                                        refine XS.iconst X0.here hx rfl (hb hby d2_195) ?_
                                        show Steps p.tables e below (s₁.setTop (mkF m 196 #[.val (.int p0), .unset] [(.int (1 : Int32))])) _
                                        refine XS.goto X0.here hx rfl (pc0 := 196) (pc' := 200) rfl (hb hby d2_196) (by decide) (by decide) ?_
                                        show Steps p.tables e below (s₁.setTop (mkF m 200 #[.val (.int p0), .unset] [(.int (1 : Int32))])) _
                                        refine XS.istoreN X0.here hx rfl (hb hby d2_200) rfl (l' := #[.val (.int p0), .val (.int (1 : Int32))]) rfl ?_
                                        show Steps p.tables e below (s₁.setTop (mkF m 201 #[.val (.int p0), .val (.int (1 : Int32))] [])) _
                                        refine XS.iloadN X0.here hx rfl (hb hby d2_201) rfl ?_
                                        exact kt)
                                    obtain ⟨fs, hr, hrun, hended, hW, hsame⟩ := X0.leave (v := some (.int (0 : Int32))) (fun h => by rw [Bd.returns] at h; cases h)
                                    have hv220 : (f2 p0) = (0 : Int32) := by rw [f2, if_neg hc1_2, if_neg hc7_4, if_neg hc16_6, if_pos hc65_30, if_neg hc72_32, if_neg hc79_35, if_neg hc86_38, if_pos hc93_62, if_neg hc100_64, if_neg hc107_67, if_pos hc114_86, if_neg hc121_88, if_pos hc128_105, if_neg hc135_107, if_pos hc142_122, if_neg hc149_124, if_neg hc156_137]
                                    refine ⟨_, _, pre171 _ ?_, hrun, hended, _, _, rfl, ?_, ⟨_, rfl⟩, hW, hsame.mono (by decide) (by decide)⟩
                                    · show Steps p.tables e below (s₁.setTop (mkF m 202 #[.val (.int p0), .val (.int (1 : Int32))] [(.int (1 : Int32))])) _
                                      refine XS.ifYes X0.here hx rfl (pc0 := 202) (pc' := 209) rfl (hb hby d2_202) rfl ((if0 _ _).trans (feq (by decide : ¬ ((1 : Int32) = (0 : Int32)))).2) (by decide) (by decide) ?_
                                      show Steps p.tables e below (s₁.setTop (mkF m 209 #[.val (.int p0), .val (.int (1 : Int32))] [])) _
                                      refine XS.iconst X0.here hx rfl (hb hby d2_209) ?_
                                      show Steps p.tables e below (s₁.setTop (mkF m 210 #[.val (.int p0), .val (.int (1 : Int32))] [(.int (0 : Int32))])) _
                                      exact retN X0 hx (t := .boolean) Bd.returns (by simp) (hb hby d2_210) hr
                                    · show Q2 Z p0 h0 n0 _ s₁.heap _
                                      rw [e0]
                                      exact ⟨congrArg (fun q => some (Value.int q)) hv220.symm, N0, rfl⟩
                              · have pre172 : ∀ t, Steps p.tables e below (s₁.setTop (mkF m 202 #[.val (.int p0), .val (.int (1 : Int32))] [(.int (1 : Int32))])) t → Steps p.tables e below (s₁.setTop (entryFrame m #[(.int p0)] 2)) t := fun t kt => pre121 t (by
                                    show Steps p.tables e below (s₁.setTop (mkF m 142 #[.val (.int p0), .unset] [(.int (11263 : Int32)), (.int p0)])) _
                                    refine XS.icmpYes X0.here hx rfl (pc0 := 142) (pc' := 195) rfl (hb hby d2_142) rfl (flt hc142_122).2.2.2 (by decide) (by decide) ?_
                                    show Steps p.tables e below (s₁.setTop (mkF m 195 #[.val (.int p0), .unset] [])) _
                                    refine XS.iconst X0.here hx rfl (hb hby d2_195) ?_
                                    show Steps p.tables e below (s₁.setTop (mkF m 196 #[.val (.int p0), .unset] [(.int (1 : Int32))])) _
                                    refine XS.goto X0.here hx rfl (pc0 := 196) (pc' := 200) rfl (hb hby d2_196) (by decide) (by decide) ?_
                                    show Steps p.tables e below (s₁.setTop (mkF m 200 #[.val (.int p0), .unset] [(.int (1 : Int32))])) _
                                    refine XS.istoreN X0.here hx rfl (hb hby d2_200) rfl (l' := #[.val (.int p0), .val (.int (1 : Int32))]) rfl ?_
                                    show Steps p.tables e below (s₁.setTop (mkF m 201 #[.val (.int p0), .val (.int (1 : Int32))] [])) _
                                    refine XS.iloadN X0.here hx rfl (hb hby d2_201) rfl ?_
                                    exact kt)
                                obtain ⟨fs, hr, hrun, hended, hW, hsame⟩ := X0.leave (v := some (.int (0 : Int32))) (fun h => by rw [Bd.returns] at h; cases h)
                                have hv221 : (f2 p0) = (0 : Int32) := by rw [f2, if_neg hc1_2, if_neg hc7_4, if_neg hc16_6, if_pos hc65_30, if_neg hc72_32, if_neg hc79_35, if_neg hc86_38, if_pos hc93_62, if_neg hc100_64, if_neg hc107_67, if_pos hc114_86, if_neg hc121_88, if_pos hc128_105, if_neg hc135_107, if_neg hc142_122]
                                refine ⟨_, _, pre172 _ ?_, hrun, hended, _, _, rfl, ?_, ⟨_, rfl⟩, hW, hsame.mono (by decide) (by decide)⟩
                                · show Steps p.tables e below (s₁.setTop (mkF m 202 #[.val (.int p0), .val (.int (1 : Int32))] [(.int (1 : Int32))])) _
                                  refine XS.ifYes X0.here hx rfl (pc0 := 202) (pc' := 209) rfl (hb hby d2_202) rfl ((if0 _ _).trans (feq (by decide : ¬ ((1 : Int32) = (0 : Int32)))).2) (by decide) (by decide) ?_
                                  show Steps p.tables e below (s₁.setTop (mkF m 209 #[.val (.int p0), .val (.int (1 : Int32))] [])) _
                                  refine XS.iconst X0.here hx rfl (hb hby d2_209) ?_
                                  show Steps p.tables e below (s₁.setTop (mkF m 210 #[.val (.int p0), .val (.int (1 : Int32))] [(.int (0 : Int32))])) _
                                  exact retN X0 hx (t := .boolean) Bd.returns (by simp) (hb hby d2_210) hr
                                · show Q2 Z p0 h0 n0 _ s₁.heap _
                                  rw [e0]
                                  exact ⟨congrArg (fun q => some (Value.int q)) hv221.symm, N0, rfl⟩
                          · have pre173 : ∀ t, Steps p.tables e below (s₁.setTop (mkF m 202 #[.val (.int p0), .val (.int (1 : Int32))] [(.int (1 : Int32))])) t → Steps p.tables e below (s₁.setTop (entryFrame m #[(.int p0)] 2)) t := fun t kt => pre104 t (by
                                show Steps p.tables e below (s₁.setTop (mkF m 128 #[.val (.int p0), .unset] [(.int (8303 : Int32)), (.int p0)])) _
                                refine XS.icmpYes X0.here hx rfl (pc0 := 128) (pc' := 195) rfl (hb hby d2_128) rfl (flt hc128_105).2.2.2 (by decide) (by decide) ?_
                                show Steps p.tables e below (s₁.setTop (mkF m 195 #[.val (.int p0), .unset] [])) _
                                refine XS.iconst X0.here hx rfl (hb hby d2_195) ?_
                                show Steps p.tables e below (s₁.setTop (mkF m 196 #[.val (.int p0), .unset] [(.int (1 : Int32))])) _
                                refine XS.goto X0.here hx rfl (pc0 := 196) (pc' := 200) rfl (hb hby d2_196) (by decide) (by decide) ?_
                                show Steps p.tables e below (s₁.setTop (mkF m 200 #[.val (.int p0), .unset] [(.int (1 : Int32))])) _
                                refine XS.istoreN X0.here hx rfl (hb hby d2_200) rfl (l' := #[.val (.int p0), .val (.int (1 : Int32))]) rfl ?_
                                show Steps p.tables e below (s₁.setTop (mkF m 201 #[.val (.int p0), .val (.int (1 : Int32))] [])) _
                                refine XS.iloadN X0.here hx rfl (hb hby d2_201) rfl ?_
                                exact kt)
                            obtain ⟨fs, hr, hrun, hended, hW, hsame⟩ := X0.leave (v := some (.int (0 : Int32))) (fun h => by rw [Bd.returns] at h; cases h)
                            have hv222 : (f2 p0) = (0 : Int32) := by rw [f2, if_neg hc1_2, if_neg hc7_4, if_neg hc16_6, if_pos hc65_30, if_neg hc72_32, if_neg hc79_35, if_neg hc86_38, if_pos hc93_62, if_neg hc100_64, if_neg hc107_67, if_pos hc114_86, if_neg hc121_88, if_neg hc128_105]
                            refine ⟨_, _, pre173 _ ?_, hrun, hended, _, _, rfl, ?_, ⟨_, rfl⟩, hW, hsame.mono (by decide) (by decide)⟩
                            · show Steps p.tables e below (s₁.setTop (mkF m 202 #[.val (.int p0), .val (.int (1 : Int32))] [(.int (1 : Int32))])) _
                              refine XS.ifYes X0.here hx rfl (pc0 := 202) (pc' := 209) rfl (hb hby d2_202) rfl ((if0 _ _).trans (feq (by decide : ¬ ((1 : Int32) = (0 : Int32)))).2) (by decide) (by decide) ?_
                              show Steps p.tables e below (s₁.setTop (mkF m 209 #[.val (.int p0), .val (.int (1 : Int32))] [])) _
                              refine XS.iconst X0.here hx rfl (hb hby d2_209) ?_
                              show Steps p.tables e below (s₁.setTop (mkF m 210 #[.val (.int p0), .val (.int (1 : Int32))] [(.int (0 : Int32))])) _
                              exact retN X0 hx (t := .boolean) Bd.returns (by simp) (hb hby d2_210) hr
                            · show Q2 Z p0 h0 n0 _ s₁.heap _
                              rw [e0]
                              exact ⟨congrArg (fun q => some (Value.int q)) hv222.symm, N0, rfl⟩
                      · have pre174 : ∀ t, Steps p.tables e below (s₁.setTop (mkF m 202 #[.val (.int p0), .val (.int (1 : Int32))] [(.int (1 : Int32))])) t → Steps p.tables e below (s₁.setTop (entryFrame m #[(.int p0)] 2)) t := fun t kt => pre85 t (by
                            show Steps p.tables e below (s₁.setTop (mkF m 114 #[.val (.int p0), .unset] [(.int (8203 : Int32)), (.int p0)])) _
                            refine XS.icmpYes X0.here hx rfl (pc0 := 114) (pc' := 195) rfl (hb hby d2_114) rfl (flt hc114_86).2.2.2 (by decide) (by decide) ?_
                            show Steps p.tables e below (s₁.setTop (mkF m 195 #[.val (.int p0), .unset] [])) _
                            refine XS.iconst X0.here hx rfl (hb hby d2_195) ?_
                            show Steps p.tables e below (s₁.setTop (mkF m 196 #[.val (.int p0), .unset] [(.int (1 : Int32))])) _
                            refine XS.goto X0.here hx rfl (pc0 := 196) (pc' := 200) rfl (hb hby d2_196) (by decide) (by decide) ?_
                            show Steps p.tables e below (s₁.setTop (mkF m 200 #[.val (.int p0), .unset] [(.int (1 : Int32))])) _
                            refine XS.istoreN X0.here hx rfl (hb hby d2_200) rfl (l' := #[.val (.int p0), .val (.int (1 : Int32))]) rfl ?_
                            show Steps p.tables e below (s₁.setTop (mkF m 201 #[.val (.int p0), .val (.int (1 : Int32))] [])) _
                            refine XS.iloadN X0.here hx rfl (hb hby d2_201) rfl ?_
                            exact kt)
                        obtain ⟨fs, hr, hrun, hended, hW, hsame⟩ := X0.leave (v := some (.int (0 : Int32))) (fun h => by rw [Bd.returns] at h; cases h)
                        have hv223 : (f2 p0) = (0 : Int32) := by rw [f2, if_neg hc1_2, if_neg hc7_4, if_neg hc16_6, if_pos hc65_30, if_neg hc72_32, if_neg hc79_35, if_neg hc86_38, if_pos hc93_62, if_neg hc100_64, if_neg hc107_67, if_neg hc114_86]
                        refine ⟨_, _, pre174 _ ?_, hrun, hended, _, _, rfl, ?_, ⟨_, rfl⟩, hW, hsame.mono (by decide) (by decide)⟩
                        · show Steps p.tables e below (s₁.setTop (mkF m 202 #[.val (.int p0), .val (.int (1 : Int32))] [(.int (1 : Int32))])) _
                          refine XS.ifYes X0.here hx rfl (pc0 := 202) (pc' := 209) rfl (hb hby d2_202) rfl ((if0 _ _).trans (feq (by decide : ¬ ((1 : Int32) = (0 : Int32)))).2) (by decide) (by decide) ?_
                          show Steps p.tables e below (s₁.setTop (mkF m 209 #[.val (.int p0), .val (.int (1 : Int32))] [])) _
                          refine XS.iconst X0.here hx rfl (hb hby d2_209) ?_
                          show Steps p.tables e below (s₁.setTop (mkF m 210 #[.val (.int p0), .val (.int (1 : Int32))] [(.int (0 : Int32))])) _
                          exact retN X0 hx (t := .boolean) Bd.returns (by simp) (hb hby d2_210) hr
                        · show Q2 Z p0 h0 n0 _ s₁.heap _
                          rw [e0]
                          exact ⟨congrArg (fun q => some (Value.int q)) hv223.symm, N0, rfl⟩
                · have pre175 : ∀ t, Steps p.tables e below (s₁.setTop (mkF m 202 #[.val (.int p0), .val (.int (1 : Int32))] [(.int (1 : Int32))])) t → Steps p.tables e below (s₁.setTop (entryFrame m #[(.int p0)] 2)) t := fun t kt => pre61 t (by
                      show Steps p.tables e below (s₁.setTop (mkF m 93 #[.val (.int p0), .unset] [(.int (879 : Int32)), (.int p0)])) _
                      refine XS.icmpYes X0.here hx rfl (pc0 := 93) (pc' := 195) rfl (hb hby d2_93) rfl (flt hc93_62).2.2.2 (by decide) (by decide) ?_
                      show Steps p.tables e below (s₁.setTop (mkF m 195 #[.val (.int p0), .unset] [])) _
                      refine XS.iconst X0.here hx rfl (hb hby d2_195) ?_
                      show Steps p.tables e below (s₁.setTop (mkF m 196 #[.val (.int p0), .unset] [(.int (1 : Int32))])) _
                      refine XS.goto X0.here hx rfl (pc0 := 196) (pc' := 200) rfl (hb hby d2_196) (by decide) (by decide) ?_
                      show Steps p.tables e below (s₁.setTop (mkF m 200 #[.val (.int p0), .unset] [(.int (1 : Int32))])) _
                      refine XS.istoreN X0.here hx rfl (hb hby d2_200) rfl (l' := #[.val (.int p0), .val (.int (1 : Int32))]) rfl ?_
                      show Steps p.tables e below (s₁.setTop (mkF m 201 #[.val (.int p0), .val (.int (1 : Int32))] [])) _
                      refine XS.iloadN X0.here hx rfl (hb hby d2_201) rfl ?_
                      exact kt)
                  obtain ⟨fs, hr, hrun, hended, hW, hsame⟩ := X0.leave (v := some (.int (0 : Int32))) (fun h => by rw [Bd.returns] at h; cases h)
                  have hv224 : (f2 p0) = (0 : Int32) := by rw [f2, if_neg hc1_2, if_neg hc7_4, if_neg hc16_6, if_pos hc65_30, if_neg hc72_32, if_neg hc79_35, if_neg hc86_38, if_neg hc93_62]
                  refine ⟨_, _, pre175 _ ?_, hrun, hended, _, _, rfl, ?_, ⟨_, rfl⟩, hW, hsame.mono (by decide) (by decide)⟩
                  · show Steps p.tables e below (s₁.setTop (mkF m 202 #[.val (.int p0), .val (.int (1 : Int32))] [(.int (1 : Int32))])) _
                    refine XS.ifYes X0.here hx rfl (pc0 := 202) (pc' := 209) rfl (hb hby d2_202) rfl ((if0 _ _).trans (feq (by decide : ¬ ((1 : Int32) = (0 : Int32)))).2) (by decide) (by decide) ?_
                    show Steps p.tables e below (s₁.setTop (mkF m 209 #[.val (.int p0), .val (.int (1 : Int32))] [])) _
                    refine XS.iconst X0.here hx rfl (hb hby d2_209) ?_
                    show Steps p.tables e below (s₁.setTop (mkF m 210 #[.val (.int p0), .val (.int (1 : Int32))] [(.int (0 : Int32))])) _
                    exact retN X0 hx (t := .boolean) Bd.returns (by simp) (hb hby d2_210) hr
                  · show Q2 Z p0 h0 n0 _ s₁.heap _
                    rw [e0]
                    exact ⟨congrArg (fun q => some (Value.int q)) hv224.symm, N0, rfl⟩
        · have pre176 : ∀ t, Steps p.tables e below (s₁.setTop (mkF m 202 #[.val (.int p0), .val (.int (1 : Int32))] [(.int (1 : Int32))])) t → Steps p.tables e below (s₁.setTop (entryFrame m #[(.int p0)] 2)) t := fun t kt => pre29 t (by
              show Steps p.tables e below (s₁.setTop (mkF m 65 #[.val (.int p0), .unset] [(.int (191 : Int32)), (.int p0)])) _
              refine XS.icmpYes X0.here hx rfl (pc0 := 65) (pc' := 195) rfl (hb hby d2_65) rfl (flt hc65_30).2.2.2 (by decide) (by decide) ?_
              show Steps p.tables e below (s₁.setTop (mkF m 195 #[.val (.int p0), .unset] [])) _
              refine XS.iconst X0.here hx rfl (hb hby d2_195) ?_
              show Steps p.tables e below (s₁.setTop (mkF m 196 #[.val (.int p0), .unset] [(.int (1 : Int32))])) _
              refine XS.goto X0.here hx rfl (pc0 := 196) (pc' := 200) rfl (hb hby d2_196) (by decide) (by decide) ?_
              show Steps p.tables e below (s₁.setTop (mkF m 200 #[.val (.int p0), .unset] [(.int (1 : Int32))])) _
              refine XS.istoreN X0.here hx rfl (hb hby d2_200) rfl (l' := #[.val (.int p0), .val (.int (1 : Int32))]) rfl ?_
              show Steps p.tables e below (s₁.setTop (mkF m 201 #[.val (.int p0), .val (.int (1 : Int32))] [])) _
              refine XS.iloadN X0.here hx rfl (hb hby d2_201) rfl ?_
              exact kt)
          obtain ⟨fs, hr, hrun, hended, hW, hsame⟩ := X0.leave (v := some (.int (0 : Int32))) (fun h => by rw [Bd.returns] at h; cases h)
          have hv225 : (f2 p0) = (0 : Int32) := by rw [f2, if_neg hc1_2, if_neg hc7_4, if_neg hc16_6, if_neg hc65_30]
          refine ⟨_, _, pre176 _ ?_, hrun, hended, _, _, rfl, ?_, ⟨_, rfl⟩, hW, hsame.mono (by decide) (by decide)⟩
          · show Steps p.tables e below (s₁.setTop (mkF m 202 #[.val (.int p0), .val (.int (1 : Int32))] [(.int (1 : Int32))])) _
            refine XS.ifYes X0.here hx rfl (pc0 := 202) (pc' := 209) rfl (hb hby d2_202) rfl ((if0 _ _).trans (feq (by decide : ¬ ((1 : Int32) = (0 : Int32)))).2) (by decide) (by decide) ?_
            show Steps p.tables e below (s₁.setTop (mkF m 209 #[.val (.int p0), .val (.int (1 : Int32))] [])) _
            refine XS.iconst X0.here hx rfl (hb hby d2_209) ?_
            show Steps p.tables e below (s₁.setTop (mkF m 210 #[.val (.int p0), .val (.int (1 : Int32))] [(.int (0 : Int32))])) _
            exact retN X0 hx (t := .boolean) Bd.returns (by simp) (hb hby d2_210) hr
          · show Q2 Z p0 h0 n0 _ s₁.heap _
            rw [e0]
            exact ⟨congrArg (fun q => some (Value.int q)) hv225.symm, N0, rfl⟩
theorem pn_0 : plainName "com/example/cuttlefish/cuttlefish/xml/XmlNamesIsNameStartPinLaw" = true := by first | (simp [plainName, overriddenIn]; done) | decide +kernel
theorem pd_0_0 : parseMethodDescriptor "(I)Z" = some ⟨[.int], some .boolean⟩ := by decide +kernel
theorem ef_0 (m : MethodId) (x0 : Int32) (x1 : Int32) (x2 : Int32) : entryFrame m #[(.int x0), (.int x1), (.int x2)] maxLocals = mkF m 0 #[.val (.int x0), .val (.int x1), .val (.int x2), .unset, .unset, .unset] [] := by first | (simp [entryFrame, mkF, argsToLocals, Value.category, maxLocals]; done) | rfl
def e0_1 (p2 : Int32) (w141 : Int32) : Int32 := ((w141 + ((p2 &&& (2147483647 : Int32)) - ((p2 &&& (2147483647 : Int32)) / (5 : Int32)) * (5 : Int32))) - (2 : Int32))
theorem own_clt (c k : Int32) (n : Int) (hk : k.toInt = n) (h : c.toInt < n) : c < k := by rw [Int32.lt_iff_toInt_lt, hk]; exact h
theorem own_cnlt (c k : Int32) (n : Int) (hk : k.toInt = n) (h : n ≤ c.toInt) : ¬ c < k := by rw [Int32.lt_iff_toInt_lt, hk]; omega
theorem own_cgt (c k : Int32) (n : Int) (hk : k.toInt = n) (h : n < c.toInt) : k < c := by rw [Int32.lt_iff_toInt_lt, hk]; exact h
theorem own_cngt (c k : Int32) (n : Int) (hk : k.toInt = n) (h : c.toInt ≤ n) : ¬ k < c := by rw [Int32.lt_iff_toInt_lt, hk]; omega
theorem own_cis (c k : Int32) (n : Int) (hk : k.toInt = n) (h : c.toInt = n) : c = k := Int32.toInt_inj.mp (by rw [hk]; exact h)
theorem own_cisnt (c k : Int32) (n : Int) (hk : k.toInt = n) (h : ¬ c.toInt = n) : ¬ c = k := fun q => h (by rw [q]; exact hk)
theorem own_same (c : Int32) (F1 : Nat → Int32) (hF : ∀ j : Int32, ¬ j < 0 → j < (128 : Int32) → (own_P j.toInt → F1 j.toNatClampNeg = 1) ∧ (¬ own_P j.toInt → F1 j.toNatClampNeg = 0)) : f1 c F1 = f2 c := by
  have hc : (c.toInt < -1) ∨ (c.toInt = -1) ∨ (c.toInt = 0) ∨ (0 < c.toInt ∧ c.toInt < 58) ∨ (c.toInt = 58) ∨ (58 < c.toInt ∧ c.toInt < 65) ∨ (c.toInt = 65) ∨ (65 < c.toInt ∧ c.toInt < 90) ∨ (c.toInt = 90) ∨ (90 < c.toInt ∧ c.toInt < 95) ∨ (c.toInt = 95) ∨ (95 < c.toInt ∧ c.toInt < 97) ∨ (c.toInt = 97) ∨ (97 < c.toInt ∧ c.toInt < 122) ∨ (c.toInt = 122) ∨ (122 < c.toInt ∧ c.toInt < 127) ∨ (c.toInt = 127) ∨ (c.toInt = 128) ∨ (128 < c.toInt ∧ c.toInt < 191) ∨ (c.toInt = 191) ∨ (c.toInt = 192) ∨ (192 < c.toInt ∧ c.toInt < 214) ∨ (c.toInt = 214) ∨ (c.toInt = 215) ∨ (c.toInt = 216) ∨ (216 < c.toInt ∧ c.toInt < 246) ∨ (c.toInt = 246) ∨ (c.toInt = 247) ∨ (c.toInt = 248) ∨ (248 < c.toInt ∧ c.toInt < 767) ∨ (c.toInt = 767) ∨ (c.toInt = 768) ∨ (768 < c.toInt ∧ c.toInt < 879) ∨ (c.toInt = 879) ∨ (c.toInt = 880) ∨ (880 < c.toInt ∧ c.toInt < 893) ∨ (c.toInt = 893) ∨ (c.toInt = 894) ∨ (c.toInt = 895) ∨ (895 < c.toInt ∧ c.toInt < 8191) ∨ (c.toInt = 8191) ∨ (c.toInt = 8192) ∨ (8192 < c.toInt ∧ c.toInt < 8203) ∨ (c.toInt = 8203) ∨ (c.toInt = 8204) ∨ (c.toInt = 8205) ∨ (c.toInt = 8206) ∨ (8206 < c.toInt ∧ c.toInt < 8303) ∨ (c.toInt = 8303) ∨ (c.toInt = 8304) ∨ (8304 < c.toInt ∧ c.toInt < 8591) ∨ (c.toInt = 8591) ∨ (c.toInt = 8592) ∨ (8592 < c.toInt ∧ c.toInt < 11263) ∨ (c.toInt = 11263) ∨ (c.toInt = 11264) ∨ (11264 < c.toInt ∧ c.toInt < 12271) ∨ (c.toInt = 12271) ∨ (c.toInt = 12272) ∨ (12272 < c.toInt ∧ c.toInt < 12288) ∨ (c.toInt = 12288) ∨ (c.toInt = 12289) ∨ (12289 < c.toInt ∧ c.toInt < 55295) ∨ (c.toInt = 55295) ∨ (c.toInt = 55296) ∨ (55296 < c.toInt ∧ c.toInt < 63743) ∨ (c.toInt = 63743) ∨ (c.toInt = 63744) ∨ (63744 < c.toInt ∧ c.toInt < 64975) ∨ (c.toInt = 64975) ∨ (c.toInt = 64976) ∨ (64976 < c.toInt ∧ c.toInt < 65007) ∨ (c.toInt = 65007) ∨ (c.toInt = 65008) ∨ (65008 < c.toInt ∧ c.toInt < 65533) ∨ (c.toInt = 65533) ∨ (c.toInt = 65534) ∨ (c.toInt = 65535) ∨ (c.toInt = 65536) ∨ (65536 < c.toInt ∧ c.toInt < 983039) ∨ (c.toInt = 983039) ∨ (983039 < c.toInt) := by omega
  rcases hc with h | h | h | h | h | h | h | h | h | h | h | h | h | h | h | h | h | h | h | h | h | h | h | h | h | h | h | h | h | h | h | h | h | h | h | h | h | h | h | h | h | h | h | h | h | h | h | h | h | h | h | h | h | h | h | h | h | h | h | h | h | h | h | h | h | h | h | h | h | h | h | h | h | h | h | h | h | h | h | h | h | h
  · rw [f1, if_pos (own_clt c (128 : Int32) 128 (by decide) (by omega)), if_pos (own_clt c (0 : Int32) 0 (by decide) (by omega)), f2, if_pos (own_clt c (0 : Int32) 0 (by decide) (by omega))]
  · rw [f1, if_pos (own_clt c (128 : Int32) 128 (by decide) (by omega)), if_pos (own_clt c (0 : Int32) 0 (by decide) (by omega)), f2, if_pos (own_clt c (0 : Int32) 0 (by decide) (by omega))]
  · rw [f1, if_pos (own_clt c (128 : Int32) 128 (by decide) (by omega)), if_neg (own_cnlt c (0 : Int32) 0 (by decide) (by omega)), if_pos ((hF c (own_cnlt c (0 : Int32) 0 (by decide) (by omega)) (own_clt c (128 : Int32) 128 (by decide) (by omega))).2 (by unfold own_P; omega)), f2, if_neg (own_cnlt c (0 : Int32) 0 (by decide) (by omega)), if_neg (own_cngt c (983039 : Int32) 983039 (by decide) (by omega)), if_pos (own_clt c (128 : Int32) 128 (by decide) (by omega)), if_pos (own_clt c (65 : Int32) 65 (by decide) (by omega)), if_neg (own_cisnt c (95 : Int32) 95 (by decide) (by omega)), if_neg (own_cisnt c (58 : Int32) 58 (by decide) (by omega))]
  · rw [f1, if_pos (own_clt c (128 : Int32) 128 (by decide) (by omega)), if_neg (own_cnlt c (0 : Int32) 0 (by decide) (by omega)), if_pos ((hF c (own_cnlt c (0 : Int32) 0 (by decide) (by omega)) (own_clt c (128 : Int32) 128 (by decide) (by omega))).2 (by unfold own_P; omega)), f2, if_neg (own_cnlt c (0 : Int32) 0 (by decide) (by omega)), if_neg (own_cngt c (983039 : Int32) 983039 (by decide) (by omega)), if_pos (own_clt c (128 : Int32) 128 (by decide) (by omega)), if_pos (own_clt c (65 : Int32) 65 (by decide) (by omega)), if_neg (own_cisnt c (95 : Int32) 95 (by decide) (by omega)), if_neg (own_cisnt c (58 : Int32) 58 (by decide) (by omega))]
  · rw [f1, if_pos (own_clt c (128 : Int32) 128 (by decide) (by omega)), if_neg (own_cnlt c (0 : Int32) 0 (by decide) (by omega)), if_neg (by rw [(hF c (own_cnlt c (0 : Int32) 0 (by decide) (by omega)) (own_clt c (128 : Int32) 128 (by decide) (by omega))).1 (by unfold own_P; omega)]; decide), f2, if_neg (own_cnlt c (0 : Int32) 0 (by decide) (by omega)), if_neg (own_cngt c (983039 : Int32) 983039 (by decide) (by omega)), if_pos (own_clt c (128 : Int32) 128 (by decide) (by omega)), if_pos (own_clt c (65 : Int32) 65 (by decide) (by omega)), if_neg (own_cisnt c (95 : Int32) 95 (by decide) (by omega)), if_pos (own_cis c (58 : Int32) 58 (by decide) (by omega))]
  · rw [f1, if_pos (own_clt c (128 : Int32) 128 (by decide) (by omega)), if_neg (own_cnlt c (0 : Int32) 0 (by decide) (by omega)), if_pos ((hF c (own_cnlt c (0 : Int32) 0 (by decide) (by omega)) (own_clt c (128 : Int32) 128 (by decide) (by omega))).2 (by unfold own_P; omega)), f2, if_neg (own_cnlt c (0 : Int32) 0 (by decide) (by omega)), if_neg (own_cngt c (983039 : Int32) 983039 (by decide) (by omega)), if_pos (own_clt c (128 : Int32) 128 (by decide) (by omega)), if_pos (own_clt c (65 : Int32) 65 (by decide) (by omega)), if_neg (own_cisnt c (95 : Int32) 95 (by decide) (by omega)), if_neg (own_cisnt c (58 : Int32) 58 (by decide) (by omega))]
  · rw [f1, if_pos (own_clt c (128 : Int32) 128 (by decide) (by omega)), if_neg (own_cnlt c (0 : Int32) 0 (by decide) (by omega)), if_neg (by rw [(hF c (own_cnlt c (0 : Int32) 0 (by decide) (by omega)) (own_clt c (128 : Int32) 128 (by decide) (by omega))).1 (by unfold own_P; omega)]; decide), f2, if_neg (own_cnlt c (0 : Int32) 0 (by decide) (by omega)), if_neg (own_cngt c (983039 : Int32) 983039 (by decide) (by omega)), if_pos (own_clt c (128 : Int32) 128 (by decide) (by omega)), if_neg (own_cnlt c (65 : Int32) 65 (by decide) (by omega)), if_neg (own_cngt c (90 : Int32) 90 (by decide) (by omega))]
  · rw [f1, if_pos (own_clt c (128 : Int32) 128 (by decide) (by omega)), if_neg (own_cnlt c (0 : Int32) 0 (by decide) (by omega)), if_neg (by rw [(hF c (own_cnlt c (0 : Int32) 0 (by decide) (by omega)) (own_clt c (128 : Int32) 128 (by decide) (by omega))).1 (by unfold own_P; omega)]; decide), f2, if_neg (own_cnlt c (0 : Int32) 0 (by decide) (by omega)), if_neg (own_cngt c (983039 : Int32) 983039 (by decide) (by omega)), if_pos (own_clt c (128 : Int32) 128 (by decide) (by omega)), if_neg (own_cnlt c (65 : Int32) 65 (by decide) (by omega)), if_neg (own_cngt c (90 : Int32) 90 (by decide) (by omega))]
  · rw [f1, if_pos (own_clt c (128 : Int32) 128 (by decide) (by omega)), if_neg (own_cnlt c (0 : Int32) 0 (by decide) (by omega)), if_neg (by rw [(hF c (own_cnlt c (0 : Int32) 0 (by decide) (by omega)) (own_clt c (128 : Int32) 128 (by decide) (by omega))).1 (by unfold own_P; omega)]; decide), f2, if_neg (own_cnlt c (0 : Int32) 0 (by decide) (by omega)), if_neg (own_cngt c (983039 : Int32) 983039 (by decide) (by omega)), if_pos (own_clt c (128 : Int32) 128 (by decide) (by omega)), if_neg (own_cnlt c (65 : Int32) 65 (by decide) (by omega)), if_neg (own_cngt c (90 : Int32) 90 (by decide) (by omega))]
  · rw [f1, if_pos (own_clt c (128 : Int32) 128 (by decide) (by omega)), if_neg (own_cnlt c (0 : Int32) 0 (by decide) (by omega)), if_pos ((hF c (own_cnlt c (0 : Int32) 0 (by decide) (by omega)) (own_clt c (128 : Int32) 128 (by decide) (by omega))).2 (by unfold own_P; omega)), f2, if_neg (own_cnlt c (0 : Int32) 0 (by decide) (by omega)), if_neg (own_cngt c (983039 : Int32) 983039 (by decide) (by omega)), if_pos (own_clt c (128 : Int32) 128 (by decide) (by omega)), if_neg (own_cnlt c (65 : Int32) 65 (by decide) (by omega)), if_pos (own_cgt c (90 : Int32) 90 (by decide) (by omega)), if_pos (own_clt c (97 : Int32) 97 (by decide) (by omega)), if_neg (own_cisnt c (95 : Int32) 95 (by decide) (by omega)), if_neg (own_cisnt c (58 : Int32) 58 (by decide) (by omega))]
  · rw [f1, if_pos (own_clt c (128 : Int32) 128 (by decide) (by omega)), if_neg (own_cnlt c (0 : Int32) 0 (by decide) (by omega)), if_neg (by rw [(hF c (own_cnlt c (0 : Int32) 0 (by decide) (by omega)) (own_clt c (128 : Int32) 128 (by decide) (by omega))).1 (by unfold own_P; omega)]; decide), f2, if_neg (own_cnlt c (0 : Int32) 0 (by decide) (by omega)), if_neg (own_cngt c (983039 : Int32) 983039 (by decide) (by omega)), if_pos (own_clt c (128 : Int32) 128 (by decide) (by omega)), if_neg (own_cnlt c (65 : Int32) 65 (by decide) (by omega)), if_pos (own_cgt c (90 : Int32) 90 (by decide) (by omega)), if_pos (own_clt c (97 : Int32) 97 (by decide) (by omega)), if_pos (own_cis c (95 : Int32) 95 (by decide) (by omega))]
  · rw [f1, if_pos (own_clt c (128 : Int32) 128 (by decide) (by omega)), if_neg (own_cnlt c (0 : Int32) 0 (by decide) (by omega)), if_pos ((hF c (own_cnlt c (0 : Int32) 0 (by decide) (by omega)) (own_clt c (128 : Int32) 128 (by decide) (by omega))).2 (by unfold own_P; omega)), f2, if_neg (own_cnlt c (0 : Int32) 0 (by decide) (by omega)), if_neg (own_cngt c (983039 : Int32) 983039 (by decide) (by omega)), if_pos (own_clt c (128 : Int32) 128 (by decide) (by omega)), if_neg (own_cnlt c (65 : Int32) 65 (by decide) (by omega)), if_pos (own_cgt c (90 : Int32) 90 (by decide) (by omega)), if_pos (own_clt c (97 : Int32) 97 (by decide) (by omega)), if_neg (own_cisnt c (95 : Int32) 95 (by decide) (by omega)), if_neg (own_cisnt c (58 : Int32) 58 (by decide) (by omega))]
  · rw [f1, if_pos (own_clt c (128 : Int32) 128 (by decide) (by omega)), if_neg (own_cnlt c (0 : Int32) 0 (by decide) (by omega)), if_neg (by rw [(hF c (own_cnlt c (0 : Int32) 0 (by decide) (by omega)) (own_clt c (128 : Int32) 128 (by decide) (by omega))).1 (by unfold own_P; omega)]; decide), f2, if_neg (own_cnlt c (0 : Int32) 0 (by decide) (by omega)), if_neg (own_cngt c (983039 : Int32) 983039 (by decide) (by omega)), if_pos (own_clt c (128 : Int32) 128 (by decide) (by omega)), if_neg (own_cnlt c (65 : Int32) 65 (by decide) (by omega)), if_pos (own_cgt c (90 : Int32) 90 (by decide) (by omega)), if_neg (own_cnlt c (97 : Int32) 97 (by decide) (by omega)), if_neg (own_cngt c (122 : Int32) 122 (by decide) (by omega))]
  · rw [f1, if_pos (own_clt c (128 : Int32) 128 (by decide) (by omega)), if_neg (own_cnlt c (0 : Int32) 0 (by decide) (by omega)), if_neg (by rw [(hF c (own_cnlt c (0 : Int32) 0 (by decide) (by omega)) (own_clt c (128 : Int32) 128 (by decide) (by omega))).1 (by unfold own_P; omega)]; decide), f2, if_neg (own_cnlt c (0 : Int32) 0 (by decide) (by omega)), if_neg (own_cngt c (983039 : Int32) 983039 (by decide) (by omega)), if_pos (own_clt c (128 : Int32) 128 (by decide) (by omega)), if_neg (own_cnlt c (65 : Int32) 65 (by decide) (by omega)), if_pos (own_cgt c (90 : Int32) 90 (by decide) (by omega)), if_neg (own_cnlt c (97 : Int32) 97 (by decide) (by omega)), if_neg (own_cngt c (122 : Int32) 122 (by decide) (by omega))]
  · rw [f1, if_pos (own_clt c (128 : Int32) 128 (by decide) (by omega)), if_neg (own_cnlt c (0 : Int32) 0 (by decide) (by omega)), if_neg (by rw [(hF c (own_cnlt c (0 : Int32) 0 (by decide) (by omega)) (own_clt c (128 : Int32) 128 (by decide) (by omega))).1 (by unfold own_P; omega)]; decide), f2, if_neg (own_cnlt c (0 : Int32) 0 (by decide) (by omega)), if_neg (own_cngt c (983039 : Int32) 983039 (by decide) (by omega)), if_pos (own_clt c (128 : Int32) 128 (by decide) (by omega)), if_neg (own_cnlt c (65 : Int32) 65 (by decide) (by omega)), if_pos (own_cgt c (90 : Int32) 90 (by decide) (by omega)), if_neg (own_cnlt c (97 : Int32) 97 (by decide) (by omega)), if_neg (own_cngt c (122 : Int32) 122 (by decide) (by omega))]
  · rw [f1, if_pos (own_clt c (128 : Int32) 128 (by decide) (by omega)), if_neg (own_cnlt c (0 : Int32) 0 (by decide) (by omega)), if_pos ((hF c (own_cnlt c (0 : Int32) 0 (by decide) (by omega)) (own_clt c (128 : Int32) 128 (by decide) (by omega))).2 (by unfold own_P; omega)), f2, if_neg (own_cnlt c (0 : Int32) 0 (by decide) (by omega)), if_neg (own_cngt c (983039 : Int32) 983039 (by decide) (by omega)), if_pos (own_clt c (128 : Int32) 128 (by decide) (by omega)), if_neg (own_cnlt c (65 : Int32) 65 (by decide) (by omega)), if_pos (own_cgt c (90 : Int32) 90 (by decide) (by omega)), if_neg (own_cnlt c (97 : Int32) 97 (by decide) (by omega)), if_pos (own_cgt c (122 : Int32) 122 (by decide) (by omega)), if_neg (own_cisnt c (95 : Int32) 95 (by decide) (by omega)), if_neg (own_cisnt c (58 : Int32) 58 (by decide) (by omega))]
  · rw [f1, if_pos (own_clt c (128 : Int32) 128 (by decide) (by omega)), if_neg (own_cnlt c (0 : Int32) 0 (by decide) (by omega)), if_pos ((hF c (own_cnlt c (0 : Int32) 0 (by decide) (by omega)) (own_clt c (128 : Int32) 128 (by decide) (by omega))).2 (by unfold own_P; omega)), f2, if_neg (own_cnlt c (0 : Int32) 0 (by decide) (by omega)), if_neg (own_cngt c (983039 : Int32) 983039 (by decide) (by omega)), if_pos (own_clt c (128 : Int32) 128 (by decide) (by omega)), if_neg (own_cnlt c (65 : Int32) 65 (by decide) (by omega)), if_pos (own_cgt c (90 : Int32) 90 (by decide) (by omega)), if_neg (own_cnlt c (97 : Int32) 97 (by decide) (by omega)), if_pos (own_cgt c (122 : Int32) 122 (by decide) (by omega)), if_neg (own_cisnt c (95 : Int32) 95 (by decide) (by omega)), if_neg (own_cisnt c (58 : Int32) 58 (by decide) (by omega))]
  · rw [f1, if_neg (own_cnlt c (128 : Int32) 128 (by decide) (by omega)), if_pos (own_clt c (192 : Int32) 192 (by decide) (by omega)), f2, if_neg (own_cnlt c (0 : Int32) 0 (by decide) (by omega)), if_neg (own_cngt c (983039 : Int32) 983039 (by decide) (by omega)), if_neg (own_cnlt c (128 : Int32) 128 (by decide) (by omega)), if_neg (own_cngt c (191 : Int32) 191 (by decide) (by omega))]
  · rw [f1, if_neg (own_cnlt c (128 : Int32) 128 (by decide) (by omega)), if_pos (own_clt c (192 : Int32) 192 (by decide) (by omega)), f2, if_neg (own_cnlt c (0 : Int32) 0 (by decide) (by omega)), if_neg (own_cngt c (983039 : Int32) 983039 (by decide) (by omega)), if_neg (own_cnlt c (128 : Int32) 128 (by decide) (by omega)), if_neg (own_cngt c (191 : Int32) 191 (by decide) (by omega))]
  · rw [f1, if_neg (own_cnlt c (128 : Int32) 128 (by decide) (by omega)), if_pos (own_clt c (192 : Int32) 192 (by decide) (by omega)), f2, if_neg (own_cnlt c (0 : Int32) 0 (by decide) (by omega)), if_neg (own_cngt c (983039 : Int32) 983039 (by decide) (by omega)), if_neg (own_cnlt c (128 : Int32) 128 (by decide) (by omega)), if_neg (own_cngt c (191 : Int32) 191 (by decide) (by omega))]
  · rw [f1, if_neg (own_cnlt c (128 : Int32) 128 (by decide) (by omega)), if_neg (own_cnlt c (192 : Int32) 192 (by decide) (by omega)), if_neg (own_cngt c (214 : Int32) 214 (by decide) (by omega)), f2, if_neg (own_cnlt c (0 : Int32) 0 (by decide) (by omega)), if_neg (own_cngt c (983039 : Int32) 983039 (by decide) (by omega)), if_neg (own_cnlt c (128 : Int32) 128 (by decide) (by omega)), if_pos (own_cgt c (191 : Int32) 191 (by decide) (by omega)), if_neg (own_cisnt c (215 : Int32) 215 (by decide) (by omega)), if_neg (own_cisnt c (247 : Int32) 247 (by decide) (by omega)), if_pos (own_clt c (768 : Int32) 768 (by decide) (by omega)), if_neg (own_cisnt c (894 : Int32) 894 (by decide) (by omega)), if_neg (own_cisnt c (65534 : Int32) 65534 (by decide) (by omega)), if_neg (own_cisnt c (65535 : Int32) 65535 (by decide) (by omega))]
  · rw [f1, if_neg (own_cnlt c (128 : Int32) 128 (by decide) (by omega)), if_neg (own_cnlt c (192 : Int32) 192 (by decide) (by omega)), if_neg (own_cngt c (214 : Int32) 214 (by decide) (by omega)), f2, if_neg (own_cnlt c (0 : Int32) 0 (by decide) (by omega)), if_neg (own_cngt c (983039 : Int32) 983039 (by decide) (by omega)), if_neg (own_cnlt c (128 : Int32) 128 (by decide) (by omega)), if_pos (own_cgt c (191 : Int32) 191 (by decide) (by omega)), if_neg (own_cisnt c (215 : Int32) 215 (by decide) (by omega)), if_neg (own_cisnt c (247 : Int32) 247 (by decide) (by omega)), if_pos (own_clt c (768 : Int32) 768 (by decide) (by omega)), if_neg (own_cisnt c (894 : Int32) 894 (by decide) (by omega)), if_neg (own_cisnt c (65534 : Int32) 65534 (by decide) (by omega)), if_neg (own_cisnt c (65535 : Int32) 65535 (by decide) (by omega))]
  · rw [f1, if_neg (own_cnlt c (128 : Int32) 128 (by decide) (by omega)), if_neg (own_cnlt c (192 : Int32) 192 (by decide) (by omega)), if_neg (own_cngt c (214 : Int32) 214 (by decide) (by omega)), f2, if_neg (own_cnlt c (0 : Int32) 0 (by decide) (by omega)), if_neg (own_cngt c (983039 : Int32) 983039 (by decide) (by omega)), if_neg (own_cnlt c (128 : Int32) 128 (by decide) (by omega)), if_pos (own_cgt c (191 : Int32) 191 (by decide) (by omega)), if_neg (own_cisnt c (215 : Int32) 215 (by decide) (by omega)), if_neg (own_cisnt c (247 : Int32) 247 (by decide) (by omega)), if_pos (own_clt c (768 : Int32) 768 (by decide) (by omega)), if_neg (own_cisnt c (894 : Int32) 894 (by decide) (by omega)), if_neg (own_cisnt c (65534 : Int32) 65534 (by decide) (by omega)), if_neg (own_cisnt c (65535 : Int32) 65535 (by decide) (by omega))]
  · rw [f1, if_neg (own_cnlt c (128 : Int32) 128 (by decide) (by omega)), if_neg (own_cnlt c (192 : Int32) 192 (by decide) (by omega)), if_pos (own_cgt c (214 : Int32) 214 (by decide) (by omega)), if_pos (own_clt c (216 : Int32) 216 (by decide) (by omega)), f2, if_neg (own_cnlt c (0 : Int32) 0 (by decide) (by omega)), if_neg (own_cngt c (983039 : Int32) 983039 (by decide) (by omega)), if_neg (own_cnlt c (128 : Int32) 128 (by decide) (by omega)), if_pos (own_cgt c (191 : Int32) 191 (by decide) (by omega)), if_pos (own_cis c (215 : Int32) 215 (by decide) (by omega))]
  · rw [f1, if_neg (own_cnlt c (128 : Int32) 128 (by decide) (by omega)), if_neg (own_cnlt c (192 : Int32) 192 (by decide) (by omega)), if_pos (own_cgt c (214 : Int32) 214 (by decide) (by omega)), if_neg (own_cnlt c (216 : Int32) 216 (by decide) (by omega)), if_neg (own_cngt c (246 : Int32) 246 (by decide) (by omega)), f2, if_neg (own_cnlt c (0 : Int32) 0 (by decide) (by omega)), if_neg (own_cngt c (983039 : Int32) 983039 (by decide) (by omega)), if_neg (own_cnlt c (128 : Int32) 128 (by decide) (by omega)), if_pos (own_cgt c (191 : Int32) 191 (by decide) (by omega)), if_neg (own_cisnt c (215 : Int32) 215 (by decide) (by omega)), if_neg (own_cisnt c (247 : Int32) 247 (by decide) (by omega)), if_pos (own_clt c (768 : Int32) 768 (by decide) (by omega)), if_neg (own_cisnt c (894 : Int32) 894 (by decide) (by omega)), if_neg (own_cisnt c (65534 : Int32) 65534 (by decide) (by omega)), if_neg (own_cisnt c (65535 : Int32) 65535 (by decide) (by omega))]
  · rw [f1, if_neg (own_cnlt c (128 : Int32) 128 (by decide) (by omega)), if_neg (own_cnlt c (192 : Int32) 192 (by decide) (by omega)), if_pos (own_cgt c (214 : Int32) 214 (by decide) (by omega)), if_neg (own_cnlt c (216 : Int32) 216 (by decide) (by omega)), if_neg (own_cngt c (246 : Int32) 246 (by decide) (by omega)), f2, if_neg (own_cnlt c (0 : Int32) 0 (by decide) (by omega)), if_neg (own_cngt c (983039 : Int32) 983039 (by decide) (by omega)), if_neg (own_cnlt c (128 : Int32) 128 (by decide) (by omega)), if_pos (own_cgt c (191 : Int32) 191 (by decide) (by omega)), if_neg (own_cisnt c (215 : Int32) 215 (by decide) (by omega)), if_neg (own_cisnt c (247 : Int32) 247 (by decide) (by omega)), if_pos (own_clt c (768 : Int32) 768 (by decide) (by omega)), if_neg (own_cisnt c (894 : Int32) 894 (by decide) (by omega)), if_neg (own_cisnt c (65534 : Int32) 65534 (by decide) (by omega)), if_neg (own_cisnt c (65535 : Int32) 65535 (by decide) (by omega))]
  · rw [f1, if_neg (own_cnlt c (128 : Int32) 128 (by decide) (by omega)), if_neg (own_cnlt c (192 : Int32) 192 (by decide) (by omega)), if_pos (own_cgt c (214 : Int32) 214 (by decide) (by omega)), if_neg (own_cnlt c (216 : Int32) 216 (by decide) (by omega)), if_neg (own_cngt c (246 : Int32) 246 (by decide) (by omega)), f2, if_neg (own_cnlt c (0 : Int32) 0 (by decide) (by omega)), if_neg (own_cngt c (983039 : Int32) 983039 (by decide) (by omega)), if_neg (own_cnlt c (128 : Int32) 128 (by decide) (by omega)), if_pos (own_cgt c (191 : Int32) 191 (by decide) (by omega)), if_neg (own_cisnt c (215 : Int32) 215 (by decide) (by omega)), if_neg (own_cisnt c (247 : Int32) 247 (by decide) (by omega)), if_pos (own_clt c (768 : Int32) 768 (by decide) (by omega)), if_neg (own_cisnt c (894 : Int32) 894 (by decide) (by omega)), if_neg (own_cisnt c (65534 : Int32) 65534 (by decide) (by omega)), if_neg (own_cisnt c (65535 : Int32) 65535 (by decide) (by omega))]
  · rw [f1, if_neg (own_cnlt c (128 : Int32) 128 (by decide) (by omega)), if_neg (own_cnlt c (192 : Int32) 192 (by decide) (by omega)), if_pos (own_cgt c (214 : Int32) 214 (by decide) (by omega)), if_neg (own_cnlt c (216 : Int32) 216 (by decide) (by omega)), if_pos (own_cgt c (246 : Int32) 246 (by decide) (by omega)), if_pos (own_clt c (248 : Int32) 248 (by decide) (by omega)), f2, if_neg (own_cnlt c (0 : Int32) 0 (by decide) (by omega)), if_neg (own_cngt c (983039 : Int32) 983039 (by decide) (by omega)), if_neg (own_cnlt c (128 : Int32) 128 (by decide) (by omega)), if_pos (own_cgt c (191 : Int32) 191 (by decide) (by omega)), if_neg (own_cisnt c (215 : Int32) 215 (by decide) (by omega)), if_pos (own_cis c (247 : Int32) 247 (by decide) (by omega))]
  · rw [f1, if_neg (own_cnlt c (128 : Int32) 128 (by decide) (by omega)), if_neg (own_cnlt c (192 : Int32) 192 (by decide) (by omega)), if_pos (own_cgt c (214 : Int32) 214 (by decide) (by omega)), if_neg (own_cnlt c (216 : Int32) 216 (by decide) (by omega)), if_pos (own_cgt c (246 : Int32) 246 (by decide) (by omega)), if_neg (own_cnlt c (248 : Int32) 248 (by decide) (by omega)), if_neg (own_cngt c (767 : Int32) 767 (by decide) (by omega)), f2, if_neg (own_cnlt c (0 : Int32) 0 (by decide) (by omega)), if_neg (own_cngt c (983039 : Int32) 983039 (by decide) (by omega)), if_neg (own_cnlt c (128 : Int32) 128 (by decide) (by omega)), if_pos (own_cgt c (191 : Int32) 191 (by decide) (by omega)), if_neg (own_cisnt c (215 : Int32) 215 (by decide) (by omega)), if_neg (own_cisnt c (247 : Int32) 247 (by decide) (by omega)), if_pos (own_clt c (768 : Int32) 768 (by decide) (by omega)), if_neg (own_cisnt c (894 : Int32) 894 (by decide) (by omega)), if_neg (own_cisnt c (65534 : Int32) 65534 (by decide) (by omega)), if_neg (own_cisnt c (65535 : Int32) 65535 (by decide) (by omega))]
  · rw [f1, if_neg (own_cnlt c (128 : Int32) 128 (by decide) (by omega)), if_neg (own_cnlt c (192 : Int32) 192 (by decide) (by omega)), if_pos (own_cgt c (214 : Int32) 214 (by decide) (by omega)), if_neg (own_cnlt c (216 : Int32) 216 (by decide) (by omega)), if_pos (own_cgt c (246 : Int32) 246 (by decide) (by omega)), if_neg (own_cnlt c (248 : Int32) 248 (by decide) (by omega)), if_neg (own_cngt c (767 : Int32) 767 (by decide) (by omega)), f2, if_neg (own_cnlt c (0 : Int32) 0 (by decide) (by omega)), if_neg (own_cngt c (983039 : Int32) 983039 (by decide) (by omega)), if_neg (own_cnlt c (128 : Int32) 128 (by decide) (by omega)), if_pos (own_cgt c (191 : Int32) 191 (by decide) (by omega)), if_neg (own_cisnt c (215 : Int32) 215 (by decide) (by omega)), if_neg (own_cisnt c (247 : Int32) 247 (by decide) (by omega)), if_pos (own_clt c (768 : Int32) 768 (by decide) (by omega)), if_neg (own_cisnt c (894 : Int32) 894 (by decide) (by omega)), if_neg (own_cisnt c (65534 : Int32) 65534 (by decide) (by omega)), if_neg (own_cisnt c (65535 : Int32) 65535 (by decide) (by omega))]
  · rw [f1, if_neg (own_cnlt c (128 : Int32) 128 (by decide) (by omega)), if_neg (own_cnlt c (192 : Int32) 192 (by decide) (by omega)), if_pos (own_cgt c (214 : Int32) 214 (by decide) (by omega)), if_neg (own_cnlt c (216 : Int32) 216 (by decide) (by omega)), if_pos (own_cgt c (246 : Int32) 246 (by decide) (by omega)), if_neg (own_cnlt c (248 : Int32) 248 (by decide) (by omega)), if_neg (own_cngt c (767 : Int32) 767 (by decide) (by omega)), f2, if_neg (own_cnlt c (0 : Int32) 0 (by decide) (by omega)), if_neg (own_cngt c (983039 : Int32) 983039 (by decide) (by omega)), if_neg (own_cnlt c (128 : Int32) 128 (by decide) (by omega)), if_pos (own_cgt c (191 : Int32) 191 (by decide) (by omega)), if_neg (own_cisnt c (215 : Int32) 215 (by decide) (by omega)), if_neg (own_cisnt c (247 : Int32) 247 (by decide) (by omega)), if_pos (own_clt c (768 : Int32) 768 (by decide) (by omega)), if_neg (own_cisnt c (894 : Int32) 894 (by decide) (by omega)), if_neg (own_cisnt c (65534 : Int32) 65534 (by decide) (by omega)), if_neg (own_cisnt c (65535 : Int32) 65535 (by decide) (by omega))]
  · rw [f1, if_neg (own_cnlt c (128 : Int32) 128 (by decide) (by omega)), if_neg (own_cnlt c (192 : Int32) 192 (by decide) (by omega)), if_pos (own_cgt c (214 : Int32) 214 (by decide) (by omega)), if_neg (own_cnlt c (216 : Int32) 216 (by decide) (by omega)), if_pos (own_cgt c (246 : Int32) 246 (by decide) (by omega)), if_neg (own_cnlt c (248 : Int32) 248 (by decide) (by omega)), if_pos (own_cgt c (767 : Int32) 767 (by decide) (by omega)), if_pos (own_clt c (880 : Int32) 880 (by decide) (by omega)), f2, if_neg (own_cnlt c (0 : Int32) 0 (by decide) (by omega)), if_neg (own_cngt c (983039 : Int32) 983039 (by decide) (by omega)), if_neg (own_cnlt c (128 : Int32) 128 (by decide) (by omega)), if_pos (own_cgt c (191 : Int32) 191 (by decide) (by omega)), if_neg (own_cisnt c (215 : Int32) 215 (by decide) (by omega)), if_neg (own_cisnt c (247 : Int32) 247 (by decide) (by omega)), if_neg (own_cnlt c (768 : Int32) 768 (by decide) (by omega)), if_neg (own_cngt c (879 : Int32) 879 (by decide) (by omega))]
  · rw [f1, if_neg (own_cnlt c (128 : Int32) 128 (by decide) (by omega)), if_neg (own_cnlt c (192 : Int32) 192 (by decide) (by omega)), if_pos (own_cgt c (214 : Int32) 214 (by decide) (by omega)), if_neg (own_cnlt c (216 : Int32) 216 (by decide) (by omega)), if_pos (own_cgt c (246 : Int32) 246 (by decide) (by omega)), if_neg (own_cnlt c (248 : Int32) 248 (by decide) (by omega)), if_pos (own_cgt c (767 : Int32) 767 (by decide) (by omega)), if_pos (own_clt c (880 : Int32) 880 (by decide) (by omega)), f2, if_neg (own_cnlt c (0 : Int32) 0 (by decide) (by omega)), if_neg (own_cngt c (983039 : Int32) 983039 (by decide) (by omega)), if_neg (own_cnlt c (128 : Int32) 128 (by decide) (by omega)), if_pos (own_cgt c (191 : Int32) 191 (by decide) (by omega)), if_neg (own_cisnt c (215 : Int32) 215 (by decide) (by omega)), if_neg (own_cisnt c (247 : Int32) 247 (by decide) (by omega)), if_neg (own_cnlt c (768 : Int32) 768 (by decide) (by omega)), if_neg (own_cngt c (879 : Int32) 879 (by decide) (by omega))]
  · rw [f1, if_neg (own_cnlt c (128 : Int32) 128 (by decide) (by omega)), if_neg (own_cnlt c (192 : Int32) 192 (by decide) (by omega)), if_pos (own_cgt c (214 : Int32) 214 (by decide) (by omega)), if_neg (own_cnlt c (216 : Int32) 216 (by decide) (by omega)), if_pos (own_cgt c (246 : Int32) 246 (by decide) (by omega)), if_neg (own_cnlt c (248 : Int32) 248 (by decide) (by omega)), if_pos (own_cgt c (767 : Int32) 767 (by decide) (by omega)), if_pos (own_clt c (880 : Int32) 880 (by decide) (by omega)), f2, if_neg (own_cnlt c (0 : Int32) 0 (by decide) (by omega)), if_neg (own_cngt c (983039 : Int32) 983039 (by decide) (by omega)), if_neg (own_cnlt c (128 : Int32) 128 (by decide) (by omega)), if_pos (own_cgt c (191 : Int32) 191 (by decide) (by omega)), if_neg (own_cisnt c (215 : Int32) 215 (by decide) (by omega)), if_neg (own_cisnt c (247 : Int32) 247 (by decide) (by omega)), if_neg (own_cnlt c (768 : Int32) 768 (by decide) (by omega)), if_neg (own_cngt c (879 : Int32) 879 (by decide) (by omega))]
  · rw [f1, if_neg (own_cnlt c (128 : Int32) 128 (by decide) (by omega)), if_neg (own_cnlt c (192 : Int32) 192 (by decide) (by omega)), if_pos (own_cgt c (214 : Int32) 214 (by decide) (by omega)), if_neg (own_cnlt c (216 : Int32) 216 (by decide) (by omega)), if_pos (own_cgt c (246 : Int32) 246 (by decide) (by omega)), if_neg (own_cnlt c (248 : Int32) 248 (by decide) (by omega)), if_pos (own_cgt c (767 : Int32) 767 (by decide) (by omega)), if_neg (own_cnlt c (880 : Int32) 880 (by decide) (by omega)), if_neg (own_cngt c (893 : Int32) 893 (by decide) (by omega)), f2, if_neg (own_cnlt c (0 : Int32) 0 (by decide) (by omega)), if_neg (own_cngt c (983039 : Int32) 983039 (by decide) (by omega)), if_neg (own_cnlt c (128 : Int32) 128 (by decide) (by omega)), if_pos (own_cgt c (191 : Int32) 191 (by decide) (by omega)), if_neg (own_cisnt c (215 : Int32) 215 (by decide) (by omega)), if_neg (own_cisnt c (247 : Int32) 247 (by decide) (by omega)), if_neg (own_cnlt c (768 : Int32) 768 (by decide) (by omega)), if_pos (own_cgt c (879 : Int32) 879 (by decide) (by omega)), if_neg (own_cisnt c (894 : Int32) 894 (by decide) (by omega)), if_pos (own_clt c (8192 : Int32) 8192 (by decide) (by omega)), if_neg (own_cisnt c (65534 : Int32) 65534 (by decide) (by omega)), if_neg (own_cisnt c (65535 : Int32) 65535 (by decide) (by omega))]
  · rw [f1, if_neg (own_cnlt c (128 : Int32) 128 (by decide) (by omega)), if_neg (own_cnlt c (192 : Int32) 192 (by decide) (by omega)), if_pos (own_cgt c (214 : Int32) 214 (by decide) (by omega)), if_neg (own_cnlt c (216 : Int32) 216 (by decide) (by omega)), if_pos (own_cgt c (246 : Int32) 246 (by decide) (by omega)), if_neg (own_cnlt c (248 : Int32) 248 (by decide) (by omega)), if_pos (own_cgt c (767 : Int32) 767 (by decide) (by omega)), if_neg (own_cnlt c (880 : Int32) 880 (by decide) (by omega)), if_neg (own_cngt c (893 : Int32) 893 (by decide) (by omega)), f2, if_neg (own_cnlt c (0 : Int32) 0 (by decide) (by omega)), if_neg (own_cngt c (983039 : Int32) 983039 (by decide) (by omega)), if_neg (own_cnlt c (128 : Int32) 128 (by decide) (by omega)), if_pos (own_cgt c (191 : Int32) 191 (by decide) (by omega)), if_neg (own_cisnt c (215 : Int32) 215 (by decide) (by omega)), if_neg (own_cisnt c (247 : Int32) 247 (by decide) (by omega)), if_neg (own_cnlt c (768 : Int32) 768 (by decide) (by omega)), if_pos (own_cgt c (879 : Int32) 879 (by decide) (by omega)), if_neg (own_cisnt c (894 : Int32) 894 (by decide) (by omega)), if_pos (own_clt c (8192 : Int32) 8192 (by decide) (by omega)), if_neg (own_cisnt c (65534 : Int32) 65534 (by decide) (by omega)), if_neg (own_cisnt c (65535 : Int32) 65535 (by decide) (by omega))]
  · rw [f1, if_neg (own_cnlt c (128 : Int32) 128 (by decide) (by omega)), if_neg (own_cnlt c (192 : Int32) 192 (by decide) (by omega)), if_pos (own_cgt c (214 : Int32) 214 (by decide) (by omega)), if_neg (own_cnlt c (216 : Int32) 216 (by decide) (by omega)), if_pos (own_cgt c (246 : Int32) 246 (by decide) (by omega)), if_neg (own_cnlt c (248 : Int32) 248 (by decide) (by omega)), if_pos (own_cgt c (767 : Int32) 767 (by decide) (by omega)), if_neg (own_cnlt c (880 : Int32) 880 (by decide) (by omega)), if_neg (own_cngt c (893 : Int32) 893 (by decide) (by omega)), f2, if_neg (own_cnlt c (0 : Int32) 0 (by decide) (by omega)), if_neg (own_cngt c (983039 : Int32) 983039 (by decide) (by omega)), if_neg (own_cnlt c (128 : Int32) 128 (by decide) (by omega)), if_pos (own_cgt c (191 : Int32) 191 (by decide) (by omega)), if_neg (own_cisnt c (215 : Int32) 215 (by decide) (by omega)), if_neg (own_cisnt c (247 : Int32) 247 (by decide) (by omega)), if_neg (own_cnlt c (768 : Int32) 768 (by decide) (by omega)), if_pos (own_cgt c (879 : Int32) 879 (by decide) (by omega)), if_neg (own_cisnt c (894 : Int32) 894 (by decide) (by omega)), if_pos (own_clt c (8192 : Int32) 8192 (by decide) (by omega)), if_neg (own_cisnt c (65534 : Int32) 65534 (by decide) (by omega)), if_neg (own_cisnt c (65535 : Int32) 65535 (by decide) (by omega))]
  · rw [f1, if_neg (own_cnlt c (128 : Int32) 128 (by decide) (by omega)), if_neg (own_cnlt c (192 : Int32) 192 (by decide) (by omega)), if_pos (own_cgt c (214 : Int32) 214 (by decide) (by omega)), if_neg (own_cnlt c (216 : Int32) 216 (by decide) (by omega)), if_pos (own_cgt c (246 : Int32) 246 (by decide) (by omega)), if_neg (own_cnlt c (248 : Int32) 248 (by decide) (by omega)), if_pos (own_cgt c (767 : Int32) 767 (by decide) (by omega)), if_neg (own_cnlt c (880 : Int32) 880 (by decide) (by omega)), if_pos (own_cgt c (893 : Int32) 893 (by decide) (by omega)), if_pos (own_clt c (895 : Int32) 895 (by decide) (by omega)), f2, if_neg (own_cnlt c (0 : Int32) 0 (by decide) (by omega)), if_neg (own_cngt c (983039 : Int32) 983039 (by decide) (by omega)), if_neg (own_cnlt c (128 : Int32) 128 (by decide) (by omega)), if_pos (own_cgt c (191 : Int32) 191 (by decide) (by omega)), if_neg (own_cisnt c (215 : Int32) 215 (by decide) (by omega)), if_neg (own_cisnt c (247 : Int32) 247 (by decide) (by omega)), if_neg (own_cnlt c (768 : Int32) 768 (by decide) (by omega)), if_pos (own_cgt c (879 : Int32) 879 (by decide) (by omega)), if_pos (own_cis c (894 : Int32) 894 (by decide) (by omega))]
  · rw [f1, if_neg (own_cnlt c (128 : Int32) 128 (by decide) (by omega)), if_neg (own_cnlt c (192 : Int32) 192 (by decide) (by omega)), if_pos (own_cgt c (214 : Int32) 214 (by decide) (by omega)), if_neg (own_cnlt c (216 : Int32) 216 (by decide) (by omega)), if_pos (own_cgt c (246 : Int32) 246 (by decide) (by omega)), if_neg (own_cnlt c (248 : Int32) 248 (by decide) (by omega)), if_pos (own_cgt c (767 : Int32) 767 (by decide) (by omega)), if_neg (own_cnlt c (880 : Int32) 880 (by decide) (by omega)), if_pos (own_cgt c (893 : Int32) 893 (by decide) (by omega)), if_neg (own_cnlt c (895 : Int32) 895 (by decide) (by omega)), if_neg (own_cngt c (8191 : Int32) 8191 (by decide) (by omega)), f2, if_neg (own_cnlt c (0 : Int32) 0 (by decide) (by omega)), if_neg (own_cngt c (983039 : Int32) 983039 (by decide) (by omega)), if_neg (own_cnlt c (128 : Int32) 128 (by decide) (by omega)), if_pos (own_cgt c (191 : Int32) 191 (by decide) (by omega)), if_neg (own_cisnt c (215 : Int32) 215 (by decide) (by omega)), if_neg (own_cisnt c (247 : Int32) 247 (by decide) (by omega)), if_neg (own_cnlt c (768 : Int32) 768 (by decide) (by omega)), if_pos (own_cgt c (879 : Int32) 879 (by decide) (by omega)), if_neg (own_cisnt c (894 : Int32) 894 (by decide) (by omega)), if_pos (own_clt c (8192 : Int32) 8192 (by decide) (by omega)), if_neg (own_cisnt c (65534 : Int32) 65534 (by decide) (by omega)), if_neg (own_cisnt c (65535 : Int32) 65535 (by decide) (by omega))]
  · rw [f1, if_neg (own_cnlt c (128 : Int32) 128 (by decide) (by omega)), if_neg (own_cnlt c (192 : Int32) 192 (by decide) (by omega)), if_pos (own_cgt c (214 : Int32) 214 (by decide) (by omega)), if_neg (own_cnlt c (216 : Int32) 216 (by decide) (by omega)), if_pos (own_cgt c (246 : Int32) 246 (by decide) (by omega)), if_neg (own_cnlt c (248 : Int32) 248 (by decide) (by omega)), if_pos (own_cgt c (767 : Int32) 767 (by decide) (by omega)), if_neg (own_cnlt c (880 : Int32) 880 (by decide) (by omega)), if_pos (own_cgt c (893 : Int32) 893 (by decide) (by omega)), if_neg (own_cnlt c (895 : Int32) 895 (by decide) (by omega)), if_neg (own_cngt c (8191 : Int32) 8191 (by decide) (by omega)), f2, if_neg (own_cnlt c (0 : Int32) 0 (by decide) (by omega)), if_neg (own_cngt c (983039 : Int32) 983039 (by decide) (by omega)), if_neg (own_cnlt c (128 : Int32) 128 (by decide) (by omega)), if_pos (own_cgt c (191 : Int32) 191 (by decide) (by omega)), if_neg (own_cisnt c (215 : Int32) 215 (by decide) (by omega)), if_neg (own_cisnt c (247 : Int32) 247 (by decide) (by omega)), if_neg (own_cnlt c (768 : Int32) 768 (by decide) (by omega)), if_pos (own_cgt c (879 : Int32) 879 (by decide) (by omega)), if_neg (own_cisnt c (894 : Int32) 894 (by decide) (by omega)), if_pos (own_clt c (8192 : Int32) 8192 (by decide) (by omega)), if_neg (own_cisnt c (65534 : Int32) 65534 (by decide) (by omega)), if_neg (own_cisnt c (65535 : Int32) 65535 (by decide) (by omega))]
  · rw [f1, if_neg (own_cnlt c (128 : Int32) 128 (by decide) (by omega)), if_neg (own_cnlt c (192 : Int32) 192 (by decide) (by omega)), if_pos (own_cgt c (214 : Int32) 214 (by decide) (by omega)), if_neg (own_cnlt c (216 : Int32) 216 (by decide) (by omega)), if_pos (own_cgt c (246 : Int32) 246 (by decide) (by omega)), if_neg (own_cnlt c (248 : Int32) 248 (by decide) (by omega)), if_pos (own_cgt c (767 : Int32) 767 (by decide) (by omega)), if_neg (own_cnlt c (880 : Int32) 880 (by decide) (by omega)), if_pos (own_cgt c (893 : Int32) 893 (by decide) (by omega)), if_neg (own_cnlt c (895 : Int32) 895 (by decide) (by omega)), if_neg (own_cngt c (8191 : Int32) 8191 (by decide) (by omega)), f2, if_neg (own_cnlt c (0 : Int32) 0 (by decide) (by omega)), if_neg (own_cngt c (983039 : Int32) 983039 (by decide) (by omega)), if_neg (own_cnlt c (128 : Int32) 128 (by decide) (by omega)), if_pos (own_cgt c (191 : Int32) 191 (by decide) (by omega)), if_neg (own_cisnt c (215 : Int32) 215 (by decide) (by omega)), if_neg (own_cisnt c (247 : Int32) 247 (by decide) (by omega)), if_neg (own_cnlt c (768 : Int32) 768 (by decide) (by omega)), if_pos (own_cgt c (879 : Int32) 879 (by decide) (by omega)), if_neg (own_cisnt c (894 : Int32) 894 (by decide) (by omega)), if_pos (own_clt c (8192 : Int32) 8192 (by decide) (by omega)), if_neg (own_cisnt c (65534 : Int32) 65534 (by decide) (by omega)), if_neg (own_cisnt c (65535 : Int32) 65535 (by decide) (by omega))]
  · rw [f1, if_neg (own_cnlt c (128 : Int32) 128 (by decide) (by omega)), if_neg (own_cnlt c (192 : Int32) 192 (by decide) (by omega)), if_pos (own_cgt c (214 : Int32) 214 (by decide) (by omega)), if_neg (own_cnlt c (216 : Int32) 216 (by decide) (by omega)), if_pos (own_cgt c (246 : Int32) 246 (by decide) (by omega)), if_neg (own_cnlt c (248 : Int32) 248 (by decide) (by omega)), if_pos (own_cgt c (767 : Int32) 767 (by decide) (by omega)), if_neg (own_cnlt c (880 : Int32) 880 (by decide) (by omega)), if_pos (own_cgt c (893 : Int32) 893 (by decide) (by omega)), if_neg (own_cnlt c (895 : Int32) 895 (by decide) (by omega)), if_pos (own_cgt c (8191 : Int32) 8191 (by decide) (by omega)), if_pos (own_clt c (8204 : Int32) 8204 (by decide) (by omega)), f2, if_neg (own_cnlt c (0 : Int32) 0 (by decide) (by omega)), if_neg (own_cngt c (983039 : Int32) 983039 (by decide) (by omega)), if_neg (own_cnlt c (128 : Int32) 128 (by decide) (by omega)), if_pos (own_cgt c (191 : Int32) 191 (by decide) (by omega)), if_neg (own_cisnt c (215 : Int32) 215 (by decide) (by omega)), if_neg (own_cisnt c (247 : Int32) 247 (by decide) (by omega)), if_neg (own_cnlt c (768 : Int32) 768 (by decide) (by omega)), if_pos (own_cgt c (879 : Int32) 879 (by decide) (by omega)), if_neg (own_cisnt c (894 : Int32) 894 (by decide) (by omega)), if_neg (own_cnlt c (8192 : Int32) 8192 (by decide) (by omega)), if_neg (own_cngt c (8203 : Int32) 8203 (by decide) (by omega))]
  · rw [f1, if_neg (own_cnlt c (128 : Int32) 128 (by decide) (by omega)), if_neg (own_cnlt c (192 : Int32) 192 (by decide) (by omega)), if_pos (own_cgt c (214 : Int32) 214 (by decide) (by omega)), if_neg (own_cnlt c (216 : Int32) 216 (by decide) (by omega)), if_pos (own_cgt c (246 : Int32) 246 (by decide) (by omega)), if_neg (own_cnlt c (248 : Int32) 248 (by decide) (by omega)), if_pos (own_cgt c (767 : Int32) 767 (by decide) (by omega)), if_neg (own_cnlt c (880 : Int32) 880 (by decide) (by omega)), if_pos (own_cgt c (893 : Int32) 893 (by decide) (by omega)), if_neg (own_cnlt c (895 : Int32) 895 (by decide) (by omega)), if_pos (own_cgt c (8191 : Int32) 8191 (by decide) (by omega)), if_pos (own_clt c (8204 : Int32) 8204 (by decide) (by omega)), f2, if_neg (own_cnlt c (0 : Int32) 0 (by decide) (by omega)), if_neg (own_cngt c (983039 : Int32) 983039 (by decide) (by omega)), if_neg (own_cnlt c (128 : Int32) 128 (by decide) (by omega)), if_pos (own_cgt c (191 : Int32) 191 (by decide) (by omega)), if_neg (own_cisnt c (215 : Int32) 215 (by decide) (by omega)), if_neg (own_cisnt c (247 : Int32) 247 (by decide) (by omega)), if_neg (own_cnlt c (768 : Int32) 768 (by decide) (by omega)), if_pos (own_cgt c (879 : Int32) 879 (by decide) (by omega)), if_neg (own_cisnt c (894 : Int32) 894 (by decide) (by omega)), if_neg (own_cnlt c (8192 : Int32) 8192 (by decide) (by omega)), if_neg (own_cngt c (8203 : Int32) 8203 (by decide) (by omega))]
  · rw [f1, if_neg (own_cnlt c (128 : Int32) 128 (by decide) (by omega)), if_neg (own_cnlt c (192 : Int32) 192 (by decide) (by omega)), if_pos (own_cgt c (214 : Int32) 214 (by decide) (by omega)), if_neg (own_cnlt c (216 : Int32) 216 (by decide) (by omega)), if_pos (own_cgt c (246 : Int32) 246 (by decide) (by omega)), if_neg (own_cnlt c (248 : Int32) 248 (by decide) (by omega)), if_pos (own_cgt c (767 : Int32) 767 (by decide) (by omega)), if_neg (own_cnlt c (880 : Int32) 880 (by decide) (by omega)), if_pos (own_cgt c (893 : Int32) 893 (by decide) (by omega)), if_neg (own_cnlt c (895 : Int32) 895 (by decide) (by omega)), if_pos (own_cgt c (8191 : Int32) 8191 (by decide) (by omega)), if_pos (own_clt c (8204 : Int32) 8204 (by decide) (by omega)), f2, if_neg (own_cnlt c (0 : Int32) 0 (by decide) (by omega)), if_neg (own_cngt c (983039 : Int32) 983039 (by decide) (by omega)), if_neg (own_cnlt c (128 : Int32) 128 (by decide) (by omega)), if_pos (own_cgt c (191 : Int32) 191 (by decide) (by omega)), if_neg (own_cisnt c (215 : Int32) 215 (by decide) (by omega)), if_neg (own_cisnt c (247 : Int32) 247 (by decide) (by omega)), if_neg (own_cnlt c (768 : Int32) 768 (by decide) (by omega)), if_pos (own_cgt c (879 : Int32) 879 (by decide) (by omega)), if_neg (own_cisnt c (894 : Int32) 894 (by decide) (by omega)), if_neg (own_cnlt c (8192 : Int32) 8192 (by decide) (by omega)), if_neg (own_cngt c (8203 : Int32) 8203 (by decide) (by omega))]
  · rw [f1, if_neg (own_cnlt c (128 : Int32) 128 (by decide) (by omega)), if_neg (own_cnlt c (192 : Int32) 192 (by decide) (by omega)), if_pos (own_cgt c (214 : Int32) 214 (by decide) (by omega)), if_neg (own_cnlt c (216 : Int32) 216 (by decide) (by omega)), if_pos (own_cgt c (246 : Int32) 246 (by decide) (by omega)), if_neg (own_cnlt c (248 : Int32) 248 (by decide) (by omega)), if_pos (own_cgt c (767 : Int32) 767 (by decide) (by omega)), if_neg (own_cnlt c (880 : Int32) 880 (by decide) (by omega)), if_pos (own_cgt c (893 : Int32) 893 (by decide) (by omega)), if_neg (own_cnlt c (895 : Int32) 895 (by decide) (by omega)), if_pos (own_cgt c (8191 : Int32) 8191 (by decide) (by omega)), if_neg (own_cnlt c (8204 : Int32) 8204 (by decide) (by omega)), if_neg (own_cngt c (8205 : Int32) 8205 (by decide) (by omega)), f2, if_neg (own_cnlt c (0 : Int32) 0 (by decide) (by omega)), if_neg (own_cngt c (983039 : Int32) 983039 (by decide) (by omega)), if_neg (own_cnlt c (128 : Int32) 128 (by decide) (by omega)), if_pos (own_cgt c (191 : Int32) 191 (by decide) (by omega)), if_neg (own_cisnt c (215 : Int32) 215 (by decide) (by omega)), if_neg (own_cisnt c (247 : Int32) 247 (by decide) (by omega)), if_neg (own_cnlt c (768 : Int32) 768 (by decide) (by omega)), if_pos (own_cgt c (879 : Int32) 879 (by decide) (by omega)), if_neg (own_cisnt c (894 : Int32) 894 (by decide) (by omega)), if_neg (own_cnlt c (8192 : Int32) 8192 (by decide) (by omega)), if_pos (own_cgt c (8203 : Int32) 8203 (by decide) (by omega)), if_pos (own_clt c (8206 : Int32) 8206 (by decide) (by omega)), if_neg (own_cisnt c (65534 : Int32) 65534 (by decide) (by omega)), if_neg (own_cisnt c (65535 : Int32) 65535 (by decide) (by omega))]
  · rw [f1, if_neg (own_cnlt c (128 : Int32) 128 (by decide) (by omega)), if_neg (own_cnlt c (192 : Int32) 192 (by decide) (by omega)), if_pos (own_cgt c (214 : Int32) 214 (by decide) (by omega)), if_neg (own_cnlt c (216 : Int32) 216 (by decide) (by omega)), if_pos (own_cgt c (246 : Int32) 246 (by decide) (by omega)), if_neg (own_cnlt c (248 : Int32) 248 (by decide) (by omega)), if_pos (own_cgt c (767 : Int32) 767 (by decide) (by omega)), if_neg (own_cnlt c (880 : Int32) 880 (by decide) (by omega)), if_pos (own_cgt c (893 : Int32) 893 (by decide) (by omega)), if_neg (own_cnlt c (895 : Int32) 895 (by decide) (by omega)), if_pos (own_cgt c (8191 : Int32) 8191 (by decide) (by omega)), if_neg (own_cnlt c (8204 : Int32) 8204 (by decide) (by omega)), if_neg (own_cngt c (8205 : Int32) 8205 (by decide) (by omega)), f2, if_neg (own_cnlt c (0 : Int32) 0 (by decide) (by omega)), if_neg (own_cngt c (983039 : Int32) 983039 (by decide) (by omega)), if_neg (own_cnlt c (128 : Int32) 128 (by decide) (by omega)), if_pos (own_cgt c (191 : Int32) 191 (by decide) (by omega)), if_neg (own_cisnt c (215 : Int32) 215 (by decide) (by omega)), if_neg (own_cisnt c (247 : Int32) 247 (by decide) (by omega)), if_neg (own_cnlt c (768 : Int32) 768 (by decide) (by omega)), if_pos (own_cgt c (879 : Int32) 879 (by decide) (by omega)), if_neg (own_cisnt c (894 : Int32) 894 (by decide) (by omega)), if_neg (own_cnlt c (8192 : Int32) 8192 (by decide) (by omega)), if_pos (own_cgt c (8203 : Int32) 8203 (by decide) (by omega)), if_pos (own_clt c (8206 : Int32) 8206 (by decide) (by omega)), if_neg (own_cisnt c (65534 : Int32) 65534 (by decide) (by omega)), if_neg (own_cisnt c (65535 : Int32) 65535 (by decide) (by omega))]
  · rw [f1, if_neg (own_cnlt c (128 : Int32) 128 (by decide) (by omega)), if_neg (own_cnlt c (192 : Int32) 192 (by decide) (by omega)), if_pos (own_cgt c (214 : Int32) 214 (by decide) (by omega)), if_neg (own_cnlt c (216 : Int32) 216 (by decide) (by omega)), if_pos (own_cgt c (246 : Int32) 246 (by decide) (by omega)), if_neg (own_cnlt c (248 : Int32) 248 (by decide) (by omega)), if_pos (own_cgt c (767 : Int32) 767 (by decide) (by omega)), if_neg (own_cnlt c (880 : Int32) 880 (by decide) (by omega)), if_pos (own_cgt c (893 : Int32) 893 (by decide) (by omega)), if_neg (own_cnlt c (895 : Int32) 895 (by decide) (by omega)), if_pos (own_cgt c (8191 : Int32) 8191 (by decide) (by omega)), if_neg (own_cnlt c (8204 : Int32) 8204 (by decide) (by omega)), if_pos (own_cgt c (8205 : Int32) 8205 (by decide) (by omega)), if_pos (own_clt c (8304 : Int32) 8304 (by decide) (by omega)), f2, if_neg (own_cnlt c (0 : Int32) 0 (by decide) (by omega)), if_neg (own_cngt c (983039 : Int32) 983039 (by decide) (by omega)), if_neg (own_cnlt c (128 : Int32) 128 (by decide) (by omega)), if_pos (own_cgt c (191 : Int32) 191 (by decide) (by omega)), if_neg (own_cisnt c (215 : Int32) 215 (by decide) (by omega)), if_neg (own_cisnt c (247 : Int32) 247 (by decide) (by omega)), if_neg (own_cnlt c (768 : Int32) 768 (by decide) (by omega)), if_pos (own_cgt c (879 : Int32) 879 (by decide) (by omega)), if_neg (own_cisnt c (894 : Int32) 894 (by decide) (by omega)), if_neg (own_cnlt c (8192 : Int32) 8192 (by decide) (by omega)), if_pos (own_cgt c (8203 : Int32) 8203 (by decide) (by omega)), if_neg (own_cnlt c (8206 : Int32) 8206 (by decide) (by omega)), if_neg (own_cngt c (8303 : Int32) 8303 (by decide) (by omega))]
  · rw [f1, if_neg (own_cnlt c (128 : Int32) 128 (by decide) (by omega)), if_neg (own_cnlt c (192 : Int32) 192 (by decide) (by omega)), if_pos (own_cgt c (214 : Int32) 214 (by decide) (by omega)), if_neg (own_cnlt c (216 : Int32) 216 (by decide) (by omega)), if_pos (own_cgt c (246 : Int32) 246 (by decide) (by omega)), if_neg (own_cnlt c (248 : Int32) 248 (by decide) (by omega)), if_pos (own_cgt c (767 : Int32) 767 (by decide) (by omega)), if_neg (own_cnlt c (880 : Int32) 880 (by decide) (by omega)), if_pos (own_cgt c (893 : Int32) 893 (by decide) (by omega)), if_neg (own_cnlt c (895 : Int32) 895 (by decide) (by omega)), if_pos (own_cgt c (8191 : Int32) 8191 (by decide) (by omega)), if_neg (own_cnlt c (8204 : Int32) 8204 (by decide) (by omega)), if_pos (own_cgt c (8205 : Int32) 8205 (by decide) (by omega)), if_pos (own_clt c (8304 : Int32) 8304 (by decide) (by omega)), f2, if_neg (own_cnlt c (0 : Int32) 0 (by decide) (by omega)), if_neg (own_cngt c (983039 : Int32) 983039 (by decide) (by omega)), if_neg (own_cnlt c (128 : Int32) 128 (by decide) (by omega)), if_pos (own_cgt c (191 : Int32) 191 (by decide) (by omega)), if_neg (own_cisnt c (215 : Int32) 215 (by decide) (by omega)), if_neg (own_cisnt c (247 : Int32) 247 (by decide) (by omega)), if_neg (own_cnlt c (768 : Int32) 768 (by decide) (by omega)), if_pos (own_cgt c (879 : Int32) 879 (by decide) (by omega)), if_neg (own_cisnt c (894 : Int32) 894 (by decide) (by omega)), if_neg (own_cnlt c (8192 : Int32) 8192 (by decide) (by omega)), if_pos (own_cgt c (8203 : Int32) 8203 (by decide) (by omega)), if_neg (own_cnlt c (8206 : Int32) 8206 (by decide) (by omega)), if_neg (own_cngt c (8303 : Int32) 8303 (by decide) (by omega))]
  · rw [f1, if_neg (own_cnlt c (128 : Int32) 128 (by decide) (by omega)), if_neg (own_cnlt c (192 : Int32) 192 (by decide) (by omega)), if_pos (own_cgt c (214 : Int32) 214 (by decide) (by omega)), if_neg (own_cnlt c (216 : Int32) 216 (by decide) (by omega)), if_pos (own_cgt c (246 : Int32) 246 (by decide) (by omega)), if_neg (own_cnlt c (248 : Int32) 248 (by decide) (by omega)), if_pos (own_cgt c (767 : Int32) 767 (by decide) (by omega)), if_neg (own_cnlt c (880 : Int32) 880 (by decide) (by omega)), if_pos (own_cgt c (893 : Int32) 893 (by decide) (by omega)), if_neg (own_cnlt c (895 : Int32) 895 (by decide) (by omega)), if_pos (own_cgt c (8191 : Int32) 8191 (by decide) (by omega)), if_neg (own_cnlt c (8204 : Int32) 8204 (by decide) (by omega)), if_pos (own_cgt c (8205 : Int32) 8205 (by decide) (by omega)), if_pos (own_clt c (8304 : Int32) 8304 (by decide) (by omega)), f2, if_neg (own_cnlt c (0 : Int32) 0 (by decide) (by omega)), if_neg (own_cngt c (983039 : Int32) 983039 (by decide) (by omega)), if_neg (own_cnlt c (128 : Int32) 128 (by decide) (by omega)), if_pos (own_cgt c (191 : Int32) 191 (by decide) (by omega)), if_neg (own_cisnt c (215 : Int32) 215 (by decide) (by omega)), if_neg (own_cisnt c (247 : Int32) 247 (by decide) (by omega)), if_neg (own_cnlt c (768 : Int32) 768 (by decide) (by omega)), if_pos (own_cgt c (879 : Int32) 879 (by decide) (by omega)), if_neg (own_cisnt c (894 : Int32) 894 (by decide) (by omega)), if_neg (own_cnlt c (8192 : Int32) 8192 (by decide) (by omega)), if_pos (own_cgt c (8203 : Int32) 8203 (by decide) (by omega)), if_neg (own_cnlt c (8206 : Int32) 8206 (by decide) (by omega)), if_neg (own_cngt c (8303 : Int32) 8303 (by decide) (by omega))]
  · rw [f1, if_neg (own_cnlt c (128 : Int32) 128 (by decide) (by omega)), if_neg (own_cnlt c (192 : Int32) 192 (by decide) (by omega)), if_pos (own_cgt c (214 : Int32) 214 (by decide) (by omega)), if_neg (own_cnlt c (216 : Int32) 216 (by decide) (by omega)), if_pos (own_cgt c (246 : Int32) 246 (by decide) (by omega)), if_neg (own_cnlt c (248 : Int32) 248 (by decide) (by omega)), if_pos (own_cgt c (767 : Int32) 767 (by decide) (by omega)), if_neg (own_cnlt c (880 : Int32) 880 (by decide) (by omega)), if_pos (own_cgt c (893 : Int32) 893 (by decide) (by omega)), if_neg (own_cnlt c (895 : Int32) 895 (by decide) (by omega)), if_pos (own_cgt c (8191 : Int32) 8191 (by decide) (by omega)), if_neg (own_cnlt c (8204 : Int32) 8204 (by decide) (by omega)), if_pos (own_cgt c (8205 : Int32) 8205 (by decide) (by omega)), if_neg (own_cnlt c (8304 : Int32) 8304 (by decide) (by omega)), if_neg (own_cngt c (8591 : Int32) 8591 (by decide) (by omega)), f2, if_neg (own_cnlt c (0 : Int32) 0 (by decide) (by omega)), if_neg (own_cngt c (983039 : Int32) 983039 (by decide) (by omega)), if_neg (own_cnlt c (128 : Int32) 128 (by decide) (by omega)), if_pos (own_cgt c (191 : Int32) 191 (by decide) (by omega)), if_neg (own_cisnt c (215 : Int32) 215 (by decide) (by omega)), if_neg (own_cisnt c (247 : Int32) 247 (by decide) (by omega)), if_neg (own_cnlt c (768 : Int32) 768 (by decide) (by omega)), if_pos (own_cgt c (879 : Int32) 879 (by decide) (by omega)), if_neg (own_cisnt c (894 : Int32) 894 (by decide) (by omega)), if_neg (own_cnlt c (8192 : Int32) 8192 (by decide) (by omega)), if_pos (own_cgt c (8203 : Int32) 8203 (by decide) (by omega)), if_neg (own_cnlt c (8206 : Int32) 8206 (by decide) (by omega)), if_pos (own_cgt c (8303 : Int32) 8303 (by decide) (by omega)), if_pos (own_clt c (8592 : Int32) 8592 (by decide) (by omega)), if_neg (own_cisnt c (65534 : Int32) 65534 (by decide) (by omega)), if_neg (own_cisnt c (65535 : Int32) 65535 (by decide) (by omega))]
  · rw [f1, if_neg (own_cnlt c (128 : Int32) 128 (by decide) (by omega)), if_neg (own_cnlt c (192 : Int32) 192 (by decide) (by omega)), if_pos (own_cgt c (214 : Int32) 214 (by decide) (by omega)), if_neg (own_cnlt c (216 : Int32) 216 (by decide) (by omega)), if_pos (own_cgt c (246 : Int32) 246 (by decide) (by omega)), if_neg (own_cnlt c (248 : Int32) 248 (by decide) (by omega)), if_pos (own_cgt c (767 : Int32) 767 (by decide) (by omega)), if_neg (own_cnlt c (880 : Int32) 880 (by decide) (by omega)), if_pos (own_cgt c (893 : Int32) 893 (by decide) (by omega)), if_neg (own_cnlt c (895 : Int32) 895 (by decide) (by omega)), if_pos (own_cgt c (8191 : Int32) 8191 (by decide) (by omega)), if_neg (own_cnlt c (8204 : Int32) 8204 (by decide) (by omega)), if_pos (own_cgt c (8205 : Int32) 8205 (by decide) (by omega)), if_neg (own_cnlt c (8304 : Int32) 8304 (by decide) (by omega)), if_neg (own_cngt c (8591 : Int32) 8591 (by decide) (by omega)), f2, if_neg (own_cnlt c (0 : Int32) 0 (by decide) (by omega)), if_neg (own_cngt c (983039 : Int32) 983039 (by decide) (by omega)), if_neg (own_cnlt c (128 : Int32) 128 (by decide) (by omega)), if_pos (own_cgt c (191 : Int32) 191 (by decide) (by omega)), if_neg (own_cisnt c (215 : Int32) 215 (by decide) (by omega)), if_neg (own_cisnt c (247 : Int32) 247 (by decide) (by omega)), if_neg (own_cnlt c (768 : Int32) 768 (by decide) (by omega)), if_pos (own_cgt c (879 : Int32) 879 (by decide) (by omega)), if_neg (own_cisnt c (894 : Int32) 894 (by decide) (by omega)), if_neg (own_cnlt c (8192 : Int32) 8192 (by decide) (by omega)), if_pos (own_cgt c (8203 : Int32) 8203 (by decide) (by omega)), if_neg (own_cnlt c (8206 : Int32) 8206 (by decide) (by omega)), if_pos (own_cgt c (8303 : Int32) 8303 (by decide) (by omega)), if_pos (own_clt c (8592 : Int32) 8592 (by decide) (by omega)), if_neg (own_cisnt c (65534 : Int32) 65534 (by decide) (by omega)), if_neg (own_cisnt c (65535 : Int32) 65535 (by decide) (by omega))]
  · rw [f1, if_neg (own_cnlt c (128 : Int32) 128 (by decide) (by omega)), if_neg (own_cnlt c (192 : Int32) 192 (by decide) (by omega)), if_pos (own_cgt c (214 : Int32) 214 (by decide) (by omega)), if_neg (own_cnlt c (216 : Int32) 216 (by decide) (by omega)), if_pos (own_cgt c (246 : Int32) 246 (by decide) (by omega)), if_neg (own_cnlt c (248 : Int32) 248 (by decide) (by omega)), if_pos (own_cgt c (767 : Int32) 767 (by decide) (by omega)), if_neg (own_cnlt c (880 : Int32) 880 (by decide) (by omega)), if_pos (own_cgt c (893 : Int32) 893 (by decide) (by omega)), if_neg (own_cnlt c (895 : Int32) 895 (by decide) (by omega)), if_pos (own_cgt c (8191 : Int32) 8191 (by decide) (by omega)), if_neg (own_cnlt c (8204 : Int32) 8204 (by decide) (by omega)), if_pos (own_cgt c (8205 : Int32) 8205 (by decide) (by omega)), if_neg (own_cnlt c (8304 : Int32) 8304 (by decide) (by omega)), if_neg (own_cngt c (8591 : Int32) 8591 (by decide) (by omega)), f2, if_neg (own_cnlt c (0 : Int32) 0 (by decide) (by omega)), if_neg (own_cngt c (983039 : Int32) 983039 (by decide) (by omega)), if_neg (own_cnlt c (128 : Int32) 128 (by decide) (by omega)), if_pos (own_cgt c (191 : Int32) 191 (by decide) (by omega)), if_neg (own_cisnt c (215 : Int32) 215 (by decide) (by omega)), if_neg (own_cisnt c (247 : Int32) 247 (by decide) (by omega)), if_neg (own_cnlt c (768 : Int32) 768 (by decide) (by omega)), if_pos (own_cgt c (879 : Int32) 879 (by decide) (by omega)), if_neg (own_cisnt c (894 : Int32) 894 (by decide) (by omega)), if_neg (own_cnlt c (8192 : Int32) 8192 (by decide) (by omega)), if_pos (own_cgt c (8203 : Int32) 8203 (by decide) (by omega)), if_neg (own_cnlt c (8206 : Int32) 8206 (by decide) (by omega)), if_pos (own_cgt c (8303 : Int32) 8303 (by decide) (by omega)), if_pos (own_clt c (8592 : Int32) 8592 (by decide) (by omega)), if_neg (own_cisnt c (65534 : Int32) 65534 (by decide) (by omega)), if_neg (own_cisnt c (65535 : Int32) 65535 (by decide) (by omega))]
  · rw [f1, if_neg (own_cnlt c (128 : Int32) 128 (by decide) (by omega)), if_neg (own_cnlt c (192 : Int32) 192 (by decide) (by omega)), if_pos (own_cgt c (214 : Int32) 214 (by decide) (by omega)), if_neg (own_cnlt c (216 : Int32) 216 (by decide) (by omega)), if_pos (own_cgt c (246 : Int32) 246 (by decide) (by omega)), if_neg (own_cnlt c (248 : Int32) 248 (by decide) (by omega)), if_pos (own_cgt c (767 : Int32) 767 (by decide) (by omega)), if_neg (own_cnlt c (880 : Int32) 880 (by decide) (by omega)), if_pos (own_cgt c (893 : Int32) 893 (by decide) (by omega)), if_neg (own_cnlt c (895 : Int32) 895 (by decide) (by omega)), if_pos (own_cgt c (8191 : Int32) 8191 (by decide) (by omega)), if_neg (own_cnlt c (8204 : Int32) 8204 (by decide) (by omega)), if_pos (own_cgt c (8205 : Int32) 8205 (by decide) (by omega)), if_neg (own_cnlt c (8304 : Int32) 8304 (by decide) (by omega)), if_pos (own_cgt c (8591 : Int32) 8591 (by decide) (by omega)), if_pos (own_clt c (11264 : Int32) 11264 (by decide) (by omega)), f2, if_neg (own_cnlt c (0 : Int32) 0 (by decide) (by omega)), if_neg (own_cngt c (983039 : Int32) 983039 (by decide) (by omega)), if_neg (own_cnlt c (128 : Int32) 128 (by decide) (by omega)), if_pos (own_cgt c (191 : Int32) 191 (by decide) (by omega)), if_neg (own_cisnt c (215 : Int32) 215 (by decide) (by omega)), if_neg (own_cisnt c (247 : Int32) 247 (by decide) (by omega)), if_neg (own_cnlt c (768 : Int32) 768 (by decide) (by omega)), if_pos (own_cgt c (879 : Int32) 879 (by decide) (by omega)), if_neg (own_cisnt c (894 : Int32) 894 (by decide) (by omega)), if_neg (own_cnlt c (8192 : Int32) 8192 (by decide) (by omega)), if_pos (own_cgt c (8203 : Int32) 8203 (by decide) (by omega)), if_neg (own_cnlt c (8206 : Int32) 8206 (by decide) (by omega)), if_pos (own_cgt c (8303 : Int32) 8303 (by decide) (by omega)), if_neg (own_cnlt c (8592 : Int32) 8592 (by decide) (by omega)), if_neg (own_cngt c (11263 : Int32) 11263 (by decide) (by omega))]
  · rw [f1, if_neg (own_cnlt c (128 : Int32) 128 (by decide) (by omega)), if_neg (own_cnlt c (192 : Int32) 192 (by decide) (by omega)), if_pos (own_cgt c (214 : Int32) 214 (by decide) (by omega)), if_neg (own_cnlt c (216 : Int32) 216 (by decide) (by omega)), if_pos (own_cgt c (246 : Int32) 246 (by decide) (by omega)), if_neg (own_cnlt c (248 : Int32) 248 (by decide) (by omega)), if_pos (own_cgt c (767 : Int32) 767 (by decide) (by omega)), if_neg (own_cnlt c (880 : Int32) 880 (by decide) (by omega)), if_pos (own_cgt c (893 : Int32) 893 (by decide) (by omega)), if_neg (own_cnlt c (895 : Int32) 895 (by decide) (by omega)), if_pos (own_cgt c (8191 : Int32) 8191 (by decide) (by omega)), if_neg (own_cnlt c (8204 : Int32) 8204 (by decide) (by omega)), if_pos (own_cgt c (8205 : Int32) 8205 (by decide) (by omega)), if_neg (own_cnlt c (8304 : Int32) 8304 (by decide) (by omega)), if_pos (own_cgt c (8591 : Int32) 8591 (by decide) (by omega)), if_pos (own_clt c (11264 : Int32) 11264 (by decide) (by omega)), f2, if_neg (own_cnlt c (0 : Int32) 0 (by decide) (by omega)), if_neg (own_cngt c (983039 : Int32) 983039 (by decide) (by omega)), if_neg (own_cnlt c (128 : Int32) 128 (by decide) (by omega)), if_pos (own_cgt c (191 : Int32) 191 (by decide) (by omega)), if_neg (own_cisnt c (215 : Int32) 215 (by decide) (by omega)), if_neg (own_cisnt c (247 : Int32) 247 (by decide) (by omega)), if_neg (own_cnlt c (768 : Int32) 768 (by decide) (by omega)), if_pos (own_cgt c (879 : Int32) 879 (by decide) (by omega)), if_neg (own_cisnt c (894 : Int32) 894 (by decide) (by omega)), if_neg (own_cnlt c (8192 : Int32) 8192 (by decide) (by omega)), if_pos (own_cgt c (8203 : Int32) 8203 (by decide) (by omega)), if_neg (own_cnlt c (8206 : Int32) 8206 (by decide) (by omega)), if_pos (own_cgt c (8303 : Int32) 8303 (by decide) (by omega)), if_neg (own_cnlt c (8592 : Int32) 8592 (by decide) (by omega)), if_neg (own_cngt c (11263 : Int32) 11263 (by decide) (by omega))]
  · rw [f1, if_neg (own_cnlt c (128 : Int32) 128 (by decide) (by omega)), if_neg (own_cnlt c (192 : Int32) 192 (by decide) (by omega)), if_pos (own_cgt c (214 : Int32) 214 (by decide) (by omega)), if_neg (own_cnlt c (216 : Int32) 216 (by decide) (by omega)), if_pos (own_cgt c (246 : Int32) 246 (by decide) (by omega)), if_neg (own_cnlt c (248 : Int32) 248 (by decide) (by omega)), if_pos (own_cgt c (767 : Int32) 767 (by decide) (by omega)), if_neg (own_cnlt c (880 : Int32) 880 (by decide) (by omega)), if_pos (own_cgt c (893 : Int32) 893 (by decide) (by omega)), if_neg (own_cnlt c (895 : Int32) 895 (by decide) (by omega)), if_pos (own_cgt c (8191 : Int32) 8191 (by decide) (by omega)), if_neg (own_cnlt c (8204 : Int32) 8204 (by decide) (by omega)), if_pos (own_cgt c (8205 : Int32) 8205 (by decide) (by omega)), if_neg (own_cnlt c (8304 : Int32) 8304 (by decide) (by omega)), if_pos (own_cgt c (8591 : Int32) 8591 (by decide) (by omega)), if_pos (own_clt c (11264 : Int32) 11264 (by decide) (by omega)), f2, if_neg (own_cnlt c (0 : Int32) 0 (by decide) (by omega)), if_neg (own_cngt c (983039 : Int32) 983039 (by decide) (by omega)), if_neg (own_cnlt c (128 : Int32) 128 (by decide) (by omega)), if_pos (own_cgt c (191 : Int32) 191 (by decide) (by omega)), if_neg (own_cisnt c (215 : Int32) 215 (by decide) (by omega)), if_neg (own_cisnt c (247 : Int32) 247 (by decide) (by omega)), if_neg (own_cnlt c (768 : Int32) 768 (by decide) (by omega)), if_pos (own_cgt c (879 : Int32) 879 (by decide) (by omega)), if_neg (own_cisnt c (894 : Int32) 894 (by decide) (by omega)), if_neg (own_cnlt c (8192 : Int32) 8192 (by decide) (by omega)), if_pos (own_cgt c (8203 : Int32) 8203 (by decide) (by omega)), if_neg (own_cnlt c (8206 : Int32) 8206 (by decide) (by omega)), if_pos (own_cgt c (8303 : Int32) 8303 (by decide) (by omega)), if_neg (own_cnlt c (8592 : Int32) 8592 (by decide) (by omega)), if_neg (own_cngt c (11263 : Int32) 11263 (by decide) (by omega))]
  · rw [f1, if_neg (own_cnlt c (128 : Int32) 128 (by decide) (by omega)), if_neg (own_cnlt c (192 : Int32) 192 (by decide) (by omega)), if_pos (own_cgt c (214 : Int32) 214 (by decide) (by omega)), if_neg (own_cnlt c (216 : Int32) 216 (by decide) (by omega)), if_pos (own_cgt c (246 : Int32) 246 (by decide) (by omega)), if_neg (own_cnlt c (248 : Int32) 248 (by decide) (by omega)), if_pos (own_cgt c (767 : Int32) 767 (by decide) (by omega)), if_neg (own_cnlt c (880 : Int32) 880 (by decide) (by omega)), if_pos (own_cgt c (893 : Int32) 893 (by decide) (by omega)), if_neg (own_cnlt c (895 : Int32) 895 (by decide) (by omega)), if_pos (own_cgt c (8191 : Int32) 8191 (by decide) (by omega)), if_neg (own_cnlt c (8204 : Int32) 8204 (by decide) (by omega)), if_pos (own_cgt c (8205 : Int32) 8205 (by decide) (by omega)), if_neg (own_cnlt c (8304 : Int32) 8304 (by decide) (by omega)), if_pos (own_cgt c (8591 : Int32) 8591 (by decide) (by omega)), if_neg (own_cnlt c (11264 : Int32) 11264 (by decide) (by omega)), if_neg (own_cngt c (12271 : Int32) 12271 (by decide) (by omega)), f2, if_neg (own_cnlt c (0 : Int32) 0 (by decide) (by omega)), if_neg (own_cngt c (983039 : Int32) 983039 (by decide) (by omega)), if_neg (own_cnlt c (128 : Int32) 128 (by decide) (by omega)), if_pos (own_cgt c (191 : Int32) 191 (by decide) (by omega)), if_neg (own_cisnt c (215 : Int32) 215 (by decide) (by omega)), if_neg (own_cisnt c (247 : Int32) 247 (by decide) (by omega)), if_neg (own_cnlt c (768 : Int32) 768 (by decide) (by omega)), if_pos (own_cgt c (879 : Int32) 879 (by decide) (by omega)), if_neg (own_cisnt c (894 : Int32) 894 (by decide) (by omega)), if_neg (own_cnlt c (8192 : Int32) 8192 (by decide) (by omega)), if_pos (own_cgt c (8203 : Int32) 8203 (by decide) (by omega)), if_neg (own_cnlt c (8206 : Int32) 8206 (by decide) (by omega)), if_pos (own_cgt c (8303 : Int32) 8303 (by decide) (by omega)), if_neg (own_cnlt c (8592 : Int32) 8592 (by decide) (by omega)), if_pos (own_cgt c (11263 : Int32) 11263 (by decide) (by omega)), if_pos (own_clt c (12272 : Int32) 12272 (by decide) (by omega)), if_neg (own_cisnt c (65534 : Int32) 65534 (by decide) (by omega)), if_neg (own_cisnt c (65535 : Int32) 65535 (by decide) (by omega))]
  · rw [f1, if_neg (own_cnlt c (128 : Int32) 128 (by decide) (by omega)), if_neg (own_cnlt c (192 : Int32) 192 (by decide) (by omega)), if_pos (own_cgt c (214 : Int32) 214 (by decide) (by omega)), if_neg (own_cnlt c (216 : Int32) 216 (by decide) (by omega)), if_pos (own_cgt c (246 : Int32) 246 (by decide) (by omega)), if_neg (own_cnlt c (248 : Int32) 248 (by decide) (by omega)), if_pos (own_cgt c (767 : Int32) 767 (by decide) (by omega)), if_neg (own_cnlt c (880 : Int32) 880 (by decide) (by omega)), if_pos (own_cgt c (893 : Int32) 893 (by decide) (by omega)), if_neg (own_cnlt c (895 : Int32) 895 (by decide) (by omega)), if_pos (own_cgt c (8191 : Int32) 8191 (by decide) (by omega)), if_neg (own_cnlt c (8204 : Int32) 8204 (by decide) (by omega)), if_pos (own_cgt c (8205 : Int32) 8205 (by decide) (by omega)), if_neg (own_cnlt c (8304 : Int32) 8304 (by decide) (by omega)), if_pos (own_cgt c (8591 : Int32) 8591 (by decide) (by omega)), if_neg (own_cnlt c (11264 : Int32) 11264 (by decide) (by omega)), if_neg (own_cngt c (12271 : Int32) 12271 (by decide) (by omega)), f2, if_neg (own_cnlt c (0 : Int32) 0 (by decide) (by omega)), if_neg (own_cngt c (983039 : Int32) 983039 (by decide) (by omega)), if_neg (own_cnlt c (128 : Int32) 128 (by decide) (by omega)), if_pos (own_cgt c (191 : Int32) 191 (by decide) (by omega)), if_neg (own_cisnt c (215 : Int32) 215 (by decide) (by omega)), if_neg (own_cisnt c (247 : Int32) 247 (by decide) (by omega)), if_neg (own_cnlt c (768 : Int32) 768 (by decide) (by omega)), if_pos (own_cgt c (879 : Int32) 879 (by decide) (by omega)), if_neg (own_cisnt c (894 : Int32) 894 (by decide) (by omega)), if_neg (own_cnlt c (8192 : Int32) 8192 (by decide) (by omega)), if_pos (own_cgt c (8203 : Int32) 8203 (by decide) (by omega)), if_neg (own_cnlt c (8206 : Int32) 8206 (by decide) (by omega)), if_pos (own_cgt c (8303 : Int32) 8303 (by decide) (by omega)), if_neg (own_cnlt c (8592 : Int32) 8592 (by decide) (by omega)), if_pos (own_cgt c (11263 : Int32) 11263 (by decide) (by omega)), if_pos (own_clt c (12272 : Int32) 12272 (by decide) (by omega)), if_neg (own_cisnt c (65534 : Int32) 65534 (by decide) (by omega)), if_neg (own_cisnt c (65535 : Int32) 65535 (by decide) (by omega))]
  · rw [f1, if_neg (own_cnlt c (128 : Int32) 128 (by decide) (by omega)), if_neg (own_cnlt c (192 : Int32) 192 (by decide) (by omega)), if_pos (own_cgt c (214 : Int32) 214 (by decide) (by omega)), if_neg (own_cnlt c (216 : Int32) 216 (by decide) (by omega)), if_pos (own_cgt c (246 : Int32) 246 (by decide) (by omega)), if_neg (own_cnlt c (248 : Int32) 248 (by decide) (by omega)), if_pos (own_cgt c (767 : Int32) 767 (by decide) (by omega)), if_neg (own_cnlt c (880 : Int32) 880 (by decide) (by omega)), if_pos (own_cgt c (893 : Int32) 893 (by decide) (by omega)), if_neg (own_cnlt c (895 : Int32) 895 (by decide) (by omega)), if_pos (own_cgt c (8191 : Int32) 8191 (by decide) (by omega)), if_neg (own_cnlt c (8204 : Int32) 8204 (by decide) (by omega)), if_pos (own_cgt c (8205 : Int32) 8205 (by decide) (by omega)), if_neg (own_cnlt c (8304 : Int32) 8304 (by decide) (by omega)), if_pos (own_cgt c (8591 : Int32) 8591 (by decide) (by omega)), if_neg (own_cnlt c (11264 : Int32) 11264 (by decide) (by omega)), if_neg (own_cngt c (12271 : Int32) 12271 (by decide) (by omega)), f2, if_neg (own_cnlt c (0 : Int32) 0 (by decide) (by omega)), if_neg (own_cngt c (983039 : Int32) 983039 (by decide) (by omega)), if_neg (own_cnlt c (128 : Int32) 128 (by decide) (by omega)), if_pos (own_cgt c (191 : Int32) 191 (by decide) (by omega)), if_neg (own_cisnt c (215 : Int32) 215 (by decide) (by omega)), if_neg (own_cisnt c (247 : Int32) 247 (by decide) (by omega)), if_neg (own_cnlt c (768 : Int32) 768 (by decide) (by omega)), if_pos (own_cgt c (879 : Int32) 879 (by decide) (by omega)), if_neg (own_cisnt c (894 : Int32) 894 (by decide) (by omega)), if_neg (own_cnlt c (8192 : Int32) 8192 (by decide) (by omega)), if_pos (own_cgt c (8203 : Int32) 8203 (by decide) (by omega)), if_neg (own_cnlt c (8206 : Int32) 8206 (by decide) (by omega)), if_pos (own_cgt c (8303 : Int32) 8303 (by decide) (by omega)), if_neg (own_cnlt c (8592 : Int32) 8592 (by decide) (by omega)), if_pos (own_cgt c (11263 : Int32) 11263 (by decide) (by omega)), if_pos (own_clt c (12272 : Int32) 12272 (by decide) (by omega)), if_neg (own_cisnt c (65534 : Int32) 65534 (by decide) (by omega)), if_neg (own_cisnt c (65535 : Int32) 65535 (by decide) (by omega))]
  · rw [f1, if_neg (own_cnlt c (128 : Int32) 128 (by decide) (by omega)), if_neg (own_cnlt c (192 : Int32) 192 (by decide) (by omega)), if_pos (own_cgt c (214 : Int32) 214 (by decide) (by omega)), if_neg (own_cnlt c (216 : Int32) 216 (by decide) (by omega)), if_pos (own_cgt c (246 : Int32) 246 (by decide) (by omega)), if_neg (own_cnlt c (248 : Int32) 248 (by decide) (by omega)), if_pos (own_cgt c (767 : Int32) 767 (by decide) (by omega)), if_neg (own_cnlt c (880 : Int32) 880 (by decide) (by omega)), if_pos (own_cgt c (893 : Int32) 893 (by decide) (by omega)), if_neg (own_cnlt c (895 : Int32) 895 (by decide) (by omega)), if_pos (own_cgt c (8191 : Int32) 8191 (by decide) (by omega)), if_neg (own_cnlt c (8204 : Int32) 8204 (by decide) (by omega)), if_pos (own_cgt c (8205 : Int32) 8205 (by decide) (by omega)), if_neg (own_cnlt c (8304 : Int32) 8304 (by decide) (by omega)), if_pos (own_cgt c (8591 : Int32) 8591 (by decide) (by omega)), if_neg (own_cnlt c (11264 : Int32) 11264 (by decide) (by omega)), if_pos (own_cgt c (12271 : Int32) 12271 (by decide) (by omega)), if_pos (own_clt c (12289 : Int32) 12289 (by decide) (by omega)), f2, if_neg (own_cnlt c (0 : Int32) 0 (by decide) (by omega)), if_neg (own_cngt c (983039 : Int32) 983039 (by decide) (by omega)), if_neg (own_cnlt c (128 : Int32) 128 (by decide) (by omega)), if_pos (own_cgt c (191 : Int32) 191 (by decide) (by omega)), if_neg (own_cisnt c (215 : Int32) 215 (by decide) (by omega)), if_neg (own_cisnt c (247 : Int32) 247 (by decide) (by omega)), if_neg (own_cnlt c (768 : Int32) 768 (by decide) (by omega)), if_pos (own_cgt c (879 : Int32) 879 (by decide) (by omega)), if_neg (own_cisnt c (894 : Int32) 894 (by decide) (by omega)), if_neg (own_cnlt c (8192 : Int32) 8192 (by decide) (by omega)), if_pos (own_cgt c (8203 : Int32) 8203 (by decide) (by omega)), if_neg (own_cnlt c (8206 : Int32) 8206 (by decide) (by omega)), if_pos (own_cgt c (8303 : Int32) 8303 (by decide) (by omega)), if_neg (own_cnlt c (8592 : Int32) 8592 (by decide) (by omega)), if_pos (own_cgt c (11263 : Int32) 11263 (by decide) (by omega)), if_neg (own_cnlt c (12272 : Int32) 12272 (by decide) (by omega)), if_neg (own_cngt c (12288 : Int32) 12288 (by decide) (by omega))]
  · rw [f1, if_neg (own_cnlt c (128 : Int32) 128 (by decide) (by omega)), if_neg (own_cnlt c (192 : Int32) 192 (by decide) (by omega)), if_pos (own_cgt c (214 : Int32) 214 (by decide) (by omega)), if_neg (own_cnlt c (216 : Int32) 216 (by decide) (by omega)), if_pos (own_cgt c (246 : Int32) 246 (by decide) (by omega)), if_neg (own_cnlt c (248 : Int32) 248 (by decide) (by omega)), if_pos (own_cgt c (767 : Int32) 767 (by decide) (by omega)), if_neg (own_cnlt c (880 : Int32) 880 (by decide) (by omega)), if_pos (own_cgt c (893 : Int32) 893 (by decide) (by omega)), if_neg (own_cnlt c (895 : Int32) 895 (by decide) (by omega)), if_pos (own_cgt c (8191 : Int32) 8191 (by decide) (by omega)), if_neg (own_cnlt c (8204 : Int32) 8204 (by decide) (by omega)), if_pos (own_cgt c (8205 : Int32) 8205 (by decide) (by omega)), if_neg (own_cnlt c (8304 : Int32) 8304 (by decide) (by omega)), if_pos (own_cgt c (8591 : Int32) 8591 (by decide) (by omega)), if_neg (own_cnlt c (11264 : Int32) 11264 (by decide) (by omega)), if_pos (own_cgt c (12271 : Int32) 12271 (by decide) (by omega)), if_pos (own_clt c (12289 : Int32) 12289 (by decide) (by omega)), f2, if_neg (own_cnlt c (0 : Int32) 0 (by decide) (by omega)), if_neg (own_cngt c (983039 : Int32) 983039 (by decide) (by omega)), if_neg (own_cnlt c (128 : Int32) 128 (by decide) (by omega)), if_pos (own_cgt c (191 : Int32) 191 (by decide) (by omega)), if_neg (own_cisnt c (215 : Int32) 215 (by decide) (by omega)), if_neg (own_cisnt c (247 : Int32) 247 (by decide) (by omega)), if_neg (own_cnlt c (768 : Int32) 768 (by decide) (by omega)), if_pos (own_cgt c (879 : Int32) 879 (by decide) (by omega)), if_neg (own_cisnt c (894 : Int32) 894 (by decide) (by omega)), if_neg (own_cnlt c (8192 : Int32) 8192 (by decide) (by omega)), if_pos (own_cgt c (8203 : Int32) 8203 (by decide) (by omega)), if_neg (own_cnlt c (8206 : Int32) 8206 (by decide) (by omega)), if_pos (own_cgt c (8303 : Int32) 8303 (by decide) (by omega)), if_neg (own_cnlt c (8592 : Int32) 8592 (by decide) (by omega)), if_pos (own_cgt c (11263 : Int32) 11263 (by decide) (by omega)), if_neg (own_cnlt c (12272 : Int32) 12272 (by decide) (by omega)), if_neg (own_cngt c (12288 : Int32) 12288 (by decide) (by omega))]
  · rw [f1, if_neg (own_cnlt c (128 : Int32) 128 (by decide) (by omega)), if_neg (own_cnlt c (192 : Int32) 192 (by decide) (by omega)), if_pos (own_cgt c (214 : Int32) 214 (by decide) (by omega)), if_neg (own_cnlt c (216 : Int32) 216 (by decide) (by omega)), if_pos (own_cgt c (246 : Int32) 246 (by decide) (by omega)), if_neg (own_cnlt c (248 : Int32) 248 (by decide) (by omega)), if_pos (own_cgt c (767 : Int32) 767 (by decide) (by omega)), if_neg (own_cnlt c (880 : Int32) 880 (by decide) (by omega)), if_pos (own_cgt c (893 : Int32) 893 (by decide) (by omega)), if_neg (own_cnlt c (895 : Int32) 895 (by decide) (by omega)), if_pos (own_cgt c (8191 : Int32) 8191 (by decide) (by omega)), if_neg (own_cnlt c (8204 : Int32) 8204 (by decide) (by omega)), if_pos (own_cgt c (8205 : Int32) 8205 (by decide) (by omega)), if_neg (own_cnlt c (8304 : Int32) 8304 (by decide) (by omega)), if_pos (own_cgt c (8591 : Int32) 8591 (by decide) (by omega)), if_neg (own_cnlt c (11264 : Int32) 11264 (by decide) (by omega)), if_pos (own_cgt c (12271 : Int32) 12271 (by decide) (by omega)), if_pos (own_clt c (12289 : Int32) 12289 (by decide) (by omega)), f2, if_neg (own_cnlt c (0 : Int32) 0 (by decide) (by omega)), if_neg (own_cngt c (983039 : Int32) 983039 (by decide) (by omega)), if_neg (own_cnlt c (128 : Int32) 128 (by decide) (by omega)), if_pos (own_cgt c (191 : Int32) 191 (by decide) (by omega)), if_neg (own_cisnt c (215 : Int32) 215 (by decide) (by omega)), if_neg (own_cisnt c (247 : Int32) 247 (by decide) (by omega)), if_neg (own_cnlt c (768 : Int32) 768 (by decide) (by omega)), if_pos (own_cgt c (879 : Int32) 879 (by decide) (by omega)), if_neg (own_cisnt c (894 : Int32) 894 (by decide) (by omega)), if_neg (own_cnlt c (8192 : Int32) 8192 (by decide) (by omega)), if_pos (own_cgt c (8203 : Int32) 8203 (by decide) (by omega)), if_neg (own_cnlt c (8206 : Int32) 8206 (by decide) (by omega)), if_pos (own_cgt c (8303 : Int32) 8303 (by decide) (by omega)), if_neg (own_cnlt c (8592 : Int32) 8592 (by decide) (by omega)), if_pos (own_cgt c (11263 : Int32) 11263 (by decide) (by omega)), if_neg (own_cnlt c (12272 : Int32) 12272 (by decide) (by omega)), if_neg (own_cngt c (12288 : Int32) 12288 (by decide) (by omega))]
  · rw [f1, if_neg (own_cnlt c (128 : Int32) 128 (by decide) (by omega)), if_neg (own_cnlt c (192 : Int32) 192 (by decide) (by omega)), if_pos (own_cgt c (214 : Int32) 214 (by decide) (by omega)), if_neg (own_cnlt c (216 : Int32) 216 (by decide) (by omega)), if_pos (own_cgt c (246 : Int32) 246 (by decide) (by omega)), if_neg (own_cnlt c (248 : Int32) 248 (by decide) (by omega)), if_pos (own_cgt c (767 : Int32) 767 (by decide) (by omega)), if_neg (own_cnlt c (880 : Int32) 880 (by decide) (by omega)), if_pos (own_cgt c (893 : Int32) 893 (by decide) (by omega)), if_neg (own_cnlt c (895 : Int32) 895 (by decide) (by omega)), if_pos (own_cgt c (8191 : Int32) 8191 (by decide) (by omega)), if_neg (own_cnlt c (8204 : Int32) 8204 (by decide) (by omega)), if_pos (own_cgt c (8205 : Int32) 8205 (by decide) (by omega)), if_neg (own_cnlt c (8304 : Int32) 8304 (by decide) (by omega)), if_pos (own_cgt c (8591 : Int32) 8591 (by decide) (by omega)), if_neg (own_cnlt c (11264 : Int32) 11264 (by decide) (by omega)), if_pos (own_cgt c (12271 : Int32) 12271 (by decide) (by omega)), if_neg (own_cnlt c (12289 : Int32) 12289 (by decide) (by omega)), if_neg (own_cngt c (55295 : Int32) 55295 (by decide) (by omega)), f2, if_neg (own_cnlt c (0 : Int32) 0 (by decide) (by omega)), if_neg (own_cngt c (983039 : Int32) 983039 (by decide) (by omega)), if_neg (own_cnlt c (128 : Int32) 128 (by decide) (by omega)), if_pos (own_cgt c (191 : Int32) 191 (by decide) (by omega)), if_neg (own_cisnt c (215 : Int32) 215 (by decide) (by omega)), if_neg (own_cisnt c (247 : Int32) 247 (by decide) (by omega)), if_neg (own_cnlt c (768 : Int32) 768 (by decide) (by omega)), if_pos (own_cgt c (879 : Int32) 879 (by decide) (by omega)), if_neg (own_cisnt c (894 : Int32) 894 (by decide) (by omega)), if_neg (own_cnlt c (8192 : Int32) 8192 (by decide) (by omega)), if_pos (own_cgt c (8203 : Int32) 8203 (by decide) (by omega)), if_neg (own_cnlt c (8206 : Int32) 8206 (by decide) (by omega)), if_pos (own_cgt c (8303 : Int32) 8303 (by decide) (by omega)), if_neg (own_cnlt c (8592 : Int32) 8592 (by decide) (by omega)), if_pos (own_cgt c (11263 : Int32) 11263 (by decide) (by omega)), if_neg (own_cnlt c (12272 : Int32) 12272 (by decide) (by omega)), if_pos (own_cgt c (12288 : Int32) 12288 (by decide) (by omega)), if_pos (own_clt c (55296 : Int32) 55296 (by decide) (by omega)), if_neg (own_cisnt c (65534 : Int32) 65534 (by decide) (by omega)), if_neg (own_cisnt c (65535 : Int32) 65535 (by decide) (by omega))]
  · rw [f1, if_neg (own_cnlt c (128 : Int32) 128 (by decide) (by omega)), if_neg (own_cnlt c (192 : Int32) 192 (by decide) (by omega)), if_pos (own_cgt c (214 : Int32) 214 (by decide) (by omega)), if_neg (own_cnlt c (216 : Int32) 216 (by decide) (by omega)), if_pos (own_cgt c (246 : Int32) 246 (by decide) (by omega)), if_neg (own_cnlt c (248 : Int32) 248 (by decide) (by omega)), if_pos (own_cgt c (767 : Int32) 767 (by decide) (by omega)), if_neg (own_cnlt c (880 : Int32) 880 (by decide) (by omega)), if_pos (own_cgt c (893 : Int32) 893 (by decide) (by omega)), if_neg (own_cnlt c (895 : Int32) 895 (by decide) (by omega)), if_pos (own_cgt c (8191 : Int32) 8191 (by decide) (by omega)), if_neg (own_cnlt c (8204 : Int32) 8204 (by decide) (by omega)), if_pos (own_cgt c (8205 : Int32) 8205 (by decide) (by omega)), if_neg (own_cnlt c (8304 : Int32) 8304 (by decide) (by omega)), if_pos (own_cgt c (8591 : Int32) 8591 (by decide) (by omega)), if_neg (own_cnlt c (11264 : Int32) 11264 (by decide) (by omega)), if_pos (own_cgt c (12271 : Int32) 12271 (by decide) (by omega)), if_neg (own_cnlt c (12289 : Int32) 12289 (by decide) (by omega)), if_neg (own_cngt c (55295 : Int32) 55295 (by decide) (by omega)), f2, if_neg (own_cnlt c (0 : Int32) 0 (by decide) (by omega)), if_neg (own_cngt c (983039 : Int32) 983039 (by decide) (by omega)), if_neg (own_cnlt c (128 : Int32) 128 (by decide) (by omega)), if_pos (own_cgt c (191 : Int32) 191 (by decide) (by omega)), if_neg (own_cisnt c (215 : Int32) 215 (by decide) (by omega)), if_neg (own_cisnt c (247 : Int32) 247 (by decide) (by omega)), if_neg (own_cnlt c (768 : Int32) 768 (by decide) (by omega)), if_pos (own_cgt c (879 : Int32) 879 (by decide) (by omega)), if_neg (own_cisnt c (894 : Int32) 894 (by decide) (by omega)), if_neg (own_cnlt c (8192 : Int32) 8192 (by decide) (by omega)), if_pos (own_cgt c (8203 : Int32) 8203 (by decide) (by omega)), if_neg (own_cnlt c (8206 : Int32) 8206 (by decide) (by omega)), if_pos (own_cgt c (8303 : Int32) 8303 (by decide) (by omega)), if_neg (own_cnlt c (8592 : Int32) 8592 (by decide) (by omega)), if_pos (own_cgt c (11263 : Int32) 11263 (by decide) (by omega)), if_neg (own_cnlt c (12272 : Int32) 12272 (by decide) (by omega)), if_pos (own_cgt c (12288 : Int32) 12288 (by decide) (by omega)), if_pos (own_clt c (55296 : Int32) 55296 (by decide) (by omega)), if_neg (own_cisnt c (65534 : Int32) 65534 (by decide) (by omega)), if_neg (own_cisnt c (65535 : Int32) 65535 (by decide) (by omega))]
  · rw [f1, if_neg (own_cnlt c (128 : Int32) 128 (by decide) (by omega)), if_neg (own_cnlt c (192 : Int32) 192 (by decide) (by omega)), if_pos (own_cgt c (214 : Int32) 214 (by decide) (by omega)), if_neg (own_cnlt c (216 : Int32) 216 (by decide) (by omega)), if_pos (own_cgt c (246 : Int32) 246 (by decide) (by omega)), if_neg (own_cnlt c (248 : Int32) 248 (by decide) (by omega)), if_pos (own_cgt c (767 : Int32) 767 (by decide) (by omega)), if_neg (own_cnlt c (880 : Int32) 880 (by decide) (by omega)), if_pos (own_cgt c (893 : Int32) 893 (by decide) (by omega)), if_neg (own_cnlt c (895 : Int32) 895 (by decide) (by omega)), if_pos (own_cgt c (8191 : Int32) 8191 (by decide) (by omega)), if_neg (own_cnlt c (8204 : Int32) 8204 (by decide) (by omega)), if_pos (own_cgt c (8205 : Int32) 8205 (by decide) (by omega)), if_neg (own_cnlt c (8304 : Int32) 8304 (by decide) (by omega)), if_pos (own_cgt c (8591 : Int32) 8591 (by decide) (by omega)), if_neg (own_cnlt c (11264 : Int32) 11264 (by decide) (by omega)), if_pos (own_cgt c (12271 : Int32) 12271 (by decide) (by omega)), if_neg (own_cnlt c (12289 : Int32) 12289 (by decide) (by omega)), if_neg (own_cngt c (55295 : Int32) 55295 (by decide) (by omega)), f2, if_neg (own_cnlt c (0 : Int32) 0 (by decide) (by omega)), if_neg (own_cngt c (983039 : Int32) 983039 (by decide) (by omega)), if_neg (own_cnlt c (128 : Int32) 128 (by decide) (by omega)), if_pos (own_cgt c (191 : Int32) 191 (by decide) (by omega)), if_neg (own_cisnt c (215 : Int32) 215 (by decide) (by omega)), if_neg (own_cisnt c (247 : Int32) 247 (by decide) (by omega)), if_neg (own_cnlt c (768 : Int32) 768 (by decide) (by omega)), if_pos (own_cgt c (879 : Int32) 879 (by decide) (by omega)), if_neg (own_cisnt c (894 : Int32) 894 (by decide) (by omega)), if_neg (own_cnlt c (8192 : Int32) 8192 (by decide) (by omega)), if_pos (own_cgt c (8203 : Int32) 8203 (by decide) (by omega)), if_neg (own_cnlt c (8206 : Int32) 8206 (by decide) (by omega)), if_pos (own_cgt c (8303 : Int32) 8303 (by decide) (by omega)), if_neg (own_cnlt c (8592 : Int32) 8592 (by decide) (by omega)), if_pos (own_cgt c (11263 : Int32) 11263 (by decide) (by omega)), if_neg (own_cnlt c (12272 : Int32) 12272 (by decide) (by omega)), if_pos (own_cgt c (12288 : Int32) 12288 (by decide) (by omega)), if_pos (own_clt c (55296 : Int32) 55296 (by decide) (by omega)), if_neg (own_cisnt c (65534 : Int32) 65534 (by decide) (by omega)), if_neg (own_cisnt c (65535 : Int32) 65535 (by decide) (by omega))]
  · rw [f1, if_neg (own_cnlt c (128 : Int32) 128 (by decide) (by omega)), if_neg (own_cnlt c (192 : Int32) 192 (by decide) (by omega)), if_pos (own_cgt c (214 : Int32) 214 (by decide) (by omega)), if_neg (own_cnlt c (216 : Int32) 216 (by decide) (by omega)), if_pos (own_cgt c (246 : Int32) 246 (by decide) (by omega)), if_neg (own_cnlt c (248 : Int32) 248 (by decide) (by omega)), if_pos (own_cgt c (767 : Int32) 767 (by decide) (by omega)), if_neg (own_cnlt c (880 : Int32) 880 (by decide) (by omega)), if_pos (own_cgt c (893 : Int32) 893 (by decide) (by omega)), if_neg (own_cnlt c (895 : Int32) 895 (by decide) (by omega)), if_pos (own_cgt c (8191 : Int32) 8191 (by decide) (by omega)), if_neg (own_cnlt c (8204 : Int32) 8204 (by decide) (by omega)), if_pos (own_cgt c (8205 : Int32) 8205 (by decide) (by omega)), if_neg (own_cnlt c (8304 : Int32) 8304 (by decide) (by omega)), if_pos (own_cgt c (8591 : Int32) 8591 (by decide) (by omega)), if_neg (own_cnlt c (11264 : Int32) 11264 (by decide) (by omega)), if_pos (own_cgt c (12271 : Int32) 12271 (by decide) (by omega)), if_neg (own_cnlt c (12289 : Int32) 12289 (by decide) (by omega)), if_pos (own_cgt c (55295 : Int32) 55295 (by decide) (by omega)), if_pos (own_clt c (63744 : Int32) 63744 (by decide) (by omega)), f2, if_neg (own_cnlt c (0 : Int32) 0 (by decide) (by omega)), if_neg (own_cngt c (983039 : Int32) 983039 (by decide) (by omega)), if_neg (own_cnlt c (128 : Int32) 128 (by decide) (by omega)), if_pos (own_cgt c (191 : Int32) 191 (by decide) (by omega)), if_neg (own_cisnt c (215 : Int32) 215 (by decide) (by omega)), if_neg (own_cisnt c (247 : Int32) 247 (by decide) (by omega)), if_neg (own_cnlt c (768 : Int32) 768 (by decide) (by omega)), if_pos (own_cgt c (879 : Int32) 879 (by decide) (by omega)), if_neg (own_cisnt c (894 : Int32) 894 (by decide) (by omega)), if_neg (own_cnlt c (8192 : Int32) 8192 (by decide) (by omega)), if_pos (own_cgt c (8203 : Int32) 8203 (by decide) (by omega)), if_neg (own_cnlt c (8206 : Int32) 8206 (by decide) (by omega)), if_pos (own_cgt c (8303 : Int32) 8303 (by decide) (by omega)), if_neg (own_cnlt c (8592 : Int32) 8592 (by decide) (by omega)), if_pos (own_cgt c (11263 : Int32) 11263 (by decide) (by omega)), if_neg (own_cnlt c (12272 : Int32) 12272 (by decide) (by omega)), if_pos (own_cgt c (12288 : Int32) 12288 (by decide) (by omega)), if_neg (own_cnlt c (55296 : Int32) 55296 (by decide) (by omega)), if_neg (own_cngt c (63743 : Int32) 63743 (by decide) (by omega))]
  · rw [f1, if_neg (own_cnlt c (128 : Int32) 128 (by decide) (by omega)), if_neg (own_cnlt c (192 : Int32) 192 (by decide) (by omega)), if_pos (own_cgt c (214 : Int32) 214 (by decide) (by omega)), if_neg (own_cnlt c (216 : Int32) 216 (by decide) (by omega)), if_pos (own_cgt c (246 : Int32) 246 (by decide) (by omega)), if_neg (own_cnlt c (248 : Int32) 248 (by decide) (by omega)), if_pos (own_cgt c (767 : Int32) 767 (by decide) (by omega)), if_neg (own_cnlt c (880 : Int32) 880 (by decide) (by omega)), if_pos (own_cgt c (893 : Int32) 893 (by decide) (by omega)), if_neg (own_cnlt c (895 : Int32) 895 (by decide) (by omega)), if_pos (own_cgt c (8191 : Int32) 8191 (by decide) (by omega)), if_neg (own_cnlt c (8204 : Int32) 8204 (by decide) (by omega)), if_pos (own_cgt c (8205 : Int32) 8205 (by decide) (by omega)), if_neg (own_cnlt c (8304 : Int32) 8304 (by decide) (by omega)), if_pos (own_cgt c (8591 : Int32) 8591 (by decide) (by omega)), if_neg (own_cnlt c (11264 : Int32) 11264 (by decide) (by omega)), if_pos (own_cgt c (12271 : Int32) 12271 (by decide) (by omega)), if_neg (own_cnlt c (12289 : Int32) 12289 (by decide) (by omega)), if_pos (own_cgt c (55295 : Int32) 55295 (by decide) (by omega)), if_pos (own_clt c (63744 : Int32) 63744 (by decide) (by omega)), f2, if_neg (own_cnlt c (0 : Int32) 0 (by decide) (by omega)), if_neg (own_cngt c (983039 : Int32) 983039 (by decide) (by omega)), if_neg (own_cnlt c (128 : Int32) 128 (by decide) (by omega)), if_pos (own_cgt c (191 : Int32) 191 (by decide) (by omega)), if_neg (own_cisnt c (215 : Int32) 215 (by decide) (by omega)), if_neg (own_cisnt c (247 : Int32) 247 (by decide) (by omega)), if_neg (own_cnlt c (768 : Int32) 768 (by decide) (by omega)), if_pos (own_cgt c (879 : Int32) 879 (by decide) (by omega)), if_neg (own_cisnt c (894 : Int32) 894 (by decide) (by omega)), if_neg (own_cnlt c (8192 : Int32) 8192 (by decide) (by omega)), if_pos (own_cgt c (8203 : Int32) 8203 (by decide) (by omega)), if_neg (own_cnlt c (8206 : Int32) 8206 (by decide) (by omega)), if_pos (own_cgt c (8303 : Int32) 8303 (by decide) (by omega)), if_neg (own_cnlt c (8592 : Int32) 8592 (by decide) (by omega)), if_pos (own_cgt c (11263 : Int32) 11263 (by decide) (by omega)), if_neg (own_cnlt c (12272 : Int32) 12272 (by decide) (by omega)), if_pos (own_cgt c (12288 : Int32) 12288 (by decide) (by omega)), if_neg (own_cnlt c (55296 : Int32) 55296 (by decide) (by omega)), if_neg (own_cngt c (63743 : Int32) 63743 (by decide) (by omega))]
  · rw [f1, if_neg (own_cnlt c (128 : Int32) 128 (by decide) (by omega)), if_neg (own_cnlt c (192 : Int32) 192 (by decide) (by omega)), if_pos (own_cgt c (214 : Int32) 214 (by decide) (by omega)), if_neg (own_cnlt c (216 : Int32) 216 (by decide) (by omega)), if_pos (own_cgt c (246 : Int32) 246 (by decide) (by omega)), if_neg (own_cnlt c (248 : Int32) 248 (by decide) (by omega)), if_pos (own_cgt c (767 : Int32) 767 (by decide) (by omega)), if_neg (own_cnlt c (880 : Int32) 880 (by decide) (by omega)), if_pos (own_cgt c (893 : Int32) 893 (by decide) (by omega)), if_neg (own_cnlt c (895 : Int32) 895 (by decide) (by omega)), if_pos (own_cgt c (8191 : Int32) 8191 (by decide) (by omega)), if_neg (own_cnlt c (8204 : Int32) 8204 (by decide) (by omega)), if_pos (own_cgt c (8205 : Int32) 8205 (by decide) (by omega)), if_neg (own_cnlt c (8304 : Int32) 8304 (by decide) (by omega)), if_pos (own_cgt c (8591 : Int32) 8591 (by decide) (by omega)), if_neg (own_cnlt c (11264 : Int32) 11264 (by decide) (by omega)), if_pos (own_cgt c (12271 : Int32) 12271 (by decide) (by omega)), if_neg (own_cnlt c (12289 : Int32) 12289 (by decide) (by omega)), if_pos (own_cgt c (55295 : Int32) 55295 (by decide) (by omega)), if_pos (own_clt c (63744 : Int32) 63744 (by decide) (by omega)), f2, if_neg (own_cnlt c (0 : Int32) 0 (by decide) (by omega)), if_neg (own_cngt c (983039 : Int32) 983039 (by decide) (by omega)), if_neg (own_cnlt c (128 : Int32) 128 (by decide) (by omega)), if_pos (own_cgt c (191 : Int32) 191 (by decide) (by omega)), if_neg (own_cisnt c (215 : Int32) 215 (by decide) (by omega)), if_neg (own_cisnt c (247 : Int32) 247 (by decide) (by omega)), if_neg (own_cnlt c (768 : Int32) 768 (by decide) (by omega)), if_pos (own_cgt c (879 : Int32) 879 (by decide) (by omega)), if_neg (own_cisnt c (894 : Int32) 894 (by decide) (by omega)), if_neg (own_cnlt c (8192 : Int32) 8192 (by decide) (by omega)), if_pos (own_cgt c (8203 : Int32) 8203 (by decide) (by omega)), if_neg (own_cnlt c (8206 : Int32) 8206 (by decide) (by omega)), if_pos (own_cgt c (8303 : Int32) 8303 (by decide) (by omega)), if_neg (own_cnlt c (8592 : Int32) 8592 (by decide) (by omega)), if_pos (own_cgt c (11263 : Int32) 11263 (by decide) (by omega)), if_neg (own_cnlt c (12272 : Int32) 12272 (by decide) (by omega)), if_pos (own_cgt c (12288 : Int32) 12288 (by decide) (by omega)), if_neg (own_cnlt c (55296 : Int32) 55296 (by decide) (by omega)), if_neg (own_cngt c (63743 : Int32) 63743 (by decide) (by omega))]
  · rw [f1, if_neg (own_cnlt c (128 : Int32) 128 (by decide) (by omega)), if_neg (own_cnlt c (192 : Int32) 192 (by decide) (by omega)), if_pos (own_cgt c (214 : Int32) 214 (by decide) (by omega)), if_neg (own_cnlt c (216 : Int32) 216 (by decide) (by omega)), if_pos (own_cgt c (246 : Int32) 246 (by decide) (by omega)), if_neg (own_cnlt c (248 : Int32) 248 (by decide) (by omega)), if_pos (own_cgt c (767 : Int32) 767 (by decide) (by omega)), if_neg (own_cnlt c (880 : Int32) 880 (by decide) (by omega)), if_pos (own_cgt c (893 : Int32) 893 (by decide) (by omega)), if_neg (own_cnlt c (895 : Int32) 895 (by decide) (by omega)), if_pos (own_cgt c (8191 : Int32) 8191 (by decide) (by omega)), if_neg (own_cnlt c (8204 : Int32) 8204 (by decide) (by omega)), if_pos (own_cgt c (8205 : Int32) 8205 (by decide) (by omega)), if_neg (own_cnlt c (8304 : Int32) 8304 (by decide) (by omega)), if_pos (own_cgt c (8591 : Int32) 8591 (by decide) (by omega)), if_neg (own_cnlt c (11264 : Int32) 11264 (by decide) (by omega)), if_pos (own_cgt c (12271 : Int32) 12271 (by decide) (by omega)), if_neg (own_cnlt c (12289 : Int32) 12289 (by decide) (by omega)), if_pos (own_cgt c (55295 : Int32) 55295 (by decide) (by omega)), if_neg (own_cnlt c (63744 : Int32) 63744 (by decide) (by omega)), if_neg (own_cngt c (64975 : Int32) 64975 (by decide) (by omega)), f2, if_neg (own_cnlt c (0 : Int32) 0 (by decide) (by omega)), if_neg (own_cngt c (983039 : Int32) 983039 (by decide) (by omega)), if_neg (own_cnlt c (128 : Int32) 128 (by decide) (by omega)), if_pos (own_cgt c (191 : Int32) 191 (by decide) (by omega)), if_neg (own_cisnt c (215 : Int32) 215 (by decide) (by omega)), if_neg (own_cisnt c (247 : Int32) 247 (by decide) (by omega)), if_neg (own_cnlt c (768 : Int32) 768 (by decide) (by omega)), if_pos (own_cgt c (879 : Int32) 879 (by decide) (by omega)), if_neg (own_cisnt c (894 : Int32) 894 (by decide) (by omega)), if_neg (own_cnlt c (8192 : Int32) 8192 (by decide) (by omega)), if_pos (own_cgt c (8203 : Int32) 8203 (by decide) (by omega)), if_neg (own_cnlt c (8206 : Int32) 8206 (by decide) (by omega)), if_pos (own_cgt c (8303 : Int32) 8303 (by decide) (by omega)), if_neg (own_cnlt c (8592 : Int32) 8592 (by decide) (by omega)), if_pos (own_cgt c (11263 : Int32) 11263 (by decide) (by omega)), if_neg (own_cnlt c (12272 : Int32) 12272 (by decide) (by omega)), if_pos (own_cgt c (12288 : Int32) 12288 (by decide) (by omega)), if_neg (own_cnlt c (55296 : Int32) 55296 (by decide) (by omega)), if_pos (own_cgt c (63743 : Int32) 63743 (by decide) (by omega)), if_pos (own_clt c (64976 : Int32) 64976 (by decide) (by omega)), if_neg (own_cisnt c (65534 : Int32) 65534 (by decide) (by omega)), if_neg (own_cisnt c (65535 : Int32) 65535 (by decide) (by omega))]
  · rw [f1, if_neg (own_cnlt c (128 : Int32) 128 (by decide) (by omega)), if_neg (own_cnlt c (192 : Int32) 192 (by decide) (by omega)), if_pos (own_cgt c (214 : Int32) 214 (by decide) (by omega)), if_neg (own_cnlt c (216 : Int32) 216 (by decide) (by omega)), if_pos (own_cgt c (246 : Int32) 246 (by decide) (by omega)), if_neg (own_cnlt c (248 : Int32) 248 (by decide) (by omega)), if_pos (own_cgt c (767 : Int32) 767 (by decide) (by omega)), if_neg (own_cnlt c (880 : Int32) 880 (by decide) (by omega)), if_pos (own_cgt c (893 : Int32) 893 (by decide) (by omega)), if_neg (own_cnlt c (895 : Int32) 895 (by decide) (by omega)), if_pos (own_cgt c (8191 : Int32) 8191 (by decide) (by omega)), if_neg (own_cnlt c (8204 : Int32) 8204 (by decide) (by omega)), if_pos (own_cgt c (8205 : Int32) 8205 (by decide) (by omega)), if_neg (own_cnlt c (8304 : Int32) 8304 (by decide) (by omega)), if_pos (own_cgt c (8591 : Int32) 8591 (by decide) (by omega)), if_neg (own_cnlt c (11264 : Int32) 11264 (by decide) (by omega)), if_pos (own_cgt c (12271 : Int32) 12271 (by decide) (by omega)), if_neg (own_cnlt c (12289 : Int32) 12289 (by decide) (by omega)), if_pos (own_cgt c (55295 : Int32) 55295 (by decide) (by omega)), if_neg (own_cnlt c (63744 : Int32) 63744 (by decide) (by omega)), if_neg (own_cngt c (64975 : Int32) 64975 (by decide) (by omega)), f2, if_neg (own_cnlt c (0 : Int32) 0 (by decide) (by omega)), if_neg (own_cngt c (983039 : Int32) 983039 (by decide) (by omega)), if_neg (own_cnlt c (128 : Int32) 128 (by decide) (by omega)), if_pos (own_cgt c (191 : Int32) 191 (by decide) (by omega)), if_neg (own_cisnt c (215 : Int32) 215 (by decide) (by omega)), if_neg (own_cisnt c (247 : Int32) 247 (by decide) (by omega)), if_neg (own_cnlt c (768 : Int32) 768 (by decide) (by omega)), if_pos (own_cgt c (879 : Int32) 879 (by decide) (by omega)), if_neg (own_cisnt c (894 : Int32) 894 (by decide) (by omega)), if_neg (own_cnlt c (8192 : Int32) 8192 (by decide) (by omega)), if_pos (own_cgt c (8203 : Int32) 8203 (by decide) (by omega)), if_neg (own_cnlt c (8206 : Int32) 8206 (by decide) (by omega)), if_pos (own_cgt c (8303 : Int32) 8303 (by decide) (by omega)), if_neg (own_cnlt c (8592 : Int32) 8592 (by decide) (by omega)), if_pos (own_cgt c (11263 : Int32) 11263 (by decide) (by omega)), if_neg (own_cnlt c (12272 : Int32) 12272 (by decide) (by omega)), if_pos (own_cgt c (12288 : Int32) 12288 (by decide) (by omega)), if_neg (own_cnlt c (55296 : Int32) 55296 (by decide) (by omega)), if_pos (own_cgt c (63743 : Int32) 63743 (by decide) (by omega)), if_pos (own_clt c (64976 : Int32) 64976 (by decide) (by omega)), if_neg (own_cisnt c (65534 : Int32) 65534 (by decide) (by omega)), if_neg (own_cisnt c (65535 : Int32) 65535 (by decide) (by omega))]
  · rw [f1, if_neg (own_cnlt c (128 : Int32) 128 (by decide) (by omega)), if_neg (own_cnlt c (192 : Int32) 192 (by decide) (by omega)), if_pos (own_cgt c (214 : Int32) 214 (by decide) (by omega)), if_neg (own_cnlt c (216 : Int32) 216 (by decide) (by omega)), if_pos (own_cgt c (246 : Int32) 246 (by decide) (by omega)), if_neg (own_cnlt c (248 : Int32) 248 (by decide) (by omega)), if_pos (own_cgt c (767 : Int32) 767 (by decide) (by omega)), if_neg (own_cnlt c (880 : Int32) 880 (by decide) (by omega)), if_pos (own_cgt c (893 : Int32) 893 (by decide) (by omega)), if_neg (own_cnlt c (895 : Int32) 895 (by decide) (by omega)), if_pos (own_cgt c (8191 : Int32) 8191 (by decide) (by omega)), if_neg (own_cnlt c (8204 : Int32) 8204 (by decide) (by omega)), if_pos (own_cgt c (8205 : Int32) 8205 (by decide) (by omega)), if_neg (own_cnlt c (8304 : Int32) 8304 (by decide) (by omega)), if_pos (own_cgt c (8591 : Int32) 8591 (by decide) (by omega)), if_neg (own_cnlt c (11264 : Int32) 11264 (by decide) (by omega)), if_pos (own_cgt c (12271 : Int32) 12271 (by decide) (by omega)), if_neg (own_cnlt c (12289 : Int32) 12289 (by decide) (by omega)), if_pos (own_cgt c (55295 : Int32) 55295 (by decide) (by omega)), if_neg (own_cnlt c (63744 : Int32) 63744 (by decide) (by omega)), if_neg (own_cngt c (64975 : Int32) 64975 (by decide) (by omega)), f2, if_neg (own_cnlt c (0 : Int32) 0 (by decide) (by omega)), if_neg (own_cngt c (983039 : Int32) 983039 (by decide) (by omega)), if_neg (own_cnlt c (128 : Int32) 128 (by decide) (by omega)), if_pos (own_cgt c (191 : Int32) 191 (by decide) (by omega)), if_neg (own_cisnt c (215 : Int32) 215 (by decide) (by omega)), if_neg (own_cisnt c (247 : Int32) 247 (by decide) (by omega)), if_neg (own_cnlt c (768 : Int32) 768 (by decide) (by omega)), if_pos (own_cgt c (879 : Int32) 879 (by decide) (by omega)), if_neg (own_cisnt c (894 : Int32) 894 (by decide) (by omega)), if_neg (own_cnlt c (8192 : Int32) 8192 (by decide) (by omega)), if_pos (own_cgt c (8203 : Int32) 8203 (by decide) (by omega)), if_neg (own_cnlt c (8206 : Int32) 8206 (by decide) (by omega)), if_pos (own_cgt c (8303 : Int32) 8303 (by decide) (by omega)), if_neg (own_cnlt c (8592 : Int32) 8592 (by decide) (by omega)), if_pos (own_cgt c (11263 : Int32) 11263 (by decide) (by omega)), if_neg (own_cnlt c (12272 : Int32) 12272 (by decide) (by omega)), if_pos (own_cgt c (12288 : Int32) 12288 (by decide) (by omega)), if_neg (own_cnlt c (55296 : Int32) 55296 (by decide) (by omega)), if_pos (own_cgt c (63743 : Int32) 63743 (by decide) (by omega)), if_pos (own_clt c (64976 : Int32) 64976 (by decide) (by omega)), if_neg (own_cisnt c (65534 : Int32) 65534 (by decide) (by omega)), if_neg (own_cisnt c (65535 : Int32) 65535 (by decide) (by omega))]
  · rw [f1, if_neg (own_cnlt c (128 : Int32) 128 (by decide) (by omega)), if_neg (own_cnlt c (192 : Int32) 192 (by decide) (by omega)), if_pos (own_cgt c (214 : Int32) 214 (by decide) (by omega)), if_neg (own_cnlt c (216 : Int32) 216 (by decide) (by omega)), if_pos (own_cgt c (246 : Int32) 246 (by decide) (by omega)), if_neg (own_cnlt c (248 : Int32) 248 (by decide) (by omega)), if_pos (own_cgt c (767 : Int32) 767 (by decide) (by omega)), if_neg (own_cnlt c (880 : Int32) 880 (by decide) (by omega)), if_pos (own_cgt c (893 : Int32) 893 (by decide) (by omega)), if_neg (own_cnlt c (895 : Int32) 895 (by decide) (by omega)), if_pos (own_cgt c (8191 : Int32) 8191 (by decide) (by omega)), if_neg (own_cnlt c (8204 : Int32) 8204 (by decide) (by omega)), if_pos (own_cgt c (8205 : Int32) 8205 (by decide) (by omega)), if_neg (own_cnlt c (8304 : Int32) 8304 (by decide) (by omega)), if_pos (own_cgt c (8591 : Int32) 8591 (by decide) (by omega)), if_neg (own_cnlt c (11264 : Int32) 11264 (by decide) (by omega)), if_pos (own_cgt c (12271 : Int32) 12271 (by decide) (by omega)), if_neg (own_cnlt c (12289 : Int32) 12289 (by decide) (by omega)), if_pos (own_cgt c (55295 : Int32) 55295 (by decide) (by omega)), if_neg (own_cnlt c (63744 : Int32) 63744 (by decide) (by omega)), if_pos (own_cgt c (64975 : Int32) 64975 (by decide) (by omega)), if_pos (own_clt c (65008 : Int32) 65008 (by decide) (by omega)), f2, if_neg (own_cnlt c (0 : Int32) 0 (by decide) (by omega)), if_neg (own_cngt c (983039 : Int32) 983039 (by decide) (by omega)), if_neg (own_cnlt c (128 : Int32) 128 (by decide) (by omega)), if_pos (own_cgt c (191 : Int32) 191 (by decide) (by omega)), if_neg (own_cisnt c (215 : Int32) 215 (by decide) (by omega)), if_neg (own_cisnt c (247 : Int32) 247 (by decide) (by omega)), if_neg (own_cnlt c (768 : Int32) 768 (by decide) (by omega)), if_pos (own_cgt c (879 : Int32) 879 (by decide) (by omega)), if_neg (own_cisnt c (894 : Int32) 894 (by decide) (by omega)), if_neg (own_cnlt c (8192 : Int32) 8192 (by decide) (by omega)), if_pos (own_cgt c (8203 : Int32) 8203 (by decide) (by omega)), if_neg (own_cnlt c (8206 : Int32) 8206 (by decide) (by omega)), if_pos (own_cgt c (8303 : Int32) 8303 (by decide) (by omega)), if_neg (own_cnlt c (8592 : Int32) 8592 (by decide) (by omega)), if_pos (own_cgt c (11263 : Int32) 11263 (by decide) (by omega)), if_neg (own_cnlt c (12272 : Int32) 12272 (by decide) (by omega)), if_pos (own_cgt c (12288 : Int32) 12288 (by decide) (by omega)), if_neg (own_cnlt c (55296 : Int32) 55296 (by decide) (by omega)), if_pos (own_cgt c (63743 : Int32) 63743 (by decide) (by omega)), if_neg (own_cnlt c (64976 : Int32) 64976 (by decide) (by omega)), if_neg (own_cngt c (65007 : Int32) 65007 (by decide) (by omega))]
  · rw [f1, if_neg (own_cnlt c (128 : Int32) 128 (by decide) (by omega)), if_neg (own_cnlt c (192 : Int32) 192 (by decide) (by omega)), if_pos (own_cgt c (214 : Int32) 214 (by decide) (by omega)), if_neg (own_cnlt c (216 : Int32) 216 (by decide) (by omega)), if_pos (own_cgt c (246 : Int32) 246 (by decide) (by omega)), if_neg (own_cnlt c (248 : Int32) 248 (by decide) (by omega)), if_pos (own_cgt c (767 : Int32) 767 (by decide) (by omega)), if_neg (own_cnlt c (880 : Int32) 880 (by decide) (by omega)), if_pos (own_cgt c (893 : Int32) 893 (by decide) (by omega)), if_neg (own_cnlt c (895 : Int32) 895 (by decide) (by omega)), if_pos (own_cgt c (8191 : Int32) 8191 (by decide) (by omega)), if_neg (own_cnlt c (8204 : Int32) 8204 (by decide) (by omega)), if_pos (own_cgt c (8205 : Int32) 8205 (by decide) (by omega)), if_neg (own_cnlt c (8304 : Int32) 8304 (by decide) (by omega)), if_pos (own_cgt c (8591 : Int32) 8591 (by decide) (by omega)), if_neg (own_cnlt c (11264 : Int32) 11264 (by decide) (by omega)), if_pos (own_cgt c (12271 : Int32) 12271 (by decide) (by omega)), if_neg (own_cnlt c (12289 : Int32) 12289 (by decide) (by omega)), if_pos (own_cgt c (55295 : Int32) 55295 (by decide) (by omega)), if_neg (own_cnlt c (63744 : Int32) 63744 (by decide) (by omega)), if_pos (own_cgt c (64975 : Int32) 64975 (by decide) (by omega)), if_pos (own_clt c (65008 : Int32) 65008 (by decide) (by omega)), f2, if_neg (own_cnlt c (0 : Int32) 0 (by decide) (by omega)), if_neg (own_cngt c (983039 : Int32) 983039 (by decide) (by omega)), if_neg (own_cnlt c (128 : Int32) 128 (by decide) (by omega)), if_pos (own_cgt c (191 : Int32) 191 (by decide) (by omega)), if_neg (own_cisnt c (215 : Int32) 215 (by decide) (by omega)), if_neg (own_cisnt c (247 : Int32) 247 (by decide) (by omega)), if_neg (own_cnlt c (768 : Int32) 768 (by decide) (by omega)), if_pos (own_cgt c (879 : Int32) 879 (by decide) (by omega)), if_neg (own_cisnt c (894 : Int32) 894 (by decide) (by omega)), if_neg (own_cnlt c (8192 : Int32) 8192 (by decide) (by omega)), if_pos (own_cgt c (8203 : Int32) 8203 (by decide) (by omega)), if_neg (own_cnlt c (8206 : Int32) 8206 (by decide) (by omega)), if_pos (own_cgt c (8303 : Int32) 8303 (by decide) (by omega)), if_neg (own_cnlt c (8592 : Int32) 8592 (by decide) (by omega)), if_pos (own_cgt c (11263 : Int32) 11263 (by decide) (by omega)), if_neg (own_cnlt c (12272 : Int32) 12272 (by decide) (by omega)), if_pos (own_cgt c (12288 : Int32) 12288 (by decide) (by omega)), if_neg (own_cnlt c (55296 : Int32) 55296 (by decide) (by omega)), if_pos (own_cgt c (63743 : Int32) 63743 (by decide) (by omega)), if_neg (own_cnlt c (64976 : Int32) 64976 (by decide) (by omega)), if_neg (own_cngt c (65007 : Int32) 65007 (by decide) (by omega))]
  · rw [f1, if_neg (own_cnlt c (128 : Int32) 128 (by decide) (by omega)), if_neg (own_cnlt c (192 : Int32) 192 (by decide) (by omega)), if_pos (own_cgt c (214 : Int32) 214 (by decide) (by omega)), if_neg (own_cnlt c (216 : Int32) 216 (by decide) (by omega)), if_pos (own_cgt c (246 : Int32) 246 (by decide) (by omega)), if_neg (own_cnlt c (248 : Int32) 248 (by decide) (by omega)), if_pos (own_cgt c (767 : Int32) 767 (by decide) (by omega)), if_neg (own_cnlt c (880 : Int32) 880 (by decide) (by omega)), if_pos (own_cgt c (893 : Int32) 893 (by decide) (by omega)), if_neg (own_cnlt c (895 : Int32) 895 (by decide) (by omega)), if_pos (own_cgt c (8191 : Int32) 8191 (by decide) (by omega)), if_neg (own_cnlt c (8204 : Int32) 8204 (by decide) (by omega)), if_pos (own_cgt c (8205 : Int32) 8205 (by decide) (by omega)), if_neg (own_cnlt c (8304 : Int32) 8304 (by decide) (by omega)), if_pos (own_cgt c (8591 : Int32) 8591 (by decide) (by omega)), if_neg (own_cnlt c (11264 : Int32) 11264 (by decide) (by omega)), if_pos (own_cgt c (12271 : Int32) 12271 (by decide) (by omega)), if_neg (own_cnlt c (12289 : Int32) 12289 (by decide) (by omega)), if_pos (own_cgt c (55295 : Int32) 55295 (by decide) (by omega)), if_neg (own_cnlt c (63744 : Int32) 63744 (by decide) (by omega)), if_pos (own_cgt c (64975 : Int32) 64975 (by decide) (by omega)), if_pos (own_clt c (65008 : Int32) 65008 (by decide) (by omega)), f2, if_neg (own_cnlt c (0 : Int32) 0 (by decide) (by omega)), if_neg (own_cngt c (983039 : Int32) 983039 (by decide) (by omega)), if_neg (own_cnlt c (128 : Int32) 128 (by decide) (by omega)), if_pos (own_cgt c (191 : Int32) 191 (by decide) (by omega)), if_neg (own_cisnt c (215 : Int32) 215 (by decide) (by omega)), if_neg (own_cisnt c (247 : Int32) 247 (by decide) (by omega)), if_neg (own_cnlt c (768 : Int32) 768 (by decide) (by omega)), if_pos (own_cgt c (879 : Int32) 879 (by decide) (by omega)), if_neg (own_cisnt c (894 : Int32) 894 (by decide) (by omega)), if_neg (own_cnlt c (8192 : Int32) 8192 (by decide) (by omega)), if_pos (own_cgt c (8203 : Int32) 8203 (by decide) (by omega)), if_neg (own_cnlt c (8206 : Int32) 8206 (by decide) (by omega)), if_pos (own_cgt c (8303 : Int32) 8303 (by decide) (by omega)), if_neg (own_cnlt c (8592 : Int32) 8592 (by decide) (by omega)), if_pos (own_cgt c (11263 : Int32) 11263 (by decide) (by omega)), if_neg (own_cnlt c (12272 : Int32) 12272 (by decide) (by omega)), if_pos (own_cgt c (12288 : Int32) 12288 (by decide) (by omega)), if_neg (own_cnlt c (55296 : Int32) 55296 (by decide) (by omega)), if_pos (own_cgt c (63743 : Int32) 63743 (by decide) (by omega)), if_neg (own_cnlt c (64976 : Int32) 64976 (by decide) (by omega)), if_neg (own_cngt c (65007 : Int32) 65007 (by decide) (by omega))]
  · rw [f1, if_neg (own_cnlt c (128 : Int32) 128 (by decide) (by omega)), if_neg (own_cnlt c (192 : Int32) 192 (by decide) (by omega)), if_pos (own_cgt c (214 : Int32) 214 (by decide) (by omega)), if_neg (own_cnlt c (216 : Int32) 216 (by decide) (by omega)), if_pos (own_cgt c (246 : Int32) 246 (by decide) (by omega)), if_neg (own_cnlt c (248 : Int32) 248 (by decide) (by omega)), if_pos (own_cgt c (767 : Int32) 767 (by decide) (by omega)), if_neg (own_cnlt c (880 : Int32) 880 (by decide) (by omega)), if_pos (own_cgt c (893 : Int32) 893 (by decide) (by omega)), if_neg (own_cnlt c (895 : Int32) 895 (by decide) (by omega)), if_pos (own_cgt c (8191 : Int32) 8191 (by decide) (by omega)), if_neg (own_cnlt c (8204 : Int32) 8204 (by decide) (by omega)), if_pos (own_cgt c (8205 : Int32) 8205 (by decide) (by omega)), if_neg (own_cnlt c (8304 : Int32) 8304 (by decide) (by omega)), if_pos (own_cgt c (8591 : Int32) 8591 (by decide) (by omega)), if_neg (own_cnlt c (11264 : Int32) 11264 (by decide) (by omega)), if_pos (own_cgt c (12271 : Int32) 12271 (by decide) (by omega)), if_neg (own_cnlt c (12289 : Int32) 12289 (by decide) (by omega)), if_pos (own_cgt c (55295 : Int32) 55295 (by decide) (by omega)), if_neg (own_cnlt c (63744 : Int32) 63744 (by decide) (by omega)), if_pos (own_cgt c (64975 : Int32) 64975 (by decide) (by omega)), if_neg (own_cnlt c (65008 : Int32) 65008 (by decide) (by omega)), if_neg (own_cngt c (65533 : Int32) 65533 (by decide) (by omega)), f2, if_neg (own_cnlt c (0 : Int32) 0 (by decide) (by omega)), if_neg (own_cngt c (983039 : Int32) 983039 (by decide) (by omega)), if_neg (own_cnlt c (128 : Int32) 128 (by decide) (by omega)), if_pos (own_cgt c (191 : Int32) 191 (by decide) (by omega)), if_neg (own_cisnt c (215 : Int32) 215 (by decide) (by omega)), if_neg (own_cisnt c (247 : Int32) 247 (by decide) (by omega)), if_neg (own_cnlt c (768 : Int32) 768 (by decide) (by omega)), if_pos (own_cgt c (879 : Int32) 879 (by decide) (by omega)), if_neg (own_cisnt c (894 : Int32) 894 (by decide) (by omega)), if_neg (own_cnlt c (8192 : Int32) 8192 (by decide) (by omega)), if_pos (own_cgt c (8203 : Int32) 8203 (by decide) (by omega)), if_neg (own_cnlt c (8206 : Int32) 8206 (by decide) (by omega)), if_pos (own_cgt c (8303 : Int32) 8303 (by decide) (by omega)), if_neg (own_cnlt c (8592 : Int32) 8592 (by decide) (by omega)), if_pos (own_cgt c (11263 : Int32) 11263 (by decide) (by omega)), if_neg (own_cnlt c (12272 : Int32) 12272 (by decide) (by omega)), if_pos (own_cgt c (12288 : Int32) 12288 (by decide) (by omega)), if_neg (own_cnlt c (55296 : Int32) 55296 (by decide) (by omega)), if_pos (own_cgt c (63743 : Int32) 63743 (by decide) (by omega)), if_neg (own_cnlt c (64976 : Int32) 64976 (by decide) (by omega)), if_pos (own_cgt c (65007 : Int32) 65007 (by decide) (by omega)), if_neg (own_cisnt c (65534 : Int32) 65534 (by decide) (by omega)), if_neg (own_cisnt c (65535 : Int32) 65535 (by decide) (by omega))]
  · rw [f1, if_neg (own_cnlt c (128 : Int32) 128 (by decide) (by omega)), if_neg (own_cnlt c (192 : Int32) 192 (by decide) (by omega)), if_pos (own_cgt c (214 : Int32) 214 (by decide) (by omega)), if_neg (own_cnlt c (216 : Int32) 216 (by decide) (by omega)), if_pos (own_cgt c (246 : Int32) 246 (by decide) (by omega)), if_neg (own_cnlt c (248 : Int32) 248 (by decide) (by omega)), if_pos (own_cgt c (767 : Int32) 767 (by decide) (by omega)), if_neg (own_cnlt c (880 : Int32) 880 (by decide) (by omega)), if_pos (own_cgt c (893 : Int32) 893 (by decide) (by omega)), if_neg (own_cnlt c (895 : Int32) 895 (by decide) (by omega)), if_pos (own_cgt c (8191 : Int32) 8191 (by decide) (by omega)), if_neg (own_cnlt c (8204 : Int32) 8204 (by decide) (by omega)), if_pos (own_cgt c (8205 : Int32) 8205 (by decide) (by omega)), if_neg (own_cnlt c (8304 : Int32) 8304 (by decide) (by omega)), if_pos (own_cgt c (8591 : Int32) 8591 (by decide) (by omega)), if_neg (own_cnlt c (11264 : Int32) 11264 (by decide) (by omega)), if_pos (own_cgt c (12271 : Int32) 12271 (by decide) (by omega)), if_neg (own_cnlt c (12289 : Int32) 12289 (by decide) (by omega)), if_pos (own_cgt c (55295 : Int32) 55295 (by decide) (by omega)), if_neg (own_cnlt c (63744 : Int32) 63744 (by decide) (by omega)), if_pos (own_cgt c (64975 : Int32) 64975 (by decide) (by omega)), if_neg (own_cnlt c (65008 : Int32) 65008 (by decide) (by omega)), if_neg (own_cngt c (65533 : Int32) 65533 (by decide) (by omega)), f2, if_neg (own_cnlt c (0 : Int32) 0 (by decide) (by omega)), if_neg (own_cngt c (983039 : Int32) 983039 (by decide) (by omega)), if_neg (own_cnlt c (128 : Int32) 128 (by decide) (by omega)), if_pos (own_cgt c (191 : Int32) 191 (by decide) (by omega)), if_neg (own_cisnt c (215 : Int32) 215 (by decide) (by omega)), if_neg (own_cisnt c (247 : Int32) 247 (by decide) (by omega)), if_neg (own_cnlt c (768 : Int32) 768 (by decide) (by omega)), if_pos (own_cgt c (879 : Int32) 879 (by decide) (by omega)), if_neg (own_cisnt c (894 : Int32) 894 (by decide) (by omega)), if_neg (own_cnlt c (8192 : Int32) 8192 (by decide) (by omega)), if_pos (own_cgt c (8203 : Int32) 8203 (by decide) (by omega)), if_neg (own_cnlt c (8206 : Int32) 8206 (by decide) (by omega)), if_pos (own_cgt c (8303 : Int32) 8303 (by decide) (by omega)), if_neg (own_cnlt c (8592 : Int32) 8592 (by decide) (by omega)), if_pos (own_cgt c (11263 : Int32) 11263 (by decide) (by omega)), if_neg (own_cnlt c (12272 : Int32) 12272 (by decide) (by omega)), if_pos (own_cgt c (12288 : Int32) 12288 (by decide) (by omega)), if_neg (own_cnlt c (55296 : Int32) 55296 (by decide) (by omega)), if_pos (own_cgt c (63743 : Int32) 63743 (by decide) (by omega)), if_neg (own_cnlt c (64976 : Int32) 64976 (by decide) (by omega)), if_pos (own_cgt c (65007 : Int32) 65007 (by decide) (by omega)), if_neg (own_cisnt c (65534 : Int32) 65534 (by decide) (by omega)), if_neg (own_cisnt c (65535 : Int32) 65535 (by decide) (by omega))]
  · rw [f1, if_neg (own_cnlt c (128 : Int32) 128 (by decide) (by omega)), if_neg (own_cnlt c (192 : Int32) 192 (by decide) (by omega)), if_pos (own_cgt c (214 : Int32) 214 (by decide) (by omega)), if_neg (own_cnlt c (216 : Int32) 216 (by decide) (by omega)), if_pos (own_cgt c (246 : Int32) 246 (by decide) (by omega)), if_neg (own_cnlt c (248 : Int32) 248 (by decide) (by omega)), if_pos (own_cgt c (767 : Int32) 767 (by decide) (by omega)), if_neg (own_cnlt c (880 : Int32) 880 (by decide) (by omega)), if_pos (own_cgt c (893 : Int32) 893 (by decide) (by omega)), if_neg (own_cnlt c (895 : Int32) 895 (by decide) (by omega)), if_pos (own_cgt c (8191 : Int32) 8191 (by decide) (by omega)), if_neg (own_cnlt c (8204 : Int32) 8204 (by decide) (by omega)), if_pos (own_cgt c (8205 : Int32) 8205 (by decide) (by omega)), if_neg (own_cnlt c (8304 : Int32) 8304 (by decide) (by omega)), if_pos (own_cgt c (8591 : Int32) 8591 (by decide) (by omega)), if_neg (own_cnlt c (11264 : Int32) 11264 (by decide) (by omega)), if_pos (own_cgt c (12271 : Int32) 12271 (by decide) (by omega)), if_neg (own_cnlt c (12289 : Int32) 12289 (by decide) (by omega)), if_pos (own_cgt c (55295 : Int32) 55295 (by decide) (by omega)), if_neg (own_cnlt c (63744 : Int32) 63744 (by decide) (by omega)), if_pos (own_cgt c (64975 : Int32) 64975 (by decide) (by omega)), if_neg (own_cnlt c (65008 : Int32) 65008 (by decide) (by omega)), if_neg (own_cngt c (65533 : Int32) 65533 (by decide) (by omega)), f2, if_neg (own_cnlt c (0 : Int32) 0 (by decide) (by omega)), if_neg (own_cngt c (983039 : Int32) 983039 (by decide) (by omega)), if_neg (own_cnlt c (128 : Int32) 128 (by decide) (by omega)), if_pos (own_cgt c (191 : Int32) 191 (by decide) (by omega)), if_neg (own_cisnt c (215 : Int32) 215 (by decide) (by omega)), if_neg (own_cisnt c (247 : Int32) 247 (by decide) (by omega)), if_neg (own_cnlt c (768 : Int32) 768 (by decide) (by omega)), if_pos (own_cgt c (879 : Int32) 879 (by decide) (by omega)), if_neg (own_cisnt c (894 : Int32) 894 (by decide) (by omega)), if_neg (own_cnlt c (8192 : Int32) 8192 (by decide) (by omega)), if_pos (own_cgt c (8203 : Int32) 8203 (by decide) (by omega)), if_neg (own_cnlt c (8206 : Int32) 8206 (by decide) (by omega)), if_pos (own_cgt c (8303 : Int32) 8303 (by decide) (by omega)), if_neg (own_cnlt c (8592 : Int32) 8592 (by decide) (by omega)), if_pos (own_cgt c (11263 : Int32) 11263 (by decide) (by omega)), if_neg (own_cnlt c (12272 : Int32) 12272 (by decide) (by omega)), if_pos (own_cgt c (12288 : Int32) 12288 (by decide) (by omega)), if_neg (own_cnlt c (55296 : Int32) 55296 (by decide) (by omega)), if_pos (own_cgt c (63743 : Int32) 63743 (by decide) (by omega)), if_neg (own_cnlt c (64976 : Int32) 64976 (by decide) (by omega)), if_pos (own_cgt c (65007 : Int32) 65007 (by decide) (by omega)), if_neg (own_cisnt c (65534 : Int32) 65534 (by decide) (by omega)), if_neg (own_cisnt c (65535 : Int32) 65535 (by decide) (by omega))]
  · rw [f1, if_neg (own_cnlt c (128 : Int32) 128 (by decide) (by omega)), if_neg (own_cnlt c (192 : Int32) 192 (by decide) (by omega)), if_pos (own_cgt c (214 : Int32) 214 (by decide) (by omega)), if_neg (own_cnlt c (216 : Int32) 216 (by decide) (by omega)), if_pos (own_cgt c (246 : Int32) 246 (by decide) (by omega)), if_neg (own_cnlt c (248 : Int32) 248 (by decide) (by omega)), if_pos (own_cgt c (767 : Int32) 767 (by decide) (by omega)), if_neg (own_cnlt c (880 : Int32) 880 (by decide) (by omega)), if_pos (own_cgt c (893 : Int32) 893 (by decide) (by omega)), if_neg (own_cnlt c (895 : Int32) 895 (by decide) (by omega)), if_pos (own_cgt c (8191 : Int32) 8191 (by decide) (by omega)), if_neg (own_cnlt c (8204 : Int32) 8204 (by decide) (by omega)), if_pos (own_cgt c (8205 : Int32) 8205 (by decide) (by omega)), if_neg (own_cnlt c (8304 : Int32) 8304 (by decide) (by omega)), if_pos (own_cgt c (8591 : Int32) 8591 (by decide) (by omega)), if_neg (own_cnlt c (11264 : Int32) 11264 (by decide) (by omega)), if_pos (own_cgt c (12271 : Int32) 12271 (by decide) (by omega)), if_neg (own_cnlt c (12289 : Int32) 12289 (by decide) (by omega)), if_pos (own_cgt c (55295 : Int32) 55295 (by decide) (by omega)), if_neg (own_cnlt c (63744 : Int32) 63744 (by decide) (by omega)), if_pos (own_cgt c (64975 : Int32) 64975 (by decide) (by omega)), if_neg (own_cnlt c (65008 : Int32) 65008 (by decide) (by omega)), if_pos (own_cgt c (65533 : Int32) 65533 (by decide) (by omega)), if_pos (own_clt c (65536 : Int32) 65536 (by decide) (by omega)), f2, if_neg (own_cnlt c (0 : Int32) 0 (by decide) (by omega)), if_neg (own_cngt c (983039 : Int32) 983039 (by decide) (by omega)), if_neg (own_cnlt c (128 : Int32) 128 (by decide) (by omega)), if_pos (own_cgt c (191 : Int32) 191 (by decide) (by omega)), if_neg (own_cisnt c (215 : Int32) 215 (by decide) (by omega)), if_neg (own_cisnt c (247 : Int32) 247 (by decide) (by omega)), if_neg (own_cnlt c (768 : Int32) 768 (by decide) (by omega)), if_pos (own_cgt c (879 : Int32) 879 (by decide) (by omega)), if_neg (own_cisnt c (894 : Int32) 894 (by decide) (by omega)), if_neg (own_cnlt c (8192 : Int32) 8192 (by decide) (by omega)), if_pos (own_cgt c (8203 : Int32) 8203 (by decide) (by omega)), if_neg (own_cnlt c (8206 : Int32) 8206 (by decide) (by omega)), if_pos (own_cgt c (8303 : Int32) 8303 (by decide) (by omega)), if_neg (own_cnlt c (8592 : Int32) 8592 (by decide) (by omega)), if_pos (own_cgt c (11263 : Int32) 11263 (by decide) (by omega)), if_neg (own_cnlt c (12272 : Int32) 12272 (by decide) (by omega)), if_pos (own_cgt c (12288 : Int32) 12288 (by decide) (by omega)), if_neg (own_cnlt c (55296 : Int32) 55296 (by decide) (by omega)), if_pos (own_cgt c (63743 : Int32) 63743 (by decide) (by omega)), if_neg (own_cnlt c (64976 : Int32) 64976 (by decide) (by omega)), if_pos (own_cgt c (65007 : Int32) 65007 (by decide) (by omega)), if_pos (own_cis c (65534 : Int32) 65534 (by decide) (by omega))]
  · rw [f1, if_neg (own_cnlt c (128 : Int32) 128 (by decide) (by omega)), if_neg (own_cnlt c (192 : Int32) 192 (by decide) (by omega)), if_pos (own_cgt c (214 : Int32) 214 (by decide) (by omega)), if_neg (own_cnlt c (216 : Int32) 216 (by decide) (by omega)), if_pos (own_cgt c (246 : Int32) 246 (by decide) (by omega)), if_neg (own_cnlt c (248 : Int32) 248 (by decide) (by omega)), if_pos (own_cgt c (767 : Int32) 767 (by decide) (by omega)), if_neg (own_cnlt c (880 : Int32) 880 (by decide) (by omega)), if_pos (own_cgt c (893 : Int32) 893 (by decide) (by omega)), if_neg (own_cnlt c (895 : Int32) 895 (by decide) (by omega)), if_pos (own_cgt c (8191 : Int32) 8191 (by decide) (by omega)), if_neg (own_cnlt c (8204 : Int32) 8204 (by decide) (by omega)), if_pos (own_cgt c (8205 : Int32) 8205 (by decide) (by omega)), if_neg (own_cnlt c (8304 : Int32) 8304 (by decide) (by omega)), if_pos (own_cgt c (8591 : Int32) 8591 (by decide) (by omega)), if_neg (own_cnlt c (11264 : Int32) 11264 (by decide) (by omega)), if_pos (own_cgt c (12271 : Int32) 12271 (by decide) (by omega)), if_neg (own_cnlt c (12289 : Int32) 12289 (by decide) (by omega)), if_pos (own_cgt c (55295 : Int32) 55295 (by decide) (by omega)), if_neg (own_cnlt c (63744 : Int32) 63744 (by decide) (by omega)), if_pos (own_cgt c (64975 : Int32) 64975 (by decide) (by omega)), if_neg (own_cnlt c (65008 : Int32) 65008 (by decide) (by omega)), if_pos (own_cgt c (65533 : Int32) 65533 (by decide) (by omega)), if_pos (own_clt c (65536 : Int32) 65536 (by decide) (by omega)), f2, if_neg (own_cnlt c (0 : Int32) 0 (by decide) (by omega)), if_neg (own_cngt c (983039 : Int32) 983039 (by decide) (by omega)), if_neg (own_cnlt c (128 : Int32) 128 (by decide) (by omega)), if_pos (own_cgt c (191 : Int32) 191 (by decide) (by omega)), if_neg (own_cisnt c (215 : Int32) 215 (by decide) (by omega)), if_neg (own_cisnt c (247 : Int32) 247 (by decide) (by omega)), if_neg (own_cnlt c (768 : Int32) 768 (by decide) (by omega)), if_pos (own_cgt c (879 : Int32) 879 (by decide) (by omega)), if_neg (own_cisnt c (894 : Int32) 894 (by decide) (by omega)), if_neg (own_cnlt c (8192 : Int32) 8192 (by decide) (by omega)), if_pos (own_cgt c (8203 : Int32) 8203 (by decide) (by omega)), if_neg (own_cnlt c (8206 : Int32) 8206 (by decide) (by omega)), if_pos (own_cgt c (8303 : Int32) 8303 (by decide) (by omega)), if_neg (own_cnlt c (8592 : Int32) 8592 (by decide) (by omega)), if_pos (own_cgt c (11263 : Int32) 11263 (by decide) (by omega)), if_neg (own_cnlt c (12272 : Int32) 12272 (by decide) (by omega)), if_pos (own_cgt c (12288 : Int32) 12288 (by decide) (by omega)), if_neg (own_cnlt c (55296 : Int32) 55296 (by decide) (by omega)), if_pos (own_cgt c (63743 : Int32) 63743 (by decide) (by omega)), if_neg (own_cnlt c (64976 : Int32) 64976 (by decide) (by omega)), if_pos (own_cgt c (65007 : Int32) 65007 (by decide) (by omega)), if_neg (own_cisnt c (65534 : Int32) 65534 (by decide) (by omega)), if_pos (own_cis c (65535 : Int32) 65535 (by decide) (by omega))]
  · rw [f1, if_neg (own_cnlt c (128 : Int32) 128 (by decide) (by omega)), if_neg (own_cnlt c (192 : Int32) 192 (by decide) (by omega)), if_pos (own_cgt c (214 : Int32) 214 (by decide) (by omega)), if_neg (own_cnlt c (216 : Int32) 216 (by decide) (by omega)), if_pos (own_cgt c (246 : Int32) 246 (by decide) (by omega)), if_neg (own_cnlt c (248 : Int32) 248 (by decide) (by omega)), if_pos (own_cgt c (767 : Int32) 767 (by decide) (by omega)), if_neg (own_cnlt c (880 : Int32) 880 (by decide) (by omega)), if_pos (own_cgt c (893 : Int32) 893 (by decide) (by omega)), if_neg (own_cnlt c (895 : Int32) 895 (by decide) (by omega)), if_pos (own_cgt c (8191 : Int32) 8191 (by decide) (by omega)), if_neg (own_cnlt c (8204 : Int32) 8204 (by decide) (by omega)), if_pos (own_cgt c (8205 : Int32) 8205 (by decide) (by omega)), if_neg (own_cnlt c (8304 : Int32) 8304 (by decide) (by omega)), if_pos (own_cgt c (8591 : Int32) 8591 (by decide) (by omega)), if_neg (own_cnlt c (11264 : Int32) 11264 (by decide) (by omega)), if_pos (own_cgt c (12271 : Int32) 12271 (by decide) (by omega)), if_neg (own_cnlt c (12289 : Int32) 12289 (by decide) (by omega)), if_pos (own_cgt c (55295 : Int32) 55295 (by decide) (by omega)), if_neg (own_cnlt c (63744 : Int32) 63744 (by decide) (by omega)), if_pos (own_cgt c (64975 : Int32) 64975 (by decide) (by omega)), if_neg (own_cnlt c (65008 : Int32) 65008 (by decide) (by omega)), if_pos (own_cgt c (65533 : Int32) 65533 (by decide) (by omega)), if_neg (own_cnlt c (65536 : Int32) 65536 (by decide) (by omega)), if_neg (own_cngt c (983039 : Int32) 983039 (by decide) (by omega)), f2, if_neg (own_cnlt c (0 : Int32) 0 (by decide) (by omega)), if_neg (own_cngt c (983039 : Int32) 983039 (by decide) (by omega)), if_neg (own_cnlt c (128 : Int32) 128 (by decide) (by omega)), if_pos (own_cgt c (191 : Int32) 191 (by decide) (by omega)), if_neg (own_cisnt c (215 : Int32) 215 (by decide) (by omega)), if_neg (own_cisnt c (247 : Int32) 247 (by decide) (by omega)), if_neg (own_cnlt c (768 : Int32) 768 (by decide) (by omega)), if_pos (own_cgt c (879 : Int32) 879 (by decide) (by omega)), if_neg (own_cisnt c (894 : Int32) 894 (by decide) (by omega)), if_neg (own_cnlt c (8192 : Int32) 8192 (by decide) (by omega)), if_pos (own_cgt c (8203 : Int32) 8203 (by decide) (by omega)), if_neg (own_cnlt c (8206 : Int32) 8206 (by decide) (by omega)), if_pos (own_cgt c (8303 : Int32) 8303 (by decide) (by omega)), if_neg (own_cnlt c (8592 : Int32) 8592 (by decide) (by omega)), if_pos (own_cgt c (11263 : Int32) 11263 (by decide) (by omega)), if_neg (own_cnlt c (12272 : Int32) 12272 (by decide) (by omega)), if_pos (own_cgt c (12288 : Int32) 12288 (by decide) (by omega)), if_neg (own_cnlt c (55296 : Int32) 55296 (by decide) (by omega)), if_pos (own_cgt c (63743 : Int32) 63743 (by decide) (by omega)), if_neg (own_cnlt c (64976 : Int32) 64976 (by decide) (by omega)), if_pos (own_cgt c (65007 : Int32) 65007 (by decide) (by omega)), if_neg (own_cisnt c (65534 : Int32) 65534 (by decide) (by omega)), if_neg (own_cisnt c (65535 : Int32) 65535 (by decide) (by omega))]
  · rw [f1, if_neg (own_cnlt c (128 : Int32) 128 (by decide) (by omega)), if_neg (own_cnlt c (192 : Int32) 192 (by decide) (by omega)), if_pos (own_cgt c (214 : Int32) 214 (by decide) (by omega)), if_neg (own_cnlt c (216 : Int32) 216 (by decide) (by omega)), if_pos (own_cgt c (246 : Int32) 246 (by decide) (by omega)), if_neg (own_cnlt c (248 : Int32) 248 (by decide) (by omega)), if_pos (own_cgt c (767 : Int32) 767 (by decide) (by omega)), if_neg (own_cnlt c (880 : Int32) 880 (by decide) (by omega)), if_pos (own_cgt c (893 : Int32) 893 (by decide) (by omega)), if_neg (own_cnlt c (895 : Int32) 895 (by decide) (by omega)), if_pos (own_cgt c (8191 : Int32) 8191 (by decide) (by omega)), if_neg (own_cnlt c (8204 : Int32) 8204 (by decide) (by omega)), if_pos (own_cgt c (8205 : Int32) 8205 (by decide) (by omega)), if_neg (own_cnlt c (8304 : Int32) 8304 (by decide) (by omega)), if_pos (own_cgt c (8591 : Int32) 8591 (by decide) (by omega)), if_neg (own_cnlt c (11264 : Int32) 11264 (by decide) (by omega)), if_pos (own_cgt c (12271 : Int32) 12271 (by decide) (by omega)), if_neg (own_cnlt c (12289 : Int32) 12289 (by decide) (by omega)), if_pos (own_cgt c (55295 : Int32) 55295 (by decide) (by omega)), if_neg (own_cnlt c (63744 : Int32) 63744 (by decide) (by omega)), if_pos (own_cgt c (64975 : Int32) 64975 (by decide) (by omega)), if_neg (own_cnlt c (65008 : Int32) 65008 (by decide) (by omega)), if_pos (own_cgt c (65533 : Int32) 65533 (by decide) (by omega)), if_neg (own_cnlt c (65536 : Int32) 65536 (by decide) (by omega)), if_neg (own_cngt c (983039 : Int32) 983039 (by decide) (by omega)), f2, if_neg (own_cnlt c (0 : Int32) 0 (by decide) (by omega)), if_neg (own_cngt c (983039 : Int32) 983039 (by decide) (by omega)), if_neg (own_cnlt c (128 : Int32) 128 (by decide) (by omega)), if_pos (own_cgt c (191 : Int32) 191 (by decide) (by omega)), if_neg (own_cisnt c (215 : Int32) 215 (by decide) (by omega)), if_neg (own_cisnt c (247 : Int32) 247 (by decide) (by omega)), if_neg (own_cnlt c (768 : Int32) 768 (by decide) (by omega)), if_pos (own_cgt c (879 : Int32) 879 (by decide) (by omega)), if_neg (own_cisnt c (894 : Int32) 894 (by decide) (by omega)), if_neg (own_cnlt c (8192 : Int32) 8192 (by decide) (by omega)), if_pos (own_cgt c (8203 : Int32) 8203 (by decide) (by omega)), if_neg (own_cnlt c (8206 : Int32) 8206 (by decide) (by omega)), if_pos (own_cgt c (8303 : Int32) 8303 (by decide) (by omega)), if_neg (own_cnlt c (8592 : Int32) 8592 (by decide) (by omega)), if_pos (own_cgt c (11263 : Int32) 11263 (by decide) (by omega)), if_neg (own_cnlt c (12272 : Int32) 12272 (by decide) (by omega)), if_pos (own_cgt c (12288 : Int32) 12288 (by decide) (by omega)), if_neg (own_cnlt c (55296 : Int32) 55296 (by decide) (by omega)), if_pos (own_cgt c (63743 : Int32) 63743 (by decide) (by omega)), if_neg (own_cnlt c (64976 : Int32) 64976 (by decide) (by omega)), if_pos (own_cgt c (65007 : Int32) 65007 (by decide) (by omega)), if_neg (own_cisnt c (65534 : Int32) 65534 (by decide) (by omega)), if_neg (own_cisnt c (65535 : Int32) 65535 (by decide) (by omega))]
  · rw [f1, if_neg (own_cnlt c (128 : Int32) 128 (by decide) (by omega)), if_neg (own_cnlt c (192 : Int32) 192 (by decide) (by omega)), if_pos (own_cgt c (214 : Int32) 214 (by decide) (by omega)), if_neg (own_cnlt c (216 : Int32) 216 (by decide) (by omega)), if_pos (own_cgt c (246 : Int32) 246 (by decide) (by omega)), if_neg (own_cnlt c (248 : Int32) 248 (by decide) (by omega)), if_pos (own_cgt c (767 : Int32) 767 (by decide) (by omega)), if_neg (own_cnlt c (880 : Int32) 880 (by decide) (by omega)), if_pos (own_cgt c (893 : Int32) 893 (by decide) (by omega)), if_neg (own_cnlt c (895 : Int32) 895 (by decide) (by omega)), if_pos (own_cgt c (8191 : Int32) 8191 (by decide) (by omega)), if_neg (own_cnlt c (8204 : Int32) 8204 (by decide) (by omega)), if_pos (own_cgt c (8205 : Int32) 8205 (by decide) (by omega)), if_neg (own_cnlt c (8304 : Int32) 8304 (by decide) (by omega)), if_pos (own_cgt c (8591 : Int32) 8591 (by decide) (by omega)), if_neg (own_cnlt c (11264 : Int32) 11264 (by decide) (by omega)), if_pos (own_cgt c (12271 : Int32) 12271 (by decide) (by omega)), if_neg (own_cnlt c (12289 : Int32) 12289 (by decide) (by omega)), if_pos (own_cgt c (55295 : Int32) 55295 (by decide) (by omega)), if_neg (own_cnlt c (63744 : Int32) 63744 (by decide) (by omega)), if_pos (own_cgt c (64975 : Int32) 64975 (by decide) (by omega)), if_neg (own_cnlt c (65008 : Int32) 65008 (by decide) (by omega)), if_pos (own_cgt c (65533 : Int32) 65533 (by decide) (by omega)), if_neg (own_cnlt c (65536 : Int32) 65536 (by decide) (by omega)), if_neg (own_cngt c (983039 : Int32) 983039 (by decide) (by omega)), f2, if_neg (own_cnlt c (0 : Int32) 0 (by decide) (by omega)), if_neg (own_cngt c (983039 : Int32) 983039 (by decide) (by omega)), if_neg (own_cnlt c (128 : Int32) 128 (by decide) (by omega)), if_pos (own_cgt c (191 : Int32) 191 (by decide) (by omega)), if_neg (own_cisnt c (215 : Int32) 215 (by decide) (by omega)), if_neg (own_cisnt c (247 : Int32) 247 (by decide) (by omega)), if_neg (own_cnlt c (768 : Int32) 768 (by decide) (by omega)), if_pos (own_cgt c (879 : Int32) 879 (by decide) (by omega)), if_neg (own_cisnt c (894 : Int32) 894 (by decide) (by omega)), if_neg (own_cnlt c (8192 : Int32) 8192 (by decide) (by omega)), if_pos (own_cgt c (8203 : Int32) 8203 (by decide) (by omega)), if_neg (own_cnlt c (8206 : Int32) 8206 (by decide) (by omega)), if_pos (own_cgt c (8303 : Int32) 8303 (by decide) (by omega)), if_neg (own_cnlt c (8592 : Int32) 8592 (by decide) (by omega)), if_pos (own_cgt c (11263 : Int32) 11263 (by decide) (by omega)), if_neg (own_cnlt c (12272 : Int32) 12272 (by decide) (by omega)), if_pos (own_cgt c (12288 : Int32) 12288 (by decide) (by omega)), if_neg (own_cnlt c (55296 : Int32) 55296 (by decide) (by omega)), if_pos (own_cgt c (63743 : Int32) 63743 (by decide) (by omega)), if_neg (own_cnlt c (64976 : Int32) 64976 (by decide) (by omega)), if_pos (own_cgt c (65007 : Int32) 65007 (by decide) (by omega)), if_neg (own_cisnt c (65534 : Int32) 65534 (by decide) (by omega)), if_neg (own_cisnt c (65535 : Int32) 65535 (by decide) (by omega))]
  · rw [f1, if_neg (own_cnlt c (128 : Int32) 128 (by decide) (by omega)), if_neg (own_cnlt c (192 : Int32) 192 (by decide) (by omega)), if_pos (own_cgt c (214 : Int32) 214 (by decide) (by omega)), if_neg (own_cnlt c (216 : Int32) 216 (by decide) (by omega)), if_pos (own_cgt c (246 : Int32) 246 (by decide) (by omega)), if_neg (own_cnlt c (248 : Int32) 248 (by decide) (by omega)), if_pos (own_cgt c (767 : Int32) 767 (by decide) (by omega)), if_neg (own_cnlt c (880 : Int32) 880 (by decide) (by omega)), if_pos (own_cgt c (893 : Int32) 893 (by decide) (by omega)), if_neg (own_cnlt c (895 : Int32) 895 (by decide) (by omega)), if_pos (own_cgt c (8191 : Int32) 8191 (by decide) (by omega)), if_neg (own_cnlt c (8204 : Int32) 8204 (by decide) (by omega)), if_pos (own_cgt c (8205 : Int32) 8205 (by decide) (by omega)), if_neg (own_cnlt c (8304 : Int32) 8304 (by decide) (by omega)), if_pos (own_cgt c (8591 : Int32) 8591 (by decide) (by omega)), if_neg (own_cnlt c (11264 : Int32) 11264 (by decide) (by omega)), if_pos (own_cgt c (12271 : Int32) 12271 (by decide) (by omega)), if_neg (own_cnlt c (12289 : Int32) 12289 (by decide) (by omega)), if_pos (own_cgt c (55295 : Int32) 55295 (by decide) (by omega)), if_neg (own_cnlt c (63744 : Int32) 63744 (by decide) (by omega)), if_pos (own_cgt c (64975 : Int32) 64975 (by decide) (by omega)), if_neg (own_cnlt c (65008 : Int32) 65008 (by decide) (by omega)), if_pos (own_cgt c (65533 : Int32) 65533 (by decide) (by omega)), if_neg (own_cnlt c (65536 : Int32) 65536 (by decide) (by omega)), if_pos (own_cgt c (983039 : Int32) 983039 (by decide) (by omega)), f2, if_neg (own_cnlt c (0 : Int32) 0 (by decide) (by omega)), if_pos (own_cgt c (983039 : Int32) 983039 (by decide) (by omega))]
theorem own_idx (x : Int32) : ¬ ((x &&& (2147483647 : Int32)) - ((x &&& (2147483647 : Int32)) / (34 : Int32)) * (34 : Int32)) < 0 ∧ ((x &&& (2147483647 : Int32)) - ((x &&& (2147483647 : Int32)) / (34 : Int32)) * (34 : Int32)) < (34 : Int32) := by
  have h1 : (x &&& 2147483647).toInt = x.toInt % 2147483648 := c_mask x 2147483647 31 (by decide) (by decide)
  have h2 := (c_irem (x &&& 2147483647) 34 34 (by decide)).1 (by omega)
  have e0 : (0 : Int32).toInt = 0 := by decide
  have en : (34 : Int32).toInt = 34 := by decide
  rw [irem_eq_mod, Int32.lt_iff_toInt_lt, Int32.lt_iff_toInt_lt, e0, en]
  omega
def Q0 (Z : State) (p0 : Int32) (p1 : Int32) (p2 : Int32) (t1 : Addr) (F1 : Nat → Int32) (h0 : Heap) (n0 : Nat) (v : Option Value) (h : Heap) (L : List Loc) : Prop := v = some (.int (1 : Int32)) ∧ Fr n0 L
set_option maxRecDepth 65536 in
set_option maxHeartbeats 40000000 in
theorem rm0 (l : Launch) (Z : State) (a0 : Array Value) (hw : ∀ d ∈ tables_1, d.before a0 Z = true) (ws : List Jvm.Cond) (p0 : Int32) (p1 : Int32) (p2 : Int32) (t1 : Addr) (F1 : Nat → Int32) (h0 : Heap) (n0 : Nat) (Z0 : n0 ≤ h0.size) (S_NAME_START : Sta Z h0 "com/example/cuttlefish/cuttlefish/xml/XmlNames" "NAME_START" "[Z" (.ref t1)) (V_t1 : own_AI Z h0 t1 .boolean (128 : Int32) F1) (hF : ∀ j : Int32, ¬ j < 0 → j < (128 : Int32) → (own_P j.toInt → F1 j.toNatClampNeg = 1) ∧ (¬ own_P j.toInt → F1 j.toNatClampNeg = 0)) :
    MetFree l x (head1 (Jvm.Cond.code x code maxLocals ret :: ws) room_1) (fun a U => a = #[(.int p0), (.int p1), (.int p2)] ∧ Z.Warmed39 U.vm ∧ U.heap = h0) (fun _ _ _ _ _ => True) (fun _ U o U' => ∃ v L, o = .returned v ∧ Q0 Z p0 p1 p2 t1 F1 h0 n0 v U'.heap L ∧ FrameEnd U o U' L room_1.cells room_1.slots) := by
  refine MetFree.of_bodySF (plainFor_of_name pn_0) hisR ?_
  intro p e s m args below meth c s₁ Bd hml0 hP hK
  obtain ⟨rfl, hZ, hh⟩ := hP
  have hx := Bd.exec
  have hby := Bd.bytes
  have hml : c.maxLocals = 6 := hml0
  have hown : s.vm.findClass "com/example/cuttlefish/cuttlefish/xml/XmlNamesIsNameStartPinLaw" = some m.cls := findClass_of_methodNamed Bd.named
  have hnm := (name_of_methodNamed Bd.named Bd.method).1
  have X0 : Stand p l e room_1 s m #[(.int p0), (.int p1), (.int p2)] below meth c s₁ [] 0 0 := Stand.of_body Bd
  have e0 : s₁.heap = h0 := by rw [← hh, Bd.state]; rfl
  have N0 := Fr.nil n0
  have pre0 : ∀ t, Steps p.tables e below (s₁.setTop (mkF m 0 #[.val (.int p0), .val (.int p1), .val (.int p2), .unset, .unset, .unset] [])) t → Steps p.tables e below (s₁.setTop (entryFrame m #[(.int p0), (.int p1), (.int p2)] maxLocals)) t := fun t k => castTop (ef_0 m p0 p1 p2) k
  obtain ⟨T1, h1, k1, X1, e1, E1, A1, st1⟩ := newP X0 hx hZ (hw _ (List.mem_of_getElem? (i := 0) rfl)) e0 (g := (mkF m 2 #[.val (.int p0), .val (.int p1), .val (.int p2), .unset, .unset, .unset] [(.int (34 : Int32))])) rfl (hb hby at_2) rfl (by decide) (cap := 34) (by decide) (by decide) (by decide) (by decide)
  obtain ⟨b1, g1⟩ : ∃ z, z = h0.size := ⟨_, rfl⟩
  rw [← g1] at A1 st1
  have g_b1 : n0 ≤ b1 := Nat.le_trans Z0 (Nat.le_of_eq g1.symm)
  have sz_b1 : h0.size ≤ b1 := Nat.le_trans (Keep.refl h0 []).1 (Nat.le_of_eq g1.symm)
  have ne_t1_b1 : t1 ≠ b1 := Nat.ne_of_lt (Nat.lt_of_lt_of_le V_t1.lt (Nat.le_of_eq g1.symm))
  have K2 : Keep h0 h1 [] := (Keep.refl h0 []).ext E1
  have Z3 : n0 ≤ h1.size := Nat.le_trans Z0 K2.1
  have V_b1 : own_AI Z h1 b1 .int (34 : Int32) (fun _ => 0) := own_AI.new A1 (by decide) rfl
  obtain ⟨cl4, Ar4, Sz4, Nn4, Hs4⟩ := id V_b1
  have hin4 : ¬ ((0 : Int32) < 0 ∨ cl4.slots.size ≤ ((0 : Int32)).toNatClampNeg) := inb_of Sz4 ⟨by decide, by decide⟩
  obtain ⟨T5, h5, X5, e5, W5, st5⟩ := stI X1 hx hZ e1 Ar4 (j := (0 : Int32)) hin4 (g := (mkF m 7 #[.val (.int p0), .val (.int p1), .val (.int p2), .unset, .unset, .unset] [(.int (0 : Int32)), (.int (0 : Int32)), (.ref b1), (.ref b1)])) rfl rfl (hb hby at_7)
  have V5 : own_AI Z h5 b1 .int (34 : Int32) (own_upd (fun _ => 0) 0 (0 : Int32)) := own_AI.set V_b1 rfl W5
  obtain ⟨F5, V5⟩ : ∃ F, own_AI Z h5 b1 .int (34 : Int32) F := ⟨_, V5⟩
  have K6 : Keep h0 h5 [] := K2.wr W5 (Or.inr sz_b1)
  have Z7 : n0 ≤ h5.size := Nat.le_trans Z0 K6.1
  have N5 := Fr.snoc X5 N0 g_b1
  obtain ⟨LS5, X5, N5⟩ : ∃ L, Stand p l e room_1 s m #[(.int p0), (.int p1), (.int p2)] below meth c T5 L 1 34 ∧ Fr n0 L := ⟨_, X5, N5⟩
  obtain ⟨cl8, Ar8, Sz8, Nn8, Hs8⟩ := id V5
  have hin8 : ¬ ((1 : Int32) < 0 ∨ cl8.slots.size ≤ ((1 : Int32)).toNatClampNeg) := inb_of Sz8 ⟨by decide, by decide⟩
  obtain ⟨T9, h9, X9, e9, W9, st9⟩ := stI X5 hx hZ e5 Ar8 (j := (1 : Int32)) hin8 (g := (mkF m 12 #[.val (.int p0), .val (.int p1), .val (.int p2), .unset, .unset, .unset] [(.int (58 : Int32)), (.int (1 : Int32)), (.ref b1), (.ref b1)])) rfl rfl (hb hby at_12)
  have V9 : own_AI Z h9 b1 .int (34 : Int32) (own_upd F5 1 (58 : Int32)) := own_AI.set V5 rfl W9
  obtain ⟨F9, V9⟩ : ∃ F, own_AI Z h9 b1 .int (34 : Int32) F := ⟨_, V9⟩
  have K10 : Keep h0 h9 [] := K6.wr W9 (Or.inr sz_b1)
  have Z11 : n0 ≤ h9.size := Nat.le_trans Z0 K10.1
  have N9 := Fr.snoc X9 N5 g_b1
  obtain ⟨LS9, X9, N9⟩ : ∃ L, Stand p l e room_1 s m #[(.int p0), (.int p1), (.int p2)] below meth c T9 L 1 34 ∧ Fr n0 L := ⟨_, X9, N9⟩
  obtain ⟨cl12, Ar12, Sz12, Nn12, Hs12⟩ := id V9
  have hin12 : ¬ ((2 : Int32) < 0 ∨ cl12.slots.size ≤ ((2 : Int32)).toNatClampNeg) := inb_of Sz12 ⟨by decide, by decide⟩
  obtain ⟨T13, h13, X13, e13, W13, st13⟩ := stI X9 hx hZ e9 Ar12 (j := (2 : Int32)) hin12 (g := (mkF m 17 #[.val (.int p0), .val (.int p1), .val (.int p2), .unset, .unset, .unset] [(.int (65 : Int32)), (.int (2 : Int32)), (.ref b1), (.ref b1)])) rfl rfl (hb hby at_17)
  have V13 : own_AI Z h13 b1 .int (34 : Int32) (own_upd F9 2 (65 : Int32)) := own_AI.set V9 rfl W13
  obtain ⟨F13, V13⟩ : ∃ F, own_AI Z h13 b1 .int (34 : Int32) F := ⟨_, V13⟩
  have K14 : Keep h0 h13 [] := K10.wr W13 (Or.inr sz_b1)
  have Z15 : n0 ≤ h13.size := Nat.le_trans Z0 K14.1
  have N13 := Fr.snoc X13 N9 g_b1
  obtain ⟨LS13, X13, N13⟩ : ∃ L, Stand p l e room_1 s m #[(.int p0), (.int p1), (.int p2)] below meth c T13 L 1 34 ∧ Fr n0 L := ⟨_, X13, N13⟩
  obtain ⟨cl16, Ar16, Sz16, Nn16, Hs16⟩ := id V13
  have hin16 : ¬ ((3 : Int32) < 0 ∨ cl16.slots.size ≤ ((3 : Int32)).toNatClampNeg) := inb_of Sz16 ⟨by decide, by decide⟩
  obtain ⟨T17, h17, X17, e17, W17, st17⟩ := stI X13 hx hZ e13 Ar16 (j := (3 : Int32)) hin16 (g := (mkF m 22 #[.val (.int p0), .val (.int p1), .val (.int p2), .unset, .unset, .unset] [(.int (90 : Int32)), (.int (3 : Int32)), (.ref b1), (.ref b1)])) rfl rfl (hb hby at_22)
  have V17 : own_AI Z h17 b1 .int (34 : Int32) (own_upd F13 3 (90 : Int32)) := own_AI.set V13 rfl W17
  obtain ⟨F17, V17⟩ : ∃ F, own_AI Z h17 b1 .int (34 : Int32) F := ⟨_, V17⟩
  have K18 : Keep h0 h17 [] := K14.wr W17 (Or.inr sz_b1)
  have Z19 : n0 ≤ h17.size := Nat.le_trans Z0 K18.1
  have N17 := Fr.snoc X17 N13 g_b1
  obtain ⟨LS17, X17, N17⟩ : ∃ L, Stand p l e room_1 s m #[(.int p0), (.int p1), (.int p2)] below meth c T17 L 1 34 ∧ Fr n0 L := ⟨_, X17, N17⟩
  obtain ⟨cl20, Ar20, Sz20, Nn20, Hs20⟩ := id V17
  have hin20 : ¬ ((4 : Int32) < 0 ∨ cl20.slots.size ≤ ((4 : Int32)).toNatClampNeg) := inb_of Sz20 ⟨by decide, by decide⟩
  obtain ⟨T21, h21, X21, e21, W21, st21⟩ := stI X17 hx hZ e17 Ar20 (j := (4 : Int32)) hin20 (g := (mkF m 27 #[.val (.int p0), .val (.int p1), .val (.int p2), .unset, .unset, .unset] [(.int (95 : Int32)), (.int (4 : Int32)), (.ref b1), (.ref b1)])) rfl rfl (hb hby at_27)
  have V21 : own_AI Z h21 b1 .int (34 : Int32) (own_upd F17 4 (95 : Int32)) := own_AI.set V17 rfl W21
  obtain ⟨F21, V21⟩ : ∃ F, own_AI Z h21 b1 .int (34 : Int32) F := ⟨_, V21⟩
  have K22 : Keep h0 h21 [] := K18.wr W21 (Or.inr sz_b1)
  have Z23 : n0 ≤ h21.size := Nat.le_trans Z0 K22.1
  have N21 := Fr.snoc X21 N17 g_b1
  obtain ⟨LS21, X21, N21⟩ : ∃ L, Stand p l e room_1 s m #[(.int p0), (.int p1), (.int p2)] below meth c T21 L 1 34 ∧ Fr n0 L := ⟨_, X21, N21⟩
  obtain ⟨cl24, Ar24, Sz24, Nn24, Hs24⟩ := id V21
  have hin24 : ¬ ((5 : Int32) < 0 ∨ cl24.slots.size ≤ ((5 : Int32)).toNatClampNeg) := inb_of Sz24 ⟨by decide, by decide⟩
  obtain ⟨T25, h25, X25, e25, W25, st25⟩ := stI X21 hx hZ e21 Ar24 (j := (5 : Int32)) hin24 (g := (mkF m 32 #[.val (.int p0), .val (.int p1), .val (.int p2), .unset, .unset, .unset] [(.int (97 : Int32)), (.int (5 : Int32)), (.ref b1), (.ref b1)])) rfl rfl (hb hby at_32)
  have V25 : own_AI Z h25 b1 .int (34 : Int32) (own_upd F21 5 (97 : Int32)) := own_AI.set V21 rfl W25
  obtain ⟨F25, V25⟩ : ∃ F, own_AI Z h25 b1 .int (34 : Int32) F := ⟨_, V25⟩
  have K26 : Keep h0 h25 [] := K22.wr W25 (Or.inr sz_b1)
  have Z27 : n0 ≤ h25.size := Nat.le_trans Z0 K26.1
  have N25 := Fr.snoc X25 N21 g_b1
  obtain ⟨LS25, X25, N25⟩ : ∃ L, Stand p l e room_1 s m #[(.int p0), (.int p1), (.int p2)] below meth c T25 L 1 34 ∧ Fr n0 L := ⟨_, X25, N25⟩
  obtain ⟨cl28, Ar28, Sz28, Nn28, Hs28⟩ := id V25
  have hin28 : ¬ ((6 : Int32) < 0 ∨ cl28.slots.size ≤ ((6 : Int32)).toNatClampNeg) := inb_of Sz28 ⟨by decide, by decide⟩
  obtain ⟨T29, h29, X29, e29, W29, st29⟩ := stI X25 hx hZ e25 Ar28 (j := (6 : Int32)) hin28 (g := (mkF m 38 #[.val (.int p0), .val (.int p1), .val (.int p2), .unset, .unset, .unset] [(.int (122 : Int32)), (.int (6 : Int32)), (.ref b1), (.ref b1)])) rfl rfl (hb hby at_38)
  have V29 : own_AI Z h29 b1 .int (34 : Int32) (own_upd F25 6 (122 : Int32)) := own_AI.set V25 rfl W29
  obtain ⟨F29, V29⟩ : ∃ F, own_AI Z h29 b1 .int (34 : Int32) F := ⟨_, V29⟩
  have K30 : Keep h0 h29 [] := K26.wr W29 (Or.inr sz_b1)
  have Z31 : n0 ≤ h29.size := Nat.le_trans Z0 K30.1
  have N29 := Fr.snoc X29 N25 g_b1
  obtain ⟨LS29, X29, N29⟩ : ∃ L, Stand p l e room_1 s m #[(.int p0), (.int p1), (.int p2)] below meth c T29 L 1 34 ∧ Fr n0 L := ⟨_, X29, N29⟩
  obtain ⟨cl32, Ar32, Sz32, Nn32, Hs32⟩ := id V29
  have hin32 : ¬ ((7 : Int32) < 0 ∨ cl32.slots.size ≤ ((7 : Int32)).toNatClampNeg) := inb_of Sz32 ⟨by decide, by decide⟩
  obtain ⟨T33, h33, X33, e33, W33, st33⟩ := stI X29 hx hZ e29 Ar32 (j := (7 : Int32)) hin32 (g := (mkF m 45 #[.val (.int p0), .val (.int p1), .val (.int p2), .unset, .unset, .unset] [(.int (128 : Int32)), (.int (7 : Int32)), (.ref b1), (.ref b1)])) rfl rfl (hb hby at_45)
  have V33 : own_AI Z h33 b1 .int (34 : Int32) (own_upd F29 7 (128 : Int32)) := own_AI.set V29 rfl W33
  obtain ⟨F33, V33⟩ : ∃ F, own_AI Z h33 b1 .int (34 : Int32) F := ⟨_, V33⟩
  have K34 : Keep h0 h33 [] := K30.wr W33 (Or.inr sz_b1)
  have Z35 : n0 ≤ h33.size := Nat.le_trans Z0 K34.1
  have N33 := Fr.snoc X33 N29 g_b1
  obtain ⟨LS33, X33, N33⟩ : ∃ L, Stand p l e room_1 s m #[(.int p0), (.int p1), (.int p2)] below meth c T33 L 1 34 ∧ Fr n0 L := ⟨_, X33, N33⟩
  obtain ⟨cl36, Ar36, Sz36, Nn36, Hs36⟩ := id V33
  have hin36 : ¬ ((8 : Int32) < 0 ∨ cl36.slots.size ≤ ((8 : Int32)).toNatClampNeg) := inb_of Sz36 ⟨by decide, by decide⟩
  obtain ⟨T37, h37, X37, e37, W37, st37⟩ := stI X33 hx hZ e33 Ar36 (j := (8 : Int32)) hin36 (g := (mkF m 52 #[.val (.int p0), .val (.int p1), .val (.int p2), .unset, .unset, .unset] [(.int (192 : Int32)), (.int (8 : Int32)), (.ref b1), (.ref b1)])) rfl rfl (hb hby at_52)
  have V37 : own_AI Z h37 b1 .int (34 : Int32) (own_upd F33 8 (192 : Int32)) := own_AI.set V33 rfl W37
  obtain ⟨F37, V37⟩ : ∃ F, own_AI Z h37 b1 .int (34 : Int32) F := ⟨_, V37⟩
  have K38 : Keep h0 h37 [] := K34.wr W37 (Or.inr sz_b1)
  have Z39 : n0 ≤ h37.size := Nat.le_trans Z0 K38.1
  have N37 := Fr.snoc X37 N33 g_b1
  obtain ⟨LS37, X37, N37⟩ : ∃ L, Stand p l e room_1 s m #[(.int p0), (.int p1), (.int p2)] below meth c T37 L 1 34 ∧ Fr n0 L := ⟨_, X37, N37⟩
  obtain ⟨cl40, Ar40, Sz40, Nn40, Hs40⟩ := id V37
  have hin40 : ¬ ((9 : Int32) < 0 ∨ cl40.slots.size ≤ ((9 : Int32)).toNatClampNeg) := inb_of Sz40 ⟨by decide, by decide⟩
  obtain ⟨T41, h41, X41, e41, W41, st41⟩ := stI X37 hx hZ e37 Ar40 (j := (9 : Int32)) hin40 (g := (mkF m 59 #[.val (.int p0), .val (.int p1), .val (.int p2), .unset, .unset, .unset] [(.int (214 : Int32)), (.int (9 : Int32)), (.ref b1), (.ref b1)])) rfl rfl (hb hby at_59)
  have V41 : own_AI Z h41 b1 .int (34 : Int32) (own_upd F37 9 (214 : Int32)) := own_AI.set V37 rfl W41
  obtain ⟨F41, V41⟩ : ∃ F, own_AI Z h41 b1 .int (34 : Int32) F := ⟨_, V41⟩
  have K42 : Keep h0 h41 [] := K38.wr W41 (Or.inr sz_b1)
  have Z43 : n0 ≤ h41.size := Nat.le_trans Z0 K42.1
  have N41 := Fr.snoc X41 N37 g_b1
  obtain ⟨LS41, X41, N41⟩ : ∃ L, Stand p l e room_1 s m #[(.int p0), (.int p1), (.int p2)] below meth c T41 L 1 34 ∧ Fr n0 L := ⟨_, X41, N41⟩
  obtain ⟨cl44, Ar44, Sz44, Nn44, Hs44⟩ := id V41
  have hin44 : ¬ ((10 : Int32) < 0 ∨ cl44.slots.size ≤ ((10 : Int32)).toNatClampNeg) := inb_of Sz44 ⟨by decide, by decide⟩
  obtain ⟨T45, h45, X45, e45, W45, st45⟩ := stI X41 hx hZ e41 Ar44 (j := (10 : Int32)) hin44 (g := (mkF m 66 #[.val (.int p0), .val (.int p1), .val (.int p2), .unset, .unset, .unset] [(.int (216 : Int32)), (.int (10 : Int32)), (.ref b1), (.ref b1)])) rfl rfl (hb hby at_66)
  have V45 : own_AI Z h45 b1 .int (34 : Int32) (own_upd F41 10 (216 : Int32)) := own_AI.set V41 rfl W45
  obtain ⟨F45, V45⟩ : ∃ F, own_AI Z h45 b1 .int (34 : Int32) F := ⟨_, V45⟩
  have K46 : Keep h0 h45 [] := K42.wr W45 (Or.inr sz_b1)
  have Z47 : n0 ≤ h45.size := Nat.le_trans Z0 K46.1
  have N45 := Fr.snoc X45 N41 g_b1
  obtain ⟨LS45, X45, N45⟩ : ∃ L, Stand p l e room_1 s m #[(.int p0), (.int p1), (.int p2)] below meth c T45 L 1 34 ∧ Fr n0 L := ⟨_, X45, N45⟩
  obtain ⟨cl48, Ar48, Sz48, Nn48, Hs48⟩ := id V45
  have hin48 : ¬ ((11 : Int32) < 0 ∨ cl48.slots.size ≤ ((11 : Int32)).toNatClampNeg) := inb_of Sz48 ⟨by decide, by decide⟩
  obtain ⟨T49, h49, X49, e49, W49, st49⟩ := stI X45 hx hZ e45 Ar48 (j := (11 : Int32)) hin48 (g := (mkF m 73 #[.val (.int p0), .val (.int p1), .val (.int p2), .unset, .unset, .unset] [(.int (246 : Int32)), (.int (11 : Int32)), (.ref b1), (.ref b1)])) rfl rfl (hb hby at_73)
  have V49 : own_AI Z h49 b1 .int (34 : Int32) (own_upd F45 11 (246 : Int32)) := own_AI.set V45 rfl W49
  obtain ⟨F49, V49⟩ : ∃ F, own_AI Z h49 b1 .int (34 : Int32) F := ⟨_, V49⟩
  have K50 : Keep h0 h49 [] := K46.wr W49 (Or.inr sz_b1)
  have Z51 : n0 ≤ h49.size := Nat.le_trans Z0 K50.1
  have N49 := Fr.snoc X49 N45 g_b1
  obtain ⟨LS49, X49, N49⟩ : ∃ L, Stand p l e room_1 s m #[(.int p0), (.int p1), (.int p2)] below meth c T49 L 1 34 ∧ Fr n0 L := ⟨_, X49, N49⟩
  obtain ⟨cl52, Ar52, Sz52, Nn52, Hs52⟩ := id V49
  have hin52 : ¬ ((12 : Int32) < 0 ∨ cl52.slots.size ≤ ((12 : Int32)).toNatClampNeg) := inb_of Sz52 ⟨by decide, by decide⟩
  obtain ⟨T53, h53, X53, e53, W53, st53⟩ := stI X49 hx hZ e49 Ar52 (j := (12 : Int32)) hin52 (g := (mkF m 80 #[.val (.int p0), .val (.int p1), .val (.int p2), .unset, .unset, .unset] [(.int (248 : Int32)), (.int (12 : Int32)), (.ref b1), (.ref b1)])) rfl rfl (hb hby at_80)
  have V53 : own_AI Z h53 b1 .int (34 : Int32) (own_upd F49 12 (248 : Int32)) := own_AI.set V49 rfl W53
  obtain ⟨F53, V53⟩ : ∃ F, own_AI Z h53 b1 .int (34 : Int32) F := ⟨_, V53⟩
  have K54 : Keep h0 h53 [] := K50.wr W53 (Or.inr sz_b1)
  have Z55 : n0 ≤ h53.size := Nat.le_trans Z0 K54.1
  have N53 := Fr.snoc X53 N49 g_b1
  obtain ⟨LS53, X53, N53⟩ : ∃ L, Stand p l e room_1 s m #[(.int p0), (.int p1), (.int p2)] below meth c T53 L 1 34 ∧ Fr n0 L := ⟨_, X53, N53⟩
  obtain ⟨cl56, Ar56, Sz56, Nn56, Hs56⟩ := id V53
  have hin56 : ¬ ((13 : Int32) < 0 ∨ cl56.slots.size ≤ ((13 : Int32)).toNatClampNeg) := inb_of Sz56 ⟨by decide, by decide⟩
  obtain ⟨T57, h57, X57, e57, W57, st57⟩ := stI X53 hx hZ e53 Ar56 (j := (13 : Int32)) hin56 (g := (mkF m 87 #[.val (.int p0), .val (.int p1), .val (.int p2), .unset, .unset, .unset] [(.int (767 : Int32)), (.int (13 : Int32)), (.ref b1), (.ref b1)])) rfl rfl (hb hby at_87)
  have V57 : own_AI Z h57 b1 .int (34 : Int32) (own_upd F53 13 (767 : Int32)) := own_AI.set V53 rfl W57
  obtain ⟨F57, V57⟩ : ∃ F, own_AI Z h57 b1 .int (34 : Int32) F := ⟨_, V57⟩
  have K58 : Keep h0 h57 [] := K54.wr W57 (Or.inr sz_b1)
  have Z59 : n0 ≤ h57.size := Nat.le_trans Z0 K58.1
  have N57 := Fr.snoc X57 N53 g_b1
  obtain ⟨LS57, X57, N57⟩ : ∃ L, Stand p l e room_1 s m #[(.int p0), (.int p1), (.int p2)] below meth c T57 L 1 34 ∧ Fr n0 L := ⟨_, X57, N57⟩
  obtain ⟨cl60, Ar60, Sz60, Nn60, Hs60⟩ := id V57
  have hin60 : ¬ ((14 : Int32) < 0 ∨ cl60.slots.size ≤ ((14 : Int32)).toNatClampNeg) := inb_of Sz60 ⟨by decide, by decide⟩
  obtain ⟨T61, h61, X61, e61, W61, st61⟩ := stI X57 hx hZ e57 Ar60 (j := (14 : Int32)) hin60 (g := (mkF m 94 #[.val (.int p0), .val (.int p1), .val (.int p2), .unset, .unset, .unset] [(.int (880 : Int32)), (.int (14 : Int32)), (.ref b1), (.ref b1)])) rfl rfl (hb hby at_94)
  have V61 : own_AI Z h61 b1 .int (34 : Int32) (own_upd F57 14 (880 : Int32)) := own_AI.set V57 rfl W61
  obtain ⟨F61, V61⟩ : ∃ F, own_AI Z h61 b1 .int (34 : Int32) F := ⟨_, V61⟩
  have K62 : Keep h0 h61 [] := K58.wr W61 (Or.inr sz_b1)
  have Z63 : n0 ≤ h61.size := Nat.le_trans Z0 K62.1
  have N61 := Fr.snoc X61 N57 g_b1
  obtain ⟨LS61, X61, N61⟩ : ∃ L, Stand p l e room_1 s m #[(.int p0), (.int p1), (.int p2)] below meth c T61 L 1 34 ∧ Fr n0 L := ⟨_, X61, N61⟩
  obtain ⟨cl64, Ar64, Sz64, Nn64, Hs64⟩ := id V61
  have hin64 : ¬ ((15 : Int32) < 0 ∨ cl64.slots.size ≤ ((15 : Int32)).toNatClampNeg) := inb_of Sz64 ⟨by decide, by decide⟩
  obtain ⟨T65, h65, X65, e65, W65, st65⟩ := stI X61 hx hZ e61 Ar64 (j := (15 : Int32)) hin64 (g := (mkF m 101 #[.val (.int p0), .val (.int p1), .val (.int p2), .unset, .unset, .unset] [(.int (893 : Int32)), (.int (15 : Int32)), (.ref b1), (.ref b1)])) rfl rfl (hb hby at_101)
  have V65 : own_AI Z h65 b1 .int (34 : Int32) (own_upd F61 15 (893 : Int32)) := own_AI.set V61 rfl W65
  obtain ⟨F65, V65⟩ : ∃ F, own_AI Z h65 b1 .int (34 : Int32) F := ⟨_, V65⟩
  have K66 : Keep h0 h65 [] := K62.wr W65 (Or.inr sz_b1)
  have Z67 : n0 ≤ h65.size := Nat.le_trans Z0 K66.1
  have N65 := Fr.snoc X65 N61 g_b1
  obtain ⟨LS65, X65, N65⟩ : ∃ L, Stand p l e room_1 s m #[(.int p0), (.int p1), (.int p2)] below meth c T65 L 1 34 ∧ Fr n0 L := ⟨_, X65, N65⟩
  obtain ⟨cl68, Ar68, Sz68, Nn68, Hs68⟩ := id V65
  have hin68 : ¬ ((16 : Int32) < 0 ∨ cl68.slots.size ≤ ((16 : Int32)).toNatClampNeg) := inb_of Sz68 ⟨by decide, by decide⟩
  obtain ⟨T69, h69, X69, e69, W69, st69⟩ := stI X65 hx hZ e65 Ar68 (j := (16 : Int32)) hin68 (g := (mkF m 108 #[.val (.int p0), .val (.int p1), .val (.int p2), .unset, .unset, .unset] [(.int (895 : Int32)), (.int (16 : Int32)), (.ref b1), (.ref b1)])) rfl rfl (hb hby at_108)
  have V69 : own_AI Z h69 b1 .int (34 : Int32) (own_upd F65 16 (895 : Int32)) := own_AI.set V65 rfl W69
  obtain ⟨F69, V69⟩ : ∃ F, own_AI Z h69 b1 .int (34 : Int32) F := ⟨_, V69⟩
  have K70 : Keep h0 h69 [] := K66.wr W69 (Or.inr sz_b1)
  have Z71 : n0 ≤ h69.size := Nat.le_trans Z0 K70.1
  have N69 := Fr.snoc X69 N65 g_b1
  obtain ⟨LS69, X69, N69⟩ : ∃ L, Stand p l e room_1 s m #[(.int p0), (.int p1), (.int p2)] below meth c T69 L 1 34 ∧ Fr n0 L := ⟨_, X69, N69⟩
  obtain ⟨cl72, Ar72, Sz72, Nn72, Hs72⟩ := id V69
  have hin72 : ¬ ((17 : Int32) < 0 ∨ cl72.slots.size ≤ ((17 : Int32)).toNatClampNeg) := inb_of Sz72 ⟨by decide, by decide⟩
  obtain ⟨T73, h73, X73, e73, W73, st73⟩ := stI X69 hx hZ e69 Ar72 (j := (17 : Int32)) hin72 (g := (mkF m 115 #[.val (.int p0), .val (.int p1), .val (.int p2), .unset, .unset, .unset] [(.int (8191 : Int32)), (.int (17 : Int32)), (.ref b1), (.ref b1)])) rfl rfl (hb hby at_115)
  have V73 : own_AI Z h73 b1 .int (34 : Int32) (own_upd F69 17 (8191 : Int32)) := own_AI.set V69 rfl W73
  obtain ⟨F73, V73⟩ : ∃ F, own_AI Z h73 b1 .int (34 : Int32) F := ⟨_, V73⟩
  have K74 : Keep h0 h73 [] := K70.wr W73 (Or.inr sz_b1)
  have Z75 : n0 ≤ h73.size := Nat.le_trans Z0 K74.1
  have N73 := Fr.snoc X73 N69 g_b1
  obtain ⟨LS73, X73, N73⟩ : ∃ L, Stand p l e room_1 s m #[(.int p0), (.int p1), (.int p2)] below meth c T73 L 1 34 ∧ Fr n0 L := ⟨_, X73, N73⟩
  obtain ⟨cl76, Ar76, Sz76, Nn76, Hs76⟩ := id V73
  have hin76 : ¬ ((18 : Int32) < 0 ∨ cl76.slots.size ≤ ((18 : Int32)).toNatClampNeg) := inb_of Sz76 ⟨by decide, by decide⟩
  obtain ⟨T77, h77, X77, e77, W77, st77⟩ := stI X73 hx hZ e73 Ar76 (j := (18 : Int32)) hin76 (g := (mkF m 122 #[.val (.int p0), .val (.int p1), .val (.int p2), .unset, .unset, .unset] [(.int (8204 : Int32)), (.int (18 : Int32)), (.ref b1), (.ref b1)])) rfl rfl (hb hby at_122)
  have V77 : own_AI Z h77 b1 .int (34 : Int32) (own_upd F73 18 (8204 : Int32)) := own_AI.set V73 rfl W77
  obtain ⟨F77, V77⟩ : ∃ F, own_AI Z h77 b1 .int (34 : Int32) F := ⟨_, V77⟩
  have K78 : Keep h0 h77 [] := K74.wr W77 (Or.inr sz_b1)
  have Z79 : n0 ≤ h77.size := Nat.le_trans Z0 K78.1
  have N77 := Fr.snoc X77 N73 g_b1
  obtain ⟨LS77, X77, N77⟩ : ∃ L, Stand p l e room_1 s m #[(.int p0), (.int p1), (.int p2)] below meth c T77 L 1 34 ∧ Fr n0 L := ⟨_, X77, N77⟩
  obtain ⟨cl80, Ar80, Sz80, Nn80, Hs80⟩ := id V77
  have hin80 : ¬ ((19 : Int32) < 0 ∨ cl80.slots.size ≤ ((19 : Int32)).toNatClampNeg) := inb_of Sz80 ⟨by decide, by decide⟩
  obtain ⟨T81, h81, X81, e81, W81, st81⟩ := stI X77 hx hZ e77 Ar80 (j := (19 : Int32)) hin80 (g := (mkF m 129 #[.val (.int p0), .val (.int p1), .val (.int p2), .unset, .unset, .unset] [(.int (8205 : Int32)), (.int (19 : Int32)), (.ref b1), (.ref b1)])) rfl rfl (hb hby at_129)
  have V81 : own_AI Z h81 b1 .int (34 : Int32) (own_upd F77 19 (8205 : Int32)) := own_AI.set V77 rfl W81
  obtain ⟨F81, V81⟩ : ∃ F, own_AI Z h81 b1 .int (34 : Int32) F := ⟨_, V81⟩
  have K82 : Keep h0 h81 [] := K78.wr W81 (Or.inr sz_b1)
  have Z83 : n0 ≤ h81.size := Nat.le_trans Z0 K82.1
  have N81 := Fr.snoc X81 N77 g_b1
  obtain ⟨LS81, X81, N81⟩ : ∃ L, Stand p l e room_1 s m #[(.int p0), (.int p1), (.int p2)] below meth c T81 L 1 34 ∧ Fr n0 L := ⟨_, X81, N81⟩
  obtain ⟨cl84, Ar84, Sz84, Nn84, Hs84⟩ := id V81
  have hin84 : ¬ ((20 : Int32) < 0 ∨ cl84.slots.size ≤ ((20 : Int32)).toNatClampNeg) := inb_of Sz84 ⟨by decide, by decide⟩
  obtain ⟨T85, h85, X85, e85, W85, st85⟩ := stI X81 hx hZ e81 Ar84 (j := (20 : Int32)) hin84 (g := (mkF m 136 #[.val (.int p0), .val (.int p1), .val (.int p2), .unset, .unset, .unset] [(.int (8304 : Int32)), (.int (20 : Int32)), (.ref b1), (.ref b1)])) rfl rfl (hb hby at_136)
  have V85 : own_AI Z h85 b1 .int (34 : Int32) (own_upd F81 20 (8304 : Int32)) := own_AI.set V81 rfl W85
  obtain ⟨F85, V85⟩ : ∃ F, own_AI Z h85 b1 .int (34 : Int32) F := ⟨_, V85⟩
  have K86 : Keep h0 h85 [] := K82.wr W85 (Or.inr sz_b1)
  have Z87 : n0 ≤ h85.size := Nat.le_trans Z0 K86.1
  have N85 := Fr.snoc X85 N81 g_b1
  obtain ⟨LS85, X85, N85⟩ : ∃ L, Stand p l e room_1 s m #[(.int p0), (.int p1), (.int p2)] below meth c T85 L 1 34 ∧ Fr n0 L := ⟨_, X85, N85⟩
  obtain ⟨cl88, Ar88, Sz88, Nn88, Hs88⟩ := id V85
  have hin88 : ¬ ((21 : Int32) < 0 ∨ cl88.slots.size ≤ ((21 : Int32)).toNatClampNeg) := inb_of Sz88 ⟨by decide, by decide⟩
  obtain ⟨T89, h89, X89, e89, W89, st89⟩ := stI X85 hx hZ e85 Ar88 (j := (21 : Int32)) hin88 (g := (mkF m 143 #[.val (.int p0), .val (.int p1), .val (.int p2), .unset, .unset, .unset] [(.int (8591 : Int32)), (.int (21 : Int32)), (.ref b1), (.ref b1)])) rfl rfl (hb hby at_143)
  have V89 : own_AI Z h89 b1 .int (34 : Int32) (own_upd F85 21 (8591 : Int32)) := own_AI.set V85 rfl W89
  obtain ⟨F89, V89⟩ : ∃ F, own_AI Z h89 b1 .int (34 : Int32) F := ⟨_, V89⟩
  have K90 : Keep h0 h89 [] := K86.wr W89 (Or.inr sz_b1)
  have Z91 : n0 ≤ h89.size := Nat.le_trans Z0 K90.1
  have N89 := Fr.snoc X89 N85 g_b1
  obtain ⟨LS89, X89, N89⟩ : ∃ L, Stand p l e room_1 s m #[(.int p0), (.int p1), (.int p2)] below meth c T89 L 1 34 ∧ Fr n0 L := ⟨_, X89, N89⟩
  obtain ⟨cl92, Ar92, Sz92, Nn92, Hs92⟩ := id V89
  have hin92 : ¬ ((22 : Int32) < 0 ∨ cl92.slots.size ≤ ((22 : Int32)).toNatClampNeg) := inb_of Sz92 ⟨by decide, by decide⟩
  obtain ⟨T93, h93, X93, e93, W93, st93⟩ := stI X89 hx hZ e89 Ar92 (j := (22 : Int32)) hin92 (g := (mkF m 150 #[.val (.int p0), .val (.int p1), .val (.int p2), .unset, .unset, .unset] [(.int (11264 : Int32)), (.int (22 : Int32)), (.ref b1), (.ref b1)])) rfl rfl (hb hby at_150)
  have V93 : own_AI Z h93 b1 .int (34 : Int32) (own_upd F89 22 (11264 : Int32)) := own_AI.set V89 rfl W93
  obtain ⟨F93, V93⟩ : ∃ F, own_AI Z h93 b1 .int (34 : Int32) F := ⟨_, V93⟩
  have K94 : Keep h0 h93 [] := K90.wr W93 (Or.inr sz_b1)
  have Z95 : n0 ≤ h93.size := Nat.le_trans Z0 K94.1
  have N93 := Fr.snoc X93 N89 g_b1
  obtain ⟨LS93, X93, N93⟩ : ∃ L, Stand p l e room_1 s m #[(.int p0), (.int p1), (.int p2)] below meth c T93 L 1 34 ∧ Fr n0 L := ⟨_, X93, N93⟩
  obtain ⟨cl96, Ar96, Sz96, Nn96, Hs96⟩ := id V93
  have hin96 : ¬ ((23 : Int32) < 0 ∨ cl96.slots.size ≤ ((23 : Int32)).toNatClampNeg) := inb_of Sz96 ⟨by decide, by decide⟩
  obtain ⟨T97, h97, X97, e97, W97, st97⟩ := stI X93 hx hZ e93 Ar96 (j := (23 : Int32)) hin96 (g := (mkF m 157 #[.val (.int p0), .val (.int p1), .val (.int p2), .unset, .unset, .unset] [(.int (12271 : Int32)), (.int (23 : Int32)), (.ref b1), (.ref b1)])) rfl rfl (hb hby at_157)
  have V97 : own_AI Z h97 b1 .int (34 : Int32) (own_upd F93 23 (12271 : Int32)) := own_AI.set V93 rfl W97
  obtain ⟨F97, V97⟩ : ∃ F, own_AI Z h97 b1 .int (34 : Int32) F := ⟨_, V97⟩
  have K98 : Keep h0 h97 [] := K94.wr W97 (Or.inr sz_b1)
  have Z99 : n0 ≤ h97.size := Nat.le_trans Z0 K98.1
  have N97 := Fr.snoc X97 N93 g_b1
  obtain ⟨LS97, X97, N97⟩ : ∃ L, Stand p l e room_1 s m #[(.int p0), (.int p1), (.int p2)] below meth c T97 L 1 34 ∧ Fr n0 L := ⟨_, X97, N97⟩
  obtain ⟨cl100, Ar100, Sz100, Nn100, Hs100⟩ := id V97
  have hin100 : ¬ ((24 : Int32) < 0 ∨ cl100.slots.size ≤ ((24 : Int32)).toNatClampNeg) := inb_of Sz100 ⟨by decide, by decide⟩
  obtain ⟨T101, h101, X101, e101, W101, st101⟩ := stI X97 hx hZ e97 Ar100 (j := (24 : Int32)) hin100 (g := (mkF m 164 #[.val (.int p0), .val (.int p1), .val (.int p2), .unset, .unset, .unset] [(.int (12289 : Int32)), (.int (24 : Int32)), (.ref b1), (.ref b1)])) rfl rfl (hb hby at_164)
  have V101 : own_AI Z h101 b1 .int (34 : Int32) (own_upd F97 24 (12289 : Int32)) := own_AI.set V97 rfl W101
  obtain ⟨F101, V101⟩ : ∃ F, own_AI Z h101 b1 .int (34 : Int32) F := ⟨_, V101⟩
  have K102 : Keep h0 h101 [] := K98.wr W101 (Or.inr sz_b1)
  have Z103 : n0 ≤ h101.size := Nat.le_trans Z0 K102.1
  have N101 := Fr.snoc X101 N97 g_b1
  obtain ⟨LS101, X101, N101⟩ : ∃ L, Stand p l e room_1 s m #[(.int p0), (.int p1), (.int p2)] below meth c T101 L 1 34 ∧ Fr n0 L := ⟨_, X101, N101⟩
  obtain ⟨cl104, Ar104, Sz104, Nn104, Hs104⟩ := id V101
  have hin104 : ¬ ((25 : Int32) < 0 ∨ cl104.slots.size ≤ ((25 : Int32)).toNatClampNeg) := inb_of Sz104 ⟨by decide, by decide⟩
  obtain ⟨T105, h105, X105, e105, W105, st105⟩ := stI X101 hx hZ e101 Ar104 (j := (25 : Int32)) hin104 (g := (mkF m 170 #[.val (.int p0), .val (.int p1), .val (.int p2), .unset, .unset, .unset] [(.int (55295 : Int32)), (.int (25 : Int32)), (.ref b1), (.ref b1)])) rfl rfl (hb hby at_170)
  have V105 : own_AI Z h105 b1 .int (34 : Int32) (own_upd F101 25 (55295 : Int32)) := own_AI.set V101 rfl W105
  obtain ⟨F105, V105⟩ : ∃ F, own_AI Z h105 b1 .int (34 : Int32) F := ⟨_, V105⟩
  have K106 : Keep h0 h105 [] := K102.wr W105 (Or.inr sz_b1)
  have Z107 : n0 ≤ h105.size := Nat.le_trans Z0 K106.1
  have N105 := Fr.snoc X105 N101 g_b1
  obtain ⟨LS105, X105, N105⟩ : ∃ L, Stand p l e room_1 s m #[(.int p0), (.int p1), (.int p2)] below meth c T105 L 1 34 ∧ Fr n0 L := ⟨_, X105, N105⟩
  obtain ⟨cl108, Ar108, Sz108, Nn108, Hs108⟩ := id V105
  have hin108 : ¬ ((26 : Int32) < 0 ∨ cl108.slots.size ≤ ((26 : Int32)).toNatClampNeg) := inb_of Sz108 ⟨by decide, by decide⟩
  obtain ⟨T109, h109, X109, e109, W109, st109⟩ := stI X105 hx hZ e105 Ar108 (j := (26 : Int32)) hin108 (g := (mkF m 176 #[.val (.int p0), .val (.int p1), .val (.int p2), .unset, .unset, .unset] [(.int (63744 : Int32)), (.int (26 : Int32)), (.ref b1), (.ref b1)])) rfl rfl (hb hby at_176)
  have V109 : own_AI Z h109 b1 .int (34 : Int32) (own_upd F105 26 (63744 : Int32)) := own_AI.set V105 rfl W109
  obtain ⟨F109, V109⟩ : ∃ F, own_AI Z h109 b1 .int (34 : Int32) F := ⟨_, V109⟩
  have K110 : Keep h0 h109 [] := K106.wr W109 (Or.inr sz_b1)
  have Z111 : n0 ≤ h109.size := Nat.le_trans Z0 K110.1
  have N109 := Fr.snoc X109 N105 g_b1
  obtain ⟨LS109, X109, N109⟩ : ∃ L, Stand p l e room_1 s m #[(.int p0), (.int p1), (.int p2)] below meth c T109 L 1 34 ∧ Fr n0 L := ⟨_, X109, N109⟩
  obtain ⟨cl112, Ar112, Sz112, Nn112, Hs112⟩ := id V109
  have hin112 : ¬ ((27 : Int32) < 0 ∨ cl112.slots.size ≤ ((27 : Int32)).toNatClampNeg) := inb_of Sz112 ⟨by decide, by decide⟩
  obtain ⟨T113, h113, X113, e113, W113, st113⟩ := stI X109 hx hZ e109 Ar112 (j := (27 : Int32)) hin112 (g := (mkF m 182 #[.val (.int p0), .val (.int p1), .val (.int p2), .unset, .unset, .unset] [(.int (64975 : Int32)), (.int (27 : Int32)), (.ref b1), (.ref b1)])) rfl rfl (hb hby at_182)
  have V113 : own_AI Z h113 b1 .int (34 : Int32) (own_upd F109 27 (64975 : Int32)) := own_AI.set V109 rfl W113
  obtain ⟨F113, V113⟩ : ∃ F, own_AI Z h113 b1 .int (34 : Int32) F := ⟨_, V113⟩
  have K114 : Keep h0 h113 [] := K110.wr W113 (Or.inr sz_b1)
  have Z115 : n0 ≤ h113.size := Nat.le_trans Z0 K114.1
  have N113 := Fr.snoc X113 N109 g_b1
  obtain ⟨LS113, X113, N113⟩ : ∃ L, Stand p l e room_1 s m #[(.int p0), (.int p1), (.int p2)] below meth c T113 L 1 34 ∧ Fr n0 L := ⟨_, X113, N113⟩
  obtain ⟨cl116, Ar116, Sz116, Nn116, Hs116⟩ := id V113
  have hin116 : ¬ ((28 : Int32) < 0 ∨ cl116.slots.size ≤ ((28 : Int32)).toNatClampNeg) := inb_of Sz116 ⟨by decide, by decide⟩
  obtain ⟨T117, h117, X117, e117, W117, st117⟩ := stI X113 hx hZ e113 Ar116 (j := (28 : Int32)) hin116 (g := (mkF m 188 #[.val (.int p0), .val (.int p1), .val (.int p2), .unset, .unset, .unset] [(.int (65008 : Int32)), (.int (28 : Int32)), (.ref b1), (.ref b1)])) rfl rfl (hb hby at_188)
  have V117 : own_AI Z h117 b1 .int (34 : Int32) (own_upd F113 28 (65008 : Int32)) := own_AI.set V113 rfl W117
  obtain ⟨F117, V117⟩ : ∃ F, own_AI Z h117 b1 .int (34 : Int32) F := ⟨_, V117⟩
  have K118 : Keep h0 h117 [] := K114.wr W117 (Or.inr sz_b1)
  have Z119 : n0 ≤ h117.size := Nat.le_trans Z0 K118.1
  have N117 := Fr.snoc X117 N113 g_b1
  obtain ⟨LS117, X117, N117⟩ : ∃ L, Stand p l e room_1 s m #[(.int p0), (.int p1), (.int p2)] below meth c T117 L 1 34 ∧ Fr n0 L := ⟨_, X117, N117⟩
  obtain ⟨cl120, Ar120, Sz120, Nn120, Hs120⟩ := id V117
  have hin120 : ¬ ((29 : Int32) < 0 ∨ cl120.slots.size ≤ ((29 : Int32)).toNatClampNeg) := inb_of Sz120 ⟨by decide, by decide⟩
  obtain ⟨T121, h121, X121, e121, W121, st121⟩ := stI X117 hx hZ e117 Ar120 (j := (29 : Int32)) hin120 (g := (mkF m 194 #[.val (.int p0), .val (.int p1), .val (.int p2), .unset, .unset, .unset] [(.int (65533 : Int32)), (.int (29 : Int32)), (.ref b1), (.ref b1)])) rfl rfl (hb hby at_194)
  have V121 : own_AI Z h121 b1 .int (34 : Int32) (own_upd F117 29 (65533 : Int32)) := own_AI.set V117 rfl W121
  obtain ⟨F121, V121⟩ : ∃ F, own_AI Z h121 b1 .int (34 : Int32) F := ⟨_, V121⟩
  have K122 : Keep h0 h121 [] := K118.wr W121 (Or.inr sz_b1)
  have Z123 : n0 ≤ h121.size := Nat.le_trans Z0 K122.1
  have N121 := Fr.snoc X121 N117 g_b1
  obtain ⟨LS121, X121, N121⟩ : ∃ L, Stand p l e room_1 s m #[(.int p0), (.int p1), (.int p2)] below meth c T121 L 1 34 ∧ Fr n0 L := ⟨_, X121, N121⟩
  obtain ⟨cl124, Ar124, Sz124, Nn124, Hs124⟩ := id V121
  have hin124 : ¬ ((30 : Int32) < 0 ∨ cl124.slots.size ≤ ((30 : Int32)).toNatClampNeg) := inb_of Sz124 ⟨by decide, by decide⟩
  obtain ⟨T125, h125, X125, e125, W125, st125⟩ := stI X121 hx hZ e121 Ar124 (j := (30 : Int32)) hin124 (g := (mkF m 200 #[.val (.int p0), .val (.int p1), .val (.int p2), .unset, .unset, .unset] [(.int (65536 : Int32)), (.int (30 : Int32)), (.ref b1), (.ref b1)])) rfl rfl (hb hby at_200)
  have V125 : own_AI Z h125 b1 .int (34 : Int32) (own_upd F121 30 (65536 : Int32)) := own_AI.set V121 rfl W125
  obtain ⟨F125, V125⟩ : ∃ F, own_AI Z h125 b1 .int (34 : Int32) F := ⟨_, V125⟩
  have K126 : Keep h0 h125 [] := K122.wr W125 (Or.inr sz_b1)
  have Z127 : n0 ≤ h125.size := Nat.le_trans Z0 K126.1
  have N125 := Fr.snoc X125 N121 g_b1
  obtain ⟨LS125, X125, N125⟩ : ∃ L, Stand p l e room_1 s m #[(.int p0), (.int p1), (.int p2)] below meth c T125 L 1 34 ∧ Fr n0 L := ⟨_, X125, N125⟩
  obtain ⟨cl128, Ar128, Sz128, Nn128, Hs128⟩ := id V125
  have hin128 : ¬ ((31 : Int32) < 0 ∨ cl128.slots.size ≤ ((31 : Int32)).toNatClampNeg) := inb_of Sz128 ⟨by decide, by decide⟩
  obtain ⟨T129, h129, X129, e129, W129, st129⟩ := stI X125 hx hZ e125 Ar128 (j := (31 : Int32)) hin128 (g := (mkF m 206 #[.val (.int p0), .val (.int p1), .val (.int p2), .unset, .unset, .unset] [(.int (983039 : Int32)), (.int (31 : Int32)), (.ref b1), (.ref b1)])) rfl rfl (hb hby at_206)
  have V129 : own_AI Z h129 b1 .int (34 : Int32) (own_upd F125 31 (983039 : Int32)) := own_AI.set V125 rfl W129
  obtain ⟨F129, V129⟩ : ∃ F, own_AI Z h129 b1 .int (34 : Int32) F := ⟨_, V129⟩
  have K130 : Keep h0 h129 [] := K126.wr W129 (Or.inr sz_b1)
  have Z131 : n0 ≤ h129.size := Nat.le_trans Z0 K130.1
  have N129 := Fr.snoc X129 N125 g_b1
  obtain ⟨LS129, X129, N129⟩ : ∃ L, Stand p l e room_1 s m #[(.int p0), (.int p1), (.int p2)] below meth c T129 L 1 34 ∧ Fr n0 L := ⟨_, X129, N129⟩
  obtain ⟨cl132, Ar132, Sz132, Nn132, Hs132⟩ := id V129
  have hin132 : ¬ ((32 : Int32) < 0 ∨ cl132.slots.size ≤ ((32 : Int32)).toNatClampNeg) := inb_of Sz132 ⟨by decide, by decide⟩
  obtain ⟨T133, h133, X133, e133, W133, st133⟩ := stI X129 hx hZ e129 Ar132 (j := (32 : Int32)) hin132 (g := (mkF m 212 #[.val (.int p0), .val (.int p1), .val (.int p2), .unset, .unset, .unset] [(.int (2147483647 : Int32)), (.int (32 : Int32)), (.ref b1), (.ref b1)])) rfl rfl (hb hby at_212)
  have V133 : own_AI Z h133 b1 .int (34 : Int32) (own_upd F129 32 (2147483647 : Int32)) := own_AI.set V129 rfl W133
  obtain ⟨F133, V133⟩ : ∃ F, own_AI Z h133 b1 .int (34 : Int32) F := ⟨_, V133⟩
  have K134 : Keep h0 h133 [] := K130.wr W133 (Or.inr sz_b1)
  have Z135 : n0 ≤ h133.size := Nat.le_trans Z0 K134.1
  have N133 := Fr.snoc X133 N129 g_b1
  obtain ⟨LS133, X133, N133⟩ : ∃ L, Stand p l e room_1 s m #[(.int p0), (.int p1), (.int p2)] below meth c T133 L 1 34 ∧ Fr n0 L := ⟨_, X133, N133⟩
  obtain ⟨cl136, Ar136, Sz136, Nn136, Hs136⟩ := id V133
  have hin136 : ¬ ((33 : Int32) < 0 ∨ cl136.slots.size ≤ ((33 : Int32)).toNatClampNeg) := inb_of Sz136 ⟨by decide, by decide⟩
  obtain ⟨T137, h137, X137, e137, W137, st137⟩ := stI X133 hx hZ e133 Ar136 (j := (33 : Int32)) hin136 (g := (mkF m 218 #[.val (.int p0), .val (.int p1), .val (.int p2), .unset, .unset, .unset] [(.int (-2147483648 : Int32)), (.int (33 : Int32)), (.ref b1), (.ref b1)])) rfl rfl (hb hby at_218)
  have V137 : own_AI Z h137 b1 .int (34 : Int32) (own_upd F133 33 (-2147483648 : Int32)) := own_AI.set V133 rfl W137
  obtain ⟨F137, V137⟩ : ∃ F, own_AI Z h137 b1 .int (34 : Int32) F := ⟨_, V137⟩
  have K138 : Keep h0 h137 [] := K134.wr W137 (Or.inr sz_b1)
  have Z139 : n0 ≤ h137.size := Nat.le_trans Z0 K138.1
  have N137 := Fr.snoc X137 N133 g_b1
  obtain ⟨LS137, X137, N137⟩ : ∃ L, Stand p l e room_1 s m #[(.int p0), (.int p1), (.int p2)] below meth c T137 L 1 34 ∧ Fr n0 L := ⟨_, X137, N137⟩
  obtain ⟨cl140, Ar140, Sz140, Nn140, -⟩ := id V137
  obtain ⟨cl141, Ar141, Sz141, Nn141, Hs141⟩ := id V137
  have hin141 : ¬ (((p1 &&& (2147483647 : Int32)) - ((p1 &&& (2147483647 : Int32)) / (34 : Int32)) * (34 : Int32)) < 0 ∨ cl141.slots.size ≤ (((p1 &&& (2147483647 : Int32)) - ((p1 &&& (2147483647 : Int32)) / (34 : Int32)) * (34 : Int32))).toNatClampNeg) := inb_of Sz141 (own_idx _)
  have hat141 : cl141.slots[(((p1 &&& (2147483647 : Int32)) - ((p1 &&& (2147483647 : Int32)) / (34 : Int32)) * (34 : Int32))).toNatClampNeg]? = some (.int (F137 (((p1 &&& (2147483647 : Int32)) - ((p1 &&& (2147483647 : Int32)) / (34 : Int32)) * (34 : Int32))).toNatClampNeg)) := (Hs141 _ (own_lt hin141)).1
  obtain ⟨w141, hw141⟩ : ∃ z, z = (F137 (((p1 &&& (2147483647 : Int32)) - ((p1 &&& (2147483647 : Int32)) / (34 : Int32)) * (34 : Int32))).toNatClampNeg) := ⟨_, rfl⟩
  rw [← hw141] at hat141
  have c143 := (((((((((((((((((((((((((((((((((((S_NAME_START.ext E1).wr W5).wr W9).wr W13).wr W17).wr W21).wr W25).wr W29).wr W33).wr W37).wr W41).wr W45).wr W49).wr W53).wr W57).wr W61).wr W65).wr W69).wr W73).wr W77).wr W81).wr W85).wr W89).wr W93).wr W97).wr W101).wr W105).wr W109).wr W113).wr W117).wr W121).wr W125).wr W129).wr W133).wr W137)
  have c144 := (((((((((((((((((((((((((((((((((((V_t1.ext E1).other W5 ne_t1_b1).other W9 ne_t1_b1).other W13 ne_t1_b1).other W17 ne_t1_b1).other W21 ne_t1_b1).other W25 ne_t1_b1).other W29 ne_t1_b1).other W33 ne_t1_b1).other W37 ne_t1_b1).other W41 ne_t1_b1).other W45 ne_t1_b1).other W49 ne_t1_b1).other W53 ne_t1_b1).other W57 ne_t1_b1).other W61 ne_t1_b1).other W65 ne_t1_b1).other W69 ne_t1_b1).other W73 ne_t1_b1).other W77 ne_t1_b1).other W81 ne_t1_b1).other W85 ne_t1_b1).other W89 ne_t1_b1).other W93 ne_t1_b1).other W97 ne_t1_b1).other W101 ne_t1_b1).other W105 ne_t1_b1).other W109 ne_t1_b1).other W113 ne_t1_b1).other W117 ne_t1_b1).other W121 ne_t1_b1).other W125 ne_t1_b1).other W129 ne_t1_b1).other W133 ne_t1_b1).other W137 ne_t1_b1)
  obtain ⟨_, _, ⟨T142, L142, k142, n142⟩, -, X142, ⟨Lc142, hQ142, l142, y142, z142⟩, st142⟩ := Jvm.LawKit.callS X137 hx (y := (⟨"com/example/cuttlefish/cuttlefish/xml/XmlNames", "isNameStart", "(I)Z"⟩ : MethodName)) hown (mvT hZ (hw _ (List.mem_of_getElem? (i := 11) rfl))) (mvT hZ (hw _ (List.mem_of_getElem? (i := 12) rfl))) (mvT hZ (hw _ (List.mem_of_getElem? (i := 13) rfl))) (mvT hZ (hw _ (List.mem_of_getElem? (i := 14) rfl))) (by decide) (backOf (W := 0) (rm1 l Z a0 hw [] p0 t1 F1 h137 n0 Z139 c143 c144) hZ (hw _ (List.mem_of_getElem? (i := 14) rfl)) (hw _ (List.mem_of_getElem? (i := 13) rfl)) (by decide) (by decide)) (g := (mkF m 247 #[.val (.int p0), .val (.int p1), .val (.int p2), .val (.ref b1), .val (.int (e0_1 p2 w141)), .val (.int (p0 &&& (1048575 : Int32)))] [(.int p0)])) rfl (by rw [hml]; rfl) (argsL := [(.int p0)]) (rest := []) (lenOf pd_0_0 rfl) rfl (by show 2 * 0 + _ ≤ _; exact Nat.le_of_eq rfl) (hb hby at_247) (fun _ _ => ⟨rfl, e137, (by decide : 1 + 0 ≤ _), (by decide : 34 + 0 ≤ _)⟩)
  dsimp only [Pt.U, Pt.locs, Pt.cells, Pt.slots] at X142 l142 y142 z142 st142 hQ142
  subst l142 y142 z142
  obtain ⟨rfl, N142q, e142q⟩ := hQ142
  have N142 := Fr.app N137 N142q
  obtain ⟨_, _, ⟨T145, L145, k145, n145⟩, -, X145, ⟨Lc145, hQ145, l145, y145, z145⟩, st145⟩ := Jvm.LawKit.callS X142 hx (y := (⟨"com/example/cuttlefish/cuttlefish/xml/XmlNamesIsNameStartPinLaw", "ref", "(I)Z"⟩ : MethodName)) hown (mvT hZ (hw _ (List.mem_of_getElem? (i := 17) rfl))) (mvT hZ (hw _ (List.mem_of_getElem? (i := 18) rfl))) (mvT hZ (hw _ (List.mem_of_getElem? (i := 19) rfl))) (mvT hZ (hw _ (List.mem_of_getElem? (i := 20) rfl))) (by decide) (backOf (W := 1) (rm2 l Z a0 hw [] p0 h137 n0 Z139 ) hZ (hw _ (List.mem_of_getElem? (i := 20) rfl)) (hw _ (List.mem_of_getElem? (i := 19) rfl)) (by decide) (by decide)) (g := (mkF m 251 #[.val (.int p0), .val (.int p1), .val (.int p2), .val (.ref b1), .val (.int (e0_1 p2 w141)), .val (.int (p0 &&& (1048575 : Int32)))] [(.int p0), (.int (f1 p0 F1))])) rfl (by rw [hml]; rfl) (argsL := [(.int p0)]) (rest := [(.int (f1 p0 F1))]) (lenOf pd_0_0 rfl) rfl (by show 2 * 0 + _ ≤ _; exact Nat.le_of_eq rfl) (hb hby at_251) (fun _ _ => ⟨rfl, e142q, (by decide : 1 + 0 ≤ _), (by decide : 34 + 0 ≤ _)⟩)
  dsimp only [Pt.U, Pt.locs, Pt.cells, Pt.slots] at X145 l145 y145 z145 st145 hQ145
  subst l145 y145 z145
  obtain ⟨rfl, N145q, e145q⟩ := hQ145
  have N145 := Fr.app N142 N145q
  have pre146 : ∀ t, Steps p.tables e below (T145.setTop (mkF m 254 #[.val (.int p0), .val (.int p1), .val (.int p2), .val (.ref b1), .val (.int (e0_1 p2 w141)), .val (.int (p0 &&& (1048575 : Int32)))] [(.int (f2 p0)), (.int (f1 p0 F1))])) t → Steps p.tables e below (s₁.setTop (entryFrame m #[(.int p0), (.int p1), (.int p2)] maxLocals)) t := fun t kt => pre0 t (by
      show Steps p.tables e below (s₁.setTop (mkF m 0 #[.val (.int p0), .val (.int p1), .val (.int p2), .unset, .unset, .unset] [])) _
      refine XS.bipush X0.here hx rfl (hb hby at_0) ?_
      show Steps p.tables e below (s₁.setTop (mkF m 2 #[.val (.int p0), .val (.int p1), .val (.int p2), .unset, .unset, .unset] [(.int (34 : Int32))])) _
      refine st1 _ ?_
      show Steps p.tables e below (T1.setTop (mkF m 4 #[.val (.int p0), .val (.int p1), .val (.int p2), .unset, .unset, .unset] [(.ref b1)])) _
      refine XS.dup X1.here hx rfl (hb hby at_4) rfl rfl ?_
      show Steps p.tables e below (T1.setTop (mkF m 5 #[.val (.int p0), .val (.int p1), .val (.int p2), .unset, .unset, .unset] [(.ref b1), (.ref b1)])) _
      refine XS.iconst X1.here hx rfl (hb hby at_5) ?_
      show Steps p.tables e below (T1.setTop (mkF m 6 #[.val (.int p0), .val (.int p1), .val (.int p2), .unset, .unset, .unset] [(.int (0 : Int32)), (.ref b1), (.ref b1)])) _
      refine XS.iconst X1.here hx rfl (hb hby at_6) ?_
      show Steps p.tables e below (T1.setTop (mkF m 7 #[.val (.int p0), .val (.int p1), .val (.int p2), .unset, .unset, .unset] [(.int (0 : Int32)), (.int (0 : Int32)), (.ref b1), (.ref b1)])) _
      refine st5 _ ?_
      show Steps p.tables e below (T5.setTop (mkF m 8 #[.val (.int p0), .val (.int p1), .val (.int p2), .unset, .unset, .unset] [(.ref b1)])) _
      refine XS.dup X5.here hx rfl (hb hby at_8) rfl rfl ?_
      show Steps p.tables e below (T5.setTop (mkF m 9 #[.val (.int p0), .val (.int p1), .val (.int p2), .unset, .unset, .unset] [(.ref b1), (.ref b1)])) _
      refine XS.iconst X5.here hx rfl (hb hby at_9) ?_
      show Steps p.tables e below (T5.setTop (mkF m 10 #[.val (.int p0), .val (.int p1), .val (.int p2), .unset, .unset, .unset] [(.int (1 : Int32)), (.ref b1), (.ref b1)])) _
      refine XS.bipush X5.here hx rfl (hb hby at_10) ?_
      show Steps p.tables e below (T5.setTop (mkF m 12 #[.val (.int p0), .val (.int p1), .val (.int p2), .unset, .unset, .unset] [(.int (58 : Int32)), (.int (1 : Int32)), (.ref b1), (.ref b1)])) _
      refine st9 _ ?_
      show Steps p.tables e below (T9.setTop (mkF m 13 #[.val (.int p0), .val (.int p1), .val (.int p2), .unset, .unset, .unset] [(.ref b1)])) _
      refine XS.dup X9.here hx rfl (hb hby at_13) rfl rfl ?_
      show Steps p.tables e below (T9.setTop (mkF m 14 #[.val (.int p0), .val (.int p1), .val (.int p2), .unset, .unset, .unset] [(.ref b1), (.ref b1)])) _
      refine XS.iconst X9.here hx rfl (hb hby at_14) ?_
      show Steps p.tables e below (T9.setTop (mkF m 15 #[.val (.int p0), .val (.int p1), .val (.int p2), .unset, .unset, .unset] [(.int (2 : Int32)), (.ref b1), (.ref b1)])) _
      refine XS.bipush X9.here hx rfl (hb hby at_15) ?_
      show Steps p.tables e below (T9.setTop (mkF m 17 #[.val (.int p0), .val (.int p1), .val (.int p2), .unset, .unset, .unset] [(.int (65 : Int32)), (.int (2 : Int32)), (.ref b1), (.ref b1)])) _
      refine st13 _ ?_
      show Steps p.tables e below (T13.setTop (mkF m 18 #[.val (.int p0), .val (.int p1), .val (.int p2), .unset, .unset, .unset] [(.ref b1)])) _
      refine XS.dup X13.here hx rfl (hb hby at_18) rfl rfl ?_
      show Steps p.tables e below (T13.setTop (mkF m 19 #[.val (.int p0), .val (.int p1), .val (.int p2), .unset, .unset, .unset] [(.ref b1), (.ref b1)])) _
      refine XS.iconst X13.here hx rfl (hb hby at_19) ?_
      show Steps p.tables e below (T13.setTop (mkF m 20 #[.val (.int p0), .val (.int p1), .val (.int p2), .unset, .unset, .unset] [(.int (3 : Int32)), (.ref b1), (.ref b1)])) _
      refine XS.bipush X13.here hx rfl (hb hby at_20) ?_
      show Steps p.tables e below (T13.setTop (mkF m 22 #[.val (.int p0), .val (.int p1), .val (.int p2), .unset, .unset, .unset] [(.int (90 : Int32)), (.int (3 : Int32)), (.ref b1), (.ref b1)])) _
      refine st17 _ ?_
      show Steps p.tables e below (T17.setTop (mkF m 23 #[.val (.int p0), .val (.int p1), .val (.int p2), .unset, .unset, .unset] [(.ref b1)])) _
      refine XS.dup X17.here hx rfl (hb hby at_23) rfl rfl ?_
      show Steps p.tables e below (T17.setTop (mkF m 24 #[.val (.int p0), .val (.int p1), .val (.int p2), .unset, .unset, .unset] [(.ref b1), (.ref b1)])) _
      refine XS.iconst X17.here hx rfl (hb hby at_24) ?_
      show Steps p.tables e below (T17.setTop (mkF m 25 #[.val (.int p0), .val (.int p1), .val (.int p2), .unset, .unset, .unset] [(.int (4 : Int32)), (.ref b1), (.ref b1)])) _
      refine XS.bipush X17.here hx rfl (hb hby at_25) ?_
      show Steps p.tables e below (T17.setTop (mkF m 27 #[.val (.int p0), .val (.int p1), .val (.int p2), .unset, .unset, .unset] [(.int (95 : Int32)), (.int (4 : Int32)), (.ref b1), (.ref b1)])) _
      refine st21 _ ?_
      show Steps p.tables e below (T21.setTop (mkF m 28 #[.val (.int p0), .val (.int p1), .val (.int p2), .unset, .unset, .unset] [(.ref b1)])) _
      refine XS.dup X21.here hx rfl (hb hby at_28) rfl rfl ?_
      show Steps p.tables e below (T21.setTop (mkF m 29 #[.val (.int p0), .val (.int p1), .val (.int p2), .unset, .unset, .unset] [(.ref b1), (.ref b1)])) _
      refine XS.iconst X21.here hx rfl (hb hby at_29) ?_
      show Steps p.tables e below (T21.setTop (mkF m 30 #[.val (.int p0), .val (.int p1), .val (.int p2), .unset, .unset, .unset] [(.int (5 : Int32)), (.ref b1), (.ref b1)])) _
      refine XS.bipush X21.here hx rfl (hb hby at_30) ?_
      show Steps p.tables e below (T21.setTop (mkF m 32 #[.val (.int p0), .val (.int p1), .val (.int p2), .unset, .unset, .unset] [(.int (97 : Int32)), (.int (5 : Int32)), (.ref b1), (.ref b1)])) _
      refine st25 _ ?_
      show Steps p.tables e below (T25.setTop (mkF m 33 #[.val (.int p0), .val (.int p1), .val (.int p2), .unset, .unset, .unset] [(.ref b1)])) _
      refine XS.dup X25.here hx rfl (hb hby at_33) rfl rfl ?_
      show Steps p.tables e below (T25.setTop (mkF m 34 #[.val (.int p0), .val (.int p1), .val (.int p2), .unset, .unset, .unset] [(.ref b1), (.ref b1)])) _
      refine XS.bipush X25.here hx rfl (hb hby at_34) ?_
      show Steps p.tables e below (T25.setTop (mkF m 36 #[.val (.int p0), .val (.int p1), .val (.int p2), .unset, .unset, .unset] [(.int (6 : Int32)), (.ref b1), (.ref b1)])) _
      refine XS.bipush X25.here hx rfl (hb hby at_36) ?_
      show Steps p.tables e below (T25.setTop (mkF m 38 #[.val (.int p0), .val (.int p1), .val (.int p2), .unset, .unset, .unset] [(.int (122 : Int32)), (.int (6 : Int32)), (.ref b1), (.ref b1)])) _
      refine st29 _ ?_
      show Steps p.tables e below (T29.setTop (mkF m 39 #[.val (.int p0), .val (.int p1), .val (.int p2), .unset, .unset, .unset] [(.ref b1)])) _
      refine XS.dup X29.here hx rfl (hb hby at_39) rfl rfl ?_
      show Steps p.tables e below (T29.setTop (mkF m 40 #[.val (.int p0), .val (.int p1), .val (.int p2), .unset, .unset, .unset] [(.ref b1), (.ref b1)])) _
      refine XS.bipush X29.here hx rfl (hb hby at_40) ?_
      show Steps p.tables e below (T29.setTop (mkF m 42 #[.val (.int p0), .val (.int p1), .val (.int p2), .unset, .unset, .unset] [(.int (7 : Int32)), (.ref b1), (.ref b1)])) _
      refine XS.sipush X29.here hx rfl (hb hby at_42) ?_
      show Steps p.tables e below (T29.setTop (mkF m 45 #[.val (.int p0), .val (.int p1), .val (.int p2), .unset, .unset, .unset] [(.int (128 : Int32)), (.int (7 : Int32)), (.ref b1), (.ref b1)])) _
      refine st33 _ ?_
      show Steps p.tables e below (T33.setTop (mkF m 46 #[.val (.int p0), .val (.int p1), .val (.int p2), .unset, .unset, .unset] [(.ref b1)])) _
      refine XS.dup X33.here hx rfl (hb hby at_46) rfl rfl ?_
      show Steps p.tables e below (T33.setTop (mkF m 47 #[.val (.int p0), .val (.int p1), .val (.int p2), .unset, .unset, .unset] [(.ref b1), (.ref b1)])) _
      refine XS.bipush X33.here hx rfl (hb hby at_47) ?_
      show Steps p.tables e below (T33.setTop (mkF m 49 #[.val (.int p0), .val (.int p1), .val (.int p2), .unset, .unset, .unset] [(.int (8 : Int32)), (.ref b1), (.ref b1)])) _
      refine XS.sipush X33.here hx rfl (hb hby at_49) ?_
      show Steps p.tables e below (T33.setTop (mkF m 52 #[.val (.int p0), .val (.int p1), .val (.int p2), .unset, .unset, .unset] [(.int (192 : Int32)), (.int (8 : Int32)), (.ref b1), (.ref b1)])) _
      refine st37 _ ?_
      show Steps p.tables e below (T37.setTop (mkF m 53 #[.val (.int p0), .val (.int p1), .val (.int p2), .unset, .unset, .unset] [(.ref b1)])) _
      refine XS.dup X37.here hx rfl (hb hby at_53) rfl rfl ?_
      show Steps p.tables e below (T37.setTop (mkF m 54 #[.val (.int p0), .val (.int p1), .val (.int p2), .unset, .unset, .unset] [(.ref b1), (.ref b1)])) _
      refine XS.bipush X37.here hx rfl (hb hby at_54) ?_
      show Steps p.tables e below (T37.setTop (mkF m 56 #[.val (.int p0), .val (.int p1), .val (.int p2), .unset, .unset, .unset] [(.int (9 : Int32)), (.ref b1), (.ref b1)])) _
      refine XS.sipush X37.here hx rfl (hb hby at_56) ?_
      show Steps p.tables e below (T37.setTop (mkF m 59 #[.val (.int p0), .val (.int p1), .val (.int p2), .unset, .unset, .unset] [(.int (214 : Int32)), (.int (9 : Int32)), (.ref b1), (.ref b1)])) _
      refine st41 _ ?_
      show Steps p.tables e below (T41.setTop (mkF m 60 #[.val (.int p0), .val (.int p1), .val (.int p2), .unset, .unset, .unset] [(.ref b1)])) _
      refine XS.dup X41.here hx rfl (hb hby at_60) rfl rfl ?_
      show Steps p.tables e below (T41.setTop (mkF m 61 #[.val (.int p0), .val (.int p1), .val (.int p2), .unset, .unset, .unset] [(.ref b1), (.ref b1)])) _
      refine XS.bipush X41.here hx rfl (hb hby at_61) ?_
      show Steps p.tables e below (T41.setTop (mkF m 63 #[.val (.int p0), .val (.int p1), .val (.int p2), .unset, .unset, .unset] [(.int (10 : Int32)), (.ref b1), (.ref b1)])) _
      refine XS.sipush X41.here hx rfl (hb hby at_63) ?_
      show Steps p.tables e below (T41.setTop (mkF m 66 #[.val (.int p0), .val (.int p1), .val (.int p2), .unset, .unset, .unset] [(.int (216 : Int32)), (.int (10 : Int32)), (.ref b1), (.ref b1)])) _
      refine st45 _ ?_
      show Steps p.tables e below (T45.setTop (mkF m 67 #[.val (.int p0), .val (.int p1), .val (.int p2), .unset, .unset, .unset] [(.ref b1)])) _
      refine XS.dup X45.here hx rfl (hb hby at_67) rfl rfl ?_
      show Steps p.tables e below (T45.setTop (mkF m 68 #[.val (.int p0), .val (.int p1), .val (.int p2), .unset, .unset, .unset] [(.ref b1), (.ref b1)])) _
      refine XS.bipush X45.here hx rfl (hb hby at_68) ?_
      show Steps p.tables e below (T45.setTop (mkF m 70 #[.val (.int p0), .val (.int p1), .val (.int p2), .unset, .unset, .unset] [(.int (11 : Int32)), (.ref b1), (.ref b1)])) _
      refine XS.sipush X45.here hx rfl (hb hby at_70) ?_
      show Steps p.tables e below (T45.setTop (mkF m 73 #[.val (.int p0), .val (.int p1), .val (.int p2), .unset, .unset, .unset] [(.int (246 : Int32)), (.int (11 : Int32)), (.ref b1), (.ref b1)])) _
      refine st49 _ ?_
      show Steps p.tables e below (T49.setTop (mkF m 74 #[.val (.int p0), .val (.int p1), .val (.int p2), .unset, .unset, .unset] [(.ref b1)])) _
      refine XS.dup X49.here hx rfl (hb hby at_74) rfl rfl ?_
      show Steps p.tables e below (T49.setTop (mkF m 75 #[.val (.int p0), .val (.int p1), .val (.int p2), .unset, .unset, .unset] [(.ref b1), (.ref b1)])) _
      refine XS.bipush X49.here hx rfl (hb hby at_75) ?_
      show Steps p.tables e below (T49.setTop (mkF m 77 #[.val (.int p0), .val (.int p1), .val (.int p2), .unset, .unset, .unset] [(.int (12 : Int32)), (.ref b1), (.ref b1)])) _
      refine XS.sipush X49.here hx rfl (hb hby at_77) ?_
      show Steps p.tables e below (T49.setTop (mkF m 80 #[.val (.int p0), .val (.int p1), .val (.int p2), .unset, .unset, .unset] [(.int (248 : Int32)), (.int (12 : Int32)), (.ref b1), (.ref b1)])) _
      refine st53 _ ?_
      show Steps p.tables e below (T53.setTop (mkF m 81 #[.val (.int p0), .val (.int p1), .val (.int p2), .unset, .unset, .unset] [(.ref b1)])) _
      refine XS.dup X53.here hx rfl (hb hby at_81) rfl rfl ?_
      show Steps p.tables e below (T53.setTop (mkF m 82 #[.val (.int p0), .val (.int p1), .val (.int p2), .unset, .unset, .unset] [(.ref b1), (.ref b1)])) _
      refine XS.bipush X53.here hx rfl (hb hby at_82) ?_
      show Steps p.tables e below (T53.setTop (mkF m 84 #[.val (.int p0), .val (.int p1), .val (.int p2), .unset, .unset, .unset] [(.int (13 : Int32)), (.ref b1), (.ref b1)])) _
      refine XS.sipush X53.here hx rfl (hb hby at_84) ?_
      show Steps p.tables e below (T53.setTop (mkF m 87 #[.val (.int p0), .val (.int p1), .val (.int p2), .unset, .unset, .unset] [(.int (767 : Int32)), (.int (13 : Int32)), (.ref b1), (.ref b1)])) _
      refine st57 _ ?_
      show Steps p.tables e below (T57.setTop (mkF m 88 #[.val (.int p0), .val (.int p1), .val (.int p2), .unset, .unset, .unset] [(.ref b1)])) _
      refine XS.dup X57.here hx rfl (hb hby at_88) rfl rfl ?_
      show Steps p.tables e below (T57.setTop (mkF m 89 #[.val (.int p0), .val (.int p1), .val (.int p2), .unset, .unset, .unset] [(.ref b1), (.ref b1)])) _
      refine XS.bipush X57.here hx rfl (hb hby at_89) ?_
      show Steps p.tables e below (T57.setTop (mkF m 91 #[.val (.int p0), .val (.int p1), .val (.int p2), .unset, .unset, .unset] [(.int (14 : Int32)), (.ref b1), (.ref b1)])) _
      refine XS.sipush X57.here hx rfl (hb hby at_91) ?_
      show Steps p.tables e below (T57.setTop (mkF m 94 #[.val (.int p0), .val (.int p1), .val (.int p2), .unset, .unset, .unset] [(.int (880 : Int32)), (.int (14 : Int32)), (.ref b1), (.ref b1)])) _
      refine st61 _ ?_
      show Steps p.tables e below (T61.setTop (mkF m 95 #[.val (.int p0), .val (.int p1), .val (.int p2), .unset, .unset, .unset] [(.ref b1)])) _
      refine XS.dup X61.here hx rfl (hb hby at_95) rfl rfl ?_
      show Steps p.tables e below (T61.setTop (mkF m 96 #[.val (.int p0), .val (.int p1), .val (.int p2), .unset, .unset, .unset] [(.ref b1), (.ref b1)])) _
      refine XS.bipush X61.here hx rfl (hb hby at_96) ?_
      show Steps p.tables e below (T61.setTop (mkF m 98 #[.val (.int p0), .val (.int p1), .val (.int p2), .unset, .unset, .unset] [(.int (15 : Int32)), (.ref b1), (.ref b1)])) _
      refine XS.sipush X61.here hx rfl (hb hby at_98) ?_
      show Steps p.tables e below (T61.setTop (mkF m 101 #[.val (.int p0), .val (.int p1), .val (.int p2), .unset, .unset, .unset] [(.int (893 : Int32)), (.int (15 : Int32)), (.ref b1), (.ref b1)])) _
      refine st65 _ ?_
      show Steps p.tables e below (T65.setTop (mkF m 102 #[.val (.int p0), .val (.int p1), .val (.int p2), .unset, .unset, .unset] [(.ref b1)])) _
      refine XS.dup X65.here hx rfl (hb hby at_102) rfl rfl ?_
      show Steps p.tables e below (T65.setTop (mkF m 103 #[.val (.int p0), .val (.int p1), .val (.int p2), .unset, .unset, .unset] [(.ref b1), (.ref b1)])) _
      refine XS.bipush X65.here hx rfl (hb hby at_103) ?_
      show Steps p.tables e below (T65.setTop (mkF m 105 #[.val (.int p0), .val (.int p1), .val (.int p2), .unset, .unset, .unset] [(.int (16 : Int32)), (.ref b1), (.ref b1)])) _
      refine XS.sipush X65.here hx rfl (hb hby at_105) ?_
      show Steps p.tables e below (T65.setTop (mkF m 108 #[.val (.int p0), .val (.int p1), .val (.int p2), .unset, .unset, .unset] [(.int (895 : Int32)), (.int (16 : Int32)), (.ref b1), (.ref b1)])) _
      refine st69 _ ?_
      show Steps p.tables e below (T69.setTop (mkF m 109 #[.val (.int p0), .val (.int p1), .val (.int p2), .unset, .unset, .unset] [(.ref b1)])) _
      refine XS.dup X69.here hx rfl (hb hby at_109) rfl rfl ?_
      show Steps p.tables e below (T69.setTop (mkF m 110 #[.val (.int p0), .val (.int p1), .val (.int p2), .unset, .unset, .unset] [(.ref b1), (.ref b1)])) _
      refine XS.bipush X69.here hx rfl (hb hby at_110) ?_
      show Steps p.tables e below (T69.setTop (mkF m 112 #[.val (.int p0), .val (.int p1), .val (.int p2), .unset, .unset, .unset] [(.int (17 : Int32)), (.ref b1), (.ref b1)])) _
      refine XS.sipush X69.here hx rfl (hb hby at_112) ?_
      show Steps p.tables e below (T69.setTop (mkF m 115 #[.val (.int p0), .val (.int p1), .val (.int p2), .unset, .unset, .unset] [(.int (8191 : Int32)), (.int (17 : Int32)), (.ref b1), (.ref b1)])) _
      refine st73 _ ?_
      show Steps p.tables e below (T73.setTop (mkF m 116 #[.val (.int p0), .val (.int p1), .val (.int p2), .unset, .unset, .unset] [(.ref b1)])) _
      refine XS.dup X73.here hx rfl (hb hby at_116) rfl rfl ?_
      show Steps p.tables e below (T73.setTop (mkF m 117 #[.val (.int p0), .val (.int p1), .val (.int p2), .unset, .unset, .unset] [(.ref b1), (.ref b1)])) _
      refine XS.bipush X73.here hx rfl (hb hby at_117) ?_
      show Steps p.tables e below (T73.setTop (mkF m 119 #[.val (.int p0), .val (.int p1), .val (.int p2), .unset, .unset, .unset] [(.int (18 : Int32)), (.ref b1), (.ref b1)])) _
      refine XS.sipush X73.here hx rfl (hb hby at_119) ?_
      show Steps p.tables e below (T73.setTop (mkF m 122 #[.val (.int p0), .val (.int p1), .val (.int p2), .unset, .unset, .unset] [(.int (8204 : Int32)), (.int (18 : Int32)), (.ref b1), (.ref b1)])) _
      refine st77 _ ?_
      show Steps p.tables e below (T77.setTop (mkF m 123 #[.val (.int p0), .val (.int p1), .val (.int p2), .unset, .unset, .unset] [(.ref b1)])) _
      refine XS.dup X77.here hx rfl (hb hby at_123) rfl rfl ?_
      show Steps p.tables e below (T77.setTop (mkF m 124 #[.val (.int p0), .val (.int p1), .val (.int p2), .unset, .unset, .unset] [(.ref b1), (.ref b1)])) _
      refine XS.bipush X77.here hx rfl (hb hby at_124) ?_
      show Steps p.tables e below (T77.setTop (mkF m 126 #[.val (.int p0), .val (.int p1), .val (.int p2), .unset, .unset, .unset] [(.int (19 : Int32)), (.ref b1), (.ref b1)])) _
      refine XS.sipush X77.here hx rfl (hb hby at_126) ?_
      show Steps p.tables e below (T77.setTop (mkF m 129 #[.val (.int p0), .val (.int p1), .val (.int p2), .unset, .unset, .unset] [(.int (8205 : Int32)), (.int (19 : Int32)), (.ref b1), (.ref b1)])) _
      refine st81 _ ?_
      show Steps p.tables e below (T81.setTop (mkF m 130 #[.val (.int p0), .val (.int p1), .val (.int p2), .unset, .unset, .unset] [(.ref b1)])) _
      refine XS.dup X81.here hx rfl (hb hby at_130) rfl rfl ?_
      show Steps p.tables e below (T81.setTop (mkF m 131 #[.val (.int p0), .val (.int p1), .val (.int p2), .unset, .unset, .unset] [(.ref b1), (.ref b1)])) _
      refine XS.bipush X81.here hx rfl (hb hby at_131) ?_
      show Steps p.tables e below (T81.setTop (mkF m 133 #[.val (.int p0), .val (.int p1), .val (.int p2), .unset, .unset, .unset] [(.int (20 : Int32)), (.ref b1), (.ref b1)])) _
      refine XS.sipush X81.here hx rfl (hb hby at_133) ?_
      show Steps p.tables e below (T81.setTop (mkF m 136 #[.val (.int p0), .val (.int p1), .val (.int p2), .unset, .unset, .unset] [(.int (8304 : Int32)), (.int (20 : Int32)), (.ref b1), (.ref b1)])) _
      refine st85 _ ?_
      show Steps p.tables e below (T85.setTop (mkF m 137 #[.val (.int p0), .val (.int p1), .val (.int p2), .unset, .unset, .unset] [(.ref b1)])) _
      refine XS.dup X85.here hx rfl (hb hby at_137) rfl rfl ?_
      show Steps p.tables e below (T85.setTop (mkF m 138 #[.val (.int p0), .val (.int p1), .val (.int p2), .unset, .unset, .unset] [(.ref b1), (.ref b1)])) _
      refine XS.bipush X85.here hx rfl (hb hby at_138) ?_
      show Steps p.tables e below (T85.setTop (mkF m 140 #[.val (.int p0), .val (.int p1), .val (.int p2), .unset, .unset, .unset] [(.int (21 : Int32)), (.ref b1), (.ref b1)])) _
      refine XS.sipush X85.here hx rfl (hb hby at_140) ?_
      show Steps p.tables e below (T85.setTop (mkF m 143 #[.val (.int p0), .val (.int p1), .val (.int p2), .unset, .unset, .unset] [(.int (8591 : Int32)), (.int (21 : Int32)), (.ref b1), (.ref b1)])) _
      refine st89 _ ?_
      show Steps p.tables e below (T89.setTop (mkF m 144 #[.val (.int p0), .val (.int p1), .val (.int p2), .unset, .unset, .unset] [(.ref b1)])) _
      refine XS.dup X89.here hx rfl (hb hby at_144) rfl rfl ?_
      show Steps p.tables e below (T89.setTop (mkF m 145 #[.val (.int p0), .val (.int p1), .val (.int p2), .unset, .unset, .unset] [(.ref b1), (.ref b1)])) _
      refine XS.bipush X89.here hx rfl (hb hby at_145) ?_
      show Steps p.tables e below (T89.setTop (mkF m 147 #[.val (.int p0), .val (.int p1), .val (.int p2), .unset, .unset, .unset] [(.int (22 : Int32)), (.ref b1), (.ref b1)])) _
      refine XS.sipush X89.here hx rfl (hb hby at_147) ?_
      show Steps p.tables e below (T89.setTop (mkF m 150 #[.val (.int p0), .val (.int p1), .val (.int p2), .unset, .unset, .unset] [(.int (11264 : Int32)), (.int (22 : Int32)), (.ref b1), (.ref b1)])) _
      refine st93 _ ?_
      show Steps p.tables e below (T93.setTop (mkF m 151 #[.val (.int p0), .val (.int p1), .val (.int p2), .unset, .unset, .unset] [(.ref b1)])) _
      refine XS.dup X93.here hx rfl (hb hby at_151) rfl rfl ?_
      show Steps p.tables e below (T93.setTop (mkF m 152 #[.val (.int p0), .val (.int p1), .val (.int p2), .unset, .unset, .unset] [(.ref b1), (.ref b1)])) _
      refine XS.bipush X93.here hx rfl (hb hby at_152) ?_
      show Steps p.tables e below (T93.setTop (mkF m 154 #[.val (.int p0), .val (.int p1), .val (.int p2), .unset, .unset, .unset] [(.int (23 : Int32)), (.ref b1), (.ref b1)])) _
      refine XS.sipush X93.here hx rfl (hb hby at_154) ?_
      show Steps p.tables e below (T93.setTop (mkF m 157 #[.val (.int p0), .val (.int p1), .val (.int p2), .unset, .unset, .unset] [(.int (12271 : Int32)), (.int (23 : Int32)), (.ref b1), (.ref b1)])) _
      refine st97 _ ?_
      show Steps p.tables e below (T97.setTop (mkF m 158 #[.val (.int p0), .val (.int p1), .val (.int p2), .unset, .unset, .unset] [(.ref b1)])) _
      refine XS.dup X97.here hx rfl (hb hby at_158) rfl rfl ?_
      show Steps p.tables e below (T97.setTop (mkF m 159 #[.val (.int p0), .val (.int p1), .val (.int p2), .unset, .unset, .unset] [(.ref b1), (.ref b1)])) _
      refine XS.bipush X97.here hx rfl (hb hby at_159) ?_
      show Steps p.tables e below (T97.setTop (mkF m 161 #[.val (.int p0), .val (.int p1), .val (.int p2), .unset, .unset, .unset] [(.int (24 : Int32)), (.ref b1), (.ref b1)])) _
      refine XS.sipush X97.here hx rfl (hb hby at_161) ?_
      show Steps p.tables e below (T97.setTop (mkF m 164 #[.val (.int p0), .val (.int p1), .val (.int p2), .unset, .unset, .unset] [(.int (12289 : Int32)), (.int (24 : Int32)), (.ref b1), (.ref b1)])) _
      refine st101 _ ?_
      show Steps p.tables e below (T101.setTop (mkF m 165 #[.val (.int p0), .val (.int p1), .val (.int p2), .unset, .unset, .unset] [(.ref b1)])) _
      refine XS.dup X101.here hx rfl (hb hby at_165) rfl rfl ?_
      show Steps p.tables e below (T101.setTop (mkF m 166 #[.val (.int p0), .val (.int p1), .val (.int p2), .unset, .unset, .unset] [(.ref b1), (.ref b1)])) _
      refine XS.bipush X101.here hx rfl (hb hby at_166) ?_
      show Steps p.tables e below (T101.setTop (mkF m 168 #[.val (.int p0), .val (.int p1), .val (.int p2), .unset, .unset, .unset] [(.int (25 : Int32)), (.ref b1), (.ref b1)])) _
      refine X101.ldcInt hx hown (mvT hZ (hw _ (List.mem_of_getElem? (i := 1) rfl))) (g := (mkF m 168 #[.val (.int p0), .val (.int p1), .val (.int p2), .unset, .unset, .unset] [(.int (25 : Int32)), (.ref b1), (.ref b1)])) rfl (hb hby at_168) _ ?_
      show Steps p.tables e below (T101.setTop (mkF m 170 #[.val (.int p0), .val (.int p1), .val (.int p2), .unset, .unset, .unset] [(.int (55295 : Int32)), (.int (25 : Int32)), (.ref b1), (.ref b1)])) _
      refine st105 _ ?_
      show Steps p.tables e below (T105.setTop (mkF m 171 #[.val (.int p0), .val (.int p1), .val (.int p2), .unset, .unset, .unset] [(.ref b1)])) _
      refine XS.dup X105.here hx rfl (hb hby at_171) rfl rfl ?_
      show Steps p.tables e below (T105.setTop (mkF m 172 #[.val (.int p0), .val (.int p1), .val (.int p2), .unset, .unset, .unset] [(.ref b1), (.ref b1)])) _
      refine XS.bipush X105.here hx rfl (hb hby at_172) ?_
      show Steps p.tables e below (T105.setTop (mkF m 174 #[.val (.int p0), .val (.int p1), .val (.int p2), .unset, .unset, .unset] [(.int (26 : Int32)), (.ref b1), (.ref b1)])) _
      refine X105.ldcInt hx hown (mvT hZ (hw _ (List.mem_of_getElem? (i := 2) rfl))) (g := (mkF m 174 #[.val (.int p0), .val (.int p1), .val (.int p2), .unset, .unset, .unset] [(.int (26 : Int32)), (.ref b1), (.ref b1)])) rfl (hb hby at_174) _ ?_
      show Steps p.tables e below (T105.setTop (mkF m 176 #[.val (.int p0), .val (.int p1), .val (.int p2), .unset, .unset, .unset] [(.int (63744 : Int32)), (.int (26 : Int32)), (.ref b1), (.ref b1)])) _
      refine st109 _ ?_
      show Steps p.tables e below (T109.setTop (mkF m 177 #[.val (.int p0), .val (.int p1), .val (.int p2), .unset, .unset, .unset] [(.ref b1)])) _
      refine XS.dup X109.here hx rfl (hb hby at_177) rfl rfl ?_
      show Steps p.tables e below (T109.setTop (mkF m 178 #[.val (.int p0), .val (.int p1), .val (.int p2), .unset, .unset, .unset] [(.ref b1), (.ref b1)])) _
      refine XS.bipush X109.here hx rfl (hb hby at_178) ?_
      show Steps p.tables e below (T109.setTop (mkF m 180 #[.val (.int p0), .val (.int p1), .val (.int p2), .unset, .unset, .unset] [(.int (27 : Int32)), (.ref b1), (.ref b1)])) _
      refine X109.ldcInt hx hown (mvT hZ (hw _ (List.mem_of_getElem? (i := 3) rfl))) (g := (mkF m 180 #[.val (.int p0), .val (.int p1), .val (.int p2), .unset, .unset, .unset] [(.int (27 : Int32)), (.ref b1), (.ref b1)])) rfl (hb hby at_180) _ ?_
      show Steps p.tables e below (T109.setTop (mkF m 182 #[.val (.int p0), .val (.int p1), .val (.int p2), .unset, .unset, .unset] [(.int (64975 : Int32)), (.int (27 : Int32)), (.ref b1), (.ref b1)])) _
      refine st113 _ ?_
      show Steps p.tables e below (T113.setTop (mkF m 183 #[.val (.int p0), .val (.int p1), .val (.int p2), .unset, .unset, .unset] [(.ref b1)])) _
      refine XS.dup X113.here hx rfl (hb hby at_183) rfl rfl ?_
      show Steps p.tables e below (T113.setTop (mkF m 184 #[.val (.int p0), .val (.int p1), .val (.int p2), .unset, .unset, .unset] [(.ref b1), (.ref b1)])) _
      refine XS.bipush X113.here hx rfl (hb hby at_184) ?_
      show Steps p.tables e below (T113.setTop (mkF m 186 #[.val (.int p0), .val (.int p1), .val (.int p2), .unset, .unset, .unset] [(.int (28 : Int32)), (.ref b1), (.ref b1)])) _
      refine X113.ldcInt hx hown (mvT hZ (hw _ (List.mem_of_getElem? (i := 4) rfl))) (g := (mkF m 186 #[.val (.int p0), .val (.int p1), .val (.int p2), .unset, .unset, .unset] [(.int (28 : Int32)), (.ref b1), (.ref b1)])) rfl (hb hby at_186) _ ?_
      show Steps p.tables e below (T113.setTop (mkF m 188 #[.val (.int p0), .val (.int p1), .val (.int p2), .unset, .unset, .unset] [(.int (65008 : Int32)), (.int (28 : Int32)), (.ref b1), (.ref b1)])) _
      refine st117 _ ?_
      show Steps p.tables e below (T117.setTop (mkF m 189 #[.val (.int p0), .val (.int p1), .val (.int p2), .unset, .unset, .unset] [(.ref b1)])) _
      refine XS.dup X117.here hx rfl (hb hby at_189) rfl rfl ?_
      show Steps p.tables e below (T117.setTop (mkF m 190 #[.val (.int p0), .val (.int p1), .val (.int p2), .unset, .unset, .unset] [(.ref b1), (.ref b1)])) _
      refine XS.bipush X117.here hx rfl (hb hby at_190) ?_
      show Steps p.tables e below (T117.setTop (mkF m 192 #[.val (.int p0), .val (.int p1), .val (.int p2), .unset, .unset, .unset] [(.int (29 : Int32)), (.ref b1), (.ref b1)])) _
      refine X117.ldcInt hx hown (mvT hZ (hw _ (List.mem_of_getElem? (i := 5) rfl))) (g := (mkF m 192 #[.val (.int p0), .val (.int p1), .val (.int p2), .unset, .unset, .unset] [(.int (29 : Int32)), (.ref b1), (.ref b1)])) rfl (hb hby at_192) _ ?_
      show Steps p.tables e below (T117.setTop (mkF m 194 #[.val (.int p0), .val (.int p1), .val (.int p2), .unset, .unset, .unset] [(.int (65533 : Int32)), (.int (29 : Int32)), (.ref b1), (.ref b1)])) _
      refine st121 _ ?_
      show Steps p.tables e below (T121.setTop (mkF m 195 #[.val (.int p0), .val (.int p1), .val (.int p2), .unset, .unset, .unset] [(.ref b1)])) _
      refine XS.dup X121.here hx rfl (hb hby at_195) rfl rfl ?_
      show Steps p.tables e below (T121.setTop (mkF m 196 #[.val (.int p0), .val (.int p1), .val (.int p2), .unset, .unset, .unset] [(.ref b1), (.ref b1)])) _
      refine XS.bipush X121.here hx rfl (hb hby at_196) ?_
      show Steps p.tables e below (T121.setTop (mkF m 198 #[.val (.int p0), .val (.int p1), .val (.int p2), .unset, .unset, .unset] [(.int (30 : Int32)), (.ref b1), (.ref b1)])) _
      refine X121.ldcInt hx hown (mvT hZ (hw _ (List.mem_of_getElem? (i := 6) rfl))) (g := (mkF m 198 #[.val (.int p0), .val (.int p1), .val (.int p2), .unset, .unset, .unset] [(.int (30 : Int32)), (.ref b1), (.ref b1)])) rfl (hb hby at_198) _ ?_
      show Steps p.tables e below (T121.setTop (mkF m 200 #[.val (.int p0), .val (.int p1), .val (.int p2), .unset, .unset, .unset] [(.int (65536 : Int32)), (.int (30 : Int32)), (.ref b1), (.ref b1)])) _
      refine st125 _ ?_
      show Steps p.tables e below (T125.setTop (mkF m 201 #[.val (.int p0), .val (.int p1), .val (.int p2), .unset, .unset, .unset] [(.ref b1)])) _
      refine XS.dup X125.here hx rfl (hb hby at_201) rfl rfl ?_
      show Steps p.tables e below (T125.setTop (mkF m 202 #[.val (.int p0), .val (.int p1), .val (.int p2), .unset, .unset, .unset] [(.ref b1), (.ref b1)])) _
      refine XS.bipush X125.here hx rfl (hb hby at_202) ?_
      show Steps p.tables e below (T125.setTop (mkF m 204 #[.val (.int p0), .val (.int p1), .val (.int p2), .unset, .unset, .unset] [(.int (31 : Int32)), (.ref b1), (.ref b1)])) _
      refine X125.ldcInt hx hown (mvT hZ (hw _ (List.mem_of_getElem? (i := 7) rfl))) (g := (mkF m 204 #[.val (.int p0), .val (.int p1), .val (.int p2), .unset, .unset, .unset] [(.int (31 : Int32)), (.ref b1), (.ref b1)])) rfl (hb hby at_204) _ ?_
      show Steps p.tables e below (T125.setTop (mkF m 206 #[.val (.int p0), .val (.int p1), .val (.int p2), .unset, .unset, .unset] [(.int (983039 : Int32)), (.int (31 : Int32)), (.ref b1), (.ref b1)])) _
      refine st129 _ ?_
      show Steps p.tables e below (T129.setTop (mkF m 207 #[.val (.int p0), .val (.int p1), .val (.int p2), .unset, .unset, .unset] [(.ref b1)])) _
      refine XS.dup X129.here hx rfl (hb hby at_207) rfl rfl ?_
      show Steps p.tables e below (T129.setTop (mkF m 208 #[.val (.int p0), .val (.int p1), .val (.int p2), .unset, .unset, .unset] [(.ref b1), (.ref b1)])) _
      refine XS.bipush X129.here hx rfl (hb hby at_208) ?_
      show Steps p.tables e below (T129.setTop (mkF m 210 #[.val (.int p0), .val (.int p1), .val (.int p2), .unset, .unset, .unset] [(.int (32 : Int32)), (.ref b1), (.ref b1)])) _
      refine X129.ldcInt hx hown (mvT hZ (hw _ (List.mem_of_getElem? (i := 8) rfl))) (g := (mkF m 210 #[.val (.int p0), .val (.int p1), .val (.int p2), .unset, .unset, .unset] [(.int (32 : Int32)), (.ref b1), (.ref b1)])) rfl (hb hby at_210) _ ?_
      show Steps p.tables e below (T129.setTop (mkF m 212 #[.val (.int p0), .val (.int p1), .val (.int p2), .unset, .unset, .unset] [(.int (2147483647 : Int32)), (.int (32 : Int32)), (.ref b1), (.ref b1)])) _
      refine st133 _ ?_
      show Steps p.tables e below (T133.setTop (mkF m 213 #[.val (.int p0), .val (.int p1), .val (.int p2), .unset, .unset, .unset] [(.ref b1)])) _
      refine XS.dup X133.here hx rfl (hb hby at_213) rfl rfl ?_
      show Steps p.tables e below (T133.setTop (mkF m 214 #[.val (.int p0), .val (.int p1), .val (.int p2), .unset, .unset, .unset] [(.ref b1), (.ref b1)])) _
      refine XS.bipush X133.here hx rfl (hb hby at_214) ?_
      show Steps p.tables e below (T133.setTop (mkF m 216 #[.val (.int p0), .val (.int p1), .val (.int p2), .unset, .unset, .unset] [(.int (33 : Int32)), (.ref b1), (.ref b1)])) _
      refine X133.ldcInt hx hown (mvT hZ (hw _ (List.mem_of_getElem? (i := 9) rfl))) (g := (mkF m 216 #[.val (.int p0), .val (.int p1), .val (.int p2), .unset, .unset, .unset] [(.int (33 : Int32)), (.ref b1), (.ref b1)])) rfl (hb hby at_216) _ ?_
      show Steps p.tables e below (T133.setTop (mkF m 218 #[.val (.int p0), .val (.int p1), .val (.int p2), .unset, .unset, .unset] [(.int (-2147483648 : Int32)), (.int (33 : Int32)), (.ref b1), (.ref b1)])) _
      refine st137 _ ?_
      show Steps p.tables e below (T137.setTop (mkF m 219 #[.val (.int p0), .val (.int p1), .val (.int p2), .unset, .unset, .unset] [(.ref b1)])) _
      refine XS.astoreN X137.here hx rfl (hb hby at_219) rfl rfl (l' := #[.val (.int p0), .val (.int p1), .val (.int p2), .val (.ref b1), .unset, .unset]) rfl ?_
      show Steps p.tables e below (T137.setTop (mkF m 220 #[.val (.int p0), .val (.int p1), .val (.int p2), .val (.ref b1), .unset, .unset] [])) _
      refine XS.aloadN X137.here hx rfl (hb hby at_220) rfl rfl ?_
      show Steps p.tables e below (T137.setTop (mkF m 221 #[.val (.int p0), .val (.int p1), .val (.int p2), .val (.ref b1), .unset, .unset] [(.ref b1)])) _
      refine XS.iloadN X137.here hx rfl (hb hby at_221) rfl ?_
      show Steps p.tables e below (T137.setTop (mkF m 222 #[.val (.int p0), .val (.int p1), .val (.int p2), .val (.ref b1), .unset, .unset] [(.int p1), (.ref b1)])) _
      refine X137.ldcInt hx hown (mvT hZ (hw _ (List.mem_of_getElem? (i := 8) rfl))) (g := (mkF m 222 #[.val (.int p0), .val (.int p1), .val (.int p2), .val (.ref b1), .unset, .unset] [(.int p1), (.ref b1)])) rfl (hb hby at_222) _ ?_
      show Steps p.tables e below (T137.setTop (mkF m 224 #[.val (.int p0), .val (.int p1), .val (.int p2), .val (.ref b1), .unset, .unset] [(.int (2147483647 : Int32)), (.int p1), (.ref b1)])) _
      refine XS.iand X137.here hx rfl (hb hby at_224) rfl ?_
      show Steps p.tables e below (T137.setTop (mkF m 225 #[.val (.int p0), .val (.int p1), .val (.int p2), .val (.ref b1), .unset, .unset] [(.int (p1 &&& (2147483647 : Int32))), (.ref b1)])) _
      refine XS.aloadN X137.here hx rfl (hb hby at_225) rfl rfl ?_
      show Steps p.tables e below (T137.setTop (mkF m 226 #[.val (.int p0), .val (.int p1), .val (.int p2), .val (.ref b1), .unset, .unset] [(.ref b1), (.int (p1 &&& (2147483647 : Int32))), (.ref b1)])) _
      refine X137.arraylength hx (by rw [e137]; exact Ar140.1) (State.isArrayOf_alike hZ.alike Ar140.2.1) (g := (mkF m 226 #[.val (.int p0), .val (.int p1), .val (.int p2), .val (.ref b1), .unset, .unset] [(.ref b1), (.int (p1 &&& (2147483647 : Int32))), (.ref b1)])) rfl rfl (hb hby at_226) _ ?_
      rw [len_of Sz140 Nn140]
      show Steps p.tables e below (T137.setTop (mkF m 227 #[.val (.int p0), .val (.int p1), .val (.int p2), .val (.ref b1), .unset, .unset] [(.int (34 : Int32)), (.int (p1 &&& (2147483647 : Int32))), (.ref b1)])) _
      refine XS.irem X137.here hx rfl (hb hby at_227) rfl (by decide) ?_
      show Steps p.tables e below (T137.setTop (mkF m 228 #[.val (.int p0), .val (.int p1), .val (.int p2), .val (.ref b1), .unset, .unset] [(.int ((p1 &&& (2147483647 : Int32)) - ((p1 &&& (2147483647 : Int32)) / (34 : Int32)) * (34 : Int32))), (.ref b1)])) _
      refine X137.iaload hx (j := ((p1 &&& (2147483647 : Int32)) - ((p1 &&& (2147483647 : Int32)) / (34 : Int32)) * (34 : Int32))) (v := (.int w141)) (by rw [e137]; exact Ar141.1) (State.isArrayOf_alike hZ.alike Ar141.2.1) Ar141.2.2 hin141 hat141 (g := (mkF m 228 #[.val (.int p0), .val (.int p1), .val (.int p2), .val (.ref b1), .unset, .unset] [(.int ((p1 &&& (2147483647 : Int32)) - ((p1 &&& (2147483647 : Int32)) / (34 : Int32)) * (34 : Int32))), (.ref b1)])) rfl rfl (hb hby at_228) _ ?_
      show Steps p.tables e below (T137.setTop (mkF m 229 #[.val (.int p0), .val (.int p1), .val (.int p2), .val (.ref b1), .unset, .unset] [(.int w141)])) _
      refine XS.iloadN X137.here hx rfl (hb hby at_229) rfl ?_
      show Steps p.tables e below (T137.setTop (mkF m 230 #[.val (.int p0), .val (.int p1), .val (.int p2), .val (.ref b1), .unset, .unset] [(.int p2), (.int w141)])) _
      refine X137.ldcInt hx hown (mvT hZ (hw _ (List.mem_of_getElem? (i := 8) rfl))) (g := (mkF m 230 #[.val (.int p0), .val (.int p1), .val (.int p2), .val (.ref b1), .unset, .unset] [(.int p2), (.int w141)])) rfl (hb hby at_230) _ ?_
      show Steps p.tables e below (T137.setTop (mkF m 232 #[.val (.int p0), .val (.int p1), .val (.int p2), .val (.ref b1), .unset, .unset] [(.int (2147483647 : Int32)), (.int p2), (.int w141)])) _
      refine XS.iand X137.here hx rfl (hb hby at_232) rfl ?_
      show Steps p.tables e below (T137.setTop (mkF m 233 #[.val (.int p0), .val (.int p1), .val (.int p2), .val (.ref b1), .unset, .unset] [(.int (p2 &&& (2147483647 : Int32))), (.int w141)])) _
      refine XS.iconst X137.here hx rfl (hb hby at_233) ?_
      show Steps p.tables e below (T137.setTop (mkF m 234 #[.val (.int p0), .val (.int p1), .val (.int p2), .val (.ref b1), .unset, .unset] [(.int (5 : Int32)), (.int (p2 &&& (2147483647 : Int32))), (.int w141)])) _
      refine XS.irem X137.here hx rfl (hb hby at_234) rfl (by decide) ?_
      show Steps p.tables e below (T137.setTop (mkF m 235 #[.val (.int p0), .val (.int p1), .val (.int p2), .val (.ref b1), .unset, .unset] [(.int ((p2 &&& (2147483647 : Int32)) - ((p2 &&& (2147483647 : Int32)) / (5 : Int32)) * (5 : Int32))), (.int w141)])) _
      refine XS.iadd X137.here hx rfl (hb hby at_235) rfl ?_
      show Steps p.tables e below (T137.setTop (mkF m 236 #[.val (.int p0), .val (.int p1), .val (.int p2), .val (.ref b1), .unset, .unset] [(.int (w141 + ((p2 &&& (2147483647 : Int32)) - ((p2 &&& (2147483647 : Int32)) / (5 : Int32)) * (5 : Int32))))])) _
      refine XS.iconst X137.here hx rfl (hb hby at_236) ?_
      show Steps p.tables e below (T137.setTop (mkF m 237 #[.val (.int p0), .val (.int p1), .val (.int p2), .val (.ref b1), .unset, .unset] [(.int (2 : Int32)), (.int (w141 + ((p2 &&& (2147483647 : Int32)) - ((p2 &&& (2147483647 : Int32)) / (5 : Int32)) * (5 : Int32))))])) _
      refine XS.isub X137.here hx rfl (hb hby at_237) rfl ?_
      show Steps p.tables e below (T137.setTop (mkF m 238 #[.val (.int p0), .val (.int p1), .val (.int p2), .val (.ref b1), .unset, .unset] [(.int ((w141 + ((p2 &&& (2147483647 : Int32)) - ((p2 &&& (2147483647 : Int32)) / (5 : Int32)) * (5 : Int32))) - (2 : Int32)))])) _
      refine XS.istore X137.here hx rfl (hb hby at_238) rfl (l' := #[.val (.int p0), .val (.int p1), .val (.int p2), .val (.ref b1), .val (.int (e0_1 p2 w141)), .unset]) rfl ?_
      show Steps p.tables e below (T137.setTop (mkF m 240 #[.val (.int p0), .val (.int p1), .val (.int p2), .val (.ref b1), .val (.int (e0_1 p2 w141)), .unset] [])) _
      refine XS.iloadN X137.here hx rfl (hb hby at_240) rfl ?_
      show Steps p.tables e below (T137.setTop (mkF m 241 #[.val (.int p0), .val (.int p1), .val (.int p2), .val (.ref b1), .val (.int (e0_1 p2 w141)), .unset] [(.int p0)])) _
      refine X137.ldcInt hx hown (mvT hZ (hw _ (List.mem_of_getElem? (i := 10) rfl))) (g := (mkF m 241 #[.val (.int p0), .val (.int p1), .val (.int p2), .val (.ref b1), .val (.int (e0_1 p2 w141)), .unset] [(.int p0)])) rfl (hb hby at_241) _ ?_
      show Steps p.tables e below (T137.setTop (mkF m 243 #[.val (.int p0), .val (.int p1), .val (.int p2), .val (.ref b1), .val (.int (e0_1 p2 w141)), .unset] [(.int (1048575 : Int32)), (.int p0)])) _
      refine XS.iand X137.here hx rfl (hb hby at_243) rfl ?_
      show Steps p.tables e below (T137.setTop (mkF m 244 #[.val (.int p0), .val (.int p1), .val (.int p2), .val (.ref b1), .val (.int (e0_1 p2 w141)), .unset] [(.int (p0 &&& (1048575 : Int32)))])) _
      refine XS.istore X137.here hx rfl (hb hby at_244) rfl (l' := #[.val (.int p0), .val (.int p1), .val (.int p2), .val (.ref b1), .val (.int (e0_1 p2 w141)), .val (.int (p0 &&& (1048575 : Int32)))]) rfl ?_
      show Steps p.tables e below (T137.setTop (mkF m 246 #[.val (.int p0), .val (.int p1), .val (.int p2), .val (.ref b1), .val (.int (e0_1 p2 w141)), .val (.int (p0 &&& (1048575 : Int32)))] [])) _
      refine XS.iloadN X137.here hx rfl (hb hby at_246) rfl ?_
      show Steps p.tables e below (T137.setTop (mkF m 247 #[.val (.int p0), .val (.int p1), .val (.int p2), .val (.ref b1), .val (.int (e0_1 p2 w141)), .val (.int (p0 &&& (1048575 : Int32)))] [(.int p0)])) _
      refine st142 _ ?_
      show Steps p.tables e below (T142.setTop (mkF m 250 #[.val (.int p0), .val (.int p1), .val (.int p2), .val (.ref b1), .val (.int (e0_1 p2 w141)), .val (.int (p0 &&& (1048575 : Int32)))] [(.int (f1 p0 F1))])) _
      refine XS.iloadN X142.here hx rfl (hb hby at_250) rfl ?_
      show Steps p.tables e below (T142.setTop (mkF m 251 #[.val (.int p0), .val (.int p1), .val (.int p2), .val (.ref b1), .val (.int (e0_1 p2 w141)), .val (.int (p0 &&& (1048575 : Int32)))] [(.int p0), (.int (f1 p0 F1))])) _
      refine st145 _ ?_
      exact kt)
  have hd254_147 : (f1 p0 F1) = (f2 p0) := own_same _ _ hF
  obtain ⟨_, _, ⟨T148, L148, k148, n148⟩, -, X148, ⟨Lc148, hQ148, l148, y148, z148⟩, st148⟩ := Jvm.LawKit.callS X145 hx (y := (⟨"com/example/cuttlefish/cuttlefish/xml/XmlNames", "isNameStart", "(I)Z"⟩ : MethodName)) hown (mvT hZ (hw _ (List.mem_of_getElem? (i := 11) rfl))) (mvT hZ (hw _ (List.mem_of_getElem? (i := 12) rfl))) (mvT hZ (hw _ (List.mem_of_getElem? (i := 13) rfl))) (mvT hZ (hw _ (List.mem_of_getElem? (i := 14) rfl))) (by decide) (backOf (W := 0) (rm1 l Z a0 hw [] (p0 &&& (1048575 : Int32)) t1 F1 h137 n0 Z139 c143 c144) hZ (hw _ (List.mem_of_getElem? (i := 14) rfl)) (hw _ (List.mem_of_getElem? (i := 13) rfl)) (by decide) (by decide)) (g := (mkF m 259 #[.val (.int p0), .val (.int p1), .val (.int p2), .val (.ref b1), .val (.int (e0_1 p2 w141)), .val (.int (p0 &&& (1048575 : Int32)))] [(.int (p0 &&& (1048575 : Int32)))])) rfl (by rw [hml]; rfl) (argsL := [(.int (p0 &&& (1048575 : Int32)))]) (rest := []) (lenOf pd_0_0 rfl) rfl (by show 2 * 0 + _ ≤ _; exact Nat.le_of_eq rfl) (hb hby at_259) (fun _ _ => ⟨rfl, e145q, (by decide : 1 + 0 ≤ _), (by decide : 34 + 0 ≤ _)⟩)
  dsimp only [Pt.U, Pt.locs, Pt.cells, Pt.slots] at X148 l148 y148 z148 st148 hQ148
  subst l148 y148 z148
  obtain ⟨rfl, N148q, e148q⟩ := hQ148
  have N148 := Fr.app N145 N148q
  obtain ⟨_, _, ⟨T149, L149, k149, n149⟩, -, X149, ⟨Lc149, hQ149, l149, y149, z149⟩, st149⟩ := Jvm.LawKit.callS X148 hx (y := (⟨"com/example/cuttlefish/cuttlefish/xml/XmlNamesIsNameStartPinLaw", "ref", "(I)Z"⟩ : MethodName)) hown (mvT hZ (hw _ (List.mem_of_getElem? (i := 17) rfl))) (mvT hZ (hw _ (List.mem_of_getElem? (i := 18) rfl))) (mvT hZ (hw _ (List.mem_of_getElem? (i := 19) rfl))) (mvT hZ (hw _ (List.mem_of_getElem? (i := 20) rfl))) (by decide) (backOf (W := 1) (rm2 l Z a0 hw [] (p0 &&& (1048575 : Int32)) h137 n0 Z139 ) hZ (hw _ (List.mem_of_getElem? (i := 20) rfl)) (hw _ (List.mem_of_getElem? (i := 19) rfl)) (by decide) (by decide)) (g := (mkF m 264 #[.val (.int p0), .val (.int p1), .val (.int p2), .val (.ref b1), .val (.int (e0_1 p2 w141)), .val (.int (p0 &&& (1048575 : Int32)))] [(.int (p0 &&& (1048575 : Int32))), (.int (f1 (p0 &&& (1048575 : Int32)) F1))])) rfl (by rw [hml]; rfl) (argsL := [(.int (p0 &&& (1048575 : Int32)))]) (rest := [(.int (f1 (p0 &&& (1048575 : Int32)) F1))]) (lenOf pd_0_0 rfl) rfl (by show 2 * 0 + _ ≤ _; exact Nat.le_of_eq rfl) (hb hby at_264) (fun _ _ => ⟨rfl, e148q, (by decide : 1 + 0 ≤ _), (by decide : 34 + 0 ≤ _)⟩)
  dsimp only [Pt.U, Pt.locs, Pt.cells, Pt.slots] at X149 l149 y149 z149 st149 hQ149
  subst l149 y149 z149
  obtain ⟨rfl, N149q, e149q⟩ := hQ149
  have N149 := Fr.app N148 N149q
  have pre150 : ∀ t, Steps p.tables e below (T149.setTop (mkF m 267 #[.val (.int p0), .val (.int p1), .val (.int p2), .val (.ref b1), .val (.int (e0_1 p2 w141)), .val (.int (p0 &&& (1048575 : Int32)))] [(.int (f2 (p0 &&& (1048575 : Int32)))), (.int (f1 (p0 &&& (1048575 : Int32)) F1))])) t → Steps p.tables e below (s₁.setTop (entryFrame m #[(.int p0), (.int p1), (.int p2)] maxLocals)) t := fun t kt => pre146 t (by
      show Steps p.tables e below (T145.setTop (mkF m 254 #[.val (.int p0), .val (.int p1), .val (.int p2), .val (.ref b1), .val (.int (e0_1 p2 w141)), .val (.int (p0 &&& (1048575 : Int32)))] [(.int (f2 p0)), (.int (f1 p0 F1))])) _
      refine XS.icmpNo X145.here hx rfl (hb hby at_254) rfl (teq hd254_147).2 ?_
      show Steps p.tables e below (T145.setTop (mkF m 257 #[.val (.int p0), .val (.int p1), .val (.int p2), .val (.ref b1), .val (.int (e0_1 p2 w141)), .val (.int (p0 &&& (1048575 : Int32)))] [])) _
      refine XS.iload X145.here hx rfl (hb hby at_257) rfl ?_
      show Steps p.tables e below (T145.setTop (mkF m 259 #[.val (.int p0), .val (.int p1), .val (.int p2), .val (.ref b1), .val (.int (e0_1 p2 w141)), .val (.int (p0 &&& (1048575 : Int32)))] [(.int (p0 &&& (1048575 : Int32)))])) _
      refine st148 _ ?_
      show Steps p.tables e below (T148.setTop (mkF m 262 #[.val (.int p0), .val (.int p1), .val (.int p2), .val (.ref b1), .val (.int (e0_1 p2 w141)), .val (.int (p0 &&& (1048575 : Int32)))] [(.int (f1 (p0 &&& (1048575 : Int32)) F1))])) _
      refine XS.iload X148.here hx rfl (hb hby at_262) rfl ?_
      show Steps p.tables e below (T148.setTop (mkF m 264 #[.val (.int p0), .val (.int p1), .val (.int p2), .val (.ref b1), .val (.int (e0_1 p2 w141)), .val (.int (p0 &&& (1048575 : Int32)))] [(.int (p0 &&& (1048575 : Int32))), (.int (f1 (p0 &&& (1048575 : Int32)) F1))])) _
      refine st149 _ ?_
      exact kt)
  have hd267_151 : (f1 (p0 &&& (1048575 : Int32)) F1) = (f2 (p0 &&& (1048575 : Int32))) := own_same _ _ hF
  obtain ⟨_, _, ⟨T152, L152, k152, n152⟩, -, X152, ⟨Lc152, hQ152, l152, y152, z152⟩, st152⟩ := Jvm.LawKit.callS X149 hx (y := (⟨"com/example/cuttlefish/cuttlefish/xml/XmlNames", "isNameStart", "(I)Z"⟩ : MethodName)) hown (mvT hZ (hw _ (List.mem_of_getElem? (i := 11) rfl))) (mvT hZ (hw _ (List.mem_of_getElem? (i := 12) rfl))) (mvT hZ (hw _ (List.mem_of_getElem? (i := 13) rfl))) (mvT hZ (hw _ (List.mem_of_getElem? (i := 14) rfl))) (by decide) (backOf (W := 0) (rm1 l Z a0 hw [] (e0_1 p2 w141) t1 F1 h137 n0 Z139 c143 c144) hZ (hw _ (List.mem_of_getElem? (i := 14) rfl)) (hw _ (List.mem_of_getElem? (i := 13) rfl)) (by decide) (by decide)) (g := (mkF m 272 #[.val (.int p0), .val (.int p1), .val (.int p2), .val (.ref b1), .val (.int (e0_1 p2 w141)), .val (.int (p0 &&& (1048575 : Int32)))] [(.int (e0_1 p2 w141))])) rfl (by rw [hml]; rfl) (argsL := [(.int (e0_1 p2 w141))]) (rest := []) (lenOf pd_0_0 rfl) rfl (by show 2 * 0 + _ ≤ _; exact Nat.le_of_eq rfl) (hb hby at_272) (fun _ _ => ⟨rfl, e149q, (by decide : 1 + 0 ≤ _), (by decide : 34 + 0 ≤ _)⟩)
  dsimp only [Pt.U, Pt.locs, Pt.cells, Pt.slots] at X152 l152 y152 z152 st152 hQ152
  subst l152 y152 z152
  obtain ⟨rfl, N152q, e152q⟩ := hQ152
  have N152 := Fr.app N149 N152q
  obtain ⟨_, _, ⟨T153, L153, k153, n153⟩, -, X153, ⟨Lc153, hQ153, l153, y153, z153⟩, st153⟩ := Jvm.LawKit.callS X152 hx (y := (⟨"com/example/cuttlefish/cuttlefish/xml/XmlNamesIsNameStartPinLaw", "ref", "(I)Z"⟩ : MethodName)) hown (mvT hZ (hw _ (List.mem_of_getElem? (i := 17) rfl))) (mvT hZ (hw _ (List.mem_of_getElem? (i := 18) rfl))) (mvT hZ (hw _ (List.mem_of_getElem? (i := 19) rfl))) (mvT hZ (hw _ (List.mem_of_getElem? (i := 20) rfl))) (by decide) (backOf (W := 1) (rm2 l Z a0 hw [] (e0_1 p2 w141) h137 n0 Z139 ) hZ (hw _ (List.mem_of_getElem? (i := 20) rfl)) (hw _ (List.mem_of_getElem? (i := 19) rfl)) (by decide) (by decide)) (g := (mkF m 277 #[.val (.int p0), .val (.int p1), .val (.int p2), .val (.ref b1), .val (.int (e0_1 p2 w141)), .val (.int (p0 &&& (1048575 : Int32)))] [(.int (e0_1 p2 w141)), (.int (f1 (e0_1 p2 w141) F1))])) rfl (by rw [hml]; rfl) (argsL := [(.int (e0_1 p2 w141))]) (rest := [(.int (f1 (e0_1 p2 w141) F1))]) (lenOf pd_0_0 rfl) rfl (by show 2 * 0 + _ ≤ _; exact Nat.le_of_eq rfl) (hb hby at_277) (fun _ _ => ⟨rfl, e152q, (by decide : 1 + 0 ≤ _), (by decide : 34 + 0 ≤ _)⟩)
  dsimp only [Pt.U, Pt.locs, Pt.cells, Pt.slots] at X153 l153 y153 z153 st153 hQ153
  subst l153 y153 z153
  obtain ⟨rfl, N153q, e153q⟩ := hQ153
  have N153 := Fr.app N152 N153q
  have pre154 : ∀ t, Steps p.tables e below (T153.setTop (mkF m 280 #[.val (.int p0), .val (.int p1), .val (.int p2), .val (.ref b1), .val (.int (e0_1 p2 w141)), .val (.int (p0 &&& (1048575 : Int32)))] [(.int (f2 (e0_1 p2 w141))), (.int (f1 (e0_1 p2 w141) F1))])) t → Steps p.tables e below (s₁.setTop (entryFrame m #[(.int p0), (.int p1), (.int p2)] maxLocals)) t := fun t kt => pre150 t (by
      show Steps p.tables e below (T149.setTop (mkF m 267 #[.val (.int p0), .val (.int p1), .val (.int p2), .val (.ref b1), .val (.int (e0_1 p2 w141)), .val (.int (p0 &&& (1048575 : Int32)))] [(.int (f2 (p0 &&& (1048575 : Int32)))), (.int (f1 (p0 &&& (1048575 : Int32)) F1))])) _
      refine XS.icmpNo X149.here hx rfl (hb hby at_267) rfl (teq hd267_151).2 ?_
      show Steps p.tables e below (T149.setTop (mkF m 270 #[.val (.int p0), .val (.int p1), .val (.int p2), .val (.ref b1), .val (.int (e0_1 p2 w141)), .val (.int (p0 &&& (1048575 : Int32)))] [])) _
      refine XS.iload X149.here hx rfl (hb hby at_270) rfl ?_
      show Steps p.tables e below (T149.setTop (mkF m 272 #[.val (.int p0), .val (.int p1), .val (.int p2), .val (.ref b1), .val (.int (e0_1 p2 w141)), .val (.int (p0 &&& (1048575 : Int32)))] [(.int (e0_1 p2 w141))])) _
      refine st152 _ ?_
      show Steps p.tables e below (T152.setTop (mkF m 275 #[.val (.int p0), .val (.int p1), .val (.int p2), .val (.ref b1), .val (.int (e0_1 p2 w141)), .val (.int (p0 &&& (1048575 : Int32)))] [(.int (f1 (e0_1 p2 w141) F1))])) _
      refine XS.iload X152.here hx rfl (hb hby at_275) rfl ?_
      show Steps p.tables e below (T152.setTop (mkF m 277 #[.val (.int p0), .val (.int p1), .val (.int p2), .val (.ref b1), .val (.int (e0_1 p2 w141)), .val (.int (p0 &&& (1048575 : Int32)))] [(.int (e0_1 p2 w141)), (.int (f1 (e0_1 p2 w141) F1))])) _
      refine st153 _ ?_
      exact kt)
  have hd280_155 : (f1 (e0_1 p2 w141) F1) = (f2 (e0_1 p2 w141)) := own_same _ _ hF
  obtain ⟨fs, hr, hrun, hended, hW, hsame⟩ := X153.leave (v := some (.int (1 : Int32))) (fun h => by rw [Bd.returns] at h; cases h)
  have hv156 : (1 : Int32) = (1 : Int32) := rfl
  refine ⟨_, _, pre154 _ ?_, hrun, hended, _, _, rfl, ?_, ⟨_, rfl⟩, hW, hsame.mono (by decide) (by decide)⟩
  · show Steps p.tables e below (T153.setTop (mkF m 280 #[.val (.int p0), .val (.int p1), .val (.int p2), .val (.ref b1), .val (.int (e0_1 p2 w141)), .val (.int (p0 &&& (1048575 : Int32)))] [(.int (f2 (e0_1 p2 w141))), (.int (f1 (e0_1 p2 w141) F1))])) _
    refine XS.icmpNo X153.here hx rfl (hb hby at_280) rfl (teq hd280_155).2 ?_
    show Steps p.tables e below (T153.setTop (mkF m 283 #[.val (.int p0), .val (.int p1), .val (.int p2), .val (.ref b1), .val (.int (e0_1 p2 w141)), .val (.int (p0 &&& (1048575 : Int32)))] [])) _
    refine XS.iconst X153.here hx rfl (hb hby at_283) ?_
    show Steps p.tables e below (T153.setTop (mkF m 284 #[.val (.int p0), .val (.int p1), .val (.int p2), .val (.ref b1), .val (.int (e0_1 p2 w141)), .val (.int (p0 &&& (1048575 : Int32)))] [(.int (1 : Int32))])) _
    refine XS.goto X153.here hx rfl (pc0 := 284) (pc' := 288) rfl (hb hby at_284) (by decide) (by decide) ?_
    show Steps p.tables e below (T153.setTop (mkF m 288 #[.val (.int p0), .val (.int p1), .val (.int p2), .val (.ref b1), .val (.int (e0_1 p2 w141)), .val (.int (p0 &&& (1048575 : Int32)))] [(.int (1 : Int32))])) _
    exact retN X153 hx (t := .boolean) Bd.returns (by simp) (hb hby at_288) hr
  · show Q0 Z p0 p1 p2 t1 F1 h0 n0 _ T153.heap _
    rw [e153q]
    exact ⟨congrArg (fun q => some (Value.int q)) hv156, N153⟩
set_option maxRecDepth 65536 in
set_option maxHeartbeats 40000000 in
theorem comes_1 {Post : Tables → Env → Array Value → State → Outcome → State → Prop} (hpost : ∀ tb e args s v u, (limb_1_1.after args s (.returned v) u = true ∧ limb_1_2.after args s (.returned v) u = true ∧ True) → FrameEnd s (.returned v) u (Jvm.fieldLocs frame_1_writes args s ++ Jvm.arrayLocs frame_1_arrays args s ++ Jvm.staticLocs frame_1_statics s) 16 192 → Post tb e args s (.returned v) u) :
    ArmFor flags0 classFile x code maxLocals ret World_1 tables_1 room_1 Calls_1 rest_1 Pre_1 Post := by
  intro l hfl _ _ p e ha hc hk s m args below hf hA hF happ hP
  obtain ⟨hcalls, hrest, hpre⟩ := hP
  obtain ⟨-, -, -, hnamed, -, -, -, hat⟩ := (Spec.applies_iff hf).mp happ
  obtain ⟨hg, hn⟩ := and_e (Cond.before_iff.mp (show (Jvm.Cond.and given_1 narrow_1).before args s = true from hpre))
  obtain ⟨g1, g2⟩ := and_e hg
  obtain ⟨g3, g4⟩ := and_e g2
  obtain ⟨g5, g6⟩ := and_e g4
  obtain ⟨w0, w1, w2, rfl⟩ : ∃ w0 w1 w2 : Value, args = #[w0, w1, w2] := by
    have hs : args.size = 3 := by simpa [Cond.value, given_1] using g1
    obtain ⟨L⟩ := args
    match L, hs with
    | [w0, w1, w2], _ => exact ⟨w0, w1, w2, rfl⟩
  have hw := fun d (hd : d ∈ tables_1) => atoms_spec (ws := Jvm.Cond.code x code maxLocals ret :: tables_1) hat d (List.mem_cons_of_mem _ hd)
  have hfit : Fit s := fun {y c} hc i hi => by
    obtain ⟨ha, rfl⟩ := Array.getElem?_eq_some_iff.mp hc
    have q := List.all_eq_true.mp ((Array.all_eq_true_iff_forall_mem.mp hF) _ (Array.getElem_mem ha)) i (List.mem_range.mpr hi)
    simpa [Array.getElem?_eq_getElem hi] using q
  obtain ⟨n1, m1⟩ := and_e hn
  obtain ⟨n2, m2⟩ := and_e m1
  obtain ⟨n3, m3⟩ := and_e m2
  obtain ⟨n4, m4⟩ := and_e m3
  obtain ⟨n5, m5⟩ := and_e m4
  obtain ⟨n6, m6⟩ := and_e m5
  obtain ⟨n7, m7⟩ := and_e m6
  obtain ⟨n8, m8⟩ := and_e m7
  obtain ⟨n9, m9⟩ := and_e m8
  obtain ⟨n10, m10⟩ := and_e m9
  obtain ⟨t1, ev⟩ := arr_v n1
  have et : ∀ idx, (Jvm.Term.static "com/example/cuttlefish/cuttlefish/xml/XmlNames" "NAME_START" "[Z").eval #[w0, w1, w2] s none idx s = some (.ref t1) := fun idx => ev
  have S_NAME_START := Sta.start ev (Or.inr ⟨(hw _ (List.mem_of_getElem? (i := 13) rfl)), (hw _ (List.mem_of_getElem? (i := 16) rfl))⟩)
  obtain ⟨cl, A⟩ := Arr.start ev n1
  have hlen := own_eqi n2
  have hsz : cl.slots.size = 128 := own_len ev (A.fin (Vm.Alike.refl _)) hlen
  have V_t1 := own_tab_start hfit A hsz
  have u0 := own_all2 V_t1 A hsz et n3
  have u1 := own_at A et (by decide) n4
  have u2 := own_all3 V_t1 A hsz et n5
  have u3 := own_all3 V_t1 A hsz et n6
  have u4 := own_all3 V_t1 A hsz et n7
  have u5 := own_at A et (by decide) n8
  have u6 := own_at A et (by decide) n9
  have u7 := own_all3 V_t1 A hsz et n10
  have u8 := own_all1 V_t1 A hsz et m10
  have hF : ∀ j : Int32, ¬ j < 0 → j < (128 : Int32) → (own_P j.toInt → own_val cl j.toNatClampNeg = 1) ∧ (¬ own_P j.toInt → own_val cl j.toNatClampNeg = 0) := by
    intro j h0 h1
    have vu0 := u0 j h0 h1
    have vu1 := u1 j
    have vu2 := u2 j h0 h1
    have vu3 := u3 j h0 h1
    have vu4 := u4 j h0 h1
    have vu5 := u5 j
    have vu6 := u6 j
    have vu7 := u7 j h0 h1
    have vu8 := u8 j h0 h1
    have e0 : (0 : Int32).toInt = 0 := by decide
    have e1 : (1 : Int32).toInt = 1 := by decide
    have e58 : (58 : Int32).toInt = 58 := by decide
    have e59 : (59 : Int32).toInt = 59 := by decide
    have e65 : (65 : Int32).toInt = 65 := by decide
    have e91 : (91 : Int32).toInt = 91 := by decide
    have e95 : (95 : Int32).toInt = 95 := by decide
    have e96 : (96 : Int32).toInt = 96 := by decide
    have e97 : (97 : Int32).toInt = 97 := by decide
    have e123 : (123 : Int32).toInt = 123 := by decide
    have e128 : (128 : Int32).toInt = 128 := by decide
    simp only [Int32.lt_iff_toInt_lt, Int32.le_iff_toInt_le, e0, e1, e58, e59, e65, e91, e95, e96, e97, e123, e128] at h0 h1 vu0 vu2 vu3 vu4 vu7 vu8
    rw [← Int32.toInt_inj, e58] at vu1
    rw [← Int32.toInt_inj, e95] at vu5
    rw [← Int32.toInt_inj, e96] at vu6
    generalize own_val cl j.toNatClampNeg = y at *
    unfold own_P
    refine ⟨fun q => ?_, fun q => ?_⟩
    all_goals simp only [← Int32.toInt_inj, e0, e1] at vu0 vu1 vu2 vu3 vu4 vu5 vu6 vu7 vu8 ⊢
    all_goals omega
  obtain ⟨i0, ei0⟩ := is_v g3
  obtain rfl : w0 = (.int i0) := Option.some.inj ei0
  obtain ⟨i1, ei1⟩ := is_v g5
  obtain rfl : w1 = (.int i1) := Option.some.inj ei1
  obtain ⟨i2, ei2⟩ := is_v g6
  obtain rfl : w2 = (.int i2) := Option.some.inj ei2
  obtain ⟨n, o, h1, h2, h3, _, L, rfl, ⟨hv0, N⟩, hq⟩ := rm0 l s _ hw tables_1 i0 i1 i2 t1 (own_val cl) s.heap s.heap.size (Nat.le_refl _) S_NAME_START V_t1 hF p e ha hc hk s m _ below hf ((Spec.applies_iff_loose hf).mp happ).1 ⟨rfl, State.Warmed39.refl s, rfl⟩ trivial
  subst hv0
  refine ⟨n, _, h1, h2, h3, hpost _ _ _ _ _ _ ⟨Cond.after_iff.mpr rfl, Cond.after_iff.mpr (eq_i res_at (Term.int_eval (1)) rfl), trivial⟩ ⟨hq.1, hq.2.1, (hq.2.2.sift fun y hy => Or.inr (N y hy)).mono (by decide) (by decide)⟩⟩
theorem main_1_1 : Claimed_1_1 := comes_1 fun _ _ _ _ _ _ h hF => ⟨h.1, hF⟩
theorem main_1_2 : Claimed_1_2 := comes_1 fun _ _ _ _ _ _ h hF => ⟨h.2.1, hF⟩
end Jvm.Pilot.@@N@@
namespace Jvm.Pilot.@@N@@
open Jvm Jvm.ClassFile Sem Op Lib Jvm.Free Jvm.Stand Jvm.Pilot.@@N@@.Jvm.D
/-! MADE BY PROGRAM (witnessworld.py) out of the Statement's table words and the real class files: 11 classes; the members and pool entries that the words name. The judged class is class 1, her method 2. -/
namespace start1
open Jvm.ClassFile
def u (s : String) : CpInfo := .utf8 (stringToUtf16 s)
/-- a pool by its gaps: so many unusable entries, then the entry; so many at the end -/
def gap : Nat → List CpInfo → List CpInfo
  | 0, r => r
  | n + 1, r => .unusable :: gap n r
def poolList (es : List (Nat × CpInfo)) (last : Nat) : List CpInfo := es.foldr (fun e r => gap e.1 (e.2 :: r)) (gap last [])
def pool (es : List (Nat × CpInfo)) (last : Nat) : Array CpInfo := ⟨poolList es last⟩
def fileOf (pool : Array CpInfo) (this : Nat) (attrs : Array Attribute := #[]) (ms : Array MethodInfo := #[]) (fl : Nat := 33) (sup : Nat := 0) (ifs : Array Nat := #[]) (fds : Array FieldInfo := #[]) : ClassFile where
  minorVersion := 0
  majorVersion := 65
  constantPool := pool
  accessFlags := fl
  thisClass := this
  superClass := sup
  interfaces := ifs
  fields := fds
  methods := ms
  attributes := attrs
def plain (name : String) (sup : Option ClassId) : Class where
  name := name
  kind := .ordinary
  loader := none
  accessFlags := 33
  super := sup
  interfaces := #[]
  cf := none
  fields := #[]
  methods := #[]
  instanceTypes := #[]
  staticTypes := #[]
  resolved := #[]
  callSites := []
  init := .initialized
  statics := none
  mirror := none

def pool0 : Array CpInfo := pool [(5, u "<init>"), (0, u "()V"), (1, .class_ 10), (1, u "java/lang/Object")] 113

def k0m0 : Method := { name := "<init>", desc := "()V", sig := { parameters := [], returnType := none }, accessFlags := 1, code := none }
/-- java/lang/Object -/
def k0 : Class := { plain "java/lang/Object" none with
  accessFlags := 33
  interfaces := #[]
  cf := some (fileOf pool0 8 #[] #[{ accessFlags := 1, nameIndex := 5, descriptorIndex := 6, attributes := #[] }] 33 0 #[] #[])
  fields := #[]
  methods := #[k0m0]
  instanceTypes := #[]
  staticTypes := #[]
  resolved := Array.replicate 124 none
  statics := none }

def pool1 : Array CpInfo := pool [(2, .class_ 4), (1, u "java/lang/Object"), (0, u "<init>"), (0, u "()V"), (0, .integer 983039), (0, .integer 55296), (0, .integer 63743), (0, .integer 64976), (0, .integer 65007), (0, .integer 65534), (0, .integer 65535), (0, .integer 55295), (0, .integer 63744), (0, .integer 64975), (0, .integer 65008), (0, .integer 65533), (0, .integer 65536), (0, .integer 2147483647), (0, .integer 2147483648), (0, .integer 1048575), (0, .methodref 24 25), (0, .class_ 26), (0, .nameAndType 27 28), (0, u "com/example/cuttlefish/cuttlefish/xml/XmlNames"), (0, u "isNameStart"), (0, u "(I)Z"), (0, .methodref 30 31), (0, .class_ 32), (0, .nameAndType 33 28), (0, u "com/example/cuttlefish/cuttlefish/xml/XmlNamesIsNameStartPinLaw"), (0, u "ref"), (3, u "law"), (0, u "(III)Z")] 4

def k1m0 : Method := { name := "<init>", desc := "()V", sig := { parameters := [], returnType := none }, accessFlags := 2, code := none }
def k1c1 : Code := { maxStack := 2, maxLocals := 2, code := method_2_code, exceptionTable := #[], attributes := #[] }
def k1m1 : Method := { name := "ref", desc := "(I)Z", sig := { parameters := [.int], returnType := some .boolean }, accessFlags := 10, code := some k1c1 }
def k1c2 : Code := { maxStack := 4, maxLocals := 6, code := code, exceptionTable := #[], attributes := #[] }
def k1m2 : Method := { name := "law", desc := "(III)Z", sig := { parameters := [.int, .int, .int], returnType := some .boolean }, accessFlags := 9, code := some k1c2 }
/-- com/example/cuttlefish/cuttlefish/xml/XmlNamesIsNameStartPinLaw -/
def k1 : Class := { plain "com/example/cuttlefish/cuttlefish/xml/XmlNamesIsNameStartPinLaw" (some 0) with
  accessFlags := 49
  interfaces := #[]
  cf := some (fileOf pool1 30 #[] #[{ accessFlags := 2, nameIndex := 5, descriptorIndex := 6, attributes := #[] }, { accessFlags := 10, nameIndex := 33, descriptorIndex := 28, attributes := #[] }, { accessFlags := 9, nameIndex := 37, descriptorIndex := 38, attributes := #[] }] 49 2 #[] #[])
  fields := #[]
  methods := #[k1m0, k1m1, k1m2]
  instanceTypes := #[]
  staticTypes := #[]
  resolved := Array.replicate 43 none
  statics := none }

def pool2 : Array CpInfo := pool [(2, .class_ 4), (1, u "java/lang/Object"), (0, u "<init>"), (0, u "()V"), (0, .integer 55295), (1, .integer 65533), (0, .integer 65536), (17, .fieldref 29 30), (0, .class_ 31), (0, .nameAndType 32 33), (0, u "com/example/cuttlefish/cuttlefish/xml/XmlNames"), (0, u "NAME_START"), (0, u "[Z"), (0, .integer 63744), (0, .integer 64975), (0, .integer 65008), (0, .integer 983039), (2, u "NAME"), (2, u "isNameStart"), (0, u "(I)Z"), (24, u "CANNOT_HOLD"), (0, u "Ljava/lang/String;")] 36

def k2m0 : Method := { name := "<init>", desc := "()V", sig := { parameters := [], returnType := none }, accessFlags := 2, code := none }
def k2c1 : Code := { maxStack := 2, maxLocals := 1, code := prog_87_method_5_code, exceptionTable := #[], attributes := #[] }
def k2m1 : Method := { name := "isNameStart", desc := "(I)Z", sig := { parameters := [.int], returnType := some .boolean }, accessFlags := 9, code := some k2c1 }
/-- com/example/cuttlefish/cuttlefish/xml/XmlNames -/
def k2 : Class := { plain "com/example/cuttlefish/cuttlefish/xml/XmlNames" (some 0) with
  accessFlags := 49
  interfaces := #[]
  cf := some (fileOf pool2 29 #[] #[{ accessFlags := 2, nameIndex := 5, descriptorIndex := 6, attributes := #[] }, { accessFlags := 9, nameIndex := 43, descriptorIndex := 44, attributes := #[] }] 49 2 #[] #[{ accessFlags := 26, nameIndex := 32, descriptorIndex := 33, attributes := #[] }, { accessFlags := 26, nameIndex := 40, descriptorIndex := 33, attributes := #[] }, { accessFlags := 25, nameIndex := 69, descriptorIndex := 70, attributes := #[] }])
  fields := #[{ name := "NAME_START", type := (.array .boolean), accessFlags := 26, slot := 0, constantValue := 0 }, { name := "NAME", type := (.array .boolean), accessFlags := 26, slot := 1, constantValue := 0 }, { name := "CANNOT_HOLD", type := (.object "java/lang/String"), accessFlags := 25, slot := 2, constantValue := 0 }]
  methods := #[k2m0, k2m1]
  instanceTypes := #[]
  staticTypes := #[(.array .boolean), (.array .boolean), (.object "java/lang/String")]
  resolved := Array.replicate 107 none
  statics := some 0 }

def pool3 : Array CpInfo := pool [(1, u "java/lang/Cloneable"), (0, .class_ 1), (0, u "java/lang/Object"), (0, .class_ 3)] 3

/-- java/lang/Cloneable -/
def k3 : Class := { plain "java/lang/Cloneable" (some 0) with
  accessFlags := 1537
  interfaces := #[]
  cf := some (fileOf pool3 2 #[] #[] 1537 4 #[] #[])
  fields := #[]
  methods := #[]
  instanceTypes := #[]
  staticTypes := #[]
  resolved := Array.replicate 8 none
  statics := none }

def pool4 : Array CpInfo := pool [(1, u "java/io/Serializable"), (0, .class_ 1), (0, u "java/lang/Object"), (0, .class_ 3)] 3

/-- java/io/Serializable -/
def k4 : Class := { plain "java/io/Serializable" (some 0) with
  accessFlags := 1537
  interfaces := #[]
  cf := some (fileOf pool4 2 #[] #[] 1537 4 #[] #[])
  fields := #[]
  methods := #[]
  instanceTypes := #[]
  staticTypes := #[]
  resolved := Array.replicate 8 none
  statics := none }

/-- the primitive boolean -/
def k5 : Class := { plain "boolean" none with kind := .primitive 'Z', accessFlags := 0x411 }
/-- [Z -/
def k6 : Class := { plain "[Z" (some 0) with kind := .array 5 .boolean, interfaces := #[3, 4], accessFlags := 1041 }

/-- the primitive byte -/
def k7 : Class := { plain "byte" none with kind := .primitive 'B', accessFlags := 0x411 }
/-- [B -/
def k8 : Class := { plain "[B" (some 0) with kind := .array 7 .byte, interfaces := #[3, 4], accessFlags := 1041 }

/-- the primitive int -/
def k9 : Class := { plain "int" none with kind := .primitive 'I', accessFlags := 0x411 }
/-- [I -/
def k10 : Class := { plain "[I" (some 0) with kind := .array 9 .int, interfaces := #[3, 4], accessFlags := 1041 }

def heap : Heap := #[{ cls := 2, slots := #[.ref 1, .null, .null], vm := .statics 2 },
  { cls := 6, slots := #[.int 0, .int 0, .int 0, .int 0, .int 0, .int 0, .int 0, .int 0, .int 0, .int 0, .int 0, .int 0, .int 0, .int 0, .int 0, .int 0, .int 0, .int 0, .int 0, .int 0, .int 0, .int 0, .int 0, .int 0, .int 0, .int 0, .int 0, .int 0, .int 0, .int 0, .int 0, .int 0, .int 0, .int 0, .int 0, .int 0, .int 0, .int 0, .int 0, .int 0, .int 0, .int 0, .int 0, .int 0, .int 0, .int 0, .int 0, .int 0, .int 0, .int 0, .int 0, .int 0, .int 0, .int 0, .int 0, .int 0, .int 0, .int 0, .int 1, .int 0, .int 0, .int 0, .int 0, .int 0, .int 0, .int 1, .int 1, .int 1, .int 1, .int 1, .int 1, .int 1, .int 1, .int 1, .int 1, .int 1, .int 1, .int 1, .int 1, .int 1, .int 1, .int 1, .int 1, .int 1, .int 1, .int 1, .int 1, .int 1, .int 1, .int 1, .int 1, .int 0, .int 0, .int 0, .int 0, .int 1, .int 0, .int 1, .int 1, .int 1, .int 1, .int 1, .int 1, .int 1, .int 1, .int 1, .int 1, .int 1, .int 1, .int 1, .int 1, .int 1, .int 1, .int 1, .int 1, .int 1, .int 1, .int 1, .int 1, .int 1, .int 1, .int 1, .int 1, .int 0, .int 0, .int 0, .int 0, .int 0], vm := .none }]
def classes : Array Class := #[k0, k1, k2, k3, k4, k5, k6, k7, k8, k9, k10]
def interned : List (Array UInt16 × Addr) := []
def slotsUsed : Nat := 131
def theMethod : MethodId := ⟨1, 2⟩
def args0 : Array Value := #[.int 5, .int 9, .int 3]
def aboutOver (below : List Frame) : State where
  vm := { classes := classes, interned := interned.toArray }
  heap := heap
  slotsUsed := slotsUsed
  threads := #[{ frames := .invoking theMethod args0 :: below }]
def below0 : List Frame := [.native { method := ⟨0, 0⟩, args := #[] }]
def about1 : State := aboutOver below0
def p0 : Program := .bare "" "" ""
def e0 : Env := launch0.env 0 0 0
theorem w_frames : about1.frames = Frame.invoking theMethod args0 :: below0 := rfl
set_option maxRecDepth 65536 in
theorem w_args : argsFit about1.vm theMethod args0 = true := by decide +kernel
set_option maxRecDepth 65536 in
theorem w_heap : heapFits about1 = true := by decide +kernel
set_option maxRecDepth 65536 in
theorem w_runnable : about1.curStatus? = some .runnable := by decide +kernel
set_option maxRecDepth 65536 in
theorem w_alone : about1.alone = true := by decide +kernel
set_option maxRecDepth 65536 in
theorem w_named : about1.methodNamed? x = some theMethod := by decide +kernel
set_option maxRecDepth 65536 in
theorem w_hears : about1.hears theMethod below0 = true := by decide +kernel
set_option maxRecDepth 65536 in
theorem w_ripe : about1.ripe theMethod args0 below0 = true := by decide +kernel
theorem w_running : about1.status = .running := rfl
set_option maxRecDepth 65536 in
theorem w_room : about1.hasRoom e0.platform room_1 = true :=
  launch0.hasRoom_least _ room_1 (by decide +kernel) (by decide +kernel) (by decide +kernel) (by decide +kernel) (by decide +kernel) (by decide +kernel)
theorem allAtoms_all (ts : List Jvm.Cond) (a : Array Jvm.Value) (st : Jvm.State) : (allAtoms ts).before a st = ts.all (fun c => c.before a st) := by
  induction ts with
  | nil => rfl
  | cons c t ih =>
    show (Jvm.Cond.and c (allAtoms t)).before a st = _
    rw [Jvm.Cond.before_and, ih, List.all_cons]
def words1 : List Jvm.Cond := Jvm.Cond.code x code maxLocals ret :: tables_1
/-- a 'code' word, met by the world's own term for the bytes: nothing is compared byte by byte -/
theorem code_word {y : MethodName} {bytes : ByteArray} {mx : Nat} {rt : Option FieldType} {a : Array Value} {s : State} {m : MethodId} {meth : Method} {c : Code} (h1 : s.methodNamed? y = some m) (h2 : s.vm.method? m = some meth) (h3 : meth.code = some c) (h4 : c.code = bytes)
    (h5 : (c.maxLocals == mx && c.exceptionTable.isEmpty && decide (c.maxStack ≤ mostOperands) && decide (meth.sig.returnType = rt) && !meth.locks && decide (parseMethodDescriptor y.desc = some meth.sig)) = true) : (Jvm.Cond.code y bytes mx rt).before a s = true := by
  simp only [Bool.and_eq_true, beq_iff_eq, Bool.not_eq_true', decide_eq_true_eq] at h5
  obtain ⟨⟨⟨⟨⟨g1, g2⟩, g3⟩, g4⟩, g5⟩, g6⟩ := h5
  simp [Cond.before, Cond.holds, Cond.value, h1, h2, h3, h4, g1, g2, g3, g4, g5, g6]
def isCode : Jvm.Cond → Bool
  | .code _ _ _ _ => true
  | _ => false
theorem all_split {L : List Jvm.Cond} {P : Jvm.Cond → Bool} (h1 : L.all (fun c => isCode c || P c) = true) (h2 : ∀ c ∈ L.filter isCode, P c = true) : L.all P = true := by
  refine List.all_eq_true.mpr fun c hc => ?_
  have h := List.all_eq_true.mp h1 c hc
  rcases Bool.eq_false_or_eq_true (isCode c) with hi | hi
  · exact h2 c (List.mem_filter.mpr ⟨hc, hi⟩)
  · simpa [hi] using h
set_option maxRecDepth 65536 in
theorem w_c0 : (Jvm.Cond.code x code maxLocals ret).before args0 about1 = true := code_word (m := ⟨1, 2⟩) (meth := k1m2) (c := k1c2) (by decide +kernel) rfl rfl rfl (by decide +kernel)
set_option maxRecDepth 65536 in
theorem w_c1 : (Jvm.Cond.code ({ cls := "com/example/cuttlefish/cuttlefish/xml/XmlNames", name := "isNameStart", desc := "(I)Z" } : Jvm.MethodName) prog_87_method_5_code (1 : Nat) (Option.some Jvm.ClassFile.FieldType.boolean)).before args0 about1 = true := code_word (m := ⟨2, 1⟩) (meth := k2m1) (c := k2c1) (by decide +kernel) rfl rfl rfl (by decide +kernel)
set_option maxRecDepth 65536 in
theorem w_c2 : (Jvm.Cond.code ({ cls := "com/example/cuttlefish/cuttlefish/xml/XmlNamesIsNameStartPinLaw", name := "ref", desc := "(I)Z" } : Jvm.MethodName) method_2_code (2 : Nat) (Option.some Jvm.ClassFile.FieldType.boolean)).before args0 about1 = true := code_word (m := ⟨1, 1⟩) (meth := k1m1) (c := k1c1) (by decide +kernel) rfl rfl rfl (by decide +kernel)
def codes1 : List Jvm.Cond := [Jvm.Cond.code x code maxLocals ret, Jvm.Cond.code ({ cls := "com/example/cuttlefish/cuttlefish/xml/XmlNames", name := "isNameStart", desc := "(I)Z" } : Jvm.MethodName) prog_87_method_5_code (1 : Nat) (Option.some Jvm.ClassFile.FieldType.boolean), Jvm.Cond.code ({ cls := "com/example/cuttlefish/cuttlefish/xml/XmlNamesIsNameStartPinLaw", name := "ref", desc := "(I)Z" } : Jvm.MethodName) method_2_code (2 : Nat) (Option.some Jvm.ClassFile.FieldType.boolean)]
set_option maxRecDepth 65536 in
theorem codes_eq : words1.filter isCode = codes1 := rfl
theorem w_codes : ∀ c ∈ words1.filter isCode, c.before args0 about1 = true := by
  rw [codes_eq]
  intro c hc
  simp only [codes1, List.mem_cons, List.not_mem_nil, or_false] at hc
  rcases hc with rfl | rfl | rfl
  · exact w_c0
  · exact w_c1
  · exact w_c2
set_option maxRecDepth 65536 in
theorem w_t1 : (words1.take 24).all (fun c => isCode c || c.before args0 about1) = true := by decide +kernel
set_option maxRecDepth 65536 in
theorem w_t2 : (words1.drop 24).all (fun c => isCode c || c.before args0 about1) = true := by decide +kernel
theorem w_tables : (allAtoms (Jvm.Cond.code x code maxLocals ret :: tables_1)).before args0 about1 = true := by
  rw [allAtoms_all]
  show words1.all (fun c => c.before args0 about1) = true
  refine all_split ?_ w_codes
  rw [← List.take_append_drop 24 words1, List.all_append, w_t1, w_t2]
  rfl
set_option maxRecDepth 65536 in
theorem w_case : (Jvm.Cond.and given_1 narrow_1).before args0 about1 = true := by decide +kernel
theorem w_applies : (headSpec (Jvm.Cond.code x code maxLocals ret :: tables_1) room_1).applies x e0.platform about1 = true :=
  (Spec.applies_iff w_frames).mpr ⟨w_running, w_runnable, w_alone, w_named, w_hears, w_ripe, w_room, w_tables⟩
theorem atStart : AtStart classFile x code maxLocals ret World_1 tables_1 room_1 Calls_1 rest_1 Pre_1 launch0 p0 e0 about1 theMethod args0 below0 :=
  ⟨lists_1, trivial, launch0.admits_env _ _ _, launch0.least_env, fairChoices_fair.cas, fairChoices_fair.clock, w_frames, w_args, w_heap, w_applies, trivial, trivial, w_case⟩
end start1
theorem witness_1 : WitnessClaimed_1 := ⟨start1.p0, start1.e0, start1.about1, start1.theMethod, start1.args0, start1.below0, start1.atStart⟩
end Jvm.Pilot.@@N@@
