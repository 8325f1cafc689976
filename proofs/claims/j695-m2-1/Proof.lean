import JvmDerived
import JvmDerived.Pilot.@@N@@Statement
import JvmDerived.Pilot.@@N@@Code
set_option linter.unusedVariables false
set_option linter.unusedSimpArgs false
namespace Jvm.RoadKit
open Sem ClassFile Op Lib Jvm.Stand Jvm.Free Jvm.LawKit
section New
variable {p : Program} {l : Launch} {e : Env} {R : Room} {s : State} {m : MethodId} {args : Array Value} {below : List Frame} {meth : Method} {c : Code} {T : State} {locs : List Loc} {cells slots : Nat}
theorem retI (X : Stand p l e R s m args below meth c T locs cells slots) (hx : p.tables.exec = Jvm.exec) {pc : Nat} {Ls : Array Slot} {z : Int32} {rest : List Value} (hret : meth.sig.returnType = some .int) (hd : decode c.code pc = .ok (.ireturn, 1)) {fs : List Frame}
    (hl : ∀ (f : JFrame) (acts : List Action), f.method = m → f.locked = none → f.entered = [] → (doReturn e (T.setTop f) acts (some (.int z))).1 = T.setFrames fs) : Steps p.tables e below (T.setTop (mkF m pc Ls (.int z :: rest))) (T.setFrames fs) := by
  have hm' : T.vm.method? m = some meth := X.method'
  have hn : narrow .int (.int z) = .int z := rfl
  show Steps p.tables e below (T.setTop { method := m, pc := pc, locals := Ls, stack := _ :: rest, locked := none }) _
  jvm_step X.here [X.here.top, hx, hd, hm', hret, hn]
  first | (intro acts; rw [hl _ acts rfl rfl rfl]) | rw [hl _ _ rfl rfl rfl]
  exact Steps.refl _
end New
end Jvm.RoadKit
namespace Jvm.Pilot.@@N@@
open Jvm Jvm.ClassFile Sem Op Lib Jvm.Free Jvm.Stand Jvm.LawKit Jvm.RoadKit Bundle Jvm.Pilot.@@N@@.Jvm.D
section OwnArrays
variable {Z : State} {h h' : Heap} {a b : Addr} {ty : FieldType} {n j : Int32} {F : Nat → Int32} {G : Nat → Int64} {sl : Nat} {v : Value} {ws : List Addr} {k : ClassId} {x : Int32} {y : Int64}
/-- an array of ints (chars, bytes, booleans ..): its length and its components -/
def own_AI (Z : State) (h : Heap) (a : Addr) (ty : FieldType) (n : Int32) (F : Nat → Int32) : Prop := ∃ c : Cell, Arr Z h a c ty ∧ c.slots.size = n.toNatClampNeg ∧ ¬ n < 0 ∧ ∀ i, i < c.slots.size → c.slots[i]? = some (.int (F i)) ∧ fits ty (.int (F i)) = true
/-- an array of longs -/
def own_AJ (Z : State) (h : Heap) (a : Addr) (ty : FieldType) (n : Int32) (F : Nat → Int64) : Prop := ∃ c : Cell, Arr Z h a c ty ∧ c.slots.size = n.toNatClampNeg ∧ ¬ n < 0 ∧ ∀ i, i < c.slots.size → c.slots[i]? = some (.long (F i))
/-- an array of which the length alone is told -/
def own_AL (Z : State) (h : Heap) (a : Addr) (ty : FieldType) (n : Int32) : Prop := ∃ c : Cell, Arr Z h a c ty ∧ c.slots.size = n.toNatClampNeg ∧ ¬ n < 0 ∧ True
def own_upd {α : Type} (F : Nat → α) (i : Nat) (v : α) : Nat → α := fun q => if q = i then v else F q
theorem own_upd_at {α : Type} (F : Nat → α) (i : Nat) (v : α) (q : Nat) : own_upd F i v q = if q = i then v else F q := rfl
theorem own_lt {c : Cell} (q : ¬ (j < 0 ∨ c.slots.size ≤ j.toNatClampNeg)) : j.toNatClampNeg < c.slots.size := Nat.lt_of_not_le fun z => q (Or.inr z)
theorem own_AI.lt (H : own_AI Z h a ty n F) : a < h.size := by obtain ⟨c, A, -⟩ := H; exact A.lt
theorem own_AI.ext (H : own_AI Z h a ty n F) (E : Ext h h') : own_AI Z h' a ty n F := by obtain ⟨c, A, r⟩ := H; exact ⟨c, A.ext E, r⟩
theorem own_AI.other (H : own_AI Z h b ty n F) (W : Wr h h' a sl v) (q : b ≠ a) : own_AI Z h' b ty n F := by obtain ⟨c, A, r⟩ := H; exact ⟨c, A.other W q, r⟩
theorem own_AI.keep (H : own_AI Z h a ty n F) (K : Keep h h' ws) (q : a ∉ ws) : own_AI Z h' a ty n F := by obtain ⟨c, A, r⟩ := H; exact ⟨c, ⟨K.2.1 a c A.1 q, A.2⟩, r⟩
theorem own_AI.new (A : Arr Z h a (newA k ty n) ty) (q : ¬ n < 0) (hd : defaultValue ty = .int 0) : own_AI Z h a ty n (fun _ => 0) :=
  ⟨_, A, sz_new _ _ _, q, fun i hi => by
    rw [sz_new] at hi
    refine ⟨by simp [newA, hi, hd], ?_⟩
    rw [← hd]; cases ty <;> rfl⟩
theorem own_AI.set (H : own_AI Z h a ty n F) (hv : fits ty (.int x) = true) (W : Wr h h' a j.toNatClampNeg (.int x)) : own_AI Z h' a ty n (own_upd F j.toNatClampNeg x) := by
  obtain ⟨c, A, S, q, H⟩ := H
  refine ⟨_, A.same W, by simpa [Cell.setSlot] using S, q, fun i hi => ?_⟩
  have hi' : i < c.slots.size := by simpa [Cell.setSlot] using hi
  by_cases u : i = j.toNatClampNeg
  · rw [own_upd_at, if_pos u]; subst u; exact ⟨by simp [Cell.setSlot, hi'], hv⟩
  · rw [own_upd_at, if_neg u]
    refine ⟨?_, (H i hi').2⟩
    have := (H i hi').1
    simp only [Cell.setSlot] at this ⊢
    rw [Array.getElem?_setIfInBounds_ne (Ne.symm u)]; exact this
theorem own_AJ.lt (H : own_AJ Z h a ty n G) : a < h.size := by obtain ⟨c, A, -⟩ := H; exact A.lt
theorem own_AJ.ext (H : own_AJ Z h a ty n G) (E : Ext h h') : own_AJ Z h' a ty n G := by obtain ⟨c, A, r⟩ := H; exact ⟨c, A.ext E, r⟩
theorem own_AJ.other (H : own_AJ Z h b ty n G) (W : Wr h h' a sl v) (q : b ≠ a) : own_AJ Z h' b ty n G := by obtain ⟨c, A, r⟩ := H; exact ⟨c, A.other W q, r⟩
theorem own_AJ.keep (H : own_AJ Z h a ty n G) (K : Keep h h' ws) (q : a ∉ ws) : own_AJ Z h' a ty n G := by obtain ⟨c, A, r⟩ := H; exact ⟨c, ⟨K.2.1 a c A.1 q, A.2⟩, r⟩
theorem own_AJ.new (A : Arr Z h a (newA k .long n) .long) (q : ¬ n < 0) : own_AJ Z h a .long n (fun _ => 0) :=
  ⟨_, A, sz_new _ _ _, q, fun i hi => by rw [sz_new] at hi; simp [newA, hi, defaultValue]⟩
theorem own_AJ.set (H : own_AJ Z h a ty n G) (W : Wr h h' a j.toNatClampNeg (.long y)) : own_AJ Z h' a ty n (own_upd G j.toNatClampNeg y) := by
  obtain ⟨c, A, S, q, H⟩ := H
  refine ⟨_, A.same W, by simpa [Cell.setSlot] using S, q, fun i hi => ?_⟩
  have hi' : i < c.slots.size := by simpa [Cell.setSlot] using hi
  by_cases u : i = j.toNatClampNeg
  · rw [own_upd_at, if_pos u]; subst u; simp [Cell.setSlot, hi']
  · rw [own_upd_at, if_neg u]
    have := H i hi'
    simp only [Cell.setSlot] at this ⊢
    rw [Array.getElem?_setIfInBounds_ne (Ne.symm u)]; exact this
theorem own_AL.lt (H : own_AL Z h a ty n) : a < h.size := by obtain ⟨c, A, -⟩ := H; exact A.lt
theorem own_AL.ext (H : own_AL Z h a ty n) (E : Ext h h') : own_AL Z h' a ty n := by obtain ⟨c, A, r⟩ := H; exact ⟨c, A.ext E, r⟩
theorem own_AL.other (H : own_AL Z h b ty n) (W : Wr h h' a sl v) (q : b ≠ a) : own_AL Z h' b ty n := by obtain ⟨c, A, r⟩ := H; exact ⟨c, A.other W q, r⟩
theorem own_AL.keep (H : own_AL Z h a ty n) (K : Keep h h' ws) (q : a ∉ ws) : own_AL Z h' a ty n := by obtain ⟨c, A, r⟩ := H; exact ⟨c, ⟨K.2.1 a c A.1 q, A.2⟩, r⟩
theorem own_AL.new (A : Arr Z h a (newA k ty n) ty) (q : ¬ n < 0) : own_AL Z h a ty n := ⟨_, A, sz_new _ _ _, q, trivial⟩
theorem own_AL.set (H : own_AL Z h a ty n) (W : Wr h h' a sl v) : own_AL Z h' a ty n := by
  obtain ⟨c, A, S, q, -⟩ := H
  exact ⟨_, A.same W, by simpa [Cell.setSlot] using S, q, trivial⟩
end OwnArrays
theorem own_nn {p : Int32} (h : 0 ≤ p.toInt ∧ p.toInt ≤ 1023) : ¬ (p + 2) < 0 := by
  have h1 := c_iadd p 2
  have h2 := rng32 (p + 2)
  have e2 : (2 : Int32).toInt = 2 := by decide
  have e0 : (0 : Int32).toInt = 0 := by decide
  rw [e2] at h1
  rw [Int32.lt_iff_toInt_lt, e0]
  omega
theorem own_cap {p : Int32} (h : 0 ≤ p.toInt ∧ p.toInt ≤ 1023) : (p + 2).toNatClampNeg ≤ 1025 := by
  have h1 := c_iadd p 2
  have h2 := rng32 (p + 2)
  have e2 : (2 : Int32).toInt = 2 := by decide
  rw [e2] at h1
  unfold Int32.toNatClampNeg
  omega
theorem own_b0 {i L : Int32} (hi : 1 ≤ i.toInt) (h : i < L) : ¬ i < 0 ∧ i < L := by
  have e0 : (0 : Int32).toInt = 0 := by decide
  refine ⟨?_, h⟩
  rw [Int32.lt_iff_toInt_lt, e0]; omega
theorem own_b1 {i L : Int32} (hi : 1 ≤ i.toInt) (h : i < L) : ¬ (i - 1) < 0 ∧ (i - 1) < L := by
  have e0 : (0 : Int32).toInt = 0 := by decide
  have e1 : (1 : Int32).toInt = 1 := by decide
  have h1 := c_isub i 1
  have h2 := rng32 (i - 1)
  have h3 := rng32 i
  rw [e1] at h1
  rw [Int32.lt_iff_toInt_lt] at h
  rw [Int32.lt_iff_toInt_lt, Int32.lt_iff_toInt_lt, e0]; omega
theorem own_i1 {i p : Int32} (hp : 0 ≤ p.toInt ∧ p.toInt ≤ 1023) (hi : 1 ≤ i.toInt) (h : i < p + 2) : 1 ≤ (i + 1).toInt ∧ (i + 1).toInt = i.toInt + 1 ∧ i.toInt < 1025 := by
  have h1 := c_iadd p 2
  have h2 := rng32 (p + 2)
  have e2 : (2 : Int32).toInt = 2 := by decide
  have e1 : (1 : Int32).toInt = 1 := by decide
  rw [e2] at h1
  have h3 := c_iadd i 1
  have h4 := rng32 (i + 1)
  rw [e1] at h3
  rw [Int32.lt_iff_toInt_lt] at h
  omega
theorem own_k1 {i p : Int32} (hp : 0 ≤ p.toInt ∧ p.toInt ≤ 1023) (hi : 1 ≤ i.toInt) (h : i < p + 2) {k : Nat} (hk : (1025 - i.toInt).toNat < k + 1) : (1025 - (i + 1).toInt).toNat < k := by
  have := own_i1 hp hi h
  omega
theorem own_p0 {p : Int32} (h : 0 ≤ p.toInt ∧ p.toInt ≤ 1023) : ¬ p < 0 := by
  have e0 : (0 : Int32).toInt = 0 := by decide
  rw [Int32.lt_iff_toInt_lt, e0]; omega
theorem own_p1 {p : Int32} (h : 0 ≤ p.toInt ∧ p.toInt ≤ 1023) : ¬ (2147483645 : Int32) < p := by
  have e0 : (2147483645 : Int32).toInt = 2147483645 := by decide
  rw [Int32.lt_iff_toInt_lt, e0]; omega
theorem own_p2 {p : Int32} (h : 1 ≤ p.toInt) : ¬ p < 1 := by
  have e0 : (1 : Int32).toInt = 1 := by decide
  rw [Int32.lt_iff_toInt_lt, e0]; omega
theorem own_m1023 (x : Int32) : 0 ≤ (x &&& (1023 : Int32)).toInt ∧ (x &&& (1023 : Int32)).toInt ≤ 1023 := by
  have h : (x &&& 1023).toInt = x.toInt % 1024 := c_mask x 1023 10 (by decide) (by decide)
  omega
theorem d1_0 : decode prog_22_method_1_code 0 = .ok (.aload_n 0, 1) := by decide +kernel
theorem d1_1 : decode prog_22_method_1_code 1 = .ok (.invokespecial 1, 3) := by decide +kernel
theorem d1_4 : decode prog_22_method_1_code 4 = .ok (.aload_n 3, 1) := by decide +kernel
theorem d1_5 : decode prog_22_method_1_code 5 = .ok (.arraylength, 1) := by decide +kernel
theorem d1_6 : decode prog_22_method_1_code 6 = .ok (.istore 7, 2) := by decide +kernel
theorem d1_8 : decode prog_22_method_1_code 8 = .ok (.iload_n 1, 1) := by decide +kernel
theorem d1_9 : decode prog_22_method_1_code 9 = .ok (.ifCond .lt 14, 3) := by decide +kernel
theorem d1_12 : decode prog_22_method_1_code 12 = .ok (.iload_n 1, 1) := by decide +kernel
theorem d1_13 : decode prog_22_method_1_code 13 = .ok (.ldc 9, 2) := by decide +kernel
theorem d1_15 : decode prog_22_method_1_code 15 = .ok (.if_icmp .gt 8, 3) := by decide +kernel
theorem d1_18 : decode prog_22_method_1_code 18 = .ok (.iload_n 2, 1) := by decide +kernel
theorem d1_19 : decode prog_22_method_1_code 19 = .ok (.iconst 1, 1) := by decide +kernel
theorem d1_20 : decode prog_22_method_1_code 20 = .ok (.if_icmp .ge 18, 3) := by decide +kernel
theorem d1_38 : decode prog_22_method_1_code 38 = .ok (.aload 4, 2) := by decide +kernel
theorem d1_40 : decode prog_22_method_1_code 40 = .ok (.arraylength, 1) := by decide +kernel
theorem d1_41 : decode prog_22_method_1_code 41 = .ok (.iload 7, 2) := by decide +kernel
theorem d1_43 : decode prog_22_method_1_code 43 = .ok (.if_icmp .ne 19, 3) := by decide +kernel
theorem d1_46 : decode prog_22_method_1_code 46 = .ok (.aload 5, 2) := by decide +kernel
theorem d1_48 : decode prog_22_method_1_code 48 = .ok (.arraylength, 1) := by decide +kernel
theorem d1_49 : decode prog_22_method_1_code 49 = .ok (.iload 7, 2) := by decide +kernel
theorem d1_51 : decode prog_22_method_1_code 51 = .ok (.if_icmp .ne 11, 3) := by decide +kernel
theorem d1_54 : decode prog_22_method_1_code 54 = .ok (.aload 6, 2) := by decide +kernel
theorem d1_56 : decode prog_22_method_1_code 56 = .ok (.arraylength, 1) := by decide +kernel
theorem d1_57 : decode prog_22_method_1_code 57 = .ok (.iload 7, 2) := by decide +kernel
theorem d1_59 : decode prog_22_method_1_code 59 = .ok (.if_icmp .eq 13, 3) := by decide +kernel
theorem d1_72 : decode prog_22_method_1_code 72 = .ok (.aload_n 0, 1) := by decide +kernel
theorem d1_73 : decode prog_22_method_1_code 73 = .ok (.iload_n 1, 1) := by decide +kernel
theorem d1_74 : decode prog_22_method_1_code 74 = .ok (.putfield 21, 3) := by decide +kernel
theorem d1_77 : decode prog_22_method_1_code 77 = .ok (.aload_n 0, 1) := by decide +kernel
theorem d1_78 : decode prog_22_method_1_code 78 = .ok (.iload_n 2, 1) := by decide +kernel
theorem d1_79 : decode prog_22_method_1_code 79 = .ok (.putfield 27, 3) := by decide +kernel
theorem d1_82 : decode prog_22_method_1_code 82 = .ok (.aload_n 0, 1) := by decide +kernel
theorem d1_83 : decode prog_22_method_1_code 83 = .ok (.iload_n 1, 1) := by decide +kernel
theorem d1_84 : decode prog_22_method_1_code 84 = .ok (.iconst 2, 1) := by decide +kernel
theorem d1_85 : decode prog_22_method_1_code 85 = .ok (.iadd, 1) := by decide +kernel
theorem d1_86 : decode prog_22_method_1_code 86 = .ok (.newarray .int, 2) := by decide +kernel
theorem d1_88 : decode prog_22_method_1_code 88 = .ok (.putfield 30, 3) := by decide +kernel
theorem d1_91 : decode prog_22_method_1_code 91 = .ok (.iconst 0, 1) := by decide +kernel
theorem d1_92 : decode prog_22_method_1_code 92 = .ok (.istore 8, 2) := by decide +kernel
theorem d1_94 : decode prog_22_method_1_code 94 = .ok (.iload 8, 2) := by decide +kernel
theorem d1_96 : decode prog_22_method_1_code 96 = .ok (.iload 7, 2) := by decide +kernel
theorem d1_98 : decode prog_22_method_1_code 98 = .ok (.if_icmp .ge 61, 3) := by decide +kernel
theorem d1_159 : decode prog_22_method_1_code 159 = .ok (.iconst 1, 1) := by decide +kernel
theorem d1_160 : decode prog_22_method_1_code 160 = .ok (.istore 8, 2) := by decide +kernel
theorem d1_162 : decode prog_22_method_1_code 162 = .ok (.iload 8, 2) := by decide +kernel
theorem d1_164 : decode prog_22_method_1_code 164 = .ok (.aload_n 0, 1) := by decide +kernel
theorem d1_165 : decode prog_22_method_1_code 165 = .ok (.getfield 30, 3) := by decide +kernel
theorem d1_168 : decode prog_22_method_1_code 168 = .ok (.arraylength, 1) := by decide +kernel
theorem d1_169 : decode prog_22_method_1_code 169 = .ok (.if_icmp .ge 28, 3) := by decide +kernel
theorem d1_172 : decode prog_22_method_1_code 172 = .ok (.aload_n 0, 1) := by decide +kernel
theorem d1_173 : decode prog_22_method_1_code 173 = .ok (.getfield 30, 3) := by decide +kernel
theorem d1_176 : decode prog_22_method_1_code 176 = .ok (.iload 8, 2) := by decide +kernel
theorem d1_178 : decode prog_22_method_1_code 178 = .ok (.dup2, 1) := by decide +kernel
theorem d1_179 : decode prog_22_method_1_code 179 = .ok (.iaload, 1) := by decide +kernel
theorem d1_180 : decode prog_22_method_1_code 180 = .ok (.aload_n 0, 1) := by decide +kernel
theorem d1_181 : decode prog_22_method_1_code 181 = .ok (.getfield 30, 3) := by decide +kernel
theorem d1_184 : decode prog_22_method_1_code 184 = .ok (.iload 8, 2) := by decide +kernel
theorem d1_186 : decode prog_22_method_1_code 186 = .ok (.iconst 1, 1) := by decide +kernel
theorem d1_187 : decode prog_22_method_1_code 187 = .ok (.isub, 1) := by decide +kernel
theorem d1_188 : decode prog_22_method_1_code 188 = .ok (.iaload, 1) := by decide +kernel
theorem d1_189 : decode prog_22_method_1_code 189 = .ok (.iadd, 1) := by decide +kernel
theorem d1_190 : decode prog_22_method_1_code 190 = .ok (.iastore, 1) := by decide +kernel
theorem d1_191 : decode prog_22_method_1_code 191 = .ok (.iinc 8 1, 3) := by decide +kernel
theorem d1_194 : decode prog_22_method_1_code 194 = .ok (.goto (-32), 3) := by decide +kernel
theorem d1_197 : decode prog_22_method_1_code 197 = .ok (.aload_n 0, 1) := by decide +kernel
theorem d1_198 : decode prog_22_method_1_code 198 = .ok (.iload 7, 2) := by decide +kernel
theorem d1_200 : decode prog_22_method_1_code 200 = .ok (.newarray .int, 2) := by decide +kernel
theorem d1_202 : decode prog_22_method_1_code 202 = .ok (.putfield 46, 3) := by decide +kernel
theorem d1_205 : decode prog_22_method_1_code 205 = .ok (.aload_n 0, 1) := by decide +kernel
theorem d1_206 : decode prog_22_method_1_code 206 = .ok (.iload 7, 2) := by decide +kernel
theorem d1_208 : decode prog_22_method_1_code 208 = .ok (.newarray .int, 2) := by decide +kernel
theorem d1_210 : decode prog_22_method_1_code 210 = .ok (.putfield 49, 3) := by decide +kernel
theorem d1_213 : decode prog_22_method_1_code 213 = .ok (.aload_n 0, 1) := by decide +kernel
theorem d1_214 : decode prog_22_method_1_code 214 = .ok (.iload 7, 2) := by decide +kernel
theorem d1_216 : decode prog_22_method_1_code 216 = .ok (.newarray .double, 2) := by decide +kernel
theorem d1_218 : decode prog_22_method_1_code 218 = .ok (.putfield 52, 3) := by decide +kernel
theorem d1_221 : decode prog_22_method_1_code 221 = .ok (.aload_n 0, 1) := by decide +kernel
theorem d1_222 : decode prog_22_method_1_code 222 = .ok (.iload 7, 2) := by decide +kernel
theorem d1_224 : decode prog_22_method_1_code 224 = .ok (.newarray .double, 2) := by decide +kernel
theorem d1_226 : decode prog_22_method_1_code 226 = .ok (.putfield 55, 3) := by decide +kernel
theorem d1_229 : decode prog_22_method_1_code 229 = .ok (.aload_n 0, 1) := by decide +kernel
theorem d1_230 : decode prog_22_method_1_code 230 = .ok (.getfield 30, 3) := by decide +kernel
theorem d1_233 : decode prog_22_method_1_code 233 = .ok (.invokevirtual 57, 3) := by decide +kernel
theorem d1_236 : decode prog_22_method_1_code 236 = .ok (.checkcast 58, 3) := by decide +kernel
theorem d1_239 : decode prog_22_method_1_code 239 = .ok (.astore 8, 2) := by decide +kernel
theorem d1_241 : decode prog_22_method_1_code 241 = .ok (.iconst 0, 1) := by decide +kernel
theorem d1_242 : decode prog_22_method_1_code 242 = .ok (.istore 9, 2) := by decide +kernel
theorem d1_244 : decode prog_22_method_1_code 244 = .ok (.iload 9, 2) := by decide +kernel
theorem d1_246 : decode prog_22_method_1_code 246 = .ok (.iload 7, 2) := by decide +kernel
theorem d1_248 : decode prog_22_method_1_code 248 = .ok (.if_icmp .ge 70, 3) := by decide +kernel
theorem d1_318 : decode prog_22_method_1_code 318 = .ok (.return_, 1) := by decide +kernel
theorem pn_1 : plainName "com/example/cabweave/cabweave/Network" = true := by first | (simp [plainName, overriddenIn]; done) | decide +kernel
theorem ef_1 (m : MethodId) (x0 : Addr) (x1 : Int32) (x2 : Int32) (x3 : Addr) (x4 : Addr) (x5 : Addr) (x6 : Addr) : entryFrame m #[(.ref x0), (.int x1), (.int x2), (.ref x3), (.ref x4), (.ref x5), (.ref x6)] 11 = mkF m 0 #[.val (.ref x0), .val (.int x1), .val (.int x2), .val (.ref x3), .val (.ref x4), .val (.ref x5), .val (.ref x6), .unset, .unset, .unset, .unset] [] := by first | (simp [entryFrame, mkF, argsToLocals, Value.category]; done) | rfl
def Q1 (Z : State) (o0 : Addr) (p1 : Int32) (p2 : Int32) (o3 : Addr) (o4 : Addr) (o5 : Addr) (o6 : Addr) (F3 : Nat → Int32) (F4 : Nat → Int32) (w15 : Int32) (w19 : Int32) (h0 : Heap) (n0 : Nat) (v : Option Value) (h : Heap) (L : List Loc) : Prop := v = none ∧ Fr n0 L ∧ Keep h0 h [o0] ∧ Fld Z h o0 "com/example/cabweave/cabweave/Network" "nodeCount" "I" (.int p1) ∧ Fld Z h o0 "com/example/cabweave/cabweave/Network" "firstThruNode" "I" (.int p2)
set_option maxRecDepth 65536 in
set_option maxHeartbeats 40000000 in
theorem rm1 (l : Launch) (Z : State) (a0 : Array Value) (hw : ∀ d ∈ tables_1, d.before a0 Z = true) (ws : List Jvm.Cond) (o0 : Addr) (p1 : Int32) (p2 : Int32) (o3 : Addr) (o4 : Addr) (o5 : Addr) (o6 : Addr) (F3 : Nat → Int32) (F4 : Nat → Int32) (w15 : Int32) (w19 : Int32) (h0 : Heap) (n0 : Nat) (Z0 : n0 ≤ h0.size) (E_o0 : Exa Z h0 o0 "com/example/cabweave/cabweave/Network") (V_o3 : own_AI Z h0 o3 .int (0 : Int32) F3) (V_o4 : own_AI Z h0 o4 .int (0 : Int32) F4) (V_o5 : own_AL Z h0 o5 .double (0 : Int32)) (V_o6 : own_AL Z h0 o6 .double (0 : Int32)) (g_o0 : n0 ≤ o0) (ne_o0_o3 : o0 ≠ o3) (ne_o0_o4 : o0 ≠ o4) (ne_o0_o5 : o0 ≠ o5) (ne_o0_o6 : o0 ≠ o6) (hn : 0 ≤ p1.toInt ∧ p1.toInt ≤ 1023) (hf : 1 ≤ p2.toInt) (F_nodeCount_o0 : Fld Z h0 o0 "com/example/cabweave/cabweave/Network" "nodeCount" "I" (.int w15)) (F_firstThruNode_o0 : Fld Z h0 o0 "com/example/cabweave/cabweave/Network" "firstThruNode" "I" (.int w19)) (F_firstOut_o0 : Fld Z h0 o0 "com/example/cabweave/cabweave/Network" "firstOut" "[I" .null) (F_tail_o0 : Fld Z h0 o0 "com/example/cabweave/cabweave/Network" "tail" "[I" .null) (F_head_o0 : Fld Z h0 o0 "com/example/cabweave/cabweave/Network" "head" "[I" .null) (F_length_o0 : Fld Z h0 o0 "com/example/cabweave/cabweave/Network" "length" "[D" .null) (F_time_o0 : Fld Z h0 o0 "com/example/cabweave/cabweave/Network" "time" "[D" .null) :
    MetFree l (⟨"com/example/cabweave/cabweave/Network", "<init>", "(II[I[I[D[D)V"⟩ : MethodName) (head1 (Jvm.Cond.code (⟨"com/example/cabweave/cabweave/Network", "<init>", "(II[I[I[D[D)V"⟩ : MethodName) prog_22_method_1_code 11 none :: ws) ({ frames := 1, cells := 6, slots := 2050, locals := 14 } : Room)) (fun a U => a = #[(.ref o0), (.int p1), (.int p2), (.ref o3), (.ref o4), (.ref o5), (.ref o6)] ∧ Z.Warmed39 U.vm ∧ U.heap = h0) (fun _ _ _ _ _ => True) (fun _ U o U' => ∃ v L, o = .returned v ∧ Q1 Z o0 p1 p2 o3 o4 o5 o6 F3 F4 w15 w19 h0 n0 v U'.heap L ∧ FrameEnd U o U' L ({ frames := 1, cells := 6, slots := 2050, locals := 14 } : Room).cells ({ frames := 1, cells := 6, slots := 2050, locals := 14 } : Room).slots) := by
  refine MetFree.of_bodySF (plainFor_of_name pn_1) hisR ?_
  intro p e s m args below meth c s₁ Bd hml0 hP hK
  obtain ⟨rfl, hZ, hh⟩ := hP
  have hx := Bd.exec
  have hby := Bd.bytes
  have hml : c.maxLocals = 11 := hml0
  have hown : s.vm.findClass "com/example/cabweave/cabweave/Network" = some m.cls := findClass_of_methodNamed Bd.named
  have hnm := (name_of_methodNamed Bd.named Bd.method).1
  have X0 : Stand p l e ({ frames := 1, cells := 6, slots := 2050, locals := 14 } : Room) s m #[(.ref o0), (.int p1), (.int p2), (.ref o3), (.ref o4), (.ref o5), (.ref o6)] below meth c s₁ [] 0 0 := Stand.of_body Bd
  have e0 : s₁.heap = h0 := by rw [← hh, Bd.state]; rfl
  have N0 := Fr.nil n0
  have pre0 : ∀ t, Steps p.tables e below (s₁.setTop (mkF m 0 #[.val (.ref o0), .val (.int p1), .val (.int p2), .val (.ref o3), .val (.ref o4), .val (.ref o5), .val (.ref o6), .unset, .unset, .unset, .unset] [])) t → Steps p.tables e below (s₁.setTop (entryFrame m #[(.ref o0), (.int p1), (.int p2), (.ref o3), (.ref o4), (.ref o5), (.ref o6)] 11)) t := fun t k => castTop (ef_1 m o0 p1 p2 o3 o4 o5 o6) k
  obtain ⟨T1, X1, e1, st1⟩ := initO X0 hx hZ hown (hw _ (List.mem_of_getElem? (i := 8) rfl)) (hw _ (List.mem_of_getElem? (i := 9) rfl)) (hw _ (List.mem_of_getElem? (i := 10) rfl)) e0 (g := (mkF m 1 #[.val (.ref o0), .val (.int p1), .val (.int p2), .val (.ref o3), .val (.ref o4), .val (.ref o5), .val (.ref o6), .unset, .unset, .unset, .unset] [(.ref o0)])) rfl (by rw [hml]; rfl) rfl (hb hby d1_1) (by decide) (W := 0) (by show 2 * 0 + _ ≤ _; exact Nat.le_of_eq rfl) (by decide)
  obtain ⟨cl2, Ar2, Sz2, Nn2, -⟩ := id V_o3
  have pre3 : ∀ t, Steps p.tables e below (T1.setTop (mkF m 9 #[.val (.ref o0), .val (.int p1), .val (.int p2), .val (.ref o3), .val (.ref o4), .val (.ref o5), .val (.ref o6), .val (.int (0 : Int32)), .unset, .unset, .unset] [(.int p1)])) t → Steps p.tables e below (s₁.setTop (entryFrame m #[(.ref o0), (.int p1), (.int p2), (.ref o3), (.ref o4), (.ref o5), (.ref o6)] 11)) t := fun t kt => pre0 t (by
      show Steps p.tables e below (s₁.setTop (mkF m 0 #[.val (.ref o0), .val (.int p1), .val (.int p2), .val (.ref o3), .val (.ref o4), .val (.ref o5), .val (.ref o6), .unset, .unset, .unset, .unset] [])) _
      refine XS.aloadN X0.here hx rfl (hb hby d1_0) rfl rfl ?_
      show Steps p.tables e below (s₁.setTop (mkF m 1 #[.val (.ref o0), .val (.int p1), .val (.int p2), .val (.ref o3), .val (.ref o4), .val (.ref o5), .val (.ref o6), .unset, .unset, .unset, .unset] [(.ref o0)])) _
      refine st1 _ ?_
      show Steps p.tables e below (T1.setTop (mkF m 4 #[.val (.ref o0), .val (.int p1), .val (.int p2), .val (.ref o3), .val (.ref o4), .val (.ref o5), .val (.ref o6), .unset, .unset, .unset, .unset] [])) _
      refine XS.aloadN X1.here hx rfl (hb hby d1_4) rfl rfl ?_
      show Steps p.tables e below (T1.setTop (mkF m 5 #[.val (.ref o0), .val (.int p1), .val (.int p2), .val (.ref o3), .val (.ref o4), .val (.ref o5), .val (.ref o6), .unset, .unset, .unset, .unset] [(.ref o3)])) _
      refine X1.arraylength hx (by rw [e1]; exact Ar2.1) (State.isArrayOf_alike hZ.alike Ar2.2.1) (g := (mkF m 5 #[.val (.ref o0), .val (.int p1), .val (.int p2), .val (.ref o3), .val (.ref o4), .val (.ref o5), .val (.ref o6), .unset, .unset, .unset, .unset] [(.ref o3)])) rfl rfl (hb hby d1_5) _ ?_
      rw [len_of Sz2 Nn2]
      show Steps p.tables e below (T1.setTop (mkF m 6 #[.val (.ref o0), .val (.int p1), .val (.int p2), .val (.ref o3), .val (.ref o4), .val (.ref o5), .val (.ref o6), .unset, .unset, .unset, .unset] [(.int (0 : Int32))])) _
      refine XS.istore X1.here hx rfl (hb hby d1_6) rfl (l' := #[.val (.ref o0), .val (.int p1), .val (.int p2), .val (.ref o3), .val (.ref o4), .val (.ref o5), .val (.ref o6), .val (.int (0 : Int32)), .unset, .unset, .unset]) rfl ?_
      show Steps p.tables e below (T1.setTop (mkF m 8 #[.val (.ref o0), .val (.int p1), .val (.int p2), .val (.ref o3), .val (.ref o4), .val (.ref o5), .val (.ref o6), .val (.int (0 : Int32)), .unset, .unset, .unset] [])) _
      refine XS.iloadN X1.here hx rfl (hb hby d1_8) rfl ?_
      exact kt)
  have hd9_4 : ¬ (p1 < (0 : Int32)) := own_p0 hn
  have pre5 : ∀ t, Steps p.tables e below (T1.setTop (mkF m 15 #[.val (.ref o0), .val (.int p1), .val (.int p2), .val (.ref o3), .val (.ref o4), .val (.ref o5), .val (.ref o6), .val (.int (0 : Int32)), .unset, .unset, .unset] [(.int (2147483645 : Int32)), (.int p1)])) t → Steps p.tables e below (s₁.setTop (entryFrame m #[(.ref o0), (.int p1), (.int p2), (.ref o3), (.ref o4), (.ref o5), (.ref o6)] 11)) t := fun t kt => pre3 t (by
      show Steps p.tables e below (T1.setTop (mkF m 9 #[.val (.ref o0), .val (.int p1), .val (.int p2), .val (.ref o3), .val (.ref o4), .val (.ref o5), .val (.ref o6), .val (.int (0 : Int32)), .unset, .unset, .unset] [(.int p1)])) _
      refine XS.ifNo X1.here hx rfl (hb hby d1_9) rfl ((if0 _ _).trans (flt hd9_4).1) ?_
      show Steps p.tables e below (T1.setTop (mkF m 12 #[.val (.ref o0), .val (.int p1), .val (.int p2), .val (.ref o3), .val (.ref o4), .val (.ref o5), .val (.ref o6), .val (.int (0 : Int32)), .unset, .unset, .unset] [])) _
      refine XS.iloadN X1.here hx rfl (hb hby d1_12) rfl ?_
      show Steps p.tables e below (T1.setTop (mkF m 13 #[.val (.ref o0), .val (.int p1), .val (.int p2), .val (.ref o3), .val (.ref o4), .val (.ref o5), .val (.ref o6), .val (.int (0 : Int32)), .unset, .unset, .unset] [(.int p1)])) _
      refine X1.ldcInt hx hown (mvT hZ (hw _ (List.mem_of_getElem? (i := 11) rfl))) (g := (mkF m 13 #[.val (.ref o0), .val (.int p1), .val (.int p2), .val (.ref o3), .val (.ref o4), .val (.ref o5), .val (.ref o6), .val (.int (0 : Int32)), .unset, .unset, .unset] [(.int p1)])) rfl (hb hby d1_13) _ ?_
      exact kt)
  have hd15_6 : ¬ ((2147483645 : Int32) < p1) := own_p1 hn
  have pre7 : ∀ t, Steps p.tables e below (T1.setTop (mkF m 20 #[.val (.ref o0), .val (.int p1), .val (.int p2), .val (.ref o3), .val (.ref o4), .val (.ref o5), .val (.ref o6), .val (.int (0 : Int32)), .unset, .unset, .unset] [(.int (1 : Int32)), (.int p2)])) t → Steps p.tables e below (s₁.setTop (entryFrame m #[(.ref o0), (.int p1), (.int p2), (.ref o3), (.ref o4), (.ref o5), (.ref o6)] 11)) t := fun t kt => pre5 t (by
      show Steps p.tables e below (T1.setTop (mkF m 15 #[.val (.ref o0), .val (.int p1), .val (.int p2), .val (.ref o3), .val (.ref o4), .val (.ref o5), .val (.ref o6), .val (.int (0 : Int32)), .unset, .unset, .unset] [(.int (2147483645 : Int32)), (.int p1)])) _
      refine XS.icmpNo X1.here hx rfl (hb hby d1_15) rfl (flt hd15_6).2.2.1 ?_
      show Steps p.tables e below (T1.setTop (mkF m 18 #[.val (.ref o0), .val (.int p1), .val (.int p2), .val (.ref o3), .val (.ref o4), .val (.ref o5), .val (.ref o6), .val (.int (0 : Int32)), .unset, .unset, .unset] [])) _
      refine XS.iloadN X1.here hx rfl (hb hby d1_18) rfl ?_
      show Steps p.tables e below (T1.setTop (mkF m 19 #[.val (.ref o0), .val (.int p1), .val (.int p2), .val (.ref o3), .val (.ref o4), .val (.ref o5), .val (.ref o6), .val (.int (0 : Int32)), .unset, .unset, .unset] [(.int p2)])) _
      refine XS.iconst X1.here hx rfl (hb hby d1_19) ?_
      exact kt)
  have hd20_8 : ¬ (p2 < (1 : Int32)) := own_p2 hf
  obtain ⟨cl9, Ar9, Sz9, Nn9, -⟩ := id V_o4
  have pre10 : ∀ t, Steps p.tables e below (T1.setTop (mkF m 43 #[.val (.ref o0), .val (.int p1), .val (.int p2), .val (.ref o3), .val (.ref o4), .val (.ref o5), .val (.ref o6), .val (.int (0 : Int32)), .unset, .unset, .unset] [(.int (0 : Int32)), (.int (0 : Int32))])) t → Steps p.tables e below (s₁.setTop (entryFrame m #[(.ref o0), (.int p1), (.int p2), (.ref o3), (.ref o4), (.ref o5), (.ref o6)] 11)) t := fun t kt => pre7 t (by
      show Steps p.tables e below (T1.setTop (mkF m 20 #[.val (.ref o0), .val (.int p1), .val (.int p2), .val (.ref o3), .val (.ref o4), .val (.ref o5), .val (.ref o6), .val (.int (0 : Int32)), .unset, .unset, .unset] [(.int (1 : Int32)), (.int p2)])) _
      refine XS.icmpYes X1.here hx rfl (pc0 := 20) (pc' := 38) rfl (hb hby d1_20) rfl (flt hd20_8).2.1 (by decide) (by decide) ?_
      show Steps p.tables e below (T1.setTop (mkF m 38 #[.val (.ref o0), .val (.int p1), .val (.int p2), .val (.ref o3), .val (.ref o4), .val (.ref o5), .val (.ref o6), .val (.int (0 : Int32)), .unset, .unset, .unset] [])) _
      refine XS.aload X1.here hx rfl (hb hby d1_38) rfl rfl ?_
      show Steps p.tables e below (T1.setTop (mkF m 40 #[.val (.ref o0), .val (.int p1), .val (.int p2), .val (.ref o3), .val (.ref o4), .val (.ref o5), .val (.ref o6), .val (.int (0 : Int32)), .unset, .unset, .unset] [(.ref o4)])) _
      refine X1.arraylength hx (by rw [e1]; exact Ar9.1) (State.isArrayOf_alike hZ.alike Ar9.2.1) (g := (mkF m 40 #[.val (.ref o0), .val (.int p1), .val (.int p2), .val (.ref o3), .val (.ref o4), .val (.ref o5), .val (.ref o6), .val (.int (0 : Int32)), .unset, .unset, .unset] [(.ref o4)])) rfl rfl (hb hby d1_40) _ ?_
      rw [len_of Sz9 Nn9]
      show Steps p.tables e below (T1.setTop (mkF m 41 #[.val (.ref o0), .val (.int p1), .val (.int p2), .val (.ref o3), .val (.ref o4), .val (.ref o5), .val (.ref o6), .val (.int (0 : Int32)), .unset, .unset, .unset] [(.int (0 : Int32))])) _
      refine XS.iload X1.here hx rfl (hb hby d1_41) rfl ?_
      exact kt)
  obtain ⟨cl11, Ar11, Sz11, Nn11, -⟩ := id V_o5
  have pre12 : ∀ t, Steps p.tables e below (T1.setTop (mkF m 51 #[.val (.ref o0), .val (.int p1), .val (.int p2), .val (.ref o3), .val (.ref o4), .val (.ref o5), .val (.ref o6), .val (.int (0 : Int32)), .unset, .unset, .unset] [(.int (0 : Int32)), (.int (0 : Int32))])) t → Steps p.tables e below (s₁.setTop (entryFrame m #[(.ref o0), (.int p1), (.int p2), (.ref o3), (.ref o4), (.ref o5), (.ref o6)] 11)) t := fun t kt => pre10 t (by
      show Steps p.tables e below (T1.setTop (mkF m 43 #[.val (.ref o0), .val (.int p1), .val (.int p2), .val (.ref o3), .val (.ref o4), .val (.ref o5), .val (.ref o6), .val (.int (0 : Int32)), .unset, .unset, .unset] [(.int (0 : Int32)), (.int (0 : Int32))])) _
      refine XS.icmpNo X1.here hx rfl (hb hby d1_43) rfl (teq (by decide : ((0 : Int32) = (0 : Int32)))).2 ?_
      show Steps p.tables e below (T1.setTop (mkF m 46 #[.val (.ref o0), .val (.int p1), .val (.int p2), .val (.ref o3), .val (.ref o4), .val (.ref o5), .val (.ref o6), .val (.int (0 : Int32)), .unset, .unset, .unset] [])) _
      refine XS.aload X1.here hx rfl (hb hby d1_46) rfl rfl ?_
      show Steps p.tables e below (T1.setTop (mkF m 48 #[.val (.ref o0), .val (.int p1), .val (.int p2), .val (.ref o3), .val (.ref o4), .val (.ref o5), .val (.ref o6), .val (.int (0 : Int32)), .unset, .unset, .unset] [(.ref o5)])) _
      refine X1.arraylength hx (by rw [e1]; exact Ar11.1) (State.isArrayOf_alike hZ.alike Ar11.2.1) (g := (mkF m 48 #[.val (.ref o0), .val (.int p1), .val (.int p2), .val (.ref o3), .val (.ref o4), .val (.ref o5), .val (.ref o6), .val (.int (0 : Int32)), .unset, .unset, .unset] [(.ref o5)])) rfl rfl (hb hby d1_48) _ ?_
      rw [len_of Sz11 Nn11]
      show Steps p.tables e below (T1.setTop (mkF m 49 #[.val (.ref o0), .val (.int p1), .val (.int p2), .val (.ref o3), .val (.ref o4), .val (.ref o5), .val (.ref o6), .val (.int (0 : Int32)), .unset, .unset, .unset] [(.int (0 : Int32))])) _
      refine XS.iload X1.here hx rfl (hb hby d1_49) rfl ?_
      exact kt)
  obtain ⟨cl13, Ar13, Sz13, Nn13, -⟩ := id V_o6
  have pre14 : ∀ t, Steps p.tables e below (T1.setTop (mkF m 59 #[.val (.ref o0), .val (.int p1), .val (.int p2), .val (.ref o3), .val (.ref o4), .val (.ref o5), .val (.ref o6), .val (.int (0 : Int32)), .unset, .unset, .unset] [(.int (0 : Int32)), (.int (0 : Int32))])) t → Steps p.tables e below (s₁.setTop (entryFrame m #[(.ref o0), (.int p1), (.int p2), (.ref o3), (.ref o4), (.ref o5), (.ref o6)] 11)) t := fun t kt => pre12 t (by
      show Steps p.tables e below (T1.setTop (mkF m 51 #[.val (.ref o0), .val (.int p1), .val (.int p2), .val (.ref o3), .val (.ref o4), .val (.ref o5), .val (.ref o6), .val (.int (0 : Int32)), .unset, .unset, .unset] [(.int (0 : Int32)), (.int (0 : Int32))])) _
      refine XS.icmpNo X1.here hx rfl (hb hby d1_51) rfl (teq (by decide : ((0 : Int32) = (0 : Int32)))).2 ?_
      show Steps p.tables e below (T1.setTop (mkF m 54 #[.val (.ref o0), .val (.int p1), .val (.int p2), .val (.ref o3), .val (.ref o4), .val (.ref o5), .val (.ref o6), .val (.int (0 : Int32)), .unset, .unset, .unset] [])) _
      refine XS.aload X1.here hx rfl (hb hby d1_54) rfl rfl ?_
      show Steps p.tables e below (T1.setTop (mkF m 56 #[.val (.ref o0), .val (.int p1), .val (.int p2), .val (.ref o3), .val (.ref o4), .val (.ref o5), .val (.ref o6), .val (.int (0 : Int32)), .unset, .unset, .unset] [(.ref o6)])) _
      refine X1.arraylength hx (by rw [e1]; exact Ar13.1) (State.isArrayOf_alike hZ.alike Ar13.2.1) (g := (mkF m 56 #[.val (.ref o0), .val (.int p1), .val (.int p2), .val (.ref o3), .val (.ref o4), .val (.ref o5), .val (.ref o6), .val (.int (0 : Int32)), .unset, .unset, .unset] [(.ref o6)])) rfl rfl (hb hby d1_56) _ ?_
      rw [len_of Sz13 Nn13]
      show Steps p.tables e below (T1.setTop (mkF m 57 #[.val (.ref o0), .val (.int p1), .val (.int p2), .val (.ref o3), .val (.ref o4), .val (.ref o5), .val (.ref o6), .val (.int (0 : Int32)), .unset, .unset, .unset] [(.int (0 : Int32))])) _
      refine XS.iload X1.here hx rfl (hb hby d1_57) rfl ?_
      exact kt)
  obtain ⟨T16, h16, X16, e16, W16, st16⟩ := putF X1 hx hZ hown (host := "") (Or.inl (hw _ (List.mem_of_getElem? (i := 12) rfl))) Via.refl e1 F_nodeCount_o0 E_o0 (Or.inr ⟨(hw _ (List.mem_of_getElem? (i := 13) rfl)), rfl, hnm⟩) (hw _ (List.mem_of_getElem? (i := 1) rfl)) (ty := .int) (by decide) rfl rfl (g := (mkF m 74 #[.val (.ref o0), .val (.int p1), .val (.int p2), .val (.ref o3), .val (.ref o4), .val (.ref o5), .val (.ref o6), .val (.int (0 : Int32)), .unset, .unset, .unset] [(.int p1), (.ref o0)])) rfl rfl (hb hby d1_74)
  have Fw16 := F_nodeCount_o0.same W16
  have K17 : Keep h0 h16 [o0] := (Keep.refl h0 [o0]).wr W16 (Or.inl (List.mem_of_getElem? (i := 0) rfl))
  have Z18 : n0 ≤ h16.size := Nat.le_trans Z0 K17.1
  have N16 := Fr.snoc X16 N0 g_o0
  obtain ⟨LS16, X16, N16⟩ : ∃ L, Stand p l e ({ frames := 1, cells := 6, slots := 2050, locals := 14 } : Room) s m #[(.ref o0), (.int p1), (.int p2), (.ref o3), (.ref o4), (.ref o5), (.ref o6)] below meth c T16 L 0 0 ∧ Fr n0 L := ⟨_, X16, N16⟩
  have c20 := (F_firstThruNode_o0.other W16 (Or.inr (slot_ne (Or.inr (hw _ (List.mem_of_getElem? (i := 15) rfl))) (Or.inr (hw _ (List.mem_of_getElem? (i := 13) rfl))) (by decide) (t := .int) (t' := .int) (by decide) (by decide))))
  obtain ⟨T21, h21, X21, e21, W21, st21⟩ := putF X16 hx hZ hown (host := "") (Or.inl (hw _ (List.mem_of_getElem? (i := 14) rfl))) Via.refl e16 c20 (E_o0.wr W16) (Or.inr ⟨(hw _ (List.mem_of_getElem? (i := 15) rfl)), rfl, hnm⟩) (hw _ (List.mem_of_getElem? (i := 1) rfl)) (ty := .int) (by decide) rfl rfl (g := (mkF m 79 #[.val (.ref o0), .val (.int p1), .val (.int p2), .val (.ref o3), .val (.ref o4), .val (.ref o5), .val (.ref o6), .val (.int (0 : Int32)), .unset, .unset, .unset] [(.int p2), (.ref o0)])) rfl rfl (hb hby d1_79)
  have Fw21 := c20.same W21
  have K22 : Keep h0 h21 [o0] := K17.wr W21 (Or.inl (List.mem_of_getElem? (i := 0) rfl))
  have Z23 : n0 ≤ h21.size := Nat.le_trans Z0 K22.1
  have N21 := Fr.snoc X21 N16 g_o0
  obtain ⟨LS21, X21, N21⟩ : ∃ L, Stand p l e ({ frames := 1, cells := 6, slots := 2050, locals := 14 } : Room) s m #[(.ref o0), (.int p1), (.int p2), (.ref o3), (.ref o4), (.ref o5), (.ref o6)] below meth c T21 L 0 0 ∧ Fr n0 L := ⟨_, X21, N21⟩
  obtain ⟨T24, h24, k24, X24, e24, E24, A24, B24, st24⟩ := newPE X21 hx hZ (hw _ (List.mem_of_getElem? (i := 3) rfl)) e21 (g := (mkF m 86 #[.val (.ref o0), .val (.int p1), .val (.int p2), .val (.ref o3), .val (.ref o4), .val (.ref o5), .val (.ref o6), .val (.int (0 : Int32)), .unset, .unset, .unset] [(.int (p1 + (2 : Int32))), (.ref o0)])) rfl (hb hby d1_86) rfl (own_nn hn) (cap := 1025) (own_cap hn) (by decide) (by decide) (by decide) (ad := "[I") (by decide)
  obtain ⟨b24, g24⟩ : ∃ z, z = h21.size := ⟨_, rfl⟩
  rw [← g24] at A24 B24 st24
  have g_b24 : n0 ≤ b24 := Nat.le_trans Z23 (Nat.le_of_eq g24.symm)
  have sz_b24 : h0.size ≤ b24 := Nat.le_trans K22.1 (Nat.le_of_eq g24.symm)
  have ne_o0_b24 : o0 ≠ b24 := Nat.ne_of_lt (Nat.lt_of_lt_of_le ((E_o0.wr W16).wr W21).lt (Nat.le_of_eq g24.symm))
  have c25 := ((V_o3.other W16 (Ne.symm ne_o0_o3)).other W21 (Ne.symm ne_o0_o3))
  have ne_o3_b24 : o3 ≠ b24 := Nat.ne_of_lt (Nat.lt_of_lt_of_le c25.lt (Nat.le_of_eq g24.symm))
  have c26 := ((V_o4.other W16 (Ne.symm ne_o0_o4)).other W21 (Ne.symm ne_o0_o4))
  have ne_o4_b24 : o4 ≠ b24 := Nat.ne_of_lt (Nat.lt_of_lt_of_le c26.lt (Nat.le_of_eq g24.symm))
  have c27 := ((V_o5.other W16 (Ne.symm ne_o0_o5)).other W21 (Ne.symm ne_o0_o5))
  have ne_o5_b24 : o5 ≠ b24 := Nat.ne_of_lt (Nat.lt_of_lt_of_le c27.lt (Nat.le_of_eq g24.symm))
  have c28 := ((V_o6.other W16 (Ne.symm ne_o0_o6)).other W21 (Ne.symm ne_o0_o6))
  have ne_o6_b24 : o6 ≠ b24 := Nat.ne_of_lt (Nat.lt_of_lt_of_le c28.lt (Nat.le_of_eq g24.symm))
  have K29 : Keep h0 h24 [o0] := K22.ext E24
  have Z30 : n0 ≤ h24.size := Nat.le_trans Z0 K29.1
  have E_b24 := B24
  have V_b24 : own_AI Z h24 b24 .int (p1 + (2 : Int32)) (fun _ => 0) := own_AI.new A24 (own_nn hn) rfl
  have c31 := (((F_firstOut_o0.other W16 (Or.inr (slot_ne (Or.inr (hw _ (List.mem_of_getElem? (i := 17) rfl))) (Or.inr (hw _ (List.mem_of_getElem? (i := 13) rfl))) (by decide) (t := (.array .int)) (t' := .int) (by decide) (by decide)))).other W21 (Or.inr (slot_ne (Or.inr (hw _ (List.mem_of_getElem? (i := 17) rfl))) (Or.inr (hw _ (List.mem_of_getElem? (i := 15) rfl))) (by decide) (t := (.array .int)) (t' := .int) (by decide) (by decide)))).ext E24)
  obtain ⟨T32, h32, X32, e32, W32, st32⟩ := putF X24 hx hZ hown (host := "") (Or.inl (hw _ (List.mem_of_getElem? (i := 16) rfl))) Via.refl e24 c31 (((E_o0.wr W16).wr W21).ext E24) (Or.inr ⟨(hw _ (List.mem_of_getElem? (i := 17) rfl)), rfl, hnm⟩) (hw _ (List.mem_of_getElem? (i := 1) rfl)) (ty := (.array .int)) (by decide) rfl rfl (g := (mkF m 88 #[.val (.ref o0), .val (.int p1), .val (.int p2), .val (.ref o3), .val (.ref o4), .val (.ref o5), .val (.ref o6), .val (.int (0 : Int32)), .unset, .unset, .unset] [(.ref b24), (.ref o0)])) rfl rfl (hb hby d1_88)
  have Fw32 := c31.same W32
  have K33 : Keep h0 h32 [o0] := K29.wr W32 (Or.inl (List.mem_of_getElem? (i := 0) rfl))
  have Z34 : n0 ≤ h32.size := Nat.le_trans Z0 K33.1
  have N32 := Fr.snoc X32 N21 g_o0
  obtain ⟨LS32, X32, N32⟩ : ∃ L, Stand p l e ({ frames := 1, cells := 6, slots := 2050, locals := 14 } : Room) s m #[(.ref o0), (.int p1), (.int p2), (.ref o3), (.ref o4), (.ref o5), (.ref o6)] below meth c T32 L 1 1025 ∧ Fr n0 L := ⟨_, X32, N32⟩
  have pre35 : ∀ t, Steps p.tables e below (T32.setTop (mkF m 98 #[.val (.ref o0), .val (.int p1), .val (.int p2), .val (.ref o3), .val (.ref o4), .val (.ref o5), .val (.ref o6), .val (.int (0 : Int32)), .val (.int (0 : Int32)), .unset, .unset] [(.int (0 : Int32)), (.int (0 : Int32))])) t → Steps p.tables e below (s₁.setTop (entryFrame m #[(.ref o0), (.int p1), (.int p2), (.ref o3), (.ref o4), (.ref o5), (.ref o6)] 11)) t := fun t kt => pre14 t (by
      show Steps p.tables e below (T1.setTop (mkF m 59 #[.val (.ref o0), .val (.int p1), .val (.int p2), .val (.ref o3), .val (.ref o4), .val (.ref o5), .val (.ref o6), .val (.int (0 : Int32)), .unset, .unset, .unset] [(.int (0 : Int32)), (.int (0 : Int32))])) _
      refine XS.icmpYes X1.here hx rfl (pc0 := 59) (pc' := 72) rfl (hb hby d1_59) rfl (teq (by decide : ((0 : Int32) = (0 : Int32)))).1 (by decide) (by decide) ?_
      show Steps p.tables e below (T1.setTop (mkF m 72 #[.val (.ref o0), .val (.int p1), .val (.int p2), .val (.ref o3), .val (.ref o4), .val (.ref o5), .val (.ref o6), .val (.int (0 : Int32)), .unset, .unset, .unset] [])) _
      refine XS.aloadN X1.here hx rfl (hb hby d1_72) rfl rfl ?_
      show Steps p.tables e below (T1.setTop (mkF m 73 #[.val (.ref o0), .val (.int p1), .val (.int p2), .val (.ref o3), .val (.ref o4), .val (.ref o5), .val (.ref o6), .val (.int (0 : Int32)), .unset, .unset, .unset] [(.ref o0)])) _
      refine XS.iloadN X1.here hx rfl (hb hby d1_73) rfl ?_
      show Steps p.tables e below (T1.setTop (mkF m 74 #[.val (.ref o0), .val (.int p1), .val (.int p2), .val (.ref o3), .val (.ref o4), .val (.ref o5), .val (.ref o6), .val (.int (0 : Int32)), .unset, .unset, .unset] [(.int p1), (.ref o0)])) _
      refine st16 _ ?_
      show Steps p.tables e below (T16.setTop (mkF m 77 #[.val (.ref o0), .val (.int p1), .val (.int p2), .val (.ref o3), .val (.ref o4), .val (.ref o5), .val (.ref o6), .val (.int (0 : Int32)), .unset, .unset, .unset] [])) _
      refine XS.aloadN X16.here hx rfl (hb hby d1_77) rfl rfl ?_
      show Steps p.tables e below (T16.setTop (mkF m 78 #[.val (.ref o0), .val (.int p1), .val (.int p2), .val (.ref o3), .val (.ref o4), .val (.ref o5), .val (.ref o6), .val (.int (0 : Int32)), .unset, .unset, .unset] [(.ref o0)])) _
      refine XS.iloadN X16.here hx rfl (hb hby d1_78) rfl ?_
      show Steps p.tables e below (T16.setTop (mkF m 79 #[.val (.ref o0), .val (.int p1), .val (.int p2), .val (.ref o3), .val (.ref o4), .val (.ref o5), .val (.ref o6), .val (.int (0 : Int32)), .unset, .unset, .unset] [(.int p2), (.ref o0)])) _
      refine st21 _ ?_
      show Steps p.tables e below (T21.setTop (mkF m 82 #[.val (.ref o0), .val (.int p1), .val (.int p2), .val (.ref o3), .val (.ref o4), .val (.ref o5), .val (.ref o6), .val (.int (0 : Int32)), .unset, .unset, .unset] [])) _
      refine XS.aloadN X21.here hx rfl (hb hby d1_82) rfl rfl ?_
      show Steps p.tables e below (T21.setTop (mkF m 83 #[.val (.ref o0), .val (.int p1), .val (.int p2), .val (.ref o3), .val (.ref o4), .val (.ref o5), .val (.ref o6), .val (.int (0 : Int32)), .unset, .unset, .unset] [(.ref o0)])) _
      refine XS.iloadN X21.here hx rfl (hb hby d1_83) rfl ?_
      show Steps p.tables e below (T21.setTop (mkF m 84 #[.val (.ref o0), .val (.int p1), .val (.int p2), .val (.ref o3), .val (.ref o4), .val (.ref o5), .val (.ref o6), .val (.int (0 : Int32)), .unset, .unset, .unset] [(.int p1), (.ref o0)])) _
      refine XS.iconst X21.here hx rfl (hb hby d1_84) ?_
      show Steps p.tables e below (T21.setTop (mkF m 85 #[.val (.ref o0), .val (.int p1), .val (.int p2), .val (.ref o3), .val (.ref o4), .val (.ref o5), .val (.ref o6), .val (.int (0 : Int32)), .unset, .unset, .unset] [(.int (2 : Int32)), (.int p1), (.ref o0)])) _
      refine XS.iadd X21.here hx rfl (hb hby d1_85) rfl ?_
      show Steps p.tables e below (T21.setTop (mkF m 86 #[.val (.ref o0), .val (.int p1), .val (.int p2), .val (.ref o3), .val (.ref o4), .val (.ref o5), .val (.ref o6), .val (.int (0 : Int32)), .unset, .unset, .unset] [(.int (p1 + (2 : Int32))), (.ref o0)])) _
      refine st24 _ ?_
      show Steps p.tables e below (T24.setTop (mkF m 88 #[.val (.ref o0), .val (.int p1), .val (.int p2), .val (.ref o3), .val (.ref o4), .val (.ref o5), .val (.ref o6), .val (.int (0 : Int32)), .unset, .unset, .unset] [(.ref b24), (.ref o0)])) _
      refine st32 _ ?_
      show Steps p.tables e below (T32.setTop (mkF m 91 #[.val (.ref o0), .val (.int p1), .val (.int p2), .val (.ref o3), .val (.ref o4), .val (.ref o5), .val (.ref o6), .val (.int (0 : Int32)), .unset, .unset, .unset] [])) _
      refine XS.iconst X32.here hx rfl (hb hby d1_91) ?_
      show Steps p.tables e below (T32.setTop (mkF m 92 #[.val (.ref o0), .val (.int p1), .val (.int p2), .val (.ref o3), .val (.ref o4), .val (.ref o5), .val (.ref o6), .val (.int (0 : Int32)), .unset, .unset, .unset] [(.int (0 : Int32))])) _
      refine XS.istore X32.here hx rfl (hb hby d1_92) rfl (l' := #[.val (.ref o0), .val (.int p1), .val (.int p2), .val (.ref o3), .val (.ref o4), .val (.ref o5), .val (.ref o6), .val (.int (0 : Int32)), .val (.int (0 : Int32)), .unset, .unset]) rfl ?_
      show Steps p.tables e below (T32.setTop (mkF m 94 #[.val (.ref o0), .val (.int p1), .val (.int p2), .val (.ref o3), .val (.ref o4), .val (.ref o5), .val (.ref o6), .val (.int (0 : Int32)), .val (.int (0 : Int32)), .unset, .unset] [])) _
      refine XS.iload X32.here hx rfl (hb hby d1_94) rfl ?_
      show Steps p.tables e below (T32.setTop (mkF m 96 #[.val (.ref o0), .val (.int p1), .val (.int p2), .val (.ref o3), .val (.ref o4), .val (.ref o5), .val (.ref o6), .val (.int (0 : Int32)), .val (.int (0 : Int32)), .unset, .unset] [(.int (0 : Int32))])) _
      refine XS.iload X32.here hx rfl (hb hby d1_96) rfl ?_
      exact kt)
  have pre36 : ∀ t, Steps p.tables e below (T32.setTop (mkF m 162 #[.val (.ref o0), .val (.int p1), .val (.int p2), .val (.ref o3), .val (.ref o4), .val (.ref o5), .val (.ref o6), .val (.int (0 : Int32)), .val (.int (1 : Int32)), .unset, .unset] [])) t → Steps p.tables e below (s₁.setTop (entryFrame m #[(.ref o0), (.int p1), (.int p2), (.ref o3), (.ref o4), (.ref o5), (.ref o6)] 11)) t := fun t kt => pre35 t (by
      show Steps p.tables e below (T32.setTop (mkF m 98 #[.val (.ref o0), .val (.int p1), .val (.int p2), .val (.ref o3), .val (.ref o4), .val (.ref o5), .val (.ref o6), .val (.int (0 : Int32)), .val (.int (0 : Int32)), .unset, .unset] [(.int (0 : Int32)), (.int (0 : Int32))])) _
      refine XS.icmpYes X32.here hx rfl (pc0 := 98) (pc' := 159) rfl (hb hby d1_98) rfl (flt (by decide : ¬ ((0 : Int32) < (0 : Int32)))).2.1 (by decide) (by decide) ?_
      show Steps p.tables e below (T32.setTop (mkF m 159 #[.val (.ref o0), .val (.int p1), .val (.int p2), .val (.ref o3), .val (.ref o4), .val (.ref o5), .val (.ref o6), .val (.int (0 : Int32)), .val (.int (0 : Int32)), .unset, .unset] [])) _
      refine XS.iconst X32.here hx rfl (hb hby d1_159) ?_
      show Steps p.tables e below (T32.setTop (mkF m 160 #[.val (.ref o0), .val (.int p1), .val (.int p2), .val (.ref o3), .val (.ref o4), .val (.ref o5), .val (.ref o6), .val (.int (0 : Int32)), .val (.int (0 : Int32)), .unset, .unset] [(.int (1 : Int32))])) _
      refine XS.istore X32.here hx rfl (hb hby d1_160) rfl (l' := #[.val (.ref o0), .val (.int p1), .val (.int p2), .val (.ref o3), .val (.ref o4), .val (.ref o5), .val (.ref o6), .val (.int (0 : Int32)), .val (.int (1 : Int32)), .unset, .unset]) rfl ?_
      exact kt)
  have loop37 : ∀ (k : Nat) (i37 : Int32) (F37_0 : Nat → Int32) (TL37 : State) (hL37 : Heap) (LL37 : List Loc), (1 ≤ i37.toInt) → (1025 - i37.toInt).toNat < k → Stand p l e ({ frames := 1, cells := 6, slots := 2050, locals := 14 } : Room) s m #[(.ref o0), (.int p1), (.int p2), (.ref o3), (.ref o4), (.ref o5), (.ref o6)] below meth c TL37 LL37 1 1025 → TL37.heap = hL37 → Fr n0 LL37 → Keep h32 hL37 [b24] → own_AI Z hL37 b24 .int (p1 + (2 : Int32)) F37_0 → ∃ (i37' : Int32) (F37_0' : Nat → Int32) (T' : State) (h' : Heap) (L' : List Loc), Stand p l e ({ frames := 1, cells := 6, slots := 2050, locals := 14 } : Room) s m #[(.ref o0), (.int p1), (.int p2), (.ref o3), (.ref o4), (.ref o5), (.ref o6)] below meth c T' L' 1 1025 ∧ T'.heap = h' ∧ Fr n0 L' ∧ Keep h32 h' [b24] ∧ own_AI Z h' b24 .int (p1 + (2 : Int32)) F37_0' ∧ ∀ t, Steps p.tables e below (T'.setTop (mkF m 197 #[.val (.ref o0), .val (.int p1), .val (.int p2), .val (.ref o3), .val (.ref o4), .val (.ref o5), .val (.ref o6), .val (.int (0 : Int32)), .val (.int i37'), .unset, .unset] [])) t → Steps p.tables e below (TL37.setTop (mkF m 162 #[.val (.ref o0), .val (.int p1), .val (.int p2), .val (.ref o3), .val (.ref o4), .val (.ref o5), .val (.ref o6), .val (.int (0 : Int32)), .val (.int i37), .unset, .unset] [])) t := by
    intro k
    induction k with
    | zero => intro i37 F37_0 TL37 hL37 LL37 hi hmu; exact absurd hmu (Nat.not_lt_zero _)
    | succ k ih =>
      intro i37 F37_0 TL37 hL37 LL37 hi hmu XL37 eL37 NL37 KL37 VL37_0
      have preL37 : ∀ t, Steps p.tables e below (TL37.setTop (mkF m 162 #[.val (.ref o0), .val (.int p1), .val (.int p2), .val (.ref o3), .val (.ref o4), .val (.ref o5), .val (.ref o6), .val (.int (0 : Int32)), .val (.int i37), .unset, .unset] [])) t → Steps p.tables e below (TL37.setTop (mkF m 162 #[.val (.ref o0), .val (.int p1), .val (.int p2), .val (.ref o3), .val (.ref o4), .val (.ref o5), .val (.ref o6), .val (.int (0 : Int32)), .val (.int i37), .unset, .unset] [])) t := fun _ q => q
      have K38 : Keep h0 hL37 [o0] := K33.trans KL37 (allS (Or.inr sz_b24) all0)
      have Z39 : n0 ≤ hL37.size := Nat.le_trans Z0 K38.1
      obtain ⟨T40, X40, e40, st40⟩ := getF XL37 hx hZ hown (host := "") (Or.inl (hw _ (List.mem_of_getElem? (i := 16) rfl))) Via.refl eL37 (Fw32.keep KL37 (ninS ne_o0_b24 nin0)) (g := (mkF m 165 #[.val (.ref o0), .val (.int p1), .val (.int p2), .val (.ref o3), .val (.ref o4), .val (.ref o5), .val (.ref o6), .val (.int (0 : Int32)), .val (.int i37), .unset, .unset] [(.ref o0), (.int i37)])) rfl rfl (hb hby d1_165)
      obtain ⟨cl41, Ar41, Sz41, Nn41, -⟩ := id VL37_0
      have pre42 : ∀ t, Steps p.tables e below (T40.setTop (mkF m 169 #[.val (.ref o0), .val (.int p1), .val (.int p2), .val (.ref o3), .val (.ref o4), .val (.ref o5), .val (.ref o6), .val (.int (0 : Int32)), .val (.int i37), .unset, .unset] [(.int (p1 + (2 : Int32))), (.int i37)])) t → Steps p.tables e below (TL37.setTop (mkF m 162 #[.val (.ref o0), .val (.int p1), .val (.int p2), .val (.ref o3), .val (.ref o4), .val (.ref o5), .val (.ref o6), .val (.int (0 : Int32)), .val (.int i37), .unset, .unset] [])) t := fun t kt => preL37 t (by
          show Steps p.tables e below (TL37.setTop (mkF m 162 #[.val (.ref o0), .val (.int p1), .val (.int p2), .val (.ref o3), .val (.ref o4), .val (.ref o5), .val (.ref o6), .val (.int (0 : Int32)), .val (.int i37), .unset, .unset] [])) _
          refine XS.iload XL37.here hx rfl (hb hby d1_162) rfl ?_
          show Steps p.tables e below (TL37.setTop (mkF m 164 #[.val (.ref o0), .val (.int p1), .val (.int p2), .val (.ref o3), .val (.ref o4), .val (.ref o5), .val (.ref o6), .val (.int (0 : Int32)), .val (.int i37), .unset, .unset] [(.int i37)])) _
          refine XS.aloadN XL37.here hx rfl (hb hby d1_164) rfl rfl ?_
          show Steps p.tables e below (TL37.setTop (mkF m 165 #[.val (.ref o0), .val (.int p1), .val (.int p2), .val (.ref o3), .val (.ref o4), .val (.ref o5), .val (.ref o6), .val (.int (0 : Int32)), .val (.int i37), .unset, .unset] [(.ref o0), (.int i37)])) _
          refine st40 _ ?_
          show Steps p.tables e below (T40.setTop (mkF m 168 #[.val (.ref o0), .val (.int p1), .val (.int p2), .val (.ref o3), .val (.ref o4), .val (.ref o5), .val (.ref o6), .val (.int (0 : Int32)), .val (.int i37), .unset, .unset] [(.ref b24), (.int i37)])) _
          refine X40.arraylength hx (by rw [e40]; exact Ar41.1) (State.isArrayOf_alike hZ.alike Ar41.2.1) (g := (mkF m 168 #[.val (.ref o0), .val (.int p1), .val (.int p2), .val (.ref o3), .val (.ref o4), .val (.ref o5), .val (.ref o6), .val (.int (0 : Int32)), .val (.int i37), .unset, .unset] [(.ref b24), (.int i37)])) rfl rfl (hb hby d1_168) _ ?_
          rw [len_of Sz41 Nn41]
          exact kt)
      by_cases hc169_43 : i37 < (p1 + (2 : Int32))
      · obtain ⟨T44, X44, e44, st44⟩ := getF X40 hx hZ hown (host := "") (Or.inl (hw _ (List.mem_of_getElem? (i := 16) rfl))) Via.refl e40 (Fw32.keep KL37 (ninS ne_o0_b24 nin0)) (g := (mkF m 173 #[.val (.ref o0), .val (.int p1), .val (.int p2), .val (.ref o3), .val (.ref o4), .val (.ref o5), .val (.ref o6), .val (.int (0 : Int32)), .val (.int i37), .unset, .unset] [(.ref o0)])) rfl rfl (hb hby d1_173)
        obtain ⟨cl45, Ar45, Sz45, Nn45, Hs45⟩ := id VL37_0
        have hin45 : ¬ (i37 < 0 ∨ cl45.slots.size ≤ (i37).toNatClampNeg) := inb_of Sz45 (own_b0 hi hc169_43)
        have hat45 : cl45.slots[(i37).toNatClampNeg]? = some (.int (F37_0 (i37).toNatClampNeg)) := (Hs45 _ (own_lt hin45)).1
        obtain ⟨T46, X46, e46, st46⟩ := getF X44 hx hZ hown (host := "") (Or.inl (hw _ (List.mem_of_getElem? (i := 16) rfl))) Via.refl e44 (Fw32.keep KL37 (ninS ne_o0_b24 nin0)) (g := (mkF m 181 #[.val (.ref o0), .val (.int p1), .val (.int p2), .val (.ref o3), .val (.ref o4), .val (.ref o5), .val (.ref o6), .val (.int (0 : Int32)), .val (.int i37), .unset, .unset] [(.ref o0), (.int (F37_0 (i37).toNatClampNeg)), (.int i37), (.ref b24)])) rfl rfl (hb hby d1_181)
        obtain ⟨cl47, Ar47, Sz47, Nn47, Hs47⟩ := id VL37_0
        have hin47 : ¬ ((i37 - (1 : Int32)) < 0 ∨ cl47.slots.size ≤ ((i37 - (1 : Int32))).toNatClampNeg) := inb_of Sz47 (own_b1 hi hc169_43)
        have hat47 : cl47.slots[((i37 - (1 : Int32))).toNatClampNeg]? = some (.int (F37_0 ((i37 - (1 : Int32))).toNatClampNeg)) := (Hs47 _ (own_lt hin47)).1
        obtain ⟨cl48, Ar48, Sz48, Nn48, Hs48⟩ := id VL37_0
        have hin48 : ¬ (i37 < 0 ∨ cl48.slots.size ≤ (i37).toNatClampNeg) := inb_of Sz48 (own_b0 hi hc169_43)
        obtain ⟨T49, h49, X49, e49, W49, st49⟩ := stI X46 hx hZ e46 Ar48 (j := i37) hin48 (g := (mkF m 190 #[.val (.ref o0), .val (.int p1), .val (.int p2), .val (.ref o3), .val (.ref o4), .val (.ref o5), .val (.ref o6), .val (.int (0 : Int32)), .val (.int i37), .unset, .unset] [(.int ((F37_0 (i37).toNatClampNeg) + (F37_0 ((i37 - (1 : Int32))).toNatClampNeg))), (.int i37), (.ref b24)])) rfl rfl (hb hby d1_190)
        have V49 : own_AI Z h49 b24 .int (p1 + (2 : Int32)) (own_upd F37_0 (i37).toNatClampNeg ((F37_0 (i37).toNatClampNeg) + (F37_0 ((i37 - (1 : Int32))).toNatClampNeg))) := own_AI.set VL37_0 rfl W49
        have K50 : Keep h0 h49 [o0] := K38.wr W49 (Or.inr sz_b24)
        have KL51 : Keep h32 h49 [b24] := KL37.wr W49 (Or.inl (List.mem_of_getElem? (i := 0) rfl))
        have Z52 : n0 ≤ h49.size := Nat.le_trans Z0 K50.1
        have N49 := Fr.snoc X49 NL37 g_b24
        obtain ⟨LS49, X49, N49⟩ : ∃ L, Stand p l e ({ frames := 1, cells := 6, slots := 2050, locals := 14 } : Room) s m #[(.ref o0), (.int p1), (.int p2), (.ref o3), (.ref o4), (.ref o5), (.ref o6)] below meth c T49 L 1 1025 ∧ Fr n0 L := ⟨_, X49, N49⟩
        obtain ⟨y53_0, y53_1, T53, h53, L53, X53, e53, N53, K53, V53_0, st53⟩ := ih ((i37 + (1 : Int32))) ((own_upd F37_0 (i37).toNatClampNeg ((F37_0 (i37).toNatClampNeg) + (F37_0 ((i37 - (1 : Int32))).toNatClampNeg)))) T49 h49 _ ((own_i1 hn hi hc169_43).1) (own_k1 hn hi hc169_43 hmu) X49 e49 N49 KL51 V49
        refine ⟨y53_0, y53_1, T53, h53, L53, X53, e53, N53, K53, V53_0, fun t kt => pre42 t ?_⟩
        show Steps p.tables e below (T40.setTop (mkF m 169 #[.val (.ref o0), .val (.int p1), .val (.int p2), .val (.ref o3), .val (.ref o4), .val (.ref o5), .val (.ref o6), .val (.int (0 : Int32)), .val (.int i37), .unset, .unset] [(.int (p1 + (2 : Int32))), (.int i37)])) _
        refine XS.icmpNo X40.here hx rfl (hb hby d1_169) rfl (tlt hc169_43).2.1 ?_
        show Steps p.tables e below (T40.setTop (mkF m 172 #[.val (.ref o0), .val (.int p1), .val (.int p2), .val (.ref o3), .val (.ref o4), .val (.ref o5), .val (.ref o6), .val (.int (0 : Int32)), .val (.int i37), .unset, .unset] [])) _
        refine XS.aloadN X40.here hx rfl (hb hby d1_172) rfl rfl ?_
        show Steps p.tables e below (T40.setTop (mkF m 173 #[.val (.ref o0), .val (.int p1), .val (.int p2), .val (.ref o3), .val (.ref o4), .val (.ref o5), .val (.ref o6), .val (.int (0 : Int32)), .val (.int i37), .unset, .unset] [(.ref o0)])) _
        refine st44 _ ?_
        show Steps p.tables e below (T44.setTop (mkF m 176 #[.val (.ref o0), .val (.int p1), .val (.int p2), .val (.ref o3), .val (.ref o4), .val (.ref o5), .val (.ref o6), .val (.int (0 : Int32)), .val (.int i37), .unset, .unset] [(.ref b24)])) _
        refine XS.iload X44.here hx rfl (hb hby d1_176) rfl ?_
        show Steps p.tables e below (T44.setTop (mkF m 178 #[.val (.ref o0), .val (.int p1), .val (.int p2), .val (.ref o3), .val (.ref o4), .val (.ref o5), .val (.ref o6), .val (.int (0 : Int32)), .val (.int i37), .unset, .unset] [(.int i37), (.ref b24)])) _
        jvm_step X44.here [X44.here.top, hx, (hb hby d1_178), Value.category]
        show Steps p.tables e below (T44.setTop (mkF m 179 #[.val (.ref o0), .val (.int p1), .val (.int p2), .val (.ref o3), .val (.ref o4), .val (.ref o5), .val (.ref o6), .val (.int (0 : Int32)), .val (.int i37), .unset, .unset] [(.int i37), (.ref b24), (.int i37), (.ref b24)])) _
        refine X44.iaload hx (j := i37) (v := (.int (F37_0 (i37).toNatClampNeg))) (by rw [e44]; exact Ar45.1) (State.isArrayOf_alike hZ.alike Ar45.2.1) Ar45.2.2 hin45 hat45 (g := (mkF m 179 #[.val (.ref o0), .val (.int p1), .val (.int p2), .val (.ref o3), .val (.ref o4), .val (.ref o5), .val (.ref o6), .val (.int (0 : Int32)), .val (.int i37), .unset, .unset] [(.int i37), (.ref b24), (.int i37), (.ref b24)])) rfl rfl (hb hby d1_179) _ ?_
        show Steps p.tables e below (T44.setTop (mkF m 180 #[.val (.ref o0), .val (.int p1), .val (.int p2), .val (.ref o3), .val (.ref o4), .val (.ref o5), .val (.ref o6), .val (.int (0 : Int32)), .val (.int i37), .unset, .unset] [(.int (F37_0 (i37).toNatClampNeg)), (.int i37), (.ref b24)])) _
        refine XS.aloadN X44.here hx rfl (hb hby d1_180) rfl rfl ?_
        show Steps p.tables e below (T44.setTop (mkF m 181 #[.val (.ref o0), .val (.int p1), .val (.int p2), .val (.ref o3), .val (.ref o4), .val (.ref o5), .val (.ref o6), .val (.int (0 : Int32)), .val (.int i37), .unset, .unset] [(.ref o0), (.int (F37_0 (i37).toNatClampNeg)), (.int i37), (.ref b24)])) _
        refine st46 _ ?_
        show Steps p.tables e below (T46.setTop (mkF m 184 #[.val (.ref o0), .val (.int p1), .val (.int p2), .val (.ref o3), .val (.ref o4), .val (.ref o5), .val (.ref o6), .val (.int (0 : Int32)), .val (.int i37), .unset, .unset] [(.ref b24), (.int (F37_0 (i37).toNatClampNeg)), (.int i37), (.ref b24)])) _
        refine XS.iload X46.here hx rfl (hb hby d1_184) rfl ?_
        show Steps p.tables e below (T46.setTop (mkF m 186 #[.val (.ref o0), .val (.int p1), .val (.int p2), .val (.ref o3), .val (.ref o4), .val (.ref o5), .val (.ref o6), .val (.int (0 : Int32)), .val (.int i37), .unset, .unset] [(.int i37), (.ref b24), (.int (F37_0 (i37).toNatClampNeg)), (.int i37), (.ref b24)])) _
        refine XS.iconst X46.here hx rfl (hb hby d1_186) ?_
        show Steps p.tables e below (T46.setTop (mkF m 187 #[.val (.ref o0), .val (.int p1), .val (.int p2), .val (.ref o3), .val (.ref o4), .val (.ref o5), .val (.ref o6), .val (.int (0 : Int32)), .val (.int i37), .unset, .unset] [(.int (1 : Int32)), (.int i37), (.ref b24), (.int (F37_0 (i37).toNatClampNeg)), (.int i37), (.ref b24)])) _
        refine XS.isub X46.here hx rfl (hb hby d1_187) rfl ?_
        show Steps p.tables e below (T46.setTop (mkF m 188 #[.val (.ref o0), .val (.int p1), .val (.int p2), .val (.ref o3), .val (.ref o4), .val (.ref o5), .val (.ref o6), .val (.int (0 : Int32)), .val (.int i37), .unset, .unset] [(.int (i37 - (1 : Int32))), (.ref b24), (.int (F37_0 (i37).toNatClampNeg)), (.int i37), (.ref b24)])) _
        refine X46.iaload hx (j := (i37 - (1 : Int32))) (v := (.int (F37_0 ((i37 - (1 : Int32))).toNatClampNeg))) (by rw [e46]; exact Ar47.1) (State.isArrayOf_alike hZ.alike Ar47.2.1) Ar47.2.2 hin47 hat47 (g := (mkF m 188 #[.val (.ref o0), .val (.int p1), .val (.int p2), .val (.ref o3), .val (.ref o4), .val (.ref o5), .val (.ref o6), .val (.int (0 : Int32)), .val (.int i37), .unset, .unset] [(.int (i37 - (1 : Int32))), (.ref b24), (.int (F37_0 (i37).toNatClampNeg)), (.int i37), (.ref b24)])) rfl rfl (hb hby d1_188) _ ?_
        show Steps p.tables e below (T46.setTop (mkF m 189 #[.val (.ref o0), .val (.int p1), .val (.int p2), .val (.ref o3), .val (.ref o4), .val (.ref o5), .val (.ref o6), .val (.int (0 : Int32)), .val (.int i37), .unset, .unset] [(.int (F37_0 ((i37 - (1 : Int32))).toNatClampNeg)), (.int (F37_0 (i37).toNatClampNeg)), (.int i37), (.ref b24)])) _
        refine XS.iadd X46.here hx rfl (hb hby d1_189) rfl ?_
        show Steps p.tables e below (T46.setTop (mkF m 190 #[.val (.ref o0), .val (.int p1), .val (.int p2), .val (.ref o3), .val (.ref o4), .val (.ref o5), .val (.ref o6), .val (.int (0 : Int32)), .val (.int i37), .unset, .unset] [(.int ((F37_0 (i37).toNatClampNeg) + (F37_0 ((i37 - (1 : Int32))).toNatClampNeg))), (.int i37), (.ref b24)])) _
        refine st49 _ ?_
        show Steps p.tables e below (T49.setTop (mkF m 191 #[.val (.ref o0), .val (.int p1), .val (.int p2), .val (.ref o3), .val (.ref o4), .val (.ref o5), .val (.ref o6), .val (.int (0 : Int32)), .val (.int i37), .unset, .unset] [])) _
        refine XS.iinc X49.here hx rfl (hb hby d1_191) rfl (l' := #[.val (.ref o0), .val (.int p1), .val (.int p2), .val (.ref o3), .val (.ref o4), .val (.ref o5), .val (.ref o6), .val (.int (0 : Int32)), .val (.int (i37 + (1 : Int32))), .unset, .unset]) rfl ?_
        show Steps p.tables e below (T49.setTop (mkF m 194 #[.val (.ref o0), .val (.int p1), .val (.int p2), .val (.ref o3), .val (.ref o4), .val (.ref o5), .val (.ref o6), .val (.int (0 : Int32)), .val (.int (i37 + (1 : Int32))), .unset, .unset] [])) _
        refine XS.goto X49.here hx rfl (pc0 := 194) (pc' := 162) rfl (hb hby d1_194) (by decide) (by decide) ?_
        exact st53 t kt
      · refine ⟨i37, F37_0, T40, hL37, _, X40, e40, NL37, KL37, VL37_0, fun t kt => pre42 t ?_⟩
        show Steps p.tables e below (T40.setTop (mkF m 169 #[.val (.ref o0), .val (.int p1), .val (.int p2), .val (.ref o3), .val (.ref o4), .val (.ref o5), .val (.ref o6), .val (.int (0 : Int32)), .val (.int i37), .unset, .unset] [(.int (p1 + (2 : Int32))), (.int i37)])) _
        refine XS.icmpYes X40.here hx rfl (pc0 := 169) (pc' := 197) rfl (hb hby d1_169) rfl (flt hc169_43).2.1 (by decide) (by decide) ?_
        exact kt
  obtain ⟨i37x, F37_0x, T37, h37, L37, X37, e37, N37, Kx37, Vx37_0, st37⟩ := loop37 _ ((1 : Int32)) ((fun _ => 0)) T32 h32 _ (by decide) (Nat.lt_succ_self _) X32 e32 N32 (Keep.refl _ _) (V_b24.other W32 (Ne.symm ne_o0_b24))
  have K54 : Keep h0 h37 [o0] := K33.trans Kx37 (allS (Or.inr sz_b24) all0)
  have Z55 : n0 ≤ h37.size := Nat.le_trans Z0 K54.1
  obtain ⟨T56, h56, k56, X56, e56, E56, A56, st56⟩ := newP X37 hx hZ (hw _ (List.mem_of_getElem? (i := 3) rfl)) e37 (g := (mkF m 200 #[.val (.ref o0), .val (.int p1), .val (.int p2), .val (.ref o3), .val (.ref o4), .val (.ref o5), .val (.ref o6), .val (.int (0 : Int32)), .val (.int i37x), .unset, .unset] [(.int (0 : Int32)), (.ref o0)])) rfl (hb hby d1_200) rfl (by decide) (cap := 0) (by decide) (by decide) (by decide) (by decide)
  obtain ⟨b56, g56⟩ : ∃ z, z = h37.size := ⟨_, rfl⟩
  rw [← g56] at A56 st56
  have g_b56 : n0 ≤ b56 := Nat.le_trans Z55 (Nat.le_of_eq g56.symm)
  have sz_b56 : h0.size ≤ b56 := Nat.le_trans K54.1 (Nat.le_of_eq g56.symm)
  have ne_o0_b56 : o0 ≠ b56 := Nat.ne_of_lt (Nat.lt_of_lt_of_le (((((E_o0.wr W16).wr W21).ext E24).wr W32).keep Kx37).lt (Nat.le_of_eq g56.symm))
  have c57 := (((c25.ext E24).other W32 (Ne.symm ne_o0_o3)).keep Kx37 (ninS ne_o3_b24 nin0))
  have ne_o3_b56 : o3 ≠ b56 := Nat.ne_of_lt (Nat.lt_of_lt_of_le c57.lt (Nat.le_of_eq g56.symm))
  have c58 := (((c26.ext E24).other W32 (Ne.symm ne_o0_o4)).keep Kx37 (ninS ne_o4_b24 nin0))
  have ne_o4_b56 : o4 ≠ b56 := Nat.ne_of_lt (Nat.lt_of_lt_of_le c58.lt (Nat.le_of_eq g56.symm))
  have c59 := (((c27.ext E24).other W32 (Ne.symm ne_o0_o5)).keep Kx37 (ninS ne_o5_b24 nin0))
  have ne_o5_b56 : o5 ≠ b56 := Nat.ne_of_lt (Nat.lt_of_lt_of_le c59.lt (Nat.le_of_eq g56.symm))
  have c60 := (((c28.ext E24).other W32 (Ne.symm ne_o0_o6)).keep Kx37 (ninS ne_o6_b24 nin0))
  have ne_o6_b56 : o6 ≠ b56 := Nat.ne_of_lt (Nat.lt_of_lt_of_le c60.lt (Nat.le_of_eq g56.symm))
  have ne_b24_b56 : b24 ≠ b56 := Nat.ne_of_lt (Nat.lt_of_lt_of_le ((E_b24.wr W32).keep Kx37).lt (Nat.le_of_eq g56.symm))
  have K61 : Keep h0 h56 [o0] := K54.ext E56
  have Z62 : n0 ≤ h56.size := Nat.le_trans Z0 K61.1
  have V_b56 : own_AI Z h56 b56 .int (0 : Int32) (fun _ => 0) := own_AI.new A56 (by decide) rfl
  have c63 := ((((((E_o0.wr W16).wr W21).ext E24).wr W32).keep Kx37).ext E56)
  have c64 := ((((((F_tail_o0.other W16 (Or.inr (slot_ne (Or.inr (hw _ (List.mem_of_getElem? (i := 19) rfl))) (Or.inr (hw _ (List.mem_of_getElem? (i := 13) rfl))) (by decide) (t := (.array .int)) (t' := .int) (by decide) (by decide)))).other W21 (Or.inr (slot_ne (Or.inr (hw _ (List.mem_of_getElem? (i := 19) rfl))) (Or.inr (hw _ (List.mem_of_getElem? (i := 15) rfl))) (by decide) (t := (.array .int)) (t' := .int) (by decide) (by decide)))).ext E24).other W32 (Or.inr (slot_ne (Or.inr (hw _ (List.mem_of_getElem? (i := 19) rfl))) (Or.inr (hw _ (List.mem_of_getElem? (i := 17) rfl))) (by decide) (t := (.array .int)) (t' := (.array .int)) (by decide) (by decide)))).keep Kx37 (ninS ne_o0_b24 nin0)).ext E56)
  obtain ⟨T65, h65, X65, e65, W65, st65⟩ := putF X56 hx hZ hown (host := "") (Or.inl (hw _ (List.mem_of_getElem? (i := 18) rfl))) Via.refl e56 c64 c63 (Or.inr ⟨(hw _ (List.mem_of_getElem? (i := 19) rfl)), rfl, hnm⟩) (hw _ (List.mem_of_getElem? (i := 1) rfl)) (ty := (.array .int)) (by decide) rfl rfl (g := (mkF m 202 #[.val (.ref o0), .val (.int p1), .val (.int p2), .val (.ref o3), .val (.ref o4), .val (.ref o5), .val (.ref o6), .val (.int (0 : Int32)), .val (.int i37x), .unset, .unset] [(.ref b56), (.ref o0)])) rfl rfl (hb hby d1_202)
  have Fw65 := c64.same W65
  have K66 : Keep h0 h65 [o0] := K61.wr W65 (Or.inl (List.mem_of_getElem? (i := 0) rfl))
  have Z67 : n0 ≤ h65.size := Nat.le_trans Z0 K66.1
  have N65 := Fr.snoc X65 N37 g_o0
  obtain ⟨LS65, X65, N65⟩ : ∃ L, Stand p l e ({ frames := 1, cells := 6, slots := 2050, locals := 14 } : Room) s m #[(.ref o0), (.int p1), (.int p2), (.ref o3), (.ref o4), (.ref o5), (.ref o6)] below meth c T65 L 2 1025 ∧ Fr n0 L := ⟨_, X65, N65⟩
  obtain ⟨T68, h68, k68, X68, e68, E68, A68, st68⟩ := newP X65 hx hZ (hw _ (List.mem_of_getElem? (i := 3) rfl)) e65 (g := (mkF m 208 #[.val (.ref o0), .val (.int p1), .val (.int p2), .val (.ref o3), .val (.ref o4), .val (.ref o5), .val (.ref o6), .val (.int (0 : Int32)), .val (.int i37x), .unset, .unset] [(.int (0 : Int32)), (.ref o0)])) rfl (hb hby d1_208) rfl (by decide) (cap := 0) (by decide) (by decide) (by decide) (by decide)
  obtain ⟨b68, g68⟩ : ∃ z, z = h65.size := ⟨_, rfl⟩
  rw [← g68] at A68 st68
  have g_b68 : n0 ≤ b68 := Nat.le_trans Z67 (Nat.le_of_eq g68.symm)
  have sz_b68 : h0.size ≤ b68 := Nat.le_trans K66.1 (Nat.le_of_eq g68.symm)
  have ne_o0_b68 : o0 ≠ b68 := Nat.ne_of_lt (Nat.lt_of_lt_of_le (c63.wr W65).lt (Nat.le_of_eq g68.symm))
  have ne_o3_b68 : o3 ≠ b68 := Nat.ne_of_lt (Nat.lt_of_lt_of_le ((c57.ext E56).other W65 (Ne.symm ne_o0_o3)).lt (Nat.le_of_eq g68.symm))
  have ne_o4_b68 : o4 ≠ b68 := Nat.ne_of_lt (Nat.lt_of_lt_of_le ((c58.ext E56).other W65 (Ne.symm ne_o0_o4)).lt (Nat.le_of_eq g68.symm))
  have ne_o5_b68 : o5 ≠ b68 := Nat.ne_of_lt (Nat.lt_of_lt_of_le ((c59.ext E56).other W65 (Ne.symm ne_o0_o5)).lt (Nat.le_of_eq g68.symm))
  have ne_o6_b68 : o6 ≠ b68 := Nat.ne_of_lt (Nat.lt_of_lt_of_le ((c60.ext E56).other W65 (Ne.symm ne_o0_o6)).lt (Nat.le_of_eq g68.symm))
  have ne_b24_b68 : b24 ≠ b68 := Nat.ne_of_lt (Nat.lt_of_lt_of_le ((((E_b24.wr W32).keep Kx37).ext E56).wr W65).lt (Nat.le_of_eq g68.symm))
  have ne_b56_b68 : b56 ≠ b68 := Nat.ne_of_lt (Nat.lt_of_lt_of_le (V_b56.other W65 (Ne.symm ne_o0_b56)).lt (Nat.le_of_eq g68.symm))
  have K69 : Keep h0 h68 [o0] := K66.ext E68
  have Z70 : n0 ≤ h68.size := Nat.le_trans Z0 K69.1
  have V_b68 : own_AI Z h68 b68 .int (0 : Int32) (fun _ => 0) := own_AI.new A68 (by decide) rfl
  have c71 := ((((((((F_head_o0.other W16 (Or.inr (slot_ne (Or.inr (hw _ (List.mem_of_getElem? (i := 21) rfl))) (Or.inr (hw _ (List.mem_of_getElem? (i := 13) rfl))) (by decide) (t := (.array .int)) (t' := .int) (by decide) (by decide)))).other W21 (Or.inr (slot_ne (Or.inr (hw _ (List.mem_of_getElem? (i := 21) rfl))) (Or.inr (hw _ (List.mem_of_getElem? (i := 15) rfl))) (by decide) (t := (.array .int)) (t' := .int) (by decide) (by decide)))).ext E24).other W32 (Or.inr (slot_ne (Or.inr (hw _ (List.mem_of_getElem? (i := 21) rfl))) (Or.inr (hw _ (List.mem_of_getElem? (i := 17) rfl))) (by decide) (t := (.array .int)) (t' := (.array .int)) (by decide) (by decide)))).keep Kx37 (ninS ne_o0_b24 nin0)).ext E56).other W65 (Or.inr (slot_ne (Or.inr (hw _ (List.mem_of_getElem? (i := 21) rfl))) (Or.inr (hw _ (List.mem_of_getElem? (i := 19) rfl))) (by decide) (t := (.array .int)) (t' := (.array .int)) (by decide) (by decide)))).ext E68)
  obtain ⟨T72, h72, X72, e72, W72, st72⟩ := putF X68 hx hZ hown (host := "") (Or.inl (hw _ (List.mem_of_getElem? (i := 20) rfl))) Via.refl e68 c71 ((c63.wr W65).ext E68) (Or.inr ⟨(hw _ (List.mem_of_getElem? (i := 21) rfl)), rfl, hnm⟩) (hw _ (List.mem_of_getElem? (i := 1) rfl)) (ty := (.array .int)) (by decide) rfl rfl (g := (mkF m 210 #[.val (.ref o0), .val (.int p1), .val (.int p2), .val (.ref o3), .val (.ref o4), .val (.ref o5), .val (.ref o6), .val (.int (0 : Int32)), .val (.int i37x), .unset, .unset] [(.ref b68), (.ref o0)])) rfl rfl (hb hby d1_210)
  have Fw72 := c71.same W72
  have K73 : Keep h0 h72 [o0] := K69.wr W72 (Or.inl (List.mem_of_getElem? (i := 0) rfl))
  have Z74 : n0 ≤ h72.size := Nat.le_trans Z0 K73.1
  have N72 := Fr.snoc X72 N65 g_o0
  obtain ⟨LS72, X72, N72⟩ : ∃ L, Stand p l e ({ frames := 1, cells := 6, slots := 2050, locals := 14 } : Room) s m #[(.ref o0), (.int p1), (.int p2), (.ref o3), (.ref o4), (.ref o5), (.ref o6)] below meth c T72 L 3 1025 ∧ Fr n0 L := ⟨_, X72, N72⟩
  obtain ⟨T75, h75, k75, X75, e75, E75, A75, st75⟩ := newP X72 hx hZ (hw _ (List.mem_of_getElem? (i := 4) rfl)) e72 (g := (mkF m 216 #[.val (.ref o0), .val (.int p1), .val (.int p2), .val (.ref o3), .val (.ref o4), .val (.ref o5), .val (.ref o6), .val (.int (0 : Int32)), .val (.int i37x), .unset, .unset] [(.int (0 : Int32)), (.ref o0)])) rfl (hb hby d1_216) rfl (by decide) (cap := 0) (by decide) (by decide) (by decide) (by decide)
  obtain ⟨b75, g75⟩ : ∃ z, z = h72.size := ⟨_, rfl⟩
  rw [← g75] at A75 st75
  have g_b75 : n0 ≤ b75 := Nat.le_trans Z74 (Nat.le_of_eq g75.symm)
  have sz_b75 : h0.size ≤ b75 := Nat.le_trans K73.1 (Nat.le_of_eq g75.symm)
  have ne_o0_b75 : o0 ≠ b75 := Nat.ne_of_lt (Nat.lt_of_lt_of_le (((c63.wr W65).ext E68).wr W72).lt (Nat.le_of_eq g75.symm))
  have c76 := ((((c57.ext E56).other W65 (Ne.symm ne_o0_o3)).ext E68).other W72 (Ne.symm ne_o0_o3))
  have ne_o3_b75 : o3 ≠ b75 := Nat.ne_of_lt (Nat.lt_of_lt_of_le c76.lt (Nat.le_of_eq g75.symm))
  have c77 := ((((c58.ext E56).other W65 (Ne.symm ne_o0_o4)).ext E68).other W72 (Ne.symm ne_o0_o4))
  have ne_o4_b75 : o4 ≠ b75 := Nat.ne_of_lt (Nat.lt_of_lt_of_le c77.lt (Nat.le_of_eq g75.symm))
  have c78 := ((((c59.ext E56).other W65 (Ne.symm ne_o0_o5)).ext E68).other W72 (Ne.symm ne_o0_o5))
  have ne_o5_b75 : o5 ≠ b75 := Nat.ne_of_lt (Nat.lt_of_lt_of_le c78.lt (Nat.le_of_eq g75.symm))
  have c79 := ((((c60.ext E56).other W65 (Ne.symm ne_o0_o6)).ext E68).other W72 (Ne.symm ne_o0_o6))
  have ne_o6_b75 : o6 ≠ b75 := Nat.ne_of_lt (Nat.lt_of_lt_of_le c79.lt (Nat.le_of_eq g75.symm))
  have c80 := ((((((E_b24.wr W32).keep Kx37).ext E56).wr W65).ext E68).wr W72)
  have ne_b24_b75 : b24 ≠ b75 := Nat.ne_of_lt (Nat.lt_of_lt_of_le c80.lt (Nat.le_of_eq g75.symm))
  have c81 := (((V_b56.other W65 (Ne.symm ne_o0_b56)).ext E68).other W72 (Ne.symm ne_o0_b56))
  have ne_b56_b75 : b56 ≠ b75 := Nat.ne_of_lt (Nat.lt_of_lt_of_le c81.lt (Nat.le_of_eq g75.symm))
  have ne_b68_b75 : b68 ≠ b75 := Nat.ne_of_lt (Nat.lt_of_lt_of_le (V_b68.other W72 (Ne.symm ne_o0_b68)).lt (Nat.le_of_eq g75.symm))
  have K82 : Keep h0 h75 [o0] := K73.ext E75
  have Z83 : n0 ≤ h75.size := Nat.le_trans Z0 K82.1
  have V_b75 : own_AL Z h75 b75 .double (0 : Int32) := own_AL.new A75 (by decide)
  have c84 := ((((((((((F_length_o0.other W16 (Or.inr (slot_ne (Or.inr (hw _ (List.mem_of_getElem? (i := 23) rfl))) (Or.inr (hw _ (List.mem_of_getElem? (i := 13) rfl))) (by decide) (t := (.array .double)) (t' := .int) (by decide) (by decide)))).other W21 (Or.inr (slot_ne (Or.inr (hw _ (List.mem_of_getElem? (i := 23) rfl))) (Or.inr (hw _ (List.mem_of_getElem? (i := 15) rfl))) (by decide) (t := (.array .double)) (t' := .int) (by decide) (by decide)))).ext E24).other W32 (Or.inr (slot_ne (Or.inr (hw _ (List.mem_of_getElem? (i := 23) rfl))) (Or.inr (hw _ (List.mem_of_getElem? (i := 17) rfl))) (by decide) (t := (.array .double)) (t' := (.array .int)) (by decide) (by decide)))).keep Kx37 (ninS ne_o0_b24 nin0)).ext E56).other W65 (Or.inr (slot_ne (Or.inr (hw _ (List.mem_of_getElem? (i := 23) rfl))) (Or.inr (hw _ (List.mem_of_getElem? (i := 19) rfl))) (by decide) (t := (.array .double)) (t' := (.array .int)) (by decide) (by decide)))).ext E68).other W72 (Or.inr (slot_ne (Or.inr (hw _ (List.mem_of_getElem? (i := 23) rfl))) (Or.inr (hw _ (List.mem_of_getElem? (i := 21) rfl))) (by decide) (t := (.array .double)) (t' := (.array .int)) (by decide) (by decide)))).ext E75)
  obtain ⟨T85, h85, X85, e85, W85, st85⟩ := putF X75 hx hZ hown (host := "") (Or.inl (hw _ (List.mem_of_getElem? (i := 22) rfl))) Via.refl e75 c84 ((((c63.wr W65).ext E68).wr W72).ext E75) (Or.inr ⟨(hw _ (List.mem_of_getElem? (i := 23) rfl)), rfl, hnm⟩) (hw _ (List.mem_of_getElem? (i := 1) rfl)) (ty := (.array .double)) (by decide) rfl rfl (g := (mkF m 218 #[.val (.ref o0), .val (.int p1), .val (.int p2), .val (.ref o3), .val (.ref o4), .val (.ref o5), .val (.ref o6), .val (.int (0 : Int32)), .val (.int i37x), .unset, .unset] [(.ref b75), (.ref o0)])) rfl rfl (hb hby d1_218)
  have Fw85 := c84.same W85
  have K86 : Keep h0 h85 [o0] := K82.wr W85 (Or.inl (List.mem_of_getElem? (i := 0) rfl))
  have Z87 : n0 ≤ h85.size := Nat.le_trans Z0 K86.1
  have N85 := Fr.snoc X85 N72 g_o0
  obtain ⟨LS85, X85, N85⟩ : ∃ L, Stand p l e ({ frames := 1, cells := 6, slots := 2050, locals := 14 } : Room) s m #[(.ref o0), (.int p1), (.int p2), (.ref o3), (.ref o4), (.ref o5), (.ref o6)] below meth c T85 L 4 1025 ∧ Fr n0 L := ⟨_, X85, N85⟩
  obtain ⟨T88, h88, k88, X88, e88, E88, A88, st88⟩ := newP X85 hx hZ (hw _ (List.mem_of_getElem? (i := 4) rfl)) e85 (g := (mkF m 224 #[.val (.ref o0), .val (.int p1), .val (.int p2), .val (.ref o3), .val (.ref o4), .val (.ref o5), .val (.ref o6), .val (.int (0 : Int32)), .val (.int i37x), .unset, .unset] [(.int (0 : Int32)), (.ref o0)])) rfl (hb hby d1_224) rfl (by decide) (cap := 0) (by decide) (by decide) (by decide) (by decide)
  obtain ⟨b88, g88⟩ : ∃ z, z = h85.size := ⟨_, rfl⟩
  rw [← g88] at A88 st88
  have g_b88 : n0 ≤ b88 := Nat.le_trans Z87 (Nat.le_of_eq g88.symm)
  have sz_b88 : h0.size ≤ b88 := Nat.le_trans K86.1 (Nat.le_of_eq g88.symm)
  have ne_o0_b88 : o0 ≠ b88 := Nat.ne_of_lt (Nat.lt_of_lt_of_le (((((c63.wr W65).ext E68).wr W72).ext E75).wr W85).lt (Nat.le_of_eq g88.symm))
  have ne_o3_b88 : o3 ≠ b88 := Nat.ne_of_lt (Nat.lt_of_lt_of_le ((c76.ext E75).other W85 (Ne.symm ne_o0_o3)).lt (Nat.le_of_eq g88.symm))
  have ne_o4_b88 : o4 ≠ b88 := Nat.ne_of_lt (Nat.lt_of_lt_of_le ((c77.ext E75).other W85 (Ne.symm ne_o0_o4)).lt (Nat.le_of_eq g88.symm))
  have ne_o5_b88 : o5 ≠ b88 := Nat.ne_of_lt (Nat.lt_of_lt_of_le ((c78.ext E75).other W85 (Ne.symm ne_o0_o5)).lt (Nat.le_of_eq g88.symm))
  have ne_o6_b88 : o6 ≠ b88 := Nat.ne_of_lt (Nat.lt_of_lt_of_le ((c79.ext E75).other W85 (Ne.symm ne_o0_o6)).lt (Nat.le_of_eq g88.symm))
  have ne_b24_b88 : b24 ≠ b88 := Nat.ne_of_lt (Nat.lt_of_lt_of_le ((c80.ext E75).wr W85).lt (Nat.le_of_eq g88.symm))
  have ne_b56_b88 : b56 ≠ b88 := Nat.ne_of_lt (Nat.lt_of_lt_of_le ((c81.ext E75).other W85 (Ne.symm ne_o0_b56)).lt (Nat.le_of_eq g88.symm))
  have c89 := (((V_b68.other W72 (Ne.symm ne_o0_b68)).ext E75).other W85 (Ne.symm ne_o0_b68))
  have ne_b68_b88 : b68 ≠ b88 := Nat.ne_of_lt (Nat.lt_of_lt_of_le c89.lt (Nat.le_of_eq g88.symm))
  have ne_b75_b88 : b75 ≠ b88 := Nat.ne_of_lt (Nat.lt_of_lt_of_le (V_b75.other W85 (Ne.symm ne_o0_b75)).lt (Nat.le_of_eq g88.symm))
  have K90 : Keep h0 h88 [o0] := K86.ext E88
  have Z91 : n0 ≤ h88.size := Nat.le_trans Z0 K90.1
  have V_b88 : own_AL Z h88 b88 .double (0 : Int32) := own_AL.new A88 (by decide)
  have c92 := ((((((((((((F_time_o0.other W16 (Or.inr (slot_ne (Or.inr (hw _ (List.mem_of_getElem? (i := 25) rfl))) (Or.inr (hw _ (List.mem_of_getElem? (i := 13) rfl))) (by decide) (t := (.array .double)) (t' := .int) (by decide) (by decide)))).other W21 (Or.inr (slot_ne (Or.inr (hw _ (List.mem_of_getElem? (i := 25) rfl))) (Or.inr (hw _ (List.mem_of_getElem? (i := 15) rfl))) (by decide) (t := (.array .double)) (t' := .int) (by decide) (by decide)))).ext E24).other W32 (Or.inr (slot_ne (Or.inr (hw _ (List.mem_of_getElem? (i := 25) rfl))) (Or.inr (hw _ (List.mem_of_getElem? (i := 17) rfl))) (by decide) (t := (.array .double)) (t' := (.array .int)) (by decide) (by decide)))).keep Kx37 (ninS ne_o0_b24 nin0)).ext E56).other W65 (Or.inr (slot_ne (Or.inr (hw _ (List.mem_of_getElem? (i := 25) rfl))) (Or.inr (hw _ (List.mem_of_getElem? (i := 19) rfl))) (by decide) (t := (.array .double)) (t' := (.array .int)) (by decide) (by decide)))).ext E68).other W72 (Or.inr (slot_ne (Or.inr (hw _ (List.mem_of_getElem? (i := 25) rfl))) (Or.inr (hw _ (List.mem_of_getElem? (i := 21) rfl))) (by decide) (t := (.array .double)) (t' := (.array .int)) (by decide) (by decide)))).ext E75).other W85 (Or.inr (slot_ne (Or.inr (hw _ (List.mem_of_getElem? (i := 25) rfl))) (Or.inr (hw _ (List.mem_of_getElem? (i := 23) rfl))) (by decide) (t := (.array .double)) (t' := (.array .double)) (by decide) (by decide)))).ext E88)
  obtain ⟨T93, h93, X93, e93, W93, st93⟩ := putF X88 hx hZ hown (host := "") (Or.inl (hw _ (List.mem_of_getElem? (i := 24) rfl))) Via.refl e88 c92 ((((((c63.wr W65).ext E68).wr W72).ext E75).wr W85).ext E88) (Or.inr ⟨(hw _ (List.mem_of_getElem? (i := 25) rfl)), rfl, hnm⟩) (hw _ (List.mem_of_getElem? (i := 1) rfl)) (ty := (.array .double)) (by decide) rfl rfl (g := (mkF m 226 #[.val (.ref o0), .val (.int p1), .val (.int p2), .val (.ref o3), .val (.ref o4), .val (.ref o5), .val (.ref o6), .val (.int (0 : Int32)), .val (.int i37x), .unset, .unset] [(.ref b88), (.ref o0)])) rfl rfl (hb hby d1_226)
  have Fw93 := c92.same W93
  have K94 : Keep h0 h93 [o0] := K90.wr W93 (Or.inl (List.mem_of_getElem? (i := 0) rfl))
  have Z95 : n0 ≤ h93.size := Nat.le_trans Z0 K94.1
  have N93 := Fr.snoc X93 N85 g_o0
  obtain ⟨LS93, X93, N93⟩ : ∃ L, Stand p l e ({ frames := 1, cells := 6, slots := 2050, locals := 14 } : Room) s m #[(.ref o0), (.int p1), (.int p2), (.ref o3), (.ref o4), (.ref o5), (.ref o6)] below meth c T93 L 5 1025 ∧ Fr n0 L := ⟨_, X93, N93⟩
  have c96 := (((((((((Fw32.keep Kx37 (ninS ne_o0_b24 nin0)).ext E56).other W65 (Or.inr (slot_ne (Or.inr (hw _ (List.mem_of_getElem? (i := 17) rfl))) (Or.inr (hw _ (List.mem_of_getElem? (i := 19) rfl))) (by decide) (t := (.array .int)) (t' := (.array .int)) (by decide) (by decide)))).ext E68).other W72 (Or.inr (slot_ne (Or.inr (hw _ (List.mem_of_getElem? (i := 17) rfl))) (Or.inr (hw _ (List.mem_of_getElem? (i := 21) rfl))) (by decide) (t := (.array .int)) (t' := (.array .int)) (by decide) (by decide)))).ext E75).other W85 (Or.inr (slot_ne (Or.inr (hw _ (List.mem_of_getElem? (i := 17) rfl))) (Or.inr (hw _ (List.mem_of_getElem? (i := 23) rfl))) (by decide) (t := (.array .int)) (t' := (.array .double)) (by decide) (by decide)))).ext E88).other W93 (Or.inr (slot_ne (Or.inr (hw _ (List.mem_of_getElem? (i := 17) rfl))) (Or.inr (hw _ (List.mem_of_getElem? (i := 25) rfl))) (by decide) (t := (.array .int)) (t' := (.array .double)) (by decide) (by decide))))
  obtain ⟨T97, X97, e97, st97⟩ := getF X93 hx hZ hown (host := "") (Or.inl (hw _ (List.mem_of_getElem? (i := 16) rfl))) Via.refl e93 c96 (g := (mkF m 230 #[.val (.ref o0), .val (.int p1), .val (.int p2), .val (.ref o3), .val (.ref o4), .val (.ref o5), .val (.ref o6), .val (.int (0 : Int32)), .val (.int i37x), .unset, .unset] [(.ref o0)])) rfl rfl (hb hby d1_230)
  have c99 := ((((((((Vx37_0.ext E56).other W65 (Ne.symm ne_o0_b24)).ext E68).other W72 (Ne.symm ne_o0_b24)).ext E75).other W85 (Ne.symm ne_o0_b24)).ext E88).other W93 (Ne.symm ne_o0_b24))
  obtain ⟨cl98, Ar98, Sz98, Nn98, Hs98⟩ := id c99
  have FC98 : FitC Z cl98 := fitC_of Ar98 fun i hi v hv => by rw [(Hs98 i hi).1] at hv; cases hv; exact (Hs98 i hi).2
  obtain ⟨T100, h100, X100, e100, E100, A100, B100, st100⟩ := cloneA X97 hx hZ hown (hw _ (List.mem_of_getElem? (i := 26) rfl)) (hw _ (List.mem_of_getElem? (i := 27) rfl)) (hw _ (List.mem_of_getElem? (i := 31) rfl)) (hw _ (List.mem_of_getElem? (i := 29) rfl)) (hw _ (List.mem_of_getElem? (i := 30) rfl)) (hw _ (List.mem_of_getElem? (i := 32) rfl)) e97 Ar98 ((((c80.ext E75).wr W85).ext E88).wr W93) FC98 (g := (mkF m 233 #[.val (.ref o0), .val (.int p1), .val (.int p2), .val (.ref o3), .val (.ref o4), .val (.ref o5), .val (.ref o6), .val (.int (0 : Int32)), .val (.int i37x), .unset, .unset] [(.ref b24)])) rfl (by rw [hml]; rfl) rfl (hb hby d1_233) (by decide) (W := 0) (cap := 1025) (by show 2 * 0 + _ ≤ _; exact Nat.le_of_eq rfl) (by decide) (by rw [Sz98]; exact own_cap hn) (by decide) (by decide)
  obtain ⟨b100, g100⟩ : ∃ z, z = h93.size := ⟨_, rfl⟩
  rw [← g100] at A100 B100 st100
  have g_b100 : n0 ≤ b100 := Nat.le_trans Z95 (Nat.le_of_eq g100.symm)
  have sz_b100 : h0.size ≤ b100 := Nat.le_trans K94.1 (Nat.le_of_eq g100.symm)
  have c101 := (((((((c63.wr W65).ext E68).wr W72).ext E75).wr W85).ext E88).wr W93)
  have ne_o0_b100 : o0 ≠ b100 := Nat.ne_of_lt (Nat.lt_of_lt_of_le c101.lt (Nat.le_of_eq g100.symm))
  have c102 := ((((c76.ext E75).other W85 (Ne.symm ne_o0_o3)).ext E88).other W93 (Ne.symm ne_o0_o3))
  have ne_o3_b100 : o3 ≠ b100 := Nat.ne_of_lt (Nat.lt_of_lt_of_le c102.lt (Nat.le_of_eq g100.symm))
  have c103 := ((((c77.ext E75).other W85 (Ne.symm ne_o0_o4)).ext E88).other W93 (Ne.symm ne_o0_o4))
  have ne_o4_b100 : o4 ≠ b100 := Nat.ne_of_lt (Nat.lt_of_lt_of_le c103.lt (Nat.le_of_eq g100.symm))
  have c104 := ((((c78.ext E75).other W85 (Ne.symm ne_o0_o5)).ext E88).other W93 (Ne.symm ne_o0_o5))
  have ne_o5_b100 : o5 ≠ b100 := Nat.ne_of_lt (Nat.lt_of_lt_of_le c104.lt (Nat.le_of_eq g100.symm))
  have c105 := ((((c79.ext E75).other W85 (Ne.symm ne_o0_o6)).ext E88).other W93 (Ne.symm ne_o0_o6))
  have ne_o6_b100 : o6 ≠ b100 := Nat.ne_of_lt (Nat.lt_of_lt_of_le c105.lt (Nat.le_of_eq g100.symm))
  have ne_b24_b100 : b24 ≠ b100 := Nat.ne_of_lt (Nat.lt_of_lt_of_le ((((c80.ext E75).wr W85).ext E88).wr W93).lt (Nat.le_of_eq g100.symm))
  have c106 := ((((c81.ext E75).other W85 (Ne.symm ne_o0_b56)).ext E88).other W93 (Ne.symm ne_o0_b56))
  have ne_b56_b100 : b56 ≠ b100 := Nat.ne_of_lt (Nat.lt_of_lt_of_le c106.lt (Nat.le_of_eq g100.symm))
  have ne_b68_b100 : b68 ≠ b100 := Nat.ne_of_lt (Nat.lt_of_lt_of_le ((c89.ext E88).other W93 (Ne.symm ne_o0_b68)).lt (Nat.le_of_eq g100.symm))
  have c107 := (((V_b75.other W85 (Ne.symm ne_o0_b75)).ext E88).other W93 (Ne.symm ne_o0_b75))
  have ne_b75_b100 : b75 ≠ b100 := Nat.ne_of_lt (Nat.lt_of_lt_of_le c107.lt (Nat.le_of_eq g100.symm))
  have ne_b88_b100 : b88 ≠ b100 := Nat.ne_of_lt (Nat.lt_of_lt_of_le (V_b88.other W93 (Ne.symm ne_o0_b88)).lt (Nat.le_of_eq g100.symm))
  have K108 : Keep h0 h100 [o0] := K94.ext E100
  have Z109 : n0 ≤ h100.size := Nat.le_trans Z0 K108.1
  have E_b100 := B100
  have V_b100 : own_AI Z h100 b100 .int (p1 + (2 : Int32)) F37_0x := ⟨_, A100, Sz98, Nn98, Hs98⟩
  obtain ⟨T110, X110, e110, st110⟩ := castY X100 hx hZ hown (hw _ (List.mem_of_getElem? (i := 33) rfl)) e100 (Ins.self E_b100) (g := (mkF m 236 #[.val (.ref o0), .val (.int p1), .val (.int p2), .val (.ref o3), .val (.ref o4), .val (.ref o5), .val (.ref o6), .val (.int (0 : Int32)), .val (.int i37x), .unset, .unset] [(.ref b100)])) rfl rfl (hb hby d1_236)
  have pre111 : ∀ t, Steps p.tables e below (T110.setTop (mkF m 248 #[.val (.ref o0), .val (.int p1), .val (.int p2), .val (.ref o3), .val (.ref o4), .val (.ref o5), .val (.ref o6), .val (.int (0 : Int32)), .val (.ref b100), .val (.int (0 : Int32)), .unset] [(.int (0 : Int32)), (.int (0 : Int32))])) t → Steps p.tables e below (s₁.setTop (entryFrame m #[(.ref o0), (.int p1), (.int p2), (.ref o3), (.ref o4), (.ref o5), (.ref o6)] 11)) t := fun t kt => pre36 t (by
      show Steps p.tables e below (T32.setTop (mkF m 162 #[.val (.ref o0), .val (.int p1), .val (.int p2), .val (.ref o3), .val (.ref o4), .val (.ref o5), .val (.ref o6), .val (.int (0 : Int32)), .val (.int (1 : Int32)), .unset, .unset] [])) _
      refine st37 _ ?_
      show Steps p.tables e below (T37.setTop (mkF m 197 #[.val (.ref o0), .val (.int p1), .val (.int p2), .val (.ref o3), .val (.ref o4), .val (.ref o5), .val (.ref o6), .val (.int (0 : Int32)), .val (.int i37x), .unset, .unset] [])) _
      refine XS.aloadN X37.here hx rfl (hb hby d1_197) rfl rfl ?_
      show Steps p.tables e below (T37.setTop (mkF m 198 #[.val (.ref o0), .val (.int p1), .val (.int p2), .val (.ref o3), .val (.ref o4), .val (.ref o5), .val (.ref o6), .val (.int (0 : Int32)), .val (.int i37x), .unset, .unset] [(.ref o0)])) _
      refine XS.iload X37.here hx rfl (hb hby d1_198) rfl ?_
      show Steps p.tables e below (T37.setTop (mkF m 200 #[.val (.ref o0), .val (.int p1), .val (.int p2), .val (.ref o3), .val (.ref o4), .val (.ref o5), .val (.ref o6), .val (.int (0 : Int32)), .val (.int i37x), .unset, .unset] [(.int (0 : Int32)), (.ref o0)])) _
      refine st56 _ ?_
      show Steps p.tables e below (T56.setTop (mkF m 202 #[.val (.ref o0), .val (.int p1), .val (.int p2), .val (.ref o3), .val (.ref o4), .val (.ref o5), .val (.ref o6), .val (.int (0 : Int32)), .val (.int i37x), .unset, .unset] [(.ref b56), (.ref o0)])) _
      refine st65 _ ?_
      show Steps p.tables e below (T65.setTop (mkF m 205 #[.val (.ref o0), .val (.int p1), .val (.int p2), .val (.ref o3), .val (.ref o4), .val (.ref o5), .val (.ref o6), .val (.int (0 : Int32)), .val (.int i37x), .unset, .unset] [])) _
      refine XS.aloadN X65.here hx rfl (hb hby d1_205) rfl rfl ?_
      show Steps p.tables e below (T65.setTop (mkF m 206 #[.val (.ref o0), .val (.int p1), .val (.int p2), .val (.ref o3), .val (.ref o4), .val (.ref o5), .val (.ref o6), .val (.int (0 : Int32)), .val (.int i37x), .unset, .unset] [(.ref o0)])) _
      refine XS.iload X65.here hx rfl (hb hby d1_206) rfl ?_
      show Steps p.tables e below (T65.setTop (mkF m 208 #[.val (.ref o0), .val (.int p1), .val (.int p2), .val (.ref o3), .val (.ref o4), .val (.ref o5), .val (.ref o6), .val (.int (0 : Int32)), .val (.int i37x), .unset, .unset] [(.int (0 : Int32)), (.ref o0)])) _
      refine st68 _ ?_
      show Steps p.tables e below (T68.setTop (mkF m 210 #[.val (.ref o0), .val (.int p1), .val (.int p2), .val (.ref o3), .val (.ref o4), .val (.ref o5), .val (.ref o6), .val (.int (0 : Int32)), .val (.int i37x), .unset, .unset] [(.ref b68), (.ref o0)])) _
      refine st72 _ ?_
      show Steps p.tables e below (T72.setTop (mkF m 213 #[.val (.ref o0), .val (.int p1), .val (.int p2), .val (.ref o3), .val (.ref o4), .val (.ref o5), .val (.ref o6), .val (.int (0 : Int32)), .val (.int i37x), .unset, .unset] [])) _
      refine XS.aloadN X72.here hx rfl (hb hby d1_213) rfl rfl ?_
      show Steps p.tables e below (T72.setTop (mkF m 214 #[.val (.ref o0), .val (.int p1), .val (.int p2), .val (.ref o3), .val (.ref o4), .val (.ref o5), .val (.ref o6), .val (.int (0 : Int32)), .val (.int i37x), .unset, .unset] [(.ref o0)])) _
      refine XS.iload X72.here hx rfl (hb hby d1_214) rfl ?_
      show Steps p.tables e below (T72.setTop (mkF m 216 #[.val (.ref o0), .val (.int p1), .val (.int p2), .val (.ref o3), .val (.ref o4), .val (.ref o5), .val (.ref o6), .val (.int (0 : Int32)), .val (.int i37x), .unset, .unset] [(.int (0 : Int32)), (.ref o0)])) _
      refine st75 _ ?_
      show Steps p.tables e below (T75.setTop (mkF m 218 #[.val (.ref o0), .val (.int p1), .val (.int p2), .val (.ref o3), .val (.ref o4), .val (.ref o5), .val (.ref o6), .val (.int (0 : Int32)), .val (.int i37x), .unset, .unset] [(.ref b75), (.ref o0)])) _
      refine st85 _ ?_
      show Steps p.tables e below (T85.setTop (mkF m 221 #[.val (.ref o0), .val (.int p1), .val (.int p2), .val (.ref o3), .val (.ref o4), .val (.ref o5), .val (.ref o6), .val (.int (0 : Int32)), .val (.int i37x), .unset, .unset] [])) _
      refine XS.aloadN X85.here hx rfl (hb hby d1_221) rfl rfl ?_
      show Steps p.tables e below (T85.setTop (mkF m 222 #[.val (.ref o0), .val (.int p1), .val (.int p2), .val (.ref o3), .val (.ref o4), .val (.ref o5), .val (.ref o6), .val (.int (0 : Int32)), .val (.int i37x), .unset, .unset] [(.ref o0)])) _
      refine XS.iload X85.here hx rfl (hb hby d1_222) rfl ?_
      show Steps p.tables e below (T85.setTop (mkF m 224 #[.val (.ref o0), .val (.int p1), .val (.int p2), .val (.ref o3), .val (.ref o4), .val (.ref o5), .val (.ref o6), .val (.int (0 : Int32)), .val (.int i37x), .unset, .unset] [(.int (0 : Int32)), (.ref o0)])) _
      refine st88 _ ?_
      show Steps p.tables e below (T88.setTop (mkF m 226 #[.val (.ref o0), .val (.int p1), .val (.int p2), .val (.ref o3), .val (.ref o4), .val (.ref o5), .val (.ref o6), .val (.int (0 : Int32)), .val (.int i37x), .unset, .unset] [(.ref b88), (.ref o0)])) _
      refine st93 _ ?_
      show Steps p.tables e below (T93.setTop (mkF m 229 #[.val (.ref o0), .val (.int p1), .val (.int p2), .val (.ref o3), .val (.ref o4), .val (.ref o5), .val (.ref o6), .val (.int (0 : Int32)), .val (.int i37x), .unset, .unset] [])) _
      refine XS.aloadN X93.here hx rfl (hb hby d1_229) rfl rfl ?_
      show Steps p.tables e below (T93.setTop (mkF m 230 #[.val (.ref o0), .val (.int p1), .val (.int p2), .val (.ref o3), .val (.ref o4), .val (.ref o5), .val (.ref o6), .val (.int (0 : Int32)), .val (.int i37x), .unset, .unset] [(.ref o0)])) _
      refine st97 _ ?_
      show Steps p.tables e below (T97.setTop (mkF m 233 #[.val (.ref o0), .val (.int p1), .val (.int p2), .val (.ref o3), .val (.ref o4), .val (.ref o5), .val (.ref o6), .val (.int (0 : Int32)), .val (.int i37x), .unset, .unset] [(.ref b24)])) _
      refine st100 _ ?_
      show Steps p.tables e below (T100.setTop (mkF m 236 #[.val (.ref o0), .val (.int p1), .val (.int p2), .val (.ref o3), .val (.ref o4), .val (.ref o5), .val (.ref o6), .val (.int (0 : Int32)), .val (.int i37x), .unset, .unset] [(.ref b100)])) _
      refine st110 _ ?_
      show Steps p.tables e below (T110.setTop (mkF m 239 #[.val (.ref o0), .val (.int p1), .val (.int p2), .val (.ref o3), .val (.ref o4), .val (.ref o5), .val (.ref o6), .val (.int (0 : Int32)), .val (.int i37x), .unset, .unset] [(.ref b100)])) _
      refine XS.astore X110.here hx rfl (hb hby d1_239) rfl rfl (l' := #[.val (.ref o0), .val (.int p1), .val (.int p2), .val (.ref o3), .val (.ref o4), .val (.ref o5), .val (.ref o6), .val (.int (0 : Int32)), .val (.ref b100), .unset, .unset]) rfl ?_
      show Steps p.tables e below (T110.setTop (mkF m 241 #[.val (.ref o0), .val (.int p1), .val (.int p2), .val (.ref o3), .val (.ref o4), .val (.ref o5), .val (.ref o6), .val (.int (0 : Int32)), .val (.ref b100), .unset, .unset] [])) _
      refine XS.iconst X110.here hx rfl (hb hby d1_241) ?_
      show Steps p.tables e below (T110.setTop (mkF m 242 #[.val (.ref o0), .val (.int p1), .val (.int p2), .val (.ref o3), .val (.ref o4), .val (.ref o5), .val (.ref o6), .val (.int (0 : Int32)), .val (.ref b100), .unset, .unset] [(.int (0 : Int32))])) _
      refine XS.istore X110.here hx rfl (hb hby d1_242) rfl (l' := #[.val (.ref o0), .val (.int p1), .val (.int p2), .val (.ref o3), .val (.ref o4), .val (.ref o5), .val (.ref o6), .val (.int (0 : Int32)), .val (.ref b100), .val (.int (0 : Int32)), .unset]) rfl ?_
      show Steps p.tables e below (T110.setTop (mkF m 244 #[.val (.ref o0), .val (.int p1), .val (.int p2), .val (.ref o3), .val (.ref o4), .val (.ref o5), .val (.ref o6), .val (.int (0 : Int32)), .val (.ref b100), .val (.int (0 : Int32)), .unset] [])) _
      refine XS.iload X110.here hx rfl (hb hby d1_244) rfl ?_
      show Steps p.tables e below (T110.setTop (mkF m 246 #[.val (.ref o0), .val (.int p1), .val (.int p2), .val (.ref o3), .val (.ref o4), .val (.ref o5), .val (.ref o6), .val (.int (0 : Int32)), .val (.ref b100), .val (.int (0 : Int32)), .unset] [(.int (0 : Int32))])) _
      refine XS.iload X110.here hx rfl (hb hby d1_246) rfl ?_
      exact kt)
  obtain ⟨fs, hr, hrun, hended, hW, hsame⟩ := X110.leave (v := none) (fun _ => rfl)
  have c112 := (((((((((((((Fw16.other W21 (Or.inr (slot_ne (Or.inr (hw _ (List.mem_of_getElem? (i := 13) rfl))) (Or.inr (hw _ (List.mem_of_getElem? (i := 15) rfl))) (by decide) (t := .int) (t' := .int) (by decide) (by decide)))).ext E24).other W32 (Or.inr (slot_ne (Or.inr (hw _ (List.mem_of_getElem? (i := 13) rfl))) (Or.inr (hw _ (List.mem_of_getElem? (i := 17) rfl))) (by decide) (t := .int) (t' := (.array .int)) (by decide) (by decide)))).keep Kx37 (ninS ne_o0_b24 nin0)).ext E56).other W65 (Or.inr (slot_ne (Or.inr (hw _ (List.mem_of_getElem? (i := 13) rfl))) (Or.inr (hw _ (List.mem_of_getElem? (i := 19) rfl))) (by decide) (t := .int) (t' := (.array .int)) (by decide) (by decide)))).ext E68).other W72 (Or.inr (slot_ne (Or.inr (hw _ (List.mem_of_getElem? (i := 13) rfl))) (Or.inr (hw _ (List.mem_of_getElem? (i := 21) rfl))) (by decide) (t := .int) (t' := (.array .int)) (by decide) (by decide)))).ext E75).other W85 (Or.inr (slot_ne (Or.inr (hw _ (List.mem_of_getElem? (i := 13) rfl))) (Or.inr (hw _ (List.mem_of_getElem? (i := 23) rfl))) (by decide) (t := .int) (t' := (.array .double)) (by decide) (by decide)))).ext E88).other W93 (Or.inr (slot_ne (Or.inr (hw _ (List.mem_of_getElem? (i := 13) rfl))) (Or.inr (hw _ (List.mem_of_getElem? (i := 25) rfl))) (by decide) (t := .int) (t' := (.array .double)) (by decide) (by decide)))).ext E100)
  have c113 := ((((((((((((Fw21.ext E24).other W32 (Or.inr (slot_ne (Or.inr (hw _ (List.mem_of_getElem? (i := 15) rfl))) (Or.inr (hw _ (List.mem_of_getElem? (i := 17) rfl))) (by decide) (t := .int) (t' := (.array .int)) (by decide) (by decide)))).keep Kx37 (ninS ne_o0_b24 nin0)).ext E56).other W65 (Or.inr (slot_ne (Or.inr (hw _ (List.mem_of_getElem? (i := 15) rfl))) (Or.inr (hw _ (List.mem_of_getElem? (i := 19) rfl))) (by decide) (t := .int) (t' := (.array .int)) (by decide) (by decide)))).ext E68).other W72 (Or.inr (slot_ne (Or.inr (hw _ (List.mem_of_getElem? (i := 15) rfl))) (Or.inr (hw _ (List.mem_of_getElem? (i := 21) rfl))) (by decide) (t := .int) (t' := (.array .int)) (by decide) (by decide)))).ext E75).other W85 (Or.inr (slot_ne (Or.inr (hw _ (List.mem_of_getElem? (i := 15) rfl))) (Or.inr (hw _ (List.mem_of_getElem? (i := 23) rfl))) (by decide) (t := .int) (t' := (.array .double)) (by decide) (by decide)))).ext E88).other W93 (Or.inr (slot_ne (Or.inr (hw _ (List.mem_of_getElem? (i := 15) rfl))) (Or.inr (hw _ (List.mem_of_getElem? (i := 25) rfl))) (by decide) (t := .int) (t' := (.array .double)) (by decide) (by decide)))).ext E100)
  refine ⟨_, _, pre111 _ ?_, hrun, hended, _, _, rfl, ?_, ⟨_, rfl⟩, hW, hsame.mono (by decide) (by decide)⟩
  · show Steps p.tables e below (T110.setTop (mkF m 248 #[.val (.ref o0), .val (.int p1), .val (.int p2), .val (.ref o3), .val (.ref o4), .val (.ref o5), .val (.ref o6), .val (.int (0 : Int32)), .val (.ref b100), .val (.int (0 : Int32)), .unset] [(.int (0 : Int32)), (.int (0 : Int32))])) _
    refine XS.icmpYes X110.here hx rfl (pc0 := 248) (pc' := 318) rfl (hb hby d1_248) rfl (flt (by decide : ¬ ((0 : Int32) < (0 : Int32)))).2.1 (by decide) (by decide) ?_
    show Steps p.tables e below (T110.setTop (mkF m 318 #[.val (.ref o0), .val (.int p1), .val (.int p2), .val (.ref o3), .val (.ref o4), .val (.ref o5), .val (.ref o6), .val (.int (0 : Int32)), .val (.ref b100), .val (.int (0 : Int32)), .unset] [])) _
    exact X110.returnOut hx Bd.returns (hb hby d1_318) hr
  · show Q1 Z o0 p1 p2 o3 o4 o5 o6 F3 F4 w15 w19 h0 n0 _ T110.heap _
    rw [e110]
    exact ⟨rfl, N93, K108, c112, c113⟩
theorem d3_0 : decode prog_22_method_7_code 0 = .ok (.iload_n 1, 1) := by decide +kernel
theorem d3_1 : decode prog_22_method_7_code 1 = .ok (.iconst 1, 1) := by decide +kernel
theorem d3_2 : decode prog_22_method_7_code 2 = .ok (.if_icmp .lt 15, 3) := by decide +kernel
theorem d3_5 : decode prog_22_method_7_code 5 = .ok (.iload_n 1, 1) := by decide +kernel
theorem d3_6 : decode prog_22_method_7_code 6 = .ok (.aload_n 0, 1) := by decide +kernel
theorem d3_7 : decode prog_22_method_7_code 7 = .ok (.getfield 21, 3) := by decide +kernel
theorem d3_10 : decode prog_22_method_7_code 10 = .ok (.if_icmp .gt 7, 3) := by decide +kernel
theorem d3_13 : decode prog_22_method_7_code 13 = .ok (.iconst 1, 1) := by decide +kernel
theorem d3_14 : decode prog_22_method_7_code 14 = .ok (.goto 4, 3) := by decide +kernel
theorem d3_17 : decode prog_22_method_7_code 17 = .ok (.iconst 0, 1) := by decide +kernel
theorem d3_18 : decode prog_22_method_7_code 18 = .ok (.ireturn, 1) := by decide +kernel
theorem pn_3 : plainName "com/example/cabweave/cabweave/Network" = true := by first | (simp [plainName, overriddenIn]; done) | decide +kernel
theorem ef_3 (m : MethodId) (x0 : Addr) (x1 : Int32) : entryFrame m #[(.ref x0), (.int x1)] 2 = mkF m 0 #[.val (.ref x0), .val (.int x1)] [] := by first | (simp [entryFrame, mkF, argsToLocals, Value.category]; done) | rfl
def f3 (p1 : Int32) (w3 : Int32) : Int32 :=
  if p1 < (1 : Int32) then ((0 : Int32)) else
  (if w3 < p1 then ((0 : Int32)) else
  ((1 : Int32)))
def Q3 (Z : State) (o0 : Addr) (p1 : Int32) (w3 : Int32) (h0 : Heap) (n0 : Nat) (v : Option Value) (h : Heap) (L : List Loc) : Prop := v = some (.int (f3 p1 w3)) ∧ Fr n0 L ∧ h = h0
set_option maxRecDepth 65536 in
set_option maxHeartbeats 40000000 in
theorem rm3 (l : Launch) (Z : State) (a0 : Array Value) (hw : ∀ d ∈ tables_1, d.before a0 Z = true) (ws : List Jvm.Cond) (o0 : Addr) (p1 : Int32) (w3 : Int32) (h0 : Heap) (n0 : Nat) (Z0 : n0 ≤ h0.size) (F_nodeCount_o0 : Fld Z h0 o0 "com/example/cabweave/cabweave/Network" "nodeCount" "I" (.int w3)) :
    MetFree l (⟨"com/example/cabweave/cabweave/Network", "contains", "(I)Z"⟩ : MethodName) (head1 (Jvm.Cond.code (⟨"com/example/cabweave/cabweave/Network", "contains", "(I)Z"⟩ : MethodName) prog_22_method_7_code 2 (some .boolean) :: ws) ({ frames := 0, cells := 0, slots := 0, locals := 0 } : Room)) (fun a U => a = #[(.ref o0), (.int p1)] ∧ Z.Warmed39 U.vm ∧ U.heap = h0) (fun _ _ _ _ _ => True) (fun _ U o U' => ∃ v L, o = .returned v ∧ Q3 Z o0 p1 w3 h0 n0 v U'.heap L ∧ FrameEnd U o U' L ({ frames := 0, cells := 0, slots := 0, locals := 0 } : Room).cells ({ frames := 0, cells := 0, slots := 0, locals := 0 } : Room).slots) := by
  refine MetFree.of_bodySF (plainFor_of_name pn_3) hisR ?_
  intro p e s m args below meth c s₁ Bd hml0 hP hK
  obtain ⟨rfl, hZ, hh⟩ := hP
  have hx := Bd.exec
  have hby := Bd.bytes
  have hml : c.maxLocals = 2 := hml0
  have hown : s.vm.findClass "com/example/cabweave/cabweave/Network" = some m.cls := findClass_of_methodNamed Bd.named
  have hnm := (name_of_methodNamed Bd.named Bd.method).1
  have X0 : Stand p l e ({ frames := 0, cells := 0, slots := 0, locals := 0 } : Room) s m #[(.ref o0), (.int p1)] below meth c s₁ [] 0 0 := Stand.of_body Bd
  have e0 : s₁.heap = h0 := by rw [← hh, Bd.state]; rfl
  have N0 := Fr.nil n0
  have pre0 : ∀ t, Steps p.tables e below (s₁.setTop (mkF m 0 #[.val (.ref o0), .val (.int p1)] [])) t → Steps p.tables e below (s₁.setTop (entryFrame m #[(.ref o0), (.int p1)] 2)) t := fun t k => castTop (ef_3 m o0 p1) k
  have pre1 : ∀ t, Steps p.tables e below (s₁.setTop (mkF m 2 #[.val (.ref o0), .val (.int p1)] [(.int (1 : Int32)), (.int p1)])) t → Steps p.tables e below (s₁.setTop (entryFrame m #[(.ref o0), (.int p1)] 2)) t := fun t kt => pre0 t (by
      show Steps p.tables e below (s₁.setTop (mkF m 0 #[.val (.ref o0), .val (.int p1)] [])) _
      refine XS.iloadN X0.here hx rfl (hb hby d3_0) rfl ?_
      show Steps p.tables e below (s₁.setTop (mkF m 1 #[.val (.ref o0), .val (.int p1)] [(.int p1)])) _
      refine XS.iconst X0.here hx rfl (hb hby d3_1) ?_
      exact kt)
  by_cases hc2_2 : p1 < (1 : Int32)
  · obtain ⟨fs, hr, hrun, hended, hW, hsame⟩ := X0.leave (v := some (.int (0 : Int32))) (fun h => by rw [Bd.returns] at h; cases h)
    have hv7 : (f3 p1 w3) = (0 : Int32) := by rw [f3, if_pos hc2_2]
    refine ⟨_, _, pre1 _ ?_, hrun, hended, _, _, rfl, ?_, ⟨_, rfl⟩, hW, hsame.mono (by decide) (by decide)⟩
    · show Steps p.tables e below (s₁.setTop (mkF m 2 #[.val (.ref o0), .val (.int p1)] [(.int (1 : Int32)), (.int p1)])) _
      refine XS.icmpYes X0.here hx rfl (pc0 := 2) (pc' := 17) rfl (hb hby d3_2) rfl (tlt hc2_2).1 (by decide) (by decide) ?_
      show Steps p.tables e below (s₁.setTop (mkF m 17 #[.val (.ref o0), .val (.int p1)] [])) _
      refine XS.iconst X0.here hx rfl (hb hby d3_17) ?_
      show Steps p.tables e below (s₁.setTop (mkF m 18 #[.val (.ref o0), .val (.int p1)] [(.int (0 : Int32))])) _
      exact retN X0 hx (t := .boolean) Bd.returns (by simp) (hb hby d3_18) hr
    · show Q3 Z o0 p1 w3 h0 n0 _ s₁.heap _
      rw [e0]
      exact ⟨congrArg (fun q => some (Value.int q)) hv7.symm, N0, rfl⟩
  · obtain ⟨T4, X4, e4, st4⟩ := getF X0 hx hZ hown (host := "") (Or.inl (hw _ (List.mem_of_getElem? (i := 12) rfl))) Via.refl e0 F_nodeCount_o0 (g := (mkF m 7 #[.val (.ref o0), .val (.int p1)] [(.ref o0), (.int p1)])) rfl rfl (hb hby d3_7)
    have pre5 : ∀ t, Steps p.tables e below (T4.setTop (mkF m 10 #[.val (.ref o0), .val (.int p1)] [(.int w3), (.int p1)])) t → Steps p.tables e below (s₁.setTop (entryFrame m #[(.ref o0), (.int p1)] 2)) t := fun t kt => pre1 t (by
        show Steps p.tables e below (s₁.setTop (mkF m 2 #[.val (.ref o0), .val (.int p1)] [(.int (1 : Int32)), (.int p1)])) _
        refine XS.icmpNo X0.here hx rfl (hb hby d3_2) rfl (flt hc2_2).1 ?_
        show Steps p.tables e below (s₁.setTop (mkF m 5 #[.val (.ref o0), .val (.int p1)] [])) _
        refine XS.iloadN X0.here hx rfl (hb hby d3_5) rfl ?_
        show Steps p.tables e below (s₁.setTop (mkF m 6 #[.val (.ref o0), .val (.int p1)] [(.int p1)])) _
        refine XS.aloadN X0.here hx rfl (hb hby d3_6) rfl rfl ?_
        show Steps p.tables e below (s₁.setTop (mkF m 7 #[.val (.ref o0), .val (.int p1)] [(.ref o0), (.int p1)])) _
        refine st4 _ ?_
        exact kt)
    by_cases hc10_6 : w3 < p1
    · obtain ⟨fs, hr, hrun, hended, hW, hsame⟩ := X4.leave (v := some (.int (0 : Int32))) (fun h => by rw [Bd.returns] at h; cases h)
      have hv8 : (f3 p1 w3) = (0 : Int32) := by rw [f3, if_neg hc2_2, if_pos hc10_6]
      refine ⟨_, _, pre5 _ ?_, hrun, hended, _, _, rfl, ?_, ⟨_, rfl⟩, hW, hsame.mono (by decide) (by decide)⟩
      · show Steps p.tables e below (T4.setTop (mkF m 10 #[.val (.ref o0), .val (.int p1)] [(.int w3), (.int p1)])) _
        refine XS.icmpYes X4.here hx rfl (pc0 := 10) (pc' := 17) rfl (hb hby d3_10) rfl (tlt hc10_6).2.2.1 (by decide) (by decide) ?_
        show Steps p.tables e below (T4.setTop (mkF m 17 #[.val (.ref o0), .val (.int p1)] [])) _
        refine XS.iconst X4.here hx rfl (hb hby d3_17) ?_
        show Steps p.tables e below (T4.setTop (mkF m 18 #[.val (.ref o0), .val (.int p1)] [(.int (0 : Int32))])) _
        exact retN X4 hx (t := .boolean) Bd.returns (by simp) (hb hby d3_18) hr
      · show Q3 Z o0 p1 w3 h0 n0 _ T4.heap _
        rw [e4]
        exact ⟨congrArg (fun q => some (Value.int q)) hv8.symm, N0, rfl⟩
    · obtain ⟨fs, hr, hrun, hended, hW, hsame⟩ := X4.leave (v := some (.int (1 : Int32))) (fun h => by rw [Bd.returns] at h; cases h)
      have hv9 : (f3 p1 w3) = (1 : Int32) := by rw [f3, if_neg hc2_2, if_neg hc10_6]
      refine ⟨_, _, pre5 _ ?_, hrun, hended, _, _, rfl, ?_, ⟨_, rfl⟩, hW, hsame.mono (by decide) (by decide)⟩
      · show Steps p.tables e below (T4.setTop (mkF m 10 #[.val (.ref o0), .val (.int p1)] [(.int w3), (.int p1)])) _
        refine XS.icmpNo X4.here hx rfl (hb hby d3_10) rfl (flt hc10_6).2.2.1 ?_
        show Steps p.tables e below (T4.setTop (mkF m 13 #[.val (.ref o0), .val (.int p1)] [])) _
        refine XS.iconst X4.here hx rfl (hb hby d3_13) ?_
        show Steps p.tables e below (T4.setTop (mkF m 14 #[.val (.ref o0), .val (.int p1)] [(.int (1 : Int32))])) _
        refine XS.goto X4.here hx rfl (pc0 := 14) (pc' := 18) rfl (hb hby d3_14) (by decide) (by decide) ?_
        show Steps p.tables e below (T4.setTop (mkF m 18 #[.val (.ref o0), .val (.int p1)] [(.int (1 : Int32))])) _
        exact retN X4 hx (t := .boolean) Bd.returns (by simp) (hb hby d3_18) hr
      · show Q3 Z o0 p1 w3 h0 n0 _ T4.heap _
        rw [e4]
        exact ⟨congrArg (fun q => some (Value.int q)) hv9.symm, N0, rfl⟩
theorem d4_0 : decode method_2_code 0 = .ok (.lload_n 0, 1) := by decide +kernel
theorem d4_1 : decode method_2_code 1 = .ok (.lconst 1, 1) := by decide +kernel
theorem d4_2 : decode method_2_code 2 = .ok (.lsub, 1) := by decide +kernel
theorem d4_3 : decode method_2_code 3 = .ok (.lstore 4, 2) := by decide +kernel
theorem d4_5 : decode method_2_code 5 = .ok (.lload 4, 2) := by decide +kernel
theorem d4_7 : decode method_2_code 7 = .ok (.lconst 0, 1) := by decide +kernel
theorem d4_8 : decode method_2_code 8 = .ok (.lcmp, 1) := by decide +kernel
theorem d4_9 : decode method_2_code 9 = .ok (.ifCond .lt 14, 3) := by decide +kernel
theorem d4_12 : decode method_2_code 12 = .ok (.lload 4, 2) := by decide +kernel
theorem d4_14 : decode method_2_code 14 = .ok (.lload_n 2, 1) := by decide +kernel
theorem d4_15 : decode method_2_code 15 = .ok (.lcmp, 1) := by decide +kernel
theorem d4_16 : decode method_2_code 16 = .ok (.ifCond .ge 7, 3) := by decide +kernel
theorem d4_19 : decode method_2_code 19 = .ok (.iconst 1, 1) := by decide +kernel
theorem d4_20 : decode method_2_code 20 = .ok (.goto 4, 3) := by decide +kernel
theorem d4_23 : decode method_2_code 23 = .ok (.iconst 0, 1) := by decide +kernel
theorem d4_24 : decode method_2_code 24 = .ok (.ireturn, 1) := by decide +kernel
theorem pn_4 : plainName "com/example/cabweave/cabweave/NetworkContainsPinLaw" = true := by first | (simp [plainName, overriddenIn]; done) | decide +kernel
theorem ef_4 (m : MethodId) (x0 : Int64) (x1 : Int64) : entryFrame m #[(.long x0), (.long x1)] 6 = mkF m 0 #[.val (.long x0), .second, .val (.long x1), .second, .unset, .unset] [] := by first | (simp [entryFrame, mkF, argsToLocals, Value.category]; done) | rfl
def f4 (q0 : Int64) (q1 : Int64) : Int32 :=
  if (lcmpW (q0 - (1 : Int64)) (0 : Int64)) < (0 : Int32) then ((0 : Int32)) else
  (if (lcmpW (q0 - (1 : Int64)) q1) < (0 : Int32) then ((1 : Int32)) else
  ((0 : Int32)))
def Q4 (Z : State) (q0 : Int64) (q1 : Int64) (h0 : Heap) (n0 : Nat) (v : Option Value) (h : Heap) (L : List Loc) : Prop := v = some (.int (f4 q0 q1)) ∧ Fr n0 L ∧ h = h0
set_option maxRecDepth 65536 in
set_option maxHeartbeats 40000000 in
theorem rm4 (l : Launch) (Z : State) (a0 : Array Value) (hw : ∀ d ∈ tables_1, d.before a0 Z = true) (ws : List Jvm.Cond) (q0 : Int64) (q1 : Int64) (h0 : Heap) (n0 : Nat) (Z0 : n0 ≤ h0.size) :
    MetFree l (⟨"com/example/cabweave/cabweave/NetworkContainsPinLaw", "inRange", "(JJ)Z"⟩ : MethodName) (head1 (Jvm.Cond.code (⟨"com/example/cabweave/cabweave/NetworkContainsPinLaw", "inRange", "(JJ)Z"⟩ : MethodName) method_2_code 6 (some .boolean) :: ws) ({ frames := 0, cells := 0, slots := 0, locals := 0 } : Room)) (fun a U => a = #[(.long q0), (.long q1)] ∧ Z.Warmed39 U.vm ∧ U.heap = h0) (fun _ _ _ _ _ => True) (fun _ U o U' => ∃ v L, o = .returned v ∧ Q4 Z q0 q1 h0 n0 v U'.heap L ∧ FrameEnd U o U' L ({ frames := 0, cells := 0, slots := 0, locals := 0 } : Room).cells ({ frames := 0, cells := 0, slots := 0, locals := 0 } : Room).slots) := by
  refine MetFree.of_bodySF (plainFor_of_name pn_4) hisR ?_
  intro p e s m args below meth c s₁ Bd hml0 hP hK
  obtain ⟨rfl, hZ, hh⟩ := hP
  have hx := Bd.exec
  have hby := Bd.bytes
  have hml : c.maxLocals = 6 := hml0
  have hown : s.vm.findClass "com/example/cabweave/cabweave/NetworkContainsPinLaw" = some m.cls := findClass_of_methodNamed Bd.named
  have hnm := (name_of_methodNamed Bd.named Bd.method).1
  have X0 : Stand p l e ({ frames := 0, cells := 0, slots := 0, locals := 0 } : Room) s m #[(.long q0), (.long q1)] below meth c s₁ [] 0 0 := Stand.of_body Bd
  have e0 : s₁.heap = h0 := by rw [← hh, Bd.state]; rfl
  have N0 := Fr.nil n0
  have pre0 : ∀ t, Steps p.tables e below (s₁.setTop (mkF m 0 #[.val (.long q0), .second, .val (.long q1), .second, .unset, .unset] [])) t → Steps p.tables e below (s₁.setTop (entryFrame m #[(.long q0), (.long q1)] 6)) t := fun t k => castTop (ef_4 m q0 q1) k
  have pre1 : ∀ t, Steps p.tables e below (s₁.setTop (mkF m 9 #[.val (.long q0), .second, .val (.long q1), .second, .val (.long (q0 - (1 : Int64))), .second] [(.int (lcmpW (q0 - (1 : Int64)) (0 : Int64)))])) t → Steps p.tables e below (s₁.setTop (entryFrame m #[(.long q0), (.long q1)] 6)) t := fun t kt => pre0 t (by
      show Steps p.tables e below (s₁.setTop (mkF m 0 #[.val (.long q0), .second, .val (.long q1), .second, .unset, .unset] [])) _
      refine XS.lloadN X0.here hx rfl (hb hby d4_0) rfl ?_
      show Steps p.tables e below (s₁.setTop (mkF m 1 #[.val (.long q0), .second, .val (.long q1), .second, .unset, .unset] [(.long q0)])) _
      refine XS.lconst X0.here hx rfl (hb hby d4_1) ?_
      show Steps p.tables e below (s₁.setTop (mkF m 2 #[.val (.long q0), .second, .val (.long q1), .second, .unset, .unset] [(.long (1 : Int64)), (.long q0)])) _
      refine XS.lsub X0.here hx rfl (hb hby d4_2) rfl ?_
      show Steps p.tables e below (s₁.setTop (mkF m 3 #[.val (.long q0), .second, .val (.long q1), .second, .unset, .unset] [(.long (q0 - (1 : Int64)))])) _
      refine XS.lstore X0.here hx rfl (hb hby d4_3) rfl (l' := #[.val (.long q0), .second, .val (.long q1), .second, .val (.long (q0 - (1 : Int64))), .second]) rfl ?_
      show Steps p.tables e below (s₁.setTop (mkF m 5 #[.val (.long q0), .second, .val (.long q1), .second, .val (.long (q0 - (1 : Int64))), .second] [])) _
      refine XS.lload X0.here hx rfl (hb hby d4_5) rfl ?_
      show Steps p.tables e below (s₁.setTop (mkF m 7 #[.val (.long q0), .second, .val (.long q1), .second, .val (.long (q0 - (1 : Int64))), .second] [(.long (q0 - (1 : Int64)))])) _
      refine XS.lconst X0.here hx rfl (hb hby d4_7) ?_
      show Steps p.tables e below (s₁.setTop (mkF m 8 #[.val (.long q0), .second, .val (.long q1), .second, .val (.long (q0 - (1 : Int64))), .second] [(.long (0 : Int64)), (.long (q0 - (1 : Int64)))])) _
      refine XS.lcmp X0.here hx rfl (hb hby d4_8) rfl ?_
      exact kt)
  by_cases hc9_2 : (lcmpW (q0 - (1 : Int64)) (0 : Int64)) < (0 : Int32)
  · obtain ⟨fs, hr, hrun, hended, hW, hsame⟩ := X0.leave (v := some (.int (0 : Int32))) (fun h => by rw [Bd.returns] at h; cases h)
    have hv5 : (f4 q0 q1) = (0 : Int32) := by rw [f4, if_pos hc9_2]
    refine ⟨_, _, pre1 _ ?_, hrun, hended, _, _, rfl, ?_, ⟨_, rfl⟩, hW, hsame.mono (by decide) (by decide)⟩
    · show Steps p.tables e below (s₁.setTop (mkF m 9 #[.val (.long q0), .second, .val (.long q1), .second, .val (.long (q0 - (1 : Int64))), .second] [(.int (lcmpW (q0 - (1 : Int64)) (0 : Int64)))])) _
      refine XS.ifYes X0.here hx rfl (pc0 := 9) (pc' := 23) rfl (hb hby d4_9) rfl ((if0 _ _).trans (tlt hc9_2).1) (by decide) (by decide) ?_
      show Steps p.tables e below (s₁.setTop (mkF m 23 #[.val (.long q0), .second, .val (.long q1), .second, .val (.long (q0 - (1 : Int64))), .second] [])) _
      refine XS.iconst X0.here hx rfl (hb hby d4_23) ?_
      show Steps p.tables e below (s₁.setTop (mkF m 24 #[.val (.long q0), .second, .val (.long q1), .second, .val (.long (q0 - (1 : Int64))), .second] [(.int (0 : Int32))])) _
      exact retN X0 hx (t := .boolean) Bd.returns (by simp) (hb hby d4_24) hr
    · show Q4 Z q0 q1 h0 n0 _ s₁.heap _
      rw [e0]
      exact ⟨congrArg (fun q => some (Value.int q)) hv5.symm, N0, rfl⟩
  · have pre3 : ∀ t, Steps p.tables e below (s₁.setTop (mkF m 16 #[.val (.long q0), .second, .val (.long q1), .second, .val (.long (q0 - (1 : Int64))), .second] [(.int (lcmpW (q0 - (1 : Int64)) q1))])) t → Steps p.tables e below (s₁.setTop (entryFrame m #[(.long q0), (.long q1)] 6)) t := fun t kt => pre1 t (by
        show Steps p.tables e below (s₁.setTop (mkF m 9 #[.val (.long q0), .second, .val (.long q1), .second, .val (.long (q0 - (1 : Int64))), .second] [(.int (lcmpW (q0 - (1 : Int64)) (0 : Int64)))])) _
        refine XS.ifNo X0.here hx rfl (hb hby d4_9) rfl ((if0 _ _).trans (flt hc9_2).1) ?_
        show Steps p.tables e below (s₁.setTop (mkF m 12 #[.val (.long q0), .second, .val (.long q1), .second, .val (.long (q0 - (1 : Int64))), .second] [])) _
        refine XS.lload X0.here hx rfl (hb hby d4_12) rfl ?_
        show Steps p.tables e below (s₁.setTop (mkF m 14 #[.val (.long q0), .second, .val (.long q1), .second, .val (.long (q0 - (1 : Int64))), .second] [(.long (q0 - (1 : Int64)))])) _
        refine XS.lloadN X0.here hx rfl (hb hby d4_14) rfl ?_
        show Steps p.tables e below (s₁.setTop (mkF m 15 #[.val (.long q0), .second, .val (.long q1), .second, .val (.long (q0 - (1 : Int64))), .second] [(.long q1), (.long (q0 - (1 : Int64)))])) _
        refine XS.lcmp X0.here hx rfl (hb hby d4_15) rfl ?_
        exact kt)
    by_cases hc16_4 : (lcmpW (q0 - (1 : Int64)) q1) < (0 : Int32)
    · obtain ⟨fs, hr, hrun, hended, hW, hsame⟩ := X0.leave (v := some (.int (1 : Int32))) (fun h => by rw [Bd.returns] at h; cases h)
      have hv6 : (f4 q0 q1) = (1 : Int32) := by rw [f4, if_neg hc9_2, if_pos hc16_4]
      refine ⟨_, _, pre3 _ ?_, hrun, hended, _, _, rfl, ?_, ⟨_, rfl⟩, hW, hsame.mono (by decide) (by decide)⟩
      · show Steps p.tables e below (s₁.setTop (mkF m 16 #[.val (.long q0), .second, .val (.long q1), .second, .val (.long (q0 - (1 : Int64))), .second] [(.int (lcmpW (q0 - (1 : Int64)) q1))])) _
        refine XS.ifNo X0.here hx rfl (hb hby d4_16) rfl ((if0 _ _).trans (tlt hc16_4).2.1) ?_
        show Steps p.tables e below (s₁.setTop (mkF m 19 #[.val (.long q0), .second, .val (.long q1), .second, .val (.long (q0 - (1 : Int64))), .second] [])) _
        refine XS.iconst X0.here hx rfl (hb hby d4_19) ?_
        show Steps p.tables e below (s₁.setTop (mkF m 20 #[.val (.long q0), .second, .val (.long q1), .second, .val (.long (q0 - (1 : Int64))), .second] [(.int (1 : Int32))])) _
        refine XS.goto X0.here hx rfl (pc0 := 20) (pc' := 24) rfl (hb hby d4_20) (by decide) (by decide) ?_
        show Steps p.tables e below (s₁.setTop (mkF m 24 #[.val (.long q0), .second, .val (.long q1), .second, .val (.long (q0 - (1 : Int64))), .second] [(.int (1 : Int32))])) _
        exact retN X0 hx (t := .boolean) Bd.returns (by simp) (hb hby d4_24) hr
      · show Q4 Z q0 q1 h0 n0 _ s₁.heap _
        rw [e0]
        exact ⟨congrArg (fun q => some (Value.int q)) hv6.symm, N0, rfl⟩
    · obtain ⟨fs, hr, hrun, hended, hW, hsame⟩ := X0.leave (v := some (.int (0 : Int32))) (fun h => by rw [Bd.returns] at h; cases h)
      have hv7 : (f4 q0 q1) = (0 : Int32) := by rw [f4, if_neg hc9_2, if_neg hc16_4]
      refine ⟨_, _, pre3 _ ?_, hrun, hended, _, _, rfl, ?_, ⟨_, rfl⟩, hW, hsame.mono (by decide) (by decide)⟩
      · show Steps p.tables e below (s₁.setTop (mkF m 16 #[.val (.long q0), .second, .val (.long q1), .second, .val (.long (q0 - (1 : Int64))), .second] [(.int (lcmpW (q0 - (1 : Int64)) q1))])) _
        refine XS.ifYes X0.here hx rfl (pc0 := 16) (pc' := 23) rfl (hb hby d4_16) rfl ((if0 _ _).trans (flt hc16_4).2.1) (by decide) (by decide) ?_
        show Steps p.tables e below (s₁.setTop (mkF m 23 #[.val (.long q0), .second, .val (.long q1), .second, .val (.long (q0 - (1 : Int64))), .second] [])) _
        refine XS.iconst X0.here hx rfl (hb hby d4_23) ?_
        show Steps p.tables e below (s₁.setTop (mkF m 24 #[.val (.long q0), .second, .val (.long q1), .second, .val (.long (q0 - (1 : Int64))), .second] [(.int (0 : Int32))])) _
        exact retN X0 hx (t := .boolean) Bd.returns (by simp) (hb hby d4_24) hr
      · show Q4 Z q0 q1 h0 n0 _ s₁.heap _
        rw [e0]
        exact ⟨congrArg (fun q => some (Value.int q)) hv7.symm, N0, rfl⟩
theorem pn_0 : plainName "com/example/cabweave/cabweave/NetworkContainsPinLaw" = true := by first | (simp [plainName, overriddenIn]; done) | decide +kernel
theorem pd_0_0 : parseMethodDescriptor "(II[I[I[D[D)V" = some ⟨[.int, .int, (.array .int), (.array .int), (.array .double), (.array .double)], none⟩ := by decide +kernel
theorem pd_0_1 : parseMethodDescriptor "(I)Z" = some ⟨[.int], some .boolean⟩ := by decide +kernel
theorem pd_0_2 : parseMethodDescriptor "(JJ)Z" = some ⟨[.long, .long], some .boolean⟩ := by decide +kernel
theorem ef_0 (m : MethodId) (x0 : Int32) (x1 : Int32) (x2 : Int32) : entryFrame m #[(.int x0), (.int x1), (.int x2)] maxLocals = mkF m 0 #[.val (.int x0), .val (.int x1), .val (.int x2), .unset, .unset, .unset, .unset, .unset] [] := by first | (simp [entryFrame, mkF, argsToLocals, Value.category, maxLocals]; done) | rfl
def e0_1 (p0 : Int32) (p2 : Int32) : Int32 := (((p0 &&& (1023 : Int32)) - (1 : Int32)) + (p2 &&& (3 : Int32)))
theorem own_f3 (x n : Int32) : f3 x n = if x.toInt < 1 then 0 else if n.toInt < x.toInt then 0 else 1 := by
  have e1 : (1 : Int32).toInt = 1 := by decide
  unfold f3
  simp only [Int32.lt_iff_toInt_lt, e1]
theorem own_same (x n : Int32) : f3 x n = f4 x.toInt64 n.toInt64 := by
  rw [own_f3]
  unfold f4
  have a1 := c_i2l x
  have a2 := c_i2l n
  have a3 := rng32 x
  have a4 := rng32 n
  have b1 := c_lsub x.toInt64 1
  have b2 := rng64 (x.toInt64 - 1)
  have e1 : (1 : Int64).toInt = 1 := by decide
  have e0 : (0 : Int64).toInt = 0 := by decide
  rw [e1] at b1
  simp only [lw_lt, Int64.lt_iff_toInt_lt, e0]
  repeat' split
  all_goals first | rfl | (exfalso; omega)
theorem own_z0 (n : Int32) : f3 (0 : Int32) n = 0 := by unfold f3; rw [if_pos (by decide)]
theorem own_z1 (n : Int32) : f3 (-1 : Int32) n = 0 := by unfold f3; rw [if_pos (by decide)]
theorem own_z2 (n : Int32) : f3 (-2147483648 : Int32) n = 0 := by unfold f3; rw [if_pos (by decide)]
theorem own_z3 {n : Int32} (h : 0 ≤ n.toInt ∧ n.toInt ≤ 1023) : f3 (2147483647 : Int32) n = 0 := by
  have e1 : (2147483647 : Int32).toInt = 2147483647 := by decide
  rw [own_f3, e1, if_neg (by omega), if_pos (by omega)]
theorem own_one1 {n : Int32} (h : ¬ n < (1 : Int32)) : f3 (1 : Int32) n = 1 := by unfold f3; rw [if_neg (by decide), if_neg h]
theorem own_one0 {n : Int32} (h : n < (1 : Int32)) : f3 (1 : Int32) n = 0 := by unfold f3; rw [if_neg (by decide), if_pos h]
theorem own_self1 {n : Int32} (h : ¬ n < (1 : Int32)) : f3 n n = 1 := by unfold f3; rw [if_neg h, if_neg (Int32.lt_irrefl)]
theorem own_self0 {n : Int32} (h : n < (1 : Int32)) : f3 n n = 0 := by unfold f3; rw [if_pos h]
theorem own_next {n : Int32} (h : 0 ≤ n.toInt ∧ n.toInt ≤ 1023) : f3 (n + 1) n = 0 := by
  have h1 := c_iadd n 1
  have h2 := rng32 (n + 1)
  have e1 : (1 : Int32).toInt = 1 := by decide
  rw [e1] at h1
  rw [own_f3, if_neg (by omega), if_pos (by omega)]
def Q0 (Z : State) (p0 : Int32) (p1 : Int32) (p2 : Int32) (h0 : Heap) (n0 : Nat) (v : Option Value) (h : Heap) (L : List Loc) : Prop := v = some (.int (1 : Int32)) ∧ Fr n0 L
set_option maxRecDepth 65536 in
set_option maxHeartbeats 40000000 in
theorem rm0 (l : Launch) (Z : State) (a0 : Array Value) (hw : ∀ d ∈ tables_1, d.before a0 Z = true) (ws : List Jvm.Cond) (p0 : Int32) (p1 : Int32) (p2 : Int32) (h0 : Heap) (n0 : Nat) (Z0 : n0 ≤ h0.size) :
    MetFree l x (head1 (Jvm.Cond.code x code maxLocals ret :: ws) room_1) (fun a U => a = #[(.int p0), (.int p1), (.int p2)] ∧ Z.Warmed39 U.vm ∧ U.heap = h0) (fun _ _ _ _ _ => True) (fun _ U o U' => ∃ v L, o = .returned v ∧ Q0 Z p0 p1 p2 h0 n0 v U'.heap L ∧ FrameEnd U o U' L room_1.cells room_1.slots) := by
  refine MetFree.of_bodySF (plainFor_of_name pn_0) hisR ?_
  intro p e s m args below meth c s₁ Bd hml0 hP hK
  obtain ⟨rfl, hZ, hh⟩ := hP
  have hx := Bd.exec
  have hby := Bd.bytes
  have hml : c.maxLocals = 8 := hml0
  have hown : s.vm.findClass "com/example/cabweave/cabweave/NetworkContainsPinLaw" = some m.cls := findClass_of_methodNamed Bd.named
  have hnm := (name_of_methodNamed Bd.named Bd.method).1
  have X0 : Stand p l e room_1 s m #[(.int p0), (.int p1), (.int p2)] below meth c s₁ [] 0 0 := Stand.of_body Bd
  have e0 : s₁.heap = h0 := by rw [← hh, Bd.state]; rfl
  have N0 := Fr.nil n0
  have pre0 : ∀ t, Steps p.tables e below (s₁.setTop (mkF m 0 #[.val (.int p0), .val (.int p1), .val (.int p2), .unset, .unset, .unset, .unset, .unset] [])) t → Steps p.tables e below (s₁.setTop (entryFrame m #[(.int p0), (.int p1), (.int p2)] maxLocals)) t := fun t k => castTop (ef_0 m p0 p1 p2) k
  obtain ⟨T1, h1, X1, e1, E1, A1, D1, -, st1⟩ := newO X0 hx hZ hown (hw _ (List.mem_of_getElem? (i := 0) rfl)) (hw _ (List.mem_of_getElem? (i := 1) rfl)) (hw _ (List.mem_of_getElem? (i := 2) rfl)) e0 (g := (mkF m 6 #[.val (.int p0), .val (.int p1), .val (.int p2), .val (.int (p0 &&& (1023 : Int32))), .unset, .unset, .unset, .unset] [])) rfl (hb hby at_6) (by decide) (by decide)
  obtain ⟨b1, g1⟩ : ∃ z, z = h0.size := ⟨_, rfl⟩
  rw [← g1] at A1 D1 st1
  have g_b1 : n0 ≤ b1 := Nat.le_trans Z0 (Nat.le_of_eq g1.symm)
  have sz_b1 : h0.size ≤ b1 := Nat.le_trans (Keep.refl h0 []).1 (Nat.le_of_eq g1.symm)
  have K2 : Keep h0 h1 [] := (Keep.refl h0 []).ext E1
  have Z3 : n0 ≤ h1.size := Nat.le_trans Z0 K2.1
  have E_b1 := A1
  have F_nodeCount_b1 : Fld Z h1 b1 "com/example/cabweave/cabweave/Network" "nodeCount" "I" (.int (0 : Int32)) := D1 (Or.inr (hw _ (List.mem_of_getElem? (i := 13) rfl))) (ty := .int) (by decide)
  have F_firstThruNode_b1 : Fld Z h1 b1 "com/example/cabweave/cabweave/Network" "firstThruNode" "I" (.int (0 : Int32)) := D1 (Or.inr (hw _ (List.mem_of_getElem? (i := 15) rfl))) (ty := .int) (by decide)
  have F_firstOut_b1 : Fld Z h1 b1 "com/example/cabweave/cabweave/Network" "firstOut" "[I" .null := D1 (Or.inr (hw _ (List.mem_of_getElem? (i := 17) rfl))) (ty := (.array .int)) (by decide)
  have F_tail_b1 : Fld Z h1 b1 "com/example/cabweave/cabweave/Network" "tail" "[I" .null := D1 (Or.inr (hw _ (List.mem_of_getElem? (i := 19) rfl))) (ty := (.array .int)) (by decide)
  have F_head_b1 : Fld Z h1 b1 "com/example/cabweave/cabweave/Network" "head" "[I" .null := D1 (Or.inr (hw _ (List.mem_of_getElem? (i := 21) rfl))) (ty := (.array .int)) (by decide)
  have F_length_b1 : Fld Z h1 b1 "com/example/cabweave/cabweave/Network" "length" "[D" .null := D1 (Or.inr (hw _ (List.mem_of_getElem? (i := 23) rfl))) (ty := (.array .double)) (by decide)
  have F_time_b1 : Fld Z h1 b1 "com/example/cabweave/cabweave/Network" "time" "[D" .null := D1 (Or.inr (hw _ (List.mem_of_getElem? (i := 25) rfl))) (ty := (.array .double)) (by decide)
  obtain ⟨T4, h4, k4, X4, e4, E4, A4, st4⟩ := newP X1 hx hZ (hw _ (List.mem_of_getElem? (i := 3) rfl)) e1 (g := (mkF m 13 #[.val (.int p0), .val (.int p1), .val (.int p2), .val (.int (p0 &&& (1023 : Int32))), .unset, .unset, .unset, .unset] [(.int (0 : Int32)), (.int (1 : Int32)), (.int (p0 &&& (1023 : Int32))), (.ref b1), (.ref b1)])) rfl (hb hby at_13) rfl (by decide) (cap := 0) (by decide) (by decide) (by decide) (by decide)
  obtain ⟨b4, g4⟩ : ∃ z, z = h1.size := ⟨_, rfl⟩
  rw [← g4] at A4 st4
  have g_b4 : n0 ≤ b4 := Nat.le_trans Z3 (Nat.le_of_eq g4.symm)
  have sz_b4 : h0.size ≤ b4 := Nat.le_trans K2.1 (Nat.le_of_eq g4.symm)
  have ne_b1_b4 : b1 ≠ b4 := Nat.ne_of_lt (Nat.lt_of_lt_of_le E_b1.lt (Nat.le_of_eq g4.symm))
  have K5 : Keep h0 h4 [] := K2.ext E4
  have Z6 : n0 ≤ h4.size := Nat.le_trans Z0 K5.1
  have V_b4 : own_AI Z h4 b4 .int (0 : Int32) (fun _ => 0) := own_AI.new A4 (by decide) rfl
  obtain ⟨T7, h7, k7, X7, e7, E7, A7, st7⟩ := newP X4 hx hZ (hw _ (List.mem_of_getElem? (i := 3) rfl)) e4 (g := (mkF m 16 #[.val (.int p0), .val (.int p1), .val (.int p2), .val (.int (p0 &&& (1023 : Int32))), .unset, .unset, .unset, .unset] [(.int (0 : Int32)), (.ref b4), (.int (1 : Int32)), (.int (p0 &&& (1023 : Int32))), (.ref b1), (.ref b1)])) rfl (hb hby at_16) rfl (by decide) (cap := 0) (by decide) (by decide) (by decide) (by decide)
  obtain ⟨b7, g7⟩ : ∃ z, z = h4.size := ⟨_, rfl⟩
  rw [← g7] at A7 st7
  have g_b7 : n0 ≤ b7 := Nat.le_trans Z6 (Nat.le_of_eq g7.symm)
  have sz_b7 : h0.size ≤ b7 := Nat.le_trans K5.1 (Nat.le_of_eq g7.symm)
  have ne_b1_b7 : b1 ≠ b7 := Nat.ne_of_lt (Nat.lt_of_lt_of_le (E_b1.ext E4).lt (Nat.le_of_eq g7.symm))
  have ne_b4_b7 : b4 ≠ b7 := Nat.ne_of_lt (Nat.lt_of_lt_of_le V_b4.lt (Nat.le_of_eq g7.symm))
  have K8 : Keep h0 h7 [] := K5.ext E7
  have Z9 : n0 ≤ h7.size := Nat.le_trans Z0 K8.1
  have V_b7 : own_AI Z h7 b7 .int (0 : Int32) (fun _ => 0) := own_AI.new A7 (by decide) rfl
  obtain ⟨T10, h10, k10, X10, e10, E10, A10, st10⟩ := newP X7 hx hZ (hw _ (List.mem_of_getElem? (i := 4) rfl)) e7 (g := (mkF m 19 #[.val (.int p0), .val (.int p1), .val (.int p2), .val (.int (p0 &&& (1023 : Int32))), .unset, .unset, .unset, .unset] [(.int (0 : Int32)), (.ref b7), (.ref b4), (.int (1 : Int32)), (.int (p0 &&& (1023 : Int32))), (.ref b1), (.ref b1)])) rfl (hb hby at_19) rfl (by decide) (cap := 0) (by decide) (by decide) (by decide) (by decide)
  obtain ⟨b10, g10⟩ : ∃ z, z = h7.size := ⟨_, rfl⟩
  rw [← g10] at A10 st10
  have g_b10 : n0 ≤ b10 := Nat.le_trans Z9 (Nat.le_of_eq g10.symm)
  have sz_b10 : h0.size ≤ b10 := Nat.le_trans K8.1 (Nat.le_of_eq g10.symm)
  have ne_b1_b10 : b1 ≠ b10 := Nat.ne_of_lt (Nat.lt_of_lt_of_le ((E_b1.ext E4).ext E7).lt (Nat.le_of_eq g10.symm))
  have ne_b4_b10 : b4 ≠ b10 := Nat.ne_of_lt (Nat.lt_of_lt_of_le (V_b4.ext E7).lt (Nat.le_of_eq g10.symm))
  have ne_b7_b10 : b7 ≠ b10 := Nat.ne_of_lt (Nat.lt_of_lt_of_le V_b7.lt (Nat.le_of_eq g10.symm))
  have K11 : Keep h0 h10 [] := K8.ext E10
  have Z12 : n0 ≤ h10.size := Nat.le_trans Z0 K11.1
  have V_b10 : own_AL Z h10 b10 .double (0 : Int32) := own_AL.new A10 (by decide)
  obtain ⟨T13, h13, k13, X13, e13, E13, A13, st13⟩ := newP X10 hx hZ (hw _ (List.mem_of_getElem? (i := 4) rfl)) e10 (g := (mkF m 22 #[.val (.int p0), .val (.int p1), .val (.int p2), .val (.int (p0 &&& (1023 : Int32))), .unset, .unset, .unset, .unset] [(.int (0 : Int32)), (.ref b10), (.ref b7), (.ref b4), (.int (1 : Int32)), (.int (p0 &&& (1023 : Int32))), (.ref b1), (.ref b1)])) rfl (hb hby at_22) rfl (by decide) (cap := 0) (by decide) (by decide) (by decide) (by decide)
  obtain ⟨b13, g13⟩ : ∃ z, z = h10.size := ⟨_, rfl⟩
  rw [← g13] at A13 st13
  have g_b13 : n0 ≤ b13 := Nat.le_trans Z12 (Nat.le_of_eq g13.symm)
  have sz_b13 : h0.size ≤ b13 := Nat.le_trans K11.1 (Nat.le_of_eq g13.symm)
  have ne_b1_b13 : b1 ≠ b13 := Nat.ne_of_lt (Nat.lt_of_lt_of_le (((E_b1.ext E4).ext E7).ext E10).lt (Nat.le_of_eq g13.symm))
  have ne_b4_b13 : b4 ≠ b13 := Nat.ne_of_lt (Nat.lt_of_lt_of_le ((V_b4.ext E7).ext E10).lt (Nat.le_of_eq g13.symm))
  have ne_b7_b13 : b7 ≠ b13 := Nat.ne_of_lt (Nat.lt_of_lt_of_le (V_b7.ext E10).lt (Nat.le_of_eq g13.symm))
  have ne_b10_b13 : b10 ≠ b13 := Nat.ne_of_lt (Nat.lt_of_lt_of_le V_b10.lt (Nat.le_of_eq g13.symm))
  have K14 : Keep h0 h13 [] := K11.ext E13
  have Z15 : n0 ≤ h13.size := Nat.le_trans Z0 K14.1
  have V_b13 : own_AL Z h13 b13 .double (0 : Int32) := own_AL.new A13 (by decide)
  obtain ⟨_, _, ⟨T16, L16, k16, n16⟩, -, X16, ⟨Lc16, hQ16, l16, y16, z16⟩, st16⟩ := X13.specialBack hx (y := (⟨"com/example/cabweave/cabweave/Network", "<init>", "(II[I[I[D[D)V"⟩ : MethodName)) rfl hown (mvT hZ (hw _ (List.mem_of_getElem? (i := 5) rfl))) (mvT hZ (hw _ (List.mem_of_getElem? (i := 6) rfl))) (mvT hZ (hw _ (List.mem_of_getElem? (i := 7) rfl))) (by decide) (backOf (W := 1) (rm1 l Z a0 hw [] b1 (p0 &&& (1023 : Int32)) (1 : Int32) b4 b7 b10 b13 (fun _ => 0) (fun _ => 0) (0 : Int32) (0 : Int32) h13 n0 Z15 ((((E_b1.ext E4).ext E7).ext E10).ext E13) (((V_b4.ext E7).ext E10).ext E13) ((V_b7.ext E10).ext E13) (V_b10.ext E13) V_b13 g_b1 ne_b1_b4 ne_b1_b7 ne_b1_b10 ne_b1_b13 (own_m1023 _) (by decide) ((((F_nodeCount_b1.ext E4).ext E7).ext E10).ext E13) ((((F_firstThruNode_b1.ext E4).ext E7).ext E10).ext E13) ((((F_firstOut_b1.ext E4).ext E7).ext E10).ext E13) ((((F_tail_b1.ext E4).ext E7).ext E10).ext E13) ((((F_head_b1.ext E4).ext E7).ext E10).ext E13) ((((F_length_b1.ext E4).ext E7).ext E10).ext E13) ((((F_time_b1.ext E4).ext E7).ext E10).ext E13)) hZ (hw _ (List.mem_of_getElem? (i := 7) rfl)) (hw _ (List.mem_of_getElem? (i := 2) rfl)) (by decide) (by decide)) (g := (mkF m 24 #[.val (.int p0), .val (.int p1), .val (.int p2), .val (.int (p0 &&& (1023 : Int32))), .unset, .unset, .unset, .unset] [(.ref b13), (.ref b10), (.ref b7), (.ref b4), (.int (1 : Int32)), (.int (p0 &&& (1023 : Int32))), (.ref b1), (.ref b1)])) rfl (by rw [hml]; rfl) (Steps.refl _) (a := b1) (argsL := [(.int (p0 &&& (1023 : Int32))), (.int (1 : Int32)), (.ref b4), (.ref b7), (.ref b10), (.ref b13)]) (rest := [(.ref b1)]) (lenOf pd_0_0 rfl) rfl (by show 2 * 0 + _ ≤ _; exact Nat.le_of_eq rfl) (hb hby at_24) (fun _ _ => ⟨rfl, e13, (by decide : 5 + 6 ≤ _), (by decide : 7 + 2050 ≤ _)⟩)
  dsimp only [Pt.U, Pt.locs, Pt.cells, Pt.slots] at X16 l16 y16 z16 st16 hQ16
  subst l16 y16 z16
  obtain ⟨rfl, N16q, K16q, G16_0, G16_1⟩ := hQ16
  have N16 := Fr.app N0 N16q
  have K17 : Keep h0 T16.heap [] := K14.trans K16q (allS (Or.inr sz_b1) all0)
  have Z18 : n0 ≤ T16.heap.size := Nat.le_trans Z0 K17.1
  obtain ⟨LS16, X16, N16⟩ : ∃ L, Stand p l e room_1 s m #[(.int p0), (.int p1), (.int p2)] below meth c T16 L 11 2057 ∧ Fr n0 L := ⟨_, X16, N16⟩
  have pre19 : ∀ t, Steps p.tables e below (T16.setTop (mkF m 31 #[.val (.int p0), .val (.int p1), .val (.int p2), .val (.int (p0 &&& (1023 : Int32))), .val (.ref b1), .unset, .unset, .unset] [(.int (1 : Int32)), (.int (p0 &&& (1023 : Int32)))])) t → Steps p.tables e below (s₁.setTop (entryFrame m #[(.int p0), (.int p1), (.int p2)] maxLocals)) t := fun t kt => pre0 t (by
      show Steps p.tables e below (s₁.setTop (mkF m 0 #[.val (.int p0), .val (.int p1), .val (.int p2), .unset, .unset, .unset, .unset, .unset] [])) _
      refine XS.iloadN X0.here hx rfl (hb hby at_0) rfl ?_
      show Steps p.tables e below (s₁.setTop (mkF m 1 #[.val (.int p0), .val (.int p1), .val (.int p2), .unset, .unset, .unset, .unset, .unset] [(.int p0)])) _
      refine XS.sipush X0.here hx rfl (hb hby at_1) ?_
      show Steps p.tables e below (s₁.setTop (mkF m 4 #[.val (.int p0), .val (.int p1), .val (.int p2), .unset, .unset, .unset, .unset, .unset] [(.int (1023 : Int32)), (.int p0)])) _
      refine XS.iand X0.here hx rfl (hb hby at_4) rfl ?_
      show Steps p.tables e below (s₁.setTop (mkF m 5 #[.val (.int p0), .val (.int p1), .val (.int p2), .unset, .unset, .unset, .unset, .unset] [(.int (p0 &&& (1023 : Int32)))])) _
      refine XS.istoreN X0.here hx rfl (hb hby at_5) rfl (l' := #[.val (.int p0), .val (.int p1), .val (.int p2), .val (.int (p0 &&& (1023 : Int32))), .unset, .unset, .unset, .unset]) rfl ?_
      show Steps p.tables e below (s₁.setTop (mkF m 6 #[.val (.int p0), .val (.int p1), .val (.int p2), .val (.int (p0 &&& (1023 : Int32))), .unset, .unset, .unset, .unset] [])) _
      refine st1 _ ?_
      show Steps p.tables e below (T1.setTop (mkF m 9 #[.val (.int p0), .val (.int p1), .val (.int p2), .val (.int (p0 &&& (1023 : Int32))), .unset, .unset, .unset, .unset] [(.ref b1)])) _
      refine XS.dup X1.here hx rfl (hb hby at_9) rfl rfl ?_
      show Steps p.tables e below (T1.setTop (mkF m 10 #[.val (.int p0), .val (.int p1), .val (.int p2), .val (.int (p0 &&& (1023 : Int32))), .unset, .unset, .unset, .unset] [(.ref b1), (.ref b1)])) _
      refine XS.iloadN X1.here hx rfl (hb hby at_10) rfl ?_
      show Steps p.tables e below (T1.setTop (mkF m 11 #[.val (.int p0), .val (.int p1), .val (.int p2), .val (.int (p0 &&& (1023 : Int32))), .unset, .unset, .unset, .unset] [(.int (p0 &&& (1023 : Int32))), (.ref b1), (.ref b1)])) _
      refine XS.iconst X1.here hx rfl (hb hby at_11) ?_
      show Steps p.tables e below (T1.setTop (mkF m 12 #[.val (.int p0), .val (.int p1), .val (.int p2), .val (.int (p0 &&& (1023 : Int32))), .unset, .unset, .unset, .unset] [(.int (1 : Int32)), (.int (p0 &&& (1023 : Int32))), (.ref b1), (.ref b1)])) _
      refine XS.iconst X1.here hx rfl (hb hby at_12) ?_
      show Steps p.tables e below (T1.setTop (mkF m 13 #[.val (.int p0), .val (.int p1), .val (.int p2), .val (.int (p0 &&& (1023 : Int32))), .unset, .unset, .unset, .unset] [(.int (0 : Int32)), (.int (1 : Int32)), (.int (p0 &&& (1023 : Int32))), (.ref b1), (.ref b1)])) _
      refine st4 _ ?_
      show Steps p.tables e below (T4.setTop (mkF m 15 #[.val (.int p0), .val (.int p1), .val (.int p2), .val (.int (p0 &&& (1023 : Int32))), .unset, .unset, .unset, .unset] [(.ref b4), (.int (1 : Int32)), (.int (p0 &&& (1023 : Int32))), (.ref b1), (.ref b1)])) _
      refine XS.iconst X4.here hx rfl (hb hby at_15) ?_
      show Steps p.tables e below (T4.setTop (mkF m 16 #[.val (.int p0), .val (.int p1), .val (.int p2), .val (.int (p0 &&& (1023 : Int32))), .unset, .unset, .unset, .unset] [(.int (0 : Int32)), (.ref b4), (.int (1 : Int32)), (.int (p0 &&& (1023 : Int32))), (.ref b1), (.ref b1)])) _
      refine st7 _ ?_
      show Steps p.tables e below (T7.setTop (mkF m 18 #[.val (.int p0), .val (.int p1), .val (.int p2), .val (.int (p0 &&& (1023 : Int32))), .unset, .unset, .unset, .unset] [(.ref b7), (.ref b4), (.int (1 : Int32)), (.int (p0 &&& (1023 : Int32))), (.ref b1), (.ref b1)])) _
      refine XS.iconst X7.here hx rfl (hb hby at_18) ?_
      show Steps p.tables e below (T7.setTop (mkF m 19 #[.val (.int p0), .val (.int p1), .val (.int p2), .val (.int (p0 &&& (1023 : Int32))), .unset, .unset, .unset, .unset] [(.int (0 : Int32)), (.ref b7), (.ref b4), (.int (1 : Int32)), (.int (p0 &&& (1023 : Int32))), (.ref b1), (.ref b1)])) _
      refine st10 _ ?_
      show Steps p.tables e below (T10.setTop (mkF m 21 #[.val (.int p0), .val (.int p1), .val (.int p2), .val (.int (p0 &&& (1023 : Int32))), .unset, .unset, .unset, .unset] [(.ref b10), (.ref b7), (.ref b4), (.int (1 : Int32)), (.int (p0 &&& (1023 : Int32))), (.ref b1), (.ref b1)])) _
      refine XS.iconst X10.here hx rfl (hb hby at_21) ?_
      show Steps p.tables e below (T10.setTop (mkF m 22 #[.val (.int p0), .val (.int p1), .val (.int p2), .val (.int (p0 &&& (1023 : Int32))), .unset, .unset, .unset, .unset] [(.int (0 : Int32)), (.ref b10), (.ref b7), (.ref b4), (.int (1 : Int32)), (.int (p0 &&& (1023 : Int32))), (.ref b1), (.ref b1)])) _
      refine st13 _ ?_
      show Steps p.tables e below (T13.setTop (mkF m 24 #[.val (.int p0), .val (.int p1), .val (.int p2), .val (.int (p0 &&& (1023 : Int32))), .unset, .unset, .unset, .unset] [(.ref b13), (.ref b10), (.ref b7), (.ref b4), (.int (1 : Int32)), (.int (p0 &&& (1023 : Int32))), (.ref b1), (.ref b1)])) _
      refine st16.trans ?_
      show Steps p.tables e below (T16.setTop (mkF m 27 #[.val (.int p0), .val (.int p1), .val (.int p2), .val (.int (p0 &&& (1023 : Int32))), .unset, .unset, .unset, .unset] [(.ref b1)])) _
      refine XS.astore X16.here hx rfl (hb hby at_27) rfl rfl (l' := #[.val (.int p0), .val (.int p1), .val (.int p2), .val (.int (p0 &&& (1023 : Int32))), .val (.ref b1), .unset, .unset, .unset]) rfl ?_
      show Steps p.tables e below (T16.setTop (mkF m 29 #[.val (.int p0), .val (.int p1), .val (.int p2), .val (.int (p0 &&& (1023 : Int32))), .val (.ref b1), .unset, .unset, .unset] [])) _
      refine XS.iloadN X16.here hx rfl (hb hby at_29) rfl ?_
      show Steps p.tables e below (T16.setTop (mkF m 30 #[.val (.int p0), .val (.int p1), .val (.int p2), .val (.int (p0 &&& (1023 : Int32))), .val (.ref b1), .unset, .unset, .unset] [(.int (p0 &&& (1023 : Int32)))])) _
      refine XS.iconst X16.here hx rfl (hb hby at_30) ?_
      exact kt)
  by_cases hc31_20 : (p0 &&& (1023 : Int32)) < (1 : Int32)
  · obtain ⟨cq21, kq21, q21a, q21b, q21c⟩ := isOf hZ rfl (((((E_b1.ext E4).ext E7).ext E10).ext E13).keep K16q)
    obtain ⟨_, _, ⟨T21, L21, k21, n21⟩, -, X21, ⟨Lc21, hQ21, l21, y21, z21⟩, st21⟩ := X16.virtualBack hx (y := (⟨"com/example/cabweave/cabweave/Network", "contains", "(I)Z"⟩ : MethodName)) (z := (⟨"com/example/cabweave/cabweave/Network", "contains", "(I)Z"⟩ : MethodName)) hown (mvT hZ (hw _ (List.mem_of_getElem? (i := 35) rfl))) (mvT hZ (hw _ (List.mem_of_getElem? (i := 36) rfl))) (notFace_of_selects (args := #[]) (mvT hZ (hw _ (List.mem_of_getElem? (i := 38) rfl)))) (mvT hZ (hw _ (List.mem_of_getElem? (i := 38) rfl))) (mvT hZ (hw _ (List.mem_of_getElem? (i := 37) rfl))) (by decide) (backOf (W := 0) (rm3 l Z a0 hw [] b1 p1 (p0 &&& (1023 : Int32)) T16.heap n0 Z18 G16_0) hZ (hw _ (List.mem_of_getElem? (i := 39) rfl)) (hw _ (List.mem_of_getElem? (i := 2) rfl)) (by decide) (by decide)) q21a q21c (g := (mkF m 53 #[.val (.int p0), .val (.int p1), .val (.int p2), .val (.int (p0 &&& (1023 : Int32))), .val (.ref b1), .val (.int (0 : Int32)), .val (.int (e0_1 p0 p2)), .unset] [(.int p1), (.ref b1)])) rfl (by rw [hml]; rfl) (Steps.refl _) (argsL := [(.int p1)]) (rest := []) (lenOf pd_0_1 rfl) rfl (by show 2 * 0 + _ ≤ _; exact Nat.le_of_eq rfl) (hb hby at_53) (fun _ _ => ⟨rfl, rfl, (by decide : 11 + 0 ≤ _), (by decide : 2057 + 0 ≤ _)⟩)
    dsimp only [Pt.U, Pt.locs, Pt.cells, Pt.slots] at X21 l21 y21 z21 st21 hQ21
    subst l21 y21 z21
    obtain ⟨rfl, N21q, e21q⟩ := hQ21
    have N21 := Fr.app N16 N21q
    obtain ⟨_, _, ⟨T22, L22, k22, n22⟩, -, X22, ⟨Lc22, hQ22, l22, y22, z22⟩, st22⟩ := Jvm.LawKit.callS X21 hx (y := (⟨"com/example/cabweave/cabweave/NetworkContainsPinLaw", "inRange", "(JJ)Z"⟩ : MethodName)) hown (mvT hZ (hw _ (List.mem_of_getElem? (i := 40) rfl))) (mvT hZ (hw _ (List.mem_of_getElem? (i := 41) rfl))) (mvT hZ (hw _ (List.mem_of_getElem? (i := 42) rfl))) (mvT hZ (hw _ (List.mem_of_getElem? (i := 43) rfl))) (by decide) (backOf (W := 1) (rm4 l Z a0 hw [] (p1.toInt64) ((p0 &&& (1023 : Int32)).toInt64) T16.heap n0 Z18 ) hZ (hw _ (List.mem_of_getElem? (i := 43) rfl)) (hw _ (List.mem_of_getElem? (i := 42) rfl)) (by decide) (by decide)) (g := (mkF m 60 #[.val (.int p0), .val (.int p1), .val (.int p2), .val (.int (p0 &&& (1023 : Int32))), .val (.ref b1), .val (.int (0 : Int32)), .val (.int (e0_1 p0 p2)), .unset] [(.long ((p0 &&& (1023 : Int32)).toInt64)), (.long (p1.toInt64)), (.int (f3 p1 (p0 &&& (1023 : Int32))))])) rfl (by rw [hml]; rfl) (argsL := [(.long (p1.toInt64)), (.long ((p0 &&& (1023 : Int32)).toInt64))]) (rest := [(.int (f3 p1 (p0 &&& (1023 : Int32))))]) (lenOf pd_0_2 rfl) rfl (by show 2 * 0 + _ ≤ _; exact Nat.le_of_eq rfl) (hb hby at_60) (fun _ _ => ⟨rfl, e21q, (by decide : 11 + 0 ≤ _), (by decide : 2057 + 0 ≤ _)⟩)
    dsimp only [Pt.U, Pt.locs, Pt.cells, Pt.slots] at X22 l22 y22 z22 st22 hQ22
    subst l22 y22 z22
    obtain ⟨rfl, N22q, e22q⟩ := hQ22
    have N22 := Fr.app N21 N22q
    have pre23 : ∀ t, Steps p.tables e below (T22.setTop (mkF m 63 #[.val (.int p0), .val (.int p1), .val (.int p2), .val (.int (p0 &&& (1023 : Int32))), .val (.ref b1), .val (.int (0 : Int32)), .val (.int (e0_1 p0 p2)), .unset] [(.int (f4 (p1.toInt64) ((p0 &&& (1023 : Int32)).toInt64))), (.int (f3 p1 (p0 &&& (1023 : Int32))))])) t → Steps p.tables e below (s₁.setTop (entryFrame m #[(.int p0), (.int p1), (.int p2)] maxLocals)) t := fun t kt => pre19 t (by
        show Steps p.tables e below (T16.setTop (mkF m 31 #[.val (.int p0), .val (.int p1), .val (.int p2), .val (.int (p0 &&& (1023 : Int32))), .val (.ref b1), .unset, .unset, .unset] [(.int (1 : Int32)), (.int (p0 &&& (1023 : Int32)))])) _
        refine XS.icmpYes X16.here hx rfl (pc0 := 31) (pc' := 38) rfl (hb hby at_31) rfl (tlt hc31_20).1 (by decide) (by decide) ?_
        show Steps p.tables e below (T16.setTop (mkF m 38 #[.val (.int p0), .val (.int p1), .val (.int p2), .val (.int (p0 &&& (1023 : Int32))), .val (.ref b1), .unset, .unset, .unset] [])) _
        refine XS.iconst X16.here hx rfl (hb hby at_38) ?_
        show Steps p.tables e below (T16.setTop (mkF m 39 #[.val (.int p0), .val (.int p1), .val (.int p2), .val (.int (p0 &&& (1023 : Int32))), .val (.ref b1), .unset, .unset, .unset] [(.int (0 : Int32))])) _
        refine XS.istore X16.here hx rfl (hb hby at_39) rfl (l' := #[.val (.int p0), .val (.int p1), .val (.int p2), .val (.int (p0 &&& (1023 : Int32))), .val (.ref b1), .val (.int (0 : Int32)), .unset, .unset]) rfl ?_
        show Steps p.tables e below (T16.setTop (mkF m 41 #[.val (.int p0), .val (.int p1), .val (.int p2), .val (.int (p0 &&& (1023 : Int32))), .val (.ref b1), .val (.int (0 : Int32)), .unset, .unset] [])) _
        refine XS.iloadN X16.here hx rfl (hb hby at_41) rfl ?_
        show Steps p.tables e below (T16.setTop (mkF m 42 #[.val (.int p0), .val (.int p1), .val (.int p2), .val (.int (p0 &&& (1023 : Int32))), .val (.ref b1), .val (.int (0 : Int32)), .unset, .unset] [(.int (p0 &&& (1023 : Int32)))])) _
        refine XS.iconst X16.here hx rfl (hb hby at_42) ?_
        show Steps p.tables e below (T16.setTop (mkF m 43 #[.val (.int p0), .val (.int p1), .val (.int p2), .val (.int (p0 &&& (1023 : Int32))), .val (.ref b1), .val (.int (0 : Int32)), .unset, .unset] [(.int (1 : Int32)), (.int (p0 &&& (1023 : Int32)))])) _
        refine XS.isub X16.here hx rfl (hb hby at_43) rfl ?_
        show Steps p.tables e below (T16.setTop (mkF m 44 #[.val (.int p0), .val (.int p1), .val (.int p2), .val (.int (p0 &&& (1023 : Int32))), .val (.ref b1), .val (.int (0 : Int32)), .unset, .unset] [(.int ((p0 &&& (1023 : Int32)) - (1 : Int32)))])) _
        refine XS.iloadN X16.here hx rfl (hb hby at_44) rfl ?_
        show Steps p.tables e below (T16.setTop (mkF m 45 #[.val (.int p0), .val (.int p1), .val (.int p2), .val (.int (p0 &&& (1023 : Int32))), .val (.ref b1), .val (.int (0 : Int32)), .unset, .unset] [(.int p2), (.int ((p0 &&& (1023 : Int32)) - (1 : Int32)))])) _
        refine XS.iconst X16.here hx rfl (hb hby at_45) ?_
        show Steps p.tables e below (T16.setTop (mkF m 46 #[.val (.int p0), .val (.int p1), .val (.int p2), .val (.int (p0 &&& (1023 : Int32))), .val (.ref b1), .val (.int (0 : Int32)), .unset, .unset] [(.int (3 : Int32)), (.int p2), (.int ((p0 &&& (1023 : Int32)) - (1 : Int32)))])) _
        refine XS.iand X16.here hx rfl (hb hby at_46) rfl ?_
        show Steps p.tables e below (T16.setTop (mkF m 47 #[.val (.int p0), .val (.int p1), .val (.int p2), .val (.int (p0 &&& (1023 : Int32))), .val (.ref b1), .val (.int (0 : Int32)), .unset, .unset] [(.int (p2 &&& (3 : Int32))), (.int ((p0 &&& (1023 : Int32)) - (1 : Int32)))])) _
        refine XS.iadd X16.here hx rfl (hb hby at_47) rfl ?_
        show Steps p.tables e below (T16.setTop (mkF m 48 #[.val (.int p0), .val (.int p1), .val (.int p2), .val (.int (p0 &&& (1023 : Int32))), .val (.ref b1), .val (.int (0 : Int32)), .unset, .unset] [(.int (((p0 &&& (1023 : Int32)) - (1 : Int32)) + (p2 &&& (3 : Int32))))])) _
        refine XS.istore X16.here hx rfl (hb hby at_48) rfl (l' := #[.val (.int p0), .val (.int p1), .val (.int p2), .val (.int (p0 &&& (1023 : Int32))), .val (.ref b1), .val (.int (0 : Int32)), .val (.int (e0_1 p0 p2)), .unset]) rfl ?_
        show Steps p.tables e below (T16.setTop (mkF m 50 #[.val (.int p0), .val (.int p1), .val (.int p2), .val (.int (p0 &&& (1023 : Int32))), .val (.ref b1), .val (.int (0 : Int32)), .val (.int (e0_1 p0 p2)), .unset] [])) _
        refine XS.aload X16.here hx rfl (hb hby at_50) rfl rfl ?_
        show Steps p.tables e below (T16.setTop (mkF m 52 #[.val (.int p0), .val (.int p1), .val (.int p2), .val (.int (p0 &&& (1023 : Int32))), .val (.ref b1), .val (.int (0 : Int32)), .val (.int (e0_1 p0 p2)), .unset] [(.ref b1)])) _
        refine XS.iloadN X16.here hx rfl (hb hby at_52) rfl ?_
        show Steps p.tables e below (T16.setTop (mkF m 53 #[.val (.int p0), .val (.int p1), .val (.int p2), .val (.int (p0 &&& (1023 : Int32))), .val (.ref b1), .val (.int (0 : Int32)), .val (.int (e0_1 p0 p2)), .unset] [(.int p1), (.ref b1)])) _
        refine st21.trans ?_
        show Steps p.tables e below (T21.setTop (mkF m 56 #[.val (.int p0), .val (.int p1), .val (.int p2), .val (.int (p0 &&& (1023 : Int32))), .val (.ref b1), .val (.int (0 : Int32)), .val (.int (e0_1 p0 p2)), .unset] [(.int (f3 p1 (p0 &&& (1023 : Int32))))])) _
        refine XS.iloadN X21.here hx rfl (hb hby at_56) rfl ?_
        show Steps p.tables e below (T21.setTop (mkF m 57 #[.val (.int p0), .val (.int p1), .val (.int p2), .val (.int (p0 &&& (1023 : Int32))), .val (.ref b1), .val (.int (0 : Int32)), .val (.int (e0_1 p0 p2)), .unset] [(.int p1), (.int (f3 p1 (p0 &&& (1023 : Int32))))])) _
        refine XS.i2l X21.here hx rfl (hb hby at_57) rfl ?_
        show Steps p.tables e below (T21.setTop (mkF m 58 #[.val (.int p0), .val (.int p1), .val (.int p2), .val (.int (p0 &&& (1023 : Int32))), .val (.ref b1), .val (.int (0 : Int32)), .val (.int (e0_1 p0 p2)), .unset] [(.long (p1.toInt64)), (.int (f3 p1 (p0 &&& (1023 : Int32))))])) _
        refine XS.iloadN X21.here hx rfl (hb hby at_58) rfl ?_
        show Steps p.tables e below (T21.setTop (mkF m 59 #[.val (.int p0), .val (.int p1), .val (.int p2), .val (.int (p0 &&& (1023 : Int32))), .val (.ref b1), .val (.int (0 : Int32)), .val (.int (e0_1 p0 p2)), .unset] [(.int (p0 &&& (1023 : Int32))), (.long (p1.toInt64)), (.int (f3 p1 (p0 &&& (1023 : Int32))))])) _
        refine XS.i2l X21.here hx rfl (hb hby at_59) rfl ?_
        show Steps p.tables e below (T21.setTop (mkF m 60 #[.val (.int p0), .val (.int p1), .val (.int p2), .val (.int (p0 &&& (1023 : Int32))), .val (.ref b1), .val (.int (0 : Int32)), .val (.int (e0_1 p0 p2)), .unset] [(.long ((p0 &&& (1023 : Int32)).toInt64)), (.long (p1.toInt64)), (.int (f3 p1 (p0 &&& (1023 : Int32))))])) _
        refine st22 _ ?_
        exact kt)
    have hd63_24 : (f3 p1 (p0 &&& (1023 : Int32))) = (f4 (p1.toInt64) ((p0 &&& (1023 : Int32)).toInt64)) := own_same _ _
    have pre25 : ∀ t, Steps p.tables e below (T22.setTop (mkF m 75 #[.val (.int p0), .val (.int p1), .val (.int p2), .val (.int (p0 &&& (1023 : Int32))), .val (.ref b1), .val (.int (0 : Int32)), .val (.int (e0_1 p0 p2)), .val (.int (1 : Int32))] [(.int (1 : Int32))])) t → Steps p.tables e below (s₁.setTop (entryFrame m #[(.int p0), (.int p1), (.int p2)] maxLocals)) t := fun t kt => pre23 t (by
        show Steps p.tables e below (T22.setTop (mkF m 63 #[.val (.int p0), .val (.int p1), .val (.int p2), .val (.int (p0 &&& (1023 : Int32))), .val (.ref b1), .val (.int (0 : Int32)), .val (.int (e0_1 p0 p2)), .unset] [(.int (f4 (p1.toInt64) ((p0 &&& (1023 : Int32)).toInt64))), (.int (f3 p1 (p0 &&& (1023 : Int32))))])) _
        refine XS.icmpNo X22.here hx rfl (hb hby at_63) rfl (teq hd63_24).2 ?_
        show Steps p.tables e below (T22.setTop (mkF m 66 #[.val (.int p0), .val (.int p1), .val (.int p2), .val (.int (p0 &&& (1023 : Int32))), .val (.ref b1), .val (.int (0 : Int32)), .val (.int (e0_1 p0 p2)), .unset] [])) _
        refine XS.iconst X22.here hx rfl (hb hby at_66) ?_
        show Steps p.tables e below (T22.setTop (mkF m 67 #[.val (.int p0), .val (.int p1), .val (.int p2), .val (.int (p0 &&& (1023 : Int32))), .val (.ref b1), .val (.int (0 : Int32)), .val (.int (e0_1 p0 p2)), .unset] [(.int (1 : Int32))])) _
        refine XS.goto X22.here hx rfl (pc0 := 67) (pc' := 71) rfl (hb hby at_67) (by decide) (by decide) ?_
        show Steps p.tables e below (T22.setTop (mkF m 71 #[.val (.int p0), .val (.int p1), .val (.int p2), .val (.int (p0 &&& (1023 : Int32))), .val (.ref b1), .val (.int (0 : Int32)), .val (.int (e0_1 p0 p2)), .unset] [(.int (1 : Int32))])) _
        refine XS.istore X22.here hx rfl (hb hby at_71) rfl (l' := #[.val (.int p0), .val (.int p1), .val (.int p2), .val (.int (p0 &&& (1023 : Int32))), .val (.ref b1), .val (.int (0 : Int32)), .val (.int (e0_1 p0 p2)), .val (.int (1 : Int32))]) rfl ?_
        show Steps p.tables e below (T22.setTop (mkF m 73 #[.val (.int p0), .val (.int p1), .val (.int p2), .val (.int (p0 &&& (1023 : Int32))), .val (.ref b1), .val (.int (0 : Int32)), .val (.int (e0_1 p0 p2)), .val (.int (1 : Int32))] [])) _
        refine XS.iload X22.here hx rfl (hb hby at_73) rfl ?_
        exact kt)
    obtain ⟨cq26, kq26, q26a, q26b, q26c⟩ := isOf hZ e22q (((((E_b1.ext E4).ext E7).ext E10).ext E13).keep K16q)
    obtain ⟨_, _, ⟨T26, L26, k26, n26⟩, -, X26, ⟨Lc26, hQ26, l26, y26, z26⟩, st26⟩ := X22.virtualBack hx (y := (⟨"com/example/cabweave/cabweave/Network", "contains", "(I)Z"⟩ : MethodName)) (z := (⟨"com/example/cabweave/cabweave/Network", "contains", "(I)Z"⟩ : MethodName)) hown (mvT hZ (hw _ (List.mem_of_getElem? (i := 35) rfl))) (mvT hZ (hw _ (List.mem_of_getElem? (i := 36) rfl))) (notFace_of_selects (args := #[]) (mvT hZ (hw _ (List.mem_of_getElem? (i := 38) rfl)))) (mvT hZ (hw _ (List.mem_of_getElem? (i := 38) rfl))) (mvT hZ (hw _ (List.mem_of_getElem? (i := 37) rfl))) (by decide) (backOf (W := 0) (rm3 l Z a0 hw [] b1 (e0_1 p0 p2) (p0 &&& (1023 : Int32)) T16.heap n0 Z18 G16_0) hZ (hw _ (List.mem_of_getElem? (i := 39) rfl)) (hw _ (List.mem_of_getElem? (i := 2) rfl)) (by decide) (by decide)) q26a q26c (g := (mkF m 82 #[.val (.int p0), .val (.int p1), .val (.int p2), .val (.int (p0 &&& (1023 : Int32))), .val (.ref b1), .val (.int (0 : Int32)), .val (.int (e0_1 p0 p2)), .val (.int (1 : Int32))] [(.int (e0_1 p0 p2)), (.ref b1)])) rfl (by rw [hml]; rfl) (Steps.refl _) (argsL := [(.int (e0_1 p0 p2))]) (rest := []) (lenOf pd_0_1 rfl) rfl (by show 2 * 0 + _ ≤ _; exact Nat.le_of_eq rfl) (hb hby at_82) (fun _ _ => ⟨rfl, e22q, (by decide : 11 + 0 ≤ _), (by decide : 2057 + 0 ≤ _)⟩)
    dsimp only [Pt.U, Pt.locs, Pt.cells, Pt.slots] at X26 l26 y26 z26 st26 hQ26
    subst l26 y26 z26
    obtain ⟨rfl, N26q, e26q⟩ := hQ26
    have N26 := Fr.app N22 N26q
    obtain ⟨_, _, ⟨T27, L27, k27, n27⟩, -, X27, ⟨Lc27, hQ27, l27, y27, z27⟩, st27⟩ := Jvm.LawKit.callS X26 hx (y := (⟨"com/example/cabweave/cabweave/NetworkContainsPinLaw", "inRange", "(JJ)Z"⟩ : MethodName)) hown (mvT hZ (hw _ (List.mem_of_getElem? (i := 40) rfl))) (mvT hZ (hw _ (List.mem_of_getElem? (i := 41) rfl))) (mvT hZ (hw _ (List.mem_of_getElem? (i := 42) rfl))) (mvT hZ (hw _ (List.mem_of_getElem? (i := 43) rfl))) (by decide) (backOf (W := 1) (rm4 l Z a0 hw [] ((e0_1 p0 p2).toInt64) ((p0 &&& (1023 : Int32)).toInt64) T16.heap n0 Z18 ) hZ (hw _ (List.mem_of_getElem? (i := 43) rfl)) (hw _ (List.mem_of_getElem? (i := 42) rfl)) (by decide) (by decide)) (g := (mkF m 90 #[.val (.int p0), .val (.int p1), .val (.int p2), .val (.int (p0 &&& (1023 : Int32))), .val (.ref b1), .val (.int (0 : Int32)), .val (.int (e0_1 p0 p2)), .val (.int (1 : Int32))] [(.long ((p0 &&& (1023 : Int32)).toInt64)), (.long ((e0_1 p0 p2).toInt64)), (.int (f3 (e0_1 p0 p2) (p0 &&& (1023 : Int32))))])) rfl (by rw [hml]; rfl) (argsL := [(.long ((e0_1 p0 p2).toInt64)), (.long ((p0 &&& (1023 : Int32)).toInt64))]) (rest := [(.int (f3 (e0_1 p0 p2) (p0 &&& (1023 : Int32))))]) (lenOf pd_0_2 rfl) rfl (by show 2 * 0 + _ ≤ _; exact Nat.le_of_eq rfl) (hb hby at_90) (fun _ _ => ⟨rfl, e26q, (by decide : 11 + 0 ≤ _), (by decide : 2057 + 0 ≤ _)⟩)
    dsimp only [Pt.U, Pt.locs, Pt.cells, Pt.slots] at X27 l27 y27 z27 st27 hQ27
    subst l27 y27 z27
    obtain ⟨rfl, N27q, e27q⟩ := hQ27
    have N27 := Fr.app N26 N27q
    have pre28 : ∀ t, Steps p.tables e below (T27.setTop (mkF m 93 #[.val (.int p0), .val (.int p1), .val (.int p2), .val (.int (p0 &&& (1023 : Int32))), .val (.ref b1), .val (.int (0 : Int32)), .val (.int (e0_1 p0 p2)), .val (.int (1 : Int32))] [(.int (f4 ((e0_1 p0 p2).toInt64) ((p0 &&& (1023 : Int32)).toInt64))), (.int (f3 (e0_1 p0 p2) (p0 &&& (1023 : Int32))))])) t → Steps p.tables e below (s₁.setTop (entryFrame m #[(.int p0), (.int p1), (.int p2)] maxLocals)) t := fun t kt => pre25 t (by
        show Steps p.tables e below (T22.setTop (mkF m 75 #[.val (.int p0), .val (.int p1), .val (.int p2), .val (.int (p0 &&& (1023 : Int32))), .val (.ref b1), .val (.int (0 : Int32)), .val (.int (e0_1 p0 p2)), .val (.int (1 : Int32))] [(.int (1 : Int32))])) _
        refine XS.ifNo X22.here hx rfl (hb hby at_75) rfl ((if0 _ _).trans (feq (by decide : ¬ ((1 : Int32) = (0 : Int32)))).1) ?_
        show Steps p.tables e below (T22.setTop (mkF m 78 #[.val (.int p0), .val (.int p1), .val (.int p2), .val (.int (p0 &&& (1023 : Int32))), .val (.ref b1), .val (.int (0 : Int32)), .val (.int (e0_1 p0 p2)), .val (.int (1 : Int32))] [])) _
        refine XS.aload X22.here hx rfl (hb hby at_78) rfl rfl ?_
        show Steps p.tables e below (T22.setTop (mkF m 80 #[.val (.int p0), .val (.int p1), .val (.int p2), .val (.int (p0 &&& (1023 : Int32))), .val (.ref b1), .val (.int (0 : Int32)), .val (.int (e0_1 p0 p2)), .val (.int (1 : Int32))] [(.ref b1)])) _
        refine XS.iload X22.here hx rfl (hb hby at_80) rfl ?_
        show Steps p.tables e below (T22.setTop (mkF m 82 #[.val (.int p0), .val (.int p1), .val (.int p2), .val (.int (p0 &&& (1023 : Int32))), .val (.ref b1), .val (.int (0 : Int32)), .val (.int (e0_1 p0 p2)), .val (.int (1 : Int32))] [(.int (e0_1 p0 p2)), (.ref b1)])) _
        refine st26.trans ?_
        show Steps p.tables e below (T26.setTop (mkF m 85 #[.val (.int p0), .val (.int p1), .val (.int p2), .val (.int (p0 &&& (1023 : Int32))), .val (.ref b1), .val (.int (0 : Int32)), .val (.int (e0_1 p0 p2)), .val (.int (1 : Int32))] [(.int (f3 (e0_1 p0 p2) (p0 &&& (1023 : Int32))))])) _
        refine XS.iload X26.here hx rfl (hb hby at_85) rfl ?_
        show Steps p.tables e below (T26.setTop (mkF m 87 #[.val (.int p0), .val (.int p1), .val (.int p2), .val (.int (p0 &&& (1023 : Int32))), .val (.ref b1), .val (.int (0 : Int32)), .val (.int (e0_1 p0 p2)), .val (.int (1 : Int32))] [(.int (e0_1 p0 p2)), (.int (f3 (e0_1 p0 p2) (p0 &&& (1023 : Int32))))])) _
        refine XS.i2l X26.here hx rfl (hb hby at_87) rfl ?_
        show Steps p.tables e below (T26.setTop (mkF m 88 #[.val (.int p0), .val (.int p1), .val (.int p2), .val (.int (p0 &&& (1023 : Int32))), .val (.ref b1), .val (.int (0 : Int32)), .val (.int (e0_1 p0 p2)), .val (.int (1 : Int32))] [(.long ((e0_1 p0 p2).toInt64)), (.int (f3 (e0_1 p0 p2) (p0 &&& (1023 : Int32))))])) _
        refine XS.iloadN X26.here hx rfl (hb hby at_88) rfl ?_
        show Steps p.tables e below (T26.setTop (mkF m 89 #[.val (.int p0), .val (.int p1), .val (.int p2), .val (.int (p0 &&& (1023 : Int32))), .val (.ref b1), .val (.int (0 : Int32)), .val (.int (e0_1 p0 p2)), .val (.int (1 : Int32))] [(.int (p0 &&& (1023 : Int32))), (.long ((e0_1 p0 p2).toInt64)), (.int (f3 (e0_1 p0 p2) (p0 &&& (1023 : Int32))))])) _
        refine XS.i2l X26.here hx rfl (hb hby at_89) rfl ?_
        show Steps p.tables e below (T26.setTop (mkF m 90 #[.val (.int p0), .val (.int p1), .val (.int p2), .val (.int (p0 &&& (1023 : Int32))), .val (.ref b1), .val (.int (0 : Int32)), .val (.int (e0_1 p0 p2)), .val (.int (1 : Int32))] [(.long ((p0 &&& (1023 : Int32)).toInt64)), (.long ((e0_1 p0 p2).toInt64)), (.int (f3 (e0_1 p0 p2) (p0 &&& (1023 : Int32))))])) _
        refine st27 _ ?_
        exact kt)
    have hd93_29 : (f3 (e0_1 p0 p2) (p0 &&& (1023 : Int32))) = (f4 ((e0_1 p0 p2).toInt64) ((p0 &&& (1023 : Int32)).toInt64)) := own_same _ _
    have pre30 : ∀ t, Steps p.tables e below (T27.setTop (mkF m 105 #[.val (.int p0), .val (.int p1), .val (.int p2), .val (.int (p0 &&& (1023 : Int32))), .val (.ref b1), .val (.int (0 : Int32)), .val (.int (e0_1 p0 p2)), .val (.int (1 : Int32))] [(.int (1 : Int32))])) t → Steps p.tables e below (s₁.setTop (entryFrame m #[(.int p0), (.int p1), (.int p2)] maxLocals)) t := fun t kt => pre28 t (by
        show Steps p.tables e below (T27.setTop (mkF m 93 #[.val (.int p0), .val (.int p1), .val (.int p2), .val (.int (p0 &&& (1023 : Int32))), .val (.ref b1), .val (.int (0 : Int32)), .val (.int (e0_1 p0 p2)), .val (.int (1 : Int32))] [(.int (f4 ((e0_1 p0 p2).toInt64) ((p0 &&& (1023 : Int32)).toInt64))), (.int (f3 (e0_1 p0 p2) (p0 &&& (1023 : Int32))))])) _
        refine XS.icmpNo X27.here hx rfl (hb hby at_93) rfl (teq hd93_29).2 ?_
        show Steps p.tables e below (T27.setTop (mkF m 96 #[.val (.int p0), .val (.int p1), .val (.int p2), .val (.int (p0 &&& (1023 : Int32))), .val (.ref b1), .val (.int (0 : Int32)), .val (.int (e0_1 p0 p2)), .val (.int (1 : Int32))] [])) _
        refine XS.iconst X27.here hx rfl (hb hby at_96) ?_
        show Steps p.tables e below (T27.setTop (mkF m 97 #[.val (.int p0), .val (.int p1), .val (.int p2), .val (.int (p0 &&& (1023 : Int32))), .val (.ref b1), .val (.int (0 : Int32)), .val (.int (e0_1 p0 p2)), .val (.int (1 : Int32))] [(.int (1 : Int32))])) _
        refine XS.goto X27.here hx rfl (pc0 := 97) (pc' := 101) rfl (hb hby at_97) (by decide) (by decide) ?_
        show Steps p.tables e below (T27.setTop (mkF m 101 #[.val (.int p0), .val (.int p1), .val (.int p2), .val (.int (p0 &&& (1023 : Int32))), .val (.ref b1), .val (.int (0 : Int32)), .val (.int (e0_1 p0 p2)), .val (.int (1 : Int32))] [(.int (1 : Int32))])) _
        refine XS.istore X27.here hx rfl (hb hby at_101) rfl (l' := #[.val (.int p0), .val (.int p1), .val (.int p2), .val (.int (p0 &&& (1023 : Int32))), .val (.ref b1), .val (.int (0 : Int32)), .val (.int (e0_1 p0 p2)), .val (.int (1 : Int32))]) rfl ?_
        show Steps p.tables e below (T27.setTop (mkF m 103 #[.val (.int p0), .val (.int p1), .val (.int p2), .val (.int (p0 &&& (1023 : Int32))), .val (.ref b1), .val (.int (0 : Int32)), .val (.int (e0_1 p0 p2)), .val (.int (1 : Int32))] [])) _
        refine XS.iload X27.here hx rfl (hb hby at_103) rfl ?_
        exact kt)
    obtain ⟨cq31, kq31, q31a, q31b, q31c⟩ := isOf hZ e27q (((((E_b1.ext E4).ext E7).ext E10).ext E13).keep K16q)
    obtain ⟨_, _, ⟨T31, L31, k31, n31⟩, -, X31, ⟨Lc31, hQ31, l31, y31, z31⟩, st31⟩ := X27.virtualBack hx (y := (⟨"com/example/cabweave/cabweave/Network", "contains", "(I)Z"⟩ : MethodName)) (z := (⟨"com/example/cabweave/cabweave/Network", "contains", "(I)Z"⟩ : MethodName)) hown (mvT hZ (hw _ (List.mem_of_getElem? (i := 35) rfl))) (mvT hZ (hw _ (List.mem_of_getElem? (i := 36) rfl))) (notFace_of_selects (args := #[]) (mvT hZ (hw _ (List.mem_of_getElem? (i := 38) rfl)))) (mvT hZ (hw _ (List.mem_of_getElem? (i := 38) rfl))) (mvT hZ (hw _ (List.mem_of_getElem? (i := 37) rfl))) (by decide) (backOf (W := 0) (rm3 l Z a0 hw [] b1 (0 : Int32) (p0 &&& (1023 : Int32)) T16.heap n0 Z18 G16_0) hZ (hw _ (List.mem_of_getElem? (i := 39) rfl)) (hw _ (List.mem_of_getElem? (i := 2) rfl)) (by decide) (by decide)) q31a q31c (g := (mkF m 111 #[.val (.int p0), .val (.int p1), .val (.int p2), .val (.int (p0 &&& (1023 : Int32))), .val (.ref b1), .val (.int (0 : Int32)), .val (.int (e0_1 p0 p2)), .val (.int (1 : Int32))] [(.int (0 : Int32)), (.ref b1)])) rfl (by rw [hml]; rfl) (Steps.refl _) (argsL := [(.int (0 : Int32))]) (rest := []) (lenOf pd_0_1 rfl) rfl (by show 2 * 0 + _ ≤ _; exact Nat.le_of_eq rfl) (hb hby at_111) (fun _ _ => ⟨rfl, e27q, (by decide : 11 + 0 ≤ _), (by decide : 2057 + 0 ≤ _)⟩)
    dsimp only [Pt.U, Pt.locs, Pt.cells, Pt.slots] at X31 l31 y31 z31 st31 hQ31
    subst l31 y31 z31
    obtain ⟨rfl, N31q, e31q⟩ := hQ31
    have N31 := Fr.app N27 N31q
    have pre32 : ∀ t, Steps p.tables e below (T31.setTop (mkF m 114 #[.val (.int p0), .val (.int p1), .val (.int p2), .val (.int (p0 &&& (1023 : Int32))), .val (.ref b1), .val (.int (0 : Int32)), .val (.int (e0_1 p0 p2)), .val (.int (1 : Int32))] [(.int (f3 (0 : Int32) (p0 &&& (1023 : Int32))))])) t → Steps p.tables e below (s₁.setTop (entryFrame m #[(.int p0), (.int p1), (.int p2)] maxLocals)) t := fun t kt => pre30 t (by
        show Steps p.tables e below (T27.setTop (mkF m 105 #[.val (.int p0), .val (.int p1), .val (.int p2), .val (.int (p0 &&& (1023 : Int32))), .val (.ref b1), .val (.int (0 : Int32)), .val (.int (e0_1 p0 p2)), .val (.int (1 : Int32))] [(.int (1 : Int32))])) _
        refine XS.ifNo X27.here hx rfl (hb hby at_105) rfl ((if0 _ _).trans (feq (by decide : ¬ ((1 : Int32) = (0 : Int32)))).1) ?_
        show Steps p.tables e below (T27.setTop (mkF m 108 #[.val (.int p0), .val (.int p1), .val (.int p2), .val (.int (p0 &&& (1023 : Int32))), .val (.ref b1), .val (.int (0 : Int32)), .val (.int (e0_1 p0 p2)), .val (.int (1 : Int32))] [])) _
        refine XS.aload X27.here hx rfl (hb hby at_108) rfl rfl ?_
        show Steps p.tables e below (T27.setTop (mkF m 110 #[.val (.int p0), .val (.int p1), .val (.int p2), .val (.int (p0 &&& (1023 : Int32))), .val (.ref b1), .val (.int (0 : Int32)), .val (.int (e0_1 p0 p2)), .val (.int (1 : Int32))] [(.ref b1)])) _
        refine XS.iconst X27.here hx rfl (hb hby at_110) ?_
        show Steps p.tables e below (T27.setTop (mkF m 111 #[.val (.int p0), .val (.int p1), .val (.int p2), .val (.int (p0 &&& (1023 : Int32))), .val (.ref b1), .val (.int (0 : Int32)), .val (.int (e0_1 p0 p2)), .val (.int (1 : Int32))] [(.int (0 : Int32)), (.ref b1)])) _
        refine st31.trans ?_
        exact kt)
    have hd114_33 : (f3 (0 : Int32) (p0 &&& (1023 : Int32))) = (0 : Int32) := own_z0 _
    have pre34 : ∀ t, Steps p.tables e below (T31.setTop (mkF m 126 #[.val (.int p0), .val (.int p1), .val (.int p2), .val (.int (p0 &&& (1023 : Int32))), .val (.ref b1), .val (.int (0 : Int32)), .val (.int (e0_1 p0 p2)), .val (.int (1 : Int32))] [(.int (1 : Int32))])) t → Steps p.tables e below (s₁.setTop (entryFrame m #[(.int p0), (.int p1), (.int p2)] maxLocals)) t := fun t kt => pre32 t (by
        show Steps p.tables e below (T31.setTop (mkF m 114 #[.val (.int p0), .val (.int p1), .val (.int p2), .val (.int (p0 &&& (1023 : Int32))), .val (.ref b1), .val (.int (0 : Int32)), .val (.int (e0_1 p0 p2)), .val (.int (1 : Int32))] [(.int (f3 (0 : Int32) (p0 &&& (1023 : Int32))))])) _
        refine XS.ifNo X31.here hx rfl (hb hby at_114) rfl ((if0 _ _).trans (teq hd114_33).2) ?_
        show Steps p.tables e below (T31.setTop (mkF m 117 #[.val (.int p0), .val (.int p1), .val (.int p2), .val (.int (p0 &&& (1023 : Int32))), .val (.ref b1), .val (.int (0 : Int32)), .val (.int (e0_1 p0 p2)), .val (.int (1 : Int32))] [])) _
        refine XS.iconst X31.here hx rfl (hb hby at_117) ?_
        show Steps p.tables e below (T31.setTop (mkF m 118 #[.val (.int p0), .val (.int p1), .val (.int p2), .val (.int (p0 &&& (1023 : Int32))), .val (.ref b1), .val (.int (0 : Int32)), .val (.int (e0_1 p0 p2)), .val (.int (1 : Int32))] [(.int (1 : Int32))])) _
        refine XS.goto X31.here hx rfl (pc0 := 118) (pc' := 122) rfl (hb hby at_118) (by decide) (by decide) ?_
        show Steps p.tables e below (T31.setTop (mkF m 122 #[.val (.int p0), .val (.int p1), .val (.int p2), .val (.int (p0 &&& (1023 : Int32))), .val (.ref b1), .val (.int (0 : Int32)), .val (.int (e0_1 p0 p2)), .val (.int (1 : Int32))] [(.int (1 : Int32))])) _
        refine XS.istore X31.here hx rfl (hb hby at_122) rfl (l' := #[.val (.int p0), .val (.int p1), .val (.int p2), .val (.int (p0 &&& (1023 : Int32))), .val (.ref b1), .val (.int (0 : Int32)), .val (.int (e0_1 p0 p2)), .val (.int (1 : Int32))]) rfl ?_
        show Steps p.tables e below (T31.setTop (mkF m 124 #[.val (.int p0), .val (.int p1), .val (.int p2), .val (.int (p0 &&& (1023 : Int32))), .val (.ref b1), .val (.int (0 : Int32)), .val (.int (e0_1 p0 p2)), .val (.int (1 : Int32))] [])) _
        refine XS.iload X31.here hx rfl (hb hby at_124) rfl ?_
        exact kt)
    obtain ⟨cq35, kq35, q35a, q35b, q35c⟩ := isOf hZ e31q (((((E_b1.ext E4).ext E7).ext E10).ext E13).keep K16q)
    obtain ⟨_, _, ⟨T35, L35, k35, n35⟩, -, X35, ⟨Lc35, hQ35, l35, y35, z35⟩, st35⟩ := X31.virtualBack hx (y := (⟨"com/example/cabweave/cabweave/Network", "contains", "(I)Z"⟩ : MethodName)) (z := (⟨"com/example/cabweave/cabweave/Network", "contains", "(I)Z"⟩ : MethodName)) hown (mvT hZ (hw _ (List.mem_of_getElem? (i := 35) rfl))) (mvT hZ (hw _ (List.mem_of_getElem? (i := 36) rfl))) (notFace_of_selects (args := #[]) (mvT hZ (hw _ (List.mem_of_getElem? (i := 38) rfl)))) (mvT hZ (hw _ (List.mem_of_getElem? (i := 38) rfl))) (mvT hZ (hw _ (List.mem_of_getElem? (i := 37) rfl))) (by decide) (backOf (W := 0) (rm3 l Z a0 hw [] b1 (-1 : Int32) (p0 &&& (1023 : Int32)) T16.heap n0 Z18 G16_0) hZ (hw _ (List.mem_of_getElem? (i := 39) rfl)) (hw _ (List.mem_of_getElem? (i := 2) rfl)) (by decide) (by decide)) q35a q35c (g := (mkF m 132 #[.val (.int p0), .val (.int p1), .val (.int p2), .val (.int (p0 &&& (1023 : Int32))), .val (.ref b1), .val (.int (0 : Int32)), .val (.int (e0_1 p0 p2)), .val (.int (1 : Int32))] [(.int (-1 : Int32)), (.ref b1)])) rfl (by rw [hml]; rfl) (Steps.refl _) (argsL := [(.int (-1 : Int32))]) (rest := []) (lenOf pd_0_1 rfl) rfl (by show 2 * 0 + _ ≤ _; exact Nat.le_of_eq rfl) (hb hby at_132) (fun _ _ => ⟨rfl, e31q, (by decide : 11 + 0 ≤ _), (by decide : 2057 + 0 ≤ _)⟩)
    dsimp only [Pt.U, Pt.locs, Pt.cells, Pt.slots] at X35 l35 y35 z35 st35 hQ35
    subst l35 y35 z35
    obtain ⟨rfl, N35q, e35q⟩ := hQ35
    have N35 := Fr.app N31 N35q
    have pre36 : ∀ t, Steps p.tables e below (T35.setTop (mkF m 135 #[.val (.int p0), .val (.int p1), .val (.int p2), .val (.int (p0 &&& (1023 : Int32))), .val (.ref b1), .val (.int (0 : Int32)), .val (.int (e0_1 p0 p2)), .val (.int (1 : Int32))] [(.int (f3 (-1 : Int32) (p0 &&& (1023 : Int32))))])) t → Steps p.tables e below (s₁.setTop (entryFrame m #[(.int p0), (.int p1), (.int p2)] maxLocals)) t := fun t kt => pre34 t (by
        show Steps p.tables e below (T31.setTop (mkF m 126 #[.val (.int p0), .val (.int p1), .val (.int p2), .val (.int (p0 &&& (1023 : Int32))), .val (.ref b1), .val (.int (0 : Int32)), .val (.int (e0_1 p0 p2)), .val (.int (1 : Int32))] [(.int (1 : Int32))])) _
        refine XS.ifNo X31.here hx rfl (hb hby at_126) rfl ((if0 _ _).trans (feq (by decide : ¬ ((1 : Int32) = (0 : Int32)))).1) ?_
        show Steps p.tables e below (T31.setTop (mkF m 129 #[.val (.int p0), .val (.int p1), .val (.int p2), .val (.int (p0 &&& (1023 : Int32))), .val (.ref b1), .val (.int (0 : Int32)), .val (.int (e0_1 p0 p2)), .val (.int (1 : Int32))] [])) _
        refine XS.aload X31.here hx rfl (hb hby at_129) rfl rfl ?_
        show Steps p.tables e below (T31.setTop (mkF m 131 #[.val (.int p0), .val (.int p1), .val (.int p2), .val (.int (p0 &&& (1023 : Int32))), .val (.ref b1), .val (.int (0 : Int32)), .val (.int (e0_1 p0 p2)), .val (.int (1 : Int32))] [(.ref b1)])) _
        refine XS.iconst X31.here hx rfl (hb hby at_131) ?_
        show Steps p.tables e below (T31.setTop (mkF m 132 #[.val (.int p0), .val (.int p1), .val (.int p2), .val (.int (p0 &&& (1023 : Int32))), .val (.ref b1), .val (.int (0 : Int32)), .val (.int (e0_1 p0 p2)), .val (.int (1 : Int32))] [(.int (-1 : Int32)), (.ref b1)])) _
        refine st35.trans ?_
        exact kt)
    have hd135_37 : (f3 (-1 : Int32) (p0 &&& (1023 : Int32))) = (0 : Int32) := own_z1 _
    have pre38 : ∀ t, Steps p.tables e below (T35.setTop (mkF m 147 #[.val (.int p0), .val (.int p1), .val (.int p2), .val (.int (p0 &&& (1023 : Int32))), .val (.ref b1), .val (.int (0 : Int32)), .val (.int (e0_1 p0 p2)), .val (.int (1 : Int32))] [(.int (1 : Int32))])) t → Steps p.tables e below (s₁.setTop (entryFrame m #[(.int p0), (.int p1), (.int p2)] maxLocals)) t := fun t kt => pre36 t (by
        show Steps p.tables e below (T35.setTop (mkF m 135 #[.val (.int p0), .val (.int p1), .val (.int p2), .val (.int (p0 &&& (1023 : Int32))), .val (.ref b1), .val (.int (0 : Int32)), .val (.int (e0_1 p0 p2)), .val (.int (1 : Int32))] [(.int (f3 (-1 : Int32) (p0 &&& (1023 : Int32))))])) _
        refine XS.ifNo X35.here hx rfl (hb hby at_135) rfl ((if0 _ _).trans (teq hd135_37).2) ?_
        show Steps p.tables e below (T35.setTop (mkF m 138 #[.val (.int p0), .val (.int p1), .val (.int p2), .val (.int (p0 &&& (1023 : Int32))), .val (.ref b1), .val (.int (0 : Int32)), .val (.int (e0_1 p0 p2)), .val (.int (1 : Int32))] [])) _
        refine XS.iconst X35.here hx rfl (hb hby at_138) ?_
        show Steps p.tables e below (T35.setTop (mkF m 139 #[.val (.int p0), .val (.int p1), .val (.int p2), .val (.int (p0 &&& (1023 : Int32))), .val (.ref b1), .val (.int (0 : Int32)), .val (.int (e0_1 p0 p2)), .val (.int (1 : Int32))] [(.int (1 : Int32))])) _
        refine XS.goto X35.here hx rfl (pc0 := 139) (pc' := 143) rfl (hb hby at_139) (by decide) (by decide) ?_
        show Steps p.tables e below (T35.setTop (mkF m 143 #[.val (.int p0), .val (.int p1), .val (.int p2), .val (.int (p0 &&& (1023 : Int32))), .val (.ref b1), .val (.int (0 : Int32)), .val (.int (e0_1 p0 p2)), .val (.int (1 : Int32))] [(.int (1 : Int32))])) _
        refine XS.istore X35.here hx rfl (hb hby at_143) rfl (l' := #[.val (.int p0), .val (.int p1), .val (.int p2), .val (.int (p0 &&& (1023 : Int32))), .val (.ref b1), .val (.int (0 : Int32)), .val (.int (e0_1 p0 p2)), .val (.int (1 : Int32))]) rfl ?_
        show Steps p.tables e below (T35.setTop (mkF m 145 #[.val (.int p0), .val (.int p1), .val (.int p2), .val (.int (p0 &&& (1023 : Int32))), .val (.ref b1), .val (.int (0 : Int32)), .val (.int (e0_1 p0 p2)), .val (.int (1 : Int32))] [])) _
        refine XS.iload X35.here hx rfl (hb hby at_145) rfl ?_
        exact kt)
    obtain ⟨cq39, kq39, q39a, q39b, q39c⟩ := isOf hZ e35q (((((E_b1.ext E4).ext E7).ext E10).ext E13).keep K16q)
    obtain ⟨_, _, ⟨T39, L39, k39, n39⟩, -, X39, ⟨Lc39, hQ39, l39, y39, z39⟩, st39⟩ := X35.virtualBack hx (y := (⟨"com/example/cabweave/cabweave/Network", "contains", "(I)Z"⟩ : MethodName)) (z := (⟨"com/example/cabweave/cabweave/Network", "contains", "(I)Z"⟩ : MethodName)) hown (mvT hZ (hw _ (List.mem_of_getElem? (i := 35) rfl))) (mvT hZ (hw _ (List.mem_of_getElem? (i := 36) rfl))) (notFace_of_selects (args := #[]) (mvT hZ (hw _ (List.mem_of_getElem? (i := 38) rfl)))) (mvT hZ (hw _ (List.mem_of_getElem? (i := 38) rfl))) (mvT hZ (hw _ (List.mem_of_getElem? (i := 37) rfl))) (by decide) (backOf (W := 0) (rm3 l Z a0 hw [] b1 (-2147483648 : Int32) (p0 &&& (1023 : Int32)) T16.heap n0 Z18 G16_0) hZ (hw _ (List.mem_of_getElem? (i := 39) rfl)) (hw _ (List.mem_of_getElem? (i := 2) rfl)) (by decide) (by decide)) q39a q39c (g := (mkF m 154 #[.val (.int p0), .val (.int p1), .val (.int p2), .val (.int (p0 &&& (1023 : Int32))), .val (.ref b1), .val (.int (0 : Int32)), .val (.int (e0_1 p0 p2)), .val (.int (1 : Int32))] [(.int (-2147483648 : Int32)), (.ref b1)])) rfl (by rw [hml]; rfl) (Steps.refl _) (argsL := [(.int (-2147483648 : Int32))]) (rest := []) (lenOf pd_0_1 rfl) rfl (by show 2 * 0 + _ ≤ _; exact Nat.le_of_eq rfl) (hb hby at_154) (fun _ _ => ⟨rfl, e35q, (by decide : 11 + 0 ≤ _), (by decide : 2057 + 0 ≤ _)⟩)
    dsimp only [Pt.U, Pt.locs, Pt.cells, Pt.slots] at X39 l39 y39 z39 st39 hQ39
    subst l39 y39 z39
    obtain ⟨rfl, N39q, e39q⟩ := hQ39
    have N39 := Fr.app N35 N39q
    have pre40 : ∀ t, Steps p.tables e below (T39.setTop (mkF m 157 #[.val (.int p0), .val (.int p1), .val (.int p2), .val (.int (p0 &&& (1023 : Int32))), .val (.ref b1), .val (.int (0 : Int32)), .val (.int (e0_1 p0 p2)), .val (.int (1 : Int32))] [(.int (f3 (-2147483648 : Int32) (p0 &&& (1023 : Int32))))])) t → Steps p.tables e below (s₁.setTop (entryFrame m #[(.int p0), (.int p1), (.int p2)] maxLocals)) t := fun t kt => pre38 t (by
        show Steps p.tables e below (T35.setTop (mkF m 147 #[.val (.int p0), .val (.int p1), .val (.int p2), .val (.int (p0 &&& (1023 : Int32))), .val (.ref b1), .val (.int (0 : Int32)), .val (.int (e0_1 p0 p2)), .val (.int (1 : Int32))] [(.int (1 : Int32))])) _
        refine XS.ifNo X35.here hx rfl (hb hby at_147) rfl ((if0 _ _).trans (feq (by decide : ¬ ((1 : Int32) = (0 : Int32)))).1) ?_
        show Steps p.tables e below (T35.setTop (mkF m 150 #[.val (.int p0), .val (.int p1), .val (.int p2), .val (.int (p0 &&& (1023 : Int32))), .val (.ref b1), .val (.int (0 : Int32)), .val (.int (e0_1 p0 p2)), .val (.int (1 : Int32))] [])) _
        refine XS.aload X35.here hx rfl (hb hby at_150) rfl rfl ?_
        show Steps p.tables e below (T35.setTop (mkF m 152 #[.val (.int p0), .val (.int p1), .val (.int p2), .val (.int (p0 &&& (1023 : Int32))), .val (.ref b1), .val (.int (0 : Int32)), .val (.int (e0_1 p0 p2)), .val (.int (1 : Int32))] [(.ref b1)])) _
        refine X35.ldcInt hx hown (mvT hZ (hw _ (List.mem_of_getElem? (i := 44) rfl))) (g := (mkF m 152 #[.val (.int p0), .val (.int p1), .val (.int p2), .val (.int (p0 &&& (1023 : Int32))), .val (.ref b1), .val (.int (0 : Int32)), .val (.int (e0_1 p0 p2)), .val (.int (1 : Int32))] [(.ref b1)])) rfl (hb hby at_152) _ ?_
        show Steps p.tables e below (T35.setTop (mkF m 154 #[.val (.int p0), .val (.int p1), .val (.int p2), .val (.int (p0 &&& (1023 : Int32))), .val (.ref b1), .val (.int (0 : Int32)), .val (.int (e0_1 p0 p2)), .val (.int (1 : Int32))] [(.int (-2147483648 : Int32)), (.ref b1)])) _
        refine st39.trans ?_
        exact kt)
    have hd157_41 : (f3 (-2147483648 : Int32) (p0 &&& (1023 : Int32))) = (0 : Int32) := own_z2 _
    have pre42 : ∀ t, Steps p.tables e below (T39.setTop (mkF m 169 #[.val (.int p0), .val (.int p1), .val (.int p2), .val (.int (p0 &&& (1023 : Int32))), .val (.ref b1), .val (.int (0 : Int32)), .val (.int (e0_1 p0 p2)), .val (.int (1 : Int32))] [(.int (1 : Int32))])) t → Steps p.tables e below (s₁.setTop (entryFrame m #[(.int p0), (.int p1), (.int p2)] maxLocals)) t := fun t kt => pre40 t (by
        show Steps p.tables e below (T39.setTop (mkF m 157 #[.val (.int p0), .val (.int p1), .val (.int p2), .val (.int (p0 &&& (1023 : Int32))), .val (.ref b1), .val (.int (0 : Int32)), .val (.int (e0_1 p0 p2)), .val (.int (1 : Int32))] [(.int (f3 (-2147483648 : Int32) (p0 &&& (1023 : Int32))))])) _
        refine XS.ifNo X39.here hx rfl (hb hby at_157) rfl ((if0 _ _).trans (teq hd157_41).2) ?_
        show Steps p.tables e below (T39.setTop (mkF m 160 #[.val (.int p0), .val (.int p1), .val (.int p2), .val (.int (p0 &&& (1023 : Int32))), .val (.ref b1), .val (.int (0 : Int32)), .val (.int (e0_1 p0 p2)), .val (.int (1 : Int32))] [])) _
        refine XS.iconst X39.here hx rfl (hb hby at_160) ?_
        show Steps p.tables e below (T39.setTop (mkF m 161 #[.val (.int p0), .val (.int p1), .val (.int p2), .val (.int (p0 &&& (1023 : Int32))), .val (.ref b1), .val (.int (0 : Int32)), .val (.int (e0_1 p0 p2)), .val (.int (1 : Int32))] [(.int (1 : Int32))])) _
        refine XS.goto X39.here hx rfl (pc0 := 161) (pc' := 165) rfl (hb hby at_161) (by decide) (by decide) ?_
        show Steps p.tables e below (T39.setTop (mkF m 165 #[.val (.int p0), .val (.int p1), .val (.int p2), .val (.int (p0 &&& (1023 : Int32))), .val (.ref b1), .val (.int (0 : Int32)), .val (.int (e0_1 p0 p2)), .val (.int (1 : Int32))] [(.int (1 : Int32))])) _
        refine XS.istore X39.here hx rfl (hb hby at_165) rfl (l' := #[.val (.int p0), .val (.int p1), .val (.int p2), .val (.int (p0 &&& (1023 : Int32))), .val (.ref b1), .val (.int (0 : Int32)), .val (.int (e0_1 p0 p2)), .val (.int (1 : Int32))]) rfl ?_
        show Steps p.tables e below (T39.setTop (mkF m 167 #[.val (.int p0), .val (.int p1), .val (.int p2), .val (.int (p0 &&& (1023 : Int32))), .val (.ref b1), .val (.int (0 : Int32)), .val (.int (e0_1 p0 p2)), .val (.int (1 : Int32))] [])) _
        refine XS.iload X39.here hx rfl (hb hby at_167) rfl ?_
        exact kt)
    obtain ⟨cq43, kq43, q43a, q43b, q43c⟩ := isOf hZ e39q (((((E_b1.ext E4).ext E7).ext E10).ext E13).keep K16q)
    obtain ⟨_, _, ⟨T43, L43, k43, n43⟩, -, X43, ⟨Lc43, hQ43, l43, y43, z43⟩, st43⟩ := X39.virtualBack hx (y := (⟨"com/example/cabweave/cabweave/Network", "contains", "(I)Z"⟩ : MethodName)) (z := (⟨"com/example/cabweave/cabweave/Network", "contains", "(I)Z"⟩ : MethodName)) hown (mvT hZ (hw _ (List.mem_of_getElem? (i := 35) rfl))) (mvT hZ (hw _ (List.mem_of_getElem? (i := 36) rfl))) (notFace_of_selects (args := #[]) (mvT hZ (hw _ (List.mem_of_getElem? (i := 38) rfl)))) (mvT hZ (hw _ (List.mem_of_getElem? (i := 38) rfl))) (mvT hZ (hw _ (List.mem_of_getElem? (i := 37) rfl))) (by decide) (backOf (W := 0) (rm3 l Z a0 hw [] b1 (2147483647 : Int32) (p0 &&& (1023 : Int32)) T16.heap n0 Z18 G16_0) hZ (hw _ (List.mem_of_getElem? (i := 39) rfl)) (hw _ (List.mem_of_getElem? (i := 2) rfl)) (by decide) (by decide)) q43a q43c (g := (mkF m 176 #[.val (.int p0), .val (.int p1), .val (.int p2), .val (.int (p0 &&& (1023 : Int32))), .val (.ref b1), .val (.int (0 : Int32)), .val (.int (e0_1 p0 p2)), .val (.int (1 : Int32))] [(.int (2147483647 : Int32)), (.ref b1)])) rfl (by rw [hml]; rfl) (Steps.refl _) (argsL := [(.int (2147483647 : Int32))]) (rest := []) (lenOf pd_0_1 rfl) rfl (by show 2 * 0 + _ ≤ _; exact Nat.le_of_eq rfl) (hb hby at_176) (fun _ _ => ⟨rfl, e39q, (by decide : 11 + 0 ≤ _), (by decide : 2057 + 0 ≤ _)⟩)
    dsimp only [Pt.U, Pt.locs, Pt.cells, Pt.slots] at X43 l43 y43 z43 st43 hQ43
    subst l43 y43 z43
    obtain ⟨rfl, N43q, e43q⟩ := hQ43
    have N43 := Fr.app N39 N43q
    have pre44 : ∀ t, Steps p.tables e below (T43.setTop (mkF m 179 #[.val (.int p0), .val (.int p1), .val (.int p2), .val (.int (p0 &&& (1023 : Int32))), .val (.ref b1), .val (.int (0 : Int32)), .val (.int (e0_1 p0 p2)), .val (.int (1 : Int32))] [(.int (f3 (2147483647 : Int32) (p0 &&& (1023 : Int32))))])) t → Steps p.tables e below (s₁.setTop (entryFrame m #[(.int p0), (.int p1), (.int p2)] maxLocals)) t := fun t kt => pre42 t (by
        show Steps p.tables e below (T39.setTop (mkF m 169 #[.val (.int p0), .val (.int p1), .val (.int p2), .val (.int (p0 &&& (1023 : Int32))), .val (.ref b1), .val (.int (0 : Int32)), .val (.int (e0_1 p0 p2)), .val (.int (1 : Int32))] [(.int (1 : Int32))])) _
        refine XS.ifNo X39.here hx rfl (hb hby at_169) rfl ((if0 _ _).trans (feq (by decide : ¬ ((1 : Int32) = (0 : Int32)))).1) ?_
        show Steps p.tables e below (T39.setTop (mkF m 172 #[.val (.int p0), .val (.int p1), .val (.int p2), .val (.int (p0 &&& (1023 : Int32))), .val (.ref b1), .val (.int (0 : Int32)), .val (.int (e0_1 p0 p2)), .val (.int (1 : Int32))] [])) _
        refine XS.aload X39.here hx rfl (hb hby at_172) rfl rfl ?_
        show Steps p.tables e below (T39.setTop (mkF m 174 #[.val (.int p0), .val (.int p1), .val (.int p2), .val (.int (p0 &&& (1023 : Int32))), .val (.ref b1), .val (.int (0 : Int32)), .val (.int (e0_1 p0 p2)), .val (.int (1 : Int32))] [(.ref b1)])) _
        refine X39.ldcInt hx hown (mvT hZ (hw _ (List.mem_of_getElem? (i := 45) rfl))) (g := (mkF m 174 #[.val (.int p0), .val (.int p1), .val (.int p2), .val (.int (p0 &&& (1023 : Int32))), .val (.ref b1), .val (.int (0 : Int32)), .val (.int (e0_1 p0 p2)), .val (.int (1 : Int32))] [(.ref b1)])) rfl (hb hby at_174) _ ?_
        show Steps p.tables e below (T39.setTop (mkF m 176 #[.val (.int p0), .val (.int p1), .val (.int p2), .val (.int (p0 &&& (1023 : Int32))), .val (.ref b1), .val (.int (0 : Int32)), .val (.int (e0_1 p0 p2)), .val (.int (1 : Int32))] [(.int (2147483647 : Int32)), (.ref b1)])) _
        refine st43.trans ?_
        exact kt)
    have hd179_45 : (f3 (2147483647 : Int32) (p0 &&& (1023 : Int32))) = (0 : Int32) := own_z3 (own_m1023 _)
    have pre46 : ∀ t, Steps p.tables e below (T43.setTop (mkF m 191 #[.val (.int p0), .val (.int p1), .val (.int p2), .val (.int (p0 &&& (1023 : Int32))), .val (.ref b1), .val (.int (0 : Int32)), .val (.int (e0_1 p0 p2)), .val (.int (1 : Int32))] [(.int (1 : Int32))])) t → Steps p.tables e below (s₁.setTop (entryFrame m #[(.int p0), (.int p1), (.int p2)] maxLocals)) t := fun t kt => pre44 t (by
        show Steps p.tables e below (T43.setTop (mkF m 179 #[.val (.int p0), .val (.int p1), .val (.int p2), .val (.int (p0 &&& (1023 : Int32))), .val (.ref b1), .val (.int (0 : Int32)), .val (.int (e0_1 p0 p2)), .val (.int (1 : Int32))] [(.int (f3 (2147483647 : Int32) (p0 &&& (1023 : Int32))))])) _
        refine XS.ifNo X43.here hx rfl (hb hby at_179) rfl ((if0 _ _).trans (teq hd179_45).2) ?_
        show Steps p.tables e below (T43.setTop (mkF m 182 #[.val (.int p0), .val (.int p1), .val (.int p2), .val (.int (p0 &&& (1023 : Int32))), .val (.ref b1), .val (.int (0 : Int32)), .val (.int (e0_1 p0 p2)), .val (.int (1 : Int32))] [])) _
        refine XS.iconst X43.here hx rfl (hb hby at_182) ?_
        show Steps p.tables e below (T43.setTop (mkF m 183 #[.val (.int p0), .val (.int p1), .val (.int p2), .val (.int (p0 &&& (1023 : Int32))), .val (.ref b1), .val (.int (0 : Int32)), .val (.int (e0_1 p0 p2)), .val (.int (1 : Int32))] [(.int (1 : Int32))])) _
        refine XS.goto X43.here hx rfl (pc0 := 183) (pc' := 187) rfl (hb hby at_183) (by decide) (by decide) ?_
        show Steps p.tables e below (T43.setTop (mkF m 187 #[.val (.int p0), .val (.int p1), .val (.int p2), .val (.int (p0 &&& (1023 : Int32))), .val (.ref b1), .val (.int (0 : Int32)), .val (.int (e0_1 p0 p2)), .val (.int (1 : Int32))] [(.int (1 : Int32))])) _
        refine XS.istore X43.here hx rfl (hb hby at_187) rfl (l' := #[.val (.int p0), .val (.int p1), .val (.int p2), .val (.int (p0 &&& (1023 : Int32))), .val (.ref b1), .val (.int (0 : Int32)), .val (.int (e0_1 p0 p2)), .val (.int (1 : Int32))]) rfl ?_
        show Steps p.tables e below (T43.setTop (mkF m 189 #[.val (.int p0), .val (.int p1), .val (.int p2), .val (.int (p0 &&& (1023 : Int32))), .val (.ref b1), .val (.int (0 : Int32)), .val (.int (e0_1 p0 p2)), .val (.int (1 : Int32))] [])) _
        refine XS.iload X43.here hx rfl (hb hby at_189) rfl ?_
        exact kt)
    obtain ⟨cq47, kq47, q47a, q47b, q47c⟩ := isOf hZ e43q (((((E_b1.ext E4).ext E7).ext E10).ext E13).keep K16q)
    obtain ⟨_, _, ⟨T47, L47, k47, n47⟩, -, X47, ⟨Lc47, hQ47, l47, y47, z47⟩, st47⟩ := X43.virtualBack hx (y := (⟨"com/example/cabweave/cabweave/Network", "contains", "(I)Z"⟩ : MethodName)) (z := (⟨"com/example/cabweave/cabweave/Network", "contains", "(I)Z"⟩ : MethodName)) hown (mvT hZ (hw _ (List.mem_of_getElem? (i := 35) rfl))) (mvT hZ (hw _ (List.mem_of_getElem? (i := 36) rfl))) (notFace_of_selects (args := #[]) (mvT hZ (hw _ (List.mem_of_getElem? (i := 38) rfl)))) (mvT hZ (hw _ (List.mem_of_getElem? (i := 38) rfl))) (mvT hZ (hw _ (List.mem_of_getElem? (i := 37) rfl))) (by decide) (backOf (W := 0) (rm3 l Z a0 hw [] b1 (1 : Int32) (p0 &&& (1023 : Int32)) T16.heap n0 Z18 G16_0) hZ (hw _ (List.mem_of_getElem? (i := 39) rfl)) (hw _ (List.mem_of_getElem? (i := 2) rfl)) (by decide) (by decide)) q47a q47c (g := (mkF m 197 #[.val (.int p0), .val (.int p1), .val (.int p2), .val (.int (p0 &&& (1023 : Int32))), .val (.ref b1), .val (.int (0 : Int32)), .val (.int (e0_1 p0 p2)), .val (.int (1 : Int32))] [(.int (1 : Int32)), (.ref b1)])) rfl (by rw [hml]; rfl) (Steps.refl _) (argsL := [(.int (1 : Int32))]) (rest := []) (lenOf pd_0_1 rfl) rfl (by show 2 * 0 + _ ≤ _; exact Nat.le_of_eq rfl) (hb hby at_197) (fun _ _ => ⟨rfl, e43q, (by decide : 11 + 0 ≤ _), (by decide : 2057 + 0 ≤ _)⟩)
    dsimp only [Pt.U, Pt.locs, Pt.cells, Pt.slots] at X47 l47 y47 z47 st47 hQ47
    subst l47 y47 z47
    obtain ⟨rfl, N47q, e47q⟩ := hQ47
    have N47 := Fr.app N43 N47q
    have pre48 : ∀ t, Steps p.tables e below (T47.setTop (mkF m 202 #[.val (.int p0), .val (.int p1), .val (.int p2), .val (.int (p0 &&& (1023 : Int32))), .val (.ref b1), .val (.int (0 : Int32)), .val (.int (e0_1 p0 p2)), .val (.int (1 : Int32))] [(.int (0 : Int32)), (.int (f3 (1 : Int32) (p0 &&& (1023 : Int32))))])) t → Steps p.tables e below (s₁.setTop (entryFrame m #[(.int p0), (.int p1), (.int p2)] maxLocals)) t := fun t kt => pre46 t (by
        show Steps p.tables e below (T43.setTop (mkF m 191 #[.val (.int p0), .val (.int p1), .val (.int p2), .val (.int (p0 &&& (1023 : Int32))), .val (.ref b1), .val (.int (0 : Int32)), .val (.int (e0_1 p0 p2)), .val (.int (1 : Int32))] [(.int (1 : Int32))])) _
        refine XS.ifNo X43.here hx rfl (hb hby at_191) rfl ((if0 _ _).trans (feq (by decide : ¬ ((1 : Int32) = (0 : Int32)))).1) ?_
        show Steps p.tables e below (T43.setTop (mkF m 194 #[.val (.int p0), .val (.int p1), .val (.int p2), .val (.int (p0 &&& (1023 : Int32))), .val (.ref b1), .val (.int (0 : Int32)), .val (.int (e0_1 p0 p2)), .val (.int (1 : Int32))] [])) _
        refine XS.aload X43.here hx rfl (hb hby at_194) rfl rfl ?_
        show Steps p.tables e below (T43.setTop (mkF m 196 #[.val (.int p0), .val (.int p1), .val (.int p2), .val (.int (p0 &&& (1023 : Int32))), .val (.ref b1), .val (.int (0 : Int32)), .val (.int (e0_1 p0 p2)), .val (.int (1 : Int32))] [(.ref b1)])) _
        refine XS.iconst X43.here hx rfl (hb hby at_196) ?_
        show Steps p.tables e below (T43.setTop (mkF m 197 #[.val (.int p0), .val (.int p1), .val (.int p2), .val (.int (p0 &&& (1023 : Int32))), .val (.ref b1), .val (.int (0 : Int32)), .val (.int (e0_1 p0 p2)), .val (.int (1 : Int32))] [(.int (1 : Int32)), (.ref b1)])) _
        refine st47.trans ?_
        show Steps p.tables e below (T47.setTop (mkF m 200 #[.val (.int p0), .val (.int p1), .val (.int p2), .val (.int (p0 &&& (1023 : Int32))), .val (.ref b1), .val (.int (0 : Int32)), .val (.int (e0_1 p0 p2)), .val (.int (1 : Int32))] [(.int (f3 (1 : Int32) (p0 &&& (1023 : Int32))))])) _
        refine XS.iload X47.here hx rfl (hb hby at_200) rfl ?_
        exact kt)
    have hd202_49 : (f3 (1 : Int32) (p0 &&& (1023 : Int32))) = (0 : Int32) := own_one0 hc31_20
    have pre50 : ∀ t, Steps p.tables e below (T47.setTop (mkF m 214 #[.val (.int p0), .val (.int p1), .val (.int p2), .val (.int (p0 &&& (1023 : Int32))), .val (.ref b1), .val (.int (0 : Int32)), .val (.int (e0_1 p0 p2)), .val (.int (1 : Int32))] [(.int (1 : Int32))])) t → Steps p.tables e below (s₁.setTop (entryFrame m #[(.int p0), (.int p1), (.int p2)] maxLocals)) t := fun t kt => pre48 t (by
        show Steps p.tables e below (T47.setTop (mkF m 202 #[.val (.int p0), .val (.int p1), .val (.int p2), .val (.int (p0 &&& (1023 : Int32))), .val (.ref b1), .val (.int (0 : Int32)), .val (.int (e0_1 p0 p2)), .val (.int (1 : Int32))] [(.int (0 : Int32)), (.int (f3 (1 : Int32) (p0 &&& (1023 : Int32))))])) _
        refine XS.icmpNo X47.here hx rfl (hb hby at_202) rfl (teq hd202_49).2 ?_
        show Steps p.tables e below (T47.setTop (mkF m 205 #[.val (.int p0), .val (.int p1), .val (.int p2), .val (.int (p0 &&& (1023 : Int32))), .val (.ref b1), .val (.int (0 : Int32)), .val (.int (e0_1 p0 p2)), .val (.int (1 : Int32))] [])) _
        refine XS.iconst X47.here hx rfl (hb hby at_205) ?_
        show Steps p.tables e below (T47.setTop (mkF m 206 #[.val (.int p0), .val (.int p1), .val (.int p2), .val (.int (p0 &&& (1023 : Int32))), .val (.ref b1), .val (.int (0 : Int32)), .val (.int (e0_1 p0 p2)), .val (.int (1 : Int32))] [(.int (1 : Int32))])) _
        refine XS.goto X47.here hx rfl (pc0 := 206) (pc' := 210) rfl (hb hby at_206) (by decide) (by decide) ?_
        show Steps p.tables e below (T47.setTop (mkF m 210 #[.val (.int p0), .val (.int p1), .val (.int p2), .val (.int (p0 &&& (1023 : Int32))), .val (.ref b1), .val (.int (0 : Int32)), .val (.int (e0_1 p0 p2)), .val (.int (1 : Int32))] [(.int (1 : Int32))])) _
        refine XS.istore X47.here hx rfl (hb hby at_210) rfl (l' := #[.val (.int p0), .val (.int p1), .val (.int p2), .val (.int (p0 &&& (1023 : Int32))), .val (.ref b1), .val (.int (0 : Int32)), .val (.int (e0_1 p0 p2)), .val (.int (1 : Int32))]) rfl ?_
        show Steps p.tables e below (T47.setTop (mkF m 212 #[.val (.int p0), .val (.int p1), .val (.int p2), .val (.int (p0 &&& (1023 : Int32))), .val (.ref b1), .val (.int (0 : Int32)), .val (.int (e0_1 p0 p2)), .val (.int (1 : Int32))] [])) _
        refine XS.iload X47.here hx rfl (hb hby at_212) rfl ?_
        exact kt)
    obtain ⟨cq51, kq51, q51a, q51b, q51c⟩ := isOf hZ e47q (((((E_b1.ext E4).ext E7).ext E10).ext E13).keep K16q)
    obtain ⟨_, _, ⟨T51, L51, k51, n51⟩, -, X51, ⟨Lc51, hQ51, l51, y51, z51⟩, st51⟩ := X47.virtualBack hx (y := (⟨"com/example/cabweave/cabweave/Network", "contains", "(I)Z"⟩ : MethodName)) (z := (⟨"com/example/cabweave/cabweave/Network", "contains", "(I)Z"⟩ : MethodName)) hown (mvT hZ (hw _ (List.mem_of_getElem? (i := 35) rfl))) (mvT hZ (hw _ (List.mem_of_getElem? (i := 36) rfl))) (notFace_of_selects (args := #[]) (mvT hZ (hw _ (List.mem_of_getElem? (i := 38) rfl)))) (mvT hZ (hw _ (List.mem_of_getElem? (i := 38) rfl))) (mvT hZ (hw _ (List.mem_of_getElem? (i := 37) rfl))) (by decide) (backOf (W := 0) (rm3 l Z a0 hw [] b1 (p0 &&& (1023 : Int32)) (p0 &&& (1023 : Int32)) T16.heap n0 Z18 G16_0) hZ (hw _ (List.mem_of_getElem? (i := 39) rfl)) (hw _ (List.mem_of_getElem? (i := 2) rfl)) (by decide) (by decide)) q51a q51c (g := (mkF m 220 #[.val (.int p0), .val (.int p1), .val (.int p2), .val (.int (p0 &&& (1023 : Int32))), .val (.ref b1), .val (.int (0 : Int32)), .val (.int (e0_1 p0 p2)), .val (.int (1 : Int32))] [(.int (p0 &&& (1023 : Int32))), (.ref b1)])) rfl (by rw [hml]; rfl) (Steps.refl _) (argsL := [(.int (p0 &&& (1023 : Int32)))]) (rest := []) (lenOf pd_0_1 rfl) rfl (by show 2 * 0 + _ ≤ _; exact Nat.le_of_eq rfl) (hb hby at_220) (fun _ _ => ⟨rfl, e47q, (by decide : 11 + 0 ≤ _), (by decide : 2057 + 0 ≤ _)⟩)
    dsimp only [Pt.U, Pt.locs, Pt.cells, Pt.slots] at X51 l51 y51 z51 st51 hQ51
    subst l51 y51 z51
    obtain ⟨rfl, N51q, e51q⟩ := hQ51
    have N51 := Fr.app N47 N51q
    have pre52 : ∀ t, Steps p.tables e below (T51.setTop (mkF m 225 #[.val (.int p0), .val (.int p1), .val (.int p2), .val (.int (p0 &&& (1023 : Int32))), .val (.ref b1), .val (.int (0 : Int32)), .val (.int (e0_1 p0 p2)), .val (.int (1 : Int32))] [(.int (0 : Int32)), (.int (f3 (p0 &&& (1023 : Int32)) (p0 &&& (1023 : Int32))))])) t → Steps p.tables e below (s₁.setTop (entryFrame m #[(.int p0), (.int p1), (.int p2)] maxLocals)) t := fun t kt => pre50 t (by
        show Steps p.tables e below (T47.setTop (mkF m 214 #[.val (.int p0), .val (.int p1), .val (.int p2), .val (.int (p0 &&& (1023 : Int32))), .val (.ref b1), .val (.int (0 : Int32)), .val (.int (e0_1 p0 p2)), .val (.int (1 : Int32))] [(.int (1 : Int32))])) _
        refine XS.ifNo X47.here hx rfl (hb hby at_214) rfl ((if0 _ _).trans (feq (by decide : ¬ ((1 : Int32) = (0 : Int32)))).1) ?_
        show Steps p.tables e below (T47.setTop (mkF m 217 #[.val (.int p0), .val (.int p1), .val (.int p2), .val (.int (p0 &&& (1023 : Int32))), .val (.ref b1), .val (.int (0 : Int32)), .val (.int (e0_1 p0 p2)), .val (.int (1 : Int32))] [])) _
        refine XS.aload X47.here hx rfl (hb hby at_217) rfl rfl ?_
        show Steps p.tables e below (T47.setTop (mkF m 219 #[.val (.int p0), .val (.int p1), .val (.int p2), .val (.int (p0 &&& (1023 : Int32))), .val (.ref b1), .val (.int (0 : Int32)), .val (.int (e0_1 p0 p2)), .val (.int (1 : Int32))] [(.ref b1)])) _
        refine XS.iloadN X47.here hx rfl (hb hby at_219) rfl ?_
        show Steps p.tables e below (T47.setTop (mkF m 220 #[.val (.int p0), .val (.int p1), .val (.int p2), .val (.int (p0 &&& (1023 : Int32))), .val (.ref b1), .val (.int (0 : Int32)), .val (.int (e0_1 p0 p2)), .val (.int (1 : Int32))] [(.int (p0 &&& (1023 : Int32))), (.ref b1)])) _
        refine st51.trans ?_
        show Steps p.tables e below (T51.setTop (mkF m 223 #[.val (.int p0), .val (.int p1), .val (.int p2), .val (.int (p0 &&& (1023 : Int32))), .val (.ref b1), .val (.int (0 : Int32)), .val (.int (e0_1 p0 p2)), .val (.int (1 : Int32))] [(.int (f3 (p0 &&& (1023 : Int32)) (p0 &&& (1023 : Int32))))])) _
        refine XS.iload X51.here hx rfl (hb hby at_223) rfl ?_
        exact kt)
    have hd225_53 : (f3 (p0 &&& (1023 : Int32)) (p0 &&& (1023 : Int32))) = (0 : Int32) := own_self0 hc31_20
    have pre54 : ∀ t, Steps p.tables e below (T51.setTop (mkF m 237 #[.val (.int p0), .val (.int p1), .val (.int p2), .val (.int (p0 &&& (1023 : Int32))), .val (.ref b1), .val (.int (0 : Int32)), .val (.int (e0_1 p0 p2)), .val (.int (1 : Int32))] [(.int (1 : Int32))])) t → Steps p.tables e below (s₁.setTop (entryFrame m #[(.int p0), (.int p1), (.int p2)] maxLocals)) t := fun t kt => pre52 t (by
        show Steps p.tables e below (T51.setTop (mkF m 225 #[.val (.int p0), .val (.int p1), .val (.int p2), .val (.int (p0 &&& (1023 : Int32))), .val (.ref b1), .val (.int (0 : Int32)), .val (.int (e0_1 p0 p2)), .val (.int (1 : Int32))] [(.int (0 : Int32)), (.int (f3 (p0 &&& (1023 : Int32)) (p0 &&& (1023 : Int32))))])) _
        refine XS.icmpNo X51.here hx rfl (hb hby at_225) rfl (teq hd225_53).2 ?_
        show Steps p.tables e below (T51.setTop (mkF m 228 #[.val (.int p0), .val (.int p1), .val (.int p2), .val (.int (p0 &&& (1023 : Int32))), .val (.ref b1), .val (.int (0 : Int32)), .val (.int (e0_1 p0 p2)), .val (.int (1 : Int32))] [])) _
        refine XS.iconst X51.here hx rfl (hb hby at_228) ?_
        show Steps p.tables e below (T51.setTop (mkF m 229 #[.val (.int p0), .val (.int p1), .val (.int p2), .val (.int (p0 &&& (1023 : Int32))), .val (.ref b1), .val (.int (0 : Int32)), .val (.int (e0_1 p0 p2)), .val (.int (1 : Int32))] [(.int (1 : Int32))])) _
        refine XS.goto X51.here hx rfl (pc0 := 229) (pc' := 233) rfl (hb hby at_229) (by decide) (by decide) ?_
        show Steps p.tables e below (T51.setTop (mkF m 233 #[.val (.int p0), .val (.int p1), .val (.int p2), .val (.int (p0 &&& (1023 : Int32))), .val (.ref b1), .val (.int (0 : Int32)), .val (.int (e0_1 p0 p2)), .val (.int (1 : Int32))] [(.int (1 : Int32))])) _
        refine XS.istore X51.here hx rfl (hb hby at_233) rfl (l' := #[.val (.int p0), .val (.int p1), .val (.int p2), .val (.int (p0 &&& (1023 : Int32))), .val (.ref b1), .val (.int (0 : Int32)), .val (.int (e0_1 p0 p2)), .val (.int (1 : Int32))]) rfl ?_
        show Steps p.tables e below (T51.setTop (mkF m 235 #[.val (.int p0), .val (.int p1), .val (.int p2), .val (.int (p0 &&& (1023 : Int32))), .val (.ref b1), .val (.int (0 : Int32)), .val (.int (e0_1 p0 p2)), .val (.int (1 : Int32))] [])) _
        refine XS.iload X51.here hx rfl (hb hby at_235) rfl ?_
        exact kt)
    obtain ⟨cq55, kq55, q55a, q55b, q55c⟩ := isOf hZ e51q (((((E_b1.ext E4).ext E7).ext E10).ext E13).keep K16q)
    obtain ⟨_, _, ⟨T55, L55, k55, n55⟩, -, X55, ⟨Lc55, hQ55, l55, y55, z55⟩, st55⟩ := X51.virtualBack hx (y := (⟨"com/example/cabweave/cabweave/Network", "contains", "(I)Z"⟩ : MethodName)) (z := (⟨"com/example/cabweave/cabweave/Network", "contains", "(I)Z"⟩ : MethodName)) hown (mvT hZ (hw _ (List.mem_of_getElem? (i := 35) rfl))) (mvT hZ (hw _ (List.mem_of_getElem? (i := 36) rfl))) (notFace_of_selects (args := #[]) (mvT hZ (hw _ (List.mem_of_getElem? (i := 38) rfl)))) (mvT hZ (hw _ (List.mem_of_getElem? (i := 38) rfl))) (mvT hZ (hw _ (List.mem_of_getElem? (i := 37) rfl))) (by decide) (backOf (W := 0) (rm3 l Z a0 hw [] b1 ((p0 &&& (1023 : Int32)) + (1 : Int32)) (p0 &&& (1023 : Int32)) T16.heap n0 Z18 G16_0) hZ (hw _ (List.mem_of_getElem? (i := 39) rfl)) (hw _ (List.mem_of_getElem? (i := 2) rfl)) (by decide) (by decide)) q55a q55c (g := (mkF m 245 #[.val (.int p0), .val (.int p1), .val (.int p2), .val (.int (p0 &&& (1023 : Int32))), .val (.ref b1), .val (.int (0 : Int32)), .val (.int (e0_1 p0 p2)), .val (.int (1 : Int32))] [(.int ((p0 &&& (1023 : Int32)) + (1 : Int32))), (.ref b1)])) rfl (by rw [hml]; rfl) (Steps.refl _) (argsL := [(.int ((p0 &&& (1023 : Int32)) + (1 : Int32)))]) (rest := []) (lenOf pd_0_1 rfl) rfl (by show 2 * 0 + _ ≤ _; exact Nat.le_of_eq rfl) (hb hby at_245) (fun _ _ => ⟨rfl, e51q, (by decide : 11 + 0 ≤ _), (by decide : 2057 + 0 ≤ _)⟩)
    dsimp only [Pt.U, Pt.locs, Pt.cells, Pt.slots] at X55 l55 y55 z55 st55 hQ55
    subst l55 y55 z55
    obtain ⟨rfl, N55q, e55q⟩ := hQ55
    have N55 := Fr.app N51 N55q
    have pre56 : ∀ t, Steps p.tables e below (T55.setTop (mkF m 248 #[.val (.int p0), .val (.int p1), .val (.int p2), .val (.int (p0 &&& (1023 : Int32))), .val (.ref b1), .val (.int (0 : Int32)), .val (.int (e0_1 p0 p2)), .val (.int (1 : Int32))] [(.int (f3 ((p0 &&& (1023 : Int32)) + (1 : Int32)) (p0 &&& (1023 : Int32))))])) t → Steps p.tables e below (s₁.setTop (entryFrame m #[(.int p0), (.int p1), (.int p2)] maxLocals)) t := fun t kt => pre54 t (by
        show Steps p.tables e below (T51.setTop (mkF m 237 #[.val (.int p0), .val (.int p1), .val (.int p2), .val (.int (p0 &&& (1023 : Int32))), .val (.ref b1), .val (.int (0 : Int32)), .val (.int (e0_1 p0 p2)), .val (.int (1 : Int32))] [(.int (1 : Int32))])) _
        refine XS.ifNo X51.here hx rfl (hb hby at_237) rfl ((if0 _ _).trans (feq (by decide : ¬ ((1 : Int32) = (0 : Int32)))).1) ?_
        show Steps p.tables e below (T51.setTop (mkF m 240 #[.val (.int p0), .val (.int p1), .val (.int p2), .val (.int (p0 &&& (1023 : Int32))), .val (.ref b1), .val (.int (0 : Int32)), .val (.int (e0_1 p0 p2)), .val (.int (1 : Int32))] [])) _
        refine XS.aload X51.here hx rfl (hb hby at_240) rfl rfl ?_
        show Steps p.tables e below (T51.setTop (mkF m 242 #[.val (.int p0), .val (.int p1), .val (.int p2), .val (.int (p0 &&& (1023 : Int32))), .val (.ref b1), .val (.int (0 : Int32)), .val (.int (e0_1 p0 p2)), .val (.int (1 : Int32))] [(.ref b1)])) _
        refine XS.iloadN X51.here hx rfl (hb hby at_242) rfl ?_
        show Steps p.tables e below (T51.setTop (mkF m 243 #[.val (.int p0), .val (.int p1), .val (.int p2), .val (.int (p0 &&& (1023 : Int32))), .val (.ref b1), .val (.int (0 : Int32)), .val (.int (e0_1 p0 p2)), .val (.int (1 : Int32))] [(.int (p0 &&& (1023 : Int32))), (.ref b1)])) _
        refine XS.iconst X51.here hx rfl (hb hby at_243) ?_
        show Steps p.tables e below (T51.setTop (mkF m 244 #[.val (.int p0), .val (.int p1), .val (.int p2), .val (.int (p0 &&& (1023 : Int32))), .val (.ref b1), .val (.int (0 : Int32)), .val (.int (e0_1 p0 p2)), .val (.int (1 : Int32))] [(.int (1 : Int32)), (.int (p0 &&& (1023 : Int32))), (.ref b1)])) _
        refine XS.iadd X51.here hx rfl (hb hby at_244) rfl ?_
        show Steps p.tables e below (T51.setTop (mkF m 245 #[.val (.int p0), .val (.int p1), .val (.int p2), .val (.int (p0 &&& (1023 : Int32))), .val (.ref b1), .val (.int (0 : Int32)), .val (.int (e0_1 p0 p2)), .val (.int (1 : Int32))] [(.int ((p0 &&& (1023 : Int32)) + (1 : Int32))), (.ref b1)])) _
        refine st55.trans ?_
        exact kt)
    have hd248_57 : (f3 ((p0 &&& (1023 : Int32)) + (1 : Int32)) (p0 &&& (1023 : Int32))) = (0 : Int32) := own_next (own_m1023 _)
    obtain ⟨fs, hr, hrun, hended, hW, hsame⟩ := X55.leave (v := some (.int (1 : Int32))) (fun h => by rw [Bd.returns] at h; cases h)
    have hv95 : (1 : Int32) = (1 : Int32) := rfl
    refine ⟨_, _, pre56 _ ?_, hrun, hended, _, _, rfl, ?_, ⟨_, rfl⟩, hW, hsame.mono (by decide) (by decide)⟩
    · show Steps p.tables e below (T55.setTop (mkF m 248 #[.val (.int p0), .val (.int p1), .val (.int p2), .val (.int (p0 &&& (1023 : Int32))), .val (.ref b1), .val (.int (0 : Int32)), .val (.int (e0_1 p0 p2)), .val (.int (1 : Int32))] [(.int (f3 ((p0 &&& (1023 : Int32)) + (1 : Int32)) (p0 &&& (1023 : Int32))))])) _
      refine XS.ifNo X55.here hx rfl (hb hby at_248) rfl ((if0 _ _).trans (teq hd248_57).2) ?_
      show Steps p.tables e below (T55.setTop (mkF m 251 #[.val (.int p0), .val (.int p1), .val (.int p2), .val (.int (p0 &&& (1023 : Int32))), .val (.ref b1), .val (.int (0 : Int32)), .val (.int (e0_1 p0 p2)), .val (.int (1 : Int32))] [])) _
      refine XS.iconst X55.here hx rfl (hb hby at_251) ?_
      show Steps p.tables e below (T55.setTop (mkF m 252 #[.val (.int p0), .val (.int p1), .val (.int p2), .val (.int (p0 &&& (1023 : Int32))), .val (.ref b1), .val (.int (0 : Int32)), .val (.int (e0_1 p0 p2)), .val (.int (1 : Int32))] [(.int (1 : Int32))])) _
      refine XS.goto X55.here hx rfl (pc0 := 252) (pc' := 256) rfl (hb hby at_252) (by decide) (by decide) ?_
      show Steps p.tables e below (T55.setTop (mkF m 256 #[.val (.int p0), .val (.int p1), .val (.int p2), .val (.int (p0 &&& (1023 : Int32))), .val (.ref b1), .val (.int (0 : Int32)), .val (.int (e0_1 p0 p2)), .val (.int (1 : Int32))] [(.int (1 : Int32))])) _
      refine XS.istore X55.here hx rfl (hb hby at_256) rfl (l' := #[.val (.int p0), .val (.int p1), .val (.int p2), .val (.int (p0 &&& (1023 : Int32))), .val (.ref b1), .val (.int (0 : Int32)), .val (.int (e0_1 p0 p2)), .val (.int (1 : Int32))]) rfl ?_
      show Steps p.tables e below (T55.setTop (mkF m 258 #[.val (.int p0), .val (.int p1), .val (.int p2), .val (.int (p0 &&& (1023 : Int32))), .val (.ref b1), .val (.int (0 : Int32)), .val (.int (e0_1 p0 p2)), .val (.int (1 : Int32))] [])) _
      refine XS.iload X55.here hx rfl (hb hby at_258) rfl ?_
      show Steps p.tables e below (T55.setTop (mkF m 260 #[.val (.int p0), .val (.int p1), .val (.int p2), .val (.int (p0 &&& (1023 : Int32))), .val (.ref b1), .val (.int (0 : Int32)), .val (.int (e0_1 p0 p2)), .val (.int (1 : Int32))] [(.int (1 : Int32))])) _
      exact retN X55 hx (t := .boolean) Bd.returns (by simp) (hb hby at_260) hr
    · show Q0 Z p0 p1 p2 h0 n0 _ T55.heap _
      rw [e55q]
      exact ⟨congrArg (fun q => some (Value.int q)) hv95, N55⟩
  · obtain ⟨cq58, kq58, q58a, q58b, q58c⟩ := isOf hZ rfl (((((E_b1.ext E4).ext E7).ext E10).ext E13).keep K16q)
    obtain ⟨_, _, ⟨T58, L58, k58, n58⟩, -, X58, ⟨Lc58, hQ58, l58, y58, z58⟩, st58⟩ := X16.virtualBack hx (y := (⟨"com/example/cabweave/cabweave/Network", "contains", "(I)Z"⟩ : MethodName)) (z := (⟨"com/example/cabweave/cabweave/Network", "contains", "(I)Z"⟩ : MethodName)) hown (mvT hZ (hw _ (List.mem_of_getElem? (i := 35) rfl))) (mvT hZ (hw _ (List.mem_of_getElem? (i := 36) rfl))) (notFace_of_selects (args := #[]) (mvT hZ (hw _ (List.mem_of_getElem? (i := 38) rfl)))) (mvT hZ (hw _ (List.mem_of_getElem? (i := 38) rfl))) (mvT hZ (hw _ (List.mem_of_getElem? (i := 37) rfl))) (by decide) (backOf (W := 0) (rm3 l Z a0 hw [] b1 p1 (p0 &&& (1023 : Int32)) T16.heap n0 Z18 G16_0) hZ (hw _ (List.mem_of_getElem? (i := 39) rfl)) (hw _ (List.mem_of_getElem? (i := 2) rfl)) (by decide) (by decide)) q58a q58c (g := (mkF m 53 #[.val (.int p0), .val (.int p1), .val (.int p2), .val (.int (p0 &&& (1023 : Int32))), .val (.ref b1), .val (.int (1 : Int32)), .val (.int (e0_1 p0 p2)), .unset] [(.int p1), (.ref b1)])) rfl (by rw [hml]; rfl) (Steps.refl _) (argsL := [(.int p1)]) (rest := []) (lenOf pd_0_1 rfl) rfl (by show 2 * 0 + _ ≤ _; exact Nat.le_of_eq rfl) (hb hby at_53) (fun _ _ => ⟨rfl, rfl, (by decide : 11 + 0 ≤ _), (by decide : 2057 + 0 ≤ _)⟩)
    dsimp only [Pt.U, Pt.locs, Pt.cells, Pt.slots] at X58 l58 y58 z58 st58 hQ58
    subst l58 y58 z58
    obtain ⟨rfl, N58q, e58q⟩ := hQ58
    have N58 := Fr.app N16 N58q
    obtain ⟨_, _, ⟨T59, L59, k59, n59⟩, -, X59, ⟨Lc59, hQ59, l59, y59, z59⟩, st59⟩ := Jvm.LawKit.callS X58 hx (y := (⟨"com/example/cabweave/cabweave/NetworkContainsPinLaw", "inRange", "(JJ)Z"⟩ : MethodName)) hown (mvT hZ (hw _ (List.mem_of_getElem? (i := 40) rfl))) (mvT hZ (hw _ (List.mem_of_getElem? (i := 41) rfl))) (mvT hZ (hw _ (List.mem_of_getElem? (i := 42) rfl))) (mvT hZ (hw _ (List.mem_of_getElem? (i := 43) rfl))) (by decide) (backOf (W := 1) (rm4 l Z a0 hw [] (p1.toInt64) ((p0 &&& (1023 : Int32)).toInt64) T16.heap n0 Z18 ) hZ (hw _ (List.mem_of_getElem? (i := 43) rfl)) (hw _ (List.mem_of_getElem? (i := 42) rfl)) (by decide) (by decide)) (g := (mkF m 60 #[.val (.int p0), .val (.int p1), .val (.int p2), .val (.int (p0 &&& (1023 : Int32))), .val (.ref b1), .val (.int (1 : Int32)), .val (.int (e0_1 p0 p2)), .unset] [(.long ((p0 &&& (1023 : Int32)).toInt64)), (.long (p1.toInt64)), (.int (f3 p1 (p0 &&& (1023 : Int32))))])) rfl (by rw [hml]; rfl) (argsL := [(.long (p1.toInt64)), (.long ((p0 &&& (1023 : Int32)).toInt64))]) (rest := [(.int (f3 p1 (p0 &&& (1023 : Int32))))]) (lenOf pd_0_2 rfl) rfl (by show 2 * 0 + _ ≤ _; exact Nat.le_of_eq rfl) (hb hby at_60) (fun _ _ => ⟨rfl, e58q, (by decide : 11 + 0 ≤ _), (by decide : 2057 + 0 ≤ _)⟩)
    dsimp only [Pt.U, Pt.locs, Pt.cells, Pt.slots] at X59 l59 y59 z59 st59 hQ59
    subst l59 y59 z59
    obtain ⟨rfl, N59q, e59q⟩ := hQ59
    have N59 := Fr.app N58 N59q
    have pre60 : ∀ t, Steps p.tables e below (T59.setTop (mkF m 63 #[.val (.int p0), .val (.int p1), .val (.int p2), .val (.int (p0 &&& (1023 : Int32))), .val (.ref b1), .val (.int (1 : Int32)), .val (.int (e0_1 p0 p2)), .unset] [(.int (f4 (p1.toInt64) ((p0 &&& (1023 : Int32)).toInt64))), (.int (f3 p1 (p0 &&& (1023 : Int32))))])) t → Steps p.tables e below (s₁.setTop (entryFrame m #[(.int p0), (.int p1), (.int p2)] maxLocals)) t := fun t kt => pre19 t (by
        show Steps p.tables e below (T16.setTop (mkF m 31 #[.val (.int p0), .val (.int p1), .val (.int p2), .val (.int (p0 &&& (1023 : Int32))), .val (.ref b1), .unset, .unset, .unset] [(.int (1 : Int32)), (.int (p0 &&& (1023 : Int32)))])) _
        refine XS.icmpNo X16.here hx rfl (hb hby at_31) rfl (flt hc31_20).1 ?_
        show Steps p.tables e below (T16.setTop (mkF m 34 #[.val (.int p0), .val (.int p1), .val (.int p2), .val (.int (p0 &&& (1023 : Int32))), .val (.ref b1), .unset, .unset, .unset] [])) _
        refine XS.iconst X16.here hx rfl (hb hby at_34) ?_
        show Steps p.tables e below (T16.setTop (mkF m 35 #[.val (.int p0), .val (.int p1), .val (.int p2), .val (.int (p0 &&& (1023 : Int32))), .val (.ref b1), .unset, .unset, .unset] [(.int (1 : Int32))])) _
        refine XS.goto X16.here hx rfl (pc0 := 35) (pc' := 39) rfl (hb hby at_35) (by decide) (by decide) ?_
        show Steps p.tables e below (T16.setTop (mkF m 39 #[.val (.int p0), .val (.int p1), .val (.int p2), .val (.int (p0 &&& (1023 : Int32))), .val (.ref b1), .unset, .unset, .unset] [(.int (1 : Int32))])) _
        refine XS.istore X16.here hx rfl (hb hby at_39) rfl (l' := #[.val (.int p0), .val (.int p1), .val (.int p2), .val (.int (p0 &&& (1023 : Int32))), .val (.ref b1), .val (.int (1 : Int32)), .unset, .unset]) rfl ?_
        show Steps p.tables e below (T16.setTop (mkF m 41 #[.val (.int p0), .val (.int p1), .val (.int p2), .val (.int (p0 &&& (1023 : Int32))), .val (.ref b1), .val (.int (1 : Int32)), .unset, .unset] [])) _
        refine XS.iloadN X16.here hx rfl (hb hby at_41) rfl ?_
        show Steps p.tables e below (T16.setTop (mkF m 42 #[.val (.int p0), .val (.int p1), .val (.int p2), .val (.int (p0 &&& (1023 : Int32))), .val (.ref b1), .val (.int (1 : Int32)), .unset, .unset] [(.int (p0 &&& (1023 : Int32)))])) _
        refine XS.iconst X16.here hx rfl (hb hby at_42) ?_
        show Steps p.tables e below (T16.setTop (mkF m 43 #[.val (.int p0), .val (.int p1), .val (.int p2), .val (.int (p0 &&& (1023 : Int32))), .val (.ref b1), .val (.int (1 : Int32)), .unset, .unset] [(.int (1 : Int32)), (.int (p0 &&& (1023 : Int32)))])) _
        refine XS.isub X16.here hx rfl (hb hby at_43) rfl ?_
        show Steps p.tables e below (T16.setTop (mkF m 44 #[.val (.int p0), .val (.int p1), .val (.int p2), .val (.int (p0 &&& (1023 : Int32))), .val (.ref b1), .val (.int (1 : Int32)), .unset, .unset] [(.int ((p0 &&& (1023 : Int32)) - (1 : Int32)))])) _
        refine XS.iloadN X16.here hx rfl (hb hby at_44) rfl ?_
        show Steps p.tables e below (T16.setTop (mkF m 45 #[.val (.int p0), .val (.int p1), .val (.int p2), .val (.int (p0 &&& (1023 : Int32))), .val (.ref b1), .val (.int (1 : Int32)), .unset, .unset] [(.int p2), (.int ((p0 &&& (1023 : Int32)) - (1 : Int32)))])) _
        refine XS.iconst X16.here hx rfl (hb hby at_45) ?_
        show Steps p.tables e below (T16.setTop (mkF m 46 #[.val (.int p0), .val (.int p1), .val (.int p2), .val (.int (p0 &&& (1023 : Int32))), .val (.ref b1), .val (.int (1 : Int32)), .unset, .unset] [(.int (3 : Int32)), (.int p2), (.int ((p0 &&& (1023 : Int32)) - (1 : Int32)))])) _
        refine XS.iand X16.here hx rfl (hb hby at_46) rfl ?_
        show Steps p.tables e below (T16.setTop (mkF m 47 #[.val (.int p0), .val (.int p1), .val (.int p2), .val (.int (p0 &&& (1023 : Int32))), .val (.ref b1), .val (.int (1 : Int32)), .unset, .unset] [(.int (p2 &&& (3 : Int32))), (.int ((p0 &&& (1023 : Int32)) - (1 : Int32)))])) _
        refine XS.iadd X16.here hx rfl (hb hby at_47) rfl ?_
        show Steps p.tables e below (T16.setTop (mkF m 48 #[.val (.int p0), .val (.int p1), .val (.int p2), .val (.int (p0 &&& (1023 : Int32))), .val (.ref b1), .val (.int (1 : Int32)), .unset, .unset] [(.int (((p0 &&& (1023 : Int32)) - (1 : Int32)) + (p2 &&& (3 : Int32))))])) _
        refine XS.istore X16.here hx rfl (hb hby at_48) rfl (l' := #[.val (.int p0), .val (.int p1), .val (.int p2), .val (.int (p0 &&& (1023 : Int32))), .val (.ref b1), .val (.int (1 : Int32)), .val (.int (e0_1 p0 p2)), .unset]) rfl ?_
        show Steps p.tables e below (T16.setTop (mkF m 50 #[.val (.int p0), .val (.int p1), .val (.int p2), .val (.int (p0 &&& (1023 : Int32))), .val (.ref b1), .val (.int (1 : Int32)), .val (.int (e0_1 p0 p2)), .unset] [])) _
        refine XS.aload X16.here hx rfl (hb hby at_50) rfl rfl ?_
        show Steps p.tables e below (T16.setTop (mkF m 52 #[.val (.int p0), .val (.int p1), .val (.int p2), .val (.int (p0 &&& (1023 : Int32))), .val (.ref b1), .val (.int (1 : Int32)), .val (.int (e0_1 p0 p2)), .unset] [(.ref b1)])) _
        refine XS.iloadN X16.here hx rfl (hb hby at_52) rfl ?_
        show Steps p.tables e below (T16.setTop (mkF m 53 #[.val (.int p0), .val (.int p1), .val (.int p2), .val (.int (p0 &&& (1023 : Int32))), .val (.ref b1), .val (.int (1 : Int32)), .val (.int (e0_1 p0 p2)), .unset] [(.int p1), (.ref b1)])) _
        refine st58.trans ?_
        show Steps p.tables e below (T58.setTop (mkF m 56 #[.val (.int p0), .val (.int p1), .val (.int p2), .val (.int (p0 &&& (1023 : Int32))), .val (.ref b1), .val (.int (1 : Int32)), .val (.int (e0_1 p0 p2)), .unset] [(.int (f3 p1 (p0 &&& (1023 : Int32))))])) _
        refine XS.iloadN X58.here hx rfl (hb hby at_56) rfl ?_
        show Steps p.tables e below (T58.setTop (mkF m 57 #[.val (.int p0), .val (.int p1), .val (.int p2), .val (.int (p0 &&& (1023 : Int32))), .val (.ref b1), .val (.int (1 : Int32)), .val (.int (e0_1 p0 p2)), .unset] [(.int p1), (.int (f3 p1 (p0 &&& (1023 : Int32))))])) _
        refine XS.i2l X58.here hx rfl (hb hby at_57) rfl ?_
        show Steps p.tables e below (T58.setTop (mkF m 58 #[.val (.int p0), .val (.int p1), .val (.int p2), .val (.int (p0 &&& (1023 : Int32))), .val (.ref b1), .val (.int (1 : Int32)), .val (.int (e0_1 p0 p2)), .unset] [(.long (p1.toInt64)), (.int (f3 p1 (p0 &&& (1023 : Int32))))])) _
        refine XS.iloadN X58.here hx rfl (hb hby at_58) rfl ?_
        show Steps p.tables e below (T58.setTop (mkF m 59 #[.val (.int p0), .val (.int p1), .val (.int p2), .val (.int (p0 &&& (1023 : Int32))), .val (.ref b1), .val (.int (1 : Int32)), .val (.int (e0_1 p0 p2)), .unset] [(.int (p0 &&& (1023 : Int32))), (.long (p1.toInt64)), (.int (f3 p1 (p0 &&& (1023 : Int32))))])) _
        refine XS.i2l X58.here hx rfl (hb hby at_59) rfl ?_
        show Steps p.tables e below (T58.setTop (mkF m 60 #[.val (.int p0), .val (.int p1), .val (.int p2), .val (.int (p0 &&& (1023 : Int32))), .val (.ref b1), .val (.int (1 : Int32)), .val (.int (e0_1 p0 p2)), .unset] [(.long ((p0 &&& (1023 : Int32)).toInt64)), (.long (p1.toInt64)), (.int (f3 p1 (p0 &&& (1023 : Int32))))])) _
        refine st59 _ ?_
        exact kt)
    have hd63_61 : (f3 p1 (p0 &&& (1023 : Int32))) = (f4 (p1.toInt64) ((p0 &&& (1023 : Int32)).toInt64)) := own_same _ _
    have pre62 : ∀ t, Steps p.tables e below (T59.setTop (mkF m 75 #[.val (.int p0), .val (.int p1), .val (.int p2), .val (.int (p0 &&& (1023 : Int32))), .val (.ref b1), .val (.int (1 : Int32)), .val (.int (e0_1 p0 p2)), .val (.int (1 : Int32))] [(.int (1 : Int32))])) t → Steps p.tables e below (s₁.setTop (entryFrame m #[(.int p0), (.int p1), (.int p2)] maxLocals)) t := fun t kt => pre60 t (by
        show Steps p.tables e below (T59.setTop (mkF m 63 #[.val (.int p0), .val (.int p1), .val (.int p2), .val (.int (p0 &&& (1023 : Int32))), .val (.ref b1), .val (.int (1 : Int32)), .val (.int (e0_1 p0 p2)), .unset] [(.int (f4 (p1.toInt64) ((p0 &&& (1023 : Int32)).toInt64))), (.int (f3 p1 (p0 &&& (1023 : Int32))))])) _
        refine XS.icmpNo X59.here hx rfl (hb hby at_63) rfl (teq hd63_61).2 ?_
        show Steps p.tables e below (T59.setTop (mkF m 66 #[.val (.int p0), .val (.int p1), .val (.int p2), .val (.int (p0 &&& (1023 : Int32))), .val (.ref b1), .val (.int (1 : Int32)), .val (.int (e0_1 p0 p2)), .unset] [])) _
        refine XS.iconst X59.here hx rfl (hb hby at_66) ?_
        show Steps p.tables e below (T59.setTop (mkF m 67 #[.val (.int p0), .val (.int p1), .val (.int p2), .val (.int (p0 &&& (1023 : Int32))), .val (.ref b1), .val (.int (1 : Int32)), .val (.int (e0_1 p0 p2)), .unset] [(.int (1 : Int32))])) _
        refine XS.goto X59.here hx rfl (pc0 := 67) (pc' := 71) rfl (hb hby at_67) (by decide) (by decide) ?_
        show Steps p.tables e below (T59.setTop (mkF m 71 #[.val (.int p0), .val (.int p1), .val (.int p2), .val (.int (p0 &&& (1023 : Int32))), .val (.ref b1), .val (.int (1 : Int32)), .val (.int (e0_1 p0 p2)), .unset] [(.int (1 : Int32))])) _
        refine XS.istore X59.here hx rfl (hb hby at_71) rfl (l' := #[.val (.int p0), .val (.int p1), .val (.int p2), .val (.int (p0 &&& (1023 : Int32))), .val (.ref b1), .val (.int (1 : Int32)), .val (.int (e0_1 p0 p2)), .val (.int (1 : Int32))]) rfl ?_
        show Steps p.tables e below (T59.setTop (mkF m 73 #[.val (.int p0), .val (.int p1), .val (.int p2), .val (.int (p0 &&& (1023 : Int32))), .val (.ref b1), .val (.int (1 : Int32)), .val (.int (e0_1 p0 p2)), .val (.int (1 : Int32))] [])) _
        refine XS.iload X59.here hx rfl (hb hby at_73) rfl ?_
        exact kt)
    obtain ⟨cq63, kq63, q63a, q63b, q63c⟩ := isOf hZ e59q (((((E_b1.ext E4).ext E7).ext E10).ext E13).keep K16q)
    obtain ⟨_, _, ⟨T63, L63, k63, n63⟩, -, X63, ⟨Lc63, hQ63, l63, y63, z63⟩, st63⟩ := X59.virtualBack hx (y := (⟨"com/example/cabweave/cabweave/Network", "contains", "(I)Z"⟩ : MethodName)) (z := (⟨"com/example/cabweave/cabweave/Network", "contains", "(I)Z"⟩ : MethodName)) hown (mvT hZ (hw _ (List.mem_of_getElem? (i := 35) rfl))) (mvT hZ (hw _ (List.mem_of_getElem? (i := 36) rfl))) (notFace_of_selects (args := #[]) (mvT hZ (hw _ (List.mem_of_getElem? (i := 38) rfl)))) (mvT hZ (hw _ (List.mem_of_getElem? (i := 38) rfl))) (mvT hZ (hw _ (List.mem_of_getElem? (i := 37) rfl))) (by decide) (backOf (W := 0) (rm3 l Z a0 hw [] b1 (e0_1 p0 p2) (p0 &&& (1023 : Int32)) T16.heap n0 Z18 G16_0) hZ (hw _ (List.mem_of_getElem? (i := 39) rfl)) (hw _ (List.mem_of_getElem? (i := 2) rfl)) (by decide) (by decide)) q63a q63c (g := (mkF m 82 #[.val (.int p0), .val (.int p1), .val (.int p2), .val (.int (p0 &&& (1023 : Int32))), .val (.ref b1), .val (.int (1 : Int32)), .val (.int (e0_1 p0 p2)), .val (.int (1 : Int32))] [(.int (e0_1 p0 p2)), (.ref b1)])) rfl (by rw [hml]; rfl) (Steps.refl _) (argsL := [(.int (e0_1 p0 p2))]) (rest := []) (lenOf pd_0_1 rfl) rfl (by show 2 * 0 + _ ≤ _; exact Nat.le_of_eq rfl) (hb hby at_82) (fun _ _ => ⟨rfl, e59q, (by decide : 11 + 0 ≤ _), (by decide : 2057 + 0 ≤ _)⟩)
    dsimp only [Pt.U, Pt.locs, Pt.cells, Pt.slots] at X63 l63 y63 z63 st63 hQ63
    subst l63 y63 z63
    obtain ⟨rfl, N63q, e63q⟩ := hQ63
    have N63 := Fr.app N59 N63q
    obtain ⟨_, _, ⟨T64, L64, k64, n64⟩, -, X64, ⟨Lc64, hQ64, l64, y64, z64⟩, st64⟩ := Jvm.LawKit.callS X63 hx (y := (⟨"com/example/cabweave/cabweave/NetworkContainsPinLaw", "inRange", "(JJ)Z"⟩ : MethodName)) hown (mvT hZ (hw _ (List.mem_of_getElem? (i := 40) rfl))) (mvT hZ (hw _ (List.mem_of_getElem? (i := 41) rfl))) (mvT hZ (hw _ (List.mem_of_getElem? (i := 42) rfl))) (mvT hZ (hw _ (List.mem_of_getElem? (i := 43) rfl))) (by decide) (backOf (W := 1) (rm4 l Z a0 hw [] ((e0_1 p0 p2).toInt64) ((p0 &&& (1023 : Int32)).toInt64) T16.heap n0 Z18 ) hZ (hw _ (List.mem_of_getElem? (i := 43) rfl)) (hw _ (List.mem_of_getElem? (i := 42) rfl)) (by decide) (by decide)) (g := (mkF m 90 #[.val (.int p0), .val (.int p1), .val (.int p2), .val (.int (p0 &&& (1023 : Int32))), .val (.ref b1), .val (.int (1 : Int32)), .val (.int (e0_1 p0 p2)), .val (.int (1 : Int32))] [(.long ((p0 &&& (1023 : Int32)).toInt64)), (.long ((e0_1 p0 p2).toInt64)), (.int (f3 (e0_1 p0 p2) (p0 &&& (1023 : Int32))))])) rfl (by rw [hml]; rfl) (argsL := [(.long ((e0_1 p0 p2).toInt64)), (.long ((p0 &&& (1023 : Int32)).toInt64))]) (rest := [(.int (f3 (e0_1 p0 p2) (p0 &&& (1023 : Int32))))]) (lenOf pd_0_2 rfl) rfl (by show 2 * 0 + _ ≤ _; exact Nat.le_of_eq rfl) (hb hby at_90) (fun _ _ => ⟨rfl, e63q, (by decide : 11 + 0 ≤ _), (by decide : 2057 + 0 ≤ _)⟩)
    dsimp only [Pt.U, Pt.locs, Pt.cells, Pt.slots] at X64 l64 y64 z64 st64 hQ64
    subst l64 y64 z64
    obtain ⟨rfl, N64q, e64q⟩ := hQ64
    have N64 := Fr.app N63 N64q
    have pre65 : ∀ t, Steps p.tables e below (T64.setTop (mkF m 93 #[.val (.int p0), .val (.int p1), .val (.int p2), .val (.int (p0 &&& (1023 : Int32))), .val (.ref b1), .val (.int (1 : Int32)), .val (.int (e0_1 p0 p2)), .val (.int (1 : Int32))] [(.int (f4 ((e0_1 p0 p2).toInt64) ((p0 &&& (1023 : Int32)).toInt64))), (.int (f3 (e0_1 p0 p2) (p0 &&& (1023 : Int32))))])) t → Steps p.tables e below (s₁.setTop (entryFrame m #[(.int p0), (.int p1), (.int p2)] maxLocals)) t := fun t kt => pre62 t (by
        show Steps p.tables e below (T59.setTop (mkF m 75 #[.val (.int p0), .val (.int p1), .val (.int p2), .val (.int (p0 &&& (1023 : Int32))), .val (.ref b1), .val (.int (1 : Int32)), .val (.int (e0_1 p0 p2)), .val (.int (1 : Int32))] [(.int (1 : Int32))])) _
        refine XS.ifNo X59.here hx rfl (hb hby at_75) rfl ((if0 _ _).trans (feq (by decide : ¬ ((1 : Int32) = (0 : Int32)))).1) ?_
        show Steps p.tables e below (T59.setTop (mkF m 78 #[.val (.int p0), .val (.int p1), .val (.int p2), .val (.int (p0 &&& (1023 : Int32))), .val (.ref b1), .val (.int (1 : Int32)), .val (.int (e0_1 p0 p2)), .val (.int (1 : Int32))] [])) _
        refine XS.aload X59.here hx rfl (hb hby at_78) rfl rfl ?_
        show Steps p.tables e below (T59.setTop (mkF m 80 #[.val (.int p0), .val (.int p1), .val (.int p2), .val (.int (p0 &&& (1023 : Int32))), .val (.ref b1), .val (.int (1 : Int32)), .val (.int (e0_1 p0 p2)), .val (.int (1 : Int32))] [(.ref b1)])) _
        refine XS.iload X59.here hx rfl (hb hby at_80) rfl ?_
        show Steps p.tables e below (T59.setTop (mkF m 82 #[.val (.int p0), .val (.int p1), .val (.int p2), .val (.int (p0 &&& (1023 : Int32))), .val (.ref b1), .val (.int (1 : Int32)), .val (.int (e0_1 p0 p2)), .val (.int (1 : Int32))] [(.int (e0_1 p0 p2)), (.ref b1)])) _
        refine st63.trans ?_
        show Steps p.tables e below (T63.setTop (mkF m 85 #[.val (.int p0), .val (.int p1), .val (.int p2), .val (.int (p0 &&& (1023 : Int32))), .val (.ref b1), .val (.int (1 : Int32)), .val (.int (e0_1 p0 p2)), .val (.int (1 : Int32))] [(.int (f3 (e0_1 p0 p2) (p0 &&& (1023 : Int32))))])) _
        refine XS.iload X63.here hx rfl (hb hby at_85) rfl ?_
        show Steps p.tables e below (T63.setTop (mkF m 87 #[.val (.int p0), .val (.int p1), .val (.int p2), .val (.int (p0 &&& (1023 : Int32))), .val (.ref b1), .val (.int (1 : Int32)), .val (.int (e0_1 p0 p2)), .val (.int (1 : Int32))] [(.int (e0_1 p0 p2)), (.int (f3 (e0_1 p0 p2) (p0 &&& (1023 : Int32))))])) _
        refine XS.i2l X63.here hx rfl (hb hby at_87) rfl ?_
        show Steps p.tables e below (T63.setTop (mkF m 88 #[.val (.int p0), .val (.int p1), .val (.int p2), .val (.int (p0 &&& (1023 : Int32))), .val (.ref b1), .val (.int (1 : Int32)), .val (.int (e0_1 p0 p2)), .val (.int (1 : Int32))] [(.long ((e0_1 p0 p2).toInt64)), (.int (f3 (e0_1 p0 p2) (p0 &&& (1023 : Int32))))])) _
        refine XS.iloadN X63.here hx rfl (hb hby at_88) rfl ?_
        show Steps p.tables e below (T63.setTop (mkF m 89 #[.val (.int p0), .val (.int p1), .val (.int p2), .val (.int (p0 &&& (1023 : Int32))), .val (.ref b1), .val (.int (1 : Int32)), .val (.int (e0_1 p0 p2)), .val (.int (1 : Int32))] [(.int (p0 &&& (1023 : Int32))), (.long ((e0_1 p0 p2).toInt64)), (.int (f3 (e0_1 p0 p2) (p0 &&& (1023 : Int32))))])) _
        refine XS.i2l X63.here hx rfl (hb hby at_89) rfl ?_
        show Steps p.tables e below (T63.setTop (mkF m 90 #[.val (.int p0), .val (.int p1), .val (.int p2), .val (.int (p0 &&& (1023 : Int32))), .val (.ref b1), .val (.int (1 : Int32)), .val (.int (e0_1 p0 p2)), .val (.int (1 : Int32))] [(.long ((p0 &&& (1023 : Int32)).toInt64)), (.long ((e0_1 p0 p2).toInt64)), (.int (f3 (e0_1 p0 p2) (p0 &&& (1023 : Int32))))])) _
        refine st64 _ ?_
        exact kt)
    have hd93_66 : (f3 (e0_1 p0 p2) (p0 &&& (1023 : Int32))) = (f4 ((e0_1 p0 p2).toInt64) ((p0 &&& (1023 : Int32)).toInt64)) := own_same _ _
    have pre67 : ∀ t, Steps p.tables e below (T64.setTop (mkF m 105 #[.val (.int p0), .val (.int p1), .val (.int p2), .val (.int (p0 &&& (1023 : Int32))), .val (.ref b1), .val (.int (1 : Int32)), .val (.int (e0_1 p0 p2)), .val (.int (1 : Int32))] [(.int (1 : Int32))])) t → Steps p.tables e below (s₁.setTop (entryFrame m #[(.int p0), (.int p1), (.int p2)] maxLocals)) t := fun t kt => pre65 t (by
        show Steps p.tables e below (T64.setTop (mkF m 93 #[.val (.int p0), .val (.int p1), .val (.int p2), .val (.int (p0 &&& (1023 : Int32))), .val (.ref b1), .val (.int (1 : Int32)), .val (.int (e0_1 p0 p2)), .val (.int (1 : Int32))] [(.int (f4 ((e0_1 p0 p2).toInt64) ((p0 &&& (1023 : Int32)).toInt64))), (.int (f3 (e0_1 p0 p2) (p0 &&& (1023 : Int32))))])) _
        refine XS.icmpNo X64.here hx rfl (hb hby at_93) rfl (teq hd93_66).2 ?_
        show Steps p.tables e below (T64.setTop (mkF m 96 #[.val (.int p0), .val (.int p1), .val (.int p2), .val (.int (p0 &&& (1023 : Int32))), .val (.ref b1), .val (.int (1 : Int32)), .val (.int (e0_1 p0 p2)), .val (.int (1 : Int32))] [])) _
        refine XS.iconst X64.here hx rfl (hb hby at_96) ?_
        show Steps p.tables e below (T64.setTop (mkF m 97 #[.val (.int p0), .val (.int p1), .val (.int p2), .val (.int (p0 &&& (1023 : Int32))), .val (.ref b1), .val (.int (1 : Int32)), .val (.int (e0_1 p0 p2)), .val (.int (1 : Int32))] [(.int (1 : Int32))])) _
        refine XS.goto X64.here hx rfl (pc0 := 97) (pc' := 101) rfl (hb hby at_97) (by decide) (by decide) ?_
        show Steps p.tables e below (T64.setTop (mkF m 101 #[.val (.int p0), .val (.int p1), .val (.int p2), .val (.int (p0 &&& (1023 : Int32))), .val (.ref b1), .val (.int (1 : Int32)), .val (.int (e0_1 p0 p2)), .val (.int (1 : Int32))] [(.int (1 : Int32))])) _
        refine XS.istore X64.here hx rfl (hb hby at_101) rfl (l' := #[.val (.int p0), .val (.int p1), .val (.int p2), .val (.int (p0 &&& (1023 : Int32))), .val (.ref b1), .val (.int (1 : Int32)), .val (.int (e0_1 p0 p2)), .val (.int (1 : Int32))]) rfl ?_
        show Steps p.tables e below (T64.setTop (mkF m 103 #[.val (.int p0), .val (.int p1), .val (.int p2), .val (.int (p0 &&& (1023 : Int32))), .val (.ref b1), .val (.int (1 : Int32)), .val (.int (e0_1 p0 p2)), .val (.int (1 : Int32))] [])) _
        refine XS.iload X64.here hx rfl (hb hby at_103) rfl ?_
        exact kt)
    obtain ⟨cq68, kq68, q68a, q68b, q68c⟩ := isOf hZ e64q (((((E_b1.ext E4).ext E7).ext E10).ext E13).keep K16q)
    obtain ⟨_, _, ⟨T68, L68, k68, n68⟩, -, X68, ⟨Lc68, hQ68, l68, y68, z68⟩, st68⟩ := X64.virtualBack hx (y := (⟨"com/example/cabweave/cabweave/Network", "contains", "(I)Z"⟩ : MethodName)) (z := (⟨"com/example/cabweave/cabweave/Network", "contains", "(I)Z"⟩ : MethodName)) hown (mvT hZ (hw _ (List.mem_of_getElem? (i := 35) rfl))) (mvT hZ (hw _ (List.mem_of_getElem? (i := 36) rfl))) (notFace_of_selects (args := #[]) (mvT hZ (hw _ (List.mem_of_getElem? (i := 38) rfl)))) (mvT hZ (hw _ (List.mem_of_getElem? (i := 38) rfl))) (mvT hZ (hw _ (List.mem_of_getElem? (i := 37) rfl))) (by decide) (backOf (W := 0) (rm3 l Z a0 hw [] b1 (0 : Int32) (p0 &&& (1023 : Int32)) T16.heap n0 Z18 G16_0) hZ (hw _ (List.mem_of_getElem? (i := 39) rfl)) (hw _ (List.mem_of_getElem? (i := 2) rfl)) (by decide) (by decide)) q68a q68c (g := (mkF m 111 #[.val (.int p0), .val (.int p1), .val (.int p2), .val (.int (p0 &&& (1023 : Int32))), .val (.ref b1), .val (.int (1 : Int32)), .val (.int (e0_1 p0 p2)), .val (.int (1 : Int32))] [(.int (0 : Int32)), (.ref b1)])) rfl (by rw [hml]; rfl) (Steps.refl _) (argsL := [(.int (0 : Int32))]) (rest := []) (lenOf pd_0_1 rfl) rfl (by show 2 * 0 + _ ≤ _; exact Nat.le_of_eq rfl) (hb hby at_111) (fun _ _ => ⟨rfl, e64q, (by decide : 11 + 0 ≤ _), (by decide : 2057 + 0 ≤ _)⟩)
    dsimp only [Pt.U, Pt.locs, Pt.cells, Pt.slots] at X68 l68 y68 z68 st68 hQ68
    subst l68 y68 z68
    obtain ⟨rfl, N68q, e68q⟩ := hQ68
    have N68 := Fr.app N64 N68q
    have pre69 : ∀ t, Steps p.tables e below (T68.setTop (mkF m 114 #[.val (.int p0), .val (.int p1), .val (.int p2), .val (.int (p0 &&& (1023 : Int32))), .val (.ref b1), .val (.int (1 : Int32)), .val (.int (e0_1 p0 p2)), .val (.int (1 : Int32))] [(.int (f3 (0 : Int32) (p0 &&& (1023 : Int32))))])) t → Steps p.tables e below (s₁.setTop (entryFrame m #[(.int p0), (.int p1), (.int p2)] maxLocals)) t := fun t kt => pre67 t (by
        show Steps p.tables e below (T64.setTop (mkF m 105 #[.val (.int p0), .val (.int p1), .val (.int p2), .val (.int (p0 &&& (1023 : Int32))), .val (.ref b1), .val (.int (1 : Int32)), .val (.int (e0_1 p0 p2)), .val (.int (1 : Int32))] [(.int (1 : Int32))])) _
        refine XS.ifNo X64.here hx rfl (hb hby at_105) rfl ((if0 _ _).trans (feq (by decide : ¬ ((1 : Int32) = (0 : Int32)))).1) ?_
        show Steps p.tables e below (T64.setTop (mkF m 108 #[.val (.int p0), .val (.int p1), .val (.int p2), .val (.int (p0 &&& (1023 : Int32))), .val (.ref b1), .val (.int (1 : Int32)), .val (.int (e0_1 p0 p2)), .val (.int (1 : Int32))] [])) _
        refine XS.aload X64.here hx rfl (hb hby at_108) rfl rfl ?_
        show Steps p.tables e below (T64.setTop (mkF m 110 #[.val (.int p0), .val (.int p1), .val (.int p2), .val (.int (p0 &&& (1023 : Int32))), .val (.ref b1), .val (.int (1 : Int32)), .val (.int (e0_1 p0 p2)), .val (.int (1 : Int32))] [(.ref b1)])) _
        refine XS.iconst X64.here hx rfl (hb hby at_110) ?_
        show Steps p.tables e below (T64.setTop (mkF m 111 #[.val (.int p0), .val (.int p1), .val (.int p2), .val (.int (p0 &&& (1023 : Int32))), .val (.ref b1), .val (.int (1 : Int32)), .val (.int (e0_1 p0 p2)), .val (.int (1 : Int32))] [(.int (0 : Int32)), (.ref b1)])) _
        refine st68.trans ?_
        exact kt)
    have hd114_70 : (f3 (0 : Int32) (p0 &&& (1023 : Int32))) = (0 : Int32) := own_z0 _
    have pre71 : ∀ t, Steps p.tables e below (T68.setTop (mkF m 126 #[.val (.int p0), .val (.int p1), .val (.int p2), .val (.int (p0 &&& (1023 : Int32))), .val (.ref b1), .val (.int (1 : Int32)), .val (.int (e0_1 p0 p2)), .val (.int (1 : Int32))] [(.int (1 : Int32))])) t → Steps p.tables e below (s₁.setTop (entryFrame m #[(.int p0), (.int p1), (.int p2)] maxLocals)) t := fun t kt => pre69 t (by
        show Steps p.tables e below (T68.setTop (mkF m 114 #[.val (.int p0), .val (.int p1), .val (.int p2), .val (.int (p0 &&& (1023 : Int32))), .val (.ref b1), .val (.int (1 : Int32)), .val (.int (e0_1 p0 p2)), .val (.int (1 : Int32))] [(.int (f3 (0 : Int32) (p0 &&& (1023 : Int32))))])) _
        refine XS.ifNo X68.here hx rfl (hb hby at_114) rfl ((if0 _ _).trans (teq hd114_70).2) ?_
        show Steps p.tables e below (T68.setTop (mkF m 117 #[.val (.int p0), .val (.int p1), .val (.int p2), .val (.int (p0 &&& (1023 : Int32))), .val (.ref b1), .val (.int (1 : Int32)), .val (.int (e0_1 p0 p2)), .val (.int (1 : Int32))] [])) _
        refine XS.iconst X68.here hx rfl (hb hby at_117) ?_
        show Steps p.tables e below (T68.setTop (mkF m 118 #[.val (.int p0), .val (.int p1), .val (.int p2), .val (.int (p0 &&& (1023 : Int32))), .val (.ref b1), .val (.int (1 : Int32)), .val (.int (e0_1 p0 p2)), .val (.int (1 : Int32))] [(.int (1 : Int32))])) _
        refine XS.goto X68.here hx rfl (pc0 := 118) (pc' := 122) rfl (hb hby at_118) (by decide) (by decide) ?_
        show Steps p.tables e below (T68.setTop (mkF m 122 #[.val (.int p0), .val (.int p1), .val (.int p2), .val (.int (p0 &&& (1023 : Int32))), .val (.ref b1), .val (.int (1 : Int32)), .val (.int (e0_1 p0 p2)), .val (.int (1 : Int32))] [(.int (1 : Int32))])) _
        refine XS.istore X68.here hx rfl (hb hby at_122) rfl (l' := #[.val (.int p0), .val (.int p1), .val (.int p2), .val (.int (p0 &&& (1023 : Int32))), .val (.ref b1), .val (.int (1 : Int32)), .val (.int (e0_1 p0 p2)), .val (.int (1 : Int32))]) rfl ?_
        show Steps p.tables e below (T68.setTop (mkF m 124 #[.val (.int p0), .val (.int p1), .val (.int p2), .val (.int (p0 &&& (1023 : Int32))), .val (.ref b1), .val (.int (1 : Int32)), .val (.int (e0_1 p0 p2)), .val (.int (1 : Int32))] [])) _
        refine XS.iload X68.here hx rfl (hb hby at_124) rfl ?_
        exact kt)
    obtain ⟨cq72, kq72, q72a, q72b, q72c⟩ := isOf hZ e68q (((((E_b1.ext E4).ext E7).ext E10).ext E13).keep K16q)
    obtain ⟨_, _, ⟨T72, L72, k72, n72⟩, -, X72, ⟨Lc72, hQ72, l72, y72, z72⟩, st72⟩ := X68.virtualBack hx (y := (⟨"com/example/cabweave/cabweave/Network", "contains", "(I)Z"⟩ : MethodName)) (z := (⟨"com/example/cabweave/cabweave/Network", "contains", "(I)Z"⟩ : MethodName)) hown (mvT hZ (hw _ (List.mem_of_getElem? (i := 35) rfl))) (mvT hZ (hw _ (List.mem_of_getElem? (i := 36) rfl))) (notFace_of_selects (args := #[]) (mvT hZ (hw _ (List.mem_of_getElem? (i := 38) rfl)))) (mvT hZ (hw _ (List.mem_of_getElem? (i := 38) rfl))) (mvT hZ (hw _ (List.mem_of_getElem? (i := 37) rfl))) (by decide) (backOf (W := 0) (rm3 l Z a0 hw [] b1 (-1 : Int32) (p0 &&& (1023 : Int32)) T16.heap n0 Z18 G16_0) hZ (hw _ (List.mem_of_getElem? (i := 39) rfl)) (hw _ (List.mem_of_getElem? (i := 2) rfl)) (by decide) (by decide)) q72a q72c (g := (mkF m 132 #[.val (.int p0), .val (.int p1), .val (.int p2), .val (.int (p0 &&& (1023 : Int32))), .val (.ref b1), .val (.int (1 : Int32)), .val (.int (e0_1 p0 p2)), .val (.int (1 : Int32))] [(.int (-1 : Int32)), (.ref b1)])) rfl (by rw [hml]; rfl) (Steps.refl _) (argsL := [(.int (-1 : Int32))]) (rest := []) (lenOf pd_0_1 rfl) rfl (by show 2 * 0 + _ ≤ _; exact Nat.le_of_eq rfl) (hb hby at_132) (fun _ _ => ⟨rfl, e68q, (by decide : 11 + 0 ≤ _), (by decide : 2057 + 0 ≤ _)⟩)
    dsimp only [Pt.U, Pt.locs, Pt.cells, Pt.slots] at X72 l72 y72 z72 st72 hQ72
    subst l72 y72 z72
    obtain ⟨rfl, N72q, e72q⟩ := hQ72
    have N72 := Fr.app N68 N72q
    have pre73 : ∀ t, Steps p.tables e below (T72.setTop (mkF m 135 #[.val (.int p0), .val (.int p1), .val (.int p2), .val (.int (p0 &&& (1023 : Int32))), .val (.ref b1), .val (.int (1 : Int32)), .val (.int (e0_1 p0 p2)), .val (.int (1 : Int32))] [(.int (f3 (-1 : Int32) (p0 &&& (1023 : Int32))))])) t → Steps p.tables e below (s₁.setTop (entryFrame m #[(.int p0), (.int p1), (.int p2)] maxLocals)) t := fun t kt => pre71 t (by
        show Steps p.tables e below (T68.setTop (mkF m 126 #[.val (.int p0), .val (.int p1), .val (.int p2), .val (.int (p0 &&& (1023 : Int32))), .val (.ref b1), .val (.int (1 : Int32)), .val (.int (e0_1 p0 p2)), .val (.int (1 : Int32))] [(.int (1 : Int32))])) _
        refine XS.ifNo X68.here hx rfl (hb hby at_126) rfl ((if0 _ _).trans (feq (by decide : ¬ ((1 : Int32) = (0 : Int32)))).1) ?_
        show Steps p.tables e below (T68.setTop (mkF m 129 #[.val (.int p0), .val (.int p1), .val (.int p2), .val (.int (p0 &&& (1023 : Int32))), .val (.ref b1), .val (.int (1 : Int32)), .val (.int (e0_1 p0 p2)), .val (.int (1 : Int32))] [])) _
        refine XS.aload X68.here hx rfl (hb hby at_129) rfl rfl ?_
        show Steps p.tables e below (T68.setTop (mkF m 131 #[.val (.int p0), .val (.int p1), .val (.int p2), .val (.int (p0 &&& (1023 : Int32))), .val (.ref b1), .val (.int (1 : Int32)), .val (.int (e0_1 p0 p2)), .val (.int (1 : Int32))] [(.ref b1)])) _
        refine XS.iconst X68.here hx rfl (hb hby at_131) ?_
        show Steps p.tables e below (T68.setTop (mkF m 132 #[.val (.int p0), .val (.int p1), .val (.int p2), .val (.int (p0 &&& (1023 : Int32))), .val (.ref b1), .val (.int (1 : Int32)), .val (.int (e0_1 p0 p2)), .val (.int (1 : Int32))] [(.int (-1 : Int32)), (.ref b1)])) _
        refine st72.trans ?_
        exact kt)
    have hd135_74 : (f3 (-1 : Int32) (p0 &&& (1023 : Int32))) = (0 : Int32) := own_z1 _
    have pre75 : ∀ t, Steps p.tables e below (T72.setTop (mkF m 147 #[.val (.int p0), .val (.int p1), .val (.int p2), .val (.int (p0 &&& (1023 : Int32))), .val (.ref b1), .val (.int (1 : Int32)), .val (.int (e0_1 p0 p2)), .val (.int (1 : Int32))] [(.int (1 : Int32))])) t → Steps p.tables e below (s₁.setTop (entryFrame m #[(.int p0), (.int p1), (.int p2)] maxLocals)) t := fun t kt => pre73 t (by
        show Steps p.tables e below (T72.setTop (mkF m 135 #[.val (.int p0), .val (.int p1), .val (.int p2), .val (.int (p0 &&& (1023 : Int32))), .val (.ref b1), .val (.int (1 : Int32)), .val (.int (e0_1 p0 p2)), .val (.int (1 : Int32))] [(.int (f3 (-1 : Int32) (p0 &&& (1023 : Int32))))])) _
        refine XS.ifNo X72.here hx rfl (hb hby at_135) rfl ((if0 _ _).trans (teq hd135_74).2) ?_
        show Steps p.tables e below (T72.setTop (mkF m 138 #[.val (.int p0), .val (.int p1), .val (.int p2), .val (.int (p0 &&& (1023 : Int32))), .val (.ref b1), .val (.int (1 : Int32)), .val (.int (e0_1 p0 p2)), .val (.int (1 : Int32))] [])) _
        refine XS.iconst X72.here hx rfl (hb hby at_138) ?_
        show Steps p.tables e below (T72.setTop (mkF m 139 #[.val (.int p0), .val (.int p1), .val (.int p2), .val (.int (p0 &&& (1023 : Int32))), .val (.ref b1), .val (.int (1 : Int32)), .val (.int (e0_1 p0 p2)), .val (.int (1 : Int32))] [(.int (1 : Int32))])) _
        refine XS.goto X72.here hx rfl (pc0 := 139) (pc' := 143) rfl (hb hby at_139) (by decide) (by decide) ?_
        show Steps p.tables e below (T72.setTop (mkF m 143 #[.val (.int p0), .val (.int p1), .val (.int p2), .val (.int (p0 &&& (1023 : Int32))), .val (.ref b1), .val (.int (1 : Int32)), .val (.int (e0_1 p0 p2)), .val (.int (1 : Int32))] [(.int (1 : Int32))])) _
        refine XS.istore X72.here hx rfl (hb hby at_143) rfl (l' := #[.val (.int p0), .val (.int p1), .val (.int p2), .val (.int (p0 &&& (1023 : Int32))), .val (.ref b1), .val (.int (1 : Int32)), .val (.int (e0_1 p0 p2)), .val (.int (1 : Int32))]) rfl ?_
        show Steps p.tables e below (T72.setTop (mkF m 145 #[.val (.int p0), .val (.int p1), .val (.int p2), .val (.int (p0 &&& (1023 : Int32))), .val (.ref b1), .val (.int (1 : Int32)), .val (.int (e0_1 p0 p2)), .val (.int (1 : Int32))] [])) _
        refine XS.iload X72.here hx rfl (hb hby at_145) rfl ?_
        exact kt)
    obtain ⟨cq76, kq76, q76a, q76b, q76c⟩ := isOf hZ e72q (((((E_b1.ext E4).ext E7).ext E10).ext E13).keep K16q)
    obtain ⟨_, _, ⟨T76, L76, k76, n76⟩, -, X76, ⟨Lc76, hQ76, l76, y76, z76⟩, st76⟩ := X72.virtualBack hx (y := (⟨"com/example/cabweave/cabweave/Network", "contains", "(I)Z"⟩ : MethodName)) (z := (⟨"com/example/cabweave/cabweave/Network", "contains", "(I)Z"⟩ : MethodName)) hown (mvT hZ (hw _ (List.mem_of_getElem? (i := 35) rfl))) (mvT hZ (hw _ (List.mem_of_getElem? (i := 36) rfl))) (notFace_of_selects (args := #[]) (mvT hZ (hw _ (List.mem_of_getElem? (i := 38) rfl)))) (mvT hZ (hw _ (List.mem_of_getElem? (i := 38) rfl))) (mvT hZ (hw _ (List.mem_of_getElem? (i := 37) rfl))) (by decide) (backOf (W := 0) (rm3 l Z a0 hw [] b1 (-2147483648 : Int32) (p0 &&& (1023 : Int32)) T16.heap n0 Z18 G16_0) hZ (hw _ (List.mem_of_getElem? (i := 39) rfl)) (hw _ (List.mem_of_getElem? (i := 2) rfl)) (by decide) (by decide)) q76a q76c (g := (mkF m 154 #[.val (.int p0), .val (.int p1), .val (.int p2), .val (.int (p0 &&& (1023 : Int32))), .val (.ref b1), .val (.int (1 : Int32)), .val (.int (e0_1 p0 p2)), .val (.int (1 : Int32))] [(.int (-2147483648 : Int32)), (.ref b1)])) rfl (by rw [hml]; rfl) (Steps.refl _) (argsL := [(.int (-2147483648 : Int32))]) (rest := []) (lenOf pd_0_1 rfl) rfl (by show 2 * 0 + _ ≤ _; exact Nat.le_of_eq rfl) (hb hby at_154) (fun _ _ => ⟨rfl, e72q, (by decide : 11 + 0 ≤ _), (by decide : 2057 + 0 ≤ _)⟩)
    dsimp only [Pt.U, Pt.locs, Pt.cells, Pt.slots] at X76 l76 y76 z76 st76 hQ76
    subst l76 y76 z76
    obtain ⟨rfl, N76q, e76q⟩ := hQ76
    have N76 := Fr.app N72 N76q
    have pre77 : ∀ t, Steps p.tables e below (T76.setTop (mkF m 157 #[.val (.int p0), .val (.int p1), .val (.int p2), .val (.int (p0 &&& (1023 : Int32))), .val (.ref b1), .val (.int (1 : Int32)), .val (.int (e0_1 p0 p2)), .val (.int (1 : Int32))] [(.int (f3 (-2147483648 : Int32) (p0 &&& (1023 : Int32))))])) t → Steps p.tables e below (s₁.setTop (entryFrame m #[(.int p0), (.int p1), (.int p2)] maxLocals)) t := fun t kt => pre75 t (by
        show Steps p.tables e below (T72.setTop (mkF m 147 #[.val (.int p0), .val (.int p1), .val (.int p2), .val (.int (p0 &&& (1023 : Int32))), .val (.ref b1), .val (.int (1 : Int32)), .val (.int (e0_1 p0 p2)), .val (.int (1 : Int32))] [(.int (1 : Int32))])) _
        refine XS.ifNo X72.here hx rfl (hb hby at_147) rfl ((if0 _ _).trans (feq (by decide : ¬ ((1 : Int32) = (0 : Int32)))).1) ?_
        show Steps p.tables e below (T72.setTop (mkF m 150 #[.val (.int p0), .val (.int p1), .val (.int p2), .val (.int (p0 &&& (1023 : Int32))), .val (.ref b1), .val (.int (1 : Int32)), .val (.int (e0_1 p0 p2)), .val (.int (1 : Int32))] [])) _
        refine XS.aload X72.here hx rfl (hb hby at_150) rfl rfl ?_
        show Steps p.tables e below (T72.setTop (mkF m 152 #[.val (.int p0), .val (.int p1), .val (.int p2), .val (.int (p0 &&& (1023 : Int32))), .val (.ref b1), .val (.int (1 : Int32)), .val (.int (e0_1 p0 p2)), .val (.int (1 : Int32))] [(.ref b1)])) _
        refine X72.ldcInt hx hown (mvT hZ (hw _ (List.mem_of_getElem? (i := 44) rfl))) (g := (mkF m 152 #[.val (.int p0), .val (.int p1), .val (.int p2), .val (.int (p0 &&& (1023 : Int32))), .val (.ref b1), .val (.int (1 : Int32)), .val (.int (e0_1 p0 p2)), .val (.int (1 : Int32))] [(.ref b1)])) rfl (hb hby at_152) _ ?_
        show Steps p.tables e below (T72.setTop (mkF m 154 #[.val (.int p0), .val (.int p1), .val (.int p2), .val (.int (p0 &&& (1023 : Int32))), .val (.ref b1), .val (.int (1 : Int32)), .val (.int (e0_1 p0 p2)), .val (.int (1 : Int32))] [(.int (-2147483648 : Int32)), (.ref b1)])) _
        refine st76.trans ?_
        exact kt)
    have hd157_78 : (f3 (-2147483648 : Int32) (p0 &&& (1023 : Int32))) = (0 : Int32) := own_z2 _
    have pre79 : ∀ t, Steps p.tables e below (T76.setTop (mkF m 169 #[.val (.int p0), .val (.int p1), .val (.int p2), .val (.int (p0 &&& (1023 : Int32))), .val (.ref b1), .val (.int (1 : Int32)), .val (.int (e0_1 p0 p2)), .val (.int (1 : Int32))] [(.int (1 : Int32))])) t → Steps p.tables e below (s₁.setTop (entryFrame m #[(.int p0), (.int p1), (.int p2)] maxLocals)) t := fun t kt => pre77 t (by
        show Steps p.tables e below (T76.setTop (mkF m 157 #[.val (.int p0), .val (.int p1), .val (.int p2), .val (.int (p0 &&& (1023 : Int32))), .val (.ref b1), .val (.int (1 : Int32)), .val (.int (e0_1 p0 p2)), .val (.int (1 : Int32))] [(.int (f3 (-2147483648 : Int32) (p0 &&& (1023 : Int32))))])) _
        refine XS.ifNo X76.here hx rfl (hb hby at_157) rfl ((if0 _ _).trans (teq hd157_78).2) ?_
        show Steps p.tables e below (T76.setTop (mkF m 160 #[.val (.int p0), .val (.int p1), .val (.int p2), .val (.int (p0 &&& (1023 : Int32))), .val (.ref b1), .val (.int (1 : Int32)), .val (.int (e0_1 p0 p2)), .val (.int (1 : Int32))] [])) _
        refine XS.iconst X76.here hx rfl (hb hby at_160) ?_
        show Steps p.tables e below (T76.setTop (mkF m 161 #[.val (.int p0), .val (.int p1), .val (.int p2), .val (.int (p0 &&& (1023 : Int32))), .val (.ref b1), .val (.int (1 : Int32)), .val (.int (e0_1 p0 p2)), .val (.int (1 : Int32))] [(.int (1 : Int32))])) _
        refine XS.goto X76.here hx rfl (pc0 := 161) (pc' := 165) rfl (hb hby at_161) (by decide) (by decide) ?_
        show Steps p.tables e below (T76.setTop (mkF m 165 #[.val (.int p0), .val (.int p1), .val (.int p2), .val (.int (p0 &&& (1023 : Int32))), .val (.ref b1), .val (.int (1 : Int32)), .val (.int (e0_1 p0 p2)), .val (.int (1 : Int32))] [(.int (1 : Int32))])) _
        refine XS.istore X76.here hx rfl (hb hby at_165) rfl (l' := #[.val (.int p0), .val (.int p1), .val (.int p2), .val (.int (p0 &&& (1023 : Int32))), .val (.ref b1), .val (.int (1 : Int32)), .val (.int (e0_1 p0 p2)), .val (.int (1 : Int32))]) rfl ?_
        show Steps p.tables e below (T76.setTop (mkF m 167 #[.val (.int p0), .val (.int p1), .val (.int p2), .val (.int (p0 &&& (1023 : Int32))), .val (.ref b1), .val (.int (1 : Int32)), .val (.int (e0_1 p0 p2)), .val (.int (1 : Int32))] [])) _
        refine XS.iload X76.here hx rfl (hb hby at_167) rfl ?_
        exact kt)
    obtain ⟨cq80, kq80, q80a, q80b, q80c⟩ := isOf hZ e76q (((((E_b1.ext E4).ext E7).ext E10).ext E13).keep K16q)
    obtain ⟨_, _, ⟨T80, L80, k80, n80⟩, -, X80, ⟨Lc80, hQ80, l80, y80, z80⟩, st80⟩ := X76.virtualBack hx (y := (⟨"com/example/cabweave/cabweave/Network", "contains", "(I)Z"⟩ : MethodName)) (z := (⟨"com/example/cabweave/cabweave/Network", "contains", "(I)Z"⟩ : MethodName)) hown (mvT hZ (hw _ (List.mem_of_getElem? (i := 35) rfl))) (mvT hZ (hw _ (List.mem_of_getElem? (i := 36) rfl))) (notFace_of_selects (args := #[]) (mvT hZ (hw _ (List.mem_of_getElem? (i := 38) rfl)))) (mvT hZ (hw _ (List.mem_of_getElem? (i := 38) rfl))) (mvT hZ (hw _ (List.mem_of_getElem? (i := 37) rfl))) (by decide) (backOf (W := 0) (rm3 l Z a0 hw [] b1 (2147483647 : Int32) (p0 &&& (1023 : Int32)) T16.heap n0 Z18 G16_0) hZ (hw _ (List.mem_of_getElem? (i := 39) rfl)) (hw _ (List.mem_of_getElem? (i := 2) rfl)) (by decide) (by decide)) q80a q80c (g := (mkF m 176 #[.val (.int p0), .val (.int p1), .val (.int p2), .val (.int (p0 &&& (1023 : Int32))), .val (.ref b1), .val (.int (1 : Int32)), .val (.int (e0_1 p0 p2)), .val (.int (1 : Int32))] [(.int (2147483647 : Int32)), (.ref b1)])) rfl (by rw [hml]; rfl) (Steps.refl _) (argsL := [(.int (2147483647 : Int32))]) (rest := []) (lenOf pd_0_1 rfl) rfl (by show 2 * 0 + _ ≤ _; exact Nat.le_of_eq rfl) (hb hby at_176) (fun _ _ => ⟨rfl, e76q, (by decide : 11 + 0 ≤ _), (by decide : 2057 + 0 ≤ _)⟩)
    dsimp only [Pt.U, Pt.locs, Pt.cells, Pt.slots] at X80 l80 y80 z80 st80 hQ80
    subst l80 y80 z80
    obtain ⟨rfl, N80q, e80q⟩ := hQ80
    have N80 := Fr.app N76 N80q
    have pre81 : ∀ t, Steps p.tables e below (T80.setTop (mkF m 179 #[.val (.int p0), .val (.int p1), .val (.int p2), .val (.int (p0 &&& (1023 : Int32))), .val (.ref b1), .val (.int (1 : Int32)), .val (.int (e0_1 p0 p2)), .val (.int (1 : Int32))] [(.int (f3 (2147483647 : Int32) (p0 &&& (1023 : Int32))))])) t → Steps p.tables e below (s₁.setTop (entryFrame m #[(.int p0), (.int p1), (.int p2)] maxLocals)) t := fun t kt => pre79 t (by
        show Steps p.tables e below (T76.setTop (mkF m 169 #[.val (.int p0), .val (.int p1), .val (.int p2), .val (.int (p0 &&& (1023 : Int32))), .val (.ref b1), .val (.int (1 : Int32)), .val (.int (e0_1 p0 p2)), .val (.int (1 : Int32))] [(.int (1 : Int32))])) _
        refine XS.ifNo X76.here hx rfl (hb hby at_169) rfl ((if0 _ _).trans (feq (by decide : ¬ ((1 : Int32) = (0 : Int32)))).1) ?_
        show Steps p.tables e below (T76.setTop (mkF m 172 #[.val (.int p0), .val (.int p1), .val (.int p2), .val (.int (p0 &&& (1023 : Int32))), .val (.ref b1), .val (.int (1 : Int32)), .val (.int (e0_1 p0 p2)), .val (.int (1 : Int32))] [])) _
        refine XS.aload X76.here hx rfl (hb hby at_172) rfl rfl ?_
        show Steps p.tables e below (T76.setTop (mkF m 174 #[.val (.int p0), .val (.int p1), .val (.int p2), .val (.int (p0 &&& (1023 : Int32))), .val (.ref b1), .val (.int (1 : Int32)), .val (.int (e0_1 p0 p2)), .val (.int (1 : Int32))] [(.ref b1)])) _
        refine X76.ldcInt hx hown (mvT hZ (hw _ (List.mem_of_getElem? (i := 45) rfl))) (g := (mkF m 174 #[.val (.int p0), .val (.int p1), .val (.int p2), .val (.int (p0 &&& (1023 : Int32))), .val (.ref b1), .val (.int (1 : Int32)), .val (.int (e0_1 p0 p2)), .val (.int (1 : Int32))] [(.ref b1)])) rfl (hb hby at_174) _ ?_
        show Steps p.tables e below (T76.setTop (mkF m 176 #[.val (.int p0), .val (.int p1), .val (.int p2), .val (.int (p0 &&& (1023 : Int32))), .val (.ref b1), .val (.int (1 : Int32)), .val (.int (e0_1 p0 p2)), .val (.int (1 : Int32))] [(.int (2147483647 : Int32)), (.ref b1)])) _
        refine st80.trans ?_
        exact kt)
    have hd179_82 : (f3 (2147483647 : Int32) (p0 &&& (1023 : Int32))) = (0 : Int32) := own_z3 (own_m1023 _)
    have pre83 : ∀ t, Steps p.tables e below (T80.setTop (mkF m 191 #[.val (.int p0), .val (.int p1), .val (.int p2), .val (.int (p0 &&& (1023 : Int32))), .val (.ref b1), .val (.int (1 : Int32)), .val (.int (e0_1 p0 p2)), .val (.int (1 : Int32))] [(.int (1 : Int32))])) t → Steps p.tables e below (s₁.setTop (entryFrame m #[(.int p0), (.int p1), (.int p2)] maxLocals)) t := fun t kt => pre81 t (by
        show Steps p.tables e below (T80.setTop (mkF m 179 #[.val (.int p0), .val (.int p1), .val (.int p2), .val (.int (p0 &&& (1023 : Int32))), .val (.ref b1), .val (.int (1 : Int32)), .val (.int (e0_1 p0 p2)), .val (.int (1 : Int32))] [(.int (f3 (2147483647 : Int32) (p0 &&& (1023 : Int32))))])) _
        refine XS.ifNo X80.here hx rfl (hb hby at_179) rfl ((if0 _ _).trans (teq hd179_82).2) ?_
        show Steps p.tables e below (T80.setTop (mkF m 182 #[.val (.int p0), .val (.int p1), .val (.int p2), .val (.int (p0 &&& (1023 : Int32))), .val (.ref b1), .val (.int (1 : Int32)), .val (.int (e0_1 p0 p2)), .val (.int (1 : Int32))] [])) _
        refine XS.iconst X80.here hx rfl (hb hby at_182) ?_
        show Steps p.tables e below (T80.setTop (mkF m 183 #[.val (.int p0), .val (.int p1), .val (.int p2), .val (.int (p0 &&& (1023 : Int32))), .val (.ref b1), .val (.int (1 : Int32)), .val (.int (e0_1 p0 p2)), .val (.int (1 : Int32))] [(.int (1 : Int32))])) _
        refine XS.goto X80.here hx rfl (pc0 := 183) (pc' := 187) rfl (hb hby at_183) (by decide) (by decide) ?_
        show Steps p.tables e below (T80.setTop (mkF m 187 #[.val (.int p0), .val (.int p1), .val (.int p2), .val (.int (p0 &&& (1023 : Int32))), .val (.ref b1), .val (.int (1 : Int32)), .val (.int (e0_1 p0 p2)), .val (.int (1 : Int32))] [(.int (1 : Int32))])) _
        refine XS.istore X80.here hx rfl (hb hby at_187) rfl (l' := #[.val (.int p0), .val (.int p1), .val (.int p2), .val (.int (p0 &&& (1023 : Int32))), .val (.ref b1), .val (.int (1 : Int32)), .val (.int (e0_1 p0 p2)), .val (.int (1 : Int32))]) rfl ?_
        show Steps p.tables e below (T80.setTop (mkF m 189 #[.val (.int p0), .val (.int p1), .val (.int p2), .val (.int (p0 &&& (1023 : Int32))), .val (.ref b1), .val (.int (1 : Int32)), .val (.int (e0_1 p0 p2)), .val (.int (1 : Int32))] [])) _
        refine XS.iload X80.here hx rfl (hb hby at_189) rfl ?_
        exact kt)
    obtain ⟨cq84, kq84, q84a, q84b, q84c⟩ := isOf hZ e80q (((((E_b1.ext E4).ext E7).ext E10).ext E13).keep K16q)
    obtain ⟨_, _, ⟨T84, L84, k84, n84⟩, -, X84, ⟨Lc84, hQ84, l84, y84, z84⟩, st84⟩ := X80.virtualBack hx (y := (⟨"com/example/cabweave/cabweave/Network", "contains", "(I)Z"⟩ : MethodName)) (z := (⟨"com/example/cabweave/cabweave/Network", "contains", "(I)Z"⟩ : MethodName)) hown (mvT hZ (hw _ (List.mem_of_getElem? (i := 35) rfl))) (mvT hZ (hw _ (List.mem_of_getElem? (i := 36) rfl))) (notFace_of_selects (args := #[]) (mvT hZ (hw _ (List.mem_of_getElem? (i := 38) rfl)))) (mvT hZ (hw _ (List.mem_of_getElem? (i := 38) rfl))) (mvT hZ (hw _ (List.mem_of_getElem? (i := 37) rfl))) (by decide) (backOf (W := 0) (rm3 l Z a0 hw [] b1 (1 : Int32) (p0 &&& (1023 : Int32)) T16.heap n0 Z18 G16_0) hZ (hw _ (List.mem_of_getElem? (i := 39) rfl)) (hw _ (List.mem_of_getElem? (i := 2) rfl)) (by decide) (by decide)) q84a q84c (g := (mkF m 197 #[.val (.int p0), .val (.int p1), .val (.int p2), .val (.int (p0 &&& (1023 : Int32))), .val (.ref b1), .val (.int (1 : Int32)), .val (.int (e0_1 p0 p2)), .val (.int (1 : Int32))] [(.int (1 : Int32)), (.ref b1)])) rfl (by rw [hml]; rfl) (Steps.refl _) (argsL := [(.int (1 : Int32))]) (rest := []) (lenOf pd_0_1 rfl) rfl (by show 2 * 0 + _ ≤ _; exact Nat.le_of_eq rfl) (hb hby at_197) (fun _ _ => ⟨rfl, e80q, (by decide : 11 + 0 ≤ _), (by decide : 2057 + 0 ≤ _)⟩)
    dsimp only [Pt.U, Pt.locs, Pt.cells, Pt.slots] at X84 l84 y84 z84 st84 hQ84
    subst l84 y84 z84
    obtain ⟨rfl, N84q, e84q⟩ := hQ84
    have N84 := Fr.app N80 N84q
    have pre85 : ∀ t, Steps p.tables e below (T84.setTop (mkF m 202 #[.val (.int p0), .val (.int p1), .val (.int p2), .val (.int (p0 &&& (1023 : Int32))), .val (.ref b1), .val (.int (1 : Int32)), .val (.int (e0_1 p0 p2)), .val (.int (1 : Int32))] [(.int (1 : Int32)), (.int (f3 (1 : Int32) (p0 &&& (1023 : Int32))))])) t → Steps p.tables e below (s₁.setTop (entryFrame m #[(.int p0), (.int p1), (.int p2)] maxLocals)) t := fun t kt => pre83 t (by
        show Steps p.tables e below (T80.setTop (mkF m 191 #[.val (.int p0), .val (.int p1), .val (.int p2), .val (.int (p0 &&& (1023 : Int32))), .val (.ref b1), .val (.int (1 : Int32)), .val (.int (e0_1 p0 p2)), .val (.int (1 : Int32))] [(.int (1 : Int32))])) _
        refine XS.ifNo X80.here hx rfl (hb hby at_191) rfl ((if0 _ _).trans (feq (by decide : ¬ ((1 : Int32) = (0 : Int32)))).1) ?_
        show Steps p.tables e below (T80.setTop (mkF m 194 #[.val (.int p0), .val (.int p1), .val (.int p2), .val (.int (p0 &&& (1023 : Int32))), .val (.ref b1), .val (.int (1 : Int32)), .val (.int (e0_1 p0 p2)), .val (.int (1 : Int32))] [])) _
        refine XS.aload X80.here hx rfl (hb hby at_194) rfl rfl ?_
        show Steps p.tables e below (T80.setTop (mkF m 196 #[.val (.int p0), .val (.int p1), .val (.int p2), .val (.int (p0 &&& (1023 : Int32))), .val (.ref b1), .val (.int (1 : Int32)), .val (.int (e0_1 p0 p2)), .val (.int (1 : Int32))] [(.ref b1)])) _
        refine XS.iconst X80.here hx rfl (hb hby at_196) ?_
        show Steps p.tables e below (T80.setTop (mkF m 197 #[.val (.int p0), .val (.int p1), .val (.int p2), .val (.int (p0 &&& (1023 : Int32))), .val (.ref b1), .val (.int (1 : Int32)), .val (.int (e0_1 p0 p2)), .val (.int (1 : Int32))] [(.int (1 : Int32)), (.ref b1)])) _
        refine st84.trans ?_
        show Steps p.tables e below (T84.setTop (mkF m 200 #[.val (.int p0), .val (.int p1), .val (.int p2), .val (.int (p0 &&& (1023 : Int32))), .val (.ref b1), .val (.int (1 : Int32)), .val (.int (e0_1 p0 p2)), .val (.int (1 : Int32))] [(.int (f3 (1 : Int32) (p0 &&& (1023 : Int32))))])) _
        refine XS.iload X84.here hx rfl (hb hby at_200) rfl ?_
        exact kt)
    have hd202_86 : (f3 (1 : Int32) (p0 &&& (1023 : Int32))) = (1 : Int32) := own_one1 hc31_20
    have pre87 : ∀ t, Steps p.tables e below (T84.setTop (mkF m 214 #[.val (.int p0), .val (.int p1), .val (.int p2), .val (.int (p0 &&& (1023 : Int32))), .val (.ref b1), .val (.int (1 : Int32)), .val (.int (e0_1 p0 p2)), .val (.int (1 : Int32))] [(.int (1 : Int32))])) t → Steps p.tables e below (s₁.setTop (entryFrame m #[(.int p0), (.int p1), (.int p2)] maxLocals)) t := fun t kt => pre85 t (by
        show Steps p.tables e below (T84.setTop (mkF m 202 #[.val (.int p0), .val (.int p1), .val (.int p2), .val (.int (p0 &&& (1023 : Int32))), .val (.ref b1), .val (.int (1 : Int32)), .val (.int (e0_1 p0 p2)), .val (.int (1 : Int32))] [(.int (1 : Int32)), (.int (f3 (1 : Int32) (p0 &&& (1023 : Int32))))])) _
        refine XS.icmpNo X84.here hx rfl (hb hby at_202) rfl (teq hd202_86).2 ?_
        show Steps p.tables e below (T84.setTop (mkF m 205 #[.val (.int p0), .val (.int p1), .val (.int p2), .val (.int (p0 &&& (1023 : Int32))), .val (.ref b1), .val (.int (1 : Int32)), .val (.int (e0_1 p0 p2)), .val (.int (1 : Int32))] [])) _
        refine XS.iconst X84.here hx rfl (hb hby at_205) ?_
        show Steps p.tables e below (T84.setTop (mkF m 206 #[.val (.int p0), .val (.int p1), .val (.int p2), .val (.int (p0 &&& (1023 : Int32))), .val (.ref b1), .val (.int (1 : Int32)), .val (.int (e0_1 p0 p2)), .val (.int (1 : Int32))] [(.int (1 : Int32))])) _
        refine XS.goto X84.here hx rfl (pc0 := 206) (pc' := 210) rfl (hb hby at_206) (by decide) (by decide) ?_
        show Steps p.tables e below (T84.setTop (mkF m 210 #[.val (.int p0), .val (.int p1), .val (.int p2), .val (.int (p0 &&& (1023 : Int32))), .val (.ref b1), .val (.int (1 : Int32)), .val (.int (e0_1 p0 p2)), .val (.int (1 : Int32))] [(.int (1 : Int32))])) _
        refine XS.istore X84.here hx rfl (hb hby at_210) rfl (l' := #[.val (.int p0), .val (.int p1), .val (.int p2), .val (.int (p0 &&& (1023 : Int32))), .val (.ref b1), .val (.int (1 : Int32)), .val (.int (e0_1 p0 p2)), .val (.int (1 : Int32))]) rfl ?_
        show Steps p.tables e below (T84.setTop (mkF m 212 #[.val (.int p0), .val (.int p1), .val (.int p2), .val (.int (p0 &&& (1023 : Int32))), .val (.ref b1), .val (.int (1 : Int32)), .val (.int (e0_1 p0 p2)), .val (.int (1 : Int32))] [])) _
        refine XS.iload X84.here hx rfl (hb hby at_212) rfl ?_
        exact kt)
    obtain ⟨cq88, kq88, q88a, q88b, q88c⟩ := isOf hZ e84q (((((E_b1.ext E4).ext E7).ext E10).ext E13).keep K16q)
    obtain ⟨_, _, ⟨T88, L88, k88, n88⟩, -, X88, ⟨Lc88, hQ88, l88, y88, z88⟩, st88⟩ := X84.virtualBack hx (y := (⟨"com/example/cabweave/cabweave/Network", "contains", "(I)Z"⟩ : MethodName)) (z := (⟨"com/example/cabweave/cabweave/Network", "contains", "(I)Z"⟩ : MethodName)) hown (mvT hZ (hw _ (List.mem_of_getElem? (i := 35) rfl))) (mvT hZ (hw _ (List.mem_of_getElem? (i := 36) rfl))) (notFace_of_selects (args := #[]) (mvT hZ (hw _ (List.mem_of_getElem? (i := 38) rfl)))) (mvT hZ (hw _ (List.mem_of_getElem? (i := 38) rfl))) (mvT hZ (hw _ (List.mem_of_getElem? (i := 37) rfl))) (by decide) (backOf (W := 0) (rm3 l Z a0 hw [] b1 (p0 &&& (1023 : Int32)) (p0 &&& (1023 : Int32)) T16.heap n0 Z18 G16_0) hZ (hw _ (List.mem_of_getElem? (i := 39) rfl)) (hw _ (List.mem_of_getElem? (i := 2) rfl)) (by decide) (by decide)) q88a q88c (g := (mkF m 220 #[.val (.int p0), .val (.int p1), .val (.int p2), .val (.int (p0 &&& (1023 : Int32))), .val (.ref b1), .val (.int (1 : Int32)), .val (.int (e0_1 p0 p2)), .val (.int (1 : Int32))] [(.int (p0 &&& (1023 : Int32))), (.ref b1)])) rfl (by rw [hml]; rfl) (Steps.refl _) (argsL := [(.int (p0 &&& (1023 : Int32)))]) (rest := []) (lenOf pd_0_1 rfl) rfl (by show 2 * 0 + _ ≤ _; exact Nat.le_of_eq rfl) (hb hby at_220) (fun _ _ => ⟨rfl, e84q, (by decide : 11 + 0 ≤ _), (by decide : 2057 + 0 ≤ _)⟩)
    dsimp only [Pt.U, Pt.locs, Pt.cells, Pt.slots] at X88 l88 y88 z88 st88 hQ88
    subst l88 y88 z88
    obtain ⟨rfl, N88q, e88q⟩ := hQ88
    have N88 := Fr.app N84 N88q
    have pre89 : ∀ t, Steps p.tables e below (T88.setTop (mkF m 225 #[.val (.int p0), .val (.int p1), .val (.int p2), .val (.int (p0 &&& (1023 : Int32))), .val (.ref b1), .val (.int (1 : Int32)), .val (.int (e0_1 p0 p2)), .val (.int (1 : Int32))] [(.int (1 : Int32)), (.int (f3 (p0 &&& (1023 : Int32)) (p0 &&& (1023 : Int32))))])) t → Steps p.tables e below (s₁.setTop (entryFrame m #[(.int p0), (.int p1), (.int p2)] maxLocals)) t := fun t kt => pre87 t (by
        show Steps p.tables e below (T84.setTop (mkF m 214 #[.val (.int p0), .val (.int p1), .val (.int p2), .val (.int (p0 &&& (1023 : Int32))), .val (.ref b1), .val (.int (1 : Int32)), .val (.int (e0_1 p0 p2)), .val (.int (1 : Int32))] [(.int (1 : Int32))])) _
        refine XS.ifNo X84.here hx rfl (hb hby at_214) rfl ((if0 _ _).trans (feq (by decide : ¬ ((1 : Int32) = (0 : Int32)))).1) ?_
        show Steps p.tables e below (T84.setTop (mkF m 217 #[.val (.int p0), .val (.int p1), .val (.int p2), .val (.int (p0 &&& (1023 : Int32))), .val (.ref b1), .val (.int (1 : Int32)), .val (.int (e0_1 p0 p2)), .val (.int (1 : Int32))] [])) _
        refine XS.aload X84.here hx rfl (hb hby at_217) rfl rfl ?_
        show Steps p.tables e below (T84.setTop (mkF m 219 #[.val (.int p0), .val (.int p1), .val (.int p2), .val (.int (p0 &&& (1023 : Int32))), .val (.ref b1), .val (.int (1 : Int32)), .val (.int (e0_1 p0 p2)), .val (.int (1 : Int32))] [(.ref b1)])) _
        refine XS.iloadN X84.here hx rfl (hb hby at_219) rfl ?_
        show Steps p.tables e below (T84.setTop (mkF m 220 #[.val (.int p0), .val (.int p1), .val (.int p2), .val (.int (p0 &&& (1023 : Int32))), .val (.ref b1), .val (.int (1 : Int32)), .val (.int (e0_1 p0 p2)), .val (.int (1 : Int32))] [(.int (p0 &&& (1023 : Int32))), (.ref b1)])) _
        refine st88.trans ?_
        show Steps p.tables e below (T88.setTop (mkF m 223 #[.val (.int p0), .val (.int p1), .val (.int p2), .val (.int (p0 &&& (1023 : Int32))), .val (.ref b1), .val (.int (1 : Int32)), .val (.int (e0_1 p0 p2)), .val (.int (1 : Int32))] [(.int (f3 (p0 &&& (1023 : Int32)) (p0 &&& (1023 : Int32))))])) _
        refine XS.iload X88.here hx rfl (hb hby at_223) rfl ?_
        exact kt)
    have hd225_90 : (f3 (p0 &&& (1023 : Int32)) (p0 &&& (1023 : Int32))) = (1 : Int32) := own_self1 hc31_20
    have pre91 : ∀ t, Steps p.tables e below (T88.setTop (mkF m 237 #[.val (.int p0), .val (.int p1), .val (.int p2), .val (.int (p0 &&& (1023 : Int32))), .val (.ref b1), .val (.int (1 : Int32)), .val (.int (e0_1 p0 p2)), .val (.int (1 : Int32))] [(.int (1 : Int32))])) t → Steps p.tables e below (s₁.setTop (entryFrame m #[(.int p0), (.int p1), (.int p2)] maxLocals)) t := fun t kt => pre89 t (by
        show Steps p.tables e below (T88.setTop (mkF m 225 #[.val (.int p0), .val (.int p1), .val (.int p2), .val (.int (p0 &&& (1023 : Int32))), .val (.ref b1), .val (.int (1 : Int32)), .val (.int (e0_1 p0 p2)), .val (.int (1 : Int32))] [(.int (1 : Int32)), (.int (f3 (p0 &&& (1023 : Int32)) (p0 &&& (1023 : Int32))))])) _
        refine XS.icmpNo X88.here hx rfl (hb hby at_225) rfl (teq hd225_90).2 ?_
        show Steps p.tables e below (T88.setTop (mkF m 228 #[.val (.int p0), .val (.int p1), .val (.int p2), .val (.int (p0 &&& (1023 : Int32))), .val (.ref b1), .val (.int (1 : Int32)), .val (.int (e0_1 p0 p2)), .val (.int (1 : Int32))] [])) _
        refine XS.iconst X88.here hx rfl (hb hby at_228) ?_
        show Steps p.tables e below (T88.setTop (mkF m 229 #[.val (.int p0), .val (.int p1), .val (.int p2), .val (.int (p0 &&& (1023 : Int32))), .val (.ref b1), .val (.int (1 : Int32)), .val (.int (e0_1 p0 p2)), .val (.int (1 : Int32))] [(.int (1 : Int32))])) _
        refine XS.goto X88.here hx rfl (pc0 := 229) (pc' := 233) rfl (hb hby at_229) (by decide) (by decide) ?_
        show Steps p.tables e below (T88.setTop (mkF m 233 #[.val (.int p0), .val (.int p1), .val (.int p2), .val (.int (p0 &&& (1023 : Int32))), .val (.ref b1), .val (.int (1 : Int32)), .val (.int (e0_1 p0 p2)), .val (.int (1 : Int32))] [(.int (1 : Int32))])) _
        refine XS.istore X88.here hx rfl (hb hby at_233) rfl (l' := #[.val (.int p0), .val (.int p1), .val (.int p2), .val (.int (p0 &&& (1023 : Int32))), .val (.ref b1), .val (.int (1 : Int32)), .val (.int (e0_1 p0 p2)), .val (.int (1 : Int32))]) rfl ?_
        show Steps p.tables e below (T88.setTop (mkF m 235 #[.val (.int p0), .val (.int p1), .val (.int p2), .val (.int (p0 &&& (1023 : Int32))), .val (.ref b1), .val (.int (1 : Int32)), .val (.int (e0_1 p0 p2)), .val (.int (1 : Int32))] [])) _
        refine XS.iload X88.here hx rfl (hb hby at_235) rfl ?_
        exact kt)
    obtain ⟨cq92, kq92, q92a, q92b, q92c⟩ := isOf hZ e88q (((((E_b1.ext E4).ext E7).ext E10).ext E13).keep K16q)
    obtain ⟨_, _, ⟨T92, L92, k92, n92⟩, -, X92, ⟨Lc92, hQ92, l92, y92, z92⟩, st92⟩ := X88.virtualBack hx (y := (⟨"com/example/cabweave/cabweave/Network", "contains", "(I)Z"⟩ : MethodName)) (z := (⟨"com/example/cabweave/cabweave/Network", "contains", "(I)Z"⟩ : MethodName)) hown (mvT hZ (hw _ (List.mem_of_getElem? (i := 35) rfl))) (mvT hZ (hw _ (List.mem_of_getElem? (i := 36) rfl))) (notFace_of_selects (args := #[]) (mvT hZ (hw _ (List.mem_of_getElem? (i := 38) rfl)))) (mvT hZ (hw _ (List.mem_of_getElem? (i := 38) rfl))) (mvT hZ (hw _ (List.mem_of_getElem? (i := 37) rfl))) (by decide) (backOf (W := 0) (rm3 l Z a0 hw [] b1 ((p0 &&& (1023 : Int32)) + (1 : Int32)) (p0 &&& (1023 : Int32)) T16.heap n0 Z18 G16_0) hZ (hw _ (List.mem_of_getElem? (i := 39) rfl)) (hw _ (List.mem_of_getElem? (i := 2) rfl)) (by decide) (by decide)) q92a q92c (g := (mkF m 245 #[.val (.int p0), .val (.int p1), .val (.int p2), .val (.int (p0 &&& (1023 : Int32))), .val (.ref b1), .val (.int (1 : Int32)), .val (.int (e0_1 p0 p2)), .val (.int (1 : Int32))] [(.int ((p0 &&& (1023 : Int32)) + (1 : Int32))), (.ref b1)])) rfl (by rw [hml]; rfl) (Steps.refl _) (argsL := [(.int ((p0 &&& (1023 : Int32)) + (1 : Int32)))]) (rest := []) (lenOf pd_0_1 rfl) rfl (by show 2 * 0 + _ ≤ _; exact Nat.le_of_eq rfl) (hb hby at_245) (fun _ _ => ⟨rfl, e88q, (by decide : 11 + 0 ≤ _), (by decide : 2057 + 0 ≤ _)⟩)
    dsimp only [Pt.U, Pt.locs, Pt.cells, Pt.slots] at X92 l92 y92 z92 st92 hQ92
    subst l92 y92 z92
    obtain ⟨rfl, N92q, e92q⟩ := hQ92
    have N92 := Fr.app N88 N92q
    have pre93 : ∀ t, Steps p.tables e below (T92.setTop (mkF m 248 #[.val (.int p0), .val (.int p1), .val (.int p2), .val (.int (p0 &&& (1023 : Int32))), .val (.ref b1), .val (.int (1 : Int32)), .val (.int (e0_1 p0 p2)), .val (.int (1 : Int32))] [(.int (f3 ((p0 &&& (1023 : Int32)) + (1 : Int32)) (p0 &&& (1023 : Int32))))])) t → Steps p.tables e below (s₁.setTop (entryFrame m #[(.int p0), (.int p1), (.int p2)] maxLocals)) t := fun t kt => pre91 t (by
        show Steps p.tables e below (T88.setTop (mkF m 237 #[.val (.int p0), .val (.int p1), .val (.int p2), .val (.int (p0 &&& (1023 : Int32))), .val (.ref b1), .val (.int (1 : Int32)), .val (.int (e0_1 p0 p2)), .val (.int (1 : Int32))] [(.int (1 : Int32))])) _
        refine XS.ifNo X88.here hx rfl (hb hby at_237) rfl ((if0 _ _).trans (feq (by decide : ¬ ((1 : Int32) = (0 : Int32)))).1) ?_
        show Steps p.tables e below (T88.setTop (mkF m 240 #[.val (.int p0), .val (.int p1), .val (.int p2), .val (.int (p0 &&& (1023 : Int32))), .val (.ref b1), .val (.int (1 : Int32)), .val (.int (e0_1 p0 p2)), .val (.int (1 : Int32))] [])) _
        refine XS.aload X88.here hx rfl (hb hby at_240) rfl rfl ?_
        show Steps p.tables e below (T88.setTop (mkF m 242 #[.val (.int p0), .val (.int p1), .val (.int p2), .val (.int (p0 &&& (1023 : Int32))), .val (.ref b1), .val (.int (1 : Int32)), .val (.int (e0_1 p0 p2)), .val (.int (1 : Int32))] [(.ref b1)])) _
        refine XS.iloadN X88.here hx rfl (hb hby at_242) rfl ?_
        show Steps p.tables e below (T88.setTop (mkF m 243 #[.val (.int p0), .val (.int p1), .val (.int p2), .val (.int (p0 &&& (1023 : Int32))), .val (.ref b1), .val (.int (1 : Int32)), .val (.int (e0_1 p0 p2)), .val (.int (1 : Int32))] [(.int (p0 &&& (1023 : Int32))), (.ref b1)])) _
        refine XS.iconst X88.here hx rfl (hb hby at_243) ?_
        show Steps p.tables e below (T88.setTop (mkF m 244 #[.val (.int p0), .val (.int p1), .val (.int p2), .val (.int (p0 &&& (1023 : Int32))), .val (.ref b1), .val (.int (1 : Int32)), .val (.int (e0_1 p0 p2)), .val (.int (1 : Int32))] [(.int (1 : Int32)), (.int (p0 &&& (1023 : Int32))), (.ref b1)])) _
        refine XS.iadd X88.here hx rfl (hb hby at_244) rfl ?_
        show Steps p.tables e below (T88.setTop (mkF m 245 #[.val (.int p0), .val (.int p1), .val (.int p2), .val (.int (p0 &&& (1023 : Int32))), .val (.ref b1), .val (.int (1 : Int32)), .val (.int (e0_1 p0 p2)), .val (.int (1 : Int32))] [(.int ((p0 &&& (1023 : Int32)) + (1 : Int32))), (.ref b1)])) _
        refine st92.trans ?_
        exact kt)
    have hd248_94 : (f3 ((p0 &&& (1023 : Int32)) + (1 : Int32)) (p0 &&& (1023 : Int32))) = (0 : Int32) := own_next (own_m1023 _)
    obtain ⟨fs, hr, hrun, hended, hW, hsame⟩ := X92.leave (v := some (.int (1 : Int32))) (fun h => by rw [Bd.returns] at h; cases h)
    have hv96 : (1 : Int32) = (1 : Int32) := rfl
    refine ⟨_, _, pre93 _ ?_, hrun, hended, _, _, rfl, ?_, ⟨_, rfl⟩, hW, hsame.mono (by decide) (by decide)⟩
    · show Steps p.tables e below (T92.setTop (mkF m 248 #[.val (.int p0), .val (.int p1), .val (.int p2), .val (.int (p0 &&& (1023 : Int32))), .val (.ref b1), .val (.int (1 : Int32)), .val (.int (e0_1 p0 p2)), .val (.int (1 : Int32))] [(.int (f3 ((p0 &&& (1023 : Int32)) + (1 : Int32)) (p0 &&& (1023 : Int32))))])) _
      refine XS.ifNo X92.here hx rfl (hb hby at_248) rfl ((if0 _ _).trans (teq hd248_94).2) ?_
      show Steps p.tables e below (T92.setTop (mkF m 251 #[.val (.int p0), .val (.int p1), .val (.int p2), .val (.int (p0 &&& (1023 : Int32))), .val (.ref b1), .val (.int (1 : Int32)), .val (.int (e0_1 p0 p2)), .val (.int (1 : Int32))] [])) _
      refine XS.iconst X92.here hx rfl (hb hby at_251) ?_
      show Steps p.tables e below (T92.setTop (mkF m 252 #[.val (.int p0), .val (.int p1), .val (.int p2), .val (.int (p0 &&& (1023 : Int32))), .val (.ref b1), .val (.int (1 : Int32)), .val (.int (e0_1 p0 p2)), .val (.int (1 : Int32))] [(.int (1 : Int32))])) _
      refine XS.goto X92.here hx rfl (pc0 := 252) (pc' := 256) rfl (hb hby at_252) (by decide) (by decide) ?_
      show Steps p.tables e below (T92.setTop (mkF m 256 #[.val (.int p0), .val (.int p1), .val (.int p2), .val (.int (p0 &&& (1023 : Int32))), .val (.ref b1), .val (.int (1 : Int32)), .val (.int (e0_1 p0 p2)), .val (.int (1 : Int32))] [(.int (1 : Int32))])) _
      refine XS.istore X92.here hx rfl (hb hby at_256) rfl (l' := #[.val (.int p0), .val (.int p1), .val (.int p2), .val (.int (p0 &&& (1023 : Int32))), .val (.ref b1), .val (.int (1 : Int32)), .val (.int (e0_1 p0 p2)), .val (.int (1 : Int32))]) rfl ?_
      show Steps p.tables e below (T92.setTop (mkF m 258 #[.val (.int p0), .val (.int p1), .val (.int p2), .val (.int (p0 &&& (1023 : Int32))), .val (.ref b1), .val (.int (1 : Int32)), .val (.int (e0_1 p0 p2)), .val (.int (1 : Int32))] [])) _
      refine XS.iload X92.here hx rfl (hb hby at_258) rfl ?_
      show Steps p.tables e below (T92.setTop (mkF m 260 #[.val (.int p0), .val (.int p1), .val (.int p2), .val (.int (p0 &&& (1023 : Int32))), .val (.ref b1), .val (.int (1 : Int32)), .val (.int (e0_1 p0 p2)), .val (.int (1 : Int32))] [(.int (1 : Int32))])) _
      exact retN X92 hx (t := .boolean) Bd.returns (by simp) (hb hby at_260) hr
    · show Q0 Z p0 p1 p2 h0 n0 _ T92.heap _
      rw [e92q]
      exact ⟨congrArg (fun q => some (Value.int q)) hv96, N92⟩
set_option maxRecDepth 65536 in
set_option maxHeartbeats 40000000 in
theorem comes_1 {Post : Tables → Env → Array Value → State → Outcome → State → Prop} (hpost : ∀ tb e args s v u, (limb_1_1.after args s (.returned v) u = true ∧ limb_1_2.after args s (.returned v) u = true ∧ True) → FrameEnd s (.returned v) u (Jvm.fieldLocs frame_1_writes args s ++ Jvm.arrayLocs frame_1_arrays args s ++ Jvm.staticLocs frame_1_statics s) 32 4224 → Post tb e args s (.returned v) u) :
    ArmFor flags0 classFile x code maxLocals ret World_1 tables_1 room_1 Calls_1 rest_1 Pre_1 Post := by
  intro l hfl _ _ p e ha hc hk s m args below hf hA hF happ hP
  obtain ⟨hcalls, hrest, hpre⟩ := hP
  obtain ⟨-, -, -, hnamed, -, -, -, hat⟩ := (Spec.applies_iff hf).mp happ
  obtain ⟨hg, hn⟩ := and_e (Cond.before_iff.mp (show (Jvm.Cond.and given_1 narrow_1).before args s = true from hpre))
  obtain ⟨g1, g2⟩ := and_e hg
  obtain ⟨g3, g4⟩ := and_e g2
  obtain ⟨g5, g6⟩ := and_e g4
  obtain ⟨w0, w1, w2, rfl⟩ : ∃ w0 w1 w2 : Value, args = #[w0, w1, w2] := by
    have hs : args.size = 3 := by simpa [Cond.value, given_1] using g1
    obtain ⟨L⟩ := args
    match L, hs with
    | [w0, w1, w2], _ => exact ⟨w0, w1, w2, rfl⟩
  have hw := fun d (hd : d ∈ tables_1) => atoms_spec (ws := Jvm.Cond.code x code maxLocals ret :: tables_1) hat d (List.mem_cons_of_mem _ hd)
  have hfit : Fit s := fun {y c} hc i hi => by
    obtain ⟨ha, rfl⟩ := Array.getElem?_eq_some_iff.mp hc
    have q := List.all_eq_true.mp ((Array.all_eq_true_iff_forall_mem.mp hF) _ (Array.getElem_mem ha)) i (List.mem_range.mpr hi)
    simpa [Array.getElem?_eq_getElem hi] using q
  obtain ⟨i0, ei0⟩ := is_v g3
  obtain rfl : w0 = (.int i0) := Option.some.inj ei0
  obtain ⟨i1, ei1⟩ := is_v g5
  obtain rfl : w1 = (.int i1) := Option.some.inj ei1
  obtain ⟨i2, ei2⟩ := is_v g6
  obtain rfl : w2 = (.int i2) := Option.some.inj ei2
  obtain ⟨n, o, h1, h2, h3, _, L, rfl, ⟨hv0, N⟩, hq⟩ := rm0 l s _ hw tables_1 i0 i1 i2 s.heap s.heap.size (Nat.le_refl _) p e ha hc hk s m _ below hf ((Spec.applies_iff_loose hf).mp happ).1 ⟨rfl, State.Warmed39.refl s, rfl⟩ trivial
  subst hv0
  refine ⟨n, _, h1, h2, h3, hpost _ _ _ _ _ _ ⟨Cond.after_iff.mpr rfl, Cond.after_iff.mpr (eq_i res_at (Term.int_eval (1)) rfl), trivial⟩ ⟨hq.1, hq.2.1, (hq.2.2.sift fun y hy => Or.inr (N y hy)).mono (by decide) (by decide)⟩⟩
theorem main_1_1 : Claimed_1_1 := comes_1 fun _ _ _ _ _ _ h hF => ⟨h.1, hF⟩
theorem main_1_2 : Claimed_1_2 := comes_1 fun _ _ _ _ _ _ h hF => ⟨h.2.1, hF⟩
end Jvm.Pilot.@@N@@
namespace Jvm.Pilot.@@N@@
open Jvm Jvm.ClassFile Sem Op Lib Jvm.Free Jvm.Stand Jvm.Pilot.@@N@@.Jvm.D
/-! MADE BY PROGRAM (witnessworld.py) out of the Statement's table words and the real class files: 9 classes; the members and pool entries that the words name. The judged class is class 1, her method 2. -/
namespace start1
open Jvm.ClassFile
def u (s : String) : CpInfo := .utf8 (stringToUtf16 s)
/-- a pool by its gaps: so many unusable entries, then the entry; so many at the end -/
def gap : Nat → List CpInfo → List CpInfo
  | 0, r => r
  | n + 1, r => .unusable :: gap n r
def poolList (es : List (Nat × CpInfo)) (last : Nat) : List CpInfo := es.foldr (fun e r => gap e.1 (e.2 :: r)) (gap last [])
def pool (es : List (Nat × CpInfo)) (last : Nat) : Array CpInfo := ⟨poolList es last⟩
def fileOf (pool : Array CpInfo) (this : Nat) (attrs : Array Attribute := #[]) (ms : Array MethodInfo := #[]) (fl : Nat := 33) (sup : Nat := 0) (ifs : Array Nat := #[]) (fds : Array FieldInfo := #[]) : ClassFile where
  minorVersion := 0
  majorVersion := 65
  constantPool := pool
  accessFlags := fl
  thisClass := this
  superClass := sup
  interfaces := ifs
  fields := fds
  methods := ms
  attributes := attrs
def plain (name : String) (sup : Option ClassId) : Class where
  name := name
  kind := .ordinary
  loader := none
  accessFlags := 33
  super := sup
  interfaces := #[]
  cf := none
  fields := #[]
  methods := #[]
  instanceTypes := #[]
  staticTypes := #[]
  resolved := #[]
  callSites := []
  init := .initialized
  statics := none
  mirror := none

def pool0 : Array CpInfo := pool [(5, u "<init>"), (0, u "()V"), (1, .class_ 10), (1, u "java/lang/Object"), (85, u "clone"), (0, u "()Ljava/lang/Object;")] 26

def k0c0 : Code := { maxStack := 0, maxLocals := 1, code := object_method_1_code, exceptionTable := #[], attributes := #[] }
def k0m0 : Method := { name := "<init>", desc := "()V", sig := { parameters := [], returnType := none }, accessFlags := 1, code := some k0c0 }
def k0m1 : Method := { name := "clone", desc := "()Ljava/lang/Object;", sig := { parameters := [], returnType := some (.object "java/lang/Object") }, accessFlags := 260, code := none }
/-- java/lang/Object -/
def k0 : Class := { plain "java/lang/Object" none with
  accessFlags := 33
  interfaces := #[]
  cf := some (fileOf pool0 8 #[] #[{ accessFlags := 1, nameIndex := 5, descriptorIndex := 6, attributes := #[] }, { accessFlags := 260, nameIndex := 96, descriptorIndex := 97, attributes := #[] }] 33 0 #[] #[])
  fields := #[]
  methods := #[k0m0, k0m1]
  instanceTypes := #[]
  staticTypes := #[]
  resolved := Array.replicate 124 none
  statics := none }

def pool1 : Array CpInfo := pool [(2, .class_ 4), (1, u "java/lang/Object"), (0, u "<init>"), (0, u "()V"), (0, .class_ 8), (0, u "com/example/cabweave/cabweave/Network"), (0, .methodref 7 10), (0, .nameAndType 5 11), (0, u "(II[I[I[D[D)V"), (0, .methodref 7 13), (0, .nameAndType 14 15), (0, u "contains"), (0, u "(I)Z"), (0, .methodref 17 18), (0, .class_ 19), (0, .nameAndType 20 21), (0, u "com/example/cabweave/cabweave/NetworkContainsPinLaw"), (0, u "inRange"), (0, u "(JJ)Z"), (2, .integer 2147483648), (0, .integer 2147483647), (3, u "law"), (0, u "(III)Z")] 2

def k1m0 : Method := { name := "<init>", desc := "()V", sig := { parameters := [], returnType := none }, accessFlags := 1, code := none }
def k1c1 : Code := { maxStack := 4, maxLocals := 6, code := method_2_code, exceptionTable := #[], attributes := #[] }
def k1m1 : Method := { name := "inRange", desc := "(JJ)Z", sig := { parameters := [.long, .long], returnType := some .boolean }, accessFlags := 10, code := some k1c1 }
def k1c2 : Code := { maxStack := 8, maxLocals := 8, code := code, exceptionTable := #[], attributes := #[] }
def k1m2 : Method := { name := "law", desc := "(III)Z", sig := { parameters := [.int, .int, .int], returnType := some .boolean }, accessFlags := 9, code := some k1c2 }
/-- com/example/cabweave/cabweave/NetworkContainsPinLaw -/
def k1 : Class := { plain "com/example/cabweave/cabweave/NetworkContainsPinLaw" (some 0) with
  accessFlags := 49
  interfaces := #[]
  cf := some (fileOf pool1 17 #[] #[{ accessFlags := 1, nameIndex := 5, descriptorIndex := 6, attributes := #[] }, { accessFlags := 10, nameIndex := 20, descriptorIndex := 21, attributes := #[] }, { accessFlags := 9, nameIndex := 29, descriptorIndex := 30, attributes := #[] }] 49 2 #[] #[])
  fields := #[]
  methods := #[k1m0, k1m1, k1m2]
  instanceTypes := #[]
  staticTypes := #[]
  resolved := Array.replicate 33 none
  statics := none }

def pool2 : Array CpInfo := pool [(1, .methodref 2 3), (0, .class_ 4), (0, .nameAndType 5 6), (0, u "java/lang/Object"), (0, u "<init>"), (0, u "()V"), (2, .integer 2147483645), (11, .fieldref 22 23), (0, .class_ 24), (0, .nameAndType 25 26), (0, u "com/example/cabweave/cabweave/Network"), (0, u "nodeCount"), (0, u "I"), (0, .fieldref 22 28), (0, .nameAndType 29 26), (0, u "firstThruNode"), (0, .fieldref 22 31), (0, .nameAndType 32 33), (0, u "firstOut"), (0, u "[I"), (5, u "length"), (5, u "time"), (0, .fieldref 22 47), (0, .nameAndType 48 33), (0, u "tail"), (0, .fieldref 22 50), (0, .nameAndType 51 33), (0, u "head"), (0, .fieldref 22 53), (0, .nameAndType 39 54), (0, u "[D"), (0, .fieldref 22 56), (0, .nameAndType 45 54), (0, .methodref 58 59), (0, .class_ 33), (0, .nameAndType 60 61), (0, u "clone"), (0, u "()Ljava/lang/Object;"), (2, u "contains"), (0, u "(I)Z"), (8, u "(II[I[I[D[D)V")] 32

def k2c0 : Code := { maxStack := 6, maxLocals := 11, code := prog_22_method_1_code, exceptionTable := #[], attributes := #[] }
def k2m0 : Method := { name := "<init>", desc := "(II[I[I[D[D)V", sig := { parameters := [.int, .int, (.array .int), (.array .int), (.array .double), (.array .double)], returnType := none }, accessFlags := 1, code := some k2c0 }
def k2c1 : Code := { maxStack := 2, maxLocals := 2, code := prog_22_method_7_code, exceptionTable := #[], attributes := #[] }
def k2m1 : Method := { name := "contains", desc := "(I)Z", sig := { parameters := [.int], returnType := some .boolean }, accessFlags := 1, code := some k2c1 }
/-- com/example/cabweave/cabweave/Network -/
def k2 : Class := { plain "com/example/cabweave/cabweave/Network" (some 0) with
  accessFlags := 49
  interfaces := #[]
  cf := some (fileOf pool2 22 #[] #[{ accessFlags := 1, nameIndex := 5, descriptorIndex := 74, attributes := #[] }, { accessFlags := 1, nameIndex := 64, descriptorIndex := 65, attributes := #[] }] 49 2 #[] #[{ accessFlags := 18, nameIndex := 25, descriptorIndex := 26, attributes := #[] }, { accessFlags := 18, nameIndex := 29, descriptorIndex := 26, attributes := #[] }, { accessFlags := 18, nameIndex := 32, descriptorIndex := 33, attributes := #[] }, { accessFlags := 18, nameIndex := 48, descriptorIndex := 33, attributes := #[] }, { accessFlags := 18, nameIndex := 51, descriptorIndex := 33, attributes := #[] }, { accessFlags := 18, nameIndex := 39, descriptorIndex := 54, attributes := #[] }, { accessFlags := 18, nameIndex := 45, descriptorIndex := 54, attributes := #[] }])
  fields := #[{ name := "nodeCount", type := .int, accessFlags := 18, slot := 0, constantValue := 0 }, { name := "firstThruNode", type := .int, accessFlags := 18, slot := 1, constantValue := 0 }, { name := "firstOut", type := (.array .int), accessFlags := 18, slot := 2, constantValue := 0 }, { name := "tail", type := (.array .int), accessFlags := 18, slot := 3, constantValue := 0 }, { name := "head", type := (.array .int), accessFlags := 18, slot := 4, constantValue := 0 }, { name := "length", type := (.array .double), accessFlags := 18, slot := 5, constantValue := 0 }, { name := "time", type := (.array .double), accessFlags := 18, slot := 6, constantValue := 0 }]
  methods := #[k2m0, k2m1]
  instanceTypes := #[.int, .int, (.array .int), (.array .int), (.array .int), (.array .double), (.array .double)]
  staticTypes := #[]
  resolved := Array.replicate 107 none
  statics := none }

def pool3 : Array CpInfo := pool [(1, .class_ 2), (0, u "java/lang/Cloneable"), (0, .class_ 4), (0, u "java/lang/Object")] 2

/-- java/lang/Cloneable -/
def k3 : Class := { plain "java/lang/Cloneable" (some 0) with
  accessFlags := 1537
  interfaces := #[]
  cf := some (fileOf pool3 1 #[] #[] 1537 3 #[] #[])
  fields := #[]
  methods := #[]
  instanceTypes := #[]
  staticTypes := #[]
  resolved := Array.replicate 7 none
  statics := none }

def pool4 : Array CpInfo := pool [(1, u "java/io/Serializable"), (0, .class_ 1), (0, u "java/lang/Object"), (0, .class_ 3)] 3

/-- java/io/Serializable -/
def k4 : Class := { plain "java/io/Serializable" (some 0) with
  accessFlags := 1537
  interfaces := #[]
  cf := some (fileOf pool4 2 #[] #[] 1537 4 #[] #[])
  fields := #[]
  methods := #[]
  instanceTypes := #[]
  staticTypes := #[]
  resolved := Array.replicate 8 none
  statics := none }

/-- the primitive byte -/
def k5 : Class := { plain "byte" none with kind := .primitive 'B', accessFlags := 0x411 }
/-- [B -/
def k6 : Class := { plain "[B" (some 0) with kind := .array 5 .byte, interfaces := #[3, 4], accessFlags := 1041 }

/-- the primitive int -/
def k7 : Class := { plain "int" none with kind := .primitive 'I', accessFlags := 0x411 }
/-- [I -/
def k8 : Class := { plain "[I" (some 0) with kind := .array 7 .int, interfaces := #[3, 4], accessFlags := 1041 }

/-- the primitive double -/
def k9 : Class := { plain "double" none with kind := .primitive 'D', accessFlags := 0x411 }
/-- [D -/
def k10 : Class := { plain "[D" (some 0) with kind := .array 9 .double, interfaces := #[3, 4], accessFlags := 1041 }

def heap : Heap := #[]
def classes : Array Class := #[k0, k1, k2, k3, k4, k5, k6, k7, k8, k9, k10]
def interned : List (Array UInt16 × Addr) := []
def slotsUsed : Nat := 0
def theMethod : MethodId := ⟨1, 2⟩
def args0 : Array Value := #[.int 5, .int 9, .int 3]
def aboutOver (below : List Frame) : State where
  vm := { classes := classes, interned := interned.toArray }
  heap := heap
  slotsUsed := slotsUsed
  threads := #[{ frames := .invoking theMethod args0 :: below }]
def below0 : List Frame := [.native { method := ⟨0, 0⟩, args := #[] }]
def about1 : State := aboutOver below0
def p0 : Program := .bare "" "" ""
def e0 : Env := launch0.env 0 0 0
theorem w_frames : about1.frames = Frame.invoking theMethod args0 :: below0 := rfl
set_option maxRecDepth 65536 in
theorem w_args : argsFit about1.vm theMethod args0 = true := by decide +kernel
set_option maxRecDepth 65536 in
theorem w_heap : heapFits about1 = true := by decide +kernel
set_option maxRecDepth 65536 in
theorem w_runnable : about1.curStatus? = some .runnable := by decide +kernel
set_option maxRecDepth 65536 in
theorem w_alone : about1.alone = true := by decide +kernel
set_option maxRecDepth 65536 in
theorem w_named : about1.methodNamed? x = some theMethod := by decide +kernel
set_option maxRecDepth 65536 in
theorem w_hears : about1.hears theMethod below0 = true := by decide +kernel
set_option maxRecDepth 65536 in
theorem w_ripe : about1.ripe theMethod args0 below0 = true := by decide +kernel
theorem w_running : about1.status = .running := rfl
set_option maxRecDepth 65536 in
theorem w_room : about1.hasRoom e0.platform room_1 = true :=
  launch0.hasRoom_least _ room_1 (by decide +kernel) (by decide +kernel) (by decide +kernel) (by decide +kernel) (by decide +kernel) (by decide +kernel)
theorem allAtoms_all (ts : List Jvm.Cond) (a : Array Jvm.Value) (st : Jvm.State) : (allAtoms ts).before a st = ts.all (fun c => c.before a st) := by
  induction ts with
  | nil => rfl
  | cons c t ih =>
    show (Jvm.Cond.and c (allAtoms t)).before a st = _
    rw [Jvm.Cond.before_and, ih, List.all_cons]
def words1 : List Jvm.Cond := Jvm.Cond.code x code maxLocals ret :: tables_1
/-- a 'code' word, met by the world's own term for the bytes: nothing is compared byte by byte -/
theorem code_word {y : MethodName} {bytes : ByteArray} {mx : Nat} {rt : Option FieldType} {a : Array Value} {s : State} {m : MethodId} {meth : Method} {c : Code} (h1 : s.methodNamed? y = some m) (h2 : s.vm.method? m = some meth) (h3 : meth.code = some c) (h4 : c.code = bytes)
    (h5 : (c.maxLocals == mx && c.exceptionTable.isEmpty && decide (c.maxStack ≤ mostOperands) && decide (meth.sig.returnType = rt) && !meth.locks && decide (parseMethodDescriptor y.desc = some meth.sig)) = true) : (Jvm.Cond.code y bytes mx rt).before a s = true := by
  simp only [Bool.and_eq_true, beq_iff_eq, Bool.not_eq_true', decide_eq_true_eq] at h5
  obtain ⟨⟨⟨⟨⟨g1, g2⟩, g3⟩, g4⟩, g5⟩, g6⟩ := h5
  simp [Cond.before, Cond.holds, Cond.value, h1, h2, h3, h4, g1, g2, g3, g4, g5, g6]
def isCode : Jvm.Cond → Bool
  | .code _ _ _ _ => true
  | _ => false
theorem all_split {L : List Jvm.Cond} {P : Jvm.Cond → Bool} (h1 : L.all (fun c => isCode c || P c) = true) (h2 : ∀ c ∈ L.filter isCode, P c = true) : L.all P = true := by
  refine List.all_eq_true.mpr fun c hc => ?_
  have h := List.all_eq_true.mp h1 c hc
  rcases Bool.eq_false_or_eq_true (isCode c) with hi | hi
  · exact h2 c (List.mem_filter.mpr ⟨hc, hi⟩)
  · simpa [hi] using h
set_option maxRecDepth 65536 in
theorem w_c0 : (Jvm.Cond.code x code maxLocals ret).before args0 about1 = true := code_word (m := ⟨1, 2⟩) (meth := k1m2) (c := k1c2) (by decide +kernel) rfl rfl rfl (by decide +kernel)
set_option maxRecDepth 65536 in
theorem w_c1 : (Jvm.Cond.code ({ cls := "com/example/cabweave/cabweave/Network", name := "<init>", desc := "(II[I[I[D[D)V" } : Jvm.MethodName) prog_22_method_1_code (11 : Nat) (Option.none : Option Jvm.ClassFile.FieldType)).before args0 about1 = true := code_word (m := ⟨2, 0⟩) (meth := k2m0) (c := k2c0) (by decide +kernel) rfl rfl rfl (by decide +kernel)
set_option maxRecDepth 65536 in
theorem w_c2 : (Jvm.Cond.code ({ cls := "java/lang/Object", name := "<init>", desc := "()V" } : Jvm.MethodName) object_method_1_code (1 : Nat) (Option.none : Option Jvm.ClassFile.FieldType)).before args0 about1 = true := code_word (m := ⟨0, 0⟩) (meth := k0m0) (c := k0c0) (by decide +kernel) rfl rfl rfl (by decide +kernel)
set_option maxRecDepth 65536 in
theorem w_c3 : (Jvm.Cond.code ({ cls := "com/example/cabweave/cabweave/Network", name := "contains", desc := "(I)Z" } : Jvm.MethodName) prog_22_method_7_code (2 : Nat) (Option.some Jvm.ClassFile.FieldType.boolean)).before args0 about1 = true := code_word (m := ⟨2, 1⟩) (meth := k2m1) (c := k2c1) (by decide +kernel) rfl rfl rfl (by decide +kernel)
set_option maxRecDepth 65536 in
theorem w_c4 : (Jvm.Cond.code ({ cls := "com/example/cabweave/cabweave/NetworkContainsPinLaw", name := "inRange", desc := "(JJ)Z" } : Jvm.MethodName) method_2_code (6 : Nat) (Option.some Jvm.ClassFile.FieldType.boolean)).before args0 about1 = true := code_word (m := ⟨1, 1⟩) (meth := k1m1) (c := k1c1) (by decide +kernel) rfl rfl rfl (by decide +kernel)
def codes1 : List Jvm.Cond := [Jvm.Cond.code x code maxLocals ret, Jvm.Cond.code ({ cls := "com/example/cabweave/cabweave/Network", name := "<init>", desc := "(II[I[I[D[D)V" } : Jvm.MethodName) prog_22_method_1_code (11 : Nat) (Option.none : Option Jvm.ClassFile.FieldType), Jvm.Cond.code ({ cls := "java/lang/Object", name := "<init>", desc := "()V" } : Jvm.MethodName) object_method_1_code (1 : Nat) (Option.none : Option Jvm.ClassFile.FieldType), Jvm.Cond.code ({ cls := "com/example/cabweave/cabweave/Network", name := "contains", desc := "(I)Z" } : Jvm.MethodName) prog_22_method_7_code (2 : Nat) (Option.some Jvm.ClassFile.FieldType.boolean), Jvm.Cond.code ({ cls := "com/example/cabweave/cabweave/NetworkContainsPinLaw", name := "inRange", desc := "(JJ)Z" } : Jvm.MethodName) method_2_code (6 : Nat) (Option.some Jvm.ClassFile.FieldType.boolean)]
set_option maxRecDepth 65536 in
theorem codes_eq : words1.filter isCode = codes1 := rfl
theorem w_codes : ∀ c ∈ words1.filter isCode, c.before args0 about1 = true := by
  rw [codes_eq]
  intro c hc
  simp only [codes1, List.mem_cons, List.not_mem_nil, or_false] at hc
  rcases hc with rfl | rfl | rfl | rfl | rfl
  · exact w_c0
  · exact w_c1
  · exact w_c2
  · exact w_c3
  · exact w_c4
set_option maxRecDepth 65536 in
theorem w_t1 : (words1.take 24).all (fun c => isCode c || c.before args0 about1) = true := by decide +kernel
set_option maxRecDepth 65536 in
theorem w_t2 : (words1.drop 24).all (fun c => isCode c || c.before args0 about1) = true := by decide +kernel
theorem w_tables : (allAtoms (Jvm.Cond.code x code maxLocals ret :: tables_1)).before args0 about1 = true := by
  rw [allAtoms_all]
  show words1.all (fun c => c.before args0 about1) = true
  refine all_split ?_ w_codes
  rw [← List.take_append_drop 24 words1, List.all_append, w_t1, w_t2]
  rfl
set_option maxRecDepth 65536 in
theorem w_case : (Jvm.Cond.and given_1 narrow_1).before args0 about1 = true := by decide +kernel
theorem w_applies : (headSpec (Jvm.Cond.code x code maxLocals ret :: tables_1) room_1).applies x e0.platform about1 = true :=
  (Spec.applies_iff w_frames).mpr ⟨w_running, w_runnable, w_alone, w_named, w_hears, w_ripe, w_room, w_tables⟩
theorem atStart : AtStart classFile x code maxLocals ret World_1 tables_1 room_1 Calls_1 rest_1 Pre_1 launch0 p0 e0 about1 theMethod args0 below0 :=
  ⟨lists_1, trivial, launch0.admits_env _ _ _, launch0.least_env, fairChoices_fair.cas, fairChoices_fair.clock, w_frames, w_args, w_heap, w_applies, trivial, trivial, w_case⟩
end start1
theorem witness_1 : WitnessClaimed_1 := ⟨start1.p0, start1.e0, start1.about1, start1.theMethod, start1.args0, start1.below0, start1.atStart⟩
end Jvm.Pilot.@@N@@
