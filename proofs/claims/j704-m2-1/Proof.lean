import JvmDerived
import JvmDerived.Pilot.@@N@@Statement
import JvmDerived.Pilot.@@N@@Code
set_option linter.unusedVariables false
set_option linter.unusedSimpArgs false
namespace Jvm.RoadKit
open Sem ClassFile Op Lib Jvm.Stand Jvm.Free Jvm.LawKit
section New
variable {p : Program} {l : Launch} {e : Env} {R : Room} {s : State} {m : MethodId} {args : Array Value} {below : List Frame} {meth : Method} {c : Code} {T : State} {locs : List Loc} {cells slots : Nat}
theorem retI (X : Stand p l e R s m args below meth c T locs cells slots) (hx : p.tables.exec = Jvm.exec) {pc : Nat} {Ls : Array Slot} {z : Int32} {rest : List Value} (hret : meth.sig.returnType = some .int) (hd : decode c.code pc = .ok (.ireturn, 1)) {fs : List Frame}
    (hl : ∀ (f : JFrame) (acts : List Action), f.method = m → f.locked = none → f.entered = [] → (doReturn e (T.setTop f) acts (some (.int z))).1 = T.setFrames fs) : Steps p.tables e below (T.setTop (mkF m pc Ls (.int z :: rest))) (T.setFrames fs) := by
  have hm' : T.vm.method? m = some meth := X.method'
  have hn : narrow .int (.int z) = .int z := rfl
  show Steps p.tables e below (T.setTop { method := m, pc := pc, locals := Ls, stack := _ :: rest, locked := none }) _
  jvm_step X.here [X.here.top, hx, hd, hm', hret, hn]
  first | (intro acts; rw [hl _ acts rfl rfl rfl]) | rw [hl _ _ rfl rfl rfl]
  exact Steps.refl _
end New
end Jvm.RoadKit
namespace Jvm.FP.Core
theorem own_qmin : b64.qmin = -1074 := by decide +kernel
/-- the magnitude of A / B, rounded, in the least number's units -/
def own_z (A B : Nat) : Nat := zmag b64 (roundRatio b64 false A B 0)
theorem own_zmag_neg (d : Datum) : zmag b64 (negate d) = zmag b64 d := by cases d <;> rfl
theorem own_zs (s : Bool) (A B : Nat) : zmag b64 (roundRatio b64 s A B 0) = own_z A B := by
  cases s
  · rfl
  · rw [show roundRatio b64 true A B 0 = negate (roundRatio b64 false A B 0) from (negate_roundRatio b64 false A B 0).symm, own_zmag_neg]; rfl
theorem own_fin {A B : Nat} (hB : 0 < B) (hA : A ≤ B * 2 ^ 100) : ∃ c q, roundRatio b64 false A B 0 = .fin false c q ∧ c < 2 ^ 53 ∧ b64.qmin ≤ q := by
  rcases roundRatio_cases b64 false A B 0 with ⟨c, q, h⟩ | h
  · have hf := roundRatio_fits good_b64 false A hB 0
    rw [h] at hf
    exact ⟨c, q, h, hf.1, hf.2.1⟩
  · exfalso
    have hV : fits b64 (.fin false (2 ^ 52) 48) := by unfold fits; decide +kernel
    have hl := zmag_roundRatio_le good_b64 (s := false) (A := A) (B := B) (e := 0) (e0 := b64.qmin) hB hV (by decide) (Int.le_refl _) (by rw [own_qmin]; decide) (by
      have e1 : inUnits A 0 b64.qmin = A * 2 ^ 1074 := by rw [own_qmin]; unfold inUnits; rw [show ((0 : Int) - -1074).toNat = 1074 from by decide]
      have e2 : zmag b64 (.fin false (2 ^ 52) 48) = 2 ^ 100 * 2 ^ 1074 := by decide +kernel
      rw [e1, e2, Int.sub_self, show ((0 : Int).toNat) = 0 from rfl, Nat.pow_zero, Nat.mul_one]
      calc A * 2 ^ 1074 ≤ B * 2 ^ 100 * 2 ^ 1074 := Nat.mul_le_mul_right _ hA
        _ = 2 ^ 100 * 2 ^ 1074 * B := by rw [Nat.mul_assoc, Nat.mul_comm])
    rw [h] at hl
    exact absurd hl (by decide +kernel)
theorem own_best {A B : Nat} (hB : 0 < B) (hA : A ≤ B * 2 ^ 100) {c' : Nat} {q' : Int} (hc : c' < 2 ^ 53) (hq : b64.qmin ≤ q') :
    (((A * 2 ^ 1074 : Nat) : Int) - ((own_z A B * B : Nat) : Int)).natAbs ≤ (((A * 2 ^ 1074 : Nat) : Int) - ((inUnits c' q' b64.qmin * B : Nat) : Int)).natAbs := by
  obtain ⟨c, q, h, -, -⟩ := own_fin hB hA
  have hd := roundRatio_nearest good_b64 (e0 := b64.qmin) hB h hc hq (Int.le_refl _) (by rw [own_qmin]; decide)
  have e1 : inUnits A 0 b64.qmin = A * 2 ^ 1074 := by rw [own_qmin]; unfold inUnits; rw [show ((0 : Int) - -1074).toNat = 1074 from by decide]
  have e2 : inUnits c q b64.qmin = own_z A B := by unfold own_z; rw [h]; rfl
  unfold distance at hd
  rw [e1, e2, ← Int.natCast_mul, ← Int.natCast_mul] at hd
  exact hd
theorem own_le {A B : Nat} (hB : 0 < B) (hA : A ≤ B * 2 ^ 100) {c' : Nat} {q' : Int} (hc : c' < 2 ^ 53) (hq : b64.qmin ≤ q') (h : A * 2 ^ 1074 ≤ inUnits c' q' b64.qmin * B) : own_z A B ≤ inUnits c' q' b64.qmin := by
  have hb := own_best hB hA hc hq
  refine Nat.le_of_not_lt fun hlt => ?_
  have h1 : inUnits c' q' b64.qmin * B < own_z A B * B := Nat.mul_lt_mul_of_pos_right hlt hB
  generalize own_z A B * B = x at *
  generalize inUnits c' q' b64.qmin * B = y at *
  generalize A * 2 ^ 1074 = a at *
  omega
theorem own_ge {A B : Nat} (hB : 0 < B) (hA : A ≤ B * 2 ^ 100) {c' : Nat} {q' : Int} (hc : c' < 2 ^ 53) (hq : b64.qmin ≤ q') (h : inUnits c' q' b64.qmin * B ≤ A * 2 ^ 1074) : inUnits c' q' b64.qmin ≤ own_z A B := by
  have hb := own_best hB hA hc hq
  refine Nat.le_of_not_lt fun hlt => ?_
  have h1 : own_z A B * B < inUnits c' q' b64.qmin * B := Nat.mul_lt_mul_of_pos_right hlt hB
  generalize own_z A B * B = x at *
  generalize inUnits c' q' b64.qmin * B = y at *
  generalize A * 2 ^ 1074 = a at *
  omega
/-- rounding keeps the order -/
theorem own_mono {A B A' B' : Nat} (hB : 0 < B) (hB' : 0 < B') (hA : A ≤ B * 2 ^ 100) (hA' : A' ≤ B' * 2 ^ 100) (h : A * B' ≤ A' * B) : own_z A B ≤ own_z A' B' := by
  by_cases he : A * B' = A' * B
  · unfold own_z
    rw [roundRatio_congr (A' := A') (B' := B') (e' := 0) hB hB' (by rw [he])]
    exact Nat.le_refl _
  have hlt : A * B' < A' * B := by omega
  refine Nat.le_of_not_lt fun hx => ?_
  obtain ⟨c, q, e1, c1, q1⟩ := own_fin hB hA
  obtain ⟨c', q', e2, c2, q2⟩ := own_fin hB' hA'
  have z1 : inUnits c q b64.qmin = own_z A B := by unfold own_z; rw [e1]; rfl
  have z2 : inUnits c' q' b64.qmin = own_z A' B' := by unfold own_z; rw [e2]; rfl
  have b1 := own_best hB hA c2 q2
  have b2 := own_best hB' hA' c1 q1
  rw [z2] at b1
  rw [z1] at b2
  generalize own_z A B = x at *
  generalize own_z A' B' = y at *
  generalize (2 : Nat) ^ 1074 = K at *
  have g1 : y * B < x * B := Nat.mul_lt_mul_of_pos_right hx hB
  have g2 : y * B' < x * B' := Nat.mul_lt_mul_of_pos_right hx hB'
  have k1 : x * B + y * B ≤ 2 * (A * K) := by
    generalize x * B = u at *
    generalize y * B = v at *
    generalize A * K = a at *
    omega
  have k2 : 2 * (A' * K) ≤ x * B' + y * B' := by
    generalize x * B' = u at *
    generalize y * B' = v at *
    generalize A' * K = a at *
    omega
  have m1 : (x * B + y * B) * B' ≤ 2 * (A * K) * B' := Nat.mul_le_mul_right _ k1
  have m2 : 2 * (A' * K) * B ≤ (x * B' + y * B') * B := Nat.mul_le_mul_right _ k2
  have m3 : (x * B + y * B) * B' = (x * B' + y * B') * B := by rw [Nat.add_mul, Nat.add_mul]; ac_rfl
  rw [← m3] at m2
  have m4 : 2 * (A' * K) * B ≤ 2 * (A * K) * B' := Nat.le_trans m2 m1
  have m5 : 2 * (A' * K) * B = A' * B * (2 * K) := by ac_rfl
  have m6 : 2 * (A * K) * B' = A * B' * (2 * K) := by ac_rfl
  rw [m5, m6] at m4
  have hK : 0 < 2 * K := Nat.pos_of_ne_zero fun z => by
    have hz : K = 0 := by omega
    subst hz
    simp only [Nat.mul_zero] at k1
    omega
  exact absurd (Nat.mul_lt_mul_of_pos_right hlt hK) (Nat.not_lt.mpr m4)
theorem own_z0 (B : Nat) : own_z 0 B = 0 := by
  unfold own_z roundRatio; rw [if_pos rfl]; show inUnits 0 _ _ = 0; unfold inUnits; exact Nat.zero_mul _
/-- the quotient of a whole number -/
theorem own_quot {i : Int} {a b : UInt64} {d : Nat} {r : Int} (ha : DInt i a) (hb : val64 b = .fin false d r) (hd : 0 < d) (hr : r ≤ 0) :
    zval b64 (val64 (ddiv a b)) = signed (decide (i < 0)) (own_z (i.natAbs * 2 ^ (-r).toNat) d) ∧ val64 (ddiv a b) ≠ .nan := by
  unfold DInt at ha
  rw [val64_ddiv, hb]
  cases hv : val64 a with
  | nan => rw [hv] at ha; exact ha.elim
  | inf s => rw [hv] at ha; exact ha.elim
  | fin s c q =>
    rw [hv] at ha
    have hn := whole_natAbs ha
    have hq : quotient b64 (.fin s c q) (.fin false d r) = roundRatio b64 (s != false) (i.natAbs * 2 ^ (-r).toNat) d 0 := by
      show (if d = 0 then (if c = 0 then Datum.nan else .inf (s != false)) else roundRatio b64 (s != false) c d (q - r)) = _
      rw [if_neg (by omega)]
      refine roundRatio_congr hd hd ?_
      have key : c * 2 ^ (q - r - 0).toNat = i.natAbs * 2 ^ (-r).toNat * 2 ^ (0 - (q - r)).toNat := by
        have e1 : (q - r - 0).toNat + (-q).toNat = q.toNat + ((-r).toNat + (0 - (q - r)).toNat) := by omega
        refine Nat.eq_of_mul_eq_mul_right (Nat.two_pow_pos (-q).toNat) ?_
        rw [Nat.mul_assoc, ← Nat.pow_add, e1, Nat.pow_add, ← Nat.mul_assoc, hn, Nat.pow_add]
        ac_rfl
      calc c * d * 2 ^ (q - r - 0).toNat = c * 2 ^ (q - r - 0).toNat * d := by ac_rfl
        _ = i.natAbs * 2 ^ (-r).toNat * 2 ^ (0 - (q - r)).toNat * d := by rw [key]
        _ = _ := by ac_rfl
    rw [hq]
    refine ⟨?_, roundRatio_ne_nan _ _ _ _ _⟩
    unfold zval
    rw [sgn_roundRatio, own_zs]
    by_cases hi : i = 0
    · subst hi
      rw [show (0 : Int).natAbs = 0 from rfl, Nat.zero_mul, own_z0, signed_zero, signed_zero]
    · rw [whole_sign ha hi]; cases decide (i < 0) <;> rfl
/-- the scale of mu: 6112151713653300 / 2^45 -/
def own_M : Nat := 6112151713653300
def own_g (n : Nat) : Nat := own_z (n * 2 ^ 45) own_M
theorem own_Mpos : 0 < own_M := by decide
theorem own_gb {n : Nat} (hn : n ≤ 2 ^ 34) : n * 2 ^ 45 ≤ own_M * 2 ^ 100 :=
  Nat.le_trans (Nat.mul_le_mul_right _ hn) (by decide)
theorem own_strict {n n' : Nat} (h : n < n') (hn' : n' ≤ 2 ^ 34) : own_g n < own_g n' := by
  have hn : n ≤ 2 ^ 34 := by omega
  have b1 := own_gb hn
  have b2 := own_gb hn'
  have hM := own_Mpos
  have hk : n * 2 ^ 45 * 2 ^ 20 / own_M < 2 ^ 50 := by
    rw [Nat.div_lt_iff_lt_mul hM]
    unfold own_M
    omega
  have d1 : n * 2 ^ 45 * 2 ^ 20 < (n * 2 ^ 45 * 2 ^ 20 / own_M + 1) * own_M := by
    rw [Nat.add_mul, Nat.one_mul]; exact Nat.lt_div_mul_add hM
  have d2 : n * 2 ^ 45 * 2 ^ 20 / own_M * own_M ≤ n * 2 ^ 45 * 2 ^ 20 := Nat.div_mul_le_self _ _
  obtain ⟨P, hPd⟩ : ∃ P, P = (2 : Nat) ^ 1054 := ⟨_, rfl⟩
  have iu : ∀ k : Nat, inUnits k (-20) b64.qmin = k * P := fun k => by
    rw [own_qmin, hPd]; unfold inUnits; rw [show ((-20 : Int) - -1074).toNat = 1054 from by decide]
  have hp : (2 : Nat) ^ 1074 = 2 ^ 20 * P := by rw [hPd, ← Nat.pow_add]
  have hq : b64.qmin ≤ -20 := by rw [own_qmin]; decide
  have hP : 0 < P := by rw [hPd]; exact Nat.two_pow_pos _
  have l1 := own_le (q' := -20) hM b1 (c' := n * 2 ^ 45 * 2 ^ 20 / own_M + 1) (by omega) hq (by
    rw [iu, hp]
    calc n * 2 ^ 45 * (2 ^ 20 * P) = n * 2 ^ 45 * 2 ^ 20 * P := (Nat.mul_assoc _ _ _).symm
      _ ≤ (n * 2 ^ 45 * 2 ^ 20 / own_M + 1) * own_M * P := Nat.mul_le_mul_right _ (Nat.le_of_lt d1)
      _ = _ := Nat.mul_right_comm _ _ _)
  have l2 := own_ge (q' := -20) hM b2 (c' := n * 2 ^ 45 * 2 ^ 20 / own_M + 2) (by omega) hq (by
    rw [iu, hp]
    have d3 : (n * 2 ^ 45 * 2 ^ 20 / own_M + 2) * own_M ≤ n' * 2 ^ 45 * 2 ^ 20 := by
      rw [Nat.add_mul]
      have hM2 : 2 * own_M ≤ 2 ^ 45 * 2 ^ 20 := by decide
      omega
    calc (n * 2 ^ 45 * 2 ^ 20 / own_M + 2) * P * own_M = (n * 2 ^ 45 * 2 ^ 20 / own_M + 2) * own_M * P := Nat.mul_right_comm _ _ _
      _ ≤ n' * 2 ^ 45 * 2 ^ 20 * P := Nat.mul_le_mul_right _ d3
      _ = _ := Nat.mul_assoc _ _ _)
  rw [iu] at l1 l2
  have l3 : (n * 2 ^ 45 * 2 ^ 20 / own_M + 1) * P < (n * 2 ^ 45 * 2 ^ 20 / own_M + 2) * P := Nat.mul_lt_mul_of_pos_right (by omega) hP
  exact Nat.lt_of_le_of_lt l1 (Nat.lt_of_lt_of_le l3 l2)
theorem own_g0 : own_g 0 = 0 := by unfold own_g; rw [Nat.zero_mul]; exact own_z0 _
/-- the bounds' quotients -/
theorem own_lo {n : Nat} (hn : n ≤ 2 ^ 34) : own_z (10000 * n * 2 ^ 32) 7461126992297984 ≤ own_g n :=
  own_mono (by decide) own_Mpos (by omega) (own_gb hn) (by
    have : 10000 * n * 2 ^ 32 * own_M = n * (10000 * 2 ^ 32 * own_M) := by ac_rfl
    rw [this, Nat.mul_assoc n]
    exact Nat.mul_le_mul_left n (by decide))
theorem own_hi {n : Nat} (hn : n ≤ 2 ^ 34) : own_g n ≤ own_z (10000 * n * 2 ^ 32) 7461118402363392 :=
  own_mono own_Mpos (by decide) (own_gb hn) (by omega) (by
    have : 10000 * n * 2 ^ 32 * own_M = n * (10000 * 2 ^ 32 * own_M) := by ac_rfl
    rw [this, Nat.mul_assoc n]
    exact Nat.mul_le_mul_left n (by decide))
def own_s (i : Int) (f : Nat → Nat) : Int := signed (decide (i < 0)) (f i.natAbs)
theorem own_s_lt {i j : Int} (hi : i.natAbs ≤ 2 ^ 34) (hj : j.natAbs ≤ 2 ^ 34) (h : i < j) : own_s i own_g < own_s j own_g := by
  unfold own_s signed
  by_cases h1 : i < 0
  · by_cases h2 : j < 0
    · have := own_strict (show j.natAbs < i.natAbs by omega) hi
      simp only [h1, h2, decide_true, if_true]; omega
    · have := own_strict (show 0 < i.natAbs by omega) hi
      rw [own_g0] at this
      simp only [h1, h2, decide_true, decide_false, if_true, Bool.false_eq_true, if_false]; omega
  · have h2 : ¬ j < 0 := by omega
    have := own_strict (show i.natAbs < j.natAbs by omega) hj
    simp only [h1, h2, decide_false, Bool.false_eq_true, if_false]; omega
theorem own_s_zero : own_s 0 own_g = 0 := by unfold own_s; rw [show (0 : Int).natAbs = 0 from rfl, own_g0, signed_zero]
end Jvm.FP.Core
namespace Jvm.Pilot.@@N@@
open Jvm Jvm.ClassFile Sem Op Lib Jvm.Free Jvm.Stand Jvm.LawKit Jvm.RoadKit Bundle Jvm.Pilot.@@N@@.Jvm.D
section OwnArrays
variable {Z : State} {h h' : Heap} {a b : Addr} {ty : FieldType} {n j : Int32} {F : Nat → Int32} {G : Nat → Int64} {sl : Nat} {v : Value} {ws : List Addr} {k : ClassId} {x : Int32} {y : Int64}
/-- an array of ints (chars, bytes, booleans ..): its length and its components -/
def own_AI (Z : State) (h : Heap) (a : Addr) (ty : FieldType) (n : Int32) (F : Nat → Int32) : Prop := ∃ c : Cell, Arr Z h a c ty ∧ c.slots.size = n.toNatClampNeg ∧ ¬ n < 0 ∧ ∀ i, i < c.slots.size → c.slots[i]? = some (.int (F i)) ∧ fits ty (.int (F i)) = true
/-- an array of longs -/
def own_AJ (Z : State) (h : Heap) (a : Addr) (ty : FieldType) (n : Int32) (F : Nat → Int64) : Prop := ∃ c : Cell, Arr Z h a c ty ∧ c.slots.size = n.toNatClampNeg ∧ ¬ n < 0 ∧ ∀ i, i < c.slots.size → c.slots[i]? = some (.long (F i))
/-- an array of which the length alone is told -/
def own_AL (Z : State) (h : Heap) (a : Addr) (ty : FieldType) (n : Int32) : Prop := ∃ c : Cell, Arr Z h a c ty ∧ c.slots.size = n.toNatClampNeg ∧ ¬ n < 0 ∧ True
def own_upd {α : Type} (F : Nat → α) (i : Nat) (v : α) : Nat → α := fun q => if q = i then v else F q
theorem own_upd_at {α : Type} (F : Nat → α) (i : Nat) (v : α) (q : Nat) : own_upd F i v q = if q = i then v else F q := rfl
theorem own_lt {c : Cell} (q : ¬ (j < 0 ∨ c.slots.size ≤ j.toNatClampNeg)) : j.toNatClampNeg < c.slots.size := Nat.lt_of_not_le fun z => q (Or.inr z)
theorem own_AI.lt (H : own_AI Z h a ty n F) : a < h.size := by obtain ⟨c, A, -⟩ := H; exact A.lt
theorem own_AI.ext (H : own_AI Z h a ty n F) (E : Ext h h') : own_AI Z h' a ty n F := by obtain ⟨c, A, r⟩ := H; exact ⟨c, A.ext E, r⟩
theorem own_AI.other (H : own_AI Z h b ty n F) (W : Wr h h' a sl v) (q : b ≠ a) : own_AI Z h' b ty n F := by obtain ⟨c, A, r⟩ := H; exact ⟨c, A.other W q, r⟩
theorem own_AI.keep (H : own_AI Z h a ty n F) (K : Keep h h' ws) (q : a ∉ ws) : own_AI Z h' a ty n F := by obtain ⟨c, A, r⟩ := H; exact ⟨c, ⟨K.2.1 a c A.1 q, A.2⟩, r⟩
theorem own_AI.new (A : Arr Z h a (newA k ty n) ty) (q : ¬ n < 0) (hd : defaultValue ty = .int 0) : own_AI Z h a ty n (fun _ => 0) :=
  ⟨_, A, sz_new _ _ _, q, fun i hi => by
    rw [sz_new] at hi
    refine ⟨by simp [newA, hi, hd], ?_⟩
    rw [← hd]; cases ty <;> rfl⟩
theorem own_AI.set (H : own_AI Z h a ty n F) (hv : fits ty (.int x) = true) (W : Wr h h' a j.toNatClampNeg (.int x)) : own_AI Z h' a ty n (own_upd F j.toNatClampNeg x) := by
  obtain ⟨c, A, S, q, H⟩ := H
  refine ⟨_, A.same W, by simpa [Cell.setSlot] using S, q, fun i hi => ?_⟩
  have hi' : i < c.slots.size := by simpa [Cell.setSlot] using hi
  by_cases u : i = j.toNatClampNeg
  · rw [own_upd_at, if_pos u]; subst u; exact ⟨by simp [Cell.setSlot, hi'], hv⟩
  · rw [own_upd_at, if_neg u]
    refine ⟨?_, (H i hi').2⟩
    have := (H i hi').1
    simp only [Cell.setSlot] at this ⊢
    rw [Array.getElem?_setIfInBounds_ne (Ne.symm u)]; exact this
theorem own_AJ.lt (H : own_AJ Z h a ty n G) : a < h.size := by obtain ⟨c, A, -⟩ := H; exact A.lt
theorem own_AJ.ext (H : own_AJ Z h a ty n G) (E : Ext h h') : own_AJ Z h' a ty n G := by obtain ⟨c, A, r⟩ := H; exact ⟨c, A.ext E, r⟩
theorem own_AJ.other (H : own_AJ Z h b ty n G) (W : Wr h h' a sl v) (q : b ≠ a) : own_AJ Z h' b ty n G := by obtain ⟨c, A, r⟩ := H; exact ⟨c, A.other W q, r⟩
theorem own_AJ.keep (H : own_AJ Z h a ty n G) (K : Keep h h' ws) (q : a ∉ ws) : own_AJ Z h' a ty n G := by obtain ⟨c, A, r⟩ := H; exact ⟨c, ⟨K.2.1 a c A.1 q, A.2⟩, r⟩
theorem own_AJ.new (A : Arr Z h a (newA k .long n) .long) (q : ¬ n < 0) : own_AJ Z h a .long n (fun _ => 0) :=
  ⟨_, A, sz_new _ _ _, q, fun i hi => by rw [sz_new] at hi; simp [newA, hi, defaultValue]⟩
theorem own_AJ.set (H : own_AJ Z h a ty n G) (W : Wr h h' a j.toNatClampNeg (.long y)) : own_AJ Z h' a ty n (own_upd G j.toNatClampNeg y) := by
  obtain ⟨c, A, S, q, H⟩ := H
  refine ⟨_, A.same W, by simpa [Cell.setSlot] using S, q, fun i hi => ?_⟩
  have hi' : i < c.slots.size := by simpa [Cell.setSlot] using hi
  by_cases u : i = j.toNatClampNeg
  · rw [own_upd_at, if_pos u]; subst u; simp [Cell.setSlot, hi']
  · rw [own_upd_at, if_neg u]
    have := H i hi'
    simp only [Cell.setSlot] at this ⊢
    rw [Array.getElem?_setIfInBounds_ne (Ne.symm u)]; exact this
theorem own_AL.lt (H : own_AL Z h a ty n) : a < h.size := by obtain ⟨c, A, -⟩ := H; exact A.lt
theorem own_AL.ext (H : own_AL Z h a ty n) (E : Ext h h') : own_AL Z h' a ty n := by obtain ⟨c, A, r⟩ := H; exact ⟨c, A.ext E, r⟩
theorem own_AL.other (H : own_AL Z h b ty n) (W : Wr h h' a sl v) (q : b ≠ a) : own_AL Z h' b ty n := by obtain ⟨c, A, r⟩ := H; exact ⟨c, A.other W q, r⟩
theorem own_AL.keep (H : own_AL Z h a ty n) (K : Keep h h' ws) (q : a ∉ ws) : own_AL Z h' a ty n := by obtain ⟨c, A, r⟩ := H; exact ⟨c, ⟨K.2.1 a c A.1 q, A.2⟩, r⟩
theorem own_AL.new (A : Arr Z h a (newA k ty n) ty) (q : ¬ n < 0) : own_AL Z h a ty n := ⟨_, A, sz_new _ _ _, q, trivial⟩
theorem own_AL.set (H : own_AL Z h a ty n) (W : Wr h h' a sl v) : own_AL Z h' a ty n := by
  obtain ⟨c, A, S, q, -⟩ := H
  exact ⟨_, A.same W, by simpa [Cell.setSlot] using S, q, trivial⟩
/-- an array of doubles -/
def own_AD (Z : State) (h : Heap) (a : Addr) (ty : FieldType) (n : Int32) (F : Nat → UInt64) : Prop := ∃ c : Cell, Arr Z h a c ty ∧ c.slots.size = n.toNatClampNeg ∧ ¬ n < 0 ∧ ∀ i, i < c.slots.size → c.slots[i]? = some (.double (F i))
theorem own_AD.lt {G : Nat → UInt64} (H : own_AD Z h a ty n G) : a < h.size := by obtain ⟨c, A, -⟩ := H; exact A.lt
theorem own_AD.ext {G : Nat → UInt64} (H : own_AD Z h a ty n G) (E : Ext h h') : own_AD Z h' a ty n G := by obtain ⟨c, A, r⟩ := H; exact ⟨c, A.ext E, r⟩
theorem own_AD.other {G : Nat → UInt64} (H : own_AD Z h b ty n G) (W : Wr h h' a sl v) (q : b ≠ a) : own_AD Z h' b ty n G := by obtain ⟨c, A, r⟩ := H; exact ⟨c, A.other W q, r⟩
theorem own_AD.keep {G : Nat → UInt64} (H : own_AD Z h a ty n G) (K : Keep h h' ws) (q : a ∉ ws) : own_AD Z h' a ty n G := by obtain ⟨c, A, r⟩ := H; exact ⟨c, ⟨K.2.1 a c A.1 q, A.2⟩, r⟩
theorem own_AD.new (A : Arr Z h a (newA k .double n) .double) (q : ¬ n < 0) : own_AD Z h a .double n (fun _ => 0) :=
  ⟨_, A, sz_new _ _ _, q, fun i hi => by rw [sz_new] at hi; simp [newA, hi, defaultValue]⟩
theorem own_AD.set {G : Nat → UInt64} {y : UInt64} (H : own_AD Z h a ty n G) (W : Wr h h' a j.toNatClampNeg (.double y)) : own_AD Z h' a ty n (own_upd G j.toNatClampNeg y) := by
  obtain ⟨c, A, S, q, H⟩ := H
  refine ⟨_, A.same W, by simpa [Cell.setSlot] using S, q, fun i hi => ?_⟩
  have hi' : i < c.slots.size := by simpa [Cell.setSlot] using hi
  by_cases u : i = j.toNatClampNeg
  · rw [own_upd_at, if_pos u]; subst u; simp [Cell.setSlot, hi']
  · rw [own_upd_at, if_neg u]
    have := H i hi'
    simp only [Cell.setSlot] at this ⊢
    rw [Array.getElem?_setIfInBounds_ne (Ne.symm u)]; exact this
theorem own_AI.congr {F' : Nat → Int32} (H : own_AI Z h a ty n F) (q : ∀ i, i < n.toNatClampNeg → F i = F' i) : own_AI Z h a ty n F' := by
  obtain ⟨c, A, S, N, H⟩ := H
  exact ⟨c, A, S, N, fun i hi => by rw [← q i (S ▸ hi)]; exact H i hi⟩
theorem own_AJ.congr {G' : Nat → Int64} (H : own_AJ Z h a ty n G) (q : ∀ i, i < n.toNatClampNeg → G i = G' i) : own_AJ Z h a ty n G' := by
  obtain ⟨c, A, S, N, H⟩ := H
  exact ⟨c, A, S, N, fun i hi => by rw [← q i (S ▸ hi)]; exact H i hi⟩
end OwnArrays
theorem own_Sta_keep {Z : State} {h h' : Heap} {C n d : String} {w : Value} {ws : List Addr} (F : Sta Z h C n d w) (K : Keep h h' ws) (q : ∀ x ∈ ws, ∃ c : Cell, h[x]? = some c ∧ c.vm.isStatics = false) : Sta Z h' C n d w := by
  obtain ⟨cf, i, k, f, st, cell, h1, h2, h3, h4, h5, h6, r⟩ := F
  refine ⟨cf, i, k, f, st, cell, h1, h2, h3, h4, K.2.1 _ _ h5 fun hm => ?_, h6, r⟩
  obtain ⟨c, g1, g2⟩ := q _ hm
  cases g1.symm.trans h5
  rw [h6] at g2
  cases g2
theorem own_Exa_st {Z : State} {h : Heap} {a : Addr} {C : String} (E : Exa Z h a C) : ∃ c : Cell, h[a]? = some c ∧ c.vm.isStatics = false := by
  obtain ⟨c, _, h1, -, -, h4, -⟩ := E
  exact ⟨c, h1, h4⟩
theorem own_retD {p : Program} {l : Launch} {e : Env} {R : Room} {s : State} {m : MethodId} {args : Array Value} {below : List Frame} {meth : Method} {c : Code} {T : State} {locs : List Loc} {cells slots : Nat} (X : Stand p l e R s m args below meth c T locs cells slots) (hx : p.tables.exec = Jvm.exec) {pc : Nat} {Ls : Array Slot} {z : UInt64} {rest : List Value} (hret : meth.sig.returnType = some .double) (hd : decode c.code pc = .ok (.dreturn, 1)) {fs : List Frame}
    (hl : ∀ (f : JFrame) (acts : List Action), f.method = m → f.locked = none → f.entered = [] → (doReturn e (T.setTop f) acts (some (.double z))).1 = T.setFrames fs) : Steps p.tables e below (T.setTop (mkF m pc Ls (.double z :: rest))) (T.setFrames fs) := by
  have hm' : T.vm.method? m = some meth := X.method'
  have hn : narrow .double (.double z) = .double z := rfl
  show Steps p.tables e below (T.setTop { method := m, pc := pc, locals := Ls, stack := _ :: rest, locked := none }) _
  jvm_step X.here [X.here.top, hx, hd, hm', hret, hn]
  first | (intro acts; rw [hl _ acts rfl rfl rfl]) | rw [hl _ _ rfl rfl rfl]
  exact Steps.refl _
theorem d2_0 : decode jdk_30_method_1_code 0 = .ok (.aload_n 0, 1) := by decide +kernel
theorem d2_1 : decode jdk_30_method_1_code 1 = .ok (.invokespecial 1, 3) := by decide +kernel
theorem d2_4 : decode jdk_30_method_1_code 4 = .ok (.return_, 1) := by decide +kernel
theorem pn_2 : plainName "java/lang/Record" = true := by first | (simp [plainName, overriddenIn]; done) | decide +kernel
theorem ef_2 (m : MethodId) (x0 : Addr) : entryFrame m #[(.ref x0)] 1 = mkF m 0 #[.val (.ref x0)] [] := by first | (simp [entryFrame, mkF, argsToLocals, Value.category]; done) | rfl
def Q2 (Z : State) (o0 : Addr) (h0 : Heap) (n0 : Nat) (v : Option Value) (h : Heap) (L : List Loc) : Prop := v = none ∧ Fr n0 L ∧ h = h0
set_option maxRecDepth 65536 in
set_option maxHeartbeats 40000000 in
theorem rm2 (l : Launch) (Z : State) (a0 : Array Value) (hw : ∀ d ∈ tables_1, d.before a0 Z = true) (ws : List Jvm.Cond) (o0 : Addr) (h0 : Heap) (n0 : Nat) (Z0 : n0 ≤ h0.size) :
    MetFree l (⟨"java/lang/Record", "<init>", "()V"⟩ : MethodName) (head1 (Jvm.Cond.code (⟨"java/lang/Record", "<init>", "()V"⟩ : MethodName) jdk_30_method_1_code 1 none :: ws) ({ frames := 1, cells := 0, slots := 0, locals := 12 } : Room)) (fun a U => a = #[(.ref o0)] ∧ Z.Warmed39 U.vm ∧ U.heap = h0) (fun _ _ _ _ _ => True) (fun _ U o U' => ∃ v L, o = .returned v ∧ Q2 Z o0 h0 n0 v U'.heap L ∧ FrameEnd U o U' L ({ frames := 1, cells := 0, slots := 0, locals := 12 } : Room).cells ({ frames := 1, cells := 0, slots := 0, locals := 12 } : Room).slots) := by
  refine MetFree.of_bodySF (plainFor_of_name pn_2) hisR ?_
  intro p e s m args below meth c s₁ Bd hml0 hP hK
  obtain ⟨rfl, hZ, hh⟩ := hP
  have hx := Bd.exec
  have hby := Bd.bytes
  have hml : c.maxLocals = 1 := hml0
  have hown : s.vm.findClass "java/lang/Record" = some m.cls := findClass_of_methodNamed Bd.named
  have hnm := (name_of_methodNamed Bd.named Bd.method).1
  have X0 : Stand p l e ({ frames := 1, cells := 0, slots := 0, locals := 12 } : Room) s m #[(.ref o0)] below meth c s₁ [] 0 0 := Stand.of_body Bd
  have e0 : s₁.heap = h0 := by rw [← hh, Bd.state]; rfl
  have N0 := Fr.nil n0
  have pre0 : ∀ t, Steps p.tables e below (s₁.setTop (mkF m 0 #[.val (.ref o0)] [])) t → Steps p.tables e below (s₁.setTop (entryFrame m #[(.ref o0)] 1)) t := fun t k => castTop (ef_2 m o0) k
  obtain ⟨T1, X1, e1, st1⟩ := initO X0 hx hZ hown (hw _ (List.mem_of_getElem? (i := 11) rfl)) (hw _ (List.mem_of_getElem? (i := 12) rfl)) (hw _ (List.mem_of_getElem? (i := 13) rfl)) e0 (g := (mkF m 1 #[.val (.ref o0)] [(.ref o0)])) rfl (by rw [hml]; rfl) rfl (hb hby d2_1) (by decide) (W := 0) (by show 2 * 0 + _ ≤ _; exact Nat.le_of_eq rfl) (by decide)
  obtain ⟨fs, hr, hrun, hended, hW, hsame⟩ := X1.leave (v := none) (fun _ => rfl)
  refine ⟨_, _, pre0 _ ?_, hrun, hended, _, _, rfl, ?_, ⟨_, rfl⟩, hW, hsame.mono (by decide) (by decide)⟩
  · show Steps p.tables e below (s₁.setTop (mkF m 0 #[.val (.ref o0)] [])) _
    refine XS.aloadN X0.here hx rfl (hb hby d2_0) rfl rfl ?_
    show Steps p.tables e below (s₁.setTop (mkF m 1 #[.val (.ref o0)] [(.ref o0)])) _
    refine st1 _ ?_
    show Steps p.tables e below (T1.setTop (mkF m 4 #[.val (.ref o0)] [])) _
    exact X1.returnOut hx Bd.returns (hb hby d2_4) hr
  · show Q2 Z o0 h0 n0 _ T1.heap _
    rw [e1]
    exact ⟨rfl, N0, rfl⟩
theorem d1_0 : decode prog_33_method_1_code 0 = .ok (.aload_n 0, 1) := by decide +kernel
theorem d1_1 : decode prog_33_method_1_code 1 = .ok (.invokespecial 1, 3) := by decide +kernel
theorem d1_4 : decode prog_33_method_1_code 4 = .ok (.aload_n 0, 1) := by decide +kernel
theorem d1_5 : decode prog_33_method_1_code 5 = .ok (.dload_n 1, 1) := by decide +kernel
theorem d1_6 : decode prog_33_method_1_code 6 = .ok (.putfield 7, 3) := by decide +kernel
theorem d1_9 : decode prog_33_method_1_code 9 = .ok (.aload_n 0, 1) := by decide +kernel
theorem d1_10 : decode prog_33_method_1_code 10 = .ok (.dload_n 3, 1) := by decide +kernel
theorem d1_11 : decode prog_33_method_1_code 11 = .ok (.putfield 13, 3) := by decide +kernel
theorem d1_14 : decode prog_33_method_1_code 14 = .ok (.aload_n 0, 1) := by decide +kernel
theorem d1_15 : decode prog_33_method_1_code 15 = .ok (.dload 5, 2) := by decide +kernel
theorem d1_17 : decode prog_33_method_1_code 17 = .ok (.putfield 16, 3) := by decide +kernel
theorem d1_20 : decode prog_33_method_1_code 20 = .ok (.return_, 1) := by decide +kernel
theorem pn_1 : plainName "com/example/cratewise/cratewise/ranking/Rating" = true := by first | (simp [plainName, overriddenIn]; done) | decide +kernel
theorem pd_1_0 : parseMethodDescriptor "()V" = some ⟨[], none⟩ := by decide +kernel
theorem ef_1 (m : MethodId) (x0 : Addr) (x1 : UInt64) (x2 : UInt64) (x3 : UInt64) : entryFrame m #[(.ref x0), (.double x1), (.double x2), (.double x3)] 7 = mkF m 0 #[.val (.ref x0), .val (.double x1), .second, .val (.double x2), .second, .val (.double x3), .second] [] := by first | (simp [entryFrame, mkF, argsToLocals, Value.category]; done) | rfl
def Q1 (Z : State) (o0 : Addr) (d1 : UInt64) (d2 : UInt64) (d3 : UInt64) (w2 : UInt64) (w6 : UInt64) (w11 : UInt64) (h0 : Heap) (n0 : Nat) (v : Option Value) (h : Heap) (L : List Loc) : Prop := v = none ∧ Fr n0 L ∧ Keep h0 h [o0] ∧ Fld Z h o0 "com/example/cratewise/cratewise/ranking/Rating" "rating" "D" (.double d1) ∧ Fld Z h o0 "com/example/cratewise/cratewise/ranking/Rating" "deviation" "D" (.double d2) ∧ Fld Z h o0 "com/example/cratewise/cratewise/ranking/Rating" "volatility" "D" (.double d3)
set_option maxRecDepth 65536 in
set_option maxHeartbeats 40000000 in
theorem rm1 (l : Launch) (Z : State) (a0 : Array Value) (hw : ∀ d ∈ tables_1, d.before a0 Z = true) (ws : List Jvm.Cond) (o0 : Addr) (d1 : UInt64) (d2 : UInt64) (d3 : UInt64) (w2 : UInt64) (w6 : UInt64) (w11 : UInt64) (h0 : Heap) (n0 : Nat) (Z0 : n0 ≤ h0.size) (E_o0 : Exa Z h0 o0 "com/example/cratewise/cratewise/ranking/Rating") (F_rating_o0 : Fld Z h0 o0 "com/example/cratewise/cratewise/ranking/Rating" "rating" "D" (.double w2)) (g_o0 : n0 ≤ o0) (F_deviation_o0 : Fld Z h0 o0 "com/example/cratewise/cratewise/ranking/Rating" "deviation" "D" (.double w6)) (F_volatility_o0 : Fld Z h0 o0 "com/example/cratewise/cratewise/ranking/Rating" "volatility" "D" (.double w11)) :
    MetFree l (⟨"com/example/cratewise/cratewise/ranking/Rating", "<init>", "(DDD)V"⟩ : MethodName) (head1 (Jvm.Cond.code (⟨"com/example/cratewise/cratewise/ranking/Rating", "<init>", "(DDD)V"⟩ : MethodName) prog_33_method_1_code 7 none :: ws) ({ frames := 2, cells := 0, slots := 0, locals := 24 } : Room)) (fun a U => a = #[(.ref o0), (.double d1), (.double d2), (.double d3)] ∧ Z.Warmed39 U.vm ∧ U.heap = h0) (fun _ _ _ _ _ => True) (fun _ U o U' => ∃ v L, o = .returned v ∧ Q1 Z o0 d1 d2 d3 w2 w6 w11 h0 n0 v U'.heap L ∧ FrameEnd U o U' L ({ frames := 2, cells := 0, slots := 0, locals := 24 } : Room).cells ({ frames := 2, cells := 0, slots := 0, locals := 24 } : Room).slots) := by
  refine MetFree.of_bodySF (plainFor_of_name pn_1) hisR ?_
  intro p e s m args below meth c s₁ Bd hml0 hP hK
  obtain ⟨rfl, hZ, hh⟩ := hP
  have hx := Bd.exec
  have hby := Bd.bytes
  have hml : c.maxLocals = 7 := hml0
  have hown : s.vm.findClass "com/example/cratewise/cratewise/ranking/Rating" = some m.cls := findClass_of_methodNamed Bd.named
  have hnm := (name_of_methodNamed Bd.named Bd.method).1
  have X0 : Stand p l e ({ frames := 2, cells := 0, slots := 0, locals := 24 } : Room) s m #[(.ref o0), (.double d1), (.double d2), (.double d3)] below meth c s₁ [] 0 0 := Stand.of_body Bd
  have e0 : s₁.heap = h0 := by rw [← hh, Bd.state]; rfl
  have N0 := Fr.nil n0
  have pre0 : ∀ t, Steps p.tables e below (s₁.setTop (mkF m 0 #[.val (.ref o0), .val (.double d1), .second, .val (.double d2), .second, .val (.double d3), .second] [])) t → Steps p.tables e below (s₁.setTop (entryFrame m #[(.ref o0), (.double d1), (.double d2), (.double d3)] 7)) t := fun t k => castTop (ef_1 m o0 d1 d2 d3) k
  obtain ⟨_, _, ⟨T1, L1, k1, n1⟩, -, X1, ⟨Lc1, hQ1, l1, y1, z1⟩, st1⟩ := X0.specialBack hx (y := (⟨"java/lang/Record", "<init>", "()V"⟩ : MethodName)) rfl hown (mvT hZ (hw _ (List.mem_of_getElem? (i := 6) rfl))) (mvT hZ (hw _ (List.mem_of_getElem? (i := 7) rfl))) (mvT hZ (hw _ (List.mem_of_getElem? (i := 10) rfl))) (by decide) (backOf (W := 0) (rm2 l Z a0 hw [] o0 h0 n0 Z0 ) hZ (hw _ (List.mem_of_getElem? (i := 10) rfl)) (hw _ (List.mem_of_getElem? (i := 9) rfl)) (by decide) (by decide)) (g := (mkF m 1 #[.val (.ref o0), .val (.double d1), .second, .val (.double d2), .second, .val (.double d3), .second] [(.ref o0)])) rfl (by rw [hml]; rfl) (Steps.refl _) (a := o0) (argsL := []) (rest := []) (lenOf pd_1_0 rfl) rfl (by show 2 * 0 + _ ≤ _; exact Nat.le_of_eq rfl) (hb hby d1_1) (fun _ _ => ⟨rfl, e0, (by decide : 0 + 0 ≤ _), (by decide : 0 + 0 ≤ _)⟩)
  dsimp only [Pt.U, Pt.locs, Pt.cells, Pt.slots] at X1 l1 y1 z1 st1 hQ1
  subst l1 y1 z1
  obtain ⟨rfl, N1q, e1q⟩ := hQ1
  have N1 := Fr.app N0 N1q
  obtain ⟨T3, h3, X3, e3, W3, st3⟩ := putF X1 hx hZ hown (host := "") (Or.inl (hw _ (List.mem_of_getElem? (i := 14) rfl))) Via.refl e1q F_rating_o0 E_o0 (Or.inr ⟨(hw _ (List.mem_of_getElem? (i := 15) rfl)), rfl, hnm⟩) (hw _ (List.mem_of_getElem? (i := 1) rfl)) (ty := .double) (by decide) rfl rfl (g := (mkF m 6 #[.val (.ref o0), .val (.double d1), .second, .val (.double d2), .second, .val (.double d3), .second] [(.double d1), (.ref o0)])) rfl rfl (hb hby d1_6)
  have Fw3 := F_rating_o0.same W3
  have K4 : Keep h0 h3 [o0] := (Keep.refl h0 [o0]).wr W3 (Or.inl (List.mem_of_getElem? (i := 0) rfl))
  have Z5 : n0 ≤ h3.size := Nat.le_trans Z0 K4.1
  have N3 := Fr.snoc X3 N1 g_o0
  obtain ⟨LS3, X3, N3⟩ : ∃ L, Stand p l e ({ frames := 2, cells := 0, slots := 0, locals := 24 } : Room) s m #[(.ref o0), (.double d1), (.double d2), (.double d3)] below meth c T3 L 0 0 ∧ Fr n0 L := ⟨_, X3, N3⟩
  have c7 := (F_deviation_o0.other W3 (Or.inr (slot_ne (Or.inr (hw _ (List.mem_of_getElem? (i := 17) rfl))) (Or.inr (hw _ (List.mem_of_getElem? (i := 15) rfl))) (by decide) (t := .double) (t' := .double) (by decide) (by decide))))
  obtain ⟨T8, h8, X8, e8, W8, st8⟩ := putF X3 hx hZ hown (host := "") (Or.inl (hw _ (List.mem_of_getElem? (i := 16) rfl))) Via.refl e3 c7 (E_o0.wr W3) (Or.inr ⟨(hw _ (List.mem_of_getElem? (i := 17) rfl)), rfl, hnm⟩) (hw _ (List.mem_of_getElem? (i := 1) rfl)) (ty := .double) (by decide) rfl rfl (g := (mkF m 11 #[.val (.ref o0), .val (.double d1), .second, .val (.double d2), .second, .val (.double d3), .second] [(.double d2), (.ref o0)])) rfl rfl (hb hby d1_11)
  have Fw8 := c7.same W8
  have K9 : Keep h0 h8 [o0] := K4.wr W8 (Or.inl (List.mem_of_getElem? (i := 0) rfl))
  have Z10 : n0 ≤ h8.size := Nat.le_trans Z0 K9.1
  have N8 := Fr.snoc X8 N3 g_o0
  obtain ⟨LS8, X8, N8⟩ : ∃ L, Stand p l e ({ frames := 2, cells := 0, slots := 0, locals := 24 } : Room) s m #[(.ref o0), (.double d1), (.double d2), (.double d3)] below meth c T8 L 0 0 ∧ Fr n0 L := ⟨_, X8, N8⟩
  have c12 := ((F_volatility_o0.other W3 (Or.inr (slot_ne (Or.inr (hw _ (List.mem_of_getElem? (i := 19) rfl))) (Or.inr (hw _ (List.mem_of_getElem? (i := 15) rfl))) (by decide) (t := .double) (t' := .double) (by decide) (by decide)))).other W8 (Or.inr (slot_ne (Or.inr (hw _ (List.mem_of_getElem? (i := 19) rfl))) (Or.inr (hw _ (List.mem_of_getElem? (i := 17) rfl))) (by decide) (t := .double) (t' := .double) (by decide) (by decide))))
  obtain ⟨T13, h13, X13, e13, W13, st13⟩ := putF X8 hx hZ hown (host := "") (Or.inl (hw _ (List.mem_of_getElem? (i := 18) rfl))) Via.refl e8 c12 ((E_o0.wr W3).wr W8) (Or.inr ⟨(hw _ (List.mem_of_getElem? (i := 19) rfl)), rfl, hnm⟩) (hw _ (List.mem_of_getElem? (i := 1) rfl)) (ty := .double) (by decide) rfl rfl (g := (mkF m 17 #[.val (.ref o0), .val (.double d1), .second, .val (.double d2), .second, .val (.double d3), .second] [(.double d3), (.ref o0)])) rfl rfl (hb hby d1_17)
  have Fw13 := c12.same W13
  have K14 : Keep h0 h13 [o0] := K9.wr W13 (Or.inl (List.mem_of_getElem? (i := 0) rfl))
  have Z15 : n0 ≤ h13.size := Nat.le_trans Z0 K14.1
  have N13 := Fr.snoc X13 N8 g_o0
  obtain ⟨LS13, X13, N13⟩ : ∃ L, Stand p l e ({ frames := 2, cells := 0, slots := 0, locals := 24 } : Room) s m #[(.ref o0), (.double d1), (.double d2), (.double d3)] below meth c T13 L 0 0 ∧ Fr n0 L := ⟨_, X13, N13⟩
  obtain ⟨fs, hr, hrun, hended, hW, hsame⟩ := X13.leave (v := none) (fun _ => rfl)
  have c16 := ((Fw3.other W8 (Or.inr (slot_ne (Or.inr (hw _ (List.mem_of_getElem? (i := 15) rfl))) (Or.inr (hw _ (List.mem_of_getElem? (i := 17) rfl))) (by decide) (t := .double) (t' := .double) (by decide) (by decide)))).other W13 (Or.inr (slot_ne (Or.inr (hw _ (List.mem_of_getElem? (i := 15) rfl))) (Or.inr (hw _ (List.mem_of_getElem? (i := 19) rfl))) (by decide) (t := .double) (t' := .double) (by decide) (by decide))))
  have c17 := (Fw8.other W13 (Or.inr (slot_ne (Or.inr (hw _ (List.mem_of_getElem? (i := 17) rfl))) (Or.inr (hw _ (List.mem_of_getElem? (i := 19) rfl))) (by decide) (t := .double) (t' := .double) (by decide) (by decide))))
  refine ⟨_, _, pre0 _ ?_, hrun, hended, _, _, rfl, ?_, ⟨_, rfl⟩, hW, hsame.mono (by decide) (by decide)⟩
  · show Steps p.tables e below (s₁.setTop (mkF m 0 #[.val (.ref o0), .val (.double d1), .second, .val (.double d2), .second, .val (.double d3), .second] [])) _
    refine XS.aloadN X0.here hx rfl (hb hby d1_0) rfl rfl ?_
    show Steps p.tables e below (s₁.setTop (mkF m 1 #[.val (.ref o0), .val (.double d1), .second, .val (.double d2), .second, .val (.double d3), .second] [(.ref o0)])) _
    refine st1.trans ?_
    show Steps p.tables e below (T1.setTop (mkF m 4 #[.val (.ref o0), .val (.double d1), .second, .val (.double d2), .second, .val (.double d3), .second] [])) _
    refine XS.aloadN X1.here hx rfl (hb hby d1_4) rfl rfl ?_
    show Steps p.tables e below (T1.setTop (mkF m 5 #[.val (.ref o0), .val (.double d1), .second, .val (.double d2), .second, .val (.double d3), .second] [(.ref o0)])) _
    refine XS.dloadN X1.here hx rfl (hb hby d1_5) rfl ?_
    show Steps p.tables e below (T1.setTop (mkF m 6 #[.val (.ref o0), .val (.double d1), .second, .val (.double d2), .second, .val (.double d3), .second] [(.double d1), (.ref o0)])) _
    refine st3 _ ?_
    show Steps p.tables e below (T3.setTop (mkF m 9 #[.val (.ref o0), .val (.double d1), .second, .val (.double d2), .second, .val (.double d3), .second] [])) _
    refine XS.aloadN X3.here hx rfl (hb hby d1_9) rfl rfl ?_
    show Steps p.tables e below (T3.setTop (mkF m 10 #[.val (.ref o0), .val (.double d1), .second, .val (.double d2), .second, .val (.double d3), .second] [(.ref o0)])) _
    refine XS.dloadN X3.here hx rfl (hb hby d1_10) rfl ?_
    show Steps p.tables e below (T3.setTop (mkF m 11 #[.val (.ref o0), .val (.double d1), .second, .val (.double d2), .second, .val (.double d3), .second] [(.double d2), (.ref o0)])) _
    refine st8 _ ?_
    show Steps p.tables e below (T8.setTop (mkF m 14 #[.val (.ref o0), .val (.double d1), .second, .val (.double d2), .second, .val (.double d3), .second] [])) _
    refine XS.aloadN X8.here hx rfl (hb hby d1_14) rfl rfl ?_
    show Steps p.tables e below (T8.setTop (mkF m 15 #[.val (.ref o0), .val (.double d1), .second, .val (.double d2), .second, .val (.double d3), .second] [(.ref o0)])) _
    refine XS.dload X8.here hx rfl (hb hby d1_15) rfl ?_
    show Steps p.tables e below (T8.setTop (mkF m 17 #[.val (.ref o0), .val (.double d1), .second, .val (.double d2), .second, .val (.double d3), .second] [(.double d3), (.ref o0)])) _
    refine st13 _ ?_
    show Steps p.tables e below (T13.setTop (mkF m 20 #[.val (.ref o0), .val (.double d1), .second, .val (.double d2), .second, .val (.double d3), .second] [])) _
    exact X13.returnOut hx Bd.returns (hb hby d1_20) hr
  · show Q1 Z o0 d1 d2 d3 w2 w6 w11 h0 n0 _ T13.heap _
    rw [e13]
    exact ⟨rfl, N13, K14, c16, c17, Fw13⟩
theorem d4_0 : decode prog_33_method_2_code 0 = .ok (.aload_n 0, 1) := by decide +kernel
theorem d4_1 : decode prog_33_method_2_code 1 = .ok (.getfield 7, 3) := by decide +kernel
theorem d4_4 : decode prog_33_method_2_code 4 = .ok (.getstatic 19, 3) := by decide +kernel
theorem d4_7 : decode prog_33_method_2_code 7 = .ok (.getfield 7, 3) := by decide +kernel
theorem d4_10 : decode prog_33_method_2_code 10 = .ok (.dsub, 1) := by decide +kernel
theorem d4_11 : decode prog_33_method_2_code 11 = .ok (.ldc2_w 23, 3) := by decide +kernel
theorem d4_14 : decode prog_33_method_2_code 14 = .ok (.ddiv, 1) := by decide +kernel
theorem d4_15 : decode prog_33_method_2_code 15 = .ok (.dreturn, 1) := by decide +kernel
theorem pn_4 : plainName "com/example/cratewise/cratewise/ranking/Rating" = true := by first | (simp [plainName, overriddenIn]; done) | decide +kernel
theorem ef_4 (m : MethodId) (x0 : Addr) : entryFrame m #[(.ref x0)] 1 = mkF m 0 #[.val (.ref x0)] [] := by first | (simp [entryFrame, mkF, argsToLocals, Value.category]; done) | rfl
def f4 (x1 : UInt64) : UInt64 :=
  (FP.ddiv (FP.dsub x1 (4654311885213007872 : UInt64)) (4640316168277893684 : UInt64))
def Q4 (Z : State) (o0 : Addr) (x1 : UInt64) (un : Addr) (h0 : Heap) (n0 : Nat) (v : Option Value) (h : Heap) (L : List Loc) : Prop := v = some (.double (f4 x1)) ∧ Fr n0 L ∧ h = h0
set_option maxRecDepth 65536 in
set_option maxHeartbeats 40000000 in
theorem rm4 (l : Launch) (Z : State) (a0 : Array Value) (hw : ∀ d ∈ tables_1, d.before a0 Z = true) (ws : List Jvm.Cond) (o0 : Addr) (x1 : UInt64) (un : Addr) (h0 : Heap) (n0 : Nat) (Z0 : n0 ≤ h0.size) (F_rating_o0 : Fld Z h0 o0 "com/example/cratewise/cratewise/ranking/Rating" "rating" "D" (.double x1)) (S_UNRATED : Sta Z h0 "com/example/cratewise/cratewise/ranking/Rating" "UNRATED" "Lcom/example/cratewise/cratewise/ranking/Rating;" (.ref un)) (F_rating_un : Fld Z h0 un "com/example/cratewise/cratewise/ranking/Rating" "rating" "D" (.double (4654311885213007872 : UInt64))) (n1 : Jvm.Free.Fl.NoNaN64 (FP.dsub x1 (4654311885213007872 : UInt64))) (n2 : Jvm.Free.Fl.NoNaN64 (FP.ddiv (FP.dsub x1 (4654311885213007872 : UInt64)) (4640316168277893684 : UInt64))) :
    MetFree l (⟨"com/example/cratewise/cratewise/ranking/Rating", "mu", "()D"⟩ : MethodName) (head1 (Jvm.Cond.code (⟨"com/example/cratewise/cratewise/ranking/Rating", "mu", "()D"⟩ : MethodName) prog_33_method_2_code 1 (some .double) :: ws) ({ frames := 0, cells := 0, slots := 0, locals := 0 } : Room)) (fun a U => a = #[(.ref o0)] ∧ Z.Warmed39 U.vm ∧ U.heap = h0) (fun _ _ _ _ _ => True) (fun _ U o U' => ∃ v L, o = .returned v ∧ Q4 Z o0 x1 un h0 n0 v U'.heap L ∧ FrameEnd U o U' L ({ frames := 0, cells := 0, slots := 0, locals := 0 } : Room).cells ({ frames := 0, cells := 0, slots := 0, locals := 0 } : Room).slots) := by
  refine MetFree.of_bodySF (plainFor_of_name pn_4) hisR ?_
  intro p e s m args below meth c s₁ Bd hml0 hP hK
  obtain ⟨rfl, hZ, hh⟩ := hP
  have hx := Bd.exec
  have hby := Bd.bytes
  have hml : c.maxLocals = 1 := hml0
  have hown : s.vm.findClass "com/example/cratewise/cratewise/ranking/Rating" = some m.cls := findClass_of_methodNamed Bd.named
  have hnm := (name_of_methodNamed Bd.named Bd.method).1
  have X0 : Stand p l e ({ frames := 0, cells := 0, slots := 0, locals := 0 } : Room) s m #[(.ref o0)] below meth c s₁ [] 0 0 := Stand.of_body Bd
  have e0 : s₁.heap = h0 := by rw [← hh, Bd.state]; rfl
  have N0 := Fr.nil n0
  have pre0 : ∀ t, Steps p.tables e below (s₁.setTop (mkF m 0 #[.val (.ref o0)] [])) t → Steps p.tables e below (s₁.setTop (entryFrame m #[(.ref o0)] 1)) t := fun t k => castTop (ef_4 m o0) k
  obtain ⟨T1, X1, e1, st1⟩ := getF X0 hx hZ hown (host := "") (Or.inl (hw _ (List.mem_of_getElem? (i := 14) rfl))) Via.refl e0 F_rating_o0 (g := (mkF m 1 #[.val (.ref o0)] [(.ref o0)])) rfl rfl (hb hby d4_1)
  obtain ⟨T2, X2, e2, st2⟩ := getS2 X1 hx hZ hown (host := "") (Or.inl (hw _ (List.mem_of_getElem? (i := 25) rfl))) Via.refl e1 S_UNRATED (g := (mkF m 4 #[.val (.ref o0)] [(.double x1)])) rfl (hb hby d4_4)
  obtain ⟨T3, X3, e3, st3⟩ := getF X2 hx hZ hown (host := "") (Or.inl (hw _ (List.mem_of_getElem? (i := 14) rfl))) Via.refl e2 F_rating_un (g := (mkF m 7 #[.val (.ref o0)] [(.ref un), (.double x1)])) rfl rfl (hb hby d4_7)
  obtain ⟨fs, hr, hrun, hended, hW, hsame⟩ := X3.leave (v := some (.double (FP.ddiv (FP.dsub x1 (4654311885213007872 : UInt64)) (4640316168277893684 : UInt64)))) (fun h => by rw [Bd.returns] at h; cases h)
  have hv4 : (f4 x1) = (FP.ddiv (FP.dsub x1 (4654311885213007872 : UInt64)) (4640316168277893684 : UInt64)) := rfl
  refine ⟨_, _, pre0 _ ?_, hrun, hended, _, _, rfl, ?_, ⟨_, rfl⟩, hW, hsame.mono (by decide) (by decide)⟩
  · show Steps p.tables e below (s₁.setTop (mkF m 0 #[.val (.ref o0)] [])) _
    refine XS.aloadN X0.here hx rfl (hb hby d4_0) rfl rfl ?_
    show Steps p.tables e below (s₁.setTop (mkF m 1 #[.val (.ref o0)] [(.ref o0)])) _
    refine st1 _ ?_
    show Steps p.tables e below (T1.setTop (mkF m 4 #[.val (.ref o0)] [(.double x1)])) _
    refine st2 _ ?_
    show Steps p.tables e below (T2.setTop (mkF m 7 #[.val (.ref o0)] [(.ref un), (.double x1)])) _
    refine st3 _ ?_
    show Steps p.tables e below (T3.setTop (mkF m 10 #[.val (.ref o0)] [(.double (4654311885213007872 : UInt64)), (.double x1)])) _
    refine XS.dsubS X3.here hx rfl (hb hby d4_10) rfl n1 rfl ?_
    show Steps p.tables e below (T3.setTop (mkF m 11 #[.val (.ref o0)] [(.double (FP.dsub x1 (4654311885213007872 : UInt64)))])) _
    refine X3.ldc2DoubleC hx hown (mvT hZ (hw _ (List.mem_of_getElem? (i := 27) rfl))) (g := (mkF m 11 #[.val (.ref o0)] [(.double (FP.dsub x1 (4654311885213007872 : UInt64)))])) rfl (hb hby d4_11) _ ?_
    show Steps p.tables e below (T3.setTop (mkF m 14 #[.val (.ref o0)] [(.double (4640316168277893684 : UInt64)), (.double (FP.dsub x1 (4654311885213007872 : UInt64)))])) _
    refine XS.ddivS X3.here hx rfl (hb hby d4_14) rfl n2 rfl ?_
    show Steps p.tables e below (T3.setTop (mkF m 15 #[.val (.ref o0)] [(.double (FP.ddiv (FP.dsub x1 (4654311885213007872 : UInt64)) (4640316168277893684 : UInt64)))])) _
    exact own_retD X3 hx Bd.returns (hb hby d4_15) hr
  · show Q4 Z o0 x1 un h0 n0 _ T3.heap _
    rw [e3]
    exact ⟨congrArg (fun q => some (Value.double q)) hv4.symm, N0, rfl⟩
theorem pn_0 : plainName "com/example/cratewise/cratewise/ranking/RatingMuPinLaw" = true := by first | (simp [plainName, overriddenIn]; done) | decide +kernel
theorem pd_0_0 : parseMethodDescriptor "(DDD)V" = some ⟨[.double, .double, .double], none⟩ := by decide +kernel
theorem pd_0_1 : parseMethodDescriptor "()D" = some ⟨[], some .double⟩ := by decide +kernel
theorem ef_0 (m : MethodId) (x0 : Int32) (x1 : Int32) (x2 : Int32) (x3 : Int32) (x4 : Int32) (x5 : Int32) : entryFrame m #[(.int x0), (.int x1), (.int x2), (.int x3), (.int x4), (.int x5)] maxLocals = mkF m 0 #[.val (.int x0), .val (.int x1), .val (.int x2), .val (.int x3), .val (.int x4), .val (.int x5), .unset, .unset, .unset, .unset, .unset, .unset, .unset, .unset, .unset, .unset, .unset, .unset, .unset, .unset, .unset, .unset, .unset, .unset, .unset, .unset, .unset, .unset] [] := by first | (simp [entryFrame, mkF, argsToLocals, Value.category, maxLocals]; done) | rfl
theorem own_eqd {args : Array Value} {s : State} {t : Term} {k : Int64} (h : (Jvm.Cond.eq t (.op1 .bitsD (.long k))).value args s none s [] = some true) : t.eval args s none [] s = some (.double k.toUInt64) := by
  obtain ⟨x, y, h1, h2, h3, h4⟩ := cmp_v (Or.inl h)
  have h2' : some (Value.double k.toUInt64) = some y := h2
  cases h2'
  obtain ⟨z, rfl⟩ := h4
  simp only [Jvm.Cond.value, h1, h2] at h
  simp at h
  rw [h1, h]
theorem own_cv {a b : UInt64} (ha : FP.Core.val64 a ≠ .nan) (hb : FP.Core.val64 b ≠ .nan) (op : CmpOp) :
    ((cmpValue (FP.dcmp a b) op) = (0 : Int32) ↔ FP.Core.zval FP.Core.b64 (FP.Core.val64 a) = FP.Core.zval FP.Core.b64 (FP.Core.val64 b)) ∧
    ((0 : Int32) < (cmpValue (FP.dcmp a b) op) ↔ FP.Core.zval FP.Core.b64 (FP.Core.val64 b) < FP.Core.zval FP.Core.b64 (FP.Core.val64 a)) ∧
    ((cmpValue (FP.dcmp a b) op) < (0 : Int32) ↔ FP.Core.zval FP.Core.b64 (FP.Core.val64 a) < FP.Core.zval FP.Core.b64 (FP.Core.val64 b)) := by
  have h : FP.dcmp a b = some (compare (FP.Core.zval FP.Core.b64 (FP.Core.val64 a)) (FP.Core.zval FP.Core.b64 (FP.Core.val64 b))) := FP.Core.dcmp_zval ha hb
  rw [h]
  generalize FP.Core.zval FP.Core.b64 (FP.Core.val64 a) = x
  generalize FP.Core.zval FP.Core.b64 (FP.Core.val64 b) = y
  cases hc : compare x y with
  | lt =>
    have := (FP.Core.compare_lt_iff _ _).mp hc
    exact ⟨⟨fun q => absurd (show (-1 : Int32) = 0 from q) (by decide), fun q => by omega⟩, ⟨fun q => absurd (show (0 : Int32) < -1 from q) (by decide), fun q => by omega⟩, ⟨fun _ => this, fun _ => (by decide : (-1 : Int32) < 0)⟩⟩
  | eq =>
    have := (FP.Core.compare_eq_iff _ _).mp hc
    exact ⟨⟨fun _ => this, fun _ => rfl⟩, ⟨fun q => absurd (show (0 : Int32) < 0 from q) (by decide), fun q => by omega⟩, ⟨fun q => absurd (show (0 : Int32) < 0 from q) (by decide), fun q => by omega⟩⟩
  | gt =>
    have := (FP.Core.compare_gt_iff _ _).mp hc
    exact ⟨⟨fun q => absurd (show (1 : Int32) = 0 from q) (by decide), fun q => by omega⟩, ⟨fun _ => this, fun _ => (by decide : (0 : Int32) < 1)⟩, ⟨fun q => absurd (show (1 : Int32) < 0 from q) (by decide), fun q => by omega⟩⟩
theorem own_ir (a : Int32) : (a.toInt - 1500).natAbs ≤ 2 ^ 33 := by
  have h1 := a.toInt_lt
  have h2 := a.le_toInt
  omega
theorem own_d (a : Int32) : FP.Core.DInt (a.toInt - 1500) (FP.dsub (FP.i2d a) (4654311885213007872 : UInt64)) :=
  FP.Core.dsub_int (FP.Core.i2d_int a) (by
    unfold FP.Core.DInt
    rw [show FP.Core.val64 4654311885213007872 = .fin false 6597069766656000 (-42) from by decide +kernel]
    show FP.Core.signed false (6597069766656000 * 2 ^ 0) = 1500 * ((2 ^ 42 : Nat) : Int)
    decide) (Nat.le_trans (own_ir a) (by decide))
theorem own_mz (a : Int32) : FP.Core.zval FP.Core.b64 (FP.Core.val64 (f4 (FP.i2d a))) = FP.Core.own_s (a.toInt - 1500) FP.Core.own_g ∧ FP.Core.val64 (f4 (FP.i2d a)) ≠ .nan :=
  FP.Core.own_quot (own_d a) (show FP.Core.val64 4640316168277893684 = .fin false FP.Core.own_M (-45) from by decide +kernel) FP.Core.own_Mpos (by decide)
theorem own_z0 : FP.Core.zval FP.Core.b64 (FP.Core.val64 FP.dconst0) = 0 ∧ FP.Core.val64 FP.dconst0 ≠ .nan := by decide +kernel
theorem own_ind (a : Int32) : (cmpValue (FP.dcmp (f4 (FP.i2d a)) (f4 (FP.i2d a))) .l) = (0 : Int32) := (own_cv (own_mz a).2 (own_mz a).2 .l).1.mpr rfl
theorem own_slt {i j : Int} (hi : i.natAbs ≤ 2 ^ 33) (hj : j.natAbs ≤ 2 ^ 33) : FP.Core.own_s i FP.Core.own_g < FP.Core.own_s j FP.Core.own_g ↔ i < j := by
  have hi' : i.natAbs ≤ 2 ^ 34 := by omega
  have hj' : j.natAbs ≤ 2 ^ 34 := by omega
  refine ⟨fun h => ?_, FP.Core.own_s_lt hi' hj'⟩
  by_cases q : j < i
  · have := FP.Core.own_s_lt hj' hi' q; omega
  · by_cases q2 : i = j
    · subst q2; omega
    · omega
theorem own_zero (a : Int32) : ((cmpValue (FP.dcmp (f4 (FP.i2d a)) FP.dconst0) .l) = (0 : Int32) ↔ a = (1500 : Int32)) ∧ ((0 : Int32) < (cmpValue (FP.dcmp (f4 (FP.i2d a)) FP.dconst0) .l) ↔ (1500 : Int32) < a) := by
  obtain ⟨c1, c2, c3⟩ := own_cv (own_mz a).2 own_z0.2 .l
  have hz := FP.Core.own_s_zero
  have l1 := own_slt (own_ir a) (j := 0) (by decide)
  have l2 := own_slt (i := 0) (by decide) (own_ir a)
  rw [c1, c2, (own_mz a).1, own_z0.1, Int32.lt_iff_toInt_lt, ← Int32.toInt_inj, show (1500 : Int32).toInt = 1500 from by decide]
  rw [hz] at l1 l2
  generalize FP.Core.own_s (a.toInt - 1500) FP.Core.own_g = v at *
  constructor
  · constructor
    · intro h
      have n1 : ¬ a.toInt - 1500 < 0 := fun q => by have := l1.mpr q; omega
      have n2 : ¬ 0 < a.toInt - 1500 := fun q => by have := l2.mpr q; omega
      omega
    · intro h
      have n1 : ¬ v < 0 := fun q => by have := l1.mp q; omega
      have n2 : ¬ 0 < v := fun q => by have := l2.mp q; omega
      omega
  · rw [l2]; omega
theorem own_z1 {a : Int32} (h : (cmpValue (FP.dcmp (f4 (FP.i2d a)) FP.dconst0) .l) = (0 : Int32)) : a = (1500 : Int32) := (own_zero a).1.mp h
theorem own_z2 {a : Int32} (h : ¬ (cmpValue (FP.dcmp (f4 (FP.i2d a)) FP.dconst0) .l) = (0 : Int32)) : ¬ a = (1500 : Int32) := fun q => h ((own_zero a).1.mpr q)
theorem own_p1 {a : Int32} (h : (0 : Int32) < (cmpValue (FP.dcmp (f4 (FP.i2d a)) FP.dconst0) .l)) : (1500 : Int32) < a := (own_zero a).2.mp h
theorem own_p2 {a : Int32} (h : ¬ (0 : Int32) < (cmpValue (FP.dcmp (f4 (FP.i2d a)) FP.dconst0) .l)) : ¬ (1500 : Int32) < a := fun q => h ((own_zero a).2.mpr q)
theorem own_mono (a b : Int32) : (cmpValue (FP.dcmp (f4 (FP.i2d a)) (f4 (FP.i2d b))) .g) < (0 : Int32) ↔ a < b := by
  rw [(own_cv (own_mz a).2 (own_mz b).2 .g).2.2, (own_mz a).1, (own_mz b).1, own_slt (own_ir a) (own_ir b), Int32.lt_iff_toInt_lt]; omega
theorem own_m1 {a b : Int32} (h : a < b) : (cmpValue (FP.dcmp (f4 (FP.i2d a)) (f4 (FP.i2d b))) .g) < (0 : Int32) := (own_mono a b).mpr h
theorem own_m2 {a b : Int32} (h : ¬ a < b) : ¬ (cmpValue (FP.dcmp (f4 (FP.i2d a)) (f4 (FP.i2d b))) .g) < (0 : Int32) := fun q => h ((own_mono a b).mp q)
theorem own_x (a : Int32) : FP.Core.DInt (a.toInt - 1500) (FP.l2d ((a.toInt64) - (1500 : Int64))) := by
  have h1 := a.toInt_lt
  have h2 := a.le_toInt
  have e : ((a.toInt64) - (1500 : Int64)).toInt = a.toInt - 1500 := by
    rw [Int64.toInt_sub, Int32.toInt_toInt64, show (1500 : Int64).toInt = 1500 from by decide]
    exact Int.bmod_eq_of_le (by omega) (by omega)
  have := FP.Core.l2d_int (a := (a.toInt64) - (1500 : Int64)) (by rw [e]; exact Nat.le_trans (own_ir a) (by decide))
  rw [e] at this; exact this
theorem own_sc (a : Int32) : FP.Core.DInt ((a.toInt - 1500) * 10000) (FP.dmul (FP.l2d ((a.toInt64) - (1500 : Int64))) (4666723172467343360 : UInt64)) :=
  FP.Core.dmul_int (own_x a) (by
    unfold FP.Core.DInt
    rw [show FP.Core.val64 4666723172467343360 = .fin false 5497558138880000 (-39) from by decide +kernel]
    show FP.Core.signed false (5497558138880000 * 2 ^ 0) = 10000 * ((2 ^ 39 : Nat) : Int)
    decide) (by have := own_ir a; rw [Int.natAbs_mul]; show _ * 10000 ≤ 2 ^ 53; omega)
theorem own_q {a : Int32} {b : UInt64} {d : Nat} (hb : FP.Core.val64 b = .fin false d (-32)) (hd : 0 < d) : FP.Core.zval FP.Core.b64 (FP.Core.val64 (FP.ddiv (FP.dmul (FP.l2d ((a.toInt64) - (1500 : Int64))) (4666723172467343360 : UInt64)) b)) = FP.Core.own_s (a.toInt - 1500) (fun n => FP.Core.own_z (10000 * n * 2 ^ 32) d) ∧ FP.Core.val64 (FP.ddiv (FP.dmul (FP.l2d ((a.toInt64) - (1500 : Int64))) (4666723172467343360 : UInt64)) b) ≠ .nan := by
  obtain ⟨h1, h2⟩ := FP.Core.own_quot (own_sc a) hb hd (by decide)
  refine ⟨h1.trans ?_, h2⟩
  unfold FP.Core.own_s
  rw [show decide ((a.toInt - 1500) * 10000 < 0) = decide (a.toInt - 1500 < 0) from by congr 1; exact propext ⟨fun _ => by omega, fun _ => by omega⟩, Int.natAbs_mul, Nat.mul_comm (a.toInt - 1500).natAbs]
  rfl
theorem own_q1 (a : Int32) : FP.Core.zval FP.Core.b64 (FP.Core.val64 (FP.ddiv (FP.dmul (FP.l2d ((a.toInt64) - (1500 : Int64))) (4666723172467343360 : UInt64)) (4700211938712354816 : UInt64))) = FP.Core.own_s (a.toInt - 1500) (fun n => FP.Core.own_z (10000 * n * 2 ^ 32) 7461126992297984) ∧ FP.Core.val64 (FP.ddiv (FP.dmul (FP.l2d ((a.toInt64) - (1500 : Int64))) (4666723172467343360 : UInt64)) (4700211938712354816 : UInt64)) ≠ .nan :=
  own_q (show FP.Core.val64 4700211938712354816 = .fin false 7461126992297984 (-32) from by decide +kernel) (by decide)
theorem own_q2 (a : Int32) : FP.Core.zval FP.Core.b64 (FP.Core.val64 (FP.ddiv (FP.dmul (FP.l2d ((a.toInt64) - (1500 : Int64))) (4666723172467343360 : UInt64)) (4700211930122420224 : UInt64))) = FP.Core.own_s (a.toInt - 1500) (fun n => FP.Core.own_z (10000 * n * 2 ^ 32) 7461118402363392) ∧ FP.Core.val64 (FP.ddiv (FP.dmul (FP.l2d ((a.toInt64) - (1500 : Int64))) (4666723172467343360 : UInt64)) (4700211930122420224 : UInt64)) ≠ .nan :=
  own_q (show FP.Core.val64 4700211930122420224 = .fin false 7461118402363392 (-32) from by decide +kernel) (by decide)
theorem own_xs (a : Int32) : (cmpValue (FP.dcmp (FP.l2d ((a.toInt64) - (1500 : Int64))) FP.dconst0) .l) < (0 : Int32) ↔ a.toInt - 1500 < 0 := by
  have hx := own_x a
  have hn : FP.Core.val64 (FP.l2d ((a.toInt64) - (1500 : Int64))) ≠ .nan := fun q => by unfold FP.Core.DInt at hx; rw [q] at hx; exact hx
  have hw := FP.Core.whole_zval FP.Core.good_b64 (FP.Core.val64_fits _) hx
  rw [(own_cv hn own_z0.2 .l).2.2, own_z0.1, hw]
  have hp : (0 : Int) < ((2 ^ (-FP.Core.b64.qmin).toNat : Nat) : Int) := Int.natCast_pos.mpr (Nat.two_pow_pos _)
  generalize ((2 ^ (-FP.Core.b64.qmin).toNat : Nat) : Int) = P at *
  constructor
  · intro h; exact Int.lt_of_not_ge fun q => by have := Int.mul_nonneg q (Int.le_of_lt hp); omega
  · intro h; exact Int.mul_neg_of_neg_of_pos h hp
theorem own_b1 (a : Int32) (h : ¬ (cmpValue (FP.dcmp (FP.l2d ((a.toInt64) - (1500 : Int64))) FP.dconst0) .l) < (0 : Int32)) : ¬ ((0 : Int32) < (cmpValue (FP.dcmp (FP.ddiv (FP.dmul (FP.l2d ((a.toInt64) - (1500 : Int64))) (4666723172467343360 : UInt64)) (4700211938712354816 : UInt64)) (f4 (FP.i2d a))) .g)) := by
  rw [own_xs] at h
  rw [(own_cv (own_q1 a).2 (own_mz a).2 .g).2.1, (own_q1 a).1, (own_mz a).1]
  have := FP.Core.own_lo (n := (a.toInt - 1500).natAbs) (Nat.le_trans (own_ir a) (by decide))
  unfold FP.Core.own_s FP.Core.signed
  simp only [h, decide_false, Bool.false_eq_true, if_false]; omega
theorem own_b2 (a : Int32) (h : ¬ (cmpValue (FP.dcmp (FP.l2d ((a.toInt64) - (1500 : Int64))) FP.dconst0) .l) < (0 : Int32)) : ¬ ((0 : Int32) < (cmpValue (FP.dcmp (f4 (FP.i2d a)) (FP.ddiv (FP.dmul (FP.l2d ((a.toInt64) - (1500 : Int64))) (4666723172467343360 : UInt64)) (4700211930122420224 : UInt64))) .g)) := by
  rw [own_xs] at h
  rw [(own_cv (own_mz a).2 (own_q2 a).2 .g).2.1, (own_q2 a).1, (own_mz a).1]
  have := FP.Core.own_hi (n := (a.toInt - 1500).natAbs) (Nat.le_trans (own_ir a) (by decide))
  unfold FP.Core.own_s FP.Core.signed
  simp only [h, decide_false, Bool.false_eq_true, if_false]; omega
theorem own_b3 (a : Int32) (h : (cmpValue (FP.dcmp (FP.l2d ((a.toInt64) - (1500 : Int64))) FP.dconst0) .l) < (0 : Int32)) : ¬ ((0 : Int32) < (cmpValue (FP.dcmp (FP.ddiv (FP.dmul (FP.l2d ((a.toInt64) - (1500 : Int64))) (4666723172467343360 : UInt64)) (4700211930122420224 : UInt64)) (f4 (FP.i2d a))) .g)) := by
  rw [own_xs] at h
  rw [(own_cv (own_q2 a).2 (own_mz a).2 .g).2.1, (own_q2 a).1, (own_mz a).1]
  have := FP.Core.own_hi (n := (a.toInt - 1500).natAbs) (Nat.le_trans (own_ir a) (by decide))
  unfold FP.Core.own_s FP.Core.signed
  simp only [h, decide_true, if_true]; omega
theorem own_b4 (a : Int32) (h : (cmpValue (FP.dcmp (FP.l2d ((a.toInt64) - (1500 : Int64))) FP.dconst0) .l) < (0 : Int32)) : ¬ ((0 : Int32) < (cmpValue (FP.dcmp (f4 (FP.i2d a)) (FP.ddiv (FP.dmul (FP.l2d ((a.toInt64) - (1500 : Int64))) (4666723172467343360 : UInt64)) (4700211938712354816 : UInt64))) .g)) := by
  rw [own_xs] at h
  rw [(own_cv (own_mz a).2 (own_q1 a).2 .g).2.1, (own_q1 a).1, (own_mz a).1]
  have := FP.Core.own_lo (n := (a.toInt - 1500).natAbs) (Nat.le_trans (own_ir a) (by decide))
  unfold FP.Core.own_s FP.Core.signed
  simp only [h, decide_true, if_true]; omega

theorem own_nn {a : UInt64} (h : FP.Core.val64 a ≠ .nan) : Jvm.Free.Fl.NoNaN64 a := Jvm.Free.Fl.noNaN64_no.mpr (by
  cases hb : FP.Core.dIsNaN a with
  | false => rfl
  | true => exact absurd ((FP.Core.dIsNaN_iff a).mp hb) h)
theorem own_ni {i : Int} {a : UInt64} (h : FP.Core.DInt i a) : Jvm.Free.Fl.NoNaN64 a := own_nn fun q => by unfold FP.Core.DInt at h; rw [q] at h; exact h
theorem own_n1 (a : Int32) : Jvm.Free.Fl.NoNaN64 (FP.dsub (FP.i2d a) (4654311885213007872 : UInt64)) := own_ni (own_d a)
theorem own_n2 (a : Int32) : Jvm.Free.Fl.NoNaN64 (FP.ddiv (FP.dsub (FP.i2d a) (4654311885213007872 : UInt64)) (4640316168277893684 : UInt64)) := own_nn (own_mz a).2
theorem own_n3 (a : Int32) : Jvm.Free.Fl.NoNaN64 (FP.dmul (FP.l2d ((a.toInt64) - (1500 : Int64))) (4666723172467343360 : UInt64)) := own_ni (own_sc a)
theorem own_n4 (a : Int32) : Jvm.Free.Fl.NoNaN64 (FP.ddiv (FP.dmul (FP.l2d ((a.toInt64) - (1500 : Int64))) (4666723172467343360 : UInt64)) (4700211938712354816 : UInt64)) := own_nn (own_q1 a).2
theorem own_n5 (a : Int32) : Jvm.Free.Fl.NoNaN64 (FP.ddiv (FP.dmul (FP.l2d ((a.toInt64) - (1500 : Int64))) (4666723172467343360 : UInt64)) (4700211930122420224 : UInt64)) := own_nn (own_q2 a).2
def Q0 (Z : State) (p0 : Int32) (p1 : Int32) (p2 : Int32) (p3 : Int32) (p4 : Int32) (p5 : Int32) (un : Addr) (h0 : Heap) (n0 : Nat) (v : Option Value) (h : Heap) (L : List Loc) : Prop := v = some (.int (1 : Int32)) ∧ Fr n0 L
set_option maxRecDepth 65536 in
set_option maxHeartbeats 40000000 in
theorem rm0 (l : Launch) (Z : State) (a0 : Array Value) (hw : ∀ d ∈ tables_1, d.before a0 Z = true) (ws : List Jvm.Cond) (p0 : Int32) (p1 : Int32) (p2 : Int32) (p3 : Int32) (p4 : Int32) (p5 : Int32) (un : Addr) (h0 : Heap) (n0 : Nat) (Z0 : n0 ≤ h0.size) (S_UNRATED : Sta Z h0 "com/example/cratewise/cratewise/ranking/Rating" "UNRATED" "Lcom/example/cratewise/cratewise/ranking/Rating;" (.ref un)) (F_rating_un : Fld Z h0 un "com/example/cratewise/cratewise/ranking/Rating" "rating" "D" (.double (4654311885213007872 : UInt64))) (E_un : Exa Z h0 un "com/example/cratewise/cratewise/ranking/Rating") :
    MetFree l x (head1 (Jvm.Cond.code x code maxLocals ret :: ws) room_1) (fun a U => a = #[(.int p0), (.int p1), (.int p2), (.int p3), (.int p4), (.int p5)] ∧ Z.Warmed39 U.vm ∧ U.heap = h0) (fun _ _ _ _ _ => True) (fun _ U o U' => ∃ v L, o = .returned v ∧ Q0 Z p0 p1 p2 p3 p4 p5 un h0 n0 v U'.heap L ∧ FrameEnd U o U' L room_1.cells room_1.slots) := by
  refine MetFree.of_bodySF (plainFor_of_name pn_0) hisR ?_
  intro p e s m args below meth c s₁ Bd hml0 hP hK
  obtain ⟨rfl, hZ, hh⟩ := hP
  have hx := Bd.exec
  have hby := Bd.bytes
  have hml : c.maxLocals = 28 := hml0
  have hown : s.vm.findClass "com/example/cratewise/cratewise/ranking/RatingMuPinLaw" = some m.cls := findClass_of_methodNamed Bd.named
  have hnm := (name_of_methodNamed Bd.named Bd.method).1
  have X0 : Stand p l e room_1 s m #[(.int p0), (.int p1), (.int p2), (.int p3), (.int p4), (.int p5)] below meth c s₁ [] 0 0 := Stand.of_body Bd
  have e0 : s₁.heap = h0 := by rw [← hh, Bd.state]; rfl
  have N0 := Fr.nil n0
  have pre0 : ∀ t, Steps p.tables e below (s₁.setTop (mkF m 0 #[.val (.int p0), .val (.int p1), .val (.int p2), .val (.int p3), .val (.int p4), .val (.int p5), .unset, .unset, .unset, .unset, .unset, .unset, .unset, .unset, .unset, .unset, .unset, .unset, .unset, .unset, .unset, .unset, .unset, .unset, .unset, .unset, .unset, .unset] [])) t → Steps p.tables e below (s₁.setTop (entryFrame m #[(.int p0), (.int p1), (.int p2), (.int p3), (.int p4), (.int p5)] maxLocals)) t := fun t k => castTop (ef_0 m p0 p1 p2 p3 p4 p5) k
  obtain ⟨T1, h1, X1, e1, E1, A1, D1, -, st1⟩ := newO X0 hx hZ hown (hw _ (List.mem_of_getElem? (i := 0) rfl)) (hw _ (List.mem_of_getElem? (i := 1) rfl)) (hw _ (List.mem_of_getElem? (i := 2) rfl)) e0 (g := (mkF m 0 #[.val (.int p0), .val (.int p1), .val (.int p2), .val (.int p3), .val (.int p4), .val (.int p5), .unset, .unset, .unset, .unset, .unset, .unset, .unset, .unset, .unset, .unset, .unset, .unset, .unset, .unset, .unset, .unset, .unset, .unset, .unset, .unset, .unset, .unset] [])) rfl (hb hby at_0) (by decide) (by decide)
  obtain ⟨b1, g1⟩ : ∃ z, z = h0.size := ⟨_, rfl⟩
  rw [← g1] at A1 D1 st1
  have g_b1 : n0 ≤ b1 := Nat.le_trans Z0 (Nat.le_of_eq g1.symm)
  have sz_b1 : h0.size ≤ b1 := Nat.le_trans (Keep.refl h0 []).1 (Nat.le_of_eq g1.symm)
  have ne_un_b1 : un ≠ b1 := Nat.ne_of_lt (Nat.lt_of_lt_of_le F_rating_un.lt (Nat.le_of_eq g1.symm))
  have K2 : Keep h0 h1 [] := (Keep.refl h0 []).ext E1
  have Z3 : n0 ≤ h1.size := Nat.le_trans Z0 K2.1
  have E_b1 := A1
  have F_rating_b1 : Fld Z h1 b1 "com/example/cratewise/cratewise/ranking/Rating" "rating" "D" (.double (0 : UInt64)) := D1 (Or.inr (hw _ (List.mem_of_getElem? (i := 15) rfl))) (ty := .double) (by decide)
  have F_deviation_b1 : Fld Z h1 b1 "com/example/cratewise/cratewise/ranking/Rating" "deviation" "D" (.double (0 : UInt64)) := D1 (Or.inr (hw _ (List.mem_of_getElem? (i := 17) rfl))) (ty := .double) (by decide)
  have F_volatility_b1 : Fld Z h1 b1 "com/example/cratewise/cratewise/ranking/Rating" "volatility" "D" (.double (0 : UInt64)) := D1 (Or.inr (hw _ (List.mem_of_getElem? (i := 19) rfl))) (ty := .double) (by decide)
  obtain ⟨_, _, ⟨T4, L4, k4, n4⟩, -, X4, ⟨Lc4, hQ4, l4, y4, z4⟩, st4⟩ := X1.specialBack hx (y := (⟨"com/example/cratewise/cratewise/ranking/Rating", "<init>", "(DDD)V"⟩ : MethodName)) rfl hown (mvT hZ (hw _ (List.mem_of_getElem? (i := 3) rfl))) (mvT hZ (hw _ (List.mem_of_getElem? (i := 4) rfl))) (mvT hZ (hw _ (List.mem_of_getElem? (i := 5) rfl))) (by decide) (backOf (W := 1) (rm1 l Z a0 hw [] b1 (FP.i2d p0) (FP.i2d p2) (FP.i2d p4) (0 : UInt64) (0 : UInt64) (0 : UInt64) h1 n0 Z3 E_b1 F_rating_b1 g_b1 F_deviation_b1 F_volatility_b1) hZ (hw _ (List.mem_of_getElem? (i := 5) rfl)) (hw _ (List.mem_of_getElem? (i := 2) rfl)) (by decide) (by decide)) (g := (mkF m 11 #[.val (.int p0), .val (.int p1), .val (.int p2), .val (.int p3), .val (.int p4), .val (.int p5), .unset, .unset, .unset, .unset, .unset, .unset, .unset, .unset, .unset, .unset, .unset, .unset, .unset, .unset, .unset, .unset, .unset, .unset, .unset, .unset, .unset, .unset] [(.double (FP.i2d p4)), (.double (FP.i2d p2)), (.double (FP.i2d p0)), (.ref b1), (.ref b1)])) rfl (by rw [hml]; rfl) (Steps.refl _) (a := b1) (argsL := [(.double (FP.i2d p0)), (.double (FP.i2d p2)), (.double (FP.i2d p4))]) (rest := [(.ref b1)]) (lenOf pd_0_0 rfl) rfl (by show 2 * 0 + _ ≤ _; exact Nat.le_of_eq rfl) (hb hby at_11) (fun _ _ => ⟨rfl, e1, (by decide : 1 + 0 ≤ _), (by decide : 3 + 0 ≤ _)⟩)
  dsimp only [Pt.U, Pt.locs, Pt.cells, Pt.slots] at X4 l4 y4 z4 st4 hQ4
  subst l4 y4 z4
  obtain ⟨rfl, N4q, K4q, G4_0, G4_1, G4_2⟩ := hQ4
  have N4 := Fr.app N0 N4q
  have S5 := own_Sta_keep (S_UNRATED.ext E1) K4q (allS (own_Exa_st E_b1) all0)
  have K6 : Keep h0 T4.heap [] := K2.trans K4q (allS (Or.inr sz_b1) all0)
  have Z7 : n0 ≤ T4.heap.size := Nat.le_trans Z0 K6.1
  obtain ⟨LS4, X4, N4⟩ : ∃ L, Stand p l e room_1 s m #[(.int p0), (.int p1), (.int p2), (.int p3), (.int p4), (.int p5)] below meth c T4 L 1 3 ∧ Fr n0 L := ⟨_, X4, N4⟩
  obtain ⟨T8, h8, X8, e8, E8, A8, D8, -, st8⟩ := newO X4 hx hZ hown (hw _ (List.mem_of_getElem? (i := 0) rfl)) (hw _ (List.mem_of_getElem? (i := 1) rfl)) (hw _ (List.mem_of_getElem? (i := 2) rfl)) rfl (g := (mkF m 16 #[.val (.int p0), .val (.int p1), .val (.int p2), .val (.int p3), .val (.int p4), .val (.int p5), .val (.ref b1), .unset, .unset, .unset, .unset, .unset, .unset, .unset, .unset, .unset, .unset, .unset, .unset, .unset, .unset, .unset, .unset, .unset, .unset, .unset, .unset, .unset] [])) rfl (hb hby at_16) (by decide) (by decide)
  obtain ⟨b8, g8⟩ : ∃ z, z = T4.heap.size := ⟨_, rfl⟩
  rw [← g8] at A8 D8 st8
  have g_b8 : n0 ≤ b8 := Nat.le_trans Z7 (Nat.le_of_eq g8.symm)
  have sz_b8 : h0.size ≤ b8 := Nat.le_trans K6.1 (Nat.le_of_eq g8.symm)
  have ne_un_b8 : un ≠ b8 := Nat.ne_of_lt (Nat.lt_of_lt_of_le ((F_rating_un.ext E1).keep K4q (ninS ne_un_b1 nin0)).lt (Nat.le_of_eq g8.symm))
  have ne_b1_b8 : b1 ≠ b8 := Nat.ne_of_lt (Nat.lt_of_lt_of_le (E_b1.keep K4q).lt (Nat.le_of_eq g8.symm))
  have K9 : Keep h0 h8 [] := K6.ext E8
  have Z10 : n0 ≤ h8.size := Nat.le_trans Z0 K9.1
  have E_b8 := A8
  have F_rating_b8 : Fld Z h8 b8 "com/example/cratewise/cratewise/ranking/Rating" "rating" "D" (.double (0 : UInt64)) := D8 (Or.inr (hw _ (List.mem_of_getElem? (i := 15) rfl))) (ty := .double) (by decide)
  have F_deviation_b8 : Fld Z h8 b8 "com/example/cratewise/cratewise/ranking/Rating" "deviation" "D" (.double (0 : UInt64)) := D8 (Or.inr (hw _ (List.mem_of_getElem? (i := 17) rfl))) (ty := .double) (by decide)
  have F_volatility_b8 : Fld Z h8 b8 "com/example/cratewise/cratewise/ranking/Rating" "volatility" "D" (.double (0 : UInt64)) := D8 (Or.inr (hw _ (List.mem_of_getElem? (i := 19) rfl))) (ty := .double) (by decide)
  obtain ⟨_, _, ⟨T11, L11, k11, n11⟩, -, X11, ⟨Lc11, hQ11, l11, y11, z11⟩, st11⟩ := X8.specialBack hx (y := (⟨"com/example/cratewise/cratewise/ranking/Rating", "<init>", "(DDD)V"⟩ : MethodName)) rfl hown (mvT hZ (hw _ (List.mem_of_getElem? (i := 3) rfl))) (mvT hZ (hw _ (List.mem_of_getElem? (i := 4) rfl))) (mvT hZ (hw _ (List.mem_of_getElem? (i := 5) rfl))) (by decide) (backOf (W := 1) (rm1 l Z a0 hw [] b8 (FP.i2d p0) (FP.i2d p3) (FP.i2d p5) (0 : UInt64) (0 : UInt64) (0 : UInt64) h8 n0 Z10 E_b8 F_rating_b8 g_b8 F_deviation_b8 F_volatility_b8) hZ (hw _ (List.mem_of_getElem? (i := 5) rfl)) (hw _ (List.mem_of_getElem? (i := 2) rfl)) (by decide) (by decide)) (g := (mkF m 27 #[.val (.int p0), .val (.int p1), .val (.int p2), .val (.int p3), .val (.int p4), .val (.int p5), .val (.ref b1), .unset, .unset, .unset, .unset, .unset, .unset, .unset, .unset, .unset, .unset, .unset, .unset, .unset, .unset, .unset, .unset, .unset, .unset, .unset, .unset, .unset] [(.double (FP.i2d p5)), (.double (FP.i2d p3)), (.double (FP.i2d p0)), (.ref b8), (.ref b8)])) rfl (by rw [hml]; rfl) (Steps.refl _) (a := b8) (argsL := [(.double (FP.i2d p0)), (.double (FP.i2d p3)), (.double (FP.i2d p5))]) (rest := [(.ref b8)]) (lenOf pd_0_0 rfl) rfl (by show 2 * 0 + _ ≤ _; exact Nat.le_of_eq rfl) (hb hby at_27) (fun _ _ => ⟨rfl, e8, (by decide : 2 + 0 ≤ _), (by decide : 6 + 0 ≤ _)⟩)
  dsimp only [Pt.U, Pt.locs, Pt.cells, Pt.slots] at X11 l11 y11 z11 st11 hQ11
  subst l11 y11 z11
  obtain ⟨rfl, N11q, K11q, G11_0, G11_1, G11_2⟩ := hQ11
  have N11 := Fr.app N4 N11q
  have S12 := own_Sta_keep (S5.ext E8) K11q (allS (own_Exa_st E_b8) all0)
  have K13 : Keep h0 T11.heap [] := K9.trans K11q (allS (Or.inr sz_b8) all0)
  have Z14 : n0 ≤ T11.heap.size := Nat.le_trans Z0 K13.1
  obtain ⟨LS11, X11, N11⟩ : ∃ L, Stand p l e room_1 s m #[(.int p0), (.int p1), (.int p2), (.int p3), (.int p4), (.int p5)] below meth c T11 L 2 6 ∧ Fr n0 L := ⟨_, X11, N11⟩
  obtain ⟨T15, h15, X15, e15, E15, A15, D15, -, st15⟩ := newO X11 hx hZ hown (hw _ (List.mem_of_getElem? (i := 0) rfl)) (hw _ (List.mem_of_getElem? (i := 1) rfl)) (hw _ (List.mem_of_getElem? (i := 2) rfl)) rfl (g := (mkF m 32 #[.val (.int p0), .val (.int p1), .val (.int p2), .val (.int p3), .val (.int p4), .val (.int p5), .val (.ref b1), .val (.ref b8), .unset, .unset, .unset, .unset, .unset, .unset, .unset, .unset, .unset, .unset, .unset, .unset, .unset, .unset, .unset, .unset, .unset, .unset, .unset, .unset] [])) rfl (hb hby at_32) (by decide) (by decide)
  obtain ⟨b15, g15⟩ : ∃ z, z = T11.heap.size := ⟨_, rfl⟩
  rw [← g15] at A15 D15 st15
  have g_b15 : n0 ≤ b15 := Nat.le_trans Z14 (Nat.le_of_eq g15.symm)
  have sz_b15 : h0.size ≤ b15 := Nat.le_trans K13.1 (Nat.le_of_eq g15.symm)
  have c16 := ((((F_rating_un.ext E1).keep K4q (ninS ne_un_b1 nin0)).ext E8).keep K11q (ninS ne_un_b8 nin0))
  have ne_un_b15 : un ≠ b15 := Nat.ne_of_lt (Nat.lt_of_lt_of_le c16.lt (Nat.le_of_eq g15.symm))
  have ne_b1_b15 : b1 ≠ b15 := Nat.ne_of_lt (Nat.lt_of_lt_of_le (((E_b1.keep K4q).ext E8).keep K11q).lt (Nat.le_of_eq g15.symm))
  have ne_b8_b15 : b8 ≠ b15 := Nat.ne_of_lt (Nat.lt_of_lt_of_le (E_b8.keep K11q).lt (Nat.le_of_eq g15.symm))
  have K17 : Keep h0 h15 [] := K13.ext E15
  have Z18 : n0 ≤ h15.size := Nat.le_trans Z0 K17.1
  have E_b15 := A15
  have F_rating_b15 : Fld Z h15 b15 "com/example/cratewise/cratewise/ranking/Rating" "rating" "D" (.double (0 : UInt64)) := D15 (Or.inr (hw _ (List.mem_of_getElem? (i := 15) rfl))) (ty := .double) (by decide)
  have F_deviation_b15 : Fld Z h15 b15 "com/example/cratewise/cratewise/ranking/Rating" "deviation" "D" (.double (0 : UInt64)) := D15 (Or.inr (hw _ (List.mem_of_getElem? (i := 17) rfl))) (ty := .double) (by decide)
  have F_volatility_b15 : Fld Z h15 b15 "com/example/cratewise/cratewise/ranking/Rating" "volatility" "D" (.double (0 : UInt64)) := D15 (Or.inr (hw _ (List.mem_of_getElem? (i := 19) rfl))) (ty := .double) (by decide)
  obtain ⟨_, _, ⟨T19, L19, k19, n19⟩, -, X19, ⟨Lc19, hQ19, l19, y19, z19⟩, st19⟩ := X15.specialBack hx (y := (⟨"com/example/cratewise/cratewise/ranking/Rating", "<init>", "(DDD)V"⟩ : MethodName)) rfl hown (mvT hZ (hw _ (List.mem_of_getElem? (i := 3) rfl))) (mvT hZ (hw _ (List.mem_of_getElem? (i := 4) rfl))) (mvT hZ (hw _ (List.mem_of_getElem? (i := 5) rfl))) (by decide) (backOf (W := 1) (rm1 l Z a0 hw [] b15 (FP.i2d p1) (FP.i2d p2) (FP.i2d p4) (0 : UInt64) (0 : UInt64) (0 : UInt64) h15 n0 Z18 E_b15 F_rating_b15 g_b15 F_deviation_b15 F_volatility_b15) hZ (hw _ (List.mem_of_getElem? (i := 5) rfl)) (hw _ (List.mem_of_getElem? (i := 2) rfl)) (by decide) (by decide)) (g := (mkF m 43 #[.val (.int p0), .val (.int p1), .val (.int p2), .val (.int p3), .val (.int p4), .val (.int p5), .val (.ref b1), .val (.ref b8), .unset, .unset, .unset, .unset, .unset, .unset, .unset, .unset, .unset, .unset, .unset, .unset, .unset, .unset, .unset, .unset, .unset, .unset, .unset, .unset] [(.double (FP.i2d p4)), (.double (FP.i2d p2)), (.double (FP.i2d p1)), (.ref b15), (.ref b15)])) rfl (by rw [hml]; rfl) (Steps.refl _) (a := b15) (argsL := [(.double (FP.i2d p1)), (.double (FP.i2d p2)), (.double (FP.i2d p4))]) (rest := [(.ref b15)]) (lenOf pd_0_0 rfl) rfl (by show 2 * 0 + _ ≤ _; exact Nat.le_of_eq rfl) (hb hby at_43) (fun _ _ => ⟨rfl, e15, (by decide : 3 + 0 ≤ _), (by decide : 9 + 0 ≤ _)⟩)
  dsimp only [Pt.U, Pt.locs, Pt.cells, Pt.slots] at X19 l19 y19 z19 st19 hQ19
  subst l19 y19 z19
  obtain ⟨rfl, N19q, K19q, G19_0, G19_1, G19_2⟩ := hQ19
  have N19 := Fr.app N11 N19q
  have S20 := own_Sta_keep (S12.ext E15) K19q (allS (own_Exa_st E_b15) all0)
  have K21 : Keep h0 T19.heap [] := K17.trans K19q (allS (Or.inr sz_b15) all0)
  have Z22 : n0 ≤ T19.heap.size := Nat.le_trans Z0 K21.1
  obtain ⟨LS19, X19, N19⟩ : ∃ L, Stand p l e room_1 s m #[(.int p0), (.int p1), (.int p2), (.int p3), (.int p4), (.int p5)] below meth c T19 L 3 9 ∧ Fr n0 L := ⟨_, X19, N19⟩
  have c24 := ((((G4_0.ext E8).keep K11q (ninS ne_b1_b8 nin0)).ext E15).keep K19q (ninS ne_b1_b15 nin0))
  obtain ⟨cq23, kq23, q23a, q23b, q23c⟩ := isOf hZ rfl (((((E_b1.keep K4q).ext E8).keep K11q).ext E15).keep K19q)
  obtain ⟨_, _, ⟨T23, L23, k23, n23⟩, -, X23, ⟨Lc23, hQ23, l23, y23, z23⟩, st23⟩ := X19.virtualBack hx (y := (⟨"com/example/cratewise/cratewise/ranking/Rating", "mu", "()D"⟩ : MethodName)) (z := (⟨"com/example/cratewise/cratewise/ranking/Rating", "mu", "()D"⟩ : MethodName)) hown (mvT hZ (hw _ (List.mem_of_getElem? (i := 20) rfl))) (mvT hZ (hw _ (List.mem_of_getElem? (i := 21) rfl))) (notFace_of_selects (args := #[]) (mvT hZ (hw _ (List.mem_of_getElem? (i := 23) rfl)))) (mvT hZ (hw _ (List.mem_of_getElem? (i := 23) rfl))) (mvT hZ (hw _ (List.mem_of_getElem? (i := 22) rfl))) (by decide) (backOf (W := 0) (rm4 l Z a0 hw [] b1 (FP.i2d p0) un T19.heap n0 Z22 c24 S20 ((c16.ext E15).keep K19q (ninS ne_un_b15 nin0)) (own_n1 _) (own_n2 _)) hZ (hw _ (List.mem_of_getElem? (i := 24) rfl)) (hw _ (List.mem_of_getElem? (i := 2) rfl)) (by decide) (by decide)) q23a q23c (g := (mkF m 50 #[.val (.int p0), .val (.int p1), .val (.int p2), .val (.int p3), .val (.int p4), .val (.int p5), .val (.ref b1), .val (.ref b8), .val (.ref b15), .unset, .unset, .unset, .unset, .unset, .unset, .unset, .unset, .unset, .unset, .unset, .unset, .unset, .unset, .unset, .unset, .unset, .unset, .unset] [(.ref b1)])) rfl (by rw [hml]; rfl) (Steps.refl _) (argsL := []) (rest := []) (lenOf pd_0_1 rfl) rfl (by show 2 * 0 + _ ≤ _; exact Nat.le_of_eq rfl) (hb hby at_50) (fun _ _ => ⟨rfl, rfl, (by decide : 3 + 0 ≤ _), (by decide : 9 + 0 ≤ _)⟩)
  dsimp only [Pt.U, Pt.locs, Pt.cells, Pt.slots] at X23 l23 y23 z23 st23 hQ23
  subst l23 y23 z23
  obtain ⟨rfl, N23q, e23q⟩ := hQ23
  have N23 := Fr.app N19 N23q
  obtain ⟨cq25, kq25, q25a, q25b, q25c⟩ := isOf hZ e23q (((E_b8.keep K11q).ext E15).keep K19q)
  obtain ⟨_, _, ⟨T25, L25, k25, n25⟩, -, X25, ⟨Lc25, hQ25, l25, y25, z25⟩, st25⟩ := X23.virtualBack hx (y := (⟨"com/example/cratewise/cratewise/ranking/Rating", "mu", "()D"⟩ : MethodName)) (z := (⟨"com/example/cratewise/cratewise/ranking/Rating", "mu", "()D"⟩ : MethodName)) hown (mvT hZ (hw _ (List.mem_of_getElem? (i := 20) rfl))) (mvT hZ (hw _ (List.mem_of_getElem? (i := 21) rfl))) (notFace_of_selects (args := #[]) (mvT hZ (hw _ (List.mem_of_getElem? (i := 23) rfl)))) (mvT hZ (hw _ (List.mem_of_getElem? (i := 23) rfl))) (mvT hZ (hw _ (List.mem_of_getElem? (i := 22) rfl))) (by decide) (backOf (W := 0) (rm4 l Z a0 hw [] b8 (FP.i2d p0) un T19.heap n0 Z22 ((G11_0.ext E15).keep K19q (ninS ne_b8_b15 nin0)) S20 ((c16.ext E15).keep K19q (ninS ne_un_b15 nin0)) (own_n1 _) (own_n2 _)) hZ (hw _ (List.mem_of_getElem? (i := 24) rfl)) (hw _ (List.mem_of_getElem? (i := 2) rfl)) (by decide) (by decide)) q25a q25c (g := (mkF m 57 #[.val (.int p0), .val (.int p1), .val (.int p2), .val (.int p3), .val (.int p4), .val (.int p5), .val (.ref b1), .val (.ref b8), .val (.ref b15), .val (.double (f4 (FP.i2d p0))), .second, .unset, .unset, .unset, .unset, .unset, .unset, .unset, .unset, .unset, .unset, .unset, .unset, .unset, .unset, .unset, .unset, .unset] [(.ref b8)])) rfl (by rw [hml]; rfl) (Steps.refl _) (argsL := []) (rest := []) (lenOf pd_0_1 rfl) rfl (by show 2 * 0 + _ ≤ _; exact Nat.le_of_eq rfl) (hb hby at_57) (fun _ _ => ⟨rfl, e23q, (by decide : 3 + 0 ≤ _), (by decide : 9 + 0 ≤ _)⟩)
  dsimp only [Pt.U, Pt.locs, Pt.cells, Pt.slots] at X25 l25 y25 z25 st25 hQ25
  subst l25 y25 z25
  obtain ⟨rfl, N25q, e25q⟩ := hQ25
  have N25 := Fr.app N23 N25q
  obtain ⟨cq26, kq26, q26a, q26b, q26c⟩ := isOf hZ e25q (E_b15.keep K19q)
  obtain ⟨_, _, ⟨T26, L26, k26, n26⟩, -, X26, ⟨Lc26, hQ26, l26, y26, z26⟩, st26⟩ := X25.virtualBack hx (y := (⟨"com/example/cratewise/cratewise/ranking/Rating", "mu", "()D"⟩ : MethodName)) (z := (⟨"com/example/cratewise/cratewise/ranking/Rating", "mu", "()D"⟩ : MethodName)) hown (mvT hZ (hw _ (List.mem_of_getElem? (i := 20) rfl))) (mvT hZ (hw _ (List.mem_of_getElem? (i := 21) rfl))) (notFace_of_selects (args := #[]) (mvT hZ (hw _ (List.mem_of_getElem? (i := 23) rfl)))) (mvT hZ (hw _ (List.mem_of_getElem? (i := 23) rfl))) (mvT hZ (hw _ (List.mem_of_getElem? (i := 22) rfl))) (by decide) (backOf (W := 0) (rm4 l Z a0 hw [] b15 (FP.i2d p1) un T19.heap n0 Z22 G19_0 S20 ((c16.ext E15).keep K19q (ninS ne_un_b15 nin0)) (own_n1 _) (own_n2 _)) hZ (hw _ (List.mem_of_getElem? (i := 24) rfl)) (hw _ (List.mem_of_getElem? (i := 2) rfl)) (by decide) (by decide)) q26a q26c (g := (mkF m 64 #[.val (.int p0), .val (.int p1), .val (.int p2), .val (.int p3), .val (.int p4), .val (.int p5), .val (.ref b1), .val (.ref b8), .val (.ref b15), .val (.double (f4 (FP.i2d p0))), .second, .val (.double (f4 (FP.i2d p0))), .second, .unset, .unset, .unset, .unset, .unset, .unset, .unset, .unset, .unset, .unset, .unset, .unset, .unset, .unset, .unset] [(.ref b15)])) rfl (by rw [hml]; rfl) (Steps.refl _) (argsL := []) (rest := []) (lenOf pd_0_1 rfl) rfl (by show 2 * 0 + _ ≤ _; exact Nat.le_of_eq rfl) (hb hby at_64) (fun _ _ => ⟨rfl, e25q, (by decide : 3 + 0 ≤ _), (by decide : 9 + 0 ≤ _)⟩)
  dsimp only [Pt.U, Pt.locs, Pt.cells, Pt.slots] at X26 l26 y26 z26 st26 hQ26
  subst l26 y26 z26
  obtain ⟨rfl, N26q, e26q⟩ := hQ26
  have N26 := Fr.app N25 N26q
  have pre27 : ∀ t, Steps p.tables e below (T26.setTop (mkF m 74 #[.val (.int p0), .val (.int p1), .val (.int p2), .val (.int p3), .val (.int p4), .val (.int p5), .val (.ref b1), .val (.ref b8), .val (.ref b15), .val (.double (f4 (FP.i2d p0))), .second, .val (.double (f4 (FP.i2d p0))), .second, .val (.double (f4 (FP.i2d p1))), .second, .unset, .unset, .unset, .unset, .unset, .unset, .unset, .unset, .unset, .unset, .unset, .unset, .unset] [(.int (cmpValue (FP.dcmp (f4 (FP.i2d p0)) (f4 (FP.i2d p0))) .l))])) t → Steps p.tables e below (s₁.setTop (entryFrame m #[(.int p0), (.int p1), (.int p2), (.int p3), (.int p4), (.int p5)] maxLocals)) t := fun t kt => pre0 t (by
      show Steps p.tables e below (s₁.setTop (mkF m 0 #[.val (.int p0), .val (.int p1), .val (.int p2), .val (.int p3), .val (.int p4), .val (.int p5), .unset, .unset, .unset, .unset, .unset, .unset, .unset, .unset, .unset, .unset, .unset, .unset, .unset, .unset, .unset, .unset, .unset, .unset, .unset, .unset, .unset, .unset] [])) _
      refine st1 _ ?_
      show Steps p.tables e below (T1.setTop (mkF m 3 #[.val (.int p0), .val (.int p1), .val (.int p2), .val (.int p3), .val (.int p4), .val (.int p5), .unset, .unset, .unset, .unset, .unset, .unset, .unset, .unset, .unset, .unset, .unset, .unset, .unset, .unset, .unset, .unset, .unset, .unset, .unset, .unset, .unset, .unset] [(.ref b1)])) _
      refine XS.dup X1.here hx rfl (hb hby at_3) rfl rfl ?_
      show Steps p.tables e below (T1.setTop (mkF m 4 #[.val (.int p0), .val (.int p1), .val (.int p2), .val (.int p3), .val (.int p4), .val (.int p5), .unset, .unset, .unset, .unset, .unset, .unset, .unset, .unset, .unset, .unset, .unset, .unset, .unset, .unset, .unset, .unset, .unset, .unset, .unset, .unset, .unset, .unset] [(.ref b1), (.ref b1)])) _
      refine XS.iloadN X1.here hx rfl (hb hby at_4) rfl ?_
      show Steps p.tables e below (T1.setTop (mkF m 5 #[.val (.int p0), .val (.int p1), .val (.int p2), .val (.int p3), .val (.int p4), .val (.int p5), .unset, .unset, .unset, .unset, .unset, .unset, .unset, .unset, .unset, .unset, .unset, .unset, .unset, .unset, .unset, .unset, .unset, .unset, .unset, .unset, .unset, .unset] [(.int p0), (.ref b1), (.ref b1)])) _
      refine XS.i2dS X1.here hx rfl (hb hby at_5) rfl rfl ?_
      show Steps p.tables e below (T1.setTop (mkF m 6 #[.val (.int p0), .val (.int p1), .val (.int p2), .val (.int p3), .val (.int p4), .val (.int p5), .unset, .unset, .unset, .unset, .unset, .unset, .unset, .unset, .unset, .unset, .unset, .unset, .unset, .unset, .unset, .unset, .unset, .unset, .unset, .unset, .unset, .unset] [(.double (FP.i2d p0)), (.ref b1), (.ref b1)])) _
      refine XS.iloadN X1.here hx rfl (hb hby at_6) rfl ?_
      show Steps p.tables e below (T1.setTop (mkF m 7 #[.val (.int p0), .val (.int p1), .val (.int p2), .val (.int p3), .val (.int p4), .val (.int p5), .unset, .unset, .unset, .unset, .unset, .unset, .unset, .unset, .unset, .unset, .unset, .unset, .unset, .unset, .unset, .unset, .unset, .unset, .unset, .unset, .unset, .unset] [(.int p2), (.double (FP.i2d p0)), (.ref b1), (.ref b1)])) _
      refine XS.i2dS X1.here hx rfl (hb hby at_7) rfl rfl ?_
      show Steps p.tables e below (T1.setTop (mkF m 8 #[.val (.int p0), .val (.int p1), .val (.int p2), .val (.int p3), .val (.int p4), .val (.int p5), .unset, .unset, .unset, .unset, .unset, .unset, .unset, .unset, .unset, .unset, .unset, .unset, .unset, .unset, .unset, .unset, .unset, .unset, .unset, .unset, .unset, .unset] [(.double (FP.i2d p2)), (.double (FP.i2d p0)), (.ref b1), (.ref b1)])) _
      refine XS.iload X1.here hx rfl (hb hby at_8) rfl ?_
      show Steps p.tables e below (T1.setTop (mkF m 10 #[.val (.int p0), .val (.int p1), .val (.int p2), .val (.int p3), .val (.int p4), .val (.int p5), .unset, .unset, .unset, .unset, .unset, .unset, .unset, .unset, .unset, .unset, .unset, .unset, .unset, .unset, .unset, .unset, .unset, .unset, .unset, .unset, .unset, .unset] [(.int p4), (.double (FP.i2d p2)), (.double (FP.i2d p0)), (.ref b1), (.ref b1)])) _
      refine XS.i2dS X1.here hx rfl (hb hby at_10) rfl rfl ?_
      show Steps p.tables e below (T1.setTop (mkF m 11 #[.val (.int p0), .val (.int p1), .val (.int p2), .val (.int p3), .val (.int p4), .val (.int p5), .unset, .unset, .unset, .unset, .unset, .unset, .unset, .unset, .unset, .unset, .unset, .unset, .unset, .unset, .unset, .unset, .unset, .unset, .unset, .unset, .unset, .unset] [(.double (FP.i2d p4)), (.double (FP.i2d p2)), (.double (FP.i2d p0)), (.ref b1), (.ref b1)])) _
      refine st4.trans ?_
      show Steps p.tables e below (T4.setTop (mkF m 14 #[.val (.int p0), .val (.int p1), .val (.int p2), .val (.int p3), .val (.int p4), .val (.int p5), .unset, .unset, .unset, .unset, .unset, .unset, .unset, .unset, .unset, .unset, .unset, .unset, .unset, .unset, .unset, .unset, .unset, .unset, .unset, .unset, .unset, .unset] [(.ref b1)])) _
      refine XS.astore X4.here hx rfl (hb hby at_14) rfl rfl (l' := #[.val (.int p0), .val (.int p1), .val (.int p2), .val (.int p3), .val (.int p4), .val (.int p5), .val (.ref b1), .unset, .unset, .unset, .unset, .unset, .unset, .unset, .unset, .unset, .unset, .unset, .unset, .unset, .unset, .unset, .unset, .unset, .unset, .unset, .unset, .unset]) rfl ?_
      show Steps p.tables e below (T4.setTop (mkF m 16 #[.val (.int p0), .val (.int p1), .val (.int p2), .val (.int p3), .val (.int p4), .val (.int p5), .val (.ref b1), .unset, .unset, .unset, .unset, .unset, .unset, .unset, .unset, .unset, .unset, .unset, .unset, .unset, .unset, .unset, .unset, .unset, .unset, .unset, .unset, .unset] [])) _
      refine st8 _ ?_
      show Steps p.tables e below (T8.setTop (mkF m 19 #[.val (.int p0), .val (.int p1), .val (.int p2), .val (.int p3), .val (.int p4), .val (.int p5), .val (.ref b1), .unset, .unset, .unset, .unset, .unset, .unset, .unset, .unset, .unset, .unset, .unset, .unset, .unset, .unset, .unset, .unset, .unset, .unset, .unset, .unset, .unset] [(.ref b8)])) _
      refine XS.dup X8.here hx rfl (hb hby at_19) rfl rfl ?_
      show Steps p.tables e below (T8.setTop (mkF m 20 #[.val (.int p0), .val (.int p1), .val (.int p2), .val (.int p3), .val (.int p4), .val (.int p5), .val (.ref b1), .unset, .unset, .unset, .unset, .unset, .unset, .unset, .unset, .unset, .unset, .unset, .unset, .unset, .unset, .unset, .unset, .unset, .unset, .unset, .unset, .unset] [(.ref b8), (.ref b8)])) _
      refine XS.iloadN X8.here hx rfl (hb hby at_20) rfl ?_
      show Steps p.tables e below (T8.setTop (mkF m 21 #[.val (.int p0), .val (.int p1), .val (.int p2), .val (.int p3), .val (.int p4), .val (.int p5), .val (.ref b1), .unset, .unset, .unset, .unset, .unset, .unset, .unset, .unset, .unset, .unset, .unset, .unset, .unset, .unset, .unset, .unset, .unset, .unset, .unset, .unset, .unset] [(.int p0), (.ref b8), (.ref b8)])) _
      refine XS.i2dS X8.here hx rfl (hb hby at_21) rfl rfl ?_
      show Steps p.tables e below (T8.setTop (mkF m 22 #[.val (.int p0), .val (.int p1), .val (.int p2), .val (.int p3), .val (.int p4), .val (.int p5), .val (.ref b1), .unset, .unset, .unset, .unset, .unset, .unset, .unset, .unset, .unset, .unset, .unset, .unset, .unset, .unset, .unset, .unset, .unset, .unset, .unset, .unset, .unset] [(.double (FP.i2d p0)), (.ref b8), (.ref b8)])) _
      refine XS.iloadN X8.here hx rfl (hb hby at_22) rfl ?_
      show Steps p.tables e below (T8.setTop (mkF m 23 #[.val (.int p0), .val (.int p1), .val (.int p2), .val (.int p3), .val (.int p4), .val (.int p5), .val (.ref b1), .unset, .unset, .unset, .unset, .unset, .unset, .unset, .unset, .unset, .unset, .unset, .unset, .unset, .unset, .unset, .unset, .unset, .unset, .unset, .unset, .unset] [(.int p3), (.double (FP.i2d p0)), (.ref b8), (.ref b8)])) _
      refine XS.i2dS X8.here hx rfl (hb hby at_23) rfl rfl ?_
      show Steps p.tables e below (T8.setTop (mkF m 24 #[.val (.int p0), .val (.int p1), .val (.int p2), .val (.int p3), .val (.int p4), .val (.int p5), .val (.ref b1), .unset, .unset, .unset, .unset, .unset, .unset, .unset, .unset, .unset, .unset, .unset, .unset, .unset, .unset, .unset, .unset, .unset, .unset, .unset, .unset, .unset] [(.double (FP.i2d p3)), (.double (FP.i2d p0)), (.ref b8), (.ref b8)])) _
      refine XS.iload X8.here hx rfl (hb hby at_24) rfl ?_
      show Steps p.tables e below (T8.setTop (mkF m 26 #[.val (.int p0), .val (.int p1), .val (.int p2), .val (.int p3), .val (.int p4), .val (.int p5), .val (.ref b1), .unset, .unset, .unset, .unset, .unset, .unset, .unset, .unset, .unset, .unset, .unset, .unset, .unset, .unset, .unset, .unset, .unset, .unset, .unset, .unset, .unset] [(.int p5), (.double (FP.i2d p3)), (.double (FP.i2d p0)), (.ref b8), (.ref b8)])) _
      refine XS.i2dS X8.here hx rfl (hb hby at_26) rfl rfl ?_
      show Steps p.tables e below (T8.setTop (mkF m 27 #[.val (.int p0), .val (.int p1), .val (.int p2), .val (.int p3), .val (.int p4), .val (.int p5), .val (.ref b1), .unset, .unset, .unset, .unset, .unset, .unset, .unset, .unset, .unset, .unset, .unset, .unset, .unset, .unset, .unset, .unset, .unset, .unset, .unset, .unset, .unset] [(.double (FP.i2d p5)), (.double (FP.i2d p3)), (.double (FP.i2d p0)), (.ref b8), (.ref b8)])) _
      refine st11.trans ?_
      show Steps p.tables e below (T11.setTop (mkF m 30 #[.val (.int p0), .val (.int p1), .val (.int p2), .val (.int p3), .val (.int p4), .val (.int p5), .val (.ref b1), .unset, .unset, .unset, .unset, .unset, .unset, .unset, .unset, .unset, .unset, .unset, .unset, .unset, .unset, .unset, .unset, .unset, .unset, .unset, .unset, .unset] [(.ref b8)])) _
      refine XS.astore X11.here hx rfl (hb hby at_30) rfl rfl (l' := #[.val (.int p0), .val (.int p1), .val (.int p2), .val (.int p3), .val (.int p4), .val (.int p5), .val (.ref b1), .val (.ref b8), .unset, .unset, .unset, .unset, .unset, .unset, .unset, .unset, .unset, .unset, .unset, .unset, .unset, .unset, .unset, .unset, .unset, .unset, .unset, .unset]) rfl ?_
      show Steps p.tables e below (T11.setTop (mkF m 32 #[.val (.int p0), .val (.int p1), .val (.int p2), .val (.int p3), .val (.int p4), .val (.int p5), .val (.ref b1), .val (.ref b8), .unset, .unset, .unset, .unset, .unset, .unset, .unset, .unset, .unset, .unset, .unset, .unset, .unset, .unset, .unset, .unset, .unset, .unset, .unset, .unset] [])) _
      refine st15 _ ?_
      show Steps p.tables e below (T15.setTop (mkF m 35 #[.val (.int p0), .val (.int p1), .val (.int p2), .val (.int p3), .val (.int p4), .val (.int p5), .val (.ref b1), .val (.ref b8), .unset, .unset, .unset, .unset, .unset, .unset, .unset, .unset, .unset, .unset, .unset, .unset, .unset, .unset, .unset, .unset, .unset, .unset, .unset, .unset] [(.ref b15)])) _
      refine XS.dup X15.here hx rfl (hb hby at_35) rfl rfl ?_
      show Steps p.tables e below (T15.setTop (mkF m 36 #[.val (.int p0), .val (.int p1), .val (.int p2), .val (.int p3), .val (.int p4), .val (.int p5), .val (.ref b1), .val (.ref b8), .unset, .unset, .unset, .unset, .unset, .unset, .unset, .unset, .unset, .unset, .unset, .unset, .unset, .unset, .unset, .unset, .unset, .unset, .unset, .unset] [(.ref b15), (.ref b15)])) _
      refine XS.iloadN X15.here hx rfl (hb hby at_36) rfl ?_
      show Steps p.tables e below (T15.setTop (mkF m 37 #[.val (.int p0), .val (.int p1), .val (.int p2), .val (.int p3), .val (.int p4), .val (.int p5), .val (.ref b1), .val (.ref b8), .unset, .unset, .unset, .unset, .unset, .unset, .unset, .unset, .unset, .unset, .unset, .unset, .unset, .unset, .unset, .unset, .unset, .unset, .unset, .unset] [(.int p1), (.ref b15), (.ref b15)])) _
      refine XS.i2dS X15.here hx rfl (hb hby at_37) rfl rfl ?_
      show Steps p.tables e below (T15.setTop (mkF m 38 #[.val (.int p0), .val (.int p1), .val (.int p2), .val (.int p3), .val (.int p4), .val (.int p5), .val (.ref b1), .val (.ref b8), .unset, .unset, .unset, .unset, .unset, .unset, .unset, .unset, .unset, .unset, .unset, .unset, .unset, .unset, .unset, .unset, .unset, .unset, .unset, .unset] [(.double (FP.i2d p1)), (.ref b15), (.ref b15)])) _
      refine XS.iloadN X15.here hx rfl (hb hby at_38) rfl ?_
      show Steps p.tables e below (T15.setTop (mkF m 39 #[.val (.int p0), .val (.int p1), .val (.int p2), .val (.int p3), .val (.int p4), .val (.int p5), .val (.ref b1), .val (.ref b8), .unset, .unset, .unset, .unset, .unset, .unset, .unset, .unset, .unset, .unset, .unset, .unset, .unset, .unset, .unset, .unset, .unset, .unset, .unset, .unset] [(.int p2), (.double (FP.i2d p1)), (.ref b15), (.ref b15)])) _
      refine XS.i2dS X15.here hx rfl (hb hby at_39) rfl rfl ?_
      show Steps p.tables e below (T15.setTop (mkF m 40 #[.val (.int p0), .val (.int p1), .val (.int p2), .val (.int p3), .val (.int p4), .val (.int p5), .val (.ref b1), .val (.ref b8), .unset, .unset, .unset, .unset, .unset, .unset, .unset, .unset, .unset, .unset, .unset, .unset, .unset, .unset, .unset, .unset, .unset, .unset, .unset, .unset] [(.double (FP.i2d p2)), (.double (FP.i2d p1)), (.ref b15), (.ref b15)])) _
      refine XS.iload X15.here hx rfl (hb hby at_40) rfl ?_
      show Steps p.tables e below (T15.setTop (mkF m 42 #[.val (.int p0), .val (.int p1), .val (.int p2), .val (.int p3), .val (.int p4), .val (.int p5), .val (.ref b1), .val (.ref b8), .unset, .unset, .unset, .unset, .unset, .unset, .unset, .unset, .unset, .unset, .unset, .unset, .unset, .unset, .unset, .unset, .unset, .unset, .unset, .unset] [(.int p4), (.double (FP.i2d p2)), (.double (FP.i2d p1)), (.ref b15), (.ref b15)])) _
      refine XS.i2dS X15.here hx rfl (hb hby at_42) rfl rfl ?_
      show Steps p.tables e below (T15.setTop (mkF m 43 #[.val (.int p0), .val (.int p1), .val (.int p2), .val (.int p3), .val (.int p4), .val (.int p5), .val (.ref b1), .val (.ref b8), .unset, .unset, .unset, .unset, .unset, .unset, .unset, .unset, .unset, .unset, .unset, .unset, .unset, .unset, .unset, .unset, .unset, .unset, .unset, .unset] [(.double (FP.i2d p4)), (.double (FP.i2d p2)), (.double (FP.i2d p1)), (.ref b15), (.ref b15)])) _
      refine st19.trans ?_
      show Steps p.tables e below (T19.setTop (mkF m 46 #[.val (.int p0), .val (.int p1), .val (.int p2), .val (.int p3), .val (.int p4), .val (.int p5), .val (.ref b1), .val (.ref b8), .unset, .unset, .unset, .unset, .unset, .unset, .unset, .unset, .unset, .unset, .unset, .unset, .unset, .unset, .unset, .unset, .unset, .unset, .unset, .unset] [(.ref b15)])) _
      refine XS.astore X19.here hx rfl (hb hby at_46) rfl rfl (l' := #[.val (.int p0), .val (.int p1), .val (.int p2), .val (.int p3), .val (.int p4), .val (.int p5), .val (.ref b1), .val (.ref b8), .val (.ref b15), .unset, .unset, .unset, .unset, .unset, .unset, .unset, .unset, .unset, .unset, .unset, .unset, .unset, .unset, .unset, .unset, .unset, .unset, .unset]) rfl ?_
      show Steps p.tables e below (T19.setTop (mkF m 48 #[.val (.int p0), .val (.int p1), .val (.int p2), .val (.int p3), .val (.int p4), .val (.int p5), .val (.ref b1), .val (.ref b8), .val (.ref b15), .unset, .unset, .unset, .unset, .unset, .unset, .unset, .unset, .unset, .unset, .unset, .unset, .unset, .unset, .unset, .unset, .unset, .unset, .unset] [])) _
      refine XS.aload X19.here hx rfl (hb hby at_48) rfl rfl ?_
      show Steps p.tables e below (T19.setTop (mkF m 50 #[.val (.int p0), .val (.int p1), .val (.int p2), .val (.int p3), .val (.int p4), .val (.int p5), .val (.ref b1), .val (.ref b8), .val (.ref b15), .unset, .unset, .unset, .unset, .unset, .unset, .unset, .unset, .unset, .unset, .unset, .unset, .unset, .unset, .unset, .unset, .unset, .unset, .unset] [(.ref b1)])) _
      refine st23.trans ?_
      show Steps p.tables e below (T23.setTop (mkF m 53 #[.val (.int p0), .val (.int p1), .val (.int p2), .val (.int p3), .val (.int p4), .val (.int p5), .val (.ref b1), .val (.ref b8), .val (.ref b15), .unset, .unset, .unset, .unset, .unset, .unset, .unset, .unset, .unset, .unset, .unset, .unset, .unset, .unset, .unset, .unset, .unset, .unset, .unset] [(.double (f4 (FP.i2d p0)))])) _
      refine XS.dstore X23.here hx rfl (hb hby at_53) rfl (l' := #[.val (.int p0), .val (.int p1), .val (.int p2), .val (.int p3), .val (.int p4), .val (.int p5), .val (.ref b1), .val (.ref b8), .val (.ref b15), .val (.double (f4 (FP.i2d p0))), .second, .unset, .unset, .unset, .unset, .unset, .unset, .unset, .unset, .unset, .unset, .unset, .unset, .unset, .unset, .unset, .unset, .unset]) rfl ?_
      show Steps p.tables e below (T23.setTop (mkF m 55 #[.val (.int p0), .val (.int p1), .val (.int p2), .val (.int p3), .val (.int p4), .val (.int p5), .val (.ref b1), .val (.ref b8), .val (.ref b15), .val (.double (f4 (FP.i2d p0))), .second, .unset, .unset, .unset, .unset, .unset, .unset, .unset, .unset, .unset, .unset, .unset, .unset, .unset, .unset, .unset, .unset, .unset] [])) _
      refine XS.aload X23.here hx rfl (hb hby at_55) rfl rfl ?_
      show Steps p.tables e below (T23.setTop (mkF m 57 #[.val (.int p0), .val (.int p1), .val (.int p2), .val (.int p3), .val (.int p4), .val (.int p5), .val (.ref b1), .val (.ref b8), .val (.ref b15), .val (.double (f4 (FP.i2d p0))), .second, .unset, .unset, .unset, .unset, .unset, .unset, .unset, .unset, .unset, .unset, .unset, .unset, .unset, .unset, .unset, .unset, .unset] [(.ref b8)])) _
      refine st25.trans ?_
      show Steps p.tables e below (T25.setTop (mkF m 60 #[.val (.int p0), .val (.int p1), .val (.int p2), .val (.int p3), .val (.int p4), .val (.int p5), .val (.ref b1), .val (.ref b8), .val (.ref b15), .val (.double (f4 (FP.i2d p0))), .second, .unset, .unset, .unset, .unset, .unset, .unset, .unset, .unset, .unset, .unset, .unset, .unset, .unset, .unset, .unset, .unset, .unset] [(.double (f4 (FP.i2d p0)))])) _
      refine XS.dstore X25.here hx rfl (hb hby at_60) rfl (l' := #[.val (.int p0), .val (.int p1), .val (.int p2), .val (.int p3), .val (.int p4), .val (.int p5), .val (.ref b1), .val (.ref b8), .val (.ref b15), .val (.double (f4 (FP.i2d p0))), .second, .val (.double (f4 (FP.i2d p0))), .second, .unset, .unset, .unset, .unset, .unset, .unset, .unset, .unset, .unset, .unset, .unset, .unset, .unset, .unset, .unset]) rfl ?_
      show Steps p.tables e below (T25.setTop (mkF m 62 #[.val (.int p0), .val (.int p1), .val (.int p2), .val (.int p3), .val (.int p4), .val (.int p5), .val (.ref b1), .val (.ref b8), .val (.ref b15), .val (.double (f4 (FP.i2d p0))), .second, .val (.double (f4 (FP.i2d p0))), .second, .unset, .unset, .unset, .unset, .unset, .unset, .unset, .unset, .unset, .unset, .unset, .unset, .unset, .unset, .unset] [])) _
      refine XS.aload X25.here hx rfl (hb hby at_62) rfl rfl ?_
      show Steps p.tables e below (T25.setTop (mkF m 64 #[.val (.int p0), .val (.int p1), .val (.int p2), .val (.int p3), .val (.int p4), .val (.int p5), .val (.ref b1), .val (.ref b8), .val (.ref b15), .val (.double (f4 (FP.i2d p0))), .second, .val (.double (f4 (FP.i2d p0))), .second, .unset, .unset, .unset, .unset, .unset, .unset, .unset, .unset, .unset, .unset, .unset, .unset, .unset, .unset, .unset] [(.ref b15)])) _
      refine st26.trans ?_
      show Steps p.tables e below (T26.setTop (mkF m 67 #[.val (.int p0), .val (.int p1), .val (.int p2), .val (.int p3), .val (.int p4), .val (.int p5), .val (.ref b1), .val (.ref b8), .val (.ref b15), .val (.double (f4 (FP.i2d p0))), .second, .val (.double (f4 (FP.i2d p0))), .second, .unset, .unset, .unset, .unset, .unset, .unset, .unset, .unset, .unset, .unset, .unset, .unset, .unset, .unset, .unset] [(.double (f4 (FP.i2d p1)))])) _
      refine XS.dstore X26.here hx rfl (hb hby at_67) rfl (l' := #[.val (.int p0), .val (.int p1), .val (.int p2), .val (.int p3), .val (.int p4), .val (.int p5), .val (.ref b1), .val (.ref b8), .val (.ref b15), .val (.double (f4 (FP.i2d p0))), .second, .val (.double (f4 (FP.i2d p0))), .second, .val (.double (f4 (FP.i2d p1))), .second, .unset, .unset, .unset, .unset, .unset, .unset, .unset, .unset, .unset, .unset, .unset, .unset, .unset]) rfl ?_
      show Steps p.tables e below (T26.setTop (mkF m 69 #[.val (.int p0), .val (.int p1), .val (.int p2), .val (.int p3), .val (.int p4), .val (.int p5), .val (.ref b1), .val (.ref b8), .val (.ref b15), .val (.double (f4 (FP.i2d p0))), .second, .val (.double (f4 (FP.i2d p0))), .second, .val (.double (f4 (FP.i2d p1))), .second, .unset, .unset, .unset, .unset, .unset, .unset, .unset, .unset, .unset, .unset, .unset, .unset, .unset] [])) _
      refine XS.dload X26.here hx rfl (hb hby at_69) rfl ?_
      show Steps p.tables e below (T26.setTop (mkF m 71 #[.val (.int p0), .val (.int p1), .val (.int p2), .val (.int p3), .val (.int p4), .val (.int p5), .val (.ref b1), .val (.ref b8), .val (.ref b15), .val (.double (f4 (FP.i2d p0))), .second, .val (.double (f4 (FP.i2d p0))), .second, .val (.double (f4 (FP.i2d p1))), .second, .unset, .unset, .unset, .unset, .unset, .unset, .unset, .unset, .unset, .unset, .unset, .unset, .unset] [(.double (f4 (FP.i2d p0)))])) _
      refine XS.dload X26.here hx rfl (hb hby at_71) rfl ?_
      show Steps p.tables e below (T26.setTop (mkF m 73 #[.val (.int p0), .val (.int p1), .val (.int p2), .val (.int p3), .val (.int p4), .val (.int p5), .val (.ref b1), .val (.ref b8), .val (.ref b15), .val (.double (f4 (FP.i2d p0))), .second, .val (.double (f4 (FP.i2d p0))), .second, .val (.double (f4 (FP.i2d p1))), .second, .unset, .unset, .unset, .unset, .unset, .unset, .unset, .unset, .unset, .unset, .unset, .unset, .unset] [(.double (f4 (FP.i2d p0))), (.double (f4 (FP.i2d p0)))])) _
      refine XS.dcmpS X26.here hx rfl (hb hby at_73) rfl rfl ?_
      exact kt)
  have hd74_28 : (cmpValue (FP.dcmp (f4 (FP.i2d p0)) (f4 (FP.i2d p0))) .l) = (0 : Int32) := own_ind _
  have pre29 : ∀ t, Steps p.tables e below (T26.setTop (mkF m 84 #[.val (.int p0), .val (.int p1), .val (.int p2), .val (.int p3), .val (.int p4), .val (.int p5), .val (.ref b1), .val (.ref b8), .val (.ref b15), .val (.double (f4 (FP.i2d p0))), .second, .val (.double (f4 (FP.i2d p0))), .second, .val (.double (f4 (FP.i2d p1))), .second, .val (.int (1 : Int32)), .unset, .unset, .unset, .unset, .unset, .unset, .unset, .unset, .unset, .unset, .unset, .unset] [])) t → Steps p.tables e below (s₁.setTop (entryFrame m #[(.int p0), (.int p1), (.int p2), (.int p3), (.int p4), (.int p5)] maxLocals)) t := fun t kt => pre27 t (by
      show Steps p.tables e below (T26.setTop (mkF m 74 #[.val (.int p0), .val (.int p1), .val (.int p2), .val (.int p3), .val (.int p4), .val (.int p5), .val (.ref b1), .val (.ref b8), .val (.ref b15), .val (.double (f4 (FP.i2d p0))), .second, .val (.double (f4 (FP.i2d p0))), .second, .val (.double (f4 (FP.i2d p1))), .second, .unset, .unset, .unset, .unset, .unset, .unset, .unset, .unset, .unset, .unset, .unset, .unset, .unset] [(.int (cmpValue (FP.dcmp (f4 (FP.i2d p0)) (f4 (FP.i2d p0))) .l))])) _
      refine XS.ifNo X26.here hx rfl (hb hby at_74) rfl ((if0 _ _).trans (teq hd74_28).2) ?_
      show Steps p.tables e below (T26.setTop (mkF m 77 #[.val (.int p0), .val (.int p1), .val (.int p2), .val (.int p3), .val (.int p4), .val (.int p5), .val (.ref b1), .val (.ref b8), .val (.ref b15), .val (.double (f4 (FP.i2d p0))), .second, .val (.double (f4 (FP.i2d p0))), .second, .val (.double (f4 (FP.i2d p1))), .second, .unset, .unset, .unset, .unset, .unset, .unset, .unset, .unset, .unset, .unset, .unset, .unset, .unset] [])) _
      refine XS.iconst X26.here hx rfl (hb hby at_77) ?_
      show Steps p.tables e below (T26.setTop (mkF m 78 #[.val (.int p0), .val (.int p1), .val (.int p2), .val (.int p3), .val (.int p4), .val (.int p5), .val (.ref b1), .val (.ref b8), .val (.ref b15), .val (.double (f4 (FP.i2d p0))), .second, .val (.double (f4 (FP.i2d p0))), .second, .val (.double (f4 (FP.i2d p1))), .second, .unset, .unset, .unset, .unset, .unset, .unset, .unset, .unset, .unset, .unset, .unset, .unset, .unset] [(.int (1 : Int32))])) _
      refine XS.goto X26.here hx rfl (pc0 := 78) (pc' := 82) rfl (hb hby at_78) (by decide) (by decide) ?_
      show Steps p.tables e below (T26.setTop (mkF m 82 #[.val (.int p0), .val (.int p1), .val (.int p2), .val (.int p3), .val (.int p4), .val (.int p5), .val (.ref b1), .val (.ref b8), .val (.ref b15), .val (.double (f4 (FP.i2d p0))), .second, .val (.double (f4 (FP.i2d p0))), .second, .val (.double (f4 (FP.i2d p1))), .second, .unset, .unset, .unset, .unset, .unset, .unset, .unset, .unset, .unset, .unset, .unset, .unset, .unset] [(.int (1 : Int32))])) _
      refine XS.istore X26.here hx rfl (hb hby at_82) rfl (l' := #[.val (.int p0), .val (.int p1), .val (.int p2), .val (.int p3), .val (.int p4), .val (.int p5), .val (.ref b1), .val (.ref b8), .val (.ref b15), .val (.double (f4 (FP.i2d p0))), .second, .val (.double (f4 (FP.i2d p0))), .second, .val (.double (f4 (FP.i2d p1))), .second, .val (.int (1 : Int32)), .unset, .unset, .unset, .unset, .unset, .unset, .unset, .unset, .unset, .unset, .unset, .unset]) rfl ?_
      exact kt)
  have preB30 : ∀ t, Steps p.tables e below (T26.setTop (mkF m 118 #[.val (.int p0), .val (.int p1), .val (.int p2), .val (.int p3), .val (.int p4), .val (.int p5), .val (.ref b1), .val (.ref b8), .val (.ref b15), .val (.double (f4 (FP.i2d p0))), .second, .val (.double (f4 (FP.i2d p0))), .second, .val (.double (f4 (FP.i2d p1))), .second, .val (.int (1 : Int32)), .val (.int (1 : Int32)), .unset, .unset, .unset, .unset, .unset, .unset, .unset, .unset, .unset, .unset, .unset] [])) t → Steps p.tables e below (s₁.setTop (entryFrame m #[(.int p0), (.int p1), (.int p2), (.int p3), (.int p4), (.int p5)] maxLocals)) t := by
    intro t kt
    have pre31 : ∀ t, Steps p.tables e below (T26.setTop (mkF m 88 #[.val (.int p0), .val (.int p1), .val (.int p2), .val (.int p3), .val (.int p4), .val (.int p5), .val (.ref b1), .val (.ref b8), .val (.ref b15), .val (.double (f4 (FP.i2d p0))), .second, .val (.double (f4 (FP.i2d p0))), .second, .val (.double (f4 (FP.i2d p1))), .second, .val (.int (1 : Int32)), .unset, .unset, .unset, .unset, .unset, .unset, .unset, .unset, .unset, .unset, .unset, .unset] [(.int (cmpValue (FP.dcmp (f4 (FP.i2d p0)) FP.dconst0) .l))])) t → Steps p.tables e below (s₁.setTop (entryFrame m #[(.int p0), (.int p1), (.int p2), (.int p3), (.int p4), (.int p5)] maxLocals)) t := fun t kt => pre29 t (by
        show Steps p.tables e below (T26.setTop (mkF m 84 #[.val (.int p0), .val (.int p1), .val (.int p2), .val (.int p3), .val (.int p4), .val (.int p5), .val (.ref b1), .val (.ref b8), .val (.ref b15), .val (.double (f4 (FP.i2d p0))), .second, .val (.double (f4 (FP.i2d p0))), .second, .val (.double (f4 (FP.i2d p1))), .second, .val (.int (1 : Int32)), .unset, .unset, .unset, .unset, .unset, .unset, .unset, .unset, .unset, .unset, .unset, .unset] [])) _
        refine XS.dload X26.here hx rfl (hb hby at_84) rfl ?_
        show Steps p.tables e below (T26.setTop (mkF m 86 #[.val (.int p0), .val (.int p1), .val (.int p2), .val (.int p3), .val (.int p4), .val (.int p5), .val (.ref b1), .val (.ref b8), .val (.ref b15), .val (.double (f4 (FP.i2d p0))), .second, .val (.double (f4 (FP.i2d p0))), .second, .val (.double (f4 (FP.i2d p1))), .second, .val (.int (1 : Int32)), .unset, .unset, .unset, .unset, .unset, .unset, .unset, .unset, .unset, .unset, .unset, .unset] [(.double (f4 (FP.i2d p0)))])) _
        refine XS.dconst0 X26.here hx rfl (hb hby at_86) rfl ?_
        show Steps p.tables e below (T26.setTop (mkF m 87 #[.val (.int p0), .val (.int p1), .val (.int p2), .val (.int p3), .val (.int p4), .val (.int p5), .val (.ref b1), .val (.ref b8), .val (.ref b15), .val (.double (f4 (FP.i2d p0))), .second, .val (.double (f4 (FP.i2d p0))), .second, .val (.double (f4 (FP.i2d p1))), .second, .val (.int (1 : Int32)), .unset, .unset, .unset, .unset, .unset, .unset, .unset, .unset, .unset, .unset, .unset, .unset] [(.double FP.dconst0), (.double (f4 (FP.i2d p0)))])) _
        refine XS.dcmpS X26.here hx rfl (hb hby at_87) rfl rfl ?_
        exact kt)
    by_cases hc88_32 : (cmpValue (FP.dcmp (f4 (FP.i2d p0)) FP.dconst0) .l) = (0 : Int32)
    · have pre33 : ∀ t, Steps p.tables e below (T26.setTop (mkF m 100 #[.val (.int p0), .val (.int p1), .val (.int p2), .val (.int p3), .val (.int p4), .val (.int p5), .val (.ref b1), .val (.ref b8), .val (.ref b15), .val (.double (f4 (FP.i2d p0))), .second, .val (.double (f4 (FP.i2d p0))), .second, .val (.double (f4 (FP.i2d p1))), .second, .val (.int (1 : Int32)), .unset, .unset, .unset, .unset, .unset, .unset, .unset, .unset, .unset, .unset, .unset, .unset] [(.int (1500 : Int32)), (.int p0), (.int (1 : Int32))])) t → Steps p.tables e below (s₁.setTop (entryFrame m #[(.int p0), (.int p1), (.int p2), (.int p3), (.int p4), (.int p5)] maxLocals)) t := fun t kt => pre31 t (by
          show Steps p.tables e below (T26.setTop (mkF m 88 #[.val (.int p0), .val (.int p1), .val (.int p2), .val (.int p3), .val (.int p4), .val (.int p5), .val (.ref b1), .val (.ref b8), .val (.ref b15), .val (.double (f4 (FP.i2d p0))), .second, .val (.double (f4 (FP.i2d p0))), .second, .val (.double (f4 (FP.i2d p1))), .second, .val (.int (1 : Int32)), .unset, .unset, .unset, .unset, .unset, .unset, .unset, .unset, .unset, .unset, .unset, .unset] [(.int (cmpValue (FP.dcmp (f4 (FP.i2d p0)) FP.dconst0) .l))])) _
          refine XS.ifNo X26.here hx rfl (hb hby at_88) rfl ((if0 _ _).trans (teq hc88_32).2) ?_
          show Steps p.tables e below (T26.setTop (mkF m 91 #[.val (.int p0), .val (.int p1), .val (.int p2), .val (.int p3), .val (.int p4), .val (.int p5), .val (.ref b1), .val (.ref b8), .val (.ref b15), .val (.double (f4 (FP.i2d p0))), .second, .val (.double (f4 (FP.i2d p0))), .second, .val (.double (f4 (FP.i2d p1))), .second, .val (.int (1 : Int32)), .unset, .unset, .unset, .unset, .unset, .unset, .unset, .unset, .unset, .unset, .unset, .unset] [])) _
          refine XS.iconst X26.here hx rfl (hb hby at_91) ?_
          show Steps p.tables e below (T26.setTop (mkF m 92 #[.val (.int p0), .val (.int p1), .val (.int p2), .val (.int p3), .val (.int p4), .val (.int p5), .val (.ref b1), .val (.ref b8), .val (.ref b15), .val (.double (f4 (FP.i2d p0))), .second, .val (.double (f4 (FP.i2d p0))), .second, .val (.double (f4 (FP.i2d p1))), .second, .val (.int (1 : Int32)), .unset, .unset, .unset, .unset, .unset, .unset, .unset, .unset, .unset, .unset, .unset, .unset] [(.int (1 : Int32))])) _
          refine XS.goto X26.here hx rfl (pc0 := 92) (pc' := 96) rfl (hb hby at_92) (by decide) (by decide) ?_
          show Steps p.tables e below (T26.setTop (mkF m 96 #[.val (.int p0), .val (.int p1), .val (.int p2), .val (.int p3), .val (.int p4), .val (.int p5), .val (.ref b1), .val (.ref b8), .val (.ref b15), .val (.double (f4 (FP.i2d p0))), .second, .val (.double (f4 (FP.i2d p0))), .second, .val (.double (f4 (FP.i2d p1))), .second, .val (.int (1 : Int32)), .unset, .unset, .unset, .unset, .unset, .unset, .unset, .unset, .unset, .unset, .unset, .unset] [(.int (1 : Int32))])) _
          refine XS.iloadN X26.here hx rfl (hb hby at_96) rfl ?_
          show Steps p.tables e below (T26.setTop (mkF m 97 #[.val (.int p0), .val (.int p1), .val (.int p2), .val (.int p3), .val (.int p4), .val (.int p5), .val (.ref b1), .val (.ref b8), .val (.ref b15), .val (.double (f4 (FP.i2d p0))), .second, .val (.double (f4 (FP.i2d p0))), .second, .val (.double (f4 (FP.i2d p1))), .second, .val (.int (1 : Int32)), .unset, .unset, .unset, .unset, .unset, .unset, .unset, .unset, .unset, .unset, .unset, .unset] [(.int p0), (.int (1 : Int32))])) _
          refine XS.sipush X26.here hx rfl (hb hby at_97) ?_
          exact kt)
      have hd100_34 : p0 = (1500 : Int32) := own_z1 hc88_32
      have pre35 : ∀ t, Steps p.tables e below (T26.setTop (mkF m 108 #[.val (.int p0), .val (.int p1), .val (.int p2), .val (.int p3), .val (.int p4), .val (.int p5), .val (.ref b1), .val (.ref b8), .val (.ref b15), .val (.double (f4 (FP.i2d p0))), .second, .val (.double (f4 (FP.i2d p0))), .second, .val (.double (f4 (FP.i2d p1))), .second, .val (.int (1 : Int32)), .unset, .unset, .unset, .unset, .unset, .unset, .unset, .unset, .unset, .unset, .unset, .unset] [(.int (1 : Int32)), (.int (1 : Int32))])) t → Steps p.tables e below (s₁.setTop (entryFrame m #[(.int p0), (.int p1), (.int p2), (.int p3), (.int p4), (.int p5)] maxLocals)) t := fun t kt => pre33 t (by
          show Steps p.tables e below (T26.setTop (mkF m 100 #[.val (.int p0), .val (.int p1), .val (.int p2), .val (.int p3), .val (.int p4), .val (.int p5), .val (.ref b1), .val (.ref b8), .val (.ref b15), .val (.double (f4 (FP.i2d p0))), .second, .val (.double (f4 (FP.i2d p0))), .second, .val (.double (f4 (FP.i2d p1))), .second, .val (.int (1 : Int32)), .unset, .unset, .unset, .unset, .unset, .unset, .unset, .unset, .unset, .unset, .unset, .unset] [(.int (1500 : Int32)), (.int p0), (.int (1 : Int32))])) _
          refine XS.icmpNo X26.here hx rfl (hb hby at_100) rfl (teq hd100_34).2 ?_
          show Steps p.tables e below (T26.setTop (mkF m 103 #[.val (.int p0), .val (.int p1), .val (.int p2), .val (.int p3), .val (.int p4), .val (.int p5), .val (.ref b1), .val (.ref b8), .val (.ref b15), .val (.double (f4 (FP.i2d p0))), .second, .val (.double (f4 (FP.i2d p0))), .second, .val (.double (f4 (FP.i2d p1))), .second, .val (.int (1 : Int32)), .unset, .unset, .unset, .unset, .unset, .unset, .unset, .unset, .unset, .unset, .unset, .unset] [(.int (1 : Int32))])) _
          refine XS.iconst X26.here hx rfl (hb hby at_103) ?_
          show Steps p.tables e below (T26.setTop (mkF m 104 #[.val (.int p0), .val (.int p1), .val (.int p2), .val (.int p3), .val (.int p4), .val (.int p5), .val (.ref b1), .val (.ref b8), .val (.ref b15), .val (.double (f4 (FP.i2d p0))), .second, .val (.double (f4 (FP.i2d p0))), .second, .val (.double (f4 (FP.i2d p1))), .second, .val (.int (1 : Int32)), .unset, .unset, .unset, .unset, .unset, .unset, .unset, .unset, .unset, .unset, .unset, .unset] [(.int (1 : Int32)), (.int (1 : Int32))])) _
          refine XS.goto X26.here hx rfl (pc0 := 104) (pc' := 108) rfl (hb hby at_104) (by decide) (by decide) ?_
          exact kt)
      refine pre35 t ?_
      show Steps p.tables e below (T26.setTop (mkF m 108 #[.val (.int p0), .val (.int p1), .val (.int p2), .val (.int p3), .val (.int p4), .val (.int p5), .val (.ref b1), .val (.ref b8), .val (.ref b15), .val (.double (f4 (FP.i2d p0))), .second, .val (.double (f4 (FP.i2d p0))), .second, .val (.double (f4 (FP.i2d p1))), .second, .val (.int (1 : Int32)), .unset, .unset, .unset, .unset, .unset, .unset, .unset, .unset, .unset, .unset, .unset, .unset] [(.int (1 : Int32)), (.int (1 : Int32))])) _
      refine XS.icmpNo X26.here hx rfl (hb hby at_108) rfl (teq (by decide : ((1 : Int32) = (1 : Int32)))).2 ?_
      show Steps p.tables e below (T26.setTop (mkF m 111 #[.val (.int p0), .val (.int p1), .val (.int p2), .val (.int p3), .val (.int p4), .val (.int p5), .val (.ref b1), .val (.ref b8), .val (.ref b15), .val (.double (f4 (FP.i2d p0))), .second, .val (.double (f4 (FP.i2d p0))), .second, .val (.double (f4 (FP.i2d p1))), .second, .val (.int (1 : Int32)), .unset, .unset, .unset, .unset, .unset, .unset, .unset, .unset, .unset, .unset, .unset, .unset] [])) _
      refine XS.iconst X26.here hx rfl (hb hby at_111) ?_
      show Steps p.tables e below (T26.setTop (mkF m 112 #[.val (.int p0), .val (.int p1), .val (.int p2), .val (.int p3), .val (.int p4), .val (.int p5), .val (.ref b1), .val (.ref b8), .val (.ref b15), .val (.double (f4 (FP.i2d p0))), .second, .val (.double (f4 (FP.i2d p0))), .second, .val (.double (f4 (FP.i2d p1))), .second, .val (.int (1 : Int32)), .unset, .unset, .unset, .unset, .unset, .unset, .unset, .unset, .unset, .unset, .unset, .unset] [(.int (1 : Int32))])) _
      refine XS.goto X26.here hx rfl (pc0 := 112) (pc' := 116) rfl (hb hby at_112) (by decide) (by decide) ?_
      show Steps p.tables e below (T26.setTop (mkF m 116 #[.val (.int p0), .val (.int p1), .val (.int p2), .val (.int p3), .val (.int p4), .val (.int p5), .val (.ref b1), .val (.ref b8), .val (.ref b15), .val (.double (f4 (FP.i2d p0))), .second, .val (.double (f4 (FP.i2d p0))), .second, .val (.double (f4 (FP.i2d p1))), .second, .val (.int (1 : Int32)), .unset, .unset, .unset, .unset, .unset, .unset, .unset, .unset, .unset, .unset, .unset, .unset] [(.int (1 : Int32))])) _
      refine XS.istore X26.here hx rfl (hb hby at_116) rfl (l' := #[.val (.int p0), .val (.int p1), .val (.int p2), .val (.int p3), .val (.int p4), .val (.int p5), .val (.ref b1), .val (.ref b8), .val (.ref b15), .val (.double (f4 (FP.i2d p0))), .second, .val (.double (f4 (FP.i2d p0))), .second, .val (.double (f4 (FP.i2d p1))), .second, .val (.int (1 : Int32)), .val (.int (1 : Int32)), .unset, .unset, .unset, .unset, .unset, .unset, .unset, .unset, .unset, .unset, .unset]) rfl ?_
      exact kt
    · have pre36 : ∀ t, Steps p.tables e below (T26.setTop (mkF m 100 #[.val (.int p0), .val (.int p1), .val (.int p2), .val (.int p3), .val (.int p4), .val (.int p5), .val (.ref b1), .val (.ref b8), .val (.ref b15), .val (.double (f4 (FP.i2d p0))), .second, .val (.double (f4 (FP.i2d p0))), .second, .val (.double (f4 (FP.i2d p1))), .second, .val (.int (1 : Int32)), .unset, .unset, .unset, .unset, .unset, .unset, .unset, .unset, .unset, .unset, .unset, .unset] [(.int (1500 : Int32)), (.int p0), (.int (0 : Int32))])) t → Steps p.tables e below (s₁.setTop (entryFrame m #[(.int p0), (.int p1), (.int p2), (.int p3), (.int p4), (.int p5)] maxLocals)) t := fun t kt => pre31 t (by
          show Steps p.tables e below (T26.setTop (mkF m 88 #[.val (.int p0), .val (.int p1), .val (.int p2), .val (.int p3), .val (.int p4), .val (.int p5), .val (.ref b1), .val (.ref b8), .val (.ref b15), .val (.double (f4 (FP.i2d p0))), .second, .val (.double (f4 (FP.i2d p0))), .second, .val (.double (f4 (FP.i2d p1))), .second, .val (.int (1 : Int32)), .unset, .unset, .unset, .unset, .unset, .unset, .unset, .unset, .unset, .unset, .unset, .unset] [(.int (cmpValue (FP.dcmp (f4 (FP.i2d p0)) FP.dconst0) .l))])) _
          refine XS.ifYes X26.here hx rfl (pc0 := 88) (pc' := 95) rfl (hb hby at_88) rfl ((if0 _ _).trans (feq hc88_32).2) (by decide) (by decide) ?_
          show Steps p.tables e below (T26.setTop (mkF m 95 #[.val (.int p0), .val (.int p1), .val (.int p2), .val (.int p3), .val (.int p4), .val (.int p5), .val (.ref b1), .val (.ref b8), .val (.ref b15), .val (.double (f4 (FP.i2d p0))), .second, .val (.double (f4 (FP.i2d p0))), .second, .val (.double (f4 (FP.i2d p1))), .second, .val (.int (1 : Int32)), .unset, .unset, .unset, .unset, .unset, .unset, .unset, .unset, .unset, .unset, .unset, .unset] [])) _
          refine XS.iconst X26.here hx rfl (hb hby at_95) ?_
          show Steps p.tables e below (T26.setTop (mkF m 96 #[.val (.int p0), .val (.int p1), .val (.int p2), .val (.int p3), .val (.int p4), .val (.int p5), .val (.ref b1), .val (.ref b8), .val (.ref b15), .val (.double (f4 (FP.i2d p0))), .second, .val (.double (f4 (FP.i2d p0))), .second, .val (.double (f4 (FP.i2d p1))), .second, .val (.int (1 : Int32)), .unset, .unset, .unset, .unset, .unset, .unset, .unset, .unset, .unset, .unset, .unset, .unset] [(.int (0 : Int32))])) _
          refine XS.iloadN X26.here hx rfl (hb hby at_96) rfl ?_
          show Steps p.tables e below (T26.setTop (mkF m 97 #[.val (.int p0), .val (.int p1), .val (.int p2), .val (.int p3), .val (.int p4), .val (.int p5), .val (.ref b1), .val (.ref b8), .val (.ref b15), .val (.double (f4 (FP.i2d p0))), .second, .val (.double (f4 (FP.i2d p0))), .second, .val (.double (f4 (FP.i2d p1))), .second, .val (.int (1 : Int32)), .unset, .unset, .unset, .unset, .unset, .unset, .unset, .unset, .unset, .unset, .unset, .unset] [(.int p0), (.int (0 : Int32))])) _
          refine XS.sipush X26.here hx rfl (hb hby at_97) ?_
          exact kt)
      have hd100_37 : ¬ (p0 = (1500 : Int32)) := own_z2 hc88_32
      have pre38 : ∀ t, Steps p.tables e below (T26.setTop (mkF m 108 #[.val (.int p0), .val (.int p1), .val (.int p2), .val (.int p3), .val (.int p4), .val (.int p5), .val (.ref b1), .val (.ref b8), .val (.ref b15), .val (.double (f4 (FP.i2d p0))), .second, .val (.double (f4 (FP.i2d p0))), .second, .val (.double (f4 (FP.i2d p1))), .second, .val (.int (1 : Int32)), .unset, .unset, .unset, .unset, .unset, .unset, .unset, .unset, .unset, .unset, .unset, .unset] [(.int (0 : Int32)), (.int (0 : Int32))])) t → Steps p.tables e below (s₁.setTop (entryFrame m #[(.int p0), (.int p1), (.int p2), (.int p3), (.int p4), (.int p5)] maxLocals)) t := fun t kt => pre36 t (by
          show Steps p.tables e below (T26.setTop (mkF m 100 #[.val (.int p0), .val (.int p1), .val (.int p2), .val (.int p3), .val (.int p4), .val (.int p5), .val (.ref b1), .val (.ref b8), .val (.ref b15), .val (.double (f4 (FP.i2d p0))), .second, .val (.double (f4 (FP.i2d p0))), .second, .val (.double (f4 (FP.i2d p1))), .second, .val (.int (1 : Int32)), .unset, .unset, .unset, .unset, .unset, .unset, .unset, .unset, .unset, .unset, .unset, .unset] [(.int (1500 : Int32)), (.int p0), (.int (0 : Int32))])) _
          refine XS.icmpYes X26.here hx rfl (pc0 := 100) (pc' := 107) rfl (hb hby at_100) rfl (feq hd100_37).2 (by decide) (by decide) ?_
          show Steps p.tables e below (T26.setTop (mkF m 107 #[.val (.int p0), .val (.int p1), .val (.int p2), .val (.int p3), .val (.int p4), .val (.int p5), .val (.ref b1), .val (.ref b8), .val (.ref b15), .val (.double (f4 (FP.i2d p0))), .second, .val (.double (f4 (FP.i2d p0))), .second, .val (.double (f4 (FP.i2d p1))), .second, .val (.int (1 : Int32)), .unset, .unset, .unset, .unset, .unset, .unset, .unset, .unset, .unset, .unset, .unset, .unset] [(.int (0 : Int32))])) _
          refine XS.iconst X26.here hx rfl (hb hby at_107) ?_
          exact kt)
      refine pre38 t ?_
      show Steps p.tables e below (T26.setTop (mkF m 108 #[.val (.int p0), .val (.int p1), .val (.int p2), .val (.int p3), .val (.int p4), .val (.int p5), .val (.ref b1), .val (.ref b8), .val (.ref b15), .val (.double (f4 (FP.i2d p0))), .second, .val (.double (f4 (FP.i2d p0))), .second, .val (.double (f4 (FP.i2d p1))), .second, .val (.int (1 : Int32)), .unset, .unset, .unset, .unset, .unset, .unset, .unset, .unset, .unset, .unset, .unset, .unset] [(.int (0 : Int32)), (.int (0 : Int32))])) _
      refine XS.icmpNo X26.here hx rfl (hb hby at_108) rfl (teq (by decide : ((0 : Int32) = (0 : Int32)))).2 ?_
      show Steps p.tables e below (T26.setTop (mkF m 111 #[.val (.int p0), .val (.int p1), .val (.int p2), .val (.int p3), .val (.int p4), .val (.int p5), .val (.ref b1), .val (.ref b8), .val (.ref b15), .val (.double (f4 (FP.i2d p0))), .second, .val (.double (f4 (FP.i2d p0))), .second, .val (.double (f4 (FP.i2d p1))), .second, .val (.int (1 : Int32)), .unset, .unset, .unset, .unset, .unset, .unset, .unset, .unset, .unset, .unset, .unset, .unset] [])) _
      refine XS.iconst X26.here hx rfl (hb hby at_111) ?_
      show Steps p.tables e below (T26.setTop (mkF m 112 #[.val (.int p0), .val (.int p1), .val (.int p2), .val (.int p3), .val (.int p4), .val (.int p5), .val (.ref b1), .val (.ref b8), .val (.ref b15), .val (.double (f4 (FP.i2d p0))), .second, .val (.double (f4 (FP.i2d p0))), .second, .val (.double (f4 (FP.i2d p1))), .second, .val (.int (1 : Int32)), .unset, .unset, .unset, .unset, .unset, .unset, .unset, .unset, .unset, .unset, .unset, .unset] [(.int (1 : Int32))])) _
      refine XS.goto X26.here hx rfl (pc0 := 112) (pc' := 116) rfl (hb hby at_112) (by decide) (by decide) ?_
      show Steps p.tables e below (T26.setTop (mkF m 116 #[.val (.int p0), .val (.int p1), .val (.int p2), .val (.int p3), .val (.int p4), .val (.int p5), .val (.ref b1), .val (.ref b8), .val (.ref b15), .val (.double (f4 (FP.i2d p0))), .second, .val (.double (f4 (FP.i2d p0))), .second, .val (.double (f4 (FP.i2d p1))), .second, .val (.int (1 : Int32)), .unset, .unset, .unset, .unset, .unset, .unset, .unset, .unset, .unset, .unset, .unset, .unset] [(.int (1 : Int32))])) _
      refine XS.istore X26.here hx rfl (hb hby at_116) rfl (l' := #[.val (.int p0), .val (.int p1), .val (.int p2), .val (.int p3), .val (.int p4), .val (.int p5), .val (.ref b1), .val (.ref b8), .val (.ref b15), .val (.double (f4 (FP.i2d p0))), .second, .val (.double (f4 (FP.i2d p0))), .second, .val (.double (f4 (FP.i2d p1))), .second, .val (.int (1 : Int32)), .val (.int (1 : Int32)), .unset, .unset, .unset, .unset, .unset, .unset, .unset, .unset, .unset, .unset, .unset]) rfl ?_
      exact kt
  have preB39 : ∀ t, Steps p.tables e below (T26.setTop (mkF m 152 #[.val (.int p0), .val (.int p1), .val (.int p2), .val (.int p3), .val (.int p4), .val (.int p5), .val (.ref b1), .val (.ref b8), .val (.ref b15), .val (.double (f4 (FP.i2d p0))), .second, .val (.double (f4 (FP.i2d p0))), .second, .val (.double (f4 (FP.i2d p1))), .second, .val (.int (1 : Int32)), .val (.int (1 : Int32)), .val (.int (1 : Int32)), .unset, .unset, .unset, .unset, .unset, .unset, .unset, .unset, .unset, .unset] [])) t → Steps p.tables e below (s₁.setTop (entryFrame m #[(.int p0), (.int p1), (.int p2), (.int p3), (.int p4), (.int p5)] maxLocals)) t := by
    intro t kt
    have pre40 : ∀ t, Steps p.tables e below (T26.setTop (mkF m 122 #[.val (.int p0), .val (.int p1), .val (.int p2), .val (.int p3), .val (.int p4), .val (.int p5), .val (.ref b1), .val (.ref b8), .val (.ref b15), .val (.double (f4 (FP.i2d p0))), .second, .val (.double (f4 (FP.i2d p0))), .second, .val (.double (f4 (FP.i2d p1))), .second, .val (.int (1 : Int32)), .val (.int (1 : Int32)), .unset, .unset, .unset, .unset, .unset, .unset, .unset, .unset, .unset, .unset, .unset] [(.int (cmpValue (FP.dcmp (f4 (FP.i2d p0)) FP.dconst0) .l))])) t → Steps p.tables e below (s₁.setTop (entryFrame m #[(.int p0), (.int p1), (.int p2), (.int p3), (.int p4), (.int p5)] maxLocals)) t := fun t kt => preB30 t (by
        show Steps p.tables e below (T26.setTop (mkF m 118 #[.val (.int p0), .val (.int p1), .val (.int p2), .val (.int p3), .val (.int p4), .val (.int p5), .val (.ref b1), .val (.ref b8), .val (.ref b15), .val (.double (f4 (FP.i2d p0))), .second, .val (.double (f4 (FP.i2d p0))), .second, .val (.double (f4 (FP.i2d p1))), .second, .val (.int (1 : Int32)), .val (.int (1 : Int32)), .unset, .unset, .unset, .unset, .unset, .unset, .unset, .unset, .unset, .unset, .unset] [])) _
        refine XS.dload X26.here hx rfl (hb hby at_118) rfl ?_
        show Steps p.tables e below (T26.setTop (mkF m 120 #[.val (.int p0), .val (.int p1), .val (.int p2), .val (.int p3), .val (.int p4), .val (.int p5), .val (.ref b1), .val (.ref b8), .val (.ref b15), .val (.double (f4 (FP.i2d p0))), .second, .val (.double (f4 (FP.i2d p0))), .second, .val (.double (f4 (FP.i2d p1))), .second, .val (.int (1 : Int32)), .val (.int (1 : Int32)), .unset, .unset, .unset, .unset, .unset, .unset, .unset, .unset, .unset, .unset, .unset] [(.double (f4 (FP.i2d p0)))])) _
        refine XS.dconst0 X26.here hx rfl (hb hby at_120) rfl ?_
        show Steps p.tables e below (T26.setTop (mkF m 121 #[.val (.int p0), .val (.int p1), .val (.int p2), .val (.int p3), .val (.int p4), .val (.int p5), .val (.ref b1), .val (.ref b8), .val (.ref b15), .val (.double (f4 (FP.i2d p0))), .second, .val (.double (f4 (FP.i2d p0))), .second, .val (.double (f4 (FP.i2d p1))), .second, .val (.int (1 : Int32)), .val (.int (1 : Int32)), .unset, .unset, .unset, .unset, .unset, .unset, .unset, .unset, .unset, .unset, .unset] [(.double FP.dconst0), (.double (f4 (FP.i2d p0)))])) _
        refine XS.dcmpS X26.here hx rfl (hb hby at_121) rfl rfl ?_
        exact kt)
    by_cases hc122_41 : (0 : Int32) < (cmpValue (FP.dcmp (f4 (FP.i2d p0)) FP.dconst0) .l)
    · have pre42 : ∀ t, Steps p.tables e below (T26.setTop (mkF m 134 #[.val (.int p0), .val (.int p1), .val (.int p2), .val (.int p3), .val (.int p4), .val (.int p5), .val (.ref b1), .val (.ref b8), .val (.ref b15), .val (.double (f4 (FP.i2d p0))), .second, .val (.double (f4 (FP.i2d p0))), .second, .val (.double (f4 (FP.i2d p1))), .second, .val (.int (1 : Int32)), .val (.int (1 : Int32)), .unset, .unset, .unset, .unset, .unset, .unset, .unset, .unset, .unset, .unset, .unset] [(.int (1500 : Int32)), (.int p0), (.int (1 : Int32))])) t → Steps p.tables e below (s₁.setTop (entryFrame m #[(.int p0), (.int p1), (.int p2), (.int p3), (.int p4), (.int p5)] maxLocals)) t := fun t kt => pre40 t (by
          show Steps p.tables e below (T26.setTop (mkF m 122 #[.val (.int p0), .val (.int p1), .val (.int p2), .val (.int p3), .val (.int p4), .val (.int p5), .val (.ref b1), .val (.ref b8), .val (.ref b15), .val (.double (f4 (FP.i2d p0))), .second, .val (.double (f4 (FP.i2d p0))), .second, .val (.double (f4 (FP.i2d p1))), .second, .val (.int (1 : Int32)), .val (.int (1 : Int32)), .unset, .unset, .unset, .unset, .unset, .unset, .unset, .unset, .unset, .unset, .unset] [(.int (cmpValue (FP.dcmp (f4 (FP.i2d p0)) FP.dconst0) .l))])) _
          refine XS.ifNo X26.here hx rfl (hb hby at_122) rfl ((if0 _ _).trans (tlt hc122_41).2.2.2) ?_
          show Steps p.tables e below (T26.setTop (mkF m 125 #[.val (.int p0), .val (.int p1), .val (.int p2), .val (.int p3), .val (.int p4), .val (.int p5), .val (.ref b1), .val (.ref b8), .val (.ref b15), .val (.double (f4 (FP.i2d p0))), .second, .val (.double (f4 (FP.i2d p0))), .second, .val (.double (f4 (FP.i2d p1))), .second, .val (.int (1 : Int32)), .val (.int (1 : Int32)), .unset, .unset, .unset, .unset, .unset, .unset, .unset, .unset, .unset, .unset, .unset] [])) _
          refine XS.iconst X26.here hx rfl (hb hby at_125) ?_
          show Steps p.tables e below (T26.setTop (mkF m 126 #[.val (.int p0), .val (.int p1), .val (.int p2), .val (.int p3), .val (.int p4), .val (.int p5), .val (.ref b1), .val (.ref b8), .val (.ref b15), .val (.double (f4 (FP.i2d p0))), .second, .val (.double (f4 (FP.i2d p0))), .second, .val (.double (f4 (FP.i2d p1))), .second, .val (.int (1 : Int32)), .val (.int (1 : Int32)), .unset, .unset, .unset, .unset, .unset, .unset, .unset, .unset, .unset, .unset, .unset] [(.int (1 : Int32))])) _
          refine XS.goto X26.here hx rfl (pc0 := 126) (pc' := 130) rfl (hb hby at_126) (by decide) (by decide) ?_
          show Steps p.tables e below (T26.setTop (mkF m 130 #[.val (.int p0), .val (.int p1), .val (.int p2), .val (.int p3), .val (.int p4), .val (.int p5), .val (.ref b1), .val (.ref b8), .val (.ref b15), .val (.double (f4 (FP.i2d p0))), .second, .val (.double (f4 (FP.i2d p0))), .second, .val (.double (f4 (FP.i2d p1))), .second, .val (.int (1 : Int32)), .val (.int (1 : Int32)), .unset, .unset, .unset, .unset, .unset, .unset, .unset, .unset, .unset, .unset, .unset] [(.int (1 : Int32))])) _
          refine XS.iloadN X26.here hx rfl (hb hby at_130) rfl ?_
          show Steps p.tables e below (T26.setTop (mkF m 131 #[.val (.int p0), .val (.int p1), .val (.int p2), .val (.int p3), .val (.int p4), .val (.int p5), .val (.ref b1), .val (.ref b8), .val (.ref b15), .val (.double (f4 (FP.i2d p0))), .second, .val (.double (f4 (FP.i2d p0))), .second, .val (.double (f4 (FP.i2d p1))), .second, .val (.int (1 : Int32)), .val (.int (1 : Int32)), .unset, .unset, .unset, .unset, .unset, .unset, .unset, .unset, .unset, .unset, .unset] [(.int p0), (.int (1 : Int32))])) _
          refine XS.sipush X26.here hx rfl (hb hby at_131) ?_
          exact kt)
      have hd134_43 : (1500 : Int32) < p0 := own_p1 hc122_41
      have pre44 : ∀ t, Steps p.tables e below (T26.setTop (mkF m 142 #[.val (.int p0), .val (.int p1), .val (.int p2), .val (.int p3), .val (.int p4), .val (.int p5), .val (.ref b1), .val (.ref b8), .val (.ref b15), .val (.double (f4 (FP.i2d p0))), .second, .val (.double (f4 (FP.i2d p0))), .second, .val (.double (f4 (FP.i2d p1))), .second, .val (.int (1 : Int32)), .val (.int (1 : Int32)), .unset, .unset, .unset, .unset, .unset, .unset, .unset, .unset, .unset, .unset, .unset] [(.int (1 : Int32)), (.int (1 : Int32))])) t → Steps p.tables e below (s₁.setTop (entryFrame m #[(.int p0), (.int p1), (.int p2), (.int p3), (.int p4), (.int p5)] maxLocals)) t := fun t kt => pre42 t (by
          show Steps p.tables e below (T26.setTop (mkF m 134 #[.val (.int p0), .val (.int p1), .val (.int p2), .val (.int p3), .val (.int p4), .val (.int p5), .val (.ref b1), .val (.ref b8), .val (.ref b15), .val (.double (f4 (FP.i2d p0))), .second, .val (.double (f4 (FP.i2d p0))), .second, .val (.double (f4 (FP.i2d p1))), .second, .val (.int (1 : Int32)), .val (.int (1 : Int32)), .unset, .unset, .unset, .unset, .unset, .unset, .unset, .unset, .unset, .unset, .unset] [(.int (1500 : Int32)), (.int p0), (.int (1 : Int32))])) _
          refine XS.icmpNo X26.here hx rfl (hb hby at_134) rfl (tlt hd134_43).2.2.2 ?_
          show Steps p.tables e below (T26.setTop (mkF m 137 #[.val (.int p0), .val (.int p1), .val (.int p2), .val (.int p3), .val (.int p4), .val (.int p5), .val (.ref b1), .val (.ref b8), .val (.ref b15), .val (.double (f4 (FP.i2d p0))), .second, .val (.double (f4 (FP.i2d p0))), .second, .val (.double (f4 (FP.i2d p1))), .second, .val (.int (1 : Int32)), .val (.int (1 : Int32)), .unset, .unset, .unset, .unset, .unset, .unset, .unset, .unset, .unset, .unset, .unset] [(.int (1 : Int32))])) _
          refine XS.iconst X26.here hx rfl (hb hby at_137) ?_
          show Steps p.tables e below (T26.setTop (mkF m 138 #[.val (.int p0), .val (.int p1), .val (.int p2), .val (.int p3), .val (.int p4), .val (.int p5), .val (.ref b1), .val (.ref b8), .val (.ref b15), .val (.double (f4 (FP.i2d p0))), .second, .val (.double (f4 (FP.i2d p0))), .second, .val (.double (f4 (FP.i2d p1))), .second, .val (.int (1 : Int32)), .val (.int (1 : Int32)), .unset, .unset, .unset, .unset, .unset, .unset, .unset, .unset, .unset, .unset, .unset] [(.int (1 : Int32)), (.int (1 : Int32))])) _
          refine XS.goto X26.here hx rfl (pc0 := 138) (pc' := 142) rfl (hb hby at_138) (by decide) (by decide) ?_
          exact kt)
      refine pre44 t ?_
      show Steps p.tables e below (T26.setTop (mkF m 142 #[.val (.int p0), .val (.int p1), .val (.int p2), .val (.int p3), .val (.int p4), .val (.int p5), .val (.ref b1), .val (.ref b8), .val (.ref b15), .val (.double (f4 (FP.i2d p0))), .second, .val (.double (f4 (FP.i2d p0))), .second, .val (.double (f4 (FP.i2d p1))), .second, .val (.int (1 : Int32)), .val (.int (1 : Int32)), .unset, .unset, .unset, .unset, .unset, .unset, .unset, .unset, .unset, .unset, .unset] [(.int (1 : Int32)), (.int (1 : Int32))])) _
      refine XS.icmpNo X26.here hx rfl (hb hby at_142) rfl (teq (by decide : ((1 : Int32) = (1 : Int32)))).2 ?_
      show Steps p.tables e below (T26.setTop (mkF m 145 #[.val (.int p0), .val (.int p1), .val (.int p2), .val (.int p3), .val (.int p4), .val (.int p5), .val (.ref b1), .val (.ref b8), .val (.ref b15), .val (.double (f4 (FP.i2d p0))), .second, .val (.double (f4 (FP.i2d p0))), .second, .val (.double (f4 (FP.i2d p1))), .second, .val (.int (1 : Int32)), .val (.int (1 : Int32)), .unset, .unset, .unset, .unset, .unset, .unset, .unset, .unset, .unset, .unset, .unset] [])) _
      refine XS.iconst X26.here hx rfl (hb hby at_145) ?_
      show Steps p.tables e below (T26.setTop (mkF m 146 #[.val (.int p0), .val (.int p1), .val (.int p2), .val (.int p3), .val (.int p4), .val (.int p5), .val (.ref b1), .val (.ref b8), .val (.ref b15), .val (.double (f4 (FP.i2d p0))), .second, .val (.double (f4 (FP.i2d p0))), .second, .val (.double (f4 (FP.i2d p1))), .second, .val (.int (1 : Int32)), .val (.int (1 : Int32)), .unset, .unset, .unset, .unset, .unset, .unset, .unset, .unset, .unset, .unset, .unset] [(.int (1 : Int32))])) _
      refine XS.goto X26.here hx rfl (pc0 := 146) (pc' := 150) rfl (hb hby at_146) (by decide) (by decide) ?_
      show Steps p.tables e below (T26.setTop (mkF m 150 #[.val (.int p0), .val (.int p1), .val (.int p2), .val (.int p3), .val (.int p4), .val (.int p5), .val (.ref b1), .val (.ref b8), .val (.ref b15), .val (.double (f4 (FP.i2d p0))), .second, .val (.double (f4 (FP.i2d p0))), .second, .val (.double (f4 (FP.i2d p1))), .second, .val (.int (1 : Int32)), .val (.int (1 : Int32)), .unset, .unset, .unset, .unset, .unset, .unset, .unset, .unset, .unset, .unset, .unset] [(.int (1 : Int32))])) _
      refine XS.istore X26.here hx rfl (hb hby at_150) rfl (l' := #[.val (.int p0), .val (.int p1), .val (.int p2), .val (.int p3), .val (.int p4), .val (.int p5), .val (.ref b1), .val (.ref b8), .val (.ref b15), .val (.double (f4 (FP.i2d p0))), .second, .val (.double (f4 (FP.i2d p0))), .second, .val (.double (f4 (FP.i2d p1))), .second, .val (.int (1 : Int32)), .val (.int (1 : Int32)), .val (.int (1 : Int32)), .unset, .unset, .unset, .unset, .unset, .unset, .unset, .unset, .unset, .unset]) rfl ?_
      exact kt
    · have pre45 : ∀ t, Steps p.tables e below (T26.setTop (mkF m 134 #[.val (.int p0), .val (.int p1), .val (.int p2), .val (.int p3), .val (.int p4), .val (.int p5), .val (.ref b1), .val (.ref b8), .val (.ref b15), .val (.double (f4 (FP.i2d p0))), .second, .val (.double (f4 (FP.i2d p0))), .second, .val (.double (f4 (FP.i2d p1))), .second, .val (.int (1 : Int32)), .val (.int (1 : Int32)), .unset, .unset, .unset, .unset, .unset, .unset, .unset, .unset, .unset, .unset, .unset] [(.int (1500 : Int32)), (.int p0), (.int (0 : Int32))])) t → Steps p.tables e below (s₁.setTop (entryFrame m #[(.int p0), (.int p1), (.int p2), (.int p3), (.int p4), (.int p5)] maxLocals)) t := fun t kt => pre40 t (by
          show Steps p.tables e below (T26.setTop (mkF m 122 #[.val (.int p0), .val (.int p1), .val (.int p2), .val (.int p3), .val (.int p4), .val (.int p5), .val (.ref b1), .val (.ref b8), .val (.ref b15), .val (.double (f4 (FP.i2d p0))), .second, .val (.double (f4 (FP.i2d p0))), .second, .val (.double (f4 (FP.i2d p1))), .second, .val (.int (1 : Int32)), .val (.int (1 : Int32)), .unset, .unset, .unset, .unset, .unset, .unset, .unset, .unset, .unset, .unset, .unset] [(.int (cmpValue (FP.dcmp (f4 (FP.i2d p0)) FP.dconst0) .l))])) _
          refine XS.ifYes X26.here hx rfl (pc0 := 122) (pc' := 129) rfl (hb hby at_122) rfl ((if0 _ _).trans (flt hc122_41).2.2.2) (by decide) (by decide) ?_
          show Steps p.tables e below (T26.setTop (mkF m 129 #[.val (.int p0), .val (.int p1), .val (.int p2), .val (.int p3), .val (.int p4), .val (.int p5), .val (.ref b1), .val (.ref b8), .val (.ref b15), .val (.double (f4 (FP.i2d p0))), .second, .val (.double (f4 (FP.i2d p0))), .second, .val (.double (f4 (FP.i2d p1))), .second, .val (.int (1 : Int32)), .val (.int (1 : Int32)), .unset, .unset, .unset, .unset, .unset, .unset, .unset, .unset, .unset, .unset, .unset] [])) _
          refine XS.iconst X26.here hx rfl (hb hby at_129) ?_
          show Steps p.tables e below (T26.setTop (mkF m 130 #[.val (.int p0), .val (.int p1), .val (.int p2), .val (.int p3), .val (.int p4), .val (.int p5), .val (.ref b1), .val (.ref b8), .val (.ref b15), .val (.double (f4 (FP.i2d p0))), .second, .val (.double (f4 (FP.i2d p0))), .second, .val (.double (f4 (FP.i2d p1))), .second, .val (.int (1 : Int32)), .val (.int (1 : Int32)), .unset, .unset, .unset, .unset, .unset, .unset, .unset, .unset, .unset, .unset, .unset] [(.int (0 : Int32))])) _
          refine XS.iloadN X26.here hx rfl (hb hby at_130) rfl ?_
          show Steps p.tables e below (T26.setTop (mkF m 131 #[.val (.int p0), .val (.int p1), .val (.int p2), .val (.int p3), .val (.int p4), .val (.int p5), .val (.ref b1), .val (.ref b8), .val (.ref b15), .val (.double (f4 (FP.i2d p0))), .second, .val (.double (f4 (FP.i2d p0))), .second, .val (.double (f4 (FP.i2d p1))), .second, .val (.int (1 : Int32)), .val (.int (1 : Int32)), .unset, .unset, .unset, .unset, .unset, .unset, .unset, .unset, .unset, .unset, .unset] [(.int p0), (.int (0 : Int32))])) _
          refine XS.sipush X26.here hx rfl (hb hby at_131) ?_
          exact kt)
      have hd134_46 : ¬ ((1500 : Int32) < p0) := own_p2 hc122_41
      have pre47 : ∀ t, Steps p.tables e below (T26.setTop (mkF m 142 #[.val (.int p0), .val (.int p1), .val (.int p2), .val (.int p3), .val (.int p4), .val (.int p5), .val (.ref b1), .val (.ref b8), .val (.ref b15), .val (.double (f4 (FP.i2d p0))), .second, .val (.double (f4 (FP.i2d p0))), .second, .val (.double (f4 (FP.i2d p1))), .second, .val (.int (1 : Int32)), .val (.int (1 : Int32)), .unset, .unset, .unset, .unset, .unset, .unset, .unset, .unset, .unset, .unset, .unset] [(.int (0 : Int32)), (.int (0 : Int32))])) t → Steps p.tables e below (s₁.setTop (entryFrame m #[(.int p0), (.int p1), (.int p2), (.int p3), (.int p4), (.int p5)] maxLocals)) t := fun t kt => pre45 t (by
          show Steps p.tables e below (T26.setTop (mkF m 134 #[.val (.int p0), .val (.int p1), .val (.int p2), .val (.int p3), .val (.int p4), .val (.int p5), .val (.ref b1), .val (.ref b8), .val (.ref b15), .val (.double (f4 (FP.i2d p0))), .second, .val (.double (f4 (FP.i2d p0))), .second, .val (.double (f4 (FP.i2d p1))), .second, .val (.int (1 : Int32)), .val (.int (1 : Int32)), .unset, .unset, .unset, .unset, .unset, .unset, .unset, .unset, .unset, .unset, .unset] [(.int (1500 : Int32)), (.int p0), (.int (0 : Int32))])) _
          refine XS.icmpYes X26.here hx rfl (pc0 := 134) (pc' := 141) rfl (hb hby at_134) rfl (flt hd134_46).2.2.2 (by decide) (by decide) ?_
          show Steps p.tables e below (T26.setTop (mkF m 141 #[.val (.int p0), .val (.int p1), .val (.int p2), .val (.int p3), .val (.int p4), .val (.int p5), .val (.ref b1), .val (.ref b8), .val (.ref b15), .val (.double (f4 (FP.i2d p0))), .second, .val (.double (f4 (FP.i2d p0))), .second, .val (.double (f4 (FP.i2d p1))), .second, .val (.int (1 : Int32)), .val (.int (1 : Int32)), .unset, .unset, .unset, .unset, .unset, .unset, .unset, .unset, .unset, .unset, .unset] [(.int (0 : Int32))])) _
          refine XS.iconst X26.here hx rfl (hb hby at_141) ?_
          exact kt)
      refine pre47 t ?_
      show Steps p.tables e below (T26.setTop (mkF m 142 #[.val (.int p0), .val (.int p1), .val (.int p2), .val (.int p3), .val (.int p4), .val (.int p5), .val (.ref b1), .val (.ref b8), .val (.ref b15), .val (.double (f4 (FP.i2d p0))), .second, .val (.double (f4 (FP.i2d p0))), .second, .val (.double (f4 (FP.i2d p1))), .second, .val (.int (1 : Int32)), .val (.int (1 : Int32)), .unset, .unset, .unset, .unset, .unset, .unset, .unset, .unset, .unset, .unset, .unset] [(.int (0 : Int32)), (.int (0 : Int32))])) _
      refine XS.icmpNo X26.here hx rfl (hb hby at_142) rfl (teq (by decide : ((0 : Int32) = (0 : Int32)))).2 ?_
      show Steps p.tables e below (T26.setTop (mkF m 145 #[.val (.int p0), .val (.int p1), .val (.int p2), .val (.int p3), .val (.int p4), .val (.int p5), .val (.ref b1), .val (.ref b8), .val (.ref b15), .val (.double (f4 (FP.i2d p0))), .second, .val (.double (f4 (FP.i2d p0))), .second, .val (.double (f4 (FP.i2d p1))), .second, .val (.int (1 : Int32)), .val (.int (1 : Int32)), .unset, .unset, .unset, .unset, .unset, .unset, .unset, .unset, .unset, .unset, .unset] [])) _
      refine XS.iconst X26.here hx rfl (hb hby at_145) ?_
      show Steps p.tables e below (T26.setTop (mkF m 146 #[.val (.int p0), .val (.int p1), .val (.int p2), .val (.int p3), .val (.int p4), .val (.int p5), .val (.ref b1), .val (.ref b8), .val (.ref b15), .val (.double (f4 (FP.i2d p0))), .second, .val (.double (f4 (FP.i2d p0))), .second, .val (.double (f4 (FP.i2d p1))), .second, .val (.int (1 : Int32)), .val (.int (1 : Int32)), .unset, .unset, .unset, .unset, .unset, .unset, .unset, .unset, .unset, .unset, .unset] [(.int (1 : Int32))])) _
      refine XS.goto X26.here hx rfl (pc0 := 146) (pc' := 150) rfl (hb hby at_146) (by decide) (by decide) ?_
      show Steps p.tables e below (T26.setTop (mkF m 150 #[.val (.int p0), .val (.int p1), .val (.int p2), .val (.int p3), .val (.int p4), .val (.int p5), .val (.ref b1), .val (.ref b8), .val (.ref b15), .val (.double (f4 (FP.i2d p0))), .second, .val (.double (f4 (FP.i2d p0))), .second, .val (.double (f4 (FP.i2d p1))), .second, .val (.int (1 : Int32)), .val (.int (1 : Int32)), .unset, .unset, .unset, .unset, .unset, .unset, .unset, .unset, .unset, .unset, .unset] [(.int (1 : Int32))])) _
      refine XS.istore X26.here hx rfl (hb hby at_150) rfl (l' := #[.val (.int p0), .val (.int p1), .val (.int p2), .val (.int p3), .val (.int p4), .val (.int p5), .val (.ref b1), .val (.ref b8), .val (.ref b15), .val (.double (f4 (FP.i2d p0))), .second, .val (.double (f4 (FP.i2d p0))), .second, .val (.double (f4 (FP.i2d p1))), .second, .val (.int (1 : Int32)), .val (.int (1 : Int32)), .val (.int (1 : Int32)), .unset, .unset, .unset, .unset, .unset, .unset, .unset, .unset, .unset, .unset]) rfl ?_
      exact kt
  have pre48 : ∀ t, Steps p.tables e below (T26.setTop (mkF m 185 #[.val (.int p0), .val (.int p1), .val (.int p2), .val (.int p3), .val (.int p4), .val (.int p5), .val (.ref b1), .val (.ref b8), .val (.ref b15), .val (.double (f4 (FP.i2d p0))), .second, .val (.double (f4 (FP.i2d p0))), .second, .val (.double (f4 (FP.i2d p1))), .second, .val (.int (1 : Int32)), .val (.int (1 : Int32)), .val (.int (1 : Int32)), .val (.double (FP.l2d ((p0.toInt64) - (1500 : Int64)))), .second, .val (.double (FP.dmul (FP.l2d ((p0.toInt64) - (1500 : Int64))) (4666723172467343360 : UInt64))), .second, .val (.double (FP.ddiv (FP.dmul (FP.l2d ((p0.toInt64) - (1500 : Int64))) (4666723172467343360 : UInt64)) (4700211938712354816 : UInt64))), .second, .val (.double (FP.ddiv (FP.dmul (FP.l2d ((p0.toInt64) - (1500 : Int64))) (4666723172467343360 : UInt64)) (4700211930122420224 : UInt64))), .second, .unset, .unset] [])) t → Steps p.tables e below (s₁.setTop (entryFrame m #[(.int p0), (.int p1), (.int p2), (.int p3), (.int p4), (.int p5)] maxLocals)) t := fun t kt => preB39 t (by
      show Steps p.tables e below (T26.setTop (mkF m 152 #[.val (.int p0), .val (.int p1), .val (.int p2), .val (.int p3), .val (.int p4), .val (.int p5), .val (.ref b1), .val (.ref b8), .val (.ref b15), .val (.double (f4 (FP.i2d p0))), .second, .val (.double (f4 (FP.i2d p0))), .second, .val (.double (f4 (FP.i2d p1))), .second, .val (.int (1 : Int32)), .val (.int (1 : Int32)), .val (.int (1 : Int32)), .unset, .unset, .unset, .unset, .unset, .unset, .unset, .unset, .unset, .unset] [])) _
      refine XS.iloadN X26.here hx rfl (hb hby at_152) rfl ?_
      show Steps p.tables e below (T26.setTop (mkF m 153 #[.val (.int p0), .val (.int p1), .val (.int p2), .val (.int p3), .val (.int p4), .val (.int p5), .val (.ref b1), .val (.ref b8), .val (.ref b15), .val (.double (f4 (FP.i2d p0))), .second, .val (.double (f4 (FP.i2d p0))), .second, .val (.double (f4 (FP.i2d p1))), .second, .val (.int (1 : Int32)), .val (.int (1 : Int32)), .val (.int (1 : Int32)), .unset, .unset, .unset, .unset, .unset, .unset, .unset, .unset, .unset, .unset] [(.int p0)])) _
      refine XS.i2l X26.here hx rfl (hb hby at_153) rfl ?_
      show Steps p.tables e below (T26.setTop (mkF m 154 #[.val (.int p0), .val (.int p1), .val (.int p2), .val (.int p3), .val (.int p4), .val (.int p5), .val (.ref b1), .val (.ref b8), .val (.ref b15), .val (.double (f4 (FP.i2d p0))), .second, .val (.double (f4 (FP.i2d p0))), .second, .val (.double (f4 (FP.i2d p1))), .second, .val (.int (1 : Int32)), .val (.int (1 : Int32)), .val (.int (1 : Int32)), .unset, .unset, .unset, .unset, .unset, .unset, .unset, .unset, .unset, .unset] [(.long (p0.toInt64))])) _
      refine X26.ldc2Long hx hown (mvT hZ (hw _ (List.mem_of_getElem? (i := 28) rfl))) (g := (mkF m 154 #[.val (.int p0), .val (.int p1), .val (.int p2), .val (.int p3), .val (.int p4), .val (.int p5), .val (.ref b1), .val (.ref b8), .val (.ref b15), .val (.double (f4 (FP.i2d p0))), .second, .val (.double (f4 (FP.i2d p0))), .second, .val (.double (f4 (FP.i2d p1))), .second, .val (.int (1 : Int32)), .val (.int (1 : Int32)), .val (.int (1 : Int32)), .unset, .unset, .unset, .unset, .unset, .unset, .unset, .unset, .unset, .unset] [(.long (p0.toInt64))])) rfl (hb hby at_154) _ ?_
      show Steps p.tables e below (T26.setTop (mkF m 157 #[.val (.int p0), .val (.int p1), .val (.int p2), .val (.int p3), .val (.int p4), .val (.int p5), .val (.ref b1), .val (.ref b8), .val (.ref b15), .val (.double (f4 (FP.i2d p0))), .second, .val (.double (f4 (FP.i2d p0))), .second, .val (.double (f4 (FP.i2d p1))), .second, .val (.int (1 : Int32)), .val (.int (1 : Int32)), .val (.int (1 : Int32)), .unset, .unset, .unset, .unset, .unset, .unset, .unset, .unset, .unset, .unset] [(.long (1500 : Int64)), (.long (p0.toInt64))])) _
      refine XS.lsub X26.here hx rfl (hb hby at_157) rfl ?_
      show Steps p.tables e below (T26.setTop (mkF m 158 #[.val (.int p0), .val (.int p1), .val (.int p2), .val (.int p3), .val (.int p4), .val (.int p5), .val (.ref b1), .val (.ref b8), .val (.ref b15), .val (.double (f4 (FP.i2d p0))), .second, .val (.double (f4 (FP.i2d p0))), .second, .val (.double (f4 (FP.i2d p1))), .second, .val (.int (1 : Int32)), .val (.int (1 : Int32)), .val (.int (1 : Int32)), .unset, .unset, .unset, .unset, .unset, .unset, .unset, .unset, .unset, .unset] [(.long ((p0.toInt64) - (1500 : Int64)))])) _
      refine XS.l2dS X26.here hx rfl (hb hby at_158) rfl rfl ?_
      show Steps p.tables e below (T26.setTop (mkF m 159 #[.val (.int p0), .val (.int p1), .val (.int p2), .val (.int p3), .val (.int p4), .val (.int p5), .val (.ref b1), .val (.ref b8), .val (.ref b15), .val (.double (f4 (FP.i2d p0))), .second, .val (.double (f4 (FP.i2d p0))), .second, .val (.double (f4 (FP.i2d p1))), .second, .val (.int (1 : Int32)), .val (.int (1 : Int32)), .val (.int (1 : Int32)), .unset, .unset, .unset, .unset, .unset, .unset, .unset, .unset, .unset, .unset] [(.double (FP.l2d ((p0.toInt64) - (1500 : Int64))))])) _
      refine XS.dstore X26.here hx rfl (hb hby at_159) rfl (l' := #[.val (.int p0), .val (.int p1), .val (.int p2), .val (.int p3), .val (.int p4), .val (.int p5), .val (.ref b1), .val (.ref b8), .val (.ref b15), .val (.double (f4 (FP.i2d p0))), .second, .val (.double (f4 (FP.i2d p0))), .second, .val (.double (f4 (FP.i2d p1))), .second, .val (.int (1 : Int32)), .val (.int (1 : Int32)), .val (.int (1 : Int32)), .val (.double (FP.l2d ((p0.toInt64) - (1500 : Int64)))), .second, .unset, .unset, .unset, .unset, .unset, .unset, .unset, .unset]) rfl ?_
      show Steps p.tables e below (T26.setTop (mkF m 161 #[.val (.int p0), .val (.int p1), .val (.int p2), .val (.int p3), .val (.int p4), .val (.int p5), .val (.ref b1), .val (.ref b8), .val (.ref b15), .val (.double (f4 (FP.i2d p0))), .second, .val (.double (f4 (FP.i2d p0))), .second, .val (.double (f4 (FP.i2d p1))), .second, .val (.int (1 : Int32)), .val (.int (1 : Int32)), .val (.int (1 : Int32)), .val (.double (FP.l2d ((p0.toInt64) - (1500 : Int64)))), .second, .unset, .unset, .unset, .unset, .unset, .unset, .unset, .unset] [])) _
      refine XS.dload X26.here hx rfl (hb hby at_161) rfl ?_
      show Steps p.tables e below (T26.setTop (mkF m 163 #[.val (.int p0), .val (.int p1), .val (.int p2), .val (.int p3), .val (.int p4), .val (.int p5), .val (.ref b1), .val (.ref b8), .val (.ref b15), .val (.double (f4 (FP.i2d p0))), .second, .val (.double (f4 (FP.i2d p0))), .second, .val (.double (f4 (FP.i2d p1))), .second, .val (.int (1 : Int32)), .val (.int (1 : Int32)), .val (.int (1 : Int32)), .val (.double (FP.l2d ((p0.toInt64) - (1500 : Int64)))), .second, .unset, .unset, .unset, .unset, .unset, .unset, .unset, .unset] [(.double (FP.l2d ((p0.toInt64) - (1500 : Int64))))])) _
      refine X26.ldc2DoubleC hx hown (mvT hZ (hw _ (List.mem_of_getElem? (i := 29) rfl))) (g := (mkF m 163 #[.val (.int p0), .val (.int p1), .val (.int p2), .val (.int p3), .val (.int p4), .val (.int p5), .val (.ref b1), .val (.ref b8), .val (.ref b15), .val (.double (f4 (FP.i2d p0))), .second, .val (.double (f4 (FP.i2d p0))), .second, .val (.double (f4 (FP.i2d p1))), .second, .val (.int (1 : Int32)), .val (.int (1 : Int32)), .val (.int (1 : Int32)), .val (.double (FP.l2d ((p0.toInt64) - (1500 : Int64)))), .second, .unset, .unset, .unset, .unset, .unset, .unset, .unset, .unset] [(.double (FP.l2d ((p0.toInt64) - (1500 : Int64))))])) rfl (hb hby at_163) _ ?_
      show Steps p.tables e below (T26.setTop (mkF m 166 #[.val (.int p0), .val (.int p1), .val (.int p2), .val (.int p3), .val (.int p4), .val (.int p5), .val (.ref b1), .val (.ref b8), .val (.ref b15), .val (.double (f4 (FP.i2d p0))), .second, .val (.double (f4 (FP.i2d p0))), .second, .val (.double (f4 (FP.i2d p1))), .second, .val (.int (1 : Int32)), .val (.int (1 : Int32)), .val (.int (1 : Int32)), .val (.double (FP.l2d ((p0.toInt64) - (1500 : Int64)))), .second, .unset, .unset, .unset, .unset, .unset, .unset, .unset, .unset] [(.double (4666723172467343360 : UInt64)), (.double (FP.l2d ((p0.toInt64) - (1500 : Int64))))])) _
      refine XS.dmulS X26.here hx rfl (hb hby at_166) rfl (own_n3 _) rfl ?_
      show Steps p.tables e below (T26.setTop (mkF m 167 #[.val (.int p0), .val (.int p1), .val (.int p2), .val (.int p3), .val (.int p4), .val (.int p5), .val (.ref b1), .val (.ref b8), .val (.ref b15), .val (.double (f4 (FP.i2d p0))), .second, .val (.double (f4 (FP.i2d p0))), .second, .val (.double (f4 (FP.i2d p1))), .second, .val (.int (1 : Int32)), .val (.int (1 : Int32)), .val (.int (1 : Int32)), .val (.double (FP.l2d ((p0.toInt64) - (1500 : Int64)))), .second, .unset, .unset, .unset, .unset, .unset, .unset, .unset, .unset] [(.double (FP.dmul (FP.l2d ((p0.toInt64) - (1500 : Int64))) (4666723172467343360 : UInt64)))])) _
      refine XS.dstore X26.here hx rfl (hb hby at_167) rfl (l' := #[.val (.int p0), .val (.int p1), .val (.int p2), .val (.int p3), .val (.int p4), .val (.int p5), .val (.ref b1), .val (.ref b8), .val (.ref b15), .val (.double (f4 (FP.i2d p0))), .second, .val (.double (f4 (FP.i2d p0))), .second, .val (.double (f4 (FP.i2d p1))), .second, .val (.int (1 : Int32)), .val (.int (1 : Int32)), .val (.int (1 : Int32)), .val (.double (FP.l2d ((p0.toInt64) - (1500 : Int64)))), .second, .val (.double (FP.dmul (FP.l2d ((p0.toInt64) - (1500 : Int64))) (4666723172467343360 : UInt64))), .second, .unset, .unset, .unset, .unset, .unset, .unset]) rfl ?_
      show Steps p.tables e below (T26.setTop (mkF m 169 #[.val (.int p0), .val (.int p1), .val (.int p2), .val (.int p3), .val (.int p4), .val (.int p5), .val (.ref b1), .val (.ref b8), .val (.ref b15), .val (.double (f4 (FP.i2d p0))), .second, .val (.double (f4 (FP.i2d p0))), .second, .val (.double (f4 (FP.i2d p1))), .second, .val (.int (1 : Int32)), .val (.int (1 : Int32)), .val (.int (1 : Int32)), .val (.double (FP.l2d ((p0.toInt64) - (1500 : Int64)))), .second, .val (.double (FP.dmul (FP.l2d ((p0.toInt64) - (1500 : Int64))) (4666723172467343360 : UInt64))), .second, .unset, .unset, .unset, .unset, .unset, .unset] [])) _
      refine XS.dload X26.here hx rfl (hb hby at_169) rfl ?_
      show Steps p.tables e below (T26.setTop (mkF m 171 #[.val (.int p0), .val (.int p1), .val (.int p2), .val (.int p3), .val (.int p4), .val (.int p5), .val (.ref b1), .val (.ref b8), .val (.ref b15), .val (.double (f4 (FP.i2d p0))), .second, .val (.double (f4 (FP.i2d p0))), .second, .val (.double (f4 (FP.i2d p1))), .second, .val (.int (1 : Int32)), .val (.int (1 : Int32)), .val (.int (1 : Int32)), .val (.double (FP.l2d ((p0.toInt64) - (1500 : Int64)))), .second, .val (.double (FP.dmul (FP.l2d ((p0.toInt64) - (1500 : Int64))) (4666723172467343360 : UInt64))), .second, .unset, .unset, .unset, .unset, .unset, .unset] [(.double (FP.dmul (FP.l2d ((p0.toInt64) - (1500 : Int64))) (4666723172467343360 : UInt64)))])) _
      refine X26.ldc2DoubleC hx hown (mvT hZ (hw _ (List.mem_of_getElem? (i := 30) rfl))) (g := (mkF m 171 #[.val (.int p0), .val (.int p1), .val (.int p2), .val (.int p3), .val (.int p4), .val (.int p5), .val (.ref b1), .val (.ref b8), .val (.ref b15), .val (.double (f4 (FP.i2d p0))), .second, .val (.double (f4 (FP.i2d p0))), .second, .val (.double (f4 (FP.i2d p1))), .second, .val (.int (1 : Int32)), .val (.int (1 : Int32)), .val (.int (1 : Int32)), .val (.double (FP.l2d ((p0.toInt64) - (1500 : Int64)))), .second, .val (.double (FP.dmul (FP.l2d ((p0.toInt64) - (1500 : Int64))) (4666723172467343360 : UInt64))), .second, .unset, .unset, .unset, .unset, .unset, .unset] [(.double (FP.dmul (FP.l2d ((p0.toInt64) - (1500 : Int64))) (4666723172467343360 : UInt64)))])) rfl (hb hby at_171) _ ?_
      show Steps p.tables e below (T26.setTop (mkF m 174 #[.val (.int p0), .val (.int p1), .val (.int p2), .val (.int p3), .val (.int p4), .val (.int p5), .val (.ref b1), .val (.ref b8), .val (.ref b15), .val (.double (f4 (FP.i2d p0))), .second, .val (.double (f4 (FP.i2d p0))), .second, .val (.double (f4 (FP.i2d p1))), .second, .val (.int (1 : Int32)), .val (.int (1 : Int32)), .val (.int (1 : Int32)), .val (.double (FP.l2d ((p0.toInt64) - (1500 : Int64)))), .second, .val (.double (FP.dmul (FP.l2d ((p0.toInt64) - (1500 : Int64))) (4666723172467343360 : UInt64))), .second, .unset, .unset, .unset, .unset, .unset, .unset] [(.double (4700211938712354816 : UInt64)), (.double (FP.dmul (FP.l2d ((p0.toInt64) - (1500 : Int64))) (4666723172467343360 : UInt64)))])) _
      refine XS.ddivS X26.here hx rfl (hb hby at_174) rfl (own_n4 _) rfl ?_
      show Steps p.tables e below (T26.setTop (mkF m 175 #[.val (.int p0), .val (.int p1), .val (.int p2), .val (.int p3), .val (.int p4), .val (.int p5), .val (.ref b1), .val (.ref b8), .val (.ref b15), .val (.double (f4 (FP.i2d p0))), .second, .val (.double (f4 (FP.i2d p0))), .second, .val (.double (f4 (FP.i2d p1))), .second, .val (.int (1 : Int32)), .val (.int (1 : Int32)), .val (.int (1 : Int32)), .val (.double (FP.l2d ((p0.toInt64) - (1500 : Int64)))), .second, .val (.double (FP.dmul (FP.l2d ((p0.toInt64) - (1500 : Int64))) (4666723172467343360 : UInt64))), .second, .unset, .unset, .unset, .unset, .unset, .unset] [(.double (FP.ddiv (FP.dmul (FP.l2d ((p0.toInt64) - (1500 : Int64))) (4666723172467343360 : UInt64)) (4700211938712354816 : UInt64)))])) _
      refine XS.dstore X26.here hx rfl (hb hby at_175) rfl (l' := #[.val (.int p0), .val (.int p1), .val (.int p2), .val (.int p3), .val (.int p4), .val (.int p5), .val (.ref b1), .val (.ref b8), .val (.ref b15), .val (.double (f4 (FP.i2d p0))), .second, .val (.double (f4 (FP.i2d p0))), .second, .val (.double (f4 (FP.i2d p1))), .second, .val (.int (1 : Int32)), .val (.int (1 : Int32)), .val (.int (1 : Int32)), .val (.double (FP.l2d ((p0.toInt64) - (1500 : Int64)))), .second, .val (.double (FP.dmul (FP.l2d ((p0.toInt64) - (1500 : Int64))) (4666723172467343360 : UInt64))), .second, .val (.double (FP.ddiv (FP.dmul (FP.l2d ((p0.toInt64) - (1500 : Int64))) (4666723172467343360 : UInt64)) (4700211938712354816 : UInt64))), .second, .unset, .unset, .unset, .unset]) rfl ?_
      show Steps p.tables e below (T26.setTop (mkF m 177 #[.val (.int p0), .val (.int p1), .val (.int p2), .val (.int p3), .val (.int p4), .val (.int p5), .val (.ref b1), .val (.ref b8), .val (.ref b15), .val (.double (f4 (FP.i2d p0))), .second, .val (.double (f4 (FP.i2d p0))), .second, .val (.double (f4 (FP.i2d p1))), .second, .val (.int (1 : Int32)), .val (.int (1 : Int32)), .val (.int (1 : Int32)), .val (.double (FP.l2d ((p0.toInt64) - (1500 : Int64)))), .second, .val (.double (FP.dmul (FP.l2d ((p0.toInt64) - (1500 : Int64))) (4666723172467343360 : UInt64))), .second, .val (.double (FP.ddiv (FP.dmul (FP.l2d ((p0.toInt64) - (1500 : Int64))) (4666723172467343360 : UInt64)) (4700211938712354816 : UInt64))), .second, .unset, .unset, .unset, .unset] [])) _
      refine XS.dload X26.here hx rfl (hb hby at_177) rfl ?_
      show Steps p.tables e below (T26.setTop (mkF m 179 #[.val (.int p0), .val (.int p1), .val (.int p2), .val (.int p3), .val (.int p4), .val (.int p5), .val (.ref b1), .val (.ref b8), .val (.ref b15), .val (.double (f4 (FP.i2d p0))), .second, .val (.double (f4 (FP.i2d p0))), .second, .val (.double (f4 (FP.i2d p1))), .second, .val (.int (1 : Int32)), .val (.int (1 : Int32)), .val (.int (1 : Int32)), .val (.double (FP.l2d ((p0.toInt64) - (1500 : Int64)))), .second, .val (.double (FP.dmul (FP.l2d ((p0.toInt64) - (1500 : Int64))) (4666723172467343360 : UInt64))), .second, .val (.double (FP.ddiv (FP.dmul (FP.l2d ((p0.toInt64) - (1500 : Int64))) (4666723172467343360 : UInt64)) (4700211938712354816 : UInt64))), .second, .unset, .unset, .unset, .unset] [(.double (FP.dmul (FP.l2d ((p0.toInt64) - (1500 : Int64))) (4666723172467343360 : UInt64)))])) _
      refine X26.ldc2DoubleC hx hown (mvT hZ (hw _ (List.mem_of_getElem? (i := 31) rfl))) (g := (mkF m 179 #[.val (.int p0), .val (.int p1), .val (.int p2), .val (.int p3), .val (.int p4), .val (.int p5), .val (.ref b1), .val (.ref b8), .val (.ref b15), .val (.double (f4 (FP.i2d p0))), .second, .val (.double (f4 (FP.i2d p0))), .second, .val (.double (f4 (FP.i2d p1))), .second, .val (.int (1 : Int32)), .val (.int (1 : Int32)), .val (.int (1 : Int32)), .val (.double (FP.l2d ((p0.toInt64) - (1500 : Int64)))), .second, .val (.double (FP.dmul (FP.l2d ((p0.toInt64) - (1500 : Int64))) (4666723172467343360 : UInt64))), .second, .val (.double (FP.ddiv (FP.dmul (FP.l2d ((p0.toInt64) - (1500 : Int64))) (4666723172467343360 : UInt64)) (4700211938712354816 : UInt64))), .second, .unset, .unset, .unset, .unset] [(.double (FP.dmul (FP.l2d ((p0.toInt64) - (1500 : Int64))) (4666723172467343360 : UInt64)))])) rfl (hb hby at_179) _ ?_
      show Steps p.tables e below (T26.setTop (mkF m 182 #[.val (.int p0), .val (.int p1), .val (.int p2), .val (.int p3), .val (.int p4), .val (.int p5), .val (.ref b1), .val (.ref b8), .val (.ref b15), .val (.double (f4 (FP.i2d p0))), .second, .val (.double (f4 (FP.i2d p0))), .second, .val (.double (f4 (FP.i2d p1))), .second, .val (.int (1 : Int32)), .val (.int (1 : Int32)), .val (.int (1 : Int32)), .val (.double (FP.l2d ((p0.toInt64) - (1500 : Int64)))), .second, .val (.double (FP.dmul (FP.l2d ((p0.toInt64) - (1500 : Int64))) (4666723172467343360 : UInt64))), .second, .val (.double (FP.ddiv (FP.dmul (FP.l2d ((p0.toInt64) - (1500 : Int64))) (4666723172467343360 : UInt64)) (4700211938712354816 : UInt64))), .second, .unset, .unset, .unset, .unset] [(.double (4700211930122420224 : UInt64)), (.double (FP.dmul (FP.l2d ((p0.toInt64) - (1500 : Int64))) (4666723172467343360 : UInt64)))])) _
      refine XS.ddivS X26.here hx rfl (hb hby at_182) rfl (own_n5 _) rfl ?_
      show Steps p.tables e below (T26.setTop (mkF m 183 #[.val (.int p0), .val (.int p1), .val (.int p2), .val (.int p3), .val (.int p4), .val (.int p5), .val (.ref b1), .val (.ref b8), .val (.ref b15), .val (.double (f4 (FP.i2d p0))), .second, .val (.double (f4 (FP.i2d p0))), .second, .val (.double (f4 (FP.i2d p1))), .second, .val (.int (1 : Int32)), .val (.int (1 : Int32)), .val (.int (1 : Int32)), .val (.double (FP.l2d ((p0.toInt64) - (1500 : Int64)))), .second, .val (.double (FP.dmul (FP.l2d ((p0.toInt64) - (1500 : Int64))) (4666723172467343360 : UInt64))), .second, .val (.double (FP.ddiv (FP.dmul (FP.l2d ((p0.toInt64) - (1500 : Int64))) (4666723172467343360 : UInt64)) (4700211938712354816 : UInt64))), .second, .unset, .unset, .unset, .unset] [(.double (FP.ddiv (FP.dmul (FP.l2d ((p0.toInt64) - (1500 : Int64))) (4666723172467343360 : UInt64)) (4700211930122420224 : UInt64)))])) _
      refine XS.dstore X26.here hx rfl (hb hby at_183) rfl (l' := #[.val (.int p0), .val (.int p1), .val (.int p2), .val (.int p3), .val (.int p4), .val (.int p5), .val (.ref b1), .val (.ref b8), .val (.ref b15), .val (.double (f4 (FP.i2d p0))), .second, .val (.double (f4 (FP.i2d p0))), .second, .val (.double (f4 (FP.i2d p1))), .second, .val (.int (1 : Int32)), .val (.int (1 : Int32)), .val (.int (1 : Int32)), .val (.double (FP.l2d ((p0.toInt64) - (1500 : Int64)))), .second, .val (.double (FP.dmul (FP.l2d ((p0.toInt64) - (1500 : Int64))) (4666723172467343360 : UInt64))), .second, .val (.double (FP.ddiv (FP.dmul (FP.l2d ((p0.toInt64) - (1500 : Int64))) (4666723172467343360 : UInt64)) (4700211938712354816 : UInt64))), .second, .val (.double (FP.ddiv (FP.dmul (FP.l2d ((p0.toInt64) - (1500 : Int64))) (4666723172467343360 : UInt64)) (4700211930122420224 : UInt64))), .second, .unset, .unset]) rfl ?_
      exact kt)
  have preB49 : ∀ t, Steps p.tables e below (T26.setTop (mkF m 241 #[.val (.int p0), .val (.int p1), .val (.int p2), .val (.int p3), .val (.int p4), .val (.int p5), .val (.ref b1), .val (.ref b8), .val (.ref b15), .val (.double (f4 (FP.i2d p0))), .second, .val (.double (f4 (FP.i2d p0))), .second, .val (.double (f4 (FP.i2d p1))), .second, .val (.int (1 : Int32)), .val (.int (1 : Int32)), .val (.int (1 : Int32)), .val (.double (FP.l2d ((p0.toInt64) - (1500 : Int64)))), .second, .val (.double (FP.dmul (FP.l2d ((p0.toInt64) - (1500 : Int64))) (4666723172467343360 : UInt64))), .second, .val (.double (FP.ddiv (FP.dmul (FP.l2d ((p0.toInt64) - (1500 : Int64))) (4666723172467343360 : UInt64)) (4700211938712354816 : UInt64))), .second, .val (.double (FP.ddiv (FP.dmul (FP.l2d ((p0.toInt64) - (1500 : Int64))) (4666723172467343360 : UInt64)) (4700211930122420224 : UInt64))), .second, .val (.int (1 : Int32)), .unset] [])) t → Steps p.tables e below (s₁.setTop (entryFrame m #[(.int p0), (.int p1), (.int p2), (.int p3), (.int p4), (.int p5)] maxLocals)) t := by
    intro t kt
    have pre50 : ∀ t, Steps p.tables e below (T26.setTop (mkF m 189 #[.val (.int p0), .val (.int p1), .val (.int p2), .val (.int p3), .val (.int p4), .val (.int p5), .val (.ref b1), .val (.ref b8), .val (.ref b15), .val (.double (f4 (FP.i2d p0))), .second, .val (.double (f4 (FP.i2d p0))), .second, .val (.double (f4 (FP.i2d p1))), .second, .val (.int (1 : Int32)), .val (.int (1 : Int32)), .val (.int (1 : Int32)), .val (.double (FP.l2d ((p0.toInt64) - (1500 : Int64)))), .second, .val (.double (FP.dmul (FP.l2d ((p0.toInt64) - (1500 : Int64))) (4666723172467343360 : UInt64))), .second, .val (.double (FP.ddiv (FP.dmul (FP.l2d ((p0.toInt64) - (1500 : Int64))) (4666723172467343360 : UInt64)) (4700211938712354816 : UInt64))), .second, .val (.double (FP.ddiv (FP.dmul (FP.l2d ((p0.toInt64) - (1500 : Int64))) (4666723172467343360 : UInt64)) (4700211930122420224 : UInt64))), .second, .unset, .unset] [(.int (cmpValue (FP.dcmp (FP.l2d ((p0.toInt64) - (1500 : Int64))) FP.dconst0) .l))])) t → Steps p.tables e below (s₁.setTop (entryFrame m #[(.int p0), (.int p1), (.int p2), (.int p3), (.int p4), (.int p5)] maxLocals)) t := fun t kt => pre48 t (by
        show Steps p.tables e below (T26.setTop (mkF m 185 #[.val (.int p0), .val (.int p1), .val (.int p2), .val (.int p3), .val (.int p4), .val (.int p5), .val (.ref b1), .val (.ref b8), .val (.ref b15), .val (.double (f4 (FP.i2d p0))), .second, .val (.double (f4 (FP.i2d p0))), .second, .val (.double (f4 (FP.i2d p1))), .second, .val (.int (1 : Int32)), .val (.int (1 : Int32)), .val (.int (1 : Int32)), .val (.double (FP.l2d ((p0.toInt64) - (1500 : Int64)))), .second, .val (.double (FP.dmul (FP.l2d ((p0.toInt64) - (1500 : Int64))) (4666723172467343360 : UInt64))), .second, .val (.double (FP.ddiv (FP.dmul (FP.l2d ((p0.toInt64) - (1500 : Int64))) (4666723172467343360 : UInt64)) (4700211938712354816 : UInt64))), .second, .val (.double (FP.ddiv (FP.dmul (FP.l2d ((p0.toInt64) - (1500 : Int64))) (4666723172467343360 : UInt64)) (4700211930122420224 : UInt64))), .second, .unset, .unset] [])) _
        refine XS.dload X26.here hx rfl (hb hby at_185) rfl ?_
        show Steps p.tables e below (T26.setTop (mkF m 187 #[.val (.int p0), .val (.int p1), .val (.int p2), .val (.int p3), .val (.int p4), .val (.int p5), .val (.ref b1), .val (.ref b8), .val (.ref b15), .val (.double (f4 (FP.i2d p0))), .second, .val (.double (f4 (FP.i2d p0))), .second, .val (.double (f4 (FP.i2d p1))), .second, .val (.int (1 : Int32)), .val (.int (1 : Int32)), .val (.int (1 : Int32)), .val (.double (FP.l2d ((p0.toInt64) - (1500 : Int64)))), .second, .val (.double (FP.dmul (FP.l2d ((p0.toInt64) - (1500 : Int64))) (4666723172467343360 : UInt64))), .second, .val (.double (FP.ddiv (FP.dmul (FP.l2d ((p0.toInt64) - (1500 : Int64))) (4666723172467343360 : UInt64)) (4700211938712354816 : UInt64))), .second, .val (.double (FP.ddiv (FP.dmul (FP.l2d ((p0.toInt64) - (1500 : Int64))) (4666723172467343360 : UInt64)) (4700211930122420224 : UInt64))), .second, .unset, .unset] [(.double (FP.l2d ((p0.toInt64) - (1500 : Int64))))])) _
        refine XS.dconst0 X26.here hx rfl (hb hby at_187) rfl ?_
        show Steps p.tables e below (T26.setTop (mkF m 188 #[.val (.int p0), .val (.int p1), .val (.int p2), .val (.int p3), .val (.int p4), .val (.int p5), .val (.ref b1), .val (.ref b8), .val (.ref b15), .val (.double (f4 (FP.i2d p0))), .second, .val (.double (f4 (FP.i2d p0))), .second, .val (.double (f4 (FP.i2d p1))), .second, .val (.int (1 : Int32)), .val (.int (1 : Int32)), .val (.int (1 : Int32)), .val (.double (FP.l2d ((p0.toInt64) - (1500 : Int64)))), .second, .val (.double (FP.dmul (FP.l2d ((p0.toInt64) - (1500 : Int64))) (4666723172467343360 : UInt64))), .second, .val (.double (FP.ddiv (FP.dmul (FP.l2d ((p0.toInt64) - (1500 : Int64))) (4666723172467343360 : UInt64)) (4700211938712354816 : UInt64))), .second, .val (.double (FP.ddiv (FP.dmul (FP.l2d ((p0.toInt64) - (1500 : Int64))) (4666723172467343360 : UInt64)) (4700211930122420224 : UInt64))), .second, .unset, .unset] [(.double FP.dconst0), (.double (FP.l2d ((p0.toInt64) - (1500 : Int64))))])) _
        refine XS.dcmpS X26.here hx rfl (hb hby at_188) rfl rfl ?_
        exact kt)
    by_cases hc189_51 : (cmpValue (FP.dcmp (FP.l2d ((p0.toInt64) - (1500 : Int64))) FP.dconst0) .l) < (0 : Int32)
    · have pre52 : ∀ t, Steps p.tables e below (T26.setTop (mkF m 223 #[.val (.int p0), .val (.int p1), .val (.int p2), .val (.int p3), .val (.int p4), .val (.int p5), .val (.ref b1), .val (.ref b8), .val (.ref b15), .val (.double (f4 (FP.i2d p0))), .second, .val (.double (f4 (FP.i2d p0))), .second, .val (.double (f4 (FP.i2d p1))), .second, .val (.int (1 : Int32)), .val (.int (1 : Int32)), .val (.int (1 : Int32)), .val (.double (FP.l2d ((p0.toInt64) - (1500 : Int64)))), .second, .val (.double (FP.dmul (FP.l2d ((p0.toInt64) - (1500 : Int64))) (4666723172467343360 : UInt64))), .second, .val (.double (FP.ddiv (FP.dmul (FP.l2d ((p0.toInt64) - (1500 : Int64))) (4666723172467343360 : UInt64)) (4700211938712354816 : UInt64))), .second, .val (.double (FP.ddiv (FP.dmul (FP.l2d ((p0.toInt64) - (1500 : Int64))) (4666723172467343360 : UInt64)) (4700211930122420224 : UInt64))), .second, .unset, .unset] [(.int (cmpValue (FP.dcmp (FP.ddiv (FP.dmul (FP.l2d ((p0.toInt64) - (1500 : Int64))) (4666723172467343360 : UInt64)) (4700211930122420224 : UInt64)) (f4 (FP.i2d p0))) .g))])) t → Steps p.tables e below (s₁.setTop (entryFrame m #[(.int p0), (.int p1), (.int p2), (.int p3), (.int p4), (.int p5)] maxLocals)) t := fun t kt => pre50 t (by
          show Steps p.tables e below (T26.setTop (mkF m 189 #[.val (.int p0), .val (.int p1), .val (.int p2), .val (.int p3), .val (.int p4), .val (.int p5), .val (.ref b1), .val (.ref b8), .val (.ref b15), .val (.double (f4 (FP.i2d p0))), .second, .val (.double (f4 (FP.i2d p0))), .second, .val (.double (f4 (FP.i2d p1))), .second, .val (.int (1 : Int32)), .val (.int (1 : Int32)), .val (.int (1 : Int32)), .val (.double (FP.l2d ((p0.toInt64) - (1500 : Int64)))), .second, .val (.double (FP.dmul (FP.l2d ((p0.toInt64) - (1500 : Int64))) (4666723172467343360 : UInt64))), .second, .val (.double (FP.ddiv (FP.dmul (FP.l2d ((p0.toInt64) - (1500 : Int64))) (4666723172467343360 : UInt64)) (4700211938712354816 : UInt64))), .second, .val (.double (FP.ddiv (FP.dmul (FP.l2d ((p0.toInt64) - (1500 : Int64))) (4666723172467343360 : UInt64)) (4700211930122420224 : UInt64))), .second, .unset, .unset] [(.int (cmpValue (FP.dcmp (FP.l2d ((p0.toInt64) - (1500 : Int64))) FP.dconst0) .l))])) _
          refine XS.ifYes X26.here hx rfl (pc0 := 189) (pc' := 218) rfl (hb hby at_189) rfl ((if0 _ _).trans (tlt hc189_51).1) (by decide) (by decide) ?_
          show Steps p.tables e below (T26.setTop (mkF m 218 #[.val (.int p0), .val (.int p1), .val (.int p2), .val (.int p3), .val (.int p4), .val (.int p5), .val (.ref b1), .val (.ref b8), .val (.ref b15), .val (.double (f4 (FP.i2d p0))), .second, .val (.double (f4 (FP.i2d p0))), .second, .val (.double (f4 (FP.i2d p1))), .second, .val (.int (1 : Int32)), .val (.int (1 : Int32)), .val (.int (1 : Int32)), .val (.double (FP.l2d ((p0.toInt64) - (1500 : Int64)))), .second, .val (.double (FP.dmul (FP.l2d ((p0.toInt64) - (1500 : Int64))) (4666723172467343360 : UInt64))), .second, .val (.double (FP.ddiv (FP.dmul (FP.l2d ((p0.toInt64) - (1500 : Int64))) (4666723172467343360 : UInt64)) (4700211938712354816 : UInt64))), .second, .val (.double (FP.ddiv (FP.dmul (FP.l2d ((p0.toInt64) - (1500 : Int64))) (4666723172467343360 : UInt64)) (4700211930122420224 : UInt64))), .second, .unset, .unset] [])) _
          refine XS.dload X26.here hx rfl (hb hby at_218) rfl ?_
          show Steps p.tables e below (T26.setTop (mkF m 220 #[.val (.int p0), .val (.int p1), .val (.int p2), .val (.int p3), .val (.int p4), .val (.int p5), .val (.ref b1), .val (.ref b8), .val (.ref b15), .val (.double (f4 (FP.i2d p0))), .second, .val (.double (f4 (FP.i2d p0))), .second, .val (.double (f4 (FP.i2d p1))), .second, .val (.int (1 : Int32)), .val (.int (1 : Int32)), .val (.int (1 : Int32)), .val (.double (FP.l2d ((p0.toInt64) - (1500 : Int64)))), .second, .val (.double (FP.dmul (FP.l2d ((p0.toInt64) - (1500 : Int64))) (4666723172467343360 : UInt64))), .second, .val (.double (FP.ddiv (FP.dmul (FP.l2d ((p0.toInt64) - (1500 : Int64))) (4666723172467343360 : UInt64)) (4700211938712354816 : UInt64))), .second, .val (.double (FP.ddiv (FP.dmul (FP.l2d ((p0.toInt64) - (1500 : Int64))) (4666723172467343360 : UInt64)) (4700211930122420224 : UInt64))), .second, .unset, .unset] [(.double (FP.ddiv (FP.dmul (FP.l2d ((p0.toInt64) - (1500 : Int64))) (4666723172467343360 : UInt64)) (4700211930122420224 : UInt64)))])) _
          refine XS.dload X26.here hx rfl (hb hby at_220) rfl ?_
          show Steps p.tables e below (T26.setTop (mkF m 222 #[.val (.int p0), .val (.int p1), .val (.int p2), .val (.int p3), .val (.int p4), .val (.int p5), .val (.ref b1), .val (.ref b8), .val (.ref b15), .val (.double (f4 (FP.i2d p0))), .second, .val (.double (f4 (FP.i2d p0))), .second, .val (.double (f4 (FP.i2d p1))), .second, .val (.int (1 : Int32)), .val (.int (1 : Int32)), .val (.int (1 : Int32)), .val (.double (FP.l2d ((p0.toInt64) - (1500 : Int64)))), .second, .val (.double (FP.dmul (FP.l2d ((p0.toInt64) - (1500 : Int64))) (4666723172467343360 : UInt64))), .second, .val (.double (FP.ddiv (FP.dmul (FP.l2d ((p0.toInt64) - (1500 : Int64))) (4666723172467343360 : UInt64)) (4700211938712354816 : UInt64))), .second, .val (.double (FP.ddiv (FP.dmul (FP.l2d ((p0.toInt64) - (1500 : Int64))) (4666723172467343360 : UInt64)) (4700211930122420224 : UInt64))), .second, .unset, .unset] [(.double (f4 (FP.i2d p0))), (.double (FP.ddiv (FP.dmul (FP.l2d ((p0.toInt64) - (1500 : Int64))) (4666723172467343360 : UInt64)) (4700211930122420224 : UInt64)))])) _
          refine XS.dcmpS X26.here hx rfl (hb hby at_222) rfl rfl ?_
          exact kt)
      have hd223_53 : ¬ ((0 : Int32) < (cmpValue (FP.dcmp (FP.ddiv (FP.dmul (FP.l2d ((p0.toInt64) - (1500 : Int64))) (4666723172467343360 : UInt64)) (4700211930122420224 : UInt64)) (f4 (FP.i2d p0))) .g)) := own_b3 _ hc189_51
      have pre54 : ∀ t, Steps p.tables e below (T26.setTop (mkF m 231 #[.val (.int p0), .val (.int p1), .val (.int p2), .val (.int p3), .val (.int p4), .val (.int p5), .val (.ref b1), .val (.ref b8), .val (.ref b15), .val (.double (f4 (FP.i2d p0))), .second, .val (.double (f4 (FP.i2d p0))), .second, .val (.double (f4 (FP.i2d p1))), .second, .val (.int (1 : Int32)), .val (.int (1 : Int32)), .val (.int (1 : Int32)), .val (.double (FP.l2d ((p0.toInt64) - (1500 : Int64)))), .second, .val (.double (FP.dmul (FP.l2d ((p0.toInt64) - (1500 : Int64))) (4666723172467343360 : UInt64))), .second, .val (.double (FP.ddiv (FP.dmul (FP.l2d ((p0.toInt64) - (1500 : Int64))) (4666723172467343360 : UInt64)) (4700211938712354816 : UInt64))), .second, .val (.double (FP.ddiv (FP.dmul (FP.l2d ((p0.toInt64) - (1500 : Int64))) (4666723172467343360 : UInt64)) (4700211930122420224 : UInt64))), .second, .unset, .unset] [(.int (cmpValue (FP.dcmp (f4 (FP.i2d p0)) (FP.ddiv (FP.dmul (FP.l2d ((p0.toInt64) - (1500 : Int64))) (4666723172467343360 : UInt64)) (4700211938712354816 : UInt64))) .g))])) t → Steps p.tables e below (s₁.setTop (entryFrame m #[(.int p0), (.int p1), (.int p2), (.int p3), (.int p4), (.int p5)] maxLocals)) t := fun t kt => pre52 t (by
          show Steps p.tables e below (T26.setTop (mkF m 223 #[.val (.int p0), .val (.int p1), .val (.int p2), .val (.int p3), .val (.int p4), .val (.int p5), .val (.ref b1), .val (.ref b8), .val (.ref b15), .val (.double (f4 (FP.i2d p0))), .second, .val (.double (f4 (FP.i2d p0))), .second, .val (.double (f4 (FP.i2d p1))), .second, .val (.int (1 : Int32)), .val (.int (1 : Int32)), .val (.int (1 : Int32)), .val (.double (FP.l2d ((p0.toInt64) - (1500 : Int64)))), .second, .val (.double (FP.dmul (FP.l2d ((p0.toInt64) - (1500 : Int64))) (4666723172467343360 : UInt64))), .second, .val (.double (FP.ddiv (FP.dmul (FP.l2d ((p0.toInt64) - (1500 : Int64))) (4666723172467343360 : UInt64)) (4700211938712354816 : UInt64))), .second, .val (.double (FP.ddiv (FP.dmul (FP.l2d ((p0.toInt64) - (1500 : Int64))) (4666723172467343360 : UInt64)) (4700211930122420224 : UInt64))), .second, .unset, .unset] [(.int (cmpValue (FP.dcmp (FP.ddiv (FP.dmul (FP.l2d ((p0.toInt64) - (1500 : Int64))) (4666723172467343360 : UInt64)) (4700211930122420224 : UInt64)) (f4 (FP.i2d p0))) .g))])) _
          refine XS.ifNo X26.here hx rfl (hb hby at_223) rfl ((if0 _ _).trans (flt hd223_53).2.2.1) ?_
          show Steps p.tables e below (T26.setTop (mkF m 226 #[.val (.int p0), .val (.int p1), .val (.int p2), .val (.int p3), .val (.int p4), .val (.int p5), .val (.ref b1), .val (.ref b8), .val (.ref b15), .val (.double (f4 (FP.i2d p0))), .second, .val (.double (f4 (FP.i2d p0))), .second, .val (.double (f4 (FP.i2d p1))), .second, .val (.int (1 : Int32)), .val (.int (1 : Int32)), .val (.int (1 : Int32)), .val (.double (FP.l2d ((p0.toInt64) - (1500 : Int64)))), .second, .val (.double (FP.dmul (FP.l2d ((p0.toInt64) - (1500 : Int64))) (4666723172467343360 : UInt64))), .second, .val (.double (FP.ddiv (FP.dmul (FP.l2d ((p0.toInt64) - (1500 : Int64))) (4666723172467343360 : UInt64)) (4700211938712354816 : UInt64))), .second, .val (.double (FP.ddiv (FP.dmul (FP.l2d ((p0.toInt64) - (1500 : Int64))) (4666723172467343360 : UInt64)) (4700211930122420224 : UInt64))), .second, .unset, .unset] [])) _
          refine XS.dload X26.here hx rfl (hb hby at_226) rfl ?_
          show Steps p.tables e below (T26.setTop (mkF m 228 #[.val (.int p0), .val (.int p1), .val (.int p2), .val (.int p3), .val (.int p4), .val (.int p5), .val (.ref b1), .val (.ref b8), .val (.ref b15), .val (.double (f4 (FP.i2d p0))), .second, .val (.double (f4 (FP.i2d p0))), .second, .val (.double (f4 (FP.i2d p1))), .second, .val (.int (1 : Int32)), .val (.int (1 : Int32)), .val (.int (1 : Int32)), .val (.double (FP.l2d ((p0.toInt64) - (1500 : Int64)))), .second, .val (.double (FP.dmul (FP.l2d ((p0.toInt64) - (1500 : Int64))) (4666723172467343360 : UInt64))), .second, .val (.double (FP.ddiv (FP.dmul (FP.l2d ((p0.toInt64) - (1500 : Int64))) (4666723172467343360 : UInt64)) (4700211938712354816 : UInt64))), .second, .val (.double (FP.ddiv (FP.dmul (FP.l2d ((p0.toInt64) - (1500 : Int64))) (4666723172467343360 : UInt64)) (4700211930122420224 : UInt64))), .second, .unset, .unset] [(.double (f4 (FP.i2d p0)))])) _
          refine XS.dload X26.here hx rfl (hb hby at_228) rfl ?_
          show Steps p.tables e below (T26.setTop (mkF m 230 #[.val (.int p0), .val (.int p1), .val (.int p2), .val (.int p3), .val (.int p4), .val (.int p5), .val (.ref b1), .val (.ref b8), .val (.ref b15), .val (.double (f4 (FP.i2d p0))), .second, .val (.double (f4 (FP.i2d p0))), .second, .val (.double (f4 (FP.i2d p1))), .second, .val (.int (1 : Int32)), .val (.int (1 : Int32)), .val (.int (1 : Int32)), .val (.double (FP.l2d ((p0.toInt64) - (1500 : Int64)))), .second, .val (.double (FP.dmul (FP.l2d ((p0.toInt64) - (1500 : Int64))) (4666723172467343360 : UInt64))), .second, .val (.double (FP.ddiv (FP.dmul (FP.l2d ((p0.toInt64) - (1500 : Int64))) (4666723172467343360 : UInt64)) (4700211938712354816 : UInt64))), .second, .val (.double (FP.ddiv (FP.dmul (FP.l2d ((p0.toInt64) - (1500 : Int64))) (4666723172467343360 : UInt64)) (4700211930122420224 : UInt64))), .second, .unset, .unset] [(.double (FP.ddiv (FP.dmul (FP.l2d ((p0.toInt64) - (1500 : Int64))) (4666723172467343360 : UInt64)) (4700211938712354816 : UInt64))), (.double (f4 (FP.i2d p0)))])) _
          refine XS.dcmpS X26.here hx rfl (hb hby at_230) rfl rfl ?_
          exact kt)
      have hd231_55 : ¬ ((0 : Int32) < (cmpValue (FP.dcmp (f4 (FP.i2d p0)) (FP.ddiv (FP.dmul (FP.l2d ((p0.toInt64) - (1500 : Int64))) (4666723172467343360 : UInt64)) (4700211938712354816 : UInt64))) .g)) := own_b4 _ hc189_51
      refine pre54 t ?_
      show Steps p.tables e below (T26.setTop (mkF m 231 #[.val (.int p0), .val (.int p1), .val (.int p2), .val (.int p3), .val (.int p4), .val (.int p5), .val (.ref b1), .val (.ref b8), .val (.ref b15), .val (.double (f4 (FP.i2d p0))), .second, .val (.double (f4 (FP.i2d p0))), .second, .val (.double (f4 (FP.i2d p1))), .second, .val (.int (1 : Int32)), .val (.int (1 : Int32)), .val (.int (1 : Int32)), .val (.double (FP.l2d ((p0.toInt64) - (1500 : Int64)))), .second, .val (.double (FP.dmul (FP.l2d ((p0.toInt64) - (1500 : Int64))) (4666723172467343360 : UInt64))), .second, .val (.double (FP.ddiv (FP.dmul (FP.l2d ((p0.toInt64) - (1500 : Int64))) (4666723172467343360 : UInt64)) (4700211938712354816 : UInt64))), .second, .val (.double (FP.ddiv (FP.dmul (FP.l2d ((p0.toInt64) - (1500 : Int64))) (4666723172467343360 : UInt64)) (4700211930122420224 : UInt64))), .second, .unset, .unset] [(.int (cmpValue (FP.dcmp (f4 (FP.i2d p0)) (FP.ddiv (FP.dmul (FP.l2d ((p0.toInt64) - (1500 : Int64))) (4666723172467343360 : UInt64)) (4700211938712354816 : UInt64))) .g))])) _
      refine XS.ifNo X26.here hx rfl (hb hby at_231) rfl ((if0 _ _).trans (flt hd231_55).2.2.1) ?_
      show Steps p.tables e below (T26.setTop (mkF m 234 #[.val (.int p0), .val (.int p1), .val (.int p2), .val (.int p3), .val (.int p4), .val (.int p5), .val (.ref b1), .val (.ref b8), .val (.ref b15), .val (.double (f4 (FP.i2d p0))), .second, .val (.double (f4 (FP.i2d p0))), .second, .val (.double (f4 (FP.i2d p1))), .second, .val (.int (1 : Int32)), .val (.int (1 : Int32)), .val (.int (1 : Int32)), .val (.double (FP.l2d ((p0.toInt64) - (1500 : Int64)))), .second, .val (.double (FP.dmul (FP.l2d ((p0.toInt64) - (1500 : Int64))) (4666723172467343360 : UInt64))), .second, .val (.double (FP.ddiv (FP.dmul (FP.l2d ((p0.toInt64) - (1500 : Int64))) (4666723172467343360 : UInt64)) (4700211938712354816 : UInt64))), .second, .val (.double (FP.ddiv (FP.dmul (FP.l2d ((p0.toInt64) - (1500 : Int64))) (4666723172467343360 : UInt64)) (4700211930122420224 : UInt64))), .second, .unset, .unset] [])) _
      refine XS.iconst X26.here hx rfl (hb hby at_234) ?_
      show Steps p.tables e below (T26.setTop (mkF m 235 #[.val (.int p0), .val (.int p1), .val (.int p2), .val (.int p3), .val (.int p4), .val (.int p5), .val (.ref b1), .val (.ref b8), .val (.ref b15), .val (.double (f4 (FP.i2d p0))), .second, .val (.double (f4 (FP.i2d p0))), .second, .val (.double (f4 (FP.i2d p1))), .second, .val (.int (1 : Int32)), .val (.int (1 : Int32)), .val (.int (1 : Int32)), .val (.double (FP.l2d ((p0.toInt64) - (1500 : Int64)))), .second, .val (.double (FP.dmul (FP.l2d ((p0.toInt64) - (1500 : Int64))) (4666723172467343360 : UInt64))), .second, .val (.double (FP.ddiv (FP.dmul (FP.l2d ((p0.toInt64) - (1500 : Int64))) (4666723172467343360 : UInt64)) (4700211938712354816 : UInt64))), .second, .val (.double (FP.ddiv (FP.dmul (FP.l2d ((p0.toInt64) - (1500 : Int64))) (4666723172467343360 : UInt64)) (4700211930122420224 : UInt64))), .second, .unset, .unset] [(.int (1 : Int32))])) _
      refine XS.goto X26.here hx rfl (pc0 := 235) (pc' := 239) rfl (hb hby at_235) (by decide) (by decide) ?_
      show Steps p.tables e below (T26.setTop (mkF m 239 #[.val (.int p0), .val (.int p1), .val (.int p2), .val (.int p3), .val (.int p4), .val (.int p5), .val (.ref b1), .val (.ref b8), .val (.ref b15), .val (.double (f4 (FP.i2d p0))), .second, .val (.double (f4 (FP.i2d p0))), .second, .val (.double (f4 (FP.i2d p1))), .second, .val (.int (1 : Int32)), .val (.int (1 : Int32)), .val (.int (1 : Int32)), .val (.double (FP.l2d ((p0.toInt64) - (1500 : Int64)))), .second, .val (.double (FP.dmul (FP.l2d ((p0.toInt64) - (1500 : Int64))) (4666723172467343360 : UInt64))), .second, .val (.double (FP.ddiv (FP.dmul (FP.l2d ((p0.toInt64) - (1500 : Int64))) (4666723172467343360 : UInt64)) (4700211938712354816 : UInt64))), .second, .val (.double (FP.ddiv (FP.dmul (FP.l2d ((p0.toInt64) - (1500 : Int64))) (4666723172467343360 : UInt64)) (4700211930122420224 : UInt64))), .second, .unset, .unset] [(.int (1 : Int32))])) _
      refine XS.istore X26.here hx rfl (hb hby at_239) rfl (l' := #[.val (.int p0), .val (.int p1), .val (.int p2), .val (.int p3), .val (.int p4), .val (.int p5), .val (.ref b1), .val (.ref b8), .val (.ref b15), .val (.double (f4 (FP.i2d p0))), .second, .val (.double (f4 (FP.i2d p0))), .second, .val (.double (f4 (FP.i2d p1))), .second, .val (.int (1 : Int32)), .val (.int (1 : Int32)), .val (.int (1 : Int32)), .val (.double (FP.l2d ((p0.toInt64) - (1500 : Int64)))), .second, .val (.double (FP.dmul (FP.l2d ((p0.toInt64) - (1500 : Int64))) (4666723172467343360 : UInt64))), .second, .val (.double (FP.ddiv (FP.dmul (FP.l2d ((p0.toInt64) - (1500 : Int64))) (4666723172467343360 : UInt64)) (4700211938712354816 : UInt64))), .second, .val (.double (FP.ddiv (FP.dmul (FP.l2d ((p0.toInt64) - (1500 : Int64))) (4666723172467343360 : UInt64)) (4700211930122420224 : UInt64))), .second, .val (.int (1 : Int32)), .unset]) rfl ?_
      exact kt
    · have pre56 : ∀ t, Steps p.tables e below (T26.setTop (mkF m 197 #[.val (.int p0), .val (.int p1), .val (.int p2), .val (.int p3), .val (.int p4), .val (.int p5), .val (.ref b1), .val (.ref b8), .val (.ref b15), .val (.double (f4 (FP.i2d p0))), .second, .val (.double (f4 (FP.i2d p0))), .second, .val (.double (f4 (FP.i2d p1))), .second, .val (.int (1 : Int32)), .val (.int (1 : Int32)), .val (.int (1 : Int32)), .val (.double (FP.l2d ((p0.toInt64) - (1500 : Int64)))), .second, .val (.double (FP.dmul (FP.l2d ((p0.toInt64) - (1500 : Int64))) (4666723172467343360 : UInt64))), .second, .val (.double (FP.ddiv (FP.dmul (FP.l2d ((p0.toInt64) - (1500 : Int64))) (4666723172467343360 : UInt64)) (4700211938712354816 : UInt64))), .second, .val (.double (FP.ddiv (FP.dmul (FP.l2d ((p0.toInt64) - (1500 : Int64))) (4666723172467343360 : UInt64)) (4700211930122420224 : UInt64))), .second, .unset, .unset] [(.int (cmpValue (FP.dcmp (FP.ddiv (FP.dmul (FP.l2d ((p0.toInt64) - (1500 : Int64))) (4666723172467343360 : UInt64)) (4700211938712354816 : UInt64)) (f4 (FP.i2d p0))) .g))])) t → Steps p.tables e below (s₁.setTop (entryFrame m #[(.int p0), (.int p1), (.int p2), (.int p3), (.int p4), (.int p5)] maxLocals)) t := fun t kt => pre50 t (by
          show Steps p.tables e below (T26.setTop (mkF m 189 #[.val (.int p0), .val (.int p1), .val (.int p2), .val (.int p3), .val (.int p4), .val (.int p5), .val (.ref b1), .val (.ref b8), .val (.ref b15), .val (.double (f4 (FP.i2d p0))), .second, .val (.double (f4 (FP.i2d p0))), .second, .val (.double (f4 (FP.i2d p1))), .second, .val (.int (1 : Int32)), .val (.int (1 : Int32)), .val (.int (1 : Int32)), .val (.double (FP.l2d ((p0.toInt64) - (1500 : Int64)))), .second, .val (.double (FP.dmul (FP.l2d ((p0.toInt64) - (1500 : Int64))) (4666723172467343360 : UInt64))), .second, .val (.double (FP.ddiv (FP.dmul (FP.l2d ((p0.toInt64) - (1500 : Int64))) (4666723172467343360 : UInt64)) (4700211938712354816 : UInt64))), .second, .val (.double (FP.ddiv (FP.dmul (FP.l2d ((p0.toInt64) - (1500 : Int64))) (4666723172467343360 : UInt64)) (4700211930122420224 : UInt64))), .second, .unset, .unset] [(.int (cmpValue (FP.dcmp (FP.l2d ((p0.toInt64) - (1500 : Int64))) FP.dconst0) .l))])) _
          refine XS.ifNo X26.here hx rfl (hb hby at_189) rfl ((if0 _ _).trans (flt hc189_51).1) ?_
          show Steps p.tables e below (T26.setTop (mkF m 192 #[.val (.int p0), .val (.int p1), .val (.int p2), .val (.int p3), .val (.int p4), .val (.int p5), .val (.ref b1), .val (.ref b8), .val (.ref b15), .val (.double (f4 (FP.i2d p0))), .second, .val (.double (f4 (FP.i2d p0))), .second, .val (.double (f4 (FP.i2d p1))), .second, .val (.int (1 : Int32)), .val (.int (1 : Int32)), .val (.int (1 : Int32)), .val (.double (FP.l2d ((p0.toInt64) - (1500 : Int64)))), .second, .val (.double (FP.dmul (FP.l2d ((p0.toInt64) - (1500 : Int64))) (4666723172467343360 : UInt64))), .second, .val (.double (FP.ddiv (FP.dmul (FP.l2d ((p0.toInt64) - (1500 : Int64))) (4666723172467343360 : UInt64)) (4700211938712354816 : UInt64))), .second, .val (.double (FP.ddiv (FP.dmul (FP.l2d ((p0.toInt64) - (1500 : Int64))) (4666723172467343360 : UInt64)) (4700211930122420224 : UInt64))), .second, .unset, .unset] [])) _
          refine XS.dload X26.here hx rfl (hb hby at_192) rfl ?_
          show Steps p.tables e below (T26.setTop (mkF m 194 #[.val (.int p0), .val (.int p1), .val (.int p2), .val (.int p3), .val (.int p4), .val (.int p5), .val (.ref b1), .val (.ref b8), .val (.ref b15), .val (.double (f4 (FP.i2d p0))), .second, .val (.double (f4 (FP.i2d p0))), .second, .val (.double (f4 (FP.i2d p1))), .second, .val (.int (1 : Int32)), .val (.int (1 : Int32)), .val (.int (1 : Int32)), .val (.double (FP.l2d ((p0.toInt64) - (1500 : Int64)))), .second, .val (.double (FP.dmul (FP.l2d ((p0.toInt64) - (1500 : Int64))) (4666723172467343360 : UInt64))), .second, .val (.double (FP.ddiv (FP.dmul (FP.l2d ((p0.toInt64) - (1500 : Int64))) (4666723172467343360 : UInt64)) (4700211938712354816 : UInt64))), .second, .val (.double (FP.ddiv (FP.dmul (FP.l2d ((p0.toInt64) - (1500 : Int64))) (4666723172467343360 : UInt64)) (4700211930122420224 : UInt64))), .second, .unset, .unset] [(.double (FP.ddiv (FP.dmul (FP.l2d ((p0.toInt64) - (1500 : Int64))) (4666723172467343360 : UInt64)) (4700211938712354816 : UInt64)))])) _
          refine XS.dload X26.here hx rfl (hb hby at_194) rfl ?_
          show Steps p.tables e below (T26.setTop (mkF m 196 #[.val (.int p0), .val (.int p1), .val (.int p2), .val (.int p3), .val (.int p4), .val (.int p5), .val (.ref b1), .val (.ref b8), .val (.ref b15), .val (.double (f4 (FP.i2d p0))), .second, .val (.double (f4 (FP.i2d p0))), .second, .val (.double (f4 (FP.i2d p1))), .second, .val (.int (1 : Int32)), .val (.int (1 : Int32)), .val (.int (1 : Int32)), .val (.double (FP.l2d ((p0.toInt64) - (1500 : Int64)))), .second, .val (.double (FP.dmul (FP.l2d ((p0.toInt64) - (1500 : Int64))) (4666723172467343360 : UInt64))), .second, .val (.double (FP.ddiv (FP.dmul (FP.l2d ((p0.toInt64) - (1500 : Int64))) (4666723172467343360 : UInt64)) (4700211938712354816 : UInt64))), .second, .val (.double (FP.ddiv (FP.dmul (FP.l2d ((p0.toInt64) - (1500 : Int64))) (4666723172467343360 : UInt64)) (4700211930122420224 : UInt64))), .second, .unset, .unset] [(.double (f4 (FP.i2d p0))), (.double (FP.ddiv (FP.dmul (FP.l2d ((p0.toInt64) - (1500 : Int64))) (4666723172467343360 : UInt64)) (4700211938712354816 : UInt64)))])) _
          refine XS.dcmpS X26.here hx rfl (hb hby at_196) rfl rfl ?_
          exact kt)
      have hd197_57 : ¬ ((0 : Int32) < (cmpValue (FP.dcmp (FP.ddiv (FP.dmul (FP.l2d ((p0.toInt64) - (1500 : Int64))) (4666723172467343360 : UInt64)) (4700211938712354816 : UInt64)) (f4 (FP.i2d p0))) .g)) := own_b1 _ hc189_51
      have pre58 : ∀ t, Steps p.tables e below (T26.setTop (mkF m 205 #[.val (.int p0), .val (.int p1), .val (.int p2), .val (.int p3), .val (.int p4), .val (.int p5), .val (.ref b1), .val (.ref b8), .val (.ref b15), .val (.double (f4 (FP.i2d p0))), .second, .val (.double (f4 (FP.i2d p0))), .second, .val (.double (f4 (FP.i2d p1))), .second, .val (.int (1 : Int32)), .val (.int (1 : Int32)), .val (.int (1 : Int32)), .val (.double (FP.l2d ((p0.toInt64) - (1500 : Int64)))), .second, .val (.double (FP.dmul (FP.l2d ((p0.toInt64) - (1500 : Int64))) (4666723172467343360 : UInt64))), .second, .val (.double (FP.ddiv (FP.dmul (FP.l2d ((p0.toInt64) - (1500 : Int64))) (4666723172467343360 : UInt64)) (4700211938712354816 : UInt64))), .second, .val (.double (FP.ddiv (FP.dmul (FP.l2d ((p0.toInt64) - (1500 : Int64))) (4666723172467343360 : UInt64)) (4700211930122420224 : UInt64))), .second, .unset, .unset] [(.int (cmpValue (FP.dcmp (f4 (FP.i2d p0)) (FP.ddiv (FP.dmul (FP.l2d ((p0.toInt64) - (1500 : Int64))) (4666723172467343360 : UInt64)) (4700211930122420224 : UInt64))) .g))])) t → Steps p.tables e below (s₁.setTop (entryFrame m #[(.int p0), (.int p1), (.int p2), (.int p3), (.int p4), (.int p5)] maxLocals)) t := fun t kt => pre56 t (by
          show Steps p.tables e below (T26.setTop (mkF m 197 #[.val (.int p0), .val (.int p1), .val (.int p2), .val (.int p3), .val (.int p4), .val (.int p5), .val (.ref b1), .val (.ref b8), .val (.ref b15), .val (.double (f4 (FP.i2d p0))), .second, .val (.double (f4 (FP.i2d p0))), .second, .val (.double (f4 (FP.i2d p1))), .second, .val (.int (1 : Int32)), .val (.int (1 : Int32)), .val (.int (1 : Int32)), .val (.double (FP.l2d ((p0.toInt64) - (1500 : Int64)))), .second, .val (.double (FP.dmul (FP.l2d ((p0.toInt64) - (1500 : Int64))) (4666723172467343360 : UInt64))), .second, .val (.double (FP.ddiv (FP.dmul (FP.l2d ((p0.toInt64) - (1500 : Int64))) (4666723172467343360 : UInt64)) (4700211938712354816 : UInt64))), .second, .val (.double (FP.ddiv (FP.dmul (FP.l2d ((p0.toInt64) - (1500 : Int64))) (4666723172467343360 : UInt64)) (4700211930122420224 : UInt64))), .second, .unset, .unset] [(.int (cmpValue (FP.dcmp (FP.ddiv (FP.dmul (FP.l2d ((p0.toInt64) - (1500 : Int64))) (4666723172467343360 : UInt64)) (4700211938712354816 : UInt64)) (f4 (FP.i2d p0))) .g))])) _
          refine XS.ifNo X26.here hx rfl (hb hby at_197) rfl ((if0 _ _).trans (flt hd197_57).2.2.1) ?_
          show Steps p.tables e below (T26.setTop (mkF m 200 #[.val (.int p0), .val (.int p1), .val (.int p2), .val (.int p3), .val (.int p4), .val (.int p5), .val (.ref b1), .val (.ref b8), .val (.ref b15), .val (.double (f4 (FP.i2d p0))), .second, .val (.double (f4 (FP.i2d p0))), .second, .val (.double (f4 (FP.i2d p1))), .second, .val (.int (1 : Int32)), .val (.int (1 : Int32)), .val (.int (1 : Int32)), .val (.double (FP.l2d ((p0.toInt64) - (1500 : Int64)))), .second, .val (.double (FP.dmul (FP.l2d ((p0.toInt64) - (1500 : Int64))) (4666723172467343360 : UInt64))), .second, .val (.double (FP.ddiv (FP.dmul (FP.l2d ((p0.toInt64) - (1500 : Int64))) (4666723172467343360 : UInt64)) (4700211938712354816 : UInt64))), .second, .val (.double (FP.ddiv (FP.dmul (FP.l2d ((p0.toInt64) - (1500 : Int64))) (4666723172467343360 : UInt64)) (4700211930122420224 : UInt64))), .second, .unset, .unset] [])) _
          refine XS.dload X26.here hx rfl (hb hby at_200) rfl ?_
          show Steps p.tables e below (T26.setTop (mkF m 202 #[.val (.int p0), .val (.int p1), .val (.int p2), .val (.int p3), .val (.int p4), .val (.int p5), .val (.ref b1), .val (.ref b8), .val (.ref b15), .val (.double (f4 (FP.i2d p0))), .second, .val (.double (f4 (FP.i2d p0))), .second, .val (.double (f4 (FP.i2d p1))), .second, .val (.int (1 : Int32)), .val (.int (1 : Int32)), .val (.int (1 : Int32)), .val (.double (FP.l2d ((p0.toInt64) - (1500 : Int64)))), .second, .val (.double (FP.dmul (FP.l2d ((p0.toInt64) - (1500 : Int64))) (4666723172467343360 : UInt64))), .second, .val (.double (FP.ddiv (FP.dmul (FP.l2d ((p0.toInt64) - (1500 : Int64))) (4666723172467343360 : UInt64)) (4700211938712354816 : UInt64))), .second, .val (.double (FP.ddiv (FP.dmul (FP.l2d ((p0.toInt64) - (1500 : Int64))) (4666723172467343360 : UInt64)) (4700211930122420224 : UInt64))), .second, .unset, .unset] [(.double (f4 (FP.i2d p0)))])) _
          refine XS.dload X26.here hx rfl (hb hby at_202) rfl ?_
          show Steps p.tables e below (T26.setTop (mkF m 204 #[.val (.int p0), .val (.int p1), .val (.int p2), .val (.int p3), .val (.int p4), .val (.int p5), .val (.ref b1), .val (.ref b8), .val (.ref b15), .val (.double (f4 (FP.i2d p0))), .second, .val (.double (f4 (FP.i2d p0))), .second, .val (.double (f4 (FP.i2d p1))), .second, .val (.int (1 : Int32)), .val (.int (1 : Int32)), .val (.int (1 : Int32)), .val (.double (FP.l2d ((p0.toInt64) - (1500 : Int64)))), .second, .val (.double (FP.dmul (FP.l2d ((p0.toInt64) - (1500 : Int64))) (4666723172467343360 : UInt64))), .second, .val (.double (FP.ddiv (FP.dmul (FP.l2d ((p0.toInt64) - (1500 : Int64))) (4666723172467343360 : UInt64)) (4700211938712354816 : UInt64))), .second, .val (.double (FP.ddiv (FP.dmul (FP.l2d ((p0.toInt64) - (1500 : Int64))) (4666723172467343360 : UInt64)) (4700211930122420224 : UInt64))), .second, .unset, .unset] [(.double (FP.ddiv (FP.dmul (FP.l2d ((p0.toInt64) - (1500 : Int64))) (4666723172467343360 : UInt64)) (4700211930122420224 : UInt64))), (.double (f4 (FP.i2d p0)))])) _
          refine XS.dcmpS X26.here hx rfl (hb hby at_204) rfl rfl ?_
          exact kt)
      have hd205_59 : ¬ ((0 : Int32) < (cmpValue (FP.dcmp (f4 (FP.i2d p0)) (FP.ddiv (FP.dmul (FP.l2d ((p0.toInt64) - (1500 : Int64))) (4666723172467343360 : UInt64)) (4700211930122420224 : UInt64))) .g)) := own_b2 _ hc189_51
      refine pre58 t ?_
      show Steps p.tables e below (T26.setTop (mkF m 205 #[.val (.int p0), .val (.int p1), .val (.int p2), .val (.int p3), .val (.int p4), .val (.int p5), .val (.ref b1), .val (.ref b8), .val (.ref b15), .val (.double (f4 (FP.i2d p0))), .second, .val (.double (f4 (FP.i2d p0))), .second, .val (.double (f4 (FP.i2d p1))), .second, .val (.int (1 : Int32)), .val (.int (1 : Int32)), .val (.int (1 : Int32)), .val (.double (FP.l2d ((p0.toInt64) - (1500 : Int64)))), .second, .val (.double (FP.dmul (FP.l2d ((p0.toInt64) - (1500 : Int64))) (4666723172467343360 : UInt64))), .second, .val (.double (FP.ddiv (FP.dmul (FP.l2d ((p0.toInt64) - (1500 : Int64))) (4666723172467343360 : UInt64)) (4700211938712354816 : UInt64))), .second, .val (.double (FP.ddiv (FP.dmul (FP.l2d ((p0.toInt64) - (1500 : Int64))) (4666723172467343360 : UInt64)) (4700211930122420224 : UInt64))), .second, .unset, .unset] [(.int (cmpValue (FP.dcmp (f4 (FP.i2d p0)) (FP.ddiv (FP.dmul (FP.l2d ((p0.toInt64) - (1500 : Int64))) (4666723172467343360 : UInt64)) (4700211930122420224 : UInt64))) .g))])) _
      refine XS.ifNo X26.here hx rfl (hb hby at_205) rfl ((if0 _ _).trans (flt hd205_59).2.2.1) ?_
      show Steps p.tables e below (T26.setTop (mkF m 208 #[.val (.int p0), .val (.int p1), .val (.int p2), .val (.int p3), .val (.int p4), .val (.int p5), .val (.ref b1), .val (.ref b8), .val (.ref b15), .val (.double (f4 (FP.i2d p0))), .second, .val (.double (f4 (FP.i2d p0))), .second, .val (.double (f4 (FP.i2d p1))), .second, .val (.int (1 : Int32)), .val (.int (1 : Int32)), .val (.int (1 : Int32)), .val (.double (FP.l2d ((p0.toInt64) - (1500 : Int64)))), .second, .val (.double (FP.dmul (FP.l2d ((p0.toInt64) - (1500 : Int64))) (4666723172467343360 : UInt64))), .second, .val (.double (FP.ddiv (FP.dmul (FP.l2d ((p0.toInt64) - (1500 : Int64))) (4666723172467343360 : UInt64)) (4700211938712354816 : UInt64))), .second, .val (.double (FP.ddiv (FP.dmul (FP.l2d ((p0.toInt64) - (1500 : Int64))) (4666723172467343360 : UInt64)) (4700211930122420224 : UInt64))), .second, .unset, .unset] [])) _
      refine XS.iconst X26.here hx rfl (hb hby at_208) ?_
      show Steps p.tables e below (T26.setTop (mkF m 209 #[.val (.int p0), .val (.int p1), .val (.int p2), .val (.int p3), .val (.int p4), .val (.int p5), .val (.ref b1), .val (.ref b8), .val (.ref b15), .val (.double (f4 (FP.i2d p0))), .second, .val (.double (f4 (FP.i2d p0))), .second, .val (.double (f4 (FP.i2d p1))), .second, .val (.int (1 : Int32)), .val (.int (1 : Int32)), .val (.int (1 : Int32)), .val (.double (FP.l2d ((p0.toInt64) - (1500 : Int64)))), .second, .val (.double (FP.dmul (FP.l2d ((p0.toInt64) - (1500 : Int64))) (4666723172467343360 : UInt64))), .second, .val (.double (FP.ddiv (FP.dmul (FP.l2d ((p0.toInt64) - (1500 : Int64))) (4666723172467343360 : UInt64)) (4700211938712354816 : UInt64))), .second, .val (.double (FP.ddiv (FP.dmul (FP.l2d ((p0.toInt64) - (1500 : Int64))) (4666723172467343360 : UInt64)) (4700211930122420224 : UInt64))), .second, .unset, .unset] [(.int (1 : Int32))])) _
      refine XS.goto X26.here hx rfl (pc0 := 209) (pc' := 213) rfl (hb hby at_209) (by decide) (by decide) ?_
      show Steps p.tables e below (T26.setTop (mkF m 213 #[.val (.int p0), .val (.int p1), .val (.int p2), .val (.int p3), .val (.int p4), .val (.int p5), .val (.ref b1), .val (.ref b8), .val (.ref b15), .val (.double (f4 (FP.i2d p0))), .second, .val (.double (f4 (FP.i2d p0))), .second, .val (.double (f4 (FP.i2d p1))), .second, .val (.int (1 : Int32)), .val (.int (1 : Int32)), .val (.int (1 : Int32)), .val (.double (FP.l2d ((p0.toInt64) - (1500 : Int64)))), .second, .val (.double (FP.dmul (FP.l2d ((p0.toInt64) - (1500 : Int64))) (4666723172467343360 : UInt64))), .second, .val (.double (FP.ddiv (FP.dmul (FP.l2d ((p0.toInt64) - (1500 : Int64))) (4666723172467343360 : UInt64)) (4700211938712354816 : UInt64))), .second, .val (.double (FP.ddiv (FP.dmul (FP.l2d ((p0.toInt64) - (1500 : Int64))) (4666723172467343360 : UInt64)) (4700211930122420224 : UInt64))), .second, .unset, .unset] [(.int (1 : Int32))])) _
      refine XS.istore X26.here hx rfl (hb hby at_213) rfl (l' := #[.val (.int p0), .val (.int p1), .val (.int p2), .val (.int p3), .val (.int p4), .val (.int p5), .val (.ref b1), .val (.ref b8), .val (.ref b15), .val (.double (f4 (FP.i2d p0))), .second, .val (.double (f4 (FP.i2d p0))), .second, .val (.double (f4 (FP.i2d p1))), .second, .val (.int (1 : Int32)), .val (.int (1 : Int32)), .val (.int (1 : Int32)), .val (.double (FP.l2d ((p0.toInt64) - (1500 : Int64)))), .second, .val (.double (FP.dmul (FP.l2d ((p0.toInt64) - (1500 : Int64))) (4666723172467343360 : UInt64))), .second, .val (.double (FP.ddiv (FP.dmul (FP.l2d ((p0.toInt64) - (1500 : Int64))) (4666723172467343360 : UInt64)) (4700211938712354816 : UInt64))), .second, .val (.double (FP.ddiv (FP.dmul (FP.l2d ((p0.toInt64) - (1500 : Int64))) (4666723172467343360 : UInt64)) (4700211930122420224 : UInt64))), .second, .val (.int (1 : Int32)), .unset]) rfl ?_
      show Steps p.tables e below (T26.setTop (mkF m 215 #[.val (.int p0), .val (.int p1), .val (.int p2), .val (.int p3), .val (.int p4), .val (.int p5), .val (.ref b1), .val (.ref b8), .val (.ref b15), .val (.double (f4 (FP.i2d p0))), .second, .val (.double (f4 (FP.i2d p0))), .second, .val (.double (f4 (FP.i2d p1))), .second, .val (.int (1 : Int32)), .val (.int (1 : Int32)), .val (.int (1 : Int32)), .val (.double (FP.l2d ((p0.toInt64) - (1500 : Int64)))), .second, .val (.double (FP.dmul (FP.l2d ((p0.toInt64) - (1500 : Int64))) (4666723172467343360 : UInt64))), .second, .val (.double (FP.ddiv (FP.dmul (FP.l2d ((p0.toInt64) - (1500 : Int64))) (4666723172467343360 : UInt64)) (4700211938712354816 : UInt64))), .second, .val (.double (FP.ddiv (FP.dmul (FP.l2d ((p0.toInt64) - (1500 : Int64))) (4666723172467343360 : UInt64)) (4700211930122420224 : UInt64))), .second, .val (.int (1 : Int32)), .unset] [])) _
      refine XS.goto X26.here hx rfl (pc0 := 215) (pc' := 241) rfl (hb hby at_215) (by decide) (by decide) ?_
      exact kt
  have preB60 : ∀ t, Steps p.tables e below (T26.setTop (mkF m 274 #[.val (.int p0), .val (.int p1), .val (.int p2), .val (.int p3), .val (.int p4), .val (.int p5), .val (.ref b1), .val (.ref b8), .val (.ref b15), .val (.double (f4 (FP.i2d p0))), .second, .val (.double (f4 (FP.i2d p0))), .second, .val (.double (f4 (FP.i2d p1))), .second, .val (.int (1 : Int32)), .val (.int (1 : Int32)), .val (.int (1 : Int32)), .val (.double (FP.l2d ((p0.toInt64) - (1500 : Int64)))), .second, .val (.double (FP.dmul (FP.l2d ((p0.toInt64) - (1500 : Int64))) (4666723172467343360 : UInt64))), .second, .val (.double (FP.ddiv (FP.dmul (FP.l2d ((p0.toInt64) - (1500 : Int64))) (4666723172467343360 : UInt64)) (4700211938712354816 : UInt64))), .second, .val (.double (FP.ddiv (FP.dmul (FP.l2d ((p0.toInt64) - (1500 : Int64))) (4666723172467343360 : UInt64)) (4700211930122420224 : UInt64))), .second, .val (.int (1 : Int32)), .val (.int (1 : Int32))] [])) t → Steps p.tables e below (s₁.setTop (entryFrame m #[(.int p0), (.int p1), (.int p2), (.int p3), (.int p4), (.int p5)] maxLocals)) t := by
    intro t kt
    have pre61 : ∀ t, Steps p.tables e below (T26.setTop (mkF m 243 #[.val (.int p0), .val (.int p1), .val (.int p2), .val (.int p3), .val (.int p4), .val (.int p5), .val (.ref b1), .val (.ref b8), .val (.ref b15), .val (.double (f4 (FP.i2d p0))), .second, .val (.double (f4 (FP.i2d p0))), .second, .val (.double (f4 (FP.i2d p1))), .second, .val (.int (1 : Int32)), .val (.int (1 : Int32)), .val (.int (1 : Int32)), .val (.double (FP.l2d ((p0.toInt64) - (1500 : Int64)))), .second, .val (.double (FP.dmul (FP.l2d ((p0.toInt64) - (1500 : Int64))) (4666723172467343360 : UInt64))), .second, .val (.double (FP.ddiv (FP.dmul (FP.l2d ((p0.toInt64) - (1500 : Int64))) (4666723172467343360 : UInt64)) (4700211938712354816 : UInt64))), .second, .val (.double (FP.ddiv (FP.dmul (FP.l2d ((p0.toInt64) - (1500 : Int64))) (4666723172467343360 : UInt64)) (4700211930122420224 : UInt64))), .second, .val (.int (1 : Int32)), .unset] [(.int p1), (.int p0)])) t → Steps p.tables e below (s₁.setTop (entryFrame m #[(.int p0), (.int p1), (.int p2), (.int p3), (.int p4), (.int p5)] maxLocals)) t := fun t kt => preB49 t (by
        show Steps p.tables e below (T26.setTop (mkF m 241 #[.val (.int p0), .val (.int p1), .val (.int p2), .val (.int p3), .val (.int p4), .val (.int p5), .val (.ref b1), .val (.ref b8), .val (.ref b15), .val (.double (f4 (FP.i2d p0))), .second, .val (.double (f4 (FP.i2d p0))), .second, .val (.double (f4 (FP.i2d p1))), .second, .val (.int (1 : Int32)), .val (.int (1 : Int32)), .val (.int (1 : Int32)), .val (.double (FP.l2d ((p0.toInt64) - (1500 : Int64)))), .second, .val (.double (FP.dmul (FP.l2d ((p0.toInt64) - (1500 : Int64))) (4666723172467343360 : UInt64))), .second, .val (.double (FP.ddiv (FP.dmul (FP.l2d ((p0.toInt64) - (1500 : Int64))) (4666723172467343360 : UInt64)) (4700211938712354816 : UInt64))), .second, .val (.double (FP.ddiv (FP.dmul (FP.l2d ((p0.toInt64) - (1500 : Int64))) (4666723172467343360 : UInt64)) (4700211930122420224 : UInt64))), .second, .val (.int (1 : Int32)), .unset] [])) _
        refine XS.iloadN X26.here hx rfl (hb hby at_241) rfl ?_
        show Steps p.tables e below (T26.setTop (mkF m 242 #[.val (.int p0), .val (.int p1), .val (.int p2), .val (.int p3), .val (.int p4), .val (.int p5), .val (.ref b1), .val (.ref b8), .val (.ref b15), .val (.double (f4 (FP.i2d p0))), .second, .val (.double (f4 (FP.i2d p0))), .second, .val (.double (f4 (FP.i2d p1))), .second, .val (.int (1 : Int32)), .val (.int (1 : Int32)), .val (.int (1 : Int32)), .val (.double (FP.l2d ((p0.toInt64) - (1500 : Int64)))), .second, .val (.double (FP.dmul (FP.l2d ((p0.toInt64) - (1500 : Int64))) (4666723172467343360 : UInt64))), .second, .val (.double (FP.ddiv (FP.dmul (FP.l2d ((p0.toInt64) - (1500 : Int64))) (4666723172467343360 : UInt64)) (4700211938712354816 : UInt64))), .second, .val (.double (FP.ddiv (FP.dmul (FP.l2d ((p0.toInt64) - (1500 : Int64))) (4666723172467343360 : UInt64)) (4700211930122420224 : UInt64))), .second, .val (.int (1 : Int32)), .unset] [(.int p0)])) _
        refine XS.iloadN X26.here hx rfl (hb hby at_242) rfl ?_
        exact kt)
    by_cases hc243_62 : p0 < p1
    · have pre63 : ∀ t, Steps p.tables e below (T26.setTop (mkF m 256 #[.val (.int p0), .val (.int p1), .val (.int p2), .val (.int p3), .val (.int p4), .val (.int p5), .val (.ref b1), .val (.ref b8), .val (.ref b15), .val (.double (f4 (FP.i2d p0))), .second, .val (.double (f4 (FP.i2d p0))), .second, .val (.double (f4 (FP.i2d p1))), .second, .val (.int (1 : Int32)), .val (.int (1 : Int32)), .val (.int (1 : Int32)), .val (.double (FP.l2d ((p0.toInt64) - (1500 : Int64)))), .second, .val (.double (FP.dmul (FP.l2d ((p0.toInt64) - (1500 : Int64))) (4666723172467343360 : UInt64))), .second, .val (.double (FP.ddiv (FP.dmul (FP.l2d ((p0.toInt64) - (1500 : Int64))) (4666723172467343360 : UInt64)) (4700211938712354816 : UInt64))), .second, .val (.double (FP.ddiv (FP.dmul (FP.l2d ((p0.toInt64) - (1500 : Int64))) (4666723172467343360 : UInt64)) (4700211930122420224 : UInt64))), .second, .val (.int (1 : Int32)), .unset] [(.int (cmpValue (FP.dcmp (f4 (FP.i2d p0)) (f4 (FP.i2d p1))) .g)), (.int (1 : Int32))])) t → Steps p.tables e below (s₁.setTop (entryFrame m #[(.int p0), (.int p1), (.int p2), (.int p3), (.int p4), (.int p5)] maxLocals)) t := fun t kt => pre61 t (by
          show Steps p.tables e below (T26.setTop (mkF m 243 #[.val (.int p0), .val (.int p1), .val (.int p2), .val (.int p3), .val (.int p4), .val (.int p5), .val (.ref b1), .val (.ref b8), .val (.ref b15), .val (.double (f4 (FP.i2d p0))), .second, .val (.double (f4 (FP.i2d p0))), .second, .val (.double (f4 (FP.i2d p1))), .second, .val (.int (1 : Int32)), .val (.int (1 : Int32)), .val (.int (1 : Int32)), .val (.double (FP.l2d ((p0.toInt64) - (1500 : Int64)))), .second, .val (.double (FP.dmul (FP.l2d ((p0.toInt64) - (1500 : Int64))) (4666723172467343360 : UInt64))), .second, .val (.double (FP.ddiv (FP.dmul (FP.l2d ((p0.toInt64) - (1500 : Int64))) (4666723172467343360 : UInt64)) (4700211938712354816 : UInt64))), .second, .val (.double (FP.ddiv (FP.dmul (FP.l2d ((p0.toInt64) - (1500 : Int64))) (4666723172467343360 : UInt64)) (4700211930122420224 : UInt64))), .second, .val (.int (1 : Int32)), .unset] [(.int p1), (.int p0)])) _
          refine XS.icmpNo X26.here hx rfl (hb hby at_243) rfl (tlt hc243_62).2.1 ?_
          show Steps p.tables e below (T26.setTop (mkF m 246 #[.val (.int p0), .val (.int p1), .val (.int p2), .val (.int p3), .val (.int p4), .val (.int p5), .val (.ref b1), .val (.ref b8), .val (.ref b15), .val (.double (f4 (FP.i2d p0))), .second, .val (.double (f4 (FP.i2d p0))), .second, .val (.double (f4 (FP.i2d p1))), .second, .val (.int (1 : Int32)), .val (.int (1 : Int32)), .val (.int (1 : Int32)), .val (.double (FP.l2d ((p0.toInt64) - (1500 : Int64)))), .second, .val (.double (FP.dmul (FP.l2d ((p0.toInt64) - (1500 : Int64))) (4666723172467343360 : UInt64))), .second, .val (.double (FP.ddiv (FP.dmul (FP.l2d ((p0.toInt64) - (1500 : Int64))) (4666723172467343360 : UInt64)) (4700211938712354816 : UInt64))), .second, .val (.double (FP.ddiv (FP.dmul (FP.l2d ((p0.toInt64) - (1500 : Int64))) (4666723172467343360 : UInt64)) (4700211930122420224 : UInt64))), .second, .val (.int (1 : Int32)), .unset] [])) _
          refine XS.iconst X26.here hx rfl (hb hby at_246) ?_
          show Steps p.tables e below (T26.setTop (mkF m 247 #[.val (.int p0), .val (.int p1), .val (.int p2), .val (.int p3), .val (.int p4), .val (.int p5), .val (.ref b1), .val (.ref b8), .val (.ref b15), .val (.double (f4 (FP.i2d p0))), .second, .val (.double (f4 (FP.i2d p0))), .second, .val (.double (f4 (FP.i2d p1))), .second, .val (.int (1 : Int32)), .val (.int (1 : Int32)), .val (.int (1 : Int32)), .val (.double (FP.l2d ((p0.toInt64) - (1500 : Int64)))), .second, .val (.double (FP.dmul (FP.l2d ((p0.toInt64) - (1500 : Int64))) (4666723172467343360 : UInt64))), .second, .val (.double (FP.ddiv (FP.dmul (FP.l2d ((p0.toInt64) - (1500 : Int64))) (4666723172467343360 : UInt64)) (4700211938712354816 : UInt64))), .second, .val (.double (FP.ddiv (FP.dmul (FP.l2d ((p0.toInt64) - (1500 : Int64))) (4666723172467343360 : UInt64)) (4700211930122420224 : UInt64))), .second, .val (.int (1 : Int32)), .unset] [(.int (1 : Int32))])) _
          refine XS.goto X26.here hx rfl (pc0 := 247) (pc' := 251) rfl (hb hby at_247) (by decide) (by decide) ?_
          show Steps p.tables e below (T26.setTop (mkF m 251 #[.val (.int p0), .val (.int p1), .val (.int p2), .val (.int p3), .val (.int p4), .val (.int p5), .val (.ref b1), .val (.ref b8), .val (.ref b15), .val (.double (f4 (FP.i2d p0))), .second, .val (.double (f4 (FP.i2d p0))), .second, .val (.double (f4 (FP.i2d p1))), .second, .val (.int (1 : Int32)), .val (.int (1 : Int32)), .val (.int (1 : Int32)), .val (.double (FP.l2d ((p0.toInt64) - (1500 : Int64)))), .second, .val (.double (FP.dmul (FP.l2d ((p0.toInt64) - (1500 : Int64))) (4666723172467343360 : UInt64))), .second, .val (.double (FP.ddiv (FP.dmul (FP.l2d ((p0.toInt64) - (1500 : Int64))) (4666723172467343360 : UInt64)) (4700211938712354816 : UInt64))), .second, .val (.double (FP.ddiv (FP.dmul (FP.l2d ((p0.toInt64) - (1500 : Int64))) (4666723172467343360 : UInt64)) (4700211930122420224 : UInt64))), .second, .val (.int (1 : Int32)), .unset] [(.int (1 : Int32))])) _
          refine XS.dload X26.here hx rfl (hb hby at_251) rfl ?_
          show Steps p.tables e below (T26.setTop (mkF m 253 #[.val (.int p0), .val (.int p1), .val (.int p2), .val (.int p3), .val (.int p4), .val (.int p5), .val (.ref b1), .val (.ref b8), .val (.ref b15), .val (.double (f4 (FP.i2d p0))), .second, .val (.double (f4 (FP.i2d p0))), .second, .val (.double (f4 (FP.i2d p1))), .second, .val (.int (1 : Int32)), .val (.int (1 : Int32)), .val (.int (1 : Int32)), .val (.double (FP.l2d ((p0.toInt64) - (1500 : Int64)))), .second, .val (.double (FP.dmul (FP.l2d ((p0.toInt64) - (1500 : Int64))) (4666723172467343360 : UInt64))), .second, .val (.double (FP.ddiv (FP.dmul (FP.l2d ((p0.toInt64) - (1500 : Int64))) (4666723172467343360 : UInt64)) (4700211938712354816 : UInt64))), .second, .val (.double (FP.ddiv (FP.dmul (FP.l2d ((p0.toInt64) - (1500 : Int64))) (4666723172467343360 : UInt64)) (4700211930122420224 : UInt64))), .second, .val (.int (1 : Int32)), .unset] [(.double (f4 (FP.i2d p0))), (.int (1 : Int32))])) _
          refine XS.dload X26.here hx rfl (hb hby at_253) rfl ?_
          show Steps p.tables e below (T26.setTop (mkF m 255 #[.val (.int p0), .val (.int p1), .val (.int p2), .val (.int p3), .val (.int p4), .val (.int p5), .val (.ref b1), .val (.ref b8), .val (.ref b15), .val (.double (f4 (FP.i2d p0))), .second, .val (.double (f4 (FP.i2d p0))), .second, .val (.double (f4 (FP.i2d p1))), .second, .val (.int (1 : Int32)), .val (.int (1 : Int32)), .val (.int (1 : Int32)), .val (.double (FP.l2d ((p0.toInt64) - (1500 : Int64)))), .second, .val (.double (FP.dmul (FP.l2d ((p0.toInt64) - (1500 : Int64))) (4666723172467343360 : UInt64))), .second, .val (.double (FP.ddiv (FP.dmul (FP.l2d ((p0.toInt64) - (1500 : Int64))) (4666723172467343360 : UInt64)) (4700211938712354816 : UInt64))), .second, .val (.double (FP.ddiv (FP.dmul (FP.l2d ((p0.toInt64) - (1500 : Int64))) (4666723172467343360 : UInt64)) (4700211930122420224 : UInt64))), .second, .val (.int (1 : Int32)), .unset] [(.double (f4 (FP.i2d p1))), (.double (f4 (FP.i2d p0))), (.int (1 : Int32))])) _
          refine XS.dcmpS X26.here hx rfl (hb hby at_255) rfl rfl ?_
          exact kt)
      have hd256_64 : (cmpValue (FP.dcmp (f4 (FP.i2d p0)) (f4 (FP.i2d p1))) .g) < (0 : Int32) := own_m1 hc243_62
      have pre65 : ∀ t, Steps p.tables e below (T26.setTop (mkF m 264 #[.val (.int p0), .val (.int p1), .val (.int p2), .val (.int p3), .val (.int p4), .val (.int p5), .val (.ref b1), .val (.ref b8), .val (.ref b15), .val (.double (f4 (FP.i2d p0))), .second, .val (.double (f4 (FP.i2d p0))), .second, .val (.double (f4 (FP.i2d p1))), .second, .val (.int (1 : Int32)), .val (.int (1 : Int32)), .val (.int (1 : Int32)), .val (.double (FP.l2d ((p0.toInt64) - (1500 : Int64)))), .second, .val (.double (FP.dmul (FP.l2d ((p0.toInt64) - (1500 : Int64))) (4666723172467343360 : UInt64))), .second, .val (.double (FP.ddiv (FP.dmul (FP.l2d ((p0.toInt64) - (1500 : Int64))) (4666723172467343360 : UInt64)) (4700211938712354816 : UInt64))), .second, .val (.double (FP.ddiv (FP.dmul (FP.l2d ((p0.toInt64) - (1500 : Int64))) (4666723172467343360 : UInt64)) (4700211930122420224 : UInt64))), .second, .val (.int (1 : Int32)), .unset] [(.int (1 : Int32)), (.int (1 : Int32))])) t → Steps p.tables e below (s₁.setTop (entryFrame m #[(.int p0), (.int p1), (.int p2), (.int p3), (.int p4), (.int p5)] maxLocals)) t := fun t kt => pre63 t (by
          show Steps p.tables e below (T26.setTop (mkF m 256 #[.val (.int p0), .val (.int p1), .val (.int p2), .val (.int p3), .val (.int p4), .val (.int p5), .val (.ref b1), .val (.ref b8), .val (.ref b15), .val (.double (f4 (FP.i2d p0))), .second, .val (.double (f4 (FP.i2d p0))), .second, .val (.double (f4 (FP.i2d p1))), .second, .val (.int (1 : Int32)), .val (.int (1 : Int32)), .val (.int (1 : Int32)), .val (.double (FP.l2d ((p0.toInt64) - (1500 : Int64)))), .second, .val (.double (FP.dmul (FP.l2d ((p0.toInt64) - (1500 : Int64))) (4666723172467343360 : UInt64))), .second, .val (.double (FP.ddiv (FP.dmul (FP.l2d ((p0.toInt64) - (1500 : Int64))) (4666723172467343360 : UInt64)) (4700211938712354816 : UInt64))), .second, .val (.double (FP.ddiv (FP.dmul (FP.l2d ((p0.toInt64) - (1500 : Int64))) (4666723172467343360 : UInt64)) (4700211930122420224 : UInt64))), .second, .val (.int (1 : Int32)), .unset] [(.int (cmpValue (FP.dcmp (f4 (FP.i2d p0)) (f4 (FP.i2d p1))) .g)), (.int (1 : Int32))])) _
          refine XS.ifNo X26.here hx rfl (hb hby at_256) rfl ((if0 _ _).trans (tlt hd256_64).2.1) ?_
          show Steps p.tables e below (T26.setTop (mkF m 259 #[.val (.int p0), .val (.int p1), .val (.int p2), .val (.int p3), .val (.int p4), .val (.int p5), .val (.ref b1), .val (.ref b8), .val (.ref b15), .val (.double (f4 (FP.i2d p0))), .second, .val (.double (f4 (FP.i2d p0))), .second, .val (.double (f4 (FP.i2d p1))), .second, .val (.int (1 : Int32)), .val (.int (1 : Int32)), .val (.int (1 : Int32)), .val (.double (FP.l2d ((p0.toInt64) - (1500 : Int64)))), .second, .val (.double (FP.dmul (FP.l2d ((p0.toInt64) - (1500 : Int64))) (4666723172467343360 : UInt64))), .second, .val (.double (FP.ddiv (FP.dmul (FP.l2d ((p0.toInt64) - (1500 : Int64))) (4666723172467343360 : UInt64)) (4700211938712354816 : UInt64))), .second, .val (.double (FP.ddiv (FP.dmul (FP.l2d ((p0.toInt64) - (1500 : Int64))) (4666723172467343360 : UInt64)) (4700211930122420224 : UInt64))), .second, .val (.int (1 : Int32)), .unset] [(.int (1 : Int32))])) _
          refine XS.iconst X26.here hx rfl (hb hby at_259) ?_
          show Steps p.tables e below (T26.setTop (mkF m 260 #[.val (.int p0), .val (.int p1), .val (.int p2), .val (.int p3), .val (.int p4), .val (.int p5), .val (.ref b1), .val (.ref b8), .val (.ref b15), .val (.double (f4 (FP.i2d p0))), .second, .val (.double (f4 (FP.i2d p0))), .second, .val (.double (f4 (FP.i2d p1))), .second, .val (.int (1 : Int32)), .val (.int (1 : Int32)), .val (.int (1 : Int32)), .val (.double (FP.l2d ((p0.toInt64) - (1500 : Int64)))), .second, .val (.double (FP.dmul (FP.l2d ((p0.toInt64) - (1500 : Int64))) (4666723172467343360 : UInt64))), .second, .val (.double (FP.ddiv (FP.dmul (FP.l2d ((p0.toInt64) - (1500 : Int64))) (4666723172467343360 : UInt64)) (4700211938712354816 : UInt64))), .second, .val (.double (FP.ddiv (FP.dmul (FP.l2d ((p0.toInt64) - (1500 : Int64))) (4666723172467343360 : UInt64)) (4700211930122420224 : UInt64))), .second, .val (.int (1 : Int32)), .unset] [(.int (1 : Int32)), (.int (1 : Int32))])) _
          refine XS.goto X26.here hx rfl (pc0 := 260) (pc' := 264) rfl (hb hby at_260) (by decide) (by decide) ?_
          exact kt)
      refine pre65 t ?_
      show Steps p.tables e below (T26.setTop (mkF m 264 #[.val (.int p0), .val (.int p1), .val (.int p2), .val (.int p3), .val (.int p4), .val (.int p5), .val (.ref b1), .val (.ref b8), .val (.ref b15), .val (.double (f4 (FP.i2d p0))), .second, .val (.double (f4 (FP.i2d p0))), .second, .val (.double (f4 (FP.i2d p1))), .second, .val (.int (1 : Int32)), .val (.int (1 : Int32)), .val (.int (1 : Int32)), .val (.double (FP.l2d ((p0.toInt64) - (1500 : Int64)))), .second, .val (.double (FP.dmul (FP.l2d ((p0.toInt64) - (1500 : Int64))) (4666723172467343360 : UInt64))), .second, .val (.double (FP.ddiv (FP.dmul (FP.l2d ((p0.toInt64) - (1500 : Int64))) (4666723172467343360 : UInt64)) (4700211938712354816 : UInt64))), .second, .val (.double (FP.ddiv (FP.dmul (FP.l2d ((p0.toInt64) - (1500 : Int64))) (4666723172467343360 : UInt64)) (4700211930122420224 : UInt64))), .second, .val (.int (1 : Int32)), .unset] [(.int (1 : Int32)), (.int (1 : Int32))])) _
      refine XS.icmpNo X26.here hx rfl (hb hby at_264) rfl (teq (by decide : ((1 : Int32) = (1 : Int32)))).2 ?_
      show Steps p.tables e below (T26.setTop (mkF m 267 #[.val (.int p0), .val (.int p1), .val (.int p2), .val (.int p3), .val (.int p4), .val (.int p5), .val (.ref b1), .val (.ref b8), .val (.ref b15), .val (.double (f4 (FP.i2d p0))), .second, .val (.double (f4 (FP.i2d p0))), .second, .val (.double (f4 (FP.i2d p1))), .second, .val (.int (1 : Int32)), .val (.int (1 : Int32)), .val (.int (1 : Int32)), .val (.double (FP.l2d ((p0.toInt64) - (1500 : Int64)))), .second, .val (.double (FP.dmul (FP.l2d ((p0.toInt64) - (1500 : Int64))) (4666723172467343360 : UInt64))), .second, .val (.double (FP.ddiv (FP.dmul (FP.l2d ((p0.toInt64) - (1500 : Int64))) (4666723172467343360 : UInt64)) (4700211938712354816 : UInt64))), .second, .val (.double (FP.ddiv (FP.dmul (FP.l2d ((p0.toInt64) - (1500 : Int64))) (4666723172467343360 : UInt64)) (4700211930122420224 : UInt64))), .second, .val (.int (1 : Int32)), .unset] [])) _
      refine XS.iconst X26.here hx rfl (hb hby at_267) ?_
      show Steps p.tables e below (T26.setTop (mkF m 268 #[.val (.int p0), .val (.int p1), .val (.int p2), .val (.int p3), .val (.int p4), .val (.int p5), .val (.ref b1), .val (.ref b8), .val (.ref b15), .val (.double (f4 (FP.i2d p0))), .second, .val (.double (f4 (FP.i2d p0))), .second, .val (.double (f4 (FP.i2d p1))), .second, .val (.int (1 : Int32)), .val (.int (1 : Int32)), .val (.int (1 : Int32)), .val (.double (FP.l2d ((p0.toInt64) - (1500 : Int64)))), .second, .val (.double (FP.dmul (FP.l2d ((p0.toInt64) - (1500 : Int64))) (4666723172467343360 : UInt64))), .second, .val (.double (FP.ddiv (FP.dmul (FP.l2d ((p0.toInt64) - (1500 : Int64))) (4666723172467343360 : UInt64)) (4700211938712354816 : UInt64))), .second, .val (.double (FP.ddiv (FP.dmul (FP.l2d ((p0.toInt64) - (1500 : Int64))) (4666723172467343360 : UInt64)) (4700211930122420224 : UInt64))), .second, .val (.int (1 : Int32)), .unset] [(.int (1 : Int32))])) _
      refine XS.goto X26.here hx rfl (pc0 := 268) (pc' := 272) rfl (hb hby at_268) (by decide) (by decide) ?_
      show Steps p.tables e below (T26.setTop (mkF m 272 #[.val (.int p0), .val (.int p1), .val (.int p2), .val (.int p3), .val (.int p4), .val (.int p5), .val (.ref b1), .val (.ref b8), .val (.ref b15), .val (.double (f4 (FP.i2d p0))), .second, .val (.double (f4 (FP.i2d p0))), .second, .val (.double (f4 (FP.i2d p1))), .second, .val (.int (1 : Int32)), .val (.int (1 : Int32)), .val (.int (1 : Int32)), .val (.double (FP.l2d ((p0.toInt64) - (1500 : Int64)))), .second, .val (.double (FP.dmul (FP.l2d ((p0.toInt64) - (1500 : Int64))) (4666723172467343360 : UInt64))), .second, .val (.double (FP.ddiv (FP.dmul (FP.l2d ((p0.toInt64) - (1500 : Int64))) (4666723172467343360 : UInt64)) (4700211938712354816 : UInt64))), .second, .val (.double (FP.ddiv (FP.dmul (FP.l2d ((p0.toInt64) - (1500 : Int64))) (4666723172467343360 : UInt64)) (4700211930122420224 : UInt64))), .second, .val (.int (1 : Int32)), .unset] [(.int (1 : Int32))])) _
      refine XS.istore X26.here hx rfl (hb hby at_272) rfl (l' := #[.val (.int p0), .val (.int p1), .val (.int p2), .val (.int p3), .val (.int p4), .val (.int p5), .val (.ref b1), .val (.ref b8), .val (.ref b15), .val (.double (f4 (FP.i2d p0))), .second, .val (.double (f4 (FP.i2d p0))), .second, .val (.double (f4 (FP.i2d p1))), .second, .val (.int (1 : Int32)), .val (.int (1 : Int32)), .val (.int (1 : Int32)), .val (.double (FP.l2d ((p0.toInt64) - (1500 : Int64)))), .second, .val (.double (FP.dmul (FP.l2d ((p0.toInt64) - (1500 : Int64))) (4666723172467343360 : UInt64))), .second, .val (.double (FP.ddiv (FP.dmul (FP.l2d ((p0.toInt64) - (1500 : Int64))) (4666723172467343360 : UInt64)) (4700211938712354816 : UInt64))), .second, .val (.double (FP.ddiv (FP.dmul (FP.l2d ((p0.toInt64) - (1500 : Int64))) (4666723172467343360 : UInt64)) (4700211930122420224 : UInt64))), .second, .val (.int (1 : Int32)), .val (.int (1 : Int32))]) rfl ?_
      exact kt
    · have pre66 : ∀ t, Steps p.tables e below (T26.setTop (mkF m 256 #[.val (.int p0), .val (.int p1), .val (.int p2), .val (.int p3), .val (.int p4), .val (.int p5), .val (.ref b1), .val (.ref b8), .val (.ref b15), .val (.double (f4 (FP.i2d p0))), .second, .val (.double (f4 (FP.i2d p0))), .second, .val (.double (f4 (FP.i2d p1))), .second, .val (.int (1 : Int32)), .val (.int (1 : Int32)), .val (.int (1 : Int32)), .val (.double (FP.l2d ((p0.toInt64) - (1500 : Int64)))), .second, .val (.double (FP.dmul (FP.l2d ((p0.toInt64) - (1500 : Int64))) (4666723172467343360 : UInt64))), .second, .val (.double (FP.ddiv (FP.dmul (FP.l2d ((p0.toInt64) - (1500 : Int64))) (4666723172467343360 : UInt64)) (4700211938712354816 : UInt64))), .second, .val (.double (FP.ddiv (FP.dmul (FP.l2d ((p0.toInt64) - (1500 : Int64))) (4666723172467343360 : UInt64)) (4700211930122420224 : UInt64))), .second, .val (.int (1 : Int32)), .unset] [(.int (cmpValue (FP.dcmp (f4 (FP.i2d p0)) (f4 (FP.i2d p1))) .g)), (.int (0 : Int32))])) t → Steps p.tables e below (s₁.setTop (entryFrame m #[(.int p0), (.int p1), (.int p2), (.int p3), (.int p4), (.int p5)] maxLocals)) t := fun t kt => pre61 t (by
          show Steps p.tables e below (T26.setTop (mkF m 243 #[.val (.int p0), .val (.int p1), .val (.int p2), .val (.int p3), .val (.int p4), .val (.int p5), .val (.ref b1), .val (.ref b8), .val (.ref b15), .val (.double (f4 (FP.i2d p0))), .second, .val (.double (f4 (FP.i2d p0))), .second, .val (.double (f4 (FP.i2d p1))), .second, .val (.int (1 : Int32)), .val (.int (1 : Int32)), .val (.int (1 : Int32)), .val (.double (FP.l2d ((p0.toInt64) - (1500 : Int64)))), .second, .val (.double (FP.dmul (FP.l2d ((p0.toInt64) - (1500 : Int64))) (4666723172467343360 : UInt64))), .second, .val (.double (FP.ddiv (FP.dmul (FP.l2d ((p0.toInt64) - (1500 : Int64))) (4666723172467343360 : UInt64)) (4700211938712354816 : UInt64))), .second, .val (.double (FP.ddiv (FP.dmul (FP.l2d ((p0.toInt64) - (1500 : Int64))) (4666723172467343360 : UInt64)) (4700211930122420224 : UInt64))), .second, .val (.int (1 : Int32)), .unset] [(.int p1), (.int p0)])) _
          refine XS.icmpYes X26.here hx rfl (pc0 := 243) (pc' := 250) rfl (hb hby at_243) rfl (flt hc243_62).2.1 (by decide) (by decide) ?_
          show Steps p.tables e below (T26.setTop (mkF m 250 #[.val (.int p0), .val (.int p1), .val (.int p2), .val (.int p3), .val (.int p4), .val (.int p5), .val (.ref b1), .val (.ref b8), .val (.ref b15), .val (.double (f4 (FP.i2d p0))), .second, .val (.double (f4 (FP.i2d p0))), .second, .val (.double (f4 (FP.i2d p1))), .second, .val (.int (1 : Int32)), .val (.int (1 : Int32)), .val (.int (1 : Int32)), .val (.double (FP.l2d ((p0.toInt64) - (1500 : Int64)))), .second, .val (.double (FP.dmul (FP.l2d ((p0.toInt64) - (1500 : Int64))) (4666723172467343360 : UInt64))), .second, .val (.double (FP.ddiv (FP.dmul (FP.l2d ((p0.toInt64) - (1500 : Int64))) (4666723172467343360 : UInt64)) (4700211938712354816 : UInt64))), .second, .val (.double (FP.ddiv (FP.dmul (FP.l2d ((p0.toInt64) - (1500 : Int64))) (4666723172467343360 : UInt64)) (4700211930122420224 : UInt64))), .second, .val (.int (1 : Int32)), .unset] [])) _
          refine XS.iconst X26.here hx rfl (hb hby at_250) ?_
          show Steps p.tables e below (T26.setTop (mkF m 251 #[.val (.int p0), .val (.int p1), .val (.int p2), .val (.int p3), .val (.int p4), .val (.int p5), .val (.ref b1), .val (.ref b8), .val (.ref b15), .val (.double (f4 (FP.i2d p0))), .second, .val (.double (f4 (FP.i2d p0))), .second, .val (.double (f4 (FP.i2d p1))), .second, .val (.int (1 : Int32)), .val (.int (1 : Int32)), .val (.int (1 : Int32)), .val (.double (FP.l2d ((p0.toInt64) - (1500 : Int64)))), .second, .val (.double (FP.dmul (FP.l2d ((p0.toInt64) - (1500 : Int64))) (4666723172467343360 : UInt64))), .second, .val (.double (FP.ddiv (FP.dmul (FP.l2d ((p0.toInt64) - (1500 : Int64))) (4666723172467343360 : UInt64)) (4700211938712354816 : UInt64))), .second, .val (.double (FP.ddiv (FP.dmul (FP.l2d ((p0.toInt64) - (1500 : Int64))) (4666723172467343360 : UInt64)) (4700211930122420224 : UInt64))), .second, .val (.int (1 : Int32)), .unset] [(.int (0 : Int32))])) _
          refine XS.dload X26.here hx rfl (hb hby at_251) rfl ?_
          show Steps p.tables e below (T26.setTop (mkF m 253 #[.val (.int p0), .val (.int p1), .val (.int p2), .val (.int p3), .val (.int p4), .val (.int p5), .val (.ref b1), .val (.ref b8), .val (.ref b15), .val (.double (f4 (FP.i2d p0))), .second, .val (.double (f4 (FP.i2d p0))), .second, .val (.double (f4 (FP.i2d p1))), .second, .val (.int (1 : Int32)), .val (.int (1 : Int32)), .val (.int (1 : Int32)), .val (.double (FP.l2d ((p0.toInt64) - (1500 : Int64)))), .second, .val (.double (FP.dmul (FP.l2d ((p0.toInt64) - (1500 : Int64))) (4666723172467343360 : UInt64))), .second, .val (.double (FP.ddiv (FP.dmul (FP.l2d ((p0.toInt64) - (1500 : Int64))) (4666723172467343360 : UInt64)) (4700211938712354816 : UInt64))), .second, .val (.double (FP.ddiv (FP.dmul (FP.l2d ((p0.toInt64) - (1500 : Int64))) (4666723172467343360 : UInt64)) (4700211930122420224 : UInt64))), .second, .val (.int (1 : Int32)), .unset] [(.double (f4 (FP.i2d p0))), (.int (0 : Int32))])) _
          refine XS.dload X26.here hx rfl (hb hby at_253) rfl ?_
          show Steps p.tables e below (T26.setTop (mkF m 255 #[.val (.int p0), .val (.int p1), .val (.int p2), .val (.int p3), .val (.int p4), .val (.int p5), .val (.ref b1), .val (.ref b8), .val (.ref b15), .val (.double (f4 (FP.i2d p0))), .second, .val (.double (f4 (FP.i2d p0))), .second, .val (.double (f4 (FP.i2d p1))), .second, .val (.int (1 : Int32)), .val (.int (1 : Int32)), .val (.int (1 : Int32)), .val (.double (FP.l2d ((p0.toInt64) - (1500 : Int64)))), .second, .val (.double (FP.dmul (FP.l2d ((p0.toInt64) - (1500 : Int64))) (4666723172467343360 : UInt64))), .second, .val (.double (FP.ddiv (FP.dmul (FP.l2d ((p0.toInt64) - (1500 : Int64))) (4666723172467343360 : UInt64)) (4700211938712354816 : UInt64))), .second, .val (.double (FP.ddiv (FP.dmul (FP.l2d ((p0.toInt64) - (1500 : Int64))) (4666723172467343360 : UInt64)) (4700211930122420224 : UInt64))), .second, .val (.int (1 : Int32)), .unset] [(.double (f4 (FP.i2d p1))), (.double (f4 (FP.i2d p0))), (.int (0 : Int32))])) _
          refine XS.dcmpS X26.here hx rfl (hb hby at_255) rfl rfl ?_
          exact kt)
      have hd256_67 : ¬ ((cmpValue (FP.dcmp (f4 (FP.i2d p0)) (f4 (FP.i2d p1))) .g) < (0 : Int32)) := own_m2 hc243_62
      have pre68 : ∀ t, Steps p.tables e below (T26.setTop (mkF m 264 #[.val (.int p0), .val (.int p1), .val (.int p2), .val (.int p3), .val (.int p4), .val (.int p5), .val (.ref b1), .val (.ref b8), .val (.ref b15), .val (.double (f4 (FP.i2d p0))), .second, .val (.double (f4 (FP.i2d p0))), .second, .val (.double (f4 (FP.i2d p1))), .second, .val (.int (1 : Int32)), .val (.int (1 : Int32)), .val (.int (1 : Int32)), .val (.double (FP.l2d ((p0.toInt64) - (1500 : Int64)))), .second, .val (.double (FP.dmul (FP.l2d ((p0.toInt64) - (1500 : Int64))) (4666723172467343360 : UInt64))), .second, .val (.double (FP.ddiv (FP.dmul (FP.l2d ((p0.toInt64) - (1500 : Int64))) (4666723172467343360 : UInt64)) (4700211938712354816 : UInt64))), .second, .val (.double (FP.ddiv (FP.dmul (FP.l2d ((p0.toInt64) - (1500 : Int64))) (4666723172467343360 : UInt64)) (4700211930122420224 : UInt64))), .second, .val (.int (1 : Int32)), .unset] [(.int (0 : Int32)), (.int (0 : Int32))])) t → Steps p.tables e below (s₁.setTop (entryFrame m #[(.int p0), (.int p1), (.int p2), (.int p3), (.int p4), (.int p5)] maxLocals)) t := fun t kt => pre66 t (by
          show Steps p.tables e below (T26.setTop (mkF m 256 #[.val (.int p0), .val (.int p1), .val (.int p2), .val (.int p3), .val (.int p4), .val (.int p5), .val (.ref b1), .val (.ref b8), .val (.ref b15), .val (.double (f4 (FP.i2d p0))), .second, .val (.double (f4 (FP.i2d p0))), .second, .val (.double (f4 (FP.i2d p1))), .second, .val (.int (1 : Int32)), .val (.int (1 : Int32)), .val (.int (1 : Int32)), .val (.double (FP.l2d ((p0.toInt64) - (1500 : Int64)))), .second, .val (.double (FP.dmul (FP.l2d ((p0.toInt64) - (1500 : Int64))) (4666723172467343360 : UInt64))), .second, .val (.double (FP.ddiv (FP.dmul (FP.l2d ((p0.toInt64) - (1500 : Int64))) (4666723172467343360 : UInt64)) (4700211938712354816 : UInt64))), .second, .val (.double (FP.ddiv (FP.dmul (FP.l2d ((p0.toInt64) - (1500 : Int64))) (4666723172467343360 : UInt64)) (4700211930122420224 : UInt64))), .second, .val (.int (1 : Int32)), .unset] [(.int (cmpValue (FP.dcmp (f4 (FP.i2d p0)) (f4 (FP.i2d p1))) .g)), (.int (0 : Int32))])) _
          refine XS.ifYes X26.here hx rfl (pc0 := 256) (pc' := 263) rfl (hb hby at_256) rfl ((if0 _ _).trans (flt hd256_67).2.1) (by decide) (by decide) ?_
          show Steps p.tables e below (T26.setTop (mkF m 263 #[.val (.int p0), .val (.int p1), .val (.int p2), .val (.int p3), .val (.int p4), .val (.int p5), .val (.ref b1), .val (.ref b8), .val (.ref b15), .val (.double (f4 (FP.i2d p0))), .second, .val (.double (f4 (FP.i2d p0))), .second, .val (.double (f4 (FP.i2d p1))), .second, .val (.int (1 : Int32)), .val (.int (1 : Int32)), .val (.int (1 : Int32)), .val (.double (FP.l2d ((p0.toInt64) - (1500 : Int64)))), .second, .val (.double (FP.dmul (FP.l2d ((p0.toInt64) - (1500 : Int64))) (4666723172467343360 : UInt64))), .second, .val (.double (FP.ddiv (FP.dmul (FP.l2d ((p0.toInt64) - (1500 : Int64))) (4666723172467343360 : UInt64)) (4700211938712354816 : UInt64))), .second, .val (.double (FP.ddiv (FP.dmul (FP.l2d ((p0.toInt64) - (1500 : Int64))) (4666723172467343360 : UInt64)) (4700211930122420224 : UInt64))), .second, .val (.int (1 : Int32)), .unset] [(.int (0 : Int32))])) _
          refine XS.iconst X26.here hx rfl (hb hby at_263) ?_
          exact kt)
      refine pre68 t ?_
      show Steps p.tables e below (T26.setTop (mkF m 264 #[.val (.int p0), .val (.int p1), .val (.int p2), .val (.int p3), .val (.int p4), .val (.int p5), .val (.ref b1), .val (.ref b8), .val (.ref b15), .val (.double (f4 (FP.i2d p0))), .second, .val (.double (f4 (FP.i2d p0))), .second, .val (.double (f4 (FP.i2d p1))), .second, .val (.int (1 : Int32)), .val (.int (1 : Int32)), .val (.int (1 : Int32)), .val (.double (FP.l2d ((p0.toInt64) - (1500 : Int64)))), .second, .val (.double (FP.dmul (FP.l2d ((p0.toInt64) - (1500 : Int64))) (4666723172467343360 : UInt64))), .second, .val (.double (FP.ddiv (FP.dmul (FP.l2d ((p0.toInt64) - (1500 : Int64))) (4666723172467343360 : UInt64)) (4700211938712354816 : UInt64))), .second, .val (.double (FP.ddiv (FP.dmul (FP.l2d ((p0.toInt64) - (1500 : Int64))) (4666723172467343360 : UInt64)) (4700211930122420224 : UInt64))), .second, .val (.int (1 : Int32)), .unset] [(.int (0 : Int32)), (.int (0 : Int32))])) _
      refine XS.icmpNo X26.here hx rfl (hb hby at_264) rfl (teq (by decide : ((0 : Int32) = (0 : Int32)))).2 ?_
      show Steps p.tables e below (T26.setTop (mkF m 267 #[.val (.int p0), .val (.int p1), .val (.int p2), .val (.int p3), .val (.int p4), .val (.int p5), .val (.ref b1), .val (.ref b8), .val (.ref b15), .val (.double (f4 (FP.i2d p0))), .second, .val (.double (f4 (FP.i2d p0))), .second, .val (.double (f4 (FP.i2d p1))), .second, .val (.int (1 : Int32)), .val (.int (1 : Int32)), .val (.int (1 : Int32)), .val (.double (FP.l2d ((p0.toInt64) - (1500 : Int64)))), .second, .val (.double (FP.dmul (FP.l2d ((p0.toInt64) - (1500 : Int64))) (4666723172467343360 : UInt64))), .second, .val (.double (FP.ddiv (FP.dmul (FP.l2d ((p0.toInt64) - (1500 : Int64))) (4666723172467343360 : UInt64)) (4700211938712354816 : UInt64))), .second, .val (.double (FP.ddiv (FP.dmul (FP.l2d ((p0.toInt64) - (1500 : Int64))) (4666723172467343360 : UInt64)) (4700211930122420224 : UInt64))), .second, .val (.int (1 : Int32)), .unset] [])) _
      refine XS.iconst X26.here hx rfl (hb hby at_267) ?_
      show Steps p.tables e below (T26.setTop (mkF m 268 #[.val (.int p0), .val (.int p1), .val (.int p2), .val (.int p3), .val (.int p4), .val (.int p5), .val (.ref b1), .val (.ref b8), .val (.ref b15), .val (.double (f4 (FP.i2d p0))), .second, .val (.double (f4 (FP.i2d p0))), .second, .val (.double (f4 (FP.i2d p1))), .second, .val (.int (1 : Int32)), .val (.int (1 : Int32)), .val (.int (1 : Int32)), .val (.double (FP.l2d ((p0.toInt64) - (1500 : Int64)))), .second, .val (.double (FP.dmul (FP.l2d ((p0.toInt64) - (1500 : Int64))) (4666723172467343360 : UInt64))), .second, .val (.double (FP.ddiv (FP.dmul (FP.l2d ((p0.toInt64) - (1500 : Int64))) (4666723172467343360 : UInt64)) (4700211938712354816 : UInt64))), .second, .val (.double (FP.ddiv (FP.dmul (FP.l2d ((p0.toInt64) - (1500 : Int64))) (4666723172467343360 : UInt64)) (4700211930122420224 : UInt64))), .second, .val (.int (1 : Int32)), .unset] [(.int (1 : Int32))])) _
      refine XS.goto X26.here hx rfl (pc0 := 268) (pc' := 272) rfl (hb hby at_268) (by decide) (by decide) ?_
      show Steps p.tables e below (T26.setTop (mkF m 272 #[.val (.int p0), .val (.int p1), .val (.int p2), .val (.int p3), .val (.int p4), .val (.int p5), .val (.ref b1), .val (.ref b8), .val (.ref b15), .val (.double (f4 (FP.i2d p0))), .second, .val (.double (f4 (FP.i2d p0))), .second, .val (.double (f4 (FP.i2d p1))), .second, .val (.int (1 : Int32)), .val (.int (1 : Int32)), .val (.int (1 : Int32)), .val (.double (FP.l2d ((p0.toInt64) - (1500 : Int64)))), .second, .val (.double (FP.dmul (FP.l2d ((p0.toInt64) - (1500 : Int64))) (4666723172467343360 : UInt64))), .second, .val (.double (FP.ddiv (FP.dmul (FP.l2d ((p0.toInt64) - (1500 : Int64))) (4666723172467343360 : UInt64)) (4700211938712354816 : UInt64))), .second, .val (.double (FP.ddiv (FP.dmul (FP.l2d ((p0.toInt64) - (1500 : Int64))) (4666723172467343360 : UInt64)) (4700211930122420224 : UInt64))), .second, .val (.int (1 : Int32)), .unset] [(.int (1 : Int32))])) _
      refine XS.istore X26.here hx rfl (hb hby at_272) rfl (l' := #[.val (.int p0), .val (.int p1), .val (.int p2), .val (.int p3), .val (.int p4), .val (.int p5), .val (.ref b1), .val (.ref b8), .val (.ref b15), .val (.double (f4 (FP.i2d p0))), .second, .val (.double (f4 (FP.i2d p0))), .second, .val (.double (f4 (FP.i2d p1))), .second, .val (.int (1 : Int32)), .val (.int (1 : Int32)), .val (.int (1 : Int32)), .val (.double (FP.l2d ((p0.toInt64) - (1500 : Int64)))), .second, .val (.double (FP.dmul (FP.l2d ((p0.toInt64) - (1500 : Int64))) (4666723172467343360 : UInt64))), .second, .val (.double (FP.ddiv (FP.dmul (FP.l2d ((p0.toInt64) - (1500 : Int64))) (4666723172467343360 : UInt64)) (4700211938712354816 : UInt64))), .second, .val (.double (FP.ddiv (FP.dmul (FP.l2d ((p0.toInt64) - (1500 : Int64))) (4666723172467343360 : UInt64)) (4700211930122420224 : UInt64))), .second, .val (.int (1 : Int32)), .val (.int (1 : Int32))]) rfl ?_
      exact kt
  have pre69 : ∀ t, Steps p.tables e below (T26.setTop (mkF m 276 #[.val (.int p0), .val (.int p1), .val (.int p2), .val (.int p3), .val (.int p4), .val (.int p5), .val (.ref b1), .val (.ref b8), .val (.ref b15), .val (.double (f4 (FP.i2d p0))), .second, .val (.double (f4 (FP.i2d p0))), .second, .val (.double (f4 (FP.i2d p1))), .second, .val (.int (1 : Int32)), .val (.int (1 : Int32)), .val (.int (1 : Int32)), .val (.double (FP.l2d ((p0.toInt64) - (1500 : Int64)))), .second, .val (.double (FP.dmul (FP.l2d ((p0.toInt64) - (1500 : Int64))) (4666723172467343360 : UInt64))), .second, .val (.double (FP.ddiv (FP.dmul (FP.l2d ((p0.toInt64) - (1500 : Int64))) (4666723172467343360 : UInt64)) (4700211938712354816 : UInt64))), .second, .val (.double (FP.ddiv (FP.dmul (FP.l2d ((p0.toInt64) - (1500 : Int64))) (4666723172467343360 : UInt64)) (4700211930122420224 : UInt64))), .second, .val (.int (1 : Int32)), .val (.int (1 : Int32))] [(.int (1 : Int32))])) t → Steps p.tables e below (s₁.setTop (entryFrame m #[(.int p0), (.int p1), (.int p2), (.int p3), (.int p4), (.int p5)] maxLocals)) t := fun t kt => preB60 t (by
      show Steps p.tables e below (T26.setTop (mkF m 274 #[.val (.int p0), .val (.int p1), .val (.int p2), .val (.int p3), .val (.int p4), .val (.int p5), .val (.ref b1), .val (.ref b8), .val (.ref b15), .val (.double (f4 (FP.i2d p0))), .second, .val (.double (f4 (FP.i2d p0))), .second, .val (.double (f4 (FP.i2d p1))), .second, .val (.int (1 : Int32)), .val (.int (1 : Int32)), .val (.int (1 : Int32)), .val (.double (FP.l2d ((p0.toInt64) - (1500 : Int64)))), .second, .val (.double (FP.dmul (FP.l2d ((p0.toInt64) - (1500 : Int64))) (4666723172467343360 : UInt64))), .second, .val (.double (FP.ddiv (FP.dmul (FP.l2d ((p0.toInt64) - (1500 : Int64))) (4666723172467343360 : UInt64)) (4700211938712354816 : UInt64))), .second, .val (.double (FP.ddiv (FP.dmul (FP.l2d ((p0.toInt64) - (1500 : Int64))) (4666723172467343360 : UInt64)) (4700211930122420224 : UInt64))), .second, .val (.int (1 : Int32)), .val (.int (1 : Int32))] [])) _
      refine XS.iload X26.here hx rfl (hb hby at_274) rfl ?_
      exact kt)
  have pre70 : ∀ t, Steps p.tables e below (T26.setTop (mkF m 281 #[.val (.int p0), .val (.int p1), .val (.int p2), .val (.int p3), .val (.int p4), .val (.int p5), .val (.ref b1), .val (.ref b8), .val (.ref b15), .val (.double (f4 (FP.i2d p0))), .second, .val (.double (f4 (FP.i2d p0))), .second, .val (.double (f4 (FP.i2d p1))), .second, .val (.int (1 : Int32)), .val (.int (1 : Int32)), .val (.int (1 : Int32)), .val (.double (FP.l2d ((p0.toInt64) - (1500 : Int64)))), .second, .val (.double (FP.dmul (FP.l2d ((p0.toInt64) - (1500 : Int64))) (4666723172467343360 : UInt64))), .second, .val (.double (FP.ddiv (FP.dmul (FP.l2d ((p0.toInt64) - (1500 : Int64))) (4666723172467343360 : UInt64)) (4700211938712354816 : UInt64))), .second, .val (.double (FP.ddiv (FP.dmul (FP.l2d ((p0.toInt64) - (1500 : Int64))) (4666723172467343360 : UInt64)) (4700211930122420224 : UInt64))), .second, .val (.int (1 : Int32)), .val (.int (1 : Int32))] [(.int (1 : Int32))])) t → Steps p.tables e below (s₁.setTop (entryFrame m #[(.int p0), (.int p1), (.int p2), (.int p3), (.int p4), (.int p5)] maxLocals)) t := fun t kt => pre69 t (by
      show Steps p.tables e below (T26.setTop (mkF m 276 #[.val (.int p0), .val (.int p1), .val (.int p2), .val (.int p3), .val (.int p4), .val (.int p5), .val (.ref b1), .val (.ref b8), .val (.ref b15), .val (.double (f4 (FP.i2d p0))), .second, .val (.double (f4 (FP.i2d p0))), .second, .val (.double (f4 (FP.i2d p1))), .second, .val (.int (1 : Int32)), .val (.int (1 : Int32)), .val (.int (1 : Int32)), .val (.double (FP.l2d ((p0.toInt64) - (1500 : Int64)))), .second, .val (.double (FP.dmul (FP.l2d ((p0.toInt64) - (1500 : Int64))) (4666723172467343360 : UInt64))), .second, .val (.double (FP.ddiv (FP.dmul (FP.l2d ((p0.toInt64) - (1500 : Int64))) (4666723172467343360 : UInt64)) (4700211938712354816 : UInt64))), .second, .val (.double (FP.ddiv (FP.dmul (FP.l2d ((p0.toInt64) - (1500 : Int64))) (4666723172467343360 : UInt64)) (4700211930122420224 : UInt64))), .second, .val (.int (1 : Int32)), .val (.int (1 : Int32))] [(.int (1 : Int32))])) _
      refine XS.ifNo X26.here hx rfl (hb hby at_276) rfl ((if0 _ _).trans (feq (by decide : ¬ ((1 : Int32) = (0 : Int32)))).1) ?_
      show Steps p.tables e below (T26.setTop (mkF m 279 #[.val (.int p0), .val (.int p1), .val (.int p2), .val (.int p3), .val (.int p4), .val (.int p5), .val (.ref b1), .val (.ref b8), .val (.ref b15), .val (.double (f4 (FP.i2d p0))), .second, .val (.double (f4 (FP.i2d p0))), .second, .val (.double (f4 (FP.i2d p1))), .second, .val (.int (1 : Int32)), .val (.int (1 : Int32)), .val (.int (1 : Int32)), .val (.double (FP.l2d ((p0.toInt64) - (1500 : Int64)))), .second, .val (.double (FP.dmul (FP.l2d ((p0.toInt64) - (1500 : Int64))) (4666723172467343360 : UInt64))), .second, .val (.double (FP.ddiv (FP.dmul (FP.l2d ((p0.toInt64) - (1500 : Int64))) (4666723172467343360 : UInt64)) (4700211938712354816 : UInt64))), .second, .val (.double (FP.ddiv (FP.dmul (FP.l2d ((p0.toInt64) - (1500 : Int64))) (4666723172467343360 : UInt64)) (4700211930122420224 : UInt64))), .second, .val (.int (1 : Int32)), .val (.int (1 : Int32))] [])) _
      refine XS.iload X26.here hx rfl (hb hby at_279) rfl ?_
      exact kt)
  have pre71 : ∀ t, Steps p.tables e below (T26.setTop (mkF m 286 #[.val (.int p0), .val (.int p1), .val (.int p2), .val (.int p3), .val (.int p4), .val (.int p5), .val (.ref b1), .val (.ref b8), .val (.ref b15), .val (.double (f4 (FP.i2d p0))), .second, .val (.double (f4 (FP.i2d p0))), .second, .val (.double (f4 (FP.i2d p1))), .second, .val (.int (1 : Int32)), .val (.int (1 : Int32)), .val (.int (1 : Int32)), .val (.double (FP.l2d ((p0.toInt64) - (1500 : Int64)))), .second, .val (.double (FP.dmul (FP.l2d ((p0.toInt64) - (1500 : Int64))) (4666723172467343360 : UInt64))), .second, .val (.double (FP.ddiv (FP.dmul (FP.l2d ((p0.toInt64) - (1500 : Int64))) (4666723172467343360 : UInt64)) (4700211938712354816 : UInt64))), .second, .val (.double (FP.ddiv (FP.dmul (FP.l2d ((p0.toInt64) - (1500 : Int64))) (4666723172467343360 : UInt64)) (4700211930122420224 : UInt64))), .second, .val (.int (1 : Int32)), .val (.int (1 : Int32))] [(.int (1 : Int32))])) t → Steps p.tables e below (s₁.setTop (entryFrame m #[(.int p0), (.int p1), (.int p2), (.int p3), (.int p4), (.int p5)] maxLocals)) t := fun t kt => pre70 t (by
      show Steps p.tables e below (T26.setTop (mkF m 281 #[.val (.int p0), .val (.int p1), .val (.int p2), .val (.int p3), .val (.int p4), .val (.int p5), .val (.ref b1), .val (.ref b8), .val (.ref b15), .val (.double (f4 (FP.i2d p0))), .second, .val (.double (f4 (FP.i2d p0))), .second, .val (.double (f4 (FP.i2d p1))), .second, .val (.int (1 : Int32)), .val (.int (1 : Int32)), .val (.int (1 : Int32)), .val (.double (FP.l2d ((p0.toInt64) - (1500 : Int64)))), .second, .val (.double (FP.dmul (FP.l2d ((p0.toInt64) - (1500 : Int64))) (4666723172467343360 : UInt64))), .second, .val (.double (FP.ddiv (FP.dmul (FP.l2d ((p0.toInt64) - (1500 : Int64))) (4666723172467343360 : UInt64)) (4700211938712354816 : UInt64))), .second, .val (.double (FP.ddiv (FP.dmul (FP.l2d ((p0.toInt64) - (1500 : Int64))) (4666723172467343360 : UInt64)) (4700211930122420224 : UInt64))), .second, .val (.int (1 : Int32)), .val (.int (1 : Int32))] [(.int (1 : Int32))])) _
      refine XS.ifNo X26.here hx rfl (hb hby at_281) rfl ((if0 _ _).trans (feq (by decide : ¬ ((1 : Int32) = (0 : Int32)))).1) ?_
      show Steps p.tables e below (T26.setTop (mkF m 284 #[.val (.int p0), .val (.int p1), .val (.int p2), .val (.int p3), .val (.int p4), .val (.int p5), .val (.ref b1), .val (.ref b8), .val (.ref b15), .val (.double (f4 (FP.i2d p0))), .second, .val (.double (f4 (FP.i2d p0))), .second, .val (.double (f4 (FP.i2d p1))), .second, .val (.int (1 : Int32)), .val (.int (1 : Int32)), .val (.int (1 : Int32)), .val (.double (FP.l2d ((p0.toInt64) - (1500 : Int64)))), .second, .val (.double (FP.dmul (FP.l2d ((p0.toInt64) - (1500 : Int64))) (4666723172467343360 : UInt64))), .second, .val (.double (FP.ddiv (FP.dmul (FP.l2d ((p0.toInt64) - (1500 : Int64))) (4666723172467343360 : UInt64)) (4700211938712354816 : UInt64))), .second, .val (.double (FP.ddiv (FP.dmul (FP.l2d ((p0.toInt64) - (1500 : Int64))) (4666723172467343360 : UInt64)) (4700211930122420224 : UInt64))), .second, .val (.int (1 : Int32)), .val (.int (1 : Int32))] [])) _
      refine XS.iload X26.here hx rfl (hb hby at_284) rfl ?_
      exact kt)
  have pre72 : ∀ t, Steps p.tables e below (T26.setTop (mkF m 291 #[.val (.int p0), .val (.int p1), .val (.int p2), .val (.int p3), .val (.int p4), .val (.int p5), .val (.ref b1), .val (.ref b8), .val (.ref b15), .val (.double (f4 (FP.i2d p0))), .second, .val (.double (f4 (FP.i2d p0))), .second, .val (.double (f4 (FP.i2d p1))), .second, .val (.int (1 : Int32)), .val (.int (1 : Int32)), .val (.int (1 : Int32)), .val (.double (FP.l2d ((p0.toInt64) - (1500 : Int64)))), .second, .val (.double (FP.dmul (FP.l2d ((p0.toInt64) - (1500 : Int64))) (4666723172467343360 : UInt64))), .second, .val (.double (FP.ddiv (FP.dmul (FP.l2d ((p0.toInt64) - (1500 : Int64))) (4666723172467343360 : UInt64)) (4700211938712354816 : UInt64))), .second, .val (.double (FP.ddiv (FP.dmul (FP.l2d ((p0.toInt64) - (1500 : Int64))) (4666723172467343360 : UInt64)) (4700211930122420224 : UInt64))), .second, .val (.int (1 : Int32)), .val (.int (1 : Int32))] [(.int (1 : Int32))])) t → Steps p.tables e below (s₁.setTop (entryFrame m #[(.int p0), (.int p1), (.int p2), (.int p3), (.int p4), (.int p5)] maxLocals)) t := fun t kt => pre71 t (by
      show Steps p.tables e below (T26.setTop (mkF m 286 #[.val (.int p0), .val (.int p1), .val (.int p2), .val (.int p3), .val (.int p4), .val (.int p5), .val (.ref b1), .val (.ref b8), .val (.ref b15), .val (.double (f4 (FP.i2d p0))), .second, .val (.double (f4 (FP.i2d p0))), .second, .val (.double (f4 (FP.i2d p1))), .second, .val (.int (1 : Int32)), .val (.int (1 : Int32)), .val (.int (1 : Int32)), .val (.double (FP.l2d ((p0.toInt64) - (1500 : Int64)))), .second, .val (.double (FP.dmul (FP.l2d ((p0.toInt64) - (1500 : Int64))) (4666723172467343360 : UInt64))), .second, .val (.double (FP.ddiv (FP.dmul (FP.l2d ((p0.toInt64) - (1500 : Int64))) (4666723172467343360 : UInt64)) (4700211938712354816 : UInt64))), .second, .val (.double (FP.ddiv (FP.dmul (FP.l2d ((p0.toInt64) - (1500 : Int64))) (4666723172467343360 : UInt64)) (4700211930122420224 : UInt64))), .second, .val (.int (1 : Int32)), .val (.int (1 : Int32))] [(.int (1 : Int32))])) _
      refine XS.ifNo X26.here hx rfl (hb hby at_286) rfl ((if0 _ _).trans (feq (by decide : ¬ ((1 : Int32) = (0 : Int32)))).1) ?_
      show Steps p.tables e below (T26.setTop (mkF m 289 #[.val (.int p0), .val (.int p1), .val (.int p2), .val (.int p3), .val (.int p4), .val (.int p5), .val (.ref b1), .val (.ref b8), .val (.ref b15), .val (.double (f4 (FP.i2d p0))), .second, .val (.double (f4 (FP.i2d p0))), .second, .val (.double (f4 (FP.i2d p1))), .second, .val (.int (1 : Int32)), .val (.int (1 : Int32)), .val (.int (1 : Int32)), .val (.double (FP.l2d ((p0.toInt64) - (1500 : Int64)))), .second, .val (.double (FP.dmul (FP.l2d ((p0.toInt64) - (1500 : Int64))) (4666723172467343360 : UInt64))), .second, .val (.double (FP.ddiv (FP.dmul (FP.l2d ((p0.toInt64) - (1500 : Int64))) (4666723172467343360 : UInt64)) (4700211938712354816 : UInt64))), .second, .val (.double (FP.ddiv (FP.dmul (FP.l2d ((p0.toInt64) - (1500 : Int64))) (4666723172467343360 : UInt64)) (4700211930122420224 : UInt64))), .second, .val (.int (1 : Int32)), .val (.int (1 : Int32))] [])) _
      refine XS.iload X26.here hx rfl (hb hby at_289) rfl ?_
      exact kt)
  have pre73 : ∀ t, Steps p.tables e below (T26.setTop (mkF m 296 #[.val (.int p0), .val (.int p1), .val (.int p2), .val (.int p3), .val (.int p4), .val (.int p5), .val (.ref b1), .val (.ref b8), .val (.ref b15), .val (.double (f4 (FP.i2d p0))), .second, .val (.double (f4 (FP.i2d p0))), .second, .val (.double (f4 (FP.i2d p1))), .second, .val (.int (1 : Int32)), .val (.int (1 : Int32)), .val (.int (1 : Int32)), .val (.double (FP.l2d ((p0.toInt64) - (1500 : Int64)))), .second, .val (.double (FP.dmul (FP.l2d ((p0.toInt64) - (1500 : Int64))) (4666723172467343360 : UInt64))), .second, .val (.double (FP.ddiv (FP.dmul (FP.l2d ((p0.toInt64) - (1500 : Int64))) (4666723172467343360 : UInt64)) (4700211938712354816 : UInt64))), .second, .val (.double (FP.ddiv (FP.dmul (FP.l2d ((p0.toInt64) - (1500 : Int64))) (4666723172467343360 : UInt64)) (4700211930122420224 : UInt64))), .second, .val (.int (1 : Int32)), .val (.int (1 : Int32))] [(.int (1 : Int32))])) t → Steps p.tables e below (s₁.setTop (entryFrame m #[(.int p0), (.int p1), (.int p2), (.int p3), (.int p4), (.int p5)] maxLocals)) t := fun t kt => pre72 t (by
      show Steps p.tables e below (T26.setTop (mkF m 291 #[.val (.int p0), .val (.int p1), .val (.int p2), .val (.int p3), .val (.int p4), .val (.int p5), .val (.ref b1), .val (.ref b8), .val (.ref b15), .val (.double (f4 (FP.i2d p0))), .second, .val (.double (f4 (FP.i2d p0))), .second, .val (.double (f4 (FP.i2d p1))), .second, .val (.int (1 : Int32)), .val (.int (1 : Int32)), .val (.int (1 : Int32)), .val (.double (FP.l2d ((p0.toInt64) - (1500 : Int64)))), .second, .val (.double (FP.dmul (FP.l2d ((p0.toInt64) - (1500 : Int64))) (4666723172467343360 : UInt64))), .second, .val (.double (FP.ddiv (FP.dmul (FP.l2d ((p0.toInt64) - (1500 : Int64))) (4666723172467343360 : UInt64)) (4700211938712354816 : UInt64))), .second, .val (.double (FP.ddiv (FP.dmul (FP.l2d ((p0.toInt64) - (1500 : Int64))) (4666723172467343360 : UInt64)) (4700211930122420224 : UInt64))), .second, .val (.int (1 : Int32)), .val (.int (1 : Int32))] [(.int (1 : Int32))])) _
      refine XS.ifNo X26.here hx rfl (hb hby at_291) rfl ((if0 _ _).trans (feq (by decide : ¬ ((1 : Int32) = (0 : Int32)))).1) ?_
      show Steps p.tables e below (T26.setTop (mkF m 294 #[.val (.int p0), .val (.int p1), .val (.int p2), .val (.int p3), .val (.int p4), .val (.int p5), .val (.ref b1), .val (.ref b8), .val (.ref b15), .val (.double (f4 (FP.i2d p0))), .second, .val (.double (f4 (FP.i2d p0))), .second, .val (.double (f4 (FP.i2d p1))), .second, .val (.int (1 : Int32)), .val (.int (1 : Int32)), .val (.int (1 : Int32)), .val (.double (FP.l2d ((p0.toInt64) - (1500 : Int64)))), .second, .val (.double (FP.dmul (FP.l2d ((p0.toInt64) - (1500 : Int64))) (4666723172467343360 : UInt64))), .second, .val (.double (FP.ddiv (FP.dmul (FP.l2d ((p0.toInt64) - (1500 : Int64))) (4666723172467343360 : UInt64)) (4700211938712354816 : UInt64))), .second, .val (.double (FP.ddiv (FP.dmul (FP.l2d ((p0.toInt64) - (1500 : Int64))) (4666723172467343360 : UInt64)) (4700211930122420224 : UInt64))), .second, .val (.int (1 : Int32)), .val (.int (1 : Int32))] [])) _
      refine XS.iload X26.here hx rfl (hb hby at_294) rfl ?_
      exact kt)
  obtain ⟨fs, hr, hrun, hended, hW, hsame⟩ := X26.leave (v := some (.int (1 : Int32))) (fun h => by rw [Bd.returns] at h; cases h)
  have hv74 : (1 : Int32) = (1 : Int32) := rfl
  refine ⟨_, _, pre73 _ ?_, hrun, hended, _, _, rfl, ?_, ⟨_, rfl⟩, hW, hsame.mono (by decide) (by decide)⟩
  · show Steps p.tables e below (T26.setTop (mkF m 296 #[.val (.int p0), .val (.int p1), .val (.int p2), .val (.int p3), .val (.int p4), .val (.int p5), .val (.ref b1), .val (.ref b8), .val (.ref b15), .val (.double (f4 (FP.i2d p0))), .second, .val (.double (f4 (FP.i2d p0))), .second, .val (.double (f4 (FP.i2d p1))), .second, .val (.int (1 : Int32)), .val (.int (1 : Int32)), .val (.int (1 : Int32)), .val (.double (FP.l2d ((p0.toInt64) - (1500 : Int64)))), .second, .val (.double (FP.dmul (FP.l2d ((p0.toInt64) - (1500 : Int64))) (4666723172467343360 : UInt64))), .second, .val (.double (FP.ddiv (FP.dmul (FP.l2d ((p0.toInt64) - (1500 : Int64))) (4666723172467343360 : UInt64)) (4700211938712354816 : UInt64))), .second, .val (.double (FP.ddiv (FP.dmul (FP.l2d ((p0.toInt64) - (1500 : Int64))) (4666723172467343360 : UInt64)) (4700211930122420224 : UInt64))), .second, .val (.int (1 : Int32)), .val (.int (1 : Int32))] [(.int (1 : Int32))])) _
    refine XS.ifNo X26.here hx rfl (hb hby at_296) rfl ((if0 _ _).trans (feq (by decide : ¬ ((1 : Int32) = (0 : Int32)))).1) ?_
    show Steps p.tables e below (T26.setTop (mkF m 299 #[.val (.int p0), .val (.int p1), .val (.int p2), .val (.int p3), .val (.int p4), .val (.int p5), .val (.ref b1), .val (.ref b8), .val (.ref b15), .val (.double (f4 (FP.i2d p0))), .second, .val (.double (f4 (FP.i2d p0))), .second, .val (.double (f4 (FP.i2d p1))), .second, .val (.int (1 : Int32)), .val (.int (1 : Int32)), .val (.int (1 : Int32)), .val (.double (FP.l2d ((p0.toInt64) - (1500 : Int64)))), .second, .val (.double (FP.dmul (FP.l2d ((p0.toInt64) - (1500 : Int64))) (4666723172467343360 : UInt64))), .second, .val (.double (FP.ddiv (FP.dmul (FP.l2d ((p0.toInt64) - (1500 : Int64))) (4666723172467343360 : UInt64)) (4700211938712354816 : UInt64))), .second, .val (.double (FP.ddiv (FP.dmul (FP.l2d ((p0.toInt64) - (1500 : Int64))) (4666723172467343360 : UInt64)) (4700211930122420224 : UInt64))), .second, .val (.int (1 : Int32)), .val (.int (1 : Int32))] [])) _
    refine XS.iconst X26.here hx rfl (hb hby at_299) ?_
    show Steps p.tables e below (T26.setTop (mkF m 300 #[.val (.int p0), .val (.int p1), .val (.int p2), .val (.int p3), .val (.int p4), .val (.int p5), .val (.ref b1), .val (.ref b8), .val (.ref b15), .val (.double (f4 (FP.i2d p0))), .second, .val (.double (f4 (FP.i2d p0))), .second, .val (.double (f4 (FP.i2d p1))), .second, .val (.int (1 : Int32)), .val (.int (1 : Int32)), .val (.int (1 : Int32)), .val (.double (FP.l2d ((p0.toInt64) - (1500 : Int64)))), .second, .val (.double (FP.dmul (FP.l2d ((p0.toInt64) - (1500 : Int64))) (4666723172467343360 : UInt64))), .second, .val (.double (FP.ddiv (FP.dmul (FP.l2d ((p0.toInt64) - (1500 : Int64))) (4666723172467343360 : UInt64)) (4700211938712354816 : UInt64))), .second, .val (.double (FP.ddiv (FP.dmul (FP.l2d ((p0.toInt64) - (1500 : Int64))) (4666723172467343360 : UInt64)) (4700211930122420224 : UInt64))), .second, .val (.int (1 : Int32)), .val (.int (1 : Int32))] [(.int (1 : Int32))])) _
    refine XS.goto X26.here hx rfl (pc0 := 300) (pc' := 304) rfl (hb hby at_300) (by decide) (by decide) ?_
    show Steps p.tables e below (T26.setTop (mkF m 304 #[.val (.int p0), .val (.int p1), .val (.int p2), .val (.int p3), .val (.int p4), .val (.int p5), .val (.ref b1), .val (.ref b8), .val (.ref b15), .val (.double (f4 (FP.i2d p0))), .second, .val (.double (f4 (FP.i2d p0))), .second, .val (.double (f4 (FP.i2d p1))), .second, .val (.int (1 : Int32)), .val (.int (1 : Int32)), .val (.int (1 : Int32)), .val (.double (FP.l2d ((p0.toInt64) - (1500 : Int64)))), .second, .val (.double (FP.dmul (FP.l2d ((p0.toInt64) - (1500 : Int64))) (4666723172467343360 : UInt64))), .second, .val (.double (FP.ddiv (FP.dmul (FP.l2d ((p0.toInt64) - (1500 : Int64))) (4666723172467343360 : UInt64)) (4700211938712354816 : UInt64))), .second, .val (.double (FP.ddiv (FP.dmul (FP.l2d ((p0.toInt64) - (1500 : Int64))) (4666723172467343360 : UInt64)) (4700211930122420224 : UInt64))), .second, .val (.int (1 : Int32)), .val (.int (1 : Int32))] [(.int (1 : Int32))])) _
    exact retN X26 hx (t := .boolean) Bd.returns (by simp) (hb hby at_304) hr
  · show Q0 Z p0 p1 p2 p3 p4 p5 un h0 n0 _ T26.heap _
    rw [e26q]
    exact ⟨congrArg (fun q => some (Value.int q)) hv74, N26⟩
set_option maxRecDepth 65536 in
set_option maxHeartbeats 40000000 in
theorem comes_1 {Post : Tables → Env → Array Value → State → Outcome → State → Prop} (hpost : ∀ tb e args s v u, (limb_1_1.after args s (.returned v) u = true ∧ limb_1_2.after args s (.returned v) u = true ∧ True) → FrameEnd s (.returned v) u (Jvm.fieldLocs frame_1_writes args s ++ Jvm.arrayLocs frame_1_arrays args s ++ Jvm.staticLocs frame_1_statics s) 16 128 → Post tb e args s (.returned v) u) :
    ArmFor flags0 classFile x code maxLocals ret World_1 tables_1 room_1 Calls_1 rest_1 Pre_1 Post := by
  intro l hfl _ _ p e ha hc hk s m args below hf hA hF happ hP
  obtain ⟨hcalls, hrest, hpre⟩ := hP
  obtain ⟨-, -, -, hnamed, -, -, -, hat⟩ := (Spec.applies_iff hf).mp happ
  obtain ⟨hg, hn⟩ := and_e (Cond.before_iff.mp (show (Jvm.Cond.and given_1 narrow_1).before args s = true from hpre))
  obtain ⟨g1, g2⟩ := and_e hg
  obtain ⟨g3, g4⟩ := and_e g2
  obtain ⟨g5, g6⟩ := and_e g4
  obtain ⟨g7, g8⟩ := and_e g6
  obtain ⟨g9, g10⟩ := and_e g8
  obtain ⟨g11, g12⟩ := and_e g10
  obtain ⟨w0, w1, w2, w3, w4, w5, rfl⟩ : ∃ w0 w1 w2 w3 w4 w5 : Value, args = #[w0, w1, w2, w3, w4, w5] := by
    have hs : args.size = 6 := by simpa [Cond.value, given_1] using g1
    obtain ⟨L⟩ := args
    match L, hs with
    | [w0, w1, w2, w3, w4, w5], _ => exact ⟨w0, w1, w2, w3, w4, w5, rfl⟩
  have hw := fun d (hd : d ∈ tables_1) => atoms_spec (ws := Jvm.Cond.code x code maxLocals ret :: tables_1) hat d (List.mem_cons_of_mem _ hd)
  have hfit : Fit s := fun {y c} hc i hi => by
    obtain ⟨ha, rfl⟩ := Array.getElem?_eq_some_iff.mp hc
    have q := List.all_eq_true.mp ((Array.all_eq_true_iff_forall_mem.mp hF) _ (Array.getElem_mem ha)) i (List.mem_range.mpr hi)
    simpa [Array.getElem?_eq_getElem hi] using q
  obtain ⟨k0, k1⟩ := and_e hn
  obtain ⟨un, eun⟩ := exa_v k0
  have S_un := Sta.start eun (Or.inr ⟨(hw _ (List.mem_of_getElem? (i := 2) rfl)), (hw _ (List.mem_of_getElem? (i := 26) rfl))⟩)
  have E_un := Exa.start eun k0
  have F_un := Fld.start ((fld_at eun).symm.trans (own_eqd k1))
  obtain ⟨i0, ei0⟩ := is_v g3
  obtain rfl : w0 = (.int i0) := Option.some.inj ei0
  obtain ⟨i1, ei1⟩ := is_v g5
  obtain rfl : w1 = (.int i1) := Option.some.inj ei1
  obtain ⟨i2, ei2⟩ := is_v g7
  obtain rfl : w2 = (.int i2) := Option.some.inj ei2
  obtain ⟨i3, ei3⟩ := is_v g9
  obtain rfl : w3 = (.int i3) := Option.some.inj ei3
  obtain ⟨i4, ei4⟩ := is_v g11
  obtain rfl : w4 = (.int i4) := Option.some.inj ei4
  obtain ⟨i5, ei5⟩ := is_v g12
  obtain rfl : w5 = (.int i5) := Option.some.inj ei5
  obtain ⟨n, o, h1, h2, h3, _, L, rfl, ⟨hv0, N⟩, hq⟩ := rm0 l s _ hw tables_1 i0 i1 i2 i3 i4 i5 un s.heap s.heap.size (Nat.le_refl _) S_un F_un E_un p e ha hc hk s m _ below hf ((Spec.applies_iff_loose hf).mp happ).1 ⟨rfl, State.Warmed39.refl s, rfl⟩ trivial
  subst hv0
  refine ⟨n, _, h1, h2, h3, hpost _ _ _ _ _ _ ⟨Cond.after_iff.mpr rfl, Cond.after_iff.mpr (eq_i res_at (Term.int_eval (1)) rfl), trivial⟩ ⟨hq.1, hq.2.1, (hq.2.2.sift fun y hy => Or.inr (N y hy)).mono (by decide) (by decide)⟩⟩
theorem main_1_1 : Claimed_1_1 := comes_1 fun _ _ _ _ _ _ h hF => ⟨h.1, hF⟩
theorem main_1_2 : Claimed_1_2 := comes_1 fun _ _ _ _ _ _ h hF => ⟨h.2.1, hF⟩
end Jvm.Pilot.@@N@@
namespace Jvm.Pilot.@@N@@
open Jvm Jvm.ClassFile Sem Op Lib Jvm.Free Jvm.Stand Jvm.Pilot.@@N@@.Jvm.D
/-! MADE BY PROGRAM (witnessworld.py) out of the Statement's table words and the real class files: 10 classes; the members and pool entries that the words name. The judged class is class 1, her method 1. -/
namespace start1
open Jvm.ClassFile
def u (s : String) : CpInfo := .utf8 (stringToUtf16 s)
/-- a pool by its gaps: so many unusable entries, then the entry; so many at the end -/
def gap : Nat → List CpInfo → List CpInfo
  | 0, r => r
  | n + 1, r => .unusable :: gap n r
def poolList (es : List (Nat × CpInfo)) (last : Nat) : List CpInfo := es.foldr (fun e r => gap e.1 (e.2 :: r)) (gap last [])
def pool (es : List (Nat × CpInfo)) (last : Nat) : Array CpInfo := ⟨poolList es last⟩
def fileOf (pool : Array CpInfo) (this : Nat) (attrs : Array Attribute := #[]) (ms : Array MethodInfo := #[]) (fl : Nat := 33) (sup : Nat := 0) (ifs : Array Nat := #[]) (fds : Array FieldInfo := #[]) : ClassFile where
  minorVersion := 0
  majorVersion := 65
  constantPool := pool
  accessFlags := fl
  thisClass := this
  superClass := sup
  interfaces := ifs
  fields := fds
  methods := ms
  attributes := attrs
def plain (name : String) (sup : Option ClassId) : Class where
  name := name
  kind := .ordinary
  loader := none
  accessFlags := 33
  super := sup
  interfaces := #[]
  cf := none
  fields := #[]
  methods := #[]
  instanceTypes := #[]
  staticTypes := #[]
  resolved := #[]
  callSites := []
  init := .initialized
  statics := none
  mirror := none

def pool0 : Array CpInfo := pool [(5, u "<init>"), (0, u "()V"), (1, .class_ 10), (1, u "java/lang/Object")] 113

def k0c0 : Code := { maxStack := 0, maxLocals := 1, code := object_method_1_code, exceptionTable := #[], attributes := #[] }
def k0m0 : Method := { name := "<init>", desc := "()V", sig := { parameters := [], returnType := none }, accessFlags := 1, code := some k0c0 }
/-- java/lang/Object -/
def k0 : Class := { plain "java/lang/Object" none with
  accessFlags := 33
  interfaces := #[]
  cf := some (fileOf pool0 8 #[] #[{ accessFlags := 1, nameIndex := 5, descriptorIndex := 6, attributes := #[] }] 33 0 #[] #[])
  fields := #[]
  methods := #[k0m0]
  instanceTypes := #[]
  staticTypes := #[]
  resolved := Array.replicate 124 none
  statics := none }

def pool1 : Array CpInfo := pool [(2, .class_ 4), (1, u "java/lang/Object"), (0, u "<init>"), (0, u "()V"), (0, .class_ 8), (0, u "com/example/cratewise/cratewise/ranking/Rating"), (0, .methodref 7 10), (0, .nameAndType 5 11), (0, u "(DDD)V"), (0, .methodref 7 13), (0, .nameAndType 14 15), (0, u "mu"), (0, u "()D"), (0, .long 1500), (1, .double 4666723172467343360), (1, .double 4700211938712354816), (1, .double 4700211930122420224), (1, .class_ 25), (0, u "com/example/cratewise/cratewise/ranking/RatingMuPinLaw"), (2, u "law"), (0, u "(IIIIII)Z")] 3

def k1m0 : Method := { name := "<init>", desc := "()V", sig := { parameters := [], returnType := none }, accessFlags := 1, code := none }
def k1c1 : Code := { maxStack := 8, maxLocals := 28, code := code, exceptionTable := #[], attributes := #[] }
def k1m1 : Method := { name := "law", desc := "(IIIIII)Z", sig := { parameters := [.int, .int, .int, .int, .int, .int], returnType := some .boolean }, accessFlags := 9, code := some k1c1 }
/-- com/example/cratewise/cratewise/ranking/RatingMuPinLaw -/
def k1 : Class := { plain "com/example/cratewise/cratewise/ranking/RatingMuPinLaw" (some 0) with
  accessFlags := 49
  interfaces := #[]
  cf := some (fileOf pool1 24 #[] #[{ accessFlags := 1, nameIndex := 5, descriptorIndex := 6, attributes := #[] }, { accessFlags := 9, nameIndex := 28, descriptorIndex := 29, attributes := #[] }] 49 2 #[] #[])
  fields := #[]
  methods := #[k1m0, k1m1]
  instanceTypes := #[]
  staticTypes := #[]
  resolved := Array.replicate 33 none
  statics := none }

def pool2 : Array CpInfo := pool [(1, .methodref 2 3), (0, .class_ 4), (0, .nameAndType 5 6), (0, u "java/lang/Object"), (0, u "<init>"), (0, u "()V"), (0, .class_ 8), (0, u "java/lang/Record")] 13

def k2c0 : Code := { maxStack := 1, maxLocals := 1, code := jdk_30_method_1_code, exceptionTable := #[], attributes := #[] }
def k2m0 : Method := { name := "<init>", desc := "()V", sig := { parameters := [], returnType := none }, accessFlags := 4, code := some k2c0 }
/-- java/lang/Record -/
def k2 : Class := { plain "java/lang/Record" (some 0) with
  accessFlags := 1057
  interfaces := #[]
  cf := some (fileOf pool2 7 #[] #[{ accessFlags := 4, nameIndex := 5, descriptorIndex := 6, attributes := #[] }] 1057 2 #[] #[])
  fields := #[]
  methods := #[k2m0]
  instanceTypes := #[]
  staticTypes := #[]
  resolved := Array.replicate 22 none
  statics := none }

def pool3 : Array CpInfo := pool [(1, .methodref 2 3), (0, .class_ 4), (0, .nameAndType 5 6), (0, u "java/lang/Record"), (0, u "<init>"), (0, u "()V"), (0, .fieldref 8 9), (0, .class_ 10), (0, .nameAndType 11 12), (0, u "com/example/cratewise/cratewise/ranking/Rating"), (0, u "rating"), (0, u "D"), (0, .fieldref 8 14), (0, .nameAndType 15 12), (0, u "deviation"), (0, .fieldref 8 17), (0, .nameAndType 18 12), (0, u "volatility"), (0, .fieldref 8 20), (0, .nameAndType 21 22), (0, u "UNRATED"), (0, u "Lcom/example/cratewise/cratewise/ranking/Rating;"), (0, .double 4640316168277893684), (3, u "(DDD)V"), (18, u "SCALE"), (4, u "mu"), (0, u "()D")] 29

def k3c0 : Code := { maxStack := 3, maxLocals := 7, code := prog_33_method_1_code, exceptionTable := #[], attributes := #[] }
def k3m0 : Method := { name := "<init>", desc := "(DDD)V", sig := { parameters := [.double, .double, .double], returnType := none }, accessFlags := 1, code := some k3c0 }
def k3c1 : Code := { maxStack := 4, maxLocals := 1, code := prog_33_method_2_code, exceptionTable := #[], attributes := #[] }
def k3m1 : Method := { name := "mu", desc := "()D", sig := { parameters := [], returnType := some .double }, accessFlags := 1, code := some k3c1 }
/-- com/example/cratewise/cratewise/ranking/Rating -/
def k3 : Class := { plain "com/example/cratewise/cratewise/ranking/Rating" (some 2) with
  accessFlags := 49
  interfaces := #[]
  cf := some (fileOf pool3 8 #[] #[{ accessFlags := 1, nameIndex := 5, descriptorIndex := 27, attributes := #[] }, { accessFlags := 1, nameIndex := 51, descriptorIndex := 52, attributes := #[] }] 49 2 #[] #[{ accessFlags := 18, nameIndex := 11, descriptorIndex := 12, attributes := #[] }, { accessFlags := 18, nameIndex := 15, descriptorIndex := 12, attributes := #[] }, { accessFlags := 18, nameIndex := 18, descriptorIndex := 12, attributes := #[] }, { accessFlags := 25, nameIndex := 21, descriptorIndex := 22, attributes := #[] }, { accessFlags := 26, nameIndex := 46, descriptorIndex := 12, attributes := #[] }])
  fields := #[{ name := "rating", type := .double, accessFlags := 18, slot := 0, constantValue := 0 }, { name := "deviation", type := .double, accessFlags := 18, slot := 1, constantValue := 0 }, { name := "volatility", type := .double, accessFlags := 18, slot := 2, constantValue := 0 }, { name := "UNRATED", type := (.object "com/example/cratewise/cratewise/ranking/Rating"), accessFlags := 25, slot := 0, constantValue := 0 }, { name := "SCALE", type := .double, accessFlags := 26, slot := 1, constantValue := 0 }]
  methods := #[k3m0, k3m1]
  instanceTypes := #[.double, .double, .double]
  staticTypes := #[(.object "com/example/cratewise/cratewise/ranking/Rating"), .double]
  resolved := Array.replicate 82 none
  statics := some 0 }

def pool4 : Array CpInfo := pool [(1, u "java/lang/Cloneable"), (0, .class_ 1), (0, u "java/lang/Object"), (0, .class_ 3)] 3

/-- java/lang/Cloneable -/
def k4 : Class := { plain "java/lang/Cloneable" (some 0) with
  accessFlags := 1537
  interfaces := #[]
  cf := some (fileOf pool4 2 #[] #[] 1537 4 #[] #[])
  fields := #[]
  methods := #[]
  instanceTypes := #[]
  staticTypes := #[]
  resolved := Array.replicate 8 none
  statics := none }

def pool5 : Array CpInfo := pool [(1, u "java/io/Serializable"), (0, .class_ 1), (0, u "java/lang/Object"), (0, .class_ 3)] 3

/-- java/io/Serializable -/
def k5 : Class := { plain "java/io/Serializable" (some 0) with
  accessFlags := 1537
  interfaces := #[]
  cf := some (fileOf pool5 2 #[] #[] 1537 4 #[] #[])
  fields := #[]
  methods := #[]
  instanceTypes := #[]
  staticTypes := #[]
  resolved := Array.replicate 8 none
  statics := none }

/-- the primitive byte -/
def k6 : Class := { plain "byte" none with kind := .primitive 'B', accessFlags := 0x411 }
/-- [B -/
def k7 : Class := { plain "[B" (some 0) with kind := .array 6 .byte, interfaces := #[4, 5], accessFlags := 1041 }

/-- the primitive int -/
def k8 : Class := { plain "int" none with kind := .primitive 'I', accessFlags := 0x411 }
/-- [I -/
def k9 : Class := { plain "[I" (some 0) with kind := .array 8 .int, interfaces := #[4, 5], accessFlags := 1041 }

def heap : Heap := #[{ cls := 3, slots := #[.ref 1, .double 0], vm := .statics 3 },
  { cls := 3, slots := #[.double 4654311885213007872, .double 0, .double 0], vm := .none }]
def classes : Array Class := #[k0, k1, k2, k3, k4, k5, k6, k7, k8, k9]
def interned : List (Array UInt16 × Addr) := []
def slotsUsed : Nat := 5
def theMethod : MethodId := ⟨1, 1⟩
def args0 : Array Value := #[.int 5, .int 9, .int 3, .int 5, .int 7, .int 2]
def aboutOver (below : List Frame) : State where
  vm := { classes := classes, interned := interned.toArray }
  heap := heap
  slotsUsed := slotsUsed
  threads := #[{ frames := .invoking theMethod args0 :: below }]
def below0 : List Frame := [.native { method := ⟨0, 0⟩, args := #[] }]
def about1 : State := aboutOver below0
def p0 : Program := .bare "" "" ""
def e0 : Env := launch0.env 0 0 0
theorem w_frames : about1.frames = Frame.invoking theMethod args0 :: below0 := rfl
set_option maxRecDepth 65536 in
theorem w_args : argsFit about1.vm theMethod args0 = true := by decide +kernel
set_option maxRecDepth 65536 in
theorem w_heap : heapFits about1 = true := by decide +kernel
set_option maxRecDepth 65536 in
theorem w_runnable : about1.curStatus? = some .runnable := by decide +kernel
set_option maxRecDepth 65536 in
theorem w_alone : about1.alone = true := by decide +kernel
set_option maxRecDepth 65536 in
theorem w_named : about1.methodNamed? x = some theMethod := by decide +kernel
set_option maxRecDepth 65536 in
theorem w_hears : about1.hears theMethod below0 = true := by decide +kernel
set_option maxRecDepth 65536 in
theorem w_ripe : about1.ripe theMethod args0 below0 = true := by decide +kernel
theorem w_running : about1.status = .running := rfl
set_option maxRecDepth 65536 in
theorem w_room : about1.hasRoom e0.platform room_1 = true :=
  launch0.hasRoom_least _ room_1 (by decide +kernel) (by decide +kernel) (by decide +kernel) (by decide +kernel) (by decide +kernel) (by decide +kernel)
theorem allAtoms_all (ts : List Jvm.Cond) (a : Array Jvm.Value) (st : Jvm.State) : (allAtoms ts).before a st = ts.all (fun c => c.before a st) := by
  induction ts with
  | nil => rfl
  | cons c t ih =>
    show (Jvm.Cond.and c (allAtoms t)).before a st = _
    rw [Jvm.Cond.before_and, ih, List.all_cons]
def words1 : List Jvm.Cond := Jvm.Cond.code x code maxLocals ret :: tables_1
/-- a 'code' word, met by the world's own term for the bytes: nothing is compared byte by byte -/
theorem code_word {y : MethodName} {bytes : ByteArray} {mx : Nat} {rt : Option FieldType} {a : Array Value} {s : State} {m : MethodId} {meth : Method} {c : Code} (h1 : s.methodNamed? y = some m) (h2 : s.vm.method? m = some meth) (h3 : meth.code = some c) (h4 : c.code = bytes)
    (h5 : (c.maxLocals == mx && c.exceptionTable.isEmpty && decide (c.maxStack ≤ mostOperands) && decide (meth.sig.returnType = rt) && !meth.locks && decide (parseMethodDescriptor y.desc = some meth.sig)) = true) : (Jvm.Cond.code y bytes mx rt).before a s = true := by
  simp only [Bool.and_eq_true, beq_iff_eq, Bool.not_eq_true', decide_eq_true_eq] at h5
  obtain ⟨⟨⟨⟨⟨g1, g2⟩, g3⟩, g4⟩, g5⟩, g6⟩ := h5
  simp [Cond.before, Cond.holds, Cond.value, h1, h2, h3, h4, g1, g2, g3, g4, g5, g6]
def isCode : Jvm.Cond → Bool
  | .code _ _ _ _ => true
  | _ => false
theorem all_split {L : List Jvm.Cond} {P : Jvm.Cond → Bool} (h1 : L.all (fun c => isCode c || P c) = true) (h2 : ∀ c ∈ L.filter isCode, P c = true) : L.all P = true := by
  refine List.all_eq_true.mpr fun c hc => ?_
  have h := List.all_eq_true.mp h1 c hc
  rcases Bool.eq_false_or_eq_true (isCode c) with hi | hi
  · exact h2 c (List.mem_filter.mpr ⟨hc, hi⟩)
  · simpa [hi] using h
set_option maxRecDepth 65536 in
theorem w_c0 : (Jvm.Cond.code x code maxLocals ret).before args0 about1 = true := code_word (m := ⟨1, 1⟩) (meth := k1m1) (c := k1c1) (by decide +kernel) rfl rfl rfl (by decide +kernel)
set_option maxRecDepth 65536 in
theorem w_c1 : (Jvm.Cond.code ({ cls := "com/example/cratewise/cratewise/ranking/Rating", name := "<init>", desc := "(DDD)V" } : Jvm.MethodName) prog_33_method_1_code (7 : Nat) (Option.none : Option Jvm.ClassFile.FieldType)).before args0 about1 = true := code_word (m := ⟨3, 0⟩) (meth := k3m0) (c := k3c0) (by decide +kernel) rfl rfl rfl (by decide +kernel)
set_option maxRecDepth 65536 in
theorem w_c2 : (Jvm.Cond.code ({ cls := "java/lang/Record", name := "<init>", desc := "()V" } : Jvm.MethodName) jdk_30_method_1_code (1 : Nat) (Option.none : Option Jvm.ClassFile.FieldType)).before args0 about1 = true := code_word (m := ⟨2, 0⟩) (meth := k2m0) (c := k2c0) (by decide +kernel) rfl rfl rfl (by decide +kernel)
set_option maxRecDepth 65536 in
theorem w_c3 : (Jvm.Cond.code ({ cls := "java/lang/Object", name := "<init>", desc := "()V" } : Jvm.MethodName) object_method_1_code (1 : Nat) (Option.none : Option Jvm.ClassFile.FieldType)).before args0 about1 = true := code_word (m := ⟨0, 0⟩) (meth := k0m0) (c := k0c0) (by decide +kernel) rfl rfl rfl (by decide +kernel)
set_option maxRecDepth 65536 in
theorem w_c4 : (Jvm.Cond.code ({ cls := "com/example/cratewise/cratewise/ranking/Rating", name := "mu", desc := "()D" } : Jvm.MethodName) prog_33_method_2_code (1 : Nat) (Option.some Jvm.ClassFile.FieldType.double)).before args0 about1 = true := code_word (m := ⟨3, 1⟩) (meth := k3m1) (c := k3c1) (by decide +kernel) rfl rfl rfl (by decide +kernel)
def codes1 : List Jvm.Cond := [Jvm.Cond.code x code maxLocals ret, Jvm.Cond.code ({ cls := "com/example/cratewise/cratewise/ranking/Rating", name := "<init>", desc := "(DDD)V" } : Jvm.MethodName) prog_33_method_1_code (7 : Nat) (Option.none : Option Jvm.ClassFile.FieldType), Jvm.Cond.code ({ cls := "java/lang/Record", name := "<init>", desc := "()V" } : Jvm.MethodName) jdk_30_method_1_code (1 : Nat) (Option.none : Option Jvm.ClassFile.FieldType), Jvm.Cond.code ({ cls := "java/lang/Object", name := "<init>", desc := "()V" } : Jvm.MethodName) object_method_1_code (1 : Nat) (Option.none : Option Jvm.ClassFile.FieldType), Jvm.Cond.code ({ cls := "com/example/cratewise/cratewise/ranking/Rating", name := "mu", desc := "()D" } : Jvm.MethodName) prog_33_method_2_code (1 : Nat) (Option.some Jvm.ClassFile.FieldType.double)]
set_option maxRecDepth 65536 in
theorem codes_eq : words1.filter isCode = codes1 := rfl
theorem w_codes : ∀ c ∈ words1.filter isCode, c.before args0 about1 = true := by
  rw [codes_eq]
  intro c hc
  simp only [codes1, List.mem_cons, List.not_mem_nil, or_false] at hc
  rcases hc with rfl | rfl | rfl | rfl | rfl
  · exact w_c0
  · exact w_c1
  · exact w_c2
  · exact w_c3
  · exact w_c4
set_option maxRecDepth 65536 in
theorem w_t1 : (words1.take 24).all (fun c => isCode c || c.before args0 about1) = true := by decide +kernel
set_option maxRecDepth 65536 in
theorem w_t2 : (words1.drop 24).all (fun c => isCode c || c.before args0 about1) = true := by decide +kernel
theorem w_tables : (allAtoms (Jvm.Cond.code x code maxLocals ret :: tables_1)).before args0 about1 = true := by
  rw [allAtoms_all]
  show words1.all (fun c => c.before args0 about1) = true
  refine all_split ?_ w_codes
  rw [← List.take_append_drop 24 words1, List.all_append, w_t1, w_t2]
  rfl
set_option maxRecDepth 65536 in
theorem w_case : (Jvm.Cond.and given_1 narrow_1).before args0 about1 = true := by decide +kernel
theorem w_applies : (headSpec (Jvm.Cond.code x code maxLocals ret :: tables_1) room_1).applies x e0.platform about1 = true :=
  (Spec.applies_iff w_frames).mpr ⟨w_running, w_runnable, w_alone, w_named, w_hears, w_ripe, w_room, w_tables⟩
theorem atStart : AtStart classFile x code maxLocals ret World_1 tables_1 room_1 Calls_1 rest_1 Pre_1 launch0 p0 e0 about1 theMethod args0 below0 :=
  ⟨lists_1, trivial, launch0.admits_env _ _ _, launch0.least_env, fairChoices_fair.cas, fairChoices_fair.clock, w_frames, w_args, w_heap, w_applies, trivial, trivial, w_case⟩
end start1
theorem witness_1 : WitnessClaimed_1 := ⟨start1.p0, start1.e0, start1.about1, start1.theMethod, start1.args0, start1.below0, start1.atStart⟩
end Jvm.Pilot.@@N@@
