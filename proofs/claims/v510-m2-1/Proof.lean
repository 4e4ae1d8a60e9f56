import JvmDerived
import JvmDerived.Pilot.@@N@@Statement
import JvmDerived.Pilot.@@N@@Code
set_option linter.unusedVariables false
set_option linter.unusedSimpArgs false
namespace Jvm.RoadKit
open Sem ClassFile Op Lib Jvm.Stand Jvm.Free Jvm.LawKit
section New
variable {p : Program} {l : Launch} {e : Env} {R : Room} {s : State} {m : MethodId} {args : Array Value} {below : List Frame} {meth : Method} {c : Code} {T : State} {locs : List Loc} {cells slots : Nat}
theorem retI (X : Stand p l e R s m args below meth c T locs cells slots) (hx : p.tables.exec = Jvm.exec) {pc : Nat} {Ls : Array Slot} {z : Int32} {rest : List Value} (hret : meth.sig.returnType = some .int) (hd : decode c.code pc = .ok (.ireturn, 1)) {fs : List Frame}
    (hl : ∀ (f : JFrame) (acts : List Action), f.method = m → f.locked = none → f.entered = [] → (doReturn e (T.setTop f) acts (some (.int z))).1 = T.setFrames fs) : Steps p.tables e below (T.setTop (mkF m pc Ls (.int z :: rest))) (T.setFrames fs) := by
  have hm' : T.vm.method? m = some meth := X.method'
  have hn : narrow .int (.int z) = .int z := rfl
  show Steps p.tables e below (T.setTop { method := m, pc := pc, locals := Ls, stack := _ :: rest, locked := none }) _
  jvm_step X.here [X.here.top, hx, hd, hm', hret, hn]
  first | (intro acts; rw [hl _ acts rfl rfl rfl]) | rw [hl _ _ rfl rfl rfl]
  exact Steps.refl _
end New
end Jvm.RoadKit
namespace Jvm.Pilot.@@N@@
open Jvm Jvm.ClassFile Sem Op Lib Jvm.Free Jvm.Stand Jvm.LawKit Jvm.RoadKit Bundle Jvm.Pilot.@@N@@.Jvm.D
/-! the own kit: a run told backwards (Runs), arrays by a function of the place (OArr), the comparisons of longs -/
def Runs (tb : Tables) (e : Env) (below : List Frame) (R : State → Outcome → Prop) (T : State) (g : JFrame) : Prop := ∃ t o, Steps tb e below (T.setTop g) t ∧ R t o
section Own
variable {tb : Tables} {e : Env} {below : List Frame} {R : State → Outcome → Prop} {T T' : State} {g g' : JFrame}
theorem Runs.back (k : ∀ t, Steps tb e below (T'.setTop g') t → Steps tb e below (T.setTop g) t) (h : Runs tb e below R T' g') : Runs tb e below R T g := by
  obtain ⟨t, o, h1, h2⟩ := h; exact ⟨t, o, k t h1, h2⟩
theorem Runs.trans (k : Steps tb e below (T.setTop g) (T'.setTop g')) (h : Runs tb e below R T' g') : Runs tb e below R T g := by
  obtain ⟨t, o, h1, h2⟩ := h; exact ⟨t, o, Steps.trans k h1, h2⟩
theorem Runs.enter (q : g = g') (h : Runs tb e below R T g') : ∃ t o, Steps tb e below (T.setTop g) t ∧ R t o := by subst q; exact h
theorem Runs.join {α : Type} {P : α → Prop} {F : α → JFrame} (h : ∀ v, P v → Runs tb e below R T (F v)) (k : (∀ v, P v → Runs tb e below R T (F v)) → Runs tb e below R T g) : Runs tb e below R T g := k h
theorem Runs.joinT {α : Type} {P : α → State → Prop} {F : α → JFrame} (h : ∀ v T', P v T' → Runs tb e below R T' (F v)) (k : (∀ v T', P v T' → Runs tb e below R T' (F v)) → Runs tb e below R T g) : Runs tb e below R T g := k h
theorem lcT {x y : Int64} (h : x < y) : lcmpW x y < 0 := by
  have h1 : ¬ y < x := Int64.not_lt.mpr (Int64.le_of_lt h)
  have h2 : ¬ x = y := fun q => by subst q; exact Int64.lt_irrefl h
  simp [lcmpW, h1, h2]
theorem lcF {x y : Int64} (h : ¬ x < y) : ¬ lcmpW x y < 0 := by
  unfold lcmpW
  by_cases h1 : x > y
  · simp only [if_pos h1]; decide
  · have h2 : x = y := Int64.le_antisymm (Int64.not_lt.mp h1) (Int64.not_lt.mp h)
    simp only [if_neg h1, if_pos h2]; decide
theorem lcT' {x y : Int64} (h : y < x) : 0 < lcmpW x y := by
  unfold lcmpW; rw [if_pos h]; decide
theorem lcF' {x y : Int64} (h : ¬ y < x) : ¬ 0 < lcmpW x y := by
  unfold lcmpW
  have h1 : ¬ x > y := h
  simp only [if_neg h1]
  by_cases h2 : x = y
  · simp only [if_pos h2]; decide
  · simp only [if_neg h2]; decide
theorem lcE {x y : Int64} (h : x = y) : lcmpW x y = 0 := by
  have h1 : ¬ x > y := fun q => by subst h; exact Int64.lt_irrefl q
  unfold lcmpW; rw [if_neg h1, if_pos h]
theorem lcN {x y : Int64} (h : ¬ x = y) : ¬ lcmpW x y = 0 := by
  unfold lcmpW
  by_cases h1 : x > y
  · simp only [if_pos h1]; decide
  · simp only [if_neg h1, if_neg h]; decide
def OArr (Z : State) (h : Heap) (a : Addr) (ty : FieldType) (n : Nat) (f : Nat → Value) : Prop := ∃ c : Cell, Arr Z h a c ty ∧ c.slots.size = n ∧ ∀ i, i < n → c.slots[i]? = some (f i)
variable {Z : State} {h h' : Heap} {a b : Addr} {ty : FieldType} {n sl : Nat} {f : Nat → Value} {v : Value} {ws : List Addr}
theorem OArr.lt (F : OArr Z h a ty n f) : a < h.size := by obtain ⟨c, A, -⟩ := F; exact A.lt
theorem OArr.ext (F : OArr Z h a ty n f) (E : Ext h h') : OArr Z h' a ty n f := by obtain ⟨c, A, r⟩ := F; exact ⟨c, A.ext E, r⟩
theorem OArr.other (F : OArr Z h b ty n f) (W : Wr h h' a sl v) (q : b ≠ a) : OArr Z h' b ty n f := by obtain ⟨c, A, r⟩ := F; exact ⟨c, A.other W q, r⟩
theorem OArr.keep (F : OArr Z h a ty n f) (K : Keep h h' ws) (q : a ∉ ws) : OArr Z h' a ty n f := by obtain ⟨c, A, r⟩ := F; exact ⟨c, ⟨K.2.1 a c A.1 q, A.2⟩, r⟩
theorem OArr.congr (F : OArr Z h a ty n f) {f' : Nat → Value} (q : ∀ i, i < n → f i = f' i) : OArr Z h a ty n f' := by obtain ⟨c, A, r1, r2⟩ := F; exact ⟨c, A, r1, fun i hi => by rw [r2 i hi, q i hi]⟩
theorem OArr.set (F : OArr Z h a ty n f) (W : Wr h h' a sl v) : OArr Z h' a ty n (fun i => if i = sl then v else f i) := by
  obtain ⟨c, A, r1, r2⟩ := F
  obtain ⟨cell, e1, -, e3, -⟩ := id W
  cases e1.symm.trans A.1
  refine ⟨_, A.same W, by rw [sz_set]; exact r1, fun i hi => ?_⟩
  by_cases q : i = sl
  · subst q; simp [Cell.setSlot, e3]
  · simp only [if_neg q]; rw [← r2 i hi]; exact Array.getElem?_setIfInBounds_ne (Ne.symm q)
theorem OArr.new {cA : ClassId} {z : Int32} (A : Arr Z h a (newA cA ty z) ty) (q : z.toNatClampNeg = n) (hd : defaultValue ty = v) : OArr Z h a ty n (fun _ => v) :=
  ⟨_, A, by rw [sz_new]; exact q, fun i hi => by subst hd; simp [newA, q, hi]⟩
theorem inbO {j : Int32} {k : Nat} (ng : ¬ j < 0) (e : j.toNatClampNeg = k) (h : k < n) : ¬ (j < 0 ∨ n ≤ j.toNatClampNeg) := fun q => q.elim ng fun r => by rw [e] at r; exact absurd h (Nat.not_lt.mpr r)
theorem readO {c : Cell} {j : Int32} {k : Nat} (H : ∀ i, i < n → c.slots[i]? = some (f i)) (e : j.toNatClampNeg = k) (h : k < n) (q : f k = v) : c.slots[j.toNatClampNeg]? = some v := by rw [e, H k h, q]
theorem hideL {p : Program} {l : Launch} {R : Room} {s : State} {m : MethodId} {args : Array Value} {meth : Method} {c : Code} {locs : List Loc} {cells slots n0 : Nat} (X : Stand p l e R s m args below meth c T locs cells slots) (N : Fr n0 locs) : ∃ L, Stand p l e R s m args below meth c T L cells slots ∧ Fr n0 L := ⟨_, X, N⟩
theorem lti {x y : Int32} : x < y ↔ x.toInt < y.toInt := Int32.lt_iff_toInt_lt
theorem ltl {x y : Int64} : x < y ↔ x.toInt < y.toInt := Int64.lt_iff_toInt_lt
theorem eqi {x y : Int32} : x = y ↔ x.toInt = y.toInt := Int32.toInt_inj.symm
theorem eql {x y : Int64} : x = y ↔ x.toInt = y.toInt := Int64.toInt_inj.symm
end Own

theorem add32 {x y : Int32} (h1 : -2147483648 ≤ x.toInt + y.toInt) (h2 : x.toInt + y.toInt < 2147483648) : (x + y).toInt = x.toInt + y.toInt := by
  rw [Int32.toInt_add]; exact Int.bmod_eq_of_le (by omega) (by omega)
theorem sub32 {x y : Int32} (h1 : -2147483648 ≤ x.toInt - y.toInt) (h2 : x.toInt - y.toInt < 2147483648) : (x - y).toInt = x.toInt - y.toInt := by
  rw [Int32.toInt_sub]; exact Int.bmod_eq_of_le (by omega) (by omega)
theorem add64 {x y : Int64} (h1 : -9223372036854775808 ≤ x.toInt + y.toInt) (h2 : x.toInt + y.toInt < 9223372036854775808) : (x + y).toInt = x.toInt + y.toInt := by
  rw [Int64.toInt_add]; exact Int.bmod_eq_of_le (by omega) (by omega)
theorem sub64 {x y : Int64} (h1 : -9223372036854775808 ≤ x.toInt - y.toInt) (h2 : x.toInt - y.toInt < 9223372036854775808) : (x - y).toInt = x.toInt - y.toInt := by
  rw [Int64.toInt_sub]; exact Int.bmod_eq_of_le (by omega) (by omega)
theorem l2i' {x : Int64} (h1 : -2147483648 ≤ x.toInt) (h2 : x.toInt < 2147483648) : x.toInt32.toInt = x.toInt := by
  rw [Int64.toInt_toInt32]; exact Int.bmod_eq_of_le (by omega) (by omega)
theorem bd32 (x : Int32) : -2147483648 ≤ x.toInt ∧ x.toInt < 2147483648 := ⟨Int32.le_toInt x, Int32.toInt_lt x⟩
theorem takeE {c e p : Int32} : c.toInt64 < e.toInt64 + p.toInt64 ↔ c.toInt < e.toInt + p.toInt := by
  have b1 := bd32 e; have b2 := bd32 p
  rw [ltl, add64 (by rw [c_i2l, c_i2l]; omega) (by rw [c_i2l, c_i2l]; omega), c_i2l, c_i2l, c_i2l]
theorem takeC {c : Int32} {x y : Int64} (h1 : -9223372036854775808 ≤ x.toInt + y.toInt) (h2 : x.toInt + y.toInt < 9223372036854775808) : c.toInt64 < x + y ↔ c.toInt < x.toInt + y.toInt := by
  rw [ltl, add64 h1 h2, c_i2l]
theorem z32 : (0 : Int32).toInt = 0 := by decide
theorem o32 : (1 : Int32).toInt = 1 := by decide
theorem z64 : (0 : Int64).toInt = 0 := by decide
theorem o64 : (1 : Int64).toInt = 1 := by decide
def g4 (n y : Int32) : Int32 := n + ((y.toUInt32 >>> ((1 : Int32) &&& 31).toUInt32).toInt32)
def g3 (n y : Int32) : Int32 := if (4 : Int32) < y then g4 (n + (2 : Int32)) ((y.toUInt32 >>> ((2 : Int32) &&& 31).toUInt32).toInt32) else g4 n y
def g2 (n y : Int32) : Int32 := if (16 : Int32) < y then g3 (n + (4 : Int32)) ((y.toUInt32 >>> ((4 : Int32) &&& 31).toUInt32).toInt32) else g3 n y
def g1 (n y : Int32) : Int32 := if (256 : Int32) < y then g2 (n + (8 : Int32)) ((y.toUInt32 >>> ((8 : Int32) &&& 31).toUInt32).toInt32) else g2 n y
def g0 (y : Int32) : Int32 := if (65536 : Int32) < y then g1 ((1 : Int32) + (16 : Int32)) ((y.toUInt32 >>> ((16 : Int32) &&& 31).toUInt32).toInt32) else g1 (1 : Int32) y
def ntzT (y : Int32) : Int32 := if (0 : Int32) < y then g0 y else y &&& (32 : Int32)
def nI (x : Int32) : Int32 := ntzT ((x ^^^ (-1 : Int32)) &&& (x - (1 : Int32)))
def ntzL (w : Int64) : Int32 := if w.toInt32 = (0 : Int32) then (32 : Int32) + nI (((w.toUInt64 >>> ((32 : Int32) &&& 0x3f).toInt64.toUInt64).toInt64).toInt32) else nI w.toInt32
theorem ntzT_lit : ∀ t : Fin 32, ntzT (Int32.ofNat (2 ^ t.val - 1)) = Int32.ofNat t.val := by decide
theorem own_lowN {X t : Nat} (h0 : X % 2 ^ t = 0) (h1 : X / 2 ^ t % 2 = 1) (hX : X < 2 ^ 32) : (2 ^ 32 - (X + 1)) &&& (X - 1) = 2 ^ t - 1 := by
  obtain ⟨m, hm⟩ : ∃ m, X = 2 ^ t * (2 * m + 1) := ⟨X / 2 ^ t / 2, by
    have := Nat.div_add_mod X (2 ^ t)
    rw [h0] at this
    have h2 : X / 2 ^ t = 2 * (X / 2 ^ t / 2) + 1 := by omega
    rw [← h2]; omega⟩
  have hp : 0 < 2 ^ t := Nat.two_pow_pos t
  have e1 : X - 1 = 2 ^ t * (2 * m) + (2 ^ t - 1) := by rw [hm, Nat.mul_add, Nat.mul_one]; omega
  apply Nat.eq_of_testBit_eq
  intro j
  rw [Nat.testBit_and, Nat.testBit_two_pow_sub_succ hX, e1, Nat.testBit_two_pow_mul_add _ (by omega : 2 ^ t - 1 < 2 ^ t), Nat.testBit_two_pow_sub_one]
  by_cases hj : j < t
  · have ht : t < 32 := by
      rcases Nat.lt_or_ge t 32 with z | z
      · exact z
      · exfalso
        have : 2 ^ 32 ≤ 2 ^ t := Nat.pow_le_pow_right (by decide) z
        have : 2 ^ t ≤ X := by rw [hm]; exact Nat.le_mul_of_pos_right _ (by omega)
        omega
    have hb : X.testBit j = false := by rw [hm, Nat.testBit_two_pow_mul]; simp; omega
    rw [if_pos hj, hb]
    simp [hj]; omega
  · rw [if_neg hj]
    have hb : X.testBit j = (2 * m + 1).testBit (j - t) := by rw [hm, Nat.testBit_two_pow_mul]; simp; omega
    rw [hb]
    simp only [hj, decide_false]
    cases hd : j - t with
    | zero => simp
    | succ s =>
      have a : (2 * m + 1).testBit (s + 1) = m.testBit s := by rw [Nat.testBit_succ]; congr 1; omega
      have b : (2 * m).testBit (s + 1) = m.testBit s := by rw [Nat.testBit_succ]; congr 1; omega
      rw [a, b]; cases m.testBit s <;> simp
theorem own_low {x : Int32} {t : Nat} (h0 : x.toBitVec.toNat % 2 ^ t = 0) (h1 : x.toBitVec.toNat / 2 ^ t % 2 = 1) : (x ^^^ (-1 : Int32)) &&& (x - (1 : Int32)) = Int32.ofNat (2 ^ t - 1) := by
  have hX := x.toBitVec.isLt
  have hpos : 0 < x.toBitVec.toNat := by
    rcases Nat.eq_zero_or_pos x.toBitVec.toNat with z | z
    · rw [z] at h1; simp at h1
    · exact z
  have e1 : (x ^^^ (-1 : Int32)).toBitVec.toNat = 2 ^ 32 - (x.toBitVec.toNat + 1) := by
    have : (x ^^^ (-1 : Int32)).toBitVec = ~~~ x.toBitVec := by
      rw [Int32.toBitVec_xor]
      show x.toBitVec ^^^ BitVec.allOnes 32 = _
      exact BitVec.xor_allOnes
    rw [this, BitVec.toNat_not]; omega
  have e2 : (x - (1 : Int32)).toBitVec.toNat = x.toBitVec.toNat - 1 := by
    rw [Int32.toBitVec_sub]
    show (x.toBitVec - 1#32).toNat = _
    rw [BitVec.toNat_sub]
    show (2 ^ 32 - 1 + x.toBitVec.toNat) % 2 ^ 32 = _
    omega
  have hl := own_lowN h0 h1 hX
  apply Int32.toBitVec_inj.mp
  apply BitVec.eq_of_toNat_eq
  rw [Int32.toBitVec_and, BitVec.toNat_and, e1, e2, hl]
  show _ = (BitVec.ofNat 32 (2 ^ t - 1)).toNat
  rw [BitVec.toNat_ofNat, Nat.mod_eq_of_lt]
  rw [← hl]
  exact Nat.lt_of_le_of_lt Nat.and_le_right (by omega)
theorem nI_eq {x : Int32} {t : Nat} (ht : t < 32) (h0 : x.toBitVec.toNat % 2 ^ t = 0) (h1 : x.toBitVec.toNat / 2 ^ t % 2 = 1) : nI x = Int32.ofNat t := by
  unfold nI; rw [own_low h0 h1]; exact ntzT_lit ⟨t, ht⟩
theorem ntzL_eq {w : Int64} {t : Nat} (ht : t < 64) (h0 : w.toBitVec.toNat % 2 ^ t = 0) (h1 : w.toBitVec.toNat / 2 ^ t % 2 = 1) : ntzL w = Int32.ofNat t := by
  have hW := w.toBitVec.isLt
  have e1 : w.toInt32.toBitVec.toNat = w.toBitVec.toNat % 2 ^ 32 := by
    show (w.toBitVec.signExtend 32).toNat = _
    rw [BitVec.signExtend_eq_setWidth_of_le _ (by decide), BitVec.toNat_setWidth]
  have e2 : (((w.toUInt64 >>> ((32 : Int32) &&& 0x3f).toInt64.toUInt64).toInt64).toInt32).toBitVec.toNat = w.toBitVec.toNat / 2 ^ 32 % 2 ^ 32 := by
    show (((w.toUInt64 >>> ((32 : Int32) &&& 0x3f).toInt64.toUInt64).toBitVec).signExtend 32).toNat = _
    rw [BitVec.signExtend_eq_setWidth_of_le _ (by decide), BitVec.toNat_setWidth]
    show (w.toUInt64 >>> ((32 : Int32) &&& 0x3f).toInt64.toUInt64).toNat % 2 ^ 32 = _
    rw [UInt64.toNat_shiftRight, show (((32 : Int32) &&& 0x3f).toInt64.toUInt64).toNat % 64 = 32 from by decide, Nat.shiftRight_eq_div_pow]; rfl
  unfold ntzL
  generalize w.toBitVec.toNat = W at *
  by_cases h : t < 32
  · have k0 : W % 2 ^ 32 % 2 ^ t = 0 := by rw [Nat.mod_mod_of_dvd _ (Nat.pow_dvd_pow 2 (by omega))]; exact h0
    have k1 : W % 2 ^ 32 / 2 ^ t % 2 = 1 := by
      rw [show (32 : Nat) = t + (32 - t) from by omega, Nat.pow_add, Nat.mod_mul_right_div_self]
      rw [Nat.mod_mod_of_dvd _ ⟨2 ^ (31 - t), by rw [← Nat.pow_succ', Nat.succ_eq_add_one, show 31 - t + 1 = 32 - t from by omega]⟩]
      exact h1
    rw [if_neg, nI_eq h (by rw [e1]; exact k0) (by rw [e1]; exact k1)]
    intro z
    rw [z] at e1
    have e3 : (0 : Int32).toBitVec.toNat = 0 := rfl
    rw [e3] at e1
    rw [← e1] at k1; simp at k1
  · have k2 : W % 2 ^ 32 = 0 := by
      have d : 2 ^ 32 ∣ W := Nat.dvd_trans (Nat.pow_dvd_pow 2 (by omega)) (Nat.dvd_of_mod_eq_zero h0)
      exact Nat.mod_eq_zero_of_dvd d
    have z : w.toInt32 = (0 : Int32) := Int32.toBitVec_inj.mp (BitVec.eq_of_toNat_eq (by rw [e1, k2]; rfl))
    obtain ⟨s, rfl⟩ : ∃ s, t = 32 + s := ⟨t - 32, by omega⟩
    rw [Nat.pow_add] at h0 h1
    have k3 : W / 2 ^ 32 % 2 ^ 32 = W / 2 ^ 32 := Nat.mod_eq_of_lt (by omega)
    rw [k3] at e2
    rw [if_pos z, nI_eq (t := s) (by omega) (by rw [e2]; rw [← Nat.mod_mul_right_div_self, h0]) (by rw [e2, Nat.div_div_eq_div_mul]; exact h1)]
    have : ∀ s : Fin 32, (32 : Int32) + Int32.ofNat s.val = Int32.ofNat (32 + s.val) := by decide
    exact this ⟨s, by omega⟩
def wdN : List Nat → Nat → Nat → Nat
  | [], _, _ => 0
  | v :: S, i, j => if v / 64 ^ (i + 1) = j then wdN S i j ||| 2 ^ (v / 64 ^ i % 64) else wdN S i j
def wd (S : List Nat) (i j : Nat) : Int64 := Int64.ofNat (wdN S i j)
theorem wdN_bit (S : List Nat) (i j t : Nat) : (wdN S i j).testBit t = true ↔ ∃ v ∈ S, v / 64 ^ (i + 1) = j ∧ v / 64 ^ i % 64 = t := by
  induction S with
  | nil => simp [wdN]
  | cons v S ih =>
    unfold wdN
    by_cases h : v / 64 ^ (i + 1) = j
    · rw [if_pos h, Nat.testBit_or, Bool.or_eq_true, ih, Nat.testBit_two_pow, decide_eq_true_eq]
      constructor
      · rintro (⟨u, hu, h1, h2⟩ | h2)
        · exact ⟨u, List.mem_cons_of_mem _ hu, h1, h2⟩
        · exact ⟨v, List.mem_cons_self, h, h2⟩
      · rintro ⟨u, hu, h1, h2⟩
        rcases List.mem_cons.mp hu with rfl | hu
        · exact Or.inr h2
        · exact Or.inl ⟨u, hu, h1, h2⟩
    · rw [if_neg h, ih]
      constructor
      · rintro ⟨u, hu, h1, h2⟩; exact ⟨u, List.mem_cons_of_mem _ hu, h1, h2⟩
      · rintro ⟨u, hu, h1, h2⟩
        rcases List.mem_cons.mp hu with rfl | hu
        · exact absurd h1 h
        · exact ⟨u, hu, h1, h2⟩
theorem wdN_lt (S : List Nat) (i j : Nat) : wdN S i j < 2 ^ 64 := by
  induction S with
  | nil => simp [wdN]
  | cons v S ih =>
    unfold wdN
    split
    · exact Nat.or_lt_two_pow ih (Nat.pow_lt_pow_right (by decide) (Nat.mod_lt _ (by decide)))
    · exact ih
theorem wd_nat (S : List Nat) (i j : Nat) : (wd S i j).toBitVec.toNat = wdN S i j := by
  show (BitVec.ofNat 64 (wdN S i j)).toNat = _
  rw [BitVec.toNat_ofNat]; exact Nat.mod_eq_of_lt (wdN_lt S i j)
theorem wd_ext {x : Int64} {S : List Nat} {i j : Nat} (h : ∀ t, t < 64 → (x.toBitVec.toNat.testBit t = true ↔ ∃ v ∈ S, v / 64 ^ (i + 1) = j ∧ v / 64 ^ i % 64 = t)) : x = wd S i j := by
  apply Int64.toBitVec_inj.mp
  apply BitVec.eq_of_toNat_eq
  rw [wd_nat]
  apply Nat.eq_of_testBit_eq
  intro t
  by_cases ht : t < 64
  · rw [Bool.eq_iff_iff, h t ht, wdN_bit]
  · have p : 2 ^ 64 ≤ 2 ^ t := Nat.pow_le_pow_right (by decide) (by omega)
    rw [Nat.testBit_lt_two_pow (Nat.lt_of_lt_of_le x.toBitVec.isLt p), Nat.testBit_lt_two_pow (Nat.lt_of_lt_of_le (wdN_lt S i j) p)]
theorem wd_zero {S : List Nat} {i j : Nat} : wd S i j = (0 : Int64) ↔ ∀ v ∈ S, v / 64 ^ (i + 1) ≠ j := by
  constructor
  · intro h v hv q
    have a : (wdN S i j).testBit (v / 64 ^ i % 64) = true := (wdN_bit S i j _).mpr ⟨v, hv, q, rfl⟩
    rw [← wd_nat, h] at a
    have b : (0 : Int64).toBitVec.toNat = 0 := rfl
    rw [b] at a; simp at a
  · intro h
    refine (wd_ext (fun t ht => ?_)).symm
    have b : (0 : Int64).toBitVec.toNat = 0 := rfl
    rw [b]
    constructor
    · intro z; simp at z
    · rintro ⟨v, hv, h1, -⟩; exact absurd h1 (h v hv)
theorem bit_nat {q : Int32} {x : Nat} (hq : q.toInt = (x : Int)) : ((1 : Int64) <<< (q &&& 0x3f).toInt64).toBitVec.toNat = 2 ^ (x % 64) := by
  have hk : q.toBitVec.toNat % 64 = x % 64 := by
    have e : q.toInt = q.toBitVec.toInt := rfl
    have l := q.toBitVec.isLt
    rw [e, BitVec.toInt_eq_toNat_cond] at hq
    split at hq <;> omega
  obtain ⟨e1, e2⟩ := sm64 q (x % 64) hk
  show ((1 : Int64).toBitVec <<< ((q &&& 0x3f).toInt64.toBitVec.smod 64)).toNat = _
  rw [e1, BitVec.shiftLeft_eq', smod64 _ e2, BitVec.toNat_shiftLeft]
  show 1 <<< (x % 64) % 2 ^ 64 = _
  rw [Nat.shiftLeft_eq, Nat.one_mul]
  exact Nat.mod_eq_of_lt (Nat.pow_lt_pow_right (by decide) e2)
theorem add_hit {S : List Nat} {v i : Nat} {q : Int32} (hq : q.toInt = ((v / 64 ^ i : Nat) : Int)) : (wd S i (v / 64 ^ (i + 1)) ||| ((1 : Int64) <<< (q &&& 0x3f).toInt64)) = wd (v :: S) i (v / 64 ^ (i + 1)) := by
  apply Int64.toBitVec_inj.mp
  apply BitVec.eq_of_toNat_eq
  rw [Int64.toBitVec_or, BitVec.toNat_or, wd_nat, wd_nat, bit_nat hq]
  unfold wdN
  rw [if_pos rfl]
  cases S <;> rfl
theorem add_miss {S : List Nat} {v i j : Nat} (h : v / 64 ^ (i + 1) ≠ j) : wd (v :: S) i j = wd S i j := by
  unfold wd
  rw [show wdN (v :: S) i j = wdN S i j from if_neg h]
theorem up_div {v m i k : Nat} (h : v / 64 ^ i = m / 64 ^ i) (hk : i ≤ k) : v / 64 ^ k = m / 64 ^ k := by
  obtain ⟨d, rfl⟩ : ∃ d, k = i + d := ⟨k - i, by omega⟩
  rw [Nat.pow_add, ← Nat.div_div_eq_div_mul, ← Nat.div_div_eq_div_mul, h]
theorem add_stop {S : List Nat} {v i k j : Nat} (h : wd S i (v / 64 ^ (i + 1)) ≠ (0 : Int64)) (hk : i < k) : wd (v :: S) k j = wd S k j := by
  by_cases hj : v / 64 ^ (k + 1) = j
  · have : ∃ u ∈ S, u / 64 ^ (i + 1) = v / 64 ^ (i + 1) := by
      rcases Classical.em (∃ u ∈ S, u / 64 ^ (i + 1) = v / 64 ^ (i + 1)) with z | z
      · exact z
      · exact absurd (wd_zero.mpr fun u hu q => z ⟨u, hu, q⟩) h
    obtain ⟨u, hu, e⟩ := this
    refine (wd_ext (fun t ht => ?_)).symm
    rw [wd_nat, wdN_bit]
    constructor
    · rintro ⟨w, hw, h1, h2⟩; exact ⟨w, List.mem_cons_of_mem _ hw, h1, h2⟩
    · rintro ⟨w, hw, h1, h2⟩
      rcases List.mem_cons.mp hw with rfl | hw
      · exact ⟨u, hu, by rw [up_div e (by omega)]; exact h1, by rw [up_div e (by omega)]; exact h2⟩
      · exact ⟨w, hw, h1, h2⟩
  · exact add_miss hj
theorem rem_hit {S S' : List Nat} {m i : Nat} {q : Int32} (hq : q.toInt = ((m / 64 ^ i : Nat) : Int)) (hS : ∀ v, v ∈ S' ↔ v ∈ S ∧ v ≠ m) (hn : ∀ v ∈ S', v / 64 ^ i ≠ m / 64 ^ i) :
    (wd S i (m / 64 ^ (i + 1)) &&& (((1 : Int64) <<< (q &&& 0x3f).toInt64) ^^^ (-1 : Int64))) = wd S' i (m / 64 ^ (i + 1)) := by
  refine wd_ext (fun t ht => ?_)
  have e : (((1 : Int64) <<< (q &&& 0x3f).toInt64) ^^^ (-1 : Int64)).toBitVec.toNat = 2 ^ 64 - (2 ^ (m / 64 ^ i % 64) + 1) := by
    have z : (((1 : Int64) <<< (q &&& 0x3f).toInt64) ^^^ (-1 : Int64)).toBitVec = ~~~ ((1 : Int64) <<< (q &&& 0x3f).toInt64).toBitVec := by
      rw [Int64.toBitVec_xor]
      show _ ^^^ BitVec.allOnes 64 = _
      exact BitVec.xor_allOnes
    rw [z, BitVec.toNat_not, bit_nat hq]; omega
  rw [Int64.toBitVec_and, BitVec.toNat_and, e, wd_nat, Nat.testBit_and, Nat.testBit_two_pow_sub_succ (Nat.pow_lt_pow_right (by decide) (Nat.mod_lt _ (by decide))), Nat.testBit_two_pow, Bool.and_eq_true, wdN_bit]
  simp only [ht, decide_true, Bool.true_and, Bool.not_eq_true', decide_eq_false_iff_not]
  constructor
  · rintro ⟨⟨v, hv, h1, h2⟩, h3⟩
    refine ⟨v, (hS v).mpr ⟨hv, fun z => h3 (by rw [← h2, z])⟩, h1, h2⟩
  · rintro ⟨v, hv, h1, h2⟩
    refine ⟨⟨v, ((hS v).mp hv).1, h1, h2⟩, fun z => hn v hv ?_⟩
    have a : v / 64 ^ i / 64 = m / 64 ^ i / 64 := by rw [Nat.div_div_eq_div_mul, Nat.div_div_eq_div_mul, ← Nat.pow_succ]; exact h1
    omega
theorem rem_miss {S S' : List Nat} {m i j : Nat} (hS : ∀ v, v ∈ S' ↔ v ∈ S ∧ v ≠ m) (h : m / 64 ^ (i + 1) ≠ j) : wd S i j = wd S' i j := by
  refine wd_ext (fun t ht => ?_)
  rw [wd_nat, wdN_bit]
  constructor
  · rintro ⟨v, hv, h1, h2⟩; exact ⟨v, (hS v).mpr ⟨hv, fun z => h (by rw [← z]; exact h1)⟩, h1, h2⟩
  · rintro ⟨v, hv, h1, h2⟩; exact ⟨v, ((hS v).mp hv).1, h1, h2⟩
theorem rem_stop {S S' : List Nat} {m i k j : Nat} (hS : ∀ v, v ∈ S' ↔ v ∈ S ∧ v ≠ m) (h : wd S' i (m / 64 ^ (i + 1)) ≠ (0 : Int64)) (hk : i < k) : wd S k j = wd S' k j := by
  have : ∃ u ∈ S', u / 64 ^ (i + 1) = m / 64 ^ (i + 1) := by
    rcases Classical.em (∃ u ∈ S', u / 64 ^ (i + 1) = m / 64 ^ (i + 1)) with z | z
    · exact z
    · exact absurd (wd_zero.mpr fun u hu q => z ⟨u, hu, q⟩) h
  obtain ⟨u, hu, e⟩ := this
  refine wd_ext (fun t ht => ?_)
  rw [wd_nat, wdN_bit]
  constructor
  · rintro ⟨v, hv, h1, h2⟩
    by_cases z : v = m
    · subst z; exact ⟨u, hu, by rw [up_div e (by omega)]; exact h1, by rw [up_div e (by omega)]; exact h2⟩
    · exact ⟨v, (hS v).mpr ⟨hv, z⟩, h1, h2⟩
  · rintro ⟨v, hv, h1, h2⟩; exact ⟨v, ((hS v).mp hv).1, h1, h2⟩
theorem ntz_wd {S : List Nat} {m i : Nat} (hm : m ∈ S) (hmin : ∀ v ∈ S, m ≤ v) : ntzL (wd S i (m / 64 ^ (i + 1))) = Int32.ofNat (m / 64 ^ i % 64) := by
  have hb := wdN_bit S i (m / 64 ^ (i + 1))
  refine ntzL_eq (Nat.mod_lt _ (by decide)) ?_ ?_
  · rw [wd_nat]
    apply Nat.eq_of_testBit_eq
    intro s
    rw [Nat.testBit_mod_two_pow, Nat.zero_testBit]
    by_cases hs : s < m / 64 ^ i % 64
    · have : (wdN S i (m / 64 ^ (i + 1))).testBit s = false := by
        rw [Bool.eq_false_iff]
        intro z
        obtain ⟨v, hv, h1, h2⟩ := (hb s).mp z
        have a : v / 64 ^ i / 64 = m / 64 ^ i / 64 := by rw [Nat.div_div_eq_div_mul, Nat.div_div_eq_div_mul, ← Nat.pow_succ]; exact h1
        have b : v / 64 ^ i < m / 64 ^ i := by omega
        have c := Nat.div_le_div_right (c := 64 ^ i) (hmin v hv)
        omega
      rw [this]; simp
    · simp [hs]
  · rw [wd_nat]
    have z := (hb (m / 64 ^ i % 64)).mpr ⟨m, hm, rfl, rfl⟩
    rw [Nat.testBit_eq_decide_div_mod_eq, decide_eq_true_eq] at z
    exact z

theorem Runs.loop {tb : Tables} {e : Env} {below : List Frame} {R : State → Outcome → Prop} {T : State} {g : JFrame} {α : Type} {P : Nat → α → State → Prop} {F : α → JFrame} (step : ∀ k, (∀ k', k' < k → ∀ a T', P k' a T' → Runs tb e below R T' (F a)) → ∀ a T', P k a T' → Runs tb e below R T' (F a)) (start : (∀ k a T', P k a T' → Runs tb e below R T' (F a)) → Runs tb e below R T g) : Runs tb e below R T g :=
  start fun k => Nat.strongRecOn k fun k ih => step k ih
def SF (Z : State) (h : Heap) (n0 : Nat) (r0 lv : Addr) (A : Nat → Addr) (sz : Nat → Nat) (D : Nat) (F : Nat → Nat → Int64) : Prop :=
  Exa Z h r0 "com/example/tradewheel/tradewheel/SmallestFirst" ∧ Fld Z h r0 "com/example/tradewheel/tradewheel/SmallestFirst" "levels" "[[J" (.ref lv) ∧ OArr Z h lv (.array .long) D (fun i => Value.ref (A i)) ∧ (∀ i, i < D → n0 ≤ A i ∧ OArr Z h (A i) .long (sz i) (fun j => Value.long (F i j))) ∧ (∀ i j, i < D → j < D → i ≠ j → A i ≠ A j) ∧ (∀ i, i < D → A i ≠ lv ∧ A i ≠ r0)
theorem SF.congr {Z : State} {h : Heap} {n0 : Nat} {r0 lv : Addr} {A : Nat → Addr} {sz : Nat → Nat} {D : Nat} {F F' : Nat → Nat → Int64} (H : SF Z h n0 r0 lv A sz D F) (q : ∀ i, i < D → ∀ j, F i j = F' i j) : SF Z h n0 r0 lv A sz D F' := by
  obtain ⟨h1, h2, h3, h4, h5, h6⟩ := H
  exact ⟨h1, h2, h3, fun i hi => ⟨(h4 i hi).1, OArr.congr (h4 i hi).2 fun j _ => by rw [q i hi j]⟩, h5, h6⟩
theorem SF.set {Z : State} {h h' : Heap} {n0 : Nat} {r0 lv : Addr} {A : Nat → Addr} {sz : Nat → Nat} {D : Nat} {F : Nat → Nat → Int64} {i j : Nat} {w : Int64} (H : SF Z h n0 r0 lv A sz D F) (hi : i < D) (W : Wr h h' (A i) j (.long w)) : SF Z h' n0 r0 lv A sz D (fun i' j' => if i' = i ∧ j' = j then w else F i' j') := by
  obtain ⟨h1, h2, h3, h4, h5, h6⟩ := H
  refine ⟨Exa.wr W h1, Fld.other W h2 (Or.inl (Ne.symm (h6 i hi).2)), h3.other W (Ne.symm (h6 i hi).1), fun i' hi' => ⟨(h4 i' hi').1, ?_⟩, h5, h6⟩
  by_cases q : i' = i
  · subst q
    refine OArr.congr (OArr.set (h4 i' hi').2 W) fun j' _ => ?_
    by_cases z : j' = j
    · simp [z]
    · simp [z]
  · refine OArr.congr (OArr.other (h4 i' hi').2 W (h5 i' i hi' hi q)) fun j' _ => ?_
    simp [q]
theorem ush6 {q : Int32} {W : Nat} (h : q.toInt = (W : Int)) (hW : W < 2147483648) : ((q.toUInt32 >>> ((6 : Int32) &&& 31).toUInt32).toInt32).toInt = ((W / 64 : Nat) : Int) := by
  rw [c_iushr q 6 6 (by decide) (by decide), h]
  have p6 : ((2 ^ 6 : Nat) : Int) = 64 := by decide
  rw [p6]; omega
theorem clampI {q : Int32} {x : Nat} (h : q.toInt = (x : Int)) : q.toNatClampNeg = x ∧ ¬ q < 0 := by
  have n : ¬ q < 0 := by rw [lti, z32]; omega
  have b := nat_of n
  exact ⟨by omega, n⟩
def Fi (v : Nat) (S : List Nat) (i i' j' : Nat) : Int64 := if i' < i then wd (v :: S) i' j' else wd S i' j'
theorem Fi_self (v : Nat) (S : List Nat) (i j : Nat) : Fi v S i i j = wd S i j := if_neg (Nat.lt_irrefl _)
theorem addEnd {v : Nat} {S : List Nat} {i : Nat} (h : ¬ wd S i (v / 64 ^ (i + 1)) = (0 : Int64)) (i' j' : Nat) : (if i' = i ∧ j' = v / 64 ^ (i + 1) then wd (v :: S) i (v / 64 ^ (i + 1)) else Fi v S i i' j') = wd (v :: S) i' j' := by
  by_cases z : i' = i ∧ j' = v / 64 ^ (i + 1)
  · rw [if_pos z, z.1, z.2]
  · rw [if_neg z]
    unfold Fi
    by_cases y : i' < i
    · rw [if_pos y]
    · rw [if_neg y]
      by_cases x : i' = i
      · subst x; exact (add_miss fun q => z ⟨rfl, q.symm⟩).symm
      · exact (add_stop h (by omega)).symm
theorem addNext {v : Nat} {S : List Nat} {i : Nat} (i' j' : Nat) : (if i' = i ∧ j' = v / 64 ^ (i + 1) then wd (v :: S) i (v / 64 ^ (i + 1)) else Fi v S i i' j') = Fi v S (i + 1) i' j' := by
  by_cases z : i' = i ∧ j' = v / 64 ^ (i + 1)
  · rw [if_pos z, z.1, z.2]; exact (if_pos (Nat.lt_succ_self i)).symm
  · rw [if_neg z]
    unfold Fi
    by_cases y : i' < i
    · rw [if_pos y, if_pos (by omega)]
    · rw [if_neg y]
      by_cases x : i' = i
      · subst x; rw [if_pos (Nat.lt_succ_self _)]; exact (add_miss fun q => z ⟨rfl, q.symm⟩).symm
      · rw [if_neg (by omega)]
theorem div_up {q : Int32} {v i : Nat} (hq : q.toInt = ((v / 64 ^ i : Nat) : Int)) (hv : v < 2147483648) : ((q.toUInt32 >>> ((6 : Int32) &&& 31).toUInt32).toInt32).toInt = ((v / 64 ^ (i + 1) : Nat) : Int) := by
  rw [ush6 hq (Nat.lt_of_le_of_lt (Nat.div_le_self _ _) hv), Nat.div_div_eq_div_mul, ← Nat.pow_succ]
def Gi (S S' : List Nat) (i i' j' : Nat) : Int64 := if i' < i then wd S' i' j' else wd S i' j'
theorem Gi_self (S S' : List Nat) (i j : Nat) : Gi S S' i i j = wd S i j := if_neg (Nat.lt_irrefl _)
theorem remEnd {m : Nat} {S S' : List Nat} {i : Nat} (hS : ∀ v, v ∈ S' ↔ v ∈ S ∧ v ≠ m) (h : ¬ wd S' i (m / 64 ^ (i + 1)) = (0 : Int64)) (i' j' : Nat) : (if i' = i ∧ j' = m / 64 ^ (i + 1) then wd S' i (m / 64 ^ (i + 1)) else Gi S S' i i' j') = wd S' i' j' := by
  by_cases z : i' = i ∧ j' = m / 64 ^ (i + 1)
  · rw [if_pos z, z.1, z.2]
  · rw [if_neg z]
    unfold Gi
    by_cases y : i' < i
    · rw [if_pos y]
    · rw [if_neg y]
      by_cases x : i' = i
      · subst x; exact rem_miss hS fun q => z ⟨rfl, q.symm⟩
      · exact rem_stop hS h (by omega)
theorem remNext {m : Nat} {S S' : List Nat} {i : Nat} (hS : ∀ v, v ∈ S' ↔ v ∈ S ∧ v ≠ m) (i' j' : Nat) : (if i' = i ∧ j' = m / 64 ^ (i + 1) then wd S' i (m / 64 ^ (i + 1)) else Gi S S' i i' j') = Gi S S' (i + 1) i' j' := by
  by_cases z : i' = i ∧ j' = m / 64 ^ (i + 1)
  · rw [if_pos z, z.1, z.2]; exact (if_pos (Nat.lt_succ_self i)).symm
  · rw [if_neg z]
    unfold Gi
    by_cases y : i' < i
    · rw [if_pos y, if_pos (by omega)]
    · rw [if_neg y]
      by_cases x : i' = i
      · subst x; rw [if_pos (Nat.lt_succ_self _)]; exact rem_miss hS fun q => z ⟨rfl, q.symm⟩
      · rw [if_neg (by omega)]
theorem idx_dn {ix : Int32} {m a : Nat} (h : ix.toInt = ((m / 64 ^ (a + 1) : Nat) : Int)) (hm : m < 2147483648) : ((ix <<< ((6 : Int32) &&& 31)) + Int32.ofNat (m / 64 ^ a % 64)).toInt = ((m / 64 ^ a : Nat) : Int) := by
  have e : m / 64 ^ (a + 1) = m / 64 ^ a / 64 := by rw [Nat.div_div_eq_div_mul, ← Nat.pow_succ]
  have b : m / 64 ^ a ≤ m := Nat.div_le_self _ _
  rw [e] at h
  generalize m / 64 ^ a = x at *
  have s := c_ishl ix 6 6 (by decide)
  rw [h, show ((2 ^ 6 : Nat) : Int) = 64 from rfl] at s
  have t := bd32 (ix <<< ((6 : Int32) &&& 31))
  have sv : (ix <<< ((6 : Int32) &&& 31)).toInt = ((x / 64 : Nat) : Int) * 64 := by omega
  have o : (Int32.ofNat (x % 64)).toInt = ((x % 64 : Nat) : Int) := Int32.toInt_ofNat_of_lt (by omega)
  rw [add32 (by omega) (by omega), sv, o]; omega
def maxF (a b : Int32) : Int32 := if a < b then b else a
def QArr (Z : State) (h : Heap) (a : Addr) (ty : FieldType) (n : Nat) (f : Nat → Value) (kA : ClassId) : Prop := ∃ c : Cell, Arr Z h a c ty ∧ c.cls = kA ∧ c.slots.size = n ∧ ∀ i, i < n → c.slots[i]? = some (f i)
section Qs
variable {Z : State} {h h' : Heap} {a b : Addr} {ty : FieldType} {n sl : Nat} {f : Nat → Value} {v : Value} {kA : ClassId}
theorem QArr.lt (F : QArr Z h a ty n f kA) : a < h.size := by obtain ⟨c, A, -⟩ := F; exact A.lt
theorem QArr.ext (F : QArr Z h a ty n f kA) (E : Ext h h') : QArr Z h' a ty n f kA := by obtain ⟨c, A, r⟩ := F; exact ⟨c, A.ext E, r⟩
theorem QArr.other (F : QArr Z h b ty n f kA) (W : Wr h h' a sl v) (q : b ≠ a) : QArr Z h' b ty n f kA := by obtain ⟨c, A, r⟩ := F; exact ⟨c, A.other W q, r⟩
theorem QArr.toO (F : QArr Z h a ty n f kA) : OArr Z h a ty n f := by obtain ⟨c, A, -, r⟩ := F; exact ⟨c, A, r⟩
theorem QArr.set (F : QArr Z h a ty n f kA) (W : Wr h h' a sl v) : QArr Z h' a ty n (fun i => if i = sl then v else f i) kA := by
  obtain ⟨c, A, k, r1, r2⟩ := F
  obtain ⟨cell, e1, -, e3, -⟩ := id W
  cases e1.symm.trans A.1
  refine ⟨_, A.same W, k, by rw [sz_set]; exact r1, fun i hi => ?_⟩
  by_cases q : i = sl
  · subst q; simp [Cell.setSlot, e3]
  · simp only [if_neg q]; rw [← r2 i hi]; exact Array.getElem?_setIfInBounds_ne (Ne.symm q)
theorem QArr.new {cA : ClassId} {z : Int32} (A : Arr Z h a (newA cA ty z) ty) (q : z.toNatClampNeg = n) (hd : defaultValue ty = v) : QArr Z h a ty n (fun _ => v) cA :=
  ⟨_, A, rfl, by rw [sz_new]; exact q, fun i hi => by subst hd; simp [newA, q, hi]⟩
end Qs
def szN (n : Nat) : Nat → Nat
  | 0 => max 1 ((n + 63) / 64)
  | i + 1 => (szN n i + 63) / 64
theorem szN_up (n i : Nat) : n ≤ 64 ^ (i + 1) * szN n i := by
  induction i with
  | zero => show n ≤ 64 ^ 1 * max 1 ((n + 63) / 64); omega
  | succ i ih =>
    have a : szN n i ≤ 64 * szN n (i + 1) := by show _ ≤ 64 * ((szN n i + 63) / 64); omega
    calc n ≤ 64 ^ (i + 1) * szN n i := ih
      _ ≤ 64 ^ (i + 1) * (64 * szN n (i + 1)) := Nat.mul_le_mul_left _ a
      _ = 64 ^ (i + 1 + 1) * szN n (i + 1) := by rw [← Nat.mul_assoc, ← Nat.pow_succ]
theorem szN_in {n v i : Nat} (h : v < n) : v / 64 ^ (i + 1) < szN n i := Nat.div_lt_of_lt_mul (Nat.lt_of_lt_of_le h (szN_up n i))
theorem up63 {q : Int32} {W : Nat} (h : q.toInt = (W : Int)) (hW : W < 2000000) : (((q + (63 : Int32)).toUInt32 >>> ((6 : Int32) &&& 31).toUInt32).toInt32).toInt = (((W + 63) / 64 : Nat) : Int) := by
  have e : (q + (63 : Int32)).toInt = ((W + 63 : Nat) : Int) := by rw [add32 (by rw [show (63 : Int32).toInt = 63 from by decide]; omega) (by rw [show (63 : Int32).toInt = 63 from by decide]; omega), show (63 : Int32).toInt = 63 from by decide, h]; omega
  exact ush6 e (by omega)
theorem max_val {q : Int32} {W : Nat} (h : q.toInt = (W : Int)) : (maxF (1 : Int32) q).toInt = ((max 1 W : Nat) : Int) := by
  unfold maxF
  by_cases z : (1 : Int32) < q
  · rw [if_pos z, h]; rw [lti, o32] at z; omega
  · rw [if_neg z, o32]; rw [lti, o32] at z; omega
def minF (a b : Int32) : Int32 := if b < a then b else a
theorem d3_0 : decode jdk_29_method_65_code 0 = .ok (.iload_n 0, 1) := by decide +kernel
theorem d3_1 : decode jdk_29_method_65_code 1 = .ok (.iload_n 1, 1) := by decide +kernel
theorem d3_2 : decode jdk_29_method_65_code 2 = .ok (.if_icmp .lt 7, 3) := by decide +kernel
theorem d3_5 : decode jdk_29_method_65_code 5 = .ok (.iload_n 0, 1) := by decide +kernel
theorem d3_6 : decode jdk_29_method_65_code 6 = .ok (.goto 4, 3) := by decide +kernel
theorem d3_9 : decode jdk_29_method_65_code 9 = .ok (.iload_n 1, 1) := by decide +kernel
theorem d3_10 : decode jdk_29_method_65_code 10 = .ok (.ireturn, 1) := by decide +kernel
theorem ef_3 (m : MethodId) (p0 : Int32) (p1 : Int32) : entryFrame m #[(.int p0), (.int p1)] 2 = mkF m 0 #[.val (.int p0), .val (.int p1)] [] := by first | (simp [entryFrame, mkF, argsToLocals, Value.category]; done) | rfl
def Q3 (Z : State) (p0 : Int32) (p1 : Int32)  (h0 : Heap) (n0 : Nat) (v : Option Value) (h : Heap) (L : List Loc) : Prop := v = some (.int (maxF p0 p1)) ∧ Fr n0 L ∧ h = h0
set_option maxRecDepth 65536 in
set_option maxHeartbeats 40000000 in
theorem rm3 (l : Launch) (Z : State) (a0 : Array Value) (hw : ∀ d ∈ tables_1, d.before a0 Z = true) (ws : List Jvm.Cond) (p0 : Int32) (p1 : Int32)  (h0 : Heap) (n0 : Nat) (Z0 : n0 ≤ h0.size) :
    MetFree l (⟨"java/lang/Math", "max", "(II)I"⟩ : MethodName) (head1 (Jvm.Cond.code (⟨"java/lang/Math", "max", "(II)I"⟩ : MethodName) jdk_29_method_65_code 2 (some .int) :: ws) ({ frames := 0, cells := 0, slots := 0, locals := 0 } : Room)) (fun a U => a = #[(.int p0), (.int p1)] ∧ Z.Warmed39 U.vm ∧ U.heap = h0) (fun _ _ _ _ _ => True) (fun _ U o U' => ∃ v L, o = .returned v ∧ Q3 Z p0 p1 h0 n0 v U'.heap L ∧ FrameEnd U o U' L ({ frames := 0, cells := 0, slots := 0, locals := 0 } : Room).cells ({ frames := 0, cells := 0, slots := 0, locals := 0 } : Room).slots) := by
  refine MetFree.of_bodySF (Jvm.Free.JP.mathPlain rfl (by decide +kernel)) hisR ?_
  intro p e s m args below meth c s₁ Bd hml0 hP hK
  obtain ⟨rfl, hZ, hh⟩ := hP
  have hx := Bd.exec
  have hby := Bd.bytes
  have hml : c.maxLocals = 2 := hml0
  have hown : s.vm.findClass "java/lang/Math" = some m.cls := findClass_of_methodNamed Bd.named
  have hnm := (name_of_methodNamed Bd.named Bd.method).1
  have X0 : Stand p l e ({ frames := 0, cells := 0, slots := 0, locals := 0 } : Room) s m #[(.int p0), (.int p1)] below meth c s₁ [] 0 0 := Stand.of_body Bd
  have e0 : s₁.heap = h0 := by rw [← hh, Bd.state]; rfl
  have N0 := Fr.nil n0
  refine Runs.enter (ef_3 m p0 p1) ?_
  show Runs _ _ _ _ s₁ (mkF m 0 #[.val (.int p0), .val (.int p1)] [])
  refine Runs.back (fun t_ k_ => XS.iloadN X0.here hx rfl (hb hby d3_0) rfl k_) ?_
  show Runs _ _ _ _ s₁ (mkF m 1 #[.val (.int p0), .val (.int p1)] [(.int p0)])
  refine Runs.back (fun t_ k_ => XS.iloadN X0.here hx rfl (hb hby d3_1) rfl k_) ?_
  show Runs _ _ _ _ s₁ (mkF m 2 #[.val (.int p0), .val (.int p1)] [(.int p1), (.int p0)])
  by_cases c2_1 : p0 < p1
  · refine Runs.back (fun t_ k_ => XS.icmpYes X0.here hx rfl (pc0 := 2) (pc' := 9) rfl (hb hby d3_2) rfl (tlt c2_1).1 (by decide) (by decide) k_) ?_
    show Runs _ _ _ _ s₁ (mkF m 9 #[.val (.int p0), .val (.int p1)] [])
    refine Runs.back (fun t_ k_ => XS.iloadN X0.here hx rfl (hb hby d3_9) rfl k_) ?_
    show Runs _ _ _ _ s₁ (mkF m 10 #[.val (.int p0), .val (.int p1)] [(.int p1)])
    obtain ⟨fs, hr, hrun, hended, hW, hsame⟩ := X0.leave (v := some (.int p1)) (fun h => by rw [Bd.returns] at h; cases h)
    exact ⟨_, _, (retI X0 hx Bd.returns (hb hby d3_10) hr), hrun, hended, _, _, rfl, ⟨(by first | rfl | (simp only [maxF, if_pos c2_1]; done) | (simp +decide only [maxF, if_pos c2_1, if_true, if_false, ↓reduceIte]; done) | (simp [maxF, c2_1]; done)), N0, e0⟩, ⟨_, rfl⟩, hW, hsame.mono (by decide) (by decide)⟩
  · refine Runs.back (fun t_ k_ => XS.icmpNo X0.here hx rfl (hb hby d3_2) rfl (flt c2_1).1 k_) ?_
    show Runs _ _ _ _ s₁ (mkF m 5 #[.val (.int p0), .val (.int p1)] [])
    refine Runs.back (fun t_ k_ => XS.iloadN X0.here hx rfl (hb hby d3_5) rfl k_) ?_
    show Runs _ _ _ _ s₁ (mkF m 6 #[.val (.int p0), .val (.int p1)] [(.int p0)])
    refine Runs.back (fun t_ k_ => XS.goto X0.here hx rfl (pc0 := 6) (pc' := 10) rfl (hb hby d3_6) (by decide) (by decide) k_) ?_
    show Runs _ _ _ _ s₁ (mkF m 10 #[.val (.int p0), .val (.int p1)] [(.int p0)])
    obtain ⟨fs, hr, hrun, hended, hW, hsame⟩ := X0.leave (v := some (.int p0)) (fun h => by rw [Bd.returns] at h; cases h)
    exact ⟨_, _, (retI X0 hx Bd.returns (hb hby d3_10) hr), hrun, hended, _, _, rfl, ⟨(by first | rfl | (simp only [maxF, if_neg c2_1]; done) | (simp +decide only [maxF, if_neg c2_1, if_true, if_false, ↓reduceIte]; done) | (simp [maxF, c2_1]; done)), N0, e0⟩, ⟨_, rfl⟩, hW, hsame.mono (by decide) (by decide)⟩
theorem d6_0 : decode jdk_29_method_69_code 0 = .ok (.iload_n 0, 1) := by decide +kernel
theorem d6_1 : decode jdk_29_method_69_code 1 = .ok (.iload_n 1, 1) := by decide +kernel
theorem d6_2 : decode jdk_29_method_69_code 2 = .ok (.if_icmp .gt 7, 3) := by decide +kernel
theorem d6_5 : decode jdk_29_method_69_code 5 = .ok (.iload_n 0, 1) := by decide +kernel
theorem d6_6 : decode jdk_29_method_69_code 6 = .ok (.goto 4, 3) := by decide +kernel
theorem d6_9 : decode jdk_29_method_69_code 9 = .ok (.iload_n 1, 1) := by decide +kernel
theorem d6_10 : decode jdk_29_method_69_code 10 = .ok (.ireturn, 1) := by decide +kernel
theorem ef_6 (m : MethodId) (p0 : Int32) (p1 : Int32) : entryFrame m #[(.int p0), (.int p1)] 2 = mkF m 0 #[.val (.int p0), .val (.int p1)] [] := by first | (simp [entryFrame, mkF, argsToLocals, Value.category]; done) | rfl
def Q6 (Z : State) (p0 : Int32) (p1 : Int32)  (h0 : Heap) (n0 : Nat) (v : Option Value) (h : Heap) (L : List Loc) : Prop := v = some (.int (minF p0 p1)) ∧ Fr n0 L ∧ h = h0
set_option maxRecDepth 65536 in
set_option maxHeartbeats 40000000 in
theorem rm6 (l : Launch) (Z : State) (a0 : Array Value) (hw : ∀ d ∈ tables_1, d.before a0 Z = true) (ws : List Jvm.Cond) (p0 : Int32) (p1 : Int32)  (h0 : Heap) (n0 : Nat) (Z0 : n0 ≤ h0.size) :
    MetFree l (⟨"java/lang/Math", "min", "(II)I"⟩ : MethodName) (head1 (Jvm.Cond.code (⟨"java/lang/Math", "min", "(II)I"⟩ : MethodName) jdk_29_method_69_code 2 (some .int) :: ws) ({ frames := 0, cells := 0, slots := 0, locals := 0 } : Room)) (fun a U => a = #[(.int p0), (.int p1)] ∧ Z.Warmed39 U.vm ∧ U.heap = h0) (fun _ _ _ _ _ => True) (fun _ U o U' => ∃ v L, o = .returned v ∧ Q6 Z p0 p1 h0 n0 v U'.heap L ∧ FrameEnd U o U' L ({ frames := 0, cells := 0, slots := 0, locals := 0 } : Room).cells ({ frames := 0, cells := 0, slots := 0, locals := 0 } : Room).slots) := by
  refine MetFree.of_bodySF (Jvm.Free.JP.mathPlain rfl (by decide +kernel)) hisR ?_
  intro p e s m args below meth c s₁ Bd hml0 hP hK
  obtain ⟨rfl, hZ, hh⟩ := hP
  have hx := Bd.exec
  have hby := Bd.bytes
  have hml : c.maxLocals = 2 := hml0
  have hown : s.vm.findClass "java/lang/Math" = some m.cls := findClass_of_methodNamed Bd.named
  have hnm := (name_of_methodNamed Bd.named Bd.method).1
  have X0 : Stand p l e ({ frames := 0, cells := 0, slots := 0, locals := 0 } : Room) s m #[(.int p0), (.int p1)] below meth c s₁ [] 0 0 := Stand.of_body Bd
  have e0 : s₁.heap = h0 := by rw [← hh, Bd.state]; rfl
  have N0 := Fr.nil n0
  refine Runs.enter (ef_6 m p0 p1) ?_
  show Runs _ _ _ _ s₁ (mkF m 0 #[.val (.int p0), .val (.int p1)] [])
  refine Runs.back (fun t_ k_ => XS.iloadN X0.here hx rfl (hb hby d6_0) rfl k_) ?_
  show Runs _ _ _ _ s₁ (mkF m 1 #[.val (.int p0), .val (.int p1)] [(.int p0)])
  refine Runs.back (fun t_ k_ => XS.iloadN X0.here hx rfl (hb hby d6_1) rfl k_) ?_
  show Runs _ _ _ _ s₁ (mkF m 2 #[.val (.int p0), .val (.int p1)] [(.int p1), (.int p0)])
  by_cases c2_1 : p1 < p0
  · refine Runs.back (fun t_ k_ => XS.icmpYes X0.here hx rfl (pc0 := 2) (pc' := 9) rfl (hb hby d6_2) rfl (tlt c2_1).2.2.1 (by decide) (by decide) k_) ?_
    show Runs _ _ _ _ s₁ (mkF m 9 #[.val (.int p0), .val (.int p1)] [])
    refine Runs.back (fun t_ k_ => XS.iloadN X0.here hx rfl (hb hby d6_9) rfl k_) ?_
    show Runs _ _ _ _ s₁ (mkF m 10 #[.val (.int p0), .val (.int p1)] [(.int p1)])
    obtain ⟨fs, hr, hrun, hended, hW, hsame⟩ := X0.leave (v := some (.int p1)) (fun h => by rw [Bd.returns] at h; cases h)
    exact ⟨_, _, (retI X0 hx Bd.returns (hb hby d6_10) hr), hrun, hended, _, _, rfl, ⟨(by first | rfl | (simp only [minF, if_pos c2_1]; done) | (simp +decide only [minF, if_pos c2_1, if_true, if_false, ↓reduceIte]; done) | (simp [minF, c2_1]; done)), N0, e0⟩, ⟨_, rfl⟩, hW, hsame.mono (by decide) (by decide)⟩
  · refine Runs.back (fun t_ k_ => XS.icmpNo X0.here hx rfl (hb hby d6_2) rfl (flt c2_1).2.2.1 k_) ?_
    show Runs _ _ _ _ s₁ (mkF m 5 #[.val (.int p0), .val (.int p1)] [])
    refine Runs.back (fun t_ k_ => XS.iloadN X0.here hx rfl (hb hby d6_5) rfl k_) ?_
    show Runs _ _ _ _ s₁ (mkF m 6 #[.val (.int p0), .val (.int p1)] [(.int p0)])
    refine Runs.back (fun t_ k_ => XS.goto X0.here hx rfl (pc0 := 6) (pc' := 10) rfl (hb hby d6_6) (by decide) (by decide) k_) ?_
    show Runs _ _ _ _ s₁ (mkF m 10 #[.val (.int p0), .val (.int p1)] [(.int p0)])
    obtain ⟨fs, hr, hrun, hended, hW, hsame⟩ := X0.leave (v := some (.int p0)) (fun h => by rw [Bd.returns] at h; cases h)
    exact ⟨_, _, (retI X0 hx Bd.returns (hb hby d6_10) hr), hrun, hended, _, _, rfl, ⟨(by first | rfl | (simp only [minF, if_neg c2_1]; done) | (simp +decide only [minF, if_neg c2_1, if_true, if_false, ↓reduceIte]; done) | (simp [minF, c2_1]; done)), N0, e0⟩, ⟨_, rfl⟩, hW, hsame.mono (by decide) (by decide)⟩
theorem d9_0 : decode jdk_33_method_48_code 0 = .ok (.iload_n 0, 1) := by decide +kernel
theorem d9_1 : decode jdk_33_method_48_code 1 = .ok (.iconst (-1), 1) := by decide +kernel
theorem d9_2 : decode jdk_33_method_48_code 2 = .ok (.ixor, 1) := by decide +kernel
theorem d9_3 : decode jdk_33_method_48_code 3 = .ok (.iload_n 0, 1) := by decide +kernel
theorem d9_4 : decode jdk_33_method_48_code 4 = .ok (.iconst 1, 1) := by decide +kernel
theorem d9_5 : decode jdk_33_method_48_code 5 = .ok (.isub, 1) := by decide +kernel
theorem d9_6 : decode jdk_33_method_48_code 6 = .ok (.iand, 1) := by decide +kernel
theorem d9_7 : decode jdk_33_method_48_code 7 = .ok (.istore_n 0, 1) := by decide +kernel
theorem d9_8 : decode jdk_33_method_48_code 8 = .ok (.iload_n 0, 1) := by decide +kernel
theorem d9_9 : decode jdk_33_method_48_code 9 = .ok (.ifCond .gt 8, 3) := by decide +kernel
theorem d9_12 : decode jdk_33_method_48_code 12 = .ok (.iload_n 0, 1) := by decide +kernel
theorem d9_13 : decode jdk_33_method_48_code 13 = .ok (.bipush 32, 2) := by decide +kernel
theorem d9_15 : decode jdk_33_method_48_code 15 = .ok (.iand, 1) := by decide +kernel
theorem d9_16 : decode jdk_33_method_48_code 16 = .ok (.ireturn, 1) := by decide +kernel
theorem d9_17 : decode jdk_33_method_48_code 17 = .ok (.iconst 1, 1) := by decide +kernel
theorem d9_18 : decode jdk_33_method_48_code 18 = .ok (.istore_n 1, 1) := by decide +kernel
theorem d9_19 : decode jdk_33_method_48_code 19 = .ok (.iload_n 0, 1) := by decide +kernel
theorem d9_20 : decode jdk_33_method_48_code 20 = .ok (.ldc_w 264, 3) := by decide +kernel
theorem d9_23 : decode jdk_33_method_48_code 23 = .ok (.if_icmp .le 11, 3) := by decide +kernel
theorem d9_26 : decode jdk_33_method_48_code 26 = .ok (.iinc 1 16, 3) := by decide +kernel
theorem d9_29 : decode jdk_33_method_48_code 29 = .ok (.iload_n 0, 1) := by decide +kernel
theorem d9_30 : decode jdk_33_method_48_code 30 = .ok (.bipush 16, 2) := by decide +kernel
theorem d9_32 : decode jdk_33_method_48_code 32 = .ok (.iushr, 1) := by decide +kernel
theorem d9_33 : decode jdk_33_method_48_code 33 = .ok (.istore_n 0, 1) := by decide +kernel
theorem d9_34 : decode jdk_33_method_48_code 34 = .ok (.iload_n 0, 1) := by decide +kernel
theorem d9_35 : decode jdk_33_method_48_code 35 = .ok (.sipush 256, 3) := by decide +kernel
theorem d9_38 : decode jdk_33_method_48_code 38 = .ok (.if_icmp .le 11, 3) := by decide +kernel
theorem d9_41 : decode jdk_33_method_48_code 41 = .ok (.iinc 1 8, 3) := by decide +kernel
theorem d9_44 : decode jdk_33_method_48_code 44 = .ok (.iload_n 0, 1) := by decide +kernel
theorem d9_45 : decode jdk_33_method_48_code 45 = .ok (.bipush 8, 2) := by decide +kernel
theorem d9_47 : decode jdk_33_method_48_code 47 = .ok (.iushr, 1) := by decide +kernel
theorem d9_48 : decode jdk_33_method_48_code 48 = .ok (.istore_n 0, 1) := by decide +kernel
theorem d9_49 : decode jdk_33_method_48_code 49 = .ok (.iload_n 0, 1) := by decide +kernel
theorem d9_50 : decode jdk_33_method_48_code 50 = .ok (.bipush 16, 2) := by decide +kernel
theorem d9_52 : decode jdk_33_method_48_code 52 = .ok (.if_icmp .le 10, 3) := by decide +kernel
theorem d9_55 : decode jdk_33_method_48_code 55 = .ok (.iinc 1 4, 3) := by decide +kernel
theorem d9_58 : decode jdk_33_method_48_code 58 = .ok (.iload_n 0, 1) := by decide +kernel
theorem d9_59 : decode jdk_33_method_48_code 59 = .ok (.iconst 4, 1) := by decide +kernel
theorem d9_60 : decode jdk_33_method_48_code 60 = .ok (.iushr, 1) := by decide +kernel
theorem d9_61 : decode jdk_33_method_48_code 61 = .ok (.istore_n 0, 1) := by decide +kernel
theorem d9_62 : decode jdk_33_method_48_code 62 = .ok (.iload_n 0, 1) := by decide +kernel
theorem d9_63 : decode jdk_33_method_48_code 63 = .ok (.iconst 4, 1) := by decide +kernel
theorem d9_64 : decode jdk_33_method_48_code 64 = .ok (.if_icmp .le 10, 3) := by decide +kernel
theorem d9_67 : decode jdk_33_method_48_code 67 = .ok (.iinc 1 2, 3) := by decide +kernel
theorem d9_70 : decode jdk_33_method_48_code 70 = .ok (.iload_n 0, 1) := by decide +kernel
theorem d9_71 : decode jdk_33_method_48_code 71 = .ok (.iconst 2, 1) := by decide +kernel
theorem d9_72 : decode jdk_33_method_48_code 72 = .ok (.iushr, 1) := by decide +kernel
theorem d9_73 : decode jdk_33_method_48_code 73 = .ok (.istore_n 0, 1) := by decide +kernel
theorem d9_74 : decode jdk_33_method_48_code 74 = .ok (.iload_n 1, 1) := by decide +kernel
theorem d9_75 : decode jdk_33_method_48_code 75 = .ok (.iload_n 0, 1) := by decide +kernel
theorem d9_76 : decode jdk_33_method_48_code 76 = .ok (.iconst 1, 1) := by decide +kernel
theorem d9_77 : decode jdk_33_method_48_code 77 = .ok (.iushr, 1) := by decide +kernel
theorem d9_78 : decode jdk_33_method_48_code 78 = .ok (.iadd, 1) := by decide +kernel
theorem d9_79 : decode jdk_33_method_48_code 79 = .ok (.ireturn, 1) := by decide +kernel
theorem pn_9 : plainName "java/lang/Integer" = true := by first | (simp [plainName, overriddenIn]; done) | decide +kernel
theorem ef_9 (m : MethodId) (p0 : Int32) : entryFrame m #[(.int p0)] 2 = mkF m 0 #[.val (.int p0), .unset] [] := by first | (simp [entryFrame, mkF, argsToLocals, Value.category]; done) | rfl
def Q9 (Z : State) (p0 : Int32)  (h0 : Heap) (n0 : Nat) (v : Option Value) (h : Heap) (L : List Loc) : Prop := v = some (.int (nI p0)) ∧ Fr n0 L ∧ h = h0
set_option maxRecDepth 65536 in
set_option maxHeartbeats 40000000 in
theorem rm9 (l : Launch) (Z : State) (a0 : Array Value) (hw : ∀ d ∈ tables_1, d.before a0 Z = true) (ws : List Jvm.Cond) (p0 : Int32)  (h0 : Heap) (n0 : Nat) (Z0 : n0 ≤ h0.size) :
    MetFree l (⟨"java/lang/Integer", "numberOfTrailingZeros", "(I)I"⟩ : MethodName) (head1 (Jvm.Cond.code (⟨"java/lang/Integer", "numberOfTrailingZeros", "(I)I"⟩ : MethodName) jdk_33_method_48_code 2 (some .int) :: ws) ({ frames := 0, cells := 0, slots := 0, locals := 0 } : Room)) (fun a U => a = #[(.int p0)] ∧ Z.Warmed39 U.vm ∧ U.heap = h0) (fun _ _ _ _ _ => True) (fun _ U o U' => ∃ v L, o = .returned v ∧ Q9 Z p0 h0 n0 v U'.heap L ∧ FrameEnd U o U' L ({ frames := 0, cells := 0, slots := 0, locals := 0 } : Room).cells ({ frames := 0, cells := 0, slots := 0, locals := 0 } : Room).slots) := by
  refine MetFree.of_bodySF (plainFor_of_name pn_9) hisR ?_
  intro p e s m args below meth c s₁ Bd hml0 hP hK
  obtain ⟨rfl, hZ, hh⟩ := hP
  have hx := Bd.exec
  have hby := Bd.bytes
  have hml : c.maxLocals = 2 := hml0
  have hown : s.vm.findClass "java/lang/Integer" = some m.cls := findClass_of_methodNamed Bd.named
  have hnm := (name_of_methodNamed Bd.named Bd.method).1
  have X0 : Stand p l e ({ frames := 0, cells := 0, slots := 0, locals := 0 } : Room) s m #[(.int p0)] below meth c s₁ [] 0 0 := Stand.of_body Bd
  have e0 : s₁.heap = h0 := by rw [← hh, Bd.state]; rfl
  have N0 := Fr.nil n0
  refine Runs.enter (ef_9 m p0) ?_
  show Runs _ _ _ _ s₁ (mkF m 0 #[.val (.int p0), .unset] [])
  refine Runs.back (fun t_ k_ => XS.iloadN X0.here hx rfl (hb hby d9_0) rfl k_) ?_
  show Runs _ _ _ _ s₁ (mkF m 1 #[.val (.int p0), .unset] [(.int p0)])
  refine Runs.back (fun t_ k_ => XS.iconst X0.here hx rfl (hb hby d9_1) k_) ?_
  show Runs _ _ _ _ s₁ (mkF m 2 #[.val (.int p0), .unset] [(.int (-1 : Int32)), (.int p0)])
  refine Runs.back (fun t_ k_ => XS.ixor X0.here hx rfl (hb hby d9_2) rfl k_) ?_
  show Runs _ _ _ _ s₁ (mkF m 3 #[.val (.int p0), .unset] [(.int (p0 ^^^ (-1 : Int32)))])
  refine Runs.back (fun t_ k_ => XS.iloadN X0.here hx rfl (hb hby d9_3) rfl k_) ?_
  show Runs _ _ _ _ s₁ (mkF m 4 #[.val (.int p0), .unset] [(.int p0), (.int (p0 ^^^ (-1 : Int32)))])
  refine Runs.back (fun t_ k_ => XS.iconst X0.here hx rfl (hb hby d9_4) k_) ?_
  show Runs _ _ _ _ s₁ (mkF m 5 #[.val (.int p0), .unset] [(.int (1 : Int32)), (.int p0), (.int (p0 ^^^ (-1 : Int32)))])
  refine Runs.back (fun t_ k_ => XS.isub X0.here hx rfl (hb hby d9_5) rfl k_) ?_
  show Runs _ _ _ _ s₁ (mkF m 6 #[.val (.int p0), .unset] [(.int (p0 - (1 : Int32))), (.int (p0 ^^^ (-1 : Int32)))])
  refine Runs.back (fun t_ k_ => XS.iand X0.here hx rfl (hb hby d9_6) rfl k_) ?_
  show Runs _ _ _ _ s₁ (mkF m 7 #[.val (.int p0), .unset] [(.int ((p0 ^^^ (-1 : Int32)) &&& (p0 - (1 : Int32))))])
  refine Runs.back (fun t_ k_ => XS.istoreN X0.here hx rfl (hb hby d9_7) rfl (l' := #[.val (.int ((p0 ^^^ (-1 : Int32)) &&& (p0 - (1 : Int32)))), .unset]) rfl k_) ?_
  show Runs _ _ _ _ s₁ (mkF m 8 #[.val (.int ((p0 ^^^ (-1 : Int32)) &&& (p0 - (1 : Int32)))), .unset] [])
  refine Runs.back (fun t_ k_ => XS.iloadN X0.here hx rfl (hb hby d9_8) rfl k_) ?_
  show Runs _ _ _ _ s₁ (mkF m 9 #[.val (.int ((p0 ^^^ (-1 : Int32)) &&& (p0 - (1 : Int32)))), .unset] [(.int ((p0 ^^^ (-1 : Int32)) &&& (p0 - (1 : Int32))))])
  by_cases c9_1 : (0 : Int32) < ((p0 ^^^ (-1 : Int32)) &&& (p0 - (1 : Int32)))
  · refine Runs.back (fun t_ k_ => XS.ifYes X0.here hx rfl (pc0 := 9) (pc' := 17) rfl (hb hby d9_9) rfl ((if0 _ _).trans (tlt c9_1).2.2.1) (by decide) (by decide) k_) ?_
    show Runs _ _ _ _ s₁ (mkF m 17 #[.val (.int ((p0 ^^^ (-1 : Int32)) &&& (p0 - (1 : Int32)))), .unset] [])
    refine Runs.back (fun t_ k_ => XS.iconst X0.here hx rfl (hb hby d9_17) k_) ?_
    show Runs _ _ _ _ s₁ (mkF m 18 #[.val (.int ((p0 ^^^ (-1 : Int32)) &&& (p0 - (1 : Int32)))), .unset] [(.int (1 : Int32))])
    refine Runs.back (fun t_ k_ => XS.istoreN X0.here hx rfl (hb hby d9_18) rfl (l' := #[.val (.int ((p0 ^^^ (-1 : Int32)) &&& (p0 - (1 : Int32)))), .val (.int (1 : Int32))]) rfl k_) ?_
    show Runs _ _ _ _ s₁ (mkF m 19 #[.val (.int ((p0 ^^^ (-1 : Int32)) &&& (p0 - (1 : Int32)))), .val (.int (1 : Int32))] [])
    refine Runs.back (fun t_ k_ => XS.iloadN X0.here hx rfl (hb hby d9_19) rfl k_) ?_
    show Runs _ _ _ _ s₁ (mkF m 20 #[.val (.int ((p0 ^^^ (-1 : Int32)) &&& (p0 - (1 : Int32)))), .val (.int (1 : Int32))] [(.int ((p0 ^^^ (-1 : Int32)) &&& (p0 - (1 : Int32))))])
    refine Runs.back (X0.ldcwInt hx hown (mvT hZ (hw _ (List.mem_of_getElem? (i := 49) rfl))) (g := (mkF m 20 #[.val (.int ((p0 ^^^ (-1 : Int32)) &&& (p0 - (1 : Int32)))), .val (.int (1 : Int32))] [(.int ((p0 ^^^ (-1 : Int32)) &&& (p0 - (1 : Int32))))])) rfl (hb hby d9_20)) ?_
    show Runs _ _ _ _ s₁ (mkF m 23 #[.val (.int ((p0 ^^^ (-1 : Int32)) &&& (p0 - (1 : Int32)))), .val (.int (1 : Int32))] [(.int (65536 : Int32)), (.int ((p0 ^^^ (-1 : Int32)) &&& (p0 - (1 : Int32))))])
    by_cases c23_2 : (65536 : Int32) < ((p0 ^^^ (-1 : Int32)) &&& (p0 - (1 : Int32)))
    · refine Runs.back (fun t_ k_ => XS.icmpNo X0.here hx rfl (hb hby d9_23) rfl (tlt c23_2).2.2.2 k_) ?_
      show Runs _ _ _ _ s₁ (mkF m 26 #[.val (.int ((p0 ^^^ (-1 : Int32)) &&& (p0 - (1 : Int32)))), .val (.int (1 : Int32))] [])
      refine Runs.back (fun t_ k_ => XS.iinc X0.here hx rfl (hb hby d9_26) rfl (l' := #[.val (.int ((p0 ^^^ (-1 : Int32)) &&& (p0 - (1 : Int32)))), .val (.int ((1 : Int32) + (16 : Int32)))]) rfl k_) ?_
      show Runs _ _ _ _ s₁ (mkF m 29 #[.val (.int ((p0 ^^^ (-1 : Int32)) &&& (p0 - (1 : Int32)))), .val (.int ((1 : Int32) + (16 : Int32)))] [])
      refine Runs.back (fun t_ k_ => XS.iloadN X0.here hx rfl (hb hby d9_29) rfl k_) ?_
      show Runs _ _ _ _ s₁ (mkF m 30 #[.val (.int ((p0 ^^^ (-1 : Int32)) &&& (p0 - (1 : Int32)))), .val (.int ((1 : Int32) + (16 : Int32)))] [(.int ((p0 ^^^ (-1 : Int32)) &&& (p0 - (1 : Int32))))])
      refine Runs.back (fun t_ k_ => XS.bipush X0.here hx rfl (hb hby d9_30) k_) ?_
      show Runs _ _ _ _ s₁ (mkF m 32 #[.val (.int ((p0 ^^^ (-1 : Int32)) &&& (p0 - (1 : Int32)))), .val (.int ((1 : Int32) + (16 : Int32)))] [(.int (16 : Int32)), (.int ((p0 ^^^ (-1 : Int32)) &&& (p0 - (1 : Int32))))])
      refine Runs.back (fun t_ k_ => XS.iushr X0.here hx rfl (hb hby d9_32) rfl k_) ?_
      show Runs _ _ _ _ s₁ (mkF m 33 #[.val (.int ((p0 ^^^ (-1 : Int32)) &&& (p0 - (1 : Int32)))), .val (.int ((1 : Int32) + (16 : Int32)))] [(.int ((((p0 ^^^ (-1 : Int32)) &&& (p0 - (1 : Int32))).toUInt32 >>> ((16 : Int32) &&& 31).toUInt32).toInt32))])
      refine Runs.back (fun t_ k_ => XS.istoreN X0.here hx rfl (hb hby d9_33) rfl (l' := #[.val (.int ((((p0 ^^^ (-1 : Int32)) &&& (p0 - (1 : Int32))).toUInt32 >>> ((16 : Int32) &&& 31).toUInt32).toInt32)), .val (.int ((1 : Int32) + (16 : Int32)))]) rfl k_) ?_
      show Runs _ _ _ _ s₁ (mkF m 34 #[.val (.int ((((p0 ^^^ (-1 : Int32)) &&& (p0 - (1 : Int32))).toUInt32 >>> ((16 : Int32) &&& 31).toUInt32).toInt32)), .val (.int ((1 : Int32) + (16 : Int32)))] [])
      refine Runs.back (fun t_ k_ => XS.iloadN X0.here hx rfl (hb hby d9_34) rfl k_) ?_
      show Runs _ _ _ _ s₁ (mkF m 35 #[.val (.int ((((p0 ^^^ (-1 : Int32)) &&& (p0 - (1 : Int32))).toUInt32 >>> ((16 : Int32) &&& 31).toUInt32).toInt32)), .val (.int ((1 : Int32) + (16 : Int32)))] [(.int ((((p0 ^^^ (-1 : Int32)) &&& (p0 - (1 : Int32))).toUInt32 >>> ((16 : Int32) &&& 31).toUInt32).toInt32))])
      refine Runs.back (fun t_ k_ => XS.sipush X0.here hx rfl (hb hby d9_35) k_) ?_
      show Runs _ _ _ _ s₁ (mkF m 38 #[.val (.int ((((p0 ^^^ (-1 : Int32)) &&& (p0 - (1 : Int32))).toUInt32 >>> ((16 : Int32) &&& 31).toUInt32).toInt32)), .val (.int ((1 : Int32) + (16 : Int32)))] [(.int (256 : Int32)), (.int ((((p0 ^^^ (-1 : Int32)) &&& (p0 - (1 : Int32))).toUInt32 >>> ((16 : Int32) &&& 31).toUInt32).toInt32))])
      by_cases c38_3 : (256 : Int32) < ((((p0 ^^^ (-1 : Int32)) &&& (p0 - (1 : Int32))).toUInt32 >>> ((16 : Int32) &&& 31).toUInt32).toInt32)
      · refine Runs.back (fun t_ k_ => XS.icmpNo X0.here hx rfl (hb hby d9_38) rfl (tlt c38_3).2.2.2 k_) ?_
        show Runs _ _ _ _ s₁ (mkF m 41 #[.val (.int ((((p0 ^^^ (-1 : Int32)) &&& (p0 - (1 : Int32))).toUInt32 >>> ((16 : Int32) &&& 31).toUInt32).toInt32)), .val (.int ((1 : Int32) + (16 : Int32)))] [])
        refine Runs.back (fun t_ k_ => XS.iinc X0.here hx rfl (hb hby d9_41) rfl (l' := #[.val (.int ((((p0 ^^^ (-1 : Int32)) &&& (p0 - (1 : Int32))).toUInt32 >>> ((16 : Int32) &&& 31).toUInt32).toInt32)), .val (.int (((1 : Int32) + (16 : Int32)) + (8 : Int32)))]) rfl k_) ?_
        show Runs _ _ _ _ s₁ (mkF m 44 #[.val (.int ((((p0 ^^^ (-1 : Int32)) &&& (p0 - (1 : Int32))).toUInt32 >>> ((16 : Int32) &&& 31).toUInt32).toInt32)), .val (.int (((1 : Int32) + (16 : Int32)) + (8 : Int32)))] [])
        refine Runs.back (fun t_ k_ => XS.iloadN X0.here hx rfl (hb hby d9_44) rfl k_) ?_
        show Runs _ _ _ _ s₁ (mkF m 45 #[.val (.int ((((p0 ^^^ (-1 : Int32)) &&& (p0 - (1 : Int32))).toUInt32 >>> ((16 : Int32) &&& 31).toUInt32).toInt32)), .val (.int (((1 : Int32) + (16 : Int32)) + (8 : Int32)))] [(.int ((((p0 ^^^ (-1 : Int32)) &&& (p0 - (1 : Int32))).toUInt32 >>> ((16 : Int32) &&& 31).toUInt32).toInt32))])
        refine Runs.back (fun t_ k_ => XS.bipush X0.here hx rfl (hb hby d9_45) k_) ?_
        show Runs _ _ _ _ s₁ (mkF m 47 #[.val (.int ((((p0 ^^^ (-1 : Int32)) &&& (p0 - (1 : Int32))).toUInt32 >>> ((16 : Int32) &&& 31).toUInt32).toInt32)), .val (.int (((1 : Int32) + (16 : Int32)) + (8 : Int32)))] [(.int (8 : Int32)), (.int ((((p0 ^^^ (-1 : Int32)) &&& (p0 - (1 : Int32))).toUInt32 >>> ((16 : Int32) &&& 31).toUInt32).toInt32))])
        refine Runs.back (fun t_ k_ => XS.iushr X0.here hx rfl (hb hby d9_47) rfl k_) ?_
        show Runs _ _ _ _ s₁ (mkF m 48 #[.val (.int ((((p0 ^^^ (-1 : Int32)) &&& (p0 - (1 : Int32))).toUInt32 >>> ((16 : Int32) &&& 31).toUInt32).toInt32)), .val (.int (((1 : Int32) + (16 : Int32)) + (8 : Int32)))] [(.int ((((((p0 ^^^ (-1 : Int32)) &&& (p0 - (1 : Int32))).toUInt32 >>> ((16 : Int32) &&& 31).toUInt32).toInt32).toUInt32 >>> ((8 : Int32) &&& 31).toUInt32).toInt32))])
        refine Runs.back (fun t_ k_ => XS.istoreN X0.here hx rfl (hb hby d9_48) rfl (l' := #[.val (.int ((((((p0 ^^^ (-1 : Int32)) &&& (p0 - (1 : Int32))).toUInt32 >>> ((16 : Int32) &&& 31).toUInt32).toInt32).toUInt32 >>> ((8 : Int32) &&& 31).toUInt32).toInt32)), .val (.int (((1 : Int32) + (16 : Int32)) + (8 : Int32)))]) rfl k_) ?_
        show Runs _ _ _ _ s₁ (mkF m 49 #[.val (.int ((((((p0 ^^^ (-1 : Int32)) &&& (p0 - (1 : Int32))).toUInt32 >>> ((16 : Int32) &&& 31).toUInt32).toInt32).toUInt32 >>> ((8 : Int32) &&& 31).toUInt32).toInt32)), .val (.int (((1 : Int32) + (16 : Int32)) + (8 : Int32)))] [])
        refine Runs.back (fun t_ k_ => XS.iloadN X0.here hx rfl (hb hby d9_49) rfl k_) ?_
        show Runs _ _ _ _ s₁ (mkF m 50 #[.val (.int ((((((p0 ^^^ (-1 : Int32)) &&& (p0 - (1 : Int32))).toUInt32 >>> ((16 : Int32) &&& 31).toUInt32).toInt32).toUInt32 >>> ((8 : Int32) &&& 31).toUInt32).toInt32)), .val (.int (((1 : Int32) + (16 : Int32)) + (8 : Int32)))] [(.int ((((((p0 ^^^ (-1 : Int32)) &&& (p0 - (1 : Int32))).toUInt32 >>> ((16 : Int32) &&& 31).toUInt32).toInt32).toUInt32 >>> ((8 : Int32) &&& 31).toUInt32).toInt32))])
        refine Runs.back (fun t_ k_ => XS.bipush X0.here hx rfl (hb hby d9_50) k_) ?_
        show Runs _ _ _ _ s₁ (mkF m 52 #[.val (.int ((((((p0 ^^^ (-1 : Int32)) &&& (p0 - (1 : Int32))).toUInt32 >>> ((16 : Int32) &&& 31).toUInt32).toInt32).toUInt32 >>> ((8 : Int32) &&& 31).toUInt32).toInt32)), .val (.int (((1 : Int32) + (16 : Int32)) + (8 : Int32)))] [(.int (16 : Int32)), (.int ((((((p0 ^^^ (-1 : Int32)) &&& (p0 - (1 : Int32))).toUInt32 >>> ((16 : Int32) &&& 31).toUInt32).toInt32).toUInt32 >>> ((8 : Int32) &&& 31).toUInt32).toInt32))])
        by_cases c52_4 : (16 : Int32) < ((((((p0 ^^^ (-1 : Int32)) &&& (p0 - (1 : Int32))).toUInt32 >>> ((16 : Int32) &&& 31).toUInt32).toInt32).toUInt32 >>> ((8 : Int32) &&& 31).toUInt32).toInt32)
        · refine Runs.back (fun t_ k_ => XS.icmpNo X0.here hx rfl (hb hby d9_52) rfl (tlt c52_4).2.2.2 k_) ?_
          show Runs _ _ _ _ s₁ (mkF m 55 #[.val (.int ((((((p0 ^^^ (-1 : Int32)) &&& (p0 - (1 : Int32))).toUInt32 >>> ((16 : Int32) &&& 31).toUInt32).toInt32).toUInt32 >>> ((8 : Int32) &&& 31).toUInt32).toInt32)), .val (.int (((1 : Int32) + (16 : Int32)) + (8 : Int32)))] [])
          refine Runs.back (fun t_ k_ => XS.iinc X0.here hx rfl (hb hby d9_55) rfl (l' := #[.val (.int ((((((p0 ^^^ (-1 : Int32)) &&& (p0 - (1 : Int32))).toUInt32 >>> ((16 : Int32) &&& 31).toUInt32).toInt32).toUInt32 >>> ((8 : Int32) &&& 31).toUInt32).toInt32)), .val (.int ((((1 : Int32) + (16 : Int32)) + (8 : Int32)) + (4 : Int32)))]) rfl k_) ?_
          show Runs _ _ _ _ s₁ (mkF m 58 #[.val (.int ((((((p0 ^^^ (-1 : Int32)) &&& (p0 - (1 : Int32))).toUInt32 >>> ((16 : Int32) &&& 31).toUInt32).toInt32).toUInt32 >>> ((8 : Int32) &&& 31).toUInt32).toInt32)), .val (.int ((((1 : Int32) + (16 : Int32)) + (8 : Int32)) + (4 : Int32)))] [])
          refine Runs.back (fun t_ k_ => XS.iloadN X0.here hx rfl (hb hby d9_58) rfl k_) ?_
          show Runs _ _ _ _ s₁ (mkF m 59 #[.val (.int ((((((p0 ^^^ (-1 : Int32)) &&& (p0 - (1 : Int32))).toUInt32 >>> ((16 : Int32) &&& 31).toUInt32).toInt32).toUInt32 >>> ((8 : Int32) &&& 31).toUInt32).toInt32)), .val (.int ((((1 : Int32) + (16 : Int32)) + (8 : Int32)) + (4 : Int32)))] [(.int ((((((p0 ^^^ (-1 : Int32)) &&& (p0 - (1 : Int32))).toUInt32 >>> ((16 : Int32) &&& 31).toUInt32).toInt32).toUInt32 >>> ((8 : Int32) &&& 31).toUInt32).toInt32))])
          refine Runs.back (fun t_ k_ => XS.iconst X0.here hx rfl (hb hby d9_59) k_) ?_
          show Runs _ _ _ _ s₁ (mkF m 60 #[.val (.int ((((((p0 ^^^ (-1 : Int32)) &&& (p0 - (1 : Int32))).toUInt32 >>> ((16 : Int32) &&& 31).toUInt32).toInt32).toUInt32 >>> ((8 : Int32) &&& 31).toUInt32).toInt32)), .val (.int ((((1 : Int32) + (16 : Int32)) + (8 : Int32)) + (4 : Int32)))] [(.int (4 : Int32)), (.int ((((((p0 ^^^ (-1 : Int32)) &&& (p0 - (1 : Int32))).toUInt32 >>> ((16 : Int32) &&& 31).toUInt32).toInt32).toUInt32 >>> ((8 : Int32) &&& 31).toUInt32).toInt32))])
          refine Runs.back (fun t_ k_ => XS.iushr X0.here hx rfl (hb hby d9_60) rfl k_) ?_
          show Runs _ _ _ _ s₁ (mkF m 61 #[.val (.int ((((((p0 ^^^ (-1 : Int32)) &&& (p0 - (1 : Int32))).toUInt32 >>> ((16 : Int32) &&& 31).toUInt32).toInt32).toUInt32 >>> ((8 : Int32) &&& 31).toUInt32).toInt32)), .val (.int ((((1 : Int32) + (16 : Int32)) + (8 : Int32)) + (4 : Int32)))] [(.int ((((((((p0 ^^^ (-1 : Int32)) &&& (p0 - (1 : Int32))).toUInt32 >>> ((16 : Int32) &&& 31).toUInt32).toInt32).toUInt32 >>> ((8 : Int32) &&& 31).toUInt32).toInt32).toUInt32 >>> ((4 : Int32) &&& 31).toUInt32).toInt32))])
          refine Runs.back (fun t_ k_ => XS.istoreN X0.here hx rfl (hb hby d9_61) rfl (l' := #[.val (.int ((((((((p0 ^^^ (-1 : Int32)) &&& (p0 - (1 : Int32))).toUInt32 >>> ((16 : Int32) &&& 31).toUInt32).toInt32).toUInt32 >>> ((8 : Int32) &&& 31).toUInt32).toInt32).toUInt32 >>> ((4 : Int32) &&& 31).toUInt32).toInt32)), .val (.int ((((1 : Int32) + (16 : Int32)) + (8 : Int32)) + (4 : Int32)))]) rfl k_) ?_
          show Runs _ _ _ _ s₁ (mkF m 62 #[.val (.int ((((((((p0 ^^^ (-1 : Int32)) &&& (p0 - (1 : Int32))).toUInt32 >>> ((16 : Int32) &&& 31).toUInt32).toInt32).toUInt32 >>> ((8 : Int32) &&& 31).toUInt32).toInt32).toUInt32 >>> ((4 : Int32) &&& 31).toUInt32).toInt32)), .val (.int ((((1 : Int32) + (16 : Int32)) + (8 : Int32)) + (4 : Int32)))] [])
          refine Runs.back (fun t_ k_ => XS.iloadN X0.here hx rfl (hb hby d9_62) rfl k_) ?_
          show Runs _ _ _ _ s₁ (mkF m 63 #[.val (.int ((((((((p0 ^^^ (-1 : Int32)) &&& (p0 - (1 : Int32))).toUInt32 >>> ((16 : Int32) &&& 31).toUInt32).toInt32).toUInt32 >>> ((8 : Int32) &&& 31).toUInt32).toInt32).toUInt32 >>> ((4 : Int32) &&& 31).toUInt32).toInt32)), .val (.int ((((1 : Int32) + (16 : Int32)) + (8 : Int32)) + (4 : Int32)))] [(.int ((((((((p0 ^^^ (-1 : Int32)) &&& (p0 - (1 : Int32))).toUInt32 >>> ((16 : Int32) &&& 31).toUInt32).toInt32).toUInt32 >>> ((8 : Int32) &&& 31).toUInt32).toInt32).toUInt32 >>> ((4 : Int32) &&& 31).toUInt32).toInt32))])
          refine Runs.back (fun t_ k_ => XS.iconst X0.here hx rfl (hb hby d9_63) k_) ?_
          show Runs _ _ _ _ s₁ (mkF m 64 #[.val (.int ((((((((p0 ^^^ (-1 : Int32)) &&& (p0 - (1 : Int32))).toUInt32 >>> ((16 : Int32) &&& 31).toUInt32).toInt32).toUInt32 >>> ((8 : Int32) &&& 31).toUInt32).toInt32).toUInt32 >>> ((4 : Int32) &&& 31).toUInt32).toInt32)), .val (.int ((((1 : Int32) + (16 : Int32)) + (8 : Int32)) + (4 : Int32)))] [(.int (4 : Int32)), (.int ((((((((p0 ^^^ (-1 : Int32)) &&& (p0 - (1 : Int32))).toUInt32 >>> ((16 : Int32) &&& 31).toUInt32).toInt32).toUInt32 >>> ((8 : Int32) &&& 31).toUInt32).toInt32).toUInt32 >>> ((4 : Int32) &&& 31).toUInt32).toInt32))])
          by_cases c64_5 : (4 : Int32) < ((((((((p0 ^^^ (-1 : Int32)) &&& (p0 - (1 : Int32))).toUInt32 >>> ((16 : Int32) &&& 31).toUInt32).toInt32).toUInt32 >>> ((8 : Int32) &&& 31).toUInt32).toInt32).toUInt32 >>> ((4 : Int32) &&& 31).toUInt32).toInt32)
          · refine Runs.back (fun t_ k_ => XS.icmpNo X0.here hx rfl (hb hby d9_64) rfl (tlt c64_5).2.2.2 k_) ?_
            show Runs _ _ _ _ s₁ (mkF m 67 #[.val (.int ((((((((p0 ^^^ (-1 : Int32)) &&& (p0 - (1 : Int32))).toUInt32 >>> ((16 : Int32) &&& 31).toUInt32).toInt32).toUInt32 >>> ((8 : Int32) &&& 31).toUInt32).toInt32).toUInt32 >>> ((4 : Int32) &&& 31).toUInt32).toInt32)), .val (.int ((((1 : Int32) + (16 : Int32)) + (8 : Int32)) + (4 : Int32)))] [])
            refine Runs.back (fun t_ k_ => XS.iinc X0.here hx rfl (hb hby d9_67) rfl (l' := #[.val (.int ((((((((p0 ^^^ (-1 : Int32)) &&& (p0 - (1 : Int32))).toUInt32 >>> ((16 : Int32) &&& 31).toUInt32).toInt32).toUInt32 >>> ((8 : Int32) &&& 31).toUInt32).toInt32).toUInt32 >>> ((4 : Int32) &&& 31).toUInt32).toInt32)), .val (.int (((((1 : Int32) + (16 : Int32)) + (8 : Int32)) + (4 : Int32)) + (2 : Int32)))]) rfl k_) ?_
            show Runs _ _ _ _ s₁ (mkF m 70 #[.val (.int ((((((((p0 ^^^ (-1 : Int32)) &&& (p0 - (1 : Int32))).toUInt32 >>> ((16 : Int32) &&& 31).toUInt32).toInt32).toUInt32 >>> ((8 : Int32) &&& 31).toUInt32).toInt32).toUInt32 >>> ((4 : Int32) &&& 31).toUInt32).toInt32)), .val (.int (((((1 : Int32) + (16 : Int32)) + (8 : Int32)) + (4 : Int32)) + (2 : Int32)))] [])
            refine Runs.back (fun t_ k_ => XS.iloadN X0.here hx rfl (hb hby d9_70) rfl k_) ?_
            show Runs _ _ _ _ s₁ (mkF m 71 #[.val (.int ((((((((p0 ^^^ (-1 : Int32)) &&& (p0 - (1 : Int32))).toUInt32 >>> ((16 : Int32) &&& 31).toUInt32).toInt32).toUInt32 >>> ((8 : Int32) &&& 31).toUInt32).toInt32).toUInt32 >>> ((4 : Int32) &&& 31).toUInt32).toInt32)), .val (.int (((((1 : Int32) + (16 : Int32)) + (8 : Int32)) + (4 : Int32)) + (2 : Int32)))] [(.int ((((((((p0 ^^^ (-1 : Int32)) &&& (p0 - (1 : Int32))).toUInt32 >>> ((16 : Int32) &&& 31).toUInt32).toInt32).toUInt32 >>> ((8 : Int32) &&& 31).toUInt32).toInt32).toUInt32 >>> ((4 : Int32) &&& 31).toUInt32).toInt32))])
            refine Runs.back (fun t_ k_ => XS.iconst X0.here hx rfl (hb hby d9_71) k_) ?_
            show Runs _ _ _ _ s₁ (mkF m 72 #[.val (.int ((((((((p0 ^^^ (-1 : Int32)) &&& (p0 - (1 : Int32))).toUInt32 >>> ((16 : Int32) &&& 31).toUInt32).toInt32).toUInt32 >>> ((8 : Int32) &&& 31).toUInt32).toInt32).toUInt32 >>> ((4 : Int32) &&& 31).toUInt32).toInt32)), .val (.int (((((1 : Int32) + (16 : Int32)) + (8 : Int32)) + (4 : Int32)) + (2 : Int32)))] [(.int (2 : Int32)), (.int ((((((((p0 ^^^ (-1 : Int32)) &&& (p0 - (1 : Int32))).toUInt32 >>> ((16 : Int32) &&& 31).toUInt32).toInt32).toUInt32 >>> ((8 : Int32) &&& 31).toUInt32).toInt32).toUInt32 >>> ((4 : Int32) &&& 31).toUInt32).toInt32))])
            refine Runs.back (fun t_ k_ => XS.iushr X0.here hx rfl (hb hby d9_72) rfl k_) ?_
            show Runs _ _ _ _ s₁ (mkF m 73 #[.val (.int ((((((((p0 ^^^ (-1 : Int32)) &&& (p0 - (1 : Int32))).toUInt32 >>> ((16 : Int32) &&& 31).toUInt32).toInt32).toUInt32 >>> ((8 : Int32) &&& 31).toUInt32).toInt32).toUInt32 >>> ((4 : Int32) &&& 31).toUInt32).toInt32)), .val (.int (((((1 : Int32) + (16 : Int32)) + (8 : Int32)) + (4 : Int32)) + (2 : Int32)))] [(.int ((((((((((p0 ^^^ (-1 : Int32)) &&& (p0 - (1 : Int32))).toUInt32 >>> ((16 : Int32) &&& 31).toUInt32).toInt32).toUInt32 >>> ((8 : Int32) &&& 31).toUInt32).toInt32).toUInt32 >>> ((4 : Int32) &&& 31).toUInt32).toInt32).toUInt32 >>> ((2 : Int32) &&& 31).toUInt32).toInt32))])
            refine Runs.back (fun t_ k_ => XS.istoreN X0.here hx rfl (hb hby d9_73) rfl (l' := #[.val (.int ((((((((((p0 ^^^ (-1 : Int32)) &&& (p0 - (1 : Int32))).toUInt32 >>> ((16 : Int32) &&& 31).toUInt32).toInt32).toUInt32 >>> ((8 : Int32) &&& 31).toUInt32).toInt32).toUInt32 >>> ((4 : Int32) &&& 31).toUInt32).toInt32).toUInt32 >>> ((2 : Int32) &&& 31).toUInt32).toInt32)), .val (.int (((((1 : Int32) + (16 : Int32)) + (8 : Int32)) + (4 : Int32)) + (2 : Int32)))]) rfl k_) ?_
            show Runs _ _ _ _ s₁ (mkF m 74 #[.val (.int ((((((((((p0 ^^^ (-1 : Int32)) &&& (p0 - (1 : Int32))).toUInt32 >>> ((16 : Int32) &&& 31).toUInt32).toInt32).toUInt32 >>> ((8 : Int32) &&& 31).toUInt32).toInt32).toUInt32 >>> ((4 : Int32) &&& 31).toUInt32).toInt32).toUInt32 >>> ((2 : Int32) &&& 31).toUInt32).toInt32)), .val (.int (((((1 : Int32) + (16 : Int32)) + (8 : Int32)) + (4 : Int32)) + (2 : Int32)))] [])
            refine Runs.back (fun t_ k_ => XS.iloadN X0.here hx rfl (hb hby d9_74) rfl k_) ?_
            show Runs _ _ _ _ s₁ (mkF m 75 #[.val (.int ((((((((((p0 ^^^ (-1 : Int32)) &&& (p0 - (1 : Int32))).toUInt32 >>> ((16 : Int32) &&& 31).toUInt32).toInt32).toUInt32 >>> ((8 : Int32) &&& 31).toUInt32).toInt32).toUInt32 >>> ((4 : Int32) &&& 31).toUInt32).toInt32).toUInt32 >>> ((2 : Int32) &&& 31).toUInt32).toInt32)), .val (.int (((((1 : Int32) + (16 : Int32)) + (8 : Int32)) + (4 : Int32)) + (2 : Int32)))] [(.int (((((1 : Int32) + (16 : Int32)) + (8 : Int32)) + (4 : Int32)) + (2 : Int32)))])
            refine Runs.back (fun t_ k_ => XS.iloadN X0.here hx rfl (hb hby d9_75) rfl k_) ?_
            show Runs _ _ _ _ s₁ (mkF m 76 #[.val (.int ((((((((((p0 ^^^ (-1 : Int32)) &&& (p0 - (1 : Int32))).toUInt32 >>> ((16 : Int32) &&& 31).toUInt32).toInt32).toUInt32 >>> ((8 : Int32) &&& 31).toUInt32).toInt32).toUInt32 >>> ((4 : Int32) &&& 31).toUInt32).toInt32).toUInt32 >>> ((2 : Int32) &&& 31).toUInt32).toInt32)), .val (.int (((((1 : Int32) + (16 : Int32)) + (8 : Int32)) + (4 : Int32)) + (2 : Int32)))] [(.int ((((((((((p0 ^^^ (-1 : Int32)) &&& (p0 - (1 : Int32))).toUInt32 >>> ((16 : Int32) &&& 31).toUInt32).toInt32).toUInt32 >>> ((8 : Int32) &&& 31).toUInt32).toInt32).toUInt32 >>> ((4 : Int32) &&& 31).toUInt32).toInt32).toUInt32 >>> ((2 : Int32) &&& 31).toUInt32).toInt32)), (.int (((((1 : Int32) + (16 : Int32)) + (8 : Int32)) + (4 : Int32)) + (2 : Int32)))])
            refine Runs.back (fun t_ k_ => XS.iconst X0.here hx rfl (hb hby d9_76) k_) ?_
            show Runs _ _ _ _ s₁ (mkF m 77 #[.val (.int ((((((((((p0 ^^^ (-1 : Int32)) &&& (p0 - (1 : Int32))).toUInt32 >>> ((16 : Int32) &&& 31).toUInt32).toInt32).toUInt32 >>> ((8 : Int32) &&& 31).toUInt32).toInt32).toUInt32 >>> ((4 : Int32) &&& 31).toUInt32).toInt32).toUInt32 >>> ((2 : Int32) &&& 31).toUInt32).toInt32)), .val (.int (((((1 : Int32) + (16 : Int32)) + (8 : Int32)) + (4 : Int32)) + (2 : Int32)))] [(.int (1 : Int32)), (.int ((((((((((p0 ^^^ (-1 : Int32)) &&& (p0 - (1 : Int32))).toUInt32 >>> ((16 : Int32) &&& 31).toUInt32).toInt32).toUInt32 >>> ((8 : Int32) &&& 31).toUInt32).toInt32).toUInt32 >>> ((4 : Int32) &&& 31).toUInt32).toInt32).toUInt32 >>> ((2 : Int32) &&& 31).toUInt32).toInt32)), (.int (((((1 : Int32) + (16 : Int32)) + (8 : Int32)) + (4 : Int32)) + (2 : Int32)))])
            refine Runs.back (fun t_ k_ => XS.iushr X0.here hx rfl (hb hby d9_77) rfl k_) ?_
            show Runs _ _ _ _ s₁ (mkF m 78 #[.val (.int ((((((((((p0 ^^^ (-1 : Int32)) &&& (p0 - (1 : Int32))).toUInt32 >>> ((16 : Int32) &&& 31).toUInt32).toInt32).toUInt32 >>> ((8 : Int32) &&& 31).toUInt32).toInt32).toUInt32 >>> ((4 : Int32) &&& 31).toUInt32).toInt32).toUInt32 >>> ((2 : Int32) &&& 31).toUInt32).toInt32)), .val (.int (((((1 : Int32) + (16 : Int32)) + (8 : Int32)) + (4 : Int32)) + (2 : Int32)))] [(.int ((((((((((((p0 ^^^ (-1 : Int32)) &&& (p0 - (1 : Int32))).toUInt32 >>> ((16 : Int32) &&& 31).toUInt32).toInt32).toUInt32 >>> ((8 : Int32) &&& 31).toUInt32).toInt32).toUInt32 >>> ((4 : Int32) &&& 31).toUInt32).toInt32).toUInt32 >>> ((2 : Int32) &&& 31).toUInt32).toInt32).toUInt32 >>> ((1 : Int32) &&& 31).toUInt32).toInt32)), (.int (((((1 : Int32) + (16 : Int32)) + (8 : Int32)) + (4 : Int32)) + (2 : Int32)))])
            refine Runs.back (fun t_ k_ => XS.iadd X0.here hx rfl (hb hby d9_78) rfl k_) ?_
            show Runs _ _ _ _ s₁ (mkF m 79 #[.val (.int ((((((((((p0 ^^^ (-1 : Int32)) &&& (p0 - (1 : Int32))).toUInt32 >>> ((16 : Int32) &&& 31).toUInt32).toInt32).toUInt32 >>> ((8 : Int32) &&& 31).toUInt32).toInt32).toUInt32 >>> ((4 : Int32) &&& 31).toUInt32).toInt32).toUInt32 >>> ((2 : Int32) &&& 31).toUInt32).toInt32)), .val (.int (((((1 : Int32) + (16 : Int32)) + (8 : Int32)) + (4 : Int32)) + (2 : Int32)))] [(.int ((((((1 : Int32) + (16 : Int32)) + (8 : Int32)) + (4 : Int32)) + (2 : Int32)) + ((((((((((((p0 ^^^ (-1 : Int32)) &&& (p0 - (1 : Int32))).toUInt32 >>> ((16 : Int32) &&& 31).toUInt32).toInt32).toUInt32 >>> ((8 : Int32) &&& 31).toUInt32).toInt32).toUInt32 >>> ((4 : Int32) &&& 31).toUInt32).toInt32).toUInt32 >>> ((2 : Int32) &&& 31).toUInt32).toInt32).toUInt32 >>> ((1 : Int32) &&& 31).toUInt32).toInt32)))])
            obtain ⟨fs, hr, hrun, hended, hW, hsame⟩ := X0.leave (v := some (.int ((((((1 : Int32) + (16 : Int32)) + (8 : Int32)) + (4 : Int32)) + (2 : Int32)) + ((((((((((((p0 ^^^ (-1 : Int32)) &&& (p0 - (1 : Int32))).toUInt32 >>> ((16 : Int32) &&& 31).toUInt32).toInt32).toUInt32 >>> ((8 : Int32) &&& 31).toUInt32).toInt32).toUInt32 >>> ((4 : Int32) &&& 31).toUInt32).toInt32).toUInt32 >>> ((2 : Int32) &&& 31).toUInt32).toInt32).toUInt32 >>> ((1 : Int32) &&& 31).toUInt32).toInt32)))) (fun h => by rw [Bd.returns] at h; cases h)
            exact ⟨_, _, (retI X0 hx Bd.returns (hb hby d9_79) hr), hrun, hended, _, _, rfl, ⟨(by first | rfl | (simp only [nI, ntzT, g0, g1, g2, g3, g4, if_pos c9_1, if_pos c23_2, if_pos c38_3, if_pos c52_4, if_pos c64_5]; done) | (simp +decide only [nI, ntzT, g0, g1, g2, g3, g4, if_pos c9_1, if_pos c23_2, if_pos c38_3, if_pos c52_4, if_pos c64_5, if_true, if_false, ↓reduceIte]; done) | (simp [nI, ntzT, g0, g1, g2, g3, g4, c9_1, c23_2, c38_3, c52_4, c64_5]; done)), N0, e0⟩, ⟨_, rfl⟩, hW, hsame.mono (by decide) (by decide)⟩
          · refine Runs.back (fun t_ k_ => XS.icmpYes X0.here hx rfl (pc0 := 64) (pc' := 74) rfl (hb hby d9_64) rfl (flt c64_5).2.2.2 (by decide) (by decide) k_) ?_
            show Runs _ _ _ _ s₁ (mkF m 74 #[.val (.int ((((((((p0 ^^^ (-1 : Int32)) &&& (p0 - (1 : Int32))).toUInt32 >>> ((16 : Int32) &&& 31).toUInt32).toInt32).toUInt32 >>> ((8 : Int32) &&& 31).toUInt32).toInt32).toUInt32 >>> ((4 : Int32) &&& 31).toUInt32).toInt32)), .val (.int ((((1 : Int32) + (16 : Int32)) + (8 : Int32)) + (4 : Int32)))] [])
            refine Runs.back (fun t_ k_ => XS.iloadN X0.here hx rfl (hb hby d9_74) rfl k_) ?_
            show Runs _ _ _ _ s₁ (mkF m 75 #[.val (.int ((((((((p0 ^^^ (-1 : Int32)) &&& (p0 - (1 : Int32))).toUInt32 >>> ((16 : Int32) &&& 31).toUInt32).toInt32).toUInt32 >>> ((8 : Int32) &&& 31).toUInt32).toInt32).toUInt32 >>> ((4 : Int32) &&& 31).toUInt32).toInt32)), .val (.int ((((1 : Int32) + (16 : Int32)) + (8 : Int32)) + (4 : Int32)))] [(.int ((((1 : Int32) + (16 : Int32)) + (8 : Int32)) + (4 : Int32)))])
            refine Runs.back (fun t_ k_ => XS.iloadN X0.here hx rfl (hb hby d9_75) rfl k_) ?_
            show Runs _ _ _ _ s₁ (mkF m 76 #[.val (.int ((((((((p0 ^^^ (-1 : Int32)) &&& (p0 - (1 : Int32))).toUInt32 >>> ((16 : Int32) &&& 31).toUInt32).toInt32).toUInt32 >>> ((8 : Int32) &&& 31).toUInt32).toInt32).toUInt32 >>> ((4 : Int32) &&& 31).toUInt32).toInt32)), .val (.int ((((1 : Int32) + (16 : Int32)) + (8 : Int32)) + (4 : Int32)))] [(.int ((((((((p0 ^^^ (-1 : Int32)) &&& (p0 - (1 : Int32))).toUInt32 >>> ((16 : Int32) &&& 31).toUInt32).toInt32).toUInt32 >>> ((8 : Int32) &&& 31).toUInt32).toInt32).toUInt32 >>> ((4 : Int32) &&& 31).toUInt32).toInt32)), (.int ((((1 : Int32) + (16 : Int32)) + (8 : Int32)) + (4 : Int32)))])
            refine Runs.back (fun t_ k_ => XS.iconst X0.here hx rfl (hb hby d9_76) k_) ?_
            show Runs _ _ _ _ s₁ (mkF m 77 #[.val (.int ((((((((p0 ^^^ (-1 : Int32)) &&& (p0 - (1 : Int32))).toUInt32 >>> ((16 : Int32) &&& 31).toUInt32).toInt32).toUInt32 >>> ((8 : Int32) &&& 31).toUInt32).toInt32).toUInt32 >>> ((4 : Int32) &&& 31).toUInt32).toInt32)), .val (.int ((((1 : Int32) + (16 : Int32)) + (8 : Int32)) + (4 : Int32)))] [(.int (1 : Int32)), (.int ((((((((p0 ^^^ (-1 : Int32)) &&& (p0 - (1 : Int32))).toUInt32 >>> ((16 : Int32) &&& 31).toUInt32).toInt32).toUInt32 >>> ((8 : Int32) &&& 31).toUInt32).toInt32).toUInt32 >>> ((4 : Int32) &&& 31).toUInt32).toInt32)), (.int ((((1 : Int32) + (16 : Int32)) + (8 : Int32)) + (4 : Int32)))])
            refine Runs.back (fun t_ k_ => XS.iushr X0.here hx rfl (hb hby d9_77) rfl k_) ?_
            show Runs _ _ _ _ s₁ (mkF m 78 #[.val (.int ((((((((p0 ^^^ (-1 : Int32)) &&& (p0 - (1 : Int32))).toUInt32 >>> ((16 : Int32) &&& 31).toUInt32).toInt32).toUInt32 >>> ((8 : Int32) &&& 31).toUInt32).toInt32).toUInt32 >>> ((4 : Int32) &&& 31).toUInt32).toInt32)), .val (.int ((((1 : Int32) + (16 : Int32)) + (8 : Int32)) + (4 : Int32)))] [(.int ((((((((((p0 ^^^ (-1 : Int32)) &&& (p0 - (1 : Int32))).toUInt32 >>> ((16 : Int32) &&& 31).toUInt32).toInt32).toUInt32 >>> ((8 : Int32) &&& 31).toUInt32).toInt32).toUInt32 >>> ((4 : Int32) &&& 31).toUInt32).toInt32).toUInt32 >>> ((1 : Int32) &&& 31).toUInt32).toInt32)), (.int ((((1 : Int32) + (16 : Int32)) + (8 : Int32)) + (4 : Int32)))])
            refine Runs.back (fun t_ k_ => XS.iadd X0.here hx rfl (hb hby d9_78) rfl k_) ?_
            show Runs _ _ _ _ s₁ (mkF m 79 #[.val (.int ((((((((p0 ^^^ (-1 : Int32)) &&& (p0 - (1 : Int32))).toUInt32 >>> ((16 : Int32) &&& 31).toUInt32).toInt32).toUInt32 >>> ((8 : Int32) &&& 31).toUInt32).toInt32).toUInt32 >>> ((4 : Int32) &&& 31).toUInt32).toInt32)), .val (.int ((((1 : Int32) + (16 : Int32)) + (8 : Int32)) + (4 : Int32)))] [(.int (((((1 : Int32) + (16 : Int32)) + (8 : Int32)) + (4 : Int32)) + ((((((((((p0 ^^^ (-1 : Int32)) &&& (p0 - (1 : Int32))).toUInt32 >>> ((16 : Int32) &&& 31).toUInt32).toInt32).toUInt32 >>> ((8 : Int32) &&& 31).toUInt32).toInt32).toUInt32 >>> ((4 : Int32) &&& 31).toUInt32).toInt32).toUInt32 >>> ((1 : Int32) &&& 31).toUInt32).toInt32)))])
            obtain ⟨fs, hr, hrun, hended, hW, hsame⟩ := X0.leave (v := some (.int (((((1 : Int32) + (16 : Int32)) + (8 : Int32)) + (4 : Int32)) + ((((((((((p0 ^^^ (-1 : Int32)) &&& (p0 - (1 : Int32))).toUInt32 >>> ((16 : Int32) &&& 31).toUInt32).toInt32).toUInt32 >>> ((8 : Int32) &&& 31).toUInt32).toInt32).toUInt32 >>> ((4 : Int32) &&& 31).toUInt32).toInt32).toUInt32 >>> ((1 : Int32) &&& 31).toUInt32).toInt32)))) (fun h => by rw [Bd.returns] at h; cases h)
            exact ⟨_, _, (retI X0 hx Bd.returns (hb hby d9_79) hr), hrun, hended, _, _, rfl, ⟨(by first | rfl | (simp only [nI, ntzT, g0, g1, g2, g3, g4, if_pos c9_1, if_pos c23_2, if_pos c38_3, if_pos c52_4, if_neg c64_5]; done) | (simp +decide only [nI, ntzT, g0, g1, g2, g3, g4, if_pos c9_1, if_pos c23_2, if_pos c38_3, if_pos c52_4, if_neg c64_5, if_true, if_false, ↓reduceIte]; done) | (simp [nI, ntzT, g0, g1, g2, g3, g4, c9_1, c23_2, c38_3, c52_4, c64_5]; done)), N0, e0⟩, ⟨_, rfl⟩, hW, hsame.mono (by decide) (by decide)⟩
        · refine Runs.back (fun t_ k_ => XS.icmpYes X0.here hx rfl (pc0 := 52) (pc' := 62) rfl (hb hby d9_52) rfl (flt c52_4).2.2.2 (by decide) (by decide) k_) ?_
          show Runs _ _ _ _ s₁ (mkF m 62 #[.val (.int ((((((p0 ^^^ (-1 : Int32)) &&& (p0 - (1 : Int32))).toUInt32 >>> ((16 : Int32) &&& 31).toUInt32).toInt32).toUInt32 >>> ((8 : Int32) &&& 31).toUInt32).toInt32)), .val (.int (((1 : Int32) + (16 : Int32)) + (8 : Int32)))] [])
          refine Runs.back (fun t_ k_ => XS.iloadN X0.here hx rfl (hb hby d9_62) rfl k_) ?_
          show Runs _ _ _ _ s₁ (mkF m 63 #[.val (.int ((((((p0 ^^^ (-1 : Int32)) &&& (p0 - (1 : Int32))).toUInt32 >>> ((16 : Int32) &&& 31).toUInt32).toInt32).toUInt32 >>> ((8 : Int32) &&& 31).toUInt32).toInt32)), .val (.int (((1 : Int32) + (16 : Int32)) + (8 : Int32)))] [(.int ((((((p0 ^^^ (-1 : Int32)) &&& (p0 - (1 : Int32))).toUInt32 >>> ((16 : Int32) &&& 31).toUInt32).toInt32).toUInt32 >>> ((8 : Int32) &&& 31).toUInt32).toInt32))])
          refine Runs.back (fun t_ k_ => XS.iconst X0.here hx rfl (hb hby d9_63) k_) ?_
          show Runs _ _ _ _ s₁ (mkF m 64 #[.val (.int ((((((p0 ^^^ (-1 : Int32)) &&& (p0 - (1 : Int32))).toUInt32 >>> ((16 : Int32) &&& 31).toUInt32).toInt32).toUInt32 >>> ((8 : Int32) &&& 31).toUInt32).toInt32)), .val (.int (((1 : Int32) + (16 : Int32)) + (8 : Int32)))] [(.int (4 : Int32)), (.int ((((((p0 ^^^ (-1 : Int32)) &&& (p0 - (1 : Int32))).toUInt32 >>> ((16 : Int32) &&& 31).toUInt32).toInt32).toUInt32 >>> ((8 : Int32) &&& 31).toUInt32).toInt32))])
          by_cases c64_6 : (4 : Int32) < ((((((p0 ^^^ (-1 : Int32)) &&& (p0 - (1 : Int32))).toUInt32 >>> ((16 : Int32) &&& 31).toUInt32).toInt32).toUInt32 >>> ((8 : Int32) &&& 31).toUInt32).toInt32)
          · refine Runs.back (fun t_ k_ => XS.icmpNo X0.here hx rfl (hb hby d9_64) rfl (tlt c64_6).2.2.2 k_) ?_
            show Runs _ _ _ _ s₁ (mkF m 67 #[.val (.int ((((((p0 ^^^ (-1 : Int32)) &&& (p0 - (1 : Int32))).toUInt32 >>> ((16 : Int32) &&& 31).toUInt32).toInt32).toUInt32 >>> ((8 : Int32) &&& 31).toUInt32).toInt32)), .val (.int (((1 : Int32) + (16 : Int32)) + (8 : Int32)))] [])
            refine Runs.back (fun t_ k_ => XS.iinc X0.here hx rfl (hb hby d9_67) rfl (l' := #[.val (.int ((((((p0 ^^^ (-1 : Int32)) &&& (p0 - (1 : Int32))).toUInt32 >>> ((16 : Int32) &&& 31).toUInt32).toInt32).toUInt32 >>> ((8 : Int32) &&& 31).toUInt32).toInt32)), .val (.int ((((1 : Int32) + (16 : Int32)) + (8 : Int32)) + (2 : Int32)))]) rfl k_) ?_
            show Runs _ _ _ _ s₁ (mkF m 70 #[.val (.int ((((((p0 ^^^ (-1 : Int32)) &&& (p0 - (1 : Int32))).toUInt32 >>> ((16 : Int32) &&& 31).toUInt32).toInt32).toUInt32 >>> ((8 : Int32) &&& 31).toUInt32).toInt32)), .val (.int ((((1 : Int32) + (16 : Int32)) + (8 : Int32)) + (2 : Int32)))] [])
            refine Runs.back (fun t_ k_ => XS.iloadN X0.here hx rfl (hb hby d9_70) rfl k_) ?_
            show Runs _ _ _ _ s₁ (mkF m 71 #[.val (.int ((((((p0 ^^^ (-1 : Int32)) &&& (p0 - (1 : Int32))).toUInt32 >>> ((16 : Int32) &&& 31).toUInt32).toInt32).toUInt32 >>> ((8 : Int32) &&& 31).toUInt32).toInt32)), .val (.int ((((1 : Int32) + (16 : Int32)) + (8 : Int32)) + (2 : Int32)))] [(.int ((((((p0 ^^^ (-1 : Int32)) &&& (p0 - (1 : Int32))).toUInt32 >>> ((16 : Int32) &&& 31).toUInt32).toInt32).toUInt32 >>> ((8 : Int32) &&& 31).toUInt32).toInt32))])
            refine Runs.back (fun t_ k_ => XS.iconst X0.here hx rfl (hb hby d9_71) k_) ?_
            show Runs _ _ _ _ s₁ (mkF m 72 #[.val (.int ((((((p0 ^^^ (-1 : Int32)) &&& (p0 - (1 : Int32))).toUInt32 >>> ((16 : Int32) &&& 31).toUInt32).toInt32).toUInt32 >>> ((8 : Int32) &&& 31).toUInt32).toInt32)), .val (.int ((((1 : Int32) + (16 : Int32)) + (8 : Int32)) + (2 : Int32)))] [(.int (2 : Int32)), (.int ((((((p0 ^^^ (-1 : Int32)) &&& (p0 - (1 : Int32))).toUInt32 >>> ((16 : Int32) &&& 31).toUInt32).toInt32).toUInt32 >>> ((8 : Int32) &&& 31).toUInt32).toInt32))])
            refine Runs.back (fun t_ k_ => XS.iushr X0.here hx rfl (hb hby d9_72) rfl k_) ?_
            show Runs _ _ _ _ s₁ (mkF m 73 #[.val (.int ((((((p0 ^^^ (-1 : Int32)) &&& (p0 - (1 : Int32))).toUInt32 >>> ((16 : Int32) &&& 31).toUInt32).toInt32).toUInt32 >>> ((8 : Int32) &&& 31).toUInt32).toInt32)), .val (.int ((((1 : Int32) + (16 : Int32)) + (8 : Int32)) + (2 : Int32)))] [(.int ((((((((p0 ^^^ (-1 : Int32)) &&& (p0 - (1 : Int32))).toUInt32 >>> ((16 : Int32) &&& 31).toUInt32).toInt32).toUInt32 >>> ((8 : Int32) &&& 31).toUInt32).toInt32).toUInt32 >>> ((2 : Int32) &&& 31).toUInt32).toInt32))])
            refine Runs.back (fun t_ k_ => XS.istoreN X0.here hx rfl (hb hby d9_73) rfl (l' := #[.val (.int ((((((((p0 ^^^ (-1 : Int32)) &&& (p0 - (1 : Int32))).toUInt32 >>> ((16 : Int32) &&& 31).toUInt32).toInt32).toUInt32 >>> ((8 : Int32) &&& 31).toUInt32).toInt32).toUInt32 >>> ((2 : Int32) &&& 31).toUInt32).toInt32)), .val (.int ((((1 : Int32) + (16 : Int32)) + (8 : Int32)) + (2 : Int32)))]) rfl k_) ?_
            show Runs _ _ _ _ s₁ (mkF m 74 #[.val (.int ((((((((p0 ^^^ (-1 : Int32)) &&& (p0 - (1 : Int32))).toUInt32 >>> ((16 : Int32) &&& 31).toUInt32).toInt32).toUInt32 >>> ((8 : Int32) &&& 31).toUInt32).toInt32).toUInt32 >>> ((2 : Int32) &&& 31).toUInt32).toInt32)), .val (.int ((((1 : Int32) + (16 : Int32)) + (8 : Int32)) + (2 : Int32)))] [])
            refine Runs.back (fun t_ k_ => XS.iloadN X0.here hx rfl (hb hby d9_74) rfl k_) ?_
            show Runs _ _ _ _ s₁ (mkF m 75 #[.val (.int ((((((((p0 ^^^ (-1 : Int32)) &&& (p0 - (1 : Int32))).toUInt32 >>> ((16 : Int32) &&& 31).toUInt32).toInt32).toUInt32 >>> ((8 : Int32) &&& 31).toUInt32).toInt32).toUInt32 >>> ((2 : Int32) &&& 31).toUInt32).toInt32)), .val (.int ((((1 : Int32) + (16 : Int32)) + (8 : Int32)) + (2 : Int32)))] [(.int ((((1 : Int32) + (16 : Int32)) + (8 : Int32)) + (2 : Int32)))])
            refine Runs.back (fun t_ k_ => XS.iloadN X0.here hx rfl (hb hby d9_75) rfl k_) ?_
            show Runs _ _ _ _ s₁ (mkF m 76 #[.val (.int ((((((((p0 ^^^ (-1 : Int32)) &&& (p0 - (1 : Int32))).toUInt32 >>> ((16 : Int32) &&& 31).toUInt32).toInt32).toUInt32 >>> ((8 : Int32) &&& 31).toUInt32).toInt32).toUInt32 >>> ((2 : Int32) &&& 31).toUInt32).toInt32)), .val (.int ((((1 : Int32) + (16 : Int32)) + (8 : Int32)) + (2 : Int32)))] [(.int ((((((((p0 ^^^ (-1 : Int32)) &&& (p0 - (1 : Int32))).toUInt32 >>> ((16 : Int32) &&& 31).toUInt32).toInt32).toUInt32 >>> ((8 : Int32) &&& 31).toUInt32).toInt32).toUInt32 >>> ((2 : Int32) &&& 31).toUInt32).toInt32)), (.int ((((1 : Int32) + (16 : Int32)) + (8 : Int32)) + (2 : Int32)))])
            refine Runs.back (fun t_ k_ => XS.iconst X0.here hx rfl (hb hby d9_76) k_) ?_
            show Runs _ _ _ _ s₁ (mkF m 77 #[.val (.int ((((((((p0 ^^^ (-1 : Int32)) &&& (p0 - (1 : Int32))).toUInt32 >>> ((16 : Int32) &&& 31).toUInt32).toInt32).toUInt32 >>> ((8 : Int32) &&& 31).toUInt32).toInt32).toUInt32 >>> ((2 : Int32) &&& 31).toUInt32).toInt32)), .val (.int ((((1 : Int32) + (16 : Int32)) + (8 : Int32)) + (2 : Int32)))] [(.int (1 : Int32)), (.int ((((((((p0 ^^^ (-1 : Int32)) &&& (p0 - (1 : Int32))).toUInt32 >>> ((16 : Int32) &&& 31).toUInt32).toInt32).toUInt32 >>> ((8 : Int32) &&& 31).toUInt32).toInt32).toUInt32 >>> ((2 : Int32) &&& 31).toUInt32).toInt32)), (.int ((((1 : Int32) + (16 : Int32)) + (8 : Int32)) + (2 : Int32)))])
            refine Runs.back (fun t_ k_ => XS.iushr X0.here hx rfl (hb hby d9_77) rfl k_) ?_
            show Runs _ _ _ _ s₁ (mkF m 78 #[.val (.int ((((((((p0 ^^^ (-1 : Int32)) &&& (p0 - (1 : Int32))).toUInt32 >>> ((16 : Int32) &&& 31).toUInt32).toInt32).toUInt32 >>> ((8 : Int32) &&& 31).toUInt32).toInt32).toUInt32 >>> ((2 : Int32) &&& 31).toUInt32).toInt32)), .val (.int ((((1 : Int32) + (16 : Int32)) + (8 : Int32)) + (2 : Int32)))] [(.int ((((((((((p0 ^^^ (-1 : Int32)) &&& (p0 - (1 : Int32))).toUInt32 >>> ((16 : Int32) &&& 31).toUInt32).toInt32).toUInt32 >>> ((8 : Int32) &&& 31).toUInt32).toInt32).toUInt32 >>> ((2 : Int32) &&& 31).toUInt32).toInt32).toUInt32 >>> ((1 : Int32) &&& 31).toUInt32).toInt32)), (.int ((((1 : Int32) + (16 : Int32)) + (8 : Int32)) + (2 : Int32)))])
            refine Runs.back (fun t_ k_ => XS.iadd X0.here hx rfl (hb hby d9_78) rfl k_) ?_
            show Runs _ _ _ _ s₁ (mkF m 79 #[.val (.int ((((((((p0 ^^^ (-1 : Int32)) &&& (p0 - (1 : Int32))).toUInt32 >>> ((16 : Int32) &&& 31).toUInt32).toInt32).toUInt32 >>> ((8 : Int32) &&& 31).toUInt32).toInt32).toUInt32 >>> ((2 : Int32) &&& 31).toUInt32).toInt32)), .val (.int ((((1 : Int32) + (16 : Int32)) + (8 : Int32)) + (2 : Int32)))] [(.int (((((1 : Int32) + (16 : Int32)) + (8 : Int32)) + (2 : Int32)) + ((((((((((p0 ^^^ (-1 : Int32)) &&& (p0 - (1 : Int32))).toUInt32 >>> ((16 : Int32) &&& 31).toUInt32).toInt32).toUInt32 >>> ((8 : Int32) &&& 31).toUInt32).toInt32).toUInt32 >>> ((2 : Int32) &&& 31).toUInt32).toInt32).toUInt32 >>> ((1 : Int32) &&& 31).toUInt32).toInt32)))])
            obtain ⟨fs, hr, hrun, hended, hW, hsame⟩ := X0.leave (v := some (.int (((((1 : Int32) + (16 : Int32)) + (8 : Int32)) + (2 : Int32)) + ((((((((((p0 ^^^ (-1 : Int32)) &&& (p0 - (1 : Int32))).toUInt32 >>> ((16 : Int32) &&& 31).toUInt32).toInt32).toUInt32 >>> ((8 : Int32) &&& 31).toUInt32).toInt32).toUInt32 >>> ((2 : Int32) &&& 31).toUInt32).toInt32).toUInt32 >>> ((1 : Int32) &&& 31).toUInt32).toInt32)))) (fun h => by rw [Bd.returns] at h; cases h)
            exact ⟨_, _, (retI X0 hx Bd.returns (hb hby d9_79) hr), hrun, hended, _, _, rfl, ⟨(by first | rfl | (simp only [nI, ntzT, g0, g1, g2, g3, g4, if_pos c9_1, if_pos c23_2, if_pos c38_3, if_neg c52_4, if_pos c64_6]; done) | (simp +decide only [nI, ntzT, g0, g1, g2, g3, g4, if_pos c9_1, if_pos c23_2, if_pos c38_3, if_neg c52_4, if_pos c64_6, if_true, if_false, ↓reduceIte]; done) | (simp [nI, ntzT, g0, g1, g2, g3, g4, c9_1, c23_2, c38_3, c52_4, c64_6]; done)), N0, e0⟩, ⟨_, rfl⟩, hW, hsame.mono (by decide) (by decide)⟩
          · refine Runs.back (fun t_ k_ => XS.icmpYes X0.here hx rfl (pc0 := 64) (pc' := 74) rfl (hb hby d9_64) rfl (flt c64_6).2.2.2 (by decide) (by decide) k_) ?_
            show Runs _ _ _ _ s₁ (mkF m 74 #[.val (.int ((((((p0 ^^^ (-1 : Int32)) &&& (p0 - (1 : Int32))).toUInt32 >>> ((16 : Int32) &&& 31).toUInt32).toInt32).toUInt32 >>> ((8 : Int32) &&& 31).toUInt32).toInt32)), .val (.int (((1 : Int32) + (16 : Int32)) + (8 : Int32)))] [])
            refine Runs.back (fun t_ k_ => XS.iloadN X0.here hx rfl (hb hby d9_74) rfl k_) ?_
            show Runs _ _ _ _ s₁ (mkF m 75 #[.val (.int ((((((p0 ^^^ (-1 : Int32)) &&& (p0 - (1 : Int32))).toUInt32 >>> ((16 : Int32) &&& 31).toUInt32).toInt32).toUInt32 >>> ((8 : Int32) &&& 31).toUInt32).toInt32)), .val (.int (((1 : Int32) + (16 : Int32)) + (8 : Int32)))] [(.int (((1 : Int32) + (16 : Int32)) + (8 : Int32)))])
            refine Runs.back (fun t_ k_ => XS.iloadN X0.here hx rfl (hb hby d9_75) rfl k_) ?_
            show Runs _ _ _ _ s₁ (mkF m 76 #[.val (.int ((((((p0 ^^^ (-1 : Int32)) &&& (p0 - (1 : Int32))).toUInt32 >>> ((16 : Int32) &&& 31).toUInt32).toInt32).toUInt32 >>> ((8 : Int32) &&& 31).toUInt32).toInt32)), .val (.int (((1 : Int32) + (16 : Int32)) + (8 : Int32)))] [(.int ((((((p0 ^^^ (-1 : Int32)) &&& (p0 - (1 : Int32))).toUInt32 >>> ((16 : Int32) &&& 31).toUInt32).toInt32).toUInt32 >>> ((8 : Int32) &&& 31).toUInt32).toInt32)), (.int (((1 : Int32) + (16 : Int32)) + (8 : Int32)))])
            refine Runs.back (fun t_ k_ => XS.iconst X0.here hx rfl (hb hby d9_76) k_) ?_
            show Runs _ _ _ _ s₁ (mkF m 77 #[.val (.int ((((((p0 ^^^ (-1 : Int32)) &&& (p0 - (1 : Int32))).toUInt32 >>> ((16 : Int32) &&& 31).toUInt32).toInt32).toUInt32 >>> ((8 : Int32) &&& 31).toUInt32).toInt32)), .val (.int (((1 : Int32) + (16 : Int32)) + (8 : Int32)))] [(.int (1 : Int32)), (.int ((((((p0 ^^^ (-1 : Int32)) &&& (p0 - (1 : Int32))).toUInt32 >>> ((16 : Int32) &&& 31).toUInt32).toInt32).toUInt32 >>> ((8 : Int32) &&& 31).toUInt32).toInt32)), (.int (((1 : Int32) + (16 : Int32)) + (8 : Int32)))])
            refine Runs.back (fun t_ k_ => XS.iushr X0.here hx rfl (hb hby d9_77) rfl k_) ?_
            show Runs _ _ _ _ s₁ (mkF m 78 #[.val (.int ((((((p0 ^^^ (-1 : Int32)) &&& (p0 - (1 : Int32))).toUInt32 >>> ((16 : Int32) &&& 31).toUInt32).toInt32).toUInt32 >>> ((8 : Int32) &&& 31).toUInt32).toInt32)), .val (.int (((1 : Int32) + (16 : Int32)) + (8 : Int32)))] [(.int ((((((((p0 ^^^ (-1 : Int32)) &&& (p0 - (1 : Int32))).toUInt32 >>> ((16 : Int32) &&& 31).toUInt32).toInt32).toUInt32 >>> ((8 : Int32) &&& 31).toUInt32).toInt32).toUInt32 >>> ((1 : Int32) &&& 31).toUInt32).toInt32)), (.int (((1 : Int32) + (16 : Int32)) + (8 : Int32)))])
            refine Runs.back (fun t_ k_ => XS.iadd X0.here hx rfl (hb hby d9_78) rfl k_) ?_
            show Runs _ _ _ _ s₁ (mkF m 79 #[.val (.int ((((((p0 ^^^ (-1 : Int32)) &&& (p0 - (1 : Int32))).toUInt32 >>> ((16 : Int32) &&& 31).toUInt32).toInt32).toUInt32 >>> ((8 : Int32) &&& 31).toUInt32).toInt32)), .val (.int (((1 : Int32) + (16 : Int32)) + (8 : Int32)))] [(.int ((((1 : Int32) + (16 : Int32)) + (8 : Int32)) + ((((((((p0 ^^^ (-1 : Int32)) &&& (p0 - (1 : Int32))).toUInt32 >>> ((16 : Int32) &&& 31).toUInt32).toInt32).toUInt32 >>> ((8 : Int32) &&& 31).toUInt32).toInt32).toUInt32 >>> ((1 : Int32) &&& 31).toUInt32).toInt32)))])
            obtain ⟨fs, hr, hrun, hended, hW, hsame⟩ := X0.leave (v := some (.int ((((1 : Int32) + (16 : Int32)) + (8 : Int32)) + ((((((((p0 ^^^ (-1 : Int32)) &&& (p0 - (1 : Int32))).toUInt32 >>> ((16 : Int32) &&& 31).toUInt32).toInt32).toUInt32 >>> ((8 : Int32) &&& 31).toUInt32).toInt32).toUInt32 >>> ((1 : Int32) &&& 31).toUInt32).toInt32)))) (fun h => by rw [Bd.returns] at h; cases h)
            exact ⟨_, _, (retI X0 hx Bd.returns (hb hby d9_79) hr), hrun, hended, _, _, rfl, ⟨(by first | rfl | (simp only [nI, ntzT, g0, g1, g2, g3, g4, if_pos c9_1, if_pos c23_2, if_pos c38_3, if_neg c52_4, if_neg c64_6]; done) | (simp +decide only [nI, ntzT, g0, g1, g2, g3, g4, if_pos c9_1, if_pos c23_2, if_pos c38_3, if_neg c52_4, if_neg c64_6, if_true, if_false, ↓reduceIte]; done) | (simp [nI, ntzT, g0, g1, g2, g3, g4, c9_1, c23_2, c38_3, c52_4, c64_6]; done)), N0, e0⟩, ⟨_, rfl⟩, hW, hsame.mono (by decide) (by decide)⟩
      · refine Runs.back (fun t_ k_ => XS.icmpYes X0.here hx rfl (pc0 := 38) (pc' := 49) rfl (hb hby d9_38) rfl (flt c38_3).2.2.2 (by decide) (by decide) k_) ?_
        show Runs _ _ _ _ s₁ (mkF m 49 #[.val (.int ((((p0 ^^^ (-1 : Int32)) &&& (p0 - (1 : Int32))).toUInt32 >>> ((16 : Int32) &&& 31).toUInt32).toInt32)), .val (.int ((1 : Int32) + (16 : Int32)))] [])
        refine Runs.back (fun t_ k_ => XS.iloadN X0.here hx rfl (hb hby d9_49) rfl k_) ?_
        show Runs _ _ _ _ s₁ (mkF m 50 #[.val (.int ((((p0 ^^^ (-1 : Int32)) &&& (p0 - (1 : Int32))).toUInt32 >>> ((16 : Int32) &&& 31).toUInt32).toInt32)), .val (.int ((1 : Int32) + (16 : Int32)))] [(.int ((((p0 ^^^ (-1 : Int32)) &&& (p0 - (1 : Int32))).toUInt32 >>> ((16 : Int32) &&& 31).toUInt32).toInt32))])
        refine Runs.back (fun t_ k_ => XS.bipush X0.here hx rfl (hb hby d9_50) k_) ?_
        show Runs _ _ _ _ s₁ (mkF m 52 #[.val (.int ((((p0 ^^^ (-1 : Int32)) &&& (p0 - (1 : Int32))).toUInt32 >>> ((16 : Int32) &&& 31).toUInt32).toInt32)), .val (.int ((1 : Int32) + (16 : Int32)))] [(.int (16 : Int32)), (.int ((((p0 ^^^ (-1 : Int32)) &&& (p0 - (1 : Int32))).toUInt32 >>> ((16 : Int32) &&& 31).toUInt32).toInt32))])
        by_cases c52_7 : (16 : Int32) < ((((p0 ^^^ (-1 : Int32)) &&& (p0 - (1 : Int32))).toUInt32 >>> ((16 : Int32) &&& 31).toUInt32).toInt32)
        · refine Runs.back (fun t_ k_ => XS.icmpNo X0.here hx rfl (hb hby d9_52) rfl (tlt c52_7).2.2.2 k_) ?_
          show Runs _ _ _ _ s₁ (mkF m 55 #[.val (.int ((((p0 ^^^ (-1 : Int32)) &&& (p0 - (1 : Int32))).toUInt32 >>> ((16 : Int32) &&& 31).toUInt32).toInt32)), .val (.int ((1 : Int32) + (16 : Int32)))] [])
          refine Runs.back (fun t_ k_ => XS.iinc X0.here hx rfl (hb hby d9_55) rfl (l' := #[.val (.int ((((p0 ^^^ (-1 : Int32)) &&& (p0 - (1 : Int32))).toUInt32 >>> ((16 : Int32) &&& 31).toUInt32).toInt32)), .val (.int (((1 : Int32) + (16 : Int32)) + (4 : Int32)))]) rfl k_) ?_
          show Runs _ _ _ _ s₁ (mkF m 58 #[.val (.int ((((p0 ^^^ (-1 : Int32)) &&& (p0 - (1 : Int32))).toUInt32 >>> ((16 : Int32) &&& 31).toUInt32).toInt32)), .val (.int (((1 : Int32) + (16 : Int32)) + (4 : Int32)))] [])
          refine Runs.back (fun t_ k_ => XS.iloadN X0.here hx rfl (hb hby d9_58) rfl k_) ?_
          show Runs _ _ _ _ s₁ (mkF m 59 #[.val (.int ((((p0 ^^^ (-1 : Int32)) &&& (p0 - (1 : Int32))).toUInt32 >>> ((16 : Int32) &&& 31).toUInt32).toInt32)), .val (.int (((1 : Int32) + (16 : Int32)) + (4 : Int32)))] [(.int ((((p0 ^^^ (-1 : Int32)) &&& (p0 - (1 : Int32))).toUInt32 >>> ((16 : Int32) &&& 31).toUInt32).toInt32))])
          refine Runs.back (fun t_ k_ => XS.iconst X0.here hx rfl (hb hby d9_59) k_) ?_
          show Runs _ _ _ _ s₁ (mkF m 60 #[.val (.int ((((p0 ^^^ (-1 : Int32)) &&& (p0 - (1 : Int32))).toUInt32 >>> ((16 : Int32) &&& 31).toUInt32).toInt32)), .val (.int (((1 : Int32) + (16 : Int32)) + (4 : Int32)))] [(.int (4 : Int32)), (.int ((((p0 ^^^ (-1 : Int32)) &&& (p0 - (1 : Int32))).toUInt32 >>> ((16 : Int32) &&& 31).toUInt32).toInt32))])
          refine Runs.back (fun t_ k_ => XS.iushr X0.here hx rfl (hb hby d9_60) rfl k_) ?_
          show Runs _ _ _ _ s₁ (mkF m 61 #[.val (.int ((((p0 ^^^ (-1 : Int32)) &&& (p0 - (1 : Int32))).toUInt32 >>> ((16 : Int32) &&& 31).toUInt32).toInt32)), .val (.int (((1 : Int32) + (16 : Int32)) + (4 : Int32)))] [(.int ((((((p0 ^^^ (-1 : Int32)) &&& (p0 - (1 : Int32))).toUInt32 >>> ((16 : Int32) &&& 31).toUInt32).toInt32).toUInt32 >>> ((4 : Int32) &&& 31).toUInt32).toInt32))])
          refine Runs.back (fun t_ k_ => XS.istoreN X0.here hx rfl (hb hby d9_61) rfl (l' := #[.val (.int ((((((p0 ^^^ (-1 : Int32)) &&& (p0 - (1 : Int32))).toUInt32 >>> ((16 : Int32) &&& 31).toUInt32).toInt32).toUInt32 >>> ((4 : Int32) &&& 31).toUInt32).toInt32)), .val (.int (((1 : Int32) + (16 : Int32)) + (4 : Int32)))]) rfl k_) ?_
          show Runs _ _ _ _ s₁ (mkF m 62 #[.val (.int ((((((p0 ^^^ (-1 : Int32)) &&& (p0 - (1 : Int32))).toUInt32 >>> ((16 : Int32) &&& 31).toUInt32).toInt32).toUInt32 >>> ((4 : Int32) &&& 31).toUInt32).toInt32)), .val (.int (((1 : Int32) + (16 : Int32)) + (4 : Int32)))] [])
          refine Runs.back (fun t_ k_ => XS.iloadN X0.here hx rfl (hb hby d9_62) rfl k_) ?_
          show Runs _ _ _ _ s₁ (mkF m 63 #[.val (.int ((((((p0 ^^^ (-1 : Int32)) &&& (p0 - (1 : Int32))).toUInt32 >>> ((16 : Int32) &&& 31).toUInt32).toInt32).toUInt32 >>> ((4 : Int32) &&& 31).toUInt32).toInt32)), .val (.int (((1 : Int32) + (16 : Int32)) + (4 : Int32)))] [(.int ((((((p0 ^^^ (-1 : Int32)) &&& (p0 - (1 : Int32))).toUInt32 >>> ((16 : Int32) &&& 31).toUInt32).toInt32).toUInt32 >>> ((4 : Int32) &&& 31).toUInt32).toInt32))])
          refine Runs.back (fun t_ k_ => XS.iconst X0.here hx rfl (hb hby d9_63) k_) ?_
          show Runs _ _ _ _ s₁ (mkF m 64 #[.val (.int ((((((p0 ^^^ (-1 : Int32)) &&& (p0 - (1 : Int32))).toUInt32 >>> ((16 : Int32) &&& 31).toUInt32).toInt32).toUInt32 >>> ((4 : Int32) &&& 31).toUInt32).toInt32)), .val (.int (((1 : Int32) + (16 : Int32)) + (4 : Int32)))] [(.int (4 : Int32)), (.int ((((((p0 ^^^ (-1 : Int32)) &&& (p0 - (1 : Int32))).toUInt32 >>> ((16 : Int32) &&& 31).toUInt32).toInt32).toUInt32 >>> ((4 : Int32) &&& 31).toUInt32).toInt32))])
          by_cases c64_8 : (4 : Int32) < ((((((p0 ^^^ (-1 : Int32)) &&& (p0 - (1 : Int32))).toUInt32 >>> ((16 : Int32) &&& 31).toUInt32).toInt32).toUInt32 >>> ((4 : Int32) &&& 31).toUInt32).toInt32)
          · refine Runs.back (fun t_ k_ => XS.icmpNo X0.here hx rfl (hb hby d9_64) rfl (tlt c64_8).2.2.2 k_) ?_
            show Runs _ _ _ _ s₁ (mkF m 67 #[.val (.int ((((((p0 ^^^ (-1 : Int32)) &&& (p0 - (1 : Int32))).toUInt32 >>> ((16 : Int32) &&& 31).toUInt32).toInt32).toUInt32 >>> ((4 : Int32) &&& 31).toUInt32).toInt32)), .val (.int (((1 : Int32) + (16 : Int32)) + (4 : Int32)))] [])
            refine Runs.back (fun t_ k_ => XS.iinc X0.here hx rfl (hb hby d9_67) rfl (l' := #[.val (.int ((((((p0 ^^^ (-1 : Int32)) &&& (p0 - (1 : Int32))).toUInt32 >>> ((16 : Int32) &&& 31).toUInt32).toInt32).toUInt32 >>> ((4 : Int32) &&& 31).toUInt32).toInt32)), .val (.int ((((1 : Int32) + (16 : Int32)) + (4 : Int32)) + (2 : Int32)))]) rfl k_) ?_
            show Runs _ _ _ _ s₁ (mkF m 70 #[.val (.int ((((((p0 ^^^ (-1 : Int32)) &&& (p0 - (1 : Int32))).toUInt32 >>> ((16 : Int32) &&& 31).toUInt32).toInt32).toUInt32 >>> ((4 : Int32) &&& 31).toUInt32).toInt32)), .val (.int ((((1 : Int32) + (16 : Int32)) + (4 : Int32)) + (2 : Int32)))] [])
            refine Runs.back (fun t_ k_ => XS.iloadN X0.here hx rfl (hb hby d9_70) rfl k_) ?_
            show Runs _ _ _ _ s₁ (mkF m 71 #[.val (.int ((((((p0 ^^^ (-1 : Int32)) &&& (p0 - (1 : Int32))).toUInt32 >>> ((16 : Int32) &&& 31).toUInt32).toInt32).toUInt32 >>> ((4 : Int32) &&& 31).toUInt32).toInt32)), .val (.int ((((1 : Int32) + (16 : Int32)) + (4 : Int32)) + (2 : Int32)))] [(.int ((((((p0 ^^^ (-1 : Int32)) &&& (p0 - (1 : Int32))).toUInt32 >>> ((16 : Int32) &&& 31).toUInt32).toInt32).toUInt32 >>> ((4 : Int32) &&& 31).toUInt32).toInt32))])
            refine Runs.back (fun t_ k_ => XS.iconst X0.here hx rfl (hb hby d9_71) k_) ?_
            show Runs _ _ _ _ s₁ (mkF m 72 #[.val (.int ((((((p0 ^^^ (-1 : Int32)) &&& (p0 - (1 : Int32))).toUInt32 >>> ((16 : Int32) &&& 31).toUInt32).toInt32).toUInt32 >>> ((4 : Int32) &&& 31).toUInt32).toInt32)), .val (.int ((((1 : Int32) + (16 : Int32)) + (4 : Int32)) + (2 : Int32)))] [(.int (2 : Int32)), (.int ((((((p0 ^^^ (-1 : Int32)) &&& (p0 - (1 : Int32))).toUInt32 >>> ((16 : Int32) &&& 31).toUInt32).toInt32).toUInt32 >>> ((4 : Int32) &&& 31).toUInt32).toInt32))])
            refine Runs.back (fun t_ k_ => XS.iushr X0.here hx rfl (hb hby d9_72) rfl k_) ?_
            show Runs _ _ _ _ s₁ (mkF m 73 #[.val (.int ((((((p0 ^^^ (-1 : Int32)) &&& (p0 - (1 : Int32))).toUInt32 >>> ((16 : Int32) &&& 31).toUInt32).toInt32).toUInt32 >>> ((4 : Int32) &&& 31).toUInt32).toInt32)), .val (.int ((((1 : Int32) + (16 : Int32)) + (4 : Int32)) + (2 : Int32)))] [(.int ((((((((p0 ^^^ (-1 : Int32)) &&& (p0 - (1 : Int32))).toUInt32 >>> ((16 : Int32) &&& 31).toUInt32).toInt32).toUInt32 >>> ((4 : Int32) &&& 31).toUInt32).toInt32).toUInt32 >>> ((2 : Int32) &&& 31).toUInt32).toInt32))])
            refine Runs.back (fun t_ k_ => XS.istoreN X0.here hx rfl (hb hby d9_73) rfl (l' := #[.val (.int ((((((((p0 ^^^ (-1 : Int32)) &&& (p0 - (1 : Int32))).toUInt32 >>> ((16 : Int32) &&& 31).toUInt32).toInt32).toUInt32 >>> ((4 : Int32) &&& 31).toUInt32).toInt32).toUInt32 >>> ((2 : Int32) &&& 31).toUInt32).toInt32)), .val (.int ((((1 : Int32) + (16 : Int32)) + (4 : Int32)) + (2 : Int32)))]) rfl k_) ?_
            show Runs _ _ _ _ s₁ (mkF m 74 #[.val (.int ((((((((p0 ^^^ (-1 : Int32)) &&& (p0 - (1 : Int32))).toUInt32 >>> ((16 : Int32) &&& 31).toUInt32).toInt32).toUInt32 >>> ((4 : Int32) &&& 31).toUInt32).toInt32).toUInt32 >>> ((2 : Int32) &&& 31).toUInt32).toInt32)), .val (.int ((((1 : Int32) + (16 : Int32)) + (4 : Int32)) + (2 : Int32)))] [])
            refine Runs.back (fun t_ k_ => XS.iloadN X0.here hx rfl (hb hby d9_74) rfl k_) ?_
            show Runs _ _ _ _ s₁ (mkF m 75 #[.val (.int ((((((((p0 ^^^ (-1 : Int32)) &&& (p0 - (1 : Int32))).toUInt32 >>> ((16 : Int32) &&& 31).toUInt32).toInt32).toUInt32 >>> ((4 : Int32) &&& 31).toUInt32).toInt32).toUInt32 >>> ((2 : Int32) &&& 31).toUInt32).toInt32)), .val (.int ((((1 : Int32) + (16 : Int32)) + (4 : Int32)) + (2 : Int32)))] [(.int ((((1 : Int32) + (16 : Int32)) + (4 : Int32)) + (2 : Int32)))])
            refine Runs.back (fun t_ k_ => XS.iloadN X0.here hx rfl (hb hby d9_75) rfl k_) ?_
            show Runs _ _ _ _ s₁ (mkF m 76 #[.val (.int ((((((((p0 ^^^ (-1 : Int32)) &&& (p0 - (1 : Int32))).toUInt32 >>> ((16 : Int32) &&& 31).toUInt32).toInt32).toUInt32 >>> ((4 : Int32) &&& 31).toUInt32).toInt32).toUInt32 >>> ((2 : Int32) &&& 31).toUInt32).toInt32)), .val (.int ((((1 : Int32) + (16 : Int32)) + (4 : Int32)) + (2 : Int32)))] [(.int ((((((((p0 ^^^ (-1 : Int32)) &&& (p0 - (1 : Int32))).toUInt32 >>> ((16 : Int32) &&& 31).toUInt32).toInt32).toUInt32 >>> ((4 : Int32) &&& 31).toUInt32).toInt32).toUInt32 >>> ((2 : Int32) &&& 31).toUInt32).toInt32)), (.int ((((1 : Int32) + (16 : Int32)) + (4 : Int32)) + (2 : Int32)))])
            refine Runs.back (fun t_ k_ => XS.iconst X0.here hx rfl (hb hby d9_76) k_) ?_
            show Runs _ _ _ _ s₁ (mkF m 77 #[.val (.int ((((((((p0 ^^^ (-1 : Int32)) &&& (p0 - (1 : Int32))).toUInt32 >>> ((16 : Int32) &&& 31).toUInt32).toInt32).toUInt32 >>> ((4 : Int32) &&& 31).toUInt32).toInt32).toUInt32 >>> ((2 : Int32) &&& 31).toUInt32).toInt32)), .val (.int ((((1 : Int32) + (16 : Int32)) + (4 : Int32)) + (2 : Int32)))] [(.int (1 : Int32)), (.int ((((((((p0 ^^^ (-1 : Int32)) &&& (p0 - (1 : Int32))).toUInt32 >>> ((16 : Int32) &&& 31).toUInt32).toInt32).toUInt32 >>> ((4 : Int32) &&& 31).toUInt32).toInt32).toUInt32 >>> ((2 : Int32) &&& 31).toUInt32).toInt32)), (.int ((((1 : Int32) + (16 : Int32)) + (4 : Int32)) + (2 : Int32)))])
            refine Runs.back (fun t_ k_ => XS.iushr X0.here hx rfl (hb hby d9_77) rfl k_) ?_
            show Runs _ _ _ _ s₁ (mkF m 78 #[.val (.int ((((((((p0 ^^^ (-1 : Int32)) &&& (p0 - (1 : Int32))).toUInt32 >>> ((16 : Int32) &&& 31).toUInt32).toInt32).toUInt32 >>> ((4 : Int32) &&& 31).toUInt32).toInt32).toUInt32 >>> ((2 : Int32) &&& 31).toUInt32).toInt32)), .val (.int ((((1 : Int32) + (16 : Int32)) + (4 : Int32)) + (2 : Int32)))] [(.int ((((((((((p0 ^^^ (-1 : Int32)) &&& (p0 - (1 : Int32))).toUInt32 >>> ((16 : Int32) &&& 31).toUInt32).toInt32).toUInt32 >>> ((4 : Int32) &&& 31).toUInt32).toInt32).toUInt32 >>> ((2 : Int32) &&& 31).toUInt32).toInt32).toUInt32 >>> ((1 : Int32) &&& 31).toUInt32).toInt32)), (.int ((((1 : Int32) + (16 : Int32)) + (4 : Int32)) + (2 : Int32)))])
            refine Runs.back (fun t_ k_ => XS.iadd X0.here hx rfl (hb hby d9_78) rfl k_) ?_
            show Runs _ _ _ _ s₁ (mkF m 79 #[.val (.int ((((((((p0 ^^^ (-1 : Int32)) &&& (p0 - (1 : Int32))).toUInt32 >>> ((16 : Int32) &&& 31).toUInt32).toInt32).toUInt32 >>> ((4 : Int32) &&& 31).toUInt32).toInt32).toUInt32 >>> ((2 : Int32) &&& 31).toUInt32).toInt32)), .val (.int ((((1 : Int32) + (16 : Int32)) + (4 : Int32)) + (2 : Int32)))] [(.int (((((1 : Int32) + (16 : Int32)) + (4 : Int32)) + (2 : Int32)) + ((((((((((p0 ^^^ (-1 : Int32)) &&& (p0 - (1 : Int32))).toUInt32 >>> ((16 : Int32) &&& 31).toUInt32).toInt32).toUInt32 >>> ((4 : Int32) &&& 31).toUInt32).toInt32).toUInt32 >>> ((2 : Int32) &&& 31).toUInt32).toInt32).toUInt32 >>> ((1 : Int32) &&& 31).toUInt32).toInt32)))])
            obtain ⟨fs, hr, hrun, hended, hW, hsame⟩ := X0.leave (v := some (.int (((((1 : Int32) + (16 : Int32)) + (4 : Int32)) + (2 : Int32)) + ((((((((((p0 ^^^ (-1 : Int32)) &&& (p0 - (1 : Int32))).toUInt32 >>> ((16 : Int32) &&& 31).toUInt32).toInt32).toUInt32 >>> ((4 : Int32) &&& 31).toUInt32).toInt32).toUInt32 >>> ((2 : Int32) &&& 31).toUInt32).toInt32).toUInt32 >>> ((1 : Int32) &&& 31).toUInt32).toInt32)))) (fun h => by rw [Bd.returns] at h; cases h)
            exact ⟨_, _, (retI X0 hx Bd.returns (hb hby d9_79) hr), hrun, hended, _, _, rfl, ⟨(by first | rfl | (simp only [nI, ntzT, g0, g1, g2, g3, g4, if_pos c9_1, if_pos c23_2, if_neg c38_3, if_pos c52_7, if_pos c64_8]; done) | (simp +decide only [nI, ntzT, g0, g1, g2, g3, g4, if_pos c9_1, if_pos c23_2, if_neg c38_3, if_pos c52_7, if_pos c64_8, if_true, if_false, ↓reduceIte]; done) | (simp [nI, ntzT, g0, g1, g2, g3, g4, c9_1, c23_2, c38_3, c52_7, c64_8]; done)), N0, e0⟩, ⟨_, rfl⟩, hW, hsame.mono (by decide) (by decide)⟩
          · refine Runs.back (fun t_ k_ => XS.icmpYes X0.here hx rfl (pc0 := 64) (pc' := 74) rfl (hb hby d9_64) rfl (flt c64_8).2.2.2 (by decide) (by decide) k_) ?_
            show Runs _ _ _ _ s₁ (mkF m 74 #[.val (.int ((((((p0 ^^^ (-1 : Int32)) &&& (p0 - (1 : Int32))).toUInt32 >>> ((16 : Int32) &&& 31).toUInt32).toInt32).toUInt32 >>> ((4 : Int32) &&& 31).toUInt32).toInt32)), .val (.int (((1 : Int32) + (16 : Int32)) + (4 : Int32)))] [])
            refine Runs.back (fun t_ k_ => XS.iloadN X0.here hx rfl (hb hby d9_74) rfl k_) ?_
            show Runs _ _ _ _ s₁ (mkF m 75 #[.val (.int ((((((p0 ^^^ (-1 : Int32)) &&& (p0 - (1 : Int32))).toUInt32 >>> ((16 : Int32) &&& 31).toUInt32).toInt32).toUInt32 >>> ((4 : Int32) &&& 31).toUInt32).toInt32)), .val (.int (((1 : Int32) + (16 : Int32)) + (4 : Int32)))] [(.int (((1 : Int32) + (16 : Int32)) + (4 : Int32)))])
            refine Runs.back (fun t_ k_ => XS.iloadN X0.here hx rfl (hb hby d9_75) rfl k_) ?_
            show Runs _ _ _ _ s₁ (mkF m 76 #[.val (.int ((((((p0 ^^^ (-1 : Int32)) &&& (p0 - (1 : Int32))).toUInt32 >>> ((16 : Int32) &&& 31).toUInt32).toInt32).toUInt32 >>> ((4 : Int32) &&& 31).toUInt32).toInt32)), .val (.int (((1 : Int32) + (16 : Int32)) + (4 : Int32)))] [(.int ((((((p0 ^^^ (-1 : Int32)) &&& (p0 - (1 : Int32))).toUInt32 >>> ((16 : Int32) &&& 31).toUInt32).toInt32).toUInt32 >>> ((4 : Int32) &&& 31).toUInt32).toInt32)), (.int (((1 : Int32) + (16 : Int32)) + (4 : Int32)))])
            refine Runs.back (fun t_ k_ => XS.iconst X0.here hx rfl (hb hby d9_76) k_) ?_
            show Runs _ _ _ _ s₁ (mkF m 77 #[.val (.int ((((((p0 ^^^ (-1 : Int32)) &&& (p0 - (1 : Int32))).toUInt32 >>> ((16 : Int32) &&& 31).toUInt32).toInt32).toUInt32 >>> ((4 : Int32) &&& 31).toUInt32).toInt32)), .val (.int (((1 : Int32) + (16 : Int32)) + (4 : Int32)))] [(.int (1 : Int32)), (.int ((((((p0 ^^^ (-1 : Int32)) &&& (p0 - (1 : Int32))).toUInt32 >>> ((16 : Int32) &&& 31).toUInt32).toInt32).toUInt32 >>> ((4 : Int32) &&& 31).toUInt32).toInt32)), (.int (((1 : Int32) + (16 : Int32)) + (4 : Int32)))])
            refine Runs.back (fun t_ k_ => XS.iushr X0.here hx rfl (hb hby d9_77) rfl k_) ?_
            show Runs _ _ _ _ s₁ (mkF m 78 #[.val (.int ((((((p0 ^^^ (-1 : Int32)) &&& (p0 - (1 : Int32))).toUInt32 >>> ((16 : Int32) &&& 31).toUInt32).toInt32).toUInt32 >>> ((4 : Int32) &&& 31).toUInt32).toInt32)), .val (.int (((1 : Int32) + (16 : Int32)) + (4 : Int32)))] [(.int ((((((((p0 ^^^ (-1 : Int32)) &&& (p0 - (1 : Int32))).toUInt32 >>> ((16 : Int32) &&& 31).toUInt32).toInt32).toUInt32 >>> ((4 : Int32) &&& 31).toUInt32).toInt32).toUInt32 >>> ((1 : Int32) &&& 31).toUInt32).toInt32)), (.int (((1 : Int32) + (16 : Int32)) + (4 : Int32)))])
            refine Runs.back (fun t_ k_ => XS.iadd X0.here hx rfl (hb hby d9_78) rfl k_) ?_
            show Runs _ _ _ _ s₁ (mkF m 79 #[.val (.int ((((((p0 ^^^ (-1 : Int32)) &&& (p0 - (1 : Int32))).toUInt32 >>> ((16 : Int32) &&& 31).toUInt32).toInt32).toUInt32 >>> ((4 : Int32) &&& 31).toUInt32).toInt32)), .val (.int (((1 : Int32) + (16 : Int32)) + (4 : Int32)))] [(.int ((((1 : Int32) + (16 : Int32)) + (4 : Int32)) + ((((((((p0 ^^^ (-1 : Int32)) &&& (p0 - (1 : Int32))).toUInt32 >>> ((16 : Int32) &&& 31).toUInt32).toInt32).toUInt32 >>> ((4 : Int32) &&& 31).toUInt32).toInt32).toUInt32 >>> ((1 : Int32) &&& 31).toUInt32).toInt32)))])
            obtain ⟨fs, hr, hrun, hended, hW, hsame⟩ := X0.leave (v := some (.int ((((1 : Int32) + (16 : Int32)) + (4 : Int32)) + ((((((((p0 ^^^ (-1 : Int32)) &&& (p0 - (1 : Int32))).toUInt32 >>> ((16 : Int32) &&& 31).toUInt32).toInt32).toUInt32 >>> ((4 : Int32) &&& 31).toUInt32).toInt32).toUInt32 >>> ((1 : Int32) &&& 31).toUInt32).toInt32)))) (fun h => by rw [Bd.returns] at h; cases h)
            exact ⟨_, _, (retI X0 hx Bd.returns (hb hby d9_79) hr), hrun, hended, _, _, rfl, ⟨(by first | rfl | (simp only [nI, ntzT, g0, g1, g2, g3, g4, if_pos c9_1, if_pos c23_2, if_neg c38_3, if_pos c52_7, if_neg c64_8]; done) | (simp +decide only [nI, ntzT, g0, g1, g2, g3, g4, if_pos c9_1, if_pos c23_2, if_neg c38_3, if_pos c52_7, if_neg c64_8, if_true, if_false, ↓reduceIte]; done) | (simp [nI, ntzT, g0, g1, g2, g3, g4, c9_1, c23_2, c38_3, c52_7, c64_8]; done)), N0, e0⟩, ⟨_, rfl⟩, hW, hsame.mono (by decide) (by decide)⟩
        · refine Runs.back (fun t_ k_ => XS.icmpYes X0.here hx rfl (pc0 := 52) (pc' := 62) rfl (hb hby d9_52) rfl (flt c52_7).2.2.2 (by decide) (by decide) k_) ?_
          show Runs _ _ _ _ s₁ (mkF m 62 #[.val (.int ((((p0 ^^^ (-1 : Int32)) &&& (p0 - (1 : Int32))).toUInt32 >>> ((16 : Int32) &&& 31).toUInt32).toInt32)), .val (.int ((1 : Int32) + (16 : Int32)))] [])
          refine Runs.back (fun t_ k_ => XS.iloadN X0.here hx rfl (hb hby d9_62) rfl k_) ?_
          show Runs _ _ _ _ s₁ (mkF m 63 #[.val (.int ((((p0 ^^^ (-1 : Int32)) &&& (p0 - (1 : Int32))).toUInt32 >>> ((16 : Int32) &&& 31).toUInt32).toInt32)), .val (.int ((1 : Int32) + (16 : Int32)))] [(.int ((((p0 ^^^ (-1 : Int32)) &&& (p0 - (1 : Int32))).toUInt32 >>> ((16 : Int32) &&& 31).toUInt32).toInt32))])
          refine Runs.back (fun t_ k_ => XS.iconst X0.here hx rfl (hb hby d9_63) k_) ?_
          show Runs _ _ _ _ s₁ (mkF m 64 #[.val (.int ((((p0 ^^^ (-1 : Int32)) &&& (p0 - (1 : Int32))).toUInt32 >>> ((16 : Int32) &&& 31).toUInt32).toInt32)), .val (.int ((1 : Int32) + (16 : Int32)))] [(.int (4 : Int32)), (.int ((((p0 ^^^ (-1 : Int32)) &&& (p0 - (1 : Int32))).toUInt32 >>> ((16 : Int32) &&& 31).toUInt32).toInt32))])
          by_cases c64_9 : (4 : Int32) < ((((p0 ^^^ (-1 : Int32)) &&& (p0 - (1 : Int32))).toUInt32 >>> ((16 : Int32) &&& 31).toUInt32).toInt32)
          · refine Runs.back (fun t_ k_ => XS.icmpNo X0.here hx rfl (hb hby d9_64) rfl (tlt c64_9).2.2.2 k_) ?_
            show Runs _ _ _ _ s₁ (mkF m 67 #[.val (.int ((((p0 ^^^ (-1 : Int32)) &&& (p0 - (1 : Int32))).toUInt32 >>> ((16 : Int32) &&& 31).toUInt32).toInt32)), .val (.int ((1 : Int32) + (16 : Int32)))] [])
            refine Runs.back (fun t_ k_ => XS.iinc X0.here hx rfl (hb hby d9_67) rfl (l' := #[.val (.int ((((p0 ^^^ (-1 : Int32)) &&& (p0 - (1 : Int32))).toUInt32 >>> ((16 : Int32) &&& 31).toUInt32).toInt32)), .val (.int (((1 : Int32) + (16 : Int32)) + (2 : Int32)))]) rfl k_) ?_
            show Runs _ _ _ _ s₁ (mkF m 70 #[.val (.int ((((p0 ^^^ (-1 : Int32)) &&& (p0 - (1 : Int32))).toUInt32 >>> ((16 : Int32) &&& 31).toUInt32).toInt32)), .val (.int (((1 : Int32) + (16 : Int32)) + (2 : Int32)))] [])
            refine Runs.back (fun t_ k_ => XS.iloadN X0.here hx rfl (hb hby d9_70) rfl k_) ?_
            show Runs _ _ _ _ s₁ (mkF m 71 #[.val (.int ((((p0 ^^^ (-1 : Int32)) &&& (p0 - (1 : Int32))).toUInt32 >>> ((16 : Int32) &&& 31).toUInt32).toInt32)), .val (.int (((1 : Int32) + (16 : Int32)) + (2 : Int32)))] [(.int ((((p0 ^^^ (-1 : Int32)) &&& (p0 - (1 : Int32))).toUInt32 >>> ((16 : Int32) &&& 31).toUInt32).toInt32))])
            refine Runs.back (fun t_ k_ => XS.iconst X0.here hx rfl (hb hby d9_71) k_) ?_
            show Runs _ _ _ _ s₁ (mkF m 72 #[.val (.int ((((p0 ^^^ (-1 : Int32)) &&& (p0 - (1 : Int32))).toUInt32 >>> ((16 : Int32) &&& 31).toUInt32).toInt32)), .val (.int (((1 : Int32) + (16 : Int32)) + (2 : Int32)))] [(.int (2 : Int32)), (.int ((((p0 ^^^ (-1 : Int32)) &&& (p0 - (1 : Int32))).toUInt32 >>> ((16 : Int32) &&& 31).toUInt32).toInt32))])
            refine Runs.back (fun t_ k_ => XS.iushr X0.here hx rfl (hb hby d9_72) rfl k_) ?_
            show Runs _ _ _ _ s₁ (mkF m 73 #[.val (.int ((((p0 ^^^ (-1 : Int32)) &&& (p0 - (1 : Int32))).toUInt32 >>> ((16 : Int32) &&& 31).toUInt32).toInt32)), .val (.int (((1 : Int32) + (16 : Int32)) + (2 : Int32)))] [(.int ((((((p0 ^^^ (-1 : Int32)) &&& (p0 - (1 : Int32))).toUInt32 >>> ((16 : Int32) &&& 31).toUInt32).toInt32).toUInt32 >>> ((2 : Int32) &&& 31).toUInt32).toInt32))])
            refine Runs.back (fun t_ k_ => XS.istoreN X0.here hx rfl (hb hby d9_73) rfl (l' := #[.val (.int ((((((p0 ^^^ (-1 : Int32)) &&& (p0 - (1 : Int32))).toUInt32 >>> ((16 : Int32) &&& 31).toUInt32).toInt32).toUInt32 >>> ((2 : Int32) &&& 31).toUInt32).toInt32)), .val (.int (((1 : Int32) + (16 : Int32)) + (2 : Int32)))]) rfl k_) ?_
            show Runs _ _ _ _ s₁ (mkF m 74 #[.val (.int ((((((p0 ^^^ (-1 : Int32)) &&& (p0 - (1 : Int32))).toUInt32 >>> ((16 : Int32) &&& 31).toUInt32).toInt32).toUInt32 >>> ((2 : Int32) &&& 31).toUInt32).toInt32)), .val (.int (((1 : Int32) + (16 : Int32)) + (2 : Int32)))] [])
            refine Runs.back (fun t_ k_ => XS.iloadN X0.here hx rfl (hb hby d9_74) rfl k_) ?_
            show Runs _ _ _ _ s₁ (mkF m 75 #[.val (.int ((((((p0 ^^^ (-1 : Int32)) &&& (p0 - (1 : Int32))).toUInt32 >>> ((16 : Int32) &&& 31).toUInt32).toInt32).toUInt32 >>> ((2 : Int32) &&& 31).toUInt32).toInt32)), .val (.int (((1 : Int32) + (16 : Int32)) + (2 : Int32)))] [(.int (((1 : Int32) + (16 : Int32)) + (2 : Int32)))])
            refine Runs.back (fun t_ k_ => XS.iloadN X0.here hx rfl (hb hby d9_75) rfl k_) ?_
            show Runs _ _ _ _ s₁ (mkF m 76 #[.val (.int ((((((p0 ^^^ (-1 : Int32)) &&& (p0 - (1 : Int32))).toUInt32 >>> ((16 : Int32) &&& 31).toUInt32).toInt32).toUInt32 >>> ((2 : Int32) &&& 31).toUInt32).toInt32)), .val (.int (((1 : Int32) + (16 : Int32)) + (2 : Int32)))] [(.int ((((((p0 ^^^ (-1 : Int32)) &&& (p0 - (1 : Int32))).toUInt32 >>> ((16 : Int32) &&& 31).toUInt32).toInt32).toUInt32 >>> ((2 : Int32) &&& 31).toUInt32).toInt32)), (.int (((1 : Int32) + (16 : Int32)) + (2 : Int32)))])
            refine Runs.back (fun t_ k_ => XS.iconst X0.here hx rfl (hb hby d9_76) k_) ?_
            show Runs _ _ _ _ s₁ (mkF m 77 #[.val (.int ((((((p0 ^^^ (-1 : Int32)) &&& (p0 - (1 : Int32))).toUInt32 >>> ((16 : Int32) &&& 31).toUInt32).toInt32).toUInt32 >>> ((2 : Int32) &&& 31).toUInt32).toInt32)), .val (.int (((1 : Int32) + (16 : Int32)) + (2 : Int32)))] [(.int (1 : Int32)), (.int ((((((p0 ^^^ (-1 : Int32)) &&& (p0 - (1 : Int32))).toUInt32 >>> ((16 : Int32) &&& 31).toUInt32).toInt32).toUInt32 >>> ((2 : Int32) &&& 31).toUInt32).toInt32)), (.int (((1 : Int32) + (16 : Int32)) + (2 : Int32)))])
            refine Runs.back (fun t_ k_ => XS.iushr X0.here hx rfl (hb hby d9_77) rfl k_) ?_
            show Runs _ _ _ _ s₁ (mkF m 78 #[.val (.int ((((((p0 ^^^ (-1 : Int32)) &&& (p0 - (1 : Int32))).toUInt32 >>> ((16 : Int32) &&& 31).toUInt32).toInt32).toUInt32 >>> ((2 : Int32) &&& 31).toUInt32).toInt32)), .val (.int (((1 : Int32) + (16 : Int32)) + (2 : Int32)))] [(.int ((((((((p0 ^^^ (-1 : Int32)) &&& (p0 - (1 : Int32))).toUInt32 >>> ((16 : Int32) &&& 31).toUInt32).toInt32).toUInt32 >>> ((2 : Int32) &&& 31).toUInt32).toInt32).toUInt32 >>> ((1 : Int32) &&& 31).toUInt32).toInt32)), (.int (((1 : Int32) + (16 : Int32)) + (2 : Int32)))])
            refine Runs.back (fun t_ k_ => XS.iadd X0.here hx rfl (hb hby d9_78) rfl k_) ?_
            show Runs _ _ _ _ s₁ (mkF m 79 #[.val (.int ((((((p0 ^^^ (-1 : Int32)) &&& (p0 - (1 : Int32))).toUInt32 >>> ((16 : Int32) &&& 31).toUInt32).toInt32).toUInt32 >>> ((2 : Int32) &&& 31).toUInt32).toInt32)), .val (.int (((1 : Int32) + (16 : Int32)) + (2 : Int32)))] [(.int ((((1 : Int32) + (16 : Int32)) + (2 : Int32)) + ((((((((p0 ^^^ (-1 : Int32)) &&& (p0 - (1 : Int32))).toUInt32 >>> ((16 : Int32) &&& 31).toUInt32).toInt32).toUInt32 >>> ((2 : Int32) &&& 31).toUInt32).toInt32).toUInt32 >>> ((1 : Int32) &&& 31).toUInt32).toInt32)))])
            obtain ⟨fs, hr, hrun, hended, hW, hsame⟩ := X0.leave (v := some (.int ((((1 : Int32) + (16 : Int32)) + (2 : Int32)) + ((((((((p0 ^^^ (-1 : Int32)) &&& (p0 - (1 : Int32))).toUInt32 >>> ((16 : Int32) &&& 31).toUInt32).toInt32).toUInt32 >>> ((2 : Int32) &&& 31).toUInt32).toInt32).toUInt32 >>> ((1 : Int32) &&& 31).toUInt32).toInt32)))) (fun h => by rw [Bd.returns] at h; cases h)
            exact ⟨_, _, (retI X0 hx Bd.returns (hb hby d9_79) hr), hrun, hended, _, _, rfl, ⟨(by first | rfl | (simp only [nI, ntzT, g0, g1, g2, g3, g4, if_pos c9_1, if_pos c23_2, if_neg c38_3, if_neg c52_7, if_pos c64_9]; done) | (simp +decide only [nI, ntzT, g0, g1, g2, g3, g4, if_pos c9_1, if_pos c23_2, if_neg c38_3, if_neg c52_7, if_pos c64_9, if_true, if_false, ↓reduceIte]; done) | (simp [nI, ntzT, g0, g1, g2, g3, g4, c9_1, c23_2, c38_3, c52_7, c64_9]; done)), N0, e0⟩, ⟨_, rfl⟩, hW, hsame.mono (by decide) (by decide)⟩
          · refine Runs.back (fun t_ k_ => XS.icmpYes X0.here hx rfl (pc0 := 64) (pc' := 74) rfl (hb hby d9_64) rfl (flt c64_9).2.2.2 (by decide) (by decide) k_) ?_
            show Runs _ _ _ _ s₁ (mkF m 74 #[.val (.int ((((p0 ^^^ (-1 : Int32)) &&& (p0 - (1 : Int32))).toUInt32 >>> ((16 : Int32) &&& 31).toUInt32).toInt32)), .val (.int ((1 : Int32) + (16 : Int32)))] [])
            refine Runs.back (fun t_ k_ => XS.iloadN X0.here hx rfl (hb hby d9_74) rfl k_) ?_
            show Runs _ _ _ _ s₁ (mkF m 75 #[.val (.int ((((p0 ^^^ (-1 : Int32)) &&& (p0 - (1 : Int32))).toUInt32 >>> ((16 : Int32) &&& 31).toUInt32).toInt32)), .val (.int ((1 : Int32) + (16 : Int32)))] [(.int ((1 : Int32) + (16 : Int32)))])
            refine Runs.back (fun t_ k_ => XS.iloadN X0.here hx rfl (hb hby d9_75) rfl k_) ?_
            show Runs _ _ _ _ s₁ (mkF m 76 #[.val (.int ((((p0 ^^^ (-1 : Int32)) &&& (p0 - (1 : Int32))).toUInt32 >>> ((16 : Int32) &&& 31).toUInt32).toInt32)), .val (.int ((1 : Int32) + (16 : Int32)))] [(.int ((((p0 ^^^ (-1 : Int32)) &&& (p0 - (1 : Int32))).toUInt32 >>> ((16 : Int32) &&& 31).toUInt32).toInt32)), (.int ((1 : Int32) + (16 : Int32)))])
            refine Runs.back (fun t_ k_ => XS.iconst X0.here hx rfl (hb hby d9_76) k_) ?_
            show Runs _ _ _ _ s₁ (mkF m 77 #[.val (.int ((((p0 ^^^ (-1 : Int32)) &&& (p0 - (1 : Int32))).toUInt32 >>> ((16 : Int32) &&& 31).toUInt32).toInt32)), .val (.int ((1 : Int32) + (16 : Int32)))] [(.int (1 : Int32)), (.int ((((p0 ^^^ (-1 : Int32)) &&& (p0 - (1 : Int32))).toUInt32 >>> ((16 : Int32) &&& 31).toUInt32).toInt32)), (.int ((1 : Int32) + (16 : Int32)))])
            refine Runs.back (fun t_ k_ => XS.iushr X0.here hx rfl (hb hby d9_77) rfl k_) ?_
            show Runs _ _ _ _ s₁ (mkF m 78 #[.val (.int ((((p0 ^^^ (-1 : Int32)) &&& (p0 - (1 : Int32))).toUInt32 >>> ((16 : Int32) &&& 31).toUInt32).toInt32)), .val (.int ((1 : Int32) + (16 : Int32)))] [(.int ((((((p0 ^^^ (-1 : Int32)) &&& (p0 - (1 : Int32))).toUInt32 >>> ((16 : Int32) &&& 31).toUInt32).toInt32).toUInt32 >>> ((1 : Int32) &&& 31).toUInt32).toInt32)), (.int ((1 : Int32) + (16 : Int32)))])
            refine Runs.back (fun t_ k_ => XS.iadd X0.here hx rfl (hb hby d9_78) rfl k_) ?_
            show Runs _ _ _ _ s₁ (mkF m 79 #[.val (.int ((((p0 ^^^ (-1 : Int32)) &&& (p0 - (1 : Int32))).toUInt32 >>> ((16 : Int32) &&& 31).toUInt32).toInt32)), .val (.int ((1 : Int32) + (16 : Int32)))] [(.int (((1 : Int32) + (16 : Int32)) + ((((((p0 ^^^ (-1 : Int32)) &&& (p0 - (1 : Int32))).toUInt32 >>> ((16 : Int32) &&& 31).toUInt32).toInt32).toUInt32 >>> ((1 : Int32) &&& 31).toUInt32).toInt32)))])
            obtain ⟨fs, hr, hrun, hended, hW, hsame⟩ := X0.leave (v := some (.int (((1 : Int32) + (16 : Int32)) + ((((((p0 ^^^ (-1 : Int32)) &&& (p0 - (1 : Int32))).toUInt32 >>> ((16 : Int32) &&& 31).toUInt32).toInt32).toUInt32 >>> ((1 : Int32) &&& 31).toUInt32).toInt32)))) (fun h => by rw [Bd.returns] at h; cases h)
            exact ⟨_, _, (retI X0 hx Bd.returns (hb hby d9_79) hr), hrun, hended, _, _, rfl, ⟨(by first | rfl | (simp only [nI, ntzT, g0, g1, g2, g3, g4, if_pos c9_1, if_pos c23_2, if_neg c38_3, if_neg c52_7, if_neg c64_9]; done) | (simp +decide only [nI, ntzT, g0, g1, g2, g3, g4, if_pos c9_1, if_pos c23_2, if_neg c38_3, if_neg c52_7, if_neg c64_9, if_true, if_false, ↓reduceIte]; done) | (simp [nI, ntzT, g0, g1, g2, g3, g4, c9_1, c23_2, c38_3, c52_7, c64_9]; done)), N0, e0⟩, ⟨_, rfl⟩, hW, hsame.mono (by decide) (by decide)⟩
    · refine Runs.back (fun t_ k_ => XS.icmpYes X0.here hx rfl (pc0 := 23) (pc' := 34) rfl (hb hby d9_23) rfl (flt c23_2).2.2.2 (by decide) (by decide) k_) ?_
      show Runs _ _ _ _ s₁ (mkF m 34 #[.val (.int ((p0 ^^^ (-1 : Int32)) &&& (p0 - (1 : Int32)))), .val (.int (1 : Int32))] [])
      refine Runs.back (fun t_ k_ => XS.iloadN X0.here hx rfl (hb hby d9_34) rfl k_) ?_
      show Runs _ _ _ _ s₁ (mkF m 35 #[.val (.int ((p0 ^^^ (-1 : Int32)) &&& (p0 - (1 : Int32)))), .val (.int (1 : Int32))] [(.int ((p0 ^^^ (-1 : Int32)) &&& (p0 - (1 : Int32))))])
      refine Runs.back (fun t_ k_ => XS.sipush X0.here hx rfl (hb hby d9_35) k_) ?_
      show Runs _ _ _ _ s₁ (mkF m 38 #[.val (.int ((p0 ^^^ (-1 : Int32)) &&& (p0 - (1 : Int32)))), .val (.int (1 : Int32))] [(.int (256 : Int32)), (.int ((p0 ^^^ (-1 : Int32)) &&& (p0 - (1 : Int32))))])
      by_cases c38_10 : (256 : Int32) < ((p0 ^^^ (-1 : Int32)) &&& (p0 - (1 : Int32)))
      · refine Runs.back (fun t_ k_ => XS.icmpNo X0.here hx rfl (hb hby d9_38) rfl (tlt c38_10).2.2.2 k_) ?_
        show Runs _ _ _ _ s₁ (mkF m 41 #[.val (.int ((p0 ^^^ (-1 : Int32)) &&& (p0 - (1 : Int32)))), .val (.int (1 : Int32))] [])
        refine Runs.back (fun t_ k_ => XS.iinc X0.here hx rfl (hb hby d9_41) rfl (l' := #[.val (.int ((p0 ^^^ (-1 : Int32)) &&& (p0 - (1 : Int32)))), .val (.int ((1 : Int32) + (8 : Int32)))]) rfl k_) ?_
        show Runs _ _ _ _ s₁ (mkF m 44 #[.val (.int ((p0 ^^^ (-1 : Int32)) &&& (p0 - (1 : Int32)))), .val (.int ((1 : Int32) + (8 : Int32)))] [])
        refine Runs.back (fun t_ k_ => XS.iloadN X0.here hx rfl (hb hby d9_44) rfl k_) ?_
        show Runs _ _ _ _ s₁ (mkF m 45 #[.val (.int ((p0 ^^^ (-1 : Int32)) &&& (p0 - (1 : Int32)))), .val (.int ((1 : Int32) + (8 : Int32)))] [(.int ((p0 ^^^ (-1 : Int32)) &&& (p0 - (1 : Int32))))])
        refine Runs.back (fun t_ k_ => XS.bipush X0.here hx rfl (hb hby d9_45) k_) ?_
        show Runs _ _ _ _ s₁ (mkF m 47 #[.val (.int ((p0 ^^^ (-1 : Int32)) &&& (p0 - (1 : Int32)))), .val (.int ((1 : Int32) + (8 : Int32)))] [(.int (8 : Int32)), (.int ((p0 ^^^ (-1 : Int32)) &&& (p0 - (1 : Int32))))])
        refine Runs.back (fun t_ k_ => XS.iushr X0.here hx rfl (hb hby d9_47) rfl k_) ?_
        show Runs _ _ _ _ s₁ (mkF m 48 #[.val (.int ((p0 ^^^ (-1 : Int32)) &&& (p0 - (1 : Int32)))), .val (.int ((1 : Int32) + (8 : Int32)))] [(.int ((((p0 ^^^ (-1 : Int32)) &&& (p0 - (1 : Int32))).toUInt32 >>> ((8 : Int32) &&& 31).toUInt32).toInt32))])
        refine Runs.back (fun t_ k_ => XS.istoreN X0.here hx rfl (hb hby d9_48) rfl (l' := #[.val (.int ((((p0 ^^^ (-1 : Int32)) &&& (p0 - (1 : Int32))).toUInt32 >>> ((8 : Int32) &&& 31).toUInt32).toInt32)), .val (.int ((1 : Int32) + (8 : Int32)))]) rfl k_) ?_
        show Runs _ _ _ _ s₁ (mkF m 49 #[.val (.int ((((p0 ^^^ (-1 : Int32)) &&& (p0 - (1 : Int32))).toUInt32 >>> ((8 : Int32) &&& 31).toUInt32).toInt32)), .val (.int ((1 : Int32) + (8 : Int32)))] [])
        refine Runs.back (fun t_ k_ => XS.iloadN X0.here hx rfl (hb hby d9_49) rfl k_) ?_
        show Runs _ _ _ _ s₁ (mkF m 50 #[.val (.int ((((p0 ^^^ (-1 : Int32)) &&& (p0 - (1 : Int32))).toUInt32 >>> ((8 : Int32) &&& 31).toUInt32).toInt32)), .val (.int ((1 : Int32) + (8 : Int32)))] [(.int ((((p0 ^^^ (-1 : Int32)) &&& (p0 - (1 : Int32))).toUInt32 >>> ((8 : Int32) &&& 31).toUInt32).toInt32))])
        refine Runs.back (fun t_ k_ => XS.bipush X0.here hx rfl (hb hby d9_50) k_) ?_
        show Runs _ _ _ _ s₁ (mkF m 52 #[.val (.int ((((p0 ^^^ (-1 : Int32)) &&& (p0 - (1 : Int32))).toUInt32 >>> ((8 : Int32) &&& 31).toUInt32).toInt32)), .val (.int ((1 : Int32) + (8 : Int32)))] [(.int (16 : Int32)), (.int ((((p0 ^^^ (-1 : Int32)) &&& (p0 - (1 : Int32))).toUInt32 >>> ((8 : Int32) &&& 31).toUInt32).toInt32))])
        by_cases c52_11 : (16 : Int32) < ((((p0 ^^^ (-1 : Int32)) &&& (p0 - (1 : Int32))).toUInt32 >>> ((8 : Int32) &&& 31).toUInt32).toInt32)
        · refine Runs.back (fun t_ k_ => XS.icmpNo X0.here hx rfl (hb hby d9_52) rfl (tlt c52_11).2.2.2 k_) ?_
          show Runs _ _ _ _ s₁ (mkF m 55 #[.val (.int ((((p0 ^^^ (-1 : Int32)) &&& (p0 - (1 : Int32))).toUInt32 >>> ((8 : Int32) &&& 31).toUInt32).toInt32)), .val (.int ((1 : Int32) + (8 : Int32)))] [])
          refine Runs.back (fun t_ k_ => XS.iinc X0.here hx rfl (hb hby d9_55) rfl (l' := #[.val (.int ((((p0 ^^^ (-1 : Int32)) &&& (p0 - (1 : Int32))).toUInt32 >>> ((8 : Int32) &&& 31).toUInt32).toInt32)), .val (.int (((1 : Int32) + (8 : Int32)) + (4 : Int32)))]) rfl k_) ?_
          show Runs _ _ _ _ s₁ (mkF m 58 #[.val (.int ((((p0 ^^^ (-1 : Int32)) &&& (p0 - (1 : Int32))).toUInt32 >>> ((8 : Int32) &&& 31).toUInt32).toInt32)), .val (.int (((1 : Int32) + (8 : Int32)) + (4 : Int32)))] [])
          refine Runs.back (fun t_ k_ => XS.iloadN X0.here hx rfl (hb hby d9_58) rfl k_) ?_
          show Runs _ _ _ _ s₁ (mkF m 59 #[.val (.int ((((p0 ^^^ (-1 : Int32)) &&& (p0 - (1 : Int32))).toUInt32 >>> ((8 : Int32) &&& 31).toUInt32).toInt32)), .val (.int (((1 : Int32) + (8 : Int32)) + (4 : Int32)))] [(.int ((((p0 ^^^ (-1 : Int32)) &&& (p0 - (1 : Int32))).toUInt32 >>> ((8 : Int32) &&& 31).toUInt32).toInt32))])
          refine Runs.back (fun t_ k_ => XS.iconst X0.here hx rfl (hb hby d9_59) k_) ?_
          show Runs _ _ _ _ s₁ (mkF m 60 #[.val (.int ((((p0 ^^^ (-1 : Int32)) &&& (p0 - (1 : Int32))).toUInt32 >>> ((8 : Int32) &&& 31).toUInt32).toInt32)), .val (.int (((1 : Int32) + (8 : Int32)) + (4 : Int32)))] [(.int (4 : Int32)), (.int ((((p0 ^^^ (-1 : Int32)) &&& (p0 - (1 : Int32))).toUInt32 >>> ((8 : Int32) &&& 31).toUInt32).toInt32))])
          refine Runs.back (fun t_ k_ => XS.iushr X0.here hx rfl (hb hby d9_60) rfl k_) ?_
          show Runs _ _ _ _ s₁ (mkF m 61 #[.val (.int ((((p0 ^^^ (-1 : Int32)) &&& (p0 - (1 : Int32))).toUInt32 >>> ((8 : Int32) &&& 31).toUInt32).toInt32)), .val (.int (((1 : Int32) + (8 : Int32)) + (4 : Int32)))] [(.int ((((((p0 ^^^ (-1 : Int32)) &&& (p0 - (1 : Int32))).toUInt32 >>> ((8 : Int32) &&& 31).toUInt32).toInt32).toUInt32 >>> ((4 : Int32) &&& 31).toUInt32).toInt32))])
          refine Runs.back (fun t_ k_ => XS.istoreN X0.here hx rfl (hb hby d9_61) rfl (l' := #[.val (.int ((((((p0 ^^^ (-1 : Int32)) &&& (p0 - (1 : Int32))).toUInt32 >>> ((8 : Int32) &&& 31).toUInt32).toInt32).toUInt32 >>> ((4 : Int32) &&& 31).toUInt32).toInt32)), .val (.int (((1 : Int32) + (8 : Int32)) + (4 : Int32)))]) rfl k_) ?_
          show Runs _ _ _ _ s₁ (mkF m 62 #[.val (.int ((((((p0 ^^^ (-1 : Int32)) &&& (p0 - (1 : Int32))).toUInt32 >>> ((8 : Int32) &&& 31).toUInt32).toInt32).toUInt32 >>> ((4 : Int32) &&& 31).toUInt32).toInt32)), .val (.int (((1 : Int32) + (8 : Int32)) + (4 : Int32)))] [])
          refine Runs.back (fun t_ k_ => XS.iloadN X0.here hx rfl (hb hby d9_62) rfl k_) ?_
          show Runs _ _ _ _ s₁ (mkF m 63 #[.val (.int ((((((p0 ^^^ (-1 : Int32)) &&& (p0 - (1 : Int32))).toUInt32 >>> ((8 : Int32) &&& 31).toUInt32).toInt32).toUInt32 >>> ((4 : Int32) &&& 31).toUInt32).toInt32)), .val (.int (((1 : Int32) + (8 : Int32)) + (4 : Int32)))] [(.int ((((((p0 ^^^ (-1 : Int32)) &&& (p0 - (1 : Int32))).toUInt32 >>> ((8 : Int32) &&& 31).toUInt32).toInt32).toUInt32 >>> ((4 : Int32) &&& 31).toUInt32).toInt32))])
          refine Runs.back (fun t_ k_ => XS.iconst X0.here hx rfl (hb hby d9_63) k_) ?_
          show Runs _ _ _ _ s₁ (mkF m 64 #[.val (.int ((((((p0 ^^^ (-1 : Int32)) &&& (p0 - (1 : Int32))).toUInt32 >>> ((8 : Int32) &&& 31).toUInt32).toInt32).toUInt32 >>> ((4 : Int32) &&& 31).toUInt32).toInt32)), .val (.int (((1 : Int32) + (8 : Int32)) + (4 : Int32)))] [(.int (4 : Int32)), (.int ((((((p0 ^^^ (-1 : Int32)) &&& (p0 - (1 : Int32))).toUInt32 >>> ((8 : Int32) &&& 31).toUInt32).toInt32).toUInt32 >>> ((4 : Int32) &&& 31).toUInt32).toInt32))])
          by_cases c64_12 : (4 : Int32) < ((((((p0 ^^^ (-1 : Int32)) &&& (p0 - (1 : Int32))).toUInt32 >>> ((8 : Int32) &&& 31).toUInt32).toInt32).toUInt32 >>> ((4 : Int32) &&& 31).toUInt32).toInt32)
          · refine Runs.back (fun t_ k_ => XS.icmpNo X0.here hx rfl (hb hby d9_64) rfl (tlt c64_12).2.2.2 k_) ?_
            show Runs _ _ _ _ s₁ (mkF m 67 #[.val (.int ((((((p0 ^^^ (-1 : Int32)) &&& (p0 - (1 : Int32))).toUInt32 >>> ((8 : Int32) &&& 31).toUInt32).toInt32).toUInt32 >>> ((4 : Int32) &&& 31).toUInt32).toInt32)), .val (.int (((1 : Int32) + (8 : Int32)) + (4 : Int32)))] [])
            refine Runs.back (fun t_ k_ => XS.iinc X0.here hx rfl (hb hby d9_67) rfl (l' := #[.val (.int ((((((p0 ^^^ (-1 : Int32)) &&& (p0 - (1 : Int32))).toUInt32 >>> ((8 : Int32) &&& 31).toUInt32).toInt32).toUInt32 >>> ((4 : Int32) &&& 31).toUInt32).toInt32)), .val (.int ((((1 : Int32) + (8 : Int32)) + (4 : Int32)) + (2 : Int32)))]) rfl k_) ?_
            show Runs _ _ _ _ s₁ (mkF m 70 #[.val (.int ((((((p0 ^^^ (-1 : Int32)) &&& (p0 - (1 : Int32))).toUInt32 >>> ((8 : Int32) &&& 31).toUInt32).toInt32).toUInt32 >>> ((4 : Int32) &&& 31).toUInt32).toInt32)), .val (.int ((((1 : Int32) + (8 : Int32)) + (4 : Int32)) + (2 : Int32)))] [])
            refine Runs.back (fun t_ k_ => XS.iloadN X0.here hx rfl (hb hby d9_70) rfl k_) ?_
            show Runs _ _ _ _ s₁ (mkF m 71 #[.val (.int ((((((p0 ^^^ (-1 : Int32)) &&& (p0 - (1 : Int32))).toUInt32 >>> ((8 : Int32) &&& 31).toUInt32).toInt32).toUInt32 >>> ((4 : Int32) &&& 31).toUInt32).toInt32)), .val (.int ((((1 : Int32) + (8 : Int32)) + (4 : Int32)) + (2 : Int32)))] [(.int ((((((p0 ^^^ (-1 : Int32)) &&& (p0 - (1 : Int32))).toUInt32 >>> ((8 : Int32) &&& 31).toUInt32).toInt32).toUInt32 >>> ((4 : Int32) &&& 31).toUInt32).toInt32))])
            refine Runs.back (fun t_ k_ => XS.iconst X0.here hx rfl (hb hby d9_71) k_) ?_
            show Runs _ _ _ _ s₁ (mkF m 72 #[.val (.int ((((((p0 ^^^ (-1 : Int32)) &&& (p0 - (1 : Int32))).toUInt32 >>> ((8 : Int32) &&& 31).toUInt32).toInt32).toUInt32 >>> ((4 : Int32) &&& 31).toUInt32).toInt32)), .val (.int ((((1 : Int32) + (8 : Int32)) + (4 : Int32)) + (2 : Int32)))] [(.int (2 : Int32)), (.int ((((((p0 ^^^ (-1 : Int32)) &&& (p0 - (1 : Int32))).toUInt32 >>> ((8 : Int32) &&& 31).toUInt32).toInt32).toUInt32 >>> ((4 : Int32) &&& 31).toUInt32).toInt32))])
            refine Runs.back (fun t_ k_ => XS.iushr X0.here hx rfl (hb hby d9_72) rfl k_) ?_
            show Runs _ _ _ _ s₁ (mkF m 73 #[.val (.int ((((((p0 ^^^ (-1 : Int32)) &&& (p0 - (1 : Int32))).toUInt32 >>> ((8 : Int32) &&& 31).toUInt32).toInt32).toUInt32 >>> ((4 : Int32) &&& 31).toUInt32).toInt32)), .val (.int ((((1 : Int32) + (8 : Int32)) + (4 : Int32)) + (2 : Int32)))] [(.int ((((((((p0 ^^^ (-1 : Int32)) &&& (p0 - (1 : Int32))).toUInt32 >>> ((8 : Int32) &&& 31).toUInt32).toInt32).toUInt32 >>> ((4 : Int32) &&& 31).toUInt32).toInt32).toUInt32 >>> ((2 : Int32) &&& 31).toUInt32).toInt32))])
            refine Runs.back (fun t_ k_ => XS.istoreN X0.here hx rfl (hb hby d9_73) rfl (l' := #[.val (.int ((((((((p0 ^^^ (-1 : Int32)) &&& (p0 - (1 : Int32))).toUInt32 >>> ((8 : Int32) &&& 31).toUInt32).toInt32).toUInt32 >>> ((4 : Int32) &&& 31).toUInt32).toInt32).toUInt32 >>> ((2 : Int32) &&& 31).toUInt32).toInt32)), .val (.int ((((1 : Int32) + (8 : Int32)) + (4 : Int32)) + (2 : Int32)))]) rfl k_) ?_
            show Runs _ _ _ _ s₁ (mkF m 74 #[.val (.int ((((((((p0 ^^^ (-1 : Int32)) &&& (p0 - (1 : Int32))).toUInt32 >>> ((8 : Int32) &&& 31).toUInt32).toInt32).toUInt32 >>> ((4 : Int32) &&& 31).toUInt32).toInt32).toUInt32 >>> ((2 : Int32) &&& 31).toUInt32).toInt32)), .val (.int ((((1 : Int32) + (8 : Int32)) + (4 : Int32)) + (2 : Int32)))] [])
            refine Runs.back (fun t_ k_ => XS.iloadN X0.here hx rfl (hb hby d9_74) rfl k_) ?_
            show Runs _ _ _ _ s₁ (mkF m 75 #[.val (.int ((((((((p0 ^^^ (-1 : Int32)) &&& (p0 - (1 : Int32))).toUInt32 >>> ((8 : Int32) &&& 31).toUInt32).toInt32).toUInt32 >>> ((4 : Int32) &&& 31).toUInt32).toInt32).toUInt32 >>> ((2 : Int32) &&& 31).toUInt32).toInt32)), .val (.int ((((1 : Int32) + (8 : Int32)) + (4 : Int32)) + (2 : Int32)))] [(.int ((((1 : Int32) + (8 : Int32)) + (4 : Int32)) + (2 : Int32)))])
            refine Runs.back (fun t_ k_ => XS.iloadN X0.here hx rfl (hb hby d9_75) rfl k_) ?_
            show Runs _ _ _ _ s₁ (mkF m 76 #[.val (.int ((((((((p0 ^^^ (-1 : Int32)) &&& (p0 - (1 : Int32))).toUInt32 >>> ((8 : Int32) &&& 31).toUInt32).toInt32).toUInt32 >>> ((4 : Int32) &&& 31).toUInt32).toInt32).toUInt32 >>> ((2 : Int32) &&& 31).toUInt32).toInt32)), .val (.int ((((1 : Int32) + (8 : Int32)) + (4 : Int32)) + (2 : Int32)))] [(.int ((((((((p0 ^^^ (-1 : Int32)) &&& (p0 - (1 : Int32))).toUInt32 >>> ((8 : Int32) &&& 31).toUInt32).toInt32).toUInt32 >>> ((4 : Int32) &&& 31).toUInt32).toInt32).toUInt32 >>> ((2 : Int32) &&& 31).toUInt32).toInt32)), (.int ((((1 : Int32) + (8 : Int32)) + (4 : Int32)) + (2 : Int32)))])
            refine Runs.back (fun t_ k_ => XS.iconst X0.here hx rfl (hb hby d9_76) k_) ?_
            show Runs _ _ _ _ s₁ (mkF m 77 #[.val (.int ((((((((p0 ^^^ (-1 : Int32)) &&& (p0 - (1 : Int32))).toUInt32 >>> ((8 : Int32) &&& 31).toUInt32).toInt32).toUInt32 >>> ((4 : Int32) &&& 31).toUInt32).toInt32).toUInt32 >>> ((2 : Int32) &&& 31).toUInt32).toInt32)), .val (.int ((((1 : Int32) + (8 : Int32)) + (4 : Int32)) + (2 : Int32)))] [(.int (1 : Int32)), (.int ((((((((p0 ^^^ (-1 : Int32)) &&& (p0 - (1 : Int32))).toUInt32 >>> ((8 : Int32) &&& 31).toUInt32).toInt32).toUInt32 >>> ((4 : Int32) &&& 31).toUInt32).toInt32).toUInt32 >>> ((2 : Int32) &&& 31).toUInt32).toInt32)), (.int ((((1 : Int32) + (8 : Int32)) + (4 : Int32)) + (2 : Int32)))])
            refine Runs.back (fun t_ k_ => XS.iushr X0.here hx rfl (hb hby d9_77) rfl k_) ?_
            show Runs _ _ _ _ s₁ (mkF m 78 #[.val (.int ((((((((p0 ^^^ (-1 : Int32)) &&& (p0 - (1 : Int32))).toUInt32 >>> ((8 : Int32) &&& 31).toUInt32).toInt32).toUInt32 >>> ((4 : Int32) &&& 31).toUInt32).toInt32).toUInt32 >>> ((2 : Int32) &&& 31).toUInt32).toInt32)), .val (.int ((((1 : Int32) + (8 : Int32)) + (4 : Int32)) + (2 : Int32)))] [(.int ((((((((((p0 ^^^ (-1 : Int32)) &&& (p0 - (1 : Int32))).toUInt32 >>> ((8 : Int32) &&& 31).toUInt32).toInt32).toUInt32 >>> ((4 : Int32) &&& 31).toUInt32).toInt32).toUInt32 >>> ((2 : Int32) &&& 31).toUInt32).toInt32).toUInt32 >>> ((1 : Int32) &&& 31).toUInt32).toInt32)), (.int ((((1 : Int32) + (8 : Int32)) + (4 : Int32)) + (2 : Int32)))])
            refine Runs.back (fun t_ k_ => XS.iadd X0.here hx rfl (hb hby d9_78) rfl k_) ?_
            show Runs _ _ _ _ s₁ (mkF m 79 #[.val (.int ((((((((p0 ^^^ (-1 : Int32)) &&& (p0 - (1 : Int32))).toUInt32 >>> ((8 : Int32) &&& 31).toUInt32).toInt32).toUInt32 >>> ((4 : Int32) &&& 31).toUInt32).toInt32).toUInt32 >>> ((2 : Int32) &&& 31).toUInt32).toInt32)), .val (.int ((((1 : Int32) + (8 : Int32)) + (4 : Int32)) + (2 : Int32)))] [(.int (((((1 : Int32) + (8 : Int32)) + (4 : Int32)) + (2 : Int32)) + ((((((((((p0 ^^^ (-1 : Int32)) &&& (p0 - (1 : Int32))).toUInt32 >>> ((8 : Int32) &&& 31).toUInt32).toInt32).toUInt32 >>> ((4 : Int32) &&& 31).toUInt32).toInt32).toUInt32 >>> ((2 : Int32) &&& 31).toUInt32).toInt32).toUInt32 >>> ((1 : Int32) &&& 31).toUInt32).toInt32)))])
            obtain ⟨fs, hr, hrun, hended, hW, hsame⟩ := X0.leave (v := some (.int (((((1 : Int32) + (8 : Int32)) + (4 : Int32)) + (2 : Int32)) + ((((((((((p0 ^^^ (-1 : Int32)) &&& (p0 - (1 : Int32))).toUInt32 >>> ((8 : Int32) &&& 31).toUInt32).toInt32).toUInt32 >>> ((4 : Int32) &&& 31).toUInt32).toInt32).toUInt32 >>> ((2 : Int32) &&& 31).toUInt32).toInt32).toUInt32 >>> ((1 : Int32) &&& 31).toUInt32).toInt32)))) (fun h => by rw [Bd.returns] at h; cases h)
            exact ⟨_, _, (retI X0 hx Bd.returns (hb hby d9_79) hr), hrun, hended, _, _, rfl, ⟨(by first | rfl | (simp only [nI, ntzT, g0, g1, g2, g3, g4, if_pos c9_1, if_neg c23_2, if_pos c38_10, if_pos c52_11, if_pos c64_12]; done) | (simp +decide only [nI, ntzT, g0, g1, g2, g3, g4, if_pos c9_1, if_neg c23_2, if_pos c38_10, if_pos c52_11, if_pos c64_12, if_true, if_false, ↓reduceIte]; done) | (simp [nI, ntzT, g0, g1, g2, g3, g4, c9_1, c23_2, c38_10, c52_11, c64_12]; done)), N0, e0⟩, ⟨_, rfl⟩, hW, hsame.mono (by decide) (by decide)⟩
          · refine Runs.back (fun t_ k_ => XS.icmpYes X0.here hx rfl (pc0 := 64) (pc' := 74) rfl (hb hby d9_64) rfl (flt c64_12).2.2.2 (by decide) (by decide) k_) ?_
            show Runs _ _ _ _ s₁ (mkF m 74 #[.val (.int ((((((p0 ^^^ (-1 : Int32)) &&& (p0 - (1 : Int32))).toUInt32 >>> ((8 : Int32) &&& 31).toUInt32).toInt32).toUInt32 >>> ((4 : Int32) &&& 31).toUInt32).toInt32)), .val (.int (((1 : Int32) + (8 : Int32)) + (4 : Int32)))] [])
            refine Runs.back (fun t_ k_ => XS.iloadN X0.here hx rfl (hb hby d9_74) rfl k_) ?_
            show Runs _ _ _ _ s₁ (mkF m 75 #[.val (.int ((((((p0 ^^^ (-1 : Int32)) &&& (p0 - (1 : Int32))).toUInt32 >>> ((8 : Int32) &&& 31).toUInt32).toInt32).toUInt32 >>> ((4 : Int32) &&& 31).toUInt32).toInt32)), .val (.int (((1 : Int32) + (8 : Int32)) + (4 : Int32)))] [(.int (((1 : Int32) + (8 : Int32)) + (4 : Int32)))])
            refine Runs.back (fun t_ k_ => XS.iloadN X0.here hx rfl (hb hby d9_75) rfl k_) ?_
            show Runs _ _ _ _ s₁ (mkF m 76 #[.val (.int ((((((p0 ^^^ (-1 : Int32)) &&& (p0 - (1 : Int32))).toUInt32 >>> ((8 : Int32) &&& 31).toUInt32).toInt32).toUInt32 >>> ((4 : Int32) &&& 31).toUInt32).toInt32)), .val (.int (((1 : Int32) + (8 : Int32)) + (4 : Int32)))] [(.int ((((((p0 ^^^ (-1 : Int32)) &&& (p0 - (1 : Int32))).toUInt32 >>> ((8 : Int32) &&& 31).toUInt32).toInt32).toUInt32 >>> ((4 : Int32) &&& 31).toUInt32).toInt32)), (.int (((1 : Int32) + (8 : Int32)) + (4 : Int32)))])
            refine Runs.back (fun t_ k_ => XS.iconst X0.here hx rfl (hb hby d9_76) k_) ?_
            show Runs _ _ _ _ s₁ (mkF m 77 #[.val (.int ((((((p0 ^^^ (-1 : Int32)) &&& (p0 - (1 : Int32))).toUInt32 >>> ((8 : Int32) &&& 31).toUInt32).toInt32).toUInt32 >>> ((4 : Int32) &&& 31).toUInt32).toInt32)), .val (.int (((1 : Int32) + (8 : Int32)) + (4 : Int32)))] [(.int (1 : Int32)), (.int ((((((p0 ^^^ (-1 : Int32)) &&& (p0 - (1 : Int32))).toUInt32 >>> ((8 : Int32) &&& 31).toUInt32).toInt32).toUInt32 >>> ((4 : Int32) &&& 31).toUInt32).toInt32)), (.int (((1 : Int32) + (8 : Int32)) + (4 : Int32)))])
            refine Runs.back (fun t_ k_ => XS.iushr X0.here hx rfl (hb hby d9_77) rfl k_) ?_
            show Runs _ _ _ _ s₁ (mkF m 78 #[.val (.int ((((((p0 ^^^ (-1 : Int32)) &&& (p0 - (1 : Int32))).toUInt32 >>> ((8 : Int32) &&& 31).toUInt32).toInt32).toUInt32 >>> ((4 : Int32) &&& 31).toUInt32).toInt32)), .val (.int (((1 : Int32) + (8 : Int32)) + (4 : Int32)))] [(.int ((((((((p0 ^^^ (-1 : Int32)) &&& (p0 - (1 : Int32))).toUInt32 >>> ((8 : Int32) &&& 31).toUInt32).toInt32).toUInt32 >>> ((4 : Int32) &&& 31).toUInt32).toInt32).toUInt32 >>> ((1 : Int32) &&& 31).toUInt32).toInt32)), (.int (((1 : Int32) + (8 : Int32)) + (4 : Int32)))])
            refine Runs.back (fun t_ k_ => XS.iadd X0.here hx rfl (hb hby d9_78) rfl k_) ?_
            show Runs _ _ _ _ s₁ (mkF m 79 #[.val (.int ((((((p0 ^^^ (-1 : Int32)) &&& (p0 - (1 : Int32))).toUInt32 >>> ((8 : Int32) &&& 31).toUInt32).toInt32).toUInt32 >>> ((4 : Int32) &&& 31).toUInt32).toInt32)), .val (.int (((1 : Int32) + (8 : Int32)) + (4 : Int32)))] [(.int ((((1 : Int32) + (8 : Int32)) + (4 : Int32)) + ((((((((p0 ^^^ (-1 : Int32)) &&& (p0 - (1 : Int32))).toUInt32 >>> ((8 : Int32) &&& 31).toUInt32).toInt32).toUInt32 >>> ((4 : Int32) &&& 31).toUInt32).toInt32).toUInt32 >>> ((1 : Int32) &&& 31).toUInt32).toInt32)))])
            obtain ⟨fs, hr, hrun, hended, hW, hsame⟩ := X0.leave (v := some (.int ((((1 : Int32) + (8 : Int32)) + (4 : Int32)) + ((((((((p0 ^^^ (-1 : Int32)) &&& (p0 - (1 : Int32))).toUInt32 >>> ((8 : Int32) &&& 31).toUInt32).toInt32).toUInt32 >>> ((4 : Int32) &&& 31).toUInt32).toInt32).toUInt32 >>> ((1 : Int32) &&& 31).toUInt32).toInt32)))) (fun h => by rw [Bd.returns] at h; cases h)
            exact ⟨_, _, (retI X0 hx Bd.returns (hb hby d9_79) hr), hrun, hended, _, _, rfl, ⟨(by first | rfl | (simp only [nI, ntzT, g0, g1, g2, g3, g4, if_pos c9_1, if_neg c23_2, if_pos c38_10, if_pos c52_11, if_neg c64_12]; done) | (simp +decide only [nI, ntzT, g0, g1, g2, g3, g4, if_pos c9_1, if_neg c23_2, if_pos c38_10, if_pos c52_11, if_neg c64_12, if_true, if_false, ↓reduceIte]; done) | (simp [nI, ntzT, g0, g1, g2, g3, g4, c9_1, c23_2, c38_10, c52_11, c64_12]; done)), N0, e0⟩, ⟨_, rfl⟩, hW, hsame.mono (by decide) (by decide)⟩
        · refine Runs.back (fun t_ k_ => XS.icmpYes X0.here hx rfl (pc0 := 52) (pc' := 62) rfl (hb hby d9_52) rfl (flt c52_11).2.2.2 (by decide) (by decide) k_) ?_
          show Runs _ _ _ _ s₁ (mkF m 62 #[.val (.int ((((p0 ^^^ (-1 : Int32)) &&& (p0 - (1 : Int32))).toUInt32 >>> ((8 : Int32) &&& 31).toUInt32).toInt32)), .val (.int ((1 : Int32) + (8 : Int32)))] [])
          refine Runs.back (fun t_ k_ => XS.iloadN X0.here hx rfl (hb hby d9_62) rfl k_) ?_
          show Runs _ _ _ _ s₁ (mkF m 63 #[.val (.int ((((p0 ^^^ (-1 : Int32)) &&& (p0 - (1 : Int32))).toUInt32 >>> ((8 : Int32) &&& 31).toUInt32).toInt32)), .val (.int ((1 : Int32) + (8 : Int32)))] [(.int ((((p0 ^^^ (-1 : Int32)) &&& (p0 - (1 : Int32))).toUInt32 >>> ((8 : Int32) &&& 31).toUInt32).toInt32))])
          refine Runs.back (fun t_ k_ => XS.iconst X0.here hx rfl (hb hby d9_63) k_) ?_
          show Runs _ _ _ _ s₁ (mkF m 64 #[.val (.int ((((p0 ^^^ (-1 : Int32)) &&& (p0 - (1 : Int32))).toUInt32 >>> ((8 : Int32) &&& 31).toUInt32).toInt32)), .val (.int ((1 : Int32) + (8 : Int32)))] [(.int (4 : Int32)), (.int ((((p0 ^^^ (-1 : Int32)) &&& (p0 - (1 : Int32))).toUInt32 >>> ((8 : Int32) &&& 31).toUInt32).toInt32))])
          by_cases c64_13 : (4 : Int32) < ((((p0 ^^^ (-1 : Int32)) &&& (p0 - (1 : Int32))).toUInt32 >>> ((8 : Int32) &&& 31).toUInt32).toInt32)
          · refine Runs.back (fun t_ k_ => XS.icmpNo X0.here hx rfl (hb hby d9_64) rfl (tlt c64_13).2.2.2 k_) ?_
            show Runs _ _ _ _ s₁ (mkF m 67 #[.val (.int ((((p0 ^^^ (-1 : Int32)) &&& (p0 - (1 : Int32))).toUInt32 >>> ((8 : Int32) &&& 31).toUInt32).toInt32)), .val (.int ((1 : Int32) + (8 : Int32)))] [])
            refine Runs.back (fun t_ k_ => XS.iinc X0.here hx rfl (hb hby d9_67) rfl (l' := #[.val (.int ((((p0 ^^^ (-1 : Int32)) &&& (p0 - (1 : Int32))).toUInt32 >>> ((8 : Int32) &&& 31).toUInt32).toInt32)), .val (.int (((1 : Int32) + (8 : Int32)) + (2 : Int32)))]) rfl k_) ?_
            show Runs _ _ _ _ s₁ (mkF m 70 #[.val (.int ((((p0 ^^^ (-1 : Int32)) &&& (p0 - (1 : Int32))).toUInt32 >>> ((8 : Int32) &&& 31).toUInt32).toInt32)), .val (.int (((1 : Int32) + (8 : Int32)) + (2 : Int32)))] [])
            refine Runs.back (fun t_ k_ => XS.iloadN X0.here hx rfl (hb hby d9_70) rfl k_) ?_
            show Runs _ _ _ _ s₁ (mkF m 71 #[.val (.int ((((p0 ^^^ (-1 : Int32)) &&& (p0 - (1 : Int32))).toUInt32 >>> ((8 : Int32) &&& 31).toUInt32).toInt32)), .val (.int (((1 : Int32) + (8 : Int32)) + (2 : Int32)))] [(.int ((((p0 ^^^ (-1 : Int32)) &&& (p0 - (1 : Int32))).toUInt32 >>> ((8 : Int32) &&& 31).toUInt32).toInt32))])
            refine Runs.back (fun t_ k_ => XS.iconst X0.here hx rfl (hb hby d9_71) k_) ?_
            show Runs _ _ _ _ s₁ (mkF m 72 #[.val (.int ((((p0 ^^^ (-1 : Int32)) &&& (p0 - (1 : Int32))).toUInt32 >>> ((8 : Int32) &&& 31).toUInt32).toInt32)), .val (.int (((1 : Int32) + (8 : Int32)) + (2 : Int32)))] [(.int (2 : Int32)), (.int ((((p0 ^^^ (-1 : Int32)) &&& (p0 - (1 : Int32))).toUInt32 >>> ((8 : Int32) &&& 31).toUInt32).toInt32))])
            refine Runs.back (fun t_ k_ => XS.iushr X0.here hx rfl (hb hby d9_72) rfl k_) ?_
            show Runs _ _ _ _ s₁ (mkF m 73 #[.val (.int ((((p0 ^^^ (-1 : Int32)) &&& (p0 - (1 : Int32))).toUInt32 >>> ((8 : Int32) &&& 31).toUInt32).toInt32)), .val (.int (((1 : Int32) + (8 : Int32)) + (2 : Int32)))] [(.int ((((((p0 ^^^ (-1 : Int32)) &&& (p0 - (1 : Int32))).toUInt32 >>> ((8 : Int32) &&& 31).toUInt32).toInt32).toUInt32 >>> ((2 : Int32) &&& 31).toUInt32).toInt32))])
            refine Runs.back (fun t_ k_ => XS.istoreN X0.here hx rfl (hb hby d9_73) rfl (l' := #[.val (.int ((((((p0 ^^^ (-1 : Int32)) &&& (p0 - (1 : Int32))).toUInt32 >>> ((8 : Int32) &&& 31).toUInt32).toInt32).toUInt32 >>> ((2 : Int32) &&& 31).toUInt32).toInt32)), .val (.int (((1 : Int32) + (8 : Int32)) + (2 : Int32)))]) rfl k_) ?_
            show Runs _ _ _ _ s₁ (mkF m 74 #[.val (.int ((((((p0 ^^^ (-1 : Int32)) &&& (p0 - (1 : Int32))).toUInt32 >>> ((8 : Int32) &&& 31).toUInt32).toInt32).toUInt32 >>> ((2 : Int32) &&& 31).toUInt32).toInt32)), .val (.int (((1 : Int32) + (8 : Int32)) + (2 : Int32)))] [])
            refine Runs.back (fun t_ k_ => XS.iloadN X0.here hx rfl (hb hby d9_74) rfl k_) ?_
            show Runs _ _ _ _ s₁ (mkF m 75 #[.val (.int ((((((p0 ^^^ (-1 : Int32)) &&& (p0 - (1 : Int32))).toUInt32 >>> ((8 : Int32) &&& 31).toUInt32).toInt32).toUInt32 >>> ((2 : Int32) &&& 31).toUInt32).toInt32)), .val (.int (((1 : Int32) + (8 : Int32)) + (2 : Int32)))] [(.int (((1 : Int32) + (8 : Int32)) + (2 : Int32)))])
            refine Runs.back (fun t_ k_ => XS.iloadN X0.here hx rfl (hb hby d9_75) rfl k_) ?_
            show Runs _ _ _ _ s₁ (mkF m 76 #[.val (.int ((((((p0 ^^^ (-1 : Int32)) &&& (p0 - (1 : Int32))).toUInt32 >>> ((8 : Int32) &&& 31).toUInt32).toInt32).toUInt32 >>> ((2 : Int32) &&& 31).toUInt32).toInt32)), .val (.int (((1 : Int32) + (8 : Int32)) + (2 : Int32)))] [(.int ((((((p0 ^^^ (-1 : Int32)) &&& (p0 - (1 : Int32))).toUInt32 >>> ((8 : Int32) &&& 31).toUInt32).toInt32).toUInt32 >>> ((2 : Int32) &&& 31).toUInt32).toInt32)), (.int (((1 : Int32) + (8 : Int32)) + (2 : Int32)))])
            refine Runs.back (fun t_ k_ => XS.iconst X0.here hx rfl (hb hby d9_76) k_) ?_
            show Runs _ _ _ _ s₁ (mkF m 77 #[.val (.int ((((((p0 ^^^ (-1 : Int32)) &&& (p0 - (1 : Int32))).toUInt32 >>> ((8 : Int32) &&& 31).toUInt32).toInt32).toUInt32 >>> ((2 : Int32) &&& 31).toUInt32).toInt32)), .val (.int (((1 : Int32) + (8 : Int32)) + (2 : Int32)))] [(.int (1 : Int32)), (.int ((((((p0 ^^^ (-1 : Int32)) &&& (p0 - (1 : Int32))).toUInt32 >>> ((8 : Int32) &&& 31).toUInt32).toInt32).toUInt32 >>> ((2 : Int32) &&& 31).toUInt32).toInt32)), (.int (((1 : Int32) + (8 : Int32)) + (2 : Int32)))])
            refine Runs.back (fun t_ k_ => XS.iushr X0.here hx rfl (hb hby d9_77) rfl k_) ?_
            show Runs _ _ _ _ s₁ (mkF m 78 #[.val (.int ((((((p0 ^^^ (-1 : Int32)) &&& (p0 - (1 : Int32))).toUInt32 >>> ((8 : Int32) &&& 31).toUInt32).toInt32).toUInt32 >>> ((2 : Int32) &&& 31).toUInt32).toInt32)), .val (.int (((1 : Int32) + (8 : Int32)) + (2 : Int32)))] [(.int ((((((((p0 ^^^ (-1 : Int32)) &&& (p0 - (1 : Int32))).toUInt32 >>> ((8 : Int32) &&& 31).toUInt32).toInt32).toUInt32 >>> ((2 : Int32) &&& 31).toUInt32).toInt32).toUInt32 >>> ((1 : Int32) &&& 31).toUInt32).toInt32)), (.int (((1 : Int32) + (8 : Int32)) + (2 : Int32)))])
            refine Runs.back (fun t_ k_ => XS.iadd X0.here hx rfl (hb hby d9_78) rfl k_) ?_
            show Runs _ _ _ _ s₁ (mkF m 79 #[.val (.int ((((((p0 ^^^ (-1 : Int32)) &&& (p0 - (1 : Int32))).toUInt32 >>> ((8 : Int32) &&& 31).toUInt32).toInt32).toUInt32 >>> ((2 : Int32) &&& 31).toUInt32).toInt32)), .val (.int (((1 : Int32) + (8 : Int32)) + (2 : Int32)))] [(.int ((((1 : Int32) + (8 : Int32)) + (2 : Int32)) + ((((((((p0 ^^^ (-1 : Int32)) &&& (p0 - (1 : Int32))).toUInt32 >>> ((8 : Int32) &&& 31).toUInt32).toInt32).toUInt32 >>> ((2 : Int32) &&& 31).toUInt32).toInt32).toUInt32 >>> ((1 : Int32) &&& 31).toUInt32).toInt32)))])
            obtain ⟨fs, hr, hrun, hended, hW, hsame⟩ := X0.leave (v := some (.int ((((1 : Int32) + (8 : Int32)) + (2 : Int32)) + ((((((((p0 ^^^ (-1 : Int32)) &&& (p0 - (1 : Int32))).toUInt32 >>> ((8 : Int32) &&& 31).toUInt32).toInt32).toUInt32 >>> ((2 : Int32) &&& 31).toUInt32).toInt32).toUInt32 >>> ((1 : Int32) &&& 31).toUInt32).toInt32)))) (fun h => by rw [Bd.returns] at h; cases h)
            exact ⟨_, _, (retI X0 hx Bd.returns (hb hby d9_79) hr), hrun, hended, _, _, rfl, ⟨(by first | rfl | (simp only [nI, ntzT, g0, g1, g2, g3, g4, if_pos c9_1, if_neg c23_2, if_pos c38_10, if_neg c52_11, if_pos c64_13]; done) | (simp +decide only [nI, ntzT, g0, g1, g2, g3, g4, if_pos c9_1, if_neg c23_2, if_pos c38_10, if_neg c52_11, if_pos c64_13, if_true, if_false, ↓reduceIte]; done) | (simp [nI, ntzT, g0, g1, g2, g3, g4, c9_1, c23_2, c38_10, c52_11, c64_13]; done)), N0, e0⟩, ⟨_, rfl⟩, hW, hsame.mono (by decide) (by decide)⟩
          · refine Runs.back (fun t_ k_ => XS.icmpYes X0.here hx rfl (pc0 := 64) (pc' := 74) rfl (hb hby d9_64) rfl (flt c64_13).2.2.2 (by decide) (by decide) k_) ?_
            show Runs _ _ _ _ s₁ (mkF m 74 #[.val (.int ((((p0 ^^^ (-1 : Int32)) &&& (p0 - (1 : Int32))).toUInt32 >>> ((8 : Int32) &&& 31).toUInt32).toInt32)), .val (.int ((1 : Int32) + (8 : Int32)))] [])
            refine Runs.back (fun t_ k_ => XS.iloadN X0.here hx rfl (hb hby d9_74) rfl k_) ?_
            show Runs _ _ _ _ s₁ (mkF m 75 #[.val (.int ((((p0 ^^^ (-1 : Int32)) &&& (p0 - (1 : Int32))).toUInt32 >>> ((8 : Int32) &&& 31).toUInt32).toInt32)), .val (.int ((1 : Int32) + (8 : Int32)))] [(.int ((1 : Int32) + (8 : Int32)))])
            refine Runs.back (fun t_ k_ => XS.iloadN X0.here hx rfl (hb hby d9_75) rfl k_) ?_
            show Runs _ _ _ _ s₁ (mkF m 76 #[.val (.int ((((p0 ^^^ (-1 : Int32)) &&& (p0 - (1 : Int32))).toUInt32 >>> ((8 : Int32) &&& 31).toUInt32).toInt32)), .val (.int ((1 : Int32) + (8 : Int32)))] [(.int ((((p0 ^^^ (-1 : Int32)) &&& (p0 - (1 : Int32))).toUInt32 >>> ((8 : Int32) &&& 31).toUInt32).toInt32)), (.int ((1 : Int32) + (8 : Int32)))])
            refine Runs.back (fun t_ k_ => XS.iconst X0.here hx rfl (hb hby d9_76) k_) ?_
            show Runs _ _ _ _ s₁ (mkF m 77 #[.val (.int ((((p0 ^^^ (-1 : Int32)) &&& (p0 - (1 : Int32))).toUInt32 >>> ((8 : Int32) &&& 31).toUInt32).toInt32)), .val (.int ((1 : Int32) + (8 : Int32)))] [(.int (1 : Int32)), (.int ((((p0 ^^^ (-1 : Int32)) &&& (p0 - (1 : Int32))).toUInt32 >>> ((8 : Int32) &&& 31).toUInt32).toInt32)), (.int ((1 : Int32) + (8 : Int32)))])
            refine Runs.back (fun t_ k_ => XS.iushr X0.here hx rfl (hb hby d9_77) rfl k_) ?_
            show Runs _ _ _ _ s₁ (mkF m 78 #[.val (.int ((((p0 ^^^ (-1 : Int32)) &&& (p0 - (1 : Int32))).toUInt32 >>> ((8 : Int32) &&& 31).toUInt32).toInt32)), .val (.int ((1 : Int32) + (8 : Int32)))] [(.int ((((((p0 ^^^ (-1 : Int32)) &&& (p0 - (1 : Int32))).toUInt32 >>> ((8 : Int32) &&& 31).toUInt32).toInt32).toUInt32 >>> ((1 : Int32) &&& 31).toUInt32).toInt32)), (.int ((1 : Int32) + (8 : Int32)))])
            refine Runs.back (fun t_ k_ => XS.iadd X0.here hx rfl (hb hby d9_78) rfl k_) ?_
            show Runs _ _ _ _ s₁ (mkF m 79 #[.val (.int ((((p0 ^^^ (-1 : Int32)) &&& (p0 - (1 : Int32))).toUInt32 >>> ((8 : Int32) &&& 31).toUInt32).toInt32)), .val (.int ((1 : Int32) + (8 : Int32)))] [(.int (((1 : Int32) + (8 : Int32)) + ((((((p0 ^^^ (-1 : Int32)) &&& (p0 - (1 : Int32))).toUInt32 >>> ((8 : Int32) &&& 31).toUInt32).toInt32).toUInt32 >>> ((1 : Int32) &&& 31).toUInt32).toInt32)))])
            obtain ⟨fs, hr, hrun, hended, hW, hsame⟩ := X0.leave (v := some (.int (((1 : Int32) + (8 : Int32)) + ((((((p0 ^^^ (-1 : Int32)) &&& (p0 - (1 : Int32))).toUInt32 >>> ((8 : Int32) &&& 31).toUInt32).toInt32).toUInt32 >>> ((1 : Int32) &&& 31).toUInt32).toInt32)))) (fun h => by rw [Bd.returns] at h; cases h)
            exact ⟨_, _, (retI X0 hx Bd.returns (hb hby d9_79) hr), hrun, hended, _, _, rfl, ⟨(by first | rfl | (simp only [nI, ntzT, g0, g1, g2, g3, g4, if_pos c9_1, if_neg c23_2, if_pos c38_10, if_neg c52_11, if_neg c64_13]; done) | (simp +decide only [nI, ntzT, g0, g1, g2, g3, g4, if_pos c9_1, if_neg c23_2, if_pos c38_10, if_neg c52_11, if_neg c64_13, if_true, if_false, ↓reduceIte]; done) | (simp [nI, ntzT, g0, g1, g2, g3, g4, c9_1, c23_2, c38_10, c52_11, c64_13]; done)), N0, e0⟩, ⟨_, rfl⟩, hW, hsame.mono (by decide) (by decide)⟩
      · refine Runs.back (fun t_ k_ => XS.icmpYes X0.here hx rfl (pc0 := 38) (pc' := 49) rfl (hb hby d9_38) rfl (flt c38_10).2.2.2 (by decide) (by decide) k_) ?_
        show Runs _ _ _ _ s₁ (mkF m 49 #[.val (.int ((p0 ^^^ (-1 : Int32)) &&& (p0 - (1 : Int32)))), .val (.int (1 : Int32))] [])
        refine Runs.back (fun t_ k_ => XS.iloadN X0.here hx rfl (hb hby d9_49) rfl k_) ?_
        show Runs _ _ _ _ s₁ (mkF m 50 #[.val (.int ((p0 ^^^ (-1 : Int32)) &&& (p0 - (1 : Int32)))), .val (.int (1 : Int32))] [(.int ((p0 ^^^ (-1 : Int32)) &&& (p0 - (1 : Int32))))])
        refine Runs.back (fun t_ k_ => XS.bipush X0.here hx rfl (hb hby d9_50) k_) ?_
        show Runs _ _ _ _ s₁ (mkF m 52 #[.val (.int ((p0 ^^^ (-1 : Int32)) &&& (p0 - (1 : Int32)))), .val (.int (1 : Int32))] [(.int (16 : Int32)), (.int ((p0 ^^^ (-1 : Int32)) &&& (p0 - (1 : Int32))))])
        by_cases c52_14 : (16 : Int32) < ((p0 ^^^ (-1 : Int32)) &&& (p0 - (1 : Int32)))
        · refine Runs.back (fun t_ k_ => XS.icmpNo X0.here hx rfl (hb hby d9_52) rfl (tlt c52_14).2.2.2 k_) ?_
          show Runs _ _ _ _ s₁ (mkF m 55 #[.val (.int ((p0 ^^^ (-1 : Int32)) &&& (p0 - (1 : Int32)))), .val (.int (1 : Int32))] [])
          refine Runs.back (fun t_ k_ => XS.iinc X0.here hx rfl (hb hby d9_55) rfl (l' := #[.val (.int ((p0 ^^^ (-1 : Int32)) &&& (p0 - (1 : Int32)))), .val (.int ((1 : Int32) + (4 : Int32)))]) rfl k_) ?_
          show Runs _ _ _ _ s₁ (mkF m 58 #[.val (.int ((p0 ^^^ (-1 : Int32)) &&& (p0 - (1 : Int32)))), .val (.int ((1 : Int32) + (4 : Int32)))] [])
          refine Runs.back (fun t_ k_ => XS.iloadN X0.here hx rfl (hb hby d9_58) rfl k_) ?_
          show Runs _ _ _ _ s₁ (mkF m 59 #[.val (.int ((p0 ^^^ (-1 : Int32)) &&& (p0 - (1 : Int32)))), .val (.int ((1 : Int32) + (4 : Int32)))] [(.int ((p0 ^^^ (-1 : Int32)) &&& (p0 - (1 : Int32))))])
          refine Runs.back (fun t_ k_ => XS.iconst X0.here hx rfl (hb hby d9_59) k_) ?_
          show Runs _ _ _ _ s₁ (mkF m 60 #[.val (.int ((p0 ^^^ (-1 : Int32)) &&& (p0 - (1 : Int32)))), .val (.int ((1 : Int32) + (4 : Int32)))] [(.int (4 : Int32)), (.int ((p0 ^^^ (-1 : Int32)) &&& (p0 - (1 : Int32))))])
          refine Runs.back (fun t_ k_ => XS.iushr X0.here hx rfl (hb hby d9_60) rfl k_) ?_
          show Runs _ _ _ _ s₁ (mkF m 61 #[.val (.int ((p0 ^^^ (-1 : Int32)) &&& (p0 - (1 : Int32)))), .val (.int ((1 : Int32) + (4 : Int32)))] [(.int ((((p0 ^^^ (-1 : Int32)) &&& (p0 - (1 : Int32))).toUInt32 >>> ((4 : Int32) &&& 31).toUInt32).toInt32))])
          refine Runs.back (fun t_ k_ => XS.istoreN X0.here hx rfl (hb hby d9_61) rfl (l' := #[.val (.int ((((p0 ^^^ (-1 : Int32)) &&& (p0 - (1 : Int32))).toUInt32 >>> ((4 : Int32) &&& 31).toUInt32).toInt32)), .val (.int ((1 : Int32) + (4 : Int32)))]) rfl k_) ?_
          show Runs _ _ _ _ s₁ (mkF m 62 #[.val (.int ((((p0 ^^^ (-1 : Int32)) &&& (p0 - (1 : Int32))).toUInt32 >>> ((4 : Int32) &&& 31).toUInt32).toInt32)), .val (.int ((1 : Int32) + (4 : Int32)))] [])
          refine Runs.back (fun t_ k_ => XS.iloadN X0.here hx rfl (hb hby d9_62) rfl k_) ?_
          show Runs _ _ _ _ s₁ (mkF m 63 #[.val (.int ((((p0 ^^^ (-1 : Int32)) &&& (p0 - (1 : Int32))).toUInt32 >>> ((4 : Int32) &&& 31).toUInt32).toInt32)), .val (.int ((1 : Int32) + (4 : Int32)))] [(.int ((((p0 ^^^ (-1 : Int32)) &&& (p0 - (1 : Int32))).toUInt32 >>> ((4 : Int32) &&& 31).toUInt32).toInt32))])
          refine Runs.back (fun t_ k_ => XS.iconst X0.here hx rfl (hb hby d9_63) k_) ?_
          show Runs _ _ _ _ s₁ (mkF m 64 #[.val (.int ((((p0 ^^^ (-1 : Int32)) &&& (p0 - (1 : Int32))).toUInt32 >>> ((4 : Int32) &&& 31).toUInt32).toInt32)), .val (.int ((1 : Int32) + (4 : Int32)))] [(.int (4 : Int32)), (.int ((((p0 ^^^ (-1 : Int32)) &&& (p0 - (1 : Int32))).toUInt32 >>> ((4 : Int32) &&& 31).toUInt32).toInt32))])
          by_cases c64_15 : (4 : Int32) < ((((p0 ^^^ (-1 : Int32)) &&& (p0 - (1 : Int32))).toUInt32 >>> ((4 : Int32) &&& 31).toUInt32).toInt32)
          · refine Runs.back (fun t_ k_ => XS.icmpNo X0.here hx rfl (hb hby d9_64) rfl (tlt c64_15).2.2.2 k_) ?_
            show Runs _ _ _ _ s₁ (mkF m 67 #[.val (.int ((((p0 ^^^ (-1 : Int32)) &&& (p0 - (1 : Int32))).toUInt32 >>> ((4 : Int32) &&& 31).toUInt32).toInt32)), .val (.int ((1 : Int32) + (4 : Int32)))] [])
            refine Runs.back (fun t_ k_ => XS.iinc X0.here hx rfl (hb hby d9_67) rfl (l' := #[.val (.int ((((p0 ^^^ (-1 : Int32)) &&& (p0 - (1 : Int32))).toUInt32 >>> ((4 : Int32) &&& 31).toUInt32).toInt32)), .val (.int (((1 : Int32) + (4 : Int32)) + (2 : Int32)))]) rfl k_) ?_
            show Runs _ _ _ _ s₁ (mkF m 70 #[.val (.int ((((p0 ^^^ (-1 : Int32)) &&& (p0 - (1 : Int32))).toUInt32 >>> ((4 : Int32) &&& 31).toUInt32).toInt32)), .val (.int (((1 : Int32) + (4 : Int32)) + (2 : Int32)))] [])
            refine Runs.back (fun t_ k_ => XS.iloadN X0.here hx rfl (hb hby d9_70) rfl k_) ?_
            show Runs _ _ _ _ s₁ (mkF m 71 #[.val (.int ((((p0 ^^^ (-1 : Int32)) &&& (p0 - (1 : Int32))).toUInt32 >>> ((4 : Int32) &&& 31).toUInt32).toInt32)), .val (.int (((1 : Int32) + (4 : Int32)) + (2 : Int32)))] [(.int ((((p0 ^^^ (-1 : Int32)) &&& (p0 - (1 : Int32))).toUInt32 >>> ((4 : Int32) &&& 31).toUInt32).toInt32))])
            refine Runs.back (fun t_ k_ => XS.iconst X0.here hx rfl (hb hby d9_71) k_) ?_
            show Runs _ _ _ _ s₁ (mkF m 72 #[.val (.int ((((p0 ^^^ (-1 : Int32)) &&& (p0 - (1 : Int32))).toUInt32 >>> ((4 : Int32) &&& 31).toUInt32).toInt32)), .val (.int (((1 : Int32) + (4 : Int32)) + (2 : Int32)))] [(.int (2 : Int32)), (.int ((((p0 ^^^ (-1 : Int32)) &&& (p0 - (1 : Int32))).toUInt32 >>> ((4 : Int32) &&& 31).toUInt32).toInt32))])
            refine Runs.back (fun t_ k_ => XS.iushr X0.here hx rfl (hb hby d9_72) rfl k_) ?_
            show Runs _ _ _ _ s₁ (mkF m 73 #[.val (.int ((((p0 ^^^ (-1 : Int32)) &&& (p0 - (1 : Int32))).toUInt32 >>> ((4 : Int32) &&& 31).toUInt32).toInt32)), .val (.int (((1 : Int32) + (4 : Int32)) + (2 : Int32)))] [(.int ((((((p0 ^^^ (-1 : Int32)) &&& (p0 - (1 : Int32))).toUInt32 >>> ((4 : Int32) &&& 31).toUInt32).toInt32).toUInt32 >>> ((2 : Int32) &&& 31).toUInt32).toInt32))])
            refine Runs.back (fun t_ k_ => XS.istoreN X0.here hx rfl (hb hby d9_73) rfl (l' := #[.val (.int ((((((p0 ^^^ (-1 : Int32)) &&& (p0 - (1 : Int32))).toUInt32 >>> ((4 : Int32) &&& 31).toUInt32).toInt32).toUInt32 >>> ((2 : Int32) &&& 31).toUInt32).toInt32)), .val (.int (((1 : Int32) + (4 : Int32)) + (2 : Int32)))]) rfl k_) ?_
            show Runs _ _ _ _ s₁ (mkF m 74 #[.val (.int ((((((p0 ^^^ (-1 : Int32)) &&& (p0 - (1 : Int32))).toUInt32 >>> ((4 : Int32) &&& 31).toUInt32).toInt32).toUInt32 >>> ((2 : Int32) &&& 31).toUInt32).toInt32)), .val (.int (((1 : Int32) + (4 : Int32)) + (2 : Int32)))] [])
            refine Runs.back (fun t_ k_ => XS.iloadN X0.here hx rfl (hb hby d9_74) rfl k_) ?_
            show Runs _ _ _ _ s₁ (mkF m 75 #[.val (.int ((((((p0 ^^^ (-1 : Int32)) &&& (p0 - (1 : Int32))).toUInt32 >>> ((4 : Int32) &&& 31).toUInt32).toInt32).toUInt32 >>> ((2 : Int32) &&& 31).toUInt32).toInt32)), .val (.int (((1 : Int32) + (4 : Int32)) + (2 : Int32)))] [(.int (((1 : Int32) + (4 : Int32)) + (2 : Int32)))])
            refine Runs.back (fun t_ k_ => XS.iloadN X0.here hx rfl (hb hby d9_75) rfl k_) ?_
            show Runs _ _ _ _ s₁ (mkF m 76 #[.val (.int ((((((p0 ^^^ (-1 : Int32)) &&& (p0 - (1 : Int32))).toUInt32 >>> ((4 : Int32) &&& 31).toUInt32).toInt32).toUInt32 >>> ((2 : Int32) &&& 31).toUInt32).toInt32)), .val (.int (((1 : Int32) + (4 : Int32)) + (2 : Int32)))] [(.int ((((((p0 ^^^ (-1 : Int32)) &&& (p0 - (1 : Int32))).toUInt32 >>> ((4 : Int32) &&& 31).toUInt32).toInt32).toUInt32 >>> ((2 : Int32) &&& 31).toUInt32).toInt32)), (.int (((1 : Int32) + (4 : Int32)) + (2 : Int32)))])
            refine Runs.back (fun t_ k_ => XS.iconst X0.here hx rfl (hb hby d9_76) k_) ?_
            show Runs _ _ _ _ s₁ (mkF m 77 #[.val (.int ((((((p0 ^^^ (-1 : Int32)) &&& (p0 - (1 : Int32))).toUInt32 >>> ((4 : Int32) &&& 31).toUInt32).toInt32).toUInt32 >>> ((2 : Int32) &&& 31).toUInt32).toInt32)), .val (.int (((1 : Int32) + (4 : Int32)) + (2 : Int32)))] [(.int (1 : Int32)), (.int ((((((p0 ^^^ (-1 : Int32)) &&& (p0 - (1 : Int32))).toUInt32 >>> ((4 : Int32) &&& 31).toUInt32).toInt32).toUInt32 >>> ((2 : Int32) &&& 31).toUInt32).toInt32)), (.int (((1 : Int32) + (4 : Int32)) + (2 : Int32)))])
            refine Runs.back (fun t_ k_ => XS.iushr X0.here hx rfl (hb hby d9_77) rfl k_) ?_
            show Runs _ _ _ _ s₁ (mkF m 78 #[.val (.int ((((((p0 ^^^ (-1 : Int32)) &&& (p0 - (1 : Int32))).toUInt32 >>> ((4 : Int32) &&& 31).toUInt32).toInt32).toUInt32 >>> ((2 : Int32) &&& 31).toUInt32).toInt32)), .val (.int (((1 : Int32) + (4 : Int32)) + (2 : Int32)))] [(.int ((((((((p0 ^^^ (-1 : Int32)) &&& (p0 - (1 : Int32))).toUInt32 >>> ((4 : Int32) &&& 31).toUInt32).toInt32).toUInt32 >>> ((2 : Int32) &&& 31).toUInt32).toInt32).toUInt32 >>> ((1 : Int32) &&& 31).toUInt32).toInt32)), (.int (((1 : Int32) + (4 : Int32)) + (2 : Int32)))])
            refine Runs.back (fun t_ k_ => XS.iadd X0.here hx rfl (hb hby d9_78) rfl k_) ?_
            show Runs _ _ _ _ s₁ (mkF m 79 #[.val (.int ((((((p0 ^^^ (-1 : Int32)) &&& (p0 - (1 : Int32))).toUInt32 >>> ((4 : Int32) &&& 31).toUInt32).toInt32).toUInt32 >>> ((2 : Int32) &&& 31).toUInt32).toInt32)), .val (.int (((1 : Int32) + (4 : Int32)) + (2 : Int32)))] [(.int ((((1 : Int32) + (4 : Int32)) + (2 : Int32)) + ((((((((p0 ^^^ (-1 : Int32)) &&& (p0 - (1 : Int32))).toUInt32 >>> ((4 : Int32) &&& 31).toUInt32).toInt32).toUInt32 >>> ((2 : Int32) &&& 31).toUInt32).toInt32).toUInt32 >>> ((1 : Int32) &&& 31).toUInt32).toInt32)))])
            obtain ⟨fs, hr, hrun, hended, hW, hsame⟩ := X0.leave (v := some (.int ((((1 : Int32) + (4 : Int32)) + (2 : Int32)) + ((((((((p0 ^^^ (-1 : Int32)) &&& (p0 - (1 : Int32))).toUInt32 >>> ((4 : Int32) &&& 31).toUInt32).toInt32).toUInt32 >>> ((2 : Int32) &&& 31).toUInt32).toInt32).toUInt32 >>> ((1 : Int32) &&& 31).toUInt32).toInt32)))) (fun h => by rw [Bd.returns] at h; cases h)
            exact ⟨_, _, (retI X0 hx Bd.returns (hb hby d9_79) hr), hrun, hended, _, _, rfl, ⟨(by first | rfl | (simp only [nI, ntzT, g0, g1, g2, g3, g4, if_pos c9_1, if_neg c23_2, if_neg c38_10, if_pos c52_14, if_pos c64_15]; done) | (simp +decide only [nI, ntzT, g0, g1, g2, g3, g4, if_pos c9_1, if_neg c23_2, if_neg c38_10, if_pos c52_14, if_pos c64_15, if_true, if_false, ↓reduceIte]; done) | (simp [nI, ntzT, g0, g1, g2, g3, g4, c9_1, c23_2, c38_10, c52_14, c64_15]; done)), N0, e0⟩, ⟨_, rfl⟩, hW, hsame.mono (by decide) (by decide)⟩
          · refine Runs.back (fun t_ k_ => XS.icmpYes X0.here hx rfl (pc0 := 64) (pc' := 74) rfl (hb hby d9_64) rfl (flt c64_15).2.2.2 (by decide) (by decide) k_) ?_
            show Runs _ _ _ _ s₁ (mkF m 74 #[.val (.int ((((p0 ^^^ (-1 : Int32)) &&& (p0 - (1 : Int32))).toUInt32 >>> ((4 : Int32) &&& 31).toUInt32).toInt32)), .val (.int ((1 : Int32) + (4 : Int32)))] [])
            refine Runs.back (fun t_ k_ => XS.iloadN X0.here hx rfl (hb hby d9_74) rfl k_) ?_
            show Runs _ _ _ _ s₁ (mkF m 75 #[.val (.int ((((p0 ^^^ (-1 : Int32)) &&& (p0 - (1 : Int32))).toUInt32 >>> ((4 : Int32) &&& 31).toUInt32).toInt32)), .val (.int ((1 : Int32) + (4 : Int32)))] [(.int ((1 : Int32) + (4 : Int32)))])
            refine Runs.back (fun t_ k_ => XS.iloadN X0.here hx rfl (hb hby d9_75) rfl k_) ?_
            show Runs _ _ _ _ s₁ (mkF m 76 #[.val (.int ((((p0 ^^^ (-1 : Int32)) &&& (p0 - (1 : Int32))).toUInt32 >>> ((4 : Int32) &&& 31).toUInt32).toInt32)), .val (.int ((1 : Int32) + (4 : Int32)))] [(.int ((((p0 ^^^ (-1 : Int32)) &&& (p0 - (1 : Int32))).toUInt32 >>> ((4 : Int32) &&& 31).toUInt32).toInt32)), (.int ((1 : Int32) + (4 : Int32)))])
            refine Runs.back (fun t_ k_ => XS.iconst X0.here hx rfl (hb hby d9_76) k_) ?_
            show Runs _ _ _ _ s₁ (mkF m 77 #[.val (.int ((((p0 ^^^ (-1 : Int32)) &&& (p0 - (1 : Int32))).toUInt32 >>> ((4 : Int32) &&& 31).toUInt32).toInt32)), .val (.int ((1 : Int32) + (4 : Int32)))] [(.int (1 : Int32)), (.int ((((p0 ^^^ (-1 : Int32)) &&& (p0 - (1 : Int32))).toUInt32 >>> ((4 : Int32) &&& 31).toUInt32).toInt32)), (.int ((1 : Int32) + (4 : Int32)))])
            refine Runs.back (fun t_ k_ => XS.iushr X0.here hx rfl (hb hby d9_77) rfl k_) ?_
            show Runs _ _ _ _ s₁ (mkF m 78 #[.val (.int ((((p0 ^^^ (-1 : Int32)) &&& (p0 - (1 : Int32))).toUInt32 >>> ((4 : Int32) &&& 31).toUInt32).toInt32)), .val (.int ((1 : Int32) + (4 : Int32)))] [(.int ((((((p0 ^^^ (-1 : Int32)) &&& (p0 - (1 : Int32))).toUInt32 >>> ((4 : Int32) &&& 31).toUInt32).toInt32).toUInt32 >>> ((1 : Int32) &&& 31).toUInt32).toInt32)), (.int ((1 : Int32) + (4 : Int32)))])
            refine Runs.back (fun t_ k_ => XS.iadd X0.here hx rfl (hb hby d9_78) rfl k_) ?_
            show Runs _ _ _ _ s₁ (mkF m 79 #[.val (.int ((((p0 ^^^ (-1 : Int32)) &&& (p0 - (1 : Int32))).toUInt32 >>> ((4 : Int32) &&& 31).toUInt32).toInt32)), .val (.int ((1 : Int32) + (4 : Int32)))] [(.int (((1 : Int32) + (4 : Int32)) + ((((((p0 ^^^ (-1 : Int32)) &&& (p0 - (1 : Int32))).toUInt32 >>> ((4 : Int32) &&& 31).toUInt32).toInt32).toUInt32 >>> ((1 : Int32) &&& 31).toUInt32).toInt32)))])
            obtain ⟨fs, hr, hrun, hended, hW, hsame⟩ := X0.leave (v := some (.int (((1 : Int32) + (4 : Int32)) + ((((((p0 ^^^ (-1 : Int32)) &&& (p0 - (1 : Int32))).toUInt32 >>> ((4 : Int32) &&& 31).toUInt32).toInt32).toUInt32 >>> ((1 : Int32) &&& 31).toUInt32).toInt32)))) (fun h => by rw [Bd.returns] at h; cases h)
            exact ⟨_, _, (retI X0 hx Bd.returns (hb hby d9_79) hr), hrun, hended, _, _, rfl, ⟨(by first | rfl | (simp only [nI, ntzT, g0, g1, g2, g3, g4, if_pos c9_1, if_neg c23_2, if_neg c38_10, if_pos c52_14, if_neg c64_15]; done) | (simp +decide only [nI, ntzT, g0, g1, g2, g3, g4, if_pos c9_1, if_neg c23_2, if_neg c38_10, if_pos c52_14, if_neg c64_15, if_true, if_false, ↓reduceIte]; done) | (simp [nI, ntzT, g0, g1, g2, g3, g4, c9_1, c23_2, c38_10, c52_14, c64_15]; done)), N0, e0⟩, ⟨_, rfl⟩, hW, hsame.mono (by decide) (by decide)⟩
        · refine Runs.back (fun t_ k_ => XS.icmpYes X0.here hx rfl (pc0 := 52) (pc' := 62) rfl (hb hby d9_52) rfl (flt c52_14).2.2.2 (by decide) (by decide) k_) ?_
          show Runs _ _ _ _ s₁ (mkF m 62 #[.val (.int ((p0 ^^^ (-1 : Int32)) &&& (p0 - (1 : Int32)))), .val (.int (1 : Int32))] [])
          refine Runs.back (fun t_ k_ => XS.iloadN X0.here hx rfl (hb hby d9_62) rfl k_) ?_
          show Runs _ _ _ _ s₁ (mkF m 63 #[.val (.int ((p0 ^^^ (-1 : Int32)) &&& (p0 - (1 : Int32)))), .val (.int (1 : Int32))] [(.int ((p0 ^^^ (-1 : Int32)) &&& (p0 - (1 : Int32))))])
          refine Runs.back (fun t_ k_ => XS.iconst X0.here hx rfl (hb hby d9_63) k_) ?_
          show Runs _ _ _ _ s₁ (mkF m 64 #[.val (.int ((p0 ^^^ (-1 : Int32)) &&& (p0 - (1 : Int32)))), .val (.int (1 : Int32))] [(.int (4 : Int32)), (.int ((p0 ^^^ (-1 : Int32)) &&& (p0 - (1 : Int32))))])
          by_cases c64_16 : (4 : Int32) < ((p0 ^^^ (-1 : Int32)) &&& (p0 - (1 : Int32)))
          · refine Runs.back (fun t_ k_ => XS.icmpNo X0.here hx rfl (hb hby d9_64) rfl (tlt c64_16).2.2.2 k_) ?_
            show Runs _ _ _ _ s₁ (mkF m 67 #[.val (.int ((p0 ^^^ (-1 : Int32)) &&& (p0 - (1 : Int32)))), .val (.int (1 : Int32))] [])
            refine Runs.back (fun t_ k_ => XS.iinc X0.here hx rfl (hb hby d9_67) rfl (l' := #[.val (.int ((p0 ^^^ (-1 : Int32)) &&& (p0 - (1 : Int32)))), .val (.int ((1 : Int32) + (2 : Int32)))]) rfl k_) ?_
            show Runs _ _ _ _ s₁ (mkF m 70 #[.val (.int ((p0 ^^^ (-1 : Int32)) &&& (p0 - (1 : Int32)))), .val (.int ((1 : Int32) + (2 : Int32)))] [])
            refine Runs.back (fun t_ k_ => XS.iloadN X0.here hx rfl (hb hby d9_70) rfl k_) ?_
            show Runs _ _ _ _ s₁ (mkF m 71 #[.val (.int ((p0 ^^^ (-1 : Int32)) &&& (p0 - (1 : Int32)))), .val (.int ((1 : Int32) + (2 : Int32)))] [(.int ((p0 ^^^ (-1 : Int32)) &&& (p0 - (1 : Int32))))])
            refine Runs.back (fun t_ k_ => XS.iconst X0.here hx rfl (hb hby d9_71) k_) ?_
            show Runs _ _ _ _ s₁ (mkF m 72 #[.val (.int ((p0 ^^^ (-1 : Int32)) &&& (p0 - (1 : Int32)))), .val (.int ((1 : Int32) + (2 : Int32)))] [(.int (2 : Int32)), (.int ((p0 ^^^ (-1 : Int32)) &&& (p0 - (1 : Int32))))])
            refine Runs.back (fun t_ k_ => XS.iushr X0.here hx rfl (hb hby d9_72) rfl k_) ?_
            show Runs _ _ _ _ s₁ (mkF m 73 #[.val (.int ((p0 ^^^ (-1 : Int32)) &&& (p0 - (1 : Int32)))), .val (.int ((1 : Int32) + (2 : Int32)))] [(.int ((((p0 ^^^ (-1 : Int32)) &&& (p0 - (1 : Int32))).toUInt32 >>> ((2 : Int32) &&& 31).toUInt32).toInt32))])
            refine Runs.back (fun t_ k_ => XS.istoreN X0.here hx rfl (hb hby d9_73) rfl (l' := #[.val (.int ((((p0 ^^^ (-1 : Int32)) &&& (p0 - (1 : Int32))).toUInt32 >>> ((2 : Int32) &&& 31).toUInt32).toInt32)), .val (.int ((1 : Int32) + (2 : Int32)))]) rfl k_) ?_
            show Runs _ _ _ _ s₁ (mkF m 74 #[.val (.int ((((p0 ^^^ (-1 : Int32)) &&& (p0 - (1 : Int32))).toUInt32 >>> ((2 : Int32) &&& 31).toUInt32).toInt32)), .val (.int ((1 : Int32) + (2 : Int32)))] [])
            refine Runs.back (fun t_ k_ => XS.iloadN X0.here hx rfl (hb hby d9_74) rfl k_) ?_
            show Runs _ _ _ _ s₁ (mkF m 75 #[.val (.int ((((p0 ^^^ (-1 : Int32)) &&& (p0 - (1 : Int32))).toUInt32 >>> ((2 : Int32) &&& 31).toUInt32).toInt32)), .val (.int ((1 : Int32) + (2 : Int32)))] [(.int ((1 : Int32) + (2 : Int32)))])
            refine Runs.back (fun t_ k_ => XS.iloadN X0.here hx rfl (hb hby d9_75) rfl k_) ?_
            show Runs _ _ _ _ s₁ (mkF m 76 #[.val (.int ((((p0 ^^^ (-1 : Int32)) &&& (p0 - (1 : Int32))).toUInt32 >>> ((2 : Int32) &&& 31).toUInt32).toInt32)), .val (.int ((1 : Int32) + (2 : Int32)))] [(.int ((((p0 ^^^ (-1 : Int32)) &&& (p0 - (1 : Int32))).toUInt32 >>> ((2 : Int32) &&& 31).toUInt32).toInt32)), (.int ((1 : Int32) + (2 : Int32)))])
            refine Runs.back (fun t_ k_ => XS.iconst X0.here hx rfl (hb hby d9_76) k_) ?_
            show Runs _ _ _ _ s₁ (mkF m 77 #[.val (.int ((((p0 ^^^ (-1 : Int32)) &&& (p0 - (1 : Int32))).toUInt32 >>> ((2 : Int32) &&& 31).toUInt32).toInt32)), .val (.int ((1 : Int32) + (2 : Int32)))] [(.int (1 : Int32)), (.int ((((p0 ^^^ (-1 : Int32)) &&& (p0 - (1 : Int32))).toUInt32 >>> ((2 : Int32) &&& 31).toUInt32).toInt32)), (.int ((1 : Int32) + (2 : Int32)))])
            refine Runs.back (fun t_ k_ => XS.iushr X0.here hx rfl (hb hby d9_77) rfl k_) ?_
            show Runs _ _ _ _ s₁ (mkF m 78 #[.val (.int ((((p0 ^^^ (-1 : Int32)) &&& (p0 - (1 : Int32))).toUInt32 >>> ((2 : Int32) &&& 31).toUInt32).toInt32)), .val (.int ((1 : Int32) + (2 : Int32)))] [(.int ((((((p0 ^^^ (-1 : Int32)) &&& (p0 - (1 : Int32))).toUInt32 >>> ((2 : Int32) &&& 31).toUInt32).toInt32).toUInt32 >>> ((1 : Int32) &&& 31).toUInt32).toInt32)), (.int ((1 : Int32) + (2 : Int32)))])
            refine Runs.back (fun t_ k_ => XS.iadd X0.here hx rfl (hb hby d9_78) rfl k_) ?_
            show Runs _ _ _ _ s₁ (mkF m 79 #[.val (.int ((((p0 ^^^ (-1 : Int32)) &&& (p0 - (1 : Int32))).toUInt32 >>> ((2 : Int32) &&& 31).toUInt32).toInt32)), .val (.int ((1 : Int32) + (2 : Int32)))] [(.int (((1 : Int32) + (2 : Int32)) + ((((((p0 ^^^ (-1 : Int32)) &&& (p0 - (1 : Int32))).toUInt32 >>> ((2 : Int32) &&& 31).toUInt32).toInt32).toUInt32 >>> ((1 : Int32) &&& 31).toUInt32).toInt32)))])
            obtain ⟨fs, hr, hrun, hended, hW, hsame⟩ := X0.leave (v := some (.int (((1 : Int32) + (2 : Int32)) + ((((((p0 ^^^ (-1 : Int32)) &&& (p0 - (1 : Int32))).toUInt32 >>> ((2 : Int32) &&& 31).toUInt32).toInt32).toUInt32 >>> ((1 : Int32) &&& 31).toUInt32).toInt32)))) (fun h => by rw [Bd.returns] at h; cases h)
            exact ⟨_, _, (retI X0 hx Bd.returns (hb hby d9_79) hr), hrun, hended, _, _, rfl, ⟨(by first | rfl | (simp only [nI, ntzT, g0, g1, g2, g3, g4, if_pos c9_1, if_neg c23_2, if_neg c38_10, if_neg c52_14, if_pos c64_16]; done) | (simp +decide only [nI, ntzT, g0, g1, g2, g3, g4, if_pos c9_1, if_neg c23_2, if_neg c38_10, if_neg c52_14, if_pos c64_16, if_true, if_false, ↓reduceIte]; done) | (simp [nI, ntzT, g0, g1, g2, g3, g4, c9_1, c23_2, c38_10, c52_14, c64_16]; done)), N0, e0⟩, ⟨_, rfl⟩, hW, hsame.mono (by decide) (by decide)⟩
          · refine Runs.back (fun t_ k_ => XS.icmpYes X0.here hx rfl (pc0 := 64) (pc' := 74) rfl (hb hby d9_64) rfl (flt c64_16).2.2.2 (by decide) (by decide) k_) ?_
            show Runs _ _ _ _ s₁ (mkF m 74 #[.val (.int ((p0 ^^^ (-1 : Int32)) &&& (p0 - (1 : Int32)))), .val (.int (1 : Int32))] [])
            refine Runs.back (fun t_ k_ => XS.iloadN X0.here hx rfl (hb hby d9_74) rfl k_) ?_
            show Runs _ _ _ _ s₁ (mkF m 75 #[.val (.int ((p0 ^^^ (-1 : Int32)) &&& (p0 - (1 : Int32)))), .val (.int (1 : Int32))] [(.int (1 : Int32))])
            refine Runs.back (fun t_ k_ => XS.iloadN X0.here hx rfl (hb hby d9_75) rfl k_) ?_
            show Runs _ _ _ _ s₁ (mkF m 76 #[.val (.int ((p0 ^^^ (-1 : Int32)) &&& (p0 - (1 : Int32)))), .val (.int (1 : Int32))] [(.int ((p0 ^^^ (-1 : Int32)) &&& (p0 - (1 : Int32)))), (.int (1 : Int32))])
            refine Runs.back (fun t_ k_ => XS.iconst X0.here hx rfl (hb hby d9_76) k_) ?_
            show Runs _ _ _ _ s₁ (mkF m 77 #[.val (.int ((p0 ^^^ (-1 : Int32)) &&& (p0 - (1 : Int32)))), .val (.int (1 : Int32))] [(.int (1 : Int32)), (.int ((p0 ^^^ (-1 : Int32)) &&& (p0 - (1 : Int32)))), (.int (1 : Int32))])
            refine Runs.back (fun t_ k_ => XS.iushr X0.here hx rfl (hb hby d9_77) rfl k_) ?_
            show Runs _ _ _ _ s₁ (mkF m 78 #[.val (.int ((p0 ^^^ (-1 : Int32)) &&& (p0 - (1 : Int32)))), .val (.int (1 : Int32))] [(.int ((((p0 ^^^ (-1 : Int32)) &&& (p0 - (1 : Int32))).toUInt32 >>> ((1 : Int32) &&& 31).toUInt32).toInt32)), (.int (1 : Int32))])
            refine Runs.back (fun t_ k_ => XS.iadd X0.here hx rfl (hb hby d9_78) rfl k_) ?_
            show Runs _ _ _ _ s₁ (mkF m 79 #[.val (.int ((p0 ^^^ (-1 : Int32)) &&& (p0 - (1 : Int32)))), .val (.int (1 : Int32))] [(.int ((1 : Int32) + ((((p0 ^^^ (-1 : Int32)) &&& (p0 - (1 : Int32))).toUInt32 >>> ((1 : Int32) &&& 31).toUInt32).toInt32)))])
            obtain ⟨fs, hr, hrun, hended, hW, hsame⟩ := X0.leave (v := some (.int ((1 : Int32) + ((((p0 ^^^ (-1 : Int32)) &&& (p0 - (1 : Int32))).toUInt32 >>> ((1 : Int32) &&& 31).toUInt32).toInt32)))) (fun h => by rw [Bd.returns] at h; cases h)
            exact ⟨_, _, (retI X0 hx Bd.returns (hb hby d9_79) hr), hrun, hended, _, _, rfl, ⟨(by first | rfl | (simp only [nI, ntzT, g0, g1, g2, g3, g4, if_pos c9_1, if_neg c23_2, if_neg c38_10, if_neg c52_14, if_neg c64_16]; done) | (simp +decide only [nI, ntzT, g0, g1, g2, g3, g4, if_pos c9_1, if_neg c23_2, if_neg c38_10, if_neg c52_14, if_neg c64_16, if_true, if_false, ↓reduceIte]; done) | (simp [nI, ntzT, g0, g1, g2, g3, g4, c9_1, c23_2, c38_10, c52_14, c64_16]; done)), N0, e0⟩, ⟨_, rfl⟩, hW, hsame.mono (by decide) (by decide)⟩
  · refine Runs.back (fun t_ k_ => XS.ifNo X0.here hx rfl (hb hby d9_9) rfl ((if0 _ _).trans (flt c9_1).2.2.1) k_) ?_
    show Runs _ _ _ _ s₁ (mkF m 12 #[.val (.int ((p0 ^^^ (-1 : Int32)) &&& (p0 - (1 : Int32)))), .unset] [])
    refine Runs.back (fun t_ k_ => XS.iloadN X0.here hx rfl (hb hby d9_12) rfl k_) ?_
    show Runs _ _ _ _ s₁ (mkF m 13 #[.val (.int ((p0 ^^^ (-1 : Int32)) &&& (p0 - (1 : Int32)))), .unset] [(.int ((p0 ^^^ (-1 : Int32)) &&& (p0 - (1 : Int32))))])
    refine Runs.back (fun t_ k_ => XS.bipush X0.here hx rfl (hb hby d9_13) k_) ?_
    show Runs _ _ _ _ s₁ (mkF m 15 #[.val (.int ((p0 ^^^ (-1 : Int32)) &&& (p0 - (1 : Int32)))), .unset] [(.int (32 : Int32)), (.int ((p0 ^^^ (-1 : Int32)) &&& (p0 - (1 : Int32))))])
    refine Runs.back (fun t_ k_ => XS.iand X0.here hx rfl (hb hby d9_15) rfl k_) ?_
    show Runs _ _ _ _ s₁ (mkF m 16 #[.val (.int ((p0 ^^^ (-1 : Int32)) &&& (p0 - (1 : Int32)))), .unset] [(.int (((p0 ^^^ (-1 : Int32)) &&& (p0 - (1 : Int32))) &&& (32 : Int32)))])
    obtain ⟨fs, hr, hrun, hended, hW, hsame⟩ := X0.leave (v := some (.int (((p0 ^^^ (-1 : Int32)) &&& (p0 - (1 : Int32))) &&& (32 : Int32)))) (fun h => by rw [Bd.returns] at h; cases h)
    exact ⟨_, _, (retI X0 hx Bd.returns (hb hby d9_16) hr), hrun, hended, _, _, rfl, ⟨(by first | rfl | (simp only [nI, ntzT, g0, g1, g2, g3, g4, if_neg c9_1]; done) | (simp +decide only [nI, ntzT, g0, g1, g2, g3, g4, if_neg c9_1, if_true, if_false, ↓reduceIte]; done) | (simp [nI, ntzT, g0, g1, g2, g3, g4, c9_1]; done)), N0, e0⟩, ⟨_, rfl⟩, hW, hsame.mono (by decide) (by decide)⟩
theorem d8_0 : decode jdk_35_method_49_code 0 = .ok (.lload_n 0, 1) := by decide +kernel
theorem d8_1 : decode jdk_35_method_49_code 1 = .ok (.l2i, 1) := by decide +kernel
theorem d8_2 : decode jdk_35_method_49_code 2 = .ok (.istore_n 2, 1) := by decide +kernel
theorem d8_3 : decode jdk_35_method_49_code 3 = .ok (.iload_n 2, 1) := by decide +kernel
theorem d8_4 : decode jdk_35_method_49_code 4 = .ok (.ifCond .ne 17, 3) := by decide +kernel
theorem d8_7 : decode jdk_35_method_49_code 7 = .ok (.bipush 32, 2) := by decide +kernel
theorem d8_9 : decode jdk_35_method_49_code 9 = .ok (.lload_n 0, 1) := by decide +kernel
theorem d8_10 : decode jdk_35_method_49_code 10 = .ok (.bipush 32, 2) := by decide +kernel
theorem d8_12 : decode jdk_35_method_49_code 12 = .ok (.lushr, 1) := by decide +kernel
theorem d8_13 : decode jdk_35_method_49_code 13 = .ok (.l2i, 1) := by decide +kernel
theorem d8_14 : decode jdk_35_method_49_code 14 = .ok (.invokestatic 311, 3) := by decide +kernel
theorem d8_17 : decode jdk_35_method_49_code 17 = .ok (.iadd, 1) := by decide +kernel
theorem d8_18 : decode jdk_35_method_49_code 18 = .ok (.goto 7, 3) := by decide +kernel
theorem d8_21 : decode jdk_35_method_49_code 21 = .ok (.iload_n 2, 1) := by decide +kernel
theorem d8_22 : decode jdk_35_method_49_code 22 = .ok (.invokestatic 311, 3) := by decide +kernel
theorem d8_25 : decode jdk_35_method_49_code 25 = .ok (.ireturn, 1) := by decide +kernel
theorem pn_8 : plainName "java/lang/Long" = true := by first | (simp [plainName, overriddenIn]; done) | decide +kernel
theorem pd8_0 : parseMethodDescriptor "(I)I" = some ⟨[.int], some .int⟩ := by decide +kernel
theorem ef_8 (m : MethodId) (q0 : Int64) : entryFrame m #[(.long q0)] 3 = mkF m 0 #[.val (.long q0), .second, .unset] [] := by first | (simp [entryFrame, mkF, argsToLocals, Value.category]; done) | rfl
def Q8 (Z : State) (q0 : Int64)  (h0 : Heap) (n0 : Nat) (v : Option Value) (h : Heap) (L : List Loc) : Prop := v = some (.int (ntzL q0)) ∧ Fr n0 L ∧ h = h0
set_option maxRecDepth 65536 in
set_option maxHeartbeats 40000000 in
theorem rm8 (l : Launch) (Z : State) (a0 : Array Value) (hw : ∀ d ∈ tables_1, d.before a0 Z = true) (ws : List Jvm.Cond) (q0 : Int64)  (h0 : Heap) (n0 : Nat) (Z0 : n0 ≤ h0.size) :
    MetFree l (⟨"java/lang/Long", "numberOfTrailingZeros", "(J)I"⟩ : MethodName) (head1 (Jvm.Cond.code (⟨"java/lang/Long", "numberOfTrailingZeros", "(J)I"⟩ : MethodName) jdk_35_method_49_code 3 (some .int) :: ws) ({ frames := 1, cells := 0, slots := 0, locals := 14 } : Room)) (fun a U => a = #[(.long q0)] ∧ Z.Warmed39 U.vm ∧ U.heap = h0) (fun _ _ _ _ _ => True) (fun _ U o U' => ∃ v L, o = .returned v ∧ Q8 Z q0 h0 n0 v U'.heap L ∧ FrameEnd U o U' L ({ frames := 1, cells := 0, slots := 0, locals := 14 } : Room).cells ({ frames := 1, cells := 0, slots := 0, locals := 14 } : Room).slots) := by
  refine MetFree.of_bodySF (plainFor_of_name pn_8) hisR ?_
  intro p e s m args below meth c s₁ Bd hml0 hP hK
  obtain ⟨rfl, hZ, hh⟩ := hP
  have hx := Bd.exec
  have hby := Bd.bytes
  have hml : c.maxLocals = 3 := hml0
  have hown : s.vm.findClass "java/lang/Long" = some m.cls := findClass_of_methodNamed Bd.named
  have hnm := (name_of_methodNamed Bd.named Bd.method).1
  have X0 : Stand p l e ({ frames := 1, cells := 0, slots := 0, locals := 14 } : Room) s m #[(.long q0)] below meth c s₁ [] 0 0 := Stand.of_body Bd
  have e0 : s₁.heap = h0 := by rw [← hh, Bd.state]; rfl
  have N0 := Fr.nil n0
  refine Runs.enter (ef_8 m q0) ?_
  show Runs _ _ _ _ s₁ (mkF m 0 #[.val (.long q0), .second, .unset] [])
  refine Runs.back (fun t_ k_ => XS.lloadN X0.here hx rfl (hb hby d8_0) rfl k_) ?_
  show Runs _ _ _ _ s₁ (mkF m 1 #[.val (.long q0), .second, .unset] [(.long q0)])
  refine Runs.back (fun t_ k_ => XS.l2i X0.here hx rfl (hb hby d8_1) rfl k_) ?_
  show Runs _ _ _ _ s₁ (mkF m 2 #[.val (.long q0), .second, .unset] [(.int (q0.toInt32))])
  refine Runs.back (fun t_ k_ => XS.istoreN X0.here hx rfl (hb hby d8_2) rfl (l' := #[.val (.long q0), .second, .val (.int (q0.toInt32))]) rfl k_) ?_
  show Runs _ _ _ _ s₁ (mkF m 3 #[.val (.long q0), .second, .val (.int (q0.toInt32))] [])
  refine Runs.back (fun t_ k_ => XS.iloadN X0.here hx rfl (hb hby d8_3) rfl k_) ?_
  show Runs _ _ _ _ s₁ (mkF m 4 #[.val (.long q0), .second, .val (.int (q0.toInt32))] [(.int (q0.toInt32))])
  by_cases c4_1 : (q0.toInt32) = (0 : Int32)
  · refine Runs.back (fun t_ k_ => XS.ifNo X0.here hx rfl (hb hby d8_4) rfl ((if0 _ _).trans (teq c4_1).2) k_) ?_
    show Runs _ _ _ _ s₁ (mkF m 7 #[.val (.long q0), .second, .val (.int (q0.toInt32))] [])
    refine Runs.back (fun t_ k_ => XS.bipush X0.here hx rfl (hb hby d8_7) k_) ?_
    show Runs _ _ _ _ s₁ (mkF m 9 #[.val (.long q0), .second, .val (.int (q0.toInt32))] [(.int (32 : Int32))])
    refine Runs.back (fun t_ k_ => XS.lloadN X0.here hx rfl (hb hby d8_9) rfl k_) ?_
    show Runs _ _ _ _ s₁ (mkF m 10 #[.val (.long q0), .second, .val (.int (q0.toInt32))] [(.long q0), (.int (32 : Int32))])
    refine Runs.back (fun t_ k_ => XS.bipush X0.here hx rfl (hb hby d8_10) k_) ?_
    show Runs _ _ _ _ s₁ (mkF m 12 #[.val (.long q0), .second, .val (.int (q0.toInt32))] [(.int (32 : Int32)), (.long q0), (.int (32 : Int32))])
    refine Runs.back (fun t_ k_ => XS.lushr X0.here hx rfl (hb hby d8_12) rfl k_) ?_
    show Runs _ _ _ _ s₁ (mkF m 13 #[.val (.long q0), .second, .val (.int (q0.toInt32))] [(.long ((q0.toUInt64 >>> ((32 : Int32) &&& 0x3f).toInt64.toUInt64).toInt64)), (.int (32 : Int32))])
    refine Runs.back (fun t_ k_ => XS.l2i X0.here hx rfl (hb hby d8_13) rfl k_) ?_
    show Runs _ _ _ _ s₁ (mkF m 14 #[.val (.long q0), .second, .val (.int (q0.toInt32))] [(.int (((q0.toUInt64 >>> ((32 : Int32) &&& 0x3f).toInt64.toUInt64).toInt64).toInt32)), (.int (32 : Int32))])
    obtain ⟨_, _, ⟨T2, L2, k2, n2⟩, -, X2, ⟨Lc2, hQ2, l2, y2, z2⟩, st2⟩ := Jvm.LawKit.callS X0 hx (y := (⟨"java/lang/Integer", "numberOfTrailingZeros", "(I)I"⟩ : MethodName)) hown (mvT hZ (hw _ (List.mem_of_getElem? (i := 44) rfl))) (mvT hZ (hw _ (List.mem_of_getElem? (i := 45) rfl))) (mvT hZ (hw _ (List.mem_of_getElem? (i := 46) rfl))) (mvT hZ (hw _ (List.mem_of_getElem? (i := 47) rfl))) (by decide) (backOf (W := 1) (rm9 l Z a0 hw [] (((q0.toUInt64 >>> ((32 : Int32) &&& 0x3f).toInt64.toUInt64).toInt64).toInt32) h0 n0 (Z0)) hZ (hw _ (List.mem_of_getElem? (i := 47) rfl)) (hw _ (List.mem_of_getElem? (i := 46) rfl)) (by decide) (by decide)) (g := (mkF m 14 #[.val (.long q0), .second, .val (.int (q0.toInt32))] [(.int (((q0.toUInt64 >>> ((32 : Int32) &&& 0x3f).toInt64.toUInt64).toInt64).toInt32)), (.int (32 : Int32))])) rfl (by rw [hml]; rfl) (argsL := [(.int (((q0.toUInt64 >>> ((32 : Int32) &&& 0x3f).toInt64.toUInt64).toInt64).toInt32))]) (rest := [(.int (32 : Int32))]) (lenOf pd8_0 rfl) rfl (by show 2 * 0 + _ ≤ _; exact Nat.le_of_eq rfl) (hb hby d8_14) (fun _ _ => ⟨rfl, e0, (by decide : 0 + 0 ≤ _), (by decide : 0 + 0 ≤ _)⟩)
    dsimp only [Pt.U, Pt.locs, Pt.cells, Pt.slots] at X2 l2 y2 z2 st2 hQ2
    obtain rfl : k2 = 0 := y2
    obtain rfl : n2 = 0 := z2
    obtain ⟨rfl, N2q, eq2⟩ := hQ2
    have N2 : Fr n0 L2 := by rw [l2]; exact Fr.app N0 N2q
    clear l2
    refine Runs.back st2 ?_
    show Runs _ _ _ _ T2 (mkF m 17 #[.val (.long q0), .second, .val (.int (q0.toInt32))] [(.int (nI (((q0.toUInt64 >>> ((32 : Int32) &&& 0x3f).toInt64.toUInt64).toInt64).toInt32))), (.int (32 : Int32))])
    refine Runs.back (fun t_ k_ => XS.iadd X2.here hx rfl (hb hby d8_17) rfl k_) ?_
    show Runs _ _ _ _ T2 (mkF m 18 #[.val (.long q0), .second, .val (.int (q0.toInt32))] [(.int ((32 : Int32) + (nI (((q0.toUInt64 >>> ((32 : Int32) &&& 0x3f).toInt64.toUInt64).toInt64).toInt32))))])
    refine Runs.back (fun t_ k_ => XS.goto X2.here hx rfl (pc0 := 18) (pc' := 25) rfl (hb hby d8_18) (by decide) (by decide) k_) ?_
    show Runs _ _ _ _ T2 (mkF m 25 #[.val (.long q0), .second, .val (.int (q0.toInt32))] [(.int ((32 : Int32) + (nI (((q0.toUInt64 >>> ((32 : Int32) &&& 0x3f).toInt64.toUInt64).toInt64).toInt32))))])
    obtain ⟨fs, hr, hrun, hended, hW, hsame⟩ := X2.leave (v := some (.int ((32 : Int32) + (nI (((q0.toUInt64 >>> ((32 : Int32) &&& 0x3f).toInt64.toUInt64).toInt64).toInt32))))) (fun h => by rw [Bd.returns] at h; cases h)
    exact ⟨_, _, (retI X2 hx Bd.returns (hb hby d8_25) hr), hrun, hended, _, _, rfl, ⟨(by first | rfl | (simp only [ntzL, if_pos c4_1]; done) | (simp +decide only [ntzL, if_pos c4_1, if_true, if_false, ↓reduceIte]; done) | (simp [ntzL, c4_1]; done)), N2, eq2⟩, ⟨_, rfl⟩, hW, hsame.mono (by decide) (by decide)⟩
  · refine Runs.back (fun t_ k_ => XS.ifYes X0.here hx rfl (pc0 := 4) (pc' := 21) rfl (hb hby d8_4) rfl ((if0 _ _).trans (feq c4_1).2) (by decide) (by decide) k_) ?_
    show Runs _ _ _ _ s₁ (mkF m 21 #[.val (.long q0), .second, .val (.int (q0.toInt32))] [])
    refine Runs.back (fun t_ k_ => XS.iloadN X0.here hx rfl (hb hby d8_21) rfl k_) ?_
    show Runs _ _ _ _ s₁ (mkF m 22 #[.val (.long q0), .second, .val (.int (q0.toInt32))] [(.int (q0.toInt32))])
    obtain ⟨_, _, ⟨T3, L3, k3, n3⟩, -, X3, ⟨Lc3, hQ3, l3, y3, z3⟩, st3⟩ := Jvm.LawKit.callS X0 hx (y := (⟨"java/lang/Integer", "numberOfTrailingZeros", "(I)I"⟩ : MethodName)) hown (mvT hZ (hw _ (List.mem_of_getElem? (i := 44) rfl))) (mvT hZ (hw _ (List.mem_of_getElem? (i := 45) rfl))) (mvT hZ (hw _ (List.mem_of_getElem? (i := 46) rfl))) (mvT hZ (hw _ (List.mem_of_getElem? (i := 47) rfl))) (by decide) (backOf (W := 0) (rm9 l Z a0 hw [] (q0.toInt32) h0 n0 (Z0)) hZ (hw _ (List.mem_of_getElem? (i := 47) rfl)) (hw _ (List.mem_of_getElem? (i := 46) rfl)) (by decide) (by decide)) (g := (mkF m 22 #[.val (.long q0), .second, .val (.int (q0.toInt32))] [(.int (q0.toInt32))])) rfl (by rw [hml]; rfl) (argsL := [(.int (q0.toInt32))]) (rest := []) (lenOf pd8_0 rfl) rfl (by show 2 * 0 + _ ≤ _; exact Nat.le_of_eq rfl) (hb hby d8_22) (fun _ _ => ⟨rfl, e0, (by decide : 0 + 0 ≤ _), (by decide : 0 + 0 ≤ _)⟩)
    dsimp only [Pt.U, Pt.locs, Pt.cells, Pt.slots] at X3 l3 y3 z3 st3 hQ3
    obtain rfl : k3 = 0 := y3
    obtain rfl : n3 = 0 := z3
    obtain ⟨rfl, N3q, eq3⟩ := hQ3
    have N3 : Fr n0 L3 := by rw [l3]; exact Fr.app N0 N3q
    clear l3
    refine Runs.back st3 ?_
    show Runs _ _ _ _ T3 (mkF m 25 #[.val (.long q0), .second, .val (.int (q0.toInt32))] [(.int (nI (q0.toInt32)))])
    obtain ⟨fs, hr, hrun, hended, hW, hsame⟩ := X3.leave (v := some (.int (nI (q0.toInt32)))) (fun h => by rw [Bd.returns] at h; cases h)
    exact ⟨_, _, (retI X3 hx Bd.returns (hb hby d8_25) hr), hrun, hended, _, _, rfl, ⟨(by first | rfl | (simp only [ntzL, if_neg c4_1]; done) | (simp +decide only [ntzL, if_neg c4_1, if_true, if_false, ↓reduceIte]; done) | (simp [ntzL, c4_1]; done)), N3, eq3⟩, ⟨_, rfl⟩, hW, hsame.mono (by decide) (by decide)⟩
def emF (x : Int64) : Int32 := if x = (0 : Int64) then (1 : Int32) else (0 : Int32)
theorem d4_0 : decode prog_42_method_3_code 0 = .ok (.aload_n 0, 1) := by decide +kernel
theorem d4_1 : decode prog_42_method_3_code 1 = .ok (.getfield 15, 3) := by decide +kernel
theorem d4_4 : decode prog_42_method_3_code 4 = .ok (.aload_n 0, 1) := by decide +kernel
theorem d4_5 : decode prog_42_method_3_code 5 = .ok (.getfield 15, 3) := by decide +kernel
theorem d4_8 : decode prog_42_method_3_code 8 = .ok (.arraylength, 1) := by decide +kernel
theorem d4_9 : decode prog_42_method_3_code 9 = .ok (.iconst 1, 1) := by decide +kernel
theorem d4_10 : decode prog_42_method_3_code 10 = .ok (.isub, 1) := by decide +kernel
theorem d4_11 : decode prog_42_method_3_code 11 = .ok (.aaload, 1) := by decide +kernel
theorem d4_12 : decode prog_42_method_3_code 12 = .ok (.iconst 0, 1) := by decide +kernel
theorem d4_13 : decode prog_42_method_3_code 13 = .ok (.laload, 1) := by decide +kernel
theorem d4_14 : decode prog_42_method_3_code 14 = .ok (.lconst 0, 1) := by decide +kernel
theorem d4_15 : decode prog_42_method_3_code 15 = .ok (.lcmp, 1) := by decide +kernel
theorem d4_16 : decode prog_42_method_3_code 16 = .ok (.ifCond .ne 7, 3) := by decide +kernel
theorem d4_19 : decode prog_42_method_3_code 19 = .ok (.iconst 1, 1) := by decide +kernel
theorem d4_20 : decode prog_42_method_3_code 20 = .ok (.goto 4, 3) := by decide +kernel
theorem d4_23 : decode prog_42_method_3_code 23 = .ok (.iconst 0, 1) := by decide +kernel
theorem d4_24 : decode prog_42_method_3_code 24 = .ok (.ireturn, 1) := by decide +kernel
theorem pn_4 : plainName "com/example/tradewheel/tradewheel/SmallestFirst" = true := by first | (simp [plainName, overriddenIn]; done) | decide +kernel
theorem ef_4 (m : MethodId) (r0 : Addr) : entryFrame m #[(.ref r0)] 1 = mkF m 0 #[.val (.ref r0)] [] := by first | (simp [entryFrame, mkF, argsToLocals, Value.category]; done) | rfl
def Q4 (Z : State) (r0 : Addr) (lv : Addr) (A : Nat → Addr) (sz : Nat → Nat) (D : Nat) (dI : Int32) (F : Nat → Nat → Int64) (h0 : Heap) (n0 : Nat) (v : Option Value) (h : Heap) (L : List Loc) : Prop := v = some (.int (emF (F (D - 1) 0))) ∧ Fr n0 L ∧ h = h0
set_option maxRecDepth 65536 in
set_option maxHeartbeats 40000000 in
theorem rm4 (l : Launch) (Z : State) (a0 : Array Value) (hw : ∀ d ∈ tables_1, d.before a0 Z = true) (ws : List Jvm.Cond) (r0 : Addr) (lv : Addr) (A : Nat → Addr) (sz : Nat → Nat) (D : Nat) (dI : Int32) (F : Nat → Nat → Int64) (h0 : Heap) (n0 : Nat) (Z0 : n0 ≤ h0.size) (H : SF Z h0 n0 r0 lv A sz D F) (hdI : D.toInt32 = dI) (hdv : dI.toInt = (D : Int)) (hD : 1 ≤ D ∧ D ≤ 4) (hs0 : 0 < sz (D - 1)) :
    MetFree l (⟨"com/example/tradewheel/tradewheel/SmallestFirst", "isEmpty", "()Z"⟩ : MethodName) (head1 (Jvm.Cond.code (⟨"com/example/tradewheel/tradewheel/SmallestFirst", "isEmpty", "()Z"⟩ : MethodName) prog_42_method_3_code 1 (some .boolean) :: ws) ({ frames := 0, cells := 0, slots := 0, locals := 0 } : Room)) (fun a U => a = #[(.ref r0)] ∧ Z.Warmed39 U.vm ∧ U.heap = h0) (fun _ _ _ _ _ => True) (fun _ U o U' => ∃ v L, o = .returned v ∧ Q4 Z r0 lv A sz D dI F h0 n0 v U'.heap L ∧ FrameEnd U o U' L ({ frames := 0, cells := 0, slots := 0, locals := 0 } : Room).cells ({ frames := 0, cells := 0, slots := 0, locals := 0 } : Room).slots) := by
  refine MetFree.of_bodySF (plainFor_of_name pn_4) hisR ?_
  intro p e s m args below meth c s₁ Bd hml0 hP hK
  obtain ⟨rfl, hZ, hh⟩ := hP
  have hx := Bd.exec
  have hby := Bd.bytes
  have hml : c.maxLocals = 1 := hml0
  have hown : s.vm.findClass "com/example/tradewheel/tradewheel/SmallestFirst" = some m.cls := findClass_of_methodNamed Bd.named
  have hnm := (name_of_methodNamed Bd.named Bd.method).1
  have X0 : Stand p l e ({ frames := 0, cells := 0, slots := 0, locals := 0 } : Room) s m #[(.ref r0)] below meth c s₁ [] 0 0 := Stand.of_body Bd
  have e0 : s₁.heap = h0 := by rw [← hh, Bd.state]; rfl
  have N0 := Fr.nil n0
  refine Runs.enter (ef_4 m r0) ?_
  show Runs _ _ _ _ s₁ (mkF m 0 #[.val (.ref r0)] [])
  obtain ⟨H1, H2, HA, H4, H5, H6⟩ := id H
  have hd1 : (dI - (1 : Int32)).toInt = ((D - 1 : Nat) : Int) := by rw [sub32 (by rw [o32]; omega) (by rw [o32]; omega), o32]; omega
  have hd2 := clampI hd1
  have HL := (H4 (D - 1) (by omega)).2
  refine Runs.back (fun t_ k_ => XS.aloadN X0.here hx rfl (hb hby d4_0) rfl rfl k_) ?_
  show Runs _ _ _ _ s₁ (mkF m 1 #[.val (.ref r0)] [(.ref r0)])
  obtain ⟨T1, X1, e1, st1⟩ := getF X0 hx hZ hown (host := "") (Or.inl (hw _ (List.mem_of_getElem? (i := 17) rfl))) Via.refl e0 H2 (g := (mkF m 1 #[.val (.ref r0)] [(.ref r0)])) rfl rfl (hb hby d4_1)
  refine Runs.back st1 ?_
  show Runs _ _ _ _ T1 (mkF m 4 #[.val (.ref r0)] [(.ref lv)])
  refine Runs.back (fun t_ k_ => XS.aloadN X1.here hx rfl (hb hby d4_4) rfl rfl k_) ?_
  show Runs _ _ _ _ T1 (mkF m 5 #[.val (.ref r0)] [(.ref r0), (.ref lv)])
  obtain ⟨T2, X2, e2, st2⟩ := getF X1 hx hZ hown (host := "") (Or.inl (hw _ (List.mem_of_getElem? (i := 17) rfl))) Via.refl e1 H2 (g := (mkF m 5 #[.val (.ref r0)] [(.ref r0), (.ref lv)])) rfl rfl (hb hby d4_5)
  refine Runs.back st2 ?_
  show Runs _ _ _ _ T2 (mkF m 8 #[.val (.ref r0)] [(.ref lv), (.ref lv)])
  obtain ⟨cl3, Ar3, S3, Hs3⟩ := id HA
  refine Runs.back (fun t_ k_ => X2.arraylength hx (by rw [e2]; exact Ar3.1) (State.isArrayOf_alike hZ.alike Ar3.2.1) (g := (mkF m 8 #[.val (.ref r0)] [(.ref lv), (.ref lv)])) rfl rfl (hb hby d4_8) _ (by rw [S3, show (D).toInt32 = dI from hdI]; exact k_)) ?_
  show Runs _ _ _ _ T2 (mkF m 9 #[.val (.ref r0)] [(.int dI), (.ref lv)])
  refine Runs.back (fun t_ k_ => XS.iconst X2.here hx rfl (hb hby d4_9) k_) ?_
  show Runs _ _ _ _ T2 (mkF m 10 #[.val (.ref r0)] [(.int (1 : Int32)), (.int dI), (.ref lv)])
  refine Runs.back (fun t_ k_ => XS.isub X2.here hx rfl (hb hby d4_10) rfl k_) ?_
  show Runs _ _ _ _ T2 (mkF m 11 #[.val (.ref r0)] [(.int (dI - (1 : Int32))), (.ref lv)])
  obtain ⟨cl4, Ar4, S4, Hs4⟩ := id HA
  have at4 : cl4.slots[((dI - (1 : Int32))).toNatClampNeg]? = some (.ref (A (D - 1))) := readO Hs4 hd2.1 (show (D - 1) < D from (by omega)) (rfl)
  refine Runs.back (fun t_ k_ => X2.aaload hx (j := (dI - (1 : Int32))) (v := (.ref (A (D - 1)))) (by rw [e2]; exact Ar4.1) (State.isArrayOf_alike hZ.alike Ar4.2.1) rfl Ar4.2.2 (by rw [S4]; exact (inbO hd2.2 hd2.1 (show (D - 1) < D from (by omega)))) at4 (g := (mkF m 11 #[.val (.ref r0)] [(.int (dI - (1 : Int32))), (.ref lv)])) rfl rfl (hb hby d4_11) _ k_) ?_
  clear at4 Hs4 S4 Ar4
  show Runs _ _ _ _ T2 (mkF m 12 #[.val (.ref r0)] [(.ref (A (D - 1)))])
  refine Runs.back (fun t_ k_ => XS.iconst X2.here hx rfl (hb hby d4_12) k_) ?_
  show Runs _ _ _ _ T2 (mkF m 13 #[.val (.ref r0)] [(.int (0 : Int32)), (.ref (A (D - 1)))])
  obtain ⟨cl5, Ar5, S5, Hs5⟩ := id HL
  have at5 : cl5.slots[((0 : Int32)).toNatClampNeg]? = some (.long (F (D - 1) 0)) := readO Hs5 (rfl : ((0 : Int32)).toNatClampNeg = 0) (show 0 < (sz (D - 1)) from hs0) (rfl)
  refine Runs.back (fun t_ k_ => X2.laload hx (j := (0 : Int32)) (v := (.long (F (D - 1) 0))) (by rw [e2]; exact Ar5.1) (State.isArrayOf_alike hZ.alike Ar5.2.1) Ar5.2.2 (by rw [S5]; exact (inbO (by decide : ¬ (0 : Int32) < 0) (rfl : ((0 : Int32)).toNatClampNeg = 0) (show 0 < (sz (D - 1)) from hs0))) at5 (g := (mkF m 13 #[.val (.ref r0)] [(.int (0 : Int32)), (.ref (A (D - 1)))])) rfl rfl (hb hby d4_13) _ k_) ?_
  clear at5 Hs5 S5 Ar5
  show Runs _ _ _ _ T2 (mkF m 14 #[.val (.ref r0)] [(.long (F (D - 1) 0))])
  refine Runs.back (fun t_ k_ => XS.lconst X2.here hx rfl (hb hby d4_14) k_) ?_
  show Runs _ _ _ _ T2 (mkF m 15 #[.val (.ref r0)] [(.long (0 : Int64)), (.long (F (D - 1) 0))])
  refine Runs.back (fun t_ k_ => XS.lcmp X2.here hx rfl (hb hby d4_15) rfl k_) ?_
  show Runs _ _ _ _ T2 (mkF m 16 #[.val (.ref r0)] [(.int (lcmpW (F (D - 1) 0) (0 : Int64)))])
  by_cases c16_6 : (F (D - 1) 0) = (0 : Int64)
  · refine Runs.back (fun t_ k_ => XS.ifNo X2.here hx rfl (hb hby d4_16) rfl ((if0 _ _).trans (teq (lcE c16_6)).2) k_) ?_
    show Runs _ _ _ _ T2 (mkF m 19 #[.val (.ref r0)] [])
    refine Runs.back (fun t_ k_ => XS.iconst X2.here hx rfl (hb hby d4_19) k_) ?_
    show Runs _ _ _ _ T2 (mkF m 20 #[.val (.ref r0)] [(.int (1 : Int32))])
    refine Runs.back (fun t_ k_ => XS.goto X2.here hx rfl (pc0 := 20) (pc' := 24) rfl (hb hby d4_20) (by decide) (by decide) k_) ?_
    show Runs _ _ _ _ T2 (mkF m 24 #[.val (.ref r0)] [(.int (1 : Int32))])
    obtain ⟨fs, hr, hrun, hended, hW, hsame⟩ := X2.leave (v := some (.int (1 : Int32))) (fun h => by rw [Bd.returns] at h; cases h)
    exact ⟨_, _, (retN X2 hx (t := .boolean) Bd.returns (by simp) (hb hby d4_24) hr), hrun, hended, _, _, rfl, ⟨(by first | rfl | (simp only [emF, if_pos c16_6]; done) | (simp +decide only [emF, if_pos c16_6, if_true, if_false, ↓reduceIte]; done) | (simp [emF, c16_6]; done)), N0, e2⟩, ⟨_, rfl⟩, hW, hsame.mono (by decide) (by decide)⟩
  · refine Runs.back (fun t_ k_ => XS.ifYes X2.here hx rfl (pc0 := 16) (pc' := 23) rfl (hb hby d4_16) rfl ((if0 _ _).trans (feq (lcN c16_6)).2) (by decide) (by decide) k_) ?_
    show Runs _ _ _ _ T2 (mkF m 23 #[.val (.ref r0)] [])
    refine Runs.back (fun t_ k_ => XS.iconst X2.here hx rfl (hb hby d4_23) k_) ?_
    show Runs _ _ _ _ T2 (mkF m 24 #[.val (.ref r0)] [(.int (0 : Int32))])
    obtain ⟨fs, hr, hrun, hended, hW, hsame⟩ := X2.leave (v := some (.int (0 : Int32))) (fun h => by rw [Bd.returns] at h; cases h)
    exact ⟨_, _, (retN X2 hx (t := .boolean) Bd.returns (by simp) (hb hby d4_24) hr), hrun, hended, _, _, rfl, ⟨(by first | rfl | (simp only [emF, if_neg c16_6]; done) | (simp +decide only [emF, if_neg c16_6, if_true, if_false, ↓reduceIte]; done) | (simp [emF, c16_6]; done)), N0, e2⟩, ⟨_, rfl⟩, hW, hsame.mono (by decide) (by decide)⟩
theorem d5_0 : decode prog_42_method_2_code 0 = .ok (.iload_n 1, 1) := by decide +kernel
theorem d5_1 : decode prog_42_method_2_code 1 = .ok (.istore_n 2, 1) := by decide +kernel
theorem d5_2 : decode prog_42_method_2_code 2 = .ok (.aload_n 0, 1) := by decide +kernel
theorem d5_3 : decode prog_42_method_2_code 3 = .ok (.getfield 15, 3) := by decide +kernel
theorem d5_6 : decode prog_42_method_2_code 6 = .ok (.astore_n 3, 1) := by decide +kernel
theorem d5_7 : decode prog_42_method_2_code 7 = .ok (.aload_n 3, 1) := by decide +kernel
theorem d5_8 : decode prog_42_method_2_code 8 = .ok (.arraylength, 1) := by decide +kernel
theorem d5_9 : decode prog_42_method_2_code 9 = .ok (.istore 4, 2) := by decide +kernel
theorem d5_11 : decode prog_42_method_2_code 11 = .ok (.iconst 0, 1) := by decide +kernel
theorem d5_12 : decode prog_42_method_2_code 12 = .ok (.istore 5, 2) := by decide +kernel
theorem d5_14 : decode prog_42_method_2_code 14 = .ok (.iload 5, 2) := by decide +kernel
theorem d5_16 : decode prog_42_method_2_code 16 = .ok (.iload 4, 2) := by decide +kernel
theorem d5_18 : decode prog_42_method_2_code 18 = .ok (.if_icmp .ge 58, 3) := by decide +kernel
theorem d5_21 : decode prog_42_method_2_code 21 = .ok (.aload_n 3, 1) := by decide +kernel
theorem d5_22 : decode prog_42_method_2_code 22 = .ok (.iload 5, 2) := by decide +kernel
theorem d5_24 : decode prog_42_method_2_code 24 = .ok (.aaload, 1) := by decide +kernel
theorem d5_25 : decode prog_42_method_2_code 25 = .ok (.astore 6, 2) := by decide +kernel
theorem d5_27 : decode prog_42_method_2_code 27 = .ok (.iload_n 2, 1) := by decide +kernel
theorem d5_28 : decode prog_42_method_2_code 28 = .ok (.bipush 6, 2) := by decide +kernel
theorem d5_30 : decode prog_42_method_2_code 30 = .ok (.iushr, 1) := by decide +kernel
theorem d5_31 : decode prog_42_method_2_code 31 = .ok (.istore 7, 2) := by decide +kernel
theorem d5_33 : decode prog_42_method_2_code 33 = .ok (.aload 6, 2) := by decide +kernel
theorem d5_35 : decode prog_42_method_2_code 35 = .ok (.iload 7, 2) := by decide +kernel
theorem d5_37 : decode prog_42_method_2_code 37 = .ok (.laload, 1) := by decide +kernel
theorem d5_38 : decode prog_42_method_2_code 38 = .ok (.lconst 0, 1) := by decide +kernel
theorem d5_39 : decode prog_42_method_2_code 39 = .ok (.lcmp, 1) := by decide +kernel
theorem d5_40 : decode prog_42_method_2_code 40 = .ok (.ifCond .eq 7, 3) := by decide +kernel
theorem d5_43 : decode prog_42_method_2_code 43 = .ok (.iconst 1, 1) := by decide +kernel
theorem d5_44 : decode prog_42_method_2_code 44 = .ok (.goto 4, 3) := by decide +kernel
theorem d5_47 : decode prog_42_method_2_code 47 = .ok (.iconst 0, 1) := by decide +kernel
theorem d5_48 : decode prog_42_method_2_code 48 = .ok (.istore 8, 2) := by decide +kernel
theorem d5_50 : decode prog_42_method_2_code 50 = .ok (.aload 6, 2) := by decide +kernel
theorem d5_52 : decode prog_42_method_2_code 52 = .ok (.iload 7, 2) := by decide +kernel
theorem d5_54 : decode prog_42_method_2_code 54 = .ok (.dup2, 1) := by decide +kernel
theorem d5_55 : decode prog_42_method_2_code 55 = .ok (.laload, 1) := by decide +kernel
theorem d5_56 : decode prog_42_method_2_code 56 = .ok (.lconst 1, 1) := by decide +kernel
theorem d5_57 : decode prog_42_method_2_code 57 = .ok (.iload_n 2, 1) := by decide +kernel
theorem d5_58 : decode prog_42_method_2_code 58 = .ok (.lshl, 1) := by decide +kernel
theorem d5_59 : decode prog_42_method_2_code 59 = .ok (.lor, 1) := by decide +kernel
theorem d5_60 : decode prog_42_method_2_code 60 = .ok (.lastore, 1) := by decide +kernel
theorem d5_61 : decode prog_42_method_2_code 61 = .ok (.iload 8, 2) := by decide +kernel
theorem d5_63 : decode prog_42_method_2_code 63 = .ok (.ifCond .eq 4, 3) := by decide +kernel
theorem d5_66 : decode prog_42_method_2_code 66 = .ok (.return_, 1) := by decide +kernel
theorem d5_67 : decode prog_42_method_2_code 67 = .ok (.iload 7, 2) := by decide +kernel
theorem d5_69 : decode prog_42_method_2_code 69 = .ok (.istore_n 2, 1) := by decide +kernel
theorem d5_70 : decode prog_42_method_2_code 70 = .ok (.iinc 5 1, 3) := by decide +kernel
theorem d5_73 : decode prog_42_method_2_code 73 = .ok (.goto (-59), 3) := by decide +kernel
theorem d5_76 : decode prog_42_method_2_code 76 = .ok (.return_, 1) := by decide +kernel
theorem pn_5 : plainName "com/example/tradewheel/tradewheel/SmallestFirst" = true := by first | (simp [plainName, overriddenIn]; done) | decide +kernel
theorem ef_5 (m : MethodId) (r0 : Addr) (p1 : Int32) : entryFrame m #[(.ref r0), (.int p1)] 9 = mkF m 0 #[.val (.ref r0), .val (.int p1), .unset, .unset, .unset, .unset, .unset, .unset, .unset] [] := by first | (simp [entryFrame, mkF, argsToLocals, Value.category]; done) | rfl
def Q5 (Z : State) (r0 : Addr) (p1 : Int32) (lv : Addr) (A : Nat → Addr) (sz : Nat → Nat) (D : Nat) (dI : Int32) (S : List Nat) (vn : Nat) (h0 : Heap) (n0 : Nat) (v : Option Value) (h : Heap) (L : List Loc) : Prop := v = none ∧ Fr n0 L ∧ SF Z h n0 r0 lv A sz D (wd (vn :: S))
set_option maxRecDepth 65536 in
set_option maxHeartbeats 40000000 in
theorem rm5 (l : Launch) (Z : State) (a0 : Array Value) (hw : ∀ d ∈ tables_1, d.before a0 Z = true) (ws : List Jvm.Cond) (r0 : Addr) (p1 : Int32) (lv : Addr) (A : Nat → Addr) (sz : Nat → Nat) (D : Nat) (dI : Int32) (S : List Nat) (vn : Nat) (h0 : Heap) (n0 : Nat) (Z0 : n0 ≤ h0.size) (H : SF Z h0 n0 r0 lv A sz D (wd S)) (hdI : D.toInt32 = dI) (hdv : dI.toInt = (D : Int)) (hD : 1 ≤ D ∧ D ≤ 4) (hv : p1.toInt = (vn : Int)) (hv31 : vn < 2147483648) (hsz : ∀ i, i < D → vn / 64 ^ (i + 1) < sz i) :
    MetFree l (⟨"com/example/tradewheel/tradewheel/SmallestFirst", "add", "(I)V"⟩ : MethodName) (head1 (Jvm.Cond.code (⟨"com/example/tradewheel/tradewheel/SmallestFirst", "add", "(I)V"⟩ : MethodName) prog_42_method_2_code 9 none :: ws) ({ frames := 0, cells := 0, slots := 0, locals := 0 } : Room)) (fun a U => a = #[(.ref r0), (.int p1)] ∧ Z.Warmed39 U.vm ∧ U.heap = h0) (fun _ _ _ _ _ => True) (fun _ U o U' => ∃ v L, o = .returned v ∧ Q5 Z r0 p1 lv A sz D dI S vn h0 n0 v U'.heap L ∧ FrameEnd U o U' L ({ frames := 0, cells := 0, slots := 0, locals := 0 } : Room).cells ({ frames := 0, cells := 0, slots := 0, locals := 0 } : Room).slots) := by
  refine MetFree.of_bodySF (plainFor_of_name pn_5) hisR ?_
  intro p e s m args below meth c s₁ Bd hml0 hP hK
  obtain ⟨rfl, hZ, hh⟩ := hP
  have hx := Bd.exec
  have hby := Bd.bytes
  have hml : c.maxLocals = 9 := hml0
  have hown : s.vm.findClass "com/example/tradewheel/tradewheel/SmallestFirst" = some m.cls := findClass_of_methodNamed Bd.named
  have hnm := (name_of_methodNamed Bd.named Bd.method).1
  have X0 : Stand p l e ({ frames := 0, cells := 0, slots := 0, locals := 0 } : Room) s m #[(.ref r0), (.int p1)] below meth c s₁ [] 0 0 := Stand.of_body Bd
  have e0 : s₁.heap = h0 := by rw [← hh, Bd.state]; rfl
  have N0 := Fr.nil n0
  refine Runs.enter (ef_5 m r0 p1) ?_
  show Runs _ _ _ _ s₁ (mkF m 0 #[.val (.ref r0), .val (.int p1), .unset, .unset, .unset, .unset, .unset, .unset, .unset] [])
  have HF : SF Z h0 n0 r0 lv A sz D (Fi vn S 0) := SF.congr H fun i _ j => (if_neg (Nat.not_lt_zero i)).symm
  obtain ⟨H1, H2, HA, H4, H5, H6⟩ := id HF
  refine Runs.back (fun t_ k_ => XS.iloadN X0.here hx rfl (hb hby d5_0) rfl k_) ?_
  show Runs _ _ _ _ s₁ (mkF m 1 #[.val (.ref r0), .val (.int p1), .unset, .unset, .unset, .unset, .unset, .unset, .unset] [(.int p1)])
  refine Runs.back (fun t_ k_ => XS.istoreN X0.here hx rfl (hb hby d5_1) rfl (l' := #[.val (.ref r0), .val (.int p1), .val (.int p1), .unset, .unset, .unset, .unset, .unset, .unset]) rfl k_) ?_
  show Runs _ _ _ _ s₁ (mkF m 2 #[.val (.ref r0), .val (.int p1), .val (.int p1), .unset, .unset, .unset, .unset, .unset, .unset] [])
  refine Runs.back (fun t_ k_ => XS.aloadN X0.here hx rfl (hb hby d5_2) rfl rfl k_) ?_
  show Runs _ _ _ _ s₁ (mkF m 3 #[.val (.ref r0), .val (.int p1), .val (.int p1), .unset, .unset, .unset, .unset, .unset, .unset] [(.ref r0)])
  obtain ⟨T1, X1, e1, st1⟩ := getF X0 hx hZ hown (host := "") (Or.inl (hw _ (List.mem_of_getElem? (i := 17) rfl))) Via.refl e0 H2 (g := (mkF m 3 #[.val (.ref r0), .val (.int p1), .val (.int p1), .unset, .unset, .unset, .unset, .unset, .unset] [(.ref r0)])) rfl rfl (hb hby d5_3)
  refine Runs.back st1 ?_
  show Runs _ _ _ _ T1 (mkF m 6 #[.val (.ref r0), .val (.int p1), .val (.int p1), .unset, .unset, .unset, .unset, .unset, .unset] [(.ref lv)])
  refine Runs.back (fun t_ k_ => XS.astoreN X1.here hx rfl (hb hby d5_6) rfl rfl (l' := #[.val (.ref r0), .val (.int p1), .val (.int p1), .val (.ref lv), .unset, .unset, .unset, .unset, .unset]) rfl k_) ?_
  show Runs _ _ _ _ T1 (mkF m 7 #[.val (.ref r0), .val (.int p1), .val (.int p1), .val (.ref lv), .unset, .unset, .unset, .unset, .unset] [])
  refine Runs.back (fun t_ k_ => XS.aloadN X1.here hx rfl (hb hby d5_7) rfl rfl k_) ?_
  show Runs _ _ _ _ T1 (mkF m 8 #[.val (.ref r0), .val (.int p1), .val (.int p1), .val (.ref lv), .unset, .unset, .unset, .unset, .unset] [(.ref lv)])
  obtain ⟨cl2, Ar2, S2, Hs2⟩ := id HA
  refine Runs.back (fun t_ k_ => X1.arraylength hx (by rw [e1]; exact Ar2.1) (State.isArrayOf_alike hZ.alike Ar2.2.1) (g := (mkF m 8 #[.val (.ref r0), .val (.int p1), .val (.int p1), .val (.ref lv), .unset, .unset, .unset, .unset, .unset] [(.ref lv)])) rfl rfl (hb hby d5_8) _ (by rw [S2, show (D).toInt32 = dI from hdI]; exact k_)) ?_
  show Runs _ _ _ _ T1 (mkF m 9 #[.val (.ref r0), .val (.int p1), .val (.int p1), .val (.ref lv), .unset, .unset, .unset, .unset, .unset] [(.int dI)])
  refine Runs.back (fun t_ k_ => XS.istore X1.here hx rfl (hb hby d5_9) rfl (l' := #[.val (.ref r0), .val (.int p1), .val (.int p1), .val (.ref lv), .val (.int dI), .unset, .unset, .unset, .unset]) rfl k_) ?_
  show Runs _ _ _ _ T1 (mkF m 11 #[.val (.ref r0), .val (.int p1), .val (.int p1), .val (.ref lv), .val (.int dI), .unset, .unset, .unset, .unset] [])
  refine Runs.back (fun t_ k_ => XS.iconst X1.here hx rfl (hb hby d5_11) k_) ?_
  show Runs _ _ _ _ T1 (mkF m 12 #[.val (.ref r0), .val (.int p1), .val (.int p1), .val (.ref lv), .val (.int dI), .unset, .unset, .unset, .unset] [(.int (0 : Int32))])
  refine Runs.back (fun t_ k_ => XS.istore X1.here hx rfl (hb hby d5_12) rfl (l' := #[.val (.ref r0), .val (.int p1), .val (.int p1), .val (.ref lv), .val (.int dI), .val (.int (0 : Int32)), .unset, .unset, .unset]) rfl k_) ?_
  show Runs _ _ _ _ T1 (mkF m 14 #[.val (.ref r0), .val (.int p1), .val (.int p1), .val (.ref lv), .val (.int dI), .val (.int (0 : Int32)), .unset, .unset, .unset] [])
  refine Runs.loop (α := Addr × Int32 × Int32 × Int32 × Int32 × Nat) (P := fun (k : Nat) (⟨x6, x7, x8, q, iI, i⟩ : Addr × Int32 × Int32 × Int32 × Int32 × Nat) (T' : State) => ∃ locs, Stand p l e ({ frames := 0, cells := 0, slots := 0, locals := 0 } : Room) s m #[(.ref r0), (.int p1)] below meth c T' locs 0 0 ∧ Fr n0 locs ∧ 1 ≤ i ∧ i + k = D ∧ q.toInt = ((vn / 64 ^ i : Nat) : Int) ∧ iI.toInt = (i : Int) ∧ SF Z T'.heap n0 r0 lv A sz D (Fi vn S i)) (F := fun ⟨x6, x7, x8, q, iI, i⟩ => (mkF m 14 #[.val (.ref r0), .val (.int p1), .val (.int q), .val (.ref lv), .val (.int dI), .val (.int iI), .val (.ref x6), .val (.int x7), .val (.int x8)] [])) ?_ ?_
  · rintro k ih ⟨x6, x7, x8, q, iI, i⟩ T1 ⟨L1, X1, N1, hi1, hik, hq, hiI, HFi⟩
    have ci := clampI hiI
    clear H1 H2 HA H4 H5 H6 HF
    obtain ⟨H1, H2, HA, H4, H5, H6⟩ := id HFi
    show Runs _ _ _ _ T1 (mkF m 14 #[.val (.ref r0), .val (.int p1), .val (.int q), .val (.ref lv), .val (.int dI), .val (.int iI), .val (.ref x6), .val (.int x7), .val (.int x8)] [])
    refine Runs.back (fun t_ k_ => XS.iload X1.here hx rfl (hb hby d5_14) rfl k_) ?_
    show Runs _ _ _ _ T1 (mkF m 16 #[.val (.ref r0), .val (.int p1), .val (.int q), .val (.ref lv), .val (.int dI), .val (.int iI), .val (.ref x6), .val (.int x7), .val (.int x8)] [(.int iI)])
    refine Runs.back (fun t_ k_ => XS.iload X1.here hx rfl (hb hby d5_16) rfl k_) ?_
    show Runs _ _ _ _ T1 (mkF m 18 #[.val (.ref r0), .val (.int p1), .val (.int q), .val (.ref lv), .val (.int dI), .val (.int iI), .val (.ref x6), .val (.int x7), .val (.int x8)] [(.int dI), (.int iI)])
    by_cases c18_3 : iI < dI
    · refine Runs.back (fun t_ k_ => XS.icmpNo X1.here hx rfl (hb hby d5_18) rfl (tlt c18_3).2.1 k_) ?_
      show Runs _ _ _ _ T1 (mkF m 21 #[.val (.ref r0), .val (.int p1), .val (.int q), .val (.ref lv), .val (.int dI), .val (.int iI), .val (.ref x6), .val (.int x7), .val (.int x8)] [])
      have hiD : i < D := by have z := c18_3; rw [lti] at z; omega
      refine Runs.back (fun t_ k_ => XS.aloadN X1.here hx rfl (hb hby d5_21) rfl rfl k_) ?_
      show Runs _ _ _ _ T1 (mkF m 22 #[.val (.ref r0), .val (.int p1), .val (.int q), .val (.ref lv), .val (.int dI), .val (.int iI), .val (.ref x6), .val (.int x7), .val (.int x8)] [(.ref lv)])
      refine Runs.back (fun t_ k_ => XS.iload X1.here hx rfl (hb hby d5_22) rfl k_) ?_
      show Runs _ _ _ _ T1 (mkF m 24 #[.val (.ref r0), .val (.int p1), .val (.int q), .val (.ref lv), .val (.int dI), .val (.int iI), .val (.ref x6), .val (.int x7), .val (.int x8)] [(.int iI), (.ref lv)])
      obtain ⟨cl4, Ar4, S4, Hs4⟩ := id HA
      have at4 : cl4.slots[(iI).toNatClampNeg]? = some (.ref (A i)) := readO Hs4 ci.1 (show i < D from hiD) (rfl)
      refine Runs.back (fun t_ k_ => X1.aaload hx (j := iI) (v := (.ref (A i))) Ar4.1 (State.isArrayOf_alike hZ.alike Ar4.2.1) rfl Ar4.2.2 (by rw [S4]; exact (inbO ci.2 ci.1 (show i < D from hiD))) at4 (g := (mkF m 24 #[.val (.ref r0), .val (.int p1), .val (.int q), .val (.ref lv), .val (.int dI), .val (.int iI), .val (.ref x6), .val (.int x7), .val (.int x8)] [(.int iI), (.ref lv)])) rfl rfl (hb hby d5_24) _ k_) ?_
      clear at4 Hs4 S4 Ar4
      show Runs _ _ _ _ T1 (mkF m 25 #[.val (.ref r0), .val (.int p1), .val (.int q), .val (.ref lv), .val (.int dI), .val (.int iI), .val (.ref x6), .val (.int x7), .val (.int x8)] [(.ref (A i))])
      have HL := (H4 i hiD).2
      refine Runs.back (fun t_ k_ => XS.astore X1.here hx rfl (hb hby d5_25) rfl rfl (l' := #[.val (.ref r0), .val (.int p1), .val (.int q), .val (.ref lv), .val (.int dI), .val (.int iI), .val (.ref (A i)), .val (.int x7), .val (.int x8)]) rfl k_) ?_
      show Runs _ _ _ _ T1 (mkF m 27 #[.val (.ref r0), .val (.int p1), .val (.int q), .val (.ref lv), .val (.int dI), .val (.int iI), .val (.ref (A i)), .val (.int x7), .val (.int x8)] [])
      refine Runs.back (fun t_ k_ => XS.iloadN X1.here hx rfl (hb hby d5_27) rfl k_) ?_
      show Runs _ _ _ _ T1 (mkF m 28 #[.val (.ref r0), .val (.int p1), .val (.int q), .val (.ref lv), .val (.int dI), .val (.int iI), .val (.ref (A i)), .val (.int x7), .val (.int x8)] [(.int q)])
      refine Runs.back (fun t_ k_ => XS.bipush X1.here hx rfl (hb hby d5_28) k_) ?_
      show Runs _ _ _ _ T1 (mkF m 30 #[.val (.ref r0), .val (.int p1), .val (.int q), .val (.ref lv), .val (.int dI), .val (.int iI), .val (.ref (A i)), .val (.int x7), .val (.int x8)] [(.int (6 : Int32)), (.int q)])
      refine Runs.back (fun t_ k_ => XS.iushr X1.here hx rfl (hb hby d5_30) rfl k_) ?_
      show Runs _ _ _ _ T1 (mkF m 31 #[.val (.ref r0), .val (.int p1), .val (.int q), .val (.ref lv), .val (.int dI), .val (.int iI), .val (.ref (A i)), .val (.int x7), .val (.int x8)] [(.int ((q.toUInt32 >>> ((6 : Int32) &&& 31).toUInt32).toInt32))])
      have hix := div_up hq hv31
      generalize eix : ((q.toUInt32 >>> ((6 : Int32) &&& 31).toUInt32).toInt32) = ix at hix ⊢
      show Runs _ _ _ _ T1 (mkF m 31 #[.val (.ref r0), .val (.int p1), .val (.int q), .val (.ref lv), .val (.int dI), .val (.int iI), .val (.ref (A i)), .val (.int x7), .val (.int x8)] [(.int ix)])
      have cix := clampI hix
      refine Runs.back (fun t_ k_ => XS.istore X1.here hx rfl (hb hby d5_31) rfl (l' := #[.val (.ref r0), .val (.int p1), .val (.int q), .val (.ref lv), .val (.int dI), .val (.int iI), .val (.ref (A i)), .val (.int ix), .val (.int x8)]) rfl k_) ?_
      show Runs _ _ _ _ T1 (mkF m 33 #[.val (.ref r0), .val (.int p1), .val (.int q), .val (.ref lv), .val (.int dI), .val (.int iI), .val (.ref (A i)), .val (.int ix), .val (.int x8)] [])
      refine Runs.back (fun t_ k_ => XS.aload X1.here hx rfl (hb hby d5_33) rfl rfl k_) ?_
      show Runs _ _ _ _ T1 (mkF m 35 #[.val (.ref r0), .val (.int p1), .val (.int q), .val (.ref lv), .val (.int dI), .val (.int iI), .val (.ref (A i)), .val (.int ix), .val (.int x8)] [(.ref (A i))])
      refine Runs.back (fun t_ k_ => XS.iload X1.here hx rfl (hb hby d5_35) rfl k_) ?_
      show Runs _ _ _ _ T1 (mkF m 37 #[.val (.ref r0), .val (.int p1), .val (.int q), .val (.ref lv), .val (.int dI), .val (.int iI), .val (.ref (A i)), .val (.int ix), .val (.int x8)] [(.int ix), (.ref (A i))])
      obtain ⟨cl5, Ar5, S5, Hs5⟩ := id HL
      have at5 : cl5.slots[(ix).toNatClampNeg]? = some (.long (wd S i (vn / 64 ^ (i + 1)))) := readO Hs5 cix.1 (show (vn / 64 ^ (i + 1)) < (sz i) from (hsz i hiD)) (congrArg Value.long (Fi_self _ _ _ _))
      refine Runs.back (fun t_ k_ => X1.laload hx (j := ix) (v := (.long (wd S i (vn / 64 ^ (i + 1))))) Ar5.1 (State.isArrayOf_alike hZ.alike Ar5.2.1) Ar5.2.2 (by rw [S5]; exact (inbO cix.2 cix.1 (show (vn / 64 ^ (i + 1)) < (sz i) from (hsz i hiD)))) at5 (g := (mkF m 37 #[.val (.ref r0), .val (.int p1), .val (.int q), .val (.ref lv), .val (.int dI), .val (.int iI), .val (.ref (A i)), .val (.int ix), .val (.int x8)] [(.int ix), (.ref (A i))])) rfl rfl (hb hby d5_37) _ k_) ?_
      clear at5 Hs5 S5 Ar5
      show Runs _ _ _ _ T1 (mkF m 38 #[.val (.ref r0), .val (.int p1), .val (.int q), .val (.ref lv), .val (.int dI), .val (.int iI), .val (.ref (A i)), .val (.int ix), .val (.int x8)] [(.long (wd S i (vn / 64 ^ (i + 1))))])
      refine Runs.back (fun t_ k_ => XS.lconst X1.here hx rfl (hb hby d5_38) k_) ?_
      show Runs _ _ _ _ T1 (mkF m 39 #[.val (.ref r0), .val (.int p1), .val (.int q), .val (.ref lv), .val (.int dI), .val (.int iI), .val (.ref (A i)), .val (.int ix), .val (.int x8)] [(.long (0 : Int64)), (.long (wd S i (vn / 64 ^ (i + 1))))])
      refine Runs.back (fun t_ k_ => XS.lcmp X1.here hx rfl (hb hby d5_39) rfl k_) ?_
      show Runs _ _ _ _ T1 (mkF m 40 #[.val (.ref r0), .val (.int p1), .val (.int q), .val (.ref lv), .val (.int dI), .val (.int iI), .val (.ref (A i)), .val (.int ix), .val (.int x8)] [(.int (lcmpW (wd S i (vn / 64 ^ (i + 1))) (0 : Int64)))])
      by_cases c40_6 : (wd S i (vn / 64 ^ (i + 1))) = (0 : Int64)
      · refine Runs.back (fun t_ k_ => XS.ifYes X1.here hx rfl (pc0 := 40) (pc' := 47) rfl (hb hby d5_40) rfl ((if0 _ _).trans (teq (lcE c40_6)).1) (by decide) (by decide) k_) ?_
        show Runs _ _ _ _ T1 (mkF m 47 #[.val (.ref r0), .val (.int p1), .val (.int q), .val (.ref lv), .val (.int dI), .val (.int iI), .val (.ref (A i)), .val (.int ix), .val (.int x8)] [])
        refine Runs.back (fun t_ k_ => XS.iconst X1.here hx rfl (hb hby d5_47) k_) ?_
        show Runs _ _ _ _ T1 (mkF m 48 #[.val (.ref r0), .val (.int p1), .val (.int q), .val (.ref lv), .val (.int dI), .val (.int iI), .val (.ref (A i)), .val (.int ix), .val (.int x8)] [(.int (0 : Int32))])
        refine Runs.back (fun t_ k_ => XS.istore X1.here hx rfl (hb hby d5_48) rfl (l' := #[.val (.ref r0), .val (.int p1), .val (.int q), .val (.ref lv), .val (.int dI), .val (.int iI), .val (.ref (A i)), .val (.int ix), .val (.int (0 : Int32))]) rfl k_) ?_
        show Runs _ _ _ _ T1 (mkF m 50 #[.val (.ref r0), .val (.int p1), .val (.int q), .val (.ref lv), .val (.int dI), .val (.int iI), .val (.ref (A i)), .val (.int ix), .val (.int (0 : Int32))] [])
        refine Runs.back (fun t_ k_ => XS.aload X1.here hx rfl (hb hby d5_50) rfl rfl k_) ?_
        show Runs _ _ _ _ T1 (mkF m 52 #[.val (.ref r0), .val (.int p1), .val (.int q), .val (.ref lv), .val (.int dI), .val (.int iI), .val (.ref (A i)), .val (.int ix), .val (.int (0 : Int32))] [(.ref (A i))])
        refine Runs.back (fun t_ k_ => XS.iload X1.here hx rfl (hb hby d5_52) rfl k_) ?_
        show Runs _ _ _ _ T1 (mkF m 54 #[.val (.ref r0), .val (.int p1), .val (.int q), .val (.ref lv), .val (.int dI), .val (.int iI), .val (.ref (A i)), .val (.int ix), .val (.int (0 : Int32))] [(.int ix), (.ref (A i))])
        refine Runs.back (fun t_ k_ => Jvm.Free.XT.dup2 X1.here hx rfl (hb hby d5_54) rfl rfl rfl k_) ?_
        show Runs _ _ _ _ T1 (mkF m 55 #[.val (.ref r0), .val (.int p1), .val (.int q), .val (.ref lv), .val (.int dI), .val (.int iI), .val (.ref (A i)), .val (.int ix), .val (.int (0 : Int32))] [(.int ix), (.ref (A i)), (.int ix), (.ref (A i))])
        obtain ⟨cl7, Ar7, S7, Hs7⟩ := id HL
        have at7 : cl7.slots[(ix).toNatClampNeg]? = some (.long (wd S i (vn / 64 ^ (i + 1)))) := readO Hs7 cix.1 (show (vn / 64 ^ (i + 1)) < (sz i) from (hsz i hiD)) (congrArg Value.long (Fi_self _ _ _ _))
        refine Runs.back (fun t_ k_ => X1.laload hx (j := ix) (v := (.long (wd S i (vn / 64 ^ (i + 1))))) Ar7.1 (State.isArrayOf_alike hZ.alike Ar7.2.1) Ar7.2.2 (by rw [S7]; exact (inbO cix.2 cix.1 (show (vn / 64 ^ (i + 1)) < (sz i) from (hsz i hiD)))) at7 (g := (mkF m 55 #[.val (.ref r0), .val (.int p1), .val (.int q), .val (.ref lv), .val (.int dI), .val (.int iI), .val (.ref (A i)), .val (.int ix), .val (.int (0 : Int32))] [(.int ix), (.ref (A i)), (.int ix), (.ref (A i))])) rfl rfl (hb hby d5_55) _ k_) ?_
        clear at7 Hs7 S7 Ar7
        show Runs _ _ _ _ T1 (mkF m 56 #[.val (.ref r0), .val (.int p1), .val (.int q), .val (.ref lv), .val (.int dI), .val (.int iI), .val (.ref (A i)), .val (.int ix), .val (.int (0 : Int32))] [(.long (wd S i (vn / 64 ^ (i + 1)))), (.int ix), (.ref (A i))])
        refine Runs.back (fun t_ k_ => XS.lconst X1.here hx rfl (hb hby d5_56) k_) ?_
        show Runs _ _ _ _ T1 (mkF m 57 #[.val (.ref r0), .val (.int p1), .val (.int q), .val (.ref lv), .val (.int dI), .val (.int iI), .val (.ref (A i)), .val (.int ix), .val (.int (0 : Int32))] [(.long (1 : Int64)), (.long (wd S i (vn / 64 ^ (i + 1)))), (.int ix), (.ref (A i))])
        refine Runs.back (fun t_ k_ => XS.iloadN X1.here hx rfl (hb hby d5_57) rfl k_) ?_
        show Runs _ _ _ _ T1 (mkF m 58 #[.val (.ref r0), .val (.int p1), .val (.int q), .val (.ref lv), .val (.int dI), .val (.int iI), .val (.ref (A i)), .val (.int ix), .val (.int (0 : Int32))] [(.int q), (.long (1 : Int64)), (.long (wd S i (vn / 64 ^ (i + 1)))), (.int ix), (.ref (A i))])
        refine Runs.back (fun t_ k_ => XS.lshl X1.here hx rfl (hb hby d5_58) rfl k_) ?_
        show Runs _ _ _ _ T1 (mkF m 59 #[.val (.ref r0), .val (.int p1), .val (.int q), .val (.ref lv), .val (.int dI), .val (.int iI), .val (.ref (A i)), .val (.int ix), .val (.int (0 : Int32))] [(.long ((1 : Int64) <<< (q &&& 0x3f).toInt64)), (.long (wd S i (vn / 64 ^ (i + 1)))), (.int ix), (.ref (A i))])
        refine Runs.back (fun t_ k_ => XS.lor X1.here hx rfl (hb hby d5_59) rfl k_) ?_
        show Runs _ _ _ _ T1 (mkF m 60 #[.val (.ref r0), .val (.int p1), .val (.int q), .val (.ref lv), .val (.int dI), .val (.int iI), .val (.ref (A i)), .val (.int ix), .val (.int (0 : Int32))] [(.long ((wd S i (vn / 64 ^ (i + 1))) ||| ((1 : Int64) <<< (q &&& 0x3f).toInt64))), (.int ix), (.ref (A i))])
        obtain ⟨cl8, Ar8, S8, Hs8⟩ := id HL
        obtain ⟨T8, h8, X8, e8, W8, st8⟩ := stJ X1 hx hZ rfl Ar8 (j := ix) (by rw [S8]; exact inbO cix.2 cix.1 (hsz i hiD)) (g := (mkF m 60 #[.val (.ref r0), .val (.int p1), .val (.int q), .val (.ref lv), .val (.int dI), .val (.int iI), .val (.ref (A i)), .val (.int ix), .val (.int (0 : Int32))] [(.long ((wd S i (vn / 64 ^ (i + 1))) ||| ((1 : Int64) <<< (q &&& 0x3f).toInt64))), (.int ix), (.ref (A i))])) rfl rfl (hb hby d5_60)
        have N8 := Fr.snoc X8 N1 (H4 i hiD).1
        obtain ⟨L8, X8, N8⟩ := hideL X8 N8
        rw [cix.1, add_hit hq] at W8
        have HS8 := SF.set HFi hiD W8
        refine Runs.back st8 ?_
        show Runs _ _ _ _ T8 (mkF m 61 #[.val (.ref r0), .val (.int p1), .val (.int q), .val (.ref lv), .val (.int dI), .val (.int iI), .val (.ref (A i)), .val (.int ix), .val (.int (0 : Int32))] [])
        refine Runs.back (fun t_ k_ => XS.iload X8.here hx rfl (hb hby d5_61) rfl k_) ?_
        show Runs _ _ _ _ T8 (mkF m 63 #[.val (.ref r0), .val (.int p1), .val (.int q), .val (.ref lv), .val (.int dI), .val (.int iI), .val (.ref (A i)), .val (.int ix), .val (.int (0 : Int32))] [(.int (0 : Int32))])
        refine Runs.back (fun t_ k_ => XS.ifYes X8.here hx rfl (pc0 := 63) (pc' := 67) rfl (hb hby d5_63) rfl ((if0 _ _).trans (teq (show (0 : Int32) = (0 : Int32) from rfl)).1) (by decide) (by decide) k_) ?_
        show Runs _ _ _ _ T8 (mkF m 67 #[.val (.ref r0), .val (.int p1), .val (.int q), .val (.ref lv), .val (.int dI), .val (.int iI), .val (.ref (A i)), .val (.int ix), .val (.int (0 : Int32))] [])
        refine Runs.back (fun t_ k_ => XS.iload X8.here hx rfl (hb hby d5_67) rfl k_) ?_
        show Runs _ _ _ _ T8 (mkF m 69 #[.val (.ref r0), .val (.int p1), .val (.int q), .val (.ref lv), .val (.int dI), .val (.int iI), .val (.ref (A i)), .val (.int ix), .val (.int (0 : Int32))] [(.int ix)])
        refine Runs.back (fun t_ k_ => XS.istoreN X8.here hx rfl (hb hby d5_69) rfl (l' := #[.val (.ref r0), .val (.int p1), .val (.int ix), .val (.ref lv), .val (.int dI), .val (.int iI), .val (.ref (A i)), .val (.int ix), .val (.int (0 : Int32))]) rfl k_) ?_
        show Runs _ _ _ _ T8 (mkF m 70 #[.val (.ref r0), .val (.int p1), .val (.int ix), .val (.ref lv), .val (.int dI), .val (.int iI), .val (.ref (A i)), .val (.int ix), .val (.int (0 : Int32))] [])
        refine Runs.back (fun t_ k_ => XS.iinc X8.here hx rfl (hb hby d5_70) rfl (l' := #[.val (.ref r0), .val (.int p1), .val (.int ix), .val (.ref lv), .val (.int dI), .val (.int (iI + (1 : Int32))), .val (.ref (A i)), .val (.int ix), .val (.int (0 : Int32))]) rfl k_) ?_
        show Runs _ _ _ _ T8 (mkF m 73 #[.val (.ref r0), .val (.int p1), .val (.int ix), .val (.ref lv), .val (.int dI), .val (.int (iI + (1 : Int32))), .val (.ref (A i)), .val (.int ix), .val (.int (0 : Int32))] [])
        refine Runs.back (fun t_ k_ => XS.goto X8.here hx rfl (pc0 := 73) (pc' := 14) rfl (hb hby d5_73) (by decide) (by decide) k_) ?_
        show Runs _ _ _ _ T8 (mkF m 14 #[.val (.ref r0), .val (.int p1), .val (.int ix), .val (.ref lv), .val (.int dI), .val (.int (iI + (1 : Int32))), .val (.ref (A i)), .val (.int ix), .val (.int (0 : Int32))] [])
        have hi2 : (iI + (1 : Int32)).toInt = ((i + 1 : Nat) : Int) := by rw [add32 (by rw [o32]; omega) (by rw [o32]; omega), o32]; omega
        exact ih (k - 1) (by omega) ((A i), ix, (0 : Int32), ix, (iI + (1 : Int32)), i + 1) _ ⟨_, X8, N8, by omega, by omega, hix, hi2, by rw [e8]; exact SF.congr HS8 fun i' _ j' => addNext i' j'⟩
      · refine Runs.back (fun t_ k_ => XS.ifNo X1.here hx rfl (hb hby d5_40) rfl ((if0 _ _).trans (feq (lcN c40_6)).1) k_) ?_
        show Runs _ _ _ _ T1 (mkF m 43 #[.val (.ref r0), .val (.int p1), .val (.int q), .val (.ref lv), .val (.int dI), .val (.int iI), .val (.ref (A i)), .val (.int ix), .val (.int x8)] [])
        refine Runs.back (fun t_ k_ => XS.iconst X1.here hx rfl (hb hby d5_43) k_) ?_
        show Runs _ _ _ _ T1 (mkF m 44 #[.val (.ref r0), .val (.int p1), .val (.int q), .val (.ref lv), .val (.int dI), .val (.int iI), .val (.ref (A i)), .val (.int ix), .val (.int x8)] [(.int (1 : Int32))])
        refine Runs.back (fun t_ k_ => XS.goto X1.here hx rfl (pc0 := 44) (pc' := 48) rfl (hb hby d5_44) (by decide) (by decide) k_) ?_
        show Runs _ _ _ _ T1 (mkF m 48 #[.val (.ref r0), .val (.int p1), .val (.int q), .val (.ref lv), .val (.int dI), .val (.int iI), .val (.ref (A i)), .val (.int ix), .val (.int x8)] [(.int (1 : Int32))])
        refine Runs.back (fun t_ k_ => XS.istore X1.here hx rfl (hb hby d5_48) rfl (l' := #[.val (.ref r0), .val (.int p1), .val (.int q), .val (.ref lv), .val (.int dI), .val (.int iI), .val (.ref (A i)), .val (.int ix), .val (.int (1 : Int32))]) rfl k_) ?_
        show Runs _ _ _ _ T1 (mkF m 50 #[.val (.ref r0), .val (.int p1), .val (.int q), .val (.ref lv), .val (.int dI), .val (.int iI), .val (.ref (A i)), .val (.int ix), .val (.int (1 : Int32))] [])
        refine Runs.back (fun t_ k_ => XS.aload X1.here hx rfl (hb hby d5_50) rfl rfl k_) ?_
        show Runs _ _ _ _ T1 (mkF m 52 #[.val (.ref r0), .val (.int p1), .val (.int q), .val (.ref lv), .val (.int dI), .val (.int iI), .val (.ref (A i)), .val (.int ix), .val (.int (1 : Int32))] [(.ref (A i))])
        refine Runs.back (fun t_ k_ => XS.iload X1.here hx rfl (hb hby d5_52) rfl k_) ?_
        show Runs _ _ _ _ T1 (mkF m 54 #[.val (.ref r0), .val (.int p1), .val (.int q), .val (.ref lv), .val (.int dI), .val (.int iI), .val (.ref (A i)), .val (.int ix), .val (.int (1 : Int32))] [(.int ix), (.ref (A i))])
        refine Runs.back (fun t_ k_ => Jvm.Free.XT.dup2 X1.here hx rfl (hb hby d5_54) rfl rfl rfl k_) ?_
        show Runs _ _ _ _ T1 (mkF m 55 #[.val (.ref r0), .val (.int p1), .val (.int q), .val (.ref lv), .val (.int dI), .val (.int iI), .val (.ref (A i)), .val (.int ix), .val (.int (1 : Int32))] [(.int ix), (.ref (A i)), (.int ix), (.ref (A i))])
        obtain ⟨cl9, Ar9, S9, Hs9⟩ := id HL
        have at9 : cl9.slots[(ix).toNatClampNeg]? = some (.long (wd S i (vn / 64 ^ (i + 1)))) := readO Hs9 cix.1 (show (vn / 64 ^ (i + 1)) < (sz i) from (hsz i hiD)) (congrArg Value.long (Fi_self _ _ _ _))
        refine Runs.back (fun t_ k_ => X1.laload hx (j := ix) (v := (.long (wd S i (vn / 64 ^ (i + 1))))) Ar9.1 (State.isArrayOf_alike hZ.alike Ar9.2.1) Ar9.2.2 (by rw [S9]; exact (inbO cix.2 cix.1 (show (vn / 64 ^ (i + 1)) < (sz i) from (hsz i hiD)))) at9 (g := (mkF m 55 #[.val (.ref r0), .val (.int p1), .val (.int q), .val (.ref lv), .val (.int dI), .val (.int iI), .val (.ref (A i)), .val (.int ix), .val (.int (1 : Int32))] [(.int ix), (.ref (A i)), (.int ix), (.ref (A i))])) rfl rfl (hb hby d5_55) _ k_) ?_
        clear at9 Hs9 S9 Ar9
        show Runs _ _ _ _ T1 (mkF m 56 #[.val (.ref r0), .val (.int p1), .val (.int q), .val (.ref lv), .val (.int dI), .val (.int iI), .val (.ref (A i)), .val (.int ix), .val (.int (1 : Int32))] [(.long (wd S i (vn / 64 ^ (i + 1)))), (.int ix), (.ref (A i))])
        refine Runs.back (fun t_ k_ => XS.lconst X1.here hx rfl (hb hby d5_56) k_) ?_
        show Runs _ _ _ _ T1 (mkF m 57 #[.val (.ref r0), .val (.int p1), .val (.int q), .val (.ref lv), .val (.int dI), .val (.int iI), .val (.ref (A i)), .val (.int ix), .val (.int (1 : Int32))] [(.long (1 : Int64)), (.long (wd S i (vn / 64 ^ (i + 1)))), (.int ix), (.ref (A i))])
        refine Runs.back (fun t_ k_ => XS.iloadN X1.here hx rfl (hb hby d5_57) rfl k_) ?_
        show Runs _ _ _ _ T1 (mkF m 58 #[.val (.ref r0), .val (.int p1), .val (.int q), .val (.ref lv), .val (.int dI), .val (.int iI), .val (.ref (A i)), .val (.int ix), .val (.int (1 : Int32))] [(.int q), (.long (1 : Int64)), (.long (wd S i (vn / 64 ^ (i + 1)))), (.int ix), (.ref (A i))])
        refine Runs.back (fun t_ k_ => XS.lshl X1.here hx rfl (hb hby d5_58) rfl k_) ?_
        show Runs _ _ _ _ T1 (mkF m 59 #[.val (.ref r0), .val (.int p1), .val (.int q), .val (.ref lv), .val (.int dI), .val (.int iI), .val (.ref (A i)), .val (.int ix), .val (.int (1 : Int32))] [(.long ((1 : Int64) <<< (q &&& 0x3f).toInt64)), (.long (wd S i (vn / 64 ^ (i + 1)))), (.int ix), (.ref (A i))])
        refine Runs.back (fun t_ k_ => XS.lor X1.here hx rfl (hb hby d5_59) rfl k_) ?_
        show Runs _ _ _ _ T1 (mkF m 60 #[.val (.ref r0), .val (.int p1), .val (.int q), .val (.ref lv), .val (.int dI), .val (.int iI), .val (.ref (A i)), .val (.int ix), .val (.int (1 : Int32))] [(.long ((wd S i (vn / 64 ^ (i + 1))) ||| ((1 : Int64) <<< (q &&& 0x3f).toInt64))), (.int ix), (.ref (A i))])
        obtain ⟨cl10, Ar10, S10, Hs10⟩ := id HL
        obtain ⟨T10, h10, X10, e10, W10, st10⟩ := stJ X1 hx hZ rfl Ar10 (j := ix) (by rw [S10]; exact inbO cix.2 cix.1 (hsz i hiD)) (g := (mkF m 60 #[.val (.ref r0), .val (.int p1), .val (.int q), .val (.ref lv), .val (.int dI), .val (.int iI), .val (.ref (A i)), .val (.int ix), .val (.int (1 : Int32))] [(.long ((wd S i (vn / 64 ^ (i + 1))) ||| ((1 : Int64) <<< (q &&& 0x3f).toInt64))), (.int ix), (.ref (A i))])) rfl rfl (hb hby d5_60)
        have N10 := Fr.snoc X10 N1 (H4 i hiD).1
        obtain ⟨L10, X10, N10⟩ := hideL X10 N10
        rw [cix.1, add_hit hq] at W10
        have HS10 := SF.set HFi hiD W10
        refine Runs.back st10 ?_
        show Runs _ _ _ _ T10 (mkF m 61 #[.val (.ref r0), .val (.int p1), .val (.int q), .val (.ref lv), .val (.int dI), .val (.int iI), .val (.ref (A i)), .val (.int ix), .val (.int (1 : Int32))] [])
        refine Runs.back (fun t_ k_ => XS.iload X10.here hx rfl (hb hby d5_61) rfl k_) ?_
        show Runs _ _ _ _ T10 (mkF m 63 #[.val (.ref r0), .val (.int p1), .val (.int q), .val (.ref lv), .val (.int dI), .val (.int iI), .val (.ref (A i)), .val (.int ix), .val (.int (1 : Int32))] [(.int (1 : Int32))])
        refine Runs.back (fun t_ k_ => XS.ifNo X10.here hx rfl (hb hby d5_63) rfl ((if0 _ _).trans (feq (show ¬ ((1 : Int32) = (0 : Int32)) from (by decide))).1) k_) ?_
        show Runs _ _ _ _ T10 (mkF m 66 #[.val (.ref r0), .val (.int p1), .val (.int q), .val (.ref lv), .val (.int dI), .val (.int iI), .val (.ref (A i)), .val (.int ix), .val (.int (1 : Int32))] [])
        obtain ⟨fs, hr, hrun, hended, hW, hsame⟩ := X10.leave (v := none) (fun _ => rfl)
        exact ⟨_, _, (X10.returnOut hx Bd.returns (hb hby d5_66) hr), hrun, hended, _, _, rfl, (by show Q5 Z r0 p1 lv A sz D dI S vn h0 n0 _ T10.heap _; rw [e10]; exact ⟨rfl, N10, SF.congr HS10 fun i' _ j' => addEnd c40_6 i' j'⟩), ⟨_, rfl⟩, hW, hsame.mono (by decide) (by decide)⟩
    · refine Runs.back (fun t_ k_ => XS.icmpYes X1.here hx rfl (pc0 := 18) (pc' := 76) rfl (hb hby d5_18) rfl (flt c18_3).2.1 (by decide) (by decide) k_) ?_
      show Runs _ _ _ _ T1 (mkF m 76 #[.val (.ref r0), .val (.int p1), .val (.int q), .val (.ref lv), .val (.int dI), .val (.int iI), .val (.ref x6), .val (.int x7), .val (.int x8)] [])
      obtain ⟨fs, hr, hrun, hended, hW, hsame⟩ := X1.leave (v := none) (fun _ => rfl)
      exact ⟨_, _, (X1.returnOut hx Bd.returns (hb hby d5_76) hr), hrun, hended, _, _, rfl, (by show Q5 Z r0 p1 lv A sz D dI S vn h0 n0 _ T1.heap _; exact ⟨rfl, N1, SF.congr HFi fun i' hi' j' => if_pos (by have z := c18_3; rw [lti] at z; omega)⟩), ⟨_, rfl⟩, hW, hsame.mono (by decide) (by decide)⟩
  · intro J
    have hq0 : p1.toInt = ((vn / 64 ^ 0 : Nat) : Int) := by rw [Nat.pow_zero, Nat.div_one]; exact hv
    have ci0 := clampI (q := (0 : Int32)) (x := 0) (by decide)
    have hiI : (0 : Int32).toInt = ((0 : Nat) : Int) := by decide
    show Runs _ _ _ _ T1 (mkF m 14 #[.val (.ref r0), .val (.int p1), .val (.int p1), .val (.ref lv), .val (.int dI), .val (.int (0 : Int32)), .unset, .unset, .unset] [])
    refine Runs.back (fun t_ k_ => XS.iload X1.here hx rfl (hb hby d5_14) rfl k_) ?_
    show Runs _ _ _ _ T1 (mkF m 16 #[.val (.ref r0), .val (.int p1), .val (.int p1), .val (.ref lv), .val (.int dI), .val (.int (0 : Int32)), .unset, .unset, .unset] [(.int (0 : Int32))])
    refine Runs.back (fun t_ k_ => XS.iload X1.here hx rfl (hb hby d5_16) rfl k_) ?_
    show Runs _ _ _ _ T1 (mkF m 18 #[.val (.ref r0), .val (.int p1), .val (.int p1), .val (.ref lv), .val (.int dI), .val (.int (0 : Int32)), .unset, .unset, .unset] [(.int dI), (.int (0 : Int32))])
    refine Runs.back (fun t_ k_ => XS.icmpNo X1.here hx rfl (hb hby d5_18) rfl (tlt (show (0 : Int32) < dI from (by rw [lti, z32]; omega))).2.1 k_) ?_
    show Runs _ _ _ _ T1 (mkF m 21 #[.val (.ref r0), .val (.int p1), .val (.int p1), .val (.ref lv), .val (.int dI), .val (.int (0 : Int32)), .unset, .unset, .unset] [])
    have hiD : 0 < D := by omega
    refine Runs.back (fun t_ k_ => XS.aloadN X1.here hx rfl (hb hby d5_21) rfl rfl k_) ?_
    show Runs _ _ _ _ T1 (mkF m 22 #[.val (.ref r0), .val (.int p1), .val (.int p1), .val (.ref lv), .val (.int dI), .val (.int (0 : Int32)), .unset, .unset, .unset] [(.ref lv)])
    refine Runs.back (fun t_ k_ => XS.iload X1.here hx rfl (hb hby d5_22) rfl k_) ?_
    show Runs _ _ _ _ T1 (mkF m 24 #[.val (.ref r0), .val (.int p1), .val (.int p1), .val (.ref lv), .val (.int dI), .val (.int (0 : Int32)), .unset, .unset, .unset] [(.int (0 : Int32)), (.ref lv)])
    obtain ⟨cl11, Ar11, S11, Hs11⟩ := id HA
    have at11 : cl11.slots[((0 : Int32)).toNatClampNeg]? = some (.ref (A 0)) := readO Hs11 (rfl : ((0 : Int32)).toNatClampNeg = 0) (show 0 < D from hiD) (rfl)
    refine Runs.back (fun t_ k_ => X1.aaload hx (j := (0 : Int32)) (v := (.ref (A 0))) (by rw [e1]; exact Ar11.1) (State.isArrayOf_alike hZ.alike Ar11.2.1) rfl Ar11.2.2 (by rw [S11]; exact (inbO (by decide : ¬ (0 : Int32) < 0) (rfl : ((0 : Int32)).toNatClampNeg = 0) (show 0 < D from hiD))) at11 (g := (mkF m 24 #[.val (.ref r0), .val (.int p1), .val (.int p1), .val (.ref lv), .val (.int dI), .val (.int (0 : Int32)), .unset, .unset, .unset] [(.int (0 : Int32)), (.ref lv)])) rfl rfl (hb hby d5_24) _ k_) ?_
    clear at11 Hs11 S11 Ar11
    show Runs _ _ _ _ T1 (mkF m 25 #[.val (.ref r0), .val (.int p1), .val (.int p1), .val (.ref lv), .val (.int dI), .val (.int (0 : Int32)), .unset, .unset, .unset] [(.ref (A 0))])
    have HL := (H4 0 hiD).2
    refine Runs.back (fun t_ k_ => XS.astore X1.here hx rfl (hb hby d5_25) rfl rfl (l' := #[.val (.ref r0), .val (.int p1), .val (.int p1), .val (.ref lv), .val (.int dI), .val (.int (0 : Int32)), .val (.ref (A 0)), .unset, .unset]) rfl k_) ?_
    show Runs _ _ _ _ T1 (mkF m 27 #[.val (.ref r0), .val (.int p1), .val (.int p1), .val (.ref lv), .val (.int dI), .val (.int (0 : Int32)), .val (.ref (A 0)), .unset, .unset] [])
    refine Runs.back (fun t_ k_ => XS.iloadN X1.here hx rfl (hb hby d5_27) rfl k_) ?_
    show Runs _ _ _ _ T1 (mkF m 28 #[.val (.ref r0), .val (.int p1), .val (.int p1), .val (.ref lv), .val (.int dI), .val (.int (0 : Int32)), .val (.ref (A 0)), .unset, .unset] [(.int p1)])
    refine Runs.back (fun t_ k_ => XS.bipush X1.here hx rfl (hb hby d5_28) k_) ?_
    show Runs _ _ _ _ T1 (mkF m 30 #[.val (.ref r0), .val (.int p1), .val (.int p1), .val (.ref lv), .val (.int dI), .val (.int (0 : Int32)), .val (.ref (A 0)), .unset, .unset] [(.int (6 : Int32)), (.int p1)])
    refine Runs.back (fun t_ k_ => XS.iushr X1.here hx rfl (hb hby d5_30) rfl k_) ?_
    show Runs _ _ _ _ T1 (mkF m 31 #[.val (.ref r0), .val (.int p1), .val (.int p1), .val (.ref lv), .val (.int dI), .val (.int (0 : Int32)), .val (.ref (A 0)), .unset, .unset] [(.int ((p1.toUInt32 >>> ((6 : Int32) &&& 31).toUInt32).toInt32))])
    have hix := div_up hq0 hv31
    generalize eix : ((p1.toUInt32 >>> ((6 : Int32) &&& 31).toUInt32).toInt32) = ix at hix ⊢
    show Runs _ _ _ _ T1 (mkF m 31 #[.val (.ref r0), .val (.int p1), .val (.int p1), .val (.ref lv), .val (.int dI), .val (.int (0 : Int32)), .val (.ref (A 0)), .unset, .unset] [(.int ix)])
    have cix := clampI hix
    refine Runs.back (fun t_ k_ => XS.istore X1.here hx rfl (hb hby d5_31) rfl (l' := #[.val (.ref r0), .val (.int p1), .val (.int p1), .val (.ref lv), .val (.int dI), .val (.int (0 : Int32)), .val (.ref (A 0)), .val (.int ix), .unset]) rfl k_) ?_
    show Runs _ _ _ _ T1 (mkF m 33 #[.val (.ref r0), .val (.int p1), .val (.int p1), .val (.ref lv), .val (.int dI), .val (.int (0 : Int32)), .val (.ref (A 0)), .val (.int ix), .unset] [])
    refine Runs.back (fun t_ k_ => XS.aload X1.here hx rfl (hb hby d5_33) rfl rfl k_) ?_
    show Runs _ _ _ _ T1 (mkF m 35 #[.val (.ref r0), .val (.int p1), .val (.int p1), .val (.ref lv), .val (.int dI), .val (.int (0 : Int32)), .val (.ref (A 0)), .val (.int ix), .unset] [(.ref (A 0))])
    refine Runs.back (fun t_ k_ => XS.iload X1.here hx rfl (hb hby d5_35) rfl k_) ?_
    show Runs _ _ _ _ T1 (mkF m 37 #[.val (.ref r0), .val (.int p1), .val (.int p1), .val (.ref lv), .val (.int dI), .val (.int (0 : Int32)), .val (.ref (A 0)), .val (.int ix), .unset] [(.int ix), (.ref (A 0))])
    obtain ⟨cl12, Ar12, S12, Hs12⟩ := id HL
    have at12 : cl12.slots[(ix).toNatClampNeg]? = some (.long (wd S 0 (vn / 64 ^ (0 + 1)))) := readO Hs12 cix.1 (show (vn / 64 ^ (0 + 1)) < (sz 0) from (hsz 0 hiD)) (congrArg Value.long (Fi_self _ _ _ _))
    refine Runs.back (fun t_ k_ => X1.laload hx (j := ix) (v := (.long (wd S 0 (vn / 64 ^ (0 + 1))))) (by rw [e1]; exact Ar12.1) (State.isArrayOf_alike hZ.alike Ar12.2.1) Ar12.2.2 (by rw [S12]; exact (inbO cix.2 cix.1 (show (vn / 64 ^ (0 + 1)) < (sz 0) from (hsz 0 hiD)))) at12 (g := (mkF m 37 #[.val (.ref r0), .val (.int p1), .val (.int p1), .val (.ref lv), .val (.int dI), .val (.int (0 : Int32)), .val (.ref (A 0)), .val (.int ix), .unset] [(.int ix), (.ref (A 0))])) rfl rfl (hb hby d5_37) _ k_) ?_
    clear at12 Hs12 S12 Ar12
    show Runs _ _ _ _ T1 (mkF m 38 #[.val (.ref r0), .val (.int p1), .val (.int p1), .val (.ref lv), .val (.int dI), .val (.int (0 : Int32)), .val (.ref (A 0)), .val (.int ix), .unset] [(.long (wd S 0 (vn / 64 ^ (0 + 1))))])
    refine Runs.back (fun t_ k_ => XS.lconst X1.here hx rfl (hb hby d5_38) k_) ?_
    show Runs _ _ _ _ T1 (mkF m 39 #[.val (.ref r0), .val (.int p1), .val (.int p1), .val (.ref lv), .val (.int dI), .val (.int (0 : Int32)), .val (.ref (A 0)), .val (.int ix), .unset] [(.long (0 : Int64)), (.long (wd S 0 (vn / 64 ^ (0 + 1))))])
    refine Runs.back (fun t_ k_ => XS.lcmp X1.here hx rfl (hb hby d5_39) rfl k_) ?_
    show Runs _ _ _ _ T1 (mkF m 40 #[.val (.ref r0), .val (.int p1), .val (.int p1), .val (.ref lv), .val (.int dI), .val (.int (0 : Int32)), .val (.ref (A 0)), .val (.int ix), .unset] [(.int (lcmpW (wd S 0 (vn / 64 ^ (0 + 1))) (0 : Int64)))])
    by_cases c40_13 : (wd S 0 (vn / 64 ^ (0 + 1))) = (0 : Int64)
    · refine Runs.back (fun t_ k_ => XS.ifYes X1.here hx rfl (pc0 := 40) (pc' := 47) rfl (hb hby d5_40) rfl ((if0 _ _).trans (teq (lcE c40_13)).1) (by decide) (by decide) k_) ?_
      show Runs _ _ _ _ T1 (mkF m 47 #[.val (.ref r0), .val (.int p1), .val (.int p1), .val (.ref lv), .val (.int dI), .val (.int (0 : Int32)), .val (.ref (A 0)), .val (.int ix), .unset] [])
      refine Runs.back (fun t_ k_ => XS.iconst X1.here hx rfl (hb hby d5_47) k_) ?_
      show Runs _ _ _ _ T1 (mkF m 48 #[.val (.ref r0), .val (.int p1), .val (.int p1), .val (.ref lv), .val (.int dI), .val (.int (0 : Int32)), .val (.ref (A 0)), .val (.int ix), .unset] [(.int (0 : Int32))])
      refine Runs.back (fun t_ k_ => XS.istore X1.here hx rfl (hb hby d5_48) rfl (l' := #[.val (.ref r0), .val (.int p1), .val (.int p1), .val (.ref lv), .val (.int dI), .val (.int (0 : Int32)), .val (.ref (A 0)), .val (.int ix), .val (.int (0 : Int32))]) rfl k_) ?_
      show Runs _ _ _ _ T1 (mkF m 50 #[.val (.ref r0), .val (.int p1), .val (.int p1), .val (.ref lv), .val (.int dI), .val (.int (0 : Int32)), .val (.ref (A 0)), .val (.int ix), .val (.int (0 : Int32))] [])
      refine Runs.back (fun t_ k_ => XS.aload X1.here hx rfl (hb hby d5_50) rfl rfl k_) ?_
      show Runs _ _ _ _ T1 (mkF m 52 #[.val (.ref r0), .val (.int p1), .val (.int p1), .val (.ref lv), .val (.int dI), .val (.int (0 : Int32)), .val (.ref (A 0)), .val (.int ix), .val (.int (0 : Int32))] [(.ref (A 0))])
      refine Runs.back (fun t_ k_ => XS.iload X1.here hx rfl (hb hby d5_52) rfl k_) ?_
      show Runs _ _ _ _ T1 (mkF m 54 #[.val (.ref r0), .val (.int p1), .val (.int p1), .val (.ref lv), .val (.int dI), .val (.int (0 : Int32)), .val (.ref (A 0)), .val (.int ix), .val (.int (0 : Int32))] [(.int ix), (.ref (A 0))])
      refine Runs.back (fun t_ k_ => Jvm.Free.XT.dup2 X1.here hx rfl (hb hby d5_54) rfl rfl rfl k_) ?_
      show Runs _ _ _ _ T1 (mkF m 55 #[.val (.ref r0), .val (.int p1), .val (.int p1), .val (.ref lv), .val (.int dI), .val (.int (0 : Int32)), .val (.ref (A 0)), .val (.int ix), .val (.int (0 : Int32))] [(.int ix), (.ref (A 0)), (.int ix), (.ref (A 0))])
      obtain ⟨cl14, Ar14, S14, Hs14⟩ := id HL
      have at14 : cl14.slots[(ix).toNatClampNeg]? = some (.long (wd S 0 (vn / 64 ^ (0 + 1)))) := readO Hs14 cix.1 (show (vn / 64 ^ (0 + 1)) < (sz 0) from (hsz 0 hiD)) (congrArg Value.long (Fi_self _ _ _ _))
      refine Runs.back (fun t_ k_ => X1.laload hx (j := ix) (v := (.long (wd S 0 (vn / 64 ^ (0 + 1))))) (by rw [e1]; exact Ar14.1) (State.isArrayOf_alike hZ.alike Ar14.2.1) Ar14.2.2 (by rw [S14]; exact (inbO cix.2 cix.1 (show (vn / 64 ^ (0 + 1)) < (sz 0) from (hsz 0 hiD)))) at14 (g := (mkF m 55 #[.val (.ref r0), .val (.int p1), .val (.int p1), .val (.ref lv), .val (.int dI), .val (.int (0 : Int32)), .val (.ref (A 0)), .val (.int ix), .val (.int (0 : Int32))] [(.int ix), (.ref (A 0)), (.int ix), (.ref (A 0))])) rfl rfl (hb hby d5_55) _ k_) ?_
      clear at14 Hs14 S14 Ar14
      show Runs _ _ _ _ T1 (mkF m 56 #[.val (.ref r0), .val (.int p1), .val (.int p1), .val (.ref lv), .val (.int dI), .val (.int (0 : Int32)), .val (.ref (A 0)), .val (.int ix), .val (.int (0 : Int32))] [(.long (wd S 0 (vn / 64 ^ (0 + 1)))), (.int ix), (.ref (A 0))])
      refine Runs.back (fun t_ k_ => XS.lconst X1.here hx rfl (hb hby d5_56) k_) ?_
      show Runs _ _ _ _ T1 (mkF m 57 #[.val (.ref r0), .val (.int p1), .val (.int p1), .val (.ref lv), .val (.int dI), .val (.int (0 : Int32)), .val (.ref (A 0)), .val (.int ix), .val (.int (0 : Int32))] [(.long (1 : Int64)), (.long (wd S 0 (vn / 64 ^ (0 + 1)))), (.int ix), (.ref (A 0))])
      refine Runs.back (fun t_ k_ => XS.iloadN X1.here hx rfl (hb hby d5_57) rfl k_) ?_
      show Runs _ _ _ _ T1 (mkF m 58 #[.val (.ref r0), .val (.int p1), .val (.int p1), .val (.ref lv), .val (.int dI), .val (.int (0 : Int32)), .val (.ref (A 0)), .val (.int ix), .val (.int (0 : Int32))] [(.int p1), (.long (1 : Int64)), (.long (wd S 0 (vn / 64 ^ (0 + 1)))), (.int ix), (.ref (A 0))])
      refine Runs.back (fun t_ k_ => XS.lshl X1.here hx rfl (hb hby d5_58) rfl k_) ?_
      show Runs _ _ _ _ T1 (mkF m 59 #[.val (.ref r0), .val (.int p1), .val (.int p1), .val (.ref lv), .val (.int dI), .val (.int (0 : Int32)), .val (.ref (A 0)), .val (.int ix), .val (.int (0 : Int32))] [(.long ((1 : Int64) <<< (p1 &&& 0x3f).toInt64)), (.long (wd S 0 (vn / 64 ^ (0 + 1)))), (.int ix), (.ref (A 0))])
      refine Runs.back (fun t_ k_ => XS.lor X1.here hx rfl (hb hby d5_59) rfl k_) ?_
      show Runs _ _ _ _ T1 (mkF m 60 #[.val (.ref r0), .val (.int p1), .val (.int p1), .val (.ref lv), .val (.int dI), .val (.int (0 : Int32)), .val (.ref (A 0)), .val (.int ix), .val (.int (0 : Int32))] [(.long ((wd S 0 (vn / 64 ^ (0 + 1))) ||| ((1 : Int64) <<< (p1 &&& 0x3f).toInt64))), (.int ix), (.ref (A 0))])
      obtain ⟨cl15, Ar15, S15, Hs15⟩ := id HL
      obtain ⟨T15, h15, X15, e15, W15, st15⟩ := stJ X1 hx hZ e1 Ar15 (j := ix) (by rw [S15]; exact inbO cix.2 cix.1 (hsz 0 hiD)) (g := (mkF m 60 #[.val (.ref r0), .val (.int p1), .val (.int p1), .val (.ref lv), .val (.int dI), .val (.int (0 : Int32)), .val (.ref (A 0)), .val (.int ix), .val (.int (0 : Int32))] [(.long ((wd S 0 (vn / 64 ^ (0 + 1))) ||| ((1 : Int64) <<< (p1 &&& 0x3f).toInt64))), (.int ix), (.ref (A 0))])) rfl rfl (hb hby d5_60)
      have N15 := Fr.snoc X15 N0 (H4 0 hiD).1
      obtain ⟨L15, X15, N15⟩ := hideL X15 N15
      rw [cix.1, add_hit hq0] at W15
      have HS15 := SF.set HF hiD W15
      refine Runs.back st15 ?_
      show Runs _ _ _ _ T15 (mkF m 61 #[.val (.ref r0), .val (.int p1), .val (.int p1), .val (.ref lv), .val (.int dI), .val (.int (0 : Int32)), .val (.ref (A 0)), .val (.int ix), .val (.int (0 : Int32))] [])
      refine Runs.back (fun t_ k_ => XS.iload X15.here hx rfl (hb hby d5_61) rfl k_) ?_
      show Runs _ _ _ _ T15 (mkF m 63 #[.val (.ref r0), .val (.int p1), .val (.int p1), .val (.ref lv), .val (.int dI), .val (.int (0 : Int32)), .val (.ref (A 0)), .val (.int ix), .val (.int (0 : Int32))] [(.int (0 : Int32))])
      refine Runs.back (fun t_ k_ => XS.ifYes X15.here hx rfl (pc0 := 63) (pc' := 67) rfl (hb hby d5_63) rfl ((if0 _ _).trans (teq (show (0 : Int32) = (0 : Int32) from rfl)).1) (by decide) (by decide) k_) ?_
      show Runs _ _ _ _ T15 (mkF m 67 #[.val (.ref r0), .val (.int p1), .val (.int p1), .val (.ref lv), .val (.int dI), .val (.int (0 : Int32)), .val (.ref (A 0)), .val (.int ix), .val (.int (0 : Int32))] [])
      refine Runs.back (fun t_ k_ => XS.iload X15.here hx rfl (hb hby d5_67) rfl k_) ?_
      show Runs _ _ _ _ T15 (mkF m 69 #[.val (.ref r0), .val (.int p1), .val (.int p1), .val (.ref lv), .val (.int dI), .val (.int (0 : Int32)), .val (.ref (A 0)), .val (.int ix), .val (.int (0 : Int32))] [(.int ix)])
      refine Runs.back (fun t_ k_ => XS.istoreN X15.here hx rfl (hb hby d5_69) rfl (l' := #[.val (.ref r0), .val (.int p1), .val (.int ix), .val (.ref lv), .val (.int dI), .val (.int (0 : Int32)), .val (.ref (A 0)), .val (.int ix), .val (.int (0 : Int32))]) rfl k_) ?_
      show Runs _ _ _ _ T15 (mkF m 70 #[.val (.ref r0), .val (.int p1), .val (.int ix), .val (.ref lv), .val (.int dI), .val (.int (0 : Int32)), .val (.ref (A 0)), .val (.int ix), .val (.int (0 : Int32))] [])
      refine Runs.back (fun t_ k_ => XS.iinc X15.here hx rfl (hb hby d5_70) rfl (l' := #[.val (.ref r0), .val (.int p1), .val (.int ix), .val (.ref lv), .val (.int dI), .val (.int ((0 : Int32) + (1 : Int32))), .val (.ref (A 0)), .val (.int ix), .val (.int (0 : Int32))]) rfl k_) ?_
      show Runs _ _ _ _ T15 (mkF m 73 #[.val (.ref r0), .val (.int p1), .val (.int ix), .val (.ref lv), .val (.int dI), .val (.int ((0 : Int32) + (1 : Int32))), .val (.ref (A 0)), .val (.int ix), .val (.int (0 : Int32))] [])
      refine Runs.back (fun t_ k_ => XS.goto X15.here hx rfl (pc0 := 73) (pc' := 14) rfl (hb hby d5_73) (by decide) (by decide) k_) ?_
      show Runs _ _ _ _ T15 (mkF m 14 #[.val (.ref r0), .val (.int p1), .val (.int ix), .val (.ref lv), .val (.int dI), .val (.int ((0 : Int32) + (1 : Int32))), .val (.ref (A 0)), .val (.int ix), .val (.int (0 : Int32))] [])
      have hi2 : ((0 : Int32) + (1 : Int32)).toInt = ((0 + 1 : Nat) : Int) := by rw [add32 (by rw [o32]; omega) (by rw [o32]; omega), o32]; omega
      exact J (D - 1) ((A 0), ix, (0 : Int32), ix, ((0 : Int32) + (1 : Int32)), 0 + 1) _ ⟨_, X15, N15, by omega, by omega, hix, hi2, by rw [e15]; exact SF.congr HS15 fun i' _ j' => addNext i' j'⟩
    · refine Runs.back (fun t_ k_ => XS.ifNo X1.here hx rfl (hb hby d5_40) rfl ((if0 _ _).trans (feq (lcN c40_13)).1) k_) ?_
      show Runs _ _ _ _ T1 (mkF m 43 #[.val (.ref r0), .val (.int p1), .val (.int p1), .val (.ref lv), .val (.int dI), .val (.int (0 : Int32)), .val (.ref (A 0)), .val (.int ix), .unset] [])
      refine Runs.back (fun t_ k_ => XS.iconst X1.here hx rfl (hb hby d5_43) k_) ?_
      show Runs _ _ _ _ T1 (mkF m 44 #[.val (.ref r0), .val (.int p1), .val (.int p1), .val (.ref lv), .val (.int dI), .val (.int (0 : Int32)), .val (.ref (A 0)), .val (.int ix), .unset] [(.int (1 : Int32))])
      refine Runs.back (fun t_ k_ => XS.goto X1.here hx rfl (pc0 := 44) (pc' := 48) rfl (hb hby d5_44) (by decide) (by decide) k_) ?_
      show Runs _ _ _ _ T1 (mkF m 48 #[.val (.ref r0), .val (.int p1), .val (.int p1), .val (.ref lv), .val (.int dI), .val (.int (0 : Int32)), .val (.ref (A 0)), .val (.int ix), .unset] [(.int (1 : Int32))])
      refine Runs.back (fun t_ k_ => XS.istore X1.here hx rfl (hb hby d5_48) rfl (l' := #[.val (.ref r0), .val (.int p1), .val (.int p1), .val (.ref lv), .val (.int dI), .val (.int (0 : Int32)), .val (.ref (A 0)), .val (.int ix), .val (.int (1 : Int32))]) rfl k_) ?_
      show Runs _ _ _ _ T1 (mkF m 50 #[.val (.ref r0), .val (.int p1), .val (.int p1), .val (.ref lv), .val (.int dI), .val (.int (0 : Int32)), .val (.ref (A 0)), .val (.int ix), .val (.int (1 : Int32))] [])
      refine Runs.back (fun t_ k_ => XS.aload X1.here hx rfl (hb hby d5_50) rfl rfl k_) ?_
      show Runs _ _ _ _ T1 (mkF m 52 #[.val (.ref r0), .val (.int p1), .val (.int p1), .val (.ref lv), .val (.int dI), .val (.int (0 : Int32)), .val (.ref (A 0)), .val (.int ix), .val (.int (1 : Int32))] [(.ref (A 0))])
      refine Runs.back (fun t_ k_ => XS.iload X1.here hx rfl (hb hby d5_52) rfl k_) ?_
      show Runs _ _ _ _ T1 (mkF m 54 #[.val (.ref r0), .val (.int p1), .val (.int p1), .val (.ref lv), .val (.int dI), .val (.int (0 : Int32)), .val (.ref (A 0)), .val (.int ix), .val (.int (1 : Int32))] [(.int ix), (.ref (A 0))])
      refine Runs.back (fun t_ k_ => Jvm.Free.XT.dup2 X1.here hx rfl (hb hby d5_54) rfl rfl rfl k_) ?_
      show Runs _ _ _ _ T1 (mkF m 55 #[.val (.ref r0), .val (.int p1), .val (.int p1), .val (.ref lv), .val (.int dI), .val (.int (0 : Int32)), .val (.ref (A 0)), .val (.int ix), .val (.int (1 : Int32))] [(.int ix), (.ref (A 0)), (.int ix), (.ref (A 0))])
      obtain ⟨cl16, Ar16, S16, Hs16⟩ := id HL
      have at16 : cl16.slots[(ix).toNatClampNeg]? = some (.long (wd S 0 (vn / 64 ^ (0 + 1)))) := readO Hs16 cix.1 (show (vn / 64 ^ (0 + 1)) < (sz 0) from (hsz 0 hiD)) (congrArg Value.long (Fi_self _ _ _ _))
      refine Runs.back (fun t_ k_ => X1.laload hx (j := ix) (v := (.long (wd S 0 (vn / 64 ^ (0 + 1))))) (by rw [e1]; exact Ar16.1) (State.isArrayOf_alike hZ.alike Ar16.2.1) Ar16.2.2 (by rw [S16]; exact (inbO cix.2 cix.1 (show (vn / 64 ^ (0 + 1)) < (sz 0) from (hsz 0 hiD)))) at16 (g := (mkF m 55 #[.val (.ref r0), .val (.int p1), .val (.int p1), .val (.ref lv), .val (.int dI), .val (.int (0 : Int32)), .val (.ref (A 0)), .val (.int ix), .val (.int (1 : Int32))] [(.int ix), (.ref (A 0)), (.int ix), (.ref (A 0))])) rfl rfl (hb hby d5_55) _ k_) ?_
      clear at16 Hs16 S16 Ar16
      show Runs _ _ _ _ T1 (mkF m 56 #[.val (.ref r0), .val (.int p1), .val (.int p1), .val (.ref lv), .val (.int dI), .val (.int (0 : Int32)), .val (.ref (A 0)), .val (.int ix), .val (.int (1 : Int32))] [(.long (wd S 0 (vn / 64 ^ (0 + 1)))), (.int ix), (.ref (A 0))])
      refine Runs.back (fun t_ k_ => XS.lconst X1.here hx rfl (hb hby d5_56) k_) ?_
      show Runs _ _ _ _ T1 (mkF m 57 #[.val (.ref r0), .val (.int p1), .val (.int p1), .val (.ref lv), .val (.int dI), .val (.int (0 : Int32)), .val (.ref (A 0)), .val (.int ix), .val (.int (1 : Int32))] [(.long (1 : Int64)), (.long (wd S 0 (vn / 64 ^ (0 + 1)))), (.int ix), (.ref (A 0))])
      refine Runs.back (fun t_ k_ => XS.iloadN X1.here hx rfl (hb hby d5_57) rfl k_) ?_
      show Runs _ _ _ _ T1 (mkF m 58 #[.val (.ref r0), .val (.int p1), .val (.int p1), .val (.ref lv), .val (.int dI), .val (.int (0 : Int32)), .val (.ref (A 0)), .val (.int ix), .val (.int (1 : Int32))] [(.int p1), (.long (1 : Int64)), (.long (wd S 0 (vn / 64 ^ (0 + 1)))), (.int ix), (.ref (A 0))])
      refine Runs.back (fun t_ k_ => XS.lshl X1.here hx rfl (hb hby d5_58) rfl k_) ?_
      show Runs _ _ _ _ T1 (mkF m 59 #[.val (.ref r0), .val (.int p1), .val (.int p1), .val (.ref lv), .val (.int dI), .val (.int (0 : Int32)), .val (.ref (A 0)), .val (.int ix), .val (.int (1 : Int32))] [(.long ((1 : Int64) <<< (p1 &&& 0x3f).toInt64)), (.long (wd S 0 (vn / 64 ^ (0 + 1)))), (.int ix), (.ref (A 0))])
      refine Runs.back (fun t_ k_ => XS.lor X1.here hx rfl (hb hby d5_59) rfl k_) ?_
      show Runs _ _ _ _ T1 (mkF m 60 #[.val (.ref r0), .val (.int p1), .val (.int p1), .val (.ref lv), .val (.int dI), .val (.int (0 : Int32)), .val (.ref (A 0)), .val (.int ix), .val (.int (1 : Int32))] [(.long ((wd S 0 (vn / 64 ^ (0 + 1))) ||| ((1 : Int64) <<< (p1 &&& 0x3f).toInt64))), (.int ix), (.ref (A 0))])
      obtain ⟨cl17, Ar17, S17, Hs17⟩ := id HL
      obtain ⟨T17, h17, X17, e17, W17, st17⟩ := stJ X1 hx hZ e1 Ar17 (j := ix) (by rw [S17]; exact inbO cix.2 cix.1 (hsz 0 hiD)) (g := (mkF m 60 #[.val (.ref r0), .val (.int p1), .val (.int p1), .val (.ref lv), .val (.int dI), .val (.int (0 : Int32)), .val (.ref (A 0)), .val (.int ix), .val (.int (1 : Int32))] [(.long ((wd S 0 (vn / 64 ^ (0 + 1))) ||| ((1 : Int64) <<< (p1 &&& 0x3f).toInt64))), (.int ix), (.ref (A 0))])) rfl rfl (hb hby d5_60)
      have N17 := Fr.snoc X17 N0 (H4 0 hiD).1
      obtain ⟨L17, X17, N17⟩ := hideL X17 N17
      rw [cix.1, add_hit hq0] at W17
      have HS17 := SF.set HF hiD W17
      refine Runs.back st17 ?_
      show Runs _ _ _ _ T17 (mkF m 61 #[.val (.ref r0), .val (.int p1), .val (.int p1), .val (.ref lv), .val (.int dI), .val (.int (0 : Int32)), .val (.ref (A 0)), .val (.int ix), .val (.int (1 : Int32))] [])
      refine Runs.back (fun t_ k_ => XS.iload X17.here hx rfl (hb hby d5_61) rfl k_) ?_
      show Runs _ _ _ _ T17 (mkF m 63 #[.val (.ref r0), .val (.int p1), .val (.int p1), .val (.ref lv), .val (.int dI), .val (.int (0 : Int32)), .val (.ref (A 0)), .val (.int ix), .val (.int (1 : Int32))] [(.int (1 : Int32))])
      refine Runs.back (fun t_ k_ => XS.ifNo X17.here hx rfl (hb hby d5_63) rfl ((if0 _ _).trans (feq (show ¬ ((1 : Int32) = (0 : Int32)) from (by decide))).1) k_) ?_
      show Runs _ _ _ _ T17 (mkF m 66 #[.val (.ref r0), .val (.int p1), .val (.int p1), .val (.ref lv), .val (.int dI), .val (.int (0 : Int32)), .val (.ref (A 0)), .val (.int ix), .val (.int (1 : Int32))] [])
      obtain ⟨fs, hr, hrun, hended, hW, hsame⟩ := X17.leave (v := none) (fun _ => rfl)
      exact ⟨_, _, (X17.returnOut hx Bd.returns (hb hby d5_66) hr), hrun, hended, _, _, rfl, (by show Q5 Z r0 p1 lv A sz D dI S vn h0 n0 _ T17.heap _; rw [e17]; exact ⟨rfl, N17, SF.congr HS17 fun i' _ j' => addEnd c40_13 i' j'⟩), ⟨_, rfl⟩, hW, hsame.mono (by decide) (by decide)⟩
theorem d7_0 : decode prog_42_method_4_code 0 = .ok (.iconst 0, 1) := by decide +kernel
theorem d7_1 : decode prog_42_method_4_code 1 = .ok (.istore_n 1, 1) := by decide +kernel
theorem d7_2 : decode prog_42_method_4_code 2 = .ok (.aload_n 0, 1) := by decide +kernel
theorem d7_3 : decode prog_42_method_4_code 3 = .ok (.getfield 15, 3) := by decide +kernel
theorem d7_6 : decode prog_42_method_4_code 6 = .ok (.arraylength, 1) := by decide +kernel
theorem d7_7 : decode prog_42_method_4_code 7 = .ok (.iconst 1, 1) := by decide +kernel
theorem d7_8 : decode prog_42_method_4_code 8 = .ok (.isub, 1) := by decide +kernel
theorem d7_9 : decode prog_42_method_4_code 9 = .ok (.istore_n 2, 1) := by decide +kernel
theorem d7_10 : decode prog_42_method_4_code 10 = .ok (.iload_n 2, 1) := by decide +kernel
theorem d7_11 : decode prog_42_method_4_code 11 = .ok (.ifCond .lt 26, 3) := by decide +kernel
theorem d7_14 : decode prog_42_method_4_code 14 = .ok (.iload_n 1, 1) := by decide +kernel
theorem d7_15 : decode prog_42_method_4_code 15 = .ok (.bipush 6, 2) := by decide +kernel
theorem d7_17 : decode prog_42_method_4_code 17 = .ok (.ishl, 1) := by decide +kernel
theorem d7_18 : decode prog_42_method_4_code 18 = .ok (.aload_n 0, 1) := by decide +kernel
theorem d7_19 : decode prog_42_method_4_code 19 = .ok (.getfield 15, 3) := by decide +kernel
theorem d7_22 : decode prog_42_method_4_code 22 = .ok (.iload_n 2, 1) := by decide +kernel
theorem d7_23 : decode prog_42_method_4_code 23 = .ok (.aaload, 1) := by decide +kernel
theorem d7_24 : decode prog_42_method_4_code 24 = .ok (.iload_n 1, 1) := by decide +kernel
theorem d7_25 : decode prog_42_method_4_code 25 = .ok (.laload, 1) := by decide +kernel
theorem d7_26 : decode prog_42_method_4_code 26 = .ok (.invokestatic 21, 3) := by decide +kernel
theorem d7_29 : decode prog_42_method_4_code 29 = .ok (.iadd, 1) := by decide +kernel
theorem d7_30 : decode prog_42_method_4_code 30 = .ok (.istore_n 1, 1) := by decide +kernel
theorem d7_31 : decode prog_42_method_4_code 31 = .ok (.iinc 2 (-1), 3) := by decide +kernel
theorem d7_34 : decode prog_42_method_4_code 34 = .ok (.goto (-24), 3) := by decide +kernel
theorem d7_37 : decode prog_42_method_4_code 37 = .ok (.iload_n 1, 1) := by decide +kernel
theorem d7_38 : decode prog_42_method_4_code 38 = .ok (.istore_n 2, 1) := by decide +kernel
theorem d7_39 : decode prog_42_method_4_code 39 = .ok (.aload_n 0, 1) := by decide +kernel
theorem d7_40 : decode prog_42_method_4_code 40 = .ok (.getfield 15, 3) := by decide +kernel
theorem d7_43 : decode prog_42_method_4_code 43 = .ok (.astore_n 3, 1) := by decide +kernel
theorem d7_44 : decode prog_42_method_4_code 44 = .ok (.aload_n 3, 1) := by decide +kernel
theorem d7_45 : decode prog_42_method_4_code 45 = .ok (.arraylength, 1) := by decide +kernel
theorem d7_46 : decode prog_42_method_4_code 46 = .ok (.istore 4, 2) := by decide +kernel
theorem d7_48 : decode prog_42_method_4_code 48 = .ok (.iconst 0, 1) := by decide +kernel
theorem d7_49 : decode prog_42_method_4_code 49 = .ok (.istore 5, 2) := by decide +kernel
theorem d7_51 : decode prog_42_method_4_code 51 = .ok (.iload 5, 2) := by decide +kernel
theorem d7_53 : decode prog_42_method_4_code 53 = .ok (.iload 4, 2) := by decide +kernel
theorem d7_55 : decode prog_42_method_4_code 55 = .ok (.if_icmp .ge 51, 3) := by decide +kernel
theorem d7_58 : decode prog_42_method_4_code 58 = .ok (.aload_n 3, 1) := by decide +kernel
theorem d7_59 : decode prog_42_method_4_code 59 = .ok (.iload 5, 2) := by decide +kernel
theorem d7_61 : decode prog_42_method_4_code 61 = .ok (.aaload, 1) := by decide +kernel
theorem d7_62 : decode prog_42_method_4_code 62 = .ok (.astore 6, 2) := by decide +kernel
theorem d7_64 : decode prog_42_method_4_code 64 = .ok (.iload_n 2, 1) := by decide +kernel
theorem d7_65 : decode prog_42_method_4_code 65 = .ok (.bipush 6, 2) := by decide +kernel
theorem d7_67 : decode prog_42_method_4_code 67 = .ok (.iushr, 1) := by decide +kernel
theorem d7_68 : decode prog_42_method_4_code 68 = .ok (.istore 7, 2) := by decide +kernel
theorem d7_70 : decode prog_42_method_4_code 70 = .ok (.aload 6, 2) := by decide +kernel
theorem d7_72 : decode prog_42_method_4_code 72 = .ok (.iload 7, 2) := by decide +kernel
theorem d7_74 : decode prog_42_method_4_code 74 = .ok (.dup2, 1) := by decide +kernel
theorem d7_75 : decode prog_42_method_4_code 75 = .ok (.laload, 1) := by decide +kernel
theorem d7_76 : decode prog_42_method_4_code 76 = .ok (.lconst 1, 1) := by decide +kernel
theorem d7_77 : decode prog_42_method_4_code 77 = .ok (.iload_n 2, 1) := by decide +kernel
theorem d7_78 : decode prog_42_method_4_code 78 = .ok (.lshl, 1) := by decide +kernel
theorem d7_79 : decode prog_42_method_4_code 79 = .ok (.ldc2_w 27, 3) := by decide +kernel
theorem d7_82 : decode prog_42_method_4_code 82 = .ok (.lxor, 1) := by decide +kernel
theorem d7_83 : decode prog_42_method_4_code 83 = .ok (.land, 1) := by decide +kernel
theorem d7_84 : decode prog_42_method_4_code 84 = .ok (.lastore, 1) := by decide +kernel
theorem d7_85 : decode prog_42_method_4_code 85 = .ok (.aload 6, 2) := by decide +kernel
theorem d7_87 : decode prog_42_method_4_code 87 = .ok (.iload 7, 2) := by decide +kernel
theorem d7_89 : decode prog_42_method_4_code 89 = .ok (.laload, 1) := by decide +kernel
theorem d7_90 : decode prog_42_method_4_code 90 = .ok (.lconst 0, 1) := by decide +kernel
theorem d7_91 : decode prog_42_method_4_code 91 = .ok (.lcmp, 1) := by decide +kernel
theorem d7_92 : decode prog_42_method_4_code 92 = .ok (.ifCond .eq 5, 3) := by decide +kernel
theorem d7_95 : decode prog_42_method_4_code 95 = .ok (.iload_n 1, 1) := by decide +kernel
theorem d7_96 : decode prog_42_method_4_code 96 = .ok (.ireturn, 1) := by decide +kernel
theorem d7_97 : decode prog_42_method_4_code 97 = .ok (.iload 7, 2) := by decide +kernel
theorem d7_99 : decode prog_42_method_4_code 99 = .ok (.istore_n 2, 1) := by decide +kernel
theorem d7_100 : decode prog_42_method_4_code 100 = .ok (.iinc 5 1, 3) := by decide +kernel
theorem d7_103 : decode prog_42_method_4_code 103 = .ok (.goto (-52), 3) := by decide +kernel
theorem d7_106 : decode prog_42_method_4_code 106 = .ok (.iload_n 1, 1) := by decide +kernel
theorem d7_107 : decode prog_42_method_4_code 107 = .ok (.ireturn, 1) := by decide +kernel
theorem pn_7 : plainName "com/example/tradewheel/tradewheel/SmallestFirst" = true := by first | (simp [plainName, overriddenIn]; done) | decide +kernel
theorem pd7_0 : parseMethodDescriptor "(J)I" = some ⟨[.long], some .int⟩ := by decide +kernel
theorem ef_7 (m : MethodId) (r0 : Addr) : entryFrame m #[(.ref r0)] 8 = mkF m 0 #[.val (.ref r0), .unset, .unset, .unset, .unset, .unset, .unset, .unset] [] := by first | (simp [entryFrame, mkF, argsToLocals, Value.category]; done) | rfl
def Q7 (Z : State) (r0 : Addr) (lv : Addr) (A : Nat → Addr) (sz : Nat → Nat) (D : Nat) (dI : Int32) (S S' : List Nat) (mn : Nat) (h0 : Heap) (n0 : Nat) (v : Option Value) (h : Heap) (L : List Loc) : Prop := ∃ mI : Int32, v = some (.int mI) ∧ Fr n0 L ∧ mI.toInt = (mn : Int) ∧ SF Z h n0 r0 lv A sz D (wd S')
set_option maxRecDepth 65536 in
set_option maxHeartbeats 40000000 in
theorem rm7 (l : Launch) (Z : State) (a0 : Array Value) (hw : ∀ d ∈ tables_1, d.before a0 Z = true) (ws : List Jvm.Cond) (r0 : Addr) (lv : Addr) (A : Nat → Addr) (sz : Nat → Nat) (D : Nat) (dI : Int32) (S S' : List Nat) (mn : Nat) (h0 : Heap) (n0 : Nat) (Z0 : n0 ≤ h0.size) (H : SF Z h0 n0 r0 lv A sz D (wd S)) (hdI : D.toInt32 = dI) (hdv : dI.toInt = (D : Int)) (hD : 1 ≤ D ∧ D ≤ 4) (hm : mn ∈ S) (hmin : ∀ v ∈ S, mn ≤ v) (hS : ∀ v, v ∈ S' ↔ v ∈ S ∧ v ≠ mn) (hm31 : mn < 2147483648) (htop : mn / 64 ^ D = 0) (hsz : ∀ i, i < D → mn / 64 ^ (i + 1) < sz i) :
    MetFree l (⟨"com/example/tradewheel/tradewheel/SmallestFirst", "removeSmallest", "()I"⟩ : MethodName) (head1 (Jvm.Cond.code (⟨"com/example/tradewheel/tradewheel/SmallestFirst", "removeSmallest", "()I"⟩ : MethodName) prog_42_method_4_code 8 (some .int) :: ws) ({ frames := 2, cells := 0, slots := 0, locals := 29 } : Room)) (fun a U => a = #[(.ref r0)] ∧ Z.Warmed39 U.vm ∧ U.heap = h0) (fun _ _ _ _ _ => True) (fun _ U o U' => ∃ v L, o = .returned v ∧ Q7 Z r0 lv A sz D dI S S' mn h0 n0 v U'.heap L ∧ FrameEnd U o U' L ({ frames := 2, cells := 0, slots := 0, locals := 29 } : Room).cells ({ frames := 2, cells := 0, slots := 0, locals := 29 } : Room).slots) := by
  refine MetFree.of_bodySF (plainFor_of_name pn_7) hisR ?_
  intro p e s m args below meth c s₁ Bd hml0 hP hK
  obtain ⟨rfl, hZ, hh⟩ := hP
  have hx := Bd.exec
  have hby := Bd.bytes
  have hml : c.maxLocals = 8 := hml0
  have hown : s.vm.findClass "com/example/tradewheel/tradewheel/SmallestFirst" = some m.cls := findClass_of_methodNamed Bd.named
  have hnm := (name_of_methodNamed Bd.named Bd.method).1
  have X0 : Stand p l e ({ frames := 2, cells := 0, slots := 0, locals := 29 } : Room) s m #[(.ref r0)] below meth c s₁ [] 0 0 := Stand.of_body Bd
  have e0 : s₁.heap = h0 := by rw [← hh, Bd.state]; rfl
  have N0 := Fr.nil n0
  refine Runs.enter (ef_7 m r0) ?_
  show Runs _ _ _ _ s₁ (mkF m 0 #[.val (.ref r0), .unset, .unset, .unset, .unset, .unset, .unset, .unset] [])
  obtain ⟨H1, H2, HA, H4, H5, H6⟩ := id H
  have hd1 : (dI - (1 : Int32)).toInt = (D : Int) - 1 := by rw [sub32 (by rw [o32]; omega) (by rw [o32]; omega), o32]; omega
  refine Runs.back (fun t_ k_ => XS.iconst X0.here hx rfl (hb hby d7_0) k_) ?_
  show Runs _ _ _ _ s₁ (mkF m 1 #[.val (.ref r0), .unset, .unset, .unset, .unset, .unset, .unset, .unset] [(.int (0 : Int32))])
  refine Runs.back (fun t_ k_ => XS.istoreN X0.here hx rfl (hb hby d7_1) rfl (l' := #[.val (.ref r0), .val (.int (0 : Int32)), .unset, .unset, .unset, .unset, .unset, .unset]) rfl k_) ?_
  show Runs _ _ _ _ s₁ (mkF m 2 #[.val (.ref r0), .val (.int (0 : Int32)), .unset, .unset, .unset, .unset, .unset, .unset] [])
  refine Runs.back (fun t_ k_ => XS.aloadN X0.here hx rfl (hb hby d7_2) rfl rfl k_) ?_
  show Runs _ _ _ _ s₁ (mkF m 3 #[.val (.ref r0), .val (.int (0 : Int32)), .unset, .unset, .unset, .unset, .unset, .unset] [(.ref r0)])
  obtain ⟨T1, X1, e1, st1⟩ := getF X0 hx hZ hown (host := "") (Or.inl (hw _ (List.mem_of_getElem? (i := 17) rfl))) Via.refl e0 H2 (g := (mkF m 3 #[.val (.ref r0), .val (.int (0 : Int32)), .unset, .unset, .unset, .unset, .unset, .unset] [(.ref r0)])) rfl rfl (hb hby d7_3)
  refine Runs.back st1 ?_
  show Runs _ _ _ _ T1 (mkF m 6 #[.val (.ref r0), .val (.int (0 : Int32)), .unset, .unset, .unset, .unset, .unset, .unset] [(.ref lv)])
  obtain ⟨cl2, Ar2, S2, Hs2⟩ := id HA
  refine Runs.back (fun t_ k_ => X1.arraylength hx (by rw [e1]; exact Ar2.1) (State.isArrayOf_alike hZ.alike Ar2.2.1) (g := (mkF m 6 #[.val (.ref r0), .val (.int (0 : Int32)), .unset, .unset, .unset, .unset, .unset, .unset] [(.ref lv)])) rfl rfl (hb hby d7_6) _ (by rw [S2, show (D).toInt32 = dI from hdI]; exact k_)) ?_
  show Runs _ _ _ _ T1 (mkF m 7 #[.val (.ref r0), .val (.int (0 : Int32)), .unset, .unset, .unset, .unset, .unset, .unset] [(.int dI)])
  refine Runs.back (fun t_ k_ => XS.iconst X1.here hx rfl (hb hby d7_7) k_) ?_
  show Runs _ _ _ _ T1 (mkF m 8 #[.val (.ref r0), .val (.int (0 : Int32)), .unset, .unset, .unset, .unset, .unset, .unset] [(.int (1 : Int32)), (.int dI)])
  refine Runs.back (fun t_ k_ => XS.isub X1.here hx rfl (hb hby d7_8) rfl k_) ?_
  show Runs _ _ _ _ T1 (mkF m 9 #[.val (.ref r0), .val (.int (0 : Int32)), .unset, .unset, .unset, .unset, .unset, .unset] [(.int (dI - (1 : Int32)))])
  refine Runs.back (fun t_ k_ => XS.istoreN X1.here hx rfl (hb hby d7_9) rfl (l' := #[.val (.ref r0), .val (.int (0 : Int32)), .val (.int (dI - (1 : Int32))), .unset, .unset, .unset, .unset, .unset]) rfl k_) ?_
  show Runs _ _ _ _ T1 (mkF m 10 #[.val (.ref r0), .val (.int (0 : Int32)), .val (.int (dI - (1 : Int32))), .unset, .unset, .unset, .unset, .unset] [])
  refine Runs.loop (α := Int32 × Int32 × Nat) (P := fun (k : Nat) (⟨ix, lI, i⟩ : Int32 × Int32 × Nat) (T' : State) => ∃ locs, Stand p l e ({ frames := 2, cells := 0, slots := 0, locals := 29 } : Room) s m #[(.ref r0)] below meth c T' locs 0 0 ∧ Fr n0 locs ∧ T'.heap = h0 ∧ i = k ∧ i ≤ D ∧ lI.toInt = (i : Int) - 1 ∧ ix.toInt = ((mn / 64 ^ i : Nat) : Int)) (F := fun ⟨ix, lI, i⟩ => (mkF m 10 #[.val (.ref r0), .val (.int ix), .val (.int lI), .unset, .unset, .unset, .unset, .unset] [])) ?_ ?_
  · rintro k ih ⟨ix, lI, i⟩ T1 ⟨L1, X1, N1, e1, hik, hiD, hlI, hix⟩
    show Runs _ _ _ _ T1 (mkF m 10 #[.val (.ref r0), .val (.int ix), .val (.int lI), .unset, .unset, .unset, .unset, .unset] [])
    refine Runs.back (fun t_ k_ => XS.iloadN X1.here hx rfl (hb hby d7_10) rfl k_) ?_
    show Runs _ _ _ _ T1 (mkF m 11 #[.val (.ref r0), .val (.int ix), .val (.int lI), .unset, .unset, .unset, .unset, .unset] [(.int lI)])
    by_cases c11_3 : lI < (0 : Int32)
    · refine Runs.back (fun t_ k_ => XS.ifYes X1.here hx rfl (pc0 := 11) (pc' := 37) rfl (hb hby d7_11) rfl ((if0 _ _).trans (tlt c11_3).1) (by decide) (by decide) k_) ?_
      show Runs _ _ _ _ T1 (mkF m 37 #[.val (.ref r0), .val (.int ix), .val (.int lI), .unset, .unset, .unset, .unset, .unset] [])
      have hz0 : i = 0 := by have z := c11_3; clear hix; rw [lti, z32] at z; omega
      rw [hz0] at hix
      have hmI : ix.toInt = (mn : Int) := by rw [hix, Nat.pow_zero, Nat.div_one]
      have HG : SF Z h0 n0 r0 lv A sz D (Gi S S' 0) := SF.congr H fun i _ j => (if_neg (Nat.not_lt_zero i)).symm
      clear ih
      refine Runs.back (fun t_ k_ => XS.iloadN X1.here hx rfl (hb hby d7_37) rfl k_) ?_
      show Runs _ _ _ _ T1 (mkF m 38 #[.val (.ref r0), .val (.int ix), .val (.int lI), .unset, .unset, .unset, .unset, .unset] [(.int ix)])
      refine Runs.back (fun t_ k_ => XS.istoreN X1.here hx rfl (hb hby d7_38) rfl (l' := #[.val (.ref r0), .val (.int ix), .val (.int ix), .unset, .unset, .unset, .unset, .unset]) rfl k_) ?_
      show Runs _ _ _ _ T1 (mkF m 39 #[.val (.ref r0), .val (.int ix), .val (.int ix), .unset, .unset, .unset, .unset, .unset] [])
      refine Runs.back (fun t_ k_ => XS.aloadN X1.here hx rfl (hb hby d7_39) rfl rfl k_) ?_
      show Runs _ _ _ _ T1 (mkF m 40 #[.val (.ref r0), .val (.int ix), .val (.int ix), .unset, .unset, .unset, .unset, .unset] [(.ref r0)])
      obtain ⟨T4, X4, e4, st4⟩ := getF X1 hx hZ hown (host := "") (Or.inl (hw _ (List.mem_of_getElem? (i := 17) rfl))) Via.refl e1 H2 (g := (mkF m 40 #[.val (.ref r0), .val (.int ix), .val (.int ix), .unset, .unset, .unset, .unset, .unset] [(.ref r0)])) rfl rfl (hb hby d7_40)
      refine Runs.back st4 ?_
      show Runs _ _ _ _ T4 (mkF m 43 #[.val (.ref r0), .val (.int ix), .val (.int ix), .unset, .unset, .unset, .unset, .unset] [(.ref lv)])
      refine Runs.back (fun t_ k_ => XS.astoreN X4.here hx rfl (hb hby d7_43) rfl rfl (l' := #[.val (.ref r0), .val (.int ix), .val (.int ix), .val (.ref lv), .unset, .unset, .unset, .unset]) rfl k_) ?_
      show Runs _ _ _ _ T4 (mkF m 44 #[.val (.ref r0), .val (.int ix), .val (.int ix), .val (.ref lv), .unset, .unset, .unset, .unset] [])
      refine Runs.back (fun t_ k_ => XS.aloadN X4.here hx rfl (hb hby d7_44) rfl rfl k_) ?_
      show Runs _ _ _ _ T4 (mkF m 45 #[.val (.ref r0), .val (.int ix), .val (.int ix), .val (.ref lv), .unset, .unset, .unset, .unset] [(.ref lv)])
      obtain ⟨cl5, Ar5, S5, Hs5⟩ := id HA
      refine Runs.back (fun t_ k_ => X4.arraylength hx (by rw [e4]; exact Ar5.1) (State.isArrayOf_alike hZ.alike Ar5.2.1) (g := (mkF m 45 #[.val (.ref r0), .val (.int ix), .val (.int ix), .val (.ref lv), .unset, .unset, .unset, .unset] [(.ref lv)])) rfl rfl (hb hby d7_45) _ (by rw [S5, show (D).toInt32 = dI from hdI]; exact k_)) ?_
      show Runs _ _ _ _ T4 (mkF m 46 #[.val (.ref r0), .val (.int ix), .val (.int ix), .val (.ref lv), .unset, .unset, .unset, .unset] [(.int dI)])
      refine Runs.back (fun t_ k_ => XS.istore X4.here hx rfl (hb hby d7_46) rfl (l' := #[.val (.ref r0), .val (.int ix), .val (.int ix), .val (.ref lv), .val (.int dI), .unset, .unset, .unset]) rfl k_) ?_
      show Runs _ _ _ _ T4 (mkF m 48 #[.val (.ref r0), .val (.int ix), .val (.int ix), .val (.ref lv), .val (.int dI), .unset, .unset, .unset] [])
      refine Runs.back (fun t_ k_ => XS.iconst X4.here hx rfl (hb hby d7_48) k_) ?_
      show Runs _ _ _ _ T4 (mkF m 49 #[.val (.ref r0), .val (.int ix), .val (.int ix), .val (.ref lv), .val (.int dI), .unset, .unset, .unset] [(.int (0 : Int32))])
      refine Runs.back (fun t_ k_ => XS.istore X4.here hx rfl (hb hby d7_49) rfl (l' := #[.val (.ref r0), .val (.int ix), .val (.int ix), .val (.ref lv), .val (.int dI), .val (.int (0 : Int32)), .unset, .unset]) rfl k_) ?_
      show Runs _ _ _ _ T4 (mkF m 51 #[.val (.ref r0), .val (.int ix), .val (.int ix), .val (.ref lv), .val (.int dI), .val (.int (0 : Int32)), .unset, .unset] [])
      refine Runs.loop (α := Addr × Int32 × Int32 × Int32 × Nat) (P := fun (k : Nat) (⟨x6, x7, q, iI, i⟩ : Addr × Int32 × Int32 × Int32 × Nat) (T' : State) => ∃ locs, Stand p l e ({ frames := 2, cells := 0, slots := 0, locals := 29 } : Room) s m #[(.ref r0)] below meth c T' locs 0 0 ∧ Fr n0 locs ∧ 1 ≤ i ∧ i + k = D ∧ q.toInt = ((mn / 64 ^ i : Nat) : Int) ∧ iI.toInt = (i : Int) ∧ (∀ u ∈ S', u / 64 ^ i ≠ mn / 64 ^ i) ∧ SF Z T'.heap n0 r0 lv A sz D (Gi S S' i)) (F := fun ⟨x6, x7, q, iI, i⟩ => (mkF m 51 #[.val (.ref r0), .val (.int ix), .val (.int q), .val (.ref lv), .val (.int dI), .val (.int iI), .val (.ref x6), .val (.int x7)] [])) ?_ ?_
      · rintro k2 ih ⟨x6, x7, q, iI, i2⟩ T2 ⟨L2, X2, N2, hi1, hik2, hq, hiI, hn, HFi⟩
        have ci := clampI hiI
        clear H1 H2 HA H4 H5 H6 HG
        obtain ⟨H1, H2, HA, H4, H5, H6⟩ := id HFi
        show Runs _ _ _ _ T2 (mkF m 51 #[.val (.ref r0), .val (.int ix), .val (.int q), .val (.ref lv), .val (.int dI), .val (.int iI), .val (.ref x6), .val (.int x7)] [])
        refine Runs.back (fun t_ k_ => XS.iload X2.here hx rfl (hb hby d7_51) rfl k_) ?_
        show Runs _ _ _ _ T2 (mkF m 53 #[.val (.ref r0), .val (.int ix), .val (.int q), .val (.ref lv), .val (.int dI), .val (.int iI), .val (.ref x6), .val (.int x7)] [(.int iI)])
        refine Runs.back (fun t_ k_ => XS.iload X2.here hx rfl (hb hby d7_53) rfl k_) ?_
        show Runs _ _ _ _ T2 (mkF m 55 #[.val (.ref r0), .val (.int ix), .val (.int q), .val (.ref lv), .val (.int dI), .val (.int iI), .val (.ref x6), .val (.int x7)] [(.int dI), (.int iI)])
        by_cases c55_6 : iI < dI
        · refine Runs.back (fun t_ k_ => XS.icmpNo X2.here hx rfl (hb hby d7_55) rfl (tlt c55_6).2.1 k_) ?_
          show Runs _ _ _ _ T2 (mkF m 58 #[.val (.ref r0), .val (.int ix), .val (.int q), .val (.ref lv), .val (.int dI), .val (.int iI), .val (.ref x6), .val (.int x7)] [])
          have hiD : i2 < D := by have z := c55_6; rw [lti] at z; omega
          refine Runs.back (fun t_ k_ => XS.aloadN X2.here hx rfl (hb hby d7_58) rfl rfl k_) ?_
          show Runs _ _ _ _ T2 (mkF m 59 #[.val (.ref r0), .val (.int ix), .val (.int q), .val (.ref lv), .val (.int dI), .val (.int iI), .val (.ref x6), .val (.int x7)] [(.ref lv)])
          refine Runs.back (fun t_ k_ => XS.iload X2.here hx rfl (hb hby d7_59) rfl k_) ?_
          show Runs _ _ _ _ T2 (mkF m 61 #[.val (.ref r0), .val (.int ix), .val (.int q), .val (.ref lv), .val (.int dI), .val (.int iI), .val (.ref x6), .val (.int x7)] [(.int iI), (.ref lv)])
          obtain ⟨cl7, Ar7, S7, Hs7⟩ := id HA
          have at7 : cl7.slots[(iI).toNatClampNeg]? = some (.ref (A i2)) := readO Hs7 ci.1 (show i2 < D from hiD) (rfl)
          refine Runs.back (fun t_ k_ => X2.aaload hx (j := iI) (v := (.ref (A i2))) Ar7.1 (State.isArrayOf_alike hZ.alike Ar7.2.1) rfl Ar7.2.2 (by rw [S7]; exact (inbO ci.2 ci.1 (show i2 < D from hiD))) at7 (g := (mkF m 61 #[.val (.ref r0), .val (.int ix), .val (.int q), .val (.ref lv), .val (.int dI), .val (.int iI), .val (.ref x6), .val (.int x7)] [(.int iI), (.ref lv)])) rfl rfl (hb hby d7_61) _ k_) ?_
          clear at7 Hs7 S7 Ar7
          show Runs _ _ _ _ T2 (mkF m 62 #[.val (.ref r0), .val (.int ix), .val (.int q), .val (.ref lv), .val (.int dI), .val (.int iI), .val (.ref x6), .val (.int x7)] [(.ref (A i2))])
          have HL := (H4 i2 hiD).2
          refine Runs.back (fun t_ k_ => XS.astore X2.here hx rfl (hb hby d7_62) rfl rfl (l' := #[.val (.ref r0), .val (.int ix), .val (.int q), .val (.ref lv), .val (.int dI), .val (.int iI), .val (.ref (A i2)), .val (.int x7)]) rfl k_) ?_
          show Runs _ _ _ _ T2 (mkF m 64 #[.val (.ref r0), .val (.int ix), .val (.int q), .val (.ref lv), .val (.int dI), .val (.int iI), .val (.ref (A i2)), .val (.int x7)] [])
          refine Runs.back (fun t_ k_ => XS.iloadN X2.here hx rfl (hb hby d7_64) rfl k_) ?_
          show Runs _ _ _ _ T2 (mkF m 65 #[.val (.ref r0), .val (.int ix), .val (.int q), .val (.ref lv), .val (.int dI), .val (.int iI), .val (.ref (A i2)), .val (.int x7)] [(.int q)])
          refine Runs.back (fun t_ k_ => XS.bipush X2.here hx rfl (hb hby d7_65) k_) ?_
          show Runs _ _ _ _ T2 (mkF m 67 #[.val (.ref r0), .val (.int ix), .val (.int q), .val (.ref lv), .val (.int dI), .val (.int iI), .val (.ref (A i2)), .val (.int x7)] [(.int (6 : Int32)), (.int q)])
          refine Runs.back (fun t_ k_ => XS.iushr X2.here hx rfl (hb hby d7_67) rfl k_) ?_
          show Runs _ _ _ _ T2 (mkF m 68 #[.val (.ref r0), .val (.int ix), .val (.int q), .val (.ref lv), .val (.int dI), .val (.int iI), .val (.ref (A i2)), .val (.int x7)] [(.int ((q.toUInt32 >>> ((6 : Int32) &&& 31).toUInt32).toInt32))])
          have hix2 := div_up hq hm31
          generalize eix : ((q.toUInt32 >>> ((6 : Int32) &&& 31).toUInt32).toInt32) = jx at hix2 ⊢
          show Runs _ _ _ _ T2 (mkF m 68 #[.val (.ref r0), .val (.int ix), .val (.int q), .val (.ref lv), .val (.int dI), .val (.int iI), .val (.ref (A i2)), .val (.int x7)] [(.int jx)])
          have cix := clampI hix2
          refine Runs.back (fun t_ k_ => XS.istore X2.here hx rfl (hb hby d7_68) rfl (l' := #[.val (.ref r0), .val (.int ix), .val (.int q), .val (.ref lv), .val (.int dI), .val (.int iI), .val (.ref (A i2)), .val (.int jx)]) rfl k_) ?_
          show Runs _ _ _ _ T2 (mkF m 70 #[.val (.ref r0), .val (.int ix), .val (.int q), .val (.ref lv), .val (.int dI), .val (.int iI), .val (.ref (A i2)), .val (.int jx)] [])
          refine Runs.back (fun t_ k_ => XS.aload X2.here hx rfl (hb hby d7_70) rfl rfl k_) ?_
          show Runs _ _ _ _ T2 (mkF m 72 #[.val (.ref r0), .val (.int ix), .val (.int q), .val (.ref lv), .val (.int dI), .val (.int iI), .val (.ref (A i2)), .val (.int jx)] [(.ref (A i2))])
          refine Runs.back (fun t_ k_ => XS.iload X2.here hx rfl (hb hby d7_72) rfl k_) ?_
          show Runs _ _ _ _ T2 (mkF m 74 #[.val (.ref r0), .val (.int ix), .val (.int q), .val (.ref lv), .val (.int dI), .val (.int iI), .val (.ref (A i2)), .val (.int jx)] [(.int jx), (.ref (A i2))])
          refine Runs.back (fun t_ k_ => Jvm.Free.XT.dup2 X2.here hx rfl (hb hby d7_74) rfl rfl rfl k_) ?_
          show Runs _ _ _ _ T2 (mkF m 75 #[.val (.ref r0), .val (.int ix), .val (.int q), .val (.ref lv), .val (.int dI), .val (.int iI), .val (.ref (A i2)), .val (.int jx)] [(.int jx), (.ref (A i2)), (.int jx), (.ref (A i2))])
          obtain ⟨cl8, Ar8, S8, Hs8⟩ := id HL
          have at8 : cl8.slots[(jx).toNatClampNeg]? = some (.long (wd S i2 (mn / 64 ^ (i2 + 1)))) := readO Hs8 cix.1 (show (mn / 64 ^ (i2 + 1)) < (sz i2) from (hsz i2 hiD)) (congrArg Value.long (Gi_self _ _ _ _))
          refine Runs.back (fun t_ k_ => X2.laload hx (j := jx) (v := (.long (wd S i2 (mn / 64 ^ (i2 + 1))))) Ar8.1 (State.isArrayOf_alike hZ.alike Ar8.2.1) Ar8.2.2 (by rw [S8]; exact (inbO cix.2 cix.1 (show (mn / 64 ^ (i2 + 1)) < (sz i2) from (hsz i2 hiD)))) at8 (g := (mkF m 75 #[.val (.ref r0), .val (.int ix), .val (.int q), .val (.ref lv), .val (.int dI), .val (.int iI), .val (.ref (A i2)), .val (.int jx)] [(.int jx), (.ref (A i2)), (.int jx), (.ref (A i2))])) rfl rfl (hb hby d7_75) _ k_) ?_
          clear at8 Hs8 S8 Ar8
          show Runs _ _ _ _ T2 (mkF m 76 #[.val (.ref r0), .val (.int ix), .val (.int q), .val (.ref lv), .val (.int dI), .val (.int iI), .val (.ref (A i2)), .val (.int jx)] [(.long (wd S i2 (mn / 64 ^ (i2 + 1)))), (.int jx), (.ref (A i2))])
          refine Runs.back (fun t_ k_ => XS.lconst X2.here hx rfl (hb hby d7_76) k_) ?_
          show Runs _ _ _ _ T2 (mkF m 77 #[.val (.ref r0), .val (.int ix), .val (.int q), .val (.ref lv), .val (.int dI), .val (.int iI), .val (.ref (A i2)), .val (.int jx)] [(.long (1 : Int64)), (.long (wd S i2 (mn / 64 ^ (i2 + 1)))), (.int jx), (.ref (A i2))])
          refine Runs.back (fun t_ k_ => XS.iloadN X2.here hx rfl (hb hby d7_77) rfl k_) ?_
          show Runs _ _ _ _ T2 (mkF m 78 #[.val (.ref r0), .val (.int ix), .val (.int q), .val (.ref lv), .val (.int dI), .val (.int iI), .val (.ref (A i2)), .val (.int jx)] [(.int q), (.long (1 : Int64)), (.long (wd S i2 (mn / 64 ^ (i2 + 1)))), (.int jx), (.ref (A i2))])
          refine Runs.back (fun t_ k_ => XS.lshl X2.here hx rfl (hb hby d7_78) rfl k_) ?_
          show Runs _ _ _ _ T2 (mkF m 79 #[.val (.ref r0), .val (.int ix), .val (.int q), .val (.ref lv), .val (.int dI), .val (.int iI), .val (.ref (A i2)), .val (.int jx)] [(.long ((1 : Int64) <<< (q &&& 0x3f).toInt64)), (.long (wd S i2 (mn / 64 ^ (i2 + 1)))), (.int jx), (.ref (A i2))])
          refine Runs.back (X2.ldc2Long hx hown (mvT hZ (hw _ (List.mem_of_getElem? (i := 48) rfl))) (g := (mkF m 79 #[.val (.ref r0), .val (.int ix), .val (.int q), .val (.ref lv), .val (.int dI), .val (.int iI), .val (.ref (A i2)), .val (.int jx)] [(.long ((1 : Int64) <<< (q &&& 0x3f).toInt64)), (.long (wd S i2 (mn / 64 ^ (i2 + 1)))), (.int jx), (.ref (A i2))])) rfl (hb hby d7_79)) ?_
          show Runs _ _ _ _ T2 (mkF m 82 #[.val (.ref r0), .val (.int ix), .val (.int q), .val (.ref lv), .val (.int dI), .val (.int iI), .val (.ref (A i2)), .val (.int jx)] [(.long (-1 : Int64)), (.long ((1 : Int64) <<< (q &&& 0x3f).toInt64)), (.long (wd S i2 (mn / 64 ^ (i2 + 1)))), (.int jx), (.ref (A i2))])
          refine Runs.back (fun t_ k_ => XS.lxor X2.here hx rfl (hb hby d7_82) rfl k_) ?_
          show Runs _ _ _ _ T2 (mkF m 83 #[.val (.ref r0), .val (.int ix), .val (.int q), .val (.ref lv), .val (.int dI), .val (.int iI), .val (.ref (A i2)), .val (.int jx)] [(.long (((1 : Int64) <<< (q &&& 0x3f).toInt64) ^^^ (-1 : Int64))), (.long (wd S i2 (mn / 64 ^ (i2 + 1)))), (.int jx), (.ref (A i2))])
          refine Runs.back (fun t_ k_ => XS.land X2.here hx rfl (hb hby d7_83) rfl k_) ?_
          show Runs _ _ _ _ T2 (mkF m 84 #[.val (.ref r0), .val (.int ix), .val (.int q), .val (.ref lv), .val (.int dI), .val (.int iI), .val (.ref (A i2)), .val (.int jx)] [(.long ((wd S i2 (mn / 64 ^ (i2 + 1))) &&& (((1 : Int64) <<< (q &&& 0x3f).toInt64) ^^^ (-1 : Int64)))), (.int jx), (.ref (A i2))])
          obtain ⟨cl9, Ar9, S9, Hs9⟩ := id HL
          obtain ⟨T9, h9, X9, e9, W9, st9⟩ := stJ X2 hx hZ rfl Ar9 (j := jx) (by rw [S9]; exact inbO cix.2 cix.1 (hsz i2 hiD)) (g := (mkF m 84 #[.val (.ref r0), .val (.int ix), .val (.int q), .val (.ref lv), .val (.int dI), .val (.int iI), .val (.ref (A i2)), .val (.int jx)] [(.long ((wd S i2 (mn / 64 ^ (i2 + 1))) &&& (((1 : Int64) <<< (q &&& 0x3f).toInt64) ^^^ (-1 : Int64)))), (.int jx), (.ref (A i2))])) rfl rfl (hb hby d7_84)
          have N9 := Fr.snoc X9 N2 (H4 i2 hiD).1
          obtain ⟨L9, X9, N9⟩ := hideL X9 N9
          rw [cix.1, rem_hit hq hS hn] at W9
          have HS9 := SF.set HFi hiD W9
          refine Runs.back st9 ?_
          show Runs _ _ _ _ T9 (mkF m 85 #[.val (.ref r0), .val (.int ix), .val (.int q), .val (.ref lv), .val (.int dI), .val (.int iI), .val (.ref (A i2)), .val (.int jx)] [])
          have HL2 := ((HS9).2.2.2.1 i2 hiD).2
          refine Runs.back (fun t_ k_ => XS.aload X9.here hx rfl (hb hby d7_85) rfl rfl k_) ?_
          show Runs _ _ _ _ T9 (mkF m 87 #[.val (.ref r0), .val (.int ix), .val (.int q), .val (.ref lv), .val (.int dI), .val (.int iI), .val (.ref (A i2)), .val (.int jx)] [(.ref (A i2))])
          refine Runs.back (fun t_ k_ => XS.iload X9.here hx rfl (hb hby d7_87) rfl k_) ?_
          show Runs _ _ _ _ T9 (mkF m 89 #[.val (.ref r0), .val (.int ix), .val (.int q), .val (.ref lv), .val (.int dI), .val (.int iI), .val (.ref (A i2)), .val (.int jx)] [(.int jx), (.ref (A i2))])
          obtain ⟨cl10, Ar10, S10, Hs10⟩ := id HL2
          have at10 : cl10.slots[(jx).toNatClampNeg]? = some (.long (wd S' i2 (mn / 64 ^ (i2 + 1)))) := readO Hs10 cix.1 (show (mn / 64 ^ (i2 + 1)) < (sz i2) from (hsz i2 hiD)) (congrArg Value.long (if_pos ⟨rfl, rfl⟩))
          refine Runs.back (fun t_ k_ => X9.laload hx (j := jx) (v := (.long (wd S' i2 (mn / 64 ^ (i2 + 1))))) (by rw [e9]; exact Ar10.1) (State.isArrayOf_alike hZ.alike Ar10.2.1) Ar10.2.2 (by rw [S10]; exact (inbO cix.2 cix.1 (show (mn / 64 ^ (i2 + 1)) < (sz i2) from (hsz i2 hiD)))) at10 (g := (mkF m 89 #[.val (.ref r0), .val (.int ix), .val (.int q), .val (.ref lv), .val (.int dI), .val (.int iI), .val (.ref (A i2)), .val (.int jx)] [(.int jx), (.ref (A i2))])) rfl rfl (hb hby d7_89) _ k_) ?_
          clear at10 Hs10 S10 Ar10
          show Runs _ _ _ _ T9 (mkF m 90 #[.val (.ref r0), .val (.int ix), .val (.int q), .val (.ref lv), .val (.int dI), .val (.int iI), .val (.ref (A i2)), .val (.int jx)] [(.long (wd S' i2 (mn / 64 ^ (i2 + 1))))])
          refine Runs.back (fun t_ k_ => XS.lconst X9.here hx rfl (hb hby d7_90) k_) ?_
          show Runs _ _ _ _ T9 (mkF m 91 #[.val (.ref r0), .val (.int ix), .val (.int q), .val (.ref lv), .val (.int dI), .val (.int iI), .val (.ref (A i2)), .val (.int jx)] [(.long (0 : Int64)), (.long (wd S' i2 (mn / 64 ^ (i2 + 1))))])
          refine Runs.back (fun t_ k_ => XS.lcmp X9.here hx rfl (hb hby d7_91) rfl k_) ?_
          show Runs _ _ _ _ T9 (mkF m 92 #[.val (.ref r0), .val (.int ix), .val (.int q), .val (.ref lv), .val (.int dI), .val (.int iI), .val (.ref (A i2)), .val (.int jx)] [(.int (lcmpW (wd S' i2 (mn / 64 ^ (i2 + 1))) (0 : Int64)))])
          by_cases c92_11 : (wd S' i2 (mn / 64 ^ (i2 + 1))) = (0 : Int64)
          · refine Runs.back (fun t_ k_ => XS.ifYes X9.here hx rfl (pc0 := 92) (pc' := 97) rfl (hb hby d7_92) rfl ((if0 _ _).trans (teq (lcE c92_11)).1) (by decide) (by decide) k_) ?_
            show Runs _ _ _ _ T9 (mkF m 97 #[.val (.ref r0), .val (.int ix), .val (.int q), .val (.ref lv), .val (.int dI), .val (.int iI), .val (.ref (A i2)), .val (.int jx)] [])
            refine Runs.back (fun t_ k_ => XS.iload X9.here hx rfl (hb hby d7_97) rfl k_) ?_
            show Runs _ _ _ _ T9 (mkF m 99 #[.val (.ref r0), .val (.int ix), .val (.int q), .val (.ref lv), .val (.int dI), .val (.int iI), .val (.ref (A i2)), .val (.int jx)] [(.int jx)])
            refine Runs.back (fun t_ k_ => XS.istoreN X9.here hx rfl (hb hby d7_99) rfl (l' := #[.val (.ref r0), .val (.int ix), .val (.int jx), .val (.ref lv), .val (.int dI), .val (.int iI), .val (.ref (A i2)), .val (.int jx)]) rfl k_) ?_
            show Runs _ _ _ _ T9 (mkF m 100 #[.val (.ref r0), .val (.int ix), .val (.int jx), .val (.ref lv), .val (.int dI), .val (.int iI), .val (.ref (A i2)), .val (.int jx)] [])
            refine Runs.back (fun t_ k_ => XS.iinc X9.here hx rfl (hb hby d7_100) rfl (l' := #[.val (.ref r0), .val (.int ix), .val (.int jx), .val (.ref lv), .val (.int dI), .val (.int (iI + (1 : Int32))), .val (.ref (A i2)), .val (.int jx)]) rfl k_) ?_
            show Runs _ _ _ _ T9 (mkF m 103 #[.val (.ref r0), .val (.int ix), .val (.int jx), .val (.ref lv), .val (.int dI), .val (.int (iI + (1 : Int32))), .val (.ref (A i2)), .val (.int jx)] [])
            have hi2 : (iI + (1 : Int32)).toInt = ((i2 + 1 : Nat) : Int) := by rw [add32 (by rw [o32]; omega) (by rw [o32]; omega), o32]; omega
            refine Runs.back (fun t_ k_ => XS.goto X9.here hx rfl (pc0 := 103) (pc' := 51) rfl (hb hby d7_103) (by decide) (by decide) k_) ?_
            show Runs _ _ _ _ T9 (mkF m 51 #[.val (.ref r0), .val (.int ix), .val (.int jx), .val (.ref lv), .val (.int dI), .val (.int (iI + (1 : Int32))), .val (.ref (A i2)), .val (.int jx)] [])
            exact ih (k2 - 1) (by omega) ((A i2), jx, jx, (iI + (1 : Int32)), i2 + 1) _ ⟨_, X9, N9, by omega, by omega, hix2, hi2, wd_zero.mp c92_11, by rw [e9]; exact SF.congr HS9 fun i' _ j' => remNext hS i' j'⟩
          · refine Runs.back (fun t_ k_ => XS.ifNo X9.here hx rfl (hb hby d7_92) rfl ((if0 _ _).trans (feq (lcN c92_11)).1) k_) ?_
            show Runs _ _ _ _ T9 (mkF m 95 #[.val (.ref r0), .val (.int ix), .val (.int q), .val (.ref lv), .val (.int dI), .val (.int iI), .val (.ref (A i2)), .val (.int jx)] [])
            refine Runs.back (fun t_ k_ => XS.iloadN X9.here hx rfl (hb hby d7_95) rfl k_) ?_
            show Runs _ _ _ _ T9 (mkF m 96 #[.val (.ref r0), .val (.int ix), .val (.int q), .val (.ref lv), .val (.int dI), .val (.int iI), .val (.ref (A i2)), .val (.int jx)] [(.int ix)])
            obtain ⟨fs, hr, hrun, hended, hW, hsame⟩ := X9.leave (v := some (.int ix)) (fun h => by rw [Bd.returns] at h; cases h)
            exact ⟨_, _, (retI X9 hx Bd.returns (hb hby d7_96) hr), hrun, hended, _, _, rfl, (by show Q7 Z r0 lv A sz D dI S S' mn h0 n0 _ T9.heap _; rw [e9]; exact ⟨_, rfl, N9, hmI, SF.congr HS9 fun i' _ j' => remEnd hS c92_11 i' j'⟩), ⟨_, rfl⟩, hW, hsame.mono (by decide) (by decide)⟩
        · refine Runs.back (fun t_ k_ => XS.icmpYes X2.here hx rfl (pc0 := 55) (pc' := 106) rfl (hb hby d7_55) rfl (flt c55_6).2.1 (by decide) (by decide) k_) ?_
          show Runs _ _ _ _ T2 (mkF m 106 #[.val (.ref r0), .val (.int ix), .val (.int q), .val (.ref lv), .val (.int dI), .val (.int iI), .val (.ref x6), .val (.int x7)] [])
          refine Runs.back (fun t_ k_ => XS.iloadN X2.here hx rfl (hb hby d7_106) rfl k_) ?_
          show Runs _ _ _ _ T2 (mkF m 107 #[.val (.ref r0), .val (.int ix), .val (.int q), .val (.ref lv), .val (.int dI), .val (.int iI), .val (.ref x6), .val (.int x7)] [(.int ix)])
          obtain ⟨fs, hr, hrun, hended, hW, hsame⟩ := X2.leave (v := some (.int ix)) (fun h => by rw [Bd.returns] at h; cases h)
          exact ⟨_, _, (retI X2 hx Bd.returns (hb hby d7_107) hr), hrun, hended, _, _, rfl, (by show Q7 Z r0 lv A sz D dI S S' mn h0 n0 _ T2.heap _; exact ⟨_, rfl, N2, hmI, SF.congr HFi fun i' hi' j' => if_pos (by have z := c55_6; rw [lti] at z; omega)⟩), ⟨_, rfl⟩, hW, hsame.mono (by decide) (by decide)⟩
      · intro J
        have ci0 := clampI (q := (0 : Int32)) (x := 0) (by decide)
        have hiI : (0 : Int32).toInt = ((0 : Nat) : Int) := by decide
        have hn0 : ∀ u ∈ S', u / 64 ^ 0 ≠ mn / 64 ^ 0 := fun u hu q => ((hS u).mp hu).2 (by rw [Nat.pow_zero, Nat.div_one, Nat.div_one] at q; exact q)
        clear H1 H2 HA H4 H5 H6
        obtain ⟨H1, H2, HA, H4, H5, H6⟩ := id HG
        show Runs _ _ _ _ T4 (mkF m 51 #[.val (.ref r0), .val (.int ix), .val (.int ix), .val (.ref lv), .val (.int dI), .val (.int (0 : Int32)), .unset, .unset] [])
        refine Runs.back (fun t_ k_ => XS.iload X4.here hx rfl (hb hby d7_51) rfl k_) ?_
        show Runs _ _ _ _ T4 (mkF m 53 #[.val (.ref r0), .val (.int ix), .val (.int ix), .val (.ref lv), .val (.int dI), .val (.int (0 : Int32)), .unset, .unset] [(.int (0 : Int32))])
        refine Runs.back (fun t_ k_ => XS.iload X4.here hx rfl (hb hby d7_53) rfl k_) ?_
        show Runs _ _ _ _ T4 (mkF m 55 #[.val (.ref r0), .val (.int ix), .val (.int ix), .val (.ref lv), .val (.int dI), .val (.int (0 : Int32)), .unset, .unset] [(.int dI), (.int (0 : Int32))])
        refine Runs.back (fun t_ k_ => XS.icmpNo X4.here hx rfl (hb hby d7_55) rfl (tlt (show (0 : Int32) < dI from (by rw [lti, z32]; omega))).2.1 k_) ?_
        show Runs _ _ _ _ T4 (mkF m 58 #[.val (.ref r0), .val (.int ix), .val (.int ix), .val (.ref lv), .val (.int dI), .val (.int (0 : Int32)), .unset, .unset] [])
        have hiD : 0 < D := by omega
        refine Runs.back (fun t_ k_ => XS.aloadN X4.here hx rfl (hb hby d7_58) rfl rfl k_) ?_
        show Runs _ _ _ _ T4 (mkF m 59 #[.val (.ref r0), .val (.int ix), .val (.int ix), .val (.ref lv), .val (.int dI), .val (.int (0 : Int32)), .unset, .unset] [(.ref lv)])
        refine Runs.back (fun t_ k_ => XS.iload X4.here hx rfl (hb hby d7_59) rfl k_) ?_
        show Runs _ _ _ _ T4 (mkF m 61 #[.val (.ref r0), .val (.int ix), .val (.int ix), .val (.ref lv), .val (.int dI), .val (.int (0 : Int32)), .unset, .unset] [(.int (0 : Int32)), (.ref lv)])
        obtain ⟨cl12, Ar12, S12, Hs12⟩ := id HA
        have at12 : cl12.slots[((0 : Int32)).toNatClampNeg]? = some (.ref (A 0)) := readO Hs12 (rfl : ((0 : Int32)).toNatClampNeg = 0) (show 0 < D from hiD) (rfl)
        refine Runs.back (fun t_ k_ => X4.aaload hx (j := (0 : Int32)) (v := (.ref (A 0))) (by rw [e4]; exact Ar12.1) (State.isArrayOf_alike hZ.alike Ar12.2.1) rfl Ar12.2.2 (by rw [S12]; exact (inbO (by decide : ¬ (0 : Int32) < 0) (rfl : ((0 : Int32)).toNatClampNeg = 0) (show 0 < D from hiD))) at12 (g := (mkF m 61 #[.val (.ref r0), .val (.int ix), .val (.int ix), .val (.ref lv), .val (.int dI), .val (.int (0 : Int32)), .unset, .unset] [(.int (0 : Int32)), (.ref lv)])) rfl rfl (hb hby d7_61) _ k_) ?_
        clear at12 Hs12 S12 Ar12
        show Runs _ _ _ _ T4 (mkF m 62 #[.val (.ref r0), .val (.int ix), .val (.int ix), .val (.ref lv), .val (.int dI), .val (.int (0 : Int32)), .unset, .unset] [(.ref (A 0))])
        have HL := (H4 0 hiD).2
        refine Runs.back (fun t_ k_ => XS.astore X4.here hx rfl (hb hby d7_62) rfl rfl (l' := #[.val (.ref r0), .val (.int ix), .val (.int ix), .val (.ref lv), .val (.int dI), .val (.int (0 : Int32)), .val (.ref (A 0)), .unset]) rfl k_) ?_
        show Runs _ _ _ _ T4 (mkF m 64 #[.val (.ref r0), .val (.int ix), .val (.int ix), .val (.ref lv), .val (.int dI), .val (.int (0 : Int32)), .val (.ref (A 0)), .unset] [])
        refine Runs.back (fun t_ k_ => XS.iloadN X4.here hx rfl (hb hby d7_64) rfl k_) ?_
        show Runs _ _ _ _ T4 (mkF m 65 #[.val (.ref r0), .val (.int ix), .val (.int ix), .val (.ref lv), .val (.int dI), .val (.int (0 : Int32)), .val (.ref (A 0)), .unset] [(.int ix)])
        refine Runs.back (fun t_ k_ => XS.bipush X4.here hx rfl (hb hby d7_65) k_) ?_
        show Runs _ _ _ _ T4 (mkF m 67 #[.val (.ref r0), .val (.int ix), .val (.int ix), .val (.ref lv), .val (.int dI), .val (.int (0 : Int32)), .val (.ref (A 0)), .unset] [(.int (6 : Int32)), (.int ix)])
        refine Runs.back (fun t_ k_ => XS.iushr X4.here hx rfl (hb hby d7_67) rfl k_) ?_
        show Runs _ _ _ _ T4 (mkF m 68 #[.val (.ref r0), .val (.int ix), .val (.int ix), .val (.ref lv), .val (.int dI), .val (.int (0 : Int32)), .val (.ref (A 0)), .unset] [(.int ((ix.toUInt32 >>> ((6 : Int32) &&& 31).toUInt32).toInt32))])
        have hix2 := div_up hix hm31
        generalize eix : ((ix.toUInt32 >>> ((6 : Int32) &&& 31).toUInt32).toInt32) = jx at hix2 ⊢
        show Runs _ _ _ _ T4 (mkF m 68 #[.val (.ref r0), .val (.int ix), .val (.int ix), .val (.ref lv), .val (.int dI), .val (.int (0 : Int32)), .val (.ref (A 0)), .unset] [(.int jx)])
        have cix := clampI hix2
        refine Runs.back (fun t_ k_ => XS.istore X4.here hx rfl (hb hby d7_68) rfl (l' := #[.val (.ref r0), .val (.int ix), .val (.int ix), .val (.ref lv), .val (.int dI), .val (.int (0 : Int32)), .val (.ref (A 0)), .val (.int jx)]) rfl k_) ?_
        show Runs _ _ _ _ T4 (mkF m 70 #[.val (.ref r0), .val (.int ix), .val (.int ix), .val (.ref lv), .val (.int dI), .val (.int (0 : Int32)), .val (.ref (A 0)), .val (.int jx)] [])
        refine Runs.back (fun t_ k_ => XS.aload X4.here hx rfl (hb hby d7_70) rfl rfl k_) ?_
        show Runs _ _ _ _ T4 (mkF m 72 #[.val (.ref r0), .val (.int ix), .val (.int ix), .val (.ref lv), .val (.int dI), .val (.int (0 : Int32)), .val (.ref (A 0)), .val (.int jx)] [(.ref (A 0))])
        refine Runs.back (fun t_ k_ => XS.iload X4.here hx rfl (hb hby d7_72) rfl k_) ?_
        show Runs _ _ _ _ T4 (mkF m 74 #[.val (.ref r0), .val (.int ix), .val (.int ix), .val (.ref lv), .val (.int dI), .val (.int (0 : Int32)), .val (.ref (A 0)), .val (.int jx)] [(.int jx), (.ref (A 0))])
        refine Runs.back (fun t_ k_ => Jvm.Free.XT.dup2 X4.here hx rfl (hb hby d7_74) rfl rfl rfl k_) ?_
        show Runs _ _ _ _ T4 (mkF m 75 #[.val (.ref r0), .val (.int ix), .val (.int ix), .val (.ref lv), .val (.int dI), .val (.int (0 : Int32)), .val (.ref (A 0)), .val (.int jx)] [(.int jx), (.ref (A 0)), (.int jx), (.ref (A 0))])
        obtain ⟨cl13, Ar13, S13, Hs13⟩ := id HL
        have at13 : cl13.slots[(jx).toNatClampNeg]? = some (.long (wd S 0 (mn / 64 ^ (0 + 1)))) := readO Hs13 cix.1 (show (mn / 64 ^ (0 + 1)) < (sz 0) from (hsz 0 hiD)) (congrArg Value.long (Gi_self _ _ _ _))
        refine Runs.back (fun t_ k_ => X4.laload hx (j := jx) (v := (.long (wd S 0 (mn / 64 ^ (0 + 1))))) (by rw [e4]; exact Ar13.1) (State.isArrayOf_alike hZ.alike Ar13.2.1) Ar13.2.2 (by rw [S13]; exact (inbO cix.2 cix.1 (show (mn / 64 ^ (0 + 1)) < (sz 0) from (hsz 0 hiD)))) at13 (g := (mkF m 75 #[.val (.ref r0), .val (.int ix), .val (.int ix), .val (.ref lv), .val (.int dI), .val (.int (0 : Int32)), .val (.ref (A 0)), .val (.int jx)] [(.int jx), (.ref (A 0)), (.int jx), (.ref (A 0))])) rfl rfl (hb hby d7_75) _ k_) ?_
        clear at13 Hs13 S13 Ar13
        show Runs _ _ _ _ T4 (mkF m 76 #[.val (.ref r0), .val (.int ix), .val (.int ix), .val (.ref lv), .val (.int dI), .val (.int (0 : Int32)), .val (.ref (A 0)), .val (.int jx)] [(.long (wd S 0 (mn / 64 ^ (0 + 1)))), (.int jx), (.ref (A 0))])
        refine Runs.back (fun t_ k_ => XS.lconst X4.here hx rfl (hb hby d7_76) k_) ?_
        show Runs _ _ _ _ T4 (mkF m 77 #[.val (.ref r0), .val (.int ix), .val (.int ix), .val (.ref lv), .val (.int dI), .val (.int (0 : Int32)), .val (.ref (A 0)), .val (.int jx)] [(.long (1 : Int64)), (.long (wd S 0 (mn / 64 ^ (0 + 1)))), (.int jx), (.ref (A 0))])
        refine Runs.back (fun t_ k_ => XS.iloadN X4.here hx rfl (hb hby d7_77) rfl k_) ?_
        show Runs _ _ _ _ T4 (mkF m 78 #[.val (.ref r0), .val (.int ix), .val (.int ix), .val (.ref lv), .val (.int dI), .val (.int (0 : Int32)), .val (.ref (A 0)), .val (.int jx)] [(.int ix), (.long (1 : Int64)), (.long (wd S 0 (mn / 64 ^ (0 + 1)))), (.int jx), (.ref (A 0))])
        refine Runs.back (fun t_ k_ => XS.lshl X4.here hx rfl (hb hby d7_78) rfl k_) ?_
        show Runs _ _ _ _ T4 (mkF m 79 #[.val (.ref r0), .val (.int ix), .val (.int ix), .val (.ref lv), .val (.int dI), .val (.int (0 : Int32)), .val (.ref (A 0)), .val (.int jx)] [(.long ((1 : Int64) <<< (ix &&& 0x3f).toInt64)), (.long (wd S 0 (mn / 64 ^ (0 + 1)))), (.int jx), (.ref (A 0))])
        refine Runs.back (X4.ldc2Long hx hown (mvT hZ (hw _ (List.mem_of_getElem? (i := 48) rfl))) (g := (mkF m 79 #[.val (.ref r0), .val (.int ix), .val (.int ix), .val (.ref lv), .val (.int dI), .val (.int (0 : Int32)), .val (.ref (A 0)), .val (.int jx)] [(.long ((1 : Int64) <<< (ix &&& 0x3f).toInt64)), (.long (wd S 0 (mn / 64 ^ (0 + 1)))), (.int jx), (.ref (A 0))])) rfl (hb hby d7_79)) ?_
        show Runs _ _ _ _ T4 (mkF m 82 #[.val (.ref r0), .val (.int ix), .val (.int ix), .val (.ref lv), .val (.int dI), .val (.int (0 : Int32)), .val (.ref (A 0)), .val (.int jx)] [(.long (-1 : Int64)), (.long ((1 : Int64) <<< (ix &&& 0x3f).toInt64)), (.long (wd S 0 (mn / 64 ^ (0 + 1)))), (.int jx), (.ref (A 0))])
        refine Runs.back (fun t_ k_ => XS.lxor X4.here hx rfl (hb hby d7_82) rfl k_) ?_
        show Runs _ _ _ _ T4 (mkF m 83 #[.val (.ref r0), .val (.int ix), .val (.int ix), .val (.ref lv), .val (.int dI), .val (.int (0 : Int32)), .val (.ref (A 0)), .val (.int jx)] [(.long (((1 : Int64) <<< (ix &&& 0x3f).toInt64) ^^^ (-1 : Int64))), (.long (wd S 0 (mn / 64 ^ (0 + 1)))), (.int jx), (.ref (A 0))])
        refine Runs.back (fun t_ k_ => XS.land X4.here hx rfl (hb hby d7_83) rfl k_) ?_
        show Runs _ _ _ _ T4 (mkF m 84 #[.val (.ref r0), .val (.int ix), .val (.int ix), .val (.ref lv), .val (.int dI), .val (.int (0 : Int32)), .val (.ref (A 0)), .val (.int jx)] [(.long ((wd S 0 (mn / 64 ^ (0 + 1))) &&& (((1 : Int64) <<< (ix &&& 0x3f).toInt64) ^^^ (-1 : Int64)))), (.int jx), (.ref (A 0))])
        obtain ⟨cl14, Ar14, S14, Hs14⟩ := id HL
        obtain ⟨T14, h14, X14, e14, W14, st14⟩ := stJ X4 hx hZ e4 Ar14 (j := jx) (by rw [S14]; exact inbO cix.2 cix.1 (hsz 0 hiD)) (g := (mkF m 84 #[.val (.ref r0), .val (.int ix), .val (.int ix), .val (.ref lv), .val (.int dI), .val (.int (0 : Int32)), .val (.ref (A 0)), .val (.int jx)] [(.long ((wd S 0 (mn / 64 ^ (0 + 1))) &&& (((1 : Int64) <<< (ix &&& 0x3f).toInt64) ^^^ (-1 : Int64)))), (.int jx), (.ref (A 0))])) rfl rfl (hb hby d7_84)
        have N14 := Fr.snoc X14 N1 (H4 0 hiD).1
        obtain ⟨L14, X14, N14⟩ := hideL X14 N14
        rw [cix.1, rem_hit hix hS hn0] at W14
        have HS14 := SF.set HG hiD W14
        refine Runs.back st14 ?_
        show Runs _ _ _ _ T14 (mkF m 85 #[.val (.ref r0), .val (.int ix), .val (.int ix), .val (.ref lv), .val (.int dI), .val (.int (0 : Int32)), .val (.ref (A 0)), .val (.int jx)] [])
        have HL2 := ((HS14).2.2.2.1 0 hiD).2
        refine Runs.back (fun t_ k_ => XS.aload X14.here hx rfl (hb hby d7_85) rfl rfl k_) ?_
        show Runs _ _ _ _ T14 (mkF m 87 #[.val (.ref r0), .val (.int ix), .val (.int ix), .val (.ref lv), .val (.int dI), .val (.int (0 : Int32)), .val (.ref (A 0)), .val (.int jx)] [(.ref (A 0))])
        refine Runs.back (fun t_ k_ => XS.iload X14.here hx rfl (hb hby d7_87) rfl k_) ?_
        show Runs _ _ _ _ T14 (mkF m 89 #[.val (.ref r0), .val (.int ix), .val (.int ix), .val (.ref lv), .val (.int dI), .val (.int (0 : Int32)), .val (.ref (A 0)), .val (.int jx)] [(.int jx), (.ref (A 0))])
        obtain ⟨cl15, Ar15, S15, Hs15⟩ := id HL2
        have at15 : cl15.slots[(jx).toNatClampNeg]? = some (.long (wd S' 0 (mn / 64 ^ (0 + 1)))) := readO Hs15 cix.1 (show (mn / 64 ^ (0 + 1)) < (sz 0) from (hsz 0 hiD)) (congrArg Value.long (if_pos ⟨rfl, rfl⟩))
        refine Runs.back (fun t_ k_ => X14.laload hx (j := jx) (v := (.long (wd S' 0 (mn / 64 ^ (0 + 1))))) (by rw [e14]; exact Ar15.1) (State.isArrayOf_alike hZ.alike Ar15.2.1) Ar15.2.2 (by rw [S15]; exact (inbO cix.2 cix.1 (show (mn / 64 ^ (0 + 1)) < (sz 0) from (hsz 0 hiD)))) at15 (g := (mkF m 89 #[.val (.ref r0), .val (.int ix), .val (.int ix), .val (.ref lv), .val (.int dI), .val (.int (0 : Int32)), .val (.ref (A 0)), .val (.int jx)] [(.int jx), (.ref (A 0))])) rfl rfl (hb hby d7_89) _ k_) ?_
        clear at15 Hs15 S15 Ar15
        show Runs _ _ _ _ T14 (mkF m 90 #[.val (.ref r0), .val (.int ix), .val (.int ix), .val (.ref lv), .val (.int dI), .val (.int (0 : Int32)), .val (.ref (A 0)), .val (.int jx)] [(.long (wd S' 0 (mn / 64 ^ (0 + 1))))])
        refine Runs.back (fun t_ k_ => XS.lconst X14.here hx rfl (hb hby d7_90) k_) ?_
        show Runs _ _ _ _ T14 (mkF m 91 #[.val (.ref r0), .val (.int ix), .val (.int ix), .val (.ref lv), .val (.int dI), .val (.int (0 : Int32)), .val (.ref (A 0)), .val (.int jx)] [(.long (0 : Int64)), (.long (wd S' 0 (mn / 64 ^ (0 + 1))))])
        refine Runs.back (fun t_ k_ => XS.lcmp X14.here hx rfl (hb hby d7_91) rfl k_) ?_
        show Runs _ _ _ _ T14 (mkF m 92 #[.val (.ref r0), .val (.int ix), .val (.int ix), .val (.ref lv), .val (.int dI), .val (.int (0 : Int32)), .val (.ref (A 0)), .val (.int jx)] [(.int (lcmpW (wd S' 0 (mn / 64 ^ (0 + 1))) (0 : Int64)))])
        by_cases c92_16 : (wd S' 0 (mn / 64 ^ (0 + 1))) = (0 : Int64)
        · refine Runs.back (fun t_ k_ => XS.ifYes X14.here hx rfl (pc0 := 92) (pc' := 97) rfl (hb hby d7_92) rfl ((if0 _ _).trans (teq (lcE c92_16)).1) (by decide) (by decide) k_) ?_
          show Runs _ _ _ _ T14 (mkF m 97 #[.val (.ref r0), .val (.int ix), .val (.int ix), .val (.ref lv), .val (.int dI), .val (.int (0 : Int32)), .val (.ref (A 0)), .val (.int jx)] [])
          refine Runs.back (fun t_ k_ => XS.iload X14.here hx rfl (hb hby d7_97) rfl k_) ?_
          show Runs _ _ _ _ T14 (mkF m 99 #[.val (.ref r0), .val (.int ix), .val (.int ix), .val (.ref lv), .val (.int dI), .val (.int (0 : Int32)), .val (.ref (A 0)), .val (.int jx)] [(.int jx)])
          refine Runs.back (fun t_ k_ => XS.istoreN X14.here hx rfl (hb hby d7_99) rfl (l' := #[.val (.ref r0), .val (.int ix), .val (.int jx), .val (.ref lv), .val (.int dI), .val (.int (0 : Int32)), .val (.ref (A 0)), .val (.int jx)]) rfl k_) ?_
          show Runs _ _ _ _ T14 (mkF m 100 #[.val (.ref r0), .val (.int ix), .val (.int jx), .val (.ref lv), .val (.int dI), .val (.int (0 : Int32)), .val (.ref (A 0)), .val (.int jx)] [])
          refine Runs.back (fun t_ k_ => XS.iinc X14.here hx rfl (hb hby d7_100) rfl (l' := #[.val (.ref r0), .val (.int ix), .val (.int jx), .val (.ref lv), .val (.int dI), .val (.int ((0 : Int32) + (1 : Int32))), .val (.ref (A 0)), .val (.int jx)]) rfl k_) ?_
          show Runs _ _ _ _ T14 (mkF m 103 #[.val (.ref r0), .val (.int ix), .val (.int jx), .val (.ref lv), .val (.int dI), .val (.int ((0 : Int32) + (1 : Int32))), .val (.ref (A 0)), .val (.int jx)] [])
          have hi2 : ((0 : Int32) + (1 : Int32)).toInt = ((0 + 1 : Nat) : Int) := by rw [add32 (by rw [o32]; omega) (by rw [o32]; omega), o32]; omega
          refine Runs.back (fun t_ k_ => XS.goto X14.here hx rfl (pc0 := 103) (pc' := 51) rfl (hb hby d7_103) (by decide) (by decide) k_) ?_
          show Runs _ _ _ _ T14 (mkF m 51 #[.val (.ref r0), .val (.int ix), .val (.int jx), .val (.ref lv), .val (.int dI), .val (.int ((0 : Int32) + (1 : Int32))), .val (.ref (A 0)), .val (.int jx)] [])
          exact J (D - 1) ((A 0), jx, jx, ((0 : Int32) + (1 : Int32)), 0 + 1) _ ⟨_, X14, N14, by omega, by omega, hix2, hi2, wd_zero.mp c92_16, by rw [e14]; exact SF.congr HS14 fun i' _ j' => remNext hS i' j'⟩
        · refine Runs.back (fun t_ k_ => XS.ifNo X14.here hx rfl (hb hby d7_92) rfl ((if0 _ _).trans (feq (lcN c92_16)).1) k_) ?_
          show Runs _ _ _ _ T14 (mkF m 95 #[.val (.ref r0), .val (.int ix), .val (.int ix), .val (.ref lv), .val (.int dI), .val (.int (0 : Int32)), .val (.ref (A 0)), .val (.int jx)] [])
          refine Runs.back (fun t_ k_ => XS.iloadN X14.here hx rfl (hb hby d7_95) rfl k_) ?_
          show Runs _ _ _ _ T14 (mkF m 96 #[.val (.ref r0), .val (.int ix), .val (.int ix), .val (.ref lv), .val (.int dI), .val (.int (0 : Int32)), .val (.ref (A 0)), .val (.int jx)] [(.int ix)])
          obtain ⟨fs, hr, hrun, hended, hW, hsame⟩ := X14.leave (v := some (.int ix)) (fun h => by rw [Bd.returns] at h; cases h)
          exact ⟨_, _, (retI X14 hx Bd.returns (hb hby d7_96) hr), hrun, hended, _, _, rfl, (by show Q7 Z r0 lv A sz D dI S S' mn h0 n0 _ T14.heap _; rw [e14]; exact ⟨_, rfl, N14, hmI, SF.congr HS14 fun i' _ j' => remEnd hS c92_16 i' j'⟩), ⟨_, rfl⟩, hW, hsame.mono (by decide) (by decide)⟩
    · refine Runs.back (fun t_ k_ => XS.ifNo X1.here hx rfl (hb hby d7_11) rfl ((if0 _ _).trans (flt c11_3).1) k_) ?_
      show Runs _ _ _ _ T1 (mkF m 14 #[.val (.ref r0), .val (.int ix), .val (.int lI), .unset, .unset, .unset, .unset, .unset] [])
      obtain ⟨a, rfl⟩ : ∃ a, i = a + 1 := ⟨i - 1, by have z := c11_3; clear hix; rw [lti, z32] at z; omega⟩
      have hlA : lI.toInt = (a : Int) := by clear hix; omega
      have hak : a < k := by clear hix hlA hlI; omega
      have haD : a < D := hiD
      have ci := clampI hlA
      have cix := clampI hix
      have HL := (H4 a haD).2
      refine Runs.back (fun t_ k_ => XS.iloadN X1.here hx rfl (hb hby d7_14) rfl k_) ?_
      show Runs _ _ _ _ T1 (mkF m 15 #[.val (.ref r0), .val (.int ix), .val (.int lI), .unset, .unset, .unset, .unset, .unset] [(.int ix)])
      refine Runs.back (fun t_ k_ => XS.bipush X1.here hx rfl (hb hby d7_15) k_) ?_
      show Runs _ _ _ _ T1 (mkF m 17 #[.val (.ref r0), .val (.int ix), .val (.int lI), .unset, .unset, .unset, .unset, .unset] [(.int (6 : Int32)), (.int ix)])
      refine Runs.back (fun t_ k_ => XS.ishl X1.here hx rfl (hb hby d7_17) rfl k_) ?_
      show Runs _ _ _ _ T1 (mkF m 18 #[.val (.ref r0), .val (.int ix), .val (.int lI), .unset, .unset, .unset, .unset, .unset] [(.int (ix <<< ((6 : Int32) &&& 31)))])
      refine Runs.back (fun t_ k_ => XS.aloadN X1.here hx rfl (hb hby d7_18) rfl rfl k_) ?_
      show Runs _ _ _ _ T1 (mkF m 19 #[.val (.ref r0), .val (.int ix), .val (.int lI), .unset, .unset, .unset, .unset, .unset] [(.ref r0), (.int (ix <<< ((6 : Int32) &&& 31)))])
      obtain ⟨T17, X17, e17, st17⟩ := getF X1 hx hZ hown (host := "") (Or.inl (hw _ (List.mem_of_getElem? (i := 17) rfl))) Via.refl e1 H2 (g := (mkF m 19 #[.val (.ref r0), .val (.int ix), .val (.int lI), .unset, .unset, .unset, .unset, .unset] [(.ref r0), (.int (ix <<< ((6 : Int32) &&& 31)))])) rfl rfl (hb hby d7_19)
      refine Runs.back st17 ?_
      show Runs _ _ _ _ T17 (mkF m 22 #[.val (.ref r0), .val (.int ix), .val (.int lI), .unset, .unset, .unset, .unset, .unset] [(.ref lv), (.int (ix <<< ((6 : Int32) &&& 31)))])
      refine Runs.back (fun t_ k_ => XS.iloadN X17.here hx rfl (hb hby d7_22) rfl k_) ?_
      show Runs _ _ _ _ T17 (mkF m 23 #[.val (.ref r0), .val (.int ix), .val (.int lI), .unset, .unset, .unset, .unset, .unset] [(.int lI), (.ref lv), (.int (ix <<< ((6 : Int32) &&& 31)))])
      obtain ⟨cl18, Ar18, S18, Hs18⟩ := id HA
      have at18 : cl18.slots[(lI).toNatClampNeg]? = some (.ref (A a)) := readO Hs18 ci.1 (show a < D from haD) (rfl)
      refine Runs.back (fun t_ k_ => X17.aaload hx (j := lI) (v := (.ref (A a))) (by rw [e17]; exact Ar18.1) (State.isArrayOf_alike hZ.alike Ar18.2.1) rfl Ar18.2.2 (by rw [S18]; exact (inbO ci.2 ci.1 (show a < D from haD))) at18 (g := (mkF m 23 #[.val (.ref r0), .val (.int ix), .val (.int lI), .unset, .unset, .unset, .unset, .unset] [(.int lI), (.ref lv), (.int (ix <<< ((6 : Int32) &&& 31)))])) rfl rfl (hb hby d7_23) _ k_) ?_
      clear at18 Hs18 S18 Ar18
      show Runs _ _ _ _ T17 (mkF m 24 #[.val (.ref r0), .val (.int ix), .val (.int lI), .unset, .unset, .unset, .unset, .unset] [(.ref (A a)), (.int (ix <<< ((6 : Int32) &&& 31)))])
      refine Runs.back (fun t_ k_ => XS.iloadN X17.here hx rfl (hb hby d7_24) rfl k_) ?_
      show Runs _ _ _ _ T17 (mkF m 25 #[.val (.ref r0), .val (.int ix), .val (.int lI), .unset, .unset, .unset, .unset, .unset] [(.int ix), (.ref (A a)), (.int (ix <<< ((6 : Int32) &&& 31)))])
      obtain ⟨cl19, Ar19, S19, Hs19⟩ := id HL
      have at19 : cl19.slots[(ix).toNatClampNeg]? = some (.long (wd S a (mn / 64 ^ (a + 1)))) := readO Hs19 cix.1 (show (mn / 64 ^ (a + 1)) < (sz a) from (hsz a haD)) (rfl)
      refine Runs.back (fun t_ k_ => X17.laload hx (j := ix) (v := (.long (wd S a (mn / 64 ^ (a + 1))))) (by rw [e17]; exact Ar19.1) (State.isArrayOf_alike hZ.alike Ar19.2.1) Ar19.2.2 (by rw [S19]; exact (inbO cix.2 cix.1 (show (mn / 64 ^ (a + 1)) < (sz a) from (hsz a haD)))) at19 (g := (mkF m 25 #[.val (.ref r0), .val (.int ix), .val (.int lI), .unset, .unset, .unset, .unset, .unset] [(.int ix), (.ref (A a)), (.int (ix <<< ((6 : Int32) &&& 31)))])) rfl rfl (hb hby d7_25) _ k_) ?_
      clear at19 Hs19 S19 Ar19
      show Runs _ _ _ _ T17 (mkF m 26 #[.val (.ref r0), .val (.int ix), .val (.int lI), .unset, .unset, .unset, .unset, .unset] [(.long (wd S a (mn / 64 ^ (a + 1)))), (.int (ix <<< ((6 : Int32) &&& 31)))])
      obtain ⟨_, _, ⟨T20, L20, k20, n20⟩, -, X20, ⟨Lc20, hQ20, l20, y20, z20⟩, st20⟩ := Jvm.LawKit.callS X17 hx (y := (⟨"java/lang/Long", "numberOfTrailingZeros", "(J)I"⟩ : MethodName)) hown (mvT hZ (hw _ (List.mem_of_getElem? (i := 40) rfl))) (mvT hZ (hw _ (List.mem_of_getElem? (i := 41) rfl))) (mvT hZ (hw _ (List.mem_of_getElem? (i := 42) rfl))) (mvT hZ (hw _ (List.mem_of_getElem? (i := 43) rfl))) (by decide) (backOf (W := 1) (rm8 l Z a0 hw [] (wd S a (mn / 64 ^ (a + 1))) h0 n0 (Z0)) hZ (hw _ (List.mem_of_getElem? (i := 43) rfl)) (hw _ (List.mem_of_getElem? (i := 42) rfl)) (by decide) (by decide)) (g := (mkF m 26 #[.val (.ref r0), .val (.int ix), .val (.int lI), .unset, .unset, .unset, .unset, .unset] [(.long (wd S a (mn / 64 ^ (a + 1)))), (.int (ix <<< ((6 : Int32) &&& 31)))])) rfl (by rw [hml]; rfl) (argsL := [(.long (wd S a (mn / 64 ^ (a + 1))))]) (rest := [(.int (ix <<< ((6 : Int32) &&& 31)))]) (lenOf pd7_0 rfl) rfl (by show 2 * 0 + _ ≤ _; exact Nat.le_of_eq rfl) (hb hby d7_26) (fun _ _ => ⟨rfl, e17, (by decide : 0 + 0 ≤ _), (by decide : 0 + 0 ≤ _)⟩)
      dsimp only [Pt.U, Pt.locs, Pt.cells, Pt.slots] at X20 l20 y20 z20 st20 hQ20
      obtain rfl : k20 = 0 := y20
      obtain rfl : n20 = 0 := z20
      obtain ⟨rfl, N20q, eq20⟩ := hQ20
      have N20 : Fr n0 L20 := by rw [l20]; exact Fr.app N1 N20q
      clear l20
      refine Runs.back st20 ?_
      show Runs _ _ _ _ T20 (mkF m 29 #[.val (.ref r0), .val (.int ix), .val (.int lI), .unset, .unset, .unset, .unset, .unset] [(.int (ntzL (wd S a (mn / 64 ^ (a + 1))))), (.int (ix <<< ((6 : Int32) &&& 31)))])
      rw [ntz_wd hm hmin]
      show Runs _ _ _ _ T20 (mkF m 29 #[.val (.ref r0), .val (.int ix), .val (.int lI), .unset, .unset, .unset, .unset, .unset] [(.int (Int32.ofNat (mn / 64 ^ a % 64))), (.int (ix <<< ((6 : Int32) &&& 31)))])
      refine Runs.back (fun t_ k_ => XS.iadd X20.here hx rfl (hb hby d7_29) rfl k_) ?_
      show Runs _ _ _ _ T20 (mkF m 30 #[.val (.ref r0), .val (.int ix), .val (.int lI), .unset, .unset, .unset, .unset, .unset] [(.int ((ix <<< ((6 : Int32) &&& 31)) + (Int32.ofNat (mn / 64 ^ a % 64))))])
      refine Runs.back (fun t_ k_ => XS.istoreN X20.here hx rfl (hb hby d7_30) rfl (l' := #[.val (.ref r0), .val (.int ((ix <<< ((6 : Int32) &&& 31)) + (Int32.ofNat (mn / 64 ^ a % 64)))), .val (.int lI), .unset, .unset, .unset, .unset, .unset]) rfl k_) ?_
      show Runs _ _ _ _ T20 (mkF m 31 #[.val (.ref r0), .val (.int ((ix <<< ((6 : Int32) &&& 31)) + (Int32.ofNat (mn / 64 ^ a % 64)))), .val (.int lI), .unset, .unset, .unset, .unset, .unset] [])
      refine Runs.back (fun t_ k_ => XS.iinc X20.here hx rfl (hb hby d7_31) rfl (l' := #[.val (.ref r0), .val (.int ((ix <<< ((6 : Int32) &&& 31)) + (Int32.ofNat (mn / 64 ^ a % 64)))), .val (.int (lI + (-1 : Int32))), .unset, .unset, .unset, .unset, .unset]) rfl k_) ?_
      show Runs _ _ _ _ T20 (mkF m 34 #[.val (.ref r0), .val (.int ((ix <<< ((6 : Int32) &&& 31)) + (Int32.ofNat (mn / 64 ^ a % 64)))), .val (.int (lI + (-1 : Int32))), .unset, .unset, .unset, .unset, .unset] [])
      have hl2 : (lI + (-1 : Int32)).toInt = (a : Int) - 1 := by clear hix cix; rw [add32 (by rw [show (-1 : Int32).toInt = -1 from by decide]; omega) (by rw [show (-1 : Int32).toInt = -1 from by decide]; omega), show (-1 : Int32).toInt = -1 from by decide]; omega
      refine Runs.back (fun t_ k_ => XS.goto X20.here hx rfl (pc0 := 34) (pc' := 10) rfl (hb hby d7_34) (by decide) (by decide) k_) ?_
      show Runs _ _ _ _ T20 (mkF m 10 #[.val (.ref r0), .val (.int ((ix <<< ((6 : Int32) &&& 31)) + (Int32.ofNat (mn / 64 ^ a % 64)))), .val (.int (lI + (-1 : Int32))), .unset, .unset, .unset, .unset, .unset] [])
      exact ih a hak (((ix <<< ((6 : Int32) &&& 31)) + (Int32.ofNat (mn / 64 ^ a % 64))), (lI + (-1 : Int32)), a) _ ⟨_, X20, N20, eq20, rfl, Nat.le_of_lt haD, hl2, idx_dn hix hm31⟩
  · intro J
    exact J D ((0 : Int32), (dI - (1 : Int32)), D) _ ⟨_, X1, N0, e1, rfl, Nat.le_refl _, hd1, by rw [htop]; decide⟩
theorem d1_0 : decode prog_42_method_1_code 0 = .ok (.aload_n 0, 1) := by decide +kernel
theorem d1_1 : decode prog_42_method_1_code 1 = .ok (.invokespecial 1, 3) := by decide +kernel
theorem d1_4 : decode prog_42_method_1_code 4 = .ok (.iconst 1, 1) := by decide +kernel
theorem d1_5 : decode prog_42_method_1_code 5 = .ok (.iload_n 1, 1) := by decide +kernel
theorem d1_6 : decode prog_42_method_1_code 6 = .ok (.bipush 63, 2) := by decide +kernel
theorem d1_8 : decode prog_42_method_1_code 8 = .ok (.iadd, 1) := by decide +kernel
theorem d1_9 : decode prog_42_method_1_code 9 = .ok (.bipush 6, 2) := by decide +kernel
theorem d1_11 : decode prog_42_method_1_code 11 = .ok (.iushr, 1) := by decide +kernel
theorem d1_12 : decode prog_42_method_1_code 12 = .ok (.invokestatic 7, 3) := by decide +kernel
theorem d1_15 : decode prog_42_method_1_code 15 = .ok (.istore_n 2, 1) := by decide +kernel
theorem d1_16 : decode prog_42_method_1_code 16 = .ok (.iconst 1, 1) := by decide +kernel
theorem d1_17 : decode prog_42_method_1_code 17 = .ok (.istore_n 3, 1) := by decide +kernel
theorem d1_18 : decode prog_42_method_1_code 18 = .ok (.iload_n 2, 1) := by decide +kernel
theorem d1_19 : decode prog_42_method_1_code 19 = .ok (.istore 4, 2) := by decide +kernel
theorem d1_21 : decode prog_42_method_1_code 21 = .ok (.iload 4, 2) := by decide +kernel
theorem d1_23 : decode prog_42_method_1_code 23 = .ok (.iconst 1, 1) := by decide +kernel
theorem d1_24 : decode prog_42_method_1_code 24 = .ok (.if_icmp .le 19, 3) := by decide +kernel
theorem d1_27 : decode prog_42_method_1_code 27 = .ok (.iinc 3 1, 3) := by decide +kernel
theorem d1_30 : decode prog_42_method_1_code 30 = .ok (.iload 4, 2) := by decide +kernel
theorem d1_32 : decode prog_42_method_1_code 32 = .ok (.bipush 63, 2) := by decide +kernel
theorem d1_34 : decode prog_42_method_1_code 34 = .ok (.iadd, 1) := by decide +kernel
theorem d1_35 : decode prog_42_method_1_code 35 = .ok (.bipush 6, 2) := by decide +kernel
theorem d1_37 : decode prog_42_method_1_code 37 = .ok (.iushr, 1) := by decide +kernel
theorem d1_38 : decode prog_42_method_1_code 38 = .ok (.istore 4, 2) := by decide +kernel
theorem d1_40 : decode prog_42_method_1_code 40 = .ok (.goto (-19), 3) := by decide +kernel
theorem d1_43 : decode prog_42_method_1_code 43 = .ok (.aload_n 0, 1) := by decide +kernel
theorem d1_44 : decode prog_42_method_1_code 44 = .ok (.iload_n 3, 1) := by decide +kernel
theorem d1_45 : decode prog_42_method_1_code 45 = .ok (.anewarray 13, 3) := by decide +kernel
theorem d1_48 : decode prog_42_method_1_code 48 = .ok (.putfield 15, 3) := by decide +kernel
theorem d1_51 : decode prog_42_method_1_code 51 = .ok (.iconst 0, 1) := by decide +kernel
theorem d1_52 : decode prog_42_method_1_code 52 = .ok (.istore 4, 2) := by decide +kernel
theorem d1_54 : decode prog_42_method_1_code 54 = .ok (.iload 4, 2) := by decide +kernel
theorem d1_56 : decode prog_42_method_1_code 56 = .ok (.iload_n 3, 1) := by decide +kernel
theorem d1_57 : decode prog_42_method_1_code 57 = .ok (.if_icmp .ge 27, 3) := by decide +kernel
theorem d1_60 : decode prog_42_method_1_code 60 = .ok (.aload_n 0, 1) := by decide +kernel
theorem d1_61 : decode prog_42_method_1_code 61 = .ok (.getfield 15, 3) := by decide +kernel
theorem d1_64 : decode prog_42_method_1_code 64 = .ok (.iload 4, 2) := by decide +kernel
theorem d1_66 : decode prog_42_method_1_code 66 = .ok (.iload_n 2, 1) := by decide +kernel
theorem d1_67 : decode prog_42_method_1_code 67 = .ok (.newarray .long, 2) := by decide +kernel
theorem d1_69 : decode prog_42_method_1_code 69 = .ok (.aastore, 1) := by decide +kernel
theorem d1_70 : decode prog_42_method_1_code 70 = .ok (.iload_n 2, 1) := by decide +kernel
theorem d1_71 : decode prog_42_method_1_code 71 = .ok (.bipush 63, 2) := by decide +kernel
theorem d1_73 : decode prog_42_method_1_code 73 = .ok (.iadd, 1) := by decide +kernel
theorem d1_74 : decode prog_42_method_1_code 74 = .ok (.bipush 6, 2) := by decide +kernel
theorem d1_76 : decode prog_42_method_1_code 76 = .ok (.iushr, 1) := by decide +kernel
theorem d1_77 : decode prog_42_method_1_code 77 = .ok (.istore_n 2, 1) := by decide +kernel
theorem d1_78 : decode prog_42_method_1_code 78 = .ok (.iinc 4 1, 3) := by decide +kernel
theorem d1_81 : decode prog_42_method_1_code 81 = .ok (.goto (-27), 3) := by decide +kernel
theorem d1_84 : decode prog_42_method_1_code 84 = .ok (.return_, 1) := by decide +kernel
theorem pn_1d1 : plainName "com/example/tradewheel/tradewheel/SmallestFirst" = true := by first | (simp [plainName, overriddenIn]; done) | decide +kernel
theorem pd1d1_0 : parseMethodDescriptor "(II)I" = some ⟨[.int, .int], some .int⟩ := by decide +kernel
theorem ef_1d1 (m : MethodId) (r0 : Addr) (p1 : Int32) : entryFrame m #[(.ref r0), (.int p1)] 5 = mkF m 0 #[.val (.ref r0), .val (.int p1), .unset, .unset, .unset] [] := by first | (simp [entryFrame, mkF, argsToLocals, Value.category]; done) | rfl
def Q1d1 (Z : State) (r0 : Addr) (p1 : Int32) (v1 : Value) (nn : Nat) (h0 : Heap) (n0 : Nat) (v : Option Value) (h : Heap) (L : List Loc) : Prop := ∃ lv A, v = none ∧ Fr n0 L ∧ SF Z h n0 r0 lv A (szN nn) 1 (wd [])
set_option maxRecDepth 65536 in
set_option maxHeartbeats 40000000 in
theorem rm1d1 (l : Launch) (Z : State) (a0 : Array Value) (hw : ∀ d ∈ tables_1, d.before a0 Z = true) (ws : List Jvm.Cond) (r0 : Addr) (p1 : Int32) (v1 : Value) (nn : Nat) (h0 : Heap) (n0 : Nat) (Z0 : n0 ≤ h0.size) (E_r0 : Exa Z h0 r0 "com/example/tradewheel/tradewheel/SmallestFirst") (F1 : Fld Z h0 r0 "com/example/tradewheel/tradewheel/SmallestFirst" "levels" "[[J" v1) (g_r0 : n0 ≤ r0) (hn : p1.toInt = (nn : Int)) (hn1 : 1 ≤ nn ∧ nn ≤ 1048576) (hb0 : szN nn 0 ≤ 16384) (hb1 : szN nn 1 ≤ 256) (hb2 : szN nn 2 ≤ 4) (hb3 : szN nn 3 ≤ 1) (hgD : szN nn 0 = 1) :
    MetFree l (⟨"com/example/tradewheel/tradewheel/SmallestFirst", "<init>", "(I)V"⟩ : MethodName) (head1 (Jvm.Cond.code (⟨"com/example/tradewheel/tradewheel/SmallestFirst", "<init>", "(I)V"⟩ : MethodName) prog_42_method_1_code 5 none :: ws) ({ frames := 1, cells := 5, slots := 16650, locals := 13 } : Room)) (fun a U => a = #[(.ref r0), (.int p1)] ∧ Z.Warmed39 U.vm ∧ U.heap = h0) (fun _ _ _ _ _ => True) (fun _ U o U' => ∃ v L, o = .returned v ∧ Q1d1 Z r0 p1 v1 nn h0 n0 v U'.heap L ∧ FrameEnd U o U' L ({ frames := 1, cells := 5, slots := 16650, locals := 13 } : Room).cells ({ frames := 1, cells := 5, slots := 16650, locals := 13 } : Room).slots) := by
  refine MetFree.of_bodySF (plainFor_of_name pn_1d1) hisR ?_
  intro p e s m args below meth c s₁ Bd hml0 hP hK
  obtain ⟨rfl, hZ, hh⟩ := hP
  have hx := Bd.exec
  have hby := Bd.bytes
  have hml : c.maxLocals = 5 := hml0
  have hown : s.vm.findClass "com/example/tradewheel/tradewheel/SmallestFirst" = some m.cls := findClass_of_methodNamed Bd.named
  have hnm := (name_of_methodNamed Bd.named Bd.method).1
  have X0 : Stand p l e ({ frames := 1, cells := 5, slots := 16650, locals := 13 } : Room) s m #[(.ref r0), (.int p1)] below meth c s₁ [] 0 0 := Stand.of_body Bd
  have e0 : s₁.heap = h0 := by rw [← hh, Bd.state]; rfl
  have N0 := Fr.nil n0
  refine Runs.enter (ef_1d1 m r0 p1) ?_
  show Runs _ _ _ _ s₁ (mkF m 0 #[.val (.ref r0), .val (.int p1), .unset, .unset, .unset] [])
  refine Runs.back (fun t_ k_ => XS.aloadN X0.here hx rfl (hb hby d1_0) rfl rfl k_) ?_
  show Runs _ _ _ _ s₁ (mkF m 1 #[.val (.ref r0), .val (.int p1), .unset, .unset, .unset] [(.ref r0)])
  obtain ⟨T1, X1, e1, st1⟩ := initO X0 hx hZ hown (hw _ (List.mem_of_getElem? (i := 8) rfl)) (hw _ (List.mem_of_getElem? (i := 9) rfl)) (hw _ (List.mem_of_getElem? (i := 10) rfl)) e0 (g := (mkF m 1 #[.val (.ref r0), .val (.int p1), .unset, .unset, .unset] [(.ref r0)])) rfl (by rw [hml]; rfl) rfl (hb hby d1_1) (by decide) (W := 0) (by show 2 * 0 + _ ≤ _; exact Nat.le_of_eq rfl) (by decide)
  refine Runs.back st1 ?_
  show Runs _ _ _ _ T1 (mkF m 4 #[.val (.ref r0), .val (.int p1), .unset, .unset, .unset] [])
  refine Runs.back (fun t_ k_ => XS.iconst X1.here hx rfl (hb hby d1_4) k_) ?_
  show Runs _ _ _ _ T1 (mkF m 5 #[.val (.ref r0), .val (.int p1), .unset, .unset, .unset] [(.int (1 : Int32))])
  refine Runs.back (fun t_ k_ => XS.iloadN X1.here hx rfl (hb hby d1_5) rfl k_) ?_
  show Runs _ _ _ _ T1 (mkF m 6 #[.val (.ref r0), .val (.int p1), .unset, .unset, .unset] [(.int p1), (.int (1 : Int32))])
  refine Runs.back (fun t_ k_ => XS.bipush X1.here hx rfl (hb hby d1_6) k_) ?_
  show Runs _ _ _ _ T1 (mkF m 8 #[.val (.ref r0), .val (.int p1), .unset, .unset, .unset] [(.int (63 : Int32)), (.int p1), (.int (1 : Int32))])
  refine Runs.back (fun t_ k_ => XS.iadd X1.here hx rfl (hb hby d1_8) rfl k_) ?_
  show Runs _ _ _ _ T1 (mkF m 9 #[.val (.ref r0), .val (.int p1), .unset, .unset, .unset] [(.int (p1 + (63 : Int32))), (.int (1 : Int32))])
  refine Runs.back (fun t_ k_ => XS.bipush X1.here hx rfl (hb hby d1_9) k_) ?_
  show Runs _ _ _ _ T1 (mkF m 11 #[.val (.ref r0), .val (.int p1), .unset, .unset, .unset] [(.int (6 : Int32)), (.int (p1 + (63 : Int32))), (.int (1 : Int32))])
  refine Runs.back (fun t_ k_ => XS.iushr X1.here hx rfl (hb hby d1_11) rfl k_) ?_
  show Runs _ _ _ _ T1 (mkF m 12 #[.val (.ref r0), .val (.int p1), .unset, .unset, .unset] [(.int (((p1 + (63 : Int32)).toUInt32 >>> ((6 : Int32) &&& 31).toUInt32).toInt32)), (.int (1 : Int32))])
  obtain ⟨_, _, ⟨T2, L2, k2, n2⟩, -, X2, ⟨Lc2, hQ2, l2, y2, z2⟩, st2⟩ := Jvm.LawKit.callS X1 hx (y := (⟨"java/lang/Math", "max", "(II)I"⟩ : MethodName)) hown (mvT hZ (hw _ (List.mem_of_getElem? (i := 11) rfl))) (mvT hZ (hw _ (List.mem_of_getElem? (i := 12) rfl))) (mvT hZ (hw _ (List.mem_of_getElem? (i := 13) rfl))) (mvT hZ (hw _ (List.mem_of_getElem? (i := 14) rfl))) (by decide) (backOf (W := 0) (rm3 l Z a0 hw [] (1 : Int32) (((p1 + (63 : Int32)).toUInt32 >>> ((6 : Int32) &&& 31).toUInt32).toInt32) h0 n0 (Z0)) hZ (hw _ (List.mem_of_getElem? (i := 14) rfl)) (hw _ (List.mem_of_getElem? (i := 13) rfl)) (by decide) (by decide)) (g := (mkF m 12 #[.val (.ref r0), .val (.int p1), .unset, .unset, .unset] [(.int (((p1 + (63 : Int32)).toUInt32 >>> ((6 : Int32) &&& 31).toUInt32).toInt32)), (.int (1 : Int32))])) rfl (by rw [hml]; rfl) (argsL := [(.int (1 : Int32)), (.int (((p1 + (63 : Int32)).toUInt32 >>> ((6 : Int32) &&& 31).toUInt32).toInt32))]) (rest := []) (lenOf pd1d1_0 rfl) rfl (by show 2 * 0 + _ ≤ _; exact Nat.le_of_eq rfl) (hb hby d1_12) (fun _ _ => ⟨rfl, e1, (by decide : 0 + 0 ≤ _), (by decide : 0 + 0 ≤ _)⟩)
  dsimp only [Pt.U, Pt.locs, Pt.cells, Pt.slots] at X2 l2 y2 z2 st2 hQ2
  obtain rfl : k2 = 0 := y2
  obtain rfl : n2 = 0 := z2
  obtain ⟨rfl, N2q, eq2⟩ := hQ2
  have N2 : Fr n0 L2 := by rw [l2]; exact Fr.app N0 N2q
  clear l2
  refine Runs.back st2 ?_
  show Runs _ _ _ _ T2 (mkF m 15 #[.val (.ref r0), .val (.int p1), .unset, .unset, .unset] [(.int (maxF (1 : Int32) (((p1 + (63 : Int32)).toUInt32 >>> ((6 : Int32) &&& 31).toUInt32).toInt32)))])
  have hy0 : ((maxF (1 : Int32) (((p1 + (63 : Int32)).toUInt32 >>> ((6 : Int32) &&& 31).toUInt32).toInt32))).toInt = ((szN nn 0 : Nat) : Int) := max_val (up63 hn (by omega))
  generalize ey0 : (maxF (1 : Int32) (((p1 + (63 : Int32)).toUInt32 >>> ((6 : Int32) &&& 31).toUInt32).toInt32)) = y0 at hy0 ⊢
  show Runs _ _ _ _ T2 (mkF m 15 #[.val (.ref r0), .val (.int p1), .unset, .unset, .unset] [(.int y0)])
  refine Runs.back (fun t_ k_ => XS.istoreN X2.here hx rfl (hb hby d1_15) rfl (l' := #[.val (.ref r0), .val (.int p1), .val (.int y0), .unset, .unset]) rfl k_) ?_
  show Runs _ _ _ _ T2 (mkF m 16 #[.val (.ref r0), .val (.int p1), .val (.int y0), .unset, .unset] [])
  refine Runs.back (fun t_ k_ => XS.iconst X2.here hx rfl (hb hby d1_16) k_) ?_
  show Runs _ _ _ _ T2 (mkF m 17 #[.val (.ref r0), .val (.int p1), .val (.int y0), .unset, .unset] [(.int (1 : Int32))])
  refine Runs.back (fun t_ k_ => XS.istoreN X2.here hx rfl (hb hby d1_17) rfl (l' := #[.val (.ref r0), .val (.int p1), .val (.int y0), .val (.int (1 : Int32)), .unset]) rfl k_) ?_
  show Runs _ _ _ _ T2 (mkF m 18 #[.val (.ref r0), .val (.int p1), .val (.int y0), .val (.int (1 : Int32)), .unset] [])
  refine Runs.back (fun t_ k_ => XS.iloadN X2.here hx rfl (hb hby d1_18) rfl k_) ?_
  show Runs _ _ _ _ T2 (mkF m 19 #[.val (.ref r0), .val (.int p1), .val (.int y0), .val (.int (1 : Int32)), .unset] [(.int y0)])
  refine Runs.back (fun t_ k_ => XS.istore X2.here hx rfl (hb hby d1_19) rfl (l' := #[.val (.ref r0), .val (.int p1), .val (.int y0), .val (.int (1 : Int32)), .val (.int y0)]) rfl k_) ?_
  show Runs _ _ _ _ T2 (mkF m 21 #[.val (.ref r0), .val (.int p1), .val (.int y0), .val (.int (1 : Int32)), .val (.int y0)] [])
  have ht0 : y0.toInt = ((szN nn 0 : Nat) : Int) := hy0
  refine Runs.back (fun t_ k_ => XS.iload X2.here hx rfl (hb hby d1_21) rfl k_) ?_
  show Runs _ _ _ _ T2 (mkF m 23 #[.val (.ref r0), .val (.int p1), .val (.int y0), .val (.int (1 : Int32)), .val (.int y0)] [(.int y0)])
  refine Runs.back (fun t_ k_ => XS.iconst X2.here hx rfl (hb hby d1_23) k_) ?_
  show Runs _ _ _ _ T2 (mkF m 24 #[.val (.ref r0), .val (.int p1), .val (.int y0), .val (.int (1 : Int32)), .val (.int y0)] [(.int (1 : Int32)), (.int y0)])
  refine Runs.back (fun t_ k_ => XS.icmpYes X2.here hx rfl (pc0 := 24) (pc' := 43) rfl (hb hby d1_24) rfl (flt (show ¬ ((1 : Int32) < y0) from (by rw [lti, o32, ht0]; omega))).2.2.2 (by decide) (by decide) k_) ?_
  show Runs _ _ _ _ T2 (mkF m 43 #[.val (.ref r0), .val (.int p1), .val (.int y0), .val (.int (1 : Int32)), .val (.int y0)] [])
  refine Runs.back (fun t_ k_ => XS.aloadN X2.here hx rfl (hb hby d1_43) rfl rfl k_) ?_
  show Runs _ _ _ _ T2 (mkF m 44 #[.val (.ref r0), .val (.int p1), .val (.int y0), .val (.int (1 : Int32)), .val (.int y0)] [(.ref r0)])
  refine Runs.back (fun t_ k_ => XS.iloadN X2.here hx rfl (hb hby d1_44) rfl k_) ?_
  show Runs _ _ _ _ T2 (mkF m 45 #[.val (.ref r0), .val (.int p1), .val (.int y0), .val (.int (1 : Int32)), .val (.int y0)] [(.int (1 : Int32)), (.ref r0)])
  obtain ⟨T3, h3, k3, X3, e3, E3, A3, EA3, O3, st3⟩ := newRA X2 hx hZ (C := "[J") (ty := .long) hown (by decide) (hw _ (List.mem_of_getElem? (i := 15) rfl)) (hw _ (List.mem_of_getElem? (i := 16) rfl)) eq2 (g := (mkF m 45 #[.val (.ref r0), .val (.int p1), .val (.int y0), .val (.int (1 : Int32)), .val (.int y0)] [(.int (1 : Int32)), (.ref r0)])) rfl (hb hby d1_45) rfl (by decide) (cap := 1) (by decide) (by decide) (by decide) (by decide) (ad := "[[J") (by decide)
  obtain ⟨lv, g3⟩ : ∃ z, z = h0.size := ⟨_, rfl⟩
  rw [← g3] at A3 EA3 st3
  have g_lv : n0 ≤ lv := Nat.le_trans (Z0) (Nat.le_of_eq g3.symm)
  have ne_r0_lv : r0 ≠ lv := Nat.ne_of_lt (Nat.lt_of_lt_of_le E_r0.lt (Nat.le_of_eq g3.symm))
  have f3_Exa_0 : Exa Z h3 r0 "com/example/tradewheel/tradewheel/SmallestFirst" := Exa.ext E3 E_r0
  have f3_Fld_1 : Fld Z h3 r0 "com/example/tradewheel/tradewheel/SmallestFirst" "levels" "[[J" v1 := Fld.ext E3 F1
  have Z3 : n0 ≤ h3.size := Nat.le_trans (Z0) E3.1
  have V3 : QArr Z h3 lv (.array .long) 1 (fun _ => Value.null) k3 := QArr.new A3 rfl rfl
  refine Runs.back st3 ?_
  show Runs _ _ _ _ T3 (mkF m 48 #[.val (.ref r0), .val (.int p1), .val (.int y0), .val (.int (1 : Int32)), .val (.int y0)] [(.ref lv), (.ref r0)])
  obtain ⟨T4, h4, X4, e4, W4, st4⟩ := putF X3 hx hZ hown (host := "") (Or.inl (hw _ (List.mem_of_getElem? (i := 17) rfl))) Via.refl e3 f3_Fld_1 f3_Exa_0 (Or.inr ⟨(hw _ (List.mem_of_getElem? (i := 18) rfl)), rfl, hnm⟩) (hw _ (List.mem_of_getElem? (i := 3) rfl)) (ty := (.array (.array .long))) (by decide) rfl rfl (g := (mkF m 48 #[.val (.ref r0), .val (.int p1), .val (.int y0), .val (.int (1 : Int32)), .val (.int y0)] [(.ref lv), (.ref r0)])) rfl rfl (hb hby d1_48)
  have f4_Exa_0 : Exa Z h4 r0 "com/example/tradewheel/tradewheel/SmallestFirst" := Exa.wr W4 f3_Exa_0
  have f4_Fld_1 : Fld Z h4 r0 "com/example/tradewheel/tradewheel/SmallestFirst" "levels" "[[J" (.ref lv) := Fld.same W4 f3_Fld_1
  have f4_Qrr_2 : QArr Z h4 lv (.array .long) 1 (fun _ => Value.null) k3 := V3.other W4 (Ne.symm ne_r0_lv)
  have N4 := Fr.snoc X4 N2 g_r0
  obtain ⟨L4, X4, N4⟩ := hideL X4 N4
  have Z4 : n0 ≤ h4.size := Nat.le_trans (Z3) (Nat.le_of_eq W4.size.symm)
  refine Runs.back st4 ?_
  show Runs _ _ _ _ T4 (mkF m 51 #[.val (.ref r0), .val (.int p1), .val (.int y0), .val (.int (1 : Int32)), .val (.int y0)] [])
  refine Runs.back (fun t_ k_ => XS.iconst X4.here hx rfl (hb hby d1_51) k_) ?_
  show Runs _ _ _ _ T4 (mkF m 52 #[.val (.ref r0), .val (.int p1), .val (.int y0), .val (.int (1 : Int32)), .val (.int y0)] [(.int (0 : Int32))])
  refine Runs.back (fun t_ k_ => XS.istore X4.here hx rfl (hb hby d1_52) rfl (l' := #[.val (.ref r0), .val (.int p1), .val (.int y0), .val (.int (1 : Int32)), .val (.int (0 : Int32))]) rfl k_) ?_
  show Runs _ _ _ _ T4 (mkF m 54 #[.val (.ref r0), .val (.int p1), .val (.int y0), .val (.int (1 : Int32)), .val (.int (0 : Int32))] [])
  refine Runs.back (fun t_ k_ => XS.iload X4.here hx rfl (hb hby d1_54) rfl k_) ?_
  show Runs _ _ _ _ T4 (mkF m 56 #[.val (.ref r0), .val (.int p1), .val (.int y0), .val (.int (1 : Int32)), .val (.int (0 : Int32))] [(.int (0 : Int32))])
  refine Runs.back (fun t_ k_ => XS.iloadN X4.here hx rfl (hb hby d1_56) rfl k_) ?_
  show Runs _ _ _ _ T4 (mkF m 57 #[.val (.ref r0), .val (.int p1), .val (.int y0), .val (.int (1 : Int32)), .val (.int (0 : Int32))] [(.int (1 : Int32)), (.int (0 : Int32))])
  refine Runs.back (fun t_ k_ => XS.icmpNo X4.here hx rfl (hb hby d1_57) rfl (tlt (show (0 : Int32) < (1 : Int32) from (by decide))).2.1 k_) ?_
  show Runs _ _ _ _ T4 (mkF m 60 #[.val (.ref r0), .val (.int p1), .val (.int y0), .val (.int (1 : Int32)), .val (.int (0 : Int32))] [])
  refine Runs.back (fun t_ k_ => XS.aloadN X4.here hx rfl (hb hby d1_60) rfl rfl k_) ?_
  show Runs _ _ _ _ T4 (mkF m 61 #[.val (.ref r0), .val (.int p1), .val (.int y0), .val (.int (1 : Int32)), .val (.int (0 : Int32))] [(.ref r0)])
  obtain ⟨T5, X5, e5, st5⟩ := getF X4 hx hZ hown (host := "") (Or.inl (hw _ (List.mem_of_getElem? (i := 17) rfl))) Via.refl e4 f4_Fld_1 (g := (mkF m 61 #[.val (.ref r0), .val (.int p1), .val (.int y0), .val (.int (1 : Int32)), .val (.int (0 : Int32))] [(.ref r0)])) rfl rfl (hb hby d1_61)
  refine Runs.back st5 ?_
  show Runs _ _ _ _ T5 (mkF m 64 #[.val (.ref r0), .val (.int p1), .val (.int y0), .val (.int (1 : Int32)), .val (.int (0 : Int32))] [(.ref lv)])
  refine Runs.back (fun t_ k_ => XS.iload X5.here hx rfl (hb hby d1_64) rfl k_) ?_
  show Runs _ _ _ _ T5 (mkF m 66 #[.val (.ref r0), .val (.int p1), .val (.int y0), .val (.int (1 : Int32)), .val (.int (0 : Int32))] [(.int (0 : Int32)), (.ref lv)])
  refine Runs.back (fun t_ k_ => XS.iloadN X5.here hx rfl (hb hby d1_66) rfl k_) ?_
  show Runs _ _ _ _ T5 (mkF m 67 #[.val (.ref r0), .val (.int p1), .val (.int y0), .val (.int (1 : Int32)), .val (.int (0 : Int32))] [(.int y0), (.int (0 : Int32)), (.ref lv)])
  have cy0 := clampI hy0
  obtain ⟨T6, h6, k6, X6, e6, E6, A6, EA6, st6⟩ := newPE X5 hx hZ (hw _ (List.mem_of_getElem? (i := 19) rfl)) e5 (g := (mkF m 67 #[.val (.ref r0), .val (.int p1), .val (.int y0), .val (.int (1 : Int32)), .val (.int (0 : Int32))] [(.int y0), (.int (0 : Int32)), (.ref lv)])) rfl (hb hby d1_67) rfl cy0.2 (cap := 16384) (by rw [cy0.1]; omega) (by decide) (by decide) (by decide) (ad := "[J") (by decide)
  obtain ⟨a0, g6⟩ : ∃ z, z = h4.size := ⟨_, rfl⟩
  rw [← g6] at A6 EA6 st6
  have g_a0 : n0 ≤ a0 := Nat.le_trans (Z4) (Nat.le_of_eq g6.symm)
  have ne_r0_a0 : r0 ≠ a0 := Nat.ne_of_lt (Nat.lt_of_lt_of_le f4_Exa_0.lt (Nat.le_of_eq g6.symm))
  have ne_lv_a0 : lv ≠ a0 := Nat.ne_of_lt (Nat.lt_of_lt_of_le f4_Qrr_2.lt (Nat.le_of_eq g6.symm))
  have f6_Exa_0 : Exa Z h6 r0 "com/example/tradewheel/tradewheel/SmallestFirst" := Exa.ext E6 f4_Exa_0
  have f6_Fld_1 : Fld Z h6 r0 "com/example/tradewheel/tradewheel/SmallestFirst" "levels" "[[J" (.ref lv) := Fld.ext E6 f4_Fld_1
  have f6_Qrr_2 : QArr Z h6 lv (.array .long) 1 (fun _ => Value.null) k3 := f4_Qrr_2.ext E6
  have Z6 : n0 ≤ h6.size := Nat.le_trans (Z4) E6.1
  have V6 : OArr Z h6 a0 .long (szN nn 0) (fun _ => (Value.long (0 : Int64))) := OArr.new A6 cy0.1 rfl
  refine Runs.back st6 ?_
  show Runs _ _ _ _ T6 (mkF m 69 #[.val (.ref r0), .val (.int p1), .val (.int y0), .val (.int (1 : Int32)), .val (.int (0 : Int32))] [(.ref a0), (.int (0 : Int32)), (.ref lv)])
  obtain ⟨cl7, Ar7, Kc7, S7, Hs7⟩ := id f6_Qrr_2
  obtain ⟨T7, h7, X7, e7, W7, st7⟩ := stR X6 hx hZ e6 Ar7 (j := (0 : Int32)) (by rw [S7]; exact inbO (by decide) (rfl : ((0 : Int32)).toNatClampNeg = 0) (by decide)) rfl (Sto.ofVA Ar7 Kc7 O3 (Ins.self EA6)) (g := (mkF m 69 #[.val (.ref r0), .val (.int p1), .val (.int y0), .val (.int (1 : Int32)), .val (.int (0 : Int32))] [(.ref a0), (.int (0 : Int32)), (.ref lv)])) rfl rfl (hb hby d1_69)
  have N7 := Fr.snoc X7 N4 g_lv
  obtain ⟨L7, X7, N7⟩ := hideL X7 N7
  rw [(rfl : ((0 : Int32)).toNatClampNeg = 0)] at W7
  have f7_Exa_0 : Exa Z h7 r0 "com/example/tradewheel/tradewheel/SmallestFirst" := Exa.wr W7 f6_Exa_0
  have f7_Fld_1 : Fld Z h7 r0 "com/example/tradewheel/tradewheel/SmallestFirst" "levels" "[[J" (.ref lv) := Fld.other W7 f6_Fld_1 (Or.inl ne_r0_lv)
  have f7_Qrr_2 : QArr Z h7 lv (.array .long) 1 (fun i => if i = 0 then (Value.ref a0) else (fun _ => Value.null) i) k3 := f6_Qrr_2.set W7
  have f7_Arr_3 : OArr Z h7 a0 .long (szN nn 0) (fun _ => (Value.long (0 : Int64))) := V6.other W7 (Ne.symm ne_lv_a0)
  have f7_Exa_4 : Exa Z h7 a0 "[J" := Exa.wr W7 EA6
  have Z7 : n0 ≤ h7.size := Nat.le_trans (Z6) (Nat.le_of_eq W7.size.symm)
  refine Runs.back st7 ?_
  show Runs _ _ _ _ T7 (mkF m 70 #[.val (.ref r0), .val (.int p1), .val (.int y0), .val (.int (1 : Int32)), .val (.int (0 : Int32))] [])
  refine Runs.back (fun t_ k_ => XS.iloadN X7.here hx rfl (hb hby d1_70) rfl k_) ?_
  show Runs _ _ _ _ T7 (mkF m 71 #[.val (.ref r0), .val (.int p1), .val (.int y0), .val (.int (1 : Int32)), .val (.int (0 : Int32))] [(.int y0)])
  refine Runs.back (fun t_ k_ => XS.bipush X7.here hx rfl (hb hby d1_71) k_) ?_
  show Runs _ _ _ _ T7 (mkF m 73 #[.val (.ref r0), .val (.int p1), .val (.int y0), .val (.int (1 : Int32)), .val (.int (0 : Int32))] [(.int (63 : Int32)), (.int y0)])
  refine Runs.back (fun t_ k_ => XS.iadd X7.here hx rfl (hb hby d1_73) rfl k_) ?_
  show Runs _ _ _ _ T7 (mkF m 74 #[.val (.ref r0), .val (.int p1), .val (.int y0), .val (.int (1 : Int32)), .val (.int (0 : Int32))] [(.int (y0 + (63 : Int32)))])
  refine Runs.back (fun t_ k_ => XS.bipush X7.here hx rfl (hb hby d1_74) k_) ?_
  show Runs _ _ _ _ T7 (mkF m 76 #[.val (.ref r0), .val (.int p1), .val (.int y0), .val (.int (1 : Int32)), .val (.int (0 : Int32))] [(.int (6 : Int32)), (.int (y0 + (63 : Int32)))])
  refine Runs.back (fun t_ k_ => XS.iushr X7.here hx rfl (hb hby d1_76) rfl k_) ?_
  show Runs _ _ _ _ T7 (mkF m 77 #[.val (.ref r0), .val (.int p1), .val (.int y0), .val (.int (1 : Int32)), .val (.int (0 : Int32))] [(.int (((y0 + (63 : Int32)).toUInt32 >>> ((6 : Int32) &&& 31).toUInt32).toInt32))])
  refine Runs.back (fun t_ k_ => XS.istoreN X7.here hx rfl (hb hby d1_77) rfl (l' := #[.val (.ref r0), .val (.int p1), .val (.int (((y0 + (63 : Int32)).toUInt32 >>> ((6 : Int32) &&& 31).toUInt32).toInt32)), .val (.int (1 : Int32)), .val (.int (0 : Int32))]) rfl k_) ?_
  show Runs _ _ _ _ T7 (mkF m 78 #[.val (.ref r0), .val (.int p1), .val (.int (((y0 + (63 : Int32)).toUInt32 >>> ((6 : Int32) &&& 31).toUInt32).toInt32)), .val (.int (1 : Int32)), .val (.int (0 : Int32))] [])
  refine Runs.back (fun t_ k_ => XS.iinc X7.here hx rfl (hb hby d1_78) rfl (l' := #[.val (.ref r0), .val (.int p1), .val (.int (((y0 + (63 : Int32)).toUInt32 >>> ((6 : Int32) &&& 31).toUInt32).toInt32)), .val (.int (1 : Int32)), .val (.int ((0 : Int32) + (1 : Int32)))]) rfl k_) ?_
  show Runs _ _ _ _ T7 (mkF m 81 #[.val (.ref r0), .val (.int p1), .val (.int (((y0 + (63 : Int32)).toUInt32 >>> ((6 : Int32) &&& 31).toUInt32).toInt32)), .val (.int (1 : Int32)), .val (.int ((0 : Int32) + (1 : Int32)))] [])
  rw [show ((0 : Int32) + (1 : Int32)) = (1 : Int32) from by decide]
  show Runs _ _ _ _ T7 (mkF m 81 #[.val (.ref r0), .val (.int p1), .val (.int (((y0 + (63 : Int32)).toUInt32 >>> ((6 : Int32) &&& 31).toUInt32).toInt32)), .val (.int (1 : Int32)), .val (.int (1 : Int32))] [])
  refine Runs.back (fun t_ k_ => XS.goto X7.here hx rfl (pc0 := 81) (pc' := 54) rfl (hb hby d1_81) (by decide) (by decide) k_) ?_
  show Runs _ _ _ _ T7 (mkF m 54 #[.val (.ref r0), .val (.int p1), .val (.int (((y0 + (63 : Int32)).toUInt32 >>> ((6 : Int32) &&& 31).toUInt32).toInt32)), .val (.int (1 : Int32)), .val (.int (1 : Int32))] [])
  refine Runs.back (fun t_ k_ => XS.iload X7.here hx rfl (hb hby d1_54) rfl k_) ?_
  show Runs _ _ _ _ T7 (mkF m 56 #[.val (.ref r0), .val (.int p1), .val (.int (((y0 + (63 : Int32)).toUInt32 >>> ((6 : Int32) &&& 31).toUInt32).toInt32)), .val (.int (1 : Int32)), .val (.int (1 : Int32))] [(.int (1 : Int32))])
  refine Runs.back (fun t_ k_ => XS.iloadN X7.here hx rfl (hb hby d1_56) rfl k_) ?_
  show Runs _ _ _ _ T7 (mkF m 57 #[.val (.ref r0), .val (.int p1), .val (.int (((y0 + (63 : Int32)).toUInt32 >>> ((6 : Int32) &&& 31).toUInt32).toInt32)), .val (.int (1 : Int32)), .val (.int (1 : Int32))] [(.int (1 : Int32)), (.int (1 : Int32))])
  refine Runs.back (fun t_ k_ => XS.icmpYes X7.here hx rfl (pc0 := 57) (pc' := 84) rfl (hb hby d1_57) rfl (flt (show ¬ ((1 : Int32) < (1 : Int32)) from (by decide))).2.1 (by decide) (by decide) k_) ?_
  show Runs _ _ _ _ T7 (mkF m 84 #[.val (.ref r0), .val (.int p1), .val (.int (((y0 + (63 : Int32)).toUInt32 >>> ((6 : Int32) &&& 31).toUInt32).toInt32)), .val (.int (1 : Int32)), .val (.int (1 : Int32))] [])
  obtain ⟨fs, hr, hrun, hended, hW, hsame⟩ := X7.leave (v := none) (fun _ => rfl)
  exact ⟨_, _, (X7.returnOut hx Bd.returns (hb hby d1_84) hr), hrun, hended, _, _, rfl, (by show Q1d1 Z r0 p1 v1 nn h0 n0 _ T7.heap _; rw [e7]; exact ⟨lv, fun i => a0, rfl, N7, f7_Exa_0, f7_Fld_1, OArr.congr (QArr.toO f7_Qrr_2) (fun i hi => match i, hi with | 0, _ => rfl), (fun i hi => match i, hi with | 0, _ => ⟨g_a0, OArr.congr f7_Arr_3 fun j _ => rfl⟩), (fun i j hi hj hne => match i, j, hi, hj, hne with | 0, 0, _, _, hne => absurd rfl hne), (fun i hi => match i, hi with | 0, _ => ⟨(Ne.symm ne_lv_a0), (Ne.symm ne_r0_a0)⟩)⟩), ⟨_, rfl⟩, hW, hsame.mono (by decide) (by decide)⟩
theorem pn_1d2 : plainName "com/example/tradewheel/tradewheel/SmallestFirst" = true := by first | (simp [plainName, overriddenIn]; done) | decide +kernel
theorem pd1d2_0 : parseMethodDescriptor "(II)I" = some ⟨[.int, .int], some .int⟩ := by decide +kernel
theorem ef_1d2 (m : MethodId) (r0 : Addr) (p1 : Int32) : entryFrame m #[(.ref r0), (.int p1)] 5 = mkF m 0 #[.val (.ref r0), .val (.int p1), .unset, .unset, .unset] [] := by first | (simp [entryFrame, mkF, argsToLocals, Value.category]; done) | rfl
def Q1d2 (Z : State) (r0 : Addr) (p1 : Int32) (v1 : Value) (nn : Nat) (h0 : Heap) (n0 : Nat) (v : Option Value) (h : Heap) (L : List Loc) : Prop := ∃ lv A, v = none ∧ Fr n0 L ∧ SF Z h n0 r0 lv A (szN nn) 2 (wd [])
set_option maxRecDepth 65536 in
set_option maxHeartbeats 40000000 in
theorem rm1d2 (l : Launch) (Z : State) (a0 : Array Value) (hw : ∀ d ∈ tables_1, d.before a0 Z = true) (ws : List Jvm.Cond) (r0 : Addr) (p1 : Int32) (v1 : Value) (nn : Nat) (h0 : Heap) (n0 : Nat) (Z0 : n0 ≤ h0.size) (E_r0 : Exa Z h0 r0 "com/example/tradewheel/tradewheel/SmallestFirst") (F1 : Fld Z h0 r0 "com/example/tradewheel/tradewheel/SmallestFirst" "levels" "[[J" v1) (g_r0 : n0 ≤ r0) (hn : p1.toInt = (nn : Int)) (hn1 : 1 ≤ nn ∧ nn ≤ 1048576) (hb0 : szN nn 0 ≤ 16384) (hb1 : szN nn 1 ≤ 256) (hb2 : szN nn 2 ≤ 4) (hb3 : szN nn 3 ≤ 1) (hg0 : 1 < szN nn 0) (hgD : szN nn 1 = 1) :
    MetFree l (⟨"com/example/tradewheel/tradewheel/SmallestFirst", "<init>", "(I)V"⟩ : MethodName) (head1 (Jvm.Cond.code (⟨"com/example/tradewheel/tradewheel/SmallestFirst", "<init>", "(I)V"⟩ : MethodName) prog_42_method_1_code 5 none :: ws) ({ frames := 1, cells := 5, slots := 16650, locals := 13 } : Room)) (fun a U => a = #[(.ref r0), (.int p1)] ∧ Z.Warmed39 U.vm ∧ U.heap = h0) (fun _ _ _ _ _ => True) (fun _ U o U' => ∃ v L, o = .returned v ∧ Q1d2 Z r0 p1 v1 nn h0 n0 v U'.heap L ∧ FrameEnd U o U' L ({ frames := 1, cells := 5, slots := 16650, locals := 13 } : Room).cells ({ frames := 1, cells := 5, slots := 16650, locals := 13 } : Room).slots) := by
  refine MetFree.of_bodySF (plainFor_of_name pn_1d2) hisR ?_
  intro p e s m args below meth c s₁ Bd hml0 hP hK
  obtain ⟨rfl, hZ, hh⟩ := hP
  have hx := Bd.exec
  have hby := Bd.bytes
  have hml : c.maxLocals = 5 := hml0
  have hown : s.vm.findClass "com/example/tradewheel/tradewheel/SmallestFirst" = some m.cls := findClass_of_methodNamed Bd.named
  have hnm := (name_of_methodNamed Bd.named Bd.method).1
  have X0 : Stand p l e ({ frames := 1, cells := 5, slots := 16650, locals := 13 } : Room) s m #[(.ref r0), (.int p1)] below meth c s₁ [] 0 0 := Stand.of_body Bd
  have e0 : s₁.heap = h0 := by rw [← hh, Bd.state]; rfl
  have N0 := Fr.nil n0
  refine Runs.enter (ef_1d2 m r0 p1) ?_
  show Runs _ _ _ _ s₁ (mkF m 0 #[.val (.ref r0), .val (.int p1), .unset, .unset, .unset] [])
  refine Runs.back (fun t_ k_ => XS.aloadN X0.here hx rfl (hb hby d1_0) rfl rfl k_) ?_
  show Runs _ _ _ _ s₁ (mkF m 1 #[.val (.ref r0), .val (.int p1), .unset, .unset, .unset] [(.ref r0)])
  obtain ⟨T1, X1, e1, st1⟩ := initO X0 hx hZ hown (hw _ (List.mem_of_getElem? (i := 8) rfl)) (hw _ (List.mem_of_getElem? (i := 9) rfl)) (hw _ (List.mem_of_getElem? (i := 10) rfl)) e0 (g := (mkF m 1 #[.val (.ref r0), .val (.int p1), .unset, .unset, .unset] [(.ref r0)])) rfl (by rw [hml]; rfl) rfl (hb hby d1_1) (by decide) (W := 0) (by show 2 * 0 + _ ≤ _; exact Nat.le_of_eq rfl) (by decide)
  refine Runs.back st1 ?_
  show Runs _ _ _ _ T1 (mkF m 4 #[.val (.ref r0), .val (.int p1), .unset, .unset, .unset] [])
  refine Runs.back (fun t_ k_ => XS.iconst X1.here hx rfl (hb hby d1_4) k_) ?_
  show Runs _ _ _ _ T1 (mkF m 5 #[.val (.ref r0), .val (.int p1), .unset, .unset, .unset] [(.int (1 : Int32))])
  refine Runs.back (fun t_ k_ => XS.iloadN X1.here hx rfl (hb hby d1_5) rfl k_) ?_
  show Runs _ _ _ _ T1 (mkF m 6 #[.val (.ref r0), .val (.int p1), .unset, .unset, .unset] [(.int p1), (.int (1 : Int32))])
  refine Runs.back (fun t_ k_ => XS.bipush X1.here hx rfl (hb hby d1_6) k_) ?_
  show Runs _ _ _ _ T1 (mkF m 8 #[.val (.ref r0), .val (.int p1), .unset, .unset, .unset] [(.int (63 : Int32)), (.int p1), (.int (1 : Int32))])
  refine Runs.back (fun t_ k_ => XS.iadd X1.here hx rfl (hb hby d1_8) rfl k_) ?_
  show Runs _ _ _ _ T1 (mkF m 9 #[.val (.ref r0), .val (.int p1), .unset, .unset, .unset] [(.int (p1 + (63 : Int32))), (.int (1 : Int32))])
  refine Runs.back (fun t_ k_ => XS.bipush X1.here hx rfl (hb hby d1_9) k_) ?_
  show Runs _ _ _ _ T1 (mkF m 11 #[.val (.ref r0), .val (.int p1), .unset, .unset, .unset] [(.int (6 : Int32)), (.int (p1 + (63 : Int32))), (.int (1 : Int32))])
  refine Runs.back (fun t_ k_ => XS.iushr X1.here hx rfl (hb hby d1_11) rfl k_) ?_
  show Runs _ _ _ _ T1 (mkF m 12 #[.val (.ref r0), .val (.int p1), .unset, .unset, .unset] [(.int (((p1 + (63 : Int32)).toUInt32 >>> ((6 : Int32) &&& 31).toUInt32).toInt32)), (.int (1 : Int32))])
  obtain ⟨_, _, ⟨T2, L2, k2, n2⟩, -, X2, ⟨Lc2, hQ2, l2, y2, z2⟩, st2⟩ := Jvm.LawKit.callS X1 hx (y := (⟨"java/lang/Math", "max", "(II)I"⟩ : MethodName)) hown (mvT hZ (hw _ (List.mem_of_getElem? (i := 11) rfl))) (mvT hZ (hw _ (List.mem_of_getElem? (i := 12) rfl))) (mvT hZ (hw _ (List.mem_of_getElem? (i := 13) rfl))) (mvT hZ (hw _ (List.mem_of_getElem? (i := 14) rfl))) (by decide) (backOf (W := 0) (rm3 l Z a0 hw [] (1 : Int32) (((p1 + (63 : Int32)).toUInt32 >>> ((6 : Int32) &&& 31).toUInt32).toInt32) h0 n0 (Z0)) hZ (hw _ (List.mem_of_getElem? (i := 14) rfl)) (hw _ (List.mem_of_getElem? (i := 13) rfl)) (by decide) (by decide)) (g := (mkF m 12 #[.val (.ref r0), .val (.int p1), .unset, .unset, .unset] [(.int (((p1 + (63 : Int32)).toUInt32 >>> ((6 : Int32) &&& 31).toUInt32).toInt32)), (.int (1 : Int32))])) rfl (by rw [hml]; rfl) (argsL := [(.int (1 : Int32)), (.int (((p1 + (63 : Int32)).toUInt32 >>> ((6 : Int32) &&& 31).toUInt32).toInt32))]) (rest := []) (lenOf pd1d2_0 rfl) rfl (by show 2 * 0 + _ ≤ _; exact Nat.le_of_eq rfl) (hb hby d1_12) (fun _ _ => ⟨rfl, e1, (by decide : 0 + 0 ≤ _), (by decide : 0 + 0 ≤ _)⟩)
  dsimp only [Pt.U, Pt.locs, Pt.cells, Pt.slots] at X2 l2 y2 z2 st2 hQ2
  obtain rfl : k2 = 0 := y2
  obtain rfl : n2 = 0 := z2
  obtain ⟨rfl, N2q, eq2⟩ := hQ2
  have N2 : Fr n0 L2 := by rw [l2]; exact Fr.app N0 N2q
  clear l2
  refine Runs.back st2 ?_
  show Runs _ _ _ _ T2 (mkF m 15 #[.val (.ref r0), .val (.int p1), .unset, .unset, .unset] [(.int (maxF (1 : Int32) (((p1 + (63 : Int32)).toUInt32 >>> ((6 : Int32) &&& 31).toUInt32).toInt32)))])
  have hy0 : ((maxF (1 : Int32) (((p1 + (63 : Int32)).toUInt32 >>> ((6 : Int32) &&& 31).toUInt32).toInt32))).toInt = ((szN nn 0 : Nat) : Int) := max_val (up63 hn (by omega))
  generalize ey0 : (maxF (1 : Int32) (((p1 + (63 : Int32)).toUInt32 >>> ((6 : Int32) &&& 31).toUInt32).toInt32)) = y0 at hy0 ⊢
  show Runs _ _ _ _ T2 (mkF m 15 #[.val (.ref r0), .val (.int p1), .unset, .unset, .unset] [(.int y0)])
  refine Runs.back (fun t_ k_ => XS.istoreN X2.here hx rfl (hb hby d1_15) rfl (l' := #[.val (.ref r0), .val (.int p1), .val (.int y0), .unset, .unset]) rfl k_) ?_
  show Runs _ _ _ _ T2 (mkF m 16 #[.val (.ref r0), .val (.int p1), .val (.int y0), .unset, .unset] [])
  refine Runs.back (fun t_ k_ => XS.iconst X2.here hx rfl (hb hby d1_16) k_) ?_
  show Runs _ _ _ _ T2 (mkF m 17 #[.val (.ref r0), .val (.int p1), .val (.int y0), .unset, .unset] [(.int (1 : Int32))])
  refine Runs.back (fun t_ k_ => XS.istoreN X2.here hx rfl (hb hby d1_17) rfl (l' := #[.val (.ref r0), .val (.int p1), .val (.int y0), .val (.int (1 : Int32)), .unset]) rfl k_) ?_
  show Runs _ _ _ _ T2 (mkF m 18 #[.val (.ref r0), .val (.int p1), .val (.int y0), .val (.int (1 : Int32)), .unset] [])
  refine Runs.back (fun t_ k_ => XS.iloadN X2.here hx rfl (hb hby d1_18) rfl k_) ?_
  show Runs _ _ _ _ T2 (mkF m 19 #[.val (.ref r0), .val (.int p1), .val (.int y0), .val (.int (1 : Int32)), .unset] [(.int y0)])
  refine Runs.back (fun t_ k_ => XS.istore X2.here hx rfl (hb hby d1_19) rfl (l' := #[.val (.ref r0), .val (.int p1), .val (.int y0), .val (.int (1 : Int32)), .val (.int y0)]) rfl k_) ?_
  show Runs _ _ _ _ T2 (mkF m 21 #[.val (.ref r0), .val (.int p1), .val (.int y0), .val (.int (1 : Int32)), .val (.int y0)] [])
  have ht0 : y0.toInt = ((szN nn 0 : Nat) : Int) := hy0
  refine Runs.back (fun t_ k_ => XS.iload X2.here hx rfl (hb hby d1_21) rfl k_) ?_
  show Runs _ _ _ _ T2 (mkF m 23 #[.val (.ref r0), .val (.int p1), .val (.int y0), .val (.int (1 : Int32)), .val (.int y0)] [(.int y0)])
  refine Runs.back (fun t_ k_ => XS.iconst X2.here hx rfl (hb hby d1_23) k_) ?_
  show Runs _ _ _ _ T2 (mkF m 24 #[.val (.ref r0), .val (.int p1), .val (.int y0), .val (.int (1 : Int32)), .val (.int y0)] [(.int (1 : Int32)), (.int y0)])
  refine Runs.back (fun t_ k_ => XS.icmpNo X2.here hx rfl (hb hby d1_24) rfl (tlt (show (1 : Int32) < y0 from (by rw [lti, o32, ht0]; omega))).2.2.2 k_) ?_
  show Runs _ _ _ _ T2 (mkF m 27 #[.val (.ref r0), .val (.int p1), .val (.int y0), .val (.int (1 : Int32)), .val (.int y0)] [])
  refine Runs.back (fun t_ k_ => XS.iinc X2.here hx rfl (hb hby d1_27) rfl (l' := #[.val (.ref r0), .val (.int p1), .val (.int y0), .val (.int ((1 : Int32) + (1 : Int32))), .val (.int y0)]) rfl k_) ?_
  show Runs _ _ _ _ T2 (mkF m 30 #[.val (.ref r0), .val (.int p1), .val (.int y0), .val (.int ((1 : Int32) + (1 : Int32))), .val (.int y0)] [])
  rw [show ((1 : Int32) + (1 : Int32)) = (2 : Int32) from by decide]
  show Runs _ _ _ _ T2 (mkF m 30 #[.val (.ref r0), .val (.int p1), .val (.int y0), .val (.int (2 : Int32)), .val (.int y0)] [])
  refine Runs.back (fun t_ k_ => XS.iload X2.here hx rfl (hb hby d1_30) rfl k_) ?_
  show Runs _ _ _ _ T2 (mkF m 32 #[.val (.ref r0), .val (.int p1), .val (.int y0), .val (.int (2 : Int32)), .val (.int y0)] [(.int y0)])
  refine Runs.back (fun t_ k_ => XS.bipush X2.here hx rfl (hb hby d1_32) k_) ?_
  show Runs _ _ _ _ T2 (mkF m 34 #[.val (.ref r0), .val (.int p1), .val (.int y0), .val (.int (2 : Int32)), .val (.int y0)] [(.int (63 : Int32)), (.int y0)])
  refine Runs.back (fun t_ k_ => XS.iadd X2.here hx rfl (hb hby d1_34) rfl k_) ?_
  show Runs _ _ _ _ T2 (mkF m 35 #[.val (.ref r0), .val (.int p1), .val (.int y0), .val (.int (2 : Int32)), .val (.int y0)] [(.int (y0 + (63 : Int32)))])
  refine Runs.back (fun t_ k_ => XS.bipush X2.here hx rfl (hb hby d1_35) k_) ?_
  show Runs _ _ _ _ T2 (mkF m 37 #[.val (.ref r0), .val (.int p1), .val (.int y0), .val (.int (2 : Int32)), .val (.int y0)] [(.int (6 : Int32)), (.int (y0 + (63 : Int32)))])
  refine Runs.back (fun t_ k_ => XS.iushr X2.here hx rfl (hb hby d1_37) rfl k_) ?_
  show Runs _ _ _ _ T2 (mkF m 38 #[.val (.ref r0), .val (.int p1), .val (.int y0), .val (.int (2 : Int32)), .val (.int y0)] [(.int (((y0 + (63 : Int32)).toUInt32 >>> ((6 : Int32) &&& 31).toUInt32).toInt32))])
  refine Runs.back (fun t_ k_ => XS.istore X2.here hx rfl (hb hby d1_38) rfl (l' := #[.val (.ref r0), .val (.int p1), .val (.int y0), .val (.int (2 : Int32)), .val (.int (((y0 + (63 : Int32)).toUInt32 >>> ((6 : Int32) &&& 31).toUInt32).toInt32))]) rfl k_) ?_
  show Runs _ _ _ _ T2 (mkF m 40 #[.val (.ref r0), .val (.int p1), .val (.int y0), .val (.int (2 : Int32)), .val (.int (((y0 + (63 : Int32)).toUInt32 >>> ((6 : Int32) &&& 31).toUInt32).toInt32))] [])
  refine Runs.back (fun t_ k_ => XS.goto X2.here hx rfl (pc0 := 40) (pc' := 21) rfl (hb hby d1_40) (by decide) (by decide) k_) ?_
  show Runs _ _ _ _ T2 (mkF m 21 #[.val (.ref r0), .val (.int p1), .val (.int y0), .val (.int (2 : Int32)), .val (.int (((y0 + (63 : Int32)).toUInt32 >>> ((6 : Int32) &&& 31).toUInt32).toInt32))] [])
  have ht1 : ((((y0 + (63 : Int32)).toUInt32 >>> ((6 : Int32) &&& 31).toUInt32).toInt32)).toInt = ((szN nn 1 : Nat) : Int) := up63 (W := szN nn 0) ht0 (Nat.lt_of_le_of_lt hb0 (by decide))
  generalize et1 : (((y0 + (63 : Int32)).toUInt32 >>> ((6 : Int32) &&& 31).toUInt32).toInt32) = t1 at ht1 ⊢
  show Runs _ _ _ _ T2 (mkF m 21 #[.val (.ref r0), .val (.int p1), .val (.int y0), .val (.int (2 : Int32)), .val (.int t1)] [])
  refine Runs.back (fun t_ k_ => XS.iload X2.here hx rfl (hb hby d1_21) rfl k_) ?_
  show Runs _ _ _ _ T2 (mkF m 23 #[.val (.ref r0), .val (.int p1), .val (.int y0), .val (.int (2 : Int32)), .val (.int t1)] [(.int t1)])
  refine Runs.back (fun t_ k_ => XS.iconst X2.here hx rfl (hb hby d1_23) k_) ?_
  show Runs _ _ _ _ T2 (mkF m 24 #[.val (.ref r0), .val (.int p1), .val (.int y0), .val (.int (2 : Int32)), .val (.int t1)] [(.int (1 : Int32)), (.int t1)])
  refine Runs.back (fun t_ k_ => XS.icmpYes X2.here hx rfl (pc0 := 24) (pc' := 43) rfl (hb hby d1_24) rfl (flt (show ¬ ((1 : Int32) < t1) from (by rw [lti, o32, ht1]; omega))).2.2.2 (by decide) (by decide) k_) ?_
  show Runs _ _ _ _ T2 (mkF m 43 #[.val (.ref r0), .val (.int p1), .val (.int y0), .val (.int (2 : Int32)), .val (.int t1)] [])
  refine Runs.back (fun t_ k_ => XS.aloadN X2.here hx rfl (hb hby d1_43) rfl rfl k_) ?_
  show Runs _ _ _ _ T2 (mkF m 44 #[.val (.ref r0), .val (.int p1), .val (.int y0), .val (.int (2 : Int32)), .val (.int t1)] [(.ref r0)])
  refine Runs.back (fun t_ k_ => XS.iloadN X2.here hx rfl (hb hby d1_44) rfl k_) ?_
  show Runs _ _ _ _ T2 (mkF m 45 #[.val (.ref r0), .val (.int p1), .val (.int y0), .val (.int (2 : Int32)), .val (.int t1)] [(.int (2 : Int32)), (.ref r0)])
  obtain ⟨T3, h3, k3, X3, e3, E3, A3, EA3, O3, st3⟩ := newRA X2 hx hZ (C := "[J") (ty := .long) hown (by decide) (hw _ (List.mem_of_getElem? (i := 15) rfl)) (hw _ (List.mem_of_getElem? (i := 16) rfl)) eq2 (g := (mkF m 45 #[.val (.ref r0), .val (.int p1), .val (.int y0), .val (.int (2 : Int32)), .val (.int t1)] [(.int (2 : Int32)), (.ref r0)])) rfl (hb hby d1_45) rfl (by decide) (cap := 2) (by decide) (by decide) (by decide) (by decide) (ad := "[[J") (by decide)
  obtain ⟨lv, g3⟩ : ∃ z, z = h0.size := ⟨_, rfl⟩
  rw [← g3] at A3 EA3 st3
  have g_lv : n0 ≤ lv := Nat.le_trans (Z0) (Nat.le_of_eq g3.symm)
  have ne_r0_lv : r0 ≠ lv := Nat.ne_of_lt (Nat.lt_of_lt_of_le E_r0.lt (Nat.le_of_eq g3.symm))
  have f3_Exa_0 : Exa Z h3 r0 "com/example/tradewheel/tradewheel/SmallestFirst" := Exa.ext E3 E_r0
  have f3_Fld_1 : Fld Z h3 r0 "com/example/tradewheel/tradewheel/SmallestFirst" "levels" "[[J" v1 := Fld.ext E3 F1
  have Z3 : n0 ≤ h3.size := Nat.le_trans (Z0) E3.1
  have V3 : QArr Z h3 lv (.array .long) 2 (fun _ => Value.null) k3 := QArr.new A3 rfl rfl
  refine Runs.back st3 ?_
  show Runs _ _ _ _ T3 (mkF m 48 #[.val (.ref r0), .val (.int p1), .val (.int y0), .val (.int (2 : Int32)), .val (.int t1)] [(.ref lv), (.ref r0)])
  obtain ⟨T4, h4, X4, e4, W4, st4⟩ := putF X3 hx hZ hown (host := "") (Or.inl (hw _ (List.mem_of_getElem? (i := 17) rfl))) Via.refl e3 f3_Fld_1 f3_Exa_0 (Or.inr ⟨(hw _ (List.mem_of_getElem? (i := 18) rfl)), rfl, hnm⟩) (hw _ (List.mem_of_getElem? (i := 3) rfl)) (ty := (.array (.array .long))) (by decide) rfl rfl (g := (mkF m 48 #[.val (.ref r0), .val (.int p1), .val (.int y0), .val (.int (2 : Int32)), .val (.int t1)] [(.ref lv), (.ref r0)])) rfl rfl (hb hby d1_48)
  have f4_Exa_0 : Exa Z h4 r0 "com/example/tradewheel/tradewheel/SmallestFirst" := Exa.wr W4 f3_Exa_0
  have f4_Fld_1 : Fld Z h4 r0 "com/example/tradewheel/tradewheel/SmallestFirst" "levels" "[[J" (.ref lv) := Fld.same W4 f3_Fld_1
  have f4_Qrr_2 : QArr Z h4 lv (.array .long) 2 (fun _ => Value.null) k3 := V3.other W4 (Ne.symm ne_r0_lv)
  have N4 := Fr.snoc X4 N2 g_r0
  obtain ⟨L4, X4, N4⟩ := hideL X4 N4
  have Z4 : n0 ≤ h4.size := Nat.le_trans (Z3) (Nat.le_of_eq W4.size.symm)
  refine Runs.back st4 ?_
  show Runs _ _ _ _ T4 (mkF m 51 #[.val (.ref r0), .val (.int p1), .val (.int y0), .val (.int (2 : Int32)), .val (.int t1)] [])
  refine Runs.back (fun t_ k_ => XS.iconst X4.here hx rfl (hb hby d1_51) k_) ?_
  show Runs _ _ _ _ T4 (mkF m 52 #[.val (.ref r0), .val (.int p1), .val (.int y0), .val (.int (2 : Int32)), .val (.int t1)] [(.int (0 : Int32))])
  refine Runs.back (fun t_ k_ => XS.istore X4.here hx rfl (hb hby d1_52) rfl (l' := #[.val (.ref r0), .val (.int p1), .val (.int y0), .val (.int (2 : Int32)), .val (.int (0 : Int32))]) rfl k_) ?_
  show Runs _ _ _ _ T4 (mkF m 54 #[.val (.ref r0), .val (.int p1), .val (.int y0), .val (.int (2 : Int32)), .val (.int (0 : Int32))] [])
  refine Runs.back (fun t_ k_ => XS.iload X4.here hx rfl (hb hby d1_54) rfl k_) ?_
  show Runs _ _ _ _ T4 (mkF m 56 #[.val (.ref r0), .val (.int p1), .val (.int y0), .val (.int (2 : Int32)), .val (.int (0 : Int32))] [(.int (0 : Int32))])
  refine Runs.back (fun t_ k_ => XS.iloadN X4.here hx rfl (hb hby d1_56) rfl k_) ?_
  show Runs _ _ _ _ T4 (mkF m 57 #[.val (.ref r0), .val (.int p1), .val (.int y0), .val (.int (2 : Int32)), .val (.int (0 : Int32))] [(.int (2 : Int32)), (.int (0 : Int32))])
  refine Runs.back (fun t_ k_ => XS.icmpNo X4.here hx rfl (hb hby d1_57) rfl (tlt (show (0 : Int32) < (2 : Int32) from (by decide))).2.1 k_) ?_
  show Runs _ _ _ _ T4 (mkF m 60 #[.val (.ref r0), .val (.int p1), .val (.int y0), .val (.int (2 : Int32)), .val (.int (0 : Int32))] [])
  refine Runs.back (fun t_ k_ => XS.aloadN X4.here hx rfl (hb hby d1_60) rfl rfl k_) ?_
  show Runs _ _ _ _ T4 (mkF m 61 #[.val (.ref r0), .val (.int p1), .val (.int y0), .val (.int (2 : Int32)), .val (.int (0 : Int32))] [(.ref r0)])
  obtain ⟨T5, X5, e5, st5⟩ := getF X4 hx hZ hown (host := "") (Or.inl (hw _ (List.mem_of_getElem? (i := 17) rfl))) Via.refl e4 f4_Fld_1 (g := (mkF m 61 #[.val (.ref r0), .val (.int p1), .val (.int y0), .val (.int (2 : Int32)), .val (.int (0 : Int32))] [(.ref r0)])) rfl rfl (hb hby d1_61)
  refine Runs.back st5 ?_
  show Runs _ _ _ _ T5 (mkF m 64 #[.val (.ref r0), .val (.int p1), .val (.int y0), .val (.int (2 : Int32)), .val (.int (0 : Int32))] [(.ref lv)])
  refine Runs.back (fun t_ k_ => XS.iload X5.here hx rfl (hb hby d1_64) rfl k_) ?_
  show Runs _ _ _ _ T5 (mkF m 66 #[.val (.ref r0), .val (.int p1), .val (.int y0), .val (.int (2 : Int32)), .val (.int (0 : Int32))] [(.int (0 : Int32)), (.ref lv)])
  refine Runs.back (fun t_ k_ => XS.iloadN X5.here hx rfl (hb hby d1_66) rfl k_) ?_
  show Runs _ _ _ _ T5 (mkF m 67 #[.val (.ref r0), .val (.int p1), .val (.int y0), .val (.int (2 : Int32)), .val (.int (0 : Int32))] [(.int y0), (.int (0 : Int32)), (.ref lv)])
  have cy0 := clampI hy0
  obtain ⟨T6, h6, k6, X6, e6, E6, A6, EA6, st6⟩ := newPE X5 hx hZ (hw _ (List.mem_of_getElem? (i := 19) rfl)) e5 (g := (mkF m 67 #[.val (.ref r0), .val (.int p1), .val (.int y0), .val (.int (2 : Int32)), .val (.int (0 : Int32))] [(.int y0), (.int (0 : Int32)), (.ref lv)])) rfl (hb hby d1_67) rfl cy0.2 (cap := 16384) (by rw [cy0.1]; omega) (by decide) (by decide) (by decide) (ad := "[J") (by decide)
  obtain ⟨a0, g6⟩ : ∃ z, z = h4.size := ⟨_, rfl⟩
  rw [← g6] at A6 EA6 st6
  have g_a0 : n0 ≤ a0 := Nat.le_trans (Z4) (Nat.le_of_eq g6.symm)
  have ne_r0_a0 : r0 ≠ a0 := Nat.ne_of_lt (Nat.lt_of_lt_of_le f4_Exa_0.lt (Nat.le_of_eq g6.symm))
  have ne_lv_a0 : lv ≠ a0 := Nat.ne_of_lt (Nat.lt_of_lt_of_le f4_Qrr_2.lt (Nat.le_of_eq g6.symm))
  have f6_Exa_0 : Exa Z h6 r0 "com/example/tradewheel/tradewheel/SmallestFirst" := Exa.ext E6 f4_Exa_0
  have f6_Fld_1 : Fld Z h6 r0 "com/example/tradewheel/tradewheel/SmallestFirst" "levels" "[[J" (.ref lv) := Fld.ext E6 f4_Fld_1
  have f6_Qrr_2 : QArr Z h6 lv (.array .long) 2 (fun _ => Value.null) k3 := f4_Qrr_2.ext E6
  have Z6 : n0 ≤ h6.size := Nat.le_trans (Z4) E6.1
  have V6 : OArr Z h6 a0 .long (szN nn 0) (fun _ => (Value.long (0 : Int64))) := OArr.new A6 cy0.1 rfl
  refine Runs.back st6 ?_
  show Runs _ _ _ _ T6 (mkF m 69 #[.val (.ref r0), .val (.int p1), .val (.int y0), .val (.int (2 : Int32)), .val (.int (0 : Int32))] [(.ref a0), (.int (0 : Int32)), (.ref lv)])
  obtain ⟨cl7, Ar7, Kc7, S7, Hs7⟩ := id f6_Qrr_2
  obtain ⟨T7, h7, X7, e7, W7, st7⟩ := stR X6 hx hZ e6 Ar7 (j := (0 : Int32)) (by rw [S7]; exact inbO (by decide) (rfl : ((0 : Int32)).toNatClampNeg = 0) (by decide)) rfl (Sto.ofVA Ar7 Kc7 O3 (Ins.self EA6)) (g := (mkF m 69 #[.val (.ref r0), .val (.int p1), .val (.int y0), .val (.int (2 : Int32)), .val (.int (0 : Int32))] [(.ref a0), (.int (0 : Int32)), (.ref lv)])) rfl rfl (hb hby d1_69)
  have N7 := Fr.snoc X7 N4 g_lv
  obtain ⟨L7, X7, N7⟩ := hideL X7 N7
  rw [(rfl : ((0 : Int32)).toNatClampNeg = 0)] at W7
  have f7_Exa_0 : Exa Z h7 r0 "com/example/tradewheel/tradewheel/SmallestFirst" := Exa.wr W7 f6_Exa_0
  have f7_Fld_1 : Fld Z h7 r0 "com/example/tradewheel/tradewheel/SmallestFirst" "levels" "[[J" (.ref lv) := Fld.other W7 f6_Fld_1 (Or.inl ne_r0_lv)
  have f7_Qrr_2 : QArr Z h7 lv (.array .long) 2 (fun i => if i = 0 then (Value.ref a0) else (fun _ => Value.null) i) k3 := f6_Qrr_2.set W7
  have f7_Arr_3 : OArr Z h7 a0 .long (szN nn 0) (fun _ => (Value.long (0 : Int64))) := V6.other W7 (Ne.symm ne_lv_a0)
  have f7_Exa_4 : Exa Z h7 a0 "[J" := Exa.wr W7 EA6
  have Z7 : n0 ≤ h7.size := Nat.le_trans (Z6) (Nat.le_of_eq W7.size.symm)
  refine Runs.back st7 ?_
  show Runs _ _ _ _ T7 (mkF m 70 #[.val (.ref r0), .val (.int p1), .val (.int y0), .val (.int (2 : Int32)), .val (.int (0 : Int32))] [])
  refine Runs.back (fun t_ k_ => XS.iloadN X7.here hx rfl (hb hby d1_70) rfl k_) ?_
  show Runs _ _ _ _ T7 (mkF m 71 #[.val (.ref r0), .val (.int p1), .val (.int y0), .val (.int (2 : Int32)), .val (.int (0 : Int32))] [(.int y0)])
  refine Runs.back (fun t_ k_ => XS.bipush X7.here hx rfl (hb hby d1_71) k_) ?_
  show Runs _ _ _ _ T7 (mkF m 73 #[.val (.ref r0), .val (.int p1), .val (.int y0), .val (.int (2 : Int32)), .val (.int (0 : Int32))] [(.int (63 : Int32)), (.int y0)])
  refine Runs.back (fun t_ k_ => XS.iadd X7.here hx rfl (hb hby d1_73) rfl k_) ?_
  show Runs _ _ _ _ T7 (mkF m 74 #[.val (.ref r0), .val (.int p1), .val (.int y0), .val (.int (2 : Int32)), .val (.int (0 : Int32))] [(.int (y0 + (63 : Int32)))])
  refine Runs.back (fun t_ k_ => XS.bipush X7.here hx rfl (hb hby d1_74) k_) ?_
  show Runs _ _ _ _ T7 (mkF m 76 #[.val (.ref r0), .val (.int p1), .val (.int y0), .val (.int (2 : Int32)), .val (.int (0 : Int32))] [(.int (6 : Int32)), (.int (y0 + (63 : Int32)))])
  refine Runs.back (fun t_ k_ => XS.iushr X7.here hx rfl (hb hby d1_76) rfl k_) ?_
  show Runs _ _ _ _ T7 (mkF m 77 #[.val (.ref r0), .val (.int p1), .val (.int y0), .val (.int (2 : Int32)), .val (.int (0 : Int32))] [(.int (((y0 + (63 : Int32)).toUInt32 >>> ((6 : Int32) &&& 31).toUInt32).toInt32))])
  refine Runs.back (fun t_ k_ => XS.istoreN X7.here hx rfl (hb hby d1_77) rfl (l' := #[.val (.ref r0), .val (.int p1), .val (.int (((y0 + (63 : Int32)).toUInt32 >>> ((6 : Int32) &&& 31).toUInt32).toInt32)), .val (.int (2 : Int32)), .val (.int (0 : Int32))]) rfl k_) ?_
  show Runs _ _ _ _ T7 (mkF m 78 #[.val (.ref r0), .val (.int p1), .val (.int (((y0 + (63 : Int32)).toUInt32 >>> ((6 : Int32) &&& 31).toUInt32).toInt32)), .val (.int (2 : Int32)), .val (.int (0 : Int32))] [])
  refine Runs.back (fun t_ k_ => XS.iinc X7.here hx rfl (hb hby d1_78) rfl (l' := #[.val (.ref r0), .val (.int p1), .val (.int (((y0 + (63 : Int32)).toUInt32 >>> ((6 : Int32) &&& 31).toUInt32).toInt32)), .val (.int (2 : Int32)), .val (.int ((0 : Int32) + (1 : Int32)))]) rfl k_) ?_
  show Runs _ _ _ _ T7 (mkF m 81 #[.val (.ref r0), .val (.int p1), .val (.int (((y0 + (63 : Int32)).toUInt32 >>> ((6 : Int32) &&& 31).toUInt32).toInt32)), .val (.int (2 : Int32)), .val (.int ((0 : Int32) + (1 : Int32)))] [])
  rw [show ((0 : Int32) + (1 : Int32)) = (1 : Int32) from by decide]
  show Runs _ _ _ _ T7 (mkF m 81 #[.val (.ref r0), .val (.int p1), .val (.int (((y0 + (63 : Int32)).toUInt32 >>> ((6 : Int32) &&& 31).toUInt32).toInt32)), .val (.int (2 : Int32)), .val (.int (1 : Int32))] [])
  refine Runs.back (fun t_ k_ => XS.goto X7.here hx rfl (pc0 := 81) (pc' := 54) rfl (hb hby d1_81) (by decide) (by decide) k_) ?_
  show Runs _ _ _ _ T7 (mkF m 54 #[.val (.ref r0), .val (.int p1), .val (.int (((y0 + (63 : Int32)).toUInt32 >>> ((6 : Int32) &&& 31).toUInt32).toInt32)), .val (.int (2 : Int32)), .val (.int (1 : Int32))] [])
  have hy1 : ((((y0 + (63 : Int32)).toUInt32 >>> ((6 : Int32) &&& 31).toUInt32).toInt32)).toInt = ((szN nn 1 : Nat) : Int) := up63 (W := szN nn 0) hy0 (Nat.lt_of_le_of_lt hb0 (by decide))
  generalize ey1 : (((y0 + (63 : Int32)).toUInt32 >>> ((6 : Int32) &&& 31).toUInt32).toInt32) = y1 at hy1 ⊢
  show Runs _ _ _ _ T7 (mkF m 54 #[.val (.ref r0), .val (.int p1), .val (.int y1), .val (.int (2 : Int32)), .val (.int (1 : Int32))] [])
  refine Runs.back (fun t_ k_ => XS.iload X7.here hx rfl (hb hby d1_54) rfl k_) ?_
  show Runs _ _ _ _ T7 (mkF m 56 #[.val (.ref r0), .val (.int p1), .val (.int y1), .val (.int (2 : Int32)), .val (.int (1 : Int32))] [(.int (1 : Int32))])
  refine Runs.back (fun t_ k_ => XS.iloadN X7.here hx rfl (hb hby d1_56) rfl k_) ?_
  show Runs _ _ _ _ T7 (mkF m 57 #[.val (.ref r0), .val (.int p1), .val (.int y1), .val (.int (2 : Int32)), .val (.int (1 : Int32))] [(.int (2 : Int32)), (.int (1 : Int32))])
  refine Runs.back (fun t_ k_ => XS.icmpNo X7.here hx rfl (hb hby d1_57) rfl (tlt (show (1 : Int32) < (2 : Int32) from (by decide))).2.1 k_) ?_
  show Runs _ _ _ _ T7 (mkF m 60 #[.val (.ref r0), .val (.int p1), .val (.int y1), .val (.int (2 : Int32)), .val (.int (1 : Int32))] [])
  refine Runs.back (fun t_ k_ => XS.aloadN X7.here hx rfl (hb hby d1_60) rfl rfl k_) ?_
  show Runs _ _ _ _ T7 (mkF m 61 #[.val (.ref r0), .val (.int p1), .val (.int y1), .val (.int (2 : Int32)), .val (.int (1 : Int32))] [(.ref r0)])
  obtain ⟨T8, X8, e8, st8⟩ := getF X7 hx hZ hown (host := "") (Or.inl (hw _ (List.mem_of_getElem? (i := 17) rfl))) Via.refl e7 f7_Fld_1 (g := (mkF m 61 #[.val (.ref r0), .val (.int p1), .val (.int y1), .val (.int (2 : Int32)), .val (.int (1 : Int32))] [(.ref r0)])) rfl rfl (hb hby d1_61)
  refine Runs.back st8 ?_
  show Runs _ _ _ _ T8 (mkF m 64 #[.val (.ref r0), .val (.int p1), .val (.int y1), .val (.int (2 : Int32)), .val (.int (1 : Int32))] [(.ref lv)])
  refine Runs.back (fun t_ k_ => XS.iload X8.here hx rfl (hb hby d1_64) rfl k_) ?_
  show Runs _ _ _ _ T8 (mkF m 66 #[.val (.ref r0), .val (.int p1), .val (.int y1), .val (.int (2 : Int32)), .val (.int (1 : Int32))] [(.int (1 : Int32)), (.ref lv)])
  refine Runs.back (fun t_ k_ => XS.iloadN X8.here hx rfl (hb hby d1_66) rfl k_) ?_
  show Runs _ _ _ _ T8 (mkF m 67 #[.val (.ref r0), .val (.int p1), .val (.int y1), .val (.int (2 : Int32)), .val (.int (1 : Int32))] [(.int y1), (.int (1 : Int32)), (.ref lv)])
  have cy1 := clampI hy1
  obtain ⟨T9, h9, k9, X9, e9, E9, A9, EA9, st9⟩ := newPE X8 hx hZ (hw _ (List.mem_of_getElem? (i := 19) rfl)) e8 (g := (mkF m 67 #[.val (.ref r0), .val (.int p1), .val (.int y1), .val (.int (2 : Int32)), .val (.int (1 : Int32))] [(.int y1), (.int (1 : Int32)), (.ref lv)])) rfl (hb hby d1_67) rfl cy1.2 (cap := 256) (by rw [cy1.1]; omega) (by decide) (by decide) (by decide) (ad := "[J") (by decide)
  obtain ⟨a1, g9⟩ : ∃ z, z = h7.size := ⟨_, rfl⟩
  rw [← g9] at A9 EA9 st9
  have g_a1 : n0 ≤ a1 := Nat.le_trans (Z7) (Nat.le_of_eq g9.symm)
  have ne_r0_a1 : r0 ≠ a1 := Nat.ne_of_lt (Nat.lt_of_lt_of_le f7_Exa_0.lt (Nat.le_of_eq g9.symm))
  have ne_lv_a1 : lv ≠ a1 := Nat.ne_of_lt (Nat.lt_of_lt_of_le f7_Qrr_2.lt (Nat.le_of_eq g9.symm))
  have ne_a0_a1 : a0 ≠ a1 := Nat.ne_of_lt (Nat.lt_of_lt_of_le f7_Arr_3.lt (Nat.le_of_eq g9.symm))
  have f9_Exa_0 : Exa Z h9 r0 "com/example/tradewheel/tradewheel/SmallestFirst" := Exa.ext E9 f7_Exa_0
  have f9_Fld_1 : Fld Z h9 r0 "com/example/tradewheel/tradewheel/SmallestFirst" "levels" "[[J" (.ref lv) := Fld.ext E9 f7_Fld_1
  have f9_Qrr_2 : QArr Z h9 lv (.array .long) 2 (fun i => if i = 0 then (Value.ref a0) else (fun _ => Value.null) i) k3 := f7_Qrr_2.ext E9
  have f9_Arr_3 : OArr Z h9 a0 .long (szN nn 0) (fun _ => (Value.long (0 : Int64))) := f7_Arr_3.ext E9
  have f9_Exa_4 : Exa Z h9 a0 "[J" := Exa.ext E9 f7_Exa_4
  have Z9 : n0 ≤ h9.size := Nat.le_trans (Z7) E9.1
  have V9 : OArr Z h9 a1 .long (szN nn 1) (fun _ => (Value.long (0 : Int64))) := OArr.new A9 cy1.1 rfl
  refine Runs.back st9 ?_
  show Runs _ _ _ _ T9 (mkF m 69 #[.val (.ref r0), .val (.int p1), .val (.int y1), .val (.int (2 : Int32)), .val (.int (1 : Int32))] [(.ref a1), (.int (1 : Int32)), (.ref lv)])
  obtain ⟨cl10, Ar10, Kc10, S10, Hs10⟩ := id f9_Qrr_2
  obtain ⟨T10, h10, X10, e10, W10, st10⟩ := stR X9 hx hZ e9 Ar10 (j := (1 : Int32)) (by rw [S10]; exact inbO (by decide) (rfl : ((1 : Int32)).toNatClampNeg = 1) (by decide)) rfl (Sto.ofVA Ar10 Kc10 O3 (Ins.self EA9)) (g := (mkF m 69 #[.val (.ref r0), .val (.int p1), .val (.int y1), .val (.int (2 : Int32)), .val (.int (1 : Int32))] [(.ref a1), (.int (1 : Int32)), (.ref lv)])) rfl rfl (hb hby d1_69)
  have N10 := Fr.snoc X10 N7 g_lv
  obtain ⟨L10, X10, N10⟩ := hideL X10 N10
  rw [(rfl : ((1 : Int32)).toNatClampNeg = 1)] at W10
  have f10_Exa_0 : Exa Z h10 r0 "com/example/tradewheel/tradewheel/SmallestFirst" := Exa.wr W10 f9_Exa_0
  have f10_Fld_1 : Fld Z h10 r0 "com/example/tradewheel/tradewheel/SmallestFirst" "levels" "[[J" (.ref lv) := Fld.other W10 f9_Fld_1 (Or.inl ne_r0_lv)
  have f10_Qrr_2 : QArr Z h10 lv (.array .long) 2 (fun i => if i = 1 then (Value.ref a1) else (fun i => if i = 0 then (Value.ref a0) else (fun _ => Value.null) i) i) k3 := f9_Qrr_2.set W10
  have f10_Arr_3 : OArr Z h10 a0 .long (szN nn 0) (fun _ => (Value.long (0 : Int64))) := f9_Arr_3.other W10 (Ne.symm ne_lv_a0)
  have f10_Exa_4 : Exa Z h10 a0 "[J" := Exa.wr W10 f9_Exa_4
  have f10_Arr_5 : OArr Z h10 a1 .long (szN nn 1) (fun _ => (Value.long (0 : Int64))) := V9.other W10 (Ne.symm ne_lv_a1)
  have f10_Exa_6 : Exa Z h10 a1 "[J" := Exa.wr W10 EA9
  have Z10 : n0 ≤ h10.size := Nat.le_trans (Z9) (Nat.le_of_eq W10.size.symm)
  refine Runs.back st10 ?_
  show Runs _ _ _ _ T10 (mkF m 70 #[.val (.ref r0), .val (.int p1), .val (.int y1), .val (.int (2 : Int32)), .val (.int (1 : Int32))] [])
  refine Runs.back (fun t_ k_ => XS.iloadN X10.here hx rfl (hb hby d1_70) rfl k_) ?_
  show Runs _ _ _ _ T10 (mkF m 71 #[.val (.ref r0), .val (.int p1), .val (.int y1), .val (.int (2 : Int32)), .val (.int (1 : Int32))] [(.int y1)])
  refine Runs.back (fun t_ k_ => XS.bipush X10.here hx rfl (hb hby d1_71) k_) ?_
  show Runs _ _ _ _ T10 (mkF m 73 #[.val (.ref r0), .val (.int p1), .val (.int y1), .val (.int (2 : Int32)), .val (.int (1 : Int32))] [(.int (63 : Int32)), (.int y1)])
  refine Runs.back (fun t_ k_ => XS.iadd X10.here hx rfl (hb hby d1_73) rfl k_) ?_
  show Runs _ _ _ _ T10 (mkF m 74 #[.val (.ref r0), .val (.int p1), .val (.int y1), .val (.int (2 : Int32)), .val (.int (1 : Int32))] [(.int (y1 + (63 : Int32)))])
  refine Runs.back (fun t_ k_ => XS.bipush X10.here hx rfl (hb hby d1_74) k_) ?_
  show Runs _ _ _ _ T10 (mkF m 76 #[.val (.ref r0), .val (.int p1), .val (.int y1), .val (.int (2 : Int32)), .val (.int (1 : Int32))] [(.int (6 : Int32)), (.int (y1 + (63 : Int32)))])
  refine Runs.back (fun t_ k_ => XS.iushr X10.here hx rfl (hb hby d1_76) rfl k_) ?_
  show Runs _ _ _ _ T10 (mkF m 77 #[.val (.ref r0), .val (.int p1), .val (.int y1), .val (.int (2 : Int32)), .val (.int (1 : Int32))] [(.int (((y1 + (63 : Int32)).toUInt32 >>> ((6 : Int32) &&& 31).toUInt32).toInt32))])
  refine Runs.back (fun t_ k_ => XS.istoreN X10.here hx rfl (hb hby d1_77) rfl (l' := #[.val (.ref r0), .val (.int p1), .val (.int (((y1 + (63 : Int32)).toUInt32 >>> ((6 : Int32) &&& 31).toUInt32).toInt32)), .val (.int (2 : Int32)), .val (.int (1 : Int32))]) rfl k_) ?_
  show Runs _ _ _ _ T10 (mkF m 78 #[.val (.ref r0), .val (.int p1), .val (.int (((y1 + (63 : Int32)).toUInt32 >>> ((6 : Int32) &&& 31).toUInt32).toInt32)), .val (.int (2 : Int32)), .val (.int (1 : Int32))] [])
  refine Runs.back (fun t_ k_ => XS.iinc X10.here hx rfl (hb hby d1_78) rfl (l' := #[.val (.ref r0), .val (.int p1), .val (.int (((y1 + (63 : Int32)).toUInt32 >>> ((6 : Int32) &&& 31).toUInt32).toInt32)), .val (.int (2 : Int32)), .val (.int ((1 : Int32) + (1 : Int32)))]) rfl k_) ?_
  show Runs _ _ _ _ T10 (mkF m 81 #[.val (.ref r0), .val (.int p1), .val (.int (((y1 + (63 : Int32)).toUInt32 >>> ((6 : Int32) &&& 31).toUInt32).toInt32)), .val (.int (2 : Int32)), .val (.int ((1 : Int32) + (1 : Int32)))] [])
  rw [show ((1 : Int32) + (1 : Int32)) = (2 : Int32) from by decide]
  show Runs _ _ _ _ T10 (mkF m 81 #[.val (.ref r0), .val (.int p1), .val (.int (((y1 + (63 : Int32)).toUInt32 >>> ((6 : Int32) &&& 31).toUInt32).toInt32)), .val (.int (2 : Int32)), .val (.int (2 : Int32))] [])
  refine Runs.back (fun t_ k_ => XS.goto X10.here hx rfl (pc0 := 81) (pc' := 54) rfl (hb hby d1_81) (by decide) (by decide) k_) ?_
  show Runs _ _ _ _ T10 (mkF m 54 #[.val (.ref r0), .val (.int p1), .val (.int (((y1 + (63 : Int32)).toUInt32 >>> ((6 : Int32) &&& 31).toUInt32).toInt32)), .val (.int (2 : Int32)), .val (.int (2 : Int32))] [])
  refine Runs.back (fun t_ k_ => XS.iload X10.here hx rfl (hb hby d1_54) rfl k_) ?_
  show Runs _ _ _ _ T10 (mkF m 56 #[.val (.ref r0), .val (.int p1), .val (.int (((y1 + (63 : Int32)).toUInt32 >>> ((6 : Int32) &&& 31).toUInt32).toInt32)), .val (.int (2 : Int32)), .val (.int (2 : Int32))] [(.int (2 : Int32))])
  refine Runs.back (fun t_ k_ => XS.iloadN X10.here hx rfl (hb hby d1_56) rfl k_) ?_
  show Runs _ _ _ _ T10 (mkF m 57 #[.val (.ref r0), .val (.int p1), .val (.int (((y1 + (63 : Int32)).toUInt32 >>> ((6 : Int32) &&& 31).toUInt32).toInt32)), .val (.int (2 : Int32)), .val (.int (2 : Int32))] [(.int (2 : Int32)), (.int (2 : Int32))])
  refine Runs.back (fun t_ k_ => XS.icmpYes X10.here hx rfl (pc0 := 57) (pc' := 84) rfl (hb hby d1_57) rfl (flt (show ¬ ((2 : Int32) < (2 : Int32)) from (by decide))).2.1 (by decide) (by decide) k_) ?_
  show Runs _ _ _ _ T10 (mkF m 84 #[.val (.ref r0), .val (.int p1), .val (.int (((y1 + (63 : Int32)).toUInt32 >>> ((6 : Int32) &&& 31).toUInt32).toInt32)), .val (.int (2 : Int32)), .val (.int (2 : Int32))] [])
  obtain ⟨fs, hr, hrun, hended, hW, hsame⟩ := X10.leave (v := none) (fun _ => rfl)
  exact ⟨_, _, (X10.returnOut hx Bd.returns (hb hby d1_84) hr), hrun, hended, _, _, rfl, (by show Q1d2 Z r0 p1 v1 nn h0 n0 _ T10.heap _; rw [e10]; exact ⟨lv, fun i => if i = 1 then a1 else a0, rfl, N10, f10_Exa_0, f10_Fld_1, OArr.congr (QArr.toO f10_Qrr_2) (fun i hi => match i, hi with | 0, _ => rfl | 1, _ => rfl), (fun i hi => match i, hi with | 0, _ => ⟨g_a0, OArr.congr f10_Arr_3 fun j _ => rfl⟩ | 1, _ => ⟨g_a1, OArr.congr f10_Arr_5 fun j _ => rfl⟩), (fun i j hi hj hne => match i, j, hi, hj, hne with | 0, 0, _, _, hne => absurd rfl hne | 0, 1, _, _, hne => ne_a0_a1 | 1, 0, _, _, hne => (Ne.symm ne_a0_a1) | 1, 1, _, _, hne => absurd rfl hne), (fun i hi => match i, hi with | 0, _ => ⟨(Ne.symm ne_lv_a0), (Ne.symm ne_r0_a0)⟩ | 1, _ => ⟨(Ne.symm ne_lv_a1), (Ne.symm ne_r0_a1)⟩)⟩), ⟨_, rfl⟩, hW, hsame.mono (by decide) (by decide)⟩
theorem pn_1d3 : plainName "com/example/tradewheel/tradewheel/SmallestFirst" = true := by first | (simp [plainName, overriddenIn]; done) | decide +kernel
theorem pd1d3_0 : parseMethodDescriptor "(II)I" = some ⟨[.int, .int], some .int⟩ := by decide +kernel
theorem ef_1d3 (m : MethodId) (r0 : Addr) (p1 : Int32) : entryFrame m #[(.ref r0), (.int p1)] 5 = mkF m 0 #[.val (.ref r0), .val (.int p1), .unset, .unset, .unset] [] := by first | (simp [entryFrame, mkF, argsToLocals, Value.category]; done) | rfl
def Q1d3 (Z : State) (r0 : Addr) (p1 : Int32) (v1 : Value) (nn : Nat) (h0 : Heap) (n0 : Nat) (v : Option Value) (h : Heap) (L : List Loc) : Prop := ∃ lv A, v = none ∧ Fr n0 L ∧ SF Z h n0 r0 lv A (szN nn) 3 (wd [])
set_option maxRecDepth 65536 in
set_option maxHeartbeats 40000000 in
theorem rm1d3 (l : Launch) (Z : State) (a0 : Array Value) (hw : ∀ d ∈ tables_1, d.before a0 Z = true) (ws : List Jvm.Cond) (r0 : Addr) (p1 : Int32) (v1 : Value) (nn : Nat) (h0 : Heap) (n0 : Nat) (Z0 : n0 ≤ h0.size) (E_r0 : Exa Z h0 r0 "com/example/tradewheel/tradewheel/SmallestFirst") (F1 : Fld Z h0 r0 "com/example/tradewheel/tradewheel/SmallestFirst" "levels" "[[J" v1) (g_r0 : n0 ≤ r0) (hn : p1.toInt = (nn : Int)) (hn1 : 1 ≤ nn ∧ nn ≤ 1048576) (hb0 : szN nn 0 ≤ 16384) (hb1 : szN nn 1 ≤ 256) (hb2 : szN nn 2 ≤ 4) (hb3 : szN nn 3 ≤ 1) (hg0 : 1 < szN nn 0) (hg1 : 1 < szN nn 1) (hgD : szN nn 2 = 1) :
    MetFree l (⟨"com/example/tradewheel/tradewheel/SmallestFirst", "<init>", "(I)V"⟩ : MethodName) (head1 (Jvm.Cond.code (⟨"com/example/tradewheel/tradewheel/SmallestFirst", "<init>", "(I)V"⟩ : MethodName) prog_42_method_1_code 5 none :: ws) ({ frames := 1, cells := 5, slots := 16650, locals := 13 } : Room)) (fun a U => a = #[(.ref r0), (.int p1)] ∧ Z.Warmed39 U.vm ∧ U.heap = h0) (fun _ _ _ _ _ => True) (fun _ U o U' => ∃ v L, o = .returned v ∧ Q1d3 Z r0 p1 v1 nn h0 n0 v U'.heap L ∧ FrameEnd U o U' L ({ frames := 1, cells := 5, slots := 16650, locals := 13 } : Room).cells ({ frames := 1, cells := 5, slots := 16650, locals := 13 } : Room).slots) := by
  refine MetFree.of_bodySF (plainFor_of_name pn_1d3) hisR ?_
  intro p e s m args below meth c s₁ Bd hml0 hP hK
  obtain ⟨rfl, hZ, hh⟩ := hP
  have hx := Bd.exec
  have hby := Bd.bytes
  have hml : c.maxLocals = 5 := hml0
  have hown : s.vm.findClass "com/example/tradewheel/tradewheel/SmallestFirst" = some m.cls := findClass_of_methodNamed Bd.named
  have hnm := (name_of_methodNamed Bd.named Bd.method).1
  have X0 : Stand p l e ({ frames := 1, cells := 5, slots := 16650, locals := 13 } : Room) s m #[(.ref r0), (.int p1)] below meth c s₁ [] 0 0 := Stand.of_body Bd
  have e0 : s₁.heap = h0 := by rw [← hh, Bd.state]; rfl
  have N0 := Fr.nil n0
  refine Runs.enter (ef_1d3 m r0 p1) ?_
  show Runs _ _ _ _ s₁ (mkF m 0 #[.val (.ref r0), .val (.int p1), .unset, .unset, .unset] [])
  refine Runs.back (fun t_ k_ => XS.aloadN X0.here hx rfl (hb hby d1_0) rfl rfl k_) ?_
  show Runs _ _ _ _ s₁ (mkF m 1 #[.val (.ref r0), .val (.int p1), .unset, .unset, .unset] [(.ref r0)])
  obtain ⟨T1, X1, e1, st1⟩ := initO X0 hx hZ hown (hw _ (List.mem_of_getElem? (i := 8) rfl)) (hw _ (List.mem_of_getElem? (i := 9) rfl)) (hw _ (List.mem_of_getElem? (i := 10) rfl)) e0 (g := (mkF m 1 #[.val (.ref r0), .val (.int p1), .unset, .unset, .unset] [(.ref r0)])) rfl (by rw [hml]; rfl) rfl (hb hby d1_1) (by decide) (W := 0) (by show 2 * 0 + _ ≤ _; exact Nat.le_of_eq rfl) (by decide)
  refine Runs.back st1 ?_
  show Runs _ _ _ _ T1 (mkF m 4 #[.val (.ref r0), .val (.int p1), .unset, .unset, .unset] [])
  refine Runs.back (fun t_ k_ => XS.iconst X1.here hx rfl (hb hby d1_4) k_) ?_
  show Runs _ _ _ _ T1 (mkF m 5 #[.val (.ref r0), .val (.int p1), .unset, .unset, .unset] [(.int (1 : Int32))])
  refine Runs.back (fun t_ k_ => XS.iloadN X1.here hx rfl (hb hby d1_5) rfl k_) ?_
  show Runs _ _ _ _ T1 (mkF m 6 #[.val (.ref r0), .val (.int p1), .unset, .unset, .unset] [(.int p1), (.int (1 : Int32))])
  refine Runs.back (fun t_ k_ => XS.bipush X1.here hx rfl (hb hby d1_6) k_) ?_
  show Runs _ _ _ _ T1 (mkF m 8 #[.val (.ref r0), .val (.int p1), .unset, .unset, .unset] [(.int (63 : Int32)), (.int p1), (.int (1 : Int32))])
  refine Runs.back (fun t_ k_ => XS.iadd X1.here hx rfl (hb hby d1_8) rfl k_) ?_
  show Runs _ _ _ _ T1 (mkF m 9 #[.val (.ref r0), .val (.int p1), .unset, .unset, .unset] [(.int (p1 + (63 : Int32))), (.int (1 : Int32))])
  refine Runs.back (fun t_ k_ => XS.bipush X1.here hx rfl (hb hby d1_9) k_) ?_
  show Runs _ _ _ _ T1 (mkF m 11 #[.val (.ref r0), .val (.int p1), .unset, .unset, .unset] [(.int (6 : Int32)), (.int (p1 + (63 : Int32))), (.int (1 : Int32))])
  refine Runs.back (fun t_ k_ => XS.iushr X1.here hx rfl (hb hby d1_11) rfl k_) ?_
  show Runs _ _ _ _ T1 (mkF m 12 #[.val (.ref r0), .val (.int p1), .unset, .unset, .unset] [(.int (((p1 + (63 : Int32)).toUInt32 >>> ((6 : Int32) &&& 31).toUInt32).toInt32)), (.int (1 : Int32))])
  obtain ⟨_, _, ⟨T2, L2, k2, n2⟩, -, X2, ⟨Lc2, hQ2, l2, y2, z2⟩, st2⟩ := Jvm.LawKit.callS X1 hx (y := (⟨"java/lang/Math", "max", "(II)I"⟩ : MethodName)) hown (mvT hZ (hw _ (List.mem_of_getElem? (i := 11) rfl))) (mvT hZ (hw _ (List.mem_of_getElem? (i := 12) rfl))) (mvT hZ (hw _ (List.mem_of_getElem? (i := 13) rfl))) (mvT hZ (hw _ (List.mem_of_getElem? (i := 14) rfl))) (by decide) (backOf (W := 0) (rm3 l Z a0 hw [] (1 : Int32) (((p1 + (63 : Int32)).toUInt32 >>> ((6 : Int32) &&& 31).toUInt32).toInt32) h0 n0 (Z0)) hZ (hw _ (List.mem_of_getElem? (i := 14) rfl)) (hw _ (List.mem_of_getElem? (i := 13) rfl)) (by decide) (by decide)) (g := (mkF m 12 #[.val (.ref r0), .val (.int p1), .unset, .unset, .unset] [(.int (((p1 + (63 : Int32)).toUInt32 >>> ((6 : Int32) &&& 31).toUInt32).toInt32)), (.int (1 : Int32))])) rfl (by rw [hml]; rfl) (argsL := [(.int (1 : Int32)), (.int (((p1 + (63 : Int32)).toUInt32 >>> ((6 : Int32) &&& 31).toUInt32).toInt32))]) (rest := []) (lenOf pd1d3_0 rfl) rfl (by show 2 * 0 + _ ≤ _; exact Nat.le_of_eq rfl) (hb hby d1_12) (fun _ _ => ⟨rfl, e1, (by decide : 0 + 0 ≤ _), (by decide : 0 + 0 ≤ _)⟩)
  dsimp only [Pt.U, Pt.locs, Pt.cells, Pt.slots] at X2 l2 y2 z2 st2 hQ2
  obtain rfl : k2 = 0 := y2
  obtain rfl : n2 = 0 := z2
  obtain ⟨rfl, N2q, eq2⟩ := hQ2
  have N2 : Fr n0 L2 := by rw [l2]; exact Fr.app N0 N2q
  clear l2
  refine Runs.back st2 ?_
  show Runs _ _ _ _ T2 (mkF m 15 #[.val (.ref r0), .val (.int p1), .unset, .unset, .unset] [(.int (maxF (1 : Int32) (((p1 + (63 : Int32)).toUInt32 >>> ((6 : Int32) &&& 31).toUInt32).toInt32)))])
  have hy0 : ((maxF (1 : Int32) (((p1 + (63 : Int32)).toUInt32 >>> ((6 : Int32) &&& 31).toUInt32).toInt32))).toInt = ((szN nn 0 : Nat) : Int) := max_val (up63 hn (by omega))
  generalize ey0 : (maxF (1 : Int32) (((p1 + (63 : Int32)).toUInt32 >>> ((6 : Int32) &&& 31).toUInt32).toInt32)) = y0 at hy0 ⊢
  show Runs _ _ _ _ T2 (mkF m 15 #[.val (.ref r0), .val (.int p1), .unset, .unset, .unset] [(.int y0)])
  refine Runs.back (fun t_ k_ => XS.istoreN X2.here hx rfl (hb hby d1_15) rfl (l' := #[.val (.ref r0), .val (.int p1), .val (.int y0), .unset, .unset]) rfl k_) ?_
  show Runs _ _ _ _ T2 (mkF m 16 #[.val (.ref r0), .val (.int p1), .val (.int y0), .unset, .unset] [])
  refine Runs.back (fun t_ k_ => XS.iconst X2.here hx rfl (hb hby d1_16) k_) ?_
  show Runs _ _ _ _ T2 (mkF m 17 #[.val (.ref r0), .val (.int p1), .val (.int y0), .unset, .unset] [(.int (1 : Int32))])
  refine Runs.back (fun t_ k_ => XS.istoreN X2.here hx rfl (hb hby d1_17) rfl (l' := #[.val (.ref r0), .val (.int p1), .val (.int y0), .val (.int (1 : Int32)), .unset]) rfl k_) ?_
  show Runs _ _ _ _ T2 (mkF m 18 #[.val (.ref r0), .val (.int p1), .val (.int y0), .val (.int (1 : Int32)), .unset] [])
  refine Runs.back (fun t_ k_ => XS.iloadN X2.here hx rfl (hb hby d1_18) rfl k_) ?_
  show Runs _ _ _ _ T2 (mkF m 19 #[.val (.ref r0), .val (.int p1), .val (.int y0), .val (.int (1 : Int32)), .unset] [(.int y0)])
  refine Runs.back (fun t_ k_ => XS.istore X2.here hx rfl (hb hby d1_19) rfl (l' := #[.val (.ref r0), .val (.int p1), .val (.int y0), .val (.int (1 : Int32)), .val (.int y0)]) rfl k_) ?_
  show Runs _ _ _ _ T2 (mkF m 21 #[.val (.ref r0), .val (.int p1), .val (.int y0), .val (.int (1 : Int32)), .val (.int y0)] [])
  have ht0 : y0.toInt = ((szN nn 0 : Nat) : Int) := hy0
  refine Runs.back (fun t_ k_ => XS.iload X2.here hx rfl (hb hby d1_21) rfl k_) ?_
  show Runs _ _ _ _ T2 (mkF m 23 #[.val (.ref r0), .val (.int p1), .val (.int y0), .val (.int (1 : Int32)), .val (.int y0)] [(.int y0)])
  refine Runs.back (fun t_ k_ => XS.iconst X2.here hx rfl (hb hby d1_23) k_) ?_
  show Runs _ _ _ _ T2 (mkF m 24 #[.val (.ref r0), .val (.int p1), .val (.int y0), .val (.int (1 : Int32)), .val (.int y0)] [(.int (1 : Int32)), (.int y0)])
  refine Runs.back (fun t_ k_ => XS.icmpNo X2.here hx rfl (hb hby d1_24) rfl (tlt (show (1 : Int32) < y0 from (by rw [lti, o32, ht0]; omega))).2.2.2 k_) ?_
  show Runs _ _ _ _ T2 (mkF m 27 #[.val (.ref r0), .val (.int p1), .val (.int y0), .val (.int (1 : Int32)), .val (.int y0)] [])
  refine Runs.back (fun t_ k_ => XS.iinc X2.here hx rfl (hb hby d1_27) rfl (l' := #[.val (.ref r0), .val (.int p1), .val (.int y0), .val (.int ((1 : Int32) + (1 : Int32))), .val (.int y0)]) rfl k_) ?_
  show Runs _ _ _ _ T2 (mkF m 30 #[.val (.ref r0), .val (.int p1), .val (.int y0), .val (.int ((1 : Int32) + (1 : Int32))), .val (.int y0)] [])
  rw [show ((1 : Int32) + (1 : Int32)) = (2 : Int32) from by decide]
  show Runs _ _ _ _ T2 (mkF m 30 #[.val (.ref r0), .val (.int p1), .val (.int y0), .val (.int (2 : Int32)), .val (.int y0)] [])
  refine Runs.back (fun t_ k_ => XS.iload X2.here hx rfl (hb hby d1_30) rfl k_) ?_
  show Runs _ _ _ _ T2 (mkF m 32 #[.val (.ref r0), .val (.int p1), .val (.int y0), .val (.int (2 : Int32)), .val (.int y0)] [(.int y0)])
  refine Runs.back (fun t_ k_ => XS.bipush X2.here hx rfl (hb hby d1_32) k_) ?_
  show Runs _ _ _ _ T2 (mkF m 34 #[.val (.ref r0), .val (.int p1), .val (.int y0), .val (.int (2 : Int32)), .val (.int y0)] [(.int (63 : Int32)), (.int y0)])
  refine Runs.back (fun t_ k_ => XS.iadd X2.here hx rfl (hb hby d1_34) rfl k_) ?_
  show Runs _ _ _ _ T2 (mkF m 35 #[.val (.ref r0), .val (.int p1), .val (.int y0), .val (.int (2 : Int32)), .val (.int y0)] [(.int (y0 + (63 : Int32)))])
  refine Runs.back (fun t_ k_ => XS.bipush X2.here hx rfl (hb hby d1_35) k_) ?_
  show Runs _ _ _ _ T2 (mkF m 37 #[.val (.ref r0), .val (.int p1), .val (.int y0), .val (.int (2 : Int32)), .val (.int y0)] [(.int (6 : Int32)), (.int (y0 + (63 : Int32)))])
  refine Runs.back (fun t_ k_ => XS.iushr X2.here hx rfl (hb hby d1_37) rfl k_) ?_
  show Runs _ _ _ _ T2 (mkF m 38 #[.val (.ref r0), .val (.int p1), .val (.int y0), .val (.int (2 : Int32)), .val (.int y0)] [(.int (((y0 + (63 : Int32)).toUInt32 >>> ((6 : Int32) &&& 31).toUInt32).toInt32))])
  refine Runs.back (fun t_ k_ => XS.istore X2.here hx rfl (hb hby d1_38) rfl (l' := #[.val (.ref r0), .val (.int p1), .val (.int y0), .val (.int (2 : Int32)), .val (.int (((y0 + (63 : Int32)).toUInt32 >>> ((6 : Int32) &&& 31).toUInt32).toInt32))]) rfl k_) ?_
  show Runs _ _ _ _ T2 (mkF m 40 #[.val (.ref r0), .val (.int p1), .val (.int y0), .val (.int (2 : Int32)), .val (.int (((y0 + (63 : Int32)).toUInt32 >>> ((6 : Int32) &&& 31).toUInt32).toInt32))] [])
  refine Runs.back (fun t_ k_ => XS.goto X2.here hx rfl (pc0 := 40) (pc' := 21) rfl (hb hby d1_40) (by decide) (by decide) k_) ?_
  show Runs _ _ _ _ T2 (mkF m 21 #[.val (.ref r0), .val (.int p1), .val (.int y0), .val (.int (2 : Int32)), .val (.int (((y0 + (63 : Int32)).toUInt32 >>> ((6 : Int32) &&& 31).toUInt32).toInt32))] [])
  have ht1 : ((((y0 + (63 : Int32)).toUInt32 >>> ((6 : Int32) &&& 31).toUInt32).toInt32)).toInt = ((szN nn 1 : Nat) : Int) := up63 (W := szN nn 0) ht0 (Nat.lt_of_le_of_lt hb0 (by decide))
  generalize et1 : (((y0 + (63 : Int32)).toUInt32 >>> ((6 : Int32) &&& 31).toUInt32).toInt32) = t1 at ht1 ⊢
  show Runs _ _ _ _ T2 (mkF m 21 #[.val (.ref r0), .val (.int p1), .val (.int y0), .val (.int (2 : Int32)), .val (.int t1)] [])
  refine Runs.back (fun t_ k_ => XS.iload X2.here hx rfl (hb hby d1_21) rfl k_) ?_
  show Runs _ _ _ _ T2 (mkF m 23 #[.val (.ref r0), .val (.int p1), .val (.int y0), .val (.int (2 : Int32)), .val (.int t1)] [(.int t1)])
  refine Runs.back (fun t_ k_ => XS.iconst X2.here hx rfl (hb hby d1_23) k_) ?_
  show Runs _ _ _ _ T2 (mkF m 24 #[.val (.ref r0), .val (.int p1), .val (.int y0), .val (.int (2 : Int32)), .val (.int t1)] [(.int (1 : Int32)), (.int t1)])
  refine Runs.back (fun t_ k_ => XS.icmpNo X2.here hx rfl (hb hby d1_24) rfl (tlt (show (1 : Int32) < t1 from (by rw [lti, o32, ht1]; omega))).2.2.2 k_) ?_
  show Runs _ _ _ _ T2 (mkF m 27 #[.val (.ref r0), .val (.int p1), .val (.int y0), .val (.int (2 : Int32)), .val (.int t1)] [])
  refine Runs.back (fun t_ k_ => XS.iinc X2.here hx rfl (hb hby d1_27) rfl (l' := #[.val (.ref r0), .val (.int p1), .val (.int y0), .val (.int ((2 : Int32) + (1 : Int32))), .val (.int t1)]) rfl k_) ?_
  show Runs _ _ _ _ T2 (mkF m 30 #[.val (.ref r0), .val (.int p1), .val (.int y0), .val (.int ((2 : Int32) + (1 : Int32))), .val (.int t1)] [])
  rw [show ((2 : Int32) + (1 : Int32)) = (3 : Int32) from by decide]
  show Runs _ _ _ _ T2 (mkF m 30 #[.val (.ref r0), .val (.int p1), .val (.int y0), .val (.int (3 : Int32)), .val (.int t1)] [])
  refine Runs.back (fun t_ k_ => XS.iload X2.here hx rfl (hb hby d1_30) rfl k_) ?_
  show Runs _ _ _ _ T2 (mkF m 32 #[.val (.ref r0), .val (.int p1), .val (.int y0), .val (.int (3 : Int32)), .val (.int t1)] [(.int t1)])
  refine Runs.back (fun t_ k_ => XS.bipush X2.here hx rfl (hb hby d1_32) k_) ?_
  show Runs _ _ _ _ T2 (mkF m 34 #[.val (.ref r0), .val (.int p1), .val (.int y0), .val (.int (3 : Int32)), .val (.int t1)] [(.int (63 : Int32)), (.int t1)])
  refine Runs.back (fun t_ k_ => XS.iadd X2.here hx rfl (hb hby d1_34) rfl k_) ?_
  show Runs _ _ _ _ T2 (mkF m 35 #[.val (.ref r0), .val (.int p1), .val (.int y0), .val (.int (3 : Int32)), .val (.int t1)] [(.int (t1 + (63 : Int32)))])
  refine Runs.back (fun t_ k_ => XS.bipush X2.here hx rfl (hb hby d1_35) k_) ?_
  show Runs _ _ _ _ T2 (mkF m 37 #[.val (.ref r0), .val (.int p1), .val (.int y0), .val (.int (3 : Int32)), .val (.int t1)] [(.int (6 : Int32)), (.int (t1 + (63 : Int32)))])
  refine Runs.back (fun t_ k_ => XS.iushr X2.here hx rfl (hb hby d1_37) rfl k_) ?_
  show Runs _ _ _ _ T2 (mkF m 38 #[.val (.ref r0), .val (.int p1), .val (.int y0), .val (.int (3 : Int32)), .val (.int t1)] [(.int (((t1 + (63 : Int32)).toUInt32 >>> ((6 : Int32) &&& 31).toUInt32).toInt32))])
  refine Runs.back (fun t_ k_ => XS.istore X2.here hx rfl (hb hby d1_38) rfl (l' := #[.val (.ref r0), .val (.int p1), .val (.int y0), .val (.int (3 : Int32)), .val (.int (((t1 + (63 : Int32)).toUInt32 >>> ((6 : Int32) &&& 31).toUInt32).toInt32))]) rfl k_) ?_
  show Runs _ _ _ _ T2 (mkF m 40 #[.val (.ref r0), .val (.int p1), .val (.int y0), .val (.int (3 : Int32)), .val (.int (((t1 + (63 : Int32)).toUInt32 >>> ((6 : Int32) &&& 31).toUInt32).toInt32))] [])
  refine Runs.back (fun t_ k_ => XS.goto X2.here hx rfl (pc0 := 40) (pc' := 21) rfl (hb hby d1_40) (by decide) (by decide) k_) ?_
  show Runs _ _ _ _ T2 (mkF m 21 #[.val (.ref r0), .val (.int p1), .val (.int y0), .val (.int (3 : Int32)), .val (.int (((t1 + (63 : Int32)).toUInt32 >>> ((6 : Int32) &&& 31).toUInt32).toInt32))] [])
  have ht2 : ((((t1 + (63 : Int32)).toUInt32 >>> ((6 : Int32) &&& 31).toUInt32).toInt32)).toInt = ((szN nn 2 : Nat) : Int) := up63 (W := szN nn 1) ht1 (Nat.lt_of_le_of_lt hb1 (by decide))
  generalize et2 : (((t1 + (63 : Int32)).toUInt32 >>> ((6 : Int32) &&& 31).toUInt32).toInt32) = t2 at ht2 ⊢
  show Runs _ _ _ _ T2 (mkF m 21 #[.val (.ref r0), .val (.int p1), .val (.int y0), .val (.int (3 : Int32)), .val (.int t2)] [])
  refine Runs.back (fun t_ k_ => XS.iload X2.here hx rfl (hb hby d1_21) rfl k_) ?_
  show Runs _ _ _ _ T2 (mkF m 23 #[.val (.ref r0), .val (.int p1), .val (.int y0), .val (.int (3 : Int32)), .val (.int t2)] [(.int t2)])
  refine Runs.back (fun t_ k_ => XS.iconst X2.here hx rfl (hb hby d1_23) k_) ?_
  show Runs _ _ _ _ T2 (mkF m 24 #[.val (.ref r0), .val (.int p1), .val (.int y0), .val (.int (3 : Int32)), .val (.int t2)] [(.int (1 : Int32)), (.int t2)])
  refine Runs.back (fun t_ k_ => XS.icmpYes X2.here hx rfl (pc0 := 24) (pc' := 43) rfl (hb hby d1_24) rfl (flt (show ¬ ((1 : Int32) < t2) from (by rw [lti, o32, ht2]; omega))).2.2.2 (by decide) (by decide) k_) ?_
  show Runs _ _ _ _ T2 (mkF m 43 #[.val (.ref r0), .val (.int p1), .val (.int y0), .val (.int (3 : Int32)), .val (.int t2)] [])
  refine Runs.back (fun t_ k_ => XS.aloadN X2.here hx rfl (hb hby d1_43) rfl rfl k_) ?_
  show Runs _ _ _ _ T2 (mkF m 44 #[.val (.ref r0), .val (.int p1), .val (.int y0), .val (.int (3 : Int32)), .val (.int t2)] [(.ref r0)])
  refine Runs.back (fun t_ k_ => XS.iloadN X2.here hx rfl (hb hby d1_44) rfl k_) ?_
  show Runs _ _ _ _ T2 (mkF m 45 #[.val (.ref r0), .val (.int p1), .val (.int y0), .val (.int (3 : Int32)), .val (.int t2)] [(.int (3 : Int32)), (.ref r0)])
  obtain ⟨T3, h3, k3, X3, e3, E3, A3, EA3, O3, st3⟩ := newRA X2 hx hZ (C := "[J") (ty := .long) hown (by decide) (hw _ (List.mem_of_getElem? (i := 15) rfl)) (hw _ (List.mem_of_getElem? (i := 16) rfl)) eq2 (g := (mkF m 45 #[.val (.ref r0), .val (.int p1), .val (.int y0), .val (.int (3 : Int32)), .val (.int t2)] [(.int (3 : Int32)), (.ref r0)])) rfl (hb hby d1_45) rfl (by decide) (cap := 3) (by decide) (by decide) (by decide) (by decide) (ad := "[[J") (by decide)
  obtain ⟨lv, g3⟩ : ∃ z, z = h0.size := ⟨_, rfl⟩
  rw [← g3] at A3 EA3 st3
  have g_lv : n0 ≤ lv := Nat.le_trans (Z0) (Nat.le_of_eq g3.symm)
  have ne_r0_lv : r0 ≠ lv := Nat.ne_of_lt (Nat.lt_of_lt_of_le E_r0.lt (Nat.le_of_eq g3.symm))
  have f3_Exa_0 : Exa Z h3 r0 "com/example/tradewheel/tradewheel/SmallestFirst" := Exa.ext E3 E_r0
  have f3_Fld_1 : Fld Z h3 r0 "com/example/tradewheel/tradewheel/SmallestFirst" "levels" "[[J" v1 := Fld.ext E3 F1
  have Z3 : n0 ≤ h3.size := Nat.le_trans (Z0) E3.1
  have V3 : QArr Z h3 lv (.array .long) 3 (fun _ => Value.null) k3 := QArr.new A3 rfl rfl
  refine Runs.back st3 ?_
  show Runs _ _ _ _ T3 (mkF m 48 #[.val (.ref r0), .val (.int p1), .val (.int y0), .val (.int (3 : Int32)), .val (.int t2)] [(.ref lv), (.ref r0)])
  obtain ⟨T4, h4, X4, e4, W4, st4⟩ := putF X3 hx hZ hown (host := "") (Or.inl (hw _ (List.mem_of_getElem? (i := 17) rfl))) Via.refl e3 f3_Fld_1 f3_Exa_0 (Or.inr ⟨(hw _ (List.mem_of_getElem? (i := 18) rfl)), rfl, hnm⟩) (hw _ (List.mem_of_getElem? (i := 3) rfl)) (ty := (.array (.array .long))) (by decide) rfl rfl (g := (mkF m 48 #[.val (.ref r0), .val (.int p1), .val (.int y0), .val (.int (3 : Int32)), .val (.int t2)] [(.ref lv), (.ref r0)])) rfl rfl (hb hby d1_48)
  have f4_Exa_0 : Exa Z h4 r0 "com/example/tradewheel/tradewheel/SmallestFirst" := Exa.wr W4 f3_Exa_0
  have f4_Fld_1 : Fld Z h4 r0 "com/example/tradewheel/tradewheel/SmallestFirst" "levels" "[[J" (.ref lv) := Fld.same W4 f3_Fld_1
  have f4_Qrr_2 : QArr Z h4 lv (.array .long) 3 (fun _ => Value.null) k3 := V3.other W4 (Ne.symm ne_r0_lv)
  have N4 := Fr.snoc X4 N2 g_r0
  obtain ⟨L4, X4, N4⟩ := hideL X4 N4
  have Z4 : n0 ≤ h4.size := Nat.le_trans (Z3) (Nat.le_of_eq W4.size.symm)
  refine Runs.back st4 ?_
  show Runs _ _ _ _ T4 (mkF m 51 #[.val (.ref r0), .val (.int p1), .val (.int y0), .val (.int (3 : Int32)), .val (.int t2)] [])
  refine Runs.back (fun t_ k_ => XS.iconst X4.here hx rfl (hb hby d1_51) k_) ?_
  show Runs _ _ _ _ T4 (mkF m 52 #[.val (.ref r0), .val (.int p1), .val (.int y0), .val (.int (3 : Int32)), .val (.int t2)] [(.int (0 : Int32))])
  refine Runs.back (fun t_ k_ => XS.istore X4.here hx rfl (hb hby d1_52) rfl (l' := #[.val (.ref r0), .val (.int p1), .val (.int y0), .val (.int (3 : Int32)), .val (.int (0 : Int32))]) rfl k_) ?_
  show Runs _ _ _ _ T4 (mkF m 54 #[.val (.ref r0), .val (.int p1), .val (.int y0), .val (.int (3 : Int32)), .val (.int (0 : Int32))] [])
  refine Runs.back (fun t_ k_ => XS.iload X4.here hx rfl (hb hby d1_54) rfl k_) ?_
  show Runs _ _ _ _ T4 (mkF m 56 #[.val (.ref r0), .val (.int p1), .val (.int y0), .val (.int (3 : Int32)), .val (.int (0 : Int32))] [(.int (0 : Int32))])
  refine Runs.back (fun t_ k_ => XS.iloadN X4.here hx rfl (hb hby d1_56) rfl k_) ?_
  show Runs _ _ _ _ T4 (mkF m 57 #[.val (.ref r0), .val (.int p1), .val (.int y0), .val (.int (3 : Int32)), .val (.int (0 : Int32))] [(.int (3 : Int32)), (.int (0 : Int32))])
  refine Runs.back (fun t_ k_ => XS.icmpNo X4.here hx rfl (hb hby d1_57) rfl (tlt (show (0 : Int32) < (3 : Int32) from (by decide))).2.1 k_) ?_
  show Runs _ _ _ _ T4 (mkF m 60 #[.val (.ref r0), .val (.int p1), .val (.int y0), .val (.int (3 : Int32)), .val (.int (0 : Int32))] [])
  refine Runs.back (fun t_ k_ => XS.aloadN X4.here hx rfl (hb hby d1_60) rfl rfl k_) ?_
  show Runs _ _ _ _ T4 (mkF m 61 #[.val (.ref r0), .val (.int p1), .val (.int y0), .val (.int (3 : Int32)), .val (.int (0 : Int32))] [(.ref r0)])
  obtain ⟨T5, X5, e5, st5⟩ := getF X4 hx hZ hown (host := "") (Or.inl (hw _ (List.mem_of_getElem? (i := 17) rfl))) Via.refl e4 f4_Fld_1 (g := (mkF m 61 #[.val (.ref r0), .val (.int p1), .val (.int y0), .val (.int (3 : Int32)), .val (.int (0 : Int32))] [(.ref r0)])) rfl rfl (hb hby d1_61)
  refine Runs.back st5 ?_
  show Runs _ _ _ _ T5 (mkF m 64 #[.val (.ref r0), .val (.int p1), .val (.int y0), .val (.int (3 : Int32)), .val (.int (0 : Int32))] [(.ref lv)])
  refine Runs.back (fun t_ k_ => XS.iload X5.here hx rfl (hb hby d1_64) rfl k_) ?_
  show Runs _ _ _ _ T5 (mkF m 66 #[.val (.ref r0), .val (.int p1), .val (.int y0), .val (.int (3 : Int32)), .val (.int (0 : Int32))] [(.int (0 : Int32)), (.ref lv)])
  refine Runs.back (fun t_ k_ => XS.iloadN X5.here hx rfl (hb hby d1_66) rfl k_) ?_
  show Runs _ _ _ _ T5 (mkF m 67 #[.val (.ref r0), .val (.int p1), .val (.int y0), .val (.int (3 : Int32)), .val (.int (0 : Int32))] [(.int y0), (.int (0 : Int32)), (.ref lv)])
  have cy0 := clampI hy0
  obtain ⟨T6, h6, k6, X6, e6, E6, A6, EA6, st6⟩ := newPE X5 hx hZ (hw _ (List.mem_of_getElem? (i := 19) rfl)) e5 (g := (mkF m 67 #[.val (.ref r0), .val (.int p1), .val (.int y0), .val (.int (3 : Int32)), .val (.int (0 : Int32))] [(.int y0), (.int (0 : Int32)), (.ref lv)])) rfl (hb hby d1_67) rfl cy0.2 (cap := 16384) (by rw [cy0.1]; omega) (by decide) (by decide) (by decide) (ad := "[J") (by decide)
  obtain ⟨a0, g6⟩ : ∃ z, z = h4.size := ⟨_, rfl⟩
  rw [← g6] at A6 EA6 st6
  have g_a0 : n0 ≤ a0 := Nat.le_trans (Z4) (Nat.le_of_eq g6.symm)
  have ne_r0_a0 : r0 ≠ a0 := Nat.ne_of_lt (Nat.lt_of_lt_of_le f4_Exa_0.lt (Nat.le_of_eq g6.symm))
  have ne_lv_a0 : lv ≠ a0 := Nat.ne_of_lt (Nat.lt_of_lt_of_le f4_Qrr_2.lt (Nat.le_of_eq g6.symm))
  have f6_Exa_0 : Exa Z h6 r0 "com/example/tradewheel/tradewheel/SmallestFirst" := Exa.ext E6 f4_Exa_0
  have f6_Fld_1 : Fld Z h6 r0 "com/example/tradewheel/tradewheel/SmallestFirst" "levels" "[[J" (.ref lv) := Fld.ext E6 f4_Fld_1
  have f6_Qrr_2 : QArr Z h6 lv (.array .long) 3 (fun _ => Value.null) k3 := f4_Qrr_2.ext E6
  have Z6 : n0 ≤ h6.size := Nat.le_trans (Z4) E6.1
  have V6 : OArr Z h6 a0 .long (szN nn 0) (fun _ => (Value.long (0 : Int64))) := OArr.new A6 cy0.1 rfl
  refine Runs.back st6 ?_
  show Runs _ _ _ _ T6 (mkF m 69 #[.val (.ref r0), .val (.int p1), .val (.int y0), .val (.int (3 : Int32)), .val (.int (0 : Int32))] [(.ref a0), (.int (0 : Int32)), (.ref lv)])
  obtain ⟨cl7, Ar7, Kc7, S7, Hs7⟩ := id f6_Qrr_2
  obtain ⟨T7, h7, X7, e7, W7, st7⟩ := stR X6 hx hZ e6 Ar7 (j := (0 : Int32)) (by rw [S7]; exact inbO (by decide) (rfl : ((0 : Int32)).toNatClampNeg = 0) (by decide)) rfl (Sto.ofVA Ar7 Kc7 O3 (Ins.self EA6)) (g := (mkF m 69 #[.val (.ref r0), .val (.int p1), .val (.int y0), .val (.int (3 : Int32)), .val (.int (0 : Int32))] [(.ref a0), (.int (0 : Int32)), (.ref lv)])) rfl rfl (hb hby d1_69)
  have N7 := Fr.snoc X7 N4 g_lv
  obtain ⟨L7, X7, N7⟩ := hideL X7 N7
  rw [(rfl : ((0 : Int32)).toNatClampNeg = 0)] at W7
  have f7_Exa_0 : Exa Z h7 r0 "com/example/tradewheel/tradewheel/SmallestFirst" := Exa.wr W7 f6_Exa_0
  have f7_Fld_1 : Fld Z h7 r0 "com/example/tradewheel/tradewheel/SmallestFirst" "levels" "[[J" (.ref lv) := Fld.other W7 f6_Fld_1 (Or.inl ne_r0_lv)
  have f7_Qrr_2 : QArr Z h7 lv (.array .long) 3 (fun i => if i = 0 then (Value.ref a0) else (fun _ => Value.null) i) k3 := f6_Qrr_2.set W7
  have f7_Arr_3 : OArr Z h7 a0 .long (szN nn 0) (fun _ => (Value.long (0 : Int64))) := V6.other W7 (Ne.symm ne_lv_a0)
  have f7_Exa_4 : Exa Z h7 a0 "[J" := Exa.wr W7 EA6
  have Z7 : n0 ≤ h7.size := Nat.le_trans (Z6) (Nat.le_of_eq W7.size.symm)
  refine Runs.back st7 ?_
  show Runs _ _ _ _ T7 (mkF m 70 #[.val (.ref r0), .val (.int p1), .val (.int y0), .val (.int (3 : Int32)), .val (.int (0 : Int32))] [])
  refine Runs.back (fun t_ k_ => XS.iloadN X7.here hx rfl (hb hby d1_70) rfl k_) ?_
  show Runs _ _ _ _ T7 (mkF m 71 #[.val (.ref r0), .val (.int p1), .val (.int y0), .val (.int (3 : Int32)), .val (.int (0 : Int32))] [(.int y0)])
  refine Runs.back (fun t_ k_ => XS.bipush X7.here hx rfl (hb hby d1_71) k_) ?_
  show Runs _ _ _ _ T7 (mkF m 73 #[.val (.ref r0), .val (.int p1), .val (.int y0), .val (.int (3 : Int32)), .val (.int (0 : Int32))] [(.int (63 : Int32)), (.int y0)])
  refine Runs.back (fun t_ k_ => XS.iadd X7.here hx rfl (hb hby d1_73) rfl k_) ?_
  show Runs _ _ _ _ T7 (mkF m 74 #[.val (.ref r0), .val (.int p1), .val (.int y0), .val (.int (3 : Int32)), .val (.int (0 : Int32))] [(.int (y0 + (63 : Int32)))])
  refine Runs.back (fun t_ k_ => XS.bipush X7.here hx rfl (hb hby d1_74) k_) ?_
  show Runs _ _ _ _ T7 (mkF m 76 #[.val (.ref r0), .val (.int p1), .val (.int y0), .val (.int (3 : Int32)), .val (.int (0 : Int32))] [(.int (6 : Int32)), (.int (y0 + (63 : Int32)))])
  refine Runs.back (fun t_ k_ => XS.iushr X7.here hx rfl (hb hby d1_76) rfl k_) ?_
  show Runs _ _ _ _ T7 (mkF m 77 #[.val (.ref r0), .val (.int p1), .val (.int y0), .val (.int (3 : Int32)), .val (.int (0 : Int32))] [(.int (((y0 + (63 : Int32)).toUInt32 >>> ((6 : Int32) &&& 31).toUInt32).toInt32))])
  refine Runs.back (fun t_ k_ => XS.istoreN X7.here hx rfl (hb hby d1_77) rfl (l' := #[.val (.ref r0), .val (.int p1), .val (.int (((y0 + (63 : Int32)).toUInt32 >>> ((6 : Int32) &&& 31).toUInt32).toInt32)), .val (.int (3 : Int32)), .val (.int (0 : Int32))]) rfl k_) ?_
  show Runs _ _ _ _ T7 (mkF m 78 #[.val (.ref r0), .val (.int p1), .val (.int (((y0 + (63 : Int32)).toUInt32 >>> ((6 : Int32) &&& 31).toUInt32).toInt32)), .val (.int (3 : Int32)), .val (.int (0 : Int32))] [])
  refine Runs.back (fun t_ k_ => XS.iinc X7.here hx rfl (hb hby d1_78) rfl (l' := #[.val (.ref r0), .val (.int p1), .val (.int (((y0 + (63 : Int32)).toUInt32 >>> ((6 : Int32) &&& 31).toUInt32).toInt32)), .val (.int (3 : Int32)), .val (.int ((0 : Int32) + (1 : Int32)))]) rfl k_) ?_
  show Runs _ _ _ _ T7 (mkF m 81 #[.val (.ref r0), .val (.int p1), .val (.int (((y0 + (63 : Int32)).toUInt32 >>> ((6 : Int32) &&& 31).toUInt32).toInt32)), .val (.int (3 : Int32)), .val (.int ((0 : Int32) + (1 : Int32)))] [])
  rw [show ((0 : Int32) + (1 : Int32)) = (1 : Int32) from by decide]
  show Runs _ _ _ _ T7 (mkF m 81 #[.val (.ref r0), .val (.int p1), .val (.int (((y0 + (63 : Int32)).toUInt32 >>> ((6 : Int32) &&& 31).toUInt32).toInt32)), .val (.int (3 : Int32)), .val (.int (1 : Int32))] [])
  refine Runs.back (fun t_ k_ => XS.goto X7.here hx rfl (pc0 := 81) (pc' := 54) rfl (hb hby d1_81) (by decide) (by decide) k_) ?_
  show Runs _ _ _ _ T7 (mkF m 54 #[.val (.ref r0), .val (.int p1), .val (.int (((y0 + (63 : Int32)).toUInt32 >>> ((6 : Int32) &&& 31).toUInt32).toInt32)), .val (.int (3 : Int32)), .val (.int (1 : Int32))] [])
  have hy1 : ((((y0 + (63 : Int32)).toUInt32 >>> ((6 : Int32) &&& 31).toUInt32).toInt32)).toInt = ((szN nn 1 : Nat) : Int) := up63 (W := szN nn 0) hy0 (Nat.lt_of_le_of_lt hb0 (by decide))
  generalize ey1 : (((y0 + (63 : Int32)).toUInt32 >>> ((6 : Int32) &&& 31).toUInt32).toInt32) = y1 at hy1 ⊢
  show Runs _ _ _ _ T7 (mkF m 54 #[.val (.ref r0), .val (.int p1), .val (.int y1), .val (.int (3 : Int32)), .val (.int (1 : Int32))] [])
  refine Runs.back (fun t_ k_ => XS.iload X7.here hx rfl (hb hby d1_54) rfl k_) ?_
  show Runs _ _ _ _ T7 (mkF m 56 #[.val (.ref r0), .val (.int p1), .val (.int y1), .val (.int (3 : Int32)), .val (.int (1 : Int32))] [(.int (1 : Int32))])
  refine Runs.back (fun t_ k_ => XS.iloadN X7.here hx rfl (hb hby d1_56) rfl k_) ?_
  show Runs _ _ _ _ T7 (mkF m 57 #[.val (.ref r0), .val (.int p1), .val (.int y1), .val (.int (3 : Int32)), .val (.int (1 : Int32))] [(.int (3 : Int32)), (.int (1 : Int32))])
  refine Runs.back (fun t_ k_ => XS.icmpNo X7.here hx rfl (hb hby d1_57) rfl (tlt (show (1 : Int32) < (3 : Int32) from (by decide))).2.1 k_) ?_
  show Runs _ _ _ _ T7 (mkF m 60 #[.val (.ref r0), .val (.int p1), .val (.int y1), .val (.int (3 : Int32)), .val (.int (1 : Int32))] [])
  refine Runs.back (fun t_ k_ => XS.aloadN X7.here hx rfl (hb hby d1_60) rfl rfl k_) ?_
  show Runs _ _ _ _ T7 (mkF m 61 #[.val (.ref r0), .val (.int p1), .val (.int y1), .val (.int (3 : Int32)), .val (.int (1 : Int32))] [(.ref r0)])
  obtain ⟨T8, X8, e8, st8⟩ := getF X7 hx hZ hown (host := "") (Or.inl (hw _ (List.mem_of_getElem? (i := 17) rfl))) Via.refl e7 f7_Fld_1 (g := (mkF m 61 #[.val (.ref r0), .val (.int p1), .val (.int y1), .val (.int (3 : Int32)), .val (.int (1 : Int32))] [(.ref r0)])) rfl rfl (hb hby d1_61)
  refine Runs.back st8 ?_
  show Runs _ _ _ _ T8 (mkF m 64 #[.val (.ref r0), .val (.int p1), .val (.int y1), .val (.int (3 : Int32)), .val (.int (1 : Int32))] [(.ref lv)])
  refine Runs.back (fun t_ k_ => XS.iload X8.here hx rfl (hb hby d1_64) rfl k_) ?_
  show Runs _ _ _ _ T8 (mkF m 66 #[.val (.ref r0), .val (.int p1), .val (.int y1), .val (.int (3 : Int32)), .val (.int (1 : Int32))] [(.int (1 : Int32)), (.ref lv)])
  refine Runs.back (fun t_ k_ => XS.iloadN X8.here hx rfl (hb hby d1_66) rfl k_) ?_
  show Runs _ _ _ _ T8 (mkF m 67 #[.val (.ref r0), .val (.int p1), .val (.int y1), .val (.int (3 : Int32)), .val (.int (1 : Int32))] [(.int y1), (.int (1 : Int32)), (.ref lv)])
  have cy1 := clampI hy1
  obtain ⟨T9, h9, k9, X9, e9, E9, A9, EA9, st9⟩ := newPE X8 hx hZ (hw _ (List.mem_of_getElem? (i := 19) rfl)) e8 (g := (mkF m 67 #[.val (.ref r0), .val (.int p1), .val (.int y1), .val (.int (3 : Int32)), .val (.int (1 : Int32))] [(.int y1), (.int (1 : Int32)), (.ref lv)])) rfl (hb hby d1_67) rfl cy1.2 (cap := 256) (by rw [cy1.1]; omega) (by decide) (by decide) (by decide) (ad := "[J") (by decide)
  obtain ⟨a1, g9⟩ : ∃ z, z = h7.size := ⟨_, rfl⟩
  rw [← g9] at A9 EA9 st9
  have g_a1 : n0 ≤ a1 := Nat.le_trans (Z7) (Nat.le_of_eq g9.symm)
  have ne_r0_a1 : r0 ≠ a1 := Nat.ne_of_lt (Nat.lt_of_lt_of_le f7_Exa_0.lt (Nat.le_of_eq g9.symm))
  have ne_lv_a1 : lv ≠ a1 := Nat.ne_of_lt (Nat.lt_of_lt_of_le f7_Qrr_2.lt (Nat.le_of_eq g9.symm))
  have ne_a0_a1 : a0 ≠ a1 := Nat.ne_of_lt (Nat.lt_of_lt_of_le f7_Arr_3.lt (Nat.le_of_eq g9.symm))
  have f9_Exa_0 : Exa Z h9 r0 "com/example/tradewheel/tradewheel/SmallestFirst" := Exa.ext E9 f7_Exa_0
  have f9_Fld_1 : Fld Z h9 r0 "com/example/tradewheel/tradewheel/SmallestFirst" "levels" "[[J" (.ref lv) := Fld.ext E9 f7_Fld_1
  have f9_Qrr_2 : QArr Z h9 lv (.array .long) 3 (fun i => if i = 0 then (Value.ref a0) else (fun _ => Value.null) i) k3 := f7_Qrr_2.ext E9
  have f9_Arr_3 : OArr Z h9 a0 .long (szN nn 0) (fun _ => (Value.long (0 : Int64))) := f7_Arr_3.ext E9
  have f9_Exa_4 : Exa Z h9 a0 "[J" := Exa.ext E9 f7_Exa_4
  have Z9 : n0 ≤ h9.size := Nat.le_trans (Z7) E9.1
  have V9 : OArr Z h9 a1 .long (szN nn 1) (fun _ => (Value.long (0 : Int64))) := OArr.new A9 cy1.1 rfl
  refine Runs.back st9 ?_
  show Runs _ _ _ _ T9 (mkF m 69 #[.val (.ref r0), .val (.int p1), .val (.int y1), .val (.int (3 : Int32)), .val (.int (1 : Int32))] [(.ref a1), (.int (1 : Int32)), (.ref lv)])
  obtain ⟨cl10, Ar10, Kc10, S10, Hs10⟩ := id f9_Qrr_2
  obtain ⟨T10, h10, X10, e10, W10, st10⟩ := stR X9 hx hZ e9 Ar10 (j := (1 : Int32)) (by rw [S10]; exact inbO (by decide) (rfl : ((1 : Int32)).toNatClampNeg = 1) (by decide)) rfl (Sto.ofVA Ar10 Kc10 O3 (Ins.self EA9)) (g := (mkF m 69 #[.val (.ref r0), .val (.int p1), .val (.int y1), .val (.int (3 : Int32)), .val (.int (1 : Int32))] [(.ref a1), (.int (1 : Int32)), (.ref lv)])) rfl rfl (hb hby d1_69)
  have N10 := Fr.snoc X10 N7 g_lv
  obtain ⟨L10, X10, N10⟩ := hideL X10 N10
  rw [(rfl : ((1 : Int32)).toNatClampNeg = 1)] at W10
  have f10_Exa_0 : Exa Z h10 r0 "com/example/tradewheel/tradewheel/SmallestFirst" := Exa.wr W10 f9_Exa_0
  have f10_Fld_1 : Fld Z h10 r0 "com/example/tradewheel/tradewheel/SmallestFirst" "levels" "[[J" (.ref lv) := Fld.other W10 f9_Fld_1 (Or.inl ne_r0_lv)
  have f10_Qrr_2 : QArr Z h10 lv (.array .long) 3 (fun i => if i = 1 then (Value.ref a1) else (fun i => if i = 0 then (Value.ref a0) else (fun _ => Value.null) i) i) k3 := f9_Qrr_2.set W10
  have f10_Arr_3 : OArr Z h10 a0 .long (szN nn 0) (fun _ => (Value.long (0 : Int64))) := f9_Arr_3.other W10 (Ne.symm ne_lv_a0)
  have f10_Exa_4 : Exa Z h10 a0 "[J" := Exa.wr W10 f9_Exa_4
  have f10_Arr_5 : OArr Z h10 a1 .long (szN nn 1) (fun _ => (Value.long (0 : Int64))) := V9.other W10 (Ne.symm ne_lv_a1)
  have f10_Exa_6 : Exa Z h10 a1 "[J" := Exa.wr W10 EA9
  have Z10 : n0 ≤ h10.size := Nat.le_trans (Z9) (Nat.le_of_eq W10.size.symm)
  refine Runs.back st10 ?_
  show Runs _ _ _ _ T10 (mkF m 70 #[.val (.ref r0), .val (.int p1), .val (.int y1), .val (.int (3 : Int32)), .val (.int (1 : Int32))] [])
  refine Runs.back (fun t_ k_ => XS.iloadN X10.here hx rfl (hb hby d1_70) rfl k_) ?_
  show Runs _ _ _ _ T10 (mkF m 71 #[.val (.ref r0), .val (.int p1), .val (.int y1), .val (.int (3 : Int32)), .val (.int (1 : Int32))] [(.int y1)])
  refine Runs.back (fun t_ k_ => XS.bipush X10.here hx rfl (hb hby d1_71) k_) ?_
  show Runs _ _ _ _ T10 (mkF m 73 #[.val (.ref r0), .val (.int p1), .val (.int y1), .val (.int (3 : Int32)), .val (.int (1 : Int32))] [(.int (63 : Int32)), (.int y1)])
  refine Runs.back (fun t_ k_ => XS.iadd X10.here hx rfl (hb hby d1_73) rfl k_) ?_
  show Runs _ _ _ _ T10 (mkF m 74 #[.val (.ref r0), .val (.int p1), .val (.int y1), .val (.int (3 : Int32)), .val (.int (1 : Int32))] [(.int (y1 + (63 : Int32)))])
  refine Runs.back (fun t_ k_ => XS.bipush X10.here hx rfl (hb hby d1_74) k_) ?_
  show Runs _ _ _ _ T10 (mkF m 76 #[.val (.ref r0), .val (.int p1), .val (.int y1), .val (.int (3 : Int32)), .val (.int (1 : Int32))] [(.int (6 : Int32)), (.int (y1 + (63 : Int32)))])
  refine Runs.back (fun t_ k_ => XS.iushr X10.here hx rfl (hb hby d1_76) rfl k_) ?_
  show Runs _ _ _ _ T10 (mkF m 77 #[.val (.ref r0), .val (.int p1), .val (.int y1), .val (.int (3 : Int32)), .val (.int (1 : Int32))] [(.int (((y1 + (63 : Int32)).toUInt32 >>> ((6 : Int32) &&& 31).toUInt32).toInt32))])
  refine Runs.back (fun t_ k_ => XS.istoreN X10.here hx rfl (hb hby d1_77) rfl (l' := #[.val (.ref r0), .val (.int p1), .val (.int (((y1 + (63 : Int32)).toUInt32 >>> ((6 : Int32) &&& 31).toUInt32).toInt32)), .val (.int (3 : Int32)), .val (.int (1 : Int32))]) rfl k_) ?_
  show Runs _ _ _ _ T10 (mkF m 78 #[.val (.ref r0), .val (.int p1), .val (.int (((y1 + (63 : Int32)).toUInt32 >>> ((6 : Int32) &&& 31).toUInt32).toInt32)), .val (.int (3 : Int32)), .val (.int (1 : Int32))] [])
  refine Runs.back (fun t_ k_ => XS.iinc X10.here hx rfl (hb hby d1_78) rfl (l' := #[.val (.ref r0), .val (.int p1), .val (.int (((y1 + (63 : Int32)).toUInt32 >>> ((6 : Int32) &&& 31).toUInt32).toInt32)), .val (.int (3 : Int32)), .val (.int ((1 : Int32) + (1 : Int32)))]) rfl k_) ?_
  show Runs _ _ _ _ T10 (mkF m 81 #[.val (.ref r0), .val (.int p1), .val (.int (((y1 + (63 : Int32)).toUInt32 >>> ((6 : Int32) &&& 31).toUInt32).toInt32)), .val (.int (3 : Int32)), .val (.int ((1 : Int32) + (1 : Int32)))] [])
  rw [show ((1 : Int32) + (1 : Int32)) = (2 : Int32) from by decide]
  show Runs _ _ _ _ T10 (mkF m 81 #[.val (.ref r0), .val (.int p1), .val (.int (((y1 + (63 : Int32)).toUInt32 >>> ((6 : Int32) &&& 31).toUInt32).toInt32)), .val (.int (3 : Int32)), .val (.int (2 : Int32))] [])
  refine Runs.back (fun t_ k_ => XS.goto X10.here hx rfl (pc0 := 81) (pc' := 54) rfl (hb hby d1_81) (by decide) (by decide) k_) ?_
  show Runs _ _ _ _ T10 (mkF m 54 #[.val (.ref r0), .val (.int p1), .val (.int (((y1 + (63 : Int32)).toUInt32 >>> ((6 : Int32) &&& 31).toUInt32).toInt32)), .val (.int (3 : Int32)), .val (.int (2 : Int32))] [])
  have hy2 : ((((y1 + (63 : Int32)).toUInt32 >>> ((6 : Int32) &&& 31).toUInt32).toInt32)).toInt = ((szN nn 2 : Nat) : Int) := up63 (W := szN nn 1) hy1 (Nat.lt_of_le_of_lt hb1 (by decide))
  generalize ey2 : (((y1 + (63 : Int32)).toUInt32 >>> ((6 : Int32) &&& 31).toUInt32).toInt32) = y2 at hy2 ⊢
  show Runs _ _ _ _ T10 (mkF m 54 #[.val (.ref r0), .val (.int p1), .val (.int y2), .val (.int (3 : Int32)), .val (.int (2 : Int32))] [])
  refine Runs.back (fun t_ k_ => XS.iload X10.here hx rfl (hb hby d1_54) rfl k_) ?_
  show Runs _ _ _ _ T10 (mkF m 56 #[.val (.ref r0), .val (.int p1), .val (.int y2), .val (.int (3 : Int32)), .val (.int (2 : Int32))] [(.int (2 : Int32))])
  refine Runs.back (fun t_ k_ => XS.iloadN X10.here hx rfl (hb hby d1_56) rfl k_) ?_
  show Runs _ _ _ _ T10 (mkF m 57 #[.val (.ref r0), .val (.int p1), .val (.int y2), .val (.int (3 : Int32)), .val (.int (2 : Int32))] [(.int (3 : Int32)), (.int (2 : Int32))])
  refine Runs.back (fun t_ k_ => XS.icmpNo X10.here hx rfl (hb hby d1_57) rfl (tlt (show (2 : Int32) < (3 : Int32) from (by decide))).2.1 k_) ?_
  show Runs _ _ _ _ T10 (mkF m 60 #[.val (.ref r0), .val (.int p1), .val (.int y2), .val (.int (3 : Int32)), .val (.int (2 : Int32))] [])
  refine Runs.back (fun t_ k_ => XS.aloadN X10.here hx rfl (hb hby d1_60) rfl rfl k_) ?_
  show Runs _ _ _ _ T10 (mkF m 61 #[.val (.ref r0), .val (.int p1), .val (.int y2), .val (.int (3 : Int32)), .val (.int (2 : Int32))] [(.ref r0)])
  obtain ⟨T11, X11, e11, st11⟩ := getF X10 hx hZ hown (host := "") (Or.inl (hw _ (List.mem_of_getElem? (i := 17) rfl))) Via.refl e10 f10_Fld_1 (g := (mkF m 61 #[.val (.ref r0), .val (.int p1), .val (.int y2), .val (.int (3 : Int32)), .val (.int (2 : Int32))] [(.ref r0)])) rfl rfl (hb hby d1_61)
  refine Runs.back st11 ?_
  show Runs _ _ _ _ T11 (mkF m 64 #[.val (.ref r0), .val (.int p1), .val (.int y2), .val (.int (3 : Int32)), .val (.int (2 : Int32))] [(.ref lv)])
  refine Runs.back (fun t_ k_ => XS.iload X11.here hx rfl (hb hby d1_64) rfl k_) ?_
  show Runs _ _ _ _ T11 (mkF m 66 #[.val (.ref r0), .val (.int p1), .val (.int y2), .val (.int (3 : Int32)), .val (.int (2 : Int32))] [(.int (2 : Int32)), (.ref lv)])
  refine Runs.back (fun t_ k_ => XS.iloadN X11.here hx rfl (hb hby d1_66) rfl k_) ?_
  show Runs _ _ _ _ T11 (mkF m 67 #[.val (.ref r0), .val (.int p1), .val (.int y2), .val (.int (3 : Int32)), .val (.int (2 : Int32))] [(.int y2), (.int (2 : Int32)), (.ref lv)])
  have cy2 := clampI hy2
  obtain ⟨T12, h12, k12, X12, e12, E12, A12, EA12, st12⟩ := newPE X11 hx hZ (hw _ (List.mem_of_getElem? (i := 19) rfl)) e11 (g := (mkF m 67 #[.val (.ref r0), .val (.int p1), .val (.int y2), .val (.int (3 : Int32)), .val (.int (2 : Int32))] [(.int y2), (.int (2 : Int32)), (.ref lv)])) rfl (hb hby d1_67) rfl cy2.2 (cap := 4) (by rw [cy2.1]; omega) (by decide) (by decide) (by decide) (ad := "[J") (by decide)
  obtain ⟨a2, g12⟩ : ∃ z, z = h10.size := ⟨_, rfl⟩
  rw [← g12] at A12 EA12 st12
  have g_a2 : n0 ≤ a2 := Nat.le_trans (Z10) (Nat.le_of_eq g12.symm)
  have ne_r0_a2 : r0 ≠ a2 := Nat.ne_of_lt (Nat.lt_of_lt_of_le f10_Exa_0.lt (Nat.le_of_eq g12.symm))
  have ne_lv_a2 : lv ≠ a2 := Nat.ne_of_lt (Nat.lt_of_lt_of_le f10_Qrr_2.lt (Nat.le_of_eq g12.symm))
  have ne_a0_a2 : a0 ≠ a2 := Nat.ne_of_lt (Nat.lt_of_lt_of_le f10_Arr_3.lt (Nat.le_of_eq g12.symm))
  have ne_a1_a2 : a1 ≠ a2 := Nat.ne_of_lt (Nat.lt_of_lt_of_le f10_Arr_5.lt (Nat.le_of_eq g12.symm))
  have f12_Exa_0 : Exa Z h12 r0 "com/example/tradewheel/tradewheel/SmallestFirst" := Exa.ext E12 f10_Exa_0
  have f12_Fld_1 : Fld Z h12 r0 "com/example/tradewheel/tradewheel/SmallestFirst" "levels" "[[J" (.ref lv) := Fld.ext E12 f10_Fld_1
  have f12_Qrr_2 : QArr Z h12 lv (.array .long) 3 (fun i => if i = 1 then (Value.ref a1) else (fun i => if i = 0 then (Value.ref a0) else (fun _ => Value.null) i) i) k3 := f10_Qrr_2.ext E12
  have f12_Arr_3 : OArr Z h12 a0 .long (szN nn 0) (fun _ => (Value.long (0 : Int64))) := f10_Arr_3.ext E12
  have f12_Exa_4 : Exa Z h12 a0 "[J" := Exa.ext E12 f10_Exa_4
  have f12_Arr_5 : OArr Z h12 a1 .long (szN nn 1) (fun _ => (Value.long (0 : Int64))) := f10_Arr_5.ext E12
  have f12_Exa_6 : Exa Z h12 a1 "[J" := Exa.ext E12 f10_Exa_6
  have Z12 : n0 ≤ h12.size := Nat.le_trans (Z10) E12.1
  have V12 : OArr Z h12 a2 .long (szN nn 2) (fun _ => (Value.long (0 : Int64))) := OArr.new A12 cy2.1 rfl
  refine Runs.back st12 ?_
  show Runs _ _ _ _ T12 (mkF m 69 #[.val (.ref r0), .val (.int p1), .val (.int y2), .val (.int (3 : Int32)), .val (.int (2 : Int32))] [(.ref a2), (.int (2 : Int32)), (.ref lv)])
  obtain ⟨cl13, Ar13, Kc13, S13, Hs13⟩ := id f12_Qrr_2
  obtain ⟨T13, h13, X13, e13, W13, st13⟩ := stR X12 hx hZ e12 Ar13 (j := (2 : Int32)) (by rw [S13]; exact inbO (by decide) (rfl : ((2 : Int32)).toNatClampNeg = 2) (by decide)) rfl (Sto.ofVA Ar13 Kc13 O3 (Ins.self EA12)) (g := (mkF m 69 #[.val (.ref r0), .val (.int p1), .val (.int y2), .val (.int (3 : Int32)), .val (.int (2 : Int32))] [(.ref a2), (.int (2 : Int32)), (.ref lv)])) rfl rfl (hb hby d1_69)
  have N13 := Fr.snoc X13 N10 g_lv
  obtain ⟨L13, X13, N13⟩ := hideL X13 N13
  rw [(rfl : ((2 : Int32)).toNatClampNeg = 2)] at W13
  have f13_Exa_0 : Exa Z h13 r0 "com/example/tradewheel/tradewheel/SmallestFirst" := Exa.wr W13 f12_Exa_0
  have f13_Fld_1 : Fld Z h13 r0 "com/example/tradewheel/tradewheel/SmallestFirst" "levels" "[[J" (.ref lv) := Fld.other W13 f12_Fld_1 (Or.inl ne_r0_lv)
  have f13_Qrr_2 : QArr Z h13 lv (.array .long) 3 (fun i => if i = 2 then (Value.ref a2) else (fun i => if i = 1 then (Value.ref a1) else (fun i => if i = 0 then (Value.ref a0) else (fun _ => Value.null) i) i) i) k3 := f12_Qrr_2.set W13
  have f13_Arr_3 : OArr Z h13 a0 .long (szN nn 0) (fun _ => (Value.long (0 : Int64))) := f12_Arr_3.other W13 (Ne.symm ne_lv_a0)
  have f13_Exa_4 : Exa Z h13 a0 "[J" := Exa.wr W13 f12_Exa_4
  have f13_Arr_5 : OArr Z h13 a1 .long (szN nn 1) (fun _ => (Value.long (0 : Int64))) := f12_Arr_5.other W13 (Ne.symm ne_lv_a1)
  have f13_Exa_6 : Exa Z h13 a1 "[J" := Exa.wr W13 f12_Exa_6
  have f13_Arr_7 : OArr Z h13 a2 .long (szN nn 2) (fun _ => (Value.long (0 : Int64))) := V12.other W13 (Ne.symm ne_lv_a2)
  have f13_Exa_8 : Exa Z h13 a2 "[J" := Exa.wr W13 EA12
  have Z13 : n0 ≤ h13.size := Nat.le_trans (Z12) (Nat.le_of_eq W13.size.symm)
  refine Runs.back st13 ?_
  show Runs _ _ _ _ T13 (mkF m 70 #[.val (.ref r0), .val (.int p1), .val (.int y2), .val (.int (3 : Int32)), .val (.int (2 : Int32))] [])
  refine Runs.back (fun t_ k_ => XS.iloadN X13.here hx rfl (hb hby d1_70) rfl k_) ?_
  show Runs _ _ _ _ T13 (mkF m 71 #[.val (.ref r0), .val (.int p1), .val (.int y2), .val (.int (3 : Int32)), .val (.int (2 : Int32))] [(.int y2)])
  refine Runs.back (fun t_ k_ => XS.bipush X13.here hx rfl (hb hby d1_71) k_) ?_
  show Runs _ _ _ _ T13 (mkF m 73 #[.val (.ref r0), .val (.int p1), .val (.int y2), .val (.int (3 : Int32)), .val (.int (2 : Int32))] [(.int (63 : Int32)), (.int y2)])
  refine Runs.back (fun t_ k_ => XS.iadd X13.here hx rfl (hb hby d1_73) rfl k_) ?_
  show Runs _ _ _ _ T13 (mkF m 74 #[.val (.ref r0), .val (.int p1), .val (.int y2), .val (.int (3 : Int32)), .val (.int (2 : Int32))] [(.int (y2 + (63 : Int32)))])
  refine Runs.back (fun t_ k_ => XS.bipush X13.here hx rfl (hb hby d1_74) k_) ?_
  show Runs _ _ _ _ T13 (mkF m 76 #[.val (.ref r0), .val (.int p1), .val (.int y2), .val (.int (3 : Int32)), .val (.int (2 : Int32))] [(.int (6 : Int32)), (.int (y2 + (63 : Int32)))])
  refine Runs.back (fun t_ k_ => XS.iushr X13.here hx rfl (hb hby d1_76) rfl k_) ?_
  show Runs _ _ _ _ T13 (mkF m 77 #[.val (.ref r0), .val (.int p1), .val (.int y2), .val (.int (3 : Int32)), .val (.int (2 : Int32))] [(.int (((y2 + (63 : Int32)).toUInt32 >>> ((6 : Int32) &&& 31).toUInt32).toInt32))])
  refine Runs.back (fun t_ k_ => XS.istoreN X13.here hx rfl (hb hby d1_77) rfl (l' := #[.val (.ref r0), .val (.int p1), .val (.int (((y2 + (63 : Int32)).toUInt32 >>> ((6 : Int32) &&& 31).toUInt32).toInt32)), .val (.int (3 : Int32)), .val (.int (2 : Int32))]) rfl k_) ?_
  show Runs _ _ _ _ T13 (mkF m 78 #[.val (.ref r0), .val (.int p1), .val (.int (((y2 + (63 : Int32)).toUInt32 >>> ((6 : Int32) &&& 31).toUInt32).toInt32)), .val (.int (3 : Int32)), .val (.int (2 : Int32))] [])
  refine Runs.back (fun t_ k_ => XS.iinc X13.here hx rfl (hb hby d1_78) rfl (l' := #[.val (.ref r0), .val (.int p1), .val (.int (((y2 + (63 : Int32)).toUInt32 >>> ((6 : Int32) &&& 31).toUInt32).toInt32)), .val (.int (3 : Int32)), .val (.int ((2 : Int32) + (1 : Int32)))]) rfl k_) ?_
  show Runs _ _ _ _ T13 (mkF m 81 #[.val (.ref r0), .val (.int p1), .val (.int (((y2 + (63 : Int32)).toUInt32 >>> ((6 : Int32) &&& 31).toUInt32).toInt32)), .val (.int (3 : Int32)), .val (.int ((2 : Int32) + (1 : Int32)))] [])
  rw [show ((2 : Int32) + (1 : Int32)) = (3 : Int32) from by decide]
  show Runs _ _ _ _ T13 (mkF m 81 #[.val (.ref r0), .val (.int p1), .val (.int (((y2 + (63 : Int32)).toUInt32 >>> ((6 : Int32) &&& 31).toUInt32).toInt32)), .val (.int (3 : Int32)), .val (.int (3 : Int32))] [])
  refine Runs.back (fun t_ k_ => XS.goto X13.here hx rfl (pc0 := 81) (pc' := 54) rfl (hb hby d1_81) (by decide) (by decide) k_) ?_
  show Runs _ _ _ _ T13 (mkF m 54 #[.val (.ref r0), .val (.int p1), .val (.int (((y2 + (63 : Int32)).toUInt32 >>> ((6 : Int32) &&& 31).toUInt32).toInt32)), .val (.int (3 : Int32)), .val (.int (3 : Int32))] [])
  refine Runs.back (fun t_ k_ => XS.iload X13.here hx rfl (hb hby d1_54) rfl k_) ?_
  show Runs _ _ _ _ T13 (mkF m 56 #[.val (.ref r0), .val (.int p1), .val (.int (((y2 + (63 : Int32)).toUInt32 >>> ((6 : Int32) &&& 31).toUInt32).toInt32)), .val (.int (3 : Int32)), .val (.int (3 : Int32))] [(.int (3 : Int32))])
  refine Runs.back (fun t_ k_ => XS.iloadN X13.here hx rfl (hb hby d1_56) rfl k_) ?_
  show Runs _ _ _ _ T13 (mkF m 57 #[.val (.ref r0), .val (.int p1), .val (.int (((y2 + (63 : Int32)).toUInt32 >>> ((6 : Int32) &&& 31).toUInt32).toInt32)), .val (.int (3 : Int32)), .val (.int (3 : Int32))] [(.int (3 : Int32)), (.int (3 : Int32))])
  refine Runs.back (fun t_ k_ => XS.icmpYes X13.here hx rfl (pc0 := 57) (pc' := 84) rfl (hb hby d1_57) rfl (flt (show ¬ ((3 : Int32) < (3 : Int32)) from (by decide))).2.1 (by decide) (by decide) k_) ?_
  show Runs _ _ _ _ T13 (mkF m 84 #[.val (.ref r0), .val (.int p1), .val (.int (((y2 + (63 : Int32)).toUInt32 >>> ((6 : Int32) &&& 31).toUInt32).toInt32)), .val (.int (3 : Int32)), .val (.int (3 : Int32))] [])
  obtain ⟨fs, hr, hrun, hended, hW, hsame⟩ := X13.leave (v := none) (fun _ => rfl)
  exact ⟨_, _, (X13.returnOut hx Bd.returns (hb hby d1_84) hr), hrun, hended, _, _, rfl, (by show Q1d3 Z r0 p1 v1 nn h0 n0 _ T13.heap _; rw [e13]; exact ⟨lv, fun i => if i = 2 then a2 else if i = 1 then a1 else a0, rfl, N13, f13_Exa_0, f13_Fld_1, OArr.congr (QArr.toO f13_Qrr_2) (fun i hi => match i, hi with | 0, _ => rfl | 1, _ => rfl | 2, _ => rfl), (fun i hi => match i, hi with | 0, _ => ⟨g_a0, OArr.congr f13_Arr_3 fun j _ => rfl⟩ | 1, _ => ⟨g_a1, OArr.congr f13_Arr_5 fun j _ => rfl⟩ | 2, _ => ⟨g_a2, OArr.congr f13_Arr_7 fun j _ => rfl⟩), (fun i j hi hj hne => match i, j, hi, hj, hne with | 0, 0, _, _, hne => absurd rfl hne | 0, 1, _, _, hne => ne_a0_a1 | 0, 2, _, _, hne => ne_a0_a2 | 1, 0, _, _, hne => (Ne.symm ne_a0_a1) | 1, 1, _, _, hne => absurd rfl hne | 1, 2, _, _, hne => ne_a1_a2 | 2, 0, _, _, hne => (Ne.symm ne_a0_a2) | 2, 1, _, _, hne => (Ne.symm ne_a1_a2) | 2, 2, _, _, hne => absurd rfl hne), (fun i hi => match i, hi with | 0, _ => ⟨(Ne.symm ne_lv_a0), (Ne.symm ne_r0_a0)⟩ | 1, _ => ⟨(Ne.symm ne_lv_a1), (Ne.symm ne_r0_a1)⟩ | 2, _ => ⟨(Ne.symm ne_lv_a2), (Ne.symm ne_r0_a2)⟩)⟩), ⟨_, rfl⟩, hW, hsame.mono (by decide) (by decide)⟩
theorem pn_1d4 : plainName "com/example/tradewheel/tradewheel/SmallestFirst" = true := by first | (simp [plainName, overriddenIn]; done) | decide +kernel
theorem pd1d4_0 : parseMethodDescriptor "(II)I" = some ⟨[.int, .int], some .int⟩ := by decide +kernel
theorem ef_1d4 (m : MethodId) (r0 : Addr) (p1 : Int32) : entryFrame m #[(.ref r0), (.int p1)] 5 = mkF m 0 #[.val (.ref r0), .val (.int p1), .unset, .unset, .unset] [] := by first | (simp [entryFrame, mkF, argsToLocals, Value.category]; done) | rfl
def Q1d4 (Z : State) (r0 : Addr) (p1 : Int32) (v1 : Value) (nn : Nat) (h0 : Heap) (n0 : Nat) (v : Option Value) (h : Heap) (L : List Loc) : Prop := ∃ lv A, v = none ∧ Fr n0 L ∧ SF Z h n0 r0 lv A (szN nn) 4 (wd [])
set_option maxRecDepth 65536 in
set_option maxHeartbeats 40000000 in
theorem rm1d4 (l : Launch) (Z : State) (a0 : Array Value) (hw : ∀ d ∈ tables_1, d.before a0 Z = true) (ws : List Jvm.Cond) (r0 : Addr) (p1 : Int32) (v1 : Value) (nn : Nat) (h0 : Heap) (n0 : Nat) (Z0 : n0 ≤ h0.size) (E_r0 : Exa Z h0 r0 "com/example/tradewheel/tradewheel/SmallestFirst") (F1 : Fld Z h0 r0 "com/example/tradewheel/tradewheel/SmallestFirst" "levels" "[[J" v1) (g_r0 : n0 ≤ r0) (hn : p1.toInt = (nn : Int)) (hn1 : 1 ≤ nn ∧ nn ≤ 1048576) (hb0 : szN nn 0 ≤ 16384) (hb1 : szN nn 1 ≤ 256) (hb2 : szN nn 2 ≤ 4) (hb3 : szN nn 3 ≤ 1) (hg0 : 1 < szN nn 0) (hg1 : 1 < szN nn 1) (hg2 : 1 < szN nn 2) (hgD : szN nn 3 = 1) :
    MetFree l (⟨"com/example/tradewheel/tradewheel/SmallestFirst", "<init>", "(I)V"⟩ : MethodName) (head1 (Jvm.Cond.code (⟨"com/example/tradewheel/tradewheel/SmallestFirst", "<init>", "(I)V"⟩ : MethodName) prog_42_method_1_code 5 none :: ws) ({ frames := 1, cells := 5, slots := 16650, locals := 13 } : Room)) (fun a U => a = #[(.ref r0), (.int p1)] ∧ Z.Warmed39 U.vm ∧ U.heap = h0) (fun _ _ _ _ _ => True) (fun _ U o U' => ∃ v L, o = .returned v ∧ Q1d4 Z r0 p1 v1 nn h0 n0 v U'.heap L ∧ FrameEnd U o U' L ({ frames := 1, cells := 5, slots := 16650, locals := 13 } : Room).cells ({ frames := 1, cells := 5, slots := 16650, locals := 13 } : Room).slots) := by
  refine MetFree.of_bodySF (plainFor_of_name pn_1d4) hisR ?_
  intro p e s m args below meth c s₁ Bd hml0 hP hK
  obtain ⟨rfl, hZ, hh⟩ := hP
  have hx := Bd.exec
  have hby := Bd.bytes
  have hml : c.maxLocals = 5 := hml0
  have hown : s.vm.findClass "com/example/tradewheel/tradewheel/SmallestFirst" = some m.cls := findClass_of_methodNamed Bd.named
  have hnm := (name_of_methodNamed Bd.named Bd.method).1
  have X0 : Stand p l e ({ frames := 1, cells := 5, slots := 16650, locals := 13 } : Room) s m #[(.ref r0), (.int p1)] below meth c s₁ [] 0 0 := Stand.of_body Bd
  have e0 : s₁.heap = h0 := by rw [← hh, Bd.state]; rfl
  have N0 := Fr.nil n0
  refine Runs.enter (ef_1d4 m r0 p1) ?_
  show Runs _ _ _ _ s₁ (mkF m 0 #[.val (.ref r0), .val (.int p1), .unset, .unset, .unset] [])
  refine Runs.back (fun t_ k_ => XS.aloadN X0.here hx rfl (hb hby d1_0) rfl rfl k_) ?_
  show Runs _ _ _ _ s₁ (mkF m 1 #[.val (.ref r0), .val (.int p1), .unset, .unset, .unset] [(.ref r0)])
  obtain ⟨T1, X1, e1, st1⟩ := initO X0 hx hZ hown (hw _ (List.mem_of_getElem? (i := 8) rfl)) (hw _ (List.mem_of_getElem? (i := 9) rfl)) (hw _ (List.mem_of_getElem? (i := 10) rfl)) e0 (g := (mkF m 1 #[.val (.ref r0), .val (.int p1), .unset, .unset, .unset] [(.ref r0)])) rfl (by rw [hml]; rfl) rfl (hb hby d1_1) (by decide) (W := 0) (by show 2 * 0 + _ ≤ _; exact Nat.le_of_eq rfl) (by decide)
  refine Runs.back st1 ?_
  show Runs _ _ _ _ T1 (mkF m 4 #[.val (.ref r0), .val (.int p1), .unset, .unset, .unset] [])
  refine Runs.back (fun t_ k_ => XS.iconst X1.here hx rfl (hb hby d1_4) k_) ?_
  show Runs _ _ _ _ T1 (mkF m 5 #[.val (.ref r0), .val (.int p1), .unset, .unset, .unset] [(.int (1 : Int32))])
  refine Runs.back (fun t_ k_ => XS.iloadN X1.here hx rfl (hb hby d1_5) rfl k_) ?_
  show Runs _ _ _ _ T1 (mkF m 6 #[.val (.ref r0), .val (.int p1), .unset, .unset, .unset] [(.int p1), (.int (1 : Int32))])
  refine Runs.back (fun t_ k_ => XS.bipush X1.here hx rfl (hb hby d1_6) k_) ?_
  show Runs _ _ _ _ T1 (mkF m 8 #[.val (.ref r0), .val (.int p1), .unset, .unset, .unset] [(.int (63 : Int32)), (.int p1), (.int (1 : Int32))])
  refine Runs.back (fun t_ k_ => XS.iadd X1.here hx rfl (hb hby d1_8) rfl k_) ?_
  show Runs _ _ _ _ T1 (mkF m 9 #[.val (.ref r0), .val (.int p1), .unset, .unset, .unset] [(.int (p1 + (63 : Int32))), (.int (1 : Int32))])
  refine Runs.back (fun t_ k_ => XS.bipush X1.here hx rfl (hb hby d1_9) k_) ?_
  show Runs _ _ _ _ T1 (mkF m 11 #[.val (.ref r0), .val (.int p1), .unset, .unset, .unset] [(.int (6 : Int32)), (.int (p1 + (63 : Int32))), (.int (1 : Int32))])
  refine Runs.back (fun t_ k_ => XS.iushr X1.here hx rfl (hb hby d1_11) rfl k_) ?_
  show Runs _ _ _ _ T1 (mkF m 12 #[.val (.ref r0), .val (.int p1), .unset, .unset, .unset] [(.int (((p1 + (63 : Int32)).toUInt32 >>> ((6 : Int32) &&& 31).toUInt32).toInt32)), (.int (1 : Int32))])
  obtain ⟨_, _, ⟨T2, L2, k2, n2⟩, -, X2, ⟨Lc2, hQ2, l2, y2, z2⟩, st2⟩ := Jvm.LawKit.callS X1 hx (y := (⟨"java/lang/Math", "max", "(II)I"⟩ : MethodName)) hown (mvT hZ (hw _ (List.mem_of_getElem? (i := 11) rfl))) (mvT hZ (hw _ (List.mem_of_getElem? (i := 12) rfl))) (mvT hZ (hw _ (List.mem_of_getElem? (i := 13) rfl))) (mvT hZ (hw _ (List.mem_of_getElem? (i := 14) rfl))) (by decide) (backOf (W := 0) (rm3 l Z a0 hw [] (1 : Int32) (((p1 + (63 : Int32)).toUInt32 >>> ((6 : Int32) &&& 31).toUInt32).toInt32) h0 n0 (Z0)) hZ (hw _ (List.mem_of_getElem? (i := 14) rfl)) (hw _ (List.mem_of_getElem? (i := 13) rfl)) (by decide) (by decide)) (g := (mkF m 12 #[.val (.ref r0), .val (.int p1), .unset, .unset, .unset] [(.int (((p1 + (63 : Int32)).toUInt32 >>> ((6 : Int32) &&& 31).toUInt32).toInt32)), (.int (1 : Int32))])) rfl (by rw [hml]; rfl) (argsL := [(.int (1 : Int32)), (.int (((p1 + (63 : Int32)).toUInt32 >>> ((6 : Int32) &&& 31).toUInt32).toInt32))]) (rest := []) (lenOf pd1d4_0 rfl) rfl (by show 2 * 0 + _ ≤ _; exact Nat.le_of_eq rfl) (hb hby d1_12) (fun _ _ => ⟨rfl, e1, (by decide : 0 + 0 ≤ _), (by decide : 0 + 0 ≤ _)⟩)
  dsimp only [Pt.U, Pt.locs, Pt.cells, Pt.slots] at X2 l2 y2 z2 st2 hQ2
  obtain rfl : k2 = 0 := y2
  obtain rfl : n2 = 0 := z2
  obtain ⟨rfl, N2q, eq2⟩ := hQ2
  have N2 : Fr n0 L2 := by rw [l2]; exact Fr.app N0 N2q
  clear l2
  refine Runs.back st2 ?_
  show Runs _ _ _ _ T2 (mkF m 15 #[.val (.ref r0), .val (.int p1), .unset, .unset, .unset] [(.int (maxF (1 : Int32) (((p1 + (63 : Int32)).toUInt32 >>> ((6 : Int32) &&& 31).toUInt32).toInt32)))])
  have hy0 : ((maxF (1 : Int32) (((p1 + (63 : Int32)).toUInt32 >>> ((6 : Int32) &&& 31).toUInt32).toInt32))).toInt = ((szN nn 0 : Nat) : Int) := max_val (up63 hn (by omega))
  generalize ey0 : (maxF (1 : Int32) (((p1 + (63 : Int32)).toUInt32 >>> ((6 : Int32) &&& 31).toUInt32).toInt32)) = y0 at hy0 ⊢
  show Runs _ _ _ _ T2 (mkF m 15 #[.val (.ref r0), .val (.int p1), .unset, .unset, .unset] [(.int y0)])
  refine Runs.back (fun t_ k_ => XS.istoreN X2.here hx rfl (hb hby d1_15) rfl (l' := #[.val (.ref r0), .val (.int p1), .val (.int y0), .unset, .unset]) rfl k_) ?_
  show Runs _ _ _ _ T2 (mkF m 16 #[.val (.ref r0), .val (.int p1), .val (.int y0), .unset, .unset] [])
  refine Runs.back (fun t_ k_ => XS.iconst X2.here hx rfl (hb hby d1_16) k_) ?_
  show Runs _ _ _ _ T2 (mkF m 17 #[.val (.ref r0), .val (.int p1), .val (.int y0), .unset, .unset] [(.int (1 : Int32))])
  refine Runs.back (fun t_ k_ => XS.istoreN X2.here hx rfl (hb hby d1_17) rfl (l' := #[.val (.ref r0), .val (.int p1), .val (.int y0), .val (.int (1 : Int32)), .unset]) rfl k_) ?_
  show Runs _ _ _ _ T2 (mkF m 18 #[.val (.ref r0), .val (.int p1), .val (.int y0), .val (.int (1 : Int32)), .unset] [])
  refine Runs.back (fun t_ k_ => XS.iloadN X2.here hx rfl (hb hby d1_18) rfl k_) ?_
  show Runs _ _ _ _ T2 (mkF m 19 #[.val (.ref r0), .val (.int p1), .val (.int y0), .val (.int (1 : Int32)), .unset] [(.int y0)])
  refine Runs.back (fun t_ k_ => XS.istore X2.here hx rfl (hb hby d1_19) rfl (l' := #[.val (.ref r0), .val (.int p1), .val (.int y0), .val (.int (1 : Int32)), .val (.int y0)]) rfl k_) ?_
  show Runs _ _ _ _ T2 (mkF m 21 #[.val (.ref r0), .val (.int p1), .val (.int y0), .val (.int (1 : Int32)), .val (.int y0)] [])
  have ht0 : y0.toInt = ((szN nn 0 : Nat) : Int) := hy0
  refine Runs.back (fun t_ k_ => XS.iload X2.here hx rfl (hb hby d1_21) rfl k_) ?_
  show Runs _ _ _ _ T2 (mkF m 23 #[.val (.ref r0), .val (.int p1), .val (.int y0), .val (.int (1 : Int32)), .val (.int y0)] [(.int y0)])
  refine Runs.back (fun t_ k_ => XS.iconst X2.here hx rfl (hb hby d1_23) k_) ?_
  show Runs _ _ _ _ T2 (mkF m 24 #[.val (.ref r0), .val (.int p1), .val (.int y0), .val (.int (1 : Int32)), .val (.int y0)] [(.int (1 : Int32)), (.int y0)])
  refine Runs.back (fun t_ k_ => XS.icmpNo X2.here hx rfl (hb hby d1_24) rfl (tlt (show (1 : Int32) < y0 from (by rw [lti, o32, ht0]; omega))).2.2.2 k_) ?_
  show Runs _ _ _ _ T2 (mkF m 27 #[.val (.ref r0), .val (.int p1), .val (.int y0), .val (.int (1 : Int32)), .val (.int y0)] [])
  refine Runs.back (fun t_ k_ => XS.iinc X2.here hx rfl (hb hby d1_27) rfl (l' := #[.val (.ref r0), .val (.int p1), .val (.int y0), .val (.int ((1 : Int32) + (1 : Int32))), .val (.int y0)]) rfl k_) ?_
  show Runs _ _ _ _ T2 (mkF m 30 #[.val (.ref r0), .val (.int p1), .val (.int y0), .val (.int ((1 : Int32) + (1 : Int32))), .val (.int y0)] [])
  rw [show ((1 : Int32) + (1 : Int32)) = (2 : Int32) from by decide]
  show Runs _ _ _ _ T2 (mkF m 30 #[.val (.ref r0), .val (.int p1), .val (.int y0), .val (.int (2 : Int32)), .val (.int y0)] [])
  refine Runs.back (fun t_ k_ => XS.iload X2.here hx rfl (hb hby d1_30) rfl k_) ?_
  show Runs _ _ _ _ T2 (mkF m 32 #[.val (.ref r0), .val (.int p1), .val (.int y0), .val (.int (2 : Int32)), .val (.int y0)] [(.int y0)])
  refine Runs.back (fun t_ k_ => XS.bipush X2.here hx rfl (hb hby d1_32) k_) ?_
  show Runs _ _ _ _ T2 (mkF m 34 #[.val (.ref r0), .val (.int p1), .val (.int y0), .val (.int (2 : Int32)), .val (.int y0)] [(.int (63 : Int32)), (.int y0)])
  refine Runs.back (fun t_ k_ => XS.iadd X2.here hx rfl (hb hby d1_34) rfl k_) ?_
  show Runs _ _ _ _ T2 (mkF m 35 #[.val (.ref r0), .val (.int p1), .val (.int y0), .val (.int (2 : Int32)), .val (.int y0)] [(.int (y0 + (63 : Int32)))])
  refine Runs.back (fun t_ k_ => XS.bipush X2.here hx rfl (hb hby d1_35) k_) ?_
  show Runs _ _ _ _ T2 (mkF m 37 #[.val (.ref r0), .val (.int p1), .val (.int y0), .val (.int (2 : Int32)), .val (.int y0)] [(.int (6 : Int32)), (.int (y0 + (63 : Int32)))])
  refine Runs.back (fun t_ k_ => XS.iushr X2.here hx rfl (hb hby d1_37) rfl k_) ?_
  show Runs _ _ _ _ T2 (mkF m 38 #[.val (.ref r0), .val (.int p1), .val (.int y0), .val (.int (2 : Int32)), .val (.int y0)] [(.int (((y0 + (63 : Int32)).toUInt32 >>> ((6 : Int32) &&& 31).toUInt32).toInt32))])
  refine Runs.back (fun t_ k_ => XS.istore X2.here hx rfl (hb hby d1_38) rfl (l' := #[.val (.ref r0), .val (.int p1), .val (.int y0), .val (.int (2 : Int32)), .val (.int (((y0 + (63 : Int32)).toUInt32 >>> ((6 : Int32) &&& 31).toUInt32).toInt32))]) rfl k_) ?_
  show Runs _ _ _ _ T2 (mkF m 40 #[.val (.ref r0), .val (.int p1), .val (.int y0), .val (.int (2 : Int32)), .val (.int (((y0 + (63 : Int32)).toUInt32 >>> ((6 : Int32) &&& 31).toUInt32).toInt32))] [])
  refine Runs.back (fun t_ k_ => XS.goto X2.here hx rfl (pc0 := 40) (pc' := 21) rfl (hb hby d1_40) (by decide) (by decide) k_) ?_
  show Runs _ _ _ _ T2 (mkF m 21 #[.val (.ref r0), .val (.int p1), .val (.int y0), .val (.int (2 : Int32)), .val (.int (((y0 + (63 : Int32)).toUInt32 >>> ((6 : Int32) &&& 31).toUInt32).toInt32))] [])
  have ht1 : ((((y0 + (63 : Int32)).toUInt32 >>> ((6 : Int32) &&& 31).toUInt32).toInt32)).toInt = ((szN nn 1 : Nat) : Int) := up63 (W := szN nn 0) ht0 (Nat.lt_of_le_of_lt hb0 (by decide))
  generalize et1 : (((y0 + (63 : Int32)).toUInt32 >>> ((6 : Int32) &&& 31).toUInt32).toInt32) = t1 at ht1 ⊢
  show Runs _ _ _ _ T2 (mkF m 21 #[.val (.ref r0), .val (.int p1), .val (.int y0), .val (.int (2 : Int32)), .val (.int t1)] [])
  refine Runs.back (fun t_ k_ => XS.iload X2.here hx rfl (hb hby d1_21) rfl k_) ?_
  show Runs _ _ _ _ T2 (mkF m 23 #[.val (.ref r0), .val (.int p1), .val (.int y0), .val (.int (2 : Int32)), .val (.int t1)] [(.int t1)])
  refine Runs.back (fun t_ k_ => XS.iconst X2.here hx rfl (hb hby d1_23) k_) ?_
  show Runs _ _ _ _ T2 (mkF m 24 #[.val (.ref r0), .val (.int p1), .val (.int y0), .val (.int (2 : Int32)), .val (.int t1)] [(.int (1 : Int32)), (.int t1)])
  refine Runs.back (fun t_ k_ => XS.icmpNo X2.here hx rfl (hb hby d1_24) rfl (tlt (show (1 : Int32) < t1 from (by rw [lti, o32, ht1]; omega))).2.2.2 k_) ?_
  show Runs _ _ _ _ T2 (mkF m 27 #[.val (.ref r0), .val (.int p1), .val (.int y0), .val (.int (2 : Int32)), .val (.int t1)] [])
  refine Runs.back (fun t_ k_ => XS.iinc X2.here hx rfl (hb hby d1_27) rfl (l' := #[.val (.ref r0), .val (.int p1), .val (.int y0), .val (.int ((2 : Int32) + (1 : Int32))), .val (.int t1)]) rfl k_) ?_
  show Runs _ _ _ _ T2 (mkF m 30 #[.val (.ref r0), .val (.int p1), .val (.int y0), .val (.int ((2 : Int32) + (1 : Int32))), .val (.int t1)] [])
  rw [show ((2 : Int32) + (1 : Int32)) = (3 : Int32) from by decide]
  show Runs _ _ _ _ T2 (mkF m 30 #[.val (.ref r0), .val (.int p1), .val (.int y0), .val (.int (3 : Int32)), .val (.int t1)] [])
  refine Runs.back (fun t_ k_ => XS.iload X2.here hx rfl (hb hby d1_30) rfl k_) ?_
  show Runs _ _ _ _ T2 (mkF m 32 #[.val (.ref r0), .val (.int p1), .val (.int y0), .val (.int (3 : Int32)), .val (.int t1)] [(.int t1)])
  refine Runs.back (fun t_ k_ => XS.bipush X2.here hx rfl (hb hby d1_32) k_) ?_
  show Runs _ _ _ _ T2 (mkF m 34 #[.val (.ref r0), .val (.int p1), .val (.int y0), .val (.int (3 : Int32)), .val (.int t1)] [(.int (63 : Int32)), (.int t1)])
  refine Runs.back (fun t_ k_ => XS.iadd X2.here hx rfl (hb hby d1_34) rfl k_) ?_
  show Runs _ _ _ _ T2 (mkF m 35 #[.val (.ref r0), .val (.int p1), .val (.int y0), .val (.int (3 : Int32)), .val (.int t1)] [(.int (t1 + (63 : Int32)))])
  refine Runs.back (fun t_ k_ => XS.bipush X2.here hx rfl (hb hby d1_35) k_) ?_
  show Runs _ _ _ _ T2 (mkF m 37 #[.val (.ref r0), .val (.int p1), .val (.int y0), .val (.int (3 : Int32)), .val (.int t1)] [(.int (6 : Int32)), (.int (t1 + (63 : Int32)))])
  refine Runs.back (fun t_ k_ => XS.iushr X2.here hx rfl (hb hby d1_37) rfl k_) ?_
  show Runs _ _ _ _ T2 (mkF m 38 #[.val (.ref r0), .val (.int p1), .val (.int y0), .val (.int (3 : Int32)), .val (.int t1)] [(.int (((t1 + (63 : Int32)).toUInt32 >>> ((6 : Int32) &&& 31).toUInt32).toInt32))])
  refine Runs.back (fun t_ k_ => XS.istore X2.here hx rfl (hb hby d1_38) rfl (l' := #[.val (.ref r0), .val (.int p1), .val (.int y0), .val (.int (3 : Int32)), .val (.int (((t1 + (63 : Int32)).toUInt32 >>> ((6 : Int32) &&& 31).toUInt32).toInt32))]) rfl k_) ?_
  show Runs _ _ _ _ T2 (mkF m 40 #[.val (.ref r0), .val (.int p1), .val (.int y0), .val (.int (3 : Int32)), .val (.int (((t1 + (63 : Int32)).toUInt32 >>> ((6 : Int32) &&& 31).toUInt32).toInt32))] [])
  refine Runs.back (fun t_ k_ => XS.goto X2.here hx rfl (pc0 := 40) (pc' := 21) rfl (hb hby d1_40) (by decide) (by decide) k_) ?_
  show Runs _ _ _ _ T2 (mkF m 21 #[.val (.ref r0), .val (.int p1), .val (.int y0), .val (.int (3 : Int32)), .val (.int (((t1 + (63 : Int32)).toUInt32 >>> ((6 : Int32) &&& 31).toUInt32).toInt32))] [])
  have ht2 : ((((t1 + (63 : Int32)).toUInt32 >>> ((6 : Int32) &&& 31).toUInt32).toInt32)).toInt = ((szN nn 2 : Nat) : Int) := up63 (W := szN nn 1) ht1 (Nat.lt_of_le_of_lt hb1 (by decide))
  generalize et2 : (((t1 + (63 : Int32)).toUInt32 >>> ((6 : Int32) &&& 31).toUInt32).toInt32) = t2 at ht2 ⊢
  show Runs _ _ _ _ T2 (mkF m 21 #[.val (.ref r0), .val (.int p1), .val (.int y0), .val (.int (3 : Int32)), .val (.int t2)] [])
  refine Runs.back (fun t_ k_ => XS.iload X2.here hx rfl (hb hby d1_21) rfl k_) ?_
  show Runs _ _ _ _ T2 (mkF m 23 #[.val (.ref r0), .val (.int p1), .val (.int y0), .val (.int (3 : Int32)), .val (.int t2)] [(.int t2)])
  refine Runs.back (fun t_ k_ => XS.iconst X2.here hx rfl (hb hby d1_23) k_) ?_
  show Runs _ _ _ _ T2 (mkF m 24 #[.val (.ref r0), .val (.int p1), .val (.int y0), .val (.int (3 : Int32)), .val (.int t2)] [(.int (1 : Int32)), (.int t2)])
  refine Runs.back (fun t_ k_ => XS.icmpNo X2.here hx rfl (hb hby d1_24) rfl (tlt (show (1 : Int32) < t2 from (by rw [lti, o32, ht2]; omega))).2.2.2 k_) ?_
  show Runs _ _ _ _ T2 (mkF m 27 #[.val (.ref r0), .val (.int p1), .val (.int y0), .val (.int (3 : Int32)), .val (.int t2)] [])
  refine Runs.back (fun t_ k_ => XS.iinc X2.here hx rfl (hb hby d1_27) rfl (l' := #[.val (.ref r0), .val (.int p1), .val (.int y0), .val (.int ((3 : Int32) + (1 : Int32))), .val (.int t2)]) rfl k_) ?_
  show Runs _ _ _ _ T2 (mkF m 30 #[.val (.ref r0), .val (.int p1), .val (.int y0), .val (.int ((3 : Int32) + (1 : Int32))), .val (.int t2)] [])
  rw [show ((3 : Int32) + (1 : Int32)) = (4 : Int32) from by decide]
  show Runs _ _ _ _ T2 (mkF m 30 #[.val (.ref r0), .val (.int p1), .val (.int y0), .val (.int (4 : Int32)), .val (.int t2)] [])
  refine Runs.back (fun t_ k_ => XS.iload X2.here hx rfl (hb hby d1_30) rfl k_) ?_
  show Runs _ _ _ _ T2 (mkF m 32 #[.val (.ref r0), .val (.int p1), .val (.int y0), .val (.int (4 : Int32)), .val (.int t2)] [(.int t2)])
  refine Runs.back (fun t_ k_ => XS.bipush X2.here hx rfl (hb hby d1_32) k_) ?_
  show Runs _ _ _ _ T2 (mkF m 34 #[.val (.ref r0), .val (.int p1), .val (.int y0), .val (.int (4 : Int32)), .val (.int t2)] [(.int (63 : Int32)), (.int t2)])
  refine Runs.back (fun t_ k_ => XS.iadd X2.here hx rfl (hb hby d1_34) rfl k_) ?_
  show Runs _ _ _ _ T2 (mkF m 35 #[.val (.ref r0), .val (.int p1), .val (.int y0), .val (.int (4 : Int32)), .val (.int t2)] [(.int (t2 + (63 : Int32)))])
  refine Runs.back (fun t_ k_ => XS.bipush X2.here hx rfl (hb hby d1_35) k_) ?_
  show Runs _ _ _ _ T2 (mkF m 37 #[.val (.ref r0), .val (.int p1), .val (.int y0), .val (.int (4 : Int32)), .val (.int t2)] [(.int (6 : Int32)), (.int (t2 + (63 : Int32)))])
  refine Runs.back (fun t_ k_ => XS.iushr X2.here hx rfl (hb hby d1_37) rfl k_) ?_
  show Runs _ _ _ _ T2 (mkF m 38 #[.val (.ref r0), .val (.int p1), .val (.int y0), .val (.int (4 : Int32)), .val (.int t2)] [(.int (((t2 + (63 : Int32)).toUInt32 >>> ((6 : Int32) &&& 31).toUInt32).toInt32))])
  refine Runs.back (fun t_ k_ => XS.istore X2.here hx rfl (hb hby d1_38) rfl (l' := #[.val (.ref r0), .val (.int p1), .val (.int y0), .val (.int (4 : Int32)), .val (.int (((t2 + (63 : Int32)).toUInt32 >>> ((6 : Int32) &&& 31).toUInt32).toInt32))]) rfl k_) ?_
  show Runs _ _ _ _ T2 (mkF m 40 #[.val (.ref r0), .val (.int p1), .val (.int y0), .val (.int (4 : Int32)), .val (.int (((t2 + (63 : Int32)).toUInt32 >>> ((6 : Int32) &&& 31).toUInt32).toInt32))] [])
  refine Runs.back (fun t_ k_ => XS.goto X2.here hx rfl (pc0 := 40) (pc' := 21) rfl (hb hby d1_40) (by decide) (by decide) k_) ?_
  show Runs _ _ _ _ T2 (mkF m 21 #[.val (.ref r0), .val (.int p1), .val (.int y0), .val (.int (4 : Int32)), .val (.int (((t2 + (63 : Int32)).toUInt32 >>> ((6 : Int32) &&& 31).toUInt32).toInt32))] [])
  have ht3 : ((((t2 + (63 : Int32)).toUInt32 >>> ((6 : Int32) &&& 31).toUInt32).toInt32)).toInt = ((szN nn 3 : Nat) : Int) := up63 (W := szN nn 2) ht2 (Nat.lt_of_le_of_lt hb2 (by decide))
  generalize et3 : (((t2 + (63 : Int32)).toUInt32 >>> ((6 : Int32) &&& 31).toUInt32).toInt32) = t3 at ht3 ⊢
  show Runs _ _ _ _ T2 (mkF m 21 #[.val (.ref r0), .val (.int p1), .val (.int y0), .val (.int (4 : Int32)), .val (.int t3)] [])
  refine Runs.back (fun t_ k_ => XS.iload X2.here hx rfl (hb hby d1_21) rfl k_) ?_
  show Runs _ _ _ _ T2 (mkF m 23 #[.val (.ref r0), .val (.int p1), .val (.int y0), .val (.int (4 : Int32)), .val (.int t3)] [(.int t3)])
  refine Runs.back (fun t_ k_ => XS.iconst X2.here hx rfl (hb hby d1_23) k_) ?_
  show Runs _ _ _ _ T2 (mkF m 24 #[.val (.ref r0), .val (.int p1), .val (.int y0), .val (.int (4 : Int32)), .val (.int t3)] [(.int (1 : Int32)), (.int t3)])
  refine Runs.back (fun t_ k_ => XS.icmpYes X2.here hx rfl (pc0 := 24) (pc' := 43) rfl (hb hby d1_24) rfl (flt (show ¬ ((1 : Int32) < t3) from (by rw [lti, o32, ht3]; omega))).2.2.2 (by decide) (by decide) k_) ?_
  show Runs _ _ _ _ T2 (mkF m 43 #[.val (.ref r0), .val (.int p1), .val (.int y0), .val (.int (4 : Int32)), .val (.int t3)] [])
  refine Runs.back (fun t_ k_ => XS.aloadN X2.here hx rfl (hb hby d1_43) rfl rfl k_) ?_
  show Runs _ _ _ _ T2 (mkF m 44 #[.val (.ref r0), .val (.int p1), .val (.int y0), .val (.int (4 : Int32)), .val (.int t3)] [(.ref r0)])
  refine Runs.back (fun t_ k_ => XS.iloadN X2.here hx rfl (hb hby d1_44) rfl k_) ?_
  show Runs _ _ _ _ T2 (mkF m 45 #[.val (.ref r0), .val (.int p1), .val (.int y0), .val (.int (4 : Int32)), .val (.int t3)] [(.int (4 : Int32)), (.ref r0)])
  obtain ⟨T3, h3, k3, X3, e3, E3, A3, EA3, O3, st3⟩ := newRA X2 hx hZ (C := "[J") (ty := .long) hown (by decide) (hw _ (List.mem_of_getElem? (i := 15) rfl)) (hw _ (List.mem_of_getElem? (i := 16) rfl)) eq2 (g := (mkF m 45 #[.val (.ref r0), .val (.int p1), .val (.int y0), .val (.int (4 : Int32)), .val (.int t3)] [(.int (4 : Int32)), (.ref r0)])) rfl (hb hby d1_45) rfl (by decide) (cap := 4) (by decide) (by decide) (by decide) (by decide) (ad := "[[J") (by decide)
  obtain ⟨lv, g3⟩ : ∃ z, z = h0.size := ⟨_, rfl⟩
  rw [← g3] at A3 EA3 st3
  have g_lv : n0 ≤ lv := Nat.le_trans (Z0) (Nat.le_of_eq g3.symm)
  have ne_r0_lv : r0 ≠ lv := Nat.ne_of_lt (Nat.lt_of_lt_of_le E_r0.lt (Nat.le_of_eq g3.symm))
  have f3_Exa_0 : Exa Z h3 r0 "com/example/tradewheel/tradewheel/SmallestFirst" := Exa.ext E3 E_r0
  have f3_Fld_1 : Fld Z h3 r0 "com/example/tradewheel/tradewheel/SmallestFirst" "levels" "[[J" v1 := Fld.ext E3 F1
  have Z3 : n0 ≤ h3.size := Nat.le_trans (Z0) E3.1
  have V3 : QArr Z h3 lv (.array .long) 4 (fun _ => Value.null) k3 := QArr.new A3 rfl rfl
  refine Runs.back st3 ?_
  show Runs _ _ _ _ T3 (mkF m 48 #[.val (.ref r0), .val (.int p1), .val (.int y0), .val (.int (4 : Int32)), .val (.int t3)] [(.ref lv), (.ref r0)])
  obtain ⟨T4, h4, X4, e4, W4, st4⟩ := putF X3 hx hZ hown (host := "") (Or.inl (hw _ (List.mem_of_getElem? (i := 17) rfl))) Via.refl e3 f3_Fld_1 f3_Exa_0 (Or.inr ⟨(hw _ (List.mem_of_getElem? (i := 18) rfl)), rfl, hnm⟩) (hw _ (List.mem_of_getElem? (i := 3) rfl)) (ty := (.array (.array .long))) (by decide) rfl rfl (g := (mkF m 48 #[.val (.ref r0), .val (.int p1), .val (.int y0), .val (.int (4 : Int32)), .val (.int t3)] [(.ref lv), (.ref r0)])) rfl rfl (hb hby d1_48)
  have f4_Exa_0 : Exa Z h4 r0 "com/example/tradewheel/tradewheel/SmallestFirst" := Exa.wr W4 f3_Exa_0
  have f4_Fld_1 : Fld Z h4 r0 "com/example/tradewheel/tradewheel/SmallestFirst" "levels" "[[J" (.ref lv) := Fld.same W4 f3_Fld_1
  have f4_Qrr_2 : QArr Z h4 lv (.array .long) 4 (fun _ => Value.null) k3 := V3.other W4 (Ne.symm ne_r0_lv)
  have N4 := Fr.snoc X4 N2 g_r0
  obtain ⟨L4, X4, N4⟩ := hideL X4 N4
  have Z4 : n0 ≤ h4.size := Nat.le_trans (Z3) (Nat.le_of_eq W4.size.symm)
  refine Runs.back st4 ?_
  show Runs _ _ _ _ T4 (mkF m 51 #[.val (.ref r0), .val (.int p1), .val (.int y0), .val (.int (4 : Int32)), .val (.int t3)] [])
  refine Runs.back (fun t_ k_ => XS.iconst X4.here hx rfl (hb hby d1_51) k_) ?_
  show Runs _ _ _ _ T4 (mkF m 52 #[.val (.ref r0), .val (.int p1), .val (.int y0), .val (.int (4 : Int32)), .val (.int t3)] [(.int (0 : Int32))])
  refine Runs.back (fun t_ k_ => XS.istore X4.here hx rfl (hb hby d1_52) rfl (l' := #[.val (.ref r0), .val (.int p1), .val (.int y0), .val (.int (4 : Int32)), .val (.int (0 : Int32))]) rfl k_) ?_
  show Runs _ _ _ _ T4 (mkF m 54 #[.val (.ref r0), .val (.int p1), .val (.int y0), .val (.int (4 : Int32)), .val (.int (0 : Int32))] [])
  refine Runs.back (fun t_ k_ => XS.iload X4.here hx rfl (hb hby d1_54) rfl k_) ?_
  show Runs _ _ _ _ T4 (mkF m 56 #[.val (.ref r0), .val (.int p1), .val (.int y0), .val (.int (4 : Int32)), .val (.int (0 : Int32))] [(.int (0 : Int32))])
  refine Runs.back (fun t_ k_ => XS.iloadN X4.here hx rfl (hb hby d1_56) rfl k_) ?_
  show Runs _ _ _ _ T4 (mkF m 57 #[.val (.ref r0), .val (.int p1), .val (.int y0), .val (.int (4 : Int32)), .val (.int (0 : Int32))] [(.int (4 : Int32)), (.int (0 : Int32))])
  refine Runs.back (fun t_ k_ => XS.icmpNo X4.here hx rfl (hb hby d1_57) rfl (tlt (show (0 : Int32) < (4 : Int32) from (by decide))).2.1 k_) ?_
  show Runs _ _ _ _ T4 (mkF m 60 #[.val (.ref r0), .val (.int p1), .val (.int y0), .val (.int (4 : Int32)), .val (.int (0 : Int32))] [])
  refine Runs.back (fun t_ k_ => XS.aloadN X4.here hx rfl (hb hby d1_60) rfl rfl k_) ?_
  show Runs _ _ _ _ T4 (mkF m 61 #[.val (.ref r0), .val (.int p1), .val (.int y0), .val (.int (4 : Int32)), .val (.int (0 : Int32))] [(.ref r0)])
  obtain ⟨T5, X5, e5, st5⟩ := getF X4 hx hZ hown (host := "") (Or.inl (hw _ (List.mem_of_getElem? (i := 17) rfl))) Via.refl e4 f4_Fld_1 (g := (mkF m 61 #[.val (.ref r0), .val (.int p1), .val (.int y0), .val (.int (4 : Int32)), .val (.int (0 : Int32))] [(.ref r0)])) rfl rfl (hb hby d1_61)
  refine Runs.back st5 ?_
  show Runs _ _ _ _ T5 (mkF m 64 #[.val (.ref r0), .val (.int p1), .val (.int y0), .val (.int (4 : Int32)), .val (.int (0 : Int32))] [(.ref lv)])
  refine Runs.back (fun t_ k_ => XS.iload X5.here hx rfl (hb hby d1_64) rfl k_) ?_
  show Runs _ _ _ _ T5 (mkF m 66 #[.val (.ref r0), .val (.int p1), .val (.int y0), .val (.int (4 : Int32)), .val (.int (0 : Int32))] [(.int (0 : Int32)), (.ref lv)])
  refine Runs.back (fun t_ k_ => XS.iloadN X5.here hx rfl (hb hby d1_66) rfl k_) ?_
  show Runs _ _ _ _ T5 (mkF m 67 #[.val (.ref r0), .val (.int p1), .val (.int y0), .val (.int (4 : Int32)), .val (.int (0 : Int32))] [(.int y0), (.int (0 : Int32)), (.ref lv)])
  have cy0 := clampI hy0
  obtain ⟨T6, h6, k6, X6, e6, E6, A6, EA6, st6⟩ := newPE X5 hx hZ (hw _ (List.mem_of_getElem? (i := 19) rfl)) e5 (g := (mkF m 67 #[.val (.ref r0), .val (.int p1), .val (.int y0), .val (.int (4 : Int32)), .val (.int (0 : Int32))] [(.int y0), (.int (0 : Int32)), (.ref lv)])) rfl (hb hby d1_67) rfl cy0.2 (cap := 16384) (by rw [cy0.1]; omega) (by decide) (by decide) (by decide) (ad := "[J") (by decide)
  obtain ⟨a0, g6⟩ : ∃ z, z = h4.size := ⟨_, rfl⟩
  rw [← g6] at A6 EA6 st6
  have g_a0 : n0 ≤ a0 := Nat.le_trans (Z4) (Nat.le_of_eq g6.symm)
  have ne_r0_a0 : r0 ≠ a0 := Nat.ne_of_lt (Nat.lt_of_lt_of_le f4_Exa_0.lt (Nat.le_of_eq g6.symm))
  have ne_lv_a0 : lv ≠ a0 := Nat.ne_of_lt (Nat.lt_of_lt_of_le f4_Qrr_2.lt (Nat.le_of_eq g6.symm))
  have f6_Exa_0 : Exa Z h6 r0 "com/example/tradewheel/tradewheel/SmallestFirst" := Exa.ext E6 f4_Exa_0
  have f6_Fld_1 : Fld Z h6 r0 "com/example/tradewheel/tradewheel/SmallestFirst" "levels" "[[J" (.ref lv) := Fld.ext E6 f4_Fld_1
  have f6_Qrr_2 : QArr Z h6 lv (.array .long) 4 (fun _ => Value.null) k3 := f4_Qrr_2.ext E6
  have Z6 : n0 ≤ h6.size := Nat.le_trans (Z4) E6.1
  have V6 : OArr Z h6 a0 .long (szN nn 0) (fun _ => (Value.long (0 : Int64))) := OArr.new A6 cy0.1 rfl
  refine Runs.back st6 ?_
  show Runs _ _ _ _ T6 (mkF m 69 #[.val (.ref r0), .val (.int p1), .val (.int y0), .val (.int (4 : Int32)), .val (.int (0 : Int32))] [(.ref a0), (.int (0 : Int32)), (.ref lv)])
  obtain ⟨cl7, Ar7, Kc7, S7, Hs7⟩ := id f6_Qrr_2
  obtain ⟨T7, h7, X7, e7, W7, st7⟩ := stR X6 hx hZ e6 Ar7 (j := (0 : Int32)) (by rw [S7]; exact inbO (by decide) (rfl : ((0 : Int32)).toNatClampNeg = 0) (by decide)) rfl (Sto.ofVA Ar7 Kc7 O3 (Ins.self EA6)) (g := (mkF m 69 #[.val (.ref r0), .val (.int p1), .val (.int y0), .val (.int (4 : Int32)), .val (.int (0 : Int32))] [(.ref a0), (.int (0 : Int32)), (.ref lv)])) rfl rfl (hb hby d1_69)
  have N7 := Fr.snoc X7 N4 g_lv
  obtain ⟨L7, X7, N7⟩ := hideL X7 N7
  rw [(rfl : ((0 : Int32)).toNatClampNeg = 0)] at W7
  have f7_Exa_0 : Exa Z h7 r0 "com/example/tradewheel/tradewheel/SmallestFirst" := Exa.wr W7 f6_Exa_0
  have f7_Fld_1 : Fld Z h7 r0 "com/example/tradewheel/tradewheel/SmallestFirst" "levels" "[[J" (.ref lv) := Fld.other W7 f6_Fld_1 (Or.inl ne_r0_lv)
  have f7_Qrr_2 : QArr Z h7 lv (.array .long) 4 (fun i => if i = 0 then (Value.ref a0) else (fun _ => Value.null) i) k3 := f6_Qrr_2.set W7
  have f7_Arr_3 : OArr Z h7 a0 .long (szN nn 0) (fun _ => (Value.long (0 : Int64))) := V6.other W7 (Ne.symm ne_lv_a0)
  have f7_Exa_4 : Exa Z h7 a0 "[J" := Exa.wr W7 EA6
  have Z7 : n0 ≤ h7.size := Nat.le_trans (Z6) (Nat.le_of_eq W7.size.symm)
  refine Runs.back st7 ?_
  show Runs _ _ _ _ T7 (mkF m 70 #[.val (.ref r0), .val (.int p1), .val (.int y0), .val (.int (4 : Int32)), .val (.int (0 : Int32))] [])
  refine Runs.back (fun t_ k_ => XS.iloadN X7.here hx rfl (hb hby d1_70) rfl k_) ?_
  show Runs _ _ _ _ T7 (mkF m 71 #[.val (.ref r0), .val (.int p1), .val (.int y0), .val (.int (4 : Int32)), .val (.int (0 : Int32))] [(.int y0)])
  refine Runs.back (fun t_ k_ => XS.bipush X7.here hx rfl (hb hby d1_71) k_) ?_
  show Runs _ _ _ _ T7 (mkF m 73 #[.val (.ref r0), .val (.int p1), .val (.int y0), .val (.int (4 : Int32)), .val (.int (0 : Int32))] [(.int (63 : Int32)), (.int y0)])
  refine Runs.back (fun t_ k_ => XS.iadd X7.here hx rfl (hb hby d1_73) rfl k_) ?_
  show Runs _ _ _ _ T7 (mkF m 74 #[.val (.ref r0), .val (.int p1), .val (.int y0), .val (.int (4 : Int32)), .val (.int (0 : Int32))] [(.int (y0 + (63 : Int32)))])
  refine Runs.back (fun t_ k_ => XS.bipush X7.here hx rfl (hb hby d1_74) k_) ?_
  show Runs _ _ _ _ T7 (mkF m 76 #[.val (.ref r0), .val (.int p1), .val (.int y0), .val (.int (4 : Int32)), .val (.int (0 : Int32))] [(.int (6 : Int32)), (.int (y0 + (63 : Int32)))])
  refine Runs.back (fun t_ k_ => XS.iushr X7.here hx rfl (hb hby d1_76) rfl k_) ?_
  show Runs _ _ _ _ T7 (mkF m 77 #[.val (.ref r0), .val (.int p1), .val (.int y0), .val (.int (4 : Int32)), .val (.int (0 : Int32))] [(.int (((y0 + (63 : Int32)).toUInt32 >>> ((6 : Int32) &&& 31).toUInt32).toInt32))])
  refine Runs.back (fun t_ k_ => XS.istoreN X7.here hx rfl (hb hby d1_77) rfl (l' := #[.val (.ref r0), .val (.int p1), .val (.int (((y0 + (63 : Int32)).toUInt32 >>> ((6 : Int32) &&& 31).toUInt32).toInt32)), .val (.int (4 : Int32)), .val (.int (0 : Int32))]) rfl k_) ?_
  show Runs _ _ _ _ T7 (mkF m 78 #[.val (.ref r0), .val (.int p1), .val (.int (((y0 + (63 : Int32)).toUInt32 >>> ((6 : Int32) &&& 31).toUInt32).toInt32)), .val (.int (4 : Int32)), .val (.int (0 : Int32))] [])
  refine Runs.back (fun t_ k_ => XS.iinc X7.here hx rfl (hb hby d1_78) rfl (l' := #[.val (.ref r0), .val (.int p1), .val (.int (((y0 + (63 : Int32)).toUInt32 >>> ((6 : Int32) &&& 31).toUInt32).toInt32)), .val (.int (4 : Int32)), .val (.int ((0 : Int32) + (1 : Int32)))]) rfl k_) ?_
  show Runs _ _ _ _ T7 (mkF m 81 #[.val (.ref r0), .val (.int p1), .val (.int (((y0 + (63 : Int32)).toUInt32 >>> ((6 : Int32) &&& 31).toUInt32).toInt32)), .val (.int (4 : Int32)), .val (.int ((0 : Int32) + (1 : Int32)))] [])
  rw [show ((0 : Int32) + (1 : Int32)) = (1 : Int32) from by decide]
  show Runs _ _ _ _ T7 (mkF m 81 #[.val (.ref r0), .val (.int p1), .val (.int (((y0 + (63 : Int32)).toUInt32 >>> ((6 : Int32) &&& 31).toUInt32).toInt32)), .val (.int (4 : Int32)), .val (.int (1 : Int32))] [])
  refine Runs.back (fun t_ k_ => XS.goto X7.here hx rfl (pc0 := 81) (pc' := 54) rfl (hb hby d1_81) (by decide) (by decide) k_) ?_
  show Runs _ _ _ _ T7 (mkF m 54 #[.val (.ref r0), .val (.int p1), .val (.int (((y0 + (63 : Int32)).toUInt32 >>> ((6 : Int32) &&& 31).toUInt32).toInt32)), .val (.int (4 : Int32)), .val (.int (1 : Int32))] [])
  have hy1 : ((((y0 + (63 : Int32)).toUInt32 >>> ((6 : Int32) &&& 31).toUInt32).toInt32)).toInt = ((szN nn 1 : Nat) : Int) := up63 (W := szN nn 0) hy0 (Nat.lt_of_le_of_lt hb0 (by decide))
  generalize ey1 : (((y0 + (63 : Int32)).toUInt32 >>> ((6 : Int32) &&& 31).toUInt32).toInt32) = y1 at hy1 ⊢
  show Runs _ _ _ _ T7 (mkF m 54 #[.val (.ref r0), .val (.int p1), .val (.int y1), .val (.int (4 : Int32)), .val (.int (1 : Int32))] [])
  refine Runs.back (fun t_ k_ => XS.iload X7.here hx rfl (hb hby d1_54) rfl k_) ?_
  show Runs _ _ _ _ T7 (mkF m 56 #[.val (.ref r0), .val (.int p1), .val (.int y1), .val (.int (4 : Int32)), .val (.int (1 : Int32))] [(.int (1 : Int32))])
  refine Runs.back (fun t_ k_ => XS.iloadN X7.here hx rfl (hb hby d1_56) rfl k_) ?_
  show Runs _ _ _ _ T7 (mkF m 57 #[.val (.ref r0), .val (.int p1), .val (.int y1), .val (.int (4 : Int32)), .val (.int (1 : Int32))] [(.int (4 : Int32)), (.int (1 : Int32))])
  refine Runs.back (fun t_ k_ => XS.icmpNo X7.here hx rfl (hb hby d1_57) rfl (tlt (show (1 : Int32) < (4 : Int32) from (by decide))).2.1 k_) ?_
  show Runs _ _ _ _ T7 (mkF m 60 #[.val (.ref r0), .val (.int p1), .val (.int y1), .val (.int (4 : Int32)), .val (.int (1 : Int32))] [])
  refine Runs.back (fun t_ k_ => XS.aloadN X7.here hx rfl (hb hby d1_60) rfl rfl k_) ?_
  show Runs _ _ _ _ T7 (mkF m 61 #[.val (.ref r0), .val (.int p1), .val (.int y1), .val (.int (4 : Int32)), .val (.int (1 : Int32))] [(.ref r0)])
  obtain ⟨T8, X8, e8, st8⟩ := getF X7 hx hZ hown (host := "") (Or.inl (hw _ (List.mem_of_getElem? (i := 17) rfl))) Via.refl e7 f7_Fld_1 (g := (mkF m 61 #[.val (.ref r0), .val (.int p1), .val (.int y1), .val (.int (4 : Int32)), .val (.int (1 : Int32))] [(.ref r0)])) rfl rfl (hb hby d1_61)
  refine Runs.back st8 ?_
  show Runs _ _ _ _ T8 (mkF m 64 #[.val (.ref r0), .val (.int p1), .val (.int y1), .val (.int (4 : Int32)), .val (.int (1 : Int32))] [(.ref lv)])
  refine Runs.back (fun t_ k_ => XS.iload X8.here hx rfl (hb hby d1_64) rfl k_) ?_
  show Runs _ _ _ _ T8 (mkF m 66 #[.val (.ref r0), .val (.int p1), .val (.int y1), .val (.int (4 : Int32)), .val (.int (1 : Int32))] [(.int (1 : Int32)), (.ref lv)])
  refine Runs.back (fun t_ k_ => XS.iloadN X8.here hx rfl (hb hby d1_66) rfl k_) ?_
  show Runs _ _ _ _ T8 (mkF m 67 #[.val (.ref r0), .val (.int p1), .val (.int y1), .val (.int (4 : Int32)), .val (.int (1 : Int32))] [(.int y1), (.int (1 : Int32)), (.ref lv)])
  have cy1 := clampI hy1
  obtain ⟨T9, h9, k9, X9, e9, E9, A9, EA9, st9⟩ := newPE X8 hx hZ (hw _ (List.mem_of_getElem? (i := 19) rfl)) e8 (g := (mkF m 67 #[.val (.ref r0), .val (.int p1), .val (.int y1), .val (.int (4 : Int32)), .val (.int (1 : Int32))] [(.int y1), (.int (1 : Int32)), (.ref lv)])) rfl (hb hby d1_67) rfl cy1.2 (cap := 256) (by rw [cy1.1]; omega) (by decide) (by decide) (by decide) (ad := "[J") (by decide)
  obtain ⟨a1, g9⟩ : ∃ z, z = h7.size := ⟨_, rfl⟩
  rw [← g9] at A9 EA9 st9
  have g_a1 : n0 ≤ a1 := Nat.le_trans (Z7) (Nat.le_of_eq g9.symm)
  have ne_r0_a1 : r0 ≠ a1 := Nat.ne_of_lt (Nat.lt_of_lt_of_le f7_Exa_0.lt (Nat.le_of_eq g9.symm))
  have ne_lv_a1 : lv ≠ a1 := Nat.ne_of_lt (Nat.lt_of_lt_of_le f7_Qrr_2.lt (Nat.le_of_eq g9.symm))
  have ne_a0_a1 : a0 ≠ a1 := Nat.ne_of_lt (Nat.lt_of_lt_of_le f7_Arr_3.lt (Nat.le_of_eq g9.symm))
  have f9_Exa_0 : Exa Z h9 r0 "com/example/tradewheel/tradewheel/SmallestFirst" := Exa.ext E9 f7_Exa_0
  have f9_Fld_1 : Fld Z h9 r0 "com/example/tradewheel/tradewheel/SmallestFirst" "levels" "[[J" (.ref lv) := Fld.ext E9 f7_Fld_1
  have f9_Qrr_2 : QArr Z h9 lv (.array .long) 4 (fun i => if i = 0 then (Value.ref a0) else (fun _ => Value.null) i) k3 := f7_Qrr_2.ext E9
  have f9_Arr_3 : OArr Z h9 a0 .long (szN nn 0) (fun _ => (Value.long (0 : Int64))) := f7_Arr_3.ext E9
  have f9_Exa_4 : Exa Z h9 a0 "[J" := Exa.ext E9 f7_Exa_4
  have Z9 : n0 ≤ h9.size := Nat.le_trans (Z7) E9.1
  have V9 : OArr Z h9 a1 .long (szN nn 1) (fun _ => (Value.long (0 : Int64))) := OArr.new A9 cy1.1 rfl
  refine Runs.back st9 ?_
  show Runs _ _ _ _ T9 (mkF m 69 #[.val (.ref r0), .val (.int p1), .val (.int y1), .val (.int (4 : Int32)), .val (.int (1 : Int32))] [(.ref a1), (.int (1 : Int32)), (.ref lv)])
  obtain ⟨cl10, Ar10, Kc10, S10, Hs10⟩ := id f9_Qrr_2
  obtain ⟨T10, h10, X10, e10, W10, st10⟩ := stR X9 hx hZ e9 Ar10 (j := (1 : Int32)) (by rw [S10]; exact inbO (by decide) (rfl : ((1 : Int32)).toNatClampNeg = 1) (by decide)) rfl (Sto.ofVA Ar10 Kc10 O3 (Ins.self EA9)) (g := (mkF m 69 #[.val (.ref r0), .val (.int p1), .val (.int y1), .val (.int (4 : Int32)), .val (.int (1 : Int32))] [(.ref a1), (.int (1 : Int32)), (.ref lv)])) rfl rfl (hb hby d1_69)
  have N10 := Fr.snoc X10 N7 g_lv
  obtain ⟨L10, X10, N10⟩ := hideL X10 N10
  rw [(rfl : ((1 : Int32)).toNatClampNeg = 1)] at W10
  have f10_Exa_0 : Exa Z h10 r0 "com/example/tradewheel/tradewheel/SmallestFirst" := Exa.wr W10 f9_Exa_0
  have f10_Fld_1 : Fld Z h10 r0 "com/example/tradewheel/tradewheel/SmallestFirst" "levels" "[[J" (.ref lv) := Fld.other W10 f9_Fld_1 (Or.inl ne_r0_lv)
  have f10_Qrr_2 : QArr Z h10 lv (.array .long) 4 (fun i => if i = 1 then (Value.ref a1) else (fun i => if i = 0 then (Value.ref a0) else (fun _ => Value.null) i) i) k3 := f9_Qrr_2.set W10
  have f10_Arr_3 : OArr Z h10 a0 .long (szN nn 0) (fun _ => (Value.long (0 : Int64))) := f9_Arr_3.other W10 (Ne.symm ne_lv_a0)
  have f10_Exa_4 : Exa Z h10 a0 "[J" := Exa.wr W10 f9_Exa_4
  have f10_Arr_5 : OArr Z h10 a1 .long (szN nn 1) (fun _ => (Value.long (0 : Int64))) := V9.other W10 (Ne.symm ne_lv_a1)
  have f10_Exa_6 : Exa Z h10 a1 "[J" := Exa.wr W10 EA9
  have Z10 : n0 ≤ h10.size := Nat.le_trans (Z9) (Nat.le_of_eq W10.size.symm)
  refine Runs.back st10 ?_
  show Runs _ _ _ _ T10 (mkF m 70 #[.val (.ref r0), .val (.int p1), .val (.int y1), .val (.int (4 : Int32)), .val (.int (1 : Int32))] [])
  refine Runs.back (fun t_ k_ => XS.iloadN X10.here hx rfl (hb hby d1_70) rfl k_) ?_
  show Runs _ _ _ _ T10 (mkF m 71 #[.val (.ref r0), .val (.int p1), .val (.int y1), .val (.int (4 : Int32)), .val (.int (1 : Int32))] [(.int y1)])
  refine Runs.back (fun t_ k_ => XS.bipush X10.here hx rfl (hb hby d1_71) k_) ?_
  show Runs _ _ _ _ T10 (mkF m 73 #[.val (.ref r0), .val (.int p1), .val (.int y1), .val (.int (4 : Int32)), .val (.int (1 : Int32))] [(.int (63 : Int32)), (.int y1)])
  refine Runs.back (fun t_ k_ => XS.iadd X10.here hx rfl (hb hby d1_73) rfl k_) ?_
  show Runs _ _ _ _ T10 (mkF m 74 #[.val (.ref r0), .val (.int p1), .val (.int y1), .val (.int (4 : Int32)), .val (.int (1 : Int32))] [(.int (y1 + (63 : Int32)))])
  refine Runs.back (fun t_ k_ => XS.bipush X10.here hx rfl (hb hby d1_74) k_) ?_
  show Runs _ _ _ _ T10 (mkF m 76 #[.val (.ref r0), .val (.int p1), .val (.int y1), .val (.int (4 : Int32)), .val (.int (1 : Int32))] [(.int (6 : Int32)), (.int (y1 + (63 : Int32)))])
  refine Runs.back (fun t_ k_ => XS.iushr X10.here hx rfl (hb hby d1_76) rfl k_) ?_
  show Runs _ _ _ _ T10 (mkF m 77 #[.val (.ref r0), .val (.int p1), .val (.int y1), .val (.int (4 : Int32)), .val (.int (1 : Int32))] [(.int (((y1 + (63 : Int32)).toUInt32 >>> ((6 : Int32) &&& 31).toUInt32).toInt32))])
  refine Runs.back (fun t_ k_ => XS.istoreN X10.here hx rfl (hb hby d1_77) rfl (l' := #[.val (.ref r0), .val (.int p1), .val (.int (((y1 + (63 : Int32)).toUInt32 >>> ((6 : Int32) &&& 31).toUInt32).toInt32)), .val (.int (4 : Int32)), .val (.int (1 : Int32))]) rfl k_) ?_
  show Runs _ _ _ _ T10 (mkF m 78 #[.val (.ref r0), .val (.int p1), .val (.int (((y1 + (63 : Int32)).toUInt32 >>> ((6 : Int32) &&& 31).toUInt32).toInt32)), .val (.int (4 : Int32)), .val (.int (1 : Int32))] [])
  refine Runs.back (fun t_ k_ => XS.iinc X10.here hx rfl (hb hby d1_78) rfl (l' := #[.val (.ref r0), .val (.int p1), .val (.int (((y1 + (63 : Int32)).toUInt32 >>> ((6 : Int32) &&& 31).toUInt32).toInt32)), .val (.int (4 : Int32)), .val (.int ((1 : Int32) + (1 : Int32)))]) rfl k_) ?_
  show Runs _ _ _ _ T10 (mkF m 81 #[.val (.ref r0), .val (.int p1), .val (.int (((y1 + (63 : Int32)).toUInt32 >>> ((6 : Int32) &&& 31).toUInt32).toInt32)), .val (.int (4 : Int32)), .val (.int ((1 : Int32) + (1 : Int32)))] [])
  rw [show ((1 : Int32) + (1 : Int32)) = (2 : Int32) from by decide]
  show Runs _ _ _ _ T10 (mkF m 81 #[.val (.ref r0), .val (.int p1), .val (.int (((y1 + (63 : Int32)).toUInt32 >>> ((6 : Int32) &&& 31).toUInt32).toInt32)), .val (.int (4 : Int32)), .val (.int (2 : Int32))] [])
  refine Runs.back (fun t_ k_ => XS.goto X10.here hx rfl (pc0 := 81) (pc' := 54) rfl (hb hby d1_81) (by decide) (by decide) k_) ?_
  show Runs _ _ _ _ T10 (mkF m 54 #[.val (.ref r0), .val (.int p1), .val (.int (((y1 + (63 : Int32)).toUInt32 >>> ((6 : Int32) &&& 31).toUInt32).toInt32)), .val (.int (4 : Int32)), .val (.int (2 : Int32))] [])
  have hy2 : ((((y1 + (63 : Int32)).toUInt32 >>> ((6 : Int32) &&& 31).toUInt32).toInt32)).toInt = ((szN nn 2 : Nat) : Int) := up63 (W := szN nn 1) hy1 (Nat.lt_of_le_of_lt hb1 (by decide))
  generalize ey2 : (((y1 + (63 : Int32)).toUInt32 >>> ((6 : Int32) &&& 31).toUInt32).toInt32) = y2 at hy2 ⊢
  show Runs _ _ _ _ T10 (mkF m 54 #[.val (.ref r0), .val (.int p1), .val (.int y2), .val (.int (4 : Int32)), .val (.int (2 : Int32))] [])
  refine Runs.back (fun t_ k_ => XS.iload X10.here hx rfl (hb hby d1_54) rfl k_) ?_
  show Runs _ _ _ _ T10 (mkF m 56 #[.val (.ref r0), .val (.int p1), .val (.int y2), .val (.int (4 : Int32)), .val (.int (2 : Int32))] [(.int (2 : Int32))])
  refine Runs.back (fun t_ k_ => XS.iloadN X10.here hx rfl (hb hby d1_56) rfl k_) ?_
  show Runs _ _ _ _ T10 (mkF m 57 #[.val (.ref r0), .val (.int p1), .val (.int y2), .val (.int (4 : Int32)), .val (.int (2 : Int32))] [(.int (4 : Int32)), (.int (2 : Int32))])
  refine Runs.back (fun t_ k_ => XS.icmpNo X10.here hx rfl (hb hby d1_57) rfl (tlt (show (2 : Int32) < (4 : Int32) from (by decide))).2.1 k_) ?_
  show Runs _ _ _ _ T10 (mkF m 60 #[.val (.ref r0), .val (.int p1), .val (.int y2), .val (.int (4 : Int32)), .val (.int (2 : Int32))] [])
  refine Runs.back (fun t_ k_ => XS.aloadN X10.here hx rfl (hb hby d1_60) rfl rfl k_) ?_
  show Runs _ _ _ _ T10 (mkF m 61 #[.val (.ref r0), .val (.int p1), .val (.int y2), .val (.int (4 : Int32)), .val (.int (2 : Int32))] [(.ref r0)])
  obtain ⟨T11, X11, e11, st11⟩ := getF X10 hx hZ hown (host := "") (Or.inl (hw _ (List.mem_of_getElem? (i := 17) rfl))) Via.refl e10 f10_Fld_1 (g := (mkF m 61 #[.val (.ref r0), .val (.int p1), .val (.int y2), .val (.int (4 : Int32)), .val (.int (2 : Int32))] [(.ref r0)])) rfl rfl (hb hby d1_61)
  refine Runs.back st11 ?_
  show Runs _ _ _ _ T11 (mkF m 64 #[.val (.ref r0), .val (.int p1), .val (.int y2), .val (.int (4 : Int32)), .val (.int (2 : Int32))] [(.ref lv)])
  refine Runs.back (fun t_ k_ => XS.iload X11.here hx rfl (hb hby d1_64) rfl k_) ?_
  show Runs _ _ _ _ T11 (mkF m 66 #[.val (.ref r0), .val (.int p1), .val (.int y2), .val (.int (4 : Int32)), .val (.int (2 : Int32))] [(.int (2 : Int32)), (.ref lv)])
  refine Runs.back (fun t_ k_ => XS.iloadN X11.here hx rfl (hb hby d1_66) rfl k_) ?_
  show Runs _ _ _ _ T11 (mkF m 67 #[.val (.ref r0), .val (.int p1), .val (.int y2), .val (.int (4 : Int32)), .val (.int (2 : Int32))] [(.int y2), (.int (2 : Int32)), (.ref lv)])
  have cy2 := clampI hy2
  obtain ⟨T12, h12, k12, X12, e12, E12, A12, EA12, st12⟩ := newPE X11 hx hZ (hw _ (List.mem_of_getElem? (i := 19) rfl)) e11 (g := (mkF m 67 #[.val (.ref r0), .val (.int p1), .val (.int y2), .val (.int (4 : Int32)), .val (.int (2 : Int32))] [(.int y2), (.int (2 : Int32)), (.ref lv)])) rfl (hb hby d1_67) rfl cy2.2 (cap := 4) (by rw [cy2.1]; omega) (by decide) (by decide) (by decide) (ad := "[J") (by decide)
  obtain ⟨a2, g12⟩ : ∃ z, z = h10.size := ⟨_, rfl⟩
  rw [← g12] at A12 EA12 st12
  have g_a2 : n0 ≤ a2 := Nat.le_trans (Z10) (Nat.le_of_eq g12.symm)
  have ne_r0_a2 : r0 ≠ a2 := Nat.ne_of_lt (Nat.lt_of_lt_of_le f10_Exa_0.lt (Nat.le_of_eq g12.symm))
  have ne_lv_a2 : lv ≠ a2 := Nat.ne_of_lt (Nat.lt_of_lt_of_le f10_Qrr_2.lt (Nat.le_of_eq g12.symm))
  have ne_a0_a2 : a0 ≠ a2 := Nat.ne_of_lt (Nat.lt_of_lt_of_le f10_Arr_3.lt (Nat.le_of_eq g12.symm))
  have ne_a1_a2 : a1 ≠ a2 := Nat.ne_of_lt (Nat.lt_of_lt_of_le f10_Arr_5.lt (Nat.le_of_eq g12.symm))
  have f12_Exa_0 : Exa Z h12 r0 "com/example/tradewheel/tradewheel/SmallestFirst" := Exa.ext E12 f10_Exa_0
  have f12_Fld_1 : Fld Z h12 r0 "com/example/tradewheel/tradewheel/SmallestFirst" "levels" "[[J" (.ref lv) := Fld.ext E12 f10_Fld_1
  have f12_Qrr_2 : QArr Z h12 lv (.array .long) 4 (fun i => if i = 1 then (Value.ref a1) else (fun i => if i = 0 then (Value.ref a0) else (fun _ => Value.null) i) i) k3 := f10_Qrr_2.ext E12
  have f12_Arr_3 : OArr Z h12 a0 .long (szN nn 0) (fun _ => (Value.long (0 : Int64))) := f10_Arr_3.ext E12
  have f12_Exa_4 : Exa Z h12 a0 "[J" := Exa.ext E12 f10_Exa_4
  have f12_Arr_5 : OArr Z h12 a1 .long (szN nn 1) (fun _ => (Value.long (0 : Int64))) := f10_Arr_5.ext E12
  have f12_Exa_6 : Exa Z h12 a1 "[J" := Exa.ext E12 f10_Exa_6
  have Z12 : n0 ≤ h12.size := Nat.le_trans (Z10) E12.1
  have V12 : OArr Z h12 a2 .long (szN nn 2) (fun _ => (Value.long (0 : Int64))) := OArr.new A12 cy2.1 rfl
  refine Runs.back st12 ?_
  show Runs _ _ _ _ T12 (mkF m 69 #[.val (.ref r0), .val (.int p1), .val (.int y2), .val (.int (4 : Int32)), .val (.int (2 : Int32))] [(.ref a2), (.int (2 : Int32)), (.ref lv)])
  obtain ⟨cl13, Ar13, Kc13, S13, Hs13⟩ := id f12_Qrr_2
  obtain ⟨T13, h13, X13, e13, W13, st13⟩ := stR X12 hx hZ e12 Ar13 (j := (2 : Int32)) (by rw [S13]; exact inbO (by decide) (rfl : ((2 : Int32)).toNatClampNeg = 2) (by decide)) rfl (Sto.ofVA Ar13 Kc13 O3 (Ins.self EA12)) (g := (mkF m 69 #[.val (.ref r0), .val (.int p1), .val (.int y2), .val (.int (4 : Int32)), .val (.int (2 : Int32))] [(.ref a2), (.int (2 : Int32)), (.ref lv)])) rfl rfl (hb hby d1_69)
  have N13 := Fr.snoc X13 N10 g_lv
  obtain ⟨L13, X13, N13⟩ := hideL X13 N13
  rw [(rfl : ((2 : Int32)).toNatClampNeg = 2)] at W13
  have f13_Exa_0 : Exa Z h13 r0 "com/example/tradewheel/tradewheel/SmallestFirst" := Exa.wr W13 f12_Exa_0
  have f13_Fld_1 : Fld Z h13 r0 "com/example/tradewheel/tradewheel/SmallestFirst" "levels" "[[J" (.ref lv) := Fld.other W13 f12_Fld_1 (Or.inl ne_r0_lv)
  have f13_Qrr_2 : QArr Z h13 lv (.array .long) 4 (fun i => if i = 2 then (Value.ref a2) else (fun i => if i = 1 then (Value.ref a1) else (fun i => if i = 0 then (Value.ref a0) else (fun _ => Value.null) i) i) i) k3 := f12_Qrr_2.set W13
  have f13_Arr_3 : OArr Z h13 a0 .long (szN nn 0) (fun _ => (Value.long (0 : Int64))) := f12_Arr_3.other W13 (Ne.symm ne_lv_a0)
  have f13_Exa_4 : Exa Z h13 a0 "[J" := Exa.wr W13 f12_Exa_4
  have f13_Arr_5 : OArr Z h13 a1 .long (szN nn 1) (fun _ => (Value.long (0 : Int64))) := f12_Arr_5.other W13 (Ne.symm ne_lv_a1)
  have f13_Exa_6 : Exa Z h13 a1 "[J" := Exa.wr W13 f12_Exa_6
  have f13_Arr_7 : OArr Z h13 a2 .long (szN nn 2) (fun _ => (Value.long (0 : Int64))) := V12.other W13 (Ne.symm ne_lv_a2)
  have f13_Exa_8 : Exa Z h13 a2 "[J" := Exa.wr W13 EA12
  have Z13 : n0 ≤ h13.size := Nat.le_trans (Z12) (Nat.le_of_eq W13.size.symm)
  refine Runs.back st13 ?_
  show Runs _ _ _ _ T13 (mkF m 70 #[.val (.ref r0), .val (.int p1), .val (.int y2), .val (.int (4 : Int32)), .val (.int (2 : Int32))] [])
  refine Runs.back (fun t_ k_ => XS.iloadN X13.here hx rfl (hb hby d1_70) rfl k_) ?_
  show Runs _ _ _ _ T13 (mkF m 71 #[.val (.ref r0), .val (.int p1), .val (.int y2), .val (.int (4 : Int32)), .val (.int (2 : Int32))] [(.int y2)])
  refine Runs.back (fun t_ k_ => XS.bipush X13.here hx rfl (hb hby d1_71) k_) ?_
  show Runs _ _ _ _ T13 (mkF m 73 #[.val (.ref r0), .val (.int p1), .val (.int y2), .val (.int (4 : Int32)), .val (.int (2 : Int32))] [(.int (63 : Int32)), (.int y2)])
  refine Runs.back (fun t_ k_ => XS.iadd X13.here hx rfl (hb hby d1_73) rfl k_) ?_
  show Runs _ _ _ _ T13 (mkF m 74 #[.val (.ref r0), .val (.int p1), .val (.int y2), .val (.int (4 : Int32)), .val (.int (2 : Int32))] [(.int (y2 + (63 : Int32)))])
  refine Runs.back (fun t_ k_ => XS.bipush X13.here hx rfl (hb hby d1_74) k_) ?_
  show Runs _ _ _ _ T13 (mkF m 76 #[.val (.ref r0), .val (.int p1), .val (.int y2), .val (.int (4 : Int32)), .val (.int (2 : Int32))] [(.int (6 : Int32)), (.int (y2 + (63 : Int32)))])
  refine Runs.back (fun t_ k_ => XS.iushr X13.here hx rfl (hb hby d1_76) rfl k_) ?_
  show Runs _ _ _ _ T13 (mkF m 77 #[.val (.ref r0), .val (.int p1), .val (.int y2), .val (.int (4 : Int32)), .val (.int (2 : Int32))] [(.int (((y2 + (63 : Int32)).toUInt32 >>> ((6 : Int32) &&& 31).toUInt32).toInt32))])
  refine Runs.back (fun t_ k_ => XS.istoreN X13.here hx rfl (hb hby d1_77) rfl (l' := #[.val (.ref r0), .val (.int p1), .val (.int (((y2 + (63 : Int32)).toUInt32 >>> ((6 : Int32) &&& 31).toUInt32).toInt32)), .val (.int (4 : Int32)), .val (.int (2 : Int32))]) rfl k_) ?_
  show Runs _ _ _ _ T13 (mkF m 78 #[.val (.ref r0), .val (.int p1), .val (.int (((y2 + (63 : Int32)).toUInt32 >>> ((6 : Int32) &&& 31).toUInt32).toInt32)), .val (.int (4 : Int32)), .val (.int (2 : Int32))] [])
  refine Runs.back (fun t_ k_ => XS.iinc X13.here hx rfl (hb hby d1_78) rfl (l' := #[.val (.ref r0), .val (.int p1), .val (.int (((y2 + (63 : Int32)).toUInt32 >>> ((6 : Int32) &&& 31).toUInt32).toInt32)), .val (.int (4 : Int32)), .val (.int ((2 : Int32) + (1 : Int32)))]) rfl k_) ?_
  show Runs _ _ _ _ T13 (mkF m 81 #[.val (.ref r0), .val (.int p1), .val (.int (((y2 + (63 : Int32)).toUInt32 >>> ((6 : Int32) &&& 31).toUInt32).toInt32)), .val (.int (4 : Int32)), .val (.int ((2 : Int32) + (1 : Int32)))] [])
  rw [show ((2 : Int32) + (1 : Int32)) = (3 : Int32) from by decide]
  show Runs _ _ _ _ T13 (mkF m 81 #[.val (.ref r0), .val (.int p1), .val (.int (((y2 + (63 : Int32)).toUInt32 >>> ((6 : Int32) &&& 31).toUInt32).toInt32)), .val (.int (4 : Int32)), .val (.int (3 : Int32))] [])
  refine Runs.back (fun t_ k_ => XS.goto X13.here hx rfl (pc0 := 81) (pc' := 54) rfl (hb hby d1_81) (by decide) (by decide) k_) ?_
  show Runs _ _ _ _ T13 (mkF m 54 #[.val (.ref r0), .val (.int p1), .val (.int (((y2 + (63 : Int32)).toUInt32 >>> ((6 : Int32) &&& 31).toUInt32).toInt32)), .val (.int (4 : Int32)), .val (.int (3 : Int32))] [])
  have hy3 : ((((y2 + (63 : Int32)).toUInt32 >>> ((6 : Int32) &&& 31).toUInt32).toInt32)).toInt = ((szN nn 3 : Nat) : Int) := up63 (W := szN nn 2) hy2 (Nat.lt_of_le_of_lt hb2 (by decide))
  generalize ey3 : (((y2 + (63 : Int32)).toUInt32 >>> ((6 : Int32) &&& 31).toUInt32).toInt32) = y3 at hy3 ⊢
  show Runs _ _ _ _ T13 (mkF m 54 #[.val (.ref r0), .val (.int p1), .val (.int y3), .val (.int (4 : Int32)), .val (.int (3 : Int32))] [])
  refine Runs.back (fun t_ k_ => XS.iload X13.here hx rfl (hb hby d1_54) rfl k_) ?_
  show Runs _ _ _ _ T13 (mkF m 56 #[.val (.ref r0), .val (.int p1), .val (.int y3), .val (.int (4 : Int32)), .val (.int (3 : Int32))] [(.int (3 : Int32))])
  refine Runs.back (fun t_ k_ => XS.iloadN X13.here hx rfl (hb hby d1_56) rfl k_) ?_
  show Runs _ _ _ _ T13 (mkF m 57 #[.val (.ref r0), .val (.int p1), .val (.int y3), .val (.int (4 : Int32)), .val (.int (3 : Int32))] [(.int (4 : Int32)), (.int (3 : Int32))])
  refine Runs.back (fun t_ k_ => XS.icmpNo X13.here hx rfl (hb hby d1_57) rfl (tlt (show (3 : Int32) < (4 : Int32) from (by decide))).2.1 k_) ?_
  show Runs _ _ _ _ T13 (mkF m 60 #[.val (.ref r0), .val (.int p1), .val (.int y3), .val (.int (4 : Int32)), .val (.int (3 : Int32))] [])
  refine Runs.back (fun t_ k_ => XS.aloadN X13.here hx rfl (hb hby d1_60) rfl rfl k_) ?_
  show Runs _ _ _ _ T13 (mkF m 61 #[.val (.ref r0), .val (.int p1), .val (.int y3), .val (.int (4 : Int32)), .val (.int (3 : Int32))] [(.ref r0)])
  obtain ⟨T14, X14, e14, st14⟩ := getF X13 hx hZ hown (host := "") (Or.inl (hw _ (List.mem_of_getElem? (i := 17) rfl))) Via.refl e13 f13_Fld_1 (g := (mkF m 61 #[.val (.ref r0), .val (.int p1), .val (.int y3), .val (.int (4 : Int32)), .val (.int (3 : Int32))] [(.ref r0)])) rfl rfl (hb hby d1_61)
  refine Runs.back st14 ?_
  show Runs _ _ _ _ T14 (mkF m 64 #[.val (.ref r0), .val (.int p1), .val (.int y3), .val (.int (4 : Int32)), .val (.int (3 : Int32))] [(.ref lv)])
  refine Runs.back (fun t_ k_ => XS.iload X14.here hx rfl (hb hby d1_64) rfl k_) ?_
  show Runs _ _ _ _ T14 (mkF m 66 #[.val (.ref r0), .val (.int p1), .val (.int y3), .val (.int (4 : Int32)), .val (.int (3 : Int32))] [(.int (3 : Int32)), (.ref lv)])
  refine Runs.back (fun t_ k_ => XS.iloadN X14.here hx rfl (hb hby d1_66) rfl k_) ?_
  show Runs _ _ _ _ T14 (mkF m 67 #[.val (.ref r0), .val (.int p1), .val (.int y3), .val (.int (4 : Int32)), .val (.int (3 : Int32))] [(.int y3), (.int (3 : Int32)), (.ref lv)])
  have cy3 := clampI hy3
  obtain ⟨T15, h15, k15, X15, e15, E15, A15, EA15, st15⟩ := newPE X14 hx hZ (hw _ (List.mem_of_getElem? (i := 19) rfl)) e14 (g := (mkF m 67 #[.val (.ref r0), .val (.int p1), .val (.int y3), .val (.int (4 : Int32)), .val (.int (3 : Int32))] [(.int y3), (.int (3 : Int32)), (.ref lv)])) rfl (hb hby d1_67) rfl cy3.2 (cap := 1) (by rw [cy3.1]; omega) (by decide) (by decide) (by decide) (ad := "[J") (by decide)
  obtain ⟨a3, g15⟩ : ∃ z, z = h13.size := ⟨_, rfl⟩
  rw [← g15] at A15 EA15 st15
  have g_a3 : n0 ≤ a3 := Nat.le_trans (Z13) (Nat.le_of_eq g15.symm)
  have ne_r0_a3 : r0 ≠ a3 := Nat.ne_of_lt (Nat.lt_of_lt_of_le f13_Exa_0.lt (Nat.le_of_eq g15.symm))
  have ne_lv_a3 : lv ≠ a3 := Nat.ne_of_lt (Nat.lt_of_lt_of_le f13_Qrr_2.lt (Nat.le_of_eq g15.symm))
  have ne_a0_a3 : a0 ≠ a3 := Nat.ne_of_lt (Nat.lt_of_lt_of_le f13_Arr_3.lt (Nat.le_of_eq g15.symm))
  have ne_a1_a3 : a1 ≠ a3 := Nat.ne_of_lt (Nat.lt_of_lt_of_le f13_Arr_5.lt (Nat.le_of_eq g15.symm))
  have ne_a2_a3 : a2 ≠ a3 := Nat.ne_of_lt (Nat.lt_of_lt_of_le f13_Arr_7.lt (Nat.le_of_eq g15.symm))
  have f15_Exa_0 : Exa Z h15 r0 "com/example/tradewheel/tradewheel/SmallestFirst" := Exa.ext E15 f13_Exa_0
  have f15_Fld_1 : Fld Z h15 r0 "com/example/tradewheel/tradewheel/SmallestFirst" "levels" "[[J" (.ref lv) := Fld.ext E15 f13_Fld_1
  have f15_Qrr_2 : QArr Z h15 lv (.array .long) 4 (fun i => if i = 2 then (Value.ref a2) else (fun i => if i = 1 then (Value.ref a1) else (fun i => if i = 0 then (Value.ref a0) else (fun _ => Value.null) i) i) i) k3 := f13_Qrr_2.ext E15
  have f15_Arr_3 : OArr Z h15 a0 .long (szN nn 0) (fun _ => (Value.long (0 : Int64))) := f13_Arr_3.ext E15
  have f15_Exa_4 : Exa Z h15 a0 "[J" := Exa.ext E15 f13_Exa_4
  have f15_Arr_5 : OArr Z h15 a1 .long (szN nn 1) (fun _ => (Value.long (0 : Int64))) := f13_Arr_5.ext E15
  have f15_Exa_6 : Exa Z h15 a1 "[J" := Exa.ext E15 f13_Exa_6
  have f15_Arr_7 : OArr Z h15 a2 .long (szN nn 2) (fun _ => (Value.long (0 : Int64))) := f13_Arr_7.ext E15
  have f15_Exa_8 : Exa Z h15 a2 "[J" := Exa.ext E15 f13_Exa_8
  have Z15 : n0 ≤ h15.size := Nat.le_trans (Z13) E15.1
  have V15 : OArr Z h15 a3 .long (szN nn 3) (fun _ => (Value.long (0 : Int64))) := OArr.new A15 cy3.1 rfl
  refine Runs.back st15 ?_
  show Runs _ _ _ _ T15 (mkF m 69 #[.val (.ref r0), .val (.int p1), .val (.int y3), .val (.int (4 : Int32)), .val (.int (3 : Int32))] [(.ref a3), (.int (3 : Int32)), (.ref lv)])
  obtain ⟨cl16, Ar16, Kc16, S16, Hs16⟩ := id f15_Qrr_2
  obtain ⟨T16, h16, X16, e16, W16, st16⟩ := stR X15 hx hZ e15 Ar16 (j := (3 : Int32)) (by rw [S16]; exact inbO (by decide) (rfl : ((3 : Int32)).toNatClampNeg = 3) (by decide)) rfl (Sto.ofVA Ar16 Kc16 O3 (Ins.self EA15)) (g := (mkF m 69 #[.val (.ref r0), .val (.int p1), .val (.int y3), .val (.int (4 : Int32)), .val (.int (3 : Int32))] [(.ref a3), (.int (3 : Int32)), (.ref lv)])) rfl rfl (hb hby d1_69)
  have N16 := Fr.snoc X16 N13 g_lv
  obtain ⟨L16, X16, N16⟩ := hideL X16 N16
  rw [(rfl : ((3 : Int32)).toNatClampNeg = 3)] at W16
  have f16_Exa_0 : Exa Z h16 r0 "com/example/tradewheel/tradewheel/SmallestFirst" := Exa.wr W16 f15_Exa_0
  have f16_Fld_1 : Fld Z h16 r0 "com/example/tradewheel/tradewheel/SmallestFirst" "levels" "[[J" (.ref lv) := Fld.other W16 f15_Fld_1 (Or.inl ne_r0_lv)
  have f16_Qrr_2 : QArr Z h16 lv (.array .long) 4 (fun i => if i = 3 then (Value.ref a3) else (fun i => if i = 2 then (Value.ref a2) else (fun i => if i = 1 then (Value.ref a1) else (fun i => if i = 0 then (Value.ref a0) else (fun _ => Value.null) i) i) i) i) k3 := f15_Qrr_2.set W16
  have f16_Arr_3 : OArr Z h16 a0 .long (szN nn 0) (fun _ => (Value.long (0 : Int64))) := f15_Arr_3.other W16 (Ne.symm ne_lv_a0)
  have f16_Exa_4 : Exa Z h16 a0 "[J" := Exa.wr W16 f15_Exa_4
  have f16_Arr_5 : OArr Z h16 a1 .long (szN nn 1) (fun _ => (Value.long (0 : Int64))) := f15_Arr_5.other W16 (Ne.symm ne_lv_a1)
  have f16_Exa_6 : Exa Z h16 a1 "[J" := Exa.wr W16 f15_Exa_6
  have f16_Arr_7 : OArr Z h16 a2 .long (szN nn 2) (fun _ => (Value.long (0 : Int64))) := f15_Arr_7.other W16 (Ne.symm ne_lv_a2)
  have f16_Exa_8 : Exa Z h16 a2 "[J" := Exa.wr W16 f15_Exa_8
  have f16_Arr_9 : OArr Z h16 a3 .long (szN nn 3) (fun _ => (Value.long (0 : Int64))) := V15.other W16 (Ne.symm ne_lv_a3)
  have f16_Exa_10 : Exa Z h16 a3 "[J" := Exa.wr W16 EA15
  have Z16 : n0 ≤ h16.size := Nat.le_trans (Z15) (Nat.le_of_eq W16.size.symm)
  refine Runs.back st16 ?_
  show Runs _ _ _ _ T16 (mkF m 70 #[.val (.ref r0), .val (.int p1), .val (.int y3), .val (.int (4 : Int32)), .val (.int (3 : Int32))] [])
  refine Runs.back (fun t_ k_ => XS.iloadN X16.here hx rfl (hb hby d1_70) rfl k_) ?_
  show Runs _ _ _ _ T16 (mkF m 71 #[.val (.ref r0), .val (.int p1), .val (.int y3), .val (.int (4 : Int32)), .val (.int (3 : Int32))] [(.int y3)])
  refine Runs.back (fun t_ k_ => XS.bipush X16.here hx rfl (hb hby d1_71) k_) ?_
  show Runs _ _ _ _ T16 (mkF m 73 #[.val (.ref r0), .val (.int p1), .val (.int y3), .val (.int (4 : Int32)), .val (.int (3 : Int32))] [(.int (63 : Int32)), (.int y3)])
  refine Runs.back (fun t_ k_ => XS.iadd X16.here hx rfl (hb hby d1_73) rfl k_) ?_
  show Runs _ _ _ _ T16 (mkF m 74 #[.val (.ref r0), .val (.int p1), .val (.int y3), .val (.int (4 : Int32)), .val (.int (3 : Int32))] [(.int (y3 + (63 : Int32)))])
  refine Runs.back (fun t_ k_ => XS.bipush X16.here hx rfl (hb hby d1_74) k_) ?_
  show Runs _ _ _ _ T16 (mkF m 76 #[.val (.ref r0), .val (.int p1), .val (.int y3), .val (.int (4 : Int32)), .val (.int (3 : Int32))] [(.int (6 : Int32)), (.int (y3 + (63 : Int32)))])
  refine Runs.back (fun t_ k_ => XS.iushr X16.here hx rfl (hb hby d1_76) rfl k_) ?_
  show Runs _ _ _ _ T16 (mkF m 77 #[.val (.ref r0), .val (.int p1), .val (.int y3), .val (.int (4 : Int32)), .val (.int (3 : Int32))] [(.int (((y3 + (63 : Int32)).toUInt32 >>> ((6 : Int32) &&& 31).toUInt32).toInt32))])
  refine Runs.back (fun t_ k_ => XS.istoreN X16.here hx rfl (hb hby d1_77) rfl (l' := #[.val (.ref r0), .val (.int p1), .val (.int (((y3 + (63 : Int32)).toUInt32 >>> ((6 : Int32) &&& 31).toUInt32).toInt32)), .val (.int (4 : Int32)), .val (.int (3 : Int32))]) rfl k_) ?_
  show Runs _ _ _ _ T16 (mkF m 78 #[.val (.ref r0), .val (.int p1), .val (.int (((y3 + (63 : Int32)).toUInt32 >>> ((6 : Int32) &&& 31).toUInt32).toInt32)), .val (.int (4 : Int32)), .val (.int (3 : Int32))] [])
  refine Runs.back (fun t_ k_ => XS.iinc X16.here hx rfl (hb hby d1_78) rfl (l' := #[.val (.ref r0), .val (.int p1), .val (.int (((y3 + (63 : Int32)).toUInt32 >>> ((6 : Int32) &&& 31).toUInt32).toInt32)), .val (.int (4 : Int32)), .val (.int ((3 : Int32) + (1 : Int32)))]) rfl k_) ?_
  show Runs _ _ _ _ T16 (mkF m 81 #[.val (.ref r0), .val (.int p1), .val (.int (((y3 + (63 : Int32)).toUInt32 >>> ((6 : Int32) &&& 31).toUInt32).toInt32)), .val (.int (4 : Int32)), .val (.int ((3 : Int32) + (1 : Int32)))] [])
  rw [show ((3 : Int32) + (1 : Int32)) = (4 : Int32) from by decide]
  show Runs _ _ _ _ T16 (mkF m 81 #[.val (.ref r0), .val (.int p1), .val (.int (((y3 + (63 : Int32)).toUInt32 >>> ((6 : Int32) &&& 31).toUInt32).toInt32)), .val (.int (4 : Int32)), .val (.int (4 : Int32))] [])
  refine Runs.back (fun t_ k_ => XS.goto X16.here hx rfl (pc0 := 81) (pc' := 54) rfl (hb hby d1_81) (by decide) (by decide) k_) ?_
  show Runs _ _ _ _ T16 (mkF m 54 #[.val (.ref r0), .val (.int p1), .val (.int (((y3 + (63 : Int32)).toUInt32 >>> ((6 : Int32) &&& 31).toUInt32).toInt32)), .val (.int (4 : Int32)), .val (.int (4 : Int32))] [])
  refine Runs.back (fun t_ k_ => XS.iload X16.here hx rfl (hb hby d1_54) rfl k_) ?_
  show Runs _ _ _ _ T16 (mkF m 56 #[.val (.ref r0), .val (.int p1), .val (.int (((y3 + (63 : Int32)).toUInt32 >>> ((6 : Int32) &&& 31).toUInt32).toInt32)), .val (.int (4 : Int32)), .val (.int (4 : Int32))] [(.int (4 : Int32))])
  refine Runs.back (fun t_ k_ => XS.iloadN X16.here hx rfl (hb hby d1_56) rfl k_) ?_
  show Runs _ _ _ _ T16 (mkF m 57 #[.val (.ref r0), .val (.int p1), .val (.int (((y3 + (63 : Int32)).toUInt32 >>> ((6 : Int32) &&& 31).toUInt32).toInt32)), .val (.int (4 : Int32)), .val (.int (4 : Int32))] [(.int (4 : Int32)), (.int (4 : Int32))])
  refine Runs.back (fun t_ k_ => XS.icmpYes X16.here hx rfl (pc0 := 57) (pc' := 84) rfl (hb hby d1_57) rfl (flt (show ¬ ((4 : Int32) < (4 : Int32)) from (by decide))).2.1 (by decide) (by decide) k_) ?_
  show Runs _ _ _ _ T16 (mkF m 84 #[.val (.ref r0), .val (.int p1), .val (.int (((y3 + (63 : Int32)).toUInt32 >>> ((6 : Int32) &&& 31).toUInt32).toInt32)), .val (.int (4 : Int32)), .val (.int (4 : Int32))] [])
  obtain ⟨fs, hr, hrun, hended, hW, hsame⟩ := X16.leave (v := none) (fun _ => rfl)
  exact ⟨_, _, (X16.returnOut hx Bd.returns (hb hby d1_84) hr), hrun, hended, _, _, rfl, (by show Q1d4 Z r0 p1 v1 nn h0 n0 _ T16.heap _; rw [e16]; exact ⟨lv, fun i => if i = 3 then a3 else if i = 2 then a2 else if i = 1 then a1 else a0, rfl, N16, f16_Exa_0, f16_Fld_1, OArr.congr (QArr.toO f16_Qrr_2) (fun i hi => match i, hi with | 0, _ => rfl | 1, _ => rfl | 2, _ => rfl | 3, _ => rfl), (fun i hi => match i, hi with | 0, _ => ⟨g_a0, OArr.congr f16_Arr_3 fun j _ => rfl⟩ | 1, _ => ⟨g_a1, OArr.congr f16_Arr_5 fun j _ => rfl⟩ | 2, _ => ⟨g_a2, OArr.congr f16_Arr_7 fun j _ => rfl⟩ | 3, _ => ⟨g_a3, OArr.congr f16_Arr_9 fun j _ => rfl⟩), (fun i j hi hj hne => match i, j, hi, hj, hne with | 0, 0, _, _, hne => absurd rfl hne | 0, 1, _, _, hne => ne_a0_a1 | 0, 2, _, _, hne => ne_a0_a2 | 0, 3, _, _, hne => ne_a0_a3 | 1, 0, _, _, hne => (Ne.symm ne_a0_a1) | 1, 1, _, _, hne => absurd rfl hne | 1, 2, _, _, hne => ne_a1_a2 | 1, 3, _, _, hne => ne_a1_a3 | 2, 0, _, _, hne => (Ne.symm ne_a0_a2) | 2, 1, _, _, hne => (Ne.symm ne_a1_a2) | 2, 2, _, _, hne => absurd rfl hne | 2, 3, _, _, hne => ne_a2_a3 | 3, 0, _, _, hne => (Ne.symm ne_a0_a3) | 3, 1, _, _, hne => (Ne.symm ne_a1_a3) | 3, 2, _, _, hne => (Ne.symm ne_a2_a3) | 3, 3, _, _, hne => absurd rfl hne), (fun i hi => match i, hi with | 0, _ => ⟨(Ne.symm ne_lv_a0), (Ne.symm ne_r0_a0)⟩ | 1, _ => ⟨(Ne.symm ne_lv_a1), (Ne.symm ne_r0_a1)⟩ | 2, _ => ⟨(Ne.symm ne_lv_a2), (Ne.symm ne_r0_a2)⟩ | 3, _ => ⟨(Ne.symm ne_lv_a3), (Ne.symm ne_r0_a3)⟩)⟩), ⟨_, rfl⟩, hW, hsame.mono (by decide) (by decide)⟩

def DP (nn D : Nat) : Prop := 1 ≤ D ∧ D ≤ 4 ∧ szN nn (D - 1) = 1 ∧ ∀ i, i + 1 < D → 1 < szN nn i
theorem sz_bd {nn : Nat} (h : 1 ≤ nn ∧ nn ≤ 1048576) : szN nn 0 ≤ 16384 ∧ szN nn 1 ≤ 256 ∧ szN nn 2 ≤ 4 ∧ szN nn 3 ≤ 1 ∧ 1 ≤ szN nn 0 ∧ 1 ≤ szN nn 1 ∧ 1 ≤ szN nn 2 ∧ 1 ≤ szN nn 3 := by
  have a0 : szN nn 0 = max 1 ((nn + 63) / 64) := rfl
  have a1 : szN nn 1 = (szN nn 0 + 63) / 64 := rfl
  have a2 : szN nn 2 = (szN nn 1 + 63) / 64 := rfl
  have a3 : szN nn 3 = (szN nn 2 + 63) / 64 := rfl
  omega
theorem DP_ex {nn : Nat} (h : 1 ≤ nn ∧ nn ≤ 1048576) : ∃ D, DP nn D := by
  obtain ⟨b0, b1, b2, b3, c0, c1, c2, c3⟩ := sz_bd h
  by_cases h0 : szN nn 0 = 1
  · exact ⟨1, by decide, by decide, h0, fun i hi => absurd hi (by omega)⟩
  by_cases h1 : szN nn 1 = 1
  · exact ⟨2, by decide, by decide, h1, fun i hi => match i, hi with | 0, _ => (by omega)⟩
  by_cases h2 : szN nn 2 = 1
  · exact ⟨3, by decide, by decide, h2, fun i hi => match i, hi with | 0, _ => (by omega) | 1, _ => (by omega)⟩
  · exact ⟨4, by decide, by decide, (show szN nn 3 = 1 by omega), fun i hi => match i, hi with | 0, _ => (by omega) | 1, _ => (by omega) | 2, _ => (by omega)⟩
def QI (Z : State) (r0 : Addr) (nn D n0 : Nat) (v : Option Value) (h : Heap) (L : List Loc) : Prop := ∃ lv A, v = none ∧ Fr n0 L ∧ SF Z h n0 r0 lv A (szN nn) D (wd [])
theorem rmI (l : Launch) (Z : State) (a0 : Array Value) (hw : ∀ d ∈ tables_1, d.before a0 Z = true) (ws : List Jvm.Cond) (r0 : Addr) (p1 : Int32) (v1 : Value) (nn D : Nat) (h0 : Heap) (n0 : Nat) (Z0 : n0 ≤ h0.size) (E_r0 : Exa Z h0 r0 "com/example/tradewheel/tradewheel/SmallestFirst") (F1 : Fld Z h0 r0 "com/example/tradewheel/tradewheel/SmallestFirst" "levels" "[[J" v1) (g_r0 : n0 ≤ r0) (hn : p1.toInt = (nn : Int)) (hn1 : 1 ≤ nn ∧ nn ≤ 1048576) (hD : DP nn D) :
    MetFree l (⟨"com/example/tradewheel/tradewheel/SmallestFirst", "<init>", "(I)V"⟩ : MethodName) (head1 (Jvm.Cond.code (⟨"com/example/tradewheel/tradewheel/SmallestFirst", "<init>", "(I)V"⟩ : MethodName) prog_42_method_1_code 5 none :: ws) ({ frames := 1, cells := 5, slots := 16650, locals := 13 } : Room)) (fun a U => a = #[(.ref r0), (.int p1)] ∧ Z.Warmed39 U.vm ∧ U.heap = h0) (fun _ _ _ _ _ => True) (fun _ U o U' => ∃ v L, o = .returned v ∧ QI Z r0 nn D n0 v U'.heap L ∧ FrameEnd U o U' L ({ frames := 1, cells := 5, slots := 16650, locals := 13 } : Room).cells ({ frames := 1, cells := 5, slots := 16650, locals := 13 } : Room).slots) := by
  obtain ⟨b0, b1, b2, b3, -⟩ := sz_bd hn1
  obtain ⟨d1, d2, d3, d4⟩ := hD
  match D, d1, d2, d3, d4 with
  | 1, _, _, d3, d4 => exact rm1d1 l Z a0 hw ws r0 p1 v1 nn h0 n0 Z0 E_r0 F1 g_r0 hn hn1 b0 b1 b2 b3 d3
  | 2, _, _, d3, d4 => exact rm1d2 l Z a0 hw ws r0 p1 v1 nn h0 n0 Z0 E_r0 F1 g_r0 hn hn1 b0 b1 b2 b3 (d4 0 (by decide)) d3
  | 3, _, _, d3, d4 => exact rm1d3 l Z a0 hw ws r0 p1 v1 nn h0 n0 Z0 E_r0 F1 g_r0 hn hn1 b0 b1 b2 b3 (d4 0 (by decide)) (d4 1 (by decide)) d3
  | 4, _, _, d3, d4 => exact rm1d4 l Z a0 hw ws r0 p1 v1 nn h0 n0 Z0 E_r0 F1 g_r0 hn hn1 b0 b1 b2 b3 (d4 0 (by decide)) (d4 1 (by decide)) (d4 2 (by decide)) d3
theorem em1 {S : List Nat} {D : Nat} (h : ∀ v, ¬ v ∈ S) : emF (wd S (D - 1) 0) = (1 : Int32) := if_pos (wd_zero.mpr fun v hv => absurd hv (h v))
theorem top0 {nn D v : Nat} (hD : DP nn D) (hv : v < nn) : v / 64 ^ (D - 1 + 1) = 0 := by
  have a := szN_in (i := D - 1) hv
  rw [hD.2.2.1] at a; exact Nat.lt_one_iff.mp a
theorem top1 {nn D v : Nat} (hD : DP nn D) (hv : v < nn) : v / 64 ^ D = 0 := by
  have a := top0 hD hv
  rw [show D - 1 + 1 = D from by have := hD.1; omega] at a; exact a
theorem em0 {S : List Nat} {nn D v : Nat} (hD : DP nn D) (hv : v < nn) (h : v ∈ S) : emF (wd S (D - 1) 0) = (0 : Int32) := if_neg fun q => wd_zero.mp q v h (top0 hD hv)
theorem min_val {a b : Int32} : (minF a b).toInt = min a.toInt b.toInt := by
  unfold minF
  by_cases z : b < a
  · rw [if_pos z]; rw [lti] at z; omega
  · rw [if_neg z]; rw [lti] at z; omega
theorem max_valI {a b : Int32} : (maxF a b).toInt = max a.toInt b.toInt := by
  unfold maxF
  by_cases z : a < b
  · rw [if_pos z]; rw [lti] at z; omega
  · rw [if_neg z]; rw [lti] at z; omega
theorem mem3 {a b c v : Nat} : v ∈ [c, b, a] ↔ v = c ∨ v = b ∨ v = a := by simp
theorem memF {S : List Nat} {m v : Nat} : v ∈ S.filter (fun x => decide (x ≠ m)) ↔ v ∈ S ∧ v ≠ m := by simp
theorem remN {x nn : Int32} {n : Nat} (hx : 0 ≤ x.toInt) (hn : nn.toInt = (n : Int)) (h1 : 1 ≤ n) : ∃ v : Nat, (x % nn).toInt = (v : Int) ∧ v < n := by
  have q := (c_iremV x nn).1 hx (by omega)
  exact ⟨(x % nn).toInt.toNat, by omega, by omega⟩
theorem pn_0 : plainName "com/example/tradewheel/tradewheel/SmallestFirstAddPinLaw" = true := by first | (simp [plainName, overriddenIn]; done) | decide +kernel
theorem pd0_0 : parseMethodDescriptor "(I)V" = some ⟨[.int], none⟩ := by decide +kernel
theorem pd0_1 : parseMethodDescriptor "()Z" = some ⟨[], some .boolean⟩ := by decide +kernel
theorem pd0_2 : parseMethodDescriptor "(II)I" = some ⟨[.int, .int], some .int⟩ := by decide +kernel
theorem pd0_3 : parseMethodDescriptor "()I" = some ⟨[], some .int⟩ := by decide +kernel
theorem ef_0 (m : MethodId) (p0 : Int32) (p1 : Int32) (p2 : Int32) (p3 : Int32) : entryFrame m #[(.int p0), (.int p1), (.int p2), (.int p3)] maxLocals = mkF m 0 #[.val (.int p0), .val (.int p1), .val (.int p2), .val (.int p3), .unset, .unset, .unset, .unset, .unset, .unset, .unset, .unset] [] := by first | (simp [entryFrame, mkF, argsToLocals, Value.category, maxLocals]; done) | rfl
def Q0 (Z : State) (p0 : Int32) (p1 : Int32) (p2 : Int32) (p3 : Int32)  (h0 : Heap) (n0 : Nat) (v : Option Value) (h : Heap) (L : List Loc) : Prop := v = some (.int 1) ∧ Fr n0 L
set_option maxRecDepth 65536 in
set_option maxHeartbeats 40000000 in
theorem rm0 (l : Launch) (Z : State) (a0 : Array Value) (hw : ∀ d ∈ tables_1, d.before a0 Z = true) (ws : List Jvm.Cond) (p0 : Int32) (p1 : Int32) (p2 : Int32) (p3 : Int32)  (h0 : Heap) (n0 : Nat) (Z0 : n0 ≤ h0.size) :
    MetFree l x (head1 (Jvm.Cond.code x code maxLocals ret :: ws) room_1) (fun a U => a = #[(.int p0), (.int p1), (.int p2), (.int p3)] ∧ Z.Warmed39 U.vm ∧ U.heap = h0) (fun _ _ _ _ _ => True) (fun _ U o U' => ∃ v L, o = .returned v ∧ Q0 Z p0 p1 p2 p3 h0 n0 v U'.heap L ∧ FrameEnd U o U' L 24 33408) := by
  refine MetFree.of_bodySF (plainFor_of_name pn_0) hisR ?_
  intro p e s m args below meth c s₁ Bd hml0 hP hK
  obtain ⟨rfl, hZ, hh⟩ := hP
  have hx := Bd.exec
  have hby := Bd.bytes
  have hml : c.maxLocals = 12 := hml0
  have hown : s.vm.findClass "com/example/tradewheel/tradewheel/SmallestFirstAddPinLaw" = some m.cls := findClass_of_methodNamed Bd.named
  have hnm := (name_of_methodNamed Bd.named Bd.method).1
  have X0 : Stand p l e room_1 s m #[(.int p0), (.int p1), (.int p2), (.int p3)] below meth c s₁ [] 0 0 := Stand.of_body Bd
  have e0 : s₁.heap = h0 := by rw [← hh, Bd.state]; rfl
  have N0 := Fr.nil n0
  refine Runs.enter (ef_0 m p0 p1 p2 p3) ?_
  show Runs _ _ _ _ s₁ (mkF m 0 #[.val (.int p0), .val (.int p1), .val (.int p2), .val (.int p3), .unset, .unset, .unset, .unset, .unset, .unset, .unset, .unset] [])
  refine Runs.back (fun t_ k_ => XS.iloadN X0.here hx rfl (hb hby at_0) rfl k_) ?_
  show Runs _ _ _ _ s₁ (mkF m 1 #[.val (.int p0), .val (.int p1), .val (.int p2), .val (.int p3), .unset, .unset, .unset, .unset, .unset, .unset, .unset, .unset] [(.int p0)])
  refine Runs.back (X0.ldcInt hx hown (mvT hZ (hw _ (List.mem_of_getElem? (i := 0) rfl))) (g := (mkF m 1 #[.val (.int p0), .val (.int p1), .val (.int p2), .val (.int p3), .unset, .unset, .unset, .unset, .unset, .unset, .unset, .unset] [(.int p0)])) rfl (hb hby at_1)) ?_
  show Runs _ _ _ _ s₁ (mkF m 3 #[.val (.int p0), .val (.int p1), .val (.int p2), .val (.int p3), .unset, .unset, .unset, .unset, .unset, .unset, .unset, .unset] [(.int (1048575 : Int32)), (.int p0)])
  refine Runs.back (fun t_ k_ => XS.iand X0.here hx rfl (hb hby at_3) rfl k_) ?_
  show Runs _ _ _ _ s₁ (mkF m 4 #[.val (.int p0), .val (.int p1), .val (.int p2), .val (.int p3), .unset, .unset, .unset, .unset, .unset, .unset, .unset, .unset] [(.int (p0 &&& (1048575 : Int32)))])
  refine Runs.back (fun t_ k_ => XS.iconst X0.here hx rfl (hb hby at_4) k_) ?_
  show Runs _ _ _ _ s₁ (mkF m 5 #[.val (.int p0), .val (.int p1), .val (.int p2), .val (.int p3), .unset, .unset, .unset, .unset, .unset, .unset, .unset, .unset] [(.int (1 : Int32)), (.int (p0 &&& (1048575 : Int32)))])
  refine Runs.back (fun t_ k_ => XS.iadd X0.here hx rfl (hb hby at_5) rfl k_) ?_
  show Runs _ _ _ _ s₁ (mkF m 6 #[.val (.int p0), .val (.int p1), .val (.int p2), .val (.int p3), .unset, .unset, .unset, .unset, .unset, .unset, .unset, .unset] [(.int ((p0 &&& (1048575 : Int32)) + (1 : Int32)))])
  have hnb : 1 ≤ (((p0 &&& (1048575 : Int32)) + (1 : Int32))).toInt ∧ (((p0 &&& (1048575 : Int32)) + (1 : Int32))).toInt ≤ 1048576 := by
    have q : (p0 &&& (1048575 : Int32)).toInt = p0.toInt % 1048576 := by rw [c_mask p0 _ 20 (by decide) (by decide)]; rfl
    rw [add32 (by rw [o32]; omega) (by rw [o32]; omega), o32]; omega
  generalize en : ((p0 &&& (1048575 : Int32)) + (1 : Int32)) = pn at hnb ⊢
  show Runs _ _ _ _ s₁ (mkF m 6 #[.val (.int p0), .val (.int p1), .val (.int p2), .val (.int p3), .unset, .unset, .unset, .unset, .unset, .unset, .unset, .unset] [(.int pn)])
  obtain ⟨nn, hn⟩ : ∃ nn : Nat, pn.toInt = (nn : Int) := ⟨pn.toInt.toNat, by omega⟩
  have hn1 : 1 ≤ nn ∧ nn ≤ 1048576 := by omega
  obtain ⟨D, hDP⟩ := DP_ex hn1
  have hD : 1 ≤ D ∧ D ≤ 4 := ⟨hDP.1, hDP.2.1⟩
  obtain ⟨dI, hdI⟩ : ∃ dI, D.toInt32 = dI := ⟨_, rfl⟩
  have hdv : dI.toInt = (D : Int) := by rw [← hdI]; exact len_toInt (by omega)
  have hs0 : 0 < szN nn (D - 1) := by rw [hDP.2.2.1]; decide
  have hnz : ¬ pn = (0 : Int32) := by rw [eqi, z32]; omega
  refine Runs.back (fun t_ k_ => XS.istore X0.here hx rfl (hb hby at_6) rfl (l' := #[.val (.int p0), .val (.int p1), .val (.int p2), .val (.int p3), .val (.int pn), .unset, .unset, .unset, .unset, .unset, .unset, .unset]) rfl k_) ?_
  show Runs _ _ _ _ s₁ (mkF m 8 #[.val (.int p0), .val (.int p1), .val (.int p2), .val (.int p3), .val (.int pn), .unset, .unset, .unset, .unset, .unset, .unset, .unset] [])
  refine Runs.back (fun t_ k_ => XS.iloadN X0.here hx rfl (hb hby at_8) rfl k_) ?_
  show Runs _ _ _ _ s₁ (mkF m 9 #[.val (.int p0), .val (.int p1), .val (.int p2), .val (.int p3), .val (.int pn), .unset, .unset, .unset, .unset, .unset, .unset, .unset] [(.int p1)])
  refine Runs.back (X0.ldcInt hx hown (mvT hZ (hw _ (List.mem_of_getElem? (i := 1) rfl))) (g := (mkF m 9 #[.val (.int p0), .val (.int p1), .val (.int p2), .val (.int p3), .val (.int pn), .unset, .unset, .unset, .unset, .unset, .unset, .unset] [(.int p1)])) rfl (hb hby at_9)) ?_
  show Runs _ _ _ _ s₁ (mkF m 11 #[.val (.int p0), .val (.int p1), .val (.int p2), .val (.int p3), .val (.int pn), .unset, .unset, .unset, .unset, .unset, .unset, .unset] [(.int (2147483647 : Int32)), (.int p1)])
  refine Runs.back (fun t_ k_ => XS.iand X0.here hx rfl (hb hby at_11) rfl k_) ?_
  show Runs _ _ _ _ s₁ (mkF m 12 #[.val (.int p0), .val (.int p1), .val (.int p2), .val (.int p3), .val (.int pn), .unset, .unset, .unset, .unset, .unset, .unset, .unset] [(.int (p1 &&& (2147483647 : Int32)))])
  refine Runs.back (fun t_ k_ => XS.iload X0.here hx rfl (hb hby at_12) rfl k_) ?_
  show Runs _ _ _ _ s₁ (mkF m 14 #[.val (.int p0), .val (.int p1), .val (.int p2), .val (.int p3), .val (.int pn), .unset, .unset, .unset, .unset, .unset, .unset, .unset] [(.int pn), (.int (p1 &&& (2147483647 : Int32)))])
  refine Runs.back (fun t_ k_ => iremM X0 hx rfl (hb hby at_14) rfl hnz k_) ?_
  show Runs _ _ _ _ s₁ (mkF m 15 #[.val (.int p0), .val (.int p1), .val (.int p2), .val (.int p3), .val (.int pn), .unset, .unset, .unset, .unset, .unset, .unset, .unset] [(.int ((p1 &&& (2147483647 : Int32)) % pn))])
  obtain ⟨va, hva, lva⟩ := remN (x := (p1 &&& (2147483647 : Int32))) (by rw [c_mask p1 _ 31 (by decide) (by decide)]; omega) hn hn1.1
  generalize epa : ((p1 &&& (2147483647 : Int32)) % pn) = pa at hva ⊢
  show Runs _ _ _ _ s₁ (mkF m 15 #[.val (.int p0), .val (.int p1), .val (.int p2), .val (.int p3), .val (.int pn), .unset, .unset, .unset, .unset, .unset, .unset, .unset] [(.int pa)])
  have mva : va < 2147483648 := by omega
  refine Runs.back (fun t_ k_ => XS.istore X0.here hx rfl (hb hby at_15) rfl (l' := #[.val (.int p0), .val (.int p1), .val (.int p2), .val (.int p3), .val (.int pn), .val (.int pa), .unset, .unset, .unset, .unset, .unset, .unset]) rfl k_) ?_
  show Runs _ _ _ _ s₁ (mkF m 17 #[.val (.int p0), .val (.int p1), .val (.int p2), .val (.int p3), .val (.int pn), .val (.int pa), .unset, .unset, .unset, .unset, .unset, .unset] [])
  refine Runs.back (fun t_ k_ => XS.iloadN X0.here hx rfl (hb hby at_17) rfl k_) ?_
  show Runs _ _ _ _ s₁ (mkF m 18 #[.val (.int p0), .val (.int p1), .val (.int p2), .val (.int p3), .val (.int pn), .val (.int pa), .unset, .unset, .unset, .unset, .unset, .unset] [(.int p2)])
  refine Runs.back (X0.ldcInt hx hown (mvT hZ (hw _ (List.mem_of_getElem? (i := 1) rfl))) (g := (mkF m 18 #[.val (.int p0), .val (.int p1), .val (.int p2), .val (.int p3), .val (.int pn), .val (.int pa), .unset, .unset, .unset, .unset, .unset, .unset] [(.int p2)])) rfl (hb hby at_18)) ?_
  show Runs _ _ _ _ s₁ (mkF m 20 #[.val (.int p0), .val (.int p1), .val (.int p2), .val (.int p3), .val (.int pn), .val (.int pa), .unset, .unset, .unset, .unset, .unset, .unset] [(.int (2147483647 : Int32)), (.int p2)])
  refine Runs.back (fun t_ k_ => XS.iand X0.here hx rfl (hb hby at_20) rfl k_) ?_
  show Runs _ _ _ _ s₁ (mkF m 21 #[.val (.int p0), .val (.int p1), .val (.int p2), .val (.int p3), .val (.int pn), .val (.int pa), .unset, .unset, .unset, .unset, .unset, .unset] [(.int (p2 &&& (2147483647 : Int32)))])
  refine Runs.back (fun t_ k_ => XS.iload X0.here hx rfl (hb hby at_21) rfl k_) ?_
  show Runs _ _ _ _ s₁ (mkF m 23 #[.val (.int p0), .val (.int p1), .val (.int p2), .val (.int p3), .val (.int pn), .val (.int pa), .unset, .unset, .unset, .unset, .unset, .unset] [(.int pn), (.int (p2 &&& (2147483647 : Int32)))])
  refine Runs.back (fun t_ k_ => iremM X0 hx rfl (hb hby at_23) rfl hnz k_) ?_
  show Runs _ _ _ _ s₁ (mkF m 24 #[.val (.int p0), .val (.int p1), .val (.int p2), .val (.int p3), .val (.int pn), .val (.int pa), .unset, .unset, .unset, .unset, .unset, .unset] [(.int ((p2 &&& (2147483647 : Int32)) % pn))])
  obtain ⟨vb, hvb, lvb⟩ := remN (x := (p2 &&& (2147483647 : Int32))) (by rw [c_mask p2 _ 31 (by decide) (by decide)]; omega) hn hn1.1
  generalize epb : ((p2 &&& (2147483647 : Int32)) % pn) = pb at hvb ⊢
  show Runs _ _ _ _ s₁ (mkF m 24 #[.val (.int p0), .val (.int p1), .val (.int p2), .val (.int p3), .val (.int pn), .val (.int pa), .unset, .unset, .unset, .unset, .unset, .unset] [(.int pb)])
  have mvb : vb < 2147483648 := by omega
  refine Runs.back (fun t_ k_ => XS.istore X0.here hx rfl (hb hby at_24) rfl (l' := #[.val (.int p0), .val (.int p1), .val (.int p2), .val (.int p3), .val (.int pn), .val (.int pa), .val (.int pb), .unset, .unset, .unset, .unset, .unset]) rfl k_) ?_
  show Runs _ _ _ _ s₁ (mkF m 26 #[.val (.int p0), .val (.int p1), .val (.int p2), .val (.int p3), .val (.int pn), .val (.int pa), .val (.int pb), .unset, .unset, .unset, .unset, .unset] [])
  refine Runs.back (fun t_ k_ => XS.iloadN X0.here hx rfl (hb hby at_26) rfl k_) ?_
  show Runs _ _ _ _ s₁ (mkF m 27 #[.val (.int p0), .val (.int p1), .val (.int p2), .val (.int p3), .val (.int pn), .val (.int pa), .val (.int pb), .unset, .unset, .unset, .unset, .unset] [(.int p3)])
  refine Runs.back (X0.ldcInt hx hown (mvT hZ (hw _ (List.mem_of_getElem? (i := 1) rfl))) (g := (mkF m 27 #[.val (.int p0), .val (.int p1), .val (.int p2), .val (.int p3), .val (.int pn), .val (.int pa), .val (.int pb), .unset, .unset, .unset, .unset, .unset] [(.int p3)])) rfl (hb hby at_27)) ?_
  show Runs _ _ _ _ s₁ (mkF m 29 #[.val (.int p0), .val (.int p1), .val (.int p2), .val (.int p3), .val (.int pn), .val (.int pa), .val (.int pb), .unset, .unset, .unset, .unset, .unset] [(.int (2147483647 : Int32)), (.int p3)])
  refine Runs.back (fun t_ k_ => XS.iand X0.here hx rfl (hb hby at_29) rfl k_) ?_
  show Runs _ _ _ _ s₁ (mkF m 30 #[.val (.int p0), .val (.int p1), .val (.int p2), .val (.int p3), .val (.int pn), .val (.int pa), .val (.int pb), .unset, .unset, .unset, .unset, .unset] [(.int (p3 &&& (2147483647 : Int32)))])
  refine Runs.back (fun t_ k_ => XS.iload X0.here hx rfl (hb hby at_30) rfl k_) ?_
  show Runs _ _ _ _ s₁ (mkF m 32 #[.val (.int p0), .val (.int p1), .val (.int p2), .val (.int p3), .val (.int pn), .val (.int pa), .val (.int pb), .unset, .unset, .unset, .unset, .unset] [(.int pn), (.int (p3 &&& (2147483647 : Int32)))])
  refine Runs.back (fun t_ k_ => iremM X0 hx rfl (hb hby at_32) rfl hnz k_) ?_
  show Runs _ _ _ _ s₁ (mkF m 33 #[.val (.int p0), .val (.int p1), .val (.int p2), .val (.int p3), .val (.int pn), .val (.int pa), .val (.int pb), .unset, .unset, .unset, .unset, .unset] [(.int ((p3 &&& (2147483647 : Int32)) % pn))])
  obtain ⟨vc, hvc, lvc⟩ := remN (x := (p3 &&& (2147483647 : Int32))) (by rw [c_mask p3 _ 31 (by decide) (by decide)]; omega) hn hn1.1
  generalize epc_ : ((p3 &&& (2147483647 : Int32)) % pn) = pc_ at hvc ⊢
  show Runs _ _ _ _ s₁ (mkF m 33 #[.val (.int p0), .val (.int p1), .val (.int p2), .val (.int p3), .val (.int pn), .val (.int pa), .val (.int pb), .unset, .unset, .unset, .unset, .unset] [(.int pc_)])
  have mvc : vc < 2147483648 := by omega
  refine Runs.back (fun t_ k_ => XS.istore X0.here hx rfl (hb hby at_33) rfl (l' := #[.val (.int p0), .val (.int p1), .val (.int p2), .val (.int p3), .val (.int pn), .val (.int pa), .val (.int pb), .val (.int pc_), .unset, .unset, .unset, .unset]) rfl k_) ?_
  show Runs _ _ _ _ s₁ (mkF m 35 #[.val (.int p0), .val (.int p1), .val (.int p2), .val (.int p3), .val (.int pn), .val (.int pa), .val (.int pb), .val (.int pc_), .unset, .unset, .unset, .unset] [])
  obtain ⟨T1, h1, X1, e1, E1, A1, D1, -, st1⟩ := newO X0 hx hZ hown (hw _ (List.mem_of_getElem? (i := 2) rfl)) (hw _ (List.mem_of_getElem? (i := 3) rfl)) (hw _ (List.mem_of_getElem? (i := 4) rfl)) e0 (g := (mkF m 35 #[.val (.int p0), .val (.int p1), .val (.int p2), .val (.int p3), .val (.int pn), .val (.int pa), .val (.int pb), .val (.int pc_), .unset, .unset, .unset, .unset] [])) rfl (hb hby at_35) (by decide) (by decide)
  obtain ⟨ob1, g1⟩ : ∃ z, z = h0.size := ⟨_, rfl⟩
  rw [← g1] at A1 D1 st1
  have g_ob1 : n0 ≤ ob1 := Nat.le_trans (Z0) (Nat.le_of_eq g1.symm)
  have Z1 : n0 ≤ h1.size := Nat.le_trans (Z0) E1.1
  have F1_18 : Fld Z h1 ob1 "com/example/tradewheel/tradewheel/SmallestFirst" "levels" "[[J" .null := D1 (Or.inr (hw _ (List.mem_of_getElem? (i := 18) rfl))) (ty := (.array (.array .long))) (by decide)
  refine Runs.back st1 ?_
  show Runs _ _ _ _ T1 (mkF m 38 #[.val (.int p0), .val (.int p1), .val (.int p2), .val (.int p3), .val (.int pn), .val (.int pa), .val (.int pb), .val (.int pc_), .unset, .unset, .unset, .unset] [(.ref ob1)])
  refine Runs.back (fun t_ k_ => XS.dup X1.here hx rfl (hb hby at_38) rfl rfl k_) ?_
  show Runs _ _ _ _ T1 (mkF m 39 #[.val (.int p0), .val (.int p1), .val (.int p2), .val (.int p3), .val (.int pn), .val (.int pa), .val (.int pb), .val (.int pc_), .unset, .unset, .unset, .unset] [(.ref ob1), (.ref ob1)])
  refine Runs.back (fun t_ k_ => XS.iload X1.here hx rfl (hb hby at_39) rfl k_) ?_
  show Runs _ _ _ _ T1 (mkF m 41 #[.val (.int p0), .val (.int p1), .val (.int p2), .val (.int p3), .val (.int pn), .val (.int pa), .val (.int pb), .val (.int pc_), .unset, .unset, .unset, .unset] [(.int pn), (.ref ob1), (.ref ob1)])
  obtain ⟨_, _, ⟨T2, L2, k2, n2⟩, -, X2, ⟨Lc2, hQ2, l2, y2, z2⟩, st2⟩ := X1.specialBack hx (y := (⟨"com/example/tradewheel/tradewheel/SmallestFirst", "<init>", "(I)V"⟩ : MethodName)) rfl hown (mvT hZ (hw _ (List.mem_of_getElem? (i := 5) rfl))) (mvT hZ (hw _ (List.mem_of_getElem? (i := 6) rfl))) (mvT hZ (hw _ (List.mem_of_getElem? (i := 7) rfl))) (by decide) (backOf (W := 1) (rmI l Z a0 hw [] ob1 pn _ nn D h1 n0 (Z1) A1 F1_18 g_ob1 hn hn1 hDP) hZ (hw _ (List.mem_of_getElem? (i := 7) rfl)) (hw _ (List.mem_of_getElem? (i := 4) rfl)) (by decide) (by decide)) (g := (mkF m 41 #[.val (.int p0), .val (.int p1), .val (.int p2), .val (.int p3), .val (.int pn), .val (.int pa), .val (.int pb), .val (.int pc_), .unset, .unset, .unset, .unset] [(.int pn), (.ref ob1), (.ref ob1)])) rfl (by rw [hml]; rfl) (Steps.refl _) (a := ob1) (argsL := [(.int pn)]) (rest := [(.ref ob1)]) (lenOf pd0_0 rfl) rfl (by show 2 * 0 + _ ≤ _; exact Nat.le_of_eq rfl) (hb hby at_41) (fun _ _ => ⟨rfl, e1, (by decide : 1 + 5 ≤ _), (by decide : 1 + 16650 ≤ _)⟩)
  dsimp only [Pt.U, Pt.locs, Pt.cells, Pt.slots] at X2 l2 y2 z2 st2 hQ2
  obtain rfl : k2 = 6 := y2
  obtain rfl : n2 = 16651 := z2
  obtain ⟨lv, A, rfl, N2q, HF2⟩ := hQ2
  have N2 : Fr n0 L2 := by rw [l2]; exact Fr.app N0 N2q
  clear l2
  have Z2 : n0 ≤ T2.heap.size := Nat.le_trans g_ob1 (Nat.le_of_lt HF2.1.lt)
  refine Runs.trans st2 ?_
  show Runs _ _ _ _ T2 (mkF m 44 #[.val (.int p0), .val (.int p1), .val (.int p2), .val (.int p3), .val (.int pn), .val (.int pa), .val (.int pb), .val (.int pc_), .unset, .unset, .unset, .unset] [(.ref ob1)])
  refine Runs.back (fun t_ k_ => XS.astore X2.here hx rfl (hb hby at_44) rfl rfl (l' := #[.val (.int p0), .val (.int p1), .val (.int p2), .val (.int p3), .val (.int pn), .val (.int pa), .val (.int pb), .val (.int pc_), .val (.ref ob1), .unset, .unset, .unset]) rfl k_) ?_
  show Runs _ _ _ _ T2 (mkF m 46 #[.val (.int p0), .val (.int p1), .val (.int p2), .val (.int p3), .val (.int pn), .val (.int pa), .val (.int pb), .val (.int pc_), .val (.ref ob1), .unset, .unset, .unset] [])
  refine Runs.back (fun t_ k_ => XS.aload X2.here hx rfl (hb hby at_46) rfl rfl k_) ?_
  show Runs _ _ _ _ T2 (mkF m 48 #[.val (.int p0), .val (.int p1), .val (.int p2), .val (.int p3), .val (.int pn), .val (.int pa), .val (.int pb), .val (.int pc_), .val (.ref ob1), .unset, .unset, .unset] [(.ref ob1)])
  obtain ⟨cq3, kq3, q3a, q3b, q3c⟩ := isOf hZ rfl HF2.1
  obtain ⟨_, _, ⟨T3, L3, k3, n3⟩, -, X3, ⟨Lc3, hQ3, l3, y3, z3⟩, st3⟩ := X2.virtualBack hx (y := (⟨"com/example/tradewheel/tradewheel/SmallestFirst", "isEmpty", "()Z"⟩ : MethodName)) (z := (⟨"com/example/tradewheel/tradewheel/SmallestFirst", "isEmpty", "()Z"⟩ : MethodName)) hown (mvT hZ (hw _ (List.mem_of_getElem? (i := 21) rfl))) (mvT hZ (hw _ (List.mem_of_getElem? (i := 22) rfl))) (notFace_of_selects (args := #[]) (mvT hZ (hw _ (List.mem_of_getElem? (i := 24) rfl)))) (mvT hZ (hw _ (List.mem_of_getElem? (i := 24) rfl))) (mvT hZ (hw _ (List.mem_of_getElem? (i := 23) rfl))) (by decide) (backOf (W := 0) (rm4 l Z a0 hw [] ob1 lv A (szN nn) D dI (wd []) T2.heap n0 (Z2) HF2 hdI hdv hD hs0) hZ (hw _ (List.mem_of_getElem? (i := 25) rfl)) (hw _ (List.mem_of_getElem? (i := 4) rfl)) (by decide) (by decide)) q3a q3c (g := (mkF m 48 #[.val (.int p0), .val (.int p1), .val (.int p2), .val (.int p3), .val (.int pn), .val (.int pa), .val (.int pb), .val (.int pc_), .val (.ref ob1), .unset, .unset, .unset] [(.ref ob1)])) rfl (by rw [hml]; rfl) (Steps.refl _) (argsL := []) (rest := []) (lenOf pd0_1 rfl) rfl (by show 2 * 0 + _ ≤ _; exact Nat.le_of_eq rfl) (hb hby at_48) (fun _ _ => ⟨rfl, rfl, (by decide : 6 + 0 ≤ _), (by decide : 16651 + 0 ≤ _)⟩)
  dsimp only [Pt.U, Pt.locs, Pt.cells, Pt.slots] at X3 l3 y3 z3 st3 hQ3
  obtain rfl : k3 = 6 := y3
  obtain rfl : n3 = 16651 := z3
  obtain ⟨rfl, N3q, eq3⟩ := hQ3
  have N3 : Fr n0 L3 := by rw [l3]; exact Fr.app N2 N3q
  clear l3
  refine Runs.trans st3 ?_
  show Runs _ _ _ _ T3 (mkF m 51 #[.val (.int p0), .val (.int p1), .val (.int p2), .val (.int p3), .val (.int pn), .val (.int pa), .val (.int pb), .val (.int pc_), .val (.ref ob1), .unset, .unset, .unset] [(.int (emF (wd [] (D - 1) 0)))])
  refine Runs.back (fun t_ k_ => XS.ifYes X3.here hx rfl (pc0 := 51) (pc' := 56) rfl (hb hby at_51) rfl ((if0 _ _).trans (feq (show ¬ ((emF (wd [] (D - 1) 0)) = (0 : Int32)) from (by rw [em1 (fun u hu => by simp at hu)]; decide))).2) (by decide) (by decide) k_) ?_
  show Runs _ _ _ _ T3 (mkF m 56 #[.val (.int p0), .val (.int p1), .val (.int p2), .val (.int p3), .val (.int pn), .val (.int pa), .val (.int pb), .val (.int pc_), .val (.ref ob1), .unset, .unset, .unset] [])
  refine Runs.back (fun t_ k_ => XS.aload X3.here hx rfl (hb hby at_56) rfl rfl k_) ?_
  show Runs _ _ _ _ T3 (mkF m 58 #[.val (.int p0), .val (.int p1), .val (.int p2), .val (.int p3), .val (.int pn), .val (.int pa), .val (.int pb), .val (.int pc_), .val (.ref ob1), .unset, .unset, .unset] [(.ref ob1)])
  refine Runs.back (fun t_ k_ => XS.iload X3.here hx rfl (hb hby at_58) rfl k_) ?_
  show Runs _ _ _ _ T3 (mkF m 60 #[.val (.int p0), .val (.int p1), .val (.int p2), .val (.int p3), .val (.int pn), .val (.int pa), .val (.int pb), .val (.int pc_), .val (.ref ob1), .unset, .unset, .unset] [(.int pa), (.ref ob1)])
  obtain ⟨cq4, kq4, q4a, q4b, q4c⟩ := isOf hZ eq3 HF2.1
  obtain ⟨_, _, ⟨T4, L4, k4, n4⟩, -, X4, ⟨Lc4, hQ4, l4, y4, z4⟩, st4⟩ := X3.virtualBack hx (y := (⟨"com/example/tradewheel/tradewheel/SmallestFirst", "add", "(I)V"⟩ : MethodName)) (z := (⟨"com/example/tradewheel/tradewheel/SmallestFirst", "add", "(I)V"⟩ : MethodName)) hown (mvT hZ (hw _ (List.mem_of_getElem? (i := 26) rfl))) (mvT hZ (hw _ (List.mem_of_getElem? (i := 27) rfl))) (notFace_of_selects (args := #[]) (mvT hZ (hw _ (List.mem_of_getElem? (i := 29) rfl)))) (mvT hZ (hw _ (List.mem_of_getElem? (i := 29) rfl))) (mvT hZ (hw _ (List.mem_of_getElem? (i := 28) rfl))) (by decide) (backOf (W := 0) (rm5 l Z a0 hw [] ob1 pa lv A (szN nn) D dI [] va T2.heap n0 (Z2) HF2 hdI hdv hD hva mva (fun i _ => szN_in lva)) hZ (hw _ (List.mem_of_getElem? (i := 30) rfl)) (hw _ (List.mem_of_getElem? (i := 4) rfl)) (by decide) (by decide)) q4a q4c (g := (mkF m 60 #[.val (.int p0), .val (.int p1), .val (.int p2), .val (.int p3), .val (.int pn), .val (.int pa), .val (.int pb), .val (.int pc_), .val (.ref ob1), .unset, .unset, .unset] [(.int pa), (.ref ob1)])) rfl (by rw [hml]; rfl) (Steps.refl _) (argsL := [(.int pa)]) (rest := []) (lenOf pd0_0 rfl) rfl (by show 2 * 0 + _ ≤ _; exact Nat.le_of_eq rfl) (hb hby at_60) (fun _ _ => ⟨rfl, eq3, (by decide : 6 + 0 ≤ _), (by decide : 16651 + 0 ≤ _)⟩)
  dsimp only [Pt.U, Pt.locs, Pt.cells, Pt.slots] at X4 l4 y4 z4 st4 hQ4
  obtain rfl : k4 = 6 := y4
  obtain rfl : n4 = 16651 := z4
  obtain ⟨rfl, N4q, HF4⟩ := hQ4
  have N4 : Fr n0 L4 := by rw [l4]; exact Fr.app N3 N4q
  clear l4
  have Z4 : n0 ≤ T4.heap.size := Nat.le_trans g_ob1 (Nat.le_of_lt HF4.1.lt)
  refine Runs.trans st4 ?_
  show Runs _ _ _ _ T4 (mkF m 63 #[.val (.int p0), .val (.int p1), .val (.int p2), .val (.int p3), .val (.int pn), .val (.int pa), .val (.int pb), .val (.int pc_), .val (.ref ob1), .unset, .unset, .unset] [])
  refine Runs.back (fun t_ k_ => XS.aload X4.here hx rfl (hb hby at_63) rfl rfl k_) ?_
  show Runs _ _ _ _ T4 (mkF m 65 #[.val (.int p0), .val (.int p1), .val (.int p2), .val (.int p3), .val (.int pn), .val (.int pa), .val (.int pb), .val (.int pc_), .val (.ref ob1), .unset, .unset, .unset] [(.ref ob1)])
  refine Runs.back (fun t_ k_ => XS.iload X4.here hx rfl (hb hby at_65) rfl k_) ?_
  show Runs _ _ _ _ T4 (mkF m 67 #[.val (.int p0), .val (.int p1), .val (.int p2), .val (.int p3), .val (.int pn), .val (.int pa), .val (.int pb), .val (.int pc_), .val (.ref ob1), .unset, .unset, .unset] [(.int pb), (.ref ob1)])
  obtain ⟨cq5, kq5, q5a, q5b, q5c⟩ := isOf hZ rfl HF4.1
  obtain ⟨_, _, ⟨T5, L5, k5, n5⟩, -, X5, ⟨Lc5, hQ5, l5, y5, z5⟩, st5⟩ := X4.virtualBack hx (y := (⟨"com/example/tradewheel/tradewheel/SmallestFirst", "add", "(I)V"⟩ : MethodName)) (z := (⟨"com/example/tradewheel/tradewheel/SmallestFirst", "add", "(I)V"⟩ : MethodName)) hown (mvT hZ (hw _ (List.mem_of_getElem? (i := 26) rfl))) (mvT hZ (hw _ (List.mem_of_getElem? (i := 27) rfl))) (notFace_of_selects (args := #[]) (mvT hZ (hw _ (List.mem_of_getElem? (i := 29) rfl)))) (mvT hZ (hw _ (List.mem_of_getElem? (i := 29) rfl))) (mvT hZ (hw _ (List.mem_of_getElem? (i := 28) rfl))) (by decide) (backOf (W := 0) (rm5 l Z a0 hw [] ob1 pb lv A (szN nn) D dI [va] vb T4.heap n0 (Z4) HF4 hdI hdv hD hvb mvb (fun i _ => szN_in lvb)) hZ (hw _ (List.mem_of_getElem? (i := 30) rfl)) (hw _ (List.mem_of_getElem? (i := 4) rfl)) (by decide) (by decide)) q5a q5c (g := (mkF m 67 #[.val (.int p0), .val (.int p1), .val (.int p2), .val (.int p3), .val (.int pn), .val (.int pa), .val (.int pb), .val (.int pc_), .val (.ref ob1), .unset, .unset, .unset] [(.int pb), (.ref ob1)])) rfl (by rw [hml]; rfl) (Steps.refl _) (argsL := [(.int pb)]) (rest := []) (lenOf pd0_0 rfl) rfl (by show 2 * 0 + _ ≤ _; exact Nat.le_of_eq rfl) (hb hby at_67) (fun _ _ => ⟨rfl, rfl, (by decide : 6 + 0 ≤ _), (by decide : 16651 + 0 ≤ _)⟩)
  dsimp only [Pt.U, Pt.locs, Pt.cells, Pt.slots] at X5 l5 y5 z5 st5 hQ5
  obtain rfl : k5 = 6 := y5
  obtain rfl : n5 = 16651 := z5
  obtain ⟨rfl, N5q, HF5⟩ := hQ5
  have N5 : Fr n0 L5 := by rw [l5]; exact Fr.app N4 N5q
  clear l5
  have Z5 : n0 ≤ T5.heap.size := Nat.le_trans g_ob1 (Nat.le_of_lt HF5.1.lt)
  refine Runs.trans st5 ?_
  show Runs _ _ _ _ T5 (mkF m 70 #[.val (.int p0), .val (.int p1), .val (.int p2), .val (.int p3), .val (.int pn), .val (.int pa), .val (.int pb), .val (.int pc_), .val (.ref ob1), .unset, .unset, .unset] [])
  refine Runs.back (fun t_ k_ => XS.aload X5.here hx rfl (hb hby at_70) rfl rfl k_) ?_
  show Runs _ _ _ _ T5 (mkF m 72 #[.val (.int p0), .val (.int p1), .val (.int p2), .val (.int p3), .val (.int pn), .val (.int pa), .val (.int pb), .val (.int pc_), .val (.ref ob1), .unset, .unset, .unset] [(.ref ob1)])
  refine Runs.back (fun t_ k_ => XS.iload X5.here hx rfl (hb hby at_72) rfl k_) ?_
  show Runs _ _ _ _ T5 (mkF m 74 #[.val (.int p0), .val (.int p1), .val (.int p2), .val (.int p3), .val (.int pn), .val (.int pa), .val (.int pb), .val (.int pc_), .val (.ref ob1), .unset, .unset, .unset] [(.int pc_), (.ref ob1)])
  obtain ⟨cq6, kq6, q6a, q6b, q6c⟩ := isOf hZ rfl HF5.1
  obtain ⟨_, _, ⟨T6, L6, k6, n6⟩, -, X6, ⟨Lc6, hQ6, l6, y6, z6⟩, st6⟩ := X5.virtualBack hx (y := (⟨"com/example/tradewheel/tradewheel/SmallestFirst", "add", "(I)V"⟩ : MethodName)) (z := (⟨"com/example/tradewheel/tradewheel/SmallestFirst", "add", "(I)V"⟩ : MethodName)) hown (mvT hZ (hw _ (List.mem_of_getElem? (i := 26) rfl))) (mvT hZ (hw _ (List.mem_of_getElem? (i := 27) rfl))) (notFace_of_selects (args := #[]) (mvT hZ (hw _ (List.mem_of_getElem? (i := 29) rfl)))) (mvT hZ (hw _ (List.mem_of_getElem? (i := 29) rfl))) (mvT hZ (hw _ (List.mem_of_getElem? (i := 28) rfl))) (by decide) (backOf (W := 0) (rm5 l Z a0 hw [] ob1 pc_ lv A (szN nn) D dI [vb, va] vc T5.heap n0 (Z5) HF5 hdI hdv hD hvc mvc (fun i _ => szN_in lvc)) hZ (hw _ (List.mem_of_getElem? (i := 30) rfl)) (hw _ (List.mem_of_getElem? (i := 4) rfl)) (by decide) (by decide)) q6a q6c (g := (mkF m 74 #[.val (.int p0), .val (.int p1), .val (.int p2), .val (.int p3), .val (.int pn), .val (.int pa), .val (.int pb), .val (.int pc_), .val (.ref ob1), .unset, .unset, .unset] [(.int pc_), (.ref ob1)])) rfl (by rw [hml]; rfl) (Steps.refl _) (argsL := [(.int pc_)]) (rest := []) (lenOf pd0_0 rfl) rfl (by show 2 * 0 + _ ≤ _; exact Nat.le_of_eq rfl) (hb hby at_74) (fun _ _ => ⟨rfl, rfl, (by decide : 6 + 0 ≤ _), (by decide : 16651 + 0 ≤ _)⟩)
  dsimp only [Pt.U, Pt.locs, Pt.cells, Pt.slots] at X6 l6 y6 z6 st6 hQ6
  obtain rfl : k6 = 6 := y6
  obtain rfl : n6 = 16651 := z6
  obtain ⟨rfl, N6q, HF6⟩ := hQ6
  have N6 : Fr n0 L6 := by rw [l6]; exact Fr.app N5 N6q
  clear l6
  have Z6 : n0 ≤ T6.heap.size := Nat.le_trans g_ob1 (Nat.le_of_lt HF6.1.lt)
  refine Runs.trans st6 ?_
  show Runs _ _ _ _ T6 (mkF m 77 #[.val (.int p0), .val (.int p1), .val (.int p2), .val (.int p3), .val (.int pn), .val (.int pa), .val (.int pb), .val (.int pc_), .val (.ref ob1), .unset, .unset, .unset] [])
  refine Runs.back (fun t_ k_ => XS.iload X6.here hx rfl (hb hby at_77) rfl k_) ?_
  show Runs _ _ _ _ T6 (mkF m 79 #[.val (.int p0), .val (.int p1), .val (.int p2), .val (.int p3), .val (.int pn), .val (.int pa), .val (.int pb), .val (.int pc_), .val (.ref ob1), .unset, .unset, .unset] [(.int pa)])
  refine Runs.back (fun t_ k_ => XS.iload X6.here hx rfl (hb hby at_79) rfl k_) ?_
  show Runs _ _ _ _ T6 (mkF m 81 #[.val (.int p0), .val (.int p1), .val (.int p2), .val (.int p3), .val (.int pn), .val (.int pa), .val (.int pb), .val (.int pc_), .val (.ref ob1), .unset, .unset, .unset] [(.int pb), (.int pa)])
  refine Runs.back (fun t_ k_ => XS.iload X6.here hx rfl (hb hby at_81) rfl k_) ?_
  show Runs _ _ _ _ T6 (mkF m 83 #[.val (.int p0), .val (.int p1), .val (.int p2), .val (.int p3), .val (.int pn), .val (.int pa), .val (.int pb), .val (.int pc_), .val (.ref ob1), .unset, .unset, .unset] [(.int pc_), (.int pb), (.int pa)])
  obtain ⟨_, _, ⟨T7, L7, k7, n7⟩, -, X7, ⟨Lc7, hQ7, l7, y7, z7⟩, st7⟩ := Jvm.LawKit.callS X6 hx (y := (⟨"java/lang/Math", "min", "(II)I"⟩ : MethodName)) hown (mvT hZ (hw _ (List.mem_of_getElem? (i := 31) rfl))) (mvT hZ (hw _ (List.mem_of_getElem? (i := 32) rfl))) (mvT hZ (hw _ (List.mem_of_getElem? (i := 13) rfl))) (mvT hZ (hw _ (List.mem_of_getElem? (i := 33) rfl))) (by decide) (backOf (W := 1) (rm6 l Z a0 hw [] pb pc_ T6.heap n0 (Z6)) hZ (hw _ (List.mem_of_getElem? (i := 33) rfl)) (hw _ (List.mem_of_getElem? (i := 13) rfl)) (by decide) (by decide)) (g := (mkF m 83 #[.val (.int p0), .val (.int p1), .val (.int p2), .val (.int p3), .val (.int pn), .val (.int pa), .val (.int pb), .val (.int pc_), .val (.ref ob1), .unset, .unset, .unset] [(.int pc_), (.int pb), (.int pa)])) rfl (by rw [hml]; rfl) (argsL := [(.int pb), (.int pc_)]) (rest := [(.int pa)]) (lenOf pd0_2 rfl) rfl (by show 2 * 0 + _ ≤ _; exact Nat.le_of_eq rfl) (hb hby at_83) (fun _ _ => ⟨rfl, rfl, (by decide : 6 + 0 ≤ _), (by decide : 16651 + 0 ≤ _)⟩)
  dsimp only [Pt.U, Pt.locs, Pt.cells, Pt.slots] at X7 l7 y7 z7 st7 hQ7
  obtain rfl : k7 = 6 := y7
  obtain rfl : n7 = 16651 := z7
  obtain ⟨rfl, N7q, eq7⟩ := hQ7
  have N7 : Fr n0 L7 := by rw [l7]; exact Fr.app N6 N7q
  clear l7
  refine Runs.back st7 ?_
  show Runs _ _ _ _ T7 (mkF m 86 #[.val (.int p0), .val (.int p1), .val (.int p2), .val (.int p3), .val (.int pn), .val (.int pa), .val (.int pb), .val (.int pc_), .val (.ref ob1), .unset, .unset, .unset] [(.int (minF pb pc_)), (.int pa)])
  obtain ⟨_, _, ⟨T8, L8, k8, n8⟩, -, X8, ⟨Lc8, hQ8, l8, y8, z8⟩, st8⟩ := Jvm.LawKit.callS X7 hx (y := (⟨"java/lang/Math", "min", "(II)I"⟩ : MethodName)) hown (mvT hZ (hw _ (List.mem_of_getElem? (i := 31) rfl))) (mvT hZ (hw _ (List.mem_of_getElem? (i := 32) rfl))) (mvT hZ (hw _ (List.mem_of_getElem? (i := 13) rfl))) (mvT hZ (hw _ (List.mem_of_getElem? (i := 33) rfl))) (by decide) (backOf (W := 0) (rm6 l Z a0 hw [] pa (minF pb pc_) T6.heap n0 (Z6)) hZ (hw _ (List.mem_of_getElem? (i := 33) rfl)) (hw _ (List.mem_of_getElem? (i := 13) rfl)) (by decide) (by decide)) (g := (mkF m 86 #[.val (.int p0), .val (.int p1), .val (.int p2), .val (.int p3), .val (.int pn), .val (.int pa), .val (.int pb), .val (.int pc_), .val (.ref ob1), .unset, .unset, .unset] [(.int (minF pb pc_)), (.int pa)])) rfl (by rw [hml]; rfl) (argsL := [(.int pa), (.int (minF pb pc_))]) (rest := []) (lenOf pd0_2 rfl) rfl (by show 2 * 0 + _ ≤ _; exact Nat.le_of_eq rfl) (hb hby at_86) (fun _ _ => ⟨rfl, eq7, (by decide : 6 + 0 ≤ _), (by decide : 16651 + 0 ≤ _)⟩)
  dsimp only [Pt.U, Pt.locs, Pt.cells, Pt.slots] at X8 l8 y8 z8 st8 hQ8
  obtain rfl : k8 = 6 := y8
  obtain rfl : n8 = 16651 := z8
  obtain ⟨rfl, N8q, eq8⟩ := hQ8
  have N8 : Fr n0 L8 := by rw [l8]; exact Fr.app N7 N8q
  clear l8
  refine Runs.back st8 ?_
  show Runs _ _ _ _ T8 (mkF m 89 #[.val (.int p0), .val (.int p1), .val (.int p2), .val (.int p3), .val (.int pn), .val (.int pa), .val (.int pb), .val (.int pc_), .val (.ref ob1), .unset, .unset, .unset] [(.int (minF pa (minF pb pc_)))])
  refine Runs.back (fun t_ k_ => XS.istore X8.here hx rfl (hb hby at_89) rfl (l' := #[.val (.int p0), .val (.int p1), .val (.int p2), .val (.int p3), .val (.int pn), .val (.int pa), .val (.int pb), .val (.int pc_), .val (.ref ob1), .val (.int (minF pa (minF pb pc_))), .unset, .unset]) rfl k_) ?_
  show Runs _ _ _ _ T8 (mkF m 91 #[.val (.int p0), .val (.int p1), .val (.int p2), .val (.int p3), .val (.int pn), .val (.int pa), .val (.int pb), .val (.int pc_), .val (.ref ob1), .val (.int (minF pa (minF pb pc_))), .unset, .unset] [])
  refine Runs.back (fun t_ k_ => XS.iload X8.here hx rfl (hb hby at_91) rfl k_) ?_
  show Runs _ _ _ _ T8 (mkF m 93 #[.val (.int p0), .val (.int p1), .val (.int p2), .val (.int p3), .val (.int pn), .val (.int pa), .val (.int pb), .val (.int pc_), .val (.ref ob1), .val (.int (minF pa (minF pb pc_))), .unset, .unset] [(.int pa)])
  refine Runs.back (fun t_ k_ => XS.iload X8.here hx rfl (hb hby at_93) rfl k_) ?_
  show Runs _ _ _ _ T8 (mkF m 95 #[.val (.int p0), .val (.int p1), .val (.int p2), .val (.int p3), .val (.int pn), .val (.int pa), .val (.int pb), .val (.int pc_), .val (.ref ob1), .val (.int (minF pa (minF pb pc_))), .unset, .unset] [(.int pb), (.int pa)])
  refine Runs.back (fun t_ k_ => XS.iload X8.here hx rfl (hb hby at_95) rfl k_) ?_
  show Runs _ _ _ _ T8 (mkF m 97 #[.val (.int p0), .val (.int p1), .val (.int p2), .val (.int p3), .val (.int pn), .val (.int pa), .val (.int pb), .val (.int pc_), .val (.ref ob1), .val (.int (minF pa (minF pb pc_))), .unset, .unset] [(.int pc_), (.int pb), (.int pa)])
  obtain ⟨_, _, ⟨T9, L9, k9, n9⟩, -, X9, ⟨Lc9, hQ9, l9, y9, z9⟩, st9⟩ := Jvm.LawKit.callS X8 hx (y := (⟨"java/lang/Math", "max", "(II)I"⟩ : MethodName)) hown (mvT hZ (hw _ (List.mem_of_getElem? (i := 34) rfl))) (mvT hZ (hw _ (List.mem_of_getElem? (i := 12) rfl))) (mvT hZ (hw _ (List.mem_of_getElem? (i := 13) rfl))) (mvT hZ (hw _ (List.mem_of_getElem? (i := 14) rfl))) (by decide) (backOf (W := 1) (rm3 l Z a0 hw [] pb pc_ T6.heap n0 (Z6)) hZ (hw _ (List.mem_of_getElem? (i := 14) rfl)) (hw _ (List.mem_of_getElem? (i := 13) rfl)) (by decide) (by decide)) (g := (mkF m 97 #[.val (.int p0), .val (.int p1), .val (.int p2), .val (.int p3), .val (.int pn), .val (.int pa), .val (.int pb), .val (.int pc_), .val (.ref ob1), .val (.int (minF pa (minF pb pc_))), .unset, .unset] [(.int pc_), (.int pb), (.int pa)])) rfl (by rw [hml]; rfl) (argsL := [(.int pb), (.int pc_)]) (rest := [(.int pa)]) (lenOf pd0_2 rfl) rfl (by show 2 * 0 + _ ≤ _; exact Nat.le_of_eq rfl) (hb hby at_97) (fun _ _ => ⟨rfl, eq8, (by decide : 6 + 0 ≤ _), (by decide : 16651 + 0 ≤ _)⟩)
  dsimp only [Pt.U, Pt.locs, Pt.cells, Pt.slots] at X9 l9 y9 z9 st9 hQ9
  obtain rfl : k9 = 6 := y9
  obtain rfl : n9 = 16651 := z9
  obtain ⟨rfl, N9q, eq9⟩ := hQ9
  have N9 : Fr n0 L9 := by rw [l9]; exact Fr.app N8 N9q
  clear l9
  refine Runs.back st9 ?_
  show Runs _ _ _ _ T9 (mkF m 100 #[.val (.int p0), .val (.int p1), .val (.int p2), .val (.int p3), .val (.int pn), .val (.int pa), .val (.int pb), .val (.int pc_), .val (.ref ob1), .val (.int (minF pa (minF pb pc_))), .unset, .unset] [(.int (maxF pb pc_)), (.int pa)])
  obtain ⟨_, _, ⟨T10, L10, k10, n10⟩, -, X10, ⟨Lc10, hQ10, l10, y10, z10⟩, st10⟩ := Jvm.LawKit.callS X9 hx (y := (⟨"java/lang/Math", "max", "(II)I"⟩ : MethodName)) hown (mvT hZ (hw _ (List.mem_of_getElem? (i := 34) rfl))) (mvT hZ (hw _ (List.mem_of_getElem? (i := 12) rfl))) (mvT hZ (hw _ (List.mem_of_getElem? (i := 13) rfl))) (mvT hZ (hw _ (List.mem_of_getElem? (i := 14) rfl))) (by decide) (backOf (W := 0) (rm3 l Z a0 hw [] pa (maxF pb pc_) T6.heap n0 (Z6)) hZ (hw _ (List.mem_of_getElem? (i := 14) rfl)) (hw _ (List.mem_of_getElem? (i := 13) rfl)) (by decide) (by decide)) (g := (mkF m 100 #[.val (.int p0), .val (.int p1), .val (.int p2), .val (.int p3), .val (.int pn), .val (.int pa), .val (.int pb), .val (.int pc_), .val (.ref ob1), .val (.int (minF pa (minF pb pc_))), .unset, .unset] [(.int (maxF pb pc_)), (.int pa)])) rfl (by rw [hml]; rfl) (argsL := [(.int pa), (.int (maxF pb pc_))]) (rest := []) (lenOf pd0_2 rfl) rfl (by show 2 * 0 + _ ≤ _; exact Nat.le_of_eq rfl) (hb hby at_100) (fun _ _ => ⟨rfl, eq9, (by decide : 6 + 0 ≤ _), (by decide : 16651 + 0 ≤ _)⟩)
  dsimp only [Pt.U, Pt.locs, Pt.cells, Pt.slots] at X10 l10 y10 z10 st10 hQ10
  obtain rfl : k10 = 6 := y10
  obtain rfl : n10 = 16651 := z10
  obtain ⟨rfl, N10q, eq10⟩ := hQ10
  have N10 : Fr n0 L10 := by rw [l10]; exact Fr.app N9 N10q
  clear l10
  refine Runs.back st10 ?_
  show Runs _ _ _ _ T10 (mkF m 103 #[.val (.int p0), .val (.int p1), .val (.int p2), .val (.int p3), .val (.int pn), .val (.int pa), .val (.int pb), .val (.int pc_), .val (.ref ob1), .val (.int (minF pa (minF pb pc_))), .unset, .unset] [(.int (maxF pa (maxF pb pc_)))])
  refine Runs.back (fun t_ k_ => XS.istore X10.here hx rfl (hb hby at_103) rfl (l' := #[.val (.int p0), .val (.int p1), .val (.int p2), .val (.int p3), .val (.int pn), .val (.int pa), .val (.int pb), .val (.int pc_), .val (.ref ob1), .val (.int (minF pa (minF pb pc_))), .val (.int (maxF pa (maxF pb pc_))), .unset]) rfl k_) ?_
  show Runs _ _ _ _ T10 (mkF m 105 #[.val (.int p0), .val (.int p1), .val (.int p2), .val (.int p3), .val (.int pn), .val (.int pa), .val (.int pb), .val (.int pc_), .val (.ref ob1), .val (.int (minF pa (minF pb pc_))), .val (.int (maxF pa (maxF pb pc_))), .unset] [])
  refine Runs.back (fun t_ k_ => XS.iload X10.here hx rfl (hb hby at_105) rfl k_) ?_
  show Runs _ _ _ _ T10 (mkF m 107 #[.val (.int p0), .val (.int p1), .val (.int p2), .val (.int p3), .val (.int pn), .val (.int pa), .val (.int pb), .val (.int pc_), .val (.ref ob1), .val (.int (minF pa (minF pb pc_))), .val (.int (maxF pa (maxF pb pc_))), .unset] [(.int pa)])
  refine Runs.back (fun t_ k_ => XS.iload X10.here hx rfl (hb hby at_107) rfl k_) ?_
  show Runs _ _ _ _ T10 (mkF m 109 #[.val (.int p0), .val (.int p1), .val (.int p2), .val (.int p3), .val (.int pn), .val (.int pa), .val (.int pb), .val (.int pc_), .val (.ref ob1), .val (.int (minF pa (minF pb pc_))), .val (.int (maxF pa (maxF pb pc_))), .unset] [(.int pb), (.int pa)])
  refine Runs.back (fun t_ k_ => XS.iadd X10.here hx rfl (hb hby at_109) rfl k_) ?_
  show Runs _ _ _ _ T10 (mkF m 110 #[.val (.int p0), .val (.int p1), .val (.int p2), .val (.int p3), .val (.int pn), .val (.int pa), .val (.int pb), .val (.int pc_), .val (.ref ob1), .val (.int (minF pa (minF pb pc_))), .val (.int (maxF pa (maxF pb pc_))), .unset] [(.int (pa + pb))])
  refine Runs.back (fun t_ k_ => XS.iload X10.here hx rfl (hb hby at_110) rfl k_) ?_
  show Runs _ _ _ _ T10 (mkF m 112 #[.val (.int p0), .val (.int p1), .val (.int p2), .val (.int p3), .val (.int pn), .val (.int pa), .val (.int pb), .val (.int pc_), .val (.ref ob1), .val (.int (minF pa (minF pb pc_))), .val (.int (maxF pa (maxF pb pc_))), .unset] [(.int pc_), (.int (pa + pb))])
  refine Runs.back (fun t_ k_ => XS.iadd X10.here hx rfl (hb hby at_112) rfl k_) ?_
  show Runs _ _ _ _ T10 (mkF m 113 #[.val (.int p0), .val (.int p1), .val (.int p2), .val (.int p3), .val (.int pn), .val (.int pa), .val (.int pb), .val (.int pc_), .val (.ref ob1), .val (.int (minF pa (minF pb pc_))), .val (.int (maxF pa (maxF pb pc_))), .unset] [(.int ((pa + pb) + pc_))])
  refine Runs.back (fun t_ k_ => XS.iload X10.here hx rfl (hb hby at_113) rfl k_) ?_
  show Runs _ _ _ _ T10 (mkF m 115 #[.val (.int p0), .val (.int p1), .val (.int p2), .val (.int p3), .val (.int pn), .val (.int pa), .val (.int pb), .val (.int pc_), .val (.ref ob1), .val (.int (minF pa (minF pb pc_))), .val (.int (maxF pa (maxF pb pc_))), .unset] [(.int (minF pa (minF pb pc_))), (.int ((pa + pb) + pc_))])
  refine Runs.back (fun t_ k_ => XS.isub X10.here hx rfl (hb hby at_115) rfl k_) ?_
  show Runs _ _ _ _ T10 (mkF m 116 #[.val (.int p0), .val (.int p1), .val (.int p2), .val (.int p3), .val (.int pn), .val (.int pa), .val (.int pb), .val (.int pc_), .val (.ref ob1), .val (.int (minF pa (minF pb pc_))), .val (.int (maxF pa (maxF pb pc_))), .unset] [(.int (((pa + pb) + pc_) - (minF pa (minF pb pc_))))])
  refine Runs.back (fun t_ k_ => XS.iload X10.here hx rfl (hb hby at_116) rfl k_) ?_
  show Runs _ _ _ _ T10 (mkF m 118 #[.val (.int p0), .val (.int p1), .val (.int p2), .val (.int p3), .val (.int pn), .val (.int pa), .val (.int pb), .val (.int pc_), .val (.ref ob1), .val (.int (minF pa (minF pb pc_))), .val (.int (maxF pa (maxF pb pc_))), .unset] [(.int (maxF pa (maxF pb pc_))), (.int (((pa + pb) + pc_) - (minF pa (minF pb pc_))))])
  refine Runs.back (fun t_ k_ => XS.isub X10.here hx rfl (hb hby at_118) rfl k_) ?_
  show Runs _ _ _ _ T10 (mkF m 119 #[.val (.int p0), .val (.int p1), .val (.int p2), .val (.int p3), .val (.int pn), .val (.int pa), .val (.int pb), .val (.int pc_), .val (.ref ob1), .val (.int (minF pa (minF pb pc_))), .val (.int (maxF pa (maxF pb pc_))), .unset] [(.int ((((pa + pb) + pc_) - (minF pa (minF pb pc_))) - (maxF pa (maxF pb pc_))))])
  refine Runs.back (fun t_ k_ => XS.istore X10.here hx rfl (hb hby at_119) rfl (l' := #[.val (.int p0), .val (.int p1), .val (.int p2), .val (.int p3), .val (.int pn), .val (.int pa), .val (.int pb), .val (.int pc_), .val (.ref ob1), .val (.int (minF pa (minF pb pc_))), .val (.int (maxF pa (maxF pb pc_))), .val (.int ((((pa + pb) + pc_) - (minF pa (minF pb pc_))) - (maxF pa (maxF pb pc_))))]) rfl k_) ?_
  show Runs _ _ _ _ T10 (mkF m 121 #[.val (.int p0), .val (.int p1), .val (.int p2), .val (.int p3), .val (.int pn), .val (.int pa), .val (.int pb), .val (.int pc_), .val (.ref ob1), .val (.int (minF pa (minF pb pc_))), .val (.int (maxF pa (maxF pb pc_))), .val (.int ((((pa + pb) + pc_) - (minF pa (minF pb pc_))) - (maxF pa (maxF pb pc_))))] [])
  have t1 : ((minF pa (minF pb pc_))).toInt = min pa.toInt (min pb.toInt pc_.toInt) := by rw [min_val, min_val]
  have t2 : ((maxF pa (maxF pb pc_))).toInt = max pa.toInt (max pb.toInt pc_.toInt) := by rw [max_valI, max_valI]
  have t3 : (pa + pb).toInt = pa.toInt + pb.toInt := add32 (by omega) (by omega)
  have t4 : ((pa + pb) + pc_).toInt = (pa + pb).toInt + pc_.toInt := add32 (by omega) (by omega)
  have t5 : (((pa + pb) + pc_) - (minF pa (minF pb pc_))).toInt = ((pa + pb) + pc_).toInt - ((minF pa (minF pb pc_))).toInt := sub32 (by omega) (by omega)
  have t6 : ((((pa + pb) + pc_) - (minF pa (minF pb pc_))) - (maxF pa (maxF pb pc_))).toInt = (((pa + pb) + pc_) - (minF pa (minF pb pc_))).toInt - ((maxF pa (maxF pb pc_))).toInt := sub32 (by omega) (by omega)
  obtain ⟨ml, hml_, lml, mml⟩ : ∃ m : Nat, ((minF pa (minF pb pc_))).toInt = (m : Int) ∧ m < nn ∧ m < 2147483648 := ⟨min va (min vb vc), by omega, by omega, by omega⟩
  obtain ⟨mh, hmh, lmh, mmh⟩ : ∃ m : Nat, ((maxF pa (maxF pb pc_))).toInt = (m : Int) ∧ m < nn ∧ m < 2147483648 := ⟨max va (max vb vc), by omega, by omega, by omega⟩
  obtain ⟨md, hmd, lmd, mmd⟩ : ∃ m : Nat, (((((pa + pb) + pc_) - (minF pa (minF pb pc_))) - (maxF pa (maxF pb pc_)))).toInt = (m : Int) ∧ m < nn ∧ m < 2147483648 := ⟨va + vb + vc - min va (min vb vc) - max va (max vb vc), by omega, by omega, by omega⟩
  have rel : (ml = min va (min vb vc)) ∧ (mh = max va (max vb vc)) ∧ (ml + md + mh = va + vb + vc) := by omega
  have rel2 : (ml = va ∨ ml = vb ∨ ml = vc) ∧ (mh = va ∨ mh = vb ∨ mh = vc) ∧ (md = va ∨ md = vb ∨ md = vc) ∧ ml ≤ md ∧ md ≤ mh ∧ (va = ml ∨ va = md ∨ va = mh) ∧ (vb = ml ∨ vb = md ∨ vb = mh) ∧ (vc = ml ∨ vc = md ∨ vc = mh) := by clear t1 t2 t3 t4 t5 t6; omega
  clear t3 t4 t5 t6 t1 t2 rel
  generalize exmid : ((((pa + pb) + pc_) - (minF pa (minF pb pc_))) - (maxF pa (maxF pb pc_))) = xmid at hmd ⊢
  generalize exlo : (minF pa (minF pb pc_)) = xlo at hml_ ⊢
  generalize exhi : (maxF pa (maxF pb pc_)) = xhi at hmh ⊢
  show Runs _ _ _ _ T10 (mkF m 121 #[.val (.int p0), .val (.int p1), .val (.int p2), .val (.int p3), .val (.int pn), .val (.int pa), .val (.int pb), .val (.int pc_), .val (.ref ob1), .val (.int xlo), .val (.int xhi), .val (.int xmid)] [])
  refine Runs.back (fun t_ k_ => XS.aload X10.here hx rfl (hb hby at_121) rfl rfl k_) ?_
  show Runs _ _ _ _ T10 (mkF m 123 #[.val (.int p0), .val (.int p1), .val (.int p2), .val (.int p3), .val (.int pn), .val (.int pa), .val (.int pb), .val (.int pc_), .val (.ref ob1), .val (.int xlo), .val (.int xhi), .val (.int xmid)] [(.ref ob1)])
  obtain ⟨cq11, kq11, q11a, q11b, q11c⟩ := isOf hZ eq10 HF6.1
  obtain ⟨_, _, ⟨T11, L11, k11, n11⟩, -, X11, ⟨Lc11, hQ11, l11, y11, z11⟩, st11⟩ := X10.virtualBack hx (y := (⟨"com/example/tradewheel/tradewheel/SmallestFirst", "isEmpty", "()Z"⟩ : MethodName)) (z := (⟨"com/example/tradewheel/tradewheel/SmallestFirst", "isEmpty", "()Z"⟩ : MethodName)) hown (mvT hZ (hw _ (List.mem_of_getElem? (i := 21) rfl))) (mvT hZ (hw _ (List.mem_of_getElem? (i := 22) rfl))) (notFace_of_selects (args := #[]) (mvT hZ (hw _ (List.mem_of_getElem? (i := 24) rfl)))) (mvT hZ (hw _ (List.mem_of_getElem? (i := 24) rfl))) (mvT hZ (hw _ (List.mem_of_getElem? (i := 23) rfl))) (by decide) (backOf (W := 0) (rm4 l Z a0 hw [] ob1 lv A (szN nn) D dI (wd [vc, vb, va]) T6.heap n0 (Z6) HF6 hdI hdv hD hs0) hZ (hw _ (List.mem_of_getElem? (i := 25) rfl)) (hw _ (List.mem_of_getElem? (i := 4) rfl)) (by decide) (by decide)) q11a q11c (g := (mkF m 123 #[.val (.int p0), .val (.int p1), .val (.int p2), .val (.int p3), .val (.int pn), .val (.int pa), .val (.int pb), .val (.int pc_), .val (.ref ob1), .val (.int xlo), .val (.int xhi), .val (.int xmid)] [(.ref ob1)])) rfl (by rw [hml]; rfl) (Steps.refl _) (argsL := []) (rest := []) (lenOf pd0_1 rfl) rfl (by show 2 * 0 + _ ≤ _; exact Nat.le_of_eq rfl) (hb hby at_123) (fun _ _ => ⟨rfl, eq10, (by decide : 6 + 0 ≤ _), (by decide : 16651 + 0 ≤ _)⟩)
  dsimp only [Pt.U, Pt.locs, Pt.cells, Pt.slots] at X11 l11 y11 z11 st11 hQ11
  obtain rfl : k11 = 6 := y11
  obtain rfl : n11 = 16651 := z11
  obtain ⟨rfl, N11q, eq11⟩ := hQ11
  have N11 : Fr n0 L11 := by rw [l11]; exact Fr.app N10 N11q
  clear l11
  refine Runs.trans st11 ?_
  show Runs _ _ _ _ T11 (mkF m 126 #[.val (.int p0), .val (.int p1), .val (.int p2), .val (.int p3), .val (.int pn), .val (.int pa), .val (.int pb), .val (.int pc_), .val (.ref ob1), .val (.int xlo), .val (.int xhi), .val (.int xmid)] [(.int (emF (wd [vc, vb, va] (D - 1) 0)))])
  refine Runs.back (fun t_ k_ => XS.ifYes X11.here hx rfl (pc0 := 126) (pc' := 131) rfl (hb hby at_126) rfl ((if0 _ _).trans (teq (show (emF (wd [vc, vb, va] (D - 1) 0)) = (0 : Int32) from (em0 hDP lml (mem3.mpr (by omega))))).1) (by decide) (by decide) k_) ?_
  show Runs _ _ _ _ T11 (mkF m 131 #[.val (.int p0), .val (.int p1), .val (.int p2), .val (.int p3), .val (.int pn), .val (.int pa), .val (.int pb), .val (.int pc_), .val (.ref ob1), .val (.int xlo), .val (.int xhi), .val (.int xmid)] [])
  refine Runs.back (fun t_ k_ => XS.aload X11.here hx rfl (hb hby at_131) rfl rfl k_) ?_
  show Runs _ _ _ _ T11 (mkF m 133 #[.val (.int p0), .val (.int p1), .val (.int p2), .val (.int p3), .val (.int pn), .val (.int pa), .val (.int pb), .val (.int pc_), .val (.ref ob1), .val (.int xlo), .val (.int xhi), .val (.int xmid)] [(.ref ob1)])
  obtain ⟨cq12, kq12, q12a, q12b, q12c⟩ := isOf hZ eq11 HF6.1
  obtain ⟨_, _, ⟨T12, L12, k12, n12⟩, -, X12, ⟨Lc12, hQ12, l12, y12, z12⟩, st12⟩ := X11.virtualBack hx (y := (⟨"com/example/tradewheel/tradewheel/SmallestFirst", "removeSmallest", "()I"⟩ : MethodName)) (z := (⟨"com/example/tradewheel/tradewheel/SmallestFirst", "removeSmallest", "()I"⟩ : MethodName)) hown (mvT hZ (hw _ (List.mem_of_getElem? (i := 35) rfl))) (mvT hZ (hw _ (List.mem_of_getElem? (i := 36) rfl))) (notFace_of_selects (args := #[]) (mvT hZ (hw _ (List.mem_of_getElem? (i := 38) rfl)))) (mvT hZ (hw _ (List.mem_of_getElem? (i := 38) rfl))) (mvT hZ (hw _ (List.mem_of_getElem? (i := 37) rfl))) (by decide) (backOf (W := 0) (rm7 l Z a0 hw [] ob1 lv A (szN nn) D dI [vc, vb, va] ([vc, vb, va].filter (fun x => decide (x ≠ ml))) ml T6.heap n0 (Z6) HF6 hdI hdv hD (mem3.mpr (by omega)) (fun u hu => by have z := mem3.mp hu; omega) (fun v => memF) mml (top1 hDP lml) (fun i _ => szN_in lml)) hZ (hw _ (List.mem_of_getElem? (i := 39) rfl)) (hw _ (List.mem_of_getElem? (i := 4) rfl)) (by decide) (by decide)) q12a q12c (g := (mkF m 133 #[.val (.int p0), .val (.int p1), .val (.int p2), .val (.int p3), .val (.int pn), .val (.int pa), .val (.int pb), .val (.int pc_), .val (.ref ob1), .val (.int xlo), .val (.int xhi), .val (.int xmid)] [(.ref ob1)])) rfl (by rw [hml]; rfl) (Steps.refl _) (argsL := []) (rest := []) (lenOf pd0_3 rfl) rfl (by show 2 * 0 + _ ≤ _; exact Nat.le_of_eq rfl) (hb hby at_133) (fun _ _ => ⟨rfl, eq11, (by decide : 6 + 0 ≤ _), (by decide : 16651 + 0 ≤ _)⟩)
  dsimp only [Pt.U, Pt.locs, Pt.cells, Pt.slots] at X12 l12 y12 z12 st12 hQ12
  obtain rfl : k12 = 6 := y12
  obtain rfl : n12 = 16651 := z12
  obtain ⟨mI12, rfl, N12q, hmI12, HF12⟩ := hQ12
  have N12 : Fr n0 L12 := by rw [l12]; exact Fr.app N11 N12q
  clear l12
  have Z12 : n0 ≤ T12.heap.size := Nat.le_trans g_ob1 (Nat.le_of_lt HF12.1.lt)
  refine Runs.trans st12 ?_
  show Runs _ _ _ _ T12 (mkF m 136 #[.val (.int p0), .val (.int p1), .val (.int p2), .val (.int p3), .val (.int pn), .val (.int pa), .val (.int pb), .val (.int pc_), .val (.ref ob1), .val (.int xlo), .val (.int xhi), .val (.int xmid)] [(.int mI12)])
  refine Runs.back (fun t_ k_ => XS.iload X12.here hx rfl (hb hby at_136) rfl k_) ?_
  show Runs _ _ _ _ T12 (mkF m 138 #[.val (.int p0), .val (.int p1), .val (.int p2), .val (.int p3), .val (.int pn), .val (.int pa), .val (.int pb), .val (.int pc_), .val (.ref ob1), .val (.int xlo), .val (.int xhi), .val (.int xmid)] [(.int xlo), (.int mI12)])
  refine Runs.back (fun t_ k_ => XS.icmpYes X12.here hx rfl (pc0 := 138) (pc' := 143) rfl (hb hby at_138) rfl (teq (show mI12 = xlo from (eqi.mpr (by rw [hmI12, hml_])))).1 (by decide) (by decide) k_) ?_
  show Runs _ _ _ _ T12 (mkF m 143 #[.val (.int p0), .val (.int p1), .val (.int p2), .val (.int p3), .val (.int pn), .val (.int pa), .val (.int pb), .val (.int pc_), .val (.ref ob1), .val (.int xlo), .val (.int xhi), .val (.int xmid)] [])
  refine Runs.back (fun t_ k_ => XS.iload X12.here hx rfl (hb hby at_143) rfl k_) ?_
  show Runs _ _ _ _ T12 (mkF m 145 #[.val (.int p0), .val (.int p1), .val (.int p2), .val (.int p3), .val (.int pn), .val (.int pa), .val (.int pb), .val (.int pc_), .val (.ref ob1), .val (.int xlo), .val (.int xhi), .val (.int xmid)] [(.int xmid)])
  refine Runs.back (fun t_ k_ => XS.iload X12.here hx rfl (hb hby at_145) rfl k_) ?_
  show Runs _ _ _ _ T12 (mkF m 147 #[.val (.int p0), .val (.int p1), .val (.int p2), .val (.int p3), .val (.int pn), .val (.int pa), .val (.int pb), .val (.int pc_), .val (.ref ob1), .val (.int xlo), .val (.int xhi), .val (.int xmid)] [(.int xlo), (.int xmid)])
  by_cases c147_13 : xmid = xlo
  · refine Runs.back (fun t_ k_ => XS.icmpYes X12.here hx rfl (pc0 := 147) (pc' := 172) rfl (hb hby at_147) rfl (teq c147_13).1 (by decide) (by decide) k_) ?_
    show Runs _ _ _ _ T12 (mkF m 172 #[.val (.int p0), .val (.int p1), .val (.int p2), .val (.int p3), .val (.int pn), .val (.int pa), .val (.int pb), .val (.int pc_), .val (.ref ob1), .val (.int xlo), .val (.int xhi), .val (.int xmid)] [])
    have i147 := c147_13
    rw [eqi, hmd, hml_] at i147
    refine Runs.back (fun t_ k_ => XS.iload X12.here hx rfl (hb hby at_172) rfl k_) ?_
    show Runs _ _ _ _ T12 (mkF m 174 #[.val (.int p0), .val (.int p1), .val (.int p2), .val (.int p3), .val (.int pn), .val (.int pa), .val (.int pb), .val (.int pc_), .val (.ref ob1), .val (.int xlo), .val (.int xhi), .val (.int xmid)] [(.int xhi)])
    refine Runs.back (fun t_ k_ => XS.iload X12.here hx rfl (hb hby at_174) rfl k_) ?_
    show Runs _ _ _ _ T12 (mkF m 176 #[.val (.int p0), .val (.int p1), .val (.int p2), .val (.int p3), .val (.int pn), .val (.int pa), .val (.int pb), .val (.int pc_), .val (.ref ob1), .val (.int xlo), .val (.int xhi), .val (.int xmid)] [(.int xmid), (.int xhi)])
    by_cases c176_14 : xhi = xmid
    · refine Runs.back (fun t_ k_ => XS.icmpYes X12.here hx rfl (pc0 := 176) (pc' := 201) rfl (hb hby at_176) rfl (teq c176_14).1 (by decide) (by decide) k_) ?_
      show Runs _ _ _ _ T12 (mkF m 201 #[.val (.int p0), .val (.int p1), .val (.int p2), .val (.int p3), .val (.int pn), .val (.int pa), .val (.int pb), .val (.int pc_), .val (.ref ob1), .val (.int xlo), .val (.int xhi), .val (.int xmid)] [])
      have i176 := c176_14
      rw [eqi, hmh, hmd] at i176
      refine Runs.back (fun t_ k_ => XS.aload X12.here hx rfl (hb hby at_201) rfl rfl k_) ?_
      show Runs _ _ _ _ T12 (mkF m 203 #[.val (.int p0), .val (.int p1), .val (.int p2), .val (.int p3), .val (.int pn), .val (.int pa), .val (.int pb), .val (.int pc_), .val (.ref ob1), .val (.int xlo), .val (.int xhi), .val (.int xmid)] [(.ref ob1)])
      obtain ⟨cq15, kq15, q15a, q15b, q15c⟩ := isOf hZ rfl HF12.1
      obtain ⟨_, _, ⟨T15, L15, k15, n15⟩, -, X15, ⟨Lc15, hQ15, l15, y15, z15⟩, st15⟩ := X12.virtualBack hx (y := (⟨"com/example/tradewheel/tradewheel/SmallestFirst", "isEmpty", "()Z"⟩ : MethodName)) (z := (⟨"com/example/tradewheel/tradewheel/SmallestFirst", "isEmpty", "()Z"⟩ : MethodName)) hown (mvT hZ (hw _ (List.mem_of_getElem? (i := 21) rfl))) (mvT hZ (hw _ (List.mem_of_getElem? (i := 22) rfl))) (notFace_of_selects (args := #[]) (mvT hZ (hw _ (List.mem_of_getElem? (i := 24) rfl)))) (mvT hZ (hw _ (List.mem_of_getElem? (i := 24) rfl))) (mvT hZ (hw _ (List.mem_of_getElem? (i := 23) rfl))) (by decide) (backOf (W := 0) (rm4 l Z a0 hw [] ob1 lv A (szN nn) D dI (wd ([vc, vb, va].filter (fun x => decide (x ≠ ml)))) T12.heap n0 (Z12) HF12 hdI hdv hD hs0) hZ (hw _ (List.mem_of_getElem? (i := 25) rfl)) (hw _ (List.mem_of_getElem? (i := 4) rfl)) (by decide) (by decide)) q15a q15c (g := (mkF m 203 #[.val (.int p0), .val (.int p1), .val (.int p2), .val (.int p3), .val (.int pn), .val (.int pa), .val (.int pb), .val (.int pc_), .val (.ref ob1), .val (.int xlo), .val (.int xhi), .val (.int xmid)] [(.ref ob1)])) rfl (by rw [hml]; rfl) (Steps.refl _) (argsL := []) (rest := []) (lenOf pd0_1 rfl) rfl (by show 2 * 0 + _ ≤ _; exact Nat.le_of_eq rfl) (hb hby at_203) (fun _ _ => ⟨rfl, rfl, (by decide : 6 + 0 ≤ _), (by decide : 16651 + 0 ≤ _)⟩)
      dsimp only [Pt.U, Pt.locs, Pt.cells, Pt.slots] at X15 l15 y15 z15 st15 hQ15
      obtain rfl : k15 = 6 := y15
      obtain rfl : n15 = 16651 := z15
      obtain ⟨rfl, N15q, eq15⟩ := hQ15
      have N15 : Fr n0 L15 := by rw [l15]; exact Fr.app N12 N15q
      clear l15
      refine Runs.trans st15 ?_
      show Runs _ _ _ _ T15 (mkF m 206 #[.val (.int p0), .val (.int p1), .val (.int p2), .val (.int p3), .val (.int pn), .val (.int pa), .val (.int pb), .val (.int pc_), .val (.ref ob1), .val (.int xlo), .val (.int xhi), .val (.int xmid)] [(.int (emF (wd ([vc, vb, va].filter (fun x => decide (x ≠ ml))) (D - 1) 0)))])
      rw [em1 (S := ([vc, vb, va].filter (fun x => decide (x ≠ ml)))) (D := D) (fun u hu => by obtain ⟨hu_, nhu_⟩ := memF.mp hu; have z := mem3.mp hu_; omega)]
      show Runs _ _ _ _ T15 (mkF m 206 #[.val (.int p0), .val (.int p1), .val (.int p2), .val (.int p3), .val (.int pn), .val (.int pa), .val (.int pb), .val (.int pc_), .val (.ref ob1), .val (.int xlo), .val (.int xhi), .val (.int xmid)] [(.int (1 : Int32))])
      obtain ⟨fs, hr, hrun, hended, hW, hsame⟩ := X15.leave (v := some (.int (1 : Int32))) (fun h => by rw [Bd.returns] at h; cases h)
      exact ⟨_, _, (retN X15 hx (t := .boolean) Bd.returns (by simp) (hb hby at_206) hr), hrun, hended, _, _, rfl, ⟨rfl, N15⟩, ⟨_, rfl⟩, hW, hsame.mono (by decide) (by decide)⟩
    · refine Runs.back (fun t_ k_ => XS.icmpNo X12.here hx rfl (hb hby at_176) rfl (feq c176_14).1 k_) ?_
      show Runs _ _ _ _ T12 (mkF m 179 #[.val (.int p0), .val (.int p1), .val (.int p2), .val (.int p3), .val (.int pn), .val (.int pa), .val (.int pb), .val (.int pc_), .val (.ref ob1), .val (.int xlo), .val (.int xhi), .val (.int xmid)] [])
      have i176 := c176_14
      rw [eqi, hmh, hmd] at i176
      refine Runs.back (fun t_ k_ => XS.aload X12.here hx rfl (hb hby at_179) rfl rfl k_) ?_
      show Runs _ _ _ _ T12 (mkF m 181 #[.val (.int p0), .val (.int p1), .val (.int p2), .val (.int p3), .val (.int pn), .val (.int pa), .val (.int pb), .val (.int pc_), .val (.ref ob1), .val (.int xlo), .val (.int xhi), .val (.int xmid)] [(.ref ob1)])
      obtain ⟨cq16, kq16, q16a, q16b, q16c⟩ := isOf hZ rfl HF12.1
      obtain ⟨_, _, ⟨T16, L16, k16, n16⟩, -, X16, ⟨Lc16, hQ16, l16, y16, z16⟩, st16⟩ := X12.virtualBack hx (y := (⟨"com/example/tradewheel/tradewheel/SmallestFirst", "isEmpty", "()Z"⟩ : MethodName)) (z := (⟨"com/example/tradewheel/tradewheel/SmallestFirst", "isEmpty", "()Z"⟩ : MethodName)) hown (mvT hZ (hw _ (List.mem_of_getElem? (i := 21) rfl))) (mvT hZ (hw _ (List.mem_of_getElem? (i := 22) rfl))) (notFace_of_selects (args := #[]) (mvT hZ (hw _ (List.mem_of_getElem? (i := 24) rfl)))) (mvT hZ (hw _ (List.mem_of_getElem? (i := 24) rfl))) (mvT hZ (hw _ (List.mem_of_getElem? (i := 23) rfl))) (by decide) (backOf (W := 0) (rm4 l Z a0 hw [] ob1 lv A (szN nn) D dI (wd ([vc, vb, va].filter (fun x => decide (x ≠ ml)))) T12.heap n0 (Z12) HF12 hdI hdv hD hs0) hZ (hw _ (List.mem_of_getElem? (i := 25) rfl)) (hw _ (List.mem_of_getElem? (i := 4) rfl)) (by decide) (by decide)) q16a q16c (g := (mkF m 181 #[.val (.int p0), .val (.int p1), .val (.int p2), .val (.int p3), .val (.int pn), .val (.int pa), .val (.int pb), .val (.int pc_), .val (.ref ob1), .val (.int xlo), .val (.int xhi), .val (.int xmid)] [(.ref ob1)])) rfl (by rw [hml]; rfl) (Steps.refl _) (argsL := []) (rest := []) (lenOf pd0_1 rfl) rfl (by show 2 * 0 + _ ≤ _; exact Nat.le_of_eq rfl) (hb hby at_181) (fun _ _ => ⟨rfl, rfl, (by decide : 6 + 0 ≤ _), (by decide : 16651 + 0 ≤ _)⟩)
      dsimp only [Pt.U, Pt.locs, Pt.cells, Pt.slots] at X16 l16 y16 z16 st16 hQ16
      obtain rfl : k16 = 6 := y16
      obtain rfl : n16 = 16651 := z16
      obtain ⟨rfl, N16q, eq16⟩ := hQ16
      have N16 : Fr n0 L16 := by rw [l16]; exact Fr.app N12 N16q
      clear l16
      refine Runs.trans st16 ?_
      show Runs _ _ _ _ T16 (mkF m 184 #[.val (.int p0), .val (.int p1), .val (.int p2), .val (.int p3), .val (.int pn), .val (.int pa), .val (.int pb), .val (.int pc_), .val (.ref ob1), .val (.int xlo), .val (.int xhi), .val (.int xmid)] [(.int (emF (wd ([vc, vb, va].filter (fun x => decide (x ≠ ml))) (D - 1) 0)))])
      refine Runs.back (fun t_ k_ => XS.ifYes X16.here hx rfl (pc0 := 184) (pc' := 189) rfl (hb hby at_184) rfl ((if0 _ _).trans (teq (show (emF (wd ([vc, vb, va].filter (fun x => decide (x ≠ ml))) (D - 1) 0)) = (0 : Int32) from (em0 hDP lmh (memF.mpr ⟨(mem3.mpr (by omega)), by omega⟩)))).1) (by decide) (by decide) k_) ?_
      show Runs _ _ _ _ T16 (mkF m 189 #[.val (.int p0), .val (.int p1), .val (.int p2), .val (.int p3), .val (.int pn), .val (.int pa), .val (.int pb), .val (.int pc_), .val (.ref ob1), .val (.int xlo), .val (.int xhi), .val (.int xmid)] [])
      refine Runs.back (fun t_ k_ => XS.aload X16.here hx rfl (hb hby at_189) rfl rfl k_) ?_
      show Runs _ _ _ _ T16 (mkF m 191 #[.val (.int p0), .val (.int p1), .val (.int p2), .val (.int p3), .val (.int pn), .val (.int pa), .val (.int pb), .val (.int pc_), .val (.ref ob1), .val (.int xlo), .val (.int xhi), .val (.int xmid)] [(.ref ob1)])
      obtain ⟨cq17, kq17, q17a, q17b, q17c⟩ := isOf hZ eq16 HF12.1
      obtain ⟨_, _, ⟨T17, L17, k17, n17⟩, -, X17, ⟨Lc17, hQ17, l17, y17, z17⟩, st17⟩ := X16.virtualBack hx (y := (⟨"com/example/tradewheel/tradewheel/SmallestFirst", "removeSmallest", "()I"⟩ : MethodName)) (z := (⟨"com/example/tradewheel/tradewheel/SmallestFirst", "removeSmallest", "()I"⟩ : MethodName)) hown (mvT hZ (hw _ (List.mem_of_getElem? (i := 35) rfl))) (mvT hZ (hw _ (List.mem_of_getElem? (i := 36) rfl))) (notFace_of_selects (args := #[]) (mvT hZ (hw _ (List.mem_of_getElem? (i := 38) rfl)))) (mvT hZ (hw _ (List.mem_of_getElem? (i := 38) rfl))) (mvT hZ (hw _ (List.mem_of_getElem? (i := 37) rfl))) (by decide) (backOf (W := 0) (rm7 l Z a0 hw [] ob1 lv A (szN nn) D dI ([vc, vb, va].filter (fun x => decide (x ≠ ml))) (([vc, vb, va].filter (fun x => decide (x ≠ ml))).filter (fun x => decide (x ≠ mh))) mh T12.heap n0 (Z12) HF12 hdI hdv hD (memF.mpr ⟨(mem3.mpr (by omega)), by omega⟩) (fun u hu => by obtain ⟨hu_, nhu_⟩ := memF.mp hu; have z := mem3.mp hu_; omega) (fun v => memF) mmh (top1 hDP lmh) (fun i _ => szN_in lmh)) hZ (hw _ (List.mem_of_getElem? (i := 39) rfl)) (hw _ (List.mem_of_getElem? (i := 4) rfl)) (by decide) (by decide)) q17a q17c (g := (mkF m 191 #[.val (.int p0), .val (.int p1), .val (.int p2), .val (.int p3), .val (.int pn), .val (.int pa), .val (.int pb), .val (.int pc_), .val (.ref ob1), .val (.int xlo), .val (.int xhi), .val (.int xmid)] [(.ref ob1)])) rfl (by rw [hml]; rfl) (Steps.refl _) (argsL := []) (rest := []) (lenOf pd0_3 rfl) rfl (by show 2 * 0 + _ ≤ _; exact Nat.le_of_eq rfl) (hb hby at_191) (fun _ _ => ⟨rfl, eq16, (by decide : 6 + 0 ≤ _), (by decide : 16651 + 0 ≤ _)⟩)
      dsimp only [Pt.U, Pt.locs, Pt.cells, Pt.slots] at X17 l17 y17 z17 st17 hQ17
      obtain rfl : k17 = 6 := y17
      obtain rfl : n17 = 16651 := z17
      obtain ⟨mI17, rfl, N17q, hmI17, HF17⟩ := hQ17
      have N17 : Fr n0 L17 := by rw [l17]; exact Fr.app N16 N17q
      clear l17
      have Z17 : n0 ≤ T17.heap.size := Nat.le_trans g_ob1 (Nat.le_of_lt HF17.1.lt)
      refine Runs.trans st17 ?_
      show Runs _ _ _ _ T17 (mkF m 194 #[.val (.int p0), .val (.int p1), .val (.int p2), .val (.int p3), .val (.int pn), .val (.int pa), .val (.int pb), .val (.int pc_), .val (.ref ob1), .val (.int xlo), .val (.int xhi), .val (.int xmid)] [(.int mI17)])
      refine Runs.back (fun t_ k_ => XS.iload X17.here hx rfl (hb hby at_194) rfl k_) ?_
      show Runs _ _ _ _ T17 (mkF m 196 #[.val (.int p0), .val (.int p1), .val (.int p2), .val (.int p3), .val (.int pn), .val (.int pa), .val (.int pb), .val (.int pc_), .val (.ref ob1), .val (.int xlo), .val (.int xhi), .val (.int xmid)] [(.int xhi), (.int mI17)])
      refine Runs.back (fun t_ k_ => XS.icmpYes X17.here hx rfl (pc0 := 196) (pc' := 201) rfl (hb hby at_196) rfl (teq (show mI17 = xhi from (eqi.mpr (by rw [hmI17, hmh])))).1 (by decide) (by decide) k_) ?_
      show Runs _ _ _ _ T17 (mkF m 201 #[.val (.int p0), .val (.int p1), .val (.int p2), .val (.int p3), .val (.int pn), .val (.int pa), .val (.int pb), .val (.int pc_), .val (.ref ob1), .val (.int xlo), .val (.int xhi), .val (.int xmid)] [])
      refine Runs.back (fun t_ k_ => XS.aload X17.here hx rfl (hb hby at_201) rfl rfl k_) ?_
      show Runs _ _ _ _ T17 (mkF m 203 #[.val (.int p0), .val (.int p1), .val (.int p2), .val (.int p3), .val (.int pn), .val (.int pa), .val (.int pb), .val (.int pc_), .val (.ref ob1), .val (.int xlo), .val (.int xhi), .val (.int xmid)] [(.ref ob1)])
      obtain ⟨cq18, kq18, q18a, q18b, q18c⟩ := isOf hZ rfl HF17.1
      obtain ⟨_, _, ⟨T18, L18, k18, n18⟩, -, X18, ⟨Lc18, hQ18, l18, y18, z18⟩, st18⟩ := X17.virtualBack hx (y := (⟨"com/example/tradewheel/tradewheel/SmallestFirst", "isEmpty", "()Z"⟩ : MethodName)) (z := (⟨"com/example/tradewheel/tradewheel/SmallestFirst", "isEmpty", "()Z"⟩ : MethodName)) hown (mvT hZ (hw _ (List.mem_of_getElem? (i := 21) rfl))) (mvT hZ (hw _ (List.mem_of_getElem? (i := 22) rfl))) (notFace_of_selects (args := #[]) (mvT hZ (hw _ (List.mem_of_getElem? (i := 24) rfl)))) (mvT hZ (hw _ (List.mem_of_getElem? (i := 24) rfl))) (mvT hZ (hw _ (List.mem_of_getElem? (i := 23) rfl))) (by decide) (backOf (W := 0) (rm4 l Z a0 hw [] ob1 lv A (szN nn) D dI (wd (([vc, vb, va].filter (fun x => decide (x ≠ ml))).filter (fun x => decide (x ≠ mh)))) T17.heap n0 (Z17) HF17 hdI hdv hD hs0) hZ (hw _ (List.mem_of_getElem? (i := 25) rfl)) (hw _ (List.mem_of_getElem? (i := 4) rfl)) (by decide) (by decide)) q18a q18c (g := (mkF m 203 #[.val (.int p0), .val (.int p1), .val (.int p2), .val (.int p3), .val (.int pn), .val (.int pa), .val (.int pb), .val (.int pc_), .val (.ref ob1), .val (.int xlo), .val (.int xhi), .val (.int xmid)] [(.ref ob1)])) rfl (by rw [hml]; rfl) (Steps.refl _) (argsL := []) (rest := []) (lenOf pd0_1 rfl) rfl (by show 2 * 0 + _ ≤ _; exact Nat.le_of_eq rfl) (hb hby at_203) (fun _ _ => ⟨rfl, rfl, (by decide : 6 + 0 ≤ _), (by decide : 16651 + 0 ≤ _)⟩)
      dsimp only [Pt.U, Pt.locs, Pt.cells, Pt.slots] at X18 l18 y18 z18 st18 hQ18
      obtain rfl : k18 = 6 := y18
      obtain rfl : n18 = 16651 := z18
      obtain ⟨rfl, N18q, eq18⟩ := hQ18
      have N18 : Fr n0 L18 := by rw [l18]; exact Fr.app N17 N18q
      clear l18
      refine Runs.trans st18 ?_
      show Runs _ _ _ _ T18 (mkF m 206 #[.val (.int p0), .val (.int p1), .val (.int p2), .val (.int p3), .val (.int pn), .val (.int pa), .val (.int pb), .val (.int pc_), .val (.ref ob1), .val (.int xlo), .val (.int xhi), .val (.int xmid)] [(.int (emF (wd (([vc, vb, va].filter (fun x => decide (x ≠ ml))).filter (fun x => decide (x ≠ mh))) (D - 1) 0)))])
      rw [em1 (S := (([vc, vb, va].filter (fun x => decide (x ≠ ml))).filter (fun x => decide (x ≠ mh)))) (D := D) (fun u hu => by obtain ⟨hu_, nhu_⟩ := memF.mp hu; obtain ⟨hu__, nhu__⟩ := memF.mp hu_; have z := mem3.mp hu__; omega)]
      show Runs _ _ _ _ T18 (mkF m 206 #[.val (.int p0), .val (.int p1), .val (.int p2), .val (.int p3), .val (.int pn), .val (.int pa), .val (.int pb), .val (.int pc_), .val (.ref ob1), .val (.int xlo), .val (.int xhi), .val (.int xmid)] [(.int (1 : Int32))])
      obtain ⟨fs, hr, hrun, hended, hW, hsame⟩ := X18.leave (v := some (.int (1 : Int32))) (fun h => by rw [Bd.returns] at h; cases h)
      exact ⟨_, _, (retN X18 hx (t := .boolean) Bd.returns (by simp) (hb hby at_206) hr), hrun, hended, _, _, rfl, ⟨rfl, N18⟩, ⟨_, rfl⟩, hW, hsame.mono (by decide) (by decide)⟩
  · refine Runs.back (fun t_ k_ => XS.icmpNo X12.here hx rfl (hb hby at_147) rfl (feq c147_13).1 k_) ?_
    show Runs _ _ _ _ T12 (mkF m 150 #[.val (.int p0), .val (.int p1), .val (.int p2), .val (.int p3), .val (.int pn), .val (.int pa), .val (.int pb), .val (.int pc_), .val (.ref ob1), .val (.int xlo), .val (.int xhi), .val (.int xmid)] [])
    have i147 := c147_13
    rw [eqi, hmd, hml_] at i147
    refine Runs.back (fun t_ k_ => XS.aload X12.here hx rfl (hb hby at_150) rfl rfl k_) ?_
    show Runs _ _ _ _ T12 (mkF m 152 #[.val (.int p0), .val (.int p1), .val (.int p2), .val (.int p3), .val (.int pn), .val (.int pa), .val (.int pb), .val (.int pc_), .val (.ref ob1), .val (.int xlo), .val (.int xhi), .val (.int xmid)] [(.ref ob1)])
    obtain ⟨cq19, kq19, q19a, q19b, q19c⟩ := isOf hZ rfl HF12.1
    obtain ⟨_, _, ⟨T19, L19, k19, n19⟩, -, X19, ⟨Lc19, hQ19, l19, y19, z19⟩, st19⟩ := X12.virtualBack hx (y := (⟨"com/example/tradewheel/tradewheel/SmallestFirst", "isEmpty", "()Z"⟩ : MethodName)) (z := (⟨"com/example/tradewheel/tradewheel/SmallestFirst", "isEmpty", "()Z"⟩ : MethodName)) hown (mvT hZ (hw _ (List.mem_of_getElem? (i := 21) rfl))) (mvT hZ (hw _ (List.mem_of_getElem? (i := 22) rfl))) (notFace_of_selects (args := #[]) (mvT hZ (hw _ (List.mem_of_getElem? (i := 24) rfl)))) (mvT hZ (hw _ (List.mem_of_getElem? (i := 24) rfl))) (mvT hZ (hw _ (List.mem_of_getElem? (i := 23) rfl))) (by decide) (backOf (W := 0) (rm4 l Z a0 hw [] ob1 lv A (szN nn) D dI (wd ([vc, vb, va].filter (fun x => decide (x ≠ ml)))) T12.heap n0 (Z12) HF12 hdI hdv hD hs0) hZ (hw _ (List.mem_of_getElem? (i := 25) rfl)) (hw _ (List.mem_of_getElem? (i := 4) rfl)) (by decide) (by decide)) q19a q19c (g := (mkF m 152 #[.val (.int p0), .val (.int p1), .val (.int p2), .val (.int p3), .val (.int pn), .val (.int pa), .val (.int pb), .val (.int pc_), .val (.ref ob1), .val (.int xlo), .val (.int xhi), .val (.int xmid)] [(.ref ob1)])) rfl (by rw [hml]; rfl) (Steps.refl _) (argsL := []) (rest := []) (lenOf pd0_1 rfl) rfl (by show 2 * 0 + _ ≤ _; exact Nat.le_of_eq rfl) (hb hby at_152) (fun _ _ => ⟨rfl, rfl, (by decide : 6 + 0 ≤ _), (by decide : 16651 + 0 ≤ _)⟩)
    dsimp only [Pt.U, Pt.locs, Pt.cells, Pt.slots] at X19 l19 y19 z19 st19 hQ19
    obtain rfl : k19 = 6 := y19
    obtain rfl : n19 = 16651 := z19
    obtain ⟨rfl, N19q, eq19⟩ := hQ19
    have N19 : Fr n0 L19 := by rw [l19]; exact Fr.app N12 N19q
    clear l19
    refine Runs.trans st19 ?_
    show Runs _ _ _ _ T19 (mkF m 155 #[.val (.int p0), .val (.int p1), .val (.int p2), .val (.int p3), .val (.int pn), .val (.int pa), .val (.int pb), .val (.int pc_), .val (.ref ob1), .val (.int xlo), .val (.int xhi), .val (.int xmid)] [(.int (emF (wd ([vc, vb, va].filter (fun x => decide (x ≠ ml))) (D - 1) 0)))])
    refine Runs.back (fun t_ k_ => XS.ifYes X19.here hx rfl (pc0 := 155) (pc' := 160) rfl (hb hby at_155) rfl ((if0 _ _).trans (teq (show (emF (wd ([vc, vb, va].filter (fun x => decide (x ≠ ml))) (D - 1) 0)) = (0 : Int32) from (em0 hDP lmd (memF.mpr ⟨(mem3.mpr (by omega)), by omega⟩)))).1) (by decide) (by decide) k_) ?_
    show Runs _ _ _ _ T19 (mkF m 160 #[.val (.int p0), .val (.int p1), .val (.int p2), .val (.int p3), .val (.int pn), .val (.int pa), .val (.int pb), .val (.int pc_), .val (.ref ob1), .val (.int xlo), .val (.int xhi), .val (.int xmid)] [])
    refine Runs.back (fun t_ k_ => XS.aload X19.here hx rfl (hb hby at_160) rfl rfl k_) ?_
    show Runs _ _ _ _ T19 (mkF m 162 #[.val (.int p0), .val (.int p1), .val (.int p2), .val (.int p3), .val (.int pn), .val (.int pa), .val (.int pb), .val (.int pc_), .val (.ref ob1), .val (.int xlo), .val (.int xhi), .val (.int xmid)] [(.ref ob1)])
    obtain ⟨cq20, kq20, q20a, q20b, q20c⟩ := isOf hZ eq19 HF12.1
    obtain ⟨_, _, ⟨T20, L20, k20, n20⟩, -, X20, ⟨Lc20, hQ20, l20, y20, z20⟩, st20⟩ := X19.virtualBack hx (y := (⟨"com/example/tradewheel/tradewheel/SmallestFirst", "removeSmallest", "()I"⟩ : MethodName)) (z := (⟨"com/example/tradewheel/tradewheel/SmallestFirst", "removeSmallest", "()I"⟩ : MethodName)) hown (mvT hZ (hw _ (List.mem_of_getElem? (i := 35) rfl))) (mvT hZ (hw _ (List.mem_of_getElem? (i := 36) rfl))) (notFace_of_selects (args := #[]) (mvT hZ (hw _ (List.mem_of_getElem? (i := 38) rfl)))) (mvT hZ (hw _ (List.mem_of_getElem? (i := 38) rfl))) (mvT hZ (hw _ (List.mem_of_getElem? (i := 37) rfl))) (by decide) (backOf (W := 0) (rm7 l Z a0 hw [] ob1 lv A (szN nn) D dI ([vc, vb, va].filter (fun x => decide (x ≠ ml))) (([vc, vb, va].filter (fun x => decide (x ≠ ml))).filter (fun x => decide (x ≠ md))) md T12.heap n0 (Z12) HF12 hdI hdv hD (memF.mpr ⟨(mem3.mpr (by omega)), by omega⟩) (fun u hu => by obtain ⟨hu_, nhu_⟩ := memF.mp hu; have z := mem3.mp hu_; omega) (fun v => memF) mmd (top1 hDP lmd) (fun i _ => szN_in lmd)) hZ (hw _ (List.mem_of_getElem? (i := 39) rfl)) (hw _ (List.mem_of_getElem? (i := 4) rfl)) (by decide) (by decide)) q20a q20c (g := (mkF m 162 #[.val (.int p0), .val (.int p1), .val (.int p2), .val (.int p3), .val (.int pn), .val (.int pa), .val (.int pb), .val (.int pc_), .val (.ref ob1), .val (.int xlo), .val (.int xhi), .val (.int xmid)] [(.ref ob1)])) rfl (by rw [hml]; rfl) (Steps.refl _) (argsL := []) (rest := []) (lenOf pd0_3 rfl) rfl (by show 2 * 0 + _ ≤ _; exact Nat.le_of_eq rfl) (hb hby at_162) (fun _ _ => ⟨rfl, eq19, (by decide : 6 + 0 ≤ _), (by decide : 16651 + 0 ≤ _)⟩)
    dsimp only [Pt.U, Pt.locs, Pt.cells, Pt.slots] at X20 l20 y20 z20 st20 hQ20
    obtain rfl : k20 = 6 := y20
    obtain rfl : n20 = 16651 := z20
    obtain ⟨mI20, rfl, N20q, hmI20, HF20⟩ := hQ20
    have N20 : Fr n0 L20 := by rw [l20]; exact Fr.app N19 N20q
    clear l20
    have Z20 : n0 ≤ T20.heap.size := Nat.le_trans g_ob1 (Nat.le_of_lt HF20.1.lt)
    refine Runs.trans st20 ?_
    show Runs _ _ _ _ T20 (mkF m 165 #[.val (.int p0), .val (.int p1), .val (.int p2), .val (.int p3), .val (.int pn), .val (.int pa), .val (.int pb), .val (.int pc_), .val (.ref ob1), .val (.int xlo), .val (.int xhi), .val (.int xmid)] [(.int mI20)])
    refine Runs.back (fun t_ k_ => XS.iload X20.here hx rfl (hb hby at_165) rfl k_) ?_
    show Runs _ _ _ _ T20 (mkF m 167 #[.val (.int p0), .val (.int p1), .val (.int p2), .val (.int p3), .val (.int pn), .val (.int pa), .val (.int pb), .val (.int pc_), .val (.ref ob1), .val (.int xlo), .val (.int xhi), .val (.int xmid)] [(.int xmid), (.int mI20)])
    refine Runs.back (fun t_ k_ => XS.icmpYes X20.here hx rfl (pc0 := 167) (pc' := 172) rfl (hb hby at_167) rfl (teq (show mI20 = xmid from (eqi.mpr (by rw [hmI20, hmd])))).1 (by decide) (by decide) k_) ?_
    show Runs _ _ _ _ T20 (mkF m 172 #[.val (.int p0), .val (.int p1), .val (.int p2), .val (.int p3), .val (.int pn), .val (.int pa), .val (.int pb), .val (.int pc_), .val (.ref ob1), .val (.int xlo), .val (.int xhi), .val (.int xmid)] [])
    refine Runs.back (fun t_ k_ => XS.iload X20.here hx rfl (hb hby at_172) rfl k_) ?_
    show Runs _ _ _ _ T20 (mkF m 174 #[.val (.int p0), .val (.int p1), .val (.int p2), .val (.int p3), .val (.int pn), .val (.int pa), .val (.int pb), .val (.int pc_), .val (.ref ob1), .val (.int xlo), .val (.int xhi), .val (.int xmid)] [(.int xhi)])
    refine Runs.back (fun t_ k_ => XS.iload X20.here hx rfl (hb hby at_174) rfl k_) ?_
    show Runs _ _ _ _ T20 (mkF m 176 #[.val (.int p0), .val (.int p1), .val (.int p2), .val (.int p3), .val (.int pn), .val (.int pa), .val (.int pb), .val (.int pc_), .val (.ref ob1), .val (.int xlo), .val (.int xhi), .val (.int xmid)] [(.int xmid), (.int xhi)])
    by_cases c176_21 : xhi = xmid
    · refine Runs.back (fun t_ k_ => XS.icmpYes X20.here hx rfl (pc0 := 176) (pc' := 201) rfl (hb hby at_176) rfl (teq c176_21).1 (by decide) (by decide) k_) ?_
      show Runs _ _ _ _ T20 (mkF m 201 #[.val (.int p0), .val (.int p1), .val (.int p2), .val (.int p3), .val (.int pn), .val (.int pa), .val (.int pb), .val (.int pc_), .val (.ref ob1), .val (.int xlo), .val (.int xhi), .val (.int xmid)] [])
      have i176 := c176_21
      rw [eqi, hmh, hmd] at i176
      refine Runs.back (fun t_ k_ => XS.aload X20.here hx rfl (hb hby at_201) rfl rfl k_) ?_
      show Runs _ _ _ _ T20 (mkF m 203 #[.val (.int p0), .val (.int p1), .val (.int p2), .val (.int p3), .val (.int pn), .val (.int pa), .val (.int pb), .val (.int pc_), .val (.ref ob1), .val (.int xlo), .val (.int xhi), .val (.int xmid)] [(.ref ob1)])
      obtain ⟨cq22, kq22, q22a, q22b, q22c⟩ := isOf hZ rfl HF20.1
      obtain ⟨_, _, ⟨T22, L22, k22, n22⟩, -, X22, ⟨Lc22, hQ22, l22, y22, z22⟩, st22⟩ := X20.virtualBack hx (y := (⟨"com/example/tradewheel/tradewheel/SmallestFirst", "isEmpty", "()Z"⟩ : MethodName)) (z := (⟨"com/example/tradewheel/tradewheel/SmallestFirst", "isEmpty", "()Z"⟩ : MethodName)) hown (mvT hZ (hw _ (List.mem_of_getElem? (i := 21) rfl))) (mvT hZ (hw _ (List.mem_of_getElem? (i := 22) rfl))) (notFace_of_selects (args := #[]) (mvT hZ (hw _ (List.mem_of_getElem? (i := 24) rfl)))) (mvT hZ (hw _ (List.mem_of_getElem? (i := 24) rfl))) (mvT hZ (hw _ (List.mem_of_getElem? (i := 23) rfl))) (by decide) (backOf (W := 0) (rm4 l Z a0 hw [] ob1 lv A (szN nn) D dI (wd (([vc, vb, va].filter (fun x => decide (x ≠ ml))).filter (fun x => decide (x ≠ md)))) T20.heap n0 (Z20) HF20 hdI hdv hD hs0) hZ (hw _ (List.mem_of_getElem? (i := 25) rfl)) (hw _ (List.mem_of_getElem? (i := 4) rfl)) (by decide) (by decide)) q22a q22c (g := (mkF m 203 #[.val (.int p0), .val (.int p1), .val (.int p2), .val (.int p3), .val (.int pn), .val (.int pa), .val (.int pb), .val (.int pc_), .val (.ref ob1), .val (.int xlo), .val (.int xhi), .val (.int xmid)] [(.ref ob1)])) rfl (by rw [hml]; rfl) (Steps.refl _) (argsL := []) (rest := []) (lenOf pd0_1 rfl) rfl (by show 2 * 0 + _ ≤ _; exact Nat.le_of_eq rfl) (hb hby at_203) (fun _ _ => ⟨rfl, rfl, (by decide : 6 + 0 ≤ _), (by decide : 16651 + 0 ≤ _)⟩)
      dsimp only [Pt.U, Pt.locs, Pt.cells, Pt.slots] at X22 l22 y22 z22 st22 hQ22
      obtain rfl : k22 = 6 := y22
      obtain rfl : n22 = 16651 := z22
      obtain ⟨rfl, N22q, eq22⟩ := hQ22
      have N22 : Fr n0 L22 := by rw [l22]; exact Fr.app N20 N22q
      clear l22
      refine Runs.trans st22 ?_
      show Runs _ _ _ _ T22 (mkF m 206 #[.val (.int p0), .val (.int p1), .val (.int p2), .val (.int p3), .val (.int pn), .val (.int pa), .val (.int pb), .val (.int pc_), .val (.ref ob1), .val (.int xlo), .val (.int xhi), .val (.int xmid)] [(.int (emF (wd (([vc, vb, va].filter (fun x => decide (x ≠ ml))).filter (fun x => decide (x ≠ md))) (D - 1) 0)))])
      rw [em1 (S := (([vc, vb, va].filter (fun x => decide (x ≠ ml))).filter (fun x => decide (x ≠ md)))) (D := D) (fun u hu => by obtain ⟨hu_, nhu_⟩ := memF.mp hu; obtain ⟨hu__, nhu__⟩ := memF.mp hu_; have z := mem3.mp hu__; omega)]
      show Runs _ _ _ _ T22 (mkF m 206 #[.val (.int p0), .val (.int p1), .val (.int p2), .val (.int p3), .val (.int pn), .val (.int pa), .val (.int pb), .val (.int pc_), .val (.ref ob1), .val (.int xlo), .val (.int xhi), .val (.int xmid)] [(.int (1 : Int32))])
      obtain ⟨fs, hr, hrun, hended, hW, hsame⟩ := X22.leave (v := some (.int (1 : Int32))) (fun h => by rw [Bd.returns] at h; cases h)
      exact ⟨_, _, (retN X22 hx (t := .boolean) Bd.returns (by simp) (hb hby at_206) hr), hrun, hended, _, _, rfl, ⟨rfl, N22⟩, ⟨_, rfl⟩, hW, hsame.mono (by decide) (by decide)⟩
    · refine Runs.back (fun t_ k_ => XS.icmpNo X20.here hx rfl (hb hby at_176) rfl (feq c176_21).1 k_) ?_
      show Runs _ _ _ _ T20 (mkF m 179 #[.val (.int p0), .val (.int p1), .val (.int p2), .val (.int p3), .val (.int pn), .val (.int pa), .val (.int pb), .val (.int pc_), .val (.ref ob1), .val (.int xlo), .val (.int xhi), .val (.int xmid)] [])
      have i176 := c176_21
      rw [eqi, hmh, hmd] at i176
      refine Runs.back (fun t_ k_ => XS.aload X20.here hx rfl (hb hby at_179) rfl rfl k_) ?_
      show Runs _ _ _ _ T20 (mkF m 181 #[.val (.int p0), .val (.int p1), .val (.int p2), .val (.int p3), .val (.int pn), .val (.int pa), .val (.int pb), .val (.int pc_), .val (.ref ob1), .val (.int xlo), .val (.int xhi), .val (.int xmid)] [(.ref ob1)])
      obtain ⟨cq23, kq23, q23a, q23b, q23c⟩ := isOf hZ rfl HF20.1
      obtain ⟨_, _, ⟨T23, L23, k23, n23⟩, -, X23, ⟨Lc23, hQ23, l23, y23, z23⟩, st23⟩ := X20.virtualBack hx (y := (⟨"com/example/tradewheel/tradewheel/SmallestFirst", "isEmpty", "()Z"⟩ : MethodName)) (z := (⟨"com/example/tradewheel/tradewheel/SmallestFirst", "isEmpty", "()Z"⟩ : MethodName)) hown (mvT hZ (hw _ (List.mem_of_getElem? (i := 21) rfl))) (mvT hZ (hw _ (List.mem_of_getElem? (i := 22) rfl))) (notFace_of_selects (args := #[]) (mvT hZ (hw _ (List.mem_of_getElem? (i := 24) rfl)))) (mvT hZ (hw _ (List.mem_of_getElem? (i := 24) rfl))) (mvT hZ (hw _ (List.mem_of_getElem? (i := 23) rfl))) (by decide) (backOf (W := 0) (rm4 l Z a0 hw [] ob1 lv A (szN nn) D dI (wd (([vc, vb, va].filter (fun x => decide (x ≠ ml))).filter (fun x => decide (x ≠ md)))) T20.heap n0 (Z20) HF20 hdI hdv hD hs0) hZ (hw _ (List.mem_of_getElem? (i := 25) rfl)) (hw _ (List.mem_of_getElem? (i := 4) rfl)) (by decide) (by decide)) q23a q23c (g := (mkF m 181 #[.val (.int p0), .val (.int p1), .val (.int p2), .val (.int p3), .val (.int pn), .val (.int pa), .val (.int pb), .val (.int pc_), .val (.ref ob1), .val (.int xlo), .val (.int xhi), .val (.int xmid)] [(.ref ob1)])) rfl (by rw [hml]; rfl) (Steps.refl _) (argsL := []) (rest := []) (lenOf pd0_1 rfl) rfl (by show 2 * 0 + _ ≤ _; exact Nat.le_of_eq rfl) (hb hby at_181) (fun _ _ => ⟨rfl, rfl, (by decide : 6 + 0 ≤ _), (by decide : 16651 + 0 ≤ _)⟩)
      dsimp only [Pt.U, Pt.locs, Pt.cells, Pt.slots] at X23 l23 y23 z23 st23 hQ23
      obtain rfl : k23 = 6 := y23
      obtain rfl : n23 = 16651 := z23
      obtain ⟨rfl, N23q, eq23⟩ := hQ23
      have N23 : Fr n0 L23 := by rw [l23]; exact Fr.app N20 N23q
      clear l23
      refine Runs.trans st23 ?_
      show Runs _ _ _ _ T23 (mkF m 184 #[.val (.int p0), .val (.int p1), .val (.int p2), .val (.int p3), .val (.int pn), .val (.int pa), .val (.int pb), .val (.int pc_), .val (.ref ob1), .val (.int xlo), .val (.int xhi), .val (.int xmid)] [(.int (emF (wd (([vc, vb, va].filter (fun x => decide (x ≠ ml))).filter (fun x => decide (x ≠ md))) (D - 1) 0)))])
      refine Runs.back (fun t_ k_ => XS.ifYes X23.here hx rfl (pc0 := 184) (pc' := 189) rfl (hb hby at_184) rfl ((if0 _ _).trans (teq (show (emF (wd (([vc, vb, va].filter (fun x => decide (x ≠ ml))).filter (fun x => decide (x ≠ md))) (D - 1) 0)) = (0 : Int32) from (em0 hDP lmh (memF.mpr ⟨(memF.mpr ⟨(mem3.mpr (by omega)), by omega⟩), by omega⟩)))).1) (by decide) (by decide) k_) ?_
      show Runs _ _ _ _ T23 (mkF m 189 #[.val (.int p0), .val (.int p1), .val (.int p2), .val (.int p3), .val (.int pn), .val (.int pa), .val (.int pb), .val (.int pc_), .val (.ref ob1), .val (.int xlo), .val (.int xhi), .val (.int xmid)] [])
      refine Runs.back (fun t_ k_ => XS.aload X23.here hx rfl (hb hby at_189) rfl rfl k_) ?_
      show Runs _ _ _ _ T23 (mkF m 191 #[.val (.int p0), .val (.int p1), .val (.int p2), .val (.int p3), .val (.int pn), .val (.int pa), .val (.int pb), .val (.int pc_), .val (.ref ob1), .val (.int xlo), .val (.int xhi), .val (.int xmid)] [(.ref ob1)])
      obtain ⟨cq24, kq24, q24a, q24b, q24c⟩ := isOf hZ eq23 HF20.1
      obtain ⟨_, _, ⟨T24, L24, k24, n24⟩, -, X24, ⟨Lc24, hQ24, l24, y24, z24⟩, st24⟩ := X23.virtualBack hx (y := (⟨"com/example/tradewheel/tradewheel/SmallestFirst", "removeSmallest", "()I"⟩ : MethodName)) (z := (⟨"com/example/tradewheel/tradewheel/SmallestFirst", "removeSmallest", "()I"⟩ : MethodName)) hown (mvT hZ (hw _ (List.mem_of_getElem? (i := 35) rfl))) (mvT hZ (hw _ (List.mem_of_getElem? (i := 36) rfl))) (notFace_of_selects (args := #[]) (mvT hZ (hw _ (List.mem_of_getElem? (i := 38) rfl)))) (mvT hZ (hw _ (List.mem_of_getElem? (i := 38) rfl))) (mvT hZ (hw _ (List.mem_of_getElem? (i := 37) rfl))) (by decide) (backOf (W := 0) (rm7 l Z a0 hw [] ob1 lv A (szN nn) D dI (([vc, vb, va].filter (fun x => decide (x ≠ ml))).filter (fun x => decide (x ≠ md))) ((([vc, vb, va].filter (fun x => decide (x ≠ ml))).filter (fun x => decide (x ≠ md))).filter (fun x => decide (x ≠ mh))) mh T20.heap n0 (Z20) HF20 hdI hdv hD (memF.mpr ⟨(memF.mpr ⟨(mem3.mpr (by omega)), by omega⟩), by omega⟩) (fun u hu => by obtain ⟨hu_, nhu_⟩ := memF.mp hu; obtain ⟨hu__, nhu__⟩ := memF.mp hu_; have z := mem3.mp hu__; omega) (fun v => memF) mmh (top1 hDP lmh) (fun i _ => szN_in lmh)) hZ (hw _ (List.mem_of_getElem? (i := 39) rfl)) (hw _ (List.mem_of_getElem? (i := 4) rfl)) (by decide) (by decide)) q24a q24c (g := (mkF m 191 #[.val (.int p0), .val (.int p1), .val (.int p2), .val (.int p3), .val (.int pn), .val (.int pa), .val (.int pb), .val (.int pc_), .val (.ref ob1), .val (.int xlo), .val (.int xhi), .val (.int xmid)] [(.ref ob1)])) rfl (by rw [hml]; rfl) (Steps.refl _) (argsL := []) (rest := []) (lenOf pd0_3 rfl) rfl (by show 2 * 0 + _ ≤ _; exact Nat.le_of_eq rfl) (hb hby at_191) (fun _ _ => ⟨rfl, eq23, (by decide : 6 + 0 ≤ _), (by decide : 16651 + 0 ≤ _)⟩)
      dsimp only [Pt.U, Pt.locs, Pt.cells, Pt.slots] at X24 l24 y24 z24 st24 hQ24
      obtain rfl : k24 = 6 := y24
      obtain rfl : n24 = 16651 := z24
      obtain ⟨mI24, rfl, N24q, hmI24, HF24⟩ := hQ24
      have N24 : Fr n0 L24 := by rw [l24]; exact Fr.app N23 N24q
      clear l24
      have Z24 : n0 ≤ T24.heap.size := Nat.le_trans g_ob1 (Nat.le_of_lt HF24.1.lt)
      refine Runs.trans st24 ?_
      show Runs _ _ _ _ T24 (mkF m 194 #[.val (.int p0), .val (.int p1), .val (.int p2), .val (.int p3), .val (.int pn), .val (.int pa), .val (.int pb), .val (.int pc_), .val (.ref ob1), .val (.int xlo), .val (.int xhi), .val (.int xmid)] [(.int mI24)])
      refine Runs.back (fun t_ k_ => XS.iload X24.here hx rfl (hb hby at_194) rfl k_) ?_
      show Runs _ _ _ _ T24 (mkF m 196 #[.val (.int p0), .val (.int p1), .val (.int p2), .val (.int p3), .val (.int pn), .val (.int pa), .val (.int pb), .val (.int pc_), .val (.ref ob1), .val (.int xlo), .val (.int xhi), .val (.int xmid)] [(.int xhi), (.int mI24)])
      refine Runs.back (fun t_ k_ => XS.icmpYes X24.here hx rfl (pc0 := 196) (pc' := 201) rfl (hb hby at_196) rfl (teq (show mI24 = xhi from (eqi.mpr (by rw [hmI24, hmh])))).1 (by decide) (by decide) k_) ?_
      show Runs _ _ _ _ T24 (mkF m 201 #[.val (.int p0), .val (.int p1), .val (.int p2), .val (.int p3), .val (.int pn), .val (.int pa), .val (.int pb), .val (.int pc_), .val (.ref ob1), .val (.int xlo), .val (.int xhi), .val (.int xmid)] [])
      refine Runs.back (fun t_ k_ => XS.aload X24.here hx rfl (hb hby at_201) rfl rfl k_) ?_
      show Runs _ _ _ _ T24 (mkF m 203 #[.val (.int p0), .val (.int p1), .val (.int p2), .val (.int p3), .val (.int pn), .val (.int pa), .val (.int pb), .val (.int pc_), .val (.ref ob1), .val (.int xlo), .val (.int xhi), .val (.int xmid)] [(.ref ob1)])
      obtain ⟨cq25, kq25, q25a, q25b, q25c⟩ := isOf hZ rfl HF24.1
      obtain ⟨_, _, ⟨T25, L25, k25, n25⟩, -, X25, ⟨Lc25, hQ25, l25, y25, z25⟩, st25⟩ := X24.virtualBack hx (y := (⟨"com/example/tradewheel/tradewheel/SmallestFirst", "isEmpty", "()Z"⟩ : MethodName)) (z := (⟨"com/example/tradewheel/tradewheel/SmallestFirst", "isEmpty", "()Z"⟩ : MethodName)) hown (mvT hZ (hw _ (List.mem_of_getElem? (i := 21) rfl))) (mvT hZ (hw _ (List.mem_of_getElem? (i := 22) rfl))) (notFace_of_selects (args := #[]) (mvT hZ (hw _ (List.mem_of_getElem? (i := 24) rfl)))) (mvT hZ (hw _ (List.mem_of_getElem? (i := 24) rfl))) (mvT hZ (hw _ (List.mem_of_getElem? (i := 23) rfl))) (by decide) (backOf (W := 0) (rm4 l Z a0 hw [] ob1 lv A (szN nn) D dI (wd ((([vc, vb, va].filter (fun x => decide (x ≠ ml))).filter (fun x => decide (x ≠ md))).filter (fun x => decide (x ≠ mh)))) T24.heap n0 (Z24) HF24 hdI hdv hD hs0) hZ (hw _ (List.mem_of_getElem? (i := 25) rfl)) (hw _ (List.mem_of_getElem? (i := 4) rfl)) (by decide) (by decide)) q25a q25c (g := (mkF m 203 #[.val (.int p0), .val (.int p1), .val (.int p2), .val (.int p3), .val (.int pn), .val (.int pa), .val (.int pb), .val (.int pc_), .val (.ref ob1), .val (.int xlo), .val (.int xhi), .val (.int xmid)] [(.ref ob1)])) rfl (by rw [hml]; rfl) (Steps.refl _) (argsL := []) (rest := []) (lenOf pd0_1 rfl) rfl (by show 2 * 0 + _ ≤ _; exact Nat.le_of_eq rfl) (hb hby at_203) (fun _ _ => ⟨rfl, rfl, (by decide : 6 + 0 ≤ _), (by decide : 16651 + 0 ≤ _)⟩)
      dsimp only [Pt.U, Pt.locs, Pt.cells, Pt.slots] at X25 l25 y25 z25 st25 hQ25
      obtain rfl : k25 = 6 := y25
      obtain rfl : n25 = 16651 := z25
      obtain ⟨rfl, N25q, eq25⟩ := hQ25
      have N25 : Fr n0 L25 := by rw [l25]; exact Fr.app N24 N25q
      clear l25
      refine Runs.trans st25 ?_
      show Runs _ _ _ _ T25 (mkF m 206 #[.val (.int p0), .val (.int p1), .val (.int p2), .val (.int p3), .val (.int pn), .val (.int pa), .val (.int pb), .val (.int pc_), .val (.ref ob1), .val (.int xlo), .val (.int xhi), .val (.int xmid)] [(.int (emF (wd ((([vc, vb, va].filter (fun x => decide (x ≠ ml))).filter (fun x => decide (x ≠ md))).filter (fun x => decide (x ≠ mh))) (D - 1) 0)))])
      rw [em1 (S := ((([vc, vb, va].filter (fun x => decide (x ≠ ml))).filter (fun x => decide (x ≠ md))).filter (fun x => decide (x ≠ mh)))) (D := D) (fun u hu => by obtain ⟨hu_, nhu_⟩ := memF.mp hu; obtain ⟨hu__, nhu__⟩ := memF.mp hu_; obtain ⟨hu___, nhu___⟩ := memF.mp hu__; have z := mem3.mp hu___; omega)]
      show Runs _ _ _ _ T25 (mkF m 206 #[.val (.int p0), .val (.int p1), .val (.int p2), .val (.int p3), .val (.int pn), .val (.int pa), .val (.int pb), .val (.int pc_), .val (.ref ob1), .val (.int xlo), .val (.int xhi), .val (.int xmid)] [(.int (1 : Int32))])
      obtain ⟨fs, hr, hrun, hended, hW, hsame⟩ := X25.leave (v := some (.int (1 : Int32))) (fun h => by rw [Bd.returns] at h; cases h)
      exact ⟨_, _, (retN X25 hx (t := .boolean) Bd.returns (by simp) (hb hby at_206) hr), hrun, hended, _, _, rfl, ⟨rfl, N25⟩, ⟨_, rfl⟩, hW, hsame.mono (by decide) (by decide)⟩
set_option maxRecDepth 65536 in
set_option maxHeartbeats 40000000 in
theorem comes_1 {Post : Tables → Env → Array Value → State → Outcome → State → Prop} (hpost : ∀ tb e args s v u, (limb_1_1.after args s (.returned v) u = true ∧ limb_1_2.after args s (.returned v) u = true ∧ True) → FrameEnd s (.returned v) u (Jvm.fieldLocs frame_1_writes args s ++ Jvm.arrayLocs frame_1_arrays args s ++ Jvm.staticLocs frame_1_statics s) 24 33408 → Post tb e args s (.returned v) u) :
    ArmFor flags0 classFile x code maxLocals ret World_1 tables_1 room_1 Calls_1 rest_1 Pre_1 Post := by
  intro l hfl _ _ p e ha hc hk s m args below hf hA hF happ hP
  obtain ⟨hcalls, hrest, hpre⟩ := hP
  obtain ⟨-, -, -, hnamed, -, -, -, hat⟩ := (Spec.applies_iff hf).mp happ
  obtain ⟨hg, hn⟩ := and_e (Cond.before_iff.mp (show (Jvm.Cond.and given_1 narrow_1).before args s = true from hpre))
  obtain ⟨g0, gr0⟩ := and_e hg
  obtain ⟨g1, gr1⟩ := and_e gr0
  obtain ⟨g2, gr2⟩ := and_e gr1
  obtain ⟨g3, gr3⟩ := and_e gr2
  obtain ⟨w0, w1, w2, w3, rfl⟩ : ∃ w0 w1 w2 w3 : Value, args = #[w0, w1, w2, w3] := by
    have hs : args.size = 4 := by simpa [Cond.value, given_1] using g0
    obtain ⟨L⟩ := args
    match L, hs with
    | [w0, w1, w2, w3], _ => exact ⟨w0, w1, w2, w3, rfl⟩
  have hw := fun d (hd : d ∈ tables_1) => atoms_spec (ws := Jvm.Cond.code x code maxLocals ret :: tables_1) hat d (List.mem_cons_of_mem _ hd)
  obtain ⟨i0, ei0⟩ := is_v g1
  obtain rfl : w0 = (.int i0) := Option.some.inj ei0
  obtain ⟨i1, ei1⟩ := is_v g2
  obtain rfl : w1 = (.int i1) := Option.some.inj ei1
  obtain ⟨i2, ei2⟩ := is_v g3
  obtain rfl : w2 = (.int i2) := Option.some.inj ei2
  obtain ⟨i3, ei3⟩ := is_v gr3
  obtain rfl : w3 = (.int i3) := Option.some.inj ei3
  obtain ⟨n, o, h1, h2, h3, _, L, rfl, ⟨rfl, N⟩, hq⟩ := rm0 l s _ hw tables_1 i0 i1 i2 i3 s.heap s.heap.size (Nat.le_refl _) p e ha hc hk s m _ below hf ((Spec.applies_iff_loose hf).mp happ).1 ⟨rfl, State.Warmed39.refl s, rfl⟩ trivial
  refine ⟨n, _, h1, h2, h3, hpost _ _ _ _ _ _ ⟨Cond.after_iff.mpr rfl, Cond.after_iff.mpr (eq_i res_at (Term.int_eval (1)) rfl), trivial⟩ ⟨hq.1, hq.2.1, (hq.2.2.sift fun y hy => Or.inr (N y hy)).mono (by decide) (by decide)⟩⟩
theorem main_1_1 : Claimed_1_1 := comes_1 fun _ _ _ _ _ _ h hF => ⟨h.1, hF⟩
theorem main_1_2 : Claimed_1_2 := comes_1 fun _ _ _ _ _ _ h hF => ⟨h.2.1, hF⟩
end Jvm.Pilot.@@N@@
namespace Jvm.Pilot.@@N@@
open Jvm Jvm.ClassFile Sem Op Lib Jvm.Free Jvm.Stand Jvm.Pilot.@@N@@.Jvm.D
/-! MADE BY PROGRAM (witnessworld.py) out of the Statement's table words and the real class files: 19 classes; the members and pool entries that the words name. The judged class is class 1, her method 1. -/
namespace start1
open Jvm.ClassFile
def u (s : String) : CpInfo := .utf8 (stringToUtf16 s)
/-- a pool by its gaps: so many unusable entries, then the entry; so many at the end -/
def gap : Nat → List CpInfo → List CpInfo
  | 0, r => r
  | n + 1, r => .unusable :: gap n r
def poolList (es : List (Nat × CpInfo)) (last : Nat) : List CpInfo := es.foldr (fun e r => gap e.1 (e.2 :: r)) (gap last [])
def pool (es : List (Nat × CpInfo)) (last : Nat) : Array CpInfo := ⟨poolList es last⟩
def fileOf (pool : Array CpInfo) (this : Nat) (attrs : Array Attribute := #[]) (ms : Array MethodInfo := #[]) (fl : Nat := 33) (sup : Nat := 0) (ifs : Array Nat := #[]) (fds : Array FieldInfo := #[]) : ClassFile where
  minorVersion := 0
  majorVersion := 65
  constantPool := pool
  accessFlags := fl
  thisClass := this
  superClass := sup
  interfaces := ifs
  fields := fds
  methods := ms
  attributes := attrs
def plain (name : String) (sup : Option ClassId) : Class where
  name := name
  kind := .ordinary
  loader := none
  accessFlags := 33
  super := sup
  interfaces := #[]
  cf := none
  fields := #[]
  methods := #[]
  instanceTypes := #[]
  staticTypes := #[]
  resolved := #[]
  callSites := []
  init := .initialized
  statics := none
  mirror := none

def pool0 : Array CpInfo := pool [(5, u "<init>"), (0, u "()V"), (1, .class_ 10), (1, u "java/lang/Object")] 113

def k0c0 : Code := { maxStack := 0, maxLocals := 1, code := object_method_1_code, exceptionTable := #[], attributes := #[] }
def k0m0 : Method := { name := "<init>", desc := "()V", sig := { parameters := [], returnType := none }, accessFlags := 1, code := some k0c0 }
/-- java/lang/Object -/
def k0 : Class := { plain "java/lang/Object" none with
  accessFlags := 33
  interfaces := #[]
  cf := some (fileOf pool0 8 #[] #[{ accessFlags := 1, nameIndex := 5, descriptorIndex := 6, attributes := #[] }] 33 0 #[] #[])
  fields := #[]
  methods := #[k0m0]
  instanceTypes := #[]
  staticTypes := #[]
  resolved := Array.replicate 124 none
  statics := none }

def pool1 : Array CpInfo := pool [(2, .class_ 4), (1, u "java/lang/Object"), (0, u "<init>"), (0, u "()V"), (0, .integer 1048575), (0, .integer 2147483647), (0, .class_ 10), (0, u "com/example/tradewheel/tradewheel/SmallestFirst"), (0, .methodref 9 12), (0, .nameAndType 5 13), (0, u "(I)V"), (0, .methodref 9 15), (0, .nameAndType 16 17), (0, u "isEmpty"), (0, u "()Z"), (0, .methodref 9 19), (0, .nameAndType 20 13), (0, u "add"), (0, .methodref 22 23), (0, .class_ 24), (0, .nameAndType 25 26), (0, u "java/lang/Math"), (0, u "min"), (0, u "(II)I"), (0, .methodref 22 28), (0, .nameAndType 29 26), (0, u "max"), (0, .methodref 9 31), (0, .nameAndType 32 33), (0, u "removeSmallest"), (0, u "()I"), (0, .class_ 35), (0, u "com/example/tradewheel/tradewheel/SmallestFirstAddPinLaw"), (2, u "law"), (0, u "(IIII)Z")] 3

def k1m0 : Method := { name := "<init>", desc := "()V", sig := { parameters := [], returnType := none }, accessFlags := 1, code := none }
def k1c1 : Code := { maxStack := 3, maxLocals := 12, code := code, exceptionTable := #[], attributes := #[] }
def k1m1 : Method := { name := "law", desc := "(IIII)Z", sig := { parameters := [.int, .int, .int, .int], returnType := some .boolean }, accessFlags := 9, code := some k1c1 }
/-- com/example/tradewheel/tradewheel/SmallestFirstAddPinLaw -/
def k1 : Class := { plain "com/example/tradewheel/tradewheel/SmallestFirstAddPinLaw" (some 0) with
  accessFlags := 49
  interfaces := #[]
  cf := some (fileOf pool1 34 #[] #[{ accessFlags := 1, nameIndex := 5, descriptorIndex := 6, attributes := #[] }, { accessFlags := 9, nameIndex := 38, descriptorIndex := 39, attributes := #[] }] 49 2 #[] #[])
  fields := #[]
  methods := #[k1m0, k1m1]
  instanceTypes := #[]
  staticTypes := #[]
  resolved := Array.replicate 43 none
  statics := none }

def pool2 : Array CpInfo := pool [(1, .methodref 2 3), (0, .class_ 4), (0, .nameAndType 5 6), (0, u "java/lang/Object"), (0, u "<init>"), (0, u "()V"), (0, .methodref 8 9), (0, .class_ 10), (0, .nameAndType 11 12), (0, u "java/lang/Math"), (0, u "max"), (0, u "(II)I"), (0, .class_ 14), (0, u "[J"), (0, .fieldref 16 17), (0, .class_ 18), (0, .nameAndType 19 20), (0, u "com/example/tradewheel/tradewheel/SmallestFirst"), (0, u "levels"), (0, u "[[J"), (0, .methodref 22 23), (0, .class_ 24), (0, .nameAndType 25 26), (0, u "java/lang/Long"), (0, u "numberOfTrailingZeros"), (0, u "(J)I"), (0, .long 18446744073709551615), (1, u "(I)V"), (3, u "add"), (1, u "isEmpty"), (0, u "()Z"), (0, u "removeSmallest"), (0, u "()I")] 2

def k2c0 : Code := { maxStack := 3, maxLocals := 5, code := prog_42_method_1_code, exceptionTable := #[], attributes := #[] }
def k2m0 : Method := { name := "<init>", desc := "(I)V", sig := { parameters := [.int], returnType := none }, accessFlags := 0, code := some k2c0 }
def k2c1 : Code := { maxStack := 7, maxLocals := 9, code := prog_42_method_2_code, exceptionTable := #[], attributes := #[] }
def k2m1 : Method := { name := "add", desc := "(I)V", sig := { parameters := [.int], returnType := none }, accessFlags := 0, code := some k2c1 }
def k2c2 : Code := { maxStack := 4, maxLocals := 1, code := prog_42_method_3_code, exceptionTable := #[], attributes := #[] }
def k2m2 : Method := { name := "isEmpty", desc := "()Z", sig := { parameters := [], returnType := some .boolean }, accessFlags := 0, code := some k2c2 }
def k2c3 : Code := { maxStack := 8, maxLocals := 8, code := prog_42_method_4_code, exceptionTable := #[], attributes := #[] }
def k2m3 : Method := { name := "removeSmallest", desc := "()I", sig := { parameters := [], returnType := some .int }, accessFlags := 0, code := some k2c3 }
/-- com/example/tradewheel/tradewheel/SmallestFirst -/
def k2 : Class := { plain "com/example/tradewheel/tradewheel/SmallestFirst" (some 0) with
  accessFlags := 48
  interfaces := #[]
  cf := some (fileOf pool2 16 #[] #[{ accessFlags := 0, nameIndex := 5, descriptorIndex := 29, attributes := #[] }, { accessFlags := 0, nameIndex := 33, descriptorIndex := 29, attributes := #[] }, { accessFlags := 0, nameIndex := 35, descriptorIndex := 36, attributes := #[] }, { accessFlags := 0, nameIndex := 37, descriptorIndex := 38, attributes := #[] }] 48 2 #[] #[{ accessFlags := 18, nameIndex := 19, descriptorIndex := 20, attributes := #[] }])
  fields := #[{ name := "levels", type := (.array (.array .long)), accessFlags := 18, slot := 0, constantValue := 0 }]
  methods := #[k2m0, k2m1, k2m2, k2m3]
  instanceTypes := #[(.array (.array .long))]
  staticTypes := #[]
  resolved := Array.replicate 41 none
  statics := none }

def pool3 : Array CpInfo := pool [(1, .class_ 2), (0, u "java/lang/Math"), (1, .class_ 6), (1, u "java/lang/Object"), (0, u "<init>"), (0, u "()V"), (89, .class_ 100), (1, u "java/lang/Math$RandomNumberGeneratorHolder"), (71, u "negativeZeroFloatBits"), (0, u "J"), (2, u "negativeZeroDoubleBits"), (21, u "max"), (2, u "min"), (43, u "$assertionsDisabled"), (0, u "Z"), (88, u "(II)I"), (2, u "twoToTheDoubleScaleDown"), (0, u "D"), (4, u "twoToTheDoubleScaleUp"), (9, u "E"), (3, u "PI"), (2, u "TAU"), (2, u "DEGREES_TO_RADIANS"), (0, u "RADIANS_TO_DEGREES")] 94

def k3m0 : Method := { name := "<init>", desc := "()V", sig := { parameters := [], returnType := none }, accessFlags := 2, code := none }
def k3c1 : Code := { maxStack := 2, maxLocals := 2, code := jdk_29_method_65_code, exceptionTable := #[], attributes := #[] }
def k3m1 : Method := { name := "max", desc := "(II)I", sig := { parameters := [.int, .int], returnType := some .int }, accessFlags := 9, code := some k3c1 }
def k3c2 : Code := { maxStack := 2, maxLocals := 2, code := jdk_29_method_69_code, exceptionTable := #[], attributes := #[] }
def k3m2 : Method := { name := "min", desc := "(II)I", sig := { parameters := [.int, .int], returnType := some .int }, accessFlags := 9, code := some k3c2 }
/-- java/lang/Math -/
def k3 : Class := { plain "java/lang/Math" (some 0) with
  accessFlags := 49
  interfaces := #[]
  cf := some (fileOf pool3 1 #[.nestMembers #[98]] #[{ accessFlags := 2, nameIndex := 7, descriptorIndex := 8, attributes := #[] }, { accessFlags := 9, nameIndex := 198, descriptorIndex := 335, attributes := #[] }, { accessFlags := 9, nameIndex := 201, descriptorIndex := 335, attributes := #[] }] 49 4 #[] #[{ accessFlags := 25, nameIndex := 354, descriptorIndex := 339, attributes := #[] }, { accessFlags := 25, nameIndex := 358, descriptorIndex := 339, attributes := #[] }, { accessFlags := 25, nameIndex := 361, descriptorIndex := 339, attributes := #[] }, { accessFlags := 26, nameIndex := 364, descriptorIndex := 339, attributes := #[] }, { accessFlags := 26, nameIndex := 365, descriptorIndex := 339, attributes := #[] }, { accessFlags := 26, nameIndex := 172, descriptorIndex := 173, attributes := #[] }, { accessFlags := 26, nameIndex := 176, descriptorIndex := 173, attributes := #[] }, { accessFlags := 8, nameIndex := 344, descriptorIndex := 339, attributes := #[] }, { accessFlags := 8, nameIndex := 338, descriptorIndex := 339, attributes := #[] }, { accessFlags := 4120, nameIndex := 245, descriptorIndex := 246, attributes := #[] }])
  fields := #[{ name := "E", type := .double, accessFlags := 25, slot := 0, constantValue := 0 }, { name := "PI", type := .double, accessFlags := 25, slot := 1, constantValue := 0 }, { name := "TAU", type := .double, accessFlags := 25, slot := 2, constantValue := 0 }, { name := "DEGREES_TO_RADIANS", type := .double, accessFlags := 26, slot := 3, constantValue := 0 }, { name := "RADIANS_TO_DEGREES", type := .double, accessFlags := 26, slot := 4, constantValue := 0 }, { name := "negativeZeroFloatBits", type := .long, accessFlags := 26, slot := 5, constantValue := 0 }, { name := "negativeZeroDoubleBits", type := .long, accessFlags := 26, slot := 6, constantValue := 0 }, { name := "twoToTheDoubleScaleUp", type := .double, accessFlags := 8, slot := 7, constantValue := 0 }, { name := "twoToTheDoubleScaleDown", type := .double, accessFlags := 8, slot := 8, constantValue := 0 }, { name := "$assertionsDisabled", type := .boolean, accessFlags := 4120, slot := 9, constantValue := 0 }]
  methods := #[k3m0, k3m1, k3m2]
  instanceTypes := #[]
  staticTypes := #[.double, .double, .double, .double, .double, .long, .long, .double, .double, .boolean]
  resolved := Array.replicate 460 none
  statics := none }

def pool4 : Array CpInfo := pool [(1, .class_ 2), (0, u "java/io/Serializable"), (0, .class_ 4), (0, u "java/lang/Object")] 2

/-- java/io/Serializable -/
def k4 : Class := { plain "java/io/Serializable" (some 0) with
  accessFlags := 1537
  interfaces := #[]
  cf := some (fileOf pool4 1 #[] #[] 1537 3 #[] #[])
  fields := #[]
  methods := #[]
  instanceTypes := #[]
  staticTypes := #[]
  resolved := Array.replicate 7 none
  statics := none }

def pool5 : Array CpInfo := pool [(2, .class_ 4), (1, u "java/lang/Object"), (0, u "<init>"), (0, u "()V"), (1, .class_ 10), (1, u "java/lang/Number"), (2, .class_ 14), (0, u "java/io/Serializable"), (0, u "serialVersionUID"), (0, u "J")] 20

def k5m0 : Method := { name := "<init>", desc := "()V", sig := { parameters := [], returnType := none }, accessFlags := 1, code := none }
/-- java/lang/Number -/
def k5 : Class := { plain "java/lang/Number" (some 0) with
  accessFlags := 1057
  interfaces := #[4]
  cf := some (fileOf pool5 8 #[] #[{ accessFlags := 1, nameIndex := 5, descriptorIndex := 6, attributes := #[] }] 1057 2 #[13] #[{ accessFlags := 26, nameIndex := 15, descriptorIndex := 16, attributes := #[] }])
  fields := #[{ name := "serialVersionUID", type := .long, accessFlags := 26, slot := 0, constantValue := 0 }]
  methods := #[k5m0]
  instanceTypes := #[]
  staticTypes := #[.long]
  resolved := Array.replicate 37 none
  statics := none }

def pool6 : Array CpInfo := pool [(1, .class_ 2), (0, u "java/lang/Comparable"), (0, .class_ 4), (0, u "java/lang/Object")] 7

/-- java/lang/Comparable -/
def k6 : Class := { plain "java/lang/Comparable" (some 0) with
  accessFlags := 1537
  interfaces := #[]
  cf := some (fileOf pool6 1 #[] #[] 1537 3 #[] #[])
  fields := #[]
  methods := #[]
  instanceTypes := #[]
  staticTypes := #[]
  resolved := Array.replicate 12 none
  statics := none }

def pool7 : Array CpInfo := pool [(1, .class_ 2), (0, u "java/lang/constant/Constable"), (0, .class_ 4), (0, u "java/lang/Object")] 6

/-- java/lang/constant/Constable -/
def k7 : Class := { plain "java/lang/constant/Constable" (some 0) with
  accessFlags := 1537
  interfaces := #[]
  cf := some (fileOf pool7 1 #[] #[] 1537 3 #[] #[])
  fields := #[]
  methods := #[]
  instanceTypes := #[]
  staticTypes := #[]
  resolved := Array.replicate 11 none
  statics := none }

def pool8 : Array CpInfo := pool [(1, .class_ 2), (0, u "java/lang/constant/ConstantDesc"), (0, .class_ 4), (0, u "java/lang/Object")] 32

/-- java/lang/constant/ConstantDesc -/
def k8 : Class := { plain "java/lang/constant/ConstantDesc" (some 0) with
  accessFlags := 1537
  interfaces := #[]
  cf := some (fileOf pool8 1 #[] #[] 1537 3 #[] #[])
  fields := #[]
  methods := #[]
  instanceTypes := #[]
  staticTypes := #[]
  resolved := Array.replicate 37 none
  statics := none }

def pool9 : Array CpInfo := pool [(1, .class_ 2), (0, u "java/lang/Long"), (15, .class_ 20), (1, u "java/lang/Integer"), (80, u "(J)I"), (133, .class_ 237), (1, u "java/lang/Long$LongCache"), (33, .class_ 272), (0, u "java/lang/Number"), (2, u "value"), (0, u "J"), (33, u "(I)I"), (0, .methodref 18 312), (0, .nameAndType 313 310), (0, u "numberOfTrailingZeros"), (47, u "TYPE"), (0, u "Ljava/lang/Class;"), (0, .class_ 364), (0, u "java/lang/Comparable"), (0, .class_ 366), (0, u "java/lang/constant/Constable"), (0, .class_ 368), (0, u "java/lang/constant/ConstantDesc"), (0, u "MIN_VALUE"), (1, u "MAX_VALUE"), (4, u "SIZE"), (0, u "I"), (1, u "BYTES"), (1, u "serialVersionUID")] 142

def k9c0 : Code := { maxStack := 4, maxLocals := 3, code := jdk_35_method_49_code, exceptionTable := #[], attributes := #[] }
def k9m0 : Method := { name := "numberOfTrailingZeros", desc := "(J)I", sig := { parameters := [.long], returnType := some .int }, accessFlags := 9, code := some k9c0 }
/-- java/lang/Long -/
def k9 : Class := { plain "java/lang/Long" (some 5) with
  accessFlags := 49
  interfaces := #[6, 7, 8]
  cf := some (fileOf pool9 1 #[.nestMembers #[235]] #[{ accessFlags := 9, nameIndex := 313, descriptorIndex := 101, attributes := #[] }] 49 271 #[363, 365, 367] #[{ accessFlags := 25, nameIndex := 369, descriptorIndex := 276, attributes := #[] }, { accessFlags := 25, nameIndex := 371, descriptorIndex := 276, attributes := #[] }, { accessFlags := 25, nameIndex := 361, descriptorIndex := 362, attributes := #[] }, { accessFlags := 18, nameIndex := 275, descriptorIndex := 276, attributes := #[] }, { accessFlags := 25, nameIndex := 376, descriptorIndex := 377, attributes := #[] }, { accessFlags := 25, nameIndex := 379, descriptorIndex := 377, attributes := #[] }, { accessFlags := 26, nameIndex := 381, descriptorIndex := 276, attributes := #[] }])
  fields := #[{ name := "MIN_VALUE", type := .long, accessFlags := 25, slot := 0, constantValue := 0 }, { name := "MAX_VALUE", type := .long, accessFlags := 25, slot := 1, constantValue := 0 }, { name := "TYPE", type := (.object "java/lang/Class"), accessFlags := 25, slot := 2, constantValue := 0 }, { name := "value", type := .long, accessFlags := 18, slot := 0, constantValue := 0 }, { name := "SIZE", type := .int, accessFlags := 25, slot := 3, constantValue := 0 }, { name := "BYTES", type := .int, accessFlags := 25, slot := 4, constantValue := 0 }, { name := "serialVersionUID", type := .long, accessFlags := 26, slot := 5, constantValue := 0 }]
  methods := #[k9m0]
  instanceTypes := #[.long]
  staticTypes := #[.long, .long, (.object "java/lang/Class"), .int, .int, .long]
  resolved := Array.replicate 524 none
  statics := none }

def pool10 : Array CpInfo := pool [(1, .class_ 2), (0, u "java/lang/Integer"), (16, u "digits"), (0, u "[C"), (33, u "(I)I"), (30, u "DigitOnes"), (0, u "[B"), (2, u "DigitTens"), (99, .class_ 190), (0, u "java/lang/Integer$IntegerCache"), (3, u "I"), (8, .class_ 204), (0, u "java/lang/Number"), (2, u "value"), (56, .integer 65536), (37, u "TYPE"), (0, u "Ljava/lang/Class;"), (0, .class_ 305), (0, u "java/lang/Comparable"), (0, .class_ 307), (0, u "java/lang/constant/Constable"), (0, .class_ 309), (0, u "java/lang/constant/ConstantDesc"), (0, u "MIN_VALUE"), (1, u "MAX_VALUE"), (3, u "SIZE"), (1, u "BYTES"), (1, u "serialVersionUID"), (0, u "J"), (84, u "numberOfTrailingZeros")] 46

def k10c0 : Code := { maxStack := 3, maxLocals := 2, code := jdk_33_method_48_code, exceptionTable := #[], attributes := #[] }
def k10m0 : Method := { name := "numberOfTrailingZeros", desc := "(I)I", sig := { parameters := [.int], returnType := some .int }, accessFlags := 9, code := some k10c0 }
/-- java/lang/Integer -/
def k10 : Class := { plain "java/lang/Integer" (some 5) with
  accessFlags := 49
  interfaces := #[6, 7, 8]
  cf := some (fileOf pool10 1 #[.nestMembers #[189]] #[{ accessFlags := 9, nameIndex := 406, descriptorIndex := 54, attributes := #[] }] 49 203 #[304, 306, 308] #[{ accessFlags := 25, nameIndex := 310, descriptorIndex := 194, attributes := #[] }, { accessFlags := 25, nameIndex := 312, descriptorIndex := 194, attributes := #[] }, { accessFlags := 25, nameIndex := 302, descriptorIndex := 303, attributes := #[] }, { accessFlags := 24, nameIndex := 19, descriptorIndex := 20, attributes := #[] }, { accessFlags := 24, nameIndex := 89, descriptorIndex := 86, attributes := #[] }, { accessFlags := 24, nameIndex := 85, descriptorIndex := 86, attributes := #[] }, { accessFlags := 18, nameIndex := 207, descriptorIndex := 194, attributes := #[] }, { accessFlags := 25, nameIndex := 316, descriptorIndex := 194, attributes := #[] }, { accessFlags := 25, nameIndex := 318, descriptorIndex := 194, attributes := #[] }, { accessFlags := 26, nameIndex := 320, descriptorIndex := 321, attributes := #[] }])
  fields := #[{ name := "MIN_VALUE", type := .int, accessFlags := 25, slot := 0, constantValue := 0 }, { name := "MAX_VALUE", type := .int, accessFlags := 25, slot := 1, constantValue := 0 }, { name := "TYPE", type := (.object "java/lang/Class"), accessFlags := 25, slot := 2, constantValue := 0 }, { name := "digits", type := (.array .char), accessFlags := 24, slot := 3, constantValue := 0 }, { name := "DigitTens", type := (.array .byte), accessFlags := 24, slot := 4, constantValue := 0 }, { name := "DigitOnes", type := (.array .byte), accessFlags := 24, slot := 5, constantValue := 0 }, { name := "value", type := .int, accessFlags := 18, slot := 0, constantValue := 0 }, { name := "SIZE", type := .int, accessFlags := 25, slot := 6, constantValue := 0 }, { name := "BYTES", type := .int, accessFlags := 25, slot := 7, constantValue := 0 }, { name := "serialVersionUID", type := .long, accessFlags := 26, slot := 8, constantValue := 0 }]
  methods := #[k10m0]
  instanceTypes := #[.int]
  staticTypes := #[.int, .int, (.object "java/lang/Class"), (.array .char), (.array .byte), (.array .byte), .int, .int, .long]
  resolved := Array.replicate 453 none
  statics := none }

def pool11 : Array CpInfo := pool [(1, u "java/lang/Cloneable"), (0, .class_ 1), (0, u "java/lang/Object"), (0, .class_ 3)] 3

/-- java/lang/Cloneable -/
def k11 : Class := { plain "java/lang/Cloneable" (some 0) with
  accessFlags := 1537
  interfaces := #[]
  cf := some (fileOf pool11 2 #[] #[] 1537 4 #[] #[])
  fields := #[]
  methods := #[]
  instanceTypes := #[]
  staticTypes := #[]
  resolved := Array.replicate 8 none
  statics := none }

/-- the primitive byte -/
def k12 : Class := { plain "byte" none with kind := .primitive 'B', accessFlags := 0x411 }
/-- [B -/
def k13 : Class := { plain "[B" (some 0) with kind := .array 12 .byte, interfaces := #[11, 4], accessFlags := 1041 }

/-- the primitive int -/
def k14 : Class := { plain "int" none with kind := .primitive 'I', accessFlags := 0x411 }
/-- [I -/
def k15 : Class := { plain "[I" (some 0) with kind := .array 14 .int, interfaces := #[11, 4], accessFlags := 1041 }

/-- the primitive long -/
def k16 : Class := { plain "long" none with kind := .primitive 'J', accessFlags := 0x411 }
/-- [J -/
def k17 : Class := { plain "[J" (some 0) with kind := .array 16 .long, interfaces := #[11, 4], accessFlags := 1041 }

/-- [L[J; -/
def k18 : Class := { plain "[[J" (some 0) with kind := .array 17 (.array .long), interfaces := #[11, 4], accessFlags := 1041 }

def heap : Heap := #[{ cls := 18, slots := #[.null], vm := .none }]
def classes : Array Class := #[k0, k1, k2, k3, k4, k5, k6, k7, k8, k9, k10, k11, k12, k13, k14, k15, k16, k17, k18]
def interned : List (Array UInt16 × Addr) := []
def slotsUsed : Nat := 1
def theMethod : MethodId := ⟨1, 1⟩
def args0 : Array Value := #[.int 5, .int 6, .int 7, .int 8]
def aboutOver (below : List Frame) : State where
  vm := { classes := classes, interned := interned.toArray }
  heap := heap
  slotsUsed := slotsUsed
  threads := #[{ frames := .invoking theMethod args0 :: below }]
def below0 : List Frame := [.native { method := ⟨0, 0⟩, args := #[] }]
def about1 : State := aboutOver below0
def p0 : Program := .bare "" "" ""
def e0 : Env := launch0.env 0 0 0
theorem w_frames : about1.frames = Frame.invoking theMethod args0 :: below0 := rfl
set_option maxRecDepth 65536 in
theorem w_args : argsFit about1.vm theMethod args0 = true := by decide +kernel
set_option maxRecDepth 65536 in
theorem w_heap : heapFits about1 = true := by decide +kernel
set_option maxRecDepth 65536 in
theorem w_runnable : about1.curStatus? = some .runnable := by decide +kernel
set_option maxRecDepth 65536 in
theorem w_alone : about1.alone = true := by decide +kernel
set_option maxRecDepth 65536 in
theorem w_named : about1.methodNamed? x = some theMethod := by decide +kernel
set_option maxRecDepth 65536 in
theorem w_hears : about1.hears theMethod below0 = true := by decide +kernel
set_option maxRecDepth 65536 in
theorem w_ripe : about1.ripe theMethod args0 below0 = true := by decide +kernel
theorem w_running : about1.status = .running := rfl
set_option maxRecDepth 65536 in
theorem w_room : about1.hasRoom e0.platform room_1 = true :=
  launch0.hasRoom_least _ room_1 (by decide +kernel) (by decide +kernel) (by decide +kernel) (by decide +kernel) (by decide +kernel) (by decide +kernel)
theorem allAtoms_all (ts : List Jvm.Cond) (a : Array Jvm.Value) (st : Jvm.State) : (allAtoms ts).before a st = ts.all (fun c => c.before a st) := by
  induction ts with
  | nil => rfl
  | cons c t ih =>
    show (Jvm.Cond.and c (allAtoms t)).before a st = _
    rw [Jvm.Cond.before_and, ih, List.all_cons]
def words1 : List Jvm.Cond := Jvm.Cond.code x code maxLocals ret :: tables_1
/-- a 'code' word, met by the world's own term for the bytes: nothing is compared byte by byte -/
theorem code_word {y : MethodName} {bytes : ByteArray} {mx : Nat} {rt : Option FieldType} {a : Array Value} {s : State} {m : MethodId} {meth : Method} {c : Code} (h1 : s.methodNamed? y = some m) (h2 : s.vm.method? m = some meth) (h3 : meth.code = some c) (h4 : c.code = bytes)
    (h5 : (c.maxLocals == mx && c.exceptionTable.isEmpty && decide (c.maxStack ≤ mostOperands) && decide (meth.sig.returnType = rt) && !meth.locks && decide (parseMethodDescriptor y.desc = some meth.sig)) = true) : (Jvm.Cond.code y bytes mx rt).before a s = true := by
  simp only [Bool.and_eq_true, beq_iff_eq, Bool.not_eq_true', decide_eq_true_eq] at h5
  obtain ⟨⟨⟨⟨⟨g1, g2⟩, g3⟩, g4⟩, g5⟩, g6⟩ := h5
  simp [Cond.before, Cond.holds, Cond.value, h1, h2, h3, h4, g1, g2, g3, g4, g5, g6]
def isCode : Jvm.Cond → Bool
  | .code _ _ _ _ => true
  | _ => false
theorem all_split {L : List Jvm.Cond} {P : Jvm.Cond → Bool} (h1 : L.all (fun c => isCode c || P c) = true) (h2 : ∀ c ∈ L.filter isCode, P c = true) : L.all P = true := by
  refine List.all_eq_true.mpr fun c hc => ?_
  have h := List.all_eq_true.mp h1 c hc
  rcases Bool.eq_false_or_eq_true (isCode c) with hi | hi
  · exact h2 c (List.mem_filter.mpr ⟨hc, hi⟩)
  · simpa [hi] using h
set_option maxRecDepth 65536 in
theorem w_c0 : (Jvm.Cond.code x code maxLocals ret).before args0 about1 = true := code_word (m := ⟨1, 1⟩) (meth := k1m1) (c := k1c1) (by decide +kernel) rfl rfl rfl (by decide +kernel)
set_option maxRecDepth 65536 in
theorem w_c1 : (Jvm.Cond.code ({ cls := "com/example/tradewheel/tradewheel/SmallestFirst", name := "<init>", desc := "(I)V" } : Jvm.MethodName) prog_42_method_1_code (5 : Nat) (Option.none : Option Jvm.ClassFile.FieldType)).before args0 about1 = true := code_word (m := ⟨2, 0⟩) (meth := k2m0) (c := k2c0) (by decide +kernel) rfl rfl rfl (by decide +kernel)
set_option maxRecDepth 65536 in
theorem w_c2 : (Jvm.Cond.code ({ cls := "java/lang/Object", name := "<init>", desc := "()V" } : Jvm.MethodName) object_method_1_code (1 : Nat) (Option.none : Option Jvm.ClassFile.FieldType)).before args0 about1 = true := code_word (m := ⟨0, 0⟩) (meth := k0m0) (c := k0c0) (by decide +kernel) rfl rfl rfl (by decide +kernel)
set_option maxRecDepth 65536 in
theorem w_c3 : (Jvm.Cond.code ({ cls := "java/lang/Math", name := "max", desc := "(II)I" } : Jvm.MethodName) jdk_29_method_65_code (2 : Nat) (Option.some Jvm.ClassFile.FieldType.int)).before args0 about1 = true := code_word (m := ⟨3, 1⟩) (meth := k3m1) (c := k3c1) (by decide +kernel) rfl rfl rfl (by decide +kernel)
set_option maxRecDepth 65536 in
theorem w_c4 : (Jvm.Cond.code ({ cls := "com/example/tradewheel/tradewheel/SmallestFirst", name := "isEmpty", desc := "()Z" } : Jvm.MethodName) prog_42_method_3_code (1 : Nat) (Option.some Jvm.ClassFile.FieldType.boolean)).before args0 about1 = true := code_word (m := ⟨2, 2⟩) (meth := k2m2) (c := k2c2) (by decide +kernel) rfl rfl rfl (by decide +kernel)
set_option maxRecDepth 65536 in
theorem w_c5 : (Jvm.Cond.code ({ cls := "com/example/tradewheel/tradewheel/SmallestFirst", name := "add", desc := "(I)V" } : Jvm.MethodName) prog_42_method_2_code (9 : Nat) (Option.none : Option Jvm.ClassFile.FieldType)).before args0 about1 = true := code_word (m := ⟨2, 1⟩) (meth := k2m1) (c := k2c1) (by decide +kernel) rfl rfl rfl (by decide +kernel)
set_option maxRecDepth 65536 in
theorem w_c6 : (Jvm.Cond.code ({ cls := "java/lang/Math", name := "min", desc := "(II)I" } : Jvm.MethodName) jdk_29_method_69_code (2 : Nat) (Option.some Jvm.ClassFile.FieldType.int)).before args0 about1 = true := code_word (m := ⟨3, 2⟩) (meth := k3m2) (c := k3c2) (by decide +kernel) rfl rfl rfl (by decide +kernel)
set_option maxRecDepth 65536 in
theorem w_c7 : (Jvm.Cond.code ({ cls := "com/example/tradewheel/tradewheel/SmallestFirst", name := "removeSmallest", desc := "()I" } : Jvm.MethodName) prog_42_method_4_code (8 : Nat) (Option.some Jvm.ClassFile.FieldType.int)).before args0 about1 = true := code_word (m := ⟨2, 3⟩) (meth := k2m3) (c := k2c3) (by decide +kernel) rfl rfl rfl (by decide +kernel)
set_option maxRecDepth 65536 in
theorem w_c8 : (Jvm.Cond.code ({ cls := "java/lang/Long", name := "numberOfTrailingZeros", desc := "(J)I" } : Jvm.MethodName) jdk_35_method_49_code (3 : Nat) (Option.some Jvm.ClassFile.FieldType.int)).before args0 about1 = true := code_word (m := ⟨9, 0⟩) (meth := k9m0) (c := k9c0) (by decide +kernel) rfl rfl rfl (by decide +kernel)
set_option maxRecDepth 65536 in
theorem w_c9 : (Jvm.Cond.code ({ cls := "java/lang/Integer", name := "numberOfTrailingZeros", desc := "(I)I" } : Jvm.MethodName) jdk_33_method_48_code (2 : Nat) (Option.some Jvm.ClassFile.FieldType.int)).before args0 about1 = true := code_word (m := ⟨10, 0⟩) (meth := k10m0) (c := k10c0) (by decide +kernel) rfl rfl rfl (by decide +kernel)
def codes1 : List Jvm.Cond := [Jvm.Cond.code x code maxLocals ret, Jvm.Cond.code ({ cls := "com/example/tradewheel/tradewheel/SmallestFirst", name := "<init>", desc := "(I)V" } : Jvm.MethodName) prog_42_method_1_code (5 : Nat) (Option.none : Option Jvm.ClassFile.FieldType), Jvm.Cond.code ({ cls := "java/lang/Object", name := "<init>", desc := "()V" } : Jvm.MethodName) object_method_1_code (1 : Nat) (Option.none : Option Jvm.ClassFile.FieldType), Jvm.Cond.code ({ cls := "java/lang/Math", name := "max", desc := "(II)I" } : Jvm.MethodName) jdk_29_method_65_code (2 : Nat) (Option.some Jvm.ClassFile.FieldType.int), Jvm.Cond.code ({ cls := "com/example/tradewheel/tradewheel/SmallestFirst", name := "isEmpty", desc := "()Z" } : Jvm.MethodName) prog_42_method_3_code (1 : Nat) (Option.some Jvm.ClassFile.FieldType.boolean), Jvm.Cond.code ({ cls := "com/example/tradewheel/tradewheel/SmallestFirst", name := "add", desc := "(I)V" } : Jvm.MethodName) prog_42_method_2_code (9 : Nat) (Option.none : Option Jvm.ClassFile.FieldType), Jvm.Cond.code ({ cls := "java/lang/Math", name := "min", desc := "(II)I" } : Jvm.MethodName) jdk_29_method_69_code (2 : Nat) (Option.some Jvm.ClassFile.FieldType.int), Jvm.Cond.code ({ cls := "com/example/tradewheel/tradewheel/SmallestFirst", name := "removeSmallest", desc := "()I" } : Jvm.MethodName) prog_42_method_4_code (8 : Nat) (Option.some Jvm.ClassFile.FieldType.int), Jvm.Cond.code ({ cls := "java/lang/Long", name := "numberOfTrailingZeros", desc := "(J)I" } : Jvm.MethodName) jdk_35_method_49_code (3 : Nat) (Option.some Jvm.ClassFile.FieldType.int), Jvm.Cond.code ({ cls := "java/lang/Integer", name := "numberOfTrailingZeros", desc := "(I)I" } : Jvm.MethodName) jdk_33_method_48_code (2 : Nat) (Option.some Jvm.ClassFile.FieldType.int)]
set_option maxRecDepth 65536 in
theorem codes_eq : words1.filter isCode = codes1 := rfl
theorem w_codes : ∀ c ∈ words1.filter isCode, c.before args0 about1 = true := by
  rw [codes_eq]
  intro c hc
  simp only [codes1, List.mem_cons, List.not_mem_nil, or_false] at hc
  rcases hc with rfl | rfl | rfl | rfl | rfl | rfl | rfl | rfl | rfl | rfl
  · exact w_c0
  · exact w_c1
  · exact w_c2
  · exact w_c3
  · exact w_c4
  · exact w_c5
  · exact w_c6
  · exact w_c7
  · exact w_c8
  · exact w_c9
set_option maxRecDepth 65536 in
theorem w_t1 : (words1.take 24).all (fun c => isCode c || c.before args0 about1) = true := by decide +kernel
set_option maxRecDepth 65536 in
theorem w_t2 : ((words1.drop 24).take 24).all (fun c => isCode c || c.before args0 about1) = true := by decide +kernel
set_option maxRecDepth 65536 in
theorem w_t3 : ((words1.drop 24).drop 24).all (fun c => isCode c || c.before args0 about1) = true := by decide +kernel
theorem w_tables : (allAtoms (Jvm.Cond.code x code maxLocals ret :: tables_1)).before args0 about1 = true := by
  rw [allAtoms_all]
  show words1.all (fun c => c.before args0 about1) = true
  refine all_split ?_ w_codes
  rw [← List.take_append_drop 24 words1, List.all_append, w_t1, ← List.take_append_drop 24 (words1.drop 24), List.all_append, w_t2, w_t3]
  rfl
set_option maxRecDepth 65536 in
theorem w_case : (Jvm.Cond.and given_1 narrow_1).before args0 about1 = true := by decide +kernel
theorem w_applies : (headSpec (Jvm.Cond.code x code maxLocals ret :: tables_1) room_1).applies x e0.platform about1 = true :=
  (Spec.applies_iff w_frames).mpr ⟨w_running, w_runnable, w_alone, w_named, w_hears, w_ripe, w_room, w_tables⟩
theorem atStart : AtStart classFile x code maxLocals ret World_1 tables_1 room_1 Calls_1 rest_1 Pre_1 launch0 p0 e0 about1 theMethod args0 below0 :=
  ⟨lists_1, trivial, launch0.admits_env _ _ _, launch0.least_env, fairChoices_fair.cas, fairChoices_fair.clock, w_frames, w_args, w_heap, w_applies, trivial, trivial, w_case⟩
end start1
theorem witness_1 : WitnessClaimed_1 := ⟨start1.p0, start1.e0, start1.about1, start1.theMethod, start1.args0, start1.below0, start1.atStart⟩
end Jvm.Pilot.@@N@@
