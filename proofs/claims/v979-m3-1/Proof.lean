import JvmDerived
import JvmDerived.Pilot.@@N@@Statement
import JvmDerived.Pilot.@@N@@Code
set_option linter.unusedVariables false
set_option linter.unusedSimpArgs false
namespace Jvm.RoadKit
open Sem ClassFile Op Lib Jvm.Stand Jvm.Free Jvm.LawKit
section New
variable {p : Program} {l : Launch} {e : Env} {R : Room} {s : State} {m : MethodId} {args : Array Value} {below : List Frame} {meth : Method} {c : Code} {T : State} {locs : List Loc} {cells slots : Nat}
theorem retI (X : Stand p l e R s m args below meth c T locs cells slots) (hx : p.tables.exec = Jvm.exec) {pc : Nat} {Ls : Array Slot} {z : Int32} {rest : List Value} (hret : meth.sig.returnType = some .int) (hd : decode c.code pc = .ok (.ireturn, 1)) {fs : List Frame}
    (hl : ∀ (f : JFrame) (acts : List Action), f.method = m → f.locked = none → f.entered = [] → (doReturn e (T.setTop f) acts (some (.int z))).1 = T.setFrames fs) : Steps p.tables e below (T.setTop (mkF m pc Ls (.int z :: rest))) (T.setFrames fs) := by
  have hm' : T.vm.method? m = some meth := X.method'
  have hn : narrow .int (.int z) = .int z := rfl
  show Steps p.tables e below (T.setTop { method := m, pc := pc, locals := Ls, stack := _ :: rest, locked := none }) _
  jvm_step X.here [X.here.top, hx, hd, hm', hret, hn]
  first | (intro acts; rw [hl _ acts rfl rfl rfl]) | rw [hl _ _ rfl rfl rfl]
  exact Steps.refl _
end New
end Jvm.RoadKit
namespace Jvm.Pilot.@@N@@
open Jvm Jvm.ClassFile Sem Op Lib Jvm.Free Jvm.Stand Jvm.LawKit Jvm.RoadKit Bundle Jvm.Pilot.@@N@@.Jvm.D
/-! the own kit: a run told backwards (Runs), arrays by a function of the place (OArr), the comparisons of longs -/
def Runs (tb : Tables) (e : Env) (below : List Frame) (R : State → Outcome → Prop) (T : State) (g : JFrame) : Prop := ∃ t o, Steps tb e below (T.setTop g) t ∧ R t o
section Own
variable {tb : Tables} {e : Env} {below : List Frame} {R : State → Outcome → Prop} {T T' : State} {g g' : JFrame}
theorem Runs.back (k : ∀ t, Steps tb e below (T'.setTop g') t → Steps tb e below (T.setTop g) t) (h : Runs tb e below R T' g') : Runs tb e below R T g := by
  obtain ⟨t, o, h1, h2⟩ := h; exact ⟨t, o, k t h1, h2⟩
theorem Runs.trans (k : Steps tb e below (T.setTop g) (T'.setTop g')) (h : Runs tb e below R T' g') : Runs tb e below R T g := by
  obtain ⟨t, o, h1, h2⟩ := h; exact ⟨t, o, Steps.trans k h1, h2⟩
theorem Runs.enter (q : g = g') (h : Runs tb e below R T g') : ∃ t o, Steps tb e below (T.setTop g) t ∧ R t o := by subst q; exact h
theorem Runs.join {α : Type} {P : α → Prop} {F : α → JFrame} (h : ∀ v, P v → Runs tb e below R T (F v)) (k : (∀ v, P v → Runs tb e below R T (F v)) → Runs tb e below R T g) : Runs tb e below R T g := k h
theorem Runs.joinT {α : Type} {P : α → State → Prop} {F : α → JFrame} (h : ∀ v T', P v T' → Runs tb e below R T' (F v)) (k : (∀ v T', P v T' → Runs tb e below R T' (F v)) → Runs tb e below R T g) : Runs tb e below R T g := k h
theorem lcT {x y : Int64} (h : x < y) : lcmpW x y < 0 := by
  have h1 : ¬ y < x := Int64.not_lt.mpr (Int64.le_of_lt h)
  have h2 : ¬ x = y := fun q => by subst q; exact Int64.lt_irrefl h
  simp [lcmpW, h1, h2]
theorem lcF {x y : Int64} (h : ¬ x < y) : ¬ lcmpW x y < 0 := by
  unfold lcmpW
  by_cases h1 : x > y
  · simp only [if_pos h1]; decide
  · have h2 : x = y := Int64.le_antisymm (Int64.not_lt.mp h1) (Int64.not_lt.mp h)
    simp only [if_neg h1, if_pos h2]; decide
theorem lcT' {x y : Int64} (h : y < x) : 0 < lcmpW x y := by
  unfold lcmpW; rw [if_pos h]; decide
theorem lcF' {x y : Int64} (h : ¬ y < x) : ¬ 0 < lcmpW x y := by
  unfold lcmpW
  have h1 : ¬ x > y := h
  simp only [if_neg h1]
  by_cases h2 : x = y
  · simp only [if_pos h2]; decide
  · simp only [if_neg h2]; decide
theorem lcE {x y : Int64} (h : x = y) : lcmpW x y = 0 := by
  have h1 : ¬ x > y := fun q => by subst h; exact Int64.lt_irrefl q
  unfold lcmpW; rw [if_neg h1, if_pos h]
theorem lcN {x y : Int64} (h : ¬ x = y) : ¬ lcmpW x y = 0 := by
  unfold lcmpW
  by_cases h1 : x > y
  · simp only [if_pos h1]; decide
  · simp only [if_neg h1, if_neg h]; decide
def OArr (Z : State) (h : Heap) (a : Addr) (ty : FieldType) (n : Nat) (f : Nat → Value) : Prop := ∃ c : Cell, Arr Z h a c ty ∧ c.slots.size = n ∧ ∀ i, i < n → c.slots[i]? = some (f i)
variable {Z : State} {h h' : Heap} {a b : Addr} {ty : FieldType} {n sl : Nat} {f : Nat → Value} {v : Value} {ws : List Addr}
theorem OArr.lt (F : OArr Z h a ty n f) : a < h.size := by obtain ⟨c, A, -⟩ := F; exact A.lt
theorem OArr.ext (F : OArr Z h a ty n f) (E : Ext h h') : OArr Z h' a ty n f := by obtain ⟨c, A, r⟩ := F; exact ⟨c, A.ext E, r⟩
theorem OArr.other (F : OArr Z h b ty n f) (W : Wr h h' a sl v) (q : b ≠ a) : OArr Z h' b ty n f := by obtain ⟨c, A, r⟩ := F; exact ⟨c, A.other W q, r⟩
theorem OArr.keep (F : OArr Z h a ty n f) (K : Keep h h' ws) (q : a ∉ ws) : OArr Z h' a ty n f := by obtain ⟨c, A, r⟩ := F; exact ⟨c, ⟨K.2.1 a c A.1 q, A.2⟩, r⟩
theorem OArr.congr (F : OArr Z h a ty n f) {f' : Nat → Value} (q : ∀ i, i < n → f i = f' i) : OArr Z h a ty n f' := by obtain ⟨c, A, r1, r2⟩ := F; exact ⟨c, A, r1, fun i hi => by rw [r2 i hi, q i hi]⟩
theorem OArr.set (F : OArr Z h a ty n f) (W : Wr h h' a sl v) : OArr Z h' a ty n (fun i => if i = sl then v else f i) := by
  obtain ⟨c, A, r1, r2⟩ := F
  obtain ⟨cell, e1, -, e3, -⟩ := id W
  cases e1.symm.trans A.1
  refine ⟨_, A.same W, by rw [sz_set]; exact r1, fun i hi => ?_⟩
  by_cases q : i = sl
  · subst q; simp [Cell.setSlot, e3]
  · simp only [if_neg q]; rw [← r2 i hi]; exact Array.getElem?_setIfInBounds_ne (Ne.symm q)
theorem OArr.new {cA : ClassId} {z : Int32} (A : Arr Z h a (newA cA ty z) ty) (q : z.toNatClampNeg = n) (hd : defaultValue ty = v) : OArr Z h a ty n (fun _ => v) :=
  ⟨_, A, by rw [sz_new]; exact q, fun i hi => by subst hd; simp [newA, q, hi]⟩
theorem inbO {j : Int32} {k : Nat} (ng : ¬ j < 0) (e : j.toNatClampNeg = k) (h : k < n) : ¬ (j < 0 ∨ n ≤ j.toNatClampNeg) := fun q => q.elim ng fun r => by rw [e] at r; exact absurd h (Nat.not_lt.mpr r)
theorem readO {c : Cell} {j : Int32} {k : Nat} (H : ∀ i, i < n → c.slots[i]? = some (f i)) (e : j.toNatClampNeg = k) (h : k < n) (q : f k = v) : c.slots[j.toNatClampNeg]? = some v := by rw [e, H k h, q]
theorem hideL {p : Program} {l : Launch} {R : Room} {s : State} {m : MethodId} {args : Array Value} {meth : Method} {c : Code} {locs : List Loc} {cells slots n0 : Nat} (X : Stand p l e R s m args below meth c T locs cells slots) (N : Fr n0 locs) : ∃ L, Stand p l e R s m args below meth c T L cells slots ∧ Fr n0 L := ⟨_, X, N⟩
theorem lti {x y : Int32} : x < y ↔ x.toInt < y.toInt := Int32.lt_iff_toInt_lt
theorem ltl {x y : Int64} : x < y ↔ x.toInt < y.toInt := Int64.lt_iff_toInt_lt
theorem eqi {x y : Int32} : x = y ↔ x.toInt = y.toInt := Int32.toInt_inj.symm
theorem eql {x y : Int64} : x = y ↔ x.toInt = y.toInt := Int64.toInt_inj.symm
end Own

theorem add32 {x y : Int32} (h1 : -2147483648 ≤ x.toInt + y.toInt) (h2 : x.toInt + y.toInt < 2147483648) : (x + y).toInt = x.toInt + y.toInt := by
  rw [Int32.toInt_add]; exact Int.bmod_eq_of_le (by omega) (by omega)
theorem sub32 {x y : Int32} (h1 : -2147483648 ≤ x.toInt - y.toInt) (h2 : x.toInt - y.toInt < 2147483648) : (x - y).toInt = x.toInt - y.toInt := by
  rw [Int32.toInt_sub]; exact Int.bmod_eq_of_le (by omega) (by omega)
theorem add64 {x y : Int64} (h1 : -9223372036854775808 ≤ x.toInt + y.toInt) (h2 : x.toInt + y.toInt < 9223372036854775808) : (x + y).toInt = x.toInt + y.toInt := by
  rw [Int64.toInt_add]; exact Int.bmod_eq_of_le (by omega) (by omega)
theorem sub64 {x y : Int64} (h1 : -9223372036854775808 ≤ x.toInt - y.toInt) (h2 : x.toInt - y.toInt < 9223372036854775808) : (x - y).toInt = x.toInt - y.toInt := by
  rw [Int64.toInt_sub]; exact Int.bmod_eq_of_le (by omega) (by omega)
theorem l2i' {x : Int64} (h1 : -2147483648 ≤ x.toInt) (h2 : x.toInt < 2147483648) : x.toInt32.toInt = x.toInt := by
  rw [Int64.toInt_toInt32]; exact Int.bmod_eq_of_le (by omega) (by omega)
theorem bd32 (x : Int32) : -2147483648 ≤ x.toInt ∧ x.toInt < 2147483648 := ⟨Int32.le_toInt x, Int32.toInt_lt x⟩
theorem takeE {c e p : Int32} : c.toInt64 < e.toInt64 + p.toInt64 ↔ c.toInt < e.toInt + p.toInt := by
  have b1 := bd32 e; have b2 := bd32 p
  rw [ltl, add64 (by rw [c_i2l, c_i2l]; omega) (by rw [c_i2l, c_i2l]; omega), c_i2l, c_i2l, c_i2l]
theorem takeC {c : Int32} {x y : Int64} (h1 : -9223372036854775808 ≤ x.toInt + y.toInt) (h2 : x.toInt + y.toInt < 9223372036854775808) : c.toInt64 < x + y ↔ c.toInt < x.toInt + y.toInt := by
  rw [ltl, add64 h1 h2, c_i2l]
theorem z32 : (0 : Int32).toInt = 0 := by decide
theorem o32 : (1 : Int32).toInt = 1 := by decide
theorem z64 : (0 : Int64).toInt = 0 := by decide
theorem o64 : (1 : Int64).toInt = 1 := by decide

theorem idxS {p j : Int32} {k d : Nat} (hk : p.toNatClampNeg = k) (hn : ¬ p < 0) (hj : j.toInt = d) (hb : k + d < 2147483648) : (p + j).toNatClampNeg = k + d ∧ ¬ (p + j) < 0 := by
  have q := nat_of hn
  have e : (p + j).toInt = k + d := by rw [add32 (by omega) (by omega)]; omega
  have n : ¬ (p + j) < 0 := by rw [lti, z32]; omega
  exact ⟨by have := nat_of n; omega, n⟩
def szF (v : Int32) : Int32 := if v < (128 : Int32) then (1 : Int32) else if v < (16384 : Int32) then (2 : Int32) else if v < (2097152 : Int32) then (3 : Int32) else if v < (268435456 : Int32) then (4 : Int32) else (5 : Int32)
def sb (u : Nat) : Int := if u < 128 then (u : Int) else (u : Int) - 256
def dig (n V d : Nat) : Int := sb (if d + 1 < n then (V / 128 ^ d) % 128 + 128 else V / 128 ^ d)
def cv (n V k : Nat) (f : Int32) (i : Nat) : Value := if k ≤ i ∧ i < k + n then .int (Int32.ofInt (dig n V (i - k))) else .int f
theorem cv_in {n V k : Nat} {f : Int32} {i : Nat} (h : k ≤ i) (h' : i < k + n) : cv n V k f i = .int (Int32.ofInt (dig n V (i - k))) := if_pos ⟨h, h'⟩
theorem cv_out {n V k : Nat} {f : Int32} {i : Nat} (h : i < k ∨ k + n ≤ i) : cv n V k f i = .int f := if_neg (by omega)
theorem sb_eq {x : Int32} {u : Nat} (hu : u < 256) (h : (x.toInt - (u : Int)) % 256 = 0) : x.toInt8.toInt32 = Int32.ofInt (sb u) := by
  have q := c_i2b x
  have e : (Int32.ofInt (sb u)).toInt = sb u := by
    rw [Int32.toInt_ofInt, show Int32.size = 4294967296 from rfl]; unfold sb; split <;> exact Int.bmod_eq_of_le (by omega) (by omega)
  rw [eqi, e]; unfold sb; split <;> omega
theorem nar2 (x : Int32) : nar .byte (x.toInt8.toInt32) = x.toInt8.toInt32 := by
  have a := c_i2b x; have b := c_i2b (x.toInt8.toInt32)
  show x.toInt8.toInt32.toInt8.toInt32 = x.toInt8.toInt32
  rw [eqi]; omega
theorem or128 {q : Int32} {W : Nat} (h : q.toInt = (W : Int)) (hW : W < 2147483648) : ((q ||| (128 : Int32)).toInt - ((W % 128 + 128 : Nat) : Int)) % 256 = 0 := by
  have p7 : ((2 ^ 7 : Nat) : Int) = 128 := by decide
  have hq : q.toBitVec.toNat = W := by
    have := BitVec.toInt_eq_toNat_cond q.toBitVec
    have e : q.toBitVec.toInt = q.toInt := rfl
    have l := q.toBitVec.isLt
    rw [e] at this; split at this <;> omega
  have ho : (q ||| (128 : Int32)).toBitVec.toNat = W ||| 128 := by rw [Int32.toBitVec_or, BitVec.toNat_or, hq]; rfl
  have m1 : (W ||| 128) % 128 = W % 128 := by
    have := Nat.or_mod_two_pow (a := W) (b := 128) (n := 7); simpa using this
  have m2 : (W ||| 128) / 128 % 2 = 1 := by
    have := Nat.or_div_two_pow (a := W) (b := 128) (n := 7)
    have t : (W ||| 128) / 128 = (W / 128) ||| 1 := by simpa using this
    rw [t]
    have := Nat.or_mod_two_pow (a := W / 128) (b := 1) (n := 1)
    have t2 : ((W / 128) ||| 1) % 2 = (W / 128 % 2) ||| 1 := by simpa using this
    rw [t2]
    rcases Nat.mod_two_eq_zero_or_one (W / 128) with z | z <;> rw [z] <;> decide
  have hx := BitVec.toInt_eq_toNat_cond (q ||| (128 : Int32)).toBitVec
  have hx2 : (q ||| (128 : Int32)).toInt = (q ||| (128 : Int32)).toBitVec.toInt := rfl
  rw [← hx2, ho] at hx
  generalize (W ||| 128) = u at *
  split at hx <;> omega
theorem digA {q : Int32} {W : Nat} (h : q.toInt = (W : Int)) (hW : W < 2147483648) : nar .byte ((q ||| (128 : Int32)).toInt8.toInt32) = Int32.ofInt (sb (W % 128 + 128)) := by
  rw [nar2]; exact sb_eq (by omega) (or128 h hW)
theorem digB {q : Int32} {W : Nat} (h : q.toInt = (W : Int)) (hW : W < 128) : nar .byte (q.toInt8.toInt32) = Int32.ofInt (sb W) := by
  rw [nar2]; exact sb_eq (by omega) (by omega)
theorem ush7 {q : Int32} {W : Nat} (h : q.toInt = (W : Int)) (hW : W < 2147483648) : ((q.toUInt32 >>> ((7 : Int32) &&& 31).toUInt32).toInt32).toInt = ((W / 128 : Nat) : Int) := by
  rw [c_iushr q 7 7 (by decide) (by decide), h]
  have p7 : ((2 ^ 7 : Nat) : Int) = 128 := by decide
  rw [p7]; omega
theorem iushr_nn (x q : Int32) (hx : 0 ≤ x.toInt) : 0 ≤ ((x.toUInt32 >>> (q &&& 31).toUInt32).toInt32).toInt := by
  have h1 : x.toUInt32.toNat < 2147483648 := by
    have e : x.toInt = x.toBitVec.toInt := rfl
    have e2 : x.toUInt32.toNat = x.toBitVec.toNat := rfl
    have l := x.toBitVec.isLt
    rw [e, BitVec.toInt_eq_toNat_cond] at hx
    rw [e2]; split at hx <;> omega
  have h2 : (x.toUInt32 >>> (q &&& 31).toUInt32).toNat ≤ x.toUInt32.toNat := by
    rw [UInt32.toNat_shiftRight, Nat.shiftRight_eq_div_pow]; exact Nat.div_le_self _ _
  have e : ((x.toUInt32 >>> (q &&& 31).toUInt32).toInt32).toInt = (x.toUInt32 >>> (q &&& 31).toUInt32).toBitVec.toInt := rfl
  have e2 : (x.toUInt32 >>> (q &&& 31).toUInt32).toNat = (x.toUInt32 >>> (q &&& 31).toUInt32).toBitVec.toNat := rfl
  rw [e2] at h2
  rw [e, BitVec.toInt_eq_toNat_cond]; split <;> omega
theorem canon1 {V k : Nat} {f b0 : Int32} (h0 : b0 = Int32.ofInt (dig 1 V 0)) (i : Nat) : (if i = k + 0 then (.int b0 : Value) else (.int f : Value)) = cv 1 V k f i := by
  by_cases q0 : i = k + 0
  · rw [if_pos q0, q0, cv_in (by omega) (by omega), Nat.add_sub_cancel_left, h0]
  rw [if_neg q0, cv_out (by omega)]
theorem canon2 {V k : Nat} {f b0 b1 : Int32} (h0 : b0 = Int32.ofInt (dig 2 V 0)) (h1 : b1 = Int32.ofInt (dig 2 V 1)) (i : Nat) : (if i = k + 1 then (.int b1 : Value) else (if i = k + 0 then (.int b0 : Value) else (.int f : Value))) = cv 2 V k f i := by
  by_cases q1 : i = k + 1
  · rw [if_pos q1, q1, cv_in (by omega) (by omega), Nat.add_sub_cancel_left, h1]
  by_cases q0 : i = k + 0
  · rw [if_neg q1, if_pos q0, q0, cv_in (by omega) (by omega), Nat.add_sub_cancel_left, h0]
  rw [if_neg q1, if_neg q0, cv_out (by omega)]
theorem canon3 {V k : Nat} {f b0 b1 b2 : Int32} (h0 : b0 = Int32.ofInt (dig 3 V 0)) (h1 : b1 = Int32.ofInt (dig 3 V 1)) (h2 : b2 = Int32.ofInt (dig 3 V 2)) (i : Nat) : (if i = k + 2 then (.int b2 : Value) else (if i = k + 1 then (.int b1 : Value) else (if i = k + 0 then (.int b0 : Value) else (.int f : Value)))) = cv 3 V k f i := by
  by_cases q2 : i = k + 2
  · rw [if_pos q2, q2, cv_in (by omega) (by omega), Nat.add_sub_cancel_left, h2]
  by_cases q1 : i = k + 1
  · rw [if_neg q2, if_pos q1, q1, cv_in (by omega) (by omega), Nat.add_sub_cancel_left, h1]
  by_cases q0 : i = k + 0
  · rw [if_neg q2, if_neg q1, if_pos q0, q0, cv_in (by omega) (by omega), Nat.add_sub_cancel_left, h0]
  rw [if_neg q2, if_neg q1, if_neg q0, cv_out (by omega)]
theorem canon4 {V k : Nat} {f b0 b1 b2 b3 : Int32} (h0 : b0 = Int32.ofInt (dig 4 V 0)) (h1 : b1 = Int32.ofInt (dig 4 V 1)) (h2 : b2 = Int32.ofInt (dig 4 V 2)) (h3 : b3 = Int32.ofInt (dig 4 V 3)) (i : Nat) : (if i = k + 3 then (.int b3 : Value) else (if i = k + 2 then (.int b2 : Value) else (if i = k + 1 then (.int b1 : Value) else (if i = k + 0 then (.int b0 : Value) else (.int f : Value))))) = cv 4 V k f i := by
  by_cases q3 : i = k + 3
  · rw [if_pos q3, q3, cv_in (by omega) (by omega), Nat.add_sub_cancel_left, h3]
  by_cases q2 : i = k + 2
  · rw [if_neg q3, if_pos q2, q2, cv_in (by omega) (by omega), Nat.add_sub_cancel_left, h2]
  by_cases q1 : i = k + 1
  · rw [if_neg q3, if_neg q2, if_pos q1, q1, cv_in (by omega) (by omega), Nat.add_sub_cancel_left, h1]
  by_cases q0 : i = k + 0
  · rw [if_neg q3, if_neg q2, if_neg q1, if_pos q0, q0, cv_in (by omega) (by omega), Nat.add_sub_cancel_left, h0]
  rw [if_neg q3, if_neg q2, if_neg q1, if_neg q0, cv_out (by omega)]
theorem canon5 {V k : Nat} {f b0 b1 b2 b3 b4 : Int32} (h0 : b0 = Int32.ofInt (dig 5 V 0)) (h1 : b1 = Int32.ofInt (dig 5 V 1)) (h2 : b2 = Int32.ofInt (dig 5 V 2)) (h3 : b3 = Int32.ofInt (dig 5 V 3)) (h4 : b4 = Int32.ofInt (dig 5 V 4)) (i : Nat) : (if i = k + 4 then (.int b4 : Value) else (if i = k + 3 then (.int b3 : Value) else (if i = k + 2 then (.int b2 : Value) else (if i = k + 1 then (.int b1 : Value) else (if i = k + 0 then (.int b0 : Value) else (.int f : Value)))))) = cv 5 V k f i := by
  by_cases q4 : i = k + 4
  · rw [if_pos q4, q4, cv_in (by omega) (by omega), Nat.add_sub_cancel_left, h4]
  by_cases q3 : i = k + 3
  · rw [if_neg q4, if_pos q3, q3, cv_in (by omega) (by omega), Nat.add_sub_cancel_left, h3]
  by_cases q2 : i = k + 2
  · rw [if_neg q4, if_neg q3, if_pos q2, q2, cv_in (by omega) (by omega), Nat.add_sub_cancel_left, h2]
  by_cases q1 : i = k + 1
  · rw [if_neg q4, if_neg q3, if_neg q2, if_pos q1, q1, cv_in (by omega) (by omega), Nat.add_sub_cancel_left, h1]
  by_cases q0 : i = k + 0
  · rw [if_neg q4, if_neg q3, if_neg q2, if_neg q1, if_pos q0, q0, cv_in (by omega) (by omega), Nat.add_sub_cancel_left, h0]
  rw [if_neg q4, if_neg q3, if_neg q2, if_neg q1, if_neg q0, cv_out (by omega)]
theorem d1_0 : decode method_3_code 0 = .ok (.iload_n 0, 1) := by decide +kernel
theorem d1_1 : decode method_3_code 1 = .ok (.sipush 128, 3) := by decide +kernel
theorem d1_4 : decode method_3_code 4 = .ok (.if_icmp .ge 5, 3) := by decide +kernel
theorem d1_7 : decode method_3_code 7 = .ok (.iconst 1, 1) := by decide +kernel
theorem d1_8 : decode method_3_code 8 = .ok (.ireturn, 1) := by decide +kernel
theorem d1_9 : decode method_3_code 9 = .ok (.iload_n 0, 1) := by decide +kernel
theorem d1_10 : decode method_3_code 10 = .ok (.sipush 16384, 3) := by decide +kernel
theorem d1_13 : decode method_3_code 13 = .ok (.if_icmp .ge 5, 3) := by decide +kernel
theorem d1_16 : decode method_3_code 16 = .ok (.iconst 2, 1) := by decide +kernel
theorem d1_17 : decode method_3_code 17 = .ok (.ireturn, 1) := by decide +kernel
theorem d1_18 : decode method_3_code 18 = .ok (.iload_n 0, 1) := by decide +kernel
theorem d1_19 : decode method_3_code 19 = .ok (.ldc 24, 2) := by decide +kernel
theorem d1_21 : decode method_3_code 21 = .ok (.if_icmp .ge 5, 3) := by decide +kernel
theorem d1_24 : decode method_3_code 24 = .ok (.iconst 3, 1) := by decide +kernel
theorem d1_25 : decode method_3_code 25 = .ok (.ireturn, 1) := by decide +kernel
theorem d1_26 : decode method_3_code 26 = .ok (.iload_n 0, 1) := by decide +kernel
theorem d1_27 : decode method_3_code 27 = .ok (.ldc 25, 2) := by decide +kernel
theorem d1_29 : decode method_3_code 29 = .ok (.if_icmp .ge 5, 3) := by decide +kernel
theorem d1_32 : decode method_3_code 32 = .ok (.iconst 4, 1) := by decide +kernel
theorem d1_33 : decode method_3_code 33 = .ok (.ireturn, 1) := by decide +kernel
theorem d1_34 : decode method_3_code 34 = .ok (.iconst 5, 1) := by decide +kernel
theorem d1_35 : decode method_3_code 35 = .ok (.ireturn, 1) := by decide +kernel
theorem pn_1 : plainName "com/example/strict_distinct/strictdistinct/KeyBytesWriteLengthPinLaw" = true := by first | (simp [plainName, overriddenIn]; done) | decide +kernel
theorem ef_1 (m : MethodId) (p0 : Int32) : entryFrame m #[(.int p0)] 1 = mkF m 0 #[.val (.int p0)] [] := by first | (simp [entryFrame, mkF, argsToLocals, Value.category]; done) | rfl
def Q1 (Z : State) (p0 : Int32)  (h0 : Heap) (n0 : Nat) (v : Option Value) (h : Heap) (L : List Loc) : Prop := v = some (.int (szF p0)) ∧ Fr n0 L ∧ h = h0
set_option maxRecDepth 65536 in
set_option maxHeartbeats 40000000 in
theorem rm1 (l : Launch) (Z : State) (a0 : Array Value) (hw : ∀ d ∈ tables_1, d.before a0 Z = true) (ws : List Jvm.Cond) (p0 : Int32)  (h0 : Heap) (n0 : Nat) (Z0 : n0 ≤ h0.size) :
    MetFree l (⟨"com/example/strict_distinct/strictdistinct/KeyBytesWriteLengthPinLaw", "expectedSize", "(I)I"⟩ : MethodName) (head1 (Jvm.Cond.code (⟨"com/example/strict_distinct/strictdistinct/KeyBytesWriteLengthPinLaw", "expectedSize", "(I)I"⟩ : MethodName) method_3_code 1 (some .int) :: ws) ({ frames := 0, cells := 0, slots := 0, locals := 0 } : Room)) (fun a U => a = #[(.int p0)] ∧ Z.Warmed39 U.vm ∧ U.heap = h0) (fun _ _ _ _ _ => True) (fun _ U o U' => ∃ v L, o = .returned v ∧ Q1 Z p0 h0 n0 v U'.heap L ∧ FrameEnd U o U' L ({ frames := 0, cells := 0, slots := 0, locals := 0 } : Room).cells ({ frames := 0, cells := 0, slots := 0, locals := 0 } : Room).slots) := by
  refine MetFree.of_bodySF (plainFor_of_name pn_1) hisR ?_
  intro p e s m args below meth c s₁ Bd hml0 hP hK
  obtain ⟨rfl, hZ, hh⟩ := hP
  have hx := Bd.exec
  have hby := Bd.bytes
  have hml : c.maxLocals = 1 := hml0
  have hown : s.vm.findClass "com/example/strict_distinct/strictdistinct/KeyBytesWriteLengthPinLaw" = some m.cls := findClass_of_methodNamed Bd.named
  have hnm := (name_of_methodNamed Bd.named Bd.method).1
  have X0 : Stand p l e ({ frames := 0, cells := 0, slots := 0, locals := 0 } : Room) s m #[(.int p0)] below meth c s₁ [] 0 0 := Stand.of_body Bd
  have e0 : s₁.heap = h0 := by rw [← hh, Bd.state]; rfl
  have N0 := Fr.nil n0
  refine Runs.enter (ef_1 m p0) ?_
  show Runs _ _ _ _ s₁ (mkF m 0 #[.val (.int p0)] [])
  refine Runs.back (fun t_ k_ => XS.iloadN X0.here hx rfl (hb hby d1_0) rfl k_) ?_
  show Runs _ _ _ _ s₁ (mkF m 1 #[.val (.int p0)] [(.int p0)])
  refine Runs.back (fun t_ k_ => XS.sipush X0.here hx rfl (hb hby d1_1) k_) ?_
  show Runs _ _ _ _ s₁ (mkF m 4 #[.val (.int p0)] [(.int (128 : Int32)), (.int p0)])
  by_cases c4_1 : p0 < (128 : Int32)
  · refine Runs.back (fun t_ k_ => XS.icmpNo X0.here hx rfl (hb hby d1_4) rfl (tlt c4_1).2.1 k_) ?_
    show Runs _ _ _ _ s₁ (mkF m 7 #[.val (.int p0)] [])
    refine Runs.back (fun t_ k_ => XS.iconst X0.here hx rfl (hb hby d1_7) k_) ?_
    show Runs _ _ _ _ s₁ (mkF m 8 #[.val (.int p0)] [(.int (1 : Int32))])
    obtain ⟨fs, hr, hrun, hended, hW, hsame⟩ := X0.leave (v := some (.int (1 : Int32))) (fun h => by rw [Bd.returns] at h; cases h)
    exact ⟨_, _, (retI X0 hx Bd.returns (hb hby d1_8) hr), hrun, hended, _, _, rfl, ⟨(by first | rfl | (simp only [szF, if_pos c4_1]; done) | (simp +decide only [szF, if_pos c4_1, if_true, if_false, ↓reduceIte]; done) | (simp [szF, c4_1]; done)), N0, e0⟩, ⟨_, rfl⟩, hW, hsame.mono (by decide) (by decide)⟩
  · refine Runs.back (fun t_ k_ => XS.icmpYes X0.here hx rfl (pc0 := 4) (pc' := 9) rfl (hb hby d1_4) rfl (flt c4_1).2.1 (by decide) (by decide) k_) ?_
    show Runs _ _ _ _ s₁ (mkF m 9 #[.val (.int p0)] [])
    refine Runs.back (fun t_ k_ => XS.iloadN X0.here hx rfl (hb hby d1_9) rfl k_) ?_
    show Runs _ _ _ _ s₁ (mkF m 10 #[.val (.int p0)] [(.int p0)])
    refine Runs.back (fun t_ k_ => XS.sipush X0.here hx rfl (hb hby d1_10) k_) ?_
    show Runs _ _ _ _ s₁ (mkF m 13 #[.val (.int p0)] [(.int (16384 : Int32)), (.int p0)])
    by_cases c13_2 : p0 < (16384 : Int32)
    · refine Runs.back (fun t_ k_ => XS.icmpNo X0.here hx rfl (hb hby d1_13) rfl (tlt c13_2).2.1 k_) ?_
      show Runs _ _ _ _ s₁ (mkF m 16 #[.val (.int p0)] [])
      refine Runs.back (fun t_ k_ => XS.iconst X0.here hx rfl (hb hby d1_16) k_) ?_
      show Runs _ _ _ _ s₁ (mkF m 17 #[.val (.int p0)] [(.int (2 : Int32))])
      obtain ⟨fs, hr, hrun, hended, hW, hsame⟩ := X0.leave (v := some (.int (2 : Int32))) (fun h => by rw [Bd.returns] at h; cases h)
      exact ⟨_, _, (retI X0 hx Bd.returns (hb hby d1_17) hr), hrun, hended, _, _, rfl, ⟨(by first | rfl | (simp only [szF, if_neg c4_1, if_pos c13_2]; done) | (simp +decide only [szF, if_neg c4_1, if_pos c13_2, if_true, if_false, ↓reduceIte]; done) | (simp [szF, c4_1, c13_2]; done)), N0, e0⟩, ⟨_, rfl⟩, hW, hsame.mono (by decide) (by decide)⟩
    · refine Runs.back (fun t_ k_ => XS.icmpYes X0.here hx rfl (pc0 := 13) (pc' := 18) rfl (hb hby d1_13) rfl (flt c13_2).2.1 (by decide) (by decide) k_) ?_
      show Runs _ _ _ _ s₁ (mkF m 18 #[.val (.int p0)] [])
      refine Runs.back (fun t_ k_ => XS.iloadN X0.here hx rfl (hb hby d1_18) rfl k_) ?_
      show Runs _ _ _ _ s₁ (mkF m 19 #[.val (.int p0)] [(.int p0)])
      refine Runs.back (X0.ldcInt hx hown (mvT hZ (hw _ (List.mem_of_getElem? (i := 13) rfl))) (g := (mkF m 19 #[.val (.int p0)] [(.int p0)])) rfl (hb hby d1_19)) ?_
      show Runs _ _ _ _ s₁ (mkF m 21 #[.val (.int p0)] [(.int (2097152 : Int32)), (.int p0)])
      by_cases c21_3 : p0 < (2097152 : Int32)
      · refine Runs.back (fun t_ k_ => XS.icmpNo X0.here hx rfl (hb hby d1_21) rfl (tlt c21_3).2.1 k_) ?_
        show Runs _ _ _ _ s₁ (mkF m 24 #[.val (.int p0)] [])
        refine Runs.back (fun t_ k_ => XS.iconst X0.here hx rfl (hb hby d1_24) k_) ?_
        show Runs _ _ _ _ s₁ (mkF m 25 #[.val (.int p0)] [(.int (3 : Int32))])
        obtain ⟨fs, hr, hrun, hended, hW, hsame⟩ := X0.leave (v := some (.int (3 : Int32))) (fun h => by rw [Bd.returns] at h; cases h)
        exact ⟨_, _, (retI X0 hx Bd.returns (hb hby d1_25) hr), hrun, hended, _, _, rfl, ⟨(by first | rfl | (simp only [szF, if_neg c4_1, if_neg c13_2, if_pos c21_3]; done) | (simp +decide only [szF, if_neg c4_1, if_neg c13_2, if_pos c21_3, if_true, if_false, ↓reduceIte]; done) | (simp [szF, c4_1, c13_2, c21_3]; done)), N0, e0⟩, ⟨_, rfl⟩, hW, hsame.mono (by decide) (by decide)⟩
      · refine Runs.back (fun t_ k_ => XS.icmpYes X0.here hx rfl (pc0 := 21) (pc' := 26) rfl (hb hby d1_21) rfl (flt c21_3).2.1 (by decide) (by decide) k_) ?_
        show Runs _ _ _ _ s₁ (mkF m 26 #[.val (.int p0)] [])
        refine Runs.back (fun t_ k_ => XS.iloadN X0.here hx rfl (hb hby d1_26) rfl k_) ?_
        show Runs _ _ _ _ s₁ (mkF m 27 #[.val (.int p0)] [(.int p0)])
        refine Runs.back (X0.ldcInt hx hown (mvT hZ (hw _ (List.mem_of_getElem? (i := 14) rfl))) (g := (mkF m 27 #[.val (.int p0)] [(.int p0)])) rfl (hb hby d1_27)) ?_
        show Runs _ _ _ _ s₁ (mkF m 29 #[.val (.int p0)] [(.int (268435456 : Int32)), (.int p0)])
        by_cases c29_4 : p0 < (268435456 : Int32)
        · refine Runs.back (fun t_ k_ => XS.icmpNo X0.here hx rfl (hb hby d1_29) rfl (tlt c29_4).2.1 k_) ?_
          show Runs _ _ _ _ s₁ (mkF m 32 #[.val (.int p0)] [])
          refine Runs.back (fun t_ k_ => XS.iconst X0.here hx rfl (hb hby d1_32) k_) ?_
          show Runs _ _ _ _ s₁ (mkF m 33 #[.val (.int p0)] [(.int (4 : Int32))])
          obtain ⟨fs, hr, hrun, hended, hW, hsame⟩ := X0.leave (v := some (.int (4 : Int32))) (fun h => by rw [Bd.returns] at h; cases h)
          exact ⟨_, _, (retI X0 hx Bd.returns (hb hby d1_33) hr), hrun, hended, _, _, rfl, ⟨(by first | rfl | (simp only [szF, if_neg c4_1, if_neg c13_2, if_neg c21_3, if_pos c29_4]; done) | (simp +decide only [szF, if_neg c4_1, if_neg c13_2, if_neg c21_3, if_pos c29_4, if_true, if_false, ↓reduceIte]; done) | (simp [szF, c4_1, c13_2, c21_3, c29_4]; done)), N0, e0⟩, ⟨_, rfl⟩, hW, hsame.mono (by decide) (by decide)⟩
        · refine Runs.back (fun t_ k_ => XS.icmpYes X0.here hx rfl (pc0 := 29) (pc' := 34) rfl (hb hby d1_29) rfl (flt c29_4).2.1 (by decide) (by decide) k_) ?_
          show Runs _ _ _ _ s₁ (mkF m 34 #[.val (.int p0)] [])
          refine Runs.back (fun t_ k_ => XS.iconst X0.here hx rfl (hb hby d1_34) k_) ?_
          show Runs _ _ _ _ s₁ (mkF m 35 #[.val (.int p0)] [(.int (5 : Int32))])
          obtain ⟨fs, hr, hrun, hended, hW, hsame⟩ := X0.leave (v := some (.int (5 : Int32))) (fun h => by rw [Bd.returns] at h; cases h)
          exact ⟨_, _, (retI X0 hx Bd.returns (hb hby d1_35) hr), hrun, hended, _, _, rfl, ⟨(by first | rfl | (simp only [szF, if_neg c4_1, if_neg c13_2, if_neg c21_3, if_neg c29_4]; done) | (simp +decide only [szF, if_neg c4_1, if_neg c13_2, if_neg c21_3, if_neg c29_4, if_true, if_false, ↓reduceIte]; done) | (simp [szF, c4_1, c13_2, c21_3, c29_4]; done)), N0, e0⟩, ⟨_, rfl⟩, hW, hsame.mono (by decide) (by decide)⟩
theorem d2_0 : decode prog_18_method_15_code 0 = .ok (.iload_n 1, 1) := by decide +kernel
theorem d2_1 : decode prog_18_method_15_code 1 = .ok (.istore_n 3, 1) := by decide +kernel
theorem d2_2 : decode prog_18_method_15_code 2 = .ok (.iload_n 2, 1) := by decide +kernel
theorem d2_3 : decode prog_18_method_15_code 3 = .ok (.istore 4, 2) := by decide +kernel
theorem d2_5 : decode prog_18_method_15_code 5 = .ok (.iload 4, 2) := by decide +kernel
theorem d2_7 : decode prog_18_method_15_code 7 = .ok (.sipush 128, 3) := by decide +kernel
theorem d2_10 : decode prog_18_method_15_code 10 = .ok (.if_icmp .lt 26, 3) := by decide +kernel
theorem d2_13 : decode prog_18_method_15_code 13 = .ok (.aload_n 0, 1) := by decide +kernel
theorem d2_14 : decode prog_18_method_15_code 14 = .ok (.iload_n 3, 1) := by decide +kernel
theorem d2_15 : decode prog_18_method_15_code 15 = .ok (.iinc 3 1, 3) := by decide +kernel
theorem d2_18 : decode prog_18_method_15_code 18 = .ok (.iload 4, 2) := by decide +kernel
theorem d2_20 : decode prog_18_method_15_code 20 = .ok (.sipush 128, 3) := by decide +kernel
theorem d2_23 : decode prog_18_method_15_code 23 = .ok (.ior, 1) := by decide +kernel
theorem d2_24 : decode prog_18_method_15_code 24 = .ok (.i2b, 1) := by decide +kernel
theorem d2_25 : decode prog_18_method_15_code 25 = .ok (.bastore, 1) := by decide +kernel
theorem d2_26 : decode prog_18_method_15_code 26 = .ok (.iload 4, 2) := by decide +kernel
theorem d2_28 : decode prog_18_method_15_code 28 = .ok (.bipush 7, 2) := by decide +kernel
theorem d2_30 : decode prog_18_method_15_code 30 = .ok (.iushr, 1) := by decide +kernel
theorem d2_31 : decode prog_18_method_15_code 31 = .ok (.istore 4, 2) := by decide +kernel
theorem d2_33 : decode prog_18_method_15_code 33 = .ok (.goto (-28), 3) := by decide +kernel
theorem d2_36 : decode prog_18_method_15_code 36 = .ok (.aload_n 0, 1) := by decide +kernel
theorem d2_37 : decode prog_18_method_15_code 37 = .ok (.iload_n 3, 1) := by decide +kernel
theorem d2_38 : decode prog_18_method_15_code 38 = .ok (.iinc 3 1, 3) := by decide +kernel
theorem d2_41 : decode prog_18_method_15_code 41 = .ok (.iload 4, 2) := by decide +kernel
theorem d2_43 : decode prog_18_method_15_code 43 = .ok (.i2b, 1) := by decide +kernel
theorem d2_44 : decode prog_18_method_15_code 44 = .ok (.bastore, 1) := by decide +kernel
theorem d2_45 : decode prog_18_method_15_code 45 = .ok (.iload_n 3, 1) := by decide +kernel
theorem d2_46 : decode prog_18_method_15_code 46 = .ok (.ireturn, 1) := by decide +kernel
theorem pn_2n1 : plainName "com/example/strict_distinct/strictdistinct/KeyBytes" = true := by first | (simp [plainName, overriddenIn]; done) | decide +kernel
theorem ef_2n1 (m : MethodId) (r0 : Addr) (p1 : Int32) (p2 : Int32) : entryFrame m #[(.ref r0), (.int p1), (.int p2)] 5 = mkF m 0 #[.val (.ref r0), .val (.int p1), .val (.int p2), .unset, .unset] [] := by first | (simp [entryFrame, mkF, argsToLocals, Value.category]; done) | rfl
def Q2n1 (Z : State) (r0 : Addr) (p1 : Int32) (p2 : Int32) (V k : Nat) (f0 : Int32) (h0 : Heap) (n0 : Nat) (v : Option Value) (h : Heap) (L : List Loc) : Prop := v = some (.int (p1 + (1 : Int32))) ∧ Fr n0 L ∧ Keep h0 h [r0] ∧ OArr Z h r0 .byte 10 (cv 1 V k f0)
set_option maxRecDepth 65536 in
set_option maxHeartbeats 40000000 in
theorem rm2n1 (l : Launch) (Z : State) (a0 : Array Value) (hw : ∀ d ∈ tables_1, d.before a0 Z = true) (ws : List Jvm.Cond) (r0 : Addr) (p1 : Int32) (p2 : Int32) (V k : Nat) (f0 : Int32) (h0 : Heap) (n0 : Nat) (Z0 : n0 ≤ h0.size) (A1 : OArr Z h0 r0 .byte 10 (fun _ => (Value.int f0))) (g_r0 : n0 ≤ r0) (hk : p1.toNatClampNeg = k) (hn : ¬ p1 < 0) (hk4 : k < 4) (hV : p2.toInt = (V : Int)) (hV1 : 0 ≤ V) (hV2 : V < 128) (hV3 : V < 2147483648) :
    MetFree l (⟨"com/example/strict_distinct/strictdistinct/KeyBytes", "writeLength", "([BII)I"⟩ : MethodName) (head1 (Jvm.Cond.code (⟨"com/example/strict_distinct/strictdistinct/KeyBytes", "writeLength", "([BII)I"⟩ : MethodName) prog_18_method_15_code 5 (some .int) :: ws) ({ frames := 0, cells := 0, slots := 0, locals := 0 } : Room)) (fun a U => a = #[(.ref r0), (.int p1), (.int p2)] ∧ Z.Warmed39 U.vm ∧ U.heap = h0) (fun _ _ _ _ _ => True) (fun _ U o U' => ∃ v L, o = .returned v ∧ Q2n1 Z r0 p1 p2 V k f0 h0 n0 v U'.heap L ∧ FrameEnd U o U' L ({ frames := 0, cells := 0, slots := 0, locals := 0 } : Room).cells ({ frames := 0, cells := 0, slots := 0, locals := 0 } : Room).slots) := by
  refine MetFree.of_bodySF (plainFor_of_name pn_2n1) hisR ?_
  intro p e s m args below meth c s₁ Bd hml0 hP hK
  obtain ⟨rfl, hZ, hh⟩ := hP
  have hx := Bd.exec
  have hby := Bd.bytes
  have hml : c.maxLocals = 5 := hml0
  have hown : s.vm.findClass "com/example/strict_distinct/strictdistinct/KeyBytes" = some m.cls := findClass_of_methodNamed Bd.named
  have hnm := (name_of_methodNamed Bd.named Bd.method).1
  have X0 : Stand p l e ({ frames := 0, cells := 0, slots := 0, locals := 0 } : Room) s m #[(.ref r0), (.int p1), (.int p2)] below meth c s₁ [] 0 0 := Stand.of_body Bd
  have e0 : s₁.heap = h0 := by rw [← hh, Bd.state]; rfl
  have N0 := Fr.nil n0
  refine Runs.enter (ef_2n1 m r0 p1 p2) ?_
  show Runs _ _ _ _ s₁ (mkF m 0 #[.val (.ref r0), .val (.int p1), .val (.int p2), .unset, .unset] [])
  refine Runs.back (fun t_ k_ => XS.iloadN X0.here hx rfl (hb hby d2_0) rfl k_) ?_
  show Runs _ _ _ _ s₁ (mkF m 1 #[.val (.ref r0), .val (.int p1), .val (.int p2), .unset, .unset] [(.int p1)])
  refine Runs.back (fun t_ k_ => XS.istoreN X0.here hx rfl (hb hby d2_1) rfl (l' := #[.val (.ref r0), .val (.int p1), .val (.int p2), .val (.int p1), .unset]) rfl k_) ?_
  show Runs _ _ _ _ s₁ (mkF m 2 #[.val (.ref r0), .val (.int p1), .val (.int p2), .val (.int p1), .unset] [])
  refine Runs.back (fun t_ k_ => XS.iloadN X0.here hx rfl (hb hby d2_2) rfl k_) ?_
  show Runs _ _ _ _ s₁ (mkF m 3 #[.val (.ref r0), .val (.int p1), .val (.int p2), .val (.int p1), .unset] [(.int p2)])
  refine Runs.back (fun t_ k_ => XS.istore X0.here hx rfl (hb hby d2_3) rfl (l' := #[.val (.ref r0), .val (.int p1), .val (.int p2), .val (.int p1), .val (.int p2)]) rfl k_) ?_
  show Runs _ _ _ _ s₁ (mkF m 5 #[.val (.ref r0), .val (.int p1), .val (.int p2), .val (.int p1), .val (.int p2)] [])
  have hq0 : p2.toInt = ((V / 1 : Nat) : Int) := by rw [Nat.div_one]; exact hV
  have hx0 : p1.toNatClampNeg = k + 0 ∧ ¬ p1 < 0 := ⟨hk, hn⟩
  refine Runs.back (fun t_ k_ => XS.iload X0.here hx rfl (hb hby d2_5) rfl k_) ?_
  show Runs _ _ _ _ s₁ (mkF m 7 #[.val (.ref r0), .val (.int p1), .val (.int p2), .val (.int p1), .val (.int p2)] [(.int p2)])
  refine Runs.back (fun t_ k_ => XS.sipush X0.here hx rfl (hb hby d2_7) k_) ?_
  show Runs _ _ _ _ s₁ (mkF m 10 #[.val (.ref r0), .val (.int p1), .val (.int p2), .val (.int p1), .val (.int p2)] [(.int (128 : Int32)), (.int p2)])
  refine Runs.back (fun t_ k_ => XS.icmpYes X0.here hx rfl (pc0 := 10) (pc' := 36) rfl (hb hby d2_10) rfl (tlt (show p2 < (128 : Int32) from (by rw [lti, hq0, show (128 : Int32).toInt = 128 from by decide]; omega))).1 (by decide) (by decide) k_) ?_
  show Runs _ _ _ _ s₁ (mkF m 36 #[.val (.ref r0), .val (.int p1), .val (.int p2), .val (.int p1), .val (.int p2)] [])
  refine Runs.back (fun t_ k_ => XS.aloadN X0.here hx rfl (hb hby d2_36) rfl rfl k_) ?_
  show Runs _ _ _ _ s₁ (mkF m 37 #[.val (.ref r0), .val (.int p1), .val (.int p2), .val (.int p1), .val (.int p2)] [(.ref r0)])
  refine Runs.back (fun t_ k_ => XS.iloadN X0.here hx rfl (hb hby d2_37) rfl k_) ?_
  show Runs _ _ _ _ s₁ (mkF m 38 #[.val (.ref r0), .val (.int p1), .val (.int p2), .val (.int p1), .val (.int p2)] [(.int p1), (.ref r0)])
  refine Runs.back (fun t_ k_ => XS.iinc X0.here hx rfl (hb hby d2_38) rfl (l' := #[.val (.ref r0), .val (.int p1), .val (.int p2), .val (.int (p1 + (1 : Int32))), .val (.int p2)]) rfl k_) ?_
  show Runs _ _ _ _ s₁ (mkF m 41 #[.val (.ref r0), .val (.int p1), .val (.int p2), .val (.int (p1 + (1 : Int32))), .val (.int p2)] [(.int p1), (.ref r0)])
  refine Runs.back (fun t_ k_ => XS.iload X0.here hx rfl (hb hby d2_41) rfl k_) ?_
  show Runs _ _ _ _ s₁ (mkF m 43 #[.val (.ref r0), .val (.int p1), .val (.int p2), .val (.int (p1 + (1 : Int32))), .val (.int p2)] [(.int p2), (.int p1), (.ref r0)])
  refine Runs.back (fun t_ k_ => XS.i2b X0.here hx rfl (hb hby d2_43) rfl k_) ?_
  show Runs _ _ _ _ s₁ (mkF m 44 #[.val (.ref r0), .val (.int p1), .val (.int p2), .val (.int (p1 + (1 : Int32))), .val (.int p2)] [(.int (p2.toInt8.toInt32)), (.int p1), (.ref r0)])
  obtain ⟨cl1, Ar1, S1, Hs1⟩ := id A1
  obtain ⟨T1, h1, X1, e1, W1, st1⟩ := stB X0 hx hZ e0 Ar1 (j := p1) (by rw [S1]; exact (inbO hx0.2 hx0.1 (show (k + 0) < 10 from (by first | omega | decide)))) (g := (mkF m 44 #[.val (.ref r0), .val (.int p1), .val (.int p2), .val (.int (p1 + (1 : Int32))), .val (.int p2)] [(.int (p2.toInt8.toInt32)), (.int p1), (.ref r0)])) rfl rfl (hb hby d2_44)
  have N1 := Fr.snoc X1 N0 g_r0
  obtain ⟨L1, X1, N1⟩ := hideL X1 N1
  rw [hx0.1] at W1
  have f1_Arr_0 : OArr Z h1 r0 .byte 10 (fun i => if i = (k + 0) then (Value.int (nar .byte (p2.toInt8.toInt32))) else (fun _ => (Value.int f0)) i) := A1.set W1
  have KK1 : Keep h0 h1 [r0] := Keep.wr (Keep.refl h0 [r0]) W1 (Or.inl (List.mem_of_getElem? (i := 0) rfl))
  have Z1 : n0 ≤ h1.size := Nat.le_trans (Z0) (Nat.le_of_eq W1.size.symm)
  refine Runs.back st1 ?_
  show Runs _ _ _ _ T1 (mkF m 45 #[.val (.ref r0), .val (.int p1), .val (.int p2), .val (.int (p1 + (1 : Int32))), .val (.int p2)] [])
  refine Runs.back (fun t_ k_ => XS.iloadN X1.here hx rfl (hb hby d2_45) rfl k_) ?_
  show Runs _ _ _ _ T1 (mkF m 46 #[.val (.ref r0), .val (.int p1), .val (.int p2), .val (.int (p1 + (1 : Int32))), .val (.int p2)] [(.int (p1 + (1 : Int32)))])
  have hret : (p1 + (1 : Int32)) = p1 + (1 : Int32) := rfl
  obtain ⟨fs, hr, hrun, hended, hW, hsame⟩ := X1.leave (v := some (.int (p1 + (1 : Int32)))) (fun h => by rw [Bd.returns] at h; cases h)
  exact ⟨_, _, (retI X1 hx Bd.returns (hb hby d2_46) hr), hrun, hended, _, _, rfl, (by show Q2n1 Z r0 p1 p2 V k f0 h0 n0 _ T1.heap _; rw [e1]; exact ⟨(show some (Value.int (p1 + (1 : Int32))) = some (Value.int (p1 + (1 : Int32))) from by rw [hret]), N1, KK1, OArr.congr f1_Arr_0 fun i _ => canon1 (show _ = Int32.ofInt (dig 1 V 0) from digB (W := V / 1) hq0 (by omega)) i⟩), ⟨_, rfl⟩, hW, hsame.mono (by decide) (by decide)⟩
theorem pn_2n2 : plainName "com/example/strict_distinct/strictdistinct/KeyBytes" = true := by first | (simp [plainName, overriddenIn]; done) | decide +kernel
theorem ef_2n2 (m : MethodId) (r0 : Addr) (p1 : Int32) (p2 : Int32) : entryFrame m #[(.ref r0), (.int p1), (.int p2)] 5 = mkF m 0 #[.val (.ref r0), .val (.int p1), .val (.int p2), .unset, .unset] [] := by first | (simp [entryFrame, mkF, argsToLocals, Value.category]; done) | rfl
def Q2n2 (Z : State) (r0 : Addr) (p1 : Int32) (p2 : Int32) (V k : Nat) (f0 : Int32) (h0 : Heap) (n0 : Nat) (v : Option Value) (h : Heap) (L : List Loc) : Prop := v = some (.int (p1 + (2 : Int32))) ∧ Fr n0 L ∧ Keep h0 h [r0] ∧ OArr Z h r0 .byte 10 (cv 2 V k f0)
set_option maxRecDepth 65536 in
set_option maxHeartbeats 40000000 in
theorem rm2n2 (l : Launch) (Z : State) (a0 : Array Value) (hw : ∀ d ∈ tables_1, d.before a0 Z = true) (ws : List Jvm.Cond) (r0 : Addr) (p1 : Int32) (p2 : Int32) (V k : Nat) (f0 : Int32) (h0 : Heap) (n0 : Nat) (Z0 : n0 ≤ h0.size) (A1 : OArr Z h0 r0 .byte 10 (fun _ => (Value.int f0))) (g_r0 : n0 ≤ r0) (hk : p1.toNatClampNeg = k) (hn : ¬ p1 < 0) (hk4 : k < 4) (hV : p2.toInt = (V : Int)) (hV1 : 128 ≤ V) (hV2 : V < 16384) (hV3 : V < 2147483648) :
    MetFree l (⟨"com/example/strict_distinct/strictdistinct/KeyBytes", "writeLength", "([BII)I"⟩ : MethodName) (head1 (Jvm.Cond.code (⟨"com/example/strict_distinct/strictdistinct/KeyBytes", "writeLength", "([BII)I"⟩ : MethodName) prog_18_method_15_code 5 (some .int) :: ws) ({ frames := 0, cells := 0, slots := 0, locals := 0 } : Room)) (fun a U => a = #[(.ref r0), (.int p1), (.int p2)] ∧ Z.Warmed39 U.vm ∧ U.heap = h0) (fun _ _ _ _ _ => True) (fun _ U o U' => ∃ v L, o = .returned v ∧ Q2n2 Z r0 p1 p2 V k f0 h0 n0 v U'.heap L ∧ FrameEnd U o U' L ({ frames := 0, cells := 0, slots := 0, locals := 0 } : Room).cells ({ frames := 0, cells := 0, slots := 0, locals := 0 } : Room).slots) := by
  refine MetFree.of_bodySF (plainFor_of_name pn_2n2) hisR ?_
  intro p e s m args below meth c s₁ Bd hml0 hP hK
  obtain ⟨rfl, hZ, hh⟩ := hP
  have hx := Bd.exec
  have hby := Bd.bytes
  have hml : c.maxLocals = 5 := hml0
  have hown : s.vm.findClass "com/example/strict_distinct/strictdistinct/KeyBytes" = some m.cls := findClass_of_methodNamed Bd.named
  have hnm := (name_of_methodNamed Bd.named Bd.method).1
  have X0 : Stand p l e ({ frames := 0, cells := 0, slots := 0, locals := 0 } : Room) s m #[(.ref r0), (.int p1), (.int p2)] below meth c s₁ [] 0 0 := Stand.of_body Bd
  have e0 : s₁.heap = h0 := by rw [← hh, Bd.state]; rfl
  have N0 := Fr.nil n0
  refine Runs.enter (ef_2n2 m r0 p1 p2) ?_
  show Runs _ _ _ _ s₁ (mkF m 0 #[.val (.ref r0), .val (.int p1), .val (.int p2), .unset, .unset] [])
  refine Runs.back (fun t_ k_ => XS.iloadN X0.here hx rfl (hb hby d2_0) rfl k_) ?_
  show Runs _ _ _ _ s₁ (mkF m 1 #[.val (.ref r0), .val (.int p1), .val (.int p2), .unset, .unset] [(.int p1)])
  refine Runs.back (fun t_ k_ => XS.istoreN X0.here hx rfl (hb hby d2_1) rfl (l' := #[.val (.ref r0), .val (.int p1), .val (.int p2), .val (.int p1), .unset]) rfl k_) ?_
  show Runs _ _ _ _ s₁ (mkF m 2 #[.val (.ref r0), .val (.int p1), .val (.int p2), .val (.int p1), .unset] [])
  refine Runs.back (fun t_ k_ => XS.iloadN X0.here hx rfl (hb hby d2_2) rfl k_) ?_
  show Runs _ _ _ _ s₁ (mkF m 3 #[.val (.ref r0), .val (.int p1), .val (.int p2), .val (.int p1), .unset] [(.int p2)])
  refine Runs.back (fun t_ k_ => XS.istore X0.here hx rfl (hb hby d2_3) rfl (l' := #[.val (.ref r0), .val (.int p1), .val (.int p2), .val (.int p1), .val (.int p2)]) rfl k_) ?_
  show Runs _ _ _ _ s₁ (mkF m 5 #[.val (.ref r0), .val (.int p1), .val (.int p2), .val (.int p1), .val (.int p2)] [])
  have hq0 : p2.toInt = ((V / 1 : Nat) : Int) := by rw [Nat.div_one]; exact hV
  have hx0 : p1.toNatClampNeg = k + 0 ∧ ¬ p1 < 0 := ⟨hk, hn⟩
  refine Runs.back (fun t_ k_ => XS.iload X0.here hx rfl (hb hby d2_5) rfl k_) ?_
  show Runs _ _ _ _ s₁ (mkF m 7 #[.val (.ref r0), .val (.int p1), .val (.int p2), .val (.int p1), .val (.int p2)] [(.int p2)])
  refine Runs.back (fun t_ k_ => XS.sipush X0.here hx rfl (hb hby d2_7) k_) ?_
  show Runs _ _ _ _ s₁ (mkF m 10 #[.val (.ref r0), .val (.int p1), .val (.int p2), .val (.int p1), .val (.int p2)] [(.int (128 : Int32)), (.int p2)])
  refine Runs.back (fun t_ k_ => XS.icmpNo X0.here hx rfl (hb hby d2_10) rfl (flt (show ¬ (p2 < (128 : Int32)) from (by rw [lti, hq0, show (128 : Int32).toInt = 128 from by decide]; omega))).1 k_) ?_
  show Runs _ _ _ _ s₁ (mkF m 13 #[.val (.ref r0), .val (.int p1), .val (.int p2), .val (.int p1), .val (.int p2)] [])
  refine Runs.back (fun t_ k_ => XS.aloadN X0.here hx rfl (hb hby d2_13) rfl rfl k_) ?_
  show Runs _ _ _ _ s₁ (mkF m 14 #[.val (.ref r0), .val (.int p1), .val (.int p2), .val (.int p1), .val (.int p2)] [(.ref r0)])
  refine Runs.back (fun t_ k_ => XS.iloadN X0.here hx rfl (hb hby d2_14) rfl k_) ?_
  show Runs _ _ _ _ s₁ (mkF m 15 #[.val (.ref r0), .val (.int p1), .val (.int p2), .val (.int p1), .val (.int p2)] [(.int p1), (.ref r0)])
  refine Runs.back (fun t_ k_ => XS.iinc X0.here hx rfl (hb hby d2_15) rfl (l' := #[.val (.ref r0), .val (.int p1), .val (.int p2), .val (.int (p1 + (1 : Int32))), .val (.int p2)]) rfl k_) ?_
  show Runs _ _ _ _ s₁ (mkF m 18 #[.val (.ref r0), .val (.int p1), .val (.int p2), .val (.int (p1 + (1 : Int32))), .val (.int p2)] [(.int p1), (.ref r0)])
  refine Runs.back (fun t_ k_ => XS.iload X0.here hx rfl (hb hby d2_18) rfl k_) ?_
  show Runs _ _ _ _ s₁ (mkF m 20 #[.val (.ref r0), .val (.int p1), .val (.int p2), .val (.int (p1 + (1 : Int32))), .val (.int p2)] [(.int p2), (.int p1), (.ref r0)])
  refine Runs.back (fun t_ k_ => XS.sipush X0.here hx rfl (hb hby d2_20) k_) ?_
  show Runs _ _ _ _ s₁ (mkF m 23 #[.val (.ref r0), .val (.int p1), .val (.int p2), .val (.int (p1 + (1 : Int32))), .val (.int p2)] [(.int (128 : Int32)), (.int p2), (.int p1), (.ref r0)])
  refine Runs.back (fun t_ k_ => XS.ior X0.here hx rfl (hb hby d2_23) rfl k_) ?_
  show Runs _ _ _ _ s₁ (mkF m 24 #[.val (.ref r0), .val (.int p1), .val (.int p2), .val (.int (p1 + (1 : Int32))), .val (.int p2)] [(.int (p2 ||| (128 : Int32))), (.int p1), (.ref r0)])
  refine Runs.back (fun t_ k_ => XS.i2b X0.here hx rfl (hb hby d2_24) rfl k_) ?_
  show Runs _ _ _ _ s₁ (mkF m 25 #[.val (.ref r0), .val (.int p1), .val (.int p2), .val (.int (p1 + (1 : Int32))), .val (.int p2)] [(.int ((p2 ||| (128 : Int32)).toInt8.toInt32)), (.int p1), (.ref r0)])
  obtain ⟨cl1, Ar1, S1, Hs1⟩ := id A1
  obtain ⟨T1, h1, X1, e1, W1, st1⟩ := stB X0 hx hZ e0 Ar1 (j := p1) (by rw [S1]; exact (inbO hx0.2 hx0.1 (show (k + 0) < 10 from (by first | omega | decide)))) (g := (mkF m 25 #[.val (.ref r0), .val (.int p1), .val (.int p2), .val (.int (p1 + (1 : Int32))), .val (.int p2)] [(.int ((p2 ||| (128 : Int32)).toInt8.toInt32)), (.int p1), (.ref r0)])) rfl rfl (hb hby d2_25)
  have N1 := Fr.snoc X1 N0 g_r0
  obtain ⟨L1, X1, N1⟩ := hideL X1 N1
  rw [hx0.1] at W1
  have f1_Arr_0 : OArr Z h1 r0 .byte 10 (fun i => if i = (k + 0) then (Value.int (nar .byte ((p2 ||| (128 : Int32)).toInt8.toInt32))) else (fun _ => (Value.int f0)) i) := A1.set W1
  have KK1 : Keep h0 h1 [r0] := Keep.wr (Keep.refl h0 [r0]) W1 (Or.inl (List.mem_of_getElem? (i := 0) rfl))
  have Z1 : n0 ≤ h1.size := Nat.le_trans (Z0) (Nat.le_of_eq W1.size.symm)
  refine Runs.back st1 ?_
  show Runs _ _ _ _ T1 (mkF m 26 #[.val (.ref r0), .val (.int p1), .val (.int p2), .val (.int (p1 + (1 : Int32))), .val (.int p2)] [])
  refine Runs.back (fun t_ k_ => XS.iload X1.here hx rfl (hb hby d2_26) rfl k_) ?_
  show Runs _ _ _ _ T1 (mkF m 28 #[.val (.ref r0), .val (.int p1), .val (.int p2), .val (.int (p1 + (1 : Int32))), .val (.int p2)] [(.int p2)])
  refine Runs.back (fun t_ k_ => XS.bipush X1.here hx rfl (hb hby d2_28) k_) ?_
  show Runs _ _ _ _ T1 (mkF m 30 #[.val (.ref r0), .val (.int p1), .val (.int p2), .val (.int (p1 + (1 : Int32))), .val (.int p2)] [(.int (7 : Int32)), (.int p2)])
  refine Runs.back (fun t_ k_ => XS.iushr X1.here hx rfl (hb hby d2_30) rfl k_) ?_
  show Runs _ _ _ _ T1 (mkF m 31 #[.val (.ref r0), .val (.int p1), .val (.int p2), .val (.int (p1 + (1 : Int32))), .val (.int p2)] [(.int ((p2.toUInt32 >>> ((7 : Int32) &&& 31).toUInt32).toInt32))])
  refine Runs.back (fun t_ k_ => XS.istore X1.here hx rfl (hb hby d2_31) rfl (l' := #[.val (.ref r0), .val (.int p1), .val (.int p2), .val (.int (p1 + (1 : Int32))), .val (.int ((p2.toUInt32 >>> ((7 : Int32) &&& 31).toUInt32).toInt32))]) rfl k_) ?_
  show Runs _ _ _ _ T1 (mkF m 33 #[.val (.ref r0), .val (.int p1), .val (.int p2), .val (.int (p1 + (1 : Int32))), .val (.int ((p2.toUInt32 >>> ((7 : Int32) &&& 31).toUInt32).toInt32))] [])
  refine Runs.back (fun t_ k_ => XS.goto X1.here hx rfl (pc0 := 33) (pc' := 5) rfl (hb hby d2_33) (by decide) (by decide) k_) ?_
  show Runs _ _ _ _ T1 (mkF m 5 #[.val (.ref r0), .val (.int p1), .val (.int p2), .val (.int (p1 + (1 : Int32))), .val (.int ((p2.toUInt32 >>> ((7 : Int32) &&& 31).toUInt32).toInt32))] [])
  have hq1 : (((p2.toUInt32 >>> ((7 : Int32) &&& 31).toUInt32).toInt32)).toInt = ((V / 128 : Nat) : Int) := by have z := ush7 hq0 (by omega); rw [z]; omega
  generalize eq1 : ((p2.toUInt32 >>> ((7 : Int32) &&& 31).toUInt32).toInt32) = q1 at hq1 ⊢
  have hx1 : ((p1 + (1 : Int32))).toNatClampNeg = k + 1 ∧ ¬ (p1 + (1 : Int32)) < 0 := idxS (d := 1) hx0.1 hx0.2 (by decide) (by omega)
  generalize ex1 : (p1 + (1 : Int32)) = x1 at hx1 ⊢
  show Runs _ _ _ _ T1 (mkF m 5 #[.val (.ref r0), .val (.int p1), .val (.int p2), .val (.int x1), .val (.int q1)] [])
  refine Runs.back (fun t_ k_ => XS.iload X1.here hx rfl (hb hby d2_5) rfl k_) ?_
  show Runs _ _ _ _ T1 (mkF m 7 #[.val (.ref r0), .val (.int p1), .val (.int p2), .val (.int x1), .val (.int q1)] [(.int q1)])
  refine Runs.back (fun t_ k_ => XS.sipush X1.here hx rfl (hb hby d2_7) k_) ?_
  show Runs _ _ _ _ T1 (mkF m 10 #[.val (.ref r0), .val (.int p1), .val (.int p2), .val (.int x1), .val (.int q1)] [(.int (128 : Int32)), (.int q1)])
  refine Runs.back (fun t_ k_ => XS.icmpYes X1.here hx rfl (pc0 := 10) (pc' := 36) rfl (hb hby d2_10) rfl (tlt (show q1 < (128 : Int32) from (by rw [lti, hq1, show (128 : Int32).toInt = 128 from by decide]; omega))).1 (by decide) (by decide) k_) ?_
  show Runs _ _ _ _ T1 (mkF m 36 #[.val (.ref r0), .val (.int p1), .val (.int p2), .val (.int x1), .val (.int q1)] [])
  refine Runs.back (fun t_ k_ => XS.aloadN X1.here hx rfl (hb hby d2_36) rfl rfl k_) ?_
  show Runs _ _ _ _ T1 (mkF m 37 #[.val (.ref r0), .val (.int p1), .val (.int p2), .val (.int x1), .val (.int q1)] [(.ref r0)])
  refine Runs.back (fun t_ k_ => XS.iloadN X1.here hx rfl (hb hby d2_37) rfl k_) ?_
  show Runs _ _ _ _ T1 (mkF m 38 #[.val (.ref r0), .val (.int p1), .val (.int p2), .val (.int x1), .val (.int q1)] [(.int x1), (.ref r0)])
  refine Runs.back (fun t_ k_ => XS.iinc X1.here hx rfl (hb hby d2_38) rfl (l' := #[.val (.ref r0), .val (.int p1), .val (.int p2), .val (.int (x1 + (1 : Int32))), .val (.int q1)]) rfl k_) ?_
  show Runs _ _ _ _ T1 (mkF m 41 #[.val (.ref r0), .val (.int p1), .val (.int p2), .val (.int (x1 + (1 : Int32))), .val (.int q1)] [(.int x1), (.ref r0)])
  refine Runs.back (fun t_ k_ => XS.iload X1.here hx rfl (hb hby d2_41) rfl k_) ?_
  show Runs _ _ _ _ T1 (mkF m 43 #[.val (.ref r0), .val (.int p1), .val (.int p2), .val (.int (x1 + (1 : Int32))), .val (.int q1)] [(.int q1), (.int x1), (.ref r0)])
  refine Runs.back (fun t_ k_ => XS.i2b X1.here hx rfl (hb hby d2_43) rfl k_) ?_
  show Runs _ _ _ _ T1 (mkF m 44 #[.val (.ref r0), .val (.int p1), .val (.int p2), .val (.int (x1 + (1 : Int32))), .val (.int q1)] [(.int (q1.toInt8.toInt32)), (.int x1), (.ref r0)])
  obtain ⟨cl2, Ar2, S2, Hs2⟩ := id f1_Arr_0
  obtain ⟨T2, h2, X2, e2, W2, st2⟩ := stB X1 hx hZ e1 Ar2 (j := x1) (by rw [S2]; exact (inbO hx1.2 hx1.1 (show (k + 1) < 10 from (by first | omega | decide)))) (g := (mkF m 44 #[.val (.ref r0), .val (.int p1), .val (.int p2), .val (.int (x1 + (1 : Int32))), .val (.int q1)] [(.int (q1.toInt8.toInt32)), (.int x1), (.ref r0)])) rfl rfl (hb hby d2_44)
  have N2 := Fr.snoc X2 N1 g_r0
  obtain ⟨L2, X2, N2⟩ := hideL X2 N2
  rw [hx1.1] at W2
  have f2_Arr_0 : OArr Z h2 r0 .byte 10 (fun i => if i = (k + 1) then (Value.int (nar .byte (q1.toInt8.toInt32))) else (fun i => if i = (k + 0) then (Value.int (nar .byte ((p2 ||| (128 : Int32)).toInt8.toInt32))) else (fun _ => (Value.int f0)) i) i) := f1_Arr_0.set W2
  have KK2 : Keep h0 h2 [r0] := Keep.wr KK1 W2 (Or.inl (List.mem_of_getElem? (i := 0) rfl))
  have Z2 : n0 ≤ h2.size := Nat.le_trans (Z1) (Nat.le_of_eq W2.size.symm)
  refine Runs.back st2 ?_
  show Runs _ _ _ _ T2 (mkF m 45 #[.val (.ref r0), .val (.int p1), .val (.int p2), .val (.int (x1 + (1 : Int32))), .val (.int q1)] [])
  refine Runs.back (fun t_ k_ => XS.iloadN X2.here hx rfl (hb hby d2_45) rfl k_) ?_
  show Runs _ _ _ _ T2 (mkF m 46 #[.val (.ref r0), .val (.int p1), .val (.int p2), .val (.int (x1 + (1 : Int32))), .val (.int q1)] [(.int (x1 + (1 : Int32)))])
  have hret : (x1 + (1 : Int32)) = p1 + (2 : Int32) := by
    have u := nat_of hx1.2; have u0 := nat_of hn; rw [hx1.1] at u; rw [hk] at u0
    rw [eqi, add32 (by rw [o32]; omega) (by rw [o32]; omega), add32 (by rw [show (2 : Int32).toInt = 2 from by decide]; omega) (by rw [show (2 : Int32).toInt = 2 from by decide]; omega), o32, show (2 : Int32).toInt = 2 from by decide, u, u0] <;> omega
  obtain ⟨fs, hr, hrun, hended, hW, hsame⟩ := X2.leave (v := some (.int (x1 + (1 : Int32)))) (fun h => by rw [Bd.returns] at h; cases h)
  exact ⟨_, _, (retI X2 hx Bd.returns (hb hby d2_46) hr), hrun, hended, _, _, rfl, (by show Q2n2 Z r0 p1 p2 V k f0 h0 n0 _ T2.heap _; rw [e2]; exact ⟨(show some (Value.int (x1 + (1 : Int32))) = some (Value.int (p1 + (2 : Int32))) from by rw [hret]), N2, KK2, OArr.congr f2_Arr_0 fun i _ => canon2 (show _ = Int32.ofInt (dig 2 V 0) from digA (W := V / 1) hq0 (by omega)) (show _ = Int32.ofInt (dig 2 V 1) from digB (W := V / 128) hq1 (by omega)) i⟩), ⟨_, rfl⟩, hW, hsame.mono (by decide) (by decide)⟩
theorem pn_2n3 : plainName "com/example/strict_distinct/strictdistinct/KeyBytes" = true := by first | (simp [plainName, overriddenIn]; done) | decide +kernel
theorem ef_2n3 (m : MethodId) (r0 : Addr) (p1 : Int32) (p2 : Int32) : entryFrame m #[(.ref r0), (.int p1), (.int p2)] 5 = mkF m 0 #[.val (.ref r0), .val (.int p1), .val (.int p2), .unset, .unset] [] := by first | (simp [entryFrame, mkF, argsToLocals, Value.category]; done) | rfl
def Q2n3 (Z : State) (r0 : Addr) (p1 : Int32) (p2 : Int32) (V k : Nat) (f0 : Int32) (h0 : Heap) (n0 : Nat) (v : Option Value) (h : Heap) (L : List Loc) : Prop := v = some (.int (p1 + (3 : Int32))) ∧ Fr n0 L ∧ Keep h0 h [r0] ∧ OArr Z h r0 .byte 10 (cv 3 V k f0)
set_option maxRecDepth 65536 in
set_option maxHeartbeats 40000000 in
theorem rm2n3 (l : Launch) (Z : State) (a0 : Array Value) (hw : ∀ d ∈ tables_1, d.before a0 Z = true) (ws : List Jvm.Cond) (r0 : Addr) (p1 : Int32) (p2 : Int32) (V k : Nat) (f0 : Int32) (h0 : Heap) (n0 : Nat) (Z0 : n0 ≤ h0.size) (A1 : OArr Z h0 r0 .byte 10 (fun _ => (Value.int f0))) (g_r0 : n0 ≤ r0) (hk : p1.toNatClampNeg = k) (hn : ¬ p1 < 0) (hk4 : k < 4) (hV : p2.toInt = (V : Int)) (hV1 : 16384 ≤ V) (hV2 : V < 2097152) (hV3 : V < 2147483648) :
    MetFree l (⟨"com/example/strict_distinct/strictdistinct/KeyBytes", "writeLength", "([BII)I"⟩ : MethodName) (head1 (Jvm.Cond.code (⟨"com/example/strict_distinct/strictdistinct/KeyBytes", "writeLength", "([BII)I"⟩ : MethodName) prog_18_method_15_code 5 (some .int) :: ws) ({ frames := 0, cells := 0, slots := 0, locals := 0 } : Room)) (fun a U => a = #[(.ref r0), (.int p1), (.int p2)] ∧ Z.Warmed39 U.vm ∧ U.heap = h0) (fun _ _ _ _ _ => True) (fun _ U o U' => ∃ v L, o = .returned v ∧ Q2n3 Z r0 p1 p2 V k f0 h0 n0 v U'.heap L ∧ FrameEnd U o U' L ({ frames := 0, cells := 0, slots := 0, locals := 0 } : Room).cells ({ frames := 0, cells := 0, slots := 0, locals := 0 } : Room).slots) := by
  refine MetFree.of_bodySF (plainFor_of_name pn_2n3) hisR ?_
  intro p e s m args below meth c s₁ Bd hml0 hP hK
  obtain ⟨rfl, hZ, hh⟩ := hP
  have hx := Bd.exec
  have hby := Bd.bytes
  have hml : c.maxLocals = 5 := hml0
  have hown : s.vm.findClass "com/example/strict_distinct/strictdistinct/KeyBytes" = some m.cls := findClass_of_methodNamed Bd.named
  have hnm := (name_of_methodNamed Bd.named Bd.method).1
  have X0 : Stand p l e ({ frames := 0, cells := 0, slots := 0, locals := 0 } : Room) s m #[(.ref r0), (.int p1), (.int p2)] below meth c s₁ [] 0 0 := Stand.of_body Bd
  have e0 : s₁.heap = h0 := by rw [← hh, Bd.state]; rfl
  have N0 := Fr.nil n0
  refine Runs.enter (ef_2n3 m r0 p1 p2) ?_
  show Runs _ _ _ _ s₁ (mkF m 0 #[.val (.ref r0), .val (.int p1), .val (.int p2), .unset, .unset] [])
  refine Runs.back (fun t_ k_ => XS.iloadN X0.here hx rfl (hb hby d2_0) rfl k_) ?_
  show Runs _ _ _ _ s₁ (mkF m 1 #[.val (.ref r0), .val (.int p1), .val (.int p2), .unset, .unset] [(.int p1)])
  refine Runs.back (fun t_ k_ => XS.istoreN X0.here hx rfl (hb hby d2_1) rfl (l' := #[.val (.ref r0), .val (.int p1), .val (.int p2), .val (.int p1), .unset]) rfl k_) ?_
  show Runs _ _ _ _ s₁ (mkF m 2 #[.val (.ref r0), .val (.int p1), .val (.int p2), .val (.int p1), .unset] [])
  refine Runs.back (fun t_ k_ => XS.iloadN X0.here hx rfl (hb hby d2_2) rfl k_) ?_
  show Runs _ _ _ _ s₁ (mkF m 3 #[.val (.ref r0), .val (.int p1), .val (.int p2), .val (.int p1), .unset] [(.int p2)])
  refine Runs.back (fun t_ k_ => XS.istore X0.here hx rfl (hb hby d2_3) rfl (l' := #[.val (.ref r0), .val (.int p1), .val (.int p2), .val (.int p1), .val (.int p2)]) rfl k_) ?_
  show Runs _ _ _ _ s₁ (mkF m 5 #[.val (.ref r0), .val (.int p1), .val (.int p2), .val (.int p1), .val (.int p2)] [])
  have hq0 : p2.toInt = ((V / 1 : Nat) : Int) := by rw [Nat.div_one]; exact hV
  have hx0 : p1.toNatClampNeg = k + 0 ∧ ¬ p1 < 0 := ⟨hk, hn⟩
  refine Runs.back (fun t_ k_ => XS.iload X0.here hx rfl (hb hby d2_5) rfl k_) ?_
  show Runs _ _ _ _ s₁ (mkF m 7 #[.val (.ref r0), .val (.int p1), .val (.int p2), .val (.int p1), .val (.int p2)] [(.int p2)])
  refine Runs.back (fun t_ k_ => XS.sipush X0.here hx rfl (hb hby d2_7) k_) ?_
  show Runs _ _ _ _ s₁ (mkF m 10 #[.val (.ref r0), .val (.int p1), .val (.int p2), .val (.int p1), .val (.int p2)] [(.int (128 : Int32)), (.int p2)])
  refine Runs.back (fun t_ k_ => XS.icmpNo X0.here hx rfl (hb hby d2_10) rfl (flt (show ¬ (p2 < (128 : Int32)) from (by rw [lti, hq0, show (128 : Int32).toInt = 128 from by decide]; omega))).1 k_) ?_
  show Runs _ _ _ _ s₁ (mkF m 13 #[.val (.ref r0), .val (.int p1), .val (.int p2), .val (.int p1), .val (.int p2)] [])
  refine Runs.back (fun t_ k_ => XS.aloadN X0.here hx rfl (hb hby d2_13) rfl rfl k_) ?_
  show Runs _ _ _ _ s₁ (mkF m 14 #[.val (.ref r0), .val (.int p1), .val (.int p2), .val (.int p1), .val (.int p2)] [(.ref r0)])
  refine Runs.back (fun t_ k_ => XS.iloadN X0.here hx rfl (hb hby d2_14) rfl k_) ?_
  show Runs _ _ _ _ s₁ (mkF m 15 #[.val (.ref r0), .val (.int p1), .val (.int p2), .val (.int p1), .val (.int p2)] [(.int p1), (.ref r0)])
  refine Runs.back (fun t_ k_ => XS.iinc X0.here hx rfl (hb hby d2_15) rfl (l' := #[.val (.ref r0), .val (.int p1), .val (.int p2), .val (.int (p1 + (1 : Int32))), .val (.int p2)]) rfl k_) ?_
  show Runs _ _ _ _ s₁ (mkF m 18 #[.val (.ref r0), .val (.int p1), .val (.int p2), .val (.int (p1 + (1 : Int32))), .val (.int p2)] [(.int p1), (.ref r0)])
  refine Runs.back (fun t_ k_ => XS.iload X0.here hx rfl (hb hby d2_18) rfl k_) ?_
  show Runs _ _ _ _ s₁ (mkF m 20 #[.val (.ref r0), .val (.int p1), .val (.int p2), .val (.int (p1 + (1 : Int32))), .val (.int p2)] [(.int p2), (.int p1), (.ref r0)])
  refine Runs.back (fun t_ k_ => XS.sipush X0.here hx rfl (hb hby d2_20) k_) ?_
  show Runs _ _ _ _ s₁ (mkF m 23 #[.val (.ref r0), .val (.int p1), .val (.int p2), .val (.int (p1 + (1 : Int32))), .val (.int p2)] [(.int (128 : Int32)), (.int p2), (.int p1), (.ref r0)])
  refine Runs.back (fun t_ k_ => XS.ior X0.here hx rfl (hb hby d2_23) rfl k_) ?_
  show Runs _ _ _ _ s₁ (mkF m 24 #[.val (.ref r0), .val (.int p1), .val (.int p2), .val (.int (p1 + (1 : Int32))), .val (.int p2)] [(.int (p2 ||| (128 : Int32))), (.int p1), (.ref r0)])
  refine Runs.back (fun t_ k_ => XS.i2b X0.here hx rfl (hb hby d2_24) rfl k_) ?_
  show Runs _ _ _ _ s₁ (mkF m 25 #[.val (.ref r0), .val (.int p1), .val (.int p2), .val (.int (p1 + (1 : Int32))), .val (.int p2)] [(.int ((p2 ||| (128 : Int32)).toInt8.toInt32)), (.int p1), (.ref r0)])
  obtain ⟨cl1, Ar1, S1, Hs1⟩ := id A1
  obtain ⟨T1, h1, X1, e1, W1, st1⟩ := stB X0 hx hZ e0 Ar1 (j := p1) (by rw [S1]; exact (inbO hx0.2 hx0.1 (show (k + 0) < 10 from (by first | omega | decide)))) (g := (mkF m 25 #[.val (.ref r0), .val (.int p1), .val (.int p2), .val (.int (p1 + (1 : Int32))), .val (.int p2)] [(.int ((p2 ||| (128 : Int32)).toInt8.toInt32)), (.int p1), (.ref r0)])) rfl rfl (hb hby d2_25)
  have N1 := Fr.snoc X1 N0 g_r0
  obtain ⟨L1, X1, N1⟩ := hideL X1 N1
  rw [hx0.1] at W1
  have f1_Arr_0 : OArr Z h1 r0 .byte 10 (fun i => if i = (k + 0) then (Value.int (nar .byte ((p2 ||| (128 : Int32)).toInt8.toInt32))) else (fun _ => (Value.int f0)) i) := A1.set W1
  have KK1 : Keep h0 h1 [r0] := Keep.wr (Keep.refl h0 [r0]) W1 (Or.inl (List.mem_of_getElem? (i := 0) rfl))
  have Z1 : n0 ≤ h1.size := Nat.le_trans (Z0) (Nat.le_of_eq W1.size.symm)
  refine Runs.back st1 ?_
  show Runs _ _ _ _ T1 (mkF m 26 #[.val (.ref r0), .val (.int p1), .val (.int p2), .val (.int (p1 + (1 : Int32))), .val (.int p2)] [])
  refine Runs.back (fun t_ k_ => XS.iload X1.here hx rfl (hb hby d2_26) rfl k_) ?_
  show Runs _ _ _ _ T1 (mkF m 28 #[.val (.ref r0), .val (.int p1), .val (.int p2), .val (.int (p1 + (1 : Int32))), .val (.int p2)] [(.int p2)])
  refine Runs.back (fun t_ k_ => XS.bipush X1.here hx rfl (hb hby d2_28) k_) ?_
  show Runs _ _ _ _ T1 (mkF m 30 #[.val (.ref r0), .val (.int p1), .val (.int p2), .val (.int (p1 + (1 : Int32))), .val (.int p2)] [(.int (7 : Int32)), (.int p2)])
  refine Runs.back (fun t_ k_ => XS.iushr X1.here hx rfl (hb hby d2_30) rfl k_) ?_
  show Runs _ _ _ _ T1 (mkF m 31 #[.val (.ref r0), .val (.int p1), .val (.int p2), .val (.int (p1 + (1 : Int32))), .val (.int p2)] [(.int ((p2.toUInt32 >>> ((7 : Int32) &&& 31).toUInt32).toInt32))])
  refine Runs.back (fun t_ k_ => XS.istore X1.here hx rfl (hb hby d2_31) rfl (l' := #[.val (.ref r0), .val (.int p1), .val (.int p2), .val (.int (p1 + (1 : Int32))), .val (.int ((p2.toUInt32 >>> ((7 : Int32) &&& 31).toUInt32).toInt32))]) rfl k_) ?_
  show Runs _ _ _ _ T1 (mkF m 33 #[.val (.ref r0), .val (.int p1), .val (.int p2), .val (.int (p1 + (1 : Int32))), .val (.int ((p2.toUInt32 >>> ((7 : Int32) &&& 31).toUInt32).toInt32))] [])
  refine Runs.back (fun t_ k_ => XS.goto X1.here hx rfl (pc0 := 33) (pc' := 5) rfl (hb hby d2_33) (by decide) (by decide) k_) ?_
  show Runs _ _ _ _ T1 (mkF m 5 #[.val (.ref r0), .val (.int p1), .val (.int p2), .val (.int (p1 + (1 : Int32))), .val (.int ((p2.toUInt32 >>> ((7 : Int32) &&& 31).toUInt32).toInt32))] [])
  have hq1 : (((p2.toUInt32 >>> ((7 : Int32) &&& 31).toUInt32).toInt32)).toInt = ((V / 128 : Nat) : Int) := by have z := ush7 hq0 (by omega); rw [z]; omega
  generalize eq1 : ((p2.toUInt32 >>> ((7 : Int32) &&& 31).toUInt32).toInt32) = q1 at hq1 ⊢
  have hx1 : ((p1 + (1 : Int32))).toNatClampNeg = k + 1 ∧ ¬ (p1 + (1 : Int32)) < 0 := idxS (d := 1) hx0.1 hx0.2 (by decide) (by omega)
  generalize ex1 : (p1 + (1 : Int32)) = x1 at hx1 ⊢
  show Runs _ _ _ _ T1 (mkF m 5 #[.val (.ref r0), .val (.int p1), .val (.int p2), .val (.int x1), .val (.int q1)] [])
  refine Runs.back (fun t_ k_ => XS.iload X1.here hx rfl (hb hby d2_5) rfl k_) ?_
  show Runs _ _ _ _ T1 (mkF m 7 #[.val (.ref r0), .val (.int p1), .val (.int p2), .val (.int x1), .val (.int q1)] [(.int q1)])
  refine Runs.back (fun t_ k_ => XS.sipush X1.here hx rfl (hb hby d2_7) k_) ?_
  show Runs _ _ _ _ T1 (mkF m 10 #[.val (.ref r0), .val (.int p1), .val (.int p2), .val (.int x1), .val (.int q1)] [(.int (128 : Int32)), (.int q1)])
  refine Runs.back (fun t_ k_ => XS.icmpNo X1.here hx rfl (hb hby d2_10) rfl (flt (show ¬ (q1 < (128 : Int32)) from (by rw [lti, hq1, show (128 : Int32).toInt = 128 from by decide]; omega))).1 k_) ?_
  show Runs _ _ _ _ T1 (mkF m 13 #[.val (.ref r0), .val (.int p1), .val (.int p2), .val (.int x1), .val (.int q1)] [])
  refine Runs.back (fun t_ k_ => XS.aloadN X1.here hx rfl (hb hby d2_13) rfl rfl k_) ?_
  show Runs _ _ _ _ T1 (mkF m 14 #[.val (.ref r0), .val (.int p1), .val (.int p2), .val (.int x1), .val (.int q1)] [(.ref r0)])
  refine Runs.back (fun t_ k_ => XS.iloadN X1.here hx rfl (hb hby d2_14) rfl k_) ?_
  show Runs _ _ _ _ T1 (mkF m 15 #[.val (.ref r0), .val (.int p1), .val (.int p2), .val (.int x1), .val (.int q1)] [(.int x1), (.ref r0)])
  refine Runs.back (fun t_ k_ => XS.iinc X1.here hx rfl (hb hby d2_15) rfl (l' := #[.val (.ref r0), .val (.int p1), .val (.int p2), .val (.int (x1 + (1 : Int32))), .val (.int q1)]) rfl k_) ?_
  show Runs _ _ _ _ T1 (mkF m 18 #[.val (.ref r0), .val (.int p1), .val (.int p2), .val (.int (x1 + (1 : Int32))), .val (.int q1)] [(.int x1), (.ref r0)])
  refine Runs.back (fun t_ k_ => XS.iload X1.here hx rfl (hb hby d2_18) rfl k_) ?_
  show Runs _ _ _ _ T1 (mkF m 20 #[.val (.ref r0), .val (.int p1), .val (.int p2), .val (.int (x1 + (1 : Int32))), .val (.int q1)] [(.int q1), (.int x1), (.ref r0)])
  refine Runs.back (fun t_ k_ => XS.sipush X1.here hx rfl (hb hby d2_20) k_) ?_
  show Runs _ _ _ _ T1 (mkF m 23 #[.val (.ref r0), .val (.int p1), .val (.int p2), .val (.int (x1 + (1 : Int32))), .val (.int q1)] [(.int (128 : Int32)), (.int q1), (.int x1), (.ref r0)])
  refine Runs.back (fun t_ k_ => XS.ior X1.here hx rfl (hb hby d2_23) rfl k_) ?_
  show Runs _ _ _ _ T1 (mkF m 24 #[.val (.ref r0), .val (.int p1), .val (.int p2), .val (.int (x1 + (1 : Int32))), .val (.int q1)] [(.int (q1 ||| (128 : Int32))), (.int x1), (.ref r0)])
  refine Runs.back (fun t_ k_ => XS.i2b X1.here hx rfl (hb hby d2_24) rfl k_) ?_
  show Runs _ _ _ _ T1 (mkF m 25 #[.val (.ref r0), .val (.int p1), .val (.int p2), .val (.int (x1 + (1 : Int32))), .val (.int q1)] [(.int ((q1 ||| (128 : Int32)).toInt8.toInt32)), (.int x1), (.ref r0)])
  obtain ⟨cl2, Ar2, S2, Hs2⟩ := id f1_Arr_0
  obtain ⟨T2, h2, X2, e2, W2, st2⟩ := stB X1 hx hZ e1 Ar2 (j := x1) (by rw [S2]; exact (inbO hx1.2 hx1.1 (show (k + 1) < 10 from (by first | omega | decide)))) (g := (mkF m 25 #[.val (.ref r0), .val (.int p1), .val (.int p2), .val (.int (x1 + (1 : Int32))), .val (.int q1)] [(.int ((q1 ||| (128 : Int32)).toInt8.toInt32)), (.int x1), (.ref r0)])) rfl rfl (hb hby d2_25)
  have N2 := Fr.snoc X2 N1 g_r0
  obtain ⟨L2, X2, N2⟩ := hideL X2 N2
  rw [hx1.1] at W2
  have f2_Arr_0 : OArr Z h2 r0 .byte 10 (fun i => if i = (k + 1) then (Value.int (nar .byte ((q1 ||| (128 : Int32)).toInt8.toInt32))) else (fun i => if i = (k + 0) then (Value.int (nar .byte ((p2 ||| (128 : Int32)).toInt8.toInt32))) else (fun _ => (Value.int f0)) i) i) := f1_Arr_0.set W2
  have KK2 : Keep h0 h2 [r0] := Keep.wr KK1 W2 (Or.inl (List.mem_of_getElem? (i := 0) rfl))
  have Z2 : n0 ≤ h2.size := Nat.le_trans (Z1) (Nat.le_of_eq W2.size.symm)
  refine Runs.back st2 ?_
  show Runs _ _ _ _ T2 (mkF m 26 #[.val (.ref r0), .val (.int p1), .val (.int p2), .val (.int (x1 + (1 : Int32))), .val (.int q1)] [])
  refine Runs.back (fun t_ k_ => XS.iload X2.here hx rfl (hb hby d2_26) rfl k_) ?_
  show Runs _ _ _ _ T2 (mkF m 28 #[.val (.ref r0), .val (.int p1), .val (.int p2), .val (.int (x1 + (1 : Int32))), .val (.int q1)] [(.int q1)])
  refine Runs.back (fun t_ k_ => XS.bipush X2.here hx rfl (hb hby d2_28) k_) ?_
  show Runs _ _ _ _ T2 (mkF m 30 #[.val (.ref r0), .val (.int p1), .val (.int p2), .val (.int (x1 + (1 : Int32))), .val (.int q1)] [(.int (7 : Int32)), (.int q1)])
  refine Runs.back (fun t_ k_ => XS.iushr X2.here hx rfl (hb hby d2_30) rfl k_) ?_
  show Runs _ _ _ _ T2 (mkF m 31 #[.val (.ref r0), .val (.int p1), .val (.int p2), .val (.int (x1 + (1 : Int32))), .val (.int q1)] [(.int ((q1.toUInt32 >>> ((7 : Int32) &&& 31).toUInt32).toInt32))])
  refine Runs.back (fun t_ k_ => XS.istore X2.here hx rfl (hb hby d2_31) rfl (l' := #[.val (.ref r0), .val (.int p1), .val (.int p2), .val (.int (x1 + (1 : Int32))), .val (.int ((q1.toUInt32 >>> ((7 : Int32) &&& 31).toUInt32).toInt32))]) rfl k_) ?_
  show Runs _ _ _ _ T2 (mkF m 33 #[.val (.ref r0), .val (.int p1), .val (.int p2), .val (.int (x1 + (1 : Int32))), .val (.int ((q1.toUInt32 >>> ((7 : Int32) &&& 31).toUInt32).toInt32))] [])
  refine Runs.back (fun t_ k_ => XS.goto X2.here hx rfl (pc0 := 33) (pc' := 5) rfl (hb hby d2_33) (by decide) (by decide) k_) ?_
  show Runs _ _ _ _ T2 (mkF m 5 #[.val (.ref r0), .val (.int p1), .val (.int p2), .val (.int (x1 + (1 : Int32))), .val (.int ((q1.toUInt32 >>> ((7 : Int32) &&& 31).toUInt32).toInt32))] [])
  have hq2 : (((q1.toUInt32 >>> ((7 : Int32) &&& 31).toUInt32).toInt32)).toInt = ((V / 16384 : Nat) : Int) := by have z := ush7 hq1 (by omega); rw [z]; omega
  generalize eq2 : ((q1.toUInt32 >>> ((7 : Int32) &&& 31).toUInt32).toInt32) = q2 at hq2 ⊢
  have hx2 : ((x1 + (1 : Int32))).toNatClampNeg = k + 2 ∧ ¬ (x1 + (1 : Int32)) < 0 := idxS (d := 1) hx1.1 hx1.2 (by decide) (by omega)
  generalize ex2 : (x1 + (1 : Int32)) = x2 at hx2 ⊢
  show Runs _ _ _ _ T2 (mkF m 5 #[.val (.ref r0), .val (.int p1), .val (.int p2), .val (.int x2), .val (.int q2)] [])
  refine Runs.back (fun t_ k_ => XS.iload X2.here hx rfl (hb hby d2_5) rfl k_) ?_
  show Runs _ _ _ _ T2 (mkF m 7 #[.val (.ref r0), .val (.int p1), .val (.int p2), .val (.int x2), .val (.int q2)] [(.int q2)])
  refine Runs.back (fun t_ k_ => XS.sipush X2.here hx rfl (hb hby d2_7) k_) ?_
  show Runs _ _ _ _ T2 (mkF m 10 #[.val (.ref r0), .val (.int p1), .val (.int p2), .val (.int x2), .val (.int q2)] [(.int (128 : Int32)), (.int q2)])
  refine Runs.back (fun t_ k_ => XS.icmpYes X2.here hx rfl (pc0 := 10) (pc' := 36) rfl (hb hby d2_10) rfl (tlt (show q2 < (128 : Int32) from (by rw [lti, hq2, show (128 : Int32).toInt = 128 from by decide]; omega))).1 (by decide) (by decide) k_) ?_
  show Runs _ _ _ _ T2 (mkF m 36 #[.val (.ref r0), .val (.int p1), .val (.int p2), .val (.int x2), .val (.int q2)] [])
  refine Runs.back (fun t_ k_ => XS.aloadN X2.here hx rfl (hb hby d2_36) rfl rfl k_) ?_
  show Runs _ _ _ _ T2 (mkF m 37 #[.val (.ref r0), .val (.int p1), .val (.int p2), .val (.int x2), .val (.int q2)] [(.ref r0)])
  refine Runs.back (fun t_ k_ => XS.iloadN X2.here hx rfl (hb hby d2_37) rfl k_) ?_
  show Runs _ _ _ _ T2 (mkF m 38 #[.val (.ref r0), .val (.int p1), .val (.int p2), .val (.int x2), .val (.int q2)] [(.int x2), (.ref r0)])
  refine Runs.back (fun t_ k_ => XS.iinc X2.here hx rfl (hb hby d2_38) rfl (l' := #[.val (.ref r0), .val (.int p1), .val (.int p2), .val (.int (x2 + (1 : Int32))), .val (.int q2)]) rfl k_) ?_
  show Runs _ _ _ _ T2 (mkF m 41 #[.val (.ref r0), .val (.int p1), .val (.int p2), .val (.int (x2 + (1 : Int32))), .val (.int q2)] [(.int x2), (.ref r0)])
  refine Runs.back (fun t_ k_ => XS.iload X2.here hx rfl (hb hby d2_41) rfl k_) ?_
  show Runs _ _ _ _ T2 (mkF m 43 #[.val (.ref r0), .val (.int p1), .val (.int p2), .val (.int (x2 + (1 : Int32))), .val (.int q2)] [(.int q2), (.int x2), (.ref r0)])
  refine Runs.back (fun t_ k_ => XS.i2b X2.here hx rfl (hb hby d2_43) rfl k_) ?_
  show Runs _ _ _ _ T2 (mkF m 44 #[.val (.ref r0), .val (.int p1), .val (.int p2), .val (.int (x2 + (1 : Int32))), .val (.int q2)] [(.int (q2.toInt8.toInt32)), (.int x2), (.ref r0)])
  obtain ⟨cl3, Ar3, S3, Hs3⟩ := id f2_Arr_0
  obtain ⟨T3, h3, X3, e3, W3, st3⟩ := stB X2 hx hZ e2 Ar3 (j := x2) (by rw [S3]; exact (inbO hx2.2 hx2.1 (show (k + 2) < 10 from (by first | omega | decide)))) (g := (mkF m 44 #[.val (.ref r0), .val (.int p1), .val (.int p2), .val (.int (x2 + (1 : Int32))), .val (.int q2)] [(.int (q2.toInt8.toInt32)), (.int x2), (.ref r0)])) rfl rfl (hb hby d2_44)
  have N3 := Fr.snoc X3 N2 g_r0
  obtain ⟨L3, X3, N3⟩ := hideL X3 N3
  rw [hx2.1] at W3
  have f3_Arr_0 : OArr Z h3 r0 .byte 10 (fun i => if i = (k + 2) then (Value.int (nar .byte (q2.toInt8.toInt32))) else (fun i => if i = (k + 1) then (Value.int (nar .byte ((q1 ||| (128 : Int32)).toInt8.toInt32))) else (fun i => if i = (k + 0) then (Value.int (nar .byte ((p2 ||| (128 : Int32)).toInt8.toInt32))) else (fun _ => (Value.int f0)) i) i) i) := f2_Arr_0.set W3
  have KK3 : Keep h0 h3 [r0] := Keep.wr KK2 W3 (Or.inl (List.mem_of_getElem? (i := 0) rfl))
  have Z3 : n0 ≤ h3.size := Nat.le_trans (Z2) (Nat.le_of_eq W3.size.symm)
  refine Runs.back st3 ?_
  show Runs _ _ _ _ T3 (mkF m 45 #[.val (.ref r0), .val (.int p1), .val (.int p2), .val (.int (x2 + (1 : Int32))), .val (.int q2)] [])
  refine Runs.back (fun t_ k_ => XS.iloadN X3.here hx rfl (hb hby d2_45) rfl k_) ?_
  show Runs _ _ _ _ T3 (mkF m 46 #[.val (.ref r0), .val (.int p1), .val (.int p2), .val (.int (x2 + (1 : Int32))), .val (.int q2)] [(.int (x2 + (1 : Int32)))])
  have hret : (x2 + (1 : Int32)) = p1 + (3 : Int32) := by
    have u := nat_of hx2.2; have u0 := nat_of hn; rw [hx2.1] at u; rw [hk] at u0
    rw [eqi, add32 (by rw [o32]; omega) (by rw [o32]; omega), add32 (by rw [show (3 : Int32).toInt = 3 from by decide]; omega) (by rw [show (3 : Int32).toInt = 3 from by decide]; omega), o32, show (3 : Int32).toInt = 3 from by decide, u, u0] <;> omega
  obtain ⟨fs, hr, hrun, hended, hW, hsame⟩ := X3.leave (v := some (.int (x2 + (1 : Int32)))) (fun h => by rw [Bd.returns] at h; cases h)
  exact ⟨_, _, (retI X3 hx Bd.returns (hb hby d2_46) hr), hrun, hended, _, _, rfl, (by show Q2n3 Z r0 p1 p2 V k f0 h0 n0 _ T3.heap _; rw [e3]; exact ⟨(show some (Value.int (x2 + (1 : Int32))) = some (Value.int (p1 + (3 : Int32))) from by rw [hret]), N3, KK3, OArr.congr f3_Arr_0 fun i _ => canon3 (show _ = Int32.ofInt (dig 3 V 0) from digA (W := V / 1) hq0 (by omega)) (show _ = Int32.ofInt (dig 3 V 1) from digA (W := V / 128) hq1 (by omega)) (show _ = Int32.ofInt (dig 3 V 2) from digB (W := V / 16384) hq2 (by omega)) i⟩), ⟨_, rfl⟩, hW, hsame.mono (by decide) (by decide)⟩
theorem pn_2n4 : plainName "com/example/strict_distinct/strictdistinct/KeyBytes" = true := by first | (simp [plainName, overriddenIn]; done) | decide +kernel
theorem ef_2n4 (m : MethodId) (r0 : Addr) (p1 : Int32) (p2 : Int32) : entryFrame m #[(.ref r0), (.int p1), (.int p2)] 5 = mkF m 0 #[.val (.ref r0), .val (.int p1), .val (.int p2), .unset, .unset] [] := by first | (simp [entryFrame, mkF, argsToLocals, Value.category]; done) | rfl
def Q2n4 (Z : State) (r0 : Addr) (p1 : Int32) (p2 : Int32) (V k : Nat) (f0 : Int32) (h0 : Heap) (n0 : Nat) (v : Option Value) (h : Heap) (L : List Loc) : Prop := v = some (.int (p1 + (4 : Int32))) ∧ Fr n0 L ∧ Keep h0 h [r0] ∧ OArr Z h r0 .byte 10 (cv 4 V k f0)
set_option maxRecDepth 65536 in
set_option maxHeartbeats 40000000 in
theorem rm2n4 (l : Launch) (Z : State) (a0 : Array Value) (hw : ∀ d ∈ tables_1, d.before a0 Z = true) (ws : List Jvm.Cond) (r0 : Addr) (p1 : Int32) (p2 : Int32) (V k : Nat) (f0 : Int32) (h0 : Heap) (n0 : Nat) (Z0 : n0 ≤ h0.size) (A1 : OArr Z h0 r0 .byte 10 (fun _ => (Value.int f0))) (g_r0 : n0 ≤ r0) (hk : p1.toNatClampNeg = k) (hn : ¬ p1 < 0) (hk4 : k < 4) (hV : p2.toInt = (V : Int)) (hV1 : 2097152 ≤ V) (hV2 : V < 268435456) (hV3 : V < 2147483648) :
    MetFree l (⟨"com/example/strict_distinct/strictdistinct/KeyBytes", "writeLength", "([BII)I"⟩ : MethodName) (head1 (Jvm.Cond.code (⟨"com/example/strict_distinct/strictdistinct/KeyBytes", "writeLength", "([BII)I"⟩ : MethodName) prog_18_method_15_code 5 (some .int) :: ws) ({ frames := 0, cells := 0, slots := 0, locals := 0 } : Room)) (fun a U => a = #[(.ref r0), (.int p1), (.int p2)] ∧ Z.Warmed39 U.vm ∧ U.heap = h0) (fun _ _ _ _ _ => True) (fun _ U o U' => ∃ v L, o = .returned v ∧ Q2n4 Z r0 p1 p2 V k f0 h0 n0 v U'.heap L ∧ FrameEnd U o U' L ({ frames := 0, cells := 0, slots := 0, locals := 0 } : Room).cells ({ frames := 0, cells := 0, slots := 0, locals := 0 } : Room).slots) := by
  refine MetFree.of_bodySF (plainFor_of_name pn_2n4) hisR ?_
  intro p e s m args below meth c s₁ Bd hml0 hP hK
  obtain ⟨rfl, hZ, hh⟩ := hP
  have hx := Bd.exec
  have hby := Bd.bytes
  have hml : c.maxLocals = 5 := hml0
  have hown : s.vm.findClass "com/example/strict_distinct/strictdistinct/KeyBytes" = some m.cls := findClass_of_methodNamed Bd.named
  have hnm := (name_of_methodNamed Bd.named Bd.method).1
  have X0 : Stand p l e ({ frames := 0, cells := 0, slots := 0, locals := 0 } : Room) s m #[(.ref r0), (.int p1), (.int p2)] below meth c s₁ [] 0 0 := Stand.of_body Bd
  have e0 : s₁.heap = h0 := by rw [← hh, Bd.state]; rfl
  have N0 := Fr.nil n0
  refine Runs.enter (ef_2n4 m r0 p1 p2) ?_
  show Runs _ _ _ _ s₁ (mkF m 0 #[.val (.ref r0), .val (.int p1), .val (.int p2), .unset, .unset] [])
  refine Runs.back (fun t_ k_ => XS.iloadN X0.here hx rfl (hb hby d2_0) rfl k_) ?_
  show Runs _ _ _ _ s₁ (mkF m 1 #[.val (.ref r0), .val (.int p1), .val (.int p2), .unset, .unset] [(.int p1)])
  refine Runs.back (fun t_ k_ => XS.istoreN X0.here hx rfl (hb hby d2_1) rfl (l' := #[.val (.ref r0), .val (.int p1), .val (.int p2), .val (.int p1), .unset]) rfl k_) ?_
  show Runs _ _ _ _ s₁ (mkF m 2 #[.val (.ref r0), .val (.int p1), .val (.int p2), .val (.int p1), .unset] [])
  refine Runs.back (fun t_ k_ => XS.iloadN X0.here hx rfl (hb hby d2_2) rfl k_) ?_
  show Runs _ _ _ _ s₁ (mkF m 3 #[.val (.ref r0), .val (.int p1), .val (.int p2), .val (.int p1), .unset] [(.int p2)])
  refine Runs.back (fun t_ k_ => XS.istore X0.here hx rfl (hb hby d2_3) rfl (l' := #[.val (.ref r0), .val (.int p1), .val (.int p2), .val (.int p1), .val (.int p2)]) rfl k_) ?_
  show Runs _ _ _ _ s₁ (mkF m 5 #[.val (.ref r0), .val (.int p1), .val (.int p2), .val (.int p1), .val (.int p2)] [])
  have hq0 : p2.toInt = ((V / 1 : Nat) : Int) := by rw [Nat.div_one]; exact hV
  have hx0 : p1.toNatClampNeg = k + 0 ∧ ¬ p1 < 0 := ⟨hk, hn⟩
  refine Runs.back (fun t_ k_ => XS.iload X0.here hx rfl (hb hby d2_5) rfl k_) ?_
  show Runs _ _ _ _ s₁ (mkF m 7 #[.val (.ref r0), .val (.int p1), .val (.int p2), .val (.int p1), .val (.int p2)] [(.int p2)])
  refine Runs.back (fun t_ k_ => XS.sipush X0.here hx rfl (hb hby d2_7) k_) ?_
  show Runs _ _ _ _ s₁ (mkF m 10 #[.val (.ref r0), .val (.int p1), .val (.int p2), .val (.int p1), .val (.int p2)] [(.int (128 : Int32)), (.int p2)])
  refine Runs.back (fun t_ k_ => XS.icmpNo X0.here hx rfl (hb hby d2_10) rfl (flt (show ¬ (p2 < (128 : Int32)) from (by rw [lti, hq0, show (128 : Int32).toInt = 128 from by decide]; omega))).1 k_) ?_
  show Runs _ _ _ _ s₁ (mkF m 13 #[.val (.ref r0), .val (.int p1), .val (.int p2), .val (.int p1), .val (.int p2)] [])
  refine Runs.back (fun t_ k_ => XS.aloadN X0.here hx rfl (hb hby d2_13) rfl rfl k_) ?_
  show Runs _ _ _ _ s₁ (mkF m 14 #[.val (.ref r0), .val (.int p1), .val (.int p2), .val (.int p1), .val (.int p2)] [(.ref r0)])
  refine Runs.back (fun t_ k_ => XS.iloadN X0.here hx rfl (hb hby d2_14) rfl k_) ?_
  show Runs _ _ _ _ s₁ (mkF m 15 #[.val (.ref r0), .val (.int p1), .val (.int p2), .val (.int p1), .val (.int p2)] [(.int p1), (.ref r0)])
  refine Runs.back (fun t_ k_ => XS.iinc X0.here hx rfl (hb hby d2_15) rfl (l' := #[.val (.ref r0), .val (.int p1), .val (.int p2), .val (.int (p1 + (1 : Int32))), .val (.int p2)]) rfl k_) ?_
  show Runs _ _ _ _ s₁ (mkF m 18 #[.val (.ref r0), .val (.int p1), .val (.int p2), .val (.int (p1 + (1 : Int32))), .val (.int p2)] [(.int p1), (.ref r0)])
  refine Runs.back (fun t_ k_ => XS.iload X0.here hx rfl (hb hby d2_18) rfl k_) ?_
  show Runs _ _ _ _ s₁ (mkF m 20 #[.val (.ref r0), .val (.int p1), .val (.int p2), .val (.int (p1 + (1 : Int32))), .val (.int p2)] [(.int p2), (.int p1), (.ref r0)])
  refine Runs.back (fun t_ k_ => XS.sipush X0.here hx rfl (hb hby d2_20) k_) ?_
  show Runs _ _ _ _ s₁ (mkF m 23 #[.val (.ref r0), .val (.int p1), .val (.int p2), .val (.int (p1 + (1 : Int32))), .val (.int p2)] [(.int (128 : Int32)), (.int p2), (.int p1), (.ref r0)])
  refine Runs.back (fun t_ k_ => XS.ior X0.here hx rfl (hb hby d2_23) rfl k_) ?_
  show Runs _ _ _ _ s₁ (mkF m 24 #[.val (.ref r0), .val (.int p1), .val (.int p2), .val (.int (p1 + (1 : Int32))), .val (.int p2)] [(.int (p2 ||| (128 : Int32))), (.int p1), (.ref r0)])
  refine Runs.back (fun t_ k_ => XS.i2b X0.here hx rfl (hb hby d2_24) rfl k_) ?_
  show Runs _ _ _ _ s₁ (mkF m 25 #[.val (.ref r0), .val (.int p1), .val (.int p2), .val (.int (p1 + (1 : Int32))), .val (.int p2)] [(.int ((p2 ||| (128 : Int32)).toInt8.toInt32)), (.int p1), (.ref r0)])
  obtain ⟨cl1, Ar1, S1, Hs1⟩ := id A1
  obtain ⟨T1, h1, X1, e1, W1, st1⟩ := stB X0 hx hZ e0 Ar1 (j := p1) (by rw [S1]; exact (inbO hx0.2 hx0.1 (show (k + 0) < 10 from (by first | omega | decide)))) (g := (mkF m 25 #[.val (.ref r0), .val (.int p1), .val (.int p2), .val (.int (p1 + (1 : Int32))), .val (.int p2)] [(.int ((p2 ||| (128 : Int32)).toInt8.toInt32)), (.int p1), (.ref r0)])) rfl rfl (hb hby d2_25)
  have N1 := Fr.snoc X1 N0 g_r0
  obtain ⟨L1, X1, N1⟩ := hideL X1 N1
  rw [hx0.1] at W1
  have f1_Arr_0 : OArr Z h1 r0 .byte 10 (fun i => if i = (k + 0) then (Value.int (nar .byte ((p2 ||| (128 : Int32)).toInt8.toInt32))) else (fun _ => (Value.int f0)) i) := A1.set W1
  have KK1 : Keep h0 h1 [r0] := Keep.wr (Keep.refl h0 [r0]) W1 (Or.inl (List.mem_of_getElem? (i := 0) rfl))
  have Z1 : n0 ≤ h1.size := Nat.le_trans (Z0) (Nat.le_of_eq W1.size.symm)
  refine Runs.back st1 ?_
  show Runs _ _ _ _ T1 (mkF m 26 #[.val (.ref r0), .val (.int p1), .val (.int p2), .val (.int (p1 + (1 : Int32))), .val (.int p2)] [])
  refine Runs.back (fun t_ k_ => XS.iload X1.here hx rfl (hb hby d2_26) rfl k_) ?_
  show Runs _ _ _ _ T1 (mkF m 28 #[.val (.ref r0), .val (.int p1), .val (.int p2), .val (.int (p1 + (1 : Int32))), .val (.int p2)] [(.int p2)])
  refine Runs.back (fun t_ k_ => XS.bipush X1.here hx rfl (hb hby d2_28) k_) ?_
  show Runs _ _ _ _ T1 (mkF m 30 #[.val (.ref r0), .val (.int p1), .val (.int p2), .val (.int (p1 + (1 : Int32))), .val (.int p2)] [(.int (7 : Int32)), (.int p2)])
  refine Runs.back (fun t_ k_ => XS.iushr X1.here hx rfl (hb hby d2_30) rfl k_) ?_
  show Runs _ _ _ _ T1 (mkF m 31 #[.val (.ref r0), .val (.int p1), .val (.int p2), .val (.int (p1 + (1 : Int32))), .val (.int p2)] [(.int ((p2.toUInt32 >>> ((7 : Int32) &&& 31).toUInt32).toInt32))])
  refine Runs.back (fun t_ k_ => XS.istore X1.here hx rfl (hb hby d2_31) rfl (l' := #[.val (.ref r0), .val (.int p1), .val (.int p2), .val (.int (p1 + (1 : Int32))), .val (.int ((p2.toUInt32 >>> ((7 : Int32) &&& 31).toUInt32).toInt32))]) rfl k_) ?_
  show Runs _ _ _ _ T1 (mkF m 33 #[.val (.ref r0), .val (.int p1), .val (.int p2), .val (.int (p1 + (1 : Int32))), .val (.int ((p2.toUInt32 >>> ((7 : Int32) &&& 31).toUInt32).toInt32))] [])
  refine Runs.back (fun t_ k_ => XS.goto X1.here hx rfl (pc0 := 33) (pc' := 5) rfl (hb hby d2_33) (by decide) (by decide) k_) ?_
  show Runs _ _ _ _ T1 (mkF m 5 #[.val (.ref r0), .val (.int p1), .val (.int p2), .val (.int (p1 + (1 : Int32))), .val (.int ((p2.toUInt32 >>> ((7 : Int32) &&& 31).toUInt32).toInt32))] [])
  have hq1 : (((p2.toUInt32 >>> ((7 : Int32) &&& 31).toUInt32).toInt32)).toInt = ((V / 128 : Nat) : Int) := by have z := ush7 hq0 (by omega); rw [z]; omega
  generalize eq1 : ((p2.toUInt32 >>> ((7 : Int32) &&& 31).toUInt32).toInt32) = q1 at hq1 ⊢
  have hx1 : ((p1 + (1 : Int32))).toNatClampNeg = k + 1 ∧ ¬ (p1 + (1 : Int32)) < 0 := idxS (d := 1) hx0.1 hx0.2 (by decide) (by omega)
  generalize ex1 : (p1 + (1 : Int32)) = x1 at hx1 ⊢
  show Runs _ _ _ _ T1 (mkF m 5 #[.val (.ref r0), .val (.int p1), .val (.int p2), .val (.int x1), .val (.int q1)] [])
  refine Runs.back (fun t_ k_ => XS.iload X1.here hx rfl (hb hby d2_5) rfl k_) ?_
  show Runs _ _ _ _ T1 (mkF m 7 #[.val (.ref r0), .val (.int p1), .val (.int p2), .val (.int x1), .val (.int q1)] [(.int q1)])
  refine Runs.back (fun t_ k_ => XS.sipush X1.here hx rfl (hb hby d2_7) k_) ?_
  show Runs _ _ _ _ T1 (mkF m 10 #[.val (.ref r0), .val (.int p1), .val (.int p2), .val (.int x1), .val (.int q1)] [(.int (128 : Int32)), (.int q1)])
  refine Runs.back (fun t_ k_ => XS.icmpNo X1.here hx rfl (hb hby d2_10) rfl (flt (show ¬ (q1 < (128 : Int32)) from (by rw [lti, hq1, show (128 : Int32).toInt = 128 from by decide]; omega))).1 k_) ?_
  show Runs _ _ _ _ T1 (mkF m 13 #[.val (.ref r0), .val (.int p1), .val (.int p2), .val (.int x1), .val (.int q1)] [])
  refine Runs.back (fun t_ k_ => XS.aloadN X1.here hx rfl (hb hby d2_13) rfl rfl k_) ?_
  show Runs _ _ _ _ T1 (mkF m 14 #[.val (.ref r0), .val (.int p1), .val (.int p2), .val (.int x1), .val (.int q1)] [(.ref r0)])
  refine Runs.back (fun t_ k_ => XS.iloadN X1.here hx rfl (hb hby d2_14) rfl k_) ?_
  show Runs _ _ _ _ T1 (mkF m 15 #[.val (.ref r0), .val (.int p1), .val (.int p2), .val (.int x1), .val (.int q1)] [(.int x1), (.ref r0)])
  refine Runs.back (fun t_ k_ => XS.iinc X1.here hx rfl (hb hby d2_15) rfl (l' := #[.val (.ref r0), .val (.int p1), .val (.int p2), .val (.int (x1 + (1 : Int32))), .val (.int q1)]) rfl k_) ?_
  show Runs _ _ _ _ T1 (mkF m 18 #[.val (.ref r0), .val (.int p1), .val (.int p2), .val (.int (x1 + (1 : Int32))), .val (.int q1)] [(.int x1), (.ref r0)])
  refine Runs.back (fun t_ k_ => XS.iload X1.here hx rfl (hb hby d2_18) rfl k_) ?_
  show Runs _ _ _ _ T1 (mkF m 20 #[.val (.ref r0), .val (.int p1), .val (.int p2), .val (.int (x1 + (1 : Int32))), .val (.int q1)] [(.int q1), (.int x1), (.ref r0)])
  refine Runs.back (fun t_ k_ => XS.sipush X1.here hx rfl (hb hby d2_20) k_) ?_
  show Runs _ _ _ _ T1 (mkF m 23 #[.val (.ref r0), .val (.int p1), .val (.int p2), .val (.int (x1 + (1 : Int32))), .val (.int q1)] [(.int (128 : Int32)), (.int q1), (.int x1), (.ref r0)])
  refine Runs.back (fun t_ k_ => XS.ior X1.here hx rfl (hb hby d2_23) rfl k_) ?_
  show Runs _ _ _ _ T1 (mkF m 24 #[.val (.ref r0), .val (.int p1), .val (.int p2), .val (.int (x1 + (1 : Int32))), .val (.int q1)] [(.int (q1 ||| (128 : Int32))), (.int x1), (.ref r0)])
  refine Runs.back (fun t_ k_ => XS.i2b X1.here hx rfl (hb hby d2_24) rfl k_) ?_
  show Runs _ _ _ _ T1 (mkF m 25 #[.val (.ref r0), .val (.int p1), .val (.int p2), .val (.int (x1 + (1 : Int32))), .val (.int q1)] [(.int ((q1 ||| (128 : Int32)).toInt8.toInt32)), (.int x1), (.ref r0)])
  obtain ⟨cl2, Ar2, S2, Hs2⟩ := id f1_Arr_0
  obtain ⟨T2, h2, X2, e2, W2, st2⟩ := stB X1 hx hZ e1 Ar2 (j := x1) (by rw [S2]; exact (inbO hx1.2 hx1.1 (show (k + 1) < 10 from (by first | omega | decide)))) (g := (mkF m 25 #[.val (.ref r0), .val (.int p1), .val (.int p2), .val (.int (x1 + (1 : Int32))), .val (.int q1)] [(.int ((q1 ||| (128 : Int32)).toInt8.toInt32)), (.int x1), (.ref r0)])) rfl rfl (hb hby d2_25)
  have N2 := Fr.snoc X2 N1 g_r0
  obtain ⟨L2, X2, N2⟩ := hideL X2 N2
  rw [hx1.1] at W2
  have f2_Arr_0 : OArr Z h2 r0 .byte 10 (fun i => if i = (k + 1) then (Value.int (nar .byte ((q1 ||| (128 : Int32)).toInt8.toInt32))) else (fun i => if i = (k + 0) then (Value.int (nar .byte ((p2 ||| (128 : Int32)).toInt8.toInt32))) else (fun _ => (Value.int f0)) i) i) := f1_Arr_0.set W2
  have KK2 : Keep h0 h2 [r0] := Keep.wr KK1 W2 (Or.inl (List.mem_of_getElem? (i := 0) rfl))
  have Z2 : n0 ≤ h2.size := Nat.le_trans (Z1) (Nat.le_of_eq W2.size.symm)
  refine Runs.back st2 ?_
  show Runs _ _ _ _ T2 (mkF m 26 #[.val (.ref r0), .val (.int p1), .val (.int p2), .val (.int (x1 + (1 : Int32))), .val (.int q1)] [])
  refine Runs.back (fun t_ k_ => XS.iload X2.here hx rfl (hb hby d2_26) rfl k_) ?_
  show Runs _ _ _ _ T2 (mkF m 28 #[.val (.ref r0), .val (.int p1), .val (.int p2), .val (.int (x1 + (1 : Int32))), .val (.int q1)] [(.int q1)])
  refine Runs.back (fun t_ k_ => XS.bipush X2.here hx rfl (hb hby d2_28) k_) ?_
  show Runs _ _ _ _ T2 (mkF m 30 #[.val (.ref r0), .val (.int p1), .val (.int p2), .val (.int (x1 + (1 : Int32))), .val (.int q1)] [(.int (7 : Int32)), (.int q1)])
  refine Runs.back (fun t_ k_ => XS.iushr X2.here hx rfl (hb hby d2_30) rfl k_) ?_
  show Runs _ _ _ _ T2 (mkF m 31 #[.val (.ref r0), .val (.int p1), .val (.int p2), .val (.int (x1 + (1 : Int32))), .val (.int q1)] [(.int ((q1.toUInt32 >>> ((7 : Int32) &&& 31).toUInt32).toInt32))])
  refine Runs.back (fun t_ k_ => XS.istore X2.here hx rfl (hb hby d2_31) rfl (l' := #[.val (.ref r0), .val (.int p1), .val (.int p2), .val (.int (x1 + (1 : Int32))), .val (.int ((q1.toUInt32 >>> ((7 : Int32) &&& 31).toUInt32).toInt32))]) rfl k_) ?_
  show Runs _ _ _ _ T2 (mkF m 33 #[.val (.ref r0), .val (.int p1), .val (.int p2), .val (.int (x1 + (1 : Int32))), .val (.int ((q1.toUInt32 >>> ((7 : Int32) &&& 31).toUInt32).toInt32))] [])
  refine Runs.back (fun t_ k_ => XS.goto X2.here hx rfl (pc0 := 33) (pc' := 5) rfl (hb hby d2_33) (by decide) (by decide) k_) ?_
  show Runs _ _ _ _ T2 (mkF m 5 #[.val (.ref r0), .val (.int p1), .val (.int p2), .val (.int (x1 + (1 : Int32))), .val (.int ((q1.toUInt32 >>> ((7 : Int32) &&& 31).toUInt32).toInt32))] [])
  have hq2 : (((q1.toUInt32 >>> ((7 : Int32) &&& 31).toUInt32).toInt32)).toInt = ((V / 16384 : Nat) : Int) := by have z := ush7 hq1 (by omega); rw [z]; omega
  generalize eq2 : ((q1.toUInt32 >>> ((7 : Int32) &&& 31).toUInt32).toInt32) = q2 at hq2 ⊢
  have hx2 : ((x1 + (1 : Int32))).toNatClampNeg = k + 2 ∧ ¬ (x1 + (1 : Int32)) < 0 := idxS (d := 1) hx1.1 hx1.2 (by decide) (by omega)
  generalize ex2 : (x1 + (1 : Int32)) = x2 at hx2 ⊢
  show Runs _ _ _ _ T2 (mkF m 5 #[.val (.ref r0), .val (.int p1), .val (.int p2), .val (.int x2), .val (.int q2)] [])
  refine Runs.back (fun t_ k_ => XS.iload X2.here hx rfl (hb hby d2_5) rfl k_) ?_
  show Runs _ _ _ _ T2 (mkF m 7 #[.val (.ref r0), .val (.int p1), .val (.int p2), .val (.int x2), .val (.int q2)] [(.int q2)])
  refine Runs.back (fun t_ k_ => XS.sipush X2.here hx rfl (hb hby d2_7) k_) ?_
  show Runs _ _ _ _ T2 (mkF m 10 #[.val (.ref r0), .val (.int p1), .val (.int p2), .val (.int x2), .val (.int q2)] [(.int (128 : Int32)), (.int q2)])
  refine Runs.back (fun t_ k_ => XS.icmpNo X2.here hx rfl (hb hby d2_10) rfl (flt (show ¬ (q2 < (128 : Int32)) from (by rw [lti, hq2, show (128 : Int32).toInt = 128 from by decide]; omega))).1 k_) ?_
  show Runs _ _ _ _ T2 (mkF m 13 #[.val (.ref r0), .val (.int p1), .val (.int p2), .val (.int x2), .val (.int q2)] [])
  refine Runs.back (fun t_ k_ => XS.aloadN X2.here hx rfl (hb hby d2_13) rfl rfl k_) ?_
  show Runs _ _ _ _ T2 (mkF m 14 #[.val (.ref r0), .val (.int p1), .val (.int p2), .val (.int x2), .val (.int q2)] [(.ref r0)])
  refine Runs.back (fun t_ k_ => XS.iloadN X2.here hx rfl (hb hby d2_14) rfl k_) ?_
  show Runs _ _ _ _ T2 (mkF m 15 #[.val (.ref r0), .val (.int p1), .val (.int p2), .val (.int x2), .val (.int q2)] [(.int x2), (.ref r0)])
  refine Runs.back (fun t_ k_ => XS.iinc X2.here hx rfl (hb hby d2_15) rfl (l' := #[.val (.ref r0), .val (.int p1), .val (.int p2), .val (.int (x2 + (1 : Int32))), .val (.int q2)]) rfl k_) ?_
  show Runs _ _ _ _ T2 (mkF m 18 #[.val (.ref r0), .val (.int p1), .val (.int p2), .val (.int (x2 + (1 : Int32))), .val (.int q2)] [(.int x2), (.ref r0)])
  refine Runs.back (fun t_ k_ => XS.iload X2.here hx rfl (hb hby d2_18) rfl k_) ?_
  show Runs _ _ _ _ T2 (mkF m 20 #[.val (.ref r0), .val (.int p1), .val (.int p2), .val (.int (x2 + (1 : Int32))), .val (.int q2)] [(.int q2), (.int x2), (.ref r0)])
  refine Runs.back (fun t_ k_ => XS.sipush X2.here hx rfl (hb hby d2_20) k_) ?_
  show Runs _ _ _ _ T2 (mkF m 23 #[.val (.ref r0), .val (.int p1), .val (.int p2), .val (.int (x2 + (1 : Int32))), .val (.int q2)] [(.int (128 : Int32)), (.int q2), (.int x2), (.ref r0)])
  refine Runs.back (fun t_ k_ => XS.ior X2.here hx rfl (hb hby d2_23) rfl k_) ?_
  show Runs _ _ _ _ T2 (mkF m 24 #[.val (.ref r0), .val (.int p1), .val (.int p2), .val (.int (x2 + (1 : Int32))), .val (.int q2)] [(.int (q2 ||| (128 : Int32))), (.int x2), (.ref r0)])
  refine Runs.back (fun t_ k_ => XS.i2b X2.here hx rfl (hb hby d2_24) rfl k_) ?_
  show Runs _ _ _ _ T2 (mkF m 25 #[.val (.ref r0), .val (.int p1), .val (.int p2), .val (.int (x2 + (1 : Int32))), .val (.int q2)] [(.int ((q2 ||| (128 : Int32)).toInt8.toInt32)), (.int x2), (.ref r0)])
  obtain ⟨cl3, Ar3, S3, Hs3⟩ := id f2_Arr_0
  obtain ⟨T3, h3, X3, e3, W3, st3⟩ := stB X2 hx hZ e2 Ar3 (j := x2) (by rw [S3]; exact (inbO hx2.2 hx2.1 (show (k + 2) < 10 from (by first | omega | decide)))) (g := (mkF m 25 #[.val (.ref r0), .val (.int p1), .val (.int p2), .val (.int (x2 + (1 : Int32))), .val (.int q2)] [(.int ((q2 ||| (128 : Int32)).toInt8.toInt32)), (.int x2), (.ref r0)])) rfl rfl (hb hby d2_25)
  have N3 := Fr.snoc X3 N2 g_r0
  obtain ⟨L3, X3, N3⟩ := hideL X3 N3
  rw [hx2.1] at W3
  have f3_Arr_0 : OArr Z h3 r0 .byte 10 (fun i => if i = (k + 2) then (Value.int (nar .byte ((q2 ||| (128 : Int32)).toInt8.toInt32))) else (fun i => if i = (k + 1) then (Value.int (nar .byte ((q1 ||| (128 : Int32)).toInt8.toInt32))) else (fun i => if i = (k + 0) then (Value.int (nar .byte ((p2 ||| (128 : Int32)).toInt8.toInt32))) else (fun _ => (Value.int f0)) i) i) i) := f2_Arr_0.set W3
  have KK3 : Keep h0 h3 [r0] := Keep.wr KK2 W3 (Or.inl (List.mem_of_getElem? (i := 0) rfl))
  have Z3 : n0 ≤ h3.size := Nat.le_trans (Z2) (Nat.le_of_eq W3.size.symm)
  refine Runs.back st3 ?_
  show Runs _ _ _ _ T3 (mkF m 26 #[.val (.ref r0), .val (.int p1), .val (.int p2), .val (.int (x2 + (1 : Int32))), .val (.int q2)] [])
  refine Runs.back (fun t_ k_ => XS.iload X3.here hx rfl (hb hby d2_26) rfl k_) ?_
  show Runs _ _ _ _ T3 (mkF m 28 #[.val (.ref r0), .val (.int p1), .val (.int p2), .val (.int (x2 + (1 : Int32))), .val (.int q2)] [(.int q2)])
  refine Runs.back (fun t_ k_ => XS.bipush X3.here hx rfl (hb hby d2_28) k_) ?_
  show Runs _ _ _ _ T3 (mkF m 30 #[.val (.ref r0), .val (.int p1), .val (.int p2), .val (.int (x2 + (1 : Int32))), .val (.int q2)] [(.int (7 : Int32)), (.int q2)])
  refine Runs.back (fun t_ k_ => XS.iushr X3.here hx rfl (hb hby d2_30) rfl k_) ?_
  show Runs _ _ _ _ T3 (mkF m 31 #[.val (.ref r0), .val (.int p1), .val (.int p2), .val (.int (x2 + (1 : Int32))), .val (.int q2)] [(.int ((q2.toUInt32 >>> ((7 : Int32) &&& 31).toUInt32).toInt32))])
  refine Runs.back (fun t_ k_ => XS.istore X3.here hx rfl (hb hby d2_31) rfl (l' := #[.val (.ref r0), .val (.int p1), .val (.int p2), .val (.int (x2 + (1 : Int32))), .val (.int ((q2.toUInt32 >>> ((7 : Int32) &&& 31).toUInt32).toInt32))]) rfl k_) ?_
  show Runs _ _ _ _ T3 (mkF m 33 #[.val (.ref r0), .val (.int p1), .val (.int p2), .val (.int (x2 + (1 : Int32))), .val (.int ((q2.toUInt32 >>> ((7 : Int32) &&& 31).toUInt32).toInt32))] [])
  refine Runs.back (fun t_ k_ => XS.goto X3.here hx rfl (pc0 := 33) (pc' := 5) rfl (hb hby d2_33) (by decide) (by decide) k_) ?_
  show Runs _ _ _ _ T3 (mkF m 5 #[.val (.ref r0), .val (.int p1), .val (.int p2), .val (.int (x2 + (1 : Int32))), .val (.int ((q2.toUInt32 >>> ((7 : Int32) &&& 31).toUInt32).toInt32))] [])
  have hq3 : (((q2.toUInt32 >>> ((7 : Int32) &&& 31).toUInt32).toInt32)).toInt = ((V / 2097152 : Nat) : Int) := by have z := ush7 hq2 (by omega); rw [z]; omega
  generalize eq3 : ((q2.toUInt32 >>> ((7 : Int32) &&& 31).toUInt32).toInt32) = q3 at hq3 ⊢
  have hx3 : ((x2 + (1 : Int32))).toNatClampNeg = k + 3 ∧ ¬ (x2 + (1 : Int32)) < 0 := idxS (d := 1) hx2.1 hx2.2 (by decide) (by omega)
  generalize ex3 : (x2 + (1 : Int32)) = x3 at hx3 ⊢
  show Runs _ _ _ _ T3 (mkF m 5 #[.val (.ref r0), .val (.int p1), .val (.int p2), .val (.int x3), .val (.int q3)] [])
  refine Runs.back (fun t_ k_ => XS.iload X3.here hx rfl (hb hby d2_5) rfl k_) ?_
  show Runs _ _ _ _ T3 (mkF m 7 #[.val (.ref r0), .val (.int p1), .val (.int p2), .val (.int x3), .val (.int q3)] [(.int q3)])
  refine Runs.back (fun t_ k_ => XS.sipush X3.here hx rfl (hb hby d2_7) k_) ?_
  show Runs _ _ _ _ T3 (mkF m 10 #[.val (.ref r0), .val (.int p1), .val (.int p2), .val (.int x3), .val (.int q3)] [(.int (128 : Int32)), (.int q3)])
  refine Runs.back (fun t_ k_ => XS.icmpYes X3.here hx rfl (pc0 := 10) (pc' := 36) rfl (hb hby d2_10) rfl (tlt (show q3 < (128 : Int32) from (by rw [lti, hq3, show (128 : Int32).toInt = 128 from by decide]; omega))).1 (by decide) (by decide) k_) ?_
  show Runs _ _ _ _ T3 (mkF m 36 #[.val (.ref r0), .val (.int p1), .val (.int p2), .val (.int x3), .val (.int q3)] [])
  refine Runs.back (fun t_ k_ => XS.aloadN X3.here hx rfl (hb hby d2_36) rfl rfl k_) ?_
  show Runs _ _ _ _ T3 (mkF m 37 #[.val (.ref r0), .val (.int p1), .val (.int p2), .val (.int x3), .val (.int q3)] [(.ref r0)])
  refine Runs.back (fun t_ k_ => XS.iloadN X3.here hx rfl (hb hby d2_37) rfl k_) ?_
  show Runs _ _ _ _ T3 (mkF m 38 #[.val (.ref r0), .val (.int p1), .val (.int p2), .val (.int x3), .val (.int q3)] [(.int x3), (.ref r0)])
  refine Runs.back (fun t_ k_ => XS.iinc X3.here hx rfl (hb hby d2_38) rfl (l' := #[.val (.ref r0), .val (.int p1), .val (.int p2), .val (.int (x3 + (1 : Int32))), .val (.int q3)]) rfl k_) ?_
  show Runs _ _ _ _ T3 (mkF m 41 #[.val (.ref r0), .val (.int p1), .val (.int p2), .val (.int (x3 + (1 : Int32))), .val (.int q3)] [(.int x3), (.ref r0)])
  refine Runs.back (fun t_ k_ => XS.iload X3.here hx rfl (hb hby d2_41) rfl k_) ?_
  show Runs _ _ _ _ T3 (mkF m 43 #[.val (.ref r0), .val (.int p1), .val (.int p2), .val (.int (x3 + (1 : Int32))), .val (.int q3)] [(.int q3), (.int x3), (.ref r0)])
  refine Runs.back (fun t_ k_ => XS.i2b X3.here hx rfl (hb hby d2_43) rfl k_) ?_
  show Runs _ _ _ _ T3 (mkF m 44 #[.val (.ref r0), .val (.int p1), .val (.int p2), .val (.int (x3 + (1 : Int32))), .val (.int q3)] [(.int (q3.toInt8.toInt32)), (.int x3), (.ref r0)])
  obtain ⟨cl4, Ar4, S4, Hs4⟩ := id f3_Arr_0
  obtain ⟨T4, h4, X4, e4, W4, st4⟩ := stB X3 hx hZ e3 Ar4 (j := x3) (by rw [S4]; exact (inbO hx3.2 hx3.1 (show (k + 3) < 10 from (by first | omega | decide)))) (g := (mkF m 44 #[.val (.ref r0), .val (.int p1), .val (.int p2), .val (.int (x3 + (1 : Int32))), .val (.int q3)] [(.int (q3.toInt8.toInt32)), (.int x3), (.ref r0)])) rfl rfl (hb hby d2_44)
  have N4 := Fr.snoc X4 N3 g_r0
  obtain ⟨L4, X4, N4⟩ := hideL X4 N4
  rw [hx3.1] at W4
  have f4_Arr_0 : OArr Z h4 r0 .byte 10 (fun i => if i = (k + 3) then (Value.int (nar .byte (q3.toInt8.toInt32))) else (fun i => if i = (k + 2) then (Value.int (nar .byte ((q2 ||| (128 : Int32)).toInt8.toInt32))) else (fun i => if i = (k + 1) then (Value.int (nar .byte ((q1 ||| (128 : Int32)).toInt8.toInt32))) else (fun i => if i = (k + 0) then (Value.int (nar .byte ((p2 ||| (128 : Int32)).toInt8.toInt32))) else (fun _ => (Value.int f0)) i) i) i) i) := f3_Arr_0.set W4
  have KK4 : Keep h0 h4 [r0] := Keep.wr KK3 W4 (Or.inl (List.mem_of_getElem? (i := 0) rfl))
  have Z4 : n0 ≤ h4.size := Nat.le_trans (Z3) (Nat.le_of_eq W4.size.symm)
  refine Runs.back st4 ?_
  show Runs _ _ _ _ T4 (mkF m 45 #[.val (.ref r0), .val (.int p1), .val (.int p2), .val (.int (x3 + (1 : Int32))), .val (.int q3)] [])
  refine Runs.back (fun t_ k_ => XS.iloadN X4.here hx rfl (hb hby d2_45) rfl k_) ?_
  show Runs _ _ _ _ T4 (mkF m 46 #[.val (.ref r0), .val (.int p1), .val (.int p2), .val (.int (x3 + (1 : Int32))), .val (.int q3)] [(.int (x3 + (1 : Int32)))])
  have hret : (x3 + (1 : Int32)) = p1 + (4 : Int32) := by
    have u := nat_of hx3.2; have u0 := nat_of hn; rw [hx3.1] at u; rw [hk] at u0
    rw [eqi, add32 (by rw [o32]; omega) (by rw [o32]; omega), add32 (by rw [show (4 : Int32).toInt = 4 from by decide]; omega) (by rw [show (4 : Int32).toInt = 4 from by decide]; omega), o32, show (4 : Int32).toInt = 4 from by decide, u, u0] <;> omega
  obtain ⟨fs, hr, hrun, hended, hW, hsame⟩ := X4.leave (v := some (.int (x3 + (1 : Int32)))) (fun h => by rw [Bd.returns] at h; cases h)
  exact ⟨_, _, (retI X4 hx Bd.returns (hb hby d2_46) hr), hrun, hended, _, _, rfl, (by show Q2n4 Z r0 p1 p2 V k f0 h0 n0 _ T4.heap _; rw [e4]; exact ⟨(show some (Value.int (x3 + (1 : Int32))) = some (Value.int (p1 + (4 : Int32))) from by rw [hret]), N4, KK4, OArr.congr f4_Arr_0 fun i _ => canon4 (show _ = Int32.ofInt (dig 4 V 0) from digA (W := V / 1) hq0 (by omega)) (show _ = Int32.ofInt (dig 4 V 1) from digA (W := V / 128) hq1 (by omega)) (show _ = Int32.ofInt (dig 4 V 2) from digA (W := V / 16384) hq2 (by omega)) (show _ = Int32.ofInt (dig 4 V 3) from digB (W := V / 2097152) hq3 (by omega)) i⟩), ⟨_, rfl⟩, hW, hsame.mono (by decide) (by decide)⟩
theorem pn_2n5 : plainName "com/example/strict_distinct/strictdistinct/KeyBytes" = true := by first | (simp [plainName, overriddenIn]; done) | decide +kernel
theorem ef_2n5 (m : MethodId) (r0 : Addr) (p1 : Int32) (p2 : Int32) : entryFrame m #[(.ref r0), (.int p1), (.int p2)] 5 = mkF m 0 #[.val (.ref r0), .val (.int p1), .val (.int p2), .unset, .unset] [] := by first | (simp [entryFrame, mkF, argsToLocals, Value.category]; done) | rfl
def Q2n5 (Z : State) (r0 : Addr) (p1 : Int32) (p2 : Int32) (V k : Nat) (f0 : Int32) (h0 : Heap) (n0 : Nat) (v : Option Value) (h : Heap) (L : List Loc) : Prop := v = some (.int (p1 + (5 : Int32))) ∧ Fr n0 L ∧ Keep h0 h [r0] ∧ OArr Z h r0 .byte 10 (cv 5 V k f0)
set_option maxRecDepth 65536 in
set_option maxHeartbeats 40000000 in
theorem rm2n5 (l : Launch) (Z : State) (a0 : Array Value) (hw : ∀ d ∈ tables_1, d.before a0 Z = true) (ws : List Jvm.Cond) (r0 : Addr) (p1 : Int32) (p2 : Int32) (V k : Nat) (f0 : Int32) (h0 : Heap) (n0 : Nat) (Z0 : n0 ≤ h0.size) (A1 : OArr Z h0 r0 .byte 10 (fun _ => (Value.int f0))) (g_r0 : n0 ≤ r0) (hk : p1.toNatClampNeg = k) (hn : ¬ p1 < 0) (hk4 : k < 4) (hV : p2.toInt = (V : Int)) (hV1 : 268435456 ≤ V) (hV2 : V < 34359738368) (hV3 : V < 2147483648) :
    MetFree l (⟨"com/example/strict_distinct/strictdistinct/KeyBytes", "writeLength", "([BII)I"⟩ : MethodName) (head1 (Jvm.Cond.code (⟨"com/example/strict_distinct/strictdistinct/KeyBytes", "writeLength", "([BII)I"⟩ : MethodName) prog_18_method_15_code 5 (some .int) :: ws) ({ frames := 0, cells := 0, slots := 0, locals := 0 } : Room)) (fun a U => a = #[(.ref r0), (.int p1), (.int p2)] ∧ Z.Warmed39 U.vm ∧ U.heap = h0) (fun _ _ _ _ _ => True) (fun _ U o U' => ∃ v L, o = .returned v ∧ Q2n5 Z r0 p1 p2 V k f0 h0 n0 v U'.heap L ∧ FrameEnd U o U' L ({ frames := 0, cells := 0, slots := 0, locals := 0 } : Room).cells ({ frames := 0, cells := 0, slots := 0, locals := 0 } : Room).slots) := by
  refine MetFree.of_bodySF (plainFor_of_name pn_2n5) hisR ?_
  intro p e s m args below meth c s₁ Bd hml0 hP hK
  obtain ⟨rfl, hZ, hh⟩ := hP
  have hx := Bd.exec
  have hby := Bd.bytes
  have hml : c.maxLocals = 5 := hml0
  have hown : s.vm.findClass "com/example/strict_distinct/strictdistinct/KeyBytes" = some m.cls := findClass_of_methodNamed Bd.named
  have hnm := (name_of_methodNamed Bd.named Bd.method).1
  have X0 : Stand p l e ({ frames := 0, cells := 0, slots := 0, locals := 0 } : Room) s m #[(.ref r0), (.int p1), (.int p2)] below meth c s₁ [] 0 0 := Stand.of_body Bd
  have e0 : s₁.heap = h0 := by rw [← hh, Bd.state]; rfl
  have N0 := Fr.nil n0
  refine Runs.enter (ef_2n5 m r0 p1 p2) ?_
  show Runs _ _ _ _ s₁ (mkF m 0 #[.val (.ref r0), .val (.int p1), .val (.int p2), .unset, .unset] [])
  refine Runs.back (fun t_ k_ => XS.iloadN X0.here hx rfl (hb hby d2_0) rfl k_) ?_
  show Runs _ _ _ _ s₁ (mkF m 1 #[.val (.ref r0), .val (.int p1), .val (.int p2), .unset, .unset] [(.int p1)])
  refine Runs.back (fun t_ k_ => XS.istoreN X0.here hx rfl (hb hby d2_1) rfl (l' := #[.val (.ref r0), .val (.int p1), .val (.int p2), .val (.int p1), .unset]) rfl k_) ?_
  show Runs _ _ _ _ s₁ (mkF m 2 #[.val (.ref r0), .val (.int p1), .val (.int p2), .val (.int p1), .unset] [])
  refine Runs.back (fun t_ k_ => XS.iloadN X0.here hx rfl (hb hby d2_2) rfl k_) ?_
  show Runs _ _ _ _ s₁ (mkF m 3 #[.val (.ref r0), .val (.int p1), .val (.int p2), .val (.int p1), .unset] [(.int p2)])
  refine Runs.back (fun t_ k_ => XS.istore X0.here hx rfl (hb hby d2_3) rfl (l' := #[.val (.ref r0), .val (.int p1), .val (.int p2), .val (.int p1), .val (.int p2)]) rfl k_) ?_
  show Runs _ _ _ _ s₁ (mkF m 5 #[.val (.ref r0), .val (.int p1), .val (.int p2), .val (.int p1), .val (.int p2)] [])
  have hq0 : p2.toInt = ((V / 1 : Nat) : Int) := by rw [Nat.div_one]; exact hV
  have hx0 : p1.toNatClampNeg = k + 0 ∧ ¬ p1 < 0 := ⟨hk, hn⟩
  refine Runs.back (fun t_ k_ => XS.iload X0.here hx rfl (hb hby d2_5) rfl k_) ?_
  show Runs _ _ _ _ s₁ (mkF m 7 #[.val (.ref r0), .val (.int p1), .val (.int p2), .val (.int p1), .val (.int p2)] [(.int p2)])
  refine Runs.back (fun t_ k_ => XS.sipush X0.here hx rfl (hb hby d2_7) k_) ?_
  show Runs _ _ _ _ s₁ (mkF m 10 #[.val (.ref r0), .val (.int p1), .val (.int p2), .val (.int p1), .val (.int p2)] [(.int (128 : Int32)), (.int p2)])
  refine Runs.back (fun t_ k_ => XS.icmpNo X0.here hx rfl (hb hby d2_10) rfl (flt (show ¬ (p2 < (128 : Int32)) from (by rw [lti, hq0, show (128 : Int32).toInt = 128 from by decide]; omega))).1 k_) ?_
  show Runs _ _ _ _ s₁ (mkF m 13 #[.val (.ref r0), .val (.int p1), .val (.int p2), .val (.int p1), .val (.int p2)] [])
  refine Runs.back (fun t_ k_ => XS.aloadN X0.here hx rfl (hb hby d2_13) rfl rfl k_) ?_
  show Runs _ _ _ _ s₁ (mkF m 14 #[.val (.ref r0), .val (.int p1), .val (.int p2), .val (.int p1), .val (.int p2)] [(.ref r0)])
  refine Runs.back (fun t_ k_ => XS.iloadN X0.here hx rfl (hb hby d2_14) rfl k_) ?_
  show Runs _ _ _ _ s₁ (mkF m 15 #[.val (.ref r0), .val (.int p1), .val (.int p2), .val (.int p1), .val (.int p2)] [(.int p1), (.ref r0)])
  refine Runs.back (fun t_ k_ => XS.iinc X0.here hx rfl (hb hby d2_15) rfl (l' := #[.val (.ref r0), .val (.int p1), .val (.int p2), .val (.int (p1 + (1 : Int32))), .val (.int p2)]) rfl k_) ?_
  show Runs _ _ _ _ s₁ (mkF m 18 #[.val (.ref r0), .val (.int p1), .val (.int p2), .val (.int (p1 + (1 : Int32))), .val (.int p2)] [(.int p1), (.ref r0)])
  refine Runs.back (fun t_ k_ => XS.iload X0.here hx rfl (hb hby d2_18) rfl k_) ?_
  show Runs _ _ _ _ s₁ (mkF m 20 #[.val (.ref r0), .val (.int p1), .val (.int p2), .val (.int (p1 + (1 : Int32))), .val (.int p2)] [(.int p2), (.int p1), (.ref r0)])
  refine Runs.back (fun t_ k_ => XS.sipush X0.here hx rfl (hb hby d2_20) k_) ?_
  show Runs _ _ _ _ s₁ (mkF m 23 #[.val (.ref r0), .val (.int p1), .val (.int p2), .val (.int (p1 + (1 : Int32))), .val (.int p2)] [(.int (128 : Int32)), (.int p2), (.int p1), (.ref r0)])
  refine Runs.back (fun t_ k_ => XS.ior X0.here hx rfl (hb hby d2_23) rfl k_) ?_
  show Runs _ _ _ _ s₁ (mkF m 24 #[.val (.ref r0), .val (.int p1), .val (.int p2), .val (.int (p1 + (1 : Int32))), .val (.int p2)] [(.int (p2 ||| (128 : Int32))), (.int p1), (.ref r0)])
  refine Runs.back (fun t_ k_ => XS.i2b X0.here hx rfl (hb hby d2_24) rfl k_) ?_
  show Runs _ _ _ _ s₁ (mkF m 25 #[.val (.ref r0), .val (.int p1), .val (.int p2), .val (.int (p1 + (1 : Int32))), .val (.int p2)] [(.int ((p2 ||| (128 : Int32)).toInt8.toInt32)), (.int p1), (.ref r0)])
  obtain ⟨cl1, Ar1, S1, Hs1⟩ := id A1
  obtain ⟨T1, h1, X1, e1, W1, st1⟩ := stB X0 hx hZ e0 Ar1 (j := p1) (by rw [S1]; exact (inbO hx0.2 hx0.1 (show (k + 0) < 10 from (by first | omega | decide)))) (g := (mkF m 25 #[.val (.ref r0), .val (.int p1), .val (.int p2), .val (.int (p1 + (1 : Int32))), .val (.int p2)] [(.int ((p2 ||| (128 : Int32)).toInt8.toInt32)), (.int p1), (.ref r0)])) rfl rfl (hb hby d2_25)
  have N1 := Fr.snoc X1 N0 g_r0
  obtain ⟨L1, X1, N1⟩ := hideL X1 N1
  rw [hx0.1] at W1
  have f1_Arr_0 : OArr Z h1 r0 .byte 10 (fun i => if i = (k + 0) then (Value.int (nar .byte ((p2 ||| (128 : Int32)).toInt8.toInt32))) else (fun _ => (Value.int f0)) i) := A1.set W1
  have KK1 : Keep h0 h1 [r0] := Keep.wr (Keep.refl h0 [r0]) W1 (Or.inl (List.mem_of_getElem? (i := 0) rfl))
  have Z1 : n0 ≤ h1.size := Nat.le_trans (Z0) (Nat.le_of_eq W1.size.symm)
  refine Runs.back st1 ?_
  show Runs _ _ _ _ T1 (mkF m 26 #[.val (.ref r0), .val (.int p1), .val (.int p2), .val (.int (p1 + (1 : Int32))), .val (.int p2)] [])
  refine Runs.back (fun t_ k_ => XS.iload X1.here hx rfl (hb hby d2_26) rfl k_) ?_
  show Runs _ _ _ _ T1 (mkF m 28 #[.val (.ref r0), .val (.int p1), .val (.int p2), .val (.int (p1 + (1 : Int32))), .val (.int p2)] [(.int p2)])
  refine Runs.back (fun t_ k_ => XS.bipush X1.here hx rfl (hb hby d2_28) k_) ?_
  show Runs _ _ _ _ T1 (mkF m 30 #[.val (.ref r0), .val (.int p1), .val (.int p2), .val (.int (p1 + (1 : Int32))), .val (.int p2)] [(.int (7 : Int32)), (.int p2)])
  refine Runs.back (fun t_ k_ => XS.iushr X1.here hx rfl (hb hby d2_30) rfl k_) ?_
  show Runs _ _ _ _ T1 (mkF m 31 #[.val (.ref r0), .val (.int p1), .val (.int p2), .val (.int (p1 + (1 : Int32))), .val (.int p2)] [(.int ((p2.toUInt32 >>> ((7 : Int32) &&& 31).toUInt32).toInt32))])
  refine Runs.back (fun t_ k_ => XS.istore X1.here hx rfl (hb hby d2_31) rfl (l' := #[.val (.ref r0), .val (.int p1), .val (.int p2), .val (.int (p1 + (1 : Int32))), .val (.int ((p2.toUInt32 >>> ((7 : Int32) &&& 31).toUInt32).toInt32))]) rfl k_) ?_
  show Runs _ _ _ _ T1 (mkF m 33 #[.val (.ref r0), .val (.int p1), .val (.int p2), .val (.int (p1 + (1 : Int32))), .val (.int ((p2.toUInt32 >>> ((7 : Int32) &&& 31).toUInt32).toInt32))] [])
  refine Runs.back (fun t_ k_ => XS.goto X1.here hx rfl (pc0 := 33) (pc' := 5) rfl (hb hby d2_33) (by decide) (by decide) k_) ?_
  show Runs _ _ _ _ T1 (mkF m 5 #[.val (.ref r0), .val (.int p1), .val (.int p2), .val (.int (p1 + (1 : Int32))), .val (.int ((p2.toUInt32 >>> ((7 : Int32) &&& 31).toUInt32).toInt32))] [])
  have hq1 : (((p2.toUInt32 >>> ((7 : Int32) &&& 31).toUInt32).toInt32)).toInt = ((V / 128 : Nat) : Int) := by have z := ush7 hq0 (by omega); rw [z]; omega
  generalize eq1 : ((p2.toUInt32 >>> ((7 : Int32) &&& 31).toUInt32).toInt32) = q1 at hq1 ⊢
  have hx1 : ((p1 + (1 : Int32))).toNatClampNeg = k + 1 ∧ ¬ (p1 + (1 : Int32)) < 0 := idxS (d := 1) hx0.1 hx0.2 (by decide) (by omega)
  generalize ex1 : (p1 + (1 : Int32)) = x1 at hx1 ⊢
  show Runs _ _ _ _ T1 (mkF m 5 #[.val (.ref r0), .val (.int p1), .val (.int p2), .val (.int x1), .val (.int q1)] [])
  refine Runs.back (fun t_ k_ => XS.iload X1.here hx rfl (hb hby d2_5) rfl k_) ?_
  show Runs _ _ _ _ T1 (mkF m 7 #[.val (.ref r0), .val (.int p1), .val (.int p2), .val (.int x1), .val (.int q1)] [(.int q1)])
  refine Runs.back (fun t_ k_ => XS.sipush X1.here hx rfl (hb hby d2_7) k_) ?_
  show Runs _ _ _ _ T1 (mkF m 10 #[.val (.ref r0), .val (.int p1), .val (.int p2), .val (.int x1), .val (.int q1)] [(.int (128 : Int32)), (.int q1)])
  refine Runs.back (fun t_ k_ => XS.icmpNo X1.here hx rfl (hb hby d2_10) rfl (flt (show ¬ (q1 < (128 : Int32)) from (by rw [lti, hq1, show (128 : Int32).toInt = 128 from by decide]; omega))).1 k_) ?_
  show Runs _ _ _ _ T1 (mkF m 13 #[.val (.ref r0), .val (.int p1), .val (.int p2), .val (.int x1), .val (.int q1)] [])
  refine Runs.back (fun t_ k_ => XS.aloadN X1.here hx rfl (hb hby d2_13) rfl rfl k_) ?_
  show Runs _ _ _ _ T1 (mkF m 14 #[.val (.ref r0), .val (.int p1), .val (.int p2), .val (.int x1), .val (.int q1)] [(.ref r0)])
  refine Runs.back (fun t_ k_ => XS.iloadN X1.here hx rfl (hb hby d2_14) rfl k_) ?_
  show Runs _ _ _ _ T1 (mkF m 15 #[.val (.ref r0), .val (.int p1), .val (.int p2), .val (.int x1), .val (.int q1)] [(.int x1), (.ref r0)])
  refine Runs.back (fun t_ k_ => XS.iinc X1.here hx rfl (hb hby d2_15) rfl (l' := #[.val (.ref r0), .val (.int p1), .val (.int p2), .val (.int (x1 + (1 : Int32))), .val (.int q1)]) rfl k_) ?_
  show Runs _ _ _ _ T1 (mkF m 18 #[.val (.ref r0), .val (.int p1), .val (.int p2), .val (.int (x1 + (1 : Int32))), .val (.int q1)] [(.int x1), (.ref r0)])
  refine Runs.back (fun t_ k_ => XS.iload X1.here hx rfl (hb hby d2_18) rfl k_) ?_
  show Runs _ _ _ _ T1 (mkF m 20 #[.val (.ref r0), .val (.int p1), .val (.int p2), .val (.int (x1 + (1 : Int32))), .val (.int q1)] [(.int q1), (.int x1), (.ref r0)])
  refine Runs.back (fun t_ k_ => XS.sipush X1.here hx rfl (hb hby d2_20) k_) ?_
  show Runs _ _ _ _ T1 (mkF m 23 #[.val (.ref r0), .val (.int p1), .val (.int p2), .val (.int (x1 + (1 : Int32))), .val (.int q1)] [(.int (128 : Int32)), (.int q1), (.int x1), (.ref r0)])
  refine Runs.back (fun t_ k_ => XS.ior X1.here hx rfl (hb hby d2_23) rfl k_) ?_
  show Runs _ _ _ _ T1 (mkF m 24 #[.val (.ref r0), .val (.int p1), .val (.int p2), .val (.int (x1 + (1 : Int32))), .val (.int q1)] [(.int (q1 ||| (128 : Int32))), (.int x1), (.ref r0)])
  refine Runs.back (fun t_ k_ => XS.i2b X1.here hx rfl (hb hby d2_24) rfl k_) ?_
  show Runs _ _ _ _ T1 (mkF m 25 #[.val (.ref r0), .val (.int p1), .val (.int p2), .val (.int (x1 + (1 : Int32))), .val (.int q1)] [(.int ((q1 ||| (128 : Int32)).toInt8.toInt32)), (.int x1), (.ref r0)])
  obtain ⟨cl2, Ar2, S2, Hs2⟩ := id f1_Arr_0
  obtain ⟨T2, h2, X2, e2, W2, st2⟩ := stB X1 hx hZ e1 Ar2 (j := x1) (by rw [S2]; exact (inbO hx1.2 hx1.1 (show (k + 1) < 10 from (by first | omega | decide)))) (g := (mkF m 25 #[.val (.ref r0), .val (.int p1), .val (.int p2), .val (.int (x1 + (1 : Int32))), .val (.int q1)] [(.int ((q1 ||| (128 : Int32)).toInt8.toInt32)), (.int x1), (.ref r0)])) rfl rfl (hb hby d2_25)
  have N2 := Fr.snoc X2 N1 g_r0
  obtain ⟨L2, X2, N2⟩ := hideL X2 N2
  rw [hx1.1] at W2
  have f2_Arr_0 : OArr Z h2 r0 .byte 10 (fun i => if i = (k + 1) then (Value.int (nar .byte ((q1 ||| (128 : Int32)).toInt8.toInt32))) else (fun i => if i = (k + 0) then (Value.int (nar .byte ((p2 ||| (128 : Int32)).toInt8.toInt32))) else (fun _ => (Value.int f0)) i) i) := f1_Arr_0.set W2
  have KK2 : Keep h0 h2 [r0] := Keep.wr KK1 W2 (Or.inl (List.mem_of_getElem? (i := 0) rfl))
  have Z2 : n0 ≤ h2.size := Nat.le_trans (Z1) (Nat.le_of_eq W2.size.symm)
  refine Runs.back st2 ?_
  show Runs _ _ _ _ T2 (mkF m 26 #[.val (.ref r0), .val (.int p1), .val (.int p2), .val (.int (x1 + (1 : Int32))), .val (.int q1)] [])
  refine Runs.back (fun t_ k_ => XS.iload X2.here hx rfl (hb hby d2_26) rfl k_) ?_
  show Runs _ _ _ _ T2 (mkF m 28 #[.val (.ref r0), .val (.int p1), .val (.int p2), .val (.int (x1 + (1 : Int32))), .val (.int q1)] [(.int q1)])
  refine Runs.back (fun t_ k_ => XS.bipush X2.here hx rfl (hb hby d2_28) k_) ?_
  show Runs _ _ _ _ T2 (mkF m 30 #[.val (.ref r0), .val (.int p1), .val (.int p2), .val (.int (x1 + (1 : Int32))), .val (.int q1)] [(.int (7 : Int32)), (.int q1)])
  refine Runs.back (fun t_ k_ => XS.iushr X2.here hx rfl (hb hby d2_30) rfl k_) ?_
  show Runs _ _ _ _ T2 (mkF m 31 #[.val (.ref r0), .val (.int p1), .val (.int p2), .val (.int (x1 + (1 : Int32))), .val (.int q1)] [(.int ((q1.toUInt32 >>> ((7 : Int32) &&& 31).toUInt32).toInt32))])
  refine Runs.back (fun t_ k_ => XS.istore X2.here hx rfl (hb hby d2_31) rfl (l' := #[.val (.ref r0), .val (.int p1), .val (.int p2), .val (.int (x1 + (1 : Int32))), .val (.int ((q1.toUInt32 >>> ((7 : Int32) &&& 31).toUInt32).toInt32))]) rfl k_) ?_
  show Runs _ _ _ _ T2 (mkF m 33 #[.val (.ref r0), .val (.int p1), .val (.int p2), .val (.int (x1 + (1 : Int32))), .val (.int ((q1.toUInt32 >>> ((7 : Int32) &&& 31).toUInt32).toInt32))] [])
  refine Runs.back (fun t_ k_ => XS.goto X2.here hx rfl (pc0 := 33) (pc' := 5) rfl (hb hby d2_33) (by decide) (by decide) k_) ?_
  show Runs _ _ _ _ T2 (mkF m 5 #[.val (.ref r0), .val (.int p1), .val (.int p2), .val (.int (x1 + (1 : Int32))), .val (.int ((q1.toUInt32 >>> ((7 : Int32) &&& 31).toUInt32).toInt32))] [])
  have hq2 : (((q1.toUInt32 >>> ((7 : Int32) &&& 31).toUInt32).toInt32)).toInt = ((V / 16384 : Nat) : Int) := by have z := ush7 hq1 (by omega); rw [z]; omega
  generalize eq2 : ((q1.toUInt32 >>> ((7 : Int32) &&& 31).toUInt32).toInt32) = q2 at hq2 ⊢
  have hx2 : ((x1 + (1 : Int32))).toNatClampNeg = k + 2 ∧ ¬ (x1 + (1 : Int32)) < 0 := idxS (d := 1) hx1.1 hx1.2 (by decide) (by omega)
  generalize ex2 : (x1 + (1 : Int32)) = x2 at hx2 ⊢
  show Runs _ _ _ _ T2 (mkF m 5 #[.val (.ref r0), .val (.int p1), .val (.int p2), .val (.int x2), .val (.int q2)] [])
  refine Runs.back (fun t_ k_ => XS.iload X2.here hx rfl (hb hby d2_5) rfl k_) ?_
  show Runs _ _ _ _ T2 (mkF m 7 #[.val (.ref r0), .val (.int p1), .val (.int p2), .val (.int x2), .val (.int q2)] [(.int q2)])
  refine Runs.back (fun t_ k_ => XS.sipush X2.here hx rfl (hb hby d2_7) k_) ?_
  show Runs _ _ _ _ T2 (mkF m 10 #[.val (.ref r0), .val (.int p1), .val (.int p2), .val (.int x2), .val (.int q2)] [(.int (128 : Int32)), (.int q2)])
  refine Runs.back (fun t_ k_ => XS.icmpNo X2.here hx rfl (hb hby d2_10) rfl (flt (show ¬ (q2 < (128 : Int32)) from (by rw [lti, hq2, show (128 : Int32).toInt = 128 from by decide]; omega))).1 k_) ?_
  show Runs _ _ _ _ T2 (mkF m 13 #[.val (.ref r0), .val (.int p1), .val (.int p2), .val (.int x2), .val (.int q2)] [])
  refine Runs.back (fun t_ k_ => XS.aloadN X2.here hx rfl (hb hby d2_13) rfl rfl k_) ?_
  show Runs _ _ _ _ T2 (mkF m 14 #[.val (.ref r0), .val (.int p1), .val (.int p2), .val (.int x2), .val (.int q2)] [(.ref r0)])
  refine Runs.back (fun t_ k_ => XS.iloadN X2.here hx rfl (hb hby d2_14) rfl k_) ?_
  show Runs _ _ _ _ T2 (mkF m 15 #[.val (.ref r0), .val (.int p1), .val (.int p2), .val (.int x2), .val (.int q2)] [(.int x2), (.ref r0)])
  refine Runs.back (fun t_ k_ => XS.iinc X2.here hx rfl (hb hby d2_15) rfl (l' := #[.val (.ref r0), .val (.int p1), .val (.int p2), .val (.int (x2 + (1 : Int32))), .val (.int q2)]) rfl k_) ?_
  show Runs _ _ _ _ T2 (mkF m 18 #[.val (.ref r0), .val (.int p1), .val (.int p2), .val (.int (x2 + (1 : Int32))), .val (.int q2)] [(.int x2), (.ref r0)])
  refine Runs.back (fun t_ k_ => XS.iload X2.here hx rfl (hb hby d2_18) rfl k_) ?_
  show Runs _ _ _ _ T2 (mkF m 20 #[.val (.ref r0), .val (.int p1), .val (.int p2), .val (.int (x2 + (1 : Int32))), .val (.int q2)] [(.int q2), (.int x2), (.ref r0)])
  refine Runs.back (fun t_ k_ => XS.sipush X2.here hx rfl (hb hby d2_20) k_) ?_
  show Runs _ _ _ _ T2 (mkF m 23 #[.val (.ref r0), .val (.int p1), .val (.int p2), .val (.int (x2 + (1 : Int32))), .val (.int q2)] [(.int (128 : Int32)), (.int q2), (.int x2), (.ref r0)])
  refine Runs.back (fun t_ k_ => XS.ior X2.here hx rfl (hb hby d2_23) rfl k_) ?_
  show Runs _ _ _ _ T2 (mkF m 24 #[.val (.ref r0), .val (.int p1), .val (.int p2), .val (.int (x2 + (1 : Int32))), .val (.int q2)] [(.int (q2 ||| (128 : Int32))), (.int x2), (.ref r0)])
  refine Runs.back (fun t_ k_ => XS.i2b X2.here hx rfl (hb hby d2_24) rfl k_) ?_
  show Runs _ _ _ _ T2 (mkF m 25 #[.val (.ref r0), .val (.int p1), .val (.int p2), .val (.int (x2 + (1 : Int32))), .val (.int q2)] [(.int ((q2 ||| (128 : Int32)).toInt8.toInt32)), (.int x2), (.ref r0)])
  obtain ⟨cl3, Ar3, S3, Hs3⟩ := id f2_Arr_0
  obtain ⟨T3, h3, X3, e3, W3, st3⟩ := stB X2 hx hZ e2 Ar3 (j := x2) (by rw [S3]; exact (inbO hx2.2 hx2.1 (show (k + 2) < 10 from (by first | omega | decide)))) (g := (mkF m 25 #[.val (.ref r0), .val (.int p1), .val (.int p2), .val (.int (x2 + (1 : Int32))), .val (.int q2)] [(.int ((q2 ||| (128 : Int32)).toInt8.toInt32)), (.int x2), (.ref r0)])) rfl rfl (hb hby d2_25)
  have N3 := Fr.snoc X3 N2 g_r0
  obtain ⟨L3, X3, N3⟩ := hideL X3 N3
  rw [hx2.1] at W3
  have f3_Arr_0 : OArr Z h3 r0 .byte 10 (fun i => if i = (k + 2) then (Value.int (nar .byte ((q2 ||| (128 : Int32)).toInt8.toInt32))) else (fun i => if i = (k + 1) then (Value.int (nar .byte ((q1 ||| (128 : Int32)).toInt8.toInt32))) else (fun i => if i = (k + 0) then (Value.int (nar .byte ((p2 ||| (128 : Int32)).toInt8.toInt32))) else (fun _ => (Value.int f0)) i) i) i) := f2_Arr_0.set W3
  have KK3 : Keep h0 h3 [r0] := Keep.wr KK2 W3 (Or.inl (List.mem_of_getElem? (i := 0) rfl))
  have Z3 : n0 ≤ h3.size := Nat.le_trans (Z2) (Nat.le_of_eq W3.size.symm)
  refine Runs.back st3 ?_
  show Runs _ _ _ _ T3 (mkF m 26 #[.val (.ref r0), .val (.int p1), .val (.int p2), .val (.int (x2 + (1 : Int32))), .val (.int q2)] [])
  refine Runs.back (fun t_ k_ => XS.iload X3.here hx rfl (hb hby d2_26) rfl k_) ?_
  show Runs _ _ _ _ T3 (mkF m 28 #[.val (.ref r0), .val (.int p1), .val (.int p2), .val (.int (x2 + (1 : Int32))), .val (.int q2)] [(.int q2)])
  refine Runs.back (fun t_ k_ => XS.bipush X3.here hx rfl (hb hby d2_28) k_) ?_
  show Runs _ _ _ _ T3 (mkF m 30 #[.val (.ref r0), .val (.int p1), .val (.int p2), .val (.int (x2 + (1 : Int32))), .val (.int q2)] [(.int (7 : Int32)), (.int q2)])
  refine Runs.back (fun t_ k_ => XS.iushr X3.here hx rfl (hb hby d2_30) rfl k_) ?_
  show Runs _ _ _ _ T3 (mkF m 31 #[.val (.ref r0), .val (.int p1), .val (.int p2), .val (.int (x2 + (1 : Int32))), .val (.int q2)] [(.int ((q2.toUInt32 >>> ((7 : Int32) &&& 31).toUInt32).toInt32))])
  refine Runs.back (fun t_ k_ => XS.istore X3.here hx rfl (hb hby d2_31) rfl (l' := #[.val (.ref r0), .val (.int p1), .val (.int p2), .val (.int (x2 + (1 : Int32))), .val (.int ((q2.toUInt32 >>> ((7 : Int32) &&& 31).toUInt32).toInt32))]) rfl k_) ?_
  show Runs _ _ _ _ T3 (mkF m 33 #[.val (.ref r0), .val (.int p1), .val (.int p2), .val (.int (x2 + (1 : Int32))), .val (.int ((q2.toUInt32 >>> ((7 : Int32) &&& 31).toUInt32).toInt32))] [])
  refine Runs.back (fun t_ k_ => XS.goto X3.here hx rfl (pc0 := 33) (pc' := 5) rfl (hb hby d2_33) (by decide) (by decide) k_) ?_
  show Runs _ _ _ _ T3 (mkF m 5 #[.val (.ref r0), .val (.int p1), .val (.int p2), .val (.int (x2 + (1 : Int32))), .val (.int ((q2.toUInt32 >>> ((7 : Int32) &&& 31).toUInt32).toInt32))] [])
  have hq3 : (((q2.toUInt32 >>> ((7 : Int32) &&& 31).toUInt32).toInt32)).toInt = ((V / 2097152 : Nat) : Int) := by have z := ush7 hq2 (by omega); rw [z]; omega
  generalize eq3 : ((q2.toUInt32 >>> ((7 : Int32) &&& 31).toUInt32).toInt32) = q3 at hq3 ⊢
  have hx3 : ((x2 + (1 : Int32))).toNatClampNeg = k + 3 ∧ ¬ (x2 + (1 : Int32)) < 0 := idxS (d := 1) hx2.1 hx2.2 (by decide) (by omega)
  generalize ex3 : (x2 + (1 : Int32)) = x3 at hx3 ⊢
  show Runs _ _ _ _ T3 (mkF m 5 #[.val (.ref r0), .val (.int p1), .val (.int p2), .val (.int x3), .val (.int q3)] [])
  refine Runs.back (fun t_ k_ => XS.iload X3.here hx rfl (hb hby d2_5) rfl k_) ?_
  show Runs _ _ _ _ T3 (mkF m 7 #[.val (.ref r0), .val (.int p1), .val (.int p2), .val (.int x3), .val (.int q3)] [(.int q3)])
  refine Runs.back (fun t_ k_ => XS.sipush X3.here hx rfl (hb hby d2_7) k_) ?_
  show Runs _ _ _ _ T3 (mkF m 10 #[.val (.ref r0), .val (.int p1), .val (.int p2), .val (.int x3), .val (.int q3)] [(.int (128 : Int32)), (.int q3)])
  refine Runs.back (fun t_ k_ => XS.icmpNo X3.here hx rfl (hb hby d2_10) rfl (flt (show ¬ (q3 < (128 : Int32)) from (by rw [lti, hq3, show (128 : Int32).toInt = 128 from by decide]; omega))).1 k_) ?_
  show Runs _ _ _ _ T3 (mkF m 13 #[.val (.ref r0), .val (.int p1), .val (.int p2), .val (.int x3), .val (.int q3)] [])
  refine Runs.back (fun t_ k_ => XS.aloadN X3.here hx rfl (hb hby d2_13) rfl rfl k_) ?_
  show Runs _ _ _ _ T3 (mkF m 14 #[.val (.ref r0), .val (.int p1), .val (.int p2), .val (.int x3), .val (.int q3)] [(.ref r0)])
  refine Runs.back (fun t_ k_ => XS.iloadN X3.here hx rfl (hb hby d2_14) rfl k_) ?_
  show Runs _ _ _ _ T3 (mkF m 15 #[.val (.ref r0), .val (.int p1), .val (.int p2), .val (.int x3), .val (.int q3)] [(.int x3), (.ref r0)])
  refine Runs.back (fun t_ k_ => XS.iinc X3.here hx rfl (hb hby d2_15) rfl (l' := #[.val (.ref r0), .val (.int p1), .val (.int p2), .val (.int (x3 + (1 : Int32))), .val (.int q3)]) rfl k_) ?_
  show Runs _ _ _ _ T3 (mkF m 18 #[.val (.ref r0), .val (.int p1), .val (.int p2), .val (.int (x3 + (1 : Int32))), .val (.int q3)] [(.int x3), (.ref r0)])
  refine Runs.back (fun t_ k_ => XS.iload X3.here hx rfl (hb hby d2_18) rfl k_) ?_
  show Runs _ _ _ _ T3 (mkF m 20 #[.val (.ref r0), .val (.int p1), .val (.int p2), .val (.int (x3 + (1 : Int32))), .val (.int q3)] [(.int q3), (.int x3), (.ref r0)])
  refine Runs.back (fun t_ k_ => XS.sipush X3.here hx rfl (hb hby d2_20) k_) ?_
  show Runs _ _ _ _ T3 (mkF m 23 #[.val (.ref r0), .val (.int p1), .val (.int p2), .val (.int (x3 + (1 : Int32))), .val (.int q3)] [(.int (128 : Int32)), (.int q3), (.int x3), (.ref r0)])
  refine Runs.back (fun t_ k_ => XS.ior X3.here hx rfl (hb hby d2_23) rfl k_) ?_
  show Runs _ _ _ _ T3 (mkF m 24 #[.val (.ref r0), .val (.int p1), .val (.int p2), .val (.int (x3 + (1 : Int32))), .val (.int q3)] [(.int (q3 ||| (128 : Int32))), (.int x3), (.ref r0)])
  refine Runs.back (fun t_ k_ => XS.i2b X3.here hx rfl (hb hby d2_24) rfl k_) ?_
  show Runs _ _ _ _ T3 (mkF m 25 #[.val (.ref r0), .val (.int p1), .val (.int p2), .val (.int (x3 + (1 : Int32))), .val (.int q3)] [(.int ((q3 ||| (128 : Int32)).toInt8.toInt32)), (.int x3), (.ref r0)])
  obtain ⟨cl4, Ar4, S4, Hs4⟩ := id f3_Arr_0
  obtain ⟨T4, h4, X4, e4, W4, st4⟩ := stB X3 hx hZ e3 Ar4 (j := x3) (by rw [S4]; exact (inbO hx3.2 hx3.1 (show (k + 3) < 10 from (by first | omega | decide)))) (g := (mkF m 25 #[.val (.ref r0), .val (.int p1), .val (.int p2), .val (.int (x3 + (1 : Int32))), .val (.int q3)] [(.int ((q3 ||| (128 : Int32)).toInt8.toInt32)), (.int x3), (.ref r0)])) rfl rfl (hb hby d2_25)
  have N4 := Fr.snoc X4 N3 g_r0
  obtain ⟨L4, X4, N4⟩ := hideL X4 N4
  rw [hx3.1] at W4
  have f4_Arr_0 : OArr Z h4 r0 .byte 10 (fun i => if i = (k + 3) then (Value.int (nar .byte ((q3 ||| (128 : Int32)).toInt8.toInt32))) else (fun i => if i = (k + 2) then (Value.int (nar .byte ((q2 ||| (128 : Int32)).toInt8.toInt32))) else (fun i => if i = (k + 1) then (Value.int (nar .byte ((q1 ||| (128 : Int32)).toInt8.toInt32))) else (fun i => if i = (k + 0) then (Value.int (nar .byte ((p2 ||| (128 : Int32)).toInt8.toInt32))) else (fun _ => (Value.int f0)) i) i) i) i) := f3_Arr_0.set W4
  have KK4 : Keep h0 h4 [r0] := Keep.wr KK3 W4 (Or.inl (List.mem_of_getElem? (i := 0) rfl))
  have Z4 : n0 ≤ h4.size := Nat.le_trans (Z3) (Nat.le_of_eq W4.size.symm)
  refine Runs.back st4 ?_
  show Runs _ _ _ _ T4 (mkF m 26 #[.val (.ref r0), .val (.int p1), .val (.int p2), .val (.int (x3 + (1 : Int32))), .val (.int q3)] [])
  refine Runs.back (fun t_ k_ => XS.iload X4.here hx rfl (hb hby d2_26) rfl k_) ?_
  show Runs _ _ _ _ T4 (mkF m 28 #[.val (.ref r0), .val (.int p1), .val (.int p2), .val (.int (x3 + (1 : Int32))), .val (.int q3)] [(.int q3)])
  refine Runs.back (fun t_ k_ => XS.bipush X4.here hx rfl (hb hby d2_28) k_) ?_
  show Runs _ _ _ _ T4 (mkF m 30 #[.val (.ref r0), .val (.int p1), .val (.int p2), .val (.int (x3 + (1 : Int32))), .val (.int q3)] [(.int (7 : Int32)), (.int q3)])
  refine Runs.back (fun t_ k_ => XS.iushr X4.here hx rfl (hb hby d2_30) rfl k_) ?_
  show Runs _ _ _ _ T4 (mkF m 31 #[.val (.ref r0), .val (.int p1), .val (.int p2), .val (.int (x3 + (1 : Int32))), .val (.int q3)] [(.int ((q3.toUInt32 >>> ((7 : Int32) &&& 31).toUInt32).toInt32))])
  refine Runs.back (fun t_ k_ => XS.istore X4.here hx rfl (hb hby d2_31) rfl (l' := #[.val (.ref r0), .val (.int p1), .val (.int p2), .val (.int (x3 + (1 : Int32))), .val (.int ((q3.toUInt32 >>> ((7 : Int32) &&& 31).toUInt32).toInt32))]) rfl k_) ?_
  show Runs _ _ _ _ T4 (mkF m 33 #[.val (.ref r0), .val (.int p1), .val (.int p2), .val (.int (x3 + (1 : Int32))), .val (.int ((q3.toUInt32 >>> ((7 : Int32) &&& 31).toUInt32).toInt32))] [])
  refine Runs.back (fun t_ k_ => XS.goto X4.here hx rfl (pc0 := 33) (pc' := 5) rfl (hb hby d2_33) (by decide) (by decide) k_) ?_
  show Runs _ _ _ _ T4 (mkF m 5 #[.val (.ref r0), .val (.int p1), .val (.int p2), .val (.int (x3 + (1 : Int32))), .val (.int ((q3.toUInt32 >>> ((7 : Int32) &&& 31).toUInt32).toInt32))] [])
  have hq4 : (((q3.toUInt32 >>> ((7 : Int32) &&& 31).toUInt32).toInt32)).toInt = ((V / 268435456 : Nat) : Int) := by have z := ush7 hq3 (by omega); rw [z]; omega
  generalize eq4 : ((q3.toUInt32 >>> ((7 : Int32) &&& 31).toUInt32).toInt32) = q4 at hq4 ⊢
  have hx4 : ((x3 + (1 : Int32))).toNatClampNeg = k + 4 ∧ ¬ (x3 + (1 : Int32)) < 0 := idxS (d := 1) hx3.1 hx3.2 (by decide) (by omega)
  generalize ex4 : (x3 + (1 : Int32)) = x4 at hx4 ⊢
  show Runs _ _ _ _ T4 (mkF m 5 #[.val (.ref r0), .val (.int p1), .val (.int p2), .val (.int x4), .val (.int q4)] [])
  refine Runs.back (fun t_ k_ => XS.iload X4.here hx rfl (hb hby d2_5) rfl k_) ?_
  show Runs _ _ _ _ T4 (mkF m 7 #[.val (.ref r0), .val (.int p1), .val (.int p2), .val (.int x4), .val (.int q4)] [(.int q4)])
  refine Runs.back (fun t_ k_ => XS.sipush X4.here hx rfl (hb hby d2_7) k_) ?_
  show Runs _ _ _ _ T4 (mkF m 10 #[.val (.ref r0), .val (.int p1), .val (.int p2), .val (.int x4), .val (.int q4)] [(.int (128 : Int32)), (.int q4)])
  refine Runs.back (fun t_ k_ => XS.icmpYes X4.here hx rfl (pc0 := 10) (pc' := 36) rfl (hb hby d2_10) rfl (tlt (show q4 < (128 : Int32) from (by rw [lti, hq4, show (128 : Int32).toInt = 128 from by decide]; omega))).1 (by decide) (by decide) k_) ?_
  show Runs _ _ _ _ T4 (mkF m 36 #[.val (.ref r0), .val (.int p1), .val (.int p2), .val (.int x4), .val (.int q4)] [])
  refine Runs.back (fun t_ k_ => XS.aloadN X4.here hx rfl (hb hby d2_36) rfl rfl k_) ?_
  show Runs _ _ _ _ T4 (mkF m 37 #[.val (.ref r0), .val (.int p1), .val (.int p2), .val (.int x4), .val (.int q4)] [(.ref r0)])
  refine Runs.back (fun t_ k_ => XS.iloadN X4.here hx rfl (hb hby d2_37) rfl k_) ?_
  show Runs _ _ _ _ T4 (mkF m 38 #[.val (.ref r0), .val (.int p1), .val (.int p2), .val (.int x4), .val (.int q4)] [(.int x4), (.ref r0)])
  refine Runs.back (fun t_ k_ => XS.iinc X4.here hx rfl (hb hby d2_38) rfl (l' := #[.val (.ref r0), .val (.int p1), .val (.int p2), .val (.int (x4 + (1 : Int32))), .val (.int q4)]) rfl k_) ?_
  show Runs _ _ _ _ T4 (mkF m 41 #[.val (.ref r0), .val (.int p1), .val (.int p2), .val (.int (x4 + (1 : Int32))), .val (.int q4)] [(.int x4), (.ref r0)])
  refine Runs.back (fun t_ k_ => XS.iload X4.here hx rfl (hb hby d2_41) rfl k_) ?_
  show Runs _ _ _ _ T4 (mkF m 43 #[.val (.ref r0), .val (.int p1), .val (.int p2), .val (.int (x4 + (1 : Int32))), .val (.int q4)] [(.int q4), (.int x4), (.ref r0)])
  refine Runs.back (fun t_ k_ => XS.i2b X4.here hx rfl (hb hby d2_43) rfl k_) ?_
  show Runs _ _ _ _ T4 (mkF m 44 #[.val (.ref r0), .val (.int p1), .val (.int p2), .val (.int (x4 + (1 : Int32))), .val (.int q4)] [(.int (q4.toInt8.toInt32)), (.int x4), (.ref r0)])
  obtain ⟨cl5, Ar5, S5, Hs5⟩ := id f4_Arr_0
  obtain ⟨T5, h5, X5, e5, W5, st5⟩ := stB X4 hx hZ e4 Ar5 (j := x4) (by rw [S5]; exact (inbO hx4.2 hx4.1 (show (k + 4) < 10 from (by first | omega | decide)))) (g := (mkF m 44 #[.val (.ref r0), .val (.int p1), .val (.int p2), .val (.int (x4 + (1 : Int32))), .val (.int q4)] [(.int (q4.toInt8.toInt32)), (.int x4), (.ref r0)])) rfl rfl (hb hby d2_44)
  have N5 := Fr.snoc X5 N4 g_r0
  obtain ⟨L5, X5, N5⟩ := hideL X5 N5
  rw [hx4.1] at W5
  have f5_Arr_0 : OArr Z h5 r0 .byte 10 (fun i => if i = (k + 4) then (Value.int (nar .byte (q4.toInt8.toInt32))) else (fun i => if i = (k + 3) then (Value.int (nar .byte ((q3 ||| (128 : Int32)).toInt8.toInt32))) else (fun i => if i = (k + 2) then (Value.int (nar .byte ((q2 ||| (128 : Int32)).toInt8.toInt32))) else (fun i => if i = (k + 1) then (Value.int (nar .byte ((q1 ||| (128 : Int32)).toInt8.toInt32))) else (fun i => if i = (k + 0) then (Value.int (nar .byte ((p2 ||| (128 : Int32)).toInt8.toInt32))) else (fun _ => (Value.int f0)) i) i) i) i) i) := f4_Arr_0.set W5
  have KK5 : Keep h0 h5 [r0] := Keep.wr KK4 W5 (Or.inl (List.mem_of_getElem? (i := 0) rfl))
  have Z5 : n0 ≤ h5.size := Nat.le_trans (Z4) (Nat.le_of_eq W5.size.symm)
  refine Runs.back st5 ?_
  show Runs _ _ _ _ T5 (mkF m 45 #[.val (.ref r0), .val (.int p1), .val (.int p2), .val (.int (x4 + (1 : Int32))), .val (.int q4)] [])
  refine Runs.back (fun t_ k_ => XS.iloadN X5.here hx rfl (hb hby d2_45) rfl k_) ?_
  show Runs _ _ _ _ T5 (mkF m 46 #[.val (.ref r0), .val (.int p1), .val (.int p2), .val (.int (x4 + (1 : Int32))), .val (.int q4)] [(.int (x4 + (1 : Int32)))])
  have hret : (x4 + (1 : Int32)) = p1 + (5 : Int32) := by
    have u := nat_of hx4.2; have u0 := nat_of hn; rw [hx4.1] at u; rw [hk] at u0
    rw [eqi, add32 (by rw [o32]; omega) (by rw [o32]; omega), add32 (by rw [show (5 : Int32).toInt = 5 from by decide]; omega) (by rw [show (5 : Int32).toInt = 5 from by decide]; omega), o32, show (5 : Int32).toInt = 5 from by decide, u, u0] <;> omega
  obtain ⟨fs, hr, hrun, hended, hW, hsame⟩ := X5.leave (v := some (.int (x4 + (1 : Int32)))) (fun h => by rw [Bd.returns] at h; cases h)
  exact ⟨_, _, (retI X5 hx Bd.returns (hb hby d2_46) hr), hrun, hended, _, _, rfl, (by show Q2n5 Z r0 p1 p2 V k f0 h0 n0 _ T5.heap _; rw [e5]; exact ⟨(show some (Value.int (x4 + (1 : Int32))) = some (Value.int (p1 + (5 : Int32))) from by rw [hret]), N5, KK5, OArr.congr f5_Arr_0 fun i _ => canon5 (show _ = Int32.ofInt (dig 5 V 0) from digA (W := V / 1) hq0 (by omega)) (show _ = Int32.ofInt (dig 5 V 1) from digA (W := V / 128) hq1 (by omega)) (show _ = Int32.ofInt (dig 5 V 2) from digA (W := V / 16384) hq2 (by omega)) (show _ = Int32.ofInt (dig 5 V 3) from digA (W := V / 2097152) hq3 (by omega)) (show _ = Int32.ofInt (dig 5 V 4) from digB (W := V / 268435456) hq4 (by omega)) i⟩), ⟨_, rfl⟩, hW, hsame.mono (by decide) (by decide)⟩

theorem at_d {v d : Int32} {V D n : Nat} (hv : v.toInt = (V : Int)) (hV : V < 2147483648) (hd : d.toInt = (D : Int)) (hD : D < 5) : (((v.toUInt32 >>> (((7 : Int32) * d) &&& 31).toUInt32).toInt32) &&& (127 : Int32)).toInt = ((V / 128 ^ D % 128 : Nat) : Int) := by
  have p7 : ((2 ^ 7 : Nat) : Int) = 128 := by decide
  rw [c_mask _ 127 7 (by decide) (by decide), p7]
  match D, hD with
  | 0, _ =>
    obtain rfl : d = 0 := eqi.mpr (by rw [hd]; decide)
    have e : ((v.toUInt32 >>> (((7 : Int32) * 0) &&& 31).toUInt32).toInt32) = v := by
      rw [show (((7 : Int32) * 0) &&& 31).toUInt32 = 0 from by decide]
      rw [UInt32.shiftRight_zero]; rfl
    rw [e, hv]; simp
  | 1, _ => obtain rfl : d = 1 := eqi.mpr (by rw [hd]; decide)
            rw [c_iushr v _ 7 (by decide) (by decide), hv, p7]; omega
  | 2, _ => obtain rfl : d = 2 := eqi.mpr (by rw [hd]; decide)
            rw [c_iushr v _ 14 (by decide) (by decide), hv, show ((2 ^ 14 : Nat) : Int) = 16384 from by decide, show 128 ^ 2 = 16384 from by decide]; omega
  | 3, _ => obtain rfl : d = 3 := eqi.mpr (by rw [hd]; decide)
            rw [c_iushr v _ 21 (by decide) (by decide), hv, show ((2 ^ 21 : Nat) : Int) = 2097152 from by decide, show 128 ^ 3 = 2097152 from by decide]; omega
  | 4, _ => obtain rfl : d = 4 := eqi.mpr (by rw [hd]; decide)
            rw [c_iushr v _ 28 (by decide) (by decide), hv, show ((2 ^ 28 : Nat) : Int) = 268435456 from by decide, show 128 ^ 4 = 268435456 from by decide]; omega
theorem at_A {v d : Int32} {V D n : Nat} (hv : v.toInt = (V : Int)) (hV : V < 2147483648) (hd : d.toInt = (D : Int)) (hD : D < 5) (h : D + 1 < n) : Int32.ofInt (dig n V D) = (((((v.toUInt32 >>> (((7 : Int32) * d) &&& 31).toUInt32).toInt32) &&& (127 : Int32)) ||| (128 : Int32)).toInt8.toInt32) := by
  have q := at_d (n := n) hv hV hd hD
  have r := or128 q (by omega)
  unfold dig; rw [if_pos h]
  exact (sb_eq (by omega) (by rw [Nat.mod_mod] at r; exact r)).symm
theorem at_B {v d : Int32} {V D n : Nat} (hv : v.toInt = (V : Int)) (hV : V < 2147483648) (hd : d.toInt = (D : Int)) (hD : D < 5) (h : ¬ D + 1 < n) (hn : V / 128 ^ D < 128) : Int32.ofInt (dig n V D) = ((((v.toUInt32 >>> (((7 : Int32) * d) &&& 31).toUInt32).toInt32) &&& (127 : Int32)).toInt8.toInt32) := by
  have q := at_d (n := n) hv hV hd hD
  rw [Nat.mod_eq_of_lt hn] at q
  unfold dig; rw [if_neg h]
  exact (sb_eq (by omega) (by rw [q]; omega)).symm
theorem d3_0 : decode method_4_code 0 = .ok (.iload_n 1, 1) := by decide +kernel
theorem d3_1 : decode method_4_code 1 = .ok (.iload_n 2, 1) := by decide +kernel
theorem d3_2 : decode method_4_code 2 = .ok (.isub, 1) := by decide +kernel
theorem d3_3 : decode method_4_code 3 = .ok (.istore 6, 2) := by decide +kernel
theorem d3_5 : decode method_4_code 5 = .ok (.iload 6, 2) := by decide +kernel
theorem d3_7 : decode method_4_code 7 = .ok (.ifCond .lt 9, 3) := by decide +kernel
theorem d3_10 : decode method_4_code 10 = .ok (.iload 6, 2) := by decide +kernel
theorem d3_12 : decode method_4_code 12 = .ok (.iload_n 3, 1) := by decide +kernel
theorem d3_13 : decode method_4_code 13 = .ok (.if_icmp .lt 17, 3) := by decide +kernel
theorem d3_16 : decode method_4_code 16 = .ok (.aload_n 0, 1) := by decide +kernel
theorem d3_17 : decode method_4_code 17 = .ok (.iload_n 1, 1) := by decide +kernel
theorem d3_18 : decode method_4_code 18 = .ok (.baload, 1) := by decide +kernel
theorem d3_19 : decode method_4_code 19 = .ok (.iload 5, 2) := by decide +kernel
theorem d3_21 : decode method_4_code 21 = .ok (.if_icmp .ne 7, 3) := by decide +kernel
theorem d3_24 : decode method_4_code 24 = .ok (.iconst 1, 1) := by decide +kernel
theorem d3_25 : decode method_4_code 25 = .ok (.goto 4, 3) := by decide +kernel
theorem d3_28 : decode method_4_code 28 = .ok (.iconst 0, 1) := by decide +kernel
theorem d3_29 : decode method_4_code 29 = .ok (.ireturn, 1) := by decide +kernel
theorem d3_30 : decode method_4_code 30 = .ok (.iload 4, 2) := by decide +kernel
theorem d3_32 : decode method_4_code 32 = .ok (.bipush 7, 2) := by decide +kernel
theorem d3_34 : decode method_4_code 34 = .ok (.iload 6, 2) := by decide +kernel
theorem d3_36 : decode method_4_code 36 = .ok (.imul, 1) := by decide +kernel
theorem d3_37 : decode method_4_code 37 = .ok (.iushr, 1) := by decide +kernel
theorem d3_38 : decode method_4_code 38 = .ok (.bipush 127, 2) := by decide +kernel
theorem d3_40 : decode method_4_code 40 = .ok (.iand, 1) := by decide +kernel
theorem d3_41 : decode method_4_code 41 = .ok (.istore 7, 2) := by decide +kernel
theorem d3_43 : decode method_4_code 43 = .ok (.iload 6, 2) := by decide +kernel
theorem d3_45 : decode method_4_code 45 = .ok (.iload_n 3, 1) := by decide +kernel
theorem d3_46 : decode method_4_code 46 = .ok (.iconst 1, 1) := by decide +kernel
theorem d3_47 : decode method_4_code 47 = .ok (.isub, 1) := by decide +kernel
theorem d3_48 : decode method_4_code 48 = .ok (.if_icmp .ge 11, 3) := by decide +kernel
theorem d3_51 : decode method_4_code 51 = .ok (.iload 7, 2) := by decide +kernel
theorem d3_53 : decode method_4_code 53 = .ok (.sipush 128, 3) := by decide +kernel
theorem d3_56 : decode method_4_code 56 = .ok (.ior, 1) := by decide +kernel
theorem d3_57 : decode method_4_code 57 = .ok (.istore 7, 2) := by decide +kernel
theorem d3_59 : decode method_4_code 59 = .ok (.aload_n 0, 1) := by decide +kernel
theorem d3_60 : decode method_4_code 60 = .ok (.iload_n 1, 1) := by decide +kernel
theorem d3_61 : decode method_4_code 61 = .ok (.baload, 1) := by decide +kernel
theorem d3_62 : decode method_4_code 62 = .ok (.iload 7, 2) := by decide +kernel
theorem d3_64 : decode method_4_code 64 = .ok (.i2b, 1) := by decide +kernel
theorem d3_65 : decode method_4_code 65 = .ok (.if_icmp .ne 7, 3) := by decide +kernel
theorem d3_68 : decode method_4_code 68 = .ok (.iconst 1, 1) := by decide +kernel
theorem d3_69 : decode method_4_code 69 = .ok (.goto 4, 3) := by decide +kernel
theorem d3_72 : decode method_4_code 72 = .ok (.iconst 0, 1) := by decide +kernel
theorem d3_73 : decode method_4_code 73 = .ok (.ireturn, 1) := by decide +kernel
theorem pn_3 : plainName "com/example/strict_distinct/strictdistinct/KeyBytesWriteLengthPinLaw" = true := by first | (simp [plainName, overriddenIn]; done) | decide +kernel
theorem ef_3 (m : MethodId) (r0 : Addr) (p1 : Int32) (p2 : Int32) (p3 : Int32) (p4 : Int32) (p5 : Int32) : entryFrame m #[(.ref r0), (.int p1), (.int p2), (.int p3), (.int p4), (.int p5)] 8 = mkF m 0 #[.val (.ref r0), .val (.int p1), .val (.int p2), .val (.int p3), .val (.int p4), .val (.int p5), .unset, .unset] [] := by first | (simp [entryFrame, mkF, argsToLocals, Value.category]; done) | rfl
def Q3 (Z : State) (r0 : Addr) (p1 : Int32) (p2 : Int32) (p3 : Int32) (p4 : Int32) (p5 : Int32) (n V k j : Nat) (f0 : Int32) (h0 : Heap) (n0 : Nat) (v : Option Value) (h : Heap) (L : List Loc) : Prop := v = some (.int 1) ∧ Fr n0 L ∧ h = h0
set_option maxRecDepth 65536 in
set_option maxHeartbeats 40000000 in
theorem rm3 (l : Launch) (Z : State) (a0 : Array Value) (hw : ∀ d ∈ tables_1, d.before a0 Z = true) (ws : List Jvm.Cond) (r0 : Addr) (p1 : Int32) (p2 : Int32) (p3 : Int32) (p4 : Int32) (p5 : Int32) (n V k j : Nat) (f0 : Int32) (h0 : Heap) (n0 : Nat) (Z0 : n0 ≤ h0.size) (A1 : OArr Z h0 r0 .byte 10 (cv n V k f0)) (hj : p1.toNatClampNeg = j) (hjn : ¬ p1 < 0) (hj10 : j < 10) (hjI : p1.toInt = (j : Int)) (hkI : p2.toInt = (k : Int)) (hk4 : k < 4) (hs : p3.toInt = (n : Int)) (hn5 : 1 ≤ n ∧ n ≤ 5) (hv : p4.toInt = (V : Int)) (hV2 : V < 128 ^ n) (hV3 : V < 2147483648) (hf : f0 = p5) :
    MetFree l (⟨"com/example/strict_distinct/strictdistinct/KeyBytesWriteLengthPinLaw", "at", "([BIIIIB)Z"⟩ : MethodName) (head1 (Jvm.Cond.code (⟨"com/example/strict_distinct/strictdistinct/KeyBytesWriteLengthPinLaw", "at", "([BIIIIB)Z"⟩ : MethodName) method_4_code 8 (some .boolean) :: ws) ({ frames := 0, cells := 0, slots := 0, locals := 0 } : Room)) (fun a U => a = #[(.ref r0), (.int p1), (.int p2), (.int p3), (.int p4), (.int p5)] ∧ Z.Warmed39 U.vm ∧ U.heap = h0) (fun _ _ _ _ _ => True) (fun _ U o U' => ∃ v L, o = .returned v ∧ Q3 Z r0 p1 p2 p3 p4 p5 n V k j f0 h0 n0 v U'.heap L ∧ FrameEnd U o U' L ({ frames := 0, cells := 0, slots := 0, locals := 0 } : Room).cells ({ frames := 0, cells := 0, slots := 0, locals := 0 } : Room).slots) := by
  refine MetFree.of_bodySF (plainFor_of_name pn_3) hisR ?_
  intro p e s m args below meth c s₁ Bd hml0 hP hK
  obtain ⟨rfl, hZ, hh⟩ := hP
  have hx := Bd.exec
  have hby := Bd.bytes
  have hml : c.maxLocals = 8 := hml0
  have hown : s.vm.findClass "com/example/strict_distinct/strictdistinct/KeyBytesWriteLengthPinLaw" = some m.cls := findClass_of_methodNamed Bd.named
  have hnm := (name_of_methodNamed Bd.named Bd.method).1
  have X0 : Stand p l e ({ frames := 0, cells := 0, slots := 0, locals := 0 } : Room) s m #[(.ref r0), (.int p1), (.int p2), (.int p3), (.int p4), (.int p5)] below meth c s₁ [] 0 0 := Stand.of_body Bd
  have e0 : s₁.heap = h0 := by rw [← hh, Bd.state]; rfl
  have N0 := Fr.nil n0
  refine Runs.enter (ef_3 m r0 p1 p2 p3 p4 p5) ?_
  show Runs _ _ _ _ s₁ (mkF m 0 #[.val (.ref r0), .val (.int p1), .val (.int p2), .val (.int p3), .val (.int p4), .val (.int p5), .unset, .unset] [])
  refine Runs.back (fun t_ k_ => XS.iloadN X0.here hx rfl (hb hby d3_0) rfl k_) ?_
  show Runs _ _ _ _ s₁ (mkF m 1 #[.val (.ref r0), .val (.int p1), .val (.int p2), .val (.int p3), .val (.int p4), .val (.int p5), .unset, .unset] [(.int p1)])
  refine Runs.back (fun t_ k_ => XS.iloadN X0.here hx rfl (hb hby d3_1) rfl k_) ?_
  show Runs _ _ _ _ s₁ (mkF m 2 #[.val (.ref r0), .val (.int p1), .val (.int p2), .val (.int p3), .val (.int p4), .val (.int p5), .unset, .unset] [(.int p2), (.int p1)])
  refine Runs.back (fun t_ k_ => XS.isub X0.here hx rfl (hb hby d3_2) rfl k_) ?_
  show Runs _ _ _ _ s₁ (mkF m 3 #[.val (.ref r0), .val (.int p1), .val (.int p2), .val (.int p3), .val (.int p4), .val (.int p5), .unset, .unset] [(.int (p1 - p2))])
  have hd : ((p1 - p2)).toInt = (j : Int) - (k : Int) := by rw [sub32 (by omega) (by omega)]; omega
  generalize ed : (p1 - p2) = d at hd ⊢
  show Runs _ _ _ _ s₁ (mkF m 3 #[.val (.ref r0), .val (.int p1), .val (.int p2), .val (.int p3), .val (.int p4), .val (.int p5), .unset, .unset] [(.int d)])
  refine Runs.back (fun t_ k_ => XS.istore X0.here hx rfl (hb hby d3_3) rfl (l' := #[.val (.ref r0), .val (.int p1), .val (.int p2), .val (.int p3), .val (.int p4), .val (.int p5), .val (.int d), .unset]) rfl k_) ?_
  show Runs _ _ _ _ s₁ (mkF m 5 #[.val (.ref r0), .val (.int p1), .val (.int p2), .val (.int p3), .val (.int p4), .val (.int p5), .val (.int d), .unset] [])
  refine Runs.back (fun t_ k_ => XS.iload X0.here hx rfl (hb hby d3_5) rfl k_) ?_
  show Runs _ _ _ _ s₁ (mkF m 7 #[.val (.ref r0), .val (.int p1), .val (.int p2), .val (.int p3), .val (.int p4), .val (.int p5), .val (.int d), .unset] [(.int d)])
  by_cases c7_1 : d < (0 : Int32)
  · refine Runs.back (fun t_ k_ => XS.ifYes X0.here hx rfl (pc0 := 7) (pc' := 16) rfl (hb hby d3_7) rfl ((if0 _ _).trans (tlt c7_1).1) (by decide) (by decide) k_) ?_
    show Runs _ _ _ _ s₁ (mkF m 16 #[.val (.ref r0), .val (.int p1), .val (.int p2), .val (.int p3), .val (.int p4), .val (.int p5), .val (.int d), .unset] [])
    refine Runs.back (fun t_ k_ => XS.aloadN X0.here hx rfl (hb hby d3_16) rfl rfl k_) ?_
    show Runs _ _ _ _ s₁ (mkF m 17 #[.val (.ref r0), .val (.int p1), .val (.int p2), .val (.int p3), .val (.int p4), .val (.int p5), .val (.int d), .unset] [(.ref r0)])
    refine Runs.back (fun t_ k_ => XS.iloadN X0.here hx rfl (hb hby d3_17) rfl k_) ?_
    show Runs _ _ _ _ s₁ (mkF m 18 #[.val (.ref r0), .val (.int p1), .val (.int p2), .val (.int p3), .val (.int p4), .val (.int p5), .val (.int d), .unset] [(.int p1), (.ref r0)])
    obtain ⟨cl2, Ar2, S2, Hs2⟩ := id A1
    have at2 : cl2.slots[(p1).toNatClampNeg]? = some (.int f0) := readO Hs2 hj (show j < 10 from hj10) (cv_out (by have z := c7_1; rw [lti, z32] at z; omega))
    refine Runs.back (fun t_ k_ => X0.baloadBytes hx (j := p1) (v := (.int f0)) (by rw [e0]; exact Ar2.1) (State.isArrayOf_alike hZ.alike Ar2.2.1) Ar2.2.2 (by rw [S2]; exact (inbO hjn hj (show j < 10 from hj10))) at2 (g := (mkF m 18 #[.val (.ref r0), .val (.int p1), .val (.int p2), .val (.int p3), .val (.int p4), .val (.int p5), .val (.int d), .unset] [(.int p1), (.ref r0)])) rfl rfl (hb hby d3_18) _ k_) ?_
    show Runs _ _ _ _ s₁ (mkF m 19 #[.val (.ref r0), .val (.int p1), .val (.int p2), .val (.int p3), .val (.int p4), .val (.int p5), .val (.int d), .unset] [(.int f0)])
    refine Runs.back (fun t_ k_ => XS.iload X0.here hx rfl (hb hby d3_19) rfl k_) ?_
    show Runs _ _ _ _ s₁ (mkF m 21 #[.val (.ref r0), .val (.int p1), .val (.int p2), .val (.int p3), .val (.int p4), .val (.int p5), .val (.int d), .unset] [(.int p5), (.int f0)])
    refine Runs.back (fun t_ k_ => XS.icmpNo X0.here hx rfl (hb hby d3_21) rfl (teq (show f0 = p5 from hf)).2 k_) ?_
    show Runs _ _ _ _ s₁ (mkF m 24 #[.val (.ref r0), .val (.int p1), .val (.int p2), .val (.int p3), .val (.int p4), .val (.int p5), .val (.int d), .unset] [])
    refine Runs.back (fun t_ k_ => XS.iconst X0.here hx rfl (hb hby d3_24) k_) ?_
    show Runs _ _ _ _ s₁ (mkF m 25 #[.val (.ref r0), .val (.int p1), .val (.int p2), .val (.int p3), .val (.int p4), .val (.int p5), .val (.int d), .unset] [(.int (1 : Int32))])
    refine Runs.back (fun t_ k_ => XS.goto X0.here hx rfl (pc0 := 25) (pc' := 29) rfl (hb hby d3_25) (by decide) (by decide) k_) ?_
    show Runs _ _ _ _ s₁ (mkF m 29 #[.val (.ref r0), .val (.int p1), .val (.int p2), .val (.int p3), .val (.int p4), .val (.int p5), .val (.int d), .unset] [(.int (1 : Int32))])
    obtain ⟨fs, hr, hrun, hended, hW, hsame⟩ := X0.leave (v := some (.int (1 : Int32))) (fun h => by rw [Bd.returns] at h; cases h)
    exact ⟨_, _, (retN X0 hx (t := .boolean) Bd.returns (by simp) (hb hby d3_29) hr), hrun, hended, _, _, rfl, ⟨rfl, N0, e0⟩, ⟨_, rfl⟩, hW, hsame.mono (by decide) (by decide)⟩
  · refine Runs.back (fun t_ k_ => XS.ifNo X0.here hx rfl (hb hby d3_7) rfl ((if0 _ _).trans (flt c7_1).1) k_) ?_
    show Runs _ _ _ _ s₁ (mkF m 10 #[.val (.ref r0), .val (.int p1), .val (.int p2), .val (.int p3), .val (.int p4), .val (.int p5), .val (.int d), .unset] [])
    refine Runs.back (fun t_ k_ => XS.iload X0.here hx rfl (hb hby d3_10) rfl k_) ?_
    show Runs _ _ _ _ s₁ (mkF m 12 #[.val (.ref r0), .val (.int p1), .val (.int p2), .val (.int p3), .val (.int p4), .val (.int p5), .val (.int d), .unset] [(.int d)])
    refine Runs.back (fun t_ k_ => XS.iloadN X0.here hx rfl (hb hby d3_12) rfl k_) ?_
    show Runs _ _ _ _ s₁ (mkF m 13 #[.val (.ref r0), .val (.int p1), .val (.int p2), .val (.int p3), .val (.int p4), .val (.int p5), .val (.int d), .unset] [(.int p3), (.int d)])
    by_cases c13_3 : d < p3
    · refine Runs.back (fun t_ k_ => XS.icmpYes X0.here hx rfl (pc0 := 13) (pc' := 30) rfl (hb hby d3_13) rfl (tlt c13_3).1 (by decide) (by decide) k_) ?_
      show Runs _ _ _ _ s₁ (mkF m 30 #[.val (.ref r0), .val (.int p1), .val (.int p2), .val (.int p3), .val (.int p4), .val (.int p5), .val (.int d), .unset] [])
      have z7 := c7_1
      rw [lti, z32] at z7
      have z13 := c13_3
      rw [lti] at z13
      obtain ⟨D, eD⟩ : ∃ D, j - k = D := ⟨_, rfl⟩
      have hD : d.toInt = (D : Int) := by omega
      have hDn : D < n := by omega
      have hs1 : (p3 - (1 : Int32)).toInt = (n : Int) - 1 := by rw [sub32 (by rw [o32]; omega) (by rw [o32]; omega), o32, hs]
      refine Runs.back (fun t_ k_ => XS.iload X0.here hx rfl (hb hby d3_30) rfl k_) ?_
      show Runs _ _ _ _ s₁ (mkF m 32 #[.val (.ref r0), .val (.int p1), .val (.int p2), .val (.int p3), .val (.int p4), .val (.int p5), .val (.int d), .unset] [(.int p4)])
      refine Runs.back (fun t_ k_ => XS.bipush X0.here hx rfl (hb hby d3_32) k_) ?_
      show Runs _ _ _ _ s₁ (mkF m 34 #[.val (.ref r0), .val (.int p1), .val (.int p2), .val (.int p3), .val (.int p4), .val (.int p5), .val (.int d), .unset] [(.int (7 : Int32)), (.int p4)])
      refine Runs.back (fun t_ k_ => XS.iload X0.here hx rfl (hb hby d3_34) rfl k_) ?_
      show Runs _ _ _ _ s₁ (mkF m 36 #[.val (.ref r0), .val (.int p1), .val (.int p2), .val (.int p3), .val (.int p4), .val (.int p5), .val (.int d), .unset] [(.int d), (.int (7 : Int32)), (.int p4)])
      refine Runs.back (fun t_ k_ => XS.imul X0.here hx rfl (hb hby d3_36) rfl k_) ?_
      show Runs _ _ _ _ s₁ (mkF m 37 #[.val (.ref r0), .val (.int p1), .val (.int p2), .val (.int p3), .val (.int p4), .val (.int p5), .val (.int d), .unset] [(.int ((7 : Int32) * d)), (.int p4)])
      refine Runs.back (fun t_ k_ => XS.iushr X0.here hx rfl (hb hby d3_37) rfl k_) ?_
      show Runs _ _ _ _ s₁ (mkF m 38 #[.val (.ref r0), .val (.int p1), .val (.int p2), .val (.int p3), .val (.int p4), .val (.int p5), .val (.int d), .unset] [(.int ((p4.toUInt32 >>> (((7 : Int32) * d) &&& 31).toUInt32).toInt32))])
      refine Runs.back (fun t_ k_ => XS.bipush X0.here hx rfl (hb hby d3_38) k_) ?_
      show Runs _ _ _ _ s₁ (mkF m 40 #[.val (.ref r0), .val (.int p1), .val (.int p2), .val (.int p3), .val (.int p4), .val (.int p5), .val (.int d), .unset] [(.int (127 : Int32)), (.int ((p4.toUInt32 >>> (((7 : Int32) * d) &&& 31).toUInt32).toInt32))])
      refine Runs.back (fun t_ k_ => XS.iand X0.here hx rfl (hb hby d3_40) rfl k_) ?_
      show Runs _ _ _ _ s₁ (mkF m 41 #[.val (.ref r0), .val (.int p1), .val (.int p2), .val (.int p3), .val (.int p4), .val (.int p5), .val (.int d), .unset] [(.int (((p4.toUInt32 >>> (((7 : Int32) * d) &&& 31).toUInt32).toInt32) &&& (127 : Int32)))])
      refine Runs.back (fun t_ k_ => XS.istore X0.here hx rfl (hb hby d3_41) rfl (l' := #[.val (.ref r0), .val (.int p1), .val (.int p2), .val (.int p3), .val (.int p4), .val (.int p5), .val (.int d), .val (.int (((p4.toUInt32 >>> (((7 : Int32) * d) &&& 31).toUInt32).toInt32) &&& (127 : Int32)))]) rfl k_) ?_
      show Runs _ _ _ _ s₁ (mkF m 43 #[.val (.ref r0), .val (.int p1), .val (.int p2), .val (.int p3), .val (.int p4), .val (.int p5), .val (.int d), .val (.int (((p4.toUInt32 >>> (((7 : Int32) * d) &&& 31).toUInt32).toInt32) &&& (127 : Int32)))] [])
      refine Runs.back (fun t_ k_ => XS.iload X0.here hx rfl (hb hby d3_43) rfl k_) ?_
      show Runs _ _ _ _ s₁ (mkF m 45 #[.val (.ref r0), .val (.int p1), .val (.int p2), .val (.int p3), .val (.int p4), .val (.int p5), .val (.int d), .val (.int (((p4.toUInt32 >>> (((7 : Int32) * d) &&& 31).toUInt32).toInt32) &&& (127 : Int32)))] [(.int d)])
      refine Runs.back (fun t_ k_ => XS.iloadN X0.here hx rfl (hb hby d3_45) rfl k_) ?_
      show Runs _ _ _ _ s₁ (mkF m 46 #[.val (.ref r0), .val (.int p1), .val (.int p2), .val (.int p3), .val (.int p4), .val (.int p5), .val (.int d), .val (.int (((p4.toUInt32 >>> (((7 : Int32) * d) &&& 31).toUInt32).toInt32) &&& (127 : Int32)))] [(.int p3), (.int d)])
      refine Runs.back (fun t_ k_ => XS.iconst X0.here hx rfl (hb hby d3_46) k_) ?_
      show Runs _ _ _ _ s₁ (mkF m 47 #[.val (.ref r0), .val (.int p1), .val (.int p2), .val (.int p3), .val (.int p4), .val (.int p5), .val (.int d), .val (.int (((p4.toUInt32 >>> (((7 : Int32) * d) &&& 31).toUInt32).toInt32) &&& (127 : Int32)))] [(.int (1 : Int32)), (.int p3), (.int d)])
      refine Runs.back (fun t_ k_ => XS.isub X0.here hx rfl (hb hby d3_47) rfl k_) ?_
      show Runs _ _ _ _ s₁ (mkF m 48 #[.val (.ref r0), .val (.int p1), .val (.int p2), .val (.int p3), .val (.int p4), .val (.int p5), .val (.int d), .val (.int (((p4.toUInt32 >>> (((7 : Int32) * d) &&& 31).toUInt32).toInt32) &&& (127 : Int32)))] [(.int (p3 - (1 : Int32))), (.int d)])
      by_cases c48_4 : d < (p3 - (1 : Int32))
      · refine Runs.back (fun t_ k_ => XS.icmpNo X0.here hx rfl (hb hby d3_48) rfl (tlt c48_4).2.1 k_) ?_
        show Runs _ _ _ _ s₁ (mkF m 51 #[.val (.ref r0), .val (.int p1), .val (.int p2), .val (.int p3), .val (.int p4), .val (.int p5), .val (.int d), .val (.int (((p4.toUInt32 >>> (((7 : Int32) * d) &&& 31).toUInt32).toInt32) &&& (127 : Int32)))] [])
        refine Runs.back (fun t_ k_ => XS.iload X0.here hx rfl (hb hby d3_51) rfl k_) ?_
        show Runs _ _ _ _ s₁ (mkF m 53 #[.val (.ref r0), .val (.int p1), .val (.int p2), .val (.int p3), .val (.int p4), .val (.int p5), .val (.int d), .val (.int (((p4.toUInt32 >>> (((7 : Int32) * d) &&& 31).toUInt32).toInt32) &&& (127 : Int32)))] [(.int (((p4.toUInt32 >>> (((7 : Int32) * d) &&& 31).toUInt32).toInt32) &&& (127 : Int32)))])
        refine Runs.back (fun t_ k_ => XS.sipush X0.here hx rfl (hb hby d3_53) k_) ?_
        show Runs _ _ _ _ s₁ (mkF m 56 #[.val (.ref r0), .val (.int p1), .val (.int p2), .val (.int p3), .val (.int p4), .val (.int p5), .val (.int d), .val (.int (((p4.toUInt32 >>> (((7 : Int32) * d) &&& 31).toUInt32).toInt32) &&& (127 : Int32)))] [(.int (128 : Int32)), (.int (((p4.toUInt32 >>> (((7 : Int32) * d) &&& 31).toUInt32).toInt32) &&& (127 : Int32)))])
        refine Runs.back (fun t_ k_ => XS.ior X0.here hx rfl (hb hby d3_56) rfl k_) ?_
        show Runs _ _ _ _ s₁ (mkF m 57 #[.val (.ref r0), .val (.int p1), .val (.int p2), .val (.int p3), .val (.int p4), .val (.int p5), .val (.int d), .val (.int (((p4.toUInt32 >>> (((7 : Int32) * d) &&& 31).toUInt32).toInt32) &&& (127 : Int32)))] [(.int ((((p4.toUInt32 >>> (((7 : Int32) * d) &&& 31).toUInt32).toInt32) &&& (127 : Int32)) ||| (128 : Int32)))])
        refine Runs.back (fun t_ k_ => XS.istore X0.here hx rfl (hb hby d3_57) rfl (l' := #[.val (.ref r0), .val (.int p1), .val (.int p2), .val (.int p3), .val (.int p4), .val (.int p5), .val (.int d), .val (.int ((((p4.toUInt32 >>> (((7 : Int32) * d) &&& 31).toUInt32).toInt32) &&& (127 : Int32)) ||| (128 : Int32)))]) rfl k_) ?_
        show Runs _ _ _ _ s₁ (mkF m 59 #[.val (.ref r0), .val (.int p1), .val (.int p2), .val (.int p3), .val (.int p4), .val (.int p5), .val (.int d), .val (.int ((((p4.toUInt32 >>> (((7 : Int32) * d) &&& 31).toUInt32).toInt32) &&& (127 : Int32)) ||| (128 : Int32)))] [])
        refine Runs.back (fun t_ k_ => XS.aloadN X0.here hx rfl (hb hby d3_59) rfl rfl k_) ?_
        show Runs _ _ _ _ s₁ (mkF m 60 #[.val (.ref r0), .val (.int p1), .val (.int p2), .val (.int p3), .val (.int p4), .val (.int p5), .val (.int d), .val (.int ((((p4.toUInt32 >>> (((7 : Int32) * d) &&& 31).toUInt32).toInt32) &&& (127 : Int32)) ||| (128 : Int32)))] [(.ref r0)])
        refine Runs.back (fun t_ k_ => XS.iloadN X0.here hx rfl (hb hby d3_60) rfl k_) ?_
        show Runs _ _ _ _ s₁ (mkF m 61 #[.val (.ref r0), .val (.int p1), .val (.int p2), .val (.int p3), .val (.int p4), .val (.int p5), .val (.int d), .val (.int ((((p4.toUInt32 >>> (((7 : Int32) * d) &&& 31).toUInt32).toInt32) &&& (127 : Int32)) ||| (128 : Int32)))] [(.int p1), (.ref r0)])
        obtain ⟨cl5, Ar5, S5, Hs5⟩ := id A1
        have at5 : cl5.slots[(p1).toNatClampNeg]? = some (.int (Int32.ofInt (dig n V D))) := readO Hs5 hj (show j < 10 from hj10) (by rw [cv_in (by omega) (by omega), eD])
        refine Runs.back (fun t_ k_ => X0.baloadBytes hx (j := p1) (v := (.int (Int32.ofInt (dig n V D)))) (by rw [e0]; exact Ar5.1) (State.isArrayOf_alike hZ.alike Ar5.2.1) Ar5.2.2 (by rw [S5]; exact (inbO hjn hj (show j < 10 from hj10))) at5 (g := (mkF m 61 #[.val (.ref r0), .val (.int p1), .val (.int p2), .val (.int p3), .val (.int p4), .val (.int p5), .val (.int d), .val (.int ((((p4.toUInt32 >>> (((7 : Int32) * d) &&& 31).toUInt32).toInt32) &&& (127 : Int32)) ||| (128 : Int32)))] [(.int p1), (.ref r0)])) rfl rfl (hb hby d3_61) _ k_) ?_
        show Runs _ _ _ _ s₁ (mkF m 62 #[.val (.ref r0), .val (.int p1), .val (.int p2), .val (.int p3), .val (.int p4), .val (.int p5), .val (.int d), .val (.int ((((p4.toUInt32 >>> (((7 : Int32) * d) &&& 31).toUInt32).toInt32) &&& (127 : Int32)) ||| (128 : Int32)))] [(.int (Int32.ofInt (dig n V D)))])
        refine Runs.back (fun t_ k_ => XS.iload X0.here hx rfl (hb hby d3_62) rfl k_) ?_
        show Runs _ _ _ _ s₁ (mkF m 64 #[.val (.ref r0), .val (.int p1), .val (.int p2), .val (.int p3), .val (.int p4), .val (.int p5), .val (.int d), .val (.int ((((p4.toUInt32 >>> (((7 : Int32) * d) &&& 31).toUInt32).toInt32) &&& (127 : Int32)) ||| (128 : Int32)))] [(.int ((((p4.toUInt32 >>> (((7 : Int32) * d) &&& 31).toUInt32).toInt32) &&& (127 : Int32)) ||| (128 : Int32))), (.int (Int32.ofInt (dig n V D)))])
        refine Runs.back (fun t_ k_ => XS.i2b X0.here hx rfl (hb hby d3_64) rfl k_) ?_
        show Runs _ _ _ _ s₁ (mkF m 65 #[.val (.ref r0), .val (.int p1), .val (.int p2), .val (.int p3), .val (.int p4), .val (.int p5), .val (.int d), .val (.int ((((p4.toUInt32 >>> (((7 : Int32) * d) &&& 31).toUInt32).toInt32) &&& (127 : Int32)) ||| (128 : Int32)))] [(.int (((((p4.toUInt32 >>> (((7 : Int32) * d) &&& 31).toUInt32).toInt32) &&& (127 : Int32)) ||| (128 : Int32)).toInt8.toInt32)), (.int (Int32.ofInt (dig n V D)))])
        refine Runs.back (fun t_ k_ => XS.icmpNo X0.here hx rfl (hb hby d3_65) rfl (teq (show (Int32.ofInt (dig n V D)) = (((((p4.toUInt32 >>> (((7 : Int32) * d) &&& 31).toUInt32).toInt32) &&& (127 : Int32)) ||| (128 : Int32)).toInt8.toInt32) from (at_A hv hV3 hD (by omega) (by have z := c48_4; rw [lti, hs1] at z; omega)))).2 k_) ?_
        show Runs _ _ _ _ s₁ (mkF m 68 #[.val (.ref r0), .val (.int p1), .val (.int p2), .val (.int p3), .val (.int p4), .val (.int p5), .val (.int d), .val (.int ((((p4.toUInt32 >>> (((7 : Int32) * d) &&& 31).toUInt32).toInt32) &&& (127 : Int32)) ||| (128 : Int32)))] [])
        refine Runs.back (fun t_ k_ => XS.iconst X0.here hx rfl (hb hby d3_68) k_) ?_
        show Runs _ _ _ _ s₁ (mkF m 69 #[.val (.ref r0), .val (.int p1), .val (.int p2), .val (.int p3), .val (.int p4), .val (.int p5), .val (.int d), .val (.int ((((p4.toUInt32 >>> (((7 : Int32) * d) &&& 31).toUInt32).toInt32) &&& (127 : Int32)) ||| (128 : Int32)))] [(.int (1 : Int32))])
        refine Runs.back (fun t_ k_ => XS.goto X0.here hx rfl (pc0 := 69) (pc' := 73) rfl (hb hby d3_69) (by decide) (by decide) k_) ?_
        show Runs _ _ _ _ s₁ (mkF m 73 #[.val (.ref r0), .val (.int p1), .val (.int p2), .val (.int p3), .val (.int p4), .val (.int p5), .val (.int d), .val (.int ((((p4.toUInt32 >>> (((7 : Int32) * d) &&& 31).toUInt32).toInt32) &&& (127 : Int32)) ||| (128 : Int32)))] [(.int (1 : Int32))])
        obtain ⟨fs, hr, hrun, hended, hW, hsame⟩ := X0.leave (v := some (.int (1 : Int32))) (fun h => by rw [Bd.returns] at h; cases h)
        exact ⟨_, _, (retN X0 hx (t := .boolean) Bd.returns (by simp) (hb hby d3_73) hr), hrun, hended, _, _, rfl, ⟨rfl, N0, e0⟩, ⟨_, rfl⟩, hW, hsame.mono (by decide) (by decide)⟩
      · refine Runs.back (fun t_ k_ => XS.icmpYes X0.here hx rfl (pc0 := 48) (pc' := 59) rfl (hb hby d3_48) rfl (flt c48_4).2.1 (by decide) (by decide) k_) ?_
        show Runs _ _ _ _ s₁ (mkF m 59 #[.val (.ref r0), .val (.int p1), .val (.int p2), .val (.int p3), .val (.int p4), .val (.int p5), .val (.int d), .val (.int (((p4.toUInt32 >>> (((7 : Int32) * d) &&& 31).toUInt32).toInt32) &&& (127 : Int32)))] [])
        refine Runs.back (fun t_ k_ => XS.aloadN X0.here hx rfl (hb hby d3_59) rfl rfl k_) ?_
        show Runs _ _ _ _ s₁ (mkF m 60 #[.val (.ref r0), .val (.int p1), .val (.int p2), .val (.int p3), .val (.int p4), .val (.int p5), .val (.int d), .val (.int (((p4.toUInt32 >>> (((7 : Int32) * d) &&& 31).toUInt32).toInt32) &&& (127 : Int32)))] [(.ref r0)])
        refine Runs.back (fun t_ k_ => XS.iloadN X0.here hx rfl (hb hby d3_60) rfl k_) ?_
        show Runs _ _ _ _ s₁ (mkF m 61 #[.val (.ref r0), .val (.int p1), .val (.int p2), .val (.int p3), .val (.int p4), .val (.int p5), .val (.int d), .val (.int (((p4.toUInt32 >>> (((7 : Int32) * d) &&& 31).toUInt32).toInt32) &&& (127 : Int32)))] [(.int p1), (.ref r0)])
        obtain ⟨cl6, Ar6, S6, Hs6⟩ := id A1
        have at6 : cl6.slots[(p1).toNatClampNeg]? = some (.int (Int32.ofInt (dig n V D))) := readO Hs6 hj (show j < 10 from hj10) (by rw [cv_in (by omega) (by omega), eD])
        refine Runs.back (fun t_ k_ => X0.baloadBytes hx (j := p1) (v := (.int (Int32.ofInt (dig n V D)))) (by rw [e0]; exact Ar6.1) (State.isArrayOf_alike hZ.alike Ar6.2.1) Ar6.2.2 (by rw [S6]; exact (inbO hjn hj (show j < 10 from hj10))) at6 (g := (mkF m 61 #[.val (.ref r0), .val (.int p1), .val (.int p2), .val (.int p3), .val (.int p4), .val (.int p5), .val (.int d), .val (.int (((p4.toUInt32 >>> (((7 : Int32) * d) &&& 31).toUInt32).toInt32) &&& (127 : Int32)))] [(.int p1), (.ref r0)])) rfl rfl (hb hby d3_61) _ k_) ?_
        show Runs _ _ _ _ s₁ (mkF m 62 #[.val (.ref r0), .val (.int p1), .val (.int p2), .val (.int p3), .val (.int p4), .val (.int p5), .val (.int d), .val (.int (((p4.toUInt32 >>> (((7 : Int32) * d) &&& 31).toUInt32).toInt32) &&& (127 : Int32)))] [(.int (Int32.ofInt (dig n V D)))])
        refine Runs.back (fun t_ k_ => XS.iload X0.here hx rfl (hb hby d3_62) rfl k_) ?_
        show Runs _ _ _ _ s₁ (mkF m 64 #[.val (.ref r0), .val (.int p1), .val (.int p2), .val (.int p3), .val (.int p4), .val (.int p5), .val (.int d), .val (.int (((p4.toUInt32 >>> (((7 : Int32) * d) &&& 31).toUInt32).toInt32) &&& (127 : Int32)))] [(.int (((p4.toUInt32 >>> (((7 : Int32) * d) &&& 31).toUInt32).toInt32) &&& (127 : Int32))), (.int (Int32.ofInt (dig n V D)))])
        refine Runs.back (fun t_ k_ => XS.i2b X0.here hx rfl (hb hby d3_64) rfl k_) ?_
        show Runs _ _ _ _ s₁ (mkF m 65 #[.val (.ref r0), .val (.int p1), .val (.int p2), .val (.int p3), .val (.int p4), .val (.int p5), .val (.int d), .val (.int (((p4.toUInt32 >>> (((7 : Int32) * d) &&& 31).toUInt32).toInt32) &&& (127 : Int32)))] [(.int ((((p4.toUInt32 >>> (((7 : Int32) * d) &&& 31).toUInt32).toInt32) &&& (127 : Int32)).toInt8.toInt32)), (.int (Int32.ofInt (dig n V D)))])
        refine Runs.back (fun t_ k_ => XS.icmpNo X0.here hx rfl (hb hby d3_65) rfl (teq (show (Int32.ofInt (dig n V D)) = ((((p4.toUInt32 >>> (((7 : Int32) * d) &&& 31).toUInt32).toInt32) &&& (127 : Int32)).toInt8.toInt32) from (at_B hv hV3 hD (by omega) (by have z := c48_4; rw [lti, hs1] at z; omega) (by have z := c48_4; rw [lti, hs1] at z; exact Nat.div_lt_of_lt_mul (Nat.lt_of_lt_of_le hV2 (by rw [show n = D + 1 from by omega, Nat.pow_succ]; exact Nat.le_refl _)))))).2 k_) ?_
        show Runs _ _ _ _ s₁ (mkF m 68 #[.val (.ref r0), .val (.int p1), .val (.int p2), .val (.int p3), .val (.int p4), .val (.int p5), .val (.int d), .val (.int (((p4.toUInt32 >>> (((7 : Int32) * d) &&& 31).toUInt32).toInt32) &&& (127 : Int32)))] [])
        refine Runs.back (fun t_ k_ => XS.iconst X0.here hx rfl (hb hby d3_68) k_) ?_
        show Runs _ _ _ _ s₁ (mkF m 69 #[.val (.ref r0), .val (.int p1), .val (.int p2), .val (.int p3), .val (.int p4), .val (.int p5), .val (.int d), .val (.int (((p4.toUInt32 >>> (((7 : Int32) * d) &&& 31).toUInt32).toInt32) &&& (127 : Int32)))] [(.int (1 : Int32))])
        refine Runs.back (fun t_ k_ => XS.goto X0.here hx rfl (pc0 := 69) (pc' := 73) rfl (hb hby d3_69) (by decide) (by decide) k_) ?_
        show Runs _ _ _ _ s₁ (mkF m 73 #[.val (.ref r0), .val (.int p1), .val (.int p2), .val (.int p3), .val (.int p4), .val (.int p5), .val (.int d), .val (.int (((p4.toUInt32 >>> (((7 : Int32) * d) &&& 31).toUInt32).toInt32) &&& (127 : Int32)))] [(.int (1 : Int32))])
        obtain ⟨fs, hr, hrun, hended, hW, hsame⟩ := X0.leave (v := some (.int (1 : Int32))) (fun h => by rw [Bd.returns] at h; cases h)
        exact ⟨_, _, (retN X0 hx (t := .boolean) Bd.returns (by simp) (hb hby d3_73) hr), hrun, hended, _, _, rfl, ⟨rfl, N0, e0⟩, ⟨_, rfl⟩, hW, hsame.mono (by decide) (by decide)⟩
    · refine Runs.back (fun t_ k_ => XS.icmpNo X0.here hx rfl (hb hby d3_13) rfl (flt c13_3).1 k_) ?_
      show Runs _ _ _ _ s₁ (mkF m 16 #[.val (.ref r0), .val (.int p1), .val (.int p2), .val (.int p3), .val (.int p4), .val (.int p5), .val (.int d), .unset] [])
      refine Runs.back (fun t_ k_ => XS.aloadN X0.here hx rfl (hb hby d3_16) rfl rfl k_) ?_
      show Runs _ _ _ _ s₁ (mkF m 17 #[.val (.ref r0), .val (.int p1), .val (.int p2), .val (.int p3), .val (.int p4), .val (.int p5), .val (.int d), .unset] [(.ref r0)])
      refine Runs.back (fun t_ k_ => XS.iloadN X0.here hx rfl (hb hby d3_17) rfl k_) ?_
      show Runs _ _ _ _ s₁ (mkF m 18 #[.val (.ref r0), .val (.int p1), .val (.int p2), .val (.int p3), .val (.int p4), .val (.int p5), .val (.int d), .unset] [(.int p1), (.ref r0)])
      obtain ⟨cl7, Ar7, S7, Hs7⟩ := id A1
      have at7 : cl7.slots[(p1).toNatClampNeg]? = some (.int f0) := readO Hs7 hj (show j < 10 from hj10) (cv_out (by have z := c13_3; rw [lti] at z; omega))
      refine Runs.back (fun t_ k_ => X0.baloadBytes hx (j := p1) (v := (.int f0)) (by rw [e0]; exact Ar7.1) (State.isArrayOf_alike hZ.alike Ar7.2.1) Ar7.2.2 (by rw [S7]; exact (inbO hjn hj (show j < 10 from hj10))) at7 (g := (mkF m 18 #[.val (.ref r0), .val (.int p1), .val (.int p2), .val (.int p3), .val (.int p4), .val (.int p5), .val (.int d), .unset] [(.int p1), (.ref r0)])) rfl rfl (hb hby d3_18) _ k_) ?_
      show Runs _ _ _ _ s₁ (mkF m 19 #[.val (.ref r0), .val (.int p1), .val (.int p2), .val (.int p3), .val (.int p4), .val (.int p5), .val (.int d), .unset] [(.int f0)])
      refine Runs.back (fun t_ k_ => XS.iload X0.here hx rfl (hb hby d3_19) rfl k_) ?_
      show Runs _ _ _ _ s₁ (mkF m 21 #[.val (.ref r0), .val (.int p1), .val (.int p2), .val (.int p3), .val (.int p4), .val (.int p5), .val (.int d), .unset] [(.int p5), (.int f0)])
      refine Runs.back (fun t_ k_ => XS.icmpNo X0.here hx rfl (hb hby d3_21) rfl (teq (show f0 = p5 from hf)).2 k_) ?_
      show Runs _ _ _ _ s₁ (mkF m 24 #[.val (.ref r0), .val (.int p1), .val (.int p2), .val (.int p3), .val (.int p4), .val (.int p5), .val (.int d), .unset] [])
      refine Runs.back (fun t_ k_ => XS.iconst X0.here hx rfl (hb hby d3_24) k_) ?_
      show Runs _ _ _ _ s₁ (mkF m 25 #[.val (.ref r0), .val (.int p1), .val (.int p2), .val (.int p3), .val (.int p4), .val (.int p5), .val (.int d), .unset] [(.int (1 : Int32))])
      refine Runs.back (fun t_ k_ => XS.goto X0.here hx rfl (pc0 := 25) (pc' := 29) rfl (hb hby d3_25) (by decide) (by decide) k_) ?_
      show Runs _ _ _ _ s₁ (mkF m 29 #[.val (.ref r0), .val (.int p1), .val (.int p2), .val (.int p3), .val (.int p4), .val (.int p5), .val (.int d), .unset] [(.int (1 : Int32))])
      obtain ⟨fs, hr, hrun, hended, hW, hsame⟩ := X0.leave (v := some (.int (1 : Int32))) (fun h => by rw [Bd.returns] at h; cases h)
      exact ⟨_, _, (retN X0 hx (t := .boolean) Bd.returns (by simp) (hb hby d3_29) hr), hrun, hended, _, _, rfl, ⟨rfl, N0, e0⟩, ⟨_, rfl⟩, hW, hsame.mono (by decide) (by decide)⟩
theorem pn_0 : plainName "com/example/strict_distinct/strictdistinct/KeyBytesWriteLengthPinLaw" = true := by first | (simp [plainName, overriddenIn]; done) | decide +kernel
theorem pd0_0 : parseMethodDescriptor "(I)I" = some ⟨[.int], some .int⟩ := by decide +kernel
theorem pd0_1 : parseMethodDescriptor "([BII)I" = some ⟨[(.array .byte), .int, .int], some .int⟩ := by decide +kernel
theorem pd0_2 : parseMethodDescriptor "([BIIIIB)Z" = some ⟨[(.array .byte), .int, .int, .int, .int, .byte], some .boolean⟩ := by decide +kernel
theorem ef_0 (m : MethodId) (p0 : Int32) (p1 : Int32) (p2 : Int32) (p3 : Int32) : entryFrame m #[(.int p0), (.int p1), (.int p2), (.int p3)] maxLocals = mkF m 0 #[.val (.int p0), .val (.int p1), .val (.int p2), .val (.int p3), .unset, .unset, .unset, .unset, .unset, .unset] [] := by first | (simp [entryFrame, mkF, argsToLocals, Value.category, maxLocals]; done) | rfl
def Q0 (Z : State) (p0 : Int32) (p1 : Int32) (p2 : Int32) (p3 : Int32)  (h0 : Heap) (n0 : Nat) (v : Option Value) (h : Heap) (L : List Loc) : Prop := v = some (.int 1) ∧ Fr n0 L
set_option maxRecDepth 65536 in
set_option maxHeartbeats 40000000 in
theorem rm0 (l : Launch) (Z : State) (a0 : Array Value) (hw : ∀ d ∈ tables_1, d.before a0 Z = true) (ws : List Jvm.Cond) (p0 : Int32) (p1 : Int32) (p2 : Int32) (p3 : Int32)  (h0 : Heap) (n0 : Nat) (Z0 : n0 ≤ h0.size) :
    MetFree l x (head1 (Jvm.Cond.code x code maxLocals ret :: ws) room_1) (fun a U => a = #[(.int p0), (.int p1), (.int p2), (.int p3)] ∧ Z.Warmed39 U.vm ∧ U.heap = h0) (fun _ _ _ _ _ => True) (fun _ U o U' => ∃ v L, o = .returned v ∧ Q0 Z p0 p1 p2 p3 h0 n0 v U'.heap L ∧ FrameEnd U o U' L 16 128) := by
  refine MetFree.of_bodySF (plainFor_of_name pn_0) hisR ?_
  intro p e s m args below meth c s₁ Bd hml0 hP hK
  obtain ⟨rfl, hZ, hh⟩ := hP
  have hx := Bd.exec
  have hby := Bd.bytes
  have hml : c.maxLocals = 10 := hml0
  have hown : s.vm.findClass "com/example/strict_distinct/strictdistinct/KeyBytesWriteLengthPinLaw" = some m.cls := findClass_of_methodNamed Bd.named
  have hnm := (name_of_methodNamed Bd.named Bd.method).1
  have X0 : Stand p l e room_1 s m #[(.int p0), (.int p1), (.int p2), (.int p3)] below meth c s₁ [] 0 0 := Stand.of_body Bd
  have e0 : s₁.heap = h0 := by rw [← hh, Bd.state]; rfl
  have N0 := Fr.nil n0
  refine Runs.enter (ef_0 m p0 p1 p2 p3) ?_
  show Runs _ _ _ _ s₁ (mkF m 0 #[.val (.int p0), .val (.int p1), .val (.int p2), .val (.int p3), .unset, .unset, .unset, .unset, .unset, .unset] [])
  refine Runs.back (fun t_ k_ => XS.iloadN X0.here hx rfl (hb hby at_0) rfl k_) ?_
  show Runs _ _ _ _ s₁ (mkF m 1 #[.val (.int p0), .val (.int p1), .val (.int p2), .val (.int p3), .unset, .unset, .unset, .unset, .unset, .unset] [(.int p0)])
  refine Runs.back (X0.ldcInt hx hown (mvT hZ (hw _ (List.mem_of_getElem? (i := 0) rfl))) (g := (mkF m 1 #[.val (.int p0), .val (.int p1), .val (.int p2), .val (.int p3), .unset, .unset, .unset, .unset, .unset, .unset] [(.int p0)])) rfl (hb hby at_1)) ?_
  show Runs _ _ _ _ s₁ (mkF m 3 #[.val (.int p0), .val (.int p1), .val (.int p2), .val (.int p3), .unset, .unset, .unset, .unset, .unset, .unset] [(.int (2147483647 : Int32)), (.int p0)])
  refine Runs.back (fun t_ k_ => XS.iand X0.here hx rfl (hb hby at_3) rfl k_) ?_
  show Runs _ _ _ _ s₁ (mkF m 4 #[.val (.int p0), .val (.int p1), .val (.int p2), .val (.int p3), .unset, .unset, .unset, .unset, .unset, .unset] [(.int (p0 &&& (2147483647 : Int32)))])
  refine Runs.back (fun t_ k_ => XS.iloadN X0.here hx rfl (hb hby at_4) rfl k_) ?_
  show Runs _ _ _ _ s₁ (mkF m 5 #[.val (.int p0), .val (.int p1), .val (.int p2), .val (.int p3), .unset, .unset, .unset, .unset, .unset, .unset] [(.int p1), (.int (p0 &&& (2147483647 : Int32)))])
  refine Runs.back (X0.ldcInt hx hown (mvT hZ (hw _ (List.mem_of_getElem? (i := 0) rfl))) (g := (mkF m 5 #[.val (.int p0), .val (.int p1), .val (.int p2), .val (.int p3), .unset, .unset, .unset, .unset, .unset, .unset] [(.int p1), (.int (p0 &&& (2147483647 : Int32)))])) rfl (hb hby at_5)) ?_
  show Runs _ _ _ _ s₁ (mkF m 7 #[.val (.int p0), .val (.int p1), .val (.int p2), .val (.int p3), .unset, .unset, .unset, .unset, .unset, .unset] [(.int (2147483647 : Int32)), (.int p1), (.int (p0 &&& (2147483647 : Int32)))])
  refine Runs.back (fun t_ k_ => XS.iand X0.here hx rfl (hb hby at_7) rfl k_) ?_
  show Runs _ _ _ _ s₁ (mkF m 8 #[.val (.int p0), .val (.int p1), .val (.int p2), .val (.int p3), .unset, .unset, .unset, .unset, .unset, .unset] [(.int (p1 &&& (2147483647 : Int32))), (.int (p0 &&& (2147483647 : Int32)))])
  refine Runs.back (fun t_ k_ => XS.bipush X0.here hx rfl (hb hby at_8) k_) ?_
  show Runs _ _ _ _ s₁ (mkF m 10 #[.val (.int p0), .val (.int p1), .val (.int p2), .val (.int p3), .unset, .unset, .unset, .unset, .unset, .unset] [(.int (32 : Int32)), (.int (p1 &&& (2147483647 : Int32))), (.int (p0 &&& (2147483647 : Int32)))])
  refine Runs.back (fun t_ k_ => iremM X0 hx rfl (hb hby at_10) rfl (by decide) k_) ?_
  show Runs _ _ _ _ s₁ (mkF m 11 #[.val (.int p0), .val (.int p1), .val (.int p2), .val (.int p3), .unset, .unset, .unset, .unset, .unset, .unset] [(.int ((p1 &&& (2147483647 : Int32)) % (32 : Int32))), (.int (p0 &&& (2147483647 : Int32)))])
  refine Runs.back (fun t_ k_ => XS.iushr X0.here hx rfl (hb hby at_11) rfl k_) ?_
  show Runs _ _ _ _ s₁ (mkF m 12 #[.val (.int p0), .val (.int p1), .val (.int p2), .val (.int p3), .unset, .unset, .unset, .unset, .unset, .unset] [(.int (((p0 &&& (2147483647 : Int32)).toUInt32 >>> (((p1 &&& (2147483647 : Int32)) % (32 : Int32)) &&& 31).toUInt32).toInt32))])
  have hv0 := iushr_nn (p0 &&& (2147483647 : Int32)) ((p1 &&& (2147483647 : Int32)) % (32 : Int32)) (by rw [c_mask p0 _ 31 (by decide) (by decide)]; omega)
  generalize ev : (((p0 &&& (2147483647 : Int32)).toUInt32 >>> (((p1 &&& (2147483647 : Int32)) % (32 : Int32)) &&& 31).toUInt32).toInt32) = v at hv0 ⊢
  show Runs _ _ _ _ s₁ (mkF m 12 #[.val (.int p0), .val (.int p1), .val (.int p2), .val (.int p3), .unset, .unset, .unset, .unset, .unset, .unset] [(.int v)])
  obtain ⟨V, hV⟩ : ∃ V : Nat, v.toInt = (V : Int) := ⟨v.toInt.toNat, by omega⟩
  have hV3 : V < 2147483648 := by have z := bd32 v; omega
  refine Runs.back (fun t_ k_ => XS.istore X0.here hx rfl (hb hby at_12) rfl (l' := #[.val (.int p0), .val (.int p1), .val (.int p2), .val (.int p3), .val (.int v), .unset, .unset, .unset, .unset, .unset]) rfl k_) ?_
  show Runs _ _ _ _ s₁ (mkF m 14 #[.val (.int p0), .val (.int p1), .val (.int p2), .val (.int p3), .val (.int v), .unset, .unset, .unset, .unset, .unset] [])
  refine Runs.back (fun t_ k_ => XS.iloadN X0.here hx rfl (hb hby at_14) rfl k_) ?_
  show Runs _ _ _ _ s₁ (mkF m 15 #[.val (.int p0), .val (.int p1), .val (.int p2), .val (.int p3), .val (.int v), .unset, .unset, .unset, .unset, .unset] [(.int p2)])
  refine Runs.back (fun t_ k_ => XS.iconst X0.here hx rfl (hb hby at_15) k_) ?_
  show Runs _ _ _ _ s₁ (mkF m 16 #[.val (.int p0), .val (.int p1), .val (.int p2), .val (.int p3), .val (.int v), .unset, .unset, .unset, .unset, .unset] [(.int (3 : Int32)), (.int p2)])
  refine Runs.back (fun t_ k_ => XS.iand X0.here hx rfl (hb hby at_16) rfl k_) ?_
  show Runs _ _ _ _ s₁ (mkF m 17 #[.val (.int p0), .val (.int p1), .val (.int p2), .val (.int p3), .val (.int v), .unset, .unset, .unset, .unset, .unset] [(.int (p2 &&& (3 : Int32)))])
  have hix : 0 ≤ ((p2 &&& (3 : Int32))).toInt ∧ ((p2 &&& (3 : Int32))).toInt < 4 := by rw [c_mask p2 _ 2 (by decide) (by decide)]; omega
  generalize eix : (p2 &&& (3 : Int32)) = ix at hix ⊢
  show Runs _ _ _ _ s₁ (mkF m 17 #[.val (.int p0), .val (.int p1), .val (.int p2), .val (.int p3), .val (.int v), .unset, .unset, .unset, .unset, .unset] [(.int ix)])
  have hixn : ¬ ix < 0 := by rw [lti, z32]; omega
  obtain ⟨k, hk⟩ : ∃ k, ix.toNatClampNeg = k := ⟨_, rfl⟩
  have hkI : ix.toInt = (k : Int) := by rw [← hk]; exact nat_of hixn
  have hk4 : k < 4 := by omega
  refine Runs.back (fun t_ k_ => XS.istore X0.here hx rfl (hb hby at_17) rfl (l' := #[.val (.int p0), .val (.int p1), .val (.int p2), .val (.int p3), .val (.int v), .val (.int ix), .unset, .unset, .unset, .unset]) rfl k_) ?_
  show Runs _ _ _ _ s₁ (mkF m 19 #[.val (.int p0), .val (.int p1), .val (.int p2), .val (.int p3), .val (.int v), .val (.int ix), .unset, .unset, .unset, .unset] [])
  refine Runs.back (fun t_ k_ => XS.iloadN X0.here hx rfl (hb hby at_19) rfl k_) ?_
  show Runs _ _ _ _ s₁ (mkF m 20 #[.val (.int p0), .val (.int p1), .val (.int p2), .val (.int p3), .val (.int v), .val (.int ix), .unset, .unset, .unset, .unset] [(.int p3)])
  refine Runs.back (fun t_ k_ => XS.i2b X0.here hx rfl (hb hby at_20) rfl k_) ?_
  show Runs _ _ _ _ s₁ (mkF m 21 #[.val (.int p0), .val (.int p1), .val (.int p2), .val (.int p3), .val (.int v), .val (.int ix), .unset, .unset, .unset, .unset] [(.int (p3.toInt8.toInt32))])
  have hfb := nar2 p3
  generalize efb : (p3.toInt8.toInt32) = fb at hfb ⊢
  show Runs _ _ _ _ s₁ (mkF m 21 #[.val (.int p0), .val (.int p1), .val (.int p2), .val (.int p3), .val (.int v), .val (.int ix), .unset, .unset, .unset, .unset] [(.int fb)])
  refine Runs.back (fun t_ k_ => XS.istore X0.here hx rfl (hb hby at_21) rfl (l' := #[.val (.int p0), .val (.int p1), .val (.int p2), .val (.int p3), .val (.int v), .val (.int ix), .val (.int fb), .unset, .unset, .unset]) rfl k_) ?_
  show Runs _ _ _ _ s₁ (mkF m 23 #[.val (.int p0), .val (.int p1), .val (.int p2), .val (.int p3), .val (.int v), .val (.int ix), .val (.int fb), .unset, .unset, .unset] [])
  refine Runs.back (fun t_ k_ => XS.bipush X0.here hx rfl (hb hby at_23) k_) ?_
  show Runs _ _ _ _ s₁ (mkF m 25 #[.val (.int p0), .val (.int p1), .val (.int p2), .val (.int p3), .val (.int v), .val (.int ix), .val (.int fb), .unset, .unset, .unset] [(.int (10 : Int32))])
  obtain ⟨T1, h1, k1, X1, e1, E1, A1, st1⟩ := newP X0 hx hZ (hw _ (List.mem_of_getElem? (i := 1) rfl)) e0 (g := (mkF m 25 #[.val (.int p0), .val (.int p1), .val (.int p2), .val (.int p3), .val (.int v), .val (.int ix), .val (.int fb), .unset, .unset, .unset] [(.int (10 : Int32))])) rfl (hb hby at_25) rfl (by decide) (cap := 10) (by decide) (by decide) (by decide) (by decide)
  obtain ⟨ob1, g1⟩ : ∃ z, z = h0.size := ⟨_, rfl⟩
  rw [← g1] at A1 st1
  have g_ob1 : n0 ≤ ob1 := Nat.le_trans (Z0) (Nat.le_of_eq g1.symm)
  have Z1 : n0 ≤ h1.size := Nat.le_trans (Z0) E1.1
  have V1 : OArr Z h1 ob1 .byte 10 (fun _ => (Value.int (0 : Int32))) := OArr.new A1 rfl rfl
  refine Runs.back st1 ?_
  show Runs _ _ _ _ T1 (mkF m 27 #[.val (.int p0), .val (.int p1), .val (.int p2), .val (.int p3), .val (.int v), .val (.int ix), .val (.int fb), .unset, .unset, .unset] [(.ref ob1)])
  refine Runs.back (fun t_ k_ => XS.dup X1.here hx rfl (hb hby at_27) rfl rfl k_) ?_
  show Runs _ _ _ _ T1 (mkF m 28 #[.val (.int p0), .val (.int p1), .val (.int p2), .val (.int p3), .val (.int v), .val (.int ix), .val (.int fb), .unset, .unset, .unset] [(.ref ob1), (.ref ob1)])
  refine Runs.back (fun t_ k_ => XS.iconst X1.here hx rfl (hb hby at_28) k_) ?_
  show Runs _ _ _ _ T1 (mkF m 29 #[.val (.int p0), .val (.int p1), .val (.int p2), .val (.int p3), .val (.int v), .val (.int ix), .val (.int fb), .unset, .unset, .unset] [(.int (0 : Int32)), (.ref ob1), (.ref ob1)])
  refine Runs.back (fun t_ k_ => XS.iload X1.here hx rfl (hb hby at_29) rfl k_) ?_
  show Runs _ _ _ _ T1 (mkF m 31 #[.val (.int p0), .val (.int p1), .val (.int p2), .val (.int p3), .val (.int v), .val (.int ix), .val (.int fb), .unset, .unset, .unset] [(.int fb), (.int (0 : Int32)), (.ref ob1), (.ref ob1)])
  obtain ⟨cl2, Ar2, S2, Hs2⟩ := id V1
  obtain ⟨T2, h2, X2, e2, W2, st2⟩ := stB X1 hx hZ e1 Ar2 (j := (0 : Int32)) (by rw [S2]; exact (inbO (by decide : ¬ (0 : Int32) < 0) (rfl : ((0 : Int32)).toNatClampNeg = 0) (show 0 < 10 from (by first | omega | decide)))) (g := (mkF m 31 #[.val (.int p0), .val (.int p1), .val (.int p2), .val (.int p3), .val (.int v), .val (.int ix), .val (.int fb), .unset, .unset, .unset] [(.int fb), (.int (0 : Int32)), (.ref ob1), (.ref ob1)])) rfl rfl (hb hby at_31)
  have N2 := Fr.snoc X2 N0 g_ob1
  obtain ⟨L2, X2, N2⟩ := hideL X2 N2
  rw [(rfl : ((0 : Int32)).toNatClampNeg = 0)] at W2
  have f2_Arr_0 : OArr Z h2 ob1 .byte 10 (fun i => if i = 0 then (Value.int (nar .byte fb)) else (fun _ => (Value.int (0 : Int32))) i) := V1.set W2
  have Z2 : n0 ≤ h2.size := Nat.le_trans (Z1) (Nat.le_of_eq W2.size.symm)
  refine Runs.back st2 ?_
  show Runs _ _ _ _ T2 (mkF m 32 #[.val (.int p0), .val (.int p1), .val (.int p2), .val (.int p3), .val (.int v), .val (.int ix), .val (.int fb), .unset, .unset, .unset] [(.ref ob1)])
  refine Runs.back (fun t_ k_ => XS.dup X2.here hx rfl (hb hby at_32) rfl rfl k_) ?_
  show Runs _ _ _ _ T2 (mkF m 33 #[.val (.int p0), .val (.int p1), .val (.int p2), .val (.int p3), .val (.int v), .val (.int ix), .val (.int fb), .unset, .unset, .unset] [(.ref ob1), (.ref ob1)])
  refine Runs.back (fun t_ k_ => XS.iconst X2.here hx rfl (hb hby at_33) k_) ?_
  show Runs _ _ _ _ T2 (mkF m 34 #[.val (.int p0), .val (.int p1), .val (.int p2), .val (.int p3), .val (.int v), .val (.int ix), .val (.int fb), .unset, .unset, .unset] [(.int (1 : Int32)), (.ref ob1), (.ref ob1)])
  refine Runs.back (fun t_ k_ => XS.iload X2.here hx rfl (hb hby at_34) rfl k_) ?_
  show Runs _ _ _ _ T2 (mkF m 36 #[.val (.int p0), .val (.int p1), .val (.int p2), .val (.int p3), .val (.int v), .val (.int ix), .val (.int fb), .unset, .unset, .unset] [(.int fb), (.int (1 : Int32)), (.ref ob1), (.ref ob1)])
  obtain ⟨cl3, Ar3, S3, Hs3⟩ := id f2_Arr_0
  obtain ⟨T3, h3, X3, e3, W3, st3⟩ := stB X2 hx hZ e2 Ar3 (j := (1 : Int32)) (by rw [S3]; exact (inbO (by decide : ¬ (1 : Int32) < 0) (rfl : ((1 : Int32)).toNatClampNeg = 1) (show 1 < 10 from (by first | omega | decide)))) (g := (mkF m 36 #[.val (.int p0), .val (.int p1), .val (.int p2), .val (.int p3), .val (.int v), .val (.int ix), .val (.int fb), .unset, .unset, .unset] [(.int fb), (.int (1 : Int32)), (.ref ob1), (.ref ob1)])) rfl rfl (hb hby at_36)
  have N3 := Fr.snoc X3 N2 g_ob1
  obtain ⟨L3, X3, N3⟩ := hideL X3 N3
  rw [(rfl : ((1 : Int32)).toNatClampNeg = 1)] at W3
  have f3_Arr_0 : OArr Z h3 ob1 .byte 10 (fun i => if i = 1 then (Value.int (nar .byte fb)) else (fun i => if i = 0 then (Value.int (nar .byte fb)) else (fun _ => (Value.int (0 : Int32))) i) i) := f2_Arr_0.set W3
  have Z3 : n0 ≤ h3.size := Nat.le_trans (Z2) (Nat.le_of_eq W3.size.symm)
  refine Runs.back st3 ?_
  show Runs _ _ _ _ T3 (mkF m 37 #[.val (.int p0), .val (.int p1), .val (.int p2), .val (.int p3), .val (.int v), .val (.int ix), .val (.int fb), .unset, .unset, .unset] [(.ref ob1)])
  refine Runs.back (fun t_ k_ => XS.dup X3.here hx rfl (hb hby at_37) rfl rfl k_) ?_
  show Runs _ _ _ _ T3 (mkF m 38 #[.val (.int p0), .val (.int p1), .val (.int p2), .val (.int p3), .val (.int v), .val (.int ix), .val (.int fb), .unset, .unset, .unset] [(.ref ob1), (.ref ob1)])
  refine Runs.back (fun t_ k_ => XS.iconst X3.here hx rfl (hb hby at_38) k_) ?_
  show Runs _ _ _ _ T3 (mkF m 39 #[.val (.int p0), .val (.int p1), .val (.int p2), .val (.int p3), .val (.int v), .val (.int ix), .val (.int fb), .unset, .unset, .unset] [(.int (2 : Int32)), (.ref ob1), (.ref ob1)])
  refine Runs.back (fun t_ k_ => XS.iload X3.here hx rfl (hb hby at_39) rfl k_) ?_
  show Runs _ _ _ _ T3 (mkF m 41 #[.val (.int p0), .val (.int p1), .val (.int p2), .val (.int p3), .val (.int v), .val (.int ix), .val (.int fb), .unset, .unset, .unset] [(.int fb), (.int (2 : Int32)), (.ref ob1), (.ref ob1)])
  obtain ⟨cl4, Ar4, S4, Hs4⟩ := id f3_Arr_0
  obtain ⟨T4, h4, X4, e4, W4, st4⟩ := stB X3 hx hZ e3 Ar4 (j := (2 : Int32)) (by rw [S4]; exact (inbO (by decide : ¬ (2 : Int32) < 0) (rfl : ((2 : Int32)).toNatClampNeg = 2) (show 2 < 10 from (by first | omega | decide)))) (g := (mkF m 41 #[.val (.int p0), .val (.int p1), .val (.int p2), .val (.int p3), .val (.int v), .val (.int ix), .val (.int fb), .unset, .unset, .unset] [(.int fb), (.int (2 : Int32)), (.ref ob1), (.ref ob1)])) rfl rfl (hb hby at_41)
  have N4 := Fr.snoc X4 N3 g_ob1
  obtain ⟨L4, X4, N4⟩ := hideL X4 N4
  rw [(rfl : ((2 : Int32)).toNatClampNeg = 2)] at W4
  have f4_Arr_0 : OArr Z h4 ob1 .byte 10 (fun i => if i = 2 then (Value.int (nar .byte fb)) else (fun i => if i = 1 then (Value.int (nar .byte fb)) else (fun i => if i = 0 then (Value.int (nar .byte fb)) else (fun _ => (Value.int (0 : Int32))) i) i) i) := f3_Arr_0.set W4
  have Z4 : n0 ≤ h4.size := Nat.le_trans (Z3) (Nat.le_of_eq W4.size.symm)
  refine Runs.back st4 ?_
  show Runs _ _ _ _ T4 (mkF m 42 #[.val (.int p0), .val (.int p1), .val (.int p2), .val (.int p3), .val (.int v), .val (.int ix), .val (.int fb), .unset, .unset, .unset] [(.ref ob1)])
  refine Runs.back (fun t_ k_ => XS.dup X4.here hx rfl (hb hby at_42) rfl rfl k_) ?_
  show Runs _ _ _ _ T4 (mkF m 43 #[.val (.int p0), .val (.int p1), .val (.int p2), .val (.int p3), .val (.int v), .val (.int ix), .val (.int fb), .unset, .unset, .unset] [(.ref ob1), (.ref ob1)])
  refine Runs.back (fun t_ k_ => XS.iconst X4.here hx rfl (hb hby at_43) k_) ?_
  show Runs _ _ _ _ T4 (mkF m 44 #[.val (.int p0), .val (.int p1), .val (.int p2), .val (.int p3), .val (.int v), .val (.int ix), .val (.int fb), .unset, .unset, .unset] [(.int (3 : Int32)), (.ref ob1), (.ref ob1)])
  refine Runs.back (fun t_ k_ => XS.iload X4.here hx rfl (hb hby at_44) rfl k_) ?_
  show Runs _ _ _ _ T4 (mkF m 46 #[.val (.int p0), .val (.int p1), .val (.int p2), .val (.int p3), .val (.int v), .val (.int ix), .val (.int fb), .unset, .unset, .unset] [(.int fb), (.int (3 : Int32)), (.ref ob1), (.ref ob1)])
  obtain ⟨cl5, Ar5, S5, Hs5⟩ := id f4_Arr_0
  obtain ⟨T5, h5, X5, e5, W5, st5⟩ := stB X4 hx hZ e4 Ar5 (j := (3 : Int32)) (by rw [S5]; exact (inbO (by decide : ¬ (3 : Int32) < 0) (rfl : ((3 : Int32)).toNatClampNeg = 3) (show 3 < 10 from (by first | omega | decide)))) (g := (mkF m 46 #[.val (.int p0), .val (.int p1), .val (.int p2), .val (.int p3), .val (.int v), .val (.int ix), .val (.int fb), .unset, .unset, .unset] [(.int fb), (.int (3 : Int32)), (.ref ob1), (.ref ob1)])) rfl rfl (hb hby at_46)
  have N5 := Fr.snoc X5 N4 g_ob1
  obtain ⟨L5, X5, N5⟩ := hideL X5 N5
  rw [(rfl : ((3 : Int32)).toNatClampNeg = 3)] at W5
  have f5_Arr_0 : OArr Z h5 ob1 .byte 10 (fun i => if i = 3 then (Value.int (nar .byte fb)) else (fun i => if i = 2 then (Value.int (nar .byte fb)) else (fun i => if i = 1 then (Value.int (nar .byte fb)) else (fun i => if i = 0 then (Value.int (nar .byte fb)) else (fun _ => (Value.int (0 : Int32))) i) i) i) i) := f4_Arr_0.set W5
  have Z5 : n0 ≤ h5.size := Nat.le_trans (Z4) (Nat.le_of_eq W5.size.symm)
  refine Runs.back st5 ?_
  show Runs _ _ _ _ T5 (mkF m 47 #[.val (.int p0), .val (.int p1), .val (.int p2), .val (.int p3), .val (.int v), .val (.int ix), .val (.int fb), .unset, .unset, .unset] [(.ref ob1)])
  refine Runs.back (fun t_ k_ => XS.dup X5.here hx rfl (hb hby at_47) rfl rfl k_) ?_
  show Runs _ _ _ _ T5 (mkF m 48 #[.val (.int p0), .val (.int p1), .val (.int p2), .val (.int p3), .val (.int v), .val (.int ix), .val (.int fb), .unset, .unset, .unset] [(.ref ob1), (.ref ob1)])
  refine Runs.back (fun t_ k_ => XS.iconst X5.here hx rfl (hb hby at_48) k_) ?_
  show Runs _ _ _ _ T5 (mkF m 49 #[.val (.int p0), .val (.int p1), .val (.int p2), .val (.int p3), .val (.int v), .val (.int ix), .val (.int fb), .unset, .unset, .unset] [(.int (4 : Int32)), (.ref ob1), (.ref ob1)])
  refine Runs.back (fun t_ k_ => XS.iload X5.here hx rfl (hb hby at_49) rfl k_) ?_
  show Runs _ _ _ _ T5 (mkF m 51 #[.val (.int p0), .val (.int p1), .val (.int p2), .val (.int p3), .val (.int v), .val (.int ix), .val (.int fb), .unset, .unset, .unset] [(.int fb), (.int (4 : Int32)), (.ref ob1), (.ref ob1)])
  obtain ⟨cl6, Ar6, S6, Hs6⟩ := id f5_Arr_0
  obtain ⟨T6, h6, X6, e6, W6, st6⟩ := stB X5 hx hZ e5 Ar6 (j := (4 : Int32)) (by rw [S6]; exact (inbO (by decide : ¬ (4 : Int32) < 0) (rfl : ((4 : Int32)).toNatClampNeg = 4) (show 4 < 10 from (by first | omega | decide)))) (g := (mkF m 51 #[.val (.int p0), .val (.int p1), .val (.int p2), .val (.int p3), .val (.int v), .val (.int ix), .val (.int fb), .unset, .unset, .unset] [(.int fb), (.int (4 : Int32)), (.ref ob1), (.ref ob1)])) rfl rfl (hb hby at_51)
  have N6 := Fr.snoc X6 N5 g_ob1
  obtain ⟨L6, X6, N6⟩ := hideL X6 N6
  rw [(rfl : ((4 : Int32)).toNatClampNeg = 4)] at W6
  have f6_Arr_0 : OArr Z h6 ob1 .byte 10 (fun i => if i = 4 then (Value.int (nar .byte fb)) else (fun i => if i = 3 then (Value.int (nar .byte fb)) else (fun i => if i = 2 then (Value.int (nar .byte fb)) else (fun i => if i = 1 then (Value.int (nar .byte fb)) else (fun i => if i = 0 then (Value.int (nar .byte fb)) else (fun _ => (Value.int (0 : Int32))) i) i) i) i) i) := f5_Arr_0.set W6
  have Z6 : n0 ≤ h6.size := Nat.le_trans (Z5) (Nat.le_of_eq W6.size.symm)
  refine Runs.back st6 ?_
  show Runs _ _ _ _ T6 (mkF m 52 #[.val (.int p0), .val (.int p1), .val (.int p2), .val (.int p3), .val (.int v), .val (.int ix), .val (.int fb), .unset, .unset, .unset] [(.ref ob1)])
  refine Runs.back (fun t_ k_ => XS.dup X6.here hx rfl (hb hby at_52) rfl rfl k_) ?_
  show Runs _ _ _ _ T6 (mkF m 53 #[.val (.int p0), .val (.int p1), .val (.int p2), .val (.int p3), .val (.int v), .val (.int ix), .val (.int fb), .unset, .unset, .unset] [(.ref ob1), (.ref ob1)])
  refine Runs.back (fun t_ k_ => XS.iconst X6.here hx rfl (hb hby at_53) k_) ?_
  show Runs _ _ _ _ T6 (mkF m 54 #[.val (.int p0), .val (.int p1), .val (.int p2), .val (.int p3), .val (.int v), .val (.int ix), .val (.int fb), .unset, .unset, .unset] [(.int (5 : Int32)), (.ref ob1), (.ref ob1)])
  refine Runs.back (fun t_ k_ => XS.iload X6.here hx rfl (hb hby at_54) rfl k_) ?_
  show Runs _ _ _ _ T6 (mkF m 56 #[.val (.int p0), .val (.int p1), .val (.int p2), .val (.int p3), .val (.int v), .val (.int ix), .val (.int fb), .unset, .unset, .unset] [(.int fb), (.int (5 : Int32)), (.ref ob1), (.ref ob1)])
  obtain ⟨cl7, Ar7, S7, Hs7⟩ := id f6_Arr_0
  obtain ⟨T7, h7, X7, e7, W7, st7⟩ := stB X6 hx hZ e6 Ar7 (j := (5 : Int32)) (by rw [S7]; exact (inbO (by decide : ¬ (5 : Int32) < 0) (rfl : ((5 : Int32)).toNatClampNeg = 5) (show 5 < 10 from (by first | omega | decide)))) (g := (mkF m 56 #[.val (.int p0), .val (.int p1), .val (.int p2), .val (.int p3), .val (.int v), .val (.int ix), .val (.int fb), .unset, .unset, .unset] [(.int fb), (.int (5 : Int32)), (.ref ob1), (.ref ob1)])) rfl rfl (hb hby at_56)
  have N7 := Fr.snoc X7 N6 g_ob1
  obtain ⟨L7, X7, N7⟩ := hideL X7 N7
  rw [(rfl : ((5 : Int32)).toNatClampNeg = 5)] at W7
  have f7_Arr_0 : OArr Z h7 ob1 .byte 10 (fun i => if i = 5 then (Value.int (nar .byte fb)) else (fun i => if i = 4 then (Value.int (nar .byte fb)) else (fun i => if i = 3 then (Value.int (nar .byte fb)) else (fun i => if i = 2 then (Value.int (nar .byte fb)) else (fun i => if i = 1 then (Value.int (nar .byte fb)) else (fun i => if i = 0 then (Value.int (nar .byte fb)) else (fun _ => (Value.int (0 : Int32))) i) i) i) i) i) i) := f6_Arr_0.set W7
  have Z7 : n0 ≤ h7.size := Nat.le_trans (Z6) (Nat.le_of_eq W7.size.symm)
  refine Runs.back st7 ?_
  show Runs _ _ _ _ T7 (mkF m 57 #[.val (.int p0), .val (.int p1), .val (.int p2), .val (.int p3), .val (.int v), .val (.int ix), .val (.int fb), .unset, .unset, .unset] [(.ref ob1)])
  refine Runs.back (fun t_ k_ => XS.dup X7.here hx rfl (hb hby at_57) rfl rfl k_) ?_
  show Runs _ _ _ _ T7 (mkF m 58 #[.val (.int p0), .val (.int p1), .val (.int p2), .val (.int p3), .val (.int v), .val (.int ix), .val (.int fb), .unset, .unset, .unset] [(.ref ob1), (.ref ob1)])
  refine Runs.back (fun t_ k_ => XS.bipush X7.here hx rfl (hb hby at_58) k_) ?_
  show Runs _ _ _ _ T7 (mkF m 60 #[.val (.int p0), .val (.int p1), .val (.int p2), .val (.int p3), .val (.int v), .val (.int ix), .val (.int fb), .unset, .unset, .unset] [(.int (6 : Int32)), (.ref ob1), (.ref ob1)])
  refine Runs.back (fun t_ k_ => XS.iload X7.here hx rfl (hb hby at_60) rfl k_) ?_
  show Runs _ _ _ _ T7 (mkF m 62 #[.val (.int p0), .val (.int p1), .val (.int p2), .val (.int p3), .val (.int v), .val (.int ix), .val (.int fb), .unset, .unset, .unset] [(.int fb), (.int (6 : Int32)), (.ref ob1), (.ref ob1)])
  obtain ⟨cl8, Ar8, S8, Hs8⟩ := id f7_Arr_0
  obtain ⟨T8, h8, X8, e8, W8, st8⟩ := stB X7 hx hZ e7 Ar8 (j := (6 : Int32)) (by rw [S8]; exact (inbO (by decide : ¬ (6 : Int32) < 0) (rfl : ((6 : Int32)).toNatClampNeg = 6) (show 6 < 10 from (by first | omega | decide)))) (g := (mkF m 62 #[.val (.int p0), .val (.int p1), .val (.int p2), .val (.int p3), .val (.int v), .val (.int ix), .val (.int fb), .unset, .unset, .unset] [(.int fb), (.int (6 : Int32)), (.ref ob1), (.ref ob1)])) rfl rfl (hb hby at_62)
  have N8 := Fr.snoc X8 N7 g_ob1
  obtain ⟨L8, X8, N8⟩ := hideL X8 N8
  rw [(rfl : ((6 : Int32)).toNatClampNeg = 6)] at W8
  have f8_Arr_0 : OArr Z h8 ob1 .byte 10 (fun i => if i = 6 then (Value.int (nar .byte fb)) else (fun i => if i = 5 then (Value.int (nar .byte fb)) else (fun i => if i = 4 then (Value.int (nar .byte fb)) else (fun i => if i = 3 then (Value.int (nar .byte fb)) else (fun i => if i = 2 then (Value.int (nar .byte fb)) else (fun i => if i = 1 then (Value.int (nar .byte fb)) else (fun i => if i = 0 then (Value.int (nar .byte fb)) else (fun _ => (Value.int (0 : Int32))) i) i) i) i) i) i) i) := f7_Arr_0.set W8
  have Z8 : n0 ≤ h8.size := Nat.le_trans (Z7) (Nat.le_of_eq W8.size.symm)
  refine Runs.back st8 ?_
  show Runs _ _ _ _ T8 (mkF m 63 #[.val (.int p0), .val (.int p1), .val (.int p2), .val (.int p3), .val (.int v), .val (.int ix), .val (.int fb), .unset, .unset, .unset] [(.ref ob1)])
  refine Runs.back (fun t_ k_ => XS.dup X8.here hx rfl (hb hby at_63) rfl rfl k_) ?_
  show Runs _ _ _ _ T8 (mkF m 64 #[.val (.int p0), .val (.int p1), .val (.int p2), .val (.int p3), .val (.int v), .val (.int ix), .val (.int fb), .unset, .unset, .unset] [(.ref ob1), (.ref ob1)])
  refine Runs.back (fun t_ k_ => XS.bipush X8.here hx rfl (hb hby at_64) k_) ?_
  show Runs _ _ _ _ T8 (mkF m 66 #[.val (.int p0), .val (.int p1), .val (.int p2), .val (.int p3), .val (.int v), .val (.int ix), .val (.int fb), .unset, .unset, .unset] [(.int (7 : Int32)), (.ref ob1), (.ref ob1)])
  refine Runs.back (fun t_ k_ => XS.iload X8.here hx rfl (hb hby at_66) rfl k_) ?_
  show Runs _ _ _ _ T8 (mkF m 68 #[.val (.int p0), .val (.int p1), .val (.int p2), .val (.int p3), .val (.int v), .val (.int ix), .val (.int fb), .unset, .unset, .unset] [(.int fb), (.int (7 : Int32)), (.ref ob1), (.ref ob1)])
  obtain ⟨cl9, Ar9, S9, Hs9⟩ := id f8_Arr_0
  obtain ⟨T9, h9, X9, e9, W9, st9⟩ := stB X8 hx hZ e8 Ar9 (j := (7 : Int32)) (by rw [S9]; exact (inbO (by decide : ¬ (7 : Int32) < 0) (rfl : ((7 : Int32)).toNatClampNeg = 7) (show 7 < 10 from (by first | omega | decide)))) (g := (mkF m 68 #[.val (.int p0), .val (.int p1), .val (.int p2), .val (.int p3), .val (.int v), .val (.int ix), .val (.int fb), .unset, .unset, .unset] [(.int fb), (.int (7 : Int32)), (.ref ob1), (.ref ob1)])) rfl rfl (hb hby at_68)
  have N9 := Fr.snoc X9 N8 g_ob1
  obtain ⟨L9, X9, N9⟩ := hideL X9 N9
  rw [(rfl : ((7 : Int32)).toNatClampNeg = 7)] at W9
  have f9_Arr_0 : OArr Z h9 ob1 .byte 10 (fun i => if i = 7 then (Value.int (nar .byte fb)) else (fun i => if i = 6 then (Value.int (nar .byte fb)) else (fun i => if i = 5 then (Value.int (nar .byte fb)) else (fun i => if i = 4 then (Value.int (nar .byte fb)) else (fun i => if i = 3 then (Value.int (nar .byte fb)) else (fun i => if i = 2 then (Value.int (nar .byte fb)) else (fun i => if i = 1 then (Value.int (nar .byte fb)) else (fun i => if i = 0 then (Value.int (nar .byte fb)) else (fun _ => (Value.int (0 : Int32))) i) i) i) i) i) i) i) i) := f8_Arr_0.set W9
  have Z9 : n0 ≤ h9.size := Nat.le_trans (Z8) (Nat.le_of_eq W9.size.symm)
  refine Runs.back st9 ?_
  show Runs _ _ _ _ T9 (mkF m 69 #[.val (.int p0), .val (.int p1), .val (.int p2), .val (.int p3), .val (.int v), .val (.int ix), .val (.int fb), .unset, .unset, .unset] [(.ref ob1)])
  refine Runs.back (fun t_ k_ => XS.dup X9.here hx rfl (hb hby at_69) rfl rfl k_) ?_
  show Runs _ _ _ _ T9 (mkF m 70 #[.val (.int p0), .val (.int p1), .val (.int p2), .val (.int p3), .val (.int v), .val (.int ix), .val (.int fb), .unset, .unset, .unset] [(.ref ob1), (.ref ob1)])
  refine Runs.back (fun t_ k_ => XS.bipush X9.here hx rfl (hb hby at_70) k_) ?_
  show Runs _ _ _ _ T9 (mkF m 72 #[.val (.int p0), .val (.int p1), .val (.int p2), .val (.int p3), .val (.int v), .val (.int ix), .val (.int fb), .unset, .unset, .unset] [(.int (8 : Int32)), (.ref ob1), (.ref ob1)])
  refine Runs.back (fun t_ k_ => XS.iload X9.here hx rfl (hb hby at_72) rfl k_) ?_
  show Runs _ _ _ _ T9 (mkF m 74 #[.val (.int p0), .val (.int p1), .val (.int p2), .val (.int p3), .val (.int v), .val (.int ix), .val (.int fb), .unset, .unset, .unset] [(.int fb), (.int (8 : Int32)), (.ref ob1), (.ref ob1)])
  obtain ⟨cl10, Ar10, S10, Hs10⟩ := id f9_Arr_0
  obtain ⟨T10, h10, X10, e10, W10, st10⟩ := stB X9 hx hZ e9 Ar10 (j := (8 : Int32)) (by rw [S10]; exact (inbO (by decide : ¬ (8 : Int32) < 0) (rfl : ((8 : Int32)).toNatClampNeg = 8) (show 8 < 10 from (by first | omega | decide)))) (g := (mkF m 74 #[.val (.int p0), .val (.int p1), .val (.int p2), .val (.int p3), .val (.int v), .val (.int ix), .val (.int fb), .unset, .unset, .unset] [(.int fb), (.int (8 : Int32)), (.ref ob1), (.ref ob1)])) rfl rfl (hb hby at_74)
  have N10 := Fr.snoc X10 N9 g_ob1
  obtain ⟨L10, X10, N10⟩ := hideL X10 N10
  rw [(rfl : ((8 : Int32)).toNatClampNeg = 8)] at W10
  have f10_Arr_0 : OArr Z h10 ob1 .byte 10 (fun i => if i = 8 then (Value.int (nar .byte fb)) else (fun i => if i = 7 then (Value.int (nar .byte fb)) else (fun i => if i = 6 then (Value.int (nar .byte fb)) else (fun i => if i = 5 then (Value.int (nar .byte fb)) else (fun i => if i = 4 then (Value.int (nar .byte fb)) else (fun i => if i = 3 then (Value.int (nar .byte fb)) else (fun i => if i = 2 then (Value.int (nar .byte fb)) else (fun i => if i = 1 then (Value.int (nar .byte fb)) else (fun i => if i = 0 then (Value.int (nar .byte fb)) else (fun _ => (Value.int (0 : Int32))) i) i) i) i) i) i) i) i) i) := f9_Arr_0.set W10
  have Z10 : n0 ≤ h10.size := Nat.le_trans (Z9) (Nat.le_of_eq W10.size.symm)
  refine Runs.back st10 ?_
  show Runs _ _ _ _ T10 (mkF m 75 #[.val (.int p0), .val (.int p1), .val (.int p2), .val (.int p3), .val (.int v), .val (.int ix), .val (.int fb), .unset, .unset, .unset] [(.ref ob1)])
  refine Runs.back (fun t_ k_ => XS.dup X10.here hx rfl (hb hby at_75) rfl rfl k_) ?_
  show Runs _ _ _ _ T10 (mkF m 76 #[.val (.int p0), .val (.int p1), .val (.int p2), .val (.int p3), .val (.int v), .val (.int ix), .val (.int fb), .unset, .unset, .unset] [(.ref ob1), (.ref ob1)])
  refine Runs.back (fun t_ k_ => XS.bipush X10.here hx rfl (hb hby at_76) k_) ?_
  show Runs _ _ _ _ T10 (mkF m 78 #[.val (.int p0), .val (.int p1), .val (.int p2), .val (.int p3), .val (.int v), .val (.int ix), .val (.int fb), .unset, .unset, .unset] [(.int (9 : Int32)), (.ref ob1), (.ref ob1)])
  refine Runs.back (fun t_ k_ => XS.iload X10.here hx rfl (hb hby at_78) rfl k_) ?_
  show Runs _ _ _ _ T10 (mkF m 80 #[.val (.int p0), .val (.int p1), .val (.int p2), .val (.int p3), .val (.int v), .val (.int ix), .val (.int fb), .unset, .unset, .unset] [(.int fb), (.int (9 : Int32)), (.ref ob1), (.ref ob1)])
  obtain ⟨cl11, Ar11, S11, Hs11⟩ := id f10_Arr_0
  obtain ⟨T11, h11, X11, e11, W11, st11⟩ := stB X10 hx hZ e10 Ar11 (j := (9 : Int32)) (by rw [S11]; exact (inbO (by decide : ¬ (9 : Int32) < 0) (rfl : ((9 : Int32)).toNatClampNeg = 9) (show 9 < 10 from (by first | omega | decide)))) (g := (mkF m 80 #[.val (.int p0), .val (.int p1), .val (.int p2), .val (.int p3), .val (.int v), .val (.int ix), .val (.int fb), .unset, .unset, .unset] [(.int fb), (.int (9 : Int32)), (.ref ob1), (.ref ob1)])) rfl rfl (hb hby at_80)
  have N11 := Fr.snoc X11 N10 g_ob1
  obtain ⟨L11, X11, N11⟩ := hideL X11 N11
  rw [(rfl : ((9 : Int32)).toNatClampNeg = 9)] at W11
  have f11_Arr_0 : OArr Z h11 ob1 .byte 10 (fun i => if i = 9 then (Value.int (nar .byte fb)) else (fun i => if i = 8 then (Value.int (nar .byte fb)) else (fun i => if i = 7 then (Value.int (nar .byte fb)) else (fun i => if i = 6 then (Value.int (nar .byte fb)) else (fun i => if i = 5 then (Value.int (nar .byte fb)) else (fun i => if i = 4 then (Value.int (nar .byte fb)) else (fun i => if i = 3 then (Value.int (nar .byte fb)) else (fun i => if i = 2 then (Value.int (nar .byte fb)) else (fun i => if i = 1 then (Value.int (nar .byte fb)) else (fun i => if i = 0 then (Value.int (nar .byte fb)) else (fun _ => (Value.int (0 : Int32))) i) i) i) i) i) i) i) i) i) i) := f10_Arr_0.set W11
  have Z11 : n0 ≤ h11.size := Nat.le_trans (Z10) (Nat.le_of_eq W11.size.symm)
  refine Runs.back st11 ?_
  show Runs _ _ _ _ T11 (mkF m 81 #[.val (.int p0), .val (.int p1), .val (.int p2), .val (.int p3), .val (.int v), .val (.int ix), .val (.int fb), .unset, .unset, .unset] [(.ref ob1)])
  refine Runs.back (fun t_ k_ => XS.astore X11.here hx rfl (hb hby at_81) rfl rfl (l' := #[.val (.int p0), .val (.int p1), .val (.int p2), .val (.int p3), .val (.int v), .val (.int ix), .val (.int fb), .val (.ref ob1), .unset, .unset]) rfl k_) ?_
  show Runs _ _ _ _ T11 (mkF m 83 #[.val (.int p0), .val (.int p1), .val (.int p2), .val (.int p3), .val (.int v), .val (.int ix), .val (.int fb), .val (.ref ob1), .unset, .unset] [])
  have V83 : OArr Z h11 ob1 .byte 10 (fun _ => (Value.int fb)) := OArr.congr f11_Arr_0 (by
    intro i hi
    match i, hi with
    | 0, _ => exact congrArg Value.int hfb
    | 1, _ => exact congrArg Value.int hfb
    | 2, _ => exact congrArg Value.int hfb
    | 3, _ => exact congrArg Value.int hfb
    | 4, _ => exact congrArg Value.int hfb
    | 5, _ => exact congrArg Value.int hfb
    | 6, _ => exact congrArg Value.int hfb
    | 7, _ => exact congrArg Value.int hfb
    | 8, _ => exact congrArg Value.int hfb
    | 9, _ => exact congrArg Value.int hfb)
  refine Runs.back (fun t_ k_ => XS.iload X11.here hx rfl (hb hby at_83) rfl k_) ?_
  show Runs _ _ _ _ T11 (mkF m 85 #[.val (.int p0), .val (.int p1), .val (.int p2), .val (.int p3), .val (.int v), .val (.int ix), .val (.int fb), .val (.ref ob1), .unset, .unset] [(.int v)])
  obtain ⟨_, _, ⟨T12, L12, k12, n12⟩, -, X12, ⟨Lc12, hQ12, l12, y12, z12⟩, st12⟩ := Jvm.LawKit.callS X11 hx (y := (⟨"com/example/strict_distinct/strictdistinct/KeyBytesWriteLengthPinLaw", "expectedSize", "(I)I"⟩ : MethodName)) hown (mvT hZ (hw _ (List.mem_of_getElem? (i := 2) rfl))) (mvT hZ (hw _ (List.mem_of_getElem? (i := 3) rfl))) (mvT hZ (hw _ (List.mem_of_getElem? (i := 4) rfl))) (mvT hZ (hw _ (List.mem_of_getElem? (i := 5) rfl))) (by decide) (backOf (W := 0) (rm1 l Z a0 hw [] v h11 n0 (Z11)) hZ (hw _ (List.mem_of_getElem? (i := 5) rfl)) (hw _ (List.mem_of_getElem? (i := 4) rfl)) (by decide) (by decide)) (g := (mkF m 85 #[.val (.int p0), .val (.int p1), .val (.int p2), .val (.int p3), .val (.int v), .val (.int ix), .val (.int fb), .val (.ref ob1), .unset, .unset] [(.int v)])) rfl (by rw [hml]; rfl) (argsL := [(.int v)]) (rest := []) (lenOf pd0_0 rfl) rfl (by show 2 * 0 + _ ≤ _; exact Nat.le_of_eq rfl) (hb hby at_85) (fun _ _ => ⟨rfl, e11, (by decide : 1 + 0 ≤ _), (by decide : 10 + 0 ≤ _)⟩)
  dsimp only [Pt.U, Pt.locs, Pt.cells, Pt.slots] at X12 l12 y12 z12 st12 hQ12
  obtain rfl : k12 = 1 := y12
  obtain rfl : n12 = 10 := z12
  obtain ⟨rfl, N12q, eq12⟩ := hQ12
  have N12 : Fr n0 L12 := by rw [l12]; exact Fr.app N11 N12q
  clear l12
  refine Runs.back st12 ?_
  show Runs _ _ _ _ T12 (mkF m 88 #[.val (.int p0), .val (.int p1), .val (.int p2), .val (.int p3), .val (.int v), .val (.int ix), .val (.int fb), .val (.ref ob1), .unset, .unset] [(.int (szF v))])
  refine Runs.back (fun t_ k_ => XS.istore X12.here hx rfl (hb hby at_88) rfl (l' := #[.val (.int p0), .val (.int p1), .val (.int p2), .val (.int p3), .val (.int v), .val (.int ix), .val (.int fb), .val (.ref ob1), .val (.int (szF v)), .unset]) rfl k_) ?_
  show Runs _ _ _ _ T12 (mkF m 90 #[.val (.int p0), .val (.int p1), .val (.int p2), .val (.int p3), .val (.int v), .val (.int ix), .val (.int fb), .val (.ref ob1), .val (.int (szF v)), .unset] [])
  have t1 : (128 : Int32).toInt = 128 := by decide
  have t2 : (16384 : Int32).toInt = 16384 := by decide
  have t3 : (2097152 : Int32).toInt = 2097152 := by decide
  have t4 : (268435456 : Int32).toInt = 268435456 := by decide
  have hcases : (szF v = 1 ∧ V < 128) ∨ (szF v = 2 ∧ 128 ≤ V ∧ V < 16384) ∨ (szF v = 3 ∧ 16384 ≤ V ∧ V < 2097152) ∨ (szF v = 4 ∧ 2097152 ≤ V ∧ V < 268435456) ∨ (szF v = 5 ∧ 268435456 ≤ V) := by
    unfold szF
    simp only [lti, hV, t1, t2, t3, t4]
    by_cases q1 : (V : Int) < 128
    · left; exact ⟨if_pos q1, by omega⟩
    by_cases q2 : (V : Int) < 16384
    · right; left; exact ⟨by rw [if_neg q1, if_pos q2], by omega, by omega⟩
    by_cases q3 : (V : Int) < 2097152
    · right; right; left; exact ⟨by rw [if_neg q1, if_neg q2, if_pos q3], by omega, by omega⟩
    by_cases q4 : (V : Int) < 268435456
    · right; right; right; left; exact ⟨by rw [if_neg q1, if_neg q2, if_neg q3, if_pos q4], by omega, by omega⟩
    · right; right; right; right; exact ⟨by rw [if_neg q1, if_neg q2, if_neg q3, if_neg q4], by omega⟩
  rcases hcases with ⟨hz, g2⟩ | ⟨hz, g1, g2⟩ | ⟨hz, g1, g2⟩ | ⟨hz, g1, g2⟩ | ⟨hz, g1⟩
  · rw [hz]
    have hVa : 0 ≤ V := by omega
    have hVb : V < 128 := by omega
    have hVc : V < 128 ^ 1 := by simpa using hVb
    show Runs _ _ _ _ T12 (mkF m 90 #[.val (.int p0), .val (.int p1), .val (.int p2), .val (.int p3), .val (.int v), .val (.int ix), .val (.int fb), .val (.ref ob1), .val (.int (1 : Int32)), .unset] [])
    refine Runs.back (fun t_ k_ => XS.aload X12.here hx rfl (hb hby at_90) rfl rfl k_) ?_
    show Runs _ _ _ _ T12 (mkF m 92 #[.val (.int p0), .val (.int p1), .val (.int p2), .val (.int p3), .val (.int v), .val (.int ix), .val (.int fb), .val (.ref ob1), .val (.int (1 : Int32)), .unset] [(.ref ob1)])
    refine Runs.back (fun t_ k_ => XS.iload X12.here hx rfl (hb hby at_92) rfl k_) ?_
    show Runs _ _ _ _ T12 (mkF m 94 #[.val (.int p0), .val (.int p1), .val (.int p2), .val (.int p3), .val (.int v), .val (.int ix), .val (.int fb), .val (.ref ob1), .val (.int (1 : Int32)), .unset] [(.int ix), (.ref ob1)])
    refine Runs.back (fun t_ k_ => XS.iload X12.here hx rfl (hb hby at_94) rfl k_) ?_
    show Runs _ _ _ _ T12 (mkF m 96 #[.val (.int p0), .val (.int p1), .val (.int p2), .val (.int p3), .val (.int v), .val (.int ix), .val (.int fb), .val (.ref ob1), .val (.int (1 : Int32)), .unset] [(.int v), (.int ix), (.ref ob1)])
    obtain ⟨_, _, ⟨T13, L13, k13, n13⟩, -, X13, ⟨Lc13, hQ13, l13, y13, z13⟩, st13⟩ := Jvm.LawKit.callS X12 hx (y := (⟨"com/example/strict_distinct/strictdistinct/KeyBytes", "writeLength", "([BII)I"⟩ : MethodName)) hown (mvT hZ (hw _ (List.mem_of_getElem? (i := 6) rfl))) (mvT hZ (hw _ (List.mem_of_getElem? (i := 7) rfl))) (mvT hZ (hw _ (List.mem_of_getElem? (i := 8) rfl))) (mvT hZ (hw _ (List.mem_of_getElem? (i := 9) rfl))) (by decide) (backOf (W := 0) (rm2n1 l Z a0 hw [] ob1 ix v V k fb h11 n0 (Z11) V83 g_ob1 hk hixn hk4 hV hVa hVb hV3) hZ (hw _ (List.mem_of_getElem? (i := 9) rfl)) (hw _ (List.mem_of_getElem? (i := 8) rfl)) (by decide) (by decide)) (g := (mkF m 96 #[.val (.int p0), .val (.int p1), .val (.int p2), .val (.int p3), .val (.int v), .val (.int ix), .val (.int fb), .val (.ref ob1), .val (.int (1 : Int32)), .unset] [(.int v), (.int ix), (.ref ob1)])) rfl (by rw [hml]; rfl) (argsL := [(.ref ob1), (.int ix), (.int v)]) (rest := []) (lenOf pd0_1 rfl) rfl (by show 2 * 0 + _ ≤ _; exact Nat.le_of_eq rfl) (hb hby at_96) (fun _ _ => ⟨rfl, eq12, (by decide : 1 + 0 ≤ _), (by decide : 10 + 0 ≤ _)⟩)
    dsimp only [Pt.U, Pt.locs, Pt.cells, Pt.slots] at X13 l13 y13 z13 st13 hQ13
    obtain rfl : k13 = 1 := y13
    obtain rfl : n13 = 10 := z13
    obtain ⟨rfl, N13q, K13, wA13⟩ := hQ13
    have N13 : Fr n0 L13 := by rw [l13]; exact Fr.app N12 N13q
    clear l13
    have Z13 : n0 ≤ T13.heap.size := Nat.le_trans (Z11) K13.1
    refine Runs.back st13 ?_
    show Runs _ _ _ _ T13 (mkF m 99 #[.val (.int p0), .val (.int p1), .val (.int p2), .val (.int p3), .val (.int v), .val (.int ix), .val (.int fb), .val (.ref ob1), .val (.int (1 : Int32)), .unset] [(.int (ix + (1 : Int32)))])
    refine Runs.back (fun t_ k_ => XS.istore X13.here hx rfl (hb hby at_99) rfl (l' := #[.val (.int p0), .val (.int p1), .val (.int p2), .val (.int p3), .val (.int v), .val (.int ix), .val (.int fb), .val (.ref ob1), .val (.int (1 : Int32)), .val (.int (ix + (1 : Int32)))]) rfl k_) ?_
    show Runs _ _ _ _ T13 (mkF m 101 #[.val (.int p0), .val (.int p1), .val (.int p2), .val (.int p3), .val (.int v), .val (.int ix), .val (.int fb), .val (.ref ob1), .val (.int (1 : Int32)), .val (.int (ix + (1 : Int32)))] [])
    refine Runs.back (fun t_ k_ => XS.iload X13.here hx rfl (hb hby at_101) rfl k_) ?_
    show Runs _ _ _ _ T13 (mkF m 103 #[.val (.int p0), .val (.int p1), .val (.int p2), .val (.int p3), .val (.int v), .val (.int ix), .val (.int fb), .val (.ref ob1), .val (.int (1 : Int32)), .val (.int (ix + (1 : Int32)))] [(.int (ix + (1 : Int32)))])
    refine Runs.back (fun t_ k_ => XS.iload X13.here hx rfl (hb hby at_103) rfl k_) ?_
    show Runs _ _ _ _ T13 (mkF m 105 #[.val (.int p0), .val (.int p1), .val (.int p2), .val (.int p3), .val (.int v), .val (.int ix), .val (.int fb), .val (.ref ob1), .val (.int (1 : Int32)), .val (.int (ix + (1 : Int32)))] [(.int ix), (.int (ix + (1 : Int32)))])
    refine Runs.back (fun t_ k_ => XS.iload X13.here hx rfl (hb hby at_105) rfl k_) ?_
    show Runs _ _ _ _ T13 (mkF m 107 #[.val (.int p0), .val (.int p1), .val (.int p2), .val (.int p3), .val (.int v), .val (.int ix), .val (.int fb), .val (.ref ob1), .val (.int (1 : Int32)), .val (.int (ix + (1 : Int32)))] [(.int (1 : Int32)), (.int ix), (.int (ix + (1 : Int32)))])
    refine Runs.back (fun t_ k_ => XS.iadd X13.here hx rfl (hb hby at_107) rfl k_) ?_
    show Runs _ _ _ _ T13 (mkF m 108 #[.val (.int p0), .val (.int p1), .val (.int p2), .val (.int p3), .val (.int v), .val (.int ix), .val (.int fb), .val (.ref ob1), .val (.int (1 : Int32)), .val (.int (ix + (1 : Int32)))] [(.int (ix + (1 : Int32))), (.int (ix + (1 : Int32)))])
    refine Runs.back (fun t_ k_ => XS.icmpYes X13.here hx rfl (pc0 := 108) (pc' := 113) rfl (hb hby at_108) rfl (teq (show (ix + (1 : Int32)) = (ix + (1 : Int32)) from rfl)).1 (by decide) (by decide) k_) ?_
    show Runs _ _ _ _ T13 (mkF m 113 #[.val (.int p0), .val (.int p1), .val (.int p2), .val (.int p3), .val (.int v), .val (.int ix), .val (.int fb), .val (.ref ob1), .val (.int (1 : Int32)), .val (.int (ix + (1 : Int32)))] [])
    refine Runs.back (fun t_ k_ => XS.aload X13.here hx rfl (hb hby at_113) rfl rfl k_) ?_
    show Runs _ _ _ _ T13 (mkF m 115 #[.val (.int p0), .val (.int p1), .val (.int p2), .val (.int p3), .val (.int v), .val (.int ix), .val (.int fb), .val (.ref ob1), .val (.int (1 : Int32)), .val (.int (ix + (1 : Int32)))] [(.ref ob1)])
    refine Runs.back (fun t_ k_ => XS.iconst X13.here hx rfl (hb hby at_115) k_) ?_
    show Runs _ _ _ _ T13 (mkF m 116 #[.val (.int p0), .val (.int p1), .val (.int p2), .val (.int p3), .val (.int v), .val (.int ix), .val (.int fb), .val (.ref ob1), .val (.int (1 : Int32)), .val (.int (ix + (1 : Int32)))] [(.int (0 : Int32)), (.ref ob1)])
    refine Runs.back (fun t_ k_ => XS.iload X13.here hx rfl (hb hby at_116) rfl k_) ?_
    show Runs _ _ _ _ T13 (mkF m 118 #[.val (.int p0), .val (.int p1), .val (.int p2), .val (.int p3), .val (.int v), .val (.int ix), .val (.int fb), .val (.ref ob1), .val (.int (1 : Int32)), .val (.int (ix + (1 : Int32)))] [(.int ix), (.int (0 : Int32)), (.ref ob1)])
    refine Runs.back (fun t_ k_ => XS.iload X13.here hx rfl (hb hby at_118) rfl k_) ?_
    show Runs _ _ _ _ T13 (mkF m 120 #[.val (.int p0), .val (.int p1), .val (.int p2), .val (.int p3), .val (.int v), .val (.int ix), .val (.int fb), .val (.ref ob1), .val (.int (1 : Int32)), .val (.int (ix + (1 : Int32)))] [(.int (1 : Int32)), (.int ix), (.int (0 : Int32)), (.ref ob1)])
    refine Runs.back (fun t_ k_ => XS.iload X13.here hx rfl (hb hby at_120) rfl k_) ?_
    show Runs _ _ _ _ T13 (mkF m 122 #[.val (.int p0), .val (.int p1), .val (.int p2), .val (.int p3), .val (.int v), .val (.int ix), .val (.int fb), .val (.ref ob1), .val (.int (1 : Int32)), .val (.int (ix + (1 : Int32)))] [(.int v), (.int (1 : Int32)), (.int ix), (.int (0 : Int32)), (.ref ob1)])
    refine Runs.back (fun t_ k_ => XS.iload X13.here hx rfl (hb hby at_122) rfl k_) ?_
    show Runs _ _ _ _ T13 (mkF m 124 #[.val (.int p0), .val (.int p1), .val (.int p2), .val (.int p3), .val (.int v), .val (.int ix), .val (.int fb), .val (.ref ob1), .val (.int (1 : Int32)), .val (.int (ix + (1 : Int32)))] [(.int fb), (.int v), (.int (1 : Int32)), (.int ix), (.int (0 : Int32)), (.ref ob1)])
    obtain ⟨_, _, ⟨T14, L14, k14, n14⟩, -, X14, ⟨Lc14, hQ14, l14, y14, z14⟩, st14⟩ := Jvm.LawKit.callS X13 hx (y := (⟨"com/example/strict_distinct/strictdistinct/KeyBytesWriteLengthPinLaw", "at", "([BIIIIB)Z"⟩ : MethodName)) hown (mvT hZ (hw _ (List.mem_of_getElem? (i := 10) rfl))) (mvT hZ (hw _ (List.mem_of_getElem? (i := 11) rfl))) (mvT hZ (hw _ (List.mem_of_getElem? (i := 4) rfl))) (mvT hZ (hw _ (List.mem_of_getElem? (i := 12) rfl))) (by decide) (backOf (W := 0) (rm3 l Z a0 hw [] ob1 (0 : Int32) ix (1 : Int32) v fb 1 V k 0 fb T13.heap n0 (Z13) wA13 (by decide) (by decide) (by decide) (by decide) hkI hk4 (by decide) (by decide) hV hVc hV3 rfl) hZ (hw _ (List.mem_of_getElem? (i := 12) rfl)) (hw _ (List.mem_of_getElem? (i := 4) rfl)) (by decide) (by decide)) (g := (mkF m 124 #[.val (.int p0), .val (.int p1), .val (.int p2), .val (.int p3), .val (.int v), .val (.int ix), .val (.int fb), .val (.ref ob1), .val (.int (1 : Int32)), .val (.int (ix + (1 : Int32)))] [(.int fb), (.int v), (.int (1 : Int32)), (.int ix), (.int (0 : Int32)), (.ref ob1)])) rfl (by rw [hml]; rfl) (argsL := [(.ref ob1), (.int (0 : Int32)), (.int ix), (.int (1 : Int32)), (.int v), (.int fb)]) (rest := []) (lenOf pd0_2 rfl) rfl (by show 2 * 0 + _ ≤ _; exact Nat.le_of_eq rfl) (hb hby at_124) (fun _ _ => ⟨rfl, rfl, (by decide : 1 + 0 ≤ _), (by decide : 10 + 0 ≤ _)⟩)
    dsimp only [Pt.U, Pt.locs, Pt.cells, Pt.slots] at X14 l14 y14 z14 st14 hQ14
    obtain rfl : k14 = 1 := y14
    obtain rfl : n14 = 10 := z14
    obtain ⟨rfl, N14q, eq14⟩ := hQ14
    have N14 : Fr n0 L14 := by rw [l14]; exact Fr.app N13 N14q
    clear l14
    refine Runs.back st14 ?_
    show Runs _ _ _ _ T14 (mkF m 127 #[.val (.int p0), .val (.int p1), .val (.int p2), .val (.int p3), .val (.int v), .val (.int ix), .val (.int fb), .val (.ref ob1), .val (.int (1 : Int32)), .val (.int (ix + (1 : Int32)))] [(.int (1 : Int32))])
    refine Runs.back (fun t_ k_ => XS.ifNo X14.here hx rfl (hb hby at_127) rfl ((if0 _ _).trans (feq (show ¬ ((1 : Int32) = (0 : Int32)) from (by decide))).1) k_) ?_
    show Runs _ _ _ _ T14 (mkF m 130 #[.val (.int p0), .val (.int p1), .val (.int p2), .val (.int p3), .val (.int v), .val (.int ix), .val (.int fb), .val (.ref ob1), .val (.int (1 : Int32)), .val (.int (ix + (1 : Int32)))] [])
    refine Runs.back (fun t_ k_ => XS.aload X14.here hx rfl (hb hby at_130) rfl rfl k_) ?_
    show Runs _ _ _ _ T14 (mkF m 132 #[.val (.int p0), .val (.int p1), .val (.int p2), .val (.int p3), .val (.int v), .val (.int ix), .val (.int fb), .val (.ref ob1), .val (.int (1 : Int32)), .val (.int (ix + (1 : Int32)))] [(.ref ob1)])
    refine Runs.back (fun t_ k_ => XS.iconst X14.here hx rfl (hb hby at_132) k_) ?_
    show Runs _ _ _ _ T14 (mkF m 133 #[.val (.int p0), .val (.int p1), .val (.int p2), .val (.int p3), .val (.int v), .val (.int ix), .val (.int fb), .val (.ref ob1), .val (.int (1 : Int32)), .val (.int (ix + (1 : Int32)))] [(.int (1 : Int32)), (.ref ob1)])
    refine Runs.back (fun t_ k_ => XS.iload X14.here hx rfl (hb hby at_133) rfl k_) ?_
    show Runs _ _ _ _ T14 (mkF m 135 #[.val (.int p0), .val (.int p1), .val (.int p2), .val (.int p3), .val (.int v), .val (.int ix), .val (.int fb), .val (.ref ob1), .val (.int (1 : Int32)), .val (.int (ix + (1 : Int32)))] [(.int ix), (.int (1 : Int32)), (.ref ob1)])
    refine Runs.back (fun t_ k_ => XS.iload X14.here hx rfl (hb hby at_135) rfl k_) ?_
    show Runs _ _ _ _ T14 (mkF m 137 #[.val (.int p0), .val (.int p1), .val (.int p2), .val (.int p3), .val (.int v), .val (.int ix), .val (.int fb), .val (.ref ob1), .val (.int (1 : Int32)), .val (.int (ix + (1 : Int32)))] [(.int (1 : Int32)), (.int ix), (.int (1 : Int32)), (.ref ob1)])
    refine Runs.back (fun t_ k_ => XS.iload X14.here hx rfl (hb hby at_137) rfl k_) ?_
    show Runs _ _ _ _ T14 (mkF m 139 #[.val (.int p0), .val (.int p1), .val (.int p2), .val (.int p3), .val (.int v), .val (.int ix), .val (.int fb), .val (.ref ob1), .val (.int (1 : Int32)), .val (.int (ix + (1 : Int32)))] [(.int v), (.int (1 : Int32)), (.int ix), (.int (1 : Int32)), (.ref ob1)])
    refine Runs.back (fun t_ k_ => XS.iload X14.here hx rfl (hb hby at_139) rfl k_) ?_
    show Runs _ _ _ _ T14 (mkF m 141 #[.val (.int p0), .val (.int p1), .val (.int p2), .val (.int p3), .val (.int v), .val (.int ix), .val (.int fb), .val (.ref ob1), .val (.int (1 : Int32)), .val (.int (ix + (1 : Int32)))] [(.int fb), (.int v), (.int (1 : Int32)), (.int ix), (.int (1 : Int32)), (.ref ob1)])
    obtain ⟨_, _, ⟨T15, L15, k15, n15⟩, -, X15, ⟨Lc15, hQ15, l15, y15, z15⟩, st15⟩ := Jvm.LawKit.callS X14 hx (y := (⟨"com/example/strict_distinct/strictdistinct/KeyBytesWriteLengthPinLaw", "at", "([BIIIIB)Z"⟩ : MethodName)) hown (mvT hZ (hw _ (List.mem_of_getElem? (i := 10) rfl))) (mvT hZ (hw _ (List.mem_of_getElem? (i := 11) rfl))) (mvT hZ (hw _ (List.mem_of_getElem? (i := 4) rfl))) (mvT hZ (hw _ (List.mem_of_getElem? (i := 12) rfl))) (by decide) (backOf (W := 0) (rm3 l Z a0 hw [] ob1 (1 : Int32) ix (1 : Int32) v fb 1 V k 1 fb T13.heap n0 (Z13) wA13 (by decide) (by decide) (by decide) (by decide) hkI hk4 (by decide) (by decide) hV hVc hV3 rfl) hZ (hw _ (List.mem_of_getElem? (i := 12) rfl)) (hw _ (List.mem_of_getElem? (i := 4) rfl)) (by decide) (by decide)) (g := (mkF m 141 #[.val (.int p0), .val (.int p1), .val (.int p2), .val (.int p3), .val (.int v), .val (.int ix), .val (.int fb), .val (.ref ob1), .val (.int (1 : Int32)), .val (.int (ix + (1 : Int32)))] [(.int fb), (.int v), (.int (1 : Int32)), (.int ix), (.int (1 : Int32)), (.ref ob1)])) rfl (by rw [hml]; rfl) (argsL := [(.ref ob1), (.int (1 : Int32)), (.int ix), (.int (1 : Int32)), (.int v), (.int fb)]) (rest := []) (lenOf pd0_2 rfl) rfl (by show 2 * 0 + _ ≤ _; exact Nat.le_of_eq rfl) (hb hby at_141) (fun _ _ => ⟨rfl, eq14, (by decide : 1 + 0 ≤ _), (by decide : 10 + 0 ≤ _)⟩)
    dsimp only [Pt.U, Pt.locs, Pt.cells, Pt.slots] at X15 l15 y15 z15 st15 hQ15
    obtain rfl : k15 = 1 := y15
    obtain rfl : n15 = 10 := z15
    obtain ⟨rfl, N15q, eq15⟩ := hQ15
    have N15 : Fr n0 L15 := by rw [l15]; exact Fr.app N14 N15q
    clear l15
    refine Runs.back st15 ?_
    show Runs _ _ _ _ T15 (mkF m 144 #[.val (.int p0), .val (.int p1), .val (.int p2), .val (.int p3), .val (.int v), .val (.int ix), .val (.int fb), .val (.ref ob1), .val (.int (1 : Int32)), .val (.int (ix + (1 : Int32)))] [(.int (1 : Int32))])
    refine Runs.back (fun t_ k_ => XS.ifNo X15.here hx rfl (hb hby at_144) rfl ((if0 _ _).trans (feq (show ¬ ((1 : Int32) = (0 : Int32)) from (by decide))).1) k_) ?_
    show Runs _ _ _ _ T15 (mkF m 147 #[.val (.int p0), .val (.int p1), .val (.int p2), .val (.int p3), .val (.int v), .val (.int ix), .val (.int fb), .val (.ref ob1), .val (.int (1 : Int32)), .val (.int (ix + (1 : Int32)))] [])
    refine Runs.back (fun t_ k_ => XS.aload X15.here hx rfl (hb hby at_147) rfl rfl k_) ?_
    show Runs _ _ _ _ T15 (mkF m 149 #[.val (.int p0), .val (.int p1), .val (.int p2), .val (.int p3), .val (.int v), .val (.int ix), .val (.int fb), .val (.ref ob1), .val (.int (1 : Int32)), .val (.int (ix + (1 : Int32)))] [(.ref ob1)])
    refine Runs.back (fun t_ k_ => XS.iconst X15.here hx rfl (hb hby at_149) k_) ?_
    show Runs _ _ _ _ T15 (mkF m 150 #[.val (.int p0), .val (.int p1), .val (.int p2), .val (.int p3), .val (.int v), .val (.int ix), .val (.int fb), .val (.ref ob1), .val (.int (1 : Int32)), .val (.int (ix + (1 : Int32)))] [(.int (2 : Int32)), (.ref ob1)])
    refine Runs.back (fun t_ k_ => XS.iload X15.here hx rfl (hb hby at_150) rfl k_) ?_
    show Runs _ _ _ _ T15 (mkF m 152 #[.val (.int p0), .val (.int p1), .val (.int p2), .val (.int p3), .val (.int v), .val (.int ix), .val (.int fb), .val (.ref ob1), .val (.int (1 : Int32)), .val (.int (ix + (1 : Int32)))] [(.int ix), (.int (2 : Int32)), (.ref ob1)])
    refine Runs.back (fun t_ k_ => XS.iload X15.here hx rfl (hb hby at_152) rfl k_) ?_
    show Runs _ _ _ _ T15 (mkF m 154 #[.val (.int p0), .val (.int p1), .val (.int p2), .val (.int p3), .val (.int v), .val (.int ix), .val (.int fb), .val (.ref ob1), .val (.int (1 : Int32)), .val (.int (ix + (1 : Int32)))] [(.int (1 : Int32)), (.int ix), (.int (2 : Int32)), (.ref ob1)])
    refine Runs.back (fun t_ k_ => XS.iload X15.here hx rfl (hb hby at_154) rfl k_) ?_
    show Runs _ _ _ _ T15 (mkF m 156 #[.val (.int p0), .val (.int p1), .val (.int p2), .val (.int p3), .val (.int v), .val (.int ix), .val (.int fb), .val (.ref ob1), .val (.int (1 : Int32)), .val (.int (ix + (1 : Int32)))] [(.int v), (.int (1 : Int32)), (.int ix), (.int (2 : Int32)), (.ref ob1)])
    refine Runs.back (fun t_ k_ => XS.iload X15.here hx rfl (hb hby at_156) rfl k_) ?_
    show Runs _ _ _ _ T15 (mkF m 158 #[.val (.int p0), .val (.int p1), .val (.int p2), .val (.int p3), .val (.int v), .val (.int ix), .val (.int fb), .val (.ref ob1), .val (.int (1 : Int32)), .val (.int (ix + (1 : Int32)))] [(.int fb), (.int v), (.int (1 : Int32)), (.int ix), (.int (2 : Int32)), (.ref ob1)])
    obtain ⟨_, _, ⟨T16, L16, k16, n16⟩, -, X16, ⟨Lc16, hQ16, l16, y16, z16⟩, st16⟩ := Jvm.LawKit.callS X15 hx (y := (⟨"com/example/strict_distinct/strictdistinct/KeyBytesWriteLengthPinLaw", "at", "([BIIIIB)Z"⟩ : MethodName)) hown (mvT hZ (hw _ (List.mem_of_getElem? (i := 10) rfl))) (mvT hZ (hw _ (List.mem_of_getElem? (i := 11) rfl))) (mvT hZ (hw _ (List.mem_of_getElem? (i := 4) rfl))) (mvT hZ (hw _ (List.mem_of_getElem? (i := 12) rfl))) (by decide) (backOf (W := 0) (rm3 l Z a0 hw [] ob1 (2 : Int32) ix (1 : Int32) v fb 1 V k 2 fb T13.heap n0 (Z13) wA13 (by decide) (by decide) (by decide) (by decide) hkI hk4 (by decide) (by decide) hV hVc hV3 rfl) hZ (hw _ (List.mem_of_getElem? (i := 12) rfl)) (hw _ (List.mem_of_getElem? (i := 4) rfl)) (by decide) (by decide)) (g := (mkF m 158 #[.val (.int p0), .val (.int p1), .val (.int p2), .val (.int p3), .val (.int v), .val (.int ix), .val (.int fb), .val (.ref ob1), .val (.int (1 : Int32)), .val (.int (ix + (1 : Int32)))] [(.int fb), (.int v), (.int (1 : Int32)), (.int ix), (.int (2 : Int32)), (.ref ob1)])) rfl (by rw [hml]; rfl) (argsL := [(.ref ob1), (.int (2 : Int32)), (.int ix), (.int (1 : Int32)), (.int v), (.int fb)]) (rest := []) (lenOf pd0_2 rfl) rfl (by show 2 * 0 + _ ≤ _; exact Nat.le_of_eq rfl) (hb hby at_158) (fun _ _ => ⟨rfl, eq15, (by decide : 1 + 0 ≤ _), (by decide : 10 + 0 ≤ _)⟩)
    dsimp only [Pt.U, Pt.locs, Pt.cells, Pt.slots] at X16 l16 y16 z16 st16 hQ16
    obtain rfl : k16 = 1 := y16
    obtain rfl : n16 = 10 := z16
    obtain ⟨rfl, N16q, eq16⟩ := hQ16
    have N16 : Fr n0 L16 := by rw [l16]; exact Fr.app N15 N16q
    clear l16
    refine Runs.back st16 ?_
    show Runs _ _ _ _ T16 (mkF m 161 #[.val (.int p0), .val (.int p1), .val (.int p2), .val (.int p3), .val (.int v), .val (.int ix), .val (.int fb), .val (.ref ob1), .val (.int (1 : Int32)), .val (.int (ix + (1 : Int32)))] [(.int (1 : Int32))])
    refine Runs.back (fun t_ k_ => XS.ifNo X16.here hx rfl (hb hby at_161) rfl ((if0 _ _).trans (feq (show ¬ ((1 : Int32) = (0 : Int32)) from (by decide))).1) k_) ?_
    show Runs _ _ _ _ T16 (mkF m 164 #[.val (.int p0), .val (.int p1), .val (.int p2), .val (.int p3), .val (.int v), .val (.int ix), .val (.int fb), .val (.ref ob1), .val (.int (1 : Int32)), .val (.int (ix + (1 : Int32)))] [])
    refine Runs.back (fun t_ k_ => XS.aload X16.here hx rfl (hb hby at_164) rfl rfl k_) ?_
    show Runs _ _ _ _ T16 (mkF m 166 #[.val (.int p0), .val (.int p1), .val (.int p2), .val (.int p3), .val (.int v), .val (.int ix), .val (.int fb), .val (.ref ob1), .val (.int (1 : Int32)), .val (.int (ix + (1 : Int32)))] [(.ref ob1)])
    refine Runs.back (fun t_ k_ => XS.iconst X16.here hx rfl (hb hby at_166) k_) ?_
    show Runs _ _ _ _ T16 (mkF m 167 #[.val (.int p0), .val (.int p1), .val (.int p2), .val (.int p3), .val (.int v), .val (.int ix), .val (.int fb), .val (.ref ob1), .val (.int (1 : Int32)), .val (.int (ix + (1 : Int32)))] [(.int (3 : Int32)), (.ref ob1)])
    refine Runs.back (fun t_ k_ => XS.iload X16.here hx rfl (hb hby at_167) rfl k_) ?_
    show Runs _ _ _ _ T16 (mkF m 169 #[.val (.int p0), .val (.int p1), .val (.int p2), .val (.int p3), .val (.int v), .val (.int ix), .val (.int fb), .val (.ref ob1), .val (.int (1 : Int32)), .val (.int (ix + (1 : Int32)))] [(.int ix), (.int (3 : Int32)), (.ref ob1)])
    refine Runs.back (fun t_ k_ => XS.iload X16.here hx rfl (hb hby at_169) rfl k_) ?_
    show Runs _ _ _ _ T16 (mkF m 171 #[.val (.int p0), .val (.int p1), .val (.int p2), .val (.int p3), .val (.int v), .val (.int ix), .val (.int fb), .val (.ref ob1), .val (.int (1 : Int32)), .val (.int (ix + (1 : Int32)))] [(.int (1 : Int32)), (.int ix), (.int (3 : Int32)), (.ref ob1)])
    refine Runs.back (fun t_ k_ => XS.iload X16.here hx rfl (hb hby at_171) rfl k_) ?_
    show Runs _ _ _ _ T16 (mkF m 173 #[.val (.int p0), .val (.int p1), .val (.int p2), .val (.int p3), .val (.int v), .val (.int ix), .val (.int fb), .val (.ref ob1), .val (.int (1 : Int32)), .val (.int (ix + (1 : Int32)))] [(.int v), (.int (1 : Int32)), (.int ix), (.int (3 : Int32)), (.ref ob1)])
    refine Runs.back (fun t_ k_ => XS.iload X16.here hx rfl (hb hby at_173) rfl k_) ?_
    show Runs _ _ _ _ T16 (mkF m 175 #[.val (.int p0), .val (.int p1), .val (.int p2), .val (.int p3), .val (.int v), .val (.int ix), .val (.int fb), .val (.ref ob1), .val (.int (1 : Int32)), .val (.int (ix + (1 : Int32)))] [(.int fb), (.int v), (.int (1 : Int32)), (.int ix), (.int (3 : Int32)), (.ref ob1)])
    obtain ⟨_, _, ⟨T17, L17, k17, n17⟩, -, X17, ⟨Lc17, hQ17, l17, y17, z17⟩, st17⟩ := Jvm.LawKit.callS X16 hx (y := (⟨"com/example/strict_distinct/strictdistinct/KeyBytesWriteLengthPinLaw", "at", "([BIIIIB)Z"⟩ : MethodName)) hown (mvT hZ (hw _ (List.mem_of_getElem? (i := 10) rfl))) (mvT hZ (hw _ (List.mem_of_getElem? (i := 11) rfl))) (mvT hZ (hw _ (List.mem_of_getElem? (i := 4) rfl))) (mvT hZ (hw _ (List.mem_of_getElem? (i := 12) rfl))) (by decide) (backOf (W := 0) (rm3 l Z a0 hw [] ob1 (3 : Int32) ix (1 : Int32) v fb 1 V k 3 fb T13.heap n0 (Z13) wA13 (by decide) (by decide) (by decide) (by decide) hkI hk4 (by decide) (by decide) hV hVc hV3 rfl) hZ (hw _ (List.mem_of_getElem? (i := 12) rfl)) (hw _ (List.mem_of_getElem? (i := 4) rfl)) (by decide) (by decide)) (g := (mkF m 175 #[.val (.int p0), .val (.int p1), .val (.int p2), .val (.int p3), .val (.int v), .val (.int ix), .val (.int fb), .val (.ref ob1), .val (.int (1 : Int32)), .val (.int (ix + (1 : Int32)))] [(.int fb), (.int v), (.int (1 : Int32)), (.int ix), (.int (3 : Int32)), (.ref ob1)])) rfl (by rw [hml]; rfl) (argsL := [(.ref ob1), (.int (3 : Int32)), (.int ix), (.int (1 : Int32)), (.int v), (.int fb)]) (rest := []) (lenOf pd0_2 rfl) rfl (by show 2 * 0 + _ ≤ _; exact Nat.le_of_eq rfl) (hb hby at_175) (fun _ _ => ⟨rfl, eq16, (by decide : 1 + 0 ≤ _), (by decide : 10 + 0 ≤ _)⟩)
    dsimp only [Pt.U, Pt.locs, Pt.cells, Pt.slots] at X17 l17 y17 z17 st17 hQ17
    obtain rfl : k17 = 1 := y17
    obtain rfl : n17 = 10 := z17
    obtain ⟨rfl, N17q, eq17⟩ := hQ17
    have N17 : Fr n0 L17 := by rw [l17]; exact Fr.app N16 N17q
    clear l17
    refine Runs.back st17 ?_
    show Runs _ _ _ _ T17 (mkF m 178 #[.val (.int p0), .val (.int p1), .val (.int p2), .val (.int p3), .val (.int v), .val (.int ix), .val (.int fb), .val (.ref ob1), .val (.int (1 : Int32)), .val (.int (ix + (1 : Int32)))] [(.int (1 : Int32))])
    refine Runs.back (fun t_ k_ => XS.ifNo X17.here hx rfl (hb hby at_178) rfl ((if0 _ _).trans (feq (show ¬ ((1 : Int32) = (0 : Int32)) from (by decide))).1) k_) ?_
    show Runs _ _ _ _ T17 (mkF m 181 #[.val (.int p0), .val (.int p1), .val (.int p2), .val (.int p3), .val (.int v), .val (.int ix), .val (.int fb), .val (.ref ob1), .val (.int (1 : Int32)), .val (.int (ix + (1 : Int32)))] [])
    refine Runs.back (fun t_ k_ => XS.aload X17.here hx rfl (hb hby at_181) rfl rfl k_) ?_
    show Runs _ _ _ _ T17 (mkF m 183 #[.val (.int p0), .val (.int p1), .val (.int p2), .val (.int p3), .val (.int v), .val (.int ix), .val (.int fb), .val (.ref ob1), .val (.int (1 : Int32)), .val (.int (ix + (1 : Int32)))] [(.ref ob1)])
    refine Runs.back (fun t_ k_ => XS.iconst X17.here hx rfl (hb hby at_183) k_) ?_
    show Runs _ _ _ _ T17 (mkF m 184 #[.val (.int p0), .val (.int p1), .val (.int p2), .val (.int p3), .val (.int v), .val (.int ix), .val (.int fb), .val (.ref ob1), .val (.int (1 : Int32)), .val (.int (ix + (1 : Int32)))] [(.int (4 : Int32)), (.ref ob1)])
    refine Runs.back (fun t_ k_ => XS.iload X17.here hx rfl (hb hby at_184) rfl k_) ?_
    show Runs _ _ _ _ T17 (mkF m 186 #[.val (.int p0), .val (.int p1), .val (.int p2), .val (.int p3), .val (.int v), .val (.int ix), .val (.int fb), .val (.ref ob1), .val (.int (1 : Int32)), .val (.int (ix + (1 : Int32)))] [(.int ix), (.int (4 : Int32)), (.ref ob1)])
    refine Runs.back (fun t_ k_ => XS.iload X17.here hx rfl (hb hby at_186) rfl k_) ?_
    show Runs _ _ _ _ T17 (mkF m 188 #[.val (.int p0), .val (.int p1), .val (.int p2), .val (.int p3), .val (.int v), .val (.int ix), .val (.int fb), .val (.ref ob1), .val (.int (1 : Int32)), .val (.int (ix + (1 : Int32)))] [(.int (1 : Int32)), (.int ix), (.int (4 : Int32)), (.ref ob1)])
    refine Runs.back (fun t_ k_ => XS.iload X17.here hx rfl (hb hby at_188) rfl k_) ?_
    show Runs _ _ _ _ T17 (mkF m 190 #[.val (.int p0), .val (.int p1), .val (.int p2), .val (.int p3), .val (.int v), .val (.int ix), .val (.int fb), .val (.ref ob1), .val (.int (1 : Int32)), .val (.int (ix + (1 : Int32)))] [(.int v), (.int (1 : Int32)), (.int ix), (.int (4 : Int32)), (.ref ob1)])
    refine Runs.back (fun t_ k_ => XS.iload X17.here hx rfl (hb hby at_190) rfl k_) ?_
    show Runs _ _ _ _ T17 (mkF m 192 #[.val (.int p0), .val (.int p1), .val (.int p2), .val (.int p3), .val (.int v), .val (.int ix), .val (.int fb), .val (.ref ob1), .val (.int (1 : Int32)), .val (.int (ix + (1 : Int32)))] [(.int fb), (.int v), (.int (1 : Int32)), (.int ix), (.int (4 : Int32)), (.ref ob1)])
    obtain ⟨_, _, ⟨T18, L18, k18, n18⟩, -, X18, ⟨Lc18, hQ18, l18, y18, z18⟩, st18⟩ := Jvm.LawKit.callS X17 hx (y := (⟨"com/example/strict_distinct/strictdistinct/KeyBytesWriteLengthPinLaw", "at", "([BIIIIB)Z"⟩ : MethodName)) hown (mvT hZ (hw _ (List.mem_of_getElem? (i := 10) rfl))) (mvT hZ (hw _ (List.mem_of_getElem? (i := 11) rfl))) (mvT hZ (hw _ (List.mem_of_getElem? (i := 4) rfl))) (mvT hZ (hw _ (List.mem_of_getElem? (i := 12) rfl))) (by decide) (backOf (W := 0) (rm3 l Z a0 hw [] ob1 (4 : Int32) ix (1 : Int32) v fb 1 V k 4 fb T13.heap n0 (Z13) wA13 (by decide) (by decide) (by decide) (by decide) hkI hk4 (by decide) (by decide) hV hVc hV3 rfl) hZ (hw _ (List.mem_of_getElem? (i := 12) rfl)) (hw _ (List.mem_of_getElem? (i := 4) rfl)) (by decide) (by decide)) (g := (mkF m 192 #[.val (.int p0), .val (.int p1), .val (.int p2), .val (.int p3), .val (.int v), .val (.int ix), .val (.int fb), .val (.ref ob1), .val (.int (1 : Int32)), .val (.int (ix + (1 : Int32)))] [(.int fb), (.int v), (.int (1 : Int32)), (.int ix), (.int (4 : Int32)), (.ref ob1)])) rfl (by rw [hml]; rfl) (argsL := [(.ref ob1), (.int (4 : Int32)), (.int ix), (.int (1 : Int32)), (.int v), (.int fb)]) (rest := []) (lenOf pd0_2 rfl) rfl (by show 2 * 0 + _ ≤ _; exact Nat.le_of_eq rfl) (hb hby at_192) (fun _ _ => ⟨rfl, eq17, (by decide : 1 + 0 ≤ _), (by decide : 10 + 0 ≤ _)⟩)
    dsimp only [Pt.U, Pt.locs, Pt.cells, Pt.slots] at X18 l18 y18 z18 st18 hQ18
    obtain rfl : k18 = 1 := y18
    obtain rfl : n18 = 10 := z18
    obtain ⟨rfl, N18q, eq18⟩ := hQ18
    have N18 : Fr n0 L18 := by rw [l18]; exact Fr.app N17 N18q
    clear l18
    refine Runs.back st18 ?_
    show Runs _ _ _ _ T18 (mkF m 195 #[.val (.int p0), .val (.int p1), .val (.int p2), .val (.int p3), .val (.int v), .val (.int ix), .val (.int fb), .val (.ref ob1), .val (.int (1 : Int32)), .val (.int (ix + (1 : Int32)))] [(.int (1 : Int32))])
    refine Runs.back (fun t_ k_ => XS.ifNo X18.here hx rfl (hb hby at_195) rfl ((if0 _ _).trans (feq (show ¬ ((1 : Int32) = (0 : Int32)) from (by decide))).1) k_) ?_
    show Runs _ _ _ _ T18 (mkF m 198 #[.val (.int p0), .val (.int p1), .val (.int p2), .val (.int p3), .val (.int v), .val (.int ix), .val (.int fb), .val (.ref ob1), .val (.int (1 : Int32)), .val (.int (ix + (1 : Int32)))] [])
    refine Runs.back (fun t_ k_ => XS.aload X18.here hx rfl (hb hby at_198) rfl rfl k_) ?_
    show Runs _ _ _ _ T18 (mkF m 200 #[.val (.int p0), .val (.int p1), .val (.int p2), .val (.int p3), .val (.int v), .val (.int ix), .val (.int fb), .val (.ref ob1), .val (.int (1 : Int32)), .val (.int (ix + (1 : Int32)))] [(.ref ob1)])
    refine Runs.back (fun t_ k_ => XS.iconst X18.here hx rfl (hb hby at_200) k_) ?_
    show Runs _ _ _ _ T18 (mkF m 201 #[.val (.int p0), .val (.int p1), .val (.int p2), .val (.int p3), .val (.int v), .val (.int ix), .val (.int fb), .val (.ref ob1), .val (.int (1 : Int32)), .val (.int (ix + (1 : Int32)))] [(.int (5 : Int32)), (.ref ob1)])
    refine Runs.back (fun t_ k_ => XS.iload X18.here hx rfl (hb hby at_201) rfl k_) ?_
    show Runs _ _ _ _ T18 (mkF m 203 #[.val (.int p0), .val (.int p1), .val (.int p2), .val (.int p3), .val (.int v), .val (.int ix), .val (.int fb), .val (.ref ob1), .val (.int (1 : Int32)), .val (.int (ix + (1 : Int32)))] [(.int ix), (.int (5 : Int32)), (.ref ob1)])
    refine Runs.back (fun t_ k_ => XS.iload X18.here hx rfl (hb hby at_203) rfl k_) ?_
    show Runs _ _ _ _ T18 (mkF m 205 #[.val (.int p0), .val (.int p1), .val (.int p2), .val (.int p3), .val (.int v), .val (.int ix), .val (.int fb), .val (.ref ob1), .val (.int (1 : Int32)), .val (.int (ix + (1 : Int32)))] [(.int (1 : Int32)), (.int ix), (.int (5 : Int32)), (.ref ob1)])
    refine Runs.back (fun t_ k_ => XS.iload X18.here hx rfl (hb hby at_205) rfl k_) ?_
    show Runs _ _ _ _ T18 (mkF m 207 #[.val (.int p0), .val (.int p1), .val (.int p2), .val (.int p3), .val (.int v), .val (.int ix), .val (.int fb), .val (.ref ob1), .val (.int (1 : Int32)), .val (.int (ix + (1 : Int32)))] [(.int v), (.int (1 : Int32)), (.int ix), (.int (5 : Int32)), (.ref ob1)])
    refine Runs.back (fun t_ k_ => XS.iload X18.here hx rfl (hb hby at_207) rfl k_) ?_
    show Runs _ _ _ _ T18 (mkF m 209 #[.val (.int p0), .val (.int p1), .val (.int p2), .val (.int p3), .val (.int v), .val (.int ix), .val (.int fb), .val (.ref ob1), .val (.int (1 : Int32)), .val (.int (ix + (1 : Int32)))] [(.int fb), (.int v), (.int (1 : Int32)), (.int ix), (.int (5 : Int32)), (.ref ob1)])
    obtain ⟨_, _, ⟨T19, L19, k19, n19⟩, -, X19, ⟨Lc19, hQ19, l19, y19, z19⟩, st19⟩ := Jvm.LawKit.callS X18 hx (y := (⟨"com/example/strict_distinct/strictdistinct/KeyBytesWriteLengthPinLaw", "at", "([BIIIIB)Z"⟩ : MethodName)) hown (mvT hZ (hw _ (List.mem_of_getElem? (i := 10) rfl))) (mvT hZ (hw _ (List.mem_of_getElem? (i := 11) rfl))) (mvT hZ (hw _ (List.mem_of_getElem? (i := 4) rfl))) (mvT hZ (hw _ (List.mem_of_getElem? (i := 12) rfl))) (by decide) (backOf (W := 0) (rm3 l Z a0 hw [] ob1 (5 : Int32) ix (1 : Int32) v fb 1 V k 5 fb T13.heap n0 (Z13) wA13 (by decide) (by decide) (by decide) (by decide) hkI hk4 (by decide) (by decide) hV hVc hV3 rfl) hZ (hw _ (List.mem_of_getElem? (i := 12) rfl)) (hw _ (List.mem_of_getElem? (i := 4) rfl)) (by decide) (by decide)) (g := (mkF m 209 #[.val (.int p0), .val (.int p1), .val (.int p2), .val (.int p3), .val (.int v), .val (.int ix), .val (.int fb), .val (.ref ob1), .val (.int (1 : Int32)), .val (.int (ix + (1 : Int32)))] [(.int fb), (.int v), (.int (1 : Int32)), (.int ix), (.int (5 : Int32)), (.ref ob1)])) rfl (by rw [hml]; rfl) (argsL := [(.ref ob1), (.int (5 : Int32)), (.int ix), (.int (1 : Int32)), (.int v), (.int fb)]) (rest := []) (lenOf pd0_2 rfl) rfl (by show 2 * 0 + _ ≤ _; exact Nat.le_of_eq rfl) (hb hby at_209) (fun _ _ => ⟨rfl, eq18, (by decide : 1 + 0 ≤ _), (by decide : 10 + 0 ≤ _)⟩)
    dsimp only [Pt.U, Pt.locs, Pt.cells, Pt.slots] at X19 l19 y19 z19 st19 hQ19
    obtain rfl : k19 = 1 := y19
    obtain rfl : n19 = 10 := z19
    obtain ⟨rfl, N19q, eq19⟩ := hQ19
    have N19 : Fr n0 L19 := by rw [l19]; exact Fr.app N18 N19q
    clear l19
    refine Runs.back st19 ?_
    show Runs _ _ _ _ T19 (mkF m 212 #[.val (.int p0), .val (.int p1), .val (.int p2), .val (.int p3), .val (.int v), .val (.int ix), .val (.int fb), .val (.ref ob1), .val (.int (1 : Int32)), .val (.int (ix + (1 : Int32)))] [(.int (1 : Int32))])
    refine Runs.back (fun t_ k_ => XS.ifNo X19.here hx rfl (hb hby at_212) rfl ((if0 _ _).trans (feq (show ¬ ((1 : Int32) = (0 : Int32)) from (by decide))).1) k_) ?_
    show Runs _ _ _ _ T19 (mkF m 215 #[.val (.int p0), .val (.int p1), .val (.int p2), .val (.int p3), .val (.int v), .val (.int ix), .val (.int fb), .val (.ref ob1), .val (.int (1 : Int32)), .val (.int (ix + (1 : Int32)))] [])
    refine Runs.back (fun t_ k_ => XS.aload X19.here hx rfl (hb hby at_215) rfl rfl k_) ?_
    show Runs _ _ _ _ T19 (mkF m 217 #[.val (.int p0), .val (.int p1), .val (.int p2), .val (.int p3), .val (.int v), .val (.int ix), .val (.int fb), .val (.ref ob1), .val (.int (1 : Int32)), .val (.int (ix + (1 : Int32)))] [(.ref ob1)])
    refine Runs.back (fun t_ k_ => XS.bipush X19.here hx rfl (hb hby at_217) k_) ?_
    show Runs _ _ _ _ T19 (mkF m 219 #[.val (.int p0), .val (.int p1), .val (.int p2), .val (.int p3), .val (.int v), .val (.int ix), .val (.int fb), .val (.ref ob1), .val (.int (1 : Int32)), .val (.int (ix + (1 : Int32)))] [(.int (6 : Int32)), (.ref ob1)])
    refine Runs.back (fun t_ k_ => XS.iload X19.here hx rfl (hb hby at_219) rfl k_) ?_
    show Runs _ _ _ _ T19 (mkF m 221 #[.val (.int p0), .val (.int p1), .val (.int p2), .val (.int p3), .val (.int v), .val (.int ix), .val (.int fb), .val (.ref ob1), .val (.int (1 : Int32)), .val (.int (ix + (1 : Int32)))] [(.int ix), (.int (6 : Int32)), (.ref ob1)])
    refine Runs.back (fun t_ k_ => XS.iload X19.here hx rfl (hb hby at_221) rfl k_) ?_
    show Runs _ _ _ _ T19 (mkF m 223 #[.val (.int p0), .val (.int p1), .val (.int p2), .val (.int p3), .val (.int v), .val (.int ix), .val (.int fb), .val (.ref ob1), .val (.int (1 : Int32)), .val (.int (ix + (1 : Int32)))] [(.int (1 : Int32)), (.int ix), (.int (6 : Int32)), (.ref ob1)])
    refine Runs.back (fun t_ k_ => XS.iload X19.here hx rfl (hb hby at_223) rfl k_) ?_
    show Runs _ _ _ _ T19 (mkF m 225 #[.val (.int p0), .val (.int p1), .val (.int p2), .val (.int p3), .val (.int v), .val (.int ix), .val (.int fb), .val (.ref ob1), .val (.int (1 : Int32)), .val (.int (ix + (1 : Int32)))] [(.int v), (.int (1 : Int32)), (.int ix), (.int (6 : Int32)), (.ref ob1)])
    refine Runs.back (fun t_ k_ => XS.iload X19.here hx rfl (hb hby at_225) rfl k_) ?_
    show Runs _ _ _ _ T19 (mkF m 227 #[.val (.int p0), .val (.int p1), .val (.int p2), .val (.int p3), .val (.int v), .val (.int ix), .val (.int fb), .val (.ref ob1), .val (.int (1 : Int32)), .val (.int (ix + (1 : Int32)))] [(.int fb), (.int v), (.int (1 : Int32)), (.int ix), (.int (6 : Int32)), (.ref ob1)])
    obtain ⟨_, _, ⟨T20, L20, k20, n20⟩, -, X20, ⟨Lc20, hQ20, l20, y20, z20⟩, st20⟩ := Jvm.LawKit.callS X19 hx (y := (⟨"com/example/strict_distinct/strictdistinct/KeyBytesWriteLengthPinLaw", "at", "([BIIIIB)Z"⟩ : MethodName)) hown (mvT hZ (hw _ (List.mem_of_getElem? (i := 10) rfl))) (mvT hZ (hw _ (List.mem_of_getElem? (i := 11) rfl))) (mvT hZ (hw _ (List.mem_of_getElem? (i := 4) rfl))) (mvT hZ (hw _ (List.mem_of_getElem? (i := 12) rfl))) (by decide) (backOf (W := 0) (rm3 l Z a0 hw [] ob1 (6 : Int32) ix (1 : Int32) v fb 1 V k 6 fb T13.heap n0 (Z13) wA13 (by decide) (by decide) (by decide) (by decide) hkI hk4 (by decide) (by decide) hV hVc hV3 rfl) hZ (hw _ (List.mem_of_getElem? (i := 12) rfl)) (hw _ (List.mem_of_getElem? (i := 4) rfl)) (by decide) (by decide)) (g := (mkF m 227 #[.val (.int p0), .val (.int p1), .val (.int p2), .val (.int p3), .val (.int v), .val (.int ix), .val (.int fb), .val (.ref ob1), .val (.int (1 : Int32)), .val (.int (ix + (1 : Int32)))] [(.int fb), (.int v), (.int (1 : Int32)), (.int ix), (.int (6 : Int32)), (.ref ob1)])) rfl (by rw [hml]; rfl) (argsL := [(.ref ob1), (.int (6 : Int32)), (.int ix), (.int (1 : Int32)), (.int v), (.int fb)]) (rest := []) (lenOf pd0_2 rfl) rfl (by show 2 * 0 + _ ≤ _; exact Nat.le_of_eq rfl) (hb hby at_227) (fun _ _ => ⟨rfl, eq19, (by decide : 1 + 0 ≤ _), (by decide : 10 + 0 ≤ _)⟩)
    dsimp only [Pt.U, Pt.locs, Pt.cells, Pt.slots] at X20 l20 y20 z20 st20 hQ20
    obtain rfl : k20 = 1 := y20
    obtain rfl : n20 = 10 := z20
    obtain ⟨rfl, N20q, eq20⟩ := hQ20
    have N20 : Fr n0 L20 := by rw [l20]; exact Fr.app N19 N20q
    clear l20
    refine Runs.back st20 ?_
    show Runs _ _ _ _ T20 (mkF m 230 #[.val (.int p0), .val (.int p1), .val (.int p2), .val (.int p3), .val (.int v), .val (.int ix), .val (.int fb), .val (.ref ob1), .val (.int (1 : Int32)), .val (.int (ix + (1 : Int32)))] [(.int (1 : Int32))])
    refine Runs.back (fun t_ k_ => XS.ifNo X20.here hx rfl (hb hby at_230) rfl ((if0 _ _).trans (feq (show ¬ ((1 : Int32) = (0 : Int32)) from (by decide))).1) k_) ?_
    show Runs _ _ _ _ T20 (mkF m 233 #[.val (.int p0), .val (.int p1), .val (.int p2), .val (.int p3), .val (.int v), .val (.int ix), .val (.int fb), .val (.ref ob1), .val (.int (1 : Int32)), .val (.int (ix + (1 : Int32)))] [])
    refine Runs.back (fun t_ k_ => XS.aload X20.here hx rfl (hb hby at_233) rfl rfl k_) ?_
    show Runs _ _ _ _ T20 (mkF m 235 #[.val (.int p0), .val (.int p1), .val (.int p2), .val (.int p3), .val (.int v), .val (.int ix), .val (.int fb), .val (.ref ob1), .val (.int (1 : Int32)), .val (.int (ix + (1 : Int32)))] [(.ref ob1)])
    refine Runs.back (fun t_ k_ => XS.bipush X20.here hx rfl (hb hby at_235) k_) ?_
    show Runs _ _ _ _ T20 (mkF m 237 #[.val (.int p0), .val (.int p1), .val (.int p2), .val (.int p3), .val (.int v), .val (.int ix), .val (.int fb), .val (.ref ob1), .val (.int (1 : Int32)), .val (.int (ix + (1 : Int32)))] [(.int (7 : Int32)), (.ref ob1)])
    refine Runs.back (fun t_ k_ => XS.iload X20.here hx rfl (hb hby at_237) rfl k_) ?_
    show Runs _ _ _ _ T20 (mkF m 239 #[.val (.int p0), .val (.int p1), .val (.int p2), .val (.int p3), .val (.int v), .val (.int ix), .val (.int fb), .val (.ref ob1), .val (.int (1 : Int32)), .val (.int (ix + (1 : Int32)))] [(.int ix), (.int (7 : Int32)), (.ref ob1)])
    refine Runs.back (fun t_ k_ => XS.iload X20.here hx rfl (hb hby at_239) rfl k_) ?_
    show Runs _ _ _ _ T20 (mkF m 241 #[.val (.int p0), .val (.int p1), .val (.int p2), .val (.int p3), .val (.int v), .val (.int ix), .val (.int fb), .val (.ref ob1), .val (.int (1 : Int32)), .val (.int (ix + (1 : Int32)))] [(.int (1 : Int32)), (.int ix), (.int (7 : Int32)), (.ref ob1)])
    refine Runs.back (fun t_ k_ => XS.iload X20.here hx rfl (hb hby at_241) rfl k_) ?_
    show Runs _ _ _ _ T20 (mkF m 243 #[.val (.int p0), .val (.int p1), .val (.int p2), .val (.int p3), .val (.int v), .val (.int ix), .val (.int fb), .val (.ref ob1), .val (.int (1 : Int32)), .val (.int (ix + (1 : Int32)))] [(.int v), (.int (1 : Int32)), (.int ix), (.int (7 : Int32)), (.ref ob1)])
    refine Runs.back (fun t_ k_ => XS.iload X20.here hx rfl (hb hby at_243) rfl k_) ?_
    show Runs _ _ _ _ T20 (mkF m 245 #[.val (.int p0), .val (.int p1), .val (.int p2), .val (.int p3), .val (.int v), .val (.int ix), .val (.int fb), .val (.ref ob1), .val (.int (1 : Int32)), .val (.int (ix + (1 : Int32)))] [(.int fb), (.int v), (.int (1 : Int32)), (.int ix), (.int (7 : Int32)), (.ref ob1)])
    obtain ⟨_, _, ⟨T21, L21, k21, n21⟩, -, X21, ⟨Lc21, hQ21, l21, y21, z21⟩, st21⟩ := Jvm.LawKit.callS X20 hx (y := (⟨"com/example/strict_distinct/strictdistinct/KeyBytesWriteLengthPinLaw", "at", "([BIIIIB)Z"⟩ : MethodName)) hown (mvT hZ (hw _ (List.mem_of_getElem? (i := 10) rfl))) (mvT hZ (hw _ (List.mem_of_getElem? (i := 11) rfl))) (mvT hZ (hw _ (List.mem_of_getElem? (i := 4) rfl))) (mvT hZ (hw _ (List.mem_of_getElem? (i := 12) rfl))) (by decide) (backOf (W := 0) (rm3 l Z a0 hw [] ob1 (7 : Int32) ix (1 : Int32) v fb 1 V k 7 fb T13.heap n0 (Z13) wA13 (by decide) (by decide) (by decide) (by decide) hkI hk4 (by decide) (by decide) hV hVc hV3 rfl) hZ (hw _ (List.mem_of_getElem? (i := 12) rfl)) (hw _ (List.mem_of_getElem? (i := 4) rfl)) (by decide) (by decide)) (g := (mkF m 245 #[.val (.int p0), .val (.int p1), .val (.int p2), .val (.int p3), .val (.int v), .val (.int ix), .val (.int fb), .val (.ref ob1), .val (.int (1 : Int32)), .val (.int (ix + (1 : Int32)))] [(.int fb), (.int v), (.int (1 : Int32)), (.int ix), (.int (7 : Int32)), (.ref ob1)])) rfl (by rw [hml]; rfl) (argsL := [(.ref ob1), (.int (7 : Int32)), (.int ix), (.int (1 : Int32)), (.int v), (.int fb)]) (rest := []) (lenOf pd0_2 rfl) rfl (by show 2 * 0 + _ ≤ _; exact Nat.le_of_eq rfl) (hb hby at_245) (fun _ _ => ⟨rfl, eq20, (by decide : 1 + 0 ≤ _), (by decide : 10 + 0 ≤ _)⟩)
    dsimp only [Pt.U, Pt.locs, Pt.cells, Pt.slots] at X21 l21 y21 z21 st21 hQ21
    obtain rfl : k21 = 1 := y21
    obtain rfl : n21 = 10 := z21
    obtain ⟨rfl, N21q, eq21⟩ := hQ21
    have N21 : Fr n0 L21 := by rw [l21]; exact Fr.app N20 N21q
    clear l21
    refine Runs.back st21 ?_
    show Runs _ _ _ _ T21 (mkF m 248 #[.val (.int p0), .val (.int p1), .val (.int p2), .val (.int p3), .val (.int v), .val (.int ix), .val (.int fb), .val (.ref ob1), .val (.int (1 : Int32)), .val (.int (ix + (1 : Int32)))] [(.int (1 : Int32))])
    refine Runs.back (fun t_ k_ => XS.ifNo X21.here hx rfl (hb hby at_248) rfl ((if0 _ _).trans (feq (show ¬ ((1 : Int32) = (0 : Int32)) from (by decide))).1) k_) ?_
    show Runs _ _ _ _ T21 (mkF m 251 #[.val (.int p0), .val (.int p1), .val (.int p2), .val (.int p3), .val (.int v), .val (.int ix), .val (.int fb), .val (.ref ob1), .val (.int (1 : Int32)), .val (.int (ix + (1 : Int32)))] [])
    refine Runs.back (fun t_ k_ => XS.aload X21.here hx rfl (hb hby at_251) rfl rfl k_) ?_
    show Runs _ _ _ _ T21 (mkF m 253 #[.val (.int p0), .val (.int p1), .val (.int p2), .val (.int p3), .val (.int v), .val (.int ix), .val (.int fb), .val (.ref ob1), .val (.int (1 : Int32)), .val (.int (ix + (1 : Int32)))] [(.ref ob1)])
    refine Runs.back (fun t_ k_ => XS.bipush X21.here hx rfl (hb hby at_253) k_) ?_
    show Runs _ _ _ _ T21 (mkF m 255 #[.val (.int p0), .val (.int p1), .val (.int p2), .val (.int p3), .val (.int v), .val (.int ix), .val (.int fb), .val (.ref ob1), .val (.int (1 : Int32)), .val (.int (ix + (1 : Int32)))] [(.int (8 : Int32)), (.ref ob1)])
    refine Runs.back (fun t_ k_ => XS.iload X21.here hx rfl (hb hby at_255) rfl k_) ?_
    show Runs _ _ _ _ T21 (mkF m 257 #[.val (.int p0), .val (.int p1), .val (.int p2), .val (.int p3), .val (.int v), .val (.int ix), .val (.int fb), .val (.ref ob1), .val (.int (1 : Int32)), .val (.int (ix + (1 : Int32)))] [(.int ix), (.int (8 : Int32)), (.ref ob1)])
    refine Runs.back (fun t_ k_ => XS.iload X21.here hx rfl (hb hby at_257) rfl k_) ?_
    show Runs _ _ _ _ T21 (mkF m 259 #[.val (.int p0), .val (.int p1), .val (.int p2), .val (.int p3), .val (.int v), .val (.int ix), .val (.int fb), .val (.ref ob1), .val (.int (1 : Int32)), .val (.int (ix + (1 : Int32)))] [(.int (1 : Int32)), (.int ix), (.int (8 : Int32)), (.ref ob1)])
    refine Runs.back (fun t_ k_ => XS.iload X21.here hx rfl (hb hby at_259) rfl k_) ?_
    show Runs _ _ _ _ T21 (mkF m 261 #[.val (.int p0), .val (.int p1), .val (.int p2), .val (.int p3), .val (.int v), .val (.int ix), .val (.int fb), .val (.ref ob1), .val (.int (1 : Int32)), .val (.int (ix + (1 : Int32)))] [(.int v), (.int (1 : Int32)), (.int ix), (.int (8 : Int32)), (.ref ob1)])
    refine Runs.back (fun t_ k_ => XS.iload X21.here hx rfl (hb hby at_261) rfl k_) ?_
    show Runs _ _ _ _ T21 (mkF m 263 #[.val (.int p0), .val (.int p1), .val (.int p2), .val (.int p3), .val (.int v), .val (.int ix), .val (.int fb), .val (.ref ob1), .val (.int (1 : Int32)), .val (.int (ix + (1 : Int32)))] [(.int fb), (.int v), (.int (1 : Int32)), (.int ix), (.int (8 : Int32)), (.ref ob1)])
    obtain ⟨_, _, ⟨T22, L22, k22, n22⟩, -, X22, ⟨Lc22, hQ22, l22, y22, z22⟩, st22⟩ := Jvm.LawKit.callS X21 hx (y := (⟨"com/example/strict_distinct/strictdistinct/KeyBytesWriteLengthPinLaw", "at", "([BIIIIB)Z"⟩ : MethodName)) hown (mvT hZ (hw _ (List.mem_of_getElem? (i := 10) rfl))) (mvT hZ (hw _ (List.mem_of_getElem? (i := 11) rfl))) (mvT hZ (hw _ (List.mem_of_getElem? (i := 4) rfl))) (mvT hZ (hw _ (List.mem_of_getElem? (i := 12) rfl))) (by decide) (backOf (W := 0) (rm3 l Z a0 hw [] ob1 (8 : Int32) ix (1 : Int32) v fb 1 V k 8 fb T13.heap n0 (Z13) wA13 (by decide) (by decide) (by decide) (by decide) hkI hk4 (by decide) (by decide) hV hVc hV3 rfl) hZ (hw _ (List.mem_of_getElem? (i := 12) rfl)) (hw _ (List.mem_of_getElem? (i := 4) rfl)) (by decide) (by decide)) (g := (mkF m 263 #[.val (.int p0), .val (.int p1), .val (.int p2), .val (.int p3), .val (.int v), .val (.int ix), .val (.int fb), .val (.ref ob1), .val (.int (1 : Int32)), .val (.int (ix + (1 : Int32)))] [(.int fb), (.int v), (.int (1 : Int32)), (.int ix), (.int (8 : Int32)), (.ref ob1)])) rfl (by rw [hml]; rfl) (argsL := [(.ref ob1), (.int (8 : Int32)), (.int ix), (.int (1 : Int32)), (.int v), (.int fb)]) (rest := []) (lenOf pd0_2 rfl) rfl (by show 2 * 0 + _ ≤ _; exact Nat.le_of_eq rfl) (hb hby at_263) (fun _ _ => ⟨rfl, eq21, (by decide : 1 + 0 ≤ _), (by decide : 10 + 0 ≤ _)⟩)
    dsimp only [Pt.U, Pt.locs, Pt.cells, Pt.slots] at X22 l22 y22 z22 st22 hQ22
    obtain rfl : k22 = 1 := y22
    obtain rfl : n22 = 10 := z22
    obtain ⟨rfl, N22q, eq22⟩ := hQ22
    have N22 : Fr n0 L22 := by rw [l22]; exact Fr.app N21 N22q
    clear l22
    refine Runs.back st22 ?_
    show Runs _ _ _ _ T22 (mkF m 266 #[.val (.int p0), .val (.int p1), .val (.int p2), .val (.int p3), .val (.int v), .val (.int ix), .val (.int fb), .val (.ref ob1), .val (.int (1 : Int32)), .val (.int (ix + (1 : Int32)))] [(.int (1 : Int32))])
    refine Runs.back (fun t_ k_ => XS.ifNo X22.here hx rfl (hb hby at_266) rfl ((if0 _ _).trans (feq (show ¬ ((1 : Int32) = (0 : Int32)) from (by decide))).1) k_) ?_
    show Runs _ _ _ _ T22 (mkF m 269 #[.val (.int p0), .val (.int p1), .val (.int p2), .val (.int p3), .val (.int v), .val (.int ix), .val (.int fb), .val (.ref ob1), .val (.int (1 : Int32)), .val (.int (ix + (1 : Int32)))] [])
    refine Runs.back (fun t_ k_ => XS.aload X22.here hx rfl (hb hby at_269) rfl rfl k_) ?_
    show Runs _ _ _ _ T22 (mkF m 271 #[.val (.int p0), .val (.int p1), .val (.int p2), .val (.int p3), .val (.int v), .val (.int ix), .val (.int fb), .val (.ref ob1), .val (.int (1 : Int32)), .val (.int (ix + (1 : Int32)))] [(.ref ob1)])
    refine Runs.back (fun t_ k_ => XS.bipush X22.here hx rfl (hb hby at_271) k_) ?_
    show Runs _ _ _ _ T22 (mkF m 273 #[.val (.int p0), .val (.int p1), .val (.int p2), .val (.int p3), .val (.int v), .val (.int ix), .val (.int fb), .val (.ref ob1), .val (.int (1 : Int32)), .val (.int (ix + (1 : Int32)))] [(.int (9 : Int32)), (.ref ob1)])
    refine Runs.back (fun t_ k_ => XS.iload X22.here hx rfl (hb hby at_273) rfl k_) ?_
    show Runs _ _ _ _ T22 (mkF m 275 #[.val (.int p0), .val (.int p1), .val (.int p2), .val (.int p3), .val (.int v), .val (.int ix), .val (.int fb), .val (.ref ob1), .val (.int (1 : Int32)), .val (.int (ix + (1 : Int32)))] [(.int ix), (.int (9 : Int32)), (.ref ob1)])
    refine Runs.back (fun t_ k_ => XS.iload X22.here hx rfl (hb hby at_275) rfl k_) ?_
    show Runs _ _ _ _ T22 (mkF m 277 #[.val (.int p0), .val (.int p1), .val (.int p2), .val (.int p3), .val (.int v), .val (.int ix), .val (.int fb), .val (.ref ob1), .val (.int (1 : Int32)), .val (.int (ix + (1 : Int32)))] [(.int (1 : Int32)), (.int ix), (.int (9 : Int32)), (.ref ob1)])
    refine Runs.back (fun t_ k_ => XS.iload X22.here hx rfl (hb hby at_277) rfl k_) ?_
    show Runs _ _ _ _ T22 (mkF m 279 #[.val (.int p0), .val (.int p1), .val (.int p2), .val (.int p3), .val (.int v), .val (.int ix), .val (.int fb), .val (.ref ob1), .val (.int (1 : Int32)), .val (.int (ix + (1 : Int32)))] [(.int v), (.int (1 : Int32)), (.int ix), (.int (9 : Int32)), (.ref ob1)])
    refine Runs.back (fun t_ k_ => XS.iload X22.here hx rfl (hb hby at_279) rfl k_) ?_
    show Runs _ _ _ _ T22 (mkF m 281 #[.val (.int p0), .val (.int p1), .val (.int p2), .val (.int p3), .val (.int v), .val (.int ix), .val (.int fb), .val (.ref ob1), .val (.int (1 : Int32)), .val (.int (ix + (1 : Int32)))] [(.int fb), (.int v), (.int (1 : Int32)), (.int ix), (.int (9 : Int32)), (.ref ob1)])
    obtain ⟨_, _, ⟨T23, L23, k23, n23⟩, -, X23, ⟨Lc23, hQ23, l23, y23, z23⟩, st23⟩ := Jvm.LawKit.callS X22 hx (y := (⟨"com/example/strict_distinct/strictdistinct/KeyBytesWriteLengthPinLaw", "at", "([BIIIIB)Z"⟩ : MethodName)) hown (mvT hZ (hw _ (List.mem_of_getElem? (i := 10) rfl))) (mvT hZ (hw _ (List.mem_of_getElem? (i := 11) rfl))) (mvT hZ (hw _ (List.mem_of_getElem? (i := 4) rfl))) (mvT hZ (hw _ (List.mem_of_getElem? (i := 12) rfl))) (by decide) (backOf (W := 0) (rm3 l Z a0 hw [] ob1 (9 : Int32) ix (1 : Int32) v fb 1 V k 9 fb T13.heap n0 (Z13) wA13 (by decide) (by decide) (by decide) (by decide) hkI hk4 (by decide) (by decide) hV hVc hV3 rfl) hZ (hw _ (List.mem_of_getElem? (i := 12) rfl)) (hw _ (List.mem_of_getElem? (i := 4) rfl)) (by decide) (by decide)) (g := (mkF m 281 #[.val (.int p0), .val (.int p1), .val (.int p2), .val (.int p3), .val (.int v), .val (.int ix), .val (.int fb), .val (.ref ob1), .val (.int (1 : Int32)), .val (.int (ix + (1 : Int32)))] [(.int fb), (.int v), (.int (1 : Int32)), (.int ix), (.int (9 : Int32)), (.ref ob1)])) rfl (by rw [hml]; rfl) (argsL := [(.ref ob1), (.int (9 : Int32)), (.int ix), (.int (1 : Int32)), (.int v), (.int fb)]) (rest := []) (lenOf pd0_2 rfl) rfl (by show 2 * 0 + _ ≤ _; exact Nat.le_of_eq rfl) (hb hby at_281) (fun _ _ => ⟨rfl, eq22, (by decide : 1 + 0 ≤ _), (by decide : 10 + 0 ≤ _)⟩)
    dsimp only [Pt.U, Pt.locs, Pt.cells, Pt.slots] at X23 l23 y23 z23 st23 hQ23
    obtain rfl : k23 = 1 := y23
    obtain rfl : n23 = 10 := z23
    obtain ⟨rfl, N23q, eq23⟩ := hQ23
    have N23 : Fr n0 L23 := by rw [l23]; exact Fr.app N22 N23q
    clear l23
    refine Runs.back st23 ?_
    show Runs _ _ _ _ T23 (mkF m 284 #[.val (.int p0), .val (.int p1), .val (.int p2), .val (.int p3), .val (.int v), .val (.int ix), .val (.int fb), .val (.ref ob1), .val (.int (1 : Int32)), .val (.int (ix + (1 : Int32)))] [(.int (1 : Int32))])
    refine Runs.back (fun t_ k_ => XS.ifNo X23.here hx rfl (hb hby at_284) rfl ((if0 _ _).trans (feq (show ¬ ((1 : Int32) = (0 : Int32)) from (by decide))).1) k_) ?_
    show Runs _ _ _ _ T23 (mkF m 287 #[.val (.int p0), .val (.int p1), .val (.int p2), .val (.int p3), .val (.int v), .val (.int ix), .val (.int fb), .val (.ref ob1), .val (.int (1 : Int32)), .val (.int (ix + (1 : Int32)))] [])
    refine Runs.back (fun t_ k_ => XS.iconst X23.here hx rfl (hb hby at_287) k_) ?_
    show Runs _ _ _ _ T23 (mkF m 288 #[.val (.int p0), .val (.int p1), .val (.int p2), .val (.int p3), .val (.int v), .val (.int ix), .val (.int fb), .val (.ref ob1), .val (.int (1 : Int32)), .val (.int (ix + (1 : Int32)))] [(.int (1 : Int32))])
    refine Runs.back (fun t_ k_ => XS.goto X23.here hx rfl (pc0 := 288) (pc' := 292) rfl (hb hby at_288) (by decide) (by decide) k_) ?_
    show Runs _ _ _ _ T23 (mkF m 292 #[.val (.int p0), .val (.int p1), .val (.int p2), .val (.int p3), .val (.int v), .val (.int ix), .val (.int fb), .val (.ref ob1), .val (.int (1 : Int32)), .val (.int (ix + (1 : Int32)))] [(.int (1 : Int32))])
    obtain ⟨fs, hr, hrun, hended, hW, hsame⟩ := X23.leave (v := some (.int (1 : Int32))) (fun h => by rw [Bd.returns] at h; cases h)
    exact ⟨_, _, (retN X23 hx (t := .boolean) Bd.returns (by simp) (hb hby at_292) hr), hrun, hended, _, _, rfl, ⟨rfl, N23⟩, ⟨_, rfl⟩, hW, hsame.mono (by decide) (by decide)⟩
  · rw [hz]
    have hVa : 128 ≤ V := by omega
    have hVb : V < 16384 := by omega
    have hVc : V < 128 ^ 2 := by simpa using hVb
    show Runs _ _ _ _ T12 (mkF m 90 #[.val (.int p0), .val (.int p1), .val (.int p2), .val (.int p3), .val (.int v), .val (.int ix), .val (.int fb), .val (.ref ob1), .val (.int (2 : Int32)), .unset] [])
    refine Runs.back (fun t_ k_ => XS.aload X12.here hx rfl (hb hby at_90) rfl rfl k_) ?_
    show Runs _ _ _ _ T12 (mkF m 92 #[.val (.int p0), .val (.int p1), .val (.int p2), .val (.int p3), .val (.int v), .val (.int ix), .val (.int fb), .val (.ref ob1), .val (.int (2 : Int32)), .unset] [(.ref ob1)])
    refine Runs.back (fun t_ k_ => XS.iload X12.here hx rfl (hb hby at_92) rfl k_) ?_
    show Runs _ _ _ _ T12 (mkF m 94 #[.val (.int p0), .val (.int p1), .val (.int p2), .val (.int p3), .val (.int v), .val (.int ix), .val (.int fb), .val (.ref ob1), .val (.int (2 : Int32)), .unset] [(.int ix), (.ref ob1)])
    refine Runs.back (fun t_ k_ => XS.iload X12.here hx rfl (hb hby at_94) rfl k_) ?_
    show Runs _ _ _ _ T12 (mkF m 96 #[.val (.int p0), .val (.int p1), .val (.int p2), .val (.int p3), .val (.int v), .val (.int ix), .val (.int fb), .val (.ref ob1), .val (.int (2 : Int32)), .unset] [(.int v), (.int ix), (.ref ob1)])
    obtain ⟨_, _, ⟨T24, L24, k24, n24⟩, -, X24, ⟨Lc24, hQ24, l24, y24, z24⟩, st24⟩ := Jvm.LawKit.callS X12 hx (y := (⟨"com/example/strict_distinct/strictdistinct/KeyBytes", "writeLength", "([BII)I"⟩ : MethodName)) hown (mvT hZ (hw _ (List.mem_of_getElem? (i := 6) rfl))) (mvT hZ (hw _ (List.mem_of_getElem? (i := 7) rfl))) (mvT hZ (hw _ (List.mem_of_getElem? (i := 8) rfl))) (mvT hZ (hw _ (List.mem_of_getElem? (i := 9) rfl))) (by decide) (backOf (W := 0) (rm2n2 l Z a0 hw [] ob1 ix v V k fb h11 n0 (Z11) V83 g_ob1 hk hixn hk4 hV hVa hVb hV3) hZ (hw _ (List.mem_of_getElem? (i := 9) rfl)) (hw _ (List.mem_of_getElem? (i := 8) rfl)) (by decide) (by decide)) (g := (mkF m 96 #[.val (.int p0), .val (.int p1), .val (.int p2), .val (.int p3), .val (.int v), .val (.int ix), .val (.int fb), .val (.ref ob1), .val (.int (2 : Int32)), .unset] [(.int v), (.int ix), (.ref ob1)])) rfl (by rw [hml]; rfl) (argsL := [(.ref ob1), (.int ix), (.int v)]) (rest := []) (lenOf pd0_1 rfl) rfl (by show 2 * 0 + _ ≤ _; exact Nat.le_of_eq rfl) (hb hby at_96) (fun _ _ => ⟨rfl, eq12, (by decide : 1 + 0 ≤ _), (by decide : 10 + 0 ≤ _)⟩)
    dsimp only [Pt.U, Pt.locs, Pt.cells, Pt.slots] at X24 l24 y24 z24 st24 hQ24
    obtain rfl : k24 = 1 := y24
    obtain rfl : n24 = 10 := z24
    obtain ⟨rfl, N24q, K24, wA24⟩ := hQ24
    have N24 : Fr n0 L24 := by rw [l24]; exact Fr.app N12 N24q
    clear l24
    have Z24 : n0 ≤ T24.heap.size := Nat.le_trans (Z11) K24.1
    refine Runs.back st24 ?_
    show Runs _ _ _ _ T24 (mkF m 99 #[.val (.int p0), .val (.int p1), .val (.int p2), .val (.int p3), .val (.int v), .val (.int ix), .val (.int fb), .val (.ref ob1), .val (.int (2 : Int32)), .unset] [(.int (ix + (2 : Int32)))])
    refine Runs.back (fun t_ k_ => XS.istore X24.here hx rfl (hb hby at_99) rfl (l' := #[.val (.int p0), .val (.int p1), .val (.int p2), .val (.int p3), .val (.int v), .val (.int ix), .val (.int fb), .val (.ref ob1), .val (.int (2 : Int32)), .val (.int (ix + (2 : Int32)))]) rfl k_) ?_
    show Runs _ _ _ _ T24 (mkF m 101 #[.val (.int p0), .val (.int p1), .val (.int p2), .val (.int p3), .val (.int v), .val (.int ix), .val (.int fb), .val (.ref ob1), .val (.int (2 : Int32)), .val (.int (ix + (2 : Int32)))] [])
    refine Runs.back (fun t_ k_ => XS.iload X24.here hx rfl (hb hby at_101) rfl k_) ?_
    show Runs _ _ _ _ T24 (mkF m 103 #[.val (.int p0), .val (.int p1), .val (.int p2), .val (.int p3), .val (.int v), .val (.int ix), .val (.int fb), .val (.ref ob1), .val (.int (2 : Int32)), .val (.int (ix + (2 : Int32)))] [(.int (ix + (2 : Int32)))])
    refine Runs.back (fun t_ k_ => XS.iload X24.here hx rfl (hb hby at_103) rfl k_) ?_
    show Runs _ _ _ _ T24 (mkF m 105 #[.val (.int p0), .val (.int p1), .val (.int p2), .val (.int p3), .val (.int v), .val (.int ix), .val (.int fb), .val (.ref ob1), .val (.int (2 : Int32)), .val (.int (ix + (2 : Int32)))] [(.int ix), (.int (ix + (2 : Int32)))])
    refine Runs.back (fun t_ k_ => XS.iload X24.here hx rfl (hb hby at_105) rfl k_) ?_
    show Runs _ _ _ _ T24 (mkF m 107 #[.val (.int p0), .val (.int p1), .val (.int p2), .val (.int p3), .val (.int v), .val (.int ix), .val (.int fb), .val (.ref ob1), .val (.int (2 : Int32)), .val (.int (ix + (2 : Int32)))] [(.int (2 : Int32)), (.int ix), (.int (ix + (2 : Int32)))])
    refine Runs.back (fun t_ k_ => XS.iadd X24.here hx rfl (hb hby at_107) rfl k_) ?_
    show Runs _ _ _ _ T24 (mkF m 108 #[.val (.int p0), .val (.int p1), .val (.int p2), .val (.int p3), .val (.int v), .val (.int ix), .val (.int fb), .val (.ref ob1), .val (.int (2 : Int32)), .val (.int (ix + (2 : Int32)))] [(.int (ix + (2 : Int32))), (.int (ix + (2 : Int32)))])
    refine Runs.back (fun t_ k_ => XS.icmpYes X24.here hx rfl (pc0 := 108) (pc' := 113) rfl (hb hby at_108) rfl (teq (show (ix + (2 : Int32)) = (ix + (2 : Int32)) from rfl)).1 (by decide) (by decide) k_) ?_
    show Runs _ _ _ _ T24 (mkF m 113 #[.val (.int p0), .val (.int p1), .val (.int p2), .val (.int p3), .val (.int v), .val (.int ix), .val (.int fb), .val (.ref ob1), .val (.int (2 : Int32)), .val (.int (ix + (2 : Int32)))] [])
    refine Runs.back (fun t_ k_ => XS.aload X24.here hx rfl (hb hby at_113) rfl rfl k_) ?_
    show Runs _ _ _ _ T24 (mkF m 115 #[.val (.int p0), .val (.int p1), .val (.int p2), .val (.int p3), .val (.int v), .val (.int ix), .val (.int fb), .val (.ref ob1), .val (.int (2 : Int32)), .val (.int (ix + (2 : Int32)))] [(.ref ob1)])
    refine Runs.back (fun t_ k_ => XS.iconst X24.here hx rfl (hb hby at_115) k_) ?_
    show Runs _ _ _ _ T24 (mkF m 116 #[.val (.int p0), .val (.int p1), .val (.int p2), .val (.int p3), .val (.int v), .val (.int ix), .val (.int fb), .val (.ref ob1), .val (.int (2 : Int32)), .val (.int (ix + (2 : Int32)))] [(.int (0 : Int32)), (.ref ob1)])
    refine Runs.back (fun t_ k_ => XS.iload X24.here hx rfl (hb hby at_116) rfl k_) ?_
    show Runs _ _ _ _ T24 (mkF m 118 #[.val (.int p0), .val (.int p1), .val (.int p2), .val (.int p3), .val (.int v), .val (.int ix), .val (.int fb), .val (.ref ob1), .val (.int (2 : Int32)), .val (.int (ix + (2 : Int32)))] [(.int ix), (.int (0 : Int32)), (.ref ob1)])
    refine Runs.back (fun t_ k_ => XS.iload X24.here hx rfl (hb hby at_118) rfl k_) ?_
    show Runs _ _ _ _ T24 (mkF m 120 #[.val (.int p0), .val (.int p1), .val (.int p2), .val (.int p3), .val (.int v), .val (.int ix), .val (.int fb), .val (.ref ob1), .val (.int (2 : Int32)), .val (.int (ix + (2 : Int32)))] [(.int (2 : Int32)), (.int ix), (.int (0 : Int32)), (.ref ob1)])
    refine Runs.back (fun t_ k_ => XS.iload X24.here hx rfl (hb hby at_120) rfl k_) ?_
    show Runs _ _ _ _ T24 (mkF m 122 #[.val (.int p0), .val (.int p1), .val (.int p2), .val (.int p3), .val (.int v), .val (.int ix), .val (.int fb), .val (.ref ob1), .val (.int (2 : Int32)), .val (.int (ix + (2 : Int32)))] [(.int v), (.int (2 : Int32)), (.int ix), (.int (0 : Int32)), (.ref ob1)])
    refine Runs.back (fun t_ k_ => XS.iload X24.here hx rfl (hb hby at_122) rfl k_) ?_
    show Runs _ _ _ _ T24 (mkF m 124 #[.val (.int p0), .val (.int p1), .val (.int p2), .val (.int p3), .val (.int v), .val (.int ix), .val (.int fb), .val (.ref ob1), .val (.int (2 : Int32)), .val (.int (ix + (2 : Int32)))] [(.int fb), (.int v), (.int (2 : Int32)), (.int ix), (.int (0 : Int32)), (.ref ob1)])
    obtain ⟨_, _, ⟨T25, L25, k25, n25⟩, -, X25, ⟨Lc25, hQ25, l25, y25, z25⟩, st25⟩ := Jvm.LawKit.callS X24 hx (y := (⟨"com/example/strict_distinct/strictdistinct/KeyBytesWriteLengthPinLaw", "at", "([BIIIIB)Z"⟩ : MethodName)) hown (mvT hZ (hw _ (List.mem_of_getElem? (i := 10) rfl))) (mvT hZ (hw _ (List.mem_of_getElem? (i := 11) rfl))) (mvT hZ (hw _ (List.mem_of_getElem? (i := 4) rfl))) (mvT hZ (hw _ (List.mem_of_getElem? (i := 12) rfl))) (by decide) (backOf (W := 0) (rm3 l Z a0 hw [] ob1 (0 : Int32) ix (2 : Int32) v fb 2 V k 0 fb T24.heap n0 (Z24) wA24 (by decide) (by decide) (by decide) (by decide) hkI hk4 (by decide) (by decide) hV hVc hV3 rfl) hZ (hw _ (List.mem_of_getElem? (i := 12) rfl)) (hw _ (List.mem_of_getElem? (i := 4) rfl)) (by decide) (by decide)) (g := (mkF m 124 #[.val (.int p0), .val (.int p1), .val (.int p2), .val (.int p3), .val (.int v), .val (.int ix), .val (.int fb), .val (.ref ob1), .val (.int (2 : Int32)), .val (.int (ix + (2 : Int32)))] [(.int fb), (.int v), (.int (2 : Int32)), (.int ix), (.int (0 : Int32)), (.ref ob1)])) rfl (by rw [hml]; rfl) (argsL := [(.ref ob1), (.int (0 : Int32)), (.int ix), (.int (2 : Int32)), (.int v), (.int fb)]) (rest := []) (lenOf pd0_2 rfl) rfl (by show 2 * 0 + _ ≤ _; exact Nat.le_of_eq rfl) (hb hby at_124) (fun _ _ => ⟨rfl, rfl, (by decide : 1 + 0 ≤ _), (by decide : 10 + 0 ≤ _)⟩)
    dsimp only [Pt.U, Pt.locs, Pt.cells, Pt.slots] at X25 l25 y25 z25 st25 hQ25
    obtain rfl : k25 = 1 := y25
    obtain rfl : n25 = 10 := z25
    obtain ⟨rfl, N25q, eq25⟩ := hQ25
    have N25 : Fr n0 L25 := by rw [l25]; exact Fr.app N24 N25q
    clear l25
    refine Runs.back st25 ?_
    show Runs _ _ _ _ T25 (mkF m 127 #[.val (.int p0), .val (.int p1), .val (.int p2), .val (.int p3), .val (.int v), .val (.int ix), .val (.int fb), .val (.ref ob1), .val (.int (2 : Int32)), .val (.int (ix + (2 : Int32)))] [(.int (1 : Int32))])
    refine Runs.back (fun t_ k_ => XS.ifNo X25.here hx rfl (hb hby at_127) rfl ((if0 _ _).trans (feq (show ¬ ((1 : Int32) = (0 : Int32)) from (by decide))).1) k_) ?_
    show Runs _ _ _ _ T25 (mkF m 130 #[.val (.int p0), .val (.int p1), .val (.int p2), .val (.int p3), .val (.int v), .val (.int ix), .val (.int fb), .val (.ref ob1), .val (.int (2 : Int32)), .val (.int (ix + (2 : Int32)))] [])
    refine Runs.back (fun t_ k_ => XS.aload X25.here hx rfl (hb hby at_130) rfl rfl k_) ?_
    show Runs _ _ _ _ T25 (mkF m 132 #[.val (.int p0), .val (.int p1), .val (.int p2), .val (.int p3), .val (.int v), .val (.int ix), .val (.int fb), .val (.ref ob1), .val (.int (2 : Int32)), .val (.int (ix + (2 : Int32)))] [(.ref ob1)])
    refine Runs.back (fun t_ k_ => XS.iconst X25.here hx rfl (hb hby at_132) k_) ?_
    show Runs _ _ _ _ T25 (mkF m 133 #[.val (.int p0), .val (.int p1), .val (.int p2), .val (.int p3), .val (.int v), .val (.int ix), .val (.int fb), .val (.ref ob1), .val (.int (2 : Int32)), .val (.int (ix + (2 : Int32)))] [(.int (1 : Int32)), (.ref ob1)])
    refine Runs.back (fun t_ k_ => XS.iload X25.here hx rfl (hb hby at_133) rfl k_) ?_
    show Runs _ _ _ _ T25 (mkF m 135 #[.val (.int p0), .val (.int p1), .val (.int p2), .val (.int p3), .val (.int v), .val (.int ix), .val (.int fb), .val (.ref ob1), .val (.int (2 : Int32)), .val (.int (ix + (2 : Int32)))] [(.int ix), (.int (1 : Int32)), (.ref ob1)])
    refine Runs.back (fun t_ k_ => XS.iload X25.here hx rfl (hb hby at_135) rfl k_) ?_
    show Runs _ _ _ _ T25 (mkF m 137 #[.val (.int p0), .val (.int p1), .val (.int p2), .val (.int p3), .val (.int v), .val (.int ix), .val (.int fb), .val (.ref ob1), .val (.int (2 : Int32)), .val (.int (ix + (2 : Int32)))] [(.int (2 : Int32)), (.int ix), (.int (1 : Int32)), (.ref ob1)])
    refine Runs.back (fun t_ k_ => XS.iload X25.here hx rfl (hb hby at_137) rfl k_) ?_
    show Runs _ _ _ _ T25 (mkF m 139 #[.val (.int p0), .val (.int p1), .val (.int p2), .val (.int p3), .val (.int v), .val (.int ix), .val (.int fb), .val (.ref ob1), .val (.int (2 : Int32)), .val (.int (ix + (2 : Int32)))] [(.int v), (.int (2 : Int32)), (.int ix), (.int (1 : Int32)), (.ref ob1)])
    refine Runs.back (fun t_ k_ => XS.iload X25.here hx rfl (hb hby at_139) rfl k_) ?_
    show Runs _ _ _ _ T25 (mkF m 141 #[.val (.int p0), .val (.int p1), .val (.int p2), .val (.int p3), .val (.int v), .val (.int ix), .val (.int fb), .val (.ref ob1), .val (.int (2 : Int32)), .val (.int (ix + (2 : Int32)))] [(.int fb), (.int v), (.int (2 : Int32)), (.int ix), (.int (1 : Int32)), (.ref ob1)])
    obtain ⟨_, _, ⟨T26, L26, k26, n26⟩, -, X26, ⟨Lc26, hQ26, l26, y26, z26⟩, st26⟩ := Jvm.LawKit.callS X25 hx (y := (⟨"com/example/strict_distinct/strictdistinct/KeyBytesWriteLengthPinLaw", "at", "([BIIIIB)Z"⟩ : MethodName)) hown (mvT hZ (hw _ (List.mem_of_getElem? (i := 10) rfl))) (mvT hZ (hw _ (List.mem_of_getElem? (i := 11) rfl))) (mvT hZ (hw _ (List.mem_of_getElem? (i := 4) rfl))) (mvT hZ (hw _ (List.mem_of_getElem? (i := 12) rfl))) (by decide) (backOf (W := 0) (rm3 l Z a0 hw [] ob1 (1 : Int32) ix (2 : Int32) v fb 2 V k 1 fb T24.heap n0 (Z24) wA24 (by decide) (by decide) (by decide) (by decide) hkI hk4 (by decide) (by decide) hV hVc hV3 rfl) hZ (hw _ (List.mem_of_getElem? (i := 12) rfl)) (hw _ (List.mem_of_getElem? (i := 4) rfl)) (by decide) (by decide)) (g := (mkF m 141 #[.val (.int p0), .val (.int p1), .val (.int p2), .val (.int p3), .val (.int v), .val (.int ix), .val (.int fb), .val (.ref ob1), .val (.int (2 : Int32)), .val (.int (ix + (2 : Int32)))] [(.int fb), (.int v), (.int (2 : Int32)), (.int ix), (.int (1 : Int32)), (.ref ob1)])) rfl (by rw [hml]; rfl) (argsL := [(.ref ob1), (.int (1 : Int32)), (.int ix), (.int (2 : Int32)), (.int v), (.int fb)]) (rest := []) (lenOf pd0_2 rfl) rfl (by show 2 * 0 + _ ≤ _; exact Nat.le_of_eq rfl) (hb hby at_141) (fun _ _ => ⟨rfl, eq25, (by decide : 1 + 0 ≤ _), (by decide : 10 + 0 ≤ _)⟩)
    dsimp only [Pt.U, Pt.locs, Pt.cells, Pt.slots] at X26 l26 y26 z26 st26 hQ26
    obtain rfl : k26 = 1 := y26
    obtain rfl : n26 = 10 := z26
    obtain ⟨rfl, N26q, eq26⟩ := hQ26
    have N26 : Fr n0 L26 := by rw [l26]; exact Fr.app N25 N26q
    clear l26
    refine Runs.back st26 ?_
    show Runs _ _ _ _ T26 (mkF m 144 #[.val (.int p0), .val (.int p1), .val (.int p2), .val (.int p3), .val (.int v), .val (.int ix), .val (.int fb), .val (.ref ob1), .val (.int (2 : Int32)), .val (.int (ix + (2 : Int32)))] [(.int (1 : Int32))])
    refine Runs.back (fun t_ k_ => XS.ifNo X26.here hx rfl (hb hby at_144) rfl ((if0 _ _).trans (feq (show ¬ ((1 : Int32) = (0 : Int32)) from (by decide))).1) k_) ?_
    show Runs _ _ _ _ T26 (mkF m 147 #[.val (.int p0), .val (.int p1), .val (.int p2), .val (.int p3), .val (.int v), .val (.int ix), .val (.int fb), .val (.ref ob1), .val (.int (2 : Int32)), .val (.int (ix + (2 : Int32)))] [])
    refine Runs.back (fun t_ k_ => XS.aload X26.here hx rfl (hb hby at_147) rfl rfl k_) ?_
    show Runs _ _ _ _ T26 (mkF m 149 #[.val (.int p0), .val (.int p1), .val (.int p2), .val (.int p3), .val (.int v), .val (.int ix), .val (.int fb), .val (.ref ob1), .val (.int (2 : Int32)), .val (.int (ix + (2 : Int32)))] [(.ref ob1)])
    refine Runs.back (fun t_ k_ => XS.iconst X26.here hx rfl (hb hby at_149) k_) ?_
    show Runs _ _ _ _ T26 (mkF m 150 #[.val (.int p0), .val (.int p1), .val (.int p2), .val (.int p3), .val (.int v), .val (.int ix), .val (.int fb), .val (.ref ob1), .val (.int (2 : Int32)), .val (.int (ix + (2 : Int32)))] [(.int (2 : Int32)), (.ref ob1)])
    refine Runs.back (fun t_ k_ => XS.iload X26.here hx rfl (hb hby at_150) rfl k_) ?_
    show Runs _ _ _ _ T26 (mkF m 152 #[.val (.int p0), .val (.int p1), .val (.int p2), .val (.int p3), .val (.int v), .val (.int ix), .val (.int fb), .val (.ref ob1), .val (.int (2 : Int32)), .val (.int (ix + (2 : Int32)))] [(.int ix), (.int (2 : Int32)), (.ref ob1)])
    refine Runs.back (fun t_ k_ => XS.iload X26.here hx rfl (hb hby at_152) rfl k_) ?_
    show Runs _ _ _ _ T26 (mkF m 154 #[.val (.int p0), .val (.int p1), .val (.int p2), .val (.int p3), .val (.int v), .val (.int ix), .val (.int fb), .val (.ref ob1), .val (.int (2 : Int32)), .val (.int (ix + (2 : Int32)))] [(.int (2 : Int32)), (.int ix), (.int (2 : Int32)), (.ref ob1)])
    refine Runs.back (fun t_ k_ => XS.iload X26.here hx rfl (hb hby at_154) rfl k_) ?_
    show Runs _ _ _ _ T26 (mkF m 156 #[.val (.int p0), .val (.int p1), .val (.int p2), .val (.int p3), .val (.int v), .val (.int ix), .val (.int fb), .val (.ref ob1), .val (.int (2 : Int32)), .val (.int (ix + (2 : Int32)))] [(.int v), (.int (2 : Int32)), (.int ix), (.int (2 : Int32)), (.ref ob1)])
    refine Runs.back (fun t_ k_ => XS.iload X26.here hx rfl (hb hby at_156) rfl k_) ?_
    show Runs _ _ _ _ T26 (mkF m 158 #[.val (.int p0), .val (.int p1), .val (.int p2), .val (.int p3), .val (.int v), .val (.int ix), .val (.int fb), .val (.ref ob1), .val (.int (2 : Int32)), .val (.int (ix + (2 : Int32)))] [(.int fb), (.int v), (.int (2 : Int32)), (.int ix), (.int (2 : Int32)), (.ref ob1)])
    obtain ⟨_, _, ⟨T27, L27, k27, n27⟩, -, X27, ⟨Lc27, hQ27, l27, y27, z27⟩, st27⟩ := Jvm.LawKit.callS X26 hx (y := (⟨"com/example/strict_distinct/strictdistinct/KeyBytesWriteLengthPinLaw", "at", "([BIIIIB)Z"⟩ : MethodName)) hown (mvT hZ (hw _ (List.mem_of_getElem? (i := 10) rfl))) (mvT hZ (hw _ (List.mem_of_getElem? (i := 11) rfl))) (mvT hZ (hw _ (List.mem_of_getElem? (i := 4) rfl))) (mvT hZ (hw _ (List.mem_of_getElem? (i := 12) rfl))) (by decide) (backOf (W := 0) (rm3 l Z a0 hw [] ob1 (2 : Int32) ix (2 : Int32) v fb 2 V k 2 fb T24.heap n0 (Z24) wA24 (by decide) (by decide) (by decide) (by decide) hkI hk4 (by decide) (by decide) hV hVc hV3 rfl) hZ (hw _ (List.mem_of_getElem? (i := 12) rfl)) (hw _ (List.mem_of_getElem? (i := 4) rfl)) (by decide) (by decide)) (g := (mkF m 158 #[.val (.int p0), .val (.int p1), .val (.int p2), .val (.int p3), .val (.int v), .val (.int ix), .val (.int fb), .val (.ref ob1), .val (.int (2 : Int32)), .val (.int (ix + (2 : Int32)))] [(.int fb), (.int v), (.int (2 : Int32)), (.int ix), (.int (2 : Int32)), (.ref ob1)])) rfl (by rw [hml]; rfl) (argsL := [(.ref ob1), (.int (2 : Int32)), (.int ix), (.int (2 : Int32)), (.int v), (.int fb)]) (rest := []) (lenOf pd0_2 rfl) rfl (by show 2 * 0 + _ ≤ _; exact Nat.le_of_eq rfl) (hb hby at_158) (fun _ _ => ⟨rfl, eq26, (by decide : 1 + 0 ≤ _), (by decide : 10 + 0 ≤ _)⟩)
    dsimp only [Pt.U, Pt.locs, Pt.cells, Pt.slots] at X27 l27 y27 z27 st27 hQ27
    obtain rfl : k27 = 1 := y27
    obtain rfl : n27 = 10 := z27
    obtain ⟨rfl, N27q, eq27⟩ := hQ27
    have N27 : Fr n0 L27 := by rw [l27]; exact Fr.app N26 N27q
    clear l27
    refine Runs.back st27 ?_
    show Runs _ _ _ _ T27 (mkF m 161 #[.val (.int p0), .val (.int p1), .val (.int p2), .val (.int p3), .val (.int v), .val (.int ix), .val (.int fb), .val (.ref ob1), .val (.int (2 : Int32)), .val (.int (ix + (2 : Int32)))] [(.int (1 : Int32))])
    refine Runs.back (fun t_ k_ => XS.ifNo X27.here hx rfl (hb hby at_161) rfl ((if0 _ _).trans (feq (show ¬ ((1 : Int32) = (0 : Int32)) from (by decide))).1) k_) ?_
    show Runs _ _ _ _ T27 (mkF m 164 #[.val (.int p0), .val (.int p1), .val (.int p2), .val (.int p3), .val (.int v), .val (.int ix), .val (.int fb), .val (.ref ob1), .val (.int (2 : Int32)), .val (.int (ix + (2 : Int32)))] [])
    refine Runs.back (fun t_ k_ => XS.aload X27.here hx rfl (hb hby at_164) rfl rfl k_) ?_
    show Runs _ _ _ _ T27 (mkF m 166 #[.val (.int p0), .val (.int p1), .val (.int p2), .val (.int p3), .val (.int v), .val (.int ix), .val (.int fb), .val (.ref ob1), .val (.int (2 : Int32)), .val (.int (ix + (2 : Int32)))] [(.ref ob1)])
    refine Runs.back (fun t_ k_ => XS.iconst X27.here hx rfl (hb hby at_166) k_) ?_
    show Runs _ _ _ _ T27 (mkF m 167 #[.val (.int p0), .val (.int p1), .val (.int p2), .val (.int p3), .val (.int v), .val (.int ix), .val (.int fb), .val (.ref ob1), .val (.int (2 : Int32)), .val (.int (ix + (2 : Int32)))] [(.int (3 : Int32)), (.ref ob1)])
    refine Runs.back (fun t_ k_ => XS.iload X27.here hx rfl (hb hby at_167) rfl k_) ?_
    show Runs _ _ _ _ T27 (mkF m 169 #[.val (.int p0), .val (.int p1), .val (.int p2), .val (.int p3), .val (.int v), .val (.int ix), .val (.int fb), .val (.ref ob1), .val (.int (2 : Int32)), .val (.int (ix + (2 : Int32)))] [(.int ix), (.int (3 : Int32)), (.ref ob1)])
    refine Runs.back (fun t_ k_ => XS.iload X27.here hx rfl (hb hby at_169) rfl k_) ?_
    show Runs _ _ _ _ T27 (mkF m 171 #[.val (.int p0), .val (.int p1), .val (.int p2), .val (.int p3), .val (.int v), .val (.int ix), .val (.int fb), .val (.ref ob1), .val (.int (2 : Int32)), .val (.int (ix + (2 : Int32)))] [(.int (2 : Int32)), (.int ix), (.int (3 : Int32)), (.ref ob1)])
    refine Runs.back (fun t_ k_ => XS.iload X27.here hx rfl (hb hby at_171) rfl k_) ?_
    show Runs _ _ _ _ T27 (mkF m 173 #[.val (.int p0), .val (.int p1), .val (.int p2), .val (.int p3), .val (.int v), .val (.int ix), .val (.int fb), .val (.ref ob1), .val (.int (2 : Int32)), .val (.int (ix + (2 : Int32)))] [(.int v), (.int (2 : Int32)), (.int ix), (.int (3 : Int32)), (.ref ob1)])
    refine Runs.back (fun t_ k_ => XS.iload X27.here hx rfl (hb hby at_173) rfl k_) ?_
    show Runs _ _ _ _ T27 (mkF m 175 #[.val (.int p0), .val (.int p1), .val (.int p2), .val (.int p3), .val (.int v), .val (.int ix), .val (.int fb), .val (.ref ob1), .val (.int (2 : Int32)), .val (.int (ix + (2 : Int32)))] [(.int fb), (.int v), (.int (2 : Int32)), (.int ix), (.int (3 : Int32)), (.ref ob1)])
    obtain ⟨_, _, ⟨T28, L28, k28, n28⟩, -, X28, ⟨Lc28, hQ28, l28, y28, z28⟩, st28⟩ := Jvm.LawKit.callS X27 hx (y := (⟨"com/example/strict_distinct/strictdistinct/KeyBytesWriteLengthPinLaw", "at", "([BIIIIB)Z"⟩ : MethodName)) hown (mvT hZ (hw _ (List.mem_of_getElem? (i := 10) rfl))) (mvT hZ (hw _ (List.mem_of_getElem? (i := 11) rfl))) (mvT hZ (hw _ (List.mem_of_getElem? (i := 4) rfl))) (mvT hZ (hw _ (List.mem_of_getElem? (i := 12) rfl))) (by decide) (backOf (W := 0) (rm3 l Z a0 hw [] ob1 (3 : Int32) ix (2 : Int32) v fb 2 V k 3 fb T24.heap n0 (Z24) wA24 (by decide) (by decide) (by decide) (by decide) hkI hk4 (by decide) (by decide) hV hVc hV3 rfl) hZ (hw _ (List.mem_of_getElem? (i := 12) rfl)) (hw _ (List.mem_of_getElem? (i := 4) rfl)) (by decide) (by decide)) (g := (mkF m 175 #[.val (.int p0), .val (.int p1), .val (.int p2), .val (.int p3), .val (.int v), .val (.int ix), .val (.int fb), .val (.ref ob1), .val (.int (2 : Int32)), .val (.int (ix + (2 : Int32)))] [(.int fb), (.int v), (.int (2 : Int32)), (.int ix), (.int (3 : Int32)), (.ref ob1)])) rfl (by rw [hml]; rfl) (argsL := [(.ref ob1), (.int (3 : Int32)), (.int ix), (.int (2 : Int32)), (.int v), (.int fb)]) (rest := []) (lenOf pd0_2 rfl) rfl (by show 2 * 0 + _ ≤ _; exact Nat.le_of_eq rfl) (hb hby at_175) (fun _ _ => ⟨rfl, eq27, (by decide : 1 + 0 ≤ _), (by decide : 10 + 0 ≤ _)⟩)
    dsimp only [Pt.U, Pt.locs, Pt.cells, Pt.slots] at X28 l28 y28 z28 st28 hQ28
    obtain rfl : k28 = 1 := y28
    obtain rfl : n28 = 10 := z28
    obtain ⟨rfl, N28q, eq28⟩ := hQ28
    have N28 : Fr n0 L28 := by rw [l28]; exact Fr.app N27 N28q
    clear l28
    refine Runs.back st28 ?_
    show Runs _ _ _ _ T28 (mkF m 178 #[.val (.int p0), .val (.int p1), .val (.int p2), .val (.int p3), .val (.int v), .val (.int ix), .val (.int fb), .val (.ref ob1), .val (.int (2 : Int32)), .val (.int (ix + (2 : Int32)))] [(.int (1 : Int32))])
    refine Runs.back (fun t_ k_ => XS.ifNo X28.here hx rfl (hb hby at_178) rfl ((if0 _ _).trans (feq (show ¬ ((1 : Int32) = (0 : Int32)) from (by decide))).1) k_) ?_
    show Runs _ _ _ _ T28 (mkF m 181 #[.val (.int p0), .val (.int p1), .val (.int p2), .val (.int p3), .val (.int v), .val (.int ix), .val (.int fb), .val (.ref ob1), .val (.int (2 : Int32)), .val (.int (ix + (2 : Int32)))] [])
    refine Runs.back (fun t_ k_ => XS.aload X28.here hx rfl (hb hby at_181) rfl rfl k_) ?_
    show Runs _ _ _ _ T28 (mkF m 183 #[.val (.int p0), .val (.int p1), .val (.int p2), .val (.int p3), .val (.int v), .val (.int ix), .val (.int fb), .val (.ref ob1), .val (.int (2 : Int32)), .val (.int (ix + (2 : Int32)))] [(.ref ob1)])
    refine Runs.back (fun t_ k_ => XS.iconst X28.here hx rfl (hb hby at_183) k_) ?_
    show Runs _ _ _ _ T28 (mkF m 184 #[.val (.int p0), .val (.int p1), .val (.int p2), .val (.int p3), .val (.int v), .val (.int ix), .val (.int fb), .val (.ref ob1), .val (.int (2 : Int32)), .val (.int (ix + (2 : Int32)))] [(.int (4 : Int32)), (.ref ob1)])
    refine Runs.back (fun t_ k_ => XS.iload X28.here hx rfl (hb hby at_184) rfl k_) ?_
    show Runs _ _ _ _ T28 (mkF m 186 #[.val (.int p0), .val (.int p1), .val (.int p2), .val (.int p3), .val (.int v), .val (.int ix), .val (.int fb), .val (.ref ob1), .val (.int (2 : Int32)), .val (.int (ix + (2 : Int32)))] [(.int ix), (.int (4 : Int32)), (.ref ob1)])
    refine Runs.back (fun t_ k_ => XS.iload X28.here hx rfl (hb hby at_186) rfl k_) ?_
    show Runs _ _ _ _ T28 (mkF m 188 #[.val (.int p0), .val (.int p1), .val (.int p2), .val (.int p3), .val (.int v), .val (.int ix), .val (.int fb), .val (.ref ob1), .val (.int (2 : Int32)), .val (.int (ix + (2 : Int32)))] [(.int (2 : Int32)), (.int ix), (.int (4 : Int32)), (.ref ob1)])
    refine Runs.back (fun t_ k_ => XS.iload X28.here hx rfl (hb hby at_188) rfl k_) ?_
    show Runs _ _ _ _ T28 (mkF m 190 #[.val (.int p0), .val (.int p1), .val (.int p2), .val (.int p3), .val (.int v), .val (.int ix), .val (.int fb), .val (.ref ob1), .val (.int (2 : Int32)), .val (.int (ix + (2 : Int32)))] [(.int v), (.int (2 : Int32)), (.int ix), (.int (4 : Int32)), (.ref ob1)])
    refine Runs.back (fun t_ k_ => XS.iload X28.here hx rfl (hb hby at_190) rfl k_) ?_
    show Runs _ _ _ _ T28 (mkF m 192 #[.val (.int p0), .val (.int p1), .val (.int p2), .val (.int p3), .val (.int v), .val (.int ix), .val (.int fb), .val (.ref ob1), .val (.int (2 : Int32)), .val (.int (ix + (2 : Int32)))] [(.int fb), (.int v), (.int (2 : Int32)), (.int ix), (.int (4 : Int32)), (.ref ob1)])
    obtain ⟨_, _, ⟨T29, L29, k29, n29⟩, -, X29, ⟨Lc29, hQ29, l29, y29, z29⟩, st29⟩ := Jvm.LawKit.callS X28 hx (y := (⟨"com/example/strict_distinct/strictdistinct/KeyBytesWriteLengthPinLaw", "at", "([BIIIIB)Z"⟩ : MethodName)) hown (mvT hZ (hw _ (List.mem_of_getElem? (i := 10) rfl))) (mvT hZ (hw _ (List.mem_of_getElem? (i := 11) rfl))) (mvT hZ (hw _ (List.mem_of_getElem? (i := 4) rfl))) (mvT hZ (hw _ (List.mem_of_getElem? (i := 12) rfl))) (by decide) (backOf (W := 0) (rm3 l Z a0 hw [] ob1 (4 : Int32) ix (2 : Int32) v fb 2 V k 4 fb T24.heap n0 (Z24) wA24 (by decide) (by decide) (by decide) (by decide) hkI hk4 (by decide) (by decide) hV hVc hV3 rfl) hZ (hw _ (List.mem_of_getElem? (i := 12) rfl)) (hw _ (List.mem_of_getElem? (i := 4) rfl)) (by decide) (by decide)) (g := (mkF m 192 #[.val (.int p0), .val (.int p1), .val (.int p2), .val (.int p3), .val (.int v), .val (.int ix), .val (.int fb), .val (.ref ob1), .val (.int (2 : Int32)), .val (.int (ix + (2 : Int32)))] [(.int fb), (.int v), (.int (2 : Int32)), (.int ix), (.int (4 : Int32)), (.ref ob1)])) rfl (by rw [hml]; rfl) (argsL := [(.ref ob1), (.int (4 : Int32)), (.int ix), (.int (2 : Int32)), (.int v), (.int fb)]) (rest := []) (lenOf pd0_2 rfl) rfl (by show 2 * 0 + _ ≤ _; exact Nat.le_of_eq rfl) (hb hby at_192) (fun _ _ => ⟨rfl, eq28, (by decide : 1 + 0 ≤ _), (by decide : 10 + 0 ≤ _)⟩)
    dsimp only [Pt.U, Pt.locs, Pt.cells, Pt.slots] at X29 l29 y29 z29 st29 hQ29
    obtain rfl : k29 = 1 := y29
    obtain rfl : n29 = 10 := z29
    obtain ⟨rfl, N29q, eq29⟩ := hQ29
    have N29 : Fr n0 L29 := by rw [l29]; exact Fr.app N28 N29q
    clear l29
    refine Runs.back st29 ?_
    show Runs _ _ _ _ T29 (mkF m 195 #[.val (.int p0), .val (.int p1), .val (.int p2), .val (.int p3), .val (.int v), .val (.int ix), .val (.int fb), .val (.ref ob1), .val (.int (2 : Int32)), .val (.int (ix + (2 : Int32)))] [(.int (1 : Int32))])
    refine Runs.back (fun t_ k_ => XS.ifNo X29.here hx rfl (hb hby at_195) rfl ((if0 _ _).trans (feq (show ¬ ((1 : Int32) = (0 : Int32)) from (by decide))).1) k_) ?_
    show Runs _ _ _ _ T29 (mkF m 198 #[.val (.int p0), .val (.int p1), .val (.int p2), .val (.int p3), .val (.int v), .val (.int ix), .val (.int fb), .val (.ref ob1), .val (.int (2 : Int32)), .val (.int (ix + (2 : Int32)))] [])
    refine Runs.back (fun t_ k_ => XS.aload X29.here hx rfl (hb hby at_198) rfl rfl k_) ?_
    show Runs _ _ _ _ T29 (mkF m 200 #[.val (.int p0), .val (.int p1), .val (.int p2), .val (.int p3), .val (.int v), .val (.int ix), .val (.int fb), .val (.ref ob1), .val (.int (2 : Int32)), .val (.int (ix + (2 : Int32)))] [(.ref ob1)])
    refine Runs.back (fun t_ k_ => XS.iconst X29.here hx rfl (hb hby at_200) k_) ?_
    show Runs _ _ _ _ T29 (mkF m 201 #[.val (.int p0), .val (.int p1), .val (.int p2), .val (.int p3), .val (.int v), .val (.int ix), .val (.int fb), .val (.ref ob1), .val (.int (2 : Int32)), .val (.int (ix + (2 : Int32)))] [(.int (5 : Int32)), (.ref ob1)])
    refine Runs.back (fun t_ k_ => XS.iload X29.here hx rfl (hb hby at_201) rfl k_) ?_
    show Runs _ _ _ _ T29 (mkF m 203 #[.val (.int p0), .val (.int p1), .val (.int p2), .val (.int p3), .val (.int v), .val (.int ix), .val (.int fb), .val (.ref ob1), .val (.int (2 : Int32)), .val (.int (ix + (2 : Int32)))] [(.int ix), (.int (5 : Int32)), (.ref ob1)])
    refine Runs.back (fun t_ k_ => XS.iload X29.here hx rfl (hb hby at_203) rfl k_) ?_
    show Runs _ _ _ _ T29 (mkF m 205 #[.val (.int p0), .val (.int p1), .val (.int p2), .val (.int p3), .val (.int v), .val (.int ix), .val (.int fb), .val (.ref ob1), .val (.int (2 : Int32)), .val (.int (ix + (2 : Int32)))] [(.int (2 : Int32)), (.int ix), (.int (5 : Int32)), (.ref ob1)])
    refine Runs.back (fun t_ k_ => XS.iload X29.here hx rfl (hb hby at_205) rfl k_) ?_
    show Runs _ _ _ _ T29 (mkF m 207 #[.val (.int p0), .val (.int p1), .val (.int p2), .val (.int p3), .val (.int v), .val (.int ix), .val (.int fb), .val (.ref ob1), .val (.int (2 : Int32)), .val (.int (ix + (2 : Int32)))] [(.int v), (.int (2 : Int32)), (.int ix), (.int (5 : Int32)), (.ref ob1)])
    refine Runs.back (fun t_ k_ => XS.iload X29.here hx rfl (hb hby at_207) rfl k_) ?_
    show Runs _ _ _ _ T29 (mkF m 209 #[.val (.int p0), .val (.int p1), .val (.int p2), .val (.int p3), .val (.int v), .val (.int ix), .val (.int fb), .val (.ref ob1), .val (.int (2 : Int32)), .val (.int (ix + (2 : Int32)))] [(.int fb), (.int v), (.int (2 : Int32)), (.int ix), (.int (5 : Int32)), (.ref ob1)])
    obtain ⟨_, _, ⟨T30, L30, k30, n30⟩, -, X30, ⟨Lc30, hQ30, l30, y30, z30⟩, st30⟩ := Jvm.LawKit.callS X29 hx (y := (⟨"com/example/strict_distinct/strictdistinct/KeyBytesWriteLengthPinLaw", "at", "([BIIIIB)Z"⟩ : MethodName)) hown (mvT hZ (hw _ (List.mem_of_getElem? (i := 10) rfl))) (mvT hZ (hw _ (List.mem_of_getElem? (i := 11) rfl))) (mvT hZ (hw _ (List.mem_of_getElem? (i := 4) rfl))) (mvT hZ (hw _ (List.mem_of_getElem? (i := 12) rfl))) (by decide) (backOf (W := 0) (rm3 l Z a0 hw [] ob1 (5 : Int32) ix (2 : Int32) v fb 2 V k 5 fb T24.heap n0 (Z24) wA24 (by decide) (by decide) (by decide) (by decide) hkI hk4 (by decide) (by decide) hV hVc hV3 rfl) hZ (hw _ (List.mem_of_getElem? (i := 12) rfl)) (hw _ (List.mem_of_getElem? (i := 4) rfl)) (by decide) (by decide)) (g := (mkF m 209 #[.val (.int p0), .val (.int p1), .val (.int p2), .val (.int p3), .val (.int v), .val (.int ix), .val (.int fb), .val (.ref ob1), .val (.int (2 : Int32)), .val (.int (ix + (2 : Int32)))] [(.int fb), (.int v), (.int (2 : Int32)), (.int ix), (.int (5 : Int32)), (.ref ob1)])) rfl (by rw [hml]; rfl) (argsL := [(.ref ob1), (.int (5 : Int32)), (.int ix), (.int (2 : Int32)), (.int v), (.int fb)]) (rest := []) (lenOf pd0_2 rfl) rfl (by show 2 * 0 + _ ≤ _; exact Nat.le_of_eq rfl) (hb hby at_209) (fun _ _ => ⟨rfl, eq29, (by decide : 1 + 0 ≤ _), (by decide : 10 + 0 ≤ _)⟩)
    dsimp only [Pt.U, Pt.locs, Pt.cells, Pt.slots] at X30 l30 y30 z30 st30 hQ30
    obtain rfl : k30 = 1 := y30
    obtain rfl : n30 = 10 := z30
    obtain ⟨rfl, N30q, eq30⟩ := hQ30
    have N30 : Fr n0 L30 := by rw [l30]; exact Fr.app N29 N30q
    clear l30
    refine Runs.back st30 ?_
    show Runs _ _ _ _ T30 (mkF m 212 #[.val (.int p0), .val (.int p1), .val (.int p2), .val (.int p3), .val (.int v), .val (.int ix), .val (.int fb), .val (.ref ob1), .val (.int (2 : Int32)), .val (.int (ix + (2 : Int32)))] [(.int (1 : Int32))])
    refine Runs.back (fun t_ k_ => XS.ifNo X30.here hx rfl (hb hby at_212) rfl ((if0 _ _).trans (feq (show ¬ ((1 : Int32) = (0 : Int32)) from (by decide))).1) k_) ?_
    show Runs _ _ _ _ T30 (mkF m 215 #[.val (.int p0), .val (.int p1), .val (.int p2), .val (.int p3), .val (.int v), .val (.int ix), .val (.int fb), .val (.ref ob1), .val (.int (2 : Int32)), .val (.int (ix + (2 : Int32)))] [])
    refine Runs.back (fun t_ k_ => XS.aload X30.here hx rfl (hb hby at_215) rfl rfl k_) ?_
    show Runs _ _ _ _ T30 (mkF m 217 #[.val (.int p0), .val (.int p1), .val (.int p2), .val (.int p3), .val (.int v), .val (.int ix), .val (.int fb), .val (.ref ob1), .val (.int (2 : Int32)), .val (.int (ix + (2 : Int32)))] [(.ref ob1)])
    refine Runs.back (fun t_ k_ => XS.bipush X30.here hx rfl (hb hby at_217) k_) ?_
    show Runs _ _ _ _ T30 (mkF m 219 #[.val (.int p0), .val (.int p1), .val (.int p2), .val (.int p3), .val (.int v), .val (.int ix), .val (.int fb), .val (.ref ob1), .val (.int (2 : Int32)), .val (.int (ix + (2 : Int32)))] [(.int (6 : Int32)), (.ref ob1)])
    refine Runs.back (fun t_ k_ => XS.iload X30.here hx rfl (hb hby at_219) rfl k_) ?_
    show Runs _ _ _ _ T30 (mkF m 221 #[.val (.int p0), .val (.int p1), .val (.int p2), .val (.int p3), .val (.int v), .val (.int ix), .val (.int fb), .val (.ref ob1), .val (.int (2 : Int32)), .val (.int (ix + (2 : Int32)))] [(.int ix), (.int (6 : Int32)), (.ref ob1)])
    refine Runs.back (fun t_ k_ => XS.iload X30.here hx rfl (hb hby at_221) rfl k_) ?_
    show Runs _ _ _ _ T30 (mkF m 223 #[.val (.int p0), .val (.int p1), .val (.int p2), .val (.int p3), .val (.int v), .val (.int ix), .val (.int fb), .val (.ref ob1), .val (.int (2 : Int32)), .val (.int (ix + (2 : Int32)))] [(.int (2 : Int32)), (.int ix), (.int (6 : Int32)), (.ref ob1)])
    refine Runs.back (fun t_ k_ => XS.iload X30.here hx rfl (hb hby at_223) rfl k_) ?_
    show Runs _ _ _ _ T30 (mkF m 225 #[.val (.int p0), .val (.int p1), .val (.int p2), .val (.int p3), .val (.int v), .val (.int ix), .val (.int fb), .val (.ref ob1), .val (.int (2 : Int32)), .val (.int (ix + (2 : Int32)))] [(.int v), (.int (2 : Int32)), (.int ix), (.int (6 : Int32)), (.ref ob1)])
    refine Runs.back (fun t_ k_ => XS.iload X30.here hx rfl (hb hby at_225) rfl k_) ?_
    show Runs _ _ _ _ T30 (mkF m 227 #[.val (.int p0), .val (.int p1), .val (.int p2), .val (.int p3), .val (.int v), .val (.int ix), .val (.int fb), .val (.ref ob1), .val (.int (2 : Int32)), .val (.int (ix + (2 : Int32)))] [(.int fb), (.int v), (.int (2 : Int32)), (.int ix), (.int (6 : Int32)), (.ref ob1)])
    obtain ⟨_, _, ⟨T31, L31, k31, n31⟩, -, X31, ⟨Lc31, hQ31, l31, y31, z31⟩, st31⟩ := Jvm.LawKit.callS X30 hx (y := (⟨"com/example/strict_distinct/strictdistinct/KeyBytesWriteLengthPinLaw", "at", "([BIIIIB)Z"⟩ : MethodName)) hown (mvT hZ (hw _ (List.mem_of_getElem? (i := 10) rfl))) (mvT hZ (hw _ (List.mem_of_getElem? (i := 11) rfl))) (mvT hZ (hw _ (List.mem_of_getElem? (i := 4) rfl))) (mvT hZ (hw _ (List.mem_of_getElem? (i := 12) rfl))) (by decide) (backOf (W := 0) (rm3 l Z a0 hw [] ob1 (6 : Int32) ix (2 : Int32) v fb 2 V k 6 fb T24.heap n0 (Z24) wA24 (by decide) (by decide) (by decide) (by decide) hkI hk4 (by decide) (by decide) hV hVc hV3 rfl) hZ (hw _ (List.mem_of_getElem? (i := 12) rfl)) (hw _ (List.mem_of_getElem? (i := 4) rfl)) (by decide) (by decide)) (g := (mkF m 227 #[.val (.int p0), .val (.int p1), .val (.int p2), .val (.int p3), .val (.int v), .val (.int ix), .val (.int fb), .val (.ref ob1), .val (.int (2 : Int32)), .val (.int (ix + (2 : Int32)))] [(.int fb), (.int v), (.int (2 : Int32)), (.int ix), (.int (6 : Int32)), (.ref ob1)])) rfl (by rw [hml]; rfl) (argsL := [(.ref ob1), (.int (6 : Int32)), (.int ix), (.int (2 : Int32)), (.int v), (.int fb)]) (rest := []) (lenOf pd0_2 rfl) rfl (by show 2 * 0 + _ ≤ _; exact Nat.le_of_eq rfl) (hb hby at_227) (fun _ _ => ⟨rfl, eq30, (by decide : 1 + 0 ≤ _), (by decide : 10 + 0 ≤ _)⟩)
    dsimp only [Pt.U, Pt.locs, Pt.cells, Pt.slots] at X31 l31 y31 z31 st31 hQ31
    obtain rfl : k31 = 1 := y31
    obtain rfl : n31 = 10 := z31
    obtain ⟨rfl, N31q, eq31⟩ := hQ31
    have N31 : Fr n0 L31 := by rw [l31]; exact Fr.app N30 N31q
    clear l31
    refine Runs.back st31 ?_
    show Runs _ _ _ _ T31 (mkF m 230 #[.val (.int p0), .val (.int p1), .val (.int p2), .val (.int p3), .val (.int v), .val (.int ix), .val (.int fb), .val (.ref ob1), .val (.int (2 : Int32)), .val (.int (ix + (2 : Int32)))] [(.int (1 : Int32))])
    refine Runs.back (fun t_ k_ => XS.ifNo X31.here hx rfl (hb hby at_230) rfl ((if0 _ _).trans (feq (show ¬ ((1 : Int32) = (0 : Int32)) from (by decide))).1) k_) ?_
    show Runs _ _ _ _ T31 (mkF m 233 #[.val (.int p0), .val (.int p1), .val (.int p2), .val (.int p3), .val (.int v), .val (.int ix), .val (.int fb), .val (.ref ob1), .val (.int (2 : Int32)), .val (.int (ix + (2 : Int32)))] [])
    refine Runs.back (fun t_ k_ => XS.aload X31.here hx rfl (hb hby at_233) rfl rfl k_) ?_
    show Runs _ _ _ _ T31 (mkF m 235 #[.val (.int p0), .val (.int p1), .val (.int p2), .val (.int p3), .val (.int v), .val (.int ix), .val (.int fb), .val (.ref ob1), .val (.int (2 : Int32)), .val (.int (ix + (2 : Int32)))] [(.ref ob1)])
    refine Runs.back (fun t_ k_ => XS.bipush X31.here hx rfl (hb hby at_235) k_) ?_
    show Runs _ _ _ _ T31 (mkF m 237 #[.val (.int p0), .val (.int p1), .val (.int p2), .val (.int p3), .val (.int v), .val (.int ix), .val (.int fb), .val (.ref ob1), .val (.int (2 : Int32)), .val (.int (ix + (2 : Int32)))] [(.int (7 : Int32)), (.ref ob1)])
    refine Runs.back (fun t_ k_ => XS.iload X31.here hx rfl (hb hby at_237) rfl k_) ?_
    show Runs _ _ _ _ T31 (mkF m 239 #[.val (.int p0), .val (.int p1), .val (.int p2), .val (.int p3), .val (.int v), .val (.int ix), .val (.int fb), .val (.ref ob1), .val (.int (2 : Int32)), .val (.int (ix + (2 : Int32)))] [(.int ix), (.int (7 : Int32)), (.ref ob1)])
    refine Runs.back (fun t_ k_ => XS.iload X31.here hx rfl (hb hby at_239) rfl k_) ?_
    show Runs _ _ _ _ T31 (mkF m 241 #[.val (.int p0), .val (.int p1), .val (.int p2), .val (.int p3), .val (.int v), .val (.int ix), .val (.int fb), .val (.ref ob1), .val (.int (2 : Int32)), .val (.int (ix + (2 : Int32)))] [(.int (2 : Int32)), (.int ix), (.int (7 : Int32)), (.ref ob1)])
    refine Runs.back (fun t_ k_ => XS.iload X31.here hx rfl (hb hby at_241) rfl k_) ?_
    show Runs _ _ _ _ T31 (mkF m 243 #[.val (.int p0), .val (.int p1), .val (.int p2), .val (.int p3), .val (.int v), .val (.int ix), .val (.int fb), .val (.ref ob1), .val (.int (2 : Int32)), .val (.int (ix + (2 : Int32)))] [(.int v), (.int (2 : Int32)), (.int ix), (.int (7 : Int32)), (.ref ob1)])
    refine Runs.back (fun t_ k_ => XS.iload X31.here hx rfl (hb hby at_243) rfl k_) ?_
    show Runs _ _ _ _ T31 (mkF m 245 #[.val (.int p0), .val (.int p1), .val (.int p2), .val (.int p3), .val (.int v), .val (.int ix), .val (.int fb), .val (.ref ob1), .val (.int (2 : Int32)), .val (.int (ix + (2 : Int32)))] [(.int fb), (.int v), (.int (2 : Int32)), (.int ix), (.int (7 : Int32)), (.ref ob1)])
    obtain ⟨_, _, ⟨T32, L32, k32, n32⟩, -, X32, ⟨Lc32, hQ32, l32, y32, z32⟩, st32⟩ := Jvm.LawKit.callS X31 hx (y := (⟨"com/example/strict_distinct/strictdistinct/KeyBytesWriteLengthPinLaw", "at", "([BIIIIB)Z"⟩ : MethodName)) hown (mvT hZ (hw _ (List.mem_of_getElem? (i := 10) rfl))) (mvT hZ (hw _ (List.mem_of_getElem? (i := 11) rfl))) (mvT hZ (hw _ (List.mem_of_getElem? (i := 4) rfl))) (mvT hZ (hw _ (List.mem_of_getElem? (i := 12) rfl))) (by decide) (backOf (W := 0) (rm3 l Z a0 hw [] ob1 (7 : Int32) ix (2 : Int32) v fb 2 V k 7 fb T24.heap n0 (Z24) wA24 (by decide) (by decide) (by decide) (by decide) hkI hk4 (by decide) (by decide) hV hVc hV3 rfl) hZ (hw _ (List.mem_of_getElem? (i := 12) rfl)) (hw _ (List.mem_of_getElem? (i := 4) rfl)) (by decide) (by decide)) (g := (mkF m 245 #[.val (.int p0), .val (.int p1), .val (.int p2), .val (.int p3), .val (.int v), .val (.int ix), .val (.int fb), .val (.ref ob1), .val (.int (2 : Int32)), .val (.int (ix + (2 : Int32)))] [(.int fb), (.int v), (.int (2 : Int32)), (.int ix), (.int (7 : Int32)), (.ref ob1)])) rfl (by rw [hml]; rfl) (argsL := [(.ref ob1), (.int (7 : Int32)), (.int ix), (.int (2 : Int32)), (.int v), (.int fb)]) (rest := []) (lenOf pd0_2 rfl) rfl (by show 2 * 0 + _ ≤ _; exact Nat.le_of_eq rfl) (hb hby at_245) (fun _ _ => ⟨rfl, eq31, (by decide : 1 + 0 ≤ _), (by decide : 10 + 0 ≤ _)⟩)
    dsimp only [Pt.U, Pt.locs, Pt.cells, Pt.slots] at X32 l32 y32 z32 st32 hQ32
    obtain rfl : k32 = 1 := y32
    obtain rfl : n32 = 10 := z32
    obtain ⟨rfl, N32q, eq32⟩ := hQ32
    have N32 : Fr n0 L32 := by rw [l32]; exact Fr.app N31 N32q
    clear l32
    refine Runs.back st32 ?_
    show Runs _ _ _ _ T32 (mkF m 248 #[.val (.int p0), .val (.int p1), .val (.int p2), .val (.int p3), .val (.int v), .val (.int ix), .val (.int fb), .val (.ref ob1), .val (.int (2 : Int32)), .val (.int (ix + (2 : Int32)))] [(.int (1 : Int32))])
    refine Runs.back (fun t_ k_ => XS.ifNo X32.here hx rfl (hb hby at_248) rfl ((if0 _ _).trans (feq (show ¬ ((1 : Int32) = (0 : Int32)) from (by decide))).1) k_) ?_
    show Runs _ _ _ _ T32 (mkF m 251 #[.val (.int p0), .val (.int p1), .val (.int p2), .val (.int p3), .val (.int v), .val (.int ix), .val (.int fb), .val (.ref ob1), .val (.int (2 : Int32)), .val (.int (ix + (2 : Int32)))] [])
    refine Runs.back (fun t_ k_ => XS.aload X32.here hx rfl (hb hby at_251) rfl rfl k_) ?_
    show Runs _ _ _ _ T32 (mkF m 253 #[.val (.int p0), .val (.int p1), .val (.int p2), .val (.int p3), .val (.int v), .val (.int ix), .val (.int fb), .val (.ref ob1), .val (.int (2 : Int32)), .val (.int (ix + (2 : Int32)))] [(.ref ob1)])
    refine Runs.back (fun t_ k_ => XS.bipush X32.here hx rfl (hb hby at_253) k_) ?_
    show Runs _ _ _ _ T32 (mkF m 255 #[.val (.int p0), .val (.int p1), .val (.int p2), .val (.int p3), .val (.int v), .val (.int ix), .val (.int fb), .val (.ref ob1), .val (.int (2 : Int32)), .val (.int (ix + (2 : Int32)))] [(.int (8 : Int32)), (.ref ob1)])
    refine Runs.back (fun t_ k_ => XS.iload X32.here hx rfl (hb hby at_255) rfl k_) ?_
    show Runs _ _ _ _ T32 (mkF m 257 #[.val (.int p0), .val (.int p1), .val (.int p2), .val (.int p3), .val (.int v), .val (.int ix), .val (.int fb), .val (.ref ob1), .val (.int (2 : Int32)), .val (.int (ix + (2 : Int32)))] [(.int ix), (.int (8 : Int32)), (.ref ob1)])
    refine Runs.back (fun t_ k_ => XS.iload X32.here hx rfl (hb hby at_257) rfl k_) ?_
    show Runs _ _ _ _ T32 (mkF m 259 #[.val (.int p0), .val (.int p1), .val (.int p2), .val (.int p3), .val (.int v), .val (.int ix), .val (.int fb), .val (.ref ob1), .val (.int (2 : Int32)), .val (.int (ix + (2 : Int32)))] [(.int (2 : Int32)), (.int ix), (.int (8 : Int32)), (.ref ob1)])
    refine Runs.back (fun t_ k_ => XS.iload X32.here hx rfl (hb hby at_259) rfl k_) ?_
    show Runs _ _ _ _ T32 (mkF m 261 #[.val (.int p0), .val (.int p1), .val (.int p2), .val (.int p3), .val (.int v), .val (.int ix), .val (.int fb), .val (.ref ob1), .val (.int (2 : Int32)), .val (.int (ix + (2 : Int32)))] [(.int v), (.int (2 : Int32)), (.int ix), (.int (8 : Int32)), (.ref ob1)])
    refine Runs.back (fun t_ k_ => XS.iload X32.here hx rfl (hb hby at_261) rfl k_) ?_
    show Runs _ _ _ _ T32 (mkF m 263 #[.val (.int p0), .val (.int p1), .val (.int p2), .val (.int p3), .val (.int v), .val (.int ix), .val (.int fb), .val (.ref ob1), .val (.int (2 : Int32)), .val (.int (ix + (2 : Int32)))] [(.int fb), (.int v), (.int (2 : Int32)), (.int ix), (.int (8 : Int32)), (.ref ob1)])
    obtain ⟨_, _, ⟨T33, L33, k33, n33⟩, -, X33, ⟨Lc33, hQ33, l33, y33, z33⟩, st33⟩ := Jvm.LawKit.callS X32 hx (y := (⟨"com/example/strict_distinct/strictdistinct/KeyBytesWriteLengthPinLaw", "at", "([BIIIIB)Z"⟩ : MethodName)) hown (mvT hZ (hw _ (List.mem_of_getElem? (i := 10) rfl))) (mvT hZ (hw _ (List.mem_of_getElem? (i := 11) rfl))) (mvT hZ (hw _ (List.mem_of_getElem? (i := 4) rfl))) (mvT hZ (hw _ (List.mem_of_getElem? (i := 12) rfl))) (by decide) (backOf (W := 0) (rm3 l Z a0 hw [] ob1 (8 : Int32) ix (2 : Int32) v fb 2 V k 8 fb T24.heap n0 (Z24) wA24 (by decide) (by decide) (by decide) (by decide) hkI hk4 (by decide) (by decide) hV hVc hV3 rfl) hZ (hw _ (List.mem_of_getElem? (i := 12) rfl)) (hw _ (List.mem_of_getElem? (i := 4) rfl)) (by decide) (by decide)) (g := (mkF m 263 #[.val (.int p0), .val (.int p1), .val (.int p2), .val (.int p3), .val (.int v), .val (.int ix), .val (.int fb), .val (.ref ob1), .val (.int (2 : Int32)), .val (.int (ix + (2 : Int32)))] [(.int fb), (.int v), (.int (2 : Int32)), (.int ix), (.int (8 : Int32)), (.ref ob1)])) rfl (by rw [hml]; rfl) (argsL := [(.ref ob1), (.int (8 : Int32)), (.int ix), (.int (2 : Int32)), (.int v), (.int fb)]) (rest := []) (lenOf pd0_2 rfl) rfl (by show 2 * 0 + _ ≤ _; exact Nat.le_of_eq rfl) (hb hby at_263) (fun _ _ => ⟨rfl, eq32, (by decide : 1 + 0 ≤ _), (by decide : 10 + 0 ≤ _)⟩)
    dsimp only [Pt.U, Pt.locs, Pt.cells, Pt.slots] at X33 l33 y33 z33 st33 hQ33
    obtain rfl : k33 = 1 := y33
    obtain rfl : n33 = 10 := z33
    obtain ⟨rfl, N33q, eq33⟩ := hQ33
    have N33 : Fr n0 L33 := by rw [l33]; exact Fr.app N32 N33q
    clear l33
    refine Runs.back st33 ?_
    show Runs _ _ _ _ T33 (mkF m 266 #[.val (.int p0), .val (.int p1), .val (.int p2), .val (.int p3), .val (.int v), .val (.int ix), .val (.int fb), .val (.ref ob1), .val (.int (2 : Int32)), .val (.int (ix + (2 : Int32)))] [(.int (1 : Int32))])
    refine Runs.back (fun t_ k_ => XS.ifNo X33.here hx rfl (hb hby at_266) rfl ((if0 _ _).trans (feq (show ¬ ((1 : Int32) = (0 : Int32)) from (by decide))).1) k_) ?_
    show Runs _ _ _ _ T33 (mkF m 269 #[.val (.int p0), .val (.int p1), .val (.int p2), .val (.int p3), .val (.int v), .val (.int ix), .val (.int fb), .val (.ref ob1), .val (.int (2 : Int32)), .val (.int (ix + (2 : Int32)))] [])
    refine Runs.back (fun t_ k_ => XS.aload X33.here hx rfl (hb hby at_269) rfl rfl k_) ?_
    show Runs _ _ _ _ T33 (mkF m 271 #[.val (.int p0), .val (.int p1), .val (.int p2), .val (.int p3), .val (.int v), .val (.int ix), .val (.int fb), .val (.ref ob1), .val (.int (2 : Int32)), .val (.int (ix + (2 : Int32)))] [(.ref ob1)])
    refine Runs.back (fun t_ k_ => XS.bipush X33.here hx rfl (hb hby at_271) k_) ?_
    show Runs _ _ _ _ T33 (mkF m 273 #[.val (.int p0), .val (.int p1), .val (.int p2), .val (.int p3), .val (.int v), .val (.int ix), .val (.int fb), .val (.ref ob1), .val (.int (2 : Int32)), .val (.int (ix + (2 : Int32)))] [(.int (9 : Int32)), (.ref ob1)])
    refine Runs.back (fun t_ k_ => XS.iload X33.here hx rfl (hb hby at_273) rfl k_) ?_
    show Runs _ _ _ _ T33 (mkF m 275 #[.val (.int p0), .val (.int p1), .val (.int p2), .val (.int p3), .val (.int v), .val (.int ix), .val (.int fb), .val (.ref ob1), .val (.int (2 : Int32)), .val (.int (ix + (2 : Int32)))] [(.int ix), (.int (9 : Int32)), (.ref ob1)])
    refine Runs.back (fun t_ k_ => XS.iload X33.here hx rfl (hb hby at_275) rfl k_) ?_
    show Runs _ _ _ _ T33 (mkF m 277 #[.val (.int p0), .val (.int p1), .val (.int p2), .val (.int p3), .val (.int v), .val (.int ix), .val (.int fb), .val (.ref ob1), .val (.int (2 : Int32)), .val (.int (ix + (2 : Int32)))] [(.int (2 : Int32)), (.int ix), (.int (9 : Int32)), (.ref ob1)])
    refine Runs.back (fun t_ k_ => XS.iload X33.here hx rfl (hb hby at_277) rfl k_) ?_
    show Runs _ _ _ _ T33 (mkF m 279 #[.val (.int p0), .val (.int p1), .val (.int p2), .val (.int p3), .val (.int v), .val (.int ix), .val (.int fb), .val (.ref ob1), .val (.int (2 : Int32)), .val (.int (ix + (2 : Int32)))] [(.int v), (.int (2 : Int32)), (.int ix), (.int (9 : Int32)), (.ref ob1)])
    refine Runs.back (fun t_ k_ => XS.iload X33.here hx rfl (hb hby at_279) rfl k_) ?_
    show Runs _ _ _ _ T33 (mkF m 281 #[.val (.int p0), .val (.int p1), .val (.int p2), .val (.int p3), .val (.int v), .val (.int ix), .val (.int fb), .val (.ref ob1), .val (.int (2 : Int32)), .val (.int (ix + (2 : Int32)))] [(.int fb), (.int v), (.int (2 : Int32)), (.int ix), (.int (9 : Int32)), (.ref ob1)])
    obtain ⟨_, _, ⟨T34, L34, k34, n34⟩, -, X34, ⟨Lc34, hQ34, l34, y34, z34⟩, st34⟩ := Jvm.LawKit.callS X33 hx (y := (⟨"com/example/strict_distinct/strictdistinct/KeyBytesWriteLengthPinLaw", "at", "([BIIIIB)Z"⟩ : MethodName)) hown (mvT hZ (hw _ (List.mem_of_getElem? (i := 10) rfl))) (mvT hZ (hw _ (List.mem_of_getElem? (i := 11) rfl))) (mvT hZ (hw _ (List.mem_of_getElem? (i := 4) rfl))) (mvT hZ (hw _ (List.mem_of_getElem? (i := 12) rfl))) (by decide) (backOf (W := 0) (rm3 l Z a0 hw [] ob1 (9 : Int32) ix (2 : Int32) v fb 2 V k 9 fb T24.heap n0 (Z24) wA24 (by decide) (by decide) (by decide) (by decide) hkI hk4 (by decide) (by decide) hV hVc hV3 rfl) hZ (hw _ (List.mem_of_getElem? (i := 12) rfl)) (hw _ (List.mem_of_getElem? (i := 4) rfl)) (by decide) (by decide)) (g := (mkF m 281 #[.val (.int p0), .val (.int p1), .val (.int p2), .val (.int p3), .val (.int v), .val (.int ix), .val (.int fb), .val (.ref ob1), .val (.int (2 : Int32)), .val (.int (ix + (2 : Int32)))] [(.int fb), (.int v), (.int (2 : Int32)), (.int ix), (.int (9 : Int32)), (.ref ob1)])) rfl (by rw [hml]; rfl) (argsL := [(.ref ob1), (.int (9 : Int32)), (.int ix), (.int (2 : Int32)), (.int v), (.int fb)]) (rest := []) (lenOf pd0_2 rfl) rfl (by show 2 * 0 + _ ≤ _; exact Nat.le_of_eq rfl) (hb hby at_281) (fun _ _ => ⟨rfl, eq33, (by decide : 1 + 0 ≤ _), (by decide : 10 + 0 ≤ _)⟩)
    dsimp only [Pt.U, Pt.locs, Pt.cells, Pt.slots] at X34 l34 y34 z34 st34 hQ34
    obtain rfl : k34 = 1 := y34
    obtain rfl : n34 = 10 := z34
    obtain ⟨rfl, N34q, eq34⟩ := hQ34
    have N34 : Fr n0 L34 := by rw [l34]; exact Fr.app N33 N34q
    clear l34
    refine Runs.back st34 ?_
    show Runs _ _ _ _ T34 (mkF m 284 #[.val (.int p0), .val (.int p1), .val (.int p2), .val (.int p3), .val (.int v), .val (.int ix), .val (.int fb), .val (.ref ob1), .val (.int (2 : Int32)), .val (.int (ix + (2 : Int32)))] [(.int (1 : Int32))])
    refine Runs.back (fun t_ k_ => XS.ifNo X34.here hx rfl (hb hby at_284) rfl ((if0 _ _).trans (feq (show ¬ ((1 : Int32) = (0 : Int32)) from (by decide))).1) k_) ?_
    show Runs _ _ _ _ T34 (mkF m 287 #[.val (.int p0), .val (.int p1), .val (.int p2), .val (.int p3), .val (.int v), .val (.int ix), .val (.int fb), .val (.ref ob1), .val (.int (2 : Int32)), .val (.int (ix + (2 : Int32)))] [])
    refine Runs.back (fun t_ k_ => XS.iconst X34.here hx rfl (hb hby at_287) k_) ?_
    show Runs _ _ _ _ T34 (mkF m 288 #[.val (.int p0), .val (.int p1), .val (.int p2), .val (.int p3), .val (.int v), .val (.int ix), .val (.int fb), .val (.ref ob1), .val (.int (2 : Int32)), .val (.int (ix + (2 : Int32)))] [(.int (1 : Int32))])
    refine Runs.back (fun t_ k_ => XS.goto X34.here hx rfl (pc0 := 288) (pc' := 292) rfl (hb hby at_288) (by decide) (by decide) k_) ?_
    show Runs _ _ _ _ T34 (mkF m 292 #[.val (.int p0), .val (.int p1), .val (.int p2), .val (.int p3), .val (.int v), .val (.int ix), .val (.int fb), .val (.ref ob1), .val (.int (2 : Int32)), .val (.int (ix + (2 : Int32)))] [(.int (1 : Int32))])
    obtain ⟨fs, hr, hrun, hended, hW, hsame⟩ := X34.leave (v := some (.int (1 : Int32))) (fun h => by rw [Bd.returns] at h; cases h)
    exact ⟨_, _, (retN X34 hx (t := .boolean) Bd.returns (by simp) (hb hby at_292) hr), hrun, hended, _, _, rfl, ⟨rfl, N34⟩, ⟨_, rfl⟩, hW, hsame.mono (by decide) (by decide)⟩
  · rw [hz]
    have hVa : 16384 ≤ V := by omega
    have hVb : V < 2097152 := by omega
    have hVc : V < 128 ^ 3 := by simpa using hVb
    show Runs _ _ _ _ T12 (mkF m 90 #[.val (.int p0), .val (.int p1), .val (.int p2), .val (.int p3), .val (.int v), .val (.int ix), .val (.int fb), .val (.ref ob1), .val (.int (3 : Int32)), .unset] [])
    refine Runs.back (fun t_ k_ => XS.aload X12.here hx rfl (hb hby at_90) rfl rfl k_) ?_
    show Runs _ _ _ _ T12 (mkF m 92 #[.val (.int p0), .val (.int p1), .val (.int p2), .val (.int p3), .val (.int v), .val (.int ix), .val (.int fb), .val (.ref ob1), .val (.int (3 : Int32)), .unset] [(.ref ob1)])
    refine Runs.back (fun t_ k_ => XS.iload X12.here hx rfl (hb hby at_92) rfl k_) ?_
    show Runs _ _ _ _ T12 (mkF m 94 #[.val (.int p0), .val (.int p1), .val (.int p2), .val (.int p3), .val (.int v), .val (.int ix), .val (.int fb), .val (.ref ob1), .val (.int (3 : Int32)), .unset] [(.int ix), (.ref ob1)])
    refine Runs.back (fun t_ k_ => XS.iload X12.here hx rfl (hb hby at_94) rfl k_) ?_
    show Runs _ _ _ _ T12 (mkF m 96 #[.val (.int p0), .val (.int p1), .val (.int p2), .val (.int p3), .val (.int v), .val (.int ix), .val (.int fb), .val (.ref ob1), .val (.int (3 : Int32)), .unset] [(.int v), (.int ix), (.ref ob1)])
    obtain ⟨_, _, ⟨T35, L35, k35, n35⟩, -, X35, ⟨Lc35, hQ35, l35, y35, z35⟩, st35⟩ := Jvm.LawKit.callS X12 hx (y := (⟨"com/example/strict_distinct/strictdistinct/KeyBytes", "writeLength", "([BII)I"⟩ : MethodName)) hown (mvT hZ (hw _ (List.mem_of_getElem? (i := 6) rfl))) (mvT hZ (hw _ (List.mem_of_getElem? (i := 7) rfl))) (mvT hZ (hw _ (List.mem_of_getElem? (i := 8) rfl))) (mvT hZ (hw _ (List.mem_of_getElem? (i := 9) rfl))) (by decide) (backOf (W := 0) (rm2n3 l Z a0 hw [] ob1 ix v V k fb h11 n0 (Z11) V83 g_ob1 hk hixn hk4 hV hVa hVb hV3) hZ (hw _ (List.mem_of_getElem? (i := 9) rfl)) (hw _ (List.mem_of_getElem? (i := 8) rfl)) (by decide) (by decide)) (g := (mkF m 96 #[.val (.int p0), .val (.int p1), .val (.int p2), .val (.int p3), .val (.int v), .val (.int ix), .val (.int fb), .val (.ref ob1), .val (.int (3 : Int32)), .unset] [(.int v), (.int ix), (.ref ob1)])) rfl (by rw [hml]; rfl) (argsL := [(.ref ob1), (.int ix), (.int v)]) (rest := []) (lenOf pd0_1 rfl) rfl (by show 2 * 0 + _ ≤ _; exact Nat.le_of_eq rfl) (hb hby at_96) (fun _ _ => ⟨rfl, eq12, (by decide : 1 + 0 ≤ _), (by decide : 10 + 0 ≤ _)⟩)
    dsimp only [Pt.U, Pt.locs, Pt.cells, Pt.slots] at X35 l35 y35 z35 st35 hQ35
    obtain rfl : k35 = 1 := y35
    obtain rfl : n35 = 10 := z35
    obtain ⟨rfl, N35q, K35, wA35⟩ := hQ35
    have N35 : Fr n0 L35 := by rw [l35]; exact Fr.app N12 N35q
    clear l35
    have Z35 : n0 ≤ T35.heap.size := Nat.le_trans (Z11) K35.1
    refine Runs.back st35 ?_
    show Runs _ _ _ _ T35 (mkF m 99 #[.val (.int p0), .val (.int p1), .val (.int p2), .val (.int p3), .val (.int v), .val (.int ix), .val (.int fb), .val (.ref ob1), .val (.int (3 : Int32)), .unset] [(.int (ix + (3 : Int32)))])
    refine Runs.back (fun t_ k_ => XS.istore X35.here hx rfl (hb hby at_99) rfl (l' := #[.val (.int p0), .val (.int p1), .val (.int p2), .val (.int p3), .val (.int v), .val (.int ix), .val (.int fb), .val (.ref ob1), .val (.int (3 : Int32)), .val (.int (ix + (3 : Int32)))]) rfl k_) ?_
    show Runs _ _ _ _ T35 (mkF m 101 #[.val (.int p0), .val (.int p1), .val (.int p2), .val (.int p3), .val (.int v), .val (.int ix), .val (.int fb), .val (.ref ob1), .val (.int (3 : Int32)), .val (.int (ix + (3 : Int32)))] [])
    refine Runs.back (fun t_ k_ => XS.iload X35.here hx rfl (hb hby at_101) rfl k_) ?_
    show Runs _ _ _ _ T35 (mkF m 103 #[.val (.int p0), .val (.int p1), .val (.int p2), .val (.int p3), .val (.int v), .val (.int ix), .val (.int fb), .val (.ref ob1), .val (.int (3 : Int32)), .val (.int (ix + (3 : Int32)))] [(.int (ix + (3 : Int32)))])
    refine Runs.back (fun t_ k_ => XS.iload X35.here hx rfl (hb hby at_103) rfl k_) ?_
    show Runs _ _ _ _ T35 (mkF m 105 #[.val (.int p0), .val (.int p1), .val (.int p2), .val (.int p3), .val (.int v), .val (.int ix), .val (.int fb), .val (.ref ob1), .val (.int (3 : Int32)), .val (.int (ix + (3 : Int32)))] [(.int ix), (.int (ix + (3 : Int32)))])
    refine Runs.back (fun t_ k_ => XS.iload X35.here hx rfl (hb hby at_105) rfl k_) ?_
    show Runs _ _ _ _ T35 (mkF m 107 #[.val (.int p0), .val (.int p1), .val (.int p2), .val (.int p3), .val (.int v), .val (.int ix), .val (.int fb), .val (.ref ob1), .val (.int (3 : Int32)), .val (.int (ix + (3 : Int32)))] [(.int (3 : Int32)), (.int ix), (.int (ix + (3 : Int32)))])
    refine Runs.back (fun t_ k_ => XS.iadd X35.here hx rfl (hb hby at_107) rfl k_) ?_
    show Runs _ _ _ _ T35 (mkF m 108 #[.val (.int p0), .val (.int p1), .val (.int p2), .val (.int p3), .val (.int v), .val (.int ix), .val (.int fb), .val (.ref ob1), .val (.int (3 : Int32)), .val (.int (ix + (3 : Int32)))] [(.int (ix + (3 : Int32))), (.int (ix + (3 : Int32)))])
    refine Runs.back (fun t_ k_ => XS.icmpYes X35.here hx rfl (pc0 := 108) (pc' := 113) rfl (hb hby at_108) rfl (teq (show (ix + (3 : Int32)) = (ix + (3 : Int32)) from rfl)).1 (by decide) (by decide) k_) ?_
    show Runs _ _ _ _ T35 (mkF m 113 #[.val (.int p0), .val (.int p1), .val (.int p2), .val (.int p3), .val (.int v), .val (.int ix), .val (.int fb), .val (.ref ob1), .val (.int (3 : Int32)), .val (.int (ix + (3 : Int32)))] [])
    refine Runs.back (fun t_ k_ => XS.aload X35.here hx rfl (hb hby at_113) rfl rfl k_) ?_
    show Runs _ _ _ _ T35 (mkF m 115 #[.val (.int p0), .val (.int p1), .val (.int p2), .val (.int p3), .val (.int v), .val (.int ix), .val (.int fb), .val (.ref ob1), .val (.int (3 : Int32)), .val (.int (ix + (3 : Int32)))] [(.ref ob1)])
    refine Runs.back (fun t_ k_ => XS.iconst X35.here hx rfl (hb hby at_115) k_) ?_
    show Runs _ _ _ _ T35 (mkF m 116 #[.val (.int p0), .val (.int p1), .val (.int p2), .val (.int p3), .val (.int v), .val (.int ix), .val (.int fb), .val (.ref ob1), .val (.int (3 : Int32)), .val (.int (ix + (3 : Int32)))] [(.int (0 : Int32)), (.ref ob1)])
    refine Runs.back (fun t_ k_ => XS.iload X35.here hx rfl (hb hby at_116) rfl k_) ?_
    show Runs _ _ _ _ T35 (mkF m 118 #[.val (.int p0), .val (.int p1), .val (.int p2), .val (.int p3), .val (.int v), .val (.int ix), .val (.int fb), .val (.ref ob1), .val (.int (3 : Int32)), .val (.int (ix + (3 : Int32)))] [(.int ix), (.int (0 : Int32)), (.ref ob1)])
    refine Runs.back (fun t_ k_ => XS.iload X35.here hx rfl (hb hby at_118) rfl k_) ?_
    show Runs _ _ _ _ T35 (mkF m 120 #[.val (.int p0), .val (.int p1), .val (.int p2), .val (.int p3), .val (.int v), .val (.int ix), .val (.int fb), .val (.ref ob1), .val (.int (3 : Int32)), .val (.int (ix + (3 : Int32)))] [(.int (3 : Int32)), (.int ix), (.int (0 : Int32)), (.ref ob1)])
    refine Runs.back (fun t_ k_ => XS.iload X35.here hx rfl (hb hby at_120) rfl k_) ?_
    show Runs _ _ _ _ T35 (mkF m 122 #[.val (.int p0), .val (.int p1), .val (.int p2), .val (.int p3), .val (.int v), .val (.int ix), .val (.int fb), .val (.ref ob1), .val (.int (3 : Int32)), .val (.int (ix + (3 : Int32)))] [(.int v), (.int (3 : Int32)), (.int ix), (.int (0 : Int32)), (.ref ob1)])
    refine Runs.back (fun t_ k_ => XS.iload X35.here hx rfl (hb hby at_122) rfl k_) ?_
    show Runs _ _ _ _ T35 (mkF m 124 #[.val (.int p0), .val (.int p1), .val (.int p2), .val (.int p3), .val (.int v), .val (.int ix), .val (.int fb), .val (.ref ob1), .val (.int (3 : Int32)), .val (.int (ix + (3 : Int32)))] [(.int fb), (.int v), (.int (3 : Int32)), (.int ix), (.int (0 : Int32)), (.ref ob1)])
    obtain ⟨_, _, ⟨T36, L36, k36, n36⟩, -, X36, ⟨Lc36, hQ36, l36, y36, z36⟩, st36⟩ := Jvm.LawKit.callS X35 hx (y := (⟨"com/example/strict_distinct/strictdistinct/KeyBytesWriteLengthPinLaw", "at", "([BIIIIB)Z"⟩ : MethodName)) hown (mvT hZ (hw _ (List.mem_of_getElem? (i := 10) rfl))) (mvT hZ (hw _ (List.mem_of_getElem? (i := 11) rfl))) (mvT hZ (hw _ (List.mem_of_getElem? (i := 4) rfl))) (mvT hZ (hw _ (List.mem_of_getElem? (i := 12) rfl))) (by decide) (backOf (W := 0) (rm3 l Z a0 hw [] ob1 (0 : Int32) ix (3 : Int32) v fb 3 V k 0 fb T35.heap n0 (Z35) wA35 (by decide) (by decide) (by decide) (by decide) hkI hk4 (by decide) (by decide) hV hVc hV3 rfl) hZ (hw _ (List.mem_of_getElem? (i := 12) rfl)) (hw _ (List.mem_of_getElem? (i := 4) rfl)) (by decide) (by decide)) (g := (mkF m 124 #[.val (.int p0), .val (.int p1), .val (.int p2), .val (.int p3), .val (.int v), .val (.int ix), .val (.int fb), .val (.ref ob1), .val (.int (3 : Int32)), .val (.int (ix + (3 : Int32)))] [(.int fb), (.int v), (.int (3 : Int32)), (.int ix), (.int (0 : Int32)), (.ref ob1)])) rfl (by rw [hml]; rfl) (argsL := [(.ref ob1), (.int (0 : Int32)), (.int ix), (.int (3 : Int32)), (.int v), (.int fb)]) (rest := []) (lenOf pd0_2 rfl) rfl (by show 2 * 0 + _ ≤ _; exact Nat.le_of_eq rfl) (hb hby at_124) (fun _ _ => ⟨rfl, rfl, (by decide : 1 + 0 ≤ _), (by decide : 10 + 0 ≤ _)⟩)
    dsimp only [Pt.U, Pt.locs, Pt.cells, Pt.slots] at X36 l36 y36 z36 st36 hQ36
    obtain rfl : k36 = 1 := y36
    obtain rfl : n36 = 10 := z36
    obtain ⟨rfl, N36q, eq36⟩ := hQ36
    have N36 : Fr n0 L36 := by rw [l36]; exact Fr.app N35 N36q
    clear l36
    refine Runs.back st36 ?_
    show Runs _ _ _ _ T36 (mkF m 127 #[.val (.int p0), .val (.int p1), .val (.int p2), .val (.int p3), .val (.int v), .val (.int ix), .val (.int fb), .val (.ref ob1), .val (.int (3 : Int32)), .val (.int (ix + (3 : Int32)))] [(.int (1 : Int32))])
    refine Runs.back (fun t_ k_ => XS.ifNo X36.here hx rfl (hb hby at_127) rfl ((if0 _ _).trans (feq (show ¬ ((1 : Int32) = (0 : Int32)) from (by decide))).1) k_) ?_
    show Runs _ _ _ _ T36 (mkF m 130 #[.val (.int p0), .val (.int p1), .val (.int p2), .val (.int p3), .val (.int v), .val (.int ix), .val (.int fb), .val (.ref ob1), .val (.int (3 : Int32)), .val (.int (ix + (3 : Int32)))] [])
    refine Runs.back (fun t_ k_ => XS.aload X36.here hx rfl (hb hby at_130) rfl rfl k_) ?_
    show Runs _ _ _ _ T36 (mkF m 132 #[.val (.int p0), .val (.int p1), .val (.int p2), .val (.int p3), .val (.int v), .val (.int ix), .val (.int fb), .val (.ref ob1), .val (.int (3 : Int32)), .val (.int (ix + (3 : Int32)))] [(.ref ob1)])
    refine Runs.back (fun t_ k_ => XS.iconst X36.here hx rfl (hb hby at_132) k_) ?_
    show Runs _ _ _ _ T36 (mkF m 133 #[.val (.int p0), .val (.int p1), .val (.int p2), .val (.int p3), .val (.int v), .val (.int ix), .val (.int fb), .val (.ref ob1), .val (.int (3 : Int32)), .val (.int (ix + (3 : Int32)))] [(.int (1 : Int32)), (.ref ob1)])
    refine Runs.back (fun t_ k_ => XS.iload X36.here hx rfl (hb hby at_133) rfl k_) ?_
    show Runs _ _ _ _ T36 (mkF m 135 #[.val (.int p0), .val (.int p1), .val (.int p2), .val (.int p3), .val (.int v), .val (.int ix), .val (.int fb), .val (.ref ob1), .val (.int (3 : Int32)), .val (.int (ix + (3 : Int32)))] [(.int ix), (.int (1 : Int32)), (.ref ob1)])
    refine Runs.back (fun t_ k_ => XS.iload X36.here hx rfl (hb hby at_135) rfl k_) ?_
    show Runs _ _ _ _ T36 (mkF m 137 #[.val (.int p0), .val (.int p1), .val (.int p2), .val (.int p3), .val (.int v), .val (.int ix), .val (.int fb), .val (.ref ob1), .val (.int (3 : Int32)), .val (.int (ix + (3 : Int32)))] [(.int (3 : Int32)), (.int ix), (.int (1 : Int32)), (.ref ob1)])
    refine Runs.back (fun t_ k_ => XS.iload X36.here hx rfl (hb hby at_137) rfl k_) ?_
    show Runs _ _ _ _ T36 (mkF m 139 #[.val (.int p0), .val (.int p1), .val (.int p2), .val (.int p3), .val (.int v), .val (.int ix), .val (.int fb), .val (.ref ob1), .val (.int (3 : Int32)), .val (.int (ix + (3 : Int32)))] [(.int v), (.int (3 : Int32)), (.int ix), (.int (1 : Int32)), (.ref ob1)])
    refine Runs.back (fun t_ k_ => XS.iload X36.here hx rfl (hb hby at_139) rfl k_) ?_
    show Runs _ _ _ _ T36 (mkF m 141 #[.val (.int p0), .val (.int p1), .val (.int p2), .val (.int p3), .val (.int v), .val (.int ix), .val (.int fb), .val (.ref ob1), .val (.int (3 : Int32)), .val (.int (ix + (3 : Int32)))] [(.int fb), (.int v), (.int (3 : Int32)), (.int ix), (.int (1 : Int32)), (.ref ob1)])
    obtain ⟨_, _, ⟨T37, L37, k37, n37⟩, -, X37, ⟨Lc37, hQ37, l37, y37, z37⟩, st37⟩ := Jvm.LawKit.callS X36 hx (y := (⟨"com/example/strict_distinct/strictdistinct/KeyBytesWriteLengthPinLaw", "at", "([BIIIIB)Z"⟩ : MethodName)) hown (mvT hZ (hw _ (List.mem_of_getElem? (i := 10) rfl))) (mvT hZ (hw _ (List.mem_of_getElem? (i := 11) rfl))) (mvT hZ (hw _ (List.mem_of_getElem? (i := 4) rfl))) (mvT hZ (hw _ (List.mem_of_getElem? (i := 12) rfl))) (by decide) (backOf (W := 0) (rm3 l Z a0 hw [] ob1 (1 : Int32) ix (3 : Int32) v fb 3 V k 1 fb T35.heap n0 (Z35) wA35 (by decide) (by decide) (by decide) (by decide) hkI hk4 (by decide) (by decide) hV hVc hV3 rfl) hZ (hw _ (List.mem_of_getElem? (i := 12) rfl)) (hw _ (List.mem_of_getElem? (i := 4) rfl)) (by decide) (by decide)) (g := (mkF m 141 #[.val (.int p0), .val (.int p1), .val (.int p2), .val (.int p3), .val (.int v), .val (.int ix), .val (.int fb), .val (.ref ob1), .val (.int (3 : Int32)), .val (.int (ix + (3 : Int32)))] [(.int fb), (.int v), (.int (3 : Int32)), (.int ix), (.int (1 : Int32)), (.ref ob1)])) rfl (by rw [hml]; rfl) (argsL := [(.ref ob1), (.int (1 : Int32)), (.int ix), (.int (3 : Int32)), (.int v), (.int fb)]) (rest := []) (lenOf pd0_2 rfl) rfl (by show 2 * 0 + _ ≤ _; exact Nat.le_of_eq rfl) (hb hby at_141) (fun _ _ => ⟨rfl, eq36, (by decide : 1 + 0 ≤ _), (by decide : 10 + 0 ≤ _)⟩)
    dsimp only [Pt.U, Pt.locs, Pt.cells, Pt.slots] at X37 l37 y37 z37 st37 hQ37
    obtain rfl : k37 = 1 := y37
    obtain rfl : n37 = 10 := z37
    obtain ⟨rfl, N37q, eq37⟩ := hQ37
    have N37 : Fr n0 L37 := by rw [l37]; exact Fr.app N36 N37q
    clear l37
    refine Runs.back st37 ?_
    show Runs _ _ _ _ T37 (mkF m 144 #[.val (.int p0), .val (.int p1), .val (.int p2), .val (.int p3), .val (.int v), .val (.int ix), .val (.int fb), .val (.ref ob1), .val (.int (3 : Int32)), .val (.int (ix + (3 : Int32)))] [(.int (1 : Int32))])
    refine Runs.back (fun t_ k_ => XS.ifNo X37.here hx rfl (hb hby at_144) rfl ((if0 _ _).trans (feq (show ¬ ((1 : Int32) = (0 : Int32)) from (by decide))).1) k_) ?_
    show Runs _ _ _ _ T37 (mkF m 147 #[.val (.int p0), .val (.int p1), .val (.int p2), .val (.int p3), .val (.int v), .val (.int ix), .val (.int fb), .val (.ref ob1), .val (.int (3 : Int32)), .val (.int (ix + (3 : Int32)))] [])
    refine Runs.back (fun t_ k_ => XS.aload X37.here hx rfl (hb hby at_147) rfl rfl k_) ?_
    show Runs _ _ _ _ T37 (mkF m 149 #[.val (.int p0), .val (.int p1), .val (.int p2), .val (.int p3), .val (.int v), .val (.int ix), .val (.int fb), .val (.ref ob1), .val (.int (3 : Int32)), .val (.int (ix + (3 : Int32)))] [(.ref ob1)])
    refine Runs.back (fun t_ k_ => XS.iconst X37.here hx rfl (hb hby at_149) k_) ?_
    show Runs _ _ _ _ T37 (mkF m 150 #[.val (.int p0), .val (.int p1), .val (.int p2), .val (.int p3), .val (.int v), .val (.int ix), .val (.int fb), .val (.ref ob1), .val (.int (3 : Int32)), .val (.int (ix + (3 : Int32)))] [(.int (2 : Int32)), (.ref ob1)])
    refine Runs.back (fun t_ k_ => XS.iload X37.here hx rfl (hb hby at_150) rfl k_) ?_
    show Runs _ _ _ _ T37 (mkF m 152 #[.val (.int p0), .val (.int p1), .val (.int p2), .val (.int p3), .val (.int v), .val (.int ix), .val (.int fb), .val (.ref ob1), .val (.int (3 : Int32)), .val (.int (ix + (3 : Int32)))] [(.int ix), (.int (2 : Int32)), (.ref ob1)])
    refine Runs.back (fun t_ k_ => XS.iload X37.here hx rfl (hb hby at_152) rfl k_) ?_
    show Runs _ _ _ _ T37 (mkF m 154 #[.val (.int p0), .val (.int p1), .val (.int p2), .val (.int p3), .val (.int v), .val (.int ix), .val (.int fb), .val (.ref ob1), .val (.int (3 : Int32)), .val (.int (ix + (3 : Int32)))] [(.int (3 : Int32)), (.int ix), (.int (2 : Int32)), (.ref ob1)])
    refine Runs.back (fun t_ k_ => XS.iload X37.here hx rfl (hb hby at_154) rfl k_) ?_
    show Runs _ _ _ _ T37 (mkF m 156 #[.val (.int p0), .val (.int p1), .val (.int p2), .val (.int p3), .val (.int v), .val (.int ix), .val (.int fb), .val (.ref ob1), .val (.int (3 : Int32)), .val (.int (ix + (3 : Int32)))] [(.int v), (.int (3 : Int32)), (.int ix), (.int (2 : Int32)), (.ref ob1)])
    refine Runs.back (fun t_ k_ => XS.iload X37.here hx rfl (hb hby at_156) rfl k_) ?_
    show Runs _ _ _ _ T37 (mkF m 158 #[.val (.int p0), .val (.int p1), .val (.int p2), .val (.int p3), .val (.int v), .val (.int ix), .val (.int fb), .val (.ref ob1), .val (.int (3 : Int32)), .val (.int (ix + (3 : Int32)))] [(.int fb), (.int v), (.int (3 : Int32)), (.int ix), (.int (2 : Int32)), (.ref ob1)])
    obtain ⟨_, _, ⟨T38, L38, k38, n38⟩, -, X38, ⟨Lc38, hQ38, l38, y38, z38⟩, st38⟩ := Jvm.LawKit.callS X37 hx (y := (⟨"com/example/strict_distinct/strictdistinct/KeyBytesWriteLengthPinLaw", "at", "([BIIIIB)Z"⟩ : MethodName)) hown (mvT hZ (hw _ (List.mem_of_getElem? (i := 10) rfl))) (mvT hZ (hw _ (List.mem_of_getElem? (i := 11) rfl))) (mvT hZ (hw _ (List.mem_of_getElem? (i := 4) rfl))) (mvT hZ (hw _ (List.mem_of_getElem? (i := 12) rfl))) (by decide) (backOf (W := 0) (rm3 l Z a0 hw [] ob1 (2 : Int32) ix (3 : Int32) v fb 3 V k 2 fb T35.heap n0 (Z35) wA35 (by decide) (by decide) (by decide) (by decide) hkI hk4 (by decide) (by decide) hV hVc hV3 rfl) hZ (hw _ (List.mem_of_getElem? (i := 12) rfl)) (hw _ (List.mem_of_getElem? (i := 4) rfl)) (by decide) (by decide)) (g := (mkF m 158 #[.val (.int p0), .val (.int p1), .val (.int p2), .val (.int p3), .val (.int v), .val (.int ix), .val (.int fb), .val (.ref ob1), .val (.int (3 : Int32)), .val (.int (ix + (3 : Int32)))] [(.int fb), (.int v), (.int (3 : Int32)), (.int ix), (.int (2 : Int32)), (.ref ob1)])) rfl (by rw [hml]; rfl) (argsL := [(.ref ob1), (.int (2 : Int32)), (.int ix), (.int (3 : Int32)), (.int v), (.int fb)]) (rest := []) (lenOf pd0_2 rfl) rfl (by show 2 * 0 + _ ≤ _; exact Nat.le_of_eq rfl) (hb hby at_158) (fun _ _ => ⟨rfl, eq37, (by decide : 1 + 0 ≤ _), (by decide : 10 + 0 ≤ _)⟩)
    dsimp only [Pt.U, Pt.locs, Pt.cells, Pt.slots] at X38 l38 y38 z38 st38 hQ38
    obtain rfl : k38 = 1 := y38
    obtain rfl : n38 = 10 := z38
    obtain ⟨rfl, N38q, eq38⟩ := hQ38
    have N38 : Fr n0 L38 := by rw [l38]; exact Fr.app N37 N38q
    clear l38
    refine Runs.back st38 ?_
    show Runs _ _ _ _ T38 (mkF m 161 #[.val (.int p0), .val (.int p1), .val (.int p2), .val (.int p3), .val (.int v), .val (.int ix), .val (.int fb), .val (.ref ob1), .val (.int (3 : Int32)), .val (.int (ix + (3 : Int32)))] [(.int (1 : Int32))])
    refine Runs.back (fun t_ k_ => XS.ifNo X38.here hx rfl (hb hby at_161) rfl ((if0 _ _).trans (feq (show ¬ ((1 : Int32) = (0 : Int32)) from (by decide))).1) k_) ?_
    show Runs _ _ _ _ T38 (mkF m 164 #[.val (.int p0), .val (.int p1), .val (.int p2), .val (.int p3), .val (.int v), .val (.int ix), .val (.int fb), .val (.ref ob1), .val (.int (3 : Int32)), .val (.int (ix + (3 : Int32)))] [])
    refine Runs.back (fun t_ k_ => XS.aload X38.here hx rfl (hb hby at_164) rfl rfl k_) ?_
    show Runs _ _ _ _ T38 (mkF m 166 #[.val (.int p0), .val (.int p1), .val (.int p2), .val (.int p3), .val (.int v), .val (.int ix), .val (.int fb), .val (.ref ob1), .val (.int (3 : Int32)), .val (.int (ix + (3 : Int32)))] [(.ref ob1)])
    refine Runs.back (fun t_ k_ => XS.iconst X38.here hx rfl (hb hby at_166) k_) ?_
    show Runs _ _ _ _ T38 (mkF m 167 #[.val (.int p0), .val (.int p1), .val (.int p2), .val (.int p3), .val (.int v), .val (.int ix), .val (.int fb), .val (.ref ob1), .val (.int (3 : Int32)), .val (.int (ix + (3 : Int32)))] [(.int (3 : Int32)), (.ref ob1)])
    refine Runs.back (fun t_ k_ => XS.iload X38.here hx rfl (hb hby at_167) rfl k_) ?_
    show Runs _ _ _ _ T38 (mkF m 169 #[.val (.int p0), .val (.int p1), .val (.int p2), .val (.int p3), .val (.int v), .val (.int ix), .val (.int fb), .val (.ref ob1), .val (.int (3 : Int32)), .val (.int (ix + (3 : Int32)))] [(.int ix), (.int (3 : Int32)), (.ref ob1)])
    refine Runs.back (fun t_ k_ => XS.iload X38.here hx rfl (hb hby at_169) rfl k_) ?_
    show Runs _ _ _ _ T38 (mkF m 171 #[.val (.int p0), .val (.int p1), .val (.int p2), .val (.int p3), .val (.int v), .val (.int ix), .val (.int fb), .val (.ref ob1), .val (.int (3 : Int32)), .val (.int (ix + (3 : Int32)))] [(.int (3 : Int32)), (.int ix), (.int (3 : Int32)), (.ref ob1)])
    refine Runs.back (fun t_ k_ => XS.iload X38.here hx rfl (hb hby at_171) rfl k_) ?_
    show Runs _ _ _ _ T38 (mkF m 173 #[.val (.int p0), .val (.int p1), .val (.int p2), .val (.int p3), .val (.int v), .val (.int ix), .val (.int fb), .val (.ref ob1), .val (.int (3 : Int32)), .val (.int (ix + (3 : Int32)))] [(.int v), (.int (3 : Int32)), (.int ix), (.int (3 : Int32)), (.ref ob1)])
    refine Runs.back (fun t_ k_ => XS.iload X38.here hx rfl (hb hby at_173) rfl k_) ?_
    show Runs _ _ _ _ T38 (mkF m 175 #[.val (.int p0), .val (.int p1), .val (.int p2), .val (.int p3), .val (.int v), .val (.int ix), .val (.int fb), .val (.ref ob1), .val (.int (3 : Int32)), .val (.int (ix + (3 : Int32)))] [(.int fb), (.int v), (.int (3 : Int32)), (.int ix), (.int (3 : Int32)), (.ref ob1)])
    obtain ⟨_, _, ⟨T39, L39, k39, n39⟩, -, X39, ⟨Lc39, hQ39, l39, y39, z39⟩, st39⟩ := Jvm.LawKit.callS X38 hx (y := (⟨"com/example/strict_distinct/strictdistinct/KeyBytesWriteLengthPinLaw", "at", "([BIIIIB)Z"⟩ : MethodName)) hown (mvT hZ (hw _ (List.mem_of_getElem? (i := 10) rfl))) (mvT hZ (hw _ (List.mem_of_getElem? (i := 11) rfl))) (mvT hZ (hw _ (List.mem_of_getElem? (i := 4) rfl))) (mvT hZ (hw _ (List.mem_of_getElem? (i := 12) rfl))) (by decide) (backOf (W := 0) (rm3 l Z a0 hw [] ob1 (3 : Int32) ix (3 : Int32) v fb 3 V k 3 fb T35.heap n0 (Z35) wA35 (by decide) (by decide) (by decide) (by decide) hkI hk4 (by decide) (by decide) hV hVc hV3 rfl) hZ (hw _ (List.mem_of_getElem? (i := 12) rfl)) (hw _ (List.mem_of_getElem? (i := 4) rfl)) (by decide) (by decide)) (g := (mkF m 175 #[.val (.int p0), .val (.int p1), .val (.int p2), .val (.int p3), .val (.int v), .val (.int ix), .val (.int fb), .val (.ref ob1), .val (.int (3 : Int32)), .val (.int (ix + (3 : Int32)))] [(.int fb), (.int v), (.int (3 : Int32)), (.int ix), (.int (3 : Int32)), (.ref ob1)])) rfl (by rw [hml]; rfl) (argsL := [(.ref ob1), (.int (3 : Int32)), (.int ix), (.int (3 : Int32)), (.int v), (.int fb)]) (rest := []) (lenOf pd0_2 rfl) rfl (by show 2 * 0 + _ ≤ _; exact Nat.le_of_eq rfl) (hb hby at_175) (fun _ _ => ⟨rfl, eq38, (by decide : 1 + 0 ≤ _), (by decide : 10 + 0 ≤ _)⟩)
    dsimp only [Pt.U, Pt.locs, Pt.cells, Pt.slots] at X39 l39 y39 z39 st39 hQ39
    obtain rfl : k39 = 1 := y39
    obtain rfl : n39 = 10 := z39
    obtain ⟨rfl, N39q, eq39⟩ := hQ39
    have N39 : Fr n0 L39 := by rw [l39]; exact Fr.app N38 N39q
    clear l39
    refine Runs.back st39 ?_
    show Runs _ _ _ _ T39 (mkF m 178 #[.val (.int p0), .val (.int p1), .val (.int p2), .val (.int p3), .val (.int v), .val (.int ix), .val (.int fb), .val (.ref ob1), .val (.int (3 : Int32)), .val (.int (ix + (3 : Int32)))] [(.int (1 : Int32))])
    refine Runs.back (fun t_ k_ => XS.ifNo X39.here hx rfl (hb hby at_178) rfl ((if0 _ _).trans (feq (show ¬ ((1 : Int32) = (0 : Int32)) from (by decide))).1) k_) ?_
    show Runs _ _ _ _ T39 (mkF m 181 #[.val (.int p0), .val (.int p1), .val (.int p2), .val (.int p3), .val (.int v), .val (.int ix), .val (.int fb), .val (.ref ob1), .val (.int (3 : Int32)), .val (.int (ix + (3 : Int32)))] [])
    refine Runs.back (fun t_ k_ => XS.aload X39.here hx rfl (hb hby at_181) rfl rfl k_) ?_
    show Runs _ _ _ _ T39 (mkF m 183 #[.val (.int p0), .val (.int p1), .val (.int p2), .val (.int p3), .val (.int v), .val (.int ix), .val (.int fb), .val (.ref ob1), .val (.int (3 : Int32)), .val (.int (ix + (3 : Int32)))] [(.ref ob1)])
    refine Runs.back (fun t_ k_ => XS.iconst X39.here hx rfl (hb hby at_183) k_) ?_
    show Runs _ _ _ _ T39 (mkF m 184 #[.val (.int p0), .val (.int p1), .val (.int p2), .val (.int p3), .val (.int v), .val (.int ix), .val (.int fb), .val (.ref ob1), .val (.int (3 : Int32)), .val (.int (ix + (3 : Int32)))] [(.int (4 : Int32)), (.ref ob1)])
    refine Runs.back (fun t_ k_ => XS.iload X39.here hx rfl (hb hby at_184) rfl k_) ?_
    show Runs _ _ _ _ T39 (mkF m 186 #[.val (.int p0), .val (.int p1), .val (.int p2), .val (.int p3), .val (.int v), .val (.int ix), .val (.int fb), .val (.ref ob1), .val (.int (3 : Int32)), .val (.int (ix + (3 : Int32)))] [(.int ix), (.int (4 : Int32)), (.ref ob1)])
    refine Runs.back (fun t_ k_ => XS.iload X39.here hx rfl (hb hby at_186) rfl k_) ?_
    show Runs _ _ _ _ T39 (mkF m 188 #[.val (.int p0), .val (.int p1), .val (.int p2), .val (.int p3), .val (.int v), .val (.int ix), .val (.int fb), .val (.ref ob1), .val (.int (3 : Int32)), .val (.int (ix + (3 : Int32)))] [(.int (3 : Int32)), (.int ix), (.int (4 : Int32)), (.ref ob1)])
    refine Runs.back (fun t_ k_ => XS.iload X39.here hx rfl (hb hby at_188) rfl k_) ?_
    show Runs _ _ _ _ T39 (mkF m 190 #[.val (.int p0), .val (.int p1), .val (.int p2), .val (.int p3), .val (.int v), .val (.int ix), .val (.int fb), .val (.ref ob1), .val (.int (3 : Int32)), .val (.int (ix + (3 : Int32)))] [(.int v), (.int (3 : Int32)), (.int ix), (.int (4 : Int32)), (.ref ob1)])
    refine Runs.back (fun t_ k_ => XS.iload X39.here hx rfl (hb hby at_190) rfl k_) ?_
    show Runs _ _ _ _ T39 (mkF m 192 #[.val (.int p0), .val (.int p1), .val (.int p2), .val (.int p3), .val (.int v), .val (.int ix), .val (.int fb), .val (.ref ob1), .val (.int (3 : Int32)), .val (.int (ix + (3 : Int32)))] [(.int fb), (.int v), (.int (3 : Int32)), (.int ix), (.int (4 : Int32)), (.ref ob1)])
    obtain ⟨_, _, ⟨T40, L40, k40, n40⟩, -, X40, ⟨Lc40, hQ40, l40, y40, z40⟩, st40⟩ := Jvm.LawKit.callS X39 hx (y := (⟨"com/example/strict_distinct/strictdistinct/KeyBytesWriteLengthPinLaw", "at", "([BIIIIB)Z"⟩ : MethodName)) hown (mvT hZ (hw _ (List.mem_of_getElem? (i := 10) rfl))) (mvT hZ (hw _ (List.mem_of_getElem? (i := 11) rfl))) (mvT hZ (hw _ (List.mem_of_getElem? (i := 4) rfl))) (mvT hZ (hw _ (List.mem_of_getElem? (i := 12) rfl))) (by decide) (backOf (W := 0) (rm3 l Z a0 hw [] ob1 (4 : Int32) ix (3 : Int32) v fb 3 V k 4 fb T35.heap n0 (Z35) wA35 (by decide) (by decide) (by decide) (by decide) hkI hk4 (by decide) (by decide) hV hVc hV3 rfl) hZ (hw _ (List.mem_of_getElem? (i := 12) rfl)) (hw _ (List.mem_of_getElem? (i := 4) rfl)) (by decide) (by decide)) (g := (mkF m 192 #[.val (.int p0), .val (.int p1), .val (.int p2), .val (.int p3), .val (.int v), .val (.int ix), .val (.int fb), .val (.ref ob1), .val (.int (3 : Int32)), .val (.int (ix + (3 : Int32)))] [(.int fb), (.int v), (.int (3 : Int32)), (.int ix), (.int (4 : Int32)), (.ref ob1)])) rfl (by rw [hml]; rfl) (argsL := [(.ref ob1), (.int (4 : Int32)), (.int ix), (.int (3 : Int32)), (.int v), (.int fb)]) (rest := []) (lenOf pd0_2 rfl) rfl (by show 2 * 0 + _ ≤ _; exact Nat.le_of_eq rfl) (hb hby at_192) (fun _ _ => ⟨rfl, eq39, (by decide : 1 + 0 ≤ _), (by decide : 10 + 0 ≤ _)⟩)
    dsimp only [Pt.U, Pt.locs, Pt.cells, Pt.slots] at X40 l40 y40 z40 st40 hQ40
    obtain rfl : k40 = 1 := y40
    obtain rfl : n40 = 10 := z40
    obtain ⟨rfl, N40q, eq40⟩ := hQ40
    have N40 : Fr n0 L40 := by rw [l40]; exact Fr.app N39 N40q
    clear l40
    refine Runs.back st40 ?_
    show Runs _ _ _ _ T40 (mkF m 195 #[.val (.int p0), .val (.int p1), .val (.int p2), .val (.int p3), .val (.int v), .val (.int ix), .val (.int fb), .val (.ref ob1), .val (.int (3 : Int32)), .val (.int (ix + (3 : Int32)))] [(.int (1 : Int32))])
    refine Runs.back (fun t_ k_ => XS.ifNo X40.here hx rfl (hb hby at_195) rfl ((if0 _ _).trans (feq (show ¬ ((1 : Int32) = (0 : Int32)) from (by decide))).1) k_) ?_
    show Runs _ _ _ _ T40 (mkF m 198 #[.val (.int p0), .val (.int p1), .val (.int p2), .val (.int p3), .val (.int v), .val (.int ix), .val (.int fb), .val (.ref ob1), .val (.int (3 : Int32)), .val (.int (ix + (3 : Int32)))] [])
    refine Runs.back (fun t_ k_ => XS.aload X40.here hx rfl (hb hby at_198) rfl rfl k_) ?_
    show Runs _ _ _ _ T40 (mkF m 200 #[.val (.int p0), .val (.int p1), .val (.int p2), .val (.int p3), .val (.int v), .val (.int ix), .val (.int fb), .val (.ref ob1), .val (.int (3 : Int32)), .val (.int (ix + (3 : Int32)))] [(.ref ob1)])
    refine Runs.back (fun t_ k_ => XS.iconst X40.here hx rfl (hb hby at_200) k_) ?_
    show Runs _ _ _ _ T40 (mkF m 201 #[.val (.int p0), .val (.int p1), .val (.int p2), .val (.int p3), .val (.int v), .val (.int ix), .val (.int fb), .val (.ref ob1), .val (.int (3 : Int32)), .val (.int (ix + (3 : Int32)))] [(.int (5 : Int32)), (.ref ob1)])
    refine Runs.back (fun t_ k_ => XS.iload X40.here hx rfl (hb hby at_201) rfl k_) ?_
    show Runs _ _ _ _ T40 (mkF m 203 #[.val (.int p0), .val (.int p1), .val (.int p2), .val (.int p3), .val (.int v), .val (.int ix), .val (.int fb), .val (.ref ob1), .val (.int (3 : Int32)), .val (.int (ix + (3 : Int32)))] [(.int ix), (.int (5 : Int32)), (.ref ob1)])
    refine Runs.back (fun t_ k_ => XS.iload X40.here hx rfl (hb hby at_203) rfl k_) ?_
    show Runs _ _ _ _ T40 (mkF m 205 #[.val (.int p0), .val (.int p1), .val (.int p2), .val (.int p3), .val (.int v), .val (.int ix), .val (.int fb), .val (.ref ob1), .val (.int (3 : Int32)), .val (.int (ix + (3 : Int32)))] [(.int (3 : Int32)), (.int ix), (.int (5 : Int32)), (.ref ob1)])
    refine Runs.back (fun t_ k_ => XS.iload X40.here hx rfl (hb hby at_205) rfl k_) ?_
    show Runs _ _ _ _ T40 (mkF m 207 #[.val (.int p0), .val (.int p1), .val (.int p2), .val (.int p3), .val (.int v), .val (.int ix), .val (.int fb), .val (.ref ob1), .val (.int (3 : Int32)), .val (.int (ix + (3 : Int32)))] [(.int v), (.int (3 : Int32)), (.int ix), (.int (5 : Int32)), (.ref ob1)])
    refine Runs.back (fun t_ k_ => XS.iload X40.here hx rfl (hb hby at_207) rfl k_) ?_
    show Runs _ _ _ _ T40 (mkF m 209 #[.val (.int p0), .val (.int p1), .val (.int p2), .val (.int p3), .val (.int v), .val (.int ix), .val (.int fb), .val (.ref ob1), .val (.int (3 : Int32)), .val (.int (ix + (3 : Int32)))] [(.int fb), (.int v), (.int (3 : Int32)), (.int ix), (.int (5 : Int32)), (.ref ob1)])
    obtain ⟨_, _, ⟨T41, L41, k41, n41⟩, -, X41, ⟨Lc41, hQ41, l41, y41, z41⟩, st41⟩ := Jvm.LawKit.callS X40 hx (y := (⟨"com/example/strict_distinct/strictdistinct/KeyBytesWriteLengthPinLaw", "at", "([BIIIIB)Z"⟩ : MethodName)) hown (mvT hZ (hw _ (List.mem_of_getElem? (i := 10) rfl))) (mvT hZ (hw _ (List.mem_of_getElem? (i := 11) rfl))) (mvT hZ (hw _ (List.mem_of_getElem? (i := 4) rfl))) (mvT hZ (hw _ (List.mem_of_getElem? (i := 12) rfl))) (by decide) (backOf (W := 0) (rm3 l Z a0 hw [] ob1 (5 : Int32) ix (3 : Int32) v fb 3 V k 5 fb T35.heap n0 (Z35) wA35 (by decide) (by decide) (by decide) (by decide) hkI hk4 (by decide) (by decide) hV hVc hV3 rfl) hZ (hw _ (List.mem_of_getElem? (i := 12) rfl)) (hw _ (List.mem_of_getElem? (i := 4) rfl)) (by decide) (by decide)) (g := (mkF m 209 #[.val (.int p0), .val (.int p1), .val (.int p2), .val (.int p3), .val (.int v), .val (.int ix), .val (.int fb), .val (.ref ob1), .val (.int (3 : Int32)), .val (.int (ix + (3 : Int32)))] [(.int fb), (.int v), (.int (3 : Int32)), (.int ix), (.int (5 : Int32)), (.ref ob1)])) rfl (by rw [hml]; rfl) (argsL := [(.ref ob1), (.int (5 : Int32)), (.int ix), (.int (3 : Int32)), (.int v), (.int fb)]) (rest := []) (lenOf pd0_2 rfl) rfl (by show 2 * 0 + _ ≤ _; exact Nat.le_of_eq rfl) (hb hby at_209) (fun _ _ => ⟨rfl, eq40, (by decide : 1 + 0 ≤ _), (by decide : 10 + 0 ≤ _)⟩)
    dsimp only [Pt.U, Pt.locs, Pt.cells, Pt.slots] at X41 l41 y41 z41 st41 hQ41
    obtain rfl : k41 = 1 := y41
    obtain rfl : n41 = 10 := z41
    obtain ⟨rfl, N41q, eq41⟩ := hQ41
    have N41 : Fr n0 L41 := by rw [l41]; exact Fr.app N40 N41q
    clear l41
    refine Runs.back st41 ?_
    show Runs _ _ _ _ T41 (mkF m 212 #[.val (.int p0), .val (.int p1), .val (.int p2), .val (.int p3), .val (.int v), .val (.int ix), .val (.int fb), .val (.ref ob1), .val (.int (3 : Int32)), .val (.int (ix + (3 : Int32)))] [(.int (1 : Int32))])
    refine Runs.back (fun t_ k_ => XS.ifNo X41.here hx rfl (hb hby at_212) rfl ((if0 _ _).trans (feq (show ¬ ((1 : Int32) = (0 : Int32)) from (by decide))).1) k_) ?_
    show Runs _ _ _ _ T41 (mkF m 215 #[.val (.int p0), .val (.int p1), .val (.int p2), .val (.int p3), .val (.int v), .val (.int ix), .val (.int fb), .val (.ref ob1), .val (.int (3 : Int32)), .val (.int (ix + (3 : Int32)))] [])
    refine Runs.back (fun t_ k_ => XS.aload X41.here hx rfl (hb hby at_215) rfl rfl k_) ?_
    show Runs _ _ _ _ T41 (mkF m 217 #[.val (.int p0), .val (.int p1), .val (.int p2), .val (.int p3), .val (.int v), .val (.int ix), .val (.int fb), .val (.ref ob1), .val (.int (3 : Int32)), .val (.int (ix + (3 : Int32)))] [(.ref ob1)])
    refine Runs.back (fun t_ k_ => XS.bipush X41.here hx rfl (hb hby at_217) k_) ?_
    show Runs _ _ _ _ T41 (mkF m 219 #[.val (.int p0), .val (.int p1), .val (.int p2), .val (.int p3), .val (.int v), .val (.int ix), .val (.int fb), .val (.ref ob1), .val (.int (3 : Int32)), .val (.int (ix + (3 : Int32)))] [(.int (6 : Int32)), (.ref ob1)])
    refine Runs.back (fun t_ k_ => XS.iload X41.here hx rfl (hb hby at_219) rfl k_) ?_
    show Runs _ _ _ _ T41 (mkF m 221 #[.val (.int p0), .val (.int p1), .val (.int p2), .val (.int p3), .val (.int v), .val (.int ix), .val (.int fb), .val (.ref ob1), .val (.int (3 : Int32)), .val (.int (ix + (3 : Int32)))] [(.int ix), (.int (6 : Int32)), (.ref ob1)])
    refine Runs.back (fun t_ k_ => XS.iload X41.here hx rfl (hb hby at_221) rfl k_) ?_
    show Runs _ _ _ _ T41 (mkF m 223 #[.val (.int p0), .val (.int p1), .val (.int p2), .val (.int p3), .val (.int v), .val (.int ix), .val (.int fb), .val (.ref ob1), .val (.int (3 : Int32)), .val (.int (ix + (3 : Int32)))] [(.int (3 : Int32)), (.int ix), (.int (6 : Int32)), (.ref ob1)])
    refine Runs.back (fun t_ k_ => XS.iload X41.here hx rfl (hb hby at_223) rfl k_) ?_
    show Runs _ _ _ _ T41 (mkF m 225 #[.val (.int p0), .val (.int p1), .val (.int p2), .val (.int p3), .val (.int v), .val (.int ix), .val (.int fb), .val (.ref ob1), .val (.int (3 : Int32)), .val (.int (ix + (3 : Int32)))] [(.int v), (.int (3 : Int32)), (.int ix), (.int (6 : Int32)), (.ref ob1)])
    refine Runs.back (fun t_ k_ => XS.iload X41.here hx rfl (hb hby at_225) rfl k_) ?_
    show Runs _ _ _ _ T41 (mkF m 227 #[.val (.int p0), .val (.int p1), .val (.int p2), .val (.int p3), .val (.int v), .val (.int ix), .val (.int fb), .val (.ref ob1), .val (.int (3 : Int32)), .val (.int (ix + (3 : Int32)))] [(.int fb), (.int v), (.int (3 : Int32)), (.int ix), (.int (6 : Int32)), (.ref ob1)])
    obtain ⟨_, _, ⟨T42, L42, k42, n42⟩, -, X42, ⟨Lc42, hQ42, l42, y42, z42⟩, st42⟩ := Jvm.LawKit.callS X41 hx (y := (⟨"com/example/strict_distinct/strictdistinct/KeyBytesWriteLengthPinLaw", "at", "([BIIIIB)Z"⟩ : MethodName)) hown (mvT hZ (hw _ (List.mem_of_getElem? (i := 10) rfl))) (mvT hZ (hw _ (List.mem_of_getElem? (i := 11) rfl))) (mvT hZ (hw _ (List.mem_of_getElem? (i := 4) rfl))) (mvT hZ (hw _ (List.mem_of_getElem? (i := 12) rfl))) (by decide) (backOf (W := 0) (rm3 l Z a0 hw [] ob1 (6 : Int32) ix (3 : Int32) v fb 3 V k 6 fb T35.heap n0 (Z35) wA35 (by decide) (by decide) (by decide) (by decide) hkI hk4 (by decide) (by decide) hV hVc hV3 rfl) hZ (hw _ (List.mem_of_getElem? (i := 12) rfl)) (hw _ (List.mem_of_getElem? (i := 4) rfl)) (by decide) (by decide)) (g := (mkF m 227 #[.val (.int p0), .val (.int p1), .val (.int p2), .val (.int p3), .val (.int v), .val (.int ix), .val (.int fb), .val (.ref ob1), .val (.int (3 : Int32)), .val (.int (ix + (3 : Int32)))] [(.int fb), (.int v), (.int (3 : Int32)), (.int ix), (.int (6 : Int32)), (.ref ob1)])) rfl (by rw [hml]; rfl) (argsL := [(.ref ob1), (.int (6 : Int32)), (.int ix), (.int (3 : Int32)), (.int v), (.int fb)]) (rest := []) (lenOf pd0_2 rfl) rfl (by show 2 * 0 + _ ≤ _; exact Nat.le_of_eq rfl) (hb hby at_227) (fun _ _ => ⟨rfl, eq41, (by decide : 1 + 0 ≤ _), (by decide : 10 + 0 ≤ _)⟩)
    dsimp only [Pt.U, Pt.locs, Pt.cells, Pt.slots] at X42 l42 y42 z42 st42 hQ42
    obtain rfl : k42 = 1 := y42
    obtain rfl : n42 = 10 := z42
    obtain ⟨rfl, N42q, eq42⟩ := hQ42
    have N42 : Fr n0 L42 := by rw [l42]; exact Fr.app N41 N42q
    clear l42
    refine Runs.back st42 ?_
    show Runs _ _ _ _ T42 (mkF m 230 #[.val (.int p0), .val (.int p1), .val (.int p2), .val (.int p3), .val (.int v), .val (.int ix), .val (.int fb), .val (.ref ob1), .val (.int (3 : Int32)), .val (.int (ix + (3 : Int32)))] [(.int (1 : Int32))])
    refine Runs.back (fun t_ k_ => XS.ifNo X42.here hx rfl (hb hby at_230) rfl ((if0 _ _).trans (feq (show ¬ ((1 : Int32) = (0 : Int32)) from (by decide))).1) k_) ?_
    show Runs _ _ _ _ T42 (mkF m 233 #[.val (.int p0), .val (.int p1), .val (.int p2), .val (.int p3), .val (.int v), .val (.int ix), .val (.int fb), .val (.ref ob1), .val (.int (3 : Int32)), .val (.int (ix + (3 : Int32)))] [])
    refine Runs.back (fun t_ k_ => XS.aload X42.here hx rfl (hb hby at_233) rfl rfl k_) ?_
    show Runs _ _ _ _ T42 (mkF m 235 #[.val (.int p0), .val (.int p1), .val (.int p2), .val (.int p3), .val (.int v), .val (.int ix), .val (.int fb), .val (.ref ob1), .val (.int (3 : Int32)), .val (.int (ix + (3 : Int32)))] [(.ref ob1)])
    refine Runs.back (fun t_ k_ => XS.bipush X42.here hx rfl (hb hby at_235) k_) ?_
    show Runs _ _ _ _ T42 (mkF m 237 #[.val (.int p0), .val (.int p1), .val (.int p2), .val (.int p3), .val (.int v), .val (.int ix), .val (.int fb), .val (.ref ob1), .val (.int (3 : Int32)), .val (.int (ix + (3 : Int32)))] [(.int (7 : Int32)), (.ref ob1)])
    refine Runs.back (fun t_ k_ => XS.iload X42.here hx rfl (hb hby at_237) rfl k_) ?_
    show Runs _ _ _ _ T42 (mkF m 239 #[.val (.int p0), .val (.int p1), .val (.int p2), .val (.int p3), .val (.int v), .val (.int ix), .val (.int fb), .val (.ref ob1), .val (.int (3 : Int32)), .val (.int (ix + (3 : Int32)))] [(.int ix), (.int (7 : Int32)), (.ref ob1)])
    refine Runs.back (fun t_ k_ => XS.iload X42.here hx rfl (hb hby at_239) rfl k_) ?_
    show Runs _ _ _ _ T42 (mkF m 241 #[.val (.int p0), .val (.int p1), .val (.int p2), .val (.int p3), .val (.int v), .val (.int ix), .val (.int fb), .val (.ref ob1), .val (.int (3 : Int32)), .val (.int (ix + (3 : Int32)))] [(.int (3 : Int32)), (.int ix), (.int (7 : Int32)), (.ref ob1)])
    refine Runs.back (fun t_ k_ => XS.iload X42.here hx rfl (hb hby at_241) rfl k_) ?_
    show Runs _ _ _ _ T42 (mkF m 243 #[.val (.int p0), .val (.int p1), .val (.int p2), .val (.int p3), .val (.int v), .val (.int ix), .val (.int fb), .val (.ref ob1), .val (.int (3 : Int32)), .val (.int (ix + (3 : Int32)))] [(.int v), (.int (3 : Int32)), (.int ix), (.int (7 : Int32)), (.ref ob1)])
    refine Runs.back (fun t_ k_ => XS.iload X42.here hx rfl (hb hby at_243) rfl k_) ?_
    show Runs _ _ _ _ T42 (mkF m 245 #[.val (.int p0), .val (.int p1), .val (.int p2), .val (.int p3), .val (.int v), .val (.int ix), .val (.int fb), .val (.ref ob1), .val (.int (3 : Int32)), .val (.int (ix + (3 : Int32)))] [(.int fb), (.int v), (.int (3 : Int32)), (.int ix), (.int (7 : Int32)), (.ref ob1)])
    obtain ⟨_, _, ⟨T43, L43, k43, n43⟩, -, X43, ⟨Lc43, hQ43, l43, y43, z43⟩, st43⟩ := Jvm.LawKit.callS X42 hx (y := (⟨"com/example/strict_distinct/strictdistinct/KeyBytesWriteLengthPinLaw", "at", "([BIIIIB)Z"⟩ : MethodName)) hown (mvT hZ (hw _ (List.mem_of_getElem? (i := 10) rfl))) (mvT hZ (hw _ (List.mem_of_getElem? (i := 11) rfl))) (mvT hZ (hw _ (List.mem_of_getElem? (i := 4) rfl))) (mvT hZ (hw _ (List.mem_of_getElem? (i := 12) rfl))) (by decide) (backOf (W := 0) (rm3 l Z a0 hw [] ob1 (7 : Int32) ix (3 : Int32) v fb 3 V k 7 fb T35.heap n0 (Z35) wA35 (by decide) (by decide) (by decide) (by decide) hkI hk4 (by decide) (by decide) hV hVc hV3 rfl) hZ (hw _ (List.mem_of_getElem? (i := 12) rfl)) (hw _ (List.mem_of_getElem? (i := 4) rfl)) (by decide) (by decide)) (g := (mkF m 245 #[.val (.int p0), .val (.int p1), .val (.int p2), .val (.int p3), .val (.int v), .val (.int ix), .val (.int fb), .val (.ref ob1), .val (.int (3 : Int32)), .val (.int (ix + (3 : Int32)))] [(.int fb), (.int v), (.int (3 : Int32)), (.int ix), (.int (7 : Int32)), (.ref ob1)])) rfl (by rw [hml]; rfl) (argsL := [(.ref ob1), (.int (7 : Int32)), (.int ix), (.int (3 : Int32)), (.int v), (.int fb)]) (rest := []) (lenOf pd0_2 rfl) rfl (by show 2 * 0 + _ ≤ _; exact Nat.le_of_eq rfl) (hb hby at_245) (fun _ _ => ⟨rfl, eq42, (by decide : 1 + 0 ≤ _), (by decide : 10 + 0 ≤ _)⟩)
    dsimp only [Pt.U, Pt.locs, Pt.cells, Pt.slots] at X43 l43 y43 z43 st43 hQ43
    obtain rfl : k43 = 1 := y43
    obtain rfl : n43 = 10 := z43
    obtain ⟨rfl, N43q, eq43⟩ := hQ43
    have N43 : Fr n0 L43 := by rw [l43]; exact Fr.app N42 N43q
    clear l43
    refine Runs.back st43 ?_
    show Runs _ _ _ _ T43 (mkF m 248 #[.val (.int p0), .val (.int p1), .val (.int p2), .val (.int p3), .val (.int v), .val (.int ix), .val (.int fb), .val (.ref ob1), .val (.int (3 : Int32)), .val (.int (ix + (3 : Int32)))] [(.int (1 : Int32))])
    refine Runs.back (fun t_ k_ => XS.ifNo X43.here hx rfl (hb hby at_248) rfl ((if0 _ _).trans (feq (show ¬ ((1 : Int32) = (0 : Int32)) from (by decide))).1) k_) ?_
    show Runs _ _ _ _ T43 (mkF m 251 #[.val (.int p0), .val (.int p1), .val (.int p2), .val (.int p3), .val (.int v), .val (.int ix), .val (.int fb), .val (.ref ob1), .val (.int (3 : Int32)), .val (.int (ix + (3 : Int32)))] [])
    refine Runs.back (fun t_ k_ => XS.aload X43.here hx rfl (hb hby at_251) rfl rfl k_) ?_
    show Runs _ _ _ _ T43 (mkF m 253 #[.val (.int p0), .val (.int p1), .val (.int p2), .val (.int p3), .val (.int v), .val (.int ix), .val (.int fb), .val (.ref ob1), .val (.int (3 : Int32)), .val (.int (ix + (3 : Int32)))] [(.ref ob1)])
    refine Runs.back (fun t_ k_ => XS.bipush X43.here hx rfl (hb hby at_253) k_) ?_
    show Runs _ _ _ _ T43 (mkF m 255 #[.val (.int p0), .val (.int p1), .val (.int p2), .val (.int p3), .val (.int v), .val (.int ix), .val (.int fb), .val (.ref ob1), .val (.int (3 : Int32)), .val (.int (ix + (3 : Int32)))] [(.int (8 : Int32)), (.ref ob1)])
    refine Runs.back (fun t_ k_ => XS.iload X43.here hx rfl (hb hby at_255) rfl k_) ?_
    show Runs _ _ _ _ T43 (mkF m 257 #[.val (.int p0), .val (.int p1), .val (.int p2), .val (.int p3), .val (.int v), .val (.int ix), .val (.int fb), .val (.ref ob1), .val (.int (3 : Int32)), .val (.int (ix + (3 : Int32)))] [(.int ix), (.int (8 : Int32)), (.ref ob1)])
    refine Runs.back (fun t_ k_ => XS.iload X43.here hx rfl (hb hby at_257) rfl k_) ?_
    show Runs _ _ _ _ T43 (mkF m 259 #[.val (.int p0), .val (.int p1), .val (.int p2), .val (.int p3), .val (.int v), .val (.int ix), .val (.int fb), .val (.ref ob1), .val (.int (3 : Int32)), .val (.int (ix + (3 : Int32)))] [(.int (3 : Int32)), (.int ix), (.int (8 : Int32)), (.ref ob1)])
    refine Runs.back (fun t_ k_ => XS.iload X43.here hx rfl (hb hby at_259) rfl k_) ?_
    show Runs _ _ _ _ T43 (mkF m 261 #[.val (.int p0), .val (.int p1), .val (.int p2), .val (.int p3), .val (.int v), .val (.int ix), .val (.int fb), .val (.ref ob1), .val (.int (3 : Int32)), .val (.int (ix + (3 : Int32)))] [(.int v), (.int (3 : Int32)), (.int ix), (.int (8 : Int32)), (.ref ob1)])
    refine Runs.back (fun t_ k_ => XS.iload X43.here hx rfl (hb hby at_261) rfl k_) ?_
    show Runs _ _ _ _ T43 (mkF m 263 #[.val (.int p0), .val (.int p1), .val (.int p2), .val (.int p3), .val (.int v), .val (.int ix), .val (.int fb), .val (.ref ob1), .val (.int (3 : Int32)), .val (.int (ix + (3 : Int32)))] [(.int fb), (.int v), (.int (3 : Int32)), (.int ix), (.int (8 : Int32)), (.ref ob1)])
    obtain ⟨_, _, ⟨T44, L44, k44, n44⟩, -, X44, ⟨Lc44, hQ44, l44, y44, z44⟩, st44⟩ := Jvm.LawKit.callS X43 hx (y := (⟨"com/example/strict_distinct/strictdistinct/KeyBytesWriteLengthPinLaw", "at", "([BIIIIB)Z"⟩ : MethodName)) hown (mvT hZ (hw _ (List.mem_of_getElem? (i := 10) rfl))) (mvT hZ (hw _ (List.mem_of_getElem? (i := 11) rfl))) (mvT hZ (hw _ (List.mem_of_getElem? (i := 4) rfl))) (mvT hZ (hw _ (List.mem_of_getElem? (i := 12) rfl))) (by decide) (backOf (W := 0) (rm3 l Z a0 hw [] ob1 (8 : Int32) ix (3 : Int32) v fb 3 V k 8 fb T35.heap n0 (Z35) wA35 (by decide) (by decide) (by decide) (by decide) hkI hk4 (by decide) (by decide) hV hVc hV3 rfl) hZ (hw _ (List.mem_of_getElem? (i := 12) rfl)) (hw _ (List.mem_of_getElem? (i := 4) rfl)) (by decide) (by decide)) (g := (mkF m 263 #[.val (.int p0), .val (.int p1), .val (.int p2), .val (.int p3), .val (.int v), .val (.int ix), .val (.int fb), .val (.ref ob1), .val (.int (3 : Int32)), .val (.int (ix + (3 : Int32)))] [(.int fb), (.int v), (.int (3 : Int32)), (.int ix), (.int (8 : Int32)), (.ref ob1)])) rfl (by rw [hml]; rfl) (argsL := [(.ref ob1), (.int (8 : Int32)), (.int ix), (.int (3 : Int32)), (.int v), (.int fb)]) (rest := []) (lenOf pd0_2 rfl) rfl (by show 2 * 0 + _ ≤ _; exact Nat.le_of_eq rfl) (hb hby at_263) (fun _ _ => ⟨rfl, eq43, (by decide : 1 + 0 ≤ _), (by decide : 10 + 0 ≤ _)⟩)
    dsimp only [Pt.U, Pt.locs, Pt.cells, Pt.slots] at X44 l44 y44 z44 st44 hQ44
    obtain rfl : k44 = 1 := y44
    obtain rfl : n44 = 10 := z44
    obtain ⟨rfl, N44q, eq44⟩ := hQ44
    have N44 : Fr n0 L44 := by rw [l44]; exact Fr.app N43 N44q
    clear l44
    refine Runs.back st44 ?_
    show Runs _ _ _ _ T44 (mkF m 266 #[.val (.int p0), .val (.int p1), .val (.int p2), .val (.int p3), .val (.int v), .val (.int ix), .val (.int fb), .val (.ref ob1), .val (.int (3 : Int32)), .val (.int (ix + (3 : Int32)))] [(.int (1 : Int32))])
    refine Runs.back (fun t_ k_ => XS.ifNo X44.here hx rfl (hb hby at_266) rfl ((if0 _ _).trans (feq (show ¬ ((1 : Int32) = (0 : Int32)) from (by decide))).1) k_) ?_
    show Runs _ _ _ _ T44 (mkF m 269 #[.val (.int p0), .val (.int p1), .val (.int p2), .val (.int p3), .val (.int v), .val (.int ix), .val (.int fb), .val (.ref ob1), .val (.int (3 : Int32)), .val (.int (ix + (3 : Int32)))] [])
    refine Runs.back (fun t_ k_ => XS.aload X44.here hx rfl (hb hby at_269) rfl rfl k_) ?_
    show Runs _ _ _ _ T44 (mkF m 271 #[.val (.int p0), .val (.int p1), .val (.int p2), .val (.int p3), .val (.int v), .val (.int ix), .val (.int fb), .val (.ref ob1), .val (.int (3 : Int32)), .val (.int (ix + (3 : Int32)))] [(.ref ob1)])
    refine Runs.back (fun t_ k_ => XS.bipush X44.here hx rfl (hb hby at_271) k_) ?_
    show Runs _ _ _ _ T44 (mkF m 273 #[.val (.int p0), .val (.int p1), .val (.int p2), .val (.int p3), .val (.int v), .val (.int ix), .val (.int fb), .val (.ref ob1), .val (.int (3 : Int32)), .val (.int (ix + (3 : Int32)))] [(.int (9 : Int32)), (.ref ob1)])
    refine Runs.back (fun t_ k_ => XS.iload X44.here hx rfl (hb hby at_273) rfl k_) ?_
    show Runs _ _ _ _ T44 (mkF m 275 #[.val (.int p0), .val (.int p1), .val (.int p2), .val (.int p3), .val (.int v), .val (.int ix), .val (.int fb), .val (.ref ob1), .val (.int (3 : Int32)), .val (.int (ix + (3 : Int32)))] [(.int ix), (.int (9 : Int32)), (.ref ob1)])
    refine Runs.back (fun t_ k_ => XS.iload X44.here hx rfl (hb hby at_275) rfl k_) ?_
    show Runs _ _ _ _ T44 (mkF m 277 #[.val (.int p0), .val (.int p1), .val (.int p2), .val (.int p3), .val (.int v), .val (.int ix), .val (.int fb), .val (.ref ob1), .val (.int (3 : Int32)), .val (.int (ix + (3 : Int32)))] [(.int (3 : Int32)), (.int ix), (.int (9 : Int32)), (.ref ob1)])
    refine Runs.back (fun t_ k_ => XS.iload X44.here hx rfl (hb hby at_277) rfl k_) ?_
    show Runs _ _ _ _ T44 (mkF m 279 #[.val (.int p0), .val (.int p1), .val (.int p2), .val (.int p3), .val (.int v), .val (.int ix), .val (.int fb), .val (.ref ob1), .val (.int (3 : Int32)), .val (.int (ix + (3 : Int32)))] [(.int v), (.int (3 : Int32)), (.int ix), (.int (9 : Int32)), (.ref ob1)])
    refine Runs.back (fun t_ k_ => XS.iload X44.here hx rfl (hb hby at_279) rfl k_) ?_
    show Runs _ _ _ _ T44 (mkF m 281 #[.val (.int p0), .val (.int p1), .val (.int p2), .val (.int p3), .val (.int v), .val (.int ix), .val (.int fb), .val (.ref ob1), .val (.int (3 : Int32)), .val (.int (ix + (3 : Int32)))] [(.int fb), (.int v), (.int (3 : Int32)), (.int ix), (.int (9 : Int32)), (.ref ob1)])
    obtain ⟨_, _, ⟨T45, L45, k45, n45⟩, -, X45, ⟨Lc45, hQ45, l45, y45, z45⟩, st45⟩ := Jvm.LawKit.callS X44 hx (y := (⟨"com/example/strict_distinct/strictdistinct/KeyBytesWriteLengthPinLaw", "at", "([BIIIIB)Z"⟩ : MethodName)) hown (mvT hZ (hw _ (List.mem_of_getElem? (i := 10) rfl))) (mvT hZ (hw _ (List.mem_of_getElem? (i := 11) rfl))) (mvT hZ (hw _ (List.mem_of_getElem? (i := 4) rfl))) (mvT hZ (hw _ (List.mem_of_getElem? (i := 12) rfl))) (by decide) (backOf (W := 0) (rm3 l Z a0 hw [] ob1 (9 : Int32) ix (3 : Int32) v fb 3 V k 9 fb T35.heap n0 (Z35) wA35 (by decide) (by decide) (by decide) (by decide) hkI hk4 (by decide) (by decide) hV hVc hV3 rfl) hZ (hw _ (List.mem_of_getElem? (i := 12) rfl)) (hw _ (List.mem_of_getElem? (i := 4) rfl)) (by decide) (by decide)) (g := (mkF m 281 #[.val (.int p0), .val (.int p1), .val (.int p2), .val (.int p3), .val (.int v), .val (.int ix), .val (.int fb), .val (.ref ob1), .val (.int (3 : Int32)), .val (.int (ix + (3 : Int32)))] [(.int fb), (.int v), (.int (3 : Int32)), (.int ix), (.int (9 : Int32)), (.ref ob1)])) rfl (by rw [hml]; rfl) (argsL := [(.ref ob1), (.int (9 : Int32)), (.int ix), (.int (3 : Int32)), (.int v), (.int fb)]) (rest := []) (lenOf pd0_2 rfl) rfl (by show 2 * 0 + _ ≤ _; exact Nat.le_of_eq rfl) (hb hby at_281) (fun _ _ => ⟨rfl, eq44, (by decide : 1 + 0 ≤ _), (by decide : 10 + 0 ≤ _)⟩)
    dsimp only [Pt.U, Pt.locs, Pt.cells, Pt.slots] at X45 l45 y45 z45 st45 hQ45
    obtain rfl : k45 = 1 := y45
    obtain rfl : n45 = 10 := z45
    obtain ⟨rfl, N45q, eq45⟩ := hQ45
    have N45 : Fr n0 L45 := by rw [l45]; exact Fr.app N44 N45q
    clear l45
    refine Runs.back st45 ?_
    show Runs _ _ _ _ T45 (mkF m 284 #[.val (.int p0), .val (.int p1), .val (.int p2), .val (.int p3), .val (.int v), .val (.int ix), .val (.int fb), .val (.ref ob1), .val (.int (3 : Int32)), .val (.int (ix + (3 : Int32)))] [(.int (1 : Int32))])
    refine Runs.back (fun t_ k_ => XS.ifNo X45.here hx rfl (hb hby at_284) rfl ((if0 _ _).trans (feq (show ¬ ((1 : Int32) = (0 : Int32)) from (by decide))).1) k_) ?_
    show Runs _ _ _ _ T45 (mkF m 287 #[.val (.int p0), .val (.int p1), .val (.int p2), .val (.int p3), .val (.int v), .val (.int ix), .val (.int fb), .val (.ref ob1), .val (.int (3 : Int32)), .val (.int (ix + (3 : Int32)))] [])
    refine Runs.back (fun t_ k_ => XS.iconst X45.here hx rfl (hb hby at_287) k_) ?_
    show Runs _ _ _ _ T45 (mkF m 288 #[.val (.int p0), .val (.int p1), .val (.int p2), .val (.int p3), .val (.int v), .val (.int ix), .val (.int fb), .val (.ref ob1), .val (.int (3 : Int32)), .val (.int (ix + (3 : Int32)))] [(.int (1 : Int32))])
    refine Runs.back (fun t_ k_ => XS.goto X45.here hx rfl (pc0 := 288) (pc' := 292) rfl (hb hby at_288) (by decide) (by decide) k_) ?_
    show Runs _ _ _ _ T45 (mkF m 292 #[.val (.int p0), .val (.int p1), .val (.int p2), .val (.int p3), .val (.int v), .val (.int ix), .val (.int fb), .val (.ref ob1), .val (.int (3 : Int32)), .val (.int (ix + (3 : Int32)))] [(.int (1 : Int32))])
    obtain ⟨fs, hr, hrun, hended, hW, hsame⟩ := X45.leave (v := some (.int (1 : Int32))) (fun h => by rw [Bd.returns] at h; cases h)
    exact ⟨_, _, (retN X45 hx (t := .boolean) Bd.returns (by simp) (hb hby at_292) hr), hrun, hended, _, _, rfl, ⟨rfl, N45⟩, ⟨_, rfl⟩, hW, hsame.mono (by decide) (by decide)⟩
  · rw [hz]
    have hVa : 2097152 ≤ V := by omega
    have hVb : V < 268435456 := by omega
    have hVc : V < 128 ^ 4 := by simpa using hVb
    show Runs _ _ _ _ T12 (mkF m 90 #[.val (.int p0), .val (.int p1), .val (.int p2), .val (.int p3), .val (.int v), .val (.int ix), .val (.int fb), .val (.ref ob1), .val (.int (4 : Int32)), .unset] [])
    refine Runs.back (fun t_ k_ => XS.aload X12.here hx rfl (hb hby at_90) rfl rfl k_) ?_
    show Runs _ _ _ _ T12 (mkF m 92 #[.val (.int p0), .val (.int p1), .val (.int p2), .val (.int p3), .val (.int v), .val (.int ix), .val (.int fb), .val (.ref ob1), .val (.int (4 : Int32)), .unset] [(.ref ob1)])
    refine Runs.back (fun t_ k_ => XS.iload X12.here hx rfl (hb hby at_92) rfl k_) ?_
    show Runs _ _ _ _ T12 (mkF m 94 #[.val (.int p0), .val (.int p1), .val (.int p2), .val (.int p3), .val (.int v), .val (.int ix), .val (.int fb), .val (.ref ob1), .val (.int (4 : Int32)), .unset] [(.int ix), (.ref ob1)])
    refine Runs.back (fun t_ k_ => XS.iload X12.here hx rfl (hb hby at_94) rfl k_) ?_
    show Runs _ _ _ _ T12 (mkF m 96 #[.val (.int p0), .val (.int p1), .val (.int p2), .val (.int p3), .val (.int v), .val (.int ix), .val (.int fb), .val (.ref ob1), .val (.int (4 : Int32)), .unset] [(.int v), (.int ix), (.ref ob1)])
    obtain ⟨_, _, ⟨T46, L46, k46, n46⟩, -, X46, ⟨Lc46, hQ46, l46, y46, z46⟩, st46⟩ := Jvm.LawKit.callS X12 hx (y := (⟨"com/example/strict_distinct/strictdistinct/KeyBytes", "writeLength", "([BII)I"⟩ : MethodName)) hown (mvT hZ (hw _ (List.mem_of_getElem? (i := 6) rfl))) (mvT hZ (hw _ (List.mem_of_getElem? (i := 7) rfl))) (mvT hZ (hw _ (List.mem_of_getElem? (i := 8) rfl))) (mvT hZ (hw _ (List.mem_of_getElem? (i := 9) rfl))) (by decide) (backOf (W := 0) (rm2n4 l Z a0 hw [] ob1 ix v V k fb h11 n0 (Z11) V83 g_ob1 hk hixn hk4 hV hVa hVb hV3) hZ (hw _ (List.mem_of_getElem? (i := 9) rfl)) (hw _ (List.mem_of_getElem? (i := 8) rfl)) (by decide) (by decide)) (g := (mkF m 96 #[.val (.int p0), .val (.int p1), .val (.int p2), .val (.int p3), .val (.int v), .val (.int ix), .val (.int fb), .val (.ref ob1), .val (.int (4 : Int32)), .unset] [(.int v), (.int ix), (.ref ob1)])) rfl (by rw [hml]; rfl) (argsL := [(.ref ob1), (.int ix), (.int v)]) (rest := []) (lenOf pd0_1 rfl) rfl (by show 2 * 0 + _ ≤ _; exact Nat.le_of_eq rfl) (hb hby at_96) (fun _ _ => ⟨rfl, eq12, (by decide : 1 + 0 ≤ _), (by decide : 10 + 0 ≤ _)⟩)
    dsimp only [Pt.U, Pt.locs, Pt.cells, Pt.slots] at X46 l46 y46 z46 st46 hQ46
    obtain rfl : k46 = 1 := y46
    obtain rfl : n46 = 10 := z46
    obtain ⟨rfl, N46q, K46, wA46⟩ := hQ46
    have N46 : Fr n0 L46 := by rw [l46]; exact Fr.app N12 N46q
    clear l46
    have Z46 : n0 ≤ T46.heap.size := Nat.le_trans (Z11) K46.1
    refine Runs.back st46 ?_
    show Runs _ _ _ _ T46 (mkF m 99 #[.val (.int p0), .val (.int p1), .val (.int p2), .val (.int p3), .val (.int v), .val (.int ix), .val (.int fb), .val (.ref ob1), .val (.int (4 : Int32)), .unset] [(.int (ix + (4 : Int32)))])
    refine Runs.back (fun t_ k_ => XS.istore X46.here hx rfl (hb hby at_99) rfl (l' := #[.val (.int p0), .val (.int p1), .val (.int p2), .val (.int p3), .val (.int v), .val (.int ix), .val (.int fb), .val (.ref ob1), .val (.int (4 : Int32)), .val (.int (ix + (4 : Int32)))]) rfl k_) ?_
    show Runs _ _ _ _ T46 (mkF m 101 #[.val (.int p0), .val (.int p1), .val (.int p2), .val (.int p3), .val (.int v), .val (.int ix), .val (.int fb), .val (.ref ob1), .val (.int (4 : Int32)), .val (.int (ix + (4 : Int32)))] [])
    refine Runs.back (fun t_ k_ => XS.iload X46.here hx rfl (hb hby at_101) rfl k_) ?_
    show Runs _ _ _ _ T46 (mkF m 103 #[.val (.int p0), .val (.int p1), .val (.int p2), .val (.int p3), .val (.int v), .val (.int ix), .val (.int fb), .val (.ref ob1), .val (.int (4 : Int32)), .val (.int (ix + (4 : Int32)))] [(.int (ix + (4 : Int32)))])
    refine Runs.back (fun t_ k_ => XS.iload X46.here hx rfl (hb hby at_103) rfl k_) ?_
    show Runs _ _ _ _ T46 (mkF m 105 #[.val (.int p0), .val (.int p1), .val (.int p2), .val (.int p3), .val (.int v), .val (.int ix), .val (.int fb), .val (.ref ob1), .val (.int (4 : Int32)), .val (.int (ix + (4 : Int32)))] [(.int ix), (.int (ix + (4 : Int32)))])
    refine Runs.back (fun t_ k_ => XS.iload X46.here hx rfl (hb hby at_105) rfl k_) ?_
    show Runs _ _ _ _ T46 (mkF m 107 #[.val (.int p0), .val (.int p1), .val (.int p2), .val (.int p3), .val (.int v), .val (.int ix), .val (.int fb), .val (.ref ob1), .val (.int (4 : Int32)), .val (.int (ix + (4 : Int32)))] [(.int (4 : Int32)), (.int ix), (.int (ix + (4 : Int32)))])
    refine Runs.back (fun t_ k_ => XS.iadd X46.here hx rfl (hb hby at_107) rfl k_) ?_
    show Runs _ _ _ _ T46 (mkF m 108 #[.val (.int p0), .val (.int p1), .val (.int p2), .val (.int p3), .val (.int v), .val (.int ix), .val (.int fb), .val (.ref ob1), .val (.int (4 : Int32)), .val (.int (ix + (4 : Int32)))] [(.int (ix + (4 : Int32))), (.int (ix + (4 : Int32)))])
    refine Runs.back (fun t_ k_ => XS.icmpYes X46.here hx rfl (pc0 := 108) (pc' := 113) rfl (hb hby at_108) rfl (teq (show (ix + (4 : Int32)) = (ix + (4 : Int32)) from rfl)).1 (by decide) (by decide) k_) ?_
    show Runs _ _ _ _ T46 (mkF m 113 #[.val (.int p0), .val (.int p1), .val (.int p2), .val (.int p3), .val (.int v), .val (.int ix), .val (.int fb), .val (.ref ob1), .val (.int (4 : Int32)), .val (.int (ix + (4 : Int32)))] [])
    refine Runs.back (fun t_ k_ => XS.aload X46.here hx rfl (hb hby at_113) rfl rfl k_) ?_
    show Runs _ _ _ _ T46 (mkF m 115 #[.val (.int p0), .val (.int p1), .val (.int p2), .val (.int p3), .val (.int v), .val (.int ix), .val (.int fb), .val (.ref ob1), .val (.int (4 : Int32)), .val (.int (ix + (4 : Int32)))] [(.ref ob1)])
    refine Runs.back (fun t_ k_ => XS.iconst X46.here hx rfl (hb hby at_115) k_) ?_
    show Runs _ _ _ _ T46 (mkF m 116 #[.val (.int p0), .val (.int p1), .val (.int p2), .val (.int p3), .val (.int v), .val (.int ix), .val (.int fb), .val (.ref ob1), .val (.int (4 : Int32)), .val (.int (ix + (4 : Int32)))] [(.int (0 : Int32)), (.ref ob1)])
    refine Runs.back (fun t_ k_ => XS.iload X46.here hx rfl (hb hby at_116) rfl k_) ?_
    show Runs _ _ _ _ T46 (mkF m 118 #[.val (.int p0), .val (.int p1), .val (.int p2), .val (.int p3), .val (.int v), .val (.int ix), .val (.int fb), .val (.ref ob1), .val (.int (4 : Int32)), .val (.int (ix + (4 : Int32)))] [(.int ix), (.int (0 : Int32)), (.ref ob1)])
    refine Runs.back (fun t_ k_ => XS.iload X46.here hx rfl (hb hby at_118) rfl k_) ?_
    show Runs _ _ _ _ T46 (mkF m 120 #[.val (.int p0), .val (.int p1), .val (.int p2), .val (.int p3), .val (.int v), .val (.int ix), .val (.int fb), .val (.ref ob1), .val (.int (4 : Int32)), .val (.int (ix + (4 : Int32)))] [(.int (4 : Int32)), (.int ix), (.int (0 : Int32)), (.ref ob1)])
    refine Runs.back (fun t_ k_ => XS.iload X46.here hx rfl (hb hby at_120) rfl k_) ?_
    show Runs _ _ _ _ T46 (mkF m 122 #[.val (.int p0), .val (.int p1), .val (.int p2), .val (.int p3), .val (.int v), .val (.int ix), .val (.int fb), .val (.ref ob1), .val (.int (4 : Int32)), .val (.int (ix + (4 : Int32)))] [(.int v), (.int (4 : Int32)), (.int ix), (.int (0 : Int32)), (.ref ob1)])
    refine Runs.back (fun t_ k_ => XS.iload X46.here hx rfl (hb hby at_122) rfl k_) ?_
    show Runs _ _ _ _ T46 (mkF m 124 #[.val (.int p0), .val (.int p1), .val (.int p2), .val (.int p3), .val (.int v), .val (.int ix), .val (.int fb), .val (.ref ob1), .val (.int (4 : Int32)), .val (.int (ix + (4 : Int32)))] [(.int fb), (.int v), (.int (4 : Int32)), (.int ix), (.int (0 : Int32)), (.ref ob1)])
    obtain ⟨_, _, ⟨T47, L47, k47, n47⟩, -, X47, ⟨Lc47, hQ47, l47, y47, z47⟩, st47⟩ := Jvm.LawKit.callS X46 hx (y := (⟨"com/example/strict_distinct/strictdistinct/KeyBytesWriteLengthPinLaw", "at", "([BIIIIB)Z"⟩ : MethodName)) hown (mvT hZ (hw _ (List.mem_of_getElem? (i := 10) rfl))) (mvT hZ (hw _ (List.mem_of_getElem? (i := 11) rfl))) (mvT hZ (hw _ (List.mem_of_getElem? (i := 4) rfl))) (mvT hZ (hw _ (List.mem_of_getElem? (i := 12) rfl))) (by decide) (backOf (W := 0) (rm3 l Z a0 hw [] ob1 (0 : Int32) ix (4 : Int32) v fb 4 V k 0 fb T46.heap n0 (Z46) wA46 (by decide) (by decide) (by decide) (by decide) hkI hk4 (by decide) (by decide) hV hVc hV3 rfl) hZ (hw _ (List.mem_of_getElem? (i := 12) rfl)) (hw _ (List.mem_of_getElem? (i := 4) rfl)) (by decide) (by decide)) (g := (mkF m 124 #[.val (.int p0), .val (.int p1), .val (.int p2), .val (.int p3), .val (.int v), .val (.int ix), .val (.int fb), .val (.ref ob1), .val (.int (4 : Int32)), .val (.int (ix + (4 : Int32)))] [(.int fb), (.int v), (.int (4 : Int32)), (.int ix), (.int (0 : Int32)), (.ref ob1)])) rfl (by rw [hml]; rfl) (argsL := [(.ref ob1), (.int (0 : Int32)), (.int ix), (.int (4 : Int32)), (.int v), (.int fb)]) (rest := []) (lenOf pd0_2 rfl) rfl (by show 2 * 0 + _ ≤ _; exact Nat.le_of_eq rfl) (hb hby at_124) (fun _ _ => ⟨rfl, rfl, (by decide : 1 + 0 ≤ _), (by decide : 10 + 0 ≤ _)⟩)
    dsimp only [Pt.U, Pt.locs, Pt.cells, Pt.slots] at X47 l47 y47 z47 st47 hQ47
    obtain rfl : k47 = 1 := y47
    obtain rfl : n47 = 10 := z47
    obtain ⟨rfl, N47q, eq47⟩ := hQ47
    have N47 : Fr n0 L47 := by rw [l47]; exact Fr.app N46 N47q
    clear l47
    refine Runs.back st47 ?_
    show Runs _ _ _ _ T47 (mkF m 127 #[.val (.int p0), .val (.int p1), .val (.int p2), .val (.int p3), .val (.int v), .val (.int ix), .val (.int fb), .val (.ref ob1), .val (.int (4 : Int32)), .val (.int (ix + (4 : Int32)))] [(.int (1 : Int32))])
    refine Runs.back (fun t_ k_ => XS.ifNo X47.here hx rfl (hb hby at_127) rfl ((if0 _ _).trans (feq (show ¬ ((1 : Int32) = (0 : Int32)) from (by decide))).1) k_) ?_
    show Runs _ _ _ _ T47 (mkF m 130 #[.val (.int p0), .val (.int p1), .val (.int p2), .val (.int p3), .val (.int v), .val (.int ix), .val (.int fb), .val (.ref ob1), .val (.int (4 : Int32)), .val (.int (ix + (4 : Int32)))] [])
    refine Runs.back (fun t_ k_ => XS.aload X47.here hx rfl (hb hby at_130) rfl rfl k_) ?_
    show Runs _ _ _ _ T47 (mkF m 132 #[.val (.int p0), .val (.int p1), .val (.int p2), .val (.int p3), .val (.int v), .val (.int ix), .val (.int fb), .val (.ref ob1), .val (.int (4 : Int32)), .val (.int (ix + (4 : Int32)))] [(.ref ob1)])
    refine Runs.back (fun t_ k_ => XS.iconst X47.here hx rfl (hb hby at_132) k_) ?_
    show Runs _ _ _ _ T47 (mkF m 133 #[.val (.int p0), .val (.int p1), .val (.int p2), .val (.int p3), .val (.int v), .val (.int ix), .val (.int fb), .val (.ref ob1), .val (.int (4 : Int32)), .val (.int (ix + (4 : Int32)))] [(.int (1 : Int32)), (.ref ob1)])
    refine Runs.back (fun t_ k_ => XS.iload X47.here hx rfl (hb hby at_133) rfl k_) ?_
    show Runs _ _ _ _ T47 (mkF m 135 #[.val (.int p0), .val (.int p1), .val (.int p2), .val (.int p3), .val (.int v), .val (.int ix), .val (.int fb), .val (.ref ob1), .val (.int (4 : Int32)), .val (.int (ix + (4 : Int32)))] [(.int ix), (.int (1 : Int32)), (.ref ob1)])
    refine Runs.back (fun t_ k_ => XS.iload X47.here hx rfl (hb hby at_135) rfl k_) ?_
    show Runs _ _ _ _ T47 (mkF m 137 #[.val (.int p0), .val (.int p1), .val (.int p2), .val (.int p3), .val (.int v), .val (.int ix), .val (.int fb), .val (.ref ob1), .val (.int (4 : Int32)), .val (.int (ix + (4 : Int32)))] [(.int (4 : Int32)), (.int ix), (.int (1 : Int32)), (.ref ob1)])
    refine Runs.back (fun t_ k_ => XS.iload X47.here hx rfl (hb hby at_137) rfl k_) ?_
    show Runs _ _ _ _ T47 (mkF m 139 #[.val (.int p0), .val (.int p1), .val (.int p2), .val (.int p3), .val (.int v), .val (.int ix), .val (.int fb), .val (.ref ob1), .val (.int (4 : Int32)), .val (.int (ix + (4 : Int32)))] [(.int v), (.int (4 : Int32)), (.int ix), (.int (1 : Int32)), (.ref ob1)])
    refine Runs.back (fun t_ k_ => XS.iload X47.here hx rfl (hb hby at_139) rfl k_) ?_
    show Runs _ _ _ _ T47 (mkF m 141 #[.val (.int p0), .val (.int p1), .val (.int p2), .val (.int p3), .val (.int v), .val (.int ix), .val (.int fb), .val (.ref ob1), .val (.int (4 : Int32)), .val (.int (ix + (4 : Int32)))] [(.int fb), (.int v), (.int (4 : Int32)), (.int ix), (.int (1 : Int32)), (.ref ob1)])
    obtain ⟨_, _, ⟨T48, L48, k48, n48⟩, -, X48, ⟨Lc48, hQ48, l48, y48, z48⟩, st48⟩ := Jvm.LawKit.callS X47 hx (y := (⟨"com/example/strict_distinct/strictdistinct/KeyBytesWriteLengthPinLaw", "at", "([BIIIIB)Z"⟩ : MethodName)) hown (mvT hZ (hw _ (List.mem_of_getElem? (i := 10) rfl))) (mvT hZ (hw _ (List.mem_of_getElem? (i := 11) rfl))) (mvT hZ (hw _ (List.mem_of_getElem? (i := 4) rfl))) (mvT hZ (hw _ (List.mem_of_getElem? (i := 12) rfl))) (by decide) (backOf (W := 0) (rm3 l Z a0 hw [] ob1 (1 : Int32) ix (4 : Int32) v fb 4 V k 1 fb T46.heap n0 (Z46) wA46 (by decide) (by decide) (by decide) (by decide) hkI hk4 (by decide) (by decide) hV hVc hV3 rfl) hZ (hw _ (List.mem_of_getElem? (i := 12) rfl)) (hw _ (List.mem_of_getElem? (i := 4) rfl)) (by decide) (by decide)) (g := (mkF m 141 #[.val (.int p0), .val (.int p1), .val (.int p2), .val (.int p3), .val (.int v), .val (.int ix), .val (.int fb), .val (.ref ob1), .val (.int (4 : Int32)), .val (.int (ix + (4 : Int32)))] [(.int fb), (.int v), (.int (4 : Int32)), (.int ix), (.int (1 : Int32)), (.ref ob1)])) rfl (by rw [hml]; rfl) (argsL := [(.ref ob1), (.int (1 : Int32)), (.int ix), (.int (4 : Int32)), (.int v), (.int fb)]) (rest := []) (lenOf pd0_2 rfl) rfl (by show 2 * 0 + _ ≤ _; exact Nat.le_of_eq rfl) (hb hby at_141) (fun _ _ => ⟨rfl, eq47, (by decide : 1 + 0 ≤ _), (by decide : 10 + 0 ≤ _)⟩)
    dsimp only [Pt.U, Pt.locs, Pt.cells, Pt.slots] at X48 l48 y48 z48 st48 hQ48
    obtain rfl : k48 = 1 := y48
    obtain rfl : n48 = 10 := z48
    obtain ⟨rfl, N48q, eq48⟩ := hQ48
    have N48 : Fr n0 L48 := by rw [l48]; exact Fr.app N47 N48q
    clear l48
    refine Runs.back st48 ?_
    show Runs _ _ _ _ T48 (mkF m 144 #[.val (.int p0), .val (.int p1), .val (.int p2), .val (.int p3), .val (.int v), .val (.int ix), .val (.int fb), .val (.ref ob1), .val (.int (4 : Int32)), .val (.int (ix + (4 : Int32)))] [(.int (1 : Int32))])
    refine Runs.back (fun t_ k_ => XS.ifNo X48.here hx rfl (hb hby at_144) rfl ((if0 _ _).trans (feq (show ¬ ((1 : Int32) = (0 : Int32)) from (by decide))).1) k_) ?_
    show Runs _ _ _ _ T48 (mkF m 147 #[.val (.int p0), .val (.int p1), .val (.int p2), .val (.int p3), .val (.int v), .val (.int ix), .val (.int fb), .val (.ref ob1), .val (.int (4 : Int32)), .val (.int (ix + (4 : Int32)))] [])
    refine Runs.back (fun t_ k_ => XS.aload X48.here hx rfl (hb hby at_147) rfl rfl k_) ?_
    show Runs _ _ _ _ T48 (mkF m 149 #[.val (.int p0), .val (.int p1), .val (.int p2), .val (.int p3), .val (.int v), .val (.int ix), .val (.int fb), .val (.ref ob1), .val (.int (4 : Int32)), .val (.int (ix + (4 : Int32)))] [(.ref ob1)])
    refine Runs.back (fun t_ k_ => XS.iconst X48.here hx rfl (hb hby at_149) k_) ?_
    show Runs _ _ _ _ T48 (mkF m 150 #[.val (.int p0), .val (.int p1), .val (.int p2), .val (.int p3), .val (.int v), .val (.int ix), .val (.int fb), .val (.ref ob1), .val (.int (4 : Int32)), .val (.int (ix + (4 : Int32)))] [(.int (2 : Int32)), (.ref ob1)])
    refine Runs.back (fun t_ k_ => XS.iload X48.here hx rfl (hb hby at_150) rfl k_) ?_
    show Runs _ _ _ _ T48 (mkF m 152 #[.val (.int p0), .val (.int p1), .val (.int p2), .val (.int p3), .val (.int v), .val (.int ix), .val (.int fb), .val (.ref ob1), .val (.int (4 : Int32)), .val (.int (ix + (4 : Int32)))] [(.int ix), (.int (2 : Int32)), (.ref ob1)])
    refine Runs.back (fun t_ k_ => XS.iload X48.here hx rfl (hb hby at_152) rfl k_) ?_
    show Runs _ _ _ _ T48 (mkF m 154 #[.val (.int p0), .val (.int p1), .val (.int p2), .val (.int p3), .val (.int v), .val (.int ix), .val (.int fb), .val (.ref ob1), .val (.int (4 : Int32)), .val (.int (ix + (4 : Int32)))] [(.int (4 : Int32)), (.int ix), (.int (2 : Int32)), (.ref ob1)])
    refine Runs.back (fun t_ k_ => XS.iload X48.here hx rfl (hb hby at_154) rfl k_) ?_
    show Runs _ _ _ _ T48 (mkF m 156 #[.val (.int p0), .val (.int p1), .val (.int p2), .val (.int p3), .val (.int v), .val (.int ix), .val (.int fb), .val (.ref ob1), .val (.int (4 : Int32)), .val (.int (ix + (4 : Int32)))] [(.int v), (.int (4 : Int32)), (.int ix), (.int (2 : Int32)), (.ref ob1)])
    refine Runs.back (fun t_ k_ => XS.iload X48.here hx rfl (hb hby at_156) rfl k_) ?_
    show Runs _ _ _ _ T48 (mkF m 158 #[.val (.int p0), .val (.int p1), .val (.int p2), .val (.int p3), .val (.int v), .val (.int ix), .val (.int fb), .val (.ref ob1), .val (.int (4 : Int32)), .val (.int (ix + (4 : Int32)))] [(.int fb), (.int v), (.int (4 : Int32)), (.int ix), (.int (2 : Int32)), (.ref ob1)])
    obtain ⟨_, _, ⟨T49, L49, k49, n49⟩, -, X49, ⟨Lc49, hQ49, l49, y49, z49⟩, st49⟩ := Jvm.LawKit.callS X48 hx (y := (⟨"com/example/strict_distinct/strictdistinct/KeyBytesWriteLengthPinLaw", "at", "([BIIIIB)Z"⟩ : MethodName)) hown (mvT hZ (hw _ (List.mem_of_getElem? (i := 10) rfl))) (mvT hZ (hw _ (List.mem_of_getElem? (i := 11) rfl))) (mvT hZ (hw _ (List.mem_of_getElem? (i := 4) rfl))) (mvT hZ (hw _ (List.mem_of_getElem? (i := 12) rfl))) (by decide) (backOf (W := 0) (rm3 l Z a0 hw [] ob1 (2 : Int32) ix (4 : Int32) v fb 4 V k 2 fb T46.heap n0 (Z46) wA46 (by decide) (by decide) (by decide) (by decide) hkI hk4 (by decide) (by decide) hV hVc hV3 rfl) hZ (hw _ (List.mem_of_getElem? (i := 12) rfl)) (hw _ (List.mem_of_getElem? (i := 4) rfl)) (by decide) (by decide)) (g := (mkF m 158 #[.val (.int p0), .val (.int p1), .val (.int p2), .val (.int p3), .val (.int v), .val (.int ix), .val (.int fb), .val (.ref ob1), .val (.int (4 : Int32)), .val (.int (ix + (4 : Int32)))] [(.int fb), (.int v), (.int (4 : Int32)), (.int ix), (.int (2 : Int32)), (.ref ob1)])) rfl (by rw [hml]; rfl) (argsL := [(.ref ob1), (.int (2 : Int32)), (.int ix), (.int (4 : Int32)), (.int v), (.int fb)]) (rest := []) (lenOf pd0_2 rfl) rfl (by show 2 * 0 + _ ≤ _; exact Nat.le_of_eq rfl) (hb hby at_158) (fun _ _ => ⟨rfl, eq48, (by decide : 1 + 0 ≤ _), (by decide : 10 + 0 ≤ _)⟩)
    dsimp only [Pt.U, Pt.locs, Pt.cells, Pt.slots] at X49 l49 y49 z49 st49 hQ49
    obtain rfl : k49 = 1 := y49
    obtain rfl : n49 = 10 := z49
    obtain ⟨rfl, N49q, eq49⟩ := hQ49
    have N49 : Fr n0 L49 := by rw [l49]; exact Fr.app N48 N49q
    clear l49
    refine Runs.back st49 ?_
    show Runs _ _ _ _ T49 (mkF m 161 #[.val (.int p0), .val (.int p1), .val (.int p2), .val (.int p3), .val (.int v), .val (.int ix), .val (.int fb), .val (.ref ob1), .val (.int (4 : Int32)), .val (.int (ix + (4 : Int32)))] [(.int (1 : Int32))])
    refine Runs.back (fun t_ k_ => XS.ifNo X49.here hx rfl (hb hby at_161) rfl ((if0 _ _).trans (feq (show ¬ ((1 : Int32) = (0 : Int32)) from (by decide))).1) k_) ?_
    show Runs _ _ _ _ T49 (mkF m 164 #[.val (.int p0), .val (.int p1), .val (.int p2), .val (.int p3), .val (.int v), .val (.int ix), .val (.int fb), .val (.ref ob1), .val (.int (4 : Int32)), .val (.int (ix + (4 : Int32)))] [])
    refine Runs.back (fun t_ k_ => XS.aload X49.here hx rfl (hb hby at_164) rfl rfl k_) ?_
    show Runs _ _ _ _ T49 (mkF m 166 #[.val (.int p0), .val (.int p1), .val (.int p2), .val (.int p3), .val (.int v), .val (.int ix), .val (.int fb), .val (.ref ob1), .val (.int (4 : Int32)), .val (.int (ix + (4 : Int32)))] [(.ref ob1)])
    refine Runs.back (fun t_ k_ => XS.iconst X49.here hx rfl (hb hby at_166) k_) ?_
    show Runs _ _ _ _ T49 (mkF m 167 #[.val (.int p0), .val (.int p1), .val (.int p2), .val (.int p3), .val (.int v), .val (.int ix), .val (.int fb), .val (.ref ob1), .val (.int (4 : Int32)), .val (.int (ix + (4 : Int32)))] [(.int (3 : Int32)), (.ref ob1)])
    refine Runs.back (fun t_ k_ => XS.iload X49.here hx rfl (hb hby at_167) rfl k_) ?_
    show Runs _ _ _ _ T49 (mkF m 169 #[.val (.int p0), .val (.int p1), .val (.int p2), .val (.int p3), .val (.int v), .val (.int ix), .val (.int fb), .val (.ref ob1), .val (.int (4 : Int32)), .val (.int (ix + (4 : Int32)))] [(.int ix), (.int (3 : Int32)), (.ref ob1)])
    refine Runs.back (fun t_ k_ => XS.iload X49.here hx rfl (hb hby at_169) rfl k_) ?_
    show Runs _ _ _ _ T49 (mkF m 171 #[.val (.int p0), .val (.int p1), .val (.int p2), .val (.int p3), .val (.int v), .val (.int ix), .val (.int fb), .val (.ref ob1), .val (.int (4 : Int32)), .val (.int (ix + (4 : Int32)))] [(.int (4 : Int32)), (.int ix), (.int (3 : Int32)), (.ref ob1)])
    refine Runs.back (fun t_ k_ => XS.iload X49.here hx rfl (hb hby at_171) rfl k_) ?_
    show Runs _ _ _ _ T49 (mkF m 173 #[.val (.int p0), .val (.int p1), .val (.int p2), .val (.int p3), .val (.int v), .val (.int ix), .val (.int fb), .val (.ref ob1), .val (.int (4 : Int32)), .val (.int (ix + (4 : Int32)))] [(.int v), (.int (4 : Int32)), (.int ix), (.int (3 : Int32)), (.ref ob1)])
    refine Runs.back (fun t_ k_ => XS.iload X49.here hx rfl (hb hby at_173) rfl k_) ?_
    show Runs _ _ _ _ T49 (mkF m 175 #[.val (.int p0), .val (.int p1), .val (.int p2), .val (.int p3), .val (.int v), .val (.int ix), .val (.int fb), .val (.ref ob1), .val (.int (4 : Int32)), .val (.int (ix + (4 : Int32)))] [(.int fb), (.int v), (.int (4 : Int32)), (.int ix), (.int (3 : Int32)), (.ref ob1)])
    obtain ⟨_, _, ⟨T50, L50, k50, n50⟩, -, X50, ⟨Lc50, hQ50, l50, y50, z50⟩, st50⟩ := Jvm.LawKit.callS X49 hx (y := (⟨"com/example/strict_distinct/strictdistinct/KeyBytesWriteLengthPinLaw", "at", "([BIIIIB)Z"⟩ : MethodName)) hown (mvT hZ (hw _ (List.mem_of_getElem? (i := 10) rfl))) (mvT hZ (hw _ (List.mem_of_getElem? (i := 11) rfl))) (mvT hZ (hw _ (List.mem_of_getElem? (i := 4) rfl))) (mvT hZ (hw _ (List.mem_of_getElem? (i := 12) rfl))) (by decide) (backOf (W := 0) (rm3 l Z a0 hw [] ob1 (3 : Int32) ix (4 : Int32) v fb 4 V k 3 fb T46.heap n0 (Z46) wA46 (by decide) (by decide) (by decide) (by decide) hkI hk4 (by decide) (by decide) hV hVc hV3 rfl) hZ (hw _ (List.mem_of_getElem? (i := 12) rfl)) (hw _ (List.mem_of_getElem? (i := 4) rfl)) (by decide) (by decide)) (g := (mkF m 175 #[.val (.int p0), .val (.int p1), .val (.int p2), .val (.int p3), .val (.int v), .val (.int ix), .val (.int fb), .val (.ref ob1), .val (.int (4 : Int32)), .val (.int (ix + (4 : Int32)))] [(.int fb), (.int v), (.int (4 : Int32)), (.int ix), (.int (3 : Int32)), (.ref ob1)])) rfl (by rw [hml]; rfl) (argsL := [(.ref ob1), (.int (3 : Int32)), (.int ix), (.int (4 : Int32)), (.int v), (.int fb)]) (rest := []) (lenOf pd0_2 rfl) rfl (by show 2 * 0 + _ ≤ _; exact Nat.le_of_eq rfl) (hb hby at_175) (fun _ _ => ⟨rfl, eq49, (by decide : 1 + 0 ≤ _), (by decide : 10 + 0 ≤ _)⟩)
    dsimp only [Pt.U, Pt.locs, Pt.cells, Pt.slots] at X50 l50 y50 z50 st50 hQ50
    obtain rfl : k50 = 1 := y50
    obtain rfl : n50 = 10 := z50
    obtain ⟨rfl, N50q, eq50⟩ := hQ50
    have N50 : Fr n0 L50 := by rw [l50]; exact Fr.app N49 N50q
    clear l50
    refine Runs.back st50 ?_
    show Runs _ _ _ _ T50 (mkF m 178 #[.val (.int p0), .val (.int p1), .val (.int p2), .val (.int p3), .val (.int v), .val (.int ix), .val (.int fb), .val (.ref ob1), .val (.int (4 : Int32)), .val (.int (ix + (4 : Int32)))] [(.int (1 : Int32))])
    refine Runs.back (fun t_ k_ => XS.ifNo X50.here hx rfl (hb hby at_178) rfl ((if0 _ _).trans (feq (show ¬ ((1 : Int32) = (0 : Int32)) from (by decide))).1) k_) ?_
    show Runs _ _ _ _ T50 (mkF m 181 #[.val (.int p0), .val (.int p1), .val (.int p2), .val (.int p3), .val (.int v), .val (.int ix), .val (.int fb), .val (.ref ob1), .val (.int (4 : Int32)), .val (.int (ix + (4 : Int32)))] [])
    refine Runs.back (fun t_ k_ => XS.aload X50.here hx rfl (hb hby at_181) rfl rfl k_) ?_
    show Runs _ _ _ _ T50 (mkF m 183 #[.val (.int p0), .val (.int p1), .val (.int p2), .val (.int p3), .val (.int v), .val (.int ix), .val (.int fb), .val (.ref ob1), .val (.int (4 : Int32)), .val (.int (ix + (4 : Int32)))] [(.ref ob1)])
    refine Runs.back (fun t_ k_ => XS.iconst X50.here hx rfl (hb hby at_183) k_) ?_
    show Runs _ _ _ _ T50 (mkF m 184 #[.val (.int p0), .val (.int p1), .val (.int p2), .val (.int p3), .val (.int v), .val (.int ix), .val (.int fb), .val (.ref ob1), .val (.int (4 : Int32)), .val (.int (ix + (4 : Int32)))] [(.int (4 : Int32)), (.ref ob1)])
    refine Runs.back (fun t_ k_ => XS.iload X50.here hx rfl (hb hby at_184) rfl k_) ?_
    show Runs _ _ _ _ T50 (mkF m 186 #[.val (.int p0), .val (.int p1), .val (.int p2), .val (.int p3), .val (.int v), .val (.int ix), .val (.int fb), .val (.ref ob1), .val (.int (4 : Int32)), .val (.int (ix + (4 : Int32)))] [(.int ix), (.int (4 : Int32)), (.ref ob1)])
    refine Runs.back (fun t_ k_ => XS.iload X50.here hx rfl (hb hby at_186) rfl k_) ?_
    show Runs _ _ _ _ T50 (mkF m 188 #[.val (.int p0), .val (.int p1), .val (.int p2), .val (.int p3), .val (.int v), .val (.int ix), .val (.int fb), .val (.ref ob1), .val (.int (4 : Int32)), .val (.int (ix + (4 : Int32)))] [(.int (4 : Int32)), (.int ix), (.int (4 : Int32)), (.ref ob1)])
    refine Runs.back (fun t_ k_ => XS.iload X50.here hx rfl (hb hby at_188) rfl k_) ?_
    show Runs _ _ _ _ T50 (mkF m 190 #[.val (.int p0), .val (.int p1), .val (.int p2), .val (.int p3), .val (.int v), .val (.int ix), .val (.int fb), .val (.ref ob1), .val (.int (4 : Int32)), .val (.int (ix + (4 : Int32)))] [(.int v), (.int (4 : Int32)), (.int ix), (.int (4 : Int32)), (.ref ob1)])
    refine Runs.back (fun t_ k_ => XS.iload X50.here hx rfl (hb hby at_190) rfl k_) ?_
    show Runs _ _ _ _ T50 (mkF m 192 #[.val (.int p0), .val (.int p1), .val (.int p2), .val (.int p3), .val (.int v), .val (.int ix), .val (.int fb), .val (.ref ob1), .val (.int (4 : Int32)), .val (.int (ix + (4 : Int32)))] [(.int fb), (.int v), (.int (4 : Int32)), (.int ix), (.int (4 : Int32)), (.ref ob1)])
    obtain ⟨_, _, ⟨T51, L51, k51, n51⟩, -, X51, ⟨Lc51, hQ51, l51, y51, z51⟩, st51⟩ := Jvm.LawKit.callS X50 hx (y := (⟨"com/example/strict_distinct/strictdistinct/KeyBytesWriteLengthPinLaw", "at", "([BIIIIB)Z"⟩ : MethodName)) hown (mvT hZ (hw _ (List.mem_of_getElem? (i := 10) rfl))) (mvT hZ (hw _ (List.mem_of_getElem? (i := 11) rfl))) (mvT hZ (hw _ (List.mem_of_getElem? (i := 4) rfl))) (mvT hZ (hw _ (List.mem_of_getElem? (i := 12) rfl))) (by decide) (backOf (W := 0) (rm3 l Z a0 hw [] ob1 (4 : Int32) ix (4 : Int32) v fb 4 V k 4 fb T46.heap n0 (Z46) wA46 (by decide) (by decide) (by decide) (by decide) hkI hk4 (by decide) (by decide) hV hVc hV3 rfl) hZ (hw _ (List.mem_of_getElem? (i := 12) rfl)) (hw _ (List.mem_of_getElem? (i := 4) rfl)) (by decide) (by decide)) (g := (mkF m 192 #[.val (.int p0), .val (.int p1), .val (.int p2), .val (.int p3), .val (.int v), .val (.int ix), .val (.int fb), .val (.ref ob1), .val (.int (4 : Int32)), .val (.int (ix + (4 : Int32)))] [(.int fb), (.int v), (.int (4 : Int32)), (.int ix), (.int (4 : Int32)), (.ref ob1)])) rfl (by rw [hml]; rfl) (argsL := [(.ref ob1), (.int (4 : Int32)), (.int ix), (.int (4 : Int32)), (.int v), (.int fb)]) (rest := []) (lenOf pd0_2 rfl) rfl (by show 2 * 0 + _ ≤ _; exact Nat.le_of_eq rfl) (hb hby at_192) (fun _ _ => ⟨rfl, eq50, (by decide : 1 + 0 ≤ _), (by decide : 10 + 0 ≤ _)⟩)
    dsimp only [Pt.U, Pt.locs, Pt.cells, Pt.slots] at X51 l51 y51 z51 st51 hQ51
    obtain rfl : k51 = 1 := y51
    obtain rfl : n51 = 10 := z51
    obtain ⟨rfl, N51q, eq51⟩ := hQ51
    have N51 : Fr n0 L51 := by rw [l51]; exact Fr.app N50 N51q
    clear l51
    refine Runs.back st51 ?_
    show Runs _ _ _ _ T51 (mkF m 195 #[.val (.int p0), .val (.int p1), .val (.int p2), .val (.int p3), .val (.int v), .val (.int ix), .val (.int fb), .val (.ref ob1), .val (.int (4 : Int32)), .val (.int (ix + (4 : Int32)))] [(.int (1 : Int32))])
    refine Runs.back (fun t_ k_ => XS.ifNo X51.here hx rfl (hb hby at_195) rfl ((if0 _ _).trans (feq (show ¬ ((1 : Int32) = (0 : Int32)) from (by decide))).1) k_) ?_
    show Runs _ _ _ _ T51 (mkF m 198 #[.val (.int p0), .val (.int p1), .val (.int p2), .val (.int p3), .val (.int v), .val (.int ix), .val (.int fb), .val (.ref ob1), .val (.int (4 : Int32)), .val (.int (ix + (4 : Int32)))] [])
    refine Runs.back (fun t_ k_ => XS.aload X51.here hx rfl (hb hby at_198) rfl rfl k_) ?_
    show Runs _ _ _ _ T51 (mkF m 200 #[.val (.int p0), .val (.int p1), .val (.int p2), .val (.int p3), .val (.int v), .val (.int ix), .val (.int fb), .val (.ref ob1), .val (.int (4 : Int32)), .val (.int (ix + (4 : Int32)))] [(.ref ob1)])
    refine Runs.back (fun t_ k_ => XS.iconst X51.here hx rfl (hb hby at_200) k_) ?_
    show Runs _ _ _ _ T51 (mkF m 201 #[.val (.int p0), .val (.int p1), .val (.int p2), .val (.int p3), .val (.int v), .val (.int ix), .val (.int fb), .val (.ref ob1), .val (.int (4 : Int32)), .val (.int (ix + (4 : Int32)))] [(.int (5 : Int32)), (.ref ob1)])
    refine Runs.back (fun t_ k_ => XS.iload X51.here hx rfl (hb hby at_201) rfl k_) ?_
    show Runs _ _ _ _ T51 (mkF m 203 #[.val (.int p0), .val (.int p1), .val (.int p2), .val (.int p3), .val (.int v), .val (.int ix), .val (.int fb), .val (.ref ob1), .val (.int (4 : Int32)), .val (.int (ix + (4 : Int32)))] [(.int ix), (.int (5 : Int32)), (.ref ob1)])
    refine Runs.back (fun t_ k_ => XS.iload X51.here hx rfl (hb hby at_203) rfl k_) ?_
    show Runs _ _ _ _ T51 (mkF m 205 #[.val (.int p0), .val (.int p1), .val (.int p2), .val (.int p3), .val (.int v), .val (.int ix), .val (.int fb), .val (.ref ob1), .val (.int (4 : Int32)), .val (.int (ix + (4 : Int32)))] [(.int (4 : Int32)), (.int ix), (.int (5 : Int32)), (.ref ob1)])
    refine Runs.back (fun t_ k_ => XS.iload X51.here hx rfl (hb hby at_205) rfl k_) ?_
    show Runs _ _ _ _ T51 (mkF m 207 #[.val (.int p0), .val (.int p1), .val (.int p2), .val (.int p3), .val (.int v), .val (.int ix), .val (.int fb), .val (.ref ob1), .val (.int (4 : Int32)), .val (.int (ix + (4 : Int32)))] [(.int v), (.int (4 : Int32)), (.int ix), (.int (5 : Int32)), (.ref ob1)])
    refine Runs.back (fun t_ k_ => XS.iload X51.here hx rfl (hb hby at_207) rfl k_) ?_
    show Runs _ _ _ _ T51 (mkF m 209 #[.val (.int p0), .val (.int p1), .val (.int p2), .val (.int p3), .val (.int v), .val (.int ix), .val (.int fb), .val (.ref ob1), .val (.int (4 : Int32)), .val (.int (ix + (4 : Int32)))] [(.int fb), (.int v), (.int (4 : Int32)), (.int ix), (.int (5 : Int32)), (.ref ob1)])
    obtain ⟨_, _, ⟨T52, L52, k52, n52⟩, -, X52, ⟨Lc52, hQ52, l52, y52, z52⟩, st52⟩ := Jvm.LawKit.callS X51 hx (y := (⟨"com/example/strict_distinct/strictdistinct/KeyBytesWriteLengthPinLaw", "at", "([BIIIIB)Z"⟩ : MethodName)) hown (mvT hZ (hw _ (List.mem_of_getElem? (i := 10) rfl))) (mvT hZ (hw _ (List.mem_of_getElem? (i := 11) rfl))) (mvT hZ (hw _ (List.mem_of_getElem? (i := 4) rfl))) (mvT hZ (hw _ (List.mem_of_getElem? (i := 12) rfl))) (by decide) (backOf (W := 0) (rm3 l Z a0 hw [] ob1 (5 : Int32) ix (4 : Int32) v fb 4 V k 5 fb T46.heap n0 (Z46) wA46 (by decide) (by decide) (by decide) (by decide) hkI hk4 (by decide) (by decide) hV hVc hV3 rfl) hZ (hw _ (List.mem_of_getElem? (i := 12) rfl)) (hw _ (List.mem_of_getElem? (i := 4) rfl)) (by decide) (by decide)) (g := (mkF m 209 #[.val (.int p0), .val (.int p1), .val (.int p2), .val (.int p3), .val (.int v), .val (.int ix), .val (.int fb), .val (.ref ob1), .val (.int (4 : Int32)), .val (.int (ix + (4 : Int32)))] [(.int fb), (.int v), (.int (4 : Int32)), (.int ix), (.int (5 : Int32)), (.ref ob1)])) rfl (by rw [hml]; rfl) (argsL := [(.ref ob1), (.int (5 : Int32)), (.int ix), (.int (4 : Int32)), (.int v), (.int fb)]) (rest := []) (lenOf pd0_2 rfl) rfl (by show 2 * 0 + _ ≤ _; exact Nat.le_of_eq rfl) (hb hby at_209) (fun _ _ => ⟨rfl, eq51, (by decide : 1 + 0 ≤ _), (by decide : 10 + 0 ≤ _)⟩)
    dsimp only [Pt.U, Pt.locs, Pt.cells, Pt.slots] at X52 l52 y52 z52 st52 hQ52
    obtain rfl : k52 = 1 := y52
    obtain rfl : n52 = 10 := z52
    obtain ⟨rfl, N52q, eq52⟩ := hQ52
    have N52 : Fr n0 L52 := by rw [l52]; exact Fr.app N51 N52q
    clear l52
    refine Runs.back st52 ?_
    show Runs _ _ _ _ T52 (mkF m 212 #[.val (.int p0), .val (.int p1), .val (.int p2), .val (.int p3), .val (.int v), .val (.int ix), .val (.int fb), .val (.ref ob1), .val (.int (4 : Int32)), .val (.int (ix + (4 : Int32)))] [(.int (1 : Int32))])
    refine Runs.back (fun t_ k_ => XS.ifNo X52.here hx rfl (hb hby at_212) rfl ((if0 _ _).trans (feq (show ¬ ((1 : Int32) = (0 : Int32)) from (by decide))).1) k_) ?_
    show Runs _ _ _ _ T52 (mkF m 215 #[.val (.int p0), .val (.int p1), .val (.int p2), .val (.int p3), .val (.int v), .val (.int ix), .val (.int fb), .val (.ref ob1), .val (.int (4 : Int32)), .val (.int (ix + (4 : Int32)))] [])
    refine Runs.back (fun t_ k_ => XS.aload X52.here hx rfl (hb hby at_215) rfl rfl k_) ?_
    show Runs _ _ _ _ T52 (mkF m 217 #[.val (.int p0), .val (.int p1), .val (.int p2), .val (.int p3), .val (.int v), .val (.int ix), .val (.int fb), .val (.ref ob1), .val (.int (4 : Int32)), .val (.int (ix + (4 : Int32)))] [(.ref ob1)])
    refine Runs.back (fun t_ k_ => XS.bipush X52.here hx rfl (hb hby at_217) k_) ?_
    show Runs _ _ _ _ T52 (mkF m 219 #[.val (.int p0), .val (.int p1), .val (.int p2), .val (.int p3), .val (.int v), .val (.int ix), .val (.int fb), .val (.ref ob1), .val (.int (4 : Int32)), .val (.int (ix + (4 : Int32)))] [(.int (6 : Int32)), (.ref ob1)])
    refine Runs.back (fun t_ k_ => XS.iload X52.here hx rfl (hb hby at_219) rfl k_) ?_
    show Runs _ _ _ _ T52 (mkF m 221 #[.val (.int p0), .val (.int p1), .val (.int p2), .val (.int p3), .val (.int v), .val (.int ix), .val (.int fb), .val (.ref ob1), .val (.int (4 : Int32)), .val (.int (ix + (4 : Int32)))] [(.int ix), (.int (6 : Int32)), (.ref ob1)])
    refine Runs.back (fun t_ k_ => XS.iload X52.here hx rfl (hb hby at_221) rfl k_) ?_
    show Runs _ _ _ _ T52 (mkF m 223 #[.val (.int p0), .val (.int p1), .val (.int p2), .val (.int p3), .val (.int v), .val (.int ix), .val (.int fb), .val (.ref ob1), .val (.int (4 : Int32)), .val (.int (ix + (4 : Int32)))] [(.int (4 : Int32)), (.int ix), (.int (6 : Int32)), (.ref ob1)])
    refine Runs.back (fun t_ k_ => XS.iload X52.here hx rfl (hb hby at_223) rfl k_) ?_
    show Runs _ _ _ _ T52 (mkF m 225 #[.val (.int p0), .val (.int p1), .val (.int p2), .val (.int p3), .val (.int v), .val (.int ix), .val (.int fb), .val (.ref ob1), .val (.int (4 : Int32)), .val (.int (ix + (4 : Int32)))] [(.int v), (.int (4 : Int32)), (.int ix), (.int (6 : Int32)), (.ref ob1)])
    refine Runs.back (fun t_ k_ => XS.iload X52.here hx rfl (hb hby at_225) rfl k_) ?_
    show Runs _ _ _ _ T52 (mkF m 227 #[.val (.int p0), .val (.int p1), .val (.int p2), .val (.int p3), .val (.int v), .val (.int ix), .val (.int fb), .val (.ref ob1), .val (.int (4 : Int32)), .val (.int (ix + (4 : Int32)))] [(.int fb), (.int v), (.int (4 : Int32)), (.int ix), (.int (6 : Int32)), (.ref ob1)])
    obtain ⟨_, _, ⟨T53, L53, k53, n53⟩, -, X53, ⟨Lc53, hQ53, l53, y53, z53⟩, st53⟩ := Jvm.LawKit.callS X52 hx (y := (⟨"com/example/strict_distinct/strictdistinct/KeyBytesWriteLengthPinLaw", "at", "([BIIIIB)Z"⟩ : MethodName)) hown (mvT hZ (hw _ (List.mem_of_getElem? (i := 10) rfl))) (mvT hZ (hw _ (List.mem_of_getElem? (i := 11) rfl))) (mvT hZ (hw _ (List.mem_of_getElem? (i := 4) rfl))) (mvT hZ (hw _ (List.mem_of_getElem? (i := 12) rfl))) (by decide) (backOf (W := 0) (rm3 l Z a0 hw [] ob1 (6 : Int32) ix (4 : Int32) v fb 4 V k 6 fb T46.heap n0 (Z46) wA46 (by decide) (by decide) (by decide) (by decide) hkI hk4 (by decide) (by decide) hV hVc hV3 rfl) hZ (hw _ (List.mem_of_getElem? (i := 12) rfl)) (hw _ (List.mem_of_getElem? (i := 4) rfl)) (by decide) (by decide)) (g := (mkF m 227 #[.val (.int p0), .val (.int p1), .val (.int p2), .val (.int p3), .val (.int v), .val (.int ix), .val (.int fb), .val (.ref ob1), .val (.int (4 : Int32)), .val (.int (ix + (4 : Int32)))] [(.int fb), (.int v), (.int (4 : Int32)), (.int ix), (.int (6 : Int32)), (.ref ob1)])) rfl (by rw [hml]; rfl) (argsL := [(.ref ob1), (.int (6 : Int32)), (.int ix), (.int (4 : Int32)), (.int v), (.int fb)]) (rest := []) (lenOf pd0_2 rfl) rfl (by show 2 * 0 + _ ≤ _; exact Nat.le_of_eq rfl) (hb hby at_227) (fun _ _ => ⟨rfl, eq52, (by decide : 1 + 0 ≤ _), (by decide : 10 + 0 ≤ _)⟩)
    dsimp only [Pt.U, Pt.locs, Pt.cells, Pt.slots] at X53 l53 y53 z53 st53 hQ53
    obtain rfl : k53 = 1 := y53
    obtain rfl : n53 = 10 := z53
    obtain ⟨rfl, N53q, eq53⟩ := hQ53
    have N53 : Fr n0 L53 := by rw [l53]; exact Fr.app N52 N53q
    clear l53
    refine Runs.back st53 ?_
    show Runs _ _ _ _ T53 (mkF m 230 #[.val (.int p0), .val (.int p1), .val (.int p2), .val (.int p3), .val (.int v), .val (.int ix), .val (.int fb), .val (.ref ob1), .val (.int (4 : Int32)), .val (.int (ix + (4 : Int32)))] [(.int (1 : Int32))])
    refine Runs.back (fun t_ k_ => XS.ifNo X53.here hx rfl (hb hby at_230) rfl ((if0 _ _).trans (feq (show ¬ ((1 : Int32) = (0 : Int32)) from (by decide))).1) k_) ?_
    show Runs _ _ _ _ T53 (mkF m 233 #[.val (.int p0), .val (.int p1), .val (.int p2), .val (.int p3), .val (.int v), .val (.int ix), .val (.int fb), .val (.ref ob1), .val (.int (4 : Int32)), .val (.int (ix + (4 : Int32)))] [])
    refine Runs.back (fun t_ k_ => XS.aload X53.here hx rfl (hb hby at_233) rfl rfl k_) ?_
    show Runs _ _ _ _ T53 (mkF m 235 #[.val (.int p0), .val (.int p1), .val (.int p2), .val (.int p3), .val (.int v), .val (.int ix), .val (.int fb), .val (.ref ob1), .val (.int (4 : Int32)), .val (.int (ix + (4 : Int32)))] [(.ref ob1)])
    refine Runs.back (fun t_ k_ => XS.bipush X53.here hx rfl (hb hby at_235) k_) ?_
    show Runs _ _ _ _ T53 (mkF m 237 #[.val (.int p0), .val (.int p1), .val (.int p2), .val (.int p3), .val (.int v), .val (.int ix), .val (.int fb), .val (.ref ob1), .val (.int (4 : Int32)), .val (.int (ix + (4 : Int32)))] [(.int (7 : Int32)), (.ref ob1)])
    refine Runs.back (fun t_ k_ => XS.iload X53.here hx rfl (hb hby at_237) rfl k_) ?_
    show Runs _ _ _ _ T53 (mkF m 239 #[.val (.int p0), .val (.int p1), .val (.int p2), .val (.int p3), .val (.int v), .val (.int ix), .val (.int fb), .val (.ref ob1), .val (.int (4 : Int32)), .val (.int (ix + (4 : Int32)))] [(.int ix), (.int (7 : Int32)), (.ref ob1)])
    refine Runs.back (fun t_ k_ => XS.iload X53.here hx rfl (hb hby at_239) rfl k_) ?_
    show Runs _ _ _ _ T53 (mkF m 241 #[.val (.int p0), .val (.int p1), .val (.int p2), .val (.int p3), .val (.int v), .val (.int ix), .val (.int fb), .val (.ref ob1), .val (.int (4 : Int32)), .val (.int (ix + (4 : Int32)))] [(.int (4 : Int32)), (.int ix), (.int (7 : Int32)), (.ref ob1)])
    refine Runs.back (fun t_ k_ => XS.iload X53.here hx rfl (hb hby at_241) rfl k_) ?_
    show Runs _ _ _ _ T53 (mkF m 243 #[.val (.int p0), .val (.int p1), .val (.int p2), .val (.int p3), .val (.int v), .val (.int ix), .val (.int fb), .val (.ref ob1), .val (.int (4 : Int32)), .val (.int (ix + (4 : Int32)))] [(.int v), (.int (4 : Int32)), (.int ix), (.int (7 : Int32)), (.ref ob1)])
    refine Runs.back (fun t_ k_ => XS.iload X53.here hx rfl (hb hby at_243) rfl k_) ?_
    show Runs _ _ _ _ T53 (mkF m 245 #[.val (.int p0), .val (.int p1), .val (.int p2), .val (.int p3), .val (.int v), .val (.int ix), .val (.int fb), .val (.ref ob1), .val (.int (4 : Int32)), .val (.int (ix + (4 : Int32)))] [(.int fb), (.int v), (.int (4 : Int32)), (.int ix), (.int (7 : Int32)), (.ref ob1)])
    obtain ⟨_, _, ⟨T54, L54, k54, n54⟩, -, X54, ⟨Lc54, hQ54, l54, y54, z54⟩, st54⟩ := Jvm.LawKit.callS X53 hx (y := (⟨"com/example/strict_distinct/strictdistinct/KeyBytesWriteLengthPinLaw", "at", "([BIIIIB)Z"⟩ : MethodName)) hown (mvT hZ (hw _ (List.mem_of_getElem? (i := 10) rfl))) (mvT hZ (hw _ (List.mem_of_getElem? (i := 11) rfl))) (mvT hZ (hw _ (List.mem_of_getElem? (i := 4) rfl))) (mvT hZ (hw _ (List.mem_of_getElem? (i := 12) rfl))) (by decide) (backOf (W := 0) (rm3 l Z a0 hw [] ob1 (7 : Int32) ix (4 : Int32) v fb 4 V k 7 fb T46.heap n0 (Z46) wA46 (by decide) (by decide) (by decide) (by decide) hkI hk4 (by decide) (by decide) hV hVc hV3 rfl) hZ (hw _ (List.mem_of_getElem? (i := 12) rfl)) (hw _ (List.mem_of_getElem? (i := 4) rfl)) (by decide) (by decide)) (g := (mkF m 245 #[.val (.int p0), .val (.int p1), .val (.int p2), .val (.int p3), .val (.int v), .val (.int ix), .val (.int fb), .val (.ref ob1), .val (.int (4 : Int32)), .val (.int (ix + (4 : Int32)))] [(.int fb), (.int v), (.int (4 : Int32)), (.int ix), (.int (7 : Int32)), (.ref ob1)])) rfl (by rw [hml]; rfl) (argsL := [(.ref ob1), (.int (7 : Int32)), (.int ix), (.int (4 : Int32)), (.int v), (.int fb)]) (rest := []) (lenOf pd0_2 rfl) rfl (by show 2 * 0 + _ ≤ _; exact Nat.le_of_eq rfl) (hb hby at_245) (fun _ _ => ⟨rfl, eq53, (by decide : 1 + 0 ≤ _), (by decide : 10 + 0 ≤ _)⟩)
    dsimp only [Pt.U, Pt.locs, Pt.cells, Pt.slots] at X54 l54 y54 z54 st54 hQ54
    obtain rfl : k54 = 1 := y54
    obtain rfl : n54 = 10 := z54
    obtain ⟨rfl, N54q, eq54⟩ := hQ54
    have N54 : Fr n0 L54 := by rw [l54]; exact Fr.app N53 N54q
    clear l54
    refine Runs.back st54 ?_
    show Runs _ _ _ _ T54 (mkF m 248 #[.val (.int p0), .val (.int p1), .val (.int p2), .val (.int p3), .val (.int v), .val (.int ix), .val (.int fb), .val (.ref ob1), .val (.int (4 : Int32)), .val (.int (ix + (4 : Int32)))] [(.int (1 : Int32))])
    refine Runs.back (fun t_ k_ => XS.ifNo X54.here hx rfl (hb hby at_248) rfl ((if0 _ _).trans (feq (show ¬ ((1 : Int32) = (0 : Int32)) from (by decide))).1) k_) ?_
    show Runs _ _ _ _ T54 (mkF m 251 #[.val (.int p0), .val (.int p1), .val (.int p2), .val (.int p3), .val (.int v), .val (.int ix), .val (.int fb), .val (.ref ob1), .val (.int (4 : Int32)), .val (.int (ix + (4 : Int32)))] [])
    refine Runs.back (fun t_ k_ => XS.aload X54.here hx rfl (hb hby at_251) rfl rfl k_) ?_
    show Runs _ _ _ _ T54 (mkF m 253 #[.val (.int p0), .val (.int p1), .val (.int p2), .val (.int p3), .val (.int v), .val (.int ix), .val (.int fb), .val (.ref ob1), .val (.int (4 : Int32)), .val (.int (ix + (4 : Int32)))] [(.ref ob1)])
    refine Runs.back (fun t_ k_ => XS.bipush X54.here hx rfl (hb hby at_253) k_) ?_
    show Runs _ _ _ _ T54 (mkF m 255 #[.val (.int p0), .val (.int p1), .val (.int p2), .val (.int p3), .val (.int v), .val (.int ix), .val (.int fb), .val (.ref ob1), .val (.int (4 : Int32)), .val (.int (ix + (4 : Int32)))] [(.int (8 : Int32)), (.ref ob1)])
    refine Runs.back (fun t_ k_ => XS.iload X54.here hx rfl (hb hby at_255) rfl k_) ?_
    show Runs _ _ _ _ T54 (mkF m 257 #[.val (.int p0), .val (.int p1), .val (.int p2), .val (.int p3), .val (.int v), .val (.int ix), .val (.int fb), .val (.ref ob1), .val (.int (4 : Int32)), .val (.int (ix + (4 : Int32)))] [(.int ix), (.int (8 : Int32)), (.ref ob1)])
    refine Runs.back (fun t_ k_ => XS.iload X54.here hx rfl (hb hby at_257) rfl k_) ?_
    show Runs _ _ _ _ T54 (mkF m 259 #[.val (.int p0), .val (.int p1), .val (.int p2), .val (.int p3), .val (.int v), .val (.int ix), .val (.int fb), .val (.ref ob1), .val (.int (4 : Int32)), .val (.int (ix + (4 : Int32)))] [(.int (4 : Int32)), (.int ix), (.int (8 : Int32)), (.ref ob1)])
    refine Runs.back (fun t_ k_ => XS.iload X54.here hx rfl (hb hby at_259) rfl k_) ?_
    show Runs _ _ _ _ T54 (mkF m 261 #[.val (.int p0), .val (.int p1), .val (.int p2), .val (.int p3), .val (.int v), .val (.int ix), .val (.int fb), .val (.ref ob1), .val (.int (4 : Int32)), .val (.int (ix + (4 : Int32)))] [(.int v), (.int (4 : Int32)), (.int ix), (.int (8 : Int32)), (.ref ob1)])
    refine Runs.back (fun t_ k_ => XS.iload X54.here hx rfl (hb hby at_261) rfl k_) ?_
    show Runs _ _ _ _ T54 (mkF m 263 #[.val (.int p0), .val (.int p1), .val (.int p2), .val (.int p3), .val (.int v), .val (.int ix), .val (.int fb), .val (.ref ob1), .val (.int (4 : Int32)), .val (.int (ix + (4 : Int32)))] [(.int fb), (.int v), (.int (4 : Int32)), (.int ix), (.int (8 : Int32)), (.ref ob1)])
    obtain ⟨_, _, ⟨T55, L55, k55, n55⟩, -, X55, ⟨Lc55, hQ55, l55, y55, z55⟩, st55⟩ := Jvm.LawKit.callS X54 hx (y := (⟨"com/example/strict_distinct/strictdistinct/KeyBytesWriteLengthPinLaw", "at", "([BIIIIB)Z"⟩ : MethodName)) hown (mvT hZ (hw _ (List.mem_of_getElem? (i := 10) rfl))) (mvT hZ (hw _ (List.mem_of_getElem? (i := 11) rfl))) (mvT hZ (hw _ (List.mem_of_getElem? (i := 4) rfl))) (mvT hZ (hw _ (List.mem_of_getElem? (i := 12) rfl))) (by decide) (backOf (W := 0) (rm3 l Z a0 hw [] ob1 (8 : Int32) ix (4 : Int32) v fb 4 V k 8 fb T46.heap n0 (Z46) wA46 (by decide) (by decide) (by decide) (by decide) hkI hk4 (by decide) (by decide) hV hVc hV3 rfl) hZ (hw _ (List.mem_of_getElem? (i := 12) rfl)) (hw _ (List.mem_of_getElem? (i := 4) rfl)) (by decide) (by decide)) (g := (mkF m 263 #[.val (.int p0), .val (.int p1), .val (.int p2), .val (.int p3), .val (.int v), .val (.int ix), .val (.int fb), .val (.ref ob1), .val (.int (4 : Int32)), .val (.int (ix + (4 : Int32)))] [(.int fb), (.int v), (.int (4 : Int32)), (.int ix), (.int (8 : Int32)), (.ref ob1)])) rfl (by rw [hml]; rfl) (argsL := [(.ref ob1), (.int (8 : Int32)), (.int ix), (.int (4 : Int32)), (.int v), (.int fb)]) (rest := []) (lenOf pd0_2 rfl) rfl (by show 2 * 0 + _ ≤ _; exact Nat.le_of_eq rfl) (hb hby at_263) (fun _ _ => ⟨rfl, eq54, (by decide : 1 + 0 ≤ _), (by decide : 10 + 0 ≤ _)⟩)
    dsimp only [Pt.U, Pt.locs, Pt.cells, Pt.slots] at X55 l55 y55 z55 st55 hQ55
    obtain rfl : k55 = 1 := y55
    obtain rfl : n55 = 10 := z55
    obtain ⟨rfl, N55q, eq55⟩ := hQ55
    have N55 : Fr n0 L55 := by rw [l55]; exact Fr.app N54 N55q
    clear l55
    refine Runs.back st55 ?_
    show Runs _ _ _ _ T55 (mkF m 266 #[.val (.int p0), .val (.int p1), .val (.int p2), .val (.int p3), .val (.int v), .val (.int ix), .val (.int fb), .val (.ref ob1), .val (.int (4 : Int32)), .val (.int (ix + (4 : Int32)))] [(.int (1 : Int32))])
    refine Runs.back (fun t_ k_ => XS.ifNo X55.here hx rfl (hb hby at_266) rfl ((if0 _ _).trans (feq (show ¬ ((1 : Int32) = (0 : Int32)) from (by decide))).1) k_) ?_
    show Runs _ _ _ _ T55 (mkF m 269 #[.val (.int p0), .val (.int p1), .val (.int p2), .val (.int p3), .val (.int v), .val (.int ix), .val (.int fb), .val (.ref ob1), .val (.int (4 : Int32)), .val (.int (ix + (4 : Int32)))] [])
    refine Runs.back (fun t_ k_ => XS.aload X55.here hx rfl (hb hby at_269) rfl rfl k_) ?_
    show Runs _ _ _ _ T55 (mkF m 271 #[.val (.int p0), .val (.int p1), .val (.int p2), .val (.int p3), .val (.int v), .val (.int ix), .val (.int fb), .val (.ref ob1), .val (.int (4 : Int32)), .val (.int (ix + (4 : Int32)))] [(.ref ob1)])
    refine Runs.back (fun t_ k_ => XS.bipush X55.here hx rfl (hb hby at_271) k_) ?_
    show Runs _ _ _ _ T55 (mkF m 273 #[.val (.int p0), .val (.int p1), .val (.int p2), .val (.int p3), .val (.int v), .val (.int ix), .val (.int fb), .val (.ref ob1), .val (.int (4 : Int32)), .val (.int (ix + (4 : Int32)))] [(.int (9 : Int32)), (.ref ob1)])
    refine Runs.back (fun t_ k_ => XS.iload X55.here hx rfl (hb hby at_273) rfl k_) ?_
    show Runs _ _ _ _ T55 (mkF m 275 #[.val (.int p0), .val (.int p1), .val (.int p2), .val (.int p3), .val (.int v), .val (.int ix), .val (.int fb), .val (.ref ob1), .val (.int (4 : Int32)), .val (.int (ix + (4 : Int32)))] [(.int ix), (.int (9 : Int32)), (.ref ob1)])
    refine Runs.back (fun t_ k_ => XS.iload X55.here hx rfl (hb hby at_275) rfl k_) ?_
    show Runs _ _ _ _ T55 (mkF m 277 #[.val (.int p0), .val (.int p1), .val (.int p2), .val (.int p3), .val (.int v), .val (.int ix), .val (.int fb), .val (.ref ob1), .val (.int (4 : Int32)), .val (.int (ix + (4 : Int32)))] [(.int (4 : Int32)), (.int ix), (.int (9 : Int32)), (.ref ob1)])
    refine Runs.back (fun t_ k_ => XS.iload X55.here hx rfl (hb hby at_277) rfl k_) ?_
    show Runs _ _ _ _ T55 (mkF m 279 #[.val (.int p0), .val (.int p1), .val (.int p2), .val (.int p3), .val (.int v), .val (.int ix), .val (.int fb), .val (.ref ob1), .val (.int (4 : Int32)), .val (.int (ix + (4 : Int32)))] [(.int v), (.int (4 : Int32)), (.int ix), (.int (9 : Int32)), (.ref ob1)])
    refine Runs.back (fun t_ k_ => XS.iload X55.here hx rfl (hb hby at_279) rfl k_) ?_
    show Runs _ _ _ _ T55 (mkF m 281 #[.val (.int p0), .val (.int p1), .val (.int p2), .val (.int p3), .val (.int v), .val (.int ix), .val (.int fb), .val (.ref ob1), .val (.int (4 : Int32)), .val (.int (ix + (4 : Int32)))] [(.int fb), (.int v), (.int (4 : Int32)), (.int ix), (.int (9 : Int32)), (.ref ob1)])
    obtain ⟨_, _, ⟨T56, L56, k56, n56⟩, -, X56, ⟨Lc56, hQ56, l56, y56, z56⟩, st56⟩ := Jvm.LawKit.callS X55 hx (y := (⟨"com/example/strict_distinct/strictdistinct/KeyBytesWriteLengthPinLaw", "at", "([BIIIIB)Z"⟩ : MethodName)) hown (mvT hZ (hw _ (List.mem_of_getElem? (i := 10) rfl))) (mvT hZ (hw _ (List.mem_of_getElem? (i := 11) rfl))) (mvT hZ (hw _ (List.mem_of_getElem? (i := 4) rfl))) (mvT hZ (hw _ (List.mem_of_getElem? (i := 12) rfl))) (by decide) (backOf (W := 0) (rm3 l Z a0 hw [] ob1 (9 : Int32) ix (4 : Int32) v fb 4 V k 9 fb T46.heap n0 (Z46) wA46 (by decide) (by decide) (by decide) (by decide) hkI hk4 (by decide) (by decide) hV hVc hV3 rfl) hZ (hw _ (List.mem_of_getElem? (i := 12) rfl)) (hw _ (List.mem_of_getElem? (i := 4) rfl)) (by decide) (by decide)) (g := (mkF m 281 #[.val (.int p0), .val (.int p1), .val (.int p2), .val (.int p3), .val (.int v), .val (.int ix), .val (.int fb), .val (.ref ob1), .val (.int (4 : Int32)), .val (.int (ix + (4 : Int32)))] [(.int fb), (.int v), (.int (4 : Int32)), (.int ix), (.int (9 : Int32)), (.ref ob1)])) rfl (by rw [hml]; rfl) (argsL := [(.ref ob1), (.int (9 : Int32)), (.int ix), (.int (4 : Int32)), (.int v), (.int fb)]) (rest := []) (lenOf pd0_2 rfl) rfl (by show 2 * 0 + _ ≤ _; exact Nat.le_of_eq rfl) (hb hby at_281) (fun _ _ => ⟨rfl, eq55, (by decide : 1 + 0 ≤ _), (by decide : 10 + 0 ≤ _)⟩)
    dsimp only [Pt.U, Pt.locs, Pt.cells, Pt.slots] at X56 l56 y56 z56 st56 hQ56
    obtain rfl : k56 = 1 := y56
    obtain rfl : n56 = 10 := z56
    obtain ⟨rfl, N56q, eq56⟩ := hQ56
    have N56 : Fr n0 L56 := by rw [l56]; exact Fr.app N55 N56q
    clear l56
    refine Runs.back st56 ?_
    show Runs _ _ _ _ T56 (mkF m 284 #[.val (.int p0), .val (.int p1), .val (.int p2), .val (.int p3), .val (.int v), .val (.int ix), .val (.int fb), .val (.ref ob1), .val (.int (4 : Int32)), .val (.int (ix + (4 : Int32)))] [(.int (1 : Int32))])
    refine Runs.back (fun t_ k_ => XS.ifNo X56.here hx rfl (hb hby at_284) rfl ((if0 _ _).trans (feq (show ¬ ((1 : Int32) = (0 : Int32)) from (by decide))).1) k_) ?_
    show Runs _ _ _ _ T56 (mkF m 287 #[.val (.int p0), .val (.int p1), .val (.int p2), .val (.int p3), .val (.int v), .val (.int ix), .val (.int fb), .val (.ref ob1), .val (.int (4 : Int32)), .val (.int (ix + (4 : Int32)))] [])
    refine Runs.back (fun t_ k_ => XS.iconst X56.here hx rfl (hb hby at_287) k_) ?_
    show Runs _ _ _ _ T56 (mkF m 288 #[.val (.int p0), .val (.int p1), .val (.int p2), .val (.int p3), .val (.int v), .val (.int ix), .val (.int fb), .val (.ref ob1), .val (.int (4 : Int32)), .val (.int (ix + (4 : Int32)))] [(.int (1 : Int32))])
    refine Runs.back (fun t_ k_ => XS.goto X56.here hx rfl (pc0 := 288) (pc' := 292) rfl (hb hby at_288) (by decide) (by decide) k_) ?_
    show Runs _ _ _ _ T56 (mkF m 292 #[.val (.int p0), .val (.int p1), .val (.int p2), .val (.int p3), .val (.int v), .val (.int ix), .val (.int fb), .val (.ref ob1), .val (.int (4 : Int32)), .val (.int (ix + (4 : Int32)))] [(.int (1 : Int32))])
    obtain ⟨fs, hr, hrun, hended, hW, hsame⟩ := X56.leave (v := some (.int (1 : Int32))) (fun h => by rw [Bd.returns] at h; cases h)
    exact ⟨_, _, (retN X56 hx (t := .boolean) Bd.returns (by simp) (hb hby at_292) hr), hrun, hended, _, _, rfl, ⟨rfl, N56⟩, ⟨_, rfl⟩, hW, hsame.mono (by decide) (by decide)⟩
  · rw [hz]
    have hVa : 268435456 ≤ V := by omega
    have hVb : V < 34359738368 := by omega
    have hVc : V < 128 ^ 5 := by simpa using hVb
    show Runs _ _ _ _ T12 (mkF m 90 #[.val (.int p0), .val (.int p1), .val (.int p2), .val (.int p3), .val (.int v), .val (.int ix), .val (.int fb), .val (.ref ob1), .val (.int (5 : Int32)), .unset] [])
    refine Runs.back (fun t_ k_ => XS.aload X12.here hx rfl (hb hby at_90) rfl rfl k_) ?_
    show Runs _ _ _ _ T12 (mkF m 92 #[.val (.int p0), .val (.int p1), .val (.int p2), .val (.int p3), .val (.int v), .val (.int ix), .val (.int fb), .val (.ref ob1), .val (.int (5 : Int32)), .unset] [(.ref ob1)])
    refine Runs.back (fun t_ k_ => XS.iload X12.here hx rfl (hb hby at_92) rfl k_) ?_
    show Runs _ _ _ _ T12 (mkF m 94 #[.val (.int p0), .val (.int p1), .val (.int p2), .val (.int p3), .val (.int v), .val (.int ix), .val (.int fb), .val (.ref ob1), .val (.int (5 : Int32)), .unset] [(.int ix), (.ref ob1)])
    refine Runs.back (fun t_ k_ => XS.iload X12.here hx rfl (hb hby at_94) rfl k_) ?_
    show Runs _ _ _ _ T12 (mkF m 96 #[.val (.int p0), .val (.int p1), .val (.int p2), .val (.int p3), .val (.int v), .val (.int ix), .val (.int fb), .val (.ref ob1), .val (.int (5 : Int32)), .unset] [(.int v), (.int ix), (.ref ob1)])
    obtain ⟨_, _, ⟨T57, L57, k57, n57⟩, -, X57, ⟨Lc57, hQ57, l57, y57, z57⟩, st57⟩ := Jvm.LawKit.callS X12 hx (y := (⟨"com/example/strict_distinct/strictdistinct/KeyBytes", "writeLength", "([BII)I"⟩ : MethodName)) hown (mvT hZ (hw _ (List.mem_of_getElem? (i := 6) rfl))) (mvT hZ (hw _ (List.mem_of_getElem? (i := 7) rfl))) (mvT hZ (hw _ (List.mem_of_getElem? (i := 8) rfl))) (mvT hZ (hw _ (List.mem_of_getElem? (i := 9) rfl))) (by decide) (backOf (W := 0) (rm2n5 l Z a0 hw [] ob1 ix v V k fb h11 n0 (Z11) V83 g_ob1 hk hixn hk4 hV hVa hVb hV3) hZ (hw _ (List.mem_of_getElem? (i := 9) rfl)) (hw _ (List.mem_of_getElem? (i := 8) rfl)) (by decide) (by decide)) (g := (mkF m 96 #[.val (.int p0), .val (.int p1), .val (.int p2), .val (.int p3), .val (.int v), .val (.int ix), .val (.int fb), .val (.ref ob1), .val (.int (5 : Int32)), .unset] [(.int v), (.int ix), (.ref ob1)])) rfl (by rw [hml]; rfl) (argsL := [(.ref ob1), (.int ix), (.int v)]) (rest := []) (lenOf pd0_1 rfl) rfl (by show 2 * 0 + _ ≤ _; exact Nat.le_of_eq rfl) (hb hby at_96) (fun _ _ => ⟨rfl, eq12, (by decide : 1 + 0 ≤ _), (by decide : 10 + 0 ≤ _)⟩)
    dsimp only [Pt.U, Pt.locs, Pt.cells, Pt.slots] at X57 l57 y57 z57 st57 hQ57
    obtain rfl : k57 = 1 := y57
    obtain rfl : n57 = 10 := z57
    obtain ⟨rfl, N57q, K57, wA57⟩ := hQ57
    have N57 : Fr n0 L57 := by rw [l57]; exact Fr.app N12 N57q
    clear l57
    have Z57 : n0 ≤ T57.heap.size := Nat.le_trans (Z11) K57.1
    refine Runs.back st57 ?_
    show Runs _ _ _ _ T57 (mkF m 99 #[.val (.int p0), .val (.int p1), .val (.int p2), .val (.int p3), .val (.int v), .val (.int ix), .val (.int fb), .val (.ref ob1), .val (.int (5 : Int32)), .unset] [(.int (ix + (5 : Int32)))])
    refine Runs.back (fun t_ k_ => XS.istore X57.here hx rfl (hb hby at_99) rfl (l' := #[.val (.int p0), .val (.int p1), .val (.int p2), .val (.int p3), .val (.int v), .val (.int ix), .val (.int fb), .val (.ref ob1), .val (.int (5 : Int32)), .val (.int (ix + (5 : Int32)))]) rfl k_) ?_
    show Runs _ _ _ _ T57 (mkF m 101 #[.val (.int p0), .val (.int p1), .val (.int p2), .val (.int p3), .val (.int v), .val (.int ix), .val (.int fb), .val (.ref ob1), .val (.int (5 : Int32)), .val (.int (ix + (5 : Int32)))] [])
    refine Runs.back (fun t_ k_ => XS.iload X57.here hx rfl (hb hby at_101) rfl k_) ?_
    show Runs _ _ _ _ T57 (mkF m 103 #[.val (.int p0), .val (.int p1), .val (.int p2), .val (.int p3), .val (.int v), .val (.int ix), .val (.int fb), .val (.ref ob1), .val (.int (5 : Int32)), .val (.int (ix + (5 : Int32)))] [(.int (ix + (5 : Int32)))])
    refine Runs.back (fun t_ k_ => XS.iload X57.here hx rfl (hb hby at_103) rfl k_) ?_
    show Runs _ _ _ _ T57 (mkF m 105 #[.val (.int p0), .val (.int p1), .val (.int p2), .val (.int p3), .val (.int v), .val (.int ix), .val (.int fb), .val (.ref ob1), .val (.int (5 : Int32)), .val (.int (ix + (5 : Int32)))] [(.int ix), (.int (ix + (5 : Int32)))])
    refine Runs.back (fun t_ k_ => XS.iload X57.here hx rfl (hb hby at_105) rfl k_) ?_
    show Runs _ _ _ _ T57 (mkF m 107 #[.val (.int p0), .val (.int p1), .val (.int p2), .val (.int p3), .val (.int v), .val (.int ix), .val (.int fb), .val (.ref ob1), .val (.int (5 : Int32)), .val (.int (ix + (5 : Int32)))] [(.int (5 : Int32)), (.int ix), (.int (ix + (5 : Int32)))])
    refine Runs.back (fun t_ k_ => XS.iadd X57.here hx rfl (hb hby at_107) rfl k_) ?_
    show Runs _ _ _ _ T57 (mkF m 108 #[.val (.int p0), .val (.int p1), .val (.int p2), .val (.int p3), .val (.int v), .val (.int ix), .val (.int fb), .val (.ref ob1), .val (.int (5 : Int32)), .val (.int (ix + (5 : Int32)))] [(.int (ix + (5 : Int32))), (.int (ix + (5 : Int32)))])
    refine Runs.back (fun t_ k_ => XS.icmpYes X57.here hx rfl (pc0 := 108) (pc' := 113) rfl (hb hby at_108) rfl (teq (show (ix + (5 : Int32)) = (ix + (5 : Int32)) from rfl)).1 (by decide) (by decide) k_) ?_
    show Runs _ _ _ _ T57 (mkF m 113 #[.val (.int p0), .val (.int p1), .val (.int p2), .val (.int p3), .val (.int v), .val (.int ix), .val (.int fb), .val (.ref ob1), .val (.int (5 : Int32)), .val (.int (ix + (5 : Int32)))] [])
    refine Runs.back (fun t_ k_ => XS.aload X57.here hx rfl (hb hby at_113) rfl rfl k_) ?_
    show Runs _ _ _ _ T57 (mkF m 115 #[.val (.int p0), .val (.int p1), .val (.int p2), .val (.int p3), .val (.int v), .val (.int ix), .val (.int fb), .val (.ref ob1), .val (.int (5 : Int32)), .val (.int (ix + (5 : Int32)))] [(.ref ob1)])
    refine Runs.back (fun t_ k_ => XS.iconst X57.here hx rfl (hb hby at_115) k_) ?_
    show Runs _ _ _ _ T57 (mkF m 116 #[.val (.int p0), .val (.int p1), .val (.int p2), .val (.int p3), .val (.int v), .val (.int ix), .val (.int fb), .val (.ref ob1), .val (.int (5 : Int32)), .val (.int (ix + (5 : Int32)))] [(.int (0 : Int32)), (.ref ob1)])
    refine Runs.back (fun t_ k_ => XS.iload X57.here hx rfl (hb hby at_116) rfl k_) ?_
    show Runs _ _ _ _ T57 (mkF m 118 #[.val (.int p0), .val (.int p1), .val (.int p2), .val (.int p3), .val (.int v), .val (.int ix), .val (.int fb), .val (.ref ob1), .val (.int (5 : Int32)), .val (.int (ix + (5 : Int32)))] [(.int ix), (.int (0 : Int32)), (.ref ob1)])
    refine Runs.back (fun t_ k_ => XS.iload X57.here hx rfl (hb hby at_118) rfl k_) ?_
    show Runs _ _ _ _ T57 (mkF m 120 #[.val (.int p0), .val (.int p1), .val (.int p2), .val (.int p3), .val (.int v), .val (.int ix), .val (.int fb), .val (.ref ob1), .val (.int (5 : Int32)), .val (.int (ix + (5 : Int32)))] [(.int (5 : Int32)), (.int ix), (.int (0 : Int32)), (.ref ob1)])
    refine Runs.back (fun t_ k_ => XS.iload X57.here hx rfl (hb hby at_120) rfl k_) ?_
    show Runs _ _ _ _ T57 (mkF m 122 #[.val (.int p0), .val (.int p1), .val (.int p2), .val (.int p3), .val (.int v), .val (.int ix), .val (.int fb), .val (.ref ob1), .val (.int (5 : Int32)), .val (.int (ix + (5 : Int32)))] [(.int v), (.int (5 : Int32)), (.int ix), (.int (0 : Int32)), (.ref ob1)])
    refine Runs.back (fun t_ k_ => XS.iload X57.here hx rfl (hb hby at_122) rfl k_) ?_
    show Runs _ _ _ _ T57 (mkF m 124 #[.val (.int p0), .val (.int p1), .val (.int p2), .val (.int p3), .val (.int v), .val (.int ix), .val (.int fb), .val (.ref ob1), .val (.int (5 : Int32)), .val (.int (ix + (5 : Int32)))] [(.int fb), (.int v), (.int (5 : Int32)), (.int ix), (.int (0 : Int32)), (.ref ob1)])
    obtain ⟨_, _, ⟨T58, L58, k58, n58⟩, -, X58, ⟨Lc58, hQ58, l58, y58, z58⟩, st58⟩ := Jvm.LawKit.callS X57 hx (y := (⟨"com/example/strict_distinct/strictdistinct/KeyBytesWriteLengthPinLaw", "at", "([BIIIIB)Z"⟩ : MethodName)) hown (mvT hZ (hw _ (List.mem_of_getElem? (i := 10) rfl))) (mvT hZ (hw _ (List.mem_of_getElem? (i := 11) rfl))) (mvT hZ (hw _ (List.mem_of_getElem? (i := 4) rfl))) (mvT hZ (hw _ (List.mem_of_getElem? (i := 12) rfl))) (by decide) (backOf (W := 0) (rm3 l Z a0 hw [] ob1 (0 : Int32) ix (5 : Int32) v fb 5 V k 0 fb T57.heap n0 (Z57) wA57 (by decide) (by decide) (by decide) (by decide) hkI hk4 (by decide) (by decide) hV hVc hV3 rfl) hZ (hw _ (List.mem_of_getElem? (i := 12) rfl)) (hw _ (List.mem_of_getElem? (i := 4) rfl)) (by decide) (by decide)) (g := (mkF m 124 #[.val (.int p0), .val (.int p1), .val (.int p2), .val (.int p3), .val (.int v), .val (.int ix), .val (.int fb), .val (.ref ob1), .val (.int (5 : Int32)), .val (.int (ix + (5 : Int32)))] [(.int fb), (.int v), (.int (5 : Int32)), (.int ix), (.int (0 : Int32)), (.ref ob1)])) rfl (by rw [hml]; rfl) (argsL := [(.ref ob1), (.int (0 : Int32)), (.int ix), (.int (5 : Int32)), (.int v), (.int fb)]) (rest := []) (lenOf pd0_2 rfl) rfl (by show 2 * 0 + _ ≤ _; exact Nat.le_of_eq rfl) (hb hby at_124) (fun _ _ => ⟨rfl, rfl, (by decide : 1 + 0 ≤ _), (by decide : 10 + 0 ≤ _)⟩)
    dsimp only [Pt.U, Pt.locs, Pt.cells, Pt.slots] at X58 l58 y58 z58 st58 hQ58
    obtain rfl : k58 = 1 := y58
    obtain rfl : n58 = 10 := z58
    obtain ⟨rfl, N58q, eq58⟩ := hQ58
    have N58 : Fr n0 L58 := by rw [l58]; exact Fr.app N57 N58q
    clear l58
    refine Runs.back st58 ?_
    show Runs _ _ _ _ T58 (mkF m 127 #[.val (.int p0), .val (.int p1), .val (.int p2), .val (.int p3), .val (.int v), .val (.int ix), .val (.int fb), .val (.ref ob1), .val (.int (5 : Int32)), .val (.int (ix + (5 : Int32)))] [(.int (1 : Int32))])
    refine Runs.back (fun t_ k_ => XS.ifNo X58.here hx rfl (hb hby at_127) rfl ((if0 _ _).trans (feq (show ¬ ((1 : Int32) = (0 : Int32)) from (by decide))).1) k_) ?_
    show Runs _ _ _ _ T58 (mkF m 130 #[.val (.int p0), .val (.int p1), .val (.int p2), .val (.int p3), .val (.int v), .val (.int ix), .val (.int fb), .val (.ref ob1), .val (.int (5 : Int32)), .val (.int (ix + (5 : Int32)))] [])
    refine Runs.back (fun t_ k_ => XS.aload X58.here hx rfl (hb hby at_130) rfl rfl k_) ?_
    show Runs _ _ _ _ T58 (mkF m 132 #[.val (.int p0), .val (.int p1), .val (.int p2), .val (.int p3), .val (.int v), .val (.int ix), .val (.int fb), .val (.ref ob1), .val (.int (5 : Int32)), .val (.int (ix + (5 : Int32)))] [(.ref ob1)])
    refine Runs.back (fun t_ k_ => XS.iconst X58.here hx rfl (hb hby at_132) k_) ?_
    show Runs _ _ _ _ T58 (mkF m 133 #[.val (.int p0), .val (.int p1), .val (.int p2), .val (.int p3), .val (.int v), .val (.int ix), .val (.int fb), .val (.ref ob1), .val (.int (5 : Int32)), .val (.int (ix + (5 : Int32)))] [(.int (1 : Int32)), (.ref ob1)])
    refine Runs.back (fun t_ k_ => XS.iload X58.here hx rfl (hb hby at_133) rfl k_) ?_
    show Runs _ _ _ _ T58 (mkF m 135 #[.val (.int p0), .val (.int p1), .val (.int p2), .val (.int p3), .val (.int v), .val (.int ix), .val (.int fb), .val (.ref ob1), .val (.int (5 : Int32)), .val (.int (ix + (5 : Int32)))] [(.int ix), (.int (1 : Int32)), (.ref ob1)])
    refine Runs.back (fun t_ k_ => XS.iload X58.here hx rfl (hb hby at_135) rfl k_) ?_
    show Runs _ _ _ _ T58 (mkF m 137 #[.val (.int p0), .val (.int p1), .val (.int p2), .val (.int p3), .val (.int v), .val (.int ix), .val (.int fb), .val (.ref ob1), .val (.int (5 : Int32)), .val (.int (ix + (5 : Int32)))] [(.int (5 : Int32)), (.int ix), (.int (1 : Int32)), (.ref ob1)])
    refine Runs.back (fun t_ k_ => XS.iload X58.here hx rfl (hb hby at_137) rfl k_) ?_
    show Runs _ _ _ _ T58 (mkF m 139 #[.val (.int p0), .val (.int p1), .val (.int p2), .val (.int p3), .val (.int v), .val (.int ix), .val (.int fb), .val (.ref ob1), .val (.int (5 : Int32)), .val (.int (ix + (5 : Int32)))] [(.int v), (.int (5 : Int32)), (.int ix), (.int (1 : Int32)), (.ref ob1)])
    refine Runs.back (fun t_ k_ => XS.iload X58.here hx rfl (hb hby at_139) rfl k_) ?_
    show Runs _ _ _ _ T58 (mkF m 141 #[.val (.int p0), .val (.int p1), .val (.int p2), .val (.int p3), .val (.int v), .val (.int ix), .val (.int fb), .val (.ref ob1), .val (.int (5 : Int32)), .val (.int (ix + (5 : Int32)))] [(.int fb), (.int v), (.int (5 : Int32)), (.int ix), (.int (1 : Int32)), (.ref ob1)])
    obtain ⟨_, _, ⟨T59, L59, k59, n59⟩, -, X59, ⟨Lc59, hQ59, l59, y59, z59⟩, st59⟩ := Jvm.LawKit.callS X58 hx (y := (⟨"com/example/strict_distinct/strictdistinct/KeyBytesWriteLengthPinLaw", "at", "([BIIIIB)Z"⟩ : MethodName)) hown (mvT hZ (hw _ (List.mem_of_getElem? (i := 10) rfl))) (mvT hZ (hw _ (List.mem_of_getElem? (i := 11) rfl))) (mvT hZ (hw _ (List.mem_of_getElem? (i := 4) rfl))) (mvT hZ (hw _ (List.mem_of_getElem? (i := 12) rfl))) (by decide) (backOf (W := 0) (rm3 l Z a0 hw [] ob1 (1 : Int32) ix (5 : Int32) v fb 5 V k 1 fb T57.heap n0 (Z57) wA57 (by decide) (by decide) (by decide) (by decide) hkI hk4 (by decide) (by decide) hV hVc hV3 rfl) hZ (hw _ (List.mem_of_getElem? (i := 12) rfl)) (hw _ (List.mem_of_getElem? (i := 4) rfl)) (by decide) (by decide)) (g := (mkF m 141 #[.val (.int p0), .val (.int p1), .val (.int p2), .val (.int p3), .val (.int v), .val (.int ix), .val (.int fb), .val (.ref ob1), .val (.int (5 : Int32)), .val (.int (ix + (5 : Int32)))] [(.int fb), (.int v), (.int (5 : Int32)), (.int ix), (.int (1 : Int32)), (.ref ob1)])) rfl (by rw [hml]; rfl) (argsL := [(.ref ob1), (.int (1 : Int32)), (.int ix), (.int (5 : Int32)), (.int v), (.int fb)]) (rest := []) (lenOf pd0_2 rfl) rfl (by show 2 * 0 + _ ≤ _; exact Nat.le_of_eq rfl) (hb hby at_141) (fun _ _ => ⟨rfl, eq58, (by decide : 1 + 0 ≤ _), (by decide : 10 + 0 ≤ _)⟩)
    dsimp only [Pt.U, Pt.locs, Pt.cells, Pt.slots] at X59 l59 y59 z59 st59 hQ59
    obtain rfl : k59 = 1 := y59
    obtain rfl : n59 = 10 := z59
    obtain ⟨rfl, N59q, eq59⟩ := hQ59
    have N59 : Fr n0 L59 := by rw [l59]; exact Fr.app N58 N59q
    clear l59
    refine Runs.back st59 ?_
    show Runs _ _ _ _ T59 (mkF m 144 #[.val (.int p0), .val (.int p1), .val (.int p2), .val (.int p3), .val (.int v), .val (.int ix), .val (.int fb), .val (.ref ob1), .val (.int (5 : Int32)), .val (.int (ix + (5 : Int32)))] [(.int (1 : Int32))])
    refine Runs.back (fun t_ k_ => XS.ifNo X59.here hx rfl (hb hby at_144) rfl ((if0 _ _).trans (feq (show ¬ ((1 : Int32) = (0 : Int32)) from (by decide))).1) k_) ?_
    show Runs _ _ _ _ T59 (mkF m 147 #[.val (.int p0), .val (.int p1), .val (.int p2), .val (.int p3), .val (.int v), .val (.int ix), .val (.int fb), .val (.ref ob1), .val (.int (5 : Int32)), .val (.int (ix + (5 : Int32)))] [])
    refine Runs.back (fun t_ k_ => XS.aload X59.here hx rfl (hb hby at_147) rfl rfl k_) ?_
    show Runs _ _ _ _ T59 (mkF m 149 #[.val (.int p0), .val (.int p1), .val (.int p2), .val (.int p3), .val (.int v), .val (.int ix), .val (.int fb), .val (.ref ob1), .val (.int (5 : Int32)), .val (.int (ix + (5 : Int32)))] [(.ref ob1)])
    refine Runs.back (fun t_ k_ => XS.iconst X59.here hx rfl (hb hby at_149) k_) ?_
    show Runs _ _ _ _ T59 (mkF m 150 #[.val (.int p0), .val (.int p1), .val (.int p2), .val (.int p3), .val (.int v), .val (.int ix), .val (.int fb), .val (.ref ob1), .val (.int (5 : Int32)), .val (.int (ix + (5 : Int32)))] [(.int (2 : Int32)), (.ref ob1)])
    refine Runs.back (fun t_ k_ => XS.iload X59.here hx rfl (hb hby at_150) rfl k_) ?_
    show Runs _ _ _ _ T59 (mkF m 152 #[.val (.int p0), .val (.int p1), .val (.int p2), .val (.int p3), .val (.int v), .val (.int ix), .val (.int fb), .val (.ref ob1), .val (.int (5 : Int32)), .val (.int (ix + (5 : Int32)))] [(.int ix), (.int (2 : Int32)), (.ref ob1)])
    refine Runs.back (fun t_ k_ => XS.iload X59.here hx rfl (hb hby at_152) rfl k_) ?_
    show Runs _ _ _ _ T59 (mkF m 154 #[.val (.int p0), .val (.int p1), .val (.int p2), .val (.int p3), .val (.int v), .val (.int ix), .val (.int fb), .val (.ref ob1), .val (.int (5 : Int32)), .val (.int (ix + (5 : Int32)))] [(.int (5 : Int32)), (.int ix), (.int (2 : Int32)), (.ref ob1)])
    refine Runs.back (fun t_ k_ => XS.iload X59.here hx rfl (hb hby at_154) rfl k_) ?_
    show Runs _ _ _ _ T59 (mkF m 156 #[.val (.int p0), .val (.int p1), .val (.int p2), .val (.int p3), .val (.int v), .val (.int ix), .val (.int fb), .val (.ref ob1), .val (.int (5 : Int32)), .val (.int (ix + (5 : Int32)))] [(.int v), (.int (5 : Int32)), (.int ix), (.int (2 : Int32)), (.ref ob1)])
    refine Runs.back (fun t_ k_ => XS.iload X59.here hx rfl (hb hby at_156) rfl k_) ?_
    show Runs _ _ _ _ T59 (mkF m 158 #[.val (.int p0), .val (.int p1), .val (.int p2), .val (.int p3), .val (.int v), .val (.int ix), .val (.int fb), .val (.ref ob1), .val (.int (5 : Int32)), .val (.int (ix + (5 : Int32)))] [(.int fb), (.int v), (.int (5 : Int32)), (.int ix), (.int (2 : Int32)), (.ref ob1)])
    obtain ⟨_, _, ⟨T60, L60, k60, n60⟩, -, X60, ⟨Lc60, hQ60, l60, y60, z60⟩, st60⟩ := Jvm.LawKit.callS X59 hx (y := (⟨"com/example/strict_distinct/strictdistinct/KeyBytesWriteLengthPinLaw", "at", "([BIIIIB)Z"⟩ : MethodName)) hown (mvT hZ (hw _ (List.mem_of_getElem? (i := 10) rfl))) (mvT hZ (hw _ (List.mem_of_getElem? (i := 11) rfl))) (mvT hZ (hw _ (List.mem_of_getElem? (i := 4) rfl))) (mvT hZ (hw _ (List.mem_of_getElem? (i := 12) rfl))) (by decide) (backOf (W := 0) (rm3 l Z a0 hw [] ob1 (2 : Int32) ix (5 : Int32) v fb 5 V k 2 fb T57.heap n0 (Z57) wA57 (by decide) (by decide) (by decide) (by decide) hkI hk4 (by decide) (by decide) hV hVc hV3 rfl) hZ (hw _ (List.mem_of_getElem? (i := 12) rfl)) (hw _ (List.mem_of_getElem? (i := 4) rfl)) (by decide) (by decide)) (g := (mkF m 158 #[.val (.int p0), .val (.int p1), .val (.int p2), .val (.int p3), .val (.int v), .val (.int ix), .val (.int fb), .val (.ref ob1), .val (.int (5 : Int32)), .val (.int (ix + (5 : Int32)))] [(.int fb), (.int v), (.int (5 : Int32)), (.int ix), (.int (2 : Int32)), (.ref ob1)])) rfl (by rw [hml]; rfl) (argsL := [(.ref ob1), (.int (2 : Int32)), (.int ix), (.int (5 : Int32)), (.int v), (.int fb)]) (rest := []) (lenOf pd0_2 rfl) rfl (by show 2 * 0 + _ ≤ _; exact Nat.le_of_eq rfl) (hb hby at_158) (fun _ _ => ⟨rfl, eq59, (by decide : 1 + 0 ≤ _), (by decide : 10 + 0 ≤ _)⟩)
    dsimp only [Pt.U, Pt.locs, Pt.cells, Pt.slots] at X60 l60 y60 z60 st60 hQ60
    obtain rfl : k60 = 1 := y60
    obtain rfl : n60 = 10 := z60
    obtain ⟨rfl, N60q, eq60⟩ := hQ60
    have N60 : Fr n0 L60 := by rw [l60]; exact Fr.app N59 N60q
    clear l60
    refine Runs.back st60 ?_
    show Runs _ _ _ _ T60 (mkF m 161 #[.val (.int p0), .val (.int p1), .val (.int p2), .val (.int p3), .val (.int v), .val (.int ix), .val (.int fb), .val (.ref ob1), .val (.int (5 : Int32)), .val (.int (ix + (5 : Int32)))] [(.int (1 : Int32))])
    refine Runs.back (fun t_ k_ => XS.ifNo X60.here hx rfl (hb hby at_161) rfl ((if0 _ _).trans (feq (show ¬ ((1 : Int32) = (0 : Int32)) from (by decide))).1) k_) ?_
    show Runs _ _ _ _ T60 (mkF m 164 #[.val (.int p0), .val (.int p1), .val (.int p2), .val (.int p3), .val (.int v), .val (.int ix), .val (.int fb), .val (.ref ob1), .val (.int (5 : Int32)), .val (.int (ix + (5 : Int32)))] [])
    refine Runs.back (fun t_ k_ => XS.aload X60.here hx rfl (hb hby at_164) rfl rfl k_) ?_
    show Runs _ _ _ _ T60 (mkF m 166 #[.val (.int p0), .val (.int p1), .val (.int p2), .val (.int p3), .val (.int v), .val (.int ix), .val (.int fb), .val (.ref ob1), .val (.int (5 : Int32)), .val (.int (ix + (5 : Int32)))] [(.ref ob1)])
    refine Runs.back (fun t_ k_ => XS.iconst X60.here hx rfl (hb hby at_166) k_) ?_
    show Runs _ _ _ _ T60 (mkF m 167 #[.val (.int p0), .val (.int p1), .val (.int p2), .val (.int p3), .val (.int v), .val (.int ix), .val (.int fb), .val (.ref ob1), .val (.int (5 : Int32)), .val (.int (ix + (5 : Int32)))] [(.int (3 : Int32)), (.ref ob1)])
    refine Runs.back (fun t_ k_ => XS.iload X60.here hx rfl (hb hby at_167) rfl k_) ?_
    show Runs _ _ _ _ T60 (mkF m 169 #[.val (.int p0), .val (.int p1), .val (.int p2), .val (.int p3), .val (.int v), .val (.int ix), .val (.int fb), .val (.ref ob1), .val (.int (5 : Int32)), .val (.int (ix + (5 : Int32)))] [(.int ix), (.int (3 : Int32)), (.ref ob1)])
    refine Runs.back (fun t_ k_ => XS.iload X60.here hx rfl (hb hby at_169) rfl k_) ?_
    show Runs _ _ _ _ T60 (mkF m 171 #[.val (.int p0), .val (.int p1), .val (.int p2), .val (.int p3), .val (.int v), .val (.int ix), .val (.int fb), .val (.ref ob1), .val (.int (5 : Int32)), .val (.int (ix + (5 : Int32)))] [(.int (5 : Int32)), (.int ix), (.int (3 : Int32)), (.ref ob1)])
    refine Runs.back (fun t_ k_ => XS.iload X60.here hx rfl (hb hby at_171) rfl k_) ?_
    show Runs _ _ _ _ T60 (mkF m 173 #[.val (.int p0), .val (.int p1), .val (.int p2), .val (.int p3), .val (.int v), .val (.int ix), .val (.int fb), .val (.ref ob1), .val (.int (5 : Int32)), .val (.int (ix + (5 : Int32)))] [(.int v), (.int (5 : Int32)), (.int ix), (.int (3 : Int32)), (.ref ob1)])
    refine Runs.back (fun t_ k_ => XS.iload X60.here hx rfl (hb hby at_173) rfl k_) ?_
    show Runs _ _ _ _ T60 (mkF m 175 #[.val (.int p0), .val (.int p1), .val (.int p2), .val (.int p3), .val (.int v), .val (.int ix), .val (.int fb), .val (.ref ob1), .val (.int (5 : Int32)), .val (.int (ix + (5 : Int32)))] [(.int fb), (.int v), (.int (5 : Int32)), (.int ix), (.int (3 : Int32)), (.ref ob1)])
    obtain ⟨_, _, ⟨T61, L61, k61, n61⟩, -, X61, ⟨Lc61, hQ61, l61, y61, z61⟩, st61⟩ := Jvm.LawKit.callS X60 hx (y := (⟨"com/example/strict_distinct/strictdistinct/KeyBytesWriteLengthPinLaw", "at", "([BIIIIB)Z"⟩ : MethodName)) hown (mvT hZ (hw _ (List.mem_of_getElem? (i := 10) rfl))) (mvT hZ (hw _ (List.mem_of_getElem? (i := 11) rfl))) (mvT hZ (hw _ (List.mem_of_getElem? (i := 4) rfl))) (mvT hZ (hw _ (List.mem_of_getElem? (i := 12) rfl))) (by decide) (backOf (W := 0) (rm3 l Z a0 hw [] ob1 (3 : Int32) ix (5 : Int32) v fb 5 V k 3 fb T57.heap n0 (Z57) wA57 (by decide) (by decide) (by decide) (by decide) hkI hk4 (by decide) (by decide) hV hVc hV3 rfl) hZ (hw _ (List.mem_of_getElem? (i := 12) rfl)) (hw _ (List.mem_of_getElem? (i := 4) rfl)) (by decide) (by decide)) (g := (mkF m 175 #[.val (.int p0), .val (.int p1), .val (.int p2), .val (.int p3), .val (.int v), .val (.int ix), .val (.int fb), .val (.ref ob1), .val (.int (5 : Int32)), .val (.int (ix + (5 : Int32)))] [(.int fb), (.int v), (.int (5 : Int32)), (.int ix), (.int (3 : Int32)), (.ref ob1)])) rfl (by rw [hml]; rfl) (argsL := [(.ref ob1), (.int (3 : Int32)), (.int ix), (.int (5 : Int32)), (.int v), (.int fb)]) (rest := []) (lenOf pd0_2 rfl) rfl (by show 2 * 0 + _ ≤ _; exact Nat.le_of_eq rfl) (hb hby at_175) (fun _ _ => ⟨rfl, eq60, (by decide : 1 + 0 ≤ _), (by decide : 10 + 0 ≤ _)⟩)
    dsimp only [Pt.U, Pt.locs, Pt.cells, Pt.slots] at X61 l61 y61 z61 st61 hQ61
    obtain rfl : k61 = 1 := y61
    obtain rfl : n61 = 10 := z61
    obtain ⟨rfl, N61q, eq61⟩ := hQ61
    have N61 : Fr n0 L61 := by rw [l61]; exact Fr.app N60 N61q
    clear l61
    refine Runs.back st61 ?_
    show Runs _ _ _ _ T61 (mkF m 178 #[.val (.int p0), .val (.int p1), .val (.int p2), .val (.int p3), .val (.int v), .val (.int ix), .val (.int fb), .val (.ref ob1), .val (.int (5 : Int32)), .val (.int (ix + (5 : Int32)))] [(.int (1 : Int32))])
    refine Runs.back (fun t_ k_ => XS.ifNo X61.here hx rfl (hb hby at_178) rfl ((if0 _ _).trans (feq (show ¬ ((1 : Int32) = (0 : Int32)) from (by decide))).1) k_) ?_
    show Runs _ _ _ _ T61 (mkF m 181 #[.val (.int p0), .val (.int p1), .val (.int p2), .val (.int p3), .val (.int v), .val (.int ix), .val (.int fb), .val (.ref ob1), .val (.int (5 : Int32)), .val (.int (ix + (5 : Int32)))] [])
    refine Runs.back (fun t_ k_ => XS.aload X61.here hx rfl (hb hby at_181) rfl rfl k_) ?_
    show Runs _ _ _ _ T61 (mkF m 183 #[.val (.int p0), .val (.int p1), .val (.int p2), .val (.int p3), .val (.int v), .val (.int ix), .val (.int fb), .val (.ref ob1), .val (.int (5 : Int32)), .val (.int (ix + (5 : Int32)))] [(.ref ob1)])
    refine Runs.back (fun t_ k_ => XS.iconst X61.here hx rfl (hb hby at_183) k_) ?_
    show Runs _ _ _ _ T61 (mkF m 184 #[.val (.int p0), .val (.int p1), .val (.int p2), .val (.int p3), .val (.int v), .val (.int ix), .val (.int fb), .val (.ref ob1), .val (.int (5 : Int32)), .val (.int (ix + (5 : Int32)))] [(.int (4 : Int32)), (.ref ob1)])
    refine Runs.back (fun t_ k_ => XS.iload X61.here hx rfl (hb hby at_184) rfl k_) ?_
    show Runs _ _ _ _ T61 (mkF m 186 #[.val (.int p0), .val (.int p1), .val (.int p2), .val (.int p3), .val (.int v), .val (.int ix), .val (.int fb), .val (.ref ob1), .val (.int (5 : Int32)), .val (.int (ix + (5 : Int32)))] [(.int ix), (.int (4 : Int32)), (.ref ob1)])
    refine Runs.back (fun t_ k_ => XS.iload X61.here hx rfl (hb hby at_186) rfl k_) ?_
    show Runs _ _ _ _ T61 (mkF m 188 #[.val (.int p0), .val (.int p1), .val (.int p2), .val (.int p3), .val (.int v), .val (.int ix), .val (.int fb), .val (.ref ob1), .val (.int (5 : Int32)), .val (.int (ix + (5 : Int32)))] [(.int (5 : Int32)), (.int ix), (.int (4 : Int32)), (.ref ob1)])
    refine Runs.back (fun t_ k_ => XS.iload X61.here hx rfl (hb hby at_188) rfl k_) ?_
    show Runs _ _ _ _ T61 (mkF m 190 #[.val (.int p0), .val (.int p1), .val (.int p2), .val (.int p3), .val (.int v), .val (.int ix), .val (.int fb), .val (.ref ob1), .val (.int (5 : Int32)), .val (.int (ix + (5 : Int32)))] [(.int v), (.int (5 : Int32)), (.int ix), (.int (4 : Int32)), (.ref ob1)])
    refine Runs.back (fun t_ k_ => XS.iload X61.here hx rfl (hb hby at_190) rfl k_) ?_
    show Runs _ _ _ _ T61 (mkF m 192 #[.val (.int p0), .val (.int p1), .val (.int p2), .val (.int p3), .val (.int v), .val (.int ix), .val (.int fb), .val (.ref ob1), .val (.int (5 : Int32)), .val (.int (ix + (5 : Int32)))] [(.int fb), (.int v), (.int (5 : Int32)), (.int ix), (.int (4 : Int32)), (.ref ob1)])
    obtain ⟨_, _, ⟨T62, L62, k62, n62⟩, -, X62, ⟨Lc62, hQ62, l62, y62, z62⟩, st62⟩ := Jvm.LawKit.callS X61 hx (y := (⟨"com/example/strict_distinct/strictdistinct/KeyBytesWriteLengthPinLaw", "at", "([BIIIIB)Z"⟩ : MethodName)) hown (mvT hZ (hw _ (List.mem_of_getElem? (i := 10) rfl))) (mvT hZ (hw _ (List.mem_of_getElem? (i := 11) rfl))) (mvT hZ (hw _ (List.mem_of_getElem? (i := 4) rfl))) (mvT hZ (hw _ (List.mem_of_getElem? (i := 12) rfl))) (by decide) (backOf (W := 0) (rm3 l Z a0 hw [] ob1 (4 : Int32) ix (5 : Int32) v fb 5 V k 4 fb T57.heap n0 (Z57) wA57 (by decide) (by decide) (by decide) (by decide) hkI hk4 (by decide) (by decide) hV hVc hV3 rfl) hZ (hw _ (List.mem_of_getElem? (i := 12) rfl)) (hw _ (List.mem_of_getElem? (i := 4) rfl)) (by decide) (by decide)) (g := (mkF m 192 #[.val (.int p0), .val (.int p1), .val (.int p2), .val (.int p3), .val (.int v), .val (.int ix), .val (.int fb), .val (.ref ob1), .val (.int (5 : Int32)), .val (.int (ix + (5 : Int32)))] [(.int fb), (.int v), (.int (5 : Int32)), (.int ix), (.int (4 : Int32)), (.ref ob1)])) rfl (by rw [hml]; rfl) (argsL := [(.ref ob1), (.int (4 : Int32)), (.int ix), (.int (5 : Int32)), (.int v), (.int fb)]) (rest := []) (lenOf pd0_2 rfl) rfl (by show 2 * 0 + _ ≤ _; exact Nat.le_of_eq rfl) (hb hby at_192) (fun _ _ => ⟨rfl, eq61, (by decide : 1 + 0 ≤ _), (by decide : 10 + 0 ≤ _)⟩)
    dsimp only [Pt.U, Pt.locs, Pt.cells, Pt.slots] at X62 l62 y62 z62 st62 hQ62
    obtain rfl : k62 = 1 := y62
    obtain rfl : n62 = 10 := z62
    obtain ⟨rfl, N62q, eq62⟩ := hQ62
    have N62 : Fr n0 L62 := by rw [l62]; exact Fr.app N61 N62q
    clear l62
    refine Runs.back st62 ?_
    show Runs _ _ _ _ T62 (mkF m 195 #[.val (.int p0), .val (.int p1), .val (.int p2), .val (.int p3), .val (.int v), .val (.int ix), .val (.int fb), .val (.ref ob1), .val (.int (5 : Int32)), .val (.int (ix + (5 : Int32)))] [(.int (1 : Int32))])
    refine Runs.back (fun t_ k_ => XS.ifNo X62.here hx rfl (hb hby at_195) rfl ((if0 _ _).trans (feq (show ¬ ((1 : Int32) = (0 : Int32)) from (by decide))).1) k_) ?_
    show Runs _ _ _ _ T62 (mkF m 198 #[.val (.int p0), .val (.int p1), .val (.int p2), .val (.int p3), .val (.int v), .val (.int ix), .val (.int fb), .val (.ref ob1), .val (.int (5 : Int32)), .val (.int (ix + (5 : Int32)))] [])
    refine Runs.back (fun t_ k_ => XS.aload X62.here hx rfl (hb hby at_198) rfl rfl k_) ?_
    show Runs _ _ _ _ T62 (mkF m 200 #[.val (.int p0), .val (.int p1), .val (.int p2), .val (.int p3), .val (.int v), .val (.int ix), .val (.int fb), .val (.ref ob1), .val (.int (5 : Int32)), .val (.int (ix + (5 : Int32)))] [(.ref ob1)])
    refine Runs.back (fun t_ k_ => XS.iconst X62.here hx rfl (hb hby at_200) k_) ?_
    show Runs _ _ _ _ T62 (mkF m 201 #[.val (.int p0), .val (.int p1), .val (.int p2), .val (.int p3), .val (.int v), .val (.int ix), .val (.int fb), .val (.ref ob1), .val (.int (5 : Int32)), .val (.int (ix + (5 : Int32)))] [(.int (5 : Int32)), (.ref ob1)])
    refine Runs.back (fun t_ k_ => XS.iload X62.here hx rfl (hb hby at_201) rfl k_) ?_
    show Runs _ _ _ _ T62 (mkF m 203 #[.val (.int p0), .val (.int p1), .val (.int p2), .val (.int p3), .val (.int v), .val (.int ix), .val (.int fb), .val (.ref ob1), .val (.int (5 : Int32)), .val (.int (ix + (5 : Int32)))] [(.int ix), (.int (5 : Int32)), (.ref ob1)])
    refine Runs.back (fun t_ k_ => XS.iload X62.here hx rfl (hb hby at_203) rfl k_) ?_
    show Runs _ _ _ _ T62 (mkF m 205 #[.val (.int p0), .val (.int p1), .val (.int p2), .val (.int p3), .val (.int v), .val (.int ix), .val (.int fb), .val (.ref ob1), .val (.int (5 : Int32)), .val (.int (ix + (5 : Int32)))] [(.int (5 : Int32)), (.int ix), (.int (5 : Int32)), (.ref ob1)])
    refine Runs.back (fun t_ k_ => XS.iload X62.here hx rfl (hb hby at_205) rfl k_) ?_
    show Runs _ _ _ _ T62 (mkF m 207 #[.val (.int p0), .val (.int p1), .val (.int p2), .val (.int p3), .val (.int v), .val (.int ix), .val (.int fb), .val (.ref ob1), .val (.int (5 : Int32)), .val (.int (ix + (5 : Int32)))] [(.int v), (.int (5 : Int32)), (.int ix), (.int (5 : Int32)), (.ref ob1)])
    refine Runs.back (fun t_ k_ => XS.iload X62.here hx rfl (hb hby at_207) rfl k_) ?_
    show Runs _ _ _ _ T62 (mkF m 209 #[.val (.int p0), .val (.int p1), .val (.int p2), .val (.int p3), .val (.int v), .val (.int ix), .val (.int fb), .val (.ref ob1), .val (.int (5 : Int32)), .val (.int (ix + (5 : Int32)))] [(.int fb), (.int v), (.int (5 : Int32)), (.int ix), (.int (5 : Int32)), (.ref ob1)])
    obtain ⟨_, _, ⟨T63, L63, k63, n63⟩, -, X63, ⟨Lc63, hQ63, l63, y63, z63⟩, st63⟩ := Jvm.LawKit.callS X62 hx (y := (⟨"com/example/strict_distinct/strictdistinct/KeyBytesWriteLengthPinLaw", "at", "([BIIIIB)Z"⟩ : MethodName)) hown (mvT hZ (hw _ (List.mem_of_getElem? (i := 10) rfl))) (mvT hZ (hw _ (List.mem_of_getElem? (i := 11) rfl))) (mvT hZ (hw _ (List.mem_of_getElem? (i := 4) rfl))) (mvT hZ (hw _ (List.mem_of_getElem? (i := 12) rfl))) (by decide) (backOf (W := 0) (rm3 l Z a0 hw [] ob1 (5 : Int32) ix (5 : Int32) v fb 5 V k 5 fb T57.heap n0 (Z57) wA57 (by decide) (by decide) (by decide) (by decide) hkI hk4 (by decide) (by decide) hV hVc hV3 rfl) hZ (hw _ (List.mem_of_getElem? (i := 12) rfl)) (hw _ (List.mem_of_getElem? (i := 4) rfl)) (by decide) (by decide)) (g := (mkF m 209 #[.val (.int p0), .val (.int p1), .val (.int p2), .val (.int p3), .val (.int v), .val (.int ix), .val (.int fb), .val (.ref ob1), .val (.int (5 : Int32)), .val (.int (ix + (5 : Int32)))] [(.int fb), (.int v), (.int (5 : Int32)), (.int ix), (.int (5 : Int32)), (.ref ob1)])) rfl (by rw [hml]; rfl) (argsL := [(.ref ob1), (.int (5 : Int32)), (.int ix), (.int (5 : Int32)), (.int v), (.int fb)]) (rest := []) (lenOf pd0_2 rfl) rfl (by show 2 * 0 + _ ≤ _; exact Nat.le_of_eq rfl) (hb hby at_209) (fun _ _ => ⟨rfl, eq62, (by decide : 1 + 0 ≤ _), (by decide : 10 + 0 ≤ _)⟩)
    dsimp only [Pt.U, Pt.locs, Pt.cells, Pt.slots] at X63 l63 y63 z63 st63 hQ63
    obtain rfl : k63 = 1 := y63
    obtain rfl : n63 = 10 := z63
    obtain ⟨rfl, N63q, eq63⟩ := hQ63
    have N63 : Fr n0 L63 := by rw [l63]; exact Fr.app N62 N63q
    clear l63
    refine Runs.back st63 ?_
    show Runs _ _ _ _ T63 (mkF m 212 #[.val (.int p0), .val (.int p1), .val (.int p2), .val (.int p3), .val (.int v), .val (.int ix), .val (.int fb), .val (.ref ob1), .val (.int (5 : Int32)), .val (.int (ix + (5 : Int32)))] [(.int (1 : Int32))])
    refine Runs.back (fun t_ k_ => XS.ifNo X63.here hx rfl (hb hby at_212) rfl ((if0 _ _).trans (feq (show ¬ ((1 : Int32) = (0 : Int32)) from (by decide))).1) k_) ?_
    show Runs _ _ _ _ T63 (mkF m 215 #[.val (.int p0), .val (.int p1), .val (.int p2), .val (.int p3), .val (.int v), .val (.int ix), .val (.int fb), .val (.ref ob1), .val (.int (5 : Int32)), .val (.int (ix + (5 : Int32)))] [])
    refine Runs.back (fun t_ k_ => XS.aload X63.here hx rfl (hb hby at_215) rfl rfl k_) ?_
    show Runs _ _ _ _ T63 (mkF m 217 #[.val (.int p0), .val (.int p1), .val (.int p2), .val (.int p3), .val (.int v), .val (.int ix), .val (.int fb), .val (.ref ob1), .val (.int (5 : Int32)), .val (.int (ix + (5 : Int32)))] [(.ref ob1)])
    refine Runs.back (fun t_ k_ => XS.bipush X63.here hx rfl (hb hby at_217) k_) ?_
    show Runs _ _ _ _ T63 (mkF m 219 #[.val (.int p0), .val (.int p1), .val (.int p2), .val (.int p3), .val (.int v), .val (.int ix), .val (.int fb), .val (.ref ob1), .val (.int (5 : Int32)), .val (.int (ix + (5 : Int32)))] [(.int (6 : Int32)), (.ref ob1)])
    refine Runs.back (fun t_ k_ => XS.iload X63.here hx rfl (hb hby at_219) rfl k_) ?_
    show Runs _ _ _ _ T63 (mkF m 221 #[.val (.int p0), .val (.int p1), .val (.int p2), .val (.int p3), .val (.int v), .val (.int ix), .val (.int fb), .val (.ref ob1), .val (.int (5 : Int32)), .val (.int (ix + (5 : Int32)))] [(.int ix), (.int (6 : Int32)), (.ref ob1)])
    refine Runs.back (fun t_ k_ => XS.iload X63.here hx rfl (hb hby at_221) rfl k_) ?_
    show Runs _ _ _ _ T63 (mkF m 223 #[.val (.int p0), .val (.int p1), .val (.int p2), .val (.int p3), .val (.int v), .val (.int ix), .val (.int fb), .val (.ref ob1), .val (.int (5 : Int32)), .val (.int (ix + (5 : Int32)))] [(.int (5 : Int32)), (.int ix), (.int (6 : Int32)), (.ref ob1)])
    refine Runs.back (fun t_ k_ => XS.iload X63.here hx rfl (hb hby at_223) rfl k_) ?_
    show Runs _ _ _ _ T63 (mkF m 225 #[.val (.int p0), .val (.int p1), .val (.int p2), .val (.int p3), .val (.int v), .val (.int ix), .val (.int fb), .val (.ref ob1), .val (.int (5 : Int32)), .val (.int (ix + (5 : Int32)))] [(.int v), (.int (5 : Int32)), (.int ix), (.int (6 : Int32)), (.ref ob1)])
    refine Runs.back (fun t_ k_ => XS.iload X63.here hx rfl (hb hby at_225) rfl k_) ?_
    show Runs _ _ _ _ T63 (mkF m 227 #[.val (.int p0), .val (.int p1), .val (.int p2), .val (.int p3), .val (.int v), .val (.int ix), .val (.int fb), .val (.ref ob1), .val (.int (5 : Int32)), .val (.int (ix + (5 : Int32)))] [(.int fb), (.int v), (.int (5 : Int32)), (.int ix), (.int (6 : Int32)), (.ref ob1)])
    obtain ⟨_, _, ⟨T64, L64, k64, n64⟩, -, X64, ⟨Lc64, hQ64, l64, y64, z64⟩, st64⟩ := Jvm.LawKit.callS X63 hx (y := (⟨"com/example/strict_distinct/strictdistinct/KeyBytesWriteLengthPinLaw", "at", "([BIIIIB)Z"⟩ : MethodName)) hown (mvT hZ (hw _ (List.mem_of_getElem? (i := 10) rfl))) (mvT hZ (hw _ (List.mem_of_getElem? (i := 11) rfl))) (mvT hZ (hw _ (List.mem_of_getElem? (i := 4) rfl))) (mvT hZ (hw _ (List.mem_of_getElem? (i := 12) rfl))) (by decide) (backOf (W := 0) (rm3 l Z a0 hw [] ob1 (6 : Int32) ix (5 : Int32) v fb 5 V k 6 fb T57.heap n0 (Z57) wA57 (by decide) (by decide) (by decide) (by decide) hkI hk4 (by decide) (by decide) hV hVc hV3 rfl) hZ (hw _ (List.mem_of_getElem? (i := 12) rfl)) (hw _ (List.mem_of_getElem? (i := 4) rfl)) (by decide) (by decide)) (g := (mkF m 227 #[.val (.int p0), .val (.int p1), .val (.int p2), .val (.int p3), .val (.int v), .val (.int ix), .val (.int fb), .val (.ref ob1), .val (.int (5 : Int32)), .val (.int (ix + (5 : Int32)))] [(.int fb), (.int v), (.int (5 : Int32)), (.int ix), (.int (6 : Int32)), (.ref ob1)])) rfl (by rw [hml]; rfl) (argsL := [(.ref ob1), (.int (6 : Int32)), (.int ix), (.int (5 : Int32)), (.int v), (.int fb)]) (rest := []) (lenOf pd0_2 rfl) rfl (by show 2 * 0 + _ ≤ _; exact Nat.le_of_eq rfl) (hb hby at_227) (fun _ _ => ⟨rfl, eq63, (by decide : 1 + 0 ≤ _), (by decide : 10 + 0 ≤ _)⟩)
    dsimp only [Pt.U, Pt.locs, Pt.cells, Pt.slots] at X64 l64 y64 z64 st64 hQ64
    obtain rfl : k64 = 1 := y64
    obtain rfl : n64 = 10 := z64
    obtain ⟨rfl, N64q, eq64⟩ := hQ64
    have N64 : Fr n0 L64 := by rw [l64]; exact Fr.app N63 N64q
    clear l64
    refine Runs.back st64 ?_
    show Runs _ _ _ _ T64 (mkF m 230 #[.val (.int p0), .val (.int p1), .val (.int p2), .val (.int p3), .val (.int v), .val (.int ix), .val (.int fb), .val (.ref ob1), .val (.int (5 : Int32)), .val (.int (ix + (5 : Int32)))] [(.int (1 : Int32))])
    refine Runs.back (fun t_ k_ => XS.ifNo X64.here hx rfl (hb hby at_230) rfl ((if0 _ _).trans (feq (show ¬ ((1 : Int32) = (0 : Int32)) from (by decide))).1) k_) ?_
    show Runs _ _ _ _ T64 (mkF m 233 #[.val (.int p0), .val (.int p1), .val (.int p2), .val (.int p3), .val (.int v), .val (.int ix), .val (.int fb), .val (.ref ob1), .val (.int (5 : Int32)), .val (.int (ix + (5 : Int32)))] [])
    refine Runs.back (fun t_ k_ => XS.aload X64.here hx rfl (hb hby at_233) rfl rfl k_) ?_
    show Runs _ _ _ _ T64 (mkF m 235 #[.val (.int p0), .val (.int p1), .val (.int p2), .val (.int p3), .val (.int v), .val (.int ix), .val (.int fb), .val (.ref ob1), .val (.int (5 : Int32)), .val (.int (ix + (5 : Int32)))] [(.ref ob1)])
    refine Runs.back (fun t_ k_ => XS.bipush X64.here hx rfl (hb hby at_235) k_) ?_
    show Runs _ _ _ _ T64 (mkF m 237 #[.val (.int p0), .val (.int p1), .val (.int p2), .val (.int p3), .val (.int v), .val (.int ix), .val (.int fb), .val (.ref ob1), .val (.int (5 : Int32)), .val (.int (ix + (5 : Int32)))] [(.int (7 : Int32)), (.ref ob1)])
    refine Runs.back (fun t_ k_ => XS.iload X64.here hx rfl (hb hby at_237) rfl k_) ?_
    show Runs _ _ _ _ T64 (mkF m 239 #[.val (.int p0), .val (.int p1), .val (.int p2), .val (.int p3), .val (.int v), .val (.int ix), .val (.int fb), .val (.ref ob1), .val (.int (5 : Int32)), .val (.int (ix + (5 : Int32)))] [(.int ix), (.int (7 : Int32)), (.ref ob1)])
    refine Runs.back (fun t_ k_ => XS.iload X64.here hx rfl (hb hby at_239) rfl k_) ?_
    show Runs _ _ _ _ T64 (mkF m 241 #[.val (.int p0), .val (.int p1), .val (.int p2), .val (.int p3), .val (.int v), .val (.int ix), .val (.int fb), .val (.ref ob1), .val (.int (5 : Int32)), .val (.int (ix + (5 : Int32)))] [(.int (5 : Int32)), (.int ix), (.int (7 : Int32)), (.ref ob1)])
    refine Runs.back (fun t_ k_ => XS.iload X64.here hx rfl (hb hby at_241) rfl k_) ?_
    show Runs _ _ _ _ T64 (mkF m 243 #[.val (.int p0), .val (.int p1), .val (.int p2), .val (.int p3), .val (.int v), .val (.int ix), .val (.int fb), .val (.ref ob1), .val (.int (5 : Int32)), .val (.int (ix + (5 : Int32)))] [(.int v), (.int (5 : Int32)), (.int ix), (.int (7 : Int32)), (.ref ob1)])
    refine Runs.back (fun t_ k_ => XS.iload X64.here hx rfl (hb hby at_243) rfl k_) ?_
    show Runs _ _ _ _ T64 (mkF m 245 #[.val (.int p0), .val (.int p1), .val (.int p2), .val (.int p3), .val (.int v), .val (.int ix), .val (.int fb), .val (.ref ob1), .val (.int (5 : Int32)), .val (.int (ix + (5 : Int32)))] [(.int fb), (.int v), (.int (5 : Int32)), (.int ix), (.int (7 : Int32)), (.ref ob1)])
    obtain ⟨_, _, ⟨T65, L65, k65, n65⟩, -, X65, ⟨Lc65, hQ65, l65, y65, z65⟩, st65⟩ := Jvm.LawKit.callS X64 hx (y := (⟨"com/example/strict_distinct/strictdistinct/KeyBytesWriteLengthPinLaw", "at", "([BIIIIB)Z"⟩ : MethodName)) hown (mvT hZ (hw _ (List.mem_of_getElem? (i := 10) rfl))) (mvT hZ (hw _ (List.mem_of_getElem? (i := 11) rfl))) (mvT hZ (hw _ (List.mem_of_getElem? (i := 4) rfl))) (mvT hZ (hw _ (List.mem_of_getElem? (i := 12) rfl))) (by decide) (backOf (W := 0) (rm3 l Z a0 hw [] ob1 (7 : Int32) ix (5 : Int32) v fb 5 V k 7 fb T57.heap n0 (Z57) wA57 (by decide) (by decide) (by decide) (by decide) hkI hk4 (by decide) (by decide) hV hVc hV3 rfl) hZ (hw _ (List.mem_of_getElem? (i := 12) rfl)) (hw _ (List.mem_of_getElem? (i := 4) rfl)) (by decide) (by decide)) (g := (mkF m 245 #[.val (.int p0), .val (.int p1), .val (.int p2), .val (.int p3), .val (.int v), .val (.int ix), .val (.int fb), .val (.ref ob1), .val (.int (5 : Int32)), .val (.int (ix + (5 : Int32)))] [(.int fb), (.int v), (.int (5 : Int32)), (.int ix), (.int (7 : Int32)), (.ref ob1)])) rfl (by rw [hml]; rfl) (argsL := [(.ref ob1), (.int (7 : Int32)), (.int ix), (.int (5 : Int32)), (.int v), (.int fb)]) (rest := []) (lenOf pd0_2 rfl) rfl (by show 2 * 0 + _ ≤ _; exact Nat.le_of_eq rfl) (hb hby at_245) (fun _ _ => ⟨rfl, eq64, (by decide : 1 + 0 ≤ _), (by decide : 10 + 0 ≤ _)⟩)
    dsimp only [Pt.U, Pt.locs, Pt.cells, Pt.slots] at X65 l65 y65 z65 st65 hQ65
    obtain rfl : k65 = 1 := y65
    obtain rfl : n65 = 10 := z65
    obtain ⟨rfl, N65q, eq65⟩ := hQ65
    have N65 : Fr n0 L65 := by rw [l65]; exact Fr.app N64 N65q
    clear l65
    refine Runs.back st65 ?_
    show Runs _ _ _ _ T65 (mkF m 248 #[.val (.int p0), .val (.int p1), .val (.int p2), .val (.int p3), .val (.int v), .val (.int ix), .val (.int fb), .val (.ref ob1), .val (.int (5 : Int32)), .val (.int (ix + (5 : Int32)))] [(.int (1 : Int32))])
    refine Runs.back (fun t_ k_ => XS.ifNo X65.here hx rfl (hb hby at_248) rfl ((if0 _ _).trans (feq (show ¬ ((1 : Int32) = (0 : Int32)) from (by decide))).1) k_) ?_
    show Runs _ _ _ _ T65 (mkF m 251 #[.val (.int p0), .val (.int p1), .val (.int p2), .val (.int p3), .val (.int v), .val (.int ix), .val (.int fb), .val (.ref ob1), .val (.int (5 : Int32)), .val (.int (ix + (5 : Int32)))] [])
    refine Runs.back (fun t_ k_ => XS.aload X65.here hx rfl (hb hby at_251) rfl rfl k_) ?_
    show Runs _ _ _ _ T65 (mkF m 253 #[.val (.int p0), .val (.int p1), .val (.int p2), .val (.int p3), .val (.int v), .val (.int ix), .val (.int fb), .val (.ref ob1), .val (.int (5 : Int32)), .val (.int (ix + (5 : Int32)))] [(.ref ob1)])
    refine Runs.back (fun t_ k_ => XS.bipush X65.here hx rfl (hb hby at_253) k_) ?_
    show Runs _ _ _ _ T65 (mkF m 255 #[.val (.int p0), .val (.int p1), .val (.int p2), .val (.int p3), .val (.int v), .val (.int ix), .val (.int fb), .val (.ref ob1), .val (.int (5 : Int32)), .val (.int (ix + (5 : Int32)))] [(.int (8 : Int32)), (.ref ob1)])
    refine Runs.back (fun t_ k_ => XS.iload X65.here hx rfl (hb hby at_255) rfl k_) ?_
    show Runs _ _ _ _ T65 (mkF m 257 #[.val (.int p0), .val (.int p1), .val (.int p2), .val (.int p3), .val (.int v), .val (.int ix), .val (.int fb), .val (.ref ob1), .val (.int (5 : Int32)), .val (.int (ix + (5 : Int32)))] [(.int ix), (.int (8 : Int32)), (.ref ob1)])
    refine Runs.back (fun t_ k_ => XS.iload X65.here hx rfl (hb hby at_257) rfl k_) ?_
    show Runs _ _ _ _ T65 (mkF m 259 #[.val (.int p0), .val (.int p1), .val (.int p2), .val (.int p3), .val (.int v), .val (.int ix), .val (.int fb), .val (.ref ob1), .val (.int (5 : Int32)), .val (.int (ix + (5 : Int32)))] [(.int (5 : Int32)), (.int ix), (.int (8 : Int32)), (.ref ob1)])
    refine Runs.back (fun t_ k_ => XS.iload X65.here hx rfl (hb hby at_259) rfl k_) ?_
    show Runs _ _ _ _ T65 (mkF m 261 #[.val (.int p0), .val (.int p1), .val (.int p2), .val (.int p3), .val (.int v), .val (.int ix), .val (.int fb), .val (.ref ob1), .val (.int (5 : Int32)), .val (.int (ix + (5 : Int32)))] [(.int v), (.int (5 : Int32)), (.int ix), (.int (8 : Int32)), (.ref ob1)])
    refine Runs.back (fun t_ k_ => XS.iload X65.here hx rfl (hb hby at_261) rfl k_) ?_
    show Runs _ _ _ _ T65 (mkF m 263 #[.val (.int p0), .val (.int p1), .val (.int p2), .val (.int p3), .val (.int v), .val (.int ix), .val (.int fb), .val (.ref ob1), .val (.int (5 : Int32)), .val (.int (ix + (5 : Int32)))] [(.int fb), (.int v), (.int (5 : Int32)), (.int ix), (.int (8 : Int32)), (.ref ob1)])
    obtain ⟨_, _, ⟨T66, L66, k66, n66⟩, -, X66, ⟨Lc66, hQ66, l66, y66, z66⟩, st66⟩ := Jvm.LawKit.callS X65 hx (y := (⟨"com/example/strict_distinct/strictdistinct/KeyBytesWriteLengthPinLaw", "at", "([BIIIIB)Z"⟩ : MethodName)) hown (mvT hZ (hw _ (List.mem_of_getElem? (i := 10) rfl))) (mvT hZ (hw _ (List.mem_of_getElem? (i := 11) rfl))) (mvT hZ (hw _ (List.mem_of_getElem? (i := 4) rfl))) (mvT hZ (hw _ (List.mem_of_getElem? (i := 12) rfl))) (by decide) (backOf (W := 0) (rm3 l Z a0 hw [] ob1 (8 : Int32) ix (5 : Int32) v fb 5 V k 8 fb T57.heap n0 (Z57) wA57 (by decide) (by decide) (by decide) (by decide) hkI hk4 (by decide) (by decide) hV hVc hV3 rfl) hZ (hw _ (List.mem_of_getElem? (i := 12) rfl)) (hw _ (List.mem_of_getElem? (i := 4) rfl)) (by decide) (by decide)) (g := (mkF m 263 #[.val (.int p0), .val (.int p1), .val (.int p2), .val (.int p3), .val (.int v), .val (.int ix), .val (.int fb), .val (.ref ob1), .val (.int (5 : Int32)), .val (.int (ix + (5 : Int32)))] [(.int fb), (.int v), (.int (5 : Int32)), (.int ix), (.int (8 : Int32)), (.ref ob1)])) rfl (by rw [hml]; rfl) (argsL := [(.ref ob1), (.int (8 : Int32)), (.int ix), (.int (5 : Int32)), (.int v), (.int fb)]) (rest := []) (lenOf pd0_2 rfl) rfl (by show 2 * 0 + _ ≤ _; exact Nat.le_of_eq rfl) (hb hby at_263) (fun _ _ => ⟨rfl, eq65, (by decide : 1 + 0 ≤ _), (by decide : 10 + 0 ≤ _)⟩)
    dsimp only [Pt.U, Pt.locs, Pt.cells, Pt.slots] at X66 l66 y66 z66 st66 hQ66
    obtain rfl : k66 = 1 := y66
    obtain rfl : n66 = 10 := z66
    obtain ⟨rfl, N66q, eq66⟩ := hQ66
    have N66 : Fr n0 L66 := by rw [l66]; exact Fr.app N65 N66q
    clear l66
    refine Runs.back st66 ?_
    show Runs _ _ _ _ T66 (mkF m 266 #[.val (.int p0), .val (.int p1), .val (.int p2), .val (.int p3), .val (.int v), .val (.int ix), .val (.int fb), .val (.ref ob1), .val (.int (5 : Int32)), .val (.int (ix + (5 : Int32)))] [(.int (1 : Int32))])
    refine Runs.back (fun t_ k_ => XS.ifNo X66.here hx rfl (hb hby at_266) rfl ((if0 _ _).trans (feq (show ¬ ((1 : Int32) = (0 : Int32)) from (by decide))).1) k_) ?_
    show Runs _ _ _ _ T66 (mkF m 269 #[.val (.int p0), .val (.int p1), .val (.int p2), .val (.int p3), .val (.int v), .val (.int ix), .val (.int fb), .val (.ref ob1), .val (.int (5 : Int32)), .val (.int (ix + (5 : Int32)))] [])
    refine Runs.back (fun t_ k_ => XS.aload X66.here hx rfl (hb hby at_269) rfl rfl k_) ?_
    show Runs _ _ _ _ T66 (mkF m 271 #[.val (.int p0), .val (.int p1), .val (.int p2), .val (.int p3), .val (.int v), .val (.int ix), .val (.int fb), .val (.ref ob1), .val (.int (5 : Int32)), .val (.int (ix + (5 : Int32)))] [(.ref ob1)])
    refine Runs.back (fun t_ k_ => XS.bipush X66.here hx rfl (hb hby at_271) k_) ?_
    show Runs _ _ _ _ T66 (mkF m 273 #[.val (.int p0), .val (.int p1), .val (.int p2), .val (.int p3), .val (.int v), .val (.int ix), .val (.int fb), .val (.ref ob1), .val (.int (5 : Int32)), .val (.int (ix + (5 : Int32)))] [(.int (9 : Int32)), (.ref ob1)])
    refine Runs.back (fun t_ k_ => XS.iload X66.here hx rfl (hb hby at_273) rfl k_) ?_
    show Runs _ _ _ _ T66 (mkF m 275 #[.val (.int p0), .val (.int p1), .val (.int p2), .val (.int p3), .val (.int v), .val (.int ix), .val (.int fb), .val (.ref ob1), .val (.int (5 : Int32)), .val (.int (ix + (5 : Int32)))] [(.int ix), (.int (9 : Int32)), (.ref ob1)])
    refine Runs.back (fun t_ k_ => XS.iload X66.here hx rfl (hb hby at_275) rfl k_) ?_
    show Runs _ _ _ _ T66 (mkF m 277 #[.val (.int p0), .val (.int p1), .val (.int p2), .val (.int p3), .val (.int v), .val (.int ix), .val (.int fb), .val (.ref ob1), .val (.int (5 : Int32)), .val (.int (ix + (5 : Int32)))] [(.int (5 : Int32)), (.int ix), (.int (9 : Int32)), (.ref ob1)])
    refine Runs.back (fun t_ k_ => XS.iload X66.here hx rfl (hb hby at_277) rfl k_) ?_
    show Runs _ _ _ _ T66 (mkF m 279 #[.val (.int p0), .val (.int p1), .val (.int p2), .val (.int p3), .val (.int v), .val (.int ix), .val (.int fb), .val (.ref ob1), .val (.int (5 : Int32)), .val (.int (ix + (5 : Int32)))] [(.int v), (.int (5 : Int32)), (.int ix), (.int (9 : Int32)), (.ref ob1)])
    refine Runs.back (fun t_ k_ => XS.iload X66.here hx rfl (hb hby at_279) rfl k_) ?_
    show Runs _ _ _ _ T66 (mkF m 281 #[.val (.int p0), .val (.int p1), .val (.int p2), .val (.int p3), .val (.int v), .val (.int ix), .val (.int fb), .val (.ref ob1), .val (.int (5 : Int32)), .val (.int (ix + (5 : Int32)))] [(.int fb), (.int v), (.int (5 : Int32)), (.int ix), (.int (9 : Int32)), (.ref ob1)])
    obtain ⟨_, _, ⟨T67, L67, k67, n67⟩, -, X67, ⟨Lc67, hQ67, l67, y67, z67⟩, st67⟩ := Jvm.LawKit.callS X66 hx (y := (⟨"com/example/strict_distinct/strictdistinct/KeyBytesWriteLengthPinLaw", "at", "([BIIIIB)Z"⟩ : MethodName)) hown (mvT hZ (hw _ (List.mem_of_getElem? (i := 10) rfl))) (mvT hZ (hw _ (List.mem_of_getElem? (i := 11) rfl))) (mvT hZ (hw _ (List.mem_of_getElem? (i := 4) rfl))) (mvT hZ (hw _ (List.mem_of_getElem? (i := 12) rfl))) (by decide) (backOf (W := 0) (rm3 l Z a0 hw [] ob1 (9 : Int32) ix (5 : Int32) v fb 5 V k 9 fb T57.heap n0 (Z57) wA57 (by decide) (by decide) (by decide) (by decide) hkI hk4 (by decide) (by decide) hV hVc hV3 rfl) hZ (hw _ (List.mem_of_getElem? (i := 12) rfl)) (hw _ (List.mem_of_getElem? (i := 4) rfl)) (by decide) (by decide)) (g := (mkF m 281 #[.val (.int p0), .val (.int p1), .val (.int p2), .val (.int p3), .val (.int v), .val (.int ix), .val (.int fb), .val (.ref ob1), .val (.int (5 : Int32)), .val (.int (ix + (5 : Int32)))] [(.int fb), (.int v), (.int (5 : Int32)), (.int ix), (.int (9 : Int32)), (.ref ob1)])) rfl (by rw [hml]; rfl) (argsL := [(.ref ob1), (.int (9 : Int32)), (.int ix), (.int (5 : Int32)), (.int v), (.int fb)]) (rest := []) (lenOf pd0_2 rfl) rfl (by show 2 * 0 + _ ≤ _; exact Nat.le_of_eq rfl) (hb hby at_281) (fun _ _ => ⟨rfl, eq66, (by decide : 1 + 0 ≤ _), (by decide : 10 + 0 ≤ _)⟩)
    dsimp only [Pt.U, Pt.locs, Pt.cells, Pt.slots] at X67 l67 y67 z67 st67 hQ67
    obtain rfl : k67 = 1 := y67
    obtain rfl : n67 = 10 := z67
    obtain ⟨rfl, N67q, eq67⟩ := hQ67
    have N67 : Fr n0 L67 := by rw [l67]; exact Fr.app N66 N67q
    clear l67
    refine Runs.back st67 ?_
    show Runs _ _ _ _ T67 (mkF m 284 #[.val (.int p0), .val (.int p1), .val (.int p2), .val (.int p3), .val (.int v), .val (.int ix), .val (.int fb), .val (.ref ob1), .val (.int (5 : Int32)), .val (.int (ix + (5 : Int32)))] [(.int (1 : Int32))])
    refine Runs.back (fun t_ k_ => XS.ifNo X67.here hx rfl (hb hby at_284) rfl ((if0 _ _).trans (feq (show ¬ ((1 : Int32) = (0 : Int32)) from (by decide))).1) k_) ?_
    show Runs _ _ _ _ T67 (mkF m 287 #[.val (.int p0), .val (.int p1), .val (.int p2), .val (.int p3), .val (.int v), .val (.int ix), .val (.int fb), .val (.ref ob1), .val (.int (5 : Int32)), .val (.int (ix + (5 : Int32)))] [])
    refine Runs.back (fun t_ k_ => XS.iconst X67.here hx rfl (hb hby at_287) k_) ?_
    show Runs _ _ _ _ T67 (mkF m 288 #[.val (.int p0), .val (.int p1), .val (.int p2), .val (.int p3), .val (.int v), .val (.int ix), .val (.int fb), .val (.ref ob1), .val (.int (5 : Int32)), .val (.int (ix + (5 : Int32)))] [(.int (1 : Int32))])
    refine Runs.back (fun t_ k_ => XS.goto X67.here hx rfl (pc0 := 288) (pc' := 292) rfl (hb hby at_288) (by decide) (by decide) k_) ?_
    show Runs _ _ _ _ T67 (mkF m 292 #[.val (.int p0), .val (.int p1), .val (.int p2), .val (.int p3), .val (.int v), .val (.int ix), .val (.int fb), .val (.ref ob1), .val (.int (5 : Int32)), .val (.int (ix + (5 : Int32)))] [(.int (1 : Int32))])
    obtain ⟨fs, hr, hrun, hended, hW, hsame⟩ := X67.leave (v := some (.int (1 : Int32))) (fun h => by rw [Bd.returns] at h; cases h)
    exact ⟨_, _, (retN X67 hx (t := .boolean) Bd.returns (by simp) (hb hby at_292) hr), hrun, hended, _, _, rfl, ⟨rfl, N67⟩, ⟨_, rfl⟩, hW, hsame.mono (by decide) (by decide)⟩
set_option maxRecDepth 65536 in
set_option maxHeartbeats 40000000 in
theorem comes_1 {Post : Tables → Env → Array Value → State → Outcome → State → Prop} (hpost : ∀ tb e args s v u, (limb_1_1.after args s (.returned v) u = true ∧ limb_1_2.after args s (.returned v) u = true ∧ True) → FrameEnd s (.returned v) u (Jvm.fieldLocs frame_1_writes args s ++ Jvm.arrayLocs frame_1_arrays args s ++ Jvm.staticLocs frame_1_statics s) 16 128 → Post tb e args s (.returned v) u) :
    ArmFor flags0 classFile x code maxLocals ret World_1 tables_1 room_1 Calls_1 rest_1 Pre_1 Post := by
  intro l hfl _ _ p e ha hc hk s m args below hf hA hF happ hP
  obtain ⟨hcalls, hrest, hpre⟩ := hP
  obtain ⟨-, -, -, hnamed, -, -, -, hat⟩ := (Spec.applies_iff hf).mp happ
  obtain ⟨hg, hn⟩ := and_e (Cond.before_iff.mp (show (Jvm.Cond.and given_1 narrow_1).before args s = true from hpre))
  obtain ⟨g0, gr0⟩ := and_e hg
  obtain ⟨g1, gr1⟩ := and_e gr0
  obtain ⟨g2, gr2⟩ := and_e gr1
  obtain ⟨g3, gr3⟩ := and_e gr2
  obtain ⟨w0, w1, w2, w3, rfl⟩ : ∃ w0 w1 w2 w3 : Value, args = #[w0, w1, w2, w3] := by
    have hs : args.size = 4 := by simpa [Cond.value, given_1] using g0
    obtain ⟨L⟩ := args
    match L, hs with
    | [w0, w1, w2, w3], _ => exact ⟨w0, w1, w2, w3, rfl⟩
  have hw := fun d (hd : d ∈ tables_1) => atoms_spec (ws := Jvm.Cond.code x code maxLocals ret :: tables_1) hat d (List.mem_cons_of_mem _ hd)
  obtain ⟨i0, ei0⟩ := is_v g1
  obtain rfl : w0 = (.int i0) := Option.some.inj ei0
  obtain ⟨i1, ei1⟩ := is_v g2
  obtain rfl : w1 = (.int i1) := Option.some.inj ei1
  obtain ⟨i2, ei2⟩ := is_v g3
  obtain rfl : w2 = (.int i2) := Option.some.inj ei2
  obtain ⟨i3, ei3⟩ := is_v gr3
  obtain rfl : w3 = (.int i3) := Option.some.inj ei3
  obtain ⟨n, o, h1, h2, h3, _, L, rfl, ⟨rfl, N⟩, hq⟩ := rm0 l s _ hw tables_1 i0 i1 i2 i3 s.heap s.heap.size (Nat.le_refl _) p e ha hc hk s m _ below hf ((Spec.applies_iff_loose hf).mp happ).1 ⟨rfl, State.Warmed39.refl s, rfl⟩ trivial
  refine ⟨n, _, h1, h2, h3, hpost _ _ _ _ _ _ ⟨Cond.after_iff.mpr rfl, Cond.after_iff.mpr (eq_i res_at (Term.int_eval (1)) rfl), trivial⟩ ⟨hq.1, hq.2.1, (hq.2.2.sift fun y hy => Or.inr (N y hy)).mono (by decide) (by decide)⟩⟩
theorem main_1_1 : Claimed_1_1 := comes_1 fun _ _ _ _ _ _ h hF => ⟨h.1, hF⟩
theorem main_1_2 : Claimed_1_2 := comes_1 fun _ _ _ _ _ _ h hF => ⟨h.2.1, hF⟩
end Jvm.Pilot.@@N@@
namespace Jvm.Pilot.@@N@@
open Jvm Jvm.ClassFile Sem Op Lib Jvm.Free Jvm.Stand Jvm.Pilot.@@N@@.Jvm.D
/-! MADE BY PROGRAM (witnessworld.py) out of the Statement's table words and the real class files: 9 classes; the members and pool entries that the words name. The judged class is class 1, her method 1. -/
namespace start1
open Jvm.ClassFile
def u (s : String) : CpInfo := .utf8 (stringToUtf16 s)
/-- a pool by its gaps: so many unusable entries, then the entry; so many at the end -/
def gap : Nat → List CpInfo → List CpInfo
  | 0, r => r
  | n + 1, r => .unusable :: gap n r
def poolList (es : List (Nat × CpInfo)) (last : Nat) : List CpInfo := es.foldr (fun e r => gap e.1 (e.2 :: r)) (gap last [])
def pool (es : List (Nat × CpInfo)) (last : Nat) : Array CpInfo := ⟨poolList es last⟩
def fileOf (pool : Array CpInfo) (this : Nat) (attrs : Array Attribute := #[]) (ms : Array MethodInfo := #[]) (fl : Nat := 33) (sup : Nat := 0) (ifs : Array Nat := #[]) (fds : Array FieldInfo := #[]) : ClassFile where
  minorVersion := 0
  majorVersion := 65
  constantPool := pool
  accessFlags := fl
  thisClass := this
  superClass := sup
  interfaces := ifs
  fields := fds
  methods := ms
  attributes := attrs
def plain (name : String) (sup : Option ClassId) : Class where
  name := name
  kind := .ordinary
  loader := none
  accessFlags := 33
  super := sup
  interfaces := #[]
  cf := none
  fields := #[]
  methods := #[]
  instanceTypes := #[]
  staticTypes := #[]
  resolved := #[]
  callSites := []
  init := .initialized
  statics := none
  mirror := none

def pool0 : Array CpInfo := pool [(5, u "<init>"), (0, u "()V"), (1, .class_ 10), (1, u "java/lang/Object")] 113

def k0m0 : Method := { name := "<init>", desc := "()V", sig := { parameters := [], returnType := none }, accessFlags := 1, code := none }
/-- java/lang/Object -/
def k0 : Class := { plain "java/lang/Object" none with
  accessFlags := 33
  interfaces := #[]
  cf := some (fileOf pool0 8 #[] #[{ accessFlags := 1, nameIndex := 5, descriptorIndex := 6, attributes := #[] }] 33 0 #[] #[])
  fields := #[]
  methods := #[k0m0]
  instanceTypes := #[]
  staticTypes := #[]
  resolved := Array.replicate 124 none
  statics := none }

def pool1 : Array CpInfo := pool [(2, .class_ 4), (1, u "java/lang/Object"), (0, u "<init>"), (0, u "()V"), (0, .integer 2147483647), (0, .methodref 9 10), (0, .class_ 11), (0, .nameAndType 12 13), (0, u "com/example/strict_distinct/strictdistinct/KeyBytesWriteLengthPinLaw"), (0, u "expectedSize"), (0, u "(I)I"), (0, .methodref 15 16), (0, .class_ 17), (0, .nameAndType 18 19), (0, u "com/example/strict_distinct/strictdistinct/KeyBytes"), (0, u "writeLength"), (0, u "([BII)I"), (0, .methodref 9 21), (0, .nameAndType 22 23), (0, u "at"), (0, u "([BIIIIB)Z"), (0, .integer 2097152), (0, .integer 268435456), (2, u "law"), (0, u "(IIII)Z")] 5

def k1m0 : Method := { name := "<init>", desc := "()V", sig := { parameters := [], returnType := none }, accessFlags := 2, code := none }
def k1c1 : Code := { maxStack := 6, maxLocals := 10, code := code, exceptionTable := #[], attributes := #[] }
def k1m1 : Method := { name := "law", desc := "(IIII)Z", sig := { parameters := [.int, .int, .int, .int], returnType := some .boolean }, accessFlags := 9, code := some k1c1 }
def k1c2 : Code := { maxStack := 2, maxLocals := 1, code := method_3_code, exceptionTable := #[], attributes := #[] }
def k1m2 : Method := { name := "expectedSize", desc := "(I)I", sig := { parameters := [.int], returnType := some .int }, accessFlags := 10, code := some k1c2 }
def k1c3 : Code := { maxStack := 3, maxLocals := 8, code := method_4_code, exceptionTable := #[], attributes := #[] }
def k1m3 : Method := { name := "at", desc := "([BIIIIB)Z", sig := { parameters := [(.array .byte), .int, .int, .int, .int, .byte], returnType := some .boolean }, accessFlags := 10, code := some k1c3 }
/-- com/example/strict_distinct/strictdistinct/KeyBytesWriteLengthPinLaw -/
def k1 : Class := { plain "com/example/strict_distinct/strictdistinct/KeyBytesWriteLengthPinLaw" (some 0) with
  accessFlags := 49
  interfaces := #[]
  cf := some (fileOf pool1 9 #[] #[{ accessFlags := 2, nameIndex := 5, descriptorIndex := 6, attributes := #[] }, { accessFlags := 9, nameIndex := 28, descriptorIndex := 29, attributes := #[] }, { accessFlags := 10, nameIndex := 12, descriptorIndex := 13, attributes := #[] }, { accessFlags := 10, nameIndex := 22, descriptorIndex := 23, attributes := #[] }] 49 2 #[] #[])
  fields := #[]
  methods := #[k1m0, k1m1, k1m2, k1m3]
  instanceTypes := #[]
  staticTypes := #[]
  resolved := Array.replicate 35 none
  statics := none }

def pool2 : Array CpInfo := pool [(3, .class_ 4), (0, u "com/example/strict_distinct/strictdistinct/KeyBytes"), (3, u "<init>"), (2, .class_ 13), (1, u "java/lang/Object"), (0, u "()V"), (2, u "bytes"), (0, u "[B"), (11, u "limit"), (0, u "I"), (2, u "overflow"), (0, u "Lcom/example/strict_distinct/strictdistinct/KeyBytes$Overflow;"), (3, u "length"), (6, u "keyStart"), (2, u "overflowing"), (0, u "Z"), (1, .class_ 54), (1, u "com/example/strict_distinct/strictdistinct/KeyBytes$Overflow"), (33, u "writeLength"), (22, u "([BII)I"), (20, u "INITIAL_CAPACITY"), (2, u "KEPT_CAPACITY"), (0, u "MAX_CAPACITY"), (0, u "SHORTEST_LIMIT")] 36

def k2m0 : Method := { name := "<init>", desc := "()V", sig := { parameters := [], returnType := none }, accessFlags := 0, code := none }
def k2c1 : Code := { maxStack := 4, maxLocals := 5, code := prog_18_method_15_code, exceptionTable := #[], attributes := #[] }
def k2m1 : Method := { name := "writeLength", desc := "([BII)I", sig := { parameters := [(.array .byte), .int, .int], returnType := some .int }, accessFlags := 8, code := some k2c1 }
/-- com/example/strict_distinct/strictdistinct/KeyBytes -/
def k2 : Class := { plain "com/example/strict_distinct/strictdistinct/KeyBytes" (some 0) with
  accessFlags := 48
  interfaces := #[]
  cf := some (fileOf pool2 3 #[.nestMembers #[52]] #[{ accessFlags := 0, nameIndex := 8, descriptorIndex := 14, attributes := #[] }, { accessFlags := 8, nameIndex := 88, descriptorIndex := 111, attributes := #[] }] 48 11 #[] #[{ accessFlags := 26, nameIndex := 132, descriptorIndex := 31, attributes := #[] }, { accessFlags := 26, nameIndex := 135, descriptorIndex := 31, attributes := #[] }, { accessFlags := 26, nameIndex := 136, descriptorIndex := 31, attributes := #[] }, { accessFlags := 26, nameIndex := 137, descriptorIndex := 31, attributes := #[] }, { accessFlags := 18, nameIndex := 30, descriptorIndex := 31, attributes := #[] }, { accessFlags := 18, nameIndex := 34, descriptorIndex := 35, attributes := #[] }, { accessFlags := 2, nameIndex := 17, descriptorIndex := 18, attributes := #[] }, { accessFlags := 2, nameIndex := 39, descriptorIndex := 31, attributes := #[] }, { accessFlags := 2, nameIndex := 46, descriptorIndex := 31, attributes := #[] }, { accessFlags := 2, nameIndex := 49, descriptorIndex := 50, attributes := #[] }])
  fields := #[{ name := "INITIAL_CAPACITY", type := .int, accessFlags := 26, slot := 0, constantValue := 0 }, { name := "KEPT_CAPACITY", type := .int, accessFlags := 26, slot := 1, constantValue := 0 }, { name := "MAX_CAPACITY", type := .int, accessFlags := 26, slot := 2, constantValue := 0 }, { name := "SHORTEST_LIMIT", type := .int, accessFlags := 26, slot := 3, constantValue := 0 }, { name := "limit", type := .int, accessFlags := 18, slot := 0, constantValue := 0 }, { name := "overflow", type := (.object "com/example/strict_distinct/strictdistinct/KeyBytes$Overflow"), accessFlags := 18, slot := 1, constantValue := 0 }, { name := "bytes", type := (.array .byte), accessFlags := 2, slot := 2, constantValue := 0 }, { name := "length", type := .int, accessFlags := 2, slot := 3, constantValue := 0 }, { name := "keyStart", type := .int, accessFlags := 2, slot := 4, constantValue := 0 }, { name := "overflowing", type := .boolean, accessFlags := 2, slot := 5, constantValue := 0 }]
  methods := #[k2m0, k2m1]
  instanceTypes := #[.int, (.object "com/example/strict_distinct/strictdistinct/KeyBytes$Overflow"), (.array .byte), .int, .int, .boolean]
  staticTypes := #[.int, .int, .int, .int]
  resolved := Array.replicate 174 none
  statics := none }

def pool3 : Array CpInfo := pool [(1, u "java/lang/Cloneable"), (0, .class_ 1), (0, u "java/lang/Object"), (0, .class_ 3)] 3

/-- java/lang/Cloneable -/
def k3 : Class := { plain "java/lang/Cloneable" (some 0) with
  accessFlags := 1537
  interfaces := #[]
  cf := some (fileOf pool3 2 #[] #[] 1537 4 #[] #[])
  fields := #[]
  methods := #[]
  instanceTypes := #[]
  staticTypes := #[]
  resolved := Array.replicate 8 none
  statics := none }

def pool4 : Array CpInfo := pool [(1, u "java/io/Serializable"), (0, .class_ 1), (0, u "java/lang/Object"), (0, .class_ 3)] 3

/-- java/io/Serializable -/
def k4 : Class := { plain "java/io/Serializable" (some 0) with
  accessFlags := 1537
  interfaces := #[]
  cf := some (fileOf pool4 2 #[] #[] 1537 4 #[] #[])
  fields := #[]
  methods := #[]
  instanceTypes := #[]
  staticTypes := #[]
  resolved := Array.replicate 8 none
  statics := none }

/-- the primitive byte -/
def k5 : Class := { plain "byte" none with kind := .primitive 'B', accessFlags := 0x411 }
/-- [B -/
def k6 : Class := { plain "[B" (some 0) with kind := .array 5 .byte, interfaces := #[3, 4], accessFlags := 1041 }

/-- the primitive int -/
def k7 : Class := { plain "int" none with kind := .primitive 'I', accessFlags := 0x411 }
/-- [I -/
def k8 : Class := { plain "[I" (some 0) with kind := .array 7 .int, interfaces := #[3, 4], accessFlags := 1041 }

def heap : Heap := #[]
def classes : Array Class := #[k0, k1, k2, k3, k4, k5, k6, k7, k8]
def interned : List (Array UInt16 × Addr) := []
def slotsUsed : Nat := 0
def theMethod : MethodId := ⟨1, 1⟩
def args0 : Array Value := #[.int 5, .int 6, .int 7, .int 8]
def aboutOver (below : List Frame) : State where
  vm := { classes := classes, interned := interned.toArray }
  heap := heap
  slotsUsed := slotsUsed
  threads := #[{ frames := .invoking theMethod args0 :: below }]
def below0 : List Frame := [.native { method := ⟨0, 0⟩, args := #[] }]
def about1 : State := aboutOver below0
def p0 : Program := .bare "" "" ""
def e0 : Env := launch0.env 0 0 0
theorem w_frames : about1.frames = Frame.invoking theMethod args0 :: below0 := rfl
set_option maxRecDepth 65536 in
theorem w_args : argsFit about1.vm theMethod args0 = true := by decide +kernel
set_option maxRecDepth 65536 in
theorem w_heap : heapFits about1 = true := by decide +kernel
set_option maxRecDepth 65536 in
theorem w_runnable : about1.curStatus? = some .runnable := by decide +kernel
set_option maxRecDepth 65536 in
theorem w_alone : about1.alone = true := by decide +kernel
set_option maxRecDepth 65536 in
theorem w_named : about1.methodNamed? x = some theMethod := by decide +kernel
set_option maxRecDepth 65536 in
theorem w_hears : about1.hears theMethod below0 = true := by decide +kernel
set_option maxRecDepth 65536 in
theorem w_ripe : about1.ripe theMethod args0 below0 = true := by decide +kernel
theorem w_running : about1.status = .running := rfl
set_option maxRecDepth 65536 in
theorem w_room : about1.hasRoom e0.platform room_1 = true :=
  launch0.hasRoom_least _ room_1 (by decide +kernel) (by decide +kernel) (by decide +kernel) (by decide +kernel) (by decide +kernel) (by decide +kernel)
theorem allAtoms_all (ts : List Jvm.Cond) (a : Array Jvm.Value) (st : Jvm.State) : (allAtoms ts).before a st = ts.all (fun c => c.before a st) := by
  induction ts with
  | nil => rfl
  | cons c t ih =>
    show (Jvm.Cond.and c (allAtoms t)).before a st = _
    rw [Jvm.Cond.before_and, ih, List.all_cons]
def words1 : List Jvm.Cond := Jvm.Cond.code x code maxLocals ret :: tables_1
/-- a 'code' word, met by the world's own term for the bytes: nothing is compared byte by byte -/
theorem code_word {y : MethodName} {bytes : ByteArray} {mx : Nat} {rt : Option FieldType} {a : Array Value} {s : State} {m : MethodId} {meth : Method} {c : Code} (h1 : s.methodNamed? y = some m) (h2 : s.vm.method? m = some meth) (h3 : meth.code = some c) (h4 : c.code = bytes)
    (h5 : (c.maxLocals == mx && c.exceptionTable.isEmpty && decide (c.maxStack ≤ mostOperands) && decide (meth.sig.returnType = rt) && !meth.locks && decide (parseMethodDescriptor y.desc = some meth.sig)) = true) : (Jvm.Cond.code y bytes mx rt).before a s = true := by
  simp only [Bool.and_eq_true, beq_iff_eq, Bool.not_eq_true', decide_eq_true_eq] at h5
  obtain ⟨⟨⟨⟨⟨g1, g2⟩, g3⟩, g4⟩, g5⟩, g6⟩ := h5
  simp [Cond.before, Cond.holds, Cond.value, h1, h2, h3, h4, g1, g2, g3, g4, g5, g6]
def isCode : Jvm.Cond → Bool
  | .code _ _ _ _ => true
  | _ => false
theorem all_split {L : List Jvm.Cond} {P : Jvm.Cond → Bool} (h1 : L.all (fun c => isCode c || P c) = true) (h2 : ∀ c ∈ L.filter isCode, P c = true) : L.all P = true := by
  refine List.all_eq_true.mpr fun c hc => ?_
  have h := List.all_eq_true.mp h1 c hc
  rcases Bool.eq_false_or_eq_true (isCode c) with hi | hi
  · exact h2 c (List.mem_filter.mpr ⟨hc, hi⟩)
  · simpa [hi] using h
set_option maxRecDepth 65536 in
theorem w_c0 : (Jvm.Cond.code x code maxLocals ret).before args0 about1 = true := code_word (m := ⟨1, 1⟩) (meth := k1m1) (c := k1c1) (by decide +kernel) rfl rfl rfl (by decide +kernel)
set_option maxRecDepth 65536 in
theorem w_c1 : (Jvm.Cond.code ({ cls := "com/example/strict_distinct/strictdistinct/KeyBytesWriteLengthPinLaw", name := "expectedSize", desc := "(I)I" } : Jvm.MethodName) method_3_code (1 : Nat) (Option.some Jvm.ClassFile.FieldType.int)).before args0 about1 = true := code_word (m := ⟨1, 2⟩) (meth := k1m2) (c := k1c2) (by decide +kernel) rfl rfl rfl (by decide +kernel)
set_option maxRecDepth 65536 in
theorem w_c2 : (Jvm.Cond.code ({ cls := "com/example/strict_distinct/strictdistinct/KeyBytes", name := "writeLength", desc := "([BII)I" } : Jvm.MethodName) prog_18_method_15_code (5 : Nat) (Option.some Jvm.ClassFile.FieldType.int)).before args0 about1 = true := code_word (m := ⟨2, 1⟩) (meth := k2m1) (c := k2c1) (by decide +kernel) rfl rfl rfl (by decide +kernel)
set_option maxRecDepth 65536 in
theorem w_c3 : (Jvm.Cond.code ({ cls := "com/example/strict_distinct/strictdistinct/KeyBytesWriteLengthPinLaw", name := "at", desc := "([BIIIIB)Z" } : Jvm.MethodName) method_4_code (8 : Nat) (Option.some Jvm.ClassFile.FieldType.boolean)).before args0 about1 = true := code_word (m := ⟨1, 3⟩) (meth := k1m3) (c := k1c3) (by decide +kernel) rfl rfl rfl (by decide +kernel)
def codes1 : List Jvm.Cond := [Jvm.Cond.code x code maxLocals ret, Jvm.Cond.code ({ cls := "com/example/strict_distinct/strictdistinct/KeyBytesWriteLengthPinLaw", name := "expectedSize", desc := "(I)I" } : Jvm.MethodName) method_3_code (1 : Nat) (Option.some Jvm.ClassFile.FieldType.int), Jvm.Cond.code ({ cls := "com/example/strict_distinct/strictdistinct/KeyBytes", name := "writeLength", desc := "([BII)I" } : Jvm.MethodName) prog_18_method_15_code (5 : Nat) (Option.some Jvm.ClassFile.FieldType.int), Jvm.Cond.code ({ cls := "com/example/strict_distinct/strictdistinct/KeyBytesWriteLengthPinLaw", name := "at", desc := "([BIIIIB)Z" } : Jvm.MethodName) method_4_code (8 : Nat) (Option.some Jvm.ClassFile.FieldType.boolean)]
set_option maxRecDepth 65536 in
theorem codes_eq : words1.filter isCode = codes1 := rfl
theorem w_codes : ∀ c ∈ words1.filter isCode, c.before args0 about1 = true := by
  rw [codes_eq]
  intro c hc
  simp only [codes1, List.mem_cons, List.not_mem_nil, or_false] at hc
  rcases hc with rfl | rfl | rfl | rfl
  · exact w_c0
  · exact w_c1
  · exact w_c2
  · exact w_c3
set_option maxRecDepth 65536 in
theorem w_t1 : words1.all (fun c => isCode c || c.before args0 about1) = true := by decide +kernel
theorem w_tables : (allAtoms (Jvm.Cond.code x code maxLocals ret :: tables_1)).before args0 about1 = true := by
  rw [allAtoms_all]
  show words1.all (fun c => c.before args0 about1) = true
  refine all_split ?_ w_codes
  rw [w_t1]
set_option maxRecDepth 65536 in
theorem w_case : (Jvm.Cond.and given_1 narrow_1).before args0 about1 = true := by decide +kernel
theorem w_applies : (headSpec (Jvm.Cond.code x code maxLocals ret :: tables_1) room_1).applies x e0.platform about1 = true :=
  (Spec.applies_iff w_frames).mpr ⟨w_running, w_runnable, w_alone, w_named, w_hears, w_ripe, w_room, w_tables⟩
theorem atStart : AtStart classFile x code maxLocals ret World_1 tables_1 room_1 Calls_1 rest_1 Pre_1 launch0 p0 e0 about1 theMethod args0 below0 :=
  ⟨lists_1, trivial, launch0.admits_env _ _ _, launch0.least_env, fairChoices_fair.cas, fairChoices_fair.clock, w_frames, w_args, w_heap, w_applies, trivial, trivial, w_case⟩
end start1
theorem witness_1 : WitnessClaimed_1 := ⟨start1.p0, start1.e0, start1.about1, start1.theMethod, start1.args0, start1.below0, start1.atStart⟩
end Jvm.Pilot.@@N@@
