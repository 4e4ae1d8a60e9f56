import JvmDerived
import JvmDerived.Pilot.@@N@@Statement
import JvmDerived.Pilot.@@N@@Code
set_option linter.unusedVariables false
set_option linter.unusedSimpArgs false
namespace Jvm.RoadKit
open Sem ClassFile Op Lib Jvm.Stand Jvm.Free Jvm.LawKit
section New
variable {p : Program} {l : Launch} {e : Env} {R : Room} {s : State} {m : MethodId} {args : Array Value} {below : List Frame} {meth : Method} {c : Code} {T : State} {locs : List Loc} {cells slots : Nat}
theorem retI (X : Stand p l e R s m args below meth c T locs cells slots) (hx : p.tables.exec = Jvm.exec) {pc : Nat} {Ls : Array Slot} {z : Int32} {rest : List Value} (hret : meth.sig.returnType = some .int) (hd : decode c.code pc = .ok (.ireturn, 1)) {fs : List Frame}
    (hl : ∀ (f : JFrame) (acts : List Action), f.method = m → f.locked = none → f.entered = [] → (doReturn e (T.setTop f) acts (some (.int z))).1 = T.setFrames fs) : Steps p.tables e below (T.setTop (mkF m pc Ls (.int z :: rest))) (T.setFrames fs) := by
  have hm' : T.vm.method? m = some meth := X.method'
  have hn : narrow .int (.int z) = .int z := rfl
  show Steps p.tables e below (T.setTop { method := m, pc := pc, locals := Ls, stack := _ :: rest, locked := none }) _
  jvm_step X.here [X.here.top, hx, hd, hm', hret, hn]
  first | (intro acts; rw [hl _ acts rfl rfl rfl]) | rw [hl _ _ rfl rfl rfl]
  exact Steps.refl _
end New
end Jvm.RoadKit
namespace Jvm.Pilot.@@N@@
open Jvm Jvm.ClassFile Sem Op Lib Jvm.Free Jvm.Stand Jvm.LawKit Jvm.RoadKit Bundle Jvm.Pilot.@@N@@.Jvm.D
/-! the own kit: a run told backwards (Runs), arrays by a function of the place (OArr), the comparisons of longs -/
def Runs (tb : Tables) (e : Env) (below : List Frame) (R : State → Outcome → Prop) (T : State) (g : JFrame) : Prop := ∃ t o, Steps tb e below (T.setTop g) t ∧ R t o
section Own
variable {tb : Tables} {e : Env} {below : List Frame} {R : State → Outcome → Prop} {T T' : State} {g g' : JFrame}
theorem Runs.back (k : ∀ t, Steps tb e below (T'.setTop g') t → Steps tb e below (T.setTop g) t) (h : Runs tb e below R T' g') : Runs tb e below R T g := by
  obtain ⟨t, o, h1, h2⟩ := h; exact ⟨t, o, k t h1, h2⟩
theorem Runs.trans (k : Steps tb e below (T.setTop g) (T'.setTop g')) (h : Runs tb e below R T' g') : Runs tb e below R T g := by
  obtain ⟨t, o, h1, h2⟩ := h; exact ⟨t, o, Steps.trans k h1, h2⟩
theorem Runs.enter (q : g = g') (h : Runs tb e below R T g') : ∃ t o, Steps tb e below (T.setTop g) t ∧ R t o := by subst q; exact h
theorem Runs.join {α : Type} {P : α → Prop} {F : α → JFrame} (h : ∀ v, P v → Runs tb e below R T (F v)) (k : (∀ v, P v → Runs tb e below R T (F v)) → Runs tb e below R T g) : Runs tb e below R T g := k h
theorem Runs.joinT {α : Type} {P : α → State → Prop} {F : α → JFrame} (h : ∀ v T', P v T' → Runs tb e below R T' (F v)) (k : (∀ v T', P v T' → Runs tb e below R T' (F v)) → Runs tb e below R T g) : Runs tb e below R T g := k h
theorem lcT {x y : Int64} (h : x < y) : lcmpW x y < 0 := by
  have h1 : ¬ y < x := Int64.not_lt.mpr (Int64.le_of_lt h)
  have h2 : ¬ x = y := fun q => by subst q; exact Int64.lt_irrefl h
  simp [lcmpW, h1, h2]
theorem lcF {x y : Int64} (h : ¬ x < y) : ¬ lcmpW x y < 0 := by
  unfold lcmpW
  by_cases h1 : x > y
  · simp only [if_pos h1]; decide
  · have h2 : x = y := Int64.le_antisymm (Int64.not_lt.mp h1) (Int64.not_lt.mp h)
    simp only [if_neg h1, if_pos h2]; decide
theorem lcT' {x y : Int64} (h : y < x) : 0 < lcmpW x y := by
  unfold lcmpW; rw [if_pos h]; decide
theorem lcF' {x y : Int64} (h : ¬ y < x) : ¬ 0 < lcmpW x y := by
  unfold lcmpW
  have h1 : ¬ x > y := h
  simp only [if_neg h1]
  by_cases h2 : x = y
  · simp only [if_pos h2]; decide
  · simp only [if_neg h2]; decide
theorem lcE {x y : Int64} (h : x = y) : lcmpW x y = 0 := by
  have h1 : ¬ x > y := fun q => by subst h; exact Int64.lt_irrefl q
  unfold lcmpW; rw [if_neg h1, if_pos h]
theorem lcN {x y : Int64} (h : ¬ x = y) : ¬ lcmpW x y = 0 := by
  unfold lcmpW
  by_cases h1 : x > y
  · simp only [if_pos h1]; decide
  · simp only [if_neg h1, if_neg h]; decide
def OArr (Z : State) (h : Heap) (a : Addr) (ty : FieldType) (n : Nat) (f : Nat → Value) : Prop := ∃ c : Cell, Arr Z h a c ty ∧ c.slots.size = n ∧ ∀ i, i < n → c.slots[i]? = some (f i)
variable {Z : State} {h h' : Heap} {a b : Addr} {ty : FieldType} {n sl : Nat} {f : Nat → Value} {v : Value} {ws : List Addr}
theorem OArr.lt (F : OArr Z h a ty n f) : a < h.size := by obtain ⟨c, A, -⟩ := F; exact A.lt
theorem OArr.ext (F : OArr Z h a ty n f) (E : Ext h h') : OArr Z h' a ty n f := by obtain ⟨c, A, r⟩ := F; exact ⟨c, A.ext E, r⟩
theorem OArr.other (F : OArr Z h b ty n f) (W : Wr h h' a sl v) (q : b ≠ a) : OArr Z h' b ty n f := by obtain ⟨c, A, r⟩ := F; exact ⟨c, A.other W q, r⟩
theorem OArr.keep (F : OArr Z h a ty n f) (K : Keep h h' ws) (q : a ∉ ws) : OArr Z h' a ty n f := by obtain ⟨c, A, r⟩ := F; exact ⟨c, ⟨K.2.1 a c A.1 q, A.2⟩, r⟩
theorem OArr.congr (F : OArr Z h a ty n f) {f' : Nat → Value} (q : ∀ i, i < n → f i = f' i) : OArr Z h a ty n f' := by obtain ⟨c, A, r1, r2⟩ := F; exact ⟨c, A, r1, fun i hi => by rw [r2 i hi, q i hi]⟩
theorem OArr.set (F : OArr Z h a ty n f) (W : Wr h h' a sl v) : OArr Z h' a ty n (fun i => if i = sl then v else f i) := by
  obtain ⟨c, A, r1, r2⟩ := F
  obtain ⟨cell, e1, -, e3, -⟩ := id W
  cases e1.symm.trans A.1
  refine ⟨_, A.same W, by rw [sz_set]; exact r1, fun i hi => ?_⟩
  by_cases q : i = sl
  · subst q; simp [Cell.setSlot, e3]
  · simp only [if_neg q]; rw [← r2 i hi]; exact Array.getElem?_setIfInBounds_ne (Ne.symm q)
theorem OArr.new {cA : ClassId} {z : Int32} (A : Arr Z h a (newA cA ty z) ty) (q : z.toNatClampNeg = n) (hd : defaultValue ty = v) : OArr Z h a ty n (fun _ => v) :=
  ⟨_, A, by rw [sz_new]; exact q, fun i hi => by subst hd; simp [newA, q, hi]⟩
theorem inbO {j : Int32} {k : Nat} (ng : ¬ j < 0) (e : j.toNatClampNeg = k) (h : k < n) : ¬ (j < 0 ∨ n ≤ j.toNatClampNeg) := fun q => q.elim ng fun r => by rw [e] at r; exact absurd h (Nat.not_lt.mpr r)
theorem readO {c : Cell} {j : Int32} {k : Nat} (H : ∀ i, i < n → c.slots[i]? = some (f i)) (e : j.toNatClampNeg = k) (h : k < n) (q : f k = v) : c.slots[j.toNatClampNeg]? = some v := by rw [e, H k h, q]
theorem hideL {p : Program} {l : Launch} {R : Room} {s : State} {m : MethodId} {args : Array Value} {meth : Method} {c : Code} {locs : List Loc} {cells slots n0 : Nat} (X : Stand p l e R s m args below meth c T locs cells slots) (N : Fr n0 locs) : ∃ L, Stand p l e R s m args below meth c T L cells slots ∧ Fr n0 L := ⟨_, X, N⟩
theorem lti {x y : Int32} : x < y ↔ x.toInt < y.toInt := Int32.lt_iff_toInt_lt
theorem ltl {x y : Int64} : x < y ↔ x.toInt < y.toInt := Int64.lt_iff_toInt_lt
theorem eqi {x y : Int32} : x = y ↔ x.toInt = y.toInt := Int32.toInt_inj.symm
theorem eql {x y : Int64} : x = y ↔ x.toInt = y.toInt := Int64.toInt_inj.symm
end Own

theorem add32 {x y : Int32} (h1 : -2147483648 ≤ x.toInt + y.toInt) (h2 : x.toInt + y.toInt < 2147483648) : (x + y).toInt = x.toInt + y.toInt := by
  rw [Int32.toInt_add]; exact Int.bmod_eq_of_le (by omega) (by omega)
theorem sub32 {x y : Int32} (h1 : -2147483648 ≤ x.toInt - y.toInt) (h2 : x.toInt - y.toInt < 2147483648) : (x - y).toInt = x.toInt - y.toInt := by
  rw [Int32.toInt_sub]; exact Int.bmod_eq_of_le (by omega) (by omega)
theorem add64 {x y : Int64} (h1 : -9223372036854775808 ≤ x.toInt + y.toInt) (h2 : x.toInt + y.toInt < 9223372036854775808) : (x + y).toInt = x.toInt + y.toInt := by
  rw [Int64.toInt_add]; exact Int.bmod_eq_of_le (by omega) (by omega)
theorem sub64 {x y : Int64} (h1 : -9223372036854775808 ≤ x.toInt - y.toInt) (h2 : x.toInt - y.toInt < 9223372036854775808) : (x - y).toInt = x.toInt - y.toInt := by
  rw [Int64.toInt_sub]; exact Int.bmod_eq_of_le (by omega) (by omega)
theorem l2i' {x : Int64} (h1 : -2147483648 ≤ x.toInt) (h2 : x.toInt < 2147483648) : x.toInt32.toInt = x.toInt := by
  rw [Int64.toInt_toInt32]; exact Int.bmod_eq_of_le (by omega) (by omega)
theorem bd32 (x : Int32) : -2147483648 ≤ x.toInt ∧ x.toInt < 2147483648 := ⟨Int32.le_toInt x, Int32.toInt_lt x⟩
theorem takeE {c e p : Int32} : c.toInt64 < e.toInt64 + p.toInt64 ↔ c.toInt < e.toInt + p.toInt := by
  have b1 := bd32 e; have b2 := bd32 p
  rw [ltl, add64 (by rw [c_i2l, c_i2l]; omega) (by rw [c_i2l, c_i2l]; omega), c_i2l, c_i2l, c_i2l]
theorem takeC {c : Int32} {x y : Int64} (h1 : -9223372036854775808 ≤ x.toInt + y.toInt) (h2 : x.toInt + y.toInt < 9223372036854775808) : c.toInt64 < x + y ↔ c.toInt < x.toInt + y.toInt := by
  rw [ltl, add64 h1 h2, c_i2l]
theorem z32 : (0 : Int32).toInt = 0 := by decide
theorem o32 : (1 : Int32).toInt = 1 := by decide
theorem z64 : (0 : Int64).toInt = 0 := by decide
theorem o64 : (1 : Int64).toInt = 1 := by decide

def valI (v : Value) : Int32 := match v with | .int x => x | _ => 0
def dg (N i : Nat) : Nat := N / 256 ^ i % 256
def sumD (dl : Nat → Nat) (k : Nat) : Nat → Nat
  | 0 => 0
  | c + 1 => sumD dl k c + dl (k + c) * 256 ^ c
theorem sumD_eq (N k c : Nat) : sumD (dg N) k c = N / 256 ^ k % 256 ^ c := by
  induction c with
  | zero => simp [sumD, Nat.mod_one]
  | succ c ih =>
    rw [Nat.mod_pow_succ, ← ih, Nat.div_div_eq_div_mul, ← Nat.pow_add]
    show sumD (dg N) k c + N / 256 ^ (k + c) % 256 * 256 ^ c = _
    rw [Nat.mul_comm (256 ^ c)]
theorem m255L (x : Int64) : (x &&& (255 : Int64)).toInt = x.toInt % 256 := by
  rw [c_maskL x 255 8 (by decide) (by decide)]; rfl
def Cg (x y : Int) : Prop := (x - y) % 18446744073709551616 = 0
def HNq (a b : Int64) (N : Nat) : Prop := (N : Int) = a.toInt % 18446744073709551616 + 18446744073709551616 * (b.toInt % 18446744073709551616)
def LWQ (p3 : Int32) (c k : Nat) (dl : Nat → Nat) (h0 : Heap) (n0 : Nat) (v : Option Value) (h : Heap) (L : List Loc) : Prop := ∃ w : Int64, v = some (.long w) ∧ Fr n0 L ∧ h = h0 ∧ Cg w.toInt (p3.toInt * 72057594037927936 + ((sumD dl k c : Nat) : Int))
theorem lw0 {w : Int64} {y q : Int32} {D : Nat} {S : Int} (hq : q = (0 : Int32)) (hD : y.toInt % 256 = (D : Int)) (hw : Cg w.toInt S) (hS : S % 256 = 0) : Cg (w ||| (((y.toInt64) &&& (255 : Int64)) <<< (q &&& 0x3f).toInt64)).toInt (S + (D : Int) * 1) := by
  unfold Cg at *
  have m := m255L y.toInt64
  rw [c_i2l, hD] at m
  have sl := c_lshl ((y.toInt64) &&& (255 : Int64)) q 0 (by rw [hq]; decide)
  rw [m, show ((2 ^ 0 : Nat) : Int) = 1 from rfl] at sl
  have b1 := Int64.toInt_lt (((y.toInt64) &&& (255 : Int64)) <<< (q &&& 0x3f).toInt64); have b2 := Int64.le_toInt (((y.toInt64) &&& (255 : Int64)) <<< (q &&& 0x3f).toInt64)
  generalize (((y.toInt64) &&& (255 : Int64)) <<< (q &&& 0x3f).toInt64) = z at *
  have hD2 : 0 ≤ (D : Int) ∧ (D : Int) < 256 := by omega
  clear m hD
  have zv : z.toInt = (D : Int) * 1 := by omega
  clear sl b1 b2
  have o := c_orL w z 8 (by decide) 256 rfl (by omega) (by omega) (by omega)
  omega
theorem lw1 {w : Int64} {y q : Int32} {D : Nat} {S : Int} (hq : q = (8 : Int32)) (hD : y.toInt % 256 = (D : Int)) (hw : Cg w.toInt S) (hS : S % 65536 = 0) : Cg (w ||| (((y.toInt64) &&& (255 : Int64)) <<< (q &&& 0x3f).toInt64)).toInt (S + (D : Int) * 256) := by
  unfold Cg at *
  have m := m255L y.toInt64
  rw [c_i2l, hD] at m
  have sl := c_lshl ((y.toInt64) &&& (255 : Int64)) q 8 (by rw [hq]; decide)
  rw [m, show ((2 ^ 8 : Nat) : Int) = 256 from rfl] at sl
  have b1 := Int64.toInt_lt (((y.toInt64) &&& (255 : Int64)) <<< (q &&& 0x3f).toInt64); have b2 := Int64.le_toInt (((y.toInt64) &&& (255 : Int64)) <<< (q &&& 0x3f).toInt64)
  generalize (((y.toInt64) &&& (255 : Int64)) <<< (q &&& 0x3f).toInt64) = z at *
  have hD2 : 0 ≤ (D : Int) ∧ (D : Int) < 256 := by omega
  clear m hD
  have zv : z.toInt = (D : Int) * 256 := by omega
  clear sl b1 b2
  have o := c_orL w z 16 (by decide) 65536 rfl (by omega) (by omega) (by omega)
  omega
theorem lw2 {w : Int64} {y q : Int32} {D : Nat} {S : Int} (hq : q = (16 : Int32)) (hD : y.toInt % 256 = (D : Int)) (hw : Cg w.toInt S) (hS : S % 16777216 = 0) : Cg (w ||| (((y.toInt64) &&& (255 : Int64)) <<< (q &&& 0x3f).toInt64)).toInt (S + (D : Int) * 65536) := by
  unfold Cg at *
  have m := m255L y.toInt64
  rw [c_i2l, hD] at m
  have sl := c_lshl ((y.toInt64) &&& (255 : Int64)) q 16 (by rw [hq]; decide)
  rw [m, show ((2 ^ 16 : Nat) : Int) = 65536 from rfl] at sl
  have b1 := Int64.toInt_lt (((y.toInt64) &&& (255 : Int64)) <<< (q &&& 0x3f).toInt64); have b2 := Int64.le_toInt (((y.toInt64) &&& (255 : Int64)) <<< (q &&& 0x3f).toInt64)
  generalize (((y.toInt64) &&& (255 : Int64)) <<< (q &&& 0x3f).toInt64) = z at *
  have hD2 : 0 ≤ (D : Int) ∧ (D : Int) < 256 := by omega
  clear m hD
  have zv : z.toInt = (D : Int) * 65536 := by omega
  clear sl b1 b2
  have o := c_orL w z 24 (by decide) 16777216 rfl (by omega) (by omega) (by omega)
  omega
theorem lw3 {w : Int64} {y q : Int32} {D : Nat} {S : Int} (hq : q = (24 : Int32)) (hD : y.toInt % 256 = (D : Int)) (hw : Cg w.toInt S) (hS : S % 4294967296 = 0) : Cg (w ||| (((y.toInt64) &&& (255 : Int64)) <<< (q &&& 0x3f).toInt64)).toInt (S + (D : Int) * 16777216) := by
  unfold Cg at *
  have m := m255L y.toInt64
  rw [c_i2l, hD] at m
  have sl := c_lshl ((y.toInt64) &&& (255 : Int64)) q 24 (by rw [hq]; decide)
  rw [m, show ((2 ^ 24 : Nat) : Int) = 16777216 from rfl] at sl
  have b1 := Int64.toInt_lt (((y.toInt64) &&& (255 : Int64)) <<< (q &&& 0x3f).toInt64); have b2 := Int64.le_toInt (((y.toInt64) &&& (255 : Int64)) <<< (q &&& 0x3f).toInt64)
  generalize (((y.toInt64) &&& (255 : Int64)) <<< (q &&& 0x3f).toInt64) = z at *
  have hD2 : 0 ≤ (D : Int) ∧ (D : Int) < 256 := by omega
  clear m hD
  have zv : z.toInt = (D : Int) * 16777216 := by omega
  clear sl b1 b2
  have o := c_orL w z 32 (by decide) 4294967296 rfl (by omega) (by omega) (by omega)
  omega
theorem lw4 {w : Int64} {y q : Int32} {D : Nat} {S : Int} (hq : q = (32 : Int32)) (hD : y.toInt % 256 = (D : Int)) (hw : Cg w.toInt S) (hS : S % 1099511627776 = 0) : Cg (w ||| (((y.toInt64) &&& (255 : Int64)) <<< (q &&& 0x3f).toInt64)).toInt (S + (D : Int) * 4294967296) := by
  unfold Cg at *
  have m := m255L y.toInt64
  rw [c_i2l, hD] at m
  have sl := c_lshl ((y.toInt64) &&& (255 : Int64)) q 32 (by rw [hq]; decide)
  rw [m, show ((2 ^ 32 : Nat) : Int) = 4294967296 from rfl] at sl
  have b1 := Int64.toInt_lt (((y.toInt64) &&& (255 : Int64)) <<< (q &&& 0x3f).toInt64); have b2 := Int64.le_toInt (((y.toInt64) &&& (255 : Int64)) <<< (q &&& 0x3f).toInt64)
  generalize (((y.toInt64) &&& (255 : Int64)) <<< (q &&& 0x3f).toInt64) = z at *
  have hD2 : 0 ≤ (D : Int) ∧ (D : Int) < 256 := by omega
  clear m hD
  have zv : z.toInt = (D : Int) * 4294967296 := by omega
  clear sl b1 b2
  have o := c_orL w z 40 (by decide) 1099511627776 rfl (by omega) (by omega) (by omega)
  omega
theorem lw5 {w : Int64} {y q : Int32} {D : Nat} {S : Int} (hq : q = (40 : Int32)) (hD : y.toInt % 256 = (D : Int)) (hw : Cg w.toInt S) (hS : S % 281474976710656 = 0) : Cg (w ||| (((y.toInt64) &&& (255 : Int64)) <<< (q &&& 0x3f).toInt64)).toInt (S + (D : Int) * 1099511627776) := by
  unfold Cg at *
  have m := m255L y.toInt64
  rw [c_i2l, hD] at m
  have sl := c_lshl ((y.toInt64) &&& (255 : Int64)) q 40 (by rw [hq]; decide)
  rw [m, show ((2 ^ 40 : Nat) : Int) = 1099511627776 from rfl] at sl
  have b1 := Int64.toInt_lt (((y.toInt64) &&& (255 : Int64)) <<< (q &&& 0x3f).toInt64); have b2 := Int64.le_toInt (((y.toInt64) &&& (255 : Int64)) <<< (q &&& 0x3f).toInt64)
  generalize (((y.toInt64) &&& (255 : Int64)) <<< (q &&& 0x3f).toInt64) = z at *
  have hD2 : 0 ≤ (D : Int) ∧ (D : Int) < 256 := by omega
  clear m hD
  have zv : z.toInt = (D : Int) * 1099511627776 := by omega
  clear sl b1 b2
  have o := c_orL w z 48 (by decide) 281474976710656 rfl (by omega) (by omega) (by omega)
  omega
theorem lw6 {w : Int64} {y q : Int32} {D : Nat} {S : Int} (hq : q = (48 : Int32)) (hD : y.toInt % 256 = (D : Int)) (hw : Cg w.toInt S) (hS : S % 72057594037927936 = 0) : Cg (w ||| (((y.toInt64) &&& (255 : Int64)) <<< (q &&& 0x3f).toInt64)).toInt (S + (D : Int) * 281474976710656) := by
  unfold Cg at *
  have m := m255L y.toInt64
  rw [c_i2l, hD] at m
  have sl := c_lshl ((y.toInt64) &&& (255 : Int64)) q 48 (by rw [hq]; decide)
  rw [m, show ((2 ^ 48 : Nat) : Int) = 281474976710656 from rfl] at sl
  have b1 := Int64.toInt_lt (((y.toInt64) &&& (255 : Int64)) <<< (q &&& 0x3f).toInt64); have b2 := Int64.le_toInt (((y.toInt64) &&& (255 : Int64)) <<< (q &&& 0x3f).toInt64)
  generalize (((y.toInt64) &&& (255 : Int64)) <<< (q &&& 0x3f).toInt64) = z at *
  have hD2 : 0 ≤ (D : Int) ∧ (D : Int) < 256 := by omega
  clear m hD
  have zv : z.toInt = (D : Int) * 281474976710656 := by omega
  clear sl b1 b2
  have o := c_orL w z 56 (by decide) 72057594037927936 rfl (by omega) (by omega) (by omega)
  omega
theorem d1_0 : decode prog_29_method_7_code 0 = .ok (.iload_n 3, 1) := by decide +kernel
theorem d1_1 : decode prog_29_method_7_code 1 = .ok (.i2l, 1) := by decide +kernel
theorem d1_2 : decode prog_29_method_7_code 2 = .ok (.bipush 56, 2) := by decide +kernel
theorem d1_4 : decode prog_29_method_7_code 4 = .ok (.lshl, 1) := by decide +kernel
theorem d1_5 : decode prog_29_method_7_code 5 = .ok (.lstore 4, 2) := by decide +kernel
theorem d1_7 : decode prog_29_method_7_code 7 = .ok (.iload_n 2, 1) := by decide +kernel
theorem d1_8 : decode prog_29_method_7_code 8 = .ok (.iconst 1, 1) := by decide +kernel
theorem d1_9 : decode prog_29_method_7_code 9 = .ok (.isub, 1) := by decide +kernel
theorem d1_10 : decode prog_29_method_7_code 10 = .ok (.istore 6, 2) := by decide +kernel
theorem d1_12 : decode prog_29_method_7_code 12 = .ok (.iload 6, 2) := by decide +kernel
theorem d1_14 : decode prog_29_method_7_code 14 = .ok (.iload_n 1, 1) := by decide +kernel
theorem d1_15 : decode prog_29_method_7_code 15 = .ok (.if_icmp .lt 31, 3) := by decide +kernel
theorem d1_18 : decode prog_29_method_7_code 18 = .ok (.lload 4, 2) := by decide +kernel
theorem d1_20 : decode prog_29_method_7_code 20 = .ok (.aload_n 0, 1) := by decide +kernel
theorem d1_21 : decode prog_29_method_7_code 21 = .ok (.iload 6, 2) := by decide +kernel
theorem d1_23 : decode prog_29_method_7_code 23 = .ok (.baload, 1) := by decide +kernel
theorem d1_24 : decode prog_29_method_7_code 24 = .ok (.i2l, 1) := by decide +kernel
theorem d1_25 : decode prog_29_method_7_code 25 = .ok (.ldc2_w 63, 3) := by decide +kernel
theorem d1_28 : decode prog_29_method_7_code 28 = .ok (.land, 1) := by decide +kernel
theorem d1_29 : decode prog_29_method_7_code 29 = .ok (.bipush 8, 2) := by decide +kernel
theorem d1_31 : decode prog_29_method_7_code 31 = .ok (.iload 6, 2) := by decide +kernel
theorem d1_33 : decode prog_29_method_7_code 33 = .ok (.iload_n 1, 1) := by decide +kernel
theorem d1_34 : decode prog_29_method_7_code 34 = .ok (.isub, 1) := by decide +kernel
theorem d1_35 : decode prog_29_method_7_code 35 = .ok (.imul, 1) := by decide +kernel
theorem d1_36 : decode prog_29_method_7_code 36 = .ok (.lshl, 1) := by decide +kernel
theorem d1_37 : decode prog_29_method_7_code 37 = .ok (.lor, 1) := by decide +kernel
theorem d1_38 : decode prog_29_method_7_code 38 = .ok (.lstore 4, 2) := by decide +kernel
theorem d1_40 : decode prog_29_method_7_code 40 = .ok (.iinc 6 (-1), 3) := by decide +kernel
theorem d1_43 : decode prog_29_method_7_code 43 = .ok (.goto (-31), 3) := by decide +kernel
theorem d1_46 : decode prog_29_method_7_code 46 = .ok (.lload 4, 2) := by decide +kernel
theorem d1_48 : decode prog_29_method_7_code 48 = .ok (.lreturn, 1) := by decide +kernel
theorem pn_1c0 : plainName "com/example/strict_distinct/strictdistinct/SipHash" = true := by first | (simp [plainName, overriddenIn]; done) | decide +kernel
theorem ef_1c0 (m : MethodId) (r0 : Addr) (p1 : Int32) (p2 : Int32) (p3 : Int32) : entryFrame m #[(.ref r0), (.int p1), (.int p2), (.int p3)] 7 = mkF m 0 #[.val (.ref r0), .val (.int p1), .val (.int p2), .val (.int p3), .unset, .unset, .unset] [] := by first | (simp [entryFrame, mkF, argsToLocals, Value.category]; done) | rfl
def Q1c0 (Z : State) (r0 : Addr) (p1 : Int32) (p2 : Int32) (p3 : Int32) (u : Nat → Int32) (dl : Nat → Nat) (k : Nat) (h0 : Heap) (n0 : Nat) (v : Option Value) (h : Heap) (L : List Loc) : Prop := LWQ p3 0 k dl h0 n0 v h L
set_option maxRecDepth 65536 in
set_option maxHeartbeats 40000000 in
theorem rm1c0 (l : Launch) (Z : State) (a0 : Array Value) (hw : ∀ d ∈ tables_1, d.before a0 Z = true) (ws : List Jvm.Cond) (r0 : Addr) (p1 : Int32) (p2 : Int32) (p3 : Int32) (u : Nat → Int32) (dl : Nat → Nat) (k : Nat) (h0 : Heap) (n0 : Nat) (Z0 : n0 ≤ h0.size) (A1 : OArr Z h0 r0 .byte 16 (fun i => (Value.int (u i)))) (hp1 : p1.toInt = (k : Int)) (hp2 : p2.toInt = (k : Int) + 0) (hk9 : k < 9) (hd : ∀ i, i < 16 → (u i).toInt % 256 = ((dl i : Nat) : Int)) :
    MetFree l (⟨"com/example/strict_distinct/strictdistinct/SipHash", "lastWord", "([BIII)J"⟩ : MethodName) (head1 (Jvm.Cond.code (⟨"com/example/strict_distinct/strictdistinct/SipHash", "lastWord", "([BIII)J"⟩ : MethodName) prog_29_method_7_code 7 (some .long) :: ws) ({ frames := 0, cells := 0, slots := 0, locals := 0 } : Room)) (fun a U => a = #[(.ref r0), (.int p1), (.int p2), (.int p3)] ∧ Z.Warmed39 U.vm ∧ U.heap = h0) (fun _ _ _ _ _ => True) (fun _ U o U' => ∃ v L, o = .returned v ∧ Q1c0 Z r0 p1 p2 p3 u dl k h0 n0 v U'.heap L ∧ FrameEnd U o U' L ({ frames := 0, cells := 0, slots := 0, locals := 0 } : Room).cells ({ frames := 0, cells := 0, slots := 0, locals := 0 } : Room).slots) := by
  refine MetFree.of_bodySF (plainFor_of_name pn_1c0) hisR ?_
  intro p e s m args below meth c s₁ Bd hml0 hP hK
  obtain ⟨rfl, hZ, hh⟩ := hP
  have hx := Bd.exec
  have hby := Bd.bytes
  have hml : c.maxLocals = 7 := hml0
  have hown : s.vm.findClass "com/example/strict_distinct/strictdistinct/SipHash" = some m.cls := findClass_of_methodNamed Bd.named
  have hnm := (name_of_methodNamed Bd.named Bd.method).1
  have X0 : Stand p l e ({ frames := 0, cells := 0, slots := 0, locals := 0 } : Room) s m #[(.ref r0), (.int p1), (.int p2), (.int p3)] below meth c s₁ [] 0 0 := Stand.of_body Bd
  have e0 : s₁.heap = h0 := by rw [← hh, Bd.state]; rfl
  have N0 := Fr.nil n0
  refine Runs.enter (ef_1c0 m r0 p1 p2 p3) ?_
  show Runs _ _ _ _ s₁ (mkF m 0 #[.val (.ref r0), .val (.int p1), .val (.int p2), .val (.int p3), .unset, .unset, .unset] [])
  refine Runs.back (fun t_ k_ => XS.iloadN X0.here hx rfl (hb hby d1_0) rfl k_) ?_
  show Runs _ _ _ _ s₁ (mkF m 1 #[.val (.ref r0), .val (.int p1), .val (.int p2), .val (.int p3), .unset, .unset, .unset] [(.int p3)])
  refine Runs.back (fun t_ k_ => XS.i2l X0.here hx rfl (hb hby d1_1) rfl k_) ?_
  show Runs _ _ _ _ s₁ (mkF m 2 #[.val (.ref r0), .val (.int p1), .val (.int p2), .val (.int p3), .unset, .unset, .unset] [(.long (p3.toInt64))])
  refine Runs.back (fun t_ k_ => XS.bipush X0.here hx rfl (hb hby d1_2) k_) ?_
  show Runs _ _ _ _ s₁ (mkF m 4 #[.val (.ref r0), .val (.int p1), .val (.int p2), .val (.int p3), .unset, .unset, .unset] [(.int (56 : Int32)), (.long (p3.toInt64))])
  refine Runs.back (fun t_ k_ => XS.lshl X0.here hx rfl (hb hby d1_4) rfl k_) ?_
  show Runs _ _ _ _ s₁ (mkF m 5 #[.val (.ref r0), .val (.int p1), .val (.int p2), .val (.int p3), .unset, .unset, .unset] [(.long ((p3.toInt64) <<< ((56 : Int32) &&& 0x3f).toInt64))])
  refine Runs.back (fun t_ k_ => XS.lstore X0.here hx rfl (hb hby d1_5) rfl (l' := #[.val (.ref r0), .val (.int p1), .val (.int p2), .val (.int p3), .val (.long ((p3.toInt64) <<< ((56 : Int32) &&& 0x3f).toInt64)), .second, .unset]) rfl k_) ?_
  show Runs _ _ _ _ s₁ (mkF m 7 #[.val (.ref r0), .val (.int p1), .val (.int p2), .val (.int p3), .val (.long ((p3.toInt64) <<< ((56 : Int32) &&& 0x3f).toInt64)), .second, .unset] [])
  refine Runs.back (fun t_ k_ => XS.iloadN X0.here hx rfl (hb hby d1_7) rfl k_) ?_
  show Runs _ _ _ _ s₁ (mkF m 8 #[.val (.ref r0), .val (.int p1), .val (.int p2), .val (.int p3), .val (.long ((p3.toInt64) <<< ((56 : Int32) &&& 0x3f).toInt64)), .second, .unset] [(.int p2)])
  refine Runs.back (fun t_ k_ => XS.iconst X0.here hx rfl (hb hby d1_8) k_) ?_
  show Runs _ _ _ _ s₁ (mkF m 9 #[.val (.ref r0), .val (.int p1), .val (.int p2), .val (.int p3), .val (.long ((p3.toInt64) <<< ((56 : Int32) &&& 0x3f).toInt64)), .second, .unset] [(.int (1 : Int32)), (.int p2)])
  refine Runs.back (fun t_ k_ => XS.isub X0.here hx rfl (hb hby d1_9) rfl k_) ?_
  show Runs _ _ _ _ s₁ (mkF m 10 #[.val (.ref r0), .val (.int p1), .val (.int p2), .val (.int p3), .val (.long ((p3.toInt64) <<< ((56 : Int32) &&& 0x3f).toInt64)), .second, .unset] [(.int (p2 - (1 : Int32)))])
  refine Runs.back (fun t_ k_ => XS.istore X0.here hx rfl (hb hby d1_10) rfl (l' := #[.val (.ref r0), .val (.int p1), .val (.int p2), .val (.int p3), .val (.long ((p3.toInt64) <<< ((56 : Int32) &&& 0x3f).toInt64)), .second, .val (.int (p2 - (1 : Int32)))]) rfl k_) ?_
  show Runs _ _ _ _ s₁ (mkF m 12 #[.val (.ref r0), .val (.int p1), .val (.int p2), .val (.int p3), .val (.long ((p3.toInt64) <<< ((56 : Int32) &&& 0x3f).toInt64)), .second, .val (.int (p2 - (1 : Int32)))] [])
  have hw0 : Cg (((p3.toInt64) <<< ((56 : Int32) &&& 0x3f).toInt64)).toInt (p3.toInt * 72057594037927936) := by
    have q := c_lshl p3.toInt64 56 56 (by decide)
    rw [show ((2 ^ 56 : Nat) : Int) = 72057594037927936 from rfl, c_i2l] at q
    exact q
  have hx0 : ((p2 - (1 : Int32))).toInt = (k : Int) + 0 - 1 := by rw [sub32 (by rw [o32]; omega) (by rw [o32]; omega), o32, hp2]
  generalize ew0 : ((p3.toInt64) <<< ((56 : Int32) &&& 0x3f).toInt64) = w0 at hw0 ⊢
  generalize ex0 : (p2 - (1 : Int32)) = x0 at hx0 ⊢
  clear ew0 ex0
  show Runs _ _ _ _ s₁ (mkF m 12 #[.val (.ref r0), .val (.int p1), .val (.int p2), .val (.int p3), .val (.long w0), .second, .val (.int x0)] [])
  refine Runs.back (fun t_ k_ => XS.iload X0.here hx rfl (hb hby d1_12) rfl k_) ?_
  show Runs _ _ _ _ s₁ (mkF m 14 #[.val (.ref r0), .val (.int p1), .val (.int p2), .val (.int p3), .val (.long w0), .second, .val (.int x0)] [(.int x0)])
  refine Runs.back (fun t_ k_ => XS.iloadN X0.here hx rfl (hb hby d1_14) rfl k_) ?_
  show Runs _ _ _ _ s₁ (mkF m 15 #[.val (.ref r0), .val (.int p1), .val (.int p2), .val (.int p3), .val (.long w0), .second, .val (.int x0)] [(.int p1), (.int x0)])
  refine Runs.back (fun t_ k_ => XS.icmpYes X0.here hx rfl (pc0 := 15) (pc' := 46) rfl (hb hby d1_15) rfl (tlt (show x0 < p1 from (by rw [lti]; omega))).1 (by decide) (by decide) k_) ?_
  show Runs _ _ _ _ s₁ (mkF m 46 #[.val (.ref r0), .val (.int p1), .val (.int p2), .val (.int p3), .val (.long w0), .second, .val (.int x0)] [])
  refine Runs.back (fun t_ k_ => XS.lload X0.here hx rfl (hb hby d1_46) rfl k_) ?_
  show Runs _ _ _ _ s₁ (mkF m 48 #[.val (.ref r0), .val (.int p1), .val (.int p2), .val (.int p3), .val (.long w0), .second, .val (.int x0)] [(.long w0)])
  obtain ⟨fs, hr, hrun, hended, hW, hsame⟩ := X0.leave (v := some (.long w0)) (fun h => by rw [Bd.returns] at h; cases h)
  have hfin : Cg w0.toInt (p3.toInt * 72057594037927936 + ((sumD dl k 0 : Nat) : Int)) := by
    have e : p3.toInt * 72057594037927936 + ((sumD dl k 0 : Nat) : Int) = p3.toInt * 72057594037927936 := by rw [show sumD dl k 0 = 0 from rfl]; omega
    rw [e]; exact hw0
  exact ⟨_, _, (X0.lreturnOut hx Bd.returns (hb hby d1_48) hr), hrun, hended, _, _, rfl, ⟨_, rfl, N0, e0, hfin⟩, ⟨_, rfl⟩, hW, hsame.mono (by decide) (by decide)⟩
theorem pn_1c1 : plainName "com/example/strict_distinct/strictdistinct/SipHash" = true := by first | (simp [plainName, overriddenIn]; done) | decide +kernel
theorem ef_1c1 (m : MethodId) (r0 : Addr) (p1 : Int32) (p2 : Int32) (p3 : Int32) : entryFrame m #[(.ref r0), (.int p1), (.int p2), (.int p3)] 7 = mkF m 0 #[.val (.ref r0), .val (.int p1), .val (.int p2), .val (.int p3), .unset, .unset, .unset] [] := by first | (simp [entryFrame, mkF, argsToLocals, Value.category]; done) | rfl
def Q1c1 (Z : State) (r0 : Addr) (p1 : Int32) (p2 : Int32) (p3 : Int32) (u : Nat → Int32) (dl : Nat → Nat) (k : Nat) (h0 : Heap) (n0 : Nat) (v : Option Value) (h : Heap) (L : List Loc) : Prop := LWQ p3 1 k dl h0 n0 v h L
set_option maxRecDepth 65536 in
set_option maxHeartbeats 40000000 in
theorem rm1c1 (l : Launch) (Z : State) (a0 : Array Value) (hw : ∀ d ∈ tables_1, d.before a0 Z = true) (ws : List Jvm.Cond) (r0 : Addr) (p1 : Int32) (p2 : Int32) (p3 : Int32) (u : Nat → Int32) (dl : Nat → Nat) (k : Nat) (h0 : Heap) (n0 : Nat) (Z0 : n0 ≤ h0.size) (A1 : OArr Z h0 r0 .byte 16 (fun i => (Value.int (u i)))) (hp1 : p1.toInt = (k : Int)) (hp2 : p2.toInt = (k : Int) + 1) (hk9 : k < 9) (hd : ∀ i, i < 16 → (u i).toInt % 256 = ((dl i : Nat) : Int)) :
    MetFree l (⟨"com/example/strict_distinct/strictdistinct/SipHash", "lastWord", "([BIII)J"⟩ : MethodName) (head1 (Jvm.Cond.code (⟨"com/example/strict_distinct/strictdistinct/SipHash", "lastWord", "([BIII)J"⟩ : MethodName) prog_29_method_7_code 7 (some .long) :: ws) ({ frames := 0, cells := 0, slots := 0, locals := 0 } : Room)) (fun a U => a = #[(.ref r0), (.int p1), (.int p2), (.int p3)] ∧ Z.Warmed39 U.vm ∧ U.heap = h0) (fun _ _ _ _ _ => True) (fun _ U o U' => ∃ v L, o = .returned v ∧ Q1c1 Z r0 p1 p2 p3 u dl k h0 n0 v U'.heap L ∧ FrameEnd U o U' L ({ frames := 0, cells := 0, slots := 0, locals := 0 } : Room).cells ({ frames := 0, cells := 0, slots := 0, locals := 0 } : Room).slots) := by
  refine MetFree.of_bodySF (plainFor_of_name pn_1c1) hisR ?_
  intro p e s m args below meth c s₁ Bd hml0 hP hK
  obtain ⟨rfl, hZ, hh⟩ := hP
  have hx := Bd.exec
  have hby := Bd.bytes
  have hml : c.maxLocals = 7 := hml0
  have hown : s.vm.findClass "com/example/strict_distinct/strictdistinct/SipHash" = some m.cls := findClass_of_methodNamed Bd.named
  have hnm := (name_of_methodNamed Bd.named Bd.method).1
  have X0 : Stand p l e ({ frames := 0, cells := 0, slots := 0, locals := 0 } : Room) s m #[(.ref r0), (.int p1), (.int p2), (.int p3)] below meth c s₁ [] 0 0 := Stand.of_body Bd
  have e0 : s₁.heap = h0 := by rw [← hh, Bd.state]; rfl
  have N0 := Fr.nil n0
  refine Runs.enter (ef_1c1 m r0 p1 p2 p3) ?_
  show Runs _ _ _ _ s₁ (mkF m 0 #[.val (.ref r0), .val (.int p1), .val (.int p2), .val (.int p3), .unset, .unset, .unset] [])
  refine Runs.back (fun t_ k_ => XS.iloadN X0.here hx rfl (hb hby d1_0) rfl k_) ?_
  show Runs _ _ _ _ s₁ (mkF m 1 #[.val (.ref r0), .val (.int p1), .val (.int p2), .val (.int p3), .unset, .unset, .unset] [(.int p3)])
  refine Runs.back (fun t_ k_ => XS.i2l X0.here hx rfl (hb hby d1_1) rfl k_) ?_
  show Runs _ _ _ _ s₁ (mkF m 2 #[.val (.ref r0), .val (.int p1), .val (.int p2), .val (.int p3), .unset, .unset, .unset] [(.long (p3.toInt64))])
  refine Runs.back (fun t_ k_ => XS.bipush X0.here hx rfl (hb hby d1_2) k_) ?_
  show Runs _ _ _ _ s₁ (mkF m 4 #[.val (.ref r0), .val (.int p1), .val (.int p2), .val (.int p3), .unset, .unset, .unset] [(.int (56 : Int32)), (.long (p3.toInt64))])
  refine Runs.back (fun t_ k_ => XS.lshl X0.here hx rfl (hb hby d1_4) rfl k_) ?_
  show Runs _ _ _ _ s₁ (mkF m 5 #[.val (.ref r0), .val (.int p1), .val (.int p2), .val (.int p3), .unset, .unset, .unset] [(.long ((p3.toInt64) <<< ((56 : Int32) &&& 0x3f).toInt64))])
  refine Runs.back (fun t_ k_ => XS.lstore X0.here hx rfl (hb hby d1_5) rfl (l' := #[.val (.ref r0), .val (.int p1), .val (.int p2), .val (.int p3), .val (.long ((p3.toInt64) <<< ((56 : Int32) &&& 0x3f).toInt64)), .second, .unset]) rfl k_) ?_
  show Runs _ _ _ _ s₁ (mkF m 7 #[.val (.ref r0), .val (.int p1), .val (.int p2), .val (.int p3), .val (.long ((p3.toInt64) <<< ((56 : Int32) &&& 0x3f).toInt64)), .second, .unset] [])
  refine Runs.back (fun t_ k_ => XS.iloadN X0.here hx rfl (hb hby d1_7) rfl k_) ?_
  show Runs _ _ _ _ s₁ (mkF m 8 #[.val (.ref r0), .val (.int p1), .val (.int p2), .val (.int p3), .val (.long ((p3.toInt64) <<< ((56 : Int32) &&& 0x3f).toInt64)), .second, .unset] [(.int p2)])
  refine Runs.back (fun t_ k_ => XS.iconst X0.here hx rfl (hb hby d1_8) k_) ?_
  show Runs _ _ _ _ s₁ (mkF m 9 #[.val (.ref r0), .val (.int p1), .val (.int p2), .val (.int p3), .val (.long ((p3.toInt64) <<< ((56 : Int32) &&& 0x3f).toInt64)), .second, .unset] [(.int (1 : Int32)), (.int p2)])
  refine Runs.back (fun t_ k_ => XS.isub X0.here hx rfl (hb hby d1_9) rfl k_) ?_
  show Runs _ _ _ _ s₁ (mkF m 10 #[.val (.ref r0), .val (.int p1), .val (.int p2), .val (.int p3), .val (.long ((p3.toInt64) <<< ((56 : Int32) &&& 0x3f).toInt64)), .second, .unset] [(.int (p2 - (1 : Int32)))])
  refine Runs.back (fun t_ k_ => XS.istore X0.here hx rfl (hb hby d1_10) rfl (l' := #[.val (.ref r0), .val (.int p1), .val (.int p2), .val (.int p3), .val (.long ((p3.toInt64) <<< ((56 : Int32) &&& 0x3f).toInt64)), .second, .val (.int (p2 - (1 : Int32)))]) rfl k_) ?_
  show Runs _ _ _ _ s₁ (mkF m 12 #[.val (.ref r0), .val (.int p1), .val (.int p2), .val (.int p3), .val (.long ((p3.toInt64) <<< ((56 : Int32) &&& 0x3f).toInt64)), .second, .val (.int (p2 - (1 : Int32)))] [])
  have hw0 : Cg (((p3.toInt64) <<< ((56 : Int32) &&& 0x3f).toInt64)).toInt (p3.toInt * 72057594037927936) := by
    have q := c_lshl p3.toInt64 56 56 (by decide)
    rw [show ((2 ^ 56 : Nat) : Int) = 72057594037927936 from rfl, c_i2l] at q
    exact q
  have hx0 : ((p2 - (1 : Int32))).toInt = (k : Int) + 1 - 1 := by rw [sub32 (by rw [o32]; omega) (by rw [o32]; omega), o32, hp2]
  generalize ew0 : ((p3.toInt64) <<< ((56 : Int32) &&& 0x3f).toInt64) = w0 at hw0 ⊢
  generalize ex0 : (p2 - (1 : Int32)) = x0 at hx0 ⊢
  clear ew0 ex0
  show Runs _ _ _ _ s₁ (mkF m 12 #[.val (.ref r0), .val (.int p1), .val (.int p2), .val (.int p3), .val (.long w0), .second, .val (.int x0)] [])
  have hn0 : ¬ x0 < 0 := by rw [lti, z32]; omega
  have hk0 : x0.toNatClampNeg = k + 0 := by have q := nat_of hn0; omega
  refine Runs.back (fun t_ k_ => XS.iload X0.here hx rfl (hb hby d1_12) rfl k_) ?_
  show Runs _ _ _ _ s₁ (mkF m 14 #[.val (.ref r0), .val (.int p1), .val (.int p2), .val (.int p3), .val (.long w0), .second, .val (.int x0)] [(.int x0)])
  refine Runs.back (fun t_ k_ => XS.iloadN X0.here hx rfl (hb hby d1_14) rfl k_) ?_
  show Runs _ _ _ _ s₁ (mkF m 15 #[.val (.ref r0), .val (.int p1), .val (.int p2), .val (.int p3), .val (.long w0), .second, .val (.int x0)] [(.int p1), (.int x0)])
  refine Runs.back (fun t_ k_ => XS.icmpNo X0.here hx rfl (hb hby d1_15) rfl (flt (show ¬ (x0 < p1) from (by rw [lti]; omega))).1 k_) ?_
  show Runs _ _ _ _ s₁ (mkF m 18 #[.val (.ref r0), .val (.int p1), .val (.int p2), .val (.int p3), .val (.long w0), .second, .val (.int x0)] [])
  refine Runs.back (fun t_ k_ => XS.lload X0.here hx rfl (hb hby d1_18) rfl k_) ?_
  show Runs _ _ _ _ s₁ (mkF m 20 #[.val (.ref r0), .val (.int p1), .val (.int p2), .val (.int p3), .val (.long w0), .second, .val (.int x0)] [(.long w0)])
  refine Runs.back (fun t_ k_ => XS.aloadN X0.here hx rfl (hb hby d1_20) rfl rfl k_) ?_
  show Runs _ _ _ _ s₁ (mkF m 21 #[.val (.ref r0), .val (.int p1), .val (.int p2), .val (.int p3), .val (.long w0), .second, .val (.int x0)] [(.ref r0), (.long w0)])
  refine Runs.back (fun t_ k_ => XS.iload X0.here hx rfl (hb hby d1_21) rfl k_) ?_
  show Runs _ _ _ _ s₁ (mkF m 23 #[.val (.ref r0), .val (.int p1), .val (.int p2), .val (.int p3), .val (.long w0), .second, .val (.int x0)] [(.int x0), (.ref r0), (.long w0)])
  obtain ⟨cl1, Ar1, S1, Hs1⟩ := id A1
  have at1 : cl1.slots[(x0).toNatClampNeg]? = some (.int (u (k + 0))) := readO Hs1 hk0 (show (k + 0) < 16 from (by first | omega | decide)) (rfl)
  refine Runs.back (fun t_ k_ => X0.baloadBytes hx (j := x0) (v := (.int (u (k + 0)))) (by rw [e0]; exact Ar1.1) (State.isArrayOf_alike hZ.alike Ar1.2.1) Ar1.2.2 (by rw [S1]; exact (inbO hn0 hk0 (show (k + 0) < 16 from (by first | omega | decide)))) at1 (g := (mkF m 23 #[.val (.ref r0), .val (.int p1), .val (.int p2), .val (.int p3), .val (.long w0), .second, .val (.int x0)] [(.int x0), (.ref r0), (.long w0)])) rfl rfl (hb hby d1_23) _ k_) ?_
  clear at1 Hs1 S1 Ar1
  show Runs _ _ _ _ s₁ (mkF m 24 #[.val (.ref r0), .val (.int p1), .val (.int p2), .val (.int p3), .val (.long w0), .second, .val (.int x0)] [(.int (u (k + 0))), (.long w0)])
  refine Runs.back (fun t_ k_ => XS.i2l X0.here hx rfl (hb hby d1_24) rfl k_) ?_
  show Runs _ _ _ _ s₁ (mkF m 25 #[.val (.ref r0), .val (.int p1), .val (.int p2), .val (.int p3), .val (.long w0), .second, .val (.int x0)] [(.long ((u (k + 0)).toInt64)), (.long w0)])
  refine Runs.back (X0.ldc2Long hx hown (mvT hZ (hw _ (List.mem_of_getElem? (i := 6) rfl))) (g := (mkF m 25 #[.val (.ref r0), .val (.int p1), .val (.int p2), .val (.int p3), .val (.long w0), .second, .val (.int x0)] [(.long ((u (k + 0)).toInt64)), (.long w0)])) rfl (hb hby d1_25)) ?_
  show Runs _ _ _ _ s₁ (mkF m 28 #[.val (.ref r0), .val (.int p1), .val (.int p2), .val (.int p3), .val (.long w0), .second, .val (.int x0)] [(.long (255 : Int64)), (.long ((u (k + 0)).toInt64)), (.long w0)])
  refine Runs.back (fun t_ k_ => XS.land X0.here hx rfl (hb hby d1_28) rfl k_) ?_
  show Runs _ _ _ _ s₁ (mkF m 29 #[.val (.ref r0), .val (.int p1), .val (.int p2), .val (.int p3), .val (.long w0), .second, .val (.int x0)] [(.long (((u (k + 0)).toInt64) &&& (255 : Int64))), (.long w0)])
  refine Runs.back (fun t_ k_ => XS.bipush X0.here hx rfl (hb hby d1_29) k_) ?_
  show Runs _ _ _ _ s₁ (mkF m 31 #[.val (.ref r0), .val (.int p1), .val (.int p2), .val (.int p3), .val (.long w0), .second, .val (.int x0)] [(.int (8 : Int32)), (.long (((u (k + 0)).toInt64) &&& (255 : Int64))), (.long w0)])
  refine Runs.back (fun t_ k_ => XS.iload X0.here hx rfl (hb hby d1_31) rfl k_) ?_
  show Runs _ _ _ _ s₁ (mkF m 33 #[.val (.ref r0), .val (.int p1), .val (.int p2), .val (.int p3), .val (.long w0), .second, .val (.int x0)] [(.int x0), (.int (8 : Int32)), (.long (((u (k + 0)).toInt64) &&& (255 : Int64))), (.long w0)])
  refine Runs.back (fun t_ k_ => XS.iloadN X0.here hx rfl (hb hby d1_33) rfl k_) ?_
  show Runs _ _ _ _ s₁ (mkF m 34 #[.val (.ref r0), .val (.int p1), .val (.int p2), .val (.int p3), .val (.long w0), .second, .val (.int x0)] [(.int p1), (.int x0), (.int (8 : Int32)), (.long (((u (k + 0)).toInt64) &&& (255 : Int64))), (.long w0)])
  refine Runs.back (fun t_ k_ => XS.isub X0.here hx rfl (hb hby d1_34) rfl k_) ?_
  show Runs _ _ _ _ s₁ (mkF m 35 #[.val (.ref r0), .val (.int p1), .val (.int p2), .val (.int p3), .val (.long w0), .second, .val (.int x0)] [(.int (x0 - p1)), (.int (8 : Int32)), (.long (((u (k + 0)).toInt64) &&& (255 : Int64))), (.long w0)])
  refine Runs.back (fun t_ k_ => XS.imul X0.here hx rfl (hb hby d1_35) rfl k_) ?_
  show Runs _ _ _ _ s₁ (mkF m 36 #[.val (.ref r0), .val (.int p1), .val (.int p2), .val (.int p3), .val (.long w0), .second, .val (.int x0)] [(.int ((8 : Int32) * (x0 - p1))), (.long (((u (k + 0)).toInt64) &&& (255 : Int64))), (.long w0)])
  refine Runs.back (fun t_ k_ => XS.lshl X0.here hx rfl (hb hby d1_36) rfl k_) ?_
  show Runs _ _ _ _ s₁ (mkF m 37 #[.val (.ref r0), .val (.int p1), .val (.int p2), .val (.int p3), .val (.long w0), .second, .val (.int x0)] [(.long ((((u (k + 0)).toInt64) &&& (255 : Int64)) <<< (((8 : Int32) * (x0 - p1)) &&& 0x3f).toInt64)), (.long w0)])
  refine Runs.back (fun t_ k_ => XS.lor X0.here hx rfl (hb hby d1_37) rfl k_) ?_
  show Runs _ _ _ _ s₁ (mkF m 38 #[.val (.ref r0), .val (.int p1), .val (.int p2), .val (.int p3), .val (.long w0), .second, .val (.int x0)] [(.long (w0 ||| ((((u (k + 0)).toInt64) &&& (255 : Int64)) <<< (((8 : Int32) * (x0 - p1)) &&& 0x3f).toInt64)))])
  refine Runs.back (fun t_ k_ => XS.lstore X0.here hx rfl (hb hby d1_38) rfl (l' := #[.val (.ref r0), .val (.int p1), .val (.int p2), .val (.int p3), .val (.long (w0 ||| ((((u (k + 0)).toInt64) &&& (255 : Int64)) <<< (((8 : Int32) * (x0 - p1)) &&& 0x3f).toInt64))), .second, .val (.int x0)]) rfl k_) ?_
  show Runs _ _ _ _ s₁ (mkF m 40 #[.val (.ref r0), .val (.int p1), .val (.int p2), .val (.int p3), .val (.long (w0 ||| ((((u (k + 0)).toInt64) &&& (255 : Int64)) <<< (((8 : Int32) * (x0 - p1)) &&& 0x3f).toInt64))), .second, .val (.int x0)] [])
  refine Runs.back (fun t_ k_ => XS.iinc X0.here hx rfl (hb hby d1_40) rfl (l' := #[.val (.ref r0), .val (.int p1), .val (.int p2), .val (.int p3), .val (.long (w0 ||| ((((u (k + 0)).toInt64) &&& (255 : Int64)) <<< (((8 : Int32) * (x0 - p1)) &&& 0x3f).toInt64))), .second, .val (.int (x0 + (-1 : Int32)))]) rfl k_) ?_
  show Runs _ _ _ _ s₁ (mkF m 43 #[.val (.ref r0), .val (.int p1), .val (.int p2), .val (.int p3), .val (.long (w0 ||| ((((u (k + 0)).toInt64) &&& (255 : Int64)) <<< (((8 : Int32) * (x0 - p1)) &&& 0x3f).toInt64))), .second, .val (.int (x0 + (-1 : Int32)))] [])
  refine Runs.back (fun t_ k_ => XS.goto X0.here hx rfl (pc0 := 43) (pc' := 12) rfl (hb hby d1_43) (by decide) (by decide) k_) ?_
  show Runs _ _ _ _ s₁ (mkF m 12 #[.val (.ref r0), .val (.int p1), .val (.int p2), .val (.int p3), .val (.long (w0 ||| ((((u (k + 0)).toInt64) &&& (255 : Int64)) <<< (((8 : Int32) * (x0 - p1)) &&& 0x3f).toInt64))), .second, .val (.int (x0 + (-1 : Int32)))] [])
  have sq1 : ((8 : Int32) * (x0 - p1)) = (0 : Int32) := by
    have d : (x0 - p1).toInt = 0 := by rw [sub32 (by omega) (by omega)]; omega
    obtain e : (x0 - p1) = (0 : Int32) := eqi.mpr (by rw [d]; decide)
    rw [e]; decide
  have hw1 : Cg ((w0 ||| ((((u (k + 0)).toInt64) &&& (255 : Int64)) <<< (((8 : Int32) * (x0 - p1)) &&& 0x3f).toInt64))).toInt (p3.toInt * 72057594037927936 + ((dl (k + 0) : Nat) : Int) * 1) := lw0 sq1 (hd (k + 0) (by omega)) hw0 (by omega)
  have hx1 : ((x0 + (-1 : Int32))).toInt = (k : Int) + 0 - 1 := by rw [add32 (by rw [show (-1 : Int32).toInt = -1 from by decide]; omega) (by rw [show (-1 : Int32).toInt = -1 from by decide]; omega), show (-1 : Int32).toInt = -1 from by decide, hx0]; omega
  clear hx0 hk0 hn0 sq1 hw0
  generalize ew1 : (w0 ||| ((((u (k + 0)).toInt64) &&& (255 : Int64)) <<< (((8 : Int32) * (x0 - p1)) &&& 0x3f).toInt64)) = w1 at hw1 ⊢
  generalize ex1 : (x0 + (-1 : Int32)) = x1 at hx1 ⊢
  clear ew1 ex1
  show Runs _ _ _ _ s₁ (mkF m 12 #[.val (.ref r0), .val (.int p1), .val (.int p2), .val (.int p3), .val (.long w1), .second, .val (.int x1)] [])
  refine Runs.back (fun t_ k_ => XS.iload X0.here hx rfl (hb hby d1_12) rfl k_) ?_
  show Runs _ _ _ _ s₁ (mkF m 14 #[.val (.ref r0), .val (.int p1), .val (.int p2), .val (.int p3), .val (.long w1), .second, .val (.int x1)] [(.int x1)])
  refine Runs.back (fun t_ k_ => XS.iloadN X0.here hx rfl (hb hby d1_14) rfl k_) ?_
  show Runs _ _ _ _ s₁ (mkF m 15 #[.val (.ref r0), .val (.int p1), .val (.int p2), .val (.int p3), .val (.long w1), .second, .val (.int x1)] [(.int p1), (.int x1)])
  refine Runs.back (fun t_ k_ => XS.icmpYes X0.here hx rfl (pc0 := 15) (pc' := 46) rfl (hb hby d1_15) rfl (tlt (show x1 < p1 from (by rw [lti]; omega))).1 (by decide) (by decide) k_) ?_
  show Runs _ _ _ _ s₁ (mkF m 46 #[.val (.ref r0), .val (.int p1), .val (.int p2), .val (.int p3), .val (.long w1), .second, .val (.int x1)] [])
  refine Runs.back (fun t_ k_ => XS.lload X0.here hx rfl (hb hby d1_46) rfl k_) ?_
  show Runs _ _ _ _ s₁ (mkF m 48 #[.val (.ref r0), .val (.int p1), .val (.int p2), .val (.int p3), .val (.long w1), .second, .val (.int x1)] [(.long w1)])
  obtain ⟨fs, hr, hrun, hended, hW, hsame⟩ := X0.leave (v := some (.long w1)) (fun h => by rw [Bd.returns] at h; cases h)
  have hfin : Cg w1.toInt (p3.toInt * 72057594037927936 + ((sumD dl k 1 : Nat) : Int)) := by
    have e : p3.toInt * 72057594037927936 + ((sumD dl k 1 : Nat) : Int) = p3.toInt * 72057594037927936 + ((dl (k + 0) : Nat) : Int) * 1 := by rw [show sumD dl k 1 = 0 + dl (k + 0) * 1 from rfl]; omega
    rw [e]; exact hw1
  exact ⟨_, _, (X0.lreturnOut hx Bd.returns (hb hby d1_48) hr), hrun, hended, _, _, rfl, ⟨_, rfl, N0, e0, hfin⟩, ⟨_, rfl⟩, hW, hsame.mono (by decide) (by decide)⟩
theorem pn_1c2 : plainName "com/example/strict_distinct/strictdistinct/SipHash" = true := by first | (simp [plainName, overriddenIn]; done) | decide +kernel
theorem ef_1c2 (m : MethodId) (r0 : Addr) (p1 : Int32) (p2 : Int32) (p3 : Int32) : entryFrame m #[(.ref r0), (.int p1), (.int p2), (.int p3)] 7 = mkF m 0 #[.val (.ref r0), .val (.int p1), .val (.int p2), .val (.int p3), .unset, .unset, .unset] [] := by first | (simp [entryFrame, mkF, argsToLocals, Value.category]; done) | rfl
def Q1c2 (Z : State) (r0 : Addr) (p1 : Int32) (p2 : Int32) (p3 : Int32) (u : Nat → Int32) (dl : Nat → Nat) (k : Nat) (h0 : Heap) (n0 : Nat) (v : Option Value) (h : Heap) (L : List Loc) : Prop := LWQ p3 2 k dl h0 n0 v h L
set_option maxRecDepth 65536 in
set_option maxHeartbeats 40000000 in
theorem rm1c2 (l : Launch) (Z : State) (a0 : Array Value) (hw : ∀ d ∈ tables_1, d.before a0 Z = true) (ws : List Jvm.Cond) (r0 : Addr) (p1 : Int32) (p2 : Int32) (p3 : Int32) (u : Nat → Int32) (dl : Nat → Nat) (k : Nat) (h0 : Heap) (n0 : Nat) (Z0 : n0 ≤ h0.size) (A1 : OArr Z h0 r0 .byte 16 (fun i => (Value.int (u i)))) (hp1 : p1.toInt = (k : Int)) (hp2 : p2.toInt = (k : Int) + 2) (hk9 : k < 9) (hd : ∀ i, i < 16 → (u i).toInt % 256 = ((dl i : Nat) : Int)) :
    MetFree l (⟨"com/example/strict_distinct/strictdistinct/SipHash", "lastWord", "([BIII)J"⟩ : MethodName) (head1 (Jvm.Cond.code (⟨"com/example/strict_distinct/strictdistinct/SipHash", "lastWord", "([BIII)J"⟩ : MethodName) prog_29_method_7_code 7 (some .long) :: ws) ({ frames := 0, cells := 0, slots := 0, locals := 0 } : Room)) (fun a U => a = #[(.ref r0), (.int p1), (.int p2), (.int p3)] ∧ Z.Warmed39 U.vm ∧ U.heap = h0) (fun _ _ _ _ _ => True) (fun _ U o U' => ∃ v L, o = .returned v ∧ Q1c2 Z r0 p1 p2 p3 u dl k h0 n0 v U'.heap L ∧ FrameEnd U o U' L ({ frames := 0, cells := 0, slots := 0, locals := 0 } : Room).cells ({ frames := 0, cells := 0, slots := 0, locals := 0 } : Room).slots) := by
  refine MetFree.of_bodySF (plainFor_of_name pn_1c2) hisR ?_
  intro p e s m args below meth c s₁ Bd hml0 hP hK
  obtain ⟨rfl, hZ, hh⟩ := hP
  have hx := Bd.exec
  have hby := Bd.bytes
  have hml : c.maxLocals = 7 := hml0
  have hown : s.vm.findClass "com/example/strict_distinct/strictdistinct/SipHash" = some m.cls := findClass_of_methodNamed Bd.named
  have hnm := (name_of_methodNamed Bd.named Bd.method).1
  have X0 : Stand p l e ({ frames := 0, cells := 0, slots := 0, locals := 0 } : Room) s m #[(.ref r0), (.int p1), (.int p2), (.int p3)] below meth c s₁ [] 0 0 := Stand.of_body Bd
  have e0 : s₁.heap = h0 := by rw [← hh, Bd.state]; rfl
  have N0 := Fr.nil n0
  refine Runs.enter (ef_1c2 m r0 p1 p2 p3) ?_
  show Runs _ _ _ _ s₁ (mkF m 0 #[.val (.ref r0), .val (.int p1), .val (.int p2), .val (.int p3), .unset, .unset, .unset] [])
  refine Runs.back (fun t_ k_ => XS.iloadN X0.here hx rfl (hb hby d1_0) rfl k_) ?_
  show Runs _ _ _ _ s₁ (mkF m 1 #[.val (.ref r0), .val (.int p1), .val (.int p2), .val (.int p3), .unset, .unset, .unset] [(.int p3)])
  refine Runs.back (fun t_ k_ => XS.i2l X0.here hx rfl (hb hby d1_1) rfl k_) ?_
  show Runs _ _ _ _ s₁ (mkF m 2 #[.val (.ref r0), .val (.int p1), .val (.int p2), .val (.int p3), .unset, .unset, .unset] [(.long (p3.toInt64))])
  refine Runs.back (fun t_ k_ => XS.bipush X0.here hx rfl (hb hby d1_2) k_) ?_
  show Runs _ _ _ _ s₁ (mkF m 4 #[.val (.ref r0), .val (.int p1), .val (.int p2), .val (.int p3), .unset, .unset, .unset] [(.int (56 : Int32)), (.long (p3.toInt64))])
  refine Runs.back (fun t_ k_ => XS.lshl X0.here hx rfl (hb hby d1_4) rfl k_) ?_
  show Runs _ _ _ _ s₁ (mkF m 5 #[.val (.ref r0), .val (.int p1), .val (.int p2), .val (.int p3), .unset, .unset, .unset] [(.long ((p3.toInt64) <<< ((56 : Int32) &&& 0x3f).toInt64))])
  refine Runs.back (fun t_ k_ => XS.lstore X0.here hx rfl (hb hby d1_5) rfl (l' := #[.val (.ref r0), .val (.int p1), .val (.int p2), .val (.int p3), .val (.long ((p3.toInt64) <<< ((56 : Int32) &&& 0x3f).toInt64)), .second, .unset]) rfl k_) ?_
  show Runs _ _ _ _ s₁ (mkF m 7 #[.val (.ref r0), .val (.int p1), .val (.int p2), .val (.int p3), .val (.long ((p3.toInt64) <<< ((56 : Int32) &&& 0x3f).toInt64)), .second, .unset] [])
  refine Runs.back (fun t_ k_ => XS.iloadN X0.here hx rfl (hb hby d1_7) rfl k_) ?_
  show Runs _ _ _ _ s₁ (mkF m 8 #[.val (.ref r0), .val (.int p1), .val (.int p2), .val (.int p3), .val (.long ((p3.toInt64) <<< ((56 : Int32) &&& 0x3f).toInt64)), .second, .unset] [(.int p2)])
  refine Runs.back (fun t_ k_ => XS.iconst X0.here hx rfl (hb hby d1_8) k_) ?_
  show Runs _ _ _ _ s₁ (mkF m 9 #[.val (.ref r0), .val (.int p1), .val (.int p2), .val (.int p3), .val (.long ((p3.toInt64) <<< ((56 : Int32) &&& 0x3f).toInt64)), .second, .unset] [(.int (1 : Int32)), (.int p2)])
  refine Runs.back (fun t_ k_ => XS.isub X0.here hx rfl (hb hby d1_9) rfl k_) ?_
  show Runs _ _ _ _ s₁ (mkF m 10 #[.val (.ref r0), .val (.int p1), .val (.int p2), .val (.int p3), .val (.long ((p3.toInt64) <<< ((56 : Int32) &&& 0x3f).toInt64)), .second, .unset] [(.int (p2 - (1 : Int32)))])
  refine Runs.back (fun t_ k_ => XS.istore X0.here hx rfl (hb hby d1_10) rfl (l' := #[.val (.ref r0), .val (.int p1), .val (.int p2), .val (.int p3), .val (.long ((p3.toInt64) <<< ((56 : Int32) &&& 0x3f).toInt64)), .second, .val (.int (p2 - (1 : Int32)))]) rfl k_) ?_
  show Runs _ _ _ _ s₁ (mkF m 12 #[.val (.ref r0), .val (.int p1), .val (.int p2), .val (.int p3), .val (.long ((p3.toInt64) <<< ((56 : Int32) &&& 0x3f).toInt64)), .second, .val (.int (p2 - (1 : Int32)))] [])
  have hw0 : Cg (((p3.toInt64) <<< ((56 : Int32) &&& 0x3f).toInt64)).toInt (p3.toInt * 72057594037927936) := by
    have q := c_lshl p3.toInt64 56 56 (by decide)
    rw [show ((2 ^ 56 : Nat) : Int) = 72057594037927936 from rfl, c_i2l] at q
    exact q
  have hx0 : ((p2 - (1 : Int32))).toInt = (k : Int) + 2 - 1 := by rw [sub32 (by rw [o32]; omega) (by rw [o32]; omega), o32, hp2]
  generalize ew0 : ((p3.toInt64) <<< ((56 : Int32) &&& 0x3f).toInt64) = w0 at hw0 ⊢
  generalize ex0 : (p2 - (1 : Int32)) = x0 at hx0 ⊢
  clear ew0 ex0
  show Runs _ _ _ _ s₁ (mkF m 12 #[.val (.ref r0), .val (.int p1), .val (.int p2), .val (.int p3), .val (.long w0), .second, .val (.int x0)] [])
  have hn0 : ¬ x0 < 0 := by rw [lti, z32]; omega
  have hk0 : x0.toNatClampNeg = k + 1 := by have q := nat_of hn0; omega
  refine Runs.back (fun t_ k_ => XS.iload X0.here hx rfl (hb hby d1_12) rfl k_) ?_
  show Runs _ _ _ _ s₁ (mkF m 14 #[.val (.ref r0), .val (.int p1), .val (.int p2), .val (.int p3), .val (.long w0), .second, .val (.int x0)] [(.int x0)])
  refine Runs.back (fun t_ k_ => XS.iloadN X0.here hx rfl (hb hby d1_14) rfl k_) ?_
  show Runs _ _ _ _ s₁ (mkF m 15 #[.val (.ref r0), .val (.int p1), .val (.int p2), .val (.int p3), .val (.long w0), .second, .val (.int x0)] [(.int p1), (.int x0)])
  refine Runs.back (fun t_ k_ => XS.icmpNo X0.here hx rfl (hb hby d1_15) rfl (flt (show ¬ (x0 < p1) from (by rw [lti]; omega))).1 k_) ?_
  show Runs _ _ _ _ s₁ (mkF m 18 #[.val (.ref r0), .val (.int p1), .val (.int p2), .val (.int p3), .val (.long w0), .second, .val (.int x0)] [])
  refine Runs.back (fun t_ k_ => XS.lload X0.here hx rfl (hb hby d1_18) rfl k_) ?_
  show Runs _ _ _ _ s₁ (mkF m 20 #[.val (.ref r0), .val (.int p1), .val (.int p2), .val (.int p3), .val (.long w0), .second, .val (.int x0)] [(.long w0)])
  refine Runs.back (fun t_ k_ => XS.aloadN X0.here hx rfl (hb hby d1_20) rfl rfl k_) ?_
  show Runs _ _ _ _ s₁ (mkF m 21 #[.val (.ref r0), .val (.int p1), .val (.int p2), .val (.int p3), .val (.long w0), .second, .val (.int x0)] [(.ref r0), (.long w0)])
  refine Runs.back (fun t_ k_ => XS.iload X0.here hx rfl (hb hby d1_21) rfl k_) ?_
  show Runs _ _ _ _ s₁ (mkF m 23 #[.val (.ref r0), .val (.int p1), .val (.int p2), .val (.int p3), .val (.long w0), .second, .val (.int x0)] [(.int x0), (.ref r0), (.long w0)])
  obtain ⟨cl1, Ar1, S1, Hs1⟩ := id A1
  have at1 : cl1.slots[(x0).toNatClampNeg]? = some (.int (u (k + 1))) := readO Hs1 hk0 (show (k + 1) < 16 from (by first | omega | decide)) (rfl)
  refine Runs.back (fun t_ k_ => X0.baloadBytes hx (j := x0) (v := (.int (u (k + 1)))) (by rw [e0]; exact Ar1.1) (State.isArrayOf_alike hZ.alike Ar1.2.1) Ar1.2.2 (by rw [S1]; exact (inbO hn0 hk0 (show (k + 1) < 16 from (by first | omega | decide)))) at1 (g := (mkF m 23 #[.val (.ref r0), .val (.int p1), .val (.int p2), .val (.int p3), .val (.long w0), .second, .val (.int x0)] [(.int x0), (.ref r0), (.long w0)])) rfl rfl (hb hby d1_23) _ k_) ?_
  clear at1 Hs1 S1 Ar1
  show Runs _ _ _ _ s₁ (mkF m 24 #[.val (.ref r0), .val (.int p1), .val (.int p2), .val (.int p3), .val (.long w0), .second, .val (.int x0)] [(.int (u (k + 1))), (.long w0)])
  refine Runs.back (fun t_ k_ => XS.i2l X0.here hx rfl (hb hby d1_24) rfl k_) ?_
  show Runs _ _ _ _ s₁ (mkF m 25 #[.val (.ref r0), .val (.int p1), .val (.int p2), .val (.int p3), .val (.long w0), .second, .val (.int x0)] [(.long ((u (k + 1)).toInt64)), (.long w0)])
  refine Runs.back (X0.ldc2Long hx hown (mvT hZ (hw _ (List.mem_of_getElem? (i := 6) rfl))) (g := (mkF m 25 #[.val (.ref r0), .val (.int p1), .val (.int p2), .val (.int p3), .val (.long w0), .second, .val (.int x0)] [(.long ((u (k + 1)).toInt64)), (.long w0)])) rfl (hb hby d1_25)) ?_
  show Runs _ _ _ _ s₁ (mkF m 28 #[.val (.ref r0), .val (.int p1), .val (.int p2), .val (.int p3), .val (.long w0), .second, .val (.int x0)] [(.long (255 : Int64)), (.long ((u (k + 1)).toInt64)), (.long w0)])
  refine Runs.back (fun t_ k_ => XS.land X0.here hx rfl (hb hby d1_28) rfl k_) ?_
  show Runs _ _ _ _ s₁ (mkF m 29 #[.val (.ref r0), .val (.int p1), .val (.int p2), .val (.int p3), .val (.long w0), .second, .val (.int x0)] [(.long (((u (k + 1)).toInt64) &&& (255 : Int64))), (.long w0)])
  refine Runs.back (fun t_ k_ => XS.bipush X0.here hx rfl (hb hby d1_29) k_) ?_
  show Runs _ _ _ _ s₁ (mkF m 31 #[.val (.ref r0), .val (.int p1), .val (.int p2), .val (.int p3), .val (.long w0), .second, .val (.int x0)] [(.int (8 : Int32)), (.long (((u (k + 1)).toInt64) &&& (255 : Int64))), (.long w0)])
  refine Runs.back (fun t_ k_ => XS.iload X0.here hx rfl (hb hby d1_31) rfl k_) ?_
  show Runs _ _ _ _ s₁ (mkF m 33 #[.val (.ref r0), .val (.int p1), .val (.int p2), .val (.int p3), .val (.long w0), .second, .val (.int x0)] [(.int x0), (.int (8 : Int32)), (.long (((u (k + 1)).toInt64) &&& (255 : Int64))), (.long w0)])
  refine Runs.back (fun t_ k_ => XS.iloadN X0.here hx rfl (hb hby d1_33) rfl k_) ?_
  show Runs _ _ _ _ s₁ (mkF m 34 #[.val (.ref r0), .val (.int p1), .val (.int p2), .val (.int p3), .val (.long w0), .second, .val (.int x0)] [(.int p1), (.int x0), (.int (8 : Int32)), (.long (((u (k + 1)).toInt64) &&& (255 : Int64))), (.long w0)])
  refine Runs.back (fun t_ k_ => XS.isub X0.here hx rfl (hb hby d1_34) rfl k_) ?_
  show Runs _ _ _ _ s₁ (mkF m 35 #[.val (.ref r0), .val (.int p1), .val (.int p2), .val (.int p3), .val (.long w0), .second, .val (.int x0)] [(.int (x0 - p1)), (.int (8 : Int32)), (.long (((u (k + 1)).toInt64) &&& (255 : Int64))), (.long w0)])
  refine Runs.back (fun t_ k_ => XS.imul X0.here hx rfl (hb hby d1_35) rfl k_) ?_
  show Runs _ _ _ _ s₁ (mkF m 36 #[.val (.ref r0), .val (.int p1), .val (.int p2), .val (.int p3), .val (.long w0), .second, .val (.int x0)] [(.int ((8 : Int32) * (x0 - p1))), (.long (((u (k + 1)).toInt64) &&& (255 : Int64))), (.long w0)])
  refine Runs.back (fun t_ k_ => XS.lshl X0.here hx rfl (hb hby d1_36) rfl k_) ?_
  show Runs _ _ _ _ s₁ (mkF m 37 #[.val (.ref r0), .val (.int p1), .val (.int p2), .val (.int p3), .val (.long w0), .second, .val (.int x0)] [(.long ((((u (k + 1)).toInt64) &&& (255 : Int64)) <<< (((8 : Int32) * (x0 - p1)) &&& 0x3f).toInt64)), (.long w0)])
  refine Runs.back (fun t_ k_ => XS.lor X0.here hx rfl (hb hby d1_37) rfl k_) ?_
  show Runs _ _ _ _ s₁ (mkF m 38 #[.val (.ref r0), .val (.int p1), .val (.int p2), .val (.int p3), .val (.long w0), .second, .val (.int x0)] [(.long (w0 ||| ((((u (k + 1)).toInt64) &&& (255 : Int64)) <<< (((8 : Int32) * (x0 - p1)) &&& 0x3f).toInt64)))])
  refine Runs.back (fun t_ k_ => XS.lstore X0.here hx rfl (hb hby d1_38) rfl (l' := #[.val (.ref r0), .val (.int p1), .val (.int p2), .val (.int p3), .val (.long (w0 ||| ((((u (k + 1)).toInt64) &&& (255 : Int64)) <<< (((8 : Int32) * (x0 - p1)) &&& 0x3f).toInt64))), .second, .val (.int x0)]) rfl k_) ?_
  show Runs _ _ _ _ s₁ (mkF m 40 #[.val (.ref r0), .val (.int p1), .val (.int p2), .val (.int p3), .val (.long (w0 ||| ((((u (k + 1)).toInt64) &&& (255 : Int64)) <<< (((8 : Int32) * (x0 - p1)) &&& 0x3f).toInt64))), .second, .val (.int x0)] [])
  refine Runs.back (fun t_ k_ => XS.iinc X0.here hx rfl (hb hby d1_40) rfl (l' := #[.val (.ref r0), .val (.int p1), .val (.int p2), .val (.int p3), .val (.long (w0 ||| ((((u (k + 1)).toInt64) &&& (255 : Int64)) <<< (((8 : Int32) * (x0 - p1)) &&& 0x3f).toInt64))), .second, .val (.int (x0 + (-1 : Int32)))]) rfl k_) ?_
  show Runs _ _ _ _ s₁ (mkF m 43 #[.val (.ref r0), .val (.int p1), .val (.int p2), .val (.int p3), .val (.long (w0 ||| ((((u (k + 1)).toInt64) &&& (255 : Int64)) <<< (((8 : Int32) * (x0 - p1)) &&& 0x3f).toInt64))), .second, .val (.int (x0 + (-1 : Int32)))] [])
  refine Runs.back (fun t_ k_ => XS.goto X0.here hx rfl (pc0 := 43) (pc' := 12) rfl (hb hby d1_43) (by decide) (by decide) k_) ?_
  show Runs _ _ _ _ s₁ (mkF m 12 #[.val (.ref r0), .val (.int p1), .val (.int p2), .val (.int p3), .val (.long (w0 ||| ((((u (k + 1)).toInt64) &&& (255 : Int64)) <<< (((8 : Int32) * (x0 - p1)) &&& 0x3f).toInt64))), .second, .val (.int (x0 + (-1 : Int32)))] [])
  have sq1 : ((8 : Int32) * (x0 - p1)) = (8 : Int32) := by
    have d : (x0 - p1).toInt = 1 := by rw [sub32 (by omega) (by omega)]; omega
    obtain e : (x0 - p1) = (1 : Int32) := eqi.mpr (by rw [d]; decide)
    rw [e]; decide
  have hw1 : Cg ((w0 ||| ((((u (k + 1)).toInt64) &&& (255 : Int64)) <<< (((8 : Int32) * (x0 - p1)) &&& 0x3f).toInt64))).toInt (p3.toInt * 72057594037927936 + ((dl (k + 1) : Nat) : Int) * 256) := lw1 sq1 (hd (k + 1) (by omega)) hw0 (by omega)
  have hx1 : ((x0 + (-1 : Int32))).toInt = (k : Int) + 1 - 1 := by rw [add32 (by rw [show (-1 : Int32).toInt = -1 from by decide]; omega) (by rw [show (-1 : Int32).toInt = -1 from by decide]; omega), show (-1 : Int32).toInt = -1 from by decide, hx0]; omega
  clear hx0 hk0 hn0 sq1 hw0
  generalize ew1 : (w0 ||| ((((u (k + 1)).toInt64) &&& (255 : Int64)) <<< (((8 : Int32) * (x0 - p1)) &&& 0x3f).toInt64)) = w1 at hw1 ⊢
  generalize ex1 : (x0 + (-1 : Int32)) = x1 at hx1 ⊢
  clear ew1 ex1
  show Runs _ _ _ _ s₁ (mkF m 12 #[.val (.ref r0), .val (.int p1), .val (.int p2), .val (.int p3), .val (.long w1), .second, .val (.int x1)] [])
  have hn1 : ¬ x1 < 0 := by rw [lti, z32]; omega
  have hk1 : x1.toNatClampNeg = k + 0 := by have q := nat_of hn1; omega
  refine Runs.back (fun t_ k_ => XS.iload X0.here hx rfl (hb hby d1_12) rfl k_) ?_
  show Runs _ _ _ _ s₁ (mkF m 14 #[.val (.ref r0), .val (.int p1), .val (.int p2), .val (.int p3), .val (.long w1), .second, .val (.int x1)] [(.int x1)])
  refine Runs.back (fun t_ k_ => XS.iloadN X0.here hx rfl (hb hby d1_14) rfl k_) ?_
  show Runs _ _ _ _ s₁ (mkF m 15 #[.val (.ref r0), .val (.int p1), .val (.int p2), .val (.int p3), .val (.long w1), .second, .val (.int x1)] [(.int p1), (.int x1)])
  refine Runs.back (fun t_ k_ => XS.icmpNo X0.here hx rfl (hb hby d1_15) rfl (flt (show ¬ (x1 < p1) from (by rw [lti]; omega))).1 k_) ?_
  show Runs _ _ _ _ s₁ (mkF m 18 #[.val (.ref r0), .val (.int p1), .val (.int p2), .val (.int p3), .val (.long w1), .second, .val (.int x1)] [])
  refine Runs.back (fun t_ k_ => XS.lload X0.here hx rfl (hb hby d1_18) rfl k_) ?_
  show Runs _ _ _ _ s₁ (mkF m 20 #[.val (.ref r0), .val (.int p1), .val (.int p2), .val (.int p3), .val (.long w1), .second, .val (.int x1)] [(.long w1)])
  refine Runs.back (fun t_ k_ => XS.aloadN X0.here hx rfl (hb hby d1_20) rfl rfl k_) ?_
  show Runs _ _ _ _ s₁ (mkF m 21 #[.val (.ref r0), .val (.int p1), .val (.int p2), .val (.int p3), .val (.long w1), .second, .val (.int x1)] [(.ref r0), (.long w1)])
  refine Runs.back (fun t_ k_ => XS.iload X0.here hx rfl (hb hby d1_21) rfl k_) ?_
  show Runs _ _ _ _ s₁ (mkF m 23 #[.val (.ref r0), .val (.int p1), .val (.int p2), .val (.int p3), .val (.long w1), .second, .val (.int x1)] [(.int x1), (.ref r0), (.long w1)])
  obtain ⟨cl2, Ar2, S2, Hs2⟩ := id A1
  have at2 : cl2.slots[(x1).toNatClampNeg]? = some (.int (u (k + 0))) := readO Hs2 hk1 (show (k + 0) < 16 from (by first | omega | decide)) (rfl)
  refine Runs.back (fun t_ k_ => X0.baloadBytes hx (j := x1) (v := (.int (u (k + 0)))) (by rw [e0]; exact Ar2.1) (State.isArrayOf_alike hZ.alike Ar2.2.1) Ar2.2.2 (by rw [S2]; exact (inbO hn1 hk1 (show (k + 0) < 16 from (by first | omega | decide)))) at2 (g := (mkF m 23 #[.val (.ref r0), .val (.int p1), .val (.int p2), .val (.int p3), .val (.long w1), .second, .val (.int x1)] [(.int x1), (.ref r0), (.long w1)])) rfl rfl (hb hby d1_23) _ k_) ?_
  clear at2 Hs2 S2 Ar2
  show Runs _ _ _ _ s₁ (mkF m 24 #[.val (.ref r0), .val (.int p1), .val (.int p2), .val (.int p3), .val (.long w1), .second, .val (.int x1)] [(.int (u (k + 0))), (.long w1)])
  refine Runs.back (fun t_ k_ => XS.i2l X0.here hx rfl (hb hby d1_24) rfl k_) ?_
  show Runs _ _ _ _ s₁ (mkF m 25 #[.val (.ref r0), .val (.int p1), .val (.int p2), .val (.int p3), .val (.long w1), .second, .val (.int x1)] [(.long ((u (k + 0)).toInt64)), (.long w1)])
  refine Runs.back (X0.ldc2Long hx hown (mvT hZ (hw _ (List.mem_of_getElem? (i := 6) rfl))) (g := (mkF m 25 #[.val (.ref r0), .val (.int p1), .val (.int p2), .val (.int p3), .val (.long w1), .second, .val (.int x1)] [(.long ((u (k + 0)).toInt64)), (.long w1)])) rfl (hb hby d1_25)) ?_
  show Runs _ _ _ _ s₁ (mkF m 28 #[.val (.ref r0), .val (.int p1), .val (.int p2), .val (.int p3), .val (.long w1), .second, .val (.int x1)] [(.long (255 : Int64)), (.long ((u (k + 0)).toInt64)), (.long w1)])
  refine Runs.back (fun t_ k_ => XS.land X0.here hx rfl (hb hby d1_28) rfl k_) ?_
  show Runs _ _ _ _ s₁ (mkF m 29 #[.val (.ref r0), .val (.int p1), .val (.int p2), .val (.int p3), .val (.long w1), .second, .val (.int x1)] [(.long (((u (k + 0)).toInt64) &&& (255 : Int64))), (.long w1)])
  refine Runs.back (fun t_ k_ => XS.bipush X0.here hx rfl (hb hby d1_29) k_) ?_
  show Runs _ _ _ _ s₁ (mkF m 31 #[.val (.ref r0), .val (.int p1), .val (.int p2), .val (.int p3), .val (.long w1), .second, .val (.int x1)] [(.int (8 : Int32)), (.long (((u (k + 0)).toInt64) &&& (255 : Int64))), (.long w1)])
  refine Runs.back (fun t_ k_ => XS.iload X0.here hx rfl (hb hby d1_31) rfl k_) ?_
  show Runs _ _ _ _ s₁ (mkF m 33 #[.val (.ref r0), .val (.int p1), .val (.int p2), .val (.int p3), .val (.long w1), .second, .val (.int x1)] [(.int x1), (.int (8 : Int32)), (.long (((u (k + 0)).toInt64) &&& (255 : Int64))), (.long w1)])
  refine Runs.back (fun t_ k_ => XS.iloadN X0.here hx rfl (hb hby d1_33) rfl k_) ?_
  show Runs _ _ _ _ s₁ (mkF m 34 #[.val (.ref r0), .val (.int p1), .val (.int p2), .val (.int p3), .val (.long w1), .second, .val (.int x1)] [(.int p1), (.int x1), (.int (8 : Int32)), (.long (((u (k + 0)).toInt64) &&& (255 : Int64))), (.long w1)])
  refine Runs.back (fun t_ k_ => XS.isub X0.here hx rfl (hb hby d1_34) rfl k_) ?_
  show Runs _ _ _ _ s₁ (mkF m 35 #[.val (.ref r0), .val (.int p1), .val (.int p2), .val (.int p3), .val (.long w1), .second, .val (.int x1)] [(.int (x1 - p1)), (.int (8 : Int32)), (.long (((u (k + 0)).toInt64) &&& (255 : Int64))), (.long w1)])
  refine Runs.back (fun t_ k_ => XS.imul X0.here hx rfl (hb hby d1_35) rfl k_) ?_
  show Runs _ _ _ _ s₁ (mkF m 36 #[.val (.ref r0), .val (.int p1), .val (.int p2), .val (.int p3), .val (.long w1), .second, .val (.int x1)] [(.int ((8 : Int32) * (x1 - p1))), (.long (((u (k + 0)).toInt64) &&& (255 : Int64))), (.long w1)])
  refine Runs.back (fun t_ k_ => XS.lshl X0.here hx rfl (hb hby d1_36) rfl k_) ?_
  show Runs _ _ _ _ s₁ (mkF m 37 #[.val (.ref r0), .val (.int p1), .val (.int p2), .val (.int p3), .val (.long w1), .second, .val (.int x1)] [(.long ((((u (k + 0)).toInt64) &&& (255 : Int64)) <<< (((8 : Int32) * (x1 - p1)) &&& 0x3f).toInt64)), (.long w1)])
  refine Runs.back (fun t_ k_ => XS.lor X0.here hx rfl (hb hby d1_37) rfl k_) ?_
  show Runs _ _ _ _ s₁ (mkF m 38 #[.val (.ref r0), .val (.int p1), .val (.int p2), .val (.int p3), .val (.long w1), .second, .val (.int x1)] [(.long (w1 ||| ((((u (k + 0)).toInt64) &&& (255 : Int64)) <<< (((8 : Int32) * (x1 - p1)) &&& 0x3f).toInt64)))])
  refine Runs.back (fun t_ k_ => XS.lstore X0.here hx rfl (hb hby d1_38) rfl (l' := #[.val (.ref r0), .val (.int p1), .val (.int p2), .val (.int p3), .val (.long (w1 ||| ((((u (k + 0)).toInt64) &&& (255 : Int64)) <<< (((8 : Int32) * (x1 - p1)) &&& 0x3f).toInt64))), .second, .val (.int x1)]) rfl k_) ?_
  show Runs _ _ _ _ s₁ (mkF m 40 #[.val (.ref r0), .val (.int p1), .val (.int p2), .val (.int p3), .val (.long (w1 ||| ((((u (k + 0)).toInt64) &&& (255 : Int64)) <<< (((8 : Int32) * (x1 - p1)) &&& 0x3f).toInt64))), .second, .val (.int x1)] [])
  refine Runs.back (fun t_ k_ => XS.iinc X0.here hx rfl (hb hby d1_40) rfl (l' := #[.val (.ref r0), .val (.int p1), .val (.int p2), .val (.int p3), .val (.long (w1 ||| ((((u (k + 0)).toInt64) &&& (255 : Int64)) <<< (((8 : Int32) * (x1 - p1)) &&& 0x3f).toInt64))), .second, .val (.int (x1 + (-1 : Int32)))]) rfl k_) ?_
  show Runs _ _ _ _ s₁ (mkF m 43 #[.val (.ref r0), .val (.int p1), .val (.int p2), .val (.int p3), .val (.long (w1 ||| ((((u (k + 0)).toInt64) &&& (255 : Int64)) <<< (((8 : Int32) * (x1 - p1)) &&& 0x3f).toInt64))), .second, .val (.int (x1 + (-1 : Int32)))] [])
  refine Runs.back (fun t_ k_ => XS.goto X0.here hx rfl (pc0 := 43) (pc' := 12) rfl (hb hby d1_43) (by decide) (by decide) k_) ?_
  show Runs _ _ _ _ s₁ (mkF m 12 #[.val (.ref r0), .val (.int p1), .val (.int p2), .val (.int p3), .val (.long (w1 ||| ((((u (k + 0)).toInt64) &&& (255 : Int64)) <<< (((8 : Int32) * (x1 - p1)) &&& 0x3f).toInt64))), .second, .val (.int (x1 + (-1 : Int32)))] [])
  have sq2 : ((8 : Int32) * (x1 - p1)) = (0 : Int32) := by
    have d : (x1 - p1).toInt = 0 := by rw [sub32 (by omega) (by omega)]; omega
    obtain e : (x1 - p1) = (0 : Int32) := eqi.mpr (by rw [d]; decide)
    rw [e]; decide
  have hw2 : Cg ((w1 ||| ((((u (k + 0)).toInt64) &&& (255 : Int64)) <<< (((8 : Int32) * (x1 - p1)) &&& 0x3f).toInt64))).toInt (p3.toInt * 72057594037927936 + ((dl (k + 1) : Nat) : Int) * 256 + ((dl (k + 0) : Nat) : Int) * 1) := lw0 sq2 (hd (k + 0) (by omega)) hw1 (by omega)
  have hx2 : ((x1 + (-1 : Int32))).toInt = (k : Int) + 0 - 1 := by rw [add32 (by rw [show (-1 : Int32).toInt = -1 from by decide]; omega) (by rw [show (-1 : Int32).toInt = -1 from by decide]; omega), show (-1 : Int32).toInt = -1 from by decide, hx1]; omega
  clear hx1 hk1 hn1 sq2 hw1
  generalize ew2 : (w1 ||| ((((u (k + 0)).toInt64) &&& (255 : Int64)) <<< (((8 : Int32) * (x1 - p1)) &&& 0x3f).toInt64)) = w2 at hw2 ⊢
  generalize ex2 : (x1 + (-1 : Int32)) = x2 at hx2 ⊢
  clear ew2 ex2
  show Runs _ _ _ _ s₁ (mkF m 12 #[.val (.ref r0), .val (.int p1), .val (.int p2), .val (.int p3), .val (.long w2), .second, .val (.int x2)] [])
  refine Runs.back (fun t_ k_ => XS.iload X0.here hx rfl (hb hby d1_12) rfl k_) ?_
  show Runs _ _ _ _ s₁ (mkF m 14 #[.val (.ref r0), .val (.int p1), .val (.int p2), .val (.int p3), .val (.long w2), .second, .val (.int x2)] [(.int x2)])
  refine Runs.back (fun t_ k_ => XS.iloadN X0.here hx rfl (hb hby d1_14) rfl k_) ?_
  show Runs _ _ _ _ s₁ (mkF m 15 #[.val (.ref r0), .val (.int p1), .val (.int p2), .val (.int p3), .val (.long w2), .second, .val (.int x2)] [(.int p1), (.int x2)])
  refine Runs.back (fun t_ k_ => XS.icmpYes X0.here hx rfl (pc0 := 15) (pc' := 46) rfl (hb hby d1_15) rfl (tlt (show x2 < p1 from (by rw [lti]; omega))).1 (by decide) (by decide) k_) ?_
  show Runs _ _ _ _ s₁ (mkF m 46 #[.val (.ref r0), .val (.int p1), .val (.int p2), .val (.int p3), .val (.long w2), .second, .val (.int x2)] [])
  refine Runs.back (fun t_ k_ => XS.lload X0.here hx rfl (hb hby d1_46) rfl k_) ?_
  show Runs _ _ _ _ s₁ (mkF m 48 #[.val (.ref r0), .val (.int p1), .val (.int p2), .val (.int p3), .val (.long w2), .second, .val (.int x2)] [(.long w2)])
  obtain ⟨fs, hr, hrun, hended, hW, hsame⟩ := X0.leave (v := some (.long w2)) (fun h => by rw [Bd.returns] at h; cases h)
  have hfin : Cg w2.toInt (p3.toInt * 72057594037927936 + ((sumD dl k 2 : Nat) : Int)) := by
    have e : p3.toInt * 72057594037927936 + ((sumD dl k 2 : Nat) : Int) = p3.toInt * 72057594037927936 + ((dl (k + 1) : Nat) : Int) * 256 + ((dl (k + 0) : Nat) : Int) * 1 := by rw [show sumD dl k 2 = 0 + dl (k + 0) * 1 + dl (k + 1) * 256 from rfl]; omega
    rw [e]; exact hw2
  exact ⟨_, _, (X0.lreturnOut hx Bd.returns (hb hby d1_48) hr), hrun, hended, _, _, rfl, ⟨_, rfl, N0, e0, hfin⟩, ⟨_, rfl⟩, hW, hsame.mono (by decide) (by decide)⟩
theorem pn_1c3 : plainName "com/example/strict_distinct/strictdistinct/SipHash" = true := by first | (simp [plainName, overriddenIn]; done) | decide +kernel
theorem ef_1c3 (m : MethodId) (r0 : Addr) (p1 : Int32) (p2 : Int32) (p3 : Int32) : entryFrame m #[(.ref r0), (.int p1), (.int p2), (.int p3)] 7 = mkF m 0 #[.val (.ref r0), .val (.int p1), .val (.int p2), .val (.int p3), .unset, .unset, .unset] [] := by first | (simp [entryFrame, mkF, argsToLocals, Value.category]; done) | rfl
def Q1c3 (Z : State) (r0 : Addr) (p1 : Int32) (p2 : Int32) (p3 : Int32) (u : Nat → Int32) (dl : Nat → Nat) (k : Nat) (h0 : Heap) (n0 : Nat) (v : Option Value) (h : Heap) (L : List Loc) : Prop := LWQ p3 3 k dl h0 n0 v h L
set_option maxRecDepth 65536 in
set_option maxHeartbeats 40000000 in
theorem rm1c3 (l : Launch) (Z : State) (a0 : Array Value) (hw : ∀ d ∈ tables_1, d.before a0 Z = true) (ws : List Jvm.Cond) (r0 : Addr) (p1 : Int32) (p2 : Int32) (p3 : Int32) (u : Nat → Int32) (dl : Nat → Nat) (k : Nat) (h0 : Heap) (n0 : Nat) (Z0 : n0 ≤ h0.size) (A1 : OArr Z h0 r0 .byte 16 (fun i => (Value.int (u i)))) (hp1 : p1.toInt = (k : Int)) (hp2 : p2.toInt = (k : Int) + 3) (hk9 : k < 9) (hd : ∀ i, i < 16 → (u i).toInt % 256 = ((dl i : Nat) : Int)) :
    MetFree l (⟨"com/example/strict_distinct/strictdistinct/SipHash", "lastWord", "([BIII)J"⟩ : MethodName) (head1 (Jvm.Cond.code (⟨"com/example/strict_distinct/strictdistinct/SipHash", "lastWord", "([BIII)J"⟩ : MethodName) prog_29_method_7_code 7 (some .long) :: ws) ({ frames := 0, cells := 0, slots := 0, locals := 0 } : Room)) (fun a U => a = #[(.ref r0), (.int p1), (.int p2), (.int p3)] ∧ Z.Warmed39 U.vm ∧ U.heap = h0) (fun _ _ _ _ _ => True) (fun _ U o U' => ∃ v L, o = .returned v ∧ Q1c3 Z r0 p1 p2 p3 u dl k h0 n0 v U'.heap L ∧ FrameEnd U o U' L ({ frames := 0, cells := 0, slots := 0, locals := 0 } : Room).cells ({ frames := 0, cells := 0, slots := 0, locals := 0 } : Room).slots) := by
  refine MetFree.of_bodySF (plainFor_of_name pn_1c3) hisR ?_
  intro p e s m args below meth c s₁ Bd hml0 hP hK
  obtain ⟨rfl, hZ, hh⟩ := hP
  have hx := Bd.exec
  have hby := Bd.bytes
  have hml : c.maxLocals = 7 := hml0
  have hown : s.vm.findClass "com/example/strict_distinct/strictdistinct/SipHash" = some m.cls := findClass_of_methodNamed Bd.named
  have hnm := (name_of_methodNamed Bd.named Bd.method).1
  have X0 : Stand p l e ({ frames := 0, cells := 0, slots := 0, locals := 0 } : Room) s m #[(.ref r0), (.int p1), (.int p2), (.int p3)] below meth c s₁ [] 0 0 := Stand.of_body Bd
  have e0 : s₁.heap = h0 := by rw [← hh, Bd.state]; rfl
  have N0 := Fr.nil n0
  refine Runs.enter (ef_1c3 m r0 p1 p2 p3) ?_
  show Runs _ _ _ _ s₁ (mkF m 0 #[.val (.ref r0), .val (.int p1), .val (.int p2), .val (.int p3), .unset, .unset, .unset] [])
  refine Runs.back (fun t_ k_ => XS.iloadN X0.here hx rfl (hb hby d1_0) rfl k_) ?_
  show Runs _ _ _ _ s₁ (mkF m 1 #[.val (.ref r0), .val (.int p1), .val (.int p2), .val (.int p3), .unset, .unset, .unset] [(.int p3)])
  refine Runs.back (fun t_ k_ => XS.i2l X0.here hx rfl (hb hby d1_1) rfl k_) ?_
  show Runs _ _ _ _ s₁ (mkF m 2 #[.val (.ref r0), .val (.int p1), .val (.int p2), .val (.int p3), .unset, .unset, .unset] [(.long (p3.toInt64))])
  refine Runs.back (fun t_ k_ => XS.bipush X0.here hx rfl (hb hby d1_2) k_) ?_
  show Runs _ _ _ _ s₁ (mkF m 4 #[.val (.ref r0), .val (.int p1), .val (.int p2), .val (.int p3), .unset, .unset, .unset] [(.int (56 : Int32)), (.long (p3.toInt64))])
  refine Runs.back (fun t_ k_ => XS.lshl X0.here hx rfl (hb hby d1_4) rfl k_) ?_
  show Runs _ _ _ _ s₁ (mkF m 5 #[.val (.ref r0), .val (.int p1), .val (.int p2), .val (.int p3), .unset, .unset, .unset] [(.long ((p3.toInt64) <<< ((56 : Int32) &&& 0x3f).toInt64))])
  refine Runs.back (fun t_ k_ => XS.lstore X0.here hx rfl (hb hby d1_5) rfl (l' := #[.val (.ref r0), .val (.int p1), .val (.int p2), .val (.int p3), .val (.long ((p3.toInt64) <<< ((56 : Int32) &&& 0x3f).toInt64)), .second, .unset]) rfl k_) ?_
  show Runs _ _ _ _ s₁ (mkF m 7 #[.val (.ref r0), .val (.int p1), .val (.int p2), .val (.int p3), .val (.long ((p3.toInt64) <<< ((56 : Int32) &&& 0x3f).toInt64)), .second, .unset] [])
  refine Runs.back (fun t_ k_ => XS.iloadN X0.here hx rfl (hb hby d1_7) rfl k_) ?_
  show Runs _ _ _ _ s₁ (mkF m 8 #[.val (.ref r0), .val (.int p1), .val (.int p2), .val (.int p3), .val (.long ((p3.toInt64) <<< ((56 : Int32) &&& 0x3f).toInt64)), .second, .unset] [(.int p2)])
  refine Runs.back (fun t_ k_ => XS.iconst X0.here hx rfl (hb hby d1_8) k_) ?_
  show Runs _ _ _ _ s₁ (mkF m 9 #[.val (.ref r0), .val (.int p1), .val (.int p2), .val (.int p3), .val (.long ((p3.toInt64) <<< ((56 : Int32) &&& 0x3f).toInt64)), .second, .unset] [(.int (1 : Int32)), (.int p2)])
  refine Runs.back (fun t_ k_ => XS.isub X0.here hx rfl (hb hby d1_9) rfl k_) ?_
  show Runs _ _ _ _ s₁ (mkF m 10 #[.val (.ref r0), .val (.int p1), .val (.int p2), .val (.int p3), .val (.long ((p3.toInt64) <<< ((56 : Int32) &&& 0x3f).toInt64)), .second, .unset] [(.int (p2 - (1 : Int32)))])
  refine Runs.back (fun t_ k_ => XS.istore X0.here hx rfl (hb hby d1_10) rfl (l' := #[.val (.ref r0), .val (.int p1), .val (.int p2), .val (.int p3), .val (.long ((p3.toInt64) <<< ((56 : Int32) &&& 0x3f).toInt64)), .second, .val (.int (p2 - (1 : Int32)))]) rfl k_) ?_
  show Runs _ _ _ _ s₁ (mkF m 12 #[.val (.ref r0), .val (.int p1), .val (.int p2), .val (.int p3), .val (.long ((p3.toInt64) <<< ((56 : Int32) &&& 0x3f).toInt64)), .second, .val (.int (p2 - (1 : Int32)))] [])
  have hw0 : Cg (((p3.toInt64) <<< ((56 : Int32) &&& 0x3f).toInt64)).toInt (p3.toInt * 72057594037927936) := by
    have q := c_lshl p3.toInt64 56 56 (by decide)
    rw [show ((2 ^ 56 : Nat) : Int) = 72057594037927936 from rfl, c_i2l] at q
    exact q
  have hx0 : ((p2 - (1 : Int32))).toInt = (k : Int) + 3 - 1 := by rw [sub32 (by rw [o32]; omega) (by rw [o32]; omega), o32, hp2]
  generalize ew0 : ((p3.toInt64) <<< ((56 : Int32) &&& 0x3f).toInt64) = w0 at hw0 ⊢
  generalize ex0 : (p2 - (1 : Int32)) = x0 at hx0 ⊢
  clear ew0 ex0
  show Runs _ _ _ _ s₁ (mkF m 12 #[.val (.ref r0), .val (.int p1), .val (.int p2), .val (.int p3), .val (.long w0), .second, .val (.int x0)] [])
  have hn0 : ¬ x0 < 0 := by rw [lti, z32]; omega
  have hk0 : x0.toNatClampNeg = k + 2 := by have q := nat_of hn0; omega
  refine Runs.back (fun t_ k_ => XS.iload X0.here hx rfl (hb hby d1_12) rfl k_) ?_
  show Runs _ _ _ _ s₁ (mkF m 14 #[.val (.ref r0), .val (.int p1), .val (.int p2), .val (.int p3), .val (.long w0), .second, .val (.int x0)] [(.int x0)])
  refine Runs.back (fun t_ k_ => XS.iloadN X0.here hx rfl (hb hby d1_14) rfl k_) ?_
  show Runs _ _ _ _ s₁ (mkF m 15 #[.val (.ref r0), .val (.int p1), .val (.int p2), .val (.int p3), .val (.long w0), .second, .val (.int x0)] [(.int p1), (.int x0)])
  refine Runs.back (fun t_ k_ => XS.icmpNo X0.here hx rfl (hb hby d1_15) rfl (flt (show ¬ (x0 < p1) from (by rw [lti]; omega))).1 k_) ?_
  show Runs _ _ _ _ s₁ (mkF m 18 #[.val (.ref r0), .val (.int p1), .val (.int p2), .val (.int p3), .val (.long w0), .second, .val (.int x0)] [])
  refine Runs.back (fun t_ k_ => XS.lload X0.here hx rfl (hb hby d1_18) rfl k_) ?_
  show Runs _ _ _ _ s₁ (mkF m 20 #[.val (.ref r0), .val (.int p1), .val (.int p2), .val (.int p3), .val (.long w0), .second, .val (.int x0)] [(.long w0)])
  refine Runs.back (fun t_ k_ => XS.aloadN X0.here hx rfl (hb hby d1_20) rfl rfl k_) ?_
  show Runs _ _ _ _ s₁ (mkF m 21 #[.val (.ref r0), .val (.int p1), .val (.int p2), .val (.int p3), .val (.long w0), .second, .val (.int x0)] [(.ref r0), (.long w0)])
  refine Runs.back (fun t_ k_ => XS.iload X0.here hx rfl (hb hby d1_21) rfl k_) ?_
  show Runs _ _ _ _ s₁ (mkF m 23 #[.val (.ref r0), .val (.int p1), .val (.int p2), .val (.int p3), .val (.long w0), .second, .val (.int x0)] [(.int x0), (.ref r0), (.long w0)])
  obtain ⟨cl1, Ar1, S1, Hs1⟩ := id A1
  have at1 : cl1.slots[(x0).toNatClampNeg]? = some (.int (u (k + 2))) := readO Hs1 hk0 (show (k + 2) < 16 from (by first | omega | decide)) (rfl)
  refine Runs.back (fun t_ k_ => X0.baloadBytes hx (j := x0) (v := (.int (u (k + 2)))) (by rw [e0]; exact Ar1.1) (State.isArrayOf_alike hZ.alike Ar1.2.1) Ar1.2.2 (by rw [S1]; exact (inbO hn0 hk0 (show (k + 2) < 16 from (by first | omega | decide)))) at1 (g := (mkF m 23 #[.val (.ref r0), .val (.int p1), .val (.int p2), .val (.int p3), .val (.long w0), .second, .val (.int x0)] [(.int x0), (.ref r0), (.long w0)])) rfl rfl (hb hby d1_23) _ k_) ?_
  clear at1 Hs1 S1 Ar1
  show Runs _ _ _ _ s₁ (mkF m 24 #[.val (.ref r0), .val (.int p1), .val (.int p2), .val (.int p3), .val (.long w0), .second, .val (.int x0)] [(.int (u (k + 2))), (.long w0)])
  refine Runs.back (fun t_ k_ => XS.i2l X0.here hx rfl (hb hby d1_24) rfl k_) ?_
  show Runs _ _ _ _ s₁ (mkF m 25 #[.val (.ref r0), .val (.int p1), .val (.int p2), .val (.int p3), .val (.long w0), .second, .val (.int x0)] [(.long ((u (k + 2)).toInt64)), (.long w0)])
  refine Runs.back (X0.ldc2Long hx hown (mvT hZ (hw _ (List.mem_of_getElem? (i := 6) rfl))) (g := (mkF m 25 #[.val (.ref r0), .val (.int p1), .val (.int p2), .val (.int p3), .val (.long w0), .second, .val (.int x0)] [(.long ((u (k + 2)).toInt64)), (.long w0)])) rfl (hb hby d1_25)) ?_
  show Runs _ _ _ _ s₁ (mkF m 28 #[.val (.ref r0), .val (.int p1), .val (.int p2), .val (.int p3), .val (.long w0), .second, .val (.int x0)] [(.long (255 : Int64)), (.long ((u (k + 2)).toInt64)), (.long w0)])
  refine Runs.back (fun t_ k_ => XS.land X0.here hx rfl (hb hby d1_28) rfl k_) ?_
  show Runs _ _ _ _ s₁ (mkF m 29 #[.val (.ref r0), .val (.int p1), .val (.int p2), .val (.int p3), .val (.long w0), .second, .val (.int x0)] [(.long (((u (k + 2)).toInt64) &&& (255 : Int64))), (.long w0)])
  refine Runs.back (fun t_ k_ => XS.bipush X0.here hx rfl (hb hby d1_29) k_) ?_
  show Runs _ _ _ _ s₁ (mkF m 31 #[.val (.ref r0), .val (.int p1), .val (.int p2), .val (.int p3), .val (.long w0), .second, .val (.int x0)] [(.int (8 : Int32)), (.long (((u (k + 2)).toInt64) &&& (255 : Int64))), (.long w0)])
  refine Runs.back (fun t_ k_ => XS.iload X0.here hx rfl (hb hby d1_31) rfl k_) ?_
  show Runs _ _ _ _ s₁ (mkF m 33 #[.val (.ref r0), .val (.int p1), .val (.int p2), .val (.int p3), .val (.long w0), .second, .val (.int x0)] [(.int x0), (.int (8 : Int32)), (.long (((u (k + 2)).toInt64) &&& (255 : Int64))), (.long w0)])
  refine Runs.back (fun t_ k_ => XS.iloadN X0.here hx rfl (hb hby d1_33) rfl k_) ?_
  show Runs _ _ _ _ s₁ (mkF m 34 #[.val (.ref r0), .val (.int p1), .val (.int p2), .val (.int p3), .val (.long w0), .second, .val (.int x0)] [(.int p1), (.int x0), (.int (8 : Int32)), (.long (((u (k + 2)).toInt64) &&& (255 : Int64))), (.long w0)])
  refine Runs.back (fun t_ k_ => XS.isub X0.here hx rfl (hb hby d1_34) rfl k_) ?_
  show Runs _ _ _ _ s₁ (mkF m 35 #[.val (.ref r0), .val (.int p1), .val (.int p2), .val (.int p3), .val (.long w0), .second, .val (.int x0)] [(.int (x0 - p1)), (.int (8 : Int32)), (.long (((u (k + 2)).toInt64) &&& (255 : Int64))), (.long w0)])
  refine Runs.back (fun t_ k_ => XS.imul X0.here hx rfl (hb hby d1_35) rfl k_) ?_
  show Runs _ _ _ _ s₁ (mkF m 36 #[.val (.ref r0), .val (.int p1), .val (.int p2), .val (.int p3), .val (.long w0), .second, .val (.int x0)] [(.int ((8 : Int32) * (x0 - p1))), (.long (((u (k + 2)).toInt64) &&& (255 : Int64))), (.long w0)])
  refine Runs.back (fun t_ k_ => XS.lshl X0.here hx rfl (hb hby d1_36) rfl k_) ?_
  show Runs _ _ _ _ s₁ (mkF m 37 #[.val (.ref r0), .val (.int p1), .val (.int p2), .val (.int p3), .val (.long w0), .second, .val (.int x0)] [(.long ((((u (k + 2)).toInt64) &&& (255 : Int64)) <<< (((8 : Int32) * (x0 - p1)) &&& 0x3f).toInt64)), (.long w0)])
  refine Runs.back (fun t_ k_ => XS.lor X0.here hx rfl (hb hby d1_37) rfl k_) ?_
  show Runs _ _ _ _ s₁ (mkF m 38 #[.val (.ref r0), .val (.int p1), .val (.int p2), .val (.int p3), .val (.long w0), .second, .val (.int x0)] [(.long (w0 ||| ((((u (k + 2)).toInt64) &&& (255 : Int64)) <<< (((8 : Int32) * (x0 - p1)) &&& 0x3f).toInt64)))])
  refine Runs.back (fun t_ k_ => XS.lstore X0.here hx rfl (hb hby d1_38) rfl (l' := #[.val (.ref r0), .val (.int p1), .val (.int p2), .val (.int p3), .val (.long (w0 ||| ((((u (k + 2)).toInt64) &&& (255 : Int64)) <<< (((8 : Int32) * (x0 - p1)) &&& 0x3f).toInt64))), .second, .val (.int x0)]) rfl k_) ?_
  show Runs _ _ _ _ s₁ (mkF m 40 #[.val (.ref r0), .val (.int p1), .val (.int p2), .val (.int p3), .val (.long (w0 ||| ((((u (k + 2)).toInt64) &&& (255 : Int64)) <<< (((8 : Int32) * (x0 - p1)) &&& 0x3f).toInt64))), .second, .val (.int x0)] [])
  refine Runs.back (fun t_ k_ => XS.iinc X0.here hx rfl (hb hby d1_40) rfl (l' := #[.val (.ref r0), .val (.int p1), .val (.int p2), .val (.int p3), .val (.long (w0 ||| ((((u (k + 2)).toInt64) &&& (255 : Int64)) <<< (((8 : Int32) * (x0 - p1)) &&& 0x3f).toInt64))), .second, .val (.int (x0 + (-1 : Int32)))]) rfl k_) ?_
  show Runs _ _ _ _ s₁ (mkF m 43 #[.val (.ref r0), .val (.int p1), .val (.int p2), .val (.int p3), .val (.long (w0 ||| ((((u (k + 2)).toInt64) &&& (255 : Int64)) <<< (((8 : Int32) * (x0 - p1)) &&& 0x3f).toInt64))), .second, .val (.int (x0 + (-1 : Int32)))] [])
  refine Runs.back (fun t_ k_ => XS.goto X0.here hx rfl (pc0 := 43) (pc' := 12) rfl (hb hby d1_43) (by decide) (by decide) k_) ?_
  show Runs _ _ _ _ s₁ (mkF m 12 #[.val (.ref r0), .val (.int p1), .val (.int p2), .val (.int p3), .val (.long (w0 ||| ((((u (k + 2)).toInt64) &&& (255 : Int64)) <<< (((8 : Int32) * (x0 - p1)) &&& 0x3f).toInt64))), .second, .val (.int (x0 + (-1 : Int32)))] [])
  have sq1 : ((8 : Int32) * (x0 - p1)) = (16 : Int32) := by
    have d : (x0 - p1).toInt = 2 := by rw [sub32 (by omega) (by omega)]; omega
    obtain e : (x0 - p1) = (2 : Int32) := eqi.mpr (by rw [d]; decide)
    rw [e]; decide
  have hw1 : Cg ((w0 ||| ((((u (k + 2)).toInt64) &&& (255 : Int64)) <<< (((8 : Int32) * (x0 - p1)) &&& 0x3f).toInt64))).toInt (p3.toInt * 72057594037927936 + ((dl (k + 2) : Nat) : Int) * 65536) := lw2 sq1 (hd (k + 2) (by omega)) hw0 (by omega)
  have hx1 : ((x0 + (-1 : Int32))).toInt = (k : Int) + 2 - 1 := by rw [add32 (by rw [show (-1 : Int32).toInt = -1 from by decide]; omega) (by rw [show (-1 : Int32).toInt = -1 from by decide]; omega), show (-1 : Int32).toInt = -1 from by decide, hx0]; omega
  clear hx0 hk0 hn0 sq1 hw0
  generalize ew1 : (w0 ||| ((((u (k + 2)).toInt64) &&& (255 : Int64)) <<< (((8 : Int32) * (x0 - p1)) &&& 0x3f).toInt64)) = w1 at hw1 ⊢
  generalize ex1 : (x0 + (-1 : Int32)) = x1 at hx1 ⊢
  clear ew1 ex1
  show Runs _ _ _ _ s₁ (mkF m 12 #[.val (.ref r0), .val (.int p1), .val (.int p2), .val (.int p3), .val (.long w1), .second, .val (.int x1)] [])
  have hn1 : ¬ x1 < 0 := by rw [lti, z32]; omega
  have hk1 : x1.toNatClampNeg = k + 1 := by have q := nat_of hn1; omega
  refine Runs.back (fun t_ k_ => XS.iload X0.here hx rfl (hb hby d1_12) rfl k_) ?_
  show Runs _ _ _ _ s₁ (mkF m 14 #[.val (.ref r0), .val (.int p1), .val (.int p2), .val (.int p3), .val (.long w1), .second, .val (.int x1)] [(.int x1)])
  refine Runs.back (fun t_ k_ => XS.iloadN X0.here hx rfl (hb hby d1_14) rfl k_) ?_
  show Runs _ _ _ _ s₁ (mkF m 15 #[.val (.ref r0), .val (.int p1), .val (.int p2), .val (.int p3), .val (.long w1), .second, .val (.int x1)] [(.int p1), (.int x1)])
  refine Runs.back (fun t_ k_ => XS.icmpNo X0.here hx rfl (hb hby d1_15) rfl (flt (show ¬ (x1 < p1) from (by rw [lti]; omega))).1 k_) ?_
  show Runs _ _ _ _ s₁ (mkF m 18 #[.val (.ref r0), .val (.int p1), .val (.int p2), .val (.int p3), .val (.long w1), .second, .val (.int x1)] [])
  refine Runs.back (fun t_ k_ => XS.lload X0.here hx rfl (hb hby d1_18) rfl k_) ?_
  show Runs _ _ _ _ s₁ (mkF m 20 #[.val (.ref r0), .val (.int p1), .val (.int p2), .val (.int p3), .val (.long w1), .second, .val (.int x1)] [(.long w1)])
  refine Runs.back (fun t_ k_ => XS.aloadN X0.here hx rfl (hb hby d1_20) rfl rfl k_) ?_
  show Runs _ _ _ _ s₁ (mkF m 21 #[.val (.ref r0), .val (.int p1), .val (.int p2), .val (.int p3), .val (.long w1), .second, .val (.int x1)] [(.ref r0), (.long w1)])
  refine Runs.back (fun t_ k_ => XS.iload X0.here hx rfl (hb hby d1_21) rfl k_) ?_
  show Runs _ _ _ _ s₁ (mkF m 23 #[.val (.ref r0), .val (.int p1), .val (.int p2), .val (.int p3), .val (.long w1), .second, .val (.int x1)] [(.int x1), (.ref r0), (.long w1)])
  obtain ⟨cl2, Ar2, S2, Hs2⟩ := id A1
  have at2 : cl2.slots[(x1).toNatClampNeg]? = some (.int (u (k + 1))) := readO Hs2 hk1 (show (k + 1) < 16 from (by first | omega | decide)) (rfl)
  refine Runs.back (fun t_ k_ => X0.baloadBytes hx (j := x1) (v := (.int (u (k + 1)))) (by rw [e0]; exact Ar2.1) (State.isArrayOf_alike hZ.alike Ar2.2.1) Ar2.2.2 (by rw [S2]; exact (inbO hn1 hk1 (show (k + 1) < 16 from (by first | omega | decide)))) at2 (g := (mkF m 23 #[.val (.ref r0), .val (.int p1), .val (.int p2), .val (.int p3), .val (.long w1), .second, .val (.int x1)] [(.int x1), (.ref r0), (.long w1)])) rfl rfl (hb hby d1_23) _ k_) ?_
  clear at2 Hs2 S2 Ar2
  show Runs _ _ _ _ s₁ (mkF m 24 #[.val (.ref r0), .val (.int p1), .val (.int p2), .val (.int p3), .val (.long w1), .second, .val (.int x1)] [(.int (u (k + 1))), (.long w1)])
  refine Runs.back (fun t_ k_ => XS.i2l X0.here hx rfl (hb hby d1_24) rfl k_) ?_
  show Runs _ _ _ _ s₁ (mkF m 25 #[.val (.ref r0), .val (.int p1), .val (.int p2), .val (.int p3), .val (.long w1), .second, .val (.int x1)] [(.long ((u (k + 1)).toInt64)), (.long w1)])
  refine Runs.back (X0.ldc2Long hx hown (mvT hZ (hw _ (List.mem_of_getElem? (i := 6) rfl))) (g := (mkF m 25 #[.val (.ref r0), .val (.int p1), .val (.int p2), .val (.int p3), .val (.long w1), .second, .val (.int x1)] [(.long ((u (k + 1)).toInt64)), (.long w1)])) rfl (hb hby d1_25)) ?_
  show Runs _ _ _ _ s₁ (mkF m 28 #[.val (.ref r0), .val (.int p1), .val (.int p2), .val (.int p3), .val (.long w1), .second, .val (.int x1)] [(.long (255 : Int64)), (.long ((u (k + 1)).toInt64)), (.long w1)])
  refine Runs.back (fun t_ k_ => XS.land X0.here hx rfl (hb hby d1_28) rfl k_) ?_
  show Runs _ _ _ _ s₁ (mkF m 29 #[.val (.ref r0), .val (.int p1), .val (.int p2), .val (.int p3), .val (.long w1), .second, .val (.int x1)] [(.long (((u (k + 1)).toInt64) &&& (255 : Int64))), (.long w1)])
  refine Runs.back (fun t_ k_ => XS.bipush X0.here hx rfl (hb hby d1_29) k_) ?_
  show Runs _ _ _ _ s₁ (mkF m 31 #[.val (.ref r0), .val (.int p1), .val (.int p2), .val (.int p3), .val (.long w1), .second, .val (.int x1)] [(.int (8 : Int32)), (.long (((u (k + 1)).toInt64) &&& (255 : Int64))), (.long w1)])
  refine Runs.back (fun t_ k_ => XS.iload X0.here hx rfl (hb hby d1_31) rfl k_) ?_
  show Runs _ _ _ _ s₁ (mkF m 33 #[.val (.ref r0), .val (.int p1), .val (.int p2), .val (.int p3), .val (.long w1), .second, .val (.int x1)] [(.int x1), (.int (8 : Int32)), (.long (((u (k + 1)).toInt64) &&& (255 : Int64))), (.long w1)])
  refine Runs.back (fun t_ k_ => XS.iloadN X0.here hx rfl (hb hby d1_33) rfl k_) ?_
  show Runs _ _ _ _ s₁ (mkF m 34 #[.val (.ref r0), .val (.int p1), .val (.int p2), .val (.int p3), .val (.long w1), .second, .val (.int x1)] [(.int p1), (.int x1), (.int (8 : Int32)), (.long (((u (k + 1)).toInt64) &&& (255 : Int64))), (.long w1)])
  refine Runs.back (fun t_ k_ => XS.isub X0.here hx rfl (hb hby d1_34) rfl k_) ?_
  show Runs _ _ _ _ s₁ (mkF m 35 #[.val (.ref r0), .val (.int p1), .val (.int p2), .val (.int p3), .val (.long w1), .second, .val (.int x1)] [(.int (x1 - p1)), (.int (8 : Int32)), (.long (((u (k + 1)).toInt64) &&& (255 : Int64))), (.long w1)])
  refine Runs.back (fun t_ k_ => XS.imul X0.here hx rfl (hb hby d1_35) rfl k_) ?_
  show Runs _ _ _ _ s₁ (mkF m 36 #[.val (.ref r0), .val (.int p1), .val (.int p2), .val (.int p3), .val (.long w1), .second, .val (.int x1)] [(.int ((8 : Int32) * (x1 - p1))), (.long (((u (k + 1)).toInt64) &&& (255 : Int64))), (.long w1)])
  refine Runs.back (fun t_ k_ => XS.lshl X0.here hx rfl (hb hby d1_36) rfl k_) ?_
  show Runs _ _ _ _ s₁ (mkF m 37 #[.val (.ref r0), .val (.int p1), .val (.int p2), .val (.int p3), .val (.long w1), .second, .val (.int x1)] [(.long ((((u (k + 1)).toInt64) &&& (255 : Int64)) <<< (((8 : Int32) * (x1 - p1)) &&& 0x3f).toInt64)), (.long w1)])
  refine Runs.back (fun t_ k_ => XS.lor X0.here hx rfl (hb hby d1_37) rfl k_) ?_
  show Runs _ _ _ _ s₁ (mkF m 38 #[.val (.ref r0), .val (.int p1), .val (.int p2), .val (.int p3), .val (.long w1), .second, .val (.int x1)] [(.long (w1 ||| ((((u (k + 1)).toInt64) &&& (255 : Int64)) <<< (((8 : Int32) * (x1 - p1)) &&& 0x3f).toInt64)))])
  refine Runs.back (fun t_ k_ => XS.lstore X0.here hx rfl (hb hby d1_38) rfl (l' := #[.val (.ref r0), .val (.int p1), .val (.int p2), .val (.int p3), .val (.long (w1 ||| ((((u (k + 1)).toInt64) &&& (255 : Int64)) <<< (((8 : Int32) * (x1 - p1)) &&& 0x3f).toInt64))), .second, .val (.int x1)]) rfl k_) ?_
  show Runs _ _ _ _ s₁ (mkF m 40 #[.val (.ref r0), .val (.int p1), .val (.int p2), .val (.int p3), .val (.long (w1 ||| ((((u (k + 1)).toInt64) &&& (255 : Int64)) <<< (((8 : Int32) * (x1 - p1)) &&& 0x3f).toInt64))), .second, .val (.int x1)] [])
  refine Runs.back (fun t_ k_ => XS.iinc X0.here hx rfl (hb hby d1_40) rfl (l' := #[.val (.ref r0), .val (.int p1), .val (.int p2), .val (.int p3), .val (.long (w1 ||| ((((u (k + 1)).toInt64) &&& (255 : Int64)) <<< (((8 : Int32) * (x1 - p1)) &&& 0x3f).toInt64))), .second, .val (.int (x1 + (-1 : Int32)))]) rfl k_) ?_
  show Runs _ _ _ _ s₁ (mkF m 43 #[.val (.ref r0), .val (.int p1), .val (.int p2), .val (.int p3), .val (.long (w1 ||| ((((u (k + 1)).toInt64) &&& (255 : Int64)) <<< (((8 : Int32) * (x1 - p1)) &&& 0x3f).toInt64))), .second, .val (.int (x1 + (-1 : Int32)))] [])
  refine Runs.back (fun t_ k_ => XS.goto X0.here hx rfl (pc0 := 43) (pc' := 12) rfl (hb hby d1_43) (by decide) (by decide) k_) ?_
  show Runs _ _ _ _ s₁ (mkF m 12 #[.val (.ref r0), .val (.int p1), .val (.int p2), .val (.int p3), .val (.long (w1 ||| ((((u (k + 1)).toInt64) &&& (255 : Int64)) <<< (((8 : Int32) * (x1 - p1)) &&& 0x3f).toInt64))), .second, .val (.int (x1 + (-1 : Int32)))] [])
  have sq2 : ((8 : Int32) * (x1 - p1)) = (8 : Int32) := by
    have d : (x1 - p1).toInt = 1 := by rw [sub32 (by omega) (by omega)]; omega
    obtain e : (x1 - p1) = (1 : Int32) := eqi.mpr (by rw [d]; decide)
    rw [e]; decide
  have hw2 : Cg ((w1 ||| ((((u (k + 1)).toInt64) &&& (255 : Int64)) <<< (((8 : Int32) * (x1 - p1)) &&& 0x3f).toInt64))).toInt (p3.toInt * 72057594037927936 + ((dl (k + 2) : Nat) : Int) * 65536 + ((dl (k + 1) : Nat) : Int) * 256) := lw1 sq2 (hd (k + 1) (by omega)) hw1 (by omega)
  have hx2 : ((x1 + (-1 : Int32))).toInt = (k : Int) + 1 - 1 := by rw [add32 (by rw [show (-1 : Int32).toInt = -1 from by decide]; omega) (by rw [show (-1 : Int32).toInt = -1 from by decide]; omega), show (-1 : Int32).toInt = -1 from by decide, hx1]; omega
  clear hx1 hk1 hn1 sq2 hw1
  generalize ew2 : (w1 ||| ((((u (k + 1)).toInt64) &&& (255 : Int64)) <<< (((8 : Int32) * (x1 - p1)) &&& 0x3f).toInt64)) = w2 at hw2 ⊢
  generalize ex2 : (x1 + (-1 : Int32)) = x2 at hx2 ⊢
  clear ew2 ex2
  show Runs _ _ _ _ s₁ (mkF m 12 #[.val (.ref r0), .val (.int p1), .val (.int p2), .val (.int p3), .val (.long w2), .second, .val (.int x2)] [])
  have hn2 : ¬ x2 < 0 := by rw [lti, z32]; omega
  have hk2 : x2.toNatClampNeg = k + 0 := by have q := nat_of hn2; omega
  refine Runs.back (fun t_ k_ => XS.iload X0.here hx rfl (hb hby d1_12) rfl k_) ?_
  show Runs _ _ _ _ s₁ (mkF m 14 #[.val (.ref r0), .val (.int p1), .val (.int p2), .val (.int p3), .val (.long w2), .second, .val (.int x2)] [(.int x2)])
  refine Runs.back (fun t_ k_ => XS.iloadN X0.here hx rfl (hb hby d1_14) rfl k_) ?_
  show Runs _ _ _ _ s₁ (mkF m 15 #[.val (.ref r0), .val (.int p1), .val (.int p2), .val (.int p3), .val (.long w2), .second, .val (.int x2)] [(.int p1), (.int x2)])
  refine Runs.back (fun t_ k_ => XS.icmpNo X0.here hx rfl (hb hby d1_15) rfl (flt (show ¬ (x2 < p1) from (by rw [lti]; omega))).1 k_) ?_
  show Runs _ _ _ _ s₁ (mkF m 18 #[.val (.ref r0), .val (.int p1), .val (.int p2), .val (.int p3), .val (.long w2), .second, .val (.int x2)] [])
  refine Runs.back (fun t_ k_ => XS.lload X0.here hx rfl (hb hby d1_18) rfl k_) ?_
  show Runs _ _ _ _ s₁ (mkF m 20 #[.val (.ref r0), .val (.int p1), .val (.int p2), .val (.int p3), .val (.long w2), .second, .val (.int x2)] [(.long w2)])
  refine Runs.back (fun t_ k_ => XS.aloadN X0.here hx rfl (hb hby d1_20) rfl rfl k_) ?_
  show Runs _ _ _ _ s₁ (mkF m 21 #[.val (.ref r0), .val (.int p1), .val (.int p2), .val (.int p3), .val (.long w2), .second, .val (.int x2)] [(.ref r0), (.long w2)])
  refine Runs.back (fun t_ k_ => XS.iload X0.here hx rfl (hb hby d1_21) rfl k_) ?_
  show Runs _ _ _ _ s₁ (mkF m 23 #[.val (.ref r0), .val (.int p1), .val (.int p2), .val (.int p3), .val (.long w2), .second, .val (.int x2)] [(.int x2), (.ref r0), (.long w2)])
  obtain ⟨cl3, Ar3, S3, Hs3⟩ := id A1
  have at3 : cl3.slots[(x2).toNatClampNeg]? = some (.int (u (k + 0))) := readO Hs3 hk2 (show (k + 0) < 16 from (by first | omega | decide)) (rfl)
  refine Runs.back (fun t_ k_ => X0.baloadBytes hx (j := x2) (v := (.int (u (k + 0)))) (by rw [e0]; exact Ar3.1) (State.isArrayOf_alike hZ.alike Ar3.2.1) Ar3.2.2 (by rw [S3]; exact (inbO hn2 hk2 (show (k + 0) < 16 from (by first | omega | decide)))) at3 (g := (mkF m 23 #[.val (.ref r0), .val (.int p1), .val (.int p2), .val (.int p3), .val (.long w2), .second, .val (.int x2)] [(.int x2), (.ref r0), (.long w2)])) rfl rfl (hb hby d1_23) _ k_) ?_
  clear at3 Hs3 S3 Ar3
  show Runs _ _ _ _ s₁ (mkF m 24 #[.val (.ref r0), .val (.int p1), .val (.int p2), .val (.int p3), .val (.long w2), .second, .val (.int x2)] [(.int (u (k + 0))), (.long w2)])
  refine Runs.back (fun t_ k_ => XS.i2l X0.here hx rfl (hb hby d1_24) rfl k_) ?_
  show Runs _ _ _ _ s₁ (mkF m 25 #[.val (.ref r0), .val (.int p1), .val (.int p2), .val (.int p3), .val (.long w2), .second, .val (.int x2)] [(.long ((u (k + 0)).toInt64)), (.long w2)])
  refine Runs.back (X0.ldc2Long hx hown (mvT hZ (hw _ (List.mem_of_getElem? (i := 6) rfl))) (g := (mkF m 25 #[.val (.ref r0), .val (.int p1), .val (.int p2), .val (.int p3), .val (.long w2), .second, .val (.int x2)] [(.long ((u (k + 0)).toInt64)), (.long w2)])) rfl (hb hby d1_25)) ?_
  show Runs _ _ _ _ s₁ (mkF m 28 #[.val (.ref r0), .val (.int p1), .val (.int p2), .val (.int p3), .val (.long w2), .second, .val (.int x2)] [(.long (255 : Int64)), (.long ((u (k + 0)).toInt64)), (.long w2)])
  refine Runs.back (fun t_ k_ => XS.land X0.here hx rfl (hb hby d1_28) rfl k_) ?_
  show Runs _ _ _ _ s₁ (mkF m 29 #[.val (.ref r0), .val (.int p1), .val (.int p2), .val (.int p3), .val (.long w2), .second, .val (.int x2)] [(.long (((u (k + 0)).toInt64) &&& (255 : Int64))), (.long w2)])
  refine Runs.back (fun t_ k_ => XS.bipush X0.here hx rfl (hb hby d1_29) k_) ?_
  show Runs _ _ _ _ s₁ (mkF m 31 #[.val (.ref r0), .val (.int p1), .val (.int p2), .val (.int p3), .val (.long w2), .second, .val (.int x2)] [(.int (8 : Int32)), (.long (((u (k + 0)).toInt64) &&& (255 : Int64))), (.long w2)])
  refine Runs.back (fun t_ k_ => XS.iload X0.here hx rfl (hb hby d1_31) rfl k_) ?_
  show Runs _ _ _ _ s₁ (mkF m 33 #[.val (.ref r0), .val (.int p1), .val (.int p2), .val (.int p3), .val (.long w2), .second, .val (.int x2)] [(.int x2), (.int (8 : Int32)), (.long (((u (k + 0)).toInt64) &&& (255 : Int64))), (.long w2)])
  refine Runs.back (fun t_ k_ => XS.iloadN X0.here hx rfl (hb hby d1_33) rfl k_) ?_
  show Runs _ _ _ _ s₁ (mkF m 34 #[.val (.ref r0), .val (.int p1), .val (.int p2), .val (.int p3), .val (.long w2), .second, .val (.int x2)] [(.int p1), (.int x2), (.int (8 : Int32)), (.long (((u (k + 0)).toInt64) &&& (255 : Int64))), (.long w2)])
  refine Runs.back (fun t_ k_ => XS.isub X0.here hx rfl (hb hby d1_34) rfl k_) ?_
  show Runs _ _ _ _ s₁ (mkF m 35 #[.val (.ref r0), .val (.int p1), .val (.int p2), .val (.int p3), .val (.long w2), .second, .val (.int x2)] [(.int (x2 - p1)), (.int (8 : Int32)), (.long (((u (k + 0)).toInt64) &&& (255 : Int64))), (.long w2)])
  refine Runs.back (fun t_ k_ => XS.imul X0.here hx rfl (hb hby d1_35) rfl k_) ?_
  show Runs _ _ _ _ s₁ (mkF m 36 #[.val (.ref r0), .val (.int p1), .val (.int p2), .val (.int p3), .val (.long w2), .second, .val (.int x2)] [(.int ((8 : Int32) * (x2 - p1))), (.long (((u (k + 0)).toInt64) &&& (255 : Int64))), (.long w2)])
  refine Runs.back (fun t_ k_ => XS.lshl X0.here hx rfl (hb hby d1_36) rfl k_) ?_
  show Runs _ _ _ _ s₁ (mkF m 37 #[.val (.ref r0), .val (.int p1), .val (.int p2), .val (.int p3), .val (.long w2), .second, .val (.int x2)] [(.long ((((u (k + 0)).toInt64) &&& (255 : Int64)) <<< (((8 : Int32) * (x2 - p1)) &&& 0x3f).toInt64)), (.long w2)])
  refine Runs.back (fun t_ k_ => XS.lor X0.here hx rfl (hb hby d1_37) rfl k_) ?_
  show Runs _ _ _ _ s₁ (mkF m 38 #[.val (.ref r0), .val (.int p1), .val (.int p2), .val (.int p3), .val (.long w2), .second, .val (.int x2)] [(.long (w2 ||| ((((u (k + 0)).toInt64) &&& (255 : Int64)) <<< (((8 : Int32) * (x2 - p1)) &&& 0x3f).toInt64)))])
  refine Runs.back (fun t_ k_ => XS.lstore X0.here hx rfl (hb hby d1_38) rfl (l' := #[.val (.ref r0), .val (.int p1), .val (.int p2), .val (.int p3), .val (.long (w2 ||| ((((u (k + 0)).toInt64) &&& (255 : Int64)) <<< (((8 : Int32) * (x2 - p1)) &&& 0x3f).toInt64))), .second, .val (.int x2)]) rfl k_) ?_
  show Runs _ _ _ _ s₁ (mkF m 40 #[.val (.ref r0), .val (.int p1), .val (.int p2), .val (.int p3), .val (.long (w2 ||| ((((u (k + 0)).toInt64) &&& (255 : Int64)) <<< (((8 : Int32) * (x2 - p1)) &&& 0x3f).toInt64))), .second, .val (.int x2)] [])
  refine Runs.back (fun t_ k_ => XS.iinc X0.here hx rfl (hb hby d1_40) rfl (l' := #[.val (.ref r0), .val (.int p1), .val (.int p2), .val (.int p3), .val (.long (w2 ||| ((((u (k + 0)).toInt64) &&& (255 : Int64)) <<< (((8 : Int32) * (x2 - p1)) &&& 0x3f).toInt64))), .second, .val (.int (x2 + (-1 : Int32)))]) rfl k_) ?_
  show Runs _ _ _ _ s₁ (mkF m 43 #[.val (.ref r0), .val (.int p1), .val (.int p2), .val (.int p3), .val (.long (w2 ||| ((((u (k + 0)).toInt64) &&& (255 : Int64)) <<< (((8 : Int32) * (x2 - p1)) &&& 0x3f).toInt64))), .second, .val (.int (x2 + (-1 : Int32)))] [])
  refine Runs.back (fun t_ k_ => XS.goto X0.here hx rfl (pc0 := 43) (pc' := 12) rfl (hb hby d1_43) (by decide) (by decide) k_) ?_
  show Runs _ _ _ _ s₁ (mkF m 12 #[.val (.ref r0), .val (.int p1), .val (.int p2), .val (.int p3), .val (.long (w2 ||| ((((u (k + 0)).toInt64) &&& (255 : Int64)) <<< (((8 : Int32) * (x2 - p1)) &&& 0x3f).toInt64))), .second, .val (.int (x2 + (-1 : Int32)))] [])
  have sq3 : ((8 : Int32) * (x2 - p1)) = (0 : Int32) := by
    have d : (x2 - p1).toInt = 0 := by rw [sub32 (by omega) (by omega)]; omega
    obtain e : (x2 - p1) = (0 : Int32) := eqi.mpr (by rw [d]; decide)
    rw [e]; decide
  have hw3 : Cg ((w2 ||| ((((u (k + 0)).toInt64) &&& (255 : Int64)) <<< (((8 : Int32) * (x2 - p1)) &&& 0x3f).toInt64))).toInt (p3.toInt * 72057594037927936 + ((dl (k + 2) : Nat) : Int) * 65536 + ((dl (k + 1) : Nat) : Int) * 256 + ((dl (k + 0) : Nat) : Int) * 1) := lw0 sq3 (hd (k + 0) (by omega)) hw2 (by omega)
  have hx3 : ((x2 + (-1 : Int32))).toInt = (k : Int) + 0 - 1 := by rw [add32 (by rw [show (-1 : Int32).toInt = -1 from by decide]; omega) (by rw [show (-1 : Int32).toInt = -1 from by decide]; omega), show (-1 : Int32).toInt = -1 from by decide, hx2]; omega
  clear hx2 hk2 hn2 sq3 hw2
  generalize ew3 : (w2 ||| ((((u (k + 0)).toInt64) &&& (255 : Int64)) <<< (((8 : Int32) * (x2 - p1)) &&& 0x3f).toInt64)) = w3 at hw3 ⊢
  generalize ex3 : (x2 + (-1 : Int32)) = x3 at hx3 ⊢
  clear ew3 ex3
  show Runs _ _ _ _ s₁ (mkF m 12 #[.val (.ref r0), .val (.int p1), .val (.int p2), .val (.int p3), .val (.long w3), .second, .val (.int x3)] [])
  refine Runs.back (fun t_ k_ => XS.iload X0.here hx rfl (hb hby d1_12) rfl k_) ?_
  show Runs _ _ _ _ s₁ (mkF m 14 #[.val (.ref r0), .val (.int p1), .val (.int p2), .val (.int p3), .val (.long w3), .second, .val (.int x3)] [(.int x3)])
  refine Runs.back (fun t_ k_ => XS.iloadN X0.here hx rfl (hb hby d1_14) rfl k_) ?_
  show Runs _ _ _ _ s₁ (mkF m 15 #[.val (.ref r0), .val (.int p1), .val (.int p2), .val (.int p3), .val (.long w3), .second, .val (.int x3)] [(.int p1), (.int x3)])
  refine Runs.back (fun t_ k_ => XS.icmpYes X0.here hx rfl (pc0 := 15) (pc' := 46) rfl (hb hby d1_15) rfl (tlt (show x3 < p1 from (by rw [lti]; omega))).1 (by decide) (by decide) k_) ?_
  show Runs _ _ _ _ s₁ (mkF m 46 #[.val (.ref r0), .val (.int p1), .val (.int p2), .val (.int p3), .val (.long w3), .second, .val (.int x3)] [])
  refine Runs.back (fun t_ k_ => XS.lload X0.here hx rfl (hb hby d1_46) rfl k_) ?_
  show Runs _ _ _ _ s₁ (mkF m 48 #[.val (.ref r0), .val (.int p1), .val (.int p2), .val (.int p3), .val (.long w3), .second, .val (.int x3)] [(.long w3)])
  obtain ⟨fs, hr, hrun, hended, hW, hsame⟩ := X0.leave (v := some (.long w3)) (fun h => by rw [Bd.returns] at h; cases h)
  have hfin : Cg w3.toInt (p3.toInt * 72057594037927936 + ((sumD dl k 3 : Nat) : Int)) := by
    have e : p3.toInt * 72057594037927936 + ((sumD dl k 3 : Nat) : Int) = p3.toInt * 72057594037927936 + ((dl (k + 2) : Nat) : Int) * 65536 + ((dl (k + 1) : Nat) : Int) * 256 + ((dl (k + 0) : Nat) : Int) * 1 := by rw [show sumD dl k 3 = 0 + dl (k + 0) * 1 + dl (k + 1) * 256 + dl (k + 2) * 65536 from rfl]; omega
    rw [e]; exact hw3
  exact ⟨_, _, (X0.lreturnOut hx Bd.returns (hb hby d1_48) hr), hrun, hended, _, _, rfl, ⟨_, rfl, N0, e0, hfin⟩, ⟨_, rfl⟩, hW, hsame.mono (by decide) (by decide)⟩
theorem pn_1c4 : plainName "com/example/strict_distinct/strictdistinct/SipHash" = true := by first | (simp [plainName, overriddenIn]; done) | decide +kernel
theorem ef_1c4 (m : MethodId) (r0 : Addr) (p1 : Int32) (p2 : Int32) (p3 : Int32) : entryFrame m #[(.ref r0), (.int p1), (.int p2), (.int p3)] 7 = mkF m 0 #[.val (.ref r0), .val (.int p1), .val (.int p2), .val (.int p3), .unset, .unset, .unset] [] := by first | (simp [entryFrame, mkF, argsToLocals, Value.category]; done) | rfl
def Q1c4 (Z : State) (r0 : Addr) (p1 : Int32) (p2 : Int32) (p3 : Int32) (u : Nat → Int32) (dl : Nat → Nat) (k : Nat) (h0 : Heap) (n0 : Nat) (v : Option Value) (h : Heap) (L : List Loc) : Prop := LWQ p3 4 k dl h0 n0 v h L
set_option maxRecDepth 65536 in
set_option maxHeartbeats 40000000 in
theorem rm1c4 (l : Launch) (Z : State) (a0 : Array Value) (hw : ∀ d ∈ tables_1, d.before a0 Z = true) (ws : List Jvm.Cond) (r0 : Addr) (p1 : Int32) (p2 : Int32) (p3 : Int32) (u : Nat → Int32) (dl : Nat → Nat) (k : Nat) (h0 : Heap) (n0 : Nat) (Z0 : n0 ≤ h0.size) (A1 : OArr Z h0 r0 .byte 16 (fun i => (Value.int (u i)))) (hp1 : p1.toInt = (k : Int)) (hp2 : p2.toInt = (k : Int) + 4) (hk9 : k < 9) (hd : ∀ i, i < 16 → (u i).toInt % 256 = ((dl i : Nat) : Int)) :
    MetFree l (⟨"com/example/strict_distinct/strictdistinct/SipHash", "lastWord", "([BIII)J"⟩ : MethodName) (head1 (Jvm.Cond.code (⟨"com/example/strict_distinct/strictdistinct/SipHash", "lastWord", "([BIII)J"⟩ : MethodName) prog_29_method_7_code 7 (some .long) :: ws) ({ frames := 0, cells := 0, slots := 0, locals := 0 } : Room)) (fun a U => a = #[(.ref r0), (.int p1), (.int p2), (.int p3)] ∧ Z.Warmed39 U.vm ∧ U.heap = h0) (fun _ _ _ _ _ => True) (fun _ U o U' => ∃ v L, o = .returned v ∧ Q1c4 Z r0 p1 p2 p3 u dl k h0 n0 v U'.heap L ∧ FrameEnd U o U' L ({ frames := 0, cells := 0, slots := 0, locals := 0 } : Room).cells ({ frames := 0, cells := 0, slots := 0, locals := 0 } : Room).slots) := by
  refine MetFree.of_bodySF (plainFor_of_name pn_1c4) hisR ?_
  intro p e s m args below meth c s₁ Bd hml0 hP hK
  obtain ⟨rfl, hZ, hh⟩ := hP
  have hx := Bd.exec
  have hby := Bd.bytes
  have hml : c.maxLocals = 7 := hml0
  have hown : s.vm.findClass "com/example/strict_distinct/strictdistinct/SipHash" = some m.cls := findClass_of_methodNamed Bd.named
  have hnm := (name_of_methodNamed Bd.named Bd.method).1
  have X0 : Stand p l e ({ frames := 0, cells := 0, slots := 0, locals := 0 } : Room) s m #[(.ref r0), (.int p1), (.int p2), (.int p3)] below meth c s₁ [] 0 0 := Stand.of_body Bd
  have e0 : s₁.heap = h0 := by rw [← hh, Bd.state]; rfl
  have N0 := Fr.nil n0
  refine Runs.enter (ef_1c4 m r0 p1 p2 p3) ?_
  show Runs _ _ _ _ s₁ (mkF m 0 #[.val (.ref r0), .val (.int p1), .val (.int p2), .val (.int p3), .unset, .unset, .unset] [])
  refine Runs.back (fun t_ k_ => XS.iloadN X0.here hx rfl (hb hby d1_0) rfl k_) ?_
  show Runs _ _ _ _ s₁ (mkF m 1 #[.val (.ref r0), .val (.int p1), .val (.int p2), .val (.int p3), .unset, .unset, .unset] [(.int p3)])
  refine Runs.back (fun t_ k_ => XS.i2l X0.here hx rfl (hb hby d1_1) rfl k_) ?_
  show Runs _ _ _ _ s₁ (mkF m 2 #[.val (.ref r0), .val (.int p1), .val (.int p2), .val (.int p3), .unset, .unset, .unset] [(.long (p3.toInt64))])
  refine Runs.back (fun t_ k_ => XS.bipush X0.here hx rfl (hb hby d1_2) k_) ?_
  show Runs _ _ _ _ s₁ (mkF m 4 #[.val (.ref r0), .val (.int p1), .val (.int p2), .val (.int p3), .unset, .unset, .unset] [(.int (56 : Int32)), (.long (p3.toInt64))])
  refine Runs.back (fun t_ k_ => XS.lshl X0.here hx rfl (hb hby d1_4) rfl k_) ?_
  show Runs _ _ _ _ s₁ (mkF m 5 #[.val (.ref r0), .val (.int p1), .val (.int p2), .val (.int p3), .unset, .unset, .unset] [(.long ((p3.toInt64) <<< ((56 : Int32) &&& 0x3f).toInt64))])
  refine Runs.back (fun t_ k_ => XS.lstore X0.here hx rfl (hb hby d1_5) rfl (l' := #[.val (.ref r0), .val (.int p1), .val (.int p2), .val (.int p3), .val (.long ((p3.toInt64) <<< ((56 : Int32) &&& 0x3f).toInt64)), .second, .unset]) rfl k_) ?_
  show Runs _ _ _ _ s₁ (mkF m 7 #[.val (.ref r0), .val (.int p1), .val (.int p2), .val (.int p3), .val (.long ((p3.toInt64) <<< ((56 : Int32) &&& 0x3f).toInt64)), .second, .unset] [])
  refine Runs.back (fun t_ k_ => XS.iloadN X0.here hx rfl (hb hby d1_7) rfl k_) ?_
  show Runs _ _ _ _ s₁ (mkF m 8 #[.val (.ref r0), .val (.int p1), .val (.int p2), .val (.int p3), .val (.long ((p3.toInt64) <<< ((56 : Int32) &&& 0x3f).toInt64)), .second, .unset] [(.int p2)])
  refine Runs.back (fun t_ k_ => XS.iconst X0.here hx rfl (hb hby d1_8) k_) ?_
  show Runs _ _ _ _ s₁ (mkF m 9 #[.val (.ref r0), .val (.int p1), .val (.int p2), .val (.int p3), .val (.long ((p3.toInt64) <<< ((56 : Int32) &&& 0x3f).toInt64)), .second, .unset] [(.int (1 : Int32)), (.int p2)])
  refine Runs.back (fun t_ k_ => XS.isub X0.here hx rfl (hb hby d1_9) rfl k_) ?_
  show Runs _ _ _ _ s₁ (mkF m 10 #[.val (.ref r0), .val (.int p1), .val (.int p2), .val (.int p3), .val (.long ((p3.toInt64) <<< ((56 : Int32) &&& 0x3f).toInt64)), .second, .unset] [(.int (p2 - (1 : Int32)))])
  refine Runs.back (fun t_ k_ => XS.istore X0.here hx rfl (hb hby d1_10) rfl (l' := #[.val (.ref r0), .val (.int p1), .val (.int p2), .val (.int p3), .val (.long ((p3.toInt64) <<< ((56 : Int32) &&& 0x3f).toInt64)), .second, .val (.int (p2 - (1 : Int32)))]) rfl k_) ?_
  show Runs _ _ _ _ s₁ (mkF m 12 #[.val (.ref r0), .val (.int p1), .val (.int p2), .val (.int p3), .val (.long ((p3.toInt64) <<< ((56 : Int32) &&& 0x3f).toInt64)), .second, .val (.int (p2 - (1 : Int32)))] [])
  have hw0 : Cg (((p3.toInt64) <<< ((56 : Int32) &&& 0x3f).toInt64)).toInt (p3.toInt * 72057594037927936) := by
    have q := c_lshl p3.toInt64 56 56 (by decide)
    rw [show ((2 ^ 56 : Nat) : Int) = 72057594037927936 from rfl, c_i2l] at q
    exact q
  have hx0 : ((p2 - (1 : Int32))).toInt = (k : Int) + 4 - 1 := by rw [sub32 (by rw [o32]; omega) (by rw [o32]; omega), o32, hp2]
  generalize ew0 : ((p3.toInt64) <<< ((56 : Int32) &&& 0x3f).toInt64) = w0 at hw0 ⊢
  generalize ex0 : (p2 - (1 : Int32)) = x0 at hx0 ⊢
  clear ew0 ex0
  show Runs _ _ _ _ s₁ (mkF m 12 #[.val (.ref r0), .val (.int p1), .val (.int p2), .val (.int p3), .val (.long w0), .second, .val (.int x0)] [])
  have hn0 : ¬ x0 < 0 := by rw [lti, z32]; omega
  have hk0 : x0.toNatClampNeg = k + 3 := by have q := nat_of hn0; omega
  refine Runs.back (fun t_ k_ => XS.iload X0.here hx rfl (hb hby d1_12) rfl k_) ?_
  show Runs _ _ _ _ s₁ (mkF m 14 #[.val (.ref r0), .val (.int p1), .val (.int p2), .val (.int p3), .val (.long w0), .second, .val (.int x0)] [(.int x0)])
  refine Runs.back (fun t_ k_ => XS.iloadN X0.here hx rfl (hb hby d1_14) rfl k_) ?_
  show Runs _ _ _ _ s₁ (mkF m 15 #[.val (.ref r0), .val (.int p1), .val (.int p2), .val (.int p3), .val (.long w0), .second, .val (.int x0)] [(.int p1), (.int x0)])
  refine Runs.back (fun t_ k_ => XS.icmpNo X0.here hx rfl (hb hby d1_15) rfl (flt (show ¬ (x0 < p1) from (by rw [lti]; omega))).1 k_) ?_
  show Runs _ _ _ _ s₁ (mkF m 18 #[.val (.ref r0), .val (.int p1), .val (.int p2), .val (.int p3), .val (.long w0), .second, .val (.int x0)] [])
  refine Runs.back (fun t_ k_ => XS.lload X0.here hx rfl (hb hby d1_18) rfl k_) ?_
  show Runs _ _ _ _ s₁ (mkF m 20 #[.val (.ref r0), .val (.int p1), .val (.int p2), .val (.int p3), .val (.long w0), .second, .val (.int x0)] [(.long w0)])
  refine Runs.back (fun t_ k_ => XS.aloadN X0.here hx rfl (hb hby d1_20) rfl rfl k_) ?_
  show Runs _ _ _ _ s₁ (mkF m 21 #[.val (.ref r0), .val (.int p1), .val (.int p2), .val (.int p3), .val (.long w0), .second, .val (.int x0)] [(.ref r0), (.long w0)])
  refine Runs.back (fun t_ k_ => XS.iload X0.here hx rfl (hb hby d1_21) rfl k_) ?_
  show Runs _ _ _ _ s₁ (mkF m 23 #[.val (.ref r0), .val (.int p1), .val (.int p2), .val (.int p3), .val (.long w0), .second, .val (.int x0)] [(.int x0), (.ref r0), (.long w0)])
  obtain ⟨cl1, Ar1, S1, Hs1⟩ := id A1
  have at1 : cl1.slots[(x0).toNatClampNeg]? = some (.int (u (k + 3))) := readO Hs1 hk0 (show (k + 3) < 16 from (by first | omega | decide)) (rfl)
  refine Runs.back (fun t_ k_ => X0.baloadBytes hx (j := x0) (v := (.int (u (k + 3)))) (by rw [e0]; exact Ar1.1) (State.isArrayOf_alike hZ.alike Ar1.2.1) Ar1.2.2 (by rw [S1]; exact (inbO hn0 hk0 (show (k + 3) < 16 from (by first | omega | decide)))) at1 (g := (mkF m 23 #[.val (.ref r0), .val (.int p1), .val (.int p2), .val (.int p3), .val (.long w0), .second, .val (.int x0)] [(.int x0), (.ref r0), (.long w0)])) rfl rfl (hb hby d1_23) _ k_) ?_
  clear at1 Hs1 S1 Ar1
  show Runs _ _ _ _ s₁ (mkF m 24 #[.val (.ref r0), .val (.int p1), .val (.int p2), .val (.int p3), .val (.long w0), .second, .val (.int x0)] [(.int (u (k + 3))), (.long w0)])
  refine Runs.back (fun t_ k_ => XS.i2l X0.here hx rfl (hb hby d1_24) rfl k_) ?_
  show Runs _ _ _ _ s₁ (mkF m 25 #[.val (.ref r0), .val (.int p1), .val (.int p2), .val (.int p3), .val (.long w0), .second, .val (.int x0)] [(.long ((u (k + 3)).toInt64)), (.long w0)])
  refine Runs.back (X0.ldc2Long hx hown (mvT hZ (hw _ (List.mem_of_getElem? (i := 6) rfl))) (g := (mkF m 25 #[.val (.ref r0), .val (.int p1), .val (.int p2), .val (.int p3), .val (.long w0), .second, .val (.int x0)] [(.long ((u (k + 3)).toInt64)), (.long w0)])) rfl (hb hby d1_25)) ?_
  show Runs _ _ _ _ s₁ (mkF m 28 #[.val (.ref r0), .val (.int p1), .val (.int p2), .val (.int p3), .val (.long w0), .second, .val (.int x0)] [(.long (255 : Int64)), (.long ((u (k + 3)).toInt64)), (.long w0)])
  refine Runs.back (fun t_ k_ => XS.land X0.here hx rfl (hb hby d1_28) rfl k_) ?_
  show Runs _ _ _ _ s₁ (mkF m 29 #[.val (.ref r0), .val (.int p1), .val (.int p2), .val (.int p3), .val (.long w0), .second, .val (.int x0)] [(.long (((u (k + 3)).toInt64) &&& (255 : Int64))), (.long w0)])
  refine Runs.back (fun t_ k_ => XS.bipush X0.here hx rfl (hb hby d1_29) k_) ?_
  show Runs _ _ _ _ s₁ (mkF m 31 #[.val (.ref r0), .val (.int p1), .val (.int p2), .val (.int p3), .val (.long w0), .second, .val (.int x0)] [(.int (8 : Int32)), (.long (((u (k + 3)).toInt64) &&& (255 : Int64))), (.long w0)])
  refine Runs.back (fun t_ k_ => XS.iload X0.here hx rfl (hb hby d1_31) rfl k_) ?_
  show Runs _ _ _ _ s₁ (mkF m 33 #[.val (.ref r0), .val (.int p1), .val (.int p2), .val (.int p3), .val (.long w0), .second, .val (.int x0)] [(.int x0), (.int (8 : Int32)), (.long (((u (k + 3)).toInt64) &&& (255 : Int64))), (.long w0)])
  refine Runs.back (fun t_ k_ => XS.iloadN X0.here hx rfl (hb hby d1_33) rfl k_) ?_
  show Runs _ _ _ _ s₁ (mkF m 34 #[.val (.ref r0), .val (.int p1), .val (.int p2), .val (.int p3), .val (.long w0), .second, .val (.int x0)] [(.int p1), (.int x0), (.int (8 : Int32)), (.long (((u (k + 3)).toInt64) &&& (255 : Int64))), (.long w0)])
  refine Runs.back (fun t_ k_ => XS.isub X0.here hx rfl (hb hby d1_34) rfl k_) ?_
  show Runs _ _ _ _ s₁ (mkF m 35 #[.val (.ref r0), .val (.int p1), .val (.int p2), .val (.int p3), .val (.long w0), .second, .val (.int x0)] [(.int (x0 - p1)), (.int (8 : Int32)), (.long (((u (k + 3)).toInt64) &&& (255 : Int64))), (.long w0)])
  refine Runs.back (fun t_ k_ => XS.imul X0.here hx rfl (hb hby d1_35) rfl k_) ?_
  show Runs _ _ _ _ s₁ (mkF m 36 #[.val (.ref r0), .val (.int p1), .val (.int p2), .val (.int p3), .val (.long w0), .second, .val (.int x0)] [(.int ((8 : Int32) * (x0 - p1))), (.long (((u (k + 3)).toInt64) &&& (255 : Int64))), (.long w0)])
  refine Runs.back (fun t_ k_ => XS.lshl X0.here hx rfl (hb hby d1_36) rfl k_) ?_
  show Runs _ _ _ _ s₁ (mkF m 37 #[.val (.ref r0), .val (.int p1), .val (.int p2), .val (.int p3), .val (.long w0), .second, .val (.int x0)] [(.long ((((u (k + 3)).toInt64) &&& (255 : Int64)) <<< (((8 : Int32) * (x0 - p1)) &&& 0x3f).toInt64)), (.long w0)])
  refine Runs.back (fun t_ k_ => XS.lor X0.here hx rfl (hb hby d1_37) rfl k_) ?_
  show Runs _ _ _ _ s₁ (mkF m 38 #[.val (.ref r0), .val (.int p1), .val (.int p2), .val (.int p3), .val (.long w0), .second, .val (.int x0)] [(.long (w0 ||| ((((u (k + 3)).toInt64) &&& (255 : Int64)) <<< (((8 : Int32) * (x0 - p1)) &&& 0x3f).toInt64)))])
  refine Runs.back (fun t_ k_ => XS.lstore X0.here hx rfl (hb hby d1_38) rfl (l' := #[.val (.ref r0), .val (.int p1), .val (.int p2), .val (.int p3), .val (.long (w0 ||| ((((u (k + 3)).toInt64) &&& (255 : Int64)) <<< (((8 : Int32) * (x0 - p1)) &&& 0x3f).toInt64))), .second, .val (.int x0)]) rfl k_) ?_
  show Runs _ _ _ _ s₁ (mkF m 40 #[.val (.ref r0), .val (.int p1), .val (.int p2), .val (.int p3), .val (.long (w0 ||| ((((u (k + 3)).toInt64) &&& (255 : Int64)) <<< (((8 : Int32) * (x0 - p1)) &&& 0x3f).toInt64))), .second, .val (.int x0)] [])
  refine Runs.back (fun t_ k_ => XS.iinc X0.here hx rfl (hb hby d1_40) rfl (l' := #[.val (.ref r0), .val (.int p1), .val (.int p2), .val (.int p3), .val (.long (w0 ||| ((((u (k + 3)).toInt64) &&& (255 : Int64)) <<< (((8 : Int32) * (x0 - p1)) &&& 0x3f).toInt64))), .second, .val (.int (x0 + (-1 : Int32)))]) rfl k_) ?_
  show Runs _ _ _ _ s₁ (mkF m 43 #[.val (.ref r0), .val (.int p1), .val (.int p2), .val (.int p3), .val (.long (w0 ||| ((((u (k + 3)).toInt64) &&& (255 : Int64)) <<< (((8 : Int32) * (x0 - p1)) &&& 0x3f).toInt64))), .second, .val (.int (x0 + (-1 : Int32)))] [])
  refine Runs.back (fun t_ k_ => XS.goto X0.here hx rfl (pc0 := 43) (pc' := 12) rfl (hb hby d1_43) (by decide) (by decide) k_) ?_
  show Runs _ _ _ _ s₁ (mkF m 12 #[.val (.ref r0), .val (.int p1), .val (.int p2), .val (.int p3), .val (.long (w0 ||| ((((u (k + 3)).toInt64) &&& (255 : Int64)) <<< (((8 : Int32) * (x0 - p1)) &&& 0x3f).toInt64))), .second, .val (.int (x0 + (-1 : Int32)))] [])
  have sq1 : ((8 : Int32) * (x0 - p1)) = (24 : Int32) := by
    have d : (x0 - p1).toInt = 3 := by rw [sub32 (by omega) (by omega)]; omega
    obtain e : (x0 - p1) = (3 : Int32) := eqi.mpr (by rw [d]; decide)
    rw [e]; decide
  have hw1 : Cg ((w0 ||| ((((u (k + 3)).toInt64) &&& (255 : Int64)) <<< (((8 : Int32) * (x0 - p1)) &&& 0x3f).toInt64))).toInt (p3.toInt * 72057594037927936 + ((dl (k + 3) : Nat) : Int) * 16777216) := lw3 sq1 (hd (k + 3) (by omega)) hw0 (by omega)
  have hx1 : ((x0 + (-1 : Int32))).toInt = (k : Int) + 3 - 1 := by rw [add32 (by rw [show (-1 : Int32).toInt = -1 from by decide]; omega) (by rw [show (-1 : Int32).toInt = -1 from by decide]; omega), show (-1 : Int32).toInt = -1 from by decide, hx0]; omega
  clear hx0 hk0 hn0 sq1 hw0
  generalize ew1 : (w0 ||| ((((u (k + 3)).toInt64) &&& (255 : Int64)) <<< (((8 : Int32) * (x0 - p1)) &&& 0x3f).toInt64)) = w1 at hw1 ⊢
  generalize ex1 : (x0 + (-1 : Int32)) = x1 at hx1 ⊢
  clear ew1 ex1
  show Runs _ _ _ _ s₁ (mkF m 12 #[.val (.ref r0), .val (.int p1), .val (.int p2), .val (.int p3), .val (.long w1), .second, .val (.int x1)] [])
  have hn1 : ¬ x1 < 0 := by rw [lti, z32]; omega
  have hk1 : x1.toNatClampNeg = k + 2 := by have q := nat_of hn1; omega
  refine Runs.back (fun t_ k_ => XS.iload X0.here hx rfl (hb hby d1_12) rfl k_) ?_
  show Runs _ _ _ _ s₁ (mkF m 14 #[.val (.ref r0), .val (.int p1), .val (.int p2), .val (.int p3), .val (.long w1), .second, .val (.int x1)] [(.int x1)])
  refine Runs.back (fun t_ k_ => XS.iloadN X0.here hx rfl (hb hby d1_14) rfl k_) ?_
  show Runs _ _ _ _ s₁ (mkF m 15 #[.val (.ref r0), .val (.int p1), .val (.int p2), .val (.int p3), .val (.long w1), .second, .val (.int x1)] [(.int p1), (.int x1)])
  refine Runs.back (fun t_ k_ => XS.icmpNo X0.here hx rfl (hb hby d1_15) rfl (flt (show ¬ (x1 < p1) from (by rw [lti]; omega))).1 k_) ?_
  show Runs _ _ _ _ s₁ (mkF m 18 #[.val (.ref r0), .val (.int p1), .val (.int p2), .val (.int p3), .val (.long w1), .second, .val (.int x1)] [])
  refine Runs.back (fun t_ k_ => XS.lload X0.here hx rfl (hb hby d1_18) rfl k_) ?_
  show Runs _ _ _ _ s₁ (mkF m 20 #[.val (.ref r0), .val (.int p1), .val (.int p2), .val (.int p3), .val (.long w1), .second, .val (.int x1)] [(.long w1)])
  refine Runs.back (fun t_ k_ => XS.aloadN X0.here hx rfl (hb hby d1_20) rfl rfl k_) ?_
  show Runs _ _ _ _ s₁ (mkF m 21 #[.val (.ref r0), .val (.int p1), .val (.int p2), .val (.int p3), .val (.long w1), .second, .val (.int x1)] [(.ref r0), (.long w1)])
  refine Runs.back (fun t_ k_ => XS.iload X0.here hx rfl (hb hby d1_21) rfl k_) ?_
  show Runs _ _ _ _ s₁ (mkF m 23 #[.val (.ref r0), .val (.int p1), .val (.int p2), .val (.int p3), .val (.long w1), .second, .val (.int x1)] [(.int x1), (.ref r0), (.long w1)])
  obtain ⟨cl2, Ar2, S2, Hs2⟩ := id A1
  have at2 : cl2.slots[(x1).toNatClampNeg]? = some (.int (u (k + 2))) := readO Hs2 hk1 (show (k + 2) < 16 from (by first | omega | decide)) (rfl)
  refine Runs.back (fun t_ k_ => X0.baloadBytes hx (j := x1) (v := (.int (u (k + 2)))) (by rw [e0]; exact Ar2.1) (State.isArrayOf_alike hZ.alike Ar2.2.1) Ar2.2.2 (by rw [S2]; exact (inbO hn1 hk1 (show (k + 2) < 16 from (by first | omega | decide)))) at2 (g := (mkF m 23 #[.val (.ref r0), .val (.int p1), .val (.int p2), .val (.int p3), .val (.long w1), .second, .val (.int x1)] [(.int x1), (.ref r0), (.long w1)])) rfl rfl (hb hby d1_23) _ k_) ?_
  clear at2 Hs2 S2 Ar2
  show Runs _ _ _ _ s₁ (mkF m 24 #[.val (.ref r0), .val (.int p1), .val (.int p2), .val (.int p3), .val (.long w1), .second, .val (.int x1)] [(.int (u (k + 2))), (.long w1)])
  refine Runs.back (fun t_ k_ => XS.i2l X0.here hx rfl (hb hby d1_24) rfl k_) ?_
  show Runs _ _ _ _ s₁ (mkF m 25 #[.val (.ref r0), .val (.int p1), .val (.int p2), .val (.int p3), .val (.long w1), .second, .val (.int x1)] [(.long ((u (k + 2)).toInt64)), (.long w1)])
  refine Runs.back (X0.ldc2Long hx hown (mvT hZ (hw _ (List.mem_of_getElem? (i := 6) rfl))) (g := (mkF m 25 #[.val (.ref r0), .val (.int p1), .val (.int p2), .val (.int p3), .val (.long w1), .second, .val (.int x1)] [(.long ((u (k + 2)).toInt64)), (.long w1)])) rfl (hb hby d1_25)) ?_
  show Runs _ _ _ _ s₁ (mkF m 28 #[.val (.ref r0), .val (.int p1), .val (.int p2), .val (.int p3), .val (.long w1), .second, .val (.int x1)] [(.long (255 : Int64)), (.long ((u (k + 2)).toInt64)), (.long w1)])
  refine Runs.back (fun t_ k_ => XS.land X0.here hx rfl (hb hby d1_28) rfl k_) ?_
  show Runs _ _ _ _ s₁ (mkF m 29 #[.val (.ref r0), .val (.int p1), .val (.int p2), .val (.int p3), .val (.long w1), .second, .val (.int x1)] [(.long (((u (k + 2)).toInt64) &&& (255 : Int64))), (.long w1)])
  refine Runs.back (fun t_ k_ => XS.bipush X0.here hx rfl (hb hby d1_29) k_) ?_
  show Runs _ _ _ _ s₁ (mkF m 31 #[.val (.ref r0), .val (.int p1), .val (.int p2), .val (.int p3), .val (.long w1), .second, .val (.int x1)] [(.int (8 : Int32)), (.long (((u (k + 2)).toInt64) &&& (255 : Int64))), (.long w1)])
  refine Runs.back (fun t_ k_ => XS.iload X0.here hx rfl (hb hby d1_31) rfl k_) ?_
  show Runs _ _ _ _ s₁ (mkF m 33 #[.val (.ref r0), .val (.int p1), .val (.int p2), .val (.int p3), .val (.long w1), .second, .val (.int x1)] [(.int x1), (.int (8 : Int32)), (.long (((u (k + 2)).toInt64) &&& (255 : Int64))), (.long w1)])
  refine Runs.back (fun t_ k_ => XS.iloadN X0.here hx rfl (hb hby d1_33) rfl k_) ?_
  show Runs _ _ _ _ s₁ (mkF m 34 #[.val (.ref r0), .val (.int p1), .val (.int p2), .val (.int p3), .val (.long w1), .second, .val (.int x1)] [(.int p1), (.int x1), (.int (8 : Int32)), (.long (((u (k + 2)).toInt64) &&& (255 : Int64))), (.long w1)])
  refine Runs.back (fun t_ k_ => XS.isub X0.here hx rfl (hb hby d1_34) rfl k_) ?_
  show Runs _ _ _ _ s₁ (mkF m 35 #[.val (.ref r0), .val (.int p1), .val (.int p2), .val (.int p3), .val (.long w1), .second, .val (.int x1)] [(.int (x1 - p1)), (.int (8 : Int32)), (.long (((u (k + 2)).toInt64) &&& (255 : Int64))), (.long w1)])
  refine Runs.back (fun t_ k_ => XS.imul X0.here hx rfl (hb hby d1_35) rfl k_) ?_
  show Runs _ _ _ _ s₁ (mkF m 36 #[.val (.ref r0), .val (.int p1), .val (.int p2), .val (.int p3), .val (.long w1), .second, .val (.int x1)] [(.int ((8 : Int32) * (x1 - p1))), (.long (((u (k + 2)).toInt64) &&& (255 : Int64))), (.long w1)])
  refine Runs.back (fun t_ k_ => XS.lshl X0.here hx rfl (hb hby d1_36) rfl k_) ?_
  show Runs _ _ _ _ s₁ (mkF m 37 #[.val (.ref r0), .val (.int p1), .val (.int p2), .val (.int p3), .val (.long w1), .second, .val (.int x1)] [(.long ((((u (k + 2)).toInt64) &&& (255 : Int64)) <<< (((8 : Int32) * (x1 - p1)) &&& 0x3f).toInt64)), (.long w1)])
  refine Runs.back (fun t_ k_ => XS.lor X0.here hx rfl (hb hby d1_37) rfl k_) ?_
  show Runs _ _ _ _ s₁ (mkF m 38 #[.val (.ref r0), .val (.int p1), .val (.int p2), .val (.int p3), .val (.long w1), .second, .val (.int x1)] [(.long (w1 ||| ((((u (k + 2)).toInt64) &&& (255 : Int64)) <<< (((8 : Int32) * (x1 - p1)) &&& 0x3f).toInt64)))])
  refine Runs.back (fun t_ k_ => XS.lstore X0.here hx rfl (hb hby d1_38) rfl (l' := #[.val (.ref r0), .val (.int p1), .val (.int p2), .val (.int p3), .val (.long (w1 ||| ((((u (k + 2)).toInt64) &&& (255 : Int64)) <<< (((8 : Int32) * (x1 - p1)) &&& 0x3f).toInt64))), .second, .val (.int x1)]) rfl k_) ?_
  show Runs _ _ _ _ s₁ (mkF m 40 #[.val (.ref r0), .val (.int p1), .val (.int p2), .val (.int p3), .val (.long (w1 ||| ((((u (k + 2)).toInt64) &&& (255 : Int64)) <<< (((8 : Int32) * (x1 - p1)) &&& 0x3f).toInt64))), .second, .val (.int x1)] [])
  refine Runs.back (fun t_ k_ => XS.iinc X0.here hx rfl (hb hby d1_40) rfl (l' := #[.val (.ref r0), .val (.int p1), .val (.int p2), .val (.int p3), .val (.long (w1 ||| ((((u (k + 2)).toInt64) &&& (255 : Int64)) <<< (((8 : Int32) * (x1 - p1)) &&& 0x3f).toInt64))), .second, .val (.int (x1 + (-1 : Int32)))]) rfl k_) ?_
  show Runs _ _ _ _ s₁ (mkF m 43 #[.val (.ref r0), .val (.int p1), .val (.int p2), .val (.int p3), .val (.long (w1 ||| ((((u (k + 2)).toInt64) &&& (255 : Int64)) <<< (((8 : Int32) * (x1 - p1)) &&& 0x3f).toInt64))), .second, .val (.int (x1 + (-1 : Int32)))] [])
  refine Runs.back (fun t_ k_ => XS.goto X0.here hx rfl (pc0 := 43) (pc' := 12) rfl (hb hby d1_43) (by decide) (by decide) k_) ?_
  show Runs _ _ _ _ s₁ (mkF m 12 #[.val (.ref r0), .val (.int p1), .val (.int p2), .val (.int p3), .val (.long (w1 ||| ((((u (k + 2)).toInt64) &&& (255 : Int64)) <<< (((8 : Int32) * (x1 - p1)) &&& 0x3f).toInt64))), .second, .val (.int (x1 + (-1 : Int32)))] [])
  have sq2 : ((8 : Int32) * (x1 - p1)) = (16 : Int32) := by
    have d : (x1 - p1).toInt = 2 := by rw [sub32 (by omega) (by omega)]; omega
    obtain e : (x1 - p1) = (2 : Int32) := eqi.mpr (by rw [d]; decide)
    rw [e]; decide
  have hw2 : Cg ((w1 ||| ((((u (k + 2)).toInt64) &&& (255 : Int64)) <<< (((8 : Int32) * (x1 - p1)) &&& 0x3f).toInt64))).toInt (p3.toInt * 72057594037927936 + ((dl (k + 3) : Nat) : Int) * 16777216 + ((dl (k + 2) : Nat) : Int) * 65536) := lw2 sq2 (hd (k + 2) (by omega)) hw1 (by omega)
  have hx2 : ((x1 + (-1 : Int32))).toInt = (k : Int) + 2 - 1 := by rw [add32 (by rw [show (-1 : Int32).toInt = -1 from by decide]; omega) (by rw [show (-1 : Int32).toInt = -1 from by decide]; omega), show (-1 : Int32).toInt = -1 from by decide, hx1]; omega
  clear hx1 hk1 hn1 sq2 hw1
  generalize ew2 : (w1 ||| ((((u (k + 2)).toInt64) &&& (255 : Int64)) <<< (((8 : Int32) * (x1 - p1)) &&& 0x3f).toInt64)) = w2 at hw2 ⊢
  generalize ex2 : (x1 + (-1 : Int32)) = x2 at hx2 ⊢
  clear ew2 ex2
  show Runs _ _ _ _ s₁ (mkF m 12 #[.val (.ref r0), .val (.int p1), .val (.int p2), .val (.int p3), .val (.long w2), .second, .val (.int x2)] [])
  have hn2 : ¬ x2 < 0 := by rw [lti, z32]; omega
  have hk2 : x2.toNatClampNeg = k + 1 := by have q := nat_of hn2; omega
  refine Runs.back (fun t_ k_ => XS.iload X0.here hx rfl (hb hby d1_12) rfl k_) ?_
  show Runs _ _ _ _ s₁ (mkF m 14 #[.val (.ref r0), .val (.int p1), .val (.int p2), .val (.int p3), .val (.long w2), .second, .val (.int x2)] [(.int x2)])
  refine Runs.back (fun t_ k_ => XS.iloadN X0.here hx rfl (hb hby d1_14) rfl k_) ?_
  show Runs _ _ _ _ s₁ (mkF m 15 #[.val (.ref r0), .val (.int p1), .val (.int p2), .val (.int p3), .val (.long w2), .second, .val (.int x2)] [(.int p1), (.int x2)])
  refine Runs.back (fun t_ k_ => XS.icmpNo X0.here hx rfl (hb hby d1_15) rfl (flt (show ¬ (x2 < p1) from (by rw [lti]; omega))).1 k_) ?_
  show Runs _ _ _ _ s₁ (mkF m 18 #[.val (.ref r0), .val (.int p1), .val (.int p2), .val (.int p3), .val (.long w2), .second, .val (.int x2)] [])
  refine Runs.back (fun t_ k_ => XS.lload X0.here hx rfl (hb hby d1_18) rfl k_) ?_
  show Runs _ _ _ _ s₁ (mkF m 20 #[.val (.ref r0), .val (.int p1), .val (.int p2), .val (.int p3), .val (.long w2), .second, .val (.int x2)] [(.long w2)])
  refine Runs.back (fun t_ k_ => XS.aloadN X0.here hx rfl (hb hby d1_20) rfl rfl k_) ?_
  show Runs _ _ _ _ s₁ (mkF m 21 #[.val (.ref r0), .val (.int p1), .val (.int p2), .val (.int p3), .val (.long w2), .second, .val (.int x2)] [(.ref r0), (.long w2)])
  refine Runs.back (fun t_ k_ => XS.iload X0.here hx rfl (hb hby d1_21) rfl k_) ?_
  show Runs _ _ _ _ s₁ (mkF m 23 #[.val (.ref r0), .val (.int p1), .val (.int p2), .val (.int p3), .val (.long w2), .second, .val (.int x2)] [(.int x2), (.ref r0), (.long w2)])
  obtain ⟨cl3, Ar3, S3, Hs3⟩ := id A1
  have at3 : cl3.slots[(x2).toNatClampNeg]? = some (.int (u (k + 1))) := readO Hs3 hk2 (show (k + 1) < 16 from (by first | omega | decide)) (rfl)
  refine Runs.back (fun t_ k_ => X0.baloadBytes hx (j := x2) (v := (.int (u (k + 1)))) (by rw [e0]; exact Ar3.1) (State.isArrayOf_alike hZ.alike Ar3.2.1) Ar3.2.2 (by rw [S3]; exact (inbO hn2 hk2 (show (k + 1) < 16 from (by first | omega | decide)))) at3 (g := (mkF m 23 #[.val (.ref r0), .val (.int p1), .val (.int p2), .val (.int p3), .val (.long w2), .second, .val (.int x2)] [(.int x2), (.ref r0), (.long w2)])) rfl rfl (hb hby d1_23) _ k_) ?_
  clear at3 Hs3 S3 Ar3
  show Runs _ _ _ _ s₁ (mkF m 24 #[.val (.ref r0), .val (.int p1), .val (.int p2), .val (.int p3), .val (.long w2), .second, .val (.int x2)] [(.int (u (k + 1))), (.long w2)])
  refine Runs.back (fun t_ k_ => XS.i2l X0.here hx rfl (hb hby d1_24) rfl k_) ?_
  show Runs _ _ _ _ s₁ (mkF m 25 #[.val (.ref r0), .val (.int p1), .val (.int p2), .val (.int p3), .val (.long w2), .second, .val (.int x2)] [(.long ((u (k + 1)).toInt64)), (.long w2)])
  refine Runs.back (X0.ldc2Long hx hown (mvT hZ (hw _ (List.mem_of_getElem? (i := 6) rfl))) (g := (mkF m 25 #[.val (.ref r0), .val (.int p1), .val (.int p2), .val (.int p3), .val (.long w2), .second, .val (.int x2)] [(.long ((u (k + 1)).toInt64)), (.long w2)])) rfl (hb hby d1_25)) ?_
  show Runs _ _ _ _ s₁ (mkF m 28 #[.val (.ref r0), .val (.int p1), .val (.int p2), .val (.int p3), .val (.long w2), .second, .val (.int x2)] [(.long (255 : Int64)), (.long ((u (k + 1)).toInt64)), (.long w2)])
  refine Runs.back (fun t_ k_ => XS.land X0.here hx rfl (hb hby d1_28) rfl k_) ?_
  show Runs _ _ _ _ s₁ (mkF m 29 #[.val (.ref r0), .val (.int p1), .val (.int p2), .val (.int p3), .val (.long w2), .second, .val (.int x2)] [(.long (((u (k + 1)).toInt64) &&& (255 : Int64))), (.long w2)])
  refine Runs.back (fun t_ k_ => XS.bipush X0.here hx rfl (hb hby d1_29) k_) ?_
  show Runs _ _ _ _ s₁ (mkF m 31 #[.val (.ref r0), .val (.int p1), .val (.int p2), .val (.int p3), .val (.long w2), .second, .val (.int x2)] [(.int (8 : Int32)), (.long (((u (k + 1)).toInt64) &&& (255 : Int64))), (.long w2)])
  refine Runs.back (fun t_ k_ => XS.iload X0.here hx rfl (hb hby d1_31) rfl k_) ?_
  show Runs _ _ _ _ s₁ (mkF m 33 #[.val (.ref r0), .val (.int p1), .val (.int p2), .val (.int p3), .val (.long w2), .second, .val (.int x2)] [(.int x2), (.int (8 : Int32)), (.long (((u (k + 1)).toInt64) &&& (255 : Int64))), (.long w2)])
  refine Runs.back (fun t_ k_ => XS.iloadN X0.here hx rfl (hb hby d1_33) rfl k_) ?_
  show Runs _ _ _ _ s₁ (mkF m 34 #[.val (.ref r0), .val (.int p1), .val (.int p2), .val (.int p3), .val (.long w2), .second, .val (.int x2)] [(.int p1), (.int x2), (.int (8 : Int32)), (.long (((u (k + 1)).toInt64) &&& (255 : Int64))), (.long w2)])
  refine Runs.back (fun t_ k_ => XS.isub X0.here hx rfl (hb hby d1_34) rfl k_) ?_
  show Runs _ _ _ _ s₁ (mkF m 35 #[.val (.ref r0), .val (.int p1), .val (.int p2), .val (.int p3), .val (.long w2), .second, .val (.int x2)] [(.int (x2 - p1)), (.int (8 : Int32)), (.long (((u (k + 1)).toInt64) &&& (255 : Int64))), (.long w2)])
  refine Runs.back (fun t_ k_ => XS.imul X0.here hx rfl (hb hby d1_35) rfl k_) ?_
  show Runs _ _ _ _ s₁ (mkF m 36 #[.val (.ref r0), .val (.int p1), .val (.int p2), .val (.int p3), .val (.long w2), .second, .val (.int x2)] [(.int ((8 : Int32) * (x2 - p1))), (.long (((u (k + 1)).toInt64) &&& (255 : Int64))), (.long w2)])
  refine Runs.back (fun t_ k_ => XS.lshl X0.here hx rfl (hb hby d1_36) rfl k_) ?_
  show Runs _ _ _ _ s₁ (mkF m 37 #[.val (.ref r0), .val (.int p1), .val (.int p2), .val (.int p3), .val (.long w2), .second, .val (.int x2)] [(.long ((((u (k + 1)).toInt64) &&& (255 : Int64)) <<< (((8 : Int32) * (x2 - p1)) &&& 0x3f).toInt64)), (.long w2)])
  refine Runs.back (fun t_ k_ => XS.lor X0.here hx rfl (hb hby d1_37) rfl k_) ?_
  show Runs _ _ _ _ s₁ (mkF m 38 #[.val (.ref r0), .val (.int p1), .val (.int p2), .val (.int p3), .val (.long w2), .second, .val (.int x2)] [(.long (w2 ||| ((((u (k + 1)).toInt64) &&& (255 : Int64)) <<< (((8 : Int32) * (x2 - p1)) &&& 0x3f).toInt64)))])
  refine Runs.back (fun t_ k_ => XS.lstore X0.here hx rfl (hb hby d1_38) rfl (l' := #[.val (.ref r0), .val (.int p1), .val (.int p2), .val (.int p3), .val (.long (w2 ||| ((((u (k + 1)).toInt64) &&& (255 : Int64)) <<< (((8 : Int32) * (x2 - p1)) &&& 0x3f).toInt64))), .second, .val (.int x2)]) rfl k_) ?_
  show Runs _ _ _ _ s₁ (mkF m 40 #[.val (.ref r0), .val (.int p1), .val (.int p2), .val (.int p3), .val (.long (w2 ||| ((((u (k + 1)).toInt64) &&& (255 : Int64)) <<< (((8 : Int32) * (x2 - p1)) &&& 0x3f).toInt64))), .second, .val (.int x2)] [])
  refine Runs.back (fun t_ k_ => XS.iinc X0.here hx rfl (hb hby d1_40) rfl (l' := #[.val (.ref r0), .val (.int p1), .val (.int p2), .val (.int p3), .val (.long (w2 ||| ((((u (k + 1)).toInt64) &&& (255 : Int64)) <<< (((8 : Int32) * (x2 - p1)) &&& 0x3f).toInt64))), .second, .val (.int (x2 + (-1 : Int32)))]) rfl k_) ?_
  show Runs _ _ _ _ s₁ (mkF m 43 #[.val (.ref r0), .val (.int p1), .val (.int p2), .val (.int p3), .val (.long (w2 ||| ((((u (k + 1)).toInt64) &&& (255 : Int64)) <<< (((8 : Int32) * (x2 - p1)) &&& 0x3f).toInt64))), .second, .val (.int (x2 + (-1 : Int32)))] [])
  refine Runs.back (fun t_ k_ => XS.goto X0.here hx rfl (pc0 := 43) (pc' := 12) rfl (hb hby d1_43) (by decide) (by decide) k_) ?_
  show Runs _ _ _ _ s₁ (mkF m 12 #[.val (.ref r0), .val (.int p1), .val (.int p2), .val (.int p3), .val (.long (w2 ||| ((((u (k + 1)).toInt64) &&& (255 : Int64)) <<< (((8 : Int32) * (x2 - p1)) &&& 0x3f).toInt64))), .second, .val (.int (x2 + (-1 : Int32)))] [])
  have sq3 : ((8 : Int32) * (x2 - p1)) = (8 : Int32) := by
    have d : (x2 - p1).toInt = 1 := by rw [sub32 (by omega) (by omega)]; omega
    obtain e : (x2 - p1) = (1 : Int32) := eqi.mpr (by rw [d]; decide)
    rw [e]; decide
  have hw3 : Cg ((w2 ||| ((((u (k + 1)).toInt64) &&& (255 : Int64)) <<< (((8 : Int32) * (x2 - p1)) &&& 0x3f).toInt64))).toInt (p3.toInt * 72057594037927936 + ((dl (k + 3) : Nat) : Int) * 16777216 + ((dl (k + 2) : Nat) : Int) * 65536 + ((dl (k + 1) : Nat) : Int) * 256) := lw1 sq3 (hd (k + 1) (by omega)) hw2 (by omega)
  have hx3 : ((x2 + (-1 : Int32))).toInt = (k : Int) + 1 - 1 := by rw [add32 (by rw [show (-1 : Int32).toInt = -1 from by decide]; omega) (by rw [show (-1 : Int32).toInt = -1 from by decide]; omega), show (-1 : Int32).toInt = -1 from by decide, hx2]; omega
  clear hx2 hk2 hn2 sq3 hw2
  generalize ew3 : (w2 ||| ((((u (k + 1)).toInt64) &&& (255 : Int64)) <<< (((8 : Int32) * (x2 - p1)) &&& 0x3f).toInt64)) = w3 at hw3 ⊢
  generalize ex3 : (x2 + (-1 : Int32)) = x3 at hx3 ⊢
  clear ew3 ex3
  show Runs _ _ _ _ s₁ (mkF m 12 #[.val (.ref r0), .val (.int p1), .val (.int p2), .val (.int p3), .val (.long w3), .second, .val (.int x3)] [])
  have hn3 : ¬ x3 < 0 := by rw [lti, z32]; omega
  have hk3 : x3.toNatClampNeg = k + 0 := by have q := nat_of hn3; omega
  refine Runs.back (fun t_ k_ => XS.iload X0.here hx rfl (hb hby d1_12) rfl k_) ?_
  show Runs _ _ _ _ s₁ (mkF m 14 #[.val (.ref r0), .val (.int p1), .val (.int p2), .val (.int p3), .val (.long w3), .second, .val (.int x3)] [(.int x3)])
  refine Runs.back (fun t_ k_ => XS.iloadN X0.here hx rfl (hb hby d1_14) rfl k_) ?_
  show Runs _ _ _ _ s₁ (mkF m 15 #[.val (.ref r0), .val (.int p1), .val (.int p2), .val (.int p3), .val (.long w3), .second, .val (.int x3)] [(.int p1), (.int x3)])
  refine Runs.back (fun t_ k_ => XS.icmpNo X0.here hx rfl (hb hby d1_15) rfl (flt (show ¬ (x3 < p1) from (by rw [lti]; omega))).1 k_) ?_
  show Runs _ _ _ _ s₁ (mkF m 18 #[.val (.ref r0), .val (.int p1), .val (.int p2), .val (.int p3), .val (.long w3), .second, .val (.int x3)] [])
  refine Runs.back (fun t_ k_ => XS.lload X0.here hx rfl (hb hby d1_18) rfl k_) ?_
  show Runs _ _ _ _ s₁ (mkF m 20 #[.val (.ref r0), .val (.int p1), .val (.int p2), .val (.int p3), .val (.long w3), .second, .val (.int x3)] [(.long w3)])
  refine Runs.back (fun t_ k_ => XS.aloadN X0.here hx rfl (hb hby d1_20) rfl rfl k_) ?_
  show Runs _ _ _ _ s₁ (mkF m 21 #[.val (.ref r0), .val (.int p1), .val (.int p2), .val (.int p3), .val (.long w3), .second, .val (.int x3)] [(.ref r0), (.long w3)])
  refine Runs.back (fun t_ k_ => XS.iload X0.here hx rfl (hb hby d1_21) rfl k_) ?_
  show Runs _ _ _ _ s₁ (mkF m 23 #[.val (.ref r0), .val (.int p1), .val (.int p2), .val (.int p3), .val (.long w3), .second, .val (.int x3)] [(.int x3), (.ref r0), (.long w3)])
  obtain ⟨cl4, Ar4, S4, Hs4⟩ := id A1
  have at4 : cl4.slots[(x3).toNatClampNeg]? = some (.int (u (k + 0))) := readO Hs4 hk3 (show (k + 0) < 16 from (by first | omega | decide)) (rfl)
  refine Runs.back (fun t_ k_ => X0.baloadBytes hx (j := x3) (v := (.int (u (k + 0)))) (by rw [e0]; exact Ar4.1) (State.isArrayOf_alike hZ.alike Ar4.2.1) Ar4.2.2 (by rw [S4]; exact (inbO hn3 hk3 (show (k + 0) < 16 from (by first | omega | decide)))) at4 (g := (mkF m 23 #[.val (.ref r0), .val (.int p1), .val (.int p2), .val (.int p3), .val (.long w3), .second, .val (.int x3)] [(.int x3), (.ref r0), (.long w3)])) rfl rfl (hb hby d1_23) _ k_) ?_
  clear at4 Hs4 S4 Ar4
  show Runs _ _ _ _ s₁ (mkF m 24 #[.val (.ref r0), .val (.int p1), .val (.int p2), .val (.int p3), .val (.long w3), .second, .val (.int x3)] [(.int (u (k + 0))), (.long w3)])
  refine Runs.back (fun t_ k_ => XS.i2l X0.here hx rfl (hb hby d1_24) rfl k_) ?_
  show Runs _ _ _ _ s₁ (mkF m 25 #[.val (.ref r0), .val (.int p1), .val (.int p2), .val (.int p3), .val (.long w3), .second, .val (.int x3)] [(.long ((u (k + 0)).toInt64)), (.long w3)])
  refine Runs.back (X0.ldc2Long hx hown (mvT hZ (hw _ (List.mem_of_getElem? (i := 6) rfl))) (g := (mkF m 25 #[.val (.ref r0), .val (.int p1), .val (.int p2), .val (.int p3), .val (.long w3), .second, .val (.int x3)] [(.long ((u (k + 0)).toInt64)), (.long w3)])) rfl (hb hby d1_25)) ?_
  show Runs _ _ _ _ s₁ (mkF m 28 #[.val (.ref r0), .val (.int p1), .val (.int p2), .val (.int p3), .val (.long w3), .second, .val (.int x3)] [(.long (255 : Int64)), (.long ((u (k + 0)).toInt64)), (.long w3)])
  refine Runs.back (fun t_ k_ => XS.land X0.here hx rfl (hb hby d1_28) rfl k_) ?_
  show Runs _ _ _ _ s₁ (mkF m 29 #[.val (.ref r0), .val (.int p1), .val (.int p2), .val (.int p3), .val (.long w3), .second, .val (.int x3)] [(.long (((u (k + 0)).toInt64) &&& (255 : Int64))), (.long w3)])
  refine Runs.back (fun t_ k_ => XS.bipush X0.here hx rfl (hb hby d1_29) k_) ?_
  show Runs _ _ _ _ s₁ (mkF m 31 #[.val (.ref r0), .val (.int p1), .val (.int p2), .val (.int p3), .val (.long w3), .second, .val (.int x3)] [(.int (8 : Int32)), (.long (((u (k + 0)).toInt64) &&& (255 : Int64))), (.long w3)])
  refine Runs.back (fun t_ k_ => XS.iload X0.here hx rfl (hb hby d1_31) rfl k_) ?_
  show Runs _ _ _ _ s₁ (mkF m 33 #[.val (.ref r0), .val (.int p1), .val (.int p2), .val (.int p3), .val (.long w3), .second, .val (.int x3)] [(.int x3), (.int (8 : Int32)), (.long (((u (k + 0)).toInt64) &&& (255 : Int64))), (.long w3)])
  refine Runs.back (fun t_ k_ => XS.iloadN X0.here hx rfl (hb hby d1_33) rfl k_) ?_
  show Runs _ _ _ _ s₁ (mkF m 34 #[.val (.ref r0), .val (.int p1), .val (.int p2), .val (.int p3), .val (.long w3), .second, .val (.int x3)] [(.int p1), (.int x3), (.int (8 : Int32)), (.long (((u (k + 0)).toInt64) &&& (255 : Int64))), (.long w3)])
  refine Runs.back (fun t_ k_ => XS.isub X0.here hx rfl (hb hby d1_34) rfl k_) ?_
  show Runs _ _ _ _ s₁ (mkF m 35 #[.val (.ref r0), .val (.int p1), .val (.int p2), .val (.int p3), .val (.long w3), .second, .val (.int x3)] [(.int (x3 - p1)), (.int (8 : Int32)), (.long (((u (k + 0)).toInt64) &&& (255 : Int64))), (.long w3)])
  refine Runs.back (fun t_ k_ => XS.imul X0.here hx rfl (hb hby d1_35) rfl k_) ?_
  show Runs _ _ _ _ s₁ (mkF m 36 #[.val (.ref r0), .val (.int p1), .val (.int p2), .val (.int p3), .val (.long w3), .second, .val (.int x3)] [(.int ((8 : Int32) * (x3 - p1))), (.long (((u (k + 0)).toInt64) &&& (255 : Int64))), (.long w3)])
  refine Runs.back (fun t_ k_ => XS.lshl X0.here hx rfl (hb hby d1_36) rfl k_) ?_
  show Runs _ _ _ _ s₁ (mkF m 37 #[.val (.ref r0), .val (.int p1), .val (.int p2), .val (.int p3), .val (.long w3), .second, .val (.int x3)] [(.long ((((u (k + 0)).toInt64) &&& (255 : Int64)) <<< (((8 : Int32) * (x3 - p1)) &&& 0x3f).toInt64)), (.long w3)])
  refine Runs.back (fun t_ k_ => XS.lor X0.here hx rfl (hb hby d1_37) rfl k_) ?_
  show Runs _ _ _ _ s₁ (mkF m 38 #[.val (.ref r0), .val (.int p1), .val (.int p2), .val (.int p3), .val (.long w3), .second, .val (.int x3)] [(.long (w3 ||| ((((u (k + 0)).toInt64) &&& (255 : Int64)) <<< (((8 : Int32) * (x3 - p1)) &&& 0x3f).toInt64)))])
  refine Runs.back (fun t_ k_ => XS.lstore X0.here hx rfl (hb hby d1_38) rfl (l' := #[.val (.ref r0), .val (.int p1), .val (.int p2), .val (.int p3), .val (.long (w3 ||| ((((u (k + 0)).toInt64) &&& (255 : Int64)) <<< (((8 : Int32) * (x3 - p1)) &&& 0x3f).toInt64))), .second, .val (.int x3)]) rfl k_) ?_
  show Runs _ _ _ _ s₁ (mkF m 40 #[.val (.ref r0), .val (.int p1), .val (.int p2), .val (.int p3), .val (.long (w3 ||| ((((u (k + 0)).toInt64) &&& (255 : Int64)) <<< (((8 : Int32) * (x3 - p1)) &&& 0x3f).toInt64))), .second, .val (.int x3)] [])
  refine Runs.back (fun t_ k_ => XS.iinc X0.here hx rfl (hb hby d1_40) rfl (l' := #[.val (.ref r0), .val (.int p1), .val (.int p2), .val (.int p3), .val (.long (w3 ||| ((((u (k + 0)).toInt64) &&& (255 : Int64)) <<< (((8 : Int32) * (x3 - p1)) &&& 0x3f).toInt64))), .second, .val (.int (x3 + (-1 : Int32)))]) rfl k_) ?_
  show Runs _ _ _ _ s₁ (mkF m 43 #[.val (.ref r0), .val (.int p1), .val (.int p2), .val (.int p3), .val (.long (w3 ||| ((((u (k + 0)).toInt64) &&& (255 : Int64)) <<< (((8 : Int32) * (x3 - p1)) &&& 0x3f).toInt64))), .second, .val (.int (x3 + (-1 : Int32)))] [])
  refine Runs.back (fun t_ k_ => XS.goto X0.here hx rfl (pc0 := 43) (pc' := 12) rfl (hb hby d1_43) (by decide) (by decide) k_) ?_
  show Runs _ _ _ _ s₁ (mkF m 12 #[.val (.ref r0), .val (.int p1), .val (.int p2), .val (.int p3), .val (.long (w3 ||| ((((u (k + 0)).toInt64) &&& (255 : Int64)) <<< (((8 : Int32) * (x3 - p1)) &&& 0x3f).toInt64))), .second, .val (.int (x3 + (-1 : Int32)))] [])
  have sq4 : ((8 : Int32) * (x3 - p1)) = (0 : Int32) := by
    have d : (x3 - p1).toInt = 0 := by rw [sub32 (by omega) (by omega)]; omega
    obtain e : (x3 - p1) = (0 : Int32) := eqi.mpr (by rw [d]; decide)
    rw [e]; decide
  have hw4 : Cg ((w3 ||| ((((u (k + 0)).toInt64) &&& (255 : Int64)) <<< (((8 : Int32) * (x3 - p1)) &&& 0x3f).toInt64))).toInt (p3.toInt * 72057594037927936 + ((dl (k + 3) : Nat) : Int) * 16777216 + ((dl (k + 2) : Nat) : Int) * 65536 + ((dl (k + 1) : Nat) : Int) * 256 + ((dl (k + 0) : Nat) : Int) * 1) := lw0 sq4 (hd (k + 0) (by omega)) hw3 (by omega)
  have hx4 : ((x3 + (-1 : Int32))).toInt = (k : Int) + 0 - 1 := by rw [add32 (by rw [show (-1 : Int32).toInt = -1 from by decide]; omega) (by rw [show (-1 : Int32).toInt = -1 from by decide]; omega), show (-1 : Int32).toInt = -1 from by decide, hx3]; omega
  clear hx3 hk3 hn3 sq4 hw3
  generalize ew4 : (w3 ||| ((((u (k + 0)).toInt64) &&& (255 : Int64)) <<< (((8 : Int32) * (x3 - p1)) &&& 0x3f).toInt64)) = w4 at hw4 ⊢
  generalize ex4 : (x3 + (-1 : Int32)) = x4 at hx4 ⊢
  clear ew4 ex4
  show Runs _ _ _ _ s₁ (mkF m 12 #[.val (.ref r0), .val (.int p1), .val (.int p2), .val (.int p3), .val (.long w4), .second, .val (.int x4)] [])
  refine Runs.back (fun t_ k_ => XS.iload X0.here hx rfl (hb hby d1_12) rfl k_) ?_
  show Runs _ _ _ _ s₁ (mkF m 14 #[.val (.ref r0), .val (.int p1), .val (.int p2), .val (.int p3), .val (.long w4), .second, .val (.int x4)] [(.int x4)])
  refine Runs.back (fun t_ k_ => XS.iloadN X0.here hx rfl (hb hby d1_14) rfl k_) ?_
  show Runs _ _ _ _ s₁ (mkF m 15 #[.val (.ref r0), .val (.int p1), .val (.int p2), .val (.int p3), .val (.long w4), .second, .val (.int x4)] [(.int p1), (.int x4)])
  refine Runs.back (fun t_ k_ => XS.icmpYes X0.here hx rfl (pc0 := 15) (pc' := 46) rfl (hb hby d1_15) rfl (tlt (show x4 < p1 from (by rw [lti]; omega))).1 (by decide) (by decide) k_) ?_
  show Runs _ _ _ _ s₁ (mkF m 46 #[.val (.ref r0), .val (.int p1), .val (.int p2), .val (.int p3), .val (.long w4), .second, .val (.int x4)] [])
  refine Runs.back (fun t_ k_ => XS.lload X0.here hx rfl (hb hby d1_46) rfl k_) ?_
  show Runs _ _ _ _ s₁ (mkF m 48 #[.val (.ref r0), .val (.int p1), .val (.int p2), .val (.int p3), .val (.long w4), .second, .val (.int x4)] [(.long w4)])
  obtain ⟨fs, hr, hrun, hended, hW, hsame⟩ := X0.leave (v := some (.long w4)) (fun h => by rw [Bd.returns] at h; cases h)
  have hfin : Cg w4.toInt (p3.toInt * 72057594037927936 + ((sumD dl k 4 : Nat) : Int)) := by
    have e : p3.toInt * 72057594037927936 + ((sumD dl k 4 : Nat) : Int) = p3.toInt * 72057594037927936 + ((dl (k + 3) : Nat) : Int) * 16777216 + ((dl (k + 2) : Nat) : Int) * 65536 + ((dl (k + 1) : Nat) : Int) * 256 + ((dl (k + 0) : Nat) : Int) * 1 := by rw [show sumD dl k 4 = 0 + dl (k + 0) * 1 + dl (k + 1) * 256 + dl (k + 2) * 65536 + dl (k + 3) * 16777216 from rfl]; omega
    rw [e]; exact hw4
  exact ⟨_, _, (X0.lreturnOut hx Bd.returns (hb hby d1_48) hr), hrun, hended, _, _, rfl, ⟨_, rfl, N0, e0, hfin⟩, ⟨_, rfl⟩, hW, hsame.mono (by decide) (by decide)⟩
theorem pn_1c5 : plainName "com/example/strict_distinct/strictdistinct/SipHash" = true := by first | (simp [plainName, overriddenIn]; done) | decide +kernel
theorem ef_1c5 (m : MethodId) (r0 : Addr) (p1 : Int32) (p2 : Int32) (p3 : Int32) : entryFrame m #[(.ref r0), (.int p1), (.int p2), (.int p3)] 7 = mkF m 0 #[.val (.ref r0), .val (.int p1), .val (.int p2), .val (.int p3), .unset, .unset, .unset] [] := by first | (simp [entryFrame, mkF, argsToLocals, Value.category]; done) | rfl
def Q1c5 (Z : State) (r0 : Addr) (p1 : Int32) (p2 : Int32) (p3 : Int32) (u : Nat → Int32) (dl : Nat → Nat) (k : Nat) (h0 : Heap) (n0 : Nat) (v : Option Value) (h : Heap) (L : List Loc) : Prop := LWQ p3 5 k dl h0 n0 v h L
set_option maxRecDepth 65536 in
set_option maxHeartbeats 40000000 in
theorem rm1c5 (l : Launch) (Z : State) (a0 : Array Value) (hw : ∀ d ∈ tables_1, d.before a0 Z = true) (ws : List Jvm.Cond) (r0 : Addr) (p1 : Int32) (p2 : Int32) (p3 : Int32) (u : Nat → Int32) (dl : Nat → Nat) (k : Nat) (h0 : Heap) (n0 : Nat) (Z0 : n0 ≤ h0.size) (A1 : OArr Z h0 r0 .byte 16 (fun i => (Value.int (u i)))) (hp1 : p1.toInt = (k : Int)) (hp2 : p2.toInt = (k : Int) + 5) (hk9 : k < 9) (hd : ∀ i, i < 16 → (u i).toInt % 256 = ((dl i : Nat) : Int)) :
    MetFree l (⟨"com/example/strict_distinct/strictdistinct/SipHash", "lastWord", "([BIII)J"⟩ : MethodName) (head1 (Jvm.Cond.code (⟨"com/example/strict_distinct/strictdistinct/SipHash", "lastWord", "([BIII)J"⟩ : MethodName) prog_29_method_7_code 7 (some .long) :: ws) ({ frames := 0, cells := 0, slots := 0, locals := 0 } : Room)) (fun a U => a = #[(.ref r0), (.int p1), (.int p2), (.int p3)] ∧ Z.Warmed39 U.vm ∧ U.heap = h0) (fun _ _ _ _ _ => True) (fun _ U o U' => ∃ v L, o = .returned v ∧ Q1c5 Z r0 p1 p2 p3 u dl k h0 n0 v U'.heap L ∧ FrameEnd U o U' L ({ frames := 0, cells := 0, slots := 0, locals := 0 } : Room).cells ({ frames := 0, cells := 0, slots := 0, locals := 0 } : Room).slots) := by
  refine MetFree.of_bodySF (plainFor_of_name pn_1c5) hisR ?_
  intro p e s m args below meth c s₁ Bd hml0 hP hK
  obtain ⟨rfl, hZ, hh⟩ := hP
  have hx := Bd.exec
  have hby := Bd.bytes
  have hml : c.maxLocals = 7 := hml0
  have hown : s.vm.findClass "com/example/strict_distinct/strictdistinct/SipHash" = some m.cls := findClass_of_methodNamed Bd.named
  have hnm := (name_of_methodNamed Bd.named Bd.method).1
  have X0 : Stand p l e ({ frames := 0, cells := 0, slots := 0, locals := 0 } : Room) s m #[(.ref r0), (.int p1), (.int p2), (.int p3)] below meth c s₁ [] 0 0 := Stand.of_body Bd
  have e0 : s₁.heap = h0 := by rw [← hh, Bd.state]; rfl
  have N0 := Fr.nil n0
  refine Runs.enter (ef_1c5 m r0 p1 p2 p3) ?_
  show Runs _ _ _ _ s₁ (mkF m 0 #[.val (.ref r0), .val (.int p1), .val (.int p2), .val (.int p3), .unset, .unset, .unset] [])
  refine Runs.back (fun t_ k_ => XS.iloadN X0.here hx rfl (hb hby d1_0) rfl k_) ?_
  show Runs _ _ _ _ s₁ (mkF m 1 #[.val (.ref r0), .val (.int p1), .val (.int p2), .val (.int p3), .unset, .unset, .unset] [(.int p3)])
  refine Runs.back (fun t_ k_ => XS.i2l X0.here hx rfl (hb hby d1_1) rfl k_) ?_
  show Runs _ _ _ _ s₁ (mkF m 2 #[.val (.ref r0), .val (.int p1), .val (.int p2), .val (.int p3), .unset, .unset, .unset] [(.long (p3.toInt64))])
  refine Runs.back (fun t_ k_ => XS.bipush X0.here hx rfl (hb hby d1_2) k_) ?_
  show Runs _ _ _ _ s₁ (mkF m 4 #[.val (.ref r0), .val (.int p1), .val (.int p2), .val (.int p3), .unset, .unset, .unset] [(.int (56 : Int32)), (.long (p3.toInt64))])
  refine Runs.back (fun t_ k_ => XS.lshl X0.here hx rfl (hb hby d1_4) rfl k_) ?_
  show Runs _ _ _ _ s₁ (mkF m 5 #[.val (.ref r0), .val (.int p1), .val (.int p2), .val (.int p3), .unset, .unset, .unset] [(.long ((p3.toInt64) <<< ((56 : Int32) &&& 0x3f).toInt64))])
  refine Runs.back (fun t_ k_ => XS.lstore X0.here hx rfl (hb hby d1_5) rfl (l' := #[.val (.ref r0), .val (.int p1), .val (.int p2), .val (.int p3), .val (.long ((p3.toInt64) <<< ((56 : Int32) &&& 0x3f).toInt64)), .second, .unset]) rfl k_) ?_
  show Runs _ _ _ _ s₁ (mkF m 7 #[.val (.ref r0), .val (.int p1), .val (.int p2), .val (.int p3), .val (.long ((p3.toInt64) <<< ((56 : Int32) &&& 0x3f).toInt64)), .second, .unset] [])
  refine Runs.back (fun t_ k_ => XS.iloadN X0.here hx rfl (hb hby d1_7) rfl k_) ?_
  show Runs _ _ _ _ s₁ (mkF m 8 #[.val (.ref r0), .val (.int p1), .val (.int p2), .val (.int p3), .val (.long ((p3.toInt64) <<< ((56 : Int32) &&& 0x3f).toInt64)), .second, .unset] [(.int p2)])
  refine Runs.back (fun t_ k_ => XS.iconst X0.here hx rfl (hb hby d1_8) k_) ?_
  show Runs _ _ _ _ s₁ (mkF m 9 #[.val (.ref r0), .val (.int p1), .val (.int p2), .val (.int p3), .val (.long ((p3.toInt64) <<< ((56 : Int32) &&& 0x3f).toInt64)), .second, .unset] [(.int (1 : Int32)), (.int p2)])
  refine Runs.back (fun t_ k_ => XS.isub X0.here hx rfl (hb hby d1_9) rfl k_) ?_
  show Runs _ _ _ _ s₁ (mkF m 10 #[.val (.ref r0), .val (.int p1), .val (.int p2), .val (.int p3), .val (.long ((p3.toInt64) <<< ((56 : Int32) &&& 0x3f).toInt64)), .second, .unset] [(.int (p2 - (1 : Int32)))])
  refine Runs.back (fun t_ k_ => XS.istore X0.here hx rfl (hb hby d1_10) rfl (l' := #[.val (.ref r0), .val (.int p1), .val (.int p2), .val (.int p3), .val (.long ((p3.toInt64) <<< ((56 : Int32) &&& 0x3f).toInt64)), .second, .val (.int (p2 - (1 : Int32)))]) rfl k_) ?_
  show Runs _ _ _ _ s₁ (mkF m 12 #[.val (.ref r0), .val (.int p1), .val (.int p2), .val (.int p3), .val (.long ((p3.toInt64) <<< ((56 : Int32) &&& 0x3f).toInt64)), .second, .val (.int (p2 - (1 : Int32)))] [])
  have hw0 : Cg (((p3.toInt64) <<< ((56 : Int32) &&& 0x3f).toInt64)).toInt (p3.toInt * 72057594037927936) := by
    have q := c_lshl p3.toInt64 56 56 (by decide)
    rw [show ((2 ^ 56 : Nat) : Int) = 72057594037927936 from rfl, c_i2l] at q
    exact q
  have hx0 : ((p2 - (1 : Int32))).toInt = (k : Int) + 5 - 1 := by rw [sub32 (by rw [o32]; omega) (by rw [o32]; omega), o32, hp2]
  generalize ew0 : ((p3.toInt64) <<< ((56 : Int32) &&& 0x3f).toInt64) = w0 at hw0 ⊢
  generalize ex0 : (p2 - (1 : Int32)) = x0 at hx0 ⊢
  clear ew0 ex0
  show Runs _ _ _ _ s₁ (mkF m 12 #[.val (.ref r0), .val (.int p1), .val (.int p2), .val (.int p3), .val (.long w0), .second, .val (.int x0)] [])
  have hn0 : ¬ x0 < 0 := by rw [lti, z32]; omega
  have hk0 : x0.toNatClampNeg = k + 4 := by have q := nat_of hn0; omega
  refine Runs.back (fun t_ k_ => XS.iload X0.here hx rfl (hb hby d1_12) rfl k_) ?_
  show Runs _ _ _ _ s₁ (mkF m 14 #[.val (.ref r0), .val (.int p1), .val (.int p2), .val (.int p3), .val (.long w0), .second, .val (.int x0)] [(.int x0)])
  refine Runs.back (fun t_ k_ => XS.iloadN X0.here hx rfl (hb hby d1_14) rfl k_) ?_
  show Runs _ _ _ _ s₁ (mkF m 15 #[.val (.ref r0), .val (.int p1), .val (.int p2), .val (.int p3), .val (.long w0), .second, .val (.int x0)] [(.int p1), (.int x0)])
  refine Runs.back (fun t_ k_ => XS.icmpNo X0.here hx rfl (hb hby d1_15) rfl (flt (show ¬ (x0 < p1) from (by rw [lti]; omega))).1 k_) ?_
  show Runs _ _ _ _ s₁ (mkF m 18 #[.val (.ref r0), .val (.int p1), .val (.int p2), .val (.int p3), .val (.long w0), .second, .val (.int x0)] [])
  refine Runs.back (fun t_ k_ => XS.lload X0.here hx rfl (hb hby d1_18) rfl k_) ?_
  show Runs _ _ _ _ s₁ (mkF m 20 #[.val (.ref r0), .val (.int p1), .val (.int p2), .val (.int p3), .val (.long w0), .second, .val (.int x0)] [(.long w0)])
  refine Runs.back (fun t_ k_ => XS.aloadN X0.here hx rfl (hb hby d1_20) rfl rfl k_) ?_
  show Runs _ _ _ _ s₁ (mkF m 21 #[.val (.ref r0), .val (.int p1), .val (.int p2), .val (.int p3), .val (.long w0), .second, .val (.int x0)] [(.ref r0), (.long w0)])
  refine Runs.back (fun t_ k_ => XS.iload X0.here hx rfl (hb hby d1_21) rfl k_) ?_
  show Runs _ _ _ _ s₁ (mkF m 23 #[.val (.ref r0), .val (.int p1), .val (.int p2), .val (.int p3), .val (.long w0), .second, .val (.int x0)] [(.int x0), (.ref r0), (.long w0)])
  obtain ⟨cl1, Ar1, S1, Hs1⟩ := id A1
  have at1 : cl1.slots[(x0).toNatClampNeg]? = some (.int (u (k + 4))) := readO Hs1 hk0 (show (k + 4) < 16 from (by first | omega | decide)) (rfl)
  refine Runs.back (fun t_ k_ => X0.baloadBytes hx (j := x0) (v := (.int (u (k + 4)))) (by rw [e0]; exact Ar1.1) (State.isArrayOf_alike hZ.alike Ar1.2.1) Ar1.2.2 (by rw [S1]; exact (inbO hn0 hk0 (show (k + 4) < 16 from (by first | omega | decide)))) at1 (g := (mkF m 23 #[.val (.ref r0), .val (.int p1), .val (.int p2), .val (.int p3), .val (.long w0), .second, .val (.int x0)] [(.int x0), (.ref r0), (.long w0)])) rfl rfl (hb hby d1_23) _ k_) ?_
  clear at1 Hs1 S1 Ar1
  show Runs _ _ _ _ s₁ (mkF m 24 #[.val (.ref r0), .val (.int p1), .val (.int p2), .val (.int p3), .val (.long w0), .second, .val (.int x0)] [(.int (u (k + 4))), (.long w0)])
  refine Runs.back (fun t_ k_ => XS.i2l X0.here hx rfl (hb hby d1_24) rfl k_) ?_
  show Runs _ _ _ _ s₁ (mkF m 25 #[.val (.ref r0), .val (.int p1), .val (.int p2), .val (.int p3), .val (.long w0), .second, .val (.int x0)] [(.long ((u (k + 4)).toInt64)), (.long w0)])
  refine Runs.back (X0.ldc2Long hx hown (mvT hZ (hw _ (List.mem_of_getElem? (i := 6) rfl))) (g := (mkF m 25 #[.val (.ref r0), .val (.int p1), .val (.int p2), .val (.int p3), .val (.long w0), .second, .val (.int x0)] [(.long ((u (k + 4)).toInt64)), (.long w0)])) rfl (hb hby d1_25)) ?_
  show Runs _ _ _ _ s₁ (mkF m 28 #[.val (.ref r0), .val (.int p1), .val (.int p2), .val (.int p3), .val (.long w0), .second, .val (.int x0)] [(.long (255 : Int64)), (.long ((u (k + 4)).toInt64)), (.long w0)])
  refine Runs.back (fun t_ k_ => XS.land X0.here hx rfl (hb hby d1_28) rfl k_) ?_
  show Runs _ _ _ _ s₁ (mkF m 29 #[.val (.ref r0), .val (.int p1), .val (.int p2), .val (.int p3), .val (.long w0), .second, .val (.int x0)] [(.long (((u (k + 4)).toInt64) &&& (255 : Int64))), (.long w0)])
  refine Runs.back (fun t_ k_ => XS.bipush X0.here hx rfl (hb hby d1_29) k_) ?_
  show Runs _ _ _ _ s₁ (mkF m 31 #[.val (.ref r0), .val (.int p1), .val (.int p2), .val (.int p3), .val (.long w0), .second, .val (.int x0)] [(.int (8 : Int32)), (.long (((u (k + 4)).toInt64) &&& (255 : Int64))), (.long w0)])
  refine Runs.back (fun t_ k_ => XS.iload X0.here hx rfl (hb hby d1_31) rfl k_) ?_
  show Runs _ _ _ _ s₁ (mkF m 33 #[.val (.ref r0), .val (.int p1), .val (.int p2), .val (.int p3), .val (.long w0), .second, .val (.int x0)] [(.int x0), (.int (8 : Int32)), (.long (((u (k + 4)).toInt64) &&& (255 : Int64))), (.long w0)])
  refine Runs.back (fun t_ k_ => XS.iloadN X0.here hx rfl (hb hby d1_33) rfl k_) ?_
  show Runs _ _ _ _ s₁ (mkF m 34 #[.val (.ref r0), .val (.int p1), .val (.int p2), .val (.int p3), .val (.long w0), .second, .val (.int x0)] [(.int p1), (.int x0), (.int (8 : Int32)), (.long (((u (k + 4)).toInt64) &&& (255 : Int64))), (.long w0)])
  refine Runs.back (fun t_ k_ => XS.isub X0.here hx rfl (hb hby d1_34) rfl k_) ?_
  show Runs _ _ _ _ s₁ (mkF m 35 #[.val (.ref r0), .val (.int p1), .val (.int p2), .val (.int p3), .val (.long w0), .second, .val (.int x0)] [(.int (x0 - p1)), (.int (8 : Int32)), (.long (((u (k + 4)).toInt64) &&& (255 : Int64))), (.long w0)])
  refine Runs.back (fun t_ k_ => XS.imul X0.here hx rfl (hb hby d1_35) rfl k_) ?_
  show Runs _ _ _ _ s₁ (mkF m 36 #[.val (.ref r0), .val (.int p1), .val (.int p2), .val (.int p3), .val (.long w0), .second, .val (.int x0)] [(.int ((8 : Int32) * (x0 - p1))), (.long (((u (k + 4)).toInt64) &&& (255 : Int64))), (.long w0)])
  refine Runs.back (fun t_ k_ => XS.lshl X0.here hx rfl (hb hby d1_36) rfl k_) ?_
  show Runs _ _ _ _ s₁ (mkF m 37 #[.val (.ref r0), .val (.int p1), .val (.int p2), .val (.int p3), .val (.long w0), .second, .val (.int x0)] [(.long ((((u (k + 4)).toInt64) &&& (255 : Int64)) <<< (((8 : Int32) * (x0 - p1)) &&& 0x3f).toInt64)), (.long w0)])
  refine Runs.back (fun t_ k_ => XS.lor X0.here hx rfl (hb hby d1_37) rfl k_) ?_
  show Runs _ _ _ _ s₁ (mkF m 38 #[.val (.ref r0), .val (.int p1), .val (.int p2), .val (.int p3), .val (.long w0), .second, .val (.int x0)] [(.long (w0 ||| ((((u (k + 4)).toInt64) &&& (255 : Int64)) <<< (((8 : Int32) * (x0 - p1)) &&& 0x3f).toInt64)))])
  refine Runs.back (fun t_ k_ => XS.lstore X0.here hx rfl (hb hby d1_38) rfl (l' := #[.val (.ref r0), .val (.int p1), .val (.int p2), .val (.int p3), .val (.long (w0 ||| ((((u (k + 4)).toInt64) &&& (255 : Int64)) <<< (((8 : Int32) * (x0 - p1)) &&& 0x3f).toInt64))), .second, .val (.int x0)]) rfl k_) ?_
  show Runs _ _ _ _ s₁ (mkF m 40 #[.val (.ref r0), .val (.int p1), .val (.int p2), .val (.int p3), .val (.long (w0 ||| ((((u (k + 4)).toInt64) &&& (255 : Int64)) <<< (((8 : Int32) * (x0 - p1)) &&& 0x3f).toInt64))), .second, .val (.int x0)] [])
  refine Runs.back (fun t_ k_ => XS.iinc X0.here hx rfl (hb hby d1_40) rfl (l' := #[.val (.ref r0), .val (.int p1), .val (.int p2), .val (.int p3), .val (.long (w0 ||| ((((u (k + 4)).toInt64) &&& (255 : Int64)) <<< (((8 : Int32) * (x0 - p1)) &&& 0x3f).toInt64))), .second, .val (.int (x0 + (-1 : Int32)))]) rfl k_) ?_
  show Runs _ _ _ _ s₁ (mkF m 43 #[.val (.ref r0), .val (.int p1), .val (.int p2), .val (.int p3), .val (.long (w0 ||| ((((u (k + 4)).toInt64) &&& (255 : Int64)) <<< (((8 : Int32) * (x0 - p1)) &&& 0x3f).toInt64))), .second, .val (.int (x0 + (-1 : Int32)))] [])
  refine Runs.back (fun t_ k_ => XS.goto X0.here hx rfl (pc0 := 43) (pc' := 12) rfl (hb hby d1_43) (by decide) (by decide) k_) ?_
  show Runs _ _ _ _ s₁ (mkF m 12 #[.val (.ref r0), .val (.int p1), .val (.int p2), .val (.int p3), .val (.long (w0 ||| ((((u (k + 4)).toInt64) &&& (255 : Int64)) <<< (((8 : Int32) * (x0 - p1)) &&& 0x3f).toInt64))), .second, .val (.int (x0 + (-1 : Int32)))] [])
  have sq1 : ((8 : Int32) * (x0 - p1)) = (32 : Int32) := by
    have d : (x0 - p1).toInt = 4 := by rw [sub32 (by omega) (by omega)]; omega
    obtain e : (x0 - p1) = (4 : Int32) := eqi.mpr (by rw [d]; decide)
    rw [e]; decide
  have hw1 : Cg ((w0 ||| ((((u (k + 4)).toInt64) &&& (255 : Int64)) <<< (((8 : Int32) * (x0 - p1)) &&& 0x3f).toInt64))).toInt (p3.toInt * 72057594037927936 + ((dl (k + 4) : Nat) : Int) * 4294967296) := lw4 sq1 (hd (k + 4) (by omega)) hw0 (by omega)
  have hx1 : ((x0 + (-1 : Int32))).toInt = (k : Int) + 4 - 1 := by rw [add32 (by rw [show (-1 : Int32).toInt = -1 from by decide]; omega) (by rw [show (-1 : Int32).toInt = -1 from by decide]; omega), show (-1 : Int32).toInt = -1 from by decide, hx0]; omega
  clear hx0 hk0 hn0 sq1 hw0
  generalize ew1 : (w0 ||| ((((u (k + 4)).toInt64) &&& (255 : Int64)) <<< (((8 : Int32) * (x0 - p1)) &&& 0x3f).toInt64)) = w1 at hw1 ⊢
  generalize ex1 : (x0 + (-1 : Int32)) = x1 at hx1 ⊢
  clear ew1 ex1
  show Runs _ _ _ _ s₁ (mkF m 12 #[.val (.ref r0), .val (.int p1), .val (.int p2), .val (.int p3), .val (.long w1), .second, .val (.int x1)] [])
  have hn1 : ¬ x1 < 0 := by rw [lti, z32]; omega
  have hk1 : x1.toNatClampNeg = k + 3 := by have q := nat_of hn1; omega
  refine Runs.back (fun t_ k_ => XS.iload X0.here hx rfl (hb hby d1_12) rfl k_) ?_
  show Runs _ _ _ _ s₁ (mkF m 14 #[.val (.ref r0), .val (.int p1), .val (.int p2), .val (.int p3), .val (.long w1), .second, .val (.int x1)] [(.int x1)])
  refine Runs.back (fun t_ k_ => XS.iloadN X0.here hx rfl (hb hby d1_14) rfl k_) ?_
  show Runs _ _ _ _ s₁ (mkF m 15 #[.val (.ref r0), .val (.int p1), .val (.int p2), .val (.int p3), .val (.long w1), .second, .val (.int x1)] [(.int p1), (.int x1)])
  refine Runs.back (fun t_ k_ => XS.icmpNo X0.here hx rfl (hb hby d1_15) rfl (flt (show ¬ (x1 < p1) from (by rw [lti]; omega))).1 k_) ?_
  show Runs _ _ _ _ s₁ (mkF m 18 #[.val (.ref r0), .val (.int p1), .val (.int p2), .val (.int p3), .val (.long w1), .second, .val (.int x1)] [])
  refine Runs.back (fun t_ k_ => XS.lload X0.here hx rfl (hb hby d1_18) rfl k_) ?_
  show Runs _ _ _ _ s₁ (mkF m 20 #[.val (.ref r0), .val (.int p1), .val (.int p2), .val (.int p3), .val (.long w1), .second, .val (.int x1)] [(.long w1)])
  refine Runs.back (fun t_ k_ => XS.aloadN X0.here hx rfl (hb hby d1_20) rfl rfl k_) ?_
  show Runs _ _ _ _ s₁ (mkF m 21 #[.val (.ref r0), .val (.int p1), .val (.int p2), .val (.int p3), .val (.long w1), .second, .val (.int x1)] [(.ref r0), (.long w1)])
  refine Runs.back (fun t_ k_ => XS.iload X0.here hx rfl (hb hby d1_21) rfl k_) ?_
  show Runs _ _ _ _ s₁ (mkF m 23 #[.val (.ref r0), .val (.int p1), .val (.int p2), .val (.int p3), .val (.long w1), .second, .val (.int x1)] [(.int x1), (.ref r0), (.long w1)])
  obtain ⟨cl2, Ar2, S2, Hs2⟩ := id A1
  have at2 : cl2.slots[(x1).toNatClampNeg]? = some (.int (u (k + 3))) := readO Hs2 hk1 (show (k + 3) < 16 from (by first | omega | decide)) (rfl)
  refine Runs.back (fun t_ k_ => X0.baloadBytes hx (j := x1) (v := (.int (u (k + 3)))) (by rw [e0]; exact Ar2.1) (State.isArrayOf_alike hZ.alike Ar2.2.1) Ar2.2.2 (by rw [S2]; exact (inbO hn1 hk1 (show (k + 3) < 16 from (by first | omega | decide)))) at2 (g := (mkF m 23 #[.val (.ref r0), .val (.int p1), .val (.int p2), .val (.int p3), .val (.long w1), .second, .val (.int x1)] [(.int x1), (.ref r0), (.long w1)])) rfl rfl (hb hby d1_23) _ k_) ?_
  clear at2 Hs2 S2 Ar2
  show Runs _ _ _ _ s₁ (mkF m 24 #[.val (.ref r0), .val (.int p1), .val (.int p2), .val (.int p3), .val (.long w1), .second, .val (.int x1)] [(.int (u (k + 3))), (.long w1)])
  refine Runs.back (fun t_ k_ => XS.i2l X0.here hx rfl (hb hby d1_24) rfl k_) ?_
  show Runs _ _ _ _ s₁ (mkF m 25 #[.val (.ref r0), .val (.int p1), .val (.int p2), .val (.int p3), .val (.long w1), .second, .val (.int x1)] [(.long ((u (k + 3)).toInt64)), (.long w1)])
  refine Runs.back (X0.ldc2Long hx hown (mvT hZ (hw _ (List.mem_of_getElem? (i := 6) rfl))) (g := (mkF m 25 #[.val (.ref r0), .val (.int p1), .val (.int p2), .val (.int p3), .val (.long w1), .second, .val (.int x1)] [(.long ((u (k + 3)).toInt64)), (.long w1)])) rfl (hb hby d1_25)) ?_
  show Runs _ _ _ _ s₁ (mkF m 28 #[.val (.ref r0), .val (.int p1), .val (.int p2), .val (.int p3), .val (.long w1), .second, .val (.int x1)] [(.long (255 : Int64)), (.long ((u (k + 3)).toInt64)), (.long w1)])
  refine Runs.back (fun t_ k_ => XS.land X0.here hx rfl (hb hby d1_28) rfl k_) ?_
  show Runs _ _ _ _ s₁ (mkF m 29 #[.val (.ref r0), .val (.int p1), .val (.int p2), .val (.int p3), .val (.long w1), .second, .val (.int x1)] [(.long (((u (k + 3)).toInt64) &&& (255 : Int64))), (.long w1)])
  refine Runs.back (fun t_ k_ => XS.bipush X0.here hx rfl (hb hby d1_29) k_) ?_
  show Runs _ _ _ _ s₁ (mkF m 31 #[.val (.ref r0), .val (.int p1), .val (.int p2), .val (.int p3), .val (.long w1), .second, .val (.int x1)] [(.int (8 : Int32)), (.long (((u (k + 3)).toInt64) &&& (255 : Int64))), (.long w1)])
  refine Runs.back (fun t_ k_ => XS.iload X0.here hx rfl (hb hby d1_31) rfl k_) ?_
  show Runs _ _ _ _ s₁ (mkF m 33 #[.val (.ref r0), .val (.int p1), .val (.int p2), .val (.int p3), .val (.long w1), .second, .val (.int x1)] [(.int x1), (.int (8 : Int32)), (.long (((u (k + 3)).toInt64) &&& (255 : Int64))), (.long w1)])
  refine Runs.back (fun t_ k_ => XS.iloadN X0.here hx rfl (hb hby d1_33) rfl k_) ?_
  show Runs _ _ _ _ s₁ (mkF m 34 #[.val (.ref r0), .val (.int p1), .val (.int p2), .val (.int p3), .val (.long w1), .second, .val (.int x1)] [(.int p1), (.int x1), (.int (8 : Int32)), (.long (((u (k + 3)).toInt64) &&& (255 : Int64))), (.long w1)])
  refine Runs.back (fun t_ k_ => XS.isub X0.here hx rfl (hb hby d1_34) rfl k_) ?_
  show Runs _ _ _ _ s₁ (mkF m 35 #[.val (.ref r0), .val (.int p1), .val (.int p2), .val (.int p3), .val (.long w1), .second, .val (.int x1)] [(.int (x1 - p1)), (.int (8 : Int32)), (.long (((u (k + 3)).toInt64) &&& (255 : Int64))), (.long w1)])
  refine Runs.back (fun t_ k_ => XS.imul X0.here hx rfl (hb hby d1_35) rfl k_) ?_
  show Runs _ _ _ _ s₁ (mkF m 36 #[.val (.ref r0), .val (.int p1), .val (.int p2), .val (.int p3), .val (.long w1), .second, .val (.int x1)] [(.int ((8 : Int32) * (x1 - p1))), (.long (((u (k + 3)).toInt64) &&& (255 : Int64))), (.long w1)])
  refine Runs.back (fun t_ k_ => XS.lshl X0.here hx rfl (hb hby d1_36) rfl k_) ?_
  show Runs _ _ _ _ s₁ (mkF m 37 #[.val (.ref r0), .val (.int p1), .val (.int p2), .val (.int p3), .val (.long w1), .second, .val (.int x1)] [(.long ((((u (k + 3)).toInt64) &&& (255 : Int64)) <<< (((8 : Int32) * (x1 - p1)) &&& 0x3f).toInt64)), (.long w1)])
  refine Runs.back (fun t_ k_ => XS.lor X0.here hx rfl (hb hby d1_37) rfl k_) ?_
  show Runs _ _ _ _ s₁ (mkF m 38 #[.val (.ref r0), .val (.int p1), .val (.int p2), .val (.int p3), .val (.long w1), .second, .val (.int x1)] [(.long (w1 ||| ((((u (k + 3)).toInt64) &&& (255 : Int64)) <<< (((8 : Int32) * (x1 - p1)) &&& 0x3f).toInt64)))])
  refine Runs.back (fun t_ k_ => XS.lstore X0.here hx rfl (hb hby d1_38) rfl (l' := #[.val (.ref r0), .val (.int p1), .val (.int p2), .val (.int p3), .val (.long (w1 ||| ((((u (k + 3)).toInt64) &&& (255 : Int64)) <<< (((8 : Int32) * (x1 - p1)) &&& 0x3f).toInt64))), .second, .val (.int x1)]) rfl k_) ?_
  show Runs _ _ _ _ s₁ (mkF m 40 #[.val (.ref r0), .val (.int p1), .val (.int p2), .val (.int p3), .val (.long (w1 ||| ((((u (k + 3)).toInt64) &&& (255 : Int64)) <<< (((8 : Int32) * (x1 - p1)) &&& 0x3f).toInt64))), .second, .val (.int x1)] [])
  refine Runs.back (fun t_ k_ => XS.iinc X0.here hx rfl (hb hby d1_40) rfl (l' := #[.val (.ref r0), .val (.int p1), .val (.int p2), .val (.int p3), .val (.long (w1 ||| ((((u (k + 3)).toInt64) &&& (255 : Int64)) <<< (((8 : Int32) * (x1 - p1)) &&& 0x3f).toInt64))), .second, .val (.int (x1 + (-1 : Int32)))]) rfl k_) ?_
  show Runs _ _ _ _ s₁ (mkF m 43 #[.val (.ref r0), .val (.int p1), .val (.int p2), .val (.int p3), .val (.long (w1 ||| ((((u (k + 3)).toInt64) &&& (255 : Int64)) <<< (((8 : Int32) * (x1 - p1)) &&& 0x3f).toInt64))), .second, .val (.int (x1 + (-1 : Int32)))] [])
  refine Runs.back (fun t_ k_ => XS.goto X0.here hx rfl (pc0 := 43) (pc' := 12) rfl (hb hby d1_43) (by decide) (by decide) k_) ?_
  show Runs _ _ _ _ s₁ (mkF m 12 #[.val (.ref r0), .val (.int p1), .val (.int p2), .val (.int p3), .val (.long (w1 ||| ((((u (k + 3)).toInt64) &&& (255 : Int64)) <<< (((8 : Int32) * (x1 - p1)) &&& 0x3f).toInt64))), .second, .val (.int (x1 + (-1 : Int32)))] [])
  have sq2 : ((8 : Int32) * (x1 - p1)) = (24 : Int32) := by
    have d : (x1 - p1).toInt = 3 := by rw [sub32 (by omega) (by omega)]; omega
    obtain e : (x1 - p1) = (3 : Int32) := eqi.mpr (by rw [d]; decide)
    rw [e]; decide
  have hw2 : Cg ((w1 ||| ((((u (k + 3)).toInt64) &&& (255 : Int64)) <<< (((8 : Int32) * (x1 - p1)) &&& 0x3f).toInt64))).toInt (p3.toInt * 72057594037927936 + ((dl (k + 4) : Nat) : Int) * 4294967296 + ((dl (k + 3) : Nat) : Int) * 16777216) := lw3 sq2 (hd (k + 3) (by omega)) hw1 (by omega)
  have hx2 : ((x1 + (-1 : Int32))).toInt = (k : Int) + 3 - 1 := by rw [add32 (by rw [show (-1 : Int32).toInt = -1 from by decide]; omega) (by rw [show (-1 : Int32).toInt = -1 from by decide]; omega), show (-1 : Int32).toInt = -1 from by decide, hx1]; omega
  clear hx1 hk1 hn1 sq2 hw1
  generalize ew2 : (w1 ||| ((((u (k + 3)).toInt64) &&& (255 : Int64)) <<< (((8 : Int32) * (x1 - p1)) &&& 0x3f).toInt64)) = w2 at hw2 ⊢
  generalize ex2 : (x1 + (-1 : Int32)) = x2 at hx2 ⊢
  clear ew2 ex2
  show Runs _ _ _ _ s₁ (mkF m 12 #[.val (.ref r0), .val (.int p1), .val (.int p2), .val (.int p3), .val (.long w2), .second, .val (.int x2)] [])
  have hn2 : ¬ x2 < 0 := by rw [lti, z32]; omega
  have hk2 : x2.toNatClampNeg = k + 2 := by have q := nat_of hn2; omega
  refine Runs.back (fun t_ k_ => XS.iload X0.here hx rfl (hb hby d1_12) rfl k_) ?_
  show Runs _ _ _ _ s₁ (mkF m 14 #[.val (.ref r0), .val (.int p1), .val (.int p2), .val (.int p3), .val (.long w2), .second, .val (.int x2)] [(.int x2)])
  refine Runs.back (fun t_ k_ => XS.iloadN X0.here hx rfl (hb hby d1_14) rfl k_) ?_
  show Runs _ _ _ _ s₁ (mkF m 15 #[.val (.ref r0), .val (.int p1), .val (.int p2), .val (.int p3), .val (.long w2), .second, .val (.int x2)] [(.int p1), (.int x2)])
  refine Runs.back (fun t_ k_ => XS.icmpNo X0.here hx rfl (hb hby d1_15) rfl (flt (show ¬ (x2 < p1) from (by rw [lti]; omega))).1 k_) ?_
  show Runs _ _ _ _ s₁ (mkF m 18 #[.val (.ref r0), .val (.int p1), .val (.int p2), .val (.int p3), .val (.long w2), .second, .val (.int x2)] [])
  refine Runs.back (fun t_ k_ => XS.lload X0.here hx rfl (hb hby d1_18) rfl k_) ?_
  show Runs _ _ _ _ s₁ (mkF m 20 #[.val (.ref r0), .val (.int p1), .val (.int p2), .val (.int p3), .val (.long w2), .second, .val (.int x2)] [(.long w2)])
  refine Runs.back (fun t_ k_ => XS.aloadN X0.here hx rfl (hb hby d1_20) rfl rfl k_) ?_
  show Runs _ _ _ _ s₁ (mkF m 21 #[.val (.ref r0), .val (.int p1), .val (.int p2), .val (.int p3), .val (.long w2), .second, .val (.int x2)] [(.ref r0), (.long w2)])
  refine Runs.back (fun t_ k_ => XS.iload X0.here hx rfl (hb hby d1_21) rfl k_) ?_
  show Runs _ _ _ _ s₁ (mkF m 23 #[.val (.ref r0), .val (.int p1), .val (.int p2), .val (.int p3), .val (.long w2), .second, .val (.int x2)] [(.int x2), (.ref r0), (.long w2)])
  obtain ⟨cl3, Ar3, S3, Hs3⟩ := id A1
  have at3 : cl3.slots[(x2).toNatClampNeg]? = some (.int (u (k + 2))) := readO Hs3 hk2 (show (k + 2) < 16 from (by first | omega | decide)) (rfl)
  refine Runs.back (fun t_ k_ => X0.baloadBytes hx (j := x2) (v := (.int (u (k + 2)))) (by rw [e0]; exact Ar3.1) (State.isArrayOf_alike hZ.alike Ar3.2.1) Ar3.2.2 (by rw [S3]; exact (inbO hn2 hk2 (show (k + 2) < 16 from (by first | omega | decide)))) at3 (g := (mkF m 23 #[.val (.ref r0), .val (.int p1), .val (.int p2), .val (.int p3), .val (.long w2), .second, .val (.int x2)] [(.int x2), (.ref r0), (.long w2)])) rfl rfl (hb hby d1_23) _ k_) ?_
  clear at3 Hs3 S3 Ar3
  show Runs _ _ _ _ s₁ (mkF m 24 #[.val (.ref r0), .val (.int p1), .val (.int p2), .val (.int p3), .val (.long w2), .second, .val (.int x2)] [(.int (u (k + 2))), (.long w2)])
  refine Runs.back (fun t_ k_ => XS.i2l X0.here hx rfl (hb hby d1_24) rfl k_) ?_
  show Runs _ _ _ _ s₁ (mkF m 25 #[.val (.ref r0), .val (.int p1), .val (.int p2), .val (.int p3), .val (.long w2), .second, .val (.int x2)] [(.long ((u (k + 2)).toInt64)), (.long w2)])
  refine Runs.back (X0.ldc2Long hx hown (mvT hZ (hw _ (List.mem_of_getElem? (i := 6) rfl))) (g := (mkF m 25 #[.val (.ref r0), .val (.int p1), .val (.int p2), .val (.int p3), .val (.long w2), .second, .val (.int x2)] [(.long ((u (k + 2)).toInt64)), (.long w2)])) rfl (hb hby d1_25)) ?_
  show Runs _ _ _ _ s₁ (mkF m 28 #[.val (.ref r0), .val (.int p1), .val (.int p2), .val (.int p3), .val (.long w2), .second, .val (.int x2)] [(.long (255 : Int64)), (.long ((u (k + 2)).toInt64)), (.long w2)])
  refine Runs.back (fun t_ k_ => XS.land X0.here hx rfl (hb hby d1_28) rfl k_) ?_
  show Runs _ _ _ _ s₁ (mkF m 29 #[.val (.ref r0), .val (.int p1), .val (.int p2), .val (.int p3), .val (.long w2), .second, .val (.int x2)] [(.long (((u (k + 2)).toInt64) &&& (255 : Int64))), (.long w2)])
  refine Runs.back (fun t_ k_ => XS.bipush X0.here hx rfl (hb hby d1_29) k_) ?_
  show Runs _ _ _ _ s₁ (mkF m 31 #[.val (.ref r0), .val (.int p1), .val (.int p2), .val (.int p3), .val (.long w2), .second, .val (.int x2)] [(.int (8 : Int32)), (.long (((u (k + 2)).toInt64) &&& (255 : Int64))), (.long w2)])
  refine Runs.back (fun t_ k_ => XS.iload X0.here hx rfl (hb hby d1_31) rfl k_) ?_
  show Runs _ _ _ _ s₁ (mkF m 33 #[.val (.ref r0), .val (.int p1), .val (.int p2), .val (.int p3), .val (.long w2), .second, .val (.int x2)] [(.int x2), (.int (8 : Int32)), (.long (((u (k + 2)).toInt64) &&& (255 : Int64))), (.long w2)])
  refine Runs.back (fun t_ k_ => XS.iloadN X0.here hx rfl (hb hby d1_33) rfl k_) ?_
  show Runs _ _ _ _ s₁ (mkF m 34 #[.val (.ref r0), .val (.int p1), .val (.int p2), .val (.int p3), .val (.long w2), .second, .val (.int x2)] [(.int p1), (.int x2), (.int (8 : Int32)), (.long (((u (k + 2)).toInt64) &&& (255 : Int64))), (.long w2)])
  refine Runs.back (fun t_ k_ => XS.isub X0.here hx rfl (hb hby d1_34) rfl k_) ?_
  show Runs _ _ _ _ s₁ (mkF m 35 #[.val (.ref r0), .val (.int p1), .val (.int p2), .val (.int p3), .val (.long w2), .second, .val (.int x2)] [(.int (x2 - p1)), (.int (8 : Int32)), (.long (((u (k + 2)).toInt64) &&& (255 : Int64))), (.long w2)])
  refine Runs.back (fun t_ k_ => XS.imul X0.here hx rfl (hb hby d1_35) rfl k_) ?_
  show Runs _ _ _ _ s₁ (mkF m 36 #[.val (.ref r0), .val (.int p1), .val (.int p2), .val (.int p3), .val (.long w2), .second, .val (.int x2)] [(.int ((8 : Int32) * (x2 - p1))), (.long (((u (k + 2)).toInt64) &&& (255 : Int64))), (.long w2)])
  refine Runs.back (fun t_ k_ => XS.lshl X0.here hx rfl (hb hby d1_36) rfl k_) ?_
  show Runs _ _ _ _ s₁ (mkF m 37 #[.val (.ref r0), .val (.int p1), .val (.int p2), .val (.int p3), .val (.long w2), .second, .val (.int x2)] [(.long ((((u (k + 2)).toInt64) &&& (255 : Int64)) <<< (((8 : Int32) * (x2 - p1)) &&& 0x3f).toInt64)), (.long w2)])
  refine Runs.back (fun t_ k_ => XS.lor X0.here hx rfl (hb hby d1_37) rfl k_) ?_
  show Runs _ _ _ _ s₁ (mkF m 38 #[.val (.ref r0), .val (.int p1), .val (.int p2), .val (.int p3), .val (.long w2), .second, .val (.int x2)] [(.long (w2 ||| ((((u (k + 2)).toInt64) &&& (255 : Int64)) <<< (((8 : Int32) * (x2 - p1)) &&& 0x3f).toInt64)))])
  refine Runs.back (fun t_ k_ => XS.lstore X0.here hx rfl (hb hby d1_38) rfl (l' := #[.val (.ref r0), .val (.int p1), .val (.int p2), .val (.int p3), .val (.long (w2 ||| ((((u (k + 2)).toInt64) &&& (255 : Int64)) <<< (((8 : Int32) * (x2 - p1)) &&& 0x3f).toInt64))), .second, .val (.int x2)]) rfl k_) ?_
  show Runs _ _ _ _ s₁ (mkF m 40 #[.val (.ref r0), .val (.int p1), .val (.int p2), .val (.int p3), .val (.long (w2 ||| ((((u (k + 2)).toInt64) &&& (255 : Int64)) <<< (((8 : Int32) * (x2 - p1)) &&& 0x3f).toInt64))), .second, .val (.int x2)] [])
  refine Runs.back (fun t_ k_ => XS.iinc X0.here hx rfl (hb hby d1_40) rfl (l' := #[.val (.ref r0), .val (.int p1), .val (.int p2), .val (.int p3), .val (.long (w2 ||| ((((u (k + 2)).toInt64) &&& (255 : Int64)) <<< (((8 : Int32) * (x2 - p1)) &&& 0x3f).toInt64))), .second, .val (.int (x2 + (-1 : Int32)))]) rfl k_) ?_
  show Runs _ _ _ _ s₁ (mkF m 43 #[.val (.ref r0), .val (.int p1), .val (.int p2), .val (.int p3), .val (.long (w2 ||| ((((u (k + 2)).toInt64) &&& (255 : Int64)) <<< (((8 : Int32) * (x2 - p1)) &&& 0x3f).toInt64))), .second, .val (.int (x2 + (-1 : Int32)))] [])
  refine Runs.back (fun t_ k_ => XS.goto X0.here hx rfl (pc0 := 43) (pc' := 12) rfl (hb hby d1_43) (by decide) (by decide) k_) ?_
  show Runs _ _ _ _ s₁ (mkF m 12 #[.val (.ref r0), .val (.int p1), .val (.int p2), .val (.int p3), .val (.long (w2 ||| ((((u (k + 2)).toInt64) &&& (255 : Int64)) <<< (((8 : Int32) * (x2 - p1)) &&& 0x3f).toInt64))), .second, .val (.int (x2 + (-1 : Int32)))] [])
  have sq3 : ((8 : Int32) * (x2 - p1)) = (16 : Int32) := by
    have d : (x2 - p1).toInt = 2 := by rw [sub32 (by omega) (by omega)]; omega
    obtain e : (x2 - p1) = (2 : Int32) := eqi.mpr (by rw [d]; decide)
    rw [e]; decide
  have hw3 : Cg ((w2 ||| ((((u (k + 2)).toInt64) &&& (255 : Int64)) <<< (((8 : Int32) * (x2 - p1)) &&& 0x3f).toInt64))).toInt (p3.toInt * 72057594037927936 + ((dl (k + 4) : Nat) : Int) * 4294967296 + ((dl (k + 3) : Nat) : Int) * 16777216 + ((dl (k + 2) : Nat) : Int) * 65536) := lw2 sq3 (hd (k + 2) (by omega)) hw2 (by omega)
  have hx3 : ((x2 + (-1 : Int32))).toInt = (k : Int) + 2 - 1 := by rw [add32 (by rw [show (-1 : Int32).toInt = -1 from by decide]; omega) (by rw [show (-1 : Int32).toInt = -1 from by decide]; omega), show (-1 : Int32).toInt = -1 from by decide, hx2]; omega
  clear hx2 hk2 hn2 sq3 hw2
  generalize ew3 : (w2 ||| ((((u (k + 2)).toInt64) &&& (255 : Int64)) <<< (((8 : Int32) * (x2 - p1)) &&& 0x3f).toInt64)) = w3 at hw3 ⊢
  generalize ex3 : (x2 + (-1 : Int32)) = x3 at hx3 ⊢
  clear ew3 ex3
  show Runs _ _ _ _ s₁ (mkF m 12 #[.val (.ref r0), .val (.int p1), .val (.int p2), .val (.int p3), .val (.long w3), .second, .val (.int x3)] [])
  have hn3 : ¬ x3 < 0 := by rw [lti, z32]; omega
  have hk3 : x3.toNatClampNeg = k + 1 := by have q := nat_of hn3; omega
  refine Runs.back (fun t_ k_ => XS.iload X0.here hx rfl (hb hby d1_12) rfl k_) ?_
  show Runs _ _ _ _ s₁ (mkF m 14 #[.val (.ref r0), .val (.int p1), .val (.int p2), .val (.int p3), .val (.long w3), .second, .val (.int x3)] [(.int x3)])
  refine Runs.back (fun t_ k_ => XS.iloadN X0.here hx rfl (hb hby d1_14) rfl k_) ?_
  show Runs _ _ _ _ s₁ (mkF m 15 #[.val (.ref r0), .val (.int p1), .val (.int p2), .val (.int p3), .val (.long w3), .second, .val (.int x3)] [(.int p1), (.int x3)])
  refine Runs.back (fun t_ k_ => XS.icmpNo X0.here hx rfl (hb hby d1_15) rfl (flt (show ¬ (x3 < p1) from (by rw [lti]; omega))).1 k_) ?_
  show Runs _ _ _ _ s₁ (mkF m 18 #[.val (.ref r0), .val (.int p1), .val (.int p2), .val (.int p3), .val (.long w3), .second, .val (.int x3)] [])
  refine Runs.back (fun t_ k_ => XS.lload X0.here hx rfl (hb hby d1_18) rfl k_) ?_
  show Runs _ _ _ _ s₁ (mkF m 20 #[.val (.ref r0), .val (.int p1), .val (.int p2), .val (.int p3), .val (.long w3), .second, .val (.int x3)] [(.long w3)])
  refine Runs.back (fun t_ k_ => XS.aloadN X0.here hx rfl (hb hby d1_20) rfl rfl k_) ?_
  show Runs _ _ _ _ s₁ (mkF m 21 #[.val (.ref r0), .val (.int p1), .val (.int p2), .val (.int p3), .val (.long w3), .second, .val (.int x3)] [(.ref r0), (.long w3)])
  refine Runs.back (fun t_ k_ => XS.iload X0.here hx rfl (hb hby d1_21) rfl k_) ?_
  show Runs _ _ _ _ s₁ (mkF m 23 #[.val (.ref r0), .val (.int p1), .val (.int p2), .val (.int p3), .val (.long w3), .second, .val (.int x3)] [(.int x3), (.ref r0), (.long w3)])
  obtain ⟨cl4, Ar4, S4, Hs4⟩ := id A1
  have at4 : cl4.slots[(x3).toNatClampNeg]? = some (.int (u (k + 1))) := readO Hs4 hk3 (show (k + 1) < 16 from (by first | omega | decide)) (rfl)
  refine Runs.back (fun t_ k_ => X0.baloadBytes hx (j := x3) (v := (.int (u (k + 1)))) (by rw [e0]; exact Ar4.1) (State.isArrayOf_alike hZ.alike Ar4.2.1) Ar4.2.2 (by rw [S4]; exact (inbO hn3 hk3 (show (k + 1) < 16 from (by first | omega | decide)))) at4 (g := (mkF m 23 #[.val (.ref r0), .val (.int p1), .val (.int p2), .val (.int p3), .val (.long w3), .second, .val (.int x3)] [(.int x3), (.ref r0), (.long w3)])) rfl rfl (hb hby d1_23) _ k_) ?_
  clear at4 Hs4 S4 Ar4
  show Runs _ _ _ _ s₁ (mkF m 24 #[.val (.ref r0), .val (.int p1), .val (.int p2), .val (.int p3), .val (.long w3), .second, .val (.int x3)] [(.int (u (k + 1))), (.long w3)])
  refine Runs.back (fun t_ k_ => XS.i2l X0.here hx rfl (hb hby d1_24) rfl k_) ?_
  show Runs _ _ _ _ s₁ (mkF m 25 #[.val (.ref r0), .val (.int p1), .val (.int p2), .val (.int p3), .val (.long w3), .second, .val (.int x3)] [(.long ((u (k + 1)).toInt64)), (.long w3)])
  refine Runs.back (X0.ldc2Long hx hown (mvT hZ (hw _ (List.mem_of_getElem? (i := 6) rfl))) (g := (mkF m 25 #[.val (.ref r0), .val (.int p1), .val (.int p2), .val (.int p3), .val (.long w3), .second, .val (.int x3)] [(.long ((u (k + 1)).toInt64)), (.long w3)])) rfl (hb hby d1_25)) ?_
  show Runs _ _ _ _ s₁ (mkF m 28 #[.val (.ref r0), .val (.int p1), .val (.int p2), .val (.int p3), .val (.long w3), .second, .val (.int x3)] [(.long (255 : Int64)), (.long ((u (k + 1)).toInt64)), (.long w3)])
  refine Runs.back (fun t_ k_ => XS.land X0.here hx rfl (hb hby d1_28) rfl k_) ?_
  show Runs _ _ _ _ s₁ (mkF m 29 #[.val (.ref r0), .val (.int p1), .val (.int p2), .val (.int p3), .val (.long w3), .second, .val (.int x3)] [(.long (((u (k + 1)).toInt64) &&& (255 : Int64))), (.long w3)])
  refine Runs.back (fun t_ k_ => XS.bipush X0.here hx rfl (hb hby d1_29) k_) ?_
  show Runs _ _ _ _ s₁ (mkF m 31 #[.val (.ref r0), .val (.int p1), .val (.int p2), .val (.int p3), .val (.long w3), .second, .val (.int x3)] [(.int (8 : Int32)), (.long (((u (k + 1)).toInt64) &&& (255 : Int64))), (.long w3)])
  refine Runs.back (fun t_ k_ => XS.iload X0.here hx rfl (hb hby d1_31) rfl k_) ?_
  show Runs _ _ _ _ s₁ (mkF m 33 #[.val (.ref r0), .val (.int p1), .val (.int p2), .val (.int p3), .val (.long w3), .second, .val (.int x3)] [(.int x3), (.int (8 : Int32)), (.long (((u (k + 1)).toInt64) &&& (255 : Int64))), (.long w3)])
  refine Runs.back (fun t_ k_ => XS.iloadN X0.here hx rfl (hb hby d1_33) rfl k_) ?_
  show Runs _ _ _ _ s₁ (mkF m 34 #[.val (.ref r0), .val (.int p1), .val (.int p2), .val (.int p3), .val (.long w3), .second, .val (.int x3)] [(.int p1), (.int x3), (.int (8 : Int32)), (.long (((u (k + 1)).toInt64) &&& (255 : Int64))), (.long w3)])
  refine Runs.back (fun t_ k_ => XS.isub X0.here hx rfl (hb hby d1_34) rfl k_) ?_
  show Runs _ _ _ _ s₁ (mkF m 35 #[.val (.ref r0), .val (.int p1), .val (.int p2), .val (.int p3), .val (.long w3), .second, .val (.int x3)] [(.int (x3 - p1)), (.int (8 : Int32)), (.long (((u (k + 1)).toInt64) &&& (255 : Int64))), (.long w3)])
  refine Runs.back (fun t_ k_ => XS.imul X0.here hx rfl (hb hby d1_35) rfl k_) ?_
  show Runs _ _ _ _ s₁ (mkF m 36 #[.val (.ref r0), .val (.int p1), .val (.int p2), .val (.int p3), .val (.long w3), .second, .val (.int x3)] [(.int ((8 : Int32) * (x3 - p1))), (.long (((u (k + 1)).toInt64) &&& (255 : Int64))), (.long w3)])
  refine Runs.back (fun t_ k_ => XS.lshl X0.here hx rfl (hb hby d1_36) rfl k_) ?_
  show Runs _ _ _ _ s₁ (mkF m 37 #[.val (.ref r0), .val (.int p1), .val (.int p2), .val (.int p3), .val (.long w3), .second, .val (.int x3)] [(.long ((((u (k + 1)).toInt64) &&& (255 : Int64)) <<< (((8 : Int32) * (x3 - p1)) &&& 0x3f).toInt64)), (.long w3)])
  refine Runs.back (fun t_ k_ => XS.lor X0.here hx rfl (hb hby d1_37) rfl k_) ?_
  show Runs _ _ _ _ s₁ (mkF m 38 #[.val (.ref r0), .val (.int p1), .val (.int p2), .val (.int p3), .val (.long w3), .second, .val (.int x3)] [(.long (w3 ||| ((((u (k + 1)).toInt64) &&& (255 : Int64)) <<< (((8 : Int32) * (x3 - p1)) &&& 0x3f).toInt64)))])
  refine Runs.back (fun t_ k_ => XS.lstore X0.here hx rfl (hb hby d1_38) rfl (l' := #[.val (.ref r0), .val (.int p1), .val (.int p2), .val (.int p3), .val (.long (w3 ||| ((((u (k + 1)).toInt64) &&& (255 : Int64)) <<< (((8 : Int32) * (x3 - p1)) &&& 0x3f).toInt64))), .second, .val (.int x3)]) rfl k_) ?_
  show Runs _ _ _ _ s₁ (mkF m 40 #[.val (.ref r0), .val (.int p1), .val (.int p2), .val (.int p3), .val (.long (w3 ||| ((((u (k + 1)).toInt64) &&& (255 : Int64)) <<< (((8 : Int32) * (x3 - p1)) &&& 0x3f).toInt64))), .second, .val (.int x3)] [])
  refine Runs.back (fun t_ k_ => XS.iinc X0.here hx rfl (hb hby d1_40) rfl (l' := #[.val (.ref r0), .val (.int p1), .val (.int p2), .val (.int p3), .val (.long (w3 ||| ((((u (k + 1)).toInt64) &&& (255 : Int64)) <<< (((8 : Int32) * (x3 - p1)) &&& 0x3f).toInt64))), .second, .val (.int (x3 + (-1 : Int32)))]) rfl k_) ?_
  show Runs _ _ _ _ s₁ (mkF m 43 #[.val (.ref r0), .val (.int p1), .val (.int p2), .val (.int p3), .val (.long (w3 ||| ((((u (k + 1)).toInt64) &&& (255 : Int64)) <<< (((8 : Int32) * (x3 - p1)) &&& 0x3f).toInt64))), .second, .val (.int (x3 + (-1 : Int32)))] [])
  refine Runs.back (fun t_ k_ => XS.goto X0.here hx rfl (pc0 := 43) (pc' := 12) rfl (hb hby d1_43) (by decide) (by decide) k_) ?_
  show Runs _ _ _ _ s₁ (mkF m 12 #[.val (.ref r0), .val (.int p1), .val (.int p2), .val (.int p3), .val (.long (w3 ||| ((((u (k + 1)).toInt64) &&& (255 : Int64)) <<< (((8 : Int32) * (x3 - p1)) &&& 0x3f).toInt64))), .second, .val (.int (x3 + (-1 : Int32)))] [])
  have sq4 : ((8 : Int32) * (x3 - p1)) = (8 : Int32) := by
    have d : (x3 - p1).toInt = 1 := by rw [sub32 (by omega) (by omega)]; omega
    obtain e : (x3 - p1) = (1 : Int32) := eqi.mpr (by rw [d]; decide)
    rw [e]; decide
  have hw4 : Cg ((w3 ||| ((((u (k + 1)).toInt64) &&& (255 : Int64)) <<< (((8 : Int32) * (x3 - p1)) &&& 0x3f).toInt64))).toInt (p3.toInt * 72057594037927936 + ((dl (k + 4) : Nat) : Int) * 4294967296 + ((dl (k + 3) : Nat) : Int) * 16777216 + ((dl (k + 2) : Nat) : Int) * 65536 + ((dl (k + 1) : Nat) : Int) * 256) := lw1 sq4 (hd (k + 1) (by omega)) hw3 (by omega)
  have hx4 : ((x3 + (-1 : Int32))).toInt = (k : Int) + 1 - 1 := by rw [add32 (by rw [show (-1 : Int32).toInt = -1 from by decide]; omega) (by rw [show (-1 : Int32).toInt = -1 from by decide]; omega), show (-1 : Int32).toInt = -1 from by decide, hx3]; omega
  clear hx3 hk3 hn3 sq4 hw3
  generalize ew4 : (w3 ||| ((((u (k + 1)).toInt64) &&& (255 : Int64)) <<< (((8 : Int32) * (x3 - p1)) &&& 0x3f).toInt64)) = w4 at hw4 ⊢
  generalize ex4 : (x3 + (-1 : Int32)) = x4 at hx4 ⊢
  clear ew4 ex4
  show Runs _ _ _ _ s₁ (mkF m 12 #[.val (.ref r0), .val (.int p1), .val (.int p2), .val (.int p3), .val (.long w4), .second, .val (.int x4)] [])
  have hn4 : ¬ x4 < 0 := by rw [lti, z32]; omega
  have hk4 : x4.toNatClampNeg = k + 0 := by have q := nat_of hn4; omega
  refine Runs.back (fun t_ k_ => XS.iload X0.here hx rfl (hb hby d1_12) rfl k_) ?_
  show Runs _ _ _ _ s₁ (mkF m 14 #[.val (.ref r0), .val (.int p1), .val (.int p2), .val (.int p3), .val (.long w4), .second, .val (.int x4)] [(.int x4)])
  refine Runs.back (fun t_ k_ => XS.iloadN X0.here hx rfl (hb hby d1_14) rfl k_) ?_
  show Runs _ _ _ _ s₁ (mkF m 15 #[.val (.ref r0), .val (.int p1), .val (.int p2), .val (.int p3), .val (.long w4), .second, .val (.int x4)] [(.int p1), (.int x4)])
  refine Runs.back (fun t_ k_ => XS.icmpNo X0.here hx rfl (hb hby d1_15) rfl (flt (show ¬ (x4 < p1) from (by rw [lti]; omega))).1 k_) ?_
  show Runs _ _ _ _ s₁ (mkF m 18 #[.val (.ref r0), .val (.int p1), .val (.int p2), .val (.int p3), .val (.long w4), .second, .val (.int x4)] [])
  refine Runs.back (fun t_ k_ => XS.lload X0.here hx rfl (hb hby d1_18) rfl k_) ?_
  show Runs _ _ _ _ s₁ (mkF m 20 #[.val (.ref r0), .val (.int p1), .val (.int p2), .val (.int p3), .val (.long w4), .second, .val (.int x4)] [(.long w4)])
  refine Runs.back (fun t_ k_ => XS.aloadN X0.here hx rfl (hb hby d1_20) rfl rfl k_) ?_
  show Runs _ _ _ _ s₁ (mkF m 21 #[.val (.ref r0), .val (.int p1), .val (.int p2), .val (.int p3), .val (.long w4), .second, .val (.int x4)] [(.ref r0), (.long w4)])
  refine Runs.back (fun t_ k_ => XS.iload X0.here hx rfl (hb hby d1_21) rfl k_) ?_
  show Runs _ _ _ _ s₁ (mkF m 23 #[.val (.ref r0), .val (.int p1), .val (.int p2), .val (.int p3), .val (.long w4), .second, .val (.int x4)] [(.int x4), (.ref r0), (.long w4)])
  obtain ⟨cl5, Ar5, S5, Hs5⟩ := id A1
  have at5 : cl5.slots[(x4).toNatClampNeg]? = some (.int (u (k + 0))) := readO Hs5 hk4 (show (k + 0) < 16 from (by first | omega | decide)) (rfl)
  refine Runs.back (fun t_ k_ => X0.baloadBytes hx (j := x4) (v := (.int (u (k + 0)))) (by rw [e0]; exact Ar5.1) (State.isArrayOf_alike hZ.alike Ar5.2.1) Ar5.2.2 (by rw [S5]; exact (inbO hn4 hk4 (show (k + 0) < 16 from (by first | omega | decide)))) at5 (g := (mkF m 23 #[.val (.ref r0), .val (.int p1), .val (.int p2), .val (.int p3), .val (.long w4), .second, .val (.int x4)] [(.int x4), (.ref r0), (.long w4)])) rfl rfl (hb hby d1_23) _ k_) ?_
  clear at5 Hs5 S5 Ar5
  show Runs _ _ _ _ s₁ (mkF m 24 #[.val (.ref r0), .val (.int p1), .val (.int p2), .val (.int p3), .val (.long w4), .second, .val (.int x4)] [(.int (u (k + 0))), (.long w4)])
  refine Runs.back (fun t_ k_ => XS.i2l X0.here hx rfl (hb hby d1_24) rfl k_) ?_
  show Runs _ _ _ _ s₁ (mkF m 25 #[.val (.ref r0), .val (.int p1), .val (.int p2), .val (.int p3), .val (.long w4), .second, .val (.int x4)] [(.long ((u (k + 0)).toInt64)), (.long w4)])
  refine Runs.back (X0.ldc2Long hx hown (mvT hZ (hw _ (List.mem_of_getElem? (i := 6) rfl))) (g := (mkF m 25 #[.val (.ref r0), .val (.int p1), .val (.int p2), .val (.int p3), .val (.long w4), .second, .val (.int x4)] [(.long ((u (k + 0)).toInt64)), (.long w4)])) rfl (hb hby d1_25)) ?_
  show Runs _ _ _ _ s₁ (mkF m 28 #[.val (.ref r0), .val (.int p1), .val (.int p2), .val (.int p3), .val (.long w4), .second, .val (.int x4)] [(.long (255 : Int64)), (.long ((u (k + 0)).toInt64)), (.long w4)])
  refine Runs.back (fun t_ k_ => XS.land X0.here hx rfl (hb hby d1_28) rfl k_) ?_
  show Runs _ _ _ _ s₁ (mkF m 29 #[.val (.ref r0), .val (.int p1), .val (.int p2), .val (.int p3), .val (.long w4), .second, .val (.int x4)] [(.long (((u (k + 0)).toInt64) &&& (255 : Int64))), (.long w4)])
  refine Runs.back (fun t_ k_ => XS.bipush X0.here hx rfl (hb hby d1_29) k_) ?_
  show Runs _ _ _ _ s₁ (mkF m 31 #[.val (.ref r0), .val (.int p1), .val (.int p2), .val (.int p3), .val (.long w4), .second, .val (.int x4)] [(.int (8 : Int32)), (.long (((u (k + 0)).toInt64) &&& (255 : Int64))), (.long w4)])
  refine Runs.back (fun t_ k_ => XS.iload X0.here hx rfl (hb hby d1_31) rfl k_) ?_
  show Runs _ _ _ _ s₁ (mkF m 33 #[.val (.ref r0), .val (.int p1), .val (.int p2), .val (.int p3), .val (.long w4), .second, .val (.int x4)] [(.int x4), (.int (8 : Int32)), (.long (((u (k + 0)).toInt64) &&& (255 : Int64))), (.long w4)])
  refine Runs.back (fun t_ k_ => XS.iloadN X0.here hx rfl (hb hby d1_33) rfl k_) ?_
  show Runs _ _ _ _ s₁ (mkF m 34 #[.val (.ref r0), .val (.int p1), .val (.int p2), .val (.int p3), .val (.long w4), .second, .val (.int x4)] [(.int p1), (.int x4), (.int (8 : Int32)), (.long (((u (k + 0)).toInt64) &&& (255 : Int64))), (.long w4)])
  refine Runs.back (fun t_ k_ => XS.isub X0.here hx rfl (hb hby d1_34) rfl k_) ?_
  show Runs _ _ _ _ s₁ (mkF m 35 #[.val (.ref r0), .val (.int p1), .val (.int p2), .val (.int p3), .val (.long w4), .second, .val (.int x4)] [(.int (x4 - p1)), (.int (8 : Int32)), (.long (((u (k + 0)).toInt64) &&& (255 : Int64))), (.long w4)])
  refine Runs.back (fun t_ k_ => XS.imul X0.here hx rfl (hb hby d1_35) rfl k_) ?_
  show Runs _ _ _ _ s₁ (mkF m 36 #[.val (.ref r0), .val (.int p1), .val (.int p2), .val (.int p3), .val (.long w4), .second, .val (.int x4)] [(.int ((8 : Int32) * (x4 - p1))), (.long (((u (k + 0)).toInt64) &&& (255 : Int64))), (.long w4)])
  refine Runs.back (fun t_ k_ => XS.lshl X0.here hx rfl (hb hby d1_36) rfl k_) ?_
  show Runs _ _ _ _ s₁ (mkF m 37 #[.val (.ref r0), .val (.int p1), .val (.int p2), .val (.int p3), .val (.long w4), .second, .val (.int x4)] [(.long ((((u (k + 0)).toInt64) &&& (255 : Int64)) <<< (((8 : Int32) * (x4 - p1)) &&& 0x3f).toInt64)), (.long w4)])
  refine Runs.back (fun t_ k_ => XS.lor X0.here hx rfl (hb hby d1_37) rfl k_) ?_
  show Runs _ _ _ _ s₁ (mkF m 38 #[.val (.ref r0), .val (.int p1), .val (.int p2), .val (.int p3), .val (.long w4), .second, .val (.int x4)] [(.long (w4 ||| ((((u (k + 0)).toInt64) &&& (255 : Int64)) <<< (((8 : Int32) * (x4 - p1)) &&& 0x3f).toInt64)))])
  refine Runs.back (fun t_ k_ => XS.lstore X0.here hx rfl (hb hby d1_38) rfl (l' := #[.val (.ref r0), .val (.int p1), .val (.int p2), .val (.int p3), .val (.long (w4 ||| ((((u (k + 0)).toInt64) &&& (255 : Int64)) <<< (((8 : Int32) * (x4 - p1)) &&& 0x3f).toInt64))), .second, .val (.int x4)]) rfl k_) ?_
  show Runs _ _ _ _ s₁ (mkF m 40 #[.val (.ref r0), .val (.int p1), .val (.int p2), .val (.int p3), .val (.long (w4 ||| ((((u (k + 0)).toInt64) &&& (255 : Int64)) <<< (((8 : Int32) * (x4 - p1)) &&& 0x3f).toInt64))), .second, .val (.int x4)] [])
  refine Runs.back (fun t_ k_ => XS.iinc X0.here hx rfl (hb hby d1_40) rfl (l' := #[.val (.ref r0), .val (.int p1), .val (.int p2), .val (.int p3), .val (.long (w4 ||| ((((u (k + 0)).toInt64) &&& (255 : Int64)) <<< (((8 : Int32) * (x4 - p1)) &&& 0x3f).toInt64))), .second, .val (.int (x4 + (-1 : Int32)))]) rfl k_) ?_
  show Runs _ _ _ _ s₁ (mkF m 43 #[.val (.ref r0), .val (.int p1), .val (.int p2), .val (.int p3), .val (.long (w4 ||| ((((u (k + 0)).toInt64) &&& (255 : Int64)) <<< (((8 : Int32) * (x4 - p1)) &&& 0x3f).toInt64))), .second, .val (.int (x4 + (-1 : Int32)))] [])
  refine Runs.back (fun t_ k_ => XS.goto X0.here hx rfl (pc0 := 43) (pc' := 12) rfl (hb hby d1_43) (by decide) (by decide) k_) ?_
  show Runs _ _ _ _ s₁ (mkF m 12 #[.val (.ref r0), .val (.int p1), .val (.int p2), .val (.int p3), .val (.long (w4 ||| ((((u (k + 0)).toInt64) &&& (255 : Int64)) <<< (((8 : Int32) * (x4 - p1)) &&& 0x3f).toInt64))), .second, .val (.int (x4 + (-1 : Int32)))] [])
  have sq5 : ((8 : Int32) * (x4 - p1)) = (0 : Int32) := by
    have d : (x4 - p1).toInt = 0 := by rw [sub32 (by omega) (by omega)]; omega
    obtain e : (x4 - p1) = (0 : Int32) := eqi.mpr (by rw [d]; decide)
    rw [e]; decide
  have hw5 : Cg ((w4 ||| ((((u (k + 0)).toInt64) &&& (255 : Int64)) <<< (((8 : Int32) * (x4 - p1)) &&& 0x3f).toInt64))).toInt (p3.toInt * 72057594037927936 + ((dl (k + 4) : Nat) : Int) * 4294967296 + ((dl (k + 3) : Nat) : Int) * 16777216 + ((dl (k + 2) : Nat) : Int) * 65536 + ((dl (k + 1) : Nat) : Int) * 256 + ((dl (k + 0) : Nat) : Int) * 1) := lw0 sq5 (hd (k + 0) (by omega)) hw4 (by omega)
  have hx5 : ((x4 + (-1 : Int32))).toInt = (k : Int) + 0 - 1 := by rw [add32 (by rw [show (-1 : Int32).toInt = -1 from by decide]; omega) (by rw [show (-1 : Int32).toInt = -1 from by decide]; omega), show (-1 : Int32).toInt = -1 from by decide, hx4]; omega
  clear hx4 hk4 hn4 sq5 hw4
  generalize ew5 : (w4 ||| ((((u (k + 0)).toInt64) &&& (255 : Int64)) <<< (((8 : Int32) * (x4 - p1)) &&& 0x3f).toInt64)) = w5 at hw5 ⊢
  generalize ex5 : (x4 + (-1 : Int32)) = x5 at hx5 ⊢
  clear ew5 ex5
  show Runs _ _ _ _ s₁ (mkF m 12 #[.val (.ref r0), .val (.int p1), .val (.int p2), .val (.int p3), .val (.long w5), .second, .val (.int x5)] [])
  refine Runs.back (fun t_ k_ => XS.iload X0.here hx rfl (hb hby d1_12) rfl k_) ?_
  show Runs _ _ _ _ s₁ (mkF m 14 #[.val (.ref r0), .val (.int p1), .val (.int p2), .val (.int p3), .val (.long w5), .second, .val (.int x5)] [(.int x5)])
  refine Runs.back (fun t_ k_ => XS.iloadN X0.here hx rfl (hb hby d1_14) rfl k_) ?_
  show Runs _ _ _ _ s₁ (mkF m 15 #[.val (.ref r0), .val (.int p1), .val (.int p2), .val (.int p3), .val (.long w5), .second, .val (.int x5)] [(.int p1), (.int x5)])
  refine Runs.back (fun t_ k_ => XS.icmpYes X0.here hx rfl (pc0 := 15) (pc' := 46) rfl (hb hby d1_15) rfl (tlt (show x5 < p1 from (by rw [lti]; omega))).1 (by decide) (by decide) k_) ?_
  show Runs _ _ _ _ s₁ (mkF m 46 #[.val (.ref r0), .val (.int p1), .val (.int p2), .val (.int p3), .val (.long w5), .second, .val (.int x5)] [])
  refine Runs.back (fun t_ k_ => XS.lload X0.here hx rfl (hb hby d1_46) rfl k_) ?_
  show Runs _ _ _ _ s₁ (mkF m 48 #[.val (.ref r0), .val (.int p1), .val (.int p2), .val (.int p3), .val (.long w5), .second, .val (.int x5)] [(.long w5)])
  obtain ⟨fs, hr, hrun, hended, hW, hsame⟩ := X0.leave (v := some (.long w5)) (fun h => by rw [Bd.returns] at h; cases h)
  have hfin : Cg w5.toInt (p3.toInt * 72057594037927936 + ((sumD dl k 5 : Nat) : Int)) := by
    have e : p3.toInt * 72057594037927936 + ((sumD dl k 5 : Nat) : Int) = p3.toInt * 72057594037927936 + ((dl (k + 4) : Nat) : Int) * 4294967296 + ((dl (k + 3) : Nat) : Int) * 16777216 + ((dl (k + 2) : Nat) : Int) * 65536 + ((dl (k + 1) : Nat) : Int) * 256 + ((dl (k + 0) : Nat) : Int) * 1 := by rw [show sumD dl k 5 = 0 + dl (k + 0) * 1 + dl (k + 1) * 256 + dl (k + 2) * 65536 + dl (k + 3) * 16777216 + dl (k + 4) * 4294967296 from rfl]; omega
    rw [e]; exact hw5
  exact ⟨_, _, (X0.lreturnOut hx Bd.returns (hb hby d1_48) hr), hrun, hended, _, _, rfl, ⟨_, rfl, N0, e0, hfin⟩, ⟨_, rfl⟩, hW, hsame.mono (by decide) (by decide)⟩
theorem pn_1c6 : plainName "com/example/strict_distinct/strictdistinct/SipHash" = true := by first | (simp [plainName, overriddenIn]; done) | decide +kernel
theorem ef_1c6 (m : MethodId) (r0 : Addr) (p1 : Int32) (p2 : Int32) (p3 : Int32) : entryFrame m #[(.ref r0), (.int p1), (.int p2), (.int p3)] 7 = mkF m 0 #[.val (.ref r0), .val (.int p1), .val (.int p2), .val (.int p3), .unset, .unset, .unset] [] := by first | (simp [entryFrame, mkF, argsToLocals, Value.category]; done) | rfl
def Q1c6 (Z : State) (r0 : Addr) (p1 : Int32) (p2 : Int32) (p3 : Int32) (u : Nat → Int32) (dl : Nat → Nat) (k : Nat) (h0 : Heap) (n0 : Nat) (v : Option Value) (h : Heap) (L : List Loc) : Prop := LWQ p3 6 k dl h0 n0 v h L
set_option maxRecDepth 65536 in
set_option maxHeartbeats 40000000 in
theorem rm1c6 (l : Launch) (Z : State) (a0 : Array Value) (hw : ∀ d ∈ tables_1, d.before a0 Z = true) (ws : List Jvm.Cond) (r0 : Addr) (p1 : Int32) (p2 : Int32) (p3 : Int32) (u : Nat → Int32) (dl : Nat → Nat) (k : Nat) (h0 : Heap) (n0 : Nat) (Z0 : n0 ≤ h0.size) (A1 : OArr Z h0 r0 .byte 16 (fun i => (Value.int (u i)))) (hp1 : p1.toInt = (k : Int)) (hp2 : p2.toInt = (k : Int) + 6) (hk9 : k < 9) (hd : ∀ i, i < 16 → (u i).toInt % 256 = ((dl i : Nat) : Int)) :
    MetFree l (⟨"com/example/strict_distinct/strictdistinct/SipHash", "lastWord", "([BIII)J"⟩ : MethodName) (head1 (Jvm.Cond.code (⟨"com/example/strict_distinct/strictdistinct/SipHash", "lastWord", "([BIII)J"⟩ : MethodName) prog_29_method_7_code 7 (some .long) :: ws) ({ frames := 0, cells := 0, slots := 0, locals := 0 } : Room)) (fun a U => a = #[(.ref r0), (.int p1), (.int p2), (.int p3)] ∧ Z.Warmed39 U.vm ∧ U.heap = h0) (fun _ _ _ _ _ => True) (fun _ U o U' => ∃ v L, o = .returned v ∧ Q1c6 Z r0 p1 p2 p3 u dl k h0 n0 v U'.heap L ∧ FrameEnd U o U' L ({ frames := 0, cells := 0, slots := 0, locals := 0 } : Room).cells ({ frames := 0, cells := 0, slots := 0, locals := 0 } : Room).slots) := by
  refine MetFree.of_bodySF (plainFor_of_name pn_1c6) hisR ?_
  intro p e s m args below meth c s₁ Bd hml0 hP hK
  obtain ⟨rfl, hZ, hh⟩ := hP
  have hx := Bd.exec
  have hby := Bd.bytes
  have hml : c.maxLocals = 7 := hml0
  have hown : s.vm.findClass "com/example/strict_distinct/strictdistinct/SipHash" = some m.cls := findClass_of_methodNamed Bd.named
  have hnm := (name_of_methodNamed Bd.named Bd.method).1
  have X0 : Stand p l e ({ frames := 0, cells := 0, slots := 0, locals := 0 } : Room) s m #[(.ref r0), (.int p1), (.int p2), (.int p3)] below meth c s₁ [] 0 0 := Stand.of_body Bd
  have e0 : s₁.heap = h0 := by rw [← hh, Bd.state]; rfl
  have N0 := Fr.nil n0
  refine Runs.enter (ef_1c6 m r0 p1 p2 p3) ?_
  show Runs _ _ _ _ s₁ (mkF m 0 #[.val (.ref r0), .val (.int p1), .val (.int p2), .val (.int p3), .unset, .unset, .unset] [])
  refine Runs.back (fun t_ k_ => XS.iloadN X0.here hx rfl (hb hby d1_0) rfl k_) ?_
  show Runs _ _ _ _ s₁ (mkF m 1 #[.val (.ref r0), .val (.int p1), .val (.int p2), .val (.int p3), .unset, .unset, .unset] [(.int p3)])
  refine Runs.back (fun t_ k_ => XS.i2l X0.here hx rfl (hb hby d1_1) rfl k_) ?_
  show Runs _ _ _ _ s₁ (mkF m 2 #[.val (.ref r0), .val (.int p1), .val (.int p2), .val (.int p3), .unset, .unset, .unset] [(.long (p3.toInt64))])
  refine Runs.back (fun t_ k_ => XS.bipush X0.here hx rfl (hb hby d1_2) k_) ?_
  show Runs _ _ _ _ s₁ (mkF m 4 #[.val (.ref r0), .val (.int p1), .val (.int p2), .val (.int p3), .unset, .unset, .unset] [(.int (56 : Int32)), (.long (p3.toInt64))])
  refine Runs.back (fun t_ k_ => XS.lshl X0.here hx rfl (hb hby d1_4) rfl k_) ?_
  show Runs _ _ _ _ s₁ (mkF m 5 #[.val (.ref r0), .val (.int p1), .val (.int p2), .val (.int p3), .unset, .unset, .unset] [(.long ((p3.toInt64) <<< ((56 : Int32) &&& 0x3f).toInt64))])
  refine Runs.back (fun t_ k_ => XS.lstore X0.here hx rfl (hb hby d1_5) rfl (l' := #[.val (.ref r0), .val (.int p1), .val (.int p2), .val (.int p3), .val (.long ((p3.toInt64) <<< ((56 : Int32) &&& 0x3f).toInt64)), .second, .unset]) rfl k_) ?_
  show Runs _ _ _ _ s₁ (mkF m 7 #[.val (.ref r0), .val (.int p1), .val (.int p2), .val (.int p3), .val (.long ((p3.toInt64) <<< ((56 : Int32) &&& 0x3f).toInt64)), .second, .unset] [])
  refine Runs.back (fun t_ k_ => XS.iloadN X0.here hx rfl (hb hby d1_7) rfl k_) ?_
  show Runs _ _ _ _ s₁ (mkF m 8 #[.val (.ref r0), .val (.int p1), .val (.int p2), .val (.int p3), .val (.long ((p3.toInt64) <<< ((56 : Int32) &&& 0x3f).toInt64)), .second, .unset] [(.int p2)])
  refine Runs.back (fun t_ k_ => XS.iconst X0.here hx rfl (hb hby d1_8) k_) ?_
  show Runs _ _ _ _ s₁ (mkF m 9 #[.val (.ref r0), .val (.int p1), .val (.int p2), .val (.int p3), .val (.long ((p3.toInt64) <<< ((56 : Int32) &&& 0x3f).toInt64)), .second, .unset] [(.int (1 : Int32)), (.int p2)])
  refine Runs.back (fun t_ k_ => XS.isub X0.here hx rfl (hb hby d1_9) rfl k_) ?_
  show Runs _ _ _ _ s₁ (mkF m 10 #[.val (.ref r0), .val (.int p1), .val (.int p2), .val (.int p3), .val (.long ((p3.toInt64) <<< ((56 : Int32) &&& 0x3f).toInt64)), .second, .unset] [(.int (p2 - (1 : Int32)))])
  refine Runs.back (fun t_ k_ => XS.istore X0.here hx rfl (hb hby d1_10) rfl (l' := #[.val (.ref r0), .val (.int p1), .val (.int p2), .val (.int p3), .val (.long ((p3.toInt64) <<< ((56 : Int32) &&& 0x3f).toInt64)), .second, .val (.int (p2 - (1 : Int32)))]) rfl k_) ?_
  show Runs _ _ _ _ s₁ (mkF m 12 #[.val (.ref r0), .val (.int p1), .val (.int p2), .val (.int p3), .val (.long ((p3.toInt64) <<< ((56 : Int32) &&& 0x3f).toInt64)), .second, .val (.int (p2 - (1 : Int32)))] [])
  have hw0 : Cg (((p3.toInt64) <<< ((56 : Int32) &&& 0x3f).toInt64)).toInt (p3.toInt * 72057594037927936) := by
    have q := c_lshl p3.toInt64 56 56 (by decide)
    rw [show ((2 ^ 56 : Nat) : Int) = 72057594037927936 from rfl, c_i2l] at q
    exact q
  have hx0 : ((p2 - (1 : Int32))).toInt = (k : Int) + 6 - 1 := by rw [sub32 (by rw [o32]; omega) (by rw [o32]; omega), o32, hp2]
  generalize ew0 : ((p3.toInt64) <<< ((56 : Int32) &&& 0x3f).toInt64) = w0 at hw0 ⊢
  generalize ex0 : (p2 - (1 : Int32)) = x0 at hx0 ⊢
  clear ew0 ex0
  show Runs _ _ _ _ s₁ (mkF m 12 #[.val (.ref r0), .val (.int p1), .val (.int p2), .val (.int p3), .val (.long w0), .second, .val (.int x0)] [])
  have hn0 : ¬ x0 < 0 := by rw [lti, z32]; omega
  have hk0 : x0.toNatClampNeg = k + 5 := by have q := nat_of hn0; omega
  refine Runs.back (fun t_ k_ => XS.iload X0.here hx rfl (hb hby d1_12) rfl k_) ?_
  show Runs _ _ _ _ s₁ (mkF m 14 #[.val (.ref r0), .val (.int p1), .val (.int p2), .val (.int p3), .val (.long w0), .second, .val (.int x0)] [(.int x0)])
  refine Runs.back (fun t_ k_ => XS.iloadN X0.here hx rfl (hb hby d1_14) rfl k_) ?_
  show Runs _ _ _ _ s₁ (mkF m 15 #[.val (.ref r0), .val (.int p1), .val (.int p2), .val (.int p3), .val (.long w0), .second, .val (.int x0)] [(.int p1), (.int x0)])
  refine Runs.back (fun t_ k_ => XS.icmpNo X0.here hx rfl (hb hby d1_15) rfl (flt (show ¬ (x0 < p1) from (by rw [lti]; omega))).1 k_) ?_
  show Runs _ _ _ _ s₁ (mkF m 18 #[.val (.ref r0), .val (.int p1), .val (.int p2), .val (.int p3), .val (.long w0), .second, .val (.int x0)] [])
  refine Runs.back (fun t_ k_ => XS.lload X0.here hx rfl (hb hby d1_18) rfl k_) ?_
  show Runs _ _ _ _ s₁ (mkF m 20 #[.val (.ref r0), .val (.int p1), .val (.int p2), .val (.int p3), .val (.long w0), .second, .val (.int x0)] [(.long w0)])
  refine Runs.back (fun t_ k_ => XS.aloadN X0.here hx rfl (hb hby d1_20) rfl rfl k_) ?_
  show Runs _ _ _ _ s₁ (mkF m 21 #[.val (.ref r0), .val (.int p1), .val (.int p2), .val (.int p3), .val (.long w0), .second, .val (.int x0)] [(.ref r0), (.long w0)])
  refine Runs.back (fun t_ k_ => XS.iload X0.here hx rfl (hb hby d1_21) rfl k_) ?_
  show Runs _ _ _ _ s₁ (mkF m 23 #[.val (.ref r0), .val (.int p1), .val (.int p2), .val (.int p3), .val (.long w0), .second, .val (.int x0)] [(.int x0), (.ref r0), (.long w0)])
  obtain ⟨cl1, Ar1, S1, Hs1⟩ := id A1
  have at1 : cl1.slots[(x0).toNatClampNeg]? = some (.int (u (k + 5))) := readO Hs1 hk0 (show (k + 5) < 16 from (by first | omega | decide)) (rfl)
  refine Runs.back (fun t_ k_ => X0.baloadBytes hx (j := x0) (v := (.int (u (k + 5)))) (by rw [e0]; exact Ar1.1) (State.isArrayOf_alike hZ.alike Ar1.2.1) Ar1.2.2 (by rw [S1]; exact (inbO hn0 hk0 (show (k + 5) < 16 from (by first | omega | decide)))) at1 (g := (mkF m 23 #[.val (.ref r0), .val (.int p1), .val (.int p2), .val (.int p3), .val (.long w0), .second, .val (.int x0)] [(.int x0), (.ref r0), (.long w0)])) rfl rfl (hb hby d1_23) _ k_) ?_
  clear at1 Hs1 S1 Ar1
  show Runs _ _ _ _ s₁ (mkF m 24 #[.val (.ref r0), .val (.int p1), .val (.int p2), .val (.int p3), .val (.long w0), .second, .val (.int x0)] [(.int (u (k + 5))), (.long w0)])
  refine Runs.back (fun t_ k_ => XS.i2l X0.here hx rfl (hb hby d1_24) rfl k_) ?_
  show Runs _ _ _ _ s₁ (mkF m 25 #[.val (.ref r0), .val (.int p1), .val (.int p2), .val (.int p3), .val (.long w0), .second, .val (.int x0)] [(.long ((u (k + 5)).toInt64)), (.long w0)])
  refine Runs.back (X0.ldc2Long hx hown (mvT hZ (hw _ (List.mem_of_getElem? (i := 6) rfl))) (g := (mkF m 25 #[.val (.ref r0), .val (.int p1), .val (.int p2), .val (.int p3), .val (.long w0), .second, .val (.int x0)] [(.long ((u (k + 5)).toInt64)), (.long w0)])) rfl (hb hby d1_25)) ?_
  show Runs _ _ _ _ s₁ (mkF m 28 #[.val (.ref r0), .val (.int p1), .val (.int p2), .val (.int p3), .val (.long w0), .second, .val (.int x0)] [(.long (255 : Int64)), (.long ((u (k + 5)).toInt64)), (.long w0)])
  refine Runs.back (fun t_ k_ => XS.land X0.here hx rfl (hb hby d1_28) rfl k_) ?_
  show Runs _ _ _ _ s₁ (mkF m 29 #[.val (.ref r0), .val (.int p1), .val (.int p2), .val (.int p3), .val (.long w0), .second, .val (.int x0)] [(.long (((u (k + 5)).toInt64) &&& (255 : Int64))), (.long w0)])
  refine Runs.back (fun t_ k_ => XS.bipush X0.here hx rfl (hb hby d1_29) k_) ?_
  show Runs _ _ _ _ s₁ (mkF m 31 #[.val (.ref r0), .val (.int p1), .val (.int p2), .val (.int p3), .val (.long w0), .second, .val (.int x0)] [(.int (8 : Int32)), (.long (((u (k + 5)).toInt64) &&& (255 : Int64))), (.long w0)])
  refine Runs.back (fun t_ k_ => XS.iload X0.here hx rfl (hb hby d1_31) rfl k_) ?_
  show Runs _ _ _ _ s₁ (mkF m 33 #[.val (.ref r0), .val (.int p1), .val (.int p2), .val (.int p3), .val (.long w0), .second, .val (.int x0)] [(.int x0), (.int (8 : Int32)), (.long (((u (k + 5)).toInt64) &&& (255 : Int64))), (.long w0)])
  refine Runs.back (fun t_ k_ => XS.iloadN X0.here hx rfl (hb hby d1_33) rfl k_) ?_
  show Runs _ _ _ _ s₁ (mkF m 34 #[.val (.ref r0), .val (.int p1), .val (.int p2), .val (.int p3), .val (.long w0), .second, .val (.int x0)] [(.int p1), (.int x0), (.int (8 : Int32)), (.long (((u (k + 5)).toInt64) &&& (255 : Int64))), (.long w0)])
  refine Runs.back (fun t_ k_ => XS.isub X0.here hx rfl (hb hby d1_34) rfl k_) ?_
  show Runs _ _ _ _ s₁ (mkF m 35 #[.val (.ref r0), .val (.int p1), .val (.int p2), .val (.int p3), .val (.long w0), .second, .val (.int x0)] [(.int (x0 - p1)), (.int (8 : Int32)), (.long (((u (k + 5)).toInt64) &&& (255 : Int64))), (.long w0)])
  refine Runs.back (fun t_ k_ => XS.imul X0.here hx rfl (hb hby d1_35) rfl k_) ?_
  show Runs _ _ _ _ s₁ (mkF m 36 #[.val (.ref r0), .val (.int p1), .val (.int p2), .val (.int p3), .val (.long w0), .second, .val (.int x0)] [(.int ((8 : Int32) * (x0 - p1))), (.long (((u (k + 5)).toInt64) &&& (255 : Int64))), (.long w0)])
  refine Runs.back (fun t_ k_ => XS.lshl X0.here hx rfl (hb hby d1_36) rfl k_) ?_
  show Runs _ _ _ _ s₁ (mkF m 37 #[.val (.ref r0), .val (.int p1), .val (.int p2), .val (.int p3), .val (.long w0), .second, .val (.int x0)] [(.long ((((u (k + 5)).toInt64) &&& (255 : Int64)) <<< (((8 : Int32) * (x0 - p1)) &&& 0x3f).toInt64)), (.long w0)])
  refine Runs.back (fun t_ k_ => XS.lor X0.here hx rfl (hb hby d1_37) rfl k_) ?_
  show Runs _ _ _ _ s₁ (mkF m 38 #[.val (.ref r0), .val (.int p1), .val (.int p2), .val (.int p3), .val (.long w0), .second, .val (.int x0)] [(.long (w0 ||| ((((u (k + 5)).toInt64) &&& (255 : Int64)) <<< (((8 : Int32) * (x0 - p1)) &&& 0x3f).toInt64)))])
  refine Runs.back (fun t_ k_ => XS.lstore X0.here hx rfl (hb hby d1_38) rfl (l' := #[.val (.ref r0), .val (.int p1), .val (.int p2), .val (.int p3), .val (.long (w0 ||| ((((u (k + 5)).toInt64) &&& (255 : Int64)) <<< (((8 : Int32) * (x0 - p1)) &&& 0x3f).toInt64))), .second, .val (.int x0)]) rfl k_) ?_
  show Runs _ _ _ _ s₁ (mkF m 40 #[.val (.ref r0), .val (.int p1), .val (.int p2), .val (.int p3), .val (.long (w0 ||| ((((u (k + 5)).toInt64) &&& (255 : Int64)) <<< (((8 : Int32) * (x0 - p1)) &&& 0x3f).toInt64))), .second, .val (.int x0)] [])
  refine Runs.back (fun t_ k_ => XS.iinc X0.here hx rfl (hb hby d1_40) rfl (l' := #[.val (.ref r0), .val (.int p1), .val (.int p2), .val (.int p3), .val (.long (w0 ||| ((((u (k + 5)).toInt64) &&& (255 : Int64)) <<< (((8 : Int32) * (x0 - p1)) &&& 0x3f).toInt64))), .second, .val (.int (x0 + (-1 : Int32)))]) rfl k_) ?_
  show Runs _ _ _ _ s₁ (mkF m 43 #[.val (.ref r0), .val (.int p1), .val (.int p2), .val (.int p3), .val (.long (w0 ||| ((((u (k + 5)).toInt64) &&& (255 : Int64)) <<< (((8 : Int32) * (x0 - p1)) &&& 0x3f).toInt64))), .second, .val (.int (x0 + (-1 : Int32)))] [])
  refine Runs.back (fun t_ k_ => XS.goto X0.here hx rfl (pc0 := 43) (pc' := 12) rfl (hb hby d1_43) (by decide) (by decide) k_) ?_
  show Runs _ _ _ _ s₁ (mkF m 12 #[.val (.ref r0), .val (.int p1), .val (.int p2), .val (.int p3), .val (.long (w0 ||| ((((u (k + 5)).toInt64) &&& (255 : Int64)) <<< (((8 : Int32) * (x0 - p1)) &&& 0x3f).toInt64))), .second, .val (.int (x0 + (-1 : Int32)))] [])
  have sq1 : ((8 : Int32) * (x0 - p1)) = (40 : Int32) := by
    have d : (x0 - p1).toInt = 5 := by rw [sub32 (by omega) (by omega)]; omega
    obtain e : (x0 - p1) = (5 : Int32) := eqi.mpr (by rw [d]; decide)
    rw [e]; decide
  have hw1 : Cg ((w0 ||| ((((u (k + 5)).toInt64) &&& (255 : Int64)) <<< (((8 : Int32) * (x0 - p1)) &&& 0x3f).toInt64))).toInt (p3.toInt * 72057594037927936 + ((dl (k + 5) : Nat) : Int) * 1099511627776) := lw5 sq1 (hd (k + 5) (by omega)) hw0 (by omega)
  have hx1 : ((x0 + (-1 : Int32))).toInt = (k : Int) + 5 - 1 := by rw [add32 (by rw [show (-1 : Int32).toInt = -1 from by decide]; omega) (by rw [show (-1 : Int32).toInt = -1 from by decide]; omega), show (-1 : Int32).toInt = -1 from by decide, hx0]; omega
  clear hx0 hk0 hn0 sq1 hw0
  generalize ew1 : (w0 ||| ((((u (k + 5)).toInt64) &&& (255 : Int64)) <<< (((8 : Int32) * (x0 - p1)) &&& 0x3f).toInt64)) = w1 at hw1 ⊢
  generalize ex1 : (x0 + (-1 : Int32)) = x1 at hx1 ⊢
  clear ew1 ex1
  show Runs _ _ _ _ s₁ (mkF m 12 #[.val (.ref r0), .val (.int p1), .val (.int p2), .val (.int p3), .val (.long w1), .second, .val (.int x1)] [])
  have hn1 : ¬ x1 < 0 := by rw [lti, z32]; omega
  have hk1 : x1.toNatClampNeg = k + 4 := by have q := nat_of hn1; omega
  refine Runs.back (fun t_ k_ => XS.iload X0.here hx rfl (hb hby d1_12) rfl k_) ?_
  show Runs _ _ _ _ s₁ (mkF m 14 #[.val (.ref r0), .val (.int p1), .val (.int p2), .val (.int p3), .val (.long w1), .second, .val (.int x1)] [(.int x1)])
  refine Runs.back (fun t_ k_ => XS.iloadN X0.here hx rfl (hb hby d1_14) rfl k_) ?_
  show Runs _ _ _ _ s₁ (mkF m 15 #[.val (.ref r0), .val (.int p1), .val (.int p2), .val (.int p3), .val (.long w1), .second, .val (.int x1)] [(.int p1), (.int x1)])
  refine Runs.back (fun t_ k_ => XS.icmpNo X0.here hx rfl (hb hby d1_15) rfl (flt (show ¬ (x1 < p1) from (by rw [lti]; omega))).1 k_) ?_
  show Runs _ _ _ _ s₁ (mkF m 18 #[.val (.ref r0), .val (.int p1), .val (.int p2), .val (.int p3), .val (.long w1), .second, .val (.int x1)] [])
  refine Runs.back (fun t_ k_ => XS.lload X0.here hx rfl (hb hby d1_18) rfl k_) ?_
  show Runs _ _ _ _ s₁ (mkF m 20 #[.val (.ref r0), .val (.int p1), .val (.int p2), .val (.int p3), .val (.long w1), .second, .val (.int x1)] [(.long w1)])
  refine Runs.back (fun t_ k_ => XS.aloadN X0.here hx rfl (hb hby d1_20) rfl rfl k_) ?_
  show Runs _ _ _ _ s₁ (mkF m 21 #[.val (.ref r0), .val (.int p1), .val (.int p2), .val (.int p3), .val (.long w1), .second, .val (.int x1)] [(.ref r0), (.long w1)])
  refine Runs.back (fun t_ k_ => XS.iload X0.here hx rfl (hb hby d1_21) rfl k_) ?_
  show Runs _ _ _ _ s₁ (mkF m 23 #[.val (.ref r0), .val (.int p1), .val (.int p2), .val (.int p3), .val (.long w1), .second, .val (.int x1)] [(.int x1), (.ref r0), (.long w1)])
  obtain ⟨cl2, Ar2, S2, Hs2⟩ := id A1
  have at2 : cl2.slots[(x1).toNatClampNeg]? = some (.int (u (k + 4))) := readO Hs2 hk1 (show (k + 4) < 16 from (by first | omega | decide)) (rfl)
  refine Runs.back (fun t_ k_ => X0.baloadBytes hx (j := x1) (v := (.int (u (k + 4)))) (by rw [e0]; exact Ar2.1) (State.isArrayOf_alike hZ.alike Ar2.2.1) Ar2.2.2 (by rw [S2]; exact (inbO hn1 hk1 (show (k + 4) < 16 from (by first | omega | decide)))) at2 (g := (mkF m 23 #[.val (.ref r0), .val (.int p1), .val (.int p2), .val (.int p3), .val (.long w1), .second, .val (.int x1)] [(.int x1), (.ref r0), (.long w1)])) rfl rfl (hb hby d1_23) _ k_) ?_
  clear at2 Hs2 S2 Ar2
  show Runs _ _ _ _ s₁ (mkF m 24 #[.val (.ref r0), .val (.int p1), .val (.int p2), .val (.int p3), .val (.long w1), .second, .val (.int x1)] [(.int (u (k + 4))), (.long w1)])
  refine Runs.back (fun t_ k_ => XS.i2l X0.here hx rfl (hb hby d1_24) rfl k_) ?_
  show Runs _ _ _ _ s₁ (mkF m 25 #[.val (.ref r0), .val (.int p1), .val (.int p2), .val (.int p3), .val (.long w1), .second, .val (.int x1)] [(.long ((u (k + 4)).toInt64)), (.long w1)])
  refine Runs.back (X0.ldc2Long hx hown (mvT hZ (hw _ (List.mem_of_getElem? (i := 6) rfl))) (g := (mkF m 25 #[.val (.ref r0), .val (.int p1), .val (.int p2), .val (.int p3), .val (.long w1), .second, .val (.int x1)] [(.long ((u (k + 4)).toInt64)), (.long w1)])) rfl (hb hby d1_25)) ?_
  show Runs _ _ _ _ s₁ (mkF m 28 #[.val (.ref r0), .val (.int p1), .val (.int p2), .val (.int p3), .val (.long w1), .second, .val (.int x1)] [(.long (255 : Int64)), (.long ((u (k + 4)).toInt64)), (.long w1)])
  refine Runs.back (fun t_ k_ => XS.land X0.here hx rfl (hb hby d1_28) rfl k_) ?_
  show Runs _ _ _ _ s₁ (mkF m 29 #[.val (.ref r0), .val (.int p1), .val (.int p2), .val (.int p3), .val (.long w1), .second, .val (.int x1)] [(.long (((u (k + 4)).toInt64) &&& (255 : Int64))), (.long w1)])
  refine Runs.back (fun t_ k_ => XS.bipush X0.here hx rfl (hb hby d1_29) k_) ?_
  show Runs _ _ _ _ s₁ (mkF m 31 #[.val (.ref r0), .val (.int p1), .val (.int p2), .val (.int p3), .val (.long w1), .second, .val (.int x1)] [(.int (8 : Int32)), (.long (((u (k + 4)).toInt64) &&& (255 : Int64))), (.long w1)])
  refine Runs.back (fun t_ k_ => XS.iload X0.here hx rfl (hb hby d1_31) rfl k_) ?_
  show Runs _ _ _ _ s₁ (mkF m 33 #[.val (.ref r0), .val (.int p1), .val (.int p2), .val (.int p3), .val (.long w1), .second, .val (.int x1)] [(.int x1), (.int (8 : Int32)), (.long (((u (k + 4)).toInt64) &&& (255 : Int64))), (.long w1)])
  refine Runs.back (fun t_ k_ => XS.iloadN X0.here hx rfl (hb hby d1_33) rfl k_) ?_
  show Runs _ _ _ _ s₁ (mkF m 34 #[.val (.ref r0), .val (.int p1), .val (.int p2), .val (.int p3), .val (.long w1), .second, .val (.int x1)] [(.int p1), (.int x1), (.int (8 : Int32)), (.long (((u (k + 4)).toInt64) &&& (255 : Int64))), (.long w1)])
  refine Runs.back (fun t_ k_ => XS.isub X0.here hx rfl (hb hby d1_34) rfl k_) ?_
  show Runs _ _ _ _ s₁ (mkF m 35 #[.val (.ref r0), .val (.int p1), .val (.int p2), .val (.int p3), .val (.long w1), .second, .val (.int x1)] [(.int (x1 - p1)), (.int (8 : Int32)), (.long (((u (k + 4)).toInt64) &&& (255 : Int64))), (.long w1)])
  refine Runs.back (fun t_ k_ => XS.imul X0.here hx rfl (hb hby d1_35) rfl k_) ?_
  show Runs _ _ _ _ s₁ (mkF m 36 #[.val (.ref r0), .val (.int p1), .val (.int p2), .val (.int p3), .val (.long w1), .second, .val (.int x1)] [(.int ((8 : Int32) * (x1 - p1))), (.long (((u (k + 4)).toInt64) &&& (255 : Int64))), (.long w1)])
  refine Runs.back (fun t_ k_ => XS.lshl X0.here hx rfl (hb hby d1_36) rfl k_) ?_
  show Runs _ _ _ _ s₁ (mkF m 37 #[.val (.ref r0), .val (.int p1), .val (.int p2), .val (.int p3), .val (.long w1), .second, .val (.int x1)] [(.long ((((u (k + 4)).toInt64) &&& (255 : Int64)) <<< (((8 : Int32) * (x1 - p1)) &&& 0x3f).toInt64)), (.long w1)])
  refine Runs.back (fun t_ k_ => XS.lor X0.here hx rfl (hb hby d1_37) rfl k_) ?_
  show Runs _ _ _ _ s₁ (mkF m 38 #[.val (.ref r0), .val (.int p1), .val (.int p2), .val (.int p3), .val (.long w1), .second, .val (.int x1)] [(.long (w1 ||| ((((u (k + 4)).toInt64) &&& (255 : Int64)) <<< (((8 : Int32) * (x1 - p1)) &&& 0x3f).toInt64)))])
  refine Runs.back (fun t_ k_ => XS.lstore X0.here hx rfl (hb hby d1_38) rfl (l' := #[.val (.ref r0), .val (.int p1), .val (.int p2), .val (.int p3), .val (.long (w1 ||| ((((u (k + 4)).toInt64) &&& (255 : Int64)) <<< (((8 : Int32) * (x1 - p1)) &&& 0x3f).toInt64))), .second, .val (.int x1)]) rfl k_) ?_
  show Runs _ _ _ _ s₁ (mkF m 40 #[.val (.ref r0), .val (.int p1), .val (.int p2), .val (.int p3), .val (.long (w1 ||| ((((u (k + 4)).toInt64) &&& (255 : Int64)) <<< (((8 : Int32) * (x1 - p1)) &&& 0x3f).toInt64))), .second, .val (.int x1)] [])
  refine Runs.back (fun t_ k_ => XS.iinc X0.here hx rfl (hb hby d1_40) rfl (l' := #[.val (.ref r0), .val (.int p1), .val (.int p2), .val (.int p3), .val (.long (w1 ||| ((((u (k + 4)).toInt64) &&& (255 : Int64)) <<< (((8 : Int32) * (x1 - p1)) &&& 0x3f).toInt64))), .second, .val (.int (x1 + (-1 : Int32)))]) rfl k_) ?_
  show Runs _ _ _ _ s₁ (mkF m 43 #[.val (.ref r0), .val (.int p1), .val (.int p2), .val (.int p3), .val (.long (w1 ||| ((((u (k + 4)).toInt64) &&& (255 : Int64)) <<< (((8 : Int32) * (x1 - p1)) &&& 0x3f).toInt64))), .second, .val (.int (x1 + (-1 : Int32)))] [])
  refine Runs.back (fun t_ k_ => XS.goto X0.here hx rfl (pc0 := 43) (pc' := 12) rfl (hb hby d1_43) (by decide) (by decide) k_) ?_
  show Runs _ _ _ _ s₁ (mkF m 12 #[.val (.ref r0), .val (.int p1), .val (.int p2), .val (.int p3), .val (.long (w1 ||| ((((u (k + 4)).toInt64) &&& (255 : Int64)) <<< (((8 : Int32) * (x1 - p1)) &&& 0x3f).toInt64))), .second, .val (.int (x1 + (-1 : Int32)))] [])
  have sq2 : ((8 : Int32) * (x1 - p1)) = (32 : Int32) := by
    have d : (x1 - p1).toInt = 4 := by rw [sub32 (by omega) (by omega)]; omega
    obtain e : (x1 - p1) = (4 : Int32) := eqi.mpr (by rw [d]; decide)
    rw [e]; decide
  have hw2 : Cg ((w1 ||| ((((u (k + 4)).toInt64) &&& (255 : Int64)) <<< (((8 : Int32) * (x1 - p1)) &&& 0x3f).toInt64))).toInt (p3.toInt * 72057594037927936 + ((dl (k + 5) : Nat) : Int) * 1099511627776 + ((dl (k + 4) : Nat) : Int) * 4294967296) := lw4 sq2 (hd (k + 4) (by omega)) hw1 (by omega)
  have hx2 : ((x1 + (-1 : Int32))).toInt = (k : Int) + 4 - 1 := by rw [add32 (by rw [show (-1 : Int32).toInt = -1 from by decide]; omega) (by rw [show (-1 : Int32).toInt = -1 from by decide]; omega), show (-1 : Int32).toInt = -1 from by decide, hx1]; omega
  clear hx1 hk1 hn1 sq2 hw1
  generalize ew2 : (w1 ||| ((((u (k + 4)).toInt64) &&& (255 : Int64)) <<< (((8 : Int32) * (x1 - p1)) &&& 0x3f).toInt64)) = w2 at hw2 ⊢
  generalize ex2 : (x1 + (-1 : Int32)) = x2 at hx2 ⊢
  clear ew2 ex2
  show Runs _ _ _ _ s₁ (mkF m 12 #[.val (.ref r0), .val (.int p1), .val (.int p2), .val (.int p3), .val (.long w2), .second, .val (.int x2)] [])
  have hn2 : ¬ x2 < 0 := by rw [lti, z32]; omega
  have hk2 : x2.toNatClampNeg = k + 3 := by have q := nat_of hn2; omega
  refine Runs.back (fun t_ k_ => XS.iload X0.here hx rfl (hb hby d1_12) rfl k_) ?_
  show Runs _ _ _ _ s₁ (mkF m 14 #[.val (.ref r0), .val (.int p1), .val (.int p2), .val (.int p3), .val (.long w2), .second, .val (.int x2)] [(.int x2)])
  refine Runs.back (fun t_ k_ => XS.iloadN X0.here hx rfl (hb hby d1_14) rfl k_) ?_
  show Runs _ _ _ _ s₁ (mkF m 15 #[.val (.ref r0), .val (.int p1), .val (.int p2), .val (.int p3), .val (.long w2), .second, .val (.int x2)] [(.int p1), (.int x2)])
  refine Runs.back (fun t_ k_ => XS.icmpNo X0.here hx rfl (hb hby d1_15) rfl (flt (show ¬ (x2 < p1) from (by rw [lti]; omega))).1 k_) ?_
  show Runs _ _ _ _ s₁ (mkF m 18 #[.val (.ref r0), .val (.int p1), .val (.int p2), .val (.int p3), .val (.long w2), .second, .val (.int x2)] [])
  refine Runs.back (fun t_ k_ => XS.lload X0.here hx rfl (hb hby d1_18) rfl k_) ?_
  show Runs _ _ _ _ s₁ (mkF m 20 #[.val (.ref r0), .val (.int p1), .val (.int p2), .val (.int p3), .val (.long w2), .second, .val (.int x2)] [(.long w2)])
  refine Runs.back (fun t_ k_ => XS.aloadN X0.here hx rfl (hb hby d1_20) rfl rfl k_) ?_
  show Runs _ _ _ _ s₁ (mkF m 21 #[.val (.ref r0), .val (.int p1), .val (.int p2), .val (.int p3), .val (.long w2), .second, .val (.int x2)] [(.ref r0), (.long w2)])
  refine Runs.back (fun t_ k_ => XS.iload X0.here hx rfl (hb hby d1_21) rfl k_) ?_
  show Runs _ _ _ _ s₁ (mkF m 23 #[.val (.ref r0), .val (.int p1), .val (.int p2), .val (.int p3), .val (.long w2), .second, .val (.int x2)] [(.int x2), (.ref r0), (.long w2)])
  obtain ⟨cl3, Ar3, S3, Hs3⟩ := id A1
  have at3 : cl3.slots[(x2).toNatClampNeg]? = some (.int (u (k + 3))) := readO Hs3 hk2 (show (k + 3) < 16 from (by first | omega | decide)) (rfl)
  refine Runs.back (fun t_ k_ => X0.baloadBytes hx (j := x2) (v := (.int (u (k + 3)))) (by rw [e0]; exact Ar3.1) (State.isArrayOf_alike hZ.alike Ar3.2.1) Ar3.2.2 (by rw [S3]; exact (inbO hn2 hk2 (show (k + 3) < 16 from (by first | omega | decide)))) at3 (g := (mkF m 23 #[.val (.ref r0), .val (.int p1), .val (.int p2), .val (.int p3), .val (.long w2), .second, .val (.int x2)] [(.int x2), (.ref r0), (.long w2)])) rfl rfl (hb hby d1_23) _ k_) ?_
  clear at3 Hs3 S3 Ar3
  show Runs _ _ _ _ s₁ (mkF m 24 #[.val (.ref r0), .val (.int p1), .val (.int p2), .val (.int p3), .val (.long w2), .second, .val (.int x2)] [(.int (u (k + 3))), (.long w2)])
  refine Runs.back (fun t_ k_ => XS.i2l X0.here hx rfl (hb hby d1_24) rfl k_) ?_
  show Runs _ _ _ _ s₁ (mkF m 25 #[.val (.ref r0), .val (.int p1), .val (.int p2), .val (.int p3), .val (.long w2), .second, .val (.int x2)] [(.long ((u (k + 3)).toInt64)), (.long w2)])
  refine Runs.back (X0.ldc2Long hx hown (mvT hZ (hw _ (List.mem_of_getElem? (i := 6) rfl))) (g := (mkF m 25 #[.val (.ref r0), .val (.int p1), .val (.int p2), .val (.int p3), .val (.long w2), .second, .val (.int x2)] [(.long ((u (k + 3)).toInt64)), (.long w2)])) rfl (hb hby d1_25)) ?_
  show Runs _ _ _ _ s₁ (mkF m 28 #[.val (.ref r0), .val (.int p1), .val (.int p2), .val (.int p3), .val (.long w2), .second, .val (.int x2)] [(.long (255 : Int64)), (.long ((u (k + 3)).toInt64)), (.long w2)])
  refine Runs.back (fun t_ k_ => XS.land X0.here hx rfl (hb hby d1_28) rfl k_) ?_
  show Runs _ _ _ _ s₁ (mkF m 29 #[.val (.ref r0), .val (.int p1), .val (.int p2), .val (.int p3), .val (.long w2), .second, .val (.int x2)] [(.long (((u (k + 3)).toInt64) &&& (255 : Int64))), (.long w2)])
  refine Runs.back (fun t_ k_ => XS.bipush X0.here hx rfl (hb hby d1_29) k_) ?_
  show Runs _ _ _ _ s₁ (mkF m 31 #[.val (.ref r0), .val (.int p1), .val (.int p2), .val (.int p3), .val (.long w2), .second, .val (.int x2)] [(.int (8 : Int32)), (.long (((u (k + 3)).toInt64) &&& (255 : Int64))), (.long w2)])
  refine Runs.back (fun t_ k_ => XS.iload X0.here hx rfl (hb hby d1_31) rfl k_) ?_
  show Runs _ _ _ _ s₁ (mkF m 33 #[.val (.ref r0), .val (.int p1), .val (.int p2), .val (.int p3), .val (.long w2), .second, .val (.int x2)] [(.int x2), (.int (8 : Int32)), (.long (((u (k + 3)).toInt64) &&& (255 : Int64))), (.long w2)])
  refine Runs.back (fun t_ k_ => XS.iloadN X0.here hx rfl (hb hby d1_33) rfl k_) ?_
  show Runs _ _ _ _ s₁ (mkF m 34 #[.val (.ref r0), .val (.int p1), .val (.int p2), .val (.int p3), .val (.long w2), .second, .val (.int x2)] [(.int p1), (.int x2), (.int (8 : Int32)), (.long (((u (k + 3)).toInt64) &&& (255 : Int64))), (.long w2)])
  refine Runs.back (fun t_ k_ => XS.isub X0.here hx rfl (hb hby d1_34) rfl k_) ?_
  show Runs _ _ _ _ s₁ (mkF m 35 #[.val (.ref r0), .val (.int p1), .val (.int p2), .val (.int p3), .val (.long w2), .second, .val (.int x2)] [(.int (x2 - p1)), (.int (8 : Int32)), (.long (((u (k + 3)).toInt64) &&& (255 : Int64))), (.long w2)])
  refine Runs.back (fun t_ k_ => XS.imul X0.here hx rfl (hb hby d1_35) rfl k_) ?_
  show Runs _ _ _ _ s₁ (mkF m 36 #[.val (.ref r0), .val (.int p1), .val (.int p2), .val (.int p3), .val (.long w2), .second, .val (.int x2)] [(.int ((8 : Int32) * (x2 - p1))), (.long (((u (k + 3)).toInt64) &&& (255 : Int64))), (.long w2)])
  refine Runs.back (fun t_ k_ => XS.lshl X0.here hx rfl (hb hby d1_36) rfl k_) ?_
  show Runs _ _ _ _ s₁ (mkF m 37 #[.val (.ref r0), .val (.int p1), .val (.int p2), .val (.int p3), .val (.long w2), .second, .val (.int x2)] [(.long ((((u (k + 3)).toInt64) &&& (255 : Int64)) <<< (((8 : Int32) * (x2 - p1)) &&& 0x3f).toInt64)), (.long w2)])
  refine Runs.back (fun t_ k_ => XS.lor X0.here hx rfl (hb hby d1_37) rfl k_) ?_
  show Runs _ _ _ _ s₁ (mkF m 38 #[.val (.ref r0), .val (.int p1), .val (.int p2), .val (.int p3), .val (.long w2), .second, .val (.int x2)] [(.long (w2 ||| ((((u (k + 3)).toInt64) &&& (255 : Int64)) <<< (((8 : Int32) * (x2 - p1)) &&& 0x3f).toInt64)))])
  refine Runs.back (fun t_ k_ => XS.lstore X0.here hx rfl (hb hby d1_38) rfl (l' := #[.val (.ref r0), .val (.int p1), .val (.int p2), .val (.int p3), .val (.long (w2 ||| ((((u (k + 3)).toInt64) &&& (255 : Int64)) <<< (((8 : Int32) * (x2 - p1)) &&& 0x3f).toInt64))), .second, .val (.int x2)]) rfl k_) ?_
  show Runs _ _ _ _ s₁ (mkF m 40 #[.val (.ref r0), .val (.int p1), .val (.int p2), .val (.int p3), .val (.long (w2 ||| ((((u (k + 3)).toInt64) &&& (255 : Int64)) <<< (((8 : Int32) * (x2 - p1)) &&& 0x3f).toInt64))), .second, .val (.int x2)] [])
  refine Runs.back (fun t_ k_ => XS.iinc X0.here hx rfl (hb hby d1_40) rfl (l' := #[.val (.ref r0), .val (.int p1), .val (.int p2), .val (.int p3), .val (.long (w2 ||| ((((u (k + 3)).toInt64) &&& (255 : Int64)) <<< (((8 : Int32) * (x2 - p1)) &&& 0x3f).toInt64))), .second, .val (.int (x2 + (-1 : Int32)))]) rfl k_) ?_
  show Runs _ _ _ _ s₁ (mkF m 43 #[.val (.ref r0), .val (.int p1), .val (.int p2), .val (.int p3), .val (.long (w2 ||| ((((u (k + 3)).toInt64) &&& (255 : Int64)) <<< (((8 : Int32) * (x2 - p1)) &&& 0x3f).toInt64))), .second, .val (.int (x2 + (-1 : Int32)))] [])
  refine Runs.back (fun t_ k_ => XS.goto X0.here hx rfl (pc0 := 43) (pc' := 12) rfl (hb hby d1_43) (by decide) (by decide) k_) ?_
  show Runs _ _ _ _ s₁ (mkF m 12 #[.val (.ref r0), .val (.int p1), .val (.int p2), .val (.int p3), .val (.long (w2 ||| ((((u (k + 3)).toInt64) &&& (255 : Int64)) <<< (((8 : Int32) * (x2 - p1)) &&& 0x3f).toInt64))), .second, .val (.int (x2 + (-1 : Int32)))] [])
  have sq3 : ((8 : Int32) * (x2 - p1)) = (24 : Int32) := by
    have d : (x2 - p1).toInt = 3 := by rw [sub32 (by omega) (by omega)]; omega
    obtain e : (x2 - p1) = (3 : Int32) := eqi.mpr (by rw [d]; decide)
    rw [e]; decide
  have hw3 : Cg ((w2 ||| ((((u (k + 3)).toInt64) &&& (255 : Int64)) <<< (((8 : Int32) * (x2 - p1)) &&& 0x3f).toInt64))).toInt (p3.toInt * 72057594037927936 + ((dl (k + 5) : Nat) : Int) * 1099511627776 + ((dl (k + 4) : Nat) : Int) * 4294967296 + ((dl (k + 3) : Nat) : Int) * 16777216) := lw3 sq3 (hd (k + 3) (by omega)) hw2 (by omega)
  have hx3 : ((x2 + (-1 : Int32))).toInt = (k : Int) + 3 - 1 := by rw [add32 (by rw [show (-1 : Int32).toInt = -1 from by decide]; omega) (by rw [show (-1 : Int32).toInt = -1 from by decide]; omega), show (-1 : Int32).toInt = -1 from by decide, hx2]; omega
  clear hx2 hk2 hn2 sq3 hw2
  generalize ew3 : (w2 ||| ((((u (k + 3)).toInt64) &&& (255 : Int64)) <<< (((8 : Int32) * (x2 - p1)) &&& 0x3f).toInt64)) = w3 at hw3 ⊢
  generalize ex3 : (x2 + (-1 : Int32)) = x3 at hx3 ⊢
  clear ew3 ex3
  show Runs _ _ _ _ s₁ (mkF m 12 #[.val (.ref r0), .val (.int p1), .val (.int p2), .val (.int p3), .val (.long w3), .second, .val (.int x3)] [])
  have hn3 : ¬ x3 < 0 := by rw [lti, z32]; omega
  have hk3 : x3.toNatClampNeg = k + 2 := by have q := nat_of hn3; omega
  refine Runs.back (fun t_ k_ => XS.iload X0.here hx rfl (hb hby d1_12) rfl k_) ?_
  show Runs _ _ _ _ s₁ (mkF m 14 #[.val (.ref r0), .val (.int p1), .val (.int p2), .val (.int p3), .val (.long w3), .second, .val (.int x3)] [(.int x3)])
  refine Runs.back (fun t_ k_ => XS.iloadN X0.here hx rfl (hb hby d1_14) rfl k_) ?_
  show Runs _ _ _ _ s₁ (mkF m 15 #[.val (.ref r0), .val (.int p1), .val (.int p2), .val (.int p3), .val (.long w3), .second, .val (.int x3)] [(.int p1), (.int x3)])
  refine Runs.back (fun t_ k_ => XS.icmpNo X0.here hx rfl (hb hby d1_15) rfl (flt (show ¬ (x3 < p1) from (by rw [lti]; omega))).1 k_) ?_
  show Runs _ _ _ _ s₁ (mkF m 18 #[.val (.ref r0), .val (.int p1), .val (.int p2), .val (.int p3), .val (.long w3), .second, .val (.int x3)] [])
  refine Runs.back (fun t_ k_ => XS.lload X0.here hx rfl (hb hby d1_18) rfl k_) ?_
  show Runs _ _ _ _ s₁ (mkF m 20 #[.val (.ref r0), .val (.int p1), .val (.int p2), .val (.int p3), .val (.long w3), .second, .val (.int x3)] [(.long w3)])
  refine Runs.back (fun t_ k_ => XS.aloadN X0.here hx rfl (hb hby d1_20) rfl rfl k_) ?_
  show Runs _ _ _ _ s₁ (mkF m 21 #[.val (.ref r0), .val (.int p1), .val (.int p2), .val (.int p3), .val (.long w3), .second, .val (.int x3)] [(.ref r0), (.long w3)])
  refine Runs.back (fun t_ k_ => XS.iload X0.here hx rfl (hb hby d1_21) rfl k_) ?_
  show Runs _ _ _ _ s₁ (mkF m 23 #[.val (.ref r0), .val (.int p1), .val (.int p2), .val (.int p3), .val (.long w3), .second, .val (.int x3)] [(.int x3), (.ref r0), (.long w3)])
  obtain ⟨cl4, Ar4, S4, Hs4⟩ := id A1
  have at4 : cl4.slots[(x3).toNatClampNeg]? = some (.int (u (k + 2))) := readO Hs4 hk3 (show (k + 2) < 16 from (by first | omega | decide)) (rfl)
  refine Runs.back (fun t_ k_ => X0.baloadBytes hx (j := x3) (v := (.int (u (k + 2)))) (by rw [e0]; exact Ar4.1) (State.isArrayOf_alike hZ.alike Ar4.2.1) Ar4.2.2 (by rw [S4]; exact (inbO hn3 hk3 (show (k + 2) < 16 from (by first | omega | decide)))) at4 (g := (mkF m 23 #[.val (.ref r0), .val (.int p1), .val (.int p2), .val (.int p3), .val (.long w3), .second, .val (.int x3)] [(.int x3), (.ref r0), (.long w3)])) rfl rfl (hb hby d1_23) _ k_) ?_
  clear at4 Hs4 S4 Ar4
  show Runs _ _ _ _ s₁ (mkF m 24 #[.val (.ref r0), .val (.int p1), .val (.int p2), .val (.int p3), .val (.long w3), .second, .val (.int x3)] [(.int (u (k + 2))), (.long w3)])
  refine Runs.back (fun t_ k_ => XS.i2l X0.here hx rfl (hb hby d1_24) rfl k_) ?_
  show Runs _ _ _ _ s₁ (mkF m 25 #[.val (.ref r0), .val (.int p1), .val (.int p2), .val (.int p3), .val (.long w3), .second, .val (.int x3)] [(.long ((u (k + 2)).toInt64)), (.long w3)])
  refine Runs.back (X0.ldc2Long hx hown (mvT hZ (hw _ (List.mem_of_getElem? (i := 6) rfl))) (g := (mkF m 25 #[.val (.ref r0), .val (.int p1), .val (.int p2), .val (.int p3), .val (.long w3), .second, .val (.int x3)] [(.long ((u (k + 2)).toInt64)), (.long w3)])) rfl (hb hby d1_25)) ?_
  show Runs _ _ _ _ s₁ (mkF m 28 #[.val (.ref r0), .val (.int p1), .val (.int p2), .val (.int p3), .val (.long w3), .second, .val (.int x3)] [(.long (255 : Int64)), (.long ((u (k + 2)).toInt64)), (.long w3)])
  refine Runs.back (fun t_ k_ => XS.land X0.here hx rfl (hb hby d1_28) rfl k_) ?_
  show Runs _ _ _ _ s₁ (mkF m 29 #[.val (.ref r0), .val (.int p1), .val (.int p2), .val (.int p3), .val (.long w3), .second, .val (.int x3)] [(.long (((u (k + 2)).toInt64) &&& (255 : Int64))), (.long w3)])
  refine Runs.back (fun t_ k_ => XS.bipush X0.here hx rfl (hb hby d1_29) k_) ?_
  show Runs _ _ _ _ s₁ (mkF m 31 #[.val (.ref r0), .val (.int p1), .val (.int p2), .val (.int p3), .val (.long w3), .second, .val (.int x3)] [(.int (8 : Int32)), (.long (((u (k + 2)).toInt64) &&& (255 : Int64))), (.long w3)])
  refine Runs.back (fun t_ k_ => XS.iload X0.here hx rfl (hb hby d1_31) rfl k_) ?_
  show Runs _ _ _ _ s₁ (mkF m 33 #[.val (.ref r0), .val (.int p1), .val (.int p2), .val (.int p3), .val (.long w3), .second, .val (.int x3)] [(.int x3), (.int (8 : Int32)), (.long (((u (k + 2)).toInt64) &&& (255 : Int64))), (.long w3)])
  refine Runs.back (fun t_ k_ => XS.iloadN X0.here hx rfl (hb hby d1_33) rfl k_) ?_
  show Runs _ _ _ _ s₁ (mkF m 34 #[.val (.ref r0), .val (.int p1), .val (.int p2), .val (.int p3), .val (.long w3), .second, .val (.int x3)] [(.int p1), (.int x3), (.int (8 : Int32)), (.long (((u (k + 2)).toInt64) &&& (255 : Int64))), (.long w3)])
  refine Runs.back (fun t_ k_ => XS.isub X0.here hx rfl (hb hby d1_34) rfl k_) ?_
  show Runs _ _ _ _ s₁ (mkF m 35 #[.val (.ref r0), .val (.int p1), .val (.int p2), .val (.int p3), .val (.long w3), .second, .val (.int x3)] [(.int (x3 - p1)), (.int (8 : Int32)), (.long (((u (k + 2)).toInt64) &&& (255 : Int64))), (.long w3)])
  refine Runs.back (fun t_ k_ => XS.imul X0.here hx rfl (hb hby d1_35) rfl k_) ?_
  show Runs _ _ _ _ s₁ (mkF m 36 #[.val (.ref r0), .val (.int p1), .val (.int p2), .val (.int p3), .val (.long w3), .second, .val (.int x3)] [(.int ((8 : Int32) * (x3 - p1))), (.long (((u (k + 2)).toInt64) &&& (255 : Int64))), (.long w3)])
  refine Runs.back (fun t_ k_ => XS.lshl X0.here hx rfl (hb hby d1_36) rfl k_) ?_
  show Runs _ _ _ _ s₁ (mkF m 37 #[.val (.ref r0), .val (.int p1), .val (.int p2), .val (.int p3), .val (.long w3), .second, .val (.int x3)] [(.long ((((u (k + 2)).toInt64) &&& (255 : Int64)) <<< (((8 : Int32) * (x3 - p1)) &&& 0x3f).toInt64)), (.long w3)])
  refine Runs.back (fun t_ k_ => XS.lor X0.here hx rfl (hb hby d1_37) rfl k_) ?_
  show Runs _ _ _ _ s₁ (mkF m 38 #[.val (.ref r0), .val (.int p1), .val (.int p2), .val (.int p3), .val (.long w3), .second, .val (.int x3)] [(.long (w3 ||| ((((u (k + 2)).toInt64) &&& (255 : Int64)) <<< (((8 : Int32) * (x3 - p1)) &&& 0x3f).toInt64)))])
  refine Runs.back (fun t_ k_ => XS.lstore X0.here hx rfl (hb hby d1_38) rfl (l' := #[.val (.ref r0), .val (.int p1), .val (.int p2), .val (.int p3), .val (.long (w3 ||| ((((u (k + 2)).toInt64) &&& (255 : Int64)) <<< (((8 : Int32) * (x3 - p1)) &&& 0x3f).toInt64))), .second, .val (.int x3)]) rfl k_) ?_
  show Runs _ _ _ _ s₁ (mkF m 40 #[.val (.ref r0), .val (.int p1), .val (.int p2), .val (.int p3), .val (.long (w3 ||| ((((u (k + 2)).toInt64) &&& (255 : Int64)) <<< (((8 : Int32) * (x3 - p1)) &&& 0x3f).toInt64))), .second, .val (.int x3)] [])
  refine Runs.back (fun t_ k_ => XS.iinc X0.here hx rfl (hb hby d1_40) rfl (l' := #[.val (.ref r0), .val (.int p1), .val (.int p2), .val (.int p3), .val (.long (w3 ||| ((((u (k + 2)).toInt64) &&& (255 : Int64)) <<< (((8 : Int32) * (x3 - p1)) &&& 0x3f).toInt64))), .second, .val (.int (x3 + (-1 : Int32)))]) rfl k_) ?_
  show Runs _ _ _ _ s₁ (mkF m 43 #[.val (.ref r0), .val (.int p1), .val (.int p2), .val (.int p3), .val (.long (w3 ||| ((((u (k + 2)).toInt64) &&& (255 : Int64)) <<< (((8 : Int32) * (x3 - p1)) &&& 0x3f).toInt64))), .second, .val (.int (x3 + (-1 : Int32)))] [])
  refine Runs.back (fun t_ k_ => XS.goto X0.here hx rfl (pc0 := 43) (pc' := 12) rfl (hb hby d1_43) (by decide) (by decide) k_) ?_
  show Runs _ _ _ _ s₁ (mkF m 12 #[.val (.ref r0), .val (.int p1), .val (.int p2), .val (.int p3), .val (.long (w3 ||| ((((u (k + 2)).toInt64) &&& (255 : Int64)) <<< (((8 : Int32) * (x3 - p1)) &&& 0x3f).toInt64))), .second, .val (.int (x3 + (-1 : Int32)))] [])
  have sq4 : ((8 : Int32) * (x3 - p1)) = (16 : Int32) := by
    have d : (x3 - p1).toInt = 2 := by rw [sub32 (by omega) (by omega)]; omega
    obtain e : (x3 - p1) = (2 : Int32) := eqi.mpr (by rw [d]; decide)
    rw [e]; decide
  have hw4 : Cg ((w3 ||| ((((u (k + 2)).toInt64) &&& (255 : Int64)) <<< (((8 : Int32) * (x3 - p1)) &&& 0x3f).toInt64))).toInt (p3.toInt * 72057594037927936 + ((dl (k + 5) : Nat) : Int) * 1099511627776 + ((dl (k + 4) : Nat) : Int) * 4294967296 + ((dl (k + 3) : Nat) : Int) * 16777216 + ((dl (k + 2) : Nat) : Int) * 65536) := lw2 sq4 (hd (k + 2) (by omega)) hw3 (by omega)
  have hx4 : ((x3 + (-1 : Int32))).toInt = (k : Int) + 2 - 1 := by rw [add32 (by rw [show (-1 : Int32).toInt = -1 from by decide]; omega) (by rw [show (-1 : Int32).toInt = -1 from by decide]; omega), show (-1 : Int32).toInt = -1 from by decide, hx3]; omega
  clear hx3 hk3 hn3 sq4 hw3
  generalize ew4 : (w3 ||| ((((u (k + 2)).toInt64) &&& (255 : Int64)) <<< (((8 : Int32) * (x3 - p1)) &&& 0x3f).toInt64)) = w4 at hw4 ⊢
  generalize ex4 : (x3 + (-1 : Int32)) = x4 at hx4 ⊢
  clear ew4 ex4
  show Runs _ _ _ _ s₁ (mkF m 12 #[.val (.ref r0), .val (.int p1), .val (.int p2), .val (.int p3), .val (.long w4), .second, .val (.int x4)] [])
  have hn4 : ¬ x4 < 0 := by rw [lti, z32]; omega
  have hk4 : x4.toNatClampNeg = k + 1 := by have q := nat_of hn4; omega
  refine Runs.back (fun t_ k_ => XS.iload X0.here hx rfl (hb hby d1_12) rfl k_) ?_
  show Runs _ _ _ _ s₁ (mkF m 14 #[.val (.ref r0), .val (.int p1), .val (.int p2), .val (.int p3), .val (.long w4), .second, .val (.int x4)] [(.int x4)])
  refine Runs.back (fun t_ k_ => XS.iloadN X0.here hx rfl (hb hby d1_14) rfl k_) ?_
  show Runs _ _ _ _ s₁ (mkF m 15 #[.val (.ref r0), .val (.int p1), .val (.int p2), .val (.int p3), .val (.long w4), .second, .val (.int x4)] [(.int p1), (.int x4)])
  refine Runs.back (fun t_ k_ => XS.icmpNo X0.here hx rfl (hb hby d1_15) rfl (flt (show ¬ (x4 < p1) from (by rw [lti]; omega))).1 k_) ?_
  show Runs _ _ _ _ s₁ (mkF m 18 #[.val (.ref r0), .val (.int p1), .val (.int p2), .val (.int p3), .val (.long w4), .second, .val (.int x4)] [])
  refine Runs.back (fun t_ k_ => XS.lload X0.here hx rfl (hb hby d1_18) rfl k_) ?_
  show Runs _ _ _ _ s₁ (mkF m 20 #[.val (.ref r0), .val (.int p1), .val (.int p2), .val (.int p3), .val (.long w4), .second, .val (.int x4)] [(.long w4)])
  refine Runs.back (fun t_ k_ => XS.aloadN X0.here hx rfl (hb hby d1_20) rfl rfl k_) ?_
  show Runs _ _ _ _ s₁ (mkF m 21 #[.val (.ref r0), .val (.int p1), .val (.int p2), .val (.int p3), .val (.long w4), .second, .val (.int x4)] [(.ref r0), (.long w4)])
  refine Runs.back (fun t_ k_ => XS.iload X0.here hx rfl (hb hby d1_21) rfl k_) ?_
  show Runs _ _ _ _ s₁ (mkF m 23 #[.val (.ref r0), .val (.int p1), .val (.int p2), .val (.int p3), .val (.long w4), .second, .val (.int x4)] [(.int x4), (.ref r0), (.long w4)])
  obtain ⟨cl5, Ar5, S5, Hs5⟩ := id A1
  have at5 : cl5.slots[(x4).toNatClampNeg]? = some (.int (u (k + 1))) := readO Hs5 hk4 (show (k + 1) < 16 from (by first | omega | decide)) (rfl)
  refine Runs.back (fun t_ k_ => X0.baloadBytes hx (j := x4) (v := (.int (u (k + 1)))) (by rw [e0]; exact Ar5.1) (State.isArrayOf_alike hZ.alike Ar5.2.1) Ar5.2.2 (by rw [S5]; exact (inbO hn4 hk4 (show (k + 1) < 16 from (by first | omega | decide)))) at5 (g := (mkF m 23 #[.val (.ref r0), .val (.int p1), .val (.int p2), .val (.int p3), .val (.long w4), .second, .val (.int x4)] [(.int x4), (.ref r0), (.long w4)])) rfl rfl (hb hby d1_23) _ k_) ?_
  clear at5 Hs5 S5 Ar5
  show Runs _ _ _ _ s₁ (mkF m 24 #[.val (.ref r0), .val (.int p1), .val (.int p2), .val (.int p3), .val (.long w4), .second, .val (.int x4)] [(.int (u (k + 1))), (.long w4)])
  refine Runs.back (fun t_ k_ => XS.i2l X0.here hx rfl (hb hby d1_24) rfl k_) ?_
  show Runs _ _ _ _ s₁ (mkF m 25 #[.val (.ref r0), .val (.int p1), .val (.int p2), .val (.int p3), .val (.long w4), .second, .val (.int x4)] [(.long ((u (k + 1)).toInt64)), (.long w4)])
  refine Runs.back (X0.ldc2Long hx hown (mvT hZ (hw _ (List.mem_of_getElem? (i := 6) rfl))) (g := (mkF m 25 #[.val (.ref r0), .val (.int p1), .val (.int p2), .val (.int p3), .val (.long w4), .second, .val (.int x4)] [(.long ((u (k + 1)).toInt64)), (.long w4)])) rfl (hb hby d1_25)) ?_
  show Runs _ _ _ _ s₁ (mkF m 28 #[.val (.ref r0), .val (.int p1), .val (.int p2), .val (.int p3), .val (.long w4), .second, .val (.int x4)] [(.long (255 : Int64)), (.long ((u (k + 1)).toInt64)), (.long w4)])
  refine Runs.back (fun t_ k_ => XS.land X0.here hx rfl (hb hby d1_28) rfl k_) ?_
  show Runs _ _ _ _ s₁ (mkF m 29 #[.val (.ref r0), .val (.int p1), .val (.int p2), .val (.int p3), .val (.long w4), .second, .val (.int x4)] [(.long (((u (k + 1)).toInt64) &&& (255 : Int64))), (.long w4)])
  refine Runs.back (fun t_ k_ => XS.bipush X0.here hx rfl (hb hby d1_29) k_) ?_
  show Runs _ _ _ _ s₁ (mkF m 31 #[.val (.ref r0), .val (.int p1), .val (.int p2), .val (.int p3), .val (.long w4), .second, .val (.int x4)] [(.int (8 : Int32)), (.long (((u (k + 1)).toInt64) &&& (255 : Int64))), (.long w4)])
  refine Runs.back (fun t_ k_ => XS.iload X0.here hx rfl (hb hby d1_31) rfl k_) ?_
  show Runs _ _ _ _ s₁ (mkF m 33 #[.val (.ref r0), .val (.int p1), .val (.int p2), .val (.int p3), .val (.long w4), .second, .val (.int x4)] [(.int x4), (.int (8 : Int32)), (.long (((u (k + 1)).toInt64) &&& (255 : Int64))), (.long w4)])
  refine Runs.back (fun t_ k_ => XS.iloadN X0.here hx rfl (hb hby d1_33) rfl k_) ?_
  show Runs _ _ _ _ s₁ (mkF m 34 #[.val (.ref r0), .val (.int p1), .val (.int p2), .val (.int p3), .val (.long w4), .second, .val (.int x4)] [(.int p1), (.int x4), (.int (8 : Int32)), (.long (((u (k + 1)).toInt64) &&& (255 : Int64))), (.long w4)])
  refine Runs.back (fun t_ k_ => XS.isub X0.here hx rfl (hb hby d1_34) rfl k_) ?_
  show Runs _ _ _ _ s₁ (mkF m 35 #[.val (.ref r0), .val (.int p1), .val (.int p2), .val (.int p3), .val (.long w4), .second, .val (.int x4)] [(.int (x4 - p1)), (.int (8 : Int32)), (.long (((u (k + 1)).toInt64) &&& (255 : Int64))), (.long w4)])
  refine Runs.back (fun t_ k_ => XS.imul X0.here hx rfl (hb hby d1_35) rfl k_) ?_
  show Runs _ _ _ _ s₁ (mkF m 36 #[.val (.ref r0), .val (.int p1), .val (.int p2), .val (.int p3), .val (.long w4), .second, .val (.int x4)] [(.int ((8 : Int32) * (x4 - p1))), (.long (((u (k + 1)).toInt64) &&& (255 : Int64))), (.long w4)])
  refine Runs.back (fun t_ k_ => XS.lshl X0.here hx rfl (hb hby d1_36) rfl k_) ?_
  show Runs _ _ _ _ s₁ (mkF m 37 #[.val (.ref r0), .val (.int p1), .val (.int p2), .val (.int p3), .val (.long w4), .second, .val (.int x4)] [(.long ((((u (k + 1)).toInt64) &&& (255 : Int64)) <<< (((8 : Int32) * (x4 - p1)) &&& 0x3f).toInt64)), (.long w4)])
  refine Runs.back (fun t_ k_ => XS.lor X0.here hx rfl (hb hby d1_37) rfl k_) ?_
  show Runs _ _ _ _ s₁ (mkF m 38 #[.val (.ref r0), .val (.int p1), .val (.int p2), .val (.int p3), .val (.long w4), .second, .val (.int x4)] [(.long (w4 ||| ((((u (k + 1)).toInt64) &&& (255 : Int64)) <<< (((8 : Int32) * (x4 - p1)) &&& 0x3f).toInt64)))])
  refine Runs.back (fun t_ k_ => XS.lstore X0.here hx rfl (hb hby d1_38) rfl (l' := #[.val (.ref r0), .val (.int p1), .val (.int p2), .val (.int p3), .val (.long (w4 ||| ((((u (k + 1)).toInt64) &&& (255 : Int64)) <<< (((8 : Int32) * (x4 - p1)) &&& 0x3f).toInt64))), .second, .val (.int x4)]) rfl k_) ?_
  show Runs _ _ _ _ s₁ (mkF m 40 #[.val (.ref r0), .val (.int p1), .val (.int p2), .val (.int p3), .val (.long (w4 ||| ((((u (k + 1)).toInt64) &&& (255 : Int64)) <<< (((8 : Int32) * (x4 - p1)) &&& 0x3f).toInt64))), .second, .val (.int x4)] [])
  refine Runs.back (fun t_ k_ => XS.iinc X0.here hx rfl (hb hby d1_40) rfl (l' := #[.val (.ref r0), .val (.int p1), .val (.int p2), .val (.int p3), .val (.long (w4 ||| ((((u (k + 1)).toInt64) &&& (255 : Int64)) <<< (((8 : Int32) * (x4 - p1)) &&& 0x3f).toInt64))), .second, .val (.int (x4 + (-1 : Int32)))]) rfl k_) ?_
  show Runs _ _ _ _ s₁ (mkF m 43 #[.val (.ref r0), .val (.int p1), .val (.int p2), .val (.int p3), .val (.long (w4 ||| ((((u (k + 1)).toInt64) &&& (255 : Int64)) <<< (((8 : Int32) * (x4 - p1)) &&& 0x3f).toInt64))), .second, .val (.int (x4 + (-1 : Int32)))] [])
  refine Runs.back (fun t_ k_ => XS.goto X0.here hx rfl (pc0 := 43) (pc' := 12) rfl (hb hby d1_43) (by decide) (by decide) k_) ?_
  show Runs _ _ _ _ s₁ (mkF m 12 #[.val (.ref r0), .val (.int p1), .val (.int p2), .val (.int p3), .val (.long (w4 ||| ((((u (k + 1)).toInt64) &&& (255 : Int64)) <<< (((8 : Int32) * (x4 - p1)) &&& 0x3f).toInt64))), .second, .val (.int (x4 + (-1 : Int32)))] [])
  have sq5 : ((8 : Int32) * (x4 - p1)) = (8 : Int32) := by
    have d : (x4 - p1).toInt = 1 := by rw [sub32 (by omega) (by omega)]; omega
    obtain e : (x4 - p1) = (1 : Int32) := eqi.mpr (by rw [d]; decide)
    rw [e]; decide
  have hw5 : Cg ((w4 ||| ((((u (k + 1)).toInt64) &&& (255 : Int64)) <<< (((8 : Int32) * (x4 - p1)) &&& 0x3f).toInt64))).toInt (p3.toInt * 72057594037927936 + ((dl (k + 5) : Nat) : Int) * 1099511627776 + ((dl (k + 4) : Nat) : Int) * 4294967296 + ((dl (k + 3) : Nat) : Int) * 16777216 + ((dl (k + 2) : Nat) : Int) * 65536 + ((dl (k + 1) : Nat) : Int) * 256) := lw1 sq5 (hd (k + 1) (by omega)) hw4 (by omega)
  have hx5 : ((x4 + (-1 : Int32))).toInt = (k : Int) + 1 - 1 := by rw [add32 (by rw [show (-1 : Int32).toInt = -1 from by decide]; omega) (by rw [show (-1 : Int32).toInt = -1 from by decide]; omega), show (-1 : Int32).toInt = -1 from by decide, hx4]; omega
  clear hx4 hk4 hn4 sq5 hw4
  generalize ew5 : (w4 ||| ((((u (k + 1)).toInt64) &&& (255 : Int64)) <<< (((8 : Int32) * (x4 - p1)) &&& 0x3f).toInt64)) = w5 at hw5 ⊢
  generalize ex5 : (x4 + (-1 : Int32)) = x5 at hx5 ⊢
  clear ew5 ex5
  show Runs _ _ _ _ s₁ (mkF m 12 #[.val (.ref r0), .val (.int p1), .val (.int p2), .val (.int p3), .val (.long w5), .second, .val (.int x5)] [])
  have hn5 : ¬ x5 < 0 := by rw [lti, z32]; omega
  have hk5 : x5.toNatClampNeg = k + 0 := by have q := nat_of hn5; omega
  refine Runs.back (fun t_ k_ => XS.iload X0.here hx rfl (hb hby d1_12) rfl k_) ?_
  show Runs _ _ _ _ s₁ (mkF m 14 #[.val (.ref r0), .val (.int p1), .val (.int p2), .val (.int p3), .val (.long w5), .second, .val (.int x5)] [(.int x5)])
  refine Runs.back (fun t_ k_ => XS.iloadN X0.here hx rfl (hb hby d1_14) rfl k_) ?_
  show Runs _ _ _ _ s₁ (mkF m 15 #[.val (.ref r0), .val (.int p1), .val (.int p2), .val (.int p3), .val (.long w5), .second, .val (.int x5)] [(.int p1), (.int x5)])
  refine Runs.back (fun t_ k_ => XS.icmpNo X0.here hx rfl (hb hby d1_15) rfl (flt (show ¬ (x5 < p1) from (by rw [lti]; omega))).1 k_) ?_
  show Runs _ _ _ _ s₁ (mkF m 18 #[.val (.ref r0), .val (.int p1), .val (.int p2), .val (.int p3), .val (.long w5), .second, .val (.int x5)] [])
  refine Runs.back (fun t_ k_ => XS.lload X0.here hx rfl (hb hby d1_18) rfl k_) ?_
  show Runs _ _ _ _ s₁ (mkF m 20 #[.val (.ref r0), .val (.int p1), .val (.int p2), .val (.int p3), .val (.long w5), .second, .val (.int x5)] [(.long w5)])
  refine Runs.back (fun t_ k_ => XS.aloadN X0.here hx rfl (hb hby d1_20) rfl rfl k_) ?_
  show Runs _ _ _ _ s₁ (mkF m 21 #[.val (.ref r0), .val (.int p1), .val (.int p2), .val (.int p3), .val (.long w5), .second, .val (.int x5)] [(.ref r0), (.long w5)])
  refine Runs.back (fun t_ k_ => XS.iload X0.here hx rfl (hb hby d1_21) rfl k_) ?_
  show Runs _ _ _ _ s₁ (mkF m 23 #[.val (.ref r0), .val (.int p1), .val (.int p2), .val (.int p3), .val (.long w5), .second, .val (.int x5)] [(.int x5), (.ref r0), (.long w5)])
  obtain ⟨cl6, Ar6, S6, Hs6⟩ := id A1
  have at6 : cl6.slots[(x5).toNatClampNeg]? = some (.int (u (k + 0))) := readO Hs6 hk5 (show (k + 0) < 16 from (by first | omega | decide)) (rfl)
  refine Runs.back (fun t_ k_ => X0.baloadBytes hx (j := x5) (v := (.int (u (k + 0)))) (by rw [e0]; exact Ar6.1) (State.isArrayOf_alike hZ.alike Ar6.2.1) Ar6.2.2 (by rw [S6]; exact (inbO hn5 hk5 (show (k + 0) < 16 from (by first | omega | decide)))) at6 (g := (mkF m 23 #[.val (.ref r0), .val (.int p1), .val (.int p2), .val (.int p3), .val (.long w5), .second, .val (.int x5)] [(.int x5), (.ref r0), (.long w5)])) rfl rfl (hb hby d1_23) _ k_) ?_
  clear at6 Hs6 S6 Ar6
  show Runs _ _ _ _ s₁ (mkF m 24 #[.val (.ref r0), .val (.int p1), .val (.int p2), .val (.int p3), .val (.long w5), .second, .val (.int x5)] [(.int (u (k + 0))), (.long w5)])
  refine Runs.back (fun t_ k_ => XS.i2l X0.here hx rfl (hb hby d1_24) rfl k_) ?_
  show Runs _ _ _ _ s₁ (mkF m 25 #[.val (.ref r0), .val (.int p1), .val (.int p2), .val (.int p3), .val (.long w5), .second, .val (.int x5)] [(.long ((u (k + 0)).toInt64)), (.long w5)])
  refine Runs.back (X0.ldc2Long hx hown (mvT hZ (hw _ (List.mem_of_getElem? (i := 6) rfl))) (g := (mkF m 25 #[.val (.ref r0), .val (.int p1), .val (.int p2), .val (.int p3), .val (.long w5), .second, .val (.int x5)] [(.long ((u (k + 0)).toInt64)), (.long w5)])) rfl (hb hby d1_25)) ?_
  show Runs _ _ _ _ s₁ (mkF m 28 #[.val (.ref r0), .val (.int p1), .val (.int p2), .val (.int p3), .val (.long w5), .second, .val (.int x5)] [(.long (255 : Int64)), (.long ((u (k + 0)).toInt64)), (.long w5)])
  refine Runs.back (fun t_ k_ => XS.land X0.here hx rfl (hb hby d1_28) rfl k_) ?_
  show Runs _ _ _ _ s₁ (mkF m 29 #[.val (.ref r0), .val (.int p1), .val (.int p2), .val (.int p3), .val (.long w5), .second, .val (.int x5)] [(.long (((u (k + 0)).toInt64) &&& (255 : Int64))), (.long w5)])
  refine Runs.back (fun t_ k_ => XS.bipush X0.here hx rfl (hb hby d1_29) k_) ?_
  show Runs _ _ _ _ s₁ (mkF m 31 #[.val (.ref r0), .val (.int p1), .val (.int p2), .val (.int p3), .val (.long w5), .second, .val (.int x5)] [(.int (8 : Int32)), (.long (((u (k + 0)).toInt64) &&& (255 : Int64))), (.long w5)])
  refine Runs.back (fun t_ k_ => XS.iload X0.here hx rfl (hb hby d1_31) rfl k_) ?_
  show Runs _ _ _ _ s₁ (mkF m 33 #[.val (.ref r0), .val (.int p1), .val (.int p2), .val (.int p3), .val (.long w5), .second, .val (.int x5)] [(.int x5), (.int (8 : Int32)), (.long (((u (k + 0)).toInt64) &&& (255 : Int64))), (.long w5)])
  refine Runs.back (fun t_ k_ => XS.iloadN X0.here hx rfl (hb hby d1_33) rfl k_) ?_
  show Runs _ _ _ _ s₁ (mkF m 34 #[.val (.ref r0), .val (.int p1), .val (.int p2), .val (.int p3), .val (.long w5), .second, .val (.int x5)] [(.int p1), (.int x5), (.int (8 : Int32)), (.long (((u (k + 0)).toInt64) &&& (255 : Int64))), (.long w5)])
  refine Runs.back (fun t_ k_ => XS.isub X0.here hx rfl (hb hby d1_34) rfl k_) ?_
  show Runs _ _ _ _ s₁ (mkF m 35 #[.val (.ref r0), .val (.int p1), .val (.int p2), .val (.int p3), .val (.long w5), .second, .val (.int x5)] [(.int (x5 - p1)), (.int (8 : Int32)), (.long (((u (k + 0)).toInt64) &&& (255 : Int64))), (.long w5)])
  refine Runs.back (fun t_ k_ => XS.imul X0.here hx rfl (hb hby d1_35) rfl k_) ?_
  show Runs _ _ _ _ s₁ (mkF m 36 #[.val (.ref r0), .val (.int p1), .val (.int p2), .val (.int p3), .val (.long w5), .second, .val (.int x5)] [(.int ((8 : Int32) * (x5 - p1))), (.long (((u (k + 0)).toInt64) &&& (255 : Int64))), (.long w5)])
  refine Runs.back (fun t_ k_ => XS.lshl X0.here hx rfl (hb hby d1_36) rfl k_) ?_
  show Runs _ _ _ _ s₁ (mkF m 37 #[.val (.ref r0), .val (.int p1), .val (.int p2), .val (.int p3), .val (.long w5), .second, .val (.int x5)] [(.long ((((u (k + 0)).toInt64) &&& (255 : Int64)) <<< (((8 : Int32) * (x5 - p1)) &&& 0x3f).toInt64)), (.long w5)])
  refine Runs.back (fun t_ k_ => XS.lor X0.here hx rfl (hb hby d1_37) rfl k_) ?_
  show Runs _ _ _ _ s₁ (mkF m 38 #[.val (.ref r0), .val (.int p1), .val (.int p2), .val (.int p3), .val (.long w5), .second, .val (.int x5)] [(.long (w5 ||| ((((u (k + 0)).toInt64) &&& (255 : Int64)) <<< (((8 : Int32) * (x5 - p1)) &&& 0x3f).toInt64)))])
  refine Runs.back (fun t_ k_ => XS.lstore X0.here hx rfl (hb hby d1_38) rfl (l' := #[.val (.ref r0), .val (.int p1), .val (.int p2), .val (.int p3), .val (.long (w5 ||| ((((u (k + 0)).toInt64) &&& (255 : Int64)) <<< (((8 : Int32) * (x5 - p1)) &&& 0x3f).toInt64))), .second, .val (.int x5)]) rfl k_) ?_
  show Runs _ _ _ _ s₁ (mkF m 40 #[.val (.ref r0), .val (.int p1), .val (.int p2), .val (.int p3), .val (.long (w5 ||| ((((u (k + 0)).toInt64) &&& (255 : Int64)) <<< (((8 : Int32) * (x5 - p1)) &&& 0x3f).toInt64))), .second, .val (.int x5)] [])
  refine Runs.back (fun t_ k_ => XS.iinc X0.here hx rfl (hb hby d1_40) rfl (l' := #[.val (.ref r0), .val (.int p1), .val (.int p2), .val (.int p3), .val (.long (w5 ||| ((((u (k + 0)).toInt64) &&& (255 : Int64)) <<< (((8 : Int32) * (x5 - p1)) &&& 0x3f).toInt64))), .second, .val (.int (x5 + (-1 : Int32)))]) rfl k_) ?_
  show Runs _ _ _ _ s₁ (mkF m 43 #[.val (.ref r0), .val (.int p1), .val (.int p2), .val (.int p3), .val (.long (w5 ||| ((((u (k + 0)).toInt64) &&& (255 : Int64)) <<< (((8 : Int32) * (x5 - p1)) &&& 0x3f).toInt64))), .second, .val (.int (x5 + (-1 : Int32)))] [])
  refine Runs.back (fun t_ k_ => XS.goto X0.here hx rfl (pc0 := 43) (pc' := 12) rfl (hb hby d1_43) (by decide) (by decide) k_) ?_
  show Runs _ _ _ _ s₁ (mkF m 12 #[.val (.ref r0), .val (.int p1), .val (.int p2), .val (.int p3), .val (.long (w5 ||| ((((u (k + 0)).toInt64) &&& (255 : Int64)) <<< (((8 : Int32) * (x5 - p1)) &&& 0x3f).toInt64))), .second, .val (.int (x5 + (-1 : Int32)))] [])
  have sq6 : ((8 : Int32) * (x5 - p1)) = (0 : Int32) := by
    have d : (x5 - p1).toInt = 0 := by rw [sub32 (by omega) (by omega)]; omega
    obtain e : (x5 - p1) = (0 : Int32) := eqi.mpr (by rw [d]; decide)
    rw [e]; decide
  have hw6 : Cg ((w5 ||| ((((u (k + 0)).toInt64) &&& (255 : Int64)) <<< (((8 : Int32) * (x5 - p1)) &&& 0x3f).toInt64))).toInt (p3.toInt * 72057594037927936 + ((dl (k + 5) : Nat) : Int) * 1099511627776 + ((dl (k + 4) : Nat) : Int) * 4294967296 + ((dl (k + 3) : Nat) : Int) * 16777216 + ((dl (k + 2) : Nat) : Int) * 65536 + ((dl (k + 1) : Nat) : Int) * 256 + ((dl (k + 0) : Nat) : Int) * 1) := lw0 sq6 (hd (k + 0) (by omega)) hw5 (by omega)
  have hx6 : ((x5 + (-1 : Int32))).toInt = (k : Int) + 0 - 1 := by rw [add32 (by rw [show (-1 : Int32).toInt = -1 from by decide]; omega) (by rw [show (-1 : Int32).toInt = -1 from by decide]; omega), show (-1 : Int32).toInt = -1 from by decide, hx5]; omega
  clear hx5 hk5 hn5 sq6 hw5
  generalize ew6 : (w5 ||| ((((u (k + 0)).toInt64) &&& (255 : Int64)) <<< (((8 : Int32) * (x5 - p1)) &&& 0x3f).toInt64)) = w6 at hw6 ⊢
  generalize ex6 : (x5 + (-1 : Int32)) = x6 at hx6 ⊢
  clear ew6 ex6
  show Runs _ _ _ _ s₁ (mkF m 12 #[.val (.ref r0), .val (.int p1), .val (.int p2), .val (.int p3), .val (.long w6), .second, .val (.int x6)] [])
  refine Runs.back (fun t_ k_ => XS.iload X0.here hx rfl (hb hby d1_12) rfl k_) ?_
  show Runs _ _ _ _ s₁ (mkF m 14 #[.val (.ref r0), .val (.int p1), .val (.int p2), .val (.int p3), .val (.long w6), .second, .val (.int x6)] [(.int x6)])
  refine Runs.back (fun t_ k_ => XS.iloadN X0.here hx rfl (hb hby d1_14) rfl k_) ?_
  show Runs _ _ _ _ s₁ (mkF m 15 #[.val (.ref r0), .val (.int p1), .val (.int p2), .val (.int p3), .val (.long w6), .second, .val (.int x6)] [(.int p1), (.int x6)])
  refine Runs.back (fun t_ k_ => XS.icmpYes X0.here hx rfl (pc0 := 15) (pc' := 46) rfl (hb hby d1_15) rfl (tlt (show x6 < p1 from (by rw [lti]; omega))).1 (by decide) (by decide) k_) ?_
  show Runs _ _ _ _ s₁ (mkF m 46 #[.val (.ref r0), .val (.int p1), .val (.int p2), .val (.int p3), .val (.long w6), .second, .val (.int x6)] [])
  refine Runs.back (fun t_ k_ => XS.lload X0.here hx rfl (hb hby d1_46) rfl k_) ?_
  show Runs _ _ _ _ s₁ (mkF m 48 #[.val (.ref r0), .val (.int p1), .val (.int p2), .val (.int p3), .val (.long w6), .second, .val (.int x6)] [(.long w6)])
  obtain ⟨fs, hr, hrun, hended, hW, hsame⟩ := X0.leave (v := some (.long w6)) (fun h => by rw [Bd.returns] at h; cases h)
  have hfin : Cg w6.toInt (p3.toInt * 72057594037927936 + ((sumD dl k 6 : Nat) : Int)) := by
    have e : p3.toInt * 72057594037927936 + ((sumD dl k 6 : Nat) : Int) = p3.toInt * 72057594037927936 + ((dl (k + 5) : Nat) : Int) * 1099511627776 + ((dl (k + 4) : Nat) : Int) * 4294967296 + ((dl (k + 3) : Nat) : Int) * 16777216 + ((dl (k + 2) : Nat) : Int) * 65536 + ((dl (k + 1) : Nat) : Int) * 256 + ((dl (k + 0) : Nat) : Int) * 1 := by rw [show sumD dl k 6 = 0 + dl (k + 0) * 1 + dl (k + 1) * 256 + dl (k + 2) * 65536 + dl (k + 3) * 16777216 + dl (k + 4) * 4294967296 + dl (k + 5) * 1099511627776 from rfl]; omega
    rw [e]; exact hw6
  exact ⟨_, _, (X0.lreturnOut hx Bd.returns (hb hby d1_48) hr), hrun, hended, _, _, rfl, ⟨_, rfl, N0, e0, hfin⟩, ⟨_, rfl⟩, hW, hsame.mono (by decide) (by decide)⟩
theorem pn_1c7 : plainName "com/example/strict_distinct/strictdistinct/SipHash" = true := by first | (simp [plainName, overriddenIn]; done) | decide +kernel
theorem ef_1c7 (m : MethodId) (r0 : Addr) (p1 : Int32) (p2 : Int32) (p3 : Int32) : entryFrame m #[(.ref r0), (.int p1), (.int p2), (.int p3)] 7 = mkF m 0 #[.val (.ref r0), .val (.int p1), .val (.int p2), .val (.int p3), .unset, .unset, .unset] [] := by first | (simp [entryFrame, mkF, argsToLocals, Value.category]; done) | rfl
def Q1c7 (Z : State) (r0 : Addr) (p1 : Int32) (p2 : Int32) (p3 : Int32) (u : Nat → Int32) (dl : Nat → Nat) (k : Nat) (h0 : Heap) (n0 : Nat) (v : Option Value) (h : Heap) (L : List Loc) : Prop := LWQ p3 7 k dl h0 n0 v h L
set_option maxRecDepth 65536 in
set_option maxHeartbeats 40000000 in
theorem rm1c7 (l : Launch) (Z : State) (a0 : Array Value) (hw : ∀ d ∈ tables_1, d.before a0 Z = true) (ws : List Jvm.Cond) (r0 : Addr) (p1 : Int32) (p2 : Int32) (p3 : Int32) (u : Nat → Int32) (dl : Nat → Nat) (k : Nat) (h0 : Heap) (n0 : Nat) (Z0 : n0 ≤ h0.size) (A1 : OArr Z h0 r0 .byte 16 (fun i => (Value.int (u i)))) (hp1 : p1.toInt = (k : Int)) (hp2 : p2.toInt = (k : Int) + 7) (hk9 : k < 9) (hd : ∀ i, i < 16 → (u i).toInt % 256 = ((dl i : Nat) : Int)) :
    MetFree l (⟨"com/example/strict_distinct/strictdistinct/SipHash", "lastWord", "([BIII)J"⟩ : MethodName) (head1 (Jvm.Cond.code (⟨"com/example/strict_distinct/strictdistinct/SipHash", "lastWord", "([BIII)J"⟩ : MethodName) prog_29_method_7_code 7 (some .long) :: ws) ({ frames := 0, cells := 0, slots := 0, locals := 0 } : Room)) (fun a U => a = #[(.ref r0), (.int p1), (.int p2), (.int p3)] ∧ Z.Warmed39 U.vm ∧ U.heap = h0) (fun _ _ _ _ _ => True) (fun _ U o U' => ∃ v L, o = .returned v ∧ Q1c7 Z r0 p1 p2 p3 u dl k h0 n0 v U'.heap L ∧ FrameEnd U o U' L ({ frames := 0, cells := 0, slots := 0, locals := 0 } : Room).cells ({ frames := 0, cells := 0, slots := 0, locals := 0 } : Room).slots) := by
  refine MetFree.of_bodySF (plainFor_of_name pn_1c7) hisR ?_
  intro p e s m args below meth c s₁ Bd hml0 hP hK
  obtain ⟨rfl, hZ, hh⟩ := hP
  have hx := Bd.exec
  have hby := Bd.bytes
  have hml : c.maxLocals = 7 := hml0
  have hown : s.vm.findClass "com/example/strict_distinct/strictdistinct/SipHash" = some m.cls := findClass_of_methodNamed Bd.named
  have hnm := (name_of_methodNamed Bd.named Bd.method).1
  have X0 : Stand p l e ({ frames := 0, cells := 0, slots := 0, locals := 0 } : Room) s m #[(.ref r0), (.int p1), (.int p2), (.int p3)] below meth c s₁ [] 0 0 := Stand.of_body Bd
  have e0 : s₁.heap = h0 := by rw [← hh, Bd.state]; rfl
  have N0 := Fr.nil n0
  refine Runs.enter (ef_1c7 m r0 p1 p2 p3) ?_
  show Runs _ _ _ _ s₁ (mkF m 0 #[.val (.ref r0), .val (.int p1), .val (.int p2), .val (.int p3), .unset, .unset, .unset] [])
  refine Runs.back (fun t_ k_ => XS.iloadN X0.here hx rfl (hb hby d1_0) rfl k_) ?_
  show Runs _ _ _ _ s₁ (mkF m 1 #[.val (.ref r0), .val (.int p1), .val (.int p2), .val (.int p3), .unset, .unset, .unset] [(.int p3)])
  refine Runs.back (fun t_ k_ => XS.i2l X0.here hx rfl (hb hby d1_1) rfl k_) ?_
  show Runs _ _ _ _ s₁ (mkF m 2 #[.val (.ref r0), .val (.int p1), .val (.int p2), .val (.int p3), .unset, .unset, .unset] [(.long (p3.toInt64))])
  refine Runs.back (fun t_ k_ => XS.bipush X0.here hx rfl (hb hby d1_2) k_) ?_
  show Runs _ _ _ _ s₁ (mkF m 4 #[.val (.ref r0), .val (.int p1), .val (.int p2), .val (.int p3), .unset, .unset, .unset] [(.int (56 : Int32)), (.long (p3.toInt64))])
  refine Runs.back (fun t_ k_ => XS.lshl X0.here hx rfl (hb hby d1_4) rfl k_) ?_
  show Runs _ _ _ _ s₁ (mkF m 5 #[.val (.ref r0), .val (.int p1), .val (.int p2), .val (.int p3), .unset, .unset, .unset] [(.long ((p3.toInt64) <<< ((56 : Int32) &&& 0x3f).toInt64))])
  refine Runs.back (fun t_ k_ => XS.lstore X0.here hx rfl (hb hby d1_5) rfl (l' := #[.val (.ref r0), .val (.int p1), .val (.int p2), .val (.int p3), .val (.long ((p3.toInt64) <<< ((56 : Int32) &&& 0x3f).toInt64)), .second, .unset]) rfl k_) ?_
  show Runs _ _ _ _ s₁ (mkF m 7 #[.val (.ref r0), .val (.int p1), .val (.int p2), .val (.int p3), .val (.long ((p3.toInt64) <<< ((56 : Int32) &&& 0x3f).toInt64)), .second, .unset] [])
  refine Runs.back (fun t_ k_ => XS.iloadN X0.here hx rfl (hb hby d1_7) rfl k_) ?_
  show Runs _ _ _ _ s₁ (mkF m 8 #[.val (.ref r0), .val (.int p1), .val (.int p2), .val (.int p3), .val (.long ((p3.toInt64) <<< ((56 : Int32) &&& 0x3f).toInt64)), .second, .unset] [(.int p2)])
  refine Runs.back (fun t_ k_ => XS.iconst X0.here hx rfl (hb hby d1_8) k_) ?_
  show Runs _ _ _ _ s₁ (mkF m 9 #[.val (.ref r0), .val (.int p1), .val (.int p2), .val (.int p3), .val (.long ((p3.toInt64) <<< ((56 : Int32) &&& 0x3f).toInt64)), .second, .unset] [(.int (1 : Int32)), (.int p2)])
  refine Runs.back (fun t_ k_ => XS.isub X0.here hx rfl (hb hby d1_9) rfl k_) ?_
  show Runs _ _ _ _ s₁ (mkF m 10 #[.val (.ref r0), .val (.int p1), .val (.int p2), .val (.int p3), .val (.long ((p3.toInt64) <<< ((56 : Int32) &&& 0x3f).toInt64)), .second, .unset] [(.int (p2 - (1 : Int32)))])
  refine Runs.back (fun t_ k_ => XS.istore X0.here hx rfl (hb hby d1_10) rfl (l' := #[.val (.ref r0), .val (.int p1), .val (.int p2), .val (.int p3), .val (.long ((p3.toInt64) <<< ((56 : Int32) &&& 0x3f).toInt64)), .second, .val (.int (p2 - (1 : Int32)))]) rfl k_) ?_
  show Runs _ _ _ _ s₁ (mkF m 12 #[.val (.ref r0), .val (.int p1), .val (.int p2), .val (.int p3), .val (.long ((p3.toInt64) <<< ((56 : Int32) &&& 0x3f).toInt64)), .second, .val (.int (p2 - (1 : Int32)))] [])
  have hw0 : Cg (((p3.toInt64) <<< ((56 : Int32) &&& 0x3f).toInt64)).toInt (p3.toInt * 72057594037927936) := by
    have q := c_lshl p3.toInt64 56 56 (by decide)
    rw [show ((2 ^ 56 : Nat) : Int) = 72057594037927936 from rfl, c_i2l] at q
    exact q
  have hx0 : ((p2 - (1 : Int32))).toInt = (k : Int) + 7 - 1 := by rw [sub32 (by rw [o32]; omega) (by rw [o32]; omega), o32, hp2]
  generalize ew0 : ((p3.toInt64) <<< ((56 : Int32) &&& 0x3f).toInt64) = w0 at hw0 ⊢
  generalize ex0 : (p2 - (1 : Int32)) = x0 at hx0 ⊢
  clear ew0 ex0
  show Runs _ _ _ _ s₁ (mkF m 12 #[.val (.ref r0), .val (.int p1), .val (.int p2), .val (.int p3), .val (.long w0), .second, .val (.int x0)] [])
  have hn0 : ¬ x0 < 0 := by rw [lti, z32]; omega
  have hk0 : x0.toNatClampNeg = k + 6 := by have q := nat_of hn0; omega
  refine Runs.back (fun t_ k_ => XS.iload X0.here hx rfl (hb hby d1_12) rfl k_) ?_
  show Runs _ _ _ _ s₁ (mkF m 14 #[.val (.ref r0), .val (.int p1), .val (.int p2), .val (.int p3), .val (.long w0), .second, .val (.int x0)] [(.int x0)])
  refine Runs.back (fun t_ k_ => XS.iloadN X0.here hx rfl (hb hby d1_14) rfl k_) ?_
  show Runs _ _ _ _ s₁ (mkF m 15 #[.val (.ref r0), .val (.int p1), .val (.int p2), .val (.int p3), .val (.long w0), .second, .val (.int x0)] [(.int p1), (.int x0)])
  refine Runs.back (fun t_ k_ => XS.icmpNo X0.here hx rfl (hb hby d1_15) rfl (flt (show ¬ (x0 < p1) from (by rw [lti]; omega))).1 k_) ?_
  show Runs _ _ _ _ s₁ (mkF m 18 #[.val (.ref r0), .val (.int p1), .val (.int p2), .val (.int p3), .val (.long w0), .second, .val (.int x0)] [])
  refine Runs.back (fun t_ k_ => XS.lload X0.here hx rfl (hb hby d1_18) rfl k_) ?_
  show Runs _ _ _ _ s₁ (mkF m 20 #[.val (.ref r0), .val (.int p1), .val (.int p2), .val (.int p3), .val (.long w0), .second, .val (.int x0)] [(.long w0)])
  refine Runs.back (fun t_ k_ => XS.aloadN X0.here hx rfl (hb hby d1_20) rfl rfl k_) ?_
  show Runs _ _ _ _ s₁ (mkF m 21 #[.val (.ref r0), .val (.int p1), .val (.int p2), .val (.int p3), .val (.long w0), .second, .val (.int x0)] [(.ref r0), (.long w0)])
  refine Runs.back (fun t_ k_ => XS.iload X0.here hx rfl (hb hby d1_21) rfl k_) ?_
  show Runs _ _ _ _ s₁ (mkF m 23 #[.val (.ref r0), .val (.int p1), .val (.int p2), .val (.int p3), .val (.long w0), .second, .val (.int x0)] [(.int x0), (.ref r0), (.long w0)])
  obtain ⟨cl1, Ar1, S1, Hs1⟩ := id A1
  have at1 : cl1.slots[(x0).toNatClampNeg]? = some (.int (u (k + 6))) := readO Hs1 hk0 (show (k + 6) < 16 from (by first | omega | decide)) (rfl)
  refine Runs.back (fun t_ k_ => X0.baloadBytes hx (j := x0) (v := (.int (u (k + 6)))) (by rw [e0]; exact Ar1.1) (State.isArrayOf_alike hZ.alike Ar1.2.1) Ar1.2.2 (by rw [S1]; exact (inbO hn0 hk0 (show (k + 6) < 16 from (by first | omega | decide)))) at1 (g := (mkF m 23 #[.val (.ref r0), .val (.int p1), .val (.int p2), .val (.int p3), .val (.long w0), .second, .val (.int x0)] [(.int x0), (.ref r0), (.long w0)])) rfl rfl (hb hby d1_23) _ k_) ?_
  clear at1 Hs1 S1 Ar1
  show Runs _ _ _ _ s₁ (mkF m 24 #[.val (.ref r0), .val (.int p1), .val (.int p2), .val (.int p3), .val (.long w0), .second, .val (.int x0)] [(.int (u (k + 6))), (.long w0)])
  refine Runs.back (fun t_ k_ => XS.i2l X0.here hx rfl (hb hby d1_24) rfl k_) ?_
  show Runs _ _ _ _ s₁ (mkF m 25 #[.val (.ref r0), .val (.int p1), .val (.int p2), .val (.int p3), .val (.long w0), .second, .val (.int x0)] [(.long ((u (k + 6)).toInt64)), (.long w0)])
  refine Runs.back (X0.ldc2Long hx hown (mvT hZ (hw _ (List.mem_of_getElem? (i := 6) rfl))) (g := (mkF m 25 #[.val (.ref r0), .val (.int p1), .val (.int p2), .val (.int p3), .val (.long w0), .second, .val (.int x0)] [(.long ((u (k + 6)).toInt64)), (.long w0)])) rfl (hb hby d1_25)) ?_
  show Runs _ _ _ _ s₁ (mkF m 28 #[.val (.ref r0), .val (.int p1), .val (.int p2), .val (.int p3), .val (.long w0), .second, .val (.int x0)] [(.long (255 : Int64)), (.long ((u (k + 6)).toInt64)), (.long w0)])
  refine Runs.back (fun t_ k_ => XS.land X0.here hx rfl (hb hby d1_28) rfl k_) ?_
  show Runs _ _ _ _ s₁ (mkF m 29 #[.val (.ref r0), .val (.int p1), .val (.int p2), .val (.int p3), .val (.long w0), .second, .val (.int x0)] [(.long (((u (k + 6)).toInt64) &&& (255 : Int64))), (.long w0)])
  refine Runs.back (fun t_ k_ => XS.bipush X0.here hx rfl (hb hby d1_29) k_) ?_
  show Runs _ _ _ _ s₁ (mkF m 31 #[.val (.ref r0), .val (.int p1), .val (.int p2), .val (.int p3), .val (.long w0), .second, .val (.int x0)] [(.int (8 : Int32)), (.long (((u (k + 6)).toInt64) &&& (255 : Int64))), (.long w0)])
  refine Runs.back (fun t_ k_ => XS.iload X0.here hx rfl (hb hby d1_31) rfl k_) ?_
  show Runs _ _ _ _ s₁ (mkF m 33 #[.val (.ref r0), .val (.int p1), .val (.int p2), .val (.int p3), .val (.long w0), .second, .val (.int x0)] [(.int x0), (.int (8 : Int32)), (.long (((u (k + 6)).toInt64) &&& (255 : Int64))), (.long w0)])
  refine Runs.back (fun t_ k_ => XS.iloadN X0.here hx rfl (hb hby d1_33) rfl k_) ?_
  show Runs _ _ _ _ s₁ (mkF m 34 #[.val (.ref r0), .val (.int p1), .val (.int p2), .val (.int p3), .val (.long w0), .second, .val (.int x0)] [(.int p1), (.int x0), (.int (8 : Int32)), (.long (((u (k + 6)).toInt64) &&& (255 : Int64))), (.long w0)])
  refine Runs.back (fun t_ k_ => XS.isub X0.here hx rfl (hb hby d1_34) rfl k_) ?_
  show Runs _ _ _ _ s₁ (mkF m 35 #[.val (.ref r0), .val (.int p1), .val (.int p2), .val (.int p3), .val (.long w0), .second, .val (.int x0)] [(.int (x0 - p1)), (.int (8 : Int32)), (.long (((u (k + 6)).toInt64) &&& (255 : Int64))), (.long w0)])
  refine Runs.back (fun t_ k_ => XS.imul X0.here hx rfl (hb hby d1_35) rfl k_) ?_
  show Runs _ _ _ _ s₁ (mkF m 36 #[.val (.ref r0), .val (.int p1), .val (.int p2), .val (.int p3), .val (.long w0), .second, .val (.int x0)] [(.int ((8 : Int32) * (x0 - p1))), (.long (((u (k + 6)).toInt64) &&& (255 : Int64))), (.long w0)])
  refine Runs.back (fun t_ k_ => XS.lshl X0.here hx rfl (hb hby d1_36) rfl k_) ?_
  show Runs _ _ _ _ s₁ (mkF m 37 #[.val (.ref r0), .val (.int p1), .val (.int p2), .val (.int p3), .val (.long w0), .second, .val (.int x0)] [(.long ((((u (k + 6)).toInt64) &&& (255 : Int64)) <<< (((8 : Int32) * (x0 - p1)) &&& 0x3f).toInt64)), (.long w0)])
  refine Runs.back (fun t_ k_ => XS.lor X0.here hx rfl (hb hby d1_37) rfl k_) ?_
  show Runs _ _ _ _ s₁ (mkF m 38 #[.val (.ref r0), .val (.int p1), .val (.int p2), .val (.int p3), .val (.long w0), .second, .val (.int x0)] [(.long (w0 ||| ((((u (k + 6)).toInt64) &&& (255 : Int64)) <<< (((8 : Int32) * (x0 - p1)) &&& 0x3f).toInt64)))])
  refine Runs.back (fun t_ k_ => XS.lstore X0.here hx rfl (hb hby d1_38) rfl (l' := #[.val (.ref r0), .val (.int p1), .val (.int p2), .val (.int p3), .val (.long (w0 ||| ((((u (k + 6)).toInt64) &&& (255 : Int64)) <<< (((8 : Int32) * (x0 - p1)) &&& 0x3f).toInt64))), .second, .val (.int x0)]) rfl k_) ?_
  show Runs _ _ _ _ s₁ (mkF m 40 #[.val (.ref r0), .val (.int p1), .val (.int p2), .val (.int p3), .val (.long (w0 ||| ((((u (k + 6)).toInt64) &&& (255 : Int64)) <<< (((8 : Int32) * (x0 - p1)) &&& 0x3f).toInt64))), .second, .val (.int x0)] [])
  refine Runs.back (fun t_ k_ => XS.iinc X0.here hx rfl (hb hby d1_40) rfl (l' := #[.val (.ref r0), .val (.int p1), .val (.int p2), .val (.int p3), .val (.long (w0 ||| ((((u (k + 6)).toInt64) &&& (255 : Int64)) <<< (((8 : Int32) * (x0 - p1)) &&& 0x3f).toInt64))), .second, .val (.int (x0 + (-1 : Int32)))]) rfl k_) ?_
  show Runs _ _ _ _ s₁ (mkF m 43 #[.val (.ref r0), .val (.int p1), .val (.int p2), .val (.int p3), .val (.long (w0 ||| ((((u (k + 6)).toInt64) &&& (255 : Int64)) <<< (((8 : Int32) * (x0 - p1)) &&& 0x3f).toInt64))), .second, .val (.int (x0 + (-1 : Int32)))] [])
  refine Runs.back (fun t_ k_ => XS.goto X0.here hx rfl (pc0 := 43) (pc' := 12) rfl (hb hby d1_43) (by decide) (by decide) k_) ?_
  show Runs _ _ _ _ s₁ (mkF m 12 #[.val (.ref r0), .val (.int p1), .val (.int p2), .val (.int p3), .val (.long (w0 ||| ((((u (k + 6)).toInt64) &&& (255 : Int64)) <<< (((8 : Int32) * (x0 - p1)) &&& 0x3f).toInt64))), .second, .val (.int (x0 + (-1 : Int32)))] [])
  have sq1 : ((8 : Int32) * (x0 - p1)) = (48 : Int32) := by
    have d : (x0 - p1).toInt = 6 := by rw [sub32 (by omega) (by omega)]; omega
    obtain e : (x0 - p1) = (6 : Int32) := eqi.mpr (by rw [d]; decide)
    rw [e]; decide
  have hw1 : Cg ((w0 ||| ((((u (k + 6)).toInt64) &&& (255 : Int64)) <<< (((8 : Int32) * (x0 - p1)) &&& 0x3f).toInt64))).toInt (p3.toInt * 72057594037927936 + ((dl (k + 6) : Nat) : Int) * 281474976710656) := lw6 sq1 (hd (k + 6) (by omega)) hw0 (by omega)
  have hx1 : ((x0 + (-1 : Int32))).toInt = (k : Int) + 6 - 1 := by rw [add32 (by rw [show (-1 : Int32).toInt = -1 from by decide]; omega) (by rw [show (-1 : Int32).toInt = -1 from by decide]; omega), show (-1 : Int32).toInt = -1 from by decide, hx0]; omega
  clear hx0 hk0 hn0 sq1 hw0
  generalize ew1 : (w0 ||| ((((u (k + 6)).toInt64) &&& (255 : Int64)) <<< (((8 : Int32) * (x0 - p1)) &&& 0x3f).toInt64)) = w1 at hw1 ⊢
  generalize ex1 : (x0 + (-1 : Int32)) = x1 at hx1 ⊢
  clear ew1 ex1
  show Runs _ _ _ _ s₁ (mkF m 12 #[.val (.ref r0), .val (.int p1), .val (.int p2), .val (.int p3), .val (.long w1), .second, .val (.int x1)] [])
  have hn1 : ¬ x1 < 0 := by rw [lti, z32]; omega
  have hk1 : x1.toNatClampNeg = k + 5 := by have q := nat_of hn1; omega
  refine Runs.back (fun t_ k_ => XS.iload X0.here hx rfl (hb hby d1_12) rfl k_) ?_
  show Runs _ _ _ _ s₁ (mkF m 14 #[.val (.ref r0), .val (.int p1), .val (.int p2), .val (.int p3), .val (.long w1), .second, .val (.int x1)] [(.int x1)])
  refine Runs.back (fun t_ k_ => XS.iloadN X0.here hx rfl (hb hby d1_14) rfl k_) ?_
  show Runs _ _ _ _ s₁ (mkF m 15 #[.val (.ref r0), .val (.int p1), .val (.int p2), .val (.int p3), .val (.long w1), .second, .val (.int x1)] [(.int p1), (.int x1)])
  refine Runs.back (fun t_ k_ => XS.icmpNo X0.here hx rfl (hb hby d1_15) rfl (flt (show ¬ (x1 < p1) from (by rw [lti]; omega))).1 k_) ?_
  show Runs _ _ _ _ s₁ (mkF m 18 #[.val (.ref r0), .val (.int p1), .val (.int p2), .val (.int p3), .val (.long w1), .second, .val (.int x1)] [])
  refine Runs.back (fun t_ k_ => XS.lload X0.here hx rfl (hb hby d1_18) rfl k_) ?_
  show Runs _ _ _ _ s₁ (mkF m 20 #[.val (.ref r0), .val (.int p1), .val (.int p2), .val (.int p3), .val (.long w1), .second, .val (.int x1)] [(.long w1)])
  refine Runs.back (fun t_ k_ => XS.aloadN X0.here hx rfl (hb hby d1_20) rfl rfl k_) ?_
  show Runs _ _ _ _ s₁ (mkF m 21 #[.val (.ref r0), .val (.int p1), .val (.int p2), .val (.int p3), .val (.long w1), .second, .val (.int x1)] [(.ref r0), (.long w1)])
  refine Runs.back (fun t_ k_ => XS.iload X0.here hx rfl (hb hby d1_21) rfl k_) ?_
  show Runs _ _ _ _ s₁ (mkF m 23 #[.val (.ref r0), .val (.int p1), .val (.int p2), .val (.int p3), .val (.long w1), .second, .val (.int x1)] [(.int x1), (.ref r0), (.long w1)])
  obtain ⟨cl2, Ar2, S2, Hs2⟩ := id A1
  have at2 : cl2.slots[(x1).toNatClampNeg]? = some (.int (u (k + 5))) := readO Hs2 hk1 (show (k + 5) < 16 from (by first | omega | decide)) (rfl)
  refine Runs.back (fun t_ k_ => X0.baloadBytes hx (j := x1) (v := (.int (u (k + 5)))) (by rw [e0]; exact Ar2.1) (State.isArrayOf_alike hZ.alike Ar2.2.1) Ar2.2.2 (by rw [S2]; exact (inbO hn1 hk1 (show (k + 5) < 16 from (by first | omega | decide)))) at2 (g := (mkF m 23 #[.val (.ref r0), .val (.int p1), .val (.int p2), .val (.int p3), .val (.long w1), .second, .val (.int x1)] [(.int x1), (.ref r0), (.long w1)])) rfl rfl (hb hby d1_23) _ k_) ?_
  clear at2 Hs2 S2 Ar2
  show Runs _ _ _ _ s₁ (mkF m 24 #[.val (.ref r0), .val (.int p1), .val (.int p2), .val (.int p3), .val (.long w1), .second, .val (.int x1)] [(.int (u (k + 5))), (.long w1)])
  refine Runs.back (fun t_ k_ => XS.i2l X0.here hx rfl (hb hby d1_24) rfl k_) ?_
  show Runs _ _ _ _ s₁ (mkF m 25 #[.val (.ref r0), .val (.int p1), .val (.int p2), .val (.int p3), .val (.long w1), .second, .val (.int x1)] [(.long ((u (k + 5)).toInt64)), (.long w1)])
  refine Runs.back (X0.ldc2Long hx hown (mvT hZ (hw _ (List.mem_of_getElem? (i := 6) rfl))) (g := (mkF m 25 #[.val (.ref r0), .val (.int p1), .val (.int p2), .val (.int p3), .val (.long w1), .second, .val (.int x1)] [(.long ((u (k + 5)).toInt64)), (.long w1)])) rfl (hb hby d1_25)) ?_
  show Runs _ _ _ _ s₁ (mkF m 28 #[.val (.ref r0), .val (.int p1), .val (.int p2), .val (.int p3), .val (.long w1), .second, .val (.int x1)] [(.long (255 : Int64)), (.long ((u (k + 5)).toInt64)), (.long w1)])
  refine Runs.back (fun t_ k_ => XS.land X0.here hx rfl (hb hby d1_28) rfl k_) ?_
  show Runs _ _ _ _ s₁ (mkF m 29 #[.val (.ref r0), .val (.int p1), .val (.int p2), .val (.int p3), .val (.long w1), .second, .val (.int x1)] [(.long (((u (k + 5)).toInt64) &&& (255 : Int64))), (.long w1)])
  refine Runs.back (fun t_ k_ => XS.bipush X0.here hx rfl (hb hby d1_29) k_) ?_
  show Runs _ _ _ _ s₁ (mkF m 31 #[.val (.ref r0), .val (.int p1), .val (.int p2), .val (.int p3), .val (.long w1), .second, .val (.int x1)] [(.int (8 : Int32)), (.long (((u (k + 5)).toInt64) &&& (255 : Int64))), (.long w1)])
  refine Runs.back (fun t_ k_ => XS.iload X0.here hx rfl (hb hby d1_31) rfl k_) ?_
  show Runs _ _ _ _ s₁ (mkF m 33 #[.val (.ref r0), .val (.int p1), .val (.int p2), .val (.int p3), .val (.long w1), .second, .val (.int x1)] [(.int x1), (.int (8 : Int32)), (.long (((u (k + 5)).toInt64) &&& (255 : Int64))), (.long w1)])
  refine Runs.back (fun t_ k_ => XS.iloadN X0.here hx rfl (hb hby d1_33) rfl k_) ?_
  show Runs _ _ _ _ s₁ (mkF m 34 #[.val (.ref r0), .val (.int p1), .val (.int p2), .val (.int p3), .val (.long w1), .second, .val (.int x1)] [(.int p1), (.int x1), (.int (8 : Int32)), (.long (((u (k + 5)).toInt64) &&& (255 : Int64))), (.long w1)])
  refine Runs.back (fun t_ k_ => XS.isub X0.here hx rfl (hb hby d1_34) rfl k_) ?_
  show Runs _ _ _ _ s₁ (mkF m 35 #[.val (.ref r0), .val (.int p1), .val (.int p2), .val (.int p3), .val (.long w1), .second, .val (.int x1)] [(.int (x1 - p1)), (.int (8 : Int32)), (.long (((u (k + 5)).toInt64) &&& (255 : Int64))), (.long w1)])
  refine Runs.back (fun t_ k_ => XS.imul X0.here hx rfl (hb hby d1_35) rfl k_) ?_
  show Runs _ _ _ _ s₁ (mkF m 36 #[.val (.ref r0), .val (.int p1), .val (.int p2), .val (.int p3), .val (.long w1), .second, .val (.int x1)] [(.int ((8 : Int32) * (x1 - p1))), (.long (((u (k + 5)).toInt64) &&& (255 : Int64))), (.long w1)])
  refine Runs.back (fun t_ k_ => XS.lshl X0.here hx rfl (hb hby d1_36) rfl k_) ?_
  show Runs _ _ _ _ s₁ (mkF m 37 #[.val (.ref r0), .val (.int p1), .val (.int p2), .val (.int p3), .val (.long w1), .second, .val (.int x1)] [(.long ((((u (k + 5)).toInt64) &&& (255 : Int64)) <<< (((8 : Int32) * (x1 - p1)) &&& 0x3f).toInt64)), (.long w1)])
  refine Runs.back (fun t_ k_ => XS.lor X0.here hx rfl (hb hby d1_37) rfl k_) ?_
  show Runs _ _ _ _ s₁ (mkF m 38 #[.val (.ref r0), .val (.int p1), .val (.int p2), .val (.int p3), .val (.long w1), .second, .val (.int x1)] [(.long (w1 ||| ((((u (k + 5)).toInt64) &&& (255 : Int64)) <<< (((8 : Int32) * (x1 - p1)) &&& 0x3f).toInt64)))])
  refine Runs.back (fun t_ k_ => XS.lstore X0.here hx rfl (hb hby d1_38) rfl (l' := #[.val (.ref r0), .val (.int p1), .val (.int p2), .val (.int p3), .val (.long (w1 ||| ((((u (k + 5)).toInt64) &&& (255 : Int64)) <<< (((8 : Int32) * (x1 - p1)) &&& 0x3f).toInt64))), .second, .val (.int x1)]) rfl k_) ?_
  show Runs _ _ _ _ s₁ (mkF m 40 #[.val (.ref r0), .val (.int p1), .val (.int p2), .val (.int p3), .val (.long (w1 ||| ((((u (k + 5)).toInt64) &&& (255 : Int64)) <<< (((8 : Int32) * (x1 - p1)) &&& 0x3f).toInt64))), .second, .val (.int x1)] [])
  refine Runs.back (fun t_ k_ => XS.iinc X0.here hx rfl (hb hby d1_40) rfl (l' := #[.val (.ref r0), .val (.int p1), .val (.int p2), .val (.int p3), .val (.long (w1 ||| ((((u (k + 5)).toInt64) &&& (255 : Int64)) <<< (((8 : Int32) * (x1 - p1)) &&& 0x3f).toInt64))), .second, .val (.int (x1 + (-1 : Int32)))]) rfl k_) ?_
  show Runs _ _ _ _ s₁ (mkF m 43 #[.val (.ref r0), .val (.int p1), .val (.int p2), .val (.int p3), .val (.long (w1 ||| ((((u (k + 5)).toInt64) &&& (255 : Int64)) <<< (((8 : Int32) * (x1 - p1)) &&& 0x3f).toInt64))), .second, .val (.int (x1 + (-1 : Int32)))] [])
  refine Runs.back (fun t_ k_ => XS.goto X0.here hx rfl (pc0 := 43) (pc' := 12) rfl (hb hby d1_43) (by decide) (by decide) k_) ?_
  show Runs _ _ _ _ s₁ (mkF m 12 #[.val (.ref r0), .val (.int p1), .val (.int p2), .val (.int p3), .val (.long (w1 ||| ((((u (k + 5)).toInt64) &&& (255 : Int64)) <<< (((8 : Int32) * (x1 - p1)) &&& 0x3f).toInt64))), .second, .val (.int (x1 + (-1 : Int32)))] [])
  have sq2 : ((8 : Int32) * (x1 - p1)) = (40 : Int32) := by
    have d : (x1 - p1).toInt = 5 := by rw [sub32 (by omega) (by omega)]; omega
    obtain e : (x1 - p1) = (5 : Int32) := eqi.mpr (by rw [d]; decide)
    rw [e]; decide
  have hw2 : Cg ((w1 ||| ((((u (k + 5)).toInt64) &&& (255 : Int64)) <<< (((8 : Int32) * (x1 - p1)) &&& 0x3f).toInt64))).toInt (p3.toInt * 72057594037927936 + ((dl (k + 6) : Nat) : Int) * 281474976710656 + ((dl (k + 5) : Nat) : Int) * 1099511627776) := lw5 sq2 (hd (k + 5) (by omega)) hw1 (by omega)
  have hx2 : ((x1 + (-1 : Int32))).toInt = (k : Int) + 5 - 1 := by rw [add32 (by rw [show (-1 : Int32).toInt = -1 from by decide]; omega) (by rw [show (-1 : Int32).toInt = -1 from by decide]; omega), show (-1 : Int32).toInt = -1 from by decide, hx1]; omega
  clear hx1 hk1 hn1 sq2 hw1
  generalize ew2 : (w1 ||| ((((u (k + 5)).toInt64) &&& (255 : Int64)) <<< (((8 : Int32) * (x1 - p1)) &&& 0x3f).toInt64)) = w2 at hw2 ⊢
  generalize ex2 : (x1 + (-1 : Int32)) = x2 at hx2 ⊢
  clear ew2 ex2
  show Runs _ _ _ _ s₁ (mkF m 12 #[.val (.ref r0), .val (.int p1), .val (.int p2), .val (.int p3), .val (.long w2), .second, .val (.int x2)] [])
  have hn2 : ¬ x2 < 0 := by rw [lti, z32]; omega
  have hk2 : x2.toNatClampNeg = k + 4 := by have q := nat_of hn2; omega
  refine Runs.back (fun t_ k_ => XS.iload X0.here hx rfl (hb hby d1_12) rfl k_) ?_
  show Runs _ _ _ _ s₁ (mkF m 14 #[.val (.ref r0), .val (.int p1), .val (.int p2), .val (.int p3), .val (.long w2), .second, .val (.int x2)] [(.int x2)])
  refine Runs.back (fun t_ k_ => XS.iloadN X0.here hx rfl (hb hby d1_14) rfl k_) ?_
  show Runs _ _ _ _ s₁ (mkF m 15 #[.val (.ref r0), .val (.int p1), .val (.int p2), .val (.int p3), .val (.long w2), .second, .val (.int x2)] [(.int p1), (.int x2)])
  refine Runs.back (fun t_ k_ => XS.icmpNo X0.here hx rfl (hb hby d1_15) rfl (flt (show ¬ (x2 < p1) from (by rw [lti]; omega))).1 k_) ?_
  show Runs _ _ _ _ s₁ (mkF m 18 #[.val (.ref r0), .val (.int p1), .val (.int p2), .val (.int p3), .val (.long w2), .second, .val (.int x2)] [])
  refine Runs.back (fun t_ k_ => XS.lload X0.here hx rfl (hb hby d1_18) rfl k_) ?_
  show Runs _ _ _ _ s₁ (mkF m 20 #[.val (.ref r0), .val (.int p1), .val (.int p2), .val (.int p3), .val (.long w2), .second, .val (.int x2)] [(.long w2)])
  refine Runs.back (fun t_ k_ => XS.aloadN X0.here hx rfl (hb hby d1_20) rfl rfl k_) ?_
  show Runs _ _ _ _ s₁ (mkF m 21 #[.val (.ref r0), .val (.int p1), .val (.int p2), .val (.int p3), .val (.long w2), .second, .val (.int x2)] [(.ref r0), (.long w2)])
  refine Runs.back (fun t_ k_ => XS.iload X0.here hx rfl (hb hby d1_21) rfl k_) ?_
  show Runs _ _ _ _ s₁ (mkF m 23 #[.val (.ref r0), .val (.int p1), .val (.int p2), .val (.int p3), .val (.long w2), .second, .val (.int x2)] [(.int x2), (.ref r0), (.long w2)])
  obtain ⟨cl3, Ar3, S3, Hs3⟩ := id A1
  have at3 : cl3.slots[(x2).toNatClampNeg]? = some (.int (u (k + 4))) := readO Hs3 hk2 (show (k + 4) < 16 from (by first | omega | decide)) (rfl)
  refine Runs.back (fun t_ k_ => X0.baloadBytes hx (j := x2) (v := (.int (u (k + 4)))) (by rw [e0]; exact Ar3.1) (State.isArrayOf_alike hZ.alike Ar3.2.1) Ar3.2.2 (by rw [S3]; exact (inbO hn2 hk2 (show (k + 4) < 16 from (by first | omega | decide)))) at3 (g := (mkF m 23 #[.val (.ref r0), .val (.int p1), .val (.int p2), .val (.int p3), .val (.long w2), .second, .val (.int x2)] [(.int x2), (.ref r0), (.long w2)])) rfl rfl (hb hby d1_23) _ k_) ?_
  clear at3 Hs3 S3 Ar3
  show Runs _ _ _ _ s₁ (mkF m 24 #[.val (.ref r0), .val (.int p1), .val (.int p2), .val (.int p3), .val (.long w2), .second, .val (.int x2)] [(.int (u (k + 4))), (.long w2)])
  refine Runs.back (fun t_ k_ => XS.i2l X0.here hx rfl (hb hby d1_24) rfl k_) ?_
  show Runs _ _ _ _ s₁ (mkF m 25 #[.val (.ref r0), .val (.int p1), .val (.int p2), .val (.int p3), .val (.long w2), .second, .val (.int x2)] [(.long ((u (k + 4)).toInt64)), (.long w2)])
  refine Runs.back (X0.ldc2Long hx hown (mvT hZ (hw _ (List.mem_of_getElem? (i := 6) rfl))) (g := (mkF m 25 #[.val (.ref r0), .val (.int p1), .val (.int p2), .val (.int p3), .val (.long w2), .second, .val (.int x2)] [(.long ((u (k + 4)).toInt64)), (.long w2)])) rfl (hb hby d1_25)) ?_
  show Runs _ _ _ _ s₁ (mkF m 28 #[.val (.ref r0), .val (.int p1), .val (.int p2), .val (.int p3), .val (.long w2), .second, .val (.int x2)] [(.long (255 : Int64)), (.long ((u (k + 4)).toInt64)), (.long w2)])
  refine Runs.back (fun t_ k_ => XS.land X0.here hx rfl (hb hby d1_28) rfl k_) ?_
  show Runs _ _ _ _ s₁ (mkF m 29 #[.val (.ref r0), .val (.int p1), .val (.int p2), .val (.int p3), .val (.long w2), .second, .val (.int x2)] [(.long (((u (k + 4)).toInt64) &&& (255 : Int64))), (.long w2)])
  refine Runs.back (fun t_ k_ => XS.bipush X0.here hx rfl (hb hby d1_29) k_) ?_
  show Runs _ _ _ _ s₁ (mkF m 31 #[.val (.ref r0), .val (.int p1), .val (.int p2), .val (.int p3), .val (.long w2), .second, .val (.int x2)] [(.int (8 : Int32)), (.long (((u (k + 4)).toInt64) &&& (255 : Int64))), (.long w2)])
  refine Runs.back (fun t_ k_ => XS.iload X0.here hx rfl (hb hby d1_31) rfl k_) ?_
  show Runs _ _ _ _ s₁ (mkF m 33 #[.val (.ref r0), .val (.int p1), .val (.int p2), .val (.int p3), .val (.long w2), .second, .val (.int x2)] [(.int x2), (.int (8 : Int32)), (.long (((u (k + 4)).toInt64) &&& (255 : Int64))), (.long w2)])
  refine Runs.back (fun t_ k_ => XS.iloadN X0.here hx rfl (hb hby d1_33) rfl k_) ?_
  show Runs _ _ _ _ s₁ (mkF m 34 #[.val (.ref r0), .val (.int p1), .val (.int p2), .val (.int p3), .val (.long w2), .second, .val (.int x2)] [(.int p1), (.int x2), (.int (8 : Int32)), (.long (((u (k + 4)).toInt64) &&& (255 : Int64))), (.long w2)])
  refine Runs.back (fun t_ k_ => XS.isub X0.here hx rfl (hb hby d1_34) rfl k_) ?_
  show Runs _ _ _ _ s₁ (mkF m 35 #[.val (.ref r0), .val (.int p1), .val (.int p2), .val (.int p3), .val (.long w2), .second, .val (.int x2)] [(.int (x2 - p1)), (.int (8 : Int32)), (.long (((u (k + 4)).toInt64) &&& (255 : Int64))), (.long w2)])
  refine Runs.back (fun t_ k_ => XS.imul X0.here hx rfl (hb hby d1_35) rfl k_) ?_
  show Runs _ _ _ _ s₁ (mkF m 36 #[.val (.ref r0), .val (.int p1), .val (.int p2), .val (.int p3), .val (.long w2), .second, .val (.int x2)] [(.int ((8 : Int32) * (x2 - p1))), (.long (((u (k + 4)).toInt64) &&& (255 : Int64))), (.long w2)])
  refine Runs.back (fun t_ k_ => XS.lshl X0.here hx rfl (hb hby d1_36) rfl k_) ?_
  show Runs _ _ _ _ s₁ (mkF m 37 #[.val (.ref r0), .val (.int p1), .val (.int p2), .val (.int p3), .val (.long w2), .second, .val (.int x2)] [(.long ((((u (k + 4)).toInt64) &&& (255 : Int64)) <<< (((8 : Int32) * (x2 - p1)) &&& 0x3f).toInt64)), (.long w2)])
  refine Runs.back (fun t_ k_ => XS.lor X0.here hx rfl (hb hby d1_37) rfl k_) ?_
  show Runs _ _ _ _ s₁ (mkF m 38 #[.val (.ref r0), .val (.int p1), .val (.int p2), .val (.int p3), .val (.long w2), .second, .val (.int x2)] [(.long (w2 ||| ((((u (k + 4)).toInt64) &&& (255 : Int64)) <<< (((8 : Int32) * (x2 - p1)) &&& 0x3f).toInt64)))])
  refine Runs.back (fun t_ k_ => XS.lstore X0.here hx rfl (hb hby d1_38) rfl (l' := #[.val (.ref r0), .val (.int p1), .val (.int p2), .val (.int p3), .val (.long (w2 ||| ((((u (k + 4)).toInt64) &&& (255 : Int64)) <<< (((8 : Int32) * (x2 - p1)) &&& 0x3f).toInt64))), .second, .val (.int x2)]) rfl k_) ?_
  show Runs _ _ _ _ s₁ (mkF m 40 #[.val (.ref r0), .val (.int p1), .val (.int p2), .val (.int p3), .val (.long (w2 ||| ((((u (k + 4)).toInt64) &&& (255 : Int64)) <<< (((8 : Int32) * (x2 - p1)) &&& 0x3f).toInt64))), .second, .val (.int x2)] [])
  refine Runs.back (fun t_ k_ => XS.iinc X0.here hx rfl (hb hby d1_40) rfl (l' := #[.val (.ref r0), .val (.int p1), .val (.int p2), .val (.int p3), .val (.long (w2 ||| ((((u (k + 4)).toInt64) &&& (255 : Int64)) <<< (((8 : Int32) * (x2 - p1)) &&& 0x3f).toInt64))), .second, .val (.int (x2 + (-1 : Int32)))]) rfl k_) ?_
  show Runs _ _ _ _ s₁ (mkF m 43 #[.val (.ref r0), .val (.int p1), .val (.int p2), .val (.int p3), .val (.long (w2 ||| ((((u (k + 4)).toInt64) &&& (255 : Int64)) <<< (((8 : Int32) * (x2 - p1)) &&& 0x3f).toInt64))), .second, .val (.int (x2 + (-1 : Int32)))] [])
  refine Runs.back (fun t_ k_ => XS.goto X0.here hx rfl (pc0 := 43) (pc' := 12) rfl (hb hby d1_43) (by decide) (by decide) k_) ?_
  show Runs _ _ _ _ s₁ (mkF m 12 #[.val (.ref r0), .val (.int p1), .val (.int p2), .val (.int p3), .val (.long (w2 ||| ((((u (k + 4)).toInt64) &&& (255 : Int64)) <<< (((8 : Int32) * (x2 - p1)) &&& 0x3f).toInt64))), .second, .val (.int (x2 + (-1 : Int32)))] [])
  have sq3 : ((8 : Int32) * (x2 - p1)) = (32 : Int32) := by
    have d : (x2 - p1).toInt = 4 := by rw [sub32 (by omega) (by omega)]; omega
    obtain e : (x2 - p1) = (4 : Int32) := eqi.mpr (by rw [d]; decide)
    rw [e]; decide
  have hw3 : Cg ((w2 ||| ((((u (k + 4)).toInt64) &&& (255 : Int64)) <<< (((8 : Int32) * (x2 - p1)) &&& 0x3f).toInt64))).toInt (p3.toInt * 72057594037927936 + ((dl (k + 6) : Nat) : Int) * 281474976710656 + ((dl (k + 5) : Nat) : Int) * 1099511627776 + ((dl (k + 4) : Nat) : Int) * 4294967296) := lw4 sq3 (hd (k + 4) (by omega)) hw2 (by omega)
  have hx3 : ((x2 + (-1 : Int32))).toInt = (k : Int) + 4 - 1 := by rw [add32 (by rw [show (-1 : Int32).toInt = -1 from by decide]; omega) (by rw [show (-1 : Int32).toInt = -1 from by decide]; omega), show (-1 : Int32).toInt = -1 from by decide, hx2]; omega
  clear hx2 hk2 hn2 sq3 hw2
  generalize ew3 : (w2 ||| ((((u (k + 4)).toInt64) &&& (255 : Int64)) <<< (((8 : Int32) * (x2 - p1)) &&& 0x3f).toInt64)) = w3 at hw3 ⊢
  generalize ex3 : (x2 + (-1 : Int32)) = x3 at hx3 ⊢
  clear ew3 ex3
  show Runs _ _ _ _ s₁ (mkF m 12 #[.val (.ref r0), .val (.int p1), .val (.int p2), .val (.int p3), .val (.long w3), .second, .val (.int x3)] [])
  have hn3 : ¬ x3 < 0 := by rw [lti, z32]; omega
  have hk3 : x3.toNatClampNeg = k + 3 := by have q := nat_of hn3; omega
  refine Runs.back (fun t_ k_ => XS.iload X0.here hx rfl (hb hby d1_12) rfl k_) ?_
  show Runs _ _ _ _ s₁ (mkF m 14 #[.val (.ref r0), .val (.int p1), .val (.int p2), .val (.int p3), .val (.long w3), .second, .val (.int x3)] [(.int x3)])
  refine Runs.back (fun t_ k_ => XS.iloadN X0.here hx rfl (hb hby d1_14) rfl k_) ?_
  show Runs _ _ _ _ s₁ (mkF m 15 #[.val (.ref r0), .val (.int p1), .val (.int p2), .val (.int p3), .val (.long w3), .second, .val (.int x3)] [(.int p1), (.int x3)])
  refine Runs.back (fun t_ k_ => XS.icmpNo X0.here hx rfl (hb hby d1_15) rfl (flt (show ¬ (x3 < p1) from (by rw [lti]; omega))).1 k_) ?_
  show Runs _ _ _ _ s₁ (mkF m 18 #[.val (.ref r0), .val (.int p1), .val (.int p2), .val (.int p3), .val (.long w3), .second, .val (.int x3)] [])
  refine Runs.back (fun t_ k_ => XS.lload X0.here hx rfl (hb hby d1_18) rfl k_) ?_
  show Runs _ _ _ _ s₁ (mkF m 20 #[.val (.ref r0), .val (.int p1), .val (.int p2), .val (.int p3), .val (.long w3), .second, .val (.int x3)] [(.long w3)])
  refine Runs.back (fun t_ k_ => XS.aloadN X0.here hx rfl (hb hby d1_20) rfl rfl k_) ?_
  show Runs _ _ _ _ s₁ (mkF m 21 #[.val (.ref r0), .val (.int p1), .val (.int p2), .val (.int p3), .val (.long w3), .second, .val (.int x3)] [(.ref r0), (.long w3)])
  refine Runs.back (fun t_ k_ => XS.iload X0.here hx rfl (hb hby d1_21) rfl k_) ?_
  show Runs _ _ _ _ s₁ (mkF m 23 #[.val (.ref r0), .val (.int p1), .val (.int p2), .val (.int p3), .val (.long w3), .second, .val (.int x3)] [(.int x3), (.ref r0), (.long w3)])
  obtain ⟨cl4, Ar4, S4, Hs4⟩ := id A1
  have at4 : cl4.slots[(x3).toNatClampNeg]? = some (.int (u (k + 3))) := readO Hs4 hk3 (show (k + 3) < 16 from (by first | omega | decide)) (rfl)
  refine Runs.back (fun t_ k_ => X0.baloadBytes hx (j := x3) (v := (.int (u (k + 3)))) (by rw [e0]; exact Ar4.1) (State.isArrayOf_alike hZ.alike Ar4.2.1) Ar4.2.2 (by rw [S4]; exact (inbO hn3 hk3 (show (k + 3) < 16 from (by first | omega | decide)))) at4 (g := (mkF m 23 #[.val (.ref r0), .val (.int p1), .val (.int p2), .val (.int p3), .val (.long w3), .second, .val (.int x3)] [(.int x3), (.ref r0), (.long w3)])) rfl rfl (hb hby d1_23) _ k_) ?_
  clear at4 Hs4 S4 Ar4
  show Runs _ _ _ _ s₁ (mkF m 24 #[.val (.ref r0), .val (.int p1), .val (.int p2), .val (.int p3), .val (.long w3), .second, .val (.int x3)] [(.int (u (k + 3))), (.long w3)])
  refine Runs.back (fun t_ k_ => XS.i2l X0.here hx rfl (hb hby d1_24) rfl k_) ?_
  show Runs _ _ _ _ s₁ (mkF m 25 #[.val (.ref r0), .val (.int p1), .val (.int p2), .val (.int p3), .val (.long w3), .second, .val (.int x3)] [(.long ((u (k + 3)).toInt64)), (.long w3)])
  refine Runs.back (X0.ldc2Long hx hown (mvT hZ (hw _ (List.mem_of_getElem? (i := 6) rfl))) (g := (mkF m 25 #[.val (.ref r0), .val (.int p1), .val (.int p2), .val (.int p3), .val (.long w3), .second, .val (.int x3)] [(.long ((u (k + 3)).toInt64)), (.long w3)])) rfl (hb hby d1_25)) ?_
  show Runs _ _ _ _ s₁ (mkF m 28 #[.val (.ref r0), .val (.int p1), .val (.int p2), .val (.int p3), .val (.long w3), .second, .val (.int x3)] [(.long (255 : Int64)), (.long ((u (k + 3)).toInt64)), (.long w3)])
  refine Runs.back (fun t_ k_ => XS.land X0.here hx rfl (hb hby d1_28) rfl k_) ?_
  show Runs _ _ _ _ s₁ (mkF m 29 #[.val (.ref r0), .val (.int p1), .val (.int p2), .val (.int p3), .val (.long w3), .second, .val (.int x3)] [(.long (((u (k + 3)).toInt64) &&& (255 : Int64))), (.long w3)])
  refine Runs.back (fun t_ k_ => XS.bipush X0.here hx rfl (hb hby d1_29) k_) ?_
  show Runs _ _ _ _ s₁ (mkF m 31 #[.val (.ref r0), .val (.int p1), .val (.int p2), .val (.int p3), .val (.long w3), .second, .val (.int x3)] [(.int (8 : Int32)), (.long (((u (k + 3)).toInt64) &&& (255 : Int64))), (.long w3)])
  refine Runs.back (fun t_ k_ => XS.iload X0.here hx rfl (hb hby d1_31) rfl k_) ?_
  show Runs _ _ _ _ s₁ (mkF m 33 #[.val (.ref r0), .val (.int p1), .val (.int p2), .val (.int p3), .val (.long w3), .second, .val (.int x3)] [(.int x3), (.int (8 : Int32)), (.long (((u (k + 3)).toInt64) &&& (255 : Int64))), (.long w3)])
  refine Runs.back (fun t_ k_ => XS.iloadN X0.here hx rfl (hb hby d1_33) rfl k_) ?_
  show Runs _ _ _ _ s₁ (mkF m 34 #[.val (.ref r0), .val (.int p1), .val (.int p2), .val (.int p3), .val (.long w3), .second, .val (.int x3)] [(.int p1), (.int x3), (.int (8 : Int32)), (.long (((u (k + 3)).toInt64) &&& (255 : Int64))), (.long w3)])
  refine Runs.back (fun t_ k_ => XS.isub X0.here hx rfl (hb hby d1_34) rfl k_) ?_
  show Runs _ _ _ _ s₁ (mkF m 35 #[.val (.ref r0), .val (.int p1), .val (.int p2), .val (.int p3), .val (.long w3), .second, .val (.int x3)] [(.int (x3 - p1)), (.int (8 : Int32)), (.long (((u (k + 3)).toInt64) &&& (255 : Int64))), (.long w3)])
  refine Runs.back (fun t_ k_ => XS.imul X0.here hx rfl (hb hby d1_35) rfl k_) ?_
  show Runs _ _ _ _ s₁ (mkF m 36 #[.val (.ref r0), .val (.int p1), .val (.int p2), .val (.int p3), .val (.long w3), .second, .val (.int x3)] [(.int ((8 : Int32) * (x3 - p1))), (.long (((u (k + 3)).toInt64) &&& (255 : Int64))), (.long w3)])
  refine Runs.back (fun t_ k_ => XS.lshl X0.here hx rfl (hb hby d1_36) rfl k_) ?_
  show Runs _ _ _ _ s₁ (mkF m 37 #[.val (.ref r0), .val (.int p1), .val (.int p2), .val (.int p3), .val (.long w3), .second, .val (.int x3)] [(.long ((((u (k + 3)).toInt64) &&& (255 : Int64)) <<< (((8 : Int32) * (x3 - p1)) &&& 0x3f).toInt64)), (.long w3)])
  refine Runs.back (fun t_ k_ => XS.lor X0.here hx rfl (hb hby d1_37) rfl k_) ?_
  show Runs _ _ _ _ s₁ (mkF m 38 #[.val (.ref r0), .val (.int p1), .val (.int p2), .val (.int p3), .val (.long w3), .second, .val (.int x3)] [(.long (w3 ||| ((((u (k + 3)).toInt64) &&& (255 : Int64)) <<< (((8 : Int32) * (x3 - p1)) &&& 0x3f).toInt64)))])
  refine Runs.back (fun t_ k_ => XS.lstore X0.here hx rfl (hb hby d1_38) rfl (l' := #[.val (.ref r0), .val (.int p1), .val (.int p2), .val (.int p3), .val (.long (w3 ||| ((((u (k + 3)).toInt64) &&& (255 : Int64)) <<< (((8 : Int32) * (x3 - p1)) &&& 0x3f).toInt64))), .second, .val (.int x3)]) rfl k_) ?_
  show Runs _ _ _ _ s₁ (mkF m 40 #[.val (.ref r0), .val (.int p1), .val (.int p2), .val (.int p3), .val (.long (w3 ||| ((((u (k + 3)).toInt64) &&& (255 : Int64)) <<< (((8 : Int32) * (x3 - p1)) &&& 0x3f).toInt64))), .second, .val (.int x3)] [])
  refine Runs.back (fun t_ k_ => XS.iinc X0.here hx rfl (hb hby d1_40) rfl (l' := #[.val (.ref r0), .val (.int p1), .val (.int p2), .val (.int p3), .val (.long (w3 ||| ((((u (k + 3)).toInt64) &&& (255 : Int64)) <<< (((8 : Int32) * (x3 - p1)) &&& 0x3f).toInt64))), .second, .val (.int (x3 + (-1 : Int32)))]) rfl k_) ?_
  show Runs _ _ _ _ s₁ (mkF m 43 #[.val (.ref r0), .val (.int p1), .val (.int p2), .val (.int p3), .val (.long (w3 ||| ((((u (k + 3)).toInt64) &&& (255 : Int64)) <<< (((8 : Int32) * (x3 - p1)) &&& 0x3f).toInt64))), .second, .val (.int (x3 + (-1 : Int32)))] [])
  refine Runs.back (fun t_ k_ => XS.goto X0.here hx rfl (pc0 := 43) (pc' := 12) rfl (hb hby d1_43) (by decide) (by decide) k_) ?_
  show Runs _ _ _ _ s₁ (mkF m 12 #[.val (.ref r0), .val (.int p1), .val (.int p2), .val (.int p3), .val (.long (w3 ||| ((((u (k + 3)).toInt64) &&& (255 : Int64)) <<< (((8 : Int32) * (x3 - p1)) &&& 0x3f).toInt64))), .second, .val (.int (x3 + (-1 : Int32)))] [])
  have sq4 : ((8 : Int32) * (x3 - p1)) = (24 : Int32) := by
    have d : (x3 - p1).toInt = 3 := by rw [sub32 (by omega) (by omega)]; omega
    obtain e : (x3 - p1) = (3 : Int32) := eqi.mpr (by rw [d]; decide)
    rw [e]; decide
  have hw4 : Cg ((w3 ||| ((((u (k + 3)).toInt64) &&& (255 : Int64)) <<< (((8 : Int32) * (x3 - p1)) &&& 0x3f).toInt64))).toInt (p3.toInt * 72057594037927936 + ((dl (k + 6) : Nat) : Int) * 281474976710656 + ((dl (k + 5) : Nat) : Int) * 1099511627776 + ((dl (k + 4) : Nat) : Int) * 4294967296 + ((dl (k + 3) : Nat) : Int) * 16777216) := lw3 sq4 (hd (k + 3) (by omega)) hw3 (by omega)
  have hx4 : ((x3 + (-1 : Int32))).toInt = (k : Int) + 3 - 1 := by rw [add32 (by rw [show (-1 : Int32).toInt = -1 from by decide]; omega) (by rw [show (-1 : Int32).toInt = -1 from by decide]; omega), show (-1 : Int32).toInt = -1 from by decide, hx3]; omega
  clear hx3 hk3 hn3 sq4 hw3
  generalize ew4 : (w3 ||| ((((u (k + 3)).toInt64) &&& (255 : Int64)) <<< (((8 : Int32) * (x3 - p1)) &&& 0x3f).toInt64)) = w4 at hw4 ⊢
  generalize ex4 : (x3 + (-1 : Int32)) = x4 at hx4 ⊢
  clear ew4 ex4
  show Runs _ _ _ _ s₁ (mkF m 12 #[.val (.ref r0), .val (.int p1), .val (.int p2), .val (.int p3), .val (.long w4), .second, .val (.int x4)] [])
  have hn4 : ¬ x4 < 0 := by rw [lti, z32]; omega
  have hk4 : x4.toNatClampNeg = k + 2 := by have q := nat_of hn4; omega
  refine Runs.back (fun t_ k_ => XS.iload X0.here hx rfl (hb hby d1_12) rfl k_) ?_
  show Runs _ _ _ _ s₁ (mkF m 14 #[.val (.ref r0), .val (.int p1), .val (.int p2), .val (.int p3), .val (.long w4), .second, .val (.int x4)] [(.int x4)])
  refine Runs.back (fun t_ k_ => XS.iloadN X0.here hx rfl (hb hby d1_14) rfl k_) ?_
  show Runs _ _ _ _ s₁ (mkF m 15 #[.val (.ref r0), .val (.int p1), .val (.int p2), .val (.int p3), .val (.long w4), .second, .val (.int x4)] [(.int p1), (.int x4)])
  refine Runs.back (fun t_ k_ => XS.icmpNo X0.here hx rfl (hb hby d1_15) rfl (flt (show ¬ (x4 < p1) from (by rw [lti]; omega))).1 k_) ?_
  show Runs _ _ _ _ s₁ (mkF m 18 #[.val (.ref r0), .val (.int p1), .val (.int p2), .val (.int p3), .val (.long w4), .second, .val (.int x4)] [])
  refine Runs.back (fun t_ k_ => XS.lload X0.here hx rfl (hb hby d1_18) rfl k_) ?_
  show Runs _ _ _ _ s₁ (mkF m 20 #[.val (.ref r0), .val (.int p1), .val (.int p2), .val (.int p3), .val (.long w4), .second, .val (.int x4)] [(.long w4)])
  refine Runs.back (fun t_ k_ => XS.aloadN X0.here hx rfl (hb hby d1_20) rfl rfl k_) ?_
  show Runs _ _ _ _ s₁ (mkF m 21 #[.val (.ref r0), .val (.int p1), .val (.int p2), .val (.int p3), .val (.long w4), .second, .val (.int x4)] [(.ref r0), (.long w4)])
  refine Runs.back (fun t_ k_ => XS.iload X0.here hx rfl (hb hby d1_21) rfl k_) ?_
  show Runs _ _ _ _ s₁ (mkF m 23 #[.val (.ref r0), .val (.int p1), .val (.int p2), .val (.int p3), .val (.long w4), .second, .val (.int x4)] [(.int x4), (.ref r0), (.long w4)])
  obtain ⟨cl5, Ar5, S5, Hs5⟩ := id A1
  have at5 : cl5.slots[(x4).toNatClampNeg]? = some (.int (u (k + 2))) := readO Hs5 hk4 (show (k + 2) < 16 from (by first | omega | decide)) (rfl)
  refine Runs.back (fun t_ k_ => X0.baloadBytes hx (j := x4) (v := (.int (u (k + 2)))) (by rw [e0]; exact Ar5.1) (State.isArrayOf_alike hZ.alike Ar5.2.1) Ar5.2.2 (by rw [S5]; exact (inbO hn4 hk4 (show (k + 2) < 16 from (by first | omega | decide)))) at5 (g := (mkF m 23 #[.val (.ref r0), .val (.int p1), .val (.int p2), .val (.int p3), .val (.long w4), .second, .val (.int x4)] [(.int x4), (.ref r0), (.long w4)])) rfl rfl (hb hby d1_23) _ k_) ?_
  clear at5 Hs5 S5 Ar5
  show Runs _ _ _ _ s₁ (mkF m 24 #[.val (.ref r0), .val (.int p1), .val (.int p2), .val (.int p3), .val (.long w4), .second, .val (.int x4)] [(.int (u (k + 2))), (.long w4)])
  refine Runs.back (fun t_ k_ => XS.i2l X0.here hx rfl (hb hby d1_24) rfl k_) ?_
  show Runs _ _ _ _ s₁ (mkF m 25 #[.val (.ref r0), .val (.int p1), .val (.int p2), .val (.int p3), .val (.long w4), .second, .val (.int x4)] [(.long ((u (k + 2)).toInt64)), (.long w4)])
  refine Runs.back (X0.ldc2Long hx hown (mvT hZ (hw _ (List.mem_of_getElem? (i := 6) rfl))) (g := (mkF m 25 #[.val (.ref r0), .val (.int p1), .val (.int p2), .val (.int p3), .val (.long w4), .second, .val (.int x4)] [(.long ((u (k + 2)).toInt64)), (.long w4)])) rfl (hb hby d1_25)) ?_
  show Runs _ _ _ _ s₁ (mkF m 28 #[.val (.ref r0), .val (.int p1), .val (.int p2), .val (.int p3), .val (.long w4), .second, .val (.int x4)] [(.long (255 : Int64)), (.long ((u (k + 2)).toInt64)), (.long w4)])
  refine Runs.back (fun t_ k_ => XS.land X0.here hx rfl (hb hby d1_28) rfl k_) ?_
  show Runs _ _ _ _ s₁ (mkF m 29 #[.val (.ref r0), .val (.int p1), .val (.int p2), .val (.int p3), .val (.long w4), .second, .val (.int x4)] [(.long (((u (k + 2)).toInt64) &&& (255 : Int64))), (.long w4)])
  refine Runs.back (fun t_ k_ => XS.bipush X0.here hx rfl (hb hby d1_29) k_) ?_
  show Runs _ _ _ _ s₁ (mkF m 31 #[.val (.ref r0), .val (.int p1), .val (.int p2), .val (.int p3), .val (.long w4), .second, .val (.int x4)] [(.int (8 : Int32)), (.long (((u (k + 2)).toInt64) &&& (255 : Int64))), (.long w4)])
  refine Runs.back (fun t_ k_ => XS.iload X0.here hx rfl (hb hby d1_31) rfl k_) ?_
  show Runs _ _ _ _ s₁ (mkF m 33 #[.val (.ref r0), .val (.int p1), .val (.int p2), .val (.int p3), .val (.long w4), .second, .val (.int x4)] [(.int x4), (.int (8 : Int32)), (.long (((u (k + 2)).toInt64) &&& (255 : Int64))), (.long w4)])
  refine Runs.back (fun t_ k_ => XS.iloadN X0.here hx rfl (hb hby d1_33) rfl k_) ?_
  show Runs _ _ _ _ s₁ (mkF m 34 #[.val (.ref r0), .val (.int p1), .val (.int p2), .val (.int p3), .val (.long w4), .second, .val (.int x4)] [(.int p1), (.int x4), (.int (8 : Int32)), (.long (((u (k + 2)).toInt64) &&& (255 : Int64))), (.long w4)])
  refine Runs.back (fun t_ k_ => XS.isub X0.here hx rfl (hb hby d1_34) rfl k_) ?_
  show Runs _ _ _ _ s₁ (mkF m 35 #[.val (.ref r0), .val (.int p1), .val (.int p2), .val (.int p3), .val (.long w4), .second, .val (.int x4)] [(.int (x4 - p1)), (.int (8 : Int32)), (.long (((u (k + 2)).toInt64) &&& (255 : Int64))), (.long w4)])
  refine Runs.back (fun t_ k_ => XS.imul X0.here hx rfl (hb hby d1_35) rfl k_) ?_
  show Runs _ _ _ _ s₁ (mkF m 36 #[.val (.ref r0), .val (.int p1), .val (.int p2), .val (.int p3), .val (.long w4), .second, .val (.int x4)] [(.int ((8 : Int32) * (x4 - p1))), (.long (((u (k + 2)).toInt64) &&& (255 : Int64))), (.long w4)])
  refine Runs.back (fun t_ k_ => XS.lshl X0.here hx rfl (hb hby d1_36) rfl k_) ?_
  show Runs _ _ _ _ s₁ (mkF m 37 #[.val (.ref r0), .val (.int p1), .val (.int p2), .val (.int p3), .val (.long w4), .second, .val (.int x4)] [(.long ((((u (k + 2)).toInt64) &&& (255 : Int64)) <<< (((8 : Int32) * (x4 - p1)) &&& 0x3f).toInt64)), (.long w4)])
  refine Runs.back (fun t_ k_ => XS.lor X0.here hx rfl (hb hby d1_37) rfl k_) ?_
  show Runs _ _ _ _ s₁ (mkF m 38 #[.val (.ref r0), .val (.int p1), .val (.int p2), .val (.int p3), .val (.long w4), .second, .val (.int x4)] [(.long (w4 ||| ((((u (k + 2)).toInt64) &&& (255 : Int64)) <<< (((8 : Int32) * (x4 - p1)) &&& 0x3f).toInt64)))])
  refine Runs.back (fun t_ k_ => XS.lstore X0.here hx rfl (hb hby d1_38) rfl (l' := #[.val (.ref r0), .val (.int p1), .val (.int p2), .val (.int p3), .val (.long (w4 ||| ((((u (k + 2)).toInt64) &&& (255 : Int64)) <<< (((8 : Int32) * (x4 - p1)) &&& 0x3f).toInt64))), .second, .val (.int x4)]) rfl k_) ?_
  show Runs _ _ _ _ s₁ (mkF m 40 #[.val (.ref r0), .val (.int p1), .val (.int p2), .val (.int p3), .val (.long (w4 ||| ((((u (k + 2)).toInt64) &&& (255 : Int64)) <<< (((8 : Int32) * (x4 - p1)) &&& 0x3f).toInt64))), .second, .val (.int x4)] [])
  refine Runs.back (fun t_ k_ => XS.iinc X0.here hx rfl (hb hby d1_40) rfl (l' := #[.val (.ref r0), .val (.int p1), .val (.int p2), .val (.int p3), .val (.long (w4 ||| ((((u (k + 2)).toInt64) &&& (255 : Int64)) <<< (((8 : Int32) * (x4 - p1)) &&& 0x3f).toInt64))), .second, .val (.int (x4 + (-1 : Int32)))]) rfl k_) ?_
  show Runs _ _ _ _ s₁ (mkF m 43 #[.val (.ref r0), .val (.int p1), .val (.int p2), .val (.int p3), .val (.long (w4 ||| ((((u (k + 2)).toInt64) &&& (255 : Int64)) <<< (((8 : Int32) * (x4 - p1)) &&& 0x3f).toInt64))), .second, .val (.int (x4 + (-1 : Int32)))] [])
  refine Runs.back (fun t_ k_ => XS.goto X0.here hx rfl (pc0 := 43) (pc' := 12) rfl (hb hby d1_43) (by decide) (by decide) k_) ?_
  show Runs _ _ _ _ s₁ (mkF m 12 #[.val (.ref r0), .val (.int p1), .val (.int p2), .val (.int p3), .val (.long (w4 ||| ((((u (k + 2)).toInt64) &&& (255 : Int64)) <<< (((8 : Int32) * (x4 - p1)) &&& 0x3f).toInt64))), .second, .val (.int (x4 + (-1 : Int32)))] [])
  have sq5 : ((8 : Int32) * (x4 - p1)) = (16 : Int32) := by
    have d : (x4 - p1).toInt = 2 := by rw [sub32 (by omega) (by omega)]; omega
    obtain e : (x4 - p1) = (2 : Int32) := eqi.mpr (by rw [d]; decide)
    rw [e]; decide
  have hw5 : Cg ((w4 ||| ((((u (k + 2)).toInt64) &&& (255 : Int64)) <<< (((8 : Int32) * (x4 - p1)) &&& 0x3f).toInt64))).toInt (p3.toInt * 72057594037927936 + ((dl (k + 6) : Nat) : Int) * 281474976710656 + ((dl (k + 5) : Nat) : Int) * 1099511627776 + ((dl (k + 4) : Nat) : Int) * 4294967296 + ((dl (k + 3) : Nat) : Int) * 16777216 + ((dl (k + 2) : Nat) : Int) * 65536) := lw2 sq5 (hd (k + 2) (by omega)) hw4 (by omega)
  have hx5 : ((x4 + (-1 : Int32))).toInt = (k : Int) + 2 - 1 := by rw [add32 (by rw [show (-1 : Int32).toInt = -1 from by decide]; omega) (by rw [show (-1 : Int32).toInt = -1 from by decide]; omega), show (-1 : Int32).toInt = -1 from by decide, hx4]; omega
  clear hx4 hk4 hn4 sq5 hw4
  generalize ew5 : (w4 ||| ((((u (k + 2)).toInt64) &&& (255 : Int64)) <<< (((8 : Int32) * (x4 - p1)) &&& 0x3f).toInt64)) = w5 at hw5 ⊢
  generalize ex5 : (x4 + (-1 : Int32)) = x5 at hx5 ⊢
  clear ew5 ex5
  show Runs _ _ _ _ s₁ (mkF m 12 #[.val (.ref r0), .val (.int p1), .val (.int p2), .val (.int p3), .val (.long w5), .second, .val (.int x5)] [])
  have hn5 : ¬ x5 < 0 := by rw [lti, z32]; omega
  have hk5 : x5.toNatClampNeg = k + 1 := by have q := nat_of hn5; omega
  refine Runs.back (fun t_ k_ => XS.iload X0.here hx rfl (hb hby d1_12) rfl k_) ?_
  show Runs _ _ _ _ s₁ (mkF m 14 #[.val (.ref r0), .val (.int p1), .val (.int p2), .val (.int p3), .val (.long w5), .second, .val (.int x5)] [(.int x5)])
  refine Runs.back (fun t_ k_ => XS.iloadN X0.here hx rfl (hb hby d1_14) rfl k_) ?_
  show Runs _ _ _ _ s₁ (mkF m 15 #[.val (.ref r0), .val (.int p1), .val (.int p2), .val (.int p3), .val (.long w5), .second, .val (.int x5)] [(.int p1), (.int x5)])
  refine Runs.back (fun t_ k_ => XS.icmpNo X0.here hx rfl (hb hby d1_15) rfl (flt (show ¬ (x5 < p1) from (by rw [lti]; omega))).1 k_) ?_
  show Runs _ _ _ _ s₁ (mkF m 18 #[.val (.ref r0), .val (.int p1), .val (.int p2), .val (.int p3), .val (.long w5), .second, .val (.int x5)] [])
  refine Runs.back (fun t_ k_ => XS.lload X0.here hx rfl (hb hby d1_18) rfl k_) ?_
  show Runs _ _ _ _ s₁ (mkF m 20 #[.val (.ref r0), .val (.int p1), .val (.int p2), .val (.int p3), .val (.long w5), .second, .val (.int x5)] [(.long w5)])
  refine Runs.back (fun t_ k_ => XS.aloadN X0.here hx rfl (hb hby d1_20) rfl rfl k_) ?_
  show Runs _ _ _ _ s₁ (mkF m 21 #[.val (.ref r0), .val (.int p1), .val (.int p2), .val (.int p3), .val (.long w5), .second, .val (.int x5)] [(.ref r0), (.long w5)])
  refine Runs.back (fun t_ k_ => XS.iload X0.here hx rfl (hb hby d1_21) rfl k_) ?_
  show Runs _ _ _ _ s₁ (mkF m 23 #[.val (.ref r0), .val (.int p1), .val (.int p2), .val (.int p3), .val (.long w5), .second, .val (.int x5)] [(.int x5), (.ref r0), (.long w5)])
  obtain ⟨cl6, Ar6, S6, Hs6⟩ := id A1
  have at6 : cl6.slots[(x5).toNatClampNeg]? = some (.int (u (k + 1))) := readO Hs6 hk5 (show (k + 1) < 16 from (by first | omega | decide)) (rfl)
  refine Runs.back (fun t_ k_ => X0.baloadBytes hx (j := x5) (v := (.int (u (k + 1)))) (by rw [e0]; exact Ar6.1) (State.isArrayOf_alike hZ.alike Ar6.2.1) Ar6.2.2 (by rw [S6]; exact (inbO hn5 hk5 (show (k + 1) < 16 from (by first | omega | decide)))) at6 (g := (mkF m 23 #[.val (.ref r0), .val (.int p1), .val (.int p2), .val (.int p3), .val (.long w5), .second, .val (.int x5)] [(.int x5), (.ref r0), (.long w5)])) rfl rfl (hb hby d1_23) _ k_) ?_
  clear at6 Hs6 S6 Ar6
  show Runs _ _ _ _ s₁ (mkF m 24 #[.val (.ref r0), .val (.int p1), .val (.int p2), .val (.int p3), .val (.long w5), .second, .val (.int x5)] [(.int (u (k + 1))), (.long w5)])
  refine Runs.back (fun t_ k_ => XS.i2l X0.here hx rfl (hb hby d1_24) rfl k_) ?_
  show Runs _ _ _ _ s₁ (mkF m 25 #[.val (.ref r0), .val (.int p1), .val (.int p2), .val (.int p3), .val (.long w5), .second, .val (.int x5)] [(.long ((u (k + 1)).toInt64)), (.long w5)])
  refine Runs.back (X0.ldc2Long hx hown (mvT hZ (hw _ (List.mem_of_getElem? (i := 6) rfl))) (g := (mkF m 25 #[.val (.ref r0), .val (.int p1), .val (.int p2), .val (.int p3), .val (.long w5), .second, .val (.int x5)] [(.long ((u (k + 1)).toInt64)), (.long w5)])) rfl (hb hby d1_25)) ?_
  show Runs _ _ _ _ s₁ (mkF m 28 #[.val (.ref r0), .val (.int p1), .val (.int p2), .val (.int p3), .val (.long w5), .second, .val (.int x5)] [(.long (255 : Int64)), (.long ((u (k + 1)).toInt64)), (.long w5)])
  refine Runs.back (fun t_ k_ => XS.land X0.here hx rfl (hb hby d1_28) rfl k_) ?_
  show Runs _ _ _ _ s₁ (mkF m 29 #[.val (.ref r0), .val (.int p1), .val (.int p2), .val (.int p3), .val (.long w5), .second, .val (.int x5)] [(.long (((u (k + 1)).toInt64) &&& (255 : Int64))), (.long w5)])
  refine Runs.back (fun t_ k_ => XS.bipush X0.here hx rfl (hb hby d1_29) k_) ?_
  show Runs _ _ _ _ s₁ (mkF m 31 #[.val (.ref r0), .val (.int p1), .val (.int p2), .val (.int p3), .val (.long w5), .second, .val (.int x5)] [(.int (8 : Int32)), (.long (((u (k + 1)).toInt64) &&& (255 : Int64))), (.long w5)])
  refine Runs.back (fun t_ k_ => XS.iload X0.here hx rfl (hb hby d1_31) rfl k_) ?_
  show Runs _ _ _ _ s₁ (mkF m 33 #[.val (.ref r0), .val (.int p1), .val (.int p2), .val (.int p3), .val (.long w5), .second, .val (.int x5)] [(.int x5), (.int (8 : Int32)), (.long (((u (k + 1)).toInt64) &&& (255 : Int64))), (.long w5)])
  refine Runs.back (fun t_ k_ => XS.iloadN X0.here hx rfl (hb hby d1_33) rfl k_) ?_
  show Runs _ _ _ _ s₁ (mkF m 34 #[.val (.ref r0), .val (.int p1), .val (.int p2), .val (.int p3), .val (.long w5), .second, .val (.int x5)] [(.int p1), (.int x5), (.int (8 : Int32)), (.long (((u (k + 1)).toInt64) &&& (255 : Int64))), (.long w5)])
  refine Runs.back (fun t_ k_ => XS.isub X0.here hx rfl (hb hby d1_34) rfl k_) ?_
  show Runs _ _ _ _ s₁ (mkF m 35 #[.val (.ref r0), .val (.int p1), .val (.int p2), .val (.int p3), .val (.long w5), .second, .val (.int x5)] [(.int (x5 - p1)), (.int (8 : Int32)), (.long (((u (k + 1)).toInt64) &&& (255 : Int64))), (.long w5)])
  refine Runs.back (fun t_ k_ => XS.imul X0.here hx rfl (hb hby d1_35) rfl k_) ?_
  show Runs _ _ _ _ s₁ (mkF m 36 #[.val (.ref r0), .val (.int p1), .val (.int p2), .val (.int p3), .val (.long w5), .second, .val (.int x5)] [(.int ((8 : Int32) * (x5 - p1))), (.long (((u (k + 1)).toInt64) &&& (255 : Int64))), (.long w5)])
  refine Runs.back (fun t_ k_ => XS.lshl X0.here hx rfl (hb hby d1_36) rfl k_) ?_
  show Runs _ _ _ _ s₁ (mkF m 37 #[.val (.ref r0), .val (.int p1), .val (.int p2), .val (.int p3), .val (.long w5), .second, .val (.int x5)] [(.long ((((u (k + 1)).toInt64) &&& (255 : Int64)) <<< (((8 : Int32) * (x5 - p1)) &&& 0x3f).toInt64)), (.long w5)])
  refine Runs.back (fun t_ k_ => XS.lor X0.here hx rfl (hb hby d1_37) rfl k_) ?_
  show Runs _ _ _ _ s₁ (mkF m 38 #[.val (.ref r0), .val (.int p1), .val (.int p2), .val (.int p3), .val (.long w5), .second, .val (.int x5)] [(.long (w5 ||| ((((u (k + 1)).toInt64) &&& (255 : Int64)) <<< (((8 : Int32) * (x5 - p1)) &&& 0x3f).toInt64)))])
  refine Runs.back (fun t_ k_ => XS.lstore X0.here hx rfl (hb hby d1_38) rfl (l' := #[.val (.ref r0), .val (.int p1), .val (.int p2), .val (.int p3), .val (.long (w5 ||| ((((u (k + 1)).toInt64) &&& (255 : Int64)) <<< (((8 : Int32) * (x5 - p1)) &&& 0x3f).toInt64))), .second, .val (.int x5)]) rfl k_) ?_
  show Runs _ _ _ _ s₁ (mkF m 40 #[.val (.ref r0), .val (.int p1), .val (.int p2), .val (.int p3), .val (.long (w5 ||| ((((u (k + 1)).toInt64) &&& (255 : Int64)) <<< (((8 : Int32) * (x5 - p1)) &&& 0x3f).toInt64))), .second, .val (.int x5)] [])
  refine Runs.back (fun t_ k_ => XS.iinc X0.here hx rfl (hb hby d1_40) rfl (l' := #[.val (.ref r0), .val (.int p1), .val (.int p2), .val (.int p3), .val (.long (w5 ||| ((((u (k + 1)).toInt64) &&& (255 : Int64)) <<< (((8 : Int32) * (x5 - p1)) &&& 0x3f).toInt64))), .second, .val (.int (x5 + (-1 : Int32)))]) rfl k_) ?_
  show Runs _ _ _ _ s₁ (mkF m 43 #[.val (.ref r0), .val (.int p1), .val (.int p2), .val (.int p3), .val (.long (w5 ||| ((((u (k + 1)).toInt64) &&& (255 : Int64)) <<< (((8 : Int32) * (x5 - p1)) &&& 0x3f).toInt64))), .second, .val (.int (x5 + (-1 : Int32)))] [])
  refine Runs.back (fun t_ k_ => XS.goto X0.here hx rfl (pc0 := 43) (pc' := 12) rfl (hb hby d1_43) (by decide) (by decide) k_) ?_
  show Runs _ _ _ _ s₁ (mkF m 12 #[.val (.ref r0), .val (.int p1), .val (.int p2), .val (.int p3), .val (.long (w5 ||| ((((u (k + 1)).toInt64) &&& (255 : Int64)) <<< (((8 : Int32) * (x5 - p1)) &&& 0x3f).toInt64))), .second, .val (.int (x5 + (-1 : Int32)))] [])
  have sq6 : ((8 : Int32) * (x5 - p1)) = (8 : Int32) := by
    have d : (x5 - p1).toInt = 1 := by rw [sub32 (by omega) (by omega)]; omega
    obtain e : (x5 - p1) = (1 : Int32) := eqi.mpr (by rw [d]; decide)
    rw [e]; decide
  have hw6 : Cg ((w5 ||| ((((u (k + 1)).toInt64) &&& (255 : Int64)) <<< (((8 : Int32) * (x5 - p1)) &&& 0x3f).toInt64))).toInt (p3.toInt * 72057594037927936 + ((dl (k + 6) : Nat) : Int) * 281474976710656 + ((dl (k + 5) : Nat) : Int) * 1099511627776 + ((dl (k + 4) : Nat) : Int) * 4294967296 + ((dl (k + 3) : Nat) : Int) * 16777216 + ((dl (k + 2) : Nat) : Int) * 65536 + ((dl (k + 1) : Nat) : Int) * 256) := lw1 sq6 (hd (k + 1) (by omega)) hw5 (by omega)
  have hx6 : ((x5 + (-1 : Int32))).toInt = (k : Int) + 1 - 1 := by rw [add32 (by rw [show (-1 : Int32).toInt = -1 from by decide]; omega) (by rw [show (-1 : Int32).toInt = -1 from by decide]; omega), show (-1 : Int32).toInt = -1 from by decide, hx5]; omega
  clear hx5 hk5 hn5 sq6 hw5
  generalize ew6 : (w5 ||| ((((u (k + 1)).toInt64) &&& (255 : Int64)) <<< (((8 : Int32) * (x5 - p1)) &&& 0x3f).toInt64)) = w6 at hw6 ⊢
  generalize ex6 : (x5 + (-1 : Int32)) = x6 at hx6 ⊢
  clear ew6 ex6
  show Runs _ _ _ _ s₁ (mkF m 12 #[.val (.ref r0), .val (.int p1), .val (.int p2), .val (.int p3), .val (.long w6), .second, .val (.int x6)] [])
  have hn6 : ¬ x6 < 0 := by rw [lti, z32]; omega
  have hk6 : x6.toNatClampNeg = k + 0 := by have q := nat_of hn6; omega
  refine Runs.back (fun t_ k_ => XS.iload X0.here hx rfl (hb hby d1_12) rfl k_) ?_
  show Runs _ _ _ _ s₁ (mkF m 14 #[.val (.ref r0), .val (.int p1), .val (.int p2), .val (.int p3), .val (.long w6), .second, .val (.int x6)] [(.int x6)])
  refine Runs.back (fun t_ k_ => XS.iloadN X0.here hx rfl (hb hby d1_14) rfl k_) ?_
  show Runs _ _ _ _ s₁ (mkF m 15 #[.val (.ref r0), .val (.int p1), .val (.int p2), .val (.int p3), .val (.long w6), .second, .val (.int x6)] [(.int p1), (.int x6)])
  refine Runs.back (fun t_ k_ => XS.icmpNo X0.here hx rfl (hb hby d1_15) rfl (flt (show ¬ (x6 < p1) from (by rw [lti]; omega))).1 k_) ?_
  show Runs _ _ _ _ s₁ (mkF m 18 #[.val (.ref r0), .val (.int p1), .val (.int p2), .val (.int p3), .val (.long w6), .second, .val (.int x6)] [])
  refine Runs.back (fun t_ k_ => XS.lload X0.here hx rfl (hb hby d1_18) rfl k_) ?_
  show Runs _ _ _ _ s₁ (mkF m 20 #[.val (.ref r0), .val (.int p1), .val (.int p2), .val (.int p3), .val (.long w6), .second, .val (.int x6)] [(.long w6)])
  refine Runs.back (fun t_ k_ => XS.aloadN X0.here hx rfl (hb hby d1_20) rfl rfl k_) ?_
  show Runs _ _ _ _ s₁ (mkF m 21 #[.val (.ref r0), .val (.int p1), .val (.int p2), .val (.int p3), .val (.long w6), .second, .val (.int x6)] [(.ref r0), (.long w6)])
  refine Runs.back (fun t_ k_ => XS.iload X0.here hx rfl (hb hby d1_21) rfl k_) ?_
  show Runs _ _ _ _ s₁ (mkF m 23 #[.val (.ref r0), .val (.int p1), .val (.int p2), .val (.int p3), .val (.long w6), .second, .val (.int x6)] [(.int x6), (.ref r0), (.long w6)])
  obtain ⟨cl7, Ar7, S7, Hs7⟩ := id A1
  have at7 : cl7.slots[(x6).toNatClampNeg]? = some (.int (u (k + 0))) := readO Hs7 hk6 (show (k + 0) < 16 from (by first | omega | decide)) (rfl)
  refine Runs.back (fun t_ k_ => X0.baloadBytes hx (j := x6) (v := (.int (u (k + 0)))) (by rw [e0]; exact Ar7.1) (State.isArrayOf_alike hZ.alike Ar7.2.1) Ar7.2.2 (by rw [S7]; exact (inbO hn6 hk6 (show (k + 0) < 16 from (by first | omega | decide)))) at7 (g := (mkF m 23 #[.val (.ref r0), .val (.int p1), .val (.int p2), .val (.int p3), .val (.long w6), .second, .val (.int x6)] [(.int x6), (.ref r0), (.long w6)])) rfl rfl (hb hby d1_23) _ k_) ?_
  clear at7 Hs7 S7 Ar7
  show Runs _ _ _ _ s₁ (mkF m 24 #[.val (.ref r0), .val (.int p1), .val (.int p2), .val (.int p3), .val (.long w6), .second, .val (.int x6)] [(.int (u (k + 0))), (.long w6)])
  refine Runs.back (fun t_ k_ => XS.i2l X0.here hx rfl (hb hby d1_24) rfl k_) ?_
  show Runs _ _ _ _ s₁ (mkF m 25 #[.val (.ref r0), .val (.int p1), .val (.int p2), .val (.int p3), .val (.long w6), .second, .val (.int x6)] [(.long ((u (k + 0)).toInt64)), (.long w6)])
  refine Runs.back (X0.ldc2Long hx hown (mvT hZ (hw _ (List.mem_of_getElem? (i := 6) rfl))) (g := (mkF m 25 #[.val (.ref r0), .val (.int p1), .val (.int p2), .val (.int p3), .val (.long w6), .second, .val (.int x6)] [(.long ((u (k + 0)).toInt64)), (.long w6)])) rfl (hb hby d1_25)) ?_
  show Runs _ _ _ _ s₁ (mkF m 28 #[.val (.ref r0), .val (.int p1), .val (.int p2), .val (.int p3), .val (.long w6), .second, .val (.int x6)] [(.long (255 : Int64)), (.long ((u (k + 0)).toInt64)), (.long w6)])
  refine Runs.back (fun t_ k_ => XS.land X0.here hx rfl (hb hby d1_28) rfl k_) ?_
  show Runs _ _ _ _ s₁ (mkF m 29 #[.val (.ref r0), .val (.int p1), .val (.int p2), .val (.int p3), .val (.long w6), .second, .val (.int x6)] [(.long (((u (k + 0)).toInt64) &&& (255 : Int64))), (.long w6)])
  refine Runs.back (fun t_ k_ => XS.bipush X0.here hx rfl (hb hby d1_29) k_) ?_
  show Runs _ _ _ _ s₁ (mkF m 31 #[.val (.ref r0), .val (.int p1), .val (.int p2), .val (.int p3), .val (.long w6), .second, .val (.int x6)] [(.int (8 : Int32)), (.long (((u (k + 0)).toInt64) &&& (255 : Int64))), (.long w6)])
  refine Runs.back (fun t_ k_ => XS.iload X0.here hx rfl (hb hby d1_31) rfl k_) ?_
  show Runs _ _ _ _ s₁ (mkF m 33 #[.val (.ref r0), .val (.int p1), .val (.int p2), .val (.int p3), .val (.long w6), .second, .val (.int x6)] [(.int x6), (.int (8 : Int32)), (.long (((u (k + 0)).toInt64) &&& (255 : Int64))), (.long w6)])
  refine Runs.back (fun t_ k_ => XS.iloadN X0.here hx rfl (hb hby d1_33) rfl k_) ?_
  show Runs _ _ _ _ s₁ (mkF m 34 #[.val (.ref r0), .val (.int p1), .val (.int p2), .val (.int p3), .val (.long w6), .second, .val (.int x6)] [(.int p1), (.int x6), (.int (8 : Int32)), (.long (((u (k + 0)).toInt64) &&& (255 : Int64))), (.long w6)])
  refine Runs.back (fun t_ k_ => XS.isub X0.here hx rfl (hb hby d1_34) rfl k_) ?_
  show Runs _ _ _ _ s₁ (mkF m 35 #[.val (.ref r0), .val (.int p1), .val (.int p2), .val (.int p3), .val (.long w6), .second, .val (.int x6)] [(.int (x6 - p1)), (.int (8 : Int32)), (.long (((u (k + 0)).toInt64) &&& (255 : Int64))), (.long w6)])
  refine Runs.back (fun t_ k_ => XS.imul X0.here hx rfl (hb hby d1_35) rfl k_) ?_
  show Runs _ _ _ _ s₁ (mkF m 36 #[.val (.ref r0), .val (.int p1), .val (.int p2), .val (.int p3), .val (.long w6), .second, .val (.int x6)] [(.int ((8 : Int32) * (x6 - p1))), (.long (((u (k + 0)).toInt64) &&& (255 : Int64))), (.long w6)])
  refine Runs.back (fun t_ k_ => XS.lshl X0.here hx rfl (hb hby d1_36) rfl k_) ?_
  show Runs _ _ _ _ s₁ (mkF m 37 #[.val (.ref r0), .val (.int p1), .val (.int p2), .val (.int p3), .val (.long w6), .second, .val (.int x6)] [(.long ((((u (k + 0)).toInt64) &&& (255 : Int64)) <<< (((8 : Int32) * (x6 - p1)) &&& 0x3f).toInt64)), (.long w6)])
  refine Runs.back (fun t_ k_ => XS.lor X0.here hx rfl (hb hby d1_37) rfl k_) ?_
  show Runs _ _ _ _ s₁ (mkF m 38 #[.val (.ref r0), .val (.int p1), .val (.int p2), .val (.int p3), .val (.long w6), .second, .val (.int x6)] [(.long (w6 ||| ((((u (k + 0)).toInt64) &&& (255 : Int64)) <<< (((8 : Int32) * (x6 - p1)) &&& 0x3f).toInt64)))])
  refine Runs.back (fun t_ k_ => XS.lstore X0.here hx rfl (hb hby d1_38) rfl (l' := #[.val (.ref r0), .val (.int p1), .val (.int p2), .val (.int p3), .val (.long (w6 ||| ((((u (k + 0)).toInt64) &&& (255 : Int64)) <<< (((8 : Int32) * (x6 - p1)) &&& 0x3f).toInt64))), .second, .val (.int x6)]) rfl k_) ?_
  show Runs _ _ _ _ s₁ (mkF m 40 #[.val (.ref r0), .val (.int p1), .val (.int p2), .val (.int p3), .val (.long (w6 ||| ((((u (k + 0)).toInt64) &&& (255 : Int64)) <<< (((8 : Int32) * (x6 - p1)) &&& 0x3f).toInt64))), .second, .val (.int x6)] [])
  refine Runs.back (fun t_ k_ => XS.iinc X0.here hx rfl (hb hby d1_40) rfl (l' := #[.val (.ref r0), .val (.int p1), .val (.int p2), .val (.int p3), .val (.long (w6 ||| ((((u (k + 0)).toInt64) &&& (255 : Int64)) <<< (((8 : Int32) * (x6 - p1)) &&& 0x3f).toInt64))), .second, .val (.int (x6 + (-1 : Int32)))]) rfl k_) ?_
  show Runs _ _ _ _ s₁ (mkF m 43 #[.val (.ref r0), .val (.int p1), .val (.int p2), .val (.int p3), .val (.long (w6 ||| ((((u (k + 0)).toInt64) &&& (255 : Int64)) <<< (((8 : Int32) * (x6 - p1)) &&& 0x3f).toInt64))), .second, .val (.int (x6 + (-1 : Int32)))] [])
  refine Runs.back (fun t_ k_ => XS.goto X0.here hx rfl (pc0 := 43) (pc' := 12) rfl (hb hby d1_43) (by decide) (by decide) k_) ?_
  show Runs _ _ _ _ s₁ (mkF m 12 #[.val (.ref r0), .val (.int p1), .val (.int p2), .val (.int p3), .val (.long (w6 ||| ((((u (k + 0)).toInt64) &&& (255 : Int64)) <<< (((8 : Int32) * (x6 - p1)) &&& 0x3f).toInt64))), .second, .val (.int (x6 + (-1 : Int32)))] [])
  have sq7 : ((8 : Int32) * (x6 - p1)) = (0 : Int32) := by
    have d : (x6 - p1).toInt = 0 := by rw [sub32 (by omega) (by omega)]; omega
    obtain e : (x6 - p1) = (0 : Int32) := eqi.mpr (by rw [d]; decide)
    rw [e]; decide
  have hw7 : Cg ((w6 ||| ((((u (k + 0)).toInt64) &&& (255 : Int64)) <<< (((8 : Int32) * (x6 - p1)) &&& 0x3f).toInt64))).toInt (p3.toInt * 72057594037927936 + ((dl (k + 6) : Nat) : Int) * 281474976710656 + ((dl (k + 5) : Nat) : Int) * 1099511627776 + ((dl (k + 4) : Nat) : Int) * 4294967296 + ((dl (k + 3) : Nat) : Int) * 16777216 + ((dl (k + 2) : Nat) : Int) * 65536 + ((dl (k + 1) : Nat) : Int) * 256 + ((dl (k + 0) : Nat) : Int) * 1) := lw0 sq7 (hd (k + 0) (by omega)) hw6 (by omega)
  have hx7 : ((x6 + (-1 : Int32))).toInt = (k : Int) + 0 - 1 := by rw [add32 (by rw [show (-1 : Int32).toInt = -1 from by decide]; omega) (by rw [show (-1 : Int32).toInt = -1 from by decide]; omega), show (-1 : Int32).toInt = -1 from by decide, hx6]; omega
  clear hx6 hk6 hn6 sq7 hw6
  generalize ew7 : (w6 ||| ((((u (k + 0)).toInt64) &&& (255 : Int64)) <<< (((8 : Int32) * (x6 - p1)) &&& 0x3f).toInt64)) = w7 at hw7 ⊢
  generalize ex7 : (x6 + (-1 : Int32)) = x7 at hx7 ⊢
  clear ew7 ex7
  show Runs _ _ _ _ s₁ (mkF m 12 #[.val (.ref r0), .val (.int p1), .val (.int p2), .val (.int p3), .val (.long w7), .second, .val (.int x7)] [])
  refine Runs.back (fun t_ k_ => XS.iload X0.here hx rfl (hb hby d1_12) rfl k_) ?_
  show Runs _ _ _ _ s₁ (mkF m 14 #[.val (.ref r0), .val (.int p1), .val (.int p2), .val (.int p3), .val (.long w7), .second, .val (.int x7)] [(.int x7)])
  refine Runs.back (fun t_ k_ => XS.iloadN X0.here hx rfl (hb hby d1_14) rfl k_) ?_
  show Runs _ _ _ _ s₁ (mkF m 15 #[.val (.ref r0), .val (.int p1), .val (.int p2), .val (.int p3), .val (.long w7), .second, .val (.int x7)] [(.int p1), (.int x7)])
  refine Runs.back (fun t_ k_ => XS.icmpYes X0.here hx rfl (pc0 := 15) (pc' := 46) rfl (hb hby d1_15) rfl (tlt (show x7 < p1 from (by rw [lti]; omega))).1 (by decide) (by decide) k_) ?_
  show Runs _ _ _ _ s₁ (mkF m 46 #[.val (.ref r0), .val (.int p1), .val (.int p2), .val (.int p3), .val (.long w7), .second, .val (.int x7)] [])
  refine Runs.back (fun t_ k_ => XS.lload X0.here hx rfl (hb hby d1_46) rfl k_) ?_
  show Runs _ _ _ _ s₁ (mkF m 48 #[.val (.ref r0), .val (.int p1), .val (.int p2), .val (.int p3), .val (.long w7), .second, .val (.int x7)] [(.long w7)])
  obtain ⟨fs, hr, hrun, hended, hW, hsame⟩ := X0.leave (v := some (.long w7)) (fun h => by rw [Bd.returns] at h; cases h)
  have hfin : Cg w7.toInt (p3.toInt * 72057594037927936 + ((sumD dl k 7 : Nat) : Int)) := by
    have e : p3.toInt * 72057594037927936 + ((sumD dl k 7 : Nat) : Int) = p3.toInt * 72057594037927936 + ((dl (k + 6) : Nat) : Int) * 281474976710656 + ((dl (k + 5) : Nat) : Int) * 1099511627776 + ((dl (k + 4) : Nat) : Int) * 4294967296 + ((dl (k + 3) : Nat) : Int) * 16777216 + ((dl (k + 2) : Nat) : Int) * 65536 + ((dl (k + 1) : Nat) : Int) * 256 + ((dl (k + 0) : Nat) : Int) * 1 := by rw [show sumD dl k 7 = 0 + dl (k + 0) * 1 + dl (k + 1) * 256 + dl (k + 2) * 65536 + dl (k + 3) * 16777216 + dl (k + 4) * 4294967296 + dl (k + 5) * 1099511627776 + dl (k + 6) * 281474976710656 from rfl]; omega
    rw [e]; exact hw7
  exact ⟨_, _, (X0.lreturnOut hx Bd.returns (hb hby d1_48) hr), hrun, hended, _, _, rfl, ⟨_, rfl, N0, e0, hfin⟩, ⟨_, rfl⟩, hW, hsame.mono (by decide) (by decide)⟩
theorem rmL (l : Launch) (Z : State) (a0 : Array Value) (hw : ∀ d ∈ tables_1, d.before a0 Z = true) (ws : List Jvm.Cond) (r0 : Addr) (p1 p2 p3 : Int32) (u : Nat → Int32) (dl : Nat → Nat) (k c : Nat) (h0 : Heap) (n0 : Nat) (Z0 : n0 ≤ h0.size) (A1 : OArr Z h0 r0 .byte 16 (fun i => (Value.int (u i)))) (hp1 : p1.toInt = (k : Int)) (hp2 : p2.toInt = (k : Int) + (c : Int)) (hk9 : k < 9) (hc : c < 8) (hd : ∀ i, i < 16 → (u i).toInt % 256 = ((dl i : Nat) : Int)) :
    MetFree l (⟨"com/example/strict_distinct/strictdistinct/SipHash", "lastWord", "([BIII)J"⟩ : MethodName) (head1 (Jvm.Cond.code (⟨"com/example/strict_distinct/strictdistinct/SipHash", "lastWord", "([BIII)J"⟩ : MethodName) prog_29_method_7_code 7 (some .long) :: ws) ({ frames := 0, cells := 0, slots := 0, locals := 0 } : Room)) (fun a U => a = #[(.ref r0), (.int p1), (.int p2), (.int p3)] ∧ Z.Warmed39 U.vm ∧ U.heap = h0) (fun _ _ _ _ _ => True) (fun _ U o U' => ∃ v L, o = .returned v ∧ LWQ p3 c k dl h0 n0 v U'.heap L ∧ FrameEnd U o U' L ({ frames := 0, cells := 0, slots := 0, locals := 0 } : Room).cells ({ frames := 0, cells := 0, slots := 0, locals := 0 } : Room).slots) := by
  match c, hc with
  | 0, _ => exact rm1c0 l Z a0 hw ws r0 p1 p2 p3 u dl k h0 n0 Z0 A1 hp1 hp2 hk9 hd
  | 1, _ => exact rm1c1 l Z a0 hw ws r0 p1 p2 p3 u dl k h0 n0 Z0 A1 hp1 hp2 hk9 hd
  | 2, _ => exact rm1c2 l Z a0 hw ws r0 p1 p2 p3 u dl k h0 n0 Z0 A1 hp1 hp2 hk9 hd
  | 3, _ => exact rm1c3 l Z a0 hw ws r0 p1 p2 p3 u dl k h0 n0 Z0 A1 hp1 hp2 hk9 hd
  | 4, _ => exact rm1c4 l Z a0 hw ws r0 p1 p2 p3 u dl k h0 n0 Z0 A1 hp1 hp2 hk9 hd
  | 5, _ => exact rm1c5 l Z a0 hw ws r0 p1 p2 p3 u dl k h0 n0 Z0 A1 hp1 hp2 hk9 hd
  | 6, _ => exact rm1c6 l Z a0 hw ws r0 p1 p2 p3 u dl k h0 n0 Z0 A1 hp1 hp2 hk9 hd
  | 7, _ => exact rm1c7 l Z a0 hw ws r0 p1 p2 p3 u dl k h0 n0 Z0 A1 hp1 hp2 hk9 hd

theorem byte_of (z : Int64) : (nar .byte (z.toInt32.toInt8.toInt32)).toInt % 256 = z.toInt % 256 := by
  show (z.toInt32.toInt8.toInt32.toInt8.toInt32).toInt % 256 = z.toInt % 256
  have a := (c_i2b (z.toInt32.toInt8.toInt32)).1; have b := (c_i2b z.toInt32).1; have c := c_l2i z
  omega
theorem by0 {a b : Int64} {N : Nat} (hN : (N : Int) = a.toInt % 18446744073709551616 + 18446744073709551616 * (b.toInt % 18446744073709551616)) : (nar .byte ((a).toInt32.toInt8.toInt32)).toInt % 256 = ((dg N 0 : Nat) : Int) := by
  rw [byte_of, show dg N 0 = N / 1 % 256 from rfl]
  omega
theorem by1 {a b : Int64} {N : Nat} (hN : (N : Int) = a.toInt % 18446744073709551616 + 18446744073709551616 * (b.toInt % 18446744073709551616)) : (nar .byte ((((a.toUInt64 >>> ((8 : Int32) &&& 0x3f).toInt64.toUInt64).toInt64)).toInt32.toInt8.toInt32)).toInt % 256 = ((dg N 1 : Nat) : Int) := by
  rw [byte_of, show dg N 1 = N / 256 % 256 from rfl]
  rw [c_lushr a 8 8 (by decide) (by decide), show ((2 ^ 8 : Nat) : Int) = 256 from rfl]
  omega
theorem by2 {a b : Int64} {N : Nat} (hN : (N : Int) = a.toInt % 18446744073709551616 + 18446744073709551616 * (b.toInt % 18446744073709551616)) : (nar .byte ((((a.toUInt64 >>> ((16 : Int32) &&& 0x3f).toInt64.toUInt64).toInt64)).toInt32.toInt8.toInt32)).toInt % 256 = ((dg N 2 : Nat) : Int) := by
  rw [byte_of, show dg N 2 = N / 65536 % 256 from rfl]
  rw [c_lushr a 16 16 (by decide) (by decide), show ((2 ^ 16 : Nat) : Int) = 65536 from rfl]
  omega
theorem by3 {a b : Int64} {N : Nat} (hN : (N : Int) = a.toInt % 18446744073709551616 + 18446744073709551616 * (b.toInt % 18446744073709551616)) : (nar .byte ((((a.toUInt64 >>> ((24 : Int32) &&& 0x3f).toInt64.toUInt64).toInt64)).toInt32.toInt8.toInt32)).toInt % 256 = ((dg N 3 : Nat) : Int) := by
  rw [byte_of, show dg N 3 = N / 16777216 % 256 from rfl]
  rw [c_lushr a 24 24 (by decide) (by decide), show ((2 ^ 24 : Nat) : Int) = 16777216 from rfl]
  omega
theorem by4 {a b : Int64} {N : Nat} (hN : (N : Int) = a.toInt % 18446744073709551616 + 18446744073709551616 * (b.toInt % 18446744073709551616)) : (nar .byte ((((a.toUInt64 >>> ((32 : Int32) &&& 0x3f).toInt64.toUInt64).toInt64)).toInt32.toInt8.toInt32)).toInt % 256 = ((dg N 4 : Nat) : Int) := by
  rw [byte_of, show dg N 4 = N / 4294967296 % 256 from rfl]
  rw [c_lushr a 32 32 (by decide) (by decide), show ((2 ^ 32 : Nat) : Int) = 4294967296 from rfl]
  omega
theorem by5 {a b : Int64} {N : Nat} (hN : (N : Int) = a.toInt % 18446744073709551616 + 18446744073709551616 * (b.toInt % 18446744073709551616)) : (nar .byte ((((a.toUInt64 >>> ((40 : Int32) &&& 0x3f).toInt64.toUInt64).toInt64)).toInt32.toInt8.toInt32)).toInt % 256 = ((dg N 5 : Nat) : Int) := by
  rw [byte_of, show dg N 5 = N / 1099511627776 % 256 from rfl]
  rw [c_lushr a 40 40 (by decide) (by decide), show ((2 ^ 40 : Nat) : Int) = 1099511627776 from rfl]
  omega
theorem by6 {a b : Int64} {N : Nat} (hN : (N : Int) = a.toInt % 18446744073709551616 + 18446744073709551616 * (b.toInt % 18446744073709551616)) : (nar .byte ((((a.toUInt64 >>> ((48 : Int32) &&& 0x3f).toInt64.toUInt64).toInt64)).toInt32.toInt8.toInt32)).toInt % 256 = ((dg N 6 : Nat) : Int) := by
  rw [byte_of, show dg N 6 = N / 281474976710656 % 256 from rfl]
  rw [c_lushr a 48 48 (by decide) (by decide), show ((2 ^ 48 : Nat) : Int) = 281474976710656 from rfl]
  omega
theorem by7 {a b : Int64} {N : Nat} (hN : (N : Int) = a.toInt % 18446744073709551616 + 18446744073709551616 * (b.toInt % 18446744073709551616)) : (nar .byte ((((a.toUInt64 >>> ((56 : Int32) &&& 0x3f).toInt64.toUInt64).toInt64)).toInt32.toInt8.toInt32)).toInt % 256 = ((dg N 7 : Nat) : Int) := by
  rw [byte_of, show dg N 7 = N / 72057594037927936 % 256 from rfl]
  rw [c_lushr a 56 56 (by decide) (by decide), show ((2 ^ 56 : Nat) : Int) = 72057594037927936 from rfl]
  omega
theorem by8 {a b : Int64} {N : Nat} (hN : (N : Int) = a.toInt % 18446744073709551616 + 18446744073709551616 * (b.toInt % 18446744073709551616)) : (nar .byte ((b).toInt32.toInt8.toInt32)).toInt % 256 = ((dg N 8 : Nat) : Int) := by
  rw [byte_of, show dg N 8 = N / 18446744073709551616 % 256 from rfl]
  omega
theorem by9 {a b : Int64} {N : Nat} (hN : (N : Int) = a.toInt % 18446744073709551616 + 18446744073709551616 * (b.toInt % 18446744073709551616)) : (nar .byte ((((b.toUInt64 >>> ((8 : Int32) &&& 0x3f).toInt64.toUInt64).toInt64)).toInt32.toInt8.toInt32)).toInt % 256 = ((dg N 9 : Nat) : Int) := by
  rw [byte_of, show dg N 9 = N / 4722366482869645213696 % 256 from rfl]
  rw [c_lushr b 8 8 (by decide) (by decide), show ((2 ^ 8 : Nat) : Int) = 256 from rfl]
  omega
theorem by10 {a b : Int64} {N : Nat} (hN : (N : Int) = a.toInt % 18446744073709551616 + 18446744073709551616 * (b.toInt % 18446744073709551616)) : (nar .byte ((((b.toUInt64 >>> ((16 : Int32) &&& 0x3f).toInt64.toUInt64).toInt64)).toInt32.toInt8.toInt32)).toInt % 256 = ((dg N 10 : Nat) : Int) := by
  rw [byte_of, show dg N 10 = N / 1208925819614629174706176 % 256 from rfl]
  rw [c_lushr b 16 16 (by decide) (by decide), show ((2 ^ 16 : Nat) : Int) = 65536 from rfl]
  omega
theorem by11 {a b : Int64} {N : Nat} (hN : (N : Int) = a.toInt % 18446744073709551616 + 18446744073709551616 * (b.toInt % 18446744073709551616)) : (nar .byte ((((b.toUInt64 >>> ((24 : Int32) &&& 0x3f).toInt64.toUInt64).toInt64)).toInt32.toInt8.toInt32)).toInt % 256 = ((dg N 11 : Nat) : Int) := by
  rw [byte_of, show dg N 11 = N / 309485009821345068724781056 % 256 from rfl]
  rw [c_lushr b 24 24 (by decide) (by decide), show ((2 ^ 24 : Nat) : Int) = 16777216 from rfl]
  omega
theorem by12 {a b : Int64} {N : Nat} (hN : (N : Int) = a.toInt % 18446744073709551616 + 18446744073709551616 * (b.toInt % 18446744073709551616)) : (nar .byte ((((b.toUInt64 >>> ((32 : Int32) &&& 0x3f).toInt64.toUInt64).toInt64)).toInt32.toInt8.toInt32)).toInt % 256 = ((dg N 12 : Nat) : Int) := by
  rw [byte_of, show dg N 12 = N / 79228162514264337593543950336 % 256 from rfl]
  rw [c_lushr b 32 32 (by decide) (by decide), show ((2 ^ 32 : Nat) : Int) = 4294967296 from rfl]
  omega
theorem by13 {a b : Int64} {N : Nat} (hN : (N : Int) = a.toInt % 18446744073709551616 + 18446744073709551616 * (b.toInt % 18446744073709551616)) : (nar .byte ((((b.toUInt64 >>> ((40 : Int32) &&& 0x3f).toInt64.toUInt64).toInt64)).toInt32.toInt8.toInt32)).toInt % 256 = ((dg N 13 : Nat) : Int) := by
  rw [byte_of, show dg N 13 = N / 20282409603651670423947251286016 % 256 from rfl]
  rw [c_lushr b 40 40 (by decide) (by decide), show ((2 ^ 40 : Nat) : Int) = 1099511627776 from rfl]
  omega
theorem by14 {a b : Int64} {N : Nat} (hN : (N : Int) = a.toInt % 18446744073709551616 + 18446744073709551616 * (b.toInt % 18446744073709551616)) : (nar .byte ((((b.toUInt64 >>> ((48 : Int32) &&& 0x3f).toInt64.toUInt64).toInt64)).toInt32.toInt8.toInt32)).toInt % 256 = ((dg N 14 : Nat) : Int) := by
  rw [byte_of, show dg N 14 = N / 5192296858534827628530496329220096 % 256 from rfl]
  rw [c_lushr b 48 48 (by decide) (by decide), show ((2 ^ 48 : Nat) : Int) = 281474976710656 from rfl]
  omega
theorem by15 {a b : Int64} {N : Nat} (hN : (N : Int) = a.toInt % 18446744073709551616 + 18446744073709551616 * (b.toInt % 18446744073709551616)) : (nar .byte ((((b.toUInt64 >>> ((56 : Int32) &&& 0x3f).toInt64.toUInt64).toInt64)).toInt32.toInt8.toInt32)).toInt % 256 = ((dg N 15 : Nat) : Int) := by
  rw [byte_of, show dg N 15 = N / 1329227995784915872903807060280344576 % 256 from rfl]
  rw [c_lushr b 56 56 (by decide) (by decide), show ((2 ^ 56 : Nat) : Int) = 72057594037927936 from rfl]
  omega
theorem win1 {a b : Int64} {q r : Int32} {N : Nat} (hN : (N : Int) = a.toInt % 18446744073709551616 + 18446744073709551616 * (b.toInt % 18446744073709551616)) (hq : q = (8 : Int32)) (hr : r = (56 : Int32)) : (((a.toUInt64 >>> (q &&& 0x3f).toInt64.toUInt64).toInt64) ||| (b <<< (r &&& 0x3f).toInt64)).toInt % 18446744073709551616 = ((N / 256 ^ 1 % 18446744073709551616 : Nat) : Int) := by
  have l := c_lushr a q 8 (by rw [hq]; decide) (by decide)
  have s := c_lshl b r 56 (by rw [hr]; decide)
  rw [show ((2 ^ 8 : Nat) : Int) = 256 from rfl] at l
  rw [show ((2 ^ 56 : Nat) : Int) = 72057594037927936 from rfl] at s
  rw [show 256 ^ 1 = 256 from rfl]
  generalize ((a.toUInt64 >>> (q &&& 0x3f).toInt64.toUInt64).toInt64) = x at *
  generalize (b <<< (r &&& 0x3f).toInt64) = y at *
  have o := c_orL' x y 56 (by decide) 72057594037927936 rfl (by omega) (by omega) (by omega)
  omega
theorem win2 {a b : Int64} {q r : Int32} {N : Nat} (hN : (N : Int) = a.toInt % 18446744073709551616 + 18446744073709551616 * (b.toInt % 18446744073709551616)) (hq : q = (16 : Int32)) (hr : r = (48 : Int32)) : (((a.toUInt64 >>> (q &&& 0x3f).toInt64.toUInt64).toInt64) ||| (b <<< (r &&& 0x3f).toInt64)).toInt % 18446744073709551616 = ((N / 256 ^ 2 % 18446744073709551616 : Nat) : Int) := by
  have l := c_lushr a q 16 (by rw [hq]; decide) (by decide)
  have s := c_lshl b r 48 (by rw [hr]; decide)
  rw [show ((2 ^ 16 : Nat) : Int) = 65536 from rfl] at l
  rw [show ((2 ^ 48 : Nat) : Int) = 281474976710656 from rfl] at s
  rw [show 256 ^ 2 = 65536 from rfl]
  generalize ((a.toUInt64 >>> (q &&& 0x3f).toInt64.toUInt64).toInt64) = x at *
  generalize (b <<< (r &&& 0x3f).toInt64) = y at *
  have o := c_orL' x y 48 (by decide) 281474976710656 rfl (by omega) (by omega) (by omega)
  omega
theorem win3 {a b : Int64} {q r : Int32} {N : Nat} (hN : (N : Int) = a.toInt % 18446744073709551616 + 18446744073709551616 * (b.toInt % 18446744073709551616)) (hq : q = (24 : Int32)) (hr : r = (40 : Int32)) : (((a.toUInt64 >>> (q &&& 0x3f).toInt64.toUInt64).toInt64) ||| (b <<< (r &&& 0x3f).toInt64)).toInt % 18446744073709551616 = ((N / 256 ^ 3 % 18446744073709551616 : Nat) : Int) := by
  have l := c_lushr a q 24 (by rw [hq]; decide) (by decide)
  have s := c_lshl b r 40 (by rw [hr]; decide)
  rw [show ((2 ^ 24 : Nat) : Int) = 16777216 from rfl] at l
  rw [show ((2 ^ 40 : Nat) : Int) = 1099511627776 from rfl] at s
  rw [show 256 ^ 3 = 16777216 from rfl]
  generalize ((a.toUInt64 >>> (q &&& 0x3f).toInt64.toUInt64).toInt64) = x at *
  generalize (b <<< (r &&& 0x3f).toInt64) = y at *
  have o := c_orL' x y 40 (by decide) 1099511627776 rfl (by omega) (by omega) (by omega)
  omega
theorem win4 {a b : Int64} {q r : Int32} {N : Nat} (hN : (N : Int) = a.toInt % 18446744073709551616 + 18446744073709551616 * (b.toInt % 18446744073709551616)) (hq : q = (32 : Int32)) (hr : r = (32 : Int32)) : (((a.toUInt64 >>> (q &&& 0x3f).toInt64.toUInt64).toInt64) ||| (b <<< (r &&& 0x3f).toInt64)).toInt % 18446744073709551616 = ((N / 256 ^ 4 % 18446744073709551616 : Nat) : Int) := by
  have l := c_lushr a q 32 (by rw [hq]; decide) (by decide)
  have s := c_lshl b r 32 (by rw [hr]; decide)
  rw [show ((2 ^ 32 : Nat) : Int) = 4294967296 from rfl] at l
  rw [show ((2 ^ 32 : Nat) : Int) = 4294967296 from rfl] at s
  rw [show 256 ^ 4 = 4294967296 from rfl]
  generalize ((a.toUInt64 >>> (q &&& 0x3f).toInt64.toUInt64).toInt64) = x at *
  generalize (b <<< (r &&& 0x3f).toInt64) = y at *
  have o := c_orL' x y 32 (by decide) 4294967296 rfl (by omega) (by omega) (by omega)
  omega
theorem win5 {a b : Int64} {q r : Int32} {N : Nat} (hN : (N : Int) = a.toInt % 18446744073709551616 + 18446744073709551616 * (b.toInt % 18446744073709551616)) (hq : q = (40 : Int32)) (hr : r = (24 : Int32)) : (((a.toUInt64 >>> (q &&& 0x3f).toInt64.toUInt64).toInt64) ||| (b <<< (r &&& 0x3f).toInt64)).toInt % 18446744073709551616 = ((N / 256 ^ 5 % 18446744073709551616 : Nat) : Int) := by
  have l := c_lushr a q 40 (by rw [hq]; decide) (by decide)
  have s := c_lshl b r 24 (by rw [hr]; decide)
  rw [show ((2 ^ 40 : Nat) : Int) = 1099511627776 from rfl] at l
  rw [show ((2 ^ 24 : Nat) : Int) = 16777216 from rfl] at s
  rw [show 256 ^ 5 = 1099511627776 from rfl]
  generalize ((a.toUInt64 >>> (q &&& 0x3f).toInt64.toUInt64).toInt64) = x at *
  generalize (b <<< (r &&& 0x3f).toInt64) = y at *
  have o := c_orL' x y 24 (by decide) 16777216 rfl (by omega) (by omega) (by omega)
  omega
theorem win6 {a b : Int64} {q r : Int32} {N : Nat} (hN : (N : Int) = a.toInt % 18446744073709551616 + 18446744073709551616 * (b.toInt % 18446744073709551616)) (hq : q = (48 : Int32)) (hr : r = (16 : Int32)) : (((a.toUInt64 >>> (q &&& 0x3f).toInt64.toUInt64).toInt64) ||| (b <<< (r &&& 0x3f).toInt64)).toInt % 18446744073709551616 = ((N / 256 ^ 6 % 18446744073709551616 : Nat) : Int) := by
  have l := c_lushr a q 48 (by rw [hq]; decide) (by decide)
  have s := c_lshl b r 16 (by rw [hr]; decide)
  rw [show ((2 ^ 48 : Nat) : Int) = 281474976710656 from rfl] at l
  rw [show ((2 ^ 16 : Nat) : Int) = 65536 from rfl] at s
  rw [show 256 ^ 6 = 281474976710656 from rfl]
  generalize ((a.toUInt64 >>> (q &&& 0x3f).toInt64.toUInt64).toInt64) = x at *
  generalize (b <<< (r &&& 0x3f).toInt64) = y at *
  have o := c_orL' x y 16 (by decide) 65536 rfl (by omega) (by omega) (by omega)
  omega
theorem win7 {a b : Int64} {q r : Int32} {N : Nat} (hN : (N : Int) = a.toInt % 18446744073709551616 + 18446744073709551616 * (b.toInt % 18446744073709551616)) (hq : q = (56 : Int32)) (hr : r = (8 : Int32)) : (((a.toUInt64 >>> (q &&& 0x3f).toInt64.toUInt64).toInt64) ||| (b <<< (r &&& 0x3f).toInt64)).toInt % 18446744073709551616 = ((N / 256 ^ 7 % 18446744073709551616 : Nat) : Int) := by
  have l := c_lushr a q 56 (by rw [hq]; decide) (by decide)
  have s := c_lshl b r 8 (by rw [hr]; decide)
  rw [show ((2 ^ 56 : Nat) : Int) = 72057594037927936 from rfl] at l
  rw [show ((2 ^ 8 : Nat) : Int) = 256 from rfl] at s
  rw [show 256 ^ 7 = 72057594037927936 from rfl]
  generalize ((a.toUInt64 >>> (q &&& 0x3f).toInt64.toUInt64).toInt64) = x at *
  generalize (b <<< (r &&& 0x3f).toInt64) = y at *
  have o := c_orL' x y 8 (by decide) 256 rfl (by omega) (by omega) (by omega)
  omega
theorem fin0 {w win : Int64} {len cN : Int32} {X : Nat} (hw : (w.toInt - (len.toInt * 72057594037927936 + ((X % 256 ^ 0 : Nat) : Int))) % 18446744073709551616 = 0) (hc : cN = (0 : Int32)) (hwin : win.toInt % 18446744073709551616 = ((X % 18446744073709551616 : Nat) : Int)) :
    w = ((((len &&& (255 : Int32)).toInt64) <<< ((56 : Int32) &&& 0x3f).toInt64) ||| (win &&& (((1 : Int64) <<< (((8 : Int32) * cN) &&& 0x3f).toInt64) - (1 : Int64)))) := by
  subst hc
  rw [show (((1 : Int64) <<< (((8 : Int32) * (0 : Int32)) &&& 0x3f).toInt64) - (1 : Int64)) = (0 : Int64) from by decide]
  rw [show 256 ^ 0 = 1 from rfl] at hw
  have m := c_maskL win 0 0 (by decide) (by decide)
  rw [show ((2 ^ 0 : Nat) : Int) = 1 from rfl] at m
  have e : (len &&& (255 : Int32)).toInt = len.toInt % 256 := by rw [c_mask len 255 8 (by decide) (by decide)]; rfl
  have s := c_lshl ((len &&& (255 : Int32)).toInt64) 56 56 (by decide)
  rw [show ((2 ^ 56 : Nat) : Int) = 72057594037927936 from rfl, c_i2l, e] at s
  clear e
  generalize (((len &&& (255 : Int32)).toInt64) <<< ((56 : Int32) &&& 0x3f).toInt64) = y at *
  generalize (win &&& (0 : Int64)) = z at *
  have o := c_orL y z 56 (by decide) 72057594037927936 rfl (by omega) (by omega) (by omega)
  have b1 := Int64.toInt_lt w; have b2 := Int64.le_toInt w; have b3 := Int64.toInt_lt (y ||| z); have b4 := Int64.le_toInt (y ||| z)
  rw [eql]
  generalize (y ||| z).toInt = f at *
  have hz : z.toInt = ((X % 1 : Nat) : Int) := by omega
  clear m hwin
  rw [hz] at o
  clear hz
  generalize X % 1 = x at *
  omega
theorem fin1 {w win : Int64} {len cN : Int32} {X : Nat} (hw : (w.toInt - (len.toInt * 72057594037927936 + ((X % 256 ^ 1 : Nat) : Int))) % 18446744073709551616 = 0) (hc : cN = (1 : Int32)) (hwin : win.toInt % 18446744073709551616 = ((X % 18446744073709551616 : Nat) : Int)) :
    w = ((((len &&& (255 : Int32)).toInt64) <<< ((56 : Int32) &&& 0x3f).toInt64) ||| (win &&& (((1 : Int64) <<< (((8 : Int32) * cN) &&& 0x3f).toInt64) - (1 : Int64)))) := by
  subst hc
  rw [show (((1 : Int64) <<< (((8 : Int32) * (1 : Int32)) &&& 0x3f).toInt64) - (1 : Int64)) = (255 : Int64) from by decide]
  rw [show 256 ^ 1 = 256 from rfl] at hw
  have m := c_maskL win 255 8 (by decide) (by decide)
  rw [show ((2 ^ 8 : Nat) : Int) = 256 from rfl] at m
  have e : (len &&& (255 : Int32)).toInt = len.toInt % 256 := by rw [c_mask len 255 8 (by decide) (by decide)]; rfl
  have s := c_lshl ((len &&& (255 : Int32)).toInt64) 56 56 (by decide)
  rw [show ((2 ^ 56 : Nat) : Int) = 72057594037927936 from rfl, c_i2l, e] at s
  clear e
  generalize (((len &&& (255 : Int32)).toInt64) <<< ((56 : Int32) &&& 0x3f).toInt64) = y at *
  generalize (win &&& (255 : Int64)) = z at *
  have o := c_orL y z 56 (by decide) 72057594037927936 rfl (by omega) (by omega) (by omega)
  have b1 := Int64.toInt_lt w; have b2 := Int64.le_toInt w; have b3 := Int64.toInt_lt (y ||| z); have b4 := Int64.le_toInt (y ||| z)
  rw [eql]
  generalize (y ||| z).toInt = f at *
  have hz : z.toInt = ((X % 256 : Nat) : Int) := by omega
  clear m hwin
  rw [hz] at o
  clear hz
  generalize X % 256 = x at *
  omega
theorem fin2 {w win : Int64} {len cN : Int32} {X : Nat} (hw : (w.toInt - (len.toInt * 72057594037927936 + ((X % 256 ^ 2 : Nat) : Int))) % 18446744073709551616 = 0) (hc : cN = (2 : Int32)) (hwin : win.toInt % 18446744073709551616 = ((X % 18446744073709551616 : Nat) : Int)) :
    w = ((((len &&& (255 : Int32)).toInt64) <<< ((56 : Int32) &&& 0x3f).toInt64) ||| (win &&& (((1 : Int64) <<< (((8 : Int32) * cN) &&& 0x3f).toInt64) - (1 : Int64)))) := by
  subst hc
  rw [show (((1 : Int64) <<< (((8 : Int32) * (2 : Int32)) &&& 0x3f).toInt64) - (1 : Int64)) = (65535 : Int64) from by decide]
  rw [show 256 ^ 2 = 65536 from rfl] at hw
  have m := c_maskL win 65535 16 (by decide) (by decide)
  rw [show ((2 ^ 16 : Nat) : Int) = 65536 from rfl] at m
  have e : (len &&& (255 : Int32)).toInt = len.toInt % 256 := by rw [c_mask len 255 8 (by decide) (by decide)]; rfl
  have s := c_lshl ((len &&& (255 : Int32)).toInt64) 56 56 (by decide)
  rw [show ((2 ^ 56 : Nat) : Int) = 72057594037927936 from rfl, c_i2l, e] at s
  clear e
  generalize (((len &&& (255 : Int32)).toInt64) <<< ((56 : Int32) &&& 0x3f).toInt64) = y at *
  generalize (win &&& (65535 : Int64)) = z at *
  have o := c_orL y z 56 (by decide) 72057594037927936 rfl (by omega) (by omega) (by omega)
  have b1 := Int64.toInt_lt w; have b2 := Int64.le_toInt w; have b3 := Int64.toInt_lt (y ||| z); have b4 := Int64.le_toInt (y ||| z)
  rw [eql]
  generalize (y ||| z).toInt = f at *
  have hz : z.toInt = ((X % 65536 : Nat) : Int) := by omega
  clear m hwin
  rw [hz] at o
  clear hz
  generalize X % 65536 = x at *
  omega
theorem fin3 {w win : Int64} {len cN : Int32} {X : Nat} (hw : (w.toInt - (len.toInt * 72057594037927936 + ((X % 256 ^ 3 : Nat) : Int))) % 18446744073709551616 = 0) (hc : cN = (3 : Int32)) (hwin : win.toInt % 18446744073709551616 = ((X % 18446744073709551616 : Nat) : Int)) :
    w = ((((len &&& (255 : Int32)).toInt64) <<< ((56 : Int32) &&& 0x3f).toInt64) ||| (win &&& (((1 : Int64) <<< (((8 : Int32) * cN) &&& 0x3f).toInt64) - (1 : Int64)))) := by
  subst hc
  rw [show (((1 : Int64) <<< (((8 : Int32) * (3 : Int32)) &&& 0x3f).toInt64) - (1 : Int64)) = (16777215 : Int64) from by decide]
  rw [show 256 ^ 3 = 16777216 from rfl] at hw
  have m := c_maskL win 16777215 24 (by decide) (by decide)
  rw [show ((2 ^ 24 : Nat) : Int) = 16777216 from rfl] at m
  have e : (len &&& (255 : Int32)).toInt = len.toInt % 256 := by rw [c_mask len 255 8 (by decide) (by decide)]; rfl
  have s := c_lshl ((len &&& (255 : Int32)).toInt64) 56 56 (by decide)
  rw [show ((2 ^ 56 : Nat) : Int) = 72057594037927936 from rfl, c_i2l, e] at s
  clear e
  generalize (((len &&& (255 : Int32)).toInt64) <<< ((56 : Int32) &&& 0x3f).toInt64) = y at *
  generalize (win &&& (16777215 : Int64)) = z at *
  have o := c_orL y z 56 (by decide) 72057594037927936 rfl (by omega) (by omega) (by omega)
  have b1 := Int64.toInt_lt w; have b2 := Int64.le_toInt w; have b3 := Int64.toInt_lt (y ||| z); have b4 := Int64.le_toInt (y ||| z)
  rw [eql]
  generalize (y ||| z).toInt = f at *
  have hz : z.toInt = ((X % 16777216 : Nat) : Int) := by omega
  clear m hwin
  rw [hz] at o
  clear hz
  generalize X % 16777216 = x at *
  omega
theorem fin4 {w win : Int64} {len cN : Int32} {X : Nat} (hw : (w.toInt - (len.toInt * 72057594037927936 + ((X % 256 ^ 4 : Nat) : Int))) % 18446744073709551616 = 0) (hc : cN = (4 : Int32)) (hwin : win.toInt % 18446744073709551616 = ((X % 18446744073709551616 : Nat) : Int)) :
    w = ((((len &&& (255 : Int32)).toInt64) <<< ((56 : Int32) &&& 0x3f).toInt64) ||| (win &&& (((1 : Int64) <<< (((8 : Int32) * cN) &&& 0x3f).toInt64) - (1 : Int64)))) := by
  subst hc
  rw [show (((1 : Int64) <<< (((8 : Int32) * (4 : Int32)) &&& 0x3f).toInt64) - (1 : Int64)) = (4294967295 : Int64) from by decide]
  rw [show 256 ^ 4 = 4294967296 from rfl] at hw
  have m := c_maskL win 4294967295 32 (by decide) (by decide)
  rw [show ((2 ^ 32 : Nat) : Int) = 4294967296 from rfl] at m
  have e : (len &&& (255 : Int32)).toInt = len.toInt % 256 := by rw [c_mask len 255 8 (by decide) (by decide)]; rfl
  have s := c_lshl ((len &&& (255 : Int32)).toInt64) 56 56 (by decide)
  rw [show ((2 ^ 56 : Nat) : Int) = 72057594037927936 from rfl, c_i2l, e] at s
  clear e
  generalize (((len &&& (255 : Int32)).toInt64) <<< ((56 : Int32) &&& 0x3f).toInt64) = y at *
  generalize (win &&& (4294967295 : Int64)) = z at *
  have o := c_orL y z 56 (by decide) 72057594037927936 rfl (by omega) (by omega) (by omega)
  have b1 := Int64.toInt_lt w; have b2 := Int64.le_toInt w; have b3 := Int64.toInt_lt (y ||| z); have b4 := Int64.le_toInt (y ||| z)
  rw [eql]
  generalize (y ||| z).toInt = f at *
  have hz : z.toInt = ((X % 4294967296 : Nat) : Int) := by omega
  clear m hwin
  rw [hz] at o
  clear hz
  generalize X % 4294967296 = x at *
  omega
theorem fin5 {w win : Int64} {len cN : Int32} {X : Nat} (hw : (w.toInt - (len.toInt * 72057594037927936 + ((X % 256 ^ 5 : Nat) : Int))) % 18446744073709551616 = 0) (hc : cN = (5 : Int32)) (hwin : win.toInt % 18446744073709551616 = ((X % 18446744073709551616 : Nat) : Int)) :
    w = ((((len &&& (255 : Int32)).toInt64) <<< ((56 : Int32) &&& 0x3f).toInt64) ||| (win &&& (((1 : Int64) <<< (((8 : Int32) * cN) &&& 0x3f).toInt64) - (1 : Int64)))) := by
  subst hc
  rw [show (((1 : Int64) <<< (((8 : Int32) * (5 : Int32)) &&& 0x3f).toInt64) - (1 : Int64)) = (1099511627775 : Int64) from by decide]
  rw [show 256 ^ 5 = 1099511627776 from rfl] at hw
  have m := c_maskL win 1099511627775 40 (by decide) (by decide)
  rw [show ((2 ^ 40 : Nat) : Int) = 1099511627776 from rfl] at m
  have e : (len &&& (255 : Int32)).toInt = len.toInt % 256 := by rw [c_mask len 255 8 (by decide) (by decide)]; rfl
  have s := c_lshl ((len &&& (255 : Int32)).toInt64) 56 56 (by decide)
  rw [show ((2 ^ 56 : Nat) : Int) = 72057594037927936 from rfl, c_i2l, e] at s
  clear e
  generalize (((len &&& (255 : Int32)).toInt64) <<< ((56 : Int32) &&& 0x3f).toInt64) = y at *
  generalize (win &&& (1099511627775 : Int64)) = z at *
  have o := c_orL y z 56 (by decide) 72057594037927936 rfl (by omega) (by omega) (by omega)
  have b1 := Int64.toInt_lt w; have b2 := Int64.le_toInt w; have b3 := Int64.toInt_lt (y ||| z); have b4 := Int64.le_toInt (y ||| z)
  rw [eql]
  generalize (y ||| z).toInt = f at *
  have hz : z.toInt = ((X % 1099511627776 : Nat) : Int) := by omega
  clear m hwin
  rw [hz] at o
  clear hz
  generalize X % 1099511627776 = x at *
  omega
theorem fin6 {w win : Int64} {len cN : Int32} {X : Nat} (hw : (w.toInt - (len.toInt * 72057594037927936 + ((X % 256 ^ 6 : Nat) : Int))) % 18446744073709551616 = 0) (hc : cN = (6 : Int32)) (hwin : win.toInt % 18446744073709551616 = ((X % 18446744073709551616 : Nat) : Int)) :
    w = ((((len &&& (255 : Int32)).toInt64) <<< ((56 : Int32) &&& 0x3f).toInt64) ||| (win &&& (((1 : Int64) <<< (((8 : Int32) * cN) &&& 0x3f).toInt64) - (1 : Int64)))) := by
  subst hc
  rw [show (((1 : Int64) <<< (((8 : Int32) * (6 : Int32)) &&& 0x3f).toInt64) - (1 : Int64)) = (281474976710655 : Int64) from by decide]
  rw [show 256 ^ 6 = 281474976710656 from rfl] at hw
  have m := c_maskL win 281474976710655 48 (by decide) (by decide)
  rw [show ((2 ^ 48 : Nat) : Int) = 281474976710656 from rfl] at m
  have e : (len &&& (255 : Int32)).toInt = len.toInt % 256 := by rw [c_mask len 255 8 (by decide) (by decide)]; rfl
  have s := c_lshl ((len &&& (255 : Int32)).toInt64) 56 56 (by decide)
  rw [show ((2 ^ 56 : Nat) : Int) = 72057594037927936 from rfl, c_i2l, e] at s
  clear e
  generalize (((len &&& (255 : Int32)).toInt64) <<< ((56 : Int32) &&& 0x3f).toInt64) = y at *
  generalize (win &&& (281474976710655 : Int64)) = z at *
  have o := c_orL y z 56 (by decide) 72057594037927936 rfl (by omega) (by omega) (by omega)
  have b1 := Int64.toInt_lt w; have b2 := Int64.le_toInt w; have b3 := Int64.toInt_lt (y ||| z); have b4 := Int64.le_toInt (y ||| z)
  rw [eql]
  generalize (y ||| z).toInt = f at *
  have hz : z.toInt = ((X % 281474976710656 : Nat) : Int) := by omega
  clear m hwin
  rw [hz] at o
  clear hz
  generalize X % 281474976710656 = x at *
  omega
theorem fin7 {w win : Int64} {len cN : Int32} {X : Nat} (hw : (w.toInt - (len.toInt * 72057594037927936 + ((X % 256 ^ 7 : Nat) : Int))) % 18446744073709551616 = 0) (hc : cN = (7 : Int32)) (hwin : win.toInt % 18446744073709551616 = ((X % 18446744073709551616 : Nat) : Int)) :
    w = ((((len &&& (255 : Int32)).toInt64) <<< ((56 : Int32) &&& 0x3f).toInt64) ||| (win &&& (((1 : Int64) <<< (((8 : Int32) * cN) &&& 0x3f).toInt64) - (1 : Int64)))) := by
  subst hc
  rw [show (((1 : Int64) <<< (((8 : Int32) * (7 : Int32)) &&& 0x3f).toInt64) - (1 : Int64)) = (72057594037927935 : Int64) from by decide]
  rw [show 256 ^ 7 = 72057594037927936 from rfl] at hw
  have m := c_maskL win 72057594037927935 56 (by decide) (by decide)
  rw [show ((2 ^ 56 : Nat) : Int) = 72057594037927936 from rfl] at m
  have e : (len &&& (255 : Int32)).toInt = len.toInt % 256 := by rw [c_mask len 255 8 (by decide) (by decide)]; rfl
  have s := c_lshl ((len &&& (255 : Int32)).toInt64) 56 56 (by decide)
  rw [show ((2 ^ 56 : Nat) : Int) = 72057594037927936 from rfl, c_i2l, e] at s
  clear e
  generalize (((len &&& (255 : Int32)).toInt64) <<< ((56 : Int32) &&& 0x3f).toInt64) = y at *
  generalize (win &&& (72057594037927935 : Int64)) = z at *
  have o := c_orL y z 56 (by decide) 72057594037927936 rfl (by omega) (by omega) (by omega)
  have b1 := Int64.toInt_lt w; have b2 := Int64.le_toInt w; have b3 := Int64.toInt_lt (y ||| z); have b4 := Int64.le_toInt (y ||| z)
  rw [eql]
  generalize (y ||| z).toInt = f at *
  have hz : z.toInt = ((X % 72057594037927936 : Nat) : Int) := by omega
  clear m hwin
  rw [hz] at o
  clear hz
  generalize X % 72057594037927936 = x at *
  omega
theorem fin {w win : Int64} {len cN : Int32} {X c : Nat} (h8 : c < 8) (hw : (w.toInt - (len.toInt * 72057594037927936 + ((X % 256 ^ c : Nat) : Int))) % 18446744073709551616 = 0) (hc : cN.toInt = (c : Int)) (hwin : win.toInt % 18446744073709551616 = ((X % 18446744073709551616 : Nat) : Int)) :
    w = ((((len &&& (255 : Int32)).toInt64) <<< ((56 : Int32) &&& 0x3f).toInt64) ||| (win &&& (((1 : Int64) <<< (((8 : Int32) * cN) &&& 0x3f).toInt64) - (1 : Int64)))) := by
  match c, h8 with
  | 0, _ => exact fin0 hw (eqi.mpr (by rw [hc]; decide)) hwin
  | 1, _ => exact fin1 hw (eqi.mpr (by rw [hc]; decide)) hwin
  | 2, _ => exact fin2 hw (eqi.mpr (by rw [hc]; decide)) hwin
  | 3, _ => exact fin3 hw (eqi.mpr (by rw [hc]; decide)) hwin
  | 4, _ => exact fin4 hw (eqi.mpr (by rw [hc]; decide)) hwin
  | 5, _ => exact fin5 hw (eqi.mpr (by rw [hc]; decide)) hwin
  | 6, _ => exact fin6 hw (eqi.mpr (by rw [hc]; decide)) hwin
  | 7, _ => exact fin7 hw (eqi.mpr (by rw [hc]; decide)) hwin
theorem win {a b : Int64} {f : Int32} {N k : Nat} (hN : (N : Int) = a.toInt % 18446744073709551616 + 18446744073709551616 * (b.toInt % 18446744073709551616)) (hf : f.toInt = (k : Int)) (h0 : ¬ f = (0 : Int32)) (h8 : ¬ f = (8 : Int32)) (h9 : k < 9) : (((a.toUInt64 >>> (((8 : Int32) * f) &&& 0x3f).toInt64.toUInt64).toInt64) ||| (b <<< (((64 : Int32) - ((8 : Int32) * f)) &&& 0x3f).toInt64)).toInt % 18446744073709551616 = ((N / 256 ^ k % 18446744073709551616 : Nat) : Int) := by
  match k, h9 with
  | 0, _ => exact absurd (eqi.mpr (by rw [hf]; decide)) h0
  | 1, _ => obtain rfl : f = (1 : Int32) := eqi.mpr (by rw [hf]; decide)
            exact win1 hN (by decide) (by decide)
  | 2, _ => obtain rfl : f = (2 : Int32) := eqi.mpr (by rw [hf]; decide)
            exact win2 hN (by decide) (by decide)
  | 3, _ => obtain rfl : f = (3 : Int32) := eqi.mpr (by rw [hf]; decide)
            exact win3 hN (by decide) (by decide)
  | 4, _ => obtain rfl : f = (4 : Int32) := eqi.mpr (by rw [hf]; decide)
            exact win4 hN (by decide) (by decide)
  | 5, _ => obtain rfl : f = (5 : Int32) := eqi.mpr (by rw [hf]; decide)
            exact win5 hN (by decide) (by decide)
  | 6, _ => obtain rfl : f = (6 : Int32) := eqi.mpr (by rw [hf]; decide)
            exact win6 hN (by decide) (by decide)
  | 7, _ => obtain rfl : f = (7 : Int32) := eqi.mpr (by rw [hf]; decide)
            exact win7 hN (by decide) (by decide)
  | 8, _ => exact absurd (eqi.mpr (by rw [hf]; decide)) h8
theorem win0 {a b : Int64} {N k : Nat} (hN : (N : Int) = a.toInt % 18446744073709551616 + 18446744073709551616 * (b.toInt % 18446744073709551616)) (h : k = 0) : a.toInt % 18446744073709551616 = ((N / 256 ^ k % 18446744073709551616 : Nat) : Int) := by
  subst h; rw [Nat.pow_zero, Nat.div_one]; omega
theorem win8 {a b : Int64} {N k : Nat} (hN : (N : Int) = a.toInt % 18446744073709551616 + 18446744073709551616 * (b.toInt % 18446744073709551616)) (h : k = 8) : b.toInt % 18446744073709551616 = ((N / 256 ^ k % 18446744073709551616 : Nat) : Int) := by
  subst h; rw [show 256 ^ 8 = 18446744073709551616 from rfl]; omega
theorem pn_0 : plainName "com/example/strict_distinct/strictdistinct/SipHashLastWordPinLaw" = true := by first | (simp [plainName, overriddenIn]; done) | decide +kernel
theorem pd0_0 : parseMethodDescriptor "([BIII)J" = some ⟨[(.array .byte), .int, .int, .int], some .long⟩ := by decide +kernel
theorem ef_0 (m : MethodId) (q0 : Int64) (q1 : Int64) (p2 : Int32) (p3 : Int32) (p4 : Int32) : entryFrame m #[(.long q0), (.long q1), (.int p2), (.int p3), (.int p4)] maxLocals = mkF m 0 #[.val (.long q0), .second, .val (.long q1), .second, .val (.int p2), .val (.int p3), .val (.int p4), .unset, .unset, .unset, .unset, .unset, .unset, .unset, .unset, .unset, .unset, .unset, .unset] [] := by first | (simp [entryFrame, mkF, argsToLocals, Value.category, maxLocals]; done) | rfl
def Q0 (Z : State) (q0 : Int64) (q1 : Int64) (p2 : Int32) (p3 : Int32) (p4 : Int32)  (h0 : Heap) (n0 : Nat) (v : Option Value) (h : Heap) (L : List Loc) : Prop := v = some (.int 1) ∧ Fr n0 L
set_option maxRecDepth 65536 in
set_option maxHeartbeats 40000000 in
theorem rm0 (l : Launch) (Z : State) (a0 : Array Value) (hw : ∀ d ∈ tables_1, d.before a0 Z = true) (ws : List Jvm.Cond) (q0 : Int64) (q1 : Int64) (p2 : Int32) (p3 : Int32) (p4 : Int32)  (h0 : Heap) (n0 : Nat) (Z0 : n0 ≤ h0.size) :
    MetFree l x (head1 (Jvm.Cond.code x code maxLocals ret :: ws) room_1) (fun a U => a = #[(.long q0), (.long q1), (.int p2), (.int p3), (.int p4)] ∧ Z.Warmed39 U.vm ∧ U.heap = h0) (fun _ _ _ _ _ => True) (fun _ U o U' => ∃ v L, o = .returned v ∧ Q0 Z q0 q1 p2 p3 p4 h0 n0 v U'.heap L ∧ FrameEnd U o U' L 16 128) := by
  refine MetFree.of_bodySF (plainFor_of_name pn_0) hisR ?_
  intro p e s m args below meth c s₁ Bd hml0 hP hK
  obtain ⟨rfl, hZ, hh⟩ := hP
  have hx := Bd.exec
  have hby := Bd.bytes
  have hml : c.maxLocals = 19 := hml0
  have hown : s.vm.findClass "com/example/strict_distinct/strictdistinct/SipHashLastWordPinLaw" = some m.cls := findClass_of_methodNamed Bd.named
  have hnm := (name_of_methodNamed Bd.named Bd.method).1
  have X0 : Stand p l e room_1 s m #[(.long q0), (.long q1), (.int p2), (.int p3), (.int p4)] below meth c s₁ [] 0 0 := Stand.of_body Bd
  have e0 : s₁.heap = h0 := by rw [← hh, Bd.state]; rfl
  have N0 := Fr.nil n0
  refine Runs.enter (ef_0 m q0 q1 p2 p3 p4) ?_
  show Runs _ _ _ _ s₁ (mkF m 0 #[.val (.long q0), .second, .val (.long q1), .second, .val (.int p2), .val (.int p3), .val (.int p4), .unset, .unset, .unset, .unset, .unset, .unset, .unset, .unset, .unset, .unset, .unset, .unset] [])
  refine Runs.back (fun t_ k_ => XS.bipush X0.here hx rfl (hb hby at_0) k_) ?_
  show Runs _ _ _ _ s₁ (mkF m 2 #[.val (.long q0), .second, .val (.long q1), .second, .val (.int p2), .val (.int p3), .val (.int p4), .unset, .unset, .unset, .unset, .unset, .unset, .unset, .unset, .unset, .unset, .unset, .unset] [(.int (16 : Int32))])
  obtain ⟨T1, h1, k1, X1, e1, E1, A1, st1⟩ := newP X0 hx hZ (hw _ (List.mem_of_getElem? (i := 0) rfl)) e0 (g := (mkF m 2 #[.val (.long q0), .second, .val (.long q1), .second, .val (.int p2), .val (.int p3), .val (.int p4), .unset, .unset, .unset, .unset, .unset, .unset, .unset, .unset, .unset, .unset, .unset, .unset] [(.int (16 : Int32))])) rfl (hb hby at_2) rfl (by decide) (cap := 16) (by decide) (by decide) (by decide) (by decide)
  obtain ⟨ob1, g1⟩ : ∃ z, z = h0.size := ⟨_, rfl⟩
  rw [← g1] at A1 st1
  have g_ob1 : n0 ≤ ob1 := Nat.le_trans (Z0) (Nat.le_of_eq g1.symm)
  have Z1 : n0 ≤ h1.size := Nat.le_trans (Z0) E1.1
  have V1 : OArr Z h1 ob1 .byte 16 (fun _ => (Value.int (0 : Int32))) := OArr.new A1 rfl rfl
  refine Runs.back st1 ?_
  show Runs _ _ _ _ T1 (mkF m 4 #[.val (.long q0), .second, .val (.long q1), .second, .val (.int p2), .val (.int p3), .val (.int p4), .unset, .unset, .unset, .unset, .unset, .unset, .unset, .unset, .unset, .unset, .unset, .unset] [(.ref ob1)])
  refine Runs.back (fun t_ k_ => XS.astore X1.here hx rfl (hb hby at_4) rfl rfl (l' := #[.val (.long q0), .second, .val (.long q1), .second, .val (.int p2), .val (.int p3), .val (.int p4), .val (.ref ob1), .unset, .unset, .unset, .unset, .unset, .unset, .unset, .unset, .unset, .unset, .unset]) rfl k_) ?_
  show Runs _ _ _ _ T1 (mkF m 6 #[.val (.long q0), .second, .val (.long q1), .second, .val (.int p2), .val (.int p3), .val (.int p4), .val (.ref ob1), .unset, .unset, .unset, .unset, .unset, .unset, .unset, .unset, .unset, .unset, .unset] [])
  refine Runs.back (fun t_ k_ => XS.aload X1.here hx rfl (hb hby at_6) rfl rfl k_) ?_
  show Runs _ _ _ _ T1 (mkF m 8 #[.val (.long q0), .second, .val (.long q1), .second, .val (.int p2), .val (.int p3), .val (.int p4), .val (.ref ob1), .unset, .unset, .unset, .unset, .unset, .unset, .unset, .unset, .unset, .unset, .unset] [(.ref ob1)])
  refine Runs.back (fun t_ k_ => XS.iconst X1.here hx rfl (hb hby at_8) k_) ?_
  show Runs _ _ _ _ T1 (mkF m 9 #[.val (.long q0), .second, .val (.long q1), .second, .val (.int p2), .val (.int p3), .val (.int p4), .val (.ref ob1), .unset, .unset, .unset, .unset, .unset, .unset, .unset, .unset, .unset, .unset, .unset] [(.int (0 : Int32)), (.ref ob1)])
  refine Runs.back (fun t_ k_ => XS.lloadN X1.here hx rfl (hb hby at_9) rfl k_) ?_
  show Runs _ _ _ _ T1 (mkF m 10 #[.val (.long q0), .second, .val (.long q1), .second, .val (.int p2), .val (.int p3), .val (.int p4), .val (.ref ob1), .unset, .unset, .unset, .unset, .unset, .unset, .unset, .unset, .unset, .unset, .unset] [(.long q0), (.int (0 : Int32)), (.ref ob1)])
  refine Runs.back (fun t_ k_ => XS.l2i X1.here hx rfl (hb hby at_10) rfl k_) ?_
  show Runs _ _ _ _ T1 (mkF m 11 #[.val (.long q0), .second, .val (.long q1), .second, .val (.int p2), .val (.int p3), .val (.int p4), .val (.ref ob1), .unset, .unset, .unset, .unset, .unset, .unset, .unset, .unset, .unset, .unset, .unset] [(.int (q0.toInt32)), (.int (0 : Int32)), (.ref ob1)])
  refine Runs.back (fun t_ k_ => XS.i2b X1.here hx rfl (hb hby at_11) rfl k_) ?_
  show Runs _ _ _ _ T1 (mkF m 12 #[.val (.long q0), .second, .val (.long q1), .second, .val (.int p2), .val (.int p3), .val (.int p4), .val (.ref ob1), .unset, .unset, .unset, .unset, .unset, .unset, .unset, .unset, .unset, .unset, .unset] [(.int ((q0.toInt32).toInt8.toInt32)), (.int (0 : Int32)), (.ref ob1)])
  obtain ⟨cl2, Ar2, S2, Hs2⟩ := id V1
  obtain ⟨T2, h2, X2, e2, W2, st2⟩ := stB X1 hx hZ e1 Ar2 (j := (0 : Int32)) (by rw [S2]; exact (inbO (by decide : ¬ (0 : Int32) < 0) (rfl : ((0 : Int32)).toNatClampNeg = 0) (show 0 < 16 from (by first | omega | decide)))) (g := (mkF m 12 #[.val (.long q0), .second, .val (.long q1), .second, .val (.int p2), .val (.int p3), .val (.int p4), .val (.ref ob1), .unset, .unset, .unset, .unset, .unset, .unset, .unset, .unset, .unset, .unset, .unset] [(.int ((q0.toInt32).toInt8.toInt32)), (.int (0 : Int32)), (.ref ob1)])) rfl rfl (hb hby at_12)
  have N2 := Fr.snoc X2 N0 g_ob1
  obtain ⟨L2, X2, N2⟩ := hideL X2 N2
  rw [(rfl : ((0 : Int32)).toNatClampNeg = 0)] at W2
  have f2_Arr_0 : OArr Z h2 ob1 .byte 16 (fun i => if i = 0 then (Value.int (nar .byte ((q0.toInt32).toInt8.toInt32))) else (fun _ => (Value.int (0 : Int32))) i) := V1.set W2
  have Z2 : n0 ≤ h2.size := Nat.le_trans (Z1) (Nat.le_of_eq W2.size.symm)
  refine Runs.back st2 ?_
  show Runs _ _ _ _ T2 (mkF m 13 #[.val (.long q0), .second, .val (.long q1), .second, .val (.int p2), .val (.int p3), .val (.int p4), .val (.ref ob1), .unset, .unset, .unset, .unset, .unset, .unset, .unset, .unset, .unset, .unset, .unset] [])
  refine Runs.back (fun t_ k_ => XS.aload X2.here hx rfl (hb hby at_13) rfl rfl k_) ?_
  show Runs _ _ _ _ T2 (mkF m 15 #[.val (.long q0), .second, .val (.long q1), .second, .val (.int p2), .val (.int p3), .val (.int p4), .val (.ref ob1), .unset, .unset, .unset, .unset, .unset, .unset, .unset, .unset, .unset, .unset, .unset] [(.ref ob1)])
  refine Runs.back (fun t_ k_ => XS.iconst X2.here hx rfl (hb hby at_15) k_) ?_
  show Runs _ _ _ _ T2 (mkF m 16 #[.val (.long q0), .second, .val (.long q1), .second, .val (.int p2), .val (.int p3), .val (.int p4), .val (.ref ob1), .unset, .unset, .unset, .unset, .unset, .unset, .unset, .unset, .unset, .unset, .unset] [(.int (1 : Int32)), (.ref ob1)])
  refine Runs.back (fun t_ k_ => XS.lloadN X2.here hx rfl (hb hby at_16) rfl k_) ?_
  show Runs _ _ _ _ T2 (mkF m 17 #[.val (.long q0), .second, .val (.long q1), .second, .val (.int p2), .val (.int p3), .val (.int p4), .val (.ref ob1), .unset, .unset, .unset, .unset, .unset, .unset, .unset, .unset, .unset, .unset, .unset] [(.long q0), (.int (1 : Int32)), (.ref ob1)])
  refine Runs.back (fun t_ k_ => XS.bipush X2.here hx rfl (hb hby at_17) k_) ?_
  show Runs _ _ _ _ T2 (mkF m 19 #[.val (.long q0), .second, .val (.long q1), .second, .val (.int p2), .val (.int p3), .val (.int p4), .val (.ref ob1), .unset, .unset, .unset, .unset, .unset, .unset, .unset, .unset, .unset, .unset, .unset] [(.int (8 : Int32)), (.long q0), (.int (1 : Int32)), (.ref ob1)])
  refine Runs.back (fun t_ k_ => XS.lushr X2.here hx rfl (hb hby at_19) rfl k_) ?_
  show Runs _ _ _ _ T2 (mkF m 20 #[.val (.long q0), .second, .val (.long q1), .second, .val (.int p2), .val (.int p3), .val (.int p4), .val (.ref ob1), .unset, .unset, .unset, .unset, .unset, .unset, .unset, .unset, .unset, .unset, .unset] [(.long ((q0.toUInt64 >>> ((8 : Int32) &&& 0x3f).toInt64.toUInt64).toInt64)), (.int (1 : Int32)), (.ref ob1)])
  refine Runs.back (fun t_ k_ => XS.l2i X2.here hx rfl (hb hby at_20) rfl k_) ?_
  show Runs _ _ _ _ T2 (mkF m 21 #[.val (.long q0), .second, .val (.long q1), .second, .val (.int p2), .val (.int p3), .val (.int p4), .val (.ref ob1), .unset, .unset, .unset, .unset, .unset, .unset, .unset, .unset, .unset, .unset, .unset] [(.int (((q0.toUInt64 >>> ((8 : Int32) &&& 0x3f).toInt64.toUInt64).toInt64).toInt32)), (.int (1 : Int32)), (.ref ob1)])
  refine Runs.back (fun t_ k_ => XS.i2b X2.here hx rfl (hb hby at_21) rfl k_) ?_
  show Runs _ _ _ _ T2 (mkF m 22 #[.val (.long q0), .second, .val (.long q1), .second, .val (.int p2), .val (.int p3), .val (.int p4), .val (.ref ob1), .unset, .unset, .unset, .unset, .unset, .unset, .unset, .unset, .unset, .unset, .unset] [(.int ((((q0.toUInt64 >>> ((8 : Int32) &&& 0x3f).toInt64.toUInt64).toInt64).toInt32).toInt8.toInt32)), (.int (1 : Int32)), (.ref ob1)])
  obtain ⟨cl3, Ar3, S3, Hs3⟩ := id f2_Arr_0
  obtain ⟨T3, h3, X3, e3, W3, st3⟩ := stB X2 hx hZ e2 Ar3 (j := (1 : Int32)) (by rw [S3]; exact (inbO (by decide : ¬ (1 : Int32) < 0) (rfl : ((1 : Int32)).toNatClampNeg = 1) (show 1 < 16 from (by first | omega | decide)))) (g := (mkF m 22 #[.val (.long q0), .second, .val (.long q1), .second, .val (.int p2), .val (.int p3), .val (.int p4), .val (.ref ob1), .unset, .unset, .unset, .unset, .unset, .unset, .unset, .unset, .unset, .unset, .unset] [(.int ((((q0.toUInt64 >>> ((8 : Int32) &&& 0x3f).toInt64.toUInt64).toInt64).toInt32).toInt8.toInt32)), (.int (1 : Int32)), (.ref ob1)])) rfl rfl (hb hby at_22)
  have N3 := Fr.snoc X3 N2 g_ob1
  obtain ⟨L3, X3, N3⟩ := hideL X3 N3
  rw [(rfl : ((1 : Int32)).toNatClampNeg = 1)] at W3
  have f3_Arr_0 : OArr Z h3 ob1 .byte 16 (fun i => if i = 1 then (Value.int (nar .byte ((((q0.toUInt64 >>> ((8 : Int32) &&& 0x3f).toInt64.toUInt64).toInt64).toInt32).toInt8.toInt32))) else (fun i => if i = 0 then (Value.int (nar .byte ((q0.toInt32).toInt8.toInt32))) else (fun _ => (Value.int (0 : Int32))) i) i) := f2_Arr_0.set W3
  have Z3 : n0 ≤ h3.size := Nat.le_trans (Z2) (Nat.le_of_eq W3.size.symm)
  refine Runs.back st3 ?_
  show Runs _ _ _ _ T3 (mkF m 23 #[.val (.long q0), .second, .val (.long q1), .second, .val (.int p2), .val (.int p3), .val (.int p4), .val (.ref ob1), .unset, .unset, .unset, .unset, .unset, .unset, .unset, .unset, .unset, .unset, .unset] [])
  refine Runs.back (fun t_ k_ => XS.aload X3.here hx rfl (hb hby at_23) rfl rfl k_) ?_
  show Runs _ _ _ _ T3 (mkF m 25 #[.val (.long q0), .second, .val (.long q1), .second, .val (.int p2), .val (.int p3), .val (.int p4), .val (.ref ob1), .unset, .unset, .unset, .unset, .unset, .unset, .unset, .unset, .unset, .unset, .unset] [(.ref ob1)])
  refine Runs.back (fun t_ k_ => XS.iconst X3.here hx rfl (hb hby at_25) k_) ?_
  show Runs _ _ _ _ T3 (mkF m 26 #[.val (.long q0), .second, .val (.long q1), .second, .val (.int p2), .val (.int p3), .val (.int p4), .val (.ref ob1), .unset, .unset, .unset, .unset, .unset, .unset, .unset, .unset, .unset, .unset, .unset] [(.int (2 : Int32)), (.ref ob1)])
  refine Runs.back (fun t_ k_ => XS.lloadN X3.here hx rfl (hb hby at_26) rfl k_) ?_
  show Runs _ _ _ _ T3 (mkF m 27 #[.val (.long q0), .second, .val (.long q1), .second, .val (.int p2), .val (.int p3), .val (.int p4), .val (.ref ob1), .unset, .unset, .unset, .unset, .unset, .unset, .unset, .unset, .unset, .unset, .unset] [(.long q0), (.int (2 : Int32)), (.ref ob1)])
  refine Runs.back (fun t_ k_ => XS.bipush X3.here hx rfl (hb hby at_27) k_) ?_
  show Runs _ _ _ _ T3 (mkF m 29 #[.val (.long q0), .second, .val (.long q1), .second, .val (.int p2), .val (.int p3), .val (.int p4), .val (.ref ob1), .unset, .unset, .unset, .unset, .unset, .unset, .unset, .unset, .unset, .unset, .unset] [(.int (16 : Int32)), (.long q0), (.int (2 : Int32)), (.ref ob1)])
  refine Runs.back (fun t_ k_ => XS.lushr X3.here hx rfl (hb hby at_29) rfl k_) ?_
  show Runs _ _ _ _ T3 (mkF m 30 #[.val (.long q0), .second, .val (.long q1), .second, .val (.int p2), .val (.int p3), .val (.int p4), .val (.ref ob1), .unset, .unset, .unset, .unset, .unset, .unset, .unset, .unset, .unset, .unset, .unset] [(.long ((q0.toUInt64 >>> ((16 : Int32) &&& 0x3f).toInt64.toUInt64).toInt64)), (.int (2 : Int32)), (.ref ob1)])
  refine Runs.back (fun t_ k_ => XS.l2i X3.here hx rfl (hb hby at_30) rfl k_) ?_
  show Runs _ _ _ _ T3 (mkF m 31 #[.val (.long q0), .second, .val (.long q1), .second, .val (.int p2), .val (.int p3), .val (.int p4), .val (.ref ob1), .unset, .unset, .unset, .unset, .unset, .unset, .unset, .unset, .unset, .unset, .unset] [(.int (((q0.toUInt64 >>> ((16 : Int32) &&& 0x3f).toInt64.toUInt64).toInt64).toInt32)), (.int (2 : Int32)), (.ref ob1)])
  refine Runs.back (fun t_ k_ => XS.i2b X3.here hx rfl (hb hby at_31) rfl k_) ?_
  show Runs _ _ _ _ T3 (mkF m 32 #[.val (.long q0), .second, .val (.long q1), .second, .val (.int p2), .val (.int p3), .val (.int p4), .val (.ref ob1), .unset, .unset, .unset, .unset, .unset, .unset, .unset, .unset, .unset, .unset, .unset] [(.int ((((q0.toUInt64 >>> ((16 : Int32) &&& 0x3f).toInt64.toUInt64).toInt64).toInt32).toInt8.toInt32)), (.int (2 : Int32)), (.ref ob1)])
  obtain ⟨cl4, Ar4, S4, Hs4⟩ := id f3_Arr_0
  obtain ⟨T4, h4, X4, e4, W4, st4⟩ := stB X3 hx hZ e3 Ar4 (j := (2 : Int32)) (by rw [S4]; exact (inbO (by decide : ¬ (2 : Int32) < 0) (rfl : ((2 : Int32)).toNatClampNeg = 2) (show 2 < 16 from (by first | omega | decide)))) (g := (mkF m 32 #[.val (.long q0), .second, .val (.long q1), .second, .val (.int p2), .val (.int p3), .val (.int p4), .val (.ref ob1), .unset, .unset, .unset, .unset, .unset, .unset, .unset, .unset, .unset, .unset, .unset] [(.int ((((q0.toUInt64 >>> ((16 : Int32) &&& 0x3f).toInt64.toUInt64).toInt64).toInt32).toInt8.toInt32)), (.int (2 : Int32)), (.ref ob1)])) rfl rfl (hb hby at_32)
  have N4 := Fr.snoc X4 N3 g_ob1
  obtain ⟨L4, X4, N4⟩ := hideL X4 N4
  rw [(rfl : ((2 : Int32)).toNatClampNeg = 2)] at W4
  have f4_Arr_0 : OArr Z h4 ob1 .byte 16 (fun i => if i = 2 then (Value.int (nar .byte ((((q0.toUInt64 >>> ((16 : Int32) &&& 0x3f).toInt64.toUInt64).toInt64).toInt32).toInt8.toInt32))) else (fun i => if i = 1 then (Value.int (nar .byte ((((q0.toUInt64 >>> ((8 : Int32) &&& 0x3f).toInt64.toUInt64).toInt64).toInt32).toInt8.toInt32))) else (fun i => if i = 0 then (Value.int (nar .byte ((q0.toInt32).toInt8.toInt32))) else (fun _ => (Value.int (0 : Int32))) i) i) i) := f3_Arr_0.set W4
  have Z4 : n0 ≤ h4.size := Nat.le_trans (Z3) (Nat.le_of_eq W4.size.symm)
  refine Runs.back st4 ?_
  show Runs _ _ _ _ T4 (mkF m 33 #[.val (.long q0), .second, .val (.long q1), .second, .val (.int p2), .val (.int p3), .val (.int p4), .val (.ref ob1), .unset, .unset, .unset, .unset, .unset, .unset, .unset, .unset, .unset, .unset, .unset] [])
  refine Runs.back (fun t_ k_ => XS.aload X4.here hx rfl (hb hby at_33) rfl rfl k_) ?_
  show Runs _ _ _ _ T4 (mkF m 35 #[.val (.long q0), .second, .val (.long q1), .second, .val (.int p2), .val (.int p3), .val (.int p4), .val (.ref ob1), .unset, .unset, .unset, .unset, .unset, .unset, .unset, .unset, .unset, .unset, .unset] [(.ref ob1)])
  refine Runs.back (fun t_ k_ => XS.iconst X4.here hx rfl (hb hby at_35) k_) ?_
  show Runs _ _ _ _ T4 (mkF m 36 #[.val (.long q0), .second, .val (.long q1), .second, .val (.int p2), .val (.int p3), .val (.int p4), .val (.ref ob1), .unset, .unset, .unset, .unset, .unset, .unset, .unset, .unset, .unset, .unset, .unset] [(.int (3 : Int32)), (.ref ob1)])
  refine Runs.back (fun t_ k_ => XS.lloadN X4.here hx rfl (hb hby at_36) rfl k_) ?_
  show Runs _ _ _ _ T4 (mkF m 37 #[.val (.long q0), .second, .val (.long q1), .second, .val (.int p2), .val (.int p3), .val (.int p4), .val (.ref ob1), .unset, .unset, .unset, .unset, .unset, .unset, .unset, .unset, .unset, .unset, .unset] [(.long q0), (.int (3 : Int32)), (.ref ob1)])
  refine Runs.back (fun t_ k_ => XS.bipush X4.here hx rfl (hb hby at_37) k_) ?_
  show Runs _ _ _ _ T4 (mkF m 39 #[.val (.long q0), .second, .val (.long q1), .second, .val (.int p2), .val (.int p3), .val (.int p4), .val (.ref ob1), .unset, .unset, .unset, .unset, .unset, .unset, .unset, .unset, .unset, .unset, .unset] [(.int (24 : Int32)), (.long q0), (.int (3 : Int32)), (.ref ob1)])
  refine Runs.back (fun t_ k_ => XS.lushr X4.here hx rfl (hb hby at_39) rfl k_) ?_
  show Runs _ _ _ _ T4 (mkF m 40 #[.val (.long q0), .second, .val (.long q1), .second, .val (.int p2), .val (.int p3), .val (.int p4), .val (.ref ob1), .unset, .unset, .unset, .unset, .unset, .unset, .unset, .unset, .unset, .unset, .unset] [(.long ((q0.toUInt64 >>> ((24 : Int32) &&& 0x3f).toInt64.toUInt64).toInt64)), (.int (3 : Int32)), (.ref ob1)])
  refine Runs.back (fun t_ k_ => XS.l2i X4.here hx rfl (hb hby at_40) rfl k_) ?_
  show Runs _ _ _ _ T4 (mkF m 41 #[.val (.long q0), .second, .val (.long q1), .second, .val (.int p2), .val (.int p3), .val (.int p4), .val (.ref ob1), .unset, .unset, .unset, .unset, .unset, .unset, .unset, .unset, .unset, .unset, .unset] [(.int (((q0.toUInt64 >>> ((24 : Int32) &&& 0x3f).toInt64.toUInt64).toInt64).toInt32)), (.int (3 : Int32)), (.ref ob1)])
  refine Runs.back (fun t_ k_ => XS.i2b X4.here hx rfl (hb hby at_41) rfl k_) ?_
  show Runs _ _ _ _ T4 (mkF m 42 #[.val (.long q0), .second, .val (.long q1), .second, .val (.int p2), .val (.int p3), .val (.int p4), .val (.ref ob1), .unset, .unset, .unset, .unset, .unset, .unset, .unset, .unset, .unset, .unset, .unset] [(.int ((((q0.toUInt64 >>> ((24 : Int32) &&& 0x3f).toInt64.toUInt64).toInt64).toInt32).toInt8.toInt32)), (.int (3 : Int32)), (.ref ob1)])
  obtain ⟨cl5, Ar5, S5, Hs5⟩ := id f4_Arr_0
  obtain ⟨T5, h5, X5, e5, W5, st5⟩ := stB X4 hx hZ e4 Ar5 (j := (3 : Int32)) (by rw [S5]; exact (inbO (by decide : ¬ (3 : Int32) < 0) (rfl : ((3 : Int32)).toNatClampNeg = 3) (show 3 < 16 from (by first | omega | decide)))) (g := (mkF m 42 #[.val (.long q0), .second, .val (.long q1), .second, .val (.int p2), .val (.int p3), .val (.int p4), .val (.ref ob1), .unset, .unset, .unset, .unset, .unset, .unset, .unset, .unset, .unset, .unset, .unset] [(.int ((((q0.toUInt64 >>> ((24 : Int32) &&& 0x3f).toInt64.toUInt64).toInt64).toInt32).toInt8.toInt32)), (.int (3 : Int32)), (.ref ob1)])) rfl rfl (hb hby at_42)
  have N5 := Fr.snoc X5 N4 g_ob1
  obtain ⟨L5, X5, N5⟩ := hideL X5 N5
  rw [(rfl : ((3 : Int32)).toNatClampNeg = 3)] at W5
  have f5_Arr_0 : OArr Z h5 ob1 .byte 16 (fun i => if i = 3 then (Value.int (nar .byte ((((q0.toUInt64 >>> ((24 : Int32) &&& 0x3f).toInt64.toUInt64).toInt64).toInt32).toInt8.toInt32))) else (fun i => if i = 2 then (Value.int (nar .byte ((((q0.toUInt64 >>> ((16 : Int32) &&& 0x3f).toInt64.toUInt64).toInt64).toInt32).toInt8.toInt32))) else (fun i => if i = 1 then (Value.int (nar .byte ((((q0.toUInt64 >>> ((8 : Int32) &&& 0x3f).toInt64.toUInt64).toInt64).toInt32).toInt8.toInt32))) else (fun i => if i = 0 then (Value.int (nar .byte ((q0.toInt32).toInt8.toInt32))) else (fun _ => (Value.int (0 : Int32))) i) i) i) i) := f4_Arr_0.set W5
  have Z5 : n0 ≤ h5.size := Nat.le_trans (Z4) (Nat.le_of_eq W5.size.symm)
  refine Runs.back st5 ?_
  show Runs _ _ _ _ T5 (mkF m 43 #[.val (.long q0), .second, .val (.long q1), .second, .val (.int p2), .val (.int p3), .val (.int p4), .val (.ref ob1), .unset, .unset, .unset, .unset, .unset, .unset, .unset, .unset, .unset, .unset, .unset] [])
  refine Runs.back (fun t_ k_ => XS.aload X5.here hx rfl (hb hby at_43) rfl rfl k_) ?_
  show Runs _ _ _ _ T5 (mkF m 45 #[.val (.long q0), .second, .val (.long q1), .second, .val (.int p2), .val (.int p3), .val (.int p4), .val (.ref ob1), .unset, .unset, .unset, .unset, .unset, .unset, .unset, .unset, .unset, .unset, .unset] [(.ref ob1)])
  refine Runs.back (fun t_ k_ => XS.iconst X5.here hx rfl (hb hby at_45) k_) ?_
  show Runs _ _ _ _ T5 (mkF m 46 #[.val (.long q0), .second, .val (.long q1), .second, .val (.int p2), .val (.int p3), .val (.int p4), .val (.ref ob1), .unset, .unset, .unset, .unset, .unset, .unset, .unset, .unset, .unset, .unset, .unset] [(.int (4 : Int32)), (.ref ob1)])
  refine Runs.back (fun t_ k_ => XS.lloadN X5.here hx rfl (hb hby at_46) rfl k_) ?_
  show Runs _ _ _ _ T5 (mkF m 47 #[.val (.long q0), .second, .val (.long q1), .second, .val (.int p2), .val (.int p3), .val (.int p4), .val (.ref ob1), .unset, .unset, .unset, .unset, .unset, .unset, .unset, .unset, .unset, .unset, .unset] [(.long q0), (.int (4 : Int32)), (.ref ob1)])
  refine Runs.back (fun t_ k_ => XS.bipush X5.here hx rfl (hb hby at_47) k_) ?_
  show Runs _ _ _ _ T5 (mkF m 49 #[.val (.long q0), .second, .val (.long q1), .second, .val (.int p2), .val (.int p3), .val (.int p4), .val (.ref ob1), .unset, .unset, .unset, .unset, .unset, .unset, .unset, .unset, .unset, .unset, .unset] [(.int (32 : Int32)), (.long q0), (.int (4 : Int32)), (.ref ob1)])
  refine Runs.back (fun t_ k_ => XS.lushr X5.here hx rfl (hb hby at_49) rfl k_) ?_
  show Runs _ _ _ _ T5 (mkF m 50 #[.val (.long q0), .second, .val (.long q1), .second, .val (.int p2), .val (.int p3), .val (.int p4), .val (.ref ob1), .unset, .unset, .unset, .unset, .unset, .unset, .unset, .unset, .unset, .unset, .unset] [(.long ((q0.toUInt64 >>> ((32 : Int32) &&& 0x3f).toInt64.toUInt64).toInt64)), (.int (4 : Int32)), (.ref ob1)])
  refine Runs.back (fun t_ k_ => XS.l2i X5.here hx rfl (hb hby at_50) rfl k_) ?_
  show Runs _ _ _ _ T5 (mkF m 51 #[.val (.long q0), .second, .val (.long q1), .second, .val (.int p2), .val (.int p3), .val (.int p4), .val (.ref ob1), .unset, .unset, .unset, .unset, .unset, .unset, .unset, .unset, .unset, .unset, .unset] [(.int (((q0.toUInt64 >>> ((32 : Int32) &&& 0x3f).toInt64.toUInt64).toInt64).toInt32)), (.int (4 : Int32)), (.ref ob1)])
  refine Runs.back (fun t_ k_ => XS.i2b X5.here hx rfl (hb hby at_51) rfl k_) ?_
  show Runs _ _ _ _ T5 (mkF m 52 #[.val (.long q0), .second, .val (.long q1), .second, .val (.int p2), .val (.int p3), .val (.int p4), .val (.ref ob1), .unset, .unset, .unset, .unset, .unset, .unset, .unset, .unset, .unset, .unset, .unset] [(.int ((((q0.toUInt64 >>> ((32 : Int32) &&& 0x3f).toInt64.toUInt64).toInt64).toInt32).toInt8.toInt32)), (.int (4 : Int32)), (.ref ob1)])
  obtain ⟨cl6, Ar6, S6, Hs6⟩ := id f5_Arr_0
  obtain ⟨T6, h6, X6, e6, W6, st6⟩ := stB X5 hx hZ e5 Ar6 (j := (4 : Int32)) (by rw [S6]; exact (inbO (by decide : ¬ (4 : Int32) < 0) (rfl : ((4 : Int32)).toNatClampNeg = 4) (show 4 < 16 from (by first | omega | decide)))) (g := (mkF m 52 #[.val (.long q0), .second, .val (.long q1), .second, .val (.int p2), .val (.int p3), .val (.int p4), .val (.ref ob1), .unset, .unset, .unset, .unset, .unset, .unset, .unset, .unset, .unset, .unset, .unset] [(.int ((((q0.toUInt64 >>> ((32 : Int32) &&& 0x3f).toInt64.toUInt64).toInt64).toInt32).toInt8.toInt32)), (.int (4 : Int32)), (.ref ob1)])) rfl rfl (hb hby at_52)
  have N6 := Fr.snoc X6 N5 g_ob1
  obtain ⟨L6, X6, N6⟩ := hideL X6 N6
  rw [(rfl : ((4 : Int32)).toNatClampNeg = 4)] at W6
  have f6_Arr_0 : OArr Z h6 ob1 .byte 16 (fun i => if i = 4 then (Value.int (nar .byte ((((q0.toUInt64 >>> ((32 : Int32) &&& 0x3f).toInt64.toUInt64).toInt64).toInt32).toInt8.toInt32))) else (fun i => if i = 3 then (Value.int (nar .byte ((((q0.toUInt64 >>> ((24 : Int32) &&& 0x3f).toInt64.toUInt64).toInt64).toInt32).toInt8.toInt32))) else (fun i => if i = 2 then (Value.int (nar .byte ((((q0.toUInt64 >>> ((16 : Int32) &&& 0x3f).toInt64.toUInt64).toInt64).toInt32).toInt8.toInt32))) else (fun i => if i = 1 then (Value.int (nar .byte ((((q0.toUInt64 >>> ((8 : Int32) &&& 0x3f).toInt64.toUInt64).toInt64).toInt32).toInt8.toInt32))) else (fun i => if i = 0 then (Value.int (nar .byte ((q0.toInt32).toInt8.toInt32))) else (fun _ => (Value.int (0 : Int32))) i) i) i) i) i) := f5_Arr_0.set W6
  have Z6 : n0 ≤ h6.size := Nat.le_trans (Z5) (Nat.le_of_eq W6.size.symm)
  refine Runs.back st6 ?_
  show Runs _ _ _ _ T6 (mkF m 53 #[.val (.long q0), .second, .val (.long q1), .second, .val (.int p2), .val (.int p3), .val (.int p4), .val (.ref ob1), .unset, .unset, .unset, .unset, .unset, .unset, .unset, .unset, .unset, .unset, .unset] [])
  refine Runs.back (fun t_ k_ => XS.aload X6.here hx rfl (hb hby at_53) rfl rfl k_) ?_
  show Runs _ _ _ _ T6 (mkF m 55 #[.val (.long q0), .second, .val (.long q1), .second, .val (.int p2), .val (.int p3), .val (.int p4), .val (.ref ob1), .unset, .unset, .unset, .unset, .unset, .unset, .unset, .unset, .unset, .unset, .unset] [(.ref ob1)])
  refine Runs.back (fun t_ k_ => XS.iconst X6.here hx rfl (hb hby at_55) k_) ?_
  show Runs _ _ _ _ T6 (mkF m 56 #[.val (.long q0), .second, .val (.long q1), .second, .val (.int p2), .val (.int p3), .val (.int p4), .val (.ref ob1), .unset, .unset, .unset, .unset, .unset, .unset, .unset, .unset, .unset, .unset, .unset] [(.int (5 : Int32)), (.ref ob1)])
  refine Runs.back (fun t_ k_ => XS.lloadN X6.here hx rfl (hb hby at_56) rfl k_) ?_
  show Runs _ _ _ _ T6 (mkF m 57 #[.val (.long q0), .second, .val (.long q1), .second, .val (.int p2), .val (.int p3), .val (.int p4), .val (.ref ob1), .unset, .unset, .unset, .unset, .unset, .unset, .unset, .unset, .unset, .unset, .unset] [(.long q0), (.int (5 : Int32)), (.ref ob1)])
  refine Runs.back (fun t_ k_ => XS.bipush X6.here hx rfl (hb hby at_57) k_) ?_
  show Runs _ _ _ _ T6 (mkF m 59 #[.val (.long q0), .second, .val (.long q1), .second, .val (.int p2), .val (.int p3), .val (.int p4), .val (.ref ob1), .unset, .unset, .unset, .unset, .unset, .unset, .unset, .unset, .unset, .unset, .unset] [(.int (40 : Int32)), (.long q0), (.int (5 : Int32)), (.ref ob1)])
  refine Runs.back (fun t_ k_ => XS.lushr X6.here hx rfl (hb hby at_59) rfl k_) ?_
  show Runs _ _ _ _ T6 (mkF m 60 #[.val (.long q0), .second, .val (.long q1), .second, .val (.int p2), .val (.int p3), .val (.int p4), .val (.ref ob1), .unset, .unset, .unset, .unset, .unset, .unset, .unset, .unset, .unset, .unset, .unset] [(.long ((q0.toUInt64 >>> ((40 : Int32) &&& 0x3f).toInt64.toUInt64).toInt64)), (.int (5 : Int32)), (.ref ob1)])
  refine Runs.back (fun t_ k_ => XS.l2i X6.here hx rfl (hb hby at_60) rfl k_) ?_
  show Runs _ _ _ _ T6 (mkF m 61 #[.val (.long q0), .second, .val (.long q1), .second, .val (.int p2), .val (.int p3), .val (.int p4), .val (.ref ob1), .unset, .unset, .unset, .unset, .unset, .unset, .unset, .unset, .unset, .unset, .unset] [(.int (((q0.toUInt64 >>> ((40 : Int32) &&& 0x3f).toInt64.toUInt64).toInt64).toInt32)), (.int (5 : Int32)), (.ref ob1)])
  refine Runs.back (fun t_ k_ => XS.i2b X6.here hx rfl (hb hby at_61) rfl k_) ?_
  show Runs _ _ _ _ T6 (mkF m 62 #[.val (.long q0), .second, .val (.long q1), .second, .val (.int p2), .val (.int p3), .val (.int p4), .val (.ref ob1), .unset, .unset, .unset, .unset, .unset, .unset, .unset, .unset, .unset, .unset, .unset] [(.int ((((q0.toUInt64 >>> ((40 : Int32) &&& 0x3f).toInt64.toUInt64).toInt64).toInt32).toInt8.toInt32)), (.int (5 : Int32)), (.ref ob1)])
  obtain ⟨cl7, Ar7, S7, Hs7⟩ := id f6_Arr_0
  obtain ⟨T7, h7, X7, e7, W7, st7⟩ := stB X6 hx hZ e6 Ar7 (j := (5 : Int32)) (by rw [S7]; exact (inbO (by decide : ¬ (5 : Int32) < 0) (rfl : ((5 : Int32)).toNatClampNeg = 5) (show 5 < 16 from (by first | omega | decide)))) (g := (mkF m 62 #[.val (.long q0), .second, .val (.long q1), .second, .val (.int p2), .val (.int p3), .val (.int p4), .val (.ref ob1), .unset, .unset, .unset, .unset, .unset, .unset, .unset, .unset, .unset, .unset, .unset] [(.int ((((q0.toUInt64 >>> ((40 : Int32) &&& 0x3f).toInt64.toUInt64).toInt64).toInt32).toInt8.toInt32)), (.int (5 : Int32)), (.ref ob1)])) rfl rfl (hb hby at_62)
  have N7 := Fr.snoc X7 N6 g_ob1
  obtain ⟨L7, X7, N7⟩ := hideL X7 N7
  rw [(rfl : ((5 : Int32)).toNatClampNeg = 5)] at W7
  have f7_Arr_0 : OArr Z h7 ob1 .byte 16 (fun i => if i = 5 then (Value.int (nar .byte ((((q0.toUInt64 >>> ((40 : Int32) &&& 0x3f).toInt64.toUInt64).toInt64).toInt32).toInt8.toInt32))) else (fun i => if i = 4 then (Value.int (nar .byte ((((q0.toUInt64 >>> ((32 : Int32) &&& 0x3f).toInt64.toUInt64).toInt64).toInt32).toInt8.toInt32))) else (fun i => if i = 3 then (Value.int (nar .byte ((((q0.toUInt64 >>> ((24 : Int32) &&& 0x3f).toInt64.toUInt64).toInt64).toInt32).toInt8.toInt32))) else (fun i => if i = 2 then (Value.int (nar .byte ((((q0.toUInt64 >>> ((16 : Int32) &&& 0x3f).toInt64.toUInt64).toInt64).toInt32).toInt8.toInt32))) else (fun i => if i = 1 then (Value.int (nar .byte ((((q0.toUInt64 >>> ((8 : Int32) &&& 0x3f).toInt64.toUInt64).toInt64).toInt32).toInt8.toInt32))) else (fun i => if i = 0 then (Value.int (nar .byte ((q0.toInt32).toInt8.toInt32))) else (fun _ => (Value.int (0 : Int32))) i) i) i) i) i) i) := f6_Arr_0.set W7
  have Z7 : n0 ≤ h7.size := Nat.le_trans (Z6) (Nat.le_of_eq W7.size.symm)
  refine Runs.back st7 ?_
  show Runs _ _ _ _ T7 (mkF m 63 #[.val (.long q0), .second, .val (.long q1), .second, .val (.int p2), .val (.int p3), .val (.int p4), .val (.ref ob1), .unset, .unset, .unset, .unset, .unset, .unset, .unset, .unset, .unset, .unset, .unset] [])
  refine Runs.back (fun t_ k_ => XS.aload X7.here hx rfl (hb hby at_63) rfl rfl k_) ?_
  show Runs _ _ _ _ T7 (mkF m 65 #[.val (.long q0), .second, .val (.long q1), .second, .val (.int p2), .val (.int p3), .val (.int p4), .val (.ref ob1), .unset, .unset, .unset, .unset, .unset, .unset, .unset, .unset, .unset, .unset, .unset] [(.ref ob1)])
  refine Runs.back (fun t_ k_ => XS.bipush X7.here hx rfl (hb hby at_65) k_) ?_
  show Runs _ _ _ _ T7 (mkF m 67 #[.val (.long q0), .second, .val (.long q1), .second, .val (.int p2), .val (.int p3), .val (.int p4), .val (.ref ob1), .unset, .unset, .unset, .unset, .unset, .unset, .unset, .unset, .unset, .unset, .unset] [(.int (6 : Int32)), (.ref ob1)])
  refine Runs.back (fun t_ k_ => XS.lloadN X7.here hx rfl (hb hby at_67) rfl k_) ?_
  show Runs _ _ _ _ T7 (mkF m 68 #[.val (.long q0), .second, .val (.long q1), .second, .val (.int p2), .val (.int p3), .val (.int p4), .val (.ref ob1), .unset, .unset, .unset, .unset, .unset, .unset, .unset, .unset, .unset, .unset, .unset] [(.long q0), (.int (6 : Int32)), (.ref ob1)])
  refine Runs.back (fun t_ k_ => XS.bipush X7.here hx rfl (hb hby at_68) k_) ?_
  show Runs _ _ _ _ T7 (mkF m 70 #[.val (.long q0), .second, .val (.long q1), .second, .val (.int p2), .val (.int p3), .val (.int p4), .val (.ref ob1), .unset, .unset, .unset, .unset, .unset, .unset, .unset, .unset, .unset, .unset, .unset] [(.int (48 : Int32)), (.long q0), (.int (6 : Int32)), (.ref ob1)])
  refine Runs.back (fun t_ k_ => XS.lushr X7.here hx rfl (hb hby at_70) rfl k_) ?_
  show Runs _ _ _ _ T7 (mkF m 71 #[.val (.long q0), .second, .val (.long q1), .second, .val (.int p2), .val (.int p3), .val (.int p4), .val (.ref ob1), .unset, .unset, .unset, .unset, .unset, .unset, .unset, .unset, .unset, .unset, .unset] [(.long ((q0.toUInt64 >>> ((48 : Int32) &&& 0x3f).toInt64.toUInt64).toInt64)), (.int (6 : Int32)), (.ref ob1)])
  refine Runs.back (fun t_ k_ => XS.l2i X7.here hx rfl (hb hby at_71) rfl k_) ?_
  show Runs _ _ _ _ T7 (mkF m 72 #[.val (.long q0), .second, .val (.long q1), .second, .val (.int p2), .val (.int p3), .val (.int p4), .val (.ref ob1), .unset, .unset, .unset, .unset, .unset, .unset, .unset, .unset, .unset, .unset, .unset] [(.int (((q0.toUInt64 >>> ((48 : Int32) &&& 0x3f).toInt64.toUInt64).toInt64).toInt32)), (.int (6 : Int32)), (.ref ob1)])
  refine Runs.back (fun t_ k_ => XS.i2b X7.here hx rfl (hb hby at_72) rfl k_) ?_
  show Runs _ _ _ _ T7 (mkF m 73 #[.val (.long q0), .second, .val (.long q1), .second, .val (.int p2), .val (.int p3), .val (.int p4), .val (.ref ob1), .unset, .unset, .unset, .unset, .unset, .unset, .unset, .unset, .unset, .unset, .unset] [(.int ((((q0.toUInt64 >>> ((48 : Int32) &&& 0x3f).toInt64.toUInt64).toInt64).toInt32).toInt8.toInt32)), (.int (6 : Int32)), (.ref ob1)])
  obtain ⟨cl8, Ar8, S8, Hs8⟩ := id f7_Arr_0
  obtain ⟨T8, h8, X8, e8, W8, st8⟩ := stB X7 hx hZ e7 Ar8 (j := (6 : Int32)) (by rw [S8]; exact (inbO (by decide : ¬ (6 : Int32) < 0) (rfl : ((6 : Int32)).toNatClampNeg = 6) (show 6 < 16 from (by first | omega | decide)))) (g := (mkF m 73 #[.val (.long q0), .second, .val (.long q1), .second, .val (.int p2), .val (.int p3), .val (.int p4), .val (.ref ob1), .unset, .unset, .unset, .unset, .unset, .unset, .unset, .unset, .unset, .unset, .unset] [(.int ((((q0.toUInt64 >>> ((48 : Int32) &&& 0x3f).toInt64.toUInt64).toInt64).toInt32).toInt8.toInt32)), (.int (6 : Int32)), (.ref ob1)])) rfl rfl (hb hby at_73)
  have N8 := Fr.snoc X8 N7 g_ob1
  obtain ⟨L8, X8, N8⟩ := hideL X8 N8
  rw [(rfl : ((6 : Int32)).toNatClampNeg = 6)] at W8
  have f8_Arr_0 : OArr Z h8 ob1 .byte 16 (fun i => if i = 6 then (Value.int (nar .byte ((((q0.toUInt64 >>> ((48 : Int32) &&& 0x3f).toInt64.toUInt64).toInt64).toInt32).toInt8.toInt32))) else (fun i => if i = 5 then (Value.int (nar .byte ((((q0.toUInt64 >>> ((40 : Int32) &&& 0x3f).toInt64.toUInt64).toInt64).toInt32).toInt8.toInt32))) else (fun i => if i = 4 then (Value.int (nar .byte ((((q0.toUInt64 >>> ((32 : Int32) &&& 0x3f).toInt64.toUInt64).toInt64).toInt32).toInt8.toInt32))) else (fun i => if i = 3 then (Value.int (nar .byte ((((q0.toUInt64 >>> ((24 : Int32) &&& 0x3f).toInt64.toUInt64).toInt64).toInt32).toInt8.toInt32))) else (fun i => if i = 2 then (Value.int (nar .byte ((((q0.toUInt64 >>> ((16 : Int32) &&& 0x3f).toInt64.toUInt64).toInt64).toInt32).toInt8.toInt32))) else (fun i => if i = 1 then (Value.int (nar .byte ((((q0.toUInt64 >>> ((8 : Int32) &&& 0x3f).toInt64.toUInt64).toInt64).toInt32).toInt8.toInt32))) else (fun i => if i = 0 then (Value.int (nar .byte ((q0.toInt32).toInt8.toInt32))) else (fun _ => (Value.int (0 : Int32))) i) i) i) i) i) i) i) := f7_Arr_0.set W8
  have Z8 : n0 ≤ h8.size := Nat.le_trans (Z7) (Nat.le_of_eq W8.size.symm)
  refine Runs.back st8 ?_
  show Runs _ _ _ _ T8 (mkF m 74 #[.val (.long q0), .second, .val (.long q1), .second, .val (.int p2), .val (.int p3), .val (.int p4), .val (.ref ob1), .unset, .unset, .unset, .unset, .unset, .unset, .unset, .unset, .unset, .unset, .unset] [])
  refine Runs.back (fun t_ k_ => XS.aload X8.here hx rfl (hb hby at_74) rfl rfl k_) ?_
  show Runs _ _ _ _ T8 (mkF m 76 #[.val (.long q0), .second, .val (.long q1), .second, .val (.int p2), .val (.int p3), .val (.int p4), .val (.ref ob1), .unset, .unset, .unset, .unset, .unset, .unset, .unset, .unset, .unset, .unset, .unset] [(.ref ob1)])
  refine Runs.back (fun t_ k_ => XS.bipush X8.here hx rfl (hb hby at_76) k_) ?_
  show Runs _ _ _ _ T8 (mkF m 78 #[.val (.long q0), .second, .val (.long q1), .second, .val (.int p2), .val (.int p3), .val (.int p4), .val (.ref ob1), .unset, .unset, .unset, .unset, .unset, .unset, .unset, .unset, .unset, .unset, .unset] [(.int (7 : Int32)), (.ref ob1)])
  refine Runs.back (fun t_ k_ => XS.lloadN X8.here hx rfl (hb hby at_78) rfl k_) ?_
  show Runs _ _ _ _ T8 (mkF m 79 #[.val (.long q0), .second, .val (.long q1), .second, .val (.int p2), .val (.int p3), .val (.int p4), .val (.ref ob1), .unset, .unset, .unset, .unset, .unset, .unset, .unset, .unset, .unset, .unset, .unset] [(.long q0), (.int (7 : Int32)), (.ref ob1)])
  refine Runs.back (fun t_ k_ => XS.bipush X8.here hx rfl (hb hby at_79) k_) ?_
  show Runs _ _ _ _ T8 (mkF m 81 #[.val (.long q0), .second, .val (.long q1), .second, .val (.int p2), .val (.int p3), .val (.int p4), .val (.ref ob1), .unset, .unset, .unset, .unset, .unset, .unset, .unset, .unset, .unset, .unset, .unset] [(.int (56 : Int32)), (.long q0), (.int (7 : Int32)), (.ref ob1)])
  refine Runs.back (fun t_ k_ => XS.lushr X8.here hx rfl (hb hby at_81) rfl k_) ?_
  show Runs _ _ _ _ T8 (mkF m 82 #[.val (.long q0), .second, .val (.long q1), .second, .val (.int p2), .val (.int p3), .val (.int p4), .val (.ref ob1), .unset, .unset, .unset, .unset, .unset, .unset, .unset, .unset, .unset, .unset, .unset] [(.long ((q0.toUInt64 >>> ((56 : Int32) &&& 0x3f).toInt64.toUInt64).toInt64)), (.int (7 : Int32)), (.ref ob1)])
  refine Runs.back (fun t_ k_ => XS.l2i X8.here hx rfl (hb hby at_82) rfl k_) ?_
  show Runs _ _ _ _ T8 (mkF m 83 #[.val (.long q0), .second, .val (.long q1), .second, .val (.int p2), .val (.int p3), .val (.int p4), .val (.ref ob1), .unset, .unset, .unset, .unset, .unset, .unset, .unset, .unset, .unset, .unset, .unset] [(.int (((q0.toUInt64 >>> ((56 : Int32) &&& 0x3f).toInt64.toUInt64).toInt64).toInt32)), (.int (7 : Int32)), (.ref ob1)])
  refine Runs.back (fun t_ k_ => XS.i2b X8.here hx rfl (hb hby at_83) rfl k_) ?_
  show Runs _ _ _ _ T8 (mkF m 84 #[.val (.long q0), .second, .val (.long q1), .second, .val (.int p2), .val (.int p3), .val (.int p4), .val (.ref ob1), .unset, .unset, .unset, .unset, .unset, .unset, .unset, .unset, .unset, .unset, .unset] [(.int ((((q0.toUInt64 >>> ((56 : Int32) &&& 0x3f).toInt64.toUInt64).toInt64).toInt32).toInt8.toInt32)), (.int (7 : Int32)), (.ref ob1)])
  obtain ⟨cl9, Ar9, S9, Hs9⟩ := id f8_Arr_0
  obtain ⟨T9, h9, X9, e9, W9, st9⟩ := stB X8 hx hZ e8 Ar9 (j := (7 : Int32)) (by rw [S9]; exact (inbO (by decide : ¬ (7 : Int32) < 0) (rfl : ((7 : Int32)).toNatClampNeg = 7) (show 7 < 16 from (by first | omega | decide)))) (g := (mkF m 84 #[.val (.long q0), .second, .val (.long q1), .second, .val (.int p2), .val (.int p3), .val (.int p4), .val (.ref ob1), .unset, .unset, .unset, .unset, .unset, .unset, .unset, .unset, .unset, .unset, .unset] [(.int ((((q0.toUInt64 >>> ((56 : Int32) &&& 0x3f).toInt64.toUInt64).toInt64).toInt32).toInt8.toInt32)), (.int (7 : Int32)), (.ref ob1)])) rfl rfl (hb hby at_84)
  have N9 := Fr.snoc X9 N8 g_ob1
  obtain ⟨L9, X9, N9⟩ := hideL X9 N9
  rw [(rfl : ((7 : Int32)).toNatClampNeg = 7)] at W9
  have f9_Arr_0 : OArr Z h9 ob1 .byte 16 (fun i => if i = 7 then (Value.int (nar .byte ((((q0.toUInt64 >>> ((56 : Int32) &&& 0x3f).toInt64.toUInt64).toInt64).toInt32).toInt8.toInt32))) else (fun i => if i = 6 then (Value.int (nar .byte ((((q0.toUInt64 >>> ((48 : Int32) &&& 0x3f).toInt64.toUInt64).toInt64).toInt32).toInt8.toInt32))) else (fun i => if i = 5 then (Value.int (nar .byte ((((q0.toUInt64 >>> ((40 : Int32) &&& 0x3f).toInt64.toUInt64).toInt64).toInt32).toInt8.toInt32))) else (fun i => if i = 4 then (Value.int (nar .byte ((((q0.toUInt64 >>> ((32 : Int32) &&& 0x3f).toInt64.toUInt64).toInt64).toInt32).toInt8.toInt32))) else (fun i => if i = 3 then (Value.int (nar .byte ((((q0.toUInt64 >>> ((24 : Int32) &&& 0x3f).toInt64.toUInt64).toInt64).toInt32).toInt8.toInt32))) else (fun i => if i = 2 then (Value.int (nar .byte ((((q0.toUInt64 >>> ((16 : Int32) &&& 0x3f).toInt64.toUInt64).toInt64).toInt32).toInt8.toInt32))) else (fun i => if i = 1 then (Value.int (nar .byte ((((q0.toUInt64 >>> ((8 : Int32) &&& 0x3f).toInt64.toUInt64).toInt64).toInt32).toInt8.toInt32))) else (fun i => if i = 0 then (Value.int (nar .byte ((q0.toInt32).toInt8.toInt32))) else (fun _ => (Value.int (0 : Int32))) i) i) i) i) i) i) i) i) := f8_Arr_0.set W9
  have Z9 : n0 ≤ h9.size := Nat.le_trans (Z8) (Nat.le_of_eq W9.size.symm)
  refine Runs.back st9 ?_
  show Runs _ _ _ _ T9 (mkF m 85 #[.val (.long q0), .second, .val (.long q1), .second, .val (.int p2), .val (.int p3), .val (.int p4), .val (.ref ob1), .unset, .unset, .unset, .unset, .unset, .unset, .unset, .unset, .unset, .unset, .unset] [])
  refine Runs.back (fun t_ k_ => XS.aload X9.here hx rfl (hb hby at_85) rfl rfl k_) ?_
  show Runs _ _ _ _ T9 (mkF m 87 #[.val (.long q0), .second, .val (.long q1), .second, .val (.int p2), .val (.int p3), .val (.int p4), .val (.ref ob1), .unset, .unset, .unset, .unset, .unset, .unset, .unset, .unset, .unset, .unset, .unset] [(.ref ob1)])
  refine Runs.back (fun t_ k_ => XS.bipush X9.here hx rfl (hb hby at_87) k_) ?_
  show Runs _ _ _ _ T9 (mkF m 89 #[.val (.long q0), .second, .val (.long q1), .second, .val (.int p2), .val (.int p3), .val (.int p4), .val (.ref ob1), .unset, .unset, .unset, .unset, .unset, .unset, .unset, .unset, .unset, .unset, .unset] [(.int (8 : Int32)), (.ref ob1)])
  refine Runs.back (fun t_ k_ => XS.lloadN X9.here hx rfl (hb hby at_89) rfl k_) ?_
  show Runs _ _ _ _ T9 (mkF m 90 #[.val (.long q0), .second, .val (.long q1), .second, .val (.int p2), .val (.int p3), .val (.int p4), .val (.ref ob1), .unset, .unset, .unset, .unset, .unset, .unset, .unset, .unset, .unset, .unset, .unset] [(.long q1), (.int (8 : Int32)), (.ref ob1)])
  refine Runs.back (fun t_ k_ => XS.l2i X9.here hx rfl (hb hby at_90) rfl k_) ?_
  show Runs _ _ _ _ T9 (mkF m 91 #[.val (.long q0), .second, .val (.long q1), .second, .val (.int p2), .val (.int p3), .val (.int p4), .val (.ref ob1), .unset, .unset, .unset, .unset, .unset, .unset, .unset, .unset, .unset, .unset, .unset] [(.int (q1.toInt32)), (.int (8 : Int32)), (.ref ob1)])
  refine Runs.back (fun t_ k_ => XS.i2b X9.here hx rfl (hb hby at_91) rfl k_) ?_
  show Runs _ _ _ _ T9 (mkF m 92 #[.val (.long q0), .second, .val (.long q1), .second, .val (.int p2), .val (.int p3), .val (.int p4), .val (.ref ob1), .unset, .unset, .unset, .unset, .unset, .unset, .unset, .unset, .unset, .unset, .unset] [(.int ((q1.toInt32).toInt8.toInt32)), (.int (8 : Int32)), (.ref ob1)])
  obtain ⟨cl10, Ar10, S10, Hs10⟩ := id f9_Arr_0
  obtain ⟨T10, h10, X10, e10, W10, st10⟩ := stB X9 hx hZ e9 Ar10 (j := (8 : Int32)) (by rw [S10]; exact (inbO (by decide : ¬ (8 : Int32) < 0) (rfl : ((8 : Int32)).toNatClampNeg = 8) (show 8 < 16 from (by first | omega | decide)))) (g := (mkF m 92 #[.val (.long q0), .second, .val (.long q1), .second, .val (.int p2), .val (.int p3), .val (.int p4), .val (.ref ob1), .unset, .unset, .unset, .unset, .unset, .unset, .unset, .unset, .unset, .unset, .unset] [(.int ((q1.toInt32).toInt8.toInt32)), (.int (8 : Int32)), (.ref ob1)])) rfl rfl (hb hby at_92)
  have N10 := Fr.snoc X10 N9 g_ob1
  obtain ⟨L10, X10, N10⟩ := hideL X10 N10
  rw [(rfl : ((8 : Int32)).toNatClampNeg = 8)] at W10
  have f10_Arr_0 : OArr Z h10 ob1 .byte 16 (fun i => if i = 8 then (Value.int (nar .byte ((q1.toInt32).toInt8.toInt32))) else (fun i => if i = 7 then (Value.int (nar .byte ((((q0.toUInt64 >>> ((56 : Int32) &&& 0x3f).toInt64.toUInt64).toInt64).toInt32).toInt8.toInt32))) else (fun i => if i = 6 then (Value.int (nar .byte ((((q0.toUInt64 >>> ((48 : Int32) &&& 0x3f).toInt64.toUInt64).toInt64).toInt32).toInt8.toInt32))) else (fun i => if i = 5 then (Value.int (nar .byte ((((q0.toUInt64 >>> ((40 : Int32) &&& 0x3f).toInt64.toUInt64).toInt64).toInt32).toInt8.toInt32))) else (fun i => if i = 4 then (Value.int (nar .byte ((((q0.toUInt64 >>> ((32 : Int32) &&& 0x3f).toInt64.toUInt64).toInt64).toInt32).toInt8.toInt32))) else (fun i => if i = 3 then (Value.int (nar .byte ((((q0.toUInt64 >>> ((24 : Int32) &&& 0x3f).toInt64.toUInt64).toInt64).toInt32).toInt8.toInt32))) else (fun i => if i = 2 then (Value.int (nar .byte ((((q0.toUInt64 >>> ((16 : Int32) &&& 0x3f).toInt64.toUInt64).toInt64).toInt32).toInt8.toInt32))) else (fun i => if i = 1 then (Value.int (nar .byte ((((q0.toUInt64 >>> ((8 : Int32) &&& 0x3f).toInt64.toUInt64).toInt64).toInt32).toInt8.toInt32))) else (fun i => if i = 0 then (Value.int (nar .byte ((q0.toInt32).toInt8.toInt32))) else (fun _ => (Value.int (0 : Int32))) i) i) i) i) i) i) i) i) i) := f9_Arr_0.set W10
  have Z10 : n0 ≤ h10.size := Nat.le_trans (Z9) (Nat.le_of_eq W10.size.symm)
  refine Runs.back st10 ?_
  show Runs _ _ _ _ T10 (mkF m 93 #[.val (.long q0), .second, .val (.long q1), .second, .val (.int p2), .val (.int p3), .val (.int p4), .val (.ref ob1), .unset, .unset, .unset, .unset, .unset, .unset, .unset, .unset, .unset, .unset, .unset] [])
  refine Runs.back (fun t_ k_ => XS.aload X10.here hx rfl (hb hby at_93) rfl rfl k_) ?_
  show Runs _ _ _ _ T10 (mkF m 95 #[.val (.long q0), .second, .val (.long q1), .second, .val (.int p2), .val (.int p3), .val (.int p4), .val (.ref ob1), .unset, .unset, .unset, .unset, .unset, .unset, .unset, .unset, .unset, .unset, .unset] [(.ref ob1)])
  refine Runs.back (fun t_ k_ => XS.bipush X10.here hx rfl (hb hby at_95) k_) ?_
  show Runs _ _ _ _ T10 (mkF m 97 #[.val (.long q0), .second, .val (.long q1), .second, .val (.int p2), .val (.int p3), .val (.int p4), .val (.ref ob1), .unset, .unset, .unset, .unset, .unset, .unset, .unset, .unset, .unset, .unset, .unset] [(.int (9 : Int32)), (.ref ob1)])
  refine Runs.back (fun t_ k_ => XS.lloadN X10.here hx rfl (hb hby at_97) rfl k_) ?_
  show Runs _ _ _ _ T10 (mkF m 98 #[.val (.long q0), .second, .val (.long q1), .second, .val (.int p2), .val (.int p3), .val (.int p4), .val (.ref ob1), .unset, .unset, .unset, .unset, .unset, .unset, .unset, .unset, .unset, .unset, .unset] [(.long q1), (.int (9 : Int32)), (.ref ob1)])
  refine Runs.back (fun t_ k_ => XS.bipush X10.here hx rfl (hb hby at_98) k_) ?_
  show Runs _ _ _ _ T10 (mkF m 100 #[.val (.long q0), .second, .val (.long q1), .second, .val (.int p2), .val (.int p3), .val (.int p4), .val (.ref ob1), .unset, .unset, .unset, .unset, .unset, .unset, .unset, .unset, .unset, .unset, .unset] [(.int (8 : Int32)), (.long q1), (.int (9 : Int32)), (.ref ob1)])
  refine Runs.back (fun t_ k_ => XS.lushr X10.here hx rfl (hb hby at_100) rfl k_) ?_
  show Runs _ _ _ _ T10 (mkF m 101 #[.val (.long q0), .second, .val (.long q1), .second, .val (.int p2), .val (.int p3), .val (.int p4), .val (.ref ob1), .unset, .unset, .unset, .unset, .unset, .unset, .unset, .unset, .unset, .unset, .unset] [(.long ((q1.toUInt64 >>> ((8 : Int32) &&& 0x3f).toInt64.toUInt64).toInt64)), (.int (9 : Int32)), (.ref ob1)])
  refine Runs.back (fun t_ k_ => XS.l2i X10.here hx rfl (hb hby at_101) rfl k_) ?_
  show Runs _ _ _ _ T10 (mkF m 102 #[.val (.long q0), .second, .val (.long q1), .second, .val (.int p2), .val (.int p3), .val (.int p4), .val (.ref ob1), .unset, .unset, .unset, .unset, .unset, .unset, .unset, .unset, .unset, .unset, .unset] [(.int (((q1.toUInt64 >>> ((8 : Int32) &&& 0x3f).toInt64.toUInt64).toInt64).toInt32)), (.int (9 : Int32)), (.ref ob1)])
  refine Runs.back (fun t_ k_ => XS.i2b X10.here hx rfl (hb hby at_102) rfl k_) ?_
  show Runs _ _ _ _ T10 (mkF m 103 #[.val (.long q0), .second, .val (.long q1), .second, .val (.int p2), .val (.int p3), .val (.int p4), .val (.ref ob1), .unset, .unset, .unset, .unset, .unset, .unset, .unset, .unset, .unset, .unset, .unset] [(.int ((((q1.toUInt64 >>> ((8 : Int32) &&& 0x3f).toInt64.toUInt64).toInt64).toInt32).toInt8.toInt32)), (.int (9 : Int32)), (.ref ob1)])
  obtain ⟨cl11, Ar11, S11, Hs11⟩ := id f10_Arr_0
  obtain ⟨T11, h11, X11, e11, W11, st11⟩ := stB X10 hx hZ e10 Ar11 (j := (9 : Int32)) (by rw [S11]; exact (inbO (by decide : ¬ (9 : Int32) < 0) (rfl : ((9 : Int32)).toNatClampNeg = 9) (show 9 < 16 from (by first | omega | decide)))) (g := (mkF m 103 #[.val (.long q0), .second, .val (.long q1), .second, .val (.int p2), .val (.int p3), .val (.int p4), .val (.ref ob1), .unset, .unset, .unset, .unset, .unset, .unset, .unset, .unset, .unset, .unset, .unset] [(.int ((((q1.toUInt64 >>> ((8 : Int32) &&& 0x3f).toInt64.toUInt64).toInt64).toInt32).toInt8.toInt32)), (.int (9 : Int32)), (.ref ob1)])) rfl rfl (hb hby at_103)
  have N11 := Fr.snoc X11 N10 g_ob1
  obtain ⟨L11, X11, N11⟩ := hideL X11 N11
  rw [(rfl : ((9 : Int32)).toNatClampNeg = 9)] at W11
  have f11_Arr_0 : OArr Z h11 ob1 .byte 16 (fun i => if i = 9 then (Value.int (nar .byte ((((q1.toUInt64 >>> ((8 : Int32) &&& 0x3f).toInt64.toUInt64).toInt64).toInt32).toInt8.toInt32))) else (fun i => if i = 8 then (Value.int (nar .byte ((q1.toInt32).toInt8.toInt32))) else (fun i => if i = 7 then (Value.int (nar .byte ((((q0.toUInt64 >>> ((56 : Int32) &&& 0x3f).toInt64.toUInt64).toInt64).toInt32).toInt8.toInt32))) else (fun i => if i = 6 then (Value.int (nar .byte ((((q0.toUInt64 >>> ((48 : Int32) &&& 0x3f).toInt64.toUInt64).toInt64).toInt32).toInt8.toInt32))) else (fun i => if i = 5 then (Value.int (nar .byte ((((q0.toUInt64 >>> ((40 : Int32) &&& 0x3f).toInt64.toUInt64).toInt64).toInt32).toInt8.toInt32))) else (fun i => if i = 4 then (Value.int (nar .byte ((((q0.toUInt64 >>> ((32 : Int32) &&& 0x3f).toInt64.toUInt64).toInt64).toInt32).toInt8.toInt32))) else (fun i => if i = 3 then (Value.int (nar .byte ((((q0.toUInt64 >>> ((24 : Int32) &&& 0x3f).toInt64.toUInt64).toInt64).toInt32).toInt8.toInt32))) else (fun i => if i = 2 then (Value.int (nar .byte ((((q0.toUInt64 >>> ((16 : Int32) &&& 0x3f).toInt64.toUInt64).toInt64).toInt32).toInt8.toInt32))) else (fun i => if i = 1 then (Value.int (nar .byte ((((q0.toUInt64 >>> ((8 : Int32) &&& 0x3f).toInt64.toUInt64).toInt64).toInt32).toInt8.toInt32))) else (fun i => if i = 0 then (Value.int (nar .byte ((q0.toInt32).toInt8.toInt32))) else (fun _ => (Value.int (0 : Int32))) i) i) i) i) i) i) i) i) i) i) := f10_Arr_0.set W11
  have Z11 : n0 ≤ h11.size := Nat.le_trans (Z10) (Nat.le_of_eq W11.size.symm)
  refine Runs.back st11 ?_
  show Runs _ _ _ _ T11 (mkF m 104 #[.val (.long q0), .second, .val (.long q1), .second, .val (.int p2), .val (.int p3), .val (.int p4), .val (.ref ob1), .unset, .unset, .unset, .unset, .unset, .unset, .unset, .unset, .unset, .unset, .unset] [])
  refine Runs.back (fun t_ k_ => XS.aload X11.here hx rfl (hb hby at_104) rfl rfl k_) ?_
  show Runs _ _ _ _ T11 (mkF m 106 #[.val (.long q0), .second, .val (.long q1), .second, .val (.int p2), .val (.int p3), .val (.int p4), .val (.ref ob1), .unset, .unset, .unset, .unset, .unset, .unset, .unset, .unset, .unset, .unset, .unset] [(.ref ob1)])
  refine Runs.back (fun t_ k_ => XS.bipush X11.here hx rfl (hb hby at_106) k_) ?_
  show Runs _ _ _ _ T11 (mkF m 108 #[.val (.long q0), .second, .val (.long q1), .second, .val (.int p2), .val (.int p3), .val (.int p4), .val (.ref ob1), .unset, .unset, .unset, .unset, .unset, .unset, .unset, .unset, .unset, .unset, .unset] [(.int (10 : Int32)), (.ref ob1)])
  refine Runs.back (fun t_ k_ => XS.lloadN X11.here hx rfl (hb hby at_108) rfl k_) ?_
  show Runs _ _ _ _ T11 (mkF m 109 #[.val (.long q0), .second, .val (.long q1), .second, .val (.int p2), .val (.int p3), .val (.int p4), .val (.ref ob1), .unset, .unset, .unset, .unset, .unset, .unset, .unset, .unset, .unset, .unset, .unset] [(.long q1), (.int (10 : Int32)), (.ref ob1)])
  refine Runs.back (fun t_ k_ => XS.bipush X11.here hx rfl (hb hby at_109) k_) ?_
  show Runs _ _ _ _ T11 (mkF m 111 #[.val (.long q0), .second, .val (.long q1), .second, .val (.int p2), .val (.int p3), .val (.int p4), .val (.ref ob1), .unset, .unset, .unset, .unset, .unset, .unset, .unset, .unset, .unset, .unset, .unset] [(.int (16 : Int32)), (.long q1), (.int (10 : Int32)), (.ref ob1)])
  refine Runs.back (fun t_ k_ => XS.lushr X11.here hx rfl (hb hby at_111) rfl k_) ?_
  show Runs _ _ _ _ T11 (mkF m 112 #[.val (.long q0), .second, .val (.long q1), .second, .val (.int p2), .val (.int p3), .val (.int p4), .val (.ref ob1), .unset, .unset, .unset, .unset, .unset, .unset, .unset, .unset, .unset, .unset, .unset] [(.long ((q1.toUInt64 >>> ((16 : Int32) &&& 0x3f).toInt64.toUInt64).toInt64)), (.int (10 : Int32)), (.ref ob1)])
  refine Runs.back (fun t_ k_ => XS.l2i X11.here hx rfl (hb hby at_112) rfl k_) ?_
  show Runs _ _ _ _ T11 (mkF m 113 #[.val (.long q0), .second, .val (.long q1), .second, .val (.int p2), .val (.int p3), .val (.int p4), .val (.ref ob1), .unset, .unset, .unset, .unset, .unset, .unset, .unset, .unset, .unset, .unset, .unset] [(.int (((q1.toUInt64 >>> ((16 : Int32) &&& 0x3f).toInt64.toUInt64).toInt64).toInt32)), (.int (10 : Int32)), (.ref ob1)])
  refine Runs.back (fun t_ k_ => XS.i2b X11.here hx rfl (hb hby at_113) rfl k_) ?_
  show Runs _ _ _ _ T11 (mkF m 114 #[.val (.long q0), .second, .val (.long q1), .second, .val (.int p2), .val (.int p3), .val (.int p4), .val (.ref ob1), .unset, .unset, .unset, .unset, .unset, .unset, .unset, .unset, .unset, .unset, .unset] [(.int ((((q1.toUInt64 >>> ((16 : Int32) &&& 0x3f).toInt64.toUInt64).toInt64).toInt32).toInt8.toInt32)), (.int (10 : Int32)), (.ref ob1)])
  obtain ⟨cl12, Ar12, S12, Hs12⟩ := id f11_Arr_0
  obtain ⟨T12, h12, X12, e12, W12, st12⟩ := stB X11 hx hZ e11 Ar12 (j := (10 : Int32)) (by rw [S12]; exact (inbO (by decide : ¬ (10 : Int32) < 0) (rfl : ((10 : Int32)).toNatClampNeg = 10) (show 10 < 16 from (by first | omega | decide)))) (g := (mkF m 114 #[.val (.long q0), .second, .val (.long q1), .second, .val (.int p2), .val (.int p3), .val (.int p4), .val (.ref ob1), .unset, .unset, .unset, .unset, .unset, .unset, .unset, .unset, .unset, .unset, .unset] [(.int ((((q1.toUInt64 >>> ((16 : Int32) &&& 0x3f).toInt64.toUInt64).toInt64).toInt32).toInt8.toInt32)), (.int (10 : Int32)), (.ref ob1)])) rfl rfl (hb hby at_114)
  have N12 := Fr.snoc X12 N11 g_ob1
  obtain ⟨L12, X12, N12⟩ := hideL X12 N12
  rw [(rfl : ((10 : Int32)).toNatClampNeg = 10)] at W12
  have f12_Arr_0 : OArr Z h12 ob1 .byte 16 (fun i => if i = 10 then (Value.int (nar .byte ((((q1.toUInt64 >>> ((16 : Int32) &&& 0x3f).toInt64.toUInt64).toInt64).toInt32).toInt8.toInt32))) else (fun i => if i = 9 then (Value.int (nar .byte ((((q1.toUInt64 >>> ((8 : Int32) &&& 0x3f).toInt64.toUInt64).toInt64).toInt32).toInt8.toInt32))) else (fun i => if i = 8 then (Value.int (nar .byte ((q1.toInt32).toInt8.toInt32))) else (fun i => if i = 7 then (Value.int (nar .byte ((((q0.toUInt64 >>> ((56 : Int32) &&& 0x3f).toInt64.toUInt64).toInt64).toInt32).toInt8.toInt32))) else (fun i => if i = 6 then (Value.int (nar .byte ((((q0.toUInt64 >>> ((48 : Int32) &&& 0x3f).toInt64.toUInt64).toInt64).toInt32).toInt8.toInt32))) else (fun i => if i = 5 then (Value.int (nar .byte ((((q0.toUInt64 >>> ((40 : Int32) &&& 0x3f).toInt64.toUInt64).toInt64).toInt32).toInt8.toInt32))) else (fun i => if i = 4 then (Value.int (nar .byte ((((q0.toUInt64 >>> ((32 : Int32) &&& 0x3f).toInt64.toUInt64).toInt64).toInt32).toInt8.toInt32))) else (fun i => if i = 3 then (Value.int (nar .byte ((((q0.toUInt64 >>> ((24 : Int32) &&& 0x3f).toInt64.toUInt64).toInt64).toInt32).toInt8.toInt32))) else (fun i => if i = 2 then (Value.int (nar .byte ((((q0.toUInt64 >>> ((16 : Int32) &&& 0x3f).toInt64.toUInt64).toInt64).toInt32).toInt8.toInt32))) else (fun i => if i = 1 then (Value.int (nar .byte ((((q0.toUInt64 >>> ((8 : Int32) &&& 0x3f).toInt64.toUInt64).toInt64).toInt32).toInt8.toInt32))) else (fun i => if i = 0 then (Value.int (nar .byte ((q0.toInt32).toInt8.toInt32))) else (fun _ => (Value.int (0 : Int32))) i) i) i) i) i) i) i) i) i) i) i) := f11_Arr_0.set W12
  have Z12 : n0 ≤ h12.size := Nat.le_trans (Z11) (Nat.le_of_eq W12.size.symm)
  refine Runs.back st12 ?_
  show Runs _ _ _ _ T12 (mkF m 115 #[.val (.long q0), .second, .val (.long q1), .second, .val (.int p2), .val (.int p3), .val (.int p4), .val (.ref ob1), .unset, .unset, .unset, .unset, .unset, .unset, .unset, .unset, .unset, .unset, .unset] [])
  refine Runs.back (fun t_ k_ => XS.aload X12.here hx rfl (hb hby at_115) rfl rfl k_) ?_
  show Runs _ _ _ _ T12 (mkF m 117 #[.val (.long q0), .second, .val (.long q1), .second, .val (.int p2), .val (.int p3), .val (.int p4), .val (.ref ob1), .unset, .unset, .unset, .unset, .unset, .unset, .unset, .unset, .unset, .unset, .unset] [(.ref ob1)])
  refine Runs.back (fun t_ k_ => XS.bipush X12.here hx rfl (hb hby at_117) k_) ?_
  show Runs _ _ _ _ T12 (mkF m 119 #[.val (.long q0), .second, .val (.long q1), .second, .val (.int p2), .val (.int p3), .val (.int p4), .val (.ref ob1), .unset, .unset, .unset, .unset, .unset, .unset, .unset, .unset, .unset, .unset, .unset] [(.int (11 : Int32)), (.ref ob1)])
  refine Runs.back (fun t_ k_ => XS.lloadN X12.here hx rfl (hb hby at_119) rfl k_) ?_
  show Runs _ _ _ _ T12 (mkF m 120 #[.val (.long q0), .second, .val (.long q1), .second, .val (.int p2), .val (.int p3), .val (.int p4), .val (.ref ob1), .unset, .unset, .unset, .unset, .unset, .unset, .unset, .unset, .unset, .unset, .unset] [(.long q1), (.int (11 : Int32)), (.ref ob1)])
  refine Runs.back (fun t_ k_ => XS.bipush X12.here hx rfl (hb hby at_120) k_) ?_
  show Runs _ _ _ _ T12 (mkF m 122 #[.val (.long q0), .second, .val (.long q1), .second, .val (.int p2), .val (.int p3), .val (.int p4), .val (.ref ob1), .unset, .unset, .unset, .unset, .unset, .unset, .unset, .unset, .unset, .unset, .unset] [(.int (24 : Int32)), (.long q1), (.int (11 : Int32)), (.ref ob1)])
  refine Runs.back (fun t_ k_ => XS.lushr X12.here hx rfl (hb hby at_122) rfl k_) ?_
  show Runs _ _ _ _ T12 (mkF m 123 #[.val (.long q0), .second, .val (.long q1), .second, .val (.int p2), .val (.int p3), .val (.int p4), .val (.ref ob1), .unset, .unset, .unset, .unset, .unset, .unset, .unset, .unset, .unset, .unset, .unset] [(.long ((q1.toUInt64 >>> ((24 : Int32) &&& 0x3f).toInt64.toUInt64).toInt64)), (.int (11 : Int32)), (.ref ob1)])
  refine Runs.back (fun t_ k_ => XS.l2i X12.here hx rfl (hb hby at_123) rfl k_) ?_
  show Runs _ _ _ _ T12 (mkF m 124 #[.val (.long q0), .second, .val (.long q1), .second, .val (.int p2), .val (.int p3), .val (.int p4), .val (.ref ob1), .unset, .unset, .unset, .unset, .unset, .unset, .unset, .unset, .unset, .unset, .unset] [(.int (((q1.toUInt64 >>> ((24 : Int32) &&& 0x3f).toInt64.toUInt64).toInt64).toInt32)), (.int (11 : Int32)), (.ref ob1)])
  refine Runs.back (fun t_ k_ => XS.i2b X12.here hx rfl (hb hby at_124) rfl k_) ?_
  show Runs _ _ _ _ T12 (mkF m 125 #[.val (.long q0), .second, .val (.long q1), .second, .val (.int p2), .val (.int p3), .val (.int p4), .val (.ref ob1), .unset, .unset, .unset, .unset, .unset, .unset, .unset, .unset, .unset, .unset, .unset] [(.int ((((q1.toUInt64 >>> ((24 : Int32) &&& 0x3f).toInt64.toUInt64).toInt64).toInt32).toInt8.toInt32)), (.int (11 : Int32)), (.ref ob1)])
  obtain ⟨cl13, Ar13, S13, Hs13⟩ := id f12_Arr_0
  obtain ⟨T13, h13, X13, e13, W13, st13⟩ := stB X12 hx hZ e12 Ar13 (j := (11 : Int32)) (by rw [S13]; exact (inbO (by decide : ¬ (11 : Int32) < 0) (rfl : ((11 : Int32)).toNatClampNeg = 11) (show 11 < 16 from (by first | omega | decide)))) (g := (mkF m 125 #[.val (.long q0), .second, .val (.long q1), .second, .val (.int p2), .val (.int p3), .val (.int p4), .val (.ref ob1), .unset, .unset, .unset, .unset, .unset, .unset, .unset, .unset, .unset, .unset, .unset] [(.int ((((q1.toUInt64 >>> ((24 : Int32) &&& 0x3f).toInt64.toUInt64).toInt64).toInt32).toInt8.toInt32)), (.int (11 : Int32)), (.ref ob1)])) rfl rfl (hb hby at_125)
  have N13 := Fr.snoc X13 N12 g_ob1
  obtain ⟨L13, X13, N13⟩ := hideL X13 N13
  rw [(rfl : ((11 : Int32)).toNatClampNeg = 11)] at W13
  have f13_Arr_0 : OArr Z h13 ob1 .byte 16 (fun i => if i = 11 then (Value.int (nar .byte ((((q1.toUInt64 >>> ((24 : Int32) &&& 0x3f).toInt64.toUInt64).toInt64).toInt32).toInt8.toInt32))) else (fun i => if i = 10 then (Value.int (nar .byte ((((q1.toUInt64 >>> ((16 : Int32) &&& 0x3f).toInt64.toUInt64).toInt64).toInt32).toInt8.toInt32))) else (fun i => if i = 9 then (Value.int (nar .byte ((((q1.toUInt64 >>> ((8 : Int32) &&& 0x3f).toInt64.toUInt64).toInt64).toInt32).toInt8.toInt32))) else (fun i => if i = 8 then (Value.int (nar .byte ((q1.toInt32).toInt8.toInt32))) else (fun i => if i = 7 then (Value.int (nar .byte ((((q0.toUInt64 >>> ((56 : Int32) &&& 0x3f).toInt64.toUInt64).toInt64).toInt32).toInt8.toInt32))) else (fun i => if i = 6 then (Value.int (nar .byte ((((q0.toUInt64 >>> ((48 : Int32) &&& 0x3f).toInt64.toUInt64).toInt64).toInt32).toInt8.toInt32))) else (fun i => if i = 5 then (Value.int (nar .byte ((((q0.toUInt64 >>> ((40 : Int32) &&& 0x3f).toInt64.toUInt64).toInt64).toInt32).toInt8.toInt32))) else (fun i => if i = 4 then (Value.int (nar .byte ((((q0.toUInt64 >>> ((32 : Int32) &&& 0x3f).toInt64.toUInt64).toInt64).toInt32).toInt8.toInt32))) else (fun i => if i = 3 then (Value.int (nar .byte ((((q0.toUInt64 >>> ((24 : Int32) &&& 0x3f).toInt64.toUInt64).toInt64).toInt32).toInt8.toInt32))) else (fun i => if i = 2 then (Value.int (nar .byte ((((q0.toUInt64 >>> ((16 : Int32) &&& 0x3f).toInt64.toUInt64).toInt64).toInt32).toInt8.toInt32))) else (fun i => if i = 1 then (Value.int (nar .byte ((((q0.toUInt64 >>> ((8 : Int32) &&& 0x3f).toInt64.toUInt64).toInt64).toInt32).toInt8.toInt32))) else (fun i => if i = 0 then (Value.int (nar .byte ((q0.toInt32).toInt8.toInt32))) else (fun _ => (Value.int (0 : Int32))) i) i) i) i) i) i) i) i) i) i) i) i) := f12_Arr_0.set W13
  have Z13 : n0 ≤ h13.size := Nat.le_trans (Z12) (Nat.le_of_eq W13.size.symm)
  refine Runs.back st13 ?_
  show Runs _ _ _ _ T13 (mkF m 126 #[.val (.long q0), .second, .val (.long q1), .second, .val (.int p2), .val (.int p3), .val (.int p4), .val (.ref ob1), .unset, .unset, .unset, .unset, .unset, .unset, .unset, .unset, .unset, .unset, .unset] [])
  refine Runs.back (fun t_ k_ => XS.aload X13.here hx rfl (hb hby at_126) rfl rfl k_) ?_
  show Runs _ _ _ _ T13 (mkF m 128 #[.val (.long q0), .second, .val (.long q1), .second, .val (.int p2), .val (.int p3), .val (.int p4), .val (.ref ob1), .unset, .unset, .unset, .unset, .unset, .unset, .unset, .unset, .unset, .unset, .unset] [(.ref ob1)])
  refine Runs.back (fun t_ k_ => XS.bipush X13.here hx rfl (hb hby at_128) k_) ?_
  show Runs _ _ _ _ T13 (mkF m 130 #[.val (.long q0), .second, .val (.long q1), .second, .val (.int p2), .val (.int p3), .val (.int p4), .val (.ref ob1), .unset, .unset, .unset, .unset, .unset, .unset, .unset, .unset, .unset, .unset, .unset] [(.int (12 : Int32)), (.ref ob1)])
  refine Runs.back (fun t_ k_ => XS.lloadN X13.here hx rfl (hb hby at_130) rfl k_) ?_
  show Runs _ _ _ _ T13 (mkF m 131 #[.val (.long q0), .second, .val (.long q1), .second, .val (.int p2), .val (.int p3), .val (.int p4), .val (.ref ob1), .unset, .unset, .unset, .unset, .unset, .unset, .unset, .unset, .unset, .unset, .unset] [(.long q1), (.int (12 : Int32)), (.ref ob1)])
  refine Runs.back (fun t_ k_ => XS.bipush X13.here hx rfl (hb hby at_131) k_) ?_
  show Runs _ _ _ _ T13 (mkF m 133 #[.val (.long q0), .second, .val (.long q1), .second, .val (.int p2), .val (.int p3), .val (.int p4), .val (.ref ob1), .unset, .unset, .unset, .unset, .unset, .unset, .unset, .unset, .unset, .unset, .unset] [(.int (32 : Int32)), (.long q1), (.int (12 : Int32)), (.ref ob1)])
  refine Runs.back (fun t_ k_ => XS.lushr X13.here hx rfl (hb hby at_133) rfl k_) ?_
  show Runs _ _ _ _ T13 (mkF m 134 #[.val (.long q0), .second, .val (.long q1), .second, .val (.int p2), .val (.int p3), .val (.int p4), .val (.ref ob1), .unset, .unset, .unset, .unset, .unset, .unset, .unset, .unset, .unset, .unset, .unset] [(.long ((q1.toUInt64 >>> ((32 : Int32) &&& 0x3f).toInt64.toUInt64).toInt64)), (.int (12 : Int32)), (.ref ob1)])
  refine Runs.back (fun t_ k_ => XS.l2i X13.here hx rfl (hb hby at_134) rfl k_) ?_
  show Runs _ _ _ _ T13 (mkF m 135 #[.val (.long q0), .second, .val (.long q1), .second, .val (.int p2), .val (.int p3), .val (.int p4), .val (.ref ob1), .unset, .unset, .unset, .unset, .unset, .unset, .unset, .unset, .unset, .unset, .unset] [(.int (((q1.toUInt64 >>> ((32 : Int32) &&& 0x3f).toInt64.toUInt64).toInt64).toInt32)), (.int (12 : Int32)), (.ref ob1)])
  refine Runs.back (fun t_ k_ => XS.i2b X13.here hx rfl (hb hby at_135) rfl k_) ?_
  show Runs _ _ _ _ T13 (mkF m 136 #[.val (.long q0), .second, .val (.long q1), .second, .val (.int p2), .val (.int p3), .val (.int p4), .val (.ref ob1), .unset, .unset, .unset, .unset, .unset, .unset, .unset, .unset, .unset, .unset, .unset] [(.int ((((q1.toUInt64 >>> ((32 : Int32) &&& 0x3f).toInt64.toUInt64).toInt64).toInt32).toInt8.toInt32)), (.int (12 : Int32)), (.ref ob1)])
  obtain ⟨cl14, Ar14, S14, Hs14⟩ := id f13_Arr_0
  obtain ⟨T14, h14, X14, e14, W14, st14⟩ := stB X13 hx hZ e13 Ar14 (j := (12 : Int32)) (by rw [S14]; exact (inbO (by decide : ¬ (12 : Int32) < 0) (rfl : ((12 : Int32)).toNatClampNeg = 12) (show 12 < 16 from (by first | omega | decide)))) (g := (mkF m 136 #[.val (.long q0), .second, .val (.long q1), .second, .val (.int p2), .val (.int p3), .val (.int p4), .val (.ref ob1), .unset, .unset, .unset, .unset, .unset, .unset, .unset, .unset, .unset, .unset, .unset] [(.int ((((q1.toUInt64 >>> ((32 : Int32) &&& 0x3f).toInt64.toUInt64).toInt64).toInt32).toInt8.toInt32)), (.int (12 : Int32)), (.ref ob1)])) rfl rfl (hb hby at_136)
  have N14 := Fr.snoc X14 N13 g_ob1
  obtain ⟨L14, X14, N14⟩ := hideL X14 N14
  rw [(rfl : ((12 : Int32)).toNatClampNeg = 12)] at W14
  have f14_Arr_0 : OArr Z h14 ob1 .byte 16 (fun i => if i = 12 then (Value.int (nar .byte ((((q1.toUInt64 >>> ((32 : Int32) &&& 0x3f).toInt64.toUInt64).toInt64).toInt32).toInt8.toInt32))) else (fun i => if i = 11 then (Value.int (nar .byte ((((q1.toUInt64 >>> ((24 : Int32) &&& 0x3f).toInt64.toUInt64).toInt64).toInt32).toInt8.toInt32))) else (fun i => if i = 10 then (Value.int (nar .byte ((((q1.toUInt64 >>> ((16 : Int32) &&& 0x3f).toInt64.toUInt64).toInt64).toInt32).toInt8.toInt32))) else (fun i => if i = 9 then (Value.int (nar .byte ((((q1.toUInt64 >>> ((8 : Int32) &&& 0x3f).toInt64.toUInt64).toInt64).toInt32).toInt8.toInt32))) else (fun i => if i = 8 then (Value.int (nar .byte ((q1.toInt32).toInt8.toInt32))) else (fun i => if i = 7 then (Value.int (nar .byte ((((q0.toUInt64 >>> ((56 : Int32) &&& 0x3f).toInt64.toUInt64).toInt64).toInt32).toInt8.toInt32))) else (fun i => if i = 6 then (Value.int (nar .byte ((((q0.toUInt64 >>> ((48 : Int32) &&& 0x3f).toInt64.toUInt64).toInt64).toInt32).toInt8.toInt32))) else (fun i => if i = 5 then (Value.int (nar .byte ((((q0.toUInt64 >>> ((40 : Int32) &&& 0x3f).toInt64.toUInt64).toInt64).toInt32).toInt8.toInt32))) else (fun i => if i = 4 then (Value.int (nar .byte ((((q0.toUInt64 >>> ((32 : Int32) &&& 0x3f).toInt64.toUInt64).toInt64).toInt32).toInt8.toInt32))) else (fun i => if i = 3 then (Value.int (nar .byte ((((q0.toUInt64 >>> ((24 : Int32) &&& 0x3f).toInt64.toUInt64).toInt64).toInt32).toInt8.toInt32))) else (fun i => if i = 2 then (Value.int (nar .byte ((((q0.toUInt64 >>> ((16 : Int32) &&& 0x3f).toInt64.toUInt64).toInt64).toInt32).toInt8.toInt32))) else (fun i => if i = 1 then (Value.int (nar .byte ((((q0.toUInt64 >>> ((8 : Int32) &&& 0x3f).toInt64.toUInt64).toInt64).toInt32).toInt8.toInt32))) else (fun i => if i = 0 then (Value.int (nar .byte ((q0.toInt32).toInt8.toInt32))) else (fun _ => (Value.int (0 : Int32))) i) i) i) i) i) i) i) i) i) i) i) i) i) := f13_Arr_0.set W14
  have Z14 : n0 ≤ h14.size := Nat.le_trans (Z13) (Nat.le_of_eq W14.size.symm)
  refine Runs.back st14 ?_
  show Runs _ _ _ _ T14 (mkF m 137 #[.val (.long q0), .second, .val (.long q1), .second, .val (.int p2), .val (.int p3), .val (.int p4), .val (.ref ob1), .unset, .unset, .unset, .unset, .unset, .unset, .unset, .unset, .unset, .unset, .unset] [])
  refine Runs.back (fun t_ k_ => XS.aload X14.here hx rfl (hb hby at_137) rfl rfl k_) ?_
  show Runs _ _ _ _ T14 (mkF m 139 #[.val (.long q0), .second, .val (.long q1), .second, .val (.int p2), .val (.int p3), .val (.int p4), .val (.ref ob1), .unset, .unset, .unset, .unset, .unset, .unset, .unset, .unset, .unset, .unset, .unset] [(.ref ob1)])
  refine Runs.back (fun t_ k_ => XS.bipush X14.here hx rfl (hb hby at_139) k_) ?_
  show Runs _ _ _ _ T14 (mkF m 141 #[.val (.long q0), .second, .val (.long q1), .second, .val (.int p2), .val (.int p3), .val (.int p4), .val (.ref ob1), .unset, .unset, .unset, .unset, .unset, .unset, .unset, .unset, .unset, .unset, .unset] [(.int (13 : Int32)), (.ref ob1)])
  refine Runs.back (fun t_ k_ => XS.lloadN X14.here hx rfl (hb hby at_141) rfl k_) ?_
  show Runs _ _ _ _ T14 (mkF m 142 #[.val (.long q0), .second, .val (.long q1), .second, .val (.int p2), .val (.int p3), .val (.int p4), .val (.ref ob1), .unset, .unset, .unset, .unset, .unset, .unset, .unset, .unset, .unset, .unset, .unset] [(.long q1), (.int (13 : Int32)), (.ref ob1)])
  refine Runs.back (fun t_ k_ => XS.bipush X14.here hx rfl (hb hby at_142) k_) ?_
  show Runs _ _ _ _ T14 (mkF m 144 #[.val (.long q0), .second, .val (.long q1), .second, .val (.int p2), .val (.int p3), .val (.int p4), .val (.ref ob1), .unset, .unset, .unset, .unset, .unset, .unset, .unset, .unset, .unset, .unset, .unset] [(.int (40 : Int32)), (.long q1), (.int (13 : Int32)), (.ref ob1)])
  refine Runs.back (fun t_ k_ => XS.lushr X14.here hx rfl (hb hby at_144) rfl k_) ?_
  show Runs _ _ _ _ T14 (mkF m 145 #[.val (.long q0), .second, .val (.long q1), .second, .val (.int p2), .val (.int p3), .val (.int p4), .val (.ref ob1), .unset, .unset, .unset, .unset, .unset, .unset, .unset, .unset, .unset, .unset, .unset] [(.long ((q1.toUInt64 >>> ((40 : Int32) &&& 0x3f).toInt64.toUInt64).toInt64)), (.int (13 : Int32)), (.ref ob1)])
  refine Runs.back (fun t_ k_ => XS.l2i X14.here hx rfl (hb hby at_145) rfl k_) ?_
  show Runs _ _ _ _ T14 (mkF m 146 #[.val (.long q0), .second, .val (.long q1), .second, .val (.int p2), .val (.int p3), .val (.int p4), .val (.ref ob1), .unset, .unset, .unset, .unset, .unset, .unset, .unset, .unset, .unset, .unset, .unset] [(.int (((q1.toUInt64 >>> ((40 : Int32) &&& 0x3f).toInt64.toUInt64).toInt64).toInt32)), (.int (13 : Int32)), (.ref ob1)])
  refine Runs.back (fun t_ k_ => XS.i2b X14.here hx rfl (hb hby at_146) rfl k_) ?_
  show Runs _ _ _ _ T14 (mkF m 147 #[.val (.long q0), .second, .val (.long q1), .second, .val (.int p2), .val (.int p3), .val (.int p4), .val (.ref ob1), .unset, .unset, .unset, .unset, .unset, .unset, .unset, .unset, .unset, .unset, .unset] [(.int ((((q1.toUInt64 >>> ((40 : Int32) &&& 0x3f).toInt64.toUInt64).toInt64).toInt32).toInt8.toInt32)), (.int (13 : Int32)), (.ref ob1)])
  obtain ⟨cl15, Ar15, S15, Hs15⟩ := id f14_Arr_0
  obtain ⟨T15, h15, X15, e15, W15, st15⟩ := stB X14 hx hZ e14 Ar15 (j := (13 : Int32)) (by rw [S15]; exact (inbO (by decide : ¬ (13 : Int32) < 0) (rfl : ((13 : Int32)).toNatClampNeg = 13) (show 13 < 16 from (by first | omega | decide)))) (g := (mkF m 147 #[.val (.long q0), .second, .val (.long q1), .second, .val (.int p2), .val (.int p3), .val (.int p4), .val (.ref ob1), .unset, .unset, .unset, .unset, .unset, .unset, .unset, .unset, .unset, .unset, .unset] [(.int ((((q1.toUInt64 >>> ((40 : Int32) &&& 0x3f).toInt64.toUInt64).toInt64).toInt32).toInt8.toInt32)), (.int (13 : Int32)), (.ref ob1)])) rfl rfl (hb hby at_147)
  have N15 := Fr.snoc X15 N14 g_ob1
  obtain ⟨L15, X15, N15⟩ := hideL X15 N15
  rw [(rfl : ((13 : Int32)).toNatClampNeg = 13)] at W15
  have f15_Arr_0 : OArr Z h15 ob1 .byte 16 (fun i => if i = 13 then (Value.int (nar .byte ((((q1.toUInt64 >>> ((40 : Int32) &&& 0x3f).toInt64.toUInt64).toInt64).toInt32).toInt8.toInt32))) else (fun i => if i = 12 then (Value.int (nar .byte ((((q1.toUInt64 >>> ((32 : Int32) &&& 0x3f).toInt64.toUInt64).toInt64).toInt32).toInt8.toInt32))) else (fun i => if i = 11 then (Value.int (nar .byte ((((q1.toUInt64 >>> ((24 : Int32) &&& 0x3f).toInt64.toUInt64).toInt64).toInt32).toInt8.toInt32))) else (fun i => if i = 10 then (Value.int (nar .byte ((((q1.toUInt64 >>> ((16 : Int32) &&& 0x3f).toInt64.toUInt64).toInt64).toInt32).toInt8.toInt32))) else (fun i => if i = 9 then (Value.int (nar .byte ((((q1.toUInt64 >>> ((8 : Int32) &&& 0x3f).toInt64.toUInt64).toInt64).toInt32).toInt8.toInt32))) else (fun i => if i = 8 then (Value.int (nar .byte ((q1.toInt32).toInt8.toInt32))) else (fun i => if i = 7 then (Value.int (nar .byte ((((q0.toUInt64 >>> ((56 : Int32) &&& 0x3f).toInt64.toUInt64).toInt64).toInt32).toInt8.toInt32))) else (fun i => if i = 6 then (Value.int (nar .byte ((((q0.toUInt64 >>> ((48 : Int32) &&& 0x3f).toInt64.toUInt64).toInt64).toInt32).toInt8.toInt32))) else (fun i => if i = 5 then (Value.int (nar .byte ((((q0.toUInt64 >>> ((40 : Int32) &&& 0x3f).toInt64.toUInt64).toInt64).toInt32).toInt8.toInt32))) else (fun i => if i = 4 then (Value.int (nar .byte ((((q0.toUInt64 >>> ((32 : Int32) &&& 0x3f).toInt64.toUInt64).toInt64).toInt32).toInt8.toInt32))) else (fun i => if i = 3 then (Value.int (nar .byte ((((q0.toUInt64 >>> ((24 : Int32) &&& 0x3f).toInt64.toUInt64).toInt64).toInt32).toInt8.toInt32))) else (fun i => if i = 2 then (Value.int (nar .byte ((((q0.toUInt64 >>> ((16 : Int32) &&& 0x3f).toInt64.toUInt64).toInt64).toInt32).toInt8.toInt32))) else (fun i => if i = 1 then (Value.int (nar .byte ((((q0.toUInt64 >>> ((8 : Int32) &&& 0x3f).toInt64.toUInt64).toInt64).toInt32).toInt8.toInt32))) else (fun i => if i = 0 then (Value.int (nar .byte ((q0.toInt32).toInt8.toInt32))) else (fun _ => (Value.int (0 : Int32))) i) i) i) i) i) i) i) i) i) i) i) i) i) i) := f14_Arr_0.set W15
  have Z15 : n0 ≤ h15.size := Nat.le_trans (Z14) (Nat.le_of_eq W15.size.symm)
  refine Runs.back st15 ?_
  show Runs _ _ _ _ T15 (mkF m 148 #[.val (.long q0), .second, .val (.long q1), .second, .val (.int p2), .val (.int p3), .val (.int p4), .val (.ref ob1), .unset, .unset, .unset, .unset, .unset, .unset, .unset, .unset, .unset, .unset, .unset] [])
  refine Runs.back (fun t_ k_ => XS.aload X15.here hx rfl (hb hby at_148) rfl rfl k_) ?_
  show Runs _ _ _ _ T15 (mkF m 150 #[.val (.long q0), .second, .val (.long q1), .second, .val (.int p2), .val (.int p3), .val (.int p4), .val (.ref ob1), .unset, .unset, .unset, .unset, .unset, .unset, .unset, .unset, .unset, .unset, .unset] [(.ref ob1)])
  refine Runs.back (fun t_ k_ => XS.bipush X15.here hx rfl (hb hby at_150) k_) ?_
  show Runs _ _ _ _ T15 (mkF m 152 #[.val (.long q0), .second, .val (.long q1), .second, .val (.int p2), .val (.int p3), .val (.int p4), .val (.ref ob1), .unset, .unset, .unset, .unset, .unset, .unset, .unset, .unset, .unset, .unset, .unset] [(.int (14 : Int32)), (.ref ob1)])
  refine Runs.back (fun t_ k_ => XS.lloadN X15.here hx rfl (hb hby at_152) rfl k_) ?_
  show Runs _ _ _ _ T15 (mkF m 153 #[.val (.long q0), .second, .val (.long q1), .second, .val (.int p2), .val (.int p3), .val (.int p4), .val (.ref ob1), .unset, .unset, .unset, .unset, .unset, .unset, .unset, .unset, .unset, .unset, .unset] [(.long q1), (.int (14 : Int32)), (.ref ob1)])
  refine Runs.back (fun t_ k_ => XS.bipush X15.here hx rfl (hb hby at_153) k_) ?_
  show Runs _ _ _ _ T15 (mkF m 155 #[.val (.long q0), .second, .val (.long q1), .second, .val (.int p2), .val (.int p3), .val (.int p4), .val (.ref ob1), .unset, .unset, .unset, .unset, .unset, .unset, .unset, .unset, .unset, .unset, .unset] [(.int (48 : Int32)), (.long q1), (.int (14 : Int32)), (.ref ob1)])
  refine Runs.back (fun t_ k_ => XS.lushr X15.here hx rfl (hb hby at_155) rfl k_) ?_
  show Runs _ _ _ _ T15 (mkF m 156 #[.val (.long q0), .second, .val (.long q1), .second, .val (.int p2), .val (.int p3), .val (.int p4), .val (.ref ob1), .unset, .unset, .unset, .unset, .unset, .unset, .unset, .unset, .unset, .unset, .unset] [(.long ((q1.toUInt64 >>> ((48 : Int32) &&& 0x3f).toInt64.toUInt64).toInt64)), (.int (14 : Int32)), (.ref ob1)])
  refine Runs.back (fun t_ k_ => XS.l2i X15.here hx rfl (hb hby at_156) rfl k_) ?_
  show Runs _ _ _ _ T15 (mkF m 157 #[.val (.long q0), .second, .val (.long q1), .second, .val (.int p2), .val (.int p3), .val (.int p4), .val (.ref ob1), .unset, .unset, .unset, .unset, .unset, .unset, .unset, .unset, .unset, .unset, .unset] [(.int (((q1.toUInt64 >>> ((48 : Int32) &&& 0x3f).toInt64.toUInt64).toInt64).toInt32)), (.int (14 : Int32)), (.ref ob1)])
  refine Runs.back (fun t_ k_ => XS.i2b X15.here hx rfl (hb hby at_157) rfl k_) ?_
  show Runs _ _ _ _ T15 (mkF m 158 #[.val (.long q0), .second, .val (.long q1), .second, .val (.int p2), .val (.int p3), .val (.int p4), .val (.ref ob1), .unset, .unset, .unset, .unset, .unset, .unset, .unset, .unset, .unset, .unset, .unset] [(.int ((((q1.toUInt64 >>> ((48 : Int32) &&& 0x3f).toInt64.toUInt64).toInt64).toInt32).toInt8.toInt32)), (.int (14 : Int32)), (.ref ob1)])
  obtain ⟨cl16, Ar16, S16, Hs16⟩ := id f15_Arr_0
  obtain ⟨T16, h16, X16, e16, W16, st16⟩ := stB X15 hx hZ e15 Ar16 (j := (14 : Int32)) (by rw [S16]; exact (inbO (by decide : ¬ (14 : Int32) < 0) (rfl : ((14 : Int32)).toNatClampNeg = 14) (show 14 < 16 from (by first | omega | decide)))) (g := (mkF m 158 #[.val (.long q0), .second, .val (.long q1), .second, .val (.int p2), .val (.int p3), .val (.int p4), .val (.ref ob1), .unset, .unset, .unset, .unset, .unset, .unset, .unset, .unset, .unset, .unset, .unset] [(.int ((((q1.toUInt64 >>> ((48 : Int32) &&& 0x3f).toInt64.toUInt64).toInt64).toInt32).toInt8.toInt32)), (.int (14 : Int32)), (.ref ob1)])) rfl rfl (hb hby at_158)
  have N16 := Fr.snoc X16 N15 g_ob1
  obtain ⟨L16, X16, N16⟩ := hideL X16 N16
  rw [(rfl : ((14 : Int32)).toNatClampNeg = 14)] at W16
  have f16_Arr_0 : OArr Z h16 ob1 .byte 16 (fun i => if i = 14 then (Value.int (nar .byte ((((q1.toUInt64 >>> ((48 : Int32) &&& 0x3f).toInt64.toUInt64).toInt64).toInt32).toInt8.toInt32))) else (fun i => if i = 13 then (Value.int (nar .byte ((((q1.toUInt64 >>> ((40 : Int32) &&& 0x3f).toInt64.toUInt64).toInt64).toInt32).toInt8.toInt32))) else (fun i => if i = 12 then (Value.int (nar .byte ((((q1.toUInt64 >>> ((32 : Int32) &&& 0x3f).toInt64.toUInt64).toInt64).toInt32).toInt8.toInt32))) else (fun i => if i = 11 then (Value.int (nar .byte ((((q1.toUInt64 >>> ((24 : Int32) &&& 0x3f).toInt64.toUInt64).toInt64).toInt32).toInt8.toInt32))) else (fun i => if i = 10 then (Value.int (nar .byte ((((q1.toUInt64 >>> ((16 : Int32) &&& 0x3f).toInt64.toUInt64).toInt64).toInt32).toInt8.toInt32))) else (fun i => if i = 9 then (Value.int (nar .byte ((((q1.toUInt64 >>> ((8 : Int32) &&& 0x3f).toInt64.toUInt64).toInt64).toInt32).toInt8.toInt32))) else (fun i => if i = 8 then (Value.int (nar .byte ((q1.toInt32).toInt8.toInt32))) else (fun i => if i = 7 then (Value.int (nar .byte ((((q0.toUInt64 >>> ((56 : Int32) &&& 0x3f).toInt64.toUInt64).toInt64).toInt32).toInt8.toInt32))) else (fun i => if i = 6 then (Value.int (nar .byte ((((q0.toUInt64 >>> ((48 : Int32) &&& 0x3f).toInt64.toUInt64).toInt64).toInt32).toInt8.toInt32))) else (fun i => if i = 5 then (Value.int (nar .byte ((((q0.toUInt64 >>> ((40 : Int32) &&& 0x3f).toInt64.toUInt64).toInt64).toInt32).toInt8.toInt32))) else (fun i => if i = 4 then (Value.int (nar .byte ((((q0.toUInt64 >>> ((32 : Int32) &&& 0x3f).toInt64.toUInt64).toInt64).toInt32).toInt8.toInt32))) else (fun i => if i = 3 then (Value.int (nar .byte ((((q0.toUInt64 >>> ((24 : Int32) &&& 0x3f).toInt64.toUInt64).toInt64).toInt32).toInt8.toInt32))) else (fun i => if i = 2 then (Value.int (nar .byte ((((q0.toUInt64 >>> ((16 : Int32) &&& 0x3f).toInt64.toUInt64).toInt64).toInt32).toInt8.toInt32))) else (fun i => if i = 1 then (Value.int (nar .byte ((((q0.toUInt64 >>> ((8 : Int32) &&& 0x3f).toInt64.toUInt64).toInt64).toInt32).toInt8.toInt32))) else (fun i => if i = 0 then (Value.int (nar .byte ((q0.toInt32).toInt8.toInt32))) else (fun _ => (Value.int (0 : Int32))) i) i) i) i) i) i) i) i) i) i) i) i) i) i) i) := f15_Arr_0.set W16
  have Z16 : n0 ≤ h16.size := Nat.le_trans (Z15) (Nat.le_of_eq W16.size.symm)
  refine Runs.back st16 ?_
  show Runs _ _ _ _ T16 (mkF m 159 #[.val (.long q0), .second, .val (.long q1), .second, .val (.int p2), .val (.int p3), .val (.int p4), .val (.ref ob1), .unset, .unset, .unset, .unset, .unset, .unset, .unset, .unset, .unset, .unset, .unset] [])
  refine Runs.back (fun t_ k_ => XS.aload X16.here hx rfl (hb hby at_159) rfl rfl k_) ?_
  show Runs _ _ _ _ T16 (mkF m 161 #[.val (.long q0), .second, .val (.long q1), .second, .val (.int p2), .val (.int p3), .val (.int p4), .val (.ref ob1), .unset, .unset, .unset, .unset, .unset, .unset, .unset, .unset, .unset, .unset, .unset] [(.ref ob1)])
  refine Runs.back (fun t_ k_ => XS.bipush X16.here hx rfl (hb hby at_161) k_) ?_
  show Runs _ _ _ _ T16 (mkF m 163 #[.val (.long q0), .second, .val (.long q1), .second, .val (.int p2), .val (.int p3), .val (.int p4), .val (.ref ob1), .unset, .unset, .unset, .unset, .unset, .unset, .unset, .unset, .unset, .unset, .unset] [(.int (15 : Int32)), (.ref ob1)])
  refine Runs.back (fun t_ k_ => XS.lloadN X16.here hx rfl (hb hby at_163) rfl k_) ?_
  show Runs _ _ _ _ T16 (mkF m 164 #[.val (.long q0), .second, .val (.long q1), .second, .val (.int p2), .val (.int p3), .val (.int p4), .val (.ref ob1), .unset, .unset, .unset, .unset, .unset, .unset, .unset, .unset, .unset, .unset, .unset] [(.long q1), (.int (15 : Int32)), (.ref ob1)])
  refine Runs.back (fun t_ k_ => XS.bipush X16.here hx rfl (hb hby at_164) k_) ?_
  show Runs _ _ _ _ T16 (mkF m 166 #[.val (.long q0), .second, .val (.long q1), .second, .val (.int p2), .val (.int p3), .val (.int p4), .val (.ref ob1), .unset, .unset, .unset, .unset, .unset, .unset, .unset, .unset, .unset, .unset, .unset] [(.int (56 : Int32)), (.long q1), (.int (15 : Int32)), (.ref ob1)])
  refine Runs.back (fun t_ k_ => XS.lushr X16.here hx rfl (hb hby at_166) rfl k_) ?_
  show Runs _ _ _ _ T16 (mkF m 167 #[.val (.long q0), .second, .val (.long q1), .second, .val (.int p2), .val (.int p3), .val (.int p4), .val (.ref ob1), .unset, .unset, .unset, .unset, .unset, .unset, .unset, .unset, .unset, .unset, .unset] [(.long ((q1.toUInt64 >>> ((56 : Int32) &&& 0x3f).toInt64.toUInt64).toInt64)), (.int (15 : Int32)), (.ref ob1)])
  refine Runs.back (fun t_ k_ => XS.l2i X16.here hx rfl (hb hby at_167) rfl k_) ?_
  show Runs _ _ _ _ T16 (mkF m 168 #[.val (.long q0), .second, .val (.long q1), .second, .val (.int p2), .val (.int p3), .val (.int p4), .val (.ref ob1), .unset, .unset, .unset, .unset, .unset, .unset, .unset, .unset, .unset, .unset, .unset] [(.int (((q1.toUInt64 >>> ((56 : Int32) &&& 0x3f).toInt64.toUInt64).toInt64).toInt32)), (.int (15 : Int32)), (.ref ob1)])
  refine Runs.back (fun t_ k_ => XS.i2b X16.here hx rfl (hb hby at_168) rfl k_) ?_
  show Runs _ _ _ _ T16 (mkF m 169 #[.val (.long q0), .second, .val (.long q1), .second, .val (.int p2), .val (.int p3), .val (.int p4), .val (.ref ob1), .unset, .unset, .unset, .unset, .unset, .unset, .unset, .unset, .unset, .unset, .unset] [(.int ((((q1.toUInt64 >>> ((56 : Int32) &&& 0x3f).toInt64.toUInt64).toInt64).toInt32).toInt8.toInt32)), (.int (15 : Int32)), (.ref ob1)])
  obtain ⟨cl17, Ar17, S17, Hs17⟩ := id f16_Arr_0
  obtain ⟨T17, h17, X17, e17, W17, st17⟩ := stB X16 hx hZ e16 Ar17 (j := (15 : Int32)) (by rw [S17]; exact (inbO (by decide : ¬ (15 : Int32) < 0) (rfl : ((15 : Int32)).toNatClampNeg = 15) (show 15 < 16 from (by first | omega | decide)))) (g := (mkF m 169 #[.val (.long q0), .second, .val (.long q1), .second, .val (.int p2), .val (.int p3), .val (.int p4), .val (.ref ob1), .unset, .unset, .unset, .unset, .unset, .unset, .unset, .unset, .unset, .unset, .unset] [(.int ((((q1.toUInt64 >>> ((56 : Int32) &&& 0x3f).toInt64.toUInt64).toInt64).toInt32).toInt8.toInt32)), (.int (15 : Int32)), (.ref ob1)])) rfl rfl (hb hby at_169)
  have N17 := Fr.snoc X17 N16 g_ob1
  obtain ⟨L17, X17, N17⟩ := hideL X17 N17
  rw [(rfl : ((15 : Int32)).toNatClampNeg = 15)] at W17
  have f17_Arr_0 : OArr Z h17 ob1 .byte 16 (fun i => if i = 15 then (Value.int (nar .byte ((((q1.toUInt64 >>> ((56 : Int32) &&& 0x3f).toInt64.toUInt64).toInt64).toInt32).toInt8.toInt32))) else (fun i => if i = 14 then (Value.int (nar .byte ((((q1.toUInt64 >>> ((48 : Int32) &&& 0x3f).toInt64.toUInt64).toInt64).toInt32).toInt8.toInt32))) else (fun i => if i = 13 then (Value.int (nar .byte ((((q1.toUInt64 >>> ((40 : Int32) &&& 0x3f).toInt64.toUInt64).toInt64).toInt32).toInt8.toInt32))) else (fun i => if i = 12 then (Value.int (nar .byte ((((q1.toUInt64 >>> ((32 : Int32) &&& 0x3f).toInt64.toUInt64).toInt64).toInt32).toInt8.toInt32))) else (fun i => if i = 11 then (Value.int (nar .byte ((((q1.toUInt64 >>> ((24 : Int32) &&& 0x3f).toInt64.toUInt64).toInt64).toInt32).toInt8.toInt32))) else (fun i => if i = 10 then (Value.int (nar .byte ((((q1.toUInt64 >>> ((16 : Int32) &&& 0x3f).toInt64.toUInt64).toInt64).toInt32).toInt8.toInt32))) else (fun i => if i = 9 then (Value.int (nar .byte ((((q1.toUInt64 >>> ((8 : Int32) &&& 0x3f).toInt64.toUInt64).toInt64).toInt32).toInt8.toInt32))) else (fun i => if i = 8 then (Value.int (nar .byte ((q1.toInt32).toInt8.toInt32))) else (fun i => if i = 7 then (Value.int (nar .byte ((((q0.toUInt64 >>> ((56 : Int32) &&& 0x3f).toInt64.toUInt64).toInt64).toInt32).toInt8.toInt32))) else (fun i => if i = 6 then (Value.int (nar .byte ((((q0.toUInt64 >>> ((48 : Int32) &&& 0x3f).toInt64.toUInt64).toInt64).toInt32).toInt8.toInt32))) else (fun i => if i = 5 then (Value.int (nar .byte ((((q0.toUInt64 >>> ((40 : Int32) &&& 0x3f).toInt64.toUInt64).toInt64).toInt32).toInt8.toInt32))) else (fun i => if i = 4 then (Value.int (nar .byte ((((q0.toUInt64 >>> ((32 : Int32) &&& 0x3f).toInt64.toUInt64).toInt64).toInt32).toInt8.toInt32))) else (fun i => if i = 3 then (Value.int (nar .byte ((((q0.toUInt64 >>> ((24 : Int32) &&& 0x3f).toInt64.toUInt64).toInt64).toInt32).toInt8.toInt32))) else (fun i => if i = 2 then (Value.int (nar .byte ((((q0.toUInt64 >>> ((16 : Int32) &&& 0x3f).toInt64.toUInt64).toInt64).toInt32).toInt8.toInt32))) else (fun i => if i = 1 then (Value.int (nar .byte ((((q0.toUInt64 >>> ((8 : Int32) &&& 0x3f).toInt64.toUInt64).toInt64).toInt32).toInt8.toInt32))) else (fun i => if i = 0 then (Value.int (nar .byte ((q0.toInt32).toInt8.toInt32))) else (fun _ => (Value.int (0 : Int32))) i) i) i) i) i) i) i) i) i) i) i) i) i) i) i) i) := f16_Arr_0.set W17
  have Z17 : n0 ≤ h17.size := Nat.le_trans (Z16) (Nat.le_of_eq W17.size.symm)
  refine Runs.back st17 ?_
  show Runs _ _ _ _ T17 (mkF m 170 #[.val (.long q0), .second, .val (.long q1), .second, .val (.int p2), .val (.int p3), .val (.int p4), .val (.ref ob1), .unset, .unset, .unset, .unset, .unset, .unset, .unset, .unset, .unset, .unset, .unset] [])
  obtain ⟨N, hN⟩ : ∃ N : Nat, HNq q0 q1 N := ⟨(q0.toInt % 18446744073709551616 + 18446744073709551616 * (q1.toInt % 18446744073709551616)).toNat, by unfold HNq; omega⟩
  obtain ⟨u, hu, hdu⟩ : ∃ u : Nat → Int32, (∀ i, i < 16 → (fun i => if i = 15 then (Value.int (nar .byte ((((q1.toUInt64 >>> ((56 : Int32) &&& 0x3f).toInt64.toUInt64).toInt64).toInt32).toInt8.toInt32))) else (fun i => if i = 14 then (Value.int (nar .byte ((((q1.toUInt64 >>> ((48 : Int32) &&& 0x3f).toInt64.toUInt64).toInt64).toInt32).toInt8.toInt32))) else (fun i => if i = 13 then (Value.int (nar .byte ((((q1.toUInt64 >>> ((40 : Int32) &&& 0x3f).toInt64.toUInt64).toInt64).toInt32).toInt8.toInt32))) else (fun i => if i = 12 then (Value.int (nar .byte ((((q1.toUInt64 >>> ((32 : Int32) &&& 0x3f).toInt64.toUInt64).toInt64).toInt32).toInt8.toInt32))) else (fun i => if i = 11 then (Value.int (nar .byte ((((q1.toUInt64 >>> ((24 : Int32) &&& 0x3f).toInt64.toUInt64).toInt64).toInt32).toInt8.toInt32))) else (fun i => if i = 10 then (Value.int (nar .byte ((((q1.toUInt64 >>> ((16 : Int32) &&& 0x3f).toInt64.toUInt64).toInt64).toInt32).toInt8.toInt32))) else (fun i => if i = 9 then (Value.int (nar .byte ((((q1.toUInt64 >>> ((8 : Int32) &&& 0x3f).toInt64.toUInt64).toInt64).toInt32).toInt8.toInt32))) else (fun i => if i = 8 then (Value.int (nar .byte ((q1.toInt32).toInt8.toInt32))) else (fun i => if i = 7 then (Value.int (nar .byte ((((q0.toUInt64 >>> ((56 : Int32) &&& 0x3f).toInt64.toUInt64).toInt64).toInt32).toInt8.toInt32))) else (fun i => if i = 6 then (Value.int (nar .byte ((((q0.toUInt64 >>> ((48 : Int32) &&& 0x3f).toInt64.toUInt64).toInt64).toInt32).toInt8.toInt32))) else (fun i => if i = 5 then (Value.int (nar .byte ((((q0.toUInt64 >>> ((40 : Int32) &&& 0x3f).toInt64.toUInt64).toInt64).toInt32).toInt8.toInt32))) else (fun i => if i = 4 then (Value.int (nar .byte ((((q0.toUInt64 >>> ((32 : Int32) &&& 0x3f).toInt64.toUInt64).toInt64).toInt32).toInt8.toInt32))) else (fun i => if i = 3 then (Value.int (nar .byte ((((q0.toUInt64 >>> ((24 : Int32) &&& 0x3f).toInt64.toUInt64).toInt64).toInt32).toInt8.toInt32))) else (fun i => if i = 2 then (Value.int (nar .byte ((((q0.toUInt64 >>> ((16 : Int32) &&& 0x3f).toInt64.toUInt64).toInt64).toInt32).toInt8.toInt32))) else (fun i => if i = 1 then (Value.int (nar .byte ((((q0.toUInt64 >>> ((8 : Int32) &&& 0x3f).toInt64.toUInt64).toInt64).toInt32).toInt8.toInt32))) else (fun i => if i = 0 then (Value.int (nar .byte ((q0.toInt32).toInt8.toInt32))) else (fun _ => (Value.int (0 : Int32))) i) i) i) i) i) i) i) i) i) i) i) i) i) i) i) i) i = (Value.int (u i))) ∧ ∀ i, i < 16 → (u i).toInt % 256 = ((dg N i : Nat) : Int) := by
    refine ⟨fun i => valI ((fun i => if i = 15 then (Value.int (nar .byte ((((q1.toUInt64 >>> ((56 : Int32) &&& 0x3f).toInt64.toUInt64).toInt64).toInt32).toInt8.toInt32))) else (fun i => if i = 14 then (Value.int (nar .byte ((((q1.toUInt64 >>> ((48 : Int32) &&& 0x3f).toInt64.toUInt64).toInt64).toInt32).toInt8.toInt32))) else (fun i => if i = 13 then (Value.int (nar .byte ((((q1.toUInt64 >>> ((40 : Int32) &&& 0x3f).toInt64.toUInt64).toInt64).toInt32).toInt8.toInt32))) else (fun i => if i = 12 then (Value.int (nar .byte ((((q1.toUInt64 >>> ((32 : Int32) &&& 0x3f).toInt64.toUInt64).toInt64).toInt32).toInt8.toInt32))) else (fun i => if i = 11 then (Value.int (nar .byte ((((q1.toUInt64 >>> ((24 : Int32) &&& 0x3f).toInt64.toUInt64).toInt64).toInt32).toInt8.toInt32))) else (fun i => if i = 10 then (Value.int (nar .byte ((((q1.toUInt64 >>> ((16 : Int32) &&& 0x3f).toInt64.toUInt64).toInt64).toInt32).toInt8.toInt32))) else (fun i => if i = 9 then (Value.int (nar .byte ((((q1.toUInt64 >>> ((8 : Int32) &&& 0x3f).toInt64.toUInt64).toInt64).toInt32).toInt8.toInt32))) else (fun i => if i = 8 then (Value.int (nar .byte ((q1.toInt32).toInt8.toInt32))) else (fun i => if i = 7 then (Value.int (nar .byte ((((q0.toUInt64 >>> ((56 : Int32) &&& 0x3f).toInt64.toUInt64).toInt64).toInt32).toInt8.toInt32))) else (fun i => if i = 6 then (Value.int (nar .byte ((((q0.toUInt64 >>> ((48 : Int32) &&& 0x3f).toInt64.toUInt64).toInt64).toInt32).toInt8.toInt32))) else (fun i => if i = 5 then (Value.int (nar .byte ((((q0.toUInt64 >>> ((40 : Int32) &&& 0x3f).toInt64.toUInt64).toInt64).toInt32).toInt8.toInt32))) else (fun i => if i = 4 then (Value.int (nar .byte ((((q0.toUInt64 >>> ((32 : Int32) &&& 0x3f).toInt64.toUInt64).toInt64).toInt32).toInt8.toInt32))) else (fun i => if i = 3 then (Value.int (nar .byte ((((q0.toUInt64 >>> ((24 : Int32) &&& 0x3f).toInt64.toUInt64).toInt64).toInt32).toInt8.toInt32))) else (fun i => if i = 2 then (Value.int (nar .byte ((((q0.toUInt64 >>> ((16 : Int32) &&& 0x3f).toInt64.toUInt64).toInt64).toInt32).toInt8.toInt32))) else (fun i => if i = 1 then (Value.int (nar .byte ((((q0.toUInt64 >>> ((8 : Int32) &&& 0x3f).toInt64.toUInt64).toInt64).toInt32).toInt8.toInt32))) else (fun i => if i = 0 then (Value.int (nar .byte ((q0.toInt32).toInt8.toInt32))) else (fun _ => (Value.int (0 : Int32))) i) i) i) i) i) i) i) i) i) i) i) i) i) i) i) i) i), fun i hi => ?_, fun i hi => ?_⟩
    · match i, hi with
      | 0, _ => rfl
      | 1, _ => rfl
      | 2, _ => rfl
      | 3, _ => rfl
      | 4, _ => rfl
      | 5, _ => rfl
      | 6, _ => rfl
      | 7, _ => rfl
      | 8, _ => rfl
      | 9, _ => rfl
      | 10, _ => rfl
      | 11, _ => rfl
      | 12, _ => rfl
      | 13, _ => rfl
      | 14, _ => rfl
      | 15, _ => rfl
      | j + 16, h => exact absurd h (by omega)
    · match i, hi with
      | 0, _ => exact by0 hN
      | 1, _ => exact by1 hN
      | 2, _ => exact by2 hN
      | 3, _ => exact by3 hN
      | 4, _ => exact by4 hN
      | 5, _ => exact by5 hN
      | 6, _ => exact by6 hN
      | 7, _ => exact by7 hN
      | 8, _ => exact by8 hN
      | 9, _ => exact by9 hN
      | 10, _ => exact by10 hN
      | 11, _ => exact by11 hN
      | 12, _ => exact by12 hN
      | 13, _ => exact by13 hN
      | 14, _ => exact by14 hN
      | 15, _ => exact by15 hN
      | j + 16, h => exact absurd h (by omega)
  have V170 : OArr Z h17 ob1 .byte 16 (fun i => (Value.int (u i))) := OArr.congr f17_Arr_0 hu
  refine Runs.back (fun t_ k_ => XS.iload X17.here hx rfl (hb hby at_170) rfl k_) ?_
  show Runs _ _ _ _ T17 (mkF m 172 #[.val (.long q0), .second, .val (.long q1), .second, .val (.int p2), .val (.int p3), .val (.int p4), .val (.ref ob1), .unset, .unset, .unset, .unset, .unset, .unset, .unset, .unset, .unset, .unset, .unset] [(.int p2)])
  refine Runs.back (X17.ldcInt hx hown (mvT hZ (hw _ (List.mem_of_getElem? (i := 1) rfl))) (g := (mkF m 172 #[.val (.long q0), .second, .val (.long q1), .second, .val (.int p2), .val (.int p3), .val (.int p4), .val (.ref ob1), .unset, .unset, .unset, .unset, .unset, .unset, .unset, .unset, .unset, .unset, .unset] [(.int p2)])) rfl (hb hby at_172)) ?_
  show Runs _ _ _ _ T17 (mkF m 174 #[.val (.long q0), .second, .val (.long q1), .second, .val (.int p2), .val (.int p3), .val (.int p4), .val (.ref ob1), .unset, .unset, .unset, .unset, .unset, .unset, .unset, .unset, .unset, .unset, .unset] [(.int (2147483647 : Int32)), (.int p2)])
  refine Runs.back (fun t_ k_ => XS.iand X17.here hx rfl (hb hby at_174) rfl k_) ?_
  show Runs _ _ _ _ T17 (mkF m 175 #[.val (.long q0), .second, .val (.long q1), .second, .val (.int p2), .val (.int p3), .val (.int p4), .val (.ref ob1), .unset, .unset, .unset, .unset, .unset, .unset, .unset, .unset, .unset, .unset, .unset] [(.int (p2 &&& (2147483647 : Int32)))])
  refine Runs.back (fun t_ k_ => XS.bipush X17.here hx rfl (hb hby at_175) k_) ?_
  show Runs _ _ _ _ T17 (mkF m 177 #[.val (.long q0), .second, .val (.long q1), .second, .val (.int p2), .val (.int p3), .val (.int p4), .val (.ref ob1), .unset, .unset, .unset, .unset, .unset, .unset, .unset, .unset, .unset, .unset, .unset] [(.int (9 : Int32)), (.int (p2 &&& (2147483647 : Int32)))])
  refine Runs.back (fun t_ k_ => iremM X17 hx rfl (hb hby at_177) rfl (by decide) k_) ?_
  show Runs _ _ _ _ T17 (mkF m 178 #[.val (.long q0), .second, .val (.long q1), .second, .val (.int p2), .val (.int p3), .val (.int p4), .val (.ref ob1), .unset, .unset, .unset, .unset, .unset, .unset, .unset, .unset, .unset, .unset, .unset] [(.int ((p2 &&& (2147483647 : Int32)) % (9 : Int32)))])
  have bA := (c_irem (p2 &&& (2147483647 : Int32)) 9 9 (by decide)).1 (by rw [c_mask p2 _ 31 (by decide) (by decide)]; omega)
  generalize epF : ((p2 &&& (2147483647 : Int32)) % (9 : Int32)) = pF at bA ⊢
  show Runs _ _ _ _ T17 (mkF m 178 #[.val (.long q0), .second, .val (.long q1), .second, .val (.int p2), .val (.int p3), .val (.int p4), .val (.ref ob1), .unset, .unset, .unset, .unset, .unset, .unset, .unset, .unset, .unset, .unset, .unset] [(.int pF)])
  have b2A : 0 ≤ pF.toInt ∧ pF.toInt < 9 := by omega
  clear bA
  obtain ⟨k, hk⟩ : ∃ k : Nat, pF.toInt = (k : Int) := ⟨pF.toInt.toNat, by omega⟩
  have hk9 : k < 9 := by omega
  refine Runs.back (fun t_ k_ => XS.istore X17.here hx rfl (hb hby at_178) rfl (l' := #[.val (.long q0), .second, .val (.long q1), .second, .val (.int p2), .val (.int p3), .val (.int p4), .val (.ref ob1), .val (.int pF), .unset, .unset, .unset, .unset, .unset, .unset, .unset, .unset, .unset, .unset]) rfl k_) ?_
  show Runs _ _ _ _ T17 (mkF m 180 #[.val (.long q0), .second, .val (.long q1), .second, .val (.int p2), .val (.int p3), .val (.int p4), .val (.ref ob1), .val (.int pF), .unset, .unset, .unset, .unset, .unset, .unset, .unset, .unset, .unset, .unset] [])
  refine Runs.back (fun t_ k_ => XS.iload X17.here hx rfl (hb hby at_180) rfl k_) ?_
  show Runs _ _ _ _ T17 (mkF m 182 #[.val (.long q0), .second, .val (.long q1), .second, .val (.int p2), .val (.int p3), .val (.int p4), .val (.ref ob1), .val (.int pF), .unset, .unset, .unset, .unset, .unset, .unset, .unset, .unset, .unset, .unset] [(.int p3)])
  refine Runs.back (fun t_ k_ => XS.bipush X17.here hx rfl (hb hby at_182) k_) ?_
  show Runs _ _ _ _ T17 (mkF m 184 #[.val (.long q0), .second, .val (.long q1), .second, .val (.int p2), .val (.int p3), .val (.int p4), .val (.ref ob1), .val (.int pF), .unset, .unset, .unset, .unset, .unset, .unset, .unset, .unset, .unset, .unset] [(.int (7 : Int32)), (.int p3)])
  refine Runs.back (fun t_ k_ => XS.iand X17.here hx rfl (hb hby at_184) rfl k_) ?_
  show Runs _ _ _ _ T17 (mkF m 185 #[.val (.long q0), .second, .val (.long q1), .second, .val (.int p2), .val (.int p3), .val (.int p4), .val (.ref ob1), .val (.int pF), .unset, .unset, .unset, .unset, .unset, .unset, .unset, .unset, .unset, .unset] [(.int (p3 &&& (7 : Int32)))])
  have bC : 0 ≤ ((p3 &&& (7 : Int32))).toInt ∧ ((p3 &&& (7 : Int32))).toInt < 8 := by rw [c_mask p3 _ 3 (by decide) (by decide)]; omega
  generalize ecN : (p3 &&& (7 : Int32)) = cN at bC ⊢
  show Runs _ _ _ _ T17 (mkF m 185 #[.val (.long q0), .second, .val (.long q1), .second, .val (.int p2), .val (.int p3), .val (.int p4), .val (.ref ob1), .val (.int pF), .unset, .unset, .unset, .unset, .unset, .unset, .unset, .unset, .unset, .unset] [(.int cN)])
  obtain ⟨cc, hcc⟩ : ∃ c : Nat, cN.toInt = (c : Int) := ⟨cN.toInt.toNat, by omega⟩
  have hc8 : cc < 8 := by omega
  refine Runs.back (fun t_ k_ => XS.istore X17.here hx rfl (hb hby at_185) rfl (l' := #[.val (.long q0), .second, .val (.long q1), .second, .val (.int p2), .val (.int p3), .val (.int p4), .val (.ref ob1), .val (.int pF), .val (.int cN), .unset, .unset, .unset, .unset, .unset, .unset, .unset, .unset, .unset]) rfl k_) ?_
  show Runs _ _ _ _ T17 (mkF m 187 #[.val (.long q0), .second, .val (.long q1), .second, .val (.int p2), .val (.int p3), .val (.int p4), .val (.ref ob1), .val (.int pF), .val (.int cN), .unset, .unset, .unset, .unset, .unset, .unset, .unset, .unset, .unset] [])
  refine Runs.back (fun t_ k_ => XS.iload X17.here hx rfl (hb hby at_187) rfl k_) ?_
  show Runs _ _ _ _ T17 (mkF m 189 #[.val (.long q0), .second, .val (.long q1), .second, .val (.int p2), .val (.int p3), .val (.int p4), .val (.ref ob1), .val (.int pF), .val (.int cN), .unset, .unset, .unset, .unset, .unset, .unset, .unset, .unset, .unset] [(.int pF)])
  refine Runs.back (fun t_ k_ => XS.iload X17.here hx rfl (hb hby at_189) rfl k_) ?_
  show Runs _ _ _ _ T17 (mkF m 191 #[.val (.long q0), .second, .val (.long q1), .second, .val (.int p2), .val (.int p3), .val (.int p4), .val (.ref ob1), .val (.int pF), .val (.int cN), .unset, .unset, .unset, .unset, .unset, .unset, .unset, .unset, .unset] [(.int cN), (.int pF)])
  refine Runs.back (fun t_ k_ => XS.iadd X17.here hx rfl (hb hby at_191) rfl k_) ?_
  show Runs _ _ _ _ T17 (mkF m 192 #[.val (.long q0), .second, .val (.long q1), .second, .val (.int p2), .val (.int p3), .val (.int p4), .val (.ref ob1), .val (.int pF), .val (.int cN), .unset, .unset, .unset, .unset, .unset, .unset, .unset, .unset, .unset] [(.int (pF + cN))])
  have hE : ((pF + cN)).toInt = (k : Int) + (cc : Int) := by rw [add32 (by omega) (by omega)]; omega
  generalize epE : (pF + cN) = pE at hE ⊢
  show Runs _ _ _ _ T17 (mkF m 192 #[.val (.long q0), .second, .val (.long q1), .second, .val (.int p2), .val (.int p3), .val (.int p4), .val (.ref ob1), .val (.int pF), .val (.int cN), .unset, .unset, .unset, .unset, .unset, .unset, .unset, .unset, .unset] [(.int pE)])
  refine Runs.back (fun t_ k_ => XS.istore X17.here hx rfl (hb hby at_192) rfl (l' := #[.val (.long q0), .second, .val (.long q1), .second, .val (.int p2), .val (.int p3), .val (.int p4), .val (.ref ob1), .val (.int pF), .val (.int cN), .val (.int pE), .unset, .unset, .unset, .unset, .unset, .unset, .unset, .unset]) rfl k_) ?_
  show Runs _ _ _ _ T17 (mkF m 194 #[.val (.long q0), .second, .val (.long q1), .second, .val (.int p2), .val (.int p3), .val (.int p4), .val (.ref ob1), .val (.int pF), .val (.int cN), .val (.int pE), .unset, .unset, .unset, .unset, .unset, .unset, .unset, .unset] [])
  refine Runs.back (fun t_ k_ => XS.aload X17.here hx rfl (hb hby at_194) rfl rfl k_) ?_
  show Runs _ _ _ _ T17 (mkF m 196 #[.val (.long q0), .second, .val (.long q1), .second, .val (.int p2), .val (.int p3), .val (.int p4), .val (.ref ob1), .val (.int pF), .val (.int cN), .val (.int pE), .unset, .unset, .unset, .unset, .unset, .unset, .unset, .unset] [(.ref ob1)])
  refine Runs.back (fun t_ k_ => XS.iload X17.here hx rfl (hb hby at_196) rfl k_) ?_
  show Runs _ _ _ _ T17 (mkF m 198 #[.val (.long q0), .second, .val (.long q1), .second, .val (.int p2), .val (.int p3), .val (.int p4), .val (.ref ob1), .val (.int pF), .val (.int cN), .val (.int pE), .unset, .unset, .unset, .unset, .unset, .unset, .unset, .unset] [(.int pF), (.ref ob1)])
  refine Runs.back (fun t_ k_ => XS.iload X17.here hx rfl (hb hby at_198) rfl k_) ?_
  show Runs _ _ _ _ T17 (mkF m 200 #[.val (.long q0), .second, .val (.long q1), .second, .val (.int p2), .val (.int p3), .val (.int p4), .val (.ref ob1), .val (.int pF), .val (.int cN), .val (.int pE), .unset, .unset, .unset, .unset, .unset, .unset, .unset, .unset] [(.int pE), (.int pF), (.ref ob1)])
  refine Runs.back (fun t_ k_ => XS.iload X17.here hx rfl (hb hby at_200) rfl k_) ?_
  show Runs _ _ _ _ T17 (mkF m 202 #[.val (.long q0), .second, .val (.long q1), .second, .val (.int p2), .val (.int p3), .val (.int p4), .val (.ref ob1), .val (.int pF), .val (.int cN), .val (.int pE), .unset, .unset, .unset, .unset, .unset, .unset, .unset, .unset] [(.int p4), (.int pE), (.int pF), (.ref ob1)])
  obtain ⟨_, _, ⟨T18, L18, k18, n18⟩, -, X18, ⟨Lc18, hQ18, l18, y18, z18⟩, st18⟩ := Jvm.LawKit.callS X17 hx (y := (⟨"com/example/strict_distinct/strictdistinct/SipHash", "lastWord", "([BIII)J"⟩ : MethodName)) hown (mvT hZ (hw _ (List.mem_of_getElem? (i := 2) rfl))) (mvT hZ (hw _ (List.mem_of_getElem? (i := 3) rfl))) (mvT hZ (hw _ (List.mem_of_getElem? (i := 4) rfl))) (mvT hZ (hw _ (List.mem_of_getElem? (i := 5) rfl))) (by decide) (backOf (W := 0) (rmL l Z a0 hw [] ob1 pF pE p4 u (dg N) k cc h17 n0 (Z17) V170 hk hE hk9 hc8 hdu) hZ (hw _ (List.mem_of_getElem? (i := 5) rfl)) (hw _ (List.mem_of_getElem? (i := 4) rfl)) (by decide) (by decide)) (g := (mkF m 202 #[.val (.long q0), .second, .val (.long q1), .second, .val (.int p2), .val (.int p3), .val (.int p4), .val (.ref ob1), .val (.int pF), .val (.int cN), .val (.int pE), .unset, .unset, .unset, .unset, .unset, .unset, .unset, .unset] [(.int p4), (.int pE), (.int pF), (.ref ob1)])) rfl (by rw [hml]; rfl) (argsL := [(.ref ob1), (.int pF), (.int pE), (.int p4)]) (rest := []) (lenOf pd0_0 rfl) rfl (by show 2 * 0 + _ ≤ _; exact Nat.le_of_eq rfl) (hb hby at_202) (fun _ _ => ⟨rfl, e17, (by decide : 1 + 0 ≤ _), (by decide : 16 + 0 ≤ _)⟩)
  dsimp only [Pt.U, Pt.locs, Pt.cells, Pt.slots] at X18 l18 y18 z18 st18 hQ18
  obtain rfl : k18 = 1 := y18
  obtain rfl : n18 = 16 := z18
  obtain ⟨lw18, rfl, N18q, eq18, hw18⟩ := hQ18
  have N18 : Fr n0 L18 := by rw [l18]; exact Fr.app N17 N18q
  clear l18
  rw [sumD_eq] at hw18
  refine Runs.back st18 ?_
  show Runs _ _ _ _ T18 (mkF m 205 #[.val (.long q0), .second, .val (.long q1), .second, .val (.int p2), .val (.int p3), .val (.int p4), .val (.ref ob1), .val (.int pF), .val (.int cN), .val (.int pE), .unset, .unset, .unset, .unset, .unset, .unset, .unset, .unset] [(.long lw18)])
  refine Runs.back (fun t_ k_ => XS.lstore X18.here hx rfl (hb hby at_205) rfl (l' := #[.val (.long q0), .second, .val (.long q1), .second, .val (.int p2), .val (.int p3), .val (.int p4), .val (.ref ob1), .val (.int pF), .val (.int cN), .val (.int pE), .val (.long lw18), .second, .unset, .unset, .unset, .unset, .unset, .unset]) rfl k_) ?_
  show Runs _ _ _ _ T18 (mkF m 207 #[.val (.long q0), .second, .val (.long q1), .second, .val (.int p2), .val (.int p3), .val (.int p4), .val (.ref ob1), .val (.int pF), .val (.int cN), .val (.int pE), .val (.long lw18), .second, .unset, .unset, .unset, .unset, .unset, .unset] [])
  refine Runs.back (fun t_ k_ => XS.iload X18.here hx rfl (hb hby at_207) rfl k_) ?_
  show Runs _ _ _ _ T18 (mkF m 209 #[.val (.long q0), .second, .val (.long q1), .second, .val (.int p2), .val (.int p3), .val (.int p4), .val (.ref ob1), .val (.int pF), .val (.int cN), .val (.int pE), .val (.long lw18), .second, .unset, .unset, .unset, .unset, .unset, .unset] [(.int pF)])
  by_cases c209_19 : pF = (0 : Int32)
  · refine Runs.back (fun t_ k_ => XS.ifNo X18.here hx rfl (hb hby at_209) rfl ((if0 _ _).trans (teq c209_19).2) k_) ?_
    show Runs _ _ _ _ T18 (mkF m 212 #[.val (.long q0), .second, .val (.long q1), .second, .val (.int p2), .val (.int p3), .val (.int p4), .val (.ref ob1), .val (.int pF), .val (.int cN), .val (.int pE), .val (.long lw18), .second, .unset, .unset, .unset, .unset, .unset, .unset] [])
    refine Runs.back (fun t_ k_ => XS.lloadN X18.here hx rfl (hb hby at_212) rfl k_) ?_
    show Runs _ _ _ _ T18 (mkF m 213 #[.val (.long q0), .second, .val (.long q1), .second, .val (.int p2), .val (.int p3), .val (.int p4), .val (.ref ob1), .val (.int pF), .val (.int cN), .val (.int pE), .val (.long lw18), .second, .unset, .unset, .unset, .unset, .unset, .unset] [(.long q0)])
    refine Runs.back (fun t_ k_ => XS.lstore X18.here hx rfl (hb hby at_213) rfl (l' := #[.val (.long q0), .second, .val (.long q1), .second, .val (.int p2), .val (.int p3), .val (.int p4), .val (.ref ob1), .val (.int pF), .val (.int cN), .val (.int pE), .val (.long lw18), .second, .val (.long q0), .second, .unset, .unset, .unset, .unset]) rfl k_) ?_
    show Runs _ _ _ _ T18 (mkF m 215 #[.val (.long q0), .second, .val (.long q1), .second, .val (.int p2), .val (.int p3), .val (.int p4), .val (.ref ob1), .val (.int pF), .val (.int cN), .val (.int pE), .val (.long lw18), .second, .val (.long q0), .second, .unset, .unset, .unset, .unset] [])
    refine Runs.back (fun t_ k_ => XS.goto X18.here hx rfl (pc0 := 215) (pc' := 251) rfl (hb hby at_215) (by decide) (by decide) k_) ?_
    show Runs _ _ _ _ T18 (mkF m 251 #[.val (.long q0), .second, .val (.long q1), .second, .val (.int p2), .val (.int p3), .val (.int p4), .val (.ref ob1), .val (.int pF), .val (.int cN), .val (.int pE), .val (.long lw18), .second, .val (.long q0), .second, .unset, .unset, .unset, .unset] [])
    refine Runs.back (fun t_ k_ => XS.lconst X18.here hx rfl (hb hby at_251) k_) ?_
    show Runs _ _ _ _ T18 (mkF m 252 #[.val (.long q0), .second, .val (.long q1), .second, .val (.int p2), .val (.int p3), .val (.int p4), .val (.ref ob1), .val (.int pF), .val (.int cN), .val (.int pE), .val (.long lw18), .second, .val (.long q0), .second, .unset, .unset, .unset, .unset] [(.long (1 : Int64))])
    refine Runs.back (fun t_ k_ => XS.bipush X18.here hx rfl (hb hby at_252) k_) ?_
    show Runs _ _ _ _ T18 (mkF m 254 #[.val (.long q0), .second, .val (.long q1), .second, .val (.int p2), .val (.int p3), .val (.int p4), .val (.ref ob1), .val (.int pF), .val (.int cN), .val (.int pE), .val (.long lw18), .second, .val (.long q0), .second, .unset, .unset, .unset, .unset] [(.int (8 : Int32)), (.long (1 : Int64))])
    refine Runs.back (fun t_ k_ => XS.iload X18.here hx rfl (hb hby at_254) rfl k_) ?_
    show Runs _ _ _ _ T18 (mkF m 256 #[.val (.long q0), .second, .val (.long q1), .second, .val (.int p2), .val (.int p3), .val (.int p4), .val (.ref ob1), .val (.int pF), .val (.int cN), .val (.int pE), .val (.long lw18), .second, .val (.long q0), .second, .unset, .unset, .unset, .unset] [(.int cN), (.int (8 : Int32)), (.long (1 : Int64))])
    refine Runs.back (fun t_ k_ => XS.imul X18.here hx rfl (hb hby at_256) rfl k_) ?_
    show Runs _ _ _ _ T18 (mkF m 257 #[.val (.long q0), .second, .val (.long q1), .second, .val (.int p2), .val (.int p3), .val (.int p4), .val (.ref ob1), .val (.int pF), .val (.int cN), .val (.int pE), .val (.long lw18), .second, .val (.long q0), .second, .unset, .unset, .unset, .unset] [(.int ((8 : Int32) * cN)), (.long (1 : Int64))])
    refine Runs.back (fun t_ k_ => XS.lshl X18.here hx rfl (hb hby at_257) rfl k_) ?_
    show Runs _ _ _ _ T18 (mkF m 258 #[.val (.long q0), .second, .val (.long q1), .second, .val (.int p2), .val (.int p3), .val (.int p4), .val (.ref ob1), .val (.int pF), .val (.int cN), .val (.int pE), .val (.long lw18), .second, .val (.long q0), .second, .unset, .unset, .unset, .unset] [(.long ((1 : Int64) <<< (((8 : Int32) * cN) &&& 0x3f).toInt64))])
    refine Runs.back (fun t_ k_ => XS.lconst X18.here hx rfl (hb hby at_258) k_) ?_
    show Runs _ _ _ _ T18 (mkF m 259 #[.val (.long q0), .second, .val (.long q1), .second, .val (.int p2), .val (.int p3), .val (.int p4), .val (.ref ob1), .val (.int pF), .val (.int cN), .val (.int pE), .val (.long lw18), .second, .val (.long q0), .second, .unset, .unset, .unset, .unset] [(.long (1 : Int64)), (.long ((1 : Int64) <<< (((8 : Int32) * cN) &&& 0x3f).toInt64))])
    refine Runs.back (fun t_ k_ => XS.lsub X18.here hx rfl (hb hby at_259) rfl k_) ?_
    show Runs _ _ _ _ T18 (mkF m 260 #[.val (.long q0), .second, .val (.long q1), .second, .val (.int p2), .val (.int p3), .val (.int p4), .val (.ref ob1), .val (.int pF), .val (.int cN), .val (.int pE), .val (.long lw18), .second, .val (.long q0), .second, .unset, .unset, .unset, .unset] [(.long (((1 : Int64) <<< (((8 : Int32) * cN) &&& 0x3f).toInt64) - (1 : Int64)))])
    refine Runs.back (fun t_ k_ => XS.lstore X18.here hx rfl (hb hby at_260) rfl (l' := #[.val (.long q0), .second, .val (.long q1), .second, .val (.int p2), .val (.int p3), .val (.int p4), .val (.ref ob1), .val (.int pF), .val (.int cN), .val (.int pE), .val (.long lw18), .second, .val (.long q0), .second, .val (.long (((1 : Int64) <<< (((8 : Int32) * cN) &&& 0x3f).toInt64) - (1 : Int64))), .second, .unset, .unset]) rfl k_) ?_
    show Runs _ _ _ _ T18 (mkF m 262 #[.val (.long q0), .second, .val (.long q1), .second, .val (.int p2), .val (.int p3), .val (.int p4), .val (.ref ob1), .val (.int pF), .val (.int cN), .val (.int pE), .val (.long lw18), .second, .val (.long q0), .second, .val (.long (((1 : Int64) <<< (((8 : Int32) * cN) &&& 0x3f).toInt64) - (1 : Int64))), .second, .unset, .unset] [])
    refine Runs.back (fun t_ k_ => XS.iload X18.here hx rfl (hb hby at_262) rfl k_) ?_
    show Runs _ _ _ _ T18 (mkF m 264 #[.val (.long q0), .second, .val (.long q1), .second, .val (.int p2), .val (.int p3), .val (.int p4), .val (.ref ob1), .val (.int pF), .val (.int cN), .val (.int pE), .val (.long lw18), .second, .val (.long q0), .second, .val (.long (((1 : Int64) <<< (((8 : Int32) * cN) &&& 0x3f).toInt64) - (1 : Int64))), .second, .unset, .unset] [(.int p4)])
    refine Runs.back (fun t_ k_ => XS.sipush X18.here hx rfl (hb hby at_264) k_) ?_
    show Runs _ _ _ _ T18 (mkF m 267 #[.val (.long q0), .second, .val (.long q1), .second, .val (.int p2), .val (.int p3), .val (.int p4), .val (.ref ob1), .val (.int pF), .val (.int cN), .val (.int pE), .val (.long lw18), .second, .val (.long q0), .second, .val (.long (((1 : Int64) <<< (((8 : Int32) * cN) &&& 0x3f).toInt64) - (1 : Int64))), .second, .unset, .unset] [(.int (255 : Int32)), (.int p4)])
    refine Runs.back (fun t_ k_ => XS.iand X18.here hx rfl (hb hby at_267) rfl k_) ?_
    show Runs _ _ _ _ T18 (mkF m 268 #[.val (.long q0), .second, .val (.long q1), .second, .val (.int p2), .val (.int p3), .val (.int p4), .val (.ref ob1), .val (.int pF), .val (.int cN), .val (.int pE), .val (.long lw18), .second, .val (.long q0), .second, .val (.long (((1 : Int64) <<< (((8 : Int32) * cN) &&& 0x3f).toInt64) - (1 : Int64))), .second, .unset, .unset] [(.int (p4 &&& (255 : Int32)))])
    refine Runs.back (fun t_ k_ => XS.i2l X18.here hx rfl (hb hby at_268) rfl k_) ?_
    show Runs _ _ _ _ T18 (mkF m 269 #[.val (.long q0), .second, .val (.long q1), .second, .val (.int p2), .val (.int p3), .val (.int p4), .val (.ref ob1), .val (.int pF), .val (.int cN), .val (.int pE), .val (.long lw18), .second, .val (.long q0), .second, .val (.long (((1 : Int64) <<< (((8 : Int32) * cN) &&& 0x3f).toInt64) - (1 : Int64))), .second, .unset, .unset] [(.long ((p4 &&& (255 : Int32)).toInt64))])
    refine Runs.back (fun t_ k_ => XS.bipush X18.here hx rfl (hb hby at_269) k_) ?_
    show Runs _ _ _ _ T18 (mkF m 271 #[.val (.long q0), .second, .val (.long q1), .second, .val (.int p2), .val (.int p3), .val (.int p4), .val (.ref ob1), .val (.int pF), .val (.int cN), .val (.int pE), .val (.long lw18), .second, .val (.long q0), .second, .val (.long (((1 : Int64) <<< (((8 : Int32) * cN) &&& 0x3f).toInt64) - (1 : Int64))), .second, .unset, .unset] [(.int (56 : Int32)), (.long ((p4 &&& (255 : Int32)).toInt64))])
    refine Runs.back (fun t_ k_ => XS.lshl X18.here hx rfl (hb hby at_271) rfl k_) ?_
    show Runs _ _ _ _ T18 (mkF m 272 #[.val (.long q0), .second, .val (.long q1), .second, .val (.int p2), .val (.int p3), .val (.int p4), .val (.ref ob1), .val (.int pF), .val (.int cN), .val (.int pE), .val (.long lw18), .second, .val (.long q0), .second, .val (.long (((1 : Int64) <<< (((8 : Int32) * cN) &&& 0x3f).toInt64) - (1 : Int64))), .second, .unset, .unset] [(.long (((p4 &&& (255 : Int32)).toInt64) <<< ((56 : Int32) &&& 0x3f).toInt64))])
    refine Runs.back (fun t_ k_ => XS.lload X18.here hx rfl (hb hby at_272) rfl k_) ?_
    show Runs _ _ _ _ T18 (mkF m 274 #[.val (.long q0), .second, .val (.long q1), .second, .val (.int p2), .val (.int p3), .val (.int p4), .val (.ref ob1), .val (.int pF), .val (.int cN), .val (.int pE), .val (.long lw18), .second, .val (.long q0), .second, .val (.long (((1 : Int64) <<< (((8 : Int32) * cN) &&& 0x3f).toInt64) - (1 : Int64))), .second, .unset, .unset] [(.long q0), (.long (((p4 &&& (255 : Int32)).toInt64) <<< ((56 : Int32) &&& 0x3f).toInt64))])
    refine Runs.back (fun t_ k_ => XS.lload X18.here hx rfl (hb hby at_274) rfl k_) ?_
    show Runs _ _ _ _ T18 (mkF m 276 #[.val (.long q0), .second, .val (.long q1), .second, .val (.int p2), .val (.int p3), .val (.int p4), .val (.ref ob1), .val (.int pF), .val (.int cN), .val (.int pE), .val (.long lw18), .second, .val (.long q0), .second, .val (.long (((1 : Int64) <<< (((8 : Int32) * cN) &&& 0x3f).toInt64) - (1 : Int64))), .second, .unset, .unset] [(.long (((1 : Int64) <<< (((8 : Int32) * cN) &&& 0x3f).toInt64) - (1 : Int64))), (.long q0), (.long (((p4 &&& (255 : Int32)).toInt64) <<< ((56 : Int32) &&& 0x3f).toInt64))])
    refine Runs.back (fun t_ k_ => XS.land X18.here hx rfl (hb hby at_276) rfl k_) ?_
    show Runs _ _ _ _ T18 (mkF m 277 #[.val (.long q0), .second, .val (.long q1), .second, .val (.int p2), .val (.int p3), .val (.int p4), .val (.ref ob1), .val (.int pF), .val (.int cN), .val (.int pE), .val (.long lw18), .second, .val (.long q0), .second, .val (.long (((1 : Int64) <<< (((8 : Int32) * cN) &&& 0x3f).toInt64) - (1 : Int64))), .second, .unset, .unset] [(.long (q0 &&& (((1 : Int64) <<< (((8 : Int32) * cN) &&& 0x3f).toInt64) - (1 : Int64)))), (.long (((p4 &&& (255 : Int32)).toInt64) <<< ((56 : Int32) &&& 0x3f).toInt64))])
    refine Runs.back (fun t_ k_ => XS.lor X18.here hx rfl (hb hby at_277) rfl k_) ?_
    show Runs _ _ _ _ T18 (mkF m 278 #[.val (.long q0), .second, .val (.long q1), .second, .val (.int p2), .val (.int p3), .val (.int p4), .val (.ref ob1), .val (.int pF), .val (.int cN), .val (.int pE), .val (.long lw18), .second, .val (.long q0), .second, .val (.long (((1 : Int64) <<< (((8 : Int32) * cN) &&& 0x3f).toInt64) - (1 : Int64))), .second, .unset, .unset] [(.long ((((p4 &&& (255 : Int32)).toInt64) <<< ((56 : Int32) &&& 0x3f).toInt64) ||| (q0 &&& (((1 : Int64) <<< (((8 : Int32) * cN) &&& 0x3f).toInt64) - (1 : Int64)))))])
    refine Runs.back (fun t_ k_ => XS.lstore X18.here hx rfl (hb hby at_278) rfl (l' := #[.val (.long q0), .second, .val (.long q1), .second, .val (.int p2), .val (.int p3), .val (.int p4), .val (.ref ob1), .val (.int pF), .val (.int cN), .val (.int pE), .val (.long lw18), .second, .val (.long q0), .second, .val (.long (((1 : Int64) <<< (((8 : Int32) * cN) &&& 0x3f).toInt64) - (1 : Int64))), .second, .val (.long ((((p4 &&& (255 : Int32)).toInt64) <<< ((56 : Int32) &&& 0x3f).toInt64) ||| (q0 &&& (((1 : Int64) <<< (((8 : Int32) * cN) &&& 0x3f).toInt64) - (1 : Int64))))), .second]) rfl k_) ?_
    show Runs _ _ _ _ T18 (mkF m 280 #[.val (.long q0), .second, .val (.long q1), .second, .val (.int p2), .val (.int p3), .val (.int p4), .val (.ref ob1), .val (.int pF), .val (.int cN), .val (.int pE), .val (.long lw18), .second, .val (.long q0), .second, .val (.long (((1 : Int64) <<< (((8 : Int32) * cN) &&& 0x3f).toInt64) - (1 : Int64))), .second, .val (.long ((((p4 &&& (255 : Int32)).toInt64) <<< ((56 : Int32) &&& 0x3f).toInt64) ||| (q0 &&& (((1 : Int64) <<< (((8 : Int32) * cN) &&& 0x3f).toInt64) - (1 : Int64))))), .second] [])
    refine Runs.back (fun t_ k_ => XS.lload X18.here hx rfl (hb hby at_280) rfl k_) ?_
    show Runs _ _ _ _ T18 (mkF m 282 #[.val (.long q0), .second, .val (.long q1), .second, .val (.int p2), .val (.int p3), .val (.int p4), .val (.ref ob1), .val (.int pF), .val (.int cN), .val (.int pE), .val (.long lw18), .second, .val (.long q0), .second, .val (.long (((1 : Int64) <<< (((8 : Int32) * cN) &&& 0x3f).toInt64) - (1 : Int64))), .second, .val (.long ((((p4 &&& (255 : Int32)).toInt64) <<< ((56 : Int32) &&& 0x3f).toInt64) ||| (q0 &&& (((1 : Int64) <<< (((8 : Int32) * cN) &&& 0x3f).toInt64) - (1 : Int64))))), .second] [(.long lw18)])
    refine Runs.back (fun t_ k_ => XS.lload X18.here hx rfl (hb hby at_282) rfl k_) ?_
    show Runs _ _ _ _ T18 (mkF m 284 #[.val (.long q0), .second, .val (.long q1), .second, .val (.int p2), .val (.int p3), .val (.int p4), .val (.ref ob1), .val (.int pF), .val (.int cN), .val (.int pE), .val (.long lw18), .second, .val (.long q0), .second, .val (.long (((1 : Int64) <<< (((8 : Int32) * cN) &&& 0x3f).toInt64) - (1 : Int64))), .second, .val (.long ((((p4 &&& (255 : Int32)).toInt64) <<< ((56 : Int32) &&& 0x3f).toInt64) ||| (q0 &&& (((1 : Int64) <<< (((8 : Int32) * cN) &&& 0x3f).toInt64) - (1 : Int64))))), .second] [(.long ((((p4 &&& (255 : Int32)).toInt64) <<< ((56 : Int32) &&& 0x3f).toInt64) ||| (q0 &&& (((1 : Int64) <<< (((8 : Int32) * cN) &&& 0x3f).toInt64) - (1 : Int64))))), (.long lw18)])
    refine Runs.back (fun t_ k_ => XS.lcmp X18.here hx rfl (hb hby at_284) rfl k_) ?_
    show Runs _ _ _ _ T18 (mkF m 285 #[.val (.long q0), .second, .val (.long q1), .second, .val (.int p2), .val (.int p3), .val (.int p4), .val (.ref ob1), .val (.int pF), .val (.int cN), .val (.int pE), .val (.long lw18), .second, .val (.long q0), .second, .val (.long (((1 : Int64) <<< (((8 : Int32) * cN) &&& 0x3f).toInt64) - (1 : Int64))), .second, .val (.long ((((p4 &&& (255 : Int32)).toInt64) <<< ((56 : Int32) &&& 0x3f).toInt64) ||| (q0 &&& (((1 : Int64) <<< (((8 : Int32) * cN) &&& 0x3f).toInt64) - (1 : Int64))))), .second] [(.int (lcmpW lw18 ((((p4 &&& (255 : Int32)).toInt64) <<< ((56 : Int32) &&& 0x3f).toInt64) ||| (q0 &&& (((1 : Int64) <<< (((8 : Int32) * cN) &&& 0x3f).toInt64) - (1 : Int64))))))])
    refine Runs.back (fun t_ k_ => XS.ifNo X18.here hx rfl (hb hby at_285) rfl ((if0 _ _).trans (teq (lcE (show lw18 = ((((p4 &&& (255 : Int32)).toInt64) <<< ((56 : Int32) &&& 0x3f).toInt64) ||| (q0 &&& (((1 : Int64) <<< (((8 : Int32) * cN) &&& 0x3f).toInt64) - (1 : Int64)))) from (fin hc8 hw18 hcc (win0 hN (k := k) (by have z := eqi.mp c209_19; rw [z32] at z; omega)))))).2) k_) ?_
    show Runs _ _ _ _ T18 (mkF m 288 #[.val (.long q0), .second, .val (.long q1), .second, .val (.int p2), .val (.int p3), .val (.int p4), .val (.ref ob1), .val (.int pF), .val (.int cN), .val (.int pE), .val (.long lw18), .second, .val (.long q0), .second, .val (.long (((1 : Int64) <<< (((8 : Int32) * cN) &&& 0x3f).toInt64) - (1 : Int64))), .second, .val (.long ((((p4 &&& (255 : Int32)).toInt64) <<< ((56 : Int32) &&& 0x3f).toInt64) ||| (q0 &&& (((1 : Int64) <<< (((8 : Int32) * cN) &&& 0x3f).toInt64) - (1 : Int64))))), .second] [])
    refine Runs.back (fun t_ k_ => XS.iconst X18.here hx rfl (hb hby at_288) k_) ?_
    show Runs _ _ _ _ T18 (mkF m 289 #[.val (.long q0), .second, .val (.long q1), .second, .val (.int p2), .val (.int p3), .val (.int p4), .val (.ref ob1), .val (.int pF), .val (.int cN), .val (.int pE), .val (.long lw18), .second, .val (.long q0), .second, .val (.long (((1 : Int64) <<< (((8 : Int32) * cN) &&& 0x3f).toInt64) - (1 : Int64))), .second, .val (.long ((((p4 &&& (255 : Int32)).toInt64) <<< ((56 : Int32) &&& 0x3f).toInt64) ||| (q0 &&& (((1 : Int64) <<< (((8 : Int32) * cN) &&& 0x3f).toInt64) - (1 : Int64))))), .second] [(.int (1 : Int32))])
    refine Runs.back (fun t_ k_ => XS.goto X18.here hx rfl (pc0 := 289) (pc' := 293) rfl (hb hby at_289) (by decide) (by decide) k_) ?_
    show Runs _ _ _ _ T18 (mkF m 293 #[.val (.long q0), .second, .val (.long q1), .second, .val (.int p2), .val (.int p3), .val (.int p4), .val (.ref ob1), .val (.int pF), .val (.int cN), .val (.int pE), .val (.long lw18), .second, .val (.long q0), .second, .val (.long (((1 : Int64) <<< (((8 : Int32) * cN) &&& 0x3f).toInt64) - (1 : Int64))), .second, .val (.long ((((p4 &&& (255 : Int32)).toInt64) <<< ((56 : Int32) &&& 0x3f).toInt64) ||| (q0 &&& (((1 : Int64) <<< (((8 : Int32) * cN) &&& 0x3f).toInt64) - (1 : Int64))))), .second] [(.int (1 : Int32))])
    obtain ⟨fs, hr, hrun, hended, hW, hsame⟩ := X18.leave (v := some (.int (1 : Int32))) (fun h => by rw [Bd.returns] at h; cases h)
    exact ⟨_, _, (retN X18 hx (t := .boolean) Bd.returns (by simp) (hb hby at_293) hr), hrun, hended, _, _, rfl, ⟨rfl, N18⟩, ⟨_, rfl⟩, hW, hsame.mono (by decide) (by decide)⟩
  · refine Runs.back (fun t_ k_ => XS.ifYes X18.here hx rfl (pc0 := 209) (pc' := 218) rfl (hb hby at_209) rfl ((if0 _ _).trans (feq c209_19).2) (by decide) (by decide) k_) ?_
    show Runs _ _ _ _ T18 (mkF m 218 #[.val (.long q0), .second, .val (.long q1), .second, .val (.int p2), .val (.int p3), .val (.int p4), .val (.ref ob1), .val (.int pF), .val (.int cN), .val (.int pE), .val (.long lw18), .second, .unset, .unset, .unset, .unset, .unset, .unset] [])
    refine Runs.back (fun t_ k_ => XS.iload X18.here hx rfl (hb hby at_218) rfl k_) ?_
    show Runs _ _ _ _ T18 (mkF m 220 #[.val (.long q0), .second, .val (.long q1), .second, .val (.int p2), .val (.int p3), .val (.int p4), .val (.ref ob1), .val (.int pF), .val (.int cN), .val (.int pE), .val (.long lw18), .second, .unset, .unset, .unset, .unset, .unset, .unset] [(.int pF)])
    refine Runs.back (fun t_ k_ => XS.bipush X18.here hx rfl (hb hby at_220) k_) ?_
    show Runs _ _ _ _ T18 (mkF m 222 #[.val (.long q0), .second, .val (.long q1), .second, .val (.int p2), .val (.int p3), .val (.int p4), .val (.ref ob1), .val (.int pF), .val (.int cN), .val (.int pE), .val (.long lw18), .second, .unset, .unset, .unset, .unset, .unset, .unset] [(.int (8 : Int32)), (.int pF)])
    by_cases c222_20 : pF = (8 : Int32)
    · refine Runs.back (fun t_ k_ => XS.icmpNo X18.here hx rfl (hb hby at_222) rfl (teq c222_20).2 k_) ?_
      show Runs _ _ _ _ T18 (mkF m 225 #[.val (.long q0), .second, .val (.long q1), .second, .val (.int p2), .val (.int p3), .val (.int p4), .val (.ref ob1), .val (.int pF), .val (.int cN), .val (.int pE), .val (.long lw18), .second, .unset, .unset, .unset, .unset, .unset, .unset] [])
      refine Runs.back (fun t_ k_ => XS.lloadN X18.here hx rfl (hb hby at_225) rfl k_) ?_
      show Runs _ _ _ _ T18 (mkF m 226 #[.val (.long q0), .second, .val (.long q1), .second, .val (.int p2), .val (.int p3), .val (.int p4), .val (.ref ob1), .val (.int pF), .val (.int cN), .val (.int pE), .val (.long lw18), .second, .unset, .unset, .unset, .unset, .unset, .unset] [(.long q1)])
      refine Runs.back (fun t_ k_ => XS.lstore X18.here hx rfl (hb hby at_226) rfl (l' := #[.val (.long q0), .second, .val (.long q1), .second, .val (.int p2), .val (.int p3), .val (.int p4), .val (.ref ob1), .val (.int pF), .val (.int cN), .val (.int pE), .val (.long lw18), .second, .val (.long q1), .second, .unset, .unset, .unset, .unset]) rfl k_) ?_
      show Runs _ _ _ _ T18 (mkF m 228 #[.val (.long q0), .second, .val (.long q1), .second, .val (.int p2), .val (.int p3), .val (.int p4), .val (.ref ob1), .val (.int pF), .val (.int cN), .val (.int pE), .val (.long lw18), .second, .val (.long q1), .second, .unset, .unset, .unset, .unset] [])
      refine Runs.back (fun t_ k_ => XS.goto X18.here hx rfl (pc0 := 228) (pc' := 251) rfl (hb hby at_228) (by decide) (by decide) k_) ?_
      show Runs _ _ _ _ T18 (mkF m 251 #[.val (.long q0), .second, .val (.long q1), .second, .val (.int p2), .val (.int p3), .val (.int p4), .val (.ref ob1), .val (.int pF), .val (.int cN), .val (.int pE), .val (.long lw18), .second, .val (.long q1), .second, .unset, .unset, .unset, .unset] [])
      refine Runs.back (fun t_ k_ => XS.lconst X18.here hx rfl (hb hby at_251) k_) ?_
      show Runs _ _ _ _ T18 (mkF m 252 #[.val (.long q0), .second, .val (.long q1), .second, .val (.int p2), .val (.int p3), .val (.int p4), .val (.ref ob1), .val (.int pF), .val (.int cN), .val (.int pE), .val (.long lw18), .second, .val (.long q1), .second, .unset, .unset, .unset, .unset] [(.long (1 : Int64))])
      refine Runs.back (fun t_ k_ => XS.bipush X18.here hx rfl (hb hby at_252) k_) ?_
      show Runs _ _ _ _ T18 (mkF m 254 #[.val (.long q0), .second, .val (.long q1), .second, .val (.int p2), .val (.int p3), .val (.int p4), .val (.ref ob1), .val (.int pF), .val (.int cN), .val (.int pE), .val (.long lw18), .second, .val (.long q1), .second, .unset, .unset, .unset, .unset] [(.int (8 : Int32)), (.long (1 : Int64))])
      refine Runs.back (fun t_ k_ => XS.iload X18.here hx rfl (hb hby at_254) rfl k_) ?_
      show Runs _ _ _ _ T18 (mkF m 256 #[.val (.long q0), .second, .val (.long q1), .second, .val (.int p2), .val (.int p3), .val (.int p4), .val (.ref ob1), .val (.int pF), .val (.int cN), .val (.int pE), .val (.long lw18), .second, .val (.long q1), .second, .unset, .unset, .unset, .unset] [(.int cN), (.int (8 : Int32)), (.long (1 : Int64))])
      refine Runs.back (fun t_ k_ => XS.imul X18.here hx rfl (hb hby at_256) rfl k_) ?_
      show Runs _ _ _ _ T18 (mkF m 257 #[.val (.long q0), .second, .val (.long q1), .second, .val (.int p2), .val (.int p3), .val (.int p4), .val (.ref ob1), .val (.int pF), .val (.int cN), .val (.int pE), .val (.long lw18), .second, .val (.long q1), .second, .unset, .unset, .unset, .unset] [(.int ((8 : Int32) * cN)), (.long (1 : Int64))])
      refine Runs.back (fun t_ k_ => XS.lshl X18.here hx rfl (hb hby at_257) rfl k_) ?_
      show Runs _ _ _ _ T18 (mkF m 258 #[.val (.long q0), .second, .val (.long q1), .second, .val (.int p2), .val (.int p3), .val (.int p4), .val (.ref ob1), .val (.int pF), .val (.int cN), .val (.int pE), .val (.long lw18), .second, .val (.long q1), .second, .unset, .unset, .unset, .unset] [(.long ((1 : Int64) <<< (((8 : Int32) * cN) &&& 0x3f).toInt64))])
      refine Runs.back (fun t_ k_ => XS.lconst X18.here hx rfl (hb hby at_258) k_) ?_
      show Runs _ _ _ _ T18 (mkF m 259 #[.val (.long q0), .second, .val (.long q1), .second, .val (.int p2), .val (.int p3), .val (.int p4), .val (.ref ob1), .val (.int pF), .val (.int cN), .val (.int pE), .val (.long lw18), .second, .val (.long q1), .second, .unset, .unset, .unset, .unset] [(.long (1 : Int64)), (.long ((1 : Int64) <<< (((8 : Int32) * cN) &&& 0x3f).toInt64))])
      refine Runs.back (fun t_ k_ => XS.lsub X18.here hx rfl (hb hby at_259) rfl k_) ?_
      show Runs _ _ _ _ T18 (mkF m 260 #[.val (.long q0), .second, .val (.long q1), .second, .val (.int p2), .val (.int p3), .val (.int p4), .val (.ref ob1), .val (.int pF), .val (.int cN), .val (.int pE), .val (.long lw18), .second, .val (.long q1), .second, .unset, .unset, .unset, .unset] [(.long (((1 : Int64) <<< (((8 : Int32) * cN) &&& 0x3f).toInt64) - (1 : Int64)))])
      refine Runs.back (fun t_ k_ => XS.lstore X18.here hx rfl (hb hby at_260) rfl (l' := #[.val (.long q0), .second, .val (.long q1), .second, .val (.int p2), .val (.int p3), .val (.int p4), .val (.ref ob1), .val (.int pF), .val (.int cN), .val (.int pE), .val (.long lw18), .second, .val (.long q1), .second, .val (.long (((1 : Int64) <<< (((8 : Int32) * cN) &&& 0x3f).toInt64) - (1 : Int64))), .second, .unset, .unset]) rfl k_) ?_
      show Runs _ _ _ _ T18 (mkF m 262 #[.val (.long q0), .second, .val (.long q1), .second, .val (.int p2), .val (.int p3), .val (.int p4), .val (.ref ob1), .val (.int pF), .val (.int cN), .val (.int pE), .val (.long lw18), .second, .val (.long q1), .second, .val (.long (((1 : Int64) <<< (((8 : Int32) * cN) &&& 0x3f).toInt64) - (1 : Int64))), .second, .unset, .unset] [])
      refine Runs.back (fun t_ k_ => XS.iload X18.here hx rfl (hb hby at_262) rfl k_) ?_
      show Runs _ _ _ _ T18 (mkF m 264 #[.val (.long q0), .second, .val (.long q1), .second, .val (.int p2), .val (.int p3), .val (.int p4), .val (.ref ob1), .val (.int pF), .val (.int cN), .val (.int pE), .val (.long lw18), .second, .val (.long q1), .second, .val (.long (((1 : Int64) <<< (((8 : Int32) * cN) &&& 0x3f).toInt64) - (1 : Int64))), .second, .unset, .unset] [(.int p4)])
      refine Runs.back (fun t_ k_ => XS.sipush X18.here hx rfl (hb hby at_264) k_) ?_
      show Runs _ _ _ _ T18 (mkF m 267 #[.val (.long q0), .second, .val (.long q1), .second, .val (.int p2), .val (.int p3), .val (.int p4), .val (.ref ob1), .val (.int pF), .val (.int cN), .val (.int pE), .val (.long lw18), .second, .val (.long q1), .second, .val (.long (((1 : Int64) <<< (((8 : Int32) * cN) &&& 0x3f).toInt64) - (1 : Int64))), .second, .unset, .unset] [(.int (255 : Int32)), (.int p4)])
      refine Runs.back (fun t_ k_ => XS.iand X18.here hx rfl (hb hby at_267) rfl k_) ?_
      show Runs _ _ _ _ T18 (mkF m 268 #[.val (.long q0), .second, .val (.long q1), .second, .val (.int p2), .val (.int p3), .val (.int p4), .val (.ref ob1), .val (.int pF), .val (.int cN), .val (.int pE), .val (.long lw18), .second, .val (.long q1), .second, .val (.long (((1 : Int64) <<< (((8 : Int32) * cN) &&& 0x3f).toInt64) - (1 : Int64))), .second, .unset, .unset] [(.int (p4 &&& (255 : Int32)))])
      refine Runs.back (fun t_ k_ => XS.i2l X18.here hx rfl (hb hby at_268) rfl k_) ?_
      show Runs _ _ _ _ T18 (mkF m 269 #[.val (.long q0), .second, .val (.long q1), .second, .val (.int p2), .val (.int p3), .val (.int p4), .val (.ref ob1), .val (.int pF), .val (.int cN), .val (.int pE), .val (.long lw18), .second, .val (.long q1), .second, .val (.long (((1 : Int64) <<< (((8 : Int32) * cN) &&& 0x3f).toInt64) - (1 : Int64))), .second, .unset, .unset] [(.long ((p4 &&& (255 : Int32)).toInt64))])
      refine Runs.back (fun t_ k_ => XS.bipush X18.here hx rfl (hb hby at_269) k_) ?_
      show Runs _ _ _ _ T18 (mkF m 271 #[.val (.long q0), .second, .val (.long q1), .second, .val (.int p2), .val (.int p3), .val (.int p4), .val (.ref ob1), .val (.int pF), .val (.int cN), .val (.int pE), .val (.long lw18), .second, .val (.long q1), .second, .val (.long (((1 : Int64) <<< (((8 : Int32) * cN) &&& 0x3f).toInt64) - (1 : Int64))), .second, .unset, .unset] [(.int (56 : Int32)), (.long ((p4 &&& (255 : Int32)).toInt64))])
      refine Runs.back (fun t_ k_ => XS.lshl X18.here hx rfl (hb hby at_271) rfl k_) ?_
      show Runs _ _ _ _ T18 (mkF m 272 #[.val (.long q0), .second, .val (.long q1), .second, .val (.int p2), .val (.int p3), .val (.int p4), .val (.ref ob1), .val (.int pF), .val (.int cN), .val (.int pE), .val (.long lw18), .second, .val (.long q1), .second, .val (.long (((1 : Int64) <<< (((8 : Int32) * cN) &&& 0x3f).toInt64) - (1 : Int64))), .second, .unset, .unset] [(.long (((p4 &&& (255 : Int32)).toInt64) <<< ((56 : Int32) &&& 0x3f).toInt64))])
      refine Runs.back (fun t_ k_ => XS.lload X18.here hx rfl (hb hby at_272) rfl k_) ?_
      show Runs _ _ _ _ T18 (mkF m 274 #[.val (.long q0), .second, .val (.long q1), .second, .val (.int p2), .val (.int p3), .val (.int p4), .val (.ref ob1), .val (.int pF), .val (.int cN), .val (.int pE), .val (.long lw18), .second, .val (.long q1), .second, .val (.long (((1 : Int64) <<< (((8 : Int32) * cN) &&& 0x3f).toInt64) - (1 : Int64))), .second, .unset, .unset] [(.long q1), (.long (((p4 &&& (255 : Int32)).toInt64) <<< ((56 : Int32) &&& 0x3f).toInt64))])
      refine Runs.back (fun t_ k_ => XS.lload X18.here hx rfl (hb hby at_274) rfl k_) ?_
      show Runs _ _ _ _ T18 (mkF m 276 #[.val (.long q0), .second, .val (.long q1), .second, .val (.int p2), .val (.int p3), .val (.int p4), .val (.ref ob1), .val (.int pF), .val (.int cN), .val (.int pE), .val (.long lw18), .second, .val (.long q1), .second, .val (.long (((1 : Int64) <<< (((8 : Int32) * cN) &&& 0x3f).toInt64) - (1 : Int64))), .second, .unset, .unset] [(.long (((1 : Int64) <<< (((8 : Int32) * cN) &&& 0x3f).toInt64) - (1 : Int64))), (.long q1), (.long (((p4 &&& (255 : Int32)).toInt64) <<< ((56 : Int32) &&& 0x3f).toInt64))])
      refine Runs.back (fun t_ k_ => XS.land X18.here hx rfl (hb hby at_276) rfl k_) ?_
      show Runs _ _ _ _ T18 (mkF m 277 #[.val (.long q0), .second, .val (.long q1), .second, .val (.int p2), .val (.int p3), .val (.int p4), .val (.ref ob1), .val (.int pF), .val (.int cN), .val (.int pE), .val (.long lw18), .second, .val (.long q1), .second, .val (.long (((1 : Int64) <<< (((8 : Int32) * cN) &&& 0x3f).toInt64) - (1 : Int64))), .second, .unset, .unset] [(.long (q1 &&& (((1 : Int64) <<< (((8 : Int32) * cN) &&& 0x3f).toInt64) - (1 : Int64)))), (.long (((p4 &&& (255 : Int32)).toInt64) <<< ((56 : Int32) &&& 0x3f).toInt64))])
      refine Runs.back (fun t_ k_ => XS.lor X18.here hx rfl (hb hby at_277) rfl k_) ?_
      show Runs _ _ _ _ T18 (mkF m 278 #[.val (.long q0), .second, .val (.long q1), .second, .val (.int p2), .val (.int p3), .val (.int p4), .val (.ref ob1), .val (.int pF), .val (.int cN), .val (.int pE), .val (.long lw18), .second, .val (.long q1), .second, .val (.long (((1 : Int64) <<< (((8 : Int32) * cN) &&& 0x3f).toInt64) - (1 : Int64))), .second, .unset, .unset] [(.long ((((p4 &&& (255 : Int32)).toInt64) <<< ((56 : Int32) &&& 0x3f).toInt64) ||| (q1 &&& (((1 : Int64) <<< (((8 : Int32) * cN) &&& 0x3f).toInt64) - (1 : Int64)))))])
      refine Runs.back (fun t_ k_ => XS.lstore X18.here hx rfl (hb hby at_278) rfl (l' := #[.val (.long q0), .second, .val (.long q1), .second, .val (.int p2), .val (.int p3), .val (.int p4), .val (.ref ob1), .val (.int pF), .val (.int cN), .val (.int pE), .val (.long lw18), .second, .val (.long q1), .second, .val (.long (((1 : Int64) <<< (((8 : Int32) * cN) &&& 0x3f).toInt64) - (1 : Int64))), .second, .val (.long ((((p4 &&& (255 : Int32)).toInt64) <<< ((56 : Int32) &&& 0x3f).toInt64) ||| (q1 &&& (((1 : Int64) <<< (((8 : Int32) * cN) &&& 0x3f).toInt64) - (1 : Int64))))), .second]) rfl k_) ?_
      show Runs _ _ _ _ T18 (mkF m 280 #[.val (.long q0), .second, .val (.long q1), .second, .val (.int p2), .val (.int p3), .val (.int p4), .val (.ref ob1), .val (.int pF), .val (.int cN), .val (.int pE), .val (.long lw18), .second, .val (.long q1), .second, .val (.long (((1 : Int64) <<< (((8 : Int32) * cN) &&& 0x3f).toInt64) - (1 : Int64))), .second, .val (.long ((((p4 &&& (255 : Int32)).toInt64) <<< ((56 : Int32) &&& 0x3f).toInt64) ||| (q1 &&& (((1 : Int64) <<< (((8 : Int32) * cN) &&& 0x3f).toInt64) - (1 : Int64))))), .second] [])
      refine Runs.back (fun t_ k_ => XS.lload X18.here hx rfl (hb hby at_280) rfl k_) ?_
      show Runs _ _ _ _ T18 (mkF m 282 #[.val (.long q0), .second, .val (.long q1), .second, .val (.int p2), .val (.int p3), .val (.int p4), .val (.ref ob1), .val (.int pF), .val (.int cN), .val (.int pE), .val (.long lw18), .second, .val (.long q1), .second, .val (.long (((1 : Int64) <<< (((8 : Int32) * cN) &&& 0x3f).toInt64) - (1 : Int64))), .second, .val (.long ((((p4 &&& (255 : Int32)).toInt64) <<< ((56 : Int32) &&& 0x3f).toInt64) ||| (q1 &&& (((1 : Int64) <<< (((8 : Int32) * cN) &&& 0x3f).toInt64) - (1 : Int64))))), .second] [(.long lw18)])
      refine Runs.back (fun t_ k_ => XS.lload X18.here hx rfl (hb hby at_282) rfl k_) ?_
      show Runs _ _ _ _ T18 (mkF m 284 #[.val (.long q0), .second, .val (.long q1), .second, .val (.int p2), .val (.int p3), .val (.int p4), .val (.ref ob1), .val (.int pF), .val (.int cN), .val (.int pE), .val (.long lw18), .second, .val (.long q1), .second, .val (.long (((1 : Int64) <<< (((8 : Int32) * cN) &&& 0x3f).toInt64) - (1 : Int64))), .second, .val (.long ((((p4 &&& (255 : Int32)).toInt64) <<< ((56 : Int32) &&& 0x3f).toInt64) ||| (q1 &&& (((1 : Int64) <<< (((8 : Int32) * cN) &&& 0x3f).toInt64) - (1 : Int64))))), .second] [(.long ((((p4 &&& (255 : Int32)).toInt64) <<< ((56 : Int32) &&& 0x3f).toInt64) ||| (q1 &&& (((1 : Int64) <<< (((8 : Int32) * cN) &&& 0x3f).toInt64) - (1 : Int64))))), (.long lw18)])
      refine Runs.back (fun t_ k_ => XS.lcmp X18.here hx rfl (hb hby at_284) rfl k_) ?_
      show Runs _ _ _ _ T18 (mkF m 285 #[.val (.long q0), .second, .val (.long q1), .second, .val (.int p2), .val (.int p3), .val (.int p4), .val (.ref ob1), .val (.int pF), .val (.int cN), .val (.int pE), .val (.long lw18), .second, .val (.long q1), .second, .val (.long (((1 : Int64) <<< (((8 : Int32) * cN) &&& 0x3f).toInt64) - (1 : Int64))), .second, .val (.long ((((p4 &&& (255 : Int32)).toInt64) <<< ((56 : Int32) &&& 0x3f).toInt64) ||| (q1 &&& (((1 : Int64) <<< (((8 : Int32) * cN) &&& 0x3f).toInt64) - (1 : Int64))))), .second] [(.int (lcmpW lw18 ((((p4 &&& (255 : Int32)).toInt64) <<< ((56 : Int32) &&& 0x3f).toInt64) ||| (q1 &&& (((1 : Int64) <<< (((8 : Int32) * cN) &&& 0x3f).toInt64) - (1 : Int64))))))])
      refine Runs.back (fun t_ k_ => XS.ifNo X18.here hx rfl (hb hby at_285) rfl ((if0 _ _).trans (teq (lcE (show lw18 = ((((p4 &&& (255 : Int32)).toInt64) <<< ((56 : Int32) &&& 0x3f).toInt64) ||| (q1 &&& (((1 : Int64) <<< (((8 : Int32) * cN) &&& 0x3f).toInt64) - (1 : Int64)))) from (fin hc8 hw18 hcc (win8 hN (k := k) (by have z := eqi.mp c222_20; rw [show (8 : Int32).toInt = 8 from by decide] at z; omega)))))).2) k_) ?_
      show Runs _ _ _ _ T18 (mkF m 288 #[.val (.long q0), .second, .val (.long q1), .second, .val (.int p2), .val (.int p3), .val (.int p4), .val (.ref ob1), .val (.int pF), .val (.int cN), .val (.int pE), .val (.long lw18), .second, .val (.long q1), .second, .val (.long (((1 : Int64) <<< (((8 : Int32) * cN) &&& 0x3f).toInt64) - (1 : Int64))), .second, .val (.long ((((p4 &&& (255 : Int32)).toInt64) <<< ((56 : Int32) &&& 0x3f).toInt64) ||| (q1 &&& (((1 : Int64) <<< (((8 : Int32) * cN) &&& 0x3f).toInt64) - (1 : Int64))))), .second] [])
      refine Runs.back (fun t_ k_ => XS.iconst X18.here hx rfl (hb hby at_288) k_) ?_
      show Runs _ _ _ _ T18 (mkF m 289 #[.val (.long q0), .second, .val (.long q1), .second, .val (.int p2), .val (.int p3), .val (.int p4), .val (.ref ob1), .val (.int pF), .val (.int cN), .val (.int pE), .val (.long lw18), .second, .val (.long q1), .second, .val (.long (((1 : Int64) <<< (((8 : Int32) * cN) &&& 0x3f).toInt64) - (1 : Int64))), .second, .val (.long ((((p4 &&& (255 : Int32)).toInt64) <<< ((56 : Int32) &&& 0x3f).toInt64) ||| (q1 &&& (((1 : Int64) <<< (((8 : Int32) * cN) &&& 0x3f).toInt64) - (1 : Int64))))), .second] [(.int (1 : Int32))])
      refine Runs.back (fun t_ k_ => XS.goto X18.here hx rfl (pc0 := 289) (pc' := 293) rfl (hb hby at_289) (by decide) (by decide) k_) ?_
      show Runs _ _ _ _ T18 (mkF m 293 #[.val (.long q0), .second, .val (.long q1), .second, .val (.int p2), .val (.int p3), .val (.int p4), .val (.ref ob1), .val (.int pF), .val (.int cN), .val (.int pE), .val (.long lw18), .second, .val (.long q1), .second, .val (.long (((1 : Int64) <<< (((8 : Int32) * cN) &&& 0x3f).toInt64) - (1 : Int64))), .second, .val (.long ((((p4 &&& (255 : Int32)).toInt64) <<< ((56 : Int32) &&& 0x3f).toInt64) ||| (q1 &&& (((1 : Int64) <<< (((8 : Int32) * cN) &&& 0x3f).toInt64) - (1 : Int64))))), .second] [(.int (1 : Int32))])
      obtain ⟨fs, hr, hrun, hended, hW, hsame⟩ := X18.leave (v := some (.int (1 : Int32))) (fun h => by rw [Bd.returns] at h; cases h)
      exact ⟨_, _, (retN X18 hx (t := .boolean) Bd.returns (by simp) (hb hby at_293) hr), hrun, hended, _, _, rfl, ⟨rfl, N18⟩, ⟨_, rfl⟩, hW, hsame.mono (by decide) (by decide)⟩
    · refine Runs.back (fun t_ k_ => XS.icmpYes X18.here hx rfl (pc0 := 222) (pc' := 231) rfl (hb hby at_222) rfl (feq c222_20).2 (by decide) (by decide) k_) ?_
      show Runs _ _ _ _ T18 (mkF m 231 #[.val (.long q0), .second, .val (.long q1), .second, .val (.int p2), .val (.int p3), .val (.int p4), .val (.ref ob1), .val (.int pF), .val (.int cN), .val (.int pE), .val (.long lw18), .second, .unset, .unset, .unset, .unset, .unset, .unset] [])
      refine Runs.back (fun t_ k_ => XS.lloadN X18.here hx rfl (hb hby at_231) rfl k_) ?_
      show Runs _ _ _ _ T18 (mkF m 232 #[.val (.long q0), .second, .val (.long q1), .second, .val (.int p2), .val (.int p3), .val (.int p4), .val (.ref ob1), .val (.int pF), .val (.int cN), .val (.int pE), .val (.long lw18), .second, .unset, .unset, .unset, .unset, .unset, .unset] [(.long q0)])
      refine Runs.back (fun t_ k_ => XS.bipush X18.here hx rfl (hb hby at_232) k_) ?_
      show Runs _ _ _ _ T18 (mkF m 234 #[.val (.long q0), .second, .val (.long q1), .second, .val (.int p2), .val (.int p3), .val (.int p4), .val (.ref ob1), .val (.int pF), .val (.int cN), .val (.int pE), .val (.long lw18), .second, .unset, .unset, .unset, .unset, .unset, .unset] [(.int (8 : Int32)), (.long q0)])
      refine Runs.back (fun t_ k_ => XS.iload X18.here hx rfl (hb hby at_234) rfl k_) ?_
      show Runs _ _ _ _ T18 (mkF m 236 #[.val (.long q0), .second, .val (.long q1), .second, .val (.int p2), .val (.int p3), .val (.int p4), .val (.ref ob1), .val (.int pF), .val (.int cN), .val (.int pE), .val (.long lw18), .second, .unset, .unset, .unset, .unset, .unset, .unset] [(.int pF), (.int (8 : Int32)), (.long q0)])
      refine Runs.back (fun t_ k_ => XS.imul X18.here hx rfl (hb hby at_236) rfl k_) ?_
      show Runs _ _ _ _ T18 (mkF m 237 #[.val (.long q0), .second, .val (.long q1), .second, .val (.int p2), .val (.int p3), .val (.int p4), .val (.ref ob1), .val (.int pF), .val (.int cN), .val (.int pE), .val (.long lw18), .second, .unset, .unset, .unset, .unset, .unset, .unset] [(.int ((8 : Int32) * pF)), (.long q0)])
      refine Runs.back (fun t_ k_ => XS.lushr X18.here hx rfl (hb hby at_237) rfl k_) ?_
      show Runs _ _ _ _ T18 (mkF m 238 #[.val (.long q0), .second, .val (.long q1), .second, .val (.int p2), .val (.int p3), .val (.int p4), .val (.ref ob1), .val (.int pF), .val (.int cN), .val (.int pE), .val (.long lw18), .second, .unset, .unset, .unset, .unset, .unset, .unset] [(.long ((q0.toUInt64 >>> (((8 : Int32) * pF) &&& 0x3f).toInt64.toUInt64).toInt64))])
      refine Runs.back (fun t_ k_ => XS.lloadN X18.here hx rfl (hb hby at_238) rfl k_) ?_
      show Runs _ _ _ _ T18 (mkF m 239 #[.val (.long q0), .second, .val (.long q1), .second, .val (.int p2), .val (.int p3), .val (.int p4), .val (.ref ob1), .val (.int pF), .val (.int cN), .val (.int pE), .val (.long lw18), .second, .unset, .unset, .unset, .unset, .unset, .unset] [(.long q1), (.long ((q0.toUInt64 >>> (((8 : Int32) * pF) &&& 0x3f).toInt64.toUInt64).toInt64))])
      refine Runs.back (fun t_ k_ => XS.bipush X18.here hx rfl (hb hby at_239) k_) ?_
      show Runs _ _ _ _ T18 (mkF m 241 #[.val (.long q0), .second, .val (.long q1), .second, .val (.int p2), .val (.int p3), .val (.int p4), .val (.ref ob1), .val (.int pF), .val (.int cN), .val (.int pE), .val (.long lw18), .second, .unset, .unset, .unset, .unset, .unset, .unset] [(.int (64 : Int32)), (.long q1), (.long ((q0.toUInt64 >>> (((8 : Int32) * pF) &&& 0x3f).toInt64.toUInt64).toInt64))])
      refine Runs.back (fun t_ k_ => XS.bipush X18.here hx rfl (hb hby at_241) k_) ?_
      show Runs _ _ _ _ T18 (mkF m 243 #[.val (.long q0), .second, .val (.long q1), .second, .val (.int p2), .val (.int p3), .val (.int p4), .val (.ref ob1), .val (.int pF), .val (.int cN), .val (.int pE), .val (.long lw18), .second, .unset, .unset, .unset, .unset, .unset, .unset] [(.int (8 : Int32)), (.int (64 : Int32)), (.long q1), (.long ((q0.toUInt64 >>> (((8 : Int32) * pF) &&& 0x3f).toInt64.toUInt64).toInt64))])
      refine Runs.back (fun t_ k_ => XS.iload X18.here hx rfl (hb hby at_243) rfl k_) ?_
      show Runs _ _ _ _ T18 (mkF m 245 #[.val (.long q0), .second, .val (.long q1), .second, .val (.int p2), .val (.int p3), .val (.int p4), .val (.ref ob1), .val (.int pF), .val (.int cN), .val (.int pE), .val (.long lw18), .second, .unset, .unset, .unset, .unset, .unset, .unset] [(.int pF), (.int (8 : Int32)), (.int (64 : Int32)), (.long q1), (.long ((q0.toUInt64 >>> (((8 : Int32) * pF) &&& 0x3f).toInt64.toUInt64).toInt64))])
      refine Runs.back (fun t_ k_ => XS.imul X18.here hx rfl (hb hby at_245) rfl k_) ?_
      show Runs _ _ _ _ T18 (mkF m 246 #[.val (.long q0), .second, .val (.long q1), .second, .val (.int p2), .val (.int p3), .val (.int p4), .val (.ref ob1), .val (.int pF), .val (.int cN), .val (.int pE), .val (.long lw18), .second, .unset, .unset, .unset, .unset, .unset, .unset] [(.int ((8 : Int32) * pF)), (.int (64 : Int32)), (.long q1), (.long ((q0.toUInt64 >>> (((8 : Int32) * pF) &&& 0x3f).toInt64.toUInt64).toInt64))])
      refine Runs.back (fun t_ k_ => XS.isub X18.here hx rfl (hb hby at_246) rfl k_) ?_
      show Runs _ _ _ _ T18 (mkF m 247 #[.val (.long q0), .second, .val (.long q1), .second, .val (.int p2), .val (.int p3), .val (.int p4), .val (.ref ob1), .val (.int pF), .val (.int cN), .val (.int pE), .val (.long lw18), .second, .unset, .unset, .unset, .unset, .unset, .unset] [(.int ((64 : Int32) - ((8 : Int32) * pF))), (.long q1), (.long ((q0.toUInt64 >>> (((8 : Int32) * pF) &&& 0x3f).toInt64.toUInt64).toInt64))])
      refine Runs.back (fun t_ k_ => XS.lshl X18.here hx rfl (hb hby at_247) rfl k_) ?_
      show Runs _ _ _ _ T18 (mkF m 248 #[.val (.long q0), .second, .val (.long q1), .second, .val (.int p2), .val (.int p3), .val (.int p4), .val (.ref ob1), .val (.int pF), .val (.int cN), .val (.int pE), .val (.long lw18), .second, .unset, .unset, .unset, .unset, .unset, .unset] [(.long (q1 <<< (((64 : Int32) - ((8 : Int32) * pF)) &&& 0x3f).toInt64)), (.long ((q0.toUInt64 >>> (((8 : Int32) * pF) &&& 0x3f).toInt64.toUInt64).toInt64))])
      refine Runs.back (fun t_ k_ => XS.lor X18.here hx rfl (hb hby at_248) rfl k_) ?_
      show Runs _ _ _ _ T18 (mkF m 249 #[.val (.long q0), .second, .val (.long q1), .second, .val (.int p2), .val (.int p3), .val (.int p4), .val (.ref ob1), .val (.int pF), .val (.int cN), .val (.int pE), .val (.long lw18), .second, .unset, .unset, .unset, .unset, .unset, .unset] [(.long (((q0.toUInt64 >>> (((8 : Int32) * pF) &&& 0x3f).toInt64.toUInt64).toInt64) ||| (q1 <<< (((64 : Int32) - ((8 : Int32) * pF)) &&& 0x3f).toInt64)))])
      refine Runs.back (fun t_ k_ => XS.lstore X18.here hx rfl (hb hby at_249) rfl (l' := #[.val (.long q0), .second, .val (.long q1), .second, .val (.int p2), .val (.int p3), .val (.int p4), .val (.ref ob1), .val (.int pF), .val (.int cN), .val (.int pE), .val (.long lw18), .second, .val (.long (((q0.toUInt64 >>> (((8 : Int32) * pF) &&& 0x3f).toInt64.toUInt64).toInt64) ||| (q1 <<< (((64 : Int32) - ((8 : Int32) * pF)) &&& 0x3f).toInt64))), .second, .unset, .unset, .unset, .unset]) rfl k_) ?_
      show Runs _ _ _ _ T18 (mkF m 251 #[.val (.long q0), .second, .val (.long q1), .second, .val (.int p2), .val (.int p3), .val (.int p4), .val (.ref ob1), .val (.int pF), .val (.int cN), .val (.int pE), .val (.long lw18), .second, .val (.long (((q0.toUInt64 >>> (((8 : Int32) * pF) &&& 0x3f).toInt64.toUInt64).toInt64) ||| (q1 <<< (((64 : Int32) - ((8 : Int32) * pF)) &&& 0x3f).toInt64))), .second, .unset, .unset, .unset, .unset] [])
      refine Runs.back (fun t_ k_ => XS.lconst X18.here hx rfl (hb hby at_251) k_) ?_
      show Runs _ _ _ _ T18 (mkF m 252 #[.val (.long q0), .second, .val (.long q1), .second, .val (.int p2), .val (.int p3), .val (.int p4), .val (.ref ob1), .val (.int pF), .val (.int cN), .val (.int pE), .val (.long lw18), .second, .val (.long (((q0.toUInt64 >>> (((8 : Int32) * pF) &&& 0x3f).toInt64.toUInt64).toInt64) ||| (q1 <<< (((64 : Int32) - ((8 : Int32) * pF)) &&& 0x3f).toInt64))), .second, .unset, .unset, .unset, .unset] [(.long (1 : Int64))])
      refine Runs.back (fun t_ k_ => XS.bipush X18.here hx rfl (hb hby at_252) k_) ?_
      show Runs _ _ _ _ T18 (mkF m 254 #[.val (.long q0), .second, .val (.long q1), .second, .val (.int p2), .val (.int p3), .val (.int p4), .val (.ref ob1), .val (.int pF), .val (.int cN), .val (.int pE), .val (.long lw18), .second, .val (.long (((q0.toUInt64 >>> (((8 : Int32) * pF) &&& 0x3f).toInt64.toUInt64).toInt64) ||| (q1 <<< (((64 : Int32) - ((8 : Int32) * pF)) &&& 0x3f).toInt64))), .second, .unset, .unset, .unset, .unset] [(.int (8 : Int32)), (.long (1 : Int64))])
      refine Runs.back (fun t_ k_ => XS.iload X18.here hx rfl (hb hby at_254) rfl k_) ?_
      show Runs _ _ _ _ T18 (mkF m 256 #[.val (.long q0), .second, .val (.long q1), .second, .val (.int p2), .val (.int p3), .val (.int p4), .val (.ref ob1), .val (.int pF), .val (.int cN), .val (.int pE), .val (.long lw18), .second, .val (.long (((q0.toUInt64 >>> (((8 : Int32) * pF) &&& 0x3f).toInt64.toUInt64).toInt64) ||| (q1 <<< (((64 : Int32) - ((8 : Int32) * pF)) &&& 0x3f).toInt64))), .second, .unset, .unset, .unset, .unset] [(.int cN), (.int (8 : Int32)), (.long (1 : Int64))])
      refine Runs.back (fun t_ k_ => XS.imul X18.here hx rfl (hb hby at_256) rfl k_) ?_
      show Runs _ _ _ _ T18 (mkF m 257 #[.val (.long q0), .second, .val (.long q1), .second, .val (.int p2), .val (.int p3), .val (.int p4), .val (.ref ob1), .val (.int pF), .val (.int cN), .val (.int pE), .val (.long lw18), .second, .val (.long (((q0.toUInt64 >>> (((8 : Int32) * pF) &&& 0x3f).toInt64.toUInt64).toInt64) ||| (q1 <<< (((64 : Int32) - ((8 : Int32) * pF)) &&& 0x3f).toInt64))), .second, .unset, .unset, .unset, .unset] [(.int ((8 : Int32) * cN)), (.long (1 : Int64))])
      refine Runs.back (fun t_ k_ => XS.lshl X18.here hx rfl (hb hby at_257) rfl k_) ?_
      show Runs _ _ _ _ T18 (mkF m 258 #[.val (.long q0), .second, .val (.long q1), .second, .val (.int p2), .val (.int p3), .val (.int p4), .val (.ref ob1), .val (.int pF), .val (.int cN), .val (.int pE), .val (.long lw18), .second, .val (.long (((q0.toUInt64 >>> (((8 : Int32) * pF) &&& 0x3f).toInt64.toUInt64).toInt64) ||| (q1 <<< (((64 : Int32) - ((8 : Int32) * pF)) &&& 0x3f).toInt64))), .second, .unset, .unset, .unset, .unset] [(.long ((1 : Int64) <<< (((8 : Int32) * cN) &&& 0x3f).toInt64))])
      refine Runs.back (fun t_ k_ => XS.lconst X18.here hx rfl (hb hby at_258) k_) ?_
      show Runs _ _ _ _ T18 (mkF m 259 #[.val (.long q0), .second, .val (.long q1), .second, .val (.int p2), .val (.int p3), .val (.int p4), .val (.ref ob1), .val (.int pF), .val (.int cN), .val (.int pE), .val (.long lw18), .second, .val (.long (((q0.toUInt64 >>> (((8 : Int32) * pF) &&& 0x3f).toInt64.toUInt64).toInt64) ||| (q1 <<< (((64 : Int32) - ((8 : Int32) * pF)) &&& 0x3f).toInt64))), .second, .unset, .unset, .unset, .unset] [(.long (1 : Int64)), (.long ((1 : Int64) <<< (((8 : Int32) * cN) &&& 0x3f).toInt64))])
      refine Runs.back (fun t_ k_ => XS.lsub X18.here hx rfl (hb hby at_259) rfl k_) ?_
      show Runs _ _ _ _ T18 (mkF m 260 #[.val (.long q0), .second, .val (.long q1), .second, .val (.int p2), .val (.int p3), .val (.int p4), .val (.ref ob1), .val (.int pF), .val (.int cN), .val (.int pE), .val (.long lw18), .second, .val (.long (((q0.toUInt64 >>> (((8 : Int32) * pF) &&& 0x3f).toInt64.toUInt64).toInt64) ||| (q1 <<< (((64 : Int32) - ((8 : Int32) * pF)) &&& 0x3f).toInt64))), .second, .unset, .unset, .unset, .unset] [(.long (((1 : Int64) <<< (((8 : Int32) * cN) &&& 0x3f).toInt64) - (1 : Int64)))])
      refine Runs.back (fun t_ k_ => XS.lstore X18.here hx rfl (hb hby at_260) rfl (l' := #[.val (.long q0), .second, .val (.long q1), .second, .val (.int p2), .val (.int p3), .val (.int p4), .val (.ref ob1), .val (.int pF), .val (.int cN), .val (.int pE), .val (.long lw18), .second, .val (.long (((q0.toUInt64 >>> (((8 : Int32) * pF) &&& 0x3f).toInt64.toUInt64).toInt64) ||| (q1 <<< (((64 : Int32) - ((8 : Int32) * pF)) &&& 0x3f).toInt64))), .second, .val (.long (((1 : Int64) <<< (((8 : Int32) * cN) &&& 0x3f).toInt64) - (1 : Int64))), .second, .unset, .unset]) rfl k_) ?_
      show Runs _ _ _ _ T18 (mkF m 262 #[.val (.long q0), .second, .val (.long q1), .second, .val (.int p2), .val (.int p3), .val (.int p4), .val (.ref ob1), .val (.int pF), .val (.int cN), .val (.int pE), .val (.long lw18), .second, .val (.long (((q0.toUInt64 >>> (((8 : Int32) * pF) &&& 0x3f).toInt64.toUInt64).toInt64) ||| (q1 <<< (((64 : Int32) - ((8 : Int32) * pF)) &&& 0x3f).toInt64))), .second, .val (.long (((1 : Int64) <<< (((8 : Int32) * cN) &&& 0x3f).toInt64) - (1 : Int64))), .second, .unset, .unset] [])
      refine Runs.back (fun t_ k_ => XS.iload X18.here hx rfl (hb hby at_262) rfl k_) ?_
      show Runs _ _ _ _ T18 (mkF m 264 #[.val (.long q0), .second, .val (.long q1), .second, .val (.int p2), .val (.int p3), .val (.int p4), .val (.ref ob1), .val (.int pF), .val (.int cN), .val (.int pE), .val (.long lw18), .second, .val (.long (((q0.toUInt64 >>> (((8 : Int32) * pF) &&& 0x3f).toInt64.toUInt64).toInt64) ||| (q1 <<< (((64 : Int32) - ((8 : Int32) * pF)) &&& 0x3f).toInt64))), .second, .val (.long (((1 : Int64) <<< (((8 : Int32) * cN) &&& 0x3f).toInt64) - (1 : Int64))), .second, .unset, .unset] [(.int p4)])
      refine Runs.back (fun t_ k_ => XS.sipush X18.here hx rfl (hb hby at_264) k_) ?_
      show Runs _ _ _ _ T18 (mkF m 267 #[.val (.long q0), .second, .val (.long q1), .second, .val (.int p2), .val (.int p3), .val (.int p4), .val (.ref ob1), .val (.int pF), .val (.int cN), .val (.int pE), .val (.long lw18), .second, .val (.long (((q0.toUInt64 >>> (((8 : Int32) * pF) &&& 0x3f).toInt64.toUInt64).toInt64) ||| (q1 <<< (((64 : Int32) - ((8 : Int32) * pF)) &&& 0x3f).toInt64))), .second, .val (.long (((1 : Int64) <<< (((8 : Int32) * cN) &&& 0x3f).toInt64) - (1 : Int64))), .second, .unset, .unset] [(.int (255 : Int32)), (.int p4)])
      refine Runs.back (fun t_ k_ => XS.iand X18.here hx rfl (hb hby at_267) rfl k_) ?_
      show Runs _ _ _ _ T18 (mkF m 268 #[.val (.long q0), .second, .val (.long q1), .second, .val (.int p2), .val (.int p3), .val (.int p4), .val (.ref ob1), .val (.int pF), .val (.int cN), .val (.int pE), .val (.long lw18), .second, .val (.long (((q0.toUInt64 >>> (((8 : Int32) * pF) &&& 0x3f).toInt64.toUInt64).toInt64) ||| (q1 <<< (((64 : Int32) - ((8 : Int32) * pF)) &&& 0x3f).toInt64))), .second, .val (.long (((1 : Int64) <<< (((8 : Int32) * cN) &&& 0x3f).toInt64) - (1 : Int64))), .second, .unset, .unset] [(.int (p4 &&& (255 : Int32)))])
      refine Runs.back (fun t_ k_ => XS.i2l X18.here hx rfl (hb hby at_268) rfl k_) ?_
      show Runs _ _ _ _ T18 (mkF m 269 #[.val (.long q0), .second, .val (.long q1), .second, .val (.int p2), .val (.int p3), .val (.int p4), .val (.ref ob1), .val (.int pF), .val (.int cN), .val (.int pE), .val (.long lw18), .second, .val (.long (((q0.toUInt64 >>> (((8 : Int32) * pF) &&& 0x3f).toInt64.toUInt64).toInt64) ||| (q1 <<< (((64 : Int32) - ((8 : Int32) * pF)) &&& 0x3f).toInt64))), .second, .val (.long (((1 : Int64) <<< (((8 : Int32) * cN) &&& 0x3f).toInt64) - (1 : Int64))), .second, .unset, .unset] [(.long ((p4 &&& (255 : Int32)).toInt64))])
      refine Runs.back (fun t_ k_ => XS.bipush X18.here hx rfl (hb hby at_269) k_) ?_
      show Runs _ _ _ _ T18 (mkF m 271 #[.val (.long q0), .second, .val (.long q1), .second, .val (.int p2), .val (.int p3), .val (.int p4), .val (.ref ob1), .val (.int pF), .val (.int cN), .val (.int pE), .val (.long lw18), .second, .val (.long (((q0.toUInt64 >>> (((8 : Int32) * pF) &&& 0x3f).toInt64.toUInt64).toInt64) ||| (q1 <<< (((64 : Int32) - ((8 : Int32) * pF)) &&& 0x3f).toInt64))), .second, .val (.long (((1 : Int64) <<< (((8 : Int32) * cN) &&& 0x3f).toInt64) - (1 : Int64))), .second, .unset, .unset] [(.int (56 : Int32)), (.long ((p4 &&& (255 : Int32)).toInt64))])
      refine Runs.back (fun t_ k_ => XS.lshl X18.here hx rfl (hb hby at_271) rfl k_) ?_
      show Runs _ _ _ _ T18 (mkF m 272 #[.val (.long q0), .second, .val (.long q1), .second, .val (.int p2), .val (.int p3), .val (.int p4), .val (.ref ob1), .val (.int pF), .val (.int cN), .val (.int pE), .val (.long lw18), .second, .val (.long (((q0.toUInt64 >>> (((8 : Int32) * pF) &&& 0x3f).toInt64.toUInt64).toInt64) ||| (q1 <<< (((64 : Int32) - ((8 : Int32) * pF)) &&& 0x3f).toInt64))), .second, .val (.long (((1 : Int64) <<< (((8 : Int32) * cN) &&& 0x3f).toInt64) - (1 : Int64))), .second, .unset, .unset] [(.long (((p4 &&& (255 : Int32)).toInt64) <<< ((56 : Int32) &&& 0x3f).toInt64))])
      refine Runs.back (fun t_ k_ => XS.lload X18.here hx rfl (hb hby at_272) rfl k_) ?_
      show Runs _ _ _ _ T18 (mkF m 274 #[.val (.long q0), .second, .val (.long q1), .second, .val (.int p2), .val (.int p3), .val (.int p4), .val (.ref ob1), .val (.int pF), .val (.int cN), .val (.int pE), .val (.long lw18), .second, .val (.long (((q0.toUInt64 >>> (((8 : Int32) * pF) &&& 0x3f).toInt64.toUInt64).toInt64) ||| (q1 <<< (((64 : Int32) - ((8 : Int32) * pF)) &&& 0x3f).toInt64))), .second, .val (.long (((1 : Int64) <<< (((8 : Int32) * cN) &&& 0x3f).toInt64) - (1 : Int64))), .second, .unset, .unset] [(.long (((q0.toUInt64 >>> (((8 : Int32) * pF) &&& 0x3f).toInt64.toUInt64).toInt64) ||| (q1 <<< (((64 : Int32) - ((8 : Int32) * pF)) &&& 0x3f).toInt64))), (.long (((p4 &&& (255 : Int32)).toInt64) <<< ((56 : Int32) &&& 0x3f).toInt64))])
      refine Runs.back (fun t_ k_ => XS.lload X18.here hx rfl (hb hby at_274) rfl k_) ?_
      show Runs _ _ _ _ T18 (mkF m 276 #[.val (.long q0), .second, .val (.long q1), .second, .val (.int p2), .val (.int p3), .val (.int p4), .val (.ref ob1), .val (.int pF), .val (.int cN), .val (.int pE), .val (.long lw18), .second, .val (.long (((q0.toUInt64 >>> (((8 : Int32) * pF) &&& 0x3f).toInt64.toUInt64).toInt64) ||| (q1 <<< (((64 : Int32) - ((8 : Int32) * pF)) &&& 0x3f).toInt64))), .second, .val (.long (((1 : Int64) <<< (((8 : Int32) * cN) &&& 0x3f).toInt64) - (1 : Int64))), .second, .unset, .unset] [(.long (((1 : Int64) <<< (((8 : Int32) * cN) &&& 0x3f).toInt64) - (1 : Int64))), (.long (((q0.toUInt64 >>> (((8 : Int32) * pF) &&& 0x3f).toInt64.toUInt64).toInt64) ||| (q1 <<< (((64 : Int32) - ((8 : Int32) * pF)) &&& 0x3f).toInt64))), (.long (((p4 &&& (255 : Int32)).toInt64) <<< ((56 : Int32) &&& 0x3f).toInt64))])
      refine Runs.back (fun t_ k_ => XS.land X18.here hx rfl (hb hby at_276) rfl k_) ?_
      show Runs _ _ _ _ T18 (mkF m 277 #[.val (.long q0), .second, .val (.long q1), .second, .val (.int p2), .val (.int p3), .val (.int p4), .val (.ref ob1), .val (.int pF), .val (.int cN), .val (.int pE), .val (.long lw18), .second, .val (.long (((q0.toUInt64 >>> (((8 : Int32) * pF) &&& 0x3f).toInt64.toUInt64).toInt64) ||| (q1 <<< (((64 : Int32) - ((8 : Int32) * pF)) &&& 0x3f).toInt64))), .second, .val (.long (((1 : Int64) <<< (((8 : Int32) * cN) &&& 0x3f).toInt64) - (1 : Int64))), .second, .unset, .unset] [(.long ((((q0.toUInt64 >>> (((8 : Int32) * pF) &&& 0x3f).toInt64.toUInt64).toInt64) ||| (q1 <<< (((64 : Int32) - ((8 : Int32) * pF)) &&& 0x3f).toInt64)) &&& (((1 : Int64) <<< (((8 : Int32) * cN) &&& 0x3f).toInt64) - (1 : Int64)))), (.long (((p4 &&& (255 : Int32)).toInt64) <<< ((56 : Int32) &&& 0x3f).toInt64))])
      refine Runs.back (fun t_ k_ => XS.lor X18.here hx rfl (hb hby at_277) rfl k_) ?_
      show Runs _ _ _ _ T18 (mkF m 278 #[.val (.long q0), .second, .val (.long q1), .second, .val (.int p2), .val (.int p3), .val (.int p4), .val (.ref ob1), .val (.int pF), .val (.int cN), .val (.int pE), .val (.long lw18), .second, .val (.long (((q0.toUInt64 >>> (((8 : Int32) * pF) &&& 0x3f).toInt64.toUInt64).toInt64) ||| (q1 <<< (((64 : Int32) - ((8 : Int32) * pF)) &&& 0x3f).toInt64))), .second, .val (.long (((1 : Int64) <<< (((8 : Int32) * cN) &&& 0x3f).toInt64) - (1 : Int64))), .second, .unset, .unset] [(.long ((((p4 &&& (255 : Int32)).toInt64) <<< ((56 : Int32) &&& 0x3f).toInt64) ||| ((((q0.toUInt64 >>> (((8 : Int32) * pF) &&& 0x3f).toInt64.toUInt64).toInt64) ||| (q1 <<< (((64 : Int32) - ((8 : Int32) * pF)) &&& 0x3f).toInt64)) &&& (((1 : Int64) <<< (((8 : Int32) * cN) &&& 0x3f).toInt64) - (1 : Int64)))))])
      refine Runs.back (fun t_ k_ => XS.lstore X18.here hx rfl (hb hby at_278) rfl (l' := #[.val (.long q0), .second, .val (.long q1), .second, .val (.int p2), .val (.int p3), .val (.int p4), .val (.ref ob1), .val (.int pF), .val (.int cN), .val (.int pE), .val (.long lw18), .second, .val (.long (((q0.toUInt64 >>> (((8 : Int32) * pF) &&& 0x3f).toInt64.toUInt64).toInt64) ||| (q1 <<< (((64 : Int32) - ((8 : Int32) * pF)) &&& 0x3f).toInt64))), .second, .val (.long (((1 : Int64) <<< (((8 : Int32) * cN) &&& 0x3f).toInt64) - (1 : Int64))), .second, .val (.long ((((p4 &&& (255 : Int32)).toInt64) <<< ((56 : Int32) &&& 0x3f).toInt64) ||| ((((q0.toUInt64 >>> (((8 : Int32) * pF) &&& 0x3f).toInt64.toUInt64).toInt64) ||| (q1 <<< (((64 : Int32) - ((8 : Int32) * pF)) &&& 0x3f).toInt64)) &&& (((1 : Int64) <<< (((8 : Int32) * cN) &&& 0x3f).toInt64) - (1 : Int64))))), .second]) rfl k_) ?_
      show Runs _ _ _ _ T18 (mkF m 280 #[.val (.long q0), .second, .val (.long q1), .second, .val (.int p2), .val (.int p3), .val (.int p4), .val (.ref ob1), .val (.int pF), .val (.int cN), .val (.int pE), .val (.long lw18), .second, .val (.long (((q0.toUInt64 >>> (((8 : Int32) * pF) &&& 0x3f).toInt64.toUInt64).toInt64) ||| (q1 <<< (((64 : Int32) - ((8 : Int32) * pF)) &&& 0x3f).toInt64))), .second, .val (.long (((1 : Int64) <<< (((8 : Int32) * cN) &&& 0x3f).toInt64) - (1 : Int64))), .second, .val (.long ((((p4 &&& (255 : Int32)).toInt64) <<< ((56 : Int32) &&& 0x3f).toInt64) ||| ((((q0.toUInt64 >>> (((8 : Int32) * pF) &&& 0x3f).toInt64.toUInt64).toInt64) ||| (q1 <<< (((64 : Int32) - ((8 : Int32) * pF)) &&& 0x3f).toInt64)) &&& (((1 : Int64) <<< (((8 : Int32) * cN) &&& 0x3f).toInt64) - (1 : Int64))))), .second] [])
      refine Runs.back (fun t_ k_ => XS.lload X18.here hx rfl (hb hby at_280) rfl k_) ?_
      show Runs _ _ _ _ T18 (mkF m 282 #[.val (.long q0), .second, .val (.long q1), .second, .val (.int p2), .val (.int p3), .val (.int p4), .val (.ref ob1), .val (.int pF), .val (.int cN), .val (.int pE), .val (.long lw18), .second, .val (.long (((q0.toUInt64 >>> (((8 : Int32) * pF) &&& 0x3f).toInt64.toUInt64).toInt64) ||| (q1 <<< (((64 : Int32) - ((8 : Int32) * pF)) &&& 0x3f).toInt64))), .second, .val (.long (((1 : Int64) <<< (((8 : Int32) * cN) &&& 0x3f).toInt64) - (1 : Int64))), .second, .val (.long ((((p4 &&& (255 : Int32)).toInt64) <<< ((56 : Int32) &&& 0x3f).toInt64) ||| ((((q0.toUInt64 >>> (((8 : Int32) * pF) &&& 0x3f).toInt64.toUInt64).toInt64) ||| (q1 <<< (((64 : Int32) - ((8 : Int32) * pF)) &&& 0x3f).toInt64)) &&& (((1 : Int64) <<< (((8 : Int32) * cN) &&& 0x3f).toInt64) - (1 : Int64))))), .second] [(.long lw18)])
      refine Runs.back (fun t_ k_ => XS.lload X18.here hx rfl (hb hby at_282) rfl k_) ?_
      show Runs _ _ _ _ T18 (mkF m 284 #[.val (.long q0), .second, .val (.long q1), .second, .val (.int p2), .val (.int p3), .val (.int p4), .val (.ref ob1), .val (.int pF), .val (.int cN), .val (.int pE), .val (.long lw18), .second, .val (.long (((q0.toUInt64 >>> (((8 : Int32) * pF) &&& 0x3f).toInt64.toUInt64).toInt64) ||| (q1 <<< (((64 : Int32) - ((8 : Int32) * pF)) &&& 0x3f).toInt64))), .second, .val (.long (((1 : Int64) <<< (((8 : Int32) * cN) &&& 0x3f).toInt64) - (1 : Int64))), .second, .val (.long ((((p4 &&& (255 : Int32)).toInt64) <<< ((56 : Int32) &&& 0x3f).toInt64) ||| ((((q0.toUInt64 >>> (((8 : Int32) * pF) &&& 0x3f).toInt64.toUInt64).toInt64) ||| (q1 <<< (((64 : Int32) - ((8 : Int32) * pF)) &&& 0x3f).toInt64)) &&& (((1 : Int64) <<< (((8 : Int32) * cN) &&& 0x3f).toInt64) - (1 : Int64))))), .second] [(.long ((((p4 &&& (255 : Int32)).toInt64) <<< ((56 : Int32) &&& 0x3f).toInt64) ||| ((((q0.toUInt64 >>> (((8 : Int32) * pF) &&& 0x3f).toInt64.toUInt64).toInt64) ||| (q1 <<< (((64 : Int32) - ((8 : Int32) * pF)) &&& 0x3f).toInt64)) &&& (((1 : Int64) <<< (((8 : Int32) * cN) &&& 0x3f).toInt64) - (1 : Int64))))), (.long lw18)])
      refine Runs.back (fun t_ k_ => XS.lcmp X18.here hx rfl (hb hby at_284) rfl k_) ?_
      show Runs _ _ _ _ T18 (mkF m 285 #[.val (.long q0), .second, .val (.long q1), .second, .val (.int p2), .val (.int p3), .val (.int p4), .val (.ref ob1), .val (.int pF), .val (.int cN), .val (.int pE), .val (.long lw18), .second, .val (.long (((q0.toUInt64 >>> (((8 : Int32) * pF) &&& 0x3f).toInt64.toUInt64).toInt64) ||| (q1 <<< (((64 : Int32) - ((8 : Int32) * pF)) &&& 0x3f).toInt64))), .second, .val (.long (((1 : Int64) <<< (((8 : Int32) * cN) &&& 0x3f).toInt64) - (1 : Int64))), .second, .val (.long ((((p4 &&& (255 : Int32)).toInt64) <<< ((56 : Int32) &&& 0x3f).toInt64) ||| ((((q0.toUInt64 >>> (((8 : Int32) * pF) &&& 0x3f).toInt64.toUInt64).toInt64) ||| (q1 <<< (((64 : Int32) - ((8 : Int32) * pF)) &&& 0x3f).toInt64)) &&& (((1 : Int64) <<< (((8 : Int32) * cN) &&& 0x3f).toInt64) - (1 : Int64))))), .second] [(.int (lcmpW lw18 ((((p4 &&& (255 : Int32)).toInt64) <<< ((56 : Int32) &&& 0x3f).toInt64) ||| ((((q0.toUInt64 >>> (((8 : Int32) * pF) &&& 0x3f).toInt64.toUInt64).toInt64) ||| (q1 <<< (((64 : Int32) - ((8 : Int32) * pF)) &&& 0x3f).toInt64)) &&& (((1 : Int64) <<< (((8 : Int32) * cN) &&& 0x3f).toInt64) - (1 : Int64))))))])
      refine Runs.back (fun t_ k_ => XS.ifNo X18.here hx rfl (hb hby at_285) rfl ((if0 _ _).trans (teq (lcE (show lw18 = ((((p4 &&& (255 : Int32)).toInt64) <<< ((56 : Int32) &&& 0x3f).toInt64) ||| ((((q0.toUInt64 >>> (((8 : Int32) * pF) &&& 0x3f).toInt64.toUInt64).toInt64) ||| (q1 <<< (((64 : Int32) - ((8 : Int32) * pF)) &&& 0x3f).toInt64)) &&& (((1 : Int64) <<< (((8 : Int32) * cN) &&& 0x3f).toInt64) - (1 : Int64)))) from (fin hc8 hw18 hcc (win hN hk c209_19 c222_20 hk9))))).2) k_) ?_
      show Runs _ _ _ _ T18 (mkF m 288 #[.val (.long q0), .second, .val (.long q1), .second, .val (.int p2), .val (.int p3), .val (.int p4), .val (.ref ob1), .val (.int pF), .val (.int cN), .val (.int pE), .val (.long lw18), .second, .val (.long (((q0.toUInt64 >>> (((8 : Int32) * pF) &&& 0x3f).toInt64.toUInt64).toInt64) ||| (q1 <<< (((64 : Int32) - ((8 : Int32) * pF)) &&& 0x3f).toInt64))), .second, .val (.long (((1 : Int64) <<< (((8 : Int32) * cN) &&& 0x3f).toInt64) - (1 : Int64))), .second, .val (.long ((((p4 &&& (255 : Int32)).toInt64) <<< ((56 : Int32) &&& 0x3f).toInt64) ||| ((((q0.toUInt64 >>> (((8 : Int32) * pF) &&& 0x3f).toInt64.toUInt64).toInt64) ||| (q1 <<< (((64 : Int32) - ((8 : Int32) * pF)) &&& 0x3f).toInt64)) &&& (((1 : Int64) <<< (((8 : Int32) * cN) &&& 0x3f).toInt64) - (1 : Int64))))), .second] [])
      refine Runs.back (fun t_ k_ => XS.iconst X18.here hx rfl (hb hby at_288) k_) ?_
      show Runs _ _ _ _ T18 (mkF m 289 #[.val (.long q0), .second, .val (.long q1), .second, .val (.int p2), .val (.int p3), .val (.int p4), .val (.ref ob1), .val (.int pF), .val (.int cN), .val (.int pE), .val (.long lw18), .second, .val (.long (((q0.toUInt64 >>> (((8 : Int32) * pF) &&& 0x3f).toInt64.toUInt64).toInt64) ||| (q1 <<< (((64 : Int32) - ((8 : Int32) * pF)) &&& 0x3f).toInt64))), .second, .val (.long (((1 : Int64) <<< (((8 : Int32) * cN) &&& 0x3f).toInt64) - (1 : Int64))), .second, .val (.long ((((p4 &&& (255 : Int32)).toInt64) <<< ((56 : Int32) &&& 0x3f).toInt64) ||| ((((q0.toUInt64 >>> (((8 : Int32) * pF) &&& 0x3f).toInt64.toUInt64).toInt64) ||| (q1 <<< (((64 : Int32) - ((8 : Int32) * pF)) &&& 0x3f).toInt64)) &&& (((1 : Int64) <<< (((8 : Int32) * cN) &&& 0x3f).toInt64) - (1 : Int64))))), .second] [(.int (1 : Int32))])
      refine Runs.back (fun t_ k_ => XS.goto X18.here hx rfl (pc0 := 289) (pc' := 293) rfl (hb hby at_289) (by decide) (by decide) k_) ?_
      show Runs _ _ _ _ T18 (mkF m 293 #[.val (.long q0), .second, .val (.long q1), .second, .val (.int p2), .val (.int p3), .val (.int p4), .val (.ref ob1), .val (.int pF), .val (.int cN), .val (.int pE), .val (.long lw18), .second, .val (.long (((q0.toUInt64 >>> (((8 : Int32) * pF) &&& 0x3f).toInt64.toUInt64).toInt64) ||| (q1 <<< (((64 : Int32) - ((8 : Int32) * pF)) &&& 0x3f).toInt64))), .second, .val (.long (((1 : Int64) <<< (((8 : Int32) * cN) &&& 0x3f).toInt64) - (1 : Int64))), .second, .val (.long ((((p4 &&& (255 : Int32)).toInt64) <<< ((56 : Int32) &&& 0x3f).toInt64) ||| ((((q0.toUInt64 >>> (((8 : Int32) * pF) &&& 0x3f).toInt64.toUInt64).toInt64) ||| (q1 <<< (((64 : Int32) - ((8 : Int32) * pF)) &&& 0x3f).toInt64)) &&& (((1 : Int64) <<< (((8 : Int32) * cN) &&& 0x3f).toInt64) - (1 : Int64))))), .second] [(.int (1 : Int32))])
      obtain ⟨fs, hr, hrun, hended, hW, hsame⟩ := X18.leave (v := some (.int (1 : Int32))) (fun h => by rw [Bd.returns] at h; cases h)
      exact ⟨_, _, (retN X18 hx (t := .boolean) Bd.returns (by simp) (hb hby at_293) hr), hrun, hended, _, _, rfl, ⟨rfl, N18⟩, ⟨_, rfl⟩, hW, hsame.mono (by decide) (by decide)⟩
set_option maxRecDepth 65536 in
set_option maxHeartbeats 40000000 in
theorem comes_1 {Post : Tables → Env → Array Value → State → Outcome → State → Prop} (hpost : ∀ tb e args s v u, (limb_1_1.after args s (.returned v) u = true ∧ limb_1_2.after args s (.returned v) u = true ∧ True) → FrameEnd s (.returned v) u (Jvm.fieldLocs frame_1_writes args s ++ Jvm.arrayLocs frame_1_arrays args s ++ Jvm.staticLocs frame_1_statics s) 16 128 → Post tb e args s (.returned v) u) :
    ArmFor flags0 classFile x code maxLocals ret World_1 tables_1 room_1 Calls_1 rest_1 Pre_1 Post := by
  intro l hfl _ _ p e ha hc hk s m args below hf hA hF happ hP
  obtain ⟨hcalls, hrest, hpre⟩ := hP
  obtain ⟨-, -, -, hnamed, -, -, -, hat⟩ := (Spec.applies_iff hf).mp happ
  obtain ⟨hg, hn⟩ := and_e (Cond.before_iff.mp (show (Jvm.Cond.and given_1 narrow_1).before args s = true from hpre))
  obtain ⟨g0, gr0⟩ := and_e hg
  obtain ⟨g1, gr1⟩ := and_e gr0
  obtain ⟨g2, gr2⟩ := and_e gr1
  obtain ⟨g3, gr3⟩ := and_e gr2
  obtain ⟨g4, gr4⟩ := and_e gr3
  obtain ⟨w0, w1, w2, w3, w4, rfl⟩ : ∃ w0 w1 w2 w3 w4 : Value, args = #[w0, w1, w2, w3, w4] := by
    have hs : args.size = 5 := by simpa [Cond.value, given_1] using g0
    obtain ⟨L⟩ := args
    match L, hs with
    | [w0, w1, w2, w3, w4], _ => exact ⟨w0, w1, w2, w3, w4, rfl⟩
  have hw := fun d (hd : d ∈ tables_1) => atoms_spec (ws := Jvm.Cond.code x code maxLocals ret :: tables_1) hat d (List.mem_cons_of_mem _ hd)
  obtain ⟨i0, ei0⟩ := isL_v g1
  obtain rfl : w0 = (.long i0) := Option.some.inj ei0
  obtain ⟨i1, ei1⟩ := isL_v g2
  obtain rfl : w1 = (.long i1) := Option.some.inj ei1
  obtain ⟨i2, ei2⟩ := is_v g3
  obtain rfl : w2 = (.int i2) := Option.some.inj ei2
  obtain ⟨i3, ei3⟩ := is_v g4
  obtain rfl : w3 = (.int i3) := Option.some.inj ei3
  obtain ⟨i4, ei4⟩ := is_v gr4
  obtain rfl : w4 = (.int i4) := Option.some.inj ei4
  obtain ⟨n, o, h1, h2, h3, _, L, rfl, ⟨rfl, N⟩, hq⟩ := rm0 l s _ hw tables_1 i0 i1 i2 i3 i4 s.heap s.heap.size (Nat.le_refl _) p e ha hc hk s m _ below hf ((Spec.applies_iff_loose hf).mp happ).1 ⟨rfl, State.Warmed39.refl s, rfl⟩ trivial
  refine ⟨n, _, h1, h2, h3, hpost _ _ _ _ _ _ ⟨Cond.after_iff.mpr rfl, Cond.after_iff.mpr (eq_i res_at (Term.int_eval (1)) rfl), trivial⟩ ⟨hq.1, hq.2.1, (hq.2.2.sift fun y hy => Or.inr (N y hy)).mono (by decide) (by decide)⟩⟩
theorem main_1_1 : Claimed_1_1 := comes_1 fun _ _ _ _ _ _ h hF => ⟨h.1, hF⟩
theorem main_1_2 : Claimed_1_2 := comes_1 fun _ _ _ _ _ _ h hF => ⟨h.2.1, hF⟩
end Jvm.Pilot.@@N@@
namespace Jvm.Pilot.@@N@@
open Jvm Jvm.ClassFile Sem Op Lib Jvm.Free Jvm.Stand Jvm.Pilot.@@N@@.Jvm.D
/-! MADE BY PROGRAM (witnessworld.py) out of the Statement's table words and the real class files: 9 classes; the members and pool entries that the words name. The judged class is class 1, her method 1. -/
namespace start1
open Jvm.ClassFile
def u (s : String) : CpInfo := .utf8 (stringToUtf16 s)
/-- a pool by its gaps: so many unusable entries, then the entry; so many at the end -/
def gap : Nat → List CpInfo → List CpInfo
  | 0, r => r
  | n + 1, r => .unusable :: gap n r
def poolList (es : List (Nat × CpInfo)) (last : Nat) : List CpInfo := es.foldr (fun e r => gap e.1 (e.2 :: r)) (gap last [])
def pool (es : List (Nat × CpInfo)) (last : Nat) : Array CpInfo := ⟨poolList es last⟩
def fileOf (pool : Array CpInfo) (this : Nat) (attrs : Array Attribute := #[]) (ms : Array MethodInfo := #[]) (fl : Nat := 33) (sup : Nat := 0) (ifs : Array Nat := #[]) (fds : Array FieldInfo := #[]) : ClassFile where
  minorVersion := 0
  majorVersion := 65
  constantPool := pool
  accessFlags := fl
  thisClass := this
  superClass := sup
  interfaces := ifs
  fields := fds
  methods := ms
  attributes := attrs
def plain (name : String) (sup : Option ClassId) : Class where
  name := name
  kind := .ordinary
  loader := none
  accessFlags := 33
  super := sup
  interfaces := #[]
  cf := none
  fields := #[]
  methods := #[]
  instanceTypes := #[]
  staticTypes := #[]
  resolved := #[]
  callSites := []
  init := .initialized
  statics := none
  mirror := none

def pool0 : Array CpInfo := pool [(5, u "<init>"), (0, u "()V"), (1, .class_ 10), (1, u "java/lang/Object")] 113

def k0m0 : Method := { name := "<init>", desc := "()V", sig := { parameters := [], returnType := none }, accessFlags := 1, code := none }
/-- java/lang/Object -/
def k0 : Class := { plain "java/lang/Object" none with
  accessFlags := 33
  interfaces := #[]
  cf := some (fileOf pool0 8 #[] #[{ accessFlags := 1, nameIndex := 5, descriptorIndex := 6, attributes := #[] }] 33 0 #[] #[])
  fields := #[]
  methods := #[k0m0]
  instanceTypes := #[]
  staticTypes := #[]
  resolved := Array.replicate 124 none
  statics := none }

def pool1 : Array CpInfo := pool [(2, .class_ 4), (1, u "java/lang/Object"), (0, u "<init>"), (0, u "()V"), (0, .integer 2147483647), (0, .methodref 9 10), (0, .class_ 11), (0, .nameAndType 12 13), (0, u "com/example/strict_distinct/strictdistinct/SipHash"), (0, u "lastWord"), (0, u "([BIII)J"), (0, .class_ 15), (0, u "com/example/strict_distinct/strictdistinct/SipHashLastWordPinLaw"), (2, u "law"), (0, u "(JJIII)Z")] 5

def k1m0 : Method := { name := "<init>", desc := "()V", sig := { parameters := [], returnType := none }, accessFlags := 1, code := none }
def k1c1 : Code := { maxStack := 7, maxLocals := 19, code := code, exceptionTable := #[], attributes := #[] }
def k1m1 : Method := { name := "law", desc := "(JJIII)Z", sig := { parameters := [.long, .long, .int, .int, .int], returnType := some .boolean }, accessFlags := 9, code := some k1c1 }
/-- com/example/strict_distinct/strictdistinct/SipHashLastWordPinLaw -/
def k1 : Class := { plain "com/example/strict_distinct/strictdistinct/SipHashLastWordPinLaw" (some 0) with
  accessFlags := 49
  interfaces := #[]
  cf := some (fileOf pool1 14 #[] #[{ accessFlags := 1, nameIndex := 5, descriptorIndex := 6, attributes := #[] }, { accessFlags := 9, nameIndex := 18, descriptorIndex := 19, attributes := #[] }] 49 2 #[] #[])
  fields := #[]
  methods := #[k1m0, k1m1]
  instanceTypes := #[]
  staticTypes := #[]
  resolved := Array.replicate 25 none
  statics := none }

def pool2 : Array CpInfo := pool [(2, .class_ 4), (1, u "java/lang/Object"), (3, .class_ 10), (1, u "com/example/strict_distinct/strictdistinct/SipHash"), (0, u "k0"), (0, u "J"), (2, u "k1"), (31, u "lastWord"), (0, u "([BIII)J"), (6, u "pending"), (2, u "pendingCount"), (0, u "I"), (2, u "hashedLength"), (0, .long 255), (7, u "v0"), (4, u "v1"), (4, u "v2"), (4, u "v3"), (7, u "FINAL_ROUNDS")] 16

def k2c0 : Code := { maxStack := 7, maxLocals := 7, code := prog_29_method_7_code, exceptionTable := #[], attributes := #[] }
def k2m0 : Method := { name := "lastWord", desc := "([BIII)J", sig := { parameters := [(.array .byte), .int, .int, .int], returnType := some .long }, accessFlags := 8, code := some k2c0 }
/-- com/example/strict_distinct/strictdistinct/SipHash -/
def k2 : Class := { plain "com/example/strict_distinct/strictdistinct/SipHash" (some 0) with
  accessFlags := 48
  interfaces := #[]
  cf := some (fileOf pool2 8 #[] #[{ accessFlags := 8, nameIndex := 47, descriptorIndex := 48, attributes := #[] }] 48 2 #[] #[{ accessFlags := 26, nameIndex := 94, descriptorIndex := 59, attributes := #[] }, { accessFlags := 18, nameIndex := 11, descriptorIndex := 12, attributes := #[] }, { accessFlags := 18, nameIndex := 15, descriptorIndex := 12, attributes := #[] }, { accessFlags := 2, nameIndex := 71, descriptorIndex := 12, attributes := #[] }, { accessFlags := 2, nameIndex := 76, descriptorIndex := 12, attributes := #[] }, { accessFlags := 2, nameIndex := 81, descriptorIndex := 12, attributes := #[] }, { accessFlags := 2, nameIndex := 86, descriptorIndex := 12, attributes := #[] }, { accessFlags := 2, nameIndex := 55, descriptorIndex := 12, attributes := #[] }, { accessFlags := 2, nameIndex := 58, descriptorIndex := 59, attributes := #[] }, { accessFlags := 2, nameIndex := 62, descriptorIndex := 12, attributes := #[] }])
  fields := #[{ name := "FINAL_ROUNDS", type := .int, accessFlags := 26, slot := 0, constantValue := 0 }, { name := "k0", type := .long, accessFlags := 18, slot := 0, constantValue := 0 }, { name := "k1", type := .long, accessFlags := 18, slot := 1, constantValue := 0 }, { name := "v0", type := .long, accessFlags := 2, slot := 2, constantValue := 0 }, { name := "v1", type := .long, accessFlags := 2, slot := 3, constantValue := 0 }, { name := "v2", type := .long, accessFlags := 2, slot := 4, constantValue := 0 }, { name := "v3", type := .long, accessFlags := 2, slot := 5, constantValue := 0 }, { name := "pending", type := .long, accessFlags := 2, slot := 6, constantValue := 0 }, { name := "pendingCount", type := .int, accessFlags := 2, slot := 7, constantValue := 0 }, { name := "hashedLength", type := .long, accessFlags := 2, slot := 8, constantValue := 0 }]
  methods := #[k2m0]
  instanceTypes := #[.long, .long, .long, .long, .long, .long, .long, .int, .long]
  staticTypes := #[.int]
  resolved := Array.replicate 111 none
  statics := none }

def pool3 : Array CpInfo := pool [(1, u "java/lang/Cloneable"), (0, .class_ 1), (0, u "java/lang/Object"), (0, .class_ 3)] 3

/-- java/lang/Cloneable -/
def k3 : Class := { plain "java/lang/Cloneable" (some 0) with
  accessFlags := 1537
  interfaces := #[]
  cf := some (fileOf pool3 2 #[] #[] 1537 4 #[] #[])
  fields := #[]
  methods := #[]
  instanceTypes := #[]
  staticTypes := #[]
  resolved := Array.replicate 8 none
  statics := none }

def pool4 : Array CpInfo := pool [(1, u "java/io/Serializable"), (0, .class_ 1), (0, u "java/lang/Object"), (0, .class_ 3)] 3

/-- java/io/Serializable -/
def k4 : Class := { plain "java/io/Serializable" (some 0) with
  accessFlags := 1537
  interfaces := #[]
  cf := some (fileOf pool4 2 #[] #[] 1537 4 #[] #[])
  fields := #[]
  methods := #[]
  instanceTypes := #[]
  staticTypes := #[]
  resolved := Array.replicate 8 none
  statics := none }

/-- the primitive byte -/
def k5 : Class := { plain "byte" none with kind := .primitive 'B', accessFlags := 0x411 }
/-- [B -/
def k6 : Class := { plain "[B" (some 0) with kind := .array 5 .byte, interfaces := #[3, 4], accessFlags := 1041 }

/-- the primitive int -/
def k7 : Class := { plain "int" none with kind := .primitive 'I', accessFlags := 0x411 }
/-- [I -/
def k8 : Class := { plain "[I" (some 0) with kind := .array 7 .int, interfaces := #[3, 4], accessFlags := 1041 }

def heap : Heap := #[]
def classes : Array Class := #[k0, k1, k2, k3, k4, k5, k6, k7, k8]
def interned : List (Array UInt16 × Addr) := []
def slotsUsed : Nat := 0
def theMethod : MethodId := ⟨1, 1⟩
def args0 : Array Value := #[.long 5, .long 6, .int 7, .int 8, .int 9]
def aboutOver (below : List Frame) : State where
  vm := { classes := classes, interned := interned.toArray }
  heap := heap
  slotsUsed := slotsUsed
  threads := #[{ frames := .invoking theMethod args0 :: below }]
def below0 : List Frame := [.native { method := ⟨0, 0⟩, args := #[] }]
def about1 : State := aboutOver below0
def p0 : Program := .bare "" "" ""
def e0 : Env := launch0.env 0 0 0
theorem w_frames : about1.frames = Frame.invoking theMethod args0 :: below0 := rfl
set_option maxRecDepth 65536 in
theorem w_args : argsFit about1.vm theMethod args0 = true := by decide +kernel
set_option maxRecDepth 65536 in
theorem w_heap : heapFits about1 = true := by decide +kernel
set_option maxRecDepth 65536 in
theorem w_runnable : about1.curStatus? = some .runnable := by decide +kernel
set_option maxRecDepth 65536 in
theorem w_alone : about1.alone = true := by decide +kernel
set_option maxRecDepth 65536 in
theorem w_named : about1.methodNamed? x = some theMethod := by decide +kernel
set_option maxRecDepth 65536 in
theorem w_hears : about1.hears theMethod below0 = true := by decide +kernel
set_option maxRecDepth 65536 in
theorem w_ripe : about1.ripe theMethod args0 below0 = true := by decide +kernel
theorem w_running : about1.status = .running := rfl
set_option maxRecDepth 65536 in
theorem w_room : about1.hasRoom e0.platform room_1 = true :=
  launch0.hasRoom_least _ room_1 (by decide +kernel) (by decide +kernel) (by decide +kernel) (by decide +kernel) (by decide +kernel) (by decide +kernel)
theorem allAtoms_all (ts : List Jvm.Cond) (a : Array Jvm.Value) (st : Jvm.State) : (allAtoms ts).before a st = ts.all (fun c => c.before a st) := by
  induction ts with
  | nil => rfl
  | cons c t ih =>
    show (Jvm.Cond.and c (allAtoms t)).before a st = _
    rw [Jvm.Cond.before_and, ih, List.all_cons]
def words1 : List Jvm.Cond := Jvm.Cond.code x code maxLocals ret :: tables_1
/-- a 'code' word, met by the world's own term for the bytes: nothing is compared byte by byte -/
theorem code_word {y : MethodName} {bytes : ByteArray} {mx : Nat} {rt : Option FieldType} {a : Array Value} {s : State} {m : MethodId} {meth : Method} {c : Code} (h1 : s.methodNamed? y = some m) (h2 : s.vm.method? m = some meth) (h3 : meth.code = some c) (h4 : c.code = bytes)
    (h5 : (c.maxLocals == mx && c.exceptionTable.isEmpty && decide (c.maxStack ≤ mostOperands) && decide (meth.sig.returnType = rt) && !meth.locks && decide (parseMethodDescriptor y.desc = some meth.sig)) = true) : (Jvm.Cond.code y bytes mx rt).before a s = true := by
  simp only [Bool.and_eq_true, beq_iff_eq, Bool.not_eq_true', decide_eq_true_eq] at h5
  obtain ⟨⟨⟨⟨⟨g1, g2⟩, g3⟩, g4⟩, g5⟩, g6⟩ := h5
  simp [Cond.before, Cond.holds, Cond.value, h1, h2, h3, h4, g1, g2, g3, g4, g5, g6]
def isCode : Jvm.Cond → Bool
  | .code _ _ _ _ => true
  | _ => false
theorem all_split {L : List Jvm.Cond} {P : Jvm.Cond → Bool} (h1 : L.all (fun c => isCode c || P c) = true) (h2 : ∀ c ∈ L.filter isCode, P c = true) : L.all P = true := by
  refine List.all_eq_true.mpr fun c hc => ?_
  have h := List.all_eq_true.mp h1 c hc
  rcases Bool.eq_false_or_eq_true (isCode c) with hi | hi
  · exact h2 c (List.mem_filter.mpr ⟨hc, hi⟩)
  · simpa [hi] using h
set_option maxRecDepth 65536 in
theorem w_c0 : (Jvm.Cond.code x code maxLocals ret).before args0 about1 = true := code_word (m := ⟨1, 1⟩) (meth := k1m1) (c := k1c1) (by decide +kernel) rfl rfl rfl (by decide +kernel)
set_option maxRecDepth 65536 in
theorem w_c1 : (Jvm.Cond.code ({ cls := "com/example/strict_distinct/strictdistinct/SipHash", name := "lastWord", desc := "([BIII)J" } : Jvm.MethodName) prog_29_method_7_code (7 : Nat) (Option.some Jvm.ClassFile.FieldType.long)).before args0 about1 = true := code_word (m := ⟨2, 0⟩) (meth := k2m0) (c := k2c0) (by decide +kernel) rfl rfl rfl (by decide +kernel)
def codes1 : List Jvm.Cond := [Jvm.Cond.code x code maxLocals ret, Jvm.Cond.code ({ cls := "com/example/strict_distinct/strictdistinct/SipHash", name := "lastWord", desc := "([BIII)J" } : Jvm.MethodName) prog_29_method_7_code (7 : Nat) (Option.some Jvm.ClassFile.FieldType.long)]
set_option maxRecDepth 65536 in
theorem codes_eq : words1.filter isCode = codes1 := rfl
theorem w_codes : ∀ c ∈ words1.filter isCode, c.before args0 about1 = true := by
  rw [codes_eq]
  intro c hc
  simp only [codes1, List.mem_cons, List.not_mem_nil, or_false] at hc
  rcases hc with rfl | rfl
  · exact w_c0
  · exact w_c1
set_option maxRecDepth 65536 in
theorem w_t1 : words1.all (fun c => isCode c || c.before args0 about1) = true := by decide +kernel
theorem w_tables : (allAtoms (Jvm.Cond.code x code maxLocals ret :: tables_1)).before args0 about1 = true := by
  rw [allAtoms_all]
  show words1.all (fun c => c.before args0 about1) = true
  refine all_split ?_ w_codes
  rw [w_t1]
set_option maxRecDepth 65536 in
theorem w_case : (Jvm.Cond.and given_1 narrow_1).before args0 about1 = true := by decide +kernel
theorem w_applies : (headSpec (Jvm.Cond.code x code maxLocals ret :: tables_1) room_1).applies x e0.platform about1 = true :=
  (Spec.applies_iff w_frames).mpr ⟨w_running, w_runnable, w_alone, w_named, w_hears, w_ripe, w_room, w_tables⟩
theorem atStart : AtStart classFile x code maxLocals ret World_1 tables_1 room_1 Calls_1 rest_1 Pre_1 launch0 p0 e0 about1 theMethod args0 below0 :=
  ⟨lists_1, trivial, launch0.admits_env _ _ _, launch0.least_env, fairChoices_fair.cas, fairChoices_fair.clock, w_frames, w_args, w_heap, w_applies, trivial, trivial, w_case⟩
end start1
theorem witness_1 : WitnessClaimed_1 := ⟨start1.p0, start1.e0, start1.about1, start1.theMethod, start1.args0, start1.below0, start1.atStart⟩
end Jvm.Pilot.@@N@@
