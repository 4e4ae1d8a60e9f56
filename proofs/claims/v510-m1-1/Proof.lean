import JvmDerived
import JvmDerived.Pilot.@@N@@Statement
import JvmDerived.Pilot.@@N@@Code
set_option linter.unusedVariables false
set_option linter.unusedSimpArgs false
namespace Jvm.RoadKit
open Sem ClassFile Op Lib Jvm.Stand Jvm.Free Jvm.LawKit
section New
variable {p : Program} {l : Launch} {e : Env} {R : Room} {s : State} {m : MethodId} {args : Array Value} {below : List Frame} {meth : Method} {c : Code} {T : State} {locs : List Loc} {cells slots : Nat}
theorem retI (X : Stand p l e R s m args below meth c T locs cells slots) (hx : p.tables.exec = Jvm.exec) {pc : Nat} {Ls : Array Slot} {z : Int32} {rest : List Value} (hret : meth.sig.returnType = some .int) (hd : decode c.code pc = .ok (.ireturn, 1)) {fs : List Frame}
    (hl : ∀ (f : JFrame) (acts : List Action), f.method = m → f.locked = none → f.entered = [] → (doReturn e (T.setTop f) acts (some (.int z))).1 = T.setFrames fs) : Steps p.tables e below (T.setTop (mkF m pc Ls (.int z :: rest))) (T.setFrames fs) := by
  have hm' : T.vm.method? m = some meth := X.method'
  have hn : narrow .int (.int z) = .int z := rfl
  show Steps p.tables e below (T.setTop { method := m, pc := pc, locals := Ls, stack := _ :: rest, locked := none }) _
  jvm_step X.here [X.here.top, hx, hd, hm', hret, hn]
  first | (intro acts; rw [hl _ acts rfl rfl rfl]) | rw [hl _ _ rfl rfl rfl]
  exact Steps.refl _
end New
end Jvm.RoadKit
namespace Jvm.Pilot.@@N@@
open Jvm Jvm.ClassFile Sem Op Lib Jvm.Free Jvm.Stand Jvm.LawKit Jvm.RoadKit Bundle Jvm.Pilot.@@N@@.Jvm.D
/-! the own kit: a run told backwards (Runs), arrays by a function of the place (OArr), the comparisons of longs -/
def Runs (tb : Tables) (e : Env) (below : List Frame) (R : State → Outcome → Prop) (T : State) (g : JFrame) : Prop := ∃ t o, Steps tb e below (T.setTop g) t ∧ R t o
section Own
variable {tb : Tables} {e : Env} {below : List Frame} {R : State → Outcome → Prop} {T T' : State} {g g' : JFrame}
theorem Runs.back (k : ∀ t, Steps tb e below (T'.setTop g') t → Steps tb e below (T.setTop g) t) (h : Runs tb e below R T' g') : Runs tb e below R T g := by
  obtain ⟨t, o, h1, h2⟩ := h; exact ⟨t, o, k t h1, h2⟩
theorem Runs.trans (k : Steps tb e below (T.setTop g) (T'.setTop g')) (h : Runs tb e below R T' g') : Runs tb e below R T g := by
  obtain ⟨t, o, h1, h2⟩ := h; exact ⟨t, o, Steps.trans k h1, h2⟩
theorem Runs.enter (q : g = g') (h : Runs tb e below R T g') : ∃ t o, Steps tb e below (T.setTop g) t ∧ R t o := by subst q; exact h
theorem Runs.join {α : Type} {P : α → Prop} {F : α → JFrame} (h : ∀ v, P v → Runs tb e below R T (F v)) (k : (∀ v, P v → Runs tb e below R T (F v)) → Runs tb e below R T g) : Runs tb e below R T g := k h
theorem Runs.joinT {α : Type} {P : α → State → Prop} {F : α → JFrame} (h : ∀ v T', P v T' → Runs tb e below R T' (F v)) (k : (∀ v T', P v T' → Runs tb e below R T' (F v)) → Runs tb e below R T g) : Runs tb e below R T g := k h
theorem lcT {x y : Int64} (h : x < y) : lcmpW x y < 0 := by
  have h1 : ¬ y < x := Int64.not_lt.mpr (Int64.le_of_lt h)
  have h2 : ¬ x = y := fun q => by subst q; exact Int64.lt_irrefl h
  simp [lcmpW, h1, h2]
theorem lcF {x y : Int64} (h : ¬ x < y) : ¬ lcmpW x y < 0 := by
  unfold lcmpW
  by_cases h1 : x > y
  · simp only [if_pos h1]; decide
  · have h2 : x = y := Int64.le_antisymm (Int64.not_lt.mp h1) (Int64.not_lt.mp h)
    simp only [if_neg h1, if_pos h2]; decide
theorem lcT' {x y : Int64} (h : y < x) : 0 < lcmpW x y := by
  unfold lcmpW; rw [if_pos h]; decide
theorem lcF' {x y : Int64} (h : ¬ y < x) : ¬ 0 < lcmpW x y := by
  unfold lcmpW
  have h1 : ¬ x > y := h
  simp only [if_neg h1]
  by_cases h2 : x = y
  · simp only [if_pos h2]; decide
  · simp only [if_neg h2]; decide
theorem lcE {x y : Int64} (h : x = y) : lcmpW x y = 0 := by
  have h1 : ¬ x > y := fun q => by subst h; exact Int64.lt_irrefl q
  unfold lcmpW; rw [if_neg h1, if_pos h]
theorem lcN {x y : Int64} (h : ¬ x = y) : ¬ lcmpW x y = 0 := by
  unfold lcmpW
  by_cases h1 : x > y
  · simp only [if_pos h1]; decide
  · simp only [if_neg h1, if_neg h]; decide
def OArr (Z : State) (h : Heap) (a : Addr) (ty : FieldType) (n : Nat) (f : Nat → Value) : Prop := ∃ c : Cell, Arr Z h a c ty ∧ c.slots.size = n ∧ ∀ i, i < n → c.slots[i]? = some (f i)
variable {Z : State} {h h' : Heap} {a b : Addr} {ty : FieldType} {n sl : Nat} {f : Nat → Value} {v : Value} {ws : List Addr}
theorem OArr.lt (F : OArr Z h a ty n f) : a < h.size := by obtain ⟨c, A, -⟩ := F; exact A.lt
theorem OArr.ext (F : OArr Z h a ty n f) (E : Ext h h') : OArr Z h' a ty n f := by obtain ⟨c, A, r⟩ := F; exact ⟨c, A.ext E, r⟩
theorem OArr.other (F : OArr Z h b ty n f) (W : Wr h h' a sl v) (q : b ≠ a) : OArr Z h' b ty n f := by obtain ⟨c, A, r⟩ := F; exact ⟨c, A.other W q, r⟩
theorem OArr.keep (F : OArr Z h a ty n f) (K : Keep h h' ws) (q : a ∉ ws) : OArr Z h' a ty n f := by obtain ⟨c, A, r⟩ := F; exact ⟨c, ⟨K.2.1 a c A.1 q, A.2⟩, r⟩
theorem OArr.congr (F : OArr Z h a ty n f) {f' : Nat → Value} (q : ∀ i, i < n → f i = f' i) : OArr Z h a ty n f' := by obtain ⟨c, A, r1, r2⟩ := F; exact ⟨c, A, r1, fun i hi => by rw [r2 i hi, q i hi]⟩
theorem OArr.set (F : OArr Z h a ty n f) (W : Wr h h' a sl v) : OArr Z h' a ty n (fun i => if i = sl then v else f i) := by
  obtain ⟨c, A, r1, r2⟩ := F
  obtain ⟨cell, e1, -, e3, -⟩ := id W
  cases e1.symm.trans A.1
  refine ⟨_, A.same W, by rw [sz_set]; exact r1, fun i hi => ?_⟩
  by_cases q : i = sl
  · subst q; simp [Cell.setSlot, e3]
  · simp only [if_neg q]; rw [← r2 i hi]; exact Array.getElem?_setIfInBounds_ne (Ne.symm q)
theorem OArr.new {cA : ClassId} {z : Int32} (A : Arr Z h a (newA cA ty z) ty) (q : z.toNatClampNeg = n) (hd : defaultValue ty = v) : OArr Z h a ty n (fun _ => v) :=
  ⟨_, A, by rw [sz_new]; exact q, fun i hi => by subst hd; simp [newA, q, hi]⟩
theorem inbO {j : Int32} {k : Nat} (ng : ¬ j < 0) (e : j.toNatClampNeg = k) (h : k < n) : ¬ (j < 0 ∨ n ≤ j.toNatClampNeg) := fun q => q.elim ng fun r => by rw [e] at r; exact absurd h (Nat.not_lt.mpr r)
theorem readO {c : Cell} {j : Int32} {k : Nat} (H : ∀ i, i < n → c.slots[i]? = some (f i)) (e : j.toNatClampNeg = k) (h : k < n) (q : f k = v) : c.slots[j.toNatClampNeg]? = some v := by rw [e, H k h, q]
theorem hideL {p : Program} {l : Launch} {R : Room} {s : State} {m : MethodId} {args : Array Value} {meth : Method} {c : Code} {locs : List Loc} {cells slots n0 : Nat} (X : Stand p l e R s m args below meth c T locs cells slots) (N : Fr n0 locs) : ∃ L, Stand p l e R s m args below meth c T L cells slots ∧ Fr n0 L := ⟨_, X, N⟩
theorem lti {x y : Int32} : x < y ↔ x.toInt < y.toInt := Int32.lt_iff_toInt_lt
theorem ltl {x y : Int64} : x < y ↔ x.toInt < y.toInt := Int64.lt_iff_toInt_lt
theorem eqi {x y : Int32} : x = y ↔ x.toInt = y.toInt := Int32.toInt_inj.symm
theorem eql {x y : Int64} : x = y ↔ x.toInt = y.toInt := Int64.toInt_inj.symm
end Own

theorem add32 {x y : Int32} (h1 : -2147483648 ≤ x.toInt + y.toInt) (h2 : x.toInt + y.toInt < 2147483648) : (x + y).toInt = x.toInt + y.toInt := by
  rw [Int32.toInt_add]; exact Int.bmod_eq_of_le (by omega) (by omega)
theorem sub32 {x y : Int32} (h1 : -2147483648 ≤ x.toInt - y.toInt) (h2 : x.toInt - y.toInt < 2147483648) : (x - y).toInt = x.toInt - y.toInt := by
  rw [Int32.toInt_sub]; exact Int.bmod_eq_of_le (by omega) (by omega)
theorem add64 {x y : Int64} (h1 : -9223372036854775808 ≤ x.toInt + y.toInt) (h2 : x.toInt + y.toInt < 9223372036854775808) : (x + y).toInt = x.toInt + y.toInt := by
  rw [Int64.toInt_add]; exact Int.bmod_eq_of_le (by omega) (by omega)
theorem sub64 {x y : Int64} (h1 : -9223372036854775808 ≤ x.toInt - y.toInt) (h2 : x.toInt - y.toInt < 9223372036854775808) : (x - y).toInt = x.toInt - y.toInt := by
  rw [Int64.toInt_sub]; exact Int.bmod_eq_of_le (by omega) (by omega)
theorem l2i' {x : Int64} (h1 : -2147483648 ≤ x.toInt) (h2 : x.toInt < 2147483648) : x.toInt32.toInt = x.toInt := by
  rw [Int64.toInt_toInt32]; exact Int.bmod_eq_of_le (by omega) (by omega)
theorem bd32 (x : Int32) : -2147483648 ≤ x.toInt ∧ x.toInt < 2147483648 := ⟨Int32.le_toInt x, Int32.toInt_lt x⟩
theorem takeE {c e p : Int32} : c.toInt64 < e.toInt64 + p.toInt64 ↔ c.toInt < e.toInt + p.toInt := by
  have b1 := bd32 e; have b2 := bd32 p
  rw [ltl, add64 (by rw [c_i2l, c_i2l]; omega) (by rw [c_i2l, c_i2l]; omega), c_i2l, c_i2l, c_i2l]
theorem takeC {c : Int32} {x y : Int64} (h1 : -9223372036854775808 ≤ x.toInt + y.toInt) (h2 : x.toInt + y.toInt < 9223372036854775808) : c.toInt64 < x + y ↔ c.toInt < x.toInt + y.toInt := by
  rw [ltl, add64 h1 h2, c_i2l]
theorem z32 : (0 : Int32).toInt = 0 := by decide
theorem o32 : (1 : Int32).toInt = 1 := by decide
theorem z64 : (0 : Int64).toInt = 0 := by decide
theorem o64 : (1 : Int64).toInt = 1 := by decide

def hiI (x : Int64) : Int32 := ((x.toUInt64 >>> ((32 : Int32) &&& 0x3f).toInt64.toUInt64).toInt64).toInt32
def entJ (a b : Int32) : Int64 := (a.toInt64 <<< ((32 : Int32) &&& 0x3f).toInt64) ||| b.toInt64
def AddR0 (e u0 : Int64) : Prop := u0 = e
def AddR1 (y0 e u0 u1 : Int64) : Prop := (e < y0 ∧ u0 = e ∧ u1 = y0) ∨ (¬ e < y0 ∧ u0 = y0 ∧ u1 = e)
def AddR2 (y0 y1 e u0 u1 u2 : Int64) : Prop := (e < y0 ∧ u0 = e ∧ u1 = y1 ∧ u2 = y0) ∨ (¬ e < y0 ∧ u0 = y0 ∧ u1 = y1 ∧ u2 = e)
def AddR3 (y0 y1 y2 e u0 u1 u2 u3 : Int64) : Prop := (e < y1 ∧ e < y0 ∧ u0 = e ∧ u1 = y0 ∧ u2 = y2 ∧ u3 = y1) ∨ (e < y1 ∧ ¬ e < y0 ∧ u0 = y0 ∧ u1 = e ∧ u2 = y2 ∧ u3 = y1) ∨ (¬ e < y1 ∧ u0 = y0 ∧ u1 = y1 ∧ u2 = y2 ∧ u3 = e)
def RemR4 (y0 y1 y2 y3 u0 u1 u2 : Int64) : Prop := (y2 < y1 ∧ y2 < y3 ∧ u0 = y2 ∧ u1 = y1 ∧ u2 = y3) ∨ (y2 < y1 ∧ ¬ y2 < y3 ∧ u0 = y3 ∧ u1 = y1 ∧ u2 = y2) ∨ (¬ y2 < y1 ∧ y1 < y3 ∧ u0 = y1 ∧ u1 = y3 ∧ u2 = y2) ∨ (¬ y2 < y1 ∧ ¬ y1 < y3 ∧ u0 = y3 ∧ u1 = y1 ∧ u2 = y2)
def RemR3 (y0 y1 y2 u0 u1 : Int64) : Prop := (y1 < y2 ∧ u0 = y1 ∧ u1 = y2) ∨ (¬ y1 < y2 ∧ u0 = y2 ∧ u1 = y1)
def RemR2 (y0 y1 u0 : Int64) : Prop := u0 = y1
theorem queue_law {e0 e1 e2 e3 u10 u11 u20 u21 u22 u30 u31 u32 u33 w30 w31 w32 x20 x21 z10 : Int64} (d01 : e0.toInt ≠ e1.toInt) (d02 : e0.toInt ≠ e2.toInt) (d03 : e0.toInt ≠ e3.toInt) (d12 : e1.toInt ≠ e2.toInt) (d13 : e1.toInt ≠ e3.toInt) (d23 : e2.toInt ≠ e3.toInt)
    (a1 : AddR1 e0 e1 u10 u11) (a2 : AddR2 u10 u11 e2 u20 u21 u22) (a3 : AddR3 u20 u21 u22 e3 u30 u31 u32 u33) (r4 : RemR4 u30 u31 u32 u33 w30 w31 w32) (r3 : RemR3 w30 w31 w32 x20 x21) (r2 : RemR2 x20 x21 z10) :
    (u30.toInt < w30.toInt ∧ w30.toInt < x20.toInt ∧ x20.toInt < z10.toInt) ∧ (u30 = e0 ∨ u30 = e1 ∨ u30 = e2 ∨ u30 = e3) ∧ (w30 = e0 ∨ w30 = e1 ∨ w30 = e2 ∨ w30 = e3) ∧ (x20 = e0 ∨ x20 = e1 ∨ x20 = e2 ∨ x20 = e3) ∧ (z10 = e0 ∨ z10 = e1 ∨ z10 = e2 ∨ z10 = e3) := by
  unfold RemR2 at r2
  subst r2
  rcases a1 with ⟨c1, rfl, rfl⟩ | ⟨c1, rfl, rfl⟩ <;> rcases a2 with ⟨c2, rfl, rfl, rfl⟩ | ⟨c2, rfl, rfl, rfl⟩ <;>
    rcases a3 with ⟨c3, c4, rfl, rfl, rfl, rfl⟩ | ⟨c3, c4, rfl, rfl, rfl, rfl⟩ | ⟨c3, rfl, rfl, rfl, rfl⟩ <;>
    rcases r4 with ⟨c5, c6, rfl, rfl, rfl⟩ | ⟨c5, c6, rfl, rfl, rfl⟩ | ⟨c5, c6, rfl, rfl, rfl⟩ | ⟨c5, c6, rfl, rfl, rfl⟩ <;>
    rcases r3 with ⟨c7, rfl, rfl⟩ | ⟨c7, rfl, rfl⟩ <;>
    (simp only [ltl] at *; first | omega | (refine ⟨⟨by omega, by omega, by omega⟩, ?_, ?_, ?_, ?_⟩ <;> simp))
theorem ent_val {a b : Int32} (ha : 0 ≤ a.toInt) (hb : 0 ≤ b.toInt) : (entJ a b).toInt = a.toInt * 4294967296 + b.toInt := by
  have p32 : ((2 ^ 32 : Nat) : Int) = 4294967296 := by decide
  have ba := bd32 a; have bb := bd32 b
  have s := c_lshl a.toInt64 32 32 (by decide)
  rw [p32, c_i2l] at s
  have l := Int64.toInt_lt (a.toInt64 <<< ((32 : Int32) &&& 0x3f).toInt64); have l' := Int64.le_toInt (a.toInt64 <<< ((32 : Int32) &&& 0x3f).toInt64)
  have sv : (a.toInt64 <<< ((32 : Int32) &&& 0x3f).toInt64).toInt = a.toInt * 4294967296 := by omega
  have o := c_orL (a.toInt64 <<< ((32 : Int32) &&& 0x3f).toInt64) b.toInt64 32 (by decide) 4294967296 (by decide) (by omega) (by rw [c_i2l]; omega) (by rw [c_i2l]; omega)
  rw [c_i2l, sv] at o
  have k := Int64.toInt_lt (entJ a b); have k' := Int64.le_toInt (entJ a b)
  unfold entJ at *
  omega
theorem ent_hi {a b : Int32} (ha : 0 ≤ a.toInt) (hb : 0 ≤ b.toInt) : hiI (entJ a b) = a := by
  have p32 : ((2 ^ 32 : Nat) : Int) = 4294967296 := by decide
  have ba := bd32 a; have bb := bd32 b
  have v := ent_val ha hb
  have s := c_lushr (entJ a b) 32 32 (by decide) (by decide)
  rw [p32, v] at s
  unfold hiI
  rw [eqi, l2i' (by omega) (by omega), s]
  omega
theorem ent_lo {a b : Int32} (ha : 0 ≤ a.toInt) (hb : 0 ≤ b.toInt) : (entJ a b).toInt32 = b := by
  have ba := bd32 a; have bb := bd32 b
  have v := ent_val ha hb
  have s := c_l2i (entJ a b)
  have t := bd32 (entJ a b).toInt32
  rw [eqi]; omega

def rankF (a b c d : Int32) : Int32 := ((if b < a then (1 : Int32) else (0 : Int32)) + (if c < a then (1 : Int32) else (0 : Int32))) + (if d < a then (1 : Int32) else (0 : Int32))
def pickF (k r0 r1 r2 r3 v0 v1 v2 v3 : Int32) : Int32 := if r0 = k then v0 else if r1 = k then v1 else if r2 = k then v2 else v3
def ct (e t : Int) : Int := if e < t then 1 else 0
def kap (e0 e1 e2 e3 t : Int) : Int := ct e0 t + ct e1 t + ct e2 t + ct e3 t
theorem ct_mono {e s t : Int} (h : s < t) : ct e s ≤ ct e t := by unfold ct; split <;> split <;> omega
theorem ct_self (s : Int) : ct s s = 0 := if_neg (by omega)
theorem ct_pos {s t : Int} (h : s < t) : ct s t = 1 := if_pos h
theorem ct_bd (e t : Int) : 0 ≤ ct e t ∧ ct e t ≤ 1 := by unfold ct; split <;> omega
theorem kap_mono {e0 e1 e2 e3 s t : Int} (h : s < t) (hs : s = e0 ∨ s = e1 ∨ s = e2 ∨ s = e3) : kap e0 e1 e2 e3 s < kap e0 e1 e2 e3 t := by
  have m0 := ct_mono (e := e0) h; have m1 := ct_mono (e := e1) h; have m2 := ct_mono (e := e2) h; have m3 := ct_mono (e := e3) h
  have p := ct_pos h; have q := ct_self s
  unfold kap
  rcases hs with rfl | rfl | rfl | rfl <;> omega
theorem kap_bd {e0 e1 e2 e3 s : Int} (hs : s = e0 ∨ s = e1 ∨ s = e2 ∨ s = e3) : 0 ≤ kap e0 e1 e2 e3 s ∧ kap e0 e1 e2 e3 s ≤ 3 := by
  have m0 := ct_bd e0 s; have m1 := ct_bd e1 s; have m2 := ct_bd e2 s; have m3 := ct_bd e3 s
  have q := ct_self s
  unfold kap
  rcases hs with rfl | rfl | rfl | rfl <;> omega
theorem rank_val (a b c d : Int32) : (rankF a b c d).toInt = ct b.toInt a.toInt + ct c.toInt a.toInt + ct d.toInt a.toInt := by
  unfold rankF ct
  simp only [lti]
  split <;> split <;> split <;> decide
/-- the four of them: nodes and parts, as the law lays them -/
def Four (N0 N1 N2 N3 Q0 Q1 Q2 Q3 : Int32) : Prop := (0 ≤ N0.toInt ∧ N0.toInt % 4 = 0 ∧ 0 ≤ Q0.toInt) ∧ (0 ≤ N1.toInt ∧ N1.toInt % 4 = 1 ∧ 0 ≤ Q1.toInt) ∧ (0 ≤ N2.toInt ∧ N2.toInt % 4 = 2 ∧ 0 ≤ Q2.toInt) ∧ (0 ≤ N3.toInt ∧ N3.toInt % 4 = 3 ∧ 0 ≤ Q3.toInt)
theorem ct_ent {a b p q : Int32} (ha : 0 ≤ a.toInt) (hb : 0 ≤ b.toInt) (hp : 0 ≤ p.toInt) (hq : 0 ≤ q.toInt) (hn : a.toInt % 4 ≠ b.toInt % 4) : ct (entJ a p).toInt (entJ b q).toInt = ct a.toInt b.toInt := by
  have va := ent_val ha hp; have vb := ent_val hb hq
  have p1 := bd32 p; have p2 := bd32 q
  unfold ct
  by_cases h : a.toInt < b.toInt
  · rw [if_pos h, if_pos (by omega)]
  · rw [if_neg h, if_neg (by omega)]
theorem ranks {N0 N1 N2 N3 Q0 Q1 Q2 Q3 : Int32} (F : Four N0 N1 N2 N3 Q0 Q1 Q2 Q3) {K : Int → Int} (hK : K = fun t => kap (entJ N0 Q0).toInt (entJ N1 Q1).toInt (entJ N2 Q2).toInt (entJ N3 Q3).toInt t) :
    (rankF N0 N1 N2 N3).toInt = K (entJ N0 Q0).toInt ∧ (rankF N1 N0 N2 N3).toInt = K (entJ N1 Q1).toInt ∧ (rankF N2 N0 N1 N3).toInt = K (entJ N2 Q2).toInt ∧ (rankF N3 N0 N1 N2).toInt = K (entJ N3 Q3).toInt := by
  obtain ⟨⟨a0, m0, b0⟩, ⟨a1, m1, b1⟩, ⟨a2, m2, b2⟩, ⟨a3, m3, b3⟩⟩ := F
  subst hK
  simp only [kap, rank_val, ct_self]
  rw [ct_ent a1 a0 b1 b0 (by omega), ct_ent a2 a0 b2 b0 (by omega), ct_ent a3 a0 b3 b0 (by omega), ct_ent a0 a1 b0 b1 (by omega), ct_ent a2 a1 b2 b1 (by omega), ct_ent a3 a1 b3 b1 (by omega),
    ct_ent a0 a2 b0 b2 (by omega), ct_ent a1 a2 b1 b2 (by omega), ct_ent a3 a2 b3 b2 (by omega), ct_ent a0 a3 b0 b3 (by omega), ct_ent a1 a3 b1 b3 (by omega), ct_ent a2 a3 b2 b3 (by omega)]
  refine ⟨?_, ?_, ?_, ?_⟩ <;> omega
theorem pick_law {N0 N1 N2 N3 Q0 Q1 Q2 Q3 : Int32} (F : Four N0 N1 N2 N3 Q0 Q1 Q2 Q3) {t : Int64} {i : Int32} {K : Int → Int} (hK : K = fun t => kap (entJ N0 Q0).toInt (entJ N1 Q1).toInt (entJ N2 Q2).toInt (entJ N3 Q3).toInt t)
    (ht : t = entJ N0 Q0 ∨ t = entJ N1 Q1 ∨ t = entJ N2 Q2 ∨ t = entJ N3 Q3) (hi : K t.toInt = i.toInt) :
    hiI t = pickF i (rankF N0 N1 N2 N3) (rankF N1 N0 N2 N3) (rankF N2 N0 N1 N3) (rankF N3 N0 N1 N2) N0 N1 N2 N3 ∧ t.toInt32 = pickF i (rankF N0 N1 N2 N3) (rankF N1 N0 N2 N3) (rankF N2 N0 N1 N3) (rankF N3 N0 N1 N2) Q0 Q1 Q2 Q3 := by
  obtain ⟨r0, r1, r2, r3⟩ := ranks F hK
  have mono : ∀ {s t : Int}, s < t → (s = (entJ N0 Q0).toInt ∨ s = (entJ N1 Q1).toInt ∨ s = (entJ N2 Q2).toInt ∨ s = (entJ N3 Q3).toInt) → K s < K t := fun h hs => by subst hK; exact kap_mono h hs
  clear hK
  obtain ⟨⟨a0, m0, b0⟩, ⟨a1, m1, b1⟩, ⟨a2, m2, b2⟩, ⟨a3, m3, b3⟩⟩ := F
  have v0 := ent_val a0 b0; have v1 := ent_val a1 b1; have v2 := ent_val a2 b2; have v3 := ent_val a3 b3
  have q0 := bd32 Q0; have q1 := bd32 Q1; have q2 := bd32 Q2; have q3 := bd32 Q3
  have inj : ∀ {s t : Int}, s ≠ t → (s = (entJ N0 Q0).toInt ∨ s = (entJ N1 Q1).toInt ∨ s = (entJ N2 Q2).toInt ∨ s = (entJ N3 Q3).toInt) → (t = (entJ N0 Q0).toInt ∨ t = (entJ N1 Q1).toInt ∨ t = (entJ N2 Q2).toInt ∨ t = (entJ N3 Q3).toInt) → K s ≠ K t := fun {s t} h hs ht q => by
    rcases Int.lt_trichotomy s t with z | z | z
    · have := mono z hs; omega
    · exact h z
    · have := mono z ht; omega
  unfold pickF
  rcases ht with rfl | rfl | rfl | rfl
  · have e0 : rankF N0 N1 N2 N3 = i := eqi.mpr (by rw [r0]; exact hi)
    rw [if_pos e0, if_pos e0]; exact ⟨ent_hi a0 b0, ent_lo a0 b0⟩
  · have e1 : rankF N1 N0 N2 N3 = i := eqi.mpr (by rw [r1]; exact hi)
    have n0 : ¬ rankF N0 N1 N2 N3 = i := fun z => inj (s := (entJ N0 Q0).toInt) (t := (entJ N1 Q1).toInt) (by omega) (Or.inl rfl) (Or.inr (Or.inl rfl)) (by rw [← r0, z, hi])
    rw [if_neg n0, if_neg n0, if_pos e1, if_pos e1]; exact ⟨ent_hi a1 b1, ent_lo a1 b1⟩
  · have e2 : rankF N2 N0 N1 N3 = i := eqi.mpr (by rw [r2]; exact hi)
    have n0 : ¬ rankF N0 N1 N2 N3 = i := fun z => inj (s := (entJ N0 Q0).toInt) (t := (entJ N2 Q2).toInt) (by omega) (Or.inl rfl) (Or.inr (Or.inr (Or.inl rfl))) (by rw [← r0, z, hi])
    have n1 : ¬ rankF N1 N0 N2 N3 = i := fun z => inj (s := (entJ N1 Q1).toInt) (t := (entJ N2 Q2).toInt) (by omega) (Or.inr (Or.inl rfl)) (Or.inr (Or.inr (Or.inl rfl))) (by rw [← r1, z, hi])
    rw [if_neg n0, if_neg n0, if_neg n1, if_neg n1, if_pos e2, if_pos e2]; exact ⟨ent_hi a2 b2, ent_lo a2 b2⟩
  · have n0 : ¬ rankF N0 N1 N2 N3 = i := fun z => inj (s := (entJ N0 Q0).toInt) (t := (entJ N3 Q3).toInt) (by omega) (Or.inl rfl) (Or.inr (Or.inr (Or.inr rfl))) (by rw [← r0, z, hi])
    have n1 : ¬ rankF N1 N0 N2 N3 = i := fun z => inj (s := (entJ N1 Q1).toInt) (t := (entJ N3 Q3).toInt) (by omega) (Or.inr (Or.inl rfl)) (Or.inr (Or.inr (Or.inr rfl))) (by rw [← r1, z, hi])
    have n2 : ¬ rankF N2 N0 N1 N3 = i := fun z => inj (s := (entJ N2 Q2).toInt) (t := (entJ N3 Q3).toInt) (by omega) (Or.inr (Or.inr (Or.inl rfl))) (Or.inr (Or.inr (Or.inr rfl))) (by rw [← r2, z, hi])
    rw [if_neg n0, if_neg n0, if_neg n1, if_neg n1, if_neg n2, if_neg n2]; exact ⟨ent_hi a3 b3, ent_lo a3 b3⟩
theorem whole {N0 N1 N2 N3 Q0 Q1 Q2 Q3 : Int32} (F : Four N0 N1 N2 N3 Q0 Q1 Q2 Q3) {u00 u10 u11 u20 u21 u22 u30 u31 u32 u33 w30 w31 w32 x20 x21 z10 : Int64} (a0 : AddR0 (entJ N0 Q0) u00) (a1 : AddR1 u00 (entJ N1 Q1) u10 u11) (a2 : AddR2 u10 u11 (entJ N2 Q2) u20 u21 u22) (a3 : AddR3 u20 u21 u22 (entJ N3 Q3) u30 u31 u32 u33) (r4 : RemR4 u30 u31 u32 u33 w30 w31 w32) (r3 : RemR3 w30 w31 w32 x20 x21) (r2 : RemR2 x20 x21 z10)
    {P : Int32 → Int64 → Prop} (hP : P = fun i t => hiI t = pickF i (rankF N0 N1 N2 N3) (rankF N1 N0 N2 N3) (rankF N2 N0 N1 N3) (rankF N3 N0 N1 N2) N0 N1 N2 N3 ∧ t.toInt32 = pickF i (rankF N0 N1 N2 N3) (rankF N1 N0 N2 N3) (rankF N2 N0 N1 N3) (rankF N3 N0 N1 N2) Q0 Q1 Q2 Q3) : P 0 u30 ∧ P 1 w30 ∧ P 2 x20 ∧ P 3 z10 := by
  unfold AddR0 at a0
  subst a0
  have F' := F
  obtain ⟨⟨c0, m0, b0⟩, ⟨c1, m1, b1⟩, ⟨c2, m2, b2⟩, ⟨c3, m3, b3⟩⟩ := F'
  have v0 := ent_val c0 b0; have v1 := ent_val c1 b1; have v2 := ent_val c2 b2; have v3 := ent_val c3 b3
  have q0 := bd32 Q0; have q1 := bd32 Q1; have q2 := bd32 Q2; have q3 := bd32 Q3
  obtain ⟨⟨s1, s2, s3⟩, h0, h1, h2, h3⟩ := queue_law (by omega) (by omega) (by omega) (by omega) (by omega) (by omega) a1 a2 a3 r4 r3 r2
  have tI : ∀ {t : Int64}, (t = entJ N0 Q0 ∨ t = entJ N1 Q1 ∨ t = entJ N2 Q2 ∨ t = entJ N3 Q3) → (t.toInt = (entJ N0 Q0).toInt ∨ t.toInt = (entJ N1 Q1).toInt ∨ t.toInt = (entJ N2 Q2).toInt ∨ t.toInt = (entJ N3 Q3).toInt) := fun h => h.imp (fun z => by rw [z]) fun h => h.imp (fun z => by rw [z]) fun h => h.imp (fun z => by rw [z]) fun z => by rw [z]
  obtain ⟨K, hK⟩ : ∃ K, K = fun t => kap (entJ N0 Q0).toInt (entJ N1 Q1).toInt (entJ N2 Q2).toInt (entJ N3 Q3).toInt t := ⟨_, rfl⟩
  have k1 : K u30.toInt < K w30.toInt := by rw [hK]; exact kap_mono s1 (tI h0)
  have k2 : K w30.toInt < K x20.toInt := by rw [hK]; exact kap_mono s2 (tI h1)
  have k3 : K x20.toInt < K z10.toInt := by rw [hK]; exact kap_mono s3 (tI h2)
  have k4 : 0 ≤ K u30.toInt := by rw [hK]; exact (kap_bd (tI h0)).1
  have k5 : K z10.toInt ≤ 3 := by rw [hK]; exact (kap_bd (tI h3)).2
  subst hP
  exact ⟨pick_law F hK h0 (by rw [show (0 : Int32).toInt = 0 from by decide]; omega), pick_law F hK h1 (by rw [show (1 : Int32).toInt = 1 from by decide]; omega), pick_law F hK h2 (by rw [show (2 : Int32).toInt = 2 from by decide]; omega), pick_law F hK h3 (by rw [show (3 : Int32).toInt = 3 from by decide]; omega)⟩
theorem mul4 {x : Int32} (h : 0 ≤ x.toInt ∧ x.toInt < 536870912) : (x * (4 : Int32)).toInt = x.toInt * 4 := by
  rw [Int32.toInt_mul, show (4 : Int32).toInt = 4 from by decide]; exact Int.bmod_eq_of_le (by omega) (by omega)
theorem d2_0 : decode prog_22_method_1_code 0 = .ok (.aload_n 0, 1) := by decide +kernel
theorem d2_1 : decode prog_22_method_1_code 1 = .ok (.invokespecial 1, 3) := by decide +kernel
theorem d2_4 : decode prog_22_method_1_code 4 = .ok (.aload_n 0, 1) := by decide +kernel
theorem d2_5 : decode prog_22_method_1_code 5 = .ok (.iload_n 1, 1) := by decide +kernel
theorem d2_6 : decode prog_22_method_1_code 6 = .ok (.newarray .long, 2) := by decide +kernel
theorem d2_8 : decode prog_22_method_1_code 8 = .ok (.putfield 7, 3) := by decide +kernel
theorem d2_11 : decode prog_22_method_1_code 11 = .ok (.return_, 1) := by decide +kernel
theorem pn_2 : plainName "com/example/tradewheel/tradewheel/PartQueue" = true := by first | (simp [plainName, overriddenIn]; done) | decide +kernel
theorem ef_2 (m : MethodId) (r0 : Addr) (p1 : Int32) : entryFrame m #[(.ref r0), (.int p1)] 2 = mkF m 0 #[.val (.ref r0), .val (.int p1)] [] := by first | (simp [entryFrame, mkF, argsToLocals, Value.category]; done) | rfl
def Q2 (Z : State) (r0 : Addr) (p1 : Int32) (v1 v2 : Value) (h0 : Heap) (n0 : Nat) (v : Option Value) (h : Heap) (L : List Loc) : Prop := v = none ∧ Fr n0 L ∧ ∃ b, n0 ≤ b ∧ h0.size ≤ b ∧ Keep h0 h [r0] ∧ Exa Z h r0 "com/example/tradewheel/tradewheel/PartQueue" ∧ Fld Z h r0 "com/example/tradewheel/tradewheel/PartQueue" "heap" "[J" (.ref b) ∧ Fld Z h r0 "com/example/tradewheel/tradewheel/PartQueue" "size" "I" v2 ∧ OArr Z h b .long 4 (fun _ => (Value.long (0 : Int64)))
set_option maxRecDepth 65536 in
set_option maxHeartbeats 40000000 in
theorem rm2 (l : Launch) (Z : State) (a0 : Array Value) (hw : ∀ d ∈ tables_1, d.before a0 Z = true) (ws : List Jvm.Cond) (r0 : Addr) (p1 : Int32) (v1 v2 : Value) (h0 : Heap) (n0 : Nat) (Z0 : n0 ≤ h0.size) (E_r0 : Exa Z h0 r0 "com/example/tradewheel/tradewheel/PartQueue") (F1 : Fld Z h0 r0 "com/example/tradewheel/tradewheel/PartQueue" "heap" "[J" v1) (F2 : Fld Z h0 r0 "com/example/tradewheel/tradewheel/PartQueue" "size" "I" v2) (g_r0 : n0 ≤ r0) (hp : p1 = (4 : Int32)) :
    MetFree l (⟨"com/example/tradewheel/tradewheel/PartQueue", "<init>", "(I)V"⟩ : MethodName) (head1 (Jvm.Cond.code (⟨"com/example/tradewheel/tradewheel/PartQueue", "<init>", "(I)V"⟩ : MethodName) prog_22_method_1_code 2 none :: ws) ({ frames := 1, cells := 1, slots := 4, locals := 12 } : Room)) (fun a U => a = #[(.ref r0), (.int p1)] ∧ Z.Warmed39 U.vm ∧ U.heap = h0) (fun _ _ _ _ _ => True) (fun _ U o U' => ∃ v L, o = .returned v ∧ Q2 Z r0 p1 v1 v2 h0 n0 v U'.heap L ∧ FrameEnd U o U' L ({ frames := 1, cells := 1, slots := 4, locals := 12 } : Room).cells ({ frames := 1, cells := 1, slots := 4, locals := 12 } : Room).slots) := by
  refine MetFree.of_bodySF (plainFor_of_name pn_2) hisR ?_
  intro p e s m args below meth c s₁ Bd hml0 hP hK
  obtain ⟨rfl, hZ, hh⟩ := hP
  have hx := Bd.exec
  have hby := Bd.bytes
  have hml : c.maxLocals = 2 := hml0
  have hown : s.vm.findClass "com/example/tradewheel/tradewheel/PartQueue" = some m.cls := findClass_of_methodNamed Bd.named
  have hnm := (name_of_methodNamed Bd.named Bd.method).1
  have X0 : Stand p l e ({ frames := 1, cells := 1, slots := 4, locals := 12 } : Room) s m #[(.ref r0), (.int p1)] below meth c s₁ [] 0 0 := Stand.of_body Bd
  have e0 : s₁.heap = h0 := by rw [← hh, Bd.state]; rfl
  have N0 := Fr.nil n0
  refine Runs.enter (ef_2 m r0 p1) ?_
  show Runs _ _ _ _ s₁ (mkF m 0 #[.val (.ref r0), .val (.int p1)] [])
  refine Runs.back (fun t_ k_ => XS.aloadN X0.here hx rfl (hb hby d2_0) rfl rfl k_) ?_
  show Runs _ _ _ _ s₁ (mkF m 1 #[.val (.ref r0), .val (.int p1)] [(.ref r0)])
  obtain ⟨T1, X1, e1, st1⟩ := initO X0 hx hZ hown (hw _ (List.mem_of_getElem? (i := 11) rfl)) (hw _ (List.mem_of_getElem? (i := 12) rfl)) (hw _ (List.mem_of_getElem? (i := 13) rfl)) e0 (g := (mkF m 1 #[.val (.ref r0), .val (.int p1)] [(.ref r0)])) rfl (by rw [hml]; rfl) rfl (hb hby d2_1) (by decide) (W := 0) (by show 2 * 0 + _ ≤ _; exact Nat.le_of_eq rfl) (by decide)
  refine Runs.back st1 ?_
  show Runs _ _ _ _ T1 (mkF m 4 #[.val (.ref r0), .val (.int p1)] [])
  refine Runs.back (fun t_ k_ => XS.aloadN X1.here hx rfl (hb hby d2_4) rfl rfl k_) ?_
  show Runs _ _ _ _ T1 (mkF m 5 #[.val (.ref r0), .val (.int p1)] [(.ref r0)])
  refine Runs.back (fun t_ k_ => XS.iloadN X1.here hx rfl (hb hby d2_5) rfl k_) ?_
  show Runs _ _ _ _ T1 (mkF m 6 #[.val (.ref r0), .val (.int p1)] [(.int p1), (.ref r0)])
  obtain ⟨T2, h2, k2, X2, e2, E2, A2, st2⟩ := newP X1 hx hZ (hw _ (List.mem_of_getElem? (i := 14) rfl)) e1 (g := (mkF m 6 #[.val (.ref r0), .val (.int p1)] [(.int p1), (.ref r0)])) rfl (hb hby d2_6) rfl (by rw [hp]; decide) (cap := 4) (by rw [hp]; decide) (by decide) (by decide) (by decide)
  obtain ⟨ob2, g2⟩ : ∃ z, z = h0.size := ⟨_, rfl⟩
  rw [← g2] at A2 st2
  have g_ob2 : n0 ≤ ob2 := Nat.le_trans (Z0) (Nat.le_of_eq g2.symm)
  have sz_ob2 : h0.size ≤ ob2 := Nat.le_trans (Keep.refl h0 [r0]).1 (Nat.le_of_eq g2.symm)
  have ne_r0_ob2 : r0 ≠ ob2 := Nat.ne_of_lt (Nat.lt_of_lt_of_le E_r0.lt (Nat.le_of_eq g2.symm))
  have f2_Exa_0 : Exa Z h2 r0 "com/example/tradewheel/tradewheel/PartQueue" := Exa.ext E2 E_r0
  have f2_Fld_1 : Fld Z h2 r0 "com/example/tradewheel/tradewheel/PartQueue" "heap" "[J" v1 := Fld.ext E2 F1
  have f2_Fld_2 : Fld Z h2 r0 "com/example/tradewheel/tradewheel/PartQueue" "size" "I" v2 := Fld.ext E2 F2
  have Z2 : n0 ≤ h2.size := Nat.le_trans (Z0) E2.1
  have KK2 : Keep h0 h2 [r0] := Keep.ext (Keep.refl h0 [r0]) E2
  have V2 : OArr Z h2 ob2 .long 4 (fun _ => (Value.long (0 : Int64))) := OArr.new A2 (by rw [hp]; decide) rfl
  refine Runs.back st2 ?_
  show Runs _ _ _ _ T2 (mkF m 8 #[.val (.ref r0), .val (.int p1)] [(.ref ob2), (.ref r0)])
  obtain ⟨T3, h3, X3, e3, W3, st3⟩ := putF X2 hx hZ hown (host := "") (Or.inl (hw _ (List.mem_of_getElem? (i := 15) rfl))) Via.refl e2 f2_Fld_1 f2_Exa_0 (Or.inr ⟨(hw _ (List.mem_of_getElem? (i := 16) rfl)), rfl, hnm⟩) (hw _ (List.mem_of_getElem? (i := 6) rfl)) (ty := (.array .long)) (by decide) rfl rfl (g := (mkF m 8 #[.val (.ref r0), .val (.int p1)] [(.ref ob2), (.ref r0)])) rfl rfl (hb hby d2_8)
  have f3_Exa_0 : Exa Z h3 r0 "com/example/tradewheel/tradewheel/PartQueue" := Exa.wr W3 f2_Exa_0
  have f3_Fld_1 : Fld Z h3 r0 "com/example/tradewheel/tradewheel/PartQueue" "heap" "[J" (.ref ob2) := Fld.same W3 f2_Fld_1
  have f3_Fld_2 : Fld Z h3 r0 "com/example/tradewheel/tradewheel/PartQueue" "size" "I" v2 := Fld.other W3 f2_Fld_2 (Or.inr (slot_ne (Or.inl (hw _ (List.mem_of_getElem? (i := 23) rfl))) (Or.inr (hw _ (List.mem_of_getElem? (i := 16) rfl))) (by decide) (t := .int) (t' := (.array .long)) (by decide) (by decide)))
  have f3_Arr_3 : OArr Z h3 ob2 .long 4 (fun _ => (Value.long (0 : Int64))) := V2.other W3 (Ne.symm ne_r0_ob2)
  have N3 := Fr.snoc X3 N0 g_r0
  obtain ⟨L3, X3, N3⟩ := hideL X3 N3
  have KK3 : Keep h0 h3 [r0] := Keep.wr KK2 W3 (Or.inl (List.mem_of_getElem? (i := 0) rfl))
  have Z3 : n0 ≤ h3.size := Nat.le_trans (Z2) (Nat.le_of_eq W3.size.symm)
  refine Runs.back st3 ?_
  show Runs _ _ _ _ T3 (mkF m 11 #[.val (.ref r0), .val (.int p1)] [])
  obtain ⟨fs, hr, hrun, hended, hW, hsame⟩ := X3.leave (v := none) (fun _ => rfl)
  exact ⟨_, _, (X3.returnOut hx Bd.returns (hb hby d2_11) hr), hrun, hended, _, _, rfl, (by show Q2 Z r0 p1 v1 v2 h0 n0 _ T3.heap _; rw [e3]; exact ⟨rfl, N3, ob2, g_ob2, sz_ob2, KK3, f3_Exa_0, f3_Fld_1, f3_Fld_2, f3_Arr_3⟩), ⟨_, rfl⟩, hW, hsame.mono (by decide) (by decide)⟩
theorem d4_0 : decode prog_22_method_2_code 0 = .ok (.aload_n 0, 1) := by decide +kernel
theorem d4_1 : decode prog_22_method_2_code 1 = .ok (.dup, 1) := by decide +kernel
theorem d4_2 : decode prog_22_method_2_code 2 = .ok (.getfield 13, 3) := by decide +kernel
theorem d4_5 : decode prog_22_method_2_code 5 = .ok (.dup_x1, 1) := by decide +kernel
theorem d4_6 : decode prog_22_method_2_code 6 = .ok (.iconst 1, 1) := by decide +kernel
theorem d4_7 : decode prog_22_method_2_code 7 = .ok (.iadd, 1) := by decide +kernel
theorem d4_8 : decode prog_22_method_2_code 8 = .ok (.putfield 13, 3) := by decide +kernel
theorem d4_11 : decode prog_22_method_2_code 11 = .ok (.istore_n 3, 1) := by decide +kernel
theorem d4_12 : decode prog_22_method_2_code 12 = .ok (.iload_n 1, 1) := by decide +kernel
theorem d4_13 : decode prog_22_method_2_code 13 = .ok (.i2l, 1) := by decide +kernel
theorem d4_14 : decode prog_22_method_2_code 14 = .ok (.bipush 32, 2) := by decide +kernel
theorem d4_16 : decode prog_22_method_2_code 16 = .ok (.lshl, 1) := by decide +kernel
theorem d4_17 : decode prog_22_method_2_code 17 = .ok (.iload_n 2, 1) := by decide +kernel
theorem d4_18 : decode prog_22_method_2_code 18 = .ok (.i2l, 1) := by decide +kernel
theorem d4_19 : decode prog_22_method_2_code 19 = .ok (.lor, 1) := by decide +kernel
theorem d4_20 : decode prog_22_method_2_code 20 = .ok (.lstore 4, 2) := by decide +kernel
theorem d4_22 : decode prog_22_method_2_code 22 = .ok (.iload_n 3, 1) := by decide +kernel
theorem d4_23 : decode prog_22_method_2_code 23 = .ok (.ifCond .le 44, 3) := by decide +kernel
theorem d4_26 : decode prog_22_method_2_code 26 = .ok (.aload_n 0, 1) := by decide +kernel
theorem d4_27 : decode prog_22_method_2_code 27 = .ok (.getfield 7, 3) := by decide +kernel
theorem d4_30 : decode prog_22_method_2_code 30 = .ok (.iload_n 3, 1) := by decide +kernel
theorem d4_31 : decode prog_22_method_2_code 31 = .ok (.iconst 1, 1) := by decide +kernel
theorem d4_32 : decode prog_22_method_2_code 32 = .ok (.isub, 1) := by decide +kernel
theorem d4_33 : decode prog_22_method_2_code 33 = .ok (.iconst 2, 1) := by decide +kernel
theorem d4_34 : decode prog_22_method_2_code 34 = .ok (.idiv, 1) := by decide +kernel
theorem d4_35 : decode prog_22_method_2_code 35 = .ok (.laload, 1) := by decide +kernel
theorem d4_36 : decode prog_22_method_2_code 36 = .ok (.lload 4, 2) := by decide +kernel
theorem d4_38 : decode prog_22_method_2_code 38 = .ok (.lcmp, 1) := by decide +kernel
theorem d4_39 : decode prog_22_method_2_code 39 = .ok (.ifCond .le 28, 3) := by decide +kernel
theorem d4_42 : decode prog_22_method_2_code 42 = .ok (.aload_n 0, 1) := by decide +kernel
theorem d4_43 : decode prog_22_method_2_code 43 = .ok (.getfield 7, 3) := by decide +kernel
theorem d4_46 : decode prog_22_method_2_code 46 = .ok (.iload_n 3, 1) := by decide +kernel
theorem d4_47 : decode prog_22_method_2_code 47 = .ok (.aload_n 0, 1) := by decide +kernel
theorem d4_48 : decode prog_22_method_2_code 48 = .ok (.getfield 7, 3) := by decide +kernel
theorem d4_51 : decode prog_22_method_2_code 51 = .ok (.iload_n 3, 1) := by decide +kernel
theorem d4_52 : decode prog_22_method_2_code 52 = .ok (.iconst 1, 1) := by decide +kernel
theorem d4_53 : decode prog_22_method_2_code 53 = .ok (.isub, 1) := by decide +kernel
theorem d4_54 : decode prog_22_method_2_code 54 = .ok (.iconst 2, 1) := by decide +kernel
theorem d4_55 : decode prog_22_method_2_code 55 = .ok (.idiv, 1) := by decide +kernel
theorem d4_56 : decode prog_22_method_2_code 56 = .ok (.laload, 1) := by decide +kernel
theorem d4_57 : decode prog_22_method_2_code 57 = .ok (.lastore, 1) := by decide +kernel
theorem d4_58 : decode prog_22_method_2_code 58 = .ok (.iload_n 3, 1) := by decide +kernel
theorem d4_59 : decode prog_22_method_2_code 59 = .ok (.iconst 1, 1) := by decide +kernel
theorem d4_60 : decode prog_22_method_2_code 60 = .ok (.isub, 1) := by decide +kernel
theorem d4_61 : decode prog_22_method_2_code 61 = .ok (.iconst 2, 1) := by decide +kernel
theorem d4_62 : decode prog_22_method_2_code 62 = .ok (.idiv, 1) := by decide +kernel
theorem d4_63 : decode prog_22_method_2_code 63 = .ok (.istore_n 3, 1) := by decide +kernel
theorem d4_64 : decode prog_22_method_2_code 64 = .ok (.goto (-42), 3) := by decide +kernel
theorem d4_67 : decode prog_22_method_2_code 67 = .ok (.aload_n 0, 1) := by decide +kernel
theorem d4_68 : decode prog_22_method_2_code 68 = .ok (.getfield 7, 3) := by decide +kernel
theorem d4_71 : decode prog_22_method_2_code 71 = .ok (.iload_n 3, 1) := by decide +kernel
theorem d4_72 : decode prog_22_method_2_code 72 = .ok (.lload 4, 2) := by decide +kernel
theorem d4_74 : decode prog_22_method_2_code 74 = .ok (.lastore, 1) := by decide +kernel
theorem d4_75 : decode prog_22_method_2_code 75 = .ok (.return_, 1) := by decide +kernel
theorem pn_4s0 : plainName "com/example/tradewheel/tradewheel/PartQueue" = true := by first | (simp [plainName, overriddenIn]; done) | decide +kernel
theorem ef_4s0 (m : MethodId) (r0 : Addr) (p1 : Int32) (p2 : Int32) : entryFrame m #[(.ref r0), (.int p1), (.int p2)] 6 = mkF m 0 #[.val (.ref r0), .val (.int p1), .val (.int p2), .unset, .unset, .unset] [] := by first | (simp [entryFrame, mkF, argsToLocals, Value.category]; done) | rfl
def Q4s0 (Z : State) (r0 : Addr) (p1 : Int32) (p2 : Int32) (arr : Addr) (fb : Nat → Value) (h0 : Heap) (n0 : Nat) (v : Option Value) (h : Heap) (L : List Loc) : Prop := v = none ∧ Fr n0 L ∧ Keep h0 h [r0, arr] ∧ Exa Z h r0 "com/example/tradewheel/tradewheel/PartQueue" ∧ Fld Z h r0 "com/example/tradewheel/tradewheel/PartQueue" "heap" "[J" (.ref arr) ∧ Fld Z h r0 "com/example/tradewheel/tradewheel/PartQueue" "size" "I" (.int (1 : Int32)) ∧ ∃ (f : Nat → Value) (u0 : Int64), OArr Z h arr .long 4 f ∧ f 0 = .long u0 ∧ AddR0  (entJ p1 p2) u0
set_option maxRecDepth 65536 in
set_option maxHeartbeats 40000000 in
theorem rm4s0 (l : Launch) (Z : State) (a0 : Array Value) (hw : ∀ d ∈ tables_1, d.before a0 Z = true) (ws : List Jvm.Cond) (r0 : Addr) (p1 : Int32) (p2 : Int32) (arr : Addr) (fb : Nat → Value) (h0 : Heap) (n0 : Nat) (Z0 : n0 ≤ h0.size) (E_r0 : Exa Z h0 r0 "com/example/tradewheel/tradewheel/PartQueue") (F1 : Fld Z h0 r0 "com/example/tradewheel/tradewheel/PartQueue" "heap" "[J" (.ref arr)) (F2 : Fld Z h0 r0 "com/example/tradewheel/tradewheel/PartQueue" "size" "I" (.int (0 : Int32))) (A1 : OArr Z h0 arr .long 4 fb) (ne_r0_arr : r0 ≠ arr) (g_r0 : n0 ≤ r0) (g_arr : n0 ≤ arr) :
    MetFree l (⟨"com/example/tradewheel/tradewheel/PartQueue", "add", "(II)V"⟩ : MethodName) (head1 (Jvm.Cond.code (⟨"com/example/tradewheel/tradewheel/PartQueue", "add", "(II)V"⟩ : MethodName) prog_22_method_2_code 6 none :: ws) ({ frames := 0, cells := 0, slots := 0, locals := 0 } : Room)) (fun a U => a = #[(.ref r0), (.int p1), (.int p2)] ∧ Z.Warmed39 U.vm ∧ U.heap = h0) (fun _ _ _ _ _ => True) (fun _ U o U' => ∃ v L, o = .returned v ∧ Q4s0 Z r0 p1 p2 arr fb h0 n0 v U'.heap L ∧ FrameEnd U o U' L ({ frames := 0, cells := 0, slots := 0, locals := 0 } : Room).cells ({ frames := 0, cells := 0, slots := 0, locals := 0 } : Room).slots) := by
  refine MetFree.of_bodySF (plainFor_of_name pn_4s0) hisR ?_
  intro p e s m args below meth c s₁ Bd hml0 hP hK
  obtain ⟨rfl, hZ, hh⟩ := hP
  have hx := Bd.exec
  have hby := Bd.bytes
  have hml : c.maxLocals = 6 := hml0
  have hown : s.vm.findClass "com/example/tradewheel/tradewheel/PartQueue" = some m.cls := findClass_of_methodNamed Bd.named
  have hnm := (name_of_methodNamed Bd.named Bd.method).1
  have X0 : Stand p l e ({ frames := 0, cells := 0, slots := 0, locals := 0 } : Room) s m #[(.ref r0), (.int p1), (.int p2)] below meth c s₁ [] 0 0 := Stand.of_body Bd
  have e0 : s₁.heap = h0 := by rw [← hh, Bd.state]; rfl
  have N0 := Fr.nil n0
  refine Runs.enter (ef_4s0 m r0 p1 p2) ?_
  show Runs _ _ _ _ s₁ (mkF m 0 #[.val (.ref r0), .val (.int p1), .val (.int p2), .unset, .unset, .unset] [])
  refine Runs.back (fun t_ k_ => XS.aloadN X0.here hx rfl (hb hby d4_0) rfl rfl k_) ?_
  show Runs _ _ _ _ s₁ (mkF m 1 #[.val (.ref r0), .val (.int p1), .val (.int p2), .unset, .unset, .unset] [(.ref r0)])
  refine Runs.back (fun t_ k_ => XS.dup X0.here hx rfl (hb hby d4_1) rfl rfl k_) ?_
  show Runs _ _ _ _ s₁ (mkF m 2 #[.val (.ref r0), .val (.int p1), .val (.int p2), .unset, .unset, .unset] [(.ref r0), (.ref r0)])
  obtain ⟨T1, X1, e1, st1⟩ := getF X0 hx hZ hown (host := "") (Or.inl (hw _ (List.mem_of_getElem? (i := 22) rfl))) Via.refl e0 F2 (g := (mkF m 2 #[.val (.ref r0), .val (.int p1), .val (.int p2), .unset, .unset, .unset] [(.ref r0), (.ref r0)])) rfl rfl (hb hby d4_2)
  refine Runs.back st1 ?_
  show Runs _ _ _ _ T1 (mkF m 5 #[.val (.ref r0), .val (.int p1), .val (.int p2), .unset, .unset, .unset] [(.int (0 : Int32)), (.ref r0)])
  refine Runs.back (fun t_ k_ => XS.dupX1 X1.here hx rfl (hb hby d4_5) rfl rfl rfl k_) ?_
  show Runs _ _ _ _ T1 (mkF m 6 #[.val (.ref r0), .val (.int p1), .val (.int p2), .unset, .unset, .unset] [(.int (0 : Int32)), (.ref r0), (.int (0 : Int32))])
  refine Runs.back (fun t_ k_ => XS.iconst X1.here hx rfl (hb hby d4_6) k_) ?_
  show Runs _ _ _ _ T1 (mkF m 7 #[.val (.ref r0), .val (.int p1), .val (.int p2), .unset, .unset, .unset] [(.int (1 : Int32)), (.int (0 : Int32)), (.ref r0), (.int (0 : Int32))])
  refine Runs.back (fun t_ k_ => XS.iadd X1.here hx rfl (hb hby d4_7) rfl k_) ?_
  show Runs _ _ _ _ T1 (mkF m 8 #[.val (.ref r0), .val (.int p1), .val (.int p2), .unset, .unset, .unset] [(.int ((0 : Int32) + (1 : Int32))), (.ref r0), (.int (0 : Int32))])
  rw [show ((0 : Int32) + (1 : Int32)) = (1 : Int32) from by decide]
  show Runs _ _ _ _ T1 (mkF m 8 #[.val (.ref r0), .val (.int p1), .val (.int p2), .unset, .unset, .unset] [(.int (1 : Int32)), (.ref r0), (.int (0 : Int32))])
  obtain ⟨T2, h2, X2, e2, W2, st2⟩ := putF X1 hx hZ hown (host := "") (Or.inl (hw _ (List.mem_of_getElem? (i := 22) rfl))) Via.refl e1 F2 E_r0 (Or.inl (hw _ (List.mem_of_getElem? (i := 23) rfl))) (hw _ (List.mem_of_getElem? (i := 6) rfl)) (ty := .int) (by decide) rfl rfl (g := (mkF m 8 #[.val (.ref r0), .val (.int p1), .val (.int p2), .unset, .unset, .unset] [(.int (1 : Int32)), (.ref r0), (.int (0 : Int32))])) rfl rfl (hb hby d4_8)
  have f2_Exa_0 : Exa Z h2 r0 "com/example/tradewheel/tradewheel/PartQueue" := Exa.wr W2 E_r0
  have f2_Fld_1 : Fld Z h2 r0 "com/example/tradewheel/tradewheel/PartQueue" "heap" "[J" (.ref arr) := Fld.other W2 F1 (Or.inr (slot_ne (Or.inr (hw _ (List.mem_of_getElem? (i := 16) rfl))) (Or.inl (hw _ (List.mem_of_getElem? (i := 23) rfl))) (by decide) (t := (.array .long)) (t' := .int) (by decide) (by decide)))
  have f2_Fld_2 : Fld Z h2 r0 "com/example/tradewheel/tradewheel/PartQueue" "size" "I" (.int (1 : Int32)) := Fld.same W2 F2
  have f2_Arr_3 : OArr Z h2 arr .long 4 fb := A1.other W2 (Ne.symm ne_r0_arr)
  have N2 := Fr.snoc X2 N0 g_r0
  obtain ⟨L2, X2, N2⟩ := hideL X2 N2
  have KK2 : Keep h0 h2 [r0, arr] := Keep.wr (Keep.refl h0 [r0, arr]) W2 (Or.inl (List.mem_of_getElem? (i := 0) rfl))
  have Z2 : n0 ≤ h2.size := Nat.le_trans (Z0) (Nat.le_of_eq W2.size.symm)
  refine Runs.back st2 ?_
  show Runs _ _ _ _ T2 (mkF m 11 #[.val (.ref r0), .val (.int p1), .val (.int p2), .unset, .unset, .unset] [(.int (0 : Int32))])
  refine Runs.back (fun t_ k_ => XS.istoreN X2.here hx rfl (hb hby d4_11) rfl (l' := #[.val (.ref r0), .val (.int p1), .val (.int p2), .val (.int (0 : Int32)), .unset, .unset]) rfl k_) ?_
  show Runs _ _ _ _ T2 (mkF m 12 #[.val (.ref r0), .val (.int p1), .val (.int p2), .val (.int (0 : Int32)), .unset, .unset] [])
  refine Runs.back (fun t_ k_ => XS.iloadN X2.here hx rfl (hb hby d4_12) rfl k_) ?_
  show Runs _ _ _ _ T2 (mkF m 13 #[.val (.ref r0), .val (.int p1), .val (.int p2), .val (.int (0 : Int32)), .unset, .unset] [(.int p1)])
  refine Runs.back (fun t_ k_ => XS.i2l X2.here hx rfl (hb hby d4_13) rfl k_) ?_
  show Runs _ _ _ _ T2 (mkF m 14 #[.val (.ref r0), .val (.int p1), .val (.int p2), .val (.int (0 : Int32)), .unset, .unset] [(.long (p1.toInt64))])
  refine Runs.back (fun t_ k_ => XS.bipush X2.here hx rfl (hb hby d4_14) k_) ?_
  show Runs _ _ _ _ T2 (mkF m 16 #[.val (.ref r0), .val (.int p1), .val (.int p2), .val (.int (0 : Int32)), .unset, .unset] [(.int (32 : Int32)), (.long (p1.toInt64))])
  refine Runs.back (fun t_ k_ => XS.lshl X2.here hx rfl (hb hby d4_16) rfl k_) ?_
  show Runs _ _ _ _ T2 (mkF m 17 #[.val (.ref r0), .val (.int p1), .val (.int p2), .val (.int (0 : Int32)), .unset, .unset] [(.long ((p1.toInt64) <<< ((32 : Int32) &&& 0x3f).toInt64))])
  refine Runs.back (fun t_ k_ => XS.iloadN X2.here hx rfl (hb hby d4_17) rfl k_) ?_
  show Runs _ _ _ _ T2 (mkF m 18 #[.val (.ref r0), .val (.int p1), .val (.int p2), .val (.int (0 : Int32)), .unset, .unset] [(.int p2), (.long ((p1.toInt64) <<< ((32 : Int32) &&& 0x3f).toInt64))])
  refine Runs.back (fun t_ k_ => XS.i2l X2.here hx rfl (hb hby d4_18) rfl k_) ?_
  show Runs _ _ _ _ T2 (mkF m 19 #[.val (.ref r0), .val (.int p1), .val (.int p2), .val (.int (0 : Int32)), .unset, .unset] [(.long (p2.toInt64)), (.long ((p1.toInt64) <<< ((32 : Int32) &&& 0x3f).toInt64))])
  refine Runs.back (fun t_ k_ => XS.lor X2.here hx rfl (hb hby d4_19) rfl k_) ?_
  show Runs _ _ _ _ T2 (mkF m 20 #[.val (.ref r0), .val (.int p1), .val (.int p2), .val (.int (0 : Int32)), .unset, .unset] [(.long (((p1.toInt64) <<< ((32 : Int32) &&& 0x3f).toInt64) ||| (p2.toInt64)))])
  rw [show (((p1.toInt64) <<< ((32 : Int32) &&& 0x3f).toInt64) ||| (p2.toInt64)) = entJ p1 p2 from rfl]
  show Runs _ _ _ _ T2 (mkF m 20 #[.val (.ref r0), .val (.int p1), .val (.int p2), .val (.int (0 : Int32)), .unset, .unset] [(.long (entJ p1 p2))])
  refine Runs.back (fun t_ k_ => XS.lstore X2.here hx rfl (hb hby d4_20) rfl (l' := #[.val (.ref r0), .val (.int p1), .val (.int p2), .val (.int (0 : Int32)), .val (.long (entJ p1 p2)), .second]) rfl k_) ?_
  show Runs _ _ _ _ T2 (mkF m 22 #[.val (.ref r0), .val (.int p1), .val (.int p2), .val (.int (0 : Int32)), .val (.long (entJ p1 p2)), .second] [])
  refine Runs.back (fun t_ k_ => XS.iloadN X2.here hx rfl (hb hby d4_22) rfl k_) ?_
  show Runs _ _ _ _ T2 (mkF m 23 #[.val (.ref r0), .val (.int p1), .val (.int p2), .val (.int (0 : Int32)), .val (.long (entJ p1 p2)), .second] [(.int (0 : Int32))])
  refine Runs.back (fun t_ k_ => XS.ifYes X2.here hx rfl (pc0 := 23) (pc' := 67) rfl (hb hby d4_23) rfl ((if0 _ _).trans (flt (show ¬ ((0 : Int32) < (0 : Int32)) from (by decide))).2.2.2) (by decide) (by decide) k_) ?_
  show Runs _ _ _ _ T2 (mkF m 67 #[.val (.ref r0), .val (.int p1), .val (.int p2), .val (.int (0 : Int32)), .val (.long (entJ p1 p2)), .second] [])
  refine Runs.back (fun t_ k_ => XS.aloadN X2.here hx rfl (hb hby d4_67) rfl rfl k_) ?_
  show Runs _ _ _ _ T2 (mkF m 68 #[.val (.ref r0), .val (.int p1), .val (.int p2), .val (.int (0 : Int32)), .val (.long (entJ p1 p2)), .second] [(.ref r0)])
  obtain ⟨T3, X3, e3, st3⟩ := getF X2 hx hZ hown (host := "") (Or.inl (hw _ (List.mem_of_getElem? (i := 15) rfl))) Via.refl e2 f2_Fld_1 (g := (mkF m 68 #[.val (.ref r0), .val (.int p1), .val (.int p2), .val (.int (0 : Int32)), .val (.long (entJ p1 p2)), .second] [(.ref r0)])) rfl rfl (hb hby d4_68)
  refine Runs.back st3 ?_
  show Runs _ _ _ _ T3 (mkF m 71 #[.val (.ref r0), .val (.int p1), .val (.int p2), .val (.int (0 : Int32)), .val (.long (entJ p1 p2)), .second] [(.ref arr)])
  refine Runs.back (fun t_ k_ => XS.iloadN X3.here hx rfl (hb hby d4_71) rfl k_) ?_
  show Runs _ _ _ _ T3 (mkF m 72 #[.val (.ref r0), .val (.int p1), .val (.int p2), .val (.int (0 : Int32)), .val (.long (entJ p1 p2)), .second] [(.int (0 : Int32)), (.ref arr)])
  refine Runs.back (fun t_ k_ => XS.lload X3.here hx rfl (hb hby d4_72) rfl k_) ?_
  show Runs _ _ _ _ T3 (mkF m 74 #[.val (.ref r0), .val (.int p1), .val (.int p2), .val (.int (0 : Int32)), .val (.long (entJ p1 p2)), .second] [(.long (entJ p1 p2)), (.int (0 : Int32)), (.ref arr)])
  obtain ⟨cl4, Ar4, S4, Hs4⟩ := id f2_Arr_3
  obtain ⟨T4, h4, X4, e4, W4, st4⟩ := stJ X3 hx hZ e3 Ar4 (j := (0 : Int32)) (by rw [S4]; exact (inbO (by decide : ¬ (0 : Int32) < 0) (rfl : ((0 : Int32)).toNatClampNeg = 0) (show 0 < 4 from (by first | omega | decide)))) (g := (mkF m 74 #[.val (.ref r0), .val (.int p1), .val (.int p2), .val (.int (0 : Int32)), .val (.long (entJ p1 p2)), .second] [(.long (entJ p1 p2)), (.int (0 : Int32)), (.ref arr)])) rfl rfl (hb hby d4_74)
  have N4 := Fr.snoc X4 N2 g_arr
  obtain ⟨L4, X4, N4⟩ := hideL X4 N4
  rw [(rfl : ((0 : Int32)).toNatClampNeg = 0)] at W4
  have f4_Exa_0 : Exa Z h4 r0 "com/example/tradewheel/tradewheel/PartQueue" := Exa.wr W4 f2_Exa_0
  have f4_Fld_1 : Fld Z h4 r0 "com/example/tradewheel/tradewheel/PartQueue" "heap" "[J" (.ref arr) := Fld.other W4 f2_Fld_1 (Or.inl ne_r0_arr)
  have f4_Fld_2 : Fld Z h4 r0 "com/example/tradewheel/tradewheel/PartQueue" "size" "I" (.int (1 : Int32)) := Fld.other W4 f2_Fld_2 (Or.inl ne_r0_arr)
  have f4_Arr_3 : OArr Z h4 arr .long 4 (fun i => if i = 0 then (Value.long (entJ p1 p2)) else fb i) := f2_Arr_3.set W4
  have KK4 : Keep h0 h4 [r0, arr] := Keep.wr KK2 W4 (Or.inl (List.mem_of_getElem? (i := 1) rfl))
  have Z4 : n0 ≤ h4.size := Nat.le_trans (Z2) (Nat.le_of_eq W4.size.symm)
  refine Runs.back st4 ?_
  show Runs _ _ _ _ T4 (mkF m 75 #[.val (.ref r0), .val (.int p1), .val (.int p2), .val (.int (0 : Int32)), .val (.long (entJ p1 p2)), .second] [])
  obtain ⟨fs, hr, hrun, hended, hW, hsame⟩ := X4.leave (v := none) (fun _ => rfl)
  exact ⟨_, _, (X4.returnOut hx Bd.returns (hb hby d4_75) hr), hrun, hended, _, _, rfl, (by show Q4s0 Z r0 p1 p2 arr fb h0 n0 _ T4.heap _; rw [e4]; exact ⟨rfl, N4, KK4, f4_Exa_0, f4_Fld_1, f4_Fld_2, _, (entJ p1 p2), f4_Arr_3, rfl, rfl⟩), ⟨_, rfl⟩, hW, hsame.mono (by decide) (by decide)⟩
theorem pn_4s1 : plainName "com/example/tradewheel/tradewheel/PartQueue" = true := by first | (simp [plainName, overriddenIn]; done) | decide +kernel
theorem ef_4s1 (m : MethodId) (r0 : Addr) (p1 : Int32) (p2 : Int32) : entryFrame m #[(.ref r0), (.int p1), (.int p2)] 6 = mkF m 0 #[.val (.ref r0), .val (.int p1), .val (.int p2), .unset, .unset, .unset] [] := by first | (simp [entryFrame, mkF, argsToLocals, Value.category]; done) | rfl
def Q4s1 (Z : State) (r0 : Addr) (p1 : Int32) (p2 : Int32) (arr : Addr) (fb : Nat → Value) (y0 : Int64) (h0 : Heap) (n0 : Nat) (v : Option Value) (h : Heap) (L : List Loc) : Prop := v = none ∧ Fr n0 L ∧ Keep h0 h [r0, arr] ∧ Exa Z h r0 "com/example/tradewheel/tradewheel/PartQueue" ∧ Fld Z h r0 "com/example/tradewheel/tradewheel/PartQueue" "heap" "[J" (.ref arr) ∧ Fld Z h r0 "com/example/tradewheel/tradewheel/PartQueue" "size" "I" (.int (2 : Int32)) ∧ ∃ (f : Nat → Value) (u0 u1 : Int64), OArr Z h arr .long 4 f ∧ f 0 = .long u0 ∧ f 1 = .long u1 ∧ AddR1 y0 (entJ p1 p2) u0 u1
set_option maxRecDepth 65536 in
set_option maxHeartbeats 40000000 in
theorem rm4s1 (l : Launch) (Z : State) (a0 : Array Value) (hw : ∀ d ∈ tables_1, d.before a0 Z = true) (ws : List Jvm.Cond) (r0 : Addr) (p1 : Int32) (p2 : Int32) (arr : Addr) (fb : Nat → Value) (y0 : Int64) (h0 : Heap) (n0 : Nat) (Z0 : n0 ≤ h0.size) (E_r0 : Exa Z h0 r0 "com/example/tradewheel/tradewheel/PartQueue") (F1 : Fld Z h0 r0 "com/example/tradewheel/tradewheel/PartQueue" "heap" "[J" (.ref arr)) (F2 : Fld Z h0 r0 "com/example/tradewheel/tradewheel/PartQueue" "size" "I" (.int (1 : Int32))) (A1 : OArr Z h0 arr .long 4 fb) (ne_r0_arr : r0 ≠ arr) (g_r0 : n0 ≤ r0) (g_arr : n0 ≤ arr) (hy0 : fb 0 = .long y0) :
    MetFree l (⟨"com/example/tradewheel/tradewheel/PartQueue", "add", "(II)V"⟩ : MethodName) (head1 (Jvm.Cond.code (⟨"com/example/tradewheel/tradewheel/PartQueue", "add", "(II)V"⟩ : MethodName) prog_22_method_2_code 6 none :: ws) ({ frames := 0, cells := 0, slots := 0, locals := 0 } : Room)) (fun a U => a = #[(.ref r0), (.int p1), (.int p2)] ∧ Z.Warmed39 U.vm ∧ U.heap = h0) (fun _ _ _ _ _ => True) (fun _ U o U' => ∃ v L, o = .returned v ∧ Q4s1 Z r0 p1 p2 arr fb y0 h0 n0 v U'.heap L ∧ FrameEnd U o U' L ({ frames := 0, cells := 0, slots := 0, locals := 0 } : Room).cells ({ frames := 0, cells := 0, slots := 0, locals := 0 } : Room).slots) := by
  refine MetFree.of_bodySF (plainFor_of_name pn_4s1) hisR ?_
  intro p e s m args below meth c s₁ Bd hml0 hP hK
  obtain ⟨rfl, hZ, hh⟩ := hP
  have hx := Bd.exec
  have hby := Bd.bytes
  have hml : c.maxLocals = 6 := hml0
  have hown : s.vm.findClass "com/example/tradewheel/tradewheel/PartQueue" = some m.cls := findClass_of_methodNamed Bd.named
  have hnm := (name_of_methodNamed Bd.named Bd.method).1
  have X0 : Stand p l e ({ frames := 0, cells := 0, slots := 0, locals := 0 } : Room) s m #[(.ref r0), (.int p1), (.int p2)] below meth c s₁ [] 0 0 := Stand.of_body Bd
  have e0 : s₁.heap = h0 := by rw [← hh, Bd.state]; rfl
  have N0 := Fr.nil n0
  refine Runs.enter (ef_4s1 m r0 p1 p2) ?_
  show Runs _ _ _ _ s₁ (mkF m 0 #[.val (.ref r0), .val (.int p1), .val (.int p2), .unset, .unset, .unset] [])
  refine Runs.back (fun t_ k_ => XS.aloadN X0.here hx rfl (hb hby d4_0) rfl rfl k_) ?_
  show Runs _ _ _ _ s₁ (mkF m 1 #[.val (.ref r0), .val (.int p1), .val (.int p2), .unset, .unset, .unset] [(.ref r0)])
  refine Runs.back (fun t_ k_ => XS.dup X0.here hx rfl (hb hby d4_1) rfl rfl k_) ?_
  show Runs _ _ _ _ s₁ (mkF m 2 #[.val (.ref r0), .val (.int p1), .val (.int p2), .unset, .unset, .unset] [(.ref r0), (.ref r0)])
  obtain ⟨T1, X1, e1, st1⟩ := getF X0 hx hZ hown (host := "") (Or.inl (hw _ (List.mem_of_getElem? (i := 22) rfl))) Via.refl e0 F2 (g := (mkF m 2 #[.val (.ref r0), .val (.int p1), .val (.int p2), .unset, .unset, .unset] [(.ref r0), (.ref r0)])) rfl rfl (hb hby d4_2)
  refine Runs.back st1 ?_
  show Runs _ _ _ _ T1 (mkF m 5 #[.val (.ref r0), .val (.int p1), .val (.int p2), .unset, .unset, .unset] [(.int (1 : Int32)), (.ref r0)])
  refine Runs.back (fun t_ k_ => XS.dupX1 X1.here hx rfl (hb hby d4_5) rfl rfl rfl k_) ?_
  show Runs _ _ _ _ T1 (mkF m 6 #[.val (.ref r0), .val (.int p1), .val (.int p2), .unset, .unset, .unset] [(.int (1 : Int32)), (.ref r0), (.int (1 : Int32))])
  refine Runs.back (fun t_ k_ => XS.iconst X1.here hx rfl (hb hby d4_6) k_) ?_
  show Runs _ _ _ _ T1 (mkF m 7 #[.val (.ref r0), .val (.int p1), .val (.int p2), .unset, .unset, .unset] [(.int (1 : Int32)), (.int (1 : Int32)), (.ref r0), (.int (1 : Int32))])
  refine Runs.back (fun t_ k_ => XS.iadd X1.here hx rfl (hb hby d4_7) rfl k_) ?_
  show Runs _ _ _ _ T1 (mkF m 8 #[.val (.ref r0), .val (.int p1), .val (.int p2), .unset, .unset, .unset] [(.int ((1 : Int32) + (1 : Int32))), (.ref r0), (.int (1 : Int32))])
  rw [show ((1 : Int32) + (1 : Int32)) = (2 : Int32) from by decide]
  show Runs _ _ _ _ T1 (mkF m 8 #[.val (.ref r0), .val (.int p1), .val (.int p2), .unset, .unset, .unset] [(.int (2 : Int32)), (.ref r0), (.int (1 : Int32))])
  obtain ⟨T2, h2, X2, e2, W2, st2⟩ := putF X1 hx hZ hown (host := "") (Or.inl (hw _ (List.mem_of_getElem? (i := 22) rfl))) Via.refl e1 F2 E_r0 (Or.inl (hw _ (List.mem_of_getElem? (i := 23) rfl))) (hw _ (List.mem_of_getElem? (i := 6) rfl)) (ty := .int) (by decide) rfl rfl (g := (mkF m 8 #[.val (.ref r0), .val (.int p1), .val (.int p2), .unset, .unset, .unset] [(.int (2 : Int32)), (.ref r0), (.int (1 : Int32))])) rfl rfl (hb hby d4_8)
  have f2_Exa_0 : Exa Z h2 r0 "com/example/tradewheel/tradewheel/PartQueue" := Exa.wr W2 E_r0
  have f2_Fld_1 : Fld Z h2 r0 "com/example/tradewheel/tradewheel/PartQueue" "heap" "[J" (.ref arr) := Fld.other W2 F1 (Or.inr (slot_ne (Or.inr (hw _ (List.mem_of_getElem? (i := 16) rfl))) (Or.inl (hw _ (List.mem_of_getElem? (i := 23) rfl))) (by decide) (t := (.array .long)) (t' := .int) (by decide) (by decide)))
  have f2_Fld_2 : Fld Z h2 r0 "com/example/tradewheel/tradewheel/PartQueue" "size" "I" (.int (2 : Int32)) := Fld.same W2 F2
  have f2_Arr_3 : OArr Z h2 arr .long 4 fb := A1.other W2 (Ne.symm ne_r0_arr)
  have N2 := Fr.snoc X2 N0 g_r0
  obtain ⟨L2, X2, N2⟩ := hideL X2 N2
  have KK2 : Keep h0 h2 [r0, arr] := Keep.wr (Keep.refl h0 [r0, arr]) W2 (Or.inl (List.mem_of_getElem? (i := 0) rfl))
  have Z2 : n0 ≤ h2.size := Nat.le_trans (Z0) (Nat.le_of_eq W2.size.symm)
  refine Runs.back st2 ?_
  show Runs _ _ _ _ T2 (mkF m 11 #[.val (.ref r0), .val (.int p1), .val (.int p2), .unset, .unset, .unset] [(.int (1 : Int32))])
  refine Runs.back (fun t_ k_ => XS.istoreN X2.here hx rfl (hb hby d4_11) rfl (l' := #[.val (.ref r0), .val (.int p1), .val (.int p2), .val (.int (1 : Int32)), .unset, .unset]) rfl k_) ?_
  show Runs _ _ _ _ T2 (mkF m 12 #[.val (.ref r0), .val (.int p1), .val (.int p2), .val (.int (1 : Int32)), .unset, .unset] [])
  refine Runs.back (fun t_ k_ => XS.iloadN X2.here hx rfl (hb hby d4_12) rfl k_) ?_
  show Runs _ _ _ _ T2 (mkF m 13 #[.val (.ref r0), .val (.int p1), .val (.int p2), .val (.int (1 : Int32)), .unset, .unset] [(.int p1)])
  refine Runs.back (fun t_ k_ => XS.i2l X2.here hx rfl (hb hby d4_13) rfl k_) ?_
  show Runs _ _ _ _ T2 (mkF m 14 #[.val (.ref r0), .val (.int p1), .val (.int p2), .val (.int (1 : Int32)), .unset, .unset] [(.long (p1.toInt64))])
  refine Runs.back (fun t_ k_ => XS.bipush X2.here hx rfl (hb hby d4_14) k_) ?_
  show Runs _ _ _ _ T2 (mkF m 16 #[.val (.ref r0), .val (.int p1), .val (.int p2), .val (.int (1 : Int32)), .unset, .unset] [(.int (32 : Int32)), (.long (p1.toInt64))])
  refine Runs.back (fun t_ k_ => XS.lshl X2.here hx rfl (hb hby d4_16) rfl k_) ?_
  show Runs _ _ _ _ T2 (mkF m 17 #[.val (.ref r0), .val (.int p1), .val (.int p2), .val (.int (1 : Int32)), .unset, .unset] [(.long ((p1.toInt64) <<< ((32 : Int32) &&& 0x3f).toInt64))])
  refine Runs.back (fun t_ k_ => XS.iloadN X2.here hx rfl (hb hby d4_17) rfl k_) ?_
  show Runs _ _ _ _ T2 (mkF m 18 #[.val (.ref r0), .val (.int p1), .val (.int p2), .val (.int (1 : Int32)), .unset, .unset] [(.int p2), (.long ((p1.toInt64) <<< ((32 : Int32) &&& 0x3f).toInt64))])
  refine Runs.back (fun t_ k_ => XS.i2l X2.here hx rfl (hb hby d4_18) rfl k_) ?_
  show Runs _ _ _ _ T2 (mkF m 19 #[.val (.ref r0), .val (.int p1), .val (.int p2), .val (.int (1 : Int32)), .unset, .unset] [(.long (p2.toInt64)), (.long ((p1.toInt64) <<< ((32 : Int32) &&& 0x3f).toInt64))])
  refine Runs.back (fun t_ k_ => XS.lor X2.here hx rfl (hb hby d4_19) rfl k_) ?_
  show Runs _ _ _ _ T2 (mkF m 20 #[.val (.ref r0), .val (.int p1), .val (.int p2), .val (.int (1 : Int32)), .unset, .unset] [(.long (((p1.toInt64) <<< ((32 : Int32) &&& 0x3f).toInt64) ||| (p2.toInt64)))])
  rw [show (((p1.toInt64) <<< ((32 : Int32) &&& 0x3f).toInt64) ||| (p2.toInt64)) = entJ p1 p2 from rfl]
  show Runs _ _ _ _ T2 (mkF m 20 #[.val (.ref r0), .val (.int p1), .val (.int p2), .val (.int (1 : Int32)), .unset, .unset] [(.long (entJ p1 p2))])
  refine Runs.back (fun t_ k_ => XS.lstore X2.here hx rfl (hb hby d4_20) rfl (l' := #[.val (.ref r0), .val (.int p1), .val (.int p2), .val (.int (1 : Int32)), .val (.long (entJ p1 p2)), .second]) rfl k_) ?_
  show Runs _ _ _ _ T2 (mkF m 22 #[.val (.ref r0), .val (.int p1), .val (.int p2), .val (.int (1 : Int32)), .val (.long (entJ p1 p2)), .second] [])
  refine Runs.back (fun t_ k_ => XS.iloadN X2.here hx rfl (hb hby d4_22) rfl k_) ?_
  show Runs _ _ _ _ T2 (mkF m 23 #[.val (.ref r0), .val (.int p1), .val (.int p2), .val (.int (1 : Int32)), .val (.long (entJ p1 p2)), .second] [(.int (1 : Int32))])
  refine Runs.back (fun t_ k_ => XS.ifNo X2.here hx rfl (hb hby d4_23) rfl ((if0 _ _).trans (tlt (show (0 : Int32) < (1 : Int32) from (by decide))).2.2.2) k_) ?_
  show Runs _ _ _ _ T2 (mkF m 26 #[.val (.ref r0), .val (.int p1), .val (.int p2), .val (.int (1 : Int32)), .val (.long (entJ p1 p2)), .second] [])
  refine Runs.back (fun t_ k_ => XS.aloadN X2.here hx rfl (hb hby d4_26) rfl rfl k_) ?_
  show Runs _ _ _ _ T2 (mkF m 27 #[.val (.ref r0), .val (.int p1), .val (.int p2), .val (.int (1 : Int32)), .val (.long (entJ p1 p2)), .second] [(.ref r0)])
  obtain ⟨T3, X3, e3, st3⟩ := getF X2 hx hZ hown (host := "") (Or.inl (hw _ (List.mem_of_getElem? (i := 15) rfl))) Via.refl e2 f2_Fld_1 (g := (mkF m 27 #[.val (.ref r0), .val (.int p1), .val (.int p2), .val (.int (1 : Int32)), .val (.long (entJ p1 p2)), .second] [(.ref r0)])) rfl rfl (hb hby d4_27)
  refine Runs.back st3 ?_
  show Runs _ _ _ _ T3 (mkF m 30 #[.val (.ref r0), .val (.int p1), .val (.int p2), .val (.int (1 : Int32)), .val (.long (entJ p1 p2)), .second] [(.ref arr)])
  refine Runs.back (fun t_ k_ => XS.iloadN X3.here hx rfl (hb hby d4_30) rfl k_) ?_
  show Runs _ _ _ _ T3 (mkF m 31 #[.val (.ref r0), .val (.int p1), .val (.int p2), .val (.int (1 : Int32)), .val (.long (entJ p1 p2)), .second] [(.int (1 : Int32)), (.ref arr)])
  refine Runs.back (fun t_ k_ => XS.iconst X3.here hx rfl (hb hby d4_31) k_) ?_
  show Runs _ _ _ _ T3 (mkF m 32 #[.val (.ref r0), .val (.int p1), .val (.int p2), .val (.int (1 : Int32)), .val (.long (entJ p1 p2)), .second] [(.int (1 : Int32)), (.int (1 : Int32)), (.ref arr)])
  refine Runs.back (fun t_ k_ => XS.isub X3.here hx rfl (hb hby d4_32) rfl k_) ?_
  show Runs _ _ _ _ T3 (mkF m 33 #[.val (.ref r0), .val (.int p1), .val (.int p2), .val (.int (1 : Int32)), .val (.long (entJ p1 p2)), .second] [(.int ((1 : Int32) - (1 : Int32))), (.ref arr)])
  rw [show ((1 : Int32) - (1 : Int32)) = (0 : Int32) from by decide]
  show Runs _ _ _ _ T3 (mkF m 33 #[.val (.ref r0), .val (.int p1), .val (.int p2), .val (.int (1 : Int32)), .val (.long (entJ p1 p2)), .second] [(.int (0 : Int32)), (.ref arr)])
  refine Runs.back (fun t_ k_ => XS.iconst X3.here hx rfl (hb hby d4_33) k_) ?_
  show Runs _ _ _ _ T3 (mkF m 34 #[.val (.ref r0), .val (.int p1), .val (.int p2), .val (.int (1 : Int32)), .val (.long (entJ p1 p2)), .second] [(.int (2 : Int32)), (.int (0 : Int32)), (.ref arr)])
  refine Runs.back (fun t_ k_ => XS.idiv X3.here hx rfl (hb hby d4_34) rfl (by decide) k_) ?_
  show Runs _ _ _ _ T3 (mkF m 35 #[.val (.ref r0), .val (.int p1), .val (.int p2), .val (.int (1 : Int32)), .val (.long (entJ p1 p2)), .second] [(.int ((0 : Int32) / (2 : Int32))), (.ref arr)])
  rw [show ((0 : Int32) / (2 : Int32)) = (0 : Int32) from by decide]
  show Runs _ _ _ _ T3 (mkF m 35 #[.val (.ref r0), .val (.int p1), .val (.int p2), .val (.int (1 : Int32)), .val (.long (entJ p1 p2)), .second] [(.int (0 : Int32)), (.ref arr)])
  obtain ⟨cl4, Ar4, S4, Hs4⟩ := id f2_Arr_3
  have at4 : cl4.slots[((0 : Int32)).toNatClampNeg]? = some (.long y0) := readO Hs4 (rfl : ((0 : Int32)).toNatClampNeg = 0) (show 0 < 4 from (by first | omega | decide)) (hy0)
  refine Runs.back (fun t_ k_ => X3.laload hx (j := (0 : Int32)) (v := (.long y0)) (by rw [e3]; exact Ar4.1) (State.isArrayOf_alike hZ.alike Ar4.2.1) Ar4.2.2 (by rw [S4]; exact (inbO (by decide : ¬ (0 : Int32) < 0) (rfl : ((0 : Int32)).toNatClampNeg = 0) (show 0 < 4 from (by first | omega | decide)))) at4 (g := (mkF m 35 #[.val (.ref r0), .val (.int p1), .val (.int p2), .val (.int (1 : Int32)), .val (.long (entJ p1 p2)), .second] [(.int (0 : Int32)), (.ref arr)])) rfl rfl (hb hby d4_35) _ k_) ?_
  show Runs _ _ _ _ T3 (mkF m 36 #[.val (.ref r0), .val (.int p1), .val (.int p2), .val (.int (1 : Int32)), .val (.long (entJ p1 p2)), .second] [(.long y0)])
  refine Runs.back (fun t_ k_ => XS.lload X3.here hx rfl (hb hby d4_36) rfl k_) ?_
  show Runs _ _ _ _ T3 (mkF m 38 #[.val (.ref r0), .val (.int p1), .val (.int p2), .val (.int (1 : Int32)), .val (.long (entJ p1 p2)), .second] [(.long (entJ p1 p2)), (.long y0)])
  refine Runs.back (fun t_ k_ => XS.lcmp X3.here hx rfl (hb hby d4_38) rfl k_) ?_
  show Runs _ _ _ _ T3 (mkF m 39 #[.val (.ref r0), .val (.int p1), .val (.int p2), .val (.int (1 : Int32)), .val (.long (entJ p1 p2)), .second] [(.int (lcmpW y0 (entJ p1 p2)))])
  by_cases c39_5 : (entJ p1 p2) < y0
  · refine Runs.back (fun t_ k_ => XS.ifNo X3.here hx rfl (hb hby d4_39) rfl ((if0 _ _).trans (tlt (lcT' c39_5)).2.2.2) k_) ?_
    show Runs _ _ _ _ T3 (mkF m 42 #[.val (.ref r0), .val (.int p1), .val (.int p2), .val (.int (1 : Int32)), .val (.long (entJ p1 p2)), .second] [])
    refine Runs.back (fun t_ k_ => XS.aloadN X3.here hx rfl (hb hby d4_42) rfl rfl k_) ?_
    show Runs _ _ _ _ T3 (mkF m 43 #[.val (.ref r0), .val (.int p1), .val (.int p2), .val (.int (1 : Int32)), .val (.long (entJ p1 p2)), .second] [(.ref r0)])
    obtain ⟨T6, X6, e6, st6⟩ := getF X3 hx hZ hown (host := "") (Or.inl (hw _ (List.mem_of_getElem? (i := 15) rfl))) Via.refl e3 f2_Fld_1 (g := (mkF m 43 #[.val (.ref r0), .val (.int p1), .val (.int p2), .val (.int (1 : Int32)), .val (.long (entJ p1 p2)), .second] [(.ref r0)])) rfl rfl (hb hby d4_43)
    refine Runs.back st6 ?_
    show Runs _ _ _ _ T6 (mkF m 46 #[.val (.ref r0), .val (.int p1), .val (.int p2), .val (.int (1 : Int32)), .val (.long (entJ p1 p2)), .second] [(.ref arr)])
    refine Runs.back (fun t_ k_ => XS.iloadN X6.here hx rfl (hb hby d4_46) rfl k_) ?_
    show Runs _ _ _ _ T6 (mkF m 47 #[.val (.ref r0), .val (.int p1), .val (.int p2), .val (.int (1 : Int32)), .val (.long (entJ p1 p2)), .second] [(.int (1 : Int32)), (.ref arr)])
    refine Runs.back (fun t_ k_ => XS.aloadN X6.here hx rfl (hb hby d4_47) rfl rfl k_) ?_
    show Runs _ _ _ _ T6 (mkF m 48 #[.val (.ref r0), .val (.int p1), .val (.int p2), .val (.int (1 : Int32)), .val (.long (entJ p1 p2)), .second] [(.ref r0), (.int (1 : Int32)), (.ref arr)])
    obtain ⟨T7, X7, e7, st7⟩ := getF X6 hx hZ hown (host := "") (Or.inl (hw _ (List.mem_of_getElem? (i := 15) rfl))) Via.refl e6 f2_Fld_1 (g := (mkF m 48 #[.val (.ref r0), .val (.int p1), .val (.int p2), .val (.int (1 : Int32)), .val (.long (entJ p1 p2)), .second] [(.ref r0), (.int (1 : Int32)), (.ref arr)])) rfl rfl (hb hby d4_48)
    refine Runs.back st7 ?_
    show Runs _ _ _ _ T7 (mkF m 51 #[.val (.ref r0), .val (.int p1), .val (.int p2), .val (.int (1 : Int32)), .val (.long (entJ p1 p2)), .second] [(.ref arr), (.int (1 : Int32)), (.ref arr)])
    refine Runs.back (fun t_ k_ => XS.iloadN X7.here hx rfl (hb hby d4_51) rfl k_) ?_
    show Runs _ _ _ _ T7 (mkF m 52 #[.val (.ref r0), .val (.int p1), .val (.int p2), .val (.int (1 : Int32)), .val (.long (entJ p1 p2)), .second] [(.int (1 : Int32)), (.ref arr), (.int (1 : Int32)), (.ref arr)])
    refine Runs.back (fun t_ k_ => XS.iconst X7.here hx rfl (hb hby d4_52) k_) ?_
    show Runs _ _ _ _ T7 (mkF m 53 #[.val (.ref r0), .val (.int p1), .val (.int p2), .val (.int (1 : Int32)), .val (.long (entJ p1 p2)), .second] [(.int (1 : Int32)), (.int (1 : Int32)), (.ref arr), (.int (1 : Int32)), (.ref arr)])
    refine Runs.back (fun t_ k_ => XS.isub X7.here hx rfl (hb hby d4_53) rfl k_) ?_
    show Runs _ _ _ _ T7 (mkF m 54 #[.val (.ref r0), .val (.int p1), .val (.int p2), .val (.int (1 : Int32)), .val (.long (entJ p1 p2)), .second] [(.int ((1 : Int32) - (1 : Int32))), (.ref arr), (.int (1 : Int32)), (.ref arr)])
    rw [show ((1 : Int32) - (1 : Int32)) = (0 : Int32) from by decide]
    show Runs _ _ _ _ T7 (mkF m 54 #[.val (.ref r0), .val (.int p1), .val (.int p2), .val (.int (1 : Int32)), .val (.long (entJ p1 p2)), .second] [(.int (0 : Int32)), (.ref arr), (.int (1 : Int32)), (.ref arr)])
    refine Runs.back (fun t_ k_ => XS.iconst X7.here hx rfl (hb hby d4_54) k_) ?_
    show Runs _ _ _ _ T7 (mkF m 55 #[.val (.ref r0), .val (.int p1), .val (.int p2), .val (.int (1 : Int32)), .val (.long (entJ p1 p2)), .second] [(.int (2 : Int32)), (.int (0 : Int32)), (.ref arr), (.int (1 : Int32)), (.ref arr)])
    refine Runs.back (fun t_ k_ => XS.idiv X7.here hx rfl (hb hby d4_55) rfl (by decide) k_) ?_
    show Runs _ _ _ _ T7 (mkF m 56 #[.val (.ref r0), .val (.int p1), .val (.int p2), .val (.int (1 : Int32)), .val (.long (entJ p1 p2)), .second] [(.int ((0 : Int32) / (2 : Int32))), (.ref arr), (.int (1 : Int32)), (.ref arr)])
    rw [show ((0 : Int32) / (2 : Int32)) = (0 : Int32) from by decide]
    show Runs _ _ _ _ T7 (mkF m 56 #[.val (.ref r0), .val (.int p1), .val (.int p2), .val (.int (1 : Int32)), .val (.long (entJ p1 p2)), .second] [(.int (0 : Int32)), (.ref arr), (.int (1 : Int32)), (.ref arr)])
    obtain ⟨cl8, Ar8, S8, Hs8⟩ := id f2_Arr_3
    have at8 : cl8.slots[((0 : Int32)).toNatClampNeg]? = some (.long y0) := readO Hs8 (rfl : ((0 : Int32)).toNatClampNeg = 0) (show 0 < 4 from (by first | omega | decide)) (hy0)
    refine Runs.back (fun t_ k_ => X7.laload hx (j := (0 : Int32)) (v := (.long y0)) (by rw [e7]; exact Ar8.1) (State.isArrayOf_alike hZ.alike Ar8.2.1) Ar8.2.2 (by rw [S8]; exact (inbO (by decide : ¬ (0 : Int32) < 0) (rfl : ((0 : Int32)).toNatClampNeg = 0) (show 0 < 4 from (by first | omega | decide)))) at8 (g := (mkF m 56 #[.val (.ref r0), .val (.int p1), .val (.int p2), .val (.int (1 : Int32)), .val (.long (entJ p1 p2)), .second] [(.int (0 : Int32)), (.ref arr), (.int (1 : Int32)), (.ref arr)])) rfl rfl (hb hby d4_56) _ k_) ?_
    show Runs _ _ _ _ T7 (mkF m 57 #[.val (.ref r0), .val (.int p1), .val (.int p2), .val (.int (1 : Int32)), .val (.long (entJ p1 p2)), .second] [(.long y0), (.int (1 : Int32)), (.ref arr)])
    obtain ⟨cl9, Ar9, S9, Hs9⟩ := id f2_Arr_3
    obtain ⟨T9, h9, X9, e9, W9, st9⟩ := stJ X7 hx hZ e7 Ar9 (j := (1 : Int32)) (by rw [S9]; exact (inbO (by decide : ¬ (1 : Int32) < 0) (rfl : ((1 : Int32)).toNatClampNeg = 1) (show 1 < 4 from (by first | omega | decide)))) (g := (mkF m 57 #[.val (.ref r0), .val (.int p1), .val (.int p2), .val (.int (1 : Int32)), .val (.long (entJ p1 p2)), .second] [(.long y0), (.int (1 : Int32)), (.ref arr)])) rfl rfl (hb hby d4_57)
    have N9 := Fr.snoc X9 N2 g_arr
    obtain ⟨L9, X9, N9⟩ := hideL X9 N9
    rw [(rfl : ((1 : Int32)).toNatClampNeg = 1)] at W9
    have f9_Exa_0 : Exa Z h9 r0 "com/example/tradewheel/tradewheel/PartQueue" := Exa.wr W9 f2_Exa_0
    have f9_Fld_1 : Fld Z h9 r0 "com/example/tradewheel/tradewheel/PartQueue" "heap" "[J" (.ref arr) := Fld.other W9 f2_Fld_1 (Or.inl ne_r0_arr)
    have f9_Fld_2 : Fld Z h9 r0 "com/example/tradewheel/tradewheel/PartQueue" "size" "I" (.int (2 : Int32)) := Fld.other W9 f2_Fld_2 (Or.inl ne_r0_arr)
    have f9_Arr_3 : OArr Z h9 arr .long 4 (fun i => if i = 1 then (Value.long y0) else fb i) := f2_Arr_3.set W9
    have KK9 : Keep h0 h9 [r0, arr] := Keep.wr KK2 W9 (Or.inl (List.mem_of_getElem? (i := 1) rfl))
    have Z9 : n0 ≤ h9.size := Nat.le_trans (Z2) (Nat.le_of_eq W9.size.symm)
    refine Runs.back st9 ?_
    show Runs _ _ _ _ T9 (mkF m 58 #[.val (.ref r0), .val (.int p1), .val (.int p2), .val (.int (1 : Int32)), .val (.long (entJ p1 p2)), .second] [])
    refine Runs.back (fun t_ k_ => XS.iloadN X9.here hx rfl (hb hby d4_58) rfl k_) ?_
    show Runs _ _ _ _ T9 (mkF m 59 #[.val (.ref r0), .val (.int p1), .val (.int p2), .val (.int (1 : Int32)), .val (.long (entJ p1 p2)), .second] [(.int (1 : Int32))])
    refine Runs.back (fun t_ k_ => XS.iconst X9.here hx rfl (hb hby d4_59) k_) ?_
    show Runs _ _ _ _ T9 (mkF m 60 #[.val (.ref r0), .val (.int p1), .val (.int p2), .val (.int (1 : Int32)), .val (.long (entJ p1 p2)), .second] [(.int (1 : Int32)), (.int (1 : Int32))])
    refine Runs.back (fun t_ k_ => XS.isub X9.here hx rfl (hb hby d4_60) rfl k_) ?_
    show Runs _ _ _ _ T9 (mkF m 61 #[.val (.ref r0), .val (.int p1), .val (.int p2), .val (.int (1 : Int32)), .val (.long (entJ p1 p2)), .second] [(.int ((1 : Int32) - (1 : Int32)))])
    rw [show ((1 : Int32) - (1 : Int32)) = (0 : Int32) from by decide]
    show Runs _ _ _ _ T9 (mkF m 61 #[.val (.ref r0), .val (.int p1), .val (.int p2), .val (.int (1 : Int32)), .val (.long (entJ p1 p2)), .second] [(.int (0 : Int32))])
    refine Runs.back (fun t_ k_ => XS.iconst X9.here hx rfl (hb hby d4_61) k_) ?_
    show Runs _ _ _ _ T9 (mkF m 62 #[.val (.ref r0), .val (.int p1), .val (.int p2), .val (.int (1 : Int32)), .val (.long (entJ p1 p2)), .second] [(.int (2 : Int32)), (.int (0 : Int32))])
    refine Runs.back (fun t_ k_ => XS.idiv X9.here hx rfl (hb hby d4_62) rfl (by decide) k_) ?_
    show Runs _ _ _ _ T9 (mkF m 63 #[.val (.ref r0), .val (.int p1), .val (.int p2), .val (.int (1 : Int32)), .val (.long (entJ p1 p2)), .second] [(.int ((0 : Int32) / (2 : Int32)))])
    rw [show ((0 : Int32) / (2 : Int32)) = (0 : Int32) from by decide]
    show Runs _ _ _ _ T9 (mkF m 63 #[.val (.ref r0), .val (.int p1), .val (.int p2), .val (.int (1 : Int32)), .val (.long (entJ p1 p2)), .second] [(.int (0 : Int32))])
    refine Runs.back (fun t_ k_ => XS.istoreN X9.here hx rfl (hb hby d4_63) rfl (l' := #[.val (.ref r0), .val (.int p1), .val (.int p2), .val (.int (0 : Int32)), .val (.long (entJ p1 p2)), .second]) rfl k_) ?_
    show Runs _ _ _ _ T9 (mkF m 64 #[.val (.ref r0), .val (.int p1), .val (.int p2), .val (.int (0 : Int32)), .val (.long (entJ p1 p2)), .second] [])
    refine Runs.back (fun t_ k_ => XS.goto X9.here hx rfl (pc0 := 64) (pc' := 22) rfl (hb hby d4_64) (by decide) (by decide) k_) ?_
    show Runs _ _ _ _ T9 (mkF m 22 #[.val (.ref r0), .val (.int p1), .val (.int p2), .val (.int (0 : Int32)), .val (.long (entJ p1 p2)), .second] [])
    refine Runs.back (fun t_ k_ => XS.iloadN X9.here hx rfl (hb hby d4_22) rfl k_) ?_
    show Runs _ _ _ _ T9 (mkF m 23 #[.val (.ref r0), .val (.int p1), .val (.int p2), .val (.int (0 : Int32)), .val (.long (entJ p1 p2)), .second] [(.int (0 : Int32))])
    refine Runs.back (fun t_ k_ => XS.ifYes X9.here hx rfl (pc0 := 23) (pc' := 67) rfl (hb hby d4_23) rfl ((if0 _ _).trans (flt (show ¬ ((0 : Int32) < (0 : Int32)) from (by decide))).2.2.2) (by decide) (by decide) k_) ?_
    show Runs _ _ _ _ T9 (mkF m 67 #[.val (.ref r0), .val (.int p1), .val (.int p2), .val (.int (0 : Int32)), .val (.long (entJ p1 p2)), .second] [])
    refine Runs.back (fun t_ k_ => XS.aloadN X9.here hx rfl (hb hby d4_67) rfl rfl k_) ?_
    show Runs _ _ _ _ T9 (mkF m 68 #[.val (.ref r0), .val (.int p1), .val (.int p2), .val (.int (0 : Int32)), .val (.long (entJ p1 p2)), .second] [(.ref r0)])
    obtain ⟨T10, X10, e10, st10⟩ := getF X9 hx hZ hown (host := "") (Or.inl (hw _ (List.mem_of_getElem? (i := 15) rfl))) Via.refl e9 f9_Fld_1 (g := (mkF m 68 #[.val (.ref r0), .val (.int p1), .val (.int p2), .val (.int (0 : Int32)), .val (.long (entJ p1 p2)), .second] [(.ref r0)])) rfl rfl (hb hby d4_68)
    refine Runs.back st10 ?_
    show Runs _ _ _ _ T10 (mkF m 71 #[.val (.ref r0), .val (.int p1), .val (.int p2), .val (.int (0 : Int32)), .val (.long (entJ p1 p2)), .second] [(.ref arr)])
    refine Runs.back (fun t_ k_ => XS.iloadN X10.here hx rfl (hb hby d4_71) rfl k_) ?_
    show Runs _ _ _ _ T10 (mkF m 72 #[.val (.ref r0), .val (.int p1), .val (.int p2), .val (.int (0 : Int32)), .val (.long (entJ p1 p2)), .second] [(.int (0 : Int32)), (.ref arr)])
    refine Runs.back (fun t_ k_ => XS.lload X10.here hx rfl (hb hby d4_72) rfl k_) ?_
    show Runs _ _ _ _ T10 (mkF m 74 #[.val (.ref r0), .val (.int p1), .val (.int p2), .val (.int (0 : Int32)), .val (.long (entJ p1 p2)), .second] [(.long (entJ p1 p2)), (.int (0 : Int32)), (.ref arr)])
    obtain ⟨cl11, Ar11, S11, Hs11⟩ := id f9_Arr_3
    obtain ⟨T11, h11, X11, e11, W11, st11⟩ := stJ X10 hx hZ e10 Ar11 (j := (0 : Int32)) (by rw [S11]; exact (inbO (by decide : ¬ (0 : Int32) < 0) (rfl : ((0 : Int32)).toNatClampNeg = 0) (show 0 < 4 from (by first | omega | decide)))) (g := (mkF m 74 #[.val (.ref r0), .val (.int p1), .val (.int p2), .val (.int (0 : Int32)), .val (.long (entJ p1 p2)), .second] [(.long (entJ p1 p2)), (.int (0 : Int32)), (.ref arr)])) rfl rfl (hb hby d4_74)
    have N11 := Fr.snoc X11 N9 g_arr
    obtain ⟨L11, X11, N11⟩ := hideL X11 N11
    rw [(rfl : ((0 : Int32)).toNatClampNeg = 0)] at W11
    have f11_Exa_0 : Exa Z h11 r0 "com/example/tradewheel/tradewheel/PartQueue" := Exa.wr W11 f9_Exa_0
    have f11_Fld_1 : Fld Z h11 r0 "com/example/tradewheel/tradewheel/PartQueue" "heap" "[J" (.ref arr) := Fld.other W11 f9_Fld_1 (Or.inl ne_r0_arr)
    have f11_Fld_2 : Fld Z h11 r0 "com/example/tradewheel/tradewheel/PartQueue" "size" "I" (.int (2 : Int32)) := Fld.other W11 f9_Fld_2 (Or.inl ne_r0_arr)
    have f11_Arr_3 : OArr Z h11 arr .long 4 (fun i => if i = 0 then (Value.long (entJ p1 p2)) else (fun i => if i = 1 then (Value.long y0) else fb i) i) := f9_Arr_3.set W11
    have KK11 : Keep h0 h11 [r0, arr] := Keep.wr KK9 W11 (Or.inl (List.mem_of_getElem? (i := 1) rfl))
    have Z11 : n0 ≤ h11.size := Nat.le_trans (Z9) (Nat.le_of_eq W11.size.symm)
    refine Runs.back st11 ?_
    show Runs _ _ _ _ T11 (mkF m 75 #[.val (.ref r0), .val (.int p1), .val (.int p2), .val (.int (0 : Int32)), .val (.long (entJ p1 p2)), .second] [])
    obtain ⟨fs, hr, hrun, hended, hW, hsame⟩ := X11.leave (v := none) (fun _ => rfl)
    exact ⟨_, _, (X11.returnOut hx Bd.returns (hb hby d4_75) hr), hrun, hended, _, _, rfl, (by show Q4s1 Z r0 p1 p2 arr fb y0 h0 n0 _ T11.heap _; rw [e11]; exact ⟨rfl, N11, KK11, f11_Exa_0, f11_Fld_1, f11_Fld_2, _, (entJ p1 p2), y0, f11_Arr_3, rfl, rfl, Or.inl ⟨c39_5, rfl, rfl⟩⟩), ⟨_, rfl⟩, hW, hsame.mono (by decide) (by decide)⟩
  · refine Runs.back (fun t_ k_ => XS.ifYes X3.here hx rfl (pc0 := 39) (pc' := 67) rfl (hb hby d4_39) rfl ((if0 _ _).trans (flt (lcF' c39_5)).2.2.2) (by decide) (by decide) k_) ?_
    show Runs _ _ _ _ T3 (mkF m 67 #[.val (.ref r0), .val (.int p1), .val (.int p2), .val (.int (1 : Int32)), .val (.long (entJ p1 p2)), .second] [])
    refine Runs.back (fun t_ k_ => XS.aloadN X3.here hx rfl (hb hby d4_67) rfl rfl k_) ?_
    show Runs _ _ _ _ T3 (mkF m 68 #[.val (.ref r0), .val (.int p1), .val (.int p2), .val (.int (1 : Int32)), .val (.long (entJ p1 p2)), .second] [(.ref r0)])
    obtain ⟨T12, X12, e12, st12⟩ := getF X3 hx hZ hown (host := "") (Or.inl (hw _ (List.mem_of_getElem? (i := 15) rfl))) Via.refl e3 f2_Fld_1 (g := (mkF m 68 #[.val (.ref r0), .val (.int p1), .val (.int p2), .val (.int (1 : Int32)), .val (.long (entJ p1 p2)), .second] [(.ref r0)])) rfl rfl (hb hby d4_68)
    refine Runs.back st12 ?_
    show Runs _ _ _ _ T12 (mkF m 71 #[.val (.ref r0), .val (.int p1), .val (.int p2), .val (.int (1 : Int32)), .val (.long (entJ p1 p2)), .second] [(.ref arr)])
    refine Runs.back (fun t_ k_ => XS.iloadN X12.here hx rfl (hb hby d4_71) rfl k_) ?_
    show Runs _ _ _ _ T12 (mkF m 72 #[.val (.ref r0), .val (.int p1), .val (.int p2), .val (.int (1 : Int32)), .val (.long (entJ p1 p2)), .second] [(.int (1 : Int32)), (.ref arr)])
    refine Runs.back (fun t_ k_ => XS.lload X12.here hx rfl (hb hby d4_72) rfl k_) ?_
    show Runs _ _ _ _ T12 (mkF m 74 #[.val (.ref r0), .val (.int p1), .val (.int p2), .val (.int (1 : Int32)), .val (.long (entJ p1 p2)), .second] [(.long (entJ p1 p2)), (.int (1 : Int32)), (.ref arr)])
    obtain ⟨cl13, Ar13, S13, Hs13⟩ := id f2_Arr_3
    obtain ⟨T13, h13, X13, e13, W13, st13⟩ := stJ X12 hx hZ e12 Ar13 (j := (1 : Int32)) (by rw [S13]; exact (inbO (by decide : ¬ (1 : Int32) < 0) (rfl : ((1 : Int32)).toNatClampNeg = 1) (show 1 < 4 from (by first | omega | decide)))) (g := (mkF m 74 #[.val (.ref r0), .val (.int p1), .val (.int p2), .val (.int (1 : Int32)), .val (.long (entJ p1 p2)), .second] [(.long (entJ p1 p2)), (.int (1 : Int32)), (.ref arr)])) rfl rfl (hb hby d4_74)
    have N13 := Fr.snoc X13 N2 g_arr
    obtain ⟨L13, X13, N13⟩ := hideL X13 N13
    rw [(rfl : ((1 : Int32)).toNatClampNeg = 1)] at W13
    have f13_Exa_0 : Exa Z h13 r0 "com/example/tradewheel/tradewheel/PartQueue" := Exa.wr W13 f2_Exa_0
    have f13_Fld_1 : Fld Z h13 r0 "com/example/tradewheel/tradewheel/PartQueue" "heap" "[J" (.ref arr) := Fld.other W13 f2_Fld_1 (Or.inl ne_r0_arr)
    have f13_Fld_2 : Fld Z h13 r0 "com/example/tradewheel/tradewheel/PartQueue" "size" "I" (.int (2 : Int32)) := Fld.other W13 f2_Fld_2 (Or.inl ne_r0_arr)
    have f13_Arr_3 : OArr Z h13 arr .long 4 (fun i => if i = 1 then (Value.long (entJ p1 p2)) else fb i) := f2_Arr_3.set W13
    have KK13 : Keep h0 h13 [r0, arr] := Keep.wr KK2 W13 (Or.inl (List.mem_of_getElem? (i := 1) rfl))
    have Z13 : n0 ≤ h13.size := Nat.le_trans (Z2) (Nat.le_of_eq W13.size.symm)
    refine Runs.back st13 ?_
    show Runs _ _ _ _ T13 (mkF m 75 #[.val (.ref r0), .val (.int p1), .val (.int p2), .val (.int (1 : Int32)), .val (.long (entJ p1 p2)), .second] [])
    obtain ⟨fs, hr, hrun, hended, hW, hsame⟩ := X13.leave (v := none) (fun _ => rfl)
    exact ⟨_, _, (X13.returnOut hx Bd.returns (hb hby d4_75) hr), hrun, hended, _, _, rfl, (by show Q4s1 Z r0 p1 p2 arr fb y0 h0 n0 _ T13.heap _; rw [e13]; exact ⟨rfl, N13, KK13, f13_Exa_0, f13_Fld_1, f13_Fld_2, _, y0, (entJ p1 p2), f13_Arr_3, hy0, rfl, Or.inr ⟨c39_5, rfl, rfl⟩⟩), ⟨_, rfl⟩, hW, hsame.mono (by decide) (by decide)⟩
theorem pn_4s2 : plainName "com/example/tradewheel/tradewheel/PartQueue" = true := by first | (simp [plainName, overriddenIn]; done) | decide +kernel
theorem ef_4s2 (m : MethodId) (r0 : Addr) (p1 : Int32) (p2 : Int32) : entryFrame m #[(.ref r0), (.int p1), (.int p2)] 6 = mkF m 0 #[.val (.ref r0), .val (.int p1), .val (.int p2), .unset, .unset, .unset] [] := by first | (simp [entryFrame, mkF, argsToLocals, Value.category]; done) | rfl
def Q4s2 (Z : State) (r0 : Addr) (p1 : Int32) (p2 : Int32) (arr : Addr) (fb : Nat → Value) (y0 y1 : Int64) (h0 : Heap) (n0 : Nat) (v : Option Value) (h : Heap) (L : List Loc) : Prop := v = none ∧ Fr n0 L ∧ Keep h0 h [r0, arr] ∧ Exa Z h r0 "com/example/tradewheel/tradewheel/PartQueue" ∧ Fld Z h r0 "com/example/tradewheel/tradewheel/PartQueue" "heap" "[J" (.ref arr) ∧ Fld Z h r0 "com/example/tradewheel/tradewheel/PartQueue" "size" "I" (.int (3 : Int32)) ∧ ∃ (f : Nat → Value) (u0 u1 u2 : Int64), OArr Z h arr .long 4 f ∧ f 0 = .long u0 ∧ f 1 = .long u1 ∧ f 2 = .long u2 ∧ AddR2 y0 y1 (entJ p1 p2) u0 u1 u2
set_option maxRecDepth 65536 in
set_option maxHeartbeats 40000000 in
theorem rm4s2 (l : Launch) (Z : State) (a0 : Array Value) (hw : ∀ d ∈ tables_1, d.before a0 Z = true) (ws : List Jvm.Cond) (r0 : Addr) (p1 : Int32) (p2 : Int32) (arr : Addr) (fb : Nat → Value) (y0 y1 : Int64) (h0 : Heap) (n0 : Nat) (Z0 : n0 ≤ h0.size) (E_r0 : Exa Z h0 r0 "com/example/tradewheel/tradewheel/PartQueue") (F1 : Fld Z h0 r0 "com/example/tradewheel/tradewheel/PartQueue" "heap" "[J" (.ref arr)) (F2 : Fld Z h0 r0 "com/example/tradewheel/tradewheel/PartQueue" "size" "I" (.int (2 : Int32))) (A1 : OArr Z h0 arr .long 4 fb) (ne_r0_arr : r0 ≠ arr) (g_r0 : n0 ≤ r0) (g_arr : n0 ≤ arr) (hy0 : fb 0 = .long y0) (hy1 : fb 1 = .long y1) :
    MetFree l (⟨"com/example/tradewheel/tradewheel/PartQueue", "add", "(II)V"⟩ : MethodName) (head1 (Jvm.Cond.code (⟨"com/example/tradewheel/tradewheel/PartQueue", "add", "(II)V"⟩ : MethodName) prog_22_method_2_code 6 none :: ws) ({ frames := 0, cells := 0, slots := 0, locals := 0 } : Room)) (fun a U => a = #[(.ref r0), (.int p1), (.int p2)] ∧ Z.Warmed39 U.vm ∧ U.heap = h0) (fun _ _ _ _ _ => True) (fun _ U o U' => ∃ v L, o = .returned v ∧ Q4s2 Z r0 p1 p2 arr fb y0 y1 h0 n0 v U'.heap L ∧ FrameEnd U o U' L ({ frames := 0, cells := 0, slots := 0, locals := 0 } : Room).cells ({ frames := 0, cells := 0, slots := 0, locals := 0 } : Room).slots) := by
  refine MetFree.of_bodySF (plainFor_of_name pn_4s2) hisR ?_
  intro p e s m args below meth c s₁ Bd hml0 hP hK
  obtain ⟨rfl, hZ, hh⟩ := hP
  have hx := Bd.exec
  have hby := Bd.bytes
  have hml : c.maxLocals = 6 := hml0
  have hown : s.vm.findClass "com/example/tradewheel/tradewheel/PartQueue" = some m.cls := findClass_of_methodNamed Bd.named
  have hnm := (name_of_methodNamed Bd.named Bd.method).1
  have X0 : Stand p l e ({ frames := 0, cells := 0, slots := 0, locals := 0 } : Room) s m #[(.ref r0), (.int p1), (.int p2)] below meth c s₁ [] 0 0 := Stand.of_body Bd
  have e0 : s₁.heap = h0 := by rw [← hh, Bd.state]; rfl
  have N0 := Fr.nil n0
  refine Runs.enter (ef_4s2 m r0 p1 p2) ?_
  show Runs _ _ _ _ s₁ (mkF m 0 #[.val (.ref r0), .val (.int p1), .val (.int p2), .unset, .unset, .unset] [])
  refine Runs.back (fun t_ k_ => XS.aloadN X0.here hx rfl (hb hby d4_0) rfl rfl k_) ?_
  show Runs _ _ _ _ s₁ (mkF m 1 #[.val (.ref r0), .val (.int p1), .val (.int p2), .unset, .unset, .unset] [(.ref r0)])
  refine Runs.back (fun t_ k_ => XS.dup X0.here hx rfl (hb hby d4_1) rfl rfl k_) ?_
  show Runs _ _ _ _ s₁ (mkF m 2 #[.val (.ref r0), .val (.int p1), .val (.int p2), .unset, .unset, .unset] [(.ref r0), (.ref r0)])
  obtain ⟨T1, X1, e1, st1⟩ := getF X0 hx hZ hown (host := "") (Or.inl (hw _ (List.mem_of_getElem? (i := 22) rfl))) Via.refl e0 F2 (g := (mkF m 2 #[.val (.ref r0), .val (.int p1), .val (.int p2), .unset, .unset, .unset] [(.ref r0), (.ref r0)])) rfl rfl (hb hby d4_2)
  refine Runs.back st1 ?_
  show Runs _ _ _ _ T1 (mkF m 5 #[.val (.ref r0), .val (.int p1), .val (.int p2), .unset, .unset, .unset] [(.int (2 : Int32)), (.ref r0)])
  refine Runs.back (fun t_ k_ => XS.dupX1 X1.here hx rfl (hb hby d4_5) rfl rfl rfl k_) ?_
  show Runs _ _ _ _ T1 (mkF m 6 #[.val (.ref r0), .val (.int p1), .val (.int p2), .unset, .unset, .unset] [(.int (2 : Int32)), (.ref r0), (.int (2 : Int32))])
  refine Runs.back (fun t_ k_ => XS.iconst X1.here hx rfl (hb hby d4_6) k_) ?_
  show Runs _ _ _ _ T1 (mkF m 7 #[.val (.ref r0), .val (.int p1), .val (.int p2), .unset, .unset, .unset] [(.int (1 : Int32)), (.int (2 : Int32)), (.ref r0), (.int (2 : Int32))])
  refine Runs.back (fun t_ k_ => XS.iadd X1.here hx rfl (hb hby d4_7) rfl k_) ?_
  show Runs _ _ _ _ T1 (mkF m 8 #[.val (.ref r0), .val (.int p1), .val (.int p2), .unset, .unset, .unset] [(.int ((2 : Int32) + (1 : Int32))), (.ref r0), (.int (2 : Int32))])
  rw [show ((2 : Int32) + (1 : Int32)) = (3 : Int32) from by decide]
  show Runs _ _ _ _ T1 (mkF m 8 #[.val (.ref r0), .val (.int p1), .val (.int p2), .unset, .unset, .unset] [(.int (3 : Int32)), (.ref r0), (.int (2 : Int32))])
  obtain ⟨T2, h2, X2, e2, W2, st2⟩ := putF X1 hx hZ hown (host := "") (Or.inl (hw _ (List.mem_of_getElem? (i := 22) rfl))) Via.refl e1 F2 E_r0 (Or.inl (hw _ (List.mem_of_getElem? (i := 23) rfl))) (hw _ (List.mem_of_getElem? (i := 6) rfl)) (ty := .int) (by decide) rfl rfl (g := (mkF m 8 #[.val (.ref r0), .val (.int p1), .val (.int p2), .unset, .unset, .unset] [(.int (3 : Int32)), (.ref r0), (.int (2 : Int32))])) rfl rfl (hb hby d4_8)
  have f2_Exa_0 : Exa Z h2 r0 "com/example/tradewheel/tradewheel/PartQueue" := Exa.wr W2 E_r0
  have f2_Fld_1 : Fld Z h2 r0 "com/example/tradewheel/tradewheel/PartQueue" "heap" "[J" (.ref arr) := Fld.other W2 F1 (Or.inr (slot_ne (Or.inr (hw _ (List.mem_of_getElem? (i := 16) rfl))) (Or.inl (hw _ (List.mem_of_getElem? (i := 23) rfl))) (by decide) (t := (.array .long)) (t' := .int) (by decide) (by decide)))
  have f2_Fld_2 : Fld Z h2 r0 "com/example/tradewheel/tradewheel/PartQueue" "size" "I" (.int (3 : Int32)) := Fld.same W2 F2
  have f2_Arr_3 : OArr Z h2 arr .long 4 fb := A1.other W2 (Ne.symm ne_r0_arr)
  have N2 := Fr.snoc X2 N0 g_r0
  obtain ⟨L2, X2, N2⟩ := hideL X2 N2
  have KK2 : Keep h0 h2 [r0, arr] := Keep.wr (Keep.refl h0 [r0, arr]) W2 (Or.inl (List.mem_of_getElem? (i := 0) rfl))
  have Z2 : n0 ≤ h2.size := Nat.le_trans (Z0) (Nat.le_of_eq W2.size.symm)
  refine Runs.back st2 ?_
  show Runs _ _ _ _ T2 (mkF m 11 #[.val (.ref r0), .val (.int p1), .val (.int p2), .unset, .unset, .unset] [(.int (2 : Int32))])
  refine Runs.back (fun t_ k_ => XS.istoreN X2.here hx rfl (hb hby d4_11) rfl (l' := #[.val (.ref r0), .val (.int p1), .val (.int p2), .val (.int (2 : Int32)), .unset, .unset]) rfl k_) ?_
  show Runs _ _ _ _ T2 (mkF m 12 #[.val (.ref r0), .val (.int p1), .val (.int p2), .val (.int (2 : Int32)), .unset, .unset] [])
  refine Runs.back (fun t_ k_ => XS.iloadN X2.here hx rfl (hb hby d4_12) rfl k_) ?_
  show Runs _ _ _ _ T2 (mkF m 13 #[.val (.ref r0), .val (.int p1), .val (.int p2), .val (.int (2 : Int32)), .unset, .unset] [(.int p1)])
  refine Runs.back (fun t_ k_ => XS.i2l X2.here hx rfl (hb hby d4_13) rfl k_) ?_
  show Runs _ _ _ _ T2 (mkF m 14 #[.val (.ref r0), .val (.int p1), .val (.int p2), .val (.int (2 : Int32)), .unset, .unset] [(.long (p1.toInt64))])
  refine Runs.back (fun t_ k_ => XS.bipush X2.here hx rfl (hb hby d4_14) k_) ?_
  show Runs _ _ _ _ T2 (mkF m 16 #[.val (.ref r0), .val (.int p1), .val (.int p2), .val (.int (2 : Int32)), .unset, .unset] [(.int (32 : Int32)), (.long (p1.toInt64))])
  refine Runs.back (fun t_ k_ => XS.lshl X2.here hx rfl (hb hby d4_16) rfl k_) ?_
  show Runs _ _ _ _ T2 (mkF m 17 #[.val (.ref r0), .val (.int p1), .val (.int p2), .val (.int (2 : Int32)), .unset, .unset] [(.long ((p1.toInt64) <<< ((32 : Int32) &&& 0x3f).toInt64))])
  refine Runs.back (fun t_ k_ => XS.iloadN X2.here hx rfl (hb hby d4_17) rfl k_) ?_
  show Runs _ _ _ _ T2 (mkF m 18 #[.val (.ref r0), .val (.int p1), .val (.int p2), .val (.int (2 : Int32)), .unset, .unset] [(.int p2), (.long ((p1.toInt64) <<< ((32 : Int32) &&& 0x3f).toInt64))])
  refine Runs.back (fun t_ k_ => XS.i2l X2.here hx rfl (hb hby d4_18) rfl k_) ?_
  show Runs _ _ _ _ T2 (mkF m 19 #[.val (.ref r0), .val (.int p1), .val (.int p2), .val (.int (2 : Int32)), .unset, .unset] [(.long (p2.toInt64)), (.long ((p1.toInt64) <<< ((32 : Int32) &&& 0x3f).toInt64))])
  refine Runs.back (fun t_ k_ => XS.lor X2.here hx rfl (hb hby d4_19) rfl k_) ?_
  show Runs _ _ _ _ T2 (mkF m 20 #[.val (.ref r0), .val (.int p1), .val (.int p2), .val (.int (2 : Int32)), .unset, .unset] [(.long (((p1.toInt64) <<< ((32 : Int32) &&& 0x3f).toInt64) ||| (p2.toInt64)))])
  rw [show (((p1.toInt64) <<< ((32 : Int32) &&& 0x3f).toInt64) ||| (p2.toInt64)) = entJ p1 p2 from rfl]
  show Runs _ _ _ _ T2 (mkF m 20 #[.val (.ref r0), .val (.int p1), .val (.int p2), .val (.int (2 : Int32)), .unset, .unset] [(.long (entJ p1 p2))])
  refine Runs.back (fun t_ k_ => XS.lstore X2.here hx rfl (hb hby d4_20) rfl (l' := #[.val (.ref r0), .val (.int p1), .val (.int p2), .val (.int (2 : Int32)), .val (.long (entJ p1 p2)), .second]) rfl k_) ?_
  show Runs _ _ _ _ T2 (mkF m 22 #[.val (.ref r0), .val (.int p1), .val (.int p2), .val (.int (2 : Int32)), .val (.long (entJ p1 p2)), .second] [])
  refine Runs.back (fun t_ k_ => XS.iloadN X2.here hx rfl (hb hby d4_22) rfl k_) ?_
  show Runs _ _ _ _ T2 (mkF m 23 #[.val (.ref r0), .val (.int p1), .val (.int p2), .val (.int (2 : Int32)), .val (.long (entJ p1 p2)), .second] [(.int (2 : Int32))])
  refine Runs.back (fun t_ k_ => XS.ifNo X2.here hx rfl (hb hby d4_23) rfl ((if0 _ _).trans (tlt (show (0 : Int32) < (2 : Int32) from (by decide))).2.2.2) k_) ?_
  show Runs _ _ _ _ T2 (mkF m 26 #[.val (.ref r0), .val (.int p1), .val (.int p2), .val (.int (2 : Int32)), .val (.long (entJ p1 p2)), .second] [])
  refine Runs.back (fun t_ k_ => XS.aloadN X2.here hx rfl (hb hby d4_26) rfl rfl k_) ?_
  show Runs _ _ _ _ T2 (mkF m 27 #[.val (.ref r0), .val (.int p1), .val (.int p2), .val (.int (2 : Int32)), .val (.long (entJ p1 p2)), .second] [(.ref r0)])
  obtain ⟨T3, X3, e3, st3⟩ := getF X2 hx hZ hown (host := "") (Or.inl (hw _ (List.mem_of_getElem? (i := 15) rfl))) Via.refl e2 f2_Fld_1 (g := (mkF m 27 #[.val (.ref r0), .val (.int p1), .val (.int p2), .val (.int (2 : Int32)), .val (.long (entJ p1 p2)), .second] [(.ref r0)])) rfl rfl (hb hby d4_27)
  refine Runs.back st3 ?_
  show Runs _ _ _ _ T3 (mkF m 30 #[.val (.ref r0), .val (.int p1), .val (.int p2), .val (.int (2 : Int32)), .val (.long (entJ p1 p2)), .second] [(.ref arr)])
  refine Runs.back (fun t_ k_ => XS.iloadN X3.here hx rfl (hb hby d4_30) rfl k_) ?_
  show Runs _ _ _ _ T3 (mkF m 31 #[.val (.ref r0), .val (.int p1), .val (.int p2), .val (.int (2 : Int32)), .val (.long (entJ p1 p2)), .second] [(.int (2 : Int32)), (.ref arr)])
  refine Runs.back (fun t_ k_ => XS.iconst X3.here hx rfl (hb hby d4_31) k_) ?_
  show Runs _ _ _ _ T3 (mkF m 32 #[.val (.ref r0), .val (.int p1), .val (.int p2), .val (.int (2 : Int32)), .val (.long (entJ p1 p2)), .second] [(.int (1 : Int32)), (.int (2 : Int32)), (.ref arr)])
  refine Runs.back (fun t_ k_ => XS.isub X3.here hx rfl (hb hby d4_32) rfl k_) ?_
  show Runs _ _ _ _ T3 (mkF m 33 #[.val (.ref r0), .val (.int p1), .val (.int p2), .val (.int (2 : Int32)), .val (.long (entJ p1 p2)), .second] [(.int ((2 : Int32) - (1 : Int32))), (.ref arr)])
  rw [show ((2 : Int32) - (1 : Int32)) = (1 : Int32) from by decide]
  show Runs _ _ _ _ T3 (mkF m 33 #[.val (.ref r0), .val (.int p1), .val (.int p2), .val (.int (2 : Int32)), .val (.long (entJ p1 p2)), .second] [(.int (1 : Int32)), (.ref arr)])
  refine Runs.back (fun t_ k_ => XS.iconst X3.here hx rfl (hb hby d4_33) k_) ?_
  show Runs _ _ _ _ T3 (mkF m 34 #[.val (.ref r0), .val (.int p1), .val (.int p2), .val (.int (2 : Int32)), .val (.long (entJ p1 p2)), .second] [(.int (2 : Int32)), (.int (1 : Int32)), (.ref arr)])
  refine Runs.back (fun t_ k_ => XS.idiv X3.here hx rfl (hb hby d4_34) rfl (by decide) k_) ?_
  show Runs _ _ _ _ T3 (mkF m 35 #[.val (.ref r0), .val (.int p1), .val (.int p2), .val (.int (2 : Int32)), .val (.long (entJ p1 p2)), .second] [(.int ((1 : Int32) / (2 : Int32))), (.ref arr)])
  rw [show ((1 : Int32) / (2 : Int32)) = (0 : Int32) from by decide]
  show Runs _ _ _ _ T3 (mkF m 35 #[.val (.ref r0), .val (.int p1), .val (.int p2), .val (.int (2 : Int32)), .val (.long (entJ p1 p2)), .second] [(.int (0 : Int32)), (.ref arr)])
  obtain ⟨cl4, Ar4, S4, Hs4⟩ := id f2_Arr_3
  have at4 : cl4.slots[((0 : Int32)).toNatClampNeg]? = some (.long y0) := readO Hs4 (rfl : ((0 : Int32)).toNatClampNeg = 0) (show 0 < 4 from (by first | omega | decide)) (hy0)
  refine Runs.back (fun t_ k_ => X3.laload hx (j := (0 : Int32)) (v := (.long y0)) (by rw [e3]; exact Ar4.1) (State.isArrayOf_alike hZ.alike Ar4.2.1) Ar4.2.2 (by rw [S4]; exact (inbO (by decide : ¬ (0 : Int32) < 0) (rfl : ((0 : Int32)).toNatClampNeg = 0) (show 0 < 4 from (by first | omega | decide)))) at4 (g := (mkF m 35 #[.val (.ref r0), .val (.int p1), .val (.int p2), .val (.int (2 : Int32)), .val (.long (entJ p1 p2)), .second] [(.int (0 : Int32)), (.ref arr)])) rfl rfl (hb hby d4_35) _ k_) ?_
  show Runs _ _ _ _ T3 (mkF m 36 #[.val (.ref r0), .val (.int p1), .val (.int p2), .val (.int (2 : Int32)), .val (.long (entJ p1 p2)), .second] [(.long y0)])
  refine Runs.back (fun t_ k_ => XS.lload X3.here hx rfl (hb hby d4_36) rfl k_) ?_
  show Runs _ _ _ _ T3 (mkF m 38 #[.val (.ref r0), .val (.int p1), .val (.int p2), .val (.int (2 : Int32)), .val (.long (entJ p1 p2)), .second] [(.long (entJ p1 p2)), (.long y0)])
  refine Runs.back (fun t_ k_ => XS.lcmp X3.here hx rfl (hb hby d4_38) rfl k_) ?_
  show Runs _ _ _ _ T3 (mkF m 39 #[.val (.ref r0), .val (.int p1), .val (.int p2), .val (.int (2 : Int32)), .val (.long (entJ p1 p2)), .second] [(.int (lcmpW y0 (entJ p1 p2)))])
  by_cases c39_5 : (entJ p1 p2) < y0
  · refine Runs.back (fun t_ k_ => XS.ifNo X3.here hx rfl (hb hby d4_39) rfl ((if0 _ _).trans (tlt (lcT' c39_5)).2.2.2) k_) ?_
    show Runs _ _ _ _ T3 (mkF m 42 #[.val (.ref r0), .val (.int p1), .val (.int p2), .val (.int (2 : Int32)), .val (.long (entJ p1 p2)), .second] [])
    refine Runs.back (fun t_ k_ => XS.aloadN X3.here hx rfl (hb hby d4_42) rfl rfl k_) ?_
    show Runs _ _ _ _ T3 (mkF m 43 #[.val (.ref r0), .val (.int p1), .val (.int p2), .val (.int (2 : Int32)), .val (.long (entJ p1 p2)), .second] [(.ref r0)])
    obtain ⟨T6, X6, e6, st6⟩ := getF X3 hx hZ hown (host := "") (Or.inl (hw _ (List.mem_of_getElem? (i := 15) rfl))) Via.refl e3 f2_Fld_1 (g := (mkF m 43 #[.val (.ref r0), .val (.int p1), .val (.int p2), .val (.int (2 : Int32)), .val (.long (entJ p1 p2)), .second] [(.ref r0)])) rfl rfl (hb hby d4_43)
    refine Runs.back st6 ?_
    show Runs _ _ _ _ T6 (mkF m 46 #[.val (.ref r0), .val (.int p1), .val (.int p2), .val (.int (2 : Int32)), .val (.long (entJ p1 p2)), .second] [(.ref arr)])
    refine Runs.back (fun t_ k_ => XS.iloadN X6.here hx rfl (hb hby d4_46) rfl k_) ?_
    show Runs _ _ _ _ T6 (mkF m 47 #[.val (.ref r0), .val (.int p1), .val (.int p2), .val (.int (2 : Int32)), .val (.long (entJ p1 p2)), .second] [(.int (2 : Int32)), (.ref arr)])
    refine Runs.back (fun t_ k_ => XS.aloadN X6.here hx rfl (hb hby d4_47) rfl rfl k_) ?_
    show Runs _ _ _ _ T6 (mkF m 48 #[.val (.ref r0), .val (.int p1), .val (.int p2), .val (.int (2 : Int32)), .val (.long (entJ p1 p2)), .second] [(.ref r0), (.int (2 : Int32)), (.ref arr)])
    obtain ⟨T7, X7, e7, st7⟩ := getF X6 hx hZ hown (host := "") (Or.inl (hw _ (List.mem_of_getElem? (i := 15) rfl))) Via.refl e6 f2_Fld_1 (g := (mkF m 48 #[.val (.ref r0), .val (.int p1), .val (.int p2), .val (.int (2 : Int32)), .val (.long (entJ p1 p2)), .second] [(.ref r0), (.int (2 : Int32)), (.ref arr)])) rfl rfl (hb hby d4_48)
    refine Runs.back st7 ?_
    show Runs _ _ _ _ T7 (mkF m 51 #[.val (.ref r0), .val (.int p1), .val (.int p2), .val (.int (2 : Int32)), .val (.long (entJ p1 p2)), .second] [(.ref arr), (.int (2 : Int32)), (.ref arr)])
    refine Runs.back (fun t_ k_ => XS.iloadN X7.here hx rfl (hb hby d4_51) rfl k_) ?_
    show Runs _ _ _ _ T7 (mkF m 52 #[.val (.ref r0), .val (.int p1), .val (.int p2), .val (.int (2 : Int32)), .val (.long (entJ p1 p2)), .second] [(.int (2 : Int32)), (.ref arr), (.int (2 : Int32)), (.ref arr)])
    refine Runs.back (fun t_ k_ => XS.iconst X7.here hx rfl (hb hby d4_52) k_) ?_
    show Runs _ _ _ _ T7 (mkF m 53 #[.val (.ref r0), .val (.int p1), .val (.int p2), .val (.int (2 : Int32)), .val (.long (entJ p1 p2)), .second] [(.int (1 : Int32)), (.int (2 : Int32)), (.ref arr), (.int (2 : Int32)), (.ref arr)])
    refine Runs.back (fun t_ k_ => XS.isub X7.here hx rfl (hb hby d4_53) rfl k_) ?_
    show Runs _ _ _ _ T7 (mkF m 54 #[.val (.ref r0), .val (.int p1), .val (.int p2), .val (.int (2 : Int32)), .val (.long (entJ p1 p2)), .second] [(.int ((2 : Int32) - (1 : Int32))), (.ref arr), (.int (2 : Int32)), (.ref arr)])
    rw [show ((2 : Int32) - (1 : Int32)) = (1 : Int32) from by decide]
    show Runs _ _ _ _ T7 (mkF m 54 #[.val (.ref r0), .val (.int p1), .val (.int p2), .val (.int (2 : Int32)), .val (.long (entJ p1 p2)), .second] [(.int (1 : Int32)), (.ref arr), (.int (2 : Int32)), (.ref arr)])
    refine Runs.back (fun t_ k_ => XS.iconst X7.here hx rfl (hb hby d4_54) k_) ?_
    show Runs _ _ _ _ T7 (mkF m 55 #[.val (.ref r0), .val (.int p1), .val (.int p2), .val (.int (2 : Int32)), .val (.long (entJ p1 p2)), .second] [(.int (2 : Int32)), (.int (1 : Int32)), (.ref arr), (.int (2 : Int32)), (.ref arr)])
    refine Runs.back (fun t_ k_ => XS.idiv X7.here hx rfl (hb hby d4_55) rfl (by decide) k_) ?_
    show Runs _ _ _ _ T7 (mkF m 56 #[.val (.ref r0), .val (.int p1), .val (.int p2), .val (.int (2 : Int32)), .val (.long (entJ p1 p2)), .second] [(.int ((1 : Int32) / (2 : Int32))), (.ref arr), (.int (2 : Int32)), (.ref arr)])
    rw [show ((1 : Int32) / (2 : Int32)) = (0 : Int32) from by decide]
    show Runs _ _ _ _ T7 (mkF m 56 #[.val (.ref r0), .val (.int p1), .val (.int p2), .val (.int (2 : Int32)), .val (.long (entJ p1 p2)), .second] [(.int (0 : Int32)), (.ref arr), (.int (2 : Int32)), (.ref arr)])
    obtain ⟨cl8, Ar8, S8, Hs8⟩ := id f2_Arr_3
    have at8 : cl8.slots[((0 : Int32)).toNatClampNeg]? = some (.long y0) := readO Hs8 (rfl : ((0 : Int32)).toNatClampNeg = 0) (show 0 < 4 from (by first | omega | decide)) (hy0)
    refine Runs.back (fun t_ k_ => X7.laload hx (j := (0 : Int32)) (v := (.long y0)) (by rw [e7]; exact Ar8.1) (State.isArrayOf_alike hZ.alike Ar8.2.1) Ar8.2.2 (by rw [S8]; exact (inbO (by decide : ¬ (0 : Int32) < 0) (rfl : ((0 : Int32)).toNatClampNeg = 0) (show 0 < 4 from (by first | omega | decide)))) at8 (g := (mkF m 56 #[.val (.ref r0), .val (.int p1), .val (.int p2), .val (.int (2 : Int32)), .val (.long (entJ p1 p2)), .second] [(.int (0 : Int32)), (.ref arr), (.int (2 : Int32)), (.ref arr)])) rfl rfl (hb hby d4_56) _ k_) ?_
    show Runs _ _ _ _ T7 (mkF m 57 #[.val (.ref r0), .val (.int p1), .val (.int p2), .val (.int (2 : Int32)), .val (.long (entJ p1 p2)), .second] [(.long y0), (.int (2 : Int32)), (.ref arr)])
    obtain ⟨cl9, Ar9, S9, Hs9⟩ := id f2_Arr_3
    obtain ⟨T9, h9, X9, e9, W9, st9⟩ := stJ X7 hx hZ e7 Ar9 (j := (2 : Int32)) (by rw [S9]; exact (inbO (by decide : ¬ (2 : Int32) < 0) (rfl : ((2 : Int32)).toNatClampNeg = 2) (show 2 < 4 from (by first | omega | decide)))) (g := (mkF m 57 #[.val (.ref r0), .val (.int p1), .val (.int p2), .val (.int (2 : Int32)), .val (.long (entJ p1 p2)), .second] [(.long y0), (.int (2 : Int32)), (.ref arr)])) rfl rfl (hb hby d4_57)
    have N9 := Fr.snoc X9 N2 g_arr
    obtain ⟨L9, X9, N9⟩ := hideL X9 N9
    rw [(rfl : ((2 : Int32)).toNatClampNeg = 2)] at W9
    have f9_Exa_0 : Exa Z h9 r0 "com/example/tradewheel/tradewheel/PartQueue" := Exa.wr W9 f2_Exa_0
    have f9_Fld_1 : Fld Z h9 r0 "com/example/tradewheel/tradewheel/PartQueue" "heap" "[J" (.ref arr) := Fld.other W9 f2_Fld_1 (Or.inl ne_r0_arr)
    have f9_Fld_2 : Fld Z h9 r0 "com/example/tradewheel/tradewheel/PartQueue" "size" "I" (.int (3 : Int32)) := Fld.other W9 f2_Fld_2 (Or.inl ne_r0_arr)
    have f9_Arr_3 : OArr Z h9 arr .long 4 (fun i => if i = 2 then (Value.long y0) else fb i) := f2_Arr_3.set W9
    have KK9 : Keep h0 h9 [r0, arr] := Keep.wr KK2 W9 (Or.inl (List.mem_of_getElem? (i := 1) rfl))
    have Z9 : n0 ≤ h9.size := Nat.le_trans (Z2) (Nat.le_of_eq W9.size.symm)
    refine Runs.back st9 ?_
    show Runs _ _ _ _ T9 (mkF m 58 #[.val (.ref r0), .val (.int p1), .val (.int p2), .val (.int (2 : Int32)), .val (.long (entJ p1 p2)), .second] [])
    refine Runs.back (fun t_ k_ => XS.iloadN X9.here hx rfl (hb hby d4_58) rfl k_) ?_
    show Runs _ _ _ _ T9 (mkF m 59 #[.val (.ref r0), .val (.int p1), .val (.int p2), .val (.int (2 : Int32)), .val (.long (entJ p1 p2)), .second] [(.int (2 : Int32))])
    refine Runs.back (fun t_ k_ => XS.iconst X9.here hx rfl (hb hby d4_59) k_) ?_
    show Runs _ _ _ _ T9 (mkF m 60 #[.val (.ref r0), .val (.int p1), .val (.int p2), .val (.int (2 : Int32)), .val (.long (entJ p1 p2)), .second] [(.int (1 : Int32)), (.int (2 : Int32))])
    refine Runs.back (fun t_ k_ => XS.isub X9.here hx rfl (hb hby d4_60) rfl k_) ?_
    show Runs _ _ _ _ T9 (mkF m 61 #[.val (.ref r0), .val (.int p1), .val (.int p2), .val (.int (2 : Int32)), .val (.long (entJ p1 p2)), .second] [(.int ((2 : Int32) - (1 : Int32)))])
    rw [show ((2 : Int32) - (1 : Int32)) = (1 : Int32) from by decide]
    show Runs _ _ _ _ T9 (mkF m 61 #[.val (.ref r0), .val (.int p1), .val (.int p2), .val (.int (2 : Int32)), .val (.long (entJ p1 p2)), .second] [(.int (1 : Int32))])
    refine Runs.back (fun t_ k_ => XS.iconst X9.here hx rfl (hb hby d4_61) k_) ?_
    show Runs _ _ _ _ T9 (mkF m 62 #[.val (.ref r0), .val (.int p1), .val (.int p2), .val (.int (2 : Int32)), .val (.long (entJ p1 p2)), .second] [(.int (2 : Int32)), (.int (1 : Int32))])
    refine Runs.back (fun t_ k_ => XS.idiv X9.here hx rfl (hb hby d4_62) rfl (by decide) k_) ?_
    show Runs _ _ _ _ T9 (mkF m 63 #[.val (.ref r0), .val (.int p1), .val (.int p2), .val (.int (2 : Int32)), .val (.long (entJ p1 p2)), .second] [(.int ((1 : Int32) / (2 : Int32)))])
    rw [show ((1 : Int32) / (2 : Int32)) = (0 : Int32) from by decide]
    show Runs _ _ _ _ T9 (mkF m 63 #[.val (.ref r0), .val (.int p1), .val (.int p2), .val (.int (2 : Int32)), .val (.long (entJ p1 p2)), .second] [(.int (0 : Int32))])
    refine Runs.back (fun t_ k_ => XS.istoreN X9.here hx rfl (hb hby d4_63) rfl (l' := #[.val (.ref r0), .val (.int p1), .val (.int p2), .val (.int (0 : Int32)), .val (.long (entJ p1 p2)), .second]) rfl k_) ?_
    show Runs _ _ _ _ T9 (mkF m 64 #[.val (.ref r0), .val (.int p1), .val (.int p2), .val (.int (0 : Int32)), .val (.long (entJ p1 p2)), .second] [])
    refine Runs.back (fun t_ k_ => XS.goto X9.here hx rfl (pc0 := 64) (pc' := 22) rfl (hb hby d4_64) (by decide) (by decide) k_) ?_
    show Runs _ _ _ _ T9 (mkF m 22 #[.val (.ref r0), .val (.int p1), .val (.int p2), .val (.int (0 : Int32)), .val (.long (entJ p1 p2)), .second] [])
    refine Runs.back (fun t_ k_ => XS.iloadN X9.here hx rfl (hb hby d4_22) rfl k_) ?_
    show Runs _ _ _ _ T9 (mkF m 23 #[.val (.ref r0), .val (.int p1), .val (.int p2), .val (.int (0 : Int32)), .val (.long (entJ p1 p2)), .second] [(.int (0 : Int32))])
    refine Runs.back (fun t_ k_ => XS.ifYes X9.here hx rfl (pc0 := 23) (pc' := 67) rfl (hb hby d4_23) rfl ((if0 _ _).trans (flt (show ¬ ((0 : Int32) < (0 : Int32)) from (by decide))).2.2.2) (by decide) (by decide) k_) ?_
    show Runs _ _ _ _ T9 (mkF m 67 #[.val (.ref r0), .val (.int p1), .val (.int p2), .val (.int (0 : Int32)), .val (.long (entJ p1 p2)), .second] [])
    refine Runs.back (fun t_ k_ => XS.aloadN X9.here hx rfl (hb hby d4_67) rfl rfl k_) ?_
    show Runs _ _ _ _ T9 (mkF m 68 #[.val (.ref r0), .val (.int p1), .val (.int p2), .val (.int (0 : Int32)), .val (.long (entJ p1 p2)), .second] [(.ref r0)])
    obtain ⟨T10, X10, e10, st10⟩ := getF X9 hx hZ hown (host := "") (Or.inl (hw _ (List.mem_of_getElem? (i := 15) rfl))) Via.refl e9 f9_Fld_1 (g := (mkF m 68 #[.val (.ref r0), .val (.int p1), .val (.int p2), .val (.int (0 : Int32)), .val (.long (entJ p1 p2)), .second] [(.ref r0)])) rfl rfl (hb hby d4_68)
    refine Runs.back st10 ?_
    show Runs _ _ _ _ T10 (mkF m 71 #[.val (.ref r0), .val (.int p1), .val (.int p2), .val (.int (0 : Int32)), .val (.long (entJ p1 p2)), .second] [(.ref arr)])
    refine Runs.back (fun t_ k_ => XS.iloadN X10.here hx rfl (hb hby d4_71) rfl k_) ?_
    show Runs _ _ _ _ T10 (mkF m 72 #[.val (.ref r0), .val (.int p1), .val (.int p2), .val (.int (0 : Int32)), .val (.long (entJ p1 p2)), .second] [(.int (0 : Int32)), (.ref arr)])
    refine Runs.back (fun t_ k_ => XS.lload X10.here hx rfl (hb hby d4_72) rfl k_) ?_
    show Runs _ _ _ _ T10 (mkF m 74 #[.val (.ref r0), .val (.int p1), .val (.int p2), .val (.int (0 : Int32)), .val (.long (entJ p1 p2)), .second] [(.long (entJ p1 p2)), (.int (0 : Int32)), (.ref arr)])
    obtain ⟨cl11, Ar11, S11, Hs11⟩ := id f9_Arr_3
    obtain ⟨T11, h11, X11, e11, W11, st11⟩ := stJ X10 hx hZ e10 Ar11 (j := (0 : Int32)) (by rw [S11]; exact (inbO (by decide : ¬ (0 : Int32) < 0) (rfl : ((0 : Int32)).toNatClampNeg = 0) (show 0 < 4 from (by first | omega | decide)))) (g := (mkF m 74 #[.val (.ref r0), .val (.int p1), .val (.int p2), .val (.int (0 : Int32)), .val (.long (entJ p1 p2)), .second] [(.long (entJ p1 p2)), (.int (0 : Int32)), (.ref arr)])) rfl rfl (hb hby d4_74)
    have N11 := Fr.snoc X11 N9 g_arr
    obtain ⟨L11, X11, N11⟩ := hideL X11 N11
    rw [(rfl : ((0 : Int32)).toNatClampNeg = 0)] at W11
    have f11_Exa_0 : Exa Z h11 r0 "com/example/tradewheel/tradewheel/PartQueue" := Exa.wr W11 f9_Exa_0
    have f11_Fld_1 : Fld Z h11 r0 "com/example/tradewheel/tradewheel/PartQueue" "heap" "[J" (.ref arr) := Fld.other W11 f9_Fld_1 (Or.inl ne_r0_arr)
    have f11_Fld_2 : Fld Z h11 r0 "com/example/tradewheel/tradewheel/PartQueue" "size" "I" (.int (3 : Int32)) := Fld.other W11 f9_Fld_2 (Or.inl ne_r0_arr)
    have f11_Arr_3 : OArr Z h11 arr .long 4 (fun i => if i = 0 then (Value.long (entJ p1 p2)) else (fun i => if i = 2 then (Value.long y0) else fb i) i) := f9_Arr_3.set W11
    have KK11 : Keep h0 h11 [r0, arr] := Keep.wr KK9 W11 (Or.inl (List.mem_of_getElem? (i := 1) rfl))
    have Z11 : n0 ≤ h11.size := Nat.le_trans (Z9) (Nat.le_of_eq W11.size.symm)
    refine Runs.back st11 ?_
    show Runs _ _ _ _ T11 (mkF m 75 #[.val (.ref r0), .val (.int p1), .val (.int p2), .val (.int (0 : Int32)), .val (.long (entJ p1 p2)), .second] [])
    obtain ⟨fs, hr, hrun, hended, hW, hsame⟩ := X11.leave (v := none) (fun _ => rfl)
    exact ⟨_, _, (X11.returnOut hx Bd.returns (hb hby d4_75) hr), hrun, hended, _, _, rfl, (by show Q4s2 Z r0 p1 p2 arr fb y0 y1 h0 n0 _ T11.heap _; rw [e11]; exact ⟨rfl, N11, KK11, f11_Exa_0, f11_Fld_1, f11_Fld_2, _, (entJ p1 p2), y1, y0, f11_Arr_3, rfl, hy1, rfl, Or.inl ⟨c39_5, rfl, rfl, rfl⟩⟩), ⟨_, rfl⟩, hW, hsame.mono (by decide) (by decide)⟩
  · refine Runs.back (fun t_ k_ => XS.ifYes X3.here hx rfl (pc0 := 39) (pc' := 67) rfl (hb hby d4_39) rfl ((if0 _ _).trans (flt (lcF' c39_5)).2.2.2) (by decide) (by decide) k_) ?_
    show Runs _ _ _ _ T3 (mkF m 67 #[.val (.ref r0), .val (.int p1), .val (.int p2), .val (.int (2 : Int32)), .val (.long (entJ p1 p2)), .second] [])
    refine Runs.back (fun t_ k_ => XS.aloadN X3.here hx rfl (hb hby d4_67) rfl rfl k_) ?_
    show Runs _ _ _ _ T3 (mkF m 68 #[.val (.ref r0), .val (.int p1), .val (.int p2), .val (.int (2 : Int32)), .val (.long (entJ p1 p2)), .second] [(.ref r0)])
    obtain ⟨T12, X12, e12, st12⟩ := getF X3 hx hZ hown (host := "") (Or.inl (hw _ (List.mem_of_getElem? (i := 15) rfl))) Via.refl e3 f2_Fld_1 (g := (mkF m 68 #[.val (.ref r0), .val (.int p1), .val (.int p2), .val (.int (2 : Int32)), .val (.long (entJ p1 p2)), .second] [(.ref r0)])) rfl rfl (hb hby d4_68)
    refine Runs.back st12 ?_
    show Runs _ _ _ _ T12 (mkF m 71 #[.val (.ref r0), .val (.int p1), .val (.int p2), .val (.int (2 : Int32)), .val (.long (entJ p1 p2)), .second] [(.ref arr)])
    refine Runs.back (fun t_ k_ => XS.iloadN X12.here hx rfl (hb hby d4_71) rfl k_) ?_
    show Runs _ _ _ _ T12 (mkF m 72 #[.val (.ref r0), .val (.int p1), .val (.int p2), .val (.int (2 : Int32)), .val (.long (entJ p1 p2)), .second] [(.int (2 : Int32)), (.ref arr)])
    refine Runs.back (fun t_ k_ => XS.lload X12.here hx rfl (hb hby d4_72) rfl k_) ?_
    show Runs _ _ _ _ T12 (mkF m 74 #[.val (.ref r0), .val (.int p1), .val (.int p2), .val (.int (2 : Int32)), .val (.long (entJ p1 p2)), .second] [(.long (entJ p1 p2)), (.int (2 : Int32)), (.ref arr)])
    obtain ⟨cl13, Ar13, S13, Hs13⟩ := id f2_Arr_3
    obtain ⟨T13, h13, X13, e13, W13, st13⟩ := stJ X12 hx hZ e12 Ar13 (j := (2 : Int32)) (by rw [S13]; exact (inbO (by decide : ¬ (2 : Int32) < 0) (rfl : ((2 : Int32)).toNatClampNeg = 2) (show 2 < 4 from (by first | omega | decide)))) (g := (mkF m 74 #[.val (.ref r0), .val (.int p1), .val (.int p2), .val (.int (2 : Int32)), .val (.long (entJ p1 p2)), .second] [(.long (entJ p1 p2)), (.int (2 : Int32)), (.ref arr)])) rfl rfl (hb hby d4_74)
    have N13 := Fr.snoc X13 N2 g_arr
    obtain ⟨L13, X13, N13⟩ := hideL X13 N13
    rw [(rfl : ((2 : Int32)).toNatClampNeg = 2)] at W13
    have f13_Exa_0 : Exa Z h13 r0 "com/example/tradewheel/tradewheel/PartQueue" := Exa.wr W13 f2_Exa_0
    have f13_Fld_1 : Fld Z h13 r0 "com/example/tradewheel/tradewheel/PartQueue" "heap" "[J" (.ref arr) := Fld.other W13 f2_Fld_1 (Or.inl ne_r0_arr)
    have f13_Fld_2 : Fld Z h13 r0 "com/example/tradewheel/tradewheel/PartQueue" "size" "I" (.int (3 : Int32)) := Fld.other W13 f2_Fld_2 (Or.inl ne_r0_arr)
    have f13_Arr_3 : OArr Z h13 arr .long 4 (fun i => if i = 2 then (Value.long (entJ p1 p2)) else fb i) := f2_Arr_3.set W13
    have KK13 : Keep h0 h13 [r0, arr] := Keep.wr KK2 W13 (Or.inl (List.mem_of_getElem? (i := 1) rfl))
    have Z13 : n0 ≤ h13.size := Nat.le_trans (Z2) (Nat.le_of_eq W13.size.symm)
    refine Runs.back st13 ?_
    show Runs _ _ _ _ T13 (mkF m 75 #[.val (.ref r0), .val (.int p1), .val (.int p2), .val (.int (2 : Int32)), .val (.long (entJ p1 p2)), .second] [])
    obtain ⟨fs, hr, hrun, hended, hW, hsame⟩ := X13.leave (v := none) (fun _ => rfl)
    exact ⟨_, _, (X13.returnOut hx Bd.returns (hb hby d4_75) hr), hrun, hended, _, _, rfl, (by show Q4s2 Z r0 p1 p2 arr fb y0 y1 h0 n0 _ T13.heap _; rw [e13]; exact ⟨rfl, N13, KK13, f13_Exa_0, f13_Fld_1, f13_Fld_2, _, y0, y1, (entJ p1 p2), f13_Arr_3, hy0, hy1, rfl, Or.inr ⟨c39_5, rfl, rfl, rfl⟩⟩), ⟨_, rfl⟩, hW, hsame.mono (by decide) (by decide)⟩
theorem pn_4s3 : plainName "com/example/tradewheel/tradewheel/PartQueue" = true := by first | (simp [plainName, overriddenIn]; done) | decide +kernel
theorem ef_4s3 (m : MethodId) (r0 : Addr) (p1 : Int32) (p2 : Int32) : entryFrame m #[(.ref r0), (.int p1), (.int p2)] 6 = mkF m 0 #[.val (.ref r0), .val (.int p1), .val (.int p2), .unset, .unset, .unset] [] := by first | (simp [entryFrame, mkF, argsToLocals, Value.category]; done) | rfl
def Q4s3 (Z : State) (r0 : Addr) (p1 : Int32) (p2 : Int32) (arr : Addr) (fb : Nat → Value) (y0 y1 y2 : Int64) (h0 : Heap) (n0 : Nat) (v : Option Value) (h : Heap) (L : List Loc) : Prop := v = none ∧ Fr n0 L ∧ Keep h0 h [r0, arr] ∧ Exa Z h r0 "com/example/tradewheel/tradewheel/PartQueue" ∧ Fld Z h r0 "com/example/tradewheel/tradewheel/PartQueue" "heap" "[J" (.ref arr) ∧ Fld Z h r0 "com/example/tradewheel/tradewheel/PartQueue" "size" "I" (.int (4 : Int32)) ∧ ∃ (f : Nat → Value) (u0 u1 u2 u3 : Int64), OArr Z h arr .long 4 f ∧ f 0 = .long u0 ∧ f 1 = .long u1 ∧ f 2 = .long u2 ∧ f 3 = .long u3 ∧ AddR3 y0 y1 y2 (entJ p1 p2) u0 u1 u2 u3
set_option maxRecDepth 65536 in
set_option maxHeartbeats 40000000 in
theorem rm4s3 (l : Launch) (Z : State) (a0 : Array Value) (hw : ∀ d ∈ tables_1, d.before a0 Z = true) (ws : List Jvm.Cond) (r0 : Addr) (p1 : Int32) (p2 : Int32) (arr : Addr) (fb : Nat → Value) (y0 y1 y2 : Int64) (h0 : Heap) (n0 : Nat) (Z0 : n0 ≤ h0.size) (E_r0 : Exa Z h0 r0 "com/example/tradewheel/tradewheel/PartQueue") (F1 : Fld Z h0 r0 "com/example/tradewheel/tradewheel/PartQueue" "heap" "[J" (.ref arr)) (F2 : Fld Z h0 r0 "com/example/tradewheel/tradewheel/PartQueue" "size" "I" (.int (3 : Int32))) (A1 : OArr Z h0 arr .long 4 fb) (ne_r0_arr : r0 ≠ arr) (g_r0 : n0 ≤ r0) (g_arr : n0 ≤ arr) (hy0 : fb 0 = .long y0) (hy1 : fb 1 = .long y1) (hy2 : fb 2 = .long y2) :
    MetFree l (⟨"com/example/tradewheel/tradewheel/PartQueue", "add", "(II)V"⟩ : MethodName) (head1 (Jvm.Cond.code (⟨"com/example/tradewheel/tradewheel/PartQueue", "add", "(II)V"⟩ : MethodName) prog_22_method_2_code 6 none :: ws) ({ frames := 0, cells := 0, slots := 0, locals := 0 } : Room)) (fun a U => a = #[(.ref r0), (.int p1), (.int p2)] ∧ Z.Warmed39 U.vm ∧ U.heap = h0) (fun _ _ _ _ _ => True) (fun _ U o U' => ∃ v L, o = .returned v ∧ Q4s3 Z r0 p1 p2 arr fb y0 y1 y2 h0 n0 v U'.heap L ∧ FrameEnd U o U' L ({ frames := 0, cells := 0, slots := 0, locals := 0 } : Room).cells ({ frames := 0, cells := 0, slots := 0, locals := 0 } : Room).slots) := by
  refine MetFree.of_bodySF (plainFor_of_name pn_4s3) hisR ?_
  intro p e s m args below meth c s₁ Bd hml0 hP hK
  obtain ⟨rfl, hZ, hh⟩ := hP
  have hx := Bd.exec
  have hby := Bd.bytes
  have hml : c.maxLocals = 6 := hml0
  have hown : s.vm.findClass "com/example/tradewheel/tradewheel/PartQueue" = some m.cls := findClass_of_methodNamed Bd.named
  have hnm := (name_of_methodNamed Bd.named Bd.method).1
  have X0 : Stand p l e ({ frames := 0, cells := 0, slots := 0, locals := 0 } : Room) s m #[(.ref r0), (.int p1), (.int p2)] below meth c s₁ [] 0 0 := Stand.of_body Bd
  have e0 : s₁.heap = h0 := by rw [← hh, Bd.state]; rfl
  have N0 := Fr.nil n0
  refine Runs.enter (ef_4s3 m r0 p1 p2) ?_
  show Runs _ _ _ _ s₁ (mkF m 0 #[.val (.ref r0), .val (.int p1), .val (.int p2), .unset, .unset, .unset] [])
  refine Runs.back (fun t_ k_ => XS.aloadN X0.here hx rfl (hb hby d4_0) rfl rfl k_) ?_
  show Runs _ _ _ _ s₁ (mkF m 1 #[.val (.ref r0), .val (.int p1), .val (.int p2), .unset, .unset, .unset] [(.ref r0)])
  refine Runs.back (fun t_ k_ => XS.dup X0.here hx rfl (hb hby d4_1) rfl rfl k_) ?_
  show Runs _ _ _ _ s₁ (mkF m 2 #[.val (.ref r0), .val (.int p1), .val (.int p2), .unset, .unset, .unset] [(.ref r0), (.ref r0)])
  obtain ⟨T1, X1, e1, st1⟩ := getF X0 hx hZ hown (host := "") (Or.inl (hw _ (List.mem_of_getElem? (i := 22) rfl))) Via.refl e0 F2 (g := (mkF m 2 #[.val (.ref r0), .val (.int p1), .val (.int p2), .unset, .unset, .unset] [(.ref r0), (.ref r0)])) rfl rfl (hb hby d4_2)
  refine Runs.back st1 ?_
  show Runs _ _ _ _ T1 (mkF m 5 #[.val (.ref r0), .val (.int p1), .val (.int p2), .unset, .unset, .unset] [(.int (3 : Int32)), (.ref r0)])
  refine Runs.back (fun t_ k_ => XS.dupX1 X1.here hx rfl (hb hby d4_5) rfl rfl rfl k_) ?_
  show Runs _ _ _ _ T1 (mkF m 6 #[.val (.ref r0), .val (.int p1), .val (.int p2), .unset, .unset, .unset] [(.int (3 : Int32)), (.ref r0), (.int (3 : Int32))])
  refine Runs.back (fun t_ k_ => XS.iconst X1.here hx rfl (hb hby d4_6) k_) ?_
  show Runs _ _ _ _ T1 (mkF m 7 #[.val (.ref r0), .val (.int p1), .val (.int p2), .unset, .unset, .unset] [(.int (1 : Int32)), (.int (3 : Int32)), (.ref r0), (.int (3 : Int32))])
  refine Runs.back (fun t_ k_ => XS.iadd X1.here hx rfl (hb hby d4_7) rfl k_) ?_
  show Runs _ _ _ _ T1 (mkF m 8 #[.val (.ref r0), .val (.int p1), .val (.int p2), .unset, .unset, .unset] [(.int ((3 : Int32) + (1 : Int32))), (.ref r0), (.int (3 : Int32))])
  rw [show ((3 : Int32) + (1 : Int32)) = (4 : Int32) from by decide]
  show Runs _ _ _ _ T1 (mkF m 8 #[.val (.ref r0), .val (.int p1), .val (.int p2), .unset, .unset, .unset] [(.int (4 : Int32)), (.ref r0), (.int (3 : Int32))])
  obtain ⟨T2, h2, X2, e2, W2, st2⟩ := putF X1 hx hZ hown (host := "") (Or.inl (hw _ (List.mem_of_getElem? (i := 22) rfl))) Via.refl e1 F2 E_r0 (Or.inl (hw _ (List.mem_of_getElem? (i := 23) rfl))) (hw _ (List.mem_of_getElem? (i := 6) rfl)) (ty := .int) (by decide) rfl rfl (g := (mkF m 8 #[.val (.ref r0), .val (.int p1), .val (.int p2), .unset, .unset, .unset] [(.int (4 : Int32)), (.ref r0), (.int (3 : Int32))])) rfl rfl (hb hby d4_8)
  have f2_Exa_0 : Exa Z h2 r0 "com/example/tradewheel/tradewheel/PartQueue" := Exa.wr W2 E_r0
  have f2_Fld_1 : Fld Z h2 r0 "com/example/tradewheel/tradewheel/PartQueue" "heap" "[J" (.ref arr) := Fld.other W2 F1 (Or.inr (slot_ne (Or.inr (hw _ (List.mem_of_getElem? (i := 16) rfl))) (Or.inl (hw _ (List.mem_of_getElem? (i := 23) rfl))) (by decide) (t := (.array .long)) (t' := .int) (by decide) (by decide)))
  have f2_Fld_2 : Fld Z h2 r0 "com/example/tradewheel/tradewheel/PartQueue" "size" "I" (.int (4 : Int32)) := Fld.same W2 F2
  have f2_Arr_3 : OArr Z h2 arr .long 4 fb := A1.other W2 (Ne.symm ne_r0_arr)
  have N2 := Fr.snoc X2 N0 g_r0
  obtain ⟨L2, X2, N2⟩ := hideL X2 N2
  have KK2 : Keep h0 h2 [r0, arr] := Keep.wr (Keep.refl h0 [r0, arr]) W2 (Or.inl (List.mem_of_getElem? (i := 0) rfl))
  have Z2 : n0 ≤ h2.size := Nat.le_trans (Z0) (Nat.le_of_eq W2.size.symm)
  refine Runs.back st2 ?_
  show Runs _ _ _ _ T2 (mkF m 11 #[.val (.ref r0), .val (.int p1), .val (.int p2), .unset, .unset, .unset] [(.int (3 : Int32))])
  refine Runs.back (fun t_ k_ => XS.istoreN X2.here hx rfl (hb hby d4_11) rfl (l' := #[.val (.ref r0), .val (.int p1), .val (.int p2), .val (.int (3 : Int32)), .unset, .unset]) rfl k_) ?_
  show Runs _ _ _ _ T2 (mkF m 12 #[.val (.ref r0), .val (.int p1), .val (.int p2), .val (.int (3 : Int32)), .unset, .unset] [])
  refine Runs.back (fun t_ k_ => XS.iloadN X2.here hx rfl (hb hby d4_12) rfl k_) ?_
  show Runs _ _ _ _ T2 (mkF m 13 #[.val (.ref r0), .val (.int p1), .val (.int p2), .val (.int (3 : Int32)), .unset, .unset] [(.int p1)])
  refine Runs.back (fun t_ k_ => XS.i2l X2.here hx rfl (hb hby d4_13) rfl k_) ?_
  show Runs _ _ _ _ T2 (mkF m 14 #[.val (.ref r0), .val (.int p1), .val (.int p2), .val (.int (3 : Int32)), .unset, .unset] [(.long (p1.toInt64))])
  refine Runs.back (fun t_ k_ => XS.bipush X2.here hx rfl (hb hby d4_14) k_) ?_
  show Runs _ _ _ _ T2 (mkF m 16 #[.val (.ref r0), .val (.int p1), .val (.int p2), .val (.int (3 : Int32)), .unset, .unset] [(.int (32 : Int32)), (.long (p1.toInt64))])
  refine Runs.back (fun t_ k_ => XS.lshl X2.here hx rfl (hb hby d4_16) rfl k_) ?_
  show Runs _ _ _ _ T2 (mkF m 17 #[.val (.ref r0), .val (.int p1), .val (.int p2), .val (.int (3 : Int32)), .unset, .unset] [(.long ((p1.toInt64) <<< ((32 : Int32) &&& 0x3f).toInt64))])
  refine Runs.back (fun t_ k_ => XS.iloadN X2.here hx rfl (hb hby d4_17) rfl k_) ?_
  show Runs _ _ _ _ T2 (mkF m 18 #[.val (.ref r0), .val (.int p1), .val (.int p2), .val (.int (3 : Int32)), .unset, .unset] [(.int p2), (.long ((p1.toInt64) <<< ((32 : Int32) &&& 0x3f).toInt64))])
  refine Runs.back (fun t_ k_ => XS.i2l X2.here hx rfl (hb hby d4_18) rfl k_) ?_
  show Runs _ _ _ _ T2 (mkF m 19 #[.val (.ref r0), .val (.int p1), .val (.int p2), .val (.int (3 : Int32)), .unset, .unset] [(.long (p2.toInt64)), (.long ((p1.toInt64) <<< ((32 : Int32) &&& 0x3f).toInt64))])
  refine Runs.back (fun t_ k_ => XS.lor X2.here hx rfl (hb hby d4_19) rfl k_) ?_
  show Runs _ _ _ _ T2 (mkF m 20 #[.val (.ref r0), .val (.int p1), .val (.int p2), .val (.int (3 : Int32)), .unset, .unset] [(.long (((p1.toInt64) <<< ((32 : Int32) &&& 0x3f).toInt64) ||| (p2.toInt64)))])
  rw [show (((p1.toInt64) <<< ((32 : Int32) &&& 0x3f).toInt64) ||| (p2.toInt64)) = entJ p1 p2 from rfl]
  show Runs _ _ _ _ T2 (mkF m 20 #[.val (.ref r0), .val (.int p1), .val (.int p2), .val (.int (3 : Int32)), .unset, .unset] [(.long (entJ p1 p2))])
  refine Runs.back (fun t_ k_ => XS.lstore X2.here hx rfl (hb hby d4_20) rfl (l' := #[.val (.ref r0), .val (.int p1), .val (.int p2), .val (.int (3 : Int32)), .val (.long (entJ p1 p2)), .second]) rfl k_) ?_
  show Runs _ _ _ _ T2 (mkF m 22 #[.val (.ref r0), .val (.int p1), .val (.int p2), .val (.int (3 : Int32)), .val (.long (entJ p1 p2)), .second] [])
  refine Runs.back (fun t_ k_ => XS.iloadN X2.here hx rfl (hb hby d4_22) rfl k_) ?_
  show Runs _ _ _ _ T2 (mkF m 23 #[.val (.ref r0), .val (.int p1), .val (.int p2), .val (.int (3 : Int32)), .val (.long (entJ p1 p2)), .second] [(.int (3 : Int32))])
  refine Runs.back (fun t_ k_ => XS.ifNo X2.here hx rfl (hb hby d4_23) rfl ((if0 _ _).trans (tlt (show (0 : Int32) < (3 : Int32) from (by decide))).2.2.2) k_) ?_
  show Runs _ _ _ _ T2 (mkF m 26 #[.val (.ref r0), .val (.int p1), .val (.int p2), .val (.int (3 : Int32)), .val (.long (entJ p1 p2)), .second] [])
  refine Runs.back (fun t_ k_ => XS.aloadN X2.here hx rfl (hb hby d4_26) rfl rfl k_) ?_
  show Runs _ _ _ _ T2 (mkF m 27 #[.val (.ref r0), .val (.int p1), .val (.int p2), .val (.int (3 : Int32)), .val (.long (entJ p1 p2)), .second] [(.ref r0)])
  obtain ⟨T3, X3, e3, st3⟩ := getF X2 hx hZ hown (host := "") (Or.inl (hw _ (List.mem_of_getElem? (i := 15) rfl))) Via.refl e2 f2_Fld_1 (g := (mkF m 27 #[.val (.ref r0), .val (.int p1), .val (.int p2), .val (.int (3 : Int32)), .val (.long (entJ p1 p2)), .second] [(.ref r0)])) rfl rfl (hb hby d4_27)
  refine Runs.back st3 ?_
  show Runs _ _ _ _ T3 (mkF m 30 #[.val (.ref r0), .val (.int p1), .val (.int p2), .val (.int (3 : Int32)), .val (.long (entJ p1 p2)), .second] [(.ref arr)])
  refine Runs.back (fun t_ k_ => XS.iloadN X3.here hx rfl (hb hby d4_30) rfl k_) ?_
  show Runs _ _ _ _ T3 (mkF m 31 #[.val (.ref r0), .val (.int p1), .val (.int p2), .val (.int (3 : Int32)), .val (.long (entJ p1 p2)), .second] [(.int (3 : Int32)), (.ref arr)])
  refine Runs.back (fun t_ k_ => XS.iconst X3.here hx rfl (hb hby d4_31) k_) ?_
  show Runs _ _ _ _ T3 (mkF m 32 #[.val (.ref r0), .val (.int p1), .val (.int p2), .val (.int (3 : Int32)), .val (.long (entJ p1 p2)), .second] [(.int (1 : Int32)), (.int (3 : Int32)), (.ref arr)])
  refine Runs.back (fun t_ k_ => XS.isub X3.here hx rfl (hb hby d4_32) rfl k_) ?_
  show Runs _ _ _ _ T3 (mkF m 33 #[.val (.ref r0), .val (.int p1), .val (.int p2), .val (.int (3 : Int32)), .val (.long (entJ p1 p2)), .second] [(.int ((3 : Int32) - (1 : Int32))), (.ref arr)])
  rw [show ((3 : Int32) - (1 : Int32)) = (2 : Int32) from by decide]
  show Runs _ _ _ _ T3 (mkF m 33 #[.val (.ref r0), .val (.int p1), .val (.int p2), .val (.int (3 : Int32)), .val (.long (entJ p1 p2)), .second] [(.int (2 : Int32)), (.ref arr)])
  refine Runs.back (fun t_ k_ => XS.iconst X3.here hx rfl (hb hby d4_33) k_) ?_
  show Runs _ _ _ _ T3 (mkF m 34 #[.val (.ref r0), .val (.int p1), .val (.int p2), .val (.int (3 : Int32)), .val (.long (entJ p1 p2)), .second] [(.int (2 : Int32)), (.int (2 : Int32)), (.ref arr)])
  refine Runs.back (fun t_ k_ => XS.idiv X3.here hx rfl (hb hby d4_34) rfl (by decide) k_) ?_
  show Runs _ _ _ _ T3 (mkF m 35 #[.val (.ref r0), .val (.int p1), .val (.int p2), .val (.int (3 : Int32)), .val (.long (entJ p1 p2)), .second] [(.int ((2 : Int32) / (2 : Int32))), (.ref arr)])
  rw [show ((2 : Int32) / (2 : Int32)) = (1 : Int32) from by decide]
  show Runs _ _ _ _ T3 (mkF m 35 #[.val (.ref r0), .val (.int p1), .val (.int p2), .val (.int (3 : Int32)), .val (.long (entJ p1 p2)), .second] [(.int (1 : Int32)), (.ref arr)])
  obtain ⟨cl4, Ar4, S4, Hs4⟩ := id f2_Arr_3
  have at4 : cl4.slots[((1 : Int32)).toNatClampNeg]? = some (.long y1) := readO Hs4 (rfl : ((1 : Int32)).toNatClampNeg = 1) (show 1 < 4 from (by first | omega | decide)) (hy1)
  refine Runs.back (fun t_ k_ => X3.laload hx (j := (1 : Int32)) (v := (.long y1)) (by rw [e3]; exact Ar4.1) (State.isArrayOf_alike hZ.alike Ar4.2.1) Ar4.2.2 (by rw [S4]; exact (inbO (by decide : ¬ (1 : Int32) < 0) (rfl : ((1 : Int32)).toNatClampNeg = 1) (show 1 < 4 from (by first | omega | decide)))) at4 (g := (mkF m 35 #[.val (.ref r0), .val (.int p1), .val (.int p2), .val (.int (3 : Int32)), .val (.long (entJ p1 p2)), .second] [(.int (1 : Int32)), (.ref arr)])) rfl rfl (hb hby d4_35) _ k_) ?_
  show Runs _ _ _ _ T3 (mkF m 36 #[.val (.ref r0), .val (.int p1), .val (.int p2), .val (.int (3 : Int32)), .val (.long (entJ p1 p2)), .second] [(.long y1)])
  refine Runs.back (fun t_ k_ => XS.lload X3.here hx rfl (hb hby d4_36) rfl k_) ?_
  show Runs _ _ _ _ T3 (mkF m 38 #[.val (.ref r0), .val (.int p1), .val (.int p2), .val (.int (3 : Int32)), .val (.long (entJ p1 p2)), .second] [(.long (entJ p1 p2)), (.long y1)])
  refine Runs.back (fun t_ k_ => XS.lcmp X3.here hx rfl (hb hby d4_38) rfl k_) ?_
  show Runs _ _ _ _ T3 (mkF m 39 #[.val (.ref r0), .val (.int p1), .val (.int p2), .val (.int (3 : Int32)), .val (.long (entJ p1 p2)), .second] [(.int (lcmpW y1 (entJ p1 p2)))])
  by_cases c39_5 : (entJ p1 p2) < y1
  · refine Runs.back (fun t_ k_ => XS.ifNo X3.here hx rfl (hb hby d4_39) rfl ((if0 _ _).trans (tlt (lcT' c39_5)).2.2.2) k_) ?_
    show Runs _ _ _ _ T3 (mkF m 42 #[.val (.ref r0), .val (.int p1), .val (.int p2), .val (.int (3 : Int32)), .val (.long (entJ p1 p2)), .second] [])
    refine Runs.back (fun t_ k_ => XS.aloadN X3.here hx rfl (hb hby d4_42) rfl rfl k_) ?_
    show Runs _ _ _ _ T3 (mkF m 43 #[.val (.ref r0), .val (.int p1), .val (.int p2), .val (.int (3 : Int32)), .val (.long (entJ p1 p2)), .second] [(.ref r0)])
    obtain ⟨T6, X6, e6, st6⟩ := getF X3 hx hZ hown (host := "") (Or.inl (hw _ (List.mem_of_getElem? (i := 15) rfl))) Via.refl e3 f2_Fld_1 (g := (mkF m 43 #[.val (.ref r0), .val (.int p1), .val (.int p2), .val (.int (3 : Int32)), .val (.long (entJ p1 p2)), .second] [(.ref r0)])) rfl rfl (hb hby d4_43)
    refine Runs.back st6 ?_
    show Runs _ _ _ _ T6 (mkF m 46 #[.val (.ref r0), .val (.int p1), .val (.int p2), .val (.int (3 : Int32)), .val (.long (entJ p1 p2)), .second] [(.ref arr)])
    refine Runs.back (fun t_ k_ => XS.iloadN X6.here hx rfl (hb hby d4_46) rfl k_) ?_
    show Runs _ _ _ _ T6 (mkF m 47 #[.val (.ref r0), .val (.int p1), .val (.int p2), .val (.int (3 : Int32)), .val (.long (entJ p1 p2)), .second] [(.int (3 : Int32)), (.ref arr)])
    refine Runs.back (fun t_ k_ => XS.aloadN X6.here hx rfl (hb hby d4_47) rfl rfl k_) ?_
    show Runs _ _ _ _ T6 (mkF m 48 #[.val (.ref r0), .val (.int p1), .val (.int p2), .val (.int (3 : Int32)), .val (.long (entJ p1 p2)), .second] [(.ref r0), (.int (3 : Int32)), (.ref arr)])
    obtain ⟨T7, X7, e7, st7⟩ := getF X6 hx hZ hown (host := "") (Or.inl (hw _ (List.mem_of_getElem? (i := 15) rfl))) Via.refl e6 f2_Fld_1 (g := (mkF m 48 #[.val (.ref r0), .val (.int p1), .val (.int p2), .val (.int (3 : Int32)), .val (.long (entJ p1 p2)), .second] [(.ref r0), (.int (3 : Int32)), (.ref arr)])) rfl rfl (hb hby d4_48)
    refine Runs.back st7 ?_
    show Runs _ _ _ _ T7 (mkF m 51 #[.val (.ref r0), .val (.int p1), .val (.int p2), .val (.int (3 : Int32)), .val (.long (entJ p1 p2)), .second] [(.ref arr), (.int (3 : Int32)), (.ref arr)])
    refine Runs.back (fun t_ k_ => XS.iloadN X7.here hx rfl (hb hby d4_51) rfl k_) ?_
    show Runs _ _ _ _ T7 (mkF m 52 #[.val (.ref r0), .val (.int p1), .val (.int p2), .val (.int (3 : Int32)), .val (.long (entJ p1 p2)), .second] [(.int (3 : Int32)), (.ref arr), (.int (3 : Int32)), (.ref arr)])
    refine Runs.back (fun t_ k_ => XS.iconst X7.here hx rfl (hb hby d4_52) k_) ?_
    show Runs _ _ _ _ T7 (mkF m 53 #[.val (.ref r0), .val (.int p1), .val (.int p2), .val (.int (3 : Int32)), .val (.long (entJ p1 p2)), .second] [(.int (1 : Int32)), (.int (3 : Int32)), (.ref arr), (.int (3 : Int32)), (.ref arr)])
    refine Runs.back (fun t_ k_ => XS.isub X7.here hx rfl (hb hby d4_53) rfl k_) ?_
    show Runs _ _ _ _ T7 (mkF m 54 #[.val (.ref r0), .val (.int p1), .val (.int p2), .val (.int (3 : Int32)), .val (.long (entJ p1 p2)), .second] [(.int ((3 : Int32) - (1 : Int32))), (.ref arr), (.int (3 : Int32)), (.ref arr)])
    rw [show ((3 : Int32) - (1 : Int32)) = (2 : Int32) from by decide]
    show Runs _ _ _ _ T7 (mkF m 54 #[.val (.ref r0), .val (.int p1), .val (.int p2), .val (.int (3 : Int32)), .val (.long (entJ p1 p2)), .second] [(.int (2 : Int32)), (.ref arr), (.int (3 : Int32)), (.ref arr)])
    refine Runs.back (fun t_ k_ => XS.iconst X7.here hx rfl (hb hby d4_54) k_) ?_
    show Runs _ _ _ _ T7 (mkF m 55 #[.val (.ref r0), .val (.int p1), .val (.int p2), .val (.int (3 : Int32)), .val (.long (entJ p1 p2)), .second] [(.int (2 : Int32)), (.int (2 : Int32)), (.ref arr), (.int (3 : Int32)), (.ref arr)])
    refine Runs.back (fun t_ k_ => XS.idiv X7.here hx rfl (hb hby d4_55) rfl (by decide) k_) ?_
    show Runs _ _ _ _ T7 (mkF m 56 #[.val (.ref r0), .val (.int p1), .val (.int p2), .val (.int (3 : Int32)), .val (.long (entJ p1 p2)), .second] [(.int ((2 : Int32) / (2 : Int32))), (.ref arr), (.int (3 : Int32)), (.ref arr)])
    rw [show ((2 : Int32) / (2 : Int32)) = (1 : Int32) from by decide]
    show Runs _ _ _ _ T7 (mkF m 56 #[.val (.ref r0), .val (.int p1), .val (.int p2), .val (.int (3 : Int32)), .val (.long (entJ p1 p2)), .second] [(.int (1 : Int32)), (.ref arr), (.int (3 : Int32)), (.ref arr)])
    obtain ⟨cl8, Ar8, S8, Hs8⟩ := id f2_Arr_3
    have at8 : cl8.slots[((1 : Int32)).toNatClampNeg]? = some (.long y1) := readO Hs8 (rfl : ((1 : Int32)).toNatClampNeg = 1) (show 1 < 4 from (by first | omega | decide)) (hy1)
    refine Runs.back (fun t_ k_ => X7.laload hx (j := (1 : Int32)) (v := (.long y1)) (by rw [e7]; exact Ar8.1) (State.isArrayOf_alike hZ.alike Ar8.2.1) Ar8.2.2 (by rw [S8]; exact (inbO (by decide : ¬ (1 : Int32) < 0) (rfl : ((1 : Int32)).toNatClampNeg = 1) (show 1 < 4 from (by first | omega | decide)))) at8 (g := (mkF m 56 #[.val (.ref r0), .val (.int p1), .val (.int p2), .val (.int (3 : Int32)), .val (.long (entJ p1 p2)), .second] [(.int (1 : Int32)), (.ref arr), (.int (3 : Int32)), (.ref arr)])) rfl rfl (hb hby d4_56) _ k_) ?_
    show Runs _ _ _ _ T7 (mkF m 57 #[.val (.ref r0), .val (.int p1), .val (.int p2), .val (.int (3 : Int32)), .val (.long (entJ p1 p2)), .second] [(.long y1), (.int (3 : Int32)), (.ref arr)])
    obtain ⟨cl9, Ar9, S9, Hs9⟩ := id f2_Arr_3
    obtain ⟨T9, h9, X9, e9, W9, st9⟩ := stJ X7 hx hZ e7 Ar9 (j := (3 : Int32)) (by rw [S9]; exact (inbO (by decide : ¬ (3 : Int32) < 0) (rfl : ((3 : Int32)).toNatClampNeg = 3) (show 3 < 4 from (by first | omega | decide)))) (g := (mkF m 57 #[.val (.ref r0), .val (.int p1), .val (.int p2), .val (.int (3 : Int32)), .val (.long (entJ p1 p2)), .second] [(.long y1), (.int (3 : Int32)), (.ref arr)])) rfl rfl (hb hby d4_57)
    have N9 := Fr.snoc X9 N2 g_arr
    obtain ⟨L9, X9, N9⟩ := hideL X9 N9
    rw [(rfl : ((3 : Int32)).toNatClampNeg = 3)] at W9
    have f9_Exa_0 : Exa Z h9 r0 "com/example/tradewheel/tradewheel/PartQueue" := Exa.wr W9 f2_Exa_0
    have f9_Fld_1 : Fld Z h9 r0 "com/example/tradewheel/tradewheel/PartQueue" "heap" "[J" (.ref arr) := Fld.other W9 f2_Fld_1 (Or.inl ne_r0_arr)
    have f9_Fld_2 : Fld Z h9 r0 "com/example/tradewheel/tradewheel/PartQueue" "size" "I" (.int (4 : Int32)) := Fld.other W9 f2_Fld_2 (Or.inl ne_r0_arr)
    have f9_Arr_3 : OArr Z h9 arr .long 4 (fun i => if i = 3 then (Value.long y1) else fb i) := f2_Arr_3.set W9
    have KK9 : Keep h0 h9 [r0, arr] := Keep.wr KK2 W9 (Or.inl (List.mem_of_getElem? (i := 1) rfl))
    have Z9 : n0 ≤ h9.size := Nat.le_trans (Z2) (Nat.le_of_eq W9.size.symm)
    refine Runs.back st9 ?_
    show Runs _ _ _ _ T9 (mkF m 58 #[.val (.ref r0), .val (.int p1), .val (.int p2), .val (.int (3 : Int32)), .val (.long (entJ p1 p2)), .second] [])
    refine Runs.back (fun t_ k_ => XS.iloadN X9.here hx rfl (hb hby d4_58) rfl k_) ?_
    show Runs _ _ _ _ T9 (mkF m 59 #[.val (.ref r0), .val (.int p1), .val (.int p2), .val (.int (3 : Int32)), .val (.long (entJ p1 p2)), .second] [(.int (3 : Int32))])
    refine Runs.back (fun t_ k_ => XS.iconst X9.here hx rfl (hb hby d4_59) k_) ?_
    show Runs _ _ _ _ T9 (mkF m 60 #[.val (.ref r0), .val (.int p1), .val (.int p2), .val (.int (3 : Int32)), .val (.long (entJ p1 p2)), .second] [(.int (1 : Int32)), (.int (3 : Int32))])
    refine Runs.back (fun t_ k_ => XS.isub X9.here hx rfl (hb hby d4_60) rfl k_) ?_
    show Runs _ _ _ _ T9 (mkF m 61 #[.val (.ref r0), .val (.int p1), .val (.int p2), .val (.int (3 : Int32)), .val (.long (entJ p1 p2)), .second] [(.int ((3 : Int32) - (1 : Int32)))])
    rw [show ((3 : Int32) - (1 : Int32)) = (2 : Int32) from by decide]
    show Runs _ _ _ _ T9 (mkF m 61 #[.val (.ref r0), .val (.int p1), .val (.int p2), .val (.int (3 : Int32)), .val (.long (entJ p1 p2)), .second] [(.int (2 : Int32))])
    refine Runs.back (fun t_ k_ => XS.iconst X9.here hx rfl (hb hby d4_61) k_) ?_
    show Runs _ _ _ _ T9 (mkF m 62 #[.val (.ref r0), .val (.int p1), .val (.int p2), .val (.int (3 : Int32)), .val (.long (entJ p1 p2)), .second] [(.int (2 : Int32)), (.int (2 : Int32))])
    refine Runs.back (fun t_ k_ => XS.idiv X9.here hx rfl (hb hby d4_62) rfl (by decide) k_) ?_
    show Runs _ _ _ _ T9 (mkF m 63 #[.val (.ref r0), .val (.int p1), .val (.int p2), .val (.int (3 : Int32)), .val (.long (entJ p1 p2)), .second] [(.int ((2 : Int32) / (2 : Int32)))])
    rw [show ((2 : Int32) / (2 : Int32)) = (1 : Int32) from by decide]
    show Runs _ _ _ _ T9 (mkF m 63 #[.val (.ref r0), .val (.int p1), .val (.int p2), .val (.int (3 : Int32)), .val (.long (entJ p1 p2)), .second] [(.int (1 : Int32))])
    refine Runs.back (fun t_ k_ => XS.istoreN X9.here hx rfl (hb hby d4_63) rfl (l' := #[.val (.ref r0), .val (.int p1), .val (.int p2), .val (.int (1 : Int32)), .val (.long (entJ p1 p2)), .second]) rfl k_) ?_
    show Runs _ _ _ _ T9 (mkF m 64 #[.val (.ref r0), .val (.int p1), .val (.int p2), .val (.int (1 : Int32)), .val (.long (entJ p1 p2)), .second] [])
    refine Runs.back (fun t_ k_ => XS.goto X9.here hx rfl (pc0 := 64) (pc' := 22) rfl (hb hby d4_64) (by decide) (by decide) k_) ?_
    show Runs _ _ _ _ T9 (mkF m 22 #[.val (.ref r0), .val (.int p1), .val (.int p2), .val (.int (1 : Int32)), .val (.long (entJ p1 p2)), .second] [])
    refine Runs.back (fun t_ k_ => XS.iloadN X9.here hx rfl (hb hby d4_22) rfl k_) ?_
    show Runs _ _ _ _ T9 (mkF m 23 #[.val (.ref r0), .val (.int p1), .val (.int p2), .val (.int (1 : Int32)), .val (.long (entJ p1 p2)), .second] [(.int (1 : Int32))])
    refine Runs.back (fun t_ k_ => XS.ifNo X9.here hx rfl (hb hby d4_23) rfl ((if0 _ _).trans (tlt (show (0 : Int32) < (1 : Int32) from (by decide))).2.2.2) k_) ?_
    show Runs _ _ _ _ T9 (mkF m 26 #[.val (.ref r0), .val (.int p1), .val (.int p2), .val (.int (1 : Int32)), .val (.long (entJ p1 p2)), .second] [])
    refine Runs.back (fun t_ k_ => XS.aloadN X9.here hx rfl (hb hby d4_26) rfl rfl k_) ?_
    show Runs _ _ _ _ T9 (mkF m 27 #[.val (.ref r0), .val (.int p1), .val (.int p2), .val (.int (1 : Int32)), .val (.long (entJ p1 p2)), .second] [(.ref r0)])
    obtain ⟨T10, X10, e10, st10⟩ := getF X9 hx hZ hown (host := "") (Or.inl (hw _ (List.mem_of_getElem? (i := 15) rfl))) Via.refl e9 f9_Fld_1 (g := (mkF m 27 #[.val (.ref r0), .val (.int p1), .val (.int p2), .val (.int (1 : Int32)), .val (.long (entJ p1 p2)), .second] [(.ref r0)])) rfl rfl (hb hby d4_27)
    refine Runs.back st10 ?_
    show Runs _ _ _ _ T10 (mkF m 30 #[.val (.ref r0), .val (.int p1), .val (.int p2), .val (.int (1 : Int32)), .val (.long (entJ p1 p2)), .second] [(.ref arr)])
    refine Runs.back (fun t_ k_ => XS.iloadN X10.here hx rfl (hb hby d4_30) rfl k_) ?_
    show Runs _ _ _ _ T10 (mkF m 31 #[.val (.ref r0), .val (.int p1), .val (.int p2), .val (.int (1 : Int32)), .val (.long (entJ p1 p2)), .second] [(.int (1 : Int32)), (.ref arr)])
    refine Runs.back (fun t_ k_ => XS.iconst X10.here hx rfl (hb hby d4_31) k_) ?_
    show Runs _ _ _ _ T10 (mkF m 32 #[.val (.ref r0), .val (.int p1), .val (.int p2), .val (.int (1 : Int32)), .val (.long (entJ p1 p2)), .second] [(.int (1 : Int32)), (.int (1 : Int32)), (.ref arr)])
    refine Runs.back (fun t_ k_ => XS.isub X10.here hx rfl (hb hby d4_32) rfl k_) ?_
    show Runs _ _ _ _ T10 (mkF m 33 #[.val (.ref r0), .val (.int p1), .val (.int p2), .val (.int (1 : Int32)), .val (.long (entJ p1 p2)), .second] [(.int ((1 : Int32) - (1 : Int32))), (.ref arr)])
    rw [show ((1 : Int32) - (1 : Int32)) = (0 : Int32) from by decide]
    show Runs _ _ _ _ T10 (mkF m 33 #[.val (.ref r0), .val (.int p1), .val (.int p2), .val (.int (1 : Int32)), .val (.long (entJ p1 p2)), .second] [(.int (0 : Int32)), (.ref arr)])
    refine Runs.back (fun t_ k_ => XS.iconst X10.here hx rfl (hb hby d4_33) k_) ?_
    show Runs _ _ _ _ T10 (mkF m 34 #[.val (.ref r0), .val (.int p1), .val (.int p2), .val (.int (1 : Int32)), .val (.long (entJ p1 p2)), .second] [(.int (2 : Int32)), (.int (0 : Int32)), (.ref arr)])
    refine Runs.back (fun t_ k_ => XS.idiv X10.here hx rfl (hb hby d4_34) rfl (by decide) k_) ?_
    show Runs _ _ _ _ T10 (mkF m 35 #[.val (.ref r0), .val (.int p1), .val (.int p2), .val (.int (1 : Int32)), .val (.long (entJ p1 p2)), .second] [(.int ((0 : Int32) / (2 : Int32))), (.ref arr)])
    rw [show ((0 : Int32) / (2 : Int32)) = (0 : Int32) from by decide]
    show Runs _ _ _ _ T10 (mkF m 35 #[.val (.ref r0), .val (.int p1), .val (.int p2), .val (.int (1 : Int32)), .val (.long (entJ p1 p2)), .second] [(.int (0 : Int32)), (.ref arr)])
    obtain ⟨cl11, Ar11, S11, Hs11⟩ := id f9_Arr_3
    have at11 : cl11.slots[((0 : Int32)).toNatClampNeg]? = some (.long y0) := readO Hs11 (rfl : ((0 : Int32)).toNatClampNeg = 0) (show 0 < 4 from (by first | omega | decide)) (hy0)
    refine Runs.back (fun t_ k_ => X10.laload hx (j := (0 : Int32)) (v := (.long y0)) (by rw [e10]; exact Ar11.1) (State.isArrayOf_alike hZ.alike Ar11.2.1) Ar11.2.2 (by rw [S11]; exact (inbO (by decide : ¬ (0 : Int32) < 0) (rfl : ((0 : Int32)).toNatClampNeg = 0) (show 0 < 4 from (by first | omega | decide)))) at11 (g := (mkF m 35 #[.val (.ref r0), .val (.int p1), .val (.int p2), .val (.int (1 : Int32)), .val (.long (entJ p1 p2)), .second] [(.int (0 : Int32)), (.ref arr)])) rfl rfl (hb hby d4_35) _ k_) ?_
    show Runs _ _ _ _ T10 (mkF m 36 #[.val (.ref r0), .val (.int p1), .val (.int p2), .val (.int (1 : Int32)), .val (.long (entJ p1 p2)), .second] [(.long y0)])
    refine Runs.back (fun t_ k_ => XS.lload X10.here hx rfl (hb hby d4_36) rfl k_) ?_
    show Runs _ _ _ _ T10 (mkF m 38 #[.val (.ref r0), .val (.int p1), .val (.int p2), .val (.int (1 : Int32)), .val (.long (entJ p1 p2)), .second] [(.long (entJ p1 p2)), (.long y0)])
    refine Runs.back (fun t_ k_ => XS.lcmp X10.here hx rfl (hb hby d4_38) rfl k_) ?_
    show Runs _ _ _ _ T10 (mkF m 39 #[.val (.ref r0), .val (.int p1), .val (.int p2), .val (.int (1 : Int32)), .val (.long (entJ p1 p2)), .second] [(.int (lcmpW y0 (entJ p1 p2)))])
    by_cases c39_12 : (entJ p1 p2) < y0
    · refine Runs.back (fun t_ k_ => XS.ifNo X10.here hx rfl (hb hby d4_39) rfl ((if0 _ _).trans (tlt (lcT' c39_12)).2.2.2) k_) ?_
      show Runs _ _ _ _ T10 (mkF m 42 #[.val (.ref r0), .val (.int p1), .val (.int p2), .val (.int (1 : Int32)), .val (.long (entJ p1 p2)), .second] [])
      refine Runs.back (fun t_ k_ => XS.aloadN X10.here hx rfl (hb hby d4_42) rfl rfl k_) ?_
      show Runs _ _ _ _ T10 (mkF m 43 #[.val (.ref r0), .val (.int p1), .val (.int p2), .val (.int (1 : Int32)), .val (.long (entJ p1 p2)), .second] [(.ref r0)])
      obtain ⟨T13, X13, e13, st13⟩ := getF X10 hx hZ hown (host := "") (Or.inl (hw _ (List.mem_of_getElem? (i := 15) rfl))) Via.refl e10 f9_Fld_1 (g := (mkF m 43 #[.val (.ref r0), .val (.int p1), .val (.int p2), .val (.int (1 : Int32)), .val (.long (entJ p1 p2)), .second] [(.ref r0)])) rfl rfl (hb hby d4_43)
      refine Runs.back st13 ?_
      show Runs _ _ _ _ T13 (mkF m 46 #[.val (.ref r0), .val (.int p1), .val (.int p2), .val (.int (1 : Int32)), .val (.long (entJ p1 p2)), .second] [(.ref arr)])
      refine Runs.back (fun t_ k_ => XS.iloadN X13.here hx rfl (hb hby d4_46) rfl k_) ?_
      show Runs _ _ _ _ T13 (mkF m 47 #[.val (.ref r0), .val (.int p1), .val (.int p2), .val (.int (1 : Int32)), .val (.long (entJ p1 p2)), .second] [(.int (1 : Int32)), (.ref arr)])
      refine Runs.back (fun t_ k_ => XS.aloadN X13.here hx rfl (hb hby d4_47) rfl rfl k_) ?_
      show Runs _ _ _ _ T13 (mkF m 48 #[.val (.ref r0), .val (.int p1), .val (.int p2), .val (.int (1 : Int32)), .val (.long (entJ p1 p2)), .second] [(.ref r0), (.int (1 : Int32)), (.ref arr)])
      obtain ⟨T14, X14, e14, st14⟩ := getF X13 hx hZ hown (host := "") (Or.inl (hw _ (List.mem_of_getElem? (i := 15) rfl))) Via.refl e13 f9_Fld_1 (g := (mkF m 48 #[.val (.ref r0), .val (.int p1), .val (.int p2), .val (.int (1 : Int32)), .val (.long (entJ p1 p2)), .second] [(.ref r0), (.int (1 : Int32)), (.ref arr)])) rfl rfl (hb hby d4_48)
      refine Runs.back st14 ?_
      show Runs _ _ _ _ T14 (mkF m 51 #[.val (.ref r0), .val (.int p1), .val (.int p2), .val (.int (1 : Int32)), .val (.long (entJ p1 p2)), .second] [(.ref arr), (.int (1 : Int32)), (.ref arr)])
      refine Runs.back (fun t_ k_ => XS.iloadN X14.here hx rfl (hb hby d4_51) rfl k_) ?_
      show Runs _ _ _ _ T14 (mkF m 52 #[.val (.ref r0), .val (.int p1), .val (.int p2), .val (.int (1 : Int32)), .val (.long (entJ p1 p2)), .second] [(.int (1 : Int32)), (.ref arr), (.int (1 : Int32)), (.ref arr)])
      refine Runs.back (fun t_ k_ => XS.iconst X14.here hx rfl (hb hby d4_52) k_) ?_
      show Runs _ _ _ _ T14 (mkF m 53 #[.val (.ref r0), .val (.int p1), .val (.int p2), .val (.int (1 : Int32)), .val (.long (entJ p1 p2)), .second] [(.int (1 : Int32)), (.int (1 : Int32)), (.ref arr), (.int (1 : Int32)), (.ref arr)])
      refine Runs.back (fun t_ k_ => XS.isub X14.here hx rfl (hb hby d4_53) rfl k_) ?_
      show Runs _ _ _ _ T14 (mkF m 54 #[.val (.ref r0), .val (.int p1), .val (.int p2), .val (.int (1 : Int32)), .val (.long (entJ p1 p2)), .second] [(.int ((1 : Int32) - (1 : Int32))), (.ref arr), (.int (1 : Int32)), (.ref arr)])
      rw [show ((1 : Int32) - (1 : Int32)) = (0 : Int32) from by decide]
      show Runs _ _ _ _ T14 (mkF m 54 #[.val (.ref r0), .val (.int p1), .val (.int p2), .val (.int (1 : Int32)), .val (.long (entJ p1 p2)), .second] [(.int (0 : Int32)), (.ref arr), (.int (1 : Int32)), (.ref arr)])
      refine Runs.back (fun t_ k_ => XS.iconst X14.here hx rfl (hb hby d4_54) k_) ?_
      show Runs _ _ _ _ T14 (mkF m 55 #[.val (.ref r0), .val (.int p1), .val (.int p2), .val (.int (1 : Int32)), .val (.long (entJ p1 p2)), .second] [(.int (2 : Int32)), (.int (0 : Int32)), (.ref arr), (.int (1 : Int32)), (.ref arr)])
      refine Runs.back (fun t_ k_ => XS.idiv X14.here hx rfl (hb hby d4_55) rfl (by decide) k_) ?_
      show Runs _ _ _ _ T14 (mkF m 56 #[.val (.ref r0), .val (.int p1), .val (.int p2), .val (.int (1 : Int32)), .val (.long (entJ p1 p2)), .second] [(.int ((0 : Int32) / (2 : Int32))), (.ref arr), (.int (1 : Int32)), (.ref arr)])
      rw [show ((0 : Int32) / (2 : Int32)) = (0 : Int32) from by decide]
      show Runs _ _ _ _ T14 (mkF m 56 #[.val (.ref r0), .val (.int p1), .val (.int p2), .val (.int (1 : Int32)), .val (.long (entJ p1 p2)), .second] [(.int (0 : Int32)), (.ref arr), (.int (1 : Int32)), (.ref arr)])
      obtain ⟨cl15, Ar15, S15, Hs15⟩ := id f9_Arr_3
      have at15 : cl15.slots[((0 : Int32)).toNatClampNeg]? = some (.long y0) := readO Hs15 (rfl : ((0 : Int32)).toNatClampNeg = 0) (show 0 < 4 from (by first | omega | decide)) (hy0)
      refine Runs.back (fun t_ k_ => X14.laload hx (j := (0 : Int32)) (v := (.long y0)) (by rw [e14]; exact Ar15.1) (State.isArrayOf_alike hZ.alike Ar15.2.1) Ar15.2.2 (by rw [S15]; exact (inbO (by decide : ¬ (0 : Int32) < 0) (rfl : ((0 : Int32)).toNatClampNeg = 0) (show 0 < 4 from (by first | omega | decide)))) at15 (g := (mkF m 56 #[.val (.ref r0), .val (.int p1), .val (.int p2), .val (.int (1 : Int32)), .val (.long (entJ p1 p2)), .second] [(.int (0 : Int32)), (.ref arr), (.int (1 : Int32)), (.ref arr)])) rfl rfl (hb hby d4_56) _ k_) ?_
      show Runs _ _ _ _ T14 (mkF m 57 #[.val (.ref r0), .val (.int p1), .val (.int p2), .val (.int (1 : Int32)), .val (.long (entJ p1 p2)), .second] [(.long y0), (.int (1 : Int32)), (.ref arr)])
      obtain ⟨cl16, Ar16, S16, Hs16⟩ := id f9_Arr_3
      obtain ⟨T16, h16, X16, e16, W16, st16⟩ := stJ X14 hx hZ e14 Ar16 (j := (1 : Int32)) (by rw [S16]; exact (inbO (by decide : ¬ (1 : Int32) < 0) (rfl : ((1 : Int32)).toNatClampNeg = 1) (show 1 < 4 from (by first | omega | decide)))) (g := (mkF m 57 #[.val (.ref r0), .val (.int p1), .val (.int p2), .val (.int (1 : Int32)), .val (.long (entJ p1 p2)), .second] [(.long y0), (.int (1 : Int32)), (.ref arr)])) rfl rfl (hb hby d4_57)
      have N16 := Fr.snoc X16 N9 g_arr
      obtain ⟨L16, X16, N16⟩ := hideL X16 N16
      rw [(rfl : ((1 : Int32)).toNatClampNeg = 1)] at W16
      have f16_Exa_0 : Exa Z h16 r0 "com/example/tradewheel/tradewheel/PartQueue" := Exa.wr W16 f9_Exa_0
      have f16_Fld_1 : Fld Z h16 r0 "com/example/tradewheel/tradewheel/PartQueue" "heap" "[J" (.ref arr) := Fld.other W16 f9_Fld_1 (Or.inl ne_r0_arr)
      have f16_Fld_2 : Fld Z h16 r0 "com/example/tradewheel/tradewheel/PartQueue" "size" "I" (.int (4 : Int32)) := Fld.other W16 f9_Fld_2 (Or.inl ne_r0_arr)
      have f16_Arr_3 : OArr Z h16 arr .long 4 (fun i => if i = 1 then (Value.long y0) else (fun i => if i = 3 then (Value.long y1) else fb i) i) := f9_Arr_3.set W16
      have KK16 : Keep h0 h16 [r0, arr] := Keep.wr KK9 W16 (Or.inl (List.mem_of_getElem? (i := 1) rfl))
      have Z16 : n0 ≤ h16.size := Nat.le_trans (Z9) (Nat.le_of_eq W16.size.symm)
      refine Runs.back st16 ?_
      show Runs _ _ _ _ T16 (mkF m 58 #[.val (.ref r0), .val (.int p1), .val (.int p2), .val (.int (1 : Int32)), .val (.long (entJ p1 p2)), .second] [])
      refine Runs.back (fun t_ k_ => XS.iloadN X16.here hx rfl (hb hby d4_58) rfl k_) ?_
      show Runs _ _ _ _ T16 (mkF m 59 #[.val (.ref r0), .val (.int p1), .val (.int p2), .val (.int (1 : Int32)), .val (.long (entJ p1 p2)), .second] [(.int (1 : Int32))])
      refine Runs.back (fun t_ k_ => XS.iconst X16.here hx rfl (hb hby d4_59) k_) ?_
      show Runs _ _ _ _ T16 (mkF m 60 #[.val (.ref r0), .val (.int p1), .val (.int p2), .val (.int (1 : Int32)), .val (.long (entJ p1 p2)), .second] [(.int (1 : Int32)), (.int (1 : Int32))])
      refine Runs.back (fun t_ k_ => XS.isub X16.here hx rfl (hb hby d4_60) rfl k_) ?_
      show Runs _ _ _ _ T16 (mkF m 61 #[.val (.ref r0), .val (.int p1), .val (.int p2), .val (.int (1 : Int32)), .val (.long (entJ p1 p2)), .second] [(.int ((1 : Int32) - (1 : Int32)))])
      rw [show ((1 : Int32) - (1 : Int32)) = (0 : Int32) from by decide]
      show Runs _ _ _ _ T16 (mkF m 61 #[.val (.ref r0), .val (.int p1), .val (.int p2), .val (.int (1 : Int32)), .val (.long (entJ p1 p2)), .second] [(.int (0 : Int32))])
      refine Runs.back (fun t_ k_ => XS.iconst X16.here hx rfl (hb hby d4_61) k_) ?_
      show Runs _ _ _ _ T16 (mkF m 62 #[.val (.ref r0), .val (.int p1), .val (.int p2), .val (.int (1 : Int32)), .val (.long (entJ p1 p2)), .second] [(.int (2 : Int32)), (.int (0 : Int32))])
      refine Runs.back (fun t_ k_ => XS.idiv X16.here hx rfl (hb hby d4_62) rfl (by decide) k_) ?_
      show Runs _ _ _ _ T16 (mkF m 63 #[.val (.ref r0), .val (.int p1), .val (.int p2), .val (.int (1 : Int32)), .val (.long (entJ p1 p2)), .second] [(.int ((0 : Int32) / (2 : Int32)))])
      rw [show ((0 : Int32) / (2 : Int32)) = (0 : Int32) from by decide]
      show Runs _ _ _ _ T16 (mkF m 63 #[.val (.ref r0), .val (.int p1), .val (.int p2), .val (.int (1 : Int32)), .val (.long (entJ p1 p2)), .second] [(.int (0 : Int32))])
      refine Runs.back (fun t_ k_ => XS.istoreN X16.here hx rfl (hb hby d4_63) rfl (l' := #[.val (.ref r0), .val (.int p1), .val (.int p2), .val (.int (0 : Int32)), .val (.long (entJ p1 p2)), .second]) rfl k_) ?_
      show Runs _ _ _ _ T16 (mkF m 64 #[.val (.ref r0), .val (.int p1), .val (.int p2), .val (.int (0 : Int32)), .val (.long (entJ p1 p2)), .second] [])
      refine Runs.back (fun t_ k_ => XS.goto X16.here hx rfl (pc0 := 64) (pc' := 22) rfl (hb hby d4_64) (by decide) (by decide) k_) ?_
      show Runs _ _ _ _ T16 (mkF m 22 #[.val (.ref r0), .val (.int p1), .val (.int p2), .val (.int (0 : Int32)), .val (.long (entJ p1 p2)), .second] [])
      refine Runs.back (fun t_ k_ => XS.iloadN X16.here hx rfl (hb hby d4_22) rfl k_) ?_
      show Runs _ _ _ _ T16 (mkF m 23 #[.val (.ref r0), .val (.int p1), .val (.int p2), .val (.int (0 : Int32)), .val (.long (entJ p1 p2)), .second] [(.int (0 : Int32))])
      refine Runs.back (fun t_ k_ => XS.ifYes X16.here hx rfl (pc0 := 23) (pc' := 67) rfl (hb hby d4_23) rfl ((if0 _ _).trans (flt (show ¬ ((0 : Int32) < (0 : Int32)) from (by decide))).2.2.2) (by decide) (by decide) k_) ?_
      show Runs _ _ _ _ T16 (mkF m 67 #[.val (.ref r0), .val (.int p1), .val (.int p2), .val (.int (0 : Int32)), .val (.long (entJ p1 p2)), .second] [])
      refine Runs.back (fun t_ k_ => XS.aloadN X16.here hx rfl (hb hby d4_67) rfl rfl k_) ?_
      show Runs _ _ _ _ T16 (mkF m 68 #[.val (.ref r0), .val (.int p1), .val (.int p2), .val (.int (0 : Int32)), .val (.long (entJ p1 p2)), .second] [(.ref r0)])
      obtain ⟨T17, X17, e17, st17⟩ := getF X16 hx hZ hown (host := "") (Or.inl (hw _ (List.mem_of_getElem? (i := 15) rfl))) Via.refl e16 f16_Fld_1 (g := (mkF m 68 #[.val (.ref r0), .val (.int p1), .val (.int p2), .val (.int (0 : Int32)), .val (.long (entJ p1 p2)), .second] [(.ref r0)])) rfl rfl (hb hby d4_68)
      refine Runs.back st17 ?_
      show Runs _ _ _ _ T17 (mkF m 71 #[.val (.ref r0), .val (.int p1), .val (.int p2), .val (.int (0 : Int32)), .val (.long (entJ p1 p2)), .second] [(.ref arr)])
      refine Runs.back (fun t_ k_ => XS.iloadN X17.here hx rfl (hb hby d4_71) rfl k_) ?_
      show Runs _ _ _ _ T17 (mkF m 72 #[.val (.ref r0), .val (.int p1), .val (.int p2), .val (.int (0 : Int32)), .val (.long (entJ p1 p2)), .second] [(.int (0 : Int32)), (.ref arr)])
      refine Runs.back (fun t_ k_ => XS.lload X17.here hx rfl (hb hby d4_72) rfl k_) ?_
      show Runs _ _ _ _ T17 (mkF m 74 #[.val (.ref r0), .val (.int p1), .val (.int p2), .val (.int (0 : Int32)), .val (.long (entJ p1 p2)), .second] [(.long (entJ p1 p2)), (.int (0 : Int32)), (.ref arr)])
      obtain ⟨cl18, Ar18, S18, Hs18⟩ := id f16_Arr_3
      obtain ⟨T18, h18, X18, e18, W18, st18⟩ := stJ X17 hx hZ e17 Ar18 (j := (0 : Int32)) (by rw [S18]; exact (inbO (by decide : ¬ (0 : Int32) < 0) (rfl : ((0 : Int32)).toNatClampNeg = 0) (show 0 < 4 from (by first | omega | decide)))) (g := (mkF m 74 #[.val (.ref r0), .val (.int p1), .val (.int p2), .val (.int (0 : Int32)), .val (.long (entJ p1 p2)), .second] [(.long (entJ p1 p2)), (.int (0 : Int32)), (.ref arr)])) rfl rfl (hb hby d4_74)
      have N18 := Fr.snoc X18 N16 g_arr
      obtain ⟨L18, X18, N18⟩ := hideL X18 N18
      rw [(rfl : ((0 : Int32)).toNatClampNeg = 0)] at W18
      have f18_Exa_0 : Exa Z h18 r0 "com/example/tradewheel/tradewheel/PartQueue" := Exa.wr W18 f16_Exa_0
      have f18_Fld_1 : Fld Z h18 r0 "com/example/tradewheel/tradewheel/PartQueue" "heap" "[J" (.ref arr) := Fld.other W18 f16_Fld_1 (Or.inl ne_r0_arr)
      have f18_Fld_2 : Fld Z h18 r0 "com/example/tradewheel/tradewheel/PartQueue" "size" "I" (.int (4 : Int32)) := Fld.other W18 f16_Fld_2 (Or.inl ne_r0_arr)
      have f18_Arr_3 : OArr Z h18 arr .long 4 (fun i => if i = 0 then (Value.long (entJ p1 p2)) else (fun i => if i = 1 then (Value.long y0) else (fun i => if i = 3 then (Value.long y1) else fb i) i) i) := f16_Arr_3.set W18
      have KK18 : Keep h0 h18 [r0, arr] := Keep.wr KK16 W18 (Or.inl (List.mem_of_getElem? (i := 1) rfl))
      have Z18 : n0 ≤ h18.size := Nat.le_trans (Z16) (Nat.le_of_eq W18.size.symm)
      refine Runs.back st18 ?_
      show Runs _ _ _ _ T18 (mkF m 75 #[.val (.ref r0), .val (.int p1), .val (.int p2), .val (.int (0 : Int32)), .val (.long (entJ p1 p2)), .second] [])
      obtain ⟨fs, hr, hrun, hended, hW, hsame⟩ := X18.leave (v := none) (fun _ => rfl)
      exact ⟨_, _, (X18.returnOut hx Bd.returns (hb hby d4_75) hr), hrun, hended, _, _, rfl, (by show Q4s3 Z r0 p1 p2 arr fb y0 y1 y2 h0 n0 _ T18.heap _; rw [e18]; exact ⟨rfl, N18, KK18, f18_Exa_0, f18_Fld_1, f18_Fld_2, _, (entJ p1 p2), y0, y2, y1, f18_Arr_3, rfl, rfl, hy2, rfl, Or.inl ⟨c39_5, c39_12, rfl, rfl, rfl, rfl⟩⟩), ⟨_, rfl⟩, hW, hsame.mono (by decide) (by decide)⟩
    · refine Runs.back (fun t_ k_ => XS.ifYes X10.here hx rfl (pc0 := 39) (pc' := 67) rfl (hb hby d4_39) rfl ((if0 _ _).trans (flt (lcF' c39_12)).2.2.2) (by decide) (by decide) k_) ?_
      show Runs _ _ _ _ T10 (mkF m 67 #[.val (.ref r0), .val (.int p1), .val (.int p2), .val (.int (1 : Int32)), .val (.long (entJ p1 p2)), .second] [])
      refine Runs.back (fun t_ k_ => XS.aloadN X10.here hx rfl (hb hby d4_67) rfl rfl k_) ?_
      show Runs _ _ _ _ T10 (mkF m 68 #[.val (.ref r0), .val (.int p1), .val (.int p2), .val (.int (1 : Int32)), .val (.long (entJ p1 p2)), .second] [(.ref r0)])
      obtain ⟨T19, X19, e19, st19⟩ := getF X10 hx hZ hown (host := "") (Or.inl (hw _ (List.mem_of_getElem? (i := 15) rfl))) Via.refl e10 f9_Fld_1 (g := (mkF m 68 #[.val (.ref r0), .val (.int p1), .val (.int p2), .val (.int (1 : Int32)), .val (.long (entJ p1 p2)), .second] [(.ref r0)])) rfl rfl (hb hby d4_68)
      refine Runs.back st19 ?_
      show Runs _ _ _ _ T19 (mkF m 71 #[.val (.ref r0), .val (.int p1), .val (.int p2), .val (.int (1 : Int32)), .val (.long (entJ p1 p2)), .second] [(.ref arr)])
      refine Runs.back (fun t_ k_ => XS.iloadN X19.here hx rfl (hb hby d4_71) rfl k_) ?_
      show Runs _ _ _ _ T19 (mkF m 72 #[.val (.ref r0), .val (.int p1), .val (.int p2), .val (.int (1 : Int32)), .val (.long (entJ p1 p2)), .second] [(.int (1 : Int32)), (.ref arr)])
      refine Runs.back (fun t_ k_ => XS.lload X19.here hx rfl (hb hby d4_72) rfl k_) ?_
      show Runs _ _ _ _ T19 (mkF m 74 #[.val (.ref r0), .val (.int p1), .val (.int p2), .val (.int (1 : Int32)), .val (.long (entJ p1 p2)), .second] [(.long (entJ p1 p2)), (.int (1 : Int32)), (.ref arr)])
      obtain ⟨cl20, Ar20, S20, Hs20⟩ := id f9_Arr_3
      obtain ⟨T20, h20, X20, e20, W20, st20⟩ := stJ X19 hx hZ e19 Ar20 (j := (1 : Int32)) (by rw [S20]; exact (inbO (by decide : ¬ (1 : Int32) < 0) (rfl : ((1 : Int32)).toNatClampNeg = 1) (show 1 < 4 from (by first | omega | decide)))) (g := (mkF m 74 #[.val (.ref r0), .val (.int p1), .val (.int p2), .val (.int (1 : Int32)), .val (.long (entJ p1 p2)), .second] [(.long (entJ p1 p2)), (.int (1 : Int32)), (.ref arr)])) rfl rfl (hb hby d4_74)
      have N20 := Fr.snoc X20 N9 g_arr
      obtain ⟨L20, X20, N20⟩ := hideL X20 N20
      rw [(rfl : ((1 : Int32)).toNatClampNeg = 1)] at W20
      have f20_Exa_0 : Exa Z h20 r0 "com/example/tradewheel/tradewheel/PartQueue" := Exa.wr W20 f9_Exa_0
      have f20_Fld_1 : Fld Z h20 r0 "com/example/tradewheel/tradewheel/PartQueue" "heap" "[J" (.ref arr) := Fld.other W20 f9_Fld_1 (Or.inl ne_r0_arr)
      have f20_Fld_2 : Fld Z h20 r0 "com/example/tradewheel/tradewheel/PartQueue" "size" "I" (.int (4 : Int32)) := Fld.other W20 f9_Fld_2 (Or.inl ne_r0_arr)
      have f20_Arr_3 : OArr Z h20 arr .long 4 (fun i => if i = 1 then (Value.long (entJ p1 p2)) else (fun i => if i = 3 then (Value.long y1) else fb i) i) := f9_Arr_3.set W20
      have KK20 : Keep h0 h20 [r0, arr] := Keep.wr KK9 W20 (Or.inl (List.mem_of_getElem? (i := 1) rfl))
      have Z20 : n0 ≤ h20.size := Nat.le_trans (Z9) (Nat.le_of_eq W20.size.symm)
      refine Runs.back st20 ?_
      show Runs _ _ _ _ T20 (mkF m 75 #[.val (.ref r0), .val (.int p1), .val (.int p2), .val (.int (1 : Int32)), .val (.long (entJ p1 p2)), .second] [])
      obtain ⟨fs, hr, hrun, hended, hW, hsame⟩ := X20.leave (v := none) (fun _ => rfl)
      exact ⟨_, _, (X20.returnOut hx Bd.returns (hb hby d4_75) hr), hrun, hended, _, _, rfl, (by show Q4s3 Z r0 p1 p2 arr fb y0 y1 y2 h0 n0 _ T20.heap _; rw [e20]; exact ⟨rfl, N20, KK20, f20_Exa_0, f20_Fld_1, f20_Fld_2, _, y0, (entJ p1 p2), y2, y1, f20_Arr_3, hy0, rfl, hy2, rfl, Or.inr (Or.inl ⟨c39_5, c39_12, rfl, rfl, rfl, rfl⟩)⟩), ⟨_, rfl⟩, hW, hsame.mono (by decide) (by decide)⟩
  · refine Runs.back (fun t_ k_ => XS.ifYes X3.here hx rfl (pc0 := 39) (pc' := 67) rfl (hb hby d4_39) rfl ((if0 _ _).trans (flt (lcF' c39_5)).2.2.2) (by decide) (by decide) k_) ?_
    show Runs _ _ _ _ T3 (mkF m 67 #[.val (.ref r0), .val (.int p1), .val (.int p2), .val (.int (3 : Int32)), .val (.long (entJ p1 p2)), .second] [])
    refine Runs.back (fun t_ k_ => XS.aloadN X3.here hx rfl (hb hby d4_67) rfl rfl k_) ?_
    show Runs _ _ _ _ T3 (mkF m 68 #[.val (.ref r0), .val (.int p1), .val (.int p2), .val (.int (3 : Int32)), .val (.long (entJ p1 p2)), .second] [(.ref r0)])
    obtain ⟨T21, X21, e21, st21⟩ := getF X3 hx hZ hown (host := "") (Or.inl (hw _ (List.mem_of_getElem? (i := 15) rfl))) Via.refl e3 f2_Fld_1 (g := (mkF m 68 #[.val (.ref r0), .val (.int p1), .val (.int p2), .val (.int (3 : Int32)), .val (.long (entJ p1 p2)), .second] [(.ref r0)])) rfl rfl (hb hby d4_68)
    refine Runs.back st21 ?_
    show Runs _ _ _ _ T21 (mkF m 71 #[.val (.ref r0), .val (.int p1), .val (.int p2), .val (.int (3 : Int32)), .val (.long (entJ p1 p2)), .second] [(.ref arr)])
    refine Runs.back (fun t_ k_ => XS.iloadN X21.here hx rfl (hb hby d4_71) rfl k_) ?_
    show Runs _ _ _ _ T21 (mkF m 72 #[.val (.ref r0), .val (.int p1), .val (.int p2), .val (.int (3 : Int32)), .val (.long (entJ p1 p2)), .second] [(.int (3 : Int32)), (.ref arr)])
    refine Runs.back (fun t_ k_ => XS.lload X21.here hx rfl (hb hby d4_72) rfl k_) ?_
    show Runs _ _ _ _ T21 (mkF m 74 #[.val (.ref r0), .val (.int p1), .val (.int p2), .val (.int (3 : Int32)), .val (.long (entJ p1 p2)), .second] [(.long (entJ p1 p2)), (.int (3 : Int32)), (.ref arr)])
    obtain ⟨cl22, Ar22, S22, Hs22⟩ := id f2_Arr_3
    obtain ⟨T22, h22, X22, e22, W22, st22⟩ := stJ X21 hx hZ e21 Ar22 (j := (3 : Int32)) (by rw [S22]; exact (inbO (by decide : ¬ (3 : Int32) < 0) (rfl : ((3 : Int32)).toNatClampNeg = 3) (show 3 < 4 from (by first | omega | decide)))) (g := (mkF m 74 #[.val (.ref r0), .val (.int p1), .val (.int p2), .val (.int (3 : Int32)), .val (.long (entJ p1 p2)), .second] [(.long (entJ p1 p2)), (.int (3 : Int32)), (.ref arr)])) rfl rfl (hb hby d4_74)
    have N22 := Fr.snoc X22 N2 g_arr
    obtain ⟨L22, X22, N22⟩ := hideL X22 N22
    rw [(rfl : ((3 : Int32)).toNatClampNeg = 3)] at W22
    have f22_Exa_0 : Exa Z h22 r0 "com/example/tradewheel/tradewheel/PartQueue" := Exa.wr W22 f2_Exa_0
    have f22_Fld_1 : Fld Z h22 r0 "com/example/tradewheel/tradewheel/PartQueue" "heap" "[J" (.ref arr) := Fld.other W22 f2_Fld_1 (Or.inl ne_r0_arr)
    have f22_Fld_2 : Fld Z h22 r0 "com/example/tradewheel/tradewheel/PartQueue" "size" "I" (.int (4 : Int32)) := Fld.other W22 f2_Fld_2 (Or.inl ne_r0_arr)
    have f22_Arr_3 : OArr Z h22 arr .long 4 (fun i => if i = 3 then (Value.long (entJ p1 p2)) else fb i) := f2_Arr_3.set W22
    have KK22 : Keep h0 h22 [r0, arr] := Keep.wr KK2 W22 (Or.inl (List.mem_of_getElem? (i := 1) rfl))
    have Z22 : n0 ≤ h22.size := Nat.le_trans (Z2) (Nat.le_of_eq W22.size.symm)
    refine Runs.back st22 ?_
    show Runs _ _ _ _ T22 (mkF m 75 #[.val (.ref r0), .val (.int p1), .val (.int p2), .val (.int (3 : Int32)), .val (.long (entJ p1 p2)), .second] [])
    obtain ⟨fs, hr, hrun, hended, hW, hsame⟩ := X22.leave (v := none) (fun _ => rfl)
    exact ⟨_, _, (X22.returnOut hx Bd.returns (hb hby d4_75) hr), hrun, hended, _, _, rfl, (by show Q4s3 Z r0 p1 p2 arr fb y0 y1 y2 h0 n0 _ T22.heap _; rw [e22]; exact ⟨rfl, N22, KK22, f22_Exa_0, f22_Fld_1, f22_Fld_2, _, y0, y1, y2, (entJ p1 p2), f22_Arr_3, hy0, hy1, hy2, rfl, Or.inr (Or.inr ⟨c39_5, rfl, rfl, rfl, rfl⟩)⟩), ⟨_, rfl⟩, hW, hsame.mono (by decide) (by decide)⟩
theorem d5_0 : decode prog_22_method_4_code 0 = .ok (.aload_n 0, 1) := by decide +kernel
theorem d5_1 : decode prog_22_method_4_code 1 = .ok (.getfield 7, 3) := by decide +kernel
theorem d5_4 : decode prog_22_method_4_code 4 = .ok (.iconst 0, 1) := by decide +kernel
theorem d5_5 : decode prog_22_method_4_code 5 = .ok (.laload, 1) := by decide +kernel
theorem d5_6 : decode prog_22_method_4_code 6 = .ok (.lstore_n 1, 1) := by decide +kernel
theorem d5_7 : decode prog_22_method_4_code 7 = .ok (.aload_n 0, 1) := by decide +kernel
theorem d5_8 : decode prog_22_method_4_code 8 = .ok (.getfield 7, 3) := by decide +kernel
theorem d5_11 : decode prog_22_method_4_code 11 = .ok (.aload_n 0, 1) := by decide +kernel
theorem d5_12 : decode prog_22_method_4_code 12 = .ok (.dup, 1) := by decide +kernel
theorem d5_13 : decode prog_22_method_4_code 13 = .ok (.getfield 13, 3) := by decide +kernel
theorem d5_16 : decode prog_22_method_4_code 16 = .ok (.iconst 1, 1) := by decide +kernel
theorem d5_17 : decode prog_22_method_4_code 17 = .ok (.isub, 1) := by decide +kernel
theorem d5_18 : decode prog_22_method_4_code 18 = .ok (.dup_x1, 1) := by decide +kernel
theorem d5_19 : decode prog_22_method_4_code 19 = .ok (.putfield 13, 3) := by decide +kernel
theorem d5_22 : decode prog_22_method_4_code 22 = .ok (.laload, 1) := by decide +kernel
theorem d5_23 : decode prog_22_method_4_code 23 = .ok (.lstore_n 3, 1) := by decide +kernel
theorem d5_24 : decode prog_22_method_4_code 24 = .ok (.iconst 0, 1) := by decide +kernel
theorem d5_25 : decode prog_22_method_4_code 25 = .ok (.istore 5, 2) := by decide +kernel
theorem d5_27 : decode prog_22_method_4_code 27 = .ok (.iconst 2, 1) := by decide +kernel
theorem d5_28 : decode prog_22_method_4_code 28 = .ok (.iload 5, 2) := by decide +kernel
theorem d5_30 : decode prog_22_method_4_code 30 = .ok (.imul, 1) := by decide +kernel
theorem d5_31 : decode prog_22_method_4_code 31 = .ok (.iconst 1, 1) := by decide +kernel
theorem d5_32 : decode prog_22_method_4_code 32 = .ok (.iadd, 1) := by decide +kernel
theorem d5_33 : decode prog_22_method_4_code 33 = .ok (.aload_n 0, 1) := by decide +kernel
theorem d5_34 : decode prog_22_method_4_code 34 = .ok (.getfield 13, 3) := by decide +kernel
theorem d5_37 : decode prog_22_method_4_code 37 = .ok (.if_icmp .ge 81, 3) := by decide +kernel
theorem d5_40 : decode prog_22_method_4_code 40 = .ok (.iconst 2, 1) := by decide +kernel
theorem d5_41 : decode prog_22_method_4_code 41 = .ok (.iload 5, 2) := by decide +kernel
theorem d5_43 : decode prog_22_method_4_code 43 = .ok (.imul, 1) := by decide +kernel
theorem d5_44 : decode prog_22_method_4_code 44 = .ok (.iconst 1, 1) := by decide +kernel
theorem d5_45 : decode prog_22_method_4_code 45 = .ok (.iadd, 1) := by decide +kernel
theorem d5_46 : decode prog_22_method_4_code 46 = .ok (.istore 6, 2) := by decide +kernel
theorem d5_48 : decode prog_22_method_4_code 48 = .ok (.iload 6, 2) := by decide +kernel
theorem d5_50 : decode prog_22_method_4_code 50 = .ok (.iconst 1, 1) := by decide +kernel
theorem d5_51 : decode prog_22_method_4_code 51 = .ok (.iadd, 1) := by decide +kernel
theorem d5_52 : decode prog_22_method_4_code 52 = .ok (.aload_n 0, 1) := by decide +kernel
theorem d5_53 : decode prog_22_method_4_code 53 = .ok (.getfield 13, 3) := by decide +kernel
theorem d5_56 : decode prog_22_method_4_code 56 = .ok (.if_icmp .ge 26, 3) := by decide +kernel
theorem d5_59 : decode prog_22_method_4_code 59 = .ok (.aload_n 0, 1) := by decide +kernel
theorem d5_60 : decode prog_22_method_4_code 60 = .ok (.getfield 7, 3) := by decide +kernel
theorem d5_63 : decode prog_22_method_4_code 63 = .ok (.iload 6, 2) := by decide +kernel
theorem d5_65 : decode prog_22_method_4_code 65 = .ok (.iconst 1, 1) := by decide +kernel
theorem d5_66 : decode prog_22_method_4_code 66 = .ok (.iadd, 1) := by decide +kernel
theorem d5_67 : decode prog_22_method_4_code 67 = .ok (.laload, 1) := by decide +kernel
theorem d5_68 : decode prog_22_method_4_code 68 = .ok (.aload_n 0, 1) := by decide +kernel
theorem d5_69 : decode prog_22_method_4_code 69 = .ok (.getfield 7, 3) := by decide +kernel
theorem d5_72 : decode prog_22_method_4_code 72 = .ok (.iload 6, 2) := by decide +kernel
theorem d5_74 : decode prog_22_method_4_code 74 = .ok (.laload, 1) := by decide +kernel
theorem d5_75 : decode prog_22_method_4_code 75 = .ok (.lcmp, 1) := by decide +kernel
theorem d5_76 : decode prog_22_method_4_code 76 = .ok (.ifCond .ge 6, 3) := by decide +kernel
theorem d5_79 : decode prog_22_method_4_code 79 = .ok (.iinc 6 1, 3) := by decide +kernel
theorem d5_82 : decode prog_22_method_4_code 82 = .ok (.aload_n 0, 1) := by decide +kernel
theorem d5_83 : decode prog_22_method_4_code 83 = .ok (.getfield 7, 3) := by decide +kernel
theorem d5_86 : decode prog_22_method_4_code 86 = .ok (.iload 6, 2) := by decide +kernel
theorem d5_88 : decode prog_22_method_4_code 88 = .ok (.laload, 1) := by decide +kernel
theorem d5_89 : decode prog_22_method_4_code 89 = .ok (.lload_n 3, 1) := by decide +kernel
theorem d5_90 : decode prog_22_method_4_code 90 = .ok (.lcmp, 1) := by decide +kernel
theorem d5_91 : decode prog_22_method_4_code 91 = .ok (.ifCond .lt 6, 3) := by decide +kernel
theorem d5_94 : decode prog_22_method_4_code 94 = .ok (.goto 24, 3) := by decide +kernel
theorem d5_97 : decode prog_22_method_4_code 97 = .ok (.aload_n 0, 1) := by decide +kernel
theorem d5_98 : decode prog_22_method_4_code 98 = .ok (.getfield 7, 3) := by decide +kernel
theorem d5_101 : decode prog_22_method_4_code 101 = .ok (.iload 5, 2) := by decide +kernel
theorem d5_103 : decode prog_22_method_4_code 103 = .ok (.aload_n 0, 1) := by decide +kernel
theorem d5_104 : decode prog_22_method_4_code 104 = .ok (.getfield 7, 3) := by decide +kernel
theorem d5_107 : decode prog_22_method_4_code 107 = .ok (.iload 6, 2) := by decide +kernel
theorem d5_109 : decode prog_22_method_4_code 109 = .ok (.laload, 1) := by decide +kernel
theorem d5_110 : decode prog_22_method_4_code 110 = .ok (.lastore, 1) := by decide +kernel
theorem d5_111 : decode prog_22_method_4_code 111 = .ok (.iload 6, 2) := by decide +kernel
theorem d5_113 : decode prog_22_method_4_code 113 = .ok (.istore 5, 2) := by decide +kernel
theorem d5_115 : decode prog_22_method_4_code 115 = .ok (.goto (-88), 3) := by decide +kernel
theorem d5_118 : decode prog_22_method_4_code 118 = .ok (.aload_n 0, 1) := by decide +kernel
theorem d5_119 : decode prog_22_method_4_code 119 = .ok (.getfield 7, 3) := by decide +kernel
theorem d5_122 : decode prog_22_method_4_code 122 = .ok (.iload 5, 2) := by decide +kernel
theorem d5_124 : decode prog_22_method_4_code 124 = .ok (.lload_n 3, 1) := by decide +kernel
theorem d5_125 : decode prog_22_method_4_code 125 = .ok (.lastore, 1) := by decide +kernel
theorem d5_126 : decode prog_22_method_4_code 126 = .ok (.lload_n 1, 1) := by decide +kernel
theorem d5_127 : decode prog_22_method_4_code 127 = .ok (.bipush 32, 2) := by decide +kernel
theorem d5_129 : decode prog_22_method_4_code 129 = .ok (.lushr, 1) := by decide +kernel
theorem d5_130 : decode prog_22_method_4_code 130 = .ok (.l2i, 1) := by decide +kernel
theorem d5_131 : decode prog_22_method_4_code 131 = .ok (.ireturn, 1) := by decide +kernel
theorem pn_5s4 : plainName "com/example/tradewheel/tradewheel/PartQueue" = true := by first | (simp [plainName, overriddenIn]; done) | decide +kernel
theorem ef_5s4 (m : MethodId) (r0 : Addr) : entryFrame m #[(.ref r0)] 7 = mkF m 0 #[.val (.ref r0), .unset, .unset, .unset, .unset, .unset, .unset] [] := by first | (simp [entryFrame, mkF, argsToLocals, Value.category]; done) | rfl
def Q5s4 (Z : State) (r0 : Addr) (arr : Addr) (fb : Nat → Value) (y0 y1 y2 y3 : Int64) (h0 : Heap) (n0 : Nat) (v : Option Value) (h : Heap) (L : List Loc) : Prop := v = some (.int (hiI y0)) ∧ Fr n0 L ∧ Keep h0 h [r0, arr] ∧ Exa Z h r0 "com/example/tradewheel/tradewheel/PartQueue" ∧ Fld Z h r0 "com/example/tradewheel/tradewheel/PartQueue" "heap" "[J" (.ref arr) ∧ Fld Z h r0 "com/example/tradewheel/tradewheel/PartQueue" "size" "I" (.int (3 : Int32)) ∧ ∃ (f : Nat → Value) (u0 u1 u2 : Int64), OArr Z h arr .long 4 f ∧ f 0 = .long u0 ∧ f 1 = .long u1 ∧ f 2 = .long u2 ∧ RemR4 y0 y1 y2 y3 u0 u1 u2
set_option maxRecDepth 65536 in
set_option maxHeartbeats 40000000 in
theorem rm5s4 (l : Launch) (Z : State) (a0 : Array Value) (hw : ∀ d ∈ tables_1, d.before a0 Z = true) (ws : List Jvm.Cond) (r0 : Addr) (arr : Addr) (fb : Nat → Value) (y0 y1 y2 y3 : Int64) (h0 : Heap) (n0 : Nat) (Z0 : n0 ≤ h0.size) (E_r0 : Exa Z h0 r0 "com/example/tradewheel/tradewheel/PartQueue") (F1 : Fld Z h0 r0 "com/example/tradewheel/tradewheel/PartQueue" "heap" "[J" (.ref arr)) (F2 : Fld Z h0 r0 "com/example/tradewheel/tradewheel/PartQueue" "size" "I" (.int (4 : Int32))) (A1 : OArr Z h0 arr .long 4 fb) (ne_r0_arr : r0 ≠ arr) (g_r0 : n0 ≤ r0) (g_arr : n0 ≤ arr) (hy0 : fb 0 = .long y0) (hy1 : fb 1 = .long y1) (hy2 : fb 2 = .long y2) (hy3 : fb 3 = .long y3) :
    MetFree l (⟨"com/example/tradewheel/tradewheel/PartQueue", "remove", "()I"⟩ : MethodName) (head1 (Jvm.Cond.code (⟨"com/example/tradewheel/tradewheel/PartQueue", "remove", "()I"⟩ : MethodName) prog_22_method_4_code 7 (some .int) :: ws) ({ frames := 0, cells := 0, slots := 0, locals := 0 } : Room)) (fun a U => a = #[(.ref r0)] ∧ Z.Warmed39 U.vm ∧ U.heap = h0) (fun _ _ _ _ _ => True) (fun _ U o U' => ∃ v L, o = .returned v ∧ Q5s4 Z r0 arr fb y0 y1 y2 y3 h0 n0 v U'.heap L ∧ FrameEnd U o U' L ({ frames := 0, cells := 0, slots := 0, locals := 0 } : Room).cells ({ frames := 0, cells := 0, slots := 0, locals := 0 } : Room).slots) := by
  refine MetFree.of_bodySF (plainFor_of_name pn_5s4) hisR ?_
  intro p e s m args below meth c s₁ Bd hml0 hP hK
  obtain ⟨rfl, hZ, hh⟩ := hP
  have hx := Bd.exec
  have hby := Bd.bytes
  have hml : c.maxLocals = 7 := hml0
  have hown : s.vm.findClass "com/example/tradewheel/tradewheel/PartQueue" = some m.cls := findClass_of_methodNamed Bd.named
  have hnm := (name_of_methodNamed Bd.named Bd.method).1
  have X0 : Stand p l e ({ frames := 0, cells := 0, slots := 0, locals := 0 } : Room) s m #[(.ref r0)] below meth c s₁ [] 0 0 := Stand.of_body Bd
  have e0 : s₁.heap = h0 := by rw [← hh, Bd.state]; rfl
  have N0 := Fr.nil n0
  refine Runs.enter (ef_5s4 m r0) ?_
  show Runs _ _ _ _ s₁ (mkF m 0 #[.val (.ref r0), .unset, .unset, .unset, .unset, .unset, .unset] [])
  refine Runs.back (fun t_ k_ => XS.aloadN X0.here hx rfl (hb hby d5_0) rfl rfl k_) ?_
  show Runs _ _ _ _ s₁ (mkF m 1 #[.val (.ref r0), .unset, .unset, .unset, .unset, .unset, .unset] [(.ref r0)])
  obtain ⟨T1, X1, e1, st1⟩ := getF X0 hx hZ hown (host := "") (Or.inl (hw _ (List.mem_of_getElem? (i := 15) rfl))) Via.refl e0 F1 (g := (mkF m 1 #[.val (.ref r0), .unset, .unset, .unset, .unset, .unset, .unset] [(.ref r0)])) rfl rfl (hb hby d5_1)
  refine Runs.back st1 ?_
  show Runs _ _ _ _ T1 (mkF m 4 #[.val (.ref r0), .unset, .unset, .unset, .unset, .unset, .unset] [(.ref arr)])
  refine Runs.back (fun t_ k_ => XS.iconst X1.here hx rfl (hb hby d5_4) k_) ?_
  show Runs _ _ _ _ T1 (mkF m 5 #[.val (.ref r0), .unset, .unset, .unset, .unset, .unset, .unset] [(.int (0 : Int32)), (.ref arr)])
  obtain ⟨cl2, Ar2, S2, Hs2⟩ := id A1
  have at2 : cl2.slots[((0 : Int32)).toNatClampNeg]? = some (.long y0) := readO Hs2 (rfl : ((0 : Int32)).toNatClampNeg = 0) (show 0 < 4 from (by first | omega | decide)) (hy0)
  refine Runs.back (fun t_ k_ => X1.laload hx (j := (0 : Int32)) (v := (.long y0)) (by rw [e1]; exact Ar2.1) (State.isArrayOf_alike hZ.alike Ar2.2.1) Ar2.2.2 (by rw [S2]; exact (inbO (by decide : ¬ (0 : Int32) < 0) (rfl : ((0 : Int32)).toNatClampNeg = 0) (show 0 < 4 from (by first | omega | decide)))) at2 (g := (mkF m 5 #[.val (.ref r0), .unset, .unset, .unset, .unset, .unset, .unset] [(.int (0 : Int32)), (.ref arr)])) rfl rfl (hb hby d5_5) _ k_) ?_
  show Runs _ _ _ _ T1 (mkF m 6 #[.val (.ref r0), .unset, .unset, .unset, .unset, .unset, .unset] [(.long y0)])
  refine Runs.back (fun t_ k_ => XS.lstoreN X1.here hx rfl (hb hby d5_6) rfl (l' := #[.val (.ref r0), .val (.long y0), .second, .unset, .unset, .unset, .unset]) rfl k_) ?_
  show Runs _ _ _ _ T1 (mkF m 7 #[.val (.ref r0), .val (.long y0), .second, .unset, .unset, .unset, .unset] [])
  refine Runs.back (fun t_ k_ => XS.aloadN X1.here hx rfl (hb hby d5_7) rfl rfl k_) ?_
  show Runs _ _ _ _ T1 (mkF m 8 #[.val (.ref r0), .val (.long y0), .second, .unset, .unset, .unset, .unset] [(.ref r0)])
  obtain ⟨T3, X3, e3, st3⟩ := getF X1 hx hZ hown (host := "") (Or.inl (hw _ (List.mem_of_getElem? (i := 15) rfl))) Via.refl e1 F1 (g := (mkF m 8 #[.val (.ref r0), .val (.long y0), .second, .unset, .unset, .unset, .unset] [(.ref r0)])) rfl rfl (hb hby d5_8)
  refine Runs.back st3 ?_
  show Runs _ _ _ _ T3 (mkF m 11 #[.val (.ref r0), .val (.long y0), .second, .unset, .unset, .unset, .unset] [(.ref arr)])
  refine Runs.back (fun t_ k_ => XS.aloadN X3.here hx rfl (hb hby d5_11) rfl rfl k_) ?_
  show Runs _ _ _ _ T3 (mkF m 12 #[.val (.ref r0), .val (.long y0), .second, .unset, .unset, .unset, .unset] [(.ref r0), (.ref arr)])
  refine Runs.back (fun t_ k_ => XS.dup X3.here hx rfl (hb hby d5_12) rfl rfl k_) ?_
  show Runs _ _ _ _ T3 (mkF m 13 #[.val (.ref r0), .val (.long y0), .second, .unset, .unset, .unset, .unset] [(.ref r0), (.ref r0), (.ref arr)])
  obtain ⟨T4, X4, e4, st4⟩ := getF X3 hx hZ hown (host := "") (Or.inl (hw _ (List.mem_of_getElem? (i := 22) rfl))) Via.refl e3 F2 (g := (mkF m 13 #[.val (.ref r0), .val (.long y0), .second, .unset, .unset, .unset, .unset] [(.ref r0), (.ref r0), (.ref arr)])) rfl rfl (hb hby d5_13)
  refine Runs.back st4 ?_
  show Runs _ _ _ _ T4 (mkF m 16 #[.val (.ref r0), .val (.long y0), .second, .unset, .unset, .unset, .unset] [(.int (4 : Int32)), (.ref r0), (.ref arr)])
  refine Runs.back (fun t_ k_ => XS.iconst X4.here hx rfl (hb hby d5_16) k_) ?_
  show Runs _ _ _ _ T4 (mkF m 17 #[.val (.ref r0), .val (.long y0), .second, .unset, .unset, .unset, .unset] [(.int (1 : Int32)), (.int (4 : Int32)), (.ref r0), (.ref arr)])
  refine Runs.back (fun t_ k_ => XS.isub X4.here hx rfl (hb hby d5_17) rfl k_) ?_
  show Runs _ _ _ _ T4 (mkF m 18 #[.val (.ref r0), .val (.long y0), .second, .unset, .unset, .unset, .unset] [(.int ((4 : Int32) - (1 : Int32))), (.ref r0), (.ref arr)])
  rw [show ((4 : Int32) - (1 : Int32)) = (3 : Int32) from by decide]
  show Runs _ _ _ _ T4 (mkF m 18 #[.val (.ref r0), .val (.long y0), .second, .unset, .unset, .unset, .unset] [(.int (3 : Int32)), (.ref r0), (.ref arr)])
  refine Runs.back (fun t_ k_ => XS.dupX1 X4.here hx rfl (hb hby d5_18) rfl rfl rfl k_) ?_
  show Runs _ _ _ _ T4 (mkF m 19 #[.val (.ref r0), .val (.long y0), .second, .unset, .unset, .unset, .unset] [(.int (3 : Int32)), (.ref r0), (.int (3 : Int32)), (.ref arr)])
  obtain ⟨T5, h5, X5, e5, W5, st5⟩ := putF X4 hx hZ hown (host := "") (Or.inl (hw _ (List.mem_of_getElem? (i := 22) rfl))) Via.refl e4 F2 E_r0 (Or.inl (hw _ (List.mem_of_getElem? (i := 23) rfl))) (hw _ (List.mem_of_getElem? (i := 6) rfl)) (ty := .int) (by decide) rfl rfl (g := (mkF m 19 #[.val (.ref r0), .val (.long y0), .second, .unset, .unset, .unset, .unset] [(.int (3 : Int32)), (.ref r0), (.int (3 : Int32)), (.ref arr)])) rfl rfl (hb hby d5_19)
  have f5_Exa_0 : Exa Z h5 r0 "com/example/tradewheel/tradewheel/PartQueue" := Exa.wr W5 E_r0
  have f5_Fld_1 : Fld Z h5 r0 "com/example/tradewheel/tradewheel/PartQueue" "heap" "[J" (.ref arr) := Fld.other W5 F1 (Or.inr (slot_ne (Or.inr (hw _ (List.mem_of_getElem? (i := 16) rfl))) (Or.inl (hw _ (List.mem_of_getElem? (i := 23) rfl))) (by decide) (t := (.array .long)) (t' := .int) (by decide) (by decide)))
  have f5_Fld_2 : Fld Z h5 r0 "com/example/tradewheel/tradewheel/PartQueue" "size" "I" (.int (3 : Int32)) := Fld.same W5 F2
  have f5_Arr_3 : OArr Z h5 arr .long 4 fb := A1.other W5 (Ne.symm ne_r0_arr)
  have N5 := Fr.snoc X5 N0 g_r0
  obtain ⟨L5, X5, N5⟩ := hideL X5 N5
  have KK5 : Keep h0 h5 [r0, arr] := Keep.wr (Keep.refl h0 [r0, arr]) W5 (Or.inl (List.mem_of_getElem? (i := 0) rfl))
  have Z5 : n0 ≤ h5.size := Nat.le_trans (Z0) (Nat.le_of_eq W5.size.symm)
  refine Runs.back st5 ?_
  show Runs _ _ _ _ T5 (mkF m 22 #[.val (.ref r0), .val (.long y0), .second, .unset, .unset, .unset, .unset] [(.int (3 : Int32)), (.ref arr)])
  obtain ⟨cl6, Ar6, S6, Hs6⟩ := id f5_Arr_3
  have at6 : cl6.slots[((3 : Int32)).toNatClampNeg]? = some (.long y3) := readO Hs6 (rfl : ((3 : Int32)).toNatClampNeg = 3) (show 3 < 4 from (by first | omega | decide)) (hy3)
  refine Runs.back (fun t_ k_ => X5.laload hx (j := (3 : Int32)) (v := (.long y3)) (by rw [e5]; exact Ar6.1) (State.isArrayOf_alike hZ.alike Ar6.2.1) Ar6.2.2 (by rw [S6]; exact (inbO (by decide : ¬ (3 : Int32) < 0) (rfl : ((3 : Int32)).toNatClampNeg = 3) (show 3 < 4 from (by first | omega | decide)))) at6 (g := (mkF m 22 #[.val (.ref r0), .val (.long y0), .second, .unset, .unset, .unset, .unset] [(.int (3 : Int32)), (.ref arr)])) rfl rfl (hb hby d5_22) _ k_) ?_
  show Runs _ _ _ _ T5 (mkF m 23 #[.val (.ref r0), .val (.long y0), .second, .unset, .unset, .unset, .unset] [(.long y3)])
  refine Runs.back (fun t_ k_ => XS.lstoreN X5.here hx rfl (hb hby d5_23) rfl (l' := #[.val (.ref r0), .val (.long y0), .second, .val (.long y3), .second, .unset, .unset]) rfl k_) ?_
  show Runs _ _ _ _ T5 (mkF m 24 #[.val (.ref r0), .val (.long y0), .second, .val (.long y3), .second, .unset, .unset] [])
  refine Runs.back (fun t_ k_ => XS.iconst X5.here hx rfl (hb hby d5_24) k_) ?_
  show Runs _ _ _ _ T5 (mkF m 25 #[.val (.ref r0), .val (.long y0), .second, .val (.long y3), .second, .unset, .unset] [(.int (0 : Int32))])
  refine Runs.back (fun t_ k_ => XS.istore X5.here hx rfl (hb hby d5_25) rfl (l' := #[.val (.ref r0), .val (.long y0), .second, .val (.long y3), .second, .val (.int (0 : Int32)), .unset]) rfl k_) ?_
  show Runs _ _ _ _ T5 (mkF m 27 #[.val (.ref r0), .val (.long y0), .second, .val (.long y3), .second, .val (.int (0 : Int32)), .unset] [])
  refine Runs.back (fun t_ k_ => XS.iconst X5.here hx rfl (hb hby d5_27) k_) ?_
  show Runs _ _ _ _ T5 (mkF m 28 #[.val (.ref r0), .val (.long y0), .second, .val (.long y3), .second, .val (.int (0 : Int32)), .unset] [(.int (2 : Int32))])
  refine Runs.back (fun t_ k_ => XS.iload X5.here hx rfl (hb hby d5_28) rfl k_) ?_
  show Runs _ _ _ _ T5 (mkF m 30 #[.val (.ref r0), .val (.long y0), .second, .val (.long y3), .second, .val (.int (0 : Int32)), .unset] [(.int (0 : Int32)), (.int (2 : Int32))])
  refine Runs.back (fun t_ k_ => XS.imul X5.here hx rfl (hb hby d5_30) rfl k_) ?_
  show Runs _ _ _ _ T5 (mkF m 31 #[.val (.ref r0), .val (.long y0), .second, .val (.long y3), .second, .val (.int (0 : Int32)), .unset] [(.int ((2 : Int32) * (0 : Int32)))])
  rw [show ((2 : Int32) * (0 : Int32)) = (0 : Int32) from by decide]
  show Runs _ _ _ _ T5 (mkF m 31 #[.val (.ref r0), .val (.long y0), .second, .val (.long y3), .second, .val (.int (0 : Int32)), .unset] [(.int (0 : Int32))])
  refine Runs.back (fun t_ k_ => XS.iconst X5.here hx rfl (hb hby d5_31) k_) ?_
  show Runs _ _ _ _ T5 (mkF m 32 #[.val (.ref r0), .val (.long y0), .second, .val (.long y3), .second, .val (.int (0 : Int32)), .unset] [(.int (1 : Int32)), (.int (0 : Int32))])
  refine Runs.back (fun t_ k_ => XS.iadd X5.here hx rfl (hb hby d5_32) rfl k_) ?_
  show Runs _ _ _ _ T5 (mkF m 33 #[.val (.ref r0), .val (.long y0), .second, .val (.long y3), .second, .val (.int (0 : Int32)), .unset] [(.int ((0 : Int32) + (1 : Int32)))])
  rw [show ((0 : Int32) + (1 : Int32)) = (1 : Int32) from by decide]
  show Runs _ _ _ _ T5 (mkF m 33 #[.val (.ref r0), .val (.long y0), .second, .val (.long y3), .second, .val (.int (0 : Int32)), .unset] [(.int (1 : Int32))])
  refine Runs.back (fun t_ k_ => XS.aloadN X5.here hx rfl (hb hby d5_33) rfl rfl k_) ?_
  show Runs _ _ _ _ T5 (mkF m 34 #[.val (.ref r0), .val (.long y0), .second, .val (.long y3), .second, .val (.int (0 : Int32)), .unset] [(.ref r0), (.int (1 : Int32))])
  obtain ⟨T7, X7, e7, st7⟩ := getF X5 hx hZ hown (host := "") (Or.inl (hw _ (List.mem_of_getElem? (i := 22) rfl))) Via.refl e5 f5_Fld_2 (g := (mkF m 34 #[.val (.ref r0), .val (.long y0), .second, .val (.long y3), .second, .val (.int (0 : Int32)), .unset] [(.ref r0), (.int (1 : Int32))])) rfl rfl (hb hby d5_34)
  refine Runs.back st7 ?_
  show Runs _ _ _ _ T7 (mkF m 37 #[.val (.ref r0), .val (.long y0), .second, .val (.long y3), .second, .val (.int (0 : Int32)), .unset] [(.int (3 : Int32)), (.int (1 : Int32))])
  refine Runs.back (fun t_ k_ => XS.icmpNo X7.here hx rfl (hb hby d5_37) rfl (tlt (show (1 : Int32) < (3 : Int32) from (by decide))).2.1 k_) ?_
  show Runs _ _ _ _ T7 (mkF m 40 #[.val (.ref r0), .val (.long y0), .second, .val (.long y3), .second, .val (.int (0 : Int32)), .unset] [])
  refine Runs.back (fun t_ k_ => XS.iconst X7.here hx rfl (hb hby d5_40) k_) ?_
  show Runs _ _ _ _ T7 (mkF m 41 #[.val (.ref r0), .val (.long y0), .second, .val (.long y3), .second, .val (.int (0 : Int32)), .unset] [(.int (2 : Int32))])
  refine Runs.back (fun t_ k_ => XS.iload X7.here hx rfl (hb hby d5_41) rfl k_) ?_
  show Runs _ _ _ _ T7 (mkF m 43 #[.val (.ref r0), .val (.long y0), .second, .val (.long y3), .second, .val (.int (0 : Int32)), .unset] [(.int (0 : Int32)), (.int (2 : Int32))])
  refine Runs.back (fun t_ k_ => XS.imul X7.here hx rfl (hb hby d5_43) rfl k_) ?_
  show Runs _ _ _ _ T7 (mkF m 44 #[.val (.ref r0), .val (.long y0), .second, .val (.long y3), .second, .val (.int (0 : Int32)), .unset] [(.int ((2 : Int32) * (0 : Int32)))])
  rw [show ((2 : Int32) * (0 : Int32)) = (0 : Int32) from by decide]
  show Runs _ _ _ _ T7 (mkF m 44 #[.val (.ref r0), .val (.long y0), .second, .val (.long y3), .second, .val (.int (0 : Int32)), .unset] [(.int (0 : Int32))])
  refine Runs.back (fun t_ k_ => XS.iconst X7.here hx rfl (hb hby d5_44) k_) ?_
  show Runs _ _ _ _ T7 (mkF m 45 #[.val (.ref r0), .val (.long y0), .second, .val (.long y3), .second, .val (.int (0 : Int32)), .unset] [(.int (1 : Int32)), (.int (0 : Int32))])
  refine Runs.back (fun t_ k_ => XS.iadd X7.here hx rfl (hb hby d5_45) rfl k_) ?_
  show Runs _ _ _ _ T7 (mkF m 46 #[.val (.ref r0), .val (.long y0), .second, .val (.long y3), .second, .val (.int (0 : Int32)), .unset] [(.int ((0 : Int32) + (1 : Int32)))])
  rw [show ((0 : Int32) + (1 : Int32)) = (1 : Int32) from by decide]
  show Runs _ _ _ _ T7 (mkF m 46 #[.val (.ref r0), .val (.long y0), .second, .val (.long y3), .second, .val (.int (0 : Int32)), .unset] [(.int (1 : Int32))])
  refine Runs.back (fun t_ k_ => XS.istore X7.here hx rfl (hb hby d5_46) rfl (l' := #[.val (.ref r0), .val (.long y0), .second, .val (.long y3), .second, .val (.int (0 : Int32)), .val (.int (1 : Int32))]) rfl k_) ?_
  show Runs _ _ _ _ T7 (mkF m 48 #[.val (.ref r0), .val (.long y0), .second, .val (.long y3), .second, .val (.int (0 : Int32)), .val (.int (1 : Int32))] [])
  refine Runs.back (fun t_ k_ => XS.iload X7.here hx rfl (hb hby d5_48) rfl k_) ?_
  show Runs _ _ _ _ T7 (mkF m 50 #[.val (.ref r0), .val (.long y0), .second, .val (.long y3), .second, .val (.int (0 : Int32)), .val (.int (1 : Int32))] [(.int (1 : Int32))])
  refine Runs.back (fun t_ k_ => XS.iconst X7.here hx rfl (hb hby d5_50) k_) ?_
  show Runs _ _ _ _ T7 (mkF m 51 #[.val (.ref r0), .val (.long y0), .second, .val (.long y3), .second, .val (.int (0 : Int32)), .val (.int (1 : Int32))] [(.int (1 : Int32)), (.int (1 : Int32))])
  refine Runs.back (fun t_ k_ => XS.iadd X7.here hx rfl (hb hby d5_51) rfl k_) ?_
  show Runs _ _ _ _ T7 (mkF m 52 #[.val (.ref r0), .val (.long y0), .second, .val (.long y3), .second, .val (.int (0 : Int32)), .val (.int (1 : Int32))] [(.int ((1 : Int32) + (1 : Int32)))])
  rw [show ((1 : Int32) + (1 : Int32)) = (2 : Int32) from by decide]
  show Runs _ _ _ _ T7 (mkF m 52 #[.val (.ref r0), .val (.long y0), .second, .val (.long y3), .second, .val (.int (0 : Int32)), .val (.int (1 : Int32))] [(.int (2 : Int32))])
  refine Runs.back (fun t_ k_ => XS.aloadN X7.here hx rfl (hb hby d5_52) rfl rfl k_) ?_
  show Runs _ _ _ _ T7 (mkF m 53 #[.val (.ref r0), .val (.long y0), .second, .val (.long y3), .second, .val (.int (0 : Int32)), .val (.int (1 : Int32))] [(.ref r0), (.int (2 : Int32))])
  obtain ⟨T8, X8, e8, st8⟩ := getF X7 hx hZ hown (host := "") (Or.inl (hw _ (List.mem_of_getElem? (i := 22) rfl))) Via.refl e7 f5_Fld_2 (g := (mkF m 53 #[.val (.ref r0), .val (.long y0), .second, .val (.long y3), .second, .val (.int (0 : Int32)), .val (.int (1 : Int32))] [(.ref r0), (.int (2 : Int32))])) rfl rfl (hb hby d5_53)
  refine Runs.back st8 ?_
  show Runs _ _ _ _ T8 (mkF m 56 #[.val (.ref r0), .val (.long y0), .second, .val (.long y3), .second, .val (.int (0 : Int32)), .val (.int (1 : Int32))] [(.int (3 : Int32)), (.int (2 : Int32))])
  refine Runs.back (fun t_ k_ => XS.icmpNo X8.here hx rfl (hb hby d5_56) rfl (tlt (show (2 : Int32) < (3 : Int32) from (by decide))).2.1 k_) ?_
  show Runs _ _ _ _ T8 (mkF m 59 #[.val (.ref r0), .val (.long y0), .second, .val (.long y3), .second, .val (.int (0 : Int32)), .val (.int (1 : Int32))] [])
  refine Runs.back (fun t_ k_ => XS.aloadN X8.here hx rfl (hb hby d5_59) rfl rfl k_) ?_
  show Runs _ _ _ _ T8 (mkF m 60 #[.val (.ref r0), .val (.long y0), .second, .val (.long y3), .second, .val (.int (0 : Int32)), .val (.int (1 : Int32))] [(.ref r0)])
  obtain ⟨T9, X9, e9, st9⟩ := getF X8 hx hZ hown (host := "") (Or.inl (hw _ (List.mem_of_getElem? (i := 15) rfl))) Via.refl e8 f5_Fld_1 (g := (mkF m 60 #[.val (.ref r0), .val (.long y0), .second, .val (.long y3), .second, .val (.int (0 : Int32)), .val (.int (1 : Int32))] [(.ref r0)])) rfl rfl (hb hby d5_60)
  refine Runs.back st9 ?_
  show Runs _ _ _ _ T9 (mkF m 63 #[.val (.ref r0), .val (.long y0), .second, .val (.long y3), .second, .val (.int (0 : Int32)), .val (.int (1 : Int32))] [(.ref arr)])
  refine Runs.back (fun t_ k_ => XS.iload X9.here hx rfl (hb hby d5_63) rfl k_) ?_
  show Runs _ _ _ _ T9 (mkF m 65 #[.val (.ref r0), .val (.long y0), .second, .val (.long y3), .second, .val (.int (0 : Int32)), .val (.int (1 : Int32))] [(.int (1 : Int32)), (.ref arr)])
  refine Runs.back (fun t_ k_ => XS.iconst X9.here hx rfl (hb hby d5_65) k_) ?_
  show Runs _ _ _ _ T9 (mkF m 66 #[.val (.ref r0), .val (.long y0), .second, .val (.long y3), .second, .val (.int (0 : Int32)), .val (.int (1 : Int32))] [(.int (1 : Int32)), (.int (1 : Int32)), (.ref arr)])
  refine Runs.back (fun t_ k_ => XS.iadd X9.here hx rfl (hb hby d5_66) rfl k_) ?_
  show Runs _ _ _ _ T9 (mkF m 67 #[.val (.ref r0), .val (.long y0), .second, .val (.long y3), .second, .val (.int (0 : Int32)), .val (.int (1 : Int32))] [(.int ((1 : Int32) + (1 : Int32))), (.ref arr)])
  rw [show ((1 : Int32) + (1 : Int32)) = (2 : Int32) from by decide]
  show Runs _ _ _ _ T9 (mkF m 67 #[.val (.ref r0), .val (.long y0), .second, .val (.long y3), .second, .val (.int (0 : Int32)), .val (.int (1 : Int32))] [(.int (2 : Int32)), (.ref arr)])
  obtain ⟨cl10, Ar10, S10, Hs10⟩ := id f5_Arr_3
  have at10 : cl10.slots[((2 : Int32)).toNatClampNeg]? = some (.long y2) := readO Hs10 (rfl : ((2 : Int32)).toNatClampNeg = 2) (show 2 < 4 from (by first | omega | decide)) (hy2)
  refine Runs.back (fun t_ k_ => X9.laload hx (j := (2 : Int32)) (v := (.long y2)) (by rw [e9]; exact Ar10.1) (State.isArrayOf_alike hZ.alike Ar10.2.1) Ar10.2.2 (by rw [S10]; exact (inbO (by decide : ¬ (2 : Int32) < 0) (rfl : ((2 : Int32)).toNatClampNeg = 2) (show 2 < 4 from (by first | omega | decide)))) at10 (g := (mkF m 67 #[.val (.ref r0), .val (.long y0), .second, .val (.long y3), .second, .val (.int (0 : Int32)), .val (.int (1 : Int32))] [(.int (2 : Int32)), (.ref arr)])) rfl rfl (hb hby d5_67) _ k_) ?_
  show Runs _ _ _ _ T9 (mkF m 68 #[.val (.ref r0), .val (.long y0), .second, .val (.long y3), .second, .val (.int (0 : Int32)), .val (.int (1 : Int32))] [(.long y2)])
  refine Runs.back (fun t_ k_ => XS.aloadN X9.here hx rfl (hb hby d5_68) rfl rfl k_) ?_
  show Runs _ _ _ _ T9 (mkF m 69 #[.val (.ref r0), .val (.long y0), .second, .val (.long y3), .second, .val (.int (0 : Int32)), .val (.int (1 : Int32))] [(.ref r0), (.long y2)])
  obtain ⟨T11, X11, e11, st11⟩ := getF X9 hx hZ hown (host := "") (Or.inl (hw _ (List.mem_of_getElem? (i := 15) rfl))) Via.refl e9 f5_Fld_1 (g := (mkF m 69 #[.val (.ref r0), .val (.long y0), .second, .val (.long y3), .second, .val (.int (0 : Int32)), .val (.int (1 : Int32))] [(.ref r0), (.long y2)])) rfl rfl (hb hby d5_69)
  refine Runs.back st11 ?_
  show Runs _ _ _ _ T11 (mkF m 72 #[.val (.ref r0), .val (.long y0), .second, .val (.long y3), .second, .val (.int (0 : Int32)), .val (.int (1 : Int32))] [(.ref arr), (.long y2)])
  refine Runs.back (fun t_ k_ => XS.iload X11.here hx rfl (hb hby d5_72) rfl k_) ?_
  show Runs _ _ _ _ T11 (mkF m 74 #[.val (.ref r0), .val (.long y0), .second, .val (.long y3), .second, .val (.int (0 : Int32)), .val (.int (1 : Int32))] [(.int (1 : Int32)), (.ref arr), (.long y2)])
  obtain ⟨cl12, Ar12, S12, Hs12⟩ := id f5_Arr_3
  have at12 : cl12.slots[((1 : Int32)).toNatClampNeg]? = some (.long y1) := readO Hs12 (rfl : ((1 : Int32)).toNatClampNeg = 1) (show 1 < 4 from (by first | omega | decide)) (hy1)
  refine Runs.back (fun t_ k_ => X11.laload hx (j := (1 : Int32)) (v := (.long y1)) (by rw [e11]; exact Ar12.1) (State.isArrayOf_alike hZ.alike Ar12.2.1) Ar12.2.2 (by rw [S12]; exact (inbO (by decide : ¬ (1 : Int32) < 0) (rfl : ((1 : Int32)).toNatClampNeg = 1) (show 1 < 4 from (by first | omega | decide)))) at12 (g := (mkF m 74 #[.val (.ref r0), .val (.long y0), .second, .val (.long y3), .second, .val (.int (0 : Int32)), .val (.int (1 : Int32))] [(.int (1 : Int32)), (.ref arr), (.long y2)])) rfl rfl (hb hby d5_74) _ k_) ?_
  show Runs _ _ _ _ T11 (mkF m 75 #[.val (.ref r0), .val (.long y0), .second, .val (.long y3), .second, .val (.int (0 : Int32)), .val (.int (1 : Int32))] [(.long y1), (.long y2)])
  refine Runs.back (fun t_ k_ => XS.lcmp X11.here hx rfl (hb hby d5_75) rfl k_) ?_
  show Runs _ _ _ _ T11 (mkF m 76 #[.val (.ref r0), .val (.long y0), .second, .val (.long y3), .second, .val (.int (0 : Int32)), .val (.int (1 : Int32))] [(.int (lcmpW y2 y1))])
  by_cases c76_13 : y2 < y1
  · refine Runs.back (fun t_ k_ => XS.ifNo X11.here hx rfl (hb hby d5_76) rfl ((if0 _ _).trans (tlt (lcT c76_13)).2.1) k_) ?_
    show Runs _ _ _ _ T11 (mkF m 79 #[.val (.ref r0), .val (.long y0), .second, .val (.long y3), .second, .val (.int (0 : Int32)), .val (.int (1 : Int32))] [])
    refine Runs.back (fun t_ k_ => XS.iinc X11.here hx rfl (hb hby d5_79) rfl (l' := #[.val (.ref r0), .val (.long y0), .second, .val (.long y3), .second, .val (.int (0 : Int32)), .val (.int ((1 : Int32) + (1 : Int32)))]) rfl k_) ?_
    show Runs _ _ _ _ T11 (mkF m 82 #[.val (.ref r0), .val (.long y0), .second, .val (.long y3), .second, .val (.int (0 : Int32)), .val (.int ((1 : Int32) + (1 : Int32)))] [])
    rw [show ((1 : Int32) + (1 : Int32)) = (2 : Int32) from by decide]
    show Runs _ _ _ _ T11 (mkF m 82 #[.val (.ref r0), .val (.long y0), .second, .val (.long y3), .second, .val (.int (0 : Int32)), .val (.int (2 : Int32))] [])
    refine Runs.back (fun t_ k_ => XS.aloadN X11.here hx rfl (hb hby d5_82) rfl rfl k_) ?_
    show Runs _ _ _ _ T11 (mkF m 83 #[.val (.ref r0), .val (.long y0), .second, .val (.long y3), .second, .val (.int (0 : Int32)), .val (.int (2 : Int32))] [(.ref r0)])
    obtain ⟨T14, X14, e14, st14⟩ := getF X11 hx hZ hown (host := "") (Or.inl (hw _ (List.mem_of_getElem? (i := 15) rfl))) Via.refl e11 f5_Fld_1 (g := (mkF m 83 #[.val (.ref r0), .val (.long y0), .second, .val (.long y3), .second, .val (.int (0 : Int32)), .val (.int (2 : Int32))] [(.ref r0)])) rfl rfl (hb hby d5_83)
    refine Runs.back st14 ?_
    show Runs _ _ _ _ T14 (mkF m 86 #[.val (.ref r0), .val (.long y0), .second, .val (.long y3), .second, .val (.int (0 : Int32)), .val (.int (2 : Int32))] [(.ref arr)])
    refine Runs.back (fun t_ k_ => XS.iload X14.here hx rfl (hb hby d5_86) rfl k_) ?_
    show Runs _ _ _ _ T14 (mkF m 88 #[.val (.ref r0), .val (.long y0), .second, .val (.long y3), .second, .val (.int (0 : Int32)), .val (.int (2 : Int32))] [(.int (2 : Int32)), (.ref arr)])
    obtain ⟨cl15, Ar15, S15, Hs15⟩ := id f5_Arr_3
    have at15 : cl15.slots[((2 : Int32)).toNatClampNeg]? = some (.long y2) := readO Hs15 (rfl : ((2 : Int32)).toNatClampNeg = 2) (show 2 < 4 from (by first | omega | decide)) (hy2)
    refine Runs.back (fun t_ k_ => X14.laload hx (j := (2 : Int32)) (v := (.long y2)) (by rw [e14]; exact Ar15.1) (State.isArrayOf_alike hZ.alike Ar15.2.1) Ar15.2.2 (by rw [S15]; exact (inbO (by decide : ¬ (2 : Int32) < 0) (rfl : ((2 : Int32)).toNatClampNeg = 2) (show 2 < 4 from (by first | omega | decide)))) at15 (g := (mkF m 88 #[.val (.ref r0), .val (.long y0), .second, .val (.long y3), .second, .val (.int (0 : Int32)), .val (.int (2 : Int32))] [(.int (2 : Int32)), (.ref arr)])) rfl rfl (hb hby d5_88) _ k_) ?_
    show Runs _ _ _ _ T14 (mkF m 89 #[.val (.ref r0), .val (.long y0), .second, .val (.long y3), .second, .val (.int (0 : Int32)), .val (.int (2 : Int32))] [(.long y2)])
    refine Runs.back (fun t_ k_ => XS.lloadN X14.here hx rfl (hb hby d5_89) rfl k_) ?_
    show Runs _ _ _ _ T14 (mkF m 90 #[.val (.ref r0), .val (.long y0), .second, .val (.long y3), .second, .val (.int (0 : Int32)), .val (.int (2 : Int32))] [(.long y3), (.long y2)])
    refine Runs.back (fun t_ k_ => XS.lcmp X14.here hx rfl (hb hby d5_90) rfl k_) ?_
    show Runs _ _ _ _ T14 (mkF m 91 #[.val (.ref r0), .val (.long y0), .second, .val (.long y3), .second, .val (.int (0 : Int32)), .val (.int (2 : Int32))] [(.int (lcmpW y2 y3))])
    by_cases c91_16 : y2 < y3
    · refine Runs.back (fun t_ k_ => XS.ifYes X14.here hx rfl (pc0 := 91) (pc' := 97) rfl (hb hby d5_91) rfl ((if0 _ _).trans (tlt (lcT c91_16)).1) (by decide) (by decide) k_) ?_
      show Runs _ _ _ _ T14 (mkF m 97 #[.val (.ref r0), .val (.long y0), .second, .val (.long y3), .second, .val (.int (0 : Int32)), .val (.int (2 : Int32))] [])
      refine Runs.back (fun t_ k_ => XS.aloadN X14.here hx rfl (hb hby d5_97) rfl rfl k_) ?_
      show Runs _ _ _ _ T14 (mkF m 98 #[.val (.ref r0), .val (.long y0), .second, .val (.long y3), .second, .val (.int (0 : Int32)), .val (.int (2 : Int32))] [(.ref r0)])
      obtain ⟨T17, X17, e17, st17⟩ := getF X14 hx hZ hown (host := "") (Or.inl (hw _ (List.mem_of_getElem? (i := 15) rfl))) Via.refl e14 f5_Fld_1 (g := (mkF m 98 #[.val (.ref r0), .val (.long y0), .second, .val (.long y3), .second, .val (.int (0 : Int32)), .val (.int (2 : Int32))] [(.ref r0)])) rfl rfl (hb hby d5_98)
      refine Runs.back st17 ?_
      show Runs _ _ _ _ T17 (mkF m 101 #[.val (.ref r0), .val (.long y0), .second, .val (.long y3), .second, .val (.int (0 : Int32)), .val (.int (2 : Int32))] [(.ref arr)])
      refine Runs.back (fun t_ k_ => XS.iload X17.here hx rfl (hb hby d5_101) rfl k_) ?_
      show Runs _ _ _ _ T17 (mkF m 103 #[.val (.ref r0), .val (.long y0), .second, .val (.long y3), .second, .val (.int (0 : Int32)), .val (.int (2 : Int32))] [(.int (0 : Int32)), (.ref arr)])
      refine Runs.back (fun t_ k_ => XS.aloadN X17.here hx rfl (hb hby d5_103) rfl rfl k_) ?_
      show Runs _ _ _ _ T17 (mkF m 104 #[.val (.ref r0), .val (.long y0), .second, .val (.long y3), .second, .val (.int (0 : Int32)), .val (.int (2 : Int32))] [(.ref r0), (.int (0 : Int32)), (.ref arr)])
      obtain ⟨T18, X18, e18, st18⟩ := getF X17 hx hZ hown (host := "") (Or.inl (hw _ (List.mem_of_getElem? (i := 15) rfl))) Via.refl e17 f5_Fld_1 (g := (mkF m 104 #[.val (.ref r0), .val (.long y0), .second, .val (.long y3), .second, .val (.int (0 : Int32)), .val (.int (2 : Int32))] [(.ref r0), (.int (0 : Int32)), (.ref arr)])) rfl rfl (hb hby d5_104)
      refine Runs.back st18 ?_
      show Runs _ _ _ _ T18 (mkF m 107 #[.val (.ref r0), .val (.long y0), .second, .val (.long y3), .second, .val (.int (0 : Int32)), .val (.int (2 : Int32))] [(.ref arr), (.int (0 : Int32)), (.ref arr)])
      refine Runs.back (fun t_ k_ => XS.iload X18.here hx rfl (hb hby d5_107) rfl k_) ?_
      show Runs _ _ _ _ T18 (mkF m 109 #[.val (.ref r0), .val (.long y0), .second, .val (.long y3), .second, .val (.int (0 : Int32)), .val (.int (2 : Int32))] [(.int (2 : Int32)), (.ref arr), (.int (0 : Int32)), (.ref arr)])
      obtain ⟨cl19, Ar19, S19, Hs19⟩ := id f5_Arr_3
      have at19 : cl19.slots[((2 : Int32)).toNatClampNeg]? = some (.long y2) := readO Hs19 (rfl : ((2 : Int32)).toNatClampNeg = 2) (show 2 < 4 from (by first | omega | decide)) (hy2)
      refine Runs.back (fun t_ k_ => X18.laload hx (j := (2 : Int32)) (v := (.long y2)) (by rw [e18]; exact Ar19.1) (State.isArrayOf_alike hZ.alike Ar19.2.1) Ar19.2.2 (by rw [S19]; exact (inbO (by decide : ¬ (2 : Int32) < 0) (rfl : ((2 : Int32)).toNatClampNeg = 2) (show 2 < 4 from (by first | omega | decide)))) at19 (g := (mkF m 109 #[.val (.ref r0), .val (.long y0), .second, .val (.long y3), .second, .val (.int (0 : Int32)), .val (.int (2 : Int32))] [(.int (2 : Int32)), (.ref arr), (.int (0 : Int32)), (.ref arr)])) rfl rfl (hb hby d5_109) _ k_) ?_
      show Runs _ _ _ _ T18 (mkF m 110 #[.val (.ref r0), .val (.long y0), .second, .val (.long y3), .second, .val (.int (0 : Int32)), .val (.int (2 : Int32))] [(.long y2), (.int (0 : Int32)), (.ref arr)])
      obtain ⟨cl20, Ar20, S20, Hs20⟩ := id f5_Arr_3
      obtain ⟨T20, h20, X20, e20, W20, st20⟩ := stJ X18 hx hZ e18 Ar20 (j := (0 : Int32)) (by rw [S20]; exact (inbO (by decide : ¬ (0 : Int32) < 0) (rfl : ((0 : Int32)).toNatClampNeg = 0) (show 0 < 4 from (by first | omega | decide)))) (g := (mkF m 110 #[.val (.ref r0), .val (.long y0), .second, .val (.long y3), .second, .val (.int (0 : Int32)), .val (.int (2 : Int32))] [(.long y2), (.int (0 : Int32)), (.ref arr)])) rfl rfl (hb hby d5_110)
      have N20 := Fr.snoc X20 N5 g_arr
      obtain ⟨L20, X20, N20⟩ := hideL X20 N20
      rw [(rfl : ((0 : Int32)).toNatClampNeg = 0)] at W20
      have f20_Exa_0 : Exa Z h20 r0 "com/example/tradewheel/tradewheel/PartQueue" := Exa.wr W20 f5_Exa_0
      have f20_Fld_1 : Fld Z h20 r0 "com/example/tradewheel/tradewheel/PartQueue" "heap" "[J" (.ref arr) := Fld.other W20 f5_Fld_1 (Or.inl ne_r0_arr)
      have f20_Fld_2 : Fld Z h20 r0 "com/example/tradewheel/tradewheel/PartQueue" "size" "I" (.int (3 : Int32)) := Fld.other W20 f5_Fld_2 (Or.inl ne_r0_arr)
      have f20_Arr_3 : OArr Z h20 arr .long 4 (fun i => if i = 0 then (Value.long y2) else fb i) := f5_Arr_3.set W20
      have KK20 : Keep h0 h20 [r0, arr] := Keep.wr KK5 W20 (Or.inl (List.mem_of_getElem? (i := 1) rfl))
      have Z20 : n0 ≤ h20.size := Nat.le_trans (Z5) (Nat.le_of_eq W20.size.symm)
      refine Runs.back st20 ?_
      show Runs _ _ _ _ T20 (mkF m 111 #[.val (.ref r0), .val (.long y0), .second, .val (.long y3), .second, .val (.int (0 : Int32)), .val (.int (2 : Int32))] [])
      refine Runs.back (fun t_ k_ => XS.iload X20.here hx rfl (hb hby d5_111) rfl k_) ?_
      show Runs _ _ _ _ T20 (mkF m 113 #[.val (.ref r0), .val (.long y0), .second, .val (.long y3), .second, .val (.int (0 : Int32)), .val (.int (2 : Int32))] [(.int (2 : Int32))])
      refine Runs.back (fun t_ k_ => XS.istore X20.here hx rfl (hb hby d5_113) rfl (l' := #[.val (.ref r0), .val (.long y0), .second, .val (.long y3), .second, .val (.int (2 : Int32)), .val (.int (2 : Int32))]) rfl k_) ?_
      show Runs _ _ _ _ T20 (mkF m 115 #[.val (.ref r0), .val (.long y0), .second, .val (.long y3), .second, .val (.int (2 : Int32)), .val (.int (2 : Int32))] [])
      refine Runs.back (fun t_ k_ => XS.goto X20.here hx rfl (pc0 := 115) (pc' := 27) rfl (hb hby d5_115) (by decide) (by decide) k_) ?_
      show Runs _ _ _ _ T20 (mkF m 27 #[.val (.ref r0), .val (.long y0), .second, .val (.long y3), .second, .val (.int (2 : Int32)), .val (.int (2 : Int32))] [])
      refine Runs.back (fun t_ k_ => XS.iconst X20.here hx rfl (hb hby d5_27) k_) ?_
      show Runs _ _ _ _ T20 (mkF m 28 #[.val (.ref r0), .val (.long y0), .second, .val (.long y3), .second, .val (.int (2 : Int32)), .val (.int (2 : Int32))] [(.int (2 : Int32))])
      refine Runs.back (fun t_ k_ => XS.iload X20.here hx rfl (hb hby d5_28) rfl k_) ?_
      show Runs _ _ _ _ T20 (mkF m 30 #[.val (.ref r0), .val (.long y0), .second, .val (.long y3), .second, .val (.int (2 : Int32)), .val (.int (2 : Int32))] [(.int (2 : Int32)), (.int (2 : Int32))])
      refine Runs.back (fun t_ k_ => XS.imul X20.here hx rfl (hb hby d5_30) rfl k_) ?_
      show Runs _ _ _ _ T20 (mkF m 31 #[.val (.ref r0), .val (.long y0), .second, .val (.long y3), .second, .val (.int (2 : Int32)), .val (.int (2 : Int32))] [(.int ((2 : Int32) * (2 : Int32)))])
      rw [show ((2 : Int32) * (2 : Int32)) = (4 : Int32) from by decide]
      show Runs _ _ _ _ T20 (mkF m 31 #[.val (.ref r0), .val (.long y0), .second, .val (.long y3), .second, .val (.int (2 : Int32)), .val (.int (2 : Int32))] [(.int (4 : Int32))])
      refine Runs.back (fun t_ k_ => XS.iconst X20.here hx rfl (hb hby d5_31) k_) ?_
      show Runs _ _ _ _ T20 (mkF m 32 #[.val (.ref r0), .val (.long y0), .second, .val (.long y3), .second, .val (.int (2 : Int32)), .val (.int (2 : Int32))] [(.int (1 : Int32)), (.int (4 : Int32))])
      refine Runs.back (fun t_ k_ => XS.iadd X20.here hx rfl (hb hby d5_32) rfl k_) ?_
      show Runs _ _ _ _ T20 (mkF m 33 #[.val (.ref r0), .val (.long y0), .second, .val (.long y3), .second, .val (.int (2 : Int32)), .val (.int (2 : Int32))] [(.int ((4 : Int32) + (1 : Int32)))])
      rw [show ((4 : Int32) + (1 : Int32)) = (5 : Int32) from by decide]
      show Runs _ _ _ _ T20 (mkF m 33 #[.val (.ref r0), .val (.long y0), .second, .val (.long y3), .second, .val (.int (2 : Int32)), .val (.int (2 : Int32))] [(.int (5 : Int32))])
      refine Runs.back (fun t_ k_ => XS.aloadN X20.here hx rfl (hb hby d5_33) rfl rfl k_) ?_
      show Runs _ _ _ _ T20 (mkF m 34 #[.val (.ref r0), .val (.long y0), .second, .val (.long y3), .second, .val (.int (2 : Int32)), .val (.int (2 : Int32))] [(.ref r0), (.int (5 : Int32))])
      obtain ⟨T21, X21, e21, st21⟩ := getF X20 hx hZ hown (host := "") (Or.inl (hw _ (List.mem_of_getElem? (i := 22) rfl))) Via.refl e20 f20_Fld_2 (g := (mkF m 34 #[.val (.ref r0), .val (.long y0), .second, .val (.long y3), .second, .val (.int (2 : Int32)), .val (.int (2 : Int32))] [(.ref r0), (.int (5 : Int32))])) rfl rfl (hb hby d5_34)
      refine Runs.back st21 ?_
      show Runs _ _ _ _ T21 (mkF m 37 #[.val (.ref r0), .val (.long y0), .second, .val (.long y3), .second, .val (.int (2 : Int32)), .val (.int (2 : Int32))] [(.int (3 : Int32)), (.int (5 : Int32))])
      refine Runs.back (fun t_ k_ => XS.icmpYes X21.here hx rfl (pc0 := 37) (pc' := 118) rfl (hb hby d5_37) rfl (flt (show ¬ ((5 : Int32) < (3 : Int32)) from (by decide))).2.1 (by decide) (by decide) k_) ?_
      show Runs _ _ _ _ T21 (mkF m 118 #[.val (.ref r0), .val (.long y0), .second, .val (.long y3), .second, .val (.int (2 : Int32)), .val (.int (2 : Int32))] [])
      refine Runs.back (fun t_ k_ => XS.aloadN X21.here hx rfl (hb hby d5_118) rfl rfl k_) ?_
      show Runs _ _ _ _ T21 (mkF m 119 #[.val (.ref r0), .val (.long y0), .second, .val (.long y3), .second, .val (.int (2 : Int32)), .val (.int (2 : Int32))] [(.ref r0)])
      obtain ⟨T22, X22, e22, st22⟩ := getF X21 hx hZ hown (host := "") (Or.inl (hw _ (List.mem_of_getElem? (i := 15) rfl))) Via.refl e21 f20_Fld_1 (g := (mkF m 119 #[.val (.ref r0), .val (.long y0), .second, .val (.long y3), .second, .val (.int (2 : Int32)), .val (.int (2 : Int32))] [(.ref r0)])) rfl rfl (hb hby d5_119)
      refine Runs.back st22 ?_
      show Runs _ _ _ _ T22 (mkF m 122 #[.val (.ref r0), .val (.long y0), .second, .val (.long y3), .second, .val (.int (2 : Int32)), .val (.int (2 : Int32))] [(.ref arr)])
      refine Runs.back (fun t_ k_ => XS.iload X22.here hx rfl (hb hby d5_122) rfl k_) ?_
      show Runs _ _ _ _ T22 (mkF m 124 #[.val (.ref r0), .val (.long y0), .second, .val (.long y3), .second, .val (.int (2 : Int32)), .val (.int (2 : Int32))] [(.int (2 : Int32)), (.ref arr)])
      refine Runs.back (fun t_ k_ => XS.lloadN X22.here hx rfl (hb hby d5_124) rfl k_) ?_
      show Runs _ _ _ _ T22 (mkF m 125 #[.val (.ref r0), .val (.long y0), .second, .val (.long y3), .second, .val (.int (2 : Int32)), .val (.int (2 : Int32))] [(.long y3), (.int (2 : Int32)), (.ref arr)])
      obtain ⟨cl23, Ar23, S23, Hs23⟩ := id f20_Arr_3
      obtain ⟨T23, h23, X23, e23, W23, st23⟩ := stJ X22 hx hZ e22 Ar23 (j := (2 : Int32)) (by rw [S23]; exact (inbO (by decide : ¬ (2 : Int32) < 0) (rfl : ((2 : Int32)).toNatClampNeg = 2) (show 2 < 4 from (by first | omega | decide)))) (g := (mkF m 125 #[.val (.ref r0), .val (.long y0), .second, .val (.long y3), .second, .val (.int (2 : Int32)), .val (.int (2 : Int32))] [(.long y3), (.int (2 : Int32)), (.ref arr)])) rfl rfl (hb hby d5_125)
      have N23 := Fr.snoc X23 N20 g_arr
      obtain ⟨L23, X23, N23⟩ := hideL X23 N23
      rw [(rfl : ((2 : Int32)).toNatClampNeg = 2)] at W23
      have f23_Exa_0 : Exa Z h23 r0 "com/example/tradewheel/tradewheel/PartQueue" := Exa.wr W23 f20_Exa_0
      have f23_Fld_1 : Fld Z h23 r0 "com/example/tradewheel/tradewheel/PartQueue" "heap" "[J" (.ref arr) := Fld.other W23 f20_Fld_1 (Or.inl ne_r0_arr)
      have f23_Fld_2 : Fld Z h23 r0 "com/example/tradewheel/tradewheel/PartQueue" "size" "I" (.int (3 : Int32)) := Fld.other W23 f20_Fld_2 (Or.inl ne_r0_arr)
      have f23_Arr_3 : OArr Z h23 arr .long 4 (fun i => if i = 2 then (Value.long y3) else (fun i => if i = 0 then (Value.long y2) else fb i) i) := f20_Arr_3.set W23
      have KK23 : Keep h0 h23 [r0, arr] := Keep.wr KK20 W23 (Or.inl (List.mem_of_getElem? (i := 1) rfl))
      have Z23 : n0 ≤ h23.size := Nat.le_trans (Z20) (Nat.le_of_eq W23.size.symm)
      refine Runs.back st23 ?_
      show Runs _ _ _ _ T23 (mkF m 126 #[.val (.ref r0), .val (.long y0), .second, .val (.long y3), .second, .val (.int (2 : Int32)), .val (.int (2 : Int32))] [])
      refine Runs.back (fun t_ k_ => XS.lloadN X23.here hx rfl (hb hby d5_126) rfl k_) ?_
      show Runs _ _ _ _ T23 (mkF m 127 #[.val (.ref r0), .val (.long y0), .second, .val (.long y3), .second, .val (.int (2 : Int32)), .val (.int (2 : Int32))] [(.long y0)])
      refine Runs.back (fun t_ k_ => XS.bipush X23.here hx rfl (hb hby d5_127) k_) ?_
      show Runs _ _ _ _ T23 (mkF m 129 #[.val (.ref r0), .val (.long y0), .second, .val (.long y3), .second, .val (.int (2 : Int32)), .val (.int (2 : Int32))] [(.int (32 : Int32)), (.long y0)])
      refine Runs.back (fun t_ k_ => XS.lushr X23.here hx rfl (hb hby d5_129) rfl k_) ?_
      show Runs _ _ _ _ T23 (mkF m 130 #[.val (.ref r0), .val (.long y0), .second, .val (.long y3), .second, .val (.int (2 : Int32)), .val (.int (2 : Int32))] [(.long ((y0.toUInt64 >>> ((32 : Int32) &&& 0x3f).toInt64.toUInt64).toInt64))])
      refine Runs.back (fun t_ k_ => XS.l2i X23.here hx rfl (hb hby d5_130) rfl k_) ?_
      show Runs _ _ _ _ T23 (mkF m 131 #[.val (.ref r0), .val (.long y0), .second, .val (.long y3), .second, .val (.int (2 : Int32)), .val (.int (2 : Int32))] [(.int (((y0.toUInt64 >>> ((32 : Int32) &&& 0x3f).toInt64.toUInt64).toInt64).toInt32))])
      obtain ⟨fs, hr, hrun, hended, hW, hsame⟩ := X23.leave (v := some (.int (((y0.toUInt64 >>> ((32 : Int32) &&& 0x3f).toInt64.toUInt64).toInt64).toInt32))) (fun h => by rw [Bd.returns] at h; cases h)
      exact ⟨_, _, (retI X23 hx Bd.returns (hb hby d5_131) hr), hrun, hended, _, _, rfl, (by show Q5s4 Z r0 arr fb y0 y1 y2 y3 h0 n0 _ T23.heap _; rw [e23]; exact ⟨rfl, N23, KK23, f23_Exa_0, f23_Fld_1, f23_Fld_2, _, y2, y1, y3, f23_Arr_3, rfl, hy1, rfl, Or.inl ⟨c76_13, c91_16, rfl, rfl, rfl⟩⟩), ⟨_, rfl⟩, hW, hsame.mono (by decide) (by decide)⟩
    · refine Runs.back (fun t_ k_ => XS.ifNo X14.here hx rfl (hb hby d5_91) rfl ((if0 _ _).trans (flt (lcF c91_16)).1) k_) ?_
      show Runs _ _ _ _ T14 (mkF m 94 #[.val (.ref r0), .val (.long y0), .second, .val (.long y3), .second, .val (.int (0 : Int32)), .val (.int (2 : Int32))] [])
      refine Runs.back (fun t_ k_ => XS.goto X14.here hx rfl (pc0 := 94) (pc' := 118) rfl (hb hby d5_94) (by decide) (by decide) k_) ?_
      show Runs _ _ _ _ T14 (mkF m 118 #[.val (.ref r0), .val (.long y0), .second, .val (.long y3), .second, .val (.int (0 : Int32)), .val (.int (2 : Int32))] [])
      refine Runs.back (fun t_ k_ => XS.aloadN X14.here hx rfl (hb hby d5_118) rfl rfl k_) ?_
      show Runs _ _ _ _ T14 (mkF m 119 #[.val (.ref r0), .val (.long y0), .second, .val (.long y3), .second, .val (.int (0 : Int32)), .val (.int (2 : Int32))] [(.ref r0)])
      obtain ⟨T24, X24, e24, st24⟩ := getF X14 hx hZ hown (host := "") (Or.inl (hw _ (List.mem_of_getElem? (i := 15) rfl))) Via.refl e14 f5_Fld_1 (g := (mkF m 119 #[.val (.ref r0), .val (.long y0), .second, .val (.long y3), .second, .val (.int (0 : Int32)), .val (.int (2 : Int32))] [(.ref r0)])) rfl rfl (hb hby d5_119)
      refine Runs.back st24 ?_
      show Runs _ _ _ _ T24 (mkF m 122 #[.val (.ref r0), .val (.long y0), .second, .val (.long y3), .second, .val (.int (0 : Int32)), .val (.int (2 : Int32))] [(.ref arr)])
      refine Runs.back (fun t_ k_ => XS.iload X24.here hx rfl (hb hby d5_122) rfl k_) ?_
      show Runs _ _ _ _ T24 (mkF m 124 #[.val (.ref r0), .val (.long y0), .second, .val (.long y3), .second, .val (.int (0 : Int32)), .val (.int (2 : Int32))] [(.int (0 : Int32)), (.ref arr)])
      refine Runs.back (fun t_ k_ => XS.lloadN X24.here hx rfl (hb hby d5_124) rfl k_) ?_
      show Runs _ _ _ _ T24 (mkF m 125 #[.val (.ref r0), .val (.long y0), .second, .val (.long y3), .second, .val (.int (0 : Int32)), .val (.int (2 : Int32))] [(.long y3), (.int (0 : Int32)), (.ref arr)])
      obtain ⟨cl25, Ar25, S25, Hs25⟩ := id f5_Arr_3
      obtain ⟨T25, h25, X25, e25, W25, st25⟩ := stJ X24 hx hZ e24 Ar25 (j := (0 : Int32)) (by rw [S25]; exact (inbO (by decide : ¬ (0 : Int32) < 0) (rfl : ((0 : Int32)).toNatClampNeg = 0) (show 0 < 4 from (by first | omega | decide)))) (g := (mkF m 125 #[.val (.ref r0), .val (.long y0), .second, .val (.long y3), .second, .val (.int (0 : Int32)), .val (.int (2 : Int32))] [(.long y3), (.int (0 : Int32)), (.ref arr)])) rfl rfl (hb hby d5_125)
      have N25 := Fr.snoc X25 N5 g_arr
      obtain ⟨L25, X25, N25⟩ := hideL X25 N25
      rw [(rfl : ((0 : Int32)).toNatClampNeg = 0)] at W25
      have f25_Exa_0 : Exa Z h25 r0 "com/example/tradewheel/tradewheel/PartQueue" := Exa.wr W25 f5_Exa_0
      have f25_Fld_1 : Fld Z h25 r0 "com/example/tradewheel/tradewheel/PartQueue" "heap" "[J" (.ref arr) := Fld.other W25 f5_Fld_1 (Or.inl ne_r0_arr)
      have f25_Fld_2 : Fld Z h25 r0 "com/example/tradewheel/tradewheel/PartQueue" "size" "I" (.int (3 : Int32)) := Fld.other W25 f5_Fld_2 (Or.inl ne_r0_arr)
      have f25_Arr_3 : OArr Z h25 arr .long 4 (fun i => if i = 0 then (Value.long y3) else fb i) := f5_Arr_3.set W25
      have KK25 : Keep h0 h25 [r0, arr] := Keep.wr KK5 W25 (Or.inl (List.mem_of_getElem? (i := 1) rfl))
      have Z25 : n0 ≤ h25.size := Nat.le_trans (Z5) (Nat.le_of_eq W25.size.symm)
      refine Runs.back st25 ?_
      show Runs _ _ _ _ T25 (mkF m 126 #[.val (.ref r0), .val (.long y0), .second, .val (.long y3), .second, .val (.int (0 : Int32)), .val (.int (2 : Int32))] [])
      refine Runs.back (fun t_ k_ => XS.lloadN X25.here hx rfl (hb hby d5_126) rfl k_) ?_
      show Runs _ _ _ _ T25 (mkF m 127 #[.val (.ref r0), .val (.long y0), .second, .val (.long y3), .second, .val (.int (0 : Int32)), .val (.int (2 : Int32))] [(.long y0)])
      refine Runs.back (fun t_ k_ => XS.bipush X25.here hx rfl (hb hby d5_127) k_) ?_
      show Runs _ _ _ _ T25 (mkF m 129 #[.val (.ref r0), .val (.long y0), .second, .val (.long y3), .second, .val (.int (0 : Int32)), .val (.int (2 : Int32))] [(.int (32 : Int32)), (.long y0)])
      refine Runs.back (fun t_ k_ => XS.lushr X25.here hx rfl (hb hby d5_129) rfl k_) ?_
      show Runs _ _ _ _ T25 (mkF m 130 #[.val (.ref r0), .val (.long y0), .second, .val (.long y3), .second, .val (.int (0 : Int32)), .val (.int (2 : Int32))] [(.long ((y0.toUInt64 >>> ((32 : Int32) &&& 0x3f).toInt64.toUInt64).toInt64))])
      refine Runs.back (fun t_ k_ => XS.l2i X25.here hx rfl (hb hby d5_130) rfl k_) ?_
      show Runs _ _ _ _ T25 (mkF m 131 #[.val (.ref r0), .val (.long y0), .second, .val (.long y3), .second, .val (.int (0 : Int32)), .val (.int (2 : Int32))] [(.int (((y0.toUInt64 >>> ((32 : Int32) &&& 0x3f).toInt64.toUInt64).toInt64).toInt32))])
      obtain ⟨fs, hr, hrun, hended, hW, hsame⟩ := X25.leave (v := some (.int (((y0.toUInt64 >>> ((32 : Int32) &&& 0x3f).toInt64.toUInt64).toInt64).toInt32))) (fun h => by rw [Bd.returns] at h; cases h)
      exact ⟨_, _, (retI X25 hx Bd.returns (hb hby d5_131) hr), hrun, hended, _, _, rfl, (by show Q5s4 Z r0 arr fb y0 y1 y2 y3 h0 n0 _ T25.heap _; rw [e25]; exact ⟨rfl, N25, KK25, f25_Exa_0, f25_Fld_1, f25_Fld_2, _, y3, y1, y2, f25_Arr_3, rfl, hy1, hy2, Or.inr (Or.inl ⟨c76_13, c91_16, rfl, rfl, rfl⟩)⟩), ⟨_, rfl⟩, hW, hsame.mono (by decide) (by decide)⟩
  · refine Runs.back (fun t_ k_ => XS.ifYes X11.here hx rfl (pc0 := 76) (pc' := 82) rfl (hb hby d5_76) rfl ((if0 _ _).trans (flt (lcF c76_13)).2.1) (by decide) (by decide) k_) ?_
    show Runs _ _ _ _ T11 (mkF m 82 #[.val (.ref r0), .val (.long y0), .second, .val (.long y3), .second, .val (.int (0 : Int32)), .val (.int (1 : Int32))] [])
    refine Runs.back (fun t_ k_ => XS.aloadN X11.here hx rfl (hb hby d5_82) rfl rfl k_) ?_
    show Runs _ _ _ _ T11 (mkF m 83 #[.val (.ref r0), .val (.long y0), .second, .val (.long y3), .second, .val (.int (0 : Int32)), .val (.int (1 : Int32))] [(.ref r0)])
    obtain ⟨T26, X26, e26, st26⟩ := getF X11 hx hZ hown (host := "") (Or.inl (hw _ (List.mem_of_getElem? (i := 15) rfl))) Via.refl e11 f5_Fld_1 (g := (mkF m 83 #[.val (.ref r0), .val (.long y0), .second, .val (.long y3), .second, .val (.int (0 : Int32)), .val (.int (1 : Int32))] [(.ref r0)])) rfl rfl (hb hby d5_83)
    refine Runs.back st26 ?_
    show Runs _ _ _ _ T26 (mkF m 86 #[.val (.ref r0), .val (.long y0), .second, .val (.long y3), .second, .val (.int (0 : Int32)), .val (.int (1 : Int32))] [(.ref arr)])
    refine Runs.back (fun t_ k_ => XS.iload X26.here hx rfl (hb hby d5_86) rfl k_) ?_
    show Runs _ _ _ _ T26 (mkF m 88 #[.val (.ref r0), .val (.long y0), .second, .val (.long y3), .second, .val (.int (0 : Int32)), .val (.int (1 : Int32))] [(.int (1 : Int32)), (.ref arr)])
    obtain ⟨cl27, Ar27, S27, Hs27⟩ := id f5_Arr_3
    have at27 : cl27.slots[((1 : Int32)).toNatClampNeg]? = some (.long y1) := readO Hs27 (rfl : ((1 : Int32)).toNatClampNeg = 1) (show 1 < 4 from (by first | omega | decide)) (hy1)
    refine Runs.back (fun t_ k_ => X26.laload hx (j := (1 : Int32)) (v := (.long y1)) (by rw [e26]; exact Ar27.1) (State.isArrayOf_alike hZ.alike Ar27.2.1) Ar27.2.2 (by rw [S27]; exact (inbO (by decide : ¬ (1 : Int32) < 0) (rfl : ((1 : Int32)).toNatClampNeg = 1) (show 1 < 4 from (by first | omega | decide)))) at27 (g := (mkF m 88 #[.val (.ref r0), .val (.long y0), .second, .val (.long y3), .second, .val (.int (0 : Int32)), .val (.int (1 : Int32))] [(.int (1 : Int32)), (.ref arr)])) rfl rfl (hb hby d5_88) _ k_) ?_
    show Runs _ _ _ _ T26 (mkF m 89 #[.val (.ref r0), .val (.long y0), .second, .val (.long y3), .second, .val (.int (0 : Int32)), .val (.int (1 : Int32))] [(.long y1)])
    refine Runs.back (fun t_ k_ => XS.lloadN X26.here hx rfl (hb hby d5_89) rfl k_) ?_
    show Runs _ _ _ _ T26 (mkF m 90 #[.val (.ref r0), .val (.long y0), .second, .val (.long y3), .second, .val (.int (0 : Int32)), .val (.int (1 : Int32))] [(.long y3), (.long y1)])
    refine Runs.back (fun t_ k_ => XS.lcmp X26.here hx rfl (hb hby d5_90) rfl k_) ?_
    show Runs _ _ _ _ T26 (mkF m 91 #[.val (.ref r0), .val (.long y0), .second, .val (.long y3), .second, .val (.int (0 : Int32)), .val (.int (1 : Int32))] [(.int (lcmpW y1 y3))])
    by_cases c91_28 : y1 < y3
    · refine Runs.back (fun t_ k_ => XS.ifYes X26.here hx rfl (pc0 := 91) (pc' := 97) rfl (hb hby d5_91) rfl ((if0 _ _).trans (tlt (lcT c91_28)).1) (by decide) (by decide) k_) ?_
      show Runs _ _ _ _ T26 (mkF m 97 #[.val (.ref r0), .val (.long y0), .second, .val (.long y3), .second, .val (.int (0 : Int32)), .val (.int (1 : Int32))] [])
      refine Runs.back (fun t_ k_ => XS.aloadN X26.here hx rfl (hb hby d5_97) rfl rfl k_) ?_
      show Runs _ _ _ _ T26 (mkF m 98 #[.val (.ref r0), .val (.long y0), .second, .val (.long y3), .second, .val (.int (0 : Int32)), .val (.int (1 : Int32))] [(.ref r0)])
      obtain ⟨T29, X29, e29, st29⟩ := getF X26 hx hZ hown (host := "") (Or.inl (hw _ (List.mem_of_getElem? (i := 15) rfl))) Via.refl e26 f5_Fld_1 (g := (mkF m 98 #[.val (.ref r0), .val (.long y0), .second, .val (.long y3), .second, .val (.int (0 : Int32)), .val (.int (1 : Int32))] [(.ref r0)])) rfl rfl (hb hby d5_98)
      refine Runs.back st29 ?_
      show Runs _ _ _ _ T29 (mkF m 101 #[.val (.ref r0), .val (.long y0), .second, .val (.long y3), .second, .val (.int (0 : Int32)), .val (.int (1 : Int32))] [(.ref arr)])
      refine Runs.back (fun t_ k_ => XS.iload X29.here hx rfl (hb hby d5_101) rfl k_) ?_
      show Runs _ _ _ _ T29 (mkF m 103 #[.val (.ref r0), .val (.long y0), .second, .val (.long y3), .second, .val (.int (0 : Int32)), .val (.int (1 : Int32))] [(.int (0 : Int32)), (.ref arr)])
      refine Runs.back (fun t_ k_ => XS.aloadN X29.here hx rfl (hb hby d5_103) rfl rfl k_) ?_
      show Runs _ _ _ _ T29 (mkF m 104 #[.val (.ref r0), .val (.long y0), .second, .val (.long y3), .second, .val (.int (0 : Int32)), .val (.int (1 : Int32))] [(.ref r0), (.int (0 : Int32)), (.ref arr)])
      obtain ⟨T30, X30, e30, st30⟩ := getF X29 hx hZ hown (host := "") (Or.inl (hw _ (List.mem_of_getElem? (i := 15) rfl))) Via.refl e29 f5_Fld_1 (g := (mkF m 104 #[.val (.ref r0), .val (.long y0), .second, .val (.long y3), .second, .val (.int (0 : Int32)), .val (.int (1 : Int32))] [(.ref r0), (.int (0 : Int32)), (.ref arr)])) rfl rfl (hb hby d5_104)
      refine Runs.back st30 ?_
      show Runs _ _ _ _ T30 (mkF m 107 #[.val (.ref r0), .val (.long y0), .second, .val (.long y3), .second, .val (.int (0 : Int32)), .val (.int (1 : Int32))] [(.ref arr), (.int (0 : Int32)), (.ref arr)])
      refine Runs.back (fun t_ k_ => XS.iload X30.here hx rfl (hb hby d5_107) rfl k_) ?_
      show Runs _ _ _ _ T30 (mkF m 109 #[.val (.ref r0), .val (.long y0), .second, .val (.long y3), .second, .val (.int (0 : Int32)), .val (.int (1 : Int32))] [(.int (1 : Int32)), (.ref arr), (.int (0 : Int32)), (.ref arr)])
      obtain ⟨cl31, Ar31, S31, Hs31⟩ := id f5_Arr_3
      have at31 : cl31.slots[((1 : Int32)).toNatClampNeg]? = some (.long y1) := readO Hs31 (rfl : ((1 : Int32)).toNatClampNeg = 1) (show 1 < 4 from (by first | omega | decide)) (hy1)
      refine Runs.back (fun t_ k_ => X30.laload hx (j := (1 : Int32)) (v := (.long y1)) (by rw [e30]; exact Ar31.1) (State.isArrayOf_alike hZ.alike Ar31.2.1) Ar31.2.2 (by rw [S31]; exact (inbO (by decide : ¬ (1 : Int32) < 0) (rfl : ((1 : Int32)).toNatClampNeg = 1) (show 1 < 4 from (by first | omega | decide)))) at31 (g := (mkF m 109 #[.val (.ref r0), .val (.long y0), .second, .val (.long y3), .second, .val (.int (0 : Int32)), .val (.int (1 : Int32))] [(.int (1 : Int32)), (.ref arr), (.int (0 : Int32)), (.ref arr)])) rfl rfl (hb hby d5_109) _ k_) ?_
      show Runs _ _ _ _ T30 (mkF m 110 #[.val (.ref r0), .val (.long y0), .second, .val (.long y3), .second, .val (.int (0 : Int32)), .val (.int (1 : Int32))] [(.long y1), (.int (0 : Int32)), (.ref arr)])
      obtain ⟨cl32, Ar32, S32, Hs32⟩ := id f5_Arr_3
      obtain ⟨T32, h32, X32, e32, W32, st32⟩ := stJ X30 hx hZ e30 Ar32 (j := (0 : Int32)) (by rw [S32]; exact (inbO (by decide : ¬ (0 : Int32) < 0) (rfl : ((0 : Int32)).toNatClampNeg = 0) (show 0 < 4 from (by first | omega | decide)))) (g := (mkF m 110 #[.val (.ref r0), .val (.long y0), .second, .val (.long y3), .second, .val (.int (0 : Int32)), .val (.int (1 : Int32))] [(.long y1), (.int (0 : Int32)), (.ref arr)])) rfl rfl (hb hby d5_110)
      have N32 := Fr.snoc X32 N5 g_arr
      obtain ⟨L32, X32, N32⟩ := hideL X32 N32
      rw [(rfl : ((0 : Int32)).toNatClampNeg = 0)] at W32
      have f32_Exa_0 : Exa Z h32 r0 "com/example/tradewheel/tradewheel/PartQueue" := Exa.wr W32 f5_Exa_0
      have f32_Fld_1 : Fld Z h32 r0 "com/example/tradewheel/tradewheel/PartQueue" "heap" "[J" (.ref arr) := Fld.other W32 f5_Fld_1 (Or.inl ne_r0_arr)
      have f32_Fld_2 : Fld Z h32 r0 "com/example/tradewheel/tradewheel/PartQueue" "size" "I" (.int (3 : Int32)) := Fld.other W32 f5_Fld_2 (Or.inl ne_r0_arr)
      have f32_Arr_3 : OArr Z h32 arr .long 4 (fun i => if i = 0 then (Value.long y1) else fb i) := f5_Arr_3.set W32
      have KK32 : Keep h0 h32 [r0, arr] := Keep.wr KK5 W32 (Or.inl (List.mem_of_getElem? (i := 1) rfl))
      have Z32 : n0 ≤ h32.size := Nat.le_trans (Z5) (Nat.le_of_eq W32.size.symm)
      refine Runs.back st32 ?_
      show Runs _ _ _ _ T32 (mkF m 111 #[.val (.ref r0), .val (.long y0), .second, .val (.long y3), .second, .val (.int (0 : Int32)), .val (.int (1 : Int32))] [])
      refine Runs.back (fun t_ k_ => XS.iload X32.here hx rfl (hb hby d5_111) rfl k_) ?_
      show Runs _ _ _ _ T32 (mkF m 113 #[.val (.ref r0), .val (.long y0), .second, .val (.long y3), .second, .val (.int (0 : Int32)), .val (.int (1 : Int32))] [(.int (1 : Int32))])
      refine Runs.back (fun t_ k_ => XS.istore X32.here hx rfl (hb hby d5_113) rfl (l' := #[.val (.ref r0), .val (.long y0), .second, .val (.long y3), .second, .val (.int (1 : Int32)), .val (.int (1 : Int32))]) rfl k_) ?_
      show Runs _ _ _ _ T32 (mkF m 115 #[.val (.ref r0), .val (.long y0), .second, .val (.long y3), .second, .val (.int (1 : Int32)), .val (.int (1 : Int32))] [])
      refine Runs.back (fun t_ k_ => XS.goto X32.here hx rfl (pc0 := 115) (pc' := 27) rfl (hb hby d5_115) (by decide) (by decide) k_) ?_
      show Runs _ _ _ _ T32 (mkF m 27 #[.val (.ref r0), .val (.long y0), .second, .val (.long y3), .second, .val (.int (1 : Int32)), .val (.int (1 : Int32))] [])
      refine Runs.back (fun t_ k_ => XS.iconst X32.here hx rfl (hb hby d5_27) k_) ?_
      show Runs _ _ _ _ T32 (mkF m 28 #[.val (.ref r0), .val (.long y0), .second, .val (.long y3), .second, .val (.int (1 : Int32)), .val (.int (1 : Int32))] [(.int (2 : Int32))])
      refine Runs.back (fun t_ k_ => XS.iload X32.here hx rfl (hb hby d5_28) rfl k_) ?_
      show Runs _ _ _ _ T32 (mkF m 30 #[.val (.ref r0), .val (.long y0), .second, .val (.long y3), .second, .val (.int (1 : Int32)), .val (.int (1 : Int32))] [(.int (1 : Int32)), (.int (2 : Int32))])
      refine Runs.back (fun t_ k_ => XS.imul X32.here hx rfl (hb hby d5_30) rfl k_) ?_
      show Runs _ _ _ _ T32 (mkF m 31 #[.val (.ref r0), .val (.long y0), .second, .val (.long y3), .second, .val (.int (1 : Int32)), .val (.int (1 : Int32))] [(.int ((2 : Int32) * (1 : Int32)))])
      rw [show ((2 : Int32) * (1 : Int32)) = (2 : Int32) from by decide]
      show Runs _ _ _ _ T32 (mkF m 31 #[.val (.ref r0), .val (.long y0), .second, .val (.long y3), .second, .val (.int (1 : Int32)), .val (.int (1 : Int32))] [(.int (2 : Int32))])
      refine Runs.back (fun t_ k_ => XS.iconst X32.here hx rfl (hb hby d5_31) k_) ?_
      show Runs _ _ _ _ T32 (mkF m 32 #[.val (.ref r0), .val (.long y0), .second, .val (.long y3), .second, .val (.int (1 : Int32)), .val (.int (1 : Int32))] [(.int (1 : Int32)), (.int (2 : Int32))])
      refine Runs.back (fun t_ k_ => XS.iadd X32.here hx rfl (hb hby d5_32) rfl k_) ?_
      show Runs _ _ _ _ T32 (mkF m 33 #[.val (.ref r0), .val (.long y0), .second, .val (.long y3), .second, .val (.int (1 : Int32)), .val (.int (1 : Int32))] [(.int ((2 : Int32) + (1 : Int32)))])
      rw [show ((2 : Int32) + (1 : Int32)) = (3 : Int32) from by decide]
      show Runs _ _ _ _ T32 (mkF m 33 #[.val (.ref r0), .val (.long y0), .second, .val (.long y3), .second, .val (.int (1 : Int32)), .val (.int (1 : Int32))] [(.int (3 : Int32))])
      refine Runs.back (fun t_ k_ => XS.aloadN X32.here hx rfl (hb hby d5_33) rfl rfl k_) ?_
      show Runs _ _ _ _ T32 (mkF m 34 #[.val (.ref r0), .val (.long y0), .second, .val (.long y3), .second, .val (.int (1 : Int32)), .val (.int (1 : Int32))] [(.ref r0), (.int (3 : Int32))])
      obtain ⟨T33, X33, e33, st33⟩ := getF X32 hx hZ hown (host := "") (Or.inl (hw _ (List.mem_of_getElem? (i := 22) rfl))) Via.refl e32 f32_Fld_2 (g := (mkF m 34 #[.val (.ref r0), .val (.long y0), .second, .val (.long y3), .second, .val (.int (1 : Int32)), .val (.int (1 : Int32))] [(.ref r0), (.int (3 : Int32))])) rfl rfl (hb hby d5_34)
      refine Runs.back st33 ?_
      show Runs _ _ _ _ T33 (mkF m 37 #[.val (.ref r0), .val (.long y0), .second, .val (.long y3), .second, .val (.int (1 : Int32)), .val (.int (1 : Int32))] [(.int (3 : Int32)), (.int (3 : Int32))])
      refine Runs.back (fun t_ k_ => XS.icmpYes X33.here hx rfl (pc0 := 37) (pc' := 118) rfl (hb hby d5_37) rfl (flt (show ¬ ((3 : Int32) < (3 : Int32)) from (by decide))).2.1 (by decide) (by decide) k_) ?_
      show Runs _ _ _ _ T33 (mkF m 118 #[.val (.ref r0), .val (.long y0), .second, .val (.long y3), .second, .val (.int (1 : Int32)), .val (.int (1 : Int32))] [])
      refine Runs.back (fun t_ k_ => XS.aloadN X33.here hx rfl (hb hby d5_118) rfl rfl k_) ?_
      show Runs _ _ _ _ T33 (mkF m 119 #[.val (.ref r0), .val (.long y0), .second, .val (.long y3), .second, .val (.int (1 : Int32)), .val (.int (1 : Int32))] [(.ref r0)])
      obtain ⟨T34, X34, e34, st34⟩ := getF X33 hx hZ hown (host := "") (Or.inl (hw _ (List.mem_of_getElem? (i := 15) rfl))) Via.refl e33 f32_Fld_1 (g := (mkF m 119 #[.val (.ref r0), .val (.long y0), .second, .val (.long y3), .second, .val (.int (1 : Int32)), .val (.int (1 : Int32))] [(.ref r0)])) rfl rfl (hb hby d5_119)
      refine Runs.back st34 ?_
      show Runs _ _ _ _ T34 (mkF m 122 #[.val (.ref r0), .val (.long y0), .second, .val (.long y3), .second, .val (.int (1 : Int32)), .val (.int (1 : Int32))] [(.ref arr)])
      refine Runs.back (fun t_ k_ => XS.iload X34.here hx rfl (hb hby d5_122) rfl k_) ?_
      show Runs _ _ _ _ T34 (mkF m 124 #[.val (.ref r0), .val (.long y0), .second, .val (.long y3), .second, .val (.int (1 : Int32)), .val (.int (1 : Int32))] [(.int (1 : Int32)), (.ref arr)])
      refine Runs.back (fun t_ k_ => XS.lloadN X34.here hx rfl (hb hby d5_124) rfl k_) ?_
      show Runs _ _ _ _ T34 (mkF m 125 #[.val (.ref r0), .val (.long y0), .second, .val (.long y3), .second, .val (.int (1 : Int32)), .val (.int (1 : Int32))] [(.long y3), (.int (1 : Int32)), (.ref arr)])
      obtain ⟨cl35, Ar35, S35, Hs35⟩ := id f32_Arr_3
      obtain ⟨T35, h35, X35, e35, W35, st35⟩ := stJ X34 hx hZ e34 Ar35 (j := (1 : Int32)) (by rw [S35]; exact (inbO (by decide : ¬ (1 : Int32) < 0) (rfl : ((1 : Int32)).toNatClampNeg = 1) (show 1 < 4 from (by first | omega | decide)))) (g := (mkF m 125 #[.val (.ref r0), .val (.long y0), .second, .val (.long y3), .second, .val (.int (1 : Int32)), .val (.int (1 : Int32))] [(.long y3), (.int (1 : Int32)), (.ref arr)])) rfl rfl (hb hby d5_125)
      have N35 := Fr.snoc X35 N32 g_arr
      obtain ⟨L35, X35, N35⟩ := hideL X35 N35
      rw [(rfl : ((1 : Int32)).toNatClampNeg = 1)] at W35
      have f35_Exa_0 : Exa Z h35 r0 "com/example/tradewheel/tradewheel/PartQueue" := Exa.wr W35 f32_Exa_0
      have f35_Fld_1 : Fld Z h35 r0 "com/example/tradewheel/tradewheel/PartQueue" "heap" "[J" (.ref arr) := Fld.other W35 f32_Fld_1 (Or.inl ne_r0_arr)
      have f35_Fld_2 : Fld Z h35 r0 "com/example/tradewheel/tradewheel/PartQueue" "size" "I" (.int (3 : Int32)) := Fld.other W35 f32_Fld_2 (Or.inl ne_r0_arr)
      have f35_Arr_3 : OArr Z h35 arr .long 4 (fun i => if i = 1 then (Value.long y3) else (fun i => if i = 0 then (Value.long y1) else fb i) i) := f32_Arr_3.set W35
      have KK35 : Keep h0 h35 [r0, arr] := Keep.wr KK32 W35 (Or.inl (List.mem_of_getElem? (i := 1) rfl))
      have Z35 : n0 ≤ h35.size := Nat.le_trans (Z32) (Nat.le_of_eq W35.size.symm)
      refine Runs.back st35 ?_
      show Runs _ _ _ _ T35 (mkF m 126 #[.val (.ref r0), .val (.long y0), .second, .val (.long y3), .second, .val (.int (1 : Int32)), .val (.int (1 : Int32))] [])
      refine Runs.back (fun t_ k_ => XS.lloadN X35.here hx rfl (hb hby d5_126) rfl k_) ?_
      show Runs _ _ _ _ T35 (mkF m 127 #[.val (.ref r0), .val (.long y0), .second, .val (.long y3), .second, .val (.int (1 : Int32)), .val (.int (1 : Int32))] [(.long y0)])
      refine Runs.back (fun t_ k_ => XS.bipush X35.here hx rfl (hb hby d5_127) k_) ?_
      show Runs _ _ _ _ T35 (mkF m 129 #[.val (.ref r0), .val (.long y0), .second, .val (.long y3), .second, .val (.int (1 : Int32)), .val (.int (1 : Int32))] [(.int (32 : Int32)), (.long y0)])
      refine Runs.back (fun t_ k_ => XS.lushr X35.here hx rfl (hb hby d5_129) rfl k_) ?_
      show Runs _ _ _ _ T35 (mkF m 130 #[.val (.ref r0), .val (.long y0), .second, .val (.long y3), .second, .val (.int (1 : Int32)), .val (.int (1 : Int32))] [(.long ((y0.toUInt64 >>> ((32 : Int32) &&& 0x3f).toInt64.toUInt64).toInt64))])
      refine Runs.back (fun t_ k_ => XS.l2i X35.here hx rfl (hb hby d5_130) rfl k_) ?_
      show Runs _ _ _ _ T35 (mkF m 131 #[.val (.ref r0), .val (.long y0), .second, .val (.long y3), .second, .val (.int (1 : Int32)), .val (.int (1 : Int32))] [(.int (((y0.toUInt64 >>> ((32 : Int32) &&& 0x3f).toInt64.toUInt64).toInt64).toInt32))])
      obtain ⟨fs, hr, hrun, hended, hW, hsame⟩ := X35.leave (v := some (.int (((y0.toUInt64 >>> ((32 : Int32) &&& 0x3f).toInt64.toUInt64).toInt64).toInt32))) (fun h => by rw [Bd.returns] at h; cases h)
      exact ⟨_, _, (retI X35 hx Bd.returns (hb hby d5_131) hr), hrun, hended, _, _, rfl, (by show Q5s4 Z r0 arr fb y0 y1 y2 y3 h0 n0 _ T35.heap _; rw [e35]; exact ⟨rfl, N35, KK35, f35_Exa_0, f35_Fld_1, f35_Fld_2, _, y1, y3, y2, f35_Arr_3, rfl, rfl, hy2, Or.inr (Or.inr (Or.inl ⟨c76_13, c91_28, rfl, rfl, rfl⟩))⟩), ⟨_, rfl⟩, hW, hsame.mono (by decide) (by decide)⟩
    · refine Runs.back (fun t_ k_ => XS.ifNo X26.here hx rfl (hb hby d5_91) rfl ((if0 _ _).trans (flt (lcF c91_28)).1) k_) ?_
      show Runs _ _ _ _ T26 (mkF m 94 #[.val (.ref r0), .val (.long y0), .second, .val (.long y3), .second, .val (.int (0 : Int32)), .val (.int (1 : Int32))] [])
      refine Runs.back (fun t_ k_ => XS.goto X26.here hx rfl (pc0 := 94) (pc' := 118) rfl (hb hby d5_94) (by decide) (by decide) k_) ?_
      show Runs _ _ _ _ T26 (mkF m 118 #[.val (.ref r0), .val (.long y0), .second, .val (.long y3), .second, .val (.int (0 : Int32)), .val (.int (1 : Int32))] [])
      refine Runs.back (fun t_ k_ => XS.aloadN X26.here hx rfl (hb hby d5_118) rfl rfl k_) ?_
      show Runs _ _ _ _ T26 (mkF m 119 #[.val (.ref r0), .val (.long y0), .second, .val (.long y3), .second, .val (.int (0 : Int32)), .val (.int (1 : Int32))] [(.ref r0)])
      obtain ⟨T36, X36, e36, st36⟩ := getF X26 hx hZ hown (host := "") (Or.inl (hw _ (List.mem_of_getElem? (i := 15) rfl))) Via.refl e26 f5_Fld_1 (g := (mkF m 119 #[.val (.ref r0), .val (.long y0), .second, .val (.long y3), .second, .val (.int (0 : Int32)), .val (.int (1 : Int32))] [(.ref r0)])) rfl rfl (hb hby d5_119)
      refine Runs.back st36 ?_
      show Runs _ _ _ _ T36 (mkF m 122 #[.val (.ref r0), .val (.long y0), .second, .val (.long y3), .second, .val (.int (0 : Int32)), .val (.int (1 : Int32))] [(.ref arr)])
      refine Runs.back (fun t_ k_ => XS.iload X36.here hx rfl (hb hby d5_122) rfl k_) ?_
      show Runs _ _ _ _ T36 (mkF m 124 #[.val (.ref r0), .val (.long y0), .second, .val (.long y3), .second, .val (.int (0 : Int32)), .val (.int (1 : Int32))] [(.int (0 : Int32)), (.ref arr)])
      refine Runs.back (fun t_ k_ => XS.lloadN X36.here hx rfl (hb hby d5_124) rfl k_) ?_
      show Runs _ _ _ _ T36 (mkF m 125 #[.val (.ref r0), .val (.long y0), .second, .val (.long y3), .second, .val (.int (0 : Int32)), .val (.int (1 : Int32))] [(.long y3), (.int (0 : Int32)), (.ref arr)])
      obtain ⟨cl37, Ar37, S37, Hs37⟩ := id f5_Arr_3
      obtain ⟨T37, h37, X37, e37, W37, st37⟩ := stJ X36 hx hZ e36 Ar37 (j := (0 : Int32)) (by rw [S37]; exact (inbO (by decide : ¬ (0 : Int32) < 0) (rfl : ((0 : Int32)).toNatClampNeg = 0) (show 0 < 4 from (by first | omega | decide)))) (g := (mkF m 125 #[.val (.ref r0), .val (.long y0), .second, .val (.long y3), .second, .val (.int (0 : Int32)), .val (.int (1 : Int32))] [(.long y3), (.int (0 : Int32)), (.ref arr)])) rfl rfl (hb hby d5_125)
      have N37 := Fr.snoc X37 N5 g_arr
      obtain ⟨L37, X37, N37⟩ := hideL X37 N37
      rw [(rfl : ((0 : Int32)).toNatClampNeg = 0)] at W37
      have f37_Exa_0 : Exa Z h37 r0 "com/example/tradewheel/tradewheel/PartQueue" := Exa.wr W37 f5_Exa_0
      have f37_Fld_1 : Fld Z h37 r0 "com/example/tradewheel/tradewheel/PartQueue" "heap" "[J" (.ref arr) := Fld.other W37 f5_Fld_1 (Or.inl ne_r0_arr)
      have f37_Fld_2 : Fld Z h37 r0 "com/example/tradewheel/tradewheel/PartQueue" "size" "I" (.int (3 : Int32)) := Fld.other W37 f5_Fld_2 (Or.inl ne_r0_arr)
      have f37_Arr_3 : OArr Z h37 arr .long 4 (fun i => if i = 0 then (Value.long y3) else fb i) := f5_Arr_3.set W37
      have KK37 : Keep h0 h37 [r0, arr] := Keep.wr KK5 W37 (Or.inl (List.mem_of_getElem? (i := 1) rfl))
      have Z37 : n0 ≤ h37.size := Nat.le_trans (Z5) (Nat.le_of_eq W37.size.symm)
      refine Runs.back st37 ?_
      show Runs _ _ _ _ T37 (mkF m 126 #[.val (.ref r0), .val (.long y0), .second, .val (.long y3), .second, .val (.int (0 : Int32)), .val (.int (1 : Int32))] [])
      refine Runs.back (fun t_ k_ => XS.lloadN X37.here hx rfl (hb hby d5_126) rfl k_) ?_
      show Runs _ _ _ _ T37 (mkF m 127 #[.val (.ref r0), .val (.long y0), .second, .val (.long y3), .second, .val (.int (0 : Int32)), .val (.int (1 : Int32))] [(.long y0)])
      refine Runs.back (fun t_ k_ => XS.bipush X37.here hx rfl (hb hby d5_127) k_) ?_
      show Runs _ _ _ _ T37 (mkF m 129 #[.val (.ref r0), .val (.long y0), .second, .val (.long y3), .second, .val (.int (0 : Int32)), .val (.int (1 : Int32))] [(.int (32 : Int32)), (.long y0)])
      refine Runs.back (fun t_ k_ => XS.lushr X37.here hx rfl (hb hby d5_129) rfl k_) ?_
      show Runs _ _ _ _ T37 (mkF m 130 #[.val (.ref r0), .val (.long y0), .second, .val (.long y3), .second, .val (.int (0 : Int32)), .val (.int (1 : Int32))] [(.long ((y0.toUInt64 >>> ((32 : Int32) &&& 0x3f).toInt64.toUInt64).toInt64))])
      refine Runs.back (fun t_ k_ => XS.l2i X37.here hx rfl (hb hby d5_130) rfl k_) ?_
      show Runs _ _ _ _ T37 (mkF m 131 #[.val (.ref r0), .val (.long y0), .second, .val (.long y3), .second, .val (.int (0 : Int32)), .val (.int (1 : Int32))] [(.int (((y0.toUInt64 >>> ((32 : Int32) &&& 0x3f).toInt64.toUInt64).toInt64).toInt32))])
      obtain ⟨fs, hr, hrun, hended, hW, hsame⟩ := X37.leave (v := some (.int (((y0.toUInt64 >>> ((32 : Int32) &&& 0x3f).toInt64.toUInt64).toInt64).toInt32))) (fun h => by rw [Bd.returns] at h; cases h)
      exact ⟨_, _, (retI X37 hx Bd.returns (hb hby d5_131) hr), hrun, hended, _, _, rfl, (by show Q5s4 Z r0 arr fb y0 y1 y2 y3 h0 n0 _ T37.heap _; rw [e37]; exact ⟨rfl, N37, KK37, f37_Exa_0, f37_Fld_1, f37_Fld_2, _, y3, y1, y2, f37_Arr_3, rfl, hy1, hy2, Or.inr (Or.inr (Or.inr ⟨c76_13, c91_28, rfl, rfl, rfl⟩))⟩), ⟨_, rfl⟩, hW, hsame.mono (by decide) (by decide)⟩
theorem pn_5s3 : plainName "com/example/tradewheel/tradewheel/PartQueue" = true := by first | (simp [plainName, overriddenIn]; done) | decide +kernel
theorem ef_5s3 (m : MethodId) (r0 : Addr) : entryFrame m #[(.ref r0)] 7 = mkF m 0 #[.val (.ref r0), .unset, .unset, .unset, .unset, .unset, .unset] [] := by first | (simp [entryFrame, mkF, argsToLocals, Value.category]; done) | rfl
def Q5s3 (Z : State) (r0 : Addr) (arr : Addr) (fb : Nat → Value) (y0 y1 y2 : Int64) (h0 : Heap) (n0 : Nat) (v : Option Value) (h : Heap) (L : List Loc) : Prop := v = some (.int (hiI y0)) ∧ Fr n0 L ∧ Keep h0 h [r0, arr] ∧ Exa Z h r0 "com/example/tradewheel/tradewheel/PartQueue" ∧ Fld Z h r0 "com/example/tradewheel/tradewheel/PartQueue" "heap" "[J" (.ref arr) ∧ Fld Z h r0 "com/example/tradewheel/tradewheel/PartQueue" "size" "I" (.int (2 : Int32)) ∧ ∃ (f : Nat → Value) (u0 u1 : Int64), OArr Z h arr .long 4 f ∧ f 0 = .long u0 ∧ f 1 = .long u1 ∧ RemR3 y0 y1 y2 u0 u1
set_option maxRecDepth 65536 in
set_option maxHeartbeats 40000000 in
theorem rm5s3 (l : Launch) (Z : State) (a0 : Array Value) (hw : ∀ d ∈ tables_1, d.before a0 Z = true) (ws : List Jvm.Cond) (r0 : Addr) (arr : Addr) (fb : Nat → Value) (y0 y1 y2 : Int64) (h0 : Heap) (n0 : Nat) (Z0 : n0 ≤ h0.size) (E_r0 : Exa Z h0 r0 "com/example/tradewheel/tradewheel/PartQueue") (F1 : Fld Z h0 r0 "com/example/tradewheel/tradewheel/PartQueue" "heap" "[J" (.ref arr)) (F2 : Fld Z h0 r0 "com/example/tradewheel/tradewheel/PartQueue" "size" "I" (.int (3 : Int32))) (A1 : OArr Z h0 arr .long 4 fb) (ne_r0_arr : r0 ≠ arr) (g_r0 : n0 ≤ r0) (g_arr : n0 ≤ arr) (hy0 : fb 0 = .long y0) (hy1 : fb 1 = .long y1) (hy2 : fb 2 = .long y2) :
    MetFree l (⟨"com/example/tradewheel/tradewheel/PartQueue", "remove", "()I"⟩ : MethodName) (head1 (Jvm.Cond.code (⟨"com/example/tradewheel/tradewheel/PartQueue", "remove", "()I"⟩ : MethodName) prog_22_method_4_code 7 (some .int) :: ws) ({ frames := 0, cells := 0, slots := 0, locals := 0 } : Room)) (fun a U => a = #[(.ref r0)] ∧ Z.Warmed39 U.vm ∧ U.heap = h0) (fun _ _ _ _ _ => True) (fun _ U o U' => ∃ v L, o = .returned v ∧ Q5s3 Z r0 arr fb y0 y1 y2 h0 n0 v U'.heap L ∧ FrameEnd U o U' L ({ frames := 0, cells := 0, slots := 0, locals := 0 } : Room).cells ({ frames := 0, cells := 0, slots := 0, locals := 0 } : Room).slots) := by
  refine MetFree.of_bodySF (plainFor_of_name pn_5s3) hisR ?_
  intro p e s m args below meth c s₁ Bd hml0 hP hK
  obtain ⟨rfl, hZ, hh⟩ := hP
  have hx := Bd.exec
  have hby := Bd.bytes
  have hml : c.maxLocals = 7 := hml0
  have hown : s.vm.findClass "com/example/tradewheel/tradewheel/PartQueue" = some m.cls := findClass_of_methodNamed Bd.named
  have hnm := (name_of_methodNamed Bd.named Bd.method).1
  have X0 : Stand p l e ({ frames := 0, cells := 0, slots := 0, locals := 0 } : Room) s m #[(.ref r0)] below meth c s₁ [] 0 0 := Stand.of_body Bd
  have e0 : s₁.heap = h0 := by rw [← hh, Bd.state]; rfl
  have N0 := Fr.nil n0
  refine Runs.enter (ef_5s3 m r0) ?_
  show Runs _ _ _ _ s₁ (mkF m 0 #[.val (.ref r0), .unset, .unset, .unset, .unset, .unset, .unset] [])
  refine Runs.back (fun t_ k_ => XS.aloadN X0.here hx rfl (hb hby d5_0) rfl rfl k_) ?_
  show Runs _ _ _ _ s₁ (mkF m 1 #[.val (.ref r0), .unset, .unset, .unset, .unset, .unset, .unset] [(.ref r0)])
  obtain ⟨T1, X1, e1, st1⟩ := getF X0 hx hZ hown (host := "") (Or.inl (hw _ (List.mem_of_getElem? (i := 15) rfl))) Via.refl e0 F1 (g := (mkF m 1 #[.val (.ref r0), .unset, .unset, .unset, .unset, .unset, .unset] [(.ref r0)])) rfl rfl (hb hby d5_1)
  refine Runs.back st1 ?_
  show Runs _ _ _ _ T1 (mkF m 4 #[.val (.ref r0), .unset, .unset, .unset, .unset, .unset, .unset] [(.ref arr)])
  refine Runs.back (fun t_ k_ => XS.iconst X1.here hx rfl (hb hby d5_4) k_) ?_
  show Runs _ _ _ _ T1 (mkF m 5 #[.val (.ref r0), .unset, .unset, .unset, .unset, .unset, .unset] [(.int (0 : Int32)), (.ref arr)])
  obtain ⟨cl2, Ar2, S2, Hs2⟩ := id A1
  have at2 : cl2.slots[((0 : Int32)).toNatClampNeg]? = some (.long y0) := readO Hs2 (rfl : ((0 : Int32)).toNatClampNeg = 0) (show 0 < 4 from (by first | omega | decide)) (hy0)
  refine Runs.back (fun t_ k_ => X1.laload hx (j := (0 : Int32)) (v := (.long y0)) (by rw [e1]; exact Ar2.1) (State.isArrayOf_alike hZ.alike Ar2.2.1) Ar2.2.2 (by rw [S2]; exact (inbO (by decide : ¬ (0 : Int32) < 0) (rfl : ((0 : Int32)).toNatClampNeg = 0) (show 0 < 4 from (by first | omega | decide)))) at2 (g := (mkF m 5 #[.val (.ref r0), .unset, .unset, .unset, .unset, .unset, .unset] [(.int (0 : Int32)), (.ref arr)])) rfl rfl (hb hby d5_5) _ k_) ?_
  show Runs _ _ _ _ T1 (mkF m 6 #[.val (.ref r0), .unset, .unset, .unset, .unset, .unset, .unset] [(.long y0)])
  refine Runs.back (fun t_ k_ => XS.lstoreN X1.here hx rfl (hb hby d5_6) rfl (l' := #[.val (.ref r0), .val (.long y0), .second, .unset, .unset, .unset, .unset]) rfl k_) ?_
  show Runs _ _ _ _ T1 (mkF m 7 #[.val (.ref r0), .val (.long y0), .second, .unset, .unset, .unset, .unset] [])
  refine Runs.back (fun t_ k_ => XS.aloadN X1.here hx rfl (hb hby d5_7) rfl rfl k_) ?_
  show Runs _ _ _ _ T1 (mkF m 8 #[.val (.ref r0), .val (.long y0), .second, .unset, .unset, .unset, .unset] [(.ref r0)])
  obtain ⟨T3, X3, e3, st3⟩ := getF X1 hx hZ hown (host := "") (Or.inl (hw _ (List.mem_of_getElem? (i := 15) rfl))) Via.refl e1 F1 (g := (mkF m 8 #[.val (.ref r0), .val (.long y0), .second, .unset, .unset, .unset, .unset] [(.ref r0)])) rfl rfl (hb hby d5_8)
  refine Runs.back st3 ?_
  show Runs _ _ _ _ T3 (mkF m 11 #[.val (.ref r0), .val (.long y0), .second, .unset, .unset, .unset, .unset] [(.ref arr)])
  refine Runs.back (fun t_ k_ => XS.aloadN X3.here hx rfl (hb hby d5_11) rfl rfl k_) ?_
  show Runs _ _ _ _ T3 (mkF m 12 #[.val (.ref r0), .val (.long y0), .second, .unset, .unset, .unset, .unset] [(.ref r0), (.ref arr)])
  refine Runs.back (fun t_ k_ => XS.dup X3.here hx rfl (hb hby d5_12) rfl rfl k_) ?_
  show Runs _ _ _ _ T3 (mkF m 13 #[.val (.ref r0), .val (.long y0), .second, .unset, .unset, .unset, .unset] [(.ref r0), (.ref r0), (.ref arr)])
  obtain ⟨T4, X4, e4, st4⟩ := getF X3 hx hZ hown (host := "") (Or.inl (hw _ (List.mem_of_getElem? (i := 22) rfl))) Via.refl e3 F2 (g := (mkF m 13 #[.val (.ref r0), .val (.long y0), .second, .unset, .unset, .unset, .unset] [(.ref r0), (.ref r0), (.ref arr)])) rfl rfl (hb hby d5_13)
  refine Runs.back st4 ?_
  show Runs _ _ _ _ T4 (mkF m 16 #[.val (.ref r0), .val (.long y0), .second, .unset, .unset, .unset, .unset] [(.int (3 : Int32)), (.ref r0), (.ref arr)])
  refine Runs.back (fun t_ k_ => XS.iconst X4.here hx rfl (hb hby d5_16) k_) ?_
  show Runs _ _ _ _ T4 (mkF m 17 #[.val (.ref r0), .val (.long y0), .second, .unset, .unset, .unset, .unset] [(.int (1 : Int32)), (.int (3 : Int32)), (.ref r0), (.ref arr)])
  refine Runs.back (fun t_ k_ => XS.isub X4.here hx rfl (hb hby d5_17) rfl k_) ?_
  show Runs _ _ _ _ T4 (mkF m 18 #[.val (.ref r0), .val (.long y0), .second, .unset, .unset, .unset, .unset] [(.int ((3 : Int32) - (1 : Int32))), (.ref r0), (.ref arr)])
  rw [show ((3 : Int32) - (1 : Int32)) = (2 : Int32) from by decide]
  show Runs _ _ _ _ T4 (mkF m 18 #[.val (.ref r0), .val (.long y0), .second, .unset, .unset, .unset, .unset] [(.int (2 : Int32)), (.ref r0), (.ref arr)])
  refine Runs.back (fun t_ k_ => XS.dupX1 X4.here hx rfl (hb hby d5_18) rfl rfl rfl k_) ?_
  show Runs _ _ _ _ T4 (mkF m 19 #[.val (.ref r0), .val (.long y0), .second, .unset, .unset, .unset, .unset] [(.int (2 : Int32)), (.ref r0), (.int (2 : Int32)), (.ref arr)])
  obtain ⟨T5, h5, X5, e5, W5, st5⟩ := putF X4 hx hZ hown (host := "") (Or.inl (hw _ (List.mem_of_getElem? (i := 22) rfl))) Via.refl e4 F2 E_r0 (Or.inl (hw _ (List.mem_of_getElem? (i := 23) rfl))) (hw _ (List.mem_of_getElem? (i := 6) rfl)) (ty := .int) (by decide) rfl rfl (g := (mkF m 19 #[.val (.ref r0), .val (.long y0), .second, .unset, .unset, .unset, .unset] [(.int (2 : Int32)), (.ref r0), (.int (2 : Int32)), (.ref arr)])) rfl rfl (hb hby d5_19)
  have f5_Exa_0 : Exa Z h5 r0 "com/example/tradewheel/tradewheel/PartQueue" := Exa.wr W5 E_r0
  have f5_Fld_1 : Fld Z h5 r0 "com/example/tradewheel/tradewheel/PartQueue" "heap" "[J" (.ref arr) := Fld.other W5 F1 (Or.inr (slot_ne (Or.inr (hw _ (List.mem_of_getElem? (i := 16) rfl))) (Or.inl (hw _ (List.mem_of_getElem? (i := 23) rfl))) (by decide) (t := (.array .long)) (t' := .int) (by decide) (by decide)))
  have f5_Fld_2 : Fld Z h5 r0 "com/example/tradewheel/tradewheel/PartQueue" "size" "I" (.int (2 : Int32)) := Fld.same W5 F2
  have f5_Arr_3 : OArr Z h5 arr .long 4 fb := A1.other W5 (Ne.symm ne_r0_arr)
  have N5 := Fr.snoc X5 N0 g_r0
  obtain ⟨L5, X5, N5⟩ := hideL X5 N5
  have KK5 : Keep h0 h5 [r0, arr] := Keep.wr (Keep.refl h0 [r0, arr]) W5 (Or.inl (List.mem_of_getElem? (i := 0) rfl))
  have Z5 : n0 ≤ h5.size := Nat.le_trans (Z0) (Nat.le_of_eq W5.size.symm)
  refine Runs.back st5 ?_
  show Runs _ _ _ _ T5 (mkF m 22 #[.val (.ref r0), .val (.long y0), .second, .unset, .unset, .unset, .unset] [(.int (2 : Int32)), (.ref arr)])
  obtain ⟨cl6, Ar6, S6, Hs6⟩ := id f5_Arr_3
  have at6 : cl6.slots[((2 : Int32)).toNatClampNeg]? = some (.long y2) := readO Hs6 (rfl : ((2 : Int32)).toNatClampNeg = 2) (show 2 < 4 from (by first | omega | decide)) (hy2)
  refine Runs.back (fun t_ k_ => X5.laload hx (j := (2 : Int32)) (v := (.long y2)) (by rw [e5]; exact Ar6.1) (State.isArrayOf_alike hZ.alike Ar6.2.1) Ar6.2.2 (by rw [S6]; exact (inbO (by decide : ¬ (2 : Int32) < 0) (rfl : ((2 : Int32)).toNatClampNeg = 2) (show 2 < 4 from (by first | omega | decide)))) at6 (g := (mkF m 22 #[.val (.ref r0), .val (.long y0), .second, .unset, .unset, .unset, .unset] [(.int (2 : Int32)), (.ref arr)])) rfl rfl (hb hby d5_22) _ k_) ?_
  show Runs _ _ _ _ T5 (mkF m 23 #[.val (.ref r0), .val (.long y0), .second, .unset, .unset, .unset, .unset] [(.long y2)])
  refine Runs.back (fun t_ k_ => XS.lstoreN X5.here hx rfl (hb hby d5_23) rfl (l' := #[.val (.ref r0), .val (.long y0), .second, .val (.long y2), .second, .unset, .unset]) rfl k_) ?_
  show Runs _ _ _ _ T5 (mkF m 24 #[.val (.ref r0), .val (.long y0), .second, .val (.long y2), .second, .unset, .unset] [])
  refine Runs.back (fun t_ k_ => XS.iconst X5.here hx rfl (hb hby d5_24) k_) ?_
  show Runs _ _ _ _ T5 (mkF m 25 #[.val (.ref r0), .val (.long y0), .second, .val (.long y2), .second, .unset, .unset] [(.int (0 : Int32))])
  refine Runs.back (fun t_ k_ => XS.istore X5.here hx rfl (hb hby d5_25) rfl (l' := #[.val (.ref r0), .val (.long y0), .second, .val (.long y2), .second, .val (.int (0 : Int32)), .unset]) rfl k_) ?_
  show Runs _ _ _ _ T5 (mkF m 27 #[.val (.ref r0), .val (.long y0), .second, .val (.long y2), .second, .val (.int (0 : Int32)), .unset] [])
  refine Runs.back (fun t_ k_ => XS.iconst X5.here hx rfl (hb hby d5_27) k_) ?_
  show Runs _ _ _ _ T5 (mkF m 28 #[.val (.ref r0), .val (.long y0), .second, .val (.long y2), .second, .val (.int (0 : Int32)), .unset] [(.int (2 : Int32))])
  refine Runs.back (fun t_ k_ => XS.iload X5.here hx rfl (hb hby d5_28) rfl k_) ?_
  show Runs _ _ _ _ T5 (mkF m 30 #[.val (.ref r0), .val (.long y0), .second, .val (.long y2), .second, .val (.int (0 : Int32)), .unset] [(.int (0 : Int32)), (.int (2 : Int32))])
  refine Runs.back (fun t_ k_ => XS.imul X5.here hx rfl (hb hby d5_30) rfl k_) ?_
  show Runs _ _ _ _ T5 (mkF m 31 #[.val (.ref r0), .val (.long y0), .second, .val (.long y2), .second, .val (.int (0 : Int32)), .unset] [(.int ((2 : Int32) * (0 : Int32)))])
  rw [show ((2 : Int32) * (0 : Int32)) = (0 : Int32) from by decide]
  show Runs _ _ _ _ T5 (mkF m 31 #[.val (.ref r0), .val (.long y0), .second, .val (.long y2), .second, .val (.int (0 : Int32)), .unset] [(.int (0 : Int32))])
  refine Runs.back (fun t_ k_ => XS.iconst X5.here hx rfl (hb hby d5_31) k_) ?_
  show Runs _ _ _ _ T5 (mkF m 32 #[.val (.ref r0), .val (.long y0), .second, .val (.long y2), .second, .val (.int (0 : Int32)), .unset] [(.int (1 : Int32)), (.int (0 : Int32))])
  refine Runs.back (fun t_ k_ => XS.iadd X5.here hx rfl (hb hby d5_32) rfl k_) ?_
  show Runs _ _ _ _ T5 (mkF m 33 #[.val (.ref r0), .val (.long y0), .second, .val (.long y2), .second, .val (.int (0 : Int32)), .unset] [(.int ((0 : Int32) + (1 : Int32)))])
  rw [show ((0 : Int32) + (1 : Int32)) = (1 : Int32) from by decide]
  show Runs _ _ _ _ T5 (mkF m 33 #[.val (.ref r0), .val (.long y0), .second, .val (.long y2), .second, .val (.int (0 : Int32)), .unset] [(.int (1 : Int32))])
  refine Runs.back (fun t_ k_ => XS.aloadN X5.here hx rfl (hb hby d5_33) rfl rfl k_) ?_
  show Runs _ _ _ _ T5 (mkF m 34 #[.val (.ref r0), .val (.long y0), .second, .val (.long y2), .second, .val (.int (0 : Int32)), .unset] [(.ref r0), (.int (1 : Int32))])
  obtain ⟨T7, X7, e7, st7⟩ := getF X5 hx hZ hown (host := "") (Or.inl (hw _ (List.mem_of_getElem? (i := 22) rfl))) Via.refl e5 f5_Fld_2 (g := (mkF m 34 #[.val (.ref r0), .val (.long y0), .second, .val (.long y2), .second, .val (.int (0 : Int32)), .unset] [(.ref r0), (.int (1 : Int32))])) rfl rfl (hb hby d5_34)
  refine Runs.back st7 ?_
  show Runs _ _ _ _ T7 (mkF m 37 #[.val (.ref r0), .val (.long y0), .second, .val (.long y2), .second, .val (.int (0 : Int32)), .unset] [(.int (2 : Int32)), (.int (1 : Int32))])
  refine Runs.back (fun t_ k_ => XS.icmpNo X7.here hx rfl (hb hby d5_37) rfl (tlt (show (1 : Int32) < (2 : Int32) from (by decide))).2.1 k_) ?_
  show Runs _ _ _ _ T7 (mkF m 40 #[.val (.ref r0), .val (.long y0), .second, .val (.long y2), .second, .val (.int (0 : Int32)), .unset] [])
  refine Runs.back (fun t_ k_ => XS.iconst X7.here hx rfl (hb hby d5_40) k_) ?_
  show Runs _ _ _ _ T7 (mkF m 41 #[.val (.ref r0), .val (.long y0), .second, .val (.long y2), .second, .val (.int (0 : Int32)), .unset] [(.int (2 : Int32))])
  refine Runs.back (fun t_ k_ => XS.iload X7.here hx rfl (hb hby d5_41) rfl k_) ?_
  show Runs _ _ _ _ T7 (mkF m 43 #[.val (.ref r0), .val (.long y0), .second, .val (.long y2), .second, .val (.int (0 : Int32)), .unset] [(.int (0 : Int32)), (.int (2 : Int32))])
  refine Runs.back (fun t_ k_ => XS.imul X7.here hx rfl (hb hby d5_43) rfl k_) ?_
  show Runs _ _ _ _ T7 (mkF m 44 #[.val (.ref r0), .val (.long y0), .second, .val (.long y2), .second, .val (.int (0 : Int32)), .unset] [(.int ((2 : Int32) * (0 : Int32)))])
  rw [show ((2 : Int32) * (0 : Int32)) = (0 : Int32) from by decide]
  show Runs _ _ _ _ T7 (mkF m 44 #[.val (.ref r0), .val (.long y0), .second, .val (.long y2), .second, .val (.int (0 : Int32)), .unset] [(.int (0 : Int32))])
  refine Runs.back (fun t_ k_ => XS.iconst X7.here hx rfl (hb hby d5_44) k_) ?_
  show Runs _ _ _ _ T7 (mkF m 45 #[.val (.ref r0), .val (.long y0), .second, .val (.long y2), .second, .val (.int (0 : Int32)), .unset] [(.int (1 : Int32)), (.int (0 : Int32))])
  refine Runs.back (fun t_ k_ => XS.iadd X7.here hx rfl (hb hby d5_45) rfl k_) ?_
  show Runs _ _ _ _ T7 (mkF m 46 #[.val (.ref r0), .val (.long y0), .second, .val (.long y2), .second, .val (.int (0 : Int32)), .unset] [(.int ((0 : Int32) + (1 : Int32)))])
  rw [show ((0 : Int32) + (1 : Int32)) = (1 : Int32) from by decide]
  show Runs _ _ _ _ T7 (mkF m 46 #[.val (.ref r0), .val (.long y0), .second, .val (.long y2), .second, .val (.int (0 : Int32)), .unset] [(.int (1 : Int32))])
  refine Runs.back (fun t_ k_ => XS.istore X7.here hx rfl (hb hby d5_46) rfl (l' := #[.val (.ref r0), .val (.long y0), .second, .val (.long y2), .second, .val (.int (0 : Int32)), .val (.int (1 : Int32))]) rfl k_) ?_
  show Runs _ _ _ _ T7 (mkF m 48 #[.val (.ref r0), .val (.long y0), .second, .val (.long y2), .second, .val (.int (0 : Int32)), .val (.int (1 : Int32))] [])
  refine Runs.back (fun t_ k_ => XS.iload X7.here hx rfl (hb hby d5_48) rfl k_) ?_
  show Runs _ _ _ _ T7 (mkF m 50 #[.val (.ref r0), .val (.long y0), .second, .val (.long y2), .second, .val (.int (0 : Int32)), .val (.int (1 : Int32))] [(.int (1 : Int32))])
  refine Runs.back (fun t_ k_ => XS.iconst X7.here hx rfl (hb hby d5_50) k_) ?_
  show Runs _ _ _ _ T7 (mkF m 51 #[.val (.ref r0), .val (.long y0), .second, .val (.long y2), .second, .val (.int (0 : Int32)), .val (.int (1 : Int32))] [(.int (1 : Int32)), (.int (1 : Int32))])
  refine Runs.back (fun t_ k_ => XS.iadd X7.here hx rfl (hb hby d5_51) rfl k_) ?_
  show Runs _ _ _ _ T7 (mkF m 52 #[.val (.ref r0), .val (.long y0), .second, .val (.long y2), .second, .val (.int (0 : Int32)), .val (.int (1 : Int32))] [(.int ((1 : Int32) + (1 : Int32)))])
  rw [show ((1 : Int32) + (1 : Int32)) = (2 : Int32) from by decide]
  show Runs _ _ _ _ T7 (mkF m 52 #[.val (.ref r0), .val (.long y0), .second, .val (.long y2), .second, .val (.int (0 : Int32)), .val (.int (1 : Int32))] [(.int (2 : Int32))])
  refine Runs.back (fun t_ k_ => XS.aloadN X7.here hx rfl (hb hby d5_52) rfl rfl k_) ?_
  show Runs _ _ _ _ T7 (mkF m 53 #[.val (.ref r0), .val (.long y0), .second, .val (.long y2), .second, .val (.int (0 : Int32)), .val (.int (1 : Int32))] [(.ref r0), (.int (2 : Int32))])
  obtain ⟨T8, X8, e8, st8⟩ := getF X7 hx hZ hown (host := "") (Or.inl (hw _ (List.mem_of_getElem? (i := 22) rfl))) Via.refl e7 f5_Fld_2 (g := (mkF m 53 #[.val (.ref r0), .val (.long y0), .second, .val (.long y2), .second, .val (.int (0 : Int32)), .val (.int (1 : Int32))] [(.ref r0), (.int (2 : Int32))])) rfl rfl (hb hby d5_53)
  refine Runs.back st8 ?_
  show Runs _ _ _ _ T8 (mkF m 56 #[.val (.ref r0), .val (.long y0), .second, .val (.long y2), .second, .val (.int (0 : Int32)), .val (.int (1 : Int32))] [(.int (2 : Int32)), (.int (2 : Int32))])
  refine Runs.back (fun t_ k_ => XS.icmpYes X8.here hx rfl (pc0 := 56) (pc' := 82) rfl (hb hby d5_56) rfl (flt (show ¬ ((2 : Int32) < (2 : Int32)) from (by decide))).2.1 (by decide) (by decide) k_) ?_
  show Runs _ _ _ _ T8 (mkF m 82 #[.val (.ref r0), .val (.long y0), .second, .val (.long y2), .second, .val (.int (0 : Int32)), .val (.int (1 : Int32))] [])
  refine Runs.back (fun t_ k_ => XS.aloadN X8.here hx rfl (hb hby d5_82) rfl rfl k_) ?_
  show Runs _ _ _ _ T8 (mkF m 83 #[.val (.ref r0), .val (.long y0), .second, .val (.long y2), .second, .val (.int (0 : Int32)), .val (.int (1 : Int32))] [(.ref r0)])
  obtain ⟨T9, X9, e9, st9⟩ := getF X8 hx hZ hown (host := "") (Or.inl (hw _ (List.mem_of_getElem? (i := 15) rfl))) Via.refl e8 f5_Fld_1 (g := (mkF m 83 #[.val (.ref r0), .val (.long y0), .second, .val (.long y2), .second, .val (.int (0 : Int32)), .val (.int (1 : Int32))] [(.ref r0)])) rfl rfl (hb hby d5_83)
  refine Runs.back st9 ?_
  show Runs _ _ _ _ T9 (mkF m 86 #[.val (.ref r0), .val (.long y0), .second, .val (.long y2), .second, .val (.int (0 : Int32)), .val (.int (1 : Int32))] [(.ref arr)])
  refine Runs.back (fun t_ k_ => XS.iload X9.here hx rfl (hb hby d5_86) rfl k_) ?_
  show Runs _ _ _ _ T9 (mkF m 88 #[.val (.ref r0), .val (.long y0), .second, .val (.long y2), .second, .val (.int (0 : Int32)), .val (.int (1 : Int32))] [(.int (1 : Int32)), (.ref arr)])
  obtain ⟨cl10, Ar10, S10, Hs10⟩ := id f5_Arr_3
  have at10 : cl10.slots[((1 : Int32)).toNatClampNeg]? = some (.long y1) := readO Hs10 (rfl : ((1 : Int32)).toNatClampNeg = 1) (show 1 < 4 from (by first | omega | decide)) (hy1)
  refine Runs.back (fun t_ k_ => X9.laload hx (j := (1 : Int32)) (v := (.long y1)) (by rw [e9]; exact Ar10.1) (State.isArrayOf_alike hZ.alike Ar10.2.1) Ar10.2.2 (by rw [S10]; exact (inbO (by decide : ¬ (1 : Int32) < 0) (rfl : ((1 : Int32)).toNatClampNeg = 1) (show 1 < 4 from (by first | omega | decide)))) at10 (g := (mkF m 88 #[.val (.ref r0), .val (.long y0), .second, .val (.long y2), .second, .val (.int (0 : Int32)), .val (.int (1 : Int32))] [(.int (1 : Int32)), (.ref arr)])) rfl rfl (hb hby d5_88) _ k_) ?_
  show Runs _ _ _ _ T9 (mkF m 89 #[.val (.ref r0), .val (.long y0), .second, .val (.long y2), .second, .val (.int (0 : Int32)), .val (.int (1 : Int32))] [(.long y1)])
  refine Runs.back (fun t_ k_ => XS.lloadN X9.here hx rfl (hb hby d5_89) rfl k_) ?_
  show Runs _ _ _ _ T9 (mkF m 90 #[.val (.ref r0), .val (.long y0), .second, .val (.long y2), .second, .val (.int (0 : Int32)), .val (.int (1 : Int32))] [(.long y2), (.long y1)])
  refine Runs.back (fun t_ k_ => XS.lcmp X9.here hx rfl (hb hby d5_90) rfl k_) ?_
  show Runs _ _ _ _ T9 (mkF m 91 #[.val (.ref r0), .val (.long y0), .second, .val (.long y2), .second, .val (.int (0 : Int32)), .val (.int (1 : Int32))] [(.int (lcmpW y1 y2))])
  by_cases c91_11 : y1 < y2
  · refine Runs.back (fun t_ k_ => XS.ifYes X9.here hx rfl (pc0 := 91) (pc' := 97) rfl (hb hby d5_91) rfl ((if0 _ _).trans (tlt (lcT c91_11)).1) (by decide) (by decide) k_) ?_
    show Runs _ _ _ _ T9 (mkF m 97 #[.val (.ref r0), .val (.long y0), .second, .val (.long y2), .second, .val (.int (0 : Int32)), .val (.int (1 : Int32))] [])
    refine Runs.back (fun t_ k_ => XS.aloadN X9.here hx rfl (hb hby d5_97) rfl rfl k_) ?_
    show Runs _ _ _ _ T9 (mkF m 98 #[.val (.ref r0), .val (.long y0), .second, .val (.long y2), .second, .val (.int (0 : Int32)), .val (.int (1 : Int32))] [(.ref r0)])
    obtain ⟨T12, X12, e12, st12⟩ := getF X9 hx hZ hown (host := "") (Or.inl (hw _ (List.mem_of_getElem? (i := 15) rfl))) Via.refl e9 f5_Fld_1 (g := (mkF m 98 #[.val (.ref r0), .val (.long y0), .second, .val (.long y2), .second, .val (.int (0 : Int32)), .val (.int (1 : Int32))] [(.ref r0)])) rfl rfl (hb hby d5_98)
    refine Runs.back st12 ?_
    show Runs _ _ _ _ T12 (mkF m 101 #[.val (.ref r0), .val (.long y0), .second, .val (.long y2), .second, .val (.int (0 : Int32)), .val (.int (1 : Int32))] [(.ref arr)])
    refine Runs.back (fun t_ k_ => XS.iload X12.here hx rfl (hb hby d5_101) rfl k_) ?_
    show Runs _ _ _ _ T12 (mkF m 103 #[.val (.ref r0), .val (.long y0), .second, .val (.long y2), .second, .val (.int (0 : Int32)), .val (.int (1 : Int32))] [(.int (0 : Int32)), (.ref arr)])
    refine Runs.back (fun t_ k_ => XS.aloadN X12.here hx rfl (hb hby d5_103) rfl rfl k_) ?_
    show Runs _ _ _ _ T12 (mkF m 104 #[.val (.ref r0), .val (.long y0), .second, .val (.long y2), .second, .val (.int (0 : Int32)), .val (.int (1 : Int32))] [(.ref r0), (.int (0 : Int32)), (.ref arr)])
    obtain ⟨T13, X13, e13, st13⟩ := getF X12 hx hZ hown (host := "") (Or.inl (hw _ (List.mem_of_getElem? (i := 15) rfl))) Via.refl e12 f5_Fld_1 (g := (mkF m 104 #[.val (.ref r0), .val (.long y0), .second, .val (.long y2), .second, .val (.int (0 : Int32)), .val (.int (1 : Int32))] [(.ref r0), (.int (0 : Int32)), (.ref arr)])) rfl rfl (hb hby d5_104)
    refine Runs.back st13 ?_
    show Runs _ _ _ _ T13 (mkF m 107 #[.val (.ref r0), .val (.long y0), .second, .val (.long y2), .second, .val (.int (0 : Int32)), .val (.int (1 : Int32))] [(.ref arr), (.int (0 : Int32)), (.ref arr)])
    refine Runs.back (fun t_ k_ => XS.iload X13.here hx rfl (hb hby d5_107) rfl k_) ?_
    show Runs _ _ _ _ T13 (mkF m 109 #[.val (.ref r0), .val (.long y0), .second, .val (.long y2), .second, .val (.int (0 : Int32)), .val (.int (1 : Int32))] [(.int (1 : Int32)), (.ref arr), (.int (0 : Int32)), (.ref arr)])
    obtain ⟨cl14, Ar14, S14, Hs14⟩ := id f5_Arr_3
    have at14 : cl14.slots[((1 : Int32)).toNatClampNeg]? = some (.long y1) := readO Hs14 (rfl : ((1 : Int32)).toNatClampNeg = 1) (show 1 < 4 from (by first | omega | decide)) (hy1)
    refine Runs.back (fun t_ k_ => X13.laload hx (j := (1 : Int32)) (v := (.long y1)) (by rw [e13]; exact Ar14.1) (State.isArrayOf_alike hZ.alike Ar14.2.1) Ar14.2.2 (by rw [S14]; exact (inbO (by decide : ¬ (1 : Int32) < 0) (rfl : ((1 : Int32)).toNatClampNeg = 1) (show 1 < 4 from (by first | omega | decide)))) at14 (g := (mkF m 109 #[.val (.ref r0), .val (.long y0), .second, .val (.long y2), .second, .val (.int (0 : Int32)), .val (.int (1 : Int32))] [(.int (1 : Int32)), (.ref arr), (.int (0 : Int32)), (.ref arr)])) rfl rfl (hb hby d5_109) _ k_) ?_
    show Runs _ _ _ _ T13 (mkF m 110 #[.val (.ref r0), .val (.long y0), .second, .val (.long y2), .second, .val (.int (0 : Int32)), .val (.int (1 : Int32))] [(.long y1), (.int (0 : Int32)), (.ref arr)])
    obtain ⟨cl15, Ar15, S15, Hs15⟩ := id f5_Arr_3
    obtain ⟨T15, h15, X15, e15, W15, st15⟩ := stJ X13 hx hZ e13 Ar15 (j := (0 : Int32)) (by rw [S15]; exact (inbO (by decide : ¬ (0 : Int32) < 0) (rfl : ((0 : Int32)).toNatClampNeg = 0) (show 0 < 4 from (by first | omega | decide)))) (g := (mkF m 110 #[.val (.ref r0), .val (.long y0), .second, .val (.long y2), .second, .val (.int (0 : Int32)), .val (.int (1 : Int32))] [(.long y1), (.int (0 : Int32)), (.ref arr)])) rfl rfl (hb hby d5_110)
    have N15 := Fr.snoc X15 N5 g_arr
    obtain ⟨L15, X15, N15⟩ := hideL X15 N15
    rw [(rfl : ((0 : Int32)).toNatClampNeg = 0)] at W15
    have f15_Exa_0 : Exa Z h15 r0 "com/example/tradewheel/tradewheel/PartQueue" := Exa.wr W15 f5_Exa_0
    have f15_Fld_1 : Fld Z h15 r0 "com/example/tradewheel/tradewheel/PartQueue" "heap" "[J" (.ref arr) := Fld.other W15 f5_Fld_1 (Or.inl ne_r0_arr)
    have f15_Fld_2 : Fld Z h15 r0 "com/example/tradewheel/tradewheel/PartQueue" "size" "I" (.int (2 : Int32)) := Fld.other W15 f5_Fld_2 (Or.inl ne_r0_arr)
    have f15_Arr_3 : OArr Z h15 arr .long 4 (fun i => if i = 0 then (Value.long y1) else fb i) := f5_Arr_3.set W15
    have KK15 : Keep h0 h15 [r0, arr] := Keep.wr KK5 W15 (Or.inl (List.mem_of_getElem? (i := 1) rfl))
    have Z15 : n0 ≤ h15.size := Nat.le_trans (Z5) (Nat.le_of_eq W15.size.symm)
    refine Runs.back st15 ?_
    show Runs _ _ _ _ T15 (mkF m 111 #[.val (.ref r0), .val (.long y0), .second, .val (.long y2), .second, .val (.int (0 : Int32)), .val (.int (1 : Int32))] [])
    refine Runs.back (fun t_ k_ => XS.iload X15.here hx rfl (hb hby d5_111) rfl k_) ?_
    show Runs _ _ _ _ T15 (mkF m 113 #[.val (.ref r0), .val (.long y0), .second, .val (.long y2), .second, .val (.int (0 : Int32)), .val (.int (1 : Int32))] [(.int (1 : Int32))])
    refine Runs.back (fun t_ k_ => XS.istore X15.here hx rfl (hb hby d5_113) rfl (l' := #[.val (.ref r0), .val (.long y0), .second, .val (.long y2), .second, .val (.int (1 : Int32)), .val (.int (1 : Int32))]) rfl k_) ?_
    show Runs _ _ _ _ T15 (mkF m 115 #[.val (.ref r0), .val (.long y0), .second, .val (.long y2), .second, .val (.int (1 : Int32)), .val (.int (1 : Int32))] [])
    refine Runs.back (fun t_ k_ => XS.goto X15.here hx rfl (pc0 := 115) (pc' := 27) rfl (hb hby d5_115) (by decide) (by decide) k_) ?_
    show Runs _ _ _ _ T15 (mkF m 27 #[.val (.ref r0), .val (.long y0), .second, .val (.long y2), .second, .val (.int (1 : Int32)), .val (.int (1 : Int32))] [])
    refine Runs.back (fun t_ k_ => XS.iconst X15.here hx rfl (hb hby d5_27) k_) ?_
    show Runs _ _ _ _ T15 (mkF m 28 #[.val (.ref r0), .val (.long y0), .second, .val (.long y2), .second, .val (.int (1 : Int32)), .val (.int (1 : Int32))] [(.int (2 : Int32))])
    refine Runs.back (fun t_ k_ => XS.iload X15.here hx rfl (hb hby d5_28) rfl k_) ?_
    show Runs _ _ _ _ T15 (mkF m 30 #[.val (.ref r0), .val (.long y0), .second, .val (.long y2), .second, .val (.int (1 : Int32)), .val (.int (1 : Int32))] [(.int (1 : Int32)), (.int (2 : Int32))])
    refine Runs.back (fun t_ k_ => XS.imul X15.here hx rfl (hb hby d5_30) rfl k_) ?_
    show Runs _ _ _ _ T15 (mkF m 31 #[.val (.ref r0), .val (.long y0), .second, .val (.long y2), .second, .val (.int (1 : Int32)), .val (.int (1 : Int32))] [(.int ((2 : Int32) * (1 : Int32)))])
    rw [show ((2 : Int32) * (1 : Int32)) = (2 : Int32) from by decide]
    show Runs _ _ _ _ T15 (mkF m 31 #[.val (.ref r0), .val (.long y0), .second, .val (.long y2), .second, .val (.int (1 : Int32)), .val (.int (1 : Int32))] [(.int (2 : Int32))])
    refine Runs.back (fun t_ k_ => XS.iconst X15.here hx rfl (hb hby d5_31) k_) ?_
    show Runs _ _ _ _ T15 (mkF m 32 #[.val (.ref r0), .val (.long y0), .second, .val (.long y2), .second, .val (.int (1 : Int32)), .val (.int (1 : Int32))] [(.int (1 : Int32)), (.int (2 : Int32))])
    refine Runs.back (fun t_ k_ => XS.iadd X15.here hx rfl (hb hby d5_32) rfl k_) ?_
    show Runs _ _ _ _ T15 (mkF m 33 #[.val (.ref r0), .val (.long y0), .second, .val (.long y2), .second, .val (.int (1 : Int32)), .val (.int (1 : Int32))] [(.int ((2 : Int32) + (1 : Int32)))])
    rw [show ((2 : Int32) + (1 : Int32)) = (3 : Int32) from by decide]
    show Runs _ _ _ _ T15 (mkF m 33 #[.val (.ref r0), .val (.long y0), .second, .val (.long y2), .second, .val (.int (1 : Int32)), .val (.int (1 : Int32))] [(.int (3 : Int32))])
    refine Runs.back (fun t_ k_ => XS.aloadN X15.here hx rfl (hb hby d5_33) rfl rfl k_) ?_
    show Runs _ _ _ _ T15 (mkF m 34 #[.val (.ref r0), .val (.long y0), .second, .val (.long y2), .second, .val (.int (1 : Int32)), .val (.int (1 : Int32))] [(.ref r0), (.int (3 : Int32))])
    obtain ⟨T16, X16, e16, st16⟩ := getF X15 hx hZ hown (host := "") (Or.inl (hw _ (List.mem_of_getElem? (i := 22) rfl))) Via.refl e15 f15_Fld_2 (g := (mkF m 34 #[.val (.ref r0), .val (.long y0), .second, .val (.long y2), .second, .val (.int (1 : Int32)), .val (.int (1 : Int32))] [(.ref r0), (.int (3 : Int32))])) rfl rfl (hb hby d5_34)
    refine Runs.back st16 ?_
    show Runs _ _ _ _ T16 (mkF m 37 #[.val (.ref r0), .val (.long y0), .second, .val (.long y2), .second, .val (.int (1 : Int32)), .val (.int (1 : Int32))] [(.int (2 : Int32)), (.int (3 : Int32))])
    refine Runs.back (fun t_ k_ => XS.icmpYes X16.here hx rfl (pc0 := 37) (pc' := 118) rfl (hb hby d5_37) rfl (flt (show ¬ ((3 : Int32) < (2 : Int32)) from (by decide))).2.1 (by decide) (by decide) k_) ?_
    show Runs _ _ _ _ T16 (mkF m 118 #[.val (.ref r0), .val (.long y0), .second, .val (.long y2), .second, .val (.int (1 : Int32)), .val (.int (1 : Int32))] [])
    refine Runs.back (fun t_ k_ => XS.aloadN X16.here hx rfl (hb hby d5_118) rfl rfl k_) ?_
    show Runs _ _ _ _ T16 (mkF m 119 #[.val (.ref r0), .val (.long y0), .second, .val (.long y2), .second, .val (.int (1 : Int32)), .val (.int (1 : Int32))] [(.ref r0)])
    obtain ⟨T17, X17, e17, st17⟩ := getF X16 hx hZ hown (host := "") (Or.inl (hw _ (List.mem_of_getElem? (i := 15) rfl))) Via.refl e16 f15_Fld_1 (g := (mkF m 119 #[.val (.ref r0), .val (.long y0), .second, .val (.long y2), .second, .val (.int (1 : Int32)), .val (.int (1 : Int32))] [(.ref r0)])) rfl rfl (hb hby d5_119)
    refine Runs.back st17 ?_
    show Runs _ _ _ _ T17 (mkF m 122 #[.val (.ref r0), .val (.long y0), .second, .val (.long y2), .second, .val (.int (1 : Int32)), .val (.int (1 : Int32))] [(.ref arr)])
    refine Runs.back (fun t_ k_ => XS.iload X17.here hx rfl (hb hby d5_122) rfl k_) ?_
    show Runs _ _ _ _ T17 (mkF m 124 #[.val (.ref r0), .val (.long y0), .second, .val (.long y2), .second, .val (.int (1 : Int32)), .val (.int (1 : Int32))] [(.int (1 : Int32)), (.ref arr)])
    refine Runs.back (fun t_ k_ => XS.lloadN X17.here hx rfl (hb hby d5_124) rfl k_) ?_
    show Runs _ _ _ _ T17 (mkF m 125 #[.val (.ref r0), .val (.long y0), .second, .val (.long y2), .second, .val (.int (1 : Int32)), .val (.int (1 : Int32))] [(.long y2), (.int (1 : Int32)), (.ref arr)])
    obtain ⟨cl18, Ar18, S18, Hs18⟩ := id f15_Arr_3
    obtain ⟨T18, h18, X18, e18, W18, st18⟩ := stJ X17 hx hZ e17 Ar18 (j := (1 : Int32)) (by rw [S18]; exact (inbO (by decide : ¬ (1 : Int32) < 0) (rfl : ((1 : Int32)).toNatClampNeg = 1) (show 1 < 4 from (by first | omega | decide)))) (g := (mkF m 125 #[.val (.ref r0), .val (.long y0), .second, .val (.long y2), .second, .val (.int (1 : Int32)), .val (.int (1 : Int32))] [(.long y2), (.int (1 : Int32)), (.ref arr)])) rfl rfl (hb hby d5_125)
    have N18 := Fr.snoc X18 N15 g_arr
    obtain ⟨L18, X18, N18⟩ := hideL X18 N18
    rw [(rfl : ((1 : Int32)).toNatClampNeg = 1)] at W18
    have f18_Exa_0 : Exa Z h18 r0 "com/example/tradewheel/tradewheel/PartQueue" := Exa.wr W18 f15_Exa_0
    have f18_Fld_1 : Fld Z h18 r0 "com/example/tradewheel/tradewheel/PartQueue" "heap" "[J" (.ref arr) := Fld.other W18 f15_Fld_1 (Or.inl ne_r0_arr)
    have f18_Fld_2 : Fld Z h18 r0 "com/example/tradewheel/tradewheel/PartQueue" "size" "I" (.int (2 : Int32)) := Fld.other W18 f15_Fld_2 (Or.inl ne_r0_arr)
    have f18_Arr_3 : OArr Z h18 arr .long 4 (fun i => if i = 1 then (Value.long y2) else (fun i => if i = 0 then (Value.long y1) else fb i) i) := f15_Arr_3.set W18
    have KK18 : Keep h0 h18 [r0, arr] := Keep.wr KK15 W18 (Or.inl (List.mem_of_getElem? (i := 1) rfl))
    have Z18 : n0 ≤ h18.size := Nat.le_trans (Z15) (Nat.le_of_eq W18.size.symm)
    refine Runs.back st18 ?_
    show Runs _ _ _ _ T18 (mkF m 126 #[.val (.ref r0), .val (.long y0), .second, .val (.long y2), .second, .val (.int (1 : Int32)), .val (.int (1 : Int32))] [])
    refine Runs.back (fun t_ k_ => XS.lloadN X18.here hx rfl (hb hby d5_126) rfl k_) ?_
    show Runs _ _ _ _ T18 (mkF m 127 #[.val (.ref r0), .val (.long y0), .second, .val (.long y2), .second, .val (.int (1 : Int32)), .val (.int (1 : Int32))] [(.long y0)])
    refine Runs.back (fun t_ k_ => XS.bipush X18.here hx rfl (hb hby d5_127) k_) ?_
    show Runs _ _ _ _ T18 (mkF m 129 #[.val (.ref r0), .val (.long y0), .second, .val (.long y2), .second, .val (.int (1 : Int32)), .val (.int (1 : Int32))] [(.int (32 : Int32)), (.long y0)])
    refine Runs.back (fun t_ k_ => XS.lushr X18.here hx rfl (hb hby d5_129) rfl k_) ?_
    show Runs _ _ _ _ T18 (mkF m 130 #[.val (.ref r0), .val (.long y0), .second, .val (.long y2), .second, .val (.int (1 : Int32)), .val (.int (1 : Int32))] [(.long ((y0.toUInt64 >>> ((32 : Int32) &&& 0x3f).toInt64.toUInt64).toInt64))])
    refine Runs.back (fun t_ k_ => XS.l2i X18.here hx rfl (hb hby d5_130) rfl k_) ?_
    show Runs _ _ _ _ T18 (mkF m 131 #[.val (.ref r0), .val (.long y0), .second, .val (.long y2), .second, .val (.int (1 : Int32)), .val (.int (1 : Int32))] [(.int (((y0.toUInt64 >>> ((32 : Int32) &&& 0x3f).toInt64.toUInt64).toInt64).toInt32))])
    obtain ⟨fs, hr, hrun, hended, hW, hsame⟩ := X18.leave (v := some (.int (((y0.toUInt64 >>> ((32 : Int32) &&& 0x3f).toInt64.toUInt64).toInt64).toInt32))) (fun h => by rw [Bd.returns] at h; cases h)
    exact ⟨_, _, (retI X18 hx Bd.returns (hb hby d5_131) hr), hrun, hended, _, _, rfl, (by show Q5s3 Z r0 arr fb y0 y1 y2 h0 n0 _ T18.heap _; rw [e18]; exact ⟨rfl, N18, KK18, f18_Exa_0, f18_Fld_1, f18_Fld_2, _, y1, y2, f18_Arr_3, rfl, rfl, Or.inl ⟨c91_11, rfl, rfl⟩⟩), ⟨_, rfl⟩, hW, hsame.mono (by decide) (by decide)⟩
  · refine Runs.back (fun t_ k_ => XS.ifNo X9.here hx rfl (hb hby d5_91) rfl ((if0 _ _).trans (flt (lcF c91_11)).1) k_) ?_
    show Runs _ _ _ _ T9 (mkF m 94 #[.val (.ref r0), .val (.long y0), .second, .val (.long y2), .second, .val (.int (0 : Int32)), .val (.int (1 : Int32))] [])
    refine Runs.back (fun t_ k_ => XS.goto X9.here hx rfl (pc0 := 94) (pc' := 118) rfl (hb hby d5_94) (by decide) (by decide) k_) ?_
    show Runs _ _ _ _ T9 (mkF m 118 #[.val (.ref r0), .val (.long y0), .second, .val (.long y2), .second, .val (.int (0 : Int32)), .val (.int (1 : Int32))] [])
    refine Runs.back (fun t_ k_ => XS.aloadN X9.here hx rfl (hb hby d5_118) rfl rfl k_) ?_
    show Runs _ _ _ _ T9 (mkF m 119 #[.val (.ref r0), .val (.long y0), .second, .val (.long y2), .second, .val (.int (0 : Int32)), .val (.int (1 : Int32))] [(.ref r0)])
    obtain ⟨T19, X19, e19, st19⟩ := getF X9 hx hZ hown (host := "") (Or.inl (hw _ (List.mem_of_getElem? (i := 15) rfl))) Via.refl e9 f5_Fld_1 (g := (mkF m 119 #[.val (.ref r0), .val (.long y0), .second, .val (.long y2), .second, .val (.int (0 : Int32)), .val (.int (1 : Int32))] [(.ref r0)])) rfl rfl (hb hby d5_119)
    refine Runs.back st19 ?_
    show Runs _ _ _ _ T19 (mkF m 122 #[.val (.ref r0), .val (.long y0), .second, .val (.long y2), .second, .val (.int (0 : Int32)), .val (.int (1 : Int32))] [(.ref arr)])
    refine Runs.back (fun t_ k_ => XS.iload X19.here hx rfl (hb hby d5_122) rfl k_) ?_
    show Runs _ _ _ _ T19 (mkF m 124 #[.val (.ref r0), .val (.long y0), .second, .val (.long y2), .second, .val (.int (0 : Int32)), .val (.int (1 : Int32))] [(.int (0 : Int32)), (.ref arr)])
    refine Runs.back (fun t_ k_ => XS.lloadN X19.here hx rfl (hb hby d5_124) rfl k_) ?_
    show Runs _ _ _ _ T19 (mkF m 125 #[.val (.ref r0), .val (.long y0), .second, .val (.long y2), .second, .val (.int (0 : Int32)), .val (.int (1 : Int32))] [(.long y2), (.int (0 : Int32)), (.ref arr)])
    obtain ⟨cl20, Ar20, S20, Hs20⟩ := id f5_Arr_3
    obtain ⟨T20, h20, X20, e20, W20, st20⟩ := stJ X19 hx hZ e19 Ar20 (j := (0 : Int32)) (by rw [S20]; exact (inbO (by decide : ¬ (0 : Int32) < 0) (rfl : ((0 : Int32)).toNatClampNeg = 0) (show 0 < 4 from (by first | omega | decide)))) (g := (mkF m 125 #[.val (.ref r0), .val (.long y0), .second, .val (.long y2), .second, .val (.int (0 : Int32)), .val (.int (1 : Int32))] [(.long y2), (.int (0 : Int32)), (.ref arr)])) rfl rfl (hb hby d5_125)
    have N20 := Fr.snoc X20 N5 g_arr
    obtain ⟨L20, X20, N20⟩ := hideL X20 N20
    rw [(rfl : ((0 : Int32)).toNatClampNeg = 0)] at W20
    have f20_Exa_0 : Exa Z h20 r0 "com/example/tradewheel/tradewheel/PartQueue" := Exa.wr W20 f5_Exa_0
    have f20_Fld_1 : Fld Z h20 r0 "com/example/tradewheel/tradewheel/PartQueue" "heap" "[J" (.ref arr) := Fld.other W20 f5_Fld_1 (Or.inl ne_r0_arr)
    have f20_Fld_2 : Fld Z h20 r0 "com/example/tradewheel/tradewheel/PartQueue" "size" "I" (.int (2 : Int32)) := Fld.other W20 f5_Fld_2 (Or.inl ne_r0_arr)
    have f20_Arr_3 : OArr Z h20 arr .long 4 (fun i => if i = 0 then (Value.long y2) else fb i) := f5_Arr_3.set W20
    have KK20 : Keep h0 h20 [r0, arr] := Keep.wr KK5 W20 (Or.inl (List.mem_of_getElem? (i := 1) rfl))
    have Z20 : n0 ≤ h20.size := Nat.le_trans (Z5) (Nat.le_of_eq W20.size.symm)
    refine Runs.back st20 ?_
    show Runs _ _ _ _ T20 (mkF m 126 #[.val (.ref r0), .val (.long y0), .second, .val (.long y2), .second, .val (.int (0 : Int32)), .val (.int (1 : Int32))] [])
    refine Runs.back (fun t_ k_ => XS.lloadN X20.here hx rfl (hb hby d5_126) rfl k_) ?_
    show Runs _ _ _ _ T20 (mkF m 127 #[.val (.ref r0), .val (.long y0), .second, .val (.long y2), .second, .val (.int (0 : Int32)), .val (.int (1 : Int32))] [(.long y0)])
    refine Runs.back (fun t_ k_ => XS.bipush X20.here hx rfl (hb hby d5_127) k_) ?_
    show Runs _ _ _ _ T20 (mkF m 129 #[.val (.ref r0), .val (.long y0), .second, .val (.long y2), .second, .val (.int (0 : Int32)), .val (.int (1 : Int32))] [(.int (32 : Int32)), (.long y0)])
    refine Runs.back (fun t_ k_ => XS.lushr X20.here hx rfl (hb hby d5_129) rfl k_) ?_
    show Runs _ _ _ _ T20 (mkF m 130 #[.val (.ref r0), .val (.long y0), .second, .val (.long y2), .second, .val (.int (0 : Int32)), .val (.int (1 : Int32))] [(.long ((y0.toUInt64 >>> ((32 : Int32) &&& 0x3f).toInt64.toUInt64).toInt64))])
    refine Runs.back (fun t_ k_ => XS.l2i X20.here hx rfl (hb hby d5_130) rfl k_) ?_
    show Runs _ _ _ _ T20 (mkF m 131 #[.val (.ref r0), .val (.long y0), .second, .val (.long y2), .second, .val (.int (0 : Int32)), .val (.int (1 : Int32))] [(.int (((y0.toUInt64 >>> ((32 : Int32) &&& 0x3f).toInt64.toUInt64).toInt64).toInt32))])
    obtain ⟨fs, hr, hrun, hended, hW, hsame⟩ := X20.leave (v := some (.int (((y0.toUInt64 >>> ((32 : Int32) &&& 0x3f).toInt64.toUInt64).toInt64).toInt32))) (fun h => by rw [Bd.returns] at h; cases h)
    exact ⟨_, _, (retI X20 hx Bd.returns (hb hby d5_131) hr), hrun, hended, _, _, rfl, (by show Q5s3 Z r0 arr fb y0 y1 y2 h0 n0 _ T20.heap _; rw [e20]; exact ⟨rfl, N20, KK20, f20_Exa_0, f20_Fld_1, f20_Fld_2, _, y2, y1, f20_Arr_3, rfl, hy1, Or.inr ⟨c91_11, rfl, rfl⟩⟩), ⟨_, rfl⟩, hW, hsame.mono (by decide) (by decide)⟩
theorem pn_5s2 : plainName "com/example/tradewheel/tradewheel/PartQueue" = true := by first | (simp [plainName, overriddenIn]; done) | decide +kernel
theorem ef_5s2 (m : MethodId) (r0 : Addr) : entryFrame m #[(.ref r0)] 7 = mkF m 0 #[.val (.ref r0), .unset, .unset, .unset, .unset, .unset, .unset] [] := by first | (simp [entryFrame, mkF, argsToLocals, Value.category]; done) | rfl
def Q5s2 (Z : State) (r0 : Addr) (arr : Addr) (fb : Nat → Value) (y0 y1 : Int64) (h0 : Heap) (n0 : Nat) (v : Option Value) (h : Heap) (L : List Loc) : Prop := v = some (.int (hiI y0)) ∧ Fr n0 L ∧ Keep h0 h [r0, arr] ∧ Exa Z h r0 "com/example/tradewheel/tradewheel/PartQueue" ∧ Fld Z h r0 "com/example/tradewheel/tradewheel/PartQueue" "heap" "[J" (.ref arr) ∧ Fld Z h r0 "com/example/tradewheel/tradewheel/PartQueue" "size" "I" (.int (1 : Int32)) ∧ ∃ (f : Nat → Value) (u0 : Int64), OArr Z h arr .long 4 f ∧ f 0 = .long u0 ∧ RemR2 y0 y1 u0
set_option maxRecDepth 65536 in
set_option maxHeartbeats 40000000 in
theorem rm5s2 (l : Launch) (Z : State) (a0 : Array Value) (hw : ∀ d ∈ tables_1, d.before a0 Z = true) (ws : List Jvm.Cond) (r0 : Addr) (arr : Addr) (fb : Nat → Value) (y0 y1 : Int64) (h0 : Heap) (n0 : Nat) (Z0 : n0 ≤ h0.size) (E_r0 : Exa Z h0 r0 "com/example/tradewheel/tradewheel/PartQueue") (F1 : Fld Z h0 r0 "com/example/tradewheel/tradewheel/PartQueue" "heap" "[J" (.ref arr)) (F2 : Fld Z h0 r0 "com/example/tradewheel/tradewheel/PartQueue" "size" "I" (.int (2 : Int32))) (A1 : OArr Z h0 arr .long 4 fb) (ne_r0_arr : r0 ≠ arr) (g_r0 : n0 ≤ r0) (g_arr : n0 ≤ arr) (hy0 : fb 0 = .long y0) (hy1 : fb 1 = .long y1) :
    MetFree l (⟨"com/example/tradewheel/tradewheel/PartQueue", "remove", "()I"⟩ : MethodName) (head1 (Jvm.Cond.code (⟨"com/example/tradewheel/tradewheel/PartQueue", "remove", "()I"⟩ : MethodName) prog_22_method_4_code 7 (some .int) :: ws) ({ frames := 0, cells := 0, slots := 0, locals := 0 } : Room)) (fun a U => a = #[(.ref r0)] ∧ Z.Warmed39 U.vm ∧ U.heap = h0) (fun _ _ _ _ _ => True) (fun _ U o U' => ∃ v L, o = .returned v ∧ Q5s2 Z r0 arr fb y0 y1 h0 n0 v U'.heap L ∧ FrameEnd U o U' L ({ frames := 0, cells := 0, slots := 0, locals := 0 } : Room).cells ({ frames := 0, cells := 0, slots := 0, locals := 0 } : Room).slots) := by
  refine MetFree.of_bodySF (plainFor_of_name pn_5s2) hisR ?_
  intro p e s m args below meth c s₁ Bd hml0 hP hK
  obtain ⟨rfl, hZ, hh⟩ := hP
  have hx := Bd.exec
  have hby := Bd.bytes
  have hml : c.maxLocals = 7 := hml0
  have hown : s.vm.findClass "com/example/tradewheel/tradewheel/PartQueue" = some m.cls := findClass_of_methodNamed Bd.named
  have hnm := (name_of_methodNamed Bd.named Bd.method).1
  have X0 : Stand p l e ({ frames := 0, cells := 0, slots := 0, locals := 0 } : Room) s m #[(.ref r0)] below meth c s₁ [] 0 0 := Stand.of_body Bd
  have e0 : s₁.heap = h0 := by rw [← hh, Bd.state]; rfl
  have N0 := Fr.nil n0
  refine Runs.enter (ef_5s2 m r0) ?_
  show Runs _ _ _ _ s₁ (mkF m 0 #[.val (.ref r0), .unset, .unset, .unset, .unset, .unset, .unset] [])
  refine Runs.back (fun t_ k_ => XS.aloadN X0.here hx rfl (hb hby d5_0) rfl rfl k_) ?_
  show Runs _ _ _ _ s₁ (mkF m 1 #[.val (.ref r0), .unset, .unset, .unset, .unset, .unset, .unset] [(.ref r0)])
  obtain ⟨T1, X1, e1, st1⟩ := getF X0 hx hZ hown (host := "") (Or.inl (hw _ (List.mem_of_getElem? (i := 15) rfl))) Via.refl e0 F1 (g := (mkF m 1 #[.val (.ref r0), .unset, .unset, .unset, .unset, .unset, .unset] [(.ref r0)])) rfl rfl (hb hby d5_1)
  refine Runs.back st1 ?_
  show Runs _ _ _ _ T1 (mkF m 4 #[.val (.ref r0), .unset, .unset, .unset, .unset, .unset, .unset] [(.ref arr)])
  refine Runs.back (fun t_ k_ => XS.iconst X1.here hx rfl (hb hby d5_4) k_) ?_
  show Runs _ _ _ _ T1 (mkF m 5 #[.val (.ref r0), .unset, .unset, .unset, .unset, .unset, .unset] [(.int (0 : Int32)), (.ref arr)])
  obtain ⟨cl2, Ar2, S2, Hs2⟩ := id A1
  have at2 : cl2.slots[((0 : Int32)).toNatClampNeg]? = some (.long y0) := readO Hs2 (rfl : ((0 : Int32)).toNatClampNeg = 0) (show 0 < 4 from (by first | omega | decide)) (hy0)
  refine Runs.back (fun t_ k_ => X1.laload hx (j := (0 : Int32)) (v := (.long y0)) (by rw [e1]; exact Ar2.1) (State.isArrayOf_alike hZ.alike Ar2.2.1) Ar2.2.2 (by rw [S2]; exact (inbO (by decide : ¬ (0 : Int32) < 0) (rfl : ((0 : Int32)).toNatClampNeg = 0) (show 0 < 4 from (by first | omega | decide)))) at2 (g := (mkF m 5 #[.val (.ref r0), .unset, .unset, .unset, .unset, .unset, .unset] [(.int (0 : Int32)), (.ref arr)])) rfl rfl (hb hby d5_5) _ k_) ?_
  show Runs _ _ _ _ T1 (mkF m 6 #[.val (.ref r0), .unset, .unset, .unset, .unset, .unset, .unset] [(.long y0)])
  refine Runs.back (fun t_ k_ => XS.lstoreN X1.here hx rfl (hb hby d5_6) rfl (l' := #[.val (.ref r0), .val (.long y0), .second, .unset, .unset, .unset, .unset]) rfl k_) ?_
  show Runs _ _ _ _ T1 (mkF m 7 #[.val (.ref r0), .val (.long y0), .second, .unset, .unset, .unset, .unset] [])
  refine Runs.back (fun t_ k_ => XS.aloadN X1.here hx rfl (hb hby d5_7) rfl rfl k_) ?_
  show Runs _ _ _ _ T1 (mkF m 8 #[.val (.ref r0), .val (.long y0), .second, .unset, .unset, .unset, .unset] [(.ref r0)])
  obtain ⟨T3, X3, e3, st3⟩ := getF X1 hx hZ hown (host := "") (Or.inl (hw _ (List.mem_of_getElem? (i := 15) rfl))) Via.refl e1 F1 (g := (mkF m 8 #[.val (.ref r0), .val (.long y0), .second, .unset, .unset, .unset, .unset] [(.ref r0)])) rfl rfl (hb hby d5_8)
  refine Runs.back st3 ?_
  show Runs _ _ _ _ T3 (mkF m 11 #[.val (.ref r0), .val (.long y0), .second, .unset, .unset, .unset, .unset] [(.ref arr)])
  refine Runs.back (fun t_ k_ => XS.aloadN X3.here hx rfl (hb hby d5_11) rfl rfl k_) ?_
  show Runs _ _ _ _ T3 (mkF m 12 #[.val (.ref r0), .val (.long y0), .second, .unset, .unset, .unset, .unset] [(.ref r0), (.ref arr)])
  refine Runs.back (fun t_ k_ => XS.dup X3.here hx rfl (hb hby d5_12) rfl rfl k_) ?_
  show Runs _ _ _ _ T3 (mkF m 13 #[.val (.ref r0), .val (.long y0), .second, .unset, .unset, .unset, .unset] [(.ref r0), (.ref r0), (.ref arr)])
  obtain ⟨T4, X4, e4, st4⟩ := getF X3 hx hZ hown (host := "") (Or.inl (hw _ (List.mem_of_getElem? (i := 22) rfl))) Via.refl e3 F2 (g := (mkF m 13 #[.val (.ref r0), .val (.long y0), .second, .unset, .unset, .unset, .unset] [(.ref r0), (.ref r0), (.ref arr)])) rfl rfl (hb hby d5_13)
  refine Runs.back st4 ?_
  show Runs _ _ _ _ T4 (mkF m 16 #[.val (.ref r0), .val (.long y0), .second, .unset, .unset, .unset, .unset] [(.int (2 : Int32)), (.ref r0), (.ref arr)])
  refine Runs.back (fun t_ k_ => XS.iconst X4.here hx rfl (hb hby d5_16) k_) ?_
  show Runs _ _ _ _ T4 (mkF m 17 #[.val (.ref r0), .val (.long y0), .second, .unset, .unset, .unset, .unset] [(.int (1 : Int32)), (.int (2 : Int32)), (.ref r0), (.ref arr)])
  refine Runs.back (fun t_ k_ => XS.isub X4.here hx rfl (hb hby d5_17) rfl k_) ?_
  show Runs _ _ _ _ T4 (mkF m 18 #[.val (.ref r0), .val (.long y0), .second, .unset, .unset, .unset, .unset] [(.int ((2 : Int32) - (1 : Int32))), (.ref r0), (.ref arr)])
  rw [show ((2 : Int32) - (1 : Int32)) = (1 : Int32) from by decide]
  show Runs _ _ _ _ T4 (mkF m 18 #[.val (.ref r0), .val (.long y0), .second, .unset, .unset, .unset, .unset] [(.int (1 : Int32)), (.ref r0), (.ref arr)])
  refine Runs.back (fun t_ k_ => XS.dupX1 X4.here hx rfl (hb hby d5_18) rfl rfl rfl k_) ?_
  show Runs _ _ _ _ T4 (mkF m 19 #[.val (.ref r0), .val (.long y0), .second, .unset, .unset, .unset, .unset] [(.int (1 : Int32)), (.ref r0), (.int (1 : Int32)), (.ref arr)])
  obtain ⟨T5, h5, X5, e5, W5, st5⟩ := putF X4 hx hZ hown (host := "") (Or.inl (hw _ (List.mem_of_getElem? (i := 22) rfl))) Via.refl e4 F2 E_r0 (Or.inl (hw _ (List.mem_of_getElem? (i := 23) rfl))) (hw _ (List.mem_of_getElem? (i := 6) rfl)) (ty := .int) (by decide) rfl rfl (g := (mkF m 19 #[.val (.ref r0), .val (.long y0), .second, .unset, .unset, .unset, .unset] [(.int (1 : Int32)), (.ref r0), (.int (1 : Int32)), (.ref arr)])) rfl rfl (hb hby d5_19)
  have f5_Exa_0 : Exa Z h5 r0 "com/example/tradewheel/tradewheel/PartQueue" := Exa.wr W5 E_r0
  have f5_Fld_1 : Fld Z h5 r0 "com/example/tradewheel/tradewheel/PartQueue" "heap" "[J" (.ref arr) := Fld.other W5 F1 (Or.inr (slot_ne (Or.inr (hw _ (List.mem_of_getElem? (i := 16) rfl))) (Or.inl (hw _ (List.mem_of_getElem? (i := 23) rfl))) (by decide) (t := (.array .long)) (t' := .int) (by decide) (by decide)))
  have f5_Fld_2 : Fld Z h5 r0 "com/example/tradewheel/tradewheel/PartQueue" "size" "I" (.int (1 : Int32)) := Fld.same W5 F2
  have f5_Arr_3 : OArr Z h5 arr .long 4 fb := A1.other W5 (Ne.symm ne_r0_arr)
  have N5 := Fr.snoc X5 N0 g_r0
  obtain ⟨L5, X5, N5⟩ := hideL X5 N5
  have KK5 : Keep h0 h5 [r0, arr] := Keep.wr (Keep.refl h0 [r0, arr]) W5 (Or.inl (List.mem_of_getElem? (i := 0) rfl))
  have Z5 : n0 ≤ h5.size := Nat.le_trans (Z0) (Nat.le_of_eq W5.size.symm)
  refine Runs.back st5 ?_
  show Runs _ _ _ _ T5 (mkF m 22 #[.val (.ref r0), .val (.long y0), .second, .unset, .unset, .unset, .unset] [(.int (1 : Int32)), (.ref arr)])
  obtain ⟨cl6, Ar6, S6, Hs6⟩ := id f5_Arr_3
  have at6 : cl6.slots[((1 : Int32)).toNatClampNeg]? = some (.long y1) := readO Hs6 (rfl : ((1 : Int32)).toNatClampNeg = 1) (show 1 < 4 from (by first | omega | decide)) (hy1)
  refine Runs.back (fun t_ k_ => X5.laload hx (j := (1 : Int32)) (v := (.long y1)) (by rw [e5]; exact Ar6.1) (State.isArrayOf_alike hZ.alike Ar6.2.1) Ar6.2.2 (by rw [S6]; exact (inbO (by decide : ¬ (1 : Int32) < 0) (rfl : ((1 : Int32)).toNatClampNeg = 1) (show 1 < 4 from (by first | omega | decide)))) at6 (g := (mkF m 22 #[.val (.ref r0), .val (.long y0), .second, .unset, .unset, .unset, .unset] [(.int (1 : Int32)), (.ref arr)])) rfl rfl (hb hby d5_22) _ k_) ?_
  show Runs _ _ _ _ T5 (mkF m 23 #[.val (.ref r0), .val (.long y0), .second, .unset, .unset, .unset, .unset] [(.long y1)])
  refine Runs.back (fun t_ k_ => XS.lstoreN X5.here hx rfl (hb hby d5_23) rfl (l' := #[.val (.ref r0), .val (.long y0), .second, .val (.long y1), .second, .unset, .unset]) rfl k_) ?_
  show Runs _ _ _ _ T5 (mkF m 24 #[.val (.ref r0), .val (.long y0), .second, .val (.long y1), .second, .unset, .unset] [])
  refine Runs.back (fun t_ k_ => XS.iconst X5.here hx rfl (hb hby d5_24) k_) ?_
  show Runs _ _ _ _ T5 (mkF m 25 #[.val (.ref r0), .val (.long y0), .second, .val (.long y1), .second, .unset, .unset] [(.int (0 : Int32))])
  refine Runs.back (fun t_ k_ => XS.istore X5.here hx rfl (hb hby d5_25) rfl (l' := #[.val (.ref r0), .val (.long y0), .second, .val (.long y1), .second, .val (.int (0 : Int32)), .unset]) rfl k_) ?_
  show Runs _ _ _ _ T5 (mkF m 27 #[.val (.ref r0), .val (.long y0), .second, .val (.long y1), .second, .val (.int (0 : Int32)), .unset] [])
  refine Runs.back (fun t_ k_ => XS.iconst X5.here hx rfl (hb hby d5_27) k_) ?_
  show Runs _ _ _ _ T5 (mkF m 28 #[.val (.ref r0), .val (.long y0), .second, .val (.long y1), .second, .val (.int (0 : Int32)), .unset] [(.int (2 : Int32))])
  refine Runs.back (fun t_ k_ => XS.iload X5.here hx rfl (hb hby d5_28) rfl k_) ?_
  show Runs _ _ _ _ T5 (mkF m 30 #[.val (.ref r0), .val (.long y0), .second, .val (.long y1), .second, .val (.int (0 : Int32)), .unset] [(.int (0 : Int32)), (.int (2 : Int32))])
  refine Runs.back (fun t_ k_ => XS.imul X5.here hx rfl (hb hby d5_30) rfl k_) ?_
  show Runs _ _ _ _ T5 (mkF m 31 #[.val (.ref r0), .val (.long y0), .second, .val (.long y1), .second, .val (.int (0 : Int32)), .unset] [(.int ((2 : Int32) * (0 : Int32)))])
  rw [show ((2 : Int32) * (0 : Int32)) = (0 : Int32) from by decide]
  show Runs _ _ _ _ T5 (mkF m 31 #[.val (.ref r0), .val (.long y0), .second, .val (.long y1), .second, .val (.int (0 : Int32)), .unset] [(.int (0 : Int32))])
  refine Runs.back (fun t_ k_ => XS.iconst X5.here hx rfl (hb hby d5_31) k_) ?_
  show Runs _ _ _ _ T5 (mkF m 32 #[.val (.ref r0), .val (.long y0), .second, .val (.long y1), .second, .val (.int (0 : Int32)), .unset] [(.int (1 : Int32)), (.int (0 : Int32))])
  refine Runs.back (fun t_ k_ => XS.iadd X5.here hx rfl (hb hby d5_32) rfl k_) ?_
  show Runs _ _ _ _ T5 (mkF m 33 #[.val (.ref r0), .val (.long y0), .second, .val (.long y1), .second, .val (.int (0 : Int32)), .unset] [(.int ((0 : Int32) + (1 : Int32)))])
  rw [show ((0 : Int32) + (1 : Int32)) = (1 : Int32) from by decide]
  show Runs _ _ _ _ T5 (mkF m 33 #[.val (.ref r0), .val (.long y0), .second, .val (.long y1), .second, .val (.int (0 : Int32)), .unset] [(.int (1 : Int32))])
  refine Runs.back (fun t_ k_ => XS.aloadN X5.here hx rfl (hb hby d5_33) rfl rfl k_) ?_
  show Runs _ _ _ _ T5 (mkF m 34 #[.val (.ref r0), .val (.long y0), .second, .val (.long y1), .second, .val (.int (0 : Int32)), .unset] [(.ref r0), (.int (1 : Int32))])
  obtain ⟨T7, X7, e7, st7⟩ := getF X5 hx hZ hown (host := "") (Or.inl (hw _ (List.mem_of_getElem? (i := 22) rfl))) Via.refl e5 f5_Fld_2 (g := (mkF m 34 #[.val (.ref r0), .val (.long y0), .second, .val (.long y1), .second, .val (.int (0 : Int32)), .unset] [(.ref r0), (.int (1 : Int32))])) rfl rfl (hb hby d5_34)
  refine Runs.back st7 ?_
  show Runs _ _ _ _ T7 (mkF m 37 #[.val (.ref r0), .val (.long y0), .second, .val (.long y1), .second, .val (.int (0 : Int32)), .unset] [(.int (1 : Int32)), (.int (1 : Int32))])
  refine Runs.back (fun t_ k_ => XS.icmpYes X7.here hx rfl (pc0 := 37) (pc' := 118) rfl (hb hby d5_37) rfl (flt (show ¬ ((1 : Int32) < (1 : Int32)) from (by decide))).2.1 (by decide) (by decide) k_) ?_
  show Runs _ _ _ _ T7 (mkF m 118 #[.val (.ref r0), .val (.long y0), .second, .val (.long y1), .second, .val (.int (0 : Int32)), .unset] [])
  refine Runs.back (fun t_ k_ => XS.aloadN X7.here hx rfl (hb hby d5_118) rfl rfl k_) ?_
  show Runs _ _ _ _ T7 (mkF m 119 #[.val (.ref r0), .val (.long y0), .second, .val (.long y1), .second, .val (.int (0 : Int32)), .unset] [(.ref r0)])
  obtain ⟨T8, X8, e8, st8⟩ := getF X7 hx hZ hown (host := "") (Or.inl (hw _ (List.mem_of_getElem? (i := 15) rfl))) Via.refl e7 f5_Fld_1 (g := (mkF m 119 #[.val (.ref r0), .val (.long y0), .second, .val (.long y1), .second, .val (.int (0 : Int32)), .unset] [(.ref r0)])) rfl rfl (hb hby d5_119)
  refine Runs.back st8 ?_
  show Runs _ _ _ _ T8 (mkF m 122 #[.val (.ref r0), .val (.long y0), .second, .val (.long y1), .second, .val (.int (0 : Int32)), .unset] [(.ref arr)])
  refine Runs.back (fun t_ k_ => XS.iload X8.here hx rfl (hb hby d5_122) rfl k_) ?_
  show Runs _ _ _ _ T8 (mkF m 124 #[.val (.ref r0), .val (.long y0), .second, .val (.long y1), .second, .val (.int (0 : Int32)), .unset] [(.int (0 : Int32)), (.ref arr)])
  refine Runs.back (fun t_ k_ => XS.lloadN X8.here hx rfl (hb hby d5_124) rfl k_) ?_
  show Runs _ _ _ _ T8 (mkF m 125 #[.val (.ref r0), .val (.long y0), .second, .val (.long y1), .second, .val (.int (0 : Int32)), .unset] [(.long y1), (.int (0 : Int32)), (.ref arr)])
  obtain ⟨cl9, Ar9, S9, Hs9⟩ := id f5_Arr_3
  obtain ⟨T9, h9, X9, e9, W9, st9⟩ := stJ X8 hx hZ e8 Ar9 (j := (0 : Int32)) (by rw [S9]; exact (inbO (by decide : ¬ (0 : Int32) < 0) (rfl : ((0 : Int32)).toNatClampNeg = 0) (show 0 < 4 from (by first | omega | decide)))) (g := (mkF m 125 #[.val (.ref r0), .val (.long y0), .second, .val (.long y1), .second, .val (.int (0 : Int32)), .unset] [(.long y1), (.int (0 : Int32)), (.ref arr)])) rfl rfl (hb hby d5_125)
  have N9 := Fr.snoc X9 N5 g_arr
  obtain ⟨L9, X9, N9⟩ := hideL X9 N9
  rw [(rfl : ((0 : Int32)).toNatClampNeg = 0)] at W9
  have f9_Exa_0 : Exa Z h9 r0 "com/example/tradewheel/tradewheel/PartQueue" := Exa.wr W9 f5_Exa_0
  have f9_Fld_1 : Fld Z h9 r0 "com/example/tradewheel/tradewheel/PartQueue" "heap" "[J" (.ref arr) := Fld.other W9 f5_Fld_1 (Or.inl ne_r0_arr)
  have f9_Fld_2 : Fld Z h9 r0 "com/example/tradewheel/tradewheel/PartQueue" "size" "I" (.int (1 : Int32)) := Fld.other W9 f5_Fld_2 (Or.inl ne_r0_arr)
  have f9_Arr_3 : OArr Z h9 arr .long 4 (fun i => if i = 0 then (Value.long y1) else fb i) := f5_Arr_3.set W9
  have KK9 : Keep h0 h9 [r0, arr] := Keep.wr KK5 W9 (Or.inl (List.mem_of_getElem? (i := 1) rfl))
  have Z9 : n0 ≤ h9.size := Nat.le_trans (Z5) (Nat.le_of_eq W9.size.symm)
  refine Runs.back st9 ?_
  show Runs _ _ _ _ T9 (mkF m 126 #[.val (.ref r0), .val (.long y0), .second, .val (.long y1), .second, .val (.int (0 : Int32)), .unset] [])
  refine Runs.back (fun t_ k_ => XS.lloadN X9.here hx rfl (hb hby d5_126) rfl k_) ?_
  show Runs _ _ _ _ T9 (mkF m 127 #[.val (.ref r0), .val (.long y0), .second, .val (.long y1), .second, .val (.int (0 : Int32)), .unset] [(.long y0)])
  refine Runs.back (fun t_ k_ => XS.bipush X9.here hx rfl (hb hby d5_127) k_) ?_
  show Runs _ _ _ _ T9 (mkF m 129 #[.val (.ref r0), .val (.long y0), .second, .val (.long y1), .second, .val (.int (0 : Int32)), .unset] [(.int (32 : Int32)), (.long y0)])
  refine Runs.back (fun t_ k_ => XS.lushr X9.here hx rfl (hb hby d5_129) rfl k_) ?_
  show Runs _ _ _ _ T9 (mkF m 130 #[.val (.ref r0), .val (.long y0), .second, .val (.long y1), .second, .val (.int (0 : Int32)), .unset] [(.long ((y0.toUInt64 >>> ((32 : Int32) &&& 0x3f).toInt64.toUInt64).toInt64))])
  refine Runs.back (fun t_ k_ => XS.l2i X9.here hx rfl (hb hby d5_130) rfl k_) ?_
  show Runs _ _ _ _ T9 (mkF m 131 #[.val (.ref r0), .val (.long y0), .second, .val (.long y1), .second, .val (.int (0 : Int32)), .unset] [(.int (((y0.toUInt64 >>> ((32 : Int32) &&& 0x3f).toInt64.toUInt64).toInt64).toInt32))])
  obtain ⟨fs, hr, hrun, hended, hW, hsame⟩ := X9.leave (v := some (.int (((y0.toUInt64 >>> ((32 : Int32) &&& 0x3f).toInt64.toUInt64).toInt64).toInt32))) (fun h => by rw [Bd.returns] at h; cases h)
  exact ⟨_, _, (retI X9 hx Bd.returns (hb hby d5_131) hr), hrun, hended, _, _, rfl, (by show Q5s2 Z r0 arr fb y0 y1 h0 n0 _ T9.heap _; rw [e9]; exact ⟨rfl, N9, KK9, f9_Exa_0, f9_Fld_1, f9_Fld_2, _, y1, f9_Arr_3, rfl, rfl⟩), ⟨_, rfl⟩, hW, hsame.mono (by decide) (by decide)⟩
theorem pn_5s1 : plainName "com/example/tradewheel/tradewheel/PartQueue" = true := by first | (simp [plainName, overriddenIn]; done) | decide +kernel
theorem ef_5s1 (m : MethodId) (r0 : Addr) : entryFrame m #[(.ref r0)] 7 = mkF m 0 #[.val (.ref r0), .unset, .unset, .unset, .unset, .unset, .unset] [] := by first | (simp [entryFrame, mkF, argsToLocals, Value.category]; done) | rfl
def Q5s1 (Z : State) (r0 : Addr) (arr : Addr) (fb : Nat → Value) (y0 : Int64) (h0 : Heap) (n0 : Nat) (v : Option Value) (h : Heap) (L : List Loc) : Prop := v = some (.int (hiI y0)) ∧ Fr n0 L ∧ Keep h0 h [r0, arr] ∧ Exa Z h r0 "com/example/tradewheel/tradewheel/PartQueue" ∧ Fld Z h r0 "com/example/tradewheel/tradewheel/PartQueue" "heap" "[J" (.ref arr) ∧ Fld Z h r0 "com/example/tradewheel/tradewheel/PartQueue" "size" "I" (.int (0 : Int32)) ∧ ∃ (f : Nat → Value), OArr Z h arr .long 4 f ∧ True
set_option maxRecDepth 65536 in
set_option maxHeartbeats 40000000 in
theorem rm5s1 (l : Launch) (Z : State) (a0 : Array Value) (hw : ∀ d ∈ tables_1, d.before a0 Z = true) (ws : List Jvm.Cond) (r0 : Addr) (arr : Addr) (fb : Nat → Value) (y0 : Int64) (h0 : Heap) (n0 : Nat) (Z0 : n0 ≤ h0.size) (E_r0 : Exa Z h0 r0 "com/example/tradewheel/tradewheel/PartQueue") (F1 : Fld Z h0 r0 "com/example/tradewheel/tradewheel/PartQueue" "heap" "[J" (.ref arr)) (F2 : Fld Z h0 r0 "com/example/tradewheel/tradewheel/PartQueue" "size" "I" (.int (1 : Int32))) (A1 : OArr Z h0 arr .long 4 fb) (ne_r0_arr : r0 ≠ arr) (g_r0 : n0 ≤ r0) (g_arr : n0 ≤ arr) (hy0 : fb 0 = .long y0) :
    MetFree l (⟨"com/example/tradewheel/tradewheel/PartQueue", "remove", "()I"⟩ : MethodName) (head1 (Jvm.Cond.code (⟨"com/example/tradewheel/tradewheel/PartQueue", "remove", "()I"⟩ : MethodName) prog_22_method_4_code 7 (some .int) :: ws) ({ frames := 0, cells := 0, slots := 0, locals := 0 } : Room)) (fun a U => a = #[(.ref r0)] ∧ Z.Warmed39 U.vm ∧ U.heap = h0) (fun _ _ _ _ _ => True) (fun _ U o U' => ∃ v L, o = .returned v ∧ Q5s1 Z r0 arr fb y0 h0 n0 v U'.heap L ∧ FrameEnd U o U' L ({ frames := 0, cells := 0, slots := 0, locals := 0 } : Room).cells ({ frames := 0, cells := 0, slots := 0, locals := 0 } : Room).slots) := by
  refine MetFree.of_bodySF (plainFor_of_name pn_5s1) hisR ?_
  intro p e s m args below meth c s₁ Bd hml0 hP hK
  obtain ⟨rfl, hZ, hh⟩ := hP
  have hx := Bd.exec
  have hby := Bd.bytes
  have hml : c.maxLocals = 7 := hml0
  have hown : s.vm.findClass "com/example/tradewheel/tradewheel/PartQueue" = some m.cls := findClass_of_methodNamed Bd.named
  have hnm := (name_of_methodNamed Bd.named Bd.method).1
  have X0 : Stand p l e ({ frames := 0, cells := 0, slots := 0, locals := 0 } : Room) s m #[(.ref r0)] below meth c s₁ [] 0 0 := Stand.of_body Bd
  have e0 : s₁.heap = h0 := by rw [← hh, Bd.state]; rfl
  have N0 := Fr.nil n0
  refine Runs.enter (ef_5s1 m r0) ?_
  show Runs _ _ _ _ s₁ (mkF m 0 #[.val (.ref r0), .unset, .unset, .unset, .unset, .unset, .unset] [])
  refine Runs.back (fun t_ k_ => XS.aloadN X0.here hx rfl (hb hby d5_0) rfl rfl k_) ?_
  show Runs _ _ _ _ s₁ (mkF m 1 #[.val (.ref r0), .unset, .unset, .unset, .unset, .unset, .unset] [(.ref r0)])
  obtain ⟨T1, X1, e1, st1⟩ := getF X0 hx hZ hown (host := "") (Or.inl (hw _ (List.mem_of_getElem? (i := 15) rfl))) Via.refl e0 F1 (g := (mkF m 1 #[.val (.ref r0), .unset, .unset, .unset, .unset, .unset, .unset] [(.ref r0)])) rfl rfl (hb hby d5_1)
  refine Runs.back st1 ?_
  show Runs _ _ _ _ T1 (mkF m 4 #[.val (.ref r0), .unset, .unset, .unset, .unset, .unset, .unset] [(.ref arr)])
  refine Runs.back (fun t_ k_ => XS.iconst X1.here hx rfl (hb hby d5_4) k_) ?_
  show Runs _ _ _ _ T1 (mkF m 5 #[.val (.ref r0), .unset, .unset, .unset, .unset, .unset, .unset] [(.int (0 : Int32)), (.ref arr)])
  obtain ⟨cl2, Ar2, S2, Hs2⟩ := id A1
  have at2 : cl2.slots[((0 : Int32)).toNatClampNeg]? = some (.long y0) := readO Hs2 (rfl : ((0 : Int32)).toNatClampNeg = 0) (show 0 < 4 from (by first | omega | decide)) (hy0)
  refine Runs.back (fun t_ k_ => X1.laload hx (j := (0 : Int32)) (v := (.long y0)) (by rw [e1]; exact Ar2.1) (State.isArrayOf_alike hZ.alike Ar2.2.1) Ar2.2.2 (by rw [S2]; exact (inbO (by decide : ¬ (0 : Int32) < 0) (rfl : ((0 : Int32)).toNatClampNeg = 0) (show 0 < 4 from (by first | omega | decide)))) at2 (g := (mkF m 5 #[.val (.ref r0), .unset, .unset, .unset, .unset, .unset, .unset] [(.int (0 : Int32)), (.ref arr)])) rfl rfl (hb hby d5_5) _ k_) ?_
  show Runs _ _ _ _ T1 (mkF m 6 #[.val (.ref r0), .unset, .unset, .unset, .unset, .unset, .unset] [(.long y0)])
  refine Runs.back (fun t_ k_ => XS.lstoreN X1.here hx rfl (hb hby d5_6) rfl (l' := #[.val (.ref r0), .val (.long y0), .second, .unset, .unset, .unset, .unset]) rfl k_) ?_
  show Runs _ _ _ _ T1 (mkF m 7 #[.val (.ref r0), .val (.long y0), .second, .unset, .unset, .unset, .unset] [])
  refine Runs.back (fun t_ k_ => XS.aloadN X1.here hx rfl (hb hby d5_7) rfl rfl k_) ?_
  show Runs _ _ _ _ T1 (mkF m 8 #[.val (.ref r0), .val (.long y0), .second, .unset, .unset, .unset, .unset] [(.ref r0)])
  obtain ⟨T3, X3, e3, st3⟩ := getF X1 hx hZ hown (host := "") (Or.inl (hw _ (List.mem_of_getElem? (i := 15) rfl))) Via.refl e1 F1 (g := (mkF m 8 #[.val (.ref r0), .val (.long y0), .second, .unset, .unset, .unset, .unset] [(.ref r0)])) rfl rfl (hb hby d5_8)
  refine Runs.back st3 ?_
  show Runs _ _ _ _ T3 (mkF m 11 #[.val (.ref r0), .val (.long y0), .second, .unset, .unset, .unset, .unset] [(.ref arr)])
  refine Runs.back (fun t_ k_ => XS.aloadN X3.here hx rfl (hb hby d5_11) rfl rfl k_) ?_
  show Runs _ _ _ _ T3 (mkF m 12 #[.val (.ref r0), .val (.long y0), .second, .unset, .unset, .unset, .unset] [(.ref r0), (.ref arr)])
  refine Runs.back (fun t_ k_ => XS.dup X3.here hx rfl (hb hby d5_12) rfl rfl k_) ?_
  show Runs _ _ _ _ T3 (mkF m 13 #[.val (.ref r0), .val (.long y0), .second, .unset, .unset, .unset, .unset] [(.ref r0), (.ref r0), (.ref arr)])
  obtain ⟨T4, X4, e4, st4⟩ := getF X3 hx hZ hown (host := "") (Or.inl (hw _ (List.mem_of_getElem? (i := 22) rfl))) Via.refl e3 F2 (g := (mkF m 13 #[.val (.ref r0), .val (.long y0), .second, .unset, .unset, .unset, .unset] [(.ref r0), (.ref r0), (.ref arr)])) rfl rfl (hb hby d5_13)
  refine Runs.back st4 ?_
  show Runs _ _ _ _ T4 (mkF m 16 #[.val (.ref r0), .val (.long y0), .second, .unset, .unset, .unset, .unset] [(.int (1 : Int32)), (.ref r0), (.ref arr)])
  refine Runs.back (fun t_ k_ => XS.iconst X4.here hx rfl (hb hby d5_16) k_) ?_
  show Runs _ _ _ _ T4 (mkF m 17 #[.val (.ref r0), .val (.long y0), .second, .unset, .unset, .unset, .unset] [(.int (1 : Int32)), (.int (1 : Int32)), (.ref r0), (.ref arr)])
  refine Runs.back (fun t_ k_ => XS.isub X4.here hx rfl (hb hby d5_17) rfl k_) ?_
  show Runs _ _ _ _ T4 (mkF m 18 #[.val (.ref r0), .val (.long y0), .second, .unset, .unset, .unset, .unset] [(.int ((1 : Int32) - (1 : Int32))), (.ref r0), (.ref arr)])
  rw [show ((1 : Int32) - (1 : Int32)) = (0 : Int32) from by decide]
  show Runs _ _ _ _ T4 (mkF m 18 #[.val (.ref r0), .val (.long y0), .second, .unset, .unset, .unset, .unset] [(.int (0 : Int32)), (.ref r0), (.ref arr)])
  refine Runs.back (fun t_ k_ => XS.dupX1 X4.here hx rfl (hb hby d5_18) rfl rfl rfl k_) ?_
  show Runs _ _ _ _ T4 (mkF m 19 #[.val (.ref r0), .val (.long y0), .second, .unset, .unset, .unset, .unset] [(.int (0 : Int32)), (.ref r0), (.int (0 : Int32)), (.ref arr)])
  obtain ⟨T5, h5, X5, e5, W5, st5⟩ := putF X4 hx hZ hown (host := "") (Or.inl (hw _ (List.mem_of_getElem? (i := 22) rfl))) Via.refl e4 F2 E_r0 (Or.inl (hw _ (List.mem_of_getElem? (i := 23) rfl))) (hw _ (List.mem_of_getElem? (i := 6) rfl)) (ty := .int) (by decide) rfl rfl (g := (mkF m 19 #[.val (.ref r0), .val (.long y0), .second, .unset, .unset, .unset, .unset] [(.int (0 : Int32)), (.ref r0), (.int (0 : Int32)), (.ref arr)])) rfl rfl (hb hby d5_19)
  have f5_Exa_0 : Exa Z h5 r0 "com/example/tradewheel/tradewheel/PartQueue" := Exa.wr W5 E_r0
  have f5_Fld_1 : Fld Z h5 r0 "com/example/tradewheel/tradewheel/PartQueue" "heap" "[J" (.ref arr) := Fld.other W5 F1 (Or.inr (slot_ne (Or.inr (hw _ (List.mem_of_getElem? (i := 16) rfl))) (Or.inl (hw _ (List.mem_of_getElem? (i := 23) rfl))) (by decide) (t := (.array .long)) (t' := .int) (by decide) (by decide)))
  have f5_Fld_2 : Fld Z h5 r0 "com/example/tradewheel/tradewheel/PartQueue" "size" "I" (.int (0 : Int32)) := Fld.same W5 F2
  have f5_Arr_3 : OArr Z h5 arr .long 4 fb := A1.other W5 (Ne.symm ne_r0_arr)
  have N5 := Fr.snoc X5 N0 g_r0
  obtain ⟨L5, X5, N5⟩ := hideL X5 N5
  have KK5 : Keep h0 h5 [r0, arr] := Keep.wr (Keep.refl h0 [r0, arr]) W5 (Or.inl (List.mem_of_getElem? (i := 0) rfl))
  have Z5 : n0 ≤ h5.size := Nat.le_trans (Z0) (Nat.le_of_eq W5.size.symm)
  refine Runs.back st5 ?_
  show Runs _ _ _ _ T5 (mkF m 22 #[.val (.ref r0), .val (.long y0), .second, .unset, .unset, .unset, .unset] [(.int (0 : Int32)), (.ref arr)])
  obtain ⟨cl6, Ar6, S6, Hs6⟩ := id f5_Arr_3
  have at6 : cl6.slots[((0 : Int32)).toNatClampNeg]? = some (.long y0) := readO Hs6 (rfl : ((0 : Int32)).toNatClampNeg = 0) (show 0 < 4 from (by first | omega | decide)) (hy0)
  refine Runs.back (fun t_ k_ => X5.laload hx (j := (0 : Int32)) (v := (.long y0)) (by rw [e5]; exact Ar6.1) (State.isArrayOf_alike hZ.alike Ar6.2.1) Ar6.2.2 (by rw [S6]; exact (inbO (by decide : ¬ (0 : Int32) < 0) (rfl : ((0 : Int32)).toNatClampNeg = 0) (show 0 < 4 from (by first | omega | decide)))) at6 (g := (mkF m 22 #[.val (.ref r0), .val (.long y0), .second, .unset, .unset, .unset, .unset] [(.int (0 : Int32)), (.ref arr)])) rfl rfl (hb hby d5_22) _ k_) ?_
  show Runs _ _ _ _ T5 (mkF m 23 #[.val (.ref r0), .val (.long y0), .second, .unset, .unset, .unset, .unset] [(.long y0)])
  refine Runs.back (fun t_ k_ => XS.lstoreN X5.here hx rfl (hb hby d5_23) rfl (l' := #[.val (.ref r0), .val (.long y0), .second, .val (.long y0), .second, .unset, .unset]) rfl k_) ?_
  show Runs _ _ _ _ T5 (mkF m 24 #[.val (.ref r0), .val (.long y0), .second, .val (.long y0), .second, .unset, .unset] [])
  refine Runs.back (fun t_ k_ => XS.iconst X5.here hx rfl (hb hby d5_24) k_) ?_
  show Runs _ _ _ _ T5 (mkF m 25 #[.val (.ref r0), .val (.long y0), .second, .val (.long y0), .second, .unset, .unset] [(.int (0 : Int32))])
  refine Runs.back (fun t_ k_ => XS.istore X5.here hx rfl (hb hby d5_25) rfl (l' := #[.val (.ref r0), .val (.long y0), .second, .val (.long y0), .second, .val (.int (0 : Int32)), .unset]) rfl k_) ?_
  show Runs _ _ _ _ T5 (mkF m 27 #[.val (.ref r0), .val (.long y0), .second, .val (.long y0), .second, .val (.int (0 : Int32)), .unset] [])
  refine Runs.back (fun t_ k_ => XS.iconst X5.here hx rfl (hb hby d5_27) k_) ?_
  show Runs _ _ _ _ T5 (mkF m 28 #[.val (.ref r0), .val (.long y0), .second, .val (.long y0), .second, .val (.int (0 : Int32)), .unset] [(.int (2 : Int32))])
  refine Runs.back (fun t_ k_ => XS.iload X5.here hx rfl (hb hby d5_28) rfl k_) ?_
  show Runs _ _ _ _ T5 (mkF m 30 #[.val (.ref r0), .val (.long y0), .second, .val (.long y0), .second, .val (.int (0 : Int32)), .unset] [(.int (0 : Int32)), (.int (2 : Int32))])
  refine Runs.back (fun t_ k_ => XS.imul X5.here hx rfl (hb hby d5_30) rfl k_) ?_
  show Runs _ _ _ _ T5 (mkF m 31 #[.val (.ref r0), .val (.long y0), .second, .val (.long y0), .second, .val (.int (0 : Int32)), .unset] [(.int ((2 : Int32) * (0 : Int32)))])
  rw [show ((2 : Int32) * (0 : Int32)) = (0 : Int32) from by decide]
  show Runs _ _ _ _ T5 (mkF m 31 #[.val (.ref r0), .val (.long y0), .second, .val (.long y0), .second, .val (.int (0 : Int32)), .unset] [(.int (0 : Int32))])
  refine Runs.back (fun t_ k_ => XS.iconst X5.here hx rfl (hb hby d5_31) k_) ?_
  show Runs _ _ _ _ T5 (mkF m 32 #[.val (.ref r0), .val (.long y0), .second, .val (.long y0), .second, .val (.int (0 : Int32)), .unset] [(.int (1 : Int32)), (.int (0 : Int32))])
  refine Runs.back (fun t_ k_ => XS.iadd X5.here hx rfl (hb hby d5_32) rfl k_) ?_
  show Runs _ _ _ _ T5 (mkF m 33 #[.val (.ref r0), .val (.long y0), .second, .val (.long y0), .second, .val (.int (0 : Int32)), .unset] [(.int ((0 : Int32) + (1 : Int32)))])
  rw [show ((0 : Int32) + (1 : Int32)) = (1 : Int32) from by decide]
  show Runs _ _ _ _ T5 (mkF m 33 #[.val (.ref r0), .val (.long y0), .second, .val (.long y0), .second, .val (.int (0 : Int32)), .unset] [(.int (1 : Int32))])
  refine Runs.back (fun t_ k_ => XS.aloadN X5.here hx rfl (hb hby d5_33) rfl rfl k_) ?_
  show Runs _ _ _ _ T5 (mkF m 34 #[.val (.ref r0), .val (.long y0), .second, .val (.long y0), .second, .val (.int (0 : Int32)), .unset] [(.ref r0), (.int (1 : Int32))])
  obtain ⟨T7, X7, e7, st7⟩ := getF X5 hx hZ hown (host := "") (Or.inl (hw _ (List.mem_of_getElem? (i := 22) rfl))) Via.refl e5 f5_Fld_2 (g := (mkF m 34 #[.val (.ref r0), .val (.long y0), .second, .val (.long y0), .second, .val (.int (0 : Int32)), .unset] [(.ref r0), (.int (1 : Int32))])) rfl rfl (hb hby d5_34)
  refine Runs.back st7 ?_
  show Runs _ _ _ _ T7 (mkF m 37 #[.val (.ref r0), .val (.long y0), .second, .val (.long y0), .second, .val (.int (0 : Int32)), .unset] [(.int (0 : Int32)), (.int (1 : Int32))])
  refine Runs.back (fun t_ k_ => XS.icmpYes X7.here hx rfl (pc0 := 37) (pc' := 118) rfl (hb hby d5_37) rfl (flt (show ¬ ((1 : Int32) < (0 : Int32)) from (by decide))).2.1 (by decide) (by decide) k_) ?_
  show Runs _ _ _ _ T7 (mkF m 118 #[.val (.ref r0), .val (.long y0), .second, .val (.long y0), .second, .val (.int (0 : Int32)), .unset] [])
  refine Runs.back (fun t_ k_ => XS.aloadN X7.here hx rfl (hb hby d5_118) rfl rfl k_) ?_
  show Runs _ _ _ _ T7 (mkF m 119 #[.val (.ref r0), .val (.long y0), .second, .val (.long y0), .second, .val (.int (0 : Int32)), .unset] [(.ref r0)])
  obtain ⟨T8, X8, e8, st8⟩ := getF X7 hx hZ hown (host := "") (Or.inl (hw _ (List.mem_of_getElem? (i := 15) rfl))) Via.refl e7 f5_Fld_1 (g := (mkF m 119 #[.val (.ref r0), .val (.long y0), .second, .val (.long y0), .second, .val (.int (0 : Int32)), .unset] [(.ref r0)])) rfl rfl (hb hby d5_119)
  refine Runs.back st8 ?_
  show Runs _ _ _ _ T8 (mkF m 122 #[.val (.ref r0), .val (.long y0), .second, .val (.long y0), .second, .val (.int (0 : Int32)), .unset] [(.ref arr)])
  refine Runs.back (fun t_ k_ => XS.iload X8.here hx rfl (hb hby d5_122) rfl k_) ?_
  show Runs _ _ _ _ T8 (mkF m 124 #[.val (.ref r0), .val (.long y0), .second, .val (.long y0), .second, .val (.int (0 : Int32)), .unset] [(.int (0 : Int32)), (.ref arr)])
  refine Runs.back (fun t_ k_ => XS.lloadN X8.here hx rfl (hb hby d5_124) rfl k_) ?_
  show Runs _ _ _ _ T8 (mkF m 125 #[.val (.ref r0), .val (.long y0), .second, .val (.long y0), .second, .val (.int (0 : Int32)), .unset] [(.long y0), (.int (0 : Int32)), (.ref arr)])
  obtain ⟨cl9, Ar9, S9, Hs9⟩ := id f5_Arr_3
  obtain ⟨T9, h9, X9, e9, W9, st9⟩ := stJ X8 hx hZ e8 Ar9 (j := (0 : Int32)) (by rw [S9]; exact (inbO (by decide : ¬ (0 : Int32) < 0) (rfl : ((0 : Int32)).toNatClampNeg = 0) (show 0 < 4 from (by first | omega | decide)))) (g := (mkF m 125 #[.val (.ref r0), .val (.long y0), .second, .val (.long y0), .second, .val (.int (0 : Int32)), .unset] [(.long y0), (.int (0 : Int32)), (.ref arr)])) rfl rfl (hb hby d5_125)
  have N9 := Fr.snoc X9 N5 g_arr
  obtain ⟨L9, X9, N9⟩ := hideL X9 N9
  rw [(rfl : ((0 : Int32)).toNatClampNeg = 0)] at W9
  have f9_Exa_0 : Exa Z h9 r0 "com/example/tradewheel/tradewheel/PartQueue" := Exa.wr W9 f5_Exa_0
  have f9_Fld_1 : Fld Z h9 r0 "com/example/tradewheel/tradewheel/PartQueue" "heap" "[J" (.ref arr) := Fld.other W9 f5_Fld_1 (Or.inl ne_r0_arr)
  have f9_Fld_2 : Fld Z h9 r0 "com/example/tradewheel/tradewheel/PartQueue" "size" "I" (.int (0 : Int32)) := Fld.other W9 f5_Fld_2 (Or.inl ne_r0_arr)
  have f9_Arr_3 : OArr Z h9 arr .long 4 (fun i => if i = 0 then (Value.long y0) else fb i) := f5_Arr_3.set W9
  have KK9 : Keep h0 h9 [r0, arr] := Keep.wr KK5 W9 (Or.inl (List.mem_of_getElem? (i := 1) rfl))
  have Z9 : n0 ≤ h9.size := Nat.le_trans (Z5) (Nat.le_of_eq W9.size.symm)
  refine Runs.back st9 ?_
  show Runs _ _ _ _ T9 (mkF m 126 #[.val (.ref r0), .val (.long y0), .second, .val (.long y0), .second, .val (.int (0 : Int32)), .unset] [])
  refine Runs.back (fun t_ k_ => XS.lloadN X9.here hx rfl (hb hby d5_126) rfl k_) ?_
  show Runs _ _ _ _ T9 (mkF m 127 #[.val (.ref r0), .val (.long y0), .second, .val (.long y0), .second, .val (.int (0 : Int32)), .unset] [(.long y0)])
  refine Runs.back (fun t_ k_ => XS.bipush X9.here hx rfl (hb hby d5_127) k_) ?_
  show Runs _ _ _ _ T9 (mkF m 129 #[.val (.ref r0), .val (.long y0), .second, .val (.long y0), .second, .val (.int (0 : Int32)), .unset] [(.int (32 : Int32)), (.long y0)])
  refine Runs.back (fun t_ k_ => XS.lushr X9.here hx rfl (hb hby d5_129) rfl k_) ?_
  show Runs _ _ _ _ T9 (mkF m 130 #[.val (.ref r0), .val (.long y0), .second, .val (.long y0), .second, .val (.int (0 : Int32)), .unset] [(.long ((y0.toUInt64 >>> ((32 : Int32) &&& 0x3f).toInt64.toUInt64).toInt64))])
  refine Runs.back (fun t_ k_ => XS.l2i X9.here hx rfl (hb hby d5_130) rfl k_) ?_
  show Runs _ _ _ _ T9 (mkF m 131 #[.val (.ref r0), .val (.long y0), .second, .val (.long y0), .second, .val (.int (0 : Int32)), .unset] [(.int (((y0.toUInt64 >>> ((32 : Int32) &&& 0x3f).toInt64.toUInt64).toInt64).toInt32))])
  obtain ⟨fs, hr, hrun, hended, hW, hsame⟩ := X9.leave (v := some (.int (((y0.toUInt64 >>> ((32 : Int32) &&& 0x3f).toInt64.toUInt64).toInt64).toInt32))) (fun h => by rw [Bd.returns] at h; cases h)
  exact ⟨_, _, (retI X9 hx Bd.returns (hb hby d5_131) hr), hrun, hended, _, _, rfl, (by show Q5s1 Z r0 arr fb y0 h0 n0 _ T9.heap _; rw [e9]; exact ⟨rfl, N9, KK9, f9_Exa_0, f9_Fld_1, f9_Fld_2, _, f9_Arr_3, trivial⟩), ⟨_, rfl⟩, hW, hsame.mono (by decide) (by decide)⟩
theorem d7_0 : decode prog_22_method_3_code 0 = .ok (.aload_n 0, 1) := by decide +kernel
theorem d7_1 : decode prog_22_method_3_code 1 = .ok (.getfield 7, 3) := by decide +kernel
theorem d7_4 : decode prog_22_method_3_code 4 = .ok (.iconst 0, 1) := by decide +kernel
theorem d7_5 : decode prog_22_method_3_code 5 = .ok (.laload, 1) := by decide +kernel
theorem d7_6 : decode prog_22_method_3_code 6 = .ok (.l2i, 1) := by decide +kernel
theorem d7_7 : decode prog_22_method_3_code 7 = .ok (.ireturn, 1) := by decide +kernel
theorem pn_7 : plainName "com/example/tradewheel/tradewheel/PartQueue" = true := by first | (simp [plainName, overriddenIn]; done) | decide +kernel
theorem ef_7 (m : MethodId) (r0 : Addr) : entryFrame m #[(.ref r0)] 1 = mkF m 0 #[.val (.ref r0)] [] := by first | (simp [entryFrame, mkF, argsToLocals, Value.category]; done) | rfl
def Q7 (Z : State) (r0 : Addr) (arr : Addr) (fb : Nat → Value) (y0 : Int64) (h0 : Heap) (n0 : Nat) (v : Option Value) (h : Heap) (L : List Loc) : Prop := v = some (.int (y0.toInt32)) ∧ Fr n0 L ∧ h = h0
set_option maxRecDepth 65536 in
set_option maxHeartbeats 40000000 in
theorem rm7 (l : Launch) (Z : State) (a0 : Array Value) (hw : ∀ d ∈ tables_1, d.before a0 Z = true) (ws : List Jvm.Cond) (r0 : Addr) (arr : Addr) (fb : Nat → Value) (y0 : Int64) (h0 : Heap) (n0 : Nat) (Z0 : n0 ≤ h0.size) (F1 : Fld Z h0 r0 "com/example/tradewheel/tradewheel/PartQueue" "heap" "[J" (.ref arr)) (A1 : OArr Z h0 arr .long 4 fb) (hy0 : fb 0 = .long y0) :
    MetFree l (⟨"com/example/tradewheel/tradewheel/PartQueue", "part", "()I"⟩ : MethodName) (head1 (Jvm.Cond.code (⟨"com/example/tradewheel/tradewheel/PartQueue", "part", "()I"⟩ : MethodName) prog_22_method_3_code 1 (some .int) :: ws) ({ frames := 0, cells := 0, slots := 0, locals := 0 } : Room)) (fun a U => a = #[(.ref r0)] ∧ Z.Warmed39 U.vm ∧ U.heap = h0) (fun _ _ _ _ _ => True) (fun _ U o U' => ∃ v L, o = .returned v ∧ Q7 Z r0 arr fb y0 h0 n0 v U'.heap L ∧ FrameEnd U o U' L ({ frames := 0, cells := 0, slots := 0, locals := 0 } : Room).cells ({ frames := 0, cells := 0, slots := 0, locals := 0 } : Room).slots) := by
  refine MetFree.of_bodySF (plainFor_of_name pn_7) hisR ?_
  intro p e s m args below meth c s₁ Bd hml0 hP hK
  obtain ⟨rfl, hZ, hh⟩ := hP
  have hx := Bd.exec
  have hby := Bd.bytes
  have hml : c.maxLocals = 1 := hml0
  have hown : s.vm.findClass "com/example/tradewheel/tradewheel/PartQueue" = some m.cls := findClass_of_methodNamed Bd.named
  have hnm := (name_of_methodNamed Bd.named Bd.method).1
  have X0 : Stand p l e ({ frames := 0, cells := 0, slots := 0, locals := 0 } : Room) s m #[(.ref r0)] below meth c s₁ [] 0 0 := Stand.of_body Bd
  have e0 : s₁.heap = h0 := by rw [← hh, Bd.state]; rfl
  have N0 := Fr.nil n0
  refine Runs.enter (ef_7 m r0) ?_
  show Runs _ _ _ _ s₁ (mkF m 0 #[.val (.ref r0)] [])
  refine Runs.back (fun t_ k_ => XS.aloadN X0.here hx rfl (hb hby d7_0) rfl rfl k_) ?_
  show Runs _ _ _ _ s₁ (mkF m 1 #[.val (.ref r0)] [(.ref r0)])
  obtain ⟨T1, X1, e1, st1⟩ := getF X0 hx hZ hown (host := "") (Or.inl (hw _ (List.mem_of_getElem? (i := 15) rfl))) Via.refl e0 F1 (g := (mkF m 1 #[.val (.ref r0)] [(.ref r0)])) rfl rfl (hb hby d7_1)
  refine Runs.back st1 ?_
  show Runs _ _ _ _ T1 (mkF m 4 #[.val (.ref r0)] [(.ref arr)])
  refine Runs.back (fun t_ k_ => XS.iconst X1.here hx rfl (hb hby d7_4) k_) ?_
  show Runs _ _ _ _ T1 (mkF m 5 #[.val (.ref r0)] [(.int (0 : Int32)), (.ref arr)])
  obtain ⟨cl2, Ar2, S2, Hs2⟩ := id A1
  have at2 : cl2.slots[((0 : Int32)).toNatClampNeg]? = some (.long y0) := readO Hs2 (rfl : ((0 : Int32)).toNatClampNeg = 0) (show 0 < 4 from (by first | omega | decide)) (hy0)
  refine Runs.back (fun t_ k_ => X1.laload hx (j := (0 : Int32)) (v := (.long y0)) (by rw [e1]; exact Ar2.1) (State.isArrayOf_alike hZ.alike Ar2.2.1) Ar2.2.2 (by rw [S2]; exact (inbO (by decide : ¬ (0 : Int32) < 0) (rfl : ((0 : Int32)).toNatClampNeg = 0) (show 0 < 4 from (by first | omega | decide)))) at2 (g := (mkF m 5 #[.val (.ref r0)] [(.int (0 : Int32)), (.ref arr)])) rfl rfl (hb hby d7_5) _ k_) ?_
  show Runs _ _ _ _ T1 (mkF m 6 #[.val (.ref r0)] [(.long y0)])
  refine Runs.back (fun t_ k_ => XS.l2i X1.here hx rfl (hb hby d7_6) rfl k_) ?_
  show Runs _ _ _ _ T1 (mkF m 7 #[.val (.ref r0)] [(.int (y0.toInt32))])
  obtain ⟨fs, hr, hrun, hended, hW, hsame⟩ := X1.leave (v := some (.int (y0.toInt32))) (fun h => by rw [Bd.returns] at h; cases h)
  exact ⟨_, _, (retI X1 hx Bd.returns (hb hby d7_7) hr), hrun, hended, _, _, rfl, ⟨rfl, N0, e1⟩, ⟨_, rfl⟩, hW, hsame.mono (by decide) (by decide)⟩
theorem d1_0 : decode method_2_code 0 = .ok (.iload_n 1, 1) := by decide +kernel
theorem d1_1 : decode method_2_code 1 = .ok (.iload_n 0, 1) := by decide +kernel
theorem d1_2 : decode method_2_code 2 = .ok (.if_icmp .ge 7, 3) := by decide +kernel
theorem d1_5 : decode method_2_code 5 = .ok (.iconst 1, 1) := by decide +kernel
theorem d1_6 : decode method_2_code 6 = .ok (.goto 4, 3) := by decide +kernel
theorem d1_9 : decode method_2_code 9 = .ok (.iconst 0, 1) := by decide +kernel
theorem d1_10 : decode method_2_code 10 = .ok (.iload_n 2, 1) := by decide +kernel
theorem d1_11 : decode method_2_code 11 = .ok (.iload_n 0, 1) := by decide +kernel
theorem d1_12 : decode method_2_code 12 = .ok (.if_icmp .ge 7, 3) := by decide +kernel
theorem d1_15 : decode method_2_code 15 = .ok (.iconst 1, 1) := by decide +kernel
theorem d1_16 : decode method_2_code 16 = .ok (.goto 4, 3) := by decide +kernel
theorem d1_19 : decode method_2_code 19 = .ok (.iconst 0, 1) := by decide +kernel
theorem d1_20 : decode method_2_code 20 = .ok (.iadd, 1) := by decide +kernel
theorem d1_21 : decode method_2_code 21 = .ok (.iload_n 3, 1) := by decide +kernel
theorem d1_22 : decode method_2_code 22 = .ok (.iload_n 0, 1) := by decide +kernel
theorem d1_23 : decode method_2_code 23 = .ok (.if_icmp .ge 7, 3) := by decide +kernel
theorem d1_26 : decode method_2_code 26 = .ok (.iconst 1, 1) := by decide +kernel
theorem d1_27 : decode method_2_code 27 = .ok (.goto 4, 3) := by decide +kernel
theorem d1_30 : decode method_2_code 30 = .ok (.iconst 0, 1) := by decide +kernel
theorem d1_31 : decode method_2_code 31 = .ok (.iadd, 1) := by decide +kernel
theorem d1_32 : decode method_2_code 32 = .ok (.ireturn, 1) := by decide +kernel
theorem pn_1 : plainName "com/example/tradewheel/tradewheel/PartQueueRemovePinLaw" = true := by first | (simp [plainName, overriddenIn]; done) | decide +kernel
theorem ef_1 (m : MethodId) (p0 : Int32) (p1 : Int32) (p2 : Int32) (p3 : Int32) : entryFrame m #[(.int p0), (.int p1), (.int p2), (.int p3)] 4 = mkF m 0 #[.val (.int p0), .val (.int p1), .val (.int p2), .val (.int p3)] [] := by first | (simp [entryFrame, mkF, argsToLocals, Value.category]; done) | rfl
def Q1 (Z : State) (p0 : Int32) (p1 : Int32) (p2 : Int32) (p3 : Int32)  (h0 : Heap) (n0 : Nat) (v : Option Value) (h : Heap) (L : List Loc) : Prop := v = some (.int (rankF p0 p1 p2 p3)) ∧ Fr n0 L ∧ h = h0
set_option maxRecDepth 65536 in
set_option maxHeartbeats 40000000 in
theorem rm1 (l : Launch) (Z : State) (a0 : Array Value) (hw : ∀ d ∈ tables_1, d.before a0 Z = true) (ws : List Jvm.Cond) (p0 : Int32) (p1 : Int32) (p2 : Int32) (p3 : Int32)  (h0 : Heap) (n0 : Nat) (Z0 : n0 ≤ h0.size) :
    MetFree l (⟨"com/example/tradewheel/tradewheel/PartQueueRemovePinLaw", "rank", "(IIII)I"⟩ : MethodName) (head1 (Jvm.Cond.code (⟨"com/example/tradewheel/tradewheel/PartQueueRemovePinLaw", "rank", "(IIII)I"⟩ : MethodName) method_2_code 4 (some .int) :: ws) ({ frames := 0, cells := 0, slots := 0, locals := 0 } : Room)) (fun a U => a = #[(.int p0), (.int p1), (.int p2), (.int p3)] ∧ Z.Warmed39 U.vm ∧ U.heap = h0) (fun _ _ _ _ _ => True) (fun _ U o U' => ∃ v L, o = .returned v ∧ Q1 Z p0 p1 p2 p3 h0 n0 v U'.heap L ∧ FrameEnd U o U' L ({ frames := 0, cells := 0, slots := 0, locals := 0 } : Room).cells ({ frames := 0, cells := 0, slots := 0, locals := 0 } : Room).slots) := by
  refine MetFree.of_bodySF (plainFor_of_name pn_1) hisR ?_
  intro p e s m args below meth c s₁ Bd hml0 hP hK
  obtain ⟨rfl, hZ, hh⟩ := hP
  have hx := Bd.exec
  have hby := Bd.bytes
  have hml : c.maxLocals = 4 := hml0
  have hown : s.vm.findClass "com/example/tradewheel/tradewheel/PartQueueRemovePinLaw" = some m.cls := findClass_of_methodNamed Bd.named
  have hnm := (name_of_methodNamed Bd.named Bd.method).1
  have X0 : Stand p l e ({ frames := 0, cells := 0, slots := 0, locals := 0 } : Room) s m #[(.int p0), (.int p1), (.int p2), (.int p3)] below meth c s₁ [] 0 0 := Stand.of_body Bd
  have e0 : s₁.heap = h0 := by rw [← hh, Bd.state]; rfl
  have N0 := Fr.nil n0
  refine Runs.enter (ef_1 m p0 p1 p2 p3) ?_
  show Runs _ _ _ _ s₁ (mkF m 0 #[.val (.int p0), .val (.int p1), .val (.int p2), .val (.int p3)] [])
  refine Runs.back (fun t_ k_ => XS.iloadN X0.here hx rfl (hb hby d1_0) rfl k_) ?_
  show Runs _ _ _ _ s₁ (mkF m 1 #[.val (.int p0), .val (.int p1), .val (.int p2), .val (.int p3)] [(.int p1)])
  refine Runs.back (fun t_ k_ => XS.iloadN X0.here hx rfl (hb hby d1_1) rfl k_) ?_
  show Runs _ _ _ _ s₁ (mkF m 2 #[.val (.int p0), .val (.int p1), .val (.int p2), .val (.int p3)] [(.int p0), (.int p1)])
  by_cases c2_1 : p1 < p0
  · refine Runs.back (fun t_ k_ => XS.icmpNo X0.here hx rfl (hb hby d1_2) rfl (tlt c2_1).2.1 k_) ?_
    show Runs _ _ _ _ s₁ (mkF m 5 #[.val (.int p0), .val (.int p1), .val (.int p2), .val (.int p3)] [])
    refine Runs.back (fun t_ k_ => XS.iconst X0.here hx rfl (hb hby d1_5) k_) ?_
    show Runs _ _ _ _ s₁ (mkF m 6 #[.val (.int p0), .val (.int p1), .val (.int p2), .val (.int p3)] [(.int (1 : Int32))])
    refine Runs.back (fun t_ k_ => XS.goto X0.here hx rfl (pc0 := 6) (pc' := 10) rfl (hb hby d1_6) (by decide) (by decide) k_) ?_
    show Runs _ _ _ _ s₁ (mkF m 10 #[.val (.int p0), .val (.int p1), .val (.int p2), .val (.int p3)] [(.int (1 : Int32))])
    refine Runs.back (fun t_ k_ => XS.iloadN X0.here hx rfl (hb hby d1_10) rfl k_) ?_
    show Runs _ _ _ _ s₁ (mkF m 11 #[.val (.int p0), .val (.int p1), .val (.int p2), .val (.int p3)] [(.int p2), (.int (1 : Int32))])
    refine Runs.back (fun t_ k_ => XS.iloadN X0.here hx rfl (hb hby d1_11) rfl k_) ?_
    show Runs _ _ _ _ s₁ (mkF m 12 #[.val (.int p0), .val (.int p1), .val (.int p2), .val (.int p3)] [(.int p0), (.int p2), (.int (1 : Int32))])
    by_cases c12_2 : p2 < p0
    · refine Runs.back (fun t_ k_ => XS.icmpNo X0.here hx rfl (hb hby d1_12) rfl (tlt c12_2).2.1 k_) ?_
      show Runs _ _ _ _ s₁ (mkF m 15 #[.val (.int p0), .val (.int p1), .val (.int p2), .val (.int p3)] [(.int (1 : Int32))])
      refine Runs.back (fun t_ k_ => XS.iconst X0.here hx rfl (hb hby d1_15) k_) ?_
      show Runs _ _ _ _ s₁ (mkF m 16 #[.val (.int p0), .val (.int p1), .val (.int p2), .val (.int p3)] [(.int (1 : Int32)), (.int (1 : Int32))])
      refine Runs.back (fun t_ k_ => XS.goto X0.here hx rfl (pc0 := 16) (pc' := 20) rfl (hb hby d1_16) (by decide) (by decide) k_) ?_
      show Runs _ _ _ _ s₁ (mkF m 20 #[.val (.int p0), .val (.int p1), .val (.int p2), .val (.int p3)] [(.int (1 : Int32)), (.int (1 : Int32))])
      refine Runs.back (fun t_ k_ => XS.iadd X0.here hx rfl (hb hby d1_20) rfl k_) ?_
      show Runs _ _ _ _ s₁ (mkF m 21 #[.val (.int p0), .val (.int p1), .val (.int p2), .val (.int p3)] [(.int ((1 : Int32) + (1 : Int32)))])
      refine Runs.back (fun t_ k_ => XS.iloadN X0.here hx rfl (hb hby d1_21) rfl k_) ?_
      show Runs _ _ _ _ s₁ (mkF m 22 #[.val (.int p0), .val (.int p1), .val (.int p2), .val (.int p3)] [(.int p3), (.int ((1 : Int32) + (1 : Int32)))])
      refine Runs.back (fun t_ k_ => XS.iloadN X0.here hx rfl (hb hby d1_22) rfl k_) ?_
      show Runs _ _ _ _ s₁ (mkF m 23 #[.val (.int p0), .val (.int p1), .val (.int p2), .val (.int p3)] [(.int p0), (.int p3), (.int ((1 : Int32) + (1 : Int32)))])
      by_cases c23_3 : p3 < p0
      · refine Runs.back (fun t_ k_ => XS.icmpNo X0.here hx rfl (hb hby d1_23) rfl (tlt c23_3).2.1 k_) ?_
        show Runs _ _ _ _ s₁ (mkF m 26 #[.val (.int p0), .val (.int p1), .val (.int p2), .val (.int p3)] [(.int ((1 : Int32) + (1 : Int32)))])
        refine Runs.back (fun t_ k_ => XS.iconst X0.here hx rfl (hb hby d1_26) k_) ?_
        show Runs _ _ _ _ s₁ (mkF m 27 #[.val (.int p0), .val (.int p1), .val (.int p2), .val (.int p3)] [(.int (1 : Int32)), (.int ((1 : Int32) + (1 : Int32)))])
        refine Runs.back (fun t_ k_ => XS.goto X0.here hx rfl (pc0 := 27) (pc' := 31) rfl (hb hby d1_27) (by decide) (by decide) k_) ?_
        show Runs _ _ _ _ s₁ (mkF m 31 #[.val (.int p0), .val (.int p1), .val (.int p2), .val (.int p3)] [(.int (1 : Int32)), (.int ((1 : Int32) + (1 : Int32)))])
        refine Runs.back (fun t_ k_ => XS.iadd X0.here hx rfl (hb hby d1_31) rfl k_) ?_
        show Runs _ _ _ _ s₁ (mkF m 32 #[.val (.int p0), .val (.int p1), .val (.int p2), .val (.int p3)] [(.int (((1 : Int32) + (1 : Int32)) + (1 : Int32)))])
        obtain ⟨fs, hr, hrun, hended, hW, hsame⟩ := X0.leave (v := some (.int (((1 : Int32) + (1 : Int32)) + (1 : Int32)))) (fun h => by rw [Bd.returns] at h; cases h)
        exact ⟨_, _, (retI X0 hx Bd.returns (hb hby d1_32) hr), hrun, hended, _, _, rfl, ⟨(by first | rfl | (simp only [rankF, if_pos c2_1, if_pos c12_2, if_pos c23_3]; done) | (simp +decide only [rankF, if_pos c2_1, if_pos c12_2, if_pos c23_3, if_true, if_false, ↓reduceIte]; done) | (simp [rankF, c2_1, c12_2, c23_3]; done)), N0, e0⟩, ⟨_, rfl⟩, hW, hsame.mono (by decide) (by decide)⟩
      · refine Runs.back (fun t_ k_ => XS.icmpYes X0.here hx rfl (pc0 := 23) (pc' := 30) rfl (hb hby d1_23) rfl (flt c23_3).2.1 (by decide) (by decide) k_) ?_
        show Runs _ _ _ _ s₁ (mkF m 30 #[.val (.int p0), .val (.int p1), .val (.int p2), .val (.int p3)] [(.int ((1 : Int32) + (1 : Int32)))])
        refine Runs.back (fun t_ k_ => XS.iconst X0.here hx rfl (hb hby d1_30) k_) ?_
        show Runs _ _ _ _ s₁ (mkF m 31 #[.val (.int p0), .val (.int p1), .val (.int p2), .val (.int p3)] [(.int (0 : Int32)), (.int ((1 : Int32) + (1 : Int32)))])
        refine Runs.back (fun t_ k_ => XS.iadd X0.here hx rfl (hb hby d1_31) rfl k_) ?_
        show Runs _ _ _ _ s₁ (mkF m 32 #[.val (.int p0), .val (.int p1), .val (.int p2), .val (.int p3)] [(.int (((1 : Int32) + (1 : Int32)) + (0 : Int32)))])
        obtain ⟨fs, hr, hrun, hended, hW, hsame⟩ := X0.leave (v := some (.int (((1 : Int32) + (1 : Int32)) + (0 : Int32)))) (fun h => by rw [Bd.returns] at h; cases h)
        exact ⟨_, _, (retI X0 hx Bd.returns (hb hby d1_32) hr), hrun, hended, _, _, rfl, ⟨(by first | rfl | (simp only [rankF, if_pos c2_1, if_pos c12_2, if_neg c23_3]; done) | (simp +decide only [rankF, if_pos c2_1, if_pos c12_2, if_neg c23_3, if_true, if_false, ↓reduceIte]; done) | (simp [rankF, c2_1, c12_2, c23_3]; done)), N0, e0⟩, ⟨_, rfl⟩, hW, hsame.mono (by decide) (by decide)⟩
    · refine Runs.back (fun t_ k_ => XS.icmpYes X0.here hx rfl (pc0 := 12) (pc' := 19) rfl (hb hby d1_12) rfl (flt c12_2).2.1 (by decide) (by decide) k_) ?_
      show Runs _ _ _ _ s₁ (mkF m 19 #[.val (.int p0), .val (.int p1), .val (.int p2), .val (.int p3)] [(.int (1 : Int32))])
      refine Runs.back (fun t_ k_ => XS.iconst X0.here hx rfl (hb hby d1_19) k_) ?_
      show Runs _ _ _ _ s₁ (mkF m 20 #[.val (.int p0), .val (.int p1), .val (.int p2), .val (.int p3)] [(.int (0 : Int32)), (.int (1 : Int32))])
      refine Runs.back (fun t_ k_ => XS.iadd X0.here hx rfl (hb hby d1_20) rfl k_) ?_
      show Runs _ _ _ _ s₁ (mkF m 21 #[.val (.int p0), .val (.int p1), .val (.int p2), .val (.int p3)] [(.int ((1 : Int32) + (0 : Int32)))])
      refine Runs.back (fun t_ k_ => XS.iloadN X0.here hx rfl (hb hby d1_21) rfl k_) ?_
      show Runs _ _ _ _ s₁ (mkF m 22 #[.val (.int p0), .val (.int p1), .val (.int p2), .val (.int p3)] [(.int p3), (.int ((1 : Int32) + (0 : Int32)))])
      refine Runs.back (fun t_ k_ => XS.iloadN X0.here hx rfl (hb hby d1_22) rfl k_) ?_
      show Runs _ _ _ _ s₁ (mkF m 23 #[.val (.int p0), .val (.int p1), .val (.int p2), .val (.int p3)] [(.int p0), (.int p3), (.int ((1 : Int32) + (0 : Int32)))])
      by_cases c23_4 : p3 < p0
      · refine Runs.back (fun t_ k_ => XS.icmpNo X0.here hx rfl (hb hby d1_23) rfl (tlt c23_4).2.1 k_) ?_
        show Runs _ _ _ _ s₁ (mkF m 26 #[.val (.int p0), .val (.int p1), .val (.int p2), .val (.int p3)] [(.int ((1 : Int32) + (0 : Int32)))])
        refine Runs.back (fun t_ k_ => XS.iconst X0.here hx rfl (hb hby d1_26) k_) ?_
        show Runs _ _ _ _ s₁ (mkF m 27 #[.val (.int p0), .val (.int p1), .val (.int p2), .val (.int p3)] [(.int (1 : Int32)), (.int ((1 : Int32) + (0 : Int32)))])
        refine Runs.back (fun t_ k_ => XS.goto X0.here hx rfl (pc0 := 27) (pc' := 31) rfl (hb hby d1_27) (by decide) (by decide) k_) ?_
        show Runs _ _ _ _ s₁ (mkF m 31 #[.val (.int p0), .val (.int p1), .val (.int p2), .val (.int p3)] [(.int (1 : Int32)), (.int ((1 : Int32) + (0 : Int32)))])
        refine Runs.back (fun t_ k_ => XS.iadd X0.here hx rfl (hb hby d1_31) rfl k_) ?_
        show Runs _ _ _ _ s₁ (mkF m 32 #[.val (.int p0), .val (.int p1), .val (.int p2), .val (.int p3)] [(.int (((1 : Int32) + (0 : Int32)) + (1 : Int32)))])
        obtain ⟨fs, hr, hrun, hended, hW, hsame⟩ := X0.leave (v := some (.int (((1 : Int32) + (0 : Int32)) + (1 : Int32)))) (fun h => by rw [Bd.returns] at h; cases h)
        exact ⟨_, _, (retI X0 hx Bd.returns (hb hby d1_32) hr), hrun, hended, _, _, rfl, ⟨(by first | rfl | (simp only [rankF, if_pos c2_1, if_neg c12_2, if_pos c23_4]; done) | (simp +decide only [rankF, if_pos c2_1, if_neg c12_2, if_pos c23_4, if_true, if_false, ↓reduceIte]; done) | (simp [rankF, c2_1, c12_2, c23_4]; done)), N0, e0⟩, ⟨_, rfl⟩, hW, hsame.mono (by decide) (by decide)⟩
      · refine Runs.back (fun t_ k_ => XS.icmpYes X0.here hx rfl (pc0 := 23) (pc' := 30) rfl (hb hby d1_23) rfl (flt c23_4).2.1 (by decide) (by decide) k_) ?_
        show Runs _ _ _ _ s₁ (mkF m 30 #[.val (.int p0), .val (.int p1), .val (.int p2), .val (.int p3)] [(.int ((1 : Int32) + (0 : Int32)))])
        refine Runs.back (fun t_ k_ => XS.iconst X0.here hx rfl (hb hby d1_30) k_) ?_
        show Runs _ _ _ _ s₁ (mkF m 31 #[.val (.int p0), .val (.int p1), .val (.int p2), .val (.int p3)] [(.int (0 : Int32)), (.int ((1 : Int32) + (0 : Int32)))])
        refine Runs.back (fun t_ k_ => XS.iadd X0.here hx rfl (hb hby d1_31) rfl k_) ?_
        show Runs _ _ _ _ s₁ (mkF m 32 #[.val (.int p0), .val (.int p1), .val (.int p2), .val (.int p3)] [(.int (((1 : Int32) + (0 : Int32)) + (0 : Int32)))])
        obtain ⟨fs, hr, hrun, hended, hW, hsame⟩ := X0.leave (v := some (.int (((1 : Int32) + (0 : Int32)) + (0 : Int32)))) (fun h => by rw [Bd.returns] at h; cases h)
        exact ⟨_, _, (retI X0 hx Bd.returns (hb hby d1_32) hr), hrun, hended, _, _, rfl, ⟨(by first | rfl | (simp only [rankF, if_pos c2_1, if_neg c12_2, if_neg c23_4]; done) | (simp +decide only [rankF, if_pos c2_1, if_neg c12_2, if_neg c23_4, if_true, if_false, ↓reduceIte]; done) | (simp [rankF, c2_1, c12_2, c23_4]; done)), N0, e0⟩, ⟨_, rfl⟩, hW, hsame.mono (by decide) (by decide)⟩
  · refine Runs.back (fun t_ k_ => XS.icmpYes X0.here hx rfl (pc0 := 2) (pc' := 9) rfl (hb hby d1_2) rfl (flt c2_1).2.1 (by decide) (by decide) k_) ?_
    show Runs _ _ _ _ s₁ (mkF m 9 #[.val (.int p0), .val (.int p1), .val (.int p2), .val (.int p3)] [])
    refine Runs.back (fun t_ k_ => XS.iconst X0.here hx rfl (hb hby d1_9) k_) ?_
    show Runs _ _ _ _ s₁ (mkF m 10 #[.val (.int p0), .val (.int p1), .val (.int p2), .val (.int p3)] [(.int (0 : Int32))])
    refine Runs.back (fun t_ k_ => XS.iloadN X0.here hx rfl (hb hby d1_10) rfl k_) ?_
    show Runs _ _ _ _ s₁ (mkF m 11 #[.val (.int p0), .val (.int p1), .val (.int p2), .val (.int p3)] [(.int p2), (.int (0 : Int32))])
    refine Runs.back (fun t_ k_ => XS.iloadN X0.here hx rfl (hb hby d1_11) rfl k_) ?_
    show Runs _ _ _ _ s₁ (mkF m 12 #[.val (.int p0), .val (.int p1), .val (.int p2), .val (.int p3)] [(.int p0), (.int p2), (.int (0 : Int32))])
    by_cases c12_5 : p2 < p0
    · refine Runs.back (fun t_ k_ => XS.icmpNo X0.here hx rfl (hb hby d1_12) rfl (tlt c12_5).2.1 k_) ?_
      show Runs _ _ _ _ s₁ (mkF m 15 #[.val (.int p0), .val (.int p1), .val (.int p2), .val (.int p3)] [(.int (0 : Int32))])
      refine Runs.back (fun t_ k_ => XS.iconst X0.here hx rfl (hb hby d1_15) k_) ?_
      show Runs _ _ _ _ s₁ (mkF m 16 #[.val (.int p0), .val (.int p1), .val (.int p2), .val (.int p3)] [(.int (1 : Int32)), (.int (0 : Int32))])
      refine Runs.back (fun t_ k_ => XS.goto X0.here hx rfl (pc0 := 16) (pc' := 20) rfl (hb hby d1_16) (by decide) (by decide) k_) ?_
      show Runs _ _ _ _ s₁ (mkF m 20 #[.val (.int p0), .val (.int p1), .val (.int p2), .val (.int p3)] [(.int (1 : Int32)), (.int (0 : Int32))])
      refine Runs.back (fun t_ k_ => XS.iadd X0.here hx rfl (hb hby d1_20) rfl k_) ?_
      show Runs _ _ _ _ s₁ (mkF m 21 #[.val (.int p0), .val (.int p1), .val (.int p2), .val (.int p3)] [(.int ((0 : Int32) + (1 : Int32)))])
      refine Runs.back (fun t_ k_ => XS.iloadN X0.here hx rfl (hb hby d1_21) rfl k_) ?_
      show Runs _ _ _ _ s₁ (mkF m 22 #[.val (.int p0), .val (.int p1), .val (.int p2), .val (.int p3)] [(.int p3), (.int ((0 : Int32) + (1 : Int32)))])
      refine Runs.back (fun t_ k_ => XS.iloadN X0.here hx rfl (hb hby d1_22) rfl k_) ?_
      show Runs _ _ _ _ s₁ (mkF m 23 #[.val (.int p0), .val (.int p1), .val (.int p2), .val (.int p3)] [(.int p0), (.int p3), (.int ((0 : Int32) + (1 : Int32)))])
      by_cases c23_6 : p3 < p0
      · refine Runs.back (fun t_ k_ => XS.icmpNo X0.here hx rfl (hb hby d1_23) rfl (tlt c23_6).2.1 k_) ?_
        show Runs _ _ _ _ s₁ (mkF m 26 #[.val (.int p0), .val (.int p1), .val (.int p2), .val (.int p3)] [(.int ((0 : Int32) + (1 : Int32)))])
        refine Runs.back (fun t_ k_ => XS.iconst X0.here hx rfl (hb hby d1_26) k_) ?_
        show Runs _ _ _ _ s₁ (mkF m 27 #[.val (.int p0), .val (.int p1), .val (.int p2), .val (.int p3)] [(.int (1 : Int32)), (.int ((0 : Int32) + (1 : Int32)))])
        refine Runs.back (fun t_ k_ => XS.goto X0.here hx rfl (pc0 := 27) (pc' := 31) rfl (hb hby d1_27) (by decide) (by decide) k_) ?_
        show Runs _ _ _ _ s₁ (mkF m 31 #[.val (.int p0), .val (.int p1), .val (.int p2), .val (.int p3)] [(.int (1 : Int32)), (.int ((0 : Int32) + (1 : Int32)))])
        refine Runs.back (fun t_ k_ => XS.iadd X0.here hx rfl (hb hby d1_31) rfl k_) ?_
        show Runs _ _ _ _ s₁ (mkF m 32 #[.val (.int p0), .val (.int p1), .val (.int p2), .val (.int p3)] [(.int (((0 : Int32) + (1 : Int32)) + (1 : Int32)))])
        obtain ⟨fs, hr, hrun, hended, hW, hsame⟩ := X0.leave (v := some (.int (((0 : Int32) + (1 : Int32)) + (1 : Int32)))) (fun h => by rw [Bd.returns] at h; cases h)
        exact ⟨_, _, (retI X0 hx Bd.returns (hb hby d1_32) hr), hrun, hended, _, _, rfl, ⟨(by first | rfl | (simp only [rankF, if_neg c2_1, if_pos c12_5, if_pos c23_6]; done) | (simp +decide only [rankF, if_neg c2_1, if_pos c12_5, if_pos c23_6, if_true, if_false, ↓reduceIte]; done) | (simp [rankF, c2_1, c12_5, c23_6]; done)), N0, e0⟩, ⟨_, rfl⟩, hW, hsame.mono (by decide) (by decide)⟩
      · refine Runs.back (fun t_ k_ => XS.icmpYes X0.here hx rfl (pc0 := 23) (pc' := 30) rfl (hb hby d1_23) rfl (flt c23_6).2.1 (by decide) (by decide) k_) ?_
        show Runs _ _ _ _ s₁ (mkF m 30 #[.val (.int p0), .val (.int p1), .val (.int p2), .val (.int p3)] [(.int ((0 : Int32) + (1 : Int32)))])
        refine Runs.back (fun t_ k_ => XS.iconst X0.here hx rfl (hb hby d1_30) k_) ?_
        show Runs _ _ _ _ s₁ (mkF m 31 #[.val (.int p0), .val (.int p1), .val (.int p2), .val (.int p3)] [(.int (0 : Int32)), (.int ((0 : Int32) + (1 : Int32)))])
        refine Runs.back (fun t_ k_ => XS.iadd X0.here hx rfl (hb hby d1_31) rfl k_) ?_
        show Runs _ _ _ _ s₁ (mkF m 32 #[.val (.int p0), .val (.int p1), .val (.int p2), .val (.int p3)] [(.int (((0 : Int32) + (1 : Int32)) + (0 : Int32)))])
        obtain ⟨fs, hr, hrun, hended, hW, hsame⟩ := X0.leave (v := some (.int (((0 : Int32) + (1 : Int32)) + (0 : Int32)))) (fun h => by rw [Bd.returns] at h; cases h)
        exact ⟨_, _, (retI X0 hx Bd.returns (hb hby d1_32) hr), hrun, hended, _, _, rfl, ⟨(by first | rfl | (simp only [rankF, if_neg c2_1, if_pos c12_5, if_neg c23_6]; done) | (simp +decide only [rankF, if_neg c2_1, if_pos c12_5, if_neg c23_6, if_true, if_false, ↓reduceIte]; done) | (simp [rankF, c2_1, c12_5, c23_6]; done)), N0, e0⟩, ⟨_, rfl⟩, hW, hsame.mono (by decide) (by decide)⟩
    · refine Runs.back (fun t_ k_ => XS.icmpYes X0.here hx rfl (pc0 := 12) (pc' := 19) rfl (hb hby d1_12) rfl (flt c12_5).2.1 (by decide) (by decide) k_) ?_
      show Runs _ _ _ _ s₁ (mkF m 19 #[.val (.int p0), .val (.int p1), .val (.int p2), .val (.int p3)] [(.int (0 : Int32))])
      refine Runs.back (fun t_ k_ => XS.iconst X0.here hx rfl (hb hby d1_19) k_) ?_
      show Runs _ _ _ _ s₁ (mkF m 20 #[.val (.int p0), .val (.int p1), .val (.int p2), .val (.int p3)] [(.int (0 : Int32)), (.int (0 : Int32))])
      refine Runs.back (fun t_ k_ => XS.iadd X0.here hx rfl (hb hby d1_20) rfl k_) ?_
      show Runs _ _ _ _ s₁ (mkF m 21 #[.val (.int p0), .val (.int p1), .val (.int p2), .val (.int p3)] [(.int ((0 : Int32) + (0 : Int32)))])
      refine Runs.back (fun t_ k_ => XS.iloadN X0.here hx rfl (hb hby d1_21) rfl k_) ?_
      show Runs _ _ _ _ s₁ (mkF m 22 #[.val (.int p0), .val (.int p1), .val (.int p2), .val (.int p3)] [(.int p3), (.int ((0 : Int32) + (0 : Int32)))])
      refine Runs.back (fun t_ k_ => XS.iloadN X0.here hx rfl (hb hby d1_22) rfl k_) ?_
      show Runs _ _ _ _ s₁ (mkF m 23 #[.val (.int p0), .val (.int p1), .val (.int p2), .val (.int p3)] [(.int p0), (.int p3), (.int ((0 : Int32) + (0 : Int32)))])
      by_cases c23_7 : p3 < p0
      · refine Runs.back (fun t_ k_ => XS.icmpNo X0.here hx rfl (hb hby d1_23) rfl (tlt c23_7).2.1 k_) ?_
        show Runs _ _ _ _ s₁ (mkF m 26 #[.val (.int p0), .val (.int p1), .val (.int p2), .val (.int p3)] [(.int ((0 : Int32) + (0 : Int32)))])
        refine Runs.back (fun t_ k_ => XS.iconst X0.here hx rfl (hb hby d1_26) k_) ?_
        show Runs _ _ _ _ s₁ (mkF m 27 #[.val (.int p0), .val (.int p1), .val (.int p2), .val (.int p3)] [(.int (1 : Int32)), (.int ((0 : Int32) + (0 : Int32)))])
        refine Runs.back (fun t_ k_ => XS.goto X0.here hx rfl (pc0 := 27) (pc' := 31) rfl (hb hby d1_27) (by decide) (by decide) k_) ?_
        show Runs _ _ _ _ s₁ (mkF m 31 #[.val (.int p0), .val (.int p1), .val (.int p2), .val (.int p3)] [(.int (1 : Int32)), (.int ((0 : Int32) + (0 : Int32)))])
        refine Runs.back (fun t_ k_ => XS.iadd X0.here hx rfl (hb hby d1_31) rfl k_) ?_
        show Runs _ _ _ _ s₁ (mkF m 32 #[.val (.int p0), .val (.int p1), .val (.int p2), .val (.int p3)] [(.int (((0 : Int32) + (0 : Int32)) + (1 : Int32)))])
        obtain ⟨fs, hr, hrun, hended, hW, hsame⟩ := X0.leave (v := some (.int (((0 : Int32) + (0 : Int32)) + (1 : Int32)))) (fun h => by rw [Bd.returns] at h; cases h)
        exact ⟨_, _, (retI X0 hx Bd.returns (hb hby d1_32) hr), hrun, hended, _, _, rfl, ⟨(by first | rfl | (simp only [rankF, if_neg c2_1, if_neg c12_5, if_pos c23_7]; done) | (simp +decide only [rankF, if_neg c2_1, if_neg c12_5, if_pos c23_7, if_true, if_false, ↓reduceIte]; done) | (simp [rankF, c2_1, c12_5, c23_7]; done)), N0, e0⟩, ⟨_, rfl⟩, hW, hsame.mono (by decide) (by decide)⟩
      · refine Runs.back (fun t_ k_ => XS.icmpYes X0.here hx rfl (pc0 := 23) (pc' := 30) rfl (hb hby d1_23) rfl (flt c23_7).2.1 (by decide) (by decide) k_) ?_
        show Runs _ _ _ _ s₁ (mkF m 30 #[.val (.int p0), .val (.int p1), .val (.int p2), .val (.int p3)] [(.int ((0 : Int32) + (0 : Int32)))])
        refine Runs.back (fun t_ k_ => XS.iconst X0.here hx rfl (hb hby d1_30) k_) ?_
        show Runs _ _ _ _ s₁ (mkF m 31 #[.val (.int p0), .val (.int p1), .val (.int p2), .val (.int p3)] [(.int (0 : Int32)), (.int ((0 : Int32) + (0 : Int32)))])
        refine Runs.back (fun t_ k_ => XS.iadd X0.here hx rfl (hb hby d1_31) rfl k_) ?_
        show Runs _ _ _ _ s₁ (mkF m 32 #[.val (.int p0), .val (.int p1), .val (.int p2), .val (.int p3)] [(.int (((0 : Int32) + (0 : Int32)) + (0 : Int32)))])
        obtain ⟨fs, hr, hrun, hended, hW, hsame⟩ := X0.leave (v := some (.int (((0 : Int32) + (0 : Int32)) + (0 : Int32)))) (fun h => by rw [Bd.returns] at h; cases h)
        exact ⟨_, _, (retI X0 hx Bd.returns (hb hby d1_32) hr), hrun, hended, _, _, rfl, ⟨(by first | rfl | (simp only [rankF, if_neg c2_1, if_neg c12_5, if_neg c23_7]; done) | (simp +decide only [rankF, if_neg c2_1, if_neg c12_5, if_neg c23_7, if_true, if_false, ↓reduceIte]; done) | (simp [rankF, c2_1, c12_5, c23_7]; done)), N0, e0⟩, ⟨_, rfl⟩, hW, hsame.mono (by decide) (by decide)⟩
theorem d6_0 : decode method_3_code 0 = .ok (.iload_n 1, 1) := by decide +kernel
theorem d6_1 : decode method_3_code 1 = .ok (.iload_n 0, 1) := by decide +kernel
theorem d6_2 : decode method_3_code 2 = .ok (.if_icmp .ne 6, 3) := by decide +kernel
theorem d6_5 : decode method_3_code 5 = .ok (.iload 5, 2) := by decide +kernel
theorem d6_7 : decode method_3_code 7 = .ok (.ireturn, 1) := by decide +kernel
theorem d6_8 : decode method_3_code 8 = .ok (.iload_n 2, 1) := by decide +kernel
theorem d6_9 : decode method_3_code 9 = .ok (.iload_n 0, 1) := by decide +kernel
theorem d6_10 : decode method_3_code 10 = .ok (.if_icmp .ne 6, 3) := by decide +kernel
theorem d6_13 : decode method_3_code 13 = .ok (.iload 6, 2) := by decide +kernel
theorem d6_15 : decode method_3_code 15 = .ok (.ireturn, 1) := by decide +kernel
theorem d6_16 : decode method_3_code 16 = .ok (.iload_n 3, 1) := by decide +kernel
theorem d6_17 : decode method_3_code 17 = .ok (.iload_n 0, 1) := by decide +kernel
theorem d6_18 : decode method_3_code 18 = .ok (.if_icmp .ne 6, 3) := by decide +kernel
theorem d6_21 : decode method_3_code 21 = .ok (.iload 7, 2) := by decide +kernel
theorem d6_23 : decode method_3_code 23 = .ok (.ireturn, 1) := by decide +kernel
theorem d6_24 : decode method_3_code 24 = .ok (.iload 8, 2) := by decide +kernel
theorem d6_26 : decode method_3_code 26 = .ok (.ireturn, 1) := by decide +kernel
theorem pn_6 : plainName "com/example/tradewheel/tradewheel/PartQueueRemovePinLaw" = true := by first | (simp [plainName, overriddenIn]; done) | decide +kernel
theorem ef_6 (m : MethodId) (p0 : Int32) (p1 : Int32) (p2 : Int32) (p3 : Int32) (p4 : Int32) (p5 : Int32) (p6 : Int32) (p7 : Int32) (p8 : Int32) : entryFrame m #[(.int p0), (.int p1), (.int p2), (.int p3), (.int p4), (.int p5), (.int p6), (.int p7), (.int p8)] 9 = mkF m 0 #[.val (.int p0), .val (.int p1), .val (.int p2), .val (.int p3), .val (.int p4), .val (.int p5), .val (.int p6), .val (.int p7), .val (.int p8)] [] := by first | (simp [entryFrame, mkF, argsToLocals, Value.category]; done) | rfl
def Q6 (Z : State) (p0 : Int32) (p1 : Int32) (p2 : Int32) (p3 : Int32) (p4 : Int32) (p5 : Int32) (p6 : Int32) (p7 : Int32) (p8 : Int32)  (h0 : Heap) (n0 : Nat) (v : Option Value) (h : Heap) (L : List Loc) : Prop := v = some (.int (pickF p0 p1 p2 p3 p4 p5 p6 p7 p8)) ∧ Fr n0 L ∧ h = h0
set_option maxRecDepth 65536 in
set_option maxHeartbeats 40000000 in
theorem rm6 (l : Launch) (Z : State) (a0 : Array Value) (hw : ∀ d ∈ tables_1, d.before a0 Z = true) (ws : List Jvm.Cond) (p0 : Int32) (p1 : Int32) (p2 : Int32) (p3 : Int32) (p4 : Int32) (p5 : Int32) (p6 : Int32) (p7 : Int32) (p8 : Int32)  (h0 : Heap) (n0 : Nat) (Z0 : n0 ≤ h0.size) :
    MetFree l (⟨"com/example/tradewheel/tradewheel/PartQueueRemovePinLaw", "pick", "(IIIIIIIII)I"⟩ : MethodName) (head1 (Jvm.Cond.code (⟨"com/example/tradewheel/tradewheel/PartQueueRemovePinLaw", "pick", "(IIIIIIIII)I"⟩ : MethodName) method_3_code 9 (some .int) :: ws) ({ frames := 0, cells := 0, slots := 0, locals := 0 } : Room)) (fun a U => a = #[(.int p0), (.int p1), (.int p2), (.int p3), (.int p4), (.int p5), (.int p6), (.int p7), (.int p8)] ∧ Z.Warmed39 U.vm ∧ U.heap = h0) (fun _ _ _ _ _ => True) (fun _ U o U' => ∃ v L, o = .returned v ∧ Q6 Z p0 p1 p2 p3 p4 p5 p6 p7 p8 h0 n0 v U'.heap L ∧ FrameEnd U o U' L ({ frames := 0, cells := 0, slots := 0, locals := 0 } : Room).cells ({ frames := 0, cells := 0, slots := 0, locals := 0 } : Room).slots) := by
  refine MetFree.of_bodySF (plainFor_of_name pn_6) hisR ?_
  intro p e s m args below meth c s₁ Bd hml0 hP hK
  obtain ⟨rfl, hZ, hh⟩ := hP
  have hx := Bd.exec
  have hby := Bd.bytes
  have hml : c.maxLocals = 9 := hml0
  have hown : s.vm.findClass "com/example/tradewheel/tradewheel/PartQueueRemovePinLaw" = some m.cls := findClass_of_methodNamed Bd.named
  have hnm := (name_of_methodNamed Bd.named Bd.method).1
  have X0 : Stand p l e ({ frames := 0, cells := 0, slots := 0, locals := 0 } : Room) s m #[(.int p0), (.int p1), (.int p2), (.int p3), (.int p4), (.int p5), (.int p6), (.int p7), (.int p8)] below meth c s₁ [] 0 0 := Stand.of_body Bd
  have e0 : s₁.heap = h0 := by rw [← hh, Bd.state]; rfl
  have N0 := Fr.nil n0
  refine Runs.enter (ef_6 m p0 p1 p2 p3 p4 p5 p6 p7 p8) ?_
  show Runs _ _ _ _ s₁ (mkF m 0 #[.val (.int p0), .val (.int p1), .val (.int p2), .val (.int p3), .val (.int p4), .val (.int p5), .val (.int p6), .val (.int p7), .val (.int p8)] [])
  refine Runs.back (fun t_ k_ => XS.iloadN X0.here hx rfl (hb hby d6_0) rfl k_) ?_
  show Runs _ _ _ _ s₁ (mkF m 1 #[.val (.int p0), .val (.int p1), .val (.int p2), .val (.int p3), .val (.int p4), .val (.int p5), .val (.int p6), .val (.int p7), .val (.int p8)] [(.int p1)])
  refine Runs.back (fun t_ k_ => XS.iloadN X0.here hx rfl (hb hby d6_1) rfl k_) ?_
  show Runs _ _ _ _ s₁ (mkF m 2 #[.val (.int p0), .val (.int p1), .val (.int p2), .val (.int p3), .val (.int p4), .val (.int p5), .val (.int p6), .val (.int p7), .val (.int p8)] [(.int p0), (.int p1)])
  by_cases c2_1 : p1 = p0
  · refine Runs.back (fun t_ k_ => XS.icmpNo X0.here hx rfl (hb hby d6_2) rfl (teq c2_1).2 k_) ?_
    show Runs _ _ _ _ s₁ (mkF m 5 #[.val (.int p0), .val (.int p1), .val (.int p2), .val (.int p3), .val (.int p4), .val (.int p5), .val (.int p6), .val (.int p7), .val (.int p8)] [])
    refine Runs.back (fun t_ k_ => XS.iload X0.here hx rfl (hb hby d6_5) rfl k_) ?_
    show Runs _ _ _ _ s₁ (mkF m 7 #[.val (.int p0), .val (.int p1), .val (.int p2), .val (.int p3), .val (.int p4), .val (.int p5), .val (.int p6), .val (.int p7), .val (.int p8)] [(.int p5)])
    obtain ⟨fs, hr, hrun, hended, hW, hsame⟩ := X0.leave (v := some (.int p5)) (fun h => by rw [Bd.returns] at h; cases h)
    exact ⟨_, _, (retI X0 hx Bd.returns (hb hby d6_7) hr), hrun, hended, _, _, rfl, ⟨(by first | rfl | (simp only [pickF, if_pos c2_1]; done) | (simp +decide only [pickF, if_pos c2_1, if_true, if_false, ↓reduceIte]; done) | (simp [pickF, c2_1]; done)), N0, e0⟩, ⟨_, rfl⟩, hW, hsame.mono (by decide) (by decide)⟩
  · refine Runs.back (fun t_ k_ => XS.icmpYes X0.here hx rfl (pc0 := 2) (pc' := 8) rfl (hb hby d6_2) rfl (feq c2_1).2 (by decide) (by decide) k_) ?_
    show Runs _ _ _ _ s₁ (mkF m 8 #[.val (.int p0), .val (.int p1), .val (.int p2), .val (.int p3), .val (.int p4), .val (.int p5), .val (.int p6), .val (.int p7), .val (.int p8)] [])
    refine Runs.back (fun t_ k_ => XS.iloadN X0.here hx rfl (hb hby d6_8) rfl k_) ?_
    show Runs _ _ _ _ s₁ (mkF m 9 #[.val (.int p0), .val (.int p1), .val (.int p2), .val (.int p3), .val (.int p4), .val (.int p5), .val (.int p6), .val (.int p7), .val (.int p8)] [(.int p2)])
    refine Runs.back (fun t_ k_ => XS.iloadN X0.here hx rfl (hb hby d6_9) rfl k_) ?_
    show Runs _ _ _ _ s₁ (mkF m 10 #[.val (.int p0), .val (.int p1), .val (.int p2), .val (.int p3), .val (.int p4), .val (.int p5), .val (.int p6), .val (.int p7), .val (.int p8)] [(.int p0), (.int p2)])
    by_cases c10_2 : p2 = p0
    · refine Runs.back (fun t_ k_ => XS.icmpNo X0.here hx rfl (hb hby d6_10) rfl (teq c10_2).2 k_) ?_
      show Runs _ _ _ _ s₁ (mkF m 13 #[.val (.int p0), .val (.int p1), .val (.int p2), .val (.int p3), .val (.int p4), .val (.int p5), .val (.int p6), .val (.int p7), .val (.int p8)] [])
      refine Runs.back (fun t_ k_ => XS.iload X0.here hx rfl (hb hby d6_13) rfl k_) ?_
      show Runs _ _ _ _ s₁ (mkF m 15 #[.val (.int p0), .val (.int p1), .val (.int p2), .val (.int p3), .val (.int p4), .val (.int p5), .val (.int p6), .val (.int p7), .val (.int p8)] [(.int p6)])
      obtain ⟨fs, hr, hrun, hended, hW, hsame⟩ := X0.leave (v := some (.int p6)) (fun h => by rw [Bd.returns] at h; cases h)
      exact ⟨_, _, (retI X0 hx Bd.returns (hb hby d6_15) hr), hrun, hended, _, _, rfl, ⟨(by first | rfl | (simp only [pickF, if_neg c2_1, if_pos c10_2]; done) | (simp +decide only [pickF, if_neg c2_1, if_pos c10_2, if_true, if_false, ↓reduceIte]; done) | (simp [pickF, c2_1, c10_2]; done)), N0, e0⟩, ⟨_, rfl⟩, hW, hsame.mono (by decide) (by decide)⟩
    · refine Runs.back (fun t_ k_ => XS.icmpYes X0.here hx rfl (pc0 := 10) (pc' := 16) rfl (hb hby d6_10) rfl (feq c10_2).2 (by decide) (by decide) k_) ?_
      show Runs _ _ _ _ s₁ (mkF m 16 #[.val (.int p0), .val (.int p1), .val (.int p2), .val (.int p3), .val (.int p4), .val (.int p5), .val (.int p6), .val (.int p7), .val (.int p8)] [])
      refine Runs.back (fun t_ k_ => XS.iloadN X0.here hx rfl (hb hby d6_16) rfl k_) ?_
      show Runs _ _ _ _ s₁ (mkF m 17 #[.val (.int p0), .val (.int p1), .val (.int p2), .val (.int p3), .val (.int p4), .val (.int p5), .val (.int p6), .val (.int p7), .val (.int p8)] [(.int p3)])
      refine Runs.back (fun t_ k_ => XS.iloadN X0.here hx rfl (hb hby d6_17) rfl k_) ?_
      show Runs _ _ _ _ s₁ (mkF m 18 #[.val (.int p0), .val (.int p1), .val (.int p2), .val (.int p3), .val (.int p4), .val (.int p5), .val (.int p6), .val (.int p7), .val (.int p8)] [(.int p0), (.int p3)])
      by_cases c18_3 : p3 = p0
      · refine Runs.back (fun t_ k_ => XS.icmpNo X0.here hx rfl (hb hby d6_18) rfl (teq c18_3).2 k_) ?_
        show Runs _ _ _ _ s₁ (mkF m 21 #[.val (.int p0), .val (.int p1), .val (.int p2), .val (.int p3), .val (.int p4), .val (.int p5), .val (.int p6), .val (.int p7), .val (.int p8)] [])
        refine Runs.back (fun t_ k_ => XS.iload X0.here hx rfl (hb hby d6_21) rfl k_) ?_
        show Runs _ _ _ _ s₁ (mkF m 23 #[.val (.int p0), .val (.int p1), .val (.int p2), .val (.int p3), .val (.int p4), .val (.int p5), .val (.int p6), .val (.int p7), .val (.int p8)] [(.int p7)])
        obtain ⟨fs, hr, hrun, hended, hW, hsame⟩ := X0.leave (v := some (.int p7)) (fun h => by rw [Bd.returns] at h; cases h)
        exact ⟨_, _, (retI X0 hx Bd.returns (hb hby d6_23) hr), hrun, hended, _, _, rfl, ⟨(by first | rfl | (simp only [pickF, if_neg c2_1, if_neg c10_2, if_pos c18_3]; done) | (simp +decide only [pickF, if_neg c2_1, if_neg c10_2, if_pos c18_3, if_true, if_false, ↓reduceIte]; done) | (simp [pickF, c2_1, c10_2, c18_3]; done)), N0, e0⟩, ⟨_, rfl⟩, hW, hsame.mono (by decide) (by decide)⟩
      · refine Runs.back (fun t_ k_ => XS.icmpYes X0.here hx rfl (pc0 := 18) (pc' := 24) rfl (hb hby d6_18) rfl (feq c18_3).2 (by decide) (by decide) k_) ?_
        show Runs _ _ _ _ s₁ (mkF m 24 #[.val (.int p0), .val (.int p1), .val (.int p2), .val (.int p3), .val (.int p4), .val (.int p5), .val (.int p6), .val (.int p7), .val (.int p8)] [])
        refine Runs.back (fun t_ k_ => XS.iload X0.here hx rfl (hb hby d6_24) rfl k_) ?_
        show Runs _ _ _ _ s₁ (mkF m 26 #[.val (.int p0), .val (.int p1), .val (.int p2), .val (.int p3), .val (.int p4), .val (.int p5), .val (.int p6), .val (.int p7), .val (.int p8)] [(.int p8)])
        obtain ⟨fs, hr, hrun, hended, hW, hsame⟩ := X0.leave (v := some (.int p8)) (fun h => by rw [Bd.returns] at h; cases h)
        exact ⟨_, _, (retI X0 hx Bd.returns (hb hby d6_26) hr), hrun, hended, _, _, rfl, ⟨(by first | rfl | (simp only [pickF, if_neg c2_1, if_neg c10_2, if_neg c18_3]; done) | (simp +decide only [pickF, if_neg c2_1, if_neg c10_2, if_neg c18_3, if_true, if_false, ↓reduceIte]; done) | (simp [pickF, c2_1, c10_2, c18_3]; done)), N0, e0⟩, ⟨_, rfl⟩, hW, hsame.mono (by decide) (by decide)⟩
theorem pn_0 : plainName "com/example/tradewheel/tradewheel/PartQueueRemovePinLaw" = true := by first | (simp [plainName, overriddenIn]; done) | decide +kernel
theorem pd0_0 : parseMethodDescriptor "(IIII)I" = some ⟨[.int, .int, .int, .int], some .int⟩ := by decide +kernel
theorem pd0_1 : parseMethodDescriptor "(I)V" = some ⟨[.int], none⟩ := by decide +kernel
theorem pd0_2 : parseMethodDescriptor "(II)V" = some ⟨[.int, .int], none⟩ := by decide +kernel
theorem pd0_3 : parseMethodDescriptor "()I" = some ⟨[], some .int⟩ := by decide +kernel
theorem pd0_4 : parseMethodDescriptor "(IIIIIIIII)I" = some ⟨[.int, .int, .int, .int, .int, .int, .int, .int, .int], some .int⟩ := by decide +kernel
theorem ef_0 (m : MethodId) (p0 : Int32) (p1 : Int32) (p2 : Int32) (p3 : Int32) (p4 : Int32) : entryFrame m #[(.int p0), (.int p1), (.int p2), (.int p3), (.int p4)] maxLocals = mkF m 0 #[.val (.int p0), .val (.int p1), .val (.int p2), .val (.int p3), .val (.int p4), .unset, .unset, .unset, .unset, .unset, .unset, .unset, .unset, .unset, .unset, .unset, .unset, .unset, .unset, .unset, .unset, .unset, .unset, .unset, .unset] [] := by first | (simp [entryFrame, mkF, argsToLocals, Value.category, maxLocals]; done) | rfl
def Q0 (Z : State) (p0 : Int32) (p1 : Int32) (p2 : Int32) (p3 : Int32) (p4 : Int32)  (h0 : Heap) (n0 : Nat) (v : Option Value) (h : Heap) (L : List Loc) : Prop := v = some (.int 1) ∧ Fr n0 L
set_option maxRecDepth 65536 in
set_option maxHeartbeats 40000000 in
theorem rm0 (l : Launch) (Z : State) (a0 : Array Value) (hw : ∀ d ∈ tables_1, d.before a0 Z = true) (ws : List Jvm.Cond) (p0 : Int32) (p1 : Int32) (p2 : Int32) (p3 : Int32) (p4 : Int32)  (h0 : Heap) (n0 : Nat) (Z0 : n0 ≤ h0.size) :
    MetFree l x (head1 (Jvm.Cond.code x code maxLocals ret :: ws) room_1) (fun a U => a = #[(.int p0), (.int p1), (.int p2), (.int p3), (.int p4)] ∧ Z.Warmed39 U.vm ∧ U.heap = h0) (fun _ _ _ _ _ => True) (fun _ U o U' => ∃ v L, o = .returned v ∧ Q0 Z p0 p1 p2 p3 p4 h0 n0 v U'.heap L ∧ FrameEnd U o U' L 16 128) := by
  refine MetFree.of_bodySF (plainFor_of_name pn_0) hisR ?_
  intro p e s m args below meth c s₁ Bd hml0 hP hK
  obtain ⟨rfl, hZ, hh⟩ := hP
  have hx := Bd.exec
  have hby := Bd.bytes
  have hml : c.maxLocals = 25 := hml0
  have hown : s.vm.findClass "com/example/tradewheel/tradewheel/PartQueueRemovePinLaw" = some m.cls := findClass_of_methodNamed Bd.named
  have hnm := (name_of_methodNamed Bd.named Bd.method).1
  have X0 : Stand p l e room_1 s m #[(.int p0), (.int p1), (.int p2), (.int p3), (.int p4)] below meth c s₁ [] 0 0 := Stand.of_body Bd
  have e0 : s₁.heap = h0 := by rw [← hh, Bd.state]; rfl
  have N0 := Fr.nil n0
  refine Runs.enter (ef_0 m p0 p1 p2 p3 p4) ?_
  show Runs _ _ _ _ s₁ (mkF m 0 #[.val (.int p0), .val (.int p1), .val (.int p2), .val (.int p3), .val (.int p4), .unset, .unset, .unset, .unset, .unset, .unset, .unset, .unset, .unset, .unset, .unset, .unset, .unset, .unset, .unset, .unset, .unset, .unset, .unset, .unset] [])
  refine Runs.back (fun t_ k_ => XS.iloadN X0.here hx rfl (hb hby at_0) rfl k_) ?_
  show Runs _ _ _ _ s₁ (mkF m 1 #[.val (.int p0), .val (.int p1), .val (.int p2), .val (.int p3), .val (.int p4), .unset, .unset, .unset, .unset, .unset, .unset, .unset, .unset, .unset, .unset, .unset, .unset, .unset, .unset, .unset, .unset, .unset, .unset, .unset, .unset] [(.int p0)])
  refine Runs.back (X0.ldcInt hx hown (mvT hZ (hw _ (List.mem_of_getElem? (i := 0) rfl))) (g := (mkF m 1 #[.val (.int p0), .val (.int p1), .val (.int p2), .val (.int p3), .val (.int p4), .unset, .unset, .unset, .unset, .unset, .unset, .unset, .unset, .unset, .unset, .unset, .unset, .unset, .unset, .unset, .unset, .unset, .unset, .unset, .unset] [(.int p0)])) rfl (hb hby at_1)) ?_
  show Runs _ _ _ _ s₁ (mkF m 3 #[.val (.int p0), .val (.int p1), .val (.int p2), .val (.int p3), .val (.int p4), .unset, .unset, .unset, .unset, .unset, .unset, .unset, .unset, .unset, .unset, .unset, .unset, .unset, .unset, .unset, .unset, .unset, .unset, .unset, .unset] [(.int (536870911 : Int32)), (.int p0)])
  refine Runs.back (fun t_ k_ => XS.iand X0.here hx rfl (hb hby at_3) rfl k_) ?_
  show Runs _ _ _ _ s₁ (mkF m 4 #[.val (.int p0), .val (.int p1), .val (.int p2), .val (.int p3), .val (.int p4), .unset, .unset, .unset, .unset, .unset, .unset, .unset, .unset, .unset, .unset, .unset, .unset, .unset, .unset, .unset, .unset, .unset, .unset, .unset, .unset] [(.int (p0 &&& (536870911 : Int32)))])
  refine Runs.back (fun t_ k_ => XS.iconst X0.here hx rfl (hb hby at_4) k_) ?_
  show Runs _ _ _ _ s₁ (mkF m 5 #[.val (.int p0), .val (.int p1), .val (.int p2), .val (.int p3), .val (.int p4), .unset, .unset, .unset, .unset, .unset, .unset, .unset, .unset, .unset, .unset, .unset, .unset, .unset, .unset, .unset, .unset, .unset, .unset, .unset, .unset] [(.int (4 : Int32)), (.int (p0 &&& (536870911 : Int32)))])
  refine Runs.back (fun t_ k_ => XS.imul X0.here hx rfl (hb hby at_5) rfl k_) ?_
  show Runs _ _ _ _ s₁ (mkF m 6 #[.val (.int p0), .val (.int p1), .val (.int p2), .val (.int p3), .val (.int p4), .unset, .unset, .unset, .unset, .unset, .unset, .unset, .unset, .unset, .unset, .unset, .unset, .unset, .unset, .unset, .unset, .unset, .unset, .unset, .unset] [(.int ((p0 &&& (536870911 : Int32)) * (4 : Int32)))])
  refine Runs.back (fun t_ k_ => XS.istore X0.here hx rfl (hb hby at_6) rfl (l' := #[.val (.int p0), .val (.int p1), .val (.int p2), .val (.int p3), .val (.int p4), .val (.int ((p0 &&& (536870911 : Int32)) * (4 : Int32))), .unset, .unset, .unset, .unset, .unset, .unset, .unset, .unset, .unset, .unset, .unset, .unset, .unset, .unset, .unset, .unset, .unset, .unset, .unset]) rfl k_) ?_
  show Runs _ _ _ _ s₁ (mkF m 8 #[.val (.int p0), .val (.int p1), .val (.int p2), .val (.int p3), .val (.int p4), .val (.int ((p0 &&& (536870911 : Int32)) * (4 : Int32))), .unset, .unset, .unset, .unset, .unset, .unset, .unset, .unset, .unset, .unset, .unset, .unset, .unset, .unset, .unset, .unset, .unset, .unset, .unset] [])
  refine Runs.back (fun t_ k_ => XS.iloadN X0.here hx rfl (hb hby at_8) rfl k_) ?_
  show Runs _ _ _ _ s₁ (mkF m 9 #[.val (.int p0), .val (.int p1), .val (.int p2), .val (.int p3), .val (.int p4), .val (.int ((p0 &&& (536870911 : Int32)) * (4 : Int32))), .unset, .unset, .unset, .unset, .unset, .unset, .unset, .unset, .unset, .unset, .unset, .unset, .unset, .unset, .unset, .unset, .unset, .unset, .unset] [(.int p1)])
  refine Runs.back (X0.ldcInt hx hown (mvT hZ (hw _ (List.mem_of_getElem? (i := 0) rfl))) (g := (mkF m 9 #[.val (.int p0), .val (.int p1), .val (.int p2), .val (.int p3), .val (.int p4), .val (.int ((p0 &&& (536870911 : Int32)) * (4 : Int32))), .unset, .unset, .unset, .unset, .unset, .unset, .unset, .unset, .unset, .unset, .unset, .unset, .unset, .unset, .unset, .unset, .unset, .unset, .unset] [(.int p1)])) rfl (hb hby at_9)) ?_
  show Runs _ _ _ _ s₁ (mkF m 11 #[.val (.int p0), .val (.int p1), .val (.int p2), .val (.int p3), .val (.int p4), .val (.int ((p0 &&& (536870911 : Int32)) * (4 : Int32))), .unset, .unset, .unset, .unset, .unset, .unset, .unset, .unset, .unset, .unset, .unset, .unset, .unset, .unset, .unset, .unset, .unset, .unset, .unset] [(.int (536870911 : Int32)), (.int p1)])
  refine Runs.back (fun t_ k_ => XS.iand X0.here hx rfl (hb hby at_11) rfl k_) ?_
  show Runs _ _ _ _ s₁ (mkF m 12 #[.val (.int p0), .val (.int p1), .val (.int p2), .val (.int p3), .val (.int p4), .val (.int ((p0 &&& (536870911 : Int32)) * (4 : Int32))), .unset, .unset, .unset, .unset, .unset, .unset, .unset, .unset, .unset, .unset, .unset, .unset, .unset, .unset, .unset, .unset, .unset, .unset, .unset] [(.int (p1 &&& (536870911 : Int32)))])
  refine Runs.back (fun t_ k_ => XS.iconst X0.here hx rfl (hb hby at_12) k_) ?_
  show Runs _ _ _ _ s₁ (mkF m 13 #[.val (.int p0), .val (.int p1), .val (.int p2), .val (.int p3), .val (.int p4), .val (.int ((p0 &&& (536870911 : Int32)) * (4 : Int32))), .unset, .unset, .unset, .unset, .unset, .unset, .unset, .unset, .unset, .unset, .unset, .unset, .unset, .unset, .unset, .unset, .unset, .unset, .unset] [(.int (4 : Int32)), (.int (p1 &&& (536870911 : Int32)))])
  refine Runs.back (fun t_ k_ => XS.imul X0.here hx rfl (hb hby at_13) rfl k_) ?_
  show Runs _ _ _ _ s₁ (mkF m 14 #[.val (.int p0), .val (.int p1), .val (.int p2), .val (.int p3), .val (.int p4), .val (.int ((p0 &&& (536870911 : Int32)) * (4 : Int32))), .unset, .unset, .unset, .unset, .unset, .unset, .unset, .unset, .unset, .unset, .unset, .unset, .unset, .unset, .unset, .unset, .unset, .unset, .unset] [(.int ((p1 &&& (536870911 : Int32)) * (4 : Int32)))])
  refine Runs.back (fun t_ k_ => XS.iconst X0.here hx rfl (hb hby at_14) k_) ?_
  show Runs _ _ _ _ s₁ (mkF m 15 #[.val (.int p0), .val (.int p1), .val (.int p2), .val (.int p3), .val (.int p4), .val (.int ((p0 &&& (536870911 : Int32)) * (4 : Int32))), .unset, .unset, .unset, .unset, .unset, .unset, .unset, .unset, .unset, .unset, .unset, .unset, .unset, .unset, .unset, .unset, .unset, .unset, .unset] [(.int (1 : Int32)), (.int ((p1 &&& (536870911 : Int32)) * (4 : Int32)))])
  refine Runs.back (fun t_ k_ => XS.iadd X0.here hx rfl (hb hby at_15) rfl k_) ?_
  show Runs _ _ _ _ s₁ (mkF m 16 #[.val (.int p0), .val (.int p1), .val (.int p2), .val (.int p3), .val (.int p4), .val (.int ((p0 &&& (536870911 : Int32)) * (4 : Int32))), .unset, .unset, .unset, .unset, .unset, .unset, .unset, .unset, .unset, .unset, .unset, .unset, .unset, .unset, .unset, .unset, .unset, .unset, .unset] [(.int (((p1 &&& (536870911 : Int32)) * (4 : Int32)) + (1 : Int32)))])
  refine Runs.back (fun t_ k_ => XS.istore X0.here hx rfl (hb hby at_16) rfl (l' := #[.val (.int p0), .val (.int p1), .val (.int p2), .val (.int p3), .val (.int p4), .val (.int ((p0 &&& (536870911 : Int32)) * (4 : Int32))), .val (.int (((p1 &&& (536870911 : Int32)) * (4 : Int32)) + (1 : Int32))), .unset, .unset, .unset, .unset, .unset, .unset, .unset, .unset, .unset, .unset, .unset, .unset, .unset, .unset, .unset, .unset, .unset, .unset]) rfl k_) ?_
  show Runs _ _ _ _ s₁ (mkF m 18 #[.val (.int p0), .val (.int p1), .val (.int p2), .val (.int p3), .val (.int p4), .val (.int ((p0 &&& (536870911 : Int32)) * (4 : Int32))), .val (.int (((p1 &&& (536870911 : Int32)) * (4 : Int32)) + (1 : Int32))), .unset, .unset, .unset, .unset, .unset, .unset, .unset, .unset, .unset, .unset, .unset, .unset, .unset, .unset, .unset, .unset, .unset, .unset] [])
  refine Runs.back (fun t_ k_ => XS.iloadN X0.here hx rfl (hb hby at_18) rfl k_) ?_
  show Runs _ _ _ _ s₁ (mkF m 19 #[.val (.int p0), .val (.int p1), .val (.int p2), .val (.int p3), .val (.int p4), .val (.int ((p0 &&& (536870911 : Int32)) * (4 : Int32))), .val (.int (((p1 &&& (536870911 : Int32)) * (4 : Int32)) + (1 : Int32))), .unset, .unset, .unset, .unset, .unset, .unset, .unset, .unset, .unset, .unset, .unset, .unset, .unset, .unset, .unset, .unset, .unset, .unset] [(.int p2)])
  refine Runs.back (X0.ldcInt hx hown (mvT hZ (hw _ (List.mem_of_getElem? (i := 0) rfl))) (g := (mkF m 19 #[.val (.int p0), .val (.int p1), .val (.int p2), .val (.int p3), .val (.int p4), .val (.int ((p0 &&& (536870911 : Int32)) * (4 : Int32))), .val (.int (((p1 &&& (536870911 : Int32)) * (4 : Int32)) + (1 : Int32))), .unset, .unset, .unset, .unset, .unset, .unset, .unset, .unset, .unset, .unset, .unset, .unset, .unset, .unset, .unset, .unset, .unset, .unset] [(.int p2)])) rfl (hb hby at_19)) ?_
  show Runs _ _ _ _ s₁ (mkF m 21 #[.val (.int p0), .val (.int p1), .val (.int p2), .val (.int p3), .val (.int p4), .val (.int ((p0 &&& (536870911 : Int32)) * (4 : Int32))), .val (.int (((p1 &&& (536870911 : Int32)) * (4 : Int32)) + (1 : Int32))), .unset, .unset, .unset, .unset, .unset, .unset, .unset, .unset, .unset, .unset, .unset, .unset, .unset, .unset, .unset, .unset, .unset, .unset] [(.int (536870911 : Int32)), (.int p2)])
  refine Runs.back (fun t_ k_ => XS.iand X0.here hx rfl (hb hby at_21) rfl k_) ?_
  show Runs _ _ _ _ s₁ (mkF m 22 #[.val (.int p0), .val (.int p1), .val (.int p2), .val (.int p3), .val (.int p4), .val (.int ((p0 &&& (536870911 : Int32)) * (4 : Int32))), .val (.int (((p1 &&& (536870911 : Int32)) * (4 : Int32)) + (1 : Int32))), .unset, .unset, .unset, .unset, .unset, .unset, .unset, .unset, .unset, .unset, .unset, .unset, .unset, .unset, .unset, .unset, .unset, .unset] [(.int (p2 &&& (536870911 : Int32)))])
  refine Runs.back (fun t_ k_ => XS.iconst X0.here hx rfl (hb hby at_22) k_) ?_
  show Runs _ _ _ _ s₁ (mkF m 23 #[.val (.int p0), .val (.int p1), .val (.int p2), .val (.int p3), .val (.int p4), .val (.int ((p0 &&& (536870911 : Int32)) * (4 : Int32))), .val (.int (((p1 &&& (536870911 : Int32)) * (4 : Int32)) + (1 : Int32))), .unset, .unset, .unset, .unset, .unset, .unset, .unset, .unset, .unset, .unset, .unset, .unset, .unset, .unset, .unset, .unset, .unset, .unset] [(.int (4 : Int32)), (.int (p2 &&& (536870911 : Int32)))])
  refine Runs.back (fun t_ k_ => XS.imul X0.here hx rfl (hb hby at_23) rfl k_) ?_
  show Runs _ _ _ _ s₁ (mkF m 24 #[.val (.int p0), .val (.int p1), .val (.int p2), .val (.int p3), .val (.int p4), .val (.int ((p0 &&& (536870911 : Int32)) * (4 : Int32))), .val (.int (((p1 &&& (536870911 : Int32)) * (4 : Int32)) + (1 : Int32))), .unset, .unset, .unset, .unset, .unset, .unset, .unset, .unset, .unset, .unset, .unset, .unset, .unset, .unset, .unset, .unset, .unset, .unset] [(.int ((p2 &&& (536870911 : Int32)) * (4 : Int32)))])
  refine Runs.back (fun t_ k_ => XS.iconst X0.here hx rfl (hb hby at_24) k_) ?_
  show Runs _ _ _ _ s₁ (mkF m 25 #[.val (.int p0), .val (.int p1), .val (.int p2), .val (.int p3), .val (.int p4), .val (.int ((p0 &&& (536870911 : Int32)) * (4 : Int32))), .val (.int (((p1 &&& (536870911 : Int32)) * (4 : Int32)) + (1 : Int32))), .unset, .unset, .unset, .unset, .unset, .unset, .unset, .unset, .unset, .unset, .unset, .unset, .unset, .unset, .unset, .unset, .unset, .unset] [(.int (2 : Int32)), (.int ((p2 &&& (536870911 : Int32)) * (4 : Int32)))])
  refine Runs.back (fun t_ k_ => XS.iadd X0.here hx rfl (hb hby at_25) rfl k_) ?_
  show Runs _ _ _ _ s₁ (mkF m 26 #[.val (.int p0), .val (.int p1), .val (.int p2), .val (.int p3), .val (.int p4), .val (.int ((p0 &&& (536870911 : Int32)) * (4 : Int32))), .val (.int (((p1 &&& (536870911 : Int32)) * (4 : Int32)) + (1 : Int32))), .unset, .unset, .unset, .unset, .unset, .unset, .unset, .unset, .unset, .unset, .unset, .unset, .unset, .unset, .unset, .unset, .unset, .unset] [(.int (((p2 &&& (536870911 : Int32)) * (4 : Int32)) + (2 : Int32)))])
  refine Runs.back (fun t_ k_ => XS.istore X0.here hx rfl (hb hby at_26) rfl (l' := #[.val (.int p0), .val (.int p1), .val (.int p2), .val (.int p3), .val (.int p4), .val (.int ((p0 &&& (536870911 : Int32)) * (4 : Int32))), .val (.int (((p1 &&& (536870911 : Int32)) * (4 : Int32)) + (1 : Int32))), .val (.int (((p2 &&& (536870911 : Int32)) * (4 : Int32)) + (2 : Int32))), .unset, .unset, .unset, .unset, .unset, .unset, .unset, .unset, .unset, .unset, .unset, .unset, .unset, .unset, .unset, .unset, .unset]) rfl k_) ?_
  show Runs _ _ _ _ s₁ (mkF m 28 #[.val (.int p0), .val (.int p1), .val (.int p2), .val (.int p3), .val (.int p4), .val (.int ((p0 &&& (536870911 : Int32)) * (4 : Int32))), .val (.int (((p1 &&& (536870911 : Int32)) * (4 : Int32)) + (1 : Int32))), .val (.int (((p2 &&& (536870911 : Int32)) * (4 : Int32)) + (2 : Int32))), .unset, .unset, .unset, .unset, .unset, .unset, .unset, .unset, .unset, .unset, .unset, .unset, .unset, .unset, .unset, .unset, .unset] [])
  refine Runs.back (fun t_ k_ => XS.iloadN X0.here hx rfl (hb hby at_28) rfl k_) ?_
  show Runs _ _ _ _ s₁ (mkF m 29 #[.val (.int p0), .val (.int p1), .val (.int p2), .val (.int p3), .val (.int p4), .val (.int ((p0 &&& (536870911 : Int32)) * (4 : Int32))), .val (.int (((p1 &&& (536870911 : Int32)) * (4 : Int32)) + (1 : Int32))), .val (.int (((p2 &&& (536870911 : Int32)) * (4 : Int32)) + (2 : Int32))), .unset, .unset, .unset, .unset, .unset, .unset, .unset, .unset, .unset, .unset, .unset, .unset, .unset, .unset, .unset, .unset, .unset] [(.int p3)])
  refine Runs.back (X0.ldcInt hx hown (mvT hZ (hw _ (List.mem_of_getElem? (i := 0) rfl))) (g := (mkF m 29 #[.val (.int p0), .val (.int p1), .val (.int p2), .val (.int p3), .val (.int p4), .val (.int ((p0 &&& (536870911 : Int32)) * (4 : Int32))), .val (.int (((p1 &&& (536870911 : Int32)) * (4 : Int32)) + (1 : Int32))), .val (.int (((p2 &&& (536870911 : Int32)) * (4 : Int32)) + (2 : Int32))), .unset, .unset, .unset, .unset, .unset, .unset, .unset, .unset, .unset, .unset, .unset, .unset, .unset, .unset, .unset, .unset, .unset] [(.int p3)])) rfl (hb hby at_29)) ?_
  show Runs _ _ _ _ s₁ (mkF m 31 #[.val (.int p0), .val (.int p1), .val (.int p2), .val (.int p3), .val (.int p4), .val (.int ((p0 &&& (536870911 : Int32)) * (4 : Int32))), .val (.int (((p1 &&& (536870911 : Int32)) * (4 : Int32)) + (1 : Int32))), .val (.int (((p2 &&& (536870911 : Int32)) * (4 : Int32)) + (2 : Int32))), .unset, .unset, .unset, .unset, .unset, .unset, .unset, .unset, .unset, .unset, .unset, .unset, .unset, .unset, .unset, .unset, .unset] [(.int (536870911 : Int32)), (.int p3)])
  refine Runs.back (fun t_ k_ => XS.iand X0.here hx rfl (hb hby at_31) rfl k_) ?_
  show Runs _ _ _ _ s₁ (mkF m 32 #[.val (.int p0), .val (.int p1), .val (.int p2), .val (.int p3), .val (.int p4), .val (.int ((p0 &&& (536870911 : Int32)) * (4 : Int32))), .val (.int (((p1 &&& (536870911 : Int32)) * (4 : Int32)) + (1 : Int32))), .val (.int (((p2 &&& (536870911 : Int32)) * (4 : Int32)) + (2 : Int32))), .unset, .unset, .unset, .unset, .unset, .unset, .unset, .unset, .unset, .unset, .unset, .unset, .unset, .unset, .unset, .unset, .unset] [(.int (p3 &&& (536870911 : Int32)))])
  refine Runs.back (fun t_ k_ => XS.iconst X0.here hx rfl (hb hby at_32) k_) ?_
  show Runs _ _ _ _ s₁ (mkF m 33 #[.val (.int p0), .val (.int p1), .val (.int p2), .val (.int p3), .val (.int p4), .val (.int ((p0 &&& (536870911 : Int32)) * (4 : Int32))), .val (.int (((p1 &&& (536870911 : Int32)) * (4 : Int32)) + (1 : Int32))), .val (.int (((p2 &&& (536870911 : Int32)) * (4 : Int32)) + (2 : Int32))), .unset, .unset, .unset, .unset, .unset, .unset, .unset, .unset, .unset, .unset, .unset, .unset, .unset, .unset, .unset, .unset, .unset] [(.int (4 : Int32)), (.int (p3 &&& (536870911 : Int32)))])
  refine Runs.back (fun t_ k_ => XS.imul X0.here hx rfl (hb hby at_33) rfl k_) ?_
  show Runs _ _ _ _ s₁ (mkF m 34 #[.val (.int p0), .val (.int p1), .val (.int p2), .val (.int p3), .val (.int p4), .val (.int ((p0 &&& (536870911 : Int32)) * (4 : Int32))), .val (.int (((p1 &&& (536870911 : Int32)) * (4 : Int32)) + (1 : Int32))), .val (.int (((p2 &&& (536870911 : Int32)) * (4 : Int32)) + (2 : Int32))), .unset, .unset, .unset, .unset, .unset, .unset, .unset, .unset, .unset, .unset, .unset, .unset, .unset, .unset, .unset, .unset, .unset] [(.int ((p3 &&& (536870911 : Int32)) * (4 : Int32)))])
  refine Runs.back (fun t_ k_ => XS.iconst X0.here hx rfl (hb hby at_34) k_) ?_
  show Runs _ _ _ _ s₁ (mkF m 35 #[.val (.int p0), .val (.int p1), .val (.int p2), .val (.int p3), .val (.int p4), .val (.int ((p0 &&& (536870911 : Int32)) * (4 : Int32))), .val (.int (((p1 &&& (536870911 : Int32)) * (4 : Int32)) + (1 : Int32))), .val (.int (((p2 &&& (536870911 : Int32)) * (4 : Int32)) + (2 : Int32))), .unset, .unset, .unset, .unset, .unset, .unset, .unset, .unset, .unset, .unset, .unset, .unset, .unset, .unset, .unset, .unset, .unset] [(.int (3 : Int32)), (.int ((p3 &&& (536870911 : Int32)) * (4 : Int32)))])
  refine Runs.back (fun t_ k_ => XS.iadd X0.here hx rfl (hb hby at_35) rfl k_) ?_
  show Runs _ _ _ _ s₁ (mkF m 36 #[.val (.int p0), .val (.int p1), .val (.int p2), .val (.int p3), .val (.int p4), .val (.int ((p0 &&& (536870911 : Int32)) * (4 : Int32))), .val (.int (((p1 &&& (536870911 : Int32)) * (4 : Int32)) + (1 : Int32))), .val (.int (((p2 &&& (536870911 : Int32)) * (4 : Int32)) + (2 : Int32))), .unset, .unset, .unset, .unset, .unset, .unset, .unset, .unset, .unset, .unset, .unset, .unset, .unset, .unset, .unset, .unset, .unset] [(.int (((p3 &&& (536870911 : Int32)) * (4 : Int32)) + (3 : Int32)))])
  refine Runs.back (fun t_ k_ => XS.istore X0.here hx rfl (hb hby at_36) rfl (l' := #[.val (.int p0), .val (.int p1), .val (.int p2), .val (.int p3), .val (.int p4), .val (.int ((p0 &&& (536870911 : Int32)) * (4 : Int32))), .val (.int (((p1 &&& (536870911 : Int32)) * (4 : Int32)) + (1 : Int32))), .val (.int (((p2 &&& (536870911 : Int32)) * (4 : Int32)) + (2 : Int32))), .val (.int (((p3 &&& (536870911 : Int32)) * (4 : Int32)) + (3 : Int32))), .unset, .unset, .unset, .unset, .unset, .unset, .unset, .unset, .unset, .unset, .unset, .unset, .unset, .unset, .unset, .unset]) rfl k_) ?_
  show Runs _ _ _ _ s₁ (mkF m 38 #[.val (.int p0), .val (.int p1), .val (.int p2), .val (.int p3), .val (.int p4), .val (.int ((p0 &&& (536870911 : Int32)) * (4 : Int32))), .val (.int (((p1 &&& (536870911 : Int32)) * (4 : Int32)) + (1 : Int32))), .val (.int (((p2 &&& (536870911 : Int32)) * (4 : Int32)) + (2 : Int32))), .val (.int (((p3 &&& (536870911 : Int32)) * (4 : Int32)) + (3 : Int32))), .unset, .unset, .unset, .unset, .unset, .unset, .unset, .unset, .unset, .unset, .unset, .unset, .unset, .unset, .unset, .unset] [])
  refine Runs.back (fun t_ k_ => XS.iload X0.here hx rfl (hb hby at_38) rfl k_) ?_
  show Runs _ _ _ _ s₁ (mkF m 40 #[.val (.int p0), .val (.int p1), .val (.int p2), .val (.int p3), .val (.int p4), .val (.int ((p0 &&& (536870911 : Int32)) * (4 : Int32))), .val (.int (((p1 &&& (536870911 : Int32)) * (4 : Int32)) + (1 : Int32))), .val (.int (((p2 &&& (536870911 : Int32)) * (4 : Int32)) + (2 : Int32))), .val (.int (((p3 &&& (536870911 : Int32)) * (4 : Int32)) + (3 : Int32))), .unset, .unset, .unset, .unset, .unset, .unset, .unset, .unset, .unset, .unset, .unset, .unset, .unset, .unset, .unset, .unset] [(.int p4)])
  refine Runs.back (fun t_ k_ => XS.iconst X0.here hx rfl (hb hby at_40) k_) ?_
  show Runs _ _ _ _ s₁ (mkF m 41 #[.val (.int p0), .val (.int p1), .val (.int p2), .val (.int p3), .val (.int p4), .val (.int ((p0 &&& (536870911 : Int32)) * (4 : Int32))), .val (.int (((p1 &&& (536870911 : Int32)) * (4 : Int32)) + (1 : Int32))), .val (.int (((p2 &&& (536870911 : Int32)) * (4 : Int32)) + (2 : Int32))), .val (.int (((p3 &&& (536870911 : Int32)) * (4 : Int32)) + (3 : Int32))), .unset, .unset, .unset, .unset, .unset, .unset, .unset, .unset, .unset, .unset, .unset, .unset, .unset, .unset, .unset, .unset] [(.int (3 : Int32)), (.int p4)])
  refine Runs.back (fun t_ k_ => XS.iand X0.here hx rfl (hb hby at_41) rfl k_) ?_
  show Runs _ _ _ _ s₁ (mkF m 42 #[.val (.int p0), .val (.int p1), .val (.int p2), .val (.int p3), .val (.int p4), .val (.int ((p0 &&& (536870911 : Int32)) * (4 : Int32))), .val (.int (((p1 &&& (536870911 : Int32)) * (4 : Int32)) + (1 : Int32))), .val (.int (((p2 &&& (536870911 : Int32)) * (4 : Int32)) + (2 : Int32))), .val (.int (((p3 &&& (536870911 : Int32)) * (4 : Int32)) + (3 : Int32))), .unset, .unset, .unset, .unset, .unset, .unset, .unset, .unset, .unset, .unset, .unset, .unset, .unset, .unset, .unset, .unset] [(.int (p4 &&& (3 : Int32)))])
  refine Runs.back (fun t_ k_ => XS.istore X0.here hx rfl (hb hby at_42) rfl (l' := #[.val (.int p0), .val (.int p1), .val (.int p2), .val (.int p3), .val (.int p4), .val (.int ((p0 &&& (536870911 : Int32)) * (4 : Int32))), .val (.int (((p1 &&& (536870911 : Int32)) * (4 : Int32)) + (1 : Int32))), .val (.int (((p2 &&& (536870911 : Int32)) * (4 : Int32)) + (2 : Int32))), .val (.int (((p3 &&& (536870911 : Int32)) * (4 : Int32)) + (3 : Int32))), .val (.int (p4 &&& (3 : Int32))), .unset, .unset, .unset, .unset, .unset, .unset, .unset, .unset, .unset, .unset, .unset, .unset, .unset, .unset, .unset]) rfl k_) ?_
  show Runs _ _ _ _ s₁ (mkF m 44 #[.val (.int p0), .val (.int p1), .val (.int p2), .val (.int p3), .val (.int p4), .val (.int ((p0 &&& (536870911 : Int32)) * (4 : Int32))), .val (.int (((p1 &&& (536870911 : Int32)) * (4 : Int32)) + (1 : Int32))), .val (.int (((p2 &&& (536870911 : Int32)) * (4 : Int32)) + (2 : Int32))), .val (.int (((p3 &&& (536870911 : Int32)) * (4 : Int32)) + (3 : Int32))), .val (.int (p4 &&& (3 : Int32))), .unset, .unset, .unset, .unset, .unset, .unset, .unset, .unset, .unset, .unset, .unset, .unset, .unset, .unset, .unset] [])
  refine Runs.back (fun t_ k_ => XS.iload X0.here hx rfl (hb hby at_44) rfl k_) ?_
  show Runs _ _ _ _ s₁ (mkF m 46 #[.val (.int p0), .val (.int p1), .val (.int p2), .val (.int p3), .val (.int p4), .val (.int ((p0 &&& (536870911 : Int32)) * (4 : Int32))), .val (.int (((p1 &&& (536870911 : Int32)) * (4 : Int32)) + (1 : Int32))), .val (.int (((p2 &&& (536870911 : Int32)) * (4 : Int32)) + (2 : Int32))), .val (.int (((p3 &&& (536870911 : Int32)) * (4 : Int32)) + (3 : Int32))), .val (.int (p4 &&& (3 : Int32))), .unset, .unset, .unset, .unset, .unset, .unset, .unset, .unset, .unset, .unset, .unset, .unset, .unset, .unset, .unset] [(.int p4)])
  refine Runs.back (fun t_ k_ => XS.iconst X0.here hx rfl (hb hby at_46) k_) ?_
  show Runs _ _ _ _ s₁ (mkF m 47 #[.val (.int p0), .val (.int p1), .val (.int p2), .val (.int p3), .val (.int p4), .val (.int ((p0 &&& (536870911 : Int32)) * (4 : Int32))), .val (.int (((p1 &&& (536870911 : Int32)) * (4 : Int32)) + (1 : Int32))), .val (.int (((p2 &&& (536870911 : Int32)) * (4 : Int32)) + (2 : Int32))), .val (.int (((p3 &&& (536870911 : Int32)) * (4 : Int32)) + (3 : Int32))), .val (.int (p4 &&& (3 : Int32))), .unset, .unset, .unset, .unset, .unset, .unset, .unset, .unset, .unset, .unset, .unset, .unset, .unset, .unset, .unset] [(.int (1 : Int32)), (.int p4)])
  refine Runs.back (fun t_ k_ => XS.iadd X0.here hx rfl (hb hby at_47) rfl k_) ?_
  show Runs _ _ _ _ s₁ (mkF m 48 #[.val (.int p0), .val (.int p1), .val (.int p2), .val (.int p3), .val (.int p4), .val (.int ((p0 &&& (536870911 : Int32)) * (4 : Int32))), .val (.int (((p1 &&& (536870911 : Int32)) * (4 : Int32)) + (1 : Int32))), .val (.int (((p2 &&& (536870911 : Int32)) * (4 : Int32)) + (2 : Int32))), .val (.int (((p3 &&& (536870911 : Int32)) * (4 : Int32)) + (3 : Int32))), .val (.int (p4 &&& (3 : Int32))), .unset, .unset, .unset, .unset, .unset, .unset, .unset, .unset, .unset, .unset, .unset, .unset, .unset, .unset, .unset] [(.int (p4 + (1 : Int32)))])
  refine Runs.back (fun t_ k_ => XS.iconst X0.here hx rfl (hb hby at_48) k_) ?_
  show Runs _ _ _ _ s₁ (mkF m 49 #[.val (.int p0), .val (.int p1), .val (.int p2), .val (.int p3), .val (.int p4), .val (.int ((p0 &&& (536870911 : Int32)) * (4 : Int32))), .val (.int (((p1 &&& (536870911 : Int32)) * (4 : Int32)) + (1 : Int32))), .val (.int (((p2 &&& (536870911 : Int32)) * (4 : Int32)) + (2 : Int32))), .val (.int (((p3 &&& (536870911 : Int32)) * (4 : Int32)) + (3 : Int32))), .val (.int (p4 &&& (3 : Int32))), .unset, .unset, .unset, .unset, .unset, .unset, .unset, .unset, .unset, .unset, .unset, .unset, .unset, .unset, .unset] [(.int (3 : Int32)), (.int (p4 + (1 : Int32)))])
  refine Runs.back (fun t_ k_ => XS.iand X0.here hx rfl (hb hby at_49) rfl k_) ?_
  show Runs _ _ _ _ s₁ (mkF m 50 #[.val (.int p0), .val (.int p1), .val (.int p2), .val (.int p3), .val (.int p4), .val (.int ((p0 &&& (536870911 : Int32)) * (4 : Int32))), .val (.int (((p1 &&& (536870911 : Int32)) * (4 : Int32)) + (1 : Int32))), .val (.int (((p2 &&& (536870911 : Int32)) * (4 : Int32)) + (2 : Int32))), .val (.int (((p3 &&& (536870911 : Int32)) * (4 : Int32)) + (3 : Int32))), .val (.int (p4 &&& (3 : Int32))), .unset, .unset, .unset, .unset, .unset, .unset, .unset, .unset, .unset, .unset, .unset, .unset, .unset, .unset, .unset] [(.int ((p4 + (1 : Int32)) &&& (3 : Int32)))])
  refine Runs.back (fun t_ k_ => XS.istore X0.here hx rfl (hb hby at_50) rfl (l' := #[.val (.int p0), .val (.int p1), .val (.int p2), .val (.int p3), .val (.int p4), .val (.int ((p0 &&& (536870911 : Int32)) * (4 : Int32))), .val (.int (((p1 &&& (536870911 : Int32)) * (4 : Int32)) + (1 : Int32))), .val (.int (((p2 &&& (536870911 : Int32)) * (4 : Int32)) + (2 : Int32))), .val (.int (((p3 &&& (536870911 : Int32)) * (4 : Int32)) + (3 : Int32))), .val (.int (p4 &&& (3 : Int32))), .val (.int ((p4 + (1 : Int32)) &&& (3 : Int32))), .unset, .unset, .unset, .unset, .unset, .unset, .unset, .unset, .unset, .unset, .unset, .unset, .unset, .unset]) rfl k_) ?_
  show Runs _ _ _ _ s₁ (mkF m 52 #[.val (.int p0), .val (.int p1), .val (.int p2), .val (.int p3), .val (.int p4), .val (.int ((p0 &&& (536870911 : Int32)) * (4 : Int32))), .val (.int (((p1 &&& (536870911 : Int32)) * (4 : Int32)) + (1 : Int32))), .val (.int (((p2 &&& (536870911 : Int32)) * (4 : Int32)) + (2 : Int32))), .val (.int (((p3 &&& (536870911 : Int32)) * (4 : Int32)) + (3 : Int32))), .val (.int (p4 &&& (3 : Int32))), .val (.int ((p4 + (1 : Int32)) &&& (3 : Int32))), .unset, .unset, .unset, .unset, .unset, .unset, .unset, .unset, .unset, .unset, .unset, .unset, .unset, .unset] [])
  refine Runs.back (fun t_ k_ => XS.iload X0.here hx rfl (hb hby at_52) rfl k_) ?_
  show Runs _ _ _ _ s₁ (mkF m 54 #[.val (.int p0), .val (.int p1), .val (.int p2), .val (.int p3), .val (.int p4), .val (.int ((p0 &&& (536870911 : Int32)) * (4 : Int32))), .val (.int (((p1 &&& (536870911 : Int32)) * (4 : Int32)) + (1 : Int32))), .val (.int (((p2 &&& (536870911 : Int32)) * (4 : Int32)) + (2 : Int32))), .val (.int (((p3 &&& (536870911 : Int32)) * (4 : Int32)) + (3 : Int32))), .val (.int (p4 &&& (3 : Int32))), .val (.int ((p4 + (1 : Int32)) &&& (3 : Int32))), .unset, .unset, .unset, .unset, .unset, .unset, .unset, .unset, .unset, .unset, .unset, .unset, .unset, .unset] [(.int p4)])
  refine Runs.back (fun t_ k_ => XS.iconst X0.here hx rfl (hb hby at_54) k_) ?_
  show Runs _ _ _ _ s₁ (mkF m 55 #[.val (.int p0), .val (.int p1), .val (.int p2), .val (.int p3), .val (.int p4), .val (.int ((p0 &&& (536870911 : Int32)) * (4 : Int32))), .val (.int (((p1 &&& (536870911 : Int32)) * (4 : Int32)) + (1 : Int32))), .val (.int (((p2 &&& (536870911 : Int32)) * (4 : Int32)) + (2 : Int32))), .val (.int (((p3 &&& (536870911 : Int32)) * (4 : Int32)) + (3 : Int32))), .val (.int (p4 &&& (3 : Int32))), .val (.int ((p4 + (1 : Int32)) &&& (3 : Int32))), .unset, .unset, .unset, .unset, .unset, .unset, .unset, .unset, .unset, .unset, .unset, .unset, .unset, .unset] [(.int (2 : Int32)), (.int p4)])
  refine Runs.back (fun t_ k_ => XS.iadd X0.here hx rfl (hb hby at_55) rfl k_) ?_
  show Runs _ _ _ _ s₁ (mkF m 56 #[.val (.int p0), .val (.int p1), .val (.int p2), .val (.int p3), .val (.int p4), .val (.int ((p0 &&& (536870911 : Int32)) * (4 : Int32))), .val (.int (((p1 &&& (536870911 : Int32)) * (4 : Int32)) + (1 : Int32))), .val (.int (((p2 &&& (536870911 : Int32)) * (4 : Int32)) + (2 : Int32))), .val (.int (((p3 &&& (536870911 : Int32)) * (4 : Int32)) + (3 : Int32))), .val (.int (p4 &&& (3 : Int32))), .val (.int ((p4 + (1 : Int32)) &&& (3 : Int32))), .unset, .unset, .unset, .unset, .unset, .unset, .unset, .unset, .unset, .unset, .unset, .unset, .unset, .unset] [(.int (p4 + (2 : Int32)))])
  refine Runs.back (fun t_ k_ => XS.iconst X0.here hx rfl (hb hby at_56) k_) ?_
  show Runs _ _ _ _ s₁ (mkF m 57 #[.val (.int p0), .val (.int p1), .val (.int p2), .val (.int p3), .val (.int p4), .val (.int ((p0 &&& (536870911 : Int32)) * (4 : Int32))), .val (.int (((p1 &&& (536870911 : Int32)) * (4 : Int32)) + (1 : Int32))), .val (.int (((p2 &&& (536870911 : Int32)) * (4 : Int32)) + (2 : Int32))), .val (.int (((p3 &&& (536870911 : Int32)) * (4 : Int32)) + (3 : Int32))), .val (.int (p4 &&& (3 : Int32))), .val (.int ((p4 + (1 : Int32)) &&& (3 : Int32))), .unset, .unset, .unset, .unset, .unset, .unset, .unset, .unset, .unset, .unset, .unset, .unset, .unset, .unset] [(.int (3 : Int32)), (.int (p4 + (2 : Int32)))])
  refine Runs.back (fun t_ k_ => XS.iand X0.here hx rfl (hb hby at_57) rfl k_) ?_
  show Runs _ _ _ _ s₁ (mkF m 58 #[.val (.int p0), .val (.int p1), .val (.int p2), .val (.int p3), .val (.int p4), .val (.int ((p0 &&& (536870911 : Int32)) * (4 : Int32))), .val (.int (((p1 &&& (536870911 : Int32)) * (4 : Int32)) + (1 : Int32))), .val (.int (((p2 &&& (536870911 : Int32)) * (4 : Int32)) + (2 : Int32))), .val (.int (((p3 &&& (536870911 : Int32)) * (4 : Int32)) + (3 : Int32))), .val (.int (p4 &&& (3 : Int32))), .val (.int ((p4 + (1 : Int32)) &&& (3 : Int32))), .unset, .unset, .unset, .unset, .unset, .unset, .unset, .unset, .unset, .unset, .unset, .unset, .unset, .unset] [(.int ((p4 + (2 : Int32)) &&& (3 : Int32)))])
  refine Runs.back (fun t_ k_ => XS.istore X0.here hx rfl (hb hby at_58) rfl (l' := #[.val (.int p0), .val (.int p1), .val (.int p2), .val (.int p3), .val (.int p4), .val (.int ((p0 &&& (536870911 : Int32)) * (4 : Int32))), .val (.int (((p1 &&& (536870911 : Int32)) * (4 : Int32)) + (1 : Int32))), .val (.int (((p2 &&& (536870911 : Int32)) * (4 : Int32)) + (2 : Int32))), .val (.int (((p3 &&& (536870911 : Int32)) * (4 : Int32)) + (3 : Int32))), .val (.int (p4 &&& (3 : Int32))), .val (.int ((p4 + (1 : Int32)) &&& (3 : Int32))), .val (.int ((p4 + (2 : Int32)) &&& (3 : Int32))), .unset, .unset, .unset, .unset, .unset, .unset, .unset, .unset, .unset, .unset, .unset, .unset, .unset]) rfl k_) ?_
  show Runs _ _ _ _ s₁ (mkF m 60 #[.val (.int p0), .val (.int p1), .val (.int p2), .val (.int p3), .val (.int p4), .val (.int ((p0 &&& (536870911 : Int32)) * (4 : Int32))), .val (.int (((p1 &&& (536870911 : Int32)) * (4 : Int32)) + (1 : Int32))), .val (.int (((p2 &&& (536870911 : Int32)) * (4 : Int32)) + (2 : Int32))), .val (.int (((p3 &&& (536870911 : Int32)) * (4 : Int32)) + (3 : Int32))), .val (.int (p4 &&& (3 : Int32))), .val (.int ((p4 + (1 : Int32)) &&& (3 : Int32))), .val (.int ((p4 + (2 : Int32)) &&& (3 : Int32))), .unset, .unset, .unset, .unset, .unset, .unset, .unset, .unset, .unset, .unset, .unset, .unset, .unset] [])
  refine Runs.back (fun t_ k_ => XS.iload X0.here hx rfl (hb hby at_60) rfl k_) ?_
  show Runs _ _ _ _ s₁ (mkF m 62 #[.val (.int p0), .val (.int p1), .val (.int p2), .val (.int p3), .val (.int p4), .val (.int ((p0 &&& (536870911 : Int32)) * (4 : Int32))), .val (.int (((p1 &&& (536870911 : Int32)) * (4 : Int32)) + (1 : Int32))), .val (.int (((p2 &&& (536870911 : Int32)) * (4 : Int32)) + (2 : Int32))), .val (.int (((p3 &&& (536870911 : Int32)) * (4 : Int32)) + (3 : Int32))), .val (.int (p4 &&& (3 : Int32))), .val (.int ((p4 + (1 : Int32)) &&& (3 : Int32))), .val (.int ((p4 + (2 : Int32)) &&& (3 : Int32))), .unset, .unset, .unset, .unset, .unset, .unset, .unset, .unset, .unset, .unset, .unset, .unset, .unset] [(.int p4)])
  refine Runs.back (fun t_ k_ => XS.iconst X0.here hx rfl (hb hby at_62) k_) ?_
  show Runs _ _ _ _ s₁ (mkF m 63 #[.val (.int p0), .val (.int p1), .val (.int p2), .val (.int p3), .val (.int p4), .val (.int ((p0 &&& (536870911 : Int32)) * (4 : Int32))), .val (.int (((p1 &&& (536870911 : Int32)) * (4 : Int32)) + (1 : Int32))), .val (.int (((p2 &&& (536870911 : Int32)) * (4 : Int32)) + (2 : Int32))), .val (.int (((p3 &&& (536870911 : Int32)) * (4 : Int32)) + (3 : Int32))), .val (.int (p4 &&& (3 : Int32))), .val (.int ((p4 + (1 : Int32)) &&& (3 : Int32))), .val (.int ((p4 + (2 : Int32)) &&& (3 : Int32))), .unset, .unset, .unset, .unset, .unset, .unset, .unset, .unset, .unset, .unset, .unset, .unset, .unset] [(.int (3 : Int32)), (.int p4)])
  refine Runs.back (fun t_ k_ => XS.iadd X0.here hx rfl (hb hby at_63) rfl k_) ?_
  show Runs _ _ _ _ s₁ (mkF m 64 #[.val (.int p0), .val (.int p1), .val (.int p2), .val (.int p3), .val (.int p4), .val (.int ((p0 &&& (536870911 : Int32)) * (4 : Int32))), .val (.int (((p1 &&& (536870911 : Int32)) * (4 : Int32)) + (1 : Int32))), .val (.int (((p2 &&& (536870911 : Int32)) * (4 : Int32)) + (2 : Int32))), .val (.int (((p3 &&& (536870911 : Int32)) * (4 : Int32)) + (3 : Int32))), .val (.int (p4 &&& (3 : Int32))), .val (.int ((p4 + (1 : Int32)) &&& (3 : Int32))), .val (.int ((p4 + (2 : Int32)) &&& (3 : Int32))), .unset, .unset, .unset, .unset, .unset, .unset, .unset, .unset, .unset, .unset, .unset, .unset, .unset] [(.int (p4 + (3 : Int32)))])
  refine Runs.back (fun t_ k_ => XS.iconst X0.here hx rfl (hb hby at_64) k_) ?_
  show Runs _ _ _ _ s₁ (mkF m 65 #[.val (.int p0), .val (.int p1), .val (.int p2), .val (.int p3), .val (.int p4), .val (.int ((p0 &&& (536870911 : Int32)) * (4 : Int32))), .val (.int (((p1 &&& (536870911 : Int32)) * (4 : Int32)) + (1 : Int32))), .val (.int (((p2 &&& (536870911 : Int32)) * (4 : Int32)) + (2 : Int32))), .val (.int (((p3 &&& (536870911 : Int32)) * (4 : Int32)) + (3 : Int32))), .val (.int (p4 &&& (3 : Int32))), .val (.int ((p4 + (1 : Int32)) &&& (3 : Int32))), .val (.int ((p4 + (2 : Int32)) &&& (3 : Int32))), .unset, .unset, .unset, .unset, .unset, .unset, .unset, .unset, .unset, .unset, .unset, .unset, .unset] [(.int (3 : Int32)), (.int (p4 + (3 : Int32)))])
  refine Runs.back (fun t_ k_ => XS.iand X0.here hx rfl (hb hby at_65) rfl k_) ?_
  show Runs _ _ _ _ s₁ (mkF m 66 #[.val (.int p0), .val (.int p1), .val (.int p2), .val (.int p3), .val (.int p4), .val (.int ((p0 &&& (536870911 : Int32)) * (4 : Int32))), .val (.int (((p1 &&& (536870911 : Int32)) * (4 : Int32)) + (1 : Int32))), .val (.int (((p2 &&& (536870911 : Int32)) * (4 : Int32)) + (2 : Int32))), .val (.int (((p3 &&& (536870911 : Int32)) * (4 : Int32)) + (3 : Int32))), .val (.int (p4 &&& (3 : Int32))), .val (.int ((p4 + (1 : Int32)) &&& (3 : Int32))), .val (.int ((p4 + (2 : Int32)) &&& (3 : Int32))), .unset, .unset, .unset, .unset, .unset, .unset, .unset, .unset, .unset, .unset, .unset, .unset, .unset] [(.int ((p4 + (3 : Int32)) &&& (3 : Int32)))])
  refine Runs.back (fun t_ k_ => XS.istore X0.here hx rfl (hb hby at_66) rfl (l' := #[.val (.int p0), .val (.int p1), .val (.int p2), .val (.int p3), .val (.int p4), .val (.int ((p0 &&& (536870911 : Int32)) * (4 : Int32))), .val (.int (((p1 &&& (536870911 : Int32)) * (4 : Int32)) + (1 : Int32))), .val (.int (((p2 &&& (536870911 : Int32)) * (4 : Int32)) + (2 : Int32))), .val (.int (((p3 &&& (536870911 : Int32)) * (4 : Int32)) + (3 : Int32))), .val (.int (p4 &&& (3 : Int32))), .val (.int ((p4 + (1 : Int32)) &&& (3 : Int32))), .val (.int ((p4 + (2 : Int32)) &&& (3 : Int32))), .val (.int ((p4 + (3 : Int32)) &&& (3 : Int32))), .unset, .unset, .unset, .unset, .unset, .unset, .unset, .unset, .unset, .unset, .unset, .unset]) rfl k_) ?_
  show Runs _ _ _ _ s₁ (mkF m 68 #[.val (.int p0), .val (.int p1), .val (.int p2), .val (.int p3), .val (.int p4), .val (.int ((p0 &&& (536870911 : Int32)) * (4 : Int32))), .val (.int (((p1 &&& (536870911 : Int32)) * (4 : Int32)) + (1 : Int32))), .val (.int (((p2 &&& (536870911 : Int32)) * (4 : Int32)) + (2 : Int32))), .val (.int (((p3 &&& (536870911 : Int32)) * (4 : Int32)) + (3 : Int32))), .val (.int (p4 &&& (3 : Int32))), .val (.int ((p4 + (1 : Int32)) &&& (3 : Int32))), .val (.int ((p4 + (2 : Int32)) &&& (3 : Int32))), .val (.int ((p4 + (3 : Int32)) &&& (3 : Int32))), .unset, .unset, .unset, .unset, .unset, .unset, .unset, .unset, .unset, .unset, .unset, .unset] [])
  have mk0 : 0 ≤ (p0 &&& (536870911 : Int32)).toInt ∧ (p0 &&& (536870911 : Int32)).toInt < 536870912 := by rw [c_mask p0 _ 29 (by decide) (by decide)]; omega
  have sv0 := mul4 mk0
  have nn0 : 0 ≤ (((p0 &&& (536870911 : Int32)) * (4 : Int32))).toInt ∧ (((p0 &&& (536870911 : Int32)) * (4 : Int32))).toInt % 4 = 0 := by omega
  have qq0 : 0 ≤ ((p4 &&& (3 : Int32))).toInt := by rw [c_mask _ _ 2 (by decide) (by decide)]; omega
  have mk1 : 0 ≤ (p1 &&& (536870911 : Int32)).toInt ∧ (p1 &&& (536870911 : Int32)).toInt < 536870912 := by rw [c_mask p1 _ 29 (by decide) (by decide)]; omega
  have sv1 := mul4 mk1
  have av1 : (((p1 &&& (536870911 : Int32)) * (4 : Int32)) + (1 : Int32)).toInt = ((p1 &&& (536870911 : Int32)) * (4 : Int32)).toInt + (1 : Int32).toInt := add32 (by rw [show (1 : Int32).toInt = 1 from by decide]; omega) (by rw [show (1 : Int32).toInt = 1 from by decide]; omega)
  rw [show (1 : Int32).toInt = 1 from by decide] at av1
  have nn1 : 0 ≤ ((((p1 &&& (536870911 : Int32)) * (4 : Int32)) + (1 : Int32))).toInt ∧ ((((p1 &&& (536870911 : Int32)) * (4 : Int32)) + (1 : Int32))).toInt % 4 = 1 := by omega
  have qq1 : 0 ≤ (((p4 + (1 : Int32)) &&& (3 : Int32))).toInt := by rw [c_mask _ _ 2 (by decide) (by decide)]; omega
  have mk2 : 0 ≤ (p2 &&& (536870911 : Int32)).toInt ∧ (p2 &&& (536870911 : Int32)).toInt < 536870912 := by rw [c_mask p2 _ 29 (by decide) (by decide)]; omega
  have sv2 := mul4 mk2
  have av2 : (((p2 &&& (536870911 : Int32)) * (4 : Int32)) + (2 : Int32)).toInt = ((p2 &&& (536870911 : Int32)) * (4 : Int32)).toInt + (2 : Int32).toInt := add32 (by rw [show (2 : Int32).toInt = 2 from by decide]; omega) (by rw [show (2 : Int32).toInt = 2 from by decide]; omega)
  rw [show (2 : Int32).toInt = 2 from by decide] at av2
  have nn2 : 0 ≤ ((((p2 &&& (536870911 : Int32)) * (4 : Int32)) + (2 : Int32))).toInt ∧ ((((p2 &&& (536870911 : Int32)) * (4 : Int32)) + (2 : Int32))).toInt % 4 = 2 := by omega
  have qq2 : 0 ≤ (((p4 + (2 : Int32)) &&& (3 : Int32))).toInt := by rw [c_mask _ _ 2 (by decide) (by decide)]; omega
  have mk3 : 0 ≤ (p3 &&& (536870911 : Int32)).toInt ∧ (p3 &&& (536870911 : Int32)).toInt < 536870912 := by rw [c_mask p3 _ 29 (by decide) (by decide)]; omega
  have sv3 := mul4 mk3
  have av3 : (((p3 &&& (536870911 : Int32)) * (4 : Int32)) + (3 : Int32)).toInt = ((p3 &&& (536870911 : Int32)) * (4 : Int32)).toInt + (3 : Int32).toInt := add32 (by rw [show (3 : Int32).toInt = 3 from by decide]; omega) (by rw [show (3 : Int32).toInt = 3 from by decide]; omega)
  rw [show (3 : Int32).toInt = 3 from by decide] at av3
  have nn3 : 0 ≤ ((((p3 &&& (536870911 : Int32)) * (4 : Int32)) + (3 : Int32))).toInt ∧ ((((p3 &&& (536870911 : Int32)) * (4 : Int32)) + (3 : Int32))).toInt % 4 = 3 := by omega
  have qq3 : 0 ≤ (((p4 + (3 : Int32)) &&& (3 : Int32))).toInt := by rw [c_mask _ _ 2 (by decide) (by decide)]; omega
  generalize eN0 : ((p0 &&& (536870911 : Int32)) * (4 : Int32)) = nd0 at nn0 ⊢
  generalize eN1 : (((p1 &&& (536870911 : Int32)) * (4 : Int32)) + (1 : Int32)) = nd1 at nn1 ⊢
  generalize eN2 : (((p2 &&& (536870911 : Int32)) * (4 : Int32)) + (2 : Int32)) = nd2 at nn2 ⊢
  generalize eN3 : (((p3 &&& (536870911 : Int32)) * (4 : Int32)) + (3 : Int32)) = nd3 at nn3 ⊢
  generalize eQ0 : (p4 &&& (3 : Int32)) = pt0 at qq0 ⊢
  generalize eQ1 : ((p4 + (1 : Int32)) &&& (3 : Int32)) = pt1 at qq1 ⊢
  generalize eQ2 : ((p4 + (2 : Int32)) &&& (3 : Int32)) = pt2 at qq2 ⊢
  generalize eQ3 : ((p4 + (3 : Int32)) &&& (3 : Int32)) = pt3 at qq3 ⊢
  show Runs _ _ _ _ s₁ (mkF m 68 #[.val (.int p0), .val (.int p1), .val (.int p2), .val (.int p3), .val (.int p4), .val (.int nd0), .val (.int nd1), .val (.int nd2), .val (.int nd3), .val (.int pt0), .val (.int pt1), .val (.int pt2), .val (.int pt3), .unset, .unset, .unset, .unset, .unset, .unset, .unset, .unset, .unset, .unset, .unset, .unset] [])
  have F4 : Four nd0 nd1 nd2 nd3 pt0 pt1 pt2 pt3 := ⟨⟨nn0.1, nn0.2, qq0⟩, ⟨nn1.1, nn1.2, qq1⟩, ⟨nn2.1, nn2.2, qq2⟩, ⟨nn3.1, nn3.2, qq3⟩⟩
  refine Runs.back (fun t_ k_ => XS.iload X0.here hx rfl (hb hby at_68) rfl k_) ?_
  show Runs _ _ _ _ s₁ (mkF m 70 #[.val (.int p0), .val (.int p1), .val (.int p2), .val (.int p3), .val (.int p4), .val (.int nd0), .val (.int nd1), .val (.int nd2), .val (.int nd3), .val (.int pt0), .val (.int pt1), .val (.int pt2), .val (.int pt3), .unset, .unset, .unset, .unset, .unset, .unset, .unset, .unset, .unset, .unset, .unset, .unset] [(.int nd0)])
  refine Runs.back (fun t_ k_ => XS.iload X0.here hx rfl (hb hby at_70) rfl k_) ?_
  show Runs _ _ _ _ s₁ (mkF m 72 #[.val (.int p0), .val (.int p1), .val (.int p2), .val (.int p3), .val (.int p4), .val (.int nd0), .val (.int nd1), .val (.int nd2), .val (.int nd3), .val (.int pt0), .val (.int pt1), .val (.int pt2), .val (.int pt3), .unset, .unset, .unset, .unset, .unset, .unset, .unset, .unset, .unset, .unset, .unset, .unset] [(.int nd1), (.int nd0)])
  refine Runs.back (fun t_ k_ => XS.iload X0.here hx rfl (hb hby at_72) rfl k_) ?_
  show Runs _ _ _ _ s₁ (mkF m 74 #[.val (.int p0), .val (.int p1), .val (.int p2), .val (.int p3), .val (.int p4), .val (.int nd0), .val (.int nd1), .val (.int nd2), .val (.int nd3), .val (.int pt0), .val (.int pt1), .val (.int pt2), .val (.int pt3), .unset, .unset, .unset, .unset, .unset, .unset, .unset, .unset, .unset, .unset, .unset, .unset] [(.int nd2), (.int nd1), (.int nd0)])
  refine Runs.back (fun t_ k_ => XS.iload X0.here hx rfl (hb hby at_74) rfl k_) ?_
  show Runs _ _ _ _ s₁ (mkF m 76 #[.val (.int p0), .val (.int p1), .val (.int p2), .val (.int p3), .val (.int p4), .val (.int nd0), .val (.int nd1), .val (.int nd2), .val (.int nd3), .val (.int pt0), .val (.int pt1), .val (.int pt2), .val (.int pt3), .unset, .unset, .unset, .unset, .unset, .unset, .unset, .unset, .unset, .unset, .unset, .unset] [(.int nd3), (.int nd2), (.int nd1), (.int nd0)])
  obtain ⟨_, _, ⟨T1, L1, k1, n1⟩, -, X1, ⟨Lc1, hQ1, l1, y1, z1⟩, st1⟩ := Jvm.LawKit.callS X0 hx (y := (⟨"com/example/tradewheel/tradewheel/PartQueueRemovePinLaw", "rank", "(IIII)I"⟩ : MethodName)) hown (mvT hZ (hw _ (List.mem_of_getElem? (i := 1) rfl))) (mvT hZ (hw _ (List.mem_of_getElem? (i := 2) rfl))) (mvT hZ (hw _ (List.mem_of_getElem? (i := 3) rfl))) (mvT hZ (hw _ (List.mem_of_getElem? (i := 4) rfl))) (by decide) (backOf (W := 0) (rm1 l Z a0 hw [] nd0 nd1 nd2 nd3 h0 n0 (Z0)) hZ (hw _ (List.mem_of_getElem? (i := 4) rfl)) (hw _ (List.mem_of_getElem? (i := 3) rfl)) (by decide) (by decide)) (g := (mkF m 76 #[.val (.int p0), .val (.int p1), .val (.int p2), .val (.int p3), .val (.int p4), .val (.int nd0), .val (.int nd1), .val (.int nd2), .val (.int nd3), .val (.int pt0), .val (.int pt1), .val (.int pt2), .val (.int pt3), .unset, .unset, .unset, .unset, .unset, .unset, .unset, .unset, .unset, .unset, .unset, .unset] [(.int nd3), (.int nd2), (.int nd1), (.int nd0)])) rfl (by rw [hml]; rfl) (argsL := [(.int nd0), (.int nd1), (.int nd2), (.int nd3)]) (rest := []) (lenOf pd0_0 rfl) rfl (by show 2 * 0 + _ ≤ _; exact Nat.le_of_eq rfl) (hb hby at_76) (fun _ _ => ⟨rfl, e0, (by decide : 0 + 0 ≤ _), (by decide : 0 + 0 ≤ _)⟩)
  dsimp only [Pt.U, Pt.locs, Pt.cells, Pt.slots] at X1 l1 y1 z1 st1 hQ1
  obtain rfl : k1 = 0 := y1
  obtain rfl : n1 = 0 := z1
  obtain ⟨rfl, N1q, eq1⟩ := hQ1
  have N1 : Fr n0 L1 := by rw [l1]; exact Fr.app N0 N1q
  clear l1
  refine Runs.back st1 ?_
  show Runs _ _ _ _ T1 (mkF m 79 #[.val (.int p0), .val (.int p1), .val (.int p2), .val (.int p3), .val (.int p4), .val (.int nd0), .val (.int nd1), .val (.int nd2), .val (.int nd3), .val (.int pt0), .val (.int pt1), .val (.int pt2), .val (.int pt3), .unset, .unset, .unset, .unset, .unset, .unset, .unset, .unset, .unset, .unset, .unset, .unset] [(.int (rankF nd0 nd1 nd2 nd3))])
  refine Runs.back (fun t_ k_ => XS.istore X1.here hx rfl (hb hby at_79) rfl (l' := #[.val (.int p0), .val (.int p1), .val (.int p2), .val (.int p3), .val (.int p4), .val (.int nd0), .val (.int nd1), .val (.int nd2), .val (.int nd3), .val (.int pt0), .val (.int pt1), .val (.int pt2), .val (.int pt3), .val (.int (rankF nd0 nd1 nd2 nd3)), .unset, .unset, .unset, .unset, .unset, .unset, .unset, .unset, .unset, .unset, .unset]) rfl k_) ?_
  show Runs _ _ _ _ T1 (mkF m 81 #[.val (.int p0), .val (.int p1), .val (.int p2), .val (.int p3), .val (.int p4), .val (.int nd0), .val (.int nd1), .val (.int nd2), .val (.int nd3), .val (.int pt0), .val (.int pt1), .val (.int pt2), .val (.int pt3), .val (.int (rankF nd0 nd1 nd2 nd3)), .unset, .unset, .unset, .unset, .unset, .unset, .unset, .unset, .unset, .unset, .unset] [])
  refine Runs.back (fun t_ k_ => XS.iload X1.here hx rfl (hb hby at_81) rfl k_) ?_
  show Runs _ _ _ _ T1 (mkF m 83 #[.val (.int p0), .val (.int p1), .val (.int p2), .val (.int p3), .val (.int p4), .val (.int nd0), .val (.int nd1), .val (.int nd2), .val (.int nd3), .val (.int pt0), .val (.int pt1), .val (.int pt2), .val (.int pt3), .val (.int (rankF nd0 nd1 nd2 nd3)), .unset, .unset, .unset, .unset, .unset, .unset, .unset, .unset, .unset, .unset, .unset] [(.int nd1)])
  refine Runs.back (fun t_ k_ => XS.iload X1.here hx rfl (hb hby at_83) rfl k_) ?_
  show Runs _ _ _ _ T1 (mkF m 85 #[.val (.int p0), .val (.int p1), .val (.int p2), .val (.int p3), .val (.int p4), .val (.int nd0), .val (.int nd1), .val (.int nd2), .val (.int nd3), .val (.int pt0), .val (.int pt1), .val (.int pt2), .val (.int pt3), .val (.int (rankF nd0 nd1 nd2 nd3)), .unset, .unset, .unset, .unset, .unset, .unset, .unset, .unset, .unset, .unset, .unset] [(.int nd0), (.int nd1)])
  refine Runs.back (fun t_ k_ => XS.iload X1.here hx rfl (hb hby at_85) rfl k_) ?_
  show Runs _ _ _ _ T1 (mkF m 87 #[.val (.int p0), .val (.int p1), .val (.int p2), .val (.int p3), .val (.int p4), .val (.int nd0), .val (.int nd1), .val (.int nd2), .val (.int nd3), .val (.int pt0), .val (.int pt1), .val (.int pt2), .val (.int pt3), .val (.int (rankF nd0 nd1 nd2 nd3)), .unset, .unset, .unset, .unset, .unset, .unset, .unset, .unset, .unset, .unset, .unset] [(.int nd2), (.int nd0), (.int nd1)])
  refine Runs.back (fun t_ k_ => XS.iload X1.here hx rfl (hb hby at_87) rfl k_) ?_
  show Runs _ _ _ _ T1 (mkF m 89 #[.val (.int p0), .val (.int p1), .val (.int p2), .val (.int p3), .val (.int p4), .val (.int nd0), .val (.int nd1), .val (.int nd2), .val (.int nd3), .val (.int pt0), .val (.int pt1), .val (.int pt2), .val (.int pt3), .val (.int (rankF nd0 nd1 nd2 nd3)), .unset, .unset, .unset, .unset, .unset, .unset, .unset, .unset, .unset, .unset, .unset] [(.int nd3), (.int nd2), (.int nd0), (.int nd1)])
  obtain ⟨_, _, ⟨T2, L2, k2, n2⟩, -, X2, ⟨Lc2, hQ2, l2, y2, z2⟩, st2⟩ := Jvm.LawKit.callS X1 hx (y := (⟨"com/example/tradewheel/tradewheel/PartQueueRemovePinLaw", "rank", "(IIII)I"⟩ : MethodName)) hown (mvT hZ (hw _ (List.mem_of_getElem? (i := 1) rfl))) (mvT hZ (hw _ (List.mem_of_getElem? (i := 2) rfl))) (mvT hZ (hw _ (List.mem_of_getElem? (i := 3) rfl))) (mvT hZ (hw _ (List.mem_of_getElem? (i := 4) rfl))) (by decide) (backOf (W := 0) (rm1 l Z a0 hw [] nd1 nd0 nd2 nd3 h0 n0 (Z0)) hZ (hw _ (List.mem_of_getElem? (i := 4) rfl)) (hw _ (List.mem_of_getElem? (i := 3) rfl)) (by decide) (by decide)) (g := (mkF m 89 #[.val (.int p0), .val (.int p1), .val (.int p2), .val (.int p3), .val (.int p4), .val (.int nd0), .val (.int nd1), .val (.int nd2), .val (.int nd3), .val (.int pt0), .val (.int pt1), .val (.int pt2), .val (.int pt3), .val (.int (rankF nd0 nd1 nd2 nd3)), .unset, .unset, .unset, .unset, .unset, .unset, .unset, .unset, .unset, .unset, .unset] [(.int nd3), (.int nd2), (.int nd0), (.int nd1)])) rfl (by rw [hml]; rfl) (argsL := [(.int nd1), (.int nd0), (.int nd2), (.int nd3)]) (rest := []) (lenOf pd0_0 rfl) rfl (by show 2 * 0 + _ ≤ _; exact Nat.le_of_eq rfl) (hb hby at_89) (fun _ _ => ⟨rfl, eq1, (by decide : 0 + 0 ≤ _), (by decide : 0 + 0 ≤ _)⟩)
  dsimp only [Pt.U, Pt.locs, Pt.cells, Pt.slots] at X2 l2 y2 z2 st2 hQ2
  obtain rfl : k2 = 0 := y2
  obtain rfl : n2 = 0 := z2
  obtain ⟨rfl, N2q, eq2⟩ := hQ2
  have N2 : Fr n0 L2 := by rw [l2]; exact Fr.app N1 N2q
  clear l2
  refine Runs.back st2 ?_
  show Runs _ _ _ _ T2 (mkF m 92 #[.val (.int p0), .val (.int p1), .val (.int p2), .val (.int p3), .val (.int p4), .val (.int nd0), .val (.int nd1), .val (.int nd2), .val (.int nd3), .val (.int pt0), .val (.int pt1), .val (.int pt2), .val (.int pt3), .val (.int (rankF nd0 nd1 nd2 nd3)), .unset, .unset, .unset, .unset, .unset, .unset, .unset, .unset, .unset, .unset, .unset] [(.int (rankF nd1 nd0 nd2 nd3))])
  refine Runs.back (fun t_ k_ => XS.istore X2.here hx rfl (hb hby at_92) rfl (l' := #[.val (.int p0), .val (.int p1), .val (.int p2), .val (.int p3), .val (.int p4), .val (.int nd0), .val (.int nd1), .val (.int nd2), .val (.int nd3), .val (.int pt0), .val (.int pt1), .val (.int pt2), .val (.int pt3), .val (.int (rankF nd0 nd1 nd2 nd3)), .val (.int (rankF nd1 nd0 nd2 nd3)), .unset, .unset, .unset, .unset, .unset, .unset, .unset, .unset, .unset, .unset]) rfl k_) ?_
  show Runs _ _ _ _ T2 (mkF m 94 #[.val (.int p0), .val (.int p1), .val (.int p2), .val (.int p3), .val (.int p4), .val (.int nd0), .val (.int nd1), .val (.int nd2), .val (.int nd3), .val (.int pt0), .val (.int pt1), .val (.int pt2), .val (.int pt3), .val (.int (rankF nd0 nd1 nd2 nd3)), .val (.int (rankF nd1 nd0 nd2 nd3)), .unset, .unset, .unset, .unset, .unset, .unset, .unset, .unset, .unset, .unset] [])
  refine Runs.back (fun t_ k_ => XS.iload X2.here hx rfl (hb hby at_94) rfl k_) ?_
  show Runs _ _ _ _ T2 (mkF m 96 #[.val (.int p0), .val (.int p1), .val (.int p2), .val (.int p3), .val (.int p4), .val (.int nd0), .val (.int nd1), .val (.int nd2), .val (.int nd3), .val (.int pt0), .val (.int pt1), .val (.int pt2), .val (.int pt3), .val (.int (rankF nd0 nd1 nd2 nd3)), .val (.int (rankF nd1 nd0 nd2 nd3)), .unset, .unset, .unset, .unset, .unset, .unset, .unset, .unset, .unset, .unset] [(.int nd2)])
  refine Runs.back (fun t_ k_ => XS.iload X2.here hx rfl (hb hby at_96) rfl k_) ?_
  show Runs _ _ _ _ T2 (mkF m 98 #[.val (.int p0), .val (.int p1), .val (.int p2), .val (.int p3), .val (.int p4), .val (.int nd0), .val (.int nd1), .val (.int nd2), .val (.int nd3), .val (.int pt0), .val (.int pt1), .val (.int pt2), .val (.int pt3), .val (.int (rankF nd0 nd1 nd2 nd3)), .val (.int (rankF nd1 nd0 nd2 nd3)), .unset, .unset, .unset, .unset, .unset, .unset, .unset, .unset, .unset, .unset] [(.int nd0), (.int nd2)])
  refine Runs.back (fun t_ k_ => XS.iload X2.here hx rfl (hb hby at_98) rfl k_) ?_
  show Runs _ _ _ _ T2 (mkF m 100 #[.val (.int p0), .val (.int p1), .val (.int p2), .val (.int p3), .val (.int p4), .val (.int nd0), .val (.int nd1), .val (.int nd2), .val (.int nd3), .val (.int pt0), .val (.int pt1), .val (.int pt2), .val (.int pt3), .val (.int (rankF nd0 nd1 nd2 nd3)), .val (.int (rankF nd1 nd0 nd2 nd3)), .unset, .unset, .unset, .unset, .unset, .unset, .unset, .unset, .unset, .unset] [(.int nd1), (.int nd0), (.int nd2)])
  refine Runs.back (fun t_ k_ => XS.iload X2.here hx rfl (hb hby at_100) rfl k_) ?_
  show Runs _ _ _ _ T2 (mkF m 102 #[.val (.int p0), .val (.int p1), .val (.int p2), .val (.int p3), .val (.int p4), .val (.int nd0), .val (.int nd1), .val (.int nd2), .val (.int nd3), .val (.int pt0), .val (.int pt1), .val (.int pt2), .val (.int pt3), .val (.int (rankF nd0 nd1 nd2 nd3)), .val (.int (rankF nd1 nd0 nd2 nd3)), .unset, .unset, .unset, .unset, .unset, .unset, .unset, .unset, .unset, .unset] [(.int nd3), (.int nd1), (.int nd0), (.int nd2)])
  obtain ⟨_, _, ⟨T3, L3, k3, n3⟩, -, X3, ⟨Lc3, hQ3, l3, y3, z3⟩, st3⟩ := Jvm.LawKit.callS X2 hx (y := (⟨"com/example/tradewheel/tradewheel/PartQueueRemovePinLaw", "rank", "(IIII)I"⟩ : MethodName)) hown (mvT hZ (hw _ (List.mem_of_getElem? (i := 1) rfl))) (mvT hZ (hw _ (List.mem_of_getElem? (i := 2) rfl))) (mvT hZ (hw _ (List.mem_of_getElem? (i := 3) rfl))) (mvT hZ (hw _ (List.mem_of_getElem? (i := 4) rfl))) (by decide) (backOf (W := 0) (rm1 l Z a0 hw [] nd2 nd0 nd1 nd3 h0 n0 (Z0)) hZ (hw _ (List.mem_of_getElem? (i := 4) rfl)) (hw _ (List.mem_of_getElem? (i := 3) rfl)) (by decide) (by decide)) (g := (mkF m 102 #[.val (.int p0), .val (.int p1), .val (.int p2), .val (.int p3), .val (.int p4), .val (.int nd0), .val (.int nd1), .val (.int nd2), .val (.int nd3), .val (.int pt0), .val (.int pt1), .val (.int pt2), .val (.int pt3), .val (.int (rankF nd0 nd1 nd2 nd3)), .val (.int (rankF nd1 nd0 nd2 nd3)), .unset, .unset, .unset, .unset, .unset, .unset, .unset, .unset, .unset, .unset] [(.int nd3), (.int nd1), (.int nd0), (.int nd2)])) rfl (by rw [hml]; rfl) (argsL := [(.int nd2), (.int nd0), (.int nd1), (.int nd3)]) (rest := []) (lenOf pd0_0 rfl) rfl (by show 2 * 0 + _ ≤ _; exact Nat.le_of_eq rfl) (hb hby at_102) (fun _ _ => ⟨rfl, eq2, (by decide : 0 + 0 ≤ _), (by decide : 0 + 0 ≤ _)⟩)
  dsimp only [Pt.U, Pt.locs, Pt.cells, Pt.slots] at X3 l3 y3 z3 st3 hQ3
  obtain rfl : k3 = 0 := y3
  obtain rfl : n3 = 0 := z3
  obtain ⟨rfl, N3q, eq3⟩ := hQ3
  have N3 : Fr n0 L3 := by rw [l3]; exact Fr.app N2 N3q
  clear l3
  refine Runs.back st3 ?_
  show Runs _ _ _ _ T3 (mkF m 105 #[.val (.int p0), .val (.int p1), .val (.int p2), .val (.int p3), .val (.int p4), .val (.int nd0), .val (.int nd1), .val (.int nd2), .val (.int nd3), .val (.int pt0), .val (.int pt1), .val (.int pt2), .val (.int pt3), .val (.int (rankF nd0 nd1 nd2 nd3)), .val (.int (rankF nd1 nd0 nd2 nd3)), .unset, .unset, .unset, .unset, .unset, .unset, .unset, .unset, .unset, .unset] [(.int (rankF nd2 nd0 nd1 nd3))])
  refine Runs.back (fun t_ k_ => XS.istore X3.here hx rfl (hb hby at_105) rfl (l' := #[.val (.int p0), .val (.int p1), .val (.int p2), .val (.int p3), .val (.int p4), .val (.int nd0), .val (.int nd1), .val (.int nd2), .val (.int nd3), .val (.int pt0), .val (.int pt1), .val (.int pt2), .val (.int pt3), .val (.int (rankF nd0 nd1 nd2 nd3)), .val (.int (rankF nd1 nd0 nd2 nd3)), .val (.int (rankF nd2 nd0 nd1 nd3)), .unset, .unset, .unset, .unset, .unset, .unset, .unset, .unset, .unset]) rfl k_) ?_
  show Runs _ _ _ _ T3 (mkF m 107 #[.val (.int p0), .val (.int p1), .val (.int p2), .val (.int p3), .val (.int p4), .val (.int nd0), .val (.int nd1), .val (.int nd2), .val (.int nd3), .val (.int pt0), .val (.int pt1), .val (.int pt2), .val (.int pt3), .val (.int (rankF nd0 nd1 nd2 nd3)), .val (.int (rankF nd1 nd0 nd2 nd3)), .val (.int (rankF nd2 nd0 nd1 nd3)), .unset, .unset, .unset, .unset, .unset, .unset, .unset, .unset, .unset] [])
  refine Runs.back (fun t_ k_ => XS.iload X3.here hx rfl (hb hby at_107) rfl k_) ?_
  show Runs _ _ _ _ T3 (mkF m 109 #[.val (.int p0), .val (.int p1), .val (.int p2), .val (.int p3), .val (.int p4), .val (.int nd0), .val (.int nd1), .val (.int nd2), .val (.int nd3), .val (.int pt0), .val (.int pt1), .val (.int pt2), .val (.int pt3), .val (.int (rankF nd0 nd1 nd2 nd3)), .val (.int (rankF nd1 nd0 nd2 nd3)), .val (.int (rankF nd2 nd0 nd1 nd3)), .unset, .unset, .unset, .unset, .unset, .unset, .unset, .unset, .unset] [(.int nd3)])
  refine Runs.back (fun t_ k_ => XS.iload X3.here hx rfl (hb hby at_109) rfl k_) ?_
  show Runs _ _ _ _ T3 (mkF m 111 #[.val (.int p0), .val (.int p1), .val (.int p2), .val (.int p3), .val (.int p4), .val (.int nd0), .val (.int nd1), .val (.int nd2), .val (.int nd3), .val (.int pt0), .val (.int pt1), .val (.int pt2), .val (.int pt3), .val (.int (rankF nd0 nd1 nd2 nd3)), .val (.int (rankF nd1 nd0 nd2 nd3)), .val (.int (rankF nd2 nd0 nd1 nd3)), .unset, .unset, .unset, .unset, .unset, .unset, .unset, .unset, .unset] [(.int nd0), (.int nd3)])
  refine Runs.back (fun t_ k_ => XS.iload X3.here hx rfl (hb hby at_111) rfl k_) ?_
  show Runs _ _ _ _ T3 (mkF m 113 #[.val (.int p0), .val (.int p1), .val (.int p2), .val (.int p3), .val (.int p4), .val (.int nd0), .val (.int nd1), .val (.int nd2), .val (.int nd3), .val (.int pt0), .val (.int pt1), .val (.int pt2), .val (.int pt3), .val (.int (rankF nd0 nd1 nd2 nd3)), .val (.int (rankF nd1 nd0 nd2 nd3)), .val (.int (rankF nd2 nd0 nd1 nd3)), .unset, .unset, .unset, .unset, .unset, .unset, .unset, .unset, .unset] [(.int nd1), (.int nd0), (.int nd3)])
  refine Runs.back (fun t_ k_ => XS.iload X3.here hx rfl (hb hby at_113) rfl k_) ?_
  show Runs _ _ _ _ T3 (mkF m 115 #[.val (.int p0), .val (.int p1), .val (.int p2), .val (.int p3), .val (.int p4), .val (.int nd0), .val (.int nd1), .val (.int nd2), .val (.int nd3), .val (.int pt0), .val (.int pt1), .val (.int pt2), .val (.int pt3), .val (.int (rankF nd0 nd1 nd2 nd3)), .val (.int (rankF nd1 nd0 nd2 nd3)), .val (.int (rankF nd2 nd0 nd1 nd3)), .unset, .unset, .unset, .unset, .unset, .unset, .unset, .unset, .unset] [(.int nd2), (.int nd1), (.int nd0), (.int nd3)])
  obtain ⟨_, _, ⟨T4, L4, k4, n4⟩, -, X4, ⟨Lc4, hQ4, l4, y4, z4⟩, st4⟩ := Jvm.LawKit.callS X3 hx (y := (⟨"com/example/tradewheel/tradewheel/PartQueueRemovePinLaw", "rank", "(IIII)I"⟩ : MethodName)) hown (mvT hZ (hw _ (List.mem_of_getElem? (i := 1) rfl))) (mvT hZ (hw _ (List.mem_of_getElem? (i := 2) rfl))) (mvT hZ (hw _ (List.mem_of_getElem? (i := 3) rfl))) (mvT hZ (hw _ (List.mem_of_getElem? (i := 4) rfl))) (by decide) (backOf (W := 0) (rm1 l Z a0 hw [] nd3 nd0 nd1 nd2 h0 n0 (Z0)) hZ (hw _ (List.mem_of_getElem? (i := 4) rfl)) (hw _ (List.mem_of_getElem? (i := 3) rfl)) (by decide) (by decide)) (g := (mkF m 115 #[.val (.int p0), .val (.int p1), .val (.int p2), .val (.int p3), .val (.int p4), .val (.int nd0), .val (.int nd1), .val (.int nd2), .val (.int nd3), .val (.int pt0), .val (.int pt1), .val (.int pt2), .val (.int pt3), .val (.int (rankF nd0 nd1 nd2 nd3)), .val (.int (rankF nd1 nd0 nd2 nd3)), .val (.int (rankF nd2 nd0 nd1 nd3)), .unset, .unset, .unset, .unset, .unset, .unset, .unset, .unset, .unset] [(.int nd2), (.int nd1), (.int nd0), (.int nd3)])) rfl (by rw [hml]; rfl) (argsL := [(.int nd3), (.int nd0), (.int nd1), (.int nd2)]) (rest := []) (lenOf pd0_0 rfl) rfl (by show 2 * 0 + _ ≤ _; exact Nat.le_of_eq rfl) (hb hby at_115) (fun _ _ => ⟨rfl, eq3, (by decide : 0 + 0 ≤ _), (by decide : 0 + 0 ≤ _)⟩)
  dsimp only [Pt.U, Pt.locs, Pt.cells, Pt.slots] at X4 l4 y4 z4 st4 hQ4
  obtain rfl : k4 = 0 := y4
  obtain rfl : n4 = 0 := z4
  obtain ⟨rfl, N4q, eq4⟩ := hQ4
  have N4 : Fr n0 L4 := by rw [l4]; exact Fr.app N3 N4q
  clear l4
  refine Runs.back st4 ?_
  show Runs _ _ _ _ T4 (mkF m 118 #[.val (.int p0), .val (.int p1), .val (.int p2), .val (.int p3), .val (.int p4), .val (.int nd0), .val (.int nd1), .val (.int nd2), .val (.int nd3), .val (.int pt0), .val (.int pt1), .val (.int pt2), .val (.int pt3), .val (.int (rankF nd0 nd1 nd2 nd3)), .val (.int (rankF nd1 nd0 nd2 nd3)), .val (.int (rankF nd2 nd0 nd1 nd3)), .unset, .unset, .unset, .unset, .unset, .unset, .unset, .unset, .unset] [(.int (rankF nd3 nd0 nd1 nd2))])
  refine Runs.back (fun t_ k_ => XS.istore X4.here hx rfl (hb hby at_118) rfl (l' := #[.val (.int p0), .val (.int p1), .val (.int p2), .val (.int p3), .val (.int p4), .val (.int nd0), .val (.int nd1), .val (.int nd2), .val (.int nd3), .val (.int pt0), .val (.int pt1), .val (.int pt2), .val (.int pt3), .val (.int (rankF nd0 nd1 nd2 nd3)), .val (.int (rankF nd1 nd0 nd2 nd3)), .val (.int (rankF nd2 nd0 nd1 nd3)), .val (.int (rankF nd3 nd0 nd1 nd2)), .unset, .unset, .unset, .unset, .unset, .unset, .unset, .unset]) rfl k_) ?_
  show Runs _ _ _ _ T4 (mkF m 120 #[.val (.int p0), .val (.int p1), .val (.int p2), .val (.int p3), .val (.int p4), .val (.int nd0), .val (.int nd1), .val (.int nd2), .val (.int nd3), .val (.int pt0), .val (.int pt1), .val (.int pt2), .val (.int pt3), .val (.int (rankF nd0 nd1 nd2 nd3)), .val (.int (rankF nd1 nd0 nd2 nd3)), .val (.int (rankF nd2 nd0 nd1 nd3)), .val (.int (rankF nd3 nd0 nd1 nd2)), .unset, .unset, .unset, .unset, .unset, .unset, .unset, .unset] [])
  obtain ⟨T5, h5, X5, e5, E5, A5, D5, -, st5⟩ := newO X4 hx hZ hown (hw _ (List.mem_of_getElem? (i := 5) rfl)) (hw _ (List.mem_of_getElem? (i := 6) rfl)) (hw _ (List.mem_of_getElem? (i := 7) rfl)) eq4 (g := (mkF m 120 #[.val (.int p0), .val (.int p1), .val (.int p2), .val (.int p3), .val (.int p4), .val (.int nd0), .val (.int nd1), .val (.int nd2), .val (.int nd3), .val (.int pt0), .val (.int pt1), .val (.int pt2), .val (.int pt3), .val (.int (rankF nd0 nd1 nd2 nd3)), .val (.int (rankF nd1 nd0 nd2 nd3)), .val (.int (rankF nd2 nd0 nd1 nd3)), .val (.int (rankF nd3 nd0 nd1 nd2)), .unset, .unset, .unset, .unset, .unset, .unset, .unset, .unset] [])) rfl (hb hby at_120) (by decide) (by decide)
  obtain ⟨ob5, g5⟩ : ∃ z, z = h0.size := ⟨_, rfl⟩
  rw [← g5] at A5 D5 st5
  have g_ob5 : n0 ≤ ob5 := Nat.le_trans (Z0) (Nat.le_of_eq g5.symm)
  have Z5 : n0 ≤ h5.size := Nat.le_trans (Z0) E5.1
  have F5_16 : Fld Z h5 ob5 "com/example/tradewheel/tradewheel/PartQueue" "heap" "[J" .null := D5 (Or.inr (hw _ (List.mem_of_getElem? (i := 16) rfl))) (ty := (.array .long)) (by decide)
  have F5_23 : Fld Z h5 ob5 "com/example/tradewheel/tradewheel/PartQueue" "size" "I" (.int (0 : Int32)) := D5 (Or.inl (hw _ (List.mem_of_getElem? (i := 23) rfl))) (ty := .int) (by decide)
  refine Runs.back st5 ?_
  show Runs _ _ _ _ T5 (mkF m 123 #[.val (.int p0), .val (.int p1), .val (.int p2), .val (.int p3), .val (.int p4), .val (.int nd0), .val (.int nd1), .val (.int nd2), .val (.int nd3), .val (.int pt0), .val (.int pt1), .val (.int pt2), .val (.int pt3), .val (.int (rankF nd0 nd1 nd2 nd3)), .val (.int (rankF nd1 nd0 nd2 nd3)), .val (.int (rankF nd2 nd0 nd1 nd3)), .val (.int (rankF nd3 nd0 nd1 nd2)), .unset, .unset, .unset, .unset, .unset, .unset, .unset, .unset] [(.ref ob5)])
  refine Runs.back (fun t_ k_ => XS.dup X5.here hx rfl (hb hby at_123) rfl rfl k_) ?_
  show Runs _ _ _ _ T5 (mkF m 124 #[.val (.int p0), .val (.int p1), .val (.int p2), .val (.int p3), .val (.int p4), .val (.int nd0), .val (.int nd1), .val (.int nd2), .val (.int nd3), .val (.int pt0), .val (.int pt1), .val (.int pt2), .val (.int pt3), .val (.int (rankF nd0 nd1 nd2 nd3)), .val (.int (rankF nd1 nd0 nd2 nd3)), .val (.int (rankF nd2 nd0 nd1 nd3)), .val (.int (rankF nd3 nd0 nd1 nd2)), .unset, .unset, .unset, .unset, .unset, .unset, .unset, .unset] [(.ref ob5), (.ref ob5)])
  refine Runs.back (fun t_ k_ => XS.iconst X5.here hx rfl (hb hby at_124) k_) ?_
  show Runs _ _ _ _ T5 (mkF m 125 #[.val (.int p0), .val (.int p1), .val (.int p2), .val (.int p3), .val (.int p4), .val (.int nd0), .val (.int nd1), .val (.int nd2), .val (.int nd3), .val (.int pt0), .val (.int pt1), .val (.int pt2), .val (.int pt3), .val (.int (rankF nd0 nd1 nd2 nd3)), .val (.int (rankF nd1 nd0 nd2 nd3)), .val (.int (rankF nd2 nd0 nd1 nd3)), .val (.int (rankF nd3 nd0 nd1 nd2)), .unset, .unset, .unset, .unset, .unset, .unset, .unset, .unset] [(.int (4 : Int32)), (.ref ob5), (.ref ob5)])
  obtain ⟨_, _, ⟨T6, L6, k6, n6⟩, -, X6, ⟨Lc6, hQ6, l6, y6, z6⟩, st6⟩ := X5.specialBack hx (y := (⟨"com/example/tradewheel/tradewheel/PartQueue", "<init>", "(I)V"⟩ : MethodName)) rfl hown (mvT hZ (hw _ (List.mem_of_getElem? (i := 8) rfl))) (mvT hZ (hw _ (List.mem_of_getElem? (i := 9) rfl))) (mvT hZ (hw _ (List.mem_of_getElem? (i := 10) rfl))) (by decide) (backOf (W := 1) (rm2 l Z a0 hw [] ob5 (4 : Int32) _ _ h5 n0 (Z5) A5 F5_16 F5_23 g_ob5 rfl) hZ (hw _ (List.mem_of_getElem? (i := 10) rfl)) (hw _ (List.mem_of_getElem? (i := 7) rfl)) (by decide) (by decide)) (g := (mkF m 125 #[.val (.int p0), .val (.int p1), .val (.int p2), .val (.int p3), .val (.int p4), .val (.int nd0), .val (.int nd1), .val (.int nd2), .val (.int nd3), .val (.int pt0), .val (.int pt1), .val (.int pt2), .val (.int pt3), .val (.int (rankF nd0 nd1 nd2 nd3)), .val (.int (rankF nd1 nd0 nd2 nd3)), .val (.int (rankF nd2 nd0 nd1 nd3)), .val (.int (rankF nd3 nd0 nd1 nd2)), .unset, .unset, .unset, .unset, .unset, .unset, .unset, .unset] [(.int (4 : Int32)), (.ref ob5), (.ref ob5)])) rfl (by rw [hml]; rfl) (Steps.refl _) (a := ob5) (argsL := [(.int (4 : Int32))]) (rest := [(.ref ob5)]) (lenOf pd0_1 rfl) rfl (by show 2 * 0 + _ ≤ _; exact Nat.le_of_eq rfl) (hb hby at_125) (fun _ _ => ⟨rfl, e5, (by decide : 1 + 1 ≤ _), (by decide : 2 + 4 ≤ _)⟩)
  dsimp only [Pt.U, Pt.locs, Pt.cells, Pt.slots] at X6 l6 y6 z6 st6 hQ6
  obtain rfl : k6 = 2 := y6
  obtain rfl : n6 = 6 := z6
  obtain ⟨rfl, N6q, b6, g_b6, sb6, K6, iE6, iF6, iG6, iA6⟩ := hQ6
  have N6 : Fr n0 L6 := by rw [l6]; exact Fr.app N4 N6q
  clear l6
  have ne_ob5_b6 : ob5 ≠ b6 := Nat.ne_of_lt (Nat.lt_of_lt_of_le A5.lt sb6)
  have f6_Exa_0 : Exa Z T6.heap ob5 "com/example/tradewheel/tradewheel/PartQueue" := A5.keep K6
  have Z6 : n0 ≤ T6.heap.size := Nat.le_trans (Z5) K6.1
  refine Runs.trans st6 ?_
  show Runs _ _ _ _ T6 (mkF m 128 #[.val (.int p0), .val (.int p1), .val (.int p2), .val (.int p3), .val (.int p4), .val (.int nd0), .val (.int nd1), .val (.int nd2), .val (.int nd3), .val (.int pt0), .val (.int pt1), .val (.int pt2), .val (.int pt3), .val (.int (rankF nd0 nd1 nd2 nd3)), .val (.int (rankF nd1 nd0 nd2 nd3)), .val (.int (rankF nd2 nd0 nd1 nd3)), .val (.int (rankF nd3 nd0 nd1 nd2)), .unset, .unset, .unset, .unset, .unset, .unset, .unset, .unset] [(.ref ob5)])
  refine Runs.back (fun t_ k_ => XS.astore X6.here hx rfl (hb hby at_128) rfl rfl (l' := #[.val (.int p0), .val (.int p1), .val (.int p2), .val (.int p3), .val (.int p4), .val (.int nd0), .val (.int nd1), .val (.int nd2), .val (.int nd3), .val (.int pt0), .val (.int pt1), .val (.int pt2), .val (.int pt3), .val (.int (rankF nd0 nd1 nd2 nd3)), .val (.int (rankF nd1 nd0 nd2 nd3)), .val (.int (rankF nd2 nd0 nd1 nd3)), .val (.int (rankF nd3 nd0 nd1 nd2)), .val (.ref ob5), .unset, .unset, .unset, .unset, .unset, .unset, .unset]) rfl k_) ?_
  show Runs _ _ _ _ T6 (mkF m 130 #[.val (.int p0), .val (.int p1), .val (.int p2), .val (.int p3), .val (.int p4), .val (.int nd0), .val (.int nd1), .val (.int nd2), .val (.int nd3), .val (.int pt0), .val (.int pt1), .val (.int pt2), .val (.int pt3), .val (.int (rankF nd0 nd1 nd2 nd3)), .val (.int (rankF nd1 nd0 nd2 nd3)), .val (.int (rankF nd2 nd0 nd1 nd3)), .val (.int (rankF nd3 nd0 nd1 nd2)), .val (.ref ob5), .unset, .unset, .unset, .unset, .unset, .unset, .unset] [])
  refine Runs.back (fun t_ k_ => XS.aload X6.here hx rfl (hb hby at_130) rfl rfl k_) ?_
  show Runs _ _ _ _ T6 (mkF m 132 #[.val (.int p0), .val (.int p1), .val (.int p2), .val (.int p3), .val (.int p4), .val (.int nd0), .val (.int nd1), .val (.int nd2), .val (.int nd3), .val (.int pt0), .val (.int pt1), .val (.int pt2), .val (.int pt3), .val (.int (rankF nd0 nd1 nd2 nd3)), .val (.int (rankF nd1 nd0 nd2 nd3)), .val (.int (rankF nd2 nd0 nd1 nd3)), .val (.int (rankF nd3 nd0 nd1 nd2)), .val (.ref ob5), .unset, .unset, .unset, .unset, .unset, .unset, .unset] [(.ref ob5)])
  refine Runs.back (fun t_ k_ => XS.iload X6.here hx rfl (hb hby at_132) rfl k_) ?_
  show Runs _ _ _ _ T6 (mkF m 134 #[.val (.int p0), .val (.int p1), .val (.int p2), .val (.int p3), .val (.int p4), .val (.int nd0), .val (.int nd1), .val (.int nd2), .val (.int nd3), .val (.int pt0), .val (.int pt1), .val (.int pt2), .val (.int pt3), .val (.int (rankF nd0 nd1 nd2 nd3)), .val (.int (rankF nd1 nd0 nd2 nd3)), .val (.int (rankF nd2 nd0 nd1 nd3)), .val (.int (rankF nd3 nd0 nd1 nd2)), .val (.ref ob5), .unset, .unset, .unset, .unset, .unset, .unset, .unset] [(.int nd0), (.ref ob5)])
  refine Runs.back (fun t_ k_ => XS.iload X6.here hx rfl (hb hby at_134) rfl k_) ?_
  show Runs _ _ _ _ T6 (mkF m 136 #[.val (.int p0), .val (.int p1), .val (.int p2), .val (.int p3), .val (.int p4), .val (.int nd0), .val (.int nd1), .val (.int nd2), .val (.int nd3), .val (.int pt0), .val (.int pt1), .val (.int pt2), .val (.int pt3), .val (.int (rankF nd0 nd1 nd2 nd3)), .val (.int (rankF nd1 nd0 nd2 nd3)), .val (.int (rankF nd2 nd0 nd1 nd3)), .val (.int (rankF nd3 nd0 nd1 nd2)), .val (.ref ob5), .unset, .unset, .unset, .unset, .unset, .unset, .unset] [(.int pt0), (.int nd0), (.ref ob5)])
  obtain ⟨cq7, kq7, q7a, q7b, q7c⟩ := isOf hZ rfl iE6
  obtain ⟨_, _, ⟨T7, L7, k7, n7⟩, -, X7, ⟨Lc7, hQ7, l7, y7, z7⟩, st7⟩ := X6.virtualBack hx (y := (⟨"com/example/tradewheel/tradewheel/PartQueue", "add", "(II)V"⟩ : MethodName)) (z := (⟨"com/example/tradewheel/tradewheel/PartQueue", "add", "(II)V"⟩ : MethodName)) hown (mvT hZ (hw _ (List.mem_of_getElem? (i := 17) rfl))) (mvT hZ (hw _ (List.mem_of_getElem? (i := 18) rfl))) (notFace_of_selects (args := #[]) (mvT hZ (hw _ (List.mem_of_getElem? (i := 20) rfl)))) (mvT hZ (hw _ (List.mem_of_getElem? (i := 20) rfl))) (mvT hZ (hw _ (List.mem_of_getElem? (i := 19) rfl))) (by decide) (backOf (W := 0) (rm4s0 l Z a0 hw [] ob5 nd0 pt0 b6 _  T6.heap n0 (Z6) iE6 iF6 iG6 iA6 ne_ob5_b6 g_ob5 g_b6 ) hZ (hw _ (List.mem_of_getElem? (i := 21) rfl)) (hw _ (List.mem_of_getElem? (i := 7) rfl)) (by decide) (by decide)) q7a q7c (g := (mkF m 136 #[.val (.int p0), .val (.int p1), .val (.int p2), .val (.int p3), .val (.int p4), .val (.int nd0), .val (.int nd1), .val (.int nd2), .val (.int nd3), .val (.int pt0), .val (.int pt1), .val (.int pt2), .val (.int pt3), .val (.int (rankF nd0 nd1 nd2 nd3)), .val (.int (rankF nd1 nd0 nd2 nd3)), .val (.int (rankF nd2 nd0 nd1 nd3)), .val (.int (rankF nd3 nd0 nd1 nd2)), .val (.ref ob5), .unset, .unset, .unset, .unset, .unset, .unset, .unset] [(.int pt0), (.int nd0), (.ref ob5)])) rfl (by rw [hml]; rfl) (Steps.refl _) (argsL := [(.int nd0), (.int pt0)]) (rest := []) (lenOf pd0_2 rfl) rfl (by show 2 * 0 + _ ≤ _; exact Nat.le_of_eq rfl) (hb hby at_136) (fun _ _ => ⟨rfl, rfl, (by decide : 2 + 0 ≤ _), (by decide : 6 + 0 ≤ _)⟩)
  dsimp only [Pt.U, Pt.locs, Pt.cells, Pt.slots] at X7 l7 y7 z7 st7 hQ7
  obtain rfl : k7 = 2 := y7
  obtain rfl : n7 = 6 := z7
  obtain ⟨rfl, N7q, K7, iE7, iF7, iG7, fq7, u7_0, iA7, hu7_0, rel7⟩ := hQ7
  have N7 : Fr n0 L7 := by rw [l7]; exact Fr.app N6 N7q
  clear l7
  have f7_Exa_0 : Exa Z T7.heap ob5 "com/example/tradewheel/tradewheel/PartQueue" := iE6.keep K7
  have Z7 : n0 ≤ T7.heap.size := Nat.le_trans (Z6) K7.1
  refine Runs.trans st7 ?_
  show Runs _ _ _ _ T7 (mkF m 139 #[.val (.int p0), .val (.int p1), .val (.int p2), .val (.int p3), .val (.int p4), .val (.int nd0), .val (.int nd1), .val (.int nd2), .val (.int nd3), .val (.int pt0), .val (.int pt1), .val (.int pt2), .val (.int pt3), .val (.int (rankF nd0 nd1 nd2 nd3)), .val (.int (rankF nd1 nd0 nd2 nd3)), .val (.int (rankF nd2 nd0 nd1 nd3)), .val (.int (rankF nd3 nd0 nd1 nd2)), .val (.ref ob5), .unset, .unset, .unset, .unset, .unset, .unset, .unset] [])
  refine Runs.back (fun t_ k_ => XS.aload X7.here hx rfl (hb hby at_139) rfl rfl k_) ?_
  show Runs _ _ _ _ T7 (mkF m 141 #[.val (.int p0), .val (.int p1), .val (.int p2), .val (.int p3), .val (.int p4), .val (.int nd0), .val (.int nd1), .val (.int nd2), .val (.int nd3), .val (.int pt0), .val (.int pt1), .val (.int pt2), .val (.int pt3), .val (.int (rankF nd0 nd1 nd2 nd3)), .val (.int (rankF nd1 nd0 nd2 nd3)), .val (.int (rankF nd2 nd0 nd1 nd3)), .val (.int (rankF nd3 nd0 nd1 nd2)), .val (.ref ob5), .unset, .unset, .unset, .unset, .unset, .unset, .unset] [(.ref ob5)])
  refine Runs.back (fun t_ k_ => XS.iload X7.here hx rfl (hb hby at_141) rfl k_) ?_
  show Runs _ _ _ _ T7 (mkF m 143 #[.val (.int p0), .val (.int p1), .val (.int p2), .val (.int p3), .val (.int p4), .val (.int nd0), .val (.int nd1), .val (.int nd2), .val (.int nd3), .val (.int pt0), .val (.int pt1), .val (.int pt2), .val (.int pt3), .val (.int (rankF nd0 nd1 nd2 nd3)), .val (.int (rankF nd1 nd0 nd2 nd3)), .val (.int (rankF nd2 nd0 nd1 nd3)), .val (.int (rankF nd3 nd0 nd1 nd2)), .val (.ref ob5), .unset, .unset, .unset, .unset, .unset, .unset, .unset] [(.int nd1), (.ref ob5)])
  refine Runs.back (fun t_ k_ => XS.iload X7.here hx rfl (hb hby at_143) rfl k_) ?_
  show Runs _ _ _ _ T7 (mkF m 145 #[.val (.int p0), .val (.int p1), .val (.int p2), .val (.int p3), .val (.int p4), .val (.int nd0), .val (.int nd1), .val (.int nd2), .val (.int nd3), .val (.int pt0), .val (.int pt1), .val (.int pt2), .val (.int pt3), .val (.int (rankF nd0 nd1 nd2 nd3)), .val (.int (rankF nd1 nd0 nd2 nd3)), .val (.int (rankF nd2 nd0 nd1 nd3)), .val (.int (rankF nd3 nd0 nd1 nd2)), .val (.ref ob5), .unset, .unset, .unset, .unset, .unset, .unset, .unset] [(.int pt1), (.int nd1), (.ref ob5)])
  obtain ⟨cq8, kq8, q8a, q8b, q8c⟩ := isOf hZ rfl iE7
  obtain ⟨_, _, ⟨T8, L8, k8, n8⟩, -, X8, ⟨Lc8, hQ8, l8, y8, z8⟩, st8⟩ := X7.virtualBack hx (y := (⟨"com/example/tradewheel/tradewheel/PartQueue", "add", "(II)V"⟩ : MethodName)) (z := (⟨"com/example/tradewheel/tradewheel/PartQueue", "add", "(II)V"⟩ : MethodName)) hown (mvT hZ (hw _ (List.mem_of_getElem? (i := 17) rfl))) (mvT hZ (hw _ (List.mem_of_getElem? (i := 18) rfl))) (notFace_of_selects (args := #[]) (mvT hZ (hw _ (List.mem_of_getElem? (i := 20) rfl)))) (mvT hZ (hw _ (List.mem_of_getElem? (i := 20) rfl))) (mvT hZ (hw _ (List.mem_of_getElem? (i := 19) rfl))) (by decide) (backOf (W := 0) (rm4s1 l Z a0 hw [] ob5 nd1 pt1 b6 _ u7_0 T7.heap n0 (Z7) iE7 iF7 iG7 iA7 ne_ob5_b6 g_ob5 g_b6 hu7_0) hZ (hw _ (List.mem_of_getElem? (i := 21) rfl)) (hw _ (List.mem_of_getElem? (i := 7) rfl)) (by decide) (by decide)) q8a q8c (g := (mkF m 145 #[.val (.int p0), .val (.int p1), .val (.int p2), .val (.int p3), .val (.int p4), .val (.int nd0), .val (.int nd1), .val (.int nd2), .val (.int nd3), .val (.int pt0), .val (.int pt1), .val (.int pt2), .val (.int pt3), .val (.int (rankF nd0 nd1 nd2 nd3)), .val (.int (rankF nd1 nd0 nd2 nd3)), .val (.int (rankF nd2 nd0 nd1 nd3)), .val (.int (rankF nd3 nd0 nd1 nd2)), .val (.ref ob5), .unset, .unset, .unset, .unset, .unset, .unset, .unset] [(.int pt1), (.int nd1), (.ref ob5)])) rfl (by rw [hml]; rfl) (Steps.refl _) (argsL := [(.int nd1), (.int pt1)]) (rest := []) (lenOf pd0_2 rfl) rfl (by show 2 * 0 + _ ≤ _; exact Nat.le_of_eq rfl) (hb hby at_145) (fun _ _ => ⟨rfl, rfl, (by decide : 2 + 0 ≤ _), (by decide : 6 + 0 ≤ _)⟩)
  dsimp only [Pt.U, Pt.locs, Pt.cells, Pt.slots] at X8 l8 y8 z8 st8 hQ8
  obtain rfl : k8 = 2 := y8
  obtain rfl : n8 = 6 := z8
  obtain ⟨rfl, N8q, K8, iE8, iF8, iG8, fq8, u8_0, u8_1, iA8, hu8_0, hu8_1, rel8⟩ := hQ8
  have N8 : Fr n0 L8 := by rw [l8]; exact Fr.app N7 N8q
  clear l8
  have f8_Exa_0 : Exa Z T8.heap ob5 "com/example/tradewheel/tradewheel/PartQueue" := iE7.keep K8
  have Z8 : n0 ≤ T8.heap.size := Nat.le_trans (Z7) K8.1
  refine Runs.trans st8 ?_
  show Runs _ _ _ _ T8 (mkF m 148 #[.val (.int p0), .val (.int p1), .val (.int p2), .val (.int p3), .val (.int p4), .val (.int nd0), .val (.int nd1), .val (.int nd2), .val (.int nd3), .val (.int pt0), .val (.int pt1), .val (.int pt2), .val (.int pt3), .val (.int (rankF nd0 nd1 nd2 nd3)), .val (.int (rankF nd1 nd0 nd2 nd3)), .val (.int (rankF nd2 nd0 nd1 nd3)), .val (.int (rankF nd3 nd0 nd1 nd2)), .val (.ref ob5), .unset, .unset, .unset, .unset, .unset, .unset, .unset] [])
  refine Runs.back (fun t_ k_ => XS.aload X8.here hx rfl (hb hby at_148) rfl rfl k_) ?_
  show Runs _ _ _ _ T8 (mkF m 150 #[.val (.int p0), .val (.int p1), .val (.int p2), .val (.int p3), .val (.int p4), .val (.int nd0), .val (.int nd1), .val (.int nd2), .val (.int nd3), .val (.int pt0), .val (.int pt1), .val (.int pt2), .val (.int pt3), .val (.int (rankF nd0 nd1 nd2 nd3)), .val (.int (rankF nd1 nd0 nd2 nd3)), .val (.int (rankF nd2 nd0 nd1 nd3)), .val (.int (rankF nd3 nd0 nd1 nd2)), .val (.ref ob5), .unset, .unset, .unset, .unset, .unset, .unset, .unset] [(.ref ob5)])
  refine Runs.back (fun t_ k_ => XS.iload X8.here hx rfl (hb hby at_150) rfl k_) ?_
  show Runs _ _ _ _ T8 (mkF m 152 #[.val (.int p0), .val (.int p1), .val (.int p2), .val (.int p3), .val (.int p4), .val (.int nd0), .val (.int nd1), .val (.int nd2), .val (.int nd3), .val (.int pt0), .val (.int pt1), .val (.int pt2), .val (.int pt3), .val (.int (rankF nd0 nd1 nd2 nd3)), .val (.int (rankF nd1 nd0 nd2 nd3)), .val (.int (rankF nd2 nd0 nd1 nd3)), .val (.int (rankF nd3 nd0 nd1 nd2)), .val (.ref ob5), .unset, .unset, .unset, .unset, .unset, .unset, .unset] [(.int nd2), (.ref ob5)])
  refine Runs.back (fun t_ k_ => XS.iload X8.here hx rfl (hb hby at_152) rfl k_) ?_
  show Runs _ _ _ _ T8 (mkF m 154 #[.val (.int p0), .val (.int p1), .val (.int p2), .val (.int p3), .val (.int p4), .val (.int nd0), .val (.int nd1), .val (.int nd2), .val (.int nd3), .val (.int pt0), .val (.int pt1), .val (.int pt2), .val (.int pt3), .val (.int (rankF nd0 nd1 nd2 nd3)), .val (.int (rankF nd1 nd0 nd2 nd3)), .val (.int (rankF nd2 nd0 nd1 nd3)), .val (.int (rankF nd3 nd0 nd1 nd2)), .val (.ref ob5), .unset, .unset, .unset, .unset, .unset, .unset, .unset] [(.int pt2), (.int nd2), (.ref ob5)])
  obtain ⟨cq9, kq9, q9a, q9b, q9c⟩ := isOf hZ rfl iE8
  obtain ⟨_, _, ⟨T9, L9, k9, n9⟩, -, X9, ⟨Lc9, hQ9, l9, y9, z9⟩, st9⟩ := X8.virtualBack hx (y := (⟨"com/example/tradewheel/tradewheel/PartQueue", "add", "(II)V"⟩ : MethodName)) (z := (⟨"com/example/tradewheel/tradewheel/PartQueue", "add", "(II)V"⟩ : MethodName)) hown (mvT hZ (hw _ (List.mem_of_getElem? (i := 17) rfl))) (mvT hZ (hw _ (List.mem_of_getElem? (i := 18) rfl))) (notFace_of_selects (args := #[]) (mvT hZ (hw _ (List.mem_of_getElem? (i := 20) rfl)))) (mvT hZ (hw _ (List.mem_of_getElem? (i := 20) rfl))) (mvT hZ (hw _ (List.mem_of_getElem? (i := 19) rfl))) (by decide) (backOf (W := 0) (rm4s2 l Z a0 hw [] ob5 nd2 pt2 b6 _ u8_0 u8_1 T8.heap n0 (Z8) iE8 iF8 iG8 iA8 ne_ob5_b6 g_ob5 g_b6 hu8_0 hu8_1) hZ (hw _ (List.mem_of_getElem? (i := 21) rfl)) (hw _ (List.mem_of_getElem? (i := 7) rfl)) (by decide) (by decide)) q9a q9c (g := (mkF m 154 #[.val (.int p0), .val (.int p1), .val (.int p2), .val (.int p3), .val (.int p4), .val (.int nd0), .val (.int nd1), .val (.int nd2), .val (.int nd3), .val (.int pt0), .val (.int pt1), .val (.int pt2), .val (.int pt3), .val (.int (rankF nd0 nd1 nd2 nd3)), .val (.int (rankF nd1 nd0 nd2 nd3)), .val (.int (rankF nd2 nd0 nd1 nd3)), .val (.int (rankF nd3 nd0 nd1 nd2)), .val (.ref ob5), .unset, .unset, .unset, .unset, .unset, .unset, .unset] [(.int pt2), (.int nd2), (.ref ob5)])) rfl (by rw [hml]; rfl) (Steps.refl _) (argsL := [(.int nd2), (.int pt2)]) (rest := []) (lenOf pd0_2 rfl) rfl (by show 2 * 0 + _ ≤ _; exact Nat.le_of_eq rfl) (hb hby at_154) (fun _ _ => ⟨rfl, rfl, (by decide : 2 + 0 ≤ _), (by decide : 6 + 0 ≤ _)⟩)
  dsimp only [Pt.U, Pt.locs, Pt.cells, Pt.slots] at X9 l9 y9 z9 st9 hQ9
  obtain rfl : k9 = 2 := y9
  obtain rfl : n9 = 6 := z9
  obtain ⟨rfl, N9q, K9, iE9, iF9, iG9, fq9, u9_0, u9_1, u9_2, iA9, hu9_0, hu9_1, hu9_2, rel9⟩ := hQ9
  have N9 : Fr n0 L9 := by rw [l9]; exact Fr.app N8 N9q
  clear l9
  have f9_Exa_0 : Exa Z T9.heap ob5 "com/example/tradewheel/tradewheel/PartQueue" := iE8.keep K9
  have Z9 : n0 ≤ T9.heap.size := Nat.le_trans (Z8) K9.1
  refine Runs.trans st9 ?_
  show Runs _ _ _ _ T9 (mkF m 157 #[.val (.int p0), .val (.int p1), .val (.int p2), .val (.int p3), .val (.int p4), .val (.int nd0), .val (.int nd1), .val (.int nd2), .val (.int nd3), .val (.int pt0), .val (.int pt1), .val (.int pt2), .val (.int pt3), .val (.int (rankF nd0 nd1 nd2 nd3)), .val (.int (rankF nd1 nd0 nd2 nd3)), .val (.int (rankF nd2 nd0 nd1 nd3)), .val (.int (rankF nd3 nd0 nd1 nd2)), .val (.ref ob5), .unset, .unset, .unset, .unset, .unset, .unset, .unset] [])
  refine Runs.back (fun t_ k_ => XS.aload X9.here hx rfl (hb hby at_157) rfl rfl k_) ?_
  show Runs _ _ _ _ T9 (mkF m 159 #[.val (.int p0), .val (.int p1), .val (.int p2), .val (.int p3), .val (.int p4), .val (.int nd0), .val (.int nd1), .val (.int nd2), .val (.int nd3), .val (.int pt0), .val (.int pt1), .val (.int pt2), .val (.int pt3), .val (.int (rankF nd0 nd1 nd2 nd3)), .val (.int (rankF nd1 nd0 nd2 nd3)), .val (.int (rankF nd2 nd0 nd1 nd3)), .val (.int (rankF nd3 nd0 nd1 nd2)), .val (.ref ob5), .unset, .unset, .unset, .unset, .unset, .unset, .unset] [(.ref ob5)])
  refine Runs.back (fun t_ k_ => XS.iload X9.here hx rfl (hb hby at_159) rfl k_) ?_
  show Runs _ _ _ _ T9 (mkF m 161 #[.val (.int p0), .val (.int p1), .val (.int p2), .val (.int p3), .val (.int p4), .val (.int nd0), .val (.int nd1), .val (.int nd2), .val (.int nd3), .val (.int pt0), .val (.int pt1), .val (.int pt2), .val (.int pt3), .val (.int (rankF nd0 nd1 nd2 nd3)), .val (.int (rankF nd1 nd0 nd2 nd3)), .val (.int (rankF nd2 nd0 nd1 nd3)), .val (.int (rankF nd3 nd0 nd1 nd2)), .val (.ref ob5), .unset, .unset, .unset, .unset, .unset, .unset, .unset] [(.int nd3), (.ref ob5)])
  refine Runs.back (fun t_ k_ => XS.iload X9.here hx rfl (hb hby at_161) rfl k_) ?_
  show Runs _ _ _ _ T9 (mkF m 163 #[.val (.int p0), .val (.int p1), .val (.int p2), .val (.int p3), .val (.int p4), .val (.int nd0), .val (.int nd1), .val (.int nd2), .val (.int nd3), .val (.int pt0), .val (.int pt1), .val (.int pt2), .val (.int pt3), .val (.int (rankF nd0 nd1 nd2 nd3)), .val (.int (rankF nd1 nd0 nd2 nd3)), .val (.int (rankF nd2 nd0 nd1 nd3)), .val (.int (rankF nd3 nd0 nd1 nd2)), .val (.ref ob5), .unset, .unset, .unset, .unset, .unset, .unset, .unset] [(.int pt3), (.int nd3), (.ref ob5)])
  obtain ⟨cq10, kq10, q10a, q10b, q10c⟩ := isOf hZ rfl iE9
  obtain ⟨_, _, ⟨T10, L10, k10, n10⟩, -, X10, ⟨Lc10, hQ10, l10, y10, z10⟩, st10⟩ := X9.virtualBack hx (y := (⟨"com/example/tradewheel/tradewheel/PartQueue", "add", "(II)V"⟩ : MethodName)) (z := (⟨"com/example/tradewheel/tradewheel/PartQueue", "add", "(II)V"⟩ : MethodName)) hown (mvT hZ (hw _ (List.mem_of_getElem? (i := 17) rfl))) (mvT hZ (hw _ (List.mem_of_getElem? (i := 18) rfl))) (notFace_of_selects (args := #[]) (mvT hZ (hw _ (List.mem_of_getElem? (i := 20) rfl)))) (mvT hZ (hw _ (List.mem_of_getElem? (i := 20) rfl))) (mvT hZ (hw _ (List.mem_of_getElem? (i := 19) rfl))) (by decide) (backOf (W := 0) (rm4s3 l Z a0 hw [] ob5 nd3 pt3 b6 _ u9_0 u9_1 u9_2 T9.heap n0 (Z9) iE9 iF9 iG9 iA9 ne_ob5_b6 g_ob5 g_b6 hu9_0 hu9_1 hu9_2) hZ (hw _ (List.mem_of_getElem? (i := 21) rfl)) (hw _ (List.mem_of_getElem? (i := 7) rfl)) (by decide) (by decide)) q10a q10c (g := (mkF m 163 #[.val (.int p0), .val (.int p1), .val (.int p2), .val (.int p3), .val (.int p4), .val (.int nd0), .val (.int nd1), .val (.int nd2), .val (.int nd3), .val (.int pt0), .val (.int pt1), .val (.int pt2), .val (.int pt3), .val (.int (rankF nd0 nd1 nd2 nd3)), .val (.int (rankF nd1 nd0 nd2 nd3)), .val (.int (rankF nd2 nd0 nd1 nd3)), .val (.int (rankF nd3 nd0 nd1 nd2)), .val (.ref ob5), .unset, .unset, .unset, .unset, .unset, .unset, .unset] [(.int pt3), (.int nd3), (.ref ob5)])) rfl (by rw [hml]; rfl) (Steps.refl _) (argsL := [(.int nd3), (.int pt3)]) (rest := []) (lenOf pd0_2 rfl) rfl (by show 2 * 0 + _ ≤ _; exact Nat.le_of_eq rfl) (hb hby at_163) (fun _ _ => ⟨rfl, rfl, (by decide : 2 + 0 ≤ _), (by decide : 6 + 0 ≤ _)⟩)
  dsimp only [Pt.U, Pt.locs, Pt.cells, Pt.slots] at X10 l10 y10 z10 st10 hQ10
  obtain rfl : k10 = 2 := y10
  obtain rfl : n10 = 6 := z10
  obtain ⟨rfl, N10q, K10, iE10, iF10, iG10, fq10, u10_0, u10_1, u10_2, u10_3, iA10, hu10_0, hu10_1, hu10_2, hu10_3, rel10⟩ := hQ10
  have N10 : Fr n0 L10 := by rw [l10]; exact Fr.app N9 N10q
  clear l10
  have f10_Exa_0 : Exa Z T10.heap ob5 "com/example/tradewheel/tradewheel/PartQueue" := iE9.keep K10
  have Z10 : n0 ≤ T10.heap.size := Nat.le_trans (Z9) K10.1
  refine Runs.trans st10 ?_
  show Runs _ _ _ _ T10 (mkF m 166 #[.val (.int p0), .val (.int p1), .val (.int p2), .val (.int p3), .val (.int p4), .val (.int nd0), .val (.int nd1), .val (.int nd2), .val (.int nd3), .val (.int pt0), .val (.int pt1), .val (.int pt2), .val (.int pt3), .val (.int (rankF nd0 nd1 nd2 nd3)), .val (.int (rankF nd1 nd0 nd2 nd3)), .val (.int (rankF nd2 nd0 nd1 nd3)), .val (.int (rankF nd3 nd0 nd1 nd2)), .val (.ref ob5), .unset, .unset, .unset, .unset, .unset, .unset, .unset] [])
  refine Runs.back (fun t_ k_ => XS.aload X10.here hx rfl (hb hby at_166) rfl rfl k_) ?_
  show Runs _ _ _ _ T10 (mkF m 168 #[.val (.int p0), .val (.int p1), .val (.int p2), .val (.int p3), .val (.int p4), .val (.int nd0), .val (.int nd1), .val (.int nd2), .val (.int nd3), .val (.int pt0), .val (.int pt1), .val (.int pt2), .val (.int pt3), .val (.int (rankF nd0 nd1 nd2 nd3)), .val (.int (rankF nd1 nd0 nd2 nd3)), .val (.int (rankF nd2 nd0 nd1 nd3)), .val (.int (rankF nd3 nd0 nd1 nd2)), .val (.ref ob5), .unset, .unset, .unset, .unset, .unset, .unset, .unset] [(.ref ob5)])
  obtain ⟨cq11, kq11, q11a, q11b, q11c⟩ := isOf hZ rfl iE10
  obtain ⟨_, _, ⟨T11, L11, k11, n11⟩, -, X11, ⟨Lc11, hQ11, l11, y11, z11⟩, st11⟩ := X10.virtualBack hx (y := (⟨"com/example/tradewheel/tradewheel/PartQueue", "remove", "()I"⟩ : MethodName)) (z := (⟨"com/example/tradewheel/tradewheel/PartQueue", "remove", "()I"⟩ : MethodName)) hown (mvT hZ (hw _ (List.mem_of_getElem? (i := 24) rfl))) (mvT hZ (hw _ (List.mem_of_getElem? (i := 25) rfl))) (notFace_of_selects (args := #[]) (mvT hZ (hw _ (List.mem_of_getElem? (i := 27) rfl)))) (mvT hZ (hw _ (List.mem_of_getElem? (i := 27) rfl))) (mvT hZ (hw _ (List.mem_of_getElem? (i := 26) rfl))) (by decide) (backOf (W := 0) (rm5s4 l Z a0 hw [] ob5  b6 _ u10_0 u10_1 u10_2 u10_3 T10.heap n0 (Z10) iE10 iF10 iG10 iA10 ne_ob5_b6 g_ob5 g_b6 hu10_0 hu10_1 hu10_2 hu10_3) hZ (hw _ (List.mem_of_getElem? (i := 28) rfl)) (hw _ (List.mem_of_getElem? (i := 7) rfl)) (by decide) (by decide)) q11a q11c (g := (mkF m 168 #[.val (.int p0), .val (.int p1), .val (.int p2), .val (.int p3), .val (.int p4), .val (.int nd0), .val (.int nd1), .val (.int nd2), .val (.int nd3), .val (.int pt0), .val (.int pt1), .val (.int pt2), .val (.int pt3), .val (.int (rankF nd0 nd1 nd2 nd3)), .val (.int (rankF nd1 nd0 nd2 nd3)), .val (.int (rankF nd2 nd0 nd1 nd3)), .val (.int (rankF nd3 nd0 nd1 nd2)), .val (.ref ob5), .unset, .unset, .unset, .unset, .unset, .unset, .unset] [(.ref ob5)])) rfl (by rw [hml]; rfl) (Steps.refl _) (argsL := []) (rest := []) (lenOf pd0_3 rfl) rfl (by show 2 * 0 + _ ≤ _; exact Nat.le_of_eq rfl) (hb hby at_168) (fun _ _ => ⟨rfl, rfl, (by decide : 2 + 0 ≤ _), (by decide : 6 + 0 ≤ _)⟩)
  dsimp only [Pt.U, Pt.locs, Pt.cells, Pt.slots] at X11 l11 y11 z11 st11 hQ11
  obtain rfl : k11 = 2 := y11
  obtain rfl : n11 = 6 := z11
  obtain ⟨rfl, N11q, K11, iE11, iF11, iG11, fq11, u11_0, u11_1, u11_2, iA11, hu11_0, hu11_1, hu11_2, rel11⟩ := hQ11
  have N11 : Fr n0 L11 := by rw [l11]; exact Fr.app N10 N11q
  clear l11
  have f11_Exa_0 : Exa Z T11.heap ob5 "com/example/tradewheel/tradewheel/PartQueue" := iE10.keep K11
  have Z11 : n0 ≤ T11.heap.size := Nat.le_trans (Z10) K11.1
  refine Runs.trans st11 ?_
  show Runs _ _ _ _ T11 (mkF m 171 #[.val (.int p0), .val (.int p1), .val (.int p2), .val (.int p3), .val (.int p4), .val (.int nd0), .val (.int nd1), .val (.int nd2), .val (.int nd3), .val (.int pt0), .val (.int pt1), .val (.int pt2), .val (.int pt3), .val (.int (rankF nd0 nd1 nd2 nd3)), .val (.int (rankF nd1 nd0 nd2 nd3)), .val (.int (rankF nd2 nd0 nd1 nd3)), .val (.int (rankF nd3 nd0 nd1 nd2)), .val (.ref ob5), .unset, .unset, .unset, .unset, .unset, .unset, .unset] [(.int (hiI u10_0))])
  refine Runs.back (fun t_ k_ => XS.istore X11.here hx rfl (hb hby at_171) rfl (l' := #[.val (.int p0), .val (.int p1), .val (.int p2), .val (.int p3), .val (.int p4), .val (.int nd0), .val (.int nd1), .val (.int nd2), .val (.int nd3), .val (.int pt0), .val (.int pt1), .val (.int pt2), .val (.int pt3), .val (.int (rankF nd0 nd1 nd2 nd3)), .val (.int (rankF nd1 nd0 nd2 nd3)), .val (.int (rankF nd2 nd0 nd1 nd3)), .val (.int (rankF nd3 nd0 nd1 nd2)), .val (.ref ob5), .val (.int (hiI u10_0)), .unset, .unset, .unset, .unset, .unset, .unset]) rfl k_) ?_
  show Runs _ _ _ _ T11 (mkF m 173 #[.val (.int p0), .val (.int p1), .val (.int p2), .val (.int p3), .val (.int p4), .val (.int nd0), .val (.int nd1), .val (.int nd2), .val (.int nd3), .val (.int pt0), .val (.int pt1), .val (.int pt2), .val (.int pt3), .val (.int (rankF nd0 nd1 nd2 nd3)), .val (.int (rankF nd1 nd0 nd2 nd3)), .val (.int (rankF nd2 nd0 nd1 nd3)), .val (.int (rankF nd3 nd0 nd1 nd2)), .val (.ref ob5), .val (.int (hiI u10_0)), .unset, .unset, .unset, .unset, .unset, .unset] [])
  refine Runs.back (fun t_ k_ => XS.iload X11.here hx rfl (hb hby at_173) rfl k_) ?_
  show Runs _ _ _ _ T11 (mkF m 175 #[.val (.int p0), .val (.int p1), .val (.int p2), .val (.int p3), .val (.int p4), .val (.int nd0), .val (.int nd1), .val (.int nd2), .val (.int nd3), .val (.int pt0), .val (.int pt1), .val (.int pt2), .val (.int pt3), .val (.int (rankF nd0 nd1 nd2 nd3)), .val (.int (rankF nd1 nd0 nd2 nd3)), .val (.int (rankF nd2 nd0 nd1 nd3)), .val (.int (rankF nd3 nd0 nd1 nd2)), .val (.ref ob5), .val (.int (hiI u10_0)), .unset, .unset, .unset, .unset, .unset, .unset] [(.int (hiI u10_0))])
  refine Runs.back (fun t_ k_ => XS.iconst X11.here hx rfl (hb hby at_175) k_) ?_
  show Runs _ _ _ _ T11 (mkF m 176 #[.val (.int p0), .val (.int p1), .val (.int p2), .val (.int p3), .val (.int p4), .val (.int nd0), .val (.int nd1), .val (.int nd2), .val (.int nd3), .val (.int pt0), .val (.int pt1), .val (.int pt2), .val (.int pt3), .val (.int (rankF nd0 nd1 nd2 nd3)), .val (.int (rankF nd1 nd0 nd2 nd3)), .val (.int (rankF nd2 nd0 nd1 nd3)), .val (.int (rankF nd3 nd0 nd1 nd2)), .val (.ref ob5), .val (.int (hiI u10_0)), .unset, .unset, .unset, .unset, .unset, .unset] [(.int (0 : Int32)), (.int (hiI u10_0))])
  refine Runs.back (fun t_ k_ => XS.iload X11.here hx rfl (hb hby at_176) rfl k_) ?_
  show Runs _ _ _ _ T11 (mkF m 178 #[.val (.int p0), .val (.int p1), .val (.int p2), .val (.int p3), .val (.int p4), .val (.int nd0), .val (.int nd1), .val (.int nd2), .val (.int nd3), .val (.int pt0), .val (.int pt1), .val (.int pt2), .val (.int pt3), .val (.int (rankF nd0 nd1 nd2 nd3)), .val (.int (rankF nd1 nd0 nd2 nd3)), .val (.int (rankF nd2 nd0 nd1 nd3)), .val (.int (rankF nd3 nd0 nd1 nd2)), .val (.ref ob5), .val (.int (hiI u10_0)), .unset, .unset, .unset, .unset, .unset, .unset] [(.int (rankF nd0 nd1 nd2 nd3)), (.int (0 : Int32)), (.int (hiI u10_0))])
  refine Runs.back (fun t_ k_ => XS.iload X11.here hx rfl (hb hby at_178) rfl k_) ?_
  show Runs _ _ _ _ T11 (mkF m 180 #[.val (.int p0), .val (.int p1), .val (.int p2), .val (.int p3), .val (.int p4), .val (.int nd0), .val (.int nd1), .val (.int nd2), .val (.int nd3), .val (.int pt0), .val (.int pt1), .val (.int pt2), .val (.int pt3), .val (.int (rankF nd0 nd1 nd2 nd3)), .val (.int (rankF nd1 nd0 nd2 nd3)), .val (.int (rankF nd2 nd0 nd1 nd3)), .val (.int (rankF nd3 nd0 nd1 nd2)), .val (.ref ob5), .val (.int (hiI u10_0)), .unset, .unset, .unset, .unset, .unset, .unset] [(.int (rankF nd1 nd0 nd2 nd3)), (.int (rankF nd0 nd1 nd2 nd3)), (.int (0 : Int32)), (.int (hiI u10_0))])
  refine Runs.back (fun t_ k_ => XS.iload X11.here hx rfl (hb hby at_180) rfl k_) ?_
  show Runs _ _ _ _ T11 (mkF m 182 #[.val (.int p0), .val (.int p1), .val (.int p2), .val (.int p3), .val (.int p4), .val (.int nd0), .val (.int nd1), .val (.int nd2), .val (.int nd3), .val (.int pt0), .val (.int pt1), .val (.int pt2), .val (.int pt3), .val (.int (rankF nd0 nd1 nd2 nd3)), .val (.int (rankF nd1 nd0 nd2 nd3)), .val (.int (rankF nd2 nd0 nd1 nd3)), .val (.int (rankF nd3 nd0 nd1 nd2)), .val (.ref ob5), .val (.int (hiI u10_0)), .unset, .unset, .unset, .unset, .unset, .unset] [(.int (rankF nd2 nd0 nd1 nd3)), (.int (rankF nd1 nd0 nd2 nd3)), (.int (rankF nd0 nd1 nd2 nd3)), (.int (0 : Int32)), (.int (hiI u10_0))])
  refine Runs.back (fun t_ k_ => XS.iload X11.here hx rfl (hb hby at_182) rfl k_) ?_
  show Runs _ _ _ _ T11 (mkF m 184 #[.val (.int p0), .val (.int p1), .val (.int p2), .val (.int p3), .val (.int p4), .val (.int nd0), .val (.int nd1), .val (.int nd2), .val (.int nd3), .val (.int pt0), .val (.int pt1), .val (.int pt2), .val (.int pt3), .val (.int (rankF nd0 nd1 nd2 nd3)), .val (.int (rankF nd1 nd0 nd2 nd3)), .val (.int (rankF nd2 nd0 nd1 nd3)), .val (.int (rankF nd3 nd0 nd1 nd2)), .val (.ref ob5), .val (.int (hiI u10_0)), .unset, .unset, .unset, .unset, .unset, .unset] [(.int (rankF nd3 nd0 nd1 nd2)), (.int (rankF nd2 nd0 nd1 nd3)), (.int (rankF nd1 nd0 nd2 nd3)), (.int (rankF nd0 nd1 nd2 nd3)), (.int (0 : Int32)), (.int (hiI u10_0))])
  refine Runs.back (fun t_ k_ => XS.iload X11.here hx rfl (hb hby at_184) rfl k_) ?_
  show Runs _ _ _ _ T11 (mkF m 186 #[.val (.int p0), .val (.int p1), .val (.int p2), .val (.int p3), .val (.int p4), .val (.int nd0), .val (.int nd1), .val (.int nd2), .val (.int nd3), .val (.int pt0), .val (.int pt1), .val (.int pt2), .val (.int pt3), .val (.int (rankF nd0 nd1 nd2 nd3)), .val (.int (rankF nd1 nd0 nd2 nd3)), .val (.int (rankF nd2 nd0 nd1 nd3)), .val (.int (rankF nd3 nd0 nd1 nd2)), .val (.ref ob5), .val (.int (hiI u10_0)), .unset, .unset, .unset, .unset, .unset, .unset] [(.int nd0), (.int (rankF nd3 nd0 nd1 nd2)), (.int (rankF nd2 nd0 nd1 nd3)), (.int (rankF nd1 nd0 nd2 nd3)), (.int (rankF nd0 nd1 nd2 nd3)), (.int (0 : Int32)), (.int (hiI u10_0))])
  refine Runs.back (fun t_ k_ => XS.iload X11.here hx rfl (hb hby at_186) rfl k_) ?_
  show Runs _ _ _ _ T11 (mkF m 188 #[.val (.int p0), .val (.int p1), .val (.int p2), .val (.int p3), .val (.int p4), .val (.int nd0), .val (.int nd1), .val (.int nd2), .val (.int nd3), .val (.int pt0), .val (.int pt1), .val (.int pt2), .val (.int pt3), .val (.int (rankF nd0 nd1 nd2 nd3)), .val (.int (rankF nd1 nd0 nd2 nd3)), .val (.int (rankF nd2 nd0 nd1 nd3)), .val (.int (rankF nd3 nd0 nd1 nd2)), .val (.ref ob5), .val (.int (hiI u10_0)), .unset, .unset, .unset, .unset, .unset, .unset] [(.int nd1), (.int nd0), (.int (rankF nd3 nd0 nd1 nd2)), (.int (rankF nd2 nd0 nd1 nd3)), (.int (rankF nd1 nd0 nd2 nd3)), (.int (rankF nd0 nd1 nd2 nd3)), (.int (0 : Int32)), (.int (hiI u10_0))])
  refine Runs.back (fun t_ k_ => XS.iload X11.here hx rfl (hb hby at_188) rfl k_) ?_
  show Runs _ _ _ _ T11 (mkF m 190 #[.val (.int p0), .val (.int p1), .val (.int p2), .val (.int p3), .val (.int p4), .val (.int nd0), .val (.int nd1), .val (.int nd2), .val (.int nd3), .val (.int pt0), .val (.int pt1), .val (.int pt2), .val (.int pt3), .val (.int (rankF nd0 nd1 nd2 nd3)), .val (.int (rankF nd1 nd0 nd2 nd3)), .val (.int (rankF nd2 nd0 nd1 nd3)), .val (.int (rankF nd3 nd0 nd1 nd2)), .val (.ref ob5), .val (.int (hiI u10_0)), .unset, .unset, .unset, .unset, .unset, .unset] [(.int nd2), (.int nd1), (.int nd0), (.int (rankF nd3 nd0 nd1 nd2)), (.int (rankF nd2 nd0 nd1 nd3)), (.int (rankF nd1 nd0 nd2 nd3)), (.int (rankF nd0 nd1 nd2 nd3)), (.int (0 : Int32)), (.int (hiI u10_0))])
  refine Runs.back (fun t_ k_ => XS.iload X11.here hx rfl (hb hby at_190) rfl k_) ?_
  show Runs _ _ _ _ T11 (mkF m 192 #[.val (.int p0), .val (.int p1), .val (.int p2), .val (.int p3), .val (.int p4), .val (.int nd0), .val (.int nd1), .val (.int nd2), .val (.int nd3), .val (.int pt0), .val (.int pt1), .val (.int pt2), .val (.int pt3), .val (.int (rankF nd0 nd1 nd2 nd3)), .val (.int (rankF nd1 nd0 nd2 nd3)), .val (.int (rankF nd2 nd0 nd1 nd3)), .val (.int (rankF nd3 nd0 nd1 nd2)), .val (.ref ob5), .val (.int (hiI u10_0)), .unset, .unset, .unset, .unset, .unset, .unset] [(.int nd3), (.int nd2), (.int nd1), (.int nd0), (.int (rankF nd3 nd0 nd1 nd2)), (.int (rankF nd2 nd0 nd1 nd3)), (.int (rankF nd1 nd0 nd2 nd3)), (.int (rankF nd0 nd1 nd2 nd3)), (.int (0 : Int32)), (.int (hiI u10_0))])
  obtain ⟨_, _, ⟨T12, L12, k12, n12⟩, -, X12, ⟨Lc12, hQ12, l12, y12, z12⟩, st12⟩ := Jvm.LawKit.callS X11 hx (y := (⟨"com/example/tradewheel/tradewheel/PartQueueRemovePinLaw", "pick", "(IIIIIIIII)I"⟩ : MethodName)) hown (mvT hZ (hw _ (List.mem_of_getElem? (i := 29) rfl))) (mvT hZ (hw _ (List.mem_of_getElem? (i := 30) rfl))) (mvT hZ (hw _ (List.mem_of_getElem? (i := 3) rfl))) (mvT hZ (hw _ (List.mem_of_getElem? (i := 31) rfl))) (by decide) (backOf (W := 1) (rm6 l Z a0 hw [] (0 : Int32) (rankF nd0 nd1 nd2 nd3) (rankF nd1 nd0 nd2 nd3) (rankF nd2 nd0 nd1 nd3) (rankF nd3 nd0 nd1 nd2) nd0 nd1 nd2 nd3 T11.heap n0 (Z11)) hZ (hw _ (List.mem_of_getElem? (i := 31) rfl)) (hw _ (List.mem_of_getElem? (i := 3) rfl)) (by decide) (by decide)) (g := (mkF m 192 #[.val (.int p0), .val (.int p1), .val (.int p2), .val (.int p3), .val (.int p4), .val (.int nd0), .val (.int nd1), .val (.int nd2), .val (.int nd3), .val (.int pt0), .val (.int pt1), .val (.int pt2), .val (.int pt3), .val (.int (rankF nd0 nd1 nd2 nd3)), .val (.int (rankF nd1 nd0 nd2 nd3)), .val (.int (rankF nd2 nd0 nd1 nd3)), .val (.int (rankF nd3 nd0 nd1 nd2)), .val (.ref ob5), .val (.int (hiI u10_0)), .unset, .unset, .unset, .unset, .unset, .unset] [(.int nd3), (.int nd2), (.int nd1), (.int nd0), (.int (rankF nd3 nd0 nd1 nd2)), (.int (rankF nd2 nd0 nd1 nd3)), (.int (rankF nd1 nd0 nd2 nd3)), (.int (rankF nd0 nd1 nd2 nd3)), (.int (0 : Int32)), (.int (hiI u10_0))])) rfl (by rw [hml]; rfl) (argsL := [(.int (0 : Int32)), (.int (rankF nd0 nd1 nd2 nd3)), (.int (rankF nd1 nd0 nd2 nd3)), (.int (rankF nd2 nd0 nd1 nd3)), (.int (rankF nd3 nd0 nd1 nd2)), (.int nd0), (.int nd1), (.int nd2), (.int nd3)]) (rest := [(.int (hiI u10_0))]) (lenOf pd0_4 rfl) rfl (by show 2 * 0 + _ ≤ _; exact Nat.le_of_eq rfl) (hb hby at_192) (fun _ _ => ⟨rfl, rfl, (by decide : 2 + 0 ≤ _), (by decide : 6 + 0 ≤ _)⟩)
  dsimp only [Pt.U, Pt.locs, Pt.cells, Pt.slots] at X12 l12 y12 z12 st12 hQ12
  obtain rfl : k12 = 2 := y12
  obtain rfl : n12 = 6 := z12
  obtain ⟨rfl, N12q, eq12⟩ := hQ12
  have N12 : Fr n0 L12 := by rw [l12]; exact Fr.app N11 N12q
  clear l12
  refine Runs.back st12 ?_
  show Runs _ _ _ _ T12 (mkF m 195 #[.val (.int p0), .val (.int p1), .val (.int p2), .val (.int p3), .val (.int p4), .val (.int nd0), .val (.int nd1), .val (.int nd2), .val (.int nd3), .val (.int pt0), .val (.int pt1), .val (.int pt2), .val (.int pt3), .val (.int (rankF nd0 nd1 nd2 nd3)), .val (.int (rankF nd1 nd0 nd2 nd3)), .val (.int (rankF nd2 nd0 nd1 nd3)), .val (.int (rankF nd3 nd0 nd1 nd2)), .val (.ref ob5), .val (.int (hiI u10_0)), .unset, .unset, .unset, .unset, .unset, .unset] [(.int (pickF (0 : Int32) (rankF nd0 nd1 nd2 nd3) (rankF nd1 nd0 nd2 nd3) (rankF nd2 nd0 nd1 nd3) (rankF nd3 nd0 nd1 nd2) nd0 nd1 nd2 nd3)), (.int (hiI u10_0))])
  by_cases c195_13 : (hiI u10_0) = (pickF (0 : Int32) (rankF nd0 nd1 nd2 nd3) (rankF nd1 nd0 nd2 nd3) (rankF nd2 nd0 nd1 nd3) (rankF nd3 nd0 nd1 nd2) nd0 nd1 nd2 nd3)
  · refine Runs.back (fun t_ k_ => XS.icmpNo X12.here hx rfl (hb hby at_195) rfl (teq c195_13).2 k_) ?_
    show Runs _ _ _ _ T12 (mkF m 198 #[.val (.int p0), .val (.int p1), .val (.int p2), .val (.int p3), .val (.int p4), .val (.int nd0), .val (.int nd1), .val (.int nd2), .val (.int nd3), .val (.int pt0), .val (.int pt1), .val (.int pt2), .val (.int pt3), .val (.int (rankF nd0 nd1 nd2 nd3)), .val (.int (rankF nd1 nd0 nd2 nd3)), .val (.int (rankF nd2 nd0 nd1 nd3)), .val (.int (rankF nd3 nd0 nd1 nd2)), .val (.ref ob5), .val (.int (hiI u10_0)), .unset, .unset, .unset, .unset, .unset, .unset] [])
    refine Runs.back (fun t_ k_ => XS.iconst X12.here hx rfl (hb hby at_198) k_) ?_
    show Runs _ _ _ _ T12 (mkF m 199 #[.val (.int p0), .val (.int p1), .val (.int p2), .val (.int p3), .val (.int p4), .val (.int nd0), .val (.int nd1), .val (.int nd2), .val (.int nd3), .val (.int pt0), .val (.int pt1), .val (.int pt2), .val (.int pt3), .val (.int (rankF nd0 nd1 nd2 nd3)), .val (.int (rankF nd1 nd0 nd2 nd3)), .val (.int (rankF nd2 nd0 nd1 nd3)), .val (.int (rankF nd3 nd0 nd1 nd2)), .val (.ref ob5), .val (.int (hiI u10_0)), .unset, .unset, .unset, .unset, .unset, .unset] [(.int (1 : Int32))])
    refine Runs.back (fun t_ k_ => XS.goto X12.here hx rfl (pc0 := 199) (pc' := 203) rfl (hb hby at_199) (by decide) (by decide) k_) ?_
    show Runs _ _ _ _ T12 (mkF m 203 #[.val (.int p0), .val (.int p1), .val (.int p2), .val (.int p3), .val (.int p4), .val (.int nd0), .val (.int nd1), .val (.int nd2), .val (.int nd3), .val (.int pt0), .val (.int pt1), .val (.int pt2), .val (.int pt3), .val (.int (rankF nd0 nd1 nd2 nd3)), .val (.int (rankF nd1 nd0 nd2 nd3)), .val (.int (rankF nd2 nd0 nd1 nd3)), .val (.int (rankF nd3 nd0 nd1 nd2)), .val (.ref ob5), .val (.int (hiI u10_0)), .unset, .unset, .unset, .unset, .unset, .unset] [(.int (1 : Int32))])
    refine Runs.back (fun t_ k_ => XS.istore X12.here hx rfl (hb hby at_203) rfl (l' := #[.val (.int p0), .val (.int p1), .val (.int p2), .val (.int p3), .val (.int p4), .val (.int nd0), .val (.int nd1), .val (.int nd2), .val (.int nd3), .val (.int pt0), .val (.int pt1), .val (.int pt2), .val (.int pt3), .val (.int (rankF nd0 nd1 nd2 nd3)), .val (.int (rankF nd1 nd0 nd2 nd3)), .val (.int (rankF nd2 nd0 nd1 nd3)), .val (.int (rankF nd3 nd0 nd1 nd2)), .val (.ref ob5), .val (.int (hiI u10_0)), .val (.int (1 : Int32)), .unset, .unset, .unset, .unset, .unset]) rfl k_) ?_
    show Runs _ _ _ _ T12 (mkF m 205 #[.val (.int p0), .val (.int p1), .val (.int p2), .val (.int p3), .val (.int p4), .val (.int nd0), .val (.int nd1), .val (.int nd2), .val (.int nd3), .val (.int pt0), .val (.int pt1), .val (.int pt2), .val (.int pt3), .val (.int (rankF nd0 nd1 nd2 nd3)), .val (.int (rankF nd1 nd0 nd2 nd3)), .val (.int (rankF nd2 nd0 nd1 nd3)), .val (.int (rankF nd3 nd0 nd1 nd2)), .val (.ref ob5), .val (.int (hiI u10_0)), .val (.int (1 : Int32)), .unset, .unset, .unset, .unset, .unset] [])
    refine Runs.back (fun t_ k_ => XS.aload X12.here hx rfl (hb hby at_205) rfl rfl k_) ?_
    show Runs _ _ _ _ T12 (mkF m 207 #[.val (.int p0), .val (.int p1), .val (.int p2), .val (.int p3), .val (.int p4), .val (.int nd0), .val (.int nd1), .val (.int nd2), .val (.int nd3), .val (.int pt0), .val (.int pt1), .val (.int pt2), .val (.int pt3), .val (.int (rankF nd0 nd1 nd2 nd3)), .val (.int (rankF nd1 nd0 nd2 nd3)), .val (.int (rankF nd2 nd0 nd1 nd3)), .val (.int (rankF nd3 nd0 nd1 nd2)), .val (.ref ob5), .val (.int (hiI u10_0)), .val (.int (1 : Int32)), .unset, .unset, .unset, .unset, .unset] [(.ref ob5)])
    obtain ⟨cq14, kq14, q14a, q14b, q14c⟩ := isOf hZ eq12 iE11
    obtain ⟨_, _, ⟨T14, L14, k14, n14⟩, -, X14, ⟨Lc14, hQ14, l14, y14, z14⟩, st14⟩ := X12.virtualBack hx (y := (⟨"com/example/tradewheel/tradewheel/PartQueue", "part", "()I"⟩ : MethodName)) (z := (⟨"com/example/tradewheel/tradewheel/PartQueue", "part", "()I"⟩ : MethodName)) hown (mvT hZ (hw _ (List.mem_of_getElem? (i := 32) rfl))) (mvT hZ (hw _ (List.mem_of_getElem? (i := 33) rfl))) (notFace_of_selects (args := #[]) (mvT hZ (hw _ (List.mem_of_getElem? (i := 35) rfl)))) (mvT hZ (hw _ (List.mem_of_getElem? (i := 35) rfl))) (mvT hZ (hw _ (List.mem_of_getElem? (i := 34) rfl))) (by decide) (backOf (W := 0) (rm7 l Z a0 hw [] ob5 b6 _ u11_0 T11.heap n0 (Z11) iF11 iA11 hu11_0) hZ (hw _ (List.mem_of_getElem? (i := 36) rfl)) (hw _ (List.mem_of_getElem? (i := 7) rfl)) (by decide) (by decide)) q14a q14c (g := (mkF m 207 #[.val (.int p0), .val (.int p1), .val (.int p2), .val (.int p3), .val (.int p4), .val (.int nd0), .val (.int nd1), .val (.int nd2), .val (.int nd3), .val (.int pt0), .val (.int pt1), .val (.int pt2), .val (.int pt3), .val (.int (rankF nd0 nd1 nd2 nd3)), .val (.int (rankF nd1 nd0 nd2 nd3)), .val (.int (rankF nd2 nd0 nd1 nd3)), .val (.int (rankF nd3 nd0 nd1 nd2)), .val (.ref ob5), .val (.int (hiI u10_0)), .val (.int (1 : Int32)), .unset, .unset, .unset, .unset, .unset] [(.ref ob5)])) rfl (by rw [hml]; rfl) (Steps.refl _) (argsL := []) (rest := []) (lenOf pd0_3 rfl) rfl (by show 2 * 0 + _ ≤ _; exact Nat.le_of_eq rfl) (hb hby at_207) (fun _ _ => ⟨rfl, eq12, (by decide : 2 + 0 ≤ _), (by decide : 6 + 0 ≤ _)⟩)
    dsimp only [Pt.U, Pt.locs, Pt.cells, Pt.slots] at X14 l14 y14 z14 st14 hQ14
    obtain rfl : k14 = 2 := y14
    obtain rfl : n14 = 6 := z14
    obtain ⟨rfl, N14q, eq14⟩ := hQ14
    have N14 : Fr n0 L14 := by rw [l14]; exact Fr.app N12 N14q
    clear l14
    refine Runs.trans st14 ?_
    show Runs _ _ _ _ T14 (mkF m 210 #[.val (.int p0), .val (.int p1), .val (.int p2), .val (.int p3), .val (.int p4), .val (.int nd0), .val (.int nd1), .val (.int nd2), .val (.int nd3), .val (.int pt0), .val (.int pt1), .val (.int pt2), .val (.int pt3), .val (.int (rankF nd0 nd1 nd2 nd3)), .val (.int (rankF nd1 nd0 nd2 nd3)), .val (.int (rankF nd2 nd0 nd1 nd3)), .val (.int (rankF nd3 nd0 nd1 nd2)), .val (.ref ob5), .val (.int (hiI u10_0)), .val (.int (1 : Int32)), .unset, .unset, .unset, .unset, .unset] [(.int (u11_0.toInt32))])
    refine Runs.back (fun t_ k_ => XS.istore X14.here hx rfl (hb hby at_210) rfl (l' := #[.val (.int p0), .val (.int p1), .val (.int p2), .val (.int p3), .val (.int p4), .val (.int nd0), .val (.int nd1), .val (.int nd2), .val (.int nd3), .val (.int pt0), .val (.int pt1), .val (.int pt2), .val (.int pt3), .val (.int (rankF nd0 nd1 nd2 nd3)), .val (.int (rankF nd1 nd0 nd2 nd3)), .val (.int (rankF nd2 nd0 nd1 nd3)), .val (.int (rankF nd3 nd0 nd1 nd2)), .val (.ref ob5), .val (.int (hiI u10_0)), .val (.int (1 : Int32)), .val (.int (u11_0.toInt32)), .unset, .unset, .unset, .unset]) rfl k_) ?_
    show Runs _ _ _ _ T14 (mkF m 212 #[.val (.int p0), .val (.int p1), .val (.int p2), .val (.int p3), .val (.int p4), .val (.int nd0), .val (.int nd1), .val (.int nd2), .val (.int nd3), .val (.int pt0), .val (.int pt1), .val (.int pt2), .val (.int pt3), .val (.int (rankF nd0 nd1 nd2 nd3)), .val (.int (rankF nd1 nd0 nd2 nd3)), .val (.int (rankF nd2 nd0 nd1 nd3)), .val (.int (rankF nd3 nd0 nd1 nd2)), .val (.ref ob5), .val (.int (hiI u10_0)), .val (.int (1 : Int32)), .val (.int (u11_0.toInt32)), .unset, .unset, .unset, .unset] [])
    refine Runs.back (fun t_ k_ => XS.iload X14.here hx rfl (hb hby at_212) rfl k_) ?_
    show Runs _ _ _ _ T14 (mkF m 214 #[.val (.int p0), .val (.int p1), .val (.int p2), .val (.int p3), .val (.int p4), .val (.int nd0), .val (.int nd1), .val (.int nd2), .val (.int nd3), .val (.int pt0), .val (.int pt1), .val (.int pt2), .val (.int pt3), .val (.int (rankF nd0 nd1 nd2 nd3)), .val (.int (rankF nd1 nd0 nd2 nd3)), .val (.int (rankF nd2 nd0 nd1 nd3)), .val (.int (rankF nd3 nd0 nd1 nd2)), .val (.ref ob5), .val (.int (hiI u10_0)), .val (.int (1 : Int32)), .val (.int (u11_0.toInt32)), .unset, .unset, .unset, .unset] [(.int (1 : Int32))])
    refine Runs.back (fun t_ k_ => XS.ifNo X14.here hx rfl (hb hby at_214) rfl ((if0 _ _).trans (feq (show ¬ ((1 : Int32) = (0 : Int32)) from (by decide))).1) k_) ?_
    show Runs _ _ _ _ T14 (mkF m 217 #[.val (.int p0), .val (.int p1), .val (.int p2), .val (.int p3), .val (.int p4), .val (.int nd0), .val (.int nd1), .val (.int nd2), .val (.int nd3), .val (.int pt0), .val (.int pt1), .val (.int pt2), .val (.int pt3), .val (.int (rankF nd0 nd1 nd2 nd3)), .val (.int (rankF nd1 nd0 nd2 nd3)), .val (.int (rankF nd2 nd0 nd1 nd3)), .val (.int (rankF nd3 nd0 nd1 nd2)), .val (.ref ob5), .val (.int (hiI u10_0)), .val (.int (1 : Int32)), .val (.int (u11_0.toInt32)), .unset, .unset, .unset, .unset] [])
    refine Runs.back (fun t_ k_ => XS.iload X14.here hx rfl (hb hby at_217) rfl k_) ?_
    show Runs _ _ _ _ T14 (mkF m 219 #[.val (.int p0), .val (.int p1), .val (.int p2), .val (.int p3), .val (.int p4), .val (.int nd0), .val (.int nd1), .val (.int nd2), .val (.int nd3), .val (.int pt0), .val (.int pt1), .val (.int pt2), .val (.int pt3), .val (.int (rankF nd0 nd1 nd2 nd3)), .val (.int (rankF nd1 nd0 nd2 nd3)), .val (.int (rankF nd2 nd0 nd1 nd3)), .val (.int (rankF nd3 nd0 nd1 nd2)), .val (.ref ob5), .val (.int (hiI u10_0)), .val (.int (1 : Int32)), .val (.int (u11_0.toInt32)), .unset, .unset, .unset, .unset] [(.int (u11_0.toInt32))])
    refine Runs.back (fun t_ k_ => XS.iconst X14.here hx rfl (hb hby at_219) k_) ?_
    show Runs _ _ _ _ T14 (mkF m 220 #[.val (.int p0), .val (.int p1), .val (.int p2), .val (.int p3), .val (.int p4), .val (.int nd0), .val (.int nd1), .val (.int nd2), .val (.int nd3), .val (.int pt0), .val (.int pt1), .val (.int pt2), .val (.int pt3), .val (.int (rankF nd0 nd1 nd2 nd3)), .val (.int (rankF nd1 nd0 nd2 nd3)), .val (.int (rankF nd2 nd0 nd1 nd3)), .val (.int (rankF nd3 nd0 nd1 nd2)), .val (.ref ob5), .val (.int (hiI u10_0)), .val (.int (1 : Int32)), .val (.int (u11_0.toInt32)), .unset, .unset, .unset, .unset] [(.int (1 : Int32)), (.int (u11_0.toInt32))])
    refine Runs.back (fun t_ k_ => XS.iload X14.here hx rfl (hb hby at_220) rfl k_) ?_
    show Runs _ _ _ _ T14 (mkF m 222 #[.val (.int p0), .val (.int p1), .val (.int p2), .val (.int p3), .val (.int p4), .val (.int nd0), .val (.int nd1), .val (.int nd2), .val (.int nd3), .val (.int pt0), .val (.int pt1), .val (.int pt2), .val (.int pt3), .val (.int (rankF nd0 nd1 nd2 nd3)), .val (.int (rankF nd1 nd0 nd2 nd3)), .val (.int (rankF nd2 nd0 nd1 nd3)), .val (.int (rankF nd3 nd0 nd1 nd2)), .val (.ref ob5), .val (.int (hiI u10_0)), .val (.int (1 : Int32)), .val (.int (u11_0.toInt32)), .unset, .unset, .unset, .unset] [(.int (rankF nd0 nd1 nd2 nd3)), (.int (1 : Int32)), (.int (u11_0.toInt32))])
    refine Runs.back (fun t_ k_ => XS.iload X14.here hx rfl (hb hby at_222) rfl k_) ?_
    show Runs _ _ _ _ T14 (mkF m 224 #[.val (.int p0), .val (.int p1), .val (.int p2), .val (.int p3), .val (.int p4), .val (.int nd0), .val (.int nd1), .val (.int nd2), .val (.int nd3), .val (.int pt0), .val (.int pt1), .val (.int pt2), .val (.int pt3), .val (.int (rankF nd0 nd1 nd2 nd3)), .val (.int (rankF nd1 nd0 nd2 nd3)), .val (.int (rankF nd2 nd0 nd1 nd3)), .val (.int (rankF nd3 nd0 nd1 nd2)), .val (.ref ob5), .val (.int (hiI u10_0)), .val (.int (1 : Int32)), .val (.int (u11_0.toInt32)), .unset, .unset, .unset, .unset] [(.int (rankF nd1 nd0 nd2 nd3)), (.int (rankF nd0 nd1 nd2 nd3)), (.int (1 : Int32)), (.int (u11_0.toInt32))])
    refine Runs.back (fun t_ k_ => XS.iload X14.here hx rfl (hb hby at_224) rfl k_) ?_
    show Runs _ _ _ _ T14 (mkF m 226 #[.val (.int p0), .val (.int p1), .val (.int p2), .val (.int p3), .val (.int p4), .val (.int nd0), .val (.int nd1), .val (.int nd2), .val (.int nd3), .val (.int pt0), .val (.int pt1), .val (.int pt2), .val (.int pt3), .val (.int (rankF nd0 nd1 nd2 nd3)), .val (.int (rankF nd1 nd0 nd2 nd3)), .val (.int (rankF nd2 nd0 nd1 nd3)), .val (.int (rankF nd3 nd0 nd1 nd2)), .val (.ref ob5), .val (.int (hiI u10_0)), .val (.int (1 : Int32)), .val (.int (u11_0.toInt32)), .unset, .unset, .unset, .unset] [(.int (rankF nd2 nd0 nd1 nd3)), (.int (rankF nd1 nd0 nd2 nd3)), (.int (rankF nd0 nd1 nd2 nd3)), (.int (1 : Int32)), (.int (u11_0.toInt32))])
    refine Runs.back (fun t_ k_ => XS.iload X14.here hx rfl (hb hby at_226) rfl k_) ?_
    show Runs _ _ _ _ T14 (mkF m 228 #[.val (.int p0), .val (.int p1), .val (.int p2), .val (.int p3), .val (.int p4), .val (.int nd0), .val (.int nd1), .val (.int nd2), .val (.int nd3), .val (.int pt0), .val (.int pt1), .val (.int pt2), .val (.int pt3), .val (.int (rankF nd0 nd1 nd2 nd3)), .val (.int (rankF nd1 nd0 nd2 nd3)), .val (.int (rankF nd2 nd0 nd1 nd3)), .val (.int (rankF nd3 nd0 nd1 nd2)), .val (.ref ob5), .val (.int (hiI u10_0)), .val (.int (1 : Int32)), .val (.int (u11_0.toInt32)), .unset, .unset, .unset, .unset] [(.int (rankF nd3 nd0 nd1 nd2)), (.int (rankF nd2 nd0 nd1 nd3)), (.int (rankF nd1 nd0 nd2 nd3)), (.int (rankF nd0 nd1 nd2 nd3)), (.int (1 : Int32)), (.int (u11_0.toInt32))])
    refine Runs.back (fun t_ k_ => XS.iload X14.here hx rfl (hb hby at_228) rfl k_) ?_
    show Runs _ _ _ _ T14 (mkF m 230 #[.val (.int p0), .val (.int p1), .val (.int p2), .val (.int p3), .val (.int p4), .val (.int nd0), .val (.int nd1), .val (.int nd2), .val (.int nd3), .val (.int pt0), .val (.int pt1), .val (.int pt2), .val (.int pt3), .val (.int (rankF nd0 nd1 nd2 nd3)), .val (.int (rankF nd1 nd0 nd2 nd3)), .val (.int (rankF nd2 nd0 nd1 nd3)), .val (.int (rankF nd3 nd0 nd1 nd2)), .val (.ref ob5), .val (.int (hiI u10_0)), .val (.int (1 : Int32)), .val (.int (u11_0.toInt32)), .unset, .unset, .unset, .unset] [(.int pt0), (.int (rankF nd3 nd0 nd1 nd2)), (.int (rankF nd2 nd0 nd1 nd3)), (.int (rankF nd1 nd0 nd2 nd3)), (.int (rankF nd0 nd1 nd2 nd3)), (.int (1 : Int32)), (.int (u11_0.toInt32))])
    refine Runs.back (fun t_ k_ => XS.iload X14.here hx rfl (hb hby at_230) rfl k_) ?_
    show Runs _ _ _ _ T14 (mkF m 232 #[.val (.int p0), .val (.int p1), .val (.int p2), .val (.int p3), .val (.int p4), .val (.int nd0), .val (.int nd1), .val (.int nd2), .val (.int nd3), .val (.int pt0), .val (.int pt1), .val (.int pt2), .val (.int pt3), .val (.int (rankF nd0 nd1 nd2 nd3)), .val (.int (rankF nd1 nd0 nd2 nd3)), .val (.int (rankF nd2 nd0 nd1 nd3)), .val (.int (rankF nd3 nd0 nd1 nd2)), .val (.ref ob5), .val (.int (hiI u10_0)), .val (.int (1 : Int32)), .val (.int (u11_0.toInt32)), .unset, .unset, .unset, .unset] [(.int pt1), (.int pt0), (.int (rankF nd3 nd0 nd1 nd2)), (.int (rankF nd2 nd0 nd1 nd3)), (.int (rankF nd1 nd0 nd2 nd3)), (.int (rankF nd0 nd1 nd2 nd3)), (.int (1 : Int32)), (.int (u11_0.toInt32))])
    refine Runs.back (fun t_ k_ => XS.iload X14.here hx rfl (hb hby at_232) rfl k_) ?_
    show Runs _ _ _ _ T14 (mkF m 234 #[.val (.int p0), .val (.int p1), .val (.int p2), .val (.int p3), .val (.int p4), .val (.int nd0), .val (.int nd1), .val (.int nd2), .val (.int nd3), .val (.int pt0), .val (.int pt1), .val (.int pt2), .val (.int pt3), .val (.int (rankF nd0 nd1 nd2 nd3)), .val (.int (rankF nd1 nd0 nd2 nd3)), .val (.int (rankF nd2 nd0 nd1 nd3)), .val (.int (rankF nd3 nd0 nd1 nd2)), .val (.ref ob5), .val (.int (hiI u10_0)), .val (.int (1 : Int32)), .val (.int (u11_0.toInt32)), .unset, .unset, .unset, .unset] [(.int pt2), (.int pt1), (.int pt0), (.int (rankF nd3 nd0 nd1 nd2)), (.int (rankF nd2 nd0 nd1 nd3)), (.int (rankF nd1 nd0 nd2 nd3)), (.int (rankF nd0 nd1 nd2 nd3)), (.int (1 : Int32)), (.int (u11_0.toInt32))])
    refine Runs.back (fun t_ k_ => XS.iload X14.here hx rfl (hb hby at_234) rfl k_) ?_
    show Runs _ _ _ _ T14 (mkF m 236 #[.val (.int p0), .val (.int p1), .val (.int p2), .val (.int p3), .val (.int p4), .val (.int nd0), .val (.int nd1), .val (.int nd2), .val (.int nd3), .val (.int pt0), .val (.int pt1), .val (.int pt2), .val (.int pt3), .val (.int (rankF nd0 nd1 nd2 nd3)), .val (.int (rankF nd1 nd0 nd2 nd3)), .val (.int (rankF nd2 nd0 nd1 nd3)), .val (.int (rankF nd3 nd0 nd1 nd2)), .val (.ref ob5), .val (.int (hiI u10_0)), .val (.int (1 : Int32)), .val (.int (u11_0.toInt32)), .unset, .unset, .unset, .unset] [(.int pt3), (.int pt2), (.int pt1), (.int pt0), (.int (rankF nd3 nd0 nd1 nd2)), (.int (rankF nd2 nd0 nd1 nd3)), (.int (rankF nd1 nd0 nd2 nd3)), (.int (rankF nd0 nd1 nd2 nd3)), (.int (1 : Int32)), (.int (u11_0.toInt32))])
    obtain ⟨_, _, ⟨T15, L15, k15, n15⟩, -, X15, ⟨Lc15, hQ15, l15, y15, z15⟩, st15⟩ := Jvm.LawKit.callS X14 hx (y := (⟨"com/example/tradewheel/tradewheel/PartQueueRemovePinLaw", "pick", "(IIIIIIIII)I"⟩ : MethodName)) hown (mvT hZ (hw _ (List.mem_of_getElem? (i := 29) rfl))) (mvT hZ (hw _ (List.mem_of_getElem? (i := 30) rfl))) (mvT hZ (hw _ (List.mem_of_getElem? (i := 3) rfl))) (mvT hZ (hw _ (List.mem_of_getElem? (i := 31) rfl))) (by decide) (backOf (W := 1) (rm6 l Z a0 hw [] (1 : Int32) (rankF nd0 nd1 nd2 nd3) (rankF nd1 nd0 nd2 nd3) (rankF nd2 nd0 nd1 nd3) (rankF nd3 nd0 nd1 nd2) pt0 pt1 pt2 pt3 T11.heap n0 (Z11)) hZ (hw _ (List.mem_of_getElem? (i := 31) rfl)) (hw _ (List.mem_of_getElem? (i := 3) rfl)) (by decide) (by decide)) (g := (mkF m 236 #[.val (.int p0), .val (.int p1), .val (.int p2), .val (.int p3), .val (.int p4), .val (.int nd0), .val (.int nd1), .val (.int nd2), .val (.int nd3), .val (.int pt0), .val (.int pt1), .val (.int pt2), .val (.int pt3), .val (.int (rankF nd0 nd1 nd2 nd3)), .val (.int (rankF nd1 nd0 nd2 nd3)), .val (.int (rankF nd2 nd0 nd1 nd3)), .val (.int (rankF nd3 nd0 nd1 nd2)), .val (.ref ob5), .val (.int (hiI u10_0)), .val (.int (1 : Int32)), .val (.int (u11_0.toInt32)), .unset, .unset, .unset, .unset] [(.int pt3), (.int pt2), (.int pt1), (.int pt0), (.int (rankF nd3 nd0 nd1 nd2)), (.int (rankF nd2 nd0 nd1 nd3)), (.int (rankF nd1 nd0 nd2 nd3)), (.int (rankF nd0 nd1 nd2 nd3)), (.int (1 : Int32)), (.int (u11_0.toInt32))])) rfl (by rw [hml]; rfl) (argsL := [(.int (1 : Int32)), (.int (rankF nd0 nd1 nd2 nd3)), (.int (rankF nd1 nd0 nd2 nd3)), (.int (rankF nd2 nd0 nd1 nd3)), (.int (rankF nd3 nd0 nd1 nd2)), (.int pt0), (.int pt1), (.int pt2), (.int pt3)]) (rest := [(.int (u11_0.toInt32))]) (lenOf pd0_4 rfl) rfl (by show 2 * 0 + _ ≤ _; exact Nat.le_of_eq rfl) (hb hby at_236) (fun _ _ => ⟨rfl, eq14, (by decide : 2 + 0 ≤ _), (by decide : 6 + 0 ≤ _)⟩)
    dsimp only [Pt.U, Pt.locs, Pt.cells, Pt.slots] at X15 l15 y15 z15 st15 hQ15
    obtain rfl : k15 = 2 := y15
    obtain rfl : n15 = 6 := z15
    obtain ⟨rfl, N15q, eq15⟩ := hQ15
    have N15 : Fr n0 L15 := by rw [l15]; exact Fr.app N14 N15q
    clear l15
    refine Runs.back st15 ?_
    show Runs _ _ _ _ T15 (mkF m 239 #[.val (.int p0), .val (.int p1), .val (.int p2), .val (.int p3), .val (.int p4), .val (.int nd0), .val (.int nd1), .val (.int nd2), .val (.int nd3), .val (.int pt0), .val (.int pt1), .val (.int pt2), .val (.int pt3), .val (.int (rankF nd0 nd1 nd2 nd3)), .val (.int (rankF nd1 nd0 nd2 nd3)), .val (.int (rankF nd2 nd0 nd1 nd3)), .val (.int (rankF nd3 nd0 nd1 nd2)), .val (.ref ob5), .val (.int (hiI u10_0)), .val (.int (1 : Int32)), .val (.int (u11_0.toInt32)), .unset, .unset, .unset, .unset] [(.int (pickF (1 : Int32) (rankF nd0 nd1 nd2 nd3) (rankF nd1 nd0 nd2 nd3) (rankF nd2 nd0 nd1 nd3) (rankF nd3 nd0 nd1 nd2) pt0 pt1 pt2 pt3)), (.int (u11_0.toInt32))])
    by_cases c239_16 : (u11_0.toInt32) = (pickF (1 : Int32) (rankF nd0 nd1 nd2 nd3) (rankF nd1 nd0 nd2 nd3) (rankF nd2 nd0 nd1 nd3) (rankF nd3 nd0 nd1 nd2) pt0 pt1 pt2 pt3)
    · refine Runs.back (fun t_ k_ => XS.icmpNo X15.here hx rfl (hb hby at_239) rfl (teq c239_16).2 k_) ?_
      show Runs _ _ _ _ T15 (mkF m 242 #[.val (.int p0), .val (.int p1), .val (.int p2), .val (.int p3), .val (.int p4), .val (.int nd0), .val (.int nd1), .val (.int nd2), .val (.int nd3), .val (.int pt0), .val (.int pt1), .val (.int pt2), .val (.int pt3), .val (.int (rankF nd0 nd1 nd2 nd3)), .val (.int (rankF nd1 nd0 nd2 nd3)), .val (.int (rankF nd2 nd0 nd1 nd3)), .val (.int (rankF nd3 nd0 nd1 nd2)), .val (.ref ob5), .val (.int (hiI u10_0)), .val (.int (1 : Int32)), .val (.int (u11_0.toInt32)), .unset, .unset, .unset, .unset] [])
      refine Runs.back (fun t_ k_ => XS.iconst X15.here hx rfl (hb hby at_242) k_) ?_
      show Runs _ _ _ _ T15 (mkF m 243 #[.val (.int p0), .val (.int p1), .val (.int p2), .val (.int p3), .val (.int p4), .val (.int nd0), .val (.int nd1), .val (.int nd2), .val (.int nd3), .val (.int pt0), .val (.int pt1), .val (.int pt2), .val (.int pt3), .val (.int (rankF nd0 nd1 nd2 nd3)), .val (.int (rankF nd1 nd0 nd2 nd3)), .val (.int (rankF nd2 nd0 nd1 nd3)), .val (.int (rankF nd3 nd0 nd1 nd2)), .val (.ref ob5), .val (.int (hiI u10_0)), .val (.int (1 : Int32)), .val (.int (u11_0.toInt32)), .unset, .unset, .unset, .unset] [(.int (1 : Int32))])
      refine Runs.back (fun t_ k_ => XS.goto X15.here hx rfl (pc0 := 243) (pc' := 247) rfl (hb hby at_243) (by decide) (by decide) k_) ?_
      show Runs _ _ _ _ T15 (mkF m 247 #[.val (.int p0), .val (.int p1), .val (.int p2), .val (.int p3), .val (.int p4), .val (.int nd0), .val (.int nd1), .val (.int nd2), .val (.int nd3), .val (.int pt0), .val (.int pt1), .val (.int pt2), .val (.int pt3), .val (.int (rankF nd0 nd1 nd2 nd3)), .val (.int (rankF nd1 nd0 nd2 nd3)), .val (.int (rankF nd2 nd0 nd1 nd3)), .val (.int (rankF nd3 nd0 nd1 nd2)), .val (.ref ob5), .val (.int (hiI u10_0)), .val (.int (1 : Int32)), .val (.int (u11_0.toInt32)), .unset, .unset, .unset, .unset] [(.int (1 : Int32))])
      refine Runs.back (fun t_ k_ => XS.istore X15.here hx rfl (hb hby at_247) rfl (l' := #[.val (.int p0), .val (.int p1), .val (.int p2), .val (.int p3), .val (.int p4), .val (.int nd0), .val (.int nd1), .val (.int nd2), .val (.int nd3), .val (.int pt0), .val (.int pt1), .val (.int pt2), .val (.int pt3), .val (.int (rankF nd0 nd1 nd2 nd3)), .val (.int (rankF nd1 nd0 nd2 nd3)), .val (.int (rankF nd2 nd0 nd1 nd3)), .val (.int (rankF nd3 nd0 nd1 nd2)), .val (.ref ob5), .val (.int (hiI u10_0)), .val (.int (1 : Int32)), .val (.int (u11_0.toInt32)), .unset, .unset, .unset, .unset]) rfl k_) ?_
      show Runs _ _ _ _ T15 (mkF m 249 #[.val (.int p0), .val (.int p1), .val (.int p2), .val (.int p3), .val (.int p4), .val (.int nd0), .val (.int nd1), .val (.int nd2), .val (.int nd3), .val (.int pt0), .val (.int pt1), .val (.int pt2), .val (.int pt3), .val (.int (rankF nd0 nd1 nd2 nd3)), .val (.int (rankF nd1 nd0 nd2 nd3)), .val (.int (rankF nd2 nd0 nd1 nd3)), .val (.int (rankF nd3 nd0 nd1 nd2)), .val (.ref ob5), .val (.int (hiI u10_0)), .val (.int (1 : Int32)), .val (.int (u11_0.toInt32)), .unset, .unset, .unset, .unset] [])
      refine Runs.back (fun t_ k_ => XS.aload X15.here hx rfl (hb hby at_249) rfl rfl k_) ?_
      show Runs _ _ _ _ T15 (mkF m 251 #[.val (.int p0), .val (.int p1), .val (.int p2), .val (.int p3), .val (.int p4), .val (.int nd0), .val (.int nd1), .val (.int nd2), .val (.int nd3), .val (.int pt0), .val (.int pt1), .val (.int pt2), .val (.int pt3), .val (.int (rankF nd0 nd1 nd2 nd3)), .val (.int (rankF nd1 nd0 nd2 nd3)), .val (.int (rankF nd2 nd0 nd1 nd3)), .val (.int (rankF nd3 nd0 nd1 nd2)), .val (.ref ob5), .val (.int (hiI u10_0)), .val (.int (1 : Int32)), .val (.int (u11_0.toInt32)), .unset, .unset, .unset, .unset] [(.ref ob5)])
      obtain ⟨cq17, kq17, q17a, q17b, q17c⟩ := isOf hZ eq15 iE11
      obtain ⟨_, _, ⟨T17, L17, k17, n17⟩, -, X17, ⟨Lc17, hQ17, l17, y17, z17⟩, st17⟩ := X15.virtualBack hx (y := (⟨"com/example/tradewheel/tradewheel/PartQueue", "remove", "()I"⟩ : MethodName)) (z := (⟨"com/example/tradewheel/tradewheel/PartQueue", "remove", "()I"⟩ : MethodName)) hown (mvT hZ (hw _ (List.mem_of_getElem? (i := 24) rfl))) (mvT hZ (hw _ (List.mem_of_getElem? (i := 25) rfl))) (notFace_of_selects (args := #[]) (mvT hZ (hw _ (List.mem_of_getElem? (i := 27) rfl)))) (mvT hZ (hw _ (List.mem_of_getElem? (i := 27) rfl))) (mvT hZ (hw _ (List.mem_of_getElem? (i := 26) rfl))) (by decide) (backOf (W := 0) (rm5s3 l Z a0 hw [] ob5  b6 _ u11_0 u11_1 u11_2 T11.heap n0 (Z11) iE11 iF11 iG11 iA11 ne_ob5_b6 g_ob5 g_b6 hu11_0 hu11_1 hu11_2) hZ (hw _ (List.mem_of_getElem? (i := 28) rfl)) (hw _ (List.mem_of_getElem? (i := 7) rfl)) (by decide) (by decide)) q17a q17c (g := (mkF m 251 #[.val (.int p0), .val (.int p1), .val (.int p2), .val (.int p3), .val (.int p4), .val (.int nd0), .val (.int nd1), .val (.int nd2), .val (.int nd3), .val (.int pt0), .val (.int pt1), .val (.int pt2), .val (.int pt3), .val (.int (rankF nd0 nd1 nd2 nd3)), .val (.int (rankF nd1 nd0 nd2 nd3)), .val (.int (rankF nd2 nd0 nd1 nd3)), .val (.int (rankF nd3 nd0 nd1 nd2)), .val (.ref ob5), .val (.int (hiI u10_0)), .val (.int (1 : Int32)), .val (.int (u11_0.toInt32)), .unset, .unset, .unset, .unset] [(.ref ob5)])) rfl (by rw [hml]; rfl) (Steps.refl _) (argsL := []) (rest := []) (lenOf pd0_3 rfl) rfl (by show 2 * 0 + _ ≤ _; exact Nat.le_of_eq rfl) (hb hby at_251) (fun _ _ => ⟨rfl, eq15, (by decide : 2 + 0 ≤ _), (by decide : 6 + 0 ≤ _)⟩)
      dsimp only [Pt.U, Pt.locs, Pt.cells, Pt.slots] at X17 l17 y17 z17 st17 hQ17
      obtain rfl : k17 = 2 := y17
      obtain rfl : n17 = 6 := z17
      obtain ⟨rfl, N17q, K17, iE17, iF17, iG17, fq17, u17_0, u17_1, iA17, hu17_0, hu17_1, rel17⟩ := hQ17
      have N17 : Fr n0 L17 := by rw [l17]; exact Fr.app N15 N17q
      clear l17
      have f17_Exa_0 : Exa Z T17.heap ob5 "com/example/tradewheel/tradewheel/PartQueue" := iE11.keep K17
      have Z17 : n0 ≤ T17.heap.size := Nat.le_trans (Z11) K17.1
      refine Runs.trans st17 ?_
      show Runs _ _ _ _ T17 (mkF m 254 #[.val (.int p0), .val (.int p1), .val (.int p2), .val (.int p3), .val (.int p4), .val (.int nd0), .val (.int nd1), .val (.int nd2), .val (.int nd3), .val (.int pt0), .val (.int pt1), .val (.int pt2), .val (.int pt3), .val (.int (rankF nd0 nd1 nd2 nd3)), .val (.int (rankF nd1 nd0 nd2 nd3)), .val (.int (rankF nd2 nd0 nd1 nd3)), .val (.int (rankF nd3 nd0 nd1 nd2)), .val (.ref ob5), .val (.int (hiI u10_0)), .val (.int (1 : Int32)), .val (.int (u11_0.toInt32)), .unset, .unset, .unset, .unset] [(.int (hiI u11_0))])
      refine Runs.back (fun t_ k_ => XS.istore X17.here hx rfl (hb hby at_254) rfl (l' := #[.val (.int p0), .val (.int p1), .val (.int p2), .val (.int p3), .val (.int p4), .val (.int nd0), .val (.int nd1), .val (.int nd2), .val (.int nd3), .val (.int pt0), .val (.int pt1), .val (.int pt2), .val (.int pt3), .val (.int (rankF nd0 nd1 nd2 nd3)), .val (.int (rankF nd1 nd0 nd2 nd3)), .val (.int (rankF nd2 nd0 nd1 nd3)), .val (.int (rankF nd3 nd0 nd1 nd2)), .val (.ref ob5), .val (.int (hiI u10_0)), .val (.int (1 : Int32)), .val (.int (u11_0.toInt32)), .val (.int (hiI u11_0)), .unset, .unset, .unset]) rfl k_) ?_
      show Runs _ _ _ _ T17 (mkF m 256 #[.val (.int p0), .val (.int p1), .val (.int p2), .val (.int p3), .val (.int p4), .val (.int nd0), .val (.int nd1), .val (.int nd2), .val (.int nd3), .val (.int pt0), .val (.int pt1), .val (.int pt2), .val (.int pt3), .val (.int (rankF nd0 nd1 nd2 nd3)), .val (.int (rankF nd1 nd0 nd2 nd3)), .val (.int (rankF nd2 nd0 nd1 nd3)), .val (.int (rankF nd3 nd0 nd1 nd2)), .val (.ref ob5), .val (.int (hiI u10_0)), .val (.int (1 : Int32)), .val (.int (u11_0.toInt32)), .val (.int (hiI u11_0)), .unset, .unset, .unset] [])
      refine Runs.back (fun t_ k_ => XS.iload X17.here hx rfl (hb hby at_256) rfl k_) ?_
      show Runs _ _ _ _ T17 (mkF m 258 #[.val (.int p0), .val (.int p1), .val (.int p2), .val (.int p3), .val (.int p4), .val (.int nd0), .val (.int nd1), .val (.int nd2), .val (.int nd3), .val (.int pt0), .val (.int pt1), .val (.int pt2), .val (.int pt3), .val (.int (rankF nd0 nd1 nd2 nd3)), .val (.int (rankF nd1 nd0 nd2 nd3)), .val (.int (rankF nd2 nd0 nd1 nd3)), .val (.int (rankF nd3 nd0 nd1 nd2)), .val (.ref ob5), .val (.int (hiI u10_0)), .val (.int (1 : Int32)), .val (.int (u11_0.toInt32)), .val (.int (hiI u11_0)), .unset, .unset, .unset] [(.int (1 : Int32))])
      refine Runs.back (fun t_ k_ => XS.ifNo X17.here hx rfl (hb hby at_258) rfl ((if0 _ _).trans (feq (show ¬ ((1 : Int32) = (0 : Int32)) from (by decide))).1) k_) ?_
      show Runs _ _ _ _ T17 (mkF m 261 #[.val (.int p0), .val (.int p1), .val (.int p2), .val (.int p3), .val (.int p4), .val (.int nd0), .val (.int nd1), .val (.int nd2), .val (.int nd3), .val (.int pt0), .val (.int pt1), .val (.int pt2), .val (.int pt3), .val (.int (rankF nd0 nd1 nd2 nd3)), .val (.int (rankF nd1 nd0 nd2 nd3)), .val (.int (rankF nd2 nd0 nd1 nd3)), .val (.int (rankF nd3 nd0 nd1 nd2)), .val (.ref ob5), .val (.int (hiI u10_0)), .val (.int (1 : Int32)), .val (.int (u11_0.toInt32)), .val (.int (hiI u11_0)), .unset, .unset, .unset] [])
      refine Runs.back (fun t_ k_ => XS.iload X17.here hx rfl (hb hby at_261) rfl k_) ?_
      show Runs _ _ _ _ T17 (mkF m 263 #[.val (.int p0), .val (.int p1), .val (.int p2), .val (.int p3), .val (.int p4), .val (.int nd0), .val (.int nd1), .val (.int nd2), .val (.int nd3), .val (.int pt0), .val (.int pt1), .val (.int pt2), .val (.int pt3), .val (.int (rankF nd0 nd1 nd2 nd3)), .val (.int (rankF nd1 nd0 nd2 nd3)), .val (.int (rankF nd2 nd0 nd1 nd3)), .val (.int (rankF nd3 nd0 nd1 nd2)), .val (.ref ob5), .val (.int (hiI u10_0)), .val (.int (1 : Int32)), .val (.int (u11_0.toInt32)), .val (.int (hiI u11_0)), .unset, .unset, .unset] [(.int (hiI u11_0))])
      refine Runs.back (fun t_ k_ => XS.iconst X17.here hx rfl (hb hby at_263) k_) ?_
      show Runs _ _ _ _ T17 (mkF m 264 #[.val (.int p0), .val (.int p1), .val (.int p2), .val (.int p3), .val (.int p4), .val (.int nd0), .val (.int nd1), .val (.int nd2), .val (.int nd3), .val (.int pt0), .val (.int pt1), .val (.int pt2), .val (.int pt3), .val (.int (rankF nd0 nd1 nd2 nd3)), .val (.int (rankF nd1 nd0 nd2 nd3)), .val (.int (rankF nd2 nd0 nd1 nd3)), .val (.int (rankF nd3 nd0 nd1 nd2)), .val (.ref ob5), .val (.int (hiI u10_0)), .val (.int (1 : Int32)), .val (.int (u11_0.toInt32)), .val (.int (hiI u11_0)), .unset, .unset, .unset] [(.int (1 : Int32)), (.int (hiI u11_0))])
      refine Runs.back (fun t_ k_ => XS.iload X17.here hx rfl (hb hby at_264) rfl k_) ?_
      show Runs _ _ _ _ T17 (mkF m 266 #[.val (.int p0), .val (.int p1), .val (.int p2), .val (.int p3), .val (.int p4), .val (.int nd0), .val (.int nd1), .val (.int nd2), .val (.int nd3), .val (.int pt0), .val (.int pt1), .val (.int pt2), .val (.int pt3), .val (.int (rankF nd0 nd1 nd2 nd3)), .val (.int (rankF nd1 nd0 nd2 nd3)), .val (.int (rankF nd2 nd0 nd1 nd3)), .val (.int (rankF nd3 nd0 nd1 nd2)), .val (.ref ob5), .val (.int (hiI u10_0)), .val (.int (1 : Int32)), .val (.int (u11_0.toInt32)), .val (.int (hiI u11_0)), .unset, .unset, .unset] [(.int (rankF nd0 nd1 nd2 nd3)), (.int (1 : Int32)), (.int (hiI u11_0))])
      refine Runs.back (fun t_ k_ => XS.iload X17.here hx rfl (hb hby at_266) rfl k_) ?_
      show Runs _ _ _ _ T17 (mkF m 268 #[.val (.int p0), .val (.int p1), .val (.int p2), .val (.int p3), .val (.int p4), .val (.int nd0), .val (.int nd1), .val (.int nd2), .val (.int nd3), .val (.int pt0), .val (.int pt1), .val (.int pt2), .val (.int pt3), .val (.int (rankF nd0 nd1 nd2 nd3)), .val (.int (rankF nd1 nd0 nd2 nd3)), .val (.int (rankF nd2 nd0 nd1 nd3)), .val (.int (rankF nd3 nd0 nd1 nd2)), .val (.ref ob5), .val (.int (hiI u10_0)), .val (.int (1 : Int32)), .val (.int (u11_0.toInt32)), .val (.int (hiI u11_0)), .unset, .unset, .unset] [(.int (rankF nd1 nd0 nd2 nd3)), (.int (rankF nd0 nd1 nd2 nd3)), (.int (1 : Int32)), (.int (hiI u11_0))])
      refine Runs.back (fun t_ k_ => XS.iload X17.here hx rfl (hb hby at_268) rfl k_) ?_
      show Runs _ _ _ _ T17 (mkF m 270 #[.val (.int p0), .val (.int p1), .val (.int p2), .val (.int p3), .val (.int p4), .val (.int nd0), .val (.int nd1), .val (.int nd2), .val (.int nd3), .val (.int pt0), .val (.int pt1), .val (.int pt2), .val (.int pt3), .val (.int (rankF nd0 nd1 nd2 nd3)), .val (.int (rankF nd1 nd0 nd2 nd3)), .val (.int (rankF nd2 nd0 nd1 nd3)), .val (.int (rankF nd3 nd0 nd1 nd2)), .val (.ref ob5), .val (.int (hiI u10_0)), .val (.int (1 : Int32)), .val (.int (u11_0.toInt32)), .val (.int (hiI u11_0)), .unset, .unset, .unset] [(.int (rankF nd2 nd0 nd1 nd3)), (.int (rankF nd1 nd0 nd2 nd3)), (.int (rankF nd0 nd1 nd2 nd3)), (.int (1 : Int32)), (.int (hiI u11_0))])
      refine Runs.back (fun t_ k_ => XS.iload X17.here hx rfl (hb hby at_270) rfl k_) ?_
      show Runs _ _ _ _ T17 (mkF m 272 #[.val (.int p0), .val (.int p1), .val (.int p2), .val (.int p3), .val (.int p4), .val (.int nd0), .val (.int nd1), .val (.int nd2), .val (.int nd3), .val (.int pt0), .val (.int pt1), .val (.int pt2), .val (.int pt3), .val (.int (rankF nd0 nd1 nd2 nd3)), .val (.int (rankF nd1 nd0 nd2 nd3)), .val (.int (rankF nd2 nd0 nd1 nd3)), .val (.int (rankF nd3 nd0 nd1 nd2)), .val (.ref ob5), .val (.int (hiI u10_0)), .val (.int (1 : Int32)), .val (.int (u11_0.toInt32)), .val (.int (hiI u11_0)), .unset, .unset, .unset] [(.int (rankF nd3 nd0 nd1 nd2)), (.int (rankF nd2 nd0 nd1 nd3)), (.int (rankF nd1 nd0 nd2 nd3)), (.int (rankF nd0 nd1 nd2 nd3)), (.int (1 : Int32)), (.int (hiI u11_0))])
      refine Runs.back (fun t_ k_ => XS.iload X17.here hx rfl (hb hby at_272) rfl k_) ?_
      show Runs _ _ _ _ T17 (mkF m 274 #[.val (.int p0), .val (.int p1), .val (.int p2), .val (.int p3), .val (.int p4), .val (.int nd0), .val (.int nd1), .val (.int nd2), .val (.int nd3), .val (.int pt0), .val (.int pt1), .val (.int pt2), .val (.int pt3), .val (.int (rankF nd0 nd1 nd2 nd3)), .val (.int (rankF nd1 nd0 nd2 nd3)), .val (.int (rankF nd2 nd0 nd1 nd3)), .val (.int (rankF nd3 nd0 nd1 nd2)), .val (.ref ob5), .val (.int (hiI u10_0)), .val (.int (1 : Int32)), .val (.int (u11_0.toInt32)), .val (.int (hiI u11_0)), .unset, .unset, .unset] [(.int nd0), (.int (rankF nd3 nd0 nd1 nd2)), (.int (rankF nd2 nd0 nd1 nd3)), (.int (rankF nd1 nd0 nd2 nd3)), (.int (rankF nd0 nd1 nd2 nd3)), (.int (1 : Int32)), (.int (hiI u11_0))])
      refine Runs.back (fun t_ k_ => XS.iload X17.here hx rfl (hb hby at_274) rfl k_) ?_
      show Runs _ _ _ _ T17 (mkF m 276 #[.val (.int p0), .val (.int p1), .val (.int p2), .val (.int p3), .val (.int p4), .val (.int nd0), .val (.int nd1), .val (.int nd2), .val (.int nd3), .val (.int pt0), .val (.int pt1), .val (.int pt2), .val (.int pt3), .val (.int (rankF nd0 nd1 nd2 nd3)), .val (.int (rankF nd1 nd0 nd2 nd3)), .val (.int (rankF nd2 nd0 nd1 nd3)), .val (.int (rankF nd3 nd0 nd1 nd2)), .val (.ref ob5), .val (.int (hiI u10_0)), .val (.int (1 : Int32)), .val (.int (u11_0.toInt32)), .val (.int (hiI u11_0)), .unset, .unset, .unset] [(.int nd1), (.int nd0), (.int (rankF nd3 nd0 nd1 nd2)), (.int (rankF nd2 nd0 nd1 nd3)), (.int (rankF nd1 nd0 nd2 nd3)), (.int (rankF nd0 nd1 nd2 nd3)), (.int (1 : Int32)), (.int (hiI u11_0))])
      refine Runs.back (fun t_ k_ => XS.iload X17.here hx rfl (hb hby at_276) rfl k_) ?_
      show Runs _ _ _ _ T17 (mkF m 278 #[.val (.int p0), .val (.int p1), .val (.int p2), .val (.int p3), .val (.int p4), .val (.int nd0), .val (.int nd1), .val (.int nd2), .val (.int nd3), .val (.int pt0), .val (.int pt1), .val (.int pt2), .val (.int pt3), .val (.int (rankF nd0 nd1 nd2 nd3)), .val (.int (rankF nd1 nd0 nd2 nd3)), .val (.int (rankF nd2 nd0 nd1 nd3)), .val (.int (rankF nd3 nd0 nd1 nd2)), .val (.ref ob5), .val (.int (hiI u10_0)), .val (.int (1 : Int32)), .val (.int (u11_0.toInt32)), .val (.int (hiI u11_0)), .unset, .unset, .unset] [(.int nd2), (.int nd1), (.int nd0), (.int (rankF nd3 nd0 nd1 nd2)), (.int (rankF nd2 nd0 nd1 nd3)), (.int (rankF nd1 nd0 nd2 nd3)), (.int (rankF nd0 nd1 nd2 nd3)), (.int (1 : Int32)), (.int (hiI u11_0))])
      refine Runs.back (fun t_ k_ => XS.iload X17.here hx rfl (hb hby at_278) rfl k_) ?_
      show Runs _ _ _ _ T17 (mkF m 280 #[.val (.int p0), .val (.int p1), .val (.int p2), .val (.int p3), .val (.int p4), .val (.int nd0), .val (.int nd1), .val (.int nd2), .val (.int nd3), .val (.int pt0), .val (.int pt1), .val (.int pt2), .val (.int pt3), .val (.int (rankF nd0 nd1 nd2 nd3)), .val (.int (rankF nd1 nd0 nd2 nd3)), .val (.int (rankF nd2 nd0 nd1 nd3)), .val (.int (rankF nd3 nd0 nd1 nd2)), .val (.ref ob5), .val (.int (hiI u10_0)), .val (.int (1 : Int32)), .val (.int (u11_0.toInt32)), .val (.int (hiI u11_0)), .unset, .unset, .unset] [(.int nd3), (.int nd2), (.int nd1), (.int nd0), (.int (rankF nd3 nd0 nd1 nd2)), (.int (rankF nd2 nd0 nd1 nd3)), (.int (rankF nd1 nd0 nd2 nd3)), (.int (rankF nd0 nd1 nd2 nd3)), (.int (1 : Int32)), (.int (hiI u11_0))])
      obtain ⟨_, _, ⟨T18, L18, k18, n18⟩, -, X18, ⟨Lc18, hQ18, l18, y18, z18⟩, st18⟩ := Jvm.LawKit.callS X17 hx (y := (⟨"com/example/tradewheel/tradewheel/PartQueueRemovePinLaw", "pick", "(IIIIIIIII)I"⟩ : MethodName)) hown (mvT hZ (hw _ (List.mem_of_getElem? (i := 29) rfl))) (mvT hZ (hw _ (List.mem_of_getElem? (i := 30) rfl))) (mvT hZ (hw _ (List.mem_of_getElem? (i := 3) rfl))) (mvT hZ (hw _ (List.mem_of_getElem? (i := 31) rfl))) (by decide) (backOf (W := 1) (rm6 l Z a0 hw [] (1 : Int32) (rankF nd0 nd1 nd2 nd3) (rankF nd1 nd0 nd2 nd3) (rankF nd2 nd0 nd1 nd3) (rankF nd3 nd0 nd1 nd2) nd0 nd1 nd2 nd3 T17.heap n0 (Z17)) hZ (hw _ (List.mem_of_getElem? (i := 31) rfl)) (hw _ (List.mem_of_getElem? (i := 3) rfl)) (by decide) (by decide)) (g := (mkF m 280 #[.val (.int p0), .val (.int p1), .val (.int p2), .val (.int p3), .val (.int p4), .val (.int nd0), .val (.int nd1), .val (.int nd2), .val (.int nd3), .val (.int pt0), .val (.int pt1), .val (.int pt2), .val (.int pt3), .val (.int (rankF nd0 nd1 nd2 nd3)), .val (.int (rankF nd1 nd0 nd2 nd3)), .val (.int (rankF nd2 nd0 nd1 nd3)), .val (.int (rankF nd3 nd0 nd1 nd2)), .val (.ref ob5), .val (.int (hiI u10_0)), .val (.int (1 : Int32)), .val (.int (u11_0.toInt32)), .val (.int (hiI u11_0)), .unset, .unset, .unset] [(.int nd3), (.int nd2), (.int nd1), (.int nd0), (.int (rankF nd3 nd0 nd1 nd2)), (.int (rankF nd2 nd0 nd1 nd3)), (.int (rankF nd1 nd0 nd2 nd3)), (.int (rankF nd0 nd1 nd2 nd3)), (.int (1 : Int32)), (.int (hiI u11_0))])) rfl (by rw [hml]; rfl) (argsL := [(.int (1 : Int32)), (.int (rankF nd0 nd1 nd2 nd3)), (.int (rankF nd1 nd0 nd2 nd3)), (.int (rankF nd2 nd0 nd1 nd3)), (.int (rankF nd3 nd0 nd1 nd2)), (.int nd0), (.int nd1), (.int nd2), (.int nd3)]) (rest := [(.int (hiI u11_0))]) (lenOf pd0_4 rfl) rfl (by show 2 * 0 + _ ≤ _; exact Nat.le_of_eq rfl) (hb hby at_280) (fun _ _ => ⟨rfl, rfl, (by decide : 2 + 0 ≤ _), (by decide : 6 + 0 ≤ _)⟩)
      dsimp only [Pt.U, Pt.locs, Pt.cells, Pt.slots] at X18 l18 y18 z18 st18 hQ18
      obtain rfl : k18 = 2 := y18
      obtain rfl : n18 = 6 := z18
      obtain ⟨rfl, N18q, eq18⟩ := hQ18
      have N18 : Fr n0 L18 := by rw [l18]; exact Fr.app N17 N18q
      clear l18
      refine Runs.back st18 ?_
      show Runs _ _ _ _ T18 (mkF m 283 #[.val (.int p0), .val (.int p1), .val (.int p2), .val (.int p3), .val (.int p4), .val (.int nd0), .val (.int nd1), .val (.int nd2), .val (.int nd3), .val (.int pt0), .val (.int pt1), .val (.int pt2), .val (.int pt3), .val (.int (rankF nd0 nd1 nd2 nd3)), .val (.int (rankF nd1 nd0 nd2 nd3)), .val (.int (rankF nd2 nd0 nd1 nd3)), .val (.int (rankF nd3 nd0 nd1 nd2)), .val (.ref ob5), .val (.int (hiI u10_0)), .val (.int (1 : Int32)), .val (.int (u11_0.toInt32)), .val (.int (hiI u11_0)), .unset, .unset, .unset] [(.int (pickF (1 : Int32) (rankF nd0 nd1 nd2 nd3) (rankF nd1 nd0 nd2 nd3) (rankF nd2 nd0 nd1 nd3) (rankF nd3 nd0 nd1 nd2) nd0 nd1 nd2 nd3)), (.int (hiI u11_0))])
      by_cases c283_19 : (hiI u11_0) = (pickF (1 : Int32) (rankF nd0 nd1 nd2 nd3) (rankF nd1 nd0 nd2 nd3) (rankF nd2 nd0 nd1 nd3) (rankF nd3 nd0 nd1 nd2) nd0 nd1 nd2 nd3)
      · refine Runs.back (fun t_ k_ => XS.icmpNo X18.here hx rfl (hb hby at_283) rfl (teq c283_19).2 k_) ?_
        show Runs _ _ _ _ T18 (mkF m 286 #[.val (.int p0), .val (.int p1), .val (.int p2), .val (.int p3), .val (.int p4), .val (.int nd0), .val (.int nd1), .val (.int nd2), .val (.int nd3), .val (.int pt0), .val (.int pt1), .val (.int pt2), .val (.int pt3), .val (.int (rankF nd0 nd1 nd2 nd3)), .val (.int (rankF nd1 nd0 nd2 nd3)), .val (.int (rankF nd2 nd0 nd1 nd3)), .val (.int (rankF nd3 nd0 nd1 nd2)), .val (.ref ob5), .val (.int (hiI u10_0)), .val (.int (1 : Int32)), .val (.int (u11_0.toInt32)), .val (.int (hiI u11_0)), .unset, .unset, .unset] [])
        refine Runs.back (fun t_ k_ => XS.iconst X18.here hx rfl (hb hby at_286) k_) ?_
        show Runs _ _ _ _ T18 (mkF m 287 #[.val (.int p0), .val (.int p1), .val (.int p2), .val (.int p3), .val (.int p4), .val (.int nd0), .val (.int nd1), .val (.int nd2), .val (.int nd3), .val (.int pt0), .val (.int pt1), .val (.int pt2), .val (.int pt3), .val (.int (rankF nd0 nd1 nd2 nd3)), .val (.int (rankF nd1 nd0 nd2 nd3)), .val (.int (rankF nd2 nd0 nd1 nd3)), .val (.int (rankF nd3 nd0 nd1 nd2)), .val (.ref ob5), .val (.int (hiI u10_0)), .val (.int (1 : Int32)), .val (.int (u11_0.toInt32)), .val (.int (hiI u11_0)), .unset, .unset, .unset] [(.int (1 : Int32))])
        refine Runs.back (fun t_ k_ => XS.goto X18.here hx rfl (pc0 := 287) (pc' := 291) rfl (hb hby at_287) (by decide) (by decide) k_) ?_
        show Runs _ _ _ _ T18 (mkF m 291 #[.val (.int p0), .val (.int p1), .val (.int p2), .val (.int p3), .val (.int p4), .val (.int nd0), .val (.int nd1), .val (.int nd2), .val (.int nd3), .val (.int pt0), .val (.int pt1), .val (.int pt2), .val (.int pt3), .val (.int (rankF nd0 nd1 nd2 nd3)), .val (.int (rankF nd1 nd0 nd2 nd3)), .val (.int (rankF nd2 nd0 nd1 nd3)), .val (.int (rankF nd3 nd0 nd1 nd2)), .val (.ref ob5), .val (.int (hiI u10_0)), .val (.int (1 : Int32)), .val (.int (u11_0.toInt32)), .val (.int (hiI u11_0)), .unset, .unset, .unset] [(.int (1 : Int32))])
        refine Runs.back (fun t_ k_ => XS.istore X18.here hx rfl (hb hby at_291) rfl (l' := #[.val (.int p0), .val (.int p1), .val (.int p2), .val (.int p3), .val (.int p4), .val (.int nd0), .val (.int nd1), .val (.int nd2), .val (.int nd3), .val (.int pt0), .val (.int pt1), .val (.int pt2), .val (.int pt3), .val (.int (rankF nd0 nd1 nd2 nd3)), .val (.int (rankF nd1 nd0 nd2 nd3)), .val (.int (rankF nd2 nd0 nd1 nd3)), .val (.int (rankF nd3 nd0 nd1 nd2)), .val (.ref ob5), .val (.int (hiI u10_0)), .val (.int (1 : Int32)), .val (.int (u11_0.toInt32)), .val (.int (hiI u11_0)), .unset, .unset, .unset]) rfl k_) ?_
        show Runs _ _ _ _ T18 (mkF m 293 #[.val (.int p0), .val (.int p1), .val (.int p2), .val (.int p3), .val (.int p4), .val (.int nd0), .val (.int nd1), .val (.int nd2), .val (.int nd3), .val (.int pt0), .val (.int pt1), .val (.int pt2), .val (.int pt3), .val (.int (rankF nd0 nd1 nd2 nd3)), .val (.int (rankF nd1 nd0 nd2 nd3)), .val (.int (rankF nd2 nd0 nd1 nd3)), .val (.int (rankF nd3 nd0 nd1 nd2)), .val (.ref ob5), .val (.int (hiI u10_0)), .val (.int (1 : Int32)), .val (.int (u11_0.toInt32)), .val (.int (hiI u11_0)), .unset, .unset, .unset] [])
        refine Runs.back (fun t_ k_ => XS.aload X18.here hx rfl (hb hby at_293) rfl rfl k_) ?_
        show Runs _ _ _ _ T18 (mkF m 295 #[.val (.int p0), .val (.int p1), .val (.int p2), .val (.int p3), .val (.int p4), .val (.int nd0), .val (.int nd1), .val (.int nd2), .val (.int nd3), .val (.int pt0), .val (.int pt1), .val (.int pt2), .val (.int pt3), .val (.int (rankF nd0 nd1 nd2 nd3)), .val (.int (rankF nd1 nd0 nd2 nd3)), .val (.int (rankF nd2 nd0 nd1 nd3)), .val (.int (rankF nd3 nd0 nd1 nd2)), .val (.ref ob5), .val (.int (hiI u10_0)), .val (.int (1 : Int32)), .val (.int (u11_0.toInt32)), .val (.int (hiI u11_0)), .unset, .unset, .unset] [(.ref ob5)])
        obtain ⟨cq20, kq20, q20a, q20b, q20c⟩ := isOf hZ eq18 iE17
        obtain ⟨_, _, ⟨T20, L20, k20, n20⟩, -, X20, ⟨Lc20, hQ20, l20, y20, z20⟩, st20⟩ := X18.virtualBack hx (y := (⟨"com/example/tradewheel/tradewheel/PartQueue", "part", "()I"⟩ : MethodName)) (z := (⟨"com/example/tradewheel/tradewheel/PartQueue", "part", "()I"⟩ : MethodName)) hown (mvT hZ (hw _ (List.mem_of_getElem? (i := 32) rfl))) (mvT hZ (hw _ (List.mem_of_getElem? (i := 33) rfl))) (notFace_of_selects (args := #[]) (mvT hZ (hw _ (List.mem_of_getElem? (i := 35) rfl)))) (mvT hZ (hw _ (List.mem_of_getElem? (i := 35) rfl))) (mvT hZ (hw _ (List.mem_of_getElem? (i := 34) rfl))) (by decide) (backOf (W := 0) (rm7 l Z a0 hw [] ob5 b6 _ u17_0 T17.heap n0 (Z17) iF17 iA17 hu17_0) hZ (hw _ (List.mem_of_getElem? (i := 36) rfl)) (hw _ (List.mem_of_getElem? (i := 7) rfl)) (by decide) (by decide)) q20a q20c (g := (mkF m 295 #[.val (.int p0), .val (.int p1), .val (.int p2), .val (.int p3), .val (.int p4), .val (.int nd0), .val (.int nd1), .val (.int nd2), .val (.int nd3), .val (.int pt0), .val (.int pt1), .val (.int pt2), .val (.int pt3), .val (.int (rankF nd0 nd1 nd2 nd3)), .val (.int (rankF nd1 nd0 nd2 nd3)), .val (.int (rankF nd2 nd0 nd1 nd3)), .val (.int (rankF nd3 nd0 nd1 nd2)), .val (.ref ob5), .val (.int (hiI u10_0)), .val (.int (1 : Int32)), .val (.int (u11_0.toInt32)), .val (.int (hiI u11_0)), .unset, .unset, .unset] [(.ref ob5)])) rfl (by rw [hml]; rfl) (Steps.refl _) (argsL := []) (rest := []) (lenOf pd0_3 rfl) rfl (by show 2 * 0 + _ ≤ _; exact Nat.le_of_eq rfl) (hb hby at_295) (fun _ _ => ⟨rfl, eq18, (by decide : 2 + 0 ≤ _), (by decide : 6 + 0 ≤ _)⟩)
        dsimp only [Pt.U, Pt.locs, Pt.cells, Pt.slots] at X20 l20 y20 z20 st20 hQ20
        obtain rfl : k20 = 2 := y20
        obtain rfl : n20 = 6 := z20
        obtain ⟨rfl, N20q, eq20⟩ := hQ20
        have N20 : Fr n0 L20 := by rw [l20]; exact Fr.app N18 N20q
        clear l20
        refine Runs.trans st20 ?_
        show Runs _ _ _ _ T20 (mkF m 298 #[.val (.int p0), .val (.int p1), .val (.int p2), .val (.int p3), .val (.int p4), .val (.int nd0), .val (.int nd1), .val (.int nd2), .val (.int nd3), .val (.int pt0), .val (.int pt1), .val (.int pt2), .val (.int pt3), .val (.int (rankF nd0 nd1 nd2 nd3)), .val (.int (rankF nd1 nd0 nd2 nd3)), .val (.int (rankF nd2 nd0 nd1 nd3)), .val (.int (rankF nd3 nd0 nd1 nd2)), .val (.ref ob5), .val (.int (hiI u10_0)), .val (.int (1 : Int32)), .val (.int (u11_0.toInt32)), .val (.int (hiI u11_0)), .unset, .unset, .unset] [(.int (u17_0.toInt32))])
        refine Runs.back (fun t_ k_ => XS.istore X20.here hx rfl (hb hby at_298) rfl (l' := #[.val (.int p0), .val (.int p1), .val (.int p2), .val (.int p3), .val (.int p4), .val (.int nd0), .val (.int nd1), .val (.int nd2), .val (.int nd3), .val (.int pt0), .val (.int pt1), .val (.int pt2), .val (.int pt3), .val (.int (rankF nd0 nd1 nd2 nd3)), .val (.int (rankF nd1 nd0 nd2 nd3)), .val (.int (rankF nd2 nd0 nd1 nd3)), .val (.int (rankF nd3 nd0 nd1 nd2)), .val (.ref ob5), .val (.int (hiI u10_0)), .val (.int (1 : Int32)), .val (.int (u11_0.toInt32)), .val (.int (hiI u11_0)), .val (.int (u17_0.toInt32)), .unset, .unset]) rfl k_) ?_
        show Runs _ _ _ _ T20 (mkF m 300 #[.val (.int p0), .val (.int p1), .val (.int p2), .val (.int p3), .val (.int p4), .val (.int nd0), .val (.int nd1), .val (.int nd2), .val (.int nd3), .val (.int pt0), .val (.int pt1), .val (.int pt2), .val (.int pt3), .val (.int (rankF nd0 nd1 nd2 nd3)), .val (.int (rankF nd1 nd0 nd2 nd3)), .val (.int (rankF nd2 nd0 nd1 nd3)), .val (.int (rankF nd3 nd0 nd1 nd2)), .val (.ref ob5), .val (.int (hiI u10_0)), .val (.int (1 : Int32)), .val (.int (u11_0.toInt32)), .val (.int (hiI u11_0)), .val (.int (u17_0.toInt32)), .unset, .unset] [])
        refine Runs.back (fun t_ k_ => XS.iload X20.here hx rfl (hb hby at_300) rfl k_) ?_
        show Runs _ _ _ _ T20 (mkF m 302 #[.val (.int p0), .val (.int p1), .val (.int p2), .val (.int p3), .val (.int p4), .val (.int nd0), .val (.int nd1), .val (.int nd2), .val (.int nd3), .val (.int pt0), .val (.int pt1), .val (.int pt2), .val (.int pt3), .val (.int (rankF nd0 nd1 nd2 nd3)), .val (.int (rankF nd1 nd0 nd2 nd3)), .val (.int (rankF nd2 nd0 nd1 nd3)), .val (.int (rankF nd3 nd0 nd1 nd2)), .val (.ref ob5), .val (.int (hiI u10_0)), .val (.int (1 : Int32)), .val (.int (u11_0.toInt32)), .val (.int (hiI u11_0)), .val (.int (u17_0.toInt32)), .unset, .unset] [(.int (1 : Int32))])
        refine Runs.back (fun t_ k_ => XS.ifNo X20.here hx rfl (hb hby at_302) rfl ((if0 _ _).trans (feq (show ¬ ((1 : Int32) = (0 : Int32)) from (by decide))).1) k_) ?_
        show Runs _ _ _ _ T20 (mkF m 305 #[.val (.int p0), .val (.int p1), .val (.int p2), .val (.int p3), .val (.int p4), .val (.int nd0), .val (.int nd1), .val (.int nd2), .val (.int nd3), .val (.int pt0), .val (.int pt1), .val (.int pt2), .val (.int pt3), .val (.int (rankF nd0 nd1 nd2 nd3)), .val (.int (rankF nd1 nd0 nd2 nd3)), .val (.int (rankF nd2 nd0 nd1 nd3)), .val (.int (rankF nd3 nd0 nd1 nd2)), .val (.ref ob5), .val (.int (hiI u10_0)), .val (.int (1 : Int32)), .val (.int (u11_0.toInt32)), .val (.int (hiI u11_0)), .val (.int (u17_0.toInt32)), .unset, .unset] [])
        refine Runs.back (fun t_ k_ => XS.iload X20.here hx rfl (hb hby at_305) rfl k_) ?_
        show Runs _ _ _ _ T20 (mkF m 307 #[.val (.int p0), .val (.int p1), .val (.int p2), .val (.int p3), .val (.int p4), .val (.int nd0), .val (.int nd1), .val (.int nd2), .val (.int nd3), .val (.int pt0), .val (.int pt1), .val (.int pt2), .val (.int pt3), .val (.int (rankF nd0 nd1 nd2 nd3)), .val (.int (rankF nd1 nd0 nd2 nd3)), .val (.int (rankF nd2 nd0 nd1 nd3)), .val (.int (rankF nd3 nd0 nd1 nd2)), .val (.ref ob5), .val (.int (hiI u10_0)), .val (.int (1 : Int32)), .val (.int (u11_0.toInt32)), .val (.int (hiI u11_0)), .val (.int (u17_0.toInt32)), .unset, .unset] [(.int (u17_0.toInt32))])
        refine Runs.back (fun t_ k_ => XS.iconst X20.here hx rfl (hb hby at_307) k_) ?_
        show Runs _ _ _ _ T20 (mkF m 308 #[.val (.int p0), .val (.int p1), .val (.int p2), .val (.int p3), .val (.int p4), .val (.int nd0), .val (.int nd1), .val (.int nd2), .val (.int nd3), .val (.int pt0), .val (.int pt1), .val (.int pt2), .val (.int pt3), .val (.int (rankF nd0 nd1 nd2 nd3)), .val (.int (rankF nd1 nd0 nd2 nd3)), .val (.int (rankF nd2 nd0 nd1 nd3)), .val (.int (rankF nd3 nd0 nd1 nd2)), .val (.ref ob5), .val (.int (hiI u10_0)), .val (.int (1 : Int32)), .val (.int (u11_0.toInt32)), .val (.int (hiI u11_0)), .val (.int (u17_0.toInt32)), .unset, .unset] [(.int (2 : Int32)), (.int (u17_0.toInt32))])
        refine Runs.back (fun t_ k_ => XS.iload X20.here hx rfl (hb hby at_308) rfl k_) ?_
        show Runs _ _ _ _ T20 (mkF m 310 #[.val (.int p0), .val (.int p1), .val (.int p2), .val (.int p3), .val (.int p4), .val (.int nd0), .val (.int nd1), .val (.int nd2), .val (.int nd3), .val (.int pt0), .val (.int pt1), .val (.int pt2), .val (.int pt3), .val (.int (rankF nd0 nd1 nd2 nd3)), .val (.int (rankF nd1 nd0 nd2 nd3)), .val (.int (rankF nd2 nd0 nd1 nd3)), .val (.int (rankF nd3 nd0 nd1 nd2)), .val (.ref ob5), .val (.int (hiI u10_0)), .val (.int (1 : Int32)), .val (.int (u11_0.toInt32)), .val (.int (hiI u11_0)), .val (.int (u17_0.toInt32)), .unset, .unset] [(.int (rankF nd0 nd1 nd2 nd3)), (.int (2 : Int32)), (.int (u17_0.toInt32))])
        refine Runs.back (fun t_ k_ => XS.iload X20.here hx rfl (hb hby at_310) rfl k_) ?_
        show Runs _ _ _ _ T20 (mkF m 312 #[.val (.int p0), .val (.int p1), .val (.int p2), .val (.int p3), .val (.int p4), .val (.int nd0), .val (.int nd1), .val (.int nd2), .val (.int nd3), .val (.int pt0), .val (.int pt1), .val (.int pt2), .val (.int pt3), .val (.int (rankF nd0 nd1 nd2 nd3)), .val (.int (rankF nd1 nd0 nd2 nd3)), .val (.int (rankF nd2 nd0 nd1 nd3)), .val (.int (rankF nd3 nd0 nd1 nd2)), .val (.ref ob5), .val (.int (hiI u10_0)), .val (.int (1 : Int32)), .val (.int (u11_0.toInt32)), .val (.int (hiI u11_0)), .val (.int (u17_0.toInt32)), .unset, .unset] [(.int (rankF nd1 nd0 nd2 nd3)), (.int (rankF nd0 nd1 nd2 nd3)), (.int (2 : Int32)), (.int (u17_0.toInt32))])
        refine Runs.back (fun t_ k_ => XS.iload X20.here hx rfl (hb hby at_312) rfl k_) ?_
        show Runs _ _ _ _ T20 (mkF m 314 #[.val (.int p0), .val (.int p1), .val (.int p2), .val (.int p3), .val (.int p4), .val (.int nd0), .val (.int nd1), .val (.int nd2), .val (.int nd3), .val (.int pt0), .val (.int pt1), .val (.int pt2), .val (.int pt3), .val (.int (rankF nd0 nd1 nd2 nd3)), .val (.int (rankF nd1 nd0 nd2 nd3)), .val (.int (rankF nd2 nd0 nd1 nd3)), .val (.int (rankF nd3 nd0 nd1 nd2)), .val (.ref ob5), .val (.int (hiI u10_0)), .val (.int (1 : Int32)), .val (.int (u11_0.toInt32)), .val (.int (hiI u11_0)), .val (.int (u17_0.toInt32)), .unset, .unset] [(.int (rankF nd2 nd0 nd1 nd3)), (.int (rankF nd1 nd0 nd2 nd3)), (.int (rankF nd0 nd1 nd2 nd3)), (.int (2 : Int32)), (.int (u17_0.toInt32))])
        refine Runs.back (fun t_ k_ => XS.iload X20.here hx rfl (hb hby at_314) rfl k_) ?_
        show Runs _ _ _ _ T20 (mkF m 316 #[.val (.int p0), .val (.int p1), .val (.int p2), .val (.int p3), .val (.int p4), .val (.int nd0), .val (.int nd1), .val (.int nd2), .val (.int nd3), .val (.int pt0), .val (.int pt1), .val (.int pt2), .val (.int pt3), .val (.int (rankF nd0 nd1 nd2 nd3)), .val (.int (rankF nd1 nd0 nd2 nd3)), .val (.int (rankF nd2 nd0 nd1 nd3)), .val (.int (rankF nd3 nd0 nd1 nd2)), .val (.ref ob5), .val (.int (hiI u10_0)), .val (.int (1 : Int32)), .val (.int (u11_0.toInt32)), .val (.int (hiI u11_0)), .val (.int (u17_0.toInt32)), .unset, .unset] [(.int (rankF nd3 nd0 nd1 nd2)), (.int (rankF nd2 nd0 nd1 nd3)), (.int (rankF nd1 nd0 nd2 nd3)), (.int (rankF nd0 nd1 nd2 nd3)), (.int (2 : Int32)), (.int (u17_0.toInt32))])
        refine Runs.back (fun t_ k_ => XS.iload X20.here hx rfl (hb hby at_316) rfl k_) ?_
        show Runs _ _ _ _ T20 (mkF m 318 #[.val (.int p0), .val (.int p1), .val (.int p2), .val (.int p3), .val (.int p4), .val (.int nd0), .val (.int nd1), .val (.int nd2), .val (.int nd3), .val (.int pt0), .val (.int pt1), .val (.int pt2), .val (.int pt3), .val (.int (rankF nd0 nd1 nd2 nd3)), .val (.int (rankF nd1 nd0 nd2 nd3)), .val (.int (rankF nd2 nd0 nd1 nd3)), .val (.int (rankF nd3 nd0 nd1 nd2)), .val (.ref ob5), .val (.int (hiI u10_0)), .val (.int (1 : Int32)), .val (.int (u11_0.toInt32)), .val (.int (hiI u11_0)), .val (.int (u17_0.toInt32)), .unset, .unset] [(.int pt0), (.int (rankF nd3 nd0 nd1 nd2)), (.int (rankF nd2 nd0 nd1 nd3)), (.int (rankF nd1 nd0 nd2 nd3)), (.int (rankF nd0 nd1 nd2 nd3)), (.int (2 : Int32)), (.int (u17_0.toInt32))])
        refine Runs.back (fun t_ k_ => XS.iload X20.here hx rfl (hb hby at_318) rfl k_) ?_
        show Runs _ _ _ _ T20 (mkF m 320 #[.val (.int p0), .val (.int p1), .val (.int p2), .val (.int p3), .val (.int p4), .val (.int nd0), .val (.int nd1), .val (.int nd2), .val (.int nd3), .val (.int pt0), .val (.int pt1), .val (.int pt2), .val (.int pt3), .val (.int (rankF nd0 nd1 nd2 nd3)), .val (.int (rankF nd1 nd0 nd2 nd3)), .val (.int (rankF nd2 nd0 nd1 nd3)), .val (.int (rankF nd3 nd0 nd1 nd2)), .val (.ref ob5), .val (.int (hiI u10_0)), .val (.int (1 : Int32)), .val (.int (u11_0.toInt32)), .val (.int (hiI u11_0)), .val (.int (u17_0.toInt32)), .unset, .unset] [(.int pt1), (.int pt0), (.int (rankF nd3 nd0 nd1 nd2)), (.int (rankF nd2 nd0 nd1 nd3)), (.int (rankF nd1 nd0 nd2 nd3)), (.int (rankF nd0 nd1 nd2 nd3)), (.int (2 : Int32)), (.int (u17_0.toInt32))])
        refine Runs.back (fun t_ k_ => XS.iload X20.here hx rfl (hb hby at_320) rfl k_) ?_
        show Runs _ _ _ _ T20 (mkF m 322 #[.val (.int p0), .val (.int p1), .val (.int p2), .val (.int p3), .val (.int p4), .val (.int nd0), .val (.int nd1), .val (.int nd2), .val (.int nd3), .val (.int pt0), .val (.int pt1), .val (.int pt2), .val (.int pt3), .val (.int (rankF nd0 nd1 nd2 nd3)), .val (.int (rankF nd1 nd0 nd2 nd3)), .val (.int (rankF nd2 nd0 nd1 nd3)), .val (.int (rankF nd3 nd0 nd1 nd2)), .val (.ref ob5), .val (.int (hiI u10_0)), .val (.int (1 : Int32)), .val (.int (u11_0.toInt32)), .val (.int (hiI u11_0)), .val (.int (u17_0.toInt32)), .unset, .unset] [(.int pt2), (.int pt1), (.int pt0), (.int (rankF nd3 nd0 nd1 nd2)), (.int (rankF nd2 nd0 nd1 nd3)), (.int (rankF nd1 nd0 nd2 nd3)), (.int (rankF nd0 nd1 nd2 nd3)), (.int (2 : Int32)), (.int (u17_0.toInt32))])
        refine Runs.back (fun t_ k_ => XS.iload X20.here hx rfl (hb hby at_322) rfl k_) ?_
        show Runs _ _ _ _ T20 (mkF m 324 #[.val (.int p0), .val (.int p1), .val (.int p2), .val (.int p3), .val (.int p4), .val (.int nd0), .val (.int nd1), .val (.int nd2), .val (.int nd3), .val (.int pt0), .val (.int pt1), .val (.int pt2), .val (.int pt3), .val (.int (rankF nd0 nd1 nd2 nd3)), .val (.int (rankF nd1 nd0 nd2 nd3)), .val (.int (rankF nd2 nd0 nd1 nd3)), .val (.int (rankF nd3 nd0 nd1 nd2)), .val (.ref ob5), .val (.int (hiI u10_0)), .val (.int (1 : Int32)), .val (.int (u11_0.toInt32)), .val (.int (hiI u11_0)), .val (.int (u17_0.toInt32)), .unset, .unset] [(.int pt3), (.int pt2), (.int pt1), (.int pt0), (.int (rankF nd3 nd0 nd1 nd2)), (.int (rankF nd2 nd0 nd1 nd3)), (.int (rankF nd1 nd0 nd2 nd3)), (.int (rankF nd0 nd1 nd2 nd3)), (.int (2 : Int32)), (.int (u17_0.toInt32))])
        obtain ⟨_, _, ⟨T21, L21, k21, n21⟩, -, X21, ⟨Lc21, hQ21, l21, y21, z21⟩, st21⟩ := Jvm.LawKit.callS X20 hx (y := (⟨"com/example/tradewheel/tradewheel/PartQueueRemovePinLaw", "pick", "(IIIIIIIII)I"⟩ : MethodName)) hown (mvT hZ (hw _ (List.mem_of_getElem? (i := 29) rfl))) (mvT hZ (hw _ (List.mem_of_getElem? (i := 30) rfl))) (mvT hZ (hw _ (List.mem_of_getElem? (i := 3) rfl))) (mvT hZ (hw _ (List.mem_of_getElem? (i := 31) rfl))) (by decide) (backOf (W := 1) (rm6 l Z a0 hw [] (2 : Int32) (rankF nd0 nd1 nd2 nd3) (rankF nd1 nd0 nd2 nd3) (rankF nd2 nd0 nd1 nd3) (rankF nd3 nd0 nd1 nd2) pt0 pt1 pt2 pt3 T17.heap n0 (Z17)) hZ (hw _ (List.mem_of_getElem? (i := 31) rfl)) (hw _ (List.mem_of_getElem? (i := 3) rfl)) (by decide) (by decide)) (g := (mkF m 324 #[.val (.int p0), .val (.int p1), .val (.int p2), .val (.int p3), .val (.int p4), .val (.int nd0), .val (.int nd1), .val (.int nd2), .val (.int nd3), .val (.int pt0), .val (.int pt1), .val (.int pt2), .val (.int pt3), .val (.int (rankF nd0 nd1 nd2 nd3)), .val (.int (rankF nd1 nd0 nd2 nd3)), .val (.int (rankF nd2 nd0 nd1 nd3)), .val (.int (rankF nd3 nd0 nd1 nd2)), .val (.ref ob5), .val (.int (hiI u10_0)), .val (.int (1 : Int32)), .val (.int (u11_0.toInt32)), .val (.int (hiI u11_0)), .val (.int (u17_0.toInt32)), .unset, .unset] [(.int pt3), (.int pt2), (.int pt1), (.int pt0), (.int (rankF nd3 nd0 nd1 nd2)), (.int (rankF nd2 nd0 nd1 nd3)), (.int (rankF nd1 nd0 nd2 nd3)), (.int (rankF nd0 nd1 nd2 nd3)), (.int (2 : Int32)), (.int (u17_0.toInt32))])) rfl (by rw [hml]; rfl) (argsL := [(.int (2 : Int32)), (.int (rankF nd0 nd1 nd2 nd3)), (.int (rankF nd1 nd0 nd2 nd3)), (.int (rankF nd2 nd0 nd1 nd3)), (.int (rankF nd3 nd0 nd1 nd2)), (.int pt0), (.int pt1), (.int pt2), (.int pt3)]) (rest := [(.int (u17_0.toInt32))]) (lenOf pd0_4 rfl) rfl (by show 2 * 0 + _ ≤ _; exact Nat.le_of_eq rfl) (hb hby at_324) (fun _ _ => ⟨rfl, eq20, (by decide : 2 + 0 ≤ _), (by decide : 6 + 0 ≤ _)⟩)
        dsimp only [Pt.U, Pt.locs, Pt.cells, Pt.slots] at X21 l21 y21 z21 st21 hQ21
        obtain rfl : k21 = 2 := y21
        obtain rfl : n21 = 6 := z21
        obtain ⟨rfl, N21q, eq21⟩ := hQ21
        have N21 : Fr n0 L21 := by rw [l21]; exact Fr.app N20 N21q
        clear l21
        refine Runs.back st21 ?_
        show Runs _ _ _ _ T21 (mkF m 327 #[.val (.int p0), .val (.int p1), .val (.int p2), .val (.int p3), .val (.int p4), .val (.int nd0), .val (.int nd1), .val (.int nd2), .val (.int nd3), .val (.int pt0), .val (.int pt1), .val (.int pt2), .val (.int pt3), .val (.int (rankF nd0 nd1 nd2 nd3)), .val (.int (rankF nd1 nd0 nd2 nd3)), .val (.int (rankF nd2 nd0 nd1 nd3)), .val (.int (rankF nd3 nd0 nd1 nd2)), .val (.ref ob5), .val (.int (hiI u10_0)), .val (.int (1 : Int32)), .val (.int (u11_0.toInt32)), .val (.int (hiI u11_0)), .val (.int (u17_0.toInt32)), .unset, .unset] [(.int (pickF (2 : Int32) (rankF nd0 nd1 nd2 nd3) (rankF nd1 nd0 nd2 nd3) (rankF nd2 nd0 nd1 nd3) (rankF nd3 nd0 nd1 nd2) pt0 pt1 pt2 pt3)), (.int (u17_0.toInt32))])
        by_cases c327_22 : (u17_0.toInt32) = (pickF (2 : Int32) (rankF nd0 nd1 nd2 nd3) (rankF nd1 nd0 nd2 nd3) (rankF nd2 nd0 nd1 nd3) (rankF nd3 nd0 nd1 nd2) pt0 pt1 pt2 pt3)
        · refine Runs.back (fun t_ k_ => XS.icmpNo X21.here hx rfl (hb hby at_327) rfl (teq c327_22).2 k_) ?_
          show Runs _ _ _ _ T21 (mkF m 330 #[.val (.int p0), .val (.int p1), .val (.int p2), .val (.int p3), .val (.int p4), .val (.int nd0), .val (.int nd1), .val (.int nd2), .val (.int nd3), .val (.int pt0), .val (.int pt1), .val (.int pt2), .val (.int pt3), .val (.int (rankF nd0 nd1 nd2 nd3)), .val (.int (rankF nd1 nd0 nd2 nd3)), .val (.int (rankF nd2 nd0 nd1 nd3)), .val (.int (rankF nd3 nd0 nd1 nd2)), .val (.ref ob5), .val (.int (hiI u10_0)), .val (.int (1 : Int32)), .val (.int (u11_0.toInt32)), .val (.int (hiI u11_0)), .val (.int (u17_0.toInt32)), .unset, .unset] [])
          refine Runs.back (fun t_ k_ => XS.iconst X21.here hx rfl (hb hby at_330) k_) ?_
          show Runs _ _ _ _ T21 (mkF m 331 #[.val (.int p0), .val (.int p1), .val (.int p2), .val (.int p3), .val (.int p4), .val (.int nd0), .val (.int nd1), .val (.int nd2), .val (.int nd3), .val (.int pt0), .val (.int pt1), .val (.int pt2), .val (.int pt3), .val (.int (rankF nd0 nd1 nd2 nd3)), .val (.int (rankF nd1 nd0 nd2 nd3)), .val (.int (rankF nd2 nd0 nd1 nd3)), .val (.int (rankF nd3 nd0 nd1 nd2)), .val (.ref ob5), .val (.int (hiI u10_0)), .val (.int (1 : Int32)), .val (.int (u11_0.toInt32)), .val (.int (hiI u11_0)), .val (.int (u17_0.toInt32)), .unset, .unset] [(.int (1 : Int32))])
          refine Runs.back (fun t_ k_ => XS.goto X21.here hx rfl (pc0 := 331) (pc' := 335) rfl (hb hby at_331) (by decide) (by decide) k_) ?_
          show Runs _ _ _ _ T21 (mkF m 335 #[.val (.int p0), .val (.int p1), .val (.int p2), .val (.int p3), .val (.int p4), .val (.int nd0), .val (.int nd1), .val (.int nd2), .val (.int nd3), .val (.int pt0), .val (.int pt1), .val (.int pt2), .val (.int pt3), .val (.int (rankF nd0 nd1 nd2 nd3)), .val (.int (rankF nd1 nd0 nd2 nd3)), .val (.int (rankF nd2 nd0 nd1 nd3)), .val (.int (rankF nd3 nd0 nd1 nd2)), .val (.ref ob5), .val (.int (hiI u10_0)), .val (.int (1 : Int32)), .val (.int (u11_0.toInt32)), .val (.int (hiI u11_0)), .val (.int (u17_0.toInt32)), .unset, .unset] [(.int (1 : Int32))])
          refine Runs.back (fun t_ k_ => XS.istore X21.here hx rfl (hb hby at_335) rfl (l' := #[.val (.int p0), .val (.int p1), .val (.int p2), .val (.int p3), .val (.int p4), .val (.int nd0), .val (.int nd1), .val (.int nd2), .val (.int nd3), .val (.int pt0), .val (.int pt1), .val (.int pt2), .val (.int pt3), .val (.int (rankF nd0 nd1 nd2 nd3)), .val (.int (rankF nd1 nd0 nd2 nd3)), .val (.int (rankF nd2 nd0 nd1 nd3)), .val (.int (rankF nd3 nd0 nd1 nd2)), .val (.ref ob5), .val (.int (hiI u10_0)), .val (.int (1 : Int32)), .val (.int (u11_0.toInt32)), .val (.int (hiI u11_0)), .val (.int (u17_0.toInt32)), .unset, .unset]) rfl k_) ?_
          show Runs _ _ _ _ T21 (mkF m 337 #[.val (.int p0), .val (.int p1), .val (.int p2), .val (.int p3), .val (.int p4), .val (.int nd0), .val (.int nd1), .val (.int nd2), .val (.int nd3), .val (.int pt0), .val (.int pt1), .val (.int pt2), .val (.int pt3), .val (.int (rankF nd0 nd1 nd2 nd3)), .val (.int (rankF nd1 nd0 nd2 nd3)), .val (.int (rankF nd2 nd0 nd1 nd3)), .val (.int (rankF nd3 nd0 nd1 nd2)), .val (.ref ob5), .val (.int (hiI u10_0)), .val (.int (1 : Int32)), .val (.int (u11_0.toInt32)), .val (.int (hiI u11_0)), .val (.int (u17_0.toInt32)), .unset, .unset] [])
          refine Runs.back (fun t_ k_ => XS.aload X21.here hx rfl (hb hby at_337) rfl rfl k_) ?_
          show Runs _ _ _ _ T21 (mkF m 339 #[.val (.int p0), .val (.int p1), .val (.int p2), .val (.int p3), .val (.int p4), .val (.int nd0), .val (.int nd1), .val (.int nd2), .val (.int nd3), .val (.int pt0), .val (.int pt1), .val (.int pt2), .val (.int pt3), .val (.int (rankF nd0 nd1 nd2 nd3)), .val (.int (rankF nd1 nd0 nd2 nd3)), .val (.int (rankF nd2 nd0 nd1 nd3)), .val (.int (rankF nd3 nd0 nd1 nd2)), .val (.ref ob5), .val (.int (hiI u10_0)), .val (.int (1 : Int32)), .val (.int (u11_0.toInt32)), .val (.int (hiI u11_0)), .val (.int (u17_0.toInt32)), .unset, .unset] [(.ref ob5)])
          obtain ⟨cq23, kq23, q23a, q23b, q23c⟩ := isOf hZ eq21 iE17
          obtain ⟨_, _, ⟨T23, L23, k23, n23⟩, -, X23, ⟨Lc23, hQ23, l23, y23, z23⟩, st23⟩ := X21.virtualBack hx (y := (⟨"com/example/tradewheel/tradewheel/PartQueue", "remove", "()I"⟩ : MethodName)) (z := (⟨"com/example/tradewheel/tradewheel/PartQueue", "remove", "()I"⟩ : MethodName)) hown (mvT hZ (hw _ (List.mem_of_getElem? (i := 24) rfl))) (mvT hZ (hw _ (List.mem_of_getElem? (i := 25) rfl))) (notFace_of_selects (args := #[]) (mvT hZ (hw _ (List.mem_of_getElem? (i := 27) rfl)))) (mvT hZ (hw _ (List.mem_of_getElem? (i := 27) rfl))) (mvT hZ (hw _ (List.mem_of_getElem? (i := 26) rfl))) (by decide) (backOf (W := 0) (rm5s2 l Z a0 hw [] ob5  b6 _ u17_0 u17_1 T17.heap n0 (Z17) iE17 iF17 iG17 iA17 ne_ob5_b6 g_ob5 g_b6 hu17_0 hu17_1) hZ (hw _ (List.mem_of_getElem? (i := 28) rfl)) (hw _ (List.mem_of_getElem? (i := 7) rfl)) (by decide) (by decide)) q23a q23c (g := (mkF m 339 #[.val (.int p0), .val (.int p1), .val (.int p2), .val (.int p3), .val (.int p4), .val (.int nd0), .val (.int nd1), .val (.int nd2), .val (.int nd3), .val (.int pt0), .val (.int pt1), .val (.int pt2), .val (.int pt3), .val (.int (rankF nd0 nd1 nd2 nd3)), .val (.int (rankF nd1 nd0 nd2 nd3)), .val (.int (rankF nd2 nd0 nd1 nd3)), .val (.int (rankF nd3 nd0 nd1 nd2)), .val (.ref ob5), .val (.int (hiI u10_0)), .val (.int (1 : Int32)), .val (.int (u11_0.toInt32)), .val (.int (hiI u11_0)), .val (.int (u17_0.toInt32)), .unset, .unset] [(.ref ob5)])) rfl (by rw [hml]; rfl) (Steps.refl _) (argsL := []) (rest := []) (lenOf pd0_3 rfl) rfl (by show 2 * 0 + _ ≤ _; exact Nat.le_of_eq rfl) (hb hby at_339) (fun _ _ => ⟨rfl, eq21, (by decide : 2 + 0 ≤ _), (by decide : 6 + 0 ≤ _)⟩)
          dsimp only [Pt.U, Pt.locs, Pt.cells, Pt.slots] at X23 l23 y23 z23 st23 hQ23
          obtain rfl : k23 = 2 := y23
          obtain rfl : n23 = 6 := z23
          obtain ⟨rfl, N23q, K23, iE23, iF23, iG23, fq23, u23_0, iA23, hu23_0, rel23⟩ := hQ23
          have N23 : Fr n0 L23 := by rw [l23]; exact Fr.app N21 N23q
          clear l23
          have f23_Exa_0 : Exa Z T23.heap ob5 "com/example/tradewheel/tradewheel/PartQueue" := iE17.keep K23
          have Z23 : n0 ≤ T23.heap.size := Nat.le_trans (Z17) K23.1
          refine Runs.trans st23 ?_
          show Runs _ _ _ _ T23 (mkF m 342 #[.val (.int p0), .val (.int p1), .val (.int p2), .val (.int p3), .val (.int p4), .val (.int nd0), .val (.int nd1), .val (.int nd2), .val (.int nd3), .val (.int pt0), .val (.int pt1), .val (.int pt2), .val (.int pt3), .val (.int (rankF nd0 nd1 nd2 nd3)), .val (.int (rankF nd1 nd0 nd2 nd3)), .val (.int (rankF nd2 nd0 nd1 nd3)), .val (.int (rankF nd3 nd0 nd1 nd2)), .val (.ref ob5), .val (.int (hiI u10_0)), .val (.int (1 : Int32)), .val (.int (u11_0.toInt32)), .val (.int (hiI u11_0)), .val (.int (u17_0.toInt32)), .unset, .unset] [(.int (hiI u17_0))])
          refine Runs.back (fun t_ k_ => XS.istore X23.here hx rfl (hb hby at_342) rfl (l' := #[.val (.int p0), .val (.int p1), .val (.int p2), .val (.int p3), .val (.int p4), .val (.int nd0), .val (.int nd1), .val (.int nd2), .val (.int nd3), .val (.int pt0), .val (.int pt1), .val (.int pt2), .val (.int pt3), .val (.int (rankF nd0 nd1 nd2 nd3)), .val (.int (rankF nd1 nd0 nd2 nd3)), .val (.int (rankF nd2 nd0 nd1 nd3)), .val (.int (rankF nd3 nd0 nd1 nd2)), .val (.ref ob5), .val (.int (hiI u10_0)), .val (.int (1 : Int32)), .val (.int (u11_0.toInt32)), .val (.int (hiI u11_0)), .val (.int (u17_0.toInt32)), .val (.int (hiI u17_0)), .unset]) rfl k_) ?_
          show Runs _ _ _ _ T23 (mkF m 344 #[.val (.int p0), .val (.int p1), .val (.int p2), .val (.int p3), .val (.int p4), .val (.int nd0), .val (.int nd1), .val (.int nd2), .val (.int nd3), .val (.int pt0), .val (.int pt1), .val (.int pt2), .val (.int pt3), .val (.int (rankF nd0 nd1 nd2 nd3)), .val (.int (rankF nd1 nd0 nd2 nd3)), .val (.int (rankF nd2 nd0 nd1 nd3)), .val (.int (rankF nd3 nd0 nd1 nd2)), .val (.ref ob5), .val (.int (hiI u10_0)), .val (.int (1 : Int32)), .val (.int (u11_0.toInt32)), .val (.int (hiI u11_0)), .val (.int (u17_0.toInt32)), .val (.int (hiI u17_0)), .unset] [])
          refine Runs.back (fun t_ k_ => XS.iload X23.here hx rfl (hb hby at_344) rfl k_) ?_
          show Runs _ _ _ _ T23 (mkF m 346 #[.val (.int p0), .val (.int p1), .val (.int p2), .val (.int p3), .val (.int p4), .val (.int nd0), .val (.int nd1), .val (.int nd2), .val (.int nd3), .val (.int pt0), .val (.int pt1), .val (.int pt2), .val (.int pt3), .val (.int (rankF nd0 nd1 nd2 nd3)), .val (.int (rankF nd1 nd0 nd2 nd3)), .val (.int (rankF nd2 nd0 nd1 nd3)), .val (.int (rankF nd3 nd0 nd1 nd2)), .val (.ref ob5), .val (.int (hiI u10_0)), .val (.int (1 : Int32)), .val (.int (u11_0.toInt32)), .val (.int (hiI u11_0)), .val (.int (u17_0.toInt32)), .val (.int (hiI u17_0)), .unset] [(.int (1 : Int32))])
          refine Runs.back (fun t_ k_ => XS.ifNo X23.here hx rfl (hb hby at_346) rfl ((if0 _ _).trans (feq (show ¬ ((1 : Int32) = (0 : Int32)) from (by decide))).1) k_) ?_
          show Runs _ _ _ _ T23 (mkF m 349 #[.val (.int p0), .val (.int p1), .val (.int p2), .val (.int p3), .val (.int p4), .val (.int nd0), .val (.int nd1), .val (.int nd2), .val (.int nd3), .val (.int pt0), .val (.int pt1), .val (.int pt2), .val (.int pt3), .val (.int (rankF nd0 nd1 nd2 nd3)), .val (.int (rankF nd1 nd0 nd2 nd3)), .val (.int (rankF nd2 nd0 nd1 nd3)), .val (.int (rankF nd3 nd0 nd1 nd2)), .val (.ref ob5), .val (.int (hiI u10_0)), .val (.int (1 : Int32)), .val (.int (u11_0.toInt32)), .val (.int (hiI u11_0)), .val (.int (u17_0.toInt32)), .val (.int (hiI u17_0)), .unset] [])
          refine Runs.back (fun t_ k_ => XS.iload X23.here hx rfl (hb hby at_349) rfl k_) ?_
          show Runs _ _ _ _ T23 (mkF m 351 #[.val (.int p0), .val (.int p1), .val (.int p2), .val (.int p3), .val (.int p4), .val (.int nd0), .val (.int nd1), .val (.int nd2), .val (.int nd3), .val (.int pt0), .val (.int pt1), .val (.int pt2), .val (.int pt3), .val (.int (rankF nd0 nd1 nd2 nd3)), .val (.int (rankF nd1 nd0 nd2 nd3)), .val (.int (rankF nd2 nd0 nd1 nd3)), .val (.int (rankF nd3 nd0 nd1 nd2)), .val (.ref ob5), .val (.int (hiI u10_0)), .val (.int (1 : Int32)), .val (.int (u11_0.toInt32)), .val (.int (hiI u11_0)), .val (.int (u17_0.toInt32)), .val (.int (hiI u17_0)), .unset] [(.int (hiI u17_0))])
          refine Runs.back (fun t_ k_ => XS.iconst X23.here hx rfl (hb hby at_351) k_) ?_
          show Runs _ _ _ _ T23 (mkF m 352 #[.val (.int p0), .val (.int p1), .val (.int p2), .val (.int p3), .val (.int p4), .val (.int nd0), .val (.int nd1), .val (.int nd2), .val (.int nd3), .val (.int pt0), .val (.int pt1), .val (.int pt2), .val (.int pt3), .val (.int (rankF nd0 nd1 nd2 nd3)), .val (.int (rankF nd1 nd0 nd2 nd3)), .val (.int (rankF nd2 nd0 nd1 nd3)), .val (.int (rankF nd3 nd0 nd1 nd2)), .val (.ref ob5), .val (.int (hiI u10_0)), .val (.int (1 : Int32)), .val (.int (u11_0.toInt32)), .val (.int (hiI u11_0)), .val (.int (u17_0.toInt32)), .val (.int (hiI u17_0)), .unset] [(.int (2 : Int32)), (.int (hiI u17_0))])
          refine Runs.back (fun t_ k_ => XS.iload X23.here hx rfl (hb hby at_352) rfl k_) ?_
          show Runs _ _ _ _ T23 (mkF m 354 #[.val (.int p0), .val (.int p1), .val (.int p2), .val (.int p3), .val (.int p4), .val (.int nd0), .val (.int nd1), .val (.int nd2), .val (.int nd3), .val (.int pt0), .val (.int pt1), .val (.int pt2), .val (.int pt3), .val (.int (rankF nd0 nd1 nd2 nd3)), .val (.int (rankF nd1 nd0 nd2 nd3)), .val (.int (rankF nd2 nd0 nd1 nd3)), .val (.int (rankF nd3 nd0 nd1 nd2)), .val (.ref ob5), .val (.int (hiI u10_0)), .val (.int (1 : Int32)), .val (.int (u11_0.toInt32)), .val (.int (hiI u11_0)), .val (.int (u17_0.toInt32)), .val (.int (hiI u17_0)), .unset] [(.int (rankF nd0 nd1 nd2 nd3)), (.int (2 : Int32)), (.int (hiI u17_0))])
          refine Runs.back (fun t_ k_ => XS.iload X23.here hx rfl (hb hby at_354) rfl k_) ?_
          show Runs _ _ _ _ T23 (mkF m 356 #[.val (.int p0), .val (.int p1), .val (.int p2), .val (.int p3), .val (.int p4), .val (.int nd0), .val (.int nd1), .val (.int nd2), .val (.int nd3), .val (.int pt0), .val (.int pt1), .val (.int pt2), .val (.int pt3), .val (.int (rankF nd0 nd1 nd2 nd3)), .val (.int (rankF nd1 nd0 nd2 nd3)), .val (.int (rankF nd2 nd0 nd1 nd3)), .val (.int (rankF nd3 nd0 nd1 nd2)), .val (.ref ob5), .val (.int (hiI u10_0)), .val (.int (1 : Int32)), .val (.int (u11_0.toInt32)), .val (.int (hiI u11_0)), .val (.int (u17_0.toInt32)), .val (.int (hiI u17_0)), .unset] [(.int (rankF nd1 nd0 nd2 nd3)), (.int (rankF nd0 nd1 nd2 nd3)), (.int (2 : Int32)), (.int (hiI u17_0))])
          refine Runs.back (fun t_ k_ => XS.iload X23.here hx rfl (hb hby at_356) rfl k_) ?_
          show Runs _ _ _ _ T23 (mkF m 358 #[.val (.int p0), .val (.int p1), .val (.int p2), .val (.int p3), .val (.int p4), .val (.int nd0), .val (.int nd1), .val (.int nd2), .val (.int nd3), .val (.int pt0), .val (.int pt1), .val (.int pt2), .val (.int pt3), .val (.int (rankF nd0 nd1 nd2 nd3)), .val (.int (rankF nd1 nd0 nd2 nd3)), .val (.int (rankF nd2 nd0 nd1 nd3)), .val (.int (rankF nd3 nd0 nd1 nd2)), .val (.ref ob5), .val (.int (hiI u10_0)), .val (.int (1 : Int32)), .val (.int (u11_0.toInt32)), .val (.int (hiI u11_0)), .val (.int (u17_0.toInt32)), .val (.int (hiI u17_0)), .unset] [(.int (rankF nd2 nd0 nd1 nd3)), (.int (rankF nd1 nd0 nd2 nd3)), (.int (rankF nd0 nd1 nd2 nd3)), (.int (2 : Int32)), (.int (hiI u17_0))])
          refine Runs.back (fun t_ k_ => XS.iload X23.here hx rfl (hb hby at_358) rfl k_) ?_
          show Runs _ _ _ _ T23 (mkF m 360 #[.val (.int p0), .val (.int p1), .val (.int p2), .val (.int p3), .val (.int p4), .val (.int nd0), .val (.int nd1), .val (.int nd2), .val (.int nd3), .val (.int pt0), .val (.int pt1), .val (.int pt2), .val (.int pt3), .val (.int (rankF nd0 nd1 nd2 nd3)), .val (.int (rankF nd1 nd0 nd2 nd3)), .val (.int (rankF nd2 nd0 nd1 nd3)), .val (.int (rankF nd3 nd0 nd1 nd2)), .val (.ref ob5), .val (.int (hiI u10_0)), .val (.int (1 : Int32)), .val (.int (u11_0.toInt32)), .val (.int (hiI u11_0)), .val (.int (u17_0.toInt32)), .val (.int (hiI u17_0)), .unset] [(.int (rankF nd3 nd0 nd1 nd2)), (.int (rankF nd2 nd0 nd1 nd3)), (.int (rankF nd1 nd0 nd2 nd3)), (.int (rankF nd0 nd1 nd2 nd3)), (.int (2 : Int32)), (.int (hiI u17_0))])
          refine Runs.back (fun t_ k_ => XS.iload X23.here hx rfl (hb hby at_360) rfl k_) ?_
          show Runs _ _ _ _ T23 (mkF m 362 #[.val (.int p0), .val (.int p1), .val (.int p2), .val (.int p3), .val (.int p4), .val (.int nd0), .val (.int nd1), .val (.int nd2), .val (.int nd3), .val (.int pt0), .val (.int pt1), .val (.int pt2), .val (.int pt3), .val (.int (rankF nd0 nd1 nd2 nd3)), .val (.int (rankF nd1 nd0 nd2 nd3)), .val (.int (rankF nd2 nd0 nd1 nd3)), .val (.int (rankF nd3 nd0 nd1 nd2)), .val (.ref ob5), .val (.int (hiI u10_0)), .val (.int (1 : Int32)), .val (.int (u11_0.toInt32)), .val (.int (hiI u11_0)), .val (.int (u17_0.toInt32)), .val (.int (hiI u17_0)), .unset] [(.int nd0), (.int (rankF nd3 nd0 nd1 nd2)), (.int (rankF nd2 nd0 nd1 nd3)), (.int (rankF nd1 nd0 nd2 nd3)), (.int (rankF nd0 nd1 nd2 nd3)), (.int (2 : Int32)), (.int (hiI u17_0))])
          refine Runs.back (fun t_ k_ => XS.iload X23.here hx rfl (hb hby at_362) rfl k_) ?_
          show Runs _ _ _ _ T23 (mkF m 364 #[.val (.int p0), .val (.int p1), .val (.int p2), .val (.int p3), .val (.int p4), .val (.int nd0), .val (.int nd1), .val (.int nd2), .val (.int nd3), .val (.int pt0), .val (.int pt1), .val (.int pt2), .val (.int pt3), .val (.int (rankF nd0 nd1 nd2 nd3)), .val (.int (rankF nd1 nd0 nd2 nd3)), .val (.int (rankF nd2 nd0 nd1 nd3)), .val (.int (rankF nd3 nd0 nd1 nd2)), .val (.ref ob5), .val (.int (hiI u10_0)), .val (.int (1 : Int32)), .val (.int (u11_0.toInt32)), .val (.int (hiI u11_0)), .val (.int (u17_0.toInt32)), .val (.int (hiI u17_0)), .unset] [(.int nd1), (.int nd0), (.int (rankF nd3 nd0 nd1 nd2)), (.int (rankF nd2 nd0 nd1 nd3)), (.int (rankF nd1 nd0 nd2 nd3)), (.int (rankF nd0 nd1 nd2 nd3)), (.int (2 : Int32)), (.int (hiI u17_0))])
          refine Runs.back (fun t_ k_ => XS.iload X23.here hx rfl (hb hby at_364) rfl k_) ?_
          show Runs _ _ _ _ T23 (mkF m 366 #[.val (.int p0), .val (.int p1), .val (.int p2), .val (.int p3), .val (.int p4), .val (.int nd0), .val (.int nd1), .val (.int nd2), .val (.int nd3), .val (.int pt0), .val (.int pt1), .val (.int pt2), .val (.int pt3), .val (.int (rankF nd0 nd1 nd2 nd3)), .val (.int (rankF nd1 nd0 nd2 nd3)), .val (.int (rankF nd2 nd0 nd1 nd3)), .val (.int (rankF nd3 nd0 nd1 nd2)), .val (.ref ob5), .val (.int (hiI u10_0)), .val (.int (1 : Int32)), .val (.int (u11_0.toInt32)), .val (.int (hiI u11_0)), .val (.int (u17_0.toInt32)), .val (.int (hiI u17_0)), .unset] [(.int nd2), (.int nd1), (.int nd0), (.int (rankF nd3 nd0 nd1 nd2)), (.int (rankF nd2 nd0 nd1 nd3)), (.int (rankF nd1 nd0 nd2 nd3)), (.int (rankF nd0 nd1 nd2 nd3)), (.int (2 : Int32)), (.int (hiI u17_0))])
          refine Runs.back (fun t_ k_ => XS.iload X23.here hx rfl (hb hby at_366) rfl k_) ?_
          show Runs _ _ _ _ T23 (mkF m 368 #[.val (.int p0), .val (.int p1), .val (.int p2), .val (.int p3), .val (.int p4), .val (.int nd0), .val (.int nd1), .val (.int nd2), .val (.int nd3), .val (.int pt0), .val (.int pt1), .val (.int pt2), .val (.int pt3), .val (.int (rankF nd0 nd1 nd2 nd3)), .val (.int (rankF nd1 nd0 nd2 nd3)), .val (.int (rankF nd2 nd0 nd1 nd3)), .val (.int (rankF nd3 nd0 nd1 nd2)), .val (.ref ob5), .val (.int (hiI u10_0)), .val (.int (1 : Int32)), .val (.int (u11_0.toInt32)), .val (.int (hiI u11_0)), .val (.int (u17_0.toInt32)), .val (.int (hiI u17_0)), .unset] [(.int nd3), (.int nd2), (.int nd1), (.int nd0), (.int (rankF nd3 nd0 nd1 nd2)), (.int (rankF nd2 nd0 nd1 nd3)), (.int (rankF nd1 nd0 nd2 nd3)), (.int (rankF nd0 nd1 nd2 nd3)), (.int (2 : Int32)), (.int (hiI u17_0))])
          obtain ⟨_, _, ⟨T24, L24, k24, n24⟩, -, X24, ⟨Lc24, hQ24, l24, y24, z24⟩, st24⟩ := Jvm.LawKit.callS X23 hx (y := (⟨"com/example/tradewheel/tradewheel/PartQueueRemovePinLaw", "pick", "(IIIIIIIII)I"⟩ : MethodName)) hown (mvT hZ (hw _ (List.mem_of_getElem? (i := 29) rfl))) (mvT hZ (hw _ (List.mem_of_getElem? (i := 30) rfl))) (mvT hZ (hw _ (List.mem_of_getElem? (i := 3) rfl))) (mvT hZ (hw _ (List.mem_of_getElem? (i := 31) rfl))) (by decide) (backOf (W := 1) (rm6 l Z a0 hw [] (2 : Int32) (rankF nd0 nd1 nd2 nd3) (rankF nd1 nd0 nd2 nd3) (rankF nd2 nd0 nd1 nd3) (rankF nd3 nd0 nd1 nd2) nd0 nd1 nd2 nd3 T23.heap n0 (Z23)) hZ (hw _ (List.mem_of_getElem? (i := 31) rfl)) (hw _ (List.mem_of_getElem? (i := 3) rfl)) (by decide) (by decide)) (g := (mkF m 368 #[.val (.int p0), .val (.int p1), .val (.int p2), .val (.int p3), .val (.int p4), .val (.int nd0), .val (.int nd1), .val (.int nd2), .val (.int nd3), .val (.int pt0), .val (.int pt1), .val (.int pt2), .val (.int pt3), .val (.int (rankF nd0 nd1 nd2 nd3)), .val (.int (rankF nd1 nd0 nd2 nd3)), .val (.int (rankF nd2 nd0 nd1 nd3)), .val (.int (rankF nd3 nd0 nd1 nd2)), .val (.ref ob5), .val (.int (hiI u10_0)), .val (.int (1 : Int32)), .val (.int (u11_0.toInt32)), .val (.int (hiI u11_0)), .val (.int (u17_0.toInt32)), .val (.int (hiI u17_0)), .unset] [(.int nd3), (.int nd2), (.int nd1), (.int nd0), (.int (rankF nd3 nd0 nd1 nd2)), (.int (rankF nd2 nd0 nd1 nd3)), (.int (rankF nd1 nd0 nd2 nd3)), (.int (rankF nd0 nd1 nd2 nd3)), (.int (2 : Int32)), (.int (hiI u17_0))])) rfl (by rw [hml]; rfl) (argsL := [(.int (2 : Int32)), (.int (rankF nd0 nd1 nd2 nd3)), (.int (rankF nd1 nd0 nd2 nd3)), (.int (rankF nd2 nd0 nd1 nd3)), (.int (rankF nd3 nd0 nd1 nd2)), (.int nd0), (.int nd1), (.int nd2), (.int nd3)]) (rest := [(.int (hiI u17_0))]) (lenOf pd0_4 rfl) rfl (by show 2 * 0 + _ ≤ _; exact Nat.le_of_eq rfl) (hb hby at_368) (fun _ _ => ⟨rfl, rfl, (by decide : 2 + 0 ≤ _), (by decide : 6 + 0 ≤ _)⟩)
          dsimp only [Pt.U, Pt.locs, Pt.cells, Pt.slots] at X24 l24 y24 z24 st24 hQ24
          obtain rfl : k24 = 2 := y24
          obtain rfl : n24 = 6 := z24
          obtain ⟨rfl, N24q, eq24⟩ := hQ24
          have N24 : Fr n0 L24 := by rw [l24]; exact Fr.app N23 N24q
          clear l24
          refine Runs.back st24 ?_
          show Runs _ _ _ _ T24 (mkF m 371 #[.val (.int p0), .val (.int p1), .val (.int p2), .val (.int p3), .val (.int p4), .val (.int nd0), .val (.int nd1), .val (.int nd2), .val (.int nd3), .val (.int pt0), .val (.int pt1), .val (.int pt2), .val (.int pt3), .val (.int (rankF nd0 nd1 nd2 nd3)), .val (.int (rankF nd1 nd0 nd2 nd3)), .val (.int (rankF nd2 nd0 nd1 nd3)), .val (.int (rankF nd3 nd0 nd1 nd2)), .val (.ref ob5), .val (.int (hiI u10_0)), .val (.int (1 : Int32)), .val (.int (u11_0.toInt32)), .val (.int (hiI u11_0)), .val (.int (u17_0.toInt32)), .val (.int (hiI u17_0)), .unset] [(.int (pickF (2 : Int32) (rankF nd0 nd1 nd2 nd3) (rankF nd1 nd0 nd2 nd3) (rankF nd2 nd0 nd1 nd3) (rankF nd3 nd0 nd1 nd2) nd0 nd1 nd2 nd3)), (.int (hiI u17_0))])
          by_cases c371_25 : (hiI u17_0) = (pickF (2 : Int32) (rankF nd0 nd1 nd2 nd3) (rankF nd1 nd0 nd2 nd3) (rankF nd2 nd0 nd1 nd3) (rankF nd3 nd0 nd1 nd2) nd0 nd1 nd2 nd3)
          · refine Runs.back (fun t_ k_ => XS.icmpNo X24.here hx rfl (hb hby at_371) rfl (teq c371_25).2 k_) ?_
            show Runs _ _ _ _ T24 (mkF m 374 #[.val (.int p0), .val (.int p1), .val (.int p2), .val (.int p3), .val (.int p4), .val (.int nd0), .val (.int nd1), .val (.int nd2), .val (.int nd3), .val (.int pt0), .val (.int pt1), .val (.int pt2), .val (.int pt3), .val (.int (rankF nd0 nd1 nd2 nd3)), .val (.int (rankF nd1 nd0 nd2 nd3)), .val (.int (rankF nd2 nd0 nd1 nd3)), .val (.int (rankF nd3 nd0 nd1 nd2)), .val (.ref ob5), .val (.int (hiI u10_0)), .val (.int (1 : Int32)), .val (.int (u11_0.toInt32)), .val (.int (hiI u11_0)), .val (.int (u17_0.toInt32)), .val (.int (hiI u17_0)), .unset] [])
            refine Runs.back (fun t_ k_ => XS.iconst X24.here hx rfl (hb hby at_374) k_) ?_
            show Runs _ _ _ _ T24 (mkF m 375 #[.val (.int p0), .val (.int p1), .val (.int p2), .val (.int p3), .val (.int p4), .val (.int nd0), .val (.int nd1), .val (.int nd2), .val (.int nd3), .val (.int pt0), .val (.int pt1), .val (.int pt2), .val (.int pt3), .val (.int (rankF nd0 nd1 nd2 nd3)), .val (.int (rankF nd1 nd0 nd2 nd3)), .val (.int (rankF nd2 nd0 nd1 nd3)), .val (.int (rankF nd3 nd0 nd1 nd2)), .val (.ref ob5), .val (.int (hiI u10_0)), .val (.int (1 : Int32)), .val (.int (u11_0.toInt32)), .val (.int (hiI u11_0)), .val (.int (u17_0.toInt32)), .val (.int (hiI u17_0)), .unset] [(.int (1 : Int32))])
            refine Runs.back (fun t_ k_ => XS.goto X24.here hx rfl (pc0 := 375) (pc' := 379) rfl (hb hby at_375) (by decide) (by decide) k_) ?_
            show Runs _ _ _ _ T24 (mkF m 379 #[.val (.int p0), .val (.int p1), .val (.int p2), .val (.int p3), .val (.int p4), .val (.int nd0), .val (.int nd1), .val (.int nd2), .val (.int nd3), .val (.int pt0), .val (.int pt1), .val (.int pt2), .val (.int pt3), .val (.int (rankF nd0 nd1 nd2 nd3)), .val (.int (rankF nd1 nd0 nd2 nd3)), .val (.int (rankF nd2 nd0 nd1 nd3)), .val (.int (rankF nd3 nd0 nd1 nd2)), .val (.ref ob5), .val (.int (hiI u10_0)), .val (.int (1 : Int32)), .val (.int (u11_0.toInt32)), .val (.int (hiI u11_0)), .val (.int (u17_0.toInt32)), .val (.int (hiI u17_0)), .unset] [(.int (1 : Int32))])
            refine Runs.back (fun t_ k_ => XS.istore X24.here hx rfl (hb hby at_379) rfl (l' := #[.val (.int p0), .val (.int p1), .val (.int p2), .val (.int p3), .val (.int p4), .val (.int nd0), .val (.int nd1), .val (.int nd2), .val (.int nd3), .val (.int pt0), .val (.int pt1), .val (.int pt2), .val (.int pt3), .val (.int (rankF nd0 nd1 nd2 nd3)), .val (.int (rankF nd1 nd0 nd2 nd3)), .val (.int (rankF nd2 nd0 nd1 nd3)), .val (.int (rankF nd3 nd0 nd1 nd2)), .val (.ref ob5), .val (.int (hiI u10_0)), .val (.int (1 : Int32)), .val (.int (u11_0.toInt32)), .val (.int (hiI u11_0)), .val (.int (u17_0.toInt32)), .val (.int (hiI u17_0)), .unset]) rfl k_) ?_
            show Runs _ _ _ _ T24 (mkF m 381 #[.val (.int p0), .val (.int p1), .val (.int p2), .val (.int p3), .val (.int p4), .val (.int nd0), .val (.int nd1), .val (.int nd2), .val (.int nd3), .val (.int pt0), .val (.int pt1), .val (.int pt2), .val (.int pt3), .val (.int (rankF nd0 nd1 nd2 nd3)), .val (.int (rankF nd1 nd0 nd2 nd3)), .val (.int (rankF nd2 nd0 nd1 nd3)), .val (.int (rankF nd3 nd0 nd1 nd2)), .val (.ref ob5), .val (.int (hiI u10_0)), .val (.int (1 : Int32)), .val (.int (u11_0.toInt32)), .val (.int (hiI u11_0)), .val (.int (u17_0.toInt32)), .val (.int (hiI u17_0)), .unset] [])
            refine Runs.back (fun t_ k_ => XS.aload X24.here hx rfl (hb hby at_381) rfl rfl k_) ?_
            show Runs _ _ _ _ T24 (mkF m 383 #[.val (.int p0), .val (.int p1), .val (.int p2), .val (.int p3), .val (.int p4), .val (.int nd0), .val (.int nd1), .val (.int nd2), .val (.int nd3), .val (.int pt0), .val (.int pt1), .val (.int pt2), .val (.int pt3), .val (.int (rankF nd0 nd1 nd2 nd3)), .val (.int (rankF nd1 nd0 nd2 nd3)), .val (.int (rankF nd2 nd0 nd1 nd3)), .val (.int (rankF nd3 nd0 nd1 nd2)), .val (.ref ob5), .val (.int (hiI u10_0)), .val (.int (1 : Int32)), .val (.int (u11_0.toInt32)), .val (.int (hiI u11_0)), .val (.int (u17_0.toInt32)), .val (.int (hiI u17_0)), .unset] [(.ref ob5)])
            obtain ⟨cq26, kq26, q26a, q26b, q26c⟩ := isOf hZ eq24 iE23
            obtain ⟨_, _, ⟨T26, L26, k26, n26⟩, -, X26, ⟨Lc26, hQ26, l26, y26, z26⟩, st26⟩ := X24.virtualBack hx (y := (⟨"com/example/tradewheel/tradewheel/PartQueue", "remove", "()I"⟩ : MethodName)) (z := (⟨"com/example/tradewheel/tradewheel/PartQueue", "remove", "()I"⟩ : MethodName)) hown (mvT hZ (hw _ (List.mem_of_getElem? (i := 24) rfl))) (mvT hZ (hw _ (List.mem_of_getElem? (i := 25) rfl))) (notFace_of_selects (args := #[]) (mvT hZ (hw _ (List.mem_of_getElem? (i := 27) rfl)))) (mvT hZ (hw _ (List.mem_of_getElem? (i := 27) rfl))) (mvT hZ (hw _ (List.mem_of_getElem? (i := 26) rfl))) (by decide) (backOf (W := 0) (rm5s1 l Z a0 hw [] ob5  b6 _ u23_0 T23.heap n0 (Z23) iE23 iF23 iG23 iA23 ne_ob5_b6 g_ob5 g_b6 hu23_0) hZ (hw _ (List.mem_of_getElem? (i := 28) rfl)) (hw _ (List.mem_of_getElem? (i := 7) rfl)) (by decide) (by decide)) q26a q26c (g := (mkF m 383 #[.val (.int p0), .val (.int p1), .val (.int p2), .val (.int p3), .val (.int p4), .val (.int nd0), .val (.int nd1), .val (.int nd2), .val (.int nd3), .val (.int pt0), .val (.int pt1), .val (.int pt2), .val (.int pt3), .val (.int (rankF nd0 nd1 nd2 nd3)), .val (.int (rankF nd1 nd0 nd2 nd3)), .val (.int (rankF nd2 nd0 nd1 nd3)), .val (.int (rankF nd3 nd0 nd1 nd2)), .val (.ref ob5), .val (.int (hiI u10_0)), .val (.int (1 : Int32)), .val (.int (u11_0.toInt32)), .val (.int (hiI u11_0)), .val (.int (u17_0.toInt32)), .val (.int (hiI u17_0)), .unset] [(.ref ob5)])) rfl (by rw [hml]; rfl) (Steps.refl _) (argsL := []) (rest := []) (lenOf pd0_3 rfl) rfl (by show 2 * 0 + _ ≤ _; exact Nat.le_of_eq rfl) (hb hby at_383) (fun _ _ => ⟨rfl, eq24, (by decide : 2 + 0 ≤ _), (by decide : 6 + 0 ≤ _)⟩)
            dsimp only [Pt.U, Pt.locs, Pt.cells, Pt.slots] at X26 l26 y26 z26 st26 hQ26
            obtain rfl : k26 = 2 := y26
            obtain rfl : n26 = 6 := z26
            obtain ⟨rfl, N26q, K26, iE26, iF26, iG26, fq26, iA26, rel26⟩ := hQ26
            have N26 : Fr n0 L26 := by rw [l26]; exact Fr.app N24 N26q
            clear l26
            have f26_Exa_0 : Exa Z T26.heap ob5 "com/example/tradewheel/tradewheel/PartQueue" := iE23.keep K26
            have Z26 : n0 ≤ T26.heap.size := Nat.le_trans (Z23) K26.1
            refine Runs.trans st26 ?_
            show Runs _ _ _ _ T26 (mkF m 386 #[.val (.int p0), .val (.int p1), .val (.int p2), .val (.int p3), .val (.int p4), .val (.int nd0), .val (.int nd1), .val (.int nd2), .val (.int nd3), .val (.int pt0), .val (.int pt1), .val (.int pt2), .val (.int pt3), .val (.int (rankF nd0 nd1 nd2 nd3)), .val (.int (rankF nd1 nd0 nd2 nd3)), .val (.int (rankF nd2 nd0 nd1 nd3)), .val (.int (rankF nd3 nd0 nd1 nd2)), .val (.ref ob5), .val (.int (hiI u10_0)), .val (.int (1 : Int32)), .val (.int (u11_0.toInt32)), .val (.int (hiI u11_0)), .val (.int (u17_0.toInt32)), .val (.int (hiI u17_0)), .unset] [(.int (hiI u23_0))])
            refine Runs.back (fun t_ k_ => XS.istore X26.here hx rfl (hb hby at_386) rfl (l' := #[.val (.int p0), .val (.int p1), .val (.int p2), .val (.int p3), .val (.int p4), .val (.int nd0), .val (.int nd1), .val (.int nd2), .val (.int nd3), .val (.int pt0), .val (.int pt1), .val (.int pt2), .val (.int pt3), .val (.int (rankF nd0 nd1 nd2 nd3)), .val (.int (rankF nd1 nd0 nd2 nd3)), .val (.int (rankF nd2 nd0 nd1 nd3)), .val (.int (rankF nd3 nd0 nd1 nd2)), .val (.ref ob5), .val (.int (hiI u10_0)), .val (.int (1 : Int32)), .val (.int (u11_0.toInt32)), .val (.int (hiI u11_0)), .val (.int (u17_0.toInt32)), .val (.int (hiI u17_0)), .val (.int (hiI u23_0))]) rfl k_) ?_
            show Runs _ _ _ _ T26 (mkF m 388 #[.val (.int p0), .val (.int p1), .val (.int p2), .val (.int p3), .val (.int p4), .val (.int nd0), .val (.int nd1), .val (.int nd2), .val (.int nd3), .val (.int pt0), .val (.int pt1), .val (.int pt2), .val (.int pt3), .val (.int (rankF nd0 nd1 nd2 nd3)), .val (.int (rankF nd1 nd0 nd2 nd3)), .val (.int (rankF nd2 nd0 nd1 nd3)), .val (.int (rankF nd3 nd0 nd1 nd2)), .val (.ref ob5), .val (.int (hiI u10_0)), .val (.int (1 : Int32)), .val (.int (u11_0.toInt32)), .val (.int (hiI u11_0)), .val (.int (u17_0.toInt32)), .val (.int (hiI u17_0)), .val (.int (hiI u23_0))] [])
            refine Runs.back (fun t_ k_ => XS.iload X26.here hx rfl (hb hby at_388) rfl k_) ?_
            show Runs _ _ _ _ T26 (mkF m 390 #[.val (.int p0), .val (.int p1), .val (.int p2), .val (.int p3), .val (.int p4), .val (.int nd0), .val (.int nd1), .val (.int nd2), .val (.int nd3), .val (.int pt0), .val (.int pt1), .val (.int pt2), .val (.int pt3), .val (.int (rankF nd0 nd1 nd2 nd3)), .val (.int (rankF nd1 nd0 nd2 nd3)), .val (.int (rankF nd2 nd0 nd1 nd3)), .val (.int (rankF nd3 nd0 nd1 nd2)), .val (.ref ob5), .val (.int (hiI u10_0)), .val (.int (1 : Int32)), .val (.int (u11_0.toInt32)), .val (.int (hiI u11_0)), .val (.int (u17_0.toInt32)), .val (.int (hiI u17_0)), .val (.int (hiI u23_0))] [(.int (1 : Int32))])
            refine Runs.back (fun t_ k_ => XS.ifNo X26.here hx rfl (hb hby at_390) rfl ((if0 _ _).trans (feq (show ¬ ((1 : Int32) = (0 : Int32)) from (by decide))).1) k_) ?_
            show Runs _ _ _ _ T26 (mkF m 393 #[.val (.int p0), .val (.int p1), .val (.int p2), .val (.int p3), .val (.int p4), .val (.int nd0), .val (.int nd1), .val (.int nd2), .val (.int nd3), .val (.int pt0), .val (.int pt1), .val (.int pt2), .val (.int pt3), .val (.int (rankF nd0 nd1 nd2 nd3)), .val (.int (rankF nd1 nd0 nd2 nd3)), .val (.int (rankF nd2 nd0 nd1 nd3)), .val (.int (rankF nd3 nd0 nd1 nd2)), .val (.ref ob5), .val (.int (hiI u10_0)), .val (.int (1 : Int32)), .val (.int (u11_0.toInt32)), .val (.int (hiI u11_0)), .val (.int (u17_0.toInt32)), .val (.int (hiI u17_0)), .val (.int (hiI u23_0))] [])
            refine Runs.back (fun t_ k_ => XS.iload X26.here hx rfl (hb hby at_393) rfl k_) ?_
            show Runs _ _ _ _ T26 (mkF m 395 #[.val (.int p0), .val (.int p1), .val (.int p2), .val (.int p3), .val (.int p4), .val (.int nd0), .val (.int nd1), .val (.int nd2), .val (.int nd3), .val (.int pt0), .val (.int pt1), .val (.int pt2), .val (.int pt3), .val (.int (rankF nd0 nd1 nd2 nd3)), .val (.int (rankF nd1 nd0 nd2 nd3)), .val (.int (rankF nd2 nd0 nd1 nd3)), .val (.int (rankF nd3 nd0 nd1 nd2)), .val (.ref ob5), .val (.int (hiI u10_0)), .val (.int (1 : Int32)), .val (.int (u11_0.toInt32)), .val (.int (hiI u11_0)), .val (.int (u17_0.toInt32)), .val (.int (hiI u17_0)), .val (.int (hiI u23_0))] [(.int (hiI u23_0))])
            refine Runs.back (fun t_ k_ => XS.iconst X26.here hx rfl (hb hby at_395) k_) ?_
            show Runs _ _ _ _ T26 (mkF m 396 #[.val (.int p0), .val (.int p1), .val (.int p2), .val (.int p3), .val (.int p4), .val (.int nd0), .val (.int nd1), .val (.int nd2), .val (.int nd3), .val (.int pt0), .val (.int pt1), .val (.int pt2), .val (.int pt3), .val (.int (rankF nd0 nd1 nd2 nd3)), .val (.int (rankF nd1 nd0 nd2 nd3)), .val (.int (rankF nd2 nd0 nd1 nd3)), .val (.int (rankF nd3 nd0 nd1 nd2)), .val (.ref ob5), .val (.int (hiI u10_0)), .val (.int (1 : Int32)), .val (.int (u11_0.toInt32)), .val (.int (hiI u11_0)), .val (.int (u17_0.toInt32)), .val (.int (hiI u17_0)), .val (.int (hiI u23_0))] [(.int (3 : Int32)), (.int (hiI u23_0))])
            refine Runs.back (fun t_ k_ => XS.iload X26.here hx rfl (hb hby at_396) rfl k_) ?_
            show Runs _ _ _ _ T26 (mkF m 398 #[.val (.int p0), .val (.int p1), .val (.int p2), .val (.int p3), .val (.int p4), .val (.int nd0), .val (.int nd1), .val (.int nd2), .val (.int nd3), .val (.int pt0), .val (.int pt1), .val (.int pt2), .val (.int pt3), .val (.int (rankF nd0 nd1 nd2 nd3)), .val (.int (rankF nd1 nd0 nd2 nd3)), .val (.int (rankF nd2 nd0 nd1 nd3)), .val (.int (rankF nd3 nd0 nd1 nd2)), .val (.ref ob5), .val (.int (hiI u10_0)), .val (.int (1 : Int32)), .val (.int (u11_0.toInt32)), .val (.int (hiI u11_0)), .val (.int (u17_0.toInt32)), .val (.int (hiI u17_0)), .val (.int (hiI u23_0))] [(.int (rankF nd0 nd1 nd2 nd3)), (.int (3 : Int32)), (.int (hiI u23_0))])
            refine Runs.back (fun t_ k_ => XS.iload X26.here hx rfl (hb hby at_398) rfl k_) ?_
            show Runs _ _ _ _ T26 (mkF m 400 #[.val (.int p0), .val (.int p1), .val (.int p2), .val (.int p3), .val (.int p4), .val (.int nd0), .val (.int nd1), .val (.int nd2), .val (.int nd3), .val (.int pt0), .val (.int pt1), .val (.int pt2), .val (.int pt3), .val (.int (rankF nd0 nd1 nd2 nd3)), .val (.int (rankF nd1 nd0 nd2 nd3)), .val (.int (rankF nd2 nd0 nd1 nd3)), .val (.int (rankF nd3 nd0 nd1 nd2)), .val (.ref ob5), .val (.int (hiI u10_0)), .val (.int (1 : Int32)), .val (.int (u11_0.toInt32)), .val (.int (hiI u11_0)), .val (.int (u17_0.toInt32)), .val (.int (hiI u17_0)), .val (.int (hiI u23_0))] [(.int (rankF nd1 nd0 nd2 nd3)), (.int (rankF nd0 nd1 nd2 nd3)), (.int (3 : Int32)), (.int (hiI u23_0))])
            refine Runs.back (fun t_ k_ => XS.iload X26.here hx rfl (hb hby at_400) rfl k_) ?_
            show Runs _ _ _ _ T26 (mkF m 402 #[.val (.int p0), .val (.int p1), .val (.int p2), .val (.int p3), .val (.int p4), .val (.int nd0), .val (.int nd1), .val (.int nd2), .val (.int nd3), .val (.int pt0), .val (.int pt1), .val (.int pt2), .val (.int pt3), .val (.int (rankF nd0 nd1 nd2 nd3)), .val (.int (rankF nd1 nd0 nd2 nd3)), .val (.int (rankF nd2 nd0 nd1 nd3)), .val (.int (rankF nd3 nd0 nd1 nd2)), .val (.ref ob5), .val (.int (hiI u10_0)), .val (.int (1 : Int32)), .val (.int (u11_0.toInt32)), .val (.int (hiI u11_0)), .val (.int (u17_0.toInt32)), .val (.int (hiI u17_0)), .val (.int (hiI u23_0))] [(.int (rankF nd2 nd0 nd1 nd3)), (.int (rankF nd1 nd0 nd2 nd3)), (.int (rankF nd0 nd1 nd2 nd3)), (.int (3 : Int32)), (.int (hiI u23_0))])
            refine Runs.back (fun t_ k_ => XS.iload X26.here hx rfl (hb hby at_402) rfl k_) ?_
            show Runs _ _ _ _ T26 (mkF m 404 #[.val (.int p0), .val (.int p1), .val (.int p2), .val (.int p3), .val (.int p4), .val (.int nd0), .val (.int nd1), .val (.int nd2), .val (.int nd3), .val (.int pt0), .val (.int pt1), .val (.int pt2), .val (.int pt3), .val (.int (rankF nd0 nd1 nd2 nd3)), .val (.int (rankF nd1 nd0 nd2 nd3)), .val (.int (rankF nd2 nd0 nd1 nd3)), .val (.int (rankF nd3 nd0 nd1 nd2)), .val (.ref ob5), .val (.int (hiI u10_0)), .val (.int (1 : Int32)), .val (.int (u11_0.toInt32)), .val (.int (hiI u11_0)), .val (.int (u17_0.toInt32)), .val (.int (hiI u17_0)), .val (.int (hiI u23_0))] [(.int (rankF nd3 nd0 nd1 nd2)), (.int (rankF nd2 nd0 nd1 nd3)), (.int (rankF nd1 nd0 nd2 nd3)), (.int (rankF nd0 nd1 nd2 nd3)), (.int (3 : Int32)), (.int (hiI u23_0))])
            refine Runs.back (fun t_ k_ => XS.iload X26.here hx rfl (hb hby at_404) rfl k_) ?_
            show Runs _ _ _ _ T26 (mkF m 406 #[.val (.int p0), .val (.int p1), .val (.int p2), .val (.int p3), .val (.int p4), .val (.int nd0), .val (.int nd1), .val (.int nd2), .val (.int nd3), .val (.int pt0), .val (.int pt1), .val (.int pt2), .val (.int pt3), .val (.int (rankF nd0 nd1 nd2 nd3)), .val (.int (rankF nd1 nd0 nd2 nd3)), .val (.int (rankF nd2 nd0 nd1 nd3)), .val (.int (rankF nd3 nd0 nd1 nd2)), .val (.ref ob5), .val (.int (hiI u10_0)), .val (.int (1 : Int32)), .val (.int (u11_0.toInt32)), .val (.int (hiI u11_0)), .val (.int (u17_0.toInt32)), .val (.int (hiI u17_0)), .val (.int (hiI u23_0))] [(.int nd0), (.int (rankF nd3 nd0 nd1 nd2)), (.int (rankF nd2 nd0 nd1 nd3)), (.int (rankF nd1 nd0 nd2 nd3)), (.int (rankF nd0 nd1 nd2 nd3)), (.int (3 : Int32)), (.int (hiI u23_0))])
            refine Runs.back (fun t_ k_ => XS.iload X26.here hx rfl (hb hby at_406) rfl k_) ?_
            show Runs _ _ _ _ T26 (mkF m 408 #[.val (.int p0), .val (.int p1), .val (.int p2), .val (.int p3), .val (.int p4), .val (.int nd0), .val (.int nd1), .val (.int nd2), .val (.int nd3), .val (.int pt0), .val (.int pt1), .val (.int pt2), .val (.int pt3), .val (.int (rankF nd0 nd1 nd2 nd3)), .val (.int (rankF nd1 nd0 nd2 nd3)), .val (.int (rankF nd2 nd0 nd1 nd3)), .val (.int (rankF nd3 nd0 nd1 nd2)), .val (.ref ob5), .val (.int (hiI u10_0)), .val (.int (1 : Int32)), .val (.int (u11_0.toInt32)), .val (.int (hiI u11_0)), .val (.int (u17_0.toInt32)), .val (.int (hiI u17_0)), .val (.int (hiI u23_0))] [(.int nd1), (.int nd0), (.int (rankF nd3 nd0 nd1 nd2)), (.int (rankF nd2 nd0 nd1 nd3)), (.int (rankF nd1 nd0 nd2 nd3)), (.int (rankF nd0 nd1 nd2 nd3)), (.int (3 : Int32)), (.int (hiI u23_0))])
            refine Runs.back (fun t_ k_ => XS.iload X26.here hx rfl (hb hby at_408) rfl k_) ?_
            show Runs _ _ _ _ T26 (mkF m 410 #[.val (.int p0), .val (.int p1), .val (.int p2), .val (.int p3), .val (.int p4), .val (.int nd0), .val (.int nd1), .val (.int nd2), .val (.int nd3), .val (.int pt0), .val (.int pt1), .val (.int pt2), .val (.int pt3), .val (.int (rankF nd0 nd1 nd2 nd3)), .val (.int (rankF nd1 nd0 nd2 nd3)), .val (.int (rankF nd2 nd0 nd1 nd3)), .val (.int (rankF nd3 nd0 nd1 nd2)), .val (.ref ob5), .val (.int (hiI u10_0)), .val (.int (1 : Int32)), .val (.int (u11_0.toInt32)), .val (.int (hiI u11_0)), .val (.int (u17_0.toInt32)), .val (.int (hiI u17_0)), .val (.int (hiI u23_0))] [(.int nd2), (.int nd1), (.int nd0), (.int (rankF nd3 nd0 nd1 nd2)), (.int (rankF nd2 nd0 nd1 nd3)), (.int (rankF nd1 nd0 nd2 nd3)), (.int (rankF nd0 nd1 nd2 nd3)), (.int (3 : Int32)), (.int (hiI u23_0))])
            refine Runs.back (fun t_ k_ => XS.iload X26.here hx rfl (hb hby at_410) rfl k_) ?_
            show Runs _ _ _ _ T26 (mkF m 412 #[.val (.int p0), .val (.int p1), .val (.int p2), .val (.int p3), .val (.int p4), .val (.int nd0), .val (.int nd1), .val (.int nd2), .val (.int nd3), .val (.int pt0), .val (.int pt1), .val (.int pt2), .val (.int pt3), .val (.int (rankF nd0 nd1 nd2 nd3)), .val (.int (rankF nd1 nd0 nd2 nd3)), .val (.int (rankF nd2 nd0 nd1 nd3)), .val (.int (rankF nd3 nd0 nd1 nd2)), .val (.ref ob5), .val (.int (hiI u10_0)), .val (.int (1 : Int32)), .val (.int (u11_0.toInt32)), .val (.int (hiI u11_0)), .val (.int (u17_0.toInt32)), .val (.int (hiI u17_0)), .val (.int (hiI u23_0))] [(.int nd3), (.int nd2), (.int nd1), (.int nd0), (.int (rankF nd3 nd0 nd1 nd2)), (.int (rankF nd2 nd0 nd1 nd3)), (.int (rankF nd1 nd0 nd2 nd3)), (.int (rankF nd0 nd1 nd2 nd3)), (.int (3 : Int32)), (.int (hiI u23_0))])
            obtain ⟨_, _, ⟨T27, L27, k27, n27⟩, -, X27, ⟨Lc27, hQ27, l27, y27, z27⟩, st27⟩ := Jvm.LawKit.callS X26 hx (y := (⟨"com/example/tradewheel/tradewheel/PartQueueRemovePinLaw", "pick", "(IIIIIIIII)I"⟩ : MethodName)) hown (mvT hZ (hw _ (List.mem_of_getElem? (i := 29) rfl))) (mvT hZ (hw _ (List.mem_of_getElem? (i := 30) rfl))) (mvT hZ (hw _ (List.mem_of_getElem? (i := 3) rfl))) (mvT hZ (hw _ (List.mem_of_getElem? (i := 31) rfl))) (by decide) (backOf (W := 1) (rm6 l Z a0 hw [] (3 : Int32) (rankF nd0 nd1 nd2 nd3) (rankF nd1 nd0 nd2 nd3) (rankF nd2 nd0 nd1 nd3) (rankF nd3 nd0 nd1 nd2) nd0 nd1 nd2 nd3 T26.heap n0 (Z26)) hZ (hw _ (List.mem_of_getElem? (i := 31) rfl)) (hw _ (List.mem_of_getElem? (i := 3) rfl)) (by decide) (by decide)) (g := (mkF m 412 #[.val (.int p0), .val (.int p1), .val (.int p2), .val (.int p3), .val (.int p4), .val (.int nd0), .val (.int nd1), .val (.int nd2), .val (.int nd3), .val (.int pt0), .val (.int pt1), .val (.int pt2), .val (.int pt3), .val (.int (rankF nd0 nd1 nd2 nd3)), .val (.int (rankF nd1 nd0 nd2 nd3)), .val (.int (rankF nd2 nd0 nd1 nd3)), .val (.int (rankF nd3 nd0 nd1 nd2)), .val (.ref ob5), .val (.int (hiI u10_0)), .val (.int (1 : Int32)), .val (.int (u11_0.toInt32)), .val (.int (hiI u11_0)), .val (.int (u17_0.toInt32)), .val (.int (hiI u17_0)), .val (.int (hiI u23_0))] [(.int nd3), (.int nd2), (.int nd1), (.int nd0), (.int (rankF nd3 nd0 nd1 nd2)), (.int (rankF nd2 nd0 nd1 nd3)), (.int (rankF nd1 nd0 nd2 nd3)), (.int (rankF nd0 nd1 nd2 nd3)), (.int (3 : Int32)), (.int (hiI u23_0))])) rfl (by rw [hml]; rfl) (argsL := [(.int (3 : Int32)), (.int (rankF nd0 nd1 nd2 nd3)), (.int (rankF nd1 nd0 nd2 nd3)), (.int (rankF nd2 nd0 nd1 nd3)), (.int (rankF nd3 nd0 nd1 nd2)), (.int nd0), (.int nd1), (.int nd2), (.int nd3)]) (rest := [(.int (hiI u23_0))]) (lenOf pd0_4 rfl) rfl (by show 2 * 0 + _ ≤ _; exact Nat.le_of_eq rfl) (hb hby at_412) (fun _ _ => ⟨rfl, rfl, (by decide : 2 + 0 ≤ _), (by decide : 6 + 0 ≤ _)⟩)
            dsimp only [Pt.U, Pt.locs, Pt.cells, Pt.slots] at X27 l27 y27 z27 st27 hQ27
            obtain rfl : k27 = 2 := y27
            obtain rfl : n27 = 6 := z27
            obtain ⟨rfl, N27q, eq27⟩ := hQ27
            have N27 : Fr n0 L27 := by rw [l27]; exact Fr.app N26 N27q
            clear l27
            refine Runs.back st27 ?_
            show Runs _ _ _ _ T27 (mkF m 415 #[.val (.int p0), .val (.int p1), .val (.int p2), .val (.int p3), .val (.int p4), .val (.int nd0), .val (.int nd1), .val (.int nd2), .val (.int nd3), .val (.int pt0), .val (.int pt1), .val (.int pt2), .val (.int pt3), .val (.int (rankF nd0 nd1 nd2 nd3)), .val (.int (rankF nd1 nd0 nd2 nd3)), .val (.int (rankF nd2 nd0 nd1 nd3)), .val (.int (rankF nd3 nd0 nd1 nd2)), .val (.ref ob5), .val (.int (hiI u10_0)), .val (.int (1 : Int32)), .val (.int (u11_0.toInt32)), .val (.int (hiI u11_0)), .val (.int (u17_0.toInt32)), .val (.int (hiI u17_0)), .val (.int (hiI u23_0))] [(.int (pickF (3 : Int32) (rankF nd0 nd1 nd2 nd3) (rankF nd1 nd0 nd2 nd3) (rankF nd2 nd0 nd1 nd3) (rankF nd3 nd0 nd1 nd2) nd0 nd1 nd2 nd3)), (.int (hiI u23_0))])
            by_cases c415_28 : (hiI u23_0) = (pickF (3 : Int32) (rankF nd0 nd1 nd2 nd3) (rankF nd1 nd0 nd2 nd3) (rankF nd2 nd0 nd1 nd3) (rankF nd3 nd0 nd1 nd2) nd0 nd1 nd2 nd3)
            · refine Runs.back (fun t_ k_ => XS.icmpNo X27.here hx rfl (hb hby at_415) rfl (teq c415_28).2 k_) ?_
              show Runs _ _ _ _ T27 (mkF m 418 #[.val (.int p0), .val (.int p1), .val (.int p2), .val (.int p3), .val (.int p4), .val (.int nd0), .val (.int nd1), .val (.int nd2), .val (.int nd3), .val (.int pt0), .val (.int pt1), .val (.int pt2), .val (.int pt3), .val (.int (rankF nd0 nd1 nd2 nd3)), .val (.int (rankF nd1 nd0 nd2 nd3)), .val (.int (rankF nd2 nd0 nd1 nd3)), .val (.int (rankF nd3 nd0 nd1 nd2)), .val (.ref ob5), .val (.int (hiI u10_0)), .val (.int (1 : Int32)), .val (.int (u11_0.toInt32)), .val (.int (hiI u11_0)), .val (.int (u17_0.toInt32)), .val (.int (hiI u17_0)), .val (.int (hiI u23_0))] [])
              refine Runs.back (fun t_ k_ => XS.iconst X27.here hx rfl (hb hby at_418) k_) ?_
              show Runs _ _ _ _ T27 (mkF m 419 #[.val (.int p0), .val (.int p1), .val (.int p2), .val (.int p3), .val (.int p4), .val (.int nd0), .val (.int nd1), .val (.int nd2), .val (.int nd3), .val (.int pt0), .val (.int pt1), .val (.int pt2), .val (.int pt3), .val (.int (rankF nd0 nd1 nd2 nd3)), .val (.int (rankF nd1 nd0 nd2 nd3)), .val (.int (rankF nd2 nd0 nd1 nd3)), .val (.int (rankF nd3 nd0 nd1 nd2)), .val (.ref ob5), .val (.int (hiI u10_0)), .val (.int (1 : Int32)), .val (.int (u11_0.toInt32)), .val (.int (hiI u11_0)), .val (.int (u17_0.toInt32)), .val (.int (hiI u17_0)), .val (.int (hiI u23_0))] [(.int (1 : Int32))])
              refine Runs.back (fun t_ k_ => XS.goto X27.here hx rfl (pc0 := 419) (pc' := 423) rfl (hb hby at_419) (by decide) (by decide) k_) ?_
              show Runs _ _ _ _ T27 (mkF m 423 #[.val (.int p0), .val (.int p1), .val (.int p2), .val (.int p3), .val (.int p4), .val (.int nd0), .val (.int nd1), .val (.int nd2), .val (.int nd3), .val (.int pt0), .val (.int pt1), .val (.int pt2), .val (.int pt3), .val (.int (rankF nd0 nd1 nd2 nd3)), .val (.int (rankF nd1 nd0 nd2 nd3)), .val (.int (rankF nd2 nd0 nd1 nd3)), .val (.int (rankF nd3 nd0 nd1 nd2)), .val (.ref ob5), .val (.int (hiI u10_0)), .val (.int (1 : Int32)), .val (.int (u11_0.toInt32)), .val (.int (hiI u11_0)), .val (.int (u17_0.toInt32)), .val (.int (hiI u17_0)), .val (.int (hiI u23_0))] [(.int (1 : Int32))])
              refine Runs.back (fun t_ k_ => XS.istore X27.here hx rfl (hb hby at_423) rfl (l' := #[.val (.int p0), .val (.int p1), .val (.int p2), .val (.int p3), .val (.int p4), .val (.int nd0), .val (.int nd1), .val (.int nd2), .val (.int nd3), .val (.int pt0), .val (.int pt1), .val (.int pt2), .val (.int pt3), .val (.int (rankF nd0 nd1 nd2 nd3)), .val (.int (rankF nd1 nd0 nd2 nd3)), .val (.int (rankF nd2 nd0 nd1 nd3)), .val (.int (rankF nd3 nd0 nd1 nd2)), .val (.ref ob5), .val (.int (hiI u10_0)), .val (.int (1 : Int32)), .val (.int (u11_0.toInt32)), .val (.int (hiI u11_0)), .val (.int (u17_0.toInt32)), .val (.int (hiI u17_0)), .val (.int (hiI u23_0))]) rfl k_) ?_
              show Runs _ _ _ _ T27 (mkF m 425 #[.val (.int p0), .val (.int p1), .val (.int p2), .val (.int p3), .val (.int p4), .val (.int nd0), .val (.int nd1), .val (.int nd2), .val (.int nd3), .val (.int pt0), .val (.int pt1), .val (.int pt2), .val (.int pt3), .val (.int (rankF nd0 nd1 nd2 nd3)), .val (.int (rankF nd1 nd0 nd2 nd3)), .val (.int (rankF nd2 nd0 nd1 nd3)), .val (.int (rankF nd3 nd0 nd1 nd2)), .val (.ref ob5), .val (.int (hiI u10_0)), .val (.int (1 : Int32)), .val (.int (u11_0.toInt32)), .val (.int (hiI u11_0)), .val (.int (u17_0.toInt32)), .val (.int (hiI u17_0)), .val (.int (hiI u23_0))] [])
              refine Runs.back (fun t_ k_ => XS.iload X27.here hx rfl (hb hby at_425) rfl k_) ?_
              show Runs _ _ _ _ T27 (mkF m 427 #[.val (.int p0), .val (.int p1), .val (.int p2), .val (.int p3), .val (.int p4), .val (.int nd0), .val (.int nd1), .val (.int nd2), .val (.int nd3), .val (.int pt0), .val (.int pt1), .val (.int pt2), .val (.int pt3), .val (.int (rankF nd0 nd1 nd2 nd3)), .val (.int (rankF nd1 nd0 nd2 nd3)), .val (.int (rankF nd2 nd0 nd1 nd3)), .val (.int (rankF nd3 nd0 nd1 nd2)), .val (.ref ob5), .val (.int (hiI u10_0)), .val (.int (1 : Int32)), .val (.int (u11_0.toInt32)), .val (.int (hiI u11_0)), .val (.int (u17_0.toInt32)), .val (.int (hiI u17_0)), .val (.int (hiI u23_0))] [(.int (1 : Int32))])
              obtain ⟨fs, hr, hrun, hended, hW, hsame⟩ := X27.leave (v := some (.int (1 : Int32))) (fun h => by rw [Bd.returns] at h; cases h)
              exact ⟨_, _, (retN X27 hx (t := .boolean) Bd.returns (by simp) (hb hby at_427) hr), hrun, hended, _, _, rfl, ⟨rfl, N27⟩, ⟨_, rfl⟩, hW, hsame.mono (by decide) (by decide)⟩
            · refine Runs.back (fun t_ k_ => XS.icmpYes X27.here hx rfl (pc0 := 415) (pc' := 422) rfl (hb hby at_415) rfl (feq c415_28).2 (by decide) (by decide) k_) ?_
              show Runs _ _ _ _ T27 (mkF m 422 #[.val (.int p0), .val (.int p1), .val (.int p2), .val (.int p3), .val (.int p4), .val (.int nd0), .val (.int nd1), .val (.int nd2), .val (.int nd3), .val (.int pt0), .val (.int pt1), .val (.int pt2), .val (.int pt3), .val (.int (rankF nd0 nd1 nd2 nd3)), .val (.int (rankF nd1 nd0 nd2 nd3)), .val (.int (rankF nd2 nd0 nd1 nd3)), .val (.int (rankF nd3 nd0 nd1 nd2)), .val (.ref ob5), .val (.int (hiI u10_0)), .val (.int (1 : Int32)), .val (.int (u11_0.toInt32)), .val (.int (hiI u11_0)), .val (.int (u17_0.toInt32)), .val (.int (hiI u17_0)), .val (.int (hiI u23_0))] [])
              refine Runs.back (fun t_ k_ => XS.iconst X27.here hx rfl (hb hby at_422) k_) ?_
              show Runs _ _ _ _ T27 (mkF m 423 #[.val (.int p0), .val (.int p1), .val (.int p2), .val (.int p3), .val (.int p4), .val (.int nd0), .val (.int nd1), .val (.int nd2), .val (.int nd3), .val (.int pt0), .val (.int pt1), .val (.int pt2), .val (.int pt3), .val (.int (rankF nd0 nd1 nd2 nd3)), .val (.int (rankF nd1 nd0 nd2 nd3)), .val (.int (rankF nd2 nd0 nd1 nd3)), .val (.int (rankF nd3 nd0 nd1 nd2)), .val (.ref ob5), .val (.int (hiI u10_0)), .val (.int (1 : Int32)), .val (.int (u11_0.toInt32)), .val (.int (hiI u11_0)), .val (.int (u17_0.toInt32)), .val (.int (hiI u17_0)), .val (.int (hiI u23_0))] [(.int (0 : Int32))])
              refine Runs.back (fun t_ k_ => XS.istore X27.here hx rfl (hb hby at_423) rfl (l' := #[.val (.int p0), .val (.int p1), .val (.int p2), .val (.int p3), .val (.int p4), .val (.int nd0), .val (.int nd1), .val (.int nd2), .val (.int nd3), .val (.int pt0), .val (.int pt1), .val (.int pt2), .val (.int pt3), .val (.int (rankF nd0 nd1 nd2 nd3)), .val (.int (rankF nd1 nd0 nd2 nd3)), .val (.int (rankF nd2 nd0 nd1 nd3)), .val (.int (rankF nd3 nd0 nd1 nd2)), .val (.ref ob5), .val (.int (hiI u10_0)), .val (.int (0 : Int32)), .val (.int (u11_0.toInt32)), .val (.int (hiI u11_0)), .val (.int (u17_0.toInt32)), .val (.int (hiI u17_0)), .val (.int (hiI u23_0))]) rfl k_) ?_
              show Runs _ _ _ _ T27 (mkF m 425 #[.val (.int p0), .val (.int p1), .val (.int p2), .val (.int p3), .val (.int p4), .val (.int nd0), .val (.int nd1), .val (.int nd2), .val (.int nd3), .val (.int pt0), .val (.int pt1), .val (.int pt2), .val (.int pt3), .val (.int (rankF nd0 nd1 nd2 nd3)), .val (.int (rankF nd1 nd0 nd2 nd3)), .val (.int (rankF nd2 nd0 nd1 nd3)), .val (.int (rankF nd3 nd0 nd1 nd2)), .val (.ref ob5), .val (.int (hiI u10_0)), .val (.int (0 : Int32)), .val (.int (u11_0.toInt32)), .val (.int (hiI u11_0)), .val (.int (u17_0.toInt32)), .val (.int (hiI u17_0)), .val (.int (hiI u23_0))] [])
              refine Runs.back (fun t_ k_ => XS.iload X27.here hx rfl (hb hby at_425) rfl k_) ?_
              show Runs _ _ _ _ T27 (mkF m 427 #[.val (.int p0), .val (.int p1), .val (.int p2), .val (.int p3), .val (.int p4), .val (.int nd0), .val (.int nd1), .val (.int nd2), .val (.int nd3), .val (.int pt0), .val (.int pt1), .val (.int pt2), .val (.int pt3), .val (.int (rankF nd0 nd1 nd2 nd3)), .val (.int (rankF nd1 nd0 nd2 nd3)), .val (.int (rankF nd2 nd0 nd1 nd3)), .val (.int (rankF nd3 nd0 nd1 nd2)), .val (.ref ob5), .val (.int (hiI u10_0)), .val (.int (0 : Int32)), .val (.int (u11_0.toInt32)), .val (.int (hiI u11_0)), .val (.int (u17_0.toInt32)), .val (.int (hiI u17_0)), .val (.int (hiI u23_0))] [(.int (0 : Int32))])
              obtain ⟨fs, hr, hrun, hended, hW, hsame⟩ := X27.leave (v := some (.int (0 : Int32))) (fun h => by rw [Bd.returns] at h; cases h)
              have WH := whole F4 rel7 rel8 rel9 rel10 rel11 rel17 rel23 rfl
              exact ⟨_, _, (retN X27 hx (t := .boolean) Bd.returns (by simp) (hb hby at_427) hr), hrun, hended, _, _, rfl, ⟨(c415_28 (WH.2.2.2.1)).elim, N27⟩, ⟨_, rfl⟩, hW, hsame.mono (by decide) (by decide)⟩
          · refine Runs.back (fun t_ k_ => XS.icmpYes X24.here hx rfl (pc0 := 371) (pc' := 378) rfl (hb hby at_371) rfl (feq c371_25).2 (by decide) (by decide) k_) ?_
            show Runs _ _ _ _ T24 (mkF m 378 #[.val (.int p0), .val (.int p1), .val (.int p2), .val (.int p3), .val (.int p4), .val (.int nd0), .val (.int nd1), .val (.int nd2), .val (.int nd3), .val (.int pt0), .val (.int pt1), .val (.int pt2), .val (.int pt3), .val (.int (rankF nd0 nd1 nd2 nd3)), .val (.int (rankF nd1 nd0 nd2 nd3)), .val (.int (rankF nd2 nd0 nd1 nd3)), .val (.int (rankF nd3 nd0 nd1 nd2)), .val (.ref ob5), .val (.int (hiI u10_0)), .val (.int (1 : Int32)), .val (.int (u11_0.toInt32)), .val (.int (hiI u11_0)), .val (.int (u17_0.toInt32)), .val (.int (hiI u17_0)), .unset] [])
            refine Runs.back (fun t_ k_ => XS.iconst X24.here hx rfl (hb hby at_378) k_) ?_
            show Runs _ _ _ _ T24 (mkF m 379 #[.val (.int p0), .val (.int p1), .val (.int p2), .val (.int p3), .val (.int p4), .val (.int nd0), .val (.int nd1), .val (.int nd2), .val (.int nd3), .val (.int pt0), .val (.int pt1), .val (.int pt2), .val (.int pt3), .val (.int (rankF nd0 nd1 nd2 nd3)), .val (.int (rankF nd1 nd0 nd2 nd3)), .val (.int (rankF nd2 nd0 nd1 nd3)), .val (.int (rankF nd3 nd0 nd1 nd2)), .val (.ref ob5), .val (.int (hiI u10_0)), .val (.int (1 : Int32)), .val (.int (u11_0.toInt32)), .val (.int (hiI u11_0)), .val (.int (u17_0.toInt32)), .val (.int (hiI u17_0)), .unset] [(.int (0 : Int32))])
            refine Runs.back (fun t_ k_ => XS.istore X24.here hx rfl (hb hby at_379) rfl (l' := #[.val (.int p0), .val (.int p1), .val (.int p2), .val (.int p3), .val (.int p4), .val (.int nd0), .val (.int nd1), .val (.int nd2), .val (.int nd3), .val (.int pt0), .val (.int pt1), .val (.int pt2), .val (.int pt3), .val (.int (rankF nd0 nd1 nd2 nd3)), .val (.int (rankF nd1 nd0 nd2 nd3)), .val (.int (rankF nd2 nd0 nd1 nd3)), .val (.int (rankF nd3 nd0 nd1 nd2)), .val (.ref ob5), .val (.int (hiI u10_0)), .val (.int (0 : Int32)), .val (.int (u11_0.toInt32)), .val (.int (hiI u11_0)), .val (.int (u17_0.toInt32)), .val (.int (hiI u17_0)), .unset]) rfl k_) ?_
            show Runs _ _ _ _ T24 (mkF m 381 #[.val (.int p0), .val (.int p1), .val (.int p2), .val (.int p3), .val (.int p4), .val (.int nd0), .val (.int nd1), .val (.int nd2), .val (.int nd3), .val (.int pt0), .val (.int pt1), .val (.int pt2), .val (.int pt3), .val (.int (rankF nd0 nd1 nd2 nd3)), .val (.int (rankF nd1 nd0 nd2 nd3)), .val (.int (rankF nd2 nd0 nd1 nd3)), .val (.int (rankF nd3 nd0 nd1 nd2)), .val (.ref ob5), .val (.int (hiI u10_0)), .val (.int (0 : Int32)), .val (.int (u11_0.toInt32)), .val (.int (hiI u11_0)), .val (.int (u17_0.toInt32)), .val (.int (hiI u17_0)), .unset] [])
            refine Runs.back (fun t_ k_ => XS.aload X24.here hx rfl (hb hby at_381) rfl rfl k_) ?_
            show Runs _ _ _ _ T24 (mkF m 383 #[.val (.int p0), .val (.int p1), .val (.int p2), .val (.int p3), .val (.int p4), .val (.int nd0), .val (.int nd1), .val (.int nd2), .val (.int nd3), .val (.int pt0), .val (.int pt1), .val (.int pt2), .val (.int pt3), .val (.int (rankF nd0 nd1 nd2 nd3)), .val (.int (rankF nd1 nd0 nd2 nd3)), .val (.int (rankF nd2 nd0 nd1 nd3)), .val (.int (rankF nd3 nd0 nd1 nd2)), .val (.ref ob5), .val (.int (hiI u10_0)), .val (.int (0 : Int32)), .val (.int (u11_0.toInt32)), .val (.int (hiI u11_0)), .val (.int (u17_0.toInt32)), .val (.int (hiI u17_0)), .unset] [(.ref ob5)])
            obtain ⟨cq29, kq29, q29a, q29b, q29c⟩ := isOf hZ eq24 iE23
            obtain ⟨_, _, ⟨T29, L29, k29, n29⟩, -, X29, ⟨Lc29, hQ29, l29, y29, z29⟩, st29⟩ := X24.virtualBack hx (y := (⟨"com/example/tradewheel/tradewheel/PartQueue", "remove", "()I"⟩ : MethodName)) (z := (⟨"com/example/tradewheel/tradewheel/PartQueue", "remove", "()I"⟩ : MethodName)) hown (mvT hZ (hw _ (List.mem_of_getElem? (i := 24) rfl))) (mvT hZ (hw _ (List.mem_of_getElem? (i := 25) rfl))) (notFace_of_selects (args := #[]) (mvT hZ (hw _ (List.mem_of_getElem? (i := 27) rfl)))) (mvT hZ (hw _ (List.mem_of_getElem? (i := 27) rfl))) (mvT hZ (hw _ (List.mem_of_getElem? (i := 26) rfl))) (by decide) (backOf (W := 0) (rm5s1 l Z a0 hw [] ob5  b6 _ u23_0 T23.heap n0 (Z23) iE23 iF23 iG23 iA23 ne_ob5_b6 g_ob5 g_b6 hu23_0) hZ (hw _ (List.mem_of_getElem? (i := 28) rfl)) (hw _ (List.mem_of_getElem? (i := 7) rfl)) (by decide) (by decide)) q29a q29c (g := (mkF m 383 #[.val (.int p0), .val (.int p1), .val (.int p2), .val (.int p3), .val (.int p4), .val (.int nd0), .val (.int nd1), .val (.int nd2), .val (.int nd3), .val (.int pt0), .val (.int pt1), .val (.int pt2), .val (.int pt3), .val (.int (rankF nd0 nd1 nd2 nd3)), .val (.int (rankF nd1 nd0 nd2 nd3)), .val (.int (rankF nd2 nd0 nd1 nd3)), .val (.int (rankF nd3 nd0 nd1 nd2)), .val (.ref ob5), .val (.int (hiI u10_0)), .val (.int (0 : Int32)), .val (.int (u11_0.toInt32)), .val (.int (hiI u11_0)), .val (.int (u17_0.toInt32)), .val (.int (hiI u17_0)), .unset] [(.ref ob5)])) rfl (by rw [hml]; rfl) (Steps.refl _) (argsL := []) (rest := []) (lenOf pd0_3 rfl) rfl (by show 2 * 0 + _ ≤ _; exact Nat.le_of_eq rfl) (hb hby at_383) (fun _ _ => ⟨rfl, eq24, (by decide : 2 + 0 ≤ _), (by decide : 6 + 0 ≤ _)⟩)
            dsimp only [Pt.U, Pt.locs, Pt.cells, Pt.slots] at X29 l29 y29 z29 st29 hQ29
            obtain rfl : k29 = 2 := y29
            obtain rfl : n29 = 6 := z29
            obtain ⟨rfl, N29q, K29, iE29, iF29, iG29, fq29, iA29, rel29⟩ := hQ29
            have N29 : Fr n0 L29 := by rw [l29]; exact Fr.app N24 N29q
            clear l29
            have f29_Exa_0 : Exa Z T29.heap ob5 "com/example/tradewheel/tradewheel/PartQueue" := iE23.keep K29
            have Z29 : n0 ≤ T29.heap.size := Nat.le_trans (Z23) K29.1
            refine Runs.trans st29 ?_
            show Runs _ _ _ _ T29 (mkF m 386 #[.val (.int p0), .val (.int p1), .val (.int p2), .val (.int p3), .val (.int p4), .val (.int nd0), .val (.int nd1), .val (.int nd2), .val (.int nd3), .val (.int pt0), .val (.int pt1), .val (.int pt2), .val (.int pt3), .val (.int (rankF nd0 nd1 nd2 nd3)), .val (.int (rankF nd1 nd0 nd2 nd3)), .val (.int (rankF nd2 nd0 nd1 nd3)), .val (.int (rankF nd3 nd0 nd1 nd2)), .val (.ref ob5), .val (.int (hiI u10_0)), .val (.int (0 : Int32)), .val (.int (u11_0.toInt32)), .val (.int (hiI u11_0)), .val (.int (u17_0.toInt32)), .val (.int (hiI u17_0)), .unset] [(.int (hiI u23_0))])
            refine Runs.back (fun t_ k_ => XS.istore X29.here hx rfl (hb hby at_386) rfl (l' := #[.val (.int p0), .val (.int p1), .val (.int p2), .val (.int p3), .val (.int p4), .val (.int nd0), .val (.int nd1), .val (.int nd2), .val (.int nd3), .val (.int pt0), .val (.int pt1), .val (.int pt2), .val (.int pt3), .val (.int (rankF nd0 nd1 nd2 nd3)), .val (.int (rankF nd1 nd0 nd2 nd3)), .val (.int (rankF nd2 nd0 nd1 nd3)), .val (.int (rankF nd3 nd0 nd1 nd2)), .val (.ref ob5), .val (.int (hiI u10_0)), .val (.int (0 : Int32)), .val (.int (u11_0.toInt32)), .val (.int (hiI u11_0)), .val (.int (u17_0.toInt32)), .val (.int (hiI u17_0)), .val (.int (hiI u23_0))]) rfl k_) ?_
            show Runs _ _ _ _ T29 (mkF m 388 #[.val (.int p0), .val (.int p1), .val (.int p2), .val (.int p3), .val (.int p4), .val (.int nd0), .val (.int nd1), .val (.int nd2), .val (.int nd3), .val (.int pt0), .val (.int pt1), .val (.int pt2), .val (.int pt3), .val (.int (rankF nd0 nd1 nd2 nd3)), .val (.int (rankF nd1 nd0 nd2 nd3)), .val (.int (rankF nd2 nd0 nd1 nd3)), .val (.int (rankF nd3 nd0 nd1 nd2)), .val (.ref ob5), .val (.int (hiI u10_0)), .val (.int (0 : Int32)), .val (.int (u11_0.toInt32)), .val (.int (hiI u11_0)), .val (.int (u17_0.toInt32)), .val (.int (hiI u17_0)), .val (.int (hiI u23_0))] [])
            refine Runs.back (fun t_ k_ => XS.iload X29.here hx rfl (hb hby at_388) rfl k_) ?_
            show Runs _ _ _ _ T29 (mkF m 390 #[.val (.int p0), .val (.int p1), .val (.int p2), .val (.int p3), .val (.int p4), .val (.int nd0), .val (.int nd1), .val (.int nd2), .val (.int nd3), .val (.int pt0), .val (.int pt1), .val (.int pt2), .val (.int pt3), .val (.int (rankF nd0 nd1 nd2 nd3)), .val (.int (rankF nd1 nd0 nd2 nd3)), .val (.int (rankF nd2 nd0 nd1 nd3)), .val (.int (rankF nd3 nd0 nd1 nd2)), .val (.ref ob5), .val (.int (hiI u10_0)), .val (.int (0 : Int32)), .val (.int (u11_0.toInt32)), .val (.int (hiI u11_0)), .val (.int (u17_0.toInt32)), .val (.int (hiI u17_0)), .val (.int (hiI u23_0))] [(.int (0 : Int32))])
            refine Runs.back (fun t_ k_ => XS.ifYes X29.here hx rfl (pc0 := 390) (pc' := 422) rfl (hb hby at_390) rfl ((if0 _ _).trans (teq (show (0 : Int32) = (0 : Int32) from rfl)).1) (by decide) (by decide) k_) ?_
            show Runs _ _ _ _ T29 (mkF m 422 #[.val (.int p0), .val (.int p1), .val (.int p2), .val (.int p3), .val (.int p4), .val (.int nd0), .val (.int nd1), .val (.int nd2), .val (.int nd3), .val (.int pt0), .val (.int pt1), .val (.int pt2), .val (.int pt3), .val (.int (rankF nd0 nd1 nd2 nd3)), .val (.int (rankF nd1 nd0 nd2 nd3)), .val (.int (rankF nd2 nd0 nd1 nd3)), .val (.int (rankF nd3 nd0 nd1 nd2)), .val (.ref ob5), .val (.int (hiI u10_0)), .val (.int (0 : Int32)), .val (.int (u11_0.toInt32)), .val (.int (hiI u11_0)), .val (.int (u17_0.toInt32)), .val (.int (hiI u17_0)), .val (.int (hiI u23_0))] [])
            refine Runs.back (fun t_ k_ => XS.iconst X29.here hx rfl (hb hby at_422) k_) ?_
            show Runs _ _ _ _ T29 (mkF m 423 #[.val (.int p0), .val (.int p1), .val (.int p2), .val (.int p3), .val (.int p4), .val (.int nd0), .val (.int nd1), .val (.int nd2), .val (.int nd3), .val (.int pt0), .val (.int pt1), .val (.int pt2), .val (.int pt3), .val (.int (rankF nd0 nd1 nd2 nd3)), .val (.int (rankF nd1 nd0 nd2 nd3)), .val (.int (rankF nd2 nd0 nd1 nd3)), .val (.int (rankF nd3 nd0 nd1 nd2)), .val (.ref ob5), .val (.int (hiI u10_0)), .val (.int (0 : Int32)), .val (.int (u11_0.toInt32)), .val (.int (hiI u11_0)), .val (.int (u17_0.toInt32)), .val (.int (hiI u17_0)), .val (.int (hiI u23_0))] [(.int (0 : Int32))])
            refine Runs.back (fun t_ k_ => XS.istore X29.here hx rfl (hb hby at_423) rfl (l' := #[.val (.int p0), .val (.int p1), .val (.int p2), .val (.int p3), .val (.int p4), .val (.int nd0), .val (.int nd1), .val (.int nd2), .val (.int nd3), .val (.int pt0), .val (.int pt1), .val (.int pt2), .val (.int pt3), .val (.int (rankF nd0 nd1 nd2 nd3)), .val (.int (rankF nd1 nd0 nd2 nd3)), .val (.int (rankF nd2 nd0 nd1 nd3)), .val (.int (rankF nd3 nd0 nd1 nd2)), .val (.ref ob5), .val (.int (hiI u10_0)), .val (.int (0 : Int32)), .val (.int (u11_0.toInt32)), .val (.int (hiI u11_0)), .val (.int (u17_0.toInt32)), .val (.int (hiI u17_0)), .val (.int (hiI u23_0))]) rfl k_) ?_
            show Runs _ _ _ _ T29 (mkF m 425 #[.val (.int p0), .val (.int p1), .val (.int p2), .val (.int p3), .val (.int p4), .val (.int nd0), .val (.int nd1), .val (.int nd2), .val (.int nd3), .val (.int pt0), .val (.int pt1), .val (.int pt2), .val (.int pt3), .val (.int (rankF nd0 nd1 nd2 nd3)), .val (.int (rankF nd1 nd0 nd2 nd3)), .val (.int (rankF nd2 nd0 nd1 nd3)), .val (.int (rankF nd3 nd0 nd1 nd2)), .val (.ref ob5), .val (.int (hiI u10_0)), .val (.int (0 : Int32)), .val (.int (u11_0.toInt32)), .val (.int (hiI u11_0)), .val (.int (u17_0.toInt32)), .val (.int (hiI u17_0)), .val (.int (hiI u23_0))] [])
            refine Runs.back (fun t_ k_ => XS.iload X29.here hx rfl (hb hby at_425) rfl k_) ?_
            show Runs _ _ _ _ T29 (mkF m 427 #[.val (.int p0), .val (.int p1), .val (.int p2), .val (.int p3), .val (.int p4), .val (.int nd0), .val (.int nd1), .val (.int nd2), .val (.int nd3), .val (.int pt0), .val (.int pt1), .val (.int pt2), .val (.int pt3), .val (.int (rankF nd0 nd1 nd2 nd3)), .val (.int (rankF nd1 nd0 nd2 nd3)), .val (.int (rankF nd2 nd0 nd1 nd3)), .val (.int (rankF nd3 nd0 nd1 nd2)), .val (.ref ob5), .val (.int (hiI u10_0)), .val (.int (0 : Int32)), .val (.int (u11_0.toInt32)), .val (.int (hiI u11_0)), .val (.int (u17_0.toInt32)), .val (.int (hiI u17_0)), .val (.int (hiI u23_0))] [(.int (0 : Int32))])
            obtain ⟨fs, hr, hrun, hended, hW, hsame⟩ := X29.leave (v := some (.int (0 : Int32))) (fun h => by rw [Bd.returns] at h; cases h)
            have WH := whole F4 rel7 rel8 rel9 rel10 rel11 rel17 rel23 rfl
            exact ⟨_, _, (retN X29 hx (t := .boolean) Bd.returns (by simp) (hb hby at_427) hr), hrun, hended, _, _, rfl, ⟨(c371_25 (WH.2.2.1.1)).elim, N29⟩, ⟨_, rfl⟩, hW, hsame.mono (by decide) (by decide)⟩
        · refine Runs.back (fun t_ k_ => XS.icmpYes X21.here hx rfl (pc0 := 327) (pc' := 334) rfl (hb hby at_327) rfl (feq c327_22).2 (by decide) (by decide) k_) ?_
          show Runs _ _ _ _ T21 (mkF m 334 #[.val (.int p0), .val (.int p1), .val (.int p2), .val (.int p3), .val (.int p4), .val (.int nd0), .val (.int nd1), .val (.int nd2), .val (.int nd3), .val (.int pt0), .val (.int pt1), .val (.int pt2), .val (.int pt3), .val (.int (rankF nd0 nd1 nd2 nd3)), .val (.int (rankF nd1 nd0 nd2 nd3)), .val (.int (rankF nd2 nd0 nd1 nd3)), .val (.int (rankF nd3 nd0 nd1 nd2)), .val (.ref ob5), .val (.int (hiI u10_0)), .val (.int (1 : Int32)), .val (.int (u11_0.toInt32)), .val (.int (hiI u11_0)), .val (.int (u17_0.toInt32)), .unset, .unset] [])
          refine Runs.back (fun t_ k_ => XS.iconst X21.here hx rfl (hb hby at_334) k_) ?_
          show Runs _ _ _ _ T21 (mkF m 335 #[.val (.int p0), .val (.int p1), .val (.int p2), .val (.int p3), .val (.int p4), .val (.int nd0), .val (.int nd1), .val (.int nd2), .val (.int nd3), .val (.int pt0), .val (.int pt1), .val (.int pt2), .val (.int pt3), .val (.int (rankF nd0 nd1 nd2 nd3)), .val (.int (rankF nd1 nd0 nd2 nd3)), .val (.int (rankF nd2 nd0 nd1 nd3)), .val (.int (rankF nd3 nd0 nd1 nd2)), .val (.ref ob5), .val (.int (hiI u10_0)), .val (.int (1 : Int32)), .val (.int (u11_0.toInt32)), .val (.int (hiI u11_0)), .val (.int (u17_0.toInt32)), .unset, .unset] [(.int (0 : Int32))])
          refine Runs.back (fun t_ k_ => XS.istore X21.here hx rfl (hb hby at_335) rfl (l' := #[.val (.int p0), .val (.int p1), .val (.int p2), .val (.int p3), .val (.int p4), .val (.int nd0), .val (.int nd1), .val (.int nd2), .val (.int nd3), .val (.int pt0), .val (.int pt1), .val (.int pt2), .val (.int pt3), .val (.int (rankF nd0 nd1 nd2 nd3)), .val (.int (rankF nd1 nd0 nd2 nd3)), .val (.int (rankF nd2 nd0 nd1 nd3)), .val (.int (rankF nd3 nd0 nd1 nd2)), .val (.ref ob5), .val (.int (hiI u10_0)), .val (.int (0 : Int32)), .val (.int (u11_0.toInt32)), .val (.int (hiI u11_0)), .val (.int (u17_0.toInt32)), .unset, .unset]) rfl k_) ?_
          show Runs _ _ _ _ T21 (mkF m 337 #[.val (.int p0), .val (.int p1), .val (.int p2), .val (.int p3), .val (.int p4), .val (.int nd0), .val (.int nd1), .val (.int nd2), .val (.int nd3), .val (.int pt0), .val (.int pt1), .val (.int pt2), .val (.int pt3), .val (.int (rankF nd0 nd1 nd2 nd3)), .val (.int (rankF nd1 nd0 nd2 nd3)), .val (.int (rankF nd2 nd0 nd1 nd3)), .val (.int (rankF nd3 nd0 nd1 nd2)), .val (.ref ob5), .val (.int (hiI u10_0)), .val (.int (0 : Int32)), .val (.int (u11_0.toInt32)), .val (.int (hiI u11_0)), .val (.int (u17_0.toInt32)), .unset, .unset] [])
          refine Runs.back (fun t_ k_ => XS.aload X21.here hx rfl (hb hby at_337) rfl rfl k_) ?_
          show Runs _ _ _ _ T21 (mkF m 339 #[.val (.int p0), .val (.int p1), .val (.int p2), .val (.int p3), .val (.int p4), .val (.int nd0), .val (.int nd1), .val (.int nd2), .val (.int nd3), .val (.int pt0), .val (.int pt1), .val (.int pt2), .val (.int pt3), .val (.int (rankF nd0 nd1 nd2 nd3)), .val (.int (rankF nd1 nd0 nd2 nd3)), .val (.int (rankF nd2 nd0 nd1 nd3)), .val (.int (rankF nd3 nd0 nd1 nd2)), .val (.ref ob5), .val (.int (hiI u10_0)), .val (.int (0 : Int32)), .val (.int (u11_0.toInt32)), .val (.int (hiI u11_0)), .val (.int (u17_0.toInt32)), .unset, .unset] [(.ref ob5)])
          obtain ⟨cq30, kq30, q30a, q30b, q30c⟩ := isOf hZ eq21 iE17
          obtain ⟨_, _, ⟨T30, L30, k30, n30⟩, -, X30, ⟨Lc30, hQ30, l30, y30, z30⟩, st30⟩ := X21.virtualBack hx (y := (⟨"com/example/tradewheel/tradewheel/PartQueue", "remove", "()I"⟩ : MethodName)) (z := (⟨"com/example/tradewheel/tradewheel/PartQueue", "remove", "()I"⟩ : MethodName)) hown (mvT hZ (hw _ (List.mem_of_getElem? (i := 24) rfl))) (mvT hZ (hw _ (List.mem_of_getElem? (i := 25) rfl))) (notFace_of_selects (args := #[]) (mvT hZ (hw _ (List.mem_of_getElem? (i := 27) rfl)))) (mvT hZ (hw _ (List.mem_of_getElem? (i := 27) rfl))) (mvT hZ (hw _ (List.mem_of_getElem? (i := 26) rfl))) (by decide) (backOf (W := 0) (rm5s2 l Z a0 hw [] ob5  b6 _ u17_0 u17_1 T17.heap n0 (Z17) iE17 iF17 iG17 iA17 ne_ob5_b6 g_ob5 g_b6 hu17_0 hu17_1) hZ (hw _ (List.mem_of_getElem? (i := 28) rfl)) (hw _ (List.mem_of_getElem? (i := 7) rfl)) (by decide) (by decide)) q30a q30c (g := (mkF m 339 #[.val (.int p0), .val (.int p1), .val (.int p2), .val (.int p3), .val (.int p4), .val (.int nd0), .val (.int nd1), .val (.int nd2), .val (.int nd3), .val (.int pt0), .val (.int pt1), .val (.int pt2), .val (.int pt3), .val (.int (rankF nd0 nd1 nd2 nd3)), .val (.int (rankF nd1 nd0 nd2 nd3)), .val (.int (rankF nd2 nd0 nd1 nd3)), .val (.int (rankF nd3 nd0 nd1 nd2)), .val (.ref ob5), .val (.int (hiI u10_0)), .val (.int (0 : Int32)), .val (.int (u11_0.toInt32)), .val (.int (hiI u11_0)), .val (.int (u17_0.toInt32)), .unset, .unset] [(.ref ob5)])) rfl (by rw [hml]; rfl) (Steps.refl _) (argsL := []) (rest := []) (lenOf pd0_3 rfl) rfl (by show 2 * 0 + _ ≤ _; exact Nat.le_of_eq rfl) (hb hby at_339) (fun _ _ => ⟨rfl, eq21, (by decide : 2 + 0 ≤ _), (by decide : 6 + 0 ≤ _)⟩)
          dsimp only [Pt.U, Pt.locs, Pt.cells, Pt.slots] at X30 l30 y30 z30 st30 hQ30
          obtain rfl : k30 = 2 := y30
          obtain rfl : n30 = 6 := z30
          obtain ⟨rfl, N30q, K30, iE30, iF30, iG30, fq30, u30_0, iA30, hu30_0, rel30⟩ := hQ30
          have N30 : Fr n0 L30 := by rw [l30]; exact Fr.app N21 N30q
          clear l30
          have f30_Exa_0 : Exa Z T30.heap ob5 "com/example/tradewheel/tradewheel/PartQueue" := iE17.keep K30
          have Z30 : n0 ≤ T30.heap.size := Nat.le_trans (Z17) K30.1
          refine Runs.trans st30 ?_
          show Runs _ _ _ _ T30 (mkF m 342 #[.val (.int p0), .val (.int p1), .val (.int p2), .val (.int p3), .val (.int p4), .val (.int nd0), .val (.int nd1), .val (.int nd2), .val (.int nd3), .val (.int pt0), .val (.int pt1), .val (.int pt2), .val (.int pt3), .val (.int (rankF nd0 nd1 nd2 nd3)), .val (.int (rankF nd1 nd0 nd2 nd3)), .val (.int (rankF nd2 nd0 nd1 nd3)), .val (.int (rankF nd3 nd0 nd1 nd2)), .val (.ref ob5), .val (.int (hiI u10_0)), .val (.int (0 : Int32)), .val (.int (u11_0.toInt32)), .val (.int (hiI u11_0)), .val (.int (u17_0.toInt32)), .unset, .unset] [(.int (hiI u17_0))])
          refine Runs.back (fun t_ k_ => XS.istore X30.here hx rfl (hb hby at_342) rfl (l' := #[.val (.int p0), .val (.int p1), .val (.int p2), .val (.int p3), .val (.int p4), .val (.int nd0), .val (.int nd1), .val (.int nd2), .val (.int nd3), .val (.int pt0), .val (.int pt1), .val (.int pt2), .val (.int pt3), .val (.int (rankF nd0 nd1 nd2 nd3)), .val (.int (rankF nd1 nd0 nd2 nd3)), .val (.int (rankF nd2 nd0 nd1 nd3)), .val (.int (rankF nd3 nd0 nd1 nd2)), .val (.ref ob5), .val (.int (hiI u10_0)), .val (.int (0 : Int32)), .val (.int (u11_0.toInt32)), .val (.int (hiI u11_0)), .val (.int (u17_0.toInt32)), .val (.int (hiI u17_0)), .unset]) rfl k_) ?_
          show Runs _ _ _ _ T30 (mkF m 344 #[.val (.int p0), .val (.int p1), .val (.int p2), .val (.int p3), .val (.int p4), .val (.int nd0), .val (.int nd1), .val (.int nd2), .val (.int nd3), .val (.int pt0), .val (.int pt1), .val (.int pt2), .val (.int pt3), .val (.int (rankF nd0 nd1 nd2 nd3)), .val (.int (rankF nd1 nd0 nd2 nd3)), .val (.int (rankF nd2 nd0 nd1 nd3)), .val (.int (rankF nd3 nd0 nd1 nd2)), .val (.ref ob5), .val (.int (hiI u10_0)), .val (.int (0 : Int32)), .val (.int (u11_0.toInt32)), .val (.int (hiI u11_0)), .val (.int (u17_0.toInt32)), .val (.int (hiI u17_0)), .unset] [])
          refine Runs.back (fun t_ k_ => XS.iload X30.here hx rfl (hb hby at_344) rfl k_) ?_
          show Runs _ _ _ _ T30 (mkF m 346 #[.val (.int p0), .val (.int p1), .val (.int p2), .val (.int p3), .val (.int p4), .val (.int nd0), .val (.int nd1), .val (.int nd2), .val (.int nd3), .val (.int pt0), .val (.int pt1), .val (.int pt2), .val (.int pt3), .val (.int (rankF nd0 nd1 nd2 nd3)), .val (.int (rankF nd1 nd0 nd2 nd3)), .val (.int (rankF nd2 nd0 nd1 nd3)), .val (.int (rankF nd3 nd0 nd1 nd2)), .val (.ref ob5), .val (.int (hiI u10_0)), .val (.int (0 : Int32)), .val (.int (u11_0.toInt32)), .val (.int (hiI u11_0)), .val (.int (u17_0.toInt32)), .val (.int (hiI u17_0)), .unset] [(.int (0 : Int32))])
          refine Runs.back (fun t_ k_ => XS.ifYes X30.here hx rfl (pc0 := 346) (pc' := 378) rfl (hb hby at_346) rfl ((if0 _ _).trans (teq (show (0 : Int32) = (0 : Int32) from rfl)).1) (by decide) (by decide) k_) ?_
          show Runs _ _ _ _ T30 (mkF m 378 #[.val (.int p0), .val (.int p1), .val (.int p2), .val (.int p3), .val (.int p4), .val (.int nd0), .val (.int nd1), .val (.int nd2), .val (.int nd3), .val (.int pt0), .val (.int pt1), .val (.int pt2), .val (.int pt3), .val (.int (rankF nd0 nd1 nd2 nd3)), .val (.int (rankF nd1 nd0 nd2 nd3)), .val (.int (rankF nd2 nd0 nd1 nd3)), .val (.int (rankF nd3 nd0 nd1 nd2)), .val (.ref ob5), .val (.int (hiI u10_0)), .val (.int (0 : Int32)), .val (.int (u11_0.toInt32)), .val (.int (hiI u11_0)), .val (.int (u17_0.toInt32)), .val (.int (hiI u17_0)), .unset] [])
          refine Runs.back (fun t_ k_ => XS.iconst X30.here hx rfl (hb hby at_378) k_) ?_
          show Runs _ _ _ _ T30 (mkF m 379 #[.val (.int p0), .val (.int p1), .val (.int p2), .val (.int p3), .val (.int p4), .val (.int nd0), .val (.int nd1), .val (.int nd2), .val (.int nd3), .val (.int pt0), .val (.int pt1), .val (.int pt2), .val (.int pt3), .val (.int (rankF nd0 nd1 nd2 nd3)), .val (.int (rankF nd1 nd0 nd2 nd3)), .val (.int (rankF nd2 nd0 nd1 nd3)), .val (.int (rankF nd3 nd0 nd1 nd2)), .val (.ref ob5), .val (.int (hiI u10_0)), .val (.int (0 : Int32)), .val (.int (u11_0.toInt32)), .val (.int (hiI u11_0)), .val (.int (u17_0.toInt32)), .val (.int (hiI u17_0)), .unset] [(.int (0 : Int32))])
          refine Runs.back (fun t_ k_ => XS.istore X30.here hx rfl (hb hby at_379) rfl (l' := #[.val (.int p0), .val (.int p1), .val (.int p2), .val (.int p3), .val (.int p4), .val (.int nd0), .val (.int nd1), .val (.int nd2), .val (.int nd3), .val (.int pt0), .val (.int pt1), .val (.int pt2), .val (.int pt3), .val (.int (rankF nd0 nd1 nd2 nd3)), .val (.int (rankF nd1 nd0 nd2 nd3)), .val (.int (rankF nd2 nd0 nd1 nd3)), .val (.int (rankF nd3 nd0 nd1 nd2)), .val (.ref ob5), .val (.int (hiI u10_0)), .val (.int (0 : Int32)), .val (.int (u11_0.toInt32)), .val (.int (hiI u11_0)), .val (.int (u17_0.toInt32)), .val (.int (hiI u17_0)), .unset]) rfl k_) ?_
          show Runs _ _ _ _ T30 (mkF m 381 #[.val (.int p0), .val (.int p1), .val (.int p2), .val (.int p3), .val (.int p4), .val (.int nd0), .val (.int nd1), .val (.int nd2), .val (.int nd3), .val (.int pt0), .val (.int pt1), .val (.int pt2), .val (.int pt3), .val (.int (rankF nd0 nd1 nd2 nd3)), .val (.int (rankF nd1 nd0 nd2 nd3)), .val (.int (rankF nd2 nd0 nd1 nd3)), .val (.int (rankF nd3 nd0 nd1 nd2)), .val (.ref ob5), .val (.int (hiI u10_0)), .val (.int (0 : Int32)), .val (.int (u11_0.toInt32)), .val (.int (hiI u11_0)), .val (.int (u17_0.toInt32)), .val (.int (hiI u17_0)), .unset] [])
          refine Runs.back (fun t_ k_ => XS.aload X30.here hx rfl (hb hby at_381) rfl rfl k_) ?_
          show Runs _ _ _ _ T30 (mkF m 383 #[.val (.int p0), .val (.int p1), .val (.int p2), .val (.int p3), .val (.int p4), .val (.int nd0), .val (.int nd1), .val (.int nd2), .val (.int nd3), .val (.int pt0), .val (.int pt1), .val (.int pt2), .val (.int pt3), .val (.int (rankF nd0 nd1 nd2 nd3)), .val (.int (rankF nd1 nd0 nd2 nd3)), .val (.int (rankF nd2 nd0 nd1 nd3)), .val (.int (rankF nd3 nd0 nd1 nd2)), .val (.ref ob5), .val (.int (hiI u10_0)), .val (.int (0 : Int32)), .val (.int (u11_0.toInt32)), .val (.int (hiI u11_0)), .val (.int (u17_0.toInt32)), .val (.int (hiI u17_0)), .unset] [(.ref ob5)])
          obtain ⟨cq31, kq31, q31a, q31b, q31c⟩ := isOf hZ rfl iE30
          obtain ⟨_, _, ⟨T31, L31, k31, n31⟩, -, X31, ⟨Lc31, hQ31, l31, y31, z31⟩, st31⟩ := X30.virtualBack hx (y := (⟨"com/example/tradewheel/tradewheel/PartQueue", "remove", "()I"⟩ : MethodName)) (z := (⟨"com/example/tradewheel/tradewheel/PartQueue", "remove", "()I"⟩ : MethodName)) hown (mvT hZ (hw _ (List.mem_of_getElem? (i := 24) rfl))) (mvT hZ (hw _ (List.mem_of_getElem? (i := 25) rfl))) (notFace_of_selects (args := #[]) (mvT hZ (hw _ (List.mem_of_getElem? (i := 27) rfl)))) (mvT hZ (hw _ (List.mem_of_getElem? (i := 27) rfl))) (mvT hZ (hw _ (List.mem_of_getElem? (i := 26) rfl))) (by decide) (backOf (W := 0) (rm5s1 l Z a0 hw [] ob5  b6 _ u30_0 T30.heap n0 (Z30) iE30 iF30 iG30 iA30 ne_ob5_b6 g_ob5 g_b6 hu30_0) hZ (hw _ (List.mem_of_getElem? (i := 28) rfl)) (hw _ (List.mem_of_getElem? (i := 7) rfl)) (by decide) (by decide)) q31a q31c (g := (mkF m 383 #[.val (.int p0), .val (.int p1), .val (.int p2), .val (.int p3), .val (.int p4), .val (.int nd0), .val (.int nd1), .val (.int nd2), .val (.int nd3), .val (.int pt0), .val (.int pt1), .val (.int pt2), .val (.int pt3), .val (.int (rankF nd0 nd1 nd2 nd3)), .val (.int (rankF nd1 nd0 nd2 nd3)), .val (.int (rankF nd2 nd0 nd1 nd3)), .val (.int (rankF nd3 nd0 nd1 nd2)), .val (.ref ob5), .val (.int (hiI u10_0)), .val (.int (0 : Int32)), .val (.int (u11_0.toInt32)), .val (.int (hiI u11_0)), .val (.int (u17_0.toInt32)), .val (.int (hiI u17_0)), .unset] [(.ref ob5)])) rfl (by rw [hml]; rfl) (Steps.refl _) (argsL := []) (rest := []) (lenOf pd0_3 rfl) rfl (by show 2 * 0 + _ ≤ _; exact Nat.le_of_eq rfl) (hb hby at_383) (fun _ _ => ⟨rfl, rfl, (by decide : 2 + 0 ≤ _), (by decide : 6 + 0 ≤ _)⟩)
          dsimp only [Pt.U, Pt.locs, Pt.cells, Pt.slots] at X31 l31 y31 z31 st31 hQ31
          obtain rfl : k31 = 2 := y31
          obtain rfl : n31 = 6 := z31
          obtain ⟨rfl, N31q, K31, iE31, iF31, iG31, fq31, iA31, rel31⟩ := hQ31
          have N31 : Fr n0 L31 := by rw [l31]; exact Fr.app N30 N31q
          clear l31
          have f31_Exa_0 : Exa Z T31.heap ob5 "com/example/tradewheel/tradewheel/PartQueue" := iE30.keep K31
          have Z31 : n0 ≤ T31.heap.size := Nat.le_trans (Z30) K31.1
          refine Runs.trans st31 ?_
          show Runs _ _ _ _ T31 (mkF m 386 #[.val (.int p0), .val (.int p1), .val (.int p2), .val (.int p3), .val (.int p4), .val (.int nd0), .val (.int nd1), .val (.int nd2), .val (.int nd3), .val (.int pt0), .val (.int pt1), .val (.int pt2), .val (.int pt3), .val (.int (rankF nd0 nd1 nd2 nd3)), .val (.int (rankF nd1 nd0 nd2 nd3)), .val (.int (rankF nd2 nd0 nd1 nd3)), .val (.int (rankF nd3 nd0 nd1 nd2)), .val (.ref ob5), .val (.int (hiI u10_0)), .val (.int (0 : Int32)), .val (.int (u11_0.toInt32)), .val (.int (hiI u11_0)), .val (.int (u17_0.toInt32)), .val (.int (hiI u17_0)), .unset] [(.int (hiI u30_0))])
          refine Runs.back (fun t_ k_ => XS.istore X31.here hx rfl (hb hby at_386) rfl (l' := #[.val (.int p0), .val (.int p1), .val (.int p2), .val (.int p3), .val (.int p4), .val (.int nd0), .val (.int nd1), .val (.int nd2), .val (.int nd3), .val (.int pt0), .val (.int pt1), .val (.int pt2), .val (.int pt3), .val (.int (rankF nd0 nd1 nd2 nd3)), .val (.int (rankF nd1 nd0 nd2 nd3)), .val (.int (rankF nd2 nd0 nd1 nd3)), .val (.int (rankF nd3 nd0 nd1 nd2)), .val (.ref ob5), .val (.int (hiI u10_0)), .val (.int (0 : Int32)), .val (.int (u11_0.toInt32)), .val (.int (hiI u11_0)), .val (.int (u17_0.toInt32)), .val (.int (hiI u17_0)), .val (.int (hiI u30_0))]) rfl k_) ?_
          show Runs _ _ _ _ T31 (mkF m 388 #[.val (.int p0), .val (.int p1), .val (.int p2), .val (.int p3), .val (.int p4), .val (.int nd0), .val (.int nd1), .val (.int nd2), .val (.int nd3), .val (.int pt0), .val (.int pt1), .val (.int pt2), .val (.int pt3), .val (.int (rankF nd0 nd1 nd2 nd3)), .val (.int (rankF nd1 nd0 nd2 nd3)), .val (.int (rankF nd2 nd0 nd1 nd3)), .val (.int (rankF nd3 nd0 nd1 nd2)), .val (.ref ob5), .val (.int (hiI u10_0)), .val (.int (0 : Int32)), .val (.int (u11_0.toInt32)), .val (.int (hiI u11_0)), .val (.int (u17_0.toInt32)), .val (.int (hiI u17_0)), .val (.int (hiI u30_0))] [])
          refine Runs.back (fun t_ k_ => XS.iload X31.here hx rfl (hb hby at_388) rfl k_) ?_
          show Runs _ _ _ _ T31 (mkF m 390 #[.val (.int p0), .val (.int p1), .val (.int p2), .val (.int p3), .val (.int p4), .val (.int nd0), .val (.int nd1), .val (.int nd2), .val (.int nd3), .val (.int pt0), .val (.int pt1), .val (.int pt2), .val (.int pt3), .val (.int (rankF nd0 nd1 nd2 nd3)), .val (.int (rankF nd1 nd0 nd2 nd3)), .val (.int (rankF nd2 nd0 nd1 nd3)), .val (.int (rankF nd3 nd0 nd1 nd2)), .val (.ref ob5), .val (.int (hiI u10_0)), .val (.int (0 : Int32)), .val (.int (u11_0.toInt32)), .val (.int (hiI u11_0)), .val (.int (u17_0.toInt32)), .val (.int (hiI u17_0)), .val (.int (hiI u30_0))] [(.int (0 : Int32))])
          refine Runs.back (fun t_ k_ => XS.ifYes X31.here hx rfl (pc0 := 390) (pc' := 422) rfl (hb hby at_390) rfl ((if0 _ _).trans (teq (show (0 : Int32) = (0 : Int32) from rfl)).1) (by decide) (by decide) k_) ?_
          show Runs _ _ _ _ T31 (mkF m 422 #[.val (.int p0), .val (.int p1), .val (.int p2), .val (.int p3), .val (.int p4), .val (.int nd0), .val (.int nd1), .val (.int nd2), .val (.int nd3), .val (.int pt0), .val (.int pt1), .val (.int pt2), .val (.int pt3), .val (.int (rankF nd0 nd1 nd2 nd3)), .val (.int (rankF nd1 nd0 nd2 nd3)), .val (.int (rankF nd2 nd0 nd1 nd3)), .val (.int (rankF nd3 nd0 nd1 nd2)), .val (.ref ob5), .val (.int (hiI u10_0)), .val (.int (0 : Int32)), .val (.int (u11_0.toInt32)), .val (.int (hiI u11_0)), .val (.int (u17_0.toInt32)), .val (.int (hiI u17_0)), .val (.int (hiI u30_0))] [])
          refine Runs.back (fun t_ k_ => XS.iconst X31.here hx rfl (hb hby at_422) k_) ?_
          show Runs _ _ _ _ T31 (mkF m 423 #[.val (.int p0), .val (.int p1), .val (.int p2), .val (.int p3), .val (.int p4), .val (.int nd0), .val (.int nd1), .val (.int nd2), .val (.int nd3), .val (.int pt0), .val (.int pt1), .val (.int pt2), .val (.int pt3), .val (.int (rankF nd0 nd1 nd2 nd3)), .val (.int (rankF nd1 nd0 nd2 nd3)), .val (.int (rankF nd2 nd0 nd1 nd3)), .val (.int (rankF nd3 nd0 nd1 nd2)), .val (.ref ob5), .val (.int (hiI u10_0)), .val (.int (0 : Int32)), .val (.int (u11_0.toInt32)), .val (.int (hiI u11_0)), .val (.int (u17_0.toInt32)), .val (.int (hiI u17_0)), .val (.int (hiI u30_0))] [(.int (0 : Int32))])
          refine Runs.back (fun t_ k_ => XS.istore X31.here hx rfl (hb hby at_423) rfl (l' := #[.val (.int p0), .val (.int p1), .val (.int p2), .val (.int p3), .val (.int p4), .val (.int nd0), .val (.int nd1), .val (.int nd2), .val (.int nd3), .val (.int pt0), .val (.int pt1), .val (.int pt2), .val (.int pt3), .val (.int (rankF nd0 nd1 nd2 nd3)), .val (.int (rankF nd1 nd0 nd2 nd3)), .val (.int (rankF nd2 nd0 nd1 nd3)), .val (.int (rankF nd3 nd0 nd1 nd2)), .val (.ref ob5), .val (.int (hiI u10_0)), .val (.int (0 : Int32)), .val (.int (u11_0.toInt32)), .val (.int (hiI u11_0)), .val (.int (u17_0.toInt32)), .val (.int (hiI u17_0)), .val (.int (hiI u30_0))]) rfl k_) ?_
          show Runs _ _ _ _ T31 (mkF m 425 #[.val (.int p0), .val (.int p1), .val (.int p2), .val (.int p3), .val (.int p4), .val (.int nd0), .val (.int nd1), .val (.int nd2), .val (.int nd3), .val (.int pt0), .val (.int pt1), .val (.int pt2), .val (.int pt3), .val (.int (rankF nd0 nd1 nd2 nd3)), .val (.int (rankF nd1 nd0 nd2 nd3)), .val (.int (rankF nd2 nd0 nd1 nd3)), .val (.int (rankF nd3 nd0 nd1 nd2)), .val (.ref ob5), .val (.int (hiI u10_0)), .val (.int (0 : Int32)), .val (.int (u11_0.toInt32)), .val (.int (hiI u11_0)), .val (.int (u17_0.toInt32)), .val (.int (hiI u17_0)), .val (.int (hiI u30_0))] [])
          refine Runs.back (fun t_ k_ => XS.iload X31.here hx rfl (hb hby at_425) rfl k_) ?_
          show Runs _ _ _ _ T31 (mkF m 427 #[.val (.int p0), .val (.int p1), .val (.int p2), .val (.int p3), .val (.int p4), .val (.int nd0), .val (.int nd1), .val (.int nd2), .val (.int nd3), .val (.int pt0), .val (.int pt1), .val (.int pt2), .val (.int pt3), .val (.int (rankF nd0 nd1 nd2 nd3)), .val (.int (rankF nd1 nd0 nd2 nd3)), .val (.int (rankF nd2 nd0 nd1 nd3)), .val (.int (rankF nd3 nd0 nd1 nd2)), .val (.ref ob5), .val (.int (hiI u10_0)), .val (.int (0 : Int32)), .val (.int (u11_0.toInt32)), .val (.int (hiI u11_0)), .val (.int (u17_0.toInt32)), .val (.int (hiI u17_0)), .val (.int (hiI u30_0))] [(.int (0 : Int32))])
          obtain ⟨fs, hr, hrun, hended, hW, hsame⟩ := X31.leave (v := some (.int (0 : Int32))) (fun h => by rw [Bd.returns] at h; cases h)
          have WH := whole F4 rel7 rel8 rel9 rel10 rel11 rel17 rel30 rfl
          exact ⟨_, _, (retN X31 hx (t := .boolean) Bd.returns (by simp) (hb hby at_427) hr), hrun, hended, _, _, rfl, ⟨(c327_22 (WH.2.2.1.2)).elim, N31⟩, ⟨_, rfl⟩, hW, hsame.mono (by decide) (by decide)⟩
      · refine Runs.back (fun t_ k_ => XS.icmpYes X18.here hx rfl (pc0 := 283) (pc' := 290) rfl (hb hby at_283) rfl (feq c283_19).2 (by decide) (by decide) k_) ?_
        show Runs _ _ _ _ T18 (mkF m 290 #[.val (.int p0), .val (.int p1), .val (.int p2), .val (.int p3), .val (.int p4), .val (.int nd0), .val (.int nd1), .val (.int nd2), .val (.int nd3), .val (.int pt0), .val (.int pt1), .val (.int pt2), .val (.int pt3), .val (.int (rankF nd0 nd1 nd2 nd3)), .val (.int (rankF nd1 nd0 nd2 nd3)), .val (.int (rankF nd2 nd0 nd1 nd3)), .val (.int (rankF nd3 nd0 nd1 nd2)), .val (.ref ob5), .val (.int (hiI u10_0)), .val (.int (1 : Int32)), .val (.int (u11_0.toInt32)), .val (.int (hiI u11_0)), .unset, .unset, .unset] [])
        refine Runs.back (fun t_ k_ => XS.iconst X18.here hx rfl (hb hby at_290) k_) ?_
        show Runs _ _ _ _ T18 (mkF m 291 #[.val (.int p0), .val (.int p1), .val (.int p2), .val (.int p3), .val (.int p4), .val (.int nd0), .val (.int nd1), .val (.int nd2), .val (.int nd3), .val (.int pt0), .val (.int pt1), .val (.int pt2), .val (.int pt3), .val (.int (rankF nd0 nd1 nd2 nd3)), .val (.int (rankF nd1 nd0 nd2 nd3)), .val (.int (rankF nd2 nd0 nd1 nd3)), .val (.int (rankF nd3 nd0 nd1 nd2)), .val (.ref ob5), .val (.int (hiI u10_0)), .val (.int (1 : Int32)), .val (.int (u11_0.toInt32)), .val (.int (hiI u11_0)), .unset, .unset, .unset] [(.int (0 : Int32))])
        refine Runs.back (fun t_ k_ => XS.istore X18.here hx rfl (hb hby at_291) rfl (l' := #[.val (.int p0), .val (.int p1), .val (.int p2), .val (.int p3), .val (.int p4), .val (.int nd0), .val (.int nd1), .val (.int nd2), .val (.int nd3), .val (.int pt0), .val (.int pt1), .val (.int pt2), .val (.int pt3), .val (.int (rankF nd0 nd1 nd2 nd3)), .val (.int (rankF nd1 nd0 nd2 nd3)), .val (.int (rankF nd2 nd0 nd1 nd3)), .val (.int (rankF nd3 nd0 nd1 nd2)), .val (.ref ob5), .val (.int (hiI u10_0)), .val (.int (0 : Int32)), .val (.int (u11_0.toInt32)), .val (.int (hiI u11_0)), .unset, .unset, .unset]) rfl k_) ?_
        show Runs _ _ _ _ T18 (mkF m 293 #[.val (.int p0), .val (.int p1), .val (.int p2), .val (.int p3), .val (.int p4), .val (.int nd0), .val (.int nd1), .val (.int nd2), .val (.int nd3), .val (.int pt0), .val (.int pt1), .val (.int pt2), .val (.int pt3), .val (.int (rankF nd0 nd1 nd2 nd3)), .val (.int (rankF nd1 nd0 nd2 nd3)), .val (.int (rankF nd2 nd0 nd1 nd3)), .val (.int (rankF nd3 nd0 nd1 nd2)), .val (.ref ob5), .val (.int (hiI u10_0)), .val (.int (0 : Int32)), .val (.int (u11_0.toInt32)), .val (.int (hiI u11_0)), .unset, .unset, .unset] [])
        refine Runs.back (fun t_ k_ => XS.aload X18.here hx rfl (hb hby at_293) rfl rfl k_) ?_
        show Runs _ _ _ _ T18 (mkF m 295 #[.val (.int p0), .val (.int p1), .val (.int p2), .val (.int p3), .val (.int p4), .val (.int nd0), .val (.int nd1), .val (.int nd2), .val (.int nd3), .val (.int pt0), .val (.int pt1), .val (.int pt2), .val (.int pt3), .val (.int (rankF nd0 nd1 nd2 nd3)), .val (.int (rankF nd1 nd0 nd2 nd3)), .val (.int (rankF nd2 nd0 nd1 nd3)), .val (.int (rankF nd3 nd0 nd1 nd2)), .val (.ref ob5), .val (.int (hiI u10_0)), .val (.int (0 : Int32)), .val (.int (u11_0.toInt32)), .val (.int (hiI u11_0)), .unset, .unset, .unset] [(.ref ob5)])
        obtain ⟨cq32, kq32, q32a, q32b, q32c⟩ := isOf hZ eq18 iE17
        obtain ⟨_, _, ⟨T32, L32, k32, n32⟩, -, X32, ⟨Lc32, hQ32, l32, y32, z32⟩, st32⟩ := X18.virtualBack hx (y := (⟨"com/example/tradewheel/tradewheel/PartQueue", "part", "()I"⟩ : MethodName)) (z := (⟨"com/example/tradewheel/tradewheel/PartQueue", "part", "()I"⟩ : MethodName)) hown (mvT hZ (hw _ (List.mem_of_getElem? (i := 32) rfl))) (mvT hZ (hw _ (List.mem_of_getElem? (i := 33) rfl))) (notFace_of_selects (args := #[]) (mvT hZ (hw _ (List.mem_of_getElem? (i := 35) rfl)))) (mvT hZ (hw _ (List.mem_of_getElem? (i := 35) rfl))) (mvT hZ (hw _ (List.mem_of_getElem? (i := 34) rfl))) (by decide) (backOf (W := 0) (rm7 l Z a0 hw [] ob5 b6 _ u17_0 T17.heap n0 (Z17) iF17 iA17 hu17_0) hZ (hw _ (List.mem_of_getElem? (i := 36) rfl)) (hw _ (List.mem_of_getElem? (i := 7) rfl)) (by decide) (by decide)) q32a q32c (g := (mkF m 295 #[.val (.int p0), .val (.int p1), .val (.int p2), .val (.int p3), .val (.int p4), .val (.int nd0), .val (.int nd1), .val (.int nd2), .val (.int nd3), .val (.int pt0), .val (.int pt1), .val (.int pt2), .val (.int pt3), .val (.int (rankF nd0 nd1 nd2 nd3)), .val (.int (rankF nd1 nd0 nd2 nd3)), .val (.int (rankF nd2 nd0 nd1 nd3)), .val (.int (rankF nd3 nd0 nd1 nd2)), .val (.ref ob5), .val (.int (hiI u10_0)), .val (.int (0 : Int32)), .val (.int (u11_0.toInt32)), .val (.int (hiI u11_0)), .unset, .unset, .unset] [(.ref ob5)])) rfl (by rw [hml]; rfl) (Steps.refl _) (argsL := []) (rest := []) (lenOf pd0_3 rfl) rfl (by show 2 * 0 + _ ≤ _; exact Nat.le_of_eq rfl) (hb hby at_295) (fun _ _ => ⟨rfl, eq18, (by decide : 2 + 0 ≤ _), (by decide : 6 + 0 ≤ _)⟩)
        dsimp only [Pt.U, Pt.locs, Pt.cells, Pt.slots] at X32 l32 y32 z32 st32 hQ32
        obtain rfl : k32 = 2 := y32
        obtain rfl : n32 = 6 := z32
        obtain ⟨rfl, N32q, eq32⟩ := hQ32
        have N32 : Fr n0 L32 := by rw [l32]; exact Fr.app N18 N32q
        clear l32
        refine Runs.trans st32 ?_
        show Runs _ _ _ _ T32 (mkF m 298 #[.val (.int p0), .val (.int p1), .val (.int p2), .val (.int p3), .val (.int p4), .val (.int nd0), .val (.int nd1), .val (.int nd2), .val (.int nd3), .val (.int pt0), .val (.int pt1), .val (.int pt2), .val (.int pt3), .val (.int (rankF nd0 nd1 nd2 nd3)), .val (.int (rankF nd1 nd0 nd2 nd3)), .val (.int (rankF nd2 nd0 nd1 nd3)), .val (.int (rankF nd3 nd0 nd1 nd2)), .val (.ref ob5), .val (.int (hiI u10_0)), .val (.int (0 : Int32)), .val (.int (u11_0.toInt32)), .val (.int (hiI u11_0)), .unset, .unset, .unset] [(.int (u17_0.toInt32))])
        refine Runs.back (fun t_ k_ => XS.istore X32.here hx rfl (hb hby at_298) rfl (l' := #[.val (.int p0), .val (.int p1), .val (.int p2), .val (.int p3), .val (.int p4), .val (.int nd0), .val (.int nd1), .val (.int nd2), .val (.int nd3), .val (.int pt0), .val (.int pt1), .val (.int pt2), .val (.int pt3), .val (.int (rankF nd0 nd1 nd2 nd3)), .val (.int (rankF nd1 nd0 nd2 nd3)), .val (.int (rankF nd2 nd0 nd1 nd3)), .val (.int (rankF nd3 nd0 nd1 nd2)), .val (.ref ob5), .val (.int (hiI u10_0)), .val (.int (0 : Int32)), .val (.int (u11_0.toInt32)), .val (.int (hiI u11_0)), .val (.int (u17_0.toInt32)), .unset, .unset]) rfl k_) ?_
        show Runs _ _ _ _ T32 (mkF m 300 #[.val (.int p0), .val (.int p1), .val (.int p2), .val (.int p3), .val (.int p4), .val (.int nd0), .val (.int nd1), .val (.int nd2), .val (.int nd3), .val (.int pt0), .val (.int pt1), .val (.int pt2), .val (.int pt3), .val (.int (rankF nd0 nd1 nd2 nd3)), .val (.int (rankF nd1 nd0 nd2 nd3)), .val (.int (rankF nd2 nd0 nd1 nd3)), .val (.int (rankF nd3 nd0 nd1 nd2)), .val (.ref ob5), .val (.int (hiI u10_0)), .val (.int (0 : Int32)), .val (.int (u11_0.toInt32)), .val (.int (hiI u11_0)), .val (.int (u17_0.toInt32)), .unset, .unset] [])
        refine Runs.back (fun t_ k_ => XS.iload X32.here hx rfl (hb hby at_300) rfl k_) ?_
        show Runs _ _ _ _ T32 (mkF m 302 #[.val (.int p0), .val (.int p1), .val (.int p2), .val (.int p3), .val (.int p4), .val (.int nd0), .val (.int nd1), .val (.int nd2), .val (.int nd3), .val (.int pt0), .val (.int pt1), .val (.int pt2), .val (.int pt3), .val (.int (rankF nd0 nd1 nd2 nd3)), .val (.int (rankF nd1 nd0 nd2 nd3)), .val (.int (rankF nd2 nd0 nd1 nd3)), .val (.int (rankF nd3 nd0 nd1 nd2)), .val (.ref ob5), .val (.int (hiI u10_0)), .val (.int (0 : Int32)), .val (.int (u11_0.toInt32)), .val (.int (hiI u11_0)), .val (.int (u17_0.toInt32)), .unset, .unset] [(.int (0 : Int32))])
        refine Runs.back (fun t_ k_ => XS.ifYes X32.here hx rfl (pc0 := 302) (pc' := 334) rfl (hb hby at_302) rfl ((if0 _ _).trans (teq (show (0 : Int32) = (0 : Int32) from rfl)).1) (by decide) (by decide) k_) ?_
        show Runs _ _ _ _ T32 (mkF m 334 #[.val (.int p0), .val (.int p1), .val (.int p2), .val (.int p3), .val (.int p4), .val (.int nd0), .val (.int nd1), .val (.int nd2), .val (.int nd3), .val (.int pt0), .val (.int pt1), .val (.int pt2), .val (.int pt3), .val (.int (rankF nd0 nd1 nd2 nd3)), .val (.int (rankF nd1 nd0 nd2 nd3)), .val (.int (rankF nd2 nd0 nd1 nd3)), .val (.int (rankF nd3 nd0 nd1 nd2)), .val (.ref ob5), .val (.int (hiI u10_0)), .val (.int (0 : Int32)), .val (.int (u11_0.toInt32)), .val (.int (hiI u11_0)), .val (.int (u17_0.toInt32)), .unset, .unset] [])
        refine Runs.back (fun t_ k_ => XS.iconst X32.here hx rfl (hb hby at_334) k_) ?_
        show Runs _ _ _ _ T32 (mkF m 335 #[.val (.int p0), .val (.int p1), .val (.int p2), .val (.int p3), .val (.int p4), .val (.int nd0), .val (.int nd1), .val (.int nd2), .val (.int nd3), .val (.int pt0), .val (.int pt1), .val (.int pt2), .val (.int pt3), .val (.int (rankF nd0 nd1 nd2 nd3)), .val (.int (rankF nd1 nd0 nd2 nd3)), .val (.int (rankF nd2 nd0 nd1 nd3)), .val (.int (rankF nd3 nd0 nd1 nd2)), .val (.ref ob5), .val (.int (hiI u10_0)), .val (.int (0 : Int32)), .val (.int (u11_0.toInt32)), .val (.int (hiI u11_0)), .val (.int (u17_0.toInt32)), .unset, .unset] [(.int (0 : Int32))])
        refine Runs.back (fun t_ k_ => XS.istore X32.here hx rfl (hb hby at_335) rfl (l' := #[.val (.int p0), .val (.int p1), .val (.int p2), .val (.int p3), .val (.int p4), .val (.int nd0), .val (.int nd1), .val (.int nd2), .val (.int nd3), .val (.int pt0), .val (.int pt1), .val (.int pt2), .val (.int pt3), .val (.int (rankF nd0 nd1 nd2 nd3)), .val (.int (rankF nd1 nd0 nd2 nd3)), .val (.int (rankF nd2 nd0 nd1 nd3)), .val (.int (rankF nd3 nd0 nd1 nd2)), .val (.ref ob5), .val (.int (hiI u10_0)), .val (.int (0 : Int32)), .val (.int (u11_0.toInt32)), .val (.int (hiI u11_0)), .val (.int (u17_0.toInt32)), .unset, .unset]) rfl k_) ?_
        show Runs _ _ _ _ T32 (mkF m 337 #[.val (.int p0), .val (.int p1), .val (.int p2), .val (.int p3), .val (.int p4), .val (.int nd0), .val (.int nd1), .val (.int nd2), .val (.int nd3), .val (.int pt0), .val (.int pt1), .val (.int pt2), .val (.int pt3), .val (.int (rankF nd0 nd1 nd2 nd3)), .val (.int (rankF nd1 nd0 nd2 nd3)), .val (.int (rankF nd2 nd0 nd1 nd3)), .val (.int (rankF nd3 nd0 nd1 nd2)), .val (.ref ob5), .val (.int (hiI u10_0)), .val (.int (0 : Int32)), .val (.int (u11_0.toInt32)), .val (.int (hiI u11_0)), .val (.int (u17_0.toInt32)), .unset, .unset] [])
        refine Runs.back (fun t_ k_ => XS.aload X32.here hx rfl (hb hby at_337) rfl rfl k_) ?_
        show Runs _ _ _ _ T32 (mkF m 339 #[.val (.int p0), .val (.int p1), .val (.int p2), .val (.int p3), .val (.int p4), .val (.int nd0), .val (.int nd1), .val (.int nd2), .val (.int nd3), .val (.int pt0), .val (.int pt1), .val (.int pt2), .val (.int pt3), .val (.int (rankF nd0 nd1 nd2 nd3)), .val (.int (rankF nd1 nd0 nd2 nd3)), .val (.int (rankF nd2 nd0 nd1 nd3)), .val (.int (rankF nd3 nd0 nd1 nd2)), .val (.ref ob5), .val (.int (hiI u10_0)), .val (.int (0 : Int32)), .val (.int (u11_0.toInt32)), .val (.int (hiI u11_0)), .val (.int (u17_0.toInt32)), .unset, .unset] [(.ref ob5)])
        obtain ⟨cq33, kq33, q33a, q33b, q33c⟩ := isOf hZ eq32 iE17
        obtain ⟨_, _, ⟨T33, L33, k33, n33⟩, -, X33, ⟨Lc33, hQ33, l33, y33, z33⟩, st33⟩ := X32.virtualBack hx (y := (⟨"com/example/tradewheel/tradewheel/PartQueue", "remove", "()I"⟩ : MethodName)) (z := (⟨"com/example/tradewheel/tradewheel/PartQueue", "remove", "()I"⟩ : MethodName)) hown (mvT hZ (hw _ (List.mem_of_getElem? (i := 24) rfl))) (mvT hZ (hw _ (List.mem_of_getElem? (i := 25) rfl))) (notFace_of_selects (args := #[]) (mvT hZ (hw _ (List.mem_of_getElem? (i := 27) rfl)))) (mvT hZ (hw _ (List.mem_of_getElem? (i := 27) rfl))) (mvT hZ (hw _ (List.mem_of_getElem? (i := 26) rfl))) (by decide) (backOf (W := 0) (rm5s2 l Z a0 hw [] ob5  b6 _ u17_0 u17_1 T17.heap n0 (Z17) iE17 iF17 iG17 iA17 ne_ob5_b6 g_ob5 g_b6 hu17_0 hu17_1) hZ (hw _ (List.mem_of_getElem? (i := 28) rfl)) (hw _ (List.mem_of_getElem? (i := 7) rfl)) (by decide) (by decide)) q33a q33c (g := (mkF m 339 #[.val (.int p0), .val (.int p1), .val (.int p2), .val (.int p3), .val (.int p4), .val (.int nd0), .val (.int nd1), .val (.int nd2), .val (.int nd3), .val (.int pt0), .val (.int pt1), .val (.int pt2), .val (.int pt3), .val (.int (rankF nd0 nd1 nd2 nd3)), .val (.int (rankF nd1 nd0 nd2 nd3)), .val (.int (rankF nd2 nd0 nd1 nd3)), .val (.int (rankF nd3 nd0 nd1 nd2)), .val (.ref ob5), .val (.int (hiI u10_0)), .val (.int (0 : Int32)), .val (.int (u11_0.toInt32)), .val (.int (hiI u11_0)), .val (.int (u17_0.toInt32)), .unset, .unset] [(.ref ob5)])) rfl (by rw [hml]; rfl) (Steps.refl _) (argsL := []) (rest := []) (lenOf pd0_3 rfl) rfl (by show 2 * 0 + _ ≤ _; exact Nat.le_of_eq rfl) (hb hby at_339) (fun _ _ => ⟨rfl, eq32, (by decide : 2 + 0 ≤ _), (by decide : 6 + 0 ≤ _)⟩)
        dsimp only [Pt.U, Pt.locs, Pt.cells, Pt.slots] at X33 l33 y33 z33 st33 hQ33
        obtain rfl : k33 = 2 := y33
        obtain rfl : n33 = 6 := z33
        obtain ⟨rfl, N33q, K33, iE33, iF33, iG33, fq33, u33_0, iA33, hu33_0, rel33⟩ := hQ33
        have N33 : Fr n0 L33 := by rw [l33]; exact Fr.app N32 N33q
        clear l33
        have f33_Exa_0 : Exa Z T33.heap ob5 "com/example/tradewheel/tradewheel/PartQueue" := iE17.keep K33
        have Z33 : n0 ≤ T33.heap.size := Nat.le_trans (Z17) K33.1
        refine Runs.trans st33 ?_
        show Runs _ _ _ _ T33 (mkF m 342 #[.val (.int p0), .val (.int p1), .val (.int p2), .val (.int p3), .val (.int p4), .val (.int nd0), .val (.int nd1), .val (.int nd2), .val (.int nd3), .val (.int pt0), .val (.int pt1), .val (.int pt2), .val (.int pt3), .val (.int (rankF nd0 nd1 nd2 nd3)), .val (.int (rankF nd1 nd0 nd2 nd3)), .val (.int (rankF nd2 nd0 nd1 nd3)), .val (.int (rankF nd3 nd0 nd1 nd2)), .val (.ref ob5), .val (.int (hiI u10_0)), .val (.int (0 : Int32)), .val (.int (u11_0.toInt32)), .val (.int (hiI u11_0)), .val (.int (u17_0.toInt32)), .unset, .unset] [(.int (hiI u17_0))])
        refine Runs.back (fun t_ k_ => XS.istore X33.here hx rfl (hb hby at_342) rfl (l' := #[.val (.int p0), .val (.int p1), .val (.int p2), .val (.int p3), .val (.int p4), .val (.int nd0), .val (.int nd1), .val (.int nd2), .val (.int nd3), .val (.int pt0), .val (.int pt1), .val (.int pt2), .val (.int pt3), .val (.int (rankF nd0 nd1 nd2 nd3)), .val (.int (rankF nd1 nd0 nd2 nd3)), .val (.int (rankF nd2 nd0 nd1 nd3)), .val (.int (rankF nd3 nd0 nd1 nd2)), .val (.ref ob5), .val (.int (hiI u10_0)), .val (.int (0 : Int32)), .val (.int (u11_0.toInt32)), .val (.int (hiI u11_0)), .val (.int (u17_0.toInt32)), .val (.int (hiI u17_0)), .unset]) rfl k_) ?_
        show Runs _ _ _ _ T33 (mkF m 344 #[.val (.int p0), .val (.int p1), .val (.int p2), .val (.int p3), .val (.int p4), .val (.int nd0), .val (.int nd1), .val (.int nd2), .val (.int nd3), .val (.int pt0), .val (.int pt1), .val (.int pt2), .val (.int pt3), .val (.int (rankF nd0 nd1 nd2 nd3)), .val (.int (rankF nd1 nd0 nd2 nd3)), .val (.int (rankF nd2 nd0 nd1 nd3)), .val (.int (rankF nd3 nd0 nd1 nd2)), .val (.ref ob5), .val (.int (hiI u10_0)), .val (.int (0 : Int32)), .val (.int (u11_0.toInt32)), .val (.int (hiI u11_0)), .val (.int (u17_0.toInt32)), .val (.int (hiI u17_0)), .unset] [])
        refine Runs.back (fun t_ k_ => XS.iload X33.here hx rfl (hb hby at_344) rfl k_) ?_
        show Runs _ _ _ _ T33 (mkF m 346 #[.val (.int p0), .val (.int p1), .val (.int p2), .val (.int p3), .val (.int p4), .val (.int nd0), .val (.int nd1), .val (.int nd2), .val (.int nd3), .val (.int pt0), .val (.int pt1), .val (.int pt2), .val (.int pt3), .val (.int (rankF nd0 nd1 nd2 nd3)), .val (.int (rankF nd1 nd0 nd2 nd3)), .val (.int (rankF nd2 nd0 nd1 nd3)), .val (.int (rankF nd3 nd0 nd1 nd2)), .val (.ref ob5), .val (.int (hiI u10_0)), .val (.int (0 : Int32)), .val (.int (u11_0.toInt32)), .val (.int (hiI u11_0)), .val (.int (u17_0.toInt32)), .val (.int (hiI u17_0)), .unset] [(.int (0 : Int32))])
        refine Runs.back (fun t_ k_ => XS.ifYes X33.here hx rfl (pc0 := 346) (pc' := 378) rfl (hb hby at_346) rfl ((if0 _ _).trans (teq (show (0 : Int32) = (0 : Int32) from rfl)).1) (by decide) (by decide) k_) ?_
        show Runs _ _ _ _ T33 (mkF m 378 #[.val (.int p0), .val (.int p1), .val (.int p2), .val (.int p3), .val (.int p4), .val (.int nd0), .val (.int nd1), .val (.int nd2), .val (.int nd3), .val (.int pt0), .val (.int pt1), .val (.int pt2), .val (.int pt3), .val (.int (rankF nd0 nd1 nd2 nd3)), .val (.int (rankF nd1 nd0 nd2 nd3)), .val (.int (rankF nd2 nd0 nd1 nd3)), .val (.int (rankF nd3 nd0 nd1 nd2)), .val (.ref ob5), .val (.int (hiI u10_0)), .val (.int (0 : Int32)), .val (.int (u11_0.toInt32)), .val (.int (hiI u11_0)), .val (.int (u17_0.toInt32)), .val (.int (hiI u17_0)), .unset] [])
        refine Runs.back (fun t_ k_ => XS.iconst X33.here hx rfl (hb hby at_378) k_) ?_
        show Runs _ _ _ _ T33 (mkF m 379 #[.val (.int p0), .val (.int p1), .val (.int p2), .val (.int p3), .val (.int p4), .val (.int nd0), .val (.int nd1), .val (.int nd2), .val (.int nd3), .val (.int pt0), .val (.int pt1), .val (.int pt2), .val (.int pt3), .val (.int (rankF nd0 nd1 nd2 nd3)), .val (.int (rankF nd1 nd0 nd2 nd3)), .val (.int (rankF nd2 nd0 nd1 nd3)), .val (.int (rankF nd3 nd0 nd1 nd2)), .val (.ref ob5), .val (.int (hiI u10_0)), .val (.int (0 : Int32)), .val (.int (u11_0.toInt32)), .val (.int (hiI u11_0)), .val (.int (u17_0.toInt32)), .val (.int (hiI u17_0)), .unset] [(.int (0 : Int32))])
        refine Runs.back (fun t_ k_ => XS.istore X33.here hx rfl (hb hby at_379) rfl (l' := #[.val (.int p0), .val (.int p1), .val (.int p2), .val (.int p3), .val (.int p4), .val (.int nd0), .val (.int nd1), .val (.int nd2), .val (.int nd3), .val (.int pt0), .val (.int pt1), .val (.int pt2), .val (.int pt3), .val (.int (rankF nd0 nd1 nd2 nd3)), .val (.int (rankF nd1 nd0 nd2 nd3)), .val (.int (rankF nd2 nd0 nd1 nd3)), .val (.int (rankF nd3 nd0 nd1 nd2)), .val (.ref ob5), .val (.int (hiI u10_0)), .val (.int (0 : Int32)), .val (.int (u11_0.toInt32)), .val (.int (hiI u11_0)), .val (.int (u17_0.toInt32)), .val (.int (hiI u17_0)), .unset]) rfl k_) ?_
        show Runs _ _ _ _ T33 (mkF m 381 #[.val (.int p0), .val (.int p1), .val (.int p2), .val (.int p3), .val (.int p4), .val (.int nd0), .val (.int nd1), .val (.int nd2), .val (.int nd3), .val (.int pt0), .val (.int pt1), .val (.int pt2), .val (.int pt3), .val (.int (rankF nd0 nd1 nd2 nd3)), .val (.int (rankF nd1 nd0 nd2 nd3)), .val (.int (rankF nd2 nd0 nd1 nd3)), .val (.int (rankF nd3 nd0 nd1 nd2)), .val (.ref ob5), .val (.int (hiI u10_0)), .val (.int (0 : Int32)), .val (.int (u11_0.toInt32)), .val (.int (hiI u11_0)), .val (.int (u17_0.toInt32)), .val (.int (hiI u17_0)), .unset] [])
        refine Runs.back (fun t_ k_ => XS.aload X33.here hx rfl (hb hby at_381) rfl rfl k_) ?_
        show Runs _ _ _ _ T33 (mkF m 383 #[.val (.int p0), .val (.int p1), .val (.int p2), .val (.int p3), .val (.int p4), .val (.int nd0), .val (.int nd1), .val (.int nd2), .val (.int nd3), .val (.int pt0), .val (.int pt1), .val (.int pt2), .val (.int pt3), .val (.int (rankF nd0 nd1 nd2 nd3)), .val (.int (rankF nd1 nd0 nd2 nd3)), .val (.int (rankF nd2 nd0 nd1 nd3)), .val (.int (rankF nd3 nd0 nd1 nd2)), .val (.ref ob5), .val (.int (hiI u10_0)), .val (.int (0 : Int32)), .val (.int (u11_0.toInt32)), .val (.int (hiI u11_0)), .val (.int (u17_0.toInt32)), .val (.int (hiI u17_0)), .unset] [(.ref ob5)])
        obtain ⟨cq34, kq34, q34a, q34b, q34c⟩ := isOf hZ rfl iE33
        obtain ⟨_, _, ⟨T34, L34, k34, n34⟩, -, X34, ⟨Lc34, hQ34, l34, y34, z34⟩, st34⟩ := X33.virtualBack hx (y := (⟨"com/example/tradewheel/tradewheel/PartQueue", "remove", "()I"⟩ : MethodName)) (z := (⟨"com/example/tradewheel/tradewheel/PartQueue", "remove", "()I"⟩ : MethodName)) hown (mvT hZ (hw _ (List.mem_of_getElem? (i := 24) rfl))) (mvT hZ (hw _ (List.mem_of_getElem? (i := 25) rfl))) (notFace_of_selects (args := #[]) (mvT hZ (hw _ (List.mem_of_getElem? (i := 27) rfl)))) (mvT hZ (hw _ (List.mem_of_getElem? (i := 27) rfl))) (mvT hZ (hw _ (List.mem_of_getElem? (i := 26) rfl))) (by decide) (backOf (W := 0) (rm5s1 l Z a0 hw [] ob5  b6 _ u33_0 T33.heap n0 (Z33) iE33 iF33 iG33 iA33 ne_ob5_b6 g_ob5 g_b6 hu33_0) hZ (hw _ (List.mem_of_getElem? (i := 28) rfl)) (hw _ (List.mem_of_getElem? (i := 7) rfl)) (by decide) (by decide)) q34a q34c (g := (mkF m 383 #[.val (.int p0), .val (.int p1), .val (.int p2), .val (.int p3), .val (.int p4), .val (.int nd0), .val (.int nd1), .val (.int nd2), .val (.int nd3), .val (.int pt0), .val (.int pt1), .val (.int pt2), .val (.int pt3), .val (.int (rankF nd0 nd1 nd2 nd3)), .val (.int (rankF nd1 nd0 nd2 nd3)), .val (.int (rankF nd2 nd0 nd1 nd3)), .val (.int (rankF nd3 nd0 nd1 nd2)), .val (.ref ob5), .val (.int (hiI u10_0)), .val (.int (0 : Int32)), .val (.int (u11_0.toInt32)), .val (.int (hiI u11_0)), .val (.int (u17_0.toInt32)), .val (.int (hiI u17_0)), .unset] [(.ref ob5)])) rfl (by rw [hml]; rfl) (Steps.refl _) (argsL := []) (rest := []) (lenOf pd0_3 rfl) rfl (by show 2 * 0 + _ ≤ _; exact Nat.le_of_eq rfl) (hb hby at_383) (fun _ _ => ⟨rfl, rfl, (by decide : 2 + 0 ≤ _), (by decide : 6 + 0 ≤ _)⟩)
        dsimp only [Pt.U, Pt.locs, Pt.cells, Pt.slots] at X34 l34 y34 z34 st34 hQ34
        obtain rfl : k34 = 2 := y34
        obtain rfl : n34 = 6 := z34
        obtain ⟨rfl, N34q, K34, iE34, iF34, iG34, fq34, iA34, rel34⟩ := hQ34
        have N34 : Fr n0 L34 := by rw [l34]; exact Fr.app N33 N34q
        clear l34
        have f34_Exa_0 : Exa Z T34.heap ob5 "com/example/tradewheel/tradewheel/PartQueue" := iE33.keep K34
        have Z34 : n0 ≤ T34.heap.size := Nat.le_trans (Z33) K34.1
        refine Runs.trans st34 ?_
        show Runs _ _ _ _ T34 (mkF m 386 #[.val (.int p0), .val (.int p1), .val (.int p2), .val (.int p3), .val (.int p4), .val (.int nd0), .val (.int nd1), .val (.int nd2), .val (.int nd3), .val (.int pt0), .val (.int pt1), .val (.int pt2), .val (.int pt3), .val (.int (rankF nd0 nd1 nd2 nd3)), .val (.int (rankF nd1 nd0 nd2 nd3)), .val (.int (rankF nd2 nd0 nd1 nd3)), .val (.int (rankF nd3 nd0 nd1 nd2)), .val (.ref ob5), .val (.int (hiI u10_0)), .val (.int (0 : Int32)), .val (.int (u11_0.toInt32)), .val (.int (hiI u11_0)), .val (.int (u17_0.toInt32)), .val (.int (hiI u17_0)), .unset] [(.int (hiI u33_0))])
        refine Runs.back (fun t_ k_ => XS.istore X34.here hx rfl (hb hby at_386) rfl (l' := #[.val (.int p0), .val (.int p1), .val (.int p2), .val (.int p3), .val (.int p4), .val (.int nd0), .val (.int nd1), .val (.int nd2), .val (.int nd3), .val (.int pt0), .val (.int pt1), .val (.int pt2), .val (.int pt3), .val (.int (rankF nd0 nd1 nd2 nd3)), .val (.int (rankF nd1 nd0 nd2 nd3)), .val (.int (rankF nd2 nd0 nd1 nd3)), .val (.int (rankF nd3 nd0 nd1 nd2)), .val (.ref ob5), .val (.int (hiI u10_0)), .val (.int (0 : Int32)), .val (.int (u11_0.toInt32)), .val (.int (hiI u11_0)), .val (.int (u17_0.toInt32)), .val (.int (hiI u17_0)), .val (.int (hiI u33_0))]) rfl k_) ?_
        show Runs _ _ _ _ T34 (mkF m 388 #[.val (.int p0), .val (.int p1), .val (.int p2), .val (.int p3), .val (.int p4), .val (.int nd0), .val (.int nd1), .val (.int nd2), .val (.int nd3), .val (.int pt0), .val (.int pt1), .val (.int pt2), .val (.int pt3), .val (.int (rankF nd0 nd1 nd2 nd3)), .val (.int (rankF nd1 nd0 nd2 nd3)), .val (.int (rankF nd2 nd0 nd1 nd3)), .val (.int (rankF nd3 nd0 nd1 nd2)), .val (.ref ob5), .val (.int (hiI u10_0)), .val (.int (0 : Int32)), .val (.int (u11_0.toInt32)), .val (.int (hiI u11_0)), .val (.int (u17_0.toInt32)), .val (.int (hiI u17_0)), .val (.int (hiI u33_0))] [])
        refine Runs.back (fun t_ k_ => XS.iload X34.here hx rfl (hb hby at_388) rfl k_) ?_
        show Runs _ _ _ _ T34 (mkF m 390 #[.val (.int p0), .val (.int p1), .val (.int p2), .val (.int p3), .val (.int p4), .val (.int nd0), .val (.int nd1), .val (.int nd2), .val (.int nd3), .val (.int pt0), .val (.int pt1), .val (.int pt2), .val (.int pt3), .val (.int (rankF nd0 nd1 nd2 nd3)), .val (.int (rankF nd1 nd0 nd2 nd3)), .val (.int (rankF nd2 nd0 nd1 nd3)), .val (.int (rankF nd3 nd0 nd1 nd2)), .val (.ref ob5), .val (.int (hiI u10_0)), .val (.int (0 : Int32)), .val (.int (u11_0.toInt32)), .val (.int (hiI u11_0)), .val (.int (u17_0.toInt32)), .val (.int (hiI u17_0)), .val (.int (hiI u33_0))] [(.int (0 : Int32))])
        refine Runs.back (fun t_ k_ => XS.ifYes X34.here hx rfl (pc0 := 390) (pc' := 422) rfl (hb hby at_390) rfl ((if0 _ _).trans (teq (show (0 : Int32) = (0 : Int32) from rfl)).1) (by decide) (by decide) k_) ?_
        show Runs _ _ _ _ T34 (mkF m 422 #[.val (.int p0), .val (.int p1), .val (.int p2), .val (.int p3), .val (.int p4), .val (.int nd0), .val (.int nd1), .val (.int nd2), .val (.int nd3), .val (.int pt0), .val (.int pt1), .val (.int pt2), .val (.int pt3), .val (.int (rankF nd0 nd1 nd2 nd3)), .val (.int (rankF nd1 nd0 nd2 nd3)), .val (.int (rankF nd2 nd0 nd1 nd3)), .val (.int (rankF nd3 nd0 nd1 nd2)), .val (.ref ob5), .val (.int (hiI u10_0)), .val (.int (0 : Int32)), .val (.int (u11_0.toInt32)), .val (.int (hiI u11_0)), .val (.int (u17_0.toInt32)), .val (.int (hiI u17_0)), .val (.int (hiI u33_0))] [])
        refine Runs.back (fun t_ k_ => XS.iconst X34.here hx rfl (hb hby at_422) k_) ?_
        show Runs _ _ _ _ T34 (mkF m 423 #[.val (.int p0), .val (.int p1), .val (.int p2), .val (.int p3), .val (.int p4), .val (.int nd0), .val (.int nd1), .val (.int nd2), .val (.int nd3), .val (.int pt0), .val (.int pt1), .val (.int pt2), .val (.int pt3), .val (.int (rankF nd0 nd1 nd2 nd3)), .val (.int (rankF nd1 nd0 nd2 nd3)), .val (.int (rankF nd2 nd0 nd1 nd3)), .val (.int (rankF nd3 nd0 nd1 nd2)), .val (.ref ob5), .val (.int (hiI u10_0)), .val (.int (0 : Int32)), .val (.int (u11_0.toInt32)), .val (.int (hiI u11_0)), .val (.int (u17_0.toInt32)), .val (.int (hiI u17_0)), .val (.int (hiI u33_0))] [(.int (0 : Int32))])
        refine Runs.back (fun t_ k_ => XS.istore X34.here hx rfl (hb hby at_423) rfl (l' := #[.val (.int p0), .val (.int p1), .val (.int p2), .val (.int p3), .val (.int p4), .val (.int nd0), .val (.int nd1), .val (.int nd2), .val (.int nd3), .val (.int pt0), .val (.int pt1), .val (.int pt2), .val (.int pt3), .val (.int (rankF nd0 nd1 nd2 nd3)), .val (.int (rankF nd1 nd0 nd2 nd3)), .val (.int (rankF nd2 nd0 nd1 nd3)), .val (.int (rankF nd3 nd0 nd1 nd2)), .val (.ref ob5), .val (.int (hiI u10_0)), .val (.int (0 : Int32)), .val (.int (u11_0.toInt32)), .val (.int (hiI u11_0)), .val (.int (u17_0.toInt32)), .val (.int (hiI u17_0)), .val (.int (hiI u33_0))]) rfl k_) ?_
        show Runs _ _ _ _ T34 (mkF m 425 #[.val (.int p0), .val (.int p1), .val (.int p2), .val (.int p3), .val (.int p4), .val (.int nd0), .val (.int nd1), .val (.int nd2), .val (.int nd3), .val (.int pt0), .val (.int pt1), .val (.int pt2), .val (.int pt3), .val (.int (rankF nd0 nd1 nd2 nd3)), .val (.int (rankF nd1 nd0 nd2 nd3)), .val (.int (rankF nd2 nd0 nd1 nd3)), .val (.int (rankF nd3 nd0 nd1 nd2)), .val (.ref ob5), .val (.int (hiI u10_0)), .val (.int (0 : Int32)), .val (.int (u11_0.toInt32)), .val (.int (hiI u11_0)), .val (.int (u17_0.toInt32)), .val (.int (hiI u17_0)), .val (.int (hiI u33_0))] [])
        refine Runs.back (fun t_ k_ => XS.iload X34.here hx rfl (hb hby at_425) rfl k_) ?_
        show Runs _ _ _ _ T34 (mkF m 427 #[.val (.int p0), .val (.int p1), .val (.int p2), .val (.int p3), .val (.int p4), .val (.int nd0), .val (.int nd1), .val (.int nd2), .val (.int nd3), .val (.int pt0), .val (.int pt1), .val (.int pt2), .val (.int pt3), .val (.int (rankF nd0 nd1 nd2 nd3)), .val (.int (rankF nd1 nd0 nd2 nd3)), .val (.int (rankF nd2 nd0 nd1 nd3)), .val (.int (rankF nd3 nd0 nd1 nd2)), .val (.ref ob5), .val (.int (hiI u10_0)), .val (.int (0 : Int32)), .val (.int (u11_0.toInt32)), .val (.int (hiI u11_0)), .val (.int (u17_0.toInt32)), .val (.int (hiI u17_0)), .val (.int (hiI u33_0))] [(.int (0 : Int32))])
        obtain ⟨fs, hr, hrun, hended, hW, hsame⟩ := X34.leave (v := some (.int (0 : Int32))) (fun h => by rw [Bd.returns] at h; cases h)
        have WH := whole F4 rel7 rel8 rel9 rel10 rel11 rel17 rel33 rfl
        exact ⟨_, _, (retN X34 hx (t := .boolean) Bd.returns (by simp) (hb hby at_427) hr), hrun, hended, _, _, rfl, ⟨(c283_19 (WH.2.1.1)).elim, N34⟩, ⟨_, rfl⟩, hW, hsame.mono (by decide) (by decide)⟩
    · refine Runs.back (fun t_ k_ => XS.icmpYes X15.here hx rfl (pc0 := 239) (pc' := 246) rfl (hb hby at_239) rfl (feq c239_16).2 (by decide) (by decide) k_) ?_
      show Runs _ _ _ _ T15 (mkF m 246 #[.val (.int p0), .val (.int p1), .val (.int p2), .val (.int p3), .val (.int p4), .val (.int nd0), .val (.int nd1), .val (.int nd2), .val (.int nd3), .val (.int pt0), .val (.int pt1), .val (.int pt2), .val (.int pt3), .val (.int (rankF nd0 nd1 nd2 nd3)), .val (.int (rankF nd1 nd0 nd2 nd3)), .val (.int (rankF nd2 nd0 nd1 nd3)), .val (.int (rankF nd3 nd0 nd1 nd2)), .val (.ref ob5), .val (.int (hiI u10_0)), .val (.int (1 : Int32)), .val (.int (u11_0.toInt32)), .unset, .unset, .unset, .unset] [])
      refine Runs.back (fun t_ k_ => XS.iconst X15.here hx rfl (hb hby at_246) k_) ?_
      show Runs _ _ _ _ T15 (mkF m 247 #[.val (.int p0), .val (.int p1), .val (.int p2), .val (.int p3), .val (.int p4), .val (.int nd0), .val (.int nd1), .val (.int nd2), .val (.int nd3), .val (.int pt0), .val (.int pt1), .val (.int pt2), .val (.int pt3), .val (.int (rankF nd0 nd1 nd2 nd3)), .val (.int (rankF nd1 nd0 nd2 nd3)), .val (.int (rankF nd2 nd0 nd1 nd3)), .val (.int (rankF nd3 nd0 nd1 nd2)), .val (.ref ob5), .val (.int (hiI u10_0)), .val (.int (1 : Int32)), .val (.int (u11_0.toInt32)), .unset, .unset, .unset, .unset] [(.int (0 : Int32))])
      refine Runs.back (fun t_ k_ => XS.istore X15.here hx rfl (hb hby at_247) rfl (l' := #[.val (.int p0), .val (.int p1), .val (.int p2), .val (.int p3), .val (.int p4), .val (.int nd0), .val (.int nd1), .val (.int nd2), .val (.int nd3), .val (.int pt0), .val (.int pt1), .val (.int pt2), .val (.int pt3), .val (.int (rankF nd0 nd1 nd2 nd3)), .val (.int (rankF nd1 nd0 nd2 nd3)), .val (.int (rankF nd2 nd0 nd1 nd3)), .val (.int (rankF nd3 nd0 nd1 nd2)), .val (.ref ob5), .val (.int (hiI u10_0)), .val (.int (0 : Int32)), .val (.int (u11_0.toInt32)), .unset, .unset, .unset, .unset]) rfl k_) ?_
      show Runs _ _ _ _ T15 (mkF m 249 #[.val (.int p0), .val (.int p1), .val (.int p2), .val (.int p3), .val (.int p4), .val (.int nd0), .val (.int nd1), .val (.int nd2), .val (.int nd3), .val (.int pt0), .val (.int pt1), .val (.int pt2), .val (.int pt3), .val (.int (rankF nd0 nd1 nd2 nd3)), .val (.int (rankF nd1 nd0 nd2 nd3)), .val (.int (rankF nd2 nd0 nd1 nd3)), .val (.int (rankF nd3 nd0 nd1 nd2)), .val (.ref ob5), .val (.int (hiI u10_0)), .val (.int (0 : Int32)), .val (.int (u11_0.toInt32)), .unset, .unset, .unset, .unset] [])
      refine Runs.back (fun t_ k_ => XS.aload X15.here hx rfl (hb hby at_249) rfl rfl k_) ?_
      show Runs _ _ _ _ T15 (mkF m 251 #[.val (.int p0), .val (.int p1), .val (.int p2), .val (.int p3), .val (.int p4), .val (.int nd0), .val (.int nd1), .val (.int nd2), .val (.int nd3), .val (.int pt0), .val (.int pt1), .val (.int pt2), .val (.int pt3), .val (.int (rankF nd0 nd1 nd2 nd3)), .val (.int (rankF nd1 nd0 nd2 nd3)), .val (.int (rankF nd2 nd0 nd1 nd3)), .val (.int (rankF nd3 nd0 nd1 nd2)), .val (.ref ob5), .val (.int (hiI u10_0)), .val (.int (0 : Int32)), .val (.int (u11_0.toInt32)), .unset, .unset, .unset, .unset] [(.ref ob5)])
      obtain ⟨cq35, kq35, q35a, q35b, q35c⟩ := isOf hZ eq15 iE11
      obtain ⟨_, _, ⟨T35, L35, k35, n35⟩, -, X35, ⟨Lc35, hQ35, l35, y35, z35⟩, st35⟩ := X15.virtualBack hx (y := (⟨"com/example/tradewheel/tradewheel/PartQueue", "remove", "()I"⟩ : MethodName)) (z := (⟨"com/example/tradewheel/tradewheel/PartQueue", "remove", "()I"⟩ : MethodName)) hown (mvT hZ (hw _ (List.mem_of_getElem? (i := 24) rfl))) (mvT hZ (hw _ (List.mem_of_getElem? (i := 25) rfl))) (notFace_of_selects (args := #[]) (mvT hZ (hw _ (List.mem_of_getElem? (i := 27) rfl)))) (mvT hZ (hw _ (List.mem_of_getElem? (i := 27) rfl))) (mvT hZ (hw _ (List.mem_of_getElem? (i := 26) rfl))) (by decide) (backOf (W := 0) (rm5s3 l Z a0 hw [] ob5  b6 _ u11_0 u11_1 u11_2 T11.heap n0 (Z11) iE11 iF11 iG11 iA11 ne_ob5_b6 g_ob5 g_b6 hu11_0 hu11_1 hu11_2) hZ (hw _ (List.mem_of_getElem? (i := 28) rfl)) (hw _ (List.mem_of_getElem? (i := 7) rfl)) (by decide) (by decide)) q35a q35c (g := (mkF m 251 #[.val (.int p0), .val (.int p1), .val (.int p2), .val (.int p3), .val (.int p4), .val (.int nd0), .val (.int nd1), .val (.int nd2), .val (.int nd3), .val (.int pt0), .val (.int pt1), .val (.int pt2), .val (.int pt3), .val (.int (rankF nd0 nd1 nd2 nd3)), .val (.int (rankF nd1 nd0 nd2 nd3)), .val (.int (rankF nd2 nd0 nd1 nd3)), .val (.int (rankF nd3 nd0 nd1 nd2)), .val (.ref ob5), .val (.int (hiI u10_0)), .val (.int (0 : Int32)), .val (.int (u11_0.toInt32)), .unset, .unset, .unset, .unset] [(.ref ob5)])) rfl (by rw [hml]; rfl) (Steps.refl _) (argsL := []) (rest := []) (lenOf pd0_3 rfl) rfl (by show 2 * 0 + _ ≤ _; exact Nat.le_of_eq rfl) (hb hby at_251) (fun _ _ => ⟨rfl, eq15, (by decide : 2 + 0 ≤ _), (by decide : 6 + 0 ≤ _)⟩)
      dsimp only [Pt.U, Pt.locs, Pt.cells, Pt.slots] at X35 l35 y35 z35 st35 hQ35
      obtain rfl : k35 = 2 := y35
      obtain rfl : n35 = 6 := z35
      obtain ⟨rfl, N35q, K35, iE35, iF35, iG35, fq35, u35_0, u35_1, iA35, hu35_0, hu35_1, rel35⟩ := hQ35
      have N35 : Fr n0 L35 := by rw [l35]; exact Fr.app N15 N35q
      clear l35
      have f35_Exa_0 : Exa Z T35.heap ob5 "com/example/tradewheel/tradewheel/PartQueue" := iE11.keep K35
      have Z35 : n0 ≤ T35.heap.size := Nat.le_trans (Z11) K35.1
      refine Runs.trans st35 ?_
      show Runs _ _ _ _ T35 (mkF m 254 #[.val (.int p0), .val (.int p1), .val (.int p2), .val (.int p3), .val (.int p4), .val (.int nd0), .val (.int nd1), .val (.int nd2), .val (.int nd3), .val (.int pt0), .val (.int pt1), .val (.int pt2), .val (.int pt3), .val (.int (rankF nd0 nd1 nd2 nd3)), .val (.int (rankF nd1 nd0 nd2 nd3)), .val (.int (rankF nd2 nd0 nd1 nd3)), .val (.int (rankF nd3 nd0 nd1 nd2)), .val (.ref ob5), .val (.int (hiI u10_0)), .val (.int (0 : Int32)), .val (.int (u11_0.toInt32)), .unset, .unset, .unset, .unset] [(.int (hiI u11_0))])
      refine Runs.back (fun t_ k_ => XS.istore X35.here hx rfl (hb hby at_254) rfl (l' := #[.val (.int p0), .val (.int p1), .val (.int p2), .val (.int p3), .val (.int p4), .val (.int nd0), .val (.int nd1), .val (.int nd2), .val (.int nd3), .val (.int pt0), .val (.int pt1), .val (.int pt2), .val (.int pt3), .val (.int (rankF nd0 nd1 nd2 nd3)), .val (.int (rankF nd1 nd0 nd2 nd3)), .val (.int (rankF nd2 nd0 nd1 nd3)), .val (.int (rankF nd3 nd0 nd1 nd2)), .val (.ref ob5), .val (.int (hiI u10_0)), .val (.int (0 : Int32)), .val (.int (u11_0.toInt32)), .val (.int (hiI u11_0)), .unset, .unset, .unset]) rfl k_) ?_
      show Runs _ _ _ _ T35 (mkF m 256 #[.val (.int p0), .val (.int p1), .val (.int p2), .val (.int p3), .val (.int p4), .val (.int nd0), .val (.int nd1), .val (.int nd2), .val (.int nd3), .val (.int pt0), .val (.int pt1), .val (.int pt2), .val (.int pt3), .val (.int (rankF nd0 nd1 nd2 nd3)), .val (.int (rankF nd1 nd0 nd2 nd3)), .val (.int (rankF nd2 nd0 nd1 nd3)), .val (.int (rankF nd3 nd0 nd1 nd2)), .val (.ref ob5), .val (.int (hiI u10_0)), .val (.int (0 : Int32)), .val (.int (u11_0.toInt32)), .val (.int (hiI u11_0)), .unset, .unset, .unset] [])
      refine Runs.back (fun t_ k_ => XS.iload X35.here hx rfl (hb hby at_256) rfl k_) ?_
      show Runs _ _ _ _ T35 (mkF m 258 #[.val (.int p0), .val (.int p1), .val (.int p2), .val (.int p3), .val (.int p4), .val (.int nd0), .val (.int nd1), .val (.int nd2), .val (.int nd3), .val (.int pt0), .val (.int pt1), .val (.int pt2), .val (.int pt3), .val (.int (rankF nd0 nd1 nd2 nd3)), .val (.int (rankF nd1 nd0 nd2 nd3)), .val (.int (rankF nd2 nd0 nd1 nd3)), .val (.int (rankF nd3 nd0 nd1 nd2)), .val (.ref ob5), .val (.int (hiI u10_0)), .val (.int (0 : Int32)), .val (.int (u11_0.toInt32)), .val (.int (hiI u11_0)), .unset, .unset, .unset] [(.int (0 : Int32))])
      refine Runs.back (fun t_ k_ => XS.ifYes X35.here hx rfl (pc0 := 258) (pc' := 290) rfl (hb hby at_258) rfl ((if0 _ _).trans (teq (show (0 : Int32) = (0 : Int32) from rfl)).1) (by decide) (by decide) k_) ?_
      show Runs _ _ _ _ T35 (mkF m 290 #[.val (.int p0), .val (.int p1), .val (.int p2), .val (.int p3), .val (.int p4), .val (.int nd0), .val (.int nd1), .val (.int nd2), .val (.int nd3), .val (.int pt0), .val (.int pt1), .val (.int pt2), .val (.int pt3), .val (.int (rankF nd0 nd1 nd2 nd3)), .val (.int (rankF nd1 nd0 nd2 nd3)), .val (.int (rankF nd2 nd0 nd1 nd3)), .val (.int (rankF nd3 nd0 nd1 nd2)), .val (.ref ob5), .val (.int (hiI u10_0)), .val (.int (0 : Int32)), .val (.int (u11_0.toInt32)), .val (.int (hiI u11_0)), .unset, .unset, .unset] [])
      refine Runs.back (fun t_ k_ => XS.iconst X35.here hx rfl (hb hby at_290) k_) ?_
      show Runs _ _ _ _ T35 (mkF m 291 #[.val (.int p0), .val (.int p1), .val (.int p2), .val (.int p3), .val (.int p4), .val (.int nd0), .val (.int nd1), .val (.int nd2), .val (.int nd3), .val (.int pt0), .val (.int pt1), .val (.int pt2), .val (.int pt3), .val (.int (rankF nd0 nd1 nd2 nd3)), .val (.int (rankF nd1 nd0 nd2 nd3)), .val (.int (rankF nd2 nd0 nd1 nd3)), .val (.int (rankF nd3 nd0 nd1 nd2)), .val (.ref ob5), .val (.int (hiI u10_0)), .val (.int (0 : Int32)), .val (.int (u11_0.toInt32)), .val (.int (hiI u11_0)), .unset, .unset, .unset] [(.int (0 : Int32))])
      refine Runs.back (fun t_ k_ => XS.istore X35.here hx rfl (hb hby at_291) rfl (l' := #[.val (.int p0), .val (.int p1), .val (.int p2), .val (.int p3), .val (.int p4), .val (.int nd0), .val (.int nd1), .val (.int nd2), .val (.int nd3), .val (.int pt0), .val (.int pt1), .val (.int pt2), .val (.int pt3), .val (.int (rankF nd0 nd1 nd2 nd3)), .val (.int (rankF nd1 nd0 nd2 nd3)), .val (.int (rankF nd2 nd0 nd1 nd3)), .val (.int (rankF nd3 nd0 nd1 nd2)), .val (.ref ob5), .val (.int (hiI u10_0)), .val (.int (0 : Int32)), .val (.int (u11_0.toInt32)), .val (.int (hiI u11_0)), .unset, .unset, .unset]) rfl k_) ?_
      show Runs _ _ _ _ T35 (mkF m 293 #[.val (.int p0), .val (.int p1), .val (.int p2), .val (.int p3), .val (.int p4), .val (.int nd0), .val (.int nd1), .val (.int nd2), .val (.int nd3), .val (.int pt0), .val (.int pt1), .val (.int pt2), .val (.int pt3), .val (.int (rankF nd0 nd1 nd2 nd3)), .val (.int (rankF nd1 nd0 nd2 nd3)), .val (.int (rankF nd2 nd0 nd1 nd3)), .val (.int (rankF nd3 nd0 nd1 nd2)), .val (.ref ob5), .val (.int (hiI u10_0)), .val (.int (0 : Int32)), .val (.int (u11_0.toInt32)), .val (.int (hiI u11_0)), .unset, .unset, .unset] [])
      refine Runs.back (fun t_ k_ => XS.aload X35.here hx rfl (hb hby at_293) rfl rfl k_) ?_
      show Runs _ _ _ _ T35 (mkF m 295 #[.val (.int p0), .val (.int p1), .val (.int p2), .val (.int p3), .val (.int p4), .val (.int nd0), .val (.int nd1), .val (.int nd2), .val (.int nd3), .val (.int pt0), .val (.int pt1), .val (.int pt2), .val (.int pt3), .val (.int (rankF nd0 nd1 nd2 nd3)), .val (.int (rankF nd1 nd0 nd2 nd3)), .val (.int (rankF nd2 nd0 nd1 nd3)), .val (.int (rankF nd3 nd0 nd1 nd2)), .val (.ref ob5), .val (.int (hiI u10_0)), .val (.int (0 : Int32)), .val (.int (u11_0.toInt32)), .val (.int (hiI u11_0)), .unset, .unset, .unset] [(.ref ob5)])
      obtain ⟨cq36, kq36, q36a, q36b, q36c⟩ := isOf hZ rfl iE35
      obtain ⟨_, _, ⟨T36, L36, k36, n36⟩, -, X36, ⟨Lc36, hQ36, l36, y36, z36⟩, st36⟩ := X35.virtualBack hx (y := (⟨"com/example/tradewheel/tradewheel/PartQueue", "part", "()I"⟩ : MethodName)) (z := (⟨"com/example/tradewheel/tradewheel/PartQueue", "part", "()I"⟩ : MethodName)) hown (mvT hZ (hw _ (List.mem_of_getElem? (i := 32) rfl))) (mvT hZ (hw _ (List.mem_of_getElem? (i := 33) rfl))) (notFace_of_selects (args := #[]) (mvT hZ (hw _ (List.mem_of_getElem? (i := 35) rfl)))) (mvT hZ (hw _ (List.mem_of_getElem? (i := 35) rfl))) (mvT hZ (hw _ (List.mem_of_getElem? (i := 34) rfl))) (by decide) (backOf (W := 0) (rm7 l Z a0 hw [] ob5 b6 _ u35_0 T35.heap n0 (Z35) iF35 iA35 hu35_0) hZ (hw _ (List.mem_of_getElem? (i := 36) rfl)) (hw _ (List.mem_of_getElem? (i := 7) rfl)) (by decide) (by decide)) q36a q36c (g := (mkF m 295 #[.val (.int p0), .val (.int p1), .val (.int p2), .val (.int p3), .val (.int p4), .val (.int nd0), .val (.int nd1), .val (.int nd2), .val (.int nd3), .val (.int pt0), .val (.int pt1), .val (.int pt2), .val (.int pt3), .val (.int (rankF nd0 nd1 nd2 nd3)), .val (.int (rankF nd1 nd0 nd2 nd3)), .val (.int (rankF nd2 nd0 nd1 nd3)), .val (.int (rankF nd3 nd0 nd1 nd2)), .val (.ref ob5), .val (.int (hiI u10_0)), .val (.int (0 : Int32)), .val (.int (u11_0.toInt32)), .val (.int (hiI u11_0)), .unset, .unset, .unset] [(.ref ob5)])) rfl (by rw [hml]; rfl) (Steps.refl _) (argsL := []) (rest := []) (lenOf pd0_3 rfl) rfl (by show 2 * 0 + _ ≤ _; exact Nat.le_of_eq rfl) (hb hby at_295) (fun _ _ => ⟨rfl, rfl, (by decide : 2 + 0 ≤ _), (by decide : 6 + 0 ≤ _)⟩)
      dsimp only [Pt.U, Pt.locs, Pt.cells, Pt.slots] at X36 l36 y36 z36 st36 hQ36
      obtain rfl : k36 = 2 := y36
      obtain rfl : n36 = 6 := z36
      obtain ⟨rfl, N36q, eq36⟩ := hQ36
      have N36 : Fr n0 L36 := by rw [l36]; exact Fr.app N35 N36q
      clear l36
      refine Runs.trans st36 ?_
      show Runs _ _ _ _ T36 (mkF m 298 #[.val (.int p0), .val (.int p1), .val (.int p2), .val (.int p3), .val (.int p4), .val (.int nd0), .val (.int nd1), .val (.int nd2), .val (.int nd3), .val (.int pt0), .val (.int pt1), .val (.int pt2), .val (.int pt3), .val (.int (rankF nd0 nd1 nd2 nd3)), .val (.int (rankF nd1 nd0 nd2 nd3)), .val (.int (rankF nd2 nd0 nd1 nd3)), .val (.int (rankF nd3 nd0 nd1 nd2)), .val (.ref ob5), .val (.int (hiI u10_0)), .val (.int (0 : Int32)), .val (.int (u11_0.toInt32)), .val (.int (hiI u11_0)), .unset, .unset, .unset] [(.int (u35_0.toInt32))])
      refine Runs.back (fun t_ k_ => XS.istore X36.here hx rfl (hb hby at_298) rfl (l' := #[.val (.int p0), .val (.int p1), .val (.int p2), .val (.int p3), .val (.int p4), .val (.int nd0), .val (.int nd1), .val (.int nd2), .val (.int nd3), .val (.int pt0), .val (.int pt1), .val (.int pt2), .val (.int pt3), .val (.int (rankF nd0 nd1 nd2 nd3)), .val (.int (rankF nd1 nd0 nd2 nd3)), .val (.int (rankF nd2 nd0 nd1 nd3)), .val (.int (rankF nd3 nd0 nd1 nd2)), .val (.ref ob5), .val (.int (hiI u10_0)), .val (.int (0 : Int32)), .val (.int (u11_0.toInt32)), .val (.int (hiI u11_0)), .val (.int (u35_0.toInt32)), .unset, .unset]) rfl k_) ?_
      show Runs _ _ _ _ T36 (mkF m 300 #[.val (.int p0), .val (.int p1), .val (.int p2), .val (.int p3), .val (.int p4), .val (.int nd0), .val (.int nd1), .val (.int nd2), .val (.int nd3), .val (.int pt0), .val (.int pt1), .val (.int pt2), .val (.int pt3), .val (.int (rankF nd0 nd1 nd2 nd3)), .val (.int (rankF nd1 nd0 nd2 nd3)), .val (.int (rankF nd2 nd0 nd1 nd3)), .val (.int (rankF nd3 nd0 nd1 nd2)), .val (.ref ob5), .val (.int (hiI u10_0)), .val (.int (0 : Int32)), .val (.int (u11_0.toInt32)), .val (.int (hiI u11_0)), .val (.int (u35_0.toInt32)), .unset, .unset] [])
      refine Runs.back (fun t_ k_ => XS.iload X36.here hx rfl (hb hby at_300) rfl k_) ?_
      show Runs _ _ _ _ T36 (mkF m 302 #[.val (.int p0), .val (.int p1), .val (.int p2), .val (.int p3), .val (.int p4), .val (.int nd0), .val (.int nd1), .val (.int nd2), .val (.int nd3), .val (.int pt0), .val (.int pt1), .val (.int pt2), .val (.int pt3), .val (.int (rankF nd0 nd1 nd2 nd3)), .val (.int (rankF nd1 nd0 nd2 nd3)), .val (.int (rankF nd2 nd0 nd1 nd3)), .val (.int (rankF nd3 nd0 nd1 nd2)), .val (.ref ob5), .val (.int (hiI u10_0)), .val (.int (0 : Int32)), .val (.int (u11_0.toInt32)), .val (.int (hiI u11_0)), .val (.int (u35_0.toInt32)), .unset, .unset] [(.int (0 : Int32))])
      refine Runs.back (fun t_ k_ => XS.ifYes X36.here hx rfl (pc0 := 302) (pc' := 334) rfl (hb hby at_302) rfl ((if0 _ _).trans (teq (show (0 : Int32) = (0 : Int32) from rfl)).1) (by decide) (by decide) k_) ?_
      show Runs _ _ _ _ T36 (mkF m 334 #[.val (.int p0), .val (.int p1), .val (.int p2), .val (.int p3), .val (.int p4), .val (.int nd0), .val (.int nd1), .val (.int nd2), .val (.int nd3), .val (.int pt0), .val (.int pt1), .val (.int pt2), .val (.int pt3), .val (.int (rankF nd0 nd1 nd2 nd3)), .val (.int (rankF nd1 nd0 nd2 nd3)), .val (.int (rankF nd2 nd0 nd1 nd3)), .val (.int (rankF nd3 nd0 nd1 nd2)), .val (.ref ob5), .val (.int (hiI u10_0)), .val (.int (0 : Int32)), .val (.int (u11_0.toInt32)), .val (.int (hiI u11_0)), .val (.int (u35_0.toInt32)), .unset, .unset] [])
      refine Runs.back (fun t_ k_ => XS.iconst X36.here hx rfl (hb hby at_334) k_) ?_
      show Runs _ _ _ _ T36 (mkF m 335 #[.val (.int p0), .val (.int p1), .val (.int p2), .val (.int p3), .val (.int p4), .val (.int nd0), .val (.int nd1), .val (.int nd2), .val (.int nd3), .val (.int pt0), .val (.int pt1), .val (.int pt2), .val (.int pt3), .val (.int (rankF nd0 nd1 nd2 nd3)), .val (.int (rankF nd1 nd0 nd2 nd3)), .val (.int (rankF nd2 nd0 nd1 nd3)), .val (.int (rankF nd3 nd0 nd1 nd2)), .val (.ref ob5), .val (.int (hiI u10_0)), .val (.int (0 : Int32)), .val (.int (u11_0.toInt32)), .val (.int (hiI u11_0)), .val (.int (u35_0.toInt32)), .unset, .unset] [(.int (0 : Int32))])
      refine Runs.back (fun t_ k_ => XS.istore X36.here hx rfl (hb hby at_335) rfl (l' := #[.val (.int p0), .val (.int p1), .val (.int p2), .val (.int p3), .val (.int p4), .val (.int nd0), .val (.int nd1), .val (.int nd2), .val (.int nd3), .val (.int pt0), .val (.int pt1), .val (.int pt2), .val (.int pt3), .val (.int (rankF nd0 nd1 nd2 nd3)), .val (.int (rankF nd1 nd0 nd2 nd3)), .val (.int (rankF nd2 nd0 nd1 nd3)), .val (.int (rankF nd3 nd0 nd1 nd2)), .val (.ref ob5), .val (.int (hiI u10_0)), .val (.int (0 : Int32)), .val (.int (u11_0.toInt32)), .val (.int (hiI u11_0)), .val (.int (u35_0.toInt32)), .unset, .unset]) rfl k_) ?_
      show Runs _ _ _ _ T36 (mkF m 337 #[.val (.int p0), .val (.int p1), .val (.int p2), .val (.int p3), .val (.int p4), .val (.int nd0), .val (.int nd1), .val (.int nd2), .val (.int nd3), .val (.int pt0), .val (.int pt1), .val (.int pt2), .val (.int pt3), .val (.int (rankF nd0 nd1 nd2 nd3)), .val (.int (rankF nd1 nd0 nd2 nd3)), .val (.int (rankF nd2 nd0 nd1 nd3)), .val (.int (rankF nd3 nd0 nd1 nd2)), .val (.ref ob5), .val (.int (hiI u10_0)), .val (.int (0 : Int32)), .val (.int (u11_0.toInt32)), .val (.int (hiI u11_0)), .val (.int (u35_0.toInt32)), .unset, .unset] [])
      refine Runs.back (fun t_ k_ => XS.aload X36.here hx rfl (hb hby at_337) rfl rfl k_) ?_
      show Runs _ _ _ _ T36 (mkF m 339 #[.val (.int p0), .val (.int p1), .val (.int p2), .val (.int p3), .val (.int p4), .val (.int nd0), .val (.int nd1), .val (.int nd2), .val (.int nd3), .val (.int pt0), .val (.int pt1), .val (.int pt2), .val (.int pt3), .val (.int (rankF nd0 nd1 nd2 nd3)), .val (.int (rankF nd1 nd0 nd2 nd3)), .val (.int (rankF nd2 nd0 nd1 nd3)), .val (.int (rankF nd3 nd0 nd1 nd2)), .val (.ref ob5), .val (.int (hiI u10_0)), .val (.int (0 : Int32)), .val (.int (u11_0.toInt32)), .val (.int (hiI u11_0)), .val (.int (u35_0.toInt32)), .unset, .unset] [(.ref ob5)])
      obtain ⟨cq37, kq37, q37a, q37b, q37c⟩ := isOf hZ eq36 iE35
      obtain ⟨_, _, ⟨T37, L37, k37, n37⟩, -, X37, ⟨Lc37, hQ37, l37, y37, z37⟩, st37⟩ := X36.virtualBack hx (y := (⟨"com/example/tradewheel/tradewheel/PartQueue", "remove", "()I"⟩ : MethodName)) (z := (⟨"com/example/tradewheel/tradewheel/PartQueue", "remove", "()I"⟩ : MethodName)) hown (mvT hZ (hw _ (List.mem_of_getElem? (i := 24) rfl))) (mvT hZ (hw _ (List.mem_of_getElem? (i := 25) rfl))) (notFace_of_selects (args := #[]) (mvT hZ (hw _ (List.mem_of_getElem? (i := 27) rfl)))) (mvT hZ (hw _ (List.mem_of_getElem? (i := 27) rfl))) (mvT hZ (hw _ (List.mem_of_getElem? (i := 26) rfl))) (by decide) (backOf (W := 0) (rm5s2 l Z a0 hw [] ob5  b6 _ u35_0 u35_1 T35.heap n0 (Z35) iE35 iF35 iG35 iA35 ne_ob5_b6 g_ob5 g_b6 hu35_0 hu35_1) hZ (hw _ (List.mem_of_getElem? (i := 28) rfl)) (hw _ (List.mem_of_getElem? (i := 7) rfl)) (by decide) (by decide)) q37a q37c (g := (mkF m 339 #[.val (.int p0), .val (.int p1), .val (.int p2), .val (.int p3), .val (.int p4), .val (.int nd0), .val (.int nd1), .val (.int nd2), .val (.int nd3), .val (.int pt0), .val (.int pt1), .val (.int pt2), .val (.int pt3), .val (.int (rankF nd0 nd1 nd2 nd3)), .val (.int (rankF nd1 nd0 nd2 nd3)), .val (.int (rankF nd2 nd0 nd1 nd3)), .val (.int (rankF nd3 nd0 nd1 nd2)), .val (.ref ob5), .val (.int (hiI u10_0)), .val (.int (0 : Int32)), .val (.int (u11_0.toInt32)), .val (.int (hiI u11_0)), .val (.int (u35_0.toInt32)), .unset, .unset] [(.ref ob5)])) rfl (by rw [hml]; rfl) (Steps.refl _) (argsL := []) (rest := []) (lenOf pd0_3 rfl) rfl (by show 2 * 0 + _ ≤ _; exact Nat.le_of_eq rfl) (hb hby at_339) (fun _ _ => ⟨rfl, eq36, (by decide : 2 + 0 ≤ _), (by decide : 6 + 0 ≤ _)⟩)
      dsimp only [Pt.U, Pt.locs, Pt.cells, Pt.slots] at X37 l37 y37 z37 st37 hQ37
      obtain rfl : k37 = 2 := y37
      obtain rfl : n37 = 6 := z37
      obtain ⟨rfl, N37q, K37, iE37, iF37, iG37, fq37, u37_0, iA37, hu37_0, rel37⟩ := hQ37
      have N37 : Fr n0 L37 := by rw [l37]; exact Fr.app N36 N37q
      clear l37
      have f37_Exa_0 : Exa Z T37.heap ob5 "com/example/tradewheel/tradewheel/PartQueue" := iE35.keep K37
      have Z37 : n0 ≤ T37.heap.size := Nat.le_trans (Z35) K37.1
      refine Runs.trans st37 ?_
      show Runs _ _ _ _ T37 (mkF m 342 #[.val (.int p0), .val (.int p1), .val (.int p2), .val (.int p3), .val (.int p4), .val (.int nd0), .val (.int nd1), .val (.int nd2), .val (.int nd3), .val (.int pt0), .val (.int pt1), .val (.int pt2), .val (.int pt3), .val (.int (rankF nd0 nd1 nd2 nd3)), .val (.int (rankF nd1 nd0 nd2 nd3)), .val (.int (rankF nd2 nd0 nd1 nd3)), .val (.int (rankF nd3 nd0 nd1 nd2)), .val (.ref ob5), .val (.int (hiI u10_0)), .val (.int (0 : Int32)), .val (.int (u11_0.toInt32)), .val (.int (hiI u11_0)), .val (.int (u35_0.toInt32)), .unset, .unset] [(.int (hiI u35_0))])
      refine Runs.back (fun t_ k_ => XS.istore X37.here hx rfl (hb hby at_342) rfl (l' := #[.val (.int p0), .val (.int p1), .val (.int p2), .val (.int p3), .val (.int p4), .val (.int nd0), .val (.int nd1), .val (.int nd2), .val (.int nd3), .val (.int pt0), .val (.int pt1), .val (.int pt2), .val (.int pt3), .val (.int (rankF nd0 nd1 nd2 nd3)), .val (.int (rankF nd1 nd0 nd2 nd3)), .val (.int (rankF nd2 nd0 nd1 nd3)), .val (.int (rankF nd3 nd0 nd1 nd2)), .val (.ref ob5), .val (.int (hiI u10_0)), .val (.int (0 : Int32)), .val (.int (u11_0.toInt32)), .val (.int (hiI u11_0)), .val (.int (u35_0.toInt32)), .val (.int (hiI u35_0)), .unset]) rfl k_) ?_
      show Runs _ _ _ _ T37 (mkF m 344 #[.val (.int p0), .val (.int p1), .val (.int p2), .val (.int p3), .val (.int p4), .val (.int nd0), .val (.int nd1), .val (.int nd2), .val (.int nd3), .val (.int pt0), .val (.int pt1), .val (.int pt2), .val (.int pt3), .val (.int (rankF nd0 nd1 nd2 nd3)), .val (.int (rankF nd1 nd0 nd2 nd3)), .val (.int (rankF nd2 nd0 nd1 nd3)), .val (.int (rankF nd3 nd0 nd1 nd2)), .val (.ref ob5), .val (.int (hiI u10_0)), .val (.int (0 : Int32)), .val (.int (u11_0.toInt32)), .val (.int (hiI u11_0)), .val (.int (u35_0.toInt32)), .val (.int (hiI u35_0)), .unset] [])
      refine Runs.back (fun t_ k_ => XS.iload X37.here hx rfl (hb hby at_344) rfl k_) ?_
      show Runs _ _ _ _ T37 (mkF m 346 #[.val (.int p0), .val (.int p1), .val (.int p2), .val (.int p3), .val (.int p4), .val (.int nd0), .val (.int nd1), .val (.int nd2), .val (.int nd3), .val (.int pt0), .val (.int pt1), .val (.int pt2), .val (.int pt3), .val (.int (rankF nd0 nd1 nd2 nd3)), .val (.int (rankF nd1 nd0 nd2 nd3)), .val (.int (rankF nd2 nd0 nd1 nd3)), .val (.int (rankF nd3 nd0 nd1 nd2)), .val (.ref ob5), .val (.int (hiI u10_0)), .val (.int (0 : Int32)), .val (.int (u11_0.toInt32)), .val (.int (hiI u11_0)), .val (.int (u35_0.toInt32)), .val (.int (hiI u35_0)), .unset] [(.int (0 : Int32))])
      refine Runs.back (fun t_ k_ => XS.ifYes X37.here hx rfl (pc0 := 346) (pc' := 378) rfl (hb hby at_346) rfl ((if0 _ _).trans (teq (show (0 : Int32) = (0 : Int32) from rfl)).1) (by decide) (by decide) k_) ?_
      show Runs _ _ _ _ T37 (mkF m 378 #[.val (.int p0), .val (.int p1), .val (.int p2), .val (.int p3), .val (.int p4), .val (.int nd0), .val (.int nd1), .val (.int nd2), .val (.int nd3), .val (.int pt0), .val (.int pt1), .val (.int pt2), .val (.int pt3), .val (.int (rankF nd0 nd1 nd2 nd3)), .val (.int (rankF nd1 nd0 nd2 nd3)), .val (.int (rankF nd2 nd0 nd1 nd3)), .val (.int (rankF nd3 nd0 nd1 nd2)), .val (.ref ob5), .val (.int (hiI u10_0)), .val (.int (0 : Int32)), .val (.int (u11_0.toInt32)), .val (.int (hiI u11_0)), .val (.int (u35_0.toInt32)), .val (.int (hiI u35_0)), .unset] [])
      refine Runs.back (fun t_ k_ => XS.iconst X37.here hx rfl (hb hby at_378) k_) ?_
      show Runs _ _ _ _ T37 (mkF m 379 #[.val (.int p0), .val (.int p1), .val (.int p2), .val (.int p3), .val (.int p4), .val (.int nd0), .val (.int nd1), .val (.int nd2), .val (.int nd3), .val (.int pt0), .val (.int pt1), .val (.int pt2), .val (.int pt3), .val (.int (rankF nd0 nd1 nd2 nd3)), .val (.int (rankF nd1 nd0 nd2 nd3)), .val (.int (rankF nd2 nd0 nd1 nd3)), .val (.int (rankF nd3 nd0 nd1 nd2)), .val (.ref ob5), .val (.int (hiI u10_0)), .val (.int (0 : Int32)), .val (.int (u11_0.toInt32)), .val (.int (hiI u11_0)), .val (.int (u35_0.toInt32)), .val (.int (hiI u35_0)), .unset] [(.int (0 : Int32))])
      refine Runs.back (fun t_ k_ => XS.istore X37.here hx rfl (hb hby at_379) rfl (l' := #[.val (.int p0), .val (.int p1), .val (.int p2), .val (.int p3), .val (.int p4), .val (.int nd0), .val (.int nd1), .val (.int nd2), .val (.int nd3), .val (.int pt0), .val (.int pt1), .val (.int pt2), .val (.int pt3), .val (.int (rankF nd0 nd1 nd2 nd3)), .val (.int (rankF nd1 nd0 nd2 nd3)), .val (.int (rankF nd2 nd0 nd1 nd3)), .val (.int (rankF nd3 nd0 nd1 nd2)), .val (.ref ob5), .val (.int (hiI u10_0)), .val (.int (0 : Int32)), .val (.int (u11_0.toInt32)), .val (.int (hiI u11_0)), .val (.int (u35_0.toInt32)), .val (.int (hiI u35_0)), .unset]) rfl k_) ?_
      show Runs _ _ _ _ T37 (mkF m 381 #[.val (.int p0), .val (.int p1), .val (.int p2), .val (.int p3), .val (.int p4), .val (.int nd0), .val (.int nd1), .val (.int nd2), .val (.int nd3), .val (.int pt0), .val (.int pt1), .val (.int pt2), .val (.int pt3), .val (.int (rankF nd0 nd1 nd2 nd3)), .val (.int (rankF nd1 nd0 nd2 nd3)), .val (.int (rankF nd2 nd0 nd1 nd3)), .val (.int (rankF nd3 nd0 nd1 nd2)), .val (.ref ob5), .val (.int (hiI u10_0)), .val (.int (0 : Int32)), .val (.int (u11_0.toInt32)), .val (.int (hiI u11_0)), .val (.int (u35_0.toInt32)), .val (.int (hiI u35_0)), .unset] [])
      refine Runs.back (fun t_ k_ => XS.aload X37.here hx rfl (hb hby at_381) rfl rfl k_) ?_
      show Runs _ _ _ _ T37 (mkF m 383 #[.val (.int p0), .val (.int p1), .val (.int p2), .val (.int p3), .val (.int p4), .val (.int nd0), .val (.int nd1), .val (.int nd2), .val (.int nd3), .val (.int pt0), .val (.int pt1), .val (.int pt2), .val (.int pt3), .val (.int (rankF nd0 nd1 nd2 nd3)), .val (.int (rankF nd1 nd0 nd2 nd3)), .val (.int (rankF nd2 nd0 nd1 nd3)), .val (.int (rankF nd3 nd0 nd1 nd2)), .val (.ref ob5), .val (.int (hiI u10_0)), .val (.int (0 : Int32)), .val (.int (u11_0.toInt32)), .val (.int (hiI u11_0)), .val (.int (u35_0.toInt32)), .val (.int (hiI u35_0)), .unset] [(.ref ob5)])
      obtain ⟨cq38, kq38, q38a, q38b, q38c⟩ := isOf hZ rfl iE37
      obtain ⟨_, _, ⟨T38, L38, k38, n38⟩, -, X38, ⟨Lc38, hQ38, l38, y38, z38⟩, st38⟩ := X37.virtualBack hx (y := (⟨"com/example/tradewheel/tradewheel/PartQueue", "remove", "()I"⟩ : MethodName)) (z := (⟨"com/example/tradewheel/tradewheel/PartQueue", "remove", "()I"⟩ : MethodName)) hown (mvT hZ (hw _ (List.mem_of_getElem? (i := 24) rfl))) (mvT hZ (hw _ (List.mem_of_getElem? (i := 25) rfl))) (notFace_of_selects (args := #[]) (mvT hZ (hw _ (List.mem_of_getElem? (i := 27) rfl)))) (mvT hZ (hw _ (List.mem_of_getElem? (i := 27) rfl))) (mvT hZ (hw _ (List.mem_of_getElem? (i := 26) rfl))) (by decide) (backOf (W := 0) (rm5s1 l Z a0 hw [] ob5  b6 _ u37_0 T37.heap n0 (Z37) iE37 iF37 iG37 iA37 ne_ob5_b6 g_ob5 g_b6 hu37_0) hZ (hw _ (List.mem_of_getElem? (i := 28) rfl)) (hw _ (List.mem_of_getElem? (i := 7) rfl)) (by decide) (by decide)) q38a q38c (g := (mkF m 383 #[.val (.int p0), .val (.int p1), .val (.int p2), .val (.int p3), .val (.int p4), .val (.int nd0), .val (.int nd1), .val (.int nd2), .val (.int nd3), .val (.int pt0), .val (.int pt1), .val (.int pt2), .val (.int pt3), .val (.int (rankF nd0 nd1 nd2 nd3)), .val (.int (rankF nd1 nd0 nd2 nd3)), .val (.int (rankF nd2 nd0 nd1 nd3)), .val (.int (rankF nd3 nd0 nd1 nd2)), .val (.ref ob5), .val (.int (hiI u10_0)), .val (.int (0 : Int32)), .val (.int (u11_0.toInt32)), .val (.int (hiI u11_0)), .val (.int (u35_0.toInt32)), .val (.int (hiI u35_0)), .unset] [(.ref ob5)])) rfl (by rw [hml]; rfl) (Steps.refl _) (argsL := []) (rest := []) (lenOf pd0_3 rfl) rfl (by show 2 * 0 + _ ≤ _; exact Nat.le_of_eq rfl) (hb hby at_383) (fun _ _ => ⟨rfl, rfl, (by decide : 2 + 0 ≤ _), (by decide : 6 + 0 ≤ _)⟩)
      dsimp only [Pt.U, Pt.locs, Pt.cells, Pt.slots] at X38 l38 y38 z38 st38 hQ38
      obtain rfl : k38 = 2 := y38
      obtain rfl : n38 = 6 := z38
      obtain ⟨rfl, N38q, K38, iE38, iF38, iG38, fq38, iA38, rel38⟩ := hQ38
      have N38 : Fr n0 L38 := by rw [l38]; exact Fr.app N37 N38q
      clear l38
      have f38_Exa_0 : Exa Z T38.heap ob5 "com/example/tradewheel/tradewheel/PartQueue" := iE37.keep K38
      have Z38 : n0 ≤ T38.heap.size := Nat.le_trans (Z37) K38.1
      refine Runs.trans st38 ?_
      show Runs _ _ _ _ T38 (mkF m 386 #[.val (.int p0), .val (.int p1), .val (.int p2), .val (.int p3), .val (.int p4), .val (.int nd0), .val (.int nd1), .val (.int nd2), .val (.int nd3), .val (.int pt0), .val (.int pt1), .val (.int pt2), .val (.int pt3), .val (.int (rankF nd0 nd1 nd2 nd3)), .val (.int (rankF nd1 nd0 nd2 nd3)), .val (.int (rankF nd2 nd0 nd1 nd3)), .val (.int (rankF nd3 nd0 nd1 nd2)), .val (.ref ob5), .val (.int (hiI u10_0)), .val (.int (0 : Int32)), .val (.int (u11_0.toInt32)), .val (.int (hiI u11_0)), .val (.int (u35_0.toInt32)), .val (.int (hiI u35_0)), .unset] [(.int (hiI u37_0))])
      refine Runs.back (fun t_ k_ => XS.istore X38.here hx rfl (hb hby at_386) rfl (l' := #[.val (.int p0), .val (.int p1), .val (.int p2), .val (.int p3), .val (.int p4), .val (.int nd0), .val (.int nd1), .val (.int nd2), .val (.int nd3), .val (.int pt0), .val (.int pt1), .val (.int pt2), .val (.int pt3), .val (.int (rankF nd0 nd1 nd2 nd3)), .val (.int (rankF nd1 nd0 nd2 nd3)), .val (.int (rankF nd2 nd0 nd1 nd3)), .val (.int (rankF nd3 nd0 nd1 nd2)), .val (.ref ob5), .val (.int (hiI u10_0)), .val (.int (0 : Int32)), .val (.int (u11_0.toInt32)), .val (.int (hiI u11_0)), .val (.int (u35_0.toInt32)), .val (.int (hiI u35_0)), .val (.int (hiI u37_0))]) rfl k_) ?_
      show Runs _ _ _ _ T38 (mkF m 388 #[.val (.int p0), .val (.int p1), .val (.int p2), .val (.int p3), .val (.int p4), .val (.int nd0), .val (.int nd1), .val (.int nd2), .val (.int nd3), .val (.int pt0), .val (.int pt1), .val (.int pt2), .val (.int pt3), .val (.int (rankF nd0 nd1 nd2 nd3)), .val (.int (rankF nd1 nd0 nd2 nd3)), .val (.int (rankF nd2 nd0 nd1 nd3)), .val (.int (rankF nd3 nd0 nd1 nd2)), .val (.ref ob5), .val (.int (hiI u10_0)), .val (.int (0 : Int32)), .val (.int (u11_0.toInt32)), .val (.int (hiI u11_0)), .val (.int (u35_0.toInt32)), .val (.int (hiI u35_0)), .val (.int (hiI u37_0))] [])
      refine Runs.back (fun t_ k_ => XS.iload X38.here hx rfl (hb hby at_388) rfl k_) ?_
      show Runs _ _ _ _ T38 (mkF m 390 #[.val (.int p0), .val (.int p1), .val (.int p2), .val (.int p3), .val (.int p4), .val (.int nd0), .val (.int nd1), .val (.int nd2), .val (.int nd3), .val (.int pt0), .val (.int pt1), .val (.int pt2), .val (.int pt3), .val (.int (rankF nd0 nd1 nd2 nd3)), .val (.int (rankF nd1 nd0 nd2 nd3)), .val (.int (rankF nd2 nd0 nd1 nd3)), .val (.int (rankF nd3 nd0 nd1 nd2)), .val (.ref ob5), .val (.int (hiI u10_0)), .val (.int (0 : Int32)), .val (.int (u11_0.toInt32)), .val (.int (hiI u11_0)), .val (.int (u35_0.toInt32)), .val (.int (hiI u35_0)), .val (.int (hiI u37_0))] [(.int (0 : Int32))])
      refine Runs.back (fun t_ k_ => XS.ifYes X38.here hx rfl (pc0 := 390) (pc' := 422) rfl (hb hby at_390) rfl ((if0 _ _).trans (teq (show (0 : Int32) = (0 : Int32) from rfl)).1) (by decide) (by decide) k_) ?_
      show Runs _ _ _ _ T38 (mkF m 422 #[.val (.int p0), .val (.int p1), .val (.int p2), .val (.int p3), .val (.int p4), .val (.int nd0), .val (.int nd1), .val (.int nd2), .val (.int nd3), .val (.int pt0), .val (.int pt1), .val (.int pt2), .val (.int pt3), .val (.int (rankF nd0 nd1 nd2 nd3)), .val (.int (rankF nd1 nd0 nd2 nd3)), .val (.int (rankF nd2 nd0 nd1 nd3)), .val (.int (rankF nd3 nd0 nd1 nd2)), .val (.ref ob5), .val (.int (hiI u10_0)), .val (.int (0 : Int32)), .val (.int (u11_0.toInt32)), .val (.int (hiI u11_0)), .val (.int (u35_0.toInt32)), .val (.int (hiI u35_0)), .val (.int (hiI u37_0))] [])
      refine Runs.back (fun t_ k_ => XS.iconst X38.here hx rfl (hb hby at_422) k_) ?_
      show Runs _ _ _ _ T38 (mkF m 423 #[.val (.int p0), .val (.int p1), .val (.int p2), .val (.int p3), .val (.int p4), .val (.int nd0), .val (.int nd1), .val (.int nd2), .val (.int nd3), .val (.int pt0), .val (.int pt1), .val (.int pt2), .val (.int pt3), .val (.int (rankF nd0 nd1 nd2 nd3)), .val (.int (rankF nd1 nd0 nd2 nd3)), .val (.int (rankF nd2 nd0 nd1 nd3)), .val (.int (rankF nd3 nd0 nd1 nd2)), .val (.ref ob5), .val (.int (hiI u10_0)), .val (.int (0 : Int32)), .val (.int (u11_0.toInt32)), .val (.int (hiI u11_0)), .val (.int (u35_0.toInt32)), .val (.int (hiI u35_0)), .val (.int (hiI u37_0))] [(.int (0 : Int32))])
      refine Runs.back (fun t_ k_ => XS.istore X38.here hx rfl (hb hby at_423) rfl (l' := #[.val (.int p0), .val (.int p1), .val (.int p2), .val (.int p3), .val (.int p4), .val (.int nd0), .val (.int nd1), .val (.int nd2), .val (.int nd3), .val (.int pt0), .val (.int pt1), .val (.int pt2), .val (.int pt3), .val (.int (rankF nd0 nd1 nd2 nd3)), .val (.int (rankF nd1 nd0 nd2 nd3)), .val (.int (rankF nd2 nd0 nd1 nd3)), .val (.int (rankF nd3 nd0 nd1 nd2)), .val (.ref ob5), .val (.int (hiI u10_0)), .val (.int (0 : Int32)), .val (.int (u11_0.toInt32)), .val (.int (hiI u11_0)), .val (.int (u35_0.toInt32)), .val (.int (hiI u35_0)), .val (.int (hiI u37_0))]) rfl k_) ?_
      show Runs _ _ _ _ T38 (mkF m 425 #[.val (.int p0), .val (.int p1), .val (.int p2), .val (.int p3), .val (.int p4), .val (.int nd0), .val (.int nd1), .val (.int nd2), .val (.int nd3), .val (.int pt0), .val (.int pt1), .val (.int pt2), .val (.int pt3), .val (.int (rankF nd0 nd1 nd2 nd3)), .val (.int (rankF nd1 nd0 nd2 nd3)), .val (.int (rankF nd2 nd0 nd1 nd3)), .val (.int (rankF nd3 nd0 nd1 nd2)), .val (.ref ob5), .val (.int (hiI u10_0)), .val (.int (0 : Int32)), .val (.int (u11_0.toInt32)), .val (.int (hiI u11_0)), .val (.int (u35_0.toInt32)), .val (.int (hiI u35_0)), .val (.int (hiI u37_0))] [])
      refine Runs.back (fun t_ k_ => XS.iload X38.here hx rfl (hb hby at_425) rfl k_) ?_
      show Runs _ _ _ _ T38 (mkF m 427 #[.val (.int p0), .val (.int p1), .val (.int p2), .val (.int p3), .val (.int p4), .val (.int nd0), .val (.int nd1), .val (.int nd2), .val (.int nd3), .val (.int pt0), .val (.int pt1), .val (.int pt2), .val (.int pt3), .val (.int (rankF nd0 nd1 nd2 nd3)), .val (.int (rankF nd1 nd0 nd2 nd3)), .val (.int (rankF nd2 nd0 nd1 nd3)), .val (.int (rankF nd3 nd0 nd1 nd2)), .val (.ref ob5), .val (.int (hiI u10_0)), .val (.int (0 : Int32)), .val (.int (u11_0.toInt32)), .val (.int (hiI u11_0)), .val (.int (u35_0.toInt32)), .val (.int (hiI u35_0)), .val (.int (hiI u37_0))] [(.int (0 : Int32))])
      obtain ⟨fs, hr, hrun, hended, hW, hsame⟩ := X38.leave (v := some (.int (0 : Int32))) (fun h => by rw [Bd.returns] at h; cases h)
      have WH := whole F4 rel7 rel8 rel9 rel10 rel11 rel35 rel37 rfl
      exact ⟨_, _, (retN X38 hx (t := .boolean) Bd.returns (by simp) (hb hby at_427) hr), hrun, hended, _, _, rfl, ⟨(c239_16 (WH.2.1.2)).elim, N38⟩, ⟨_, rfl⟩, hW, hsame.mono (by decide) (by decide)⟩
  · refine Runs.back (fun t_ k_ => XS.icmpYes X12.here hx rfl (pc0 := 195) (pc' := 202) rfl (hb hby at_195) rfl (feq c195_13).2 (by decide) (by decide) k_) ?_
    show Runs _ _ _ _ T12 (mkF m 202 #[.val (.int p0), .val (.int p1), .val (.int p2), .val (.int p3), .val (.int p4), .val (.int nd0), .val (.int nd1), .val (.int nd2), .val (.int nd3), .val (.int pt0), .val (.int pt1), .val (.int pt2), .val (.int pt3), .val (.int (rankF nd0 nd1 nd2 nd3)), .val (.int (rankF nd1 nd0 nd2 nd3)), .val (.int (rankF nd2 nd0 nd1 nd3)), .val (.int (rankF nd3 nd0 nd1 nd2)), .val (.ref ob5), .val (.int (hiI u10_0)), .unset, .unset, .unset, .unset, .unset, .unset] [])
    refine Runs.back (fun t_ k_ => XS.iconst X12.here hx rfl (hb hby at_202) k_) ?_
    show Runs _ _ _ _ T12 (mkF m 203 #[.val (.int p0), .val (.int p1), .val (.int p2), .val (.int p3), .val (.int p4), .val (.int nd0), .val (.int nd1), .val (.int nd2), .val (.int nd3), .val (.int pt0), .val (.int pt1), .val (.int pt2), .val (.int pt3), .val (.int (rankF nd0 nd1 nd2 nd3)), .val (.int (rankF nd1 nd0 nd2 nd3)), .val (.int (rankF nd2 nd0 nd1 nd3)), .val (.int (rankF nd3 nd0 nd1 nd2)), .val (.ref ob5), .val (.int (hiI u10_0)), .unset, .unset, .unset, .unset, .unset, .unset] [(.int (0 : Int32))])
    refine Runs.back (fun t_ k_ => XS.istore X12.here hx rfl (hb hby at_203) rfl (l' := #[.val (.int p0), .val (.int p1), .val (.int p2), .val (.int p3), .val (.int p4), .val (.int nd0), .val (.int nd1), .val (.int nd2), .val (.int nd3), .val (.int pt0), .val (.int pt1), .val (.int pt2), .val (.int pt3), .val (.int (rankF nd0 nd1 nd2 nd3)), .val (.int (rankF nd1 nd0 nd2 nd3)), .val (.int (rankF nd2 nd0 nd1 nd3)), .val (.int (rankF nd3 nd0 nd1 nd2)), .val (.ref ob5), .val (.int (hiI u10_0)), .val (.int (0 : Int32)), .unset, .unset, .unset, .unset, .unset]) rfl k_) ?_
    show Runs _ _ _ _ T12 (mkF m 205 #[.val (.int p0), .val (.int p1), .val (.int p2), .val (.int p3), .val (.int p4), .val (.int nd0), .val (.int nd1), .val (.int nd2), .val (.int nd3), .val (.int pt0), .val (.int pt1), .val (.int pt2), .val (.int pt3), .val (.int (rankF nd0 nd1 nd2 nd3)), .val (.int (rankF nd1 nd0 nd2 nd3)), .val (.int (rankF nd2 nd0 nd1 nd3)), .val (.int (rankF nd3 nd0 nd1 nd2)), .val (.ref ob5), .val (.int (hiI u10_0)), .val (.int (0 : Int32)), .unset, .unset, .unset, .unset, .unset] [])
    refine Runs.back (fun t_ k_ => XS.aload X12.here hx rfl (hb hby at_205) rfl rfl k_) ?_
    show Runs _ _ _ _ T12 (mkF m 207 #[.val (.int p0), .val (.int p1), .val (.int p2), .val (.int p3), .val (.int p4), .val (.int nd0), .val (.int nd1), .val (.int nd2), .val (.int nd3), .val (.int pt0), .val (.int pt1), .val (.int pt2), .val (.int pt3), .val (.int (rankF nd0 nd1 nd2 nd3)), .val (.int (rankF nd1 nd0 nd2 nd3)), .val (.int (rankF nd2 nd0 nd1 nd3)), .val (.int (rankF nd3 nd0 nd1 nd2)), .val (.ref ob5), .val (.int (hiI u10_0)), .val (.int (0 : Int32)), .unset, .unset, .unset, .unset, .unset] [(.ref ob5)])
    obtain ⟨cq39, kq39, q39a, q39b, q39c⟩ := isOf hZ eq12 iE11
    obtain ⟨_, _, ⟨T39, L39, k39, n39⟩, -, X39, ⟨Lc39, hQ39, l39, y39, z39⟩, st39⟩ := X12.virtualBack hx (y := (⟨"com/example/tradewheel/tradewheel/PartQueue", "part", "()I"⟩ : MethodName)) (z := (⟨"com/example/tradewheel/tradewheel/PartQueue", "part", "()I"⟩ : MethodName)) hown (mvT hZ (hw _ (List.mem_of_getElem? (i := 32) rfl))) (mvT hZ (hw _ (List.mem_of_getElem? (i := 33) rfl))) (notFace_of_selects (args := #[]) (mvT hZ (hw _ (List.mem_of_getElem? (i := 35) rfl)))) (mvT hZ (hw _ (List.mem_of_getElem? (i := 35) rfl))) (mvT hZ (hw _ (List.mem_of_getElem? (i := 34) rfl))) (by decide) (backOf (W := 0) (rm7 l Z a0 hw [] ob5 b6 _ u11_0 T11.heap n0 (Z11) iF11 iA11 hu11_0) hZ (hw _ (List.mem_of_getElem? (i := 36) rfl)) (hw _ (List.mem_of_getElem? (i := 7) rfl)) (by decide) (by decide)) q39a q39c (g := (mkF m 207 #[.val (.int p0), .val (.int p1), .val (.int p2), .val (.int p3), .val (.int p4), .val (.int nd0), .val (.int nd1), .val (.int nd2), .val (.int nd3), .val (.int pt0), .val (.int pt1), .val (.int pt2), .val (.int pt3), .val (.int (rankF nd0 nd1 nd2 nd3)), .val (.int (rankF nd1 nd0 nd2 nd3)), .val (.int (rankF nd2 nd0 nd1 nd3)), .val (.int (rankF nd3 nd0 nd1 nd2)), .val (.ref ob5), .val (.int (hiI u10_0)), .val (.int (0 : Int32)), .unset, .unset, .unset, .unset, .unset] [(.ref ob5)])) rfl (by rw [hml]; rfl) (Steps.refl _) (argsL := []) (rest := []) (lenOf pd0_3 rfl) rfl (by show 2 * 0 + _ ≤ _; exact Nat.le_of_eq rfl) (hb hby at_207) (fun _ _ => ⟨rfl, eq12, (by decide : 2 + 0 ≤ _), (by decide : 6 + 0 ≤ _)⟩)
    dsimp only [Pt.U, Pt.locs, Pt.cells, Pt.slots] at X39 l39 y39 z39 st39 hQ39
    obtain rfl : k39 = 2 := y39
    obtain rfl : n39 = 6 := z39
    obtain ⟨rfl, N39q, eq39⟩ := hQ39
    have N39 : Fr n0 L39 := by rw [l39]; exact Fr.app N12 N39q
    clear l39
    refine Runs.trans st39 ?_
    show Runs _ _ _ _ T39 (mkF m 210 #[.val (.int p0), .val (.int p1), .val (.int p2), .val (.int p3), .val (.int p4), .val (.int nd0), .val (.int nd1), .val (.int nd2), .val (.int nd3), .val (.int pt0), .val (.int pt1), .val (.int pt2), .val (.int pt3), .val (.int (rankF nd0 nd1 nd2 nd3)), .val (.int (rankF nd1 nd0 nd2 nd3)), .val (.int (rankF nd2 nd0 nd1 nd3)), .val (.int (rankF nd3 nd0 nd1 nd2)), .val (.ref ob5), .val (.int (hiI u10_0)), .val (.int (0 : Int32)), .unset, .unset, .unset, .unset, .unset] [(.int (u11_0.toInt32))])
    refine Runs.back (fun t_ k_ => XS.istore X39.here hx rfl (hb hby at_210) rfl (l' := #[.val (.int p0), .val (.int p1), .val (.int p2), .val (.int p3), .val (.int p4), .val (.int nd0), .val (.int nd1), .val (.int nd2), .val (.int nd3), .val (.int pt0), .val (.int pt1), .val (.int pt2), .val (.int pt3), .val (.int (rankF nd0 nd1 nd2 nd3)), .val (.int (rankF nd1 nd0 nd2 nd3)), .val (.int (rankF nd2 nd0 nd1 nd3)), .val (.int (rankF nd3 nd0 nd1 nd2)), .val (.ref ob5), .val (.int (hiI u10_0)), .val (.int (0 : Int32)), .val (.int (u11_0.toInt32)), .unset, .unset, .unset, .unset]) rfl k_) ?_
    show Runs _ _ _ _ T39 (mkF m 212 #[.val (.int p0), .val (.int p1), .val (.int p2), .val (.int p3), .val (.int p4), .val (.int nd0), .val (.int nd1), .val (.int nd2), .val (.int nd3), .val (.int pt0), .val (.int pt1), .val (.int pt2), .val (.int pt3), .val (.int (rankF nd0 nd1 nd2 nd3)), .val (.int (rankF nd1 nd0 nd2 nd3)), .val (.int (rankF nd2 nd0 nd1 nd3)), .val (.int (rankF nd3 nd0 nd1 nd2)), .val (.ref ob5), .val (.int (hiI u10_0)), .val (.int (0 : Int32)), .val (.int (u11_0.toInt32)), .unset, .unset, .unset, .unset] [])
    refine Runs.back (fun t_ k_ => XS.iload X39.here hx rfl (hb hby at_212) rfl k_) ?_
    show Runs _ _ _ _ T39 (mkF m 214 #[.val (.int p0), .val (.int p1), .val (.int p2), .val (.int p3), .val (.int p4), .val (.int nd0), .val (.int nd1), .val (.int nd2), .val (.int nd3), .val (.int pt0), .val (.int pt1), .val (.int pt2), .val (.int pt3), .val (.int (rankF nd0 nd1 nd2 nd3)), .val (.int (rankF nd1 nd0 nd2 nd3)), .val (.int (rankF nd2 nd0 nd1 nd3)), .val (.int (rankF nd3 nd0 nd1 nd2)), .val (.ref ob5), .val (.int (hiI u10_0)), .val (.int (0 : Int32)), .val (.int (u11_0.toInt32)), .unset, .unset, .unset, .unset] [(.int (0 : Int32))])
    refine Runs.back (fun t_ k_ => XS.ifYes X39.here hx rfl (pc0 := 214) (pc' := 246) rfl (hb hby at_214) rfl ((if0 _ _).trans (teq (show (0 : Int32) = (0 : Int32) from rfl)).1) (by decide) (by decide) k_) ?_
    show Runs _ _ _ _ T39 (mkF m 246 #[.val (.int p0), .val (.int p1), .val (.int p2), .val (.int p3), .val (.int p4), .val (.int nd0), .val (.int nd1), .val (.int nd2), .val (.int nd3), .val (.int pt0), .val (.int pt1), .val (.int pt2), .val (.int pt3), .val (.int (rankF nd0 nd1 nd2 nd3)), .val (.int (rankF nd1 nd0 nd2 nd3)), .val (.int (rankF nd2 nd0 nd1 nd3)), .val (.int (rankF nd3 nd0 nd1 nd2)), .val (.ref ob5), .val (.int (hiI u10_0)), .val (.int (0 : Int32)), .val (.int (u11_0.toInt32)), .unset, .unset, .unset, .unset] [])
    refine Runs.back (fun t_ k_ => XS.iconst X39.here hx rfl (hb hby at_246) k_) ?_
    show Runs _ _ _ _ T39 (mkF m 247 #[.val (.int p0), .val (.int p1), .val (.int p2), .val (.int p3), .val (.int p4), .val (.int nd0), .val (.int nd1), .val (.int nd2), .val (.int nd3), .val (.int pt0), .val (.int pt1), .val (.int pt2), .val (.int pt3), .val (.int (rankF nd0 nd1 nd2 nd3)), .val (.int (rankF nd1 nd0 nd2 nd3)), .val (.int (rankF nd2 nd0 nd1 nd3)), .val (.int (rankF nd3 nd0 nd1 nd2)), .val (.ref ob5), .val (.int (hiI u10_0)), .val (.int (0 : Int32)), .val (.int (u11_0.toInt32)), .unset, .unset, .unset, .unset] [(.int (0 : Int32))])
    refine Runs.back (fun t_ k_ => XS.istore X39.here hx rfl (hb hby at_247) rfl (l' := #[.val (.int p0), .val (.int p1), .val (.int p2), .val (.int p3), .val (.int p4), .val (.int nd0), .val (.int nd1), .val (.int nd2), .val (.int nd3), .val (.int pt0), .val (.int pt1), .val (.int pt2), .val (.int pt3), .val (.int (rankF nd0 nd1 nd2 nd3)), .val (.int (rankF nd1 nd0 nd2 nd3)), .val (.int (rankF nd2 nd0 nd1 nd3)), .val (.int (rankF nd3 nd0 nd1 nd2)), .val (.ref ob5), .val (.int (hiI u10_0)), .val (.int (0 : Int32)), .val (.int (u11_0.toInt32)), .unset, .unset, .unset, .unset]) rfl k_) ?_
    show Runs _ _ _ _ T39 (mkF m 249 #[.val (.int p0), .val (.int p1), .val (.int p2), .val (.int p3), .val (.int p4), .val (.int nd0), .val (.int nd1), .val (.int nd2), .val (.int nd3), .val (.int pt0), .val (.int pt1), .val (.int pt2), .val (.int pt3), .val (.int (rankF nd0 nd1 nd2 nd3)), .val (.int (rankF nd1 nd0 nd2 nd3)), .val (.int (rankF nd2 nd0 nd1 nd3)), .val (.int (rankF nd3 nd0 nd1 nd2)), .val (.ref ob5), .val (.int (hiI u10_0)), .val (.int (0 : Int32)), .val (.int (u11_0.toInt32)), .unset, .unset, .unset, .unset] [])
    refine Runs.back (fun t_ k_ => XS.aload X39.here hx rfl (hb hby at_249) rfl rfl k_) ?_
    show Runs _ _ _ _ T39 (mkF m 251 #[.val (.int p0), .val (.int p1), .val (.int p2), .val (.int p3), .val (.int p4), .val (.int nd0), .val (.int nd1), .val (.int nd2), .val (.int nd3), .val (.int pt0), .val (.int pt1), .val (.int pt2), .val (.int pt3), .val (.int (rankF nd0 nd1 nd2 nd3)), .val (.int (rankF nd1 nd0 nd2 nd3)), .val (.int (rankF nd2 nd0 nd1 nd3)), .val (.int (rankF nd3 nd0 nd1 nd2)), .val (.ref ob5), .val (.int (hiI u10_0)), .val (.int (0 : Int32)), .val (.int (u11_0.toInt32)), .unset, .unset, .unset, .unset] [(.ref ob5)])
    obtain ⟨cq40, kq40, q40a, q40b, q40c⟩ := isOf hZ eq39 iE11
    obtain ⟨_, _, ⟨T40, L40, k40, n40⟩, -, X40, ⟨Lc40, hQ40, l40, y40, z40⟩, st40⟩ := X39.virtualBack hx (y := (⟨"com/example/tradewheel/tradewheel/PartQueue", "remove", "()I"⟩ : MethodName)) (z := (⟨"com/example/tradewheel/tradewheel/PartQueue", "remove", "()I"⟩ : MethodName)) hown (mvT hZ (hw _ (List.mem_of_getElem? (i := 24) rfl))) (mvT hZ (hw _ (List.mem_of_getElem? (i := 25) rfl))) (notFace_of_selects (args := #[]) (mvT hZ (hw _ (List.mem_of_getElem? (i := 27) rfl)))) (mvT hZ (hw _ (List.mem_of_getElem? (i := 27) rfl))) (mvT hZ (hw _ (List.mem_of_getElem? (i := 26) rfl))) (by decide) (backOf (W := 0) (rm5s3 l Z a0 hw [] ob5  b6 _ u11_0 u11_1 u11_2 T11.heap n0 (Z11) iE11 iF11 iG11 iA11 ne_ob5_b6 g_ob5 g_b6 hu11_0 hu11_1 hu11_2) hZ (hw _ (List.mem_of_getElem? (i := 28) rfl)) (hw _ (List.mem_of_getElem? (i := 7) rfl)) (by decide) (by decide)) q40a q40c (g := (mkF m 251 #[.val (.int p0), .val (.int p1), .val (.int p2), .val (.int p3), .val (.int p4), .val (.int nd0), .val (.int nd1), .val (.int nd2), .val (.int nd3), .val (.int pt0), .val (.int pt1), .val (.int pt2), .val (.int pt3), .val (.int (rankF nd0 nd1 nd2 nd3)), .val (.int (rankF nd1 nd0 nd2 nd3)), .val (.int (rankF nd2 nd0 nd1 nd3)), .val (.int (rankF nd3 nd0 nd1 nd2)), .val (.ref ob5), .val (.int (hiI u10_0)), .val (.int (0 : Int32)), .val (.int (u11_0.toInt32)), .unset, .unset, .unset, .unset] [(.ref ob5)])) rfl (by rw [hml]; rfl) (Steps.refl _) (argsL := []) (rest := []) (lenOf pd0_3 rfl) rfl (by show 2 * 0 + _ ≤ _; exact Nat.le_of_eq rfl) (hb hby at_251) (fun _ _ => ⟨rfl, eq39, (by decide : 2 + 0 ≤ _), (by decide : 6 + 0 ≤ _)⟩)
    dsimp only [Pt.U, Pt.locs, Pt.cells, Pt.slots] at X40 l40 y40 z40 st40 hQ40
    obtain rfl : k40 = 2 := y40
    obtain rfl : n40 = 6 := z40
    obtain ⟨rfl, N40q, K40, iE40, iF40, iG40, fq40, u40_0, u40_1, iA40, hu40_0, hu40_1, rel40⟩ := hQ40
    have N40 : Fr n0 L40 := by rw [l40]; exact Fr.app N39 N40q
    clear l40
    have f40_Exa_0 : Exa Z T40.heap ob5 "com/example/tradewheel/tradewheel/PartQueue" := iE11.keep K40
    have Z40 : n0 ≤ T40.heap.size := Nat.le_trans (Z11) K40.1
    refine Runs.trans st40 ?_
    show Runs _ _ _ _ T40 (mkF m 254 #[.val (.int p0), .val (.int p1), .val (.int p2), .val (.int p3), .val (.int p4), .val (.int nd0), .val (.int nd1), .val (.int nd2), .val (.int nd3), .val (.int pt0), .val (.int pt1), .val (.int pt2), .val (.int pt3), .val (.int (rankF nd0 nd1 nd2 nd3)), .val (.int (rankF nd1 nd0 nd2 nd3)), .val (.int (rankF nd2 nd0 nd1 nd3)), .val (.int (rankF nd3 nd0 nd1 nd2)), .val (.ref ob5), .val (.int (hiI u10_0)), .val (.int (0 : Int32)), .val (.int (u11_0.toInt32)), .unset, .unset, .unset, .unset] [(.int (hiI u11_0))])
    refine Runs.back (fun t_ k_ => XS.istore X40.here hx rfl (hb hby at_254) rfl (l' := #[.val (.int p0), .val (.int p1), .val (.int p2), .val (.int p3), .val (.int p4), .val (.int nd0), .val (.int nd1), .val (.int nd2), .val (.int nd3), .val (.int pt0), .val (.int pt1), .val (.int pt2), .val (.int pt3), .val (.int (rankF nd0 nd1 nd2 nd3)), .val (.int (rankF nd1 nd0 nd2 nd3)), .val (.int (rankF nd2 nd0 nd1 nd3)), .val (.int (rankF nd3 nd0 nd1 nd2)), .val (.ref ob5), .val (.int (hiI u10_0)), .val (.int (0 : Int32)), .val (.int (u11_0.toInt32)), .val (.int (hiI u11_0)), .unset, .unset, .unset]) rfl k_) ?_
    show Runs _ _ _ _ T40 (mkF m 256 #[.val (.int p0), .val (.int p1), .val (.int p2), .val (.int p3), .val (.int p4), .val (.int nd0), .val (.int nd1), .val (.int nd2), .val (.int nd3), .val (.int pt0), .val (.int pt1), .val (.int pt2), .val (.int pt3), .val (.int (rankF nd0 nd1 nd2 nd3)), .val (.int (rankF nd1 nd0 nd2 nd3)), .val (.int (rankF nd2 nd0 nd1 nd3)), .val (.int (rankF nd3 nd0 nd1 nd2)), .val (.ref ob5), .val (.int (hiI u10_0)), .val (.int (0 : Int32)), .val (.int (u11_0.toInt32)), .val (.int (hiI u11_0)), .unset, .unset, .unset] [])
    refine Runs.back (fun t_ k_ => XS.iload X40.here hx rfl (hb hby at_256) rfl k_) ?_
    show Runs _ _ _ _ T40 (mkF m 258 #[.val (.int p0), .val (.int p1), .val (.int p2), .val (.int p3), .val (.int p4), .val (.int nd0), .val (.int nd1), .val (.int nd2), .val (.int nd3), .val (.int pt0), .val (.int pt1), .val (.int pt2), .val (.int pt3), .val (.int (rankF nd0 nd1 nd2 nd3)), .val (.int (rankF nd1 nd0 nd2 nd3)), .val (.int (rankF nd2 nd0 nd1 nd3)), .val (.int (rankF nd3 nd0 nd1 nd2)), .val (.ref ob5), .val (.int (hiI u10_0)), .val (.int (0 : Int32)), .val (.int (u11_0.toInt32)), .val (.int (hiI u11_0)), .unset, .unset, .unset] [(.int (0 : Int32))])
    refine Runs.back (fun t_ k_ => XS.ifYes X40.here hx rfl (pc0 := 258) (pc' := 290) rfl (hb hby at_258) rfl ((if0 _ _).trans (teq (show (0 : Int32) = (0 : Int32) from rfl)).1) (by decide) (by decide) k_) ?_
    show Runs _ _ _ _ T40 (mkF m 290 #[.val (.int p0), .val (.int p1), .val (.int p2), .val (.int p3), .val (.int p4), .val (.int nd0), .val (.int nd1), .val (.int nd2), .val (.int nd3), .val (.int pt0), .val (.int pt1), .val (.int pt2), .val (.int pt3), .val (.int (rankF nd0 nd1 nd2 nd3)), .val (.int (rankF nd1 nd0 nd2 nd3)), .val (.int (rankF nd2 nd0 nd1 nd3)), .val (.int (rankF nd3 nd0 nd1 nd2)), .val (.ref ob5), .val (.int (hiI u10_0)), .val (.int (0 : Int32)), .val (.int (u11_0.toInt32)), .val (.int (hiI u11_0)), .unset, .unset, .unset] [])
    refine Runs.back (fun t_ k_ => XS.iconst X40.here hx rfl (hb hby at_290) k_) ?_
    show Runs _ _ _ _ T40 (mkF m 291 #[.val (.int p0), .val (.int p1), .val (.int p2), .val (.int p3), .val (.int p4), .val (.int nd0), .val (.int nd1), .val (.int nd2), .val (.int nd3), .val (.int pt0), .val (.int pt1), .val (.int pt2), .val (.int pt3), .val (.int (rankF nd0 nd1 nd2 nd3)), .val (.int (rankF nd1 nd0 nd2 nd3)), .val (.int (rankF nd2 nd0 nd1 nd3)), .val (.int (rankF nd3 nd0 nd1 nd2)), .val (.ref ob5), .val (.int (hiI u10_0)), .val (.int (0 : Int32)), .val (.int (u11_0.toInt32)), .val (.int (hiI u11_0)), .unset, .unset, .unset] [(.int (0 : Int32))])
    refine Runs.back (fun t_ k_ => XS.istore X40.here hx rfl (hb hby at_291) rfl (l' := #[.val (.int p0), .val (.int p1), .val (.int p2), .val (.int p3), .val (.int p4), .val (.int nd0), .val (.int nd1), .val (.int nd2), .val (.int nd3), .val (.int pt0), .val (.int pt1), .val (.int pt2), .val (.int pt3), .val (.int (rankF nd0 nd1 nd2 nd3)), .val (.int (rankF nd1 nd0 nd2 nd3)), .val (.int (rankF nd2 nd0 nd1 nd3)), .val (.int (rankF nd3 nd0 nd1 nd2)), .val (.ref ob5), .val (.int (hiI u10_0)), .val (.int (0 : Int32)), .val (.int (u11_0.toInt32)), .val (.int (hiI u11_0)), .unset, .unset, .unset]) rfl k_) ?_
    show Runs _ _ _ _ T40 (mkF m 293 #[.val (.int p0), .val (.int p1), .val (.int p2), .val (.int p3), .val (.int p4), .val (.int nd0), .val (.int nd1), .val (.int nd2), .val (.int nd3), .val (.int pt0), .val (.int pt1), .val (.int pt2), .val (.int pt3), .val (.int (rankF nd0 nd1 nd2 nd3)), .val (.int (rankF nd1 nd0 nd2 nd3)), .val (.int (rankF nd2 nd0 nd1 nd3)), .val (.int (rankF nd3 nd0 nd1 nd2)), .val (.ref ob5), .val (.int (hiI u10_0)), .val (.int (0 : Int32)), .val (.int (u11_0.toInt32)), .val (.int (hiI u11_0)), .unset, .unset, .unset] [])
    refine Runs.back (fun t_ k_ => XS.aload X40.here hx rfl (hb hby at_293) rfl rfl k_) ?_
    show Runs _ _ _ _ T40 (mkF m 295 #[.val (.int p0), .val (.int p1), .val (.int p2), .val (.int p3), .val (.int p4), .val (.int nd0), .val (.int nd1), .val (.int nd2), .val (.int nd3), .val (.int pt0), .val (.int pt1), .val (.int pt2), .val (.int pt3), .val (.int (rankF nd0 nd1 nd2 nd3)), .val (.int (rankF nd1 nd0 nd2 nd3)), .val (.int (rankF nd2 nd0 nd1 nd3)), .val (.int (rankF nd3 nd0 nd1 nd2)), .val (.ref ob5), .val (.int (hiI u10_0)), .val (.int (0 : Int32)), .val (.int (u11_0.toInt32)), .val (.int (hiI u11_0)), .unset, .unset, .unset] [(.ref ob5)])
    obtain ⟨cq41, kq41, q41a, q41b, q41c⟩ := isOf hZ rfl iE40
    obtain ⟨_, _, ⟨T41, L41, k41, n41⟩, -, X41, ⟨Lc41, hQ41, l41, y41, z41⟩, st41⟩ := X40.virtualBack hx (y := (⟨"com/example/tradewheel/tradewheel/PartQueue", "part", "()I"⟩ : MethodName)) (z := (⟨"com/example/tradewheel/tradewheel/PartQueue", "part", "()I"⟩ : MethodName)) hown (mvT hZ (hw _ (List.mem_of_getElem? (i := 32) rfl))) (mvT hZ (hw _ (List.mem_of_getElem? (i := 33) rfl))) (notFace_of_selects (args := #[]) (mvT hZ (hw _ (List.mem_of_getElem? (i := 35) rfl)))) (mvT hZ (hw _ (List.mem_of_getElem? (i := 35) rfl))) (mvT hZ (hw _ (List.mem_of_getElem? (i := 34) rfl))) (by decide) (backOf (W := 0) (rm7 l Z a0 hw [] ob5 b6 _ u40_0 T40.heap n0 (Z40) iF40 iA40 hu40_0) hZ (hw _ (List.mem_of_getElem? (i := 36) rfl)) (hw _ (List.mem_of_getElem? (i := 7) rfl)) (by decide) (by decide)) q41a q41c (g := (mkF m 295 #[.val (.int p0), .val (.int p1), .val (.int p2), .val (.int p3), .val (.int p4), .val (.int nd0), .val (.int nd1), .val (.int nd2), .val (.int nd3), .val (.int pt0), .val (.int pt1), .val (.int pt2), .val (.int pt3), .val (.int (rankF nd0 nd1 nd2 nd3)), .val (.int (rankF nd1 nd0 nd2 nd3)), .val (.int (rankF nd2 nd0 nd1 nd3)), .val (.int (rankF nd3 nd0 nd1 nd2)), .val (.ref ob5), .val (.int (hiI u10_0)), .val (.int (0 : Int32)), .val (.int (u11_0.toInt32)), .val (.int (hiI u11_0)), .unset, .unset, .unset] [(.ref ob5)])) rfl (by rw [hml]; rfl) (Steps.refl _) (argsL := []) (rest := []) (lenOf pd0_3 rfl) rfl (by show 2 * 0 + _ ≤ _; exact Nat.le_of_eq rfl) (hb hby at_295) (fun _ _ => ⟨rfl, rfl, (by decide : 2 + 0 ≤ _), (by decide : 6 + 0 ≤ _)⟩)
    dsimp only [Pt.U, Pt.locs, Pt.cells, Pt.slots] at X41 l41 y41 z41 st41 hQ41
    obtain rfl : k41 = 2 := y41
    obtain rfl : n41 = 6 := z41
    obtain ⟨rfl, N41q, eq41⟩ := hQ41
    have N41 : Fr n0 L41 := by rw [l41]; exact Fr.app N40 N41q
    clear l41
    refine Runs.trans st41 ?_
    show Runs _ _ _ _ T41 (mkF m 298 #[.val (.int p0), .val (.int p1), .val (.int p2), .val (.int p3), .val (.int p4), .val (.int nd0), .val (.int nd1), .val (.int nd2), .val (.int nd3), .val (.int pt0), .val (.int pt1), .val (.int pt2), .val (.int pt3), .val (.int (rankF nd0 nd1 nd2 nd3)), .val (.int (rankF nd1 nd0 nd2 nd3)), .val (.int (rankF nd2 nd0 nd1 nd3)), .val (.int (rankF nd3 nd0 nd1 nd2)), .val (.ref ob5), .val (.int (hiI u10_0)), .val (.int (0 : Int32)), .val (.int (u11_0.toInt32)), .val (.int (hiI u11_0)), .unset, .unset, .unset] [(.int (u40_0.toInt32))])
    refine Runs.back (fun t_ k_ => XS.istore X41.here hx rfl (hb hby at_298) rfl (l' := #[.val (.int p0), .val (.int p1), .val (.int p2), .val (.int p3), .val (.int p4), .val (.int nd0), .val (.int nd1), .val (.int nd2), .val (.int nd3), .val (.int pt0), .val (.int pt1), .val (.int pt2), .val (.int pt3), .val (.int (rankF nd0 nd1 nd2 nd3)), .val (.int (rankF nd1 nd0 nd2 nd3)), .val (.int (rankF nd2 nd0 nd1 nd3)), .val (.int (rankF nd3 nd0 nd1 nd2)), .val (.ref ob5), .val (.int (hiI u10_0)), .val (.int (0 : Int32)), .val (.int (u11_0.toInt32)), .val (.int (hiI u11_0)), .val (.int (u40_0.toInt32)), .unset, .unset]) rfl k_) ?_
    show Runs _ _ _ _ T41 (mkF m 300 #[.val (.int p0), .val (.int p1), .val (.int p2), .val (.int p3), .val (.int p4), .val (.int nd0), .val (.int nd1), .val (.int nd2), .val (.int nd3), .val (.int pt0), .val (.int pt1), .val (.int pt2), .val (.int pt3), .val (.int (rankF nd0 nd1 nd2 nd3)), .val (.int (rankF nd1 nd0 nd2 nd3)), .val (.int (rankF nd2 nd0 nd1 nd3)), .val (.int (rankF nd3 nd0 nd1 nd2)), .val (.ref ob5), .val (.int (hiI u10_0)), .val (.int (0 : Int32)), .val (.int (u11_0.toInt32)), .val (.int (hiI u11_0)), .val (.int (u40_0.toInt32)), .unset, .unset] [])
    refine Runs.back (fun t_ k_ => XS.iload X41.here hx rfl (hb hby at_300) rfl k_) ?_
    show Runs _ _ _ _ T41 (mkF m 302 #[.val (.int p0), .val (.int p1), .val (.int p2), .val (.int p3), .val (.int p4), .val (.int nd0), .val (.int nd1), .val (.int nd2), .val (.int nd3), .val (.int pt0), .val (.int pt1), .val (.int pt2), .val (.int pt3), .val (.int (rankF nd0 nd1 nd2 nd3)), .val (.int (rankF nd1 nd0 nd2 nd3)), .val (.int (rankF nd2 nd0 nd1 nd3)), .val (.int (rankF nd3 nd0 nd1 nd2)), .val (.ref ob5), .val (.int (hiI u10_0)), .val (.int (0 : Int32)), .val (.int (u11_0.toInt32)), .val (.int (hiI u11_0)), .val (.int (u40_0.toInt32)), .unset, .unset] [(.int (0 : Int32))])
    refine Runs.back (fun t_ k_ => XS.ifYes X41.here hx rfl (pc0 := 302) (pc' := 334) rfl (hb hby at_302) rfl ((if0 _ _).trans (teq (show (0 : Int32) = (0 : Int32) from rfl)).1) (by decide) (by decide) k_) ?_
    show Runs _ _ _ _ T41 (mkF m 334 #[.val (.int p0), .val (.int p1), .val (.int p2), .val (.int p3), .val (.int p4), .val (.int nd0), .val (.int nd1), .val (.int nd2), .val (.int nd3), .val (.int pt0), .val (.int pt1), .val (.int pt2), .val (.int pt3), .val (.int (rankF nd0 nd1 nd2 nd3)), .val (.int (rankF nd1 nd0 nd2 nd3)), .val (.int (rankF nd2 nd0 nd1 nd3)), .val (.int (rankF nd3 nd0 nd1 nd2)), .val (.ref ob5), .val (.int (hiI u10_0)), .val (.int (0 : Int32)), .val (.int (u11_0.toInt32)), .val (.int (hiI u11_0)), .val (.int (u40_0.toInt32)), .unset, .unset] [])
    refine Runs.back (fun t_ k_ => XS.iconst X41.here hx rfl (hb hby at_334) k_) ?_
    show Runs _ _ _ _ T41 (mkF m 335 #[.val (.int p0), .val (.int p1), .val (.int p2), .val (.int p3), .val (.int p4), .val (.int nd0), .val (.int nd1), .val (.int nd2), .val (.int nd3), .val (.int pt0), .val (.int pt1), .val (.int pt2), .val (.int pt3), .val (.int (rankF nd0 nd1 nd2 nd3)), .val (.int (rankF nd1 nd0 nd2 nd3)), .val (.int (rankF nd2 nd0 nd1 nd3)), .val (.int (rankF nd3 nd0 nd1 nd2)), .val (.ref ob5), .val (.int (hiI u10_0)), .val (.int (0 : Int32)), .val (.int (u11_0.toInt32)), .val (.int (hiI u11_0)), .val (.int (u40_0.toInt32)), .unset, .unset] [(.int (0 : Int32))])
    refine Runs.back (fun t_ k_ => XS.istore X41.here hx rfl (hb hby at_335) rfl (l' := #[.val (.int p0), .val (.int p1), .val (.int p2), .val (.int p3), .val (.int p4), .val (.int nd0), .val (.int nd1), .val (.int nd2), .val (.int nd3), .val (.int pt0), .val (.int pt1), .val (.int pt2), .val (.int pt3), .val (.int (rankF nd0 nd1 nd2 nd3)), .val (.int (rankF nd1 nd0 nd2 nd3)), .val (.int (rankF nd2 nd0 nd1 nd3)), .val (.int (rankF nd3 nd0 nd1 nd2)), .val (.ref ob5), .val (.int (hiI u10_0)), .val (.int (0 : Int32)), .val (.int (u11_0.toInt32)), .val (.int (hiI u11_0)), .val (.int (u40_0.toInt32)), .unset, .unset]) rfl k_) ?_
    show Runs _ _ _ _ T41 (mkF m 337 #[.val (.int p0), .val (.int p1), .val (.int p2), .val (.int p3), .val (.int p4), .val (.int nd0), .val (.int nd1), .val (.int nd2), .val (.int nd3), .val (.int pt0), .val (.int pt1), .val (.int pt2), .val (.int pt3), .val (.int (rankF nd0 nd1 nd2 nd3)), .val (.int (rankF nd1 nd0 nd2 nd3)), .val (.int (rankF nd2 nd0 nd1 nd3)), .val (.int (rankF nd3 nd0 nd1 nd2)), .val (.ref ob5), .val (.int (hiI u10_0)), .val (.int (0 : Int32)), .val (.int (u11_0.toInt32)), .val (.int (hiI u11_0)), .val (.int (u40_0.toInt32)), .unset, .unset] [])
    refine Runs.back (fun t_ k_ => XS.aload X41.here hx rfl (hb hby at_337) rfl rfl k_) ?_
    show Runs _ _ _ _ T41 (mkF m 339 #[.val (.int p0), .val (.int p1), .val (.int p2), .val (.int p3), .val (.int p4), .val (.int nd0), .val (.int nd1), .val (.int nd2), .val (.int nd3), .val (.int pt0), .val (.int pt1), .val (.int pt2), .val (.int pt3), .val (.int (rankF nd0 nd1 nd2 nd3)), .val (.int (rankF nd1 nd0 nd2 nd3)), .val (.int (rankF nd2 nd0 nd1 nd3)), .val (.int (rankF nd3 nd0 nd1 nd2)), .val (.ref ob5), .val (.int (hiI u10_0)), .val (.int (0 : Int32)), .val (.int (u11_0.toInt32)), .val (.int (hiI u11_0)), .val (.int (u40_0.toInt32)), .unset, .unset] [(.ref ob5)])
    obtain ⟨cq42, kq42, q42a, q42b, q42c⟩ := isOf hZ eq41 iE40
    obtain ⟨_, _, ⟨T42, L42, k42, n42⟩, -, X42, ⟨Lc42, hQ42, l42, y42, z42⟩, st42⟩ := X41.virtualBack hx (y := (⟨"com/example/tradewheel/tradewheel/PartQueue", "remove", "()I"⟩ : MethodName)) (z := (⟨"com/example/tradewheel/tradewheel/PartQueue", "remove", "()I"⟩ : MethodName)) hown (mvT hZ (hw _ (List.mem_of_getElem? (i := 24) rfl))) (mvT hZ (hw _ (List.mem_of_getElem? (i := 25) rfl))) (notFace_of_selects (args := #[]) (mvT hZ (hw _ (List.mem_of_getElem? (i := 27) rfl)))) (mvT hZ (hw _ (List.mem_of_getElem? (i := 27) rfl))) (mvT hZ (hw _ (List.mem_of_getElem? (i := 26) rfl))) (by decide) (backOf (W := 0) (rm5s2 l Z a0 hw [] ob5  b6 _ u40_0 u40_1 T40.heap n0 (Z40) iE40 iF40 iG40 iA40 ne_ob5_b6 g_ob5 g_b6 hu40_0 hu40_1) hZ (hw _ (List.mem_of_getElem? (i := 28) rfl)) (hw _ (List.mem_of_getElem? (i := 7) rfl)) (by decide) (by decide)) q42a q42c (g := (mkF m 339 #[.val (.int p0), .val (.int p1), .val (.int p2), .val (.int p3), .val (.int p4), .val (.int nd0), .val (.int nd1), .val (.int nd2), .val (.int nd3), .val (.int pt0), .val (.int pt1), .val (.int pt2), .val (.int pt3), .val (.int (rankF nd0 nd1 nd2 nd3)), .val (.int (rankF nd1 nd0 nd2 nd3)), .val (.int (rankF nd2 nd0 nd1 nd3)), .val (.int (rankF nd3 nd0 nd1 nd2)), .val (.ref ob5), .val (.int (hiI u10_0)), .val (.int (0 : Int32)), .val (.int (u11_0.toInt32)), .val (.int (hiI u11_0)), .val (.int (u40_0.toInt32)), .unset, .unset] [(.ref ob5)])) rfl (by rw [hml]; rfl) (Steps.refl _) (argsL := []) (rest := []) (lenOf pd0_3 rfl) rfl (by show 2 * 0 + _ ≤ _; exact Nat.le_of_eq rfl) (hb hby at_339) (fun _ _ => ⟨rfl, eq41, (by decide : 2 + 0 ≤ _), (by decide : 6 + 0 ≤ _)⟩)
    dsimp only [Pt.U, Pt.locs, Pt.cells, Pt.slots] at X42 l42 y42 z42 st42 hQ42
    obtain rfl : k42 = 2 := y42
    obtain rfl : n42 = 6 := z42
    obtain ⟨rfl, N42q, K42, iE42, iF42, iG42, fq42, u42_0, iA42, hu42_0, rel42⟩ := hQ42
    have N42 : Fr n0 L42 := by rw [l42]; exact Fr.app N41 N42q
    clear l42
    have f42_Exa_0 : Exa Z T42.heap ob5 "com/example/tradewheel/tradewheel/PartQueue" := iE40.keep K42
    have Z42 : n0 ≤ T42.heap.size := Nat.le_trans (Z40) K42.1
    refine Runs.trans st42 ?_
    show Runs _ _ _ _ T42 (mkF m 342 #[.val (.int p0), .val (.int p1), .val (.int p2), .val (.int p3), .val (.int p4), .val (.int nd0), .val (.int nd1), .val (.int nd2), .val (.int nd3), .val (.int pt0), .val (.int pt1), .val (.int pt2), .val (.int pt3), .val (.int (rankF nd0 nd1 nd2 nd3)), .val (.int (rankF nd1 nd0 nd2 nd3)), .val (.int (rankF nd2 nd0 nd1 nd3)), .val (.int (rankF nd3 nd0 nd1 nd2)), .val (.ref ob5), .val (.int (hiI u10_0)), .val (.int (0 : Int32)), .val (.int (u11_0.toInt32)), .val (.int (hiI u11_0)), .val (.int (u40_0.toInt32)), .unset, .unset] [(.int (hiI u40_0))])
    refine Runs.back (fun t_ k_ => XS.istore X42.here hx rfl (hb hby at_342) rfl (l' := #[.val (.int p0), .val (.int p1), .val (.int p2), .val (.int p3), .val (.int p4), .val (.int nd0), .val (.int nd1), .val (.int nd2), .val (.int nd3), .val (.int pt0), .val (.int pt1), .val (.int pt2), .val (.int pt3), .val (.int (rankF nd0 nd1 nd2 nd3)), .val (.int (rankF nd1 nd0 nd2 nd3)), .val (.int (rankF nd2 nd0 nd1 nd3)), .val (.int (rankF nd3 nd0 nd1 nd2)), .val (.ref ob5), .val (.int (hiI u10_0)), .val (.int (0 : Int32)), .val (.int (u11_0.toInt32)), .val (.int (hiI u11_0)), .val (.int (u40_0.toInt32)), .val (.int (hiI u40_0)), .unset]) rfl k_) ?_
    show Runs _ _ _ _ T42 (mkF m 344 #[.val (.int p0), .val (.int p1), .val (.int p2), .val (.int p3), .val (.int p4), .val (.int nd0), .val (.int nd1), .val (.int nd2), .val (.int nd3), .val (.int pt0), .val (.int pt1), .val (.int pt2), .val (.int pt3), .val (.int (rankF nd0 nd1 nd2 nd3)), .val (.int (rankF nd1 nd0 nd2 nd3)), .val (.int (rankF nd2 nd0 nd1 nd3)), .val (.int (rankF nd3 nd0 nd1 nd2)), .val (.ref ob5), .val (.int (hiI u10_0)), .val (.int (0 : Int32)), .val (.int (u11_0.toInt32)), .val (.int (hiI u11_0)), .val (.int (u40_0.toInt32)), .val (.int (hiI u40_0)), .unset] [])
    refine Runs.back (fun t_ k_ => XS.iload X42.here hx rfl (hb hby at_344) rfl k_) ?_
    show Runs _ _ _ _ T42 (mkF m 346 #[.val (.int p0), .val (.int p1), .val (.int p2), .val (.int p3), .val (.int p4), .val (.int nd0), .val (.int nd1), .val (.int nd2), .val (.int nd3), .val (.int pt0), .val (.int pt1), .val (.int pt2), .val (.int pt3), .val (.int (rankF nd0 nd1 nd2 nd3)), .val (.int (rankF nd1 nd0 nd2 nd3)), .val (.int (rankF nd2 nd0 nd1 nd3)), .val (.int (rankF nd3 nd0 nd1 nd2)), .val (.ref ob5), .val (.int (hiI u10_0)), .val (.int (0 : Int32)), .val (.int (u11_0.toInt32)), .val (.int (hiI u11_0)), .val (.int (u40_0.toInt32)), .val (.int (hiI u40_0)), .unset] [(.int (0 : Int32))])
    refine Runs.back (fun t_ k_ => XS.ifYes X42.here hx rfl (pc0 := 346) (pc' := 378) rfl (hb hby at_346) rfl ((if0 _ _).trans (teq (show (0 : Int32) = (0 : Int32) from rfl)).1) (by decide) (by decide) k_) ?_
    show Runs _ _ _ _ T42 (mkF m 378 #[.val (.int p0), .val (.int p1), .val (.int p2), .val (.int p3), .val (.int p4), .val (.int nd0), .val (.int nd1), .val (.int nd2), .val (.int nd3), .val (.int pt0), .val (.int pt1), .val (.int pt2), .val (.int pt3), .val (.int (rankF nd0 nd1 nd2 nd3)), .val (.int (rankF nd1 nd0 nd2 nd3)), .val (.int (rankF nd2 nd0 nd1 nd3)), .val (.int (rankF nd3 nd0 nd1 nd2)), .val (.ref ob5), .val (.int (hiI u10_0)), .val (.int (0 : Int32)), .val (.int (u11_0.toInt32)), .val (.int (hiI u11_0)), .val (.int (u40_0.toInt32)), .val (.int (hiI u40_0)), .unset] [])
    refine Runs.back (fun t_ k_ => XS.iconst X42.here hx rfl (hb hby at_378) k_) ?_
    show Runs _ _ _ _ T42 (mkF m 379 #[.val (.int p0), .val (.int p1), .val (.int p2), .val (.int p3), .val (.int p4), .val (.int nd0), .val (.int nd1), .val (.int nd2), .val (.int nd3), .val (.int pt0), .val (.int pt1), .val (.int pt2), .val (.int pt3), .val (.int (rankF nd0 nd1 nd2 nd3)), .val (.int (rankF nd1 nd0 nd2 nd3)), .val (.int (rankF nd2 nd0 nd1 nd3)), .val (.int (rankF nd3 nd0 nd1 nd2)), .val (.ref ob5), .val (.int (hiI u10_0)), .val (.int (0 : Int32)), .val (.int (u11_0.toInt32)), .val (.int (hiI u11_0)), .val (.int (u40_0.toInt32)), .val (.int (hiI u40_0)), .unset] [(.int (0 : Int32))])
    refine Runs.back (fun t_ k_ => XS.istore X42.here hx rfl (hb hby at_379) rfl (l' := #[.val (.int p0), .val (.int p1), .val (.int p2), .val (.int p3), .val (.int p4), .val (.int nd0), .val (.int nd1), .val (.int nd2), .val (.int nd3), .val (.int pt0), .val (.int pt1), .val (.int pt2), .val (.int pt3), .val (.int (rankF nd0 nd1 nd2 nd3)), .val (.int (rankF nd1 nd0 nd2 nd3)), .val (.int (rankF nd2 nd0 nd1 nd3)), .val (.int (rankF nd3 nd0 nd1 nd2)), .val (.ref ob5), .val (.int (hiI u10_0)), .val (.int (0 : Int32)), .val (.int (u11_0.toInt32)), .val (.int (hiI u11_0)), .val (.int (u40_0.toInt32)), .val (.int (hiI u40_0)), .unset]) rfl k_) ?_
    show Runs _ _ _ _ T42 (mkF m 381 #[.val (.int p0), .val (.int p1), .val (.int p2), .val (.int p3), .val (.int p4), .val (.int nd0), .val (.int nd1), .val (.int nd2), .val (.int nd3), .val (.int pt0), .val (.int pt1), .val (.int pt2), .val (.int pt3), .val (.int (rankF nd0 nd1 nd2 nd3)), .val (.int (rankF nd1 nd0 nd2 nd3)), .val (.int (rankF nd2 nd0 nd1 nd3)), .val (.int (rankF nd3 nd0 nd1 nd2)), .val (.ref ob5), .val (.int (hiI u10_0)), .val (.int (0 : Int32)), .val (.int (u11_0.toInt32)), .val (.int (hiI u11_0)), .val (.int (u40_0.toInt32)), .val (.int (hiI u40_0)), .unset] [])
    refine Runs.back (fun t_ k_ => XS.aload X42.here hx rfl (hb hby at_381) rfl rfl k_) ?_
    show Runs _ _ _ _ T42 (mkF m 383 #[.val (.int p0), .val (.int p1), .val (.int p2), .val (.int p3), .val (.int p4), .val (.int nd0), .val (.int nd1), .val (.int nd2), .val (.int nd3), .val (.int pt0), .val (.int pt1), .val (.int pt2), .val (.int pt3), .val (.int (rankF nd0 nd1 nd2 nd3)), .val (.int (rankF nd1 nd0 nd2 nd3)), .val (.int (rankF nd2 nd0 nd1 nd3)), .val (.int (rankF nd3 nd0 nd1 nd2)), .val (.ref ob5), .val (.int (hiI u10_0)), .val (.int (0 : Int32)), .val (.int (u11_0.toInt32)), .val (.int (hiI u11_0)), .val (.int (u40_0.toInt32)), .val (.int (hiI u40_0)), .unset] [(.ref ob5)])
    obtain ⟨cq43, kq43, q43a, q43b, q43c⟩ := isOf hZ rfl iE42
    obtain ⟨_, _, ⟨T43, L43, k43, n43⟩, -, X43, ⟨Lc43, hQ43, l43, y43, z43⟩, st43⟩ := X42.virtualBack hx (y := (⟨"com/example/tradewheel/tradewheel/PartQueue", "remove", "()I"⟩ : MethodName)) (z := (⟨"com/example/tradewheel/tradewheel/PartQueue", "remove", "()I"⟩ : MethodName)) hown (mvT hZ (hw _ (List.mem_of_getElem? (i := 24) rfl))) (mvT hZ (hw _ (List.mem_of_getElem? (i := 25) rfl))) (notFace_of_selects (args := #[]) (mvT hZ (hw _ (List.mem_of_getElem? (i := 27) rfl)))) (mvT hZ (hw _ (List.mem_of_getElem? (i := 27) rfl))) (mvT hZ (hw _ (List.mem_of_getElem? (i := 26) rfl))) (by decide) (backOf (W := 0) (rm5s1 l Z a0 hw [] ob5  b6 _ u42_0 T42.heap n0 (Z42) iE42 iF42 iG42 iA42 ne_ob5_b6 g_ob5 g_b6 hu42_0) hZ (hw _ (List.mem_of_getElem? (i := 28) rfl)) (hw _ (List.mem_of_getElem? (i := 7) rfl)) (by decide) (by decide)) q43a q43c (g := (mkF m 383 #[.val (.int p0), .val (.int p1), .val (.int p2), .val (.int p3), .val (.int p4), .val (.int nd0), .val (.int nd1), .val (.int nd2), .val (.int nd3), .val (.int pt0), .val (.int pt1), .val (.int pt2), .val (.int pt3), .val (.int (rankF nd0 nd1 nd2 nd3)), .val (.int (rankF nd1 nd0 nd2 nd3)), .val (.int (rankF nd2 nd0 nd1 nd3)), .val (.int (rankF nd3 nd0 nd1 nd2)), .val (.ref ob5), .val (.int (hiI u10_0)), .val (.int (0 : Int32)), .val (.int (u11_0.toInt32)), .val (.int (hiI u11_0)), .val (.int (u40_0.toInt32)), .val (.int (hiI u40_0)), .unset] [(.ref ob5)])) rfl (by rw [hml]; rfl) (Steps.refl _) (argsL := []) (rest := []) (lenOf pd0_3 rfl) rfl (by show 2 * 0 + _ ≤ _; exact Nat.le_of_eq rfl) (hb hby at_383) (fun _ _ => ⟨rfl, rfl, (by decide : 2 + 0 ≤ _), (by decide : 6 + 0 ≤ _)⟩)
    dsimp only [Pt.U, Pt.locs, Pt.cells, Pt.slots] at X43 l43 y43 z43 st43 hQ43
    obtain rfl : k43 = 2 := y43
    obtain rfl : n43 = 6 := z43
    obtain ⟨rfl, N43q, K43, iE43, iF43, iG43, fq43, iA43, rel43⟩ := hQ43
    have N43 : Fr n0 L43 := by rw [l43]; exact Fr.app N42 N43q
    clear l43
    have f43_Exa_0 : Exa Z T43.heap ob5 "com/example/tradewheel/tradewheel/PartQueue" := iE42.keep K43
    have Z43 : n0 ≤ T43.heap.size := Nat.le_trans (Z42) K43.1
    refine Runs.trans st43 ?_
    show Runs _ _ _ _ T43 (mkF m 386 #[.val (.int p0), .val (.int p1), .val (.int p2), .val (.int p3), .val (.int p4), .val (.int nd0), .val (.int nd1), .val (.int nd2), .val (.int nd3), .val (.int pt0), .val (.int pt1), .val (.int pt2), .val (.int pt3), .val (.int (rankF nd0 nd1 nd2 nd3)), .val (.int (rankF nd1 nd0 nd2 nd3)), .val (.int (rankF nd2 nd0 nd1 nd3)), .val (.int (rankF nd3 nd0 nd1 nd2)), .val (.ref ob5), .val (.int (hiI u10_0)), .val (.int (0 : Int32)), .val (.int (u11_0.toInt32)), .val (.int (hiI u11_0)), .val (.int (u40_0.toInt32)), .val (.int (hiI u40_0)), .unset] [(.int (hiI u42_0))])
    refine Runs.back (fun t_ k_ => XS.istore X43.here hx rfl (hb hby at_386) rfl (l' := #[.val (.int p0), .val (.int p1), .val (.int p2), .val (.int p3), .val (.int p4), .val (.int nd0), .val (.int nd1), .val (.int nd2), .val (.int nd3), .val (.int pt0), .val (.int pt1), .val (.int pt2), .val (.int pt3), .val (.int (rankF nd0 nd1 nd2 nd3)), .val (.int (rankF nd1 nd0 nd2 nd3)), .val (.int (rankF nd2 nd0 nd1 nd3)), .val (.int (rankF nd3 nd0 nd1 nd2)), .val (.ref ob5), .val (.int (hiI u10_0)), .val (.int (0 : Int32)), .val (.int (u11_0.toInt32)), .val (.int (hiI u11_0)), .val (.int (u40_0.toInt32)), .val (.int (hiI u40_0)), .val (.int (hiI u42_0))]) rfl k_) ?_
    show Runs _ _ _ _ T43 (mkF m 388 #[.val (.int p0), .val (.int p1), .val (.int p2), .val (.int p3), .val (.int p4), .val (.int nd0), .val (.int nd1), .val (.int nd2), .val (.int nd3), .val (.int pt0), .val (.int pt1), .val (.int pt2), .val (.int pt3), .val (.int (rankF nd0 nd1 nd2 nd3)), .val (.int (rankF nd1 nd0 nd2 nd3)), .val (.int (rankF nd2 nd0 nd1 nd3)), .val (.int (rankF nd3 nd0 nd1 nd2)), .val (.ref ob5), .val (.int (hiI u10_0)), .val (.int (0 : Int32)), .val (.int (u11_0.toInt32)), .val (.int (hiI u11_0)), .val (.int (u40_0.toInt32)), .val (.int (hiI u40_0)), .val (.int (hiI u42_0))] [])
    refine Runs.back (fun t_ k_ => XS.iload X43.here hx rfl (hb hby at_388) rfl k_) ?_
    show Runs _ _ _ _ T43 (mkF m 390 #[.val (.int p0), .val (.int p1), .val (.int p2), .val (.int p3), .val (.int p4), .val (.int nd0), .val (.int nd1), .val (.int nd2), .val (.int nd3), .val (.int pt0), .val (.int pt1), .val (.int pt2), .val (.int pt3), .val (.int (rankF nd0 nd1 nd2 nd3)), .val (.int (rankF nd1 nd0 nd2 nd3)), .val (.int (rankF nd2 nd0 nd1 nd3)), .val (.int (rankF nd3 nd0 nd1 nd2)), .val (.ref ob5), .val (.int (hiI u10_0)), .val (.int (0 : Int32)), .val (.int (u11_0.toInt32)), .val (.int (hiI u11_0)), .val (.int (u40_0.toInt32)), .val (.int (hiI u40_0)), .val (.int (hiI u42_0))] [(.int (0 : Int32))])
    refine Runs.back (fun t_ k_ => XS.ifYes X43.here hx rfl (pc0 := 390) (pc' := 422) rfl (hb hby at_390) rfl ((if0 _ _).trans (teq (show (0 : Int32) = (0 : Int32) from rfl)).1) (by decide) (by decide) k_) ?_
    show Runs _ _ _ _ T43 (mkF m 422 #[.val (.int p0), .val (.int p1), .val (.int p2), .val (.int p3), .val (.int p4), .val (.int nd0), .val (.int nd1), .val (.int nd2), .val (.int nd3), .val (.int pt0), .val (.int pt1), .val (.int pt2), .val (.int pt3), .val (.int (rankF nd0 nd1 nd2 nd3)), .val (.int (rankF nd1 nd0 nd2 nd3)), .val (.int (rankF nd2 nd0 nd1 nd3)), .val (.int (rankF nd3 nd0 nd1 nd2)), .val (.ref ob5), .val (.int (hiI u10_0)), .val (.int (0 : Int32)), .val (.int (u11_0.toInt32)), .val (.int (hiI u11_0)), .val (.int (u40_0.toInt32)), .val (.int (hiI u40_0)), .val (.int (hiI u42_0))] [])
    refine Runs.back (fun t_ k_ => XS.iconst X43.here hx rfl (hb hby at_422) k_) ?_
    show Runs _ _ _ _ T43 (mkF m 423 #[.val (.int p0), .val (.int p1), .val (.int p2), .val (.int p3), .val (.int p4), .val (.int nd0), .val (.int nd1), .val (.int nd2), .val (.int nd3), .val (.int pt0), .val (.int pt1), .val (.int pt2), .val (.int pt3), .val (.int (rankF nd0 nd1 nd2 nd3)), .val (.int (rankF nd1 nd0 nd2 nd3)), .val (.int (rankF nd2 nd0 nd1 nd3)), .val (.int (rankF nd3 nd0 nd1 nd2)), .val (.ref ob5), .val (.int (hiI u10_0)), .val (.int (0 : Int32)), .val (.int (u11_0.toInt32)), .val (.int (hiI u11_0)), .val (.int (u40_0.toInt32)), .val (.int (hiI u40_0)), .val (.int (hiI u42_0))] [(.int (0 : Int32))])
    refine Runs.back (fun t_ k_ => XS.istore X43.here hx rfl (hb hby at_423) rfl (l' := #[.val (.int p0), .val (.int p1), .val (.int p2), .val (.int p3), .val (.int p4), .val (.int nd0), .val (.int nd1), .val (.int nd2), .val (.int nd3), .val (.int pt0), .val (.int pt1), .val (.int pt2), .val (.int pt3), .val (.int (rankF nd0 nd1 nd2 nd3)), .val (.int (rankF nd1 nd0 nd2 nd3)), .val (.int (rankF nd2 nd0 nd1 nd3)), .val (.int (rankF nd3 nd0 nd1 nd2)), .val (.ref ob5), .val (.int (hiI u10_0)), .val (.int (0 : Int32)), .val (.int (u11_0.toInt32)), .val (.int (hiI u11_0)), .val (.int (u40_0.toInt32)), .val (.int (hiI u40_0)), .val (.int (hiI u42_0))]) rfl k_) ?_
    show Runs _ _ _ _ T43 (mkF m 425 #[.val (.int p0), .val (.int p1), .val (.int p2), .val (.int p3), .val (.int p4), .val (.int nd0), .val (.int nd1), .val (.int nd2), .val (.int nd3), .val (.int pt0), .val (.int pt1), .val (.int pt2), .val (.int pt3), .val (.int (rankF nd0 nd1 nd2 nd3)), .val (.int (rankF nd1 nd0 nd2 nd3)), .val (.int (rankF nd2 nd0 nd1 nd3)), .val (.int (rankF nd3 nd0 nd1 nd2)), .val (.ref ob5), .val (.int (hiI u10_0)), .val (.int (0 : Int32)), .val (.int (u11_0.toInt32)), .val (.int (hiI u11_0)), .val (.int (u40_0.toInt32)), .val (.int (hiI u40_0)), .val (.int (hiI u42_0))] [])
    refine Runs.back (fun t_ k_ => XS.iload X43.here hx rfl (hb hby at_425) rfl k_) ?_
    show Runs _ _ _ _ T43 (mkF m 427 #[.val (.int p0), .val (.int p1), .val (.int p2), .val (.int p3), .val (.int p4), .val (.int nd0), .val (.int nd1), .val (.int nd2), .val (.int nd3), .val (.int pt0), .val (.int pt1), .val (.int pt2), .val (.int pt3), .val (.int (rankF nd0 nd1 nd2 nd3)), .val (.int (rankF nd1 nd0 nd2 nd3)), .val (.int (rankF nd2 nd0 nd1 nd3)), .val (.int (rankF nd3 nd0 nd1 nd2)), .val (.ref ob5), .val (.int (hiI u10_0)), .val (.int (0 : Int32)), .val (.int (u11_0.toInt32)), .val (.int (hiI u11_0)), .val (.int (u40_0.toInt32)), .val (.int (hiI u40_0)), .val (.int (hiI u42_0))] [(.int (0 : Int32))])
    obtain ⟨fs, hr, hrun, hended, hW, hsame⟩ := X43.leave (v := some (.int (0 : Int32))) (fun h => by rw [Bd.returns] at h; cases h)
    have WH := whole F4 rel7 rel8 rel9 rel10 rel11 rel40 rel42 rfl
    exact ⟨_, _, (retN X43 hx (t := .boolean) Bd.returns (by simp) (hb hby at_427) hr), hrun, hended, _, _, rfl, ⟨(c195_13 (WH.1.1)).elim, N43⟩, ⟨_, rfl⟩, hW, hsame.mono (by decide) (by decide)⟩
set_option maxRecDepth 65536 in
set_option maxHeartbeats 40000000 in
theorem comes_1 {Post : Tables → Env → Array Value → State → Outcome → State → Prop} (hpost : ∀ tb e args s v u, (limb_1_1.after args s (.returned v) u = true ∧ limb_1_2.after args s (.returned v) u = true ∧ True) → FrameEnd s (.returned v) u (Jvm.fieldLocs frame_1_writes args s ++ Jvm.arrayLocs frame_1_arrays args s ++ Jvm.staticLocs frame_1_statics s) 16 128 → Post tb e args s (.returned v) u) :
    ArmFor flags0 classFile x code maxLocals ret World_1 tables_1 room_1 Calls_1 rest_1 Pre_1 Post := by
  intro l hfl _ _ p e ha hc hk s m args below hf hA hF happ hP
  obtain ⟨hcalls, hrest, hpre⟩ := hP
  obtain ⟨-, -, -, hnamed, -, -, -, hat⟩ := (Spec.applies_iff hf).mp happ
  obtain ⟨hg, hn⟩ := and_e (Cond.before_iff.mp (show (Jvm.Cond.and given_1 narrow_1).before args s = true from hpre))
  obtain ⟨g0, gr0⟩ := and_e hg
  obtain ⟨g1, gr1⟩ := and_e gr0
  obtain ⟨g2, gr2⟩ := and_e gr1
  obtain ⟨g3, gr3⟩ := and_e gr2
  obtain ⟨g4, gr4⟩ := and_e gr3
  obtain ⟨w0, w1, w2, w3, w4, rfl⟩ : ∃ w0 w1 w2 w3 w4 : Value, args = #[w0, w1, w2, w3, w4] := by
    have hs : args.size = 5 := by simpa [Cond.value, given_1] using g0
    obtain ⟨L⟩ := args
    match L, hs with
    | [w0, w1, w2, w3, w4], _ => exact ⟨w0, w1, w2, w3, w4, rfl⟩
  have hw := fun d (hd : d ∈ tables_1) => atoms_spec (ws := Jvm.Cond.code x code maxLocals ret :: tables_1) hat d (List.mem_cons_of_mem _ hd)
  obtain ⟨i0, ei0⟩ := is_v g1
  obtain rfl : w0 = (.int i0) := Option.some.inj ei0
  obtain ⟨i1, ei1⟩ := is_v g2
  obtain rfl : w1 = (.int i1) := Option.some.inj ei1
  obtain ⟨i2, ei2⟩ := is_v g3
  obtain rfl : w2 = (.int i2) := Option.some.inj ei2
  obtain ⟨i3, ei3⟩ := is_v g4
  obtain rfl : w3 = (.int i3) := Option.some.inj ei3
  obtain ⟨i4, ei4⟩ := is_v gr4
  obtain rfl : w4 = (.int i4) := Option.some.inj ei4
  obtain ⟨n, o, h1, h2, h3, _, L, rfl, ⟨rfl, N⟩, hq⟩ := rm0 l s _ hw tables_1 i0 i1 i2 i3 i4 s.heap s.heap.size (Nat.le_refl _) p e ha hc hk s m _ below hf ((Spec.applies_iff_loose hf).mp happ).1 ⟨rfl, State.Warmed39.refl s, rfl⟩ trivial
  refine ⟨n, _, h1, h2, h3, hpost _ _ _ _ _ _ ⟨Cond.after_iff.mpr rfl, Cond.after_iff.mpr (eq_i res_at (Term.int_eval (1)) rfl), trivial⟩ ⟨hq.1, hq.2.1, (hq.2.2.sift fun y hy => Or.inr (N y hy)).mono (by decide) (by decide)⟩⟩
theorem main_1_1 : Claimed_1_1 := comes_1 fun _ _ _ _ _ _ h hF => ⟨h.1, hF⟩
theorem main_1_2 : Claimed_1_2 := comes_1 fun _ _ _ _ _ _ h hF => ⟨h.2.1, hF⟩
end Jvm.Pilot.@@N@@
namespace Jvm.Pilot.@@N@@
open Jvm Jvm.ClassFile Sem Op Lib Jvm.Free Jvm.Stand Jvm.Pilot.@@N@@.Jvm.D
/-! MADE BY PROGRAM (witnessworld.py) out of the Statement's table words and the real class files: 11 classes; the members and pool entries that the words name. The judged class is class 1, her method 3. -/
namespace start1
open Jvm.ClassFile
def u (s : String) : CpInfo := .utf8 (stringToUtf16 s)
/-- a pool by its gaps: so many unusable entries, then the entry; so many at the end -/
def gap : Nat → List CpInfo → List CpInfo
  | 0, r => r
  | n + 1, r => .unusable :: gap n r
def poolList (es : List (Nat × CpInfo)) (last : Nat) : List CpInfo := es.foldr (fun e r => gap e.1 (e.2 :: r)) (gap last [])
def pool (es : List (Nat × CpInfo)) (last : Nat) : Array CpInfo := ⟨poolList es last⟩
def fileOf (pool : Array CpInfo) (this : Nat) (attrs : Array Attribute := #[]) (ms : Array MethodInfo := #[]) (fl : Nat := 33) (sup : Nat := 0) (ifs : Array Nat := #[]) (fds : Array FieldInfo := #[]) : ClassFile where
  minorVersion := 0
  majorVersion := 65
  constantPool := pool
  accessFlags := fl
  thisClass := this
  superClass := sup
  interfaces := ifs
  fields := fds
  methods := ms
  attributes := attrs
def plain (name : String) (sup : Option ClassId) : Class where
  name := name
  kind := .ordinary
  loader := none
  accessFlags := 33
  super := sup
  interfaces := #[]
  cf := none
  fields := #[]
  methods := #[]
  instanceTypes := #[]
  staticTypes := #[]
  resolved := #[]
  callSites := []
  init := .initialized
  statics := none
  mirror := none

def pool0 : Array CpInfo := pool [(5, u "<init>"), (0, u "()V"), (1, .class_ 10), (1, u "java/lang/Object")] 113

def k0c0 : Code := { maxStack := 0, maxLocals := 1, code := object_method_1_code, exceptionTable := #[], attributes := #[] }
def k0m0 : Method := { name := "<init>", desc := "()V", sig := { parameters := [], returnType := none }, accessFlags := 1, code := some k0c0 }
/-- java/lang/Object -/
def k0 : Class := { plain "java/lang/Object" none with
  accessFlags := 33
  interfaces := #[]
  cf := some (fileOf pool0 8 #[] #[{ accessFlags := 1, nameIndex := 5, descriptorIndex := 6, attributes := #[] }] 33 0 #[] #[])
  fields := #[]
  methods := #[k0m0]
  instanceTypes := #[]
  staticTypes := #[]
  resolved := Array.replicate 124 none
  statics := none }

def pool1 : Array CpInfo := pool [(2, .class_ 4), (1, u "java/lang/Object"), (0, u "<init>"), (0, u "()V"), (0, .integer 536870911), (0, .methodref 9 10), (0, .class_ 11), (0, .nameAndType 12 13), (0, u "com/example/tradewheel/tradewheel/PartQueueRemovePinLaw"), (0, u "rank"), (0, u "(IIII)I"), (0, .class_ 15), (0, u "com/example/tradewheel/tradewheel/PartQueue"), (0, .methodref 14 17), (0, .nameAndType 5 18), (0, u "(I)V"), (0, .methodref 14 20), (0, .nameAndType 21 22), (0, u "add"), (0, u "(II)V"), (0, .methodref 14 24), (0, .nameAndType 25 26), (0, u "remove"), (0, u "()I"), (0, .methodref 9 28), (0, .nameAndType 29 30), (0, u "pick"), (0, u "(IIIIIIIII)I"), (0, .methodref 14 32), (0, .nameAndType 33 26), (0, u "part"), (3, u "law"), (0, u "(IIIII)Z")] 2

def k1m0 : Method := { name := "<init>", desc := "()V", sig := { parameters := [], returnType := none }, accessFlags := 2, code := none }
def k1c1 : Code := { maxStack := 3, maxLocals := 4, code := method_2_code, exceptionTable := #[], attributes := #[] }
def k1m1 : Method := { name := "rank", desc := "(IIII)I", sig := { parameters := [.int, .int, .int, .int], returnType := some .int }, accessFlags := 10, code := some k1c1 }
def k1c2 : Code := { maxStack := 2, maxLocals := 9, code := method_3_code, exceptionTable := #[], attributes := #[] }
def k1m2 : Method := { name := "pick", desc := "(IIIIIIIII)I", sig := { parameters := [.int, .int, .int, .int, .int, .int, .int, .int, .int], returnType := some .int }, accessFlags := 10, code := some k1c2 }
def k1c3 : Code := { maxStack := 10, maxLocals := 25, code := code, exceptionTable := #[], attributes := #[] }
def k1m3 : Method := { name := "law", desc := "(IIIII)Z", sig := { parameters := [.int, .int, .int, .int, .int], returnType := some .boolean }, accessFlags := 9, code := some k1c3 }
/-- com/example/tradewheel/tradewheel/PartQueueRemovePinLaw -/
def k1 : Class := { plain "com/example/tradewheel/tradewheel/PartQueueRemovePinLaw" (some 0) with
  accessFlags := 49
  interfaces := #[]
  cf := some (fileOf pool1 9 #[] #[{ accessFlags := 2, nameIndex := 5, descriptorIndex := 6, attributes := #[] }, { accessFlags := 10, nameIndex := 12, descriptorIndex := 13, attributes := #[] }, { accessFlags := 10, nameIndex := 29, descriptorIndex := 30, attributes := #[] }, { accessFlags := 9, nameIndex := 37, descriptorIndex := 38, attributes := #[] }] 49 2 #[] #[])
  fields := #[]
  methods := #[k1m0, k1m1, k1m2, k1m3]
  instanceTypes := #[]
  staticTypes := #[]
  resolved := Array.replicate 41 none
  statics := none }

def pool2 : Array CpInfo := pool [(1, .methodref 2 3), (0, .class_ 4), (0, .nameAndType 5 6), (0, u "java/lang/Object"), (0, u "<init>"), (0, u "()V"), (0, .fieldref 8 9), (0, .class_ 10), (0, .nameAndType 11 12), (0, u "com/example/tradewheel/tradewheel/PartQueue"), (0, u "heap"), (0, u "[J"), (0, .fieldref 8 14), (0, .nameAndType 15 16), (0, u "size"), (0, u "I"), (0, u "(I)V"), (2, u "add"), (0, u "(II)V"), (1, u "part"), (0, u "()I"), (0, u "remove")] 2

def k2c0 : Code := { maxStack := 2, maxLocals := 2, code := prog_22_method_1_code, exceptionTable := #[], attributes := #[] }
def k2m0 : Method := { name := "<init>", desc := "(I)V", sig := { parameters := [.int], returnType := none }, accessFlags := 0, code := some k2c0 }
def k2c1 : Code := { maxStack := 5, maxLocals := 6, code := prog_22_method_2_code, exceptionTable := #[], attributes := #[] }
def k2m1 : Method := { name := "add", desc := "(II)V", sig := { parameters := [.int, .int], returnType := none }, accessFlags := 0, code := some k2c1 }
def k2c2 : Code := { maxStack := 2, maxLocals := 1, code := prog_22_method_3_code, exceptionTable := #[], attributes := #[] }
def k2m2 : Method := { name := "part", desc := "()I", sig := { parameters := [], returnType := some .int }, accessFlags := 0, code := some k2c2 }
def k2c3 : Code := { maxStack := 4, maxLocals := 7, code := prog_22_method_4_code, exceptionTable := #[], attributes := #[] }
def k2m3 : Method := { name := "remove", desc := "()I", sig := { parameters := [], returnType := some .int }, accessFlags := 0, code := some k2c3 }
/-- com/example/tradewheel/tradewheel/PartQueue -/
def k2 : Class := { plain "com/example/tradewheel/tradewheel/PartQueue" (some 0) with
  accessFlags := 48
  interfaces := #[]
  cf := some (fileOf pool2 8 #[] #[{ accessFlags := 0, nameIndex := 5, descriptorIndex := 17, attributes := #[] }, { accessFlags := 0, nameIndex := 20, descriptorIndex := 21, attributes := #[] }, { accessFlags := 0, nameIndex := 23, descriptorIndex := 24, attributes := #[] }, { accessFlags := 0, nameIndex := 25, descriptorIndex := 24, attributes := #[] }] 48 2 #[] #[{ accessFlags := 18, nameIndex := 11, descriptorIndex := 12, attributes := #[] }, { accessFlags := 2, nameIndex := 15, descriptorIndex := 16, attributes := #[] }])
  fields := #[{ name := "heap", type := (.array .long), accessFlags := 18, slot := 0, constantValue := 0 }, { name := "size", type := .int, accessFlags := 2, slot := 1, constantValue := 0 }]
  methods := #[k2m0, k2m1, k2m2, k2m3]
  instanceTypes := #[(.array .long), .int]
  staticTypes := #[]
  resolved := Array.replicate 28 none
  statics := none }

def pool3 : Array CpInfo := pool [(1, u "java/lang/Cloneable"), (0, .class_ 1), (0, u "java/lang/Object"), (0, .class_ 3)] 3

/-- java/lang/Cloneable -/
def k3 : Class := { plain "java/lang/Cloneable" (some 0) with
  accessFlags := 1537
  interfaces := #[]
  cf := some (fileOf pool3 2 #[] #[] 1537 4 #[] #[])
  fields := #[]
  methods := #[]
  instanceTypes := #[]
  staticTypes := #[]
  resolved := Array.replicate 8 none
  statics := none }

def pool4 : Array CpInfo := pool [(1, u "java/io/Serializable"), (0, .class_ 1), (0, u "java/lang/Object"), (0, .class_ 3)] 3

/-- java/io/Serializable -/
def k4 : Class := { plain "java/io/Serializable" (some 0) with
  accessFlags := 1537
  interfaces := #[]
  cf := some (fileOf pool4 2 #[] #[] 1537 4 #[] #[])
  fields := #[]
  methods := #[]
  instanceTypes := #[]
  staticTypes := #[]
  resolved := Array.replicate 8 none
  statics := none }

/-- the primitive byte -/
def k5 : Class := { plain "byte" none with kind := .primitive 'B', accessFlags := 0x411 }
/-- [B -/
def k6 : Class := { plain "[B" (some 0) with kind := .array 5 .byte, interfaces := #[3, 4], accessFlags := 1041 }

/-- the primitive int -/
def k7 : Class := { plain "int" none with kind := .primitive 'I', accessFlags := 0x411 }
/-- [I -/
def k8 : Class := { plain "[I" (some 0) with kind := .array 7 .int, interfaces := #[3, 4], accessFlags := 1041 }

/-- the primitive long -/
def k9 : Class := { plain "long" none with kind := .primitive 'J', accessFlags := 0x411 }
/-- [J -/
def k10 : Class := { plain "[J" (some 0) with kind := .array 9 .long, interfaces := #[3, 4], accessFlags := 1041 }

def heap : Heap := #[]
def classes : Array Class := #[k0, k1, k2, k3, k4, k5, k6, k7, k8, k9, k10]
def interned : List (Array UInt16 × Addr) := []
def slotsUsed : Nat := 0
def theMethod : MethodId := ⟨1, 3⟩
def args0 : Array Value := #[.int 5, .int 6, .int 7, .int 8, .int 9]
def aboutOver (below : List Frame) : State where
  vm := { classes := classes, interned := interned.toArray }
  heap := heap
  slotsUsed := slotsUsed
  threads := #[{ frames := .invoking theMethod args0 :: below }]
def below0 : List Frame := [.native { method := ⟨0, 0⟩, args := #[] }]
def about1 : State := aboutOver below0
def p0 : Program := .bare "" "" ""
def e0 : Env := launch0.env 0 0 0
theorem w_frames : about1.frames = Frame.invoking theMethod args0 :: below0 := rfl
set_option maxRecDepth 65536 in
theorem w_args : argsFit about1.vm theMethod args0 = true := by decide +kernel
set_option maxRecDepth 65536 in
theorem w_heap : heapFits about1 = true := by decide +kernel
set_option maxRecDepth 65536 in
theorem w_runnable : about1.curStatus? = some .runnable := by decide +kernel
set_option maxRecDepth 65536 in
theorem w_alone : about1.alone = true := by decide +kernel
set_option maxRecDepth 65536 in
theorem w_named : about1.methodNamed? x = some theMethod := by decide +kernel
set_option maxRecDepth 65536 in
theorem w_hears : about1.hears theMethod below0 = true := by decide +kernel
set_option maxRecDepth 65536 in
theorem w_ripe : about1.ripe theMethod args0 below0 = true := by decide +kernel
theorem w_running : about1.status = .running := rfl
set_option maxRecDepth 65536 in
theorem w_room : about1.hasRoom e0.platform room_1 = true :=
  launch0.hasRoom_least _ room_1 (by decide +kernel) (by decide +kernel) (by decide +kernel) (by decide +kernel) (by decide +kernel) (by decide +kernel)
theorem allAtoms_all (ts : List Jvm.Cond) (a : Array Jvm.Value) (st : Jvm.State) : (allAtoms ts).before a st = ts.all (fun c => c.before a st) := by
  induction ts with
  | nil => rfl
  | cons c t ih =>
    show (Jvm.Cond.and c (allAtoms t)).before a st = _
    rw [Jvm.Cond.before_and, ih, List.all_cons]
def words1 : List Jvm.Cond := Jvm.Cond.code x code maxLocals ret :: tables_1
/-- a 'code' word, met by the world's own term for the bytes: nothing is compared byte by byte -/
theorem code_word {y : MethodName} {bytes : ByteArray} {mx : Nat} {rt : Option FieldType} {a : Array Value} {s : State} {m : MethodId} {meth : Method} {c : Code} (h1 : s.methodNamed? y = some m) (h2 : s.vm.method? m = some meth) (h3 : meth.code = some c) (h4 : c.code = bytes)
    (h5 : (c.maxLocals == mx && c.exceptionTable.isEmpty && decide (c.maxStack ≤ mostOperands) && decide (meth.sig.returnType = rt) && !meth.locks && decide (parseMethodDescriptor y.desc = some meth.sig)) = true) : (Jvm.Cond.code y bytes mx rt).before a s = true := by
  simp only [Bool.and_eq_true, beq_iff_eq, Bool.not_eq_true', decide_eq_true_eq] at h5
  obtain ⟨⟨⟨⟨⟨g1, g2⟩, g3⟩, g4⟩, g5⟩, g6⟩ := h5
  simp [Cond.before, Cond.holds, Cond.value, h1, h2, h3, h4, g1, g2, g3, g4, g5, g6]
def isCode : Jvm.Cond → Bool
  | .code _ _ _ _ => true
  | _ => false
theorem all_split {L : List Jvm.Cond} {P : Jvm.Cond → Bool} (h1 : L.all (fun c => isCode c || P c) = true) (h2 : ∀ c ∈ L.filter isCode, P c = true) : L.all P = true := by
  refine List.all_eq_true.mpr fun c hc => ?_
  have h := List.all_eq_true.mp h1 c hc
  rcases Bool.eq_false_or_eq_true (isCode c) with hi | hi
  · exact h2 c (List.mem_filter.mpr ⟨hc, hi⟩)
  · simpa [hi] using h
set_option maxRecDepth 65536 in
theorem w_c0 : (Jvm.Cond.code x code maxLocals ret).before args0 about1 = true := code_word (m := ⟨1, 3⟩) (meth := k1m3) (c := k1c3) (by decide +kernel) rfl rfl rfl (by decide +kernel)
set_option maxRecDepth 65536 in
theorem w_c1 : (Jvm.Cond.code ({ cls := "com/example/tradewheel/tradewheel/PartQueueRemovePinLaw", name := "rank", desc := "(IIII)I" } : Jvm.MethodName) method_2_code (4 : Nat) (Option.some Jvm.ClassFile.FieldType.int)).before args0 about1 = true := code_word (m := ⟨1, 1⟩) (meth := k1m1) (c := k1c1) (by decide +kernel) rfl rfl rfl (by decide +kernel)
set_option maxRecDepth 65536 in
theorem w_c2 : (Jvm.Cond.code ({ cls := "com/example/tradewheel/tradewheel/PartQueue", name := "<init>", desc := "(I)V" } : Jvm.MethodName) prog_22_method_1_code (2 : Nat) (Option.none : Option Jvm.ClassFile.FieldType)).before args0 about1 = true := code_word (m := ⟨2, 0⟩) (meth := k2m0) (c := k2c0) (by decide +kernel) rfl rfl rfl (by decide +kernel)
set_option maxRecDepth 65536 in
theorem w_c3 : (Jvm.Cond.code ({ cls := "java/lang/Object", name := "<init>", desc := "()V" } : Jvm.MethodName) object_method_1_code (1 : Nat) (Option.none : Option Jvm.ClassFile.FieldType)).before args0 about1 = true := code_word (m := ⟨0, 0⟩) (meth := k0m0) (c := k0c0) (by decide +kernel) rfl rfl rfl (by decide +kernel)
set_option maxRecDepth 65536 in
theorem w_c4 : (Jvm.Cond.code ({ cls := "com/example/tradewheel/tradewheel/PartQueue", name := "add", desc := "(II)V" } : Jvm.MethodName) prog_22_method_2_code (6 : Nat) (Option.none : Option Jvm.ClassFile.FieldType)).before args0 about1 = true := code_word (m := ⟨2, 1⟩) (meth := k2m1) (c := k2c1) (by decide +kernel) rfl rfl rfl (by decide +kernel)
set_option maxRecDepth 65536 in
theorem w_c5 : (Jvm.Cond.code ({ cls := "com/example/tradewheel/tradewheel/PartQueue", name := "remove", desc := "()I" } : Jvm.MethodName) prog_22_method_4_code (7 : Nat) (Option.some Jvm.ClassFile.FieldType.int)).before args0 about1 = true := code_word (m := ⟨2, 3⟩) (meth := k2m3) (c := k2c3) (by decide +kernel) rfl rfl rfl (by decide +kernel)
set_option maxRecDepth 65536 in
theorem w_c6 : (Jvm.Cond.code ({ cls := "com/example/tradewheel/tradewheel/PartQueueRemovePinLaw", name := "pick", desc := "(IIIIIIIII)I" } : Jvm.MethodName) method_3_code (9 : Nat) (Option.some Jvm.ClassFile.FieldType.int)).before args0 about1 = true := code_word (m := ⟨1, 2⟩) (meth := k1m2) (c := k1c2) (by decide +kernel) rfl rfl rfl (by decide +kernel)
set_option maxRecDepth 65536 in
theorem w_c7 : (Jvm.Cond.code ({ cls := "com/example/tradewheel/tradewheel/PartQueue", name := "part", desc := "()I" } : Jvm.MethodName) prog_22_method_3_code (1 : Nat) (Option.some Jvm.ClassFile.FieldType.int)).before args0 about1 = true := code_word (m := ⟨2, 2⟩) (meth := k2m2) (c := k2c2) (by decide +kernel) rfl rfl rfl (by decide +kernel)
def codes1 : List Jvm.Cond := [Jvm.Cond.code x code maxLocals ret, Jvm.Cond.code ({ cls := "com/example/tradewheel/tradewheel/PartQueueRemovePinLaw", name := "rank", desc := "(IIII)I" } : Jvm.MethodName) method_2_code (4 : Nat) (Option.some Jvm.ClassFile.FieldType.int), Jvm.Cond.code ({ cls := "com/example/tradewheel/tradewheel/PartQueue", name := "<init>", desc := "(I)V" } : Jvm.MethodName) prog_22_method_1_code (2 : Nat) (Option.none : Option Jvm.ClassFile.FieldType), Jvm.Cond.code ({ cls := "java/lang/Object", name := "<init>", desc := "()V" } : Jvm.MethodName) object_method_1_code (1 : Nat) (Option.none : Option Jvm.ClassFile.FieldType), Jvm.Cond.code ({ cls := "com/example/tradewheel/tradewheel/PartQueue", name := "add", desc := "(II)V" } : Jvm.MethodName) prog_22_method_2_code (6 : Nat) (Option.none : Option Jvm.ClassFile.FieldType), Jvm.Cond.code ({ cls := "com/example/tradewheel/tradewheel/PartQueue", name := "remove", desc := "()I" } : Jvm.MethodName) prog_22_method_4_code (7 : Nat) (Option.some Jvm.ClassFile.FieldType.int), Jvm.Cond.code ({ cls := "com/example/tradewheel/tradewheel/PartQueueRemovePinLaw", name := "pick", desc := "(IIIIIIIII)I" } : Jvm.MethodName) method_3_code (9 : Nat) (Option.some Jvm.ClassFile.FieldType.int), Jvm.Cond.code ({ cls := "com/example/tradewheel/tradewheel/PartQueue", name := "part", desc := "()I" } : Jvm.MethodName) prog_22_method_3_code (1 : Nat) (Option.some Jvm.ClassFile.FieldType.int)]
set_option maxRecDepth 65536 in
theorem codes_eq : words1.filter isCode = codes1 := rfl
theorem w_codes : ∀ c ∈ words1.filter isCode, c.before args0 about1 = true := by
  rw [codes_eq]
  intro c hc
  simp only [codes1, List.mem_cons, List.not_mem_nil, or_false] at hc
  rcases hc with rfl | rfl | rfl | rfl | rfl | rfl | rfl | rfl
  · exact w_c0
  · exact w_c1
  · exact w_c2
  · exact w_c3
  · exact w_c4
  · exact w_c5
  · exact w_c6
  · exact w_c7
set_option maxRecDepth 65536 in
theorem w_t1 : (words1.take 24).all (fun c => isCode c || c.before args0 about1) = true := by decide +kernel
set_option maxRecDepth 65536 in
theorem w_t2 : (words1.drop 24).all (fun c => isCode c || c.before args0 about1) = true := by decide +kernel
theorem w_tables : (allAtoms (Jvm.Cond.code x code maxLocals ret :: tables_1)).before args0 about1 = true := by
  rw [allAtoms_all]
  show words1.all (fun c => c.before args0 about1) = true
  refine all_split ?_ w_codes
  rw [← List.take_append_drop 24 words1, List.all_append, w_t1, w_t2]
  rfl
set_option maxRecDepth 65536 in
theorem w_case : (Jvm.Cond.and given_1 narrow_1).before args0 about1 = true := by decide +kernel
theorem w_applies : (headSpec (Jvm.Cond.code x code maxLocals ret :: tables_1) room_1).applies x e0.platform about1 = true :=
  (Spec.applies_iff w_frames).mpr ⟨w_running, w_runnable, w_alone, w_named, w_hears, w_ripe, w_room, w_tables⟩
theorem atStart : AtStart classFile x code maxLocals ret World_1 tables_1 room_1 Calls_1 rest_1 Pre_1 launch0 p0 e0 about1 theMethod args0 below0 :=
  ⟨lists_1, trivial, launch0.admits_env _ _ _, launch0.least_env, fairChoices_fair.cas, fairChoices_fair.clock, w_frames, w_args, w_heap, w_applies, trivial, trivial, w_case⟩
end start1
theorem witness_1 : WitnessClaimed_1 := ⟨start1.p0, start1.e0, start1.about1, start1.theMethod, start1.args0, start1.below0, start1.atStart⟩
end Jvm.Pilot.@@N@@
