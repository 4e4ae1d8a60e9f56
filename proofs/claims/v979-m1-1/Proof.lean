import JvmDerived
import JvmDerived.Pilot.@@N@@Statement
import JvmDerived.Pilot.@@N@@Code
set_option linter.unusedVariables false
set_option linter.unusedSimpArgs false
namespace Jvm.RoadKit
open Sem ClassFile Op Lib Jvm.Stand Jvm.Free Jvm.LawKit
section New
variable {p : Program} {l : Launch} {e : Env} {R : Room} {s : State} {m : MethodId} {args : Array Value} {below : List Frame} {meth : Method} {c : Code} {T : State} {locs : List Loc} {cells slots : Nat}
theorem retI (X : Stand p l e R s m args below meth c T locs cells slots) (hx : p.tables.exec = Jvm.exec) {pc : Nat} {Ls : Array Slot} {z : Int32} {rest : List Value} (hret : meth.sig.returnType = some .int) (hd : decode c.code pc = .ok (.ireturn, 1)) {fs : List Frame}
    (hl : ∀ (f : JFrame) (acts : List Action), f.method = m → f.locked = none → f.entered = [] → (doReturn e (T.setTop f) acts (some (.int z))).1 = T.setFrames fs) : Steps p.tables e below (T.setTop (mkF m pc Ls (.int z :: rest))) (T.setFrames fs) := by
  have hm' : T.vm.method? m = some meth := X.method'
  have hn : narrow .int (.int z) = .int z := rfl
  show Steps p.tables e below (T.setTop { method := m, pc := pc, locals := Ls, stack := _ :: rest, locked := none }) _
  jvm_step X.here [X.here.top, hx, hd, hm', hret, hn]
  first | (intro acts; rw [hl _ acts rfl rfl rfl]) | rw [hl _ _ rfl rfl rfl]
  exact Steps.refl _
end New
end Jvm.RoadKit
namespace Jvm.Pilot.@@N@@
open Jvm Jvm.ClassFile Sem Op Lib Jvm.Free Jvm.Stand Jvm.LawKit Jvm.RoadKit Bundle Jvm.Pilot.@@N@@.Jvm.D
/-! the own kit: a run told backwards (Runs), arrays by a function of the place (OArr), the comparisons of longs -/
def Runs (tb : Tables) (e : Env) (below : List Frame) (R : State → Outcome → Prop) (T : State) (g : JFrame) : Prop := ∃ t o, Steps tb e below (T.setTop g) t ∧ R t o
section Own
variable {tb : Tables} {e : Env} {below : List Frame} {R : State → Outcome → Prop} {T T' : State} {g g' : JFrame}
theorem Runs.back (k : ∀ t, Steps tb e below (T'.setTop g') t → Steps tb e below (T.setTop g) t) (h : Runs tb e below R T' g') : Runs tb e below R T g := by
  obtain ⟨t, o, h1, h2⟩ := h; exact ⟨t, o, k t h1, h2⟩
theorem Runs.trans (k : Steps tb e below (T.setTop g) (T'.setTop g')) (h : Runs tb e below R T' g') : Runs tb e below R T g := by
  obtain ⟨t, o, h1, h2⟩ := h; exact ⟨t, o, Steps.trans k h1, h2⟩
theorem Runs.enter (q : g = g') (h : Runs tb e below R T g') : ∃ t o, Steps tb e below (T.setTop g) t ∧ R t o := by subst q; exact h
theorem Runs.join {α : Type} {P : α → Prop} {F : α → JFrame} (h : ∀ v, P v → Runs tb e below R T (F v)) (k : (∀ v, P v → Runs tb e below R T (F v)) → Runs tb e below R T g) : Runs tb e below R T g := k h
theorem Runs.joinT {α : Type} {P : α → State → Prop} {F : α → JFrame} (h : ∀ v T', P v T' → Runs tb e below R T' (F v)) (k : (∀ v T', P v T' → Runs tb e below R T' (F v)) → Runs tb e below R T g) : Runs tb e below R T g := k h
theorem lcT {x y : Int64} (h : x < y) : lcmpW x y < 0 := by
  have h1 : ¬ y < x := Int64.not_lt.mpr (Int64.le_of_lt h)
  have h2 : ¬ x = y := fun q => by subst q; exact Int64.lt_irrefl h
  simp [lcmpW, h1, h2]
theorem lcF {x y : Int64} (h : ¬ x < y) : ¬ lcmpW x y < 0 := by
  unfold lcmpW
  by_cases h1 : x > y
  · simp only [if_pos h1]; decide
  · have h2 : x = y := Int64.le_antisymm (Int64.not_lt.mp h1) (Int64.not_lt.mp h)
    simp only [if_neg h1, if_pos h2]; decide
theorem lcT' {x y : Int64} (h : y < x) : 0 < lcmpW x y := by
  unfold lcmpW; rw [if_pos h]; decide
theorem lcF' {x y : Int64} (h : ¬ y < x) : ¬ 0 < lcmpW x y := by
  unfold lcmpW
  have h1 : ¬ x > y := h
  simp only [if_neg h1]
  by_cases h2 : x = y
  · simp only [if_pos h2]; decide
  · simp only [if_neg h2]; decide
theorem lcE {x y : Int64} (h : x = y) : lcmpW x y = 0 := by
  have h1 : ¬ x > y := fun q => by subst h; exact Int64.lt_irrefl q
  unfold lcmpW; rw [if_neg h1, if_pos h]
theorem lcN {x y : Int64} (h : ¬ x = y) : ¬ lcmpW x y = 0 := by
  unfold lcmpW
  by_cases h1 : x > y
  · simp only [if_pos h1]; decide
  · simp only [if_neg h1, if_neg h]; decide
def OArr (Z : State) (h : Heap) (a : Addr) (ty : FieldType) (n : Nat) (f : Nat → Value) : Prop := ∃ c : Cell, Arr Z h a c ty ∧ c.slots.size = n ∧ ∀ i, i < n → c.slots[i]? = some (f i)
variable {Z : State} {h h' : Heap} {a b : Addr} {ty : FieldType} {n sl : Nat} {f : Nat → Value} {v : Value} {ws : List Addr}
theorem OArr.lt (F : OArr Z h a ty n f) : a < h.size := by obtain ⟨c, A, -⟩ := F; exact A.lt
theorem OArr.ext (F : OArr Z h a ty n f) (E : Ext h h') : OArr Z h' a ty n f := by obtain ⟨c, A, r⟩ := F; exact ⟨c, A.ext E, r⟩
theorem OArr.other (F : OArr Z h b ty n f) (W : Wr h h' a sl v) (q : b ≠ a) : OArr Z h' b ty n f := by obtain ⟨c, A, r⟩ := F; exact ⟨c, A.other W q, r⟩
theorem OArr.keep (F : OArr Z h a ty n f) (K : Keep h h' ws) (q : a ∉ ws) : OArr Z h' a ty n f := by obtain ⟨c, A, r⟩ := F; exact ⟨c, ⟨K.2.1 a c A.1 q, A.2⟩, r⟩
theorem OArr.congr (F : OArr Z h a ty n f) {f' : Nat → Value} (q : ∀ i, i < n → f i = f' i) : OArr Z h a ty n f' := by obtain ⟨c, A, r1, r2⟩ := F; exact ⟨c, A, r1, fun i hi => by rw [r2 i hi, q i hi]⟩
theorem OArr.set (F : OArr Z h a ty n f) (W : Wr h h' a sl v) : OArr Z h' a ty n (fun i => if i = sl then v else f i) := by
  obtain ⟨c, A, r1, r2⟩ := F
  obtain ⟨cell, e1, -, e3, -⟩ := id W
  cases e1.symm.trans A.1
  refine ⟨_, A.same W, by rw [sz_set]; exact r1, fun i hi => ?_⟩
  by_cases q : i = sl
  · subst q; simp [Cell.setSlot, e3]
  · simp only [if_neg q]; rw [← r2 i hi]; exact Array.getElem?_setIfInBounds_ne (Ne.symm q)
theorem OArr.new {cA : ClassId} {z : Int32} (A : Arr Z h a (newA cA ty z) ty) (q : z.toNatClampNeg = n) (hd : defaultValue ty = v) : OArr Z h a ty n (fun _ => v) :=
  ⟨_, A, by rw [sz_new]; exact q, fun i hi => by subst hd; simp [newA, q, hi]⟩
theorem inbO {j : Int32} {k : Nat} (ng : ¬ j < 0) (e : j.toNatClampNeg = k) (h : k < n) : ¬ (j < 0 ∨ n ≤ j.toNatClampNeg) := fun q => q.elim ng fun r => by rw [e] at r; exact absurd h (Nat.not_lt.mpr r)
theorem readO {c : Cell} {j : Int32} {k : Nat} (H : ∀ i, i < n → c.slots[i]? = some (f i)) (e : j.toNatClampNeg = k) (h : k < n) (q : f k = v) : c.slots[j.toNatClampNeg]? = some v := by rw [e, H k h, q]
theorem lti {x y : Int32} : x < y ↔ x.toInt < y.toInt := Int32.lt_iff_toInt_lt
theorem ltl {x y : Int64} : x < y ↔ x.toInt < y.toInt := Int64.lt_iff_toInt_lt
theorem eqi {x y : Int32} : x = y ↔ x.toInt = y.toInt := Int32.toInt_inj.symm
theorem eql {x y : Int64} : x = y ↔ x.toInt = y.toInt := Int64.toInt_inj.symm
end Own

theorem add32 {x y : Int32} (h1 : -2147483648 ≤ x.toInt + y.toInt) (h2 : x.toInt + y.toInt < 2147483648) : (x + y).toInt = x.toInt + y.toInt := by
  rw [Int32.toInt_add]; exact Int.bmod_eq_of_le (by omega) (by omega)
theorem sub32 {x y : Int32} (h1 : -2147483648 ≤ x.toInt - y.toInt) (h2 : x.toInt - y.toInt < 2147483648) : (x - y).toInt = x.toInt - y.toInt := by
  rw [Int32.toInt_sub]; exact Int.bmod_eq_of_le (by omega) (by omega)
theorem add64 {x y : Int64} (h1 : -9223372036854775808 ≤ x.toInt + y.toInt) (h2 : x.toInt + y.toInt < 9223372036854775808) : (x + y).toInt = x.toInt + y.toInt := by
  rw [Int64.toInt_add]; exact Int.bmod_eq_of_le (by omega) (by omega)
theorem sub64 {x y : Int64} (h1 : -9223372036854775808 ≤ x.toInt - y.toInt) (h2 : x.toInt - y.toInt < 9223372036854775808) : (x - y).toInt = x.toInt - y.toInt := by
  rw [Int64.toInt_sub]; exact Int.bmod_eq_of_le (by omega) (by omega)
theorem l2i' {x : Int64} (h1 : -2147483648 ≤ x.toInt) (h2 : x.toInt < 2147483648) : x.toInt32.toInt = x.toInt := by
  rw [Int64.toInt_toInt32]; exact Int.bmod_eq_of_le (by omega) (by omega)
theorem bd32 (x : Int32) : -2147483648 ≤ x.toInt ∧ x.toInt < 2147483648 := ⟨Int32.le_toInt x, Int32.toInt_lt x⟩
theorem takeE {c e p : Int32} : c.toInt64 < e.toInt64 + p.toInt64 ↔ c.toInt < e.toInt + p.toInt := by
  have b1 := bd32 e; have b2 := bd32 p
  rw [ltl, add64 (by rw [c_i2l, c_i2l]; omega) (by rw [c_i2l, c_i2l]; omega), c_i2l, c_i2l, c_i2l]
theorem takeC {c : Int32} {x y : Int64} (h1 : -9223372036854775808 ≤ x.toInt + y.toInt) (h2 : x.toInt + y.toInt < 9223372036854775808) : c.toInt64 < x + y ↔ c.toInt < x.toInt + y.toInt := by
  rw [ltl, add64 h1 h2, c_i2l]
theorem z32 : (0 : Int32).toInt = 0 := by decide
theorem o32 : (1 : Int32).toInt = 1 := by decide
theorem z64 : (0 : Int64).toInt = 0 := by decide
theorem o64 : (1 : Int64).toInt = 1 := by decide

theorem idxS {p j : Int32} {k d : Nat} (hk : p.toNatClampNeg = k) (hn : ¬ p < 0) (hj : j.toInt = d) (hb : k + d < 2147483648) : (p + j).toNatClampNeg = k + d ∧ ¬ (p + j) < 0 := by
  have q := nat_of hn
  have e : (p + j).toInt = k + d := by rw [add32 (by omega) (by omega)]; omega
  have n : ¬ (p + j) < 0 := by rw [lti, z32]; omega
  exact ⟨by have := nat_of n; omega, n⟩
def leR (t0 t1 t2 : Int32) (B : Prop) [Decidable B] : Int32 := if t0 = (-30 : Int32) then (if B then (if t1 = (-128 : Int32) then (if t2 = (-88 : Int32) then (3 : Int32) else (0 : Int32)) else (0 : Int32)) else (0 : Int32)) else (0 : Int32)
def leF (fl t0 t1 t2 : Int32) (A B : Prop) [Decidable A] [Decidable B] : Int32 := if t0 = (10 : Int32) then (1 : Int32) else if t0 = (13 : Int32) then (1 : Int32) else if fl = (0 : Int32) then (0 : Int32) else
  if t0 = (-62 : Int32) then (if A then (if t1 = (-123 : Int32) then (2 : Int32) else leR t0 t1 t2 B) else leR t0 t1 t2 B) else leR t0 t1 t2 B
def exR (c0 c1 c2 : Int32) : Int32 := if c0 = (226 : Int32) then (if c1 = (128 : Int32) then (if c2 = (168 : Int32) then (3 : Int32) else (0 : Int32)) else (0 : Int32)) else (0 : Int32)
def exF (fl c0 c1 c2 : Int32) : Int32 := if c0 = (10 : Int32) then (1 : Int32) else if c0 = (13 : Int32) then (1 : Int32) else if fl = (0 : Int32) then (0 : Int32) else
  if c0 = (194 : Int32) then (if c1 = (133 : Int32) then (2 : Int32) else exR c0 c1 c2) else exR c0 c1 c2
theorem byteEq {t v s : Int32} (ht : -128 ≤ t.toInt ∧ t.toInt < 128) (hs : -128 ≤ s.toInt ∧ s.toInt < 128) (hv : v.toInt = s.toInt % 256) : (t &&& (255 : Int32)) = v ↔ t = s := by
  have p8 : ((2 ^ 8 : Nat) : Int) = 256 := by decide
  rw [eqi, eqi, c_mask t 255 8 (by decide) (by decide), p8, hv]
  omega
theorem le_law {fl t0 t1 t2 c1 c2 : Int32} {A B : Prop} [Decidable A] [Decidable B] (b0 : -128 ≤ t0.toInt ∧ t0.toInt < 128) (b1 : -128 ≤ t1.toInt ∧ t1.toInt < 128) (b2 : -128 ≤ t2.toInt ∧ t2.toInt < 128) (hBA : B → A)
    (h1 : c1 = if A then (t1 &&& (255 : Int32)) else (-1 : Int32)) (h2 : c2 = if B then (t2 &&& (255 : Int32)) else (-1 : Int32)) : leF fl t0 t1 t2 A B = exF fl (t0 &&& (255 : Int32)) c1 c2 := by
  have e10 : (t0 &&& (255 : Int32)) = (10 : Int32) ↔ t0 = (10 : Int32) := byteEq b0 (by decide) (by decide)
  have e13 : (t0 &&& (255 : Int32)) = (13 : Int32) ↔ t0 = (13 : Int32) := byteEq b0 (by decide) (by decide)
  have e194 : (t0 &&& (255 : Int32)) = (194 : Int32) ↔ t0 = (-62 : Int32) := byteEq b0 (by decide) (by decide)
  have e226 : (t0 &&& (255 : Int32)) = (226 : Int32) ↔ t0 = (-30 : Int32) := byteEq b0 (by decide) (by decide)
  have f133 : (t1 &&& (255 : Int32)) = (133 : Int32) ↔ t1 = (-123 : Int32) := byteEq b1 (by decide) (by decide)
  have f128 : (t1 &&& (255 : Int32)) = (128 : Int32) ↔ t1 = (-128 : Int32) := byteEq b1 (by decide) (by decide)
  have g168 : (t2 &&& (255 : Int32)) = (168 : Int32) ↔ t2 = (-88 : Int32) := byteEq b2 (by decide) (by decide)
  have n1 : ¬ (-1 : Int32) = (133 : Int32) := by decide
  have n2 : ¬ (-1 : Int32) = (128 : Int32) := by decide
  have n3 : ¬ (-1 : Int32) = (168 : Int32) := by decide
  unfold leF exF leR exR
  by_cases hA : A
  · rw [if_pos hA] at h1
    subst h1
    by_cases hB : B
    · rw [if_pos hB] at h2
      subst h2
      simp only [e10, e13, e194, e226, f133, f128, g168, if_pos hA, if_pos hB]
    · rw [if_neg hB] at h2
      subst h2
      simp only [e10, e13, e194, e226, f133, f128, if_pos hA, if_neg hB, if_neg n3, ite_self]
  · have hB : ¬ B := fun q => hA (hBA q)
    rw [if_neg hA] at h1
    rw [if_neg hB] at h2
    subst h1 h2
    simp only [e10, e13, e194, e226, if_neg hA, if_neg hB, if_neg n1, if_neg n2, ite_self]
theorem d1_0 : decode method_2_code 0 = .ok (.iload_n 0, 1) := by decide +kernel
theorem d1_1 : decode method_2_code 1 = .ok (.bipush 7, 2) := by decide +kernel
theorem d1_3 : decode method_2_code 3 = .ok (.iand, 1) := by decide +kernel
theorem d1_4 : decode method_2_code 4 = .ok (.istore_n 1, 1) := by decide +kernel
theorem d1_5 : decode method_2_code 5 = .ok (.iload_n 1, 1) := by decide +kernel
theorem d1_6 : decode method_2_code 6 = .ok (.iconst 1, 1) := by decide +kernel
theorem d1_7 : decode method_2_code 7 = .ok (.if_icmp .ne 6, 3) := by decide +kernel
theorem d1_10 : decode method_2_code 10 = .ok (.bipush 10, 2) := by decide +kernel
theorem d1_12 : decode method_2_code 12 = .ok (.ireturn, 1) := by decide +kernel
theorem d1_13 : decode method_2_code 13 = .ok (.iload_n 1, 1) := by decide +kernel
theorem d1_14 : decode method_2_code 14 = .ok (.iconst 2, 1) := by decide +kernel
theorem d1_15 : decode method_2_code 15 = .ok (.if_icmp .ne 6, 3) := by decide +kernel
theorem d1_18 : decode method_2_code 18 = .ok (.bipush 13, 2) := by decide +kernel
theorem d1_20 : decode method_2_code 20 = .ok (.ireturn, 1) := by decide +kernel
theorem d1_21 : decode method_2_code 21 = .ok (.iload_n 1, 1) := by decide +kernel
theorem d1_22 : decode method_2_code 22 = .ok (.iconst 3, 1) := by decide +kernel
theorem d1_23 : decode method_2_code 23 = .ok (.if_icmp .ne 6, 3) := by decide +kernel
theorem d1_26 : decode method_2_code 26 = .ok (.bipush (-62), 2) := by decide +kernel
theorem d1_28 : decode method_2_code 28 = .ok (.ireturn, 1) := by decide +kernel
theorem d1_29 : decode method_2_code 29 = .ok (.iload_n 1, 1) := by decide +kernel
theorem d1_30 : decode method_2_code 30 = .ok (.iconst 4, 1) := by decide +kernel
theorem d1_31 : decode method_2_code 31 = .ok (.if_icmp .ne 6, 3) := by decide +kernel
theorem d1_34 : decode method_2_code 34 = .ok (.bipush (-123), 2) := by decide +kernel
theorem d1_36 : decode method_2_code 36 = .ok (.ireturn, 1) := by decide +kernel
theorem d1_37 : decode method_2_code 37 = .ok (.iload_n 1, 1) := by decide +kernel
theorem d1_38 : decode method_2_code 38 = .ok (.iconst 5, 1) := by decide +kernel
theorem d1_39 : decode method_2_code 39 = .ok (.if_icmp .ne 6, 3) := by decide +kernel
theorem d1_42 : decode method_2_code 42 = .ok (.bipush (-30), 2) := by decide +kernel
theorem d1_44 : decode method_2_code 44 = .ok (.ireturn, 1) := by decide +kernel
theorem d1_45 : decode method_2_code 45 = .ok (.iload_n 1, 1) := by decide +kernel
theorem d1_46 : decode method_2_code 46 = .ok (.bipush 6, 2) := by decide +kernel
theorem d1_48 : decode method_2_code 48 = .ok (.if_icmp .ne 6, 3) := by decide +kernel
theorem d1_51 : decode method_2_code 51 = .ok (.bipush (-128), 2) := by decide +kernel
theorem d1_53 : decode method_2_code 53 = .ok (.ireturn, 1) := by decide +kernel
theorem d1_54 : decode method_2_code 54 = .ok (.iload_n 1, 1) := by decide +kernel
theorem d1_55 : decode method_2_code 55 = .ok (.bipush 7, 2) := by decide +kernel
theorem d1_57 : decode method_2_code 57 = .ok (.if_icmp .ne 6, 3) := by decide +kernel
theorem d1_60 : decode method_2_code 60 = .ok (.bipush (-88), 2) := by decide +kernel
theorem d1_62 : decode method_2_code 62 = .ok (.ireturn, 1) := by decide +kernel
theorem d1_63 : decode method_2_code 63 = .ok (.iload_n 0, 1) := by decide +kernel
theorem d1_64 : decode method_2_code 64 = .ok (.iconst 3, 1) := by decide +kernel
theorem d1_65 : decode method_2_code 65 = .ok (.iushr, 1) := by decide +kernel
theorem d1_66 : decode method_2_code 66 = .ok (.i2b, 1) := by decide +kernel
theorem d1_67 : decode method_2_code 67 = .ok (.ireturn, 1) := by decide +kernel
theorem pn_1 : plainName "com/example/strict_distinct/strictdistinct/XmlPositionLineEndAtPinLaw" = true := by first | (simp [plainName, overriddenIn]; done) | decide +kernel
theorem ef_1 (m : MethodId) (p0 : Int32) : entryFrame m #[(.int p0)] 2 = mkF m 0 #[.val (.int p0), .unset] [] := by first | (simp [entryFrame, mkF, argsToLocals, Value.category]; done) | rfl
def Q1 (Z : State) (p0 : Int32)  (h0 : Heap) (n0 : Nat) (v : Option Value) (h : Heap) (L : List Loc) : Prop := ∃ z, v = some (.int z) ∧ Fr n0 L ∧ h = h0
set_option maxRecDepth 65536 in
set_option maxHeartbeats 40000000 in
theorem rm1 (l : Launch) (Z : State) (a0 : Array Value) (hw : ∀ d ∈ tables_1, d.before a0 Z = true) (ws : List Jvm.Cond) (p0 : Int32)  (h0 : Heap) (n0 : Nat) (Z0 : n0 ≤ h0.size) :
    MetFree l (⟨"com/example/strict_distinct/strictdistinct/XmlPositionLineEndAtPinLaw", "pick", "(I)B"⟩ : MethodName) (head1 (Jvm.Cond.code (⟨"com/example/strict_distinct/strictdistinct/XmlPositionLineEndAtPinLaw", "pick", "(I)B"⟩ : MethodName) method_2_code 2 (some .byte) :: ws) ({ frames := 0, cells := 0, slots := 0, locals := 0 } : Room)) (fun a U => a = #[(.int p0)] ∧ Z.Warmed39 U.vm ∧ U.heap = h0) (fun _ _ _ _ _ => True) (fun _ U o U' => ∃ v L, o = .returned v ∧ Q1 Z p0 h0 n0 v U'.heap L ∧ FrameEnd U o U' L ({ frames := 0, cells := 0, slots := 0, locals := 0 } : Room).cells ({ frames := 0, cells := 0, slots := 0, locals := 0 } : Room).slots) := by
  refine MetFree.of_bodySF (plainFor_of_name pn_1) hisR ?_
  intro p e s m args below meth c s₁ Bd hml0 hP hK
  obtain ⟨rfl, hZ, hh⟩ := hP
  have hx := Bd.exec
  have hby := Bd.bytes
  have hml : c.maxLocals = 2 := hml0
  have hown : s.vm.findClass "com/example/strict_distinct/strictdistinct/XmlPositionLineEndAtPinLaw" = some m.cls := findClass_of_methodNamed Bd.named
  have hnm := (name_of_methodNamed Bd.named Bd.method).1
  have X0 : Stand p l e ({ frames := 0, cells := 0, slots := 0, locals := 0 } : Room) s m #[(.int p0)] below meth c s₁ [] 0 0 := Stand.of_body Bd
  have e0 : s₁.heap = h0 := by rw [← hh, Bd.state]; rfl
  have N0 := Fr.nil n0
  refine Runs.enter (ef_1 m p0) ?_
  show Runs _ _ _ _ s₁ (mkF m 0 #[.val (.int p0), .unset] [])
  refine Runs.back (fun t_ k_ => XS.iloadN X0.here hx rfl (hb hby d1_0) rfl k_) ?_
  show Runs _ _ _ _ s₁ (mkF m 1 #[.val (.int p0), .unset] [(.int p0)])
  refine Runs.back (fun t_ k_ => XS.bipush X0.here hx rfl (hb hby d1_1) k_) ?_
  show Runs _ _ _ _ s₁ (mkF m 3 #[.val (.int p0), .unset] [(.int (7 : Int32)), (.int p0)])
  refine Runs.back (fun t_ k_ => XS.iand X0.here hx rfl (hb hby d1_3) rfl k_) ?_
  show Runs _ _ _ _ s₁ (mkF m 4 #[.val (.int p0), .unset] [(.int (p0 &&& (7 : Int32)))])
  refine Runs.back (fun t_ k_ => XS.istoreN X0.here hx rfl (hb hby d1_4) rfl (l' := #[.val (.int p0), .val (.int (p0 &&& (7 : Int32)))]) rfl k_) ?_
  show Runs _ _ _ _ s₁ (mkF m 5 #[.val (.int p0), .val (.int (p0 &&& (7 : Int32)))] [])
  refine Runs.back (fun t_ k_ => XS.iloadN X0.here hx rfl (hb hby d1_5) rfl k_) ?_
  show Runs _ _ _ _ s₁ (mkF m 6 #[.val (.int p0), .val (.int (p0 &&& (7 : Int32)))] [(.int (p0 &&& (7 : Int32)))])
  refine Runs.back (fun t_ k_ => XS.iconst X0.here hx rfl (hb hby d1_6) k_) ?_
  show Runs _ _ _ _ s₁ (mkF m 7 #[.val (.int p0), .val (.int (p0 &&& (7 : Int32)))] [(.int (1 : Int32)), (.int (p0 &&& (7 : Int32)))])
  by_cases c7_1 : (p0 &&& (7 : Int32)) = (1 : Int32)
  · refine Runs.back (fun t_ k_ => XS.icmpNo X0.here hx rfl (hb hby d1_7) rfl (teq c7_1).2 k_) ?_
    show Runs _ _ _ _ s₁ (mkF m 10 #[.val (.int p0), .val (.int (p0 &&& (7 : Int32)))] [])
    refine Runs.back (fun t_ k_ => XS.bipush X0.here hx rfl (hb hby d1_10) k_) ?_
    show Runs _ _ _ _ s₁ (mkF m 12 #[.val (.int p0), .val (.int (p0 &&& (7 : Int32)))] [(.int (10 : Int32))])
    obtain ⟨fs, hr, hrun, hended, hW, hsame⟩ := X0.leave (v := some (.int (nar .byte (10 : Int32)))) (fun h => by rw [Bd.returns] at h; cases h)
    exact ⟨_, _, (retN X0 hx (t := .byte) Bd.returns (by simp) (hb hby d1_12) hr), hrun, hended, _, _, rfl, ⟨_, rfl, N0, e0⟩, ⟨_, rfl⟩, hW, hsame.mono (by decide) (by decide)⟩
  · refine Runs.back (fun t_ k_ => XS.icmpYes X0.here hx rfl (pc0 := 7) (pc' := 13) rfl (hb hby d1_7) rfl (feq c7_1).2 (by decide) (by decide) k_) ?_
    show Runs _ _ _ _ s₁ (mkF m 13 #[.val (.int p0), .val (.int (p0 &&& (7 : Int32)))] [])
    refine Runs.back (fun t_ k_ => XS.iloadN X0.here hx rfl (hb hby d1_13) rfl k_) ?_
    show Runs _ _ _ _ s₁ (mkF m 14 #[.val (.int p0), .val (.int (p0 &&& (7 : Int32)))] [(.int (p0 &&& (7 : Int32)))])
    refine Runs.back (fun t_ k_ => XS.iconst X0.here hx rfl (hb hby d1_14) k_) ?_
    show Runs _ _ _ _ s₁ (mkF m 15 #[.val (.int p0), .val (.int (p0 &&& (7 : Int32)))] [(.int (2 : Int32)), (.int (p0 &&& (7 : Int32)))])
    by_cases c15_2 : (p0 &&& (7 : Int32)) = (2 : Int32)
    · refine Runs.back (fun t_ k_ => XS.icmpNo X0.here hx rfl (hb hby d1_15) rfl (teq c15_2).2 k_) ?_
      show Runs _ _ _ _ s₁ (mkF m 18 #[.val (.int p0), .val (.int (p0 &&& (7 : Int32)))] [])
      refine Runs.back (fun t_ k_ => XS.bipush X0.here hx rfl (hb hby d1_18) k_) ?_
      show Runs _ _ _ _ s₁ (mkF m 20 #[.val (.int p0), .val (.int (p0 &&& (7 : Int32)))] [(.int (13 : Int32))])
      obtain ⟨fs, hr, hrun, hended, hW, hsame⟩ := X0.leave (v := some (.int (nar .byte (13 : Int32)))) (fun h => by rw [Bd.returns] at h; cases h)
      exact ⟨_, _, (retN X0 hx (t := .byte) Bd.returns (by simp) (hb hby d1_20) hr), hrun, hended, _, _, rfl, ⟨_, rfl, N0, e0⟩, ⟨_, rfl⟩, hW, hsame.mono (by decide) (by decide)⟩
    · refine Runs.back (fun t_ k_ => XS.icmpYes X0.here hx rfl (pc0 := 15) (pc' := 21) rfl (hb hby d1_15) rfl (feq c15_2).2 (by decide) (by decide) k_) ?_
      show Runs _ _ _ _ s₁ (mkF m 21 #[.val (.int p0), .val (.int (p0 &&& (7 : Int32)))] [])
      refine Runs.back (fun t_ k_ => XS.iloadN X0.here hx rfl (hb hby d1_21) rfl k_) ?_
      show Runs _ _ _ _ s₁ (mkF m 22 #[.val (.int p0), .val (.int (p0 &&& (7 : Int32)))] [(.int (p0 &&& (7 : Int32)))])
      refine Runs.back (fun t_ k_ => XS.iconst X0.here hx rfl (hb hby d1_22) k_) ?_
      show Runs _ _ _ _ s₁ (mkF m 23 #[.val (.int p0), .val (.int (p0 &&& (7 : Int32)))] [(.int (3 : Int32)), (.int (p0 &&& (7 : Int32)))])
      by_cases c23_3 : (p0 &&& (7 : Int32)) = (3 : Int32)
      · refine Runs.back (fun t_ k_ => XS.icmpNo X0.here hx rfl (hb hby d1_23) rfl (teq c23_3).2 k_) ?_
        show Runs _ _ _ _ s₁ (mkF m 26 #[.val (.int p0), .val (.int (p0 &&& (7 : Int32)))] [])
        refine Runs.back (fun t_ k_ => XS.bipush X0.here hx rfl (hb hby d1_26) k_) ?_
        show Runs _ _ _ _ s₁ (mkF m 28 #[.val (.int p0), .val (.int (p0 &&& (7 : Int32)))] [(.int (-62 : Int32))])
        obtain ⟨fs, hr, hrun, hended, hW, hsame⟩ := X0.leave (v := some (.int (nar .byte (-62 : Int32)))) (fun h => by rw [Bd.returns] at h; cases h)
        exact ⟨_, _, (retN X0 hx (t := .byte) Bd.returns (by simp) (hb hby d1_28) hr), hrun, hended, _, _, rfl, ⟨_, rfl, N0, e0⟩, ⟨_, rfl⟩, hW, hsame.mono (by decide) (by decide)⟩
      · refine Runs.back (fun t_ k_ => XS.icmpYes X0.here hx rfl (pc0 := 23) (pc' := 29) rfl (hb hby d1_23) rfl (feq c23_3).2 (by decide) (by decide) k_) ?_
        show Runs _ _ _ _ s₁ (mkF m 29 #[.val (.int p0), .val (.int (p0 &&& (7 : Int32)))] [])
        refine Runs.back (fun t_ k_ => XS.iloadN X0.here hx rfl (hb hby d1_29) rfl k_) ?_
        show Runs _ _ _ _ s₁ (mkF m 30 #[.val (.int p0), .val (.int (p0 &&& (7 : Int32)))] [(.int (p0 &&& (7 : Int32)))])
        refine Runs.back (fun t_ k_ => XS.iconst X0.here hx rfl (hb hby d1_30) k_) ?_
        show Runs _ _ _ _ s₁ (mkF m 31 #[.val (.int p0), .val (.int (p0 &&& (7 : Int32)))] [(.int (4 : Int32)), (.int (p0 &&& (7 : Int32)))])
        by_cases c31_4 : (p0 &&& (7 : Int32)) = (4 : Int32)
        · refine Runs.back (fun t_ k_ => XS.icmpNo X0.here hx rfl (hb hby d1_31) rfl (teq c31_4).2 k_) ?_
          show Runs _ _ _ _ s₁ (mkF m 34 #[.val (.int p0), .val (.int (p0 &&& (7 : Int32)))] [])
          refine Runs.back (fun t_ k_ => XS.bipush X0.here hx rfl (hb hby d1_34) k_) ?_
          show Runs _ _ _ _ s₁ (mkF m 36 #[.val (.int p0), .val (.int (p0 &&& (7 : Int32)))] [(.int (-123 : Int32))])
          obtain ⟨fs, hr, hrun, hended, hW, hsame⟩ := X0.leave (v := some (.int (nar .byte (-123 : Int32)))) (fun h => by rw [Bd.returns] at h; cases h)
          exact ⟨_, _, (retN X0 hx (t := .byte) Bd.returns (by simp) (hb hby d1_36) hr), hrun, hended, _, _, rfl, ⟨_, rfl, N0, e0⟩, ⟨_, rfl⟩, hW, hsame.mono (by decide) (by decide)⟩
        · refine Runs.back (fun t_ k_ => XS.icmpYes X0.here hx rfl (pc0 := 31) (pc' := 37) rfl (hb hby d1_31) rfl (feq c31_4).2 (by decide) (by decide) k_) ?_
          show Runs _ _ _ _ s₁ (mkF m 37 #[.val (.int p0), .val (.int (p0 &&& (7 : Int32)))] [])
          refine Runs.back (fun t_ k_ => XS.iloadN X0.here hx rfl (hb hby d1_37) rfl k_) ?_
          show Runs _ _ _ _ s₁ (mkF m 38 #[.val (.int p0), .val (.int (p0 &&& (7 : Int32)))] [(.int (p0 &&& (7 : Int32)))])
          refine Runs.back (fun t_ k_ => XS.iconst X0.here hx rfl (hb hby d1_38) k_) ?_
          show Runs _ _ _ _ s₁ (mkF m 39 #[.val (.int p0), .val (.int (p0 &&& (7 : Int32)))] [(.int (5 : Int32)), (.int (p0 &&& (7 : Int32)))])
          by_cases c39_5 : (p0 &&& (7 : Int32)) = (5 : Int32)
          · refine Runs.back (fun t_ k_ => XS.icmpNo X0.here hx rfl (hb hby d1_39) rfl (teq c39_5).2 k_) ?_
            show Runs _ _ _ _ s₁ (mkF m 42 #[.val (.int p0), .val (.int (p0 &&& (7 : Int32)))] [])
            refine Runs.back (fun t_ k_ => XS.bipush X0.here hx rfl (hb hby d1_42) k_) ?_
            show Runs _ _ _ _ s₁ (mkF m 44 #[.val (.int p0), .val (.int (p0 &&& (7 : Int32)))] [(.int (-30 : Int32))])
            obtain ⟨fs, hr, hrun, hended, hW, hsame⟩ := X0.leave (v := some (.int (nar .byte (-30 : Int32)))) (fun h => by rw [Bd.returns] at h; cases h)
            exact ⟨_, _, (retN X0 hx (t := .byte) Bd.returns (by simp) (hb hby d1_44) hr), hrun, hended, _, _, rfl, ⟨_, rfl, N0, e0⟩, ⟨_, rfl⟩, hW, hsame.mono (by decide) (by decide)⟩
          · refine Runs.back (fun t_ k_ => XS.icmpYes X0.here hx rfl (pc0 := 39) (pc' := 45) rfl (hb hby d1_39) rfl (feq c39_5).2 (by decide) (by decide) k_) ?_
            show Runs _ _ _ _ s₁ (mkF m 45 #[.val (.int p0), .val (.int (p0 &&& (7 : Int32)))] [])
            refine Runs.back (fun t_ k_ => XS.iloadN X0.here hx rfl (hb hby d1_45) rfl k_) ?_
            show Runs _ _ _ _ s₁ (mkF m 46 #[.val (.int p0), .val (.int (p0 &&& (7 : Int32)))] [(.int (p0 &&& (7 : Int32)))])
            refine Runs.back (fun t_ k_ => XS.bipush X0.here hx rfl (hb hby d1_46) k_) ?_
            show Runs _ _ _ _ s₁ (mkF m 48 #[.val (.int p0), .val (.int (p0 &&& (7 : Int32)))] [(.int (6 : Int32)), (.int (p0 &&& (7 : Int32)))])
            by_cases c48_6 : (p0 &&& (7 : Int32)) = (6 : Int32)
            · refine Runs.back (fun t_ k_ => XS.icmpNo X0.here hx rfl (hb hby d1_48) rfl (teq c48_6).2 k_) ?_
              show Runs _ _ _ _ s₁ (mkF m 51 #[.val (.int p0), .val (.int (p0 &&& (7 : Int32)))] [])
              refine Runs.back (fun t_ k_ => XS.bipush X0.here hx rfl (hb hby d1_51) k_) ?_
              show Runs _ _ _ _ s₁ (mkF m 53 #[.val (.int p0), .val (.int (p0 &&& (7 : Int32)))] [(.int (-128 : Int32))])
              obtain ⟨fs, hr, hrun, hended, hW, hsame⟩ := X0.leave (v := some (.int (nar .byte (-128 : Int32)))) (fun h => by rw [Bd.returns] at h; cases h)
              exact ⟨_, _, (retN X0 hx (t := .byte) Bd.returns (by simp) (hb hby d1_53) hr), hrun, hended, _, _, rfl, ⟨_, rfl, N0, e0⟩, ⟨_, rfl⟩, hW, hsame.mono (by decide) (by decide)⟩
            · refine Runs.back (fun t_ k_ => XS.icmpYes X0.here hx rfl (pc0 := 48) (pc' := 54) rfl (hb hby d1_48) rfl (feq c48_6).2 (by decide) (by decide) k_) ?_
              show Runs _ _ _ _ s₁ (mkF m 54 #[.val (.int p0), .val (.int (p0 &&& (7 : Int32)))] [])
              refine Runs.back (fun t_ k_ => XS.iloadN X0.here hx rfl (hb hby d1_54) rfl k_) ?_
              show Runs _ _ _ _ s₁ (mkF m 55 #[.val (.int p0), .val (.int (p0 &&& (7 : Int32)))] [(.int (p0 &&& (7 : Int32)))])
              refine Runs.back (fun t_ k_ => XS.bipush X0.here hx rfl (hb hby d1_55) k_) ?_
              show Runs _ _ _ _ s₁ (mkF m 57 #[.val (.int p0), .val (.int (p0 &&& (7 : Int32)))] [(.int (7 : Int32)), (.int (p0 &&& (7 : Int32)))])
              by_cases c57_7 : (p0 &&& (7 : Int32)) = (7 : Int32)
              · refine Runs.back (fun t_ k_ => XS.icmpNo X0.here hx rfl (hb hby d1_57) rfl (teq c57_7).2 k_) ?_
                show Runs _ _ _ _ s₁ (mkF m 60 #[.val (.int p0), .val (.int (p0 &&& (7 : Int32)))] [])
                refine Runs.back (fun t_ k_ => XS.bipush X0.here hx rfl (hb hby d1_60) k_) ?_
                show Runs _ _ _ _ s₁ (mkF m 62 #[.val (.int p0), .val (.int (p0 &&& (7 : Int32)))] [(.int (-88 : Int32))])
                obtain ⟨fs, hr, hrun, hended, hW, hsame⟩ := X0.leave (v := some (.int (nar .byte (-88 : Int32)))) (fun h => by rw [Bd.returns] at h; cases h)
                exact ⟨_, _, (retN X0 hx (t := .byte) Bd.returns (by simp) (hb hby d1_62) hr), hrun, hended, _, _, rfl, ⟨_, rfl, N0, e0⟩, ⟨_, rfl⟩, hW, hsame.mono (by decide) (by decide)⟩
              · refine Runs.back (fun t_ k_ => XS.icmpYes X0.here hx rfl (pc0 := 57) (pc' := 63) rfl (hb hby d1_57) rfl (feq c57_7).2 (by decide) (by decide) k_) ?_
                show Runs _ _ _ _ s₁ (mkF m 63 #[.val (.int p0), .val (.int (p0 &&& (7 : Int32)))] [])
                refine Runs.back (fun t_ k_ => XS.iloadN X0.here hx rfl (hb hby d1_63) rfl k_) ?_
                show Runs _ _ _ _ s₁ (mkF m 64 #[.val (.int p0), .val (.int (p0 &&& (7 : Int32)))] [(.int p0)])
                refine Runs.back (fun t_ k_ => XS.iconst X0.here hx rfl (hb hby d1_64) k_) ?_
                show Runs _ _ _ _ s₁ (mkF m 65 #[.val (.int p0), .val (.int (p0 &&& (7 : Int32)))] [(.int (3 : Int32)), (.int p0)])
                refine Runs.back (fun t_ k_ => XS.iushr X0.here hx rfl (hb hby d1_65) rfl k_) ?_
                show Runs _ _ _ _ s₁ (mkF m 66 #[.val (.int p0), .val (.int (p0 &&& (7 : Int32)))] [(.int ((p0.toUInt32 >>> ((3 : Int32) &&& 31).toUInt32).toInt32))])
                refine Runs.back (fun t_ k_ => XS.i2b X0.here hx rfl (hb hby d1_66) rfl k_) ?_
                show Runs _ _ _ _ s₁ (mkF m 67 #[.val (.int p0), .val (.int (p0 &&& (7 : Int32)))] [(.int (((p0.toUInt32 >>> ((3 : Int32) &&& 31).toUInt32).toInt32).toInt8.toInt32))])
                obtain ⟨fs, hr, hrun, hended, hW, hsame⟩ := X0.leave (v := some (.int (nar .byte (((p0.toUInt32 >>> ((3 : Int32) &&& 31).toUInt32).toInt32).toInt8.toInt32)))) (fun h => by rw [Bd.returns] at h; cases h)
                exact ⟨_, _, (retN X0 hx (t := .byte) Bd.returns (by simp) (hb hby d1_67) hr), hrun, hended, _, _, rfl, ⟨_, rfl, N0, e0⟩, ⟨_, rfl⟩, hW, hsame.mono (by decide) (by decide)⟩
theorem d2_0 : decode prog_43_method_1_code 0 = .ok (.aload_n 0, 1) := by decide +kernel
theorem d2_1 : decode prog_43_method_1_code 1 = .ok (.invokespecial 1, 3) := by decide +kernel
theorem d2_4 : decode prog_43_method_1_code 4 = .ok (.aload_n 0, 1) := by decide +kernel
theorem d2_5 : decode prog_43_method_1_code 5 = .ok (.lconst 1, 1) := by decide +kernel
theorem d2_6 : decode prog_43_method_1_code 6 = .ok (.putfield 7, 3) := by decide +kernel
theorem d2_9 : decode prog_43_method_1_code 9 = .ok (.aload_n 0, 1) := by decide +kernel
theorem d2_10 : decode prog_43_method_1_code 10 = .ok (.iload_n 1, 1) := by decide +kernel
theorem d2_11 : decode prog_43_method_1_code 11 = .ok (.putfield 13, 3) := by decide +kernel
theorem d2_14 : decode prog_43_method_1_code 14 = .ok (.return_, 1) := by decide +kernel
theorem pn_2 : plainName "com/example/strict_distinct/strictdistinct/XmlPosition" = true := by first | (simp [plainName, overriddenIn]; done) | decide +kernel
theorem ef_2 (m : MethodId) (r0 : Addr) (p1 : Int32) : entryFrame m #[(.ref r0), (.int p1)] 2 = mkF m 0 #[.val (.ref r0), .val (.int p1)] [] := by first | (simp [entryFrame, mkF, argsToLocals, Value.category]; done) | rfl
def Q2 (Z : State) (r0 : Addr) (p1 : Int32) (v1 v2 : Value) (h0 : Heap) (n0 : Nat) (v : Option Value) (h : Heap) (L : List Loc) : Prop := v = none ∧ Fr n0 L ∧ Keep h0 h [r0] ∧ Exa Z h r0 "com/example/strict_distinct/strictdistinct/XmlPosition" ∧ Fld Z h r0 "com/example/strict_distinct/strictdistinct/XmlPosition" "xml11" "Z" (.int (nar .boolean p1))
set_option maxRecDepth 65536 in
set_option maxHeartbeats 40000000 in
theorem rm2 (l : Launch) (Z : State) (a0 : Array Value) (hw : ∀ d ∈ tables_1, d.before a0 Z = true) (ws : List Jvm.Cond) (r0 : Addr) (p1 : Int32) (v1 v2 : Value) (h0 : Heap) (n0 : Nat) (Z0 : n0 ≤ h0.size) (E_r0 : Exa Z h0 r0 "com/example/strict_distinct/strictdistinct/XmlPosition") (F1 : Fld Z h0 r0 "com/example/strict_distinct/strictdistinct/XmlPosition" "line" "J" v1) (F2 : Fld Z h0 r0 "com/example/strict_distinct/strictdistinct/XmlPosition" "xml11" "Z" v2) (g_r0 : n0 ≤ r0) :
    MetFree l (⟨"com/example/strict_distinct/strictdistinct/XmlPosition", "<init>", "(Z)V"⟩ : MethodName) (head1 (Jvm.Cond.code (⟨"com/example/strict_distinct/strictdistinct/XmlPosition", "<init>", "(Z)V"⟩ : MethodName) prog_43_method_1_code 2 none :: ws) ({ frames := 1, cells := 0, slots := 0, locals := 12 } : Room)) (fun a U => a = #[(.ref r0), (.int p1)] ∧ Z.Warmed39 U.vm ∧ U.heap = h0) (fun _ _ _ _ _ => True) (fun _ U o U' => ∃ v L, o = .returned v ∧ Q2 Z r0 p1 v1 v2 h0 n0 v U'.heap L ∧ FrameEnd U o U' L ({ frames := 1, cells := 0, slots := 0, locals := 12 } : Room).cells ({ frames := 1, cells := 0, slots := 0, locals := 12 } : Room).slots) := by
  refine MetFree.of_bodySF (plainFor_of_name pn_2) hisR ?_
  intro p e s m args below meth c s₁ Bd hml0 hP hK
  obtain ⟨rfl, hZ, hh⟩ := hP
  have hx := Bd.exec
  have hby := Bd.bytes
  have hml : c.maxLocals = 2 := hml0
  have hown : s.vm.findClass "com/example/strict_distinct/strictdistinct/XmlPosition" = some m.cls := findClass_of_methodNamed Bd.named
  have hnm := (name_of_methodNamed Bd.named Bd.method).1
  have X0 : Stand p l e ({ frames := 1, cells := 0, slots := 0, locals := 12 } : Room) s m #[(.ref r0), (.int p1)] below meth c s₁ [] 0 0 := Stand.of_body Bd
  have e0 : s₁.heap = h0 := by rw [← hh, Bd.state]; rfl
  have N0 := Fr.nil n0
  refine Runs.enter (ef_2 m r0 p1) ?_
  show Runs _ _ _ _ s₁ (mkF m 0 #[.val (.ref r0), .val (.int p1)] [])
  refine Runs.back (fun t_ k_ => XS.aloadN X0.here hx rfl (hb hby d2_0) rfl rfl k_) ?_
  show Runs _ _ _ _ s₁ (mkF m 1 #[.val (.ref r0), .val (.int p1)] [(.ref r0)])
  obtain ⟨T1, X1, e1, st1⟩ := initO X0 hx hZ hown (hw _ (List.mem_of_getElem? (i := 12) rfl)) (hw _ (List.mem_of_getElem? (i := 13) rfl)) (hw _ (List.mem_of_getElem? (i := 14) rfl)) e0 (g := (mkF m 1 #[.val (.ref r0), .val (.int p1)] [(.ref r0)])) rfl (by rw [hml]; rfl) rfl (hb hby d2_1) (by decide) (W := 0) (by show 2 * 0 + _ ≤ _; exact Nat.le_of_eq rfl) (by decide)
  refine Runs.back st1 ?_
  show Runs _ _ _ _ T1 (mkF m 4 #[.val (.ref r0), .val (.int p1)] [])
  refine Runs.back (fun t_ k_ => XS.aloadN X1.here hx rfl (hb hby d2_4) rfl rfl k_) ?_
  show Runs _ _ _ _ T1 (mkF m 5 #[.val (.ref r0), .val (.int p1)] [(.ref r0)])
  refine Runs.back (fun t_ k_ => XS.lconst X1.here hx rfl (hb hby d2_5) k_) ?_
  show Runs _ _ _ _ T1 (mkF m 6 #[.val (.ref r0), .val (.int p1)] [(.long (1 : Int64)), (.ref r0)])
  obtain ⟨T2, h2, X2, e2, W2, st2⟩ := putF X1 hx hZ hown (host := "") (Or.inl (hw _ (List.mem_of_getElem? (i := 15) rfl))) Via.refl e1 F1 E_r0 (Or.inl (hw _ (List.mem_of_getElem? (i := 16) rfl))) (hw _ (List.mem_of_getElem? (i := 7) rfl)) (ty := .long) (by decide) rfl rfl (g := (mkF m 6 #[.val (.ref r0), .val (.int p1)] [(.long (1 : Int64)), (.ref r0)])) rfl rfl (hb hby d2_6)
  have f2_Exa_0 : Exa Z h2 r0 "com/example/strict_distinct/strictdistinct/XmlPosition" := Exa.wr W2 E_r0
  have f2_Fld_1 : Fld Z h2 r0 "com/example/strict_distinct/strictdistinct/XmlPosition" "line" "J" (.long (1 : Int64)) := Fld.same W2 F1
  have f2_Fld_2 : Fld Z h2 r0 "com/example/strict_distinct/strictdistinct/XmlPosition" "xml11" "Z" v2 := Fld.other W2 F2 (Or.inr (slot_ne (Or.inl (hw _ (List.mem_of_getElem? (i := 18) rfl))) (Or.inl (hw _ (List.mem_of_getElem? (i := 16) rfl))) (by decide) (t := .boolean) (t' := .long) (by decide) (by decide)))
  have N2 := Fr.snoc X2 N0 g_r0
  have KK2 : Keep h0 h2 [r0] := Keep.wr (Keep.refl h0 [r0]) W2 (Or.inl (List.mem_of_getElem? (i := 0) rfl))
  have Z2 : n0 ≤ h2.size := Nat.le_trans (Z0) (Nat.le_of_eq W2.size.symm)
  refine Runs.back st2 ?_
  show Runs _ _ _ _ T2 (mkF m 9 #[.val (.ref r0), .val (.int p1)] [])
  refine Runs.back (fun t_ k_ => XS.aloadN X2.here hx rfl (hb hby d2_9) rfl rfl k_) ?_
  show Runs _ _ _ _ T2 (mkF m 10 #[.val (.ref r0), .val (.int p1)] [(.ref r0)])
  refine Runs.back (fun t_ k_ => XS.iloadN X2.here hx rfl (hb hby d2_10) rfl k_) ?_
  show Runs _ _ _ _ T2 (mkF m 11 #[.val (.ref r0), .val (.int p1)] [(.int p1), (.ref r0)])
  obtain ⟨T3, h3, X3, e3, W3, st3⟩ := putFN X2 hx hZ hown (hw _ (List.mem_of_getElem? (i := 17) rfl)) Via.refl e2 f2_Fld_2 f2_Exa_0 (Or.inl (hw _ (List.mem_of_getElem? (i := 18) rfl))) (hw _ (List.mem_of_getElem? (i := 7) rfl)) (ty := .boolean) (v' := (.int (nar .boolean p1))) (by decide) rfl (fits_nar_bool _) (g := (mkF m 11 #[.val (.ref r0), .val (.int p1)] [(.int p1), (.ref r0)])) rfl rfl (hb hby d2_11)
  have f3_Exa_0 : Exa Z h3 r0 "com/example/strict_distinct/strictdistinct/XmlPosition" := Exa.wr W3 f2_Exa_0
  have f3_Fld_1 : Fld Z h3 r0 "com/example/strict_distinct/strictdistinct/XmlPosition" "line" "J" (.long (1 : Int64)) := Fld.other W3 f2_Fld_1 (Or.inr (slot_ne (Or.inl (hw _ (List.mem_of_getElem? (i := 16) rfl))) (Or.inl (hw _ (List.mem_of_getElem? (i := 18) rfl))) (by decide) (t := .long) (t' := .boolean) (by decide) (by decide)))
  have f3_Fld_2 : Fld Z h3 r0 "com/example/strict_distinct/strictdistinct/XmlPosition" "xml11" "Z" (.int (nar .boolean p1)) := Fld.same W3 f2_Fld_2
  have N3 := Fr.snoc X3 N2 g_r0
  have KK3 : Keep h0 h3 [r0] := Keep.wr KK2 W3 (Or.inl (List.mem_of_getElem? (i := 0) rfl))
  have Z3 : n0 ≤ h3.size := Nat.le_trans (Z2) (Nat.le_of_eq W3.size.symm)
  refine Runs.back st3 ?_
  show Runs _ _ _ _ T3 (mkF m 14 #[.val (.ref r0), .val (.int p1)] [])
  obtain ⟨fs, hr, hrun, hended, hW, hsame⟩ := X3.leave (v := none) (fun _ => rfl)
  exact ⟨_, _, (X3.returnOut hx Bd.returns (hb hby d2_14) hr), hrun, hended, _, _, rfl, (by show Q2 Z r0 p1 v1 v2 h0 n0 _ T3.heap _; rw [e3]; exact ⟨rfl, N3, KK3, f3_Exa_0, f3_Fld_2⟩), ⟨_, rfl⟩, hW, hsame.mono (by decide) (by decide)⟩
theorem d4_0 : decode prog_43_method_4_code 0 = .ok (.aload_n 1, 1) := by decide +kernel
theorem d4_1 : decode prog_43_method_4_code 1 = .ok (.iload_n 2, 1) := by decide +kernel
theorem d4_2 : decode prog_43_method_4_code 2 = .ok (.baload, 1) := by decide +kernel
theorem d4_3 : decode prog_43_method_4_code 3 = .ok (.istore 4, 2) := by decide +kernel
theorem d4_5 : decode prog_43_method_4_code 5 = .ok (.iconst 0, 1) := by decide +kernel
theorem d4_6 : decode prog_43_method_4_code 6 = .ok (.istore 5, 2) := by decide +kernel
theorem d4_8 : decode prog_43_method_4_code 8 = .ok (.iload 4, 2) := by decide +kernel
theorem d4_10 : decode prog_43_method_4_code 10 = .ok (.bipush 10, 2) := by decide +kernel
theorem d4_12 : decode prog_43_method_4_code 12 = .ok (.if_icmp .eq 10, 3) := by decide +kernel
theorem d4_15 : decode prog_43_method_4_code 15 = .ok (.iload 4, 2) := by decide +kernel
theorem d4_17 : decode prog_43_method_4_code 17 = .ok (.bipush 13, 2) := by decide +kernel
theorem d4_19 : decode prog_43_method_4_code 19 = .ok (.if_icmp .ne 9, 3) := by decide +kernel
theorem d4_22 : decode prog_43_method_4_code 22 = .ok (.iconst 1, 1) := by decide +kernel
theorem d4_23 : decode prog_43_method_4_code 23 = .ok (.istore 5, 2) := by decide +kernel
theorem d4_25 : decode prog_43_method_4_code 25 = .ok (.goto 84, 3) := by decide +kernel
theorem d4_28 : decode prog_43_method_4_code 28 = .ok (.aload_n 0, 1) := by decide +kernel
theorem d4_29 : decode prog_43_method_4_code 29 = .ok (.getfield 13, 3) := by decide +kernel
theorem d4_32 : decode prog_43_method_4_code 32 = .ok (.ifCond .eq 33, 3) := by decide +kernel
theorem d4_35 : decode prog_43_method_4_code 35 = .ok (.iload 4, 2) := by decide +kernel
theorem d4_37 : decode prog_43_method_4_code 37 = .ok (.bipush (-62), 2) := by decide +kernel
theorem d4_39 : decode prog_43_method_4_code 39 = .ok (.if_icmp .ne 26, 3) := by decide +kernel
theorem d4_42 : decode prog_43_method_4_code 42 = .ok (.iload_n 2, 1) := by decide +kernel
theorem d4_43 : decode prog_43_method_4_code 43 = .ok (.iconst 1, 1) := by decide +kernel
theorem d4_44 : decode prog_43_method_4_code 44 = .ok (.iadd, 1) := by decide +kernel
theorem d4_45 : decode prog_43_method_4_code 45 = .ok (.iload_n 3, 1) := by decide +kernel
theorem d4_46 : decode prog_43_method_4_code 46 = .ok (.if_icmp .ge 19, 3) := by decide +kernel
theorem d4_49 : decode prog_43_method_4_code 49 = .ok (.aload_n 1, 1) := by decide +kernel
theorem d4_50 : decode prog_43_method_4_code 50 = .ok (.iload_n 2, 1) := by decide +kernel
theorem d4_51 : decode prog_43_method_4_code 51 = .ok (.iconst 1, 1) := by decide +kernel
theorem d4_52 : decode prog_43_method_4_code 52 = .ok (.iadd, 1) := by decide +kernel
theorem d4_53 : decode prog_43_method_4_code 53 = .ok (.baload, 1) := by decide +kernel
theorem d4_54 : decode prog_43_method_4_code 54 = .ok (.bipush (-123), 2) := by decide +kernel
theorem d4_56 : decode prog_43_method_4_code 56 = .ok (.if_icmp .ne 9, 3) := by decide +kernel
theorem d4_59 : decode prog_43_method_4_code 59 = .ok (.iconst 2, 1) := by decide +kernel
theorem d4_60 : decode prog_43_method_4_code 60 = .ok (.istore 5, 2) := by decide +kernel
theorem d4_62 : decode prog_43_method_4_code 62 = .ok (.goto 47, 3) := by decide +kernel
theorem d4_65 : decode prog_43_method_4_code 65 = .ok (.aload_n 0, 1) := by decide +kernel
theorem d4_66 : decode prog_43_method_4_code 66 = .ok (.getfield 13, 3) := by decide +kernel
theorem d4_69 : decode prog_43_method_4_code 69 = .ok (.ifCond .eq 40, 3) := by decide +kernel
theorem d4_72 : decode prog_43_method_4_code 72 = .ok (.iload 4, 2) := by decide +kernel
theorem d4_74 : decode prog_43_method_4_code 74 = .ok (.bipush (-30), 2) := by decide +kernel
theorem d4_76 : decode prog_43_method_4_code 76 = .ok (.if_icmp .ne 33, 3) := by decide +kernel
theorem d4_79 : decode prog_43_method_4_code 79 = .ok (.iload_n 2, 1) := by decide +kernel
theorem d4_80 : decode prog_43_method_4_code 80 = .ok (.iconst 2, 1) := by decide +kernel
theorem d4_81 : decode prog_43_method_4_code 81 = .ok (.iadd, 1) := by decide +kernel
theorem d4_82 : decode prog_43_method_4_code 82 = .ok (.iload_n 3, 1) := by decide +kernel
theorem d4_83 : decode prog_43_method_4_code 83 = .ok (.if_icmp .ge 26, 3) := by decide +kernel
theorem d4_86 : decode prog_43_method_4_code 86 = .ok (.aload_n 1, 1) := by decide +kernel
theorem d4_87 : decode prog_43_method_4_code 87 = .ok (.iload_n 2, 1) := by decide +kernel
theorem d4_88 : decode prog_43_method_4_code 88 = .ok (.iconst 1, 1) := by decide +kernel
theorem d4_89 : decode prog_43_method_4_code 89 = .ok (.iadd, 1) := by decide +kernel
theorem d4_90 : decode prog_43_method_4_code 90 = .ok (.baload, 1) := by decide +kernel
theorem d4_91 : decode prog_43_method_4_code 91 = .ok (.bipush (-128), 2) := by decide +kernel
theorem d4_93 : decode prog_43_method_4_code 93 = .ok (.if_icmp .ne 16, 3) := by decide +kernel
theorem d4_96 : decode prog_43_method_4_code 96 = .ok (.aload_n 1, 1) := by decide +kernel
theorem d4_97 : decode prog_43_method_4_code 97 = .ok (.iload_n 2, 1) := by decide +kernel
theorem d4_98 : decode prog_43_method_4_code 98 = .ok (.iconst 2, 1) := by decide +kernel
theorem d4_99 : decode prog_43_method_4_code 99 = .ok (.iadd, 1) := by decide +kernel
theorem d4_100 : decode prog_43_method_4_code 100 = .ok (.baload, 1) := by decide +kernel
theorem d4_101 : decode prog_43_method_4_code 101 = .ok (.bipush (-88), 2) := by decide +kernel
theorem d4_103 : decode prog_43_method_4_code 103 = .ok (.if_icmp .ne 6, 3) := by decide +kernel
theorem d4_106 : decode prog_43_method_4_code 106 = .ok (.iconst 3, 1) := by decide +kernel
theorem d4_107 : decode prog_43_method_4_code 107 = .ok (.istore 5, 2) := by decide +kernel
theorem d4_109 : decode prog_43_method_4_code 109 = .ok (.iload 5, 2) := by decide +kernel
theorem d4_111 : decode prog_43_method_4_code 111 = .ok (.ireturn, 1) := by decide +kernel
theorem pn_4 : plainName "com/example/strict_distinct/strictdistinct/XmlPosition" = true := by first | (simp [plainName, overriddenIn]; done) | decide +kernel
theorem ef_4 (m : MethodId) (r0 : Addr) (r1 : Addr) (p2 : Int32) (p3 : Int32) : entryFrame m #[(.ref r0), (.ref r1), (.int p2), (.int p3)] 6 = mkF m 0 #[.val (.ref r0), .val (.ref r1), .val (.int p2), .val (.int p3), .unset, .unset] [] := by first | (simp [entryFrame, mkF, argsToLocals, Value.category]; done) | rfl
def Q4 (Z : State) (r0 : Addr) (r1 : Addr) (p2 : Int32) (p3 : Int32) (fl : Int32) (u : Nat → Int32) (k : Nat) (h0 : Heap) (n0 : Nat) (v : Option Value) (h : Heap) (L : List Loc) : Prop := v = some (.int (leF fl (u k) (u (k + 1)) (u (k + 2)) ((p2 + (1 : Int32)) < p3) ((p2 + (2 : Int32)) < p3))) ∧ Fr n0 L ∧ h = h0
set_option maxRecDepth 65536 in
set_option maxHeartbeats 40000000 in
theorem rm4 (l : Launch) (Z : State) (a0 : Array Value) (hw : ∀ d ∈ tables_1, d.before a0 Z = true) (ws : List Jvm.Cond) (r0 : Addr) (r1 : Addr) (p2 : Int32) (p3 : Int32) (fl : Int32) (u : Nat → Int32) (k : Nat) (h0 : Heap) (n0 : Nat) (Z0 : n0 ≤ h0.size) (F1 : Fld Z h0 r0 "com/example/strict_distinct/strictdistinct/XmlPosition" "xml11" "Z" (.int fl)) (A1 : OArr Z h0 r1 .byte 4 (fun i => (Value.int (u i)))) (hk : p2.toNatClampNeg = k) (hn : ¬ p2 < 0) (hk4 : k < 4) (hA : (p2 + (1 : Int32)) < p3 → k + 1 < 4) (hB : (p2 + (2 : Int32)) < p3 → k + 2 < 4) :
    MetFree l (⟨"com/example/strict_distinct/strictdistinct/XmlPosition", "lineEndAt", "([BII)I"⟩ : MethodName) (head1 (Jvm.Cond.code (⟨"com/example/strict_distinct/strictdistinct/XmlPosition", "lineEndAt", "([BII)I"⟩ : MethodName) prog_43_method_4_code 6 (some .int) :: ws) ({ frames := 0, cells := 0, slots := 0, locals := 0 } : Room)) (fun a U => a = #[(.ref r0), (.ref r1), (.int p2), (.int p3)] ∧ Z.Warmed39 U.vm ∧ U.heap = h0) (fun _ _ _ _ _ => True) (fun _ U o U' => ∃ v L, o = .returned v ∧ Q4 Z r0 r1 p2 p3 fl u k h0 n0 v U'.heap L ∧ FrameEnd U o U' L ({ frames := 0, cells := 0, slots := 0, locals := 0 } : Room).cells ({ frames := 0, cells := 0, slots := 0, locals := 0 } : Room).slots) := by
  refine MetFree.of_bodySF (plainFor_of_name pn_4) hisR ?_
  intro p e s m args below meth c s₁ Bd hml0 hP hK
  obtain ⟨rfl, hZ, hh⟩ := hP
  have hx := Bd.exec
  have hby := Bd.bytes
  have hml : c.maxLocals = 6 := hml0
  have hown : s.vm.findClass "com/example/strict_distinct/strictdistinct/XmlPosition" = some m.cls := findClass_of_methodNamed Bd.named
  have hnm := (name_of_methodNamed Bd.named Bd.method).1
  have X0 : Stand p l e ({ frames := 0, cells := 0, slots := 0, locals := 0 } : Room) s m #[(.ref r0), (.ref r1), (.int p2), (.int p3)] below meth c s₁ [] 0 0 := Stand.of_body Bd
  have e0 : s₁.heap = h0 := by rw [← hh, Bd.state]; rfl
  have N0 := Fr.nil n0
  refine Runs.enter (ef_4 m r0 r1 p2 p3) ?_
  show Runs _ _ _ _ s₁ (mkF m 0 #[.val (.ref r0), .val (.ref r1), .val (.int p2), .val (.int p3), .unset, .unset] [])
  have i1 := idxS hk hn (show (1 : Int32).toInt = ((1 : Nat) : Int) from by decide) (by omega)
  have i2 := idxS hk hn (show (2 : Int32).toInt = ((2 : Nat) : Int) from by decide) (by omega)
  refine Runs.back (fun t_ k_ => XS.aloadN X0.here hx rfl (hb hby d4_0) rfl rfl k_) ?_
  show Runs _ _ _ _ s₁ (mkF m 1 #[.val (.ref r0), .val (.ref r1), .val (.int p2), .val (.int p3), .unset, .unset] [(.ref r1)])
  refine Runs.back (fun t_ k_ => XS.iloadN X0.here hx rfl (hb hby d4_1) rfl k_) ?_
  show Runs _ _ _ _ s₁ (mkF m 2 #[.val (.ref r0), .val (.ref r1), .val (.int p2), .val (.int p3), .unset, .unset] [(.int p2), (.ref r1)])
  obtain ⟨cl1, Ar1, S1, Hs1⟩ := id A1
  have at1 : cl1.slots[(p2).toNatClampNeg]? = some (.int (u k)) := readO Hs1 hk (show k < 4 from hk4) (rfl)
  refine Runs.back (fun t_ k_ => X0.baloadBytes hx (j := p2) (v := (.int (u k))) (by rw [e0]; exact Ar1.1) (State.isArrayOf_alike hZ.alike Ar1.2.1) Ar1.2.2 (by rw [S1]; exact (inbO hn hk (show k < 4 from hk4))) at1 (g := (mkF m 2 #[.val (.ref r0), .val (.ref r1), .val (.int p2), .val (.int p3), .unset, .unset] [(.int p2), (.ref r1)])) rfl rfl (hb hby d4_2) _ k_) ?_
  show Runs _ _ _ _ s₁ (mkF m 3 #[.val (.ref r0), .val (.ref r1), .val (.int p2), .val (.int p3), .unset, .unset] [(.int (u k))])
  refine Runs.back (fun t_ k_ => XS.istore X0.here hx rfl (hb hby d4_3) rfl (l' := #[.val (.ref r0), .val (.ref r1), .val (.int p2), .val (.int p3), .val (.int (u k)), .unset]) rfl k_) ?_
  show Runs _ _ _ _ s₁ (mkF m 5 #[.val (.ref r0), .val (.ref r1), .val (.int p2), .val (.int p3), .val (.int (u k)), .unset] [])
  refine Runs.back (fun t_ k_ => XS.iconst X0.here hx rfl (hb hby d4_5) k_) ?_
  show Runs _ _ _ _ s₁ (mkF m 6 #[.val (.ref r0), .val (.ref r1), .val (.int p2), .val (.int p3), .val (.int (u k)), .unset] [(.int (0 : Int32))])
  refine Runs.back (fun t_ k_ => XS.istore X0.here hx rfl (hb hby d4_6) rfl (l' := #[.val (.ref r0), .val (.ref r1), .val (.int p2), .val (.int p3), .val (.int (u k)), .val (.int (0 : Int32))]) rfl k_) ?_
  show Runs _ _ _ _ s₁ (mkF m 8 #[.val (.ref r0), .val (.ref r1), .val (.int p2), .val (.int p3), .val (.int (u k)), .val (.int (0 : Int32))] [])
  refine Runs.back (fun t_ k_ => XS.iload X0.here hx rfl (hb hby d4_8) rfl k_) ?_
  show Runs _ _ _ _ s₁ (mkF m 10 #[.val (.ref r0), .val (.ref r1), .val (.int p2), .val (.int p3), .val (.int (u k)), .val (.int (0 : Int32))] [(.int (u k))])
  refine Runs.back (fun t_ k_ => XS.bipush X0.here hx rfl (hb hby d4_10) k_) ?_
  show Runs _ _ _ _ s₁ (mkF m 12 #[.val (.ref r0), .val (.ref r1), .val (.int p2), .val (.int p3), .val (.int (u k)), .val (.int (0 : Int32))] [(.int (10 : Int32)), (.int (u k))])
  by_cases c12_2 : (u k) = (10 : Int32)
  · refine Runs.back (fun t_ k_ => XS.icmpYes X0.here hx rfl (pc0 := 12) (pc' := 22) rfl (hb hby d4_12) rfl (teq c12_2).1 (by decide) (by decide) k_) ?_
    show Runs _ _ _ _ s₁ (mkF m 22 #[.val (.ref r0), .val (.ref r1), .val (.int p2), .val (.int p3), .val (.int (u k)), .val (.int (0 : Int32))] [])
    refine Runs.back (fun t_ k_ => XS.iconst X0.here hx rfl (hb hby d4_22) k_) ?_
    show Runs _ _ _ _ s₁ (mkF m 23 #[.val (.ref r0), .val (.ref r1), .val (.int p2), .val (.int p3), .val (.int (u k)), .val (.int (0 : Int32))] [(.int (1 : Int32))])
    refine Runs.back (fun t_ k_ => XS.istore X0.here hx rfl (hb hby d4_23) rfl (l' := #[.val (.ref r0), .val (.ref r1), .val (.int p2), .val (.int p3), .val (.int (u k)), .val (.int (1 : Int32))]) rfl k_) ?_
    show Runs _ _ _ _ s₁ (mkF m 25 #[.val (.ref r0), .val (.ref r1), .val (.int p2), .val (.int p3), .val (.int (u k)), .val (.int (1 : Int32))] [])
    refine Runs.back (fun t_ k_ => XS.goto X0.here hx rfl (pc0 := 25) (pc' := 109) rfl (hb hby d4_25) (by decide) (by decide) k_) ?_
    show Runs _ _ _ _ s₁ (mkF m 109 #[.val (.ref r0), .val (.ref r1), .val (.int p2), .val (.int p3), .val (.int (u k)), .val (.int (1 : Int32))] [])
    refine Runs.back (fun t_ k_ => XS.iload X0.here hx rfl (hb hby d4_109) rfl k_) ?_
    show Runs _ _ _ _ s₁ (mkF m 111 #[.val (.ref r0), .val (.ref r1), .val (.int p2), .val (.int p3), .val (.int (u k)), .val (.int (1 : Int32))] [(.int (1 : Int32))])
    obtain ⟨fs, hr, hrun, hended, hW, hsame⟩ := X0.leave (v := some (.int (1 : Int32))) (fun h => by rw [Bd.returns] at h; cases h)
    exact ⟨_, _, (retI X0 hx Bd.returns (hb hby d4_111) hr), hrun, hended, _, _, rfl, ⟨(by first | rfl | (simp only [leF, leR, if_pos c12_2]; done) | (simp +decide only [leF, leR, if_pos c12_2, if_true, if_false, ↓reduceIte]; done) | (simp [leF, leR, c12_2]; done)), N0, e0⟩, ⟨_, rfl⟩, hW, hsame.mono (by decide) (by decide)⟩
  · refine Runs.back (fun t_ k_ => XS.icmpNo X0.here hx rfl (hb hby d4_12) rfl (feq c12_2).1 k_) ?_
    show Runs _ _ _ _ s₁ (mkF m 15 #[.val (.ref r0), .val (.ref r1), .val (.int p2), .val (.int p3), .val (.int (u k)), .val (.int (0 : Int32))] [])
    refine Runs.back (fun t_ k_ => XS.iload X0.here hx rfl (hb hby d4_15) rfl k_) ?_
    show Runs _ _ _ _ s₁ (mkF m 17 #[.val (.ref r0), .val (.ref r1), .val (.int p2), .val (.int p3), .val (.int (u k)), .val (.int (0 : Int32))] [(.int (u k))])
    refine Runs.back (fun t_ k_ => XS.bipush X0.here hx rfl (hb hby d4_17) k_) ?_
    show Runs _ _ _ _ s₁ (mkF m 19 #[.val (.ref r0), .val (.ref r1), .val (.int p2), .val (.int p3), .val (.int (u k)), .val (.int (0 : Int32))] [(.int (13 : Int32)), (.int (u k))])
    by_cases c19_3 : (u k) = (13 : Int32)
    · refine Runs.back (fun t_ k_ => XS.icmpNo X0.here hx rfl (hb hby d4_19) rfl (teq c19_3).2 k_) ?_
      show Runs _ _ _ _ s₁ (mkF m 22 #[.val (.ref r0), .val (.ref r1), .val (.int p2), .val (.int p3), .val (.int (u k)), .val (.int (0 : Int32))] [])
      refine Runs.back (fun t_ k_ => XS.iconst X0.here hx rfl (hb hby d4_22) k_) ?_
      show Runs _ _ _ _ s₁ (mkF m 23 #[.val (.ref r0), .val (.ref r1), .val (.int p2), .val (.int p3), .val (.int (u k)), .val (.int (0 : Int32))] [(.int (1 : Int32))])
      refine Runs.back (fun t_ k_ => XS.istore X0.here hx rfl (hb hby d4_23) rfl (l' := #[.val (.ref r0), .val (.ref r1), .val (.int p2), .val (.int p3), .val (.int (u k)), .val (.int (1 : Int32))]) rfl k_) ?_
      show Runs _ _ _ _ s₁ (mkF m 25 #[.val (.ref r0), .val (.ref r1), .val (.int p2), .val (.int p3), .val (.int (u k)), .val (.int (1 : Int32))] [])
      refine Runs.back (fun t_ k_ => XS.goto X0.here hx rfl (pc0 := 25) (pc' := 109) rfl (hb hby d4_25) (by decide) (by decide) k_) ?_
      show Runs _ _ _ _ s₁ (mkF m 109 #[.val (.ref r0), .val (.ref r1), .val (.int p2), .val (.int p3), .val (.int (u k)), .val (.int (1 : Int32))] [])
      refine Runs.back (fun t_ k_ => XS.iload X0.here hx rfl (hb hby d4_109) rfl k_) ?_
      show Runs _ _ _ _ s₁ (mkF m 111 #[.val (.ref r0), .val (.ref r1), .val (.int p2), .val (.int p3), .val (.int (u k)), .val (.int (1 : Int32))] [(.int (1 : Int32))])
      obtain ⟨fs, hr, hrun, hended, hW, hsame⟩ := X0.leave (v := some (.int (1 : Int32))) (fun h => by rw [Bd.returns] at h; cases h)
      exact ⟨_, _, (retI X0 hx Bd.returns (hb hby d4_111) hr), hrun, hended, _, _, rfl, ⟨(by first | rfl | (simp only [leF, leR, if_neg c12_2, if_pos c19_3]; done) | (simp +decide only [leF, leR, if_neg c12_2, if_pos c19_3, if_true, if_false, ↓reduceIte]; done) | (simp [leF, leR, c12_2, c19_3]; done)), N0, e0⟩, ⟨_, rfl⟩, hW, hsame.mono (by decide) (by decide)⟩
    · refine Runs.back (fun t_ k_ => XS.icmpYes X0.here hx rfl (pc0 := 19) (pc' := 28) rfl (hb hby d4_19) rfl (feq c19_3).2 (by decide) (by decide) k_) ?_
      show Runs _ _ _ _ s₁ (mkF m 28 #[.val (.ref r0), .val (.ref r1), .val (.int p2), .val (.int p3), .val (.int (u k)), .val (.int (0 : Int32))] [])
      refine Runs.back (fun t_ k_ => XS.aloadN X0.here hx rfl (hb hby d4_28) rfl rfl k_) ?_
      show Runs _ _ _ _ s₁ (mkF m 29 #[.val (.ref r0), .val (.ref r1), .val (.int p2), .val (.int p3), .val (.int (u k)), .val (.int (0 : Int32))] [(.ref r0)])
      obtain ⟨T4, X4, e4, st4⟩ := getF X0 hx hZ hown (host := "") (Or.inl (hw _ (List.mem_of_getElem? (i := 17) rfl))) Via.refl e0 F1 (g := (mkF m 29 #[.val (.ref r0), .val (.ref r1), .val (.int p2), .val (.int p3), .val (.int (u k)), .val (.int (0 : Int32))] [(.ref r0)])) rfl rfl (hb hby d4_29)
      refine Runs.back st4 ?_
      show Runs _ _ _ _ T4 (mkF m 32 #[.val (.ref r0), .val (.ref r1), .val (.int p2), .val (.int p3), .val (.int (u k)), .val (.int (0 : Int32))] [(.int fl)])
      by_cases c32_5 : fl = (0 : Int32)
      · refine Runs.back (fun t_ k_ => XS.ifYes X4.here hx rfl (pc0 := 32) (pc' := 65) rfl (hb hby d4_32) rfl ((if0 _ _).trans (teq c32_5).1) (by decide) (by decide) k_) ?_
        show Runs _ _ _ _ T4 (mkF m 65 #[.val (.ref r0), .val (.ref r1), .val (.int p2), .val (.int p3), .val (.int (u k)), .val (.int (0 : Int32))] [])
        refine Runs.back (fun t_ k_ => XS.aloadN X4.here hx rfl (hb hby d4_65) rfl rfl k_) ?_
        show Runs _ _ _ _ T4 (mkF m 66 #[.val (.ref r0), .val (.ref r1), .val (.int p2), .val (.int p3), .val (.int (u k)), .val (.int (0 : Int32))] [(.ref r0)])
        obtain ⟨T6, X6, e6, st6⟩ := getF X4 hx hZ hown (host := "") (Or.inl (hw _ (List.mem_of_getElem? (i := 17) rfl))) Via.refl e4 F1 (g := (mkF m 66 #[.val (.ref r0), .val (.ref r1), .val (.int p2), .val (.int p3), .val (.int (u k)), .val (.int (0 : Int32))] [(.ref r0)])) rfl rfl (hb hby d4_66)
        refine Runs.back st6 ?_
        show Runs _ _ _ _ T6 (mkF m 69 #[.val (.ref r0), .val (.ref r1), .val (.int p2), .val (.int p3), .val (.int (u k)), .val (.int (0 : Int32))] [(.int fl)])
        refine Runs.back (fun t_ k_ => XS.ifYes X6.here hx rfl (pc0 := 69) (pc' := 109) rfl (hb hby d4_69) rfl ((if0 _ _).trans (teq (show fl = (0 : Int32) from c32_5)).1) (by decide) (by decide) k_) ?_
        show Runs _ _ _ _ T6 (mkF m 109 #[.val (.ref r0), .val (.ref r1), .val (.int p2), .val (.int p3), .val (.int (u k)), .val (.int (0 : Int32))] [])
        refine Runs.back (fun t_ k_ => XS.iload X6.here hx rfl (hb hby d4_109) rfl k_) ?_
        show Runs _ _ _ _ T6 (mkF m 111 #[.val (.ref r0), .val (.ref r1), .val (.int p2), .val (.int p3), .val (.int (u k)), .val (.int (0 : Int32))] [(.int (0 : Int32))])
        obtain ⟨fs, hr, hrun, hended, hW, hsame⟩ := X6.leave (v := some (.int (0 : Int32))) (fun h => by rw [Bd.returns] at h; cases h)
        exact ⟨_, _, (retI X6 hx Bd.returns (hb hby d4_111) hr), hrun, hended, _, _, rfl, ⟨(by first | rfl | (simp only [leF, leR, if_neg c12_2, if_neg c19_3, if_pos c32_5]; done) | (simp +decide only [leF, leR, if_neg c12_2, if_neg c19_3, if_pos c32_5, if_true, if_false, ↓reduceIte]; done) | (simp [leF, leR, c12_2, c19_3, c32_5]; done)), N0, e6⟩, ⟨_, rfl⟩, hW, hsame.mono (by decide) (by decide)⟩
      · refine Runs.back (fun t_ k_ => XS.ifNo X4.here hx rfl (hb hby d4_32) rfl ((if0 _ _).trans (feq c32_5).1) k_) ?_
        show Runs _ _ _ _ T4 (mkF m 35 #[.val (.ref r0), .val (.ref r1), .val (.int p2), .val (.int p3), .val (.int (u k)), .val (.int (0 : Int32))] [])
        refine Runs.back (fun t_ k_ => XS.iload X4.here hx rfl (hb hby d4_35) rfl k_) ?_
        show Runs _ _ _ _ T4 (mkF m 37 #[.val (.ref r0), .val (.ref r1), .val (.int p2), .val (.int p3), .val (.int (u k)), .val (.int (0 : Int32))] [(.int (u k))])
        refine Runs.back (fun t_ k_ => XS.bipush X4.here hx rfl (hb hby d4_37) k_) ?_
        show Runs _ _ _ _ T4 (mkF m 39 #[.val (.ref r0), .val (.ref r1), .val (.int p2), .val (.int p3), .val (.int (u k)), .val (.int (0 : Int32))] [(.int (-62 : Int32)), (.int (u k))])
        by_cases c39_7 : (u k) = (-62 : Int32)
        · refine Runs.back (fun t_ k_ => XS.icmpNo X4.here hx rfl (hb hby d4_39) rfl (teq c39_7).2 k_) ?_
          show Runs _ _ _ _ T4 (mkF m 42 #[.val (.ref r0), .val (.ref r1), .val (.int p2), .val (.int p3), .val (.int (u k)), .val (.int (0 : Int32))] [])
          refine Runs.back (fun t_ k_ => XS.iloadN X4.here hx rfl (hb hby d4_42) rfl k_) ?_
          show Runs _ _ _ _ T4 (mkF m 43 #[.val (.ref r0), .val (.ref r1), .val (.int p2), .val (.int p3), .val (.int (u k)), .val (.int (0 : Int32))] [(.int p2)])
          refine Runs.back (fun t_ k_ => XS.iconst X4.here hx rfl (hb hby d4_43) k_) ?_
          show Runs _ _ _ _ T4 (mkF m 44 #[.val (.ref r0), .val (.ref r1), .val (.int p2), .val (.int p3), .val (.int (u k)), .val (.int (0 : Int32))] [(.int (1 : Int32)), (.int p2)])
          refine Runs.back (fun t_ k_ => XS.iadd X4.here hx rfl (hb hby d4_44) rfl k_) ?_
          show Runs _ _ _ _ T4 (mkF m 45 #[.val (.ref r0), .val (.ref r1), .val (.int p2), .val (.int p3), .val (.int (u k)), .val (.int (0 : Int32))] [(.int (p2 + (1 : Int32)))])
          refine Runs.back (fun t_ k_ => XS.iloadN X4.here hx rfl (hb hby d4_45) rfl k_) ?_
          show Runs _ _ _ _ T4 (mkF m 46 #[.val (.ref r0), .val (.ref r1), .val (.int p2), .val (.int p3), .val (.int (u k)), .val (.int (0 : Int32))] [(.int p3), (.int (p2 + (1 : Int32)))])
          by_cases c46_8 : (p2 + (1 : Int32)) < p3
          · refine Runs.back (fun t_ k_ => XS.icmpNo X4.here hx rfl (hb hby d4_46) rfl (tlt c46_8).2.1 k_) ?_
            show Runs _ _ _ _ T4 (mkF m 49 #[.val (.ref r0), .val (.ref r1), .val (.int p2), .val (.int p3), .val (.int (u k)), .val (.int (0 : Int32))] [])
            refine Runs.back (fun t_ k_ => XS.aloadN X4.here hx rfl (hb hby d4_49) rfl rfl k_) ?_
            show Runs _ _ _ _ T4 (mkF m 50 #[.val (.ref r0), .val (.ref r1), .val (.int p2), .val (.int p3), .val (.int (u k)), .val (.int (0 : Int32))] [(.ref r1)])
            refine Runs.back (fun t_ k_ => XS.iloadN X4.here hx rfl (hb hby d4_50) rfl k_) ?_
            show Runs _ _ _ _ T4 (mkF m 51 #[.val (.ref r0), .val (.ref r1), .val (.int p2), .val (.int p3), .val (.int (u k)), .val (.int (0 : Int32))] [(.int p2), (.ref r1)])
            refine Runs.back (fun t_ k_ => XS.iconst X4.here hx rfl (hb hby d4_51) k_) ?_
            show Runs _ _ _ _ T4 (mkF m 52 #[.val (.ref r0), .val (.ref r1), .val (.int p2), .val (.int p3), .val (.int (u k)), .val (.int (0 : Int32))] [(.int (1 : Int32)), (.int p2), (.ref r1)])
            refine Runs.back (fun t_ k_ => XS.iadd X4.here hx rfl (hb hby d4_52) rfl k_) ?_
            show Runs _ _ _ _ T4 (mkF m 53 #[.val (.ref r0), .val (.ref r1), .val (.int p2), .val (.int p3), .val (.int (u k)), .val (.int (0 : Int32))] [(.int (p2 + (1 : Int32))), (.ref r1)])
            obtain ⟨cl9, Ar9, S9, Hs9⟩ := id A1
            have at9 : cl9.slots[((p2 + (1 : Int32))).toNatClampNeg]? = some (.int (u (k + 1))) := readO Hs9 i1.1 (show (k + 1) < 4 from (hA c46_8)) (rfl)
            refine Runs.back (fun t_ k_ => X4.baloadBytes hx (j := (p2 + (1 : Int32))) (v := (.int (u (k + 1)))) (by rw [e4]; exact Ar9.1) (State.isArrayOf_alike hZ.alike Ar9.2.1) Ar9.2.2 (by rw [S9]; exact (inbO i1.2 i1.1 (show (k + 1) < 4 from (hA c46_8)))) at9 (g := (mkF m 53 #[.val (.ref r0), .val (.ref r1), .val (.int p2), .val (.int p3), .val (.int (u k)), .val (.int (0 : Int32))] [(.int (p2 + (1 : Int32))), (.ref r1)])) rfl rfl (hb hby d4_53) _ k_) ?_
            show Runs _ _ _ _ T4 (mkF m 54 #[.val (.ref r0), .val (.ref r1), .val (.int p2), .val (.int p3), .val (.int (u k)), .val (.int (0 : Int32))] [(.int (u (k + 1)))])
            refine Runs.back (fun t_ k_ => XS.bipush X4.here hx rfl (hb hby d4_54) k_) ?_
            show Runs _ _ _ _ T4 (mkF m 56 #[.val (.ref r0), .val (.ref r1), .val (.int p2), .val (.int p3), .val (.int (u k)), .val (.int (0 : Int32))] [(.int (-123 : Int32)), (.int (u (k + 1)))])
            by_cases c56_10 : (u (k + 1)) = (-123 : Int32)
            · refine Runs.back (fun t_ k_ => XS.icmpNo X4.here hx rfl (hb hby d4_56) rfl (teq c56_10).2 k_) ?_
              show Runs _ _ _ _ T4 (mkF m 59 #[.val (.ref r0), .val (.ref r1), .val (.int p2), .val (.int p3), .val (.int (u k)), .val (.int (0 : Int32))] [])
              refine Runs.back (fun t_ k_ => XS.iconst X4.here hx rfl (hb hby d4_59) k_) ?_
              show Runs _ _ _ _ T4 (mkF m 60 #[.val (.ref r0), .val (.ref r1), .val (.int p2), .val (.int p3), .val (.int (u k)), .val (.int (0 : Int32))] [(.int (2 : Int32))])
              refine Runs.back (fun t_ k_ => XS.istore X4.here hx rfl (hb hby d4_60) rfl (l' := #[.val (.ref r0), .val (.ref r1), .val (.int p2), .val (.int p3), .val (.int (u k)), .val (.int (2 : Int32))]) rfl k_) ?_
              show Runs _ _ _ _ T4 (mkF m 62 #[.val (.ref r0), .val (.ref r1), .val (.int p2), .val (.int p3), .val (.int (u k)), .val (.int (2 : Int32))] [])
              refine Runs.back (fun t_ k_ => XS.goto X4.here hx rfl (pc0 := 62) (pc' := 109) rfl (hb hby d4_62) (by decide) (by decide) k_) ?_
              show Runs _ _ _ _ T4 (mkF m 109 #[.val (.ref r0), .val (.ref r1), .val (.int p2), .val (.int p3), .val (.int (u k)), .val (.int (2 : Int32))] [])
              refine Runs.back (fun t_ k_ => XS.iload X4.here hx rfl (hb hby d4_109) rfl k_) ?_
              show Runs _ _ _ _ T4 (mkF m 111 #[.val (.ref r0), .val (.ref r1), .val (.int p2), .val (.int p3), .val (.int (u k)), .val (.int (2 : Int32))] [(.int (2 : Int32))])
              obtain ⟨fs, hr, hrun, hended, hW, hsame⟩ := X4.leave (v := some (.int (2 : Int32))) (fun h => by rw [Bd.returns] at h; cases h)
              exact ⟨_, _, (retI X4 hx Bd.returns (hb hby d4_111) hr), hrun, hended, _, _, rfl, ⟨(by first | rfl | (simp only [leF, leR, if_neg c12_2, if_neg c19_3, if_neg c32_5, if_pos c39_7, if_pos c46_8, if_pos c56_10]; done) | (simp +decide only [leF, leR, if_neg c12_2, if_neg c19_3, if_neg c32_5, if_pos c39_7, if_pos c46_8, if_pos c56_10, if_true, if_false, ↓reduceIte]; done) | (simp [leF, leR, c12_2, c19_3, c32_5, c39_7, c46_8, c56_10]; done)), N0, e4⟩, ⟨_, rfl⟩, hW, hsame.mono (by decide) (by decide)⟩
            · refine Runs.back (fun t_ k_ => XS.icmpYes X4.here hx rfl (pc0 := 56) (pc' := 65) rfl (hb hby d4_56) rfl (feq c56_10).2 (by decide) (by decide) k_) ?_
              show Runs _ _ _ _ T4 (mkF m 65 #[.val (.ref r0), .val (.ref r1), .val (.int p2), .val (.int p3), .val (.int (u k)), .val (.int (0 : Int32))] [])
              refine Runs.back (fun t_ k_ => XS.aloadN X4.here hx rfl (hb hby d4_65) rfl rfl k_) ?_
              show Runs _ _ _ _ T4 (mkF m 66 #[.val (.ref r0), .val (.ref r1), .val (.int p2), .val (.int p3), .val (.int (u k)), .val (.int (0 : Int32))] [(.ref r0)])
              obtain ⟨T11, X11, e11, st11⟩ := getF X4 hx hZ hown (host := "") (Or.inl (hw _ (List.mem_of_getElem? (i := 17) rfl))) Via.refl e4 F1 (g := (mkF m 66 #[.val (.ref r0), .val (.ref r1), .val (.int p2), .val (.int p3), .val (.int (u k)), .val (.int (0 : Int32))] [(.ref r0)])) rfl rfl (hb hby d4_66)
              refine Runs.back st11 ?_
              show Runs _ _ _ _ T11 (mkF m 69 #[.val (.ref r0), .val (.ref r1), .val (.int p2), .val (.int p3), .val (.int (u k)), .val (.int (0 : Int32))] [(.int fl)])
              refine Runs.back (fun t_ k_ => XS.ifNo X11.here hx rfl (hb hby d4_69) rfl ((if0 _ _).trans (feq (show ¬ (fl = (0 : Int32)) from c32_5)).1) k_) ?_
              show Runs _ _ _ _ T11 (mkF m 72 #[.val (.ref r0), .val (.ref r1), .val (.int p2), .val (.int p3), .val (.int (u k)), .val (.int (0 : Int32))] [])
              refine Runs.back (fun t_ k_ => XS.iload X11.here hx rfl (hb hby d4_72) rfl k_) ?_
              show Runs _ _ _ _ T11 (mkF m 74 #[.val (.ref r0), .val (.ref r1), .val (.int p2), .val (.int p3), .val (.int (u k)), .val (.int (0 : Int32))] [(.int (u k))])
              refine Runs.back (fun t_ k_ => XS.bipush X11.here hx rfl (hb hby d4_74) k_) ?_
              show Runs _ _ _ _ T11 (mkF m 76 #[.val (.ref r0), .val (.ref r1), .val (.int p2), .val (.int p3), .val (.int (u k)), .val (.int (0 : Int32))] [(.int (-30 : Int32)), (.int (u k))])
              have x76_12 : ¬ (u k) = (-30 : Int32) := by rw [c39_7]; decide
              refine Runs.back (fun t_ k_ => XS.icmpYes X11.here hx rfl (pc0 := 76) (pc' := 109) rfl (hb hby d4_76) rfl (feq (show ¬ ((u k) = (-30 : Int32)) from x76_12)).2 (by decide) (by decide) k_) ?_
              show Runs _ _ _ _ T11 (mkF m 109 #[.val (.ref r0), .val (.ref r1), .val (.int p2), .val (.int p3), .val (.int (u k)), .val (.int (0 : Int32))] [])
              refine Runs.back (fun t_ k_ => XS.iload X11.here hx rfl (hb hby d4_109) rfl k_) ?_
              show Runs _ _ _ _ T11 (mkF m 111 #[.val (.ref r0), .val (.ref r1), .val (.int p2), .val (.int p3), .val (.int (u k)), .val (.int (0 : Int32))] [(.int (0 : Int32))])
              obtain ⟨fs, hr, hrun, hended, hW, hsame⟩ := X11.leave (v := some (.int (0 : Int32))) (fun h => by rw [Bd.returns] at h; cases h)
              exact ⟨_, _, (retI X11 hx Bd.returns (hb hby d4_111) hr), hrun, hended, _, _, rfl, ⟨(by first | rfl | (simp only [leF, leR, if_neg c12_2, if_neg c19_3, if_neg c32_5, if_pos c39_7, if_pos c46_8, if_neg c56_10, if_neg x76_12]; done) | (simp +decide only [leF, leR, if_neg c12_2, if_neg c19_3, if_neg c32_5, if_pos c39_7, if_pos c46_8, if_neg c56_10, if_neg x76_12, if_true, if_false, ↓reduceIte]; done) | (simp [leF, leR, c12_2, c19_3, c32_5, c39_7, c46_8, c56_10, x76_12]; done)), N0, e11⟩, ⟨_, rfl⟩, hW, hsame.mono (by decide) (by decide)⟩
          · refine Runs.back (fun t_ k_ => XS.icmpYes X4.here hx rfl (pc0 := 46) (pc' := 65) rfl (hb hby d4_46) rfl (flt c46_8).2.1 (by decide) (by decide) k_) ?_
            show Runs _ _ _ _ T4 (mkF m 65 #[.val (.ref r0), .val (.ref r1), .val (.int p2), .val (.int p3), .val (.int (u k)), .val (.int (0 : Int32))] [])
            refine Runs.back (fun t_ k_ => XS.aloadN X4.here hx rfl (hb hby d4_65) rfl rfl k_) ?_
            show Runs _ _ _ _ T4 (mkF m 66 #[.val (.ref r0), .val (.ref r1), .val (.int p2), .val (.int p3), .val (.int (u k)), .val (.int (0 : Int32))] [(.ref r0)])
            obtain ⟨T13, X13, e13, st13⟩ := getF X4 hx hZ hown (host := "") (Or.inl (hw _ (List.mem_of_getElem? (i := 17) rfl))) Via.refl e4 F1 (g := (mkF m 66 #[.val (.ref r0), .val (.ref r1), .val (.int p2), .val (.int p3), .val (.int (u k)), .val (.int (0 : Int32))] [(.ref r0)])) rfl rfl (hb hby d4_66)
            refine Runs.back st13 ?_
            show Runs _ _ _ _ T13 (mkF m 69 #[.val (.ref r0), .val (.ref r1), .val (.int p2), .val (.int p3), .val (.int (u k)), .val (.int (0 : Int32))] [(.int fl)])
            refine Runs.back (fun t_ k_ => XS.ifNo X13.here hx rfl (hb hby d4_69) rfl ((if0 _ _).trans (feq (show ¬ (fl = (0 : Int32)) from c32_5)).1) k_) ?_
            show Runs _ _ _ _ T13 (mkF m 72 #[.val (.ref r0), .val (.ref r1), .val (.int p2), .val (.int p3), .val (.int (u k)), .val (.int (0 : Int32))] [])
            refine Runs.back (fun t_ k_ => XS.iload X13.here hx rfl (hb hby d4_72) rfl k_) ?_
            show Runs _ _ _ _ T13 (mkF m 74 #[.val (.ref r0), .val (.ref r1), .val (.int p2), .val (.int p3), .val (.int (u k)), .val (.int (0 : Int32))] [(.int (u k))])
            refine Runs.back (fun t_ k_ => XS.bipush X13.here hx rfl (hb hby d4_74) k_) ?_
            show Runs _ _ _ _ T13 (mkF m 76 #[.val (.ref r0), .val (.ref r1), .val (.int p2), .val (.int p3), .val (.int (u k)), .val (.int (0 : Int32))] [(.int (-30 : Int32)), (.int (u k))])
            have x76_14 : ¬ (u k) = (-30 : Int32) := by rw [c39_7]; decide
            refine Runs.back (fun t_ k_ => XS.icmpYes X13.here hx rfl (pc0 := 76) (pc' := 109) rfl (hb hby d4_76) rfl (feq (show ¬ ((u k) = (-30 : Int32)) from x76_14)).2 (by decide) (by decide) k_) ?_
            show Runs _ _ _ _ T13 (mkF m 109 #[.val (.ref r0), .val (.ref r1), .val (.int p2), .val (.int p3), .val (.int (u k)), .val (.int (0 : Int32))] [])
            refine Runs.back (fun t_ k_ => XS.iload X13.here hx rfl (hb hby d4_109) rfl k_) ?_
            show Runs _ _ _ _ T13 (mkF m 111 #[.val (.ref r0), .val (.ref r1), .val (.int p2), .val (.int p3), .val (.int (u k)), .val (.int (0 : Int32))] [(.int (0 : Int32))])
            obtain ⟨fs, hr, hrun, hended, hW, hsame⟩ := X13.leave (v := some (.int (0 : Int32))) (fun h => by rw [Bd.returns] at h; cases h)
            exact ⟨_, _, (retI X13 hx Bd.returns (hb hby d4_111) hr), hrun, hended, _, _, rfl, ⟨(by first | rfl | (simp only [leF, leR, if_neg c12_2, if_neg c19_3, if_neg c32_5, if_pos c39_7, if_neg c46_8, if_neg x76_14]; done) | (simp +decide only [leF, leR, if_neg c12_2, if_neg c19_3, if_neg c32_5, if_pos c39_7, if_neg c46_8, if_neg x76_14, if_true, if_false, ↓reduceIte]; done) | (simp [leF, leR, c12_2, c19_3, c32_5, c39_7, c46_8, x76_14]; done)), N0, e13⟩, ⟨_, rfl⟩, hW, hsame.mono (by decide) (by decide)⟩
        · refine Runs.back (fun t_ k_ => XS.icmpYes X4.here hx rfl (pc0 := 39) (pc' := 65) rfl (hb hby d4_39) rfl (feq c39_7).2 (by decide) (by decide) k_) ?_
          show Runs _ _ _ _ T4 (mkF m 65 #[.val (.ref r0), .val (.ref r1), .val (.int p2), .val (.int p3), .val (.int (u k)), .val (.int (0 : Int32))] [])
          refine Runs.back (fun t_ k_ => XS.aloadN X4.here hx rfl (hb hby d4_65) rfl rfl k_) ?_
          show Runs _ _ _ _ T4 (mkF m 66 #[.val (.ref r0), .val (.ref r1), .val (.int p2), .val (.int p3), .val (.int (u k)), .val (.int (0 : Int32))] [(.ref r0)])
          obtain ⟨T15, X15, e15, st15⟩ := getF X4 hx hZ hown (host := "") (Or.inl (hw _ (List.mem_of_getElem? (i := 17) rfl))) Via.refl e4 F1 (g := (mkF m 66 #[.val (.ref r0), .val (.ref r1), .val (.int p2), .val (.int p3), .val (.int (u k)), .val (.int (0 : Int32))] [(.ref r0)])) rfl rfl (hb hby d4_66)
          refine Runs.back st15 ?_
          show Runs _ _ _ _ T15 (mkF m 69 #[.val (.ref r0), .val (.ref r1), .val (.int p2), .val (.int p3), .val (.int (u k)), .val (.int (0 : Int32))] [(.int fl)])
          refine Runs.back (fun t_ k_ => XS.ifNo X15.here hx rfl (hb hby d4_69) rfl ((if0 _ _).trans (feq (show ¬ (fl = (0 : Int32)) from c32_5)).1) k_) ?_
          show Runs _ _ _ _ T15 (mkF m 72 #[.val (.ref r0), .val (.ref r1), .val (.int p2), .val (.int p3), .val (.int (u k)), .val (.int (0 : Int32))] [])
          refine Runs.back (fun t_ k_ => XS.iload X15.here hx rfl (hb hby d4_72) rfl k_) ?_
          show Runs _ _ _ _ T15 (mkF m 74 #[.val (.ref r0), .val (.ref r1), .val (.int p2), .val (.int p3), .val (.int (u k)), .val (.int (0 : Int32))] [(.int (u k))])
          refine Runs.back (fun t_ k_ => XS.bipush X15.here hx rfl (hb hby d4_74) k_) ?_
          show Runs _ _ _ _ T15 (mkF m 76 #[.val (.ref r0), .val (.ref r1), .val (.int p2), .val (.int p3), .val (.int (u k)), .val (.int (0 : Int32))] [(.int (-30 : Int32)), (.int (u k))])
          by_cases c76_16 : (u k) = (-30 : Int32)
          · refine Runs.back (fun t_ k_ => XS.icmpNo X15.here hx rfl (hb hby d4_76) rfl (teq c76_16).2 k_) ?_
            show Runs _ _ _ _ T15 (mkF m 79 #[.val (.ref r0), .val (.ref r1), .val (.int p2), .val (.int p3), .val (.int (u k)), .val (.int (0 : Int32))] [])
            refine Runs.back (fun t_ k_ => XS.iloadN X15.here hx rfl (hb hby d4_79) rfl k_) ?_
            show Runs _ _ _ _ T15 (mkF m 80 #[.val (.ref r0), .val (.ref r1), .val (.int p2), .val (.int p3), .val (.int (u k)), .val (.int (0 : Int32))] [(.int p2)])
            refine Runs.back (fun t_ k_ => XS.iconst X15.here hx rfl (hb hby d4_80) k_) ?_
            show Runs _ _ _ _ T15 (mkF m 81 #[.val (.ref r0), .val (.ref r1), .val (.int p2), .val (.int p3), .val (.int (u k)), .val (.int (0 : Int32))] [(.int (2 : Int32)), (.int p2)])
            refine Runs.back (fun t_ k_ => XS.iadd X15.here hx rfl (hb hby d4_81) rfl k_) ?_
            show Runs _ _ _ _ T15 (mkF m 82 #[.val (.ref r0), .val (.ref r1), .val (.int p2), .val (.int p3), .val (.int (u k)), .val (.int (0 : Int32))] [(.int (p2 + (2 : Int32)))])
            refine Runs.back (fun t_ k_ => XS.iloadN X15.here hx rfl (hb hby d4_82) rfl k_) ?_
            show Runs _ _ _ _ T15 (mkF m 83 #[.val (.ref r0), .val (.ref r1), .val (.int p2), .val (.int p3), .val (.int (u k)), .val (.int (0 : Int32))] [(.int p3), (.int (p2 + (2 : Int32)))])
            by_cases c83_17 : (p2 + (2 : Int32)) < p3
            · refine Runs.back (fun t_ k_ => XS.icmpNo X15.here hx rfl (hb hby d4_83) rfl (tlt c83_17).2.1 k_) ?_
              show Runs _ _ _ _ T15 (mkF m 86 #[.val (.ref r0), .val (.ref r1), .val (.int p2), .val (.int p3), .val (.int (u k)), .val (.int (0 : Int32))] [])
              refine Runs.back (fun t_ k_ => XS.aloadN X15.here hx rfl (hb hby d4_86) rfl rfl k_) ?_
              show Runs _ _ _ _ T15 (mkF m 87 #[.val (.ref r0), .val (.ref r1), .val (.int p2), .val (.int p3), .val (.int (u k)), .val (.int (0 : Int32))] [(.ref r1)])
              refine Runs.back (fun t_ k_ => XS.iloadN X15.here hx rfl (hb hby d4_87) rfl k_) ?_
              show Runs _ _ _ _ T15 (mkF m 88 #[.val (.ref r0), .val (.ref r1), .val (.int p2), .val (.int p3), .val (.int (u k)), .val (.int (0 : Int32))] [(.int p2), (.ref r1)])
              refine Runs.back (fun t_ k_ => XS.iconst X15.here hx rfl (hb hby d4_88) k_) ?_
              show Runs _ _ _ _ T15 (mkF m 89 #[.val (.ref r0), .val (.ref r1), .val (.int p2), .val (.int p3), .val (.int (u k)), .val (.int (0 : Int32))] [(.int (1 : Int32)), (.int p2), (.ref r1)])
              refine Runs.back (fun t_ k_ => XS.iadd X15.here hx rfl (hb hby d4_89) rfl k_) ?_
              show Runs _ _ _ _ T15 (mkF m 90 #[.val (.ref r0), .val (.ref r1), .val (.int p2), .val (.int p3), .val (.int (u k)), .val (.int (0 : Int32))] [(.int (p2 + (1 : Int32))), (.ref r1)])
              obtain ⟨cl18, Ar18, S18, Hs18⟩ := id A1
              have at18 : cl18.slots[((p2 + (1 : Int32))).toNatClampNeg]? = some (.int (u (k + 1))) := readO Hs18 i1.1 (show (k + 1) < 4 from (Nat.lt_of_succ_lt (hB c83_17))) (rfl)
              refine Runs.back (fun t_ k_ => X15.baloadBytes hx (j := (p2 + (1 : Int32))) (v := (.int (u (k + 1)))) (by rw [e15]; exact Ar18.1) (State.isArrayOf_alike hZ.alike Ar18.2.1) Ar18.2.2 (by rw [S18]; exact (inbO i1.2 i1.1 (show (k + 1) < 4 from (Nat.lt_of_succ_lt (hB c83_17))))) at18 (g := (mkF m 90 #[.val (.ref r0), .val (.ref r1), .val (.int p2), .val (.int p3), .val (.int (u k)), .val (.int (0 : Int32))] [(.int (p2 + (1 : Int32))), (.ref r1)])) rfl rfl (hb hby d4_90) _ k_) ?_
              show Runs _ _ _ _ T15 (mkF m 91 #[.val (.ref r0), .val (.ref r1), .val (.int p2), .val (.int p3), .val (.int (u k)), .val (.int (0 : Int32))] [(.int (u (k + 1)))])
              refine Runs.back (fun t_ k_ => XS.bipush X15.here hx rfl (hb hby d4_91) k_) ?_
              show Runs _ _ _ _ T15 (mkF m 93 #[.val (.ref r0), .val (.ref r1), .val (.int p2), .val (.int p3), .val (.int (u k)), .val (.int (0 : Int32))] [(.int (-128 : Int32)), (.int (u (k + 1)))])
              by_cases c93_19 : (u (k + 1)) = (-128 : Int32)
              · refine Runs.back (fun t_ k_ => XS.icmpNo X15.here hx rfl (hb hby d4_93) rfl (teq c93_19).2 k_) ?_
                show Runs _ _ _ _ T15 (mkF m 96 #[.val (.ref r0), .val (.ref r1), .val (.int p2), .val (.int p3), .val (.int (u k)), .val (.int (0 : Int32))] [])
                refine Runs.back (fun t_ k_ => XS.aloadN X15.here hx rfl (hb hby d4_96) rfl rfl k_) ?_
                show Runs _ _ _ _ T15 (mkF m 97 #[.val (.ref r0), .val (.ref r1), .val (.int p2), .val (.int p3), .val (.int (u k)), .val (.int (0 : Int32))] [(.ref r1)])
                refine Runs.back (fun t_ k_ => XS.iloadN X15.here hx rfl (hb hby d4_97) rfl k_) ?_
                show Runs _ _ _ _ T15 (mkF m 98 #[.val (.ref r0), .val (.ref r1), .val (.int p2), .val (.int p3), .val (.int (u k)), .val (.int (0 : Int32))] [(.int p2), (.ref r1)])
                refine Runs.back (fun t_ k_ => XS.iconst X15.here hx rfl (hb hby d4_98) k_) ?_
                show Runs _ _ _ _ T15 (mkF m 99 #[.val (.ref r0), .val (.ref r1), .val (.int p2), .val (.int p3), .val (.int (u k)), .val (.int (0 : Int32))] [(.int (2 : Int32)), (.int p2), (.ref r1)])
                refine Runs.back (fun t_ k_ => XS.iadd X15.here hx rfl (hb hby d4_99) rfl k_) ?_
                show Runs _ _ _ _ T15 (mkF m 100 #[.val (.ref r0), .val (.ref r1), .val (.int p2), .val (.int p3), .val (.int (u k)), .val (.int (0 : Int32))] [(.int (p2 + (2 : Int32))), (.ref r1)])
                obtain ⟨cl20, Ar20, S20, Hs20⟩ := id A1
                have at20 : cl20.slots[((p2 + (2 : Int32))).toNatClampNeg]? = some (.int (u (k + 2))) := readO Hs20 i2.1 (show (k + 2) < 4 from (hB c83_17)) (rfl)
                refine Runs.back (fun t_ k_ => X15.baloadBytes hx (j := (p2 + (2 : Int32))) (v := (.int (u (k + 2)))) (by rw [e15]; exact Ar20.1) (State.isArrayOf_alike hZ.alike Ar20.2.1) Ar20.2.2 (by rw [S20]; exact (inbO i2.2 i2.1 (show (k + 2) < 4 from (hB c83_17)))) at20 (g := (mkF m 100 #[.val (.ref r0), .val (.ref r1), .val (.int p2), .val (.int p3), .val (.int (u k)), .val (.int (0 : Int32))] [(.int (p2 + (2 : Int32))), (.ref r1)])) rfl rfl (hb hby d4_100) _ k_) ?_
                show Runs _ _ _ _ T15 (mkF m 101 #[.val (.ref r0), .val (.ref r1), .val (.int p2), .val (.int p3), .val (.int (u k)), .val (.int (0 : Int32))] [(.int (u (k + 2)))])
                refine Runs.back (fun t_ k_ => XS.bipush X15.here hx rfl (hb hby d4_101) k_) ?_
                show Runs _ _ _ _ T15 (mkF m 103 #[.val (.ref r0), .val (.ref r1), .val (.int p2), .val (.int p3), .val (.int (u k)), .val (.int (0 : Int32))] [(.int (-88 : Int32)), (.int (u (k + 2)))])
                by_cases c103_21 : (u (k + 2)) = (-88 : Int32)
                · refine Runs.back (fun t_ k_ => XS.icmpNo X15.here hx rfl (hb hby d4_103) rfl (teq c103_21).2 k_) ?_
                  show Runs _ _ _ _ T15 (mkF m 106 #[.val (.ref r0), .val (.ref r1), .val (.int p2), .val (.int p3), .val (.int (u k)), .val (.int (0 : Int32))] [])
                  refine Runs.back (fun t_ k_ => XS.iconst X15.here hx rfl (hb hby d4_106) k_) ?_
                  show Runs _ _ _ _ T15 (mkF m 107 #[.val (.ref r0), .val (.ref r1), .val (.int p2), .val (.int p3), .val (.int (u k)), .val (.int (0 : Int32))] [(.int (3 : Int32))])
                  refine Runs.back (fun t_ k_ => XS.istore X15.here hx rfl (hb hby d4_107) rfl (l' := #[.val (.ref r0), .val (.ref r1), .val (.int p2), .val (.int p3), .val (.int (u k)), .val (.int (3 : Int32))]) rfl k_) ?_
                  show Runs _ _ _ _ T15 (mkF m 109 #[.val (.ref r0), .val (.ref r1), .val (.int p2), .val (.int p3), .val (.int (u k)), .val (.int (3 : Int32))] [])
                  refine Runs.back (fun t_ k_ => XS.iload X15.here hx rfl (hb hby d4_109) rfl k_) ?_
                  show Runs _ _ _ _ T15 (mkF m 111 #[.val (.ref r0), .val (.ref r1), .val (.int p2), .val (.int p3), .val (.int (u k)), .val (.int (3 : Int32))] [(.int (3 : Int32))])
                  obtain ⟨fs, hr, hrun, hended, hW, hsame⟩ := X15.leave (v := some (.int (3 : Int32))) (fun h => by rw [Bd.returns] at h; cases h)
                  exact ⟨_, _, (retI X15 hx Bd.returns (hb hby d4_111) hr), hrun, hended, _, _, rfl, ⟨(by first | rfl | (simp only [leF, leR, if_neg c12_2, if_neg c19_3, if_neg c32_5, if_neg c39_7, if_pos c76_16, if_pos c83_17, if_pos c93_19, if_pos c103_21]; done) | (simp +decide only [leF, leR, if_neg c12_2, if_neg c19_3, if_neg c32_5, if_neg c39_7, if_pos c76_16, if_pos c83_17, if_pos c93_19, if_pos c103_21, if_true, if_false, ↓reduceIte]; done) | (simp [leF, leR, c12_2, c19_3, c32_5, c39_7, c76_16, c83_17, c93_19, c103_21]; done)), N0, e15⟩, ⟨_, rfl⟩, hW, hsame.mono (by decide) (by decide)⟩
                · refine Runs.back (fun t_ k_ => XS.icmpYes X15.here hx rfl (pc0 := 103) (pc' := 109) rfl (hb hby d4_103) rfl (feq c103_21).2 (by decide) (by decide) k_) ?_
                  show Runs _ _ _ _ T15 (mkF m 109 #[.val (.ref r0), .val (.ref r1), .val (.int p2), .val (.int p3), .val (.int (u k)), .val (.int (0 : Int32))] [])
                  refine Runs.back (fun t_ k_ => XS.iload X15.here hx rfl (hb hby d4_109) rfl k_) ?_
                  show Runs _ _ _ _ T15 (mkF m 111 #[.val (.ref r0), .val (.ref r1), .val (.int p2), .val (.int p3), .val (.int (u k)), .val (.int (0 : Int32))] [(.int (0 : Int32))])
                  obtain ⟨fs, hr, hrun, hended, hW, hsame⟩ := X15.leave (v := some (.int (0 : Int32))) (fun h => by rw [Bd.returns] at h; cases h)
                  exact ⟨_, _, (retI X15 hx Bd.returns (hb hby d4_111) hr), hrun, hended, _, _, rfl, ⟨(by first | rfl | (simp only [leF, leR, if_neg c12_2, if_neg c19_3, if_neg c32_5, if_neg c39_7, if_pos c76_16, if_pos c83_17, if_pos c93_19, if_neg c103_21]; done) | (simp +decide only [leF, leR, if_neg c12_2, if_neg c19_3, if_neg c32_5, if_neg c39_7, if_pos c76_16, if_pos c83_17, if_pos c93_19, if_neg c103_21, if_true, if_false, ↓reduceIte]; done) | (simp [leF, leR, c12_2, c19_3, c32_5, c39_7, c76_16, c83_17, c93_19, c103_21]; done)), N0, e15⟩, ⟨_, rfl⟩, hW, hsame.mono (by decide) (by decide)⟩
              · refine Runs.back (fun t_ k_ => XS.icmpYes X15.here hx rfl (pc0 := 93) (pc' := 109) rfl (hb hby d4_93) rfl (feq c93_19).2 (by decide) (by decide) k_) ?_
                show Runs _ _ _ _ T15 (mkF m 109 #[.val (.ref r0), .val (.ref r1), .val (.int p2), .val (.int p3), .val (.int (u k)), .val (.int (0 : Int32))] [])
                refine Runs.back (fun t_ k_ => XS.iload X15.here hx rfl (hb hby d4_109) rfl k_) ?_
                show Runs _ _ _ _ T15 (mkF m 111 #[.val (.ref r0), .val (.ref r1), .val (.int p2), .val (.int p3), .val (.int (u k)), .val (.int (0 : Int32))] [(.int (0 : Int32))])
                obtain ⟨fs, hr, hrun, hended, hW, hsame⟩ := X15.leave (v := some (.int (0 : Int32))) (fun h => by rw [Bd.returns] at h; cases h)
                exact ⟨_, _, (retI X15 hx Bd.returns (hb hby d4_111) hr), hrun, hended, _, _, rfl, ⟨(by first | rfl | (simp only [leF, leR, if_neg c12_2, if_neg c19_3, if_neg c32_5, if_neg c39_7, if_pos c76_16, if_pos c83_17, if_neg c93_19]; done) | (simp +decide only [leF, leR, if_neg c12_2, if_neg c19_3, if_neg c32_5, if_neg c39_7, if_pos c76_16, if_pos c83_17, if_neg c93_19, if_true, if_false, ↓reduceIte]; done) | (simp [leF, leR, c12_2, c19_3, c32_5, c39_7, c76_16, c83_17, c93_19]; done)), N0, e15⟩, ⟨_, rfl⟩, hW, hsame.mono (by decide) (by decide)⟩
            · refine Runs.back (fun t_ k_ => XS.icmpYes X15.here hx rfl (pc0 := 83) (pc' := 109) rfl (hb hby d4_83) rfl (flt c83_17).2.1 (by decide) (by decide) k_) ?_
              show Runs _ _ _ _ T15 (mkF m 109 #[.val (.ref r0), .val (.ref r1), .val (.int p2), .val (.int p3), .val (.int (u k)), .val (.int (0 : Int32))] [])
              refine Runs.back (fun t_ k_ => XS.iload X15.here hx rfl (hb hby d4_109) rfl k_) ?_
              show Runs _ _ _ _ T15 (mkF m 111 #[.val (.ref r0), .val (.ref r1), .val (.int p2), .val (.int p3), .val (.int (u k)), .val (.int (0 : Int32))] [(.int (0 : Int32))])
              obtain ⟨fs, hr, hrun, hended, hW, hsame⟩ := X15.leave (v := some (.int (0 : Int32))) (fun h => by rw [Bd.returns] at h; cases h)
              exact ⟨_, _, (retI X15 hx Bd.returns (hb hby d4_111) hr), hrun, hended, _, _, rfl, ⟨(by first | rfl | (simp only [leF, leR, if_neg c12_2, if_neg c19_3, if_neg c32_5, if_neg c39_7, if_pos c76_16, if_neg c83_17]; done) | (simp +decide only [leF, leR, if_neg c12_2, if_neg c19_3, if_neg c32_5, if_neg c39_7, if_pos c76_16, if_neg c83_17, if_true, if_false, ↓reduceIte]; done) | (simp [leF, leR, c12_2, c19_3, c32_5, c39_7, c76_16, c83_17]; done)), N0, e15⟩, ⟨_, rfl⟩, hW, hsame.mono (by decide) (by decide)⟩
          · refine Runs.back (fun t_ k_ => XS.icmpYes X15.here hx rfl (pc0 := 76) (pc' := 109) rfl (hb hby d4_76) rfl (feq c76_16).2 (by decide) (by decide) k_) ?_
            show Runs _ _ _ _ T15 (mkF m 109 #[.val (.ref r0), .val (.ref r1), .val (.int p2), .val (.int p3), .val (.int (u k)), .val (.int (0 : Int32))] [])
            refine Runs.back (fun t_ k_ => XS.iload X15.here hx rfl (hb hby d4_109) rfl k_) ?_
            show Runs _ _ _ _ T15 (mkF m 111 #[.val (.ref r0), .val (.ref r1), .val (.int p2), .val (.int p3), .val (.int (u k)), .val (.int (0 : Int32))] [(.int (0 : Int32))])
            obtain ⟨fs, hr, hrun, hended, hW, hsame⟩ := X15.leave (v := some (.int (0 : Int32))) (fun h => by rw [Bd.returns] at h; cases h)
            exact ⟨_, _, (retI X15 hx Bd.returns (hb hby d4_111) hr), hrun, hended, _, _, rfl, ⟨(by first | rfl | (simp only [leF, leR, if_neg c12_2, if_neg c19_3, if_neg c32_5, if_neg c39_7, if_neg c76_16]; done) | (simp +decide only [leF, leR, if_neg c12_2, if_neg c19_3, if_neg c32_5, if_neg c39_7, if_neg c76_16, if_true, if_false, ↓reduceIte]; done) | (simp [leF, leR, c12_2, c19_3, c32_5, c39_7, c76_16]; done)), N0, e15⟩, ⟨_, rfl⟩, hW, hsame.mono (by decide) (by decide)⟩
theorem pn_0 : plainName "com/example/strict_distinct/strictdistinct/XmlPositionLineEndAtPinLaw" = true := by first | (simp [plainName, overriddenIn]; done) | decide +kernel
theorem pd0_0 : parseMethodDescriptor "(I)B" = some ⟨[.int], some .byte⟩ := by decide +kernel
theorem pd0_1 : parseMethodDescriptor "(Z)V" = some ⟨[.boolean], none⟩ := by decide +kernel
theorem pd0_2 : parseMethodDescriptor "([BII)I" = some ⟨[(.array .byte), .int, .int], some .int⟩ := by decide +kernel
theorem ef_0 (m : MethodId) (p0 : Int32) (p1 : Int32) (p2 : Int32) (p3 : Int32) (p4 : Int32) (p5 : Int32) : entryFrame m #[(.int p0), (.int p1), (.int p2), (.int p3), (.int p4), (.int p5)] maxLocals = mkF m 0 #[.val (.int p0), .val (.int p1), .val (.int p2), .val (.int p3), .val (.int p4), .val (.int p5), .unset, .unset, .unset, .unset, .unset, .unset, .unset, .unset, .unset, .unset, .unset] [] := by first | (simp [entryFrame, mkF, argsToLocals, Value.category, maxLocals]; done) | rfl
def Q0 (Z : State) (p0 : Int32) (p1 : Int32) (p2 : Int32) (p3 : Int32) (p4 : Int32) (p5 : Int32)  (h0 : Heap) (n0 : Nat) (v : Option Value) (h : Heap) (L : List Loc) : Prop := v = some (.int 1) ∧ Fr n0 L
set_option maxRecDepth 65536 in
set_option maxHeartbeats 40000000 in
theorem rm0 (l : Launch) (Z : State) (a0 : Array Value) (hw : ∀ d ∈ tables_1, d.before a0 Z = true) (ws : List Jvm.Cond) (p0 : Int32) (p1 : Int32) (p2 : Int32) (p3 : Int32) (p4 : Int32) (p5 : Int32)  (h0 : Heap) (n0 : Nat) (Z0 : n0 ≤ h0.size) :
    MetFree l x (head1 (Jvm.Cond.code x code maxLocals ret :: ws) room_1) (fun a U => a = #[(.int p0), (.int p1), (.int p2), (.int p3), (.int p4), (.int p5)] ∧ Z.Warmed39 U.vm ∧ U.heap = h0) (fun _ _ _ _ _ => True) (fun _ U o U' => ∃ v L, o = .returned v ∧ Q0 Z p0 p1 p2 p3 p4 p5 h0 n0 v U'.heap L ∧ FrameEnd U o U' L 16 128) := by
  refine MetFree.of_bodySF (plainFor_of_name pn_0) hisR ?_
  intro p e s m args below meth c s₁ Bd hml0 hP hK
  obtain ⟨rfl, hZ, hh⟩ := hP
  have hx := Bd.exec
  have hby := Bd.bytes
  have hml : c.maxLocals = 17 := hml0
  have hown : s.vm.findClass "com/example/strict_distinct/strictdistinct/XmlPositionLineEndAtPinLaw" = some m.cls := findClass_of_methodNamed Bd.named
  have hnm := (name_of_methodNamed Bd.named Bd.method).1
  have X0 : Stand p l e room_1 s m #[(.int p0), (.int p1), (.int p2), (.int p3), (.int p4), (.int p5)] below meth c s₁ [] 0 0 := Stand.of_body Bd
  have e0 : s₁.heap = h0 := by rw [← hh, Bd.state]; rfl
  have N0 := Fr.nil n0
  refine Runs.enter (ef_0 m p0 p1 p2 p3 p4 p5) ?_
  show Runs _ _ _ _ s₁ (mkF m 0 #[.val (.int p0), .val (.int p1), .val (.int p2), .val (.int p3), .val (.int p4), .val (.int p5), .unset, .unset, .unset, .unset, .unset, .unset, .unset, .unset, .unset, .unset, .unset] [])
  refine Runs.back (fun t_ k_ => XS.iloadN X0.here hx rfl (hb hby at_0) rfl k_) ?_
  show Runs _ _ _ _ s₁ (mkF m 1 #[.val (.int p0), .val (.int p1), .val (.int p2), .val (.int p3), .val (.int p4), .val (.int p5), .unset, .unset, .unset, .unset, .unset, .unset, .unset, .unset, .unset, .unset, .unset] [(.int p0)])
  refine Runs.back (fun t_ k_ => XS.iconst X0.here hx rfl (hb hby at_1) k_) ?_
  show Runs _ _ _ _ s₁ (mkF m 2 #[.val (.int p0), .val (.int p1), .val (.int p2), .val (.int p3), .val (.int p4), .val (.int p5), .unset, .unset, .unset, .unset, .unset, .unset, .unset, .unset, .unset, .unset, .unset] [(.int (1 : Int32)), (.int p0)])
  refine Runs.back (fun t_ k_ => XS.iand X0.here hx rfl (hb hby at_2) rfl k_) ?_
  show Runs _ _ _ _ s₁ (mkF m 3 #[.val (.int p0), .val (.int p1), .val (.int p2), .val (.int p3), .val (.int p4), .val (.int p5), .unset, .unset, .unset, .unset, .unset, .unset, .unset, .unset, .unset, .unset, .unset] [(.int (p0 &&& (1 : Int32)))])
  by_cases c3_1 : (p0 &&& (1 : Int32)) = (0 : Int32)
  · refine Runs.back (fun t_ k_ => XS.ifYes X0.here hx rfl (pc0 := 3) (pc' := 10) rfl (hb hby at_3) rfl ((if0 _ _).trans (teq c3_1).1) (by decide) (by decide) k_) ?_
    show Runs _ _ _ _ s₁ (mkF m 10 #[.val (.int p0), .val (.int p1), .val (.int p2), .val (.int p3), .val (.int p4), .val (.int p5), .unset, .unset, .unset, .unset, .unset, .unset, .unset, .unset, .unset, .unset, .unset] [])
    refine Runs.back (fun t_ k_ => XS.iconst X0.here hx rfl (hb hby at_10) k_) ?_
    show Runs _ _ _ _ s₁ (mkF m 11 #[.val (.int p0), .val (.int p1), .val (.int p2), .val (.int p3), .val (.int p4), .val (.int p5), .unset, .unset, .unset, .unset, .unset, .unset, .unset, .unset, .unset, .unset, .unset] [(.int (0 : Int32))])
    refine Runs.back (fun t_ k_ => XS.istore X0.here hx rfl (hb hby at_11) rfl (l' := #[.val (.int p0), .val (.int p1), .val (.int p2), .val (.int p3), .val (.int p4), .val (.int p5), .val (.int (0 : Int32)), .unset, .unset, .unset, .unset, .unset, .unset, .unset, .unset, .unset, .unset]) rfl k_) ?_
    show Runs _ _ _ _ s₁ (mkF m 13 #[.val (.int p0), .val (.int p1), .val (.int p2), .val (.int p3), .val (.int p4), .val (.int p5), .val (.int (0 : Int32)), .unset, .unset, .unset, .unset, .unset, .unset, .unset, .unset, .unset, .unset] [])
    refine Runs.back (fun t_ k_ => XS.iconst X0.here hx rfl (hb hby at_13) k_) ?_
    show Runs _ _ _ _ s₁ (mkF m 14 #[.val (.int p0), .val (.int p1), .val (.int p2), .val (.int p3), .val (.int p4), .val (.int p5), .val (.int (0 : Int32)), .unset, .unset, .unset, .unset, .unset, .unset, .unset, .unset, .unset, .unset] [(.int (4 : Int32))])
    obtain ⟨T2, h2, k2, X2, e2, E2, A2, st2⟩ := newP X0 hx hZ (hw _ (List.mem_of_getElem? (i := 0) rfl)) e0 (g := (mkF m 14 #[.val (.int p0), .val (.int p1), .val (.int p2), .val (.int p3), .val (.int p4), .val (.int p5), .val (.int (0 : Int32)), .unset, .unset, .unset, .unset, .unset, .unset, .unset, .unset, .unset, .unset] [(.int (4 : Int32))])) rfl (hb hby at_14) rfl (by decide) (cap := 4) (by decide) (by decide) (by decide) (by decide)
    obtain ⟨ob2, g2⟩ : ∃ z, z = h0.size := ⟨_, rfl⟩
    rw [← g2] at A2 st2
    have g_ob2 : n0 ≤ ob2 := Nat.le_trans (Z0) (Nat.le_of_eq g2.symm)
    have Z2 : n0 ≤ h2.size := Nat.le_trans (Z0) E2.1
    have V2 : OArr Z h2 ob2 .byte 4 (fun _ => (Value.int (0 : Int32))) := OArr.new A2 rfl rfl
    refine Runs.back st2 ?_
    show Runs _ _ _ _ T2 (mkF m 16 #[.val (.int p0), .val (.int p1), .val (.int p2), .val (.int p3), .val (.int p4), .val (.int p5), .val (.int (0 : Int32)), .unset, .unset, .unset, .unset, .unset, .unset, .unset, .unset, .unset, .unset] [(.ref ob2)])
    refine Runs.back (fun t_ k_ => XS.astore X2.here hx rfl (hb hby at_16) rfl rfl (l' := #[.val (.int p0), .val (.int p1), .val (.int p2), .val (.int p3), .val (.int p4), .val (.int p5), .val (.int (0 : Int32)), .val (.ref ob2), .unset, .unset, .unset, .unset, .unset, .unset, .unset, .unset, .unset]) rfl k_) ?_
    show Runs _ _ _ _ T2 (mkF m 18 #[.val (.int p0), .val (.int p1), .val (.int p2), .val (.int p3), .val (.int p4), .val (.int p5), .val (.int (0 : Int32)), .val (.ref ob2), .unset, .unset, .unset, .unset, .unset, .unset, .unset, .unset, .unset] [])
    refine Runs.back (fun t_ k_ => XS.aload X2.here hx rfl (hb hby at_18) rfl rfl k_) ?_
    show Runs _ _ _ _ T2 (mkF m 20 #[.val (.int p0), .val (.int p1), .val (.int p2), .val (.int p3), .val (.int p4), .val (.int p5), .val (.int (0 : Int32)), .val (.ref ob2), .unset, .unset, .unset, .unset, .unset, .unset, .unset, .unset, .unset] [(.ref ob2)])
    refine Runs.back (fun t_ k_ => XS.iconst X2.here hx rfl (hb hby at_20) k_) ?_
    show Runs _ _ _ _ T2 (mkF m 21 #[.val (.int p0), .val (.int p1), .val (.int p2), .val (.int p3), .val (.int p4), .val (.int p5), .val (.int (0 : Int32)), .val (.ref ob2), .unset, .unset, .unset, .unset, .unset, .unset, .unset, .unset, .unset] [(.int (0 : Int32)), (.ref ob2)])
    refine Runs.back (fun t_ k_ => XS.iloadN X2.here hx rfl (hb hby at_21) rfl k_) ?_
    show Runs _ _ _ _ T2 (mkF m 22 #[.val (.int p0), .val (.int p1), .val (.int p2), .val (.int p3), .val (.int p4), .val (.int p5), .val (.int (0 : Int32)), .val (.ref ob2), .unset, .unset, .unset, .unset, .unset, .unset, .unset, .unset, .unset] [(.int p1), (.int (0 : Int32)), (.ref ob2)])
    obtain ⟨_, _, ⟨T3, L3, k3, n3⟩, -, X3, ⟨Lc3, hQ3, l3, y3, z3⟩, st3⟩ := Jvm.LawKit.callS X2 hx (y := (⟨"com/example/strict_distinct/strictdistinct/XmlPositionLineEndAtPinLaw", "pick", "(I)B"⟩ : MethodName)) hown (mvT hZ (hw _ (List.mem_of_getElem? (i := 1) rfl))) (mvT hZ (hw _ (List.mem_of_getElem? (i := 2) rfl))) (mvT hZ (hw _ (List.mem_of_getElem? (i := 3) rfl))) (mvT hZ (hw _ (List.mem_of_getElem? (i := 4) rfl))) (by decide) (backOf (W := 2) (rm1 l Z a0 hw [] p1 h2 n0 (Z2)) hZ (hw _ (List.mem_of_getElem? (i := 4) rfl)) (hw _ (List.mem_of_getElem? (i := 3) rfl)) (by decide) (by decide)) (g := (mkF m 22 #[.val (.int p0), .val (.int p1), .val (.int p2), .val (.int p3), .val (.int p4), .val (.int p5), .val (.int (0 : Int32)), .val (.ref ob2), .unset, .unset, .unset, .unset, .unset, .unset, .unset, .unset, .unset] [(.int p1), (.int (0 : Int32)), (.ref ob2)])) rfl (by rw [hml]; rfl) (argsL := [(.int p1)]) (rest := [(.int (0 : Int32)), (.ref ob2)]) (lenOf pd0_0 rfl) rfl (by show 2 * 0 + _ ≤ _; exact Nat.le_of_eq rfl) (hb hby at_22) (fun _ _ => ⟨rfl, e2, (by decide : 1 + 0 ≤ _), (by decide : 4 + 0 ≤ _)⟩)
    dsimp only [Pt.U, Pt.locs, Pt.cells, Pt.slots] at X3 l3 y3 z3 st3 hQ3
    subst l3 y3 z3
    obtain ⟨z3, rfl, N3q, eq3⟩ := hQ3
    have N3 := Fr.app N0 N3q
    refine Runs.back st3 ?_
    show Runs _ _ _ _ T3 (mkF m 25 #[.val (.int p0), .val (.int p1), .val (.int p2), .val (.int p3), .val (.int p4), .val (.int p5), .val (.int (0 : Int32)), .val (.ref ob2), .unset, .unset, .unset, .unset, .unset, .unset, .unset, .unset, .unset] [(.int z3), (.int (0 : Int32)), (.ref ob2)])
    obtain ⟨cl4, Ar4, S4, Hs4⟩ := id V2
    obtain ⟨T4, h4, X4, e4, W4, st4⟩ := stB X3 hx hZ eq3 Ar4 (j := (0 : Int32)) (by rw [S4]; exact (inbO (by decide : ¬ (0 : Int32) < 0) (rfl : ((0 : Int32)).toNatClampNeg = 0) (show 0 < 4 from (by decide)))) (g := (mkF m 25 #[.val (.int p0), .val (.int p1), .val (.int p2), .val (.int p3), .val (.int p4), .val (.int p5), .val (.int (0 : Int32)), .val (.ref ob2), .unset, .unset, .unset, .unset, .unset, .unset, .unset, .unset, .unset] [(.int z3), (.int (0 : Int32)), (.ref ob2)])) rfl rfl (hb hby at_25)
    have N4 := Fr.snoc X4 N3 g_ob2
    rw [(rfl : ((0 : Int32)).toNatClampNeg = 0)] at W4
    have f4_Arr_0 : OArr Z h4 ob2 .byte 4 (fun i => if i = 0 then (Value.int (nar .byte z3)) else (fun _ => (Value.int (0 : Int32))) i) := V2.set W4
    have Z4 : n0 ≤ h4.size := Nat.le_trans (Z2) (Nat.le_of_eq W4.size.symm)
    refine Runs.back st4 ?_
    show Runs _ _ _ _ T4 (mkF m 26 #[.val (.int p0), .val (.int p1), .val (.int p2), .val (.int p3), .val (.int p4), .val (.int p5), .val (.int (0 : Int32)), .val (.ref ob2), .unset, .unset, .unset, .unset, .unset, .unset, .unset, .unset, .unset] [])
    refine Runs.back (fun t_ k_ => XS.aload X4.here hx rfl (hb hby at_26) rfl rfl k_) ?_
    show Runs _ _ _ _ T4 (mkF m 28 #[.val (.int p0), .val (.int p1), .val (.int p2), .val (.int p3), .val (.int p4), .val (.int p5), .val (.int (0 : Int32)), .val (.ref ob2), .unset, .unset, .unset, .unset, .unset, .unset, .unset, .unset, .unset] [(.ref ob2)])
    refine Runs.back (fun t_ k_ => XS.iconst X4.here hx rfl (hb hby at_28) k_) ?_
    show Runs _ _ _ _ T4 (mkF m 29 #[.val (.int p0), .val (.int p1), .val (.int p2), .val (.int p3), .val (.int p4), .val (.int p5), .val (.int (0 : Int32)), .val (.ref ob2), .unset, .unset, .unset, .unset, .unset, .unset, .unset, .unset, .unset] [(.int (1 : Int32)), (.ref ob2)])
    refine Runs.back (fun t_ k_ => XS.iloadN X4.here hx rfl (hb hby at_29) rfl k_) ?_
    show Runs _ _ _ _ T4 (mkF m 30 #[.val (.int p0), .val (.int p1), .val (.int p2), .val (.int p3), .val (.int p4), .val (.int p5), .val (.int (0 : Int32)), .val (.ref ob2), .unset, .unset, .unset, .unset, .unset, .unset, .unset, .unset, .unset] [(.int p2), (.int (1 : Int32)), (.ref ob2)])
    obtain ⟨_, _, ⟨T5, L5, k5, n5⟩, -, X5, ⟨Lc5, hQ5, l5, y5, z5⟩, st5⟩ := Jvm.LawKit.callS X4 hx (y := (⟨"com/example/strict_distinct/strictdistinct/XmlPositionLineEndAtPinLaw", "pick", "(I)B"⟩ : MethodName)) hown (mvT hZ (hw _ (List.mem_of_getElem? (i := 1) rfl))) (mvT hZ (hw _ (List.mem_of_getElem? (i := 2) rfl))) (mvT hZ (hw _ (List.mem_of_getElem? (i := 3) rfl))) (mvT hZ (hw _ (List.mem_of_getElem? (i := 4) rfl))) (by decide) (backOf (W := 2) (rm1 l Z a0 hw [] p2 h4 n0 (Z4)) hZ (hw _ (List.mem_of_getElem? (i := 4) rfl)) (hw _ (List.mem_of_getElem? (i := 3) rfl)) (by decide) (by decide)) (g := (mkF m 30 #[.val (.int p0), .val (.int p1), .val (.int p2), .val (.int p3), .val (.int p4), .val (.int p5), .val (.int (0 : Int32)), .val (.ref ob2), .unset, .unset, .unset, .unset, .unset, .unset, .unset, .unset, .unset] [(.int p2), (.int (1 : Int32)), (.ref ob2)])) rfl (by rw [hml]; rfl) (argsL := [(.int p2)]) (rest := [(.int (1 : Int32)), (.ref ob2)]) (lenOf pd0_0 rfl) rfl (by show 2 * 0 + _ ≤ _; exact Nat.le_of_eq rfl) (hb hby at_30) (fun _ _ => ⟨rfl, e4, (by decide : 1 + 0 ≤ _), (by decide : 4 + 0 ≤ _)⟩)
    dsimp only [Pt.U, Pt.locs, Pt.cells, Pt.slots] at X5 l5 y5 z5 st5 hQ5
    subst l5 y5 z5
    obtain ⟨z5, rfl, N5q, eq5⟩ := hQ5
    have N5 := Fr.app N4 N5q
    refine Runs.back st5 ?_
    show Runs _ _ _ _ T5 (mkF m 33 #[.val (.int p0), .val (.int p1), .val (.int p2), .val (.int p3), .val (.int p4), .val (.int p5), .val (.int (0 : Int32)), .val (.ref ob2), .unset, .unset, .unset, .unset, .unset, .unset, .unset, .unset, .unset] [(.int z5), (.int (1 : Int32)), (.ref ob2)])
    obtain ⟨cl6, Ar6, S6, Hs6⟩ := id f4_Arr_0
    obtain ⟨T6, h6, X6, e6, W6, st6⟩ := stB X5 hx hZ eq5 Ar6 (j := (1 : Int32)) (by rw [S6]; exact (inbO (by decide : ¬ (1 : Int32) < 0) (rfl : ((1 : Int32)).toNatClampNeg = 1) (show 1 < 4 from (by decide)))) (g := (mkF m 33 #[.val (.int p0), .val (.int p1), .val (.int p2), .val (.int p3), .val (.int p4), .val (.int p5), .val (.int (0 : Int32)), .val (.ref ob2), .unset, .unset, .unset, .unset, .unset, .unset, .unset, .unset, .unset] [(.int z5), (.int (1 : Int32)), (.ref ob2)])) rfl rfl (hb hby at_33)
    have N6 := Fr.snoc X6 N5 g_ob2
    rw [(rfl : ((1 : Int32)).toNatClampNeg = 1)] at W6
    have f6_Arr_0 : OArr Z h6 ob2 .byte 4 (fun i => if i = 1 then (Value.int (nar .byte z5)) else (fun i => if i = 0 then (Value.int (nar .byte z3)) else (fun _ => (Value.int (0 : Int32))) i) i) := f4_Arr_0.set W6
    have Z6 : n0 ≤ h6.size := Nat.le_trans (Z4) (Nat.le_of_eq W6.size.symm)
    refine Runs.back st6 ?_
    show Runs _ _ _ _ T6 (mkF m 34 #[.val (.int p0), .val (.int p1), .val (.int p2), .val (.int p3), .val (.int p4), .val (.int p5), .val (.int (0 : Int32)), .val (.ref ob2), .unset, .unset, .unset, .unset, .unset, .unset, .unset, .unset, .unset] [])
    refine Runs.back (fun t_ k_ => XS.aload X6.here hx rfl (hb hby at_34) rfl rfl k_) ?_
    show Runs _ _ _ _ T6 (mkF m 36 #[.val (.int p0), .val (.int p1), .val (.int p2), .val (.int p3), .val (.int p4), .val (.int p5), .val (.int (0 : Int32)), .val (.ref ob2), .unset, .unset, .unset, .unset, .unset, .unset, .unset, .unset, .unset] [(.ref ob2)])
    refine Runs.back (fun t_ k_ => XS.iconst X6.here hx rfl (hb hby at_36) k_) ?_
    show Runs _ _ _ _ T6 (mkF m 37 #[.val (.int p0), .val (.int p1), .val (.int p2), .val (.int p3), .val (.int p4), .val (.int p5), .val (.int (0 : Int32)), .val (.ref ob2), .unset, .unset, .unset, .unset, .unset, .unset, .unset, .unset, .unset] [(.int (2 : Int32)), (.ref ob2)])
    refine Runs.back (fun t_ k_ => XS.iloadN X6.here hx rfl (hb hby at_37) rfl k_) ?_
    show Runs _ _ _ _ T6 (mkF m 38 #[.val (.int p0), .val (.int p1), .val (.int p2), .val (.int p3), .val (.int p4), .val (.int p5), .val (.int (0 : Int32)), .val (.ref ob2), .unset, .unset, .unset, .unset, .unset, .unset, .unset, .unset, .unset] [(.int p3), (.int (2 : Int32)), (.ref ob2)])
    obtain ⟨_, _, ⟨T7, L7, k7, n7⟩, -, X7, ⟨Lc7, hQ7, l7, y7, z7⟩, st7⟩ := Jvm.LawKit.callS X6 hx (y := (⟨"com/example/strict_distinct/strictdistinct/XmlPositionLineEndAtPinLaw", "pick", "(I)B"⟩ : MethodName)) hown (mvT hZ (hw _ (List.mem_of_getElem? (i := 1) rfl))) (mvT hZ (hw _ (List.mem_of_getElem? (i := 2) rfl))) (mvT hZ (hw _ (List.mem_of_getElem? (i := 3) rfl))) (mvT hZ (hw _ (List.mem_of_getElem? (i := 4) rfl))) (by decide) (backOf (W := 2) (rm1 l Z a0 hw [] p3 h6 n0 (Z6)) hZ (hw _ (List.mem_of_getElem? (i := 4) rfl)) (hw _ (List.mem_of_getElem? (i := 3) rfl)) (by decide) (by decide)) (g := (mkF m 38 #[.val (.int p0), .val (.int p1), .val (.int p2), .val (.int p3), .val (.int p4), .val (.int p5), .val (.int (0 : Int32)), .val (.ref ob2), .unset, .unset, .unset, .unset, .unset, .unset, .unset, .unset, .unset] [(.int p3), (.int (2 : Int32)), (.ref ob2)])) rfl (by rw [hml]; rfl) (argsL := [(.int p3)]) (rest := [(.int (2 : Int32)), (.ref ob2)]) (lenOf pd0_0 rfl) rfl (by show 2 * 0 + _ ≤ _; exact Nat.le_of_eq rfl) (hb hby at_38) (fun _ _ => ⟨rfl, e6, (by decide : 1 + 0 ≤ _), (by decide : 4 + 0 ≤ _)⟩)
    dsimp only [Pt.U, Pt.locs, Pt.cells, Pt.slots] at X7 l7 y7 z7 st7 hQ7
    subst l7 y7 z7
    obtain ⟨z7, rfl, N7q, eq7⟩ := hQ7
    have N7 := Fr.app N6 N7q
    refine Runs.back st7 ?_
    show Runs _ _ _ _ T7 (mkF m 41 #[.val (.int p0), .val (.int p1), .val (.int p2), .val (.int p3), .val (.int p4), .val (.int p5), .val (.int (0 : Int32)), .val (.ref ob2), .unset, .unset, .unset, .unset, .unset, .unset, .unset, .unset, .unset] [(.int z7), (.int (2 : Int32)), (.ref ob2)])
    obtain ⟨cl8, Ar8, S8, Hs8⟩ := id f6_Arr_0
    obtain ⟨T8, h8, X8, e8, W8, st8⟩ := stB X7 hx hZ eq7 Ar8 (j := (2 : Int32)) (by rw [S8]; exact (inbO (by decide : ¬ (2 : Int32) < 0) (rfl : ((2 : Int32)).toNatClampNeg = 2) (show 2 < 4 from (by decide)))) (g := (mkF m 41 #[.val (.int p0), .val (.int p1), .val (.int p2), .val (.int p3), .val (.int p4), .val (.int p5), .val (.int (0 : Int32)), .val (.ref ob2), .unset, .unset, .unset, .unset, .unset, .unset, .unset, .unset, .unset] [(.int z7), (.int (2 : Int32)), (.ref ob2)])) rfl rfl (hb hby at_41)
    have N8 := Fr.snoc X8 N7 g_ob2
    rw [(rfl : ((2 : Int32)).toNatClampNeg = 2)] at W8
    have f8_Arr_0 : OArr Z h8 ob2 .byte 4 (fun i => if i = 2 then (Value.int (nar .byte z7)) else (fun i => if i = 1 then (Value.int (nar .byte z5)) else (fun i => if i = 0 then (Value.int (nar .byte z3)) else (fun _ => (Value.int (0 : Int32))) i) i) i) := f6_Arr_0.set W8
    have Z8 : n0 ≤ h8.size := Nat.le_trans (Z6) (Nat.le_of_eq W8.size.symm)
    refine Runs.back st8 ?_
    show Runs _ _ _ _ T8 (mkF m 42 #[.val (.int p0), .val (.int p1), .val (.int p2), .val (.int p3), .val (.int p4), .val (.int p5), .val (.int (0 : Int32)), .val (.ref ob2), .unset, .unset, .unset, .unset, .unset, .unset, .unset, .unset, .unset] [])
    refine Runs.back (fun t_ k_ => XS.aload X8.here hx rfl (hb hby at_42) rfl rfl k_) ?_
    show Runs _ _ _ _ T8 (mkF m 44 #[.val (.int p0), .val (.int p1), .val (.int p2), .val (.int p3), .val (.int p4), .val (.int p5), .val (.int (0 : Int32)), .val (.ref ob2), .unset, .unset, .unset, .unset, .unset, .unset, .unset, .unset, .unset] [(.ref ob2)])
    refine Runs.back (fun t_ k_ => XS.iconst X8.here hx rfl (hb hby at_44) k_) ?_
    show Runs _ _ _ _ T8 (mkF m 45 #[.val (.int p0), .val (.int p1), .val (.int p2), .val (.int p3), .val (.int p4), .val (.int p5), .val (.int (0 : Int32)), .val (.ref ob2), .unset, .unset, .unset, .unset, .unset, .unset, .unset, .unset, .unset] [(.int (3 : Int32)), (.ref ob2)])
    refine Runs.back (fun t_ k_ => XS.iload X8.here hx rfl (hb hby at_45) rfl k_) ?_
    show Runs _ _ _ _ T8 (mkF m 47 #[.val (.int p0), .val (.int p1), .val (.int p2), .val (.int p3), .val (.int p4), .val (.int p5), .val (.int (0 : Int32)), .val (.ref ob2), .unset, .unset, .unset, .unset, .unset, .unset, .unset, .unset, .unset] [(.int p4), (.int (3 : Int32)), (.ref ob2)])
    obtain ⟨_, _, ⟨T9, L9, k9, n9⟩, -, X9, ⟨Lc9, hQ9, l9, y9, z9⟩, st9⟩ := Jvm.LawKit.callS X8 hx (y := (⟨"com/example/strict_distinct/strictdistinct/XmlPositionLineEndAtPinLaw", "pick", "(I)B"⟩ : MethodName)) hown (mvT hZ (hw _ (List.mem_of_getElem? (i := 1) rfl))) (mvT hZ (hw _ (List.mem_of_getElem? (i := 2) rfl))) (mvT hZ (hw _ (List.mem_of_getElem? (i := 3) rfl))) (mvT hZ (hw _ (List.mem_of_getElem? (i := 4) rfl))) (by decide) (backOf (W := 2) (rm1 l Z a0 hw [] p4 h8 n0 (Z8)) hZ (hw _ (List.mem_of_getElem? (i := 4) rfl)) (hw _ (List.mem_of_getElem? (i := 3) rfl)) (by decide) (by decide)) (g := (mkF m 47 #[.val (.int p0), .val (.int p1), .val (.int p2), .val (.int p3), .val (.int p4), .val (.int p5), .val (.int (0 : Int32)), .val (.ref ob2), .unset, .unset, .unset, .unset, .unset, .unset, .unset, .unset, .unset] [(.int p4), (.int (3 : Int32)), (.ref ob2)])) rfl (by rw [hml]; rfl) (argsL := [(.int p4)]) (rest := [(.int (3 : Int32)), (.ref ob2)]) (lenOf pd0_0 rfl) rfl (by show 2 * 0 + _ ≤ _; exact Nat.le_of_eq rfl) (hb hby at_47) (fun _ _ => ⟨rfl, e8, (by decide : 1 + 0 ≤ _), (by decide : 4 + 0 ≤ _)⟩)
    dsimp only [Pt.U, Pt.locs, Pt.cells, Pt.slots] at X9 l9 y9 z9 st9 hQ9
    subst l9 y9 z9
    obtain ⟨z9, rfl, N9q, eq9⟩ := hQ9
    have N9 := Fr.app N8 N9q
    refine Runs.back st9 ?_
    show Runs _ _ _ _ T9 (mkF m 50 #[.val (.int p0), .val (.int p1), .val (.int p2), .val (.int p3), .val (.int p4), .val (.int p5), .val (.int (0 : Int32)), .val (.ref ob2), .unset, .unset, .unset, .unset, .unset, .unset, .unset, .unset, .unset] [(.int z9), (.int (3 : Int32)), (.ref ob2)])
    obtain ⟨cl10, Ar10, S10, Hs10⟩ := id f8_Arr_0
    obtain ⟨T10, h10, X10, e10, W10, st10⟩ := stB X9 hx hZ eq9 Ar10 (j := (3 : Int32)) (by rw [S10]; exact (inbO (by decide : ¬ (3 : Int32) < 0) (rfl : ((3 : Int32)).toNatClampNeg = 3) (show 3 < 4 from (by decide)))) (g := (mkF m 50 #[.val (.int p0), .val (.int p1), .val (.int p2), .val (.int p3), .val (.int p4), .val (.int p5), .val (.int (0 : Int32)), .val (.ref ob2), .unset, .unset, .unset, .unset, .unset, .unset, .unset, .unset, .unset] [(.int z9), (.int (3 : Int32)), (.ref ob2)])) rfl rfl (hb hby at_50)
    have N10 := Fr.snoc X10 N9 g_ob2
    rw [(rfl : ((3 : Int32)).toNatClampNeg = 3)] at W10
    have f10_Arr_0 : OArr Z h10 ob2 .byte 4 (fun i => if i = 3 then (Value.int (nar .byte z9)) else (fun i => if i = 2 then (Value.int (nar .byte z7)) else (fun i => if i = 1 then (Value.int (nar .byte z5)) else (fun i => if i = 0 then (Value.int (nar .byte z3)) else (fun _ => (Value.int (0 : Int32))) i) i) i) i) := f8_Arr_0.set W10
    have Z10 : n0 ≤ h10.size := Nat.le_trans (Z8) (Nat.le_of_eq W10.size.symm)
    refine Runs.back st10 ?_
    show Runs _ _ _ _ T10 (mkF m 51 #[.val (.int p0), .val (.int p1), .val (.int p2), .val (.int p3), .val (.int p4), .val (.int p5), .val (.int (0 : Int32)), .val (.ref ob2), .unset, .unset, .unset, .unset, .unset, .unset, .unset, .unset, .unset] [])
    obtain ⟨u, hu, hub⟩ : ∃ u : Nat → Int32, (∀ i, i < 4 → (fun i => if i = 3 then (Value.int (nar .byte z9)) else (fun i => if i = 2 then (Value.int (nar .byte z7)) else (fun i => if i = 1 then (Value.int (nar .byte z5)) else (fun i => if i = 0 then (Value.int (nar .byte z3)) else (fun _ => (Value.int (0 : Int32))) i) i) i) i) i = (Value.int (u i))) ∧ ∀ i, -128 ≤ (u i).toInt ∧ (u i).toInt < 128 := by
      refine ⟨fun i => if i = 3 then nar .byte z9 else if i = 2 then nar .byte z7 else if i = 1 then nar .byte z5 else nar .byte z3, fun i hi => ?_, fun i => ?_⟩
      · match i, hi with
        | 0, _ => rfl
        | 1, _ => rfl
        | 2, _ => rfl
        | 3, _ => rfl
      · have q := fun z => (c_i2b z).2
        dsimp only
        split
        · exact q _
        · split
          · exact q _
          · split
            · exact q _
            · exact q _
    have V51 : OArr Z h10 ob2 .byte 4 (fun i => (Value.int (u i))) := f10_Arr_0.congr hu
    refine Runs.back (fun t_ k_ => XS.iload X10.here hx rfl (hb hby at_51) rfl k_) ?_
    show Runs _ _ _ _ T10 (mkF m 53 #[.val (.int p0), .val (.int p1), .val (.int p2), .val (.int p3), .val (.int p4), .val (.int p5), .val (.int (0 : Int32)), .val (.ref ob2), .unset, .unset, .unset, .unset, .unset, .unset, .unset, .unset, .unset] [(.int p5)])
    refine Runs.back (X10.ldcInt hx hown (mvT hZ (hw _ (List.mem_of_getElem? (i := 5) rfl))) (g := (mkF m 53 #[.val (.int p0), .val (.int p1), .val (.int p2), .val (.int p3), .val (.int p4), .val (.int p5), .val (.int (0 : Int32)), .val (.ref ob2), .unset, .unset, .unset, .unset, .unset, .unset, .unset, .unset, .unset] [(.int p5)])) rfl (hb hby at_53)) ?_
    show Runs _ _ _ _ T10 (mkF m 55 #[.val (.int p0), .val (.int p1), .val (.int p2), .val (.int p3), .val (.int p4), .val (.int p5), .val (.int (0 : Int32)), .val (.ref ob2), .unset, .unset, .unset, .unset, .unset, .unset, .unset, .unset, .unset] [(.int (2147483647 : Int32)), (.int p5)])
    refine Runs.back (fun t_ k_ => XS.iand X10.here hx rfl (hb hby at_55) rfl k_) ?_
    show Runs _ _ _ _ T10 (mkF m 56 #[.val (.int p0), .val (.int p1), .val (.int p2), .val (.int p3), .val (.int p4), .val (.int p5), .val (.int (0 : Int32)), .val (.ref ob2), .unset, .unset, .unset, .unset, .unset, .unset, .unset, .unset, .unset] [(.int (p5 &&& (2147483647 : Int32)))])
    refine Runs.back (fun t_ k_ => XS.iconst X10.here hx rfl (hb hby at_56) k_) ?_
    show Runs _ _ _ _ T10 (mkF m 57 #[.val (.int p0), .val (.int p1), .val (.int p2), .val (.int p3), .val (.int p4), .val (.int p5), .val (.int (0 : Int32)), .val (.ref ob2), .unset, .unset, .unset, .unset, .unset, .unset, .unset, .unset, .unset] [(.int (4 : Int32)), (.int (p5 &&& (2147483647 : Int32)))])
    refine Runs.back (fun t_ k_ => iremM X10 hx rfl (hb hby at_57) rfl (by decide) k_) ?_
    show Runs _ _ _ _ T10 (mkF m 58 #[.val (.int p0), .val (.int p1), .val (.int p2), .val (.int p3), .val (.int p4), .val (.int p5), .val (.int (0 : Int32)), .val (.ref ob2), .unset, .unset, .unset, .unset, .unset, .unset, .unset, .unset, .unset] [(.int ((p5 &&& (2147483647 : Int32)) % (4 : Int32)))])
    have bA := (c_irem (p5 &&& (2147483647 : Int32)) 4 4 (by decide)).1 (by rw [c_mask p5 _ 31 (by decide) (by decide)]; omega)
    generalize epA : ((p5 &&& (2147483647 : Int32)) % (4 : Int32)) = pA at bA ⊢
    show Runs _ _ _ _ T10 (mkF m 58 #[.val (.int p0), .val (.int p1), .val (.int p2), .val (.int p3), .val (.int p4), .val (.int p5), .val (.int (0 : Int32)), .val (.ref ob2), .unset, .unset, .unset, .unset, .unset, .unset, .unset, .unset, .unset] [(.int pA)])
    have b2A : 0 ≤ pA.toInt ∧ pA.toInt < 4 := by omega
    have hnA : ¬ pA < 0 := by rw [lti, z32]; omega
    obtain ⟨kA, hkA⟩ : ∃ k, pA.toNatClampNeg = k := ⟨_, rfl⟩
    have hkI : pA.toInt = (kA : Int) := by rw [← hkA]; exact nat_of hnA
    have hk4 : kA < 4 := by omega
    have j1 := idxS hkA hnA (show (1 : Int32).toInt = ((1 : Nat) : Int) from by decide) (by omega)
    have j2 := idxS hkA hnA (show (2 : Int32).toInt = ((2 : Nat) : Int) from by decide) (by omega)
    refine Runs.back (fun t_ k_ => XS.istore X10.here hx rfl (hb hby at_58) rfl (l' := #[.val (.int p0), .val (.int p1), .val (.int p2), .val (.int p3), .val (.int p4), .val (.int p5), .val (.int (0 : Int32)), .val (.ref ob2), .val (.int pA), .unset, .unset, .unset, .unset, .unset, .unset, .unset, .unset]) rfl k_) ?_
    show Runs _ _ _ _ T10 (mkF m 60 #[.val (.int p0), .val (.int p1), .val (.int p2), .val (.int p3), .val (.int p4), .val (.int p5), .val (.int (0 : Int32)), .val (.ref ob2), .val (.int pA), .unset, .unset, .unset, .unset, .unset, .unset, .unset, .unset] [])
    refine Runs.back (fun t_ k_ => XS.iload X10.here hx rfl (hb hby at_60) rfl k_) ?_
    show Runs _ _ _ _ T10 (mkF m 62 #[.val (.int p0), .val (.int p1), .val (.int p2), .val (.int p3), .val (.int p4), .val (.int p5), .val (.int (0 : Int32)), .val (.ref ob2), .val (.int pA), .unset, .unset, .unset, .unset, .unset, .unset, .unset, .unset] [(.int pA)])
    refine Runs.back (fun t_ k_ => XS.iconst X10.here hx rfl (hb hby at_62) k_) ?_
    show Runs _ _ _ _ T10 (mkF m 63 #[.val (.int p0), .val (.int p1), .val (.int p2), .val (.int p3), .val (.int p4), .val (.int p5), .val (.int (0 : Int32)), .val (.ref ob2), .val (.int pA), .unset, .unset, .unset, .unset, .unset, .unset, .unset, .unset] [(.int (1 : Int32)), (.int pA)])
    refine Runs.back (fun t_ k_ => XS.iadd X10.here hx rfl (hb hby at_63) rfl k_) ?_
    show Runs _ _ _ _ T10 (mkF m 64 #[.val (.int p0), .val (.int p1), .val (.int p2), .val (.int p3), .val (.int p4), .val (.int p5), .val (.int (0 : Int32)), .val (.ref ob2), .val (.int pA), .unset, .unset, .unset, .unset, .unset, .unset, .unset, .unset] [(.int (pA + (1 : Int32)))])
    refine Runs.back (fun t_ k_ => XS.iloadN X10.here hx rfl (hb hby at_64) rfl k_) ?_
    show Runs _ _ _ _ T10 (mkF m 65 #[.val (.int p0), .val (.int p1), .val (.int p2), .val (.int p3), .val (.int p4), .val (.int p5), .val (.int (0 : Int32)), .val (.ref ob2), .val (.int pA), .unset, .unset, .unset, .unset, .unset, .unset, .unset, .unset] [(.int p0), (.int (pA + (1 : Int32)))])
    refine Runs.back (fun t_ k_ => XS.iconst X10.here hx rfl (hb hby at_65) k_) ?_
    show Runs _ _ _ _ T10 (mkF m 66 #[.val (.int p0), .val (.int p1), .val (.int p2), .val (.int p3), .val (.int p4), .val (.int p5), .val (.int (0 : Int32)), .val (.ref ob2), .val (.int pA), .unset, .unset, .unset, .unset, .unset, .unset, .unset, .unset] [(.int (1 : Int32)), (.int p0), (.int (pA + (1 : Int32)))])
    refine Runs.back (fun t_ k_ => XS.iushr X10.here hx rfl (hb hby at_66) rfl k_) ?_
    show Runs _ _ _ _ T10 (mkF m 67 #[.val (.int p0), .val (.int p1), .val (.int p2), .val (.int p3), .val (.int p4), .val (.int p5), .val (.int (0 : Int32)), .val (.ref ob2), .val (.int pA), .unset, .unset, .unset, .unset, .unset, .unset, .unset, .unset] [(.int ((p0.toUInt32 >>> ((1 : Int32) &&& 31).toUInt32).toInt32)), (.int (pA + (1 : Int32)))])
    refine Runs.back (fun t_ k_ => XS.iconst X10.here hx rfl (hb hby at_67) k_) ?_
    show Runs _ _ _ _ T10 (mkF m 68 #[.val (.int p0), .val (.int p1), .val (.int p2), .val (.int p3), .val (.int p4), .val (.int p5), .val (.int (0 : Int32)), .val (.ref ob2), .val (.int pA), .unset, .unset, .unset, .unset, .unset, .unset, .unset, .unset] [(.int (4 : Int32)), (.int ((p0.toUInt32 >>> ((1 : Int32) &&& 31).toUInt32).toInt32)), (.int (pA + (1 : Int32)))])
    refine Runs.back (fun t_ k_ => XS.iload X10.here hx rfl (hb hby at_68) rfl k_) ?_
    show Runs _ _ _ _ T10 (mkF m 70 #[.val (.int p0), .val (.int p1), .val (.int p2), .val (.int p3), .val (.int p4), .val (.int p5), .val (.int (0 : Int32)), .val (.ref ob2), .val (.int pA), .unset, .unset, .unset, .unset, .unset, .unset, .unset, .unset] [(.int pA), (.int (4 : Int32)), (.int ((p0.toUInt32 >>> ((1 : Int32) &&& 31).toUInt32).toInt32)), (.int (pA + (1 : Int32)))])
    refine Runs.back (fun t_ k_ => XS.isub X10.here hx rfl (hb hby at_70) rfl k_) ?_
    show Runs _ _ _ _ T10 (mkF m 71 #[.val (.int p0), .val (.int p1), .val (.int p2), .val (.int p3), .val (.int p4), .val (.int p5), .val (.int (0 : Int32)), .val (.ref ob2), .val (.int pA), .unset, .unset, .unset, .unset, .unset, .unset, .unset, .unset] [(.int ((4 : Int32) - pA)), (.int ((p0.toUInt32 >>> ((1 : Int32) &&& 31).toUInt32).toInt32)), (.int (pA + (1 : Int32)))])
    have y4 : (((4 : Int32) - pA)).toInt = (4 : Int32).toInt - pA.toInt := sub32 (by rw [show (4 : Int32).toInt = 4 from by decide]; omega) (by rw [show (4 : Int32).toInt = 4 from by decide]; omega)
    rw [show (4 : Int32).toInt = 4 from by decide] at y4
    have yn : ¬ (((4 : Int32) - pA)) = (0 : Int32) := by rw [eqi, z32]; omega
    have x0 : 0 ≤ (((p0.toUInt32 >>> ((1 : Int32) &&& 31).toUInt32).toInt32)).toInt := by rw [c_iushr p0 1 1 (by decide) (by decide)]; omega
    have rb := (c_iremV (((p0.toUInt32 >>> ((1 : Int32) &&& 31).toUInt32).toInt32)) (((4 : Int32) - pA))).1 x0 (by omega)
    refine Runs.back (fun t_ k_ => iremM X10 hx rfl (hb hby at_71) rfl yn k_) ?_
    show Runs _ _ _ _ T10 (mkF m 72 #[.val (.int p0), .val (.int p1), .val (.int p2), .val (.int p3), .val (.int p4), .val (.int p5), .val (.int (0 : Int32)), .val (.ref ob2), .val (.int pA), .unset, .unset, .unset, .unset, .unset, .unset, .unset, .unset] [(.int (((p0.toUInt32 >>> ((1 : Int32) &&& 31).toUInt32).toInt32) % ((4 : Int32) - pA))), (.int (pA + (1 : Int32)))])
    have rb1 := rb.1; have rb2 := rb.2.1
    clear rb
    generalize erm : (((p0.toUInt32 >>> ((1 : Int32) &&& 31).toUInt32).toInt32) % ((4 : Int32) - pA)) = rm at rb1 rb2 ⊢
    show Runs _ _ _ _ T10 (mkF m 72 #[.val (.int p0), .val (.int p1), .val (.int p2), .val (.int p3), .val (.int p4), .val (.int p5), .val (.int (0 : Int32)), .val (.ref ob2), .val (.int pA), .unset, .unset, .unset, .unset, .unset, .unset, .unset, .unset] [(.int rm), (.int (pA + (1 : Int32)))])
    refine Runs.back (fun t_ k_ => XS.iadd X10.here hx rfl (hb hby at_72) rfl k_) ?_
    show Runs _ _ _ _ T10 (mkF m 73 #[.val (.int p0), .val (.int p1), .val (.int p2), .val (.int p3), .val (.int p4), .val (.int p5), .val (.int (0 : Int32)), .val (.ref ob2), .val (.int pA), .unset, .unset, .unset, .unset, .unset, .unset, .unset, .unset] [(.int ((pA + (1 : Int32)) + rm))])
    have a1 : (pA + (1 : Int32)).toInt = pA.toInt + (1 : Int32).toInt := add32 (by rw [o32]; omega) (by rw [o32]; omega)
    rw [o32] at a1
    have a2 : ((pA + (1 : Int32)) + rm).toInt = (pA + (1 : Int32)).toInt + rm.toInt := add32 (by omega) (by omega)
    generalize epE : ((pA + (1 : Int32)) + rm) = pE at a2 ⊢
    show Runs _ _ _ _ T10 (mkF m 73 #[.val (.int p0), .val (.int p1), .val (.int p2), .val (.int p3), .val (.int p4), .val (.int p5), .val (.int (0 : Int32)), .val (.ref ob2), .val (.int pA), .unset, .unset, .unset, .unset, .unset, .unset, .unset, .unset] [(.int pE)])
    have a3 : (pA + (2 : Int32)).toInt = pA.toInt + (2 : Int32).toInt := add32 (by rw [show (2 : Int32).toInt = 2 from by decide]; omega) (by rw [show (2 : Int32).toInt = 2 from by decide]; omega)
    rw [show (2 : Int32).toInt = 2 from by decide] at a3
    have hA4 : (pA + (1 : Int32)) < pE → kA + 1 < 4 := by rw [lti]; omega
    have hB4 : (pA + (2 : Int32)) < pE → kA + 2 < 4 := by rw [lti]; omega
    have hBA : (pA + (2 : Int32)) < pE → (pA + (1 : Int32)) < pE := by rw [lti, lti]; omega
    refine Runs.back (fun t_ k_ => XS.istore X10.here hx rfl (hb hby at_73) rfl (l' := #[.val (.int p0), .val (.int p1), .val (.int p2), .val (.int p3), .val (.int p4), .val (.int p5), .val (.int (0 : Int32)), .val (.ref ob2), .val (.int pA), .val (.int pE), .unset, .unset, .unset, .unset, .unset, .unset, .unset]) rfl k_) ?_
    show Runs _ _ _ _ T10 (mkF m 75 #[.val (.int p0), .val (.int p1), .val (.int p2), .val (.int p3), .val (.int p4), .val (.int p5), .val (.int (0 : Int32)), .val (.ref ob2), .val (.int pA), .val (.int pE), .unset, .unset, .unset, .unset, .unset, .unset, .unset] [])
    obtain ⟨T11, h11, X11, e11, E11, A11, D11, -, st11⟩ := newO X10 hx hZ hown (hw _ (List.mem_of_getElem? (i := 6) rfl)) (hw _ (List.mem_of_getElem? (i := 7) rfl)) (hw _ (List.mem_of_getElem? (i := 8) rfl)) e10 (g := (mkF m 75 #[.val (.int p0), .val (.int p1), .val (.int p2), .val (.int p3), .val (.int p4), .val (.int p5), .val (.int (0 : Int32)), .val (.ref ob2), .val (.int pA), .val (.int pE), .unset, .unset, .unset, .unset, .unset, .unset, .unset] [])) rfl (hb hby at_75) (by decide) (by decide)
    obtain ⟨ob11, g11⟩ : ∃ z, z = h10.size := ⟨_, rfl⟩
    rw [← g11] at A11 D11 st11
    have g_ob11 : n0 ≤ ob11 := Nat.le_trans (Z10) (Nat.le_of_eq g11.symm)
    have ne_ob2_ob11 : ob2 ≠ ob11 := Nat.ne_of_lt (Nat.lt_of_lt_of_le V51.lt (Nat.le_of_eq g11.symm))
    have f11_Arr_0 : OArr Z h11 ob2 .byte 4 (fun i => (Value.int (u i))) := V51.ext E11
    have Z11 : n0 ≤ h11.size := Nat.le_trans (Z10) E11.1
    have F11_16 : Fld Z h11 ob11 "com/example/strict_distinct/strictdistinct/XmlPosition" "line" "J" (.long (0 : Int64)) := D11 (Or.inl (hw _ (List.mem_of_getElem? (i := 16) rfl))) (ty := .long) (by decide)
    have F11_18 : Fld Z h11 ob11 "com/example/strict_distinct/strictdistinct/XmlPosition" "xml11" "Z" (.int (0 : Int32)) := D11 (Or.inl (hw _ (List.mem_of_getElem? (i := 18) rfl))) (ty := .boolean) (by decide)
    refine Runs.back st11 ?_
    show Runs _ _ _ _ T11 (mkF m 78 #[.val (.int p0), .val (.int p1), .val (.int p2), .val (.int p3), .val (.int p4), .val (.int p5), .val (.int (0 : Int32)), .val (.ref ob2), .val (.int pA), .val (.int pE), .unset, .unset, .unset, .unset, .unset, .unset, .unset] [(.ref ob11)])
    refine Runs.back (fun t_ k_ => XS.dup X11.here hx rfl (hb hby at_78) rfl rfl k_) ?_
    show Runs _ _ _ _ T11 (mkF m 79 #[.val (.int p0), .val (.int p1), .val (.int p2), .val (.int p3), .val (.int p4), .val (.int p5), .val (.int (0 : Int32)), .val (.ref ob2), .val (.int pA), .val (.int pE), .unset, .unset, .unset, .unset, .unset, .unset, .unset] [(.ref ob11), (.ref ob11)])
    refine Runs.back (fun t_ k_ => XS.iload X11.here hx rfl (hb hby at_79) rfl k_) ?_
    show Runs _ _ _ _ T11 (mkF m 81 #[.val (.int p0), .val (.int p1), .val (.int p2), .val (.int p3), .val (.int p4), .val (.int p5), .val (.int (0 : Int32)), .val (.ref ob2), .val (.int pA), .val (.int pE), .unset, .unset, .unset, .unset, .unset, .unset, .unset] [(.int (0 : Int32)), (.ref ob11), (.ref ob11)])
    obtain ⟨_, _, ⟨T12, L12, k12, n12⟩, -, X12, ⟨Lc12, hQ12, l12, y12, z12⟩, st12⟩ := X11.specialBack hx (y := (⟨"com/example/strict_distinct/strictdistinct/XmlPosition", "<init>", "(Z)V"⟩ : MethodName)) rfl hown (mvT hZ (hw _ (List.mem_of_getElem? (i := 9) rfl))) (mvT hZ (hw _ (List.mem_of_getElem? (i := 10) rfl))) (mvT hZ (hw _ (List.mem_of_getElem? (i := 11) rfl))) (by decide) (backOf (W := 1) (rm2 l Z a0 hw [] ob11 (0 : Int32) _ _ h11 n0 (Z11) A11 F11_16 F11_18 g_ob11) hZ (hw _ (List.mem_of_getElem? (i := 11) rfl)) (hw _ (List.mem_of_getElem? (i := 8) rfl)) (by decide) (by decide)) (g := (mkF m 81 #[.val (.int p0), .val (.int p1), .val (.int p2), .val (.int p3), .val (.int p4), .val (.int p5), .val (.int (0 : Int32)), .val (.ref ob2), .val (.int pA), .val (.int pE), .unset, .unset, .unset, .unset, .unset, .unset, .unset] [(.int (0 : Int32)), (.ref ob11), (.ref ob11)])) rfl (by rw [hml]; rfl) (Steps.refl _) (a := ob11) (argsL := [(.int (0 : Int32))]) (rest := [(.ref ob11)]) (lenOf pd0_1 rfl) rfl (by show 2 * 0 + _ ≤ _; exact Nat.le_of_eq rfl) (hb hby at_81) (fun _ _ => ⟨rfl, e11, (by decide : 2 + 0 ≤ _), (by decide : 8 + 0 ≤ _)⟩)
    dsimp only [Pt.U, Pt.locs, Pt.cells, Pt.slots] at X12 l12 y12 z12 st12 hQ12
    subst l12 y12 z12
    obtain ⟨rfl, N12q, K12, iE12, iF12⟩ := hQ12
    have N12 := Fr.app N10 N12q
    have f12_Arr_0 : OArr Z T12.heap ob2 .byte 4 (fun i => (Value.int (u i))) := f11_Arr_0.keep K12 (ninS ne_ob2_ob11 nin0)
    have f12_Exa_1 : Exa Z T12.heap ob11 "com/example/strict_distinct/strictdistinct/XmlPosition" := A11.keep K12
    have Z12 : n0 ≤ T12.heap.size := Nat.le_trans (Z11) K12.1
    refine Runs.trans st12 ?_
    show Runs _ _ _ _ T12 (mkF m 84 #[.val (.int p0), .val (.int p1), .val (.int p2), .val (.int p3), .val (.int p4), .val (.int p5), .val (.int (0 : Int32)), .val (.ref ob2), .val (.int pA), .val (.int pE), .unset, .unset, .unset, .unset, .unset, .unset, .unset] [(.ref ob11)])
    refine Runs.back (fun t_ k_ => XS.astore X12.here hx rfl (hb hby at_84) rfl rfl (l' := #[.val (.int p0), .val (.int p1), .val (.int p2), .val (.int p3), .val (.int p4), .val (.int p5), .val (.int (0 : Int32)), .val (.ref ob2), .val (.int pA), .val (.int pE), .val (.ref ob11), .unset, .unset, .unset, .unset, .unset, .unset]) rfl k_) ?_
    show Runs _ _ _ _ T12 (mkF m 86 #[.val (.int p0), .val (.int p1), .val (.int p2), .val (.int p3), .val (.int p4), .val (.int p5), .val (.int (0 : Int32)), .val (.ref ob2), .val (.int pA), .val (.int pE), .val (.ref ob11), .unset, .unset, .unset, .unset, .unset, .unset] [])
    refine Runs.back (fun t_ k_ => XS.aload X12.here hx rfl (hb hby at_86) rfl rfl k_) ?_
    show Runs _ _ _ _ T12 (mkF m 88 #[.val (.int p0), .val (.int p1), .val (.int p2), .val (.int p3), .val (.int p4), .val (.int p5), .val (.int (0 : Int32)), .val (.ref ob2), .val (.int pA), .val (.int pE), .val (.ref ob11), .unset, .unset, .unset, .unset, .unset, .unset] [(.ref ob11)])
    refine Runs.back (fun t_ k_ => XS.aload X12.here hx rfl (hb hby at_88) rfl rfl k_) ?_
    show Runs _ _ _ _ T12 (mkF m 90 #[.val (.int p0), .val (.int p1), .val (.int p2), .val (.int p3), .val (.int p4), .val (.int p5), .val (.int (0 : Int32)), .val (.ref ob2), .val (.int pA), .val (.int pE), .val (.ref ob11), .unset, .unset, .unset, .unset, .unset, .unset] [(.ref ob2), (.ref ob11)])
    refine Runs.back (fun t_ k_ => XS.iload X12.here hx rfl (hb hby at_90) rfl k_) ?_
    show Runs _ _ _ _ T12 (mkF m 92 #[.val (.int p0), .val (.int p1), .val (.int p2), .val (.int p3), .val (.int p4), .val (.int p5), .val (.int (0 : Int32)), .val (.ref ob2), .val (.int pA), .val (.int pE), .val (.ref ob11), .unset, .unset, .unset, .unset, .unset, .unset] [(.int pA), (.ref ob2), (.ref ob11)])
    refine Runs.back (fun t_ k_ => XS.iload X12.here hx rfl (hb hby at_92) rfl k_) ?_
    show Runs _ _ _ _ T12 (mkF m 94 #[.val (.int p0), .val (.int p1), .val (.int p2), .val (.int p3), .val (.int p4), .val (.int p5), .val (.int (0 : Int32)), .val (.ref ob2), .val (.int pA), .val (.int pE), .val (.ref ob11), .unset, .unset, .unset, .unset, .unset, .unset] [(.int pE), (.int pA), (.ref ob2), (.ref ob11)])
    obtain ⟨cq13, kq13, q13a, q13b, q13c⟩ := isOf hZ rfl iE12
    obtain ⟨_, _, ⟨T13, L13, k13, n13⟩, -, X13, ⟨Lc13, hQ13, l13, y13, z13⟩, st13⟩ := X12.virtualBack hx (y := (⟨"com/example/strict_distinct/strictdistinct/XmlPosition", "lineEndAt", "([BII)I"⟩ : MethodName)) (z := (⟨"com/example/strict_distinct/strictdistinct/XmlPosition", "lineEndAt", "([BII)I"⟩ : MethodName)) hown (mvT hZ (hw _ (List.mem_of_getElem? (i := 19) rfl))) (mvT hZ (hw _ (List.mem_of_getElem? (i := 20) rfl))) (notFace_of_selects (args := #[]) (mvT hZ (hw _ (List.mem_of_getElem? (i := 22) rfl)))) (mvT hZ (hw _ (List.mem_of_getElem? (i := 22) rfl))) (mvT hZ (hw _ (List.mem_of_getElem? (i := 21) rfl))) (by decide) (backOf (W := 0) (rm4 l Z a0 hw [] ob11 ob2 pA pE (0 : Int32) u kA T12.heap n0 (Z12) iF12 f12_Arr_0 hkA hnA hk4 hA4 hB4) hZ (hw _ (List.mem_of_getElem? (i := 23) rfl)) (hw _ (List.mem_of_getElem? (i := 8) rfl)) (by decide) (by decide)) q13a q13c (g := (mkF m 94 #[.val (.int p0), .val (.int p1), .val (.int p2), .val (.int p3), .val (.int p4), .val (.int p5), .val (.int (0 : Int32)), .val (.ref ob2), .val (.int pA), .val (.int pE), .val (.ref ob11), .unset, .unset, .unset, .unset, .unset, .unset] [(.int pE), (.int pA), (.ref ob2), (.ref ob11)])) rfl (by rw [hml]; rfl) (Steps.refl _) (argsL := [(.ref ob2), (.int pA), (.int pE)]) (rest := []) (lenOf pd0_2 rfl) rfl (by show 2 * 0 + _ ≤ _; exact Nat.le_of_eq rfl) (hb hby at_94) (fun _ _ => ⟨rfl, rfl, (by decide : 2 + 0 ≤ _), (by decide : 8 + 0 ≤ _)⟩)
    dsimp only [Pt.U, Pt.locs, Pt.cells, Pt.slots] at X13 l13 y13 z13 st13 hQ13
    subst l13 y13 z13
    obtain ⟨rfl, N13q, eq13⟩ := hQ13
    have N13 := Fr.app N12 N13q
    refine Runs.trans st13 ?_
    show Runs _ _ _ _ T13 (mkF m 97 #[.val (.int p0), .val (.int p1), .val (.int p2), .val (.int p3), .val (.int p4), .val (.int p5), .val (.int (0 : Int32)), .val (.ref ob2), .val (.int pA), .val (.int pE), .val (.ref ob11), .unset, .unset, .unset, .unset, .unset, .unset] [(.int (leF (0 : Int32) (u kA) (u (kA + 1)) (u (kA + 2)) ((pA + (1 : Int32)) < pE) ((pA + (2 : Int32)) < pE)))])
    refine Runs.back (fun t_ k_ => XS.istore X13.here hx rfl (hb hby at_97) rfl (l' := #[.val (.int p0), .val (.int p1), .val (.int p2), .val (.int p3), .val (.int p4), .val (.int p5), .val (.int (0 : Int32)), .val (.ref ob2), .val (.int pA), .val (.int pE), .val (.ref ob11), .val (.int (leF (0 : Int32) (u kA) (u (kA + 1)) (u (kA + 2)) ((pA + (1 : Int32)) < pE) ((pA + (2 : Int32)) < pE))), .unset, .unset, .unset, .unset, .unset]) rfl k_) ?_
    show Runs _ _ _ _ T13 (mkF m 99 #[.val (.int p0), .val (.int p1), .val (.int p2), .val (.int p3), .val (.int p4), .val (.int p5), .val (.int (0 : Int32)), .val (.ref ob2), .val (.int pA), .val (.int pE), .val (.ref ob11), .val (.int (leF (0 : Int32) (u kA) (u (kA + 1)) (u (kA + 2)) ((pA + (1 : Int32)) < pE) ((pA + (2 : Int32)) < pE))), .unset, .unset, .unset, .unset, .unset] [])
    refine Runs.back (fun t_ k_ => XS.iload X13.here hx rfl (hb hby at_99) rfl k_) ?_
    show Runs _ _ _ _ T13 (mkF m 101 #[.val (.int p0), .val (.int p1), .val (.int p2), .val (.int p3), .val (.int p4), .val (.int p5), .val (.int (0 : Int32)), .val (.ref ob2), .val (.int pA), .val (.int pE), .val (.ref ob11), .val (.int (leF (0 : Int32) (u kA) (u (kA + 1)) (u (kA + 2)) ((pA + (1 : Int32)) < pE) ((pA + (2 : Int32)) < pE))), .unset, .unset, .unset, .unset, .unset] [(.int pE)])
    refine Runs.back (fun t_ k_ => XS.iload X13.here hx rfl (hb hby at_101) rfl k_) ?_
    show Runs _ _ _ _ T13 (mkF m 103 #[.val (.int p0), .val (.int p1), .val (.int p2), .val (.int p3), .val (.int p4), .val (.int p5), .val (.int (0 : Int32)), .val (.ref ob2), .val (.int pA), .val (.int pE), .val (.ref ob11), .val (.int (leF (0 : Int32) (u kA) (u (kA + 1)) (u (kA + 2)) ((pA + (1 : Int32)) < pE) ((pA + (2 : Int32)) < pE))), .unset, .unset, .unset, .unset, .unset] [(.int pA), (.int pE)])
    refine Runs.back (fun t_ k_ => XS.isub X13.here hx rfl (hb hby at_103) rfl k_) ?_
    show Runs _ _ _ _ T13 (mkF m 104 #[.val (.int p0), .val (.int p1), .val (.int p2), .val (.int p3), .val (.int p4), .val (.int p5), .val (.int (0 : Int32)), .val (.ref ob2), .val (.int pA), .val (.int pE), .val (.ref ob11), .val (.int (leF (0 : Int32) (u kA) (u (kA + 1)) (u (kA + 2)) ((pA + (1 : Int32)) < pE) ((pA + (2 : Int32)) < pE))), .unset, .unset, .unset, .unset, .unset] [(.int (pE - pA))])
    refine Runs.back (fun t_ k_ => XS.istore X13.here hx rfl (hb hby at_104) rfl (l' := #[.val (.int p0), .val (.int p1), .val (.int p2), .val (.int p3), .val (.int p4), .val (.int p5), .val (.int (0 : Int32)), .val (.ref ob2), .val (.int pA), .val (.int pE), .val (.ref ob11), .val (.int (leF (0 : Int32) (u kA) (u (kA + 1)) (u (kA + 2)) ((pA + (1 : Int32)) < pE) ((pA + (2 : Int32)) < pE))), .val (.int (pE - pA)), .unset, .unset, .unset, .unset]) rfl k_) ?_
    show Runs _ _ _ _ T13 (mkF m 106 #[.val (.int p0), .val (.int p1), .val (.int p2), .val (.int p3), .val (.int p4), .val (.int p5), .val (.int (0 : Int32)), .val (.ref ob2), .val (.int pA), .val (.int pE), .val (.ref ob11), .val (.int (leF (0 : Int32) (u kA) (u (kA + 1)) (u (kA + 2)) ((pA + (1 : Int32)) < pE) ((pA + (2 : Int32)) < pE))), .val (.int (pE - pA)), .unset, .unset, .unset, .unset] [])
    have nn : (pE - pA).toInt = pE.toInt - pA.toInt := sub32 (by omega) (by omega)
    have q2 : (pE - pA) < (2 : Int32) ↔ ¬ ((pA + (1 : Int32)) < pE) := by rw [lti, lti, nn, a1, show (2 : Int32).toInt = 2 from by decide]; omega
    have q3 : (pE - pA) < (3 : Int32) ↔ ¬ ((pA + (2 : Int32)) < pE) := by rw [lti, lti, nn, a3, show (3 : Int32).toInt = 3 from by decide]; omega
    refine Runs.back (fun t_ k_ => XS.aload X13.here hx rfl (hb hby at_106) rfl rfl k_) ?_
    show Runs _ _ _ _ T13 (mkF m 108 #[.val (.int p0), .val (.int p1), .val (.int p2), .val (.int p3), .val (.int p4), .val (.int p5), .val (.int (0 : Int32)), .val (.ref ob2), .val (.int pA), .val (.int pE), .val (.ref ob11), .val (.int (leF (0 : Int32) (u kA) (u (kA + 1)) (u (kA + 2)) ((pA + (1 : Int32)) < pE) ((pA + (2 : Int32)) < pE))), .val (.int (pE - pA)), .unset, .unset, .unset, .unset] [(.ref ob2)])
    refine Runs.back (fun t_ k_ => XS.iload X13.here hx rfl (hb hby at_108) rfl k_) ?_
    show Runs _ _ _ _ T13 (mkF m 110 #[.val (.int p0), .val (.int p1), .val (.int p2), .val (.int p3), .val (.int p4), .val (.int p5), .val (.int (0 : Int32)), .val (.ref ob2), .val (.int pA), .val (.int pE), .val (.ref ob11), .val (.int (leF (0 : Int32) (u kA) (u (kA + 1)) (u (kA + 2)) ((pA + (1 : Int32)) < pE) ((pA + (2 : Int32)) < pE))), .val (.int (pE - pA)), .unset, .unset, .unset, .unset] [(.int pA), (.ref ob2)])
    obtain ⟨cl14, Ar14, S14, Hs14⟩ := id f12_Arr_0
    have at14 : cl14.slots[(pA).toNatClampNeg]? = some (.int (u kA)) := readO Hs14 hkA (show kA < 4 from hk4) (rfl)
    refine Runs.back (fun t_ k_ => X13.baloadBytes hx (j := pA) (v := (.int (u kA))) (by rw [eq13]; exact Ar14.1) (State.isArrayOf_alike hZ.alike Ar14.2.1) Ar14.2.2 (by rw [S14]; exact (inbO hnA hkA (show kA < 4 from hk4))) at14 (g := (mkF m 110 #[.val (.int p0), .val (.int p1), .val (.int p2), .val (.int p3), .val (.int p4), .val (.int p5), .val (.int (0 : Int32)), .val (.ref ob2), .val (.int pA), .val (.int pE), .val (.ref ob11), .val (.int (leF (0 : Int32) (u kA) (u (kA + 1)) (u (kA + 2)) ((pA + (1 : Int32)) < pE) ((pA + (2 : Int32)) < pE))), .val (.int (pE - pA)), .unset, .unset, .unset, .unset] [(.int pA), (.ref ob2)])) rfl rfl (hb hby at_110) _ k_) ?_
    show Runs _ _ _ _ T13 (mkF m 111 #[.val (.int p0), .val (.int p1), .val (.int p2), .val (.int p3), .val (.int p4), .val (.int p5), .val (.int (0 : Int32)), .val (.ref ob2), .val (.int pA), .val (.int pE), .val (.ref ob11), .val (.int (leF (0 : Int32) (u kA) (u (kA + 1)) (u (kA + 2)) ((pA + (1 : Int32)) < pE) ((pA + (2 : Int32)) < pE))), .val (.int (pE - pA)), .unset, .unset, .unset, .unset] [(.int (u kA))])
    refine Runs.back (fun t_ k_ => XS.sipush X13.here hx rfl (hb hby at_111) k_) ?_
    show Runs _ _ _ _ T13 (mkF m 114 #[.val (.int p0), .val (.int p1), .val (.int p2), .val (.int p3), .val (.int p4), .val (.int p5), .val (.int (0 : Int32)), .val (.ref ob2), .val (.int pA), .val (.int pE), .val (.ref ob11), .val (.int (leF (0 : Int32) (u kA) (u (kA + 1)) (u (kA + 2)) ((pA + (1 : Int32)) < pE) ((pA + (2 : Int32)) < pE))), .val (.int (pE - pA)), .unset, .unset, .unset, .unset] [(.int (255 : Int32)), (.int (u kA))])
    refine Runs.back (fun t_ k_ => XS.iand X13.here hx rfl (hb hby at_114) rfl k_) ?_
    show Runs _ _ _ _ T13 (mkF m 115 #[.val (.int p0), .val (.int p1), .val (.int p2), .val (.int p3), .val (.int p4), .val (.int p5), .val (.int (0 : Int32)), .val (.ref ob2), .val (.int pA), .val (.int pE), .val (.ref ob11), .val (.int (leF (0 : Int32) (u kA) (u (kA + 1)) (u (kA + 2)) ((pA + (1 : Int32)) < pE) ((pA + (2 : Int32)) < pE))), .val (.int (pE - pA)), .unset, .unset, .unset, .unset] [(.int ((u kA) &&& (255 : Int32)))])
    refine Runs.back (fun t_ k_ => XS.istore X13.here hx rfl (hb hby at_115) rfl (l' := #[.val (.int p0), .val (.int p1), .val (.int p2), .val (.int p3), .val (.int p4), .val (.int p5), .val (.int (0 : Int32)), .val (.ref ob2), .val (.int pA), .val (.int pE), .val (.ref ob11), .val (.int (leF (0 : Int32) (u kA) (u (kA + 1)) (u (kA + 2)) ((pA + (1 : Int32)) < pE) ((pA + (2 : Int32)) < pE))), .val (.int (pE - pA)), .val (.int ((u kA) &&& (255 : Int32))), .unset, .unset, .unset]) rfl k_) ?_
    show Runs _ _ _ _ T13 (mkF m 117 #[.val (.int p0), .val (.int p1), .val (.int p2), .val (.int p3), .val (.int p4), .val (.int p5), .val (.int (0 : Int32)), .val (.ref ob2), .val (.int pA), .val (.int pE), .val (.ref ob11), .val (.int (leF (0 : Int32) (u kA) (u (kA + 1)) (u (kA + 2)) ((pA + (1 : Int32)) < pE) ((pA + (2 : Int32)) < pE))), .val (.int (pE - pA)), .val (.int ((u kA) &&& (255 : Int32))), .unset, .unset, .unset] [])
    refine Runs.join (α := Int32 × Int32) (P := fun (⟨k1, k2⟩ : Int32 × Int32) => k1 = (if (pA + (1 : Int32)) < pE then (u (kA + 1) &&& (255 : Int32)) else (-1 : Int32)) ∧ k2 = (if (pA + (2 : Int32)) < pE then (u (kA + 2) &&& (255 : Int32)) else (-1 : Int32))) (F := fun (⟨k1, k2⟩ : Int32 × Int32) => (mkF m 163 #[.val (.int p0), .val (.int p1), .val (.int p2), .val (.int p3), .val (.int p4), .val (.int p5), .val (.int (0 : Int32)), .val (.ref ob2), .val (.int pA), .val (.int pE), .val (.ref ob11), .val (.int (leF (0 : Int32) (u kA) (u (kA + 1)) (u (kA + 2)) ((pA + (1 : Int32)) < pE) ((pA + (2 : Int32)) < pE))), .val (.int (pE - pA)), .val (.int ((u kA) &&& (255 : Int32))), .val (.int k1), .val (.int k2), .unset] [])) ?_ ?_
    · rintro ⟨k1, k2⟩ hk12
      show Runs _ _ _ _ T13 (mkF m 163 #[.val (.int p0), .val (.int p1), .val (.int p2), .val (.int p3), .val (.int p4), .val (.int p5), .val (.int (0 : Int32)), .val (.ref ob2), .val (.int pA), .val (.int pE), .val (.ref ob11), .val (.int (leF (0 : Int32) (u kA) (u (kA + 1)) (u (kA + 2)) ((pA + (1 : Int32)) < pE) ((pA + (2 : Int32)) < pE))), .val (.int (pE - pA)), .val (.int ((u kA) &&& (255 : Int32))), .val (.int k1), .val (.int k2), .unset] [])
      refine Runs.back (fun t_ k_ => XS.iconst X13.here hx rfl (hb hby at_163) k_) ?_
      show Runs _ _ _ _ T13 (mkF m 164 #[.val (.int p0), .val (.int p1), .val (.int p2), .val (.int p3), .val (.int p4), .val (.int p5), .val (.int (0 : Int32)), .val (.ref ob2), .val (.int pA), .val (.int pE), .val (.ref ob11), .val (.int (leF (0 : Int32) (u kA) (u (kA + 1)) (u (kA + 2)) ((pA + (1 : Int32)) < pE) ((pA + (2 : Int32)) < pE))), .val (.int (pE - pA)), .val (.int ((u kA) &&& (255 : Int32))), .val (.int k1), .val (.int k2), .unset] [(.int (0 : Int32))])
      refine Runs.back (fun t_ k_ => XS.istore X13.here hx rfl (hb hby at_164) rfl (l' := #[.val (.int p0), .val (.int p1), .val (.int p2), .val (.int p3), .val (.int p4), .val (.int p5), .val (.int (0 : Int32)), .val (.ref ob2), .val (.int pA), .val (.int pE), .val (.ref ob11), .val (.int (leF (0 : Int32) (u kA) (u (kA + 1)) (u (kA + 2)) ((pA + (1 : Int32)) < pE) ((pA + (2 : Int32)) < pE))), .val (.int (pE - pA)), .val (.int ((u kA) &&& (255 : Int32))), .val (.int k1), .val (.int k2), .val (.int (0 : Int32))]) rfl k_) ?_
      show Runs _ _ _ _ T13 (mkF m 166 #[.val (.int p0), .val (.int p1), .val (.int p2), .val (.int p3), .val (.int p4), .val (.int p5), .val (.int (0 : Int32)), .val (.ref ob2), .val (.int pA), .val (.int pE), .val (.ref ob11), .val (.int (leF (0 : Int32) (u kA) (u (kA + 1)) (u (kA + 2)) ((pA + (1 : Int32)) < pE) ((pA + (2 : Int32)) < pE))), .val (.int (pE - pA)), .val (.int ((u kA) &&& (255 : Int32))), .val (.int k1), .val (.int k2), .val (.int (0 : Int32))] [])
      refine Runs.back (fun t_ k_ => XS.iload X13.here hx rfl (hb hby at_166) rfl k_) ?_
      show Runs _ _ _ _ T13 (mkF m 168 #[.val (.int p0), .val (.int p1), .val (.int p2), .val (.int p3), .val (.int p4), .val (.int p5), .val (.int (0 : Int32)), .val (.ref ob2), .val (.int pA), .val (.int pE), .val (.ref ob11), .val (.int (leF (0 : Int32) (u kA) (u (kA + 1)) (u (kA + 2)) ((pA + (1 : Int32)) < pE) ((pA + (2 : Int32)) < pE))), .val (.int (pE - pA)), .val (.int ((u kA) &&& (255 : Int32))), .val (.int k1), .val (.int k2), .val (.int (0 : Int32))] [(.int ((u kA) &&& (255 : Int32)))])
      refine Runs.back (fun t_ k_ => XS.bipush X13.here hx rfl (hb hby at_168) k_) ?_
      show Runs _ _ _ _ T13 (mkF m 170 #[.val (.int p0), .val (.int p1), .val (.int p2), .val (.int p3), .val (.int p4), .val (.int p5), .val (.int (0 : Int32)), .val (.ref ob2), .val (.int pA), .val (.int pE), .val (.ref ob11), .val (.int (leF (0 : Int32) (u kA) (u (kA + 1)) (u (kA + 2)) ((pA + (1 : Int32)) < pE) ((pA + (2 : Int32)) < pE))), .val (.int (pE - pA)), .val (.int ((u kA) &&& (255 : Int32))), .val (.int k1), .val (.int k2), .val (.int (0 : Int32))] [(.int (10 : Int32)), (.int ((u kA) &&& (255 : Int32)))])
      by_cases c170_15 : ((u kA) &&& (255 : Int32)) = (10 : Int32)
      · refine Runs.back (fun t_ k_ => XS.icmpYes X13.here hx rfl (pc0 := 170) (pc' := 180) rfl (hb hby at_170) rfl (teq c170_15).1 (by decide) (by decide) k_) ?_
        show Runs _ _ _ _ T13 (mkF m 180 #[.val (.int p0), .val (.int p1), .val (.int p2), .val (.int p3), .val (.int p4), .val (.int p5), .val (.int (0 : Int32)), .val (.ref ob2), .val (.int pA), .val (.int pE), .val (.ref ob11), .val (.int (leF (0 : Int32) (u kA) (u (kA + 1)) (u (kA + 2)) ((pA + (1 : Int32)) < pE) ((pA + (2 : Int32)) < pE))), .val (.int (pE - pA)), .val (.int ((u kA) &&& (255 : Int32))), .val (.int k1), .val (.int k2), .val (.int (0 : Int32))] [])
        refine Runs.back (fun t_ k_ => XS.iconst X13.here hx rfl (hb hby at_180) k_) ?_
        show Runs _ _ _ _ T13 (mkF m 181 #[.val (.int p0), .val (.int p1), .val (.int p2), .val (.int p3), .val (.int p4), .val (.int p5), .val (.int (0 : Int32)), .val (.ref ob2), .val (.int pA), .val (.int pE), .val (.ref ob11), .val (.int (leF (0 : Int32) (u kA) (u (kA + 1)) (u (kA + 2)) ((pA + (1 : Int32)) < pE) ((pA + (2 : Int32)) < pE))), .val (.int (pE - pA)), .val (.int ((u kA) &&& (255 : Int32))), .val (.int k1), .val (.int k2), .val (.int (0 : Int32))] [(.int (1 : Int32))])
        refine Runs.back (fun t_ k_ => XS.istore X13.here hx rfl (hb hby at_181) rfl (l' := #[.val (.int p0), .val (.int p1), .val (.int p2), .val (.int p3), .val (.int p4), .val (.int p5), .val (.int (0 : Int32)), .val (.ref ob2), .val (.int pA), .val (.int pE), .val (.ref ob11), .val (.int (leF (0 : Int32) (u kA) (u (kA + 1)) (u (kA + 2)) ((pA + (1 : Int32)) < pE) ((pA + (2 : Int32)) < pE))), .val (.int (pE - pA)), .val (.int ((u kA) &&& (255 : Int32))), .val (.int k1), .val (.int k2), .val (.int (1 : Int32))]) rfl k_) ?_
        show Runs _ _ _ _ T13 (mkF m 183 #[.val (.int p0), .val (.int p1), .val (.int p2), .val (.int p3), .val (.int p4), .val (.int p5), .val (.int (0 : Int32)), .val (.ref ob2), .val (.int pA), .val (.int pE), .val (.ref ob11), .val (.int (leF (0 : Int32) (u kA) (u (kA + 1)) (u (kA + 2)) ((pA + (1 : Int32)) < pE) ((pA + (2 : Int32)) < pE))), .val (.int (pE - pA)), .val (.int ((u kA) &&& (255 : Int32))), .val (.int k1), .val (.int k2), .val (.int (1 : Int32))] [])
        refine Runs.back (fun t_ k_ => XS.goto X13.here hx rfl (pc0 := 183) (pc' := 245) rfl (hb hby at_183) (by decide) (by decide) k_) ?_
        show Runs _ _ _ _ T13 (mkF m 245 #[.val (.int p0), .val (.int p1), .val (.int p2), .val (.int p3), .val (.int p4), .val (.int p5), .val (.int (0 : Int32)), .val (.ref ob2), .val (.int pA), .val (.int pE), .val (.ref ob11), .val (.int (leF (0 : Int32) (u kA) (u (kA + 1)) (u (kA + 2)) ((pA + (1 : Int32)) < pE) ((pA + (2 : Int32)) < pE))), .val (.int (pE - pA)), .val (.int ((u kA) &&& (255 : Int32))), .val (.int k1), .val (.int k2), .val (.int (1 : Int32))] [])
        refine Runs.back (fun t_ k_ => XS.iload X13.here hx rfl (hb hby at_245) rfl k_) ?_
        show Runs _ _ _ _ T13 (mkF m 247 #[.val (.int p0), .val (.int p1), .val (.int p2), .val (.int p3), .val (.int p4), .val (.int p5), .val (.int (0 : Int32)), .val (.ref ob2), .val (.int pA), .val (.int pE), .val (.ref ob11), .val (.int (leF (0 : Int32) (u kA) (u (kA + 1)) (u (kA + 2)) ((pA + (1 : Int32)) < pE) ((pA + (2 : Int32)) < pE))), .val (.int (pE - pA)), .val (.int ((u kA) &&& (255 : Int32))), .val (.int k1), .val (.int k2), .val (.int (1 : Int32))] [(.int (leF (0 : Int32) (u kA) (u (kA + 1)) (u (kA + 2)) ((pA + (1 : Int32)) < pE) ((pA + (2 : Int32)) < pE)))])
        refine Runs.back (fun t_ k_ => XS.iload X13.here hx rfl (hb hby at_247) rfl k_) ?_
        show Runs _ _ _ _ T13 (mkF m 249 #[.val (.int p0), .val (.int p1), .val (.int p2), .val (.int p3), .val (.int p4), .val (.int p5), .val (.int (0 : Int32)), .val (.ref ob2), .val (.int pA), .val (.int pE), .val (.ref ob11), .val (.int (leF (0 : Int32) (u kA) (u (kA + 1)) (u (kA + 2)) ((pA + (1 : Int32)) < pE) ((pA + (2 : Int32)) < pE))), .val (.int (pE - pA)), .val (.int ((u kA) &&& (255 : Int32))), .val (.int k1), .val (.int k2), .val (.int (1 : Int32))] [(.int (1 : Int32)), (.int (leF (0 : Int32) (u kA) (u (kA + 1)) (u (kA + 2)) ((pA + (1 : Int32)) < pE) ((pA + (2 : Int32)) < pE)))])
        refine Runs.back (fun t_ k_ => XS.icmpNo X13.here hx rfl (hb hby at_249) rfl (teq (show (leF (0 : Int32) (u kA) (u (kA + 1)) (u (kA + 2)) ((pA + (1 : Int32)) < pE) ((pA + (2 : Int32)) < pE)) = (1 : Int32) from ((le_law (fl := (0 : Int32)) (hub kA) (hub (kA + 1)) (hub (kA + 2)) hBA hk12.1 hk12.2).trans (by first | rfl | simp +decide only [exF, exR, if_pos c170_15, if_true, if_false, ↓reduceIte])))).2 k_) ?_
        show Runs _ _ _ _ T13 (mkF m 252 #[.val (.int p0), .val (.int p1), .val (.int p2), .val (.int p3), .val (.int p4), .val (.int p5), .val (.int (0 : Int32)), .val (.ref ob2), .val (.int pA), .val (.int pE), .val (.ref ob11), .val (.int (leF (0 : Int32) (u kA) (u (kA + 1)) (u (kA + 2)) ((pA + (1 : Int32)) < pE) ((pA + (2 : Int32)) < pE))), .val (.int (pE - pA)), .val (.int ((u kA) &&& (255 : Int32))), .val (.int k1), .val (.int k2), .val (.int (1 : Int32))] [])
        refine Runs.back (fun t_ k_ => XS.iconst X13.here hx rfl (hb hby at_252) k_) ?_
        show Runs _ _ _ _ T13 (mkF m 253 #[.val (.int p0), .val (.int p1), .val (.int p2), .val (.int p3), .val (.int p4), .val (.int p5), .val (.int (0 : Int32)), .val (.ref ob2), .val (.int pA), .val (.int pE), .val (.ref ob11), .val (.int (leF (0 : Int32) (u kA) (u (kA + 1)) (u (kA + 2)) ((pA + (1 : Int32)) < pE) ((pA + (2 : Int32)) < pE))), .val (.int (pE - pA)), .val (.int ((u kA) &&& (255 : Int32))), .val (.int k1), .val (.int k2), .val (.int (1 : Int32))] [(.int (1 : Int32))])
        refine Runs.back (fun t_ k_ => XS.goto X13.here hx rfl (pc0 := 253) (pc' := 257) rfl (hb hby at_253) (by decide) (by decide) k_) ?_
        show Runs _ _ _ _ T13 (mkF m 257 #[.val (.int p0), .val (.int p1), .val (.int p2), .val (.int p3), .val (.int p4), .val (.int p5), .val (.int (0 : Int32)), .val (.ref ob2), .val (.int pA), .val (.int pE), .val (.ref ob11), .val (.int (leF (0 : Int32) (u kA) (u (kA + 1)) (u (kA + 2)) ((pA + (1 : Int32)) < pE) ((pA + (2 : Int32)) < pE))), .val (.int (pE - pA)), .val (.int ((u kA) &&& (255 : Int32))), .val (.int k1), .val (.int k2), .val (.int (1 : Int32))] [(.int (1 : Int32))])
        obtain ⟨fs, hr, hrun, hended, hW, hsame⟩ := X13.leave (v := some (.int (1 : Int32))) (fun h => by rw [Bd.returns] at h; cases h)
        exact ⟨_, _, (retN X13 hx (t := .boolean) Bd.returns (by simp) (hb hby at_257) hr), hrun, hended, _, _, rfl, ⟨rfl, N13⟩, ⟨_, rfl⟩, hW, hsame.mono (by decide) (by decide)⟩
      · refine Runs.back (fun t_ k_ => XS.icmpNo X13.here hx rfl (hb hby at_170) rfl (feq c170_15).1 k_) ?_
        show Runs _ _ _ _ T13 (mkF m 173 #[.val (.int p0), .val (.int p1), .val (.int p2), .val (.int p3), .val (.int p4), .val (.int p5), .val (.int (0 : Int32)), .val (.ref ob2), .val (.int pA), .val (.int pE), .val (.ref ob11), .val (.int (leF (0 : Int32) (u kA) (u (kA + 1)) (u (kA + 2)) ((pA + (1 : Int32)) < pE) ((pA + (2 : Int32)) < pE))), .val (.int (pE - pA)), .val (.int ((u kA) &&& (255 : Int32))), .val (.int k1), .val (.int k2), .val (.int (0 : Int32))] [])
        refine Runs.back (fun t_ k_ => XS.iload X13.here hx rfl (hb hby at_173) rfl k_) ?_
        show Runs _ _ _ _ T13 (mkF m 175 #[.val (.int p0), .val (.int p1), .val (.int p2), .val (.int p3), .val (.int p4), .val (.int p5), .val (.int (0 : Int32)), .val (.ref ob2), .val (.int pA), .val (.int pE), .val (.ref ob11), .val (.int (leF (0 : Int32) (u kA) (u (kA + 1)) (u (kA + 2)) ((pA + (1 : Int32)) < pE) ((pA + (2 : Int32)) < pE))), .val (.int (pE - pA)), .val (.int ((u kA) &&& (255 : Int32))), .val (.int k1), .val (.int k2), .val (.int (0 : Int32))] [(.int ((u kA) &&& (255 : Int32)))])
        refine Runs.back (fun t_ k_ => XS.bipush X13.here hx rfl (hb hby at_175) k_) ?_
        show Runs _ _ _ _ T13 (mkF m 177 #[.val (.int p0), .val (.int p1), .val (.int p2), .val (.int p3), .val (.int p4), .val (.int p5), .val (.int (0 : Int32)), .val (.ref ob2), .val (.int pA), .val (.int pE), .val (.ref ob11), .val (.int (leF (0 : Int32) (u kA) (u (kA + 1)) (u (kA + 2)) ((pA + (1 : Int32)) < pE) ((pA + (2 : Int32)) < pE))), .val (.int (pE - pA)), .val (.int ((u kA) &&& (255 : Int32))), .val (.int k1), .val (.int k2), .val (.int (0 : Int32))] [(.int (13 : Int32)), (.int ((u kA) &&& (255 : Int32)))])
        by_cases c177_16 : ((u kA) &&& (255 : Int32)) = (13 : Int32)
        · refine Runs.back (fun t_ k_ => XS.icmpNo X13.here hx rfl (hb hby at_177) rfl (teq c177_16).2 k_) ?_
          show Runs _ _ _ _ T13 (mkF m 180 #[.val (.int p0), .val (.int p1), .val (.int p2), .val (.int p3), .val (.int p4), .val (.int p5), .val (.int (0 : Int32)), .val (.ref ob2), .val (.int pA), .val (.int pE), .val (.ref ob11), .val (.int (leF (0 : Int32) (u kA) (u (kA + 1)) (u (kA + 2)) ((pA + (1 : Int32)) < pE) ((pA + (2 : Int32)) < pE))), .val (.int (pE - pA)), .val (.int ((u kA) &&& (255 : Int32))), .val (.int k1), .val (.int k2), .val (.int (0 : Int32))] [])
          refine Runs.back (fun t_ k_ => XS.iconst X13.here hx rfl (hb hby at_180) k_) ?_
          show Runs _ _ _ _ T13 (mkF m 181 #[.val (.int p0), .val (.int p1), .val (.int p2), .val (.int p3), .val (.int p4), .val (.int p5), .val (.int (0 : Int32)), .val (.ref ob2), .val (.int pA), .val (.int pE), .val (.ref ob11), .val (.int (leF (0 : Int32) (u kA) (u (kA + 1)) (u (kA + 2)) ((pA + (1 : Int32)) < pE) ((pA + (2 : Int32)) < pE))), .val (.int (pE - pA)), .val (.int ((u kA) &&& (255 : Int32))), .val (.int k1), .val (.int k2), .val (.int (0 : Int32))] [(.int (1 : Int32))])
          refine Runs.back (fun t_ k_ => XS.istore X13.here hx rfl (hb hby at_181) rfl (l' := #[.val (.int p0), .val (.int p1), .val (.int p2), .val (.int p3), .val (.int p4), .val (.int p5), .val (.int (0 : Int32)), .val (.ref ob2), .val (.int pA), .val (.int pE), .val (.ref ob11), .val (.int (leF (0 : Int32) (u kA) (u (kA + 1)) (u (kA + 2)) ((pA + (1 : Int32)) < pE) ((pA + (2 : Int32)) < pE))), .val (.int (pE - pA)), .val (.int ((u kA) &&& (255 : Int32))), .val (.int k1), .val (.int k2), .val (.int (1 : Int32))]) rfl k_) ?_
          show Runs _ _ _ _ T13 (mkF m 183 #[.val (.int p0), .val (.int p1), .val (.int p2), .val (.int p3), .val (.int p4), .val (.int p5), .val (.int (0 : Int32)), .val (.ref ob2), .val (.int pA), .val (.int pE), .val (.ref ob11), .val (.int (leF (0 : Int32) (u kA) (u (kA + 1)) (u (kA + 2)) ((pA + (1 : Int32)) < pE) ((pA + (2 : Int32)) < pE))), .val (.int (pE - pA)), .val (.int ((u kA) &&& (255 : Int32))), .val (.int k1), .val (.int k2), .val (.int (1 : Int32))] [])
          refine Runs.back (fun t_ k_ => XS.goto X13.here hx rfl (pc0 := 183) (pc' := 245) rfl (hb hby at_183) (by decide) (by decide) k_) ?_
          show Runs _ _ _ _ T13 (mkF m 245 #[.val (.int p0), .val (.int p1), .val (.int p2), .val (.int p3), .val (.int p4), .val (.int p5), .val (.int (0 : Int32)), .val (.ref ob2), .val (.int pA), .val (.int pE), .val (.ref ob11), .val (.int (leF (0 : Int32) (u kA) (u (kA + 1)) (u (kA + 2)) ((pA + (1 : Int32)) < pE) ((pA + (2 : Int32)) < pE))), .val (.int (pE - pA)), .val (.int ((u kA) &&& (255 : Int32))), .val (.int k1), .val (.int k2), .val (.int (1 : Int32))] [])
          refine Runs.back (fun t_ k_ => XS.iload X13.here hx rfl (hb hby at_245) rfl k_) ?_
          show Runs _ _ _ _ T13 (mkF m 247 #[.val (.int p0), .val (.int p1), .val (.int p2), .val (.int p3), .val (.int p4), .val (.int p5), .val (.int (0 : Int32)), .val (.ref ob2), .val (.int pA), .val (.int pE), .val (.ref ob11), .val (.int (leF (0 : Int32) (u kA) (u (kA + 1)) (u (kA + 2)) ((pA + (1 : Int32)) < pE) ((pA + (2 : Int32)) < pE))), .val (.int (pE - pA)), .val (.int ((u kA) &&& (255 : Int32))), .val (.int k1), .val (.int k2), .val (.int (1 : Int32))] [(.int (leF (0 : Int32) (u kA) (u (kA + 1)) (u (kA + 2)) ((pA + (1 : Int32)) < pE) ((pA + (2 : Int32)) < pE)))])
          refine Runs.back (fun t_ k_ => XS.iload X13.here hx rfl (hb hby at_247) rfl k_) ?_
          show Runs _ _ _ _ T13 (mkF m 249 #[.val (.int p0), .val (.int p1), .val (.int p2), .val (.int p3), .val (.int p4), .val (.int p5), .val (.int (0 : Int32)), .val (.ref ob2), .val (.int pA), .val (.int pE), .val (.ref ob11), .val (.int (leF (0 : Int32) (u kA) (u (kA + 1)) (u (kA + 2)) ((pA + (1 : Int32)) < pE) ((pA + (2 : Int32)) < pE))), .val (.int (pE - pA)), .val (.int ((u kA) &&& (255 : Int32))), .val (.int k1), .val (.int k2), .val (.int (1 : Int32))] [(.int (1 : Int32)), (.int (leF (0 : Int32) (u kA) (u (kA + 1)) (u (kA + 2)) ((pA + (1 : Int32)) < pE) ((pA + (2 : Int32)) < pE)))])
          refine Runs.back (fun t_ k_ => XS.icmpNo X13.here hx rfl (hb hby at_249) rfl (teq (show (leF (0 : Int32) (u kA) (u (kA + 1)) (u (kA + 2)) ((pA + (1 : Int32)) < pE) ((pA + (2 : Int32)) < pE)) = (1 : Int32) from ((le_law (fl := (0 : Int32)) (hub kA) (hub (kA + 1)) (hub (kA + 2)) hBA hk12.1 hk12.2).trans (by first | rfl | simp +decide only [exF, exR, if_neg c170_15, if_pos c177_16, if_true, if_false, ↓reduceIte])))).2 k_) ?_
          show Runs _ _ _ _ T13 (mkF m 252 #[.val (.int p0), .val (.int p1), .val (.int p2), .val (.int p3), .val (.int p4), .val (.int p5), .val (.int (0 : Int32)), .val (.ref ob2), .val (.int pA), .val (.int pE), .val (.ref ob11), .val (.int (leF (0 : Int32) (u kA) (u (kA + 1)) (u (kA + 2)) ((pA + (1 : Int32)) < pE) ((pA + (2 : Int32)) < pE))), .val (.int (pE - pA)), .val (.int ((u kA) &&& (255 : Int32))), .val (.int k1), .val (.int k2), .val (.int (1 : Int32))] [])
          refine Runs.back (fun t_ k_ => XS.iconst X13.here hx rfl (hb hby at_252) k_) ?_
          show Runs _ _ _ _ T13 (mkF m 253 #[.val (.int p0), .val (.int p1), .val (.int p2), .val (.int p3), .val (.int p4), .val (.int p5), .val (.int (0 : Int32)), .val (.ref ob2), .val (.int pA), .val (.int pE), .val (.ref ob11), .val (.int (leF (0 : Int32) (u kA) (u (kA + 1)) (u (kA + 2)) ((pA + (1 : Int32)) < pE) ((pA + (2 : Int32)) < pE))), .val (.int (pE - pA)), .val (.int ((u kA) &&& (255 : Int32))), .val (.int k1), .val (.int k2), .val (.int (1 : Int32))] [(.int (1 : Int32))])
          refine Runs.back (fun t_ k_ => XS.goto X13.here hx rfl (pc0 := 253) (pc' := 257) rfl (hb hby at_253) (by decide) (by decide) k_) ?_
          show Runs _ _ _ _ T13 (mkF m 257 #[.val (.int p0), .val (.int p1), .val (.int p2), .val (.int p3), .val (.int p4), .val (.int p5), .val (.int (0 : Int32)), .val (.ref ob2), .val (.int pA), .val (.int pE), .val (.ref ob11), .val (.int (leF (0 : Int32) (u kA) (u (kA + 1)) (u (kA + 2)) ((pA + (1 : Int32)) < pE) ((pA + (2 : Int32)) < pE))), .val (.int (pE - pA)), .val (.int ((u kA) &&& (255 : Int32))), .val (.int k1), .val (.int k2), .val (.int (1 : Int32))] [(.int (1 : Int32))])
          obtain ⟨fs, hr, hrun, hended, hW, hsame⟩ := X13.leave (v := some (.int (1 : Int32))) (fun h => by rw [Bd.returns] at h; cases h)
          exact ⟨_, _, (retN X13 hx (t := .boolean) Bd.returns (by simp) (hb hby at_257) hr), hrun, hended, _, _, rfl, ⟨rfl, N13⟩, ⟨_, rfl⟩, hW, hsame.mono (by decide) (by decide)⟩
        · refine Runs.back (fun t_ k_ => XS.icmpYes X13.here hx rfl (pc0 := 177) (pc' := 186) rfl (hb hby at_177) rfl (feq c177_16).2 (by decide) (by decide) k_) ?_
          show Runs _ _ _ _ T13 (mkF m 186 #[.val (.int p0), .val (.int p1), .val (.int p2), .val (.int p3), .val (.int p4), .val (.int p5), .val (.int (0 : Int32)), .val (.ref ob2), .val (.int pA), .val (.int pE), .val (.ref ob11), .val (.int (leF (0 : Int32) (u kA) (u (kA + 1)) (u (kA + 2)) ((pA + (1 : Int32)) < pE) ((pA + (2 : Int32)) < pE))), .val (.int (pE - pA)), .val (.int ((u kA) &&& (255 : Int32))), .val (.int k1), .val (.int k2), .val (.int (0 : Int32))] [])
          refine Runs.back (fun t_ k_ => XS.iload X13.here hx rfl (hb hby at_186) rfl k_) ?_
          show Runs _ _ _ _ T13 (mkF m 188 #[.val (.int p0), .val (.int p1), .val (.int p2), .val (.int p3), .val (.int p4), .val (.int p5), .val (.int (0 : Int32)), .val (.ref ob2), .val (.int pA), .val (.int pE), .val (.ref ob11), .val (.int (leF (0 : Int32) (u kA) (u (kA + 1)) (u (kA + 2)) ((pA + (1 : Int32)) < pE) ((pA + (2 : Int32)) < pE))), .val (.int (pE - pA)), .val (.int ((u kA) &&& (255 : Int32))), .val (.int k1), .val (.int k2), .val (.int (0 : Int32))] [(.int (0 : Int32))])
          refine Runs.back (fun t_ k_ => XS.ifYes X13.here hx rfl (pc0 := 188) (pc' := 213) rfl (hb hby at_188) rfl ((if0 _ _).trans (teq (show (0 : Int32) = (0 : Int32) from rfl)).1) (by decide) (by decide) k_) ?_
          show Runs _ _ _ _ T13 (mkF m 213 #[.val (.int p0), .val (.int p1), .val (.int p2), .val (.int p3), .val (.int p4), .val (.int p5), .val (.int (0 : Int32)), .val (.ref ob2), .val (.int pA), .val (.int pE), .val (.ref ob11), .val (.int (leF (0 : Int32) (u kA) (u (kA + 1)) (u (kA + 2)) ((pA + (1 : Int32)) < pE) ((pA + (2 : Int32)) < pE))), .val (.int (pE - pA)), .val (.int ((u kA) &&& (255 : Int32))), .val (.int k1), .val (.int k2), .val (.int (0 : Int32))] [])
          refine Runs.back (fun t_ k_ => XS.iload X13.here hx rfl (hb hby at_213) rfl k_) ?_
          show Runs _ _ _ _ T13 (mkF m 215 #[.val (.int p0), .val (.int p1), .val (.int p2), .val (.int p3), .val (.int p4), .val (.int p5), .val (.int (0 : Int32)), .val (.ref ob2), .val (.int pA), .val (.int pE), .val (.ref ob11), .val (.int (leF (0 : Int32) (u kA) (u (kA + 1)) (u (kA + 2)) ((pA + (1 : Int32)) < pE) ((pA + (2 : Int32)) < pE))), .val (.int (pE - pA)), .val (.int ((u kA) &&& (255 : Int32))), .val (.int k1), .val (.int k2), .val (.int (0 : Int32))] [(.int (0 : Int32))])
          refine Runs.back (fun t_ k_ => XS.ifYes X13.here hx rfl (pc0 := 215) (pc' := 245) rfl (hb hby at_215) rfl ((if0 _ _).trans (teq (show (0 : Int32) = (0 : Int32) from rfl)).1) (by decide) (by decide) k_) ?_
          show Runs _ _ _ _ T13 (mkF m 245 #[.val (.int p0), .val (.int p1), .val (.int p2), .val (.int p3), .val (.int p4), .val (.int p5), .val (.int (0 : Int32)), .val (.ref ob2), .val (.int pA), .val (.int pE), .val (.ref ob11), .val (.int (leF (0 : Int32) (u kA) (u (kA + 1)) (u (kA + 2)) ((pA + (1 : Int32)) < pE) ((pA + (2 : Int32)) < pE))), .val (.int (pE - pA)), .val (.int ((u kA) &&& (255 : Int32))), .val (.int k1), .val (.int k2), .val (.int (0 : Int32))] [])
          refine Runs.back (fun t_ k_ => XS.iload X13.here hx rfl (hb hby at_245) rfl k_) ?_
          show Runs _ _ _ _ T13 (mkF m 247 #[.val (.int p0), .val (.int p1), .val (.int p2), .val (.int p3), .val (.int p4), .val (.int p5), .val (.int (0 : Int32)), .val (.ref ob2), .val (.int pA), .val (.int pE), .val (.ref ob11), .val (.int (leF (0 : Int32) (u kA) (u (kA + 1)) (u (kA + 2)) ((pA + (1 : Int32)) < pE) ((pA + (2 : Int32)) < pE))), .val (.int (pE - pA)), .val (.int ((u kA) &&& (255 : Int32))), .val (.int k1), .val (.int k2), .val (.int (0 : Int32))] [(.int (leF (0 : Int32) (u kA) (u (kA + 1)) (u (kA + 2)) ((pA + (1 : Int32)) < pE) ((pA + (2 : Int32)) < pE)))])
          refine Runs.back (fun t_ k_ => XS.iload X13.here hx rfl (hb hby at_247) rfl k_) ?_
          show Runs _ _ _ _ T13 (mkF m 249 #[.val (.int p0), .val (.int p1), .val (.int p2), .val (.int p3), .val (.int p4), .val (.int p5), .val (.int (0 : Int32)), .val (.ref ob2), .val (.int pA), .val (.int pE), .val (.ref ob11), .val (.int (leF (0 : Int32) (u kA) (u (kA + 1)) (u (kA + 2)) ((pA + (1 : Int32)) < pE) ((pA + (2 : Int32)) < pE))), .val (.int (pE - pA)), .val (.int ((u kA) &&& (255 : Int32))), .val (.int k1), .val (.int k2), .val (.int (0 : Int32))] [(.int (0 : Int32)), (.int (leF (0 : Int32) (u kA) (u (kA + 1)) (u (kA + 2)) ((pA + (1 : Int32)) < pE) ((pA + (2 : Int32)) < pE)))])
          refine Runs.back (fun t_ k_ => XS.icmpNo X13.here hx rfl (hb hby at_249) rfl (teq (show (leF (0 : Int32) (u kA) (u (kA + 1)) (u (kA + 2)) ((pA + (1 : Int32)) < pE) ((pA + (2 : Int32)) < pE)) = (0 : Int32) from ((le_law (fl := (0 : Int32)) (hub kA) (hub (kA + 1)) (hub (kA + 2)) hBA hk12.1 hk12.2).trans (by first | rfl | simp +decide only [exF, exR, if_neg c170_15, if_neg c177_16, if_true, if_false, ↓reduceIte])))).2 k_) ?_
          show Runs _ _ _ _ T13 (mkF m 252 #[.val (.int p0), .val (.int p1), .val (.int p2), .val (.int p3), .val (.int p4), .val (.int p5), .val (.int (0 : Int32)), .val (.ref ob2), .val (.int pA), .val (.int pE), .val (.ref ob11), .val (.int (leF (0 : Int32) (u kA) (u (kA + 1)) (u (kA + 2)) ((pA + (1 : Int32)) < pE) ((pA + (2 : Int32)) < pE))), .val (.int (pE - pA)), .val (.int ((u kA) &&& (255 : Int32))), .val (.int k1), .val (.int k2), .val (.int (0 : Int32))] [])
          refine Runs.back (fun t_ k_ => XS.iconst X13.here hx rfl (hb hby at_252) k_) ?_
          show Runs _ _ _ _ T13 (mkF m 253 #[.val (.int p0), .val (.int p1), .val (.int p2), .val (.int p3), .val (.int p4), .val (.int p5), .val (.int (0 : Int32)), .val (.ref ob2), .val (.int pA), .val (.int pE), .val (.ref ob11), .val (.int (leF (0 : Int32) (u kA) (u (kA + 1)) (u (kA + 2)) ((pA + (1 : Int32)) < pE) ((pA + (2 : Int32)) < pE))), .val (.int (pE - pA)), .val (.int ((u kA) &&& (255 : Int32))), .val (.int k1), .val (.int k2), .val (.int (0 : Int32))] [(.int (1 : Int32))])
          refine Runs.back (fun t_ k_ => XS.goto X13.here hx rfl (pc0 := 253) (pc' := 257) rfl (hb hby at_253) (by decide) (by decide) k_) ?_
          show Runs _ _ _ _ T13 (mkF m 257 #[.val (.int p0), .val (.int p1), .val (.int p2), .val (.int p3), .val (.int p4), .val (.int p5), .val (.int (0 : Int32)), .val (.ref ob2), .val (.int pA), .val (.int pE), .val (.ref ob11), .val (.int (leF (0 : Int32) (u kA) (u (kA + 1)) (u (kA + 2)) ((pA + (1 : Int32)) < pE) ((pA + (2 : Int32)) < pE))), .val (.int (pE - pA)), .val (.int ((u kA) &&& (255 : Int32))), .val (.int k1), .val (.int k2), .val (.int (0 : Int32))] [(.int (1 : Int32))])
          obtain ⟨fs, hr, hrun, hended, hW, hsame⟩ := X13.leave (v := some (.int (1 : Int32))) (fun h => by rw [Bd.returns] at h; cases h)
          exact ⟨_, _, (retN X13 hx (t := .boolean) Bd.returns (by simp) (hb hby at_257) hr), hrun, hended, _, _, rfl, ⟨rfl, N13⟩, ⟨_, rfl⟩, hW, hsame.mono (by decide) (by decide)⟩
    · intro J1
      show Runs _ _ _ _ T13 (mkF m 117 #[.val (.int p0), .val (.int p1), .val (.int p2), .val (.int p3), .val (.int p4), .val (.int p5), .val (.int (0 : Int32)), .val (.ref ob2), .val (.int pA), .val (.int pE), .val (.ref ob11), .val (.int (leF (0 : Int32) (u kA) (u (kA + 1)) (u (kA + 2)) ((pA + (1 : Int32)) < pE) ((pA + (2 : Int32)) < pE))), .val (.int (pE - pA)), .val (.int ((u kA) &&& (255 : Int32))), .unset, .unset, .unset] [])
      refine Runs.back (fun t_ k_ => XS.iload X13.here hx rfl (hb hby at_117) rfl k_) ?_
      show Runs _ _ _ _ T13 (mkF m 119 #[.val (.int p0), .val (.int p1), .val (.int p2), .val (.int p3), .val (.int p4), .val (.int p5), .val (.int (0 : Int32)), .val (.ref ob2), .val (.int pA), .val (.int pE), .val (.ref ob11), .val (.int (leF (0 : Int32) (u kA) (u (kA + 1)) (u (kA + 2)) ((pA + (1 : Int32)) < pE) ((pA + (2 : Int32)) < pE))), .val (.int (pE - pA)), .val (.int ((u kA) &&& (255 : Int32))), .unset, .unset, .unset] [(.int (pE - pA))])
      refine Runs.back (fun t_ k_ => XS.iconst X13.here hx rfl (hb hby at_119) k_) ?_
      show Runs _ _ _ _ T13 (mkF m 120 #[.val (.int p0), .val (.int p1), .val (.int p2), .val (.int p3), .val (.int p4), .val (.int p5), .val (.int (0 : Int32)), .val (.ref ob2), .val (.int pA), .val (.int pE), .val (.ref ob11), .val (.int (leF (0 : Int32) (u kA) (u (kA + 1)) (u (kA + 2)) ((pA + (1 : Int32)) < pE) ((pA + (2 : Int32)) < pE))), .val (.int (pE - pA)), .val (.int ((u kA) &&& (255 : Int32))), .unset, .unset, .unset] [(.int (2 : Int32)), (.int (pE - pA))])
      by_cases c120_17 : (pE - pA) < (2 : Int32)
      · refine Runs.back (fun t_ k_ => XS.icmpYes X13.here hx rfl (pc0 := 120) (pc' := 137) rfl (hb hby at_120) rfl (tlt c120_17).1 (by decide) (by decide) k_) ?_
        show Runs _ _ _ _ T13 (mkF m 137 #[.val (.int p0), .val (.int p1), .val (.int p2), .val (.int p3), .val (.int p4), .val (.int p5), .val (.int (0 : Int32)), .val (.ref ob2), .val (.int pA), .val (.int pE), .val (.ref ob11), .val (.int (leF (0 : Int32) (u kA) (u (kA + 1)) (u (kA + 2)) ((pA + (1 : Int32)) < pE) ((pA + (2 : Int32)) < pE))), .val (.int (pE - pA)), .val (.int ((u kA) &&& (255 : Int32))), .unset, .unset, .unset] [])
        refine Runs.back (fun t_ k_ => XS.iconst X13.here hx rfl (hb hby at_137) k_) ?_
        show Runs _ _ _ _ T13 (mkF m 138 #[.val (.int p0), .val (.int p1), .val (.int p2), .val (.int p3), .val (.int p4), .val (.int p5), .val (.int (0 : Int32)), .val (.ref ob2), .val (.int pA), .val (.int pE), .val (.ref ob11), .val (.int (leF (0 : Int32) (u kA) (u (kA + 1)) (u (kA + 2)) ((pA + (1 : Int32)) < pE) ((pA + (2 : Int32)) < pE))), .val (.int (pE - pA)), .val (.int ((u kA) &&& (255 : Int32))), .unset, .unset, .unset] [(.int (-1 : Int32))])
        refine Runs.back (fun t_ k_ => XS.istore X13.here hx rfl (hb hby at_138) rfl (l' := #[.val (.int p0), .val (.int p1), .val (.int p2), .val (.int p3), .val (.int p4), .val (.int p5), .val (.int (0 : Int32)), .val (.ref ob2), .val (.int pA), .val (.int pE), .val (.ref ob11), .val (.int (leF (0 : Int32) (u kA) (u (kA + 1)) (u (kA + 2)) ((pA + (1 : Int32)) < pE) ((pA + (2 : Int32)) < pE))), .val (.int (pE - pA)), .val (.int ((u kA) &&& (255 : Int32))), .val (.int (-1 : Int32)), .unset, .unset]) rfl k_) ?_
        show Runs _ _ _ _ T13 (mkF m 140 #[.val (.int p0), .val (.int p1), .val (.int p2), .val (.int p3), .val (.int p4), .val (.int p5), .val (.int (0 : Int32)), .val (.ref ob2), .val (.int pA), .val (.int pE), .val (.ref ob11), .val (.int (leF (0 : Int32) (u kA) (u (kA + 1)) (u (kA + 2)) ((pA + (1 : Int32)) < pE) ((pA + (2 : Int32)) < pE))), .val (.int (pE - pA)), .val (.int ((u kA) &&& (255 : Int32))), .val (.int (-1 : Int32)), .unset, .unset] [])
        refine Runs.back (fun t_ k_ => XS.iload X13.here hx rfl (hb hby at_140) rfl k_) ?_
        show Runs _ _ _ _ T13 (mkF m 142 #[.val (.int p0), .val (.int p1), .val (.int p2), .val (.int p3), .val (.int p4), .val (.int p5), .val (.int (0 : Int32)), .val (.ref ob2), .val (.int pA), .val (.int pE), .val (.ref ob11), .val (.int (leF (0 : Int32) (u kA) (u (kA + 1)) (u (kA + 2)) ((pA + (1 : Int32)) < pE) ((pA + (2 : Int32)) < pE))), .val (.int (pE - pA)), .val (.int ((u kA) &&& (255 : Int32))), .val (.int (-1 : Int32)), .unset, .unset] [(.int (pE - pA))])
        refine Runs.back (fun t_ k_ => XS.iconst X13.here hx rfl (hb hby at_142) k_) ?_
        show Runs _ _ _ _ T13 (mkF m 143 #[.val (.int p0), .val (.int p1), .val (.int p2), .val (.int p3), .val (.int p4), .val (.int p5), .val (.int (0 : Int32)), .val (.ref ob2), .val (.int pA), .val (.int pE), .val (.ref ob11), .val (.int (leF (0 : Int32) (u kA) (u (kA + 1)) (u (kA + 2)) ((pA + (1 : Int32)) < pE) ((pA + (2 : Int32)) < pE))), .val (.int (pE - pA)), .val (.int ((u kA) &&& (255 : Int32))), .val (.int (-1 : Int32)), .unset, .unset] [(.int (3 : Int32)), (.int (pE - pA))])
        by_cases c143_18 : (pE - pA) < (3 : Int32)
        · refine Runs.back (fun t_ k_ => XS.icmpYes X13.here hx rfl (pc0 := 143) (pc' := 160) rfl (hb hby at_143) rfl (tlt c143_18).1 (by decide) (by decide) k_) ?_
          show Runs _ _ _ _ T13 (mkF m 160 #[.val (.int p0), .val (.int p1), .val (.int p2), .val (.int p3), .val (.int p4), .val (.int p5), .val (.int (0 : Int32)), .val (.ref ob2), .val (.int pA), .val (.int pE), .val (.ref ob11), .val (.int (leF (0 : Int32) (u kA) (u (kA + 1)) (u (kA + 2)) ((pA + (1 : Int32)) < pE) ((pA + (2 : Int32)) < pE))), .val (.int (pE - pA)), .val (.int ((u kA) &&& (255 : Int32))), .val (.int (-1 : Int32)), .unset, .unset] [])
          refine Runs.back (fun t_ k_ => XS.iconst X13.here hx rfl (hb hby at_160) k_) ?_
          show Runs _ _ _ _ T13 (mkF m 161 #[.val (.int p0), .val (.int p1), .val (.int p2), .val (.int p3), .val (.int p4), .val (.int p5), .val (.int (0 : Int32)), .val (.ref ob2), .val (.int pA), .val (.int pE), .val (.ref ob11), .val (.int (leF (0 : Int32) (u kA) (u (kA + 1)) (u (kA + 2)) ((pA + (1 : Int32)) < pE) ((pA + (2 : Int32)) < pE))), .val (.int (pE - pA)), .val (.int ((u kA) &&& (255 : Int32))), .val (.int (-1 : Int32)), .unset, .unset] [(.int (-1 : Int32))])
          refine Runs.back (fun t_ k_ => XS.istore X13.here hx rfl (hb hby at_161) rfl (l' := #[.val (.int p0), .val (.int p1), .val (.int p2), .val (.int p3), .val (.int p4), .val (.int p5), .val (.int (0 : Int32)), .val (.ref ob2), .val (.int pA), .val (.int pE), .val (.ref ob11), .val (.int (leF (0 : Int32) (u kA) (u (kA + 1)) (u (kA + 2)) ((pA + (1 : Int32)) < pE) ((pA + (2 : Int32)) < pE))), .val (.int (pE - pA)), .val (.int ((u kA) &&& (255 : Int32))), .val (.int (-1 : Int32)), .val (.int (-1 : Int32)), .unset]) rfl k_) ?_
          show Runs _ _ _ _ T13 (mkF m 163 #[.val (.int p0), .val (.int p1), .val (.int p2), .val (.int p3), .val (.int p4), .val (.int p5), .val (.int (0 : Int32)), .val (.ref ob2), .val (.int pA), .val (.int pE), .val (.ref ob11), .val (.int (leF (0 : Int32) (u kA) (u (kA + 1)) (u (kA + 2)) ((pA + (1 : Int32)) < pE) ((pA + (2 : Int32)) < pE))), .val (.int (pE - pA)), .val (.int ((u kA) &&& (255 : Int32))), .val (.int (-1 : Int32)), .val (.int (-1 : Int32)), .unset] [])
          exact J1 ((-1 : Int32), (-1 : Int32)) ⟨(if_neg (q2.mp c120_17)).symm, (if_neg (q3.mp c143_18)).symm⟩
        · refine Runs.back (fun t_ k_ => XS.icmpNo X13.here hx rfl (hb hby at_143) rfl (flt c143_18).1 k_) ?_
          show Runs _ _ _ _ T13 (mkF m 146 #[.val (.int p0), .val (.int p1), .val (.int p2), .val (.int p3), .val (.int p4), .val (.int p5), .val (.int (0 : Int32)), .val (.ref ob2), .val (.int pA), .val (.int pE), .val (.ref ob11), .val (.int (leF (0 : Int32) (u kA) (u (kA + 1)) (u (kA + 2)) ((pA + (1 : Int32)) < pE) ((pA + (2 : Int32)) < pE))), .val (.int (pE - pA)), .val (.int ((u kA) &&& (255 : Int32))), .val (.int (-1 : Int32)), .unset, .unset] [])
          refine Runs.back (fun t_ k_ => XS.aload X13.here hx rfl (hb hby at_146) rfl rfl k_) ?_
          show Runs _ _ _ _ T13 (mkF m 148 #[.val (.int p0), .val (.int p1), .val (.int p2), .val (.int p3), .val (.int p4), .val (.int p5), .val (.int (0 : Int32)), .val (.ref ob2), .val (.int pA), .val (.int pE), .val (.ref ob11), .val (.int (leF (0 : Int32) (u kA) (u (kA + 1)) (u (kA + 2)) ((pA + (1 : Int32)) < pE) ((pA + (2 : Int32)) < pE))), .val (.int (pE - pA)), .val (.int ((u kA) &&& (255 : Int32))), .val (.int (-1 : Int32)), .unset, .unset] [(.ref ob2)])
          refine Runs.back (fun t_ k_ => XS.iload X13.here hx rfl (hb hby at_148) rfl k_) ?_
          show Runs _ _ _ _ T13 (mkF m 150 #[.val (.int p0), .val (.int p1), .val (.int p2), .val (.int p3), .val (.int p4), .val (.int p5), .val (.int (0 : Int32)), .val (.ref ob2), .val (.int pA), .val (.int pE), .val (.ref ob11), .val (.int (leF (0 : Int32) (u kA) (u (kA + 1)) (u (kA + 2)) ((pA + (1 : Int32)) < pE) ((pA + (2 : Int32)) < pE))), .val (.int (pE - pA)), .val (.int ((u kA) &&& (255 : Int32))), .val (.int (-1 : Int32)), .unset, .unset] [(.int pA), (.ref ob2)])
          refine Runs.back (fun t_ k_ => XS.iconst X13.here hx rfl (hb hby at_150) k_) ?_
          show Runs _ _ _ _ T13 (mkF m 151 #[.val (.int p0), .val (.int p1), .val (.int p2), .val (.int p3), .val (.int p4), .val (.int p5), .val (.int (0 : Int32)), .val (.ref ob2), .val (.int pA), .val (.int pE), .val (.ref ob11), .val (.int (leF (0 : Int32) (u kA) (u (kA + 1)) (u (kA + 2)) ((pA + (1 : Int32)) < pE) ((pA + (2 : Int32)) < pE))), .val (.int (pE - pA)), .val (.int ((u kA) &&& (255 : Int32))), .val (.int (-1 : Int32)), .unset, .unset] [(.int (2 : Int32)), (.int pA), (.ref ob2)])
          refine Runs.back (fun t_ k_ => XS.iadd X13.here hx rfl (hb hby at_151) rfl k_) ?_
          show Runs _ _ _ _ T13 (mkF m 152 #[.val (.int p0), .val (.int p1), .val (.int p2), .val (.int p3), .val (.int p4), .val (.int p5), .val (.int (0 : Int32)), .val (.ref ob2), .val (.int pA), .val (.int pE), .val (.ref ob11), .val (.int (leF (0 : Int32) (u kA) (u (kA + 1)) (u (kA + 2)) ((pA + (1 : Int32)) < pE) ((pA + (2 : Int32)) < pE))), .val (.int (pE - pA)), .val (.int ((u kA) &&& (255 : Int32))), .val (.int (-1 : Int32)), .unset, .unset] [(.int (pA + (2 : Int32))), (.ref ob2)])
          obtain ⟨cl19, Ar19, S19, Hs19⟩ := id f12_Arr_0
          have at19 : cl19.slots[((pA + (2 : Int32))).toNatClampNeg]? = some (.int (u (kA + 2))) := readO Hs19 j2.1 (show (kA + 2) < 4 from (hB4 (Classical.not_not.mp fun r => c143_18 (q3.mpr r)))) (rfl)
          refine Runs.back (fun t_ k_ => X13.baloadBytes hx (j := (pA + (2 : Int32))) (v := (.int (u (kA + 2)))) (by rw [eq13]; exact Ar19.1) (State.isArrayOf_alike hZ.alike Ar19.2.1) Ar19.2.2 (by rw [S19]; exact (inbO j2.2 j2.1 (show (kA + 2) < 4 from (hB4 (Classical.not_not.mp fun r => c143_18 (q3.mpr r)))))) at19 (g := (mkF m 152 #[.val (.int p0), .val (.int p1), .val (.int p2), .val (.int p3), .val (.int p4), .val (.int p5), .val (.int (0 : Int32)), .val (.ref ob2), .val (.int pA), .val (.int pE), .val (.ref ob11), .val (.int (leF (0 : Int32) (u kA) (u (kA + 1)) (u (kA + 2)) ((pA + (1 : Int32)) < pE) ((pA + (2 : Int32)) < pE))), .val (.int (pE - pA)), .val (.int ((u kA) &&& (255 : Int32))), .val (.int (-1 : Int32)), .unset, .unset] [(.int (pA + (2 : Int32))), (.ref ob2)])) rfl rfl (hb hby at_152) _ k_) ?_
          show Runs _ _ _ _ T13 (mkF m 153 #[.val (.int p0), .val (.int p1), .val (.int p2), .val (.int p3), .val (.int p4), .val (.int p5), .val (.int (0 : Int32)), .val (.ref ob2), .val (.int pA), .val (.int pE), .val (.ref ob11), .val (.int (leF (0 : Int32) (u kA) (u (kA + 1)) (u (kA + 2)) ((pA + (1 : Int32)) < pE) ((pA + (2 : Int32)) < pE))), .val (.int (pE - pA)), .val (.int ((u kA) &&& (255 : Int32))), .val (.int (-1 : Int32)), .unset, .unset] [(.int (u (kA + 2)))])
          refine Runs.back (fun t_ k_ => XS.sipush X13.here hx rfl (hb hby at_153) k_) ?_
          show Runs _ _ _ _ T13 (mkF m 156 #[.val (.int p0), .val (.int p1), .val (.int p2), .val (.int p3), .val (.int p4), .val (.int p5), .val (.int (0 : Int32)), .val (.ref ob2), .val (.int pA), .val (.int pE), .val (.ref ob11), .val (.int (leF (0 : Int32) (u kA) (u (kA + 1)) (u (kA + 2)) ((pA + (1 : Int32)) < pE) ((pA + (2 : Int32)) < pE))), .val (.int (pE - pA)), .val (.int ((u kA) &&& (255 : Int32))), .val (.int (-1 : Int32)), .unset, .unset] [(.int (255 : Int32)), (.int (u (kA + 2)))])
          refine Runs.back (fun t_ k_ => XS.iand X13.here hx rfl (hb hby at_156) rfl k_) ?_
          show Runs _ _ _ _ T13 (mkF m 157 #[.val (.int p0), .val (.int p1), .val (.int p2), .val (.int p3), .val (.int p4), .val (.int p5), .val (.int (0 : Int32)), .val (.ref ob2), .val (.int pA), .val (.int pE), .val (.ref ob11), .val (.int (leF (0 : Int32) (u kA) (u (kA + 1)) (u (kA + 2)) ((pA + (1 : Int32)) < pE) ((pA + (2 : Int32)) < pE))), .val (.int (pE - pA)), .val (.int ((u kA) &&& (255 : Int32))), .val (.int (-1 : Int32)), .unset, .unset] [(.int ((u (kA + 2)) &&& (255 : Int32)))])
          refine Runs.back (fun t_ k_ => XS.goto X13.here hx rfl (pc0 := 157) (pc' := 161) rfl (hb hby at_157) (by decide) (by decide) k_) ?_
          show Runs _ _ _ _ T13 (mkF m 161 #[.val (.int p0), .val (.int p1), .val (.int p2), .val (.int p3), .val (.int p4), .val (.int p5), .val (.int (0 : Int32)), .val (.ref ob2), .val (.int pA), .val (.int pE), .val (.ref ob11), .val (.int (leF (0 : Int32) (u kA) (u (kA + 1)) (u (kA + 2)) ((pA + (1 : Int32)) < pE) ((pA + (2 : Int32)) < pE))), .val (.int (pE - pA)), .val (.int ((u kA) &&& (255 : Int32))), .val (.int (-1 : Int32)), .unset, .unset] [(.int ((u (kA + 2)) &&& (255 : Int32)))])
          refine Runs.back (fun t_ k_ => XS.istore X13.here hx rfl (hb hby at_161) rfl (l' := #[.val (.int p0), .val (.int p1), .val (.int p2), .val (.int p3), .val (.int p4), .val (.int p5), .val (.int (0 : Int32)), .val (.ref ob2), .val (.int pA), .val (.int pE), .val (.ref ob11), .val (.int (leF (0 : Int32) (u kA) (u (kA + 1)) (u (kA + 2)) ((pA + (1 : Int32)) < pE) ((pA + (2 : Int32)) < pE))), .val (.int (pE - pA)), .val (.int ((u kA) &&& (255 : Int32))), .val (.int (-1 : Int32)), .val (.int ((u (kA + 2)) &&& (255 : Int32))), .unset]) rfl k_) ?_
          show Runs _ _ _ _ T13 (mkF m 163 #[.val (.int p0), .val (.int p1), .val (.int p2), .val (.int p3), .val (.int p4), .val (.int p5), .val (.int (0 : Int32)), .val (.ref ob2), .val (.int pA), .val (.int pE), .val (.ref ob11), .val (.int (leF (0 : Int32) (u kA) (u (kA + 1)) (u (kA + 2)) ((pA + (1 : Int32)) < pE) ((pA + (2 : Int32)) < pE))), .val (.int (pE - pA)), .val (.int ((u kA) &&& (255 : Int32))), .val (.int (-1 : Int32)), .val (.int ((u (kA + 2)) &&& (255 : Int32))), .unset] [])
          exact J1 ((-1 : Int32), ((u (kA + 2)) &&& (255 : Int32))) ⟨(if_neg (q2.mp c120_17)).symm, (if_pos (Classical.not_not.mp fun r => c143_18 (q3.mpr r))).symm⟩
      · refine Runs.back (fun t_ k_ => XS.icmpNo X13.here hx rfl (hb hby at_120) rfl (flt c120_17).1 k_) ?_
        show Runs _ _ _ _ T13 (mkF m 123 #[.val (.int p0), .val (.int p1), .val (.int p2), .val (.int p3), .val (.int p4), .val (.int p5), .val (.int (0 : Int32)), .val (.ref ob2), .val (.int pA), .val (.int pE), .val (.ref ob11), .val (.int (leF (0 : Int32) (u kA) (u (kA + 1)) (u (kA + 2)) ((pA + (1 : Int32)) < pE) ((pA + (2 : Int32)) < pE))), .val (.int (pE - pA)), .val (.int ((u kA) &&& (255 : Int32))), .unset, .unset, .unset] [])
        refine Runs.back (fun t_ k_ => XS.aload X13.here hx rfl (hb hby at_123) rfl rfl k_) ?_
        show Runs _ _ _ _ T13 (mkF m 125 #[.val (.int p0), .val (.int p1), .val (.int p2), .val (.int p3), .val (.int p4), .val (.int p5), .val (.int (0 : Int32)), .val (.ref ob2), .val (.int pA), .val (.int pE), .val (.ref ob11), .val (.int (leF (0 : Int32) (u kA) (u (kA + 1)) (u (kA + 2)) ((pA + (1 : Int32)) < pE) ((pA + (2 : Int32)) < pE))), .val (.int (pE - pA)), .val (.int ((u kA) &&& (255 : Int32))), .unset, .unset, .unset] [(.ref ob2)])
        refine Runs.back (fun t_ k_ => XS.iload X13.here hx rfl (hb hby at_125) rfl k_) ?_
        show Runs _ _ _ _ T13 (mkF m 127 #[.val (.int p0), .val (.int p1), .val (.int p2), .val (.int p3), .val (.int p4), .val (.int p5), .val (.int (0 : Int32)), .val (.ref ob2), .val (.int pA), .val (.int pE), .val (.ref ob11), .val (.int (leF (0 : Int32) (u kA) (u (kA + 1)) (u (kA + 2)) ((pA + (1 : Int32)) < pE) ((pA + (2 : Int32)) < pE))), .val (.int (pE - pA)), .val (.int ((u kA) &&& (255 : Int32))), .unset, .unset, .unset] [(.int pA), (.ref ob2)])
        refine Runs.back (fun t_ k_ => XS.iconst X13.here hx rfl (hb hby at_127) k_) ?_
        show Runs _ _ _ _ T13 (mkF m 128 #[.val (.int p0), .val (.int p1), .val (.int p2), .val (.int p3), .val (.int p4), .val (.int p5), .val (.int (0 : Int32)), .val (.ref ob2), .val (.int pA), .val (.int pE), .val (.ref ob11), .val (.int (leF (0 : Int32) (u kA) (u (kA + 1)) (u (kA + 2)) ((pA + (1 : Int32)) < pE) ((pA + (2 : Int32)) < pE))), .val (.int (pE - pA)), .val (.int ((u kA) &&& (255 : Int32))), .unset, .unset, .unset] [(.int (1 : Int32)), (.int pA), (.ref ob2)])
        refine Runs.back (fun t_ k_ => XS.iadd X13.here hx rfl (hb hby at_128) rfl k_) ?_
        show Runs _ _ _ _ T13 (mkF m 129 #[.val (.int p0), .val (.int p1), .val (.int p2), .val (.int p3), .val (.int p4), .val (.int p5), .val (.int (0 : Int32)), .val (.ref ob2), .val (.int pA), .val (.int pE), .val (.ref ob11), .val (.int (leF (0 : Int32) (u kA) (u (kA + 1)) (u (kA + 2)) ((pA + (1 : Int32)) < pE) ((pA + (2 : Int32)) < pE))), .val (.int (pE - pA)), .val (.int ((u kA) &&& (255 : Int32))), .unset, .unset, .unset] [(.int (pA + (1 : Int32))), (.ref ob2)])
        obtain ⟨cl20, Ar20, S20, Hs20⟩ := id f12_Arr_0
        have at20 : cl20.slots[((pA + (1 : Int32))).toNatClampNeg]? = some (.int (u (kA + 1))) := readO Hs20 j1.1 (show (kA + 1) < 4 from (hA4 (Classical.not_not.mp fun r => c120_17 (q2.mpr r)))) (rfl)
        refine Runs.back (fun t_ k_ => X13.baloadBytes hx (j := (pA + (1 : Int32))) (v := (.int (u (kA + 1)))) (by rw [eq13]; exact Ar20.1) (State.isArrayOf_alike hZ.alike Ar20.2.1) Ar20.2.2 (by rw [S20]; exact (inbO j1.2 j1.1 (show (kA + 1) < 4 from (hA4 (Classical.not_not.mp fun r => c120_17 (q2.mpr r)))))) at20 (g := (mkF m 129 #[.val (.int p0), .val (.int p1), .val (.int p2), .val (.int p3), .val (.int p4), .val (.int p5), .val (.int (0 : Int32)), .val (.ref ob2), .val (.int pA), .val (.int pE), .val (.ref ob11), .val (.int (leF (0 : Int32) (u kA) (u (kA + 1)) (u (kA + 2)) ((pA + (1 : Int32)) < pE) ((pA + (2 : Int32)) < pE))), .val (.int (pE - pA)), .val (.int ((u kA) &&& (255 : Int32))), .unset, .unset, .unset] [(.int (pA + (1 : Int32))), (.ref ob2)])) rfl rfl (hb hby at_129) _ k_) ?_
        show Runs _ _ _ _ T13 (mkF m 130 #[.val (.int p0), .val (.int p1), .val (.int p2), .val (.int p3), .val (.int p4), .val (.int p5), .val (.int (0 : Int32)), .val (.ref ob2), .val (.int pA), .val (.int pE), .val (.ref ob11), .val (.int (leF (0 : Int32) (u kA) (u (kA + 1)) (u (kA + 2)) ((pA + (1 : Int32)) < pE) ((pA + (2 : Int32)) < pE))), .val (.int (pE - pA)), .val (.int ((u kA) &&& (255 : Int32))), .unset, .unset, .unset] [(.int (u (kA + 1)))])
        refine Runs.back (fun t_ k_ => XS.sipush X13.here hx rfl (hb hby at_130) k_) ?_
        show Runs _ _ _ _ T13 (mkF m 133 #[.val (.int p0), .val (.int p1), .val (.int p2), .val (.int p3), .val (.int p4), .val (.int p5), .val (.int (0 : Int32)), .val (.ref ob2), .val (.int pA), .val (.int pE), .val (.ref ob11), .val (.int (leF (0 : Int32) (u kA) (u (kA + 1)) (u (kA + 2)) ((pA + (1 : Int32)) < pE) ((pA + (2 : Int32)) < pE))), .val (.int (pE - pA)), .val (.int ((u kA) &&& (255 : Int32))), .unset, .unset, .unset] [(.int (255 : Int32)), (.int (u (kA + 1)))])
        refine Runs.back (fun t_ k_ => XS.iand X13.here hx rfl (hb hby at_133) rfl k_) ?_
        show Runs _ _ _ _ T13 (mkF m 134 #[.val (.int p0), .val (.int p1), .val (.int p2), .val (.int p3), .val (.int p4), .val (.int p5), .val (.int (0 : Int32)), .val (.ref ob2), .val (.int pA), .val (.int pE), .val (.ref ob11), .val (.int (leF (0 : Int32) (u kA) (u (kA + 1)) (u (kA + 2)) ((pA + (1 : Int32)) < pE) ((pA + (2 : Int32)) < pE))), .val (.int (pE - pA)), .val (.int ((u kA) &&& (255 : Int32))), .unset, .unset, .unset] [(.int ((u (kA + 1)) &&& (255 : Int32)))])
        refine Runs.back (fun t_ k_ => XS.goto X13.here hx rfl (pc0 := 134) (pc' := 138) rfl (hb hby at_134) (by decide) (by decide) k_) ?_
        show Runs _ _ _ _ T13 (mkF m 138 #[.val (.int p0), .val (.int p1), .val (.int p2), .val (.int p3), .val (.int p4), .val (.int p5), .val (.int (0 : Int32)), .val (.ref ob2), .val (.int pA), .val (.int pE), .val (.ref ob11), .val (.int (leF (0 : Int32) (u kA) (u (kA + 1)) (u (kA + 2)) ((pA + (1 : Int32)) < pE) ((pA + (2 : Int32)) < pE))), .val (.int (pE - pA)), .val (.int ((u kA) &&& (255 : Int32))), .unset, .unset, .unset] [(.int ((u (kA + 1)) &&& (255 : Int32)))])
        refine Runs.back (fun t_ k_ => XS.istore X13.here hx rfl (hb hby at_138) rfl (l' := #[.val (.int p0), .val (.int p1), .val (.int p2), .val (.int p3), .val (.int p4), .val (.int p5), .val (.int (0 : Int32)), .val (.ref ob2), .val (.int pA), .val (.int pE), .val (.ref ob11), .val (.int (leF (0 : Int32) (u kA) (u (kA + 1)) (u (kA + 2)) ((pA + (1 : Int32)) < pE) ((pA + (2 : Int32)) < pE))), .val (.int (pE - pA)), .val (.int ((u kA) &&& (255 : Int32))), .val (.int ((u (kA + 1)) &&& (255 : Int32))), .unset, .unset]) rfl k_) ?_
        show Runs _ _ _ _ T13 (mkF m 140 #[.val (.int p0), .val (.int p1), .val (.int p2), .val (.int p3), .val (.int p4), .val (.int p5), .val (.int (0 : Int32)), .val (.ref ob2), .val (.int pA), .val (.int pE), .val (.ref ob11), .val (.int (leF (0 : Int32) (u kA) (u (kA + 1)) (u (kA + 2)) ((pA + (1 : Int32)) < pE) ((pA + (2 : Int32)) < pE))), .val (.int (pE - pA)), .val (.int ((u kA) &&& (255 : Int32))), .val (.int ((u (kA + 1)) &&& (255 : Int32))), .unset, .unset] [])
        refine Runs.back (fun t_ k_ => XS.iload X13.here hx rfl (hb hby at_140) rfl k_) ?_
        show Runs _ _ _ _ T13 (mkF m 142 #[.val (.int p0), .val (.int p1), .val (.int p2), .val (.int p3), .val (.int p4), .val (.int p5), .val (.int (0 : Int32)), .val (.ref ob2), .val (.int pA), .val (.int pE), .val (.ref ob11), .val (.int (leF (0 : Int32) (u kA) (u (kA + 1)) (u (kA + 2)) ((pA + (1 : Int32)) < pE) ((pA + (2 : Int32)) < pE))), .val (.int (pE - pA)), .val (.int ((u kA) &&& (255 : Int32))), .val (.int ((u (kA + 1)) &&& (255 : Int32))), .unset, .unset] [(.int (pE - pA))])
        refine Runs.back (fun t_ k_ => XS.iconst X13.here hx rfl (hb hby at_142) k_) ?_
        show Runs _ _ _ _ T13 (mkF m 143 #[.val (.int p0), .val (.int p1), .val (.int p2), .val (.int p3), .val (.int p4), .val (.int p5), .val (.int (0 : Int32)), .val (.ref ob2), .val (.int pA), .val (.int pE), .val (.ref ob11), .val (.int (leF (0 : Int32) (u kA) (u (kA + 1)) (u (kA + 2)) ((pA + (1 : Int32)) < pE) ((pA + (2 : Int32)) < pE))), .val (.int (pE - pA)), .val (.int ((u kA) &&& (255 : Int32))), .val (.int ((u (kA + 1)) &&& (255 : Int32))), .unset, .unset] [(.int (3 : Int32)), (.int (pE - pA))])
        by_cases c143_21 : (pE - pA) < (3 : Int32)
        · refine Runs.back (fun t_ k_ => XS.icmpYes X13.here hx rfl (pc0 := 143) (pc' := 160) rfl (hb hby at_143) rfl (tlt c143_21).1 (by decide) (by decide) k_) ?_
          show Runs _ _ _ _ T13 (mkF m 160 #[.val (.int p0), .val (.int p1), .val (.int p2), .val (.int p3), .val (.int p4), .val (.int p5), .val (.int (0 : Int32)), .val (.ref ob2), .val (.int pA), .val (.int pE), .val (.ref ob11), .val (.int (leF (0 : Int32) (u kA) (u (kA + 1)) (u (kA + 2)) ((pA + (1 : Int32)) < pE) ((pA + (2 : Int32)) < pE))), .val (.int (pE - pA)), .val (.int ((u kA) &&& (255 : Int32))), .val (.int ((u (kA + 1)) &&& (255 : Int32))), .unset, .unset] [])
          refine Runs.back (fun t_ k_ => XS.iconst X13.here hx rfl (hb hby at_160) k_) ?_
          show Runs _ _ _ _ T13 (mkF m 161 #[.val (.int p0), .val (.int p1), .val (.int p2), .val (.int p3), .val (.int p4), .val (.int p5), .val (.int (0 : Int32)), .val (.ref ob2), .val (.int pA), .val (.int pE), .val (.ref ob11), .val (.int (leF (0 : Int32) (u kA) (u (kA + 1)) (u (kA + 2)) ((pA + (1 : Int32)) < pE) ((pA + (2 : Int32)) < pE))), .val (.int (pE - pA)), .val (.int ((u kA) &&& (255 : Int32))), .val (.int ((u (kA + 1)) &&& (255 : Int32))), .unset, .unset] [(.int (-1 : Int32))])
          refine Runs.back (fun t_ k_ => XS.istore X13.here hx rfl (hb hby at_161) rfl (l' := #[.val (.int p0), .val (.int p1), .val (.int p2), .val (.int p3), .val (.int p4), .val (.int p5), .val (.int (0 : Int32)), .val (.ref ob2), .val (.int pA), .val (.int pE), .val (.ref ob11), .val (.int (leF (0 : Int32) (u kA) (u (kA + 1)) (u (kA + 2)) ((pA + (1 : Int32)) < pE) ((pA + (2 : Int32)) < pE))), .val (.int (pE - pA)), .val (.int ((u kA) &&& (255 : Int32))), .val (.int ((u (kA + 1)) &&& (255 : Int32))), .val (.int (-1 : Int32)), .unset]) rfl k_) ?_
          show Runs _ _ _ _ T13 (mkF m 163 #[.val (.int p0), .val (.int p1), .val (.int p2), .val (.int p3), .val (.int p4), .val (.int p5), .val (.int (0 : Int32)), .val (.ref ob2), .val (.int pA), .val (.int pE), .val (.ref ob11), .val (.int (leF (0 : Int32) (u kA) (u (kA + 1)) (u (kA + 2)) ((pA + (1 : Int32)) < pE) ((pA + (2 : Int32)) < pE))), .val (.int (pE - pA)), .val (.int ((u kA) &&& (255 : Int32))), .val (.int ((u (kA + 1)) &&& (255 : Int32))), .val (.int (-1 : Int32)), .unset] [])
          exact J1 (((u (kA + 1)) &&& (255 : Int32)), (-1 : Int32)) ⟨(if_pos (Classical.not_not.mp fun r => c120_17 (q2.mpr r))).symm, (if_neg (q3.mp c143_21)).symm⟩
        · refine Runs.back (fun t_ k_ => XS.icmpNo X13.here hx rfl (hb hby at_143) rfl (flt c143_21).1 k_) ?_
          show Runs _ _ _ _ T13 (mkF m 146 #[.val (.int p0), .val (.int p1), .val (.int p2), .val (.int p3), .val (.int p4), .val (.int p5), .val (.int (0 : Int32)), .val (.ref ob2), .val (.int pA), .val (.int pE), .val (.ref ob11), .val (.int (leF (0 : Int32) (u kA) (u (kA + 1)) (u (kA + 2)) ((pA + (1 : Int32)) < pE) ((pA + (2 : Int32)) < pE))), .val (.int (pE - pA)), .val (.int ((u kA) &&& (255 : Int32))), .val (.int ((u (kA + 1)) &&& (255 : Int32))), .unset, .unset] [])
          refine Runs.back (fun t_ k_ => XS.aload X13.here hx rfl (hb hby at_146) rfl rfl k_) ?_
          show Runs _ _ _ _ T13 (mkF m 148 #[.val (.int p0), .val (.int p1), .val (.int p2), .val (.int p3), .val (.int p4), .val (.int p5), .val (.int (0 : Int32)), .val (.ref ob2), .val (.int pA), .val (.int pE), .val (.ref ob11), .val (.int (leF (0 : Int32) (u kA) (u (kA + 1)) (u (kA + 2)) ((pA + (1 : Int32)) < pE) ((pA + (2 : Int32)) < pE))), .val (.int (pE - pA)), .val (.int ((u kA) &&& (255 : Int32))), .val (.int ((u (kA + 1)) &&& (255 : Int32))), .unset, .unset] [(.ref ob2)])
          refine Runs.back (fun t_ k_ => XS.iload X13.here hx rfl (hb hby at_148) rfl k_) ?_
          show Runs _ _ _ _ T13 (mkF m 150 #[.val (.int p0), .val (.int p1), .val (.int p2), .val (.int p3), .val (.int p4), .val (.int p5), .val (.int (0 : Int32)), .val (.ref ob2), .val (.int pA), .val (.int pE), .val (.ref ob11), .val (.int (leF (0 : Int32) (u kA) (u (kA + 1)) (u (kA + 2)) ((pA + (1 : Int32)) < pE) ((pA + (2 : Int32)) < pE))), .val (.int (pE - pA)), .val (.int ((u kA) &&& (255 : Int32))), .val (.int ((u (kA + 1)) &&& (255 : Int32))), .unset, .unset] [(.int pA), (.ref ob2)])
          refine Runs.back (fun t_ k_ => XS.iconst X13.here hx rfl (hb hby at_150) k_) ?_
          show Runs _ _ _ _ T13 (mkF m 151 #[.val (.int p0), .val (.int p1), .val (.int p2), .val (.int p3), .val (.int p4), .val (.int p5), .val (.int (0 : Int32)), .val (.ref ob2), .val (.int pA), .val (.int pE), .val (.ref ob11), .val (.int (leF (0 : Int32) (u kA) (u (kA + 1)) (u (kA + 2)) ((pA + (1 : Int32)) < pE) ((pA + (2 : Int32)) < pE))), .val (.int (pE - pA)), .val (.int ((u kA) &&& (255 : Int32))), .val (.int ((u (kA + 1)) &&& (255 : Int32))), .unset, .unset] [(.int (2 : Int32)), (.int pA), (.ref ob2)])
          refine Runs.back (fun t_ k_ => XS.iadd X13.here hx rfl (hb hby at_151) rfl k_) ?_
          show Runs _ _ _ _ T13 (mkF m 152 #[.val (.int p0), .val (.int p1), .val (.int p2), .val (.int p3), .val (.int p4), .val (.int p5), .val (.int (0 : Int32)), .val (.ref ob2), .val (.int pA), .val (.int pE), .val (.ref ob11), .val (.int (leF (0 : Int32) (u kA) (u (kA + 1)) (u (kA + 2)) ((pA + (1 : Int32)) < pE) ((pA + (2 : Int32)) < pE))), .val (.int (pE - pA)), .val (.int ((u kA) &&& (255 : Int32))), .val (.int ((u (kA + 1)) &&& (255 : Int32))), .unset, .unset] [(.int (pA + (2 : Int32))), (.ref ob2)])
          obtain ⟨cl22, Ar22, S22, Hs22⟩ := id f12_Arr_0
          have at22 : cl22.slots[((pA + (2 : Int32))).toNatClampNeg]? = some (.int (u (kA + 2))) := readO Hs22 j2.1 (show (kA + 2) < 4 from (hB4 (Classical.not_not.mp fun r => c143_21 (q3.mpr r)))) (rfl)
          refine Runs.back (fun t_ k_ => X13.baloadBytes hx (j := (pA + (2 : Int32))) (v := (.int (u (kA + 2)))) (by rw [eq13]; exact Ar22.1) (State.isArrayOf_alike hZ.alike Ar22.2.1) Ar22.2.2 (by rw [S22]; exact (inbO j2.2 j2.1 (show (kA + 2) < 4 from (hB4 (Classical.not_not.mp fun r => c143_21 (q3.mpr r)))))) at22 (g := (mkF m 152 #[.val (.int p0), .val (.int p1), .val (.int p2), .val (.int p3), .val (.int p4), .val (.int p5), .val (.int (0 : Int32)), .val (.ref ob2), .val (.int pA), .val (.int pE), .val (.ref ob11), .val (.int (leF (0 : Int32) (u kA) (u (kA + 1)) (u (kA + 2)) ((pA + (1 : Int32)) < pE) ((pA + (2 : Int32)) < pE))), .val (.int (pE - pA)), .val (.int ((u kA) &&& (255 : Int32))), .val (.int ((u (kA + 1)) &&& (255 : Int32))), .unset, .unset] [(.int (pA + (2 : Int32))), (.ref ob2)])) rfl rfl (hb hby at_152) _ k_) ?_
          show Runs _ _ _ _ T13 (mkF m 153 #[.val (.int p0), .val (.int p1), .val (.int p2), .val (.int p3), .val (.int p4), .val (.int p5), .val (.int (0 : Int32)), .val (.ref ob2), .val (.int pA), .val (.int pE), .val (.ref ob11), .val (.int (leF (0 : Int32) (u kA) (u (kA + 1)) (u (kA + 2)) ((pA + (1 : Int32)) < pE) ((pA + (2 : Int32)) < pE))), .val (.int (pE - pA)), .val (.int ((u kA) &&& (255 : Int32))), .val (.int ((u (kA + 1)) &&& (255 : Int32))), .unset, .unset] [(.int (u (kA + 2)))])
          refine Runs.back (fun t_ k_ => XS.sipush X13.here hx rfl (hb hby at_153) k_) ?_
          show Runs _ _ _ _ T13 (mkF m 156 #[.val (.int p0), .val (.int p1), .val (.int p2), .val (.int p3), .val (.int p4), .val (.int p5), .val (.int (0 : Int32)), .val (.ref ob2), .val (.int pA), .val (.int pE), .val (.ref ob11), .val (.int (leF (0 : Int32) (u kA) (u (kA + 1)) (u (kA + 2)) ((pA + (1 : Int32)) < pE) ((pA + (2 : Int32)) < pE))), .val (.int (pE - pA)), .val (.int ((u kA) &&& (255 : Int32))), .val (.int ((u (kA + 1)) &&& (255 : Int32))), .unset, .unset] [(.int (255 : Int32)), (.int (u (kA + 2)))])
          refine Runs.back (fun t_ k_ => XS.iand X13.here hx rfl (hb hby at_156) rfl k_) ?_
          show Runs _ _ _ _ T13 (mkF m 157 #[.val (.int p0), .val (.int p1), .val (.int p2), .val (.int p3), .val (.int p4), .val (.int p5), .val (.int (0 : Int32)), .val (.ref ob2), .val (.int pA), .val (.int pE), .val (.ref ob11), .val (.int (leF (0 : Int32) (u kA) (u (kA + 1)) (u (kA + 2)) ((pA + (1 : Int32)) < pE) ((pA + (2 : Int32)) < pE))), .val (.int (pE - pA)), .val (.int ((u kA) &&& (255 : Int32))), .val (.int ((u (kA + 1)) &&& (255 : Int32))), .unset, .unset] [(.int ((u (kA + 2)) &&& (255 : Int32)))])
          refine Runs.back (fun t_ k_ => XS.goto X13.here hx rfl (pc0 := 157) (pc' := 161) rfl (hb hby at_157) (by decide) (by decide) k_) ?_
          show Runs _ _ _ _ T13 (mkF m 161 #[.val (.int p0), .val (.int p1), .val (.int p2), .val (.int p3), .val (.int p4), .val (.int p5), .val (.int (0 : Int32)), .val (.ref ob2), .val (.int pA), .val (.int pE), .val (.ref ob11), .val (.int (leF (0 : Int32) (u kA) (u (kA + 1)) (u (kA + 2)) ((pA + (1 : Int32)) < pE) ((pA + (2 : Int32)) < pE))), .val (.int (pE - pA)), .val (.int ((u kA) &&& (255 : Int32))), .val (.int ((u (kA + 1)) &&& (255 : Int32))), .unset, .unset] [(.int ((u (kA + 2)) &&& (255 : Int32)))])
          refine Runs.back (fun t_ k_ => XS.istore X13.here hx rfl (hb hby at_161) rfl (l' := #[.val (.int p0), .val (.int p1), .val (.int p2), .val (.int p3), .val (.int p4), .val (.int p5), .val (.int (0 : Int32)), .val (.ref ob2), .val (.int pA), .val (.int pE), .val (.ref ob11), .val (.int (leF (0 : Int32) (u kA) (u (kA + 1)) (u (kA + 2)) ((pA + (1 : Int32)) < pE) ((pA + (2 : Int32)) < pE))), .val (.int (pE - pA)), .val (.int ((u kA) &&& (255 : Int32))), .val (.int ((u (kA + 1)) &&& (255 : Int32))), .val (.int ((u (kA + 2)) &&& (255 : Int32))), .unset]) rfl k_) ?_
          show Runs _ _ _ _ T13 (mkF m 163 #[.val (.int p0), .val (.int p1), .val (.int p2), .val (.int p3), .val (.int p4), .val (.int p5), .val (.int (0 : Int32)), .val (.ref ob2), .val (.int pA), .val (.int pE), .val (.ref ob11), .val (.int (leF (0 : Int32) (u kA) (u (kA + 1)) (u (kA + 2)) ((pA + (1 : Int32)) < pE) ((pA + (2 : Int32)) < pE))), .val (.int (pE - pA)), .val (.int ((u kA) &&& (255 : Int32))), .val (.int ((u (kA + 1)) &&& (255 : Int32))), .val (.int ((u (kA + 2)) &&& (255 : Int32))), .unset] [])
          exact J1 (((u (kA + 1)) &&& (255 : Int32)), ((u (kA + 2)) &&& (255 : Int32))) ⟨(if_pos (Classical.not_not.mp fun r => c120_17 (q2.mpr r))).symm, (if_pos (Classical.not_not.mp fun r => c143_21 (q3.mpr r))).symm⟩
  · refine Runs.back (fun t_ k_ => XS.ifNo X0.here hx rfl (hb hby at_3) rfl ((if0 _ _).trans (feq c3_1).1) k_) ?_
    show Runs _ _ _ _ s₁ (mkF m 6 #[.val (.int p0), .val (.int p1), .val (.int p2), .val (.int p3), .val (.int p4), .val (.int p5), .unset, .unset, .unset, .unset, .unset, .unset, .unset, .unset, .unset, .unset, .unset] [])
    refine Runs.back (fun t_ k_ => XS.iconst X0.here hx rfl (hb hby at_6) k_) ?_
    show Runs _ _ _ _ s₁ (mkF m 7 #[.val (.int p0), .val (.int p1), .val (.int p2), .val (.int p3), .val (.int p4), .val (.int p5), .unset, .unset, .unset, .unset, .unset, .unset, .unset, .unset, .unset, .unset, .unset] [(.int (1 : Int32))])
    refine Runs.back (fun t_ k_ => XS.goto X0.here hx rfl (pc0 := 7) (pc' := 11) rfl (hb hby at_7) (by decide) (by decide) k_) ?_
    show Runs _ _ _ _ s₁ (mkF m 11 #[.val (.int p0), .val (.int p1), .val (.int p2), .val (.int p3), .val (.int p4), .val (.int p5), .unset, .unset, .unset, .unset, .unset, .unset, .unset, .unset, .unset, .unset, .unset] [(.int (1 : Int32))])
    refine Runs.back (fun t_ k_ => XS.istore X0.here hx rfl (hb hby at_11) rfl (l' := #[.val (.int p0), .val (.int p1), .val (.int p2), .val (.int p3), .val (.int p4), .val (.int p5), .val (.int (1 : Int32)), .unset, .unset, .unset, .unset, .unset, .unset, .unset, .unset, .unset, .unset]) rfl k_) ?_
    show Runs _ _ _ _ s₁ (mkF m 13 #[.val (.int p0), .val (.int p1), .val (.int p2), .val (.int p3), .val (.int p4), .val (.int p5), .val (.int (1 : Int32)), .unset, .unset, .unset, .unset, .unset, .unset, .unset, .unset, .unset, .unset] [])
    refine Runs.back (fun t_ k_ => XS.iconst X0.here hx rfl (hb hby at_13) k_) ?_
    show Runs _ _ _ _ s₁ (mkF m 14 #[.val (.int p0), .val (.int p1), .val (.int p2), .val (.int p3), .val (.int p4), .val (.int p5), .val (.int (1 : Int32)), .unset, .unset, .unset, .unset, .unset, .unset, .unset, .unset, .unset, .unset] [(.int (4 : Int32))])
    obtain ⟨T23, h23, k23, X23, e23, E23, A23, st23⟩ := newP X0 hx hZ (hw _ (List.mem_of_getElem? (i := 0) rfl)) e0 (g := (mkF m 14 #[.val (.int p0), .val (.int p1), .val (.int p2), .val (.int p3), .val (.int p4), .val (.int p5), .val (.int (1 : Int32)), .unset, .unset, .unset, .unset, .unset, .unset, .unset, .unset, .unset, .unset] [(.int (4 : Int32))])) rfl (hb hby at_14) rfl (by decide) (cap := 4) (by decide) (by decide) (by decide) (by decide)
    obtain ⟨ob23, g23⟩ : ∃ z, z = h0.size := ⟨_, rfl⟩
    rw [← g23] at A23 st23
    have g_ob23 : n0 ≤ ob23 := Nat.le_trans (Z0) (Nat.le_of_eq g23.symm)
    have Z23 : n0 ≤ h23.size := Nat.le_trans (Z0) E23.1
    have V23 : OArr Z h23 ob23 .byte 4 (fun _ => (Value.int (0 : Int32))) := OArr.new A23 rfl rfl
    refine Runs.back st23 ?_
    show Runs _ _ _ _ T23 (mkF m 16 #[.val (.int p0), .val (.int p1), .val (.int p2), .val (.int p3), .val (.int p4), .val (.int p5), .val (.int (1 : Int32)), .unset, .unset, .unset, .unset, .unset, .unset, .unset, .unset, .unset, .unset] [(.ref ob23)])
    refine Runs.back (fun t_ k_ => XS.astore X23.here hx rfl (hb hby at_16) rfl rfl (l' := #[.val (.int p0), .val (.int p1), .val (.int p2), .val (.int p3), .val (.int p4), .val (.int p5), .val (.int (1 : Int32)), .val (.ref ob23), .unset, .unset, .unset, .unset, .unset, .unset, .unset, .unset, .unset]) rfl k_) ?_
    show Runs _ _ _ _ T23 (mkF m 18 #[.val (.int p0), .val (.int p1), .val (.int p2), .val (.int p3), .val (.int p4), .val (.int p5), .val (.int (1 : Int32)), .val (.ref ob23), .unset, .unset, .unset, .unset, .unset, .unset, .unset, .unset, .unset] [])
    refine Runs.back (fun t_ k_ => XS.aload X23.here hx rfl (hb hby at_18) rfl rfl k_) ?_
    show Runs _ _ _ _ T23 (mkF m 20 #[.val (.int p0), .val (.int p1), .val (.int p2), .val (.int p3), .val (.int p4), .val (.int p5), .val (.int (1 : Int32)), .val (.ref ob23), .unset, .unset, .unset, .unset, .unset, .unset, .unset, .unset, .unset] [(.ref ob23)])
    refine Runs.back (fun t_ k_ => XS.iconst X23.here hx rfl (hb hby at_20) k_) ?_
    show Runs _ _ _ _ T23 (mkF m 21 #[.val (.int p0), .val (.int p1), .val (.int p2), .val (.int p3), .val (.int p4), .val (.int p5), .val (.int (1 : Int32)), .val (.ref ob23), .unset, .unset, .unset, .unset, .unset, .unset, .unset, .unset, .unset] [(.int (0 : Int32)), (.ref ob23)])
    refine Runs.back (fun t_ k_ => XS.iloadN X23.here hx rfl (hb hby at_21) rfl k_) ?_
    show Runs _ _ _ _ T23 (mkF m 22 #[.val (.int p0), .val (.int p1), .val (.int p2), .val (.int p3), .val (.int p4), .val (.int p5), .val (.int (1 : Int32)), .val (.ref ob23), .unset, .unset, .unset, .unset, .unset, .unset, .unset, .unset, .unset] [(.int p1), (.int (0 : Int32)), (.ref ob23)])
    obtain ⟨_, _, ⟨T24, L24, k24, n24⟩, -, X24, ⟨Lc24, hQ24, l24, y24, z24⟩, st24⟩ := Jvm.LawKit.callS X23 hx (y := (⟨"com/example/strict_distinct/strictdistinct/XmlPositionLineEndAtPinLaw", "pick", "(I)B"⟩ : MethodName)) hown (mvT hZ (hw _ (List.mem_of_getElem? (i := 1) rfl))) (mvT hZ (hw _ (List.mem_of_getElem? (i := 2) rfl))) (mvT hZ (hw _ (List.mem_of_getElem? (i := 3) rfl))) (mvT hZ (hw _ (List.mem_of_getElem? (i := 4) rfl))) (by decide) (backOf (W := 2) (rm1 l Z a0 hw [] p1 h23 n0 (Z23)) hZ (hw _ (List.mem_of_getElem? (i := 4) rfl)) (hw _ (List.mem_of_getElem? (i := 3) rfl)) (by decide) (by decide)) (g := (mkF m 22 #[.val (.int p0), .val (.int p1), .val (.int p2), .val (.int p3), .val (.int p4), .val (.int p5), .val (.int (1 : Int32)), .val (.ref ob23), .unset, .unset, .unset, .unset, .unset, .unset, .unset, .unset, .unset] [(.int p1), (.int (0 : Int32)), (.ref ob23)])) rfl (by rw [hml]; rfl) (argsL := [(.int p1)]) (rest := [(.int (0 : Int32)), (.ref ob23)]) (lenOf pd0_0 rfl) rfl (by show 2 * 0 + _ ≤ _; exact Nat.le_of_eq rfl) (hb hby at_22) (fun _ _ => ⟨rfl, e23, (by decide : 1 + 0 ≤ _), (by decide : 4 + 0 ≤ _)⟩)
    dsimp only [Pt.U, Pt.locs, Pt.cells, Pt.slots] at X24 l24 y24 z24 st24 hQ24
    subst l24 y24 z24
    obtain ⟨z24, rfl, N24q, eq24⟩ := hQ24
    have N24 := Fr.app N0 N24q
    refine Runs.back st24 ?_
    show Runs _ _ _ _ T24 (mkF m 25 #[.val (.int p0), .val (.int p1), .val (.int p2), .val (.int p3), .val (.int p4), .val (.int p5), .val (.int (1 : Int32)), .val (.ref ob23), .unset, .unset, .unset, .unset, .unset, .unset, .unset, .unset, .unset] [(.int z24), (.int (0 : Int32)), (.ref ob23)])
    obtain ⟨cl25, Ar25, S25, Hs25⟩ := id V23
    obtain ⟨T25, h25, X25, e25, W25, st25⟩ := stB X24 hx hZ eq24 Ar25 (j := (0 : Int32)) (by rw [S25]; exact (inbO (by decide : ¬ (0 : Int32) < 0) (rfl : ((0 : Int32)).toNatClampNeg = 0) (show 0 < 4 from (by decide)))) (g := (mkF m 25 #[.val (.int p0), .val (.int p1), .val (.int p2), .val (.int p3), .val (.int p4), .val (.int p5), .val (.int (1 : Int32)), .val (.ref ob23), .unset, .unset, .unset, .unset, .unset, .unset, .unset, .unset, .unset] [(.int z24), (.int (0 : Int32)), (.ref ob23)])) rfl rfl (hb hby at_25)
    have N25 := Fr.snoc X25 N24 g_ob23
    rw [(rfl : ((0 : Int32)).toNatClampNeg = 0)] at W25
    have f25_Arr_0 : OArr Z h25 ob23 .byte 4 (fun i => if i = 0 then (Value.int (nar .byte z24)) else (fun _ => (Value.int (0 : Int32))) i) := V23.set W25
    have Z25 : n0 ≤ h25.size := Nat.le_trans (Z23) (Nat.le_of_eq W25.size.symm)
    refine Runs.back st25 ?_
    show Runs _ _ _ _ T25 (mkF m 26 #[.val (.int p0), .val (.int p1), .val (.int p2), .val (.int p3), .val (.int p4), .val (.int p5), .val (.int (1 : Int32)), .val (.ref ob23), .unset, .unset, .unset, .unset, .unset, .unset, .unset, .unset, .unset] [])
    refine Runs.back (fun t_ k_ => XS.aload X25.here hx rfl (hb hby at_26) rfl rfl k_) ?_
    show Runs _ _ _ _ T25 (mkF m 28 #[.val (.int p0), .val (.int p1), .val (.int p2), .val (.int p3), .val (.int p4), .val (.int p5), .val (.int (1 : Int32)), .val (.ref ob23), .unset, .unset, .unset, .unset, .unset, .unset, .unset, .unset, .unset] [(.ref ob23)])
    refine Runs.back (fun t_ k_ => XS.iconst X25.here hx rfl (hb hby at_28) k_) ?_
    show Runs _ _ _ _ T25 (mkF m 29 #[.val (.int p0), .val (.int p1), .val (.int p2), .val (.int p3), .val (.int p4), .val (.int p5), .val (.int (1 : Int32)), .val (.ref ob23), .unset, .unset, .unset, .unset, .unset, .unset, .unset, .unset, .unset] [(.int (1 : Int32)), (.ref ob23)])
    refine Runs.back (fun t_ k_ => XS.iloadN X25.here hx rfl (hb hby at_29) rfl k_) ?_
    show Runs _ _ _ _ T25 (mkF m 30 #[.val (.int p0), .val (.int p1), .val (.int p2), .val (.int p3), .val (.int p4), .val (.int p5), .val (.int (1 : Int32)), .val (.ref ob23), .unset, .unset, .unset, .unset, .unset, .unset, .unset, .unset, .unset] [(.int p2), (.int (1 : Int32)), (.ref ob23)])
    obtain ⟨_, _, ⟨T26, L26, k26, n26⟩, -, X26, ⟨Lc26, hQ26, l26, y26, z26⟩, st26⟩ := Jvm.LawKit.callS X25 hx (y := (⟨"com/example/strict_distinct/strictdistinct/XmlPositionLineEndAtPinLaw", "pick", "(I)B"⟩ : MethodName)) hown (mvT hZ (hw _ (List.mem_of_getElem? (i := 1) rfl))) (mvT hZ (hw _ (List.mem_of_getElem? (i := 2) rfl))) (mvT hZ (hw _ (List.mem_of_getElem? (i := 3) rfl))) (mvT hZ (hw _ (List.mem_of_getElem? (i := 4) rfl))) (by decide) (backOf (W := 2) (rm1 l Z a0 hw [] p2 h25 n0 (Z25)) hZ (hw _ (List.mem_of_getElem? (i := 4) rfl)) (hw _ (List.mem_of_getElem? (i := 3) rfl)) (by decide) (by decide)) (g := (mkF m 30 #[.val (.int p0), .val (.int p1), .val (.int p2), .val (.int p3), .val (.int p4), .val (.int p5), .val (.int (1 : Int32)), .val (.ref ob23), .unset, .unset, .unset, .unset, .unset, .unset, .unset, .unset, .unset] [(.int p2), (.int (1 : Int32)), (.ref ob23)])) rfl (by rw [hml]; rfl) (argsL := [(.int p2)]) (rest := [(.int (1 : Int32)), (.ref ob23)]) (lenOf pd0_0 rfl) rfl (by show 2 * 0 + _ ≤ _; exact Nat.le_of_eq rfl) (hb hby at_30) (fun _ _ => ⟨rfl, e25, (by decide : 1 + 0 ≤ _), (by decide : 4 + 0 ≤ _)⟩)
    dsimp only [Pt.U, Pt.locs, Pt.cells, Pt.slots] at X26 l26 y26 z26 st26 hQ26
    subst l26 y26 z26
    obtain ⟨z26, rfl, N26q, eq26⟩ := hQ26
    have N26 := Fr.app N25 N26q
    refine Runs.back st26 ?_
    show Runs _ _ _ _ T26 (mkF m 33 #[.val (.int p0), .val (.int p1), .val (.int p2), .val (.int p3), .val (.int p4), .val (.int p5), .val (.int (1 : Int32)), .val (.ref ob23), .unset, .unset, .unset, .unset, .unset, .unset, .unset, .unset, .unset] [(.int z26), (.int (1 : Int32)), (.ref ob23)])
    obtain ⟨cl27, Ar27, S27, Hs27⟩ := id f25_Arr_0
    obtain ⟨T27, h27, X27, e27, W27, st27⟩ := stB X26 hx hZ eq26 Ar27 (j := (1 : Int32)) (by rw [S27]; exact (inbO (by decide : ¬ (1 : Int32) < 0) (rfl : ((1 : Int32)).toNatClampNeg = 1) (show 1 < 4 from (by decide)))) (g := (mkF m 33 #[.val (.int p0), .val (.int p1), .val (.int p2), .val (.int p3), .val (.int p4), .val (.int p5), .val (.int (1 : Int32)), .val (.ref ob23), .unset, .unset, .unset, .unset, .unset, .unset, .unset, .unset, .unset] [(.int z26), (.int (1 : Int32)), (.ref ob23)])) rfl rfl (hb hby at_33)
    have N27 := Fr.snoc X27 N26 g_ob23
    rw [(rfl : ((1 : Int32)).toNatClampNeg = 1)] at W27
    have f27_Arr_0 : OArr Z h27 ob23 .byte 4 (fun i => if i = 1 then (Value.int (nar .byte z26)) else (fun i => if i = 0 then (Value.int (nar .byte z24)) else (fun _ => (Value.int (0 : Int32))) i) i) := f25_Arr_0.set W27
    have Z27 : n0 ≤ h27.size := Nat.le_trans (Z25) (Nat.le_of_eq W27.size.symm)
    refine Runs.back st27 ?_
    show Runs _ _ _ _ T27 (mkF m 34 #[.val (.int p0), .val (.int p1), .val (.int p2), .val (.int p3), .val (.int p4), .val (.int p5), .val (.int (1 : Int32)), .val (.ref ob23), .unset, .unset, .unset, .unset, .unset, .unset, .unset, .unset, .unset] [])
    refine Runs.back (fun t_ k_ => XS.aload X27.here hx rfl (hb hby at_34) rfl rfl k_) ?_
    show Runs _ _ _ _ T27 (mkF m 36 #[.val (.int p0), .val (.int p1), .val (.int p2), .val (.int p3), .val (.int p4), .val (.int p5), .val (.int (1 : Int32)), .val (.ref ob23), .unset, .unset, .unset, .unset, .unset, .unset, .unset, .unset, .unset] [(.ref ob23)])
    refine Runs.back (fun t_ k_ => XS.iconst X27.here hx rfl (hb hby at_36) k_) ?_
    show Runs _ _ _ _ T27 (mkF m 37 #[.val (.int p0), .val (.int p1), .val (.int p2), .val (.int p3), .val (.int p4), .val (.int p5), .val (.int (1 : Int32)), .val (.ref ob23), .unset, .unset, .unset, .unset, .unset, .unset, .unset, .unset, .unset] [(.int (2 : Int32)), (.ref ob23)])
    refine Runs.back (fun t_ k_ => XS.iloadN X27.here hx rfl (hb hby at_37) rfl k_) ?_
    show Runs _ _ _ _ T27 (mkF m 38 #[.val (.int p0), .val (.int p1), .val (.int p2), .val (.int p3), .val (.int p4), .val (.int p5), .val (.int (1 : Int32)), .val (.ref ob23), .unset, .unset, .unset, .unset, .unset, .unset, .unset, .unset, .unset] [(.int p3), (.int (2 : Int32)), (.ref ob23)])
    obtain ⟨_, _, ⟨T28, L28, k28, n28⟩, -, X28, ⟨Lc28, hQ28, l28, y28, z28⟩, st28⟩ := Jvm.LawKit.callS X27 hx (y := (⟨"com/example/strict_distinct/strictdistinct/XmlPositionLineEndAtPinLaw", "pick", "(I)B"⟩ : MethodName)) hown (mvT hZ (hw _ (List.mem_of_getElem? (i := 1) rfl))) (mvT hZ (hw _ (List.mem_of_getElem? (i := 2) rfl))) (mvT hZ (hw _ (List.mem_of_getElem? (i := 3) rfl))) (mvT hZ (hw _ (List.mem_of_getElem? (i := 4) rfl))) (by decide) (backOf (W := 2) (rm1 l Z a0 hw [] p3 h27 n0 (Z27)) hZ (hw _ (List.mem_of_getElem? (i := 4) rfl)) (hw _ (List.mem_of_getElem? (i := 3) rfl)) (by decide) (by decide)) (g := (mkF m 38 #[.val (.int p0), .val (.int p1), .val (.int p2), .val (.int p3), .val (.int p4), .val (.int p5), .val (.int (1 : Int32)), .val (.ref ob23), .unset, .unset, .unset, .unset, .unset, .unset, .unset, .unset, .unset] [(.int p3), (.int (2 : Int32)), (.ref ob23)])) rfl (by rw [hml]; rfl) (argsL := [(.int p3)]) (rest := [(.int (2 : Int32)), (.ref ob23)]) (lenOf pd0_0 rfl) rfl (by show 2 * 0 + _ ≤ _; exact Nat.le_of_eq rfl) (hb hby at_38) (fun _ _ => ⟨rfl, e27, (by decide : 1 + 0 ≤ _), (by decide : 4 + 0 ≤ _)⟩)
    dsimp only [Pt.U, Pt.locs, Pt.cells, Pt.slots] at X28 l28 y28 z28 st28 hQ28
    subst l28 y28 z28
    obtain ⟨z28, rfl, N28q, eq28⟩ := hQ28
    have N28 := Fr.app N27 N28q
    refine Runs.back st28 ?_
    show Runs _ _ _ _ T28 (mkF m 41 #[.val (.int p0), .val (.int p1), .val (.int p2), .val (.int p3), .val (.int p4), .val (.int p5), .val (.int (1 : Int32)), .val (.ref ob23), .unset, .unset, .unset, .unset, .unset, .unset, .unset, .unset, .unset] [(.int z28), (.int (2 : Int32)), (.ref ob23)])
    obtain ⟨cl29, Ar29, S29, Hs29⟩ := id f27_Arr_0
    obtain ⟨T29, h29, X29, e29, W29, st29⟩ := stB X28 hx hZ eq28 Ar29 (j := (2 : Int32)) (by rw [S29]; exact (inbO (by decide : ¬ (2 : Int32) < 0) (rfl : ((2 : Int32)).toNatClampNeg = 2) (show 2 < 4 from (by decide)))) (g := (mkF m 41 #[.val (.int p0), .val (.int p1), .val (.int p2), .val (.int p3), .val (.int p4), .val (.int p5), .val (.int (1 : Int32)), .val (.ref ob23), .unset, .unset, .unset, .unset, .unset, .unset, .unset, .unset, .unset] [(.int z28), (.int (2 : Int32)), (.ref ob23)])) rfl rfl (hb hby at_41)
    have N29 := Fr.snoc X29 N28 g_ob23
    rw [(rfl : ((2 : Int32)).toNatClampNeg = 2)] at W29
    have f29_Arr_0 : OArr Z h29 ob23 .byte 4 (fun i => if i = 2 then (Value.int (nar .byte z28)) else (fun i => if i = 1 then (Value.int (nar .byte z26)) else (fun i => if i = 0 then (Value.int (nar .byte z24)) else (fun _ => (Value.int (0 : Int32))) i) i) i) := f27_Arr_0.set W29
    have Z29 : n0 ≤ h29.size := Nat.le_trans (Z27) (Nat.le_of_eq W29.size.symm)
    refine Runs.back st29 ?_
    show Runs _ _ _ _ T29 (mkF m 42 #[.val (.int p0), .val (.int p1), .val (.int p2), .val (.int p3), .val (.int p4), .val (.int p5), .val (.int (1 : Int32)), .val (.ref ob23), .unset, .unset, .unset, .unset, .unset, .unset, .unset, .unset, .unset] [])
    refine Runs.back (fun t_ k_ => XS.aload X29.here hx rfl (hb hby at_42) rfl rfl k_) ?_
    show Runs _ _ _ _ T29 (mkF m 44 #[.val (.int p0), .val (.int p1), .val (.int p2), .val (.int p3), .val (.int p4), .val (.int p5), .val (.int (1 : Int32)), .val (.ref ob23), .unset, .unset, .unset, .unset, .unset, .unset, .unset, .unset, .unset] [(.ref ob23)])
    refine Runs.back (fun t_ k_ => XS.iconst X29.here hx rfl (hb hby at_44) k_) ?_
    show Runs _ _ _ _ T29 (mkF m 45 #[.val (.int p0), .val (.int p1), .val (.int p2), .val (.int p3), .val (.int p4), .val (.int p5), .val (.int (1 : Int32)), .val (.ref ob23), .unset, .unset, .unset, .unset, .unset, .unset, .unset, .unset, .unset] [(.int (3 : Int32)), (.ref ob23)])
    refine Runs.back (fun t_ k_ => XS.iload X29.here hx rfl (hb hby at_45) rfl k_) ?_
    show Runs _ _ _ _ T29 (mkF m 47 #[.val (.int p0), .val (.int p1), .val (.int p2), .val (.int p3), .val (.int p4), .val (.int p5), .val (.int (1 : Int32)), .val (.ref ob23), .unset, .unset, .unset, .unset, .unset, .unset, .unset, .unset, .unset] [(.int p4), (.int (3 : Int32)), (.ref ob23)])
    obtain ⟨_, _, ⟨T30, L30, k30, n30⟩, -, X30, ⟨Lc30, hQ30, l30, y30, z30⟩, st30⟩ := Jvm.LawKit.callS X29 hx (y := (⟨"com/example/strict_distinct/strictdistinct/XmlPositionLineEndAtPinLaw", "pick", "(I)B"⟩ : MethodName)) hown (mvT hZ (hw _ (List.mem_of_getElem? (i := 1) rfl))) (mvT hZ (hw _ (List.mem_of_getElem? (i := 2) rfl))) (mvT hZ (hw _ (List.mem_of_getElem? (i := 3) rfl))) (mvT hZ (hw _ (List.mem_of_getElem? (i := 4) rfl))) (by decide) (backOf (W := 2) (rm1 l Z a0 hw [] p4 h29 n0 (Z29)) hZ (hw _ (List.mem_of_getElem? (i := 4) rfl)) (hw _ (List.mem_of_getElem? (i := 3) rfl)) (by decide) (by decide)) (g := (mkF m 47 #[.val (.int p0), .val (.int p1), .val (.int p2), .val (.int p3), .val (.int p4), .val (.int p5), .val (.int (1 : Int32)), .val (.ref ob23), .unset, .unset, .unset, .unset, .unset, .unset, .unset, .unset, .unset] [(.int p4), (.int (3 : Int32)), (.ref ob23)])) rfl (by rw [hml]; rfl) (argsL := [(.int p4)]) (rest := [(.int (3 : Int32)), (.ref ob23)]) (lenOf pd0_0 rfl) rfl (by show 2 * 0 + _ ≤ _; exact Nat.le_of_eq rfl) (hb hby at_47) (fun _ _ => ⟨rfl, e29, (by decide : 1 + 0 ≤ _), (by decide : 4 + 0 ≤ _)⟩)
    dsimp only [Pt.U, Pt.locs, Pt.cells, Pt.slots] at X30 l30 y30 z30 st30 hQ30
    subst l30 y30 z30
    obtain ⟨z30, rfl, N30q, eq30⟩ := hQ30
    have N30 := Fr.app N29 N30q
    refine Runs.back st30 ?_
    show Runs _ _ _ _ T30 (mkF m 50 #[.val (.int p0), .val (.int p1), .val (.int p2), .val (.int p3), .val (.int p4), .val (.int p5), .val (.int (1 : Int32)), .val (.ref ob23), .unset, .unset, .unset, .unset, .unset, .unset, .unset, .unset, .unset] [(.int z30), (.int (3 : Int32)), (.ref ob23)])
    obtain ⟨cl31, Ar31, S31, Hs31⟩ := id f29_Arr_0
    obtain ⟨T31, h31, X31, e31, W31, st31⟩ := stB X30 hx hZ eq30 Ar31 (j := (3 : Int32)) (by rw [S31]; exact (inbO (by decide : ¬ (3 : Int32) < 0) (rfl : ((3 : Int32)).toNatClampNeg = 3) (show 3 < 4 from (by decide)))) (g := (mkF m 50 #[.val (.int p0), .val (.int p1), .val (.int p2), .val (.int p3), .val (.int p4), .val (.int p5), .val (.int (1 : Int32)), .val (.ref ob23), .unset, .unset, .unset, .unset, .unset, .unset, .unset, .unset, .unset] [(.int z30), (.int (3 : Int32)), (.ref ob23)])) rfl rfl (hb hby at_50)
    have N31 := Fr.snoc X31 N30 g_ob23
    rw [(rfl : ((3 : Int32)).toNatClampNeg = 3)] at W31
    have f31_Arr_0 : OArr Z h31 ob23 .byte 4 (fun i => if i = 3 then (Value.int (nar .byte z30)) else (fun i => if i = 2 then (Value.int (nar .byte z28)) else (fun i => if i = 1 then (Value.int (nar .byte z26)) else (fun i => if i = 0 then (Value.int (nar .byte z24)) else (fun _ => (Value.int (0 : Int32))) i) i) i) i) := f29_Arr_0.set W31
    have Z31 : n0 ≤ h31.size := Nat.le_trans (Z29) (Nat.le_of_eq W31.size.symm)
    refine Runs.back st31 ?_
    show Runs _ _ _ _ T31 (mkF m 51 #[.val (.int p0), .val (.int p1), .val (.int p2), .val (.int p3), .val (.int p4), .val (.int p5), .val (.int (1 : Int32)), .val (.ref ob23), .unset, .unset, .unset, .unset, .unset, .unset, .unset, .unset, .unset] [])
    obtain ⟨u, hu, hub⟩ : ∃ u : Nat → Int32, (∀ i, i < 4 → (fun i => if i = 3 then (Value.int (nar .byte z30)) else (fun i => if i = 2 then (Value.int (nar .byte z28)) else (fun i => if i = 1 then (Value.int (nar .byte z26)) else (fun i => if i = 0 then (Value.int (nar .byte z24)) else (fun _ => (Value.int (0 : Int32))) i) i) i) i) i = (Value.int (u i))) ∧ ∀ i, -128 ≤ (u i).toInt ∧ (u i).toInt < 128 := by
      refine ⟨fun i => if i = 3 then nar .byte z30 else if i = 2 then nar .byte z28 else if i = 1 then nar .byte z26 else nar .byte z24, fun i hi => ?_, fun i => ?_⟩
      · match i, hi with
        | 0, _ => rfl
        | 1, _ => rfl
        | 2, _ => rfl
        | 3, _ => rfl
      · have q := fun z => (c_i2b z).2
        dsimp only
        split
        · exact q _
        · split
          · exact q _
          · split
            · exact q _
            · exact q _
    have V51 : OArr Z h31 ob23 .byte 4 (fun i => (Value.int (u i))) := f31_Arr_0.congr hu
    refine Runs.back (fun t_ k_ => XS.iload X31.here hx rfl (hb hby at_51) rfl k_) ?_
    show Runs _ _ _ _ T31 (mkF m 53 #[.val (.int p0), .val (.int p1), .val (.int p2), .val (.int p3), .val (.int p4), .val (.int p5), .val (.int (1 : Int32)), .val (.ref ob23), .unset, .unset, .unset, .unset, .unset, .unset, .unset, .unset, .unset] [(.int p5)])
    refine Runs.back (X31.ldcInt hx hown (mvT hZ (hw _ (List.mem_of_getElem? (i := 5) rfl))) (g := (mkF m 53 #[.val (.int p0), .val (.int p1), .val (.int p2), .val (.int p3), .val (.int p4), .val (.int p5), .val (.int (1 : Int32)), .val (.ref ob23), .unset, .unset, .unset, .unset, .unset, .unset, .unset, .unset, .unset] [(.int p5)])) rfl (hb hby at_53)) ?_
    show Runs _ _ _ _ T31 (mkF m 55 #[.val (.int p0), .val (.int p1), .val (.int p2), .val (.int p3), .val (.int p4), .val (.int p5), .val (.int (1 : Int32)), .val (.ref ob23), .unset, .unset, .unset, .unset, .unset, .unset, .unset, .unset, .unset] [(.int (2147483647 : Int32)), (.int p5)])
    refine Runs.back (fun t_ k_ => XS.iand X31.here hx rfl (hb hby at_55) rfl k_) ?_
    show Runs _ _ _ _ T31 (mkF m 56 #[.val (.int p0), .val (.int p1), .val (.int p2), .val (.int p3), .val (.int p4), .val (.int p5), .val (.int (1 : Int32)), .val (.ref ob23), .unset, .unset, .unset, .unset, .unset, .unset, .unset, .unset, .unset] [(.int (p5 &&& (2147483647 : Int32)))])
    refine Runs.back (fun t_ k_ => XS.iconst X31.here hx rfl (hb hby at_56) k_) ?_
    show Runs _ _ _ _ T31 (mkF m 57 #[.val (.int p0), .val (.int p1), .val (.int p2), .val (.int p3), .val (.int p4), .val (.int p5), .val (.int (1 : Int32)), .val (.ref ob23), .unset, .unset, .unset, .unset, .unset, .unset, .unset, .unset, .unset] [(.int (4 : Int32)), (.int (p5 &&& (2147483647 : Int32)))])
    refine Runs.back (fun t_ k_ => iremM X31 hx rfl (hb hby at_57) rfl (by decide) k_) ?_
    show Runs _ _ _ _ T31 (mkF m 58 #[.val (.int p0), .val (.int p1), .val (.int p2), .val (.int p3), .val (.int p4), .val (.int p5), .val (.int (1 : Int32)), .val (.ref ob23), .unset, .unset, .unset, .unset, .unset, .unset, .unset, .unset, .unset] [(.int ((p5 &&& (2147483647 : Int32)) % (4 : Int32)))])
    have bA := (c_irem (p5 &&& (2147483647 : Int32)) 4 4 (by decide)).1 (by rw [c_mask p5 _ 31 (by decide) (by decide)]; omega)
    generalize epA : ((p5 &&& (2147483647 : Int32)) % (4 : Int32)) = pA at bA ⊢
    show Runs _ _ _ _ T31 (mkF m 58 #[.val (.int p0), .val (.int p1), .val (.int p2), .val (.int p3), .val (.int p4), .val (.int p5), .val (.int (1 : Int32)), .val (.ref ob23), .unset, .unset, .unset, .unset, .unset, .unset, .unset, .unset, .unset] [(.int pA)])
    have b2A : 0 ≤ pA.toInt ∧ pA.toInt < 4 := by omega
    have hnA : ¬ pA < 0 := by rw [lti, z32]; omega
    obtain ⟨kA, hkA⟩ : ∃ k, pA.toNatClampNeg = k := ⟨_, rfl⟩
    have hkI : pA.toInt = (kA : Int) := by rw [← hkA]; exact nat_of hnA
    have hk4 : kA < 4 := by omega
    have j1 := idxS hkA hnA (show (1 : Int32).toInt = ((1 : Nat) : Int) from by decide) (by omega)
    have j2 := idxS hkA hnA (show (2 : Int32).toInt = ((2 : Nat) : Int) from by decide) (by omega)
    refine Runs.back (fun t_ k_ => XS.istore X31.here hx rfl (hb hby at_58) rfl (l' := #[.val (.int p0), .val (.int p1), .val (.int p2), .val (.int p3), .val (.int p4), .val (.int p5), .val (.int (1 : Int32)), .val (.ref ob23), .val (.int pA), .unset, .unset, .unset, .unset, .unset, .unset, .unset, .unset]) rfl k_) ?_
    show Runs _ _ _ _ T31 (mkF m 60 #[.val (.int p0), .val (.int p1), .val (.int p2), .val (.int p3), .val (.int p4), .val (.int p5), .val (.int (1 : Int32)), .val (.ref ob23), .val (.int pA), .unset, .unset, .unset, .unset, .unset, .unset, .unset, .unset] [])
    refine Runs.back (fun t_ k_ => XS.iload X31.here hx rfl (hb hby at_60) rfl k_) ?_
    show Runs _ _ _ _ T31 (mkF m 62 #[.val (.int p0), .val (.int p1), .val (.int p2), .val (.int p3), .val (.int p4), .val (.int p5), .val (.int (1 : Int32)), .val (.ref ob23), .val (.int pA), .unset, .unset, .unset, .unset, .unset, .unset, .unset, .unset] [(.int pA)])
    refine Runs.back (fun t_ k_ => XS.iconst X31.here hx rfl (hb hby at_62) k_) ?_
    show Runs _ _ _ _ T31 (mkF m 63 #[.val (.int p0), .val (.int p1), .val (.int p2), .val (.int p3), .val (.int p4), .val (.int p5), .val (.int (1 : Int32)), .val (.ref ob23), .val (.int pA), .unset, .unset, .unset, .unset, .unset, .unset, .unset, .unset] [(.int (1 : Int32)), (.int pA)])
    refine Runs.back (fun t_ k_ => XS.iadd X31.here hx rfl (hb hby at_63) rfl k_) ?_
    show Runs _ _ _ _ T31 (mkF m 64 #[.val (.int p0), .val (.int p1), .val (.int p2), .val (.int p3), .val (.int p4), .val (.int p5), .val (.int (1 : Int32)), .val (.ref ob23), .val (.int pA), .unset, .unset, .unset, .unset, .unset, .unset, .unset, .unset] [(.int (pA + (1 : Int32)))])
    refine Runs.back (fun t_ k_ => XS.iloadN X31.here hx rfl (hb hby at_64) rfl k_) ?_
    show Runs _ _ _ _ T31 (mkF m 65 #[.val (.int p0), .val (.int p1), .val (.int p2), .val (.int p3), .val (.int p4), .val (.int p5), .val (.int (1 : Int32)), .val (.ref ob23), .val (.int pA), .unset, .unset, .unset, .unset, .unset, .unset, .unset, .unset] [(.int p0), (.int (pA + (1 : Int32)))])
    refine Runs.back (fun t_ k_ => XS.iconst X31.here hx rfl (hb hby at_65) k_) ?_
    show Runs _ _ _ _ T31 (mkF m 66 #[.val (.int p0), .val (.int p1), .val (.int p2), .val (.int p3), .val (.int p4), .val (.int p5), .val (.int (1 : Int32)), .val (.ref ob23), .val (.int pA), .unset, .unset, .unset, .unset, .unset, .unset, .unset, .unset] [(.int (1 : Int32)), (.int p0), (.int (pA + (1 : Int32)))])
    refine Runs.back (fun t_ k_ => XS.iushr X31.here hx rfl (hb hby at_66) rfl k_) ?_
    show Runs _ _ _ _ T31 (mkF m 67 #[.val (.int p0), .val (.int p1), .val (.int p2), .val (.int p3), .val (.int p4), .val (.int p5), .val (.int (1 : Int32)), .val (.ref ob23), .val (.int pA), .unset, .unset, .unset, .unset, .unset, .unset, .unset, .unset] [(.int ((p0.toUInt32 >>> ((1 : Int32) &&& 31).toUInt32).toInt32)), (.int (pA + (1 : Int32)))])
    refine Runs.back (fun t_ k_ => XS.iconst X31.here hx rfl (hb hby at_67) k_) ?_
    show Runs _ _ _ _ T31 (mkF m 68 #[.val (.int p0), .val (.int p1), .val (.int p2), .val (.int p3), .val (.int p4), .val (.int p5), .val (.int (1 : Int32)), .val (.ref ob23), .val (.int pA), .unset, .unset, .unset, .unset, .unset, .unset, .unset, .unset] [(.int (4 : Int32)), (.int ((p0.toUInt32 >>> ((1 : Int32) &&& 31).toUInt32).toInt32)), (.int (pA + (1 : Int32)))])
    refine Runs.back (fun t_ k_ => XS.iload X31.here hx rfl (hb hby at_68) rfl k_) ?_
    show Runs _ _ _ _ T31 (mkF m 70 #[.val (.int p0), .val (.int p1), .val (.int p2), .val (.int p3), .val (.int p4), .val (.int p5), .val (.int (1 : Int32)), .val (.ref ob23), .val (.int pA), .unset, .unset, .unset, .unset, .unset, .unset, .unset, .unset] [(.int pA), (.int (4 : Int32)), (.int ((p0.toUInt32 >>> ((1 : Int32) &&& 31).toUInt32).toInt32)), (.int (pA + (1 : Int32)))])
    refine Runs.back (fun t_ k_ => XS.isub X31.here hx rfl (hb hby at_70) rfl k_) ?_
    show Runs _ _ _ _ T31 (mkF m 71 #[.val (.int p0), .val (.int p1), .val (.int p2), .val (.int p3), .val (.int p4), .val (.int p5), .val (.int (1 : Int32)), .val (.ref ob23), .val (.int pA), .unset, .unset, .unset, .unset, .unset, .unset, .unset, .unset] [(.int ((4 : Int32) - pA)), (.int ((p0.toUInt32 >>> ((1 : Int32) &&& 31).toUInt32).toInt32)), (.int (pA + (1 : Int32)))])
    have y4 : (((4 : Int32) - pA)).toInt = (4 : Int32).toInt - pA.toInt := sub32 (by rw [show (4 : Int32).toInt = 4 from by decide]; omega) (by rw [show (4 : Int32).toInt = 4 from by decide]; omega)
    rw [show (4 : Int32).toInt = 4 from by decide] at y4
    have yn : ¬ (((4 : Int32) - pA)) = (0 : Int32) := by rw [eqi, z32]; omega
    have x0 : 0 ≤ (((p0.toUInt32 >>> ((1 : Int32) &&& 31).toUInt32).toInt32)).toInt := by rw [c_iushr p0 1 1 (by decide) (by decide)]; omega
    have rb := (c_iremV (((p0.toUInt32 >>> ((1 : Int32) &&& 31).toUInt32).toInt32)) (((4 : Int32) - pA))).1 x0 (by omega)
    refine Runs.back (fun t_ k_ => iremM X31 hx rfl (hb hby at_71) rfl yn k_) ?_
    show Runs _ _ _ _ T31 (mkF m 72 #[.val (.int p0), .val (.int p1), .val (.int p2), .val (.int p3), .val (.int p4), .val (.int p5), .val (.int (1 : Int32)), .val (.ref ob23), .val (.int pA), .unset, .unset, .unset, .unset, .unset, .unset, .unset, .unset] [(.int (((p0.toUInt32 >>> ((1 : Int32) &&& 31).toUInt32).toInt32) % ((4 : Int32) - pA))), (.int (pA + (1 : Int32)))])
    have rb1 := rb.1; have rb2 := rb.2.1
    clear rb
    generalize erm : (((p0.toUInt32 >>> ((1 : Int32) &&& 31).toUInt32).toInt32) % ((4 : Int32) - pA)) = rm at rb1 rb2 ⊢
    show Runs _ _ _ _ T31 (mkF m 72 #[.val (.int p0), .val (.int p1), .val (.int p2), .val (.int p3), .val (.int p4), .val (.int p5), .val (.int (1 : Int32)), .val (.ref ob23), .val (.int pA), .unset, .unset, .unset, .unset, .unset, .unset, .unset, .unset] [(.int rm), (.int (pA + (1 : Int32)))])
    refine Runs.back (fun t_ k_ => XS.iadd X31.here hx rfl (hb hby at_72) rfl k_) ?_
    show Runs _ _ _ _ T31 (mkF m 73 #[.val (.int p0), .val (.int p1), .val (.int p2), .val (.int p3), .val (.int p4), .val (.int p5), .val (.int (1 : Int32)), .val (.ref ob23), .val (.int pA), .unset, .unset, .unset, .unset, .unset, .unset, .unset, .unset] [(.int ((pA + (1 : Int32)) + rm))])
    have a1 : (pA + (1 : Int32)).toInt = pA.toInt + (1 : Int32).toInt := add32 (by rw [o32]; omega) (by rw [o32]; omega)
    rw [o32] at a1
    have a2 : ((pA + (1 : Int32)) + rm).toInt = (pA + (1 : Int32)).toInt + rm.toInt := add32 (by omega) (by omega)
    generalize epE : ((pA + (1 : Int32)) + rm) = pE at a2 ⊢
    show Runs _ _ _ _ T31 (mkF m 73 #[.val (.int p0), .val (.int p1), .val (.int p2), .val (.int p3), .val (.int p4), .val (.int p5), .val (.int (1 : Int32)), .val (.ref ob23), .val (.int pA), .unset, .unset, .unset, .unset, .unset, .unset, .unset, .unset] [(.int pE)])
    have a3 : (pA + (2 : Int32)).toInt = pA.toInt + (2 : Int32).toInt := add32 (by rw [show (2 : Int32).toInt = 2 from by decide]; omega) (by rw [show (2 : Int32).toInt = 2 from by decide]; omega)
    rw [show (2 : Int32).toInt = 2 from by decide] at a3
    have hA4 : (pA + (1 : Int32)) < pE → kA + 1 < 4 := by rw [lti]; omega
    have hB4 : (pA + (2 : Int32)) < pE → kA + 2 < 4 := by rw [lti]; omega
    have hBA : (pA + (2 : Int32)) < pE → (pA + (1 : Int32)) < pE := by rw [lti, lti]; omega
    refine Runs.back (fun t_ k_ => XS.istore X31.here hx rfl (hb hby at_73) rfl (l' := #[.val (.int p0), .val (.int p1), .val (.int p2), .val (.int p3), .val (.int p4), .val (.int p5), .val (.int (1 : Int32)), .val (.ref ob23), .val (.int pA), .val (.int pE), .unset, .unset, .unset, .unset, .unset, .unset, .unset]) rfl k_) ?_
    show Runs _ _ _ _ T31 (mkF m 75 #[.val (.int p0), .val (.int p1), .val (.int p2), .val (.int p3), .val (.int p4), .val (.int p5), .val (.int (1 : Int32)), .val (.ref ob23), .val (.int pA), .val (.int pE), .unset, .unset, .unset, .unset, .unset, .unset, .unset] [])
    obtain ⟨T32, h32, X32, e32, E32, A32, D32, -, st32⟩ := newO X31 hx hZ hown (hw _ (List.mem_of_getElem? (i := 6) rfl)) (hw _ (List.mem_of_getElem? (i := 7) rfl)) (hw _ (List.mem_of_getElem? (i := 8) rfl)) e31 (g := (mkF m 75 #[.val (.int p0), .val (.int p1), .val (.int p2), .val (.int p3), .val (.int p4), .val (.int p5), .val (.int (1 : Int32)), .val (.ref ob23), .val (.int pA), .val (.int pE), .unset, .unset, .unset, .unset, .unset, .unset, .unset] [])) rfl (hb hby at_75) (by decide) (by decide)
    obtain ⟨ob32, g32⟩ : ∃ z, z = h31.size := ⟨_, rfl⟩
    rw [← g32] at A32 D32 st32
    have g_ob32 : n0 ≤ ob32 := Nat.le_trans (Z31) (Nat.le_of_eq g32.symm)
    have ne_ob23_ob32 : ob23 ≠ ob32 := Nat.ne_of_lt (Nat.lt_of_lt_of_le V51.lt (Nat.le_of_eq g32.symm))
    have f32_Arr_0 : OArr Z h32 ob23 .byte 4 (fun i => (Value.int (u i))) := V51.ext E32
    have Z32 : n0 ≤ h32.size := Nat.le_trans (Z31) E32.1
    have F32_16 : Fld Z h32 ob32 "com/example/strict_distinct/strictdistinct/XmlPosition" "line" "J" (.long (0 : Int64)) := D32 (Or.inl (hw _ (List.mem_of_getElem? (i := 16) rfl))) (ty := .long) (by decide)
    have F32_18 : Fld Z h32 ob32 "com/example/strict_distinct/strictdistinct/XmlPosition" "xml11" "Z" (.int (0 : Int32)) := D32 (Or.inl (hw _ (List.mem_of_getElem? (i := 18) rfl))) (ty := .boolean) (by decide)
    refine Runs.back st32 ?_
    show Runs _ _ _ _ T32 (mkF m 78 #[.val (.int p0), .val (.int p1), .val (.int p2), .val (.int p3), .val (.int p4), .val (.int p5), .val (.int (1 : Int32)), .val (.ref ob23), .val (.int pA), .val (.int pE), .unset, .unset, .unset, .unset, .unset, .unset, .unset] [(.ref ob32)])
    refine Runs.back (fun t_ k_ => XS.dup X32.here hx rfl (hb hby at_78) rfl rfl k_) ?_
    show Runs _ _ _ _ T32 (mkF m 79 #[.val (.int p0), .val (.int p1), .val (.int p2), .val (.int p3), .val (.int p4), .val (.int p5), .val (.int (1 : Int32)), .val (.ref ob23), .val (.int pA), .val (.int pE), .unset, .unset, .unset, .unset, .unset, .unset, .unset] [(.ref ob32), (.ref ob32)])
    refine Runs.back (fun t_ k_ => XS.iload X32.here hx rfl (hb hby at_79) rfl k_) ?_
    show Runs _ _ _ _ T32 (mkF m 81 #[.val (.int p0), .val (.int p1), .val (.int p2), .val (.int p3), .val (.int p4), .val (.int p5), .val (.int (1 : Int32)), .val (.ref ob23), .val (.int pA), .val (.int pE), .unset, .unset, .unset, .unset, .unset, .unset, .unset] [(.int (1 : Int32)), (.ref ob32), (.ref ob32)])
    obtain ⟨_, _, ⟨T33, L33, k33, n33⟩, -, X33, ⟨Lc33, hQ33, l33, y33, z33⟩, st33⟩ := X32.specialBack hx (y := (⟨"com/example/strict_distinct/strictdistinct/XmlPosition", "<init>", "(Z)V"⟩ : MethodName)) rfl hown (mvT hZ (hw _ (List.mem_of_getElem? (i := 9) rfl))) (mvT hZ (hw _ (List.mem_of_getElem? (i := 10) rfl))) (mvT hZ (hw _ (List.mem_of_getElem? (i := 11) rfl))) (by decide) (backOf (W := 1) (rm2 l Z a0 hw [] ob32 (1 : Int32) _ _ h32 n0 (Z32) A32 F32_16 F32_18 g_ob32) hZ (hw _ (List.mem_of_getElem? (i := 11) rfl)) (hw _ (List.mem_of_getElem? (i := 8) rfl)) (by decide) (by decide)) (g := (mkF m 81 #[.val (.int p0), .val (.int p1), .val (.int p2), .val (.int p3), .val (.int p4), .val (.int p5), .val (.int (1 : Int32)), .val (.ref ob23), .val (.int pA), .val (.int pE), .unset, .unset, .unset, .unset, .unset, .unset, .unset] [(.int (1 : Int32)), (.ref ob32), (.ref ob32)])) rfl (by rw [hml]; rfl) (Steps.refl _) (a := ob32) (argsL := [(.int (1 : Int32))]) (rest := [(.ref ob32)]) (lenOf pd0_1 rfl) rfl (by show 2 * 0 + _ ≤ _; exact Nat.le_of_eq rfl) (hb hby at_81) (fun _ _ => ⟨rfl, e32, (by decide : 2 + 0 ≤ _), (by decide : 8 + 0 ≤ _)⟩)
    dsimp only [Pt.U, Pt.locs, Pt.cells, Pt.slots] at X33 l33 y33 z33 st33 hQ33
    subst l33 y33 z33
    obtain ⟨rfl, N33q, K33, iE33, iF33⟩ := hQ33
    have N33 := Fr.app N31 N33q
    have f33_Arr_0 : OArr Z T33.heap ob23 .byte 4 (fun i => (Value.int (u i))) := f32_Arr_0.keep K33 (ninS ne_ob23_ob32 nin0)
    have f33_Exa_1 : Exa Z T33.heap ob32 "com/example/strict_distinct/strictdistinct/XmlPosition" := A32.keep K33
    have Z33 : n0 ≤ T33.heap.size := Nat.le_trans (Z32) K33.1
    refine Runs.trans st33 ?_
    show Runs _ _ _ _ T33 (mkF m 84 #[.val (.int p0), .val (.int p1), .val (.int p2), .val (.int p3), .val (.int p4), .val (.int p5), .val (.int (1 : Int32)), .val (.ref ob23), .val (.int pA), .val (.int pE), .unset, .unset, .unset, .unset, .unset, .unset, .unset] [(.ref ob32)])
    refine Runs.back (fun t_ k_ => XS.astore X33.here hx rfl (hb hby at_84) rfl rfl (l' := #[.val (.int p0), .val (.int p1), .val (.int p2), .val (.int p3), .val (.int p4), .val (.int p5), .val (.int (1 : Int32)), .val (.ref ob23), .val (.int pA), .val (.int pE), .val (.ref ob32), .unset, .unset, .unset, .unset, .unset, .unset]) rfl k_) ?_
    show Runs _ _ _ _ T33 (mkF m 86 #[.val (.int p0), .val (.int p1), .val (.int p2), .val (.int p3), .val (.int p4), .val (.int p5), .val (.int (1 : Int32)), .val (.ref ob23), .val (.int pA), .val (.int pE), .val (.ref ob32), .unset, .unset, .unset, .unset, .unset, .unset] [])
    refine Runs.back (fun t_ k_ => XS.aload X33.here hx rfl (hb hby at_86) rfl rfl k_) ?_
    show Runs _ _ _ _ T33 (mkF m 88 #[.val (.int p0), .val (.int p1), .val (.int p2), .val (.int p3), .val (.int p4), .val (.int p5), .val (.int (1 : Int32)), .val (.ref ob23), .val (.int pA), .val (.int pE), .val (.ref ob32), .unset, .unset, .unset, .unset, .unset, .unset] [(.ref ob32)])
    refine Runs.back (fun t_ k_ => XS.aload X33.here hx rfl (hb hby at_88) rfl rfl k_) ?_
    show Runs _ _ _ _ T33 (mkF m 90 #[.val (.int p0), .val (.int p1), .val (.int p2), .val (.int p3), .val (.int p4), .val (.int p5), .val (.int (1 : Int32)), .val (.ref ob23), .val (.int pA), .val (.int pE), .val (.ref ob32), .unset, .unset, .unset, .unset, .unset, .unset] [(.ref ob23), (.ref ob32)])
    refine Runs.back (fun t_ k_ => XS.iload X33.here hx rfl (hb hby at_90) rfl k_) ?_
    show Runs _ _ _ _ T33 (mkF m 92 #[.val (.int p0), .val (.int p1), .val (.int p2), .val (.int p3), .val (.int p4), .val (.int p5), .val (.int (1 : Int32)), .val (.ref ob23), .val (.int pA), .val (.int pE), .val (.ref ob32), .unset, .unset, .unset, .unset, .unset, .unset] [(.int pA), (.ref ob23), (.ref ob32)])
    refine Runs.back (fun t_ k_ => XS.iload X33.here hx rfl (hb hby at_92) rfl k_) ?_
    show Runs _ _ _ _ T33 (mkF m 94 #[.val (.int p0), .val (.int p1), .val (.int p2), .val (.int p3), .val (.int p4), .val (.int p5), .val (.int (1 : Int32)), .val (.ref ob23), .val (.int pA), .val (.int pE), .val (.ref ob32), .unset, .unset, .unset, .unset, .unset, .unset] [(.int pE), (.int pA), (.ref ob23), (.ref ob32)])
    obtain ⟨cq34, kq34, q34a, q34b, q34c⟩ := isOf hZ rfl iE33
    obtain ⟨_, _, ⟨T34, L34, k34, n34⟩, -, X34, ⟨Lc34, hQ34, l34, y34, z34⟩, st34⟩ := X33.virtualBack hx (y := (⟨"com/example/strict_distinct/strictdistinct/XmlPosition", "lineEndAt", "([BII)I"⟩ : MethodName)) (z := (⟨"com/example/strict_distinct/strictdistinct/XmlPosition", "lineEndAt", "([BII)I"⟩ : MethodName)) hown (mvT hZ (hw _ (List.mem_of_getElem? (i := 19) rfl))) (mvT hZ (hw _ (List.mem_of_getElem? (i := 20) rfl))) (notFace_of_selects (args := #[]) (mvT hZ (hw _ (List.mem_of_getElem? (i := 22) rfl)))) (mvT hZ (hw _ (List.mem_of_getElem? (i := 22) rfl))) (mvT hZ (hw _ (List.mem_of_getElem? (i := 21) rfl))) (by decide) (backOf (W := 0) (rm4 l Z a0 hw [] ob32 ob23 pA pE (1 : Int32) u kA T33.heap n0 (Z33) iF33 f33_Arr_0 hkA hnA hk4 hA4 hB4) hZ (hw _ (List.mem_of_getElem? (i := 23) rfl)) (hw _ (List.mem_of_getElem? (i := 8) rfl)) (by decide) (by decide)) q34a q34c (g := (mkF m 94 #[.val (.int p0), .val (.int p1), .val (.int p2), .val (.int p3), .val (.int p4), .val (.int p5), .val (.int (1 : Int32)), .val (.ref ob23), .val (.int pA), .val (.int pE), .val (.ref ob32), .unset, .unset, .unset, .unset, .unset, .unset] [(.int pE), (.int pA), (.ref ob23), (.ref ob32)])) rfl (by rw [hml]; rfl) (Steps.refl _) (argsL := [(.ref ob23), (.int pA), (.int pE)]) (rest := []) (lenOf pd0_2 rfl) rfl (by show 2 * 0 + _ ≤ _; exact Nat.le_of_eq rfl) (hb hby at_94) (fun _ _ => ⟨rfl, rfl, (by decide : 2 + 0 ≤ _), (by decide : 8 + 0 ≤ _)⟩)
    dsimp only [Pt.U, Pt.locs, Pt.cells, Pt.slots] at X34 l34 y34 z34 st34 hQ34
    subst l34 y34 z34
    obtain ⟨rfl, N34q, eq34⟩ := hQ34
    have N34 := Fr.app N33 N34q
    refine Runs.trans st34 ?_
    show Runs _ _ _ _ T34 (mkF m 97 #[.val (.int p0), .val (.int p1), .val (.int p2), .val (.int p3), .val (.int p4), .val (.int p5), .val (.int (1 : Int32)), .val (.ref ob23), .val (.int pA), .val (.int pE), .val (.ref ob32), .unset, .unset, .unset, .unset, .unset, .unset] [(.int (leF (1 : Int32) (u kA) (u (kA + 1)) (u (kA + 2)) ((pA + (1 : Int32)) < pE) ((pA + (2 : Int32)) < pE)))])
    refine Runs.back (fun t_ k_ => XS.istore X34.here hx rfl (hb hby at_97) rfl (l' := #[.val (.int p0), .val (.int p1), .val (.int p2), .val (.int p3), .val (.int p4), .val (.int p5), .val (.int (1 : Int32)), .val (.ref ob23), .val (.int pA), .val (.int pE), .val (.ref ob32), .val (.int (leF (1 : Int32) (u kA) (u (kA + 1)) (u (kA + 2)) ((pA + (1 : Int32)) < pE) ((pA + (2 : Int32)) < pE))), .unset, .unset, .unset, .unset, .unset]) rfl k_) ?_
    show Runs _ _ _ _ T34 (mkF m 99 #[.val (.int p0), .val (.int p1), .val (.int p2), .val (.int p3), .val (.int p4), .val (.int p5), .val (.int (1 : Int32)), .val (.ref ob23), .val (.int pA), .val (.int pE), .val (.ref ob32), .val (.int (leF (1 : Int32) (u kA) (u (kA + 1)) (u (kA + 2)) ((pA + (1 : Int32)) < pE) ((pA + (2 : Int32)) < pE))), .unset, .unset, .unset, .unset, .unset] [])
    refine Runs.back (fun t_ k_ => XS.iload X34.here hx rfl (hb hby at_99) rfl k_) ?_
    show Runs _ _ _ _ T34 (mkF m 101 #[.val (.int p0), .val (.int p1), .val (.int p2), .val (.int p3), .val (.int p4), .val (.int p5), .val (.int (1 : Int32)), .val (.ref ob23), .val (.int pA), .val (.int pE), .val (.ref ob32), .val (.int (leF (1 : Int32) (u kA) (u (kA + 1)) (u (kA + 2)) ((pA + (1 : Int32)) < pE) ((pA + (2 : Int32)) < pE))), .unset, .unset, .unset, .unset, .unset] [(.int pE)])
    refine Runs.back (fun t_ k_ => XS.iload X34.here hx rfl (hb hby at_101) rfl k_) ?_
    show Runs _ _ _ _ T34 (mkF m 103 #[.val (.int p0), .val (.int p1), .val (.int p2), .val (.int p3), .val (.int p4), .val (.int p5), .val (.int (1 : Int32)), .val (.ref ob23), .val (.int pA), .val (.int pE), .val (.ref ob32), .val (.int (leF (1 : Int32) (u kA) (u (kA + 1)) (u (kA + 2)) ((pA + (1 : Int32)) < pE) ((pA + (2 : Int32)) < pE))), .unset, .unset, .unset, .unset, .unset] [(.int pA), (.int pE)])
    refine Runs.back (fun t_ k_ => XS.isub X34.here hx rfl (hb hby at_103) rfl k_) ?_
    show Runs _ _ _ _ T34 (mkF m 104 #[.val (.int p0), .val (.int p1), .val (.int p2), .val (.int p3), .val (.int p4), .val (.int p5), .val (.int (1 : Int32)), .val (.ref ob23), .val (.int pA), .val (.int pE), .val (.ref ob32), .val (.int (leF (1 : Int32) (u kA) (u (kA + 1)) (u (kA + 2)) ((pA + (1 : Int32)) < pE) ((pA + (2 : Int32)) < pE))), .unset, .unset, .unset, .unset, .unset] [(.int (pE - pA))])
    refine Runs.back (fun t_ k_ => XS.istore X34.here hx rfl (hb hby at_104) rfl (l' := #[.val (.int p0), .val (.int p1), .val (.int p2), .val (.int p3), .val (.int p4), .val (.int p5), .val (.int (1 : Int32)), .val (.ref ob23), .val (.int pA), .val (.int pE), .val (.ref ob32), .val (.int (leF (1 : Int32) (u kA) (u (kA + 1)) (u (kA + 2)) ((pA + (1 : Int32)) < pE) ((pA + (2 : Int32)) < pE))), .val (.int (pE - pA)), .unset, .unset, .unset, .unset]) rfl k_) ?_
    show Runs _ _ _ _ T34 (mkF m 106 #[.val (.int p0), .val (.int p1), .val (.int p2), .val (.int p3), .val (.int p4), .val (.int p5), .val (.int (1 : Int32)), .val (.ref ob23), .val (.int pA), .val (.int pE), .val (.ref ob32), .val (.int (leF (1 : Int32) (u kA) (u (kA + 1)) (u (kA + 2)) ((pA + (1 : Int32)) < pE) ((pA + (2 : Int32)) < pE))), .val (.int (pE - pA)), .unset, .unset, .unset, .unset] [])
    have nn : (pE - pA).toInt = pE.toInt - pA.toInt := sub32 (by omega) (by omega)
    have q2 : (pE - pA) < (2 : Int32) ↔ ¬ ((pA + (1 : Int32)) < pE) := by rw [lti, lti, nn, a1, show (2 : Int32).toInt = 2 from by decide]; omega
    have q3 : (pE - pA) < (3 : Int32) ↔ ¬ ((pA + (2 : Int32)) < pE) := by rw [lti, lti, nn, a3, show (3 : Int32).toInt = 3 from by decide]; omega
    refine Runs.back (fun t_ k_ => XS.aload X34.here hx rfl (hb hby at_106) rfl rfl k_) ?_
    show Runs _ _ _ _ T34 (mkF m 108 #[.val (.int p0), .val (.int p1), .val (.int p2), .val (.int p3), .val (.int p4), .val (.int p5), .val (.int (1 : Int32)), .val (.ref ob23), .val (.int pA), .val (.int pE), .val (.ref ob32), .val (.int (leF (1 : Int32) (u kA) (u (kA + 1)) (u (kA + 2)) ((pA + (1 : Int32)) < pE) ((pA + (2 : Int32)) < pE))), .val (.int (pE - pA)), .unset, .unset, .unset, .unset] [(.ref ob23)])
    refine Runs.back (fun t_ k_ => XS.iload X34.here hx rfl (hb hby at_108) rfl k_) ?_
    show Runs _ _ _ _ T34 (mkF m 110 #[.val (.int p0), .val (.int p1), .val (.int p2), .val (.int p3), .val (.int p4), .val (.int p5), .val (.int (1 : Int32)), .val (.ref ob23), .val (.int pA), .val (.int pE), .val (.ref ob32), .val (.int (leF (1 : Int32) (u kA) (u (kA + 1)) (u (kA + 2)) ((pA + (1 : Int32)) < pE) ((pA + (2 : Int32)) < pE))), .val (.int (pE - pA)), .unset, .unset, .unset, .unset] [(.int pA), (.ref ob23)])
    obtain ⟨cl35, Ar35, S35, Hs35⟩ := id f33_Arr_0
    have at35 : cl35.slots[(pA).toNatClampNeg]? = some (.int (u kA)) := readO Hs35 hkA (show kA < 4 from hk4) (rfl)
    refine Runs.back (fun t_ k_ => X34.baloadBytes hx (j := pA) (v := (.int (u kA))) (by rw [eq34]; exact Ar35.1) (State.isArrayOf_alike hZ.alike Ar35.2.1) Ar35.2.2 (by rw [S35]; exact (inbO hnA hkA (show kA < 4 from hk4))) at35 (g := (mkF m 110 #[.val (.int p0), .val (.int p1), .val (.int p2), .val (.int p3), .val (.int p4), .val (.int p5), .val (.int (1 : Int32)), .val (.ref ob23), .val (.int pA), .val (.int pE), .val (.ref ob32), .val (.int (leF (1 : Int32) (u kA) (u (kA + 1)) (u (kA + 2)) ((pA + (1 : Int32)) < pE) ((pA + (2 : Int32)) < pE))), .val (.int (pE - pA)), .unset, .unset, .unset, .unset] [(.int pA), (.ref ob23)])) rfl rfl (hb hby at_110) _ k_) ?_
    show Runs _ _ _ _ T34 (mkF m 111 #[.val (.int p0), .val (.int p1), .val (.int p2), .val (.int p3), .val (.int p4), .val (.int p5), .val (.int (1 : Int32)), .val (.ref ob23), .val (.int pA), .val (.int pE), .val (.ref ob32), .val (.int (leF (1 : Int32) (u kA) (u (kA + 1)) (u (kA + 2)) ((pA + (1 : Int32)) < pE) ((pA + (2 : Int32)) < pE))), .val (.int (pE - pA)), .unset, .unset, .unset, .unset] [(.int (u kA))])
    refine Runs.back (fun t_ k_ => XS.sipush X34.here hx rfl (hb hby at_111) k_) ?_
    show Runs _ _ _ _ T34 (mkF m 114 #[.val (.int p0), .val (.int p1), .val (.int p2), .val (.int p3), .val (.int p4), .val (.int p5), .val (.int (1 : Int32)), .val (.ref ob23), .val (.int pA), .val (.int pE), .val (.ref ob32), .val (.int (leF (1 : Int32) (u kA) (u (kA + 1)) (u (kA + 2)) ((pA + (1 : Int32)) < pE) ((pA + (2 : Int32)) < pE))), .val (.int (pE - pA)), .unset, .unset, .unset, .unset] [(.int (255 : Int32)), (.int (u kA))])
    refine Runs.back (fun t_ k_ => XS.iand X34.here hx rfl (hb hby at_114) rfl k_) ?_
    show Runs _ _ _ _ T34 (mkF m 115 #[.val (.int p0), .val (.int p1), .val (.int p2), .val (.int p3), .val (.int p4), .val (.int p5), .val (.int (1 : Int32)), .val (.ref ob23), .val (.int pA), .val (.int pE), .val (.ref ob32), .val (.int (leF (1 : Int32) (u kA) (u (kA + 1)) (u (kA + 2)) ((pA + (1 : Int32)) < pE) ((pA + (2 : Int32)) < pE))), .val (.int (pE - pA)), .unset, .unset, .unset, .unset] [(.int ((u kA) &&& (255 : Int32)))])
    refine Runs.back (fun t_ k_ => XS.istore X34.here hx rfl (hb hby at_115) rfl (l' := #[.val (.int p0), .val (.int p1), .val (.int p2), .val (.int p3), .val (.int p4), .val (.int p5), .val (.int (1 : Int32)), .val (.ref ob23), .val (.int pA), .val (.int pE), .val (.ref ob32), .val (.int (leF (1 : Int32) (u kA) (u (kA + 1)) (u (kA + 2)) ((pA + (1 : Int32)) < pE) ((pA + (2 : Int32)) < pE))), .val (.int (pE - pA)), .val (.int ((u kA) &&& (255 : Int32))), .unset, .unset, .unset]) rfl k_) ?_
    show Runs _ _ _ _ T34 (mkF m 117 #[.val (.int p0), .val (.int p1), .val (.int p2), .val (.int p3), .val (.int p4), .val (.int p5), .val (.int (1 : Int32)), .val (.ref ob23), .val (.int pA), .val (.int pE), .val (.ref ob32), .val (.int (leF (1 : Int32) (u kA) (u (kA + 1)) (u (kA + 2)) ((pA + (1 : Int32)) < pE) ((pA + (2 : Int32)) < pE))), .val (.int (pE - pA)), .val (.int ((u kA) &&& (255 : Int32))), .unset, .unset, .unset] [])
    refine Runs.join (α := Int32 × Int32) (P := fun (⟨k1, k2⟩ : Int32 × Int32) => k1 = (if (pA + (1 : Int32)) < pE then (u (kA + 1) &&& (255 : Int32)) else (-1 : Int32)) ∧ k2 = (if (pA + (2 : Int32)) < pE then (u (kA + 2) &&& (255 : Int32)) else (-1 : Int32))) (F := fun (⟨k1, k2⟩ : Int32 × Int32) => (mkF m 163 #[.val (.int p0), .val (.int p1), .val (.int p2), .val (.int p3), .val (.int p4), .val (.int p5), .val (.int (1 : Int32)), .val (.ref ob23), .val (.int pA), .val (.int pE), .val (.ref ob32), .val (.int (leF (1 : Int32) (u kA) (u (kA + 1)) (u (kA + 2)) ((pA + (1 : Int32)) < pE) ((pA + (2 : Int32)) < pE))), .val (.int (pE - pA)), .val (.int ((u kA) &&& (255 : Int32))), .val (.int k1), .val (.int k2), .unset] [])) ?_ ?_
    · rintro ⟨k1, k2⟩ hk12
      show Runs _ _ _ _ T34 (mkF m 163 #[.val (.int p0), .val (.int p1), .val (.int p2), .val (.int p3), .val (.int p4), .val (.int p5), .val (.int (1 : Int32)), .val (.ref ob23), .val (.int pA), .val (.int pE), .val (.ref ob32), .val (.int (leF (1 : Int32) (u kA) (u (kA + 1)) (u (kA + 2)) ((pA + (1 : Int32)) < pE) ((pA + (2 : Int32)) < pE))), .val (.int (pE - pA)), .val (.int ((u kA) &&& (255 : Int32))), .val (.int k1), .val (.int k2), .unset] [])
      refine Runs.back (fun t_ k_ => XS.iconst X34.here hx rfl (hb hby at_163) k_) ?_
      show Runs _ _ _ _ T34 (mkF m 164 #[.val (.int p0), .val (.int p1), .val (.int p2), .val (.int p3), .val (.int p4), .val (.int p5), .val (.int (1 : Int32)), .val (.ref ob23), .val (.int pA), .val (.int pE), .val (.ref ob32), .val (.int (leF (1 : Int32) (u kA) (u (kA + 1)) (u (kA + 2)) ((pA + (1 : Int32)) < pE) ((pA + (2 : Int32)) < pE))), .val (.int (pE - pA)), .val (.int ((u kA) &&& (255 : Int32))), .val (.int k1), .val (.int k2), .unset] [(.int (0 : Int32))])
      refine Runs.back (fun t_ k_ => XS.istore X34.here hx rfl (hb hby at_164) rfl (l' := #[.val (.int p0), .val (.int p1), .val (.int p2), .val (.int p3), .val (.int p4), .val (.int p5), .val (.int (1 : Int32)), .val (.ref ob23), .val (.int pA), .val (.int pE), .val (.ref ob32), .val (.int (leF (1 : Int32) (u kA) (u (kA + 1)) (u (kA + 2)) ((pA + (1 : Int32)) < pE) ((pA + (2 : Int32)) < pE))), .val (.int (pE - pA)), .val (.int ((u kA) &&& (255 : Int32))), .val (.int k1), .val (.int k2), .val (.int (0 : Int32))]) rfl k_) ?_
      show Runs _ _ _ _ T34 (mkF m 166 #[.val (.int p0), .val (.int p1), .val (.int p2), .val (.int p3), .val (.int p4), .val (.int p5), .val (.int (1 : Int32)), .val (.ref ob23), .val (.int pA), .val (.int pE), .val (.ref ob32), .val (.int (leF (1 : Int32) (u kA) (u (kA + 1)) (u (kA + 2)) ((pA + (1 : Int32)) < pE) ((pA + (2 : Int32)) < pE))), .val (.int (pE - pA)), .val (.int ((u kA) &&& (255 : Int32))), .val (.int k1), .val (.int k2), .val (.int (0 : Int32))] [])
      refine Runs.back (fun t_ k_ => XS.iload X34.here hx rfl (hb hby at_166) rfl k_) ?_
      show Runs _ _ _ _ T34 (mkF m 168 #[.val (.int p0), .val (.int p1), .val (.int p2), .val (.int p3), .val (.int p4), .val (.int p5), .val (.int (1 : Int32)), .val (.ref ob23), .val (.int pA), .val (.int pE), .val (.ref ob32), .val (.int (leF (1 : Int32) (u kA) (u (kA + 1)) (u (kA + 2)) ((pA + (1 : Int32)) < pE) ((pA + (2 : Int32)) < pE))), .val (.int (pE - pA)), .val (.int ((u kA) &&& (255 : Int32))), .val (.int k1), .val (.int k2), .val (.int (0 : Int32))] [(.int ((u kA) &&& (255 : Int32)))])
      refine Runs.back (fun t_ k_ => XS.bipush X34.here hx rfl (hb hby at_168) k_) ?_
      show Runs _ _ _ _ T34 (mkF m 170 #[.val (.int p0), .val (.int p1), .val (.int p2), .val (.int p3), .val (.int p4), .val (.int p5), .val (.int (1 : Int32)), .val (.ref ob23), .val (.int pA), .val (.int pE), .val (.ref ob32), .val (.int (leF (1 : Int32) (u kA) (u (kA + 1)) (u (kA + 2)) ((pA + (1 : Int32)) < pE) ((pA + (2 : Int32)) < pE))), .val (.int (pE - pA)), .val (.int ((u kA) &&& (255 : Int32))), .val (.int k1), .val (.int k2), .val (.int (0 : Int32))] [(.int (10 : Int32)), (.int ((u kA) &&& (255 : Int32)))])
      by_cases c170_36 : ((u kA) &&& (255 : Int32)) = (10 : Int32)
      · refine Runs.back (fun t_ k_ => XS.icmpYes X34.here hx rfl (pc0 := 170) (pc' := 180) rfl (hb hby at_170) rfl (teq c170_36).1 (by decide) (by decide) k_) ?_
        show Runs _ _ _ _ T34 (mkF m 180 #[.val (.int p0), .val (.int p1), .val (.int p2), .val (.int p3), .val (.int p4), .val (.int p5), .val (.int (1 : Int32)), .val (.ref ob23), .val (.int pA), .val (.int pE), .val (.ref ob32), .val (.int (leF (1 : Int32) (u kA) (u (kA + 1)) (u (kA + 2)) ((pA + (1 : Int32)) < pE) ((pA + (2 : Int32)) < pE))), .val (.int (pE - pA)), .val (.int ((u kA) &&& (255 : Int32))), .val (.int k1), .val (.int k2), .val (.int (0 : Int32))] [])
        refine Runs.back (fun t_ k_ => XS.iconst X34.here hx rfl (hb hby at_180) k_) ?_
        show Runs _ _ _ _ T34 (mkF m 181 #[.val (.int p0), .val (.int p1), .val (.int p2), .val (.int p3), .val (.int p4), .val (.int p5), .val (.int (1 : Int32)), .val (.ref ob23), .val (.int pA), .val (.int pE), .val (.ref ob32), .val (.int (leF (1 : Int32) (u kA) (u (kA + 1)) (u (kA + 2)) ((pA + (1 : Int32)) < pE) ((pA + (2 : Int32)) < pE))), .val (.int (pE - pA)), .val (.int ((u kA) &&& (255 : Int32))), .val (.int k1), .val (.int k2), .val (.int (0 : Int32))] [(.int (1 : Int32))])
        refine Runs.back (fun t_ k_ => XS.istore X34.here hx rfl (hb hby at_181) rfl (l' := #[.val (.int p0), .val (.int p1), .val (.int p2), .val (.int p3), .val (.int p4), .val (.int p5), .val (.int (1 : Int32)), .val (.ref ob23), .val (.int pA), .val (.int pE), .val (.ref ob32), .val (.int (leF (1 : Int32) (u kA) (u (kA + 1)) (u (kA + 2)) ((pA + (1 : Int32)) < pE) ((pA + (2 : Int32)) < pE))), .val (.int (pE - pA)), .val (.int ((u kA) &&& (255 : Int32))), .val (.int k1), .val (.int k2), .val (.int (1 : Int32))]) rfl k_) ?_
        show Runs _ _ _ _ T34 (mkF m 183 #[.val (.int p0), .val (.int p1), .val (.int p2), .val (.int p3), .val (.int p4), .val (.int p5), .val (.int (1 : Int32)), .val (.ref ob23), .val (.int pA), .val (.int pE), .val (.ref ob32), .val (.int (leF (1 : Int32) (u kA) (u (kA + 1)) (u (kA + 2)) ((pA + (1 : Int32)) < pE) ((pA + (2 : Int32)) < pE))), .val (.int (pE - pA)), .val (.int ((u kA) &&& (255 : Int32))), .val (.int k1), .val (.int k2), .val (.int (1 : Int32))] [])
        refine Runs.back (fun t_ k_ => XS.goto X34.here hx rfl (pc0 := 183) (pc' := 245) rfl (hb hby at_183) (by decide) (by decide) k_) ?_
        show Runs _ _ _ _ T34 (mkF m 245 #[.val (.int p0), .val (.int p1), .val (.int p2), .val (.int p3), .val (.int p4), .val (.int p5), .val (.int (1 : Int32)), .val (.ref ob23), .val (.int pA), .val (.int pE), .val (.ref ob32), .val (.int (leF (1 : Int32) (u kA) (u (kA + 1)) (u (kA + 2)) ((pA + (1 : Int32)) < pE) ((pA + (2 : Int32)) < pE))), .val (.int (pE - pA)), .val (.int ((u kA) &&& (255 : Int32))), .val (.int k1), .val (.int k2), .val (.int (1 : Int32))] [])
        refine Runs.back (fun t_ k_ => XS.iload X34.here hx rfl (hb hby at_245) rfl k_) ?_
        show Runs _ _ _ _ T34 (mkF m 247 #[.val (.int p0), .val (.int p1), .val (.int p2), .val (.int p3), .val (.int p4), .val (.int p5), .val (.int (1 : Int32)), .val (.ref ob23), .val (.int pA), .val (.int pE), .val (.ref ob32), .val (.int (leF (1 : Int32) (u kA) (u (kA + 1)) (u (kA + 2)) ((pA + (1 : Int32)) < pE) ((pA + (2 : Int32)) < pE))), .val (.int (pE - pA)), .val (.int ((u kA) &&& (255 : Int32))), .val (.int k1), .val (.int k2), .val (.int (1 : Int32))] [(.int (leF (1 : Int32) (u kA) (u (kA + 1)) (u (kA + 2)) ((pA + (1 : Int32)) < pE) ((pA + (2 : Int32)) < pE)))])
        refine Runs.back (fun t_ k_ => XS.iload X34.here hx rfl (hb hby at_247) rfl k_) ?_
        show Runs _ _ _ _ T34 (mkF m 249 #[.val (.int p0), .val (.int p1), .val (.int p2), .val (.int p3), .val (.int p4), .val (.int p5), .val (.int (1 : Int32)), .val (.ref ob23), .val (.int pA), .val (.int pE), .val (.ref ob32), .val (.int (leF (1 : Int32) (u kA) (u (kA + 1)) (u (kA + 2)) ((pA + (1 : Int32)) < pE) ((pA + (2 : Int32)) < pE))), .val (.int (pE - pA)), .val (.int ((u kA) &&& (255 : Int32))), .val (.int k1), .val (.int k2), .val (.int (1 : Int32))] [(.int (1 : Int32)), (.int (leF (1 : Int32) (u kA) (u (kA + 1)) (u (kA + 2)) ((pA + (1 : Int32)) < pE) ((pA + (2 : Int32)) < pE)))])
        refine Runs.back (fun t_ k_ => XS.icmpNo X34.here hx rfl (hb hby at_249) rfl (teq (show (leF (1 : Int32) (u kA) (u (kA + 1)) (u (kA + 2)) ((pA + (1 : Int32)) < pE) ((pA + (2 : Int32)) < pE)) = (1 : Int32) from ((le_law (fl := (1 : Int32)) (hub kA) (hub (kA + 1)) (hub (kA + 2)) hBA hk12.1 hk12.2).trans (by first | rfl | simp +decide only [exF, exR, if_pos c170_36, if_true, if_false, ↓reduceIte])))).2 k_) ?_
        show Runs _ _ _ _ T34 (mkF m 252 #[.val (.int p0), .val (.int p1), .val (.int p2), .val (.int p3), .val (.int p4), .val (.int p5), .val (.int (1 : Int32)), .val (.ref ob23), .val (.int pA), .val (.int pE), .val (.ref ob32), .val (.int (leF (1 : Int32) (u kA) (u (kA + 1)) (u (kA + 2)) ((pA + (1 : Int32)) < pE) ((pA + (2 : Int32)) < pE))), .val (.int (pE - pA)), .val (.int ((u kA) &&& (255 : Int32))), .val (.int k1), .val (.int k2), .val (.int (1 : Int32))] [])
        refine Runs.back (fun t_ k_ => XS.iconst X34.here hx rfl (hb hby at_252) k_) ?_
        show Runs _ _ _ _ T34 (mkF m 253 #[.val (.int p0), .val (.int p1), .val (.int p2), .val (.int p3), .val (.int p4), .val (.int p5), .val (.int (1 : Int32)), .val (.ref ob23), .val (.int pA), .val (.int pE), .val (.ref ob32), .val (.int (leF (1 : Int32) (u kA) (u (kA + 1)) (u (kA + 2)) ((pA + (1 : Int32)) < pE) ((pA + (2 : Int32)) < pE))), .val (.int (pE - pA)), .val (.int ((u kA) &&& (255 : Int32))), .val (.int k1), .val (.int k2), .val (.int (1 : Int32))] [(.int (1 : Int32))])
        refine Runs.back (fun t_ k_ => XS.goto X34.here hx rfl (pc0 := 253) (pc' := 257) rfl (hb hby at_253) (by decide) (by decide) k_) ?_
        show Runs _ _ _ _ T34 (mkF m 257 #[.val (.int p0), .val (.int p1), .val (.int p2), .val (.int p3), .val (.int p4), .val (.int p5), .val (.int (1 : Int32)), .val (.ref ob23), .val (.int pA), .val (.int pE), .val (.ref ob32), .val (.int (leF (1 : Int32) (u kA) (u (kA + 1)) (u (kA + 2)) ((pA + (1 : Int32)) < pE) ((pA + (2 : Int32)) < pE))), .val (.int (pE - pA)), .val (.int ((u kA) &&& (255 : Int32))), .val (.int k1), .val (.int k2), .val (.int (1 : Int32))] [(.int (1 : Int32))])
        obtain ⟨fs, hr, hrun, hended, hW, hsame⟩ := X34.leave (v := some (.int (1 : Int32))) (fun h => by rw [Bd.returns] at h; cases h)
        exact ⟨_, _, (retN X34 hx (t := .boolean) Bd.returns (by simp) (hb hby at_257) hr), hrun, hended, _, _, rfl, ⟨rfl, N34⟩, ⟨_, rfl⟩, hW, hsame.mono (by decide) (by decide)⟩
      · refine Runs.back (fun t_ k_ => XS.icmpNo X34.here hx rfl (hb hby at_170) rfl (feq c170_36).1 k_) ?_
        show Runs _ _ _ _ T34 (mkF m 173 #[.val (.int p0), .val (.int p1), .val (.int p2), .val (.int p3), .val (.int p4), .val (.int p5), .val (.int (1 : Int32)), .val (.ref ob23), .val (.int pA), .val (.int pE), .val (.ref ob32), .val (.int (leF (1 : Int32) (u kA) (u (kA + 1)) (u (kA + 2)) ((pA + (1 : Int32)) < pE) ((pA + (2 : Int32)) < pE))), .val (.int (pE - pA)), .val (.int ((u kA) &&& (255 : Int32))), .val (.int k1), .val (.int k2), .val (.int (0 : Int32))] [])
        refine Runs.back (fun t_ k_ => XS.iload X34.here hx rfl (hb hby at_173) rfl k_) ?_
        show Runs _ _ _ _ T34 (mkF m 175 #[.val (.int p0), .val (.int p1), .val (.int p2), .val (.int p3), .val (.int p4), .val (.int p5), .val (.int (1 : Int32)), .val (.ref ob23), .val (.int pA), .val (.int pE), .val (.ref ob32), .val (.int (leF (1 : Int32) (u kA) (u (kA + 1)) (u (kA + 2)) ((pA + (1 : Int32)) < pE) ((pA + (2 : Int32)) < pE))), .val (.int (pE - pA)), .val (.int ((u kA) &&& (255 : Int32))), .val (.int k1), .val (.int k2), .val (.int (0 : Int32))] [(.int ((u kA) &&& (255 : Int32)))])
        refine Runs.back (fun t_ k_ => XS.bipush X34.here hx rfl (hb hby at_175) k_) ?_
        show Runs _ _ _ _ T34 (mkF m 177 #[.val (.int p0), .val (.int p1), .val (.int p2), .val (.int p3), .val (.int p4), .val (.int p5), .val (.int (1 : Int32)), .val (.ref ob23), .val (.int pA), .val (.int pE), .val (.ref ob32), .val (.int (leF (1 : Int32) (u kA) (u (kA + 1)) (u (kA + 2)) ((pA + (1 : Int32)) < pE) ((pA + (2 : Int32)) < pE))), .val (.int (pE - pA)), .val (.int ((u kA) &&& (255 : Int32))), .val (.int k1), .val (.int k2), .val (.int (0 : Int32))] [(.int (13 : Int32)), (.int ((u kA) &&& (255 : Int32)))])
        by_cases c177_37 : ((u kA) &&& (255 : Int32)) = (13 : Int32)
        · refine Runs.back (fun t_ k_ => XS.icmpNo X34.here hx rfl (hb hby at_177) rfl (teq c177_37).2 k_) ?_
          show Runs _ _ _ _ T34 (mkF m 180 #[.val (.int p0), .val (.int p1), .val (.int p2), .val (.int p3), .val (.int p4), .val (.int p5), .val (.int (1 : Int32)), .val (.ref ob23), .val (.int pA), .val (.int pE), .val (.ref ob32), .val (.int (leF (1 : Int32) (u kA) (u (kA + 1)) (u (kA + 2)) ((pA + (1 : Int32)) < pE) ((pA + (2 : Int32)) < pE))), .val (.int (pE - pA)), .val (.int ((u kA) &&& (255 : Int32))), .val (.int k1), .val (.int k2), .val (.int (0 : Int32))] [])
          refine Runs.back (fun t_ k_ => XS.iconst X34.here hx rfl (hb hby at_180) k_) ?_
          show Runs _ _ _ _ T34 (mkF m 181 #[.val (.int p0), .val (.int p1), .val (.int p2), .val (.int p3), .val (.int p4), .val (.int p5), .val (.int (1 : Int32)), .val (.ref ob23), .val (.int pA), .val (.int pE), .val (.ref ob32), .val (.int (leF (1 : Int32) (u kA) (u (kA + 1)) (u (kA + 2)) ((pA + (1 : Int32)) < pE) ((pA + (2 : Int32)) < pE))), .val (.int (pE - pA)), .val (.int ((u kA) &&& (255 : Int32))), .val (.int k1), .val (.int k2), .val (.int (0 : Int32))] [(.int (1 : Int32))])
          refine Runs.back (fun t_ k_ => XS.istore X34.here hx rfl (hb hby at_181) rfl (l' := #[.val (.int p0), .val (.int p1), .val (.int p2), .val (.int p3), .val (.int p4), .val (.int p5), .val (.int (1 : Int32)), .val (.ref ob23), .val (.int pA), .val (.int pE), .val (.ref ob32), .val (.int (leF (1 : Int32) (u kA) (u (kA + 1)) (u (kA + 2)) ((pA + (1 : Int32)) < pE) ((pA + (2 : Int32)) < pE))), .val (.int (pE - pA)), .val (.int ((u kA) &&& (255 : Int32))), .val (.int k1), .val (.int k2), .val (.int (1 : Int32))]) rfl k_) ?_
          show Runs _ _ _ _ T34 (mkF m 183 #[.val (.int p0), .val (.int p1), .val (.int p2), .val (.int p3), .val (.int p4), .val (.int p5), .val (.int (1 : Int32)), .val (.ref ob23), .val (.int pA), .val (.int pE), .val (.ref ob32), .val (.int (leF (1 : Int32) (u kA) (u (kA + 1)) (u (kA + 2)) ((pA + (1 : Int32)) < pE) ((pA + (2 : Int32)) < pE))), .val (.int (pE - pA)), .val (.int ((u kA) &&& (255 : Int32))), .val (.int k1), .val (.int k2), .val (.int (1 : Int32))] [])
          refine Runs.back (fun t_ k_ => XS.goto X34.here hx rfl (pc0 := 183) (pc' := 245) rfl (hb hby at_183) (by decide) (by decide) k_) ?_
          show Runs _ _ _ _ T34 (mkF m 245 #[.val (.int p0), .val (.int p1), .val (.int p2), .val (.int p3), .val (.int p4), .val (.int p5), .val (.int (1 : Int32)), .val (.ref ob23), .val (.int pA), .val (.int pE), .val (.ref ob32), .val (.int (leF (1 : Int32) (u kA) (u (kA + 1)) (u (kA + 2)) ((pA + (1 : Int32)) < pE) ((pA + (2 : Int32)) < pE))), .val (.int (pE - pA)), .val (.int ((u kA) &&& (255 : Int32))), .val (.int k1), .val (.int k2), .val (.int (1 : Int32))] [])
          refine Runs.back (fun t_ k_ => XS.iload X34.here hx rfl (hb hby at_245) rfl k_) ?_
          show Runs _ _ _ _ T34 (mkF m 247 #[.val (.int p0), .val (.int p1), .val (.int p2), .val (.int p3), .val (.int p4), .val (.int p5), .val (.int (1 : Int32)), .val (.ref ob23), .val (.int pA), .val (.int pE), .val (.ref ob32), .val (.int (leF (1 : Int32) (u kA) (u (kA + 1)) (u (kA + 2)) ((pA + (1 : Int32)) < pE) ((pA + (2 : Int32)) < pE))), .val (.int (pE - pA)), .val (.int ((u kA) &&& (255 : Int32))), .val (.int k1), .val (.int k2), .val (.int (1 : Int32))] [(.int (leF (1 : Int32) (u kA) (u (kA + 1)) (u (kA + 2)) ((pA + (1 : Int32)) < pE) ((pA + (2 : Int32)) < pE)))])
          refine Runs.back (fun t_ k_ => XS.iload X34.here hx rfl (hb hby at_247) rfl k_) ?_
          show Runs _ _ _ _ T34 (mkF m 249 #[.val (.int p0), .val (.int p1), .val (.int p2), .val (.int p3), .val (.int p4), .val (.int p5), .val (.int (1 : Int32)), .val (.ref ob23), .val (.int pA), .val (.int pE), .val (.ref ob32), .val (.int (leF (1 : Int32) (u kA) (u (kA + 1)) (u (kA + 2)) ((pA + (1 : Int32)) < pE) ((pA + (2 : Int32)) < pE))), .val (.int (pE - pA)), .val (.int ((u kA) &&& (255 : Int32))), .val (.int k1), .val (.int k2), .val (.int (1 : Int32))] [(.int (1 : Int32)), (.int (leF (1 : Int32) (u kA) (u (kA + 1)) (u (kA + 2)) ((pA + (1 : Int32)) < pE) ((pA + (2 : Int32)) < pE)))])
          refine Runs.back (fun t_ k_ => XS.icmpNo X34.here hx rfl (hb hby at_249) rfl (teq (show (leF (1 : Int32) (u kA) (u (kA + 1)) (u (kA + 2)) ((pA + (1 : Int32)) < pE) ((pA + (2 : Int32)) < pE)) = (1 : Int32) from ((le_law (fl := (1 : Int32)) (hub kA) (hub (kA + 1)) (hub (kA + 2)) hBA hk12.1 hk12.2).trans (by first | rfl | simp +decide only [exF, exR, if_neg c170_36, if_pos c177_37, if_true, if_false, ↓reduceIte])))).2 k_) ?_
          show Runs _ _ _ _ T34 (mkF m 252 #[.val (.int p0), .val (.int p1), .val (.int p2), .val (.int p3), .val (.int p4), .val (.int p5), .val (.int (1 : Int32)), .val (.ref ob23), .val (.int pA), .val (.int pE), .val (.ref ob32), .val (.int (leF (1 : Int32) (u kA) (u (kA + 1)) (u (kA + 2)) ((pA + (1 : Int32)) < pE) ((pA + (2 : Int32)) < pE))), .val (.int (pE - pA)), .val (.int ((u kA) &&& (255 : Int32))), .val (.int k1), .val (.int k2), .val (.int (1 : Int32))] [])
          refine Runs.back (fun t_ k_ => XS.iconst X34.here hx rfl (hb hby at_252) k_) ?_
          show Runs _ _ _ _ T34 (mkF m 253 #[.val (.int p0), .val (.int p1), .val (.int p2), .val (.int p3), .val (.int p4), .val (.int p5), .val (.int (1 : Int32)), .val (.ref ob23), .val (.int pA), .val (.int pE), .val (.ref ob32), .val (.int (leF (1 : Int32) (u kA) (u (kA + 1)) (u (kA + 2)) ((pA + (1 : Int32)) < pE) ((pA + (2 : Int32)) < pE))), .val (.int (pE - pA)), .val (.int ((u kA) &&& (255 : Int32))), .val (.int k1), .val (.int k2), .val (.int (1 : Int32))] [(.int (1 : Int32))])
          refine Runs.back (fun t_ k_ => XS.goto X34.here hx rfl (pc0 := 253) (pc' := 257) rfl (hb hby at_253) (by decide) (by decide) k_) ?_
          show Runs _ _ _ _ T34 (mkF m 257 #[.val (.int p0), .val (.int p1), .val (.int p2), .val (.int p3), .val (.int p4), .val (.int p5), .val (.int (1 : Int32)), .val (.ref ob23), .val (.int pA), .val (.int pE), .val (.ref ob32), .val (.int (leF (1 : Int32) (u kA) (u (kA + 1)) (u (kA + 2)) ((pA + (1 : Int32)) < pE) ((pA + (2 : Int32)) < pE))), .val (.int (pE - pA)), .val (.int ((u kA) &&& (255 : Int32))), .val (.int k1), .val (.int k2), .val (.int (1 : Int32))] [(.int (1 : Int32))])
          obtain ⟨fs, hr, hrun, hended, hW, hsame⟩ := X34.leave (v := some (.int (1 : Int32))) (fun h => by rw [Bd.returns] at h; cases h)
          exact ⟨_, _, (retN X34 hx (t := .boolean) Bd.returns (by simp) (hb hby at_257) hr), hrun, hended, _, _, rfl, ⟨rfl, N34⟩, ⟨_, rfl⟩, hW, hsame.mono (by decide) (by decide)⟩
        · refine Runs.back (fun t_ k_ => XS.icmpYes X34.here hx rfl (pc0 := 177) (pc' := 186) rfl (hb hby at_177) rfl (feq c177_37).2 (by decide) (by decide) k_) ?_
          show Runs _ _ _ _ T34 (mkF m 186 #[.val (.int p0), .val (.int p1), .val (.int p2), .val (.int p3), .val (.int p4), .val (.int p5), .val (.int (1 : Int32)), .val (.ref ob23), .val (.int pA), .val (.int pE), .val (.ref ob32), .val (.int (leF (1 : Int32) (u kA) (u (kA + 1)) (u (kA + 2)) ((pA + (1 : Int32)) < pE) ((pA + (2 : Int32)) < pE))), .val (.int (pE - pA)), .val (.int ((u kA) &&& (255 : Int32))), .val (.int k1), .val (.int k2), .val (.int (0 : Int32))] [])
          refine Runs.back (fun t_ k_ => XS.iload X34.here hx rfl (hb hby at_186) rfl k_) ?_
          show Runs _ _ _ _ T34 (mkF m 188 #[.val (.int p0), .val (.int p1), .val (.int p2), .val (.int p3), .val (.int p4), .val (.int p5), .val (.int (1 : Int32)), .val (.ref ob23), .val (.int pA), .val (.int pE), .val (.ref ob32), .val (.int (leF (1 : Int32) (u kA) (u (kA + 1)) (u (kA + 2)) ((pA + (1 : Int32)) < pE) ((pA + (2 : Int32)) < pE))), .val (.int (pE - pA)), .val (.int ((u kA) &&& (255 : Int32))), .val (.int k1), .val (.int k2), .val (.int (0 : Int32))] [(.int (1 : Int32))])
          refine Runs.back (fun t_ k_ => XS.ifNo X34.here hx rfl (hb hby at_188) rfl ((if0 _ _).trans (feq (show ¬ ((1 : Int32) = (0 : Int32)) from (by decide))).1) k_) ?_
          show Runs _ _ _ _ T34 (mkF m 191 #[.val (.int p0), .val (.int p1), .val (.int p2), .val (.int p3), .val (.int p4), .val (.int p5), .val (.int (1 : Int32)), .val (.ref ob23), .val (.int pA), .val (.int pE), .val (.ref ob32), .val (.int (leF (1 : Int32) (u kA) (u (kA + 1)) (u (kA + 2)) ((pA + (1 : Int32)) < pE) ((pA + (2 : Int32)) < pE))), .val (.int (pE - pA)), .val (.int ((u kA) &&& (255 : Int32))), .val (.int k1), .val (.int k2), .val (.int (0 : Int32))] [])
          refine Runs.back (fun t_ k_ => XS.iload X34.here hx rfl (hb hby at_191) rfl k_) ?_
          show Runs _ _ _ _ T34 (mkF m 193 #[.val (.int p0), .val (.int p1), .val (.int p2), .val (.int p3), .val (.int p4), .val (.int p5), .val (.int (1 : Int32)), .val (.ref ob23), .val (.int pA), .val (.int pE), .val (.ref ob32), .val (.int (leF (1 : Int32) (u kA) (u (kA + 1)) (u (kA + 2)) ((pA + (1 : Int32)) < pE) ((pA + (2 : Int32)) < pE))), .val (.int (pE - pA)), .val (.int ((u kA) &&& (255 : Int32))), .val (.int k1), .val (.int k2), .val (.int (0 : Int32))] [(.int ((u kA) &&& (255 : Int32)))])
          refine Runs.back (fun t_ k_ => XS.sipush X34.here hx rfl (hb hby at_193) k_) ?_
          show Runs _ _ _ _ T34 (mkF m 196 #[.val (.int p0), .val (.int p1), .val (.int p2), .val (.int p3), .val (.int p4), .val (.int p5), .val (.int (1 : Int32)), .val (.ref ob23), .val (.int pA), .val (.int pE), .val (.ref ob32), .val (.int (leF (1 : Int32) (u kA) (u (kA + 1)) (u (kA + 2)) ((pA + (1 : Int32)) < pE) ((pA + (2 : Int32)) < pE))), .val (.int (pE - pA)), .val (.int ((u kA) &&& (255 : Int32))), .val (.int k1), .val (.int k2), .val (.int (0 : Int32))] [(.int (194 : Int32)), (.int ((u kA) &&& (255 : Int32)))])
          by_cases c196_38 : ((u kA) &&& (255 : Int32)) = (194 : Int32)
          · refine Runs.back (fun t_ k_ => XS.icmpNo X34.here hx rfl (hb hby at_196) rfl (teq c196_38).2 k_) ?_
            show Runs _ _ _ _ T34 (mkF m 199 #[.val (.int p0), .val (.int p1), .val (.int p2), .val (.int p3), .val (.int p4), .val (.int p5), .val (.int (1 : Int32)), .val (.ref ob23), .val (.int pA), .val (.int pE), .val (.ref ob32), .val (.int (leF (1 : Int32) (u kA) (u (kA + 1)) (u (kA + 2)) ((pA + (1 : Int32)) < pE) ((pA + (2 : Int32)) < pE))), .val (.int (pE - pA)), .val (.int ((u kA) &&& (255 : Int32))), .val (.int k1), .val (.int k2), .val (.int (0 : Int32))] [])
            refine Runs.back (fun t_ k_ => XS.iload X34.here hx rfl (hb hby at_199) rfl k_) ?_
            show Runs _ _ _ _ T34 (mkF m 201 #[.val (.int p0), .val (.int p1), .val (.int p2), .val (.int p3), .val (.int p4), .val (.int p5), .val (.int (1 : Int32)), .val (.ref ob23), .val (.int pA), .val (.int pE), .val (.ref ob32), .val (.int (leF (1 : Int32) (u kA) (u (kA + 1)) (u (kA + 2)) ((pA + (1 : Int32)) < pE) ((pA + (2 : Int32)) < pE))), .val (.int (pE - pA)), .val (.int ((u kA) &&& (255 : Int32))), .val (.int k1), .val (.int k2), .val (.int (0 : Int32))] [(.int k1)])
            refine Runs.back (fun t_ k_ => XS.sipush X34.here hx rfl (hb hby at_201) k_) ?_
            show Runs _ _ _ _ T34 (mkF m 204 #[.val (.int p0), .val (.int p1), .val (.int p2), .val (.int p3), .val (.int p4), .val (.int p5), .val (.int (1 : Int32)), .val (.ref ob23), .val (.int pA), .val (.int pE), .val (.ref ob32), .val (.int (leF (1 : Int32) (u kA) (u (kA + 1)) (u (kA + 2)) ((pA + (1 : Int32)) < pE) ((pA + (2 : Int32)) < pE))), .val (.int (pE - pA)), .val (.int ((u kA) &&& (255 : Int32))), .val (.int k1), .val (.int k2), .val (.int (0 : Int32))] [(.int (133 : Int32)), (.int k1)])
            by_cases c204_39 : k1 = (133 : Int32)
            · refine Runs.back (fun t_ k_ => XS.icmpNo X34.here hx rfl (hb hby at_204) rfl (teq c204_39).2 k_) ?_
              show Runs _ _ _ _ T34 (mkF m 207 #[.val (.int p0), .val (.int p1), .val (.int p2), .val (.int p3), .val (.int p4), .val (.int p5), .val (.int (1 : Int32)), .val (.ref ob23), .val (.int pA), .val (.int pE), .val (.ref ob32), .val (.int (leF (1 : Int32) (u kA) (u (kA + 1)) (u (kA + 2)) ((pA + (1 : Int32)) < pE) ((pA + (2 : Int32)) < pE))), .val (.int (pE - pA)), .val (.int ((u kA) &&& (255 : Int32))), .val (.int k1), .val (.int k2), .val (.int (0 : Int32))] [])
              refine Runs.back (fun t_ k_ => XS.iconst X34.here hx rfl (hb hby at_207) k_) ?_
              show Runs _ _ _ _ T34 (mkF m 208 #[.val (.int p0), .val (.int p1), .val (.int p2), .val (.int p3), .val (.int p4), .val (.int p5), .val (.int (1 : Int32)), .val (.ref ob23), .val (.int pA), .val (.int pE), .val (.ref ob32), .val (.int (leF (1 : Int32) (u kA) (u (kA + 1)) (u (kA + 2)) ((pA + (1 : Int32)) < pE) ((pA + (2 : Int32)) < pE))), .val (.int (pE - pA)), .val (.int ((u kA) &&& (255 : Int32))), .val (.int k1), .val (.int k2), .val (.int (0 : Int32))] [(.int (2 : Int32))])
              refine Runs.back (fun t_ k_ => XS.istore X34.here hx rfl (hb hby at_208) rfl (l' := #[.val (.int p0), .val (.int p1), .val (.int p2), .val (.int p3), .val (.int p4), .val (.int p5), .val (.int (1 : Int32)), .val (.ref ob23), .val (.int pA), .val (.int pE), .val (.ref ob32), .val (.int (leF (1 : Int32) (u kA) (u (kA + 1)) (u (kA + 2)) ((pA + (1 : Int32)) < pE) ((pA + (2 : Int32)) < pE))), .val (.int (pE - pA)), .val (.int ((u kA) &&& (255 : Int32))), .val (.int k1), .val (.int k2), .val (.int (2 : Int32))]) rfl k_) ?_
              show Runs _ _ _ _ T34 (mkF m 210 #[.val (.int p0), .val (.int p1), .val (.int p2), .val (.int p3), .val (.int p4), .val (.int p5), .val (.int (1 : Int32)), .val (.ref ob23), .val (.int pA), .val (.int pE), .val (.ref ob32), .val (.int (leF (1 : Int32) (u kA) (u (kA + 1)) (u (kA + 2)) ((pA + (1 : Int32)) < pE) ((pA + (2 : Int32)) < pE))), .val (.int (pE - pA)), .val (.int ((u kA) &&& (255 : Int32))), .val (.int k1), .val (.int k2), .val (.int (2 : Int32))] [])
              refine Runs.back (fun t_ k_ => XS.goto X34.here hx rfl (pc0 := 210) (pc' := 245) rfl (hb hby at_210) (by decide) (by decide) k_) ?_
              show Runs _ _ _ _ T34 (mkF m 245 #[.val (.int p0), .val (.int p1), .val (.int p2), .val (.int p3), .val (.int p4), .val (.int p5), .val (.int (1 : Int32)), .val (.ref ob23), .val (.int pA), .val (.int pE), .val (.ref ob32), .val (.int (leF (1 : Int32) (u kA) (u (kA + 1)) (u (kA + 2)) ((pA + (1 : Int32)) < pE) ((pA + (2 : Int32)) < pE))), .val (.int (pE - pA)), .val (.int ((u kA) &&& (255 : Int32))), .val (.int k1), .val (.int k2), .val (.int (2 : Int32))] [])
              refine Runs.back (fun t_ k_ => XS.iload X34.here hx rfl (hb hby at_245) rfl k_) ?_
              show Runs _ _ _ _ T34 (mkF m 247 #[.val (.int p0), .val (.int p1), .val (.int p2), .val (.int p3), .val (.int p4), .val (.int p5), .val (.int (1 : Int32)), .val (.ref ob23), .val (.int pA), .val (.int pE), .val (.ref ob32), .val (.int (leF (1 : Int32) (u kA) (u (kA + 1)) (u (kA + 2)) ((pA + (1 : Int32)) < pE) ((pA + (2 : Int32)) < pE))), .val (.int (pE - pA)), .val (.int ((u kA) &&& (255 : Int32))), .val (.int k1), .val (.int k2), .val (.int (2 : Int32))] [(.int (leF (1 : Int32) (u kA) (u (kA + 1)) (u (kA + 2)) ((pA + (1 : Int32)) < pE) ((pA + (2 : Int32)) < pE)))])
              refine Runs.back (fun t_ k_ => XS.iload X34.here hx rfl (hb hby at_247) rfl k_) ?_
              show Runs _ _ _ _ T34 (mkF m 249 #[.val (.int p0), .val (.int p1), .val (.int p2), .val (.int p3), .val (.int p4), .val (.int p5), .val (.int (1 : Int32)), .val (.ref ob23), .val (.int pA), .val (.int pE), .val (.ref ob32), .val (.int (leF (1 : Int32) (u kA) (u (kA + 1)) (u (kA + 2)) ((pA + (1 : Int32)) < pE) ((pA + (2 : Int32)) < pE))), .val (.int (pE - pA)), .val (.int ((u kA) &&& (255 : Int32))), .val (.int k1), .val (.int k2), .val (.int (2 : Int32))] [(.int (2 : Int32)), (.int (leF (1 : Int32) (u kA) (u (kA + 1)) (u (kA + 2)) ((pA + (1 : Int32)) < pE) ((pA + (2 : Int32)) < pE)))])
              refine Runs.back (fun t_ k_ => XS.icmpNo X34.here hx rfl (hb hby at_249) rfl (teq (show (leF (1 : Int32) (u kA) (u (kA + 1)) (u (kA + 2)) ((pA + (1 : Int32)) < pE) ((pA + (2 : Int32)) < pE)) = (2 : Int32) from ((le_law (fl := (1 : Int32)) (hub kA) (hub (kA + 1)) (hub (kA + 2)) hBA hk12.1 hk12.2).trans (by first | rfl | simp +decide only [exF, exR, if_neg c170_36, if_neg c177_37, if_pos c196_38, if_pos c204_39, if_true, if_false, ↓reduceIte])))).2 k_) ?_
              show Runs _ _ _ _ T34 (mkF m 252 #[.val (.int p0), .val (.int p1), .val (.int p2), .val (.int p3), .val (.int p4), .val (.int p5), .val (.int (1 : Int32)), .val (.ref ob23), .val (.int pA), .val (.int pE), .val (.ref ob32), .val (.int (leF (1 : Int32) (u kA) (u (kA + 1)) (u (kA + 2)) ((pA + (1 : Int32)) < pE) ((pA + (2 : Int32)) < pE))), .val (.int (pE - pA)), .val (.int ((u kA) &&& (255 : Int32))), .val (.int k1), .val (.int k2), .val (.int (2 : Int32))] [])
              refine Runs.back (fun t_ k_ => XS.iconst X34.here hx rfl (hb hby at_252) k_) ?_
              show Runs _ _ _ _ T34 (mkF m 253 #[.val (.int p0), .val (.int p1), .val (.int p2), .val (.int p3), .val (.int p4), .val (.int p5), .val (.int (1 : Int32)), .val (.ref ob23), .val (.int pA), .val (.int pE), .val (.ref ob32), .val (.int (leF (1 : Int32) (u kA) (u (kA + 1)) (u (kA + 2)) ((pA + (1 : Int32)) < pE) ((pA + (2 : Int32)) < pE))), .val (.int (pE - pA)), .val (.int ((u kA) &&& (255 : Int32))), .val (.int k1), .val (.int k2), .val (.int (2 : Int32))] [(.int (1 : Int32))])
              refine Runs.back (fun t_ k_ => XS.goto X34.here hx rfl (pc0 := 253) (pc' := 257) rfl (hb hby at_253) (by decide) (by decide) k_) ?_
              show Runs _ _ _ _ T34 (mkF m 257 #[.val (.int p0), .val (.int p1), .val (.int p2), .val (.int p3), .val (.int p4), .val (.int p5), .val (.int (1 : Int32)), .val (.ref ob23), .val (.int pA), .val (.int pE), .val (.ref ob32), .val (.int (leF (1 : Int32) (u kA) (u (kA + 1)) (u (kA + 2)) ((pA + (1 : Int32)) < pE) ((pA + (2 : Int32)) < pE))), .val (.int (pE - pA)), .val (.int ((u kA) &&& (255 : Int32))), .val (.int k1), .val (.int k2), .val (.int (2 : Int32))] [(.int (1 : Int32))])
              obtain ⟨fs, hr, hrun, hended, hW, hsame⟩ := X34.leave (v := some (.int (1 : Int32))) (fun h => by rw [Bd.returns] at h; cases h)
              exact ⟨_, _, (retN X34 hx (t := .boolean) Bd.returns (by simp) (hb hby at_257) hr), hrun, hended, _, _, rfl, ⟨rfl, N34⟩, ⟨_, rfl⟩, hW, hsame.mono (by decide) (by decide)⟩
            · refine Runs.back (fun t_ k_ => XS.icmpYes X34.here hx rfl (pc0 := 204) (pc' := 213) rfl (hb hby at_204) rfl (feq c204_39).2 (by decide) (by decide) k_) ?_
              show Runs _ _ _ _ T34 (mkF m 213 #[.val (.int p0), .val (.int p1), .val (.int p2), .val (.int p3), .val (.int p4), .val (.int p5), .val (.int (1 : Int32)), .val (.ref ob23), .val (.int pA), .val (.int pE), .val (.ref ob32), .val (.int (leF (1 : Int32) (u kA) (u (kA + 1)) (u (kA + 2)) ((pA + (1 : Int32)) < pE) ((pA + (2 : Int32)) < pE))), .val (.int (pE - pA)), .val (.int ((u kA) &&& (255 : Int32))), .val (.int k1), .val (.int k2), .val (.int (0 : Int32))] [])
              refine Runs.back (fun t_ k_ => XS.iload X34.here hx rfl (hb hby at_213) rfl k_) ?_
              show Runs _ _ _ _ T34 (mkF m 215 #[.val (.int p0), .val (.int p1), .val (.int p2), .val (.int p3), .val (.int p4), .val (.int p5), .val (.int (1 : Int32)), .val (.ref ob23), .val (.int pA), .val (.int pE), .val (.ref ob32), .val (.int (leF (1 : Int32) (u kA) (u (kA + 1)) (u (kA + 2)) ((pA + (1 : Int32)) < pE) ((pA + (2 : Int32)) < pE))), .val (.int (pE - pA)), .val (.int ((u kA) &&& (255 : Int32))), .val (.int k1), .val (.int k2), .val (.int (0 : Int32))] [(.int (1 : Int32))])
              refine Runs.back (fun t_ k_ => XS.ifNo X34.here hx rfl (hb hby at_215) rfl ((if0 _ _).trans (feq (show ¬ ((1 : Int32) = (0 : Int32)) from (by decide))).1) k_) ?_
              show Runs _ _ _ _ T34 (mkF m 218 #[.val (.int p0), .val (.int p1), .val (.int p2), .val (.int p3), .val (.int p4), .val (.int p5), .val (.int (1 : Int32)), .val (.ref ob23), .val (.int pA), .val (.int pE), .val (.ref ob32), .val (.int (leF (1 : Int32) (u kA) (u (kA + 1)) (u (kA + 2)) ((pA + (1 : Int32)) < pE) ((pA + (2 : Int32)) < pE))), .val (.int (pE - pA)), .val (.int ((u kA) &&& (255 : Int32))), .val (.int k1), .val (.int k2), .val (.int (0 : Int32))] [])
              refine Runs.back (fun t_ k_ => XS.iload X34.here hx rfl (hb hby at_218) rfl k_) ?_
              show Runs _ _ _ _ T34 (mkF m 220 #[.val (.int p0), .val (.int p1), .val (.int p2), .val (.int p3), .val (.int p4), .val (.int p5), .val (.int (1 : Int32)), .val (.ref ob23), .val (.int pA), .val (.int pE), .val (.ref ob32), .val (.int (leF (1 : Int32) (u kA) (u (kA + 1)) (u (kA + 2)) ((pA + (1 : Int32)) < pE) ((pA + (2 : Int32)) < pE))), .val (.int (pE - pA)), .val (.int ((u kA) &&& (255 : Int32))), .val (.int k1), .val (.int k2), .val (.int (0 : Int32))] [(.int ((u kA) &&& (255 : Int32)))])
              refine Runs.back (fun t_ k_ => XS.sipush X34.here hx rfl (hb hby at_220) k_) ?_
              show Runs _ _ _ _ T34 (mkF m 223 #[.val (.int p0), .val (.int p1), .val (.int p2), .val (.int p3), .val (.int p4), .val (.int p5), .val (.int (1 : Int32)), .val (.ref ob23), .val (.int pA), .val (.int pE), .val (.ref ob32), .val (.int (leF (1 : Int32) (u kA) (u (kA + 1)) (u (kA + 2)) ((pA + (1 : Int32)) < pE) ((pA + (2 : Int32)) < pE))), .val (.int (pE - pA)), .val (.int ((u kA) &&& (255 : Int32))), .val (.int k1), .val (.int k2), .val (.int (0 : Int32))] [(.int (226 : Int32)), (.int ((u kA) &&& (255 : Int32)))])
              have x223_40 : ¬ ((u kA) &&& (255 : Int32)) = (226 : Int32) := by rw [c196_38]; decide
              refine Runs.back (fun t_ k_ => XS.icmpYes X34.here hx rfl (pc0 := 223) (pc' := 245) rfl (hb hby at_223) rfl (feq (show ¬ (((u kA) &&& (255 : Int32)) = (226 : Int32)) from x223_40)).2 (by decide) (by decide) k_) ?_
              show Runs _ _ _ _ T34 (mkF m 245 #[.val (.int p0), .val (.int p1), .val (.int p2), .val (.int p3), .val (.int p4), .val (.int p5), .val (.int (1 : Int32)), .val (.ref ob23), .val (.int pA), .val (.int pE), .val (.ref ob32), .val (.int (leF (1 : Int32) (u kA) (u (kA + 1)) (u (kA + 2)) ((pA + (1 : Int32)) < pE) ((pA + (2 : Int32)) < pE))), .val (.int (pE - pA)), .val (.int ((u kA) &&& (255 : Int32))), .val (.int k1), .val (.int k2), .val (.int (0 : Int32))] [])
              refine Runs.back (fun t_ k_ => XS.iload X34.here hx rfl (hb hby at_245) rfl k_) ?_
              show Runs _ _ _ _ T34 (mkF m 247 #[.val (.int p0), .val (.int p1), .val (.int p2), .val (.int p3), .val (.int p4), .val (.int p5), .val (.int (1 : Int32)), .val (.ref ob23), .val (.int pA), .val (.int pE), .val (.ref ob32), .val (.int (leF (1 : Int32) (u kA) (u (kA + 1)) (u (kA + 2)) ((pA + (1 : Int32)) < pE) ((pA + (2 : Int32)) < pE))), .val (.int (pE - pA)), .val (.int ((u kA) &&& (255 : Int32))), .val (.int k1), .val (.int k2), .val (.int (0 : Int32))] [(.int (leF (1 : Int32) (u kA) (u (kA + 1)) (u (kA + 2)) ((pA + (1 : Int32)) < pE) ((pA + (2 : Int32)) < pE)))])
              refine Runs.back (fun t_ k_ => XS.iload X34.here hx rfl (hb hby at_247) rfl k_) ?_
              show Runs _ _ _ _ T34 (mkF m 249 #[.val (.int p0), .val (.int p1), .val (.int p2), .val (.int p3), .val (.int p4), .val (.int p5), .val (.int (1 : Int32)), .val (.ref ob23), .val (.int pA), .val (.int pE), .val (.ref ob32), .val (.int (leF (1 : Int32) (u kA) (u (kA + 1)) (u (kA + 2)) ((pA + (1 : Int32)) < pE) ((pA + (2 : Int32)) < pE))), .val (.int (pE - pA)), .val (.int ((u kA) &&& (255 : Int32))), .val (.int k1), .val (.int k2), .val (.int (0 : Int32))] [(.int (0 : Int32)), (.int (leF (1 : Int32) (u kA) (u (kA + 1)) (u (kA + 2)) ((pA + (1 : Int32)) < pE) ((pA + (2 : Int32)) < pE)))])
              refine Runs.back (fun t_ k_ => XS.icmpNo X34.here hx rfl (hb hby at_249) rfl (teq (show (leF (1 : Int32) (u kA) (u (kA + 1)) (u (kA + 2)) ((pA + (1 : Int32)) < pE) ((pA + (2 : Int32)) < pE)) = (0 : Int32) from ((le_law (fl := (1 : Int32)) (hub kA) (hub (kA + 1)) (hub (kA + 2)) hBA hk12.1 hk12.2).trans (by first | rfl | simp +decide only [exF, exR, if_neg c170_36, if_neg c177_37, if_pos c196_38, if_neg c204_39, if_neg x223_40, if_true, if_false, ↓reduceIte])))).2 k_) ?_
              show Runs _ _ _ _ T34 (mkF m 252 #[.val (.int p0), .val (.int p1), .val (.int p2), .val (.int p3), .val (.int p4), .val (.int p5), .val (.int (1 : Int32)), .val (.ref ob23), .val (.int pA), .val (.int pE), .val (.ref ob32), .val (.int (leF (1 : Int32) (u kA) (u (kA + 1)) (u (kA + 2)) ((pA + (1 : Int32)) < pE) ((pA + (2 : Int32)) < pE))), .val (.int (pE - pA)), .val (.int ((u kA) &&& (255 : Int32))), .val (.int k1), .val (.int k2), .val (.int (0 : Int32))] [])
              refine Runs.back (fun t_ k_ => XS.iconst X34.here hx rfl (hb hby at_252) k_) ?_
              show Runs _ _ _ _ T34 (mkF m 253 #[.val (.int p0), .val (.int p1), .val (.int p2), .val (.int p3), .val (.int p4), .val (.int p5), .val (.int (1 : Int32)), .val (.ref ob23), .val (.int pA), .val (.int pE), .val (.ref ob32), .val (.int (leF (1 : Int32) (u kA) (u (kA + 1)) (u (kA + 2)) ((pA + (1 : Int32)) < pE) ((pA + (2 : Int32)) < pE))), .val (.int (pE - pA)), .val (.int ((u kA) &&& (255 : Int32))), .val (.int k1), .val (.int k2), .val (.int (0 : Int32))] [(.int (1 : Int32))])
              refine Runs.back (fun t_ k_ => XS.goto X34.here hx rfl (pc0 := 253) (pc' := 257) rfl (hb hby at_253) (by decide) (by decide) k_) ?_
              show Runs _ _ _ _ T34 (mkF m 257 #[.val (.int p0), .val (.int p1), .val (.int p2), .val (.int p3), .val (.int p4), .val (.int p5), .val (.int (1 : Int32)), .val (.ref ob23), .val (.int pA), .val (.int pE), .val (.ref ob32), .val (.int (leF (1 : Int32) (u kA) (u (kA + 1)) (u (kA + 2)) ((pA + (1 : Int32)) < pE) ((pA + (2 : Int32)) < pE))), .val (.int (pE - pA)), .val (.int ((u kA) &&& (255 : Int32))), .val (.int k1), .val (.int k2), .val (.int (0 : Int32))] [(.int (1 : Int32))])
              obtain ⟨fs, hr, hrun, hended, hW, hsame⟩ := X34.leave (v := some (.int (1 : Int32))) (fun h => by rw [Bd.returns] at h; cases h)
              exact ⟨_, _, (retN X34 hx (t := .boolean) Bd.returns (by simp) (hb hby at_257) hr), hrun, hended, _, _, rfl, ⟨rfl, N34⟩, ⟨_, rfl⟩, hW, hsame.mono (by decide) (by decide)⟩
          · refine Runs.back (fun t_ k_ => XS.icmpYes X34.here hx rfl (pc0 := 196) (pc' := 213) rfl (hb hby at_196) rfl (feq c196_38).2 (by decide) (by decide) k_) ?_
            show Runs _ _ _ _ T34 (mkF m 213 #[.val (.int p0), .val (.int p1), .val (.int p2), .val (.int p3), .val (.int p4), .val (.int p5), .val (.int (1 : Int32)), .val (.ref ob23), .val (.int pA), .val (.int pE), .val (.ref ob32), .val (.int (leF (1 : Int32) (u kA) (u (kA + 1)) (u (kA + 2)) ((pA + (1 : Int32)) < pE) ((pA + (2 : Int32)) < pE))), .val (.int (pE - pA)), .val (.int ((u kA) &&& (255 : Int32))), .val (.int k1), .val (.int k2), .val (.int (0 : Int32))] [])
            refine Runs.back (fun t_ k_ => XS.iload X34.here hx rfl (hb hby at_213) rfl k_) ?_
            show Runs _ _ _ _ T34 (mkF m 215 #[.val (.int p0), .val (.int p1), .val (.int p2), .val (.int p3), .val (.int p4), .val (.int p5), .val (.int (1 : Int32)), .val (.ref ob23), .val (.int pA), .val (.int pE), .val (.ref ob32), .val (.int (leF (1 : Int32) (u kA) (u (kA + 1)) (u (kA + 2)) ((pA + (1 : Int32)) < pE) ((pA + (2 : Int32)) < pE))), .val (.int (pE - pA)), .val (.int ((u kA) &&& (255 : Int32))), .val (.int k1), .val (.int k2), .val (.int (0 : Int32))] [(.int (1 : Int32))])
            refine Runs.back (fun t_ k_ => XS.ifNo X34.here hx rfl (hb hby at_215) rfl ((if0 _ _).trans (feq (show ¬ ((1 : Int32) = (0 : Int32)) from (by decide))).1) k_) ?_
            show Runs _ _ _ _ T34 (mkF m 218 #[.val (.int p0), .val (.int p1), .val (.int p2), .val (.int p3), .val (.int p4), .val (.int p5), .val (.int (1 : Int32)), .val (.ref ob23), .val (.int pA), .val (.int pE), .val (.ref ob32), .val (.int (leF (1 : Int32) (u kA) (u (kA + 1)) (u (kA + 2)) ((pA + (1 : Int32)) < pE) ((pA + (2 : Int32)) < pE))), .val (.int (pE - pA)), .val (.int ((u kA) &&& (255 : Int32))), .val (.int k1), .val (.int k2), .val (.int (0 : Int32))] [])
            refine Runs.back (fun t_ k_ => XS.iload X34.here hx rfl (hb hby at_218) rfl k_) ?_
            show Runs _ _ _ _ T34 (mkF m 220 #[.val (.int p0), .val (.int p1), .val (.int p2), .val (.int p3), .val (.int p4), .val (.int p5), .val (.int (1 : Int32)), .val (.ref ob23), .val (.int pA), .val (.int pE), .val (.ref ob32), .val (.int (leF (1 : Int32) (u kA) (u (kA + 1)) (u (kA + 2)) ((pA + (1 : Int32)) < pE) ((pA + (2 : Int32)) < pE))), .val (.int (pE - pA)), .val (.int ((u kA) &&& (255 : Int32))), .val (.int k1), .val (.int k2), .val (.int (0 : Int32))] [(.int ((u kA) &&& (255 : Int32)))])
            refine Runs.back (fun t_ k_ => XS.sipush X34.here hx rfl (hb hby at_220) k_) ?_
            show Runs _ _ _ _ T34 (mkF m 223 #[.val (.int p0), .val (.int p1), .val (.int p2), .val (.int p3), .val (.int p4), .val (.int p5), .val (.int (1 : Int32)), .val (.ref ob23), .val (.int pA), .val (.int pE), .val (.ref ob32), .val (.int (leF (1 : Int32) (u kA) (u (kA + 1)) (u (kA + 2)) ((pA + (1 : Int32)) < pE) ((pA + (2 : Int32)) < pE))), .val (.int (pE - pA)), .val (.int ((u kA) &&& (255 : Int32))), .val (.int k1), .val (.int k2), .val (.int (0 : Int32))] [(.int (226 : Int32)), (.int ((u kA) &&& (255 : Int32)))])
            by_cases c223_41 : ((u kA) &&& (255 : Int32)) = (226 : Int32)
            · refine Runs.back (fun t_ k_ => XS.icmpNo X34.here hx rfl (hb hby at_223) rfl (teq c223_41).2 k_) ?_
              show Runs _ _ _ _ T34 (mkF m 226 #[.val (.int p0), .val (.int p1), .val (.int p2), .val (.int p3), .val (.int p4), .val (.int p5), .val (.int (1 : Int32)), .val (.ref ob23), .val (.int pA), .val (.int pE), .val (.ref ob32), .val (.int (leF (1 : Int32) (u kA) (u (kA + 1)) (u (kA + 2)) ((pA + (1 : Int32)) < pE) ((pA + (2 : Int32)) < pE))), .val (.int (pE - pA)), .val (.int ((u kA) &&& (255 : Int32))), .val (.int k1), .val (.int k2), .val (.int (0 : Int32))] [])
              refine Runs.back (fun t_ k_ => XS.iload X34.here hx rfl (hb hby at_226) rfl k_) ?_
              show Runs _ _ _ _ T34 (mkF m 228 #[.val (.int p0), .val (.int p1), .val (.int p2), .val (.int p3), .val (.int p4), .val (.int p5), .val (.int (1 : Int32)), .val (.ref ob23), .val (.int pA), .val (.int pE), .val (.ref ob32), .val (.int (leF (1 : Int32) (u kA) (u (kA + 1)) (u (kA + 2)) ((pA + (1 : Int32)) < pE) ((pA + (2 : Int32)) < pE))), .val (.int (pE - pA)), .val (.int ((u kA) &&& (255 : Int32))), .val (.int k1), .val (.int k2), .val (.int (0 : Int32))] [(.int k1)])
              refine Runs.back (fun t_ k_ => XS.sipush X34.here hx rfl (hb hby at_228) k_) ?_
              show Runs _ _ _ _ T34 (mkF m 231 #[.val (.int p0), .val (.int p1), .val (.int p2), .val (.int p3), .val (.int p4), .val (.int p5), .val (.int (1 : Int32)), .val (.ref ob23), .val (.int pA), .val (.int pE), .val (.ref ob32), .val (.int (leF (1 : Int32) (u kA) (u (kA + 1)) (u (kA + 2)) ((pA + (1 : Int32)) < pE) ((pA + (2 : Int32)) < pE))), .val (.int (pE - pA)), .val (.int ((u kA) &&& (255 : Int32))), .val (.int k1), .val (.int k2), .val (.int (0 : Int32))] [(.int (128 : Int32)), (.int k1)])
              by_cases c231_42 : k1 = (128 : Int32)
              · refine Runs.back (fun t_ k_ => XS.icmpNo X34.here hx rfl (hb hby at_231) rfl (teq c231_42).2 k_) ?_
                show Runs _ _ _ _ T34 (mkF m 234 #[.val (.int p0), .val (.int p1), .val (.int p2), .val (.int p3), .val (.int p4), .val (.int p5), .val (.int (1 : Int32)), .val (.ref ob23), .val (.int pA), .val (.int pE), .val (.ref ob32), .val (.int (leF (1 : Int32) (u kA) (u (kA + 1)) (u (kA + 2)) ((pA + (1 : Int32)) < pE) ((pA + (2 : Int32)) < pE))), .val (.int (pE - pA)), .val (.int ((u kA) &&& (255 : Int32))), .val (.int k1), .val (.int k2), .val (.int (0 : Int32))] [])
                refine Runs.back (fun t_ k_ => XS.iload X34.here hx rfl (hb hby at_234) rfl k_) ?_
                show Runs _ _ _ _ T34 (mkF m 236 #[.val (.int p0), .val (.int p1), .val (.int p2), .val (.int p3), .val (.int p4), .val (.int p5), .val (.int (1 : Int32)), .val (.ref ob23), .val (.int pA), .val (.int pE), .val (.ref ob32), .val (.int (leF (1 : Int32) (u kA) (u (kA + 1)) (u (kA + 2)) ((pA + (1 : Int32)) < pE) ((pA + (2 : Int32)) < pE))), .val (.int (pE - pA)), .val (.int ((u kA) &&& (255 : Int32))), .val (.int k1), .val (.int k2), .val (.int (0 : Int32))] [(.int k2)])
                refine Runs.back (fun t_ k_ => XS.sipush X34.here hx rfl (hb hby at_236) k_) ?_
                show Runs _ _ _ _ T34 (mkF m 239 #[.val (.int p0), .val (.int p1), .val (.int p2), .val (.int p3), .val (.int p4), .val (.int p5), .val (.int (1 : Int32)), .val (.ref ob23), .val (.int pA), .val (.int pE), .val (.ref ob32), .val (.int (leF (1 : Int32) (u kA) (u (kA + 1)) (u (kA + 2)) ((pA + (1 : Int32)) < pE) ((pA + (2 : Int32)) < pE))), .val (.int (pE - pA)), .val (.int ((u kA) &&& (255 : Int32))), .val (.int k1), .val (.int k2), .val (.int (0 : Int32))] [(.int (168 : Int32)), (.int k2)])
                by_cases c239_43 : k2 = (168 : Int32)
                · refine Runs.back (fun t_ k_ => XS.icmpNo X34.here hx rfl (hb hby at_239) rfl (teq c239_43).2 k_) ?_
                  show Runs _ _ _ _ T34 (mkF m 242 #[.val (.int p0), .val (.int p1), .val (.int p2), .val (.int p3), .val (.int p4), .val (.int p5), .val (.int (1 : Int32)), .val (.ref ob23), .val (.int pA), .val (.int pE), .val (.ref ob32), .val (.int (leF (1 : Int32) (u kA) (u (kA + 1)) (u (kA + 2)) ((pA + (1 : Int32)) < pE) ((pA + (2 : Int32)) < pE))), .val (.int (pE - pA)), .val (.int ((u kA) &&& (255 : Int32))), .val (.int k1), .val (.int k2), .val (.int (0 : Int32))] [])
                  refine Runs.back (fun t_ k_ => XS.iconst X34.here hx rfl (hb hby at_242) k_) ?_
                  show Runs _ _ _ _ T34 (mkF m 243 #[.val (.int p0), .val (.int p1), .val (.int p2), .val (.int p3), .val (.int p4), .val (.int p5), .val (.int (1 : Int32)), .val (.ref ob23), .val (.int pA), .val (.int pE), .val (.ref ob32), .val (.int (leF (1 : Int32) (u kA) (u (kA + 1)) (u (kA + 2)) ((pA + (1 : Int32)) < pE) ((pA + (2 : Int32)) < pE))), .val (.int (pE - pA)), .val (.int ((u kA) &&& (255 : Int32))), .val (.int k1), .val (.int k2), .val (.int (0 : Int32))] [(.int (3 : Int32))])
                  refine Runs.back (fun t_ k_ => XS.istore X34.here hx rfl (hb hby at_243) rfl (l' := #[.val (.int p0), .val (.int p1), .val (.int p2), .val (.int p3), .val (.int p4), .val (.int p5), .val (.int (1 : Int32)), .val (.ref ob23), .val (.int pA), .val (.int pE), .val (.ref ob32), .val (.int (leF (1 : Int32) (u kA) (u (kA + 1)) (u (kA + 2)) ((pA + (1 : Int32)) < pE) ((pA + (2 : Int32)) < pE))), .val (.int (pE - pA)), .val (.int ((u kA) &&& (255 : Int32))), .val (.int k1), .val (.int k2), .val (.int (3 : Int32))]) rfl k_) ?_
                  show Runs _ _ _ _ T34 (mkF m 245 #[.val (.int p0), .val (.int p1), .val (.int p2), .val (.int p3), .val (.int p4), .val (.int p5), .val (.int (1 : Int32)), .val (.ref ob23), .val (.int pA), .val (.int pE), .val (.ref ob32), .val (.int (leF (1 : Int32) (u kA) (u (kA + 1)) (u (kA + 2)) ((pA + (1 : Int32)) < pE) ((pA + (2 : Int32)) < pE))), .val (.int (pE - pA)), .val (.int ((u kA) &&& (255 : Int32))), .val (.int k1), .val (.int k2), .val (.int (3 : Int32))] [])
                  refine Runs.back (fun t_ k_ => XS.iload X34.here hx rfl (hb hby at_245) rfl k_) ?_
                  show Runs _ _ _ _ T34 (mkF m 247 #[.val (.int p0), .val (.int p1), .val (.int p2), .val (.int p3), .val (.int p4), .val (.int p5), .val (.int (1 : Int32)), .val (.ref ob23), .val (.int pA), .val (.int pE), .val (.ref ob32), .val (.int (leF (1 : Int32) (u kA) (u (kA + 1)) (u (kA + 2)) ((pA + (1 : Int32)) < pE) ((pA + (2 : Int32)) < pE))), .val (.int (pE - pA)), .val (.int ((u kA) &&& (255 : Int32))), .val (.int k1), .val (.int k2), .val (.int (3 : Int32))] [(.int (leF (1 : Int32) (u kA) (u (kA + 1)) (u (kA + 2)) ((pA + (1 : Int32)) < pE) ((pA + (2 : Int32)) < pE)))])
                  refine Runs.back (fun t_ k_ => XS.iload X34.here hx rfl (hb hby at_247) rfl k_) ?_
                  show Runs _ _ _ _ T34 (mkF m 249 #[.val (.int p0), .val (.int p1), .val (.int p2), .val (.int p3), .val (.int p4), .val (.int p5), .val (.int (1 : Int32)), .val (.ref ob23), .val (.int pA), .val (.int pE), .val (.ref ob32), .val (.int (leF (1 : Int32) (u kA) (u (kA + 1)) (u (kA + 2)) ((pA + (1 : Int32)) < pE) ((pA + (2 : Int32)) < pE))), .val (.int (pE - pA)), .val (.int ((u kA) &&& (255 : Int32))), .val (.int k1), .val (.int k2), .val (.int (3 : Int32))] [(.int (3 : Int32)), (.int (leF (1 : Int32) (u kA) (u (kA + 1)) (u (kA + 2)) ((pA + (1 : Int32)) < pE) ((pA + (2 : Int32)) < pE)))])
                  refine Runs.back (fun t_ k_ => XS.icmpNo X34.here hx rfl (hb hby at_249) rfl (teq (show (leF (1 : Int32) (u kA) (u (kA + 1)) (u (kA + 2)) ((pA + (1 : Int32)) < pE) ((pA + (2 : Int32)) < pE)) = (3 : Int32) from ((le_law (fl := (1 : Int32)) (hub kA) (hub (kA + 1)) (hub (kA + 2)) hBA hk12.1 hk12.2).trans (by first | rfl | simp +decide only [exF, exR, if_neg c170_36, if_neg c177_37, if_neg c196_38, if_pos c223_41, if_pos c231_42, if_pos c239_43, if_true, if_false, ↓reduceIte])))).2 k_) ?_
                  show Runs _ _ _ _ T34 (mkF m 252 #[.val (.int p0), .val (.int p1), .val (.int p2), .val (.int p3), .val (.int p4), .val (.int p5), .val (.int (1 : Int32)), .val (.ref ob23), .val (.int pA), .val (.int pE), .val (.ref ob32), .val (.int (leF (1 : Int32) (u kA) (u (kA + 1)) (u (kA + 2)) ((pA + (1 : Int32)) < pE) ((pA + (2 : Int32)) < pE))), .val (.int (pE - pA)), .val (.int ((u kA) &&& (255 : Int32))), .val (.int k1), .val (.int k2), .val (.int (3 : Int32))] [])
                  refine Runs.back (fun t_ k_ => XS.iconst X34.here hx rfl (hb hby at_252) k_) ?_
                  show Runs _ _ _ _ T34 (mkF m 253 #[.val (.int p0), .val (.int p1), .val (.int p2), .val (.int p3), .val (.int p4), .val (.int p5), .val (.int (1 : Int32)), .val (.ref ob23), .val (.int pA), .val (.int pE), .val (.ref ob32), .val (.int (leF (1 : Int32) (u kA) (u (kA + 1)) (u (kA + 2)) ((pA + (1 : Int32)) < pE) ((pA + (2 : Int32)) < pE))), .val (.int (pE - pA)), .val (.int ((u kA) &&& (255 : Int32))), .val (.int k1), .val (.int k2), .val (.int (3 : Int32))] [(.int (1 : Int32))])
                  refine Runs.back (fun t_ k_ => XS.goto X34.here hx rfl (pc0 := 253) (pc' := 257) rfl (hb hby at_253) (by decide) (by decide) k_) ?_
                  show Runs _ _ _ _ T34 (mkF m 257 #[.val (.int p0), .val (.int p1), .val (.int p2), .val (.int p3), .val (.int p4), .val (.int p5), .val (.int (1 : Int32)), .val (.ref ob23), .val (.int pA), .val (.int pE), .val (.ref ob32), .val (.int (leF (1 : Int32) (u kA) (u (kA + 1)) (u (kA + 2)) ((pA + (1 : Int32)) < pE) ((pA + (2 : Int32)) < pE))), .val (.int (pE - pA)), .val (.int ((u kA) &&& (255 : Int32))), .val (.int k1), .val (.int k2), .val (.int (3 : Int32))] [(.int (1 : Int32))])
                  obtain ⟨fs, hr, hrun, hended, hW, hsame⟩ := X34.leave (v := some (.int (1 : Int32))) (fun h => by rw [Bd.returns] at h; cases h)
                  exact ⟨_, _, (retN X34 hx (t := .boolean) Bd.returns (by simp) (hb hby at_257) hr), hrun, hended, _, _, rfl, ⟨rfl, N34⟩, ⟨_, rfl⟩, hW, hsame.mono (by decide) (by decide)⟩
                · refine Runs.back (fun t_ k_ => XS.icmpYes X34.here hx rfl (pc0 := 239) (pc' := 245) rfl (hb hby at_239) rfl (feq c239_43).2 (by decide) (by decide) k_) ?_
                  show Runs _ _ _ _ T34 (mkF m 245 #[.val (.int p0), .val (.int p1), .val (.int p2), .val (.int p3), .val (.int p4), .val (.int p5), .val (.int (1 : Int32)), .val (.ref ob23), .val (.int pA), .val (.int pE), .val (.ref ob32), .val (.int (leF (1 : Int32) (u kA) (u (kA + 1)) (u (kA + 2)) ((pA + (1 : Int32)) < pE) ((pA + (2 : Int32)) < pE))), .val (.int (pE - pA)), .val (.int ((u kA) &&& (255 : Int32))), .val (.int k1), .val (.int k2), .val (.int (0 : Int32))] [])
                  refine Runs.back (fun t_ k_ => XS.iload X34.here hx rfl (hb hby at_245) rfl k_) ?_
                  show Runs _ _ _ _ T34 (mkF m 247 #[.val (.int p0), .val (.int p1), .val (.int p2), .val (.int p3), .val (.int p4), .val (.int p5), .val (.int (1 : Int32)), .val (.ref ob23), .val (.int pA), .val (.int pE), .val (.ref ob32), .val (.int (leF (1 : Int32) (u kA) (u (kA + 1)) (u (kA + 2)) ((pA + (1 : Int32)) < pE) ((pA + (2 : Int32)) < pE))), .val (.int (pE - pA)), .val (.int ((u kA) &&& (255 : Int32))), .val (.int k1), .val (.int k2), .val (.int (0 : Int32))] [(.int (leF (1 : Int32) (u kA) (u (kA + 1)) (u (kA + 2)) ((pA + (1 : Int32)) < pE) ((pA + (2 : Int32)) < pE)))])
                  refine Runs.back (fun t_ k_ => XS.iload X34.here hx rfl (hb hby at_247) rfl k_) ?_
                  show Runs _ _ _ _ T34 (mkF m 249 #[.val (.int p0), .val (.int p1), .val (.int p2), .val (.int p3), .val (.int p4), .val (.int p5), .val (.int (1 : Int32)), .val (.ref ob23), .val (.int pA), .val (.int pE), .val (.ref ob32), .val (.int (leF (1 : Int32) (u kA) (u (kA + 1)) (u (kA + 2)) ((pA + (1 : Int32)) < pE) ((pA + (2 : Int32)) < pE))), .val (.int (pE - pA)), .val (.int ((u kA) &&& (255 : Int32))), .val (.int k1), .val (.int k2), .val (.int (0 : Int32))] [(.int (0 : Int32)), (.int (leF (1 : Int32) (u kA) (u (kA + 1)) (u (kA + 2)) ((pA + (1 : Int32)) < pE) ((pA + (2 : Int32)) < pE)))])
                  refine Runs.back (fun t_ k_ => XS.icmpNo X34.here hx rfl (hb hby at_249) rfl (teq (show (leF (1 : Int32) (u kA) (u (kA + 1)) (u (kA + 2)) ((pA + (1 : Int32)) < pE) ((pA + (2 : Int32)) < pE)) = (0 : Int32) from ((le_law (fl := (1 : Int32)) (hub kA) (hub (kA + 1)) (hub (kA + 2)) hBA hk12.1 hk12.2).trans (by first | rfl | simp +decide only [exF, exR, if_neg c170_36, if_neg c177_37, if_neg c196_38, if_pos c223_41, if_pos c231_42, if_neg c239_43, if_true, if_false, ↓reduceIte])))).2 k_) ?_
                  show Runs _ _ _ _ T34 (mkF m 252 #[.val (.int p0), .val (.int p1), .val (.int p2), .val (.int p3), .val (.int p4), .val (.int p5), .val (.int (1 : Int32)), .val (.ref ob23), .val (.int pA), .val (.int pE), .val (.ref ob32), .val (.int (leF (1 : Int32) (u kA) (u (kA + 1)) (u (kA + 2)) ((pA + (1 : Int32)) < pE) ((pA + (2 : Int32)) < pE))), .val (.int (pE - pA)), .val (.int ((u kA) &&& (255 : Int32))), .val (.int k1), .val (.int k2), .val (.int (0 : Int32))] [])
                  refine Runs.back (fun t_ k_ => XS.iconst X34.here hx rfl (hb hby at_252) k_) ?_
                  show Runs _ _ _ _ T34 (mkF m 253 #[.val (.int p0), .val (.int p1), .val (.int p2), .val (.int p3), .val (.int p4), .val (.int p5), .val (.int (1 : Int32)), .val (.ref ob23), .val (.int pA), .val (.int pE), .val (.ref ob32), .val (.int (leF (1 : Int32) (u kA) (u (kA + 1)) (u (kA + 2)) ((pA + (1 : Int32)) < pE) ((pA + (2 : Int32)) < pE))), .val (.int (pE - pA)), .val (.int ((u kA) &&& (255 : Int32))), .val (.int k1), .val (.int k2), .val (.int (0 : Int32))] [(.int (1 : Int32))])
                  refine Runs.back (fun t_ k_ => XS.goto X34.here hx rfl (pc0 := 253) (pc' := 257) rfl (hb hby at_253) (by decide) (by decide) k_) ?_
                  show Runs _ _ _ _ T34 (mkF m 257 #[.val (.int p0), .val (.int p1), .val (.int p2), .val (.int p3), .val (.int p4), .val (.int p5), .val (.int (1 : Int32)), .val (.ref ob23), .val (.int pA), .val (.int pE), .val (.ref ob32), .val (.int (leF (1 : Int32) (u kA) (u (kA + 1)) (u (kA + 2)) ((pA + (1 : Int32)) < pE) ((pA + (2 : Int32)) < pE))), .val (.int (pE - pA)), .val (.int ((u kA) &&& (255 : Int32))), .val (.int k1), .val (.int k2), .val (.int (0 : Int32))] [(.int (1 : Int32))])
                  obtain ⟨fs, hr, hrun, hended, hW, hsame⟩ := X34.leave (v := some (.int (1 : Int32))) (fun h => by rw [Bd.returns] at h; cases h)
                  exact ⟨_, _, (retN X34 hx (t := .boolean) Bd.returns (by simp) (hb hby at_257) hr), hrun, hended, _, _, rfl, ⟨rfl, N34⟩, ⟨_, rfl⟩, hW, hsame.mono (by decide) (by decide)⟩
              · refine Runs.back (fun t_ k_ => XS.icmpYes X34.here hx rfl (pc0 := 231) (pc' := 245) rfl (hb hby at_231) rfl (feq c231_42).2 (by decide) (by decide) k_) ?_
                show Runs _ _ _ _ T34 (mkF m 245 #[.val (.int p0), .val (.int p1), .val (.int p2), .val (.int p3), .val (.int p4), .val (.int p5), .val (.int (1 : Int32)), .val (.ref ob23), .val (.int pA), .val (.int pE), .val (.ref ob32), .val (.int (leF (1 : Int32) (u kA) (u (kA + 1)) (u (kA + 2)) ((pA + (1 : Int32)) < pE) ((pA + (2 : Int32)) < pE))), .val (.int (pE - pA)), .val (.int ((u kA) &&& (255 : Int32))), .val (.int k1), .val (.int k2), .val (.int (0 : Int32))] [])
                refine Runs.back (fun t_ k_ => XS.iload X34.here hx rfl (hb hby at_245) rfl k_) ?_
                show Runs _ _ _ _ T34 (mkF m 247 #[.val (.int p0), .val (.int p1), .val (.int p2), .val (.int p3), .val (.int p4), .val (.int p5), .val (.int (1 : Int32)), .val (.ref ob23), .val (.int pA), .val (.int pE), .val (.ref ob32), .val (.int (leF (1 : Int32) (u kA) (u (kA + 1)) (u (kA + 2)) ((pA + (1 : Int32)) < pE) ((pA + (2 : Int32)) < pE))), .val (.int (pE - pA)), .val (.int ((u kA) &&& (255 : Int32))), .val (.int k1), .val (.int k2), .val (.int (0 : Int32))] [(.int (leF (1 : Int32) (u kA) (u (kA + 1)) (u (kA + 2)) ((pA + (1 : Int32)) < pE) ((pA + (2 : Int32)) < pE)))])
                refine Runs.back (fun t_ k_ => XS.iload X34.here hx rfl (hb hby at_247) rfl k_) ?_
                show Runs _ _ _ _ T34 (mkF m 249 #[.val (.int p0), .val (.int p1), .val (.int p2), .val (.int p3), .val (.int p4), .val (.int p5), .val (.int (1 : Int32)), .val (.ref ob23), .val (.int pA), .val (.int pE), .val (.ref ob32), .val (.int (leF (1 : Int32) (u kA) (u (kA + 1)) (u (kA + 2)) ((pA + (1 : Int32)) < pE) ((pA + (2 : Int32)) < pE))), .val (.int (pE - pA)), .val (.int ((u kA) &&& (255 : Int32))), .val (.int k1), .val (.int k2), .val (.int (0 : Int32))] [(.int (0 : Int32)), (.int (leF (1 : Int32) (u kA) (u (kA + 1)) (u (kA + 2)) ((pA + (1 : Int32)) < pE) ((pA + (2 : Int32)) < pE)))])
                refine Runs.back (fun t_ k_ => XS.icmpNo X34.here hx rfl (hb hby at_249) rfl (teq (show (leF (1 : Int32) (u kA) (u (kA + 1)) (u (kA + 2)) ((pA + (1 : Int32)) < pE) ((pA + (2 : Int32)) < pE)) = (0 : Int32) from ((le_law (fl := (1 : Int32)) (hub kA) (hub (kA + 1)) (hub (kA + 2)) hBA hk12.1 hk12.2).trans (by first | rfl | simp +decide only [exF, exR, if_neg c170_36, if_neg c177_37, if_neg c196_38, if_pos c223_41, if_neg c231_42, if_true, if_false, ↓reduceIte])))).2 k_) ?_
                show Runs _ _ _ _ T34 (mkF m 252 #[.val (.int p0), .val (.int p1), .val (.int p2), .val (.int p3), .val (.int p4), .val (.int p5), .val (.int (1 : Int32)), .val (.ref ob23), .val (.int pA), .val (.int pE), .val (.ref ob32), .val (.int (leF (1 : Int32) (u kA) (u (kA + 1)) (u (kA + 2)) ((pA + (1 : Int32)) < pE) ((pA + (2 : Int32)) < pE))), .val (.int (pE - pA)), .val (.int ((u kA) &&& (255 : Int32))), .val (.int k1), .val (.int k2), .val (.int (0 : Int32))] [])
                refine Runs.back (fun t_ k_ => XS.iconst X34.here hx rfl (hb hby at_252) k_) ?_
                show Runs _ _ _ _ T34 (mkF m 253 #[.val (.int p0), .val (.int p1), .val (.int p2), .val (.int p3), .val (.int p4), .val (.int p5), .val (.int (1 : Int32)), .val (.ref ob23), .val (.int pA), .val (.int pE), .val (.ref ob32), .val (.int (leF (1 : Int32) (u kA) (u (kA + 1)) (u (kA + 2)) ((pA + (1 : Int32)) < pE) ((pA + (2 : Int32)) < pE))), .val (.int (pE - pA)), .val (.int ((u kA) &&& (255 : Int32))), .val (.int k1), .val (.int k2), .val (.int (0 : Int32))] [(.int (1 : Int32))])
                refine Runs.back (fun t_ k_ => XS.goto X34.here hx rfl (pc0 := 253) (pc' := 257) rfl (hb hby at_253) (by decide) (by decide) k_) ?_
                show Runs _ _ _ _ T34 (mkF m 257 #[.val (.int p0), .val (.int p1), .val (.int p2), .val (.int p3), .val (.int p4), .val (.int p5), .val (.int (1 : Int32)), .val (.ref ob23), .val (.int pA), .val (.int pE), .val (.ref ob32), .val (.int (leF (1 : Int32) (u kA) (u (kA + 1)) (u (kA + 2)) ((pA + (1 : Int32)) < pE) ((pA + (2 : Int32)) < pE))), .val (.int (pE - pA)), .val (.int ((u kA) &&& (255 : Int32))), .val (.int k1), .val (.int k2), .val (.int (0 : Int32))] [(.int (1 : Int32))])
                obtain ⟨fs, hr, hrun, hended, hW, hsame⟩ := X34.leave (v := some (.int (1 : Int32))) (fun h => by rw [Bd.returns] at h; cases h)
                exact ⟨_, _, (retN X34 hx (t := .boolean) Bd.returns (by simp) (hb hby at_257) hr), hrun, hended, _, _, rfl, ⟨rfl, N34⟩, ⟨_, rfl⟩, hW, hsame.mono (by decide) (by decide)⟩
            · refine Runs.back (fun t_ k_ => XS.icmpYes X34.here hx rfl (pc0 := 223) (pc' := 245) rfl (hb hby at_223) rfl (feq c223_41).2 (by decide) (by decide) k_) ?_
              show Runs _ _ _ _ T34 (mkF m 245 #[.val (.int p0), .val (.int p1), .val (.int p2), .val (.int p3), .val (.int p4), .val (.int p5), .val (.int (1 : Int32)), .val (.ref ob23), .val (.int pA), .val (.int pE), .val (.ref ob32), .val (.int (leF (1 : Int32) (u kA) (u (kA + 1)) (u (kA + 2)) ((pA + (1 : Int32)) < pE) ((pA + (2 : Int32)) < pE))), .val (.int (pE - pA)), .val (.int ((u kA) &&& (255 : Int32))), .val (.int k1), .val (.int k2), .val (.int (0 : Int32))] [])
              refine Runs.back (fun t_ k_ => XS.iload X34.here hx rfl (hb hby at_245) rfl k_) ?_
              show Runs _ _ _ _ T34 (mkF m 247 #[.val (.int p0), .val (.int p1), .val (.int p2), .val (.int p3), .val (.int p4), .val (.int p5), .val (.int (1 : Int32)), .val (.ref ob23), .val (.int pA), .val (.int pE), .val (.ref ob32), .val (.int (leF (1 : Int32) (u kA) (u (kA + 1)) (u (kA + 2)) ((pA + (1 : Int32)) < pE) ((pA + (2 : Int32)) < pE))), .val (.int (pE - pA)), .val (.int ((u kA) &&& (255 : Int32))), .val (.int k1), .val (.int k2), .val (.int (0 : Int32))] [(.int (leF (1 : Int32) (u kA) (u (kA + 1)) (u (kA + 2)) ((pA + (1 : Int32)) < pE) ((pA + (2 : Int32)) < pE)))])
              refine Runs.back (fun t_ k_ => XS.iload X34.here hx rfl (hb hby at_247) rfl k_) ?_
              show Runs _ _ _ _ T34 (mkF m 249 #[.val (.int p0), .val (.int p1), .val (.int p2), .val (.int p3), .val (.int p4), .val (.int p5), .val (.int (1 : Int32)), .val (.ref ob23), .val (.int pA), .val (.int pE), .val (.ref ob32), .val (.int (leF (1 : Int32) (u kA) (u (kA + 1)) (u (kA + 2)) ((pA + (1 : Int32)) < pE) ((pA + (2 : Int32)) < pE))), .val (.int (pE - pA)), .val (.int ((u kA) &&& (255 : Int32))), .val (.int k1), .val (.int k2), .val (.int (0 : Int32))] [(.int (0 : Int32)), (.int (leF (1 : Int32) (u kA) (u (kA + 1)) (u (kA + 2)) ((pA + (1 : Int32)) < pE) ((pA + (2 : Int32)) < pE)))])
              refine Runs.back (fun t_ k_ => XS.icmpNo X34.here hx rfl (hb hby at_249) rfl (teq (show (leF (1 : Int32) (u kA) (u (kA + 1)) (u (kA + 2)) ((pA + (1 : Int32)) < pE) ((pA + (2 : Int32)) < pE)) = (0 : Int32) from ((le_law (fl := (1 : Int32)) (hub kA) (hub (kA + 1)) (hub (kA + 2)) hBA hk12.1 hk12.2).trans (by first | rfl | simp +decide only [exF, exR, if_neg c170_36, if_neg c177_37, if_neg c196_38, if_neg c223_41, if_true, if_false, ↓reduceIte])))).2 k_) ?_
              show Runs _ _ _ _ T34 (mkF m 252 #[.val (.int p0), .val (.int p1), .val (.int p2), .val (.int p3), .val (.int p4), .val (.int p5), .val (.int (1 : Int32)), .val (.ref ob23), .val (.int pA), .val (.int pE), .val (.ref ob32), .val (.int (leF (1 : Int32) (u kA) (u (kA + 1)) (u (kA + 2)) ((pA + (1 : Int32)) < pE) ((pA + (2 : Int32)) < pE))), .val (.int (pE - pA)), .val (.int ((u kA) &&& (255 : Int32))), .val (.int k1), .val (.int k2), .val (.int (0 : Int32))] [])
              refine Runs.back (fun t_ k_ => XS.iconst X34.here hx rfl (hb hby at_252) k_) ?_
              show Runs _ _ _ _ T34 (mkF m 253 #[.val (.int p0), .val (.int p1), .val (.int p2), .val (.int p3), .val (.int p4), .val (.int p5), .val (.int (1 : Int32)), .val (.ref ob23), .val (.int pA), .val (.int pE), .val (.ref ob32), .val (.int (leF (1 : Int32) (u kA) (u (kA + 1)) (u (kA + 2)) ((pA + (1 : Int32)) < pE) ((pA + (2 : Int32)) < pE))), .val (.int (pE - pA)), .val (.int ((u kA) &&& (255 : Int32))), .val (.int k1), .val (.int k2), .val (.int (0 : Int32))] [(.int (1 : Int32))])
              refine Runs.back (fun t_ k_ => XS.goto X34.here hx rfl (pc0 := 253) (pc' := 257) rfl (hb hby at_253) (by decide) (by decide) k_) ?_
              show Runs _ _ _ _ T34 (mkF m 257 #[.val (.int p0), .val (.int p1), .val (.int p2), .val (.int p3), .val (.int p4), .val (.int p5), .val (.int (1 : Int32)), .val (.ref ob23), .val (.int pA), .val (.int pE), .val (.ref ob32), .val (.int (leF (1 : Int32) (u kA) (u (kA + 1)) (u (kA + 2)) ((pA + (1 : Int32)) < pE) ((pA + (2 : Int32)) < pE))), .val (.int (pE - pA)), .val (.int ((u kA) &&& (255 : Int32))), .val (.int k1), .val (.int k2), .val (.int (0 : Int32))] [(.int (1 : Int32))])
              obtain ⟨fs, hr, hrun, hended, hW, hsame⟩ := X34.leave (v := some (.int (1 : Int32))) (fun h => by rw [Bd.returns] at h; cases h)
              exact ⟨_, _, (retN X34 hx (t := .boolean) Bd.returns (by simp) (hb hby at_257) hr), hrun, hended, _, _, rfl, ⟨rfl, N34⟩, ⟨_, rfl⟩, hW, hsame.mono (by decide) (by decide)⟩
    · intro J2
      show Runs _ _ _ _ T34 (mkF m 117 #[.val (.int p0), .val (.int p1), .val (.int p2), .val (.int p3), .val (.int p4), .val (.int p5), .val (.int (1 : Int32)), .val (.ref ob23), .val (.int pA), .val (.int pE), .val (.ref ob32), .val (.int (leF (1 : Int32) (u kA) (u (kA + 1)) (u (kA + 2)) ((pA + (1 : Int32)) < pE) ((pA + (2 : Int32)) < pE))), .val (.int (pE - pA)), .val (.int ((u kA) &&& (255 : Int32))), .unset, .unset, .unset] [])
      refine Runs.back (fun t_ k_ => XS.iload X34.here hx rfl (hb hby at_117) rfl k_) ?_
      show Runs _ _ _ _ T34 (mkF m 119 #[.val (.int p0), .val (.int p1), .val (.int p2), .val (.int p3), .val (.int p4), .val (.int p5), .val (.int (1 : Int32)), .val (.ref ob23), .val (.int pA), .val (.int pE), .val (.ref ob32), .val (.int (leF (1 : Int32) (u kA) (u (kA + 1)) (u (kA + 2)) ((pA + (1 : Int32)) < pE) ((pA + (2 : Int32)) < pE))), .val (.int (pE - pA)), .val (.int ((u kA) &&& (255 : Int32))), .unset, .unset, .unset] [(.int (pE - pA))])
      refine Runs.back (fun t_ k_ => XS.iconst X34.here hx rfl (hb hby at_119) k_) ?_
      show Runs _ _ _ _ T34 (mkF m 120 #[.val (.int p0), .val (.int p1), .val (.int p2), .val (.int p3), .val (.int p4), .val (.int p5), .val (.int (1 : Int32)), .val (.ref ob23), .val (.int pA), .val (.int pE), .val (.ref ob32), .val (.int (leF (1 : Int32) (u kA) (u (kA + 1)) (u (kA + 2)) ((pA + (1 : Int32)) < pE) ((pA + (2 : Int32)) < pE))), .val (.int (pE - pA)), .val (.int ((u kA) &&& (255 : Int32))), .unset, .unset, .unset] [(.int (2 : Int32)), (.int (pE - pA))])
      by_cases c120_44 : (pE - pA) < (2 : Int32)
      · refine Runs.back (fun t_ k_ => XS.icmpYes X34.here hx rfl (pc0 := 120) (pc' := 137) rfl (hb hby at_120) rfl (tlt c120_44).1 (by decide) (by decide) k_) ?_
        show Runs _ _ _ _ T34 (mkF m 137 #[.val (.int p0), .val (.int p1), .val (.int p2), .val (.int p3), .val (.int p4), .val (.int p5), .val (.int (1 : Int32)), .val (.ref ob23), .val (.int pA), .val (.int pE), .val (.ref ob32), .val (.int (leF (1 : Int32) (u kA) (u (kA + 1)) (u (kA + 2)) ((pA + (1 : Int32)) < pE) ((pA + (2 : Int32)) < pE))), .val (.int (pE - pA)), .val (.int ((u kA) &&& (255 : Int32))), .unset, .unset, .unset] [])
        refine Runs.back (fun t_ k_ => XS.iconst X34.here hx rfl (hb hby at_137) k_) ?_
        show Runs _ _ _ _ T34 (mkF m 138 #[.val (.int p0), .val (.int p1), .val (.int p2), .val (.int p3), .val (.int p4), .val (.int p5), .val (.int (1 : Int32)), .val (.ref ob23), .val (.int pA), .val (.int pE), .val (.ref ob32), .val (.int (leF (1 : Int32) (u kA) (u (kA + 1)) (u (kA + 2)) ((pA + (1 : Int32)) < pE) ((pA + (2 : Int32)) < pE))), .val (.int (pE - pA)), .val (.int ((u kA) &&& (255 : Int32))), .unset, .unset, .unset] [(.int (-1 : Int32))])
        refine Runs.back (fun t_ k_ => XS.istore X34.here hx rfl (hb hby at_138) rfl (l' := #[.val (.int p0), .val (.int p1), .val (.int p2), .val (.int p3), .val (.int p4), .val (.int p5), .val (.int (1 : Int32)), .val (.ref ob23), .val (.int pA), .val (.int pE), .val (.ref ob32), .val (.int (leF (1 : Int32) (u kA) (u (kA + 1)) (u (kA + 2)) ((pA + (1 : Int32)) < pE) ((pA + (2 : Int32)) < pE))), .val (.int (pE - pA)), .val (.int ((u kA) &&& (255 : Int32))), .val (.int (-1 : Int32)), .unset, .unset]) rfl k_) ?_
        show Runs _ _ _ _ T34 (mkF m 140 #[.val (.int p0), .val (.int p1), .val (.int p2), .val (.int p3), .val (.int p4), .val (.int p5), .val (.int (1 : Int32)), .val (.ref ob23), .val (.int pA), .val (.int pE), .val (.ref ob32), .val (.int (leF (1 : Int32) (u kA) (u (kA + 1)) (u (kA + 2)) ((pA + (1 : Int32)) < pE) ((pA + (2 : Int32)) < pE))), .val (.int (pE - pA)), .val (.int ((u kA) &&& (255 : Int32))), .val (.int (-1 : Int32)), .unset, .unset] [])
        refine Runs.back (fun t_ k_ => XS.iload X34.here hx rfl (hb hby at_140) rfl k_) ?_
        show Runs _ _ _ _ T34 (mkF m 142 #[.val (.int p0), .val (.int p1), .val (.int p2), .val (.int p3), .val (.int p4), .val (.int p5), .val (.int (1 : Int32)), .val (.ref ob23), .val (.int pA), .val (.int pE), .val (.ref ob32), .val (.int (leF (1 : Int32) (u kA) (u (kA + 1)) (u (kA + 2)) ((pA + (1 : Int32)) < pE) ((pA + (2 : Int32)) < pE))), .val (.int (pE - pA)), .val (.int ((u kA) &&& (255 : Int32))), .val (.int (-1 : Int32)), .unset, .unset] [(.int (pE - pA))])
        refine Runs.back (fun t_ k_ => XS.iconst X34.here hx rfl (hb hby at_142) k_) ?_
        show Runs _ _ _ _ T34 (mkF m 143 #[.val (.int p0), .val (.int p1), .val (.int p2), .val (.int p3), .val (.int p4), .val (.int p5), .val (.int (1 : Int32)), .val (.ref ob23), .val (.int pA), .val (.int pE), .val (.ref ob32), .val (.int (leF (1 : Int32) (u kA) (u (kA + 1)) (u (kA + 2)) ((pA + (1 : Int32)) < pE) ((pA + (2 : Int32)) < pE))), .val (.int (pE - pA)), .val (.int ((u kA) &&& (255 : Int32))), .val (.int (-1 : Int32)), .unset, .unset] [(.int (3 : Int32)), (.int (pE - pA))])
        by_cases c143_45 : (pE - pA) < (3 : Int32)
        · refine Runs.back (fun t_ k_ => XS.icmpYes X34.here hx rfl (pc0 := 143) (pc' := 160) rfl (hb hby at_143) rfl (tlt c143_45).1 (by decide) (by decide) k_) ?_
          show Runs _ _ _ _ T34 (mkF m 160 #[.val (.int p0), .val (.int p1), .val (.int p2), .val (.int p3), .val (.int p4), .val (.int p5), .val (.int (1 : Int32)), .val (.ref ob23), .val (.int pA), .val (.int pE), .val (.ref ob32), .val (.int (leF (1 : Int32) (u kA) (u (kA + 1)) (u (kA + 2)) ((pA + (1 : Int32)) < pE) ((pA + (2 : Int32)) < pE))), .val (.int (pE - pA)), .val (.int ((u kA) &&& (255 : Int32))), .val (.int (-1 : Int32)), .unset, .unset] [])
          refine Runs.back (fun t_ k_ => XS.iconst X34.here hx rfl (hb hby at_160) k_) ?_
          show Runs _ _ _ _ T34 (mkF m 161 #[.val (.int p0), .val (.int p1), .val (.int p2), .val (.int p3), .val (.int p4), .val (.int p5), .val (.int (1 : Int32)), .val (.ref ob23), .val (.int pA), .val (.int pE), .val (.ref ob32), .val (.int (leF (1 : Int32) (u kA) (u (kA + 1)) (u (kA + 2)) ((pA + (1 : Int32)) < pE) ((pA + (2 : Int32)) < pE))), .val (.int (pE - pA)), .val (.int ((u kA) &&& (255 : Int32))), .val (.int (-1 : Int32)), .unset, .unset] [(.int (-1 : Int32))])
          refine Runs.back (fun t_ k_ => XS.istore X34.here hx rfl (hb hby at_161) rfl (l' := #[.val (.int p0), .val (.int p1), .val (.int p2), .val (.int p3), .val (.int p4), .val (.int p5), .val (.int (1 : Int32)), .val (.ref ob23), .val (.int pA), .val (.int pE), .val (.ref ob32), .val (.int (leF (1 : Int32) (u kA) (u (kA + 1)) (u (kA + 2)) ((pA + (1 : Int32)) < pE) ((pA + (2 : Int32)) < pE))), .val (.int (pE - pA)), .val (.int ((u kA) &&& (255 : Int32))), .val (.int (-1 : Int32)), .val (.int (-1 : Int32)), .unset]) rfl k_) ?_
          show Runs _ _ _ _ T34 (mkF m 163 #[.val (.int p0), .val (.int p1), .val (.int p2), .val (.int p3), .val (.int p4), .val (.int p5), .val (.int (1 : Int32)), .val (.ref ob23), .val (.int pA), .val (.int pE), .val (.ref ob32), .val (.int (leF (1 : Int32) (u kA) (u (kA + 1)) (u (kA + 2)) ((pA + (1 : Int32)) < pE) ((pA + (2 : Int32)) < pE))), .val (.int (pE - pA)), .val (.int ((u kA) &&& (255 : Int32))), .val (.int (-1 : Int32)), .val (.int (-1 : Int32)), .unset] [])
          exact J2 ((-1 : Int32), (-1 : Int32)) ⟨(if_neg (q2.mp c120_44)).symm, (if_neg (q3.mp c143_45)).symm⟩
        · refine Runs.back (fun t_ k_ => XS.icmpNo X34.here hx rfl (hb hby at_143) rfl (flt c143_45).1 k_) ?_
          show Runs _ _ _ _ T34 (mkF m 146 #[.val (.int p0), .val (.int p1), .val (.int p2), .val (.int p3), .val (.int p4), .val (.int p5), .val (.int (1 : Int32)), .val (.ref ob23), .val (.int pA), .val (.int pE), .val (.ref ob32), .val (.int (leF (1 : Int32) (u kA) (u (kA + 1)) (u (kA + 2)) ((pA + (1 : Int32)) < pE) ((pA + (2 : Int32)) < pE))), .val (.int (pE - pA)), .val (.int ((u kA) &&& (255 : Int32))), .val (.int (-1 : Int32)), .unset, .unset] [])
          refine Runs.back (fun t_ k_ => XS.aload X34.here hx rfl (hb hby at_146) rfl rfl k_) ?_
          show Runs _ _ _ _ T34 (mkF m 148 #[.val (.int p0), .val (.int p1), .val (.int p2), .val (.int p3), .val (.int p4), .val (.int p5), .val (.int (1 : Int32)), .val (.ref ob23), .val (.int pA), .val (.int pE), .val (.ref ob32), .val (.int (leF (1 : Int32) (u kA) (u (kA + 1)) (u (kA + 2)) ((pA + (1 : Int32)) < pE) ((pA + (2 : Int32)) < pE))), .val (.int (pE - pA)), .val (.int ((u kA) &&& (255 : Int32))), .val (.int (-1 : Int32)), .unset, .unset] [(.ref ob23)])
          refine Runs.back (fun t_ k_ => XS.iload X34.here hx rfl (hb hby at_148) rfl k_) ?_
          show Runs _ _ _ _ T34 (mkF m 150 #[.val (.int p0), .val (.int p1), .val (.int p2), .val (.int p3), .val (.int p4), .val (.int p5), .val (.int (1 : Int32)), .val (.ref ob23), .val (.int pA), .val (.int pE), .val (.ref ob32), .val (.int (leF (1 : Int32) (u kA) (u (kA + 1)) (u (kA + 2)) ((pA + (1 : Int32)) < pE) ((pA + (2 : Int32)) < pE))), .val (.int (pE - pA)), .val (.int ((u kA) &&& (255 : Int32))), .val (.int (-1 : Int32)), .unset, .unset] [(.int pA), (.ref ob23)])
          refine Runs.back (fun t_ k_ => XS.iconst X34.here hx rfl (hb hby at_150) k_) ?_
          show Runs _ _ _ _ T34 (mkF m 151 #[.val (.int p0), .val (.int p1), .val (.int p2), .val (.int p3), .val (.int p4), .val (.int p5), .val (.int (1 : Int32)), .val (.ref ob23), .val (.int pA), .val (.int pE), .val (.ref ob32), .val (.int (leF (1 : Int32) (u kA) (u (kA + 1)) (u (kA + 2)) ((pA + (1 : Int32)) < pE) ((pA + (2 : Int32)) < pE))), .val (.int (pE - pA)), .val (.int ((u kA) &&& (255 : Int32))), .val (.int (-1 : Int32)), .unset, .unset] [(.int (2 : Int32)), (.int pA), (.ref ob23)])
          refine Runs.back (fun t_ k_ => XS.iadd X34.here hx rfl (hb hby at_151) rfl k_) ?_
          show Runs _ _ _ _ T34 (mkF m 152 #[.val (.int p0), .val (.int p1), .val (.int p2), .val (.int p3), .val (.int p4), .val (.int p5), .val (.int (1 : Int32)), .val (.ref ob23), .val (.int pA), .val (.int pE), .val (.ref ob32), .val (.int (leF (1 : Int32) (u kA) (u (kA + 1)) (u (kA + 2)) ((pA + (1 : Int32)) < pE) ((pA + (2 : Int32)) < pE))), .val (.int (pE - pA)), .val (.int ((u kA) &&& (255 : Int32))), .val (.int (-1 : Int32)), .unset, .unset] [(.int (pA + (2 : Int32))), (.ref ob23)])
          obtain ⟨cl46, Ar46, S46, Hs46⟩ := id f33_Arr_0
          have at46 : cl46.slots[((pA + (2 : Int32))).toNatClampNeg]? = some (.int (u (kA + 2))) := readO Hs46 j2.1 (show (kA + 2) < 4 from (hB4 (Classical.not_not.mp fun r => c143_45 (q3.mpr r)))) (rfl)
          refine Runs.back (fun t_ k_ => X34.baloadBytes hx (j := (pA + (2 : Int32))) (v := (.int (u (kA + 2)))) (by rw [eq34]; exact Ar46.1) (State.isArrayOf_alike hZ.alike Ar46.2.1) Ar46.2.2 (by rw [S46]; exact (inbO j2.2 j2.1 (show (kA + 2) < 4 from (hB4 (Classical.not_not.mp fun r => c143_45 (q3.mpr r)))))) at46 (g := (mkF m 152 #[.val (.int p0), .val (.int p1), .val (.int p2), .val (.int p3), .val (.int p4), .val (.int p5), .val (.int (1 : Int32)), .val (.ref ob23), .val (.int pA), .val (.int pE), .val (.ref ob32), .val (.int (leF (1 : Int32) (u kA) (u (kA + 1)) (u (kA + 2)) ((pA + (1 : Int32)) < pE) ((pA + (2 : Int32)) < pE))), .val (.int (pE - pA)), .val (.int ((u kA) &&& (255 : Int32))), .val (.int (-1 : Int32)), .unset, .unset] [(.int (pA + (2 : Int32))), (.ref ob23)])) rfl rfl (hb hby at_152) _ k_) ?_
          show Runs _ _ _ _ T34 (mkF m 153 #[.val (.int p0), .val (.int p1), .val (.int p2), .val (.int p3), .val (.int p4), .val (.int p5), .val (.int (1 : Int32)), .val (.ref ob23), .val (.int pA), .val (.int pE), .val (.ref ob32), .val (.int (leF (1 : Int32) (u kA) (u (kA + 1)) (u (kA + 2)) ((pA + (1 : Int32)) < pE) ((pA + (2 : Int32)) < pE))), .val (.int (pE - pA)), .val (.int ((u kA) &&& (255 : Int32))), .val (.int (-1 : Int32)), .unset, .unset] [(.int (u (kA + 2)))])
          refine Runs.back (fun t_ k_ => XS.sipush X34.here hx rfl (hb hby at_153) k_) ?_
          show Runs _ _ _ _ T34 (mkF m 156 #[.val (.int p0), .val (.int p1), .val (.int p2), .val (.int p3), .val (.int p4), .val (.int p5), .val (.int (1 : Int32)), .val (.ref ob23), .val (.int pA), .val (.int pE), .val (.ref ob32), .val (.int (leF (1 : Int32) (u kA) (u (kA + 1)) (u (kA + 2)) ((pA + (1 : Int32)) < pE) ((pA + (2 : Int32)) < pE))), .val (.int (pE - pA)), .val (.int ((u kA) &&& (255 : Int32))), .val (.int (-1 : Int32)), .unset, .unset] [(.int (255 : Int32)), (.int (u (kA + 2)))])
          refine Runs.back (fun t_ k_ => XS.iand X34.here hx rfl (hb hby at_156) rfl k_) ?_
          show Runs _ _ _ _ T34 (mkF m 157 #[.val (.int p0), .val (.int p1), .val (.int p2), .val (.int p3), .val (.int p4), .val (.int p5), .val (.int (1 : Int32)), .val (.ref ob23), .val (.int pA), .val (.int pE), .val (.ref ob32), .val (.int (leF (1 : Int32) (u kA) (u (kA + 1)) (u (kA + 2)) ((pA + (1 : Int32)) < pE) ((pA + (2 : Int32)) < pE))), .val (.int (pE - pA)), .val (.int ((u kA) &&& (255 : Int32))), .val (.int (-1 : Int32)), .unset, .unset] [(.int ((u (kA + 2)) &&& (255 : Int32)))])
          refine Runs.back (fun t_ k_ => XS.goto X34.here hx rfl (pc0 := 157) (pc' := 161) rfl (hb hby at_157) (by decide) (by decide) k_) ?_
          show Runs _ _ _ _ T34 (mkF m 161 #[.val (.int p0), .val (.int p1), .val (.int p2), .val (.int p3), .val (.int p4), .val (.int p5), .val (.int (1 : Int32)), .val (.ref ob23), .val (.int pA), .val (.int pE), .val (.ref ob32), .val (.int (leF (1 : Int32) (u kA) (u (kA + 1)) (u (kA + 2)) ((pA + (1 : Int32)) < pE) ((pA + (2 : Int32)) < pE))), .val (.int (pE - pA)), .val (.int ((u kA) &&& (255 : Int32))), .val (.int (-1 : Int32)), .unset, .unset] [(.int ((u (kA + 2)) &&& (255 : Int32)))])
          refine Runs.back (fun t_ k_ => XS.istore X34.here hx rfl (hb hby at_161) rfl (l' := #[.val (.int p0), .val (.int p1), .val (.int p2), .val (.int p3), .val (.int p4), .val (.int p5), .val (.int (1 : Int32)), .val (.ref ob23), .val (.int pA), .val (.int pE), .val (.ref ob32), .val (.int (leF (1 : Int32) (u kA) (u (kA + 1)) (u (kA + 2)) ((pA + (1 : Int32)) < pE) ((pA + (2 : Int32)) < pE))), .val (.int (pE - pA)), .val (.int ((u kA) &&& (255 : Int32))), .val (.int (-1 : Int32)), .val (.int ((u (kA + 2)) &&& (255 : Int32))), .unset]) rfl k_) ?_
          show Runs _ _ _ _ T34 (mkF m 163 #[.val (.int p0), .val (.int p1), .val (.int p2), .val (.int p3), .val (.int p4), .val (.int p5), .val (.int (1 : Int32)), .val (.ref ob23), .val (.int pA), .val (.int pE), .val (.ref ob32), .val (.int (leF (1 : Int32) (u kA) (u (kA + 1)) (u (kA + 2)) ((pA + (1 : Int32)) < pE) ((pA + (2 : Int32)) < pE))), .val (.int (pE - pA)), .val (.int ((u kA) &&& (255 : Int32))), .val (.int (-1 : Int32)), .val (.int ((u (kA + 2)) &&& (255 : Int32))), .unset] [])
          exact J2 ((-1 : Int32), ((u (kA + 2)) &&& (255 : Int32))) ⟨(if_neg (q2.mp c120_44)).symm, (if_pos (Classical.not_not.mp fun r => c143_45 (q3.mpr r))).symm⟩
      · refine Runs.back (fun t_ k_ => XS.icmpNo X34.here hx rfl (hb hby at_120) rfl (flt c120_44).1 k_) ?_
        show Runs _ _ _ _ T34 (mkF m 123 #[.val (.int p0), .val (.int p1), .val (.int p2), .val (.int p3), .val (.int p4), .val (.int p5), .val (.int (1 : Int32)), .val (.ref ob23), .val (.int pA), .val (.int pE), .val (.ref ob32), .val (.int (leF (1 : Int32) (u kA) (u (kA + 1)) (u (kA + 2)) ((pA + (1 : Int32)) < pE) ((pA + (2 : Int32)) < pE))), .val (.int (pE - pA)), .val (.int ((u kA) &&& (255 : Int32))), .unset, .unset, .unset] [])
        refine Runs.back (fun t_ k_ => XS.aload X34.here hx rfl (hb hby at_123) rfl rfl k_) ?_
        show Runs _ _ _ _ T34 (mkF m 125 #[.val (.int p0), .val (.int p1), .val (.int p2), .val (.int p3), .val (.int p4), .val (.int p5), .val (.int (1 : Int32)), .val (.ref ob23), .val (.int pA), .val (.int pE), .val (.ref ob32), .val (.int (leF (1 : Int32) (u kA) (u (kA + 1)) (u (kA + 2)) ((pA + (1 : Int32)) < pE) ((pA + (2 : Int32)) < pE))), .val (.int (pE - pA)), .val (.int ((u kA) &&& (255 : Int32))), .unset, .unset, .unset] [(.ref ob23)])
        refine Runs.back (fun t_ k_ => XS.iload X34.here hx rfl (hb hby at_125) rfl k_) ?_
        show Runs _ _ _ _ T34 (mkF m 127 #[.val (.int p0), .val (.int p1), .val (.int p2), .val (.int p3), .val (.int p4), .val (.int p5), .val (.int (1 : Int32)), .val (.ref ob23), .val (.int pA), .val (.int pE), .val (.ref ob32), .val (.int (leF (1 : Int32) (u kA) (u (kA + 1)) (u (kA + 2)) ((pA + (1 : Int32)) < pE) ((pA + (2 : Int32)) < pE))), .val (.int (pE - pA)), .val (.int ((u kA) &&& (255 : Int32))), .unset, .unset, .unset] [(.int pA), (.ref ob23)])
        refine Runs.back (fun t_ k_ => XS.iconst X34.here hx rfl (hb hby at_127) k_) ?_
        show Runs _ _ _ _ T34 (mkF m 128 #[.val (.int p0), .val (.int p1), .val (.int p2), .val (.int p3), .val (.int p4), .val (.int p5), .val (.int (1 : Int32)), .val (.ref ob23), .val (.int pA), .val (.int pE), .val (.ref ob32), .val (.int (leF (1 : Int32) (u kA) (u (kA + 1)) (u (kA + 2)) ((pA + (1 : Int32)) < pE) ((pA + (2 : Int32)) < pE))), .val (.int (pE - pA)), .val (.int ((u kA) &&& (255 : Int32))), .unset, .unset, .unset] [(.int (1 : Int32)), (.int pA), (.ref ob23)])
        refine Runs.back (fun t_ k_ => XS.iadd X34.here hx rfl (hb hby at_128) rfl k_) ?_
        show Runs _ _ _ _ T34 (mkF m 129 #[.val (.int p0), .val (.int p1), .val (.int p2), .val (.int p3), .val (.int p4), .val (.int p5), .val (.int (1 : Int32)), .val (.ref ob23), .val (.int pA), .val (.int pE), .val (.ref ob32), .val (.int (leF (1 : Int32) (u kA) (u (kA + 1)) (u (kA + 2)) ((pA + (1 : Int32)) < pE) ((pA + (2 : Int32)) < pE))), .val (.int (pE - pA)), .val (.int ((u kA) &&& (255 : Int32))), .unset, .unset, .unset] [(.int (pA + (1 : Int32))), (.ref ob23)])
        obtain ⟨cl47, Ar47, S47, Hs47⟩ := id f33_Arr_0
        have at47 : cl47.slots[((pA + (1 : Int32))).toNatClampNeg]? = some (.int (u (kA + 1))) := readO Hs47 j1.1 (show (kA + 1) < 4 from (hA4 (Classical.not_not.mp fun r => c120_44 (q2.mpr r)))) (rfl)
        refine Runs.back (fun t_ k_ => X34.baloadBytes hx (j := (pA + (1 : Int32))) (v := (.int (u (kA + 1)))) (by rw [eq34]; exact Ar47.1) (State.isArrayOf_alike hZ.alike Ar47.2.1) Ar47.2.2 (by rw [S47]; exact (inbO j1.2 j1.1 (show (kA + 1) < 4 from (hA4 (Classical.not_not.mp fun r => c120_44 (q2.mpr r)))))) at47 (g := (mkF m 129 #[.val (.int p0), .val (.int p1), .val (.int p2), .val (.int p3), .val (.int p4), .val (.int p5), .val (.int (1 : Int32)), .val (.ref ob23), .val (.int pA), .val (.int pE), .val (.ref ob32), .val (.int (leF (1 : Int32) (u kA) (u (kA + 1)) (u (kA + 2)) ((pA + (1 : Int32)) < pE) ((pA + (2 : Int32)) < pE))), .val (.int (pE - pA)), .val (.int ((u kA) &&& (255 : Int32))), .unset, .unset, .unset] [(.int (pA + (1 : Int32))), (.ref ob23)])) rfl rfl (hb hby at_129) _ k_) ?_
        show Runs _ _ _ _ T34 (mkF m 130 #[.val (.int p0), .val (.int p1), .val (.int p2), .val (.int p3), .val (.int p4), .val (.int p5), .val (.int (1 : Int32)), .val (.ref ob23), .val (.int pA), .val (.int pE), .val (.ref ob32), .val (.int (leF (1 : Int32) (u kA) (u (kA + 1)) (u (kA + 2)) ((pA + (1 : Int32)) < pE) ((pA + (2 : Int32)) < pE))), .val (.int (pE - pA)), .val (.int ((u kA) &&& (255 : Int32))), .unset, .unset, .unset] [(.int (u (kA + 1)))])
        refine Runs.back (fun t_ k_ => XS.sipush X34.here hx rfl (hb hby at_130) k_) ?_
        show Runs _ _ _ _ T34 (mkF m 133 #[.val (.int p0), .val (.int p1), .val (.int p2), .val (.int p3), .val (.int p4), .val (.int p5), .val (.int (1 : Int32)), .val (.ref ob23), .val (.int pA), .val (.int pE), .val (.ref ob32), .val (.int (leF (1 : Int32) (u kA) (u (kA + 1)) (u (kA + 2)) ((pA + (1 : Int32)) < pE) ((pA + (2 : Int32)) < pE))), .val (.int (pE - pA)), .val (.int ((u kA) &&& (255 : Int32))), .unset, .unset, .unset] [(.int (255 : Int32)), (.int (u (kA + 1)))])
        refine Runs.back (fun t_ k_ => XS.iand X34.here hx rfl (hb hby at_133) rfl k_) ?_
        show Runs _ _ _ _ T34 (mkF m 134 #[.val (.int p0), .val (.int p1), .val (.int p2), .val (.int p3), .val (.int p4), .val (.int p5), .val (.int (1 : Int32)), .val (.ref ob23), .val (.int pA), .val (.int pE), .val (.ref ob32), .val (.int (leF (1 : Int32) (u kA) (u (kA + 1)) (u (kA + 2)) ((pA + (1 : Int32)) < pE) ((pA + (2 : Int32)) < pE))), .val (.int (pE - pA)), .val (.int ((u kA) &&& (255 : Int32))), .unset, .unset, .unset] [(.int ((u (kA + 1)) &&& (255 : Int32)))])
        refine Runs.back (fun t_ k_ => XS.goto X34.here hx rfl (pc0 := 134) (pc' := 138) rfl (hb hby at_134) (by decide) (by decide) k_) ?_
        show Runs _ _ _ _ T34 (mkF m 138 #[.val (.int p0), .val (.int p1), .val (.int p2), .val (.int p3), .val (.int p4), .val (.int p5), .val (.int (1 : Int32)), .val (.ref ob23), .val (.int pA), .val (.int pE), .val (.ref ob32), .val (.int (leF (1 : Int32) (u kA) (u (kA + 1)) (u (kA + 2)) ((pA + (1 : Int32)) < pE) ((pA + (2 : Int32)) < pE))), .val (.int (pE - pA)), .val (.int ((u kA) &&& (255 : Int32))), .unset, .unset, .unset] [(.int ((u (kA + 1)) &&& (255 : Int32)))])
        refine Runs.back (fun t_ k_ => XS.istore X34.here hx rfl (hb hby at_138) rfl (l' := #[.val (.int p0), .val (.int p1), .val (.int p2), .val (.int p3), .val (.int p4), .val (.int p5), .val (.int (1 : Int32)), .val (.ref ob23), .val (.int pA), .val (.int pE), .val (.ref ob32), .val (.int (leF (1 : Int32) (u kA) (u (kA + 1)) (u (kA + 2)) ((pA + (1 : Int32)) < pE) ((pA + (2 : Int32)) < pE))), .val (.int (pE - pA)), .val (.int ((u kA) &&& (255 : Int32))), .val (.int ((u (kA + 1)) &&& (255 : Int32))), .unset, .unset]) rfl k_) ?_
        show Runs _ _ _ _ T34 (mkF m 140 #[.val (.int p0), .val (.int p1), .val (.int p2), .val (.int p3), .val (.int p4), .val (.int p5), .val (.int (1 : Int32)), .val (.ref ob23), .val (.int pA), .val (.int pE), .val (.ref ob32), .val (.int (leF (1 : Int32) (u kA) (u (kA + 1)) (u (kA + 2)) ((pA + (1 : Int32)) < pE) ((pA + (2 : Int32)) < pE))), .val (.int (pE - pA)), .val (.int ((u kA) &&& (255 : Int32))), .val (.int ((u (kA + 1)) &&& (255 : Int32))), .unset, .unset] [])
        refine Runs.back (fun t_ k_ => XS.iload X34.here hx rfl (hb hby at_140) rfl k_) ?_
        show Runs _ _ _ _ T34 (mkF m 142 #[.val (.int p0), .val (.int p1), .val (.int p2), .val (.int p3), .val (.int p4), .val (.int p5), .val (.int (1 : Int32)), .val (.ref ob23), .val (.int pA), .val (.int pE), .val (.ref ob32), .val (.int (leF (1 : Int32) (u kA) (u (kA + 1)) (u (kA + 2)) ((pA + (1 : Int32)) < pE) ((pA + (2 : Int32)) < pE))), .val (.int (pE - pA)), .val (.int ((u kA) &&& (255 : Int32))), .val (.int ((u (kA + 1)) &&& (255 : Int32))), .unset, .unset] [(.int (pE - pA))])
        refine Runs.back (fun t_ k_ => XS.iconst X34.here hx rfl (hb hby at_142) k_) ?_
        show Runs _ _ _ _ T34 (mkF m 143 #[.val (.int p0), .val (.int p1), .val (.int p2), .val (.int p3), .val (.int p4), .val (.int p5), .val (.int (1 : Int32)), .val (.ref ob23), .val (.int pA), .val (.int pE), .val (.ref ob32), .val (.int (leF (1 : Int32) (u kA) (u (kA + 1)) (u (kA + 2)) ((pA + (1 : Int32)) < pE) ((pA + (2 : Int32)) < pE))), .val (.int (pE - pA)), .val (.int ((u kA) &&& (255 : Int32))), .val (.int ((u (kA + 1)) &&& (255 : Int32))), .unset, .unset] [(.int (3 : Int32)), (.int (pE - pA))])
        by_cases c143_48 : (pE - pA) < (3 : Int32)
        · refine Runs.back (fun t_ k_ => XS.icmpYes X34.here hx rfl (pc0 := 143) (pc' := 160) rfl (hb hby at_143) rfl (tlt c143_48).1 (by decide) (by decide) k_) ?_
          show Runs _ _ _ _ T34 (mkF m 160 #[.val (.int p0), .val (.int p1), .val (.int p2), .val (.int p3), .val (.int p4), .val (.int p5), .val (.int (1 : Int32)), .val (.ref ob23), .val (.int pA), .val (.int pE), .val (.ref ob32), .val (.int (leF (1 : Int32) (u kA) (u (kA + 1)) (u (kA + 2)) ((pA + (1 : Int32)) < pE) ((pA + (2 : Int32)) < pE))), .val (.int (pE - pA)), .val (.int ((u kA) &&& (255 : Int32))), .val (.int ((u (kA + 1)) &&& (255 : Int32))), .unset, .unset] [])
          refine Runs.back (fun t_ k_ => XS.iconst X34.here hx rfl (hb hby at_160) k_) ?_
          show Runs _ _ _ _ T34 (mkF m 161 #[.val (.int p0), .val (.int p1), .val (.int p2), .val (.int p3), .val (.int p4), .val (.int p5), .val (.int (1 : Int32)), .val (.ref ob23), .val (.int pA), .val (.int pE), .val (.ref ob32), .val (.int (leF (1 : Int32) (u kA) (u (kA + 1)) (u (kA + 2)) ((pA + (1 : Int32)) < pE) ((pA + (2 : Int32)) < pE))), .val (.int (pE - pA)), .val (.int ((u kA) &&& (255 : Int32))), .val (.int ((u (kA + 1)) &&& (255 : Int32))), .unset, .unset] [(.int (-1 : Int32))])
          refine Runs.back (fun t_ k_ => XS.istore X34.here hx rfl (hb hby at_161) rfl (l' := #[.val (.int p0), .val (.int p1), .val (.int p2), .val (.int p3), .val (.int p4), .val (.int p5), .val (.int (1 : Int32)), .val (.ref ob23), .val (.int pA), .val (.int pE), .val (.ref ob32), .val (.int (leF (1 : Int32) (u kA) (u (kA + 1)) (u (kA + 2)) ((pA + (1 : Int32)) < pE) ((pA + (2 : Int32)) < pE))), .val (.int (pE - pA)), .val (.int ((u kA) &&& (255 : Int32))), .val (.int ((u (kA + 1)) &&& (255 : Int32))), .val (.int (-1 : Int32)), .unset]) rfl k_) ?_
          show Runs _ _ _ _ T34 (mkF m 163 #[.val (.int p0), .val (.int p1), .val (.int p2), .val (.int p3), .val (.int p4), .val (.int p5), .val (.int (1 : Int32)), .val (.ref ob23), .val (.int pA), .val (.int pE), .val (.ref ob32), .val (.int (leF (1 : Int32) (u kA) (u (kA + 1)) (u (kA + 2)) ((pA + (1 : Int32)) < pE) ((pA + (2 : Int32)) < pE))), .val (.int (pE - pA)), .val (.int ((u kA) &&& (255 : Int32))), .val (.int ((u (kA + 1)) &&& (255 : Int32))), .val (.int (-1 : Int32)), .unset] [])
          exact J2 (((u (kA + 1)) &&& (255 : Int32)), (-1 : Int32)) ⟨(if_pos (Classical.not_not.mp fun r => c120_44 (q2.mpr r))).symm, (if_neg (q3.mp c143_48)).symm⟩
        · refine Runs.back (fun t_ k_ => XS.icmpNo X34.here hx rfl (hb hby at_143) rfl (flt c143_48).1 k_) ?_
          show Runs _ _ _ _ T34 (mkF m 146 #[.val (.int p0), .val (.int p1), .val (.int p2), .val (.int p3), .val (.int p4), .val (.int p5), .val (.int (1 : Int32)), .val (.ref ob23), .val (.int pA), .val (.int pE), .val (.ref ob32), .val (.int (leF (1 : Int32) (u kA) (u (kA + 1)) (u (kA + 2)) ((pA + (1 : Int32)) < pE) ((pA + (2 : Int32)) < pE))), .val (.int (pE - pA)), .val (.int ((u kA) &&& (255 : Int32))), .val (.int ((u (kA + 1)) &&& (255 : Int32))), .unset, .unset] [])
          refine Runs.back (fun t_ k_ => XS.aload X34.here hx rfl (hb hby at_146) rfl rfl k_) ?_
          show Runs _ _ _ _ T34 (mkF m 148 #[.val (.int p0), .val (.int p1), .val (.int p2), .val (.int p3), .val (.int p4), .val (.int p5), .val (.int (1 : Int32)), .val (.ref ob23), .val (.int pA), .val (.int pE), .val (.ref ob32), .val (.int (leF (1 : Int32) (u kA) (u (kA + 1)) (u (kA + 2)) ((pA + (1 : Int32)) < pE) ((pA + (2 : Int32)) < pE))), .val (.int (pE - pA)), .val (.int ((u kA) &&& (255 : Int32))), .val (.int ((u (kA + 1)) &&& (255 : Int32))), .unset, .unset] [(.ref ob23)])
          refine Runs.back (fun t_ k_ => XS.iload X34.here hx rfl (hb hby at_148) rfl k_) ?_
          show Runs _ _ _ _ T34 (mkF m 150 #[.val (.int p0), .val (.int p1), .val (.int p2), .val (.int p3), .val (.int p4), .val (.int p5), .val (.int (1 : Int32)), .val (.ref ob23), .val (.int pA), .val (.int pE), .val (.ref ob32), .val (.int (leF (1 : Int32) (u kA) (u (kA + 1)) (u (kA + 2)) ((pA + (1 : Int32)) < pE) ((pA + (2 : Int32)) < pE))), .val (.int (pE - pA)), .val (.int ((u kA) &&& (255 : Int32))), .val (.int ((u (kA + 1)) &&& (255 : Int32))), .unset, .unset] [(.int pA), (.ref ob23)])
          refine Runs.back (fun t_ k_ => XS.iconst X34.here hx rfl (hb hby at_150) k_) ?_
          show Runs _ _ _ _ T34 (mkF m 151 #[.val (.int p0), .val (.int p1), .val (.int p2), .val (.int p3), .val (.int p4), .val (.int p5), .val (.int (1 : Int32)), .val (.ref ob23), .val (.int pA), .val (.int pE), .val (.ref ob32), .val (.int (leF (1 : Int32) (u kA) (u (kA + 1)) (u (kA + 2)) ((pA + (1 : Int32)) < pE) ((pA + (2 : Int32)) < pE))), .val (.int (pE - pA)), .val (.int ((u kA) &&& (255 : Int32))), .val (.int ((u (kA + 1)) &&& (255 : Int32))), .unset, .unset] [(.int (2 : Int32)), (.int pA), (.ref ob23)])
          refine Runs.back (fun t_ k_ => XS.iadd X34.here hx rfl (hb hby at_151) rfl k_) ?_
          show Runs _ _ _ _ T34 (mkF m 152 #[.val (.int p0), .val (.int p1), .val (.int p2), .val (.int p3), .val (.int p4), .val (.int p5), .val (.int (1 : Int32)), .val (.ref ob23), .val (.int pA), .val (.int pE), .val (.ref ob32), .val (.int (leF (1 : Int32) (u kA) (u (kA + 1)) (u (kA + 2)) ((pA + (1 : Int32)) < pE) ((pA + (2 : Int32)) < pE))), .val (.int (pE - pA)), .val (.int ((u kA) &&& (255 : Int32))), .val (.int ((u (kA + 1)) &&& (255 : Int32))), .unset, .unset] [(.int (pA + (2 : Int32))), (.ref ob23)])
          obtain ⟨cl49, Ar49, S49, Hs49⟩ := id f33_Arr_0
          have at49 : cl49.slots[((pA + (2 : Int32))).toNatClampNeg]? = some (.int (u (kA + 2))) := readO Hs49 j2.1 (show (kA + 2) < 4 from (hB4 (Classical.not_not.mp fun r => c143_48 (q3.mpr r)))) (rfl)
          refine Runs.back (fun t_ k_ => X34.baloadBytes hx (j := (pA + (2 : Int32))) (v := (.int (u (kA + 2)))) (by rw [eq34]; exact Ar49.1) (State.isArrayOf_alike hZ.alike Ar49.2.1) Ar49.2.2 (by rw [S49]; exact (inbO j2.2 j2.1 (show (kA + 2) < 4 from (hB4 (Classical.not_not.mp fun r => c143_48 (q3.mpr r)))))) at49 (g := (mkF m 152 #[.val (.int p0), .val (.int p1), .val (.int p2), .val (.int p3), .val (.int p4), .val (.int p5), .val (.int (1 : Int32)), .val (.ref ob23), .val (.int pA), .val (.int pE), .val (.ref ob32), .val (.int (leF (1 : Int32) (u kA) (u (kA + 1)) (u (kA + 2)) ((pA + (1 : Int32)) < pE) ((pA + (2 : Int32)) < pE))), .val (.int (pE - pA)), .val (.int ((u kA) &&& (255 : Int32))), .val (.int ((u (kA + 1)) &&& (255 : Int32))), .unset, .unset] [(.int (pA + (2 : Int32))), (.ref ob23)])) rfl rfl (hb hby at_152) _ k_) ?_
          show Runs _ _ _ _ T34 (mkF m 153 #[.val (.int p0), .val (.int p1), .val (.int p2), .val (.int p3), .val (.int p4), .val (.int p5), .val (.int (1 : Int32)), .val (.ref ob23), .val (.int pA), .val (.int pE), .val (.ref ob32), .val (.int (leF (1 : Int32) (u kA) (u (kA + 1)) (u (kA + 2)) ((pA + (1 : Int32)) < pE) ((pA + (2 : Int32)) < pE))), .val (.int (pE - pA)), .val (.int ((u kA) &&& (255 : Int32))), .val (.int ((u (kA + 1)) &&& (255 : Int32))), .unset, .unset] [(.int (u (kA + 2)))])
          refine Runs.back (fun t_ k_ => XS.sipush X34.here hx rfl (hb hby at_153) k_) ?_
          show Runs _ _ _ _ T34 (mkF m 156 #[.val (.int p0), .val (.int p1), .val (.int p2), .val (.int p3), .val (.int p4), .val (.int p5), .val (.int (1 : Int32)), .val (.ref ob23), .val (.int pA), .val (.int pE), .val (.ref ob32), .val (.int (leF (1 : Int32) (u kA) (u (kA + 1)) (u (kA + 2)) ((pA + (1 : Int32)) < pE) ((pA + (2 : Int32)) < pE))), .val (.int (pE - pA)), .val (.int ((u kA) &&& (255 : Int32))), .val (.int ((u (kA + 1)) &&& (255 : Int32))), .unset, .unset] [(.int (255 : Int32)), (.int (u (kA + 2)))])
          refine Runs.back (fun t_ k_ => XS.iand X34.here hx rfl (hb hby at_156) rfl k_) ?_
          show Runs _ _ _ _ T34 (mkF m 157 #[.val (.int p0), .val (.int p1), .val (.int p2), .val (.int p3), .val (.int p4), .val (.int p5), .val (.int (1 : Int32)), .val (.ref ob23), .val (.int pA), .val (.int pE), .val (.ref ob32), .val (.int (leF (1 : Int32) (u kA) (u (kA + 1)) (u (kA + 2)) ((pA + (1 : Int32)) < pE) ((pA + (2 : Int32)) < pE))), .val (.int (pE - pA)), .val (.int ((u kA) &&& (255 : Int32))), .val (.int ((u (kA + 1)) &&& (255 : Int32))), .unset, .unset] [(.int ((u (kA + 2)) &&& (255 : Int32)))])
          refine Runs.back (fun t_ k_ => XS.goto X34.here hx rfl (pc0 := 157) (pc' := 161) rfl (hb hby at_157) (by decide) (by decide) k_) ?_
          show Runs _ _ _ _ T34 (mkF m 161 #[.val (.int p0), .val (.int p1), .val (.int p2), .val (.int p3), .val (.int p4), .val (.int p5), .val (.int (1 : Int32)), .val (.ref ob23), .val (.int pA), .val (.int pE), .val (.ref ob32), .val (.int (leF (1 : Int32) (u kA) (u (kA + 1)) (u (kA + 2)) ((pA + (1 : Int32)) < pE) ((pA + (2 : Int32)) < pE))), .val (.int (pE - pA)), .val (.int ((u kA) &&& (255 : Int32))), .val (.int ((u (kA + 1)) &&& (255 : Int32))), .unset, .unset] [(.int ((u (kA + 2)) &&& (255 : Int32)))])
          refine Runs.back (fun t_ k_ => XS.istore X34.here hx rfl (hb hby at_161) rfl (l' := #[.val (.int p0), .val (.int p1), .val (.int p2), .val (.int p3), .val (.int p4), .val (.int p5), .val (.int (1 : Int32)), .val (.ref ob23), .val (.int pA), .val (.int pE), .val (.ref ob32), .val (.int (leF (1 : Int32) (u kA) (u (kA + 1)) (u (kA + 2)) ((pA + (1 : Int32)) < pE) ((pA + (2 : Int32)) < pE))), .val (.int (pE - pA)), .val (.int ((u kA) &&& (255 : Int32))), .val (.int ((u (kA + 1)) &&& (255 : Int32))), .val (.int ((u (kA + 2)) &&& (255 : Int32))), .unset]) rfl k_) ?_
          show Runs _ _ _ _ T34 (mkF m 163 #[.val (.int p0), .val (.int p1), .val (.int p2), .val (.int p3), .val (.int p4), .val (.int p5), .val (.int (1 : Int32)), .val (.ref ob23), .val (.int pA), .val (.int pE), .val (.ref ob32), .val (.int (leF (1 : Int32) (u kA) (u (kA + 1)) (u (kA + 2)) ((pA + (1 : Int32)) < pE) ((pA + (2 : Int32)) < pE))), .val (.int (pE - pA)), .val (.int ((u kA) &&& (255 : Int32))), .val (.int ((u (kA + 1)) &&& (255 : Int32))), .val (.int ((u (kA + 2)) &&& (255 : Int32))), .unset] [])
          exact J2 (((u (kA + 1)) &&& (255 : Int32)), ((u (kA + 2)) &&& (255 : Int32))) ⟨(if_pos (Classical.not_not.mp fun r => c120_44 (q2.mpr r))).symm, (if_pos (Classical.not_not.mp fun r => c143_48 (q3.mpr r))).symm⟩
set_option maxRecDepth 65536 in
set_option maxHeartbeats 40000000 in
theorem comes_1 {Post : Tables → Env → Array Value → State → Outcome → State → Prop} (hpost : ∀ tb e args s v u, (limb_1_1.after args s (.returned v) u = true ∧ limb_1_2.after args s (.returned v) u = true ∧ True) → FrameEnd s (.returned v) u (Jvm.fieldLocs frame_1_writes args s ++ Jvm.arrayLocs frame_1_arrays args s ++ Jvm.staticLocs frame_1_statics s) 16 128 → Post tb e args s (.returned v) u) :
    ArmFor flags0 classFile x code maxLocals ret World_1 tables_1 room_1 Calls_1 rest_1 Pre_1 Post := by
  intro l hfl _ _ p e ha hc hk s m args below hf hA hF happ hP
  obtain ⟨hcalls, hrest, hpre⟩ := hP
  obtain ⟨-, -, -, hnamed, -, -, -, hat⟩ := (Spec.applies_iff hf).mp happ
  obtain ⟨hg, hn⟩ := and_e (Cond.before_iff.mp (show (Jvm.Cond.and given_1 narrow_1).before args s = true from hpre))
  obtain ⟨g0, gr0⟩ := and_e hg
  obtain ⟨g1, gr1⟩ := and_e gr0
  obtain ⟨g2, gr2⟩ := and_e gr1
  obtain ⟨g3, gr3⟩ := and_e gr2
  obtain ⟨g4, gr4⟩ := and_e gr3
  obtain ⟨g5, gr5⟩ := and_e gr4
  obtain ⟨w0, w1, w2, w3, w4, w5, rfl⟩ : ∃ w0 w1 w2 w3 w4 w5 : Value, args = #[w0, w1, w2, w3, w4, w5] := by
    have hs : args.size = 6 := by simpa [Cond.value, given_1] using g0
    obtain ⟨L⟩ := args
    match L, hs with
    | [w0, w1, w2, w3, w4, w5], _ => exact ⟨w0, w1, w2, w3, w4, w5, rfl⟩
  have hw := fun d (hd : d ∈ tables_1) => atoms_spec (ws := Jvm.Cond.code x code maxLocals ret :: tables_1) hat d (List.mem_cons_of_mem _ hd)
  obtain ⟨i0, ei0⟩ := is_v g1
  obtain rfl : w0 = (.int i0) := Option.some.inj ei0
  obtain ⟨i1, ei1⟩ := is_v g2
  obtain rfl : w1 = (.int i1) := Option.some.inj ei1
  obtain ⟨i2, ei2⟩ := is_v g3
  obtain rfl : w2 = (.int i2) := Option.some.inj ei2
  obtain ⟨i3, ei3⟩ := is_v g4
  obtain rfl : w3 = (.int i3) := Option.some.inj ei3
  obtain ⟨i4, ei4⟩ := is_v g5
  obtain rfl : w4 = (.int i4) := Option.some.inj ei4
  obtain ⟨i5, ei5⟩ := is_v gr5
  obtain rfl : w5 = (.int i5) := Option.some.inj ei5
  obtain ⟨n, o, h1, h2, h3, _, L, rfl, ⟨rfl, N⟩, hq⟩ := rm0 l s _ hw tables_1 i0 i1 i2 i3 i4 i5 s.heap s.heap.size (Nat.le_refl _) p e ha hc hk s m _ below hf ((Spec.applies_iff_loose hf).mp happ).1 ⟨rfl, State.Warmed39.refl s, rfl⟩ trivial
  refine ⟨n, _, h1, h2, h3, hpost _ _ _ _ _ _ ⟨Cond.after_iff.mpr rfl, Cond.after_iff.mpr (eq_i res_at (Term.int_eval (1)) rfl), trivial⟩ ⟨hq.1, hq.2.1, (hq.2.2.sift fun y hy => Or.inr (N y hy)).mono (by decide) (by decide)⟩⟩
theorem main_1_1 : Claimed_1_1 := comes_1 fun _ _ _ _ _ _ h hF => ⟨h.1, hF⟩
theorem main_1_2 : Claimed_1_2 := comes_1 fun _ _ _ _ _ _ h hF => ⟨h.2.1, hF⟩
end Jvm.Pilot.@@N@@
namespace Jvm.Pilot.@@N@@
open Jvm Jvm.ClassFile Sem Op Lib Jvm.Free Jvm.Stand Jvm.Pilot.@@N@@.Jvm.D
/-! MADE BY PROGRAM (witnessworld.py) out of the Statement's table words and the real class files: 9 classes; the members and pool entries that the words name. The judged class is class 1, her method 2. -/
namespace start1
open Jvm.ClassFile
def u (s : String) : CpInfo := .utf8 (stringToUtf16 s)
/-- a pool by its gaps: so many unusable entries, then the entry; so many at the end -/
def gap : Nat → List CpInfo → List CpInfo
  | 0, r => r
  | n + 1, r => .unusable :: gap n r
def poolList (es : List (Nat × CpInfo)) (last : Nat) : List CpInfo := es.foldr (fun e r => gap e.1 (e.2 :: r)) (gap last [])
def pool (es : List (Nat × CpInfo)) (last : Nat) : Array CpInfo := ⟨poolList es last⟩
def fileOf (pool : Array CpInfo) (this : Nat) (attrs : Array Attribute := #[]) (ms : Array MethodInfo := #[]) (fl : Nat := 33) (sup : Nat := 0) (ifs : Array Nat := #[]) (fds : Array FieldInfo := #[]) : ClassFile where
  minorVersion := 0
  majorVersion := 65
  constantPool := pool
  accessFlags := fl
  thisClass := this
  superClass := sup
  interfaces := ifs
  fields := fds
  methods := ms
  attributes := attrs
def plain (name : String) (sup : Option ClassId) : Class where
  name := name
  kind := .ordinary
  loader := none
  accessFlags := 33
  super := sup
  interfaces := #[]
  cf := none
  fields := #[]
  methods := #[]
  instanceTypes := #[]
  staticTypes := #[]
  resolved := #[]
  callSites := []
  init := .initialized
  statics := none
  mirror := none

def pool0 : Array CpInfo := pool [(5, u "<init>"), (0, u "()V"), (1, .class_ 10), (1, u "java/lang/Object")] 113

def k0c0 : Code := { maxStack := 0, maxLocals := 1, code := object_method_1_code, exceptionTable := #[], attributes := #[] }
def k0m0 : Method := { name := "<init>", desc := "()V", sig := { parameters := [], returnType := none }, accessFlags := 1, code := some k0c0 }
/-- java/lang/Object -/
def k0 : Class := { plain "java/lang/Object" none with
  accessFlags := 33
  interfaces := #[]
  cf := some (fileOf pool0 8 #[] #[{ accessFlags := 1, nameIndex := 5, descriptorIndex := 6, attributes := #[] }] 33 0 #[] #[])
  fields := #[]
  methods := #[k0m0]
  instanceTypes := #[]
  staticTypes := #[]
  resolved := Array.replicate 124 none
  statics := none }

def pool1 : Array CpInfo := pool [(2, .class_ 4), (1, u "java/lang/Object"), (0, u "<init>"), (0, u "()V"), (0, .methodref 8 9), (0, .class_ 10), (0, .nameAndType 11 12), (0, u "com/example/strict_distinct/strictdistinct/XmlPositionLineEndAtPinLaw"), (0, u "pick"), (0, u "(I)B"), (0, .integer 2147483647), (0, .class_ 15), (0, u "com/example/strict_distinct/strictdistinct/XmlPosition"), (0, .methodref 14 17), (0, .nameAndType 5 18), (0, u "(Z)V"), (0, .methodref 14 20), (0, .nameAndType 21 22), (0, u "lineEndAt"), (0, u "([BII)I"), (3, u "law"), (0, u "(IIIIII)Z")] 4

def k1m0 : Method := { name := "<init>", desc := "()V", sig := { parameters := [], returnType := none }, accessFlags := 1, code := none }
def k1c1 : Code := { maxStack := 2, maxLocals := 2, code := method_2_code, exceptionTable := #[], attributes := #[] }
def k1m1 : Method := { name := "pick", desc := "(I)B", sig := { parameters := [.int], returnType := some .byte }, accessFlags := 10, code := some k1c1 }
def k1c2 : Code := { maxStack := 4, maxLocals := 17, code := code, exceptionTable := #[], attributes := #[] }
def k1m2 : Method := { name := "law", desc := "(IIIIII)Z", sig := { parameters := [.int, .int, .int, .int, .int, .int], returnType := some .boolean }, accessFlags := 9, code := some k1c2 }
/-- com/example/strict_distinct/strictdistinct/XmlPositionLineEndAtPinLaw -/
def k1 : Class := { plain "com/example/strict_distinct/strictdistinct/XmlPositionLineEndAtPinLaw" (some 0) with
  accessFlags := 49
  interfaces := #[]
  cf := some (fileOf pool1 8 #[] #[{ accessFlags := 1, nameIndex := 5, descriptorIndex := 6, attributes := #[] }, { accessFlags := 10, nameIndex := 11, descriptorIndex := 12, attributes := #[] }, { accessFlags := 9, nameIndex := 26, descriptorIndex := 27, attributes := #[] }] 49 2 #[] #[])
  fields := #[]
  methods := #[k1m0, k1m1, k1m2]
  instanceTypes := #[]
  staticTypes := #[]
  resolved := Array.replicate 32 none
  statics := none }

def pool2 : Array CpInfo := pool [(1, .methodref 2 3), (0, .class_ 4), (0, .nameAndType 5 6), (0, u "java/lang/Object"), (0, u "<init>"), (0, u "()V"), (0, .fieldref 8 9), (0, .class_ 10), (0, .nameAndType 11 12), (0, u "com/example/strict_distinct/strictdistinct/XmlPosition"), (0, u "line"), (0, u "J"), (0, .fieldref 8 14), (0, .nameAndType 15 16), (0, u "xml11"), (0, u "Z"), (2, u "afterCr"), (2, u "begun"), (0, u "B"), (7, u "NEL_FIRST"), (2, u "NEL_LAST"), (1, u "LS_FIRST"), (1, u "LS_SECOND"), (1, u "LS_LAST"), (1, u "(Z)V"), (4, u "lineEndAt"), (0, u "([BII)I")] 5

def k2c0 : Code := { maxStack := 3, maxLocals := 2, code := prog_43_method_1_code, exceptionTable := #[], attributes := #[] }
def k2m0 : Method := { name := "<init>", desc := "(Z)V", sig := { parameters := [.boolean], returnType := none }, accessFlags := 0, code := some k2c0 }
def k2c1 : Code := { maxStack := 3, maxLocals := 6, code := prog_43_method_4_code, exceptionTable := #[], attributes := #[] }
def k2m1 : Method := { name := "lineEndAt", desc := "([BII)I", sig := { parameters := [(.array .byte), .int, .int], returnType := some .int }, accessFlags := 0, code := some k2c1 }
/-- com/example/strict_distinct/strictdistinct/XmlPosition -/
def k2 : Class := { plain "com/example/strict_distinct/strictdistinct/XmlPosition" (some 0) with
  accessFlags := 48
  interfaces := #[]
  cf := some (fileOf pool2 8 #[] #[{ accessFlags := 0, nameIndex := 5, descriptorIndex := 42, attributes := #[] }, { accessFlags := 0, nameIndex := 47, descriptorIndex := 48, attributes := #[] }] 48 2 #[] #[{ accessFlags := 26, nameIndex := 31, descriptorIndex := 23, attributes := #[] }, { accessFlags := 26, nameIndex := 34, descriptorIndex := 23, attributes := #[] }, { accessFlags := 26, nameIndex := 36, descriptorIndex := 23, attributes := #[] }, { accessFlags := 26, nameIndex := 38, descriptorIndex := 23, attributes := #[] }, { accessFlags := 26, nameIndex := 40, descriptorIndex := 23, attributes := #[] }, { accessFlags := 2, nameIndex := 15, descriptorIndex := 16, attributes := #[] }, { accessFlags := 2, nameIndex := 11, descriptorIndex := 12, attributes := #[] }, { accessFlags := 2, nameIndex := 19, descriptorIndex := 16, attributes := #[] }, { accessFlags := 2, nameIndex := 22, descriptorIndex := 23, attributes := #[] }])
  fields := #[{ name := "NEL_FIRST", type := .byte, accessFlags := 26, slot := 0, constantValue := 0 }, { name := "NEL_LAST", type := .byte, accessFlags := 26, slot := 1, constantValue := 0 }, { name := "LS_FIRST", type := .byte, accessFlags := 26, slot := 2, constantValue := 0 }, { name := "LS_SECOND", type := .byte, accessFlags := 26, slot := 3, constantValue := 0 }, { name := "LS_LAST", type := .byte, accessFlags := 26, slot := 4, constantValue := 0 }, { name := "xml11", type := .boolean, accessFlags := 2, slot := 0, constantValue := 0 }, { name := "line", type := .long, accessFlags := 2, slot := 1, constantValue := 0 }, { name := "afterCr", type := .boolean, accessFlags := 2, slot := 2, constantValue := 0 }, { name := "begun", type := .byte, accessFlags := 2, slot := 3, constantValue := 0 }]
  methods := #[k2m0, k2m1]
  instanceTypes := #[.boolean, .long, .boolean, .byte]
  staticTypes := #[.byte, .byte, .byte, .byte, .byte]
  resolved := Array.replicate 54 none
  statics := none }

def pool3 : Array CpInfo := pool [(1, u "java/lang/Cloneable"), (0, .class_ 1), (0, u "java/lang/Object"), (0, .class_ 3)] 3

/-- java/lang/Cloneable -/
def k3 : Class := { plain "java/lang/Cloneable" (some 0) with
  accessFlags := 1537
  interfaces := #[]
  cf := some (fileOf pool3 2 #[] #[] 1537 4 #[] #[])
  fields := #[]
  methods := #[]
  instanceTypes := #[]
  staticTypes := #[]
  resolved := Array.replicate 8 none
  statics := none }

def pool4 : Array CpInfo := pool [(1, u "java/io/Serializable"), (0, .class_ 1), (0, u "java/lang/Object"), (0, .class_ 3)] 3

/-- java/io/Serializable -/
def k4 : Class := { plain "java/io/Serializable" (some 0) with
  accessFlags := 1537
  interfaces := #[]
  cf := some (fileOf pool4 2 #[] #[] 1537 4 #[] #[])
  fields := #[]
  methods := #[]
  instanceTypes := #[]
  staticTypes := #[]
  resolved := Array.replicate 8 none
  statics := none }

/-- the primitive byte -/
def k5 : Class := { plain "byte" none with kind := .primitive 'B', accessFlags := 0x411 }
/-- [B -/
def k6 : Class := { plain "[B" (some 0) with kind := .array 5 .byte, interfaces := #[3, 4], accessFlags := 1041 }

/-- the primitive int -/
def k7 : Class := { plain "int" none with kind := .primitive 'I', accessFlags := 0x411 }
/-- [I -/
def k8 : Class := { plain "[I" (some 0) with kind := .array 7 .int, interfaces := #[3, 4], accessFlags := 1041 }

def heap : Heap := #[]
def classes : Array Class := #[k0, k1, k2, k3, k4, k5, k6, k7, k8]
def interned : List (Array UInt16 × Addr) := []
def slotsUsed : Nat := 0
def theMethod : MethodId := ⟨1, 2⟩
def args0 : Array Value := #[.int 5, .int 6, .int 7, .int 8, .int 9, .int 10]
def aboutOver (below : List Frame) : State where
  vm := { classes := classes, interned := interned.toArray }
  heap := heap
  slotsUsed := slotsUsed
  threads := #[{ frames := .invoking theMethod args0 :: below }]
def below0 : List Frame := [.native { method := ⟨0, 0⟩, args := #[] }]
def about1 : State := aboutOver below0
def p0 : Program := .bare "" "" ""
def e0 : Env := launch0.env 0 0 0
theorem w_frames : about1.frames = Frame.invoking theMethod args0 :: below0 := rfl
set_option maxRecDepth 65536 in
theorem w_args : argsFit about1.vm theMethod args0 = true := by decide +kernel
set_option maxRecDepth 65536 in
theorem w_heap : heapFits about1 = true := by decide +kernel
set_option maxRecDepth 65536 in
theorem w_runnable : about1.curStatus? = some .runnable := by decide +kernel
set_option maxRecDepth 65536 in
theorem w_alone : about1.alone = true := by decide +kernel
set_option maxRecDepth 65536 in
theorem w_named : about1.methodNamed? x = some theMethod := by decide +kernel
set_option maxRecDepth 65536 in
theorem w_hears : about1.hears theMethod below0 = true := by decide +kernel
set_option maxRecDepth 65536 in
theorem w_ripe : about1.ripe theMethod args0 below0 = true := by decide +kernel
theorem w_running : about1.status = .running := rfl
set_option maxRecDepth 65536 in
theorem w_room : about1.hasRoom e0.platform room_1 = true :=
  launch0.hasRoom_least _ room_1 (by decide +kernel) (by decide +kernel) (by decide +kernel) (by decide +kernel) (by decide +kernel) (by decide +kernel)
theorem allAtoms_all (ts : List Jvm.Cond) (a : Array Jvm.Value) (st : Jvm.State) : (allAtoms ts).before a st = ts.all (fun c => c.before a st) := by
  induction ts with
  | nil => rfl
  | cons c t ih =>
    show (Jvm.Cond.and c (allAtoms t)).before a st = _
    rw [Jvm.Cond.before_and, ih, List.all_cons]
def words1 : List Jvm.Cond := Jvm.Cond.code x code maxLocals ret :: tables_1
/-- a 'code' word, met by the world's own term for the bytes: nothing is compared byte by byte -/
theorem code_word {y : MethodName} {bytes : ByteArray} {mx : Nat} {rt : Option FieldType} {a : Array Value} {s : State} {m : MethodId} {meth : Method} {c : Code} (h1 : s.methodNamed? y = some m) (h2 : s.vm.method? m = some meth) (h3 : meth.code = some c) (h4 : c.code = bytes)
    (h5 : (c.maxLocals == mx && c.exceptionTable.isEmpty && decide (c.maxStack ≤ mostOperands) && decide (meth.sig.returnType = rt) && !meth.locks && decide (parseMethodDescriptor y.desc = some meth.sig)) = true) : (Jvm.Cond.code y bytes mx rt).before a s = true := by
  simp only [Bool.and_eq_true, beq_iff_eq, Bool.not_eq_true', decide_eq_true_eq] at h5
  obtain ⟨⟨⟨⟨⟨g1, g2⟩, g3⟩, g4⟩, g5⟩, g6⟩ := h5
  simp [Cond.before, Cond.holds, Cond.value, h1, h2, h3, h4, g1, g2, g3, g4, g5, g6]
def isCode : Jvm.Cond → Bool
  | .code _ _ _ _ => true
  | _ => false
theorem all_split {L : List Jvm.Cond} {P : Jvm.Cond → Bool} (h1 : L.all (fun c => isCode c || P c) = true) (h2 : ∀ c ∈ L.filter isCode, P c = true) : L.all P = true := by
  refine List.all_eq_true.mpr fun c hc => ?_
  have h := List.all_eq_true.mp h1 c hc
  rcases Bool.eq_false_or_eq_true (isCode c) with hi | hi
  · exact h2 c (List.mem_filter.mpr ⟨hc, hi⟩)
  · simpa [hi] using h
set_option maxRecDepth 65536 in
theorem w_c0 : (Jvm.Cond.code x code maxLocals ret).before args0 about1 = true := code_word (m := ⟨1, 2⟩) (meth := k1m2) (c := k1c2) (by decide +kernel) rfl rfl rfl (by decide +kernel)
set_option maxRecDepth 65536 in
theorem w_c1 : (Jvm.Cond.code ({ cls := "com/example/strict_distinct/strictdistinct/XmlPositionLineEndAtPinLaw", name := "pick", desc := "(I)B" } : Jvm.MethodName) method_2_code (2 : Nat) (Option.some Jvm.ClassFile.FieldType.byte)).before args0 about1 = true := code_word (m := ⟨1, 1⟩) (meth := k1m1) (c := k1c1) (by decide +kernel) rfl rfl rfl (by decide +kernel)
set_option maxRecDepth 65536 in
theorem w_c2 : (Jvm.Cond.code ({ cls := "com/example/strict_distinct/strictdistinct/XmlPosition", name := "<init>", desc := "(Z)V" } : Jvm.MethodName) prog_43_method_1_code (2 : Nat) (Option.none : Option Jvm.ClassFile.FieldType)).before args0 about1 = true := code_word (m := ⟨2, 0⟩) (meth := k2m0) (c := k2c0) (by decide +kernel) rfl rfl rfl (by decide +kernel)
set_option maxRecDepth 65536 in
theorem w_c3 : (Jvm.Cond.code ({ cls := "java/lang/Object", name := "<init>", desc := "()V" } : Jvm.MethodName) object_method_1_code (1 : Nat) (Option.none : Option Jvm.ClassFile.FieldType)).before args0 about1 = true := code_word (m := ⟨0, 0⟩) (meth := k0m0) (c := k0c0) (by decide +kernel) rfl rfl rfl (by decide +kernel)
set_option maxRecDepth 65536 in
theorem w_c4 : (Jvm.Cond.code ({ cls := "com/example/strict_distinct/strictdistinct/XmlPosition", name := "lineEndAt", desc := "([BII)I" } : Jvm.MethodName) prog_43_method_4_code (6 : Nat) (Option.some Jvm.ClassFile.FieldType.int)).before args0 about1 = true := code_word (m := ⟨2, 1⟩) (meth := k2m1) (c := k2c1) (by decide +kernel) rfl rfl rfl (by decide +kernel)
def codes1 : List Jvm.Cond := [Jvm.Cond.code x code maxLocals ret, Jvm.Cond.code ({ cls := "com/example/strict_distinct/strictdistinct/XmlPositionLineEndAtPinLaw", name := "pick", desc := "(I)B" } : Jvm.MethodName) method_2_code (2 : Nat) (Option.some Jvm.ClassFile.FieldType.byte), Jvm.Cond.code ({ cls := "com/example/strict_distinct/strictdistinct/XmlPosition", name := "<init>", desc := "(Z)V" } : Jvm.MethodName) prog_43_method_1_code (2 : Nat) (Option.none : Option Jvm.ClassFile.FieldType), Jvm.Cond.code ({ cls := "java/lang/Object", name := "<init>", desc := "()V" } : Jvm.MethodName) object_method_1_code (1 : Nat) (Option.none : Option Jvm.ClassFile.FieldType), Jvm.Cond.code ({ cls := "com/example/strict_distinct/strictdistinct/XmlPosition", name := "lineEndAt", desc := "([BII)I" } : Jvm.MethodName) prog_43_method_4_code (6 : Nat) (Option.some Jvm.ClassFile.FieldType.int)]
set_option maxRecDepth 65536 in
theorem codes_eq : words1.filter isCode = codes1 := rfl
theorem w_codes : ∀ c ∈ words1.filter isCode, c.before args0 about1 = true := by
  rw [codes_eq]
  intro c hc
  simp only [codes1, List.mem_cons, List.not_mem_nil, or_false] at hc
  rcases hc with rfl | rfl | rfl | rfl | rfl
  · exact w_c0
  · exact w_c1
  · exact w_c2
  · exact w_c3
  · exact w_c4
set_option maxRecDepth 65536 in
theorem w_t1 : (words1.take 24).all (fun c => isCode c || c.before args0 about1) = true := by decide +kernel
set_option maxRecDepth 65536 in
theorem w_t2 : (words1.drop 24).all (fun c => isCode c || c.before args0 about1) = true := by decide +kernel
theorem w_tables : (allAtoms (Jvm.Cond.code x code maxLocals ret :: tables_1)).before args0 about1 = true := by
  rw [allAtoms_all]
  show words1.all (fun c => c.before args0 about1) = true
  refine all_split ?_ w_codes
  rw [← List.take_append_drop 24 words1, List.all_append, w_t1, w_t2]
  rfl
set_option maxRecDepth 65536 in
theorem w_case : (Jvm.Cond.and given_1 narrow_1).before args0 about1 = true := by decide +kernel
theorem w_applies : (headSpec (Jvm.Cond.code x code maxLocals ret :: tables_1) room_1).applies x e0.platform about1 = true :=
  (Spec.applies_iff w_frames).mpr ⟨w_running, w_runnable, w_alone, w_named, w_hears, w_ripe, w_room, w_tables⟩
theorem atStart : AtStart classFile x code maxLocals ret World_1 tables_1 room_1 Calls_1 rest_1 Pre_1 launch0 p0 e0 about1 theMethod args0 below0 :=
  ⟨lists_1, trivial, launch0.admits_env _ _ _, launch0.least_env, fairChoices_fair.cas, fairChoices_fair.clock, w_frames, w_args, w_heap, w_applies, trivial, trivial, w_case⟩
end start1
theorem witness_1 : WitnessClaimed_1 := ⟨start1.p0, start1.e0, start1.about1, start1.theMethod, start1.args0, start1.below0, start1.atStart⟩
end Jvm.Pilot.@@N@@
