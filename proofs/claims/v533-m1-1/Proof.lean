import JvmDerived
import JvmDerived.Pilot.@@N@@Statement
import JvmDerived.Pilot.@@N@@Code
set_option linter.unusedVariables false
set_option linter.unusedSimpArgs false
namespace Jvm.RoadKit
open Sem ClassFile Op Lib Jvm.Stand Jvm.Free Jvm.LawKit
section New
variable {p : Program} {l : Launch} {e : Env} {R : Room} {s : State} {m : MethodId} {args : Array Value} {below : List Frame} {meth : Method} {c : Code} {T : State} {locs : List Loc} {cells slots : Nat}
theorem retI (X : Stand p l e R s m args below meth c T locs cells slots) (hx : p.tables.exec = Jvm.exec) {pc : Nat} {Ls : Array Slot} {z : Int32} {rest : List Value} (hret : meth.sig.returnType = some .int) (hd : decode c.code pc = .ok (.ireturn, 1)) {fs : List Frame}
    (hl : ∀ (f : JFrame) (acts : List Action), f.method = m → f.locked = none → f.entered = [] → (doReturn e (T.setTop f) acts (some (.int z))).1 = T.setFrames fs) : Steps p.tables e below (T.setTop (mkF m pc Ls (.int z :: rest))) (T.setFrames fs) := by
  have hm' : T.vm.method? m = some meth := X.method'
  have hn : narrow .int (.int z) = .int z := rfl
  show Steps p.tables e below (T.setTop { method := m, pc := pc, locals := Ls, stack := _ :: rest, locked := none }) _
  jvm_step X.here [X.here.top, hx, hd, hm', hret, hn]
  first | (intro acts; rw [hl _ acts rfl rfl rfl]) | rw [hl _ _ rfl rfl rfl]
  exact Steps.refl _
end New
end Jvm.RoadKit
namespace Jvm.Pilot.@@N@@
open Jvm Jvm.ClassFile Sem Op Lib Jvm.Free Jvm.Stand Jvm.LawKit Jvm.RoadKit Bundle Jvm.Pilot.@@N@@.Jvm.D
/-! the own kit: a run told backwards (Runs), arrays by a function of the place (OArr), the comparisons of longs -/
def Runs (tb : Tables) (e : Env) (below : List Frame) (R : State → Outcome → Prop) (T : State) (g : JFrame) : Prop := ∃ t o, Steps tb e below (T.setTop g) t ∧ R t o
section Own
variable {tb : Tables} {e : Env} {below : List Frame} {R : State → Outcome → Prop} {T T' : State} {g g' : JFrame}
theorem Runs.back (k : ∀ t, Steps tb e below (T'.setTop g') t → Steps tb e below (T.setTop g) t) (h : Runs tb e below R T' g') : Runs tb e below R T g := by
  obtain ⟨t, o, h1, h2⟩ := h; exact ⟨t, o, k t h1, h2⟩
theorem Runs.trans (k : Steps tb e below (T.setTop g) (T'.setTop g')) (h : Runs tb e below R T' g') : Runs tb e below R T g := by
  obtain ⟨t, o, h1, h2⟩ := h; exact ⟨t, o, Steps.trans k h1, h2⟩
theorem Runs.enter (q : g = g') (h : Runs tb e below R T g') : ∃ t o, Steps tb e below (T.setTop g) t ∧ R t o := by subst q; exact h
theorem Runs.join {α : Type} {P : α → Prop} {F : α → JFrame} (h : ∀ v, P v → Runs tb e below R T (F v)) (k : (∀ v, P v → Runs tb e below R T (F v)) → Runs tb e below R T g) : Runs tb e below R T g := k h
theorem Runs.joinT {α : Type} {P : α → State → Prop} {F : α → JFrame} (h : ∀ v T', P v T' → Runs tb e below R T' (F v)) (k : (∀ v T', P v T' → Runs tb e below R T' (F v)) → Runs tb e below R T g) : Runs tb e below R T g := k h
theorem lcT {x y : Int64} (h : x < y) : lcmpW x y < 0 := by
  have h1 : ¬ y < x := Int64.not_lt.mpr (Int64.le_of_lt h)
  have h2 : ¬ x = y := fun q => by subst q; exact Int64.lt_irrefl h
  simp [lcmpW, h1, h2]
theorem lcF {x y : Int64} (h : ¬ x < y) : ¬ lcmpW x y < 0 := by
  unfold lcmpW
  by_cases h1 : x > y
  · simp only [if_pos h1]; decide
  · have h2 : x = y := Int64.le_antisymm (Int64.not_lt.mp h1) (Int64.not_lt.mp h)
    simp only [if_neg h1, if_pos h2]; decide
theorem lcT' {x y : Int64} (h : y < x) : 0 < lcmpW x y := by
  unfold lcmpW; rw [if_pos h]; decide
theorem lcF' {x y : Int64} (h : ¬ y < x) : ¬ 0 < lcmpW x y := by
  unfold lcmpW
  have h1 : ¬ x > y := h
  simp only [if_neg h1]
  by_cases h2 : x = y
  · simp only [if_pos h2]; decide
  · simp only [if_neg h2]; decide
theorem lcE {x y : Int64} (h : x = y) : lcmpW x y = 0 := by
  have h1 : ¬ x > y := fun q => by subst h; exact Int64.lt_irrefl q
  unfold lcmpW; rw [if_neg h1, if_pos h]
theorem lcN {x y : Int64} (h : ¬ x = y) : ¬ lcmpW x y = 0 := by
  unfold lcmpW
  by_cases h1 : x > y
  · simp only [if_pos h1]; decide
  · simp only [if_neg h1, if_neg h]; decide
def OArr (Z : State) (h : Heap) (a : Addr) (ty : FieldType) (n : Nat) (f : Nat → Value) : Prop := ∃ c : Cell, Arr Z h a c ty ∧ c.slots.size = n ∧ ∀ i, i < n → c.slots[i]? = some (f i)
variable {Z : State} {h h' : Heap} {a b : Addr} {ty : FieldType} {n sl : Nat} {f : Nat → Value} {v : Value} {ws : List Addr}
theorem OArr.lt (F : OArr Z h a ty n f) : a < h.size := by obtain ⟨c, A, -⟩ := F; exact A.lt
theorem OArr.ext (F : OArr Z h a ty n f) (E : Ext h h') : OArr Z h' a ty n f := by obtain ⟨c, A, r⟩ := F; exact ⟨c, A.ext E, r⟩
theorem OArr.other (F : OArr Z h b ty n f) (W : Wr h h' a sl v) (q : b ≠ a) : OArr Z h' b ty n f := by obtain ⟨c, A, r⟩ := F; exact ⟨c, A.other W q, r⟩
theorem OArr.keep (F : OArr Z h a ty n f) (K : Keep h h' ws) (q : a ∉ ws) : OArr Z h' a ty n f := by obtain ⟨c, A, r⟩ := F; exact ⟨c, ⟨K.2.1 a c A.1 q, A.2⟩, r⟩
theorem OArr.congr (F : OArr Z h a ty n f) {f' : Nat → Value} (q : ∀ i, i < n → f i = f' i) : OArr Z h a ty n f' := by obtain ⟨c, A, r1, r2⟩ := F; exact ⟨c, A, r1, fun i hi => by rw [r2 i hi, q i hi]⟩
theorem OArr.set (F : OArr Z h a ty n f) (W : Wr h h' a sl v) : OArr Z h' a ty n (fun i => if i = sl then v else f i) := by
  obtain ⟨c, A, r1, r2⟩ := F
  obtain ⟨cell, e1, -, e3, -⟩ := id W
  cases e1.symm.trans A.1
  refine ⟨_, A.same W, by rw [sz_set]; exact r1, fun i hi => ?_⟩
  by_cases q : i = sl
  · subst q; simp [Cell.setSlot, e3]
  · simp only [if_neg q]; rw [← r2 i hi]; exact Array.getElem?_setIfInBounds_ne (Ne.symm q)
theorem OArr.new {cA : ClassId} {z : Int32} (A : Arr Z h a (newA cA ty z) ty) (q : z.toNatClampNeg = n) (hd : defaultValue ty = v) : OArr Z h a ty n (fun _ => v) :=
  ⟨_, A, by rw [sz_new]; exact q, fun i hi => by subst hd; simp [newA, q, hi]⟩
theorem inbO {j : Int32} {k : Nat} (ng : ¬ j < 0) (e : j.toNatClampNeg = k) (h : k < n) : ¬ (j < 0 ∨ n ≤ j.toNatClampNeg) := fun q => q.elim ng fun r => by rw [e] at r; exact absurd h (Nat.not_lt.mpr r)
theorem readO {c : Cell} {j : Int32} {k : Nat} (H : ∀ i, i < n → c.slots[i]? = some (f i)) (e : j.toNatClampNeg = k) (h : k < n) (q : f k = v) : c.slots[j.toNatClampNeg]? = some v := by rw [e, H k h, q]
theorem lti {x y : Int32} : x < y ↔ x.toInt < y.toInt := Int32.lt_iff_toInt_lt
theorem ltl {x y : Int64} : x < y ↔ x.toInt < y.toInt := Int64.lt_iff_toInt_lt
theorem eqi {x y : Int32} : x = y ↔ x.toInt = y.toInt := Int32.toInt_inj.symm
theorem eql {x y : Int64} : x = y ↔ x.toInt = y.toInt := Int64.toInt_inj.symm
end Own

theorem add32 {x y : Int32} (h1 : -2147483648 ≤ x.toInt + y.toInt) (h2 : x.toInt + y.toInt < 2147483648) : (x + y).toInt = x.toInt + y.toInt := by
  rw [Int32.toInt_add]; exact Int.bmod_eq_of_le (by omega) (by omega)
theorem sub32 {x y : Int32} (h1 : -2147483648 ≤ x.toInt - y.toInt) (h2 : x.toInt - y.toInt < 2147483648) : (x - y).toInt = x.toInt - y.toInt := by
  rw [Int32.toInt_sub]; exact Int.bmod_eq_of_le (by omega) (by omega)
theorem add64 {x y : Int64} (h1 : -9223372036854775808 ≤ x.toInt + y.toInt) (h2 : x.toInt + y.toInt < 9223372036854775808) : (x + y).toInt = x.toInt + y.toInt := by
  rw [Int64.toInt_add]; exact Int.bmod_eq_of_le (by omega) (by omega)
theorem sub64 {x y : Int64} (h1 : -9223372036854775808 ≤ x.toInt - y.toInt) (h2 : x.toInt - y.toInt < 9223372036854775808) : (x - y).toInt = x.toInt - y.toInt := by
  rw [Int64.toInt_sub]; exact Int.bmod_eq_of_le (by omega) (by omega)
theorem l2i' {x : Int64} (h1 : -2147483648 ≤ x.toInt) (h2 : x.toInt < 2147483648) : x.toInt32.toInt = x.toInt := by
  rw [Int64.toInt_toInt32]; exact Int.bmod_eq_of_le (by omega) (by omega)
theorem bd32 (x : Int32) : -2147483648 ≤ x.toInt ∧ x.toInt < 2147483648 := ⟨Int32.le_toInt x, Int32.toInt_lt x⟩
theorem takeE {c e p : Int32} : c.toInt64 < e.toInt64 + p.toInt64 ↔ c.toInt < e.toInt + p.toInt := by
  have b1 := bd32 e; have b2 := bd32 p
  rw [ltl, add64 (by rw [c_i2l, c_i2l]; omega) (by rw [c_i2l, c_i2l]; omega), c_i2l, c_i2l, c_i2l]
theorem takeC {c : Int32} {x y : Int64} (h1 : -9223372036854775808 ≤ x.toInt + y.toInt) (h2 : x.toInt + y.toInt < 9223372036854775808) : c.toInt64 < x + y ↔ c.toInt < x.toInt + y.toInt := by
  rw [ltl, add64 h1 h2, c_i2l]
theorem z32 : (0 : Int32).toInt = 0 := by decide
theorem o32 : (1 : Int32).toInt = 1 := by decide
theorem z64 : (0 : Int64).toInt = 0 := by decide
theorem o64 : (1 : Int64).toInt = 1 := by decide

theorem idxS {p j : Int32} {k d : Nat} (hk : p.toNatClampNeg = k) (hn : ¬ p < 0) (hj : j.toInt = d) (hb : k + d < 2147483648) : (p + j).toNatClampNeg = k + d ∧ ¬ (p + j) < 0 := by
  have q := nat_of hn
  have e : (p + j).toInt = k + d := by rw [add32 (by omega) (by omega)]; omega
  have n : ¬ (p + j) < 0 := by rw [lti, z32]; omega
  exact ⟨by have := nat_of n; omega, n⟩
def intF (b0 b1 b2 b3 : Int32) : Int32 := (((b0 <<< ((24 : Int32) &&& 31)) ||| ((b1 &&& (255 : Int32)) <<< ((16 : Int32) &&& 31))) ||| ((b2 &&& (255 : Int32)) <<< ((8 : Int32) &&& 31))) ||| (b3 &&& (255 : Int32))
theorem d1_0 : decode prog_27_method_17_code 0 = .ok (.aload_n 0, 1) := by decide +kernel
theorem d1_1 : decode prog_27_method_17_code 1 = .ok (.iload_n 1, 1) := by decide +kernel
theorem d1_2 : decode prog_27_method_17_code 2 = .ok (.baload, 1) := by decide +kernel
theorem d1_3 : decode prog_27_method_17_code 3 = .ok (.bipush 24, 2) := by decide +kernel
theorem d1_5 : decode prog_27_method_17_code 5 = .ok (.ishl, 1) := by decide +kernel
theorem d1_6 : decode prog_27_method_17_code 6 = .ok (.aload_n 0, 1) := by decide +kernel
theorem d1_7 : decode prog_27_method_17_code 7 = .ok (.iload_n 1, 1) := by decide +kernel
theorem d1_8 : decode prog_27_method_17_code 8 = .ok (.iconst 1, 1) := by decide +kernel
theorem d1_9 : decode prog_27_method_17_code 9 = .ok (.iadd, 1) := by decide +kernel
theorem d1_10 : decode prog_27_method_17_code 10 = .ok (.baload, 1) := by decide +kernel
theorem d1_11 : decode prog_27_method_17_code 11 = .ok (.sipush 255, 3) := by decide +kernel
theorem d1_14 : decode prog_27_method_17_code 14 = .ok (.iand, 1) := by decide +kernel
theorem d1_15 : decode prog_27_method_17_code 15 = .ok (.bipush 16, 2) := by decide +kernel
theorem d1_17 : decode prog_27_method_17_code 17 = .ok (.ishl, 1) := by decide +kernel
theorem d1_18 : decode prog_27_method_17_code 18 = .ok (.ior, 1) := by decide +kernel
theorem d1_19 : decode prog_27_method_17_code 19 = .ok (.aload_n 0, 1) := by decide +kernel
theorem d1_20 : decode prog_27_method_17_code 20 = .ok (.iload_n 1, 1) := by decide +kernel
theorem d1_21 : decode prog_27_method_17_code 21 = .ok (.iconst 2, 1) := by decide +kernel
theorem d1_22 : decode prog_27_method_17_code 22 = .ok (.iadd, 1) := by decide +kernel
theorem d1_23 : decode prog_27_method_17_code 23 = .ok (.baload, 1) := by decide +kernel
theorem d1_24 : decode prog_27_method_17_code 24 = .ok (.sipush 255, 3) := by decide +kernel
theorem d1_27 : decode prog_27_method_17_code 27 = .ok (.iand, 1) := by decide +kernel
theorem d1_28 : decode prog_27_method_17_code 28 = .ok (.bipush 8, 2) := by decide +kernel
theorem d1_30 : decode prog_27_method_17_code 30 = .ok (.ishl, 1) := by decide +kernel
theorem d1_31 : decode prog_27_method_17_code 31 = .ok (.ior, 1) := by decide +kernel
theorem d1_32 : decode prog_27_method_17_code 32 = .ok (.aload_n 0, 1) := by decide +kernel
theorem d1_33 : decode prog_27_method_17_code 33 = .ok (.iload_n 1, 1) := by decide +kernel
theorem d1_34 : decode prog_27_method_17_code 34 = .ok (.iconst 3, 1) := by decide +kernel
theorem d1_35 : decode prog_27_method_17_code 35 = .ok (.iadd, 1) := by decide +kernel
theorem d1_36 : decode prog_27_method_17_code 36 = .ok (.baload, 1) := by decide +kernel
theorem d1_37 : decode prog_27_method_17_code 37 = .ok (.sipush 255, 3) := by decide +kernel
theorem d1_40 : decode prog_27_method_17_code 40 = .ok (.iand, 1) := by decide +kernel
theorem d1_41 : decode prog_27_method_17_code 41 = .ok (.ior, 1) := by decide +kernel
theorem d1_42 : decode prog_27_method_17_code 42 = .ok (.ireturn, 1) := by decide +kernel
theorem pn_1 : plainName "com/example/ubique/ubique/Frame" = true := by first | (simp [plainName, overriddenIn]; done) | decide +kernel
theorem ef_1 (m : MethodId) (r0 : Addr) (p1 : Int32) : entryFrame m #[(.ref r0), (.int p1)] 2 = mkF m 0 #[.val (.ref r0), .val (.int p1)] [] := by first | (simp [entryFrame, mkF, argsToLocals, Value.category]; done) | rfl
def Q1 (Z : State) (r0 : Addr) (p1 : Int32) (fb : Nat → Value) (k : Nat) (b0 b1 b2 b3 : Int32) (h0 : Heap) (n0 : Nat) (v : Option Value) (h : Heap) (L : List Loc) : Prop := v = some (.int (intF b0 b1 b2 b3)) ∧ Fr n0 L ∧ h = h0
set_option maxRecDepth 65536 in
set_option maxHeartbeats 40000000 in
theorem rm1 (l : Launch) (Z : State) (a0 : Array Value) (hw : ∀ d ∈ tables_1, d.before a0 Z = true) (ws : List Jvm.Cond) (r0 : Addr) (p1 : Int32) (fb : Nat → Value) (k : Nat) (b0 b1 b2 b3 : Int32) (h0 : Heap) (n0 : Nat) (Z0 : n0 ≤ h0.size) (A1 : OArr Z h0 r0 .byte 8 fb) (hk : p1.toNatClampNeg = k) (hn : ¬ p1 < 0) (hk8 : k + 3 < 8) (hb0 : fb k = .int b0) (hb1 : fb (k + 1) = .int b1) (hb2 : fb (k + 2) = .int b2) (hb3 : fb (k + 3) = .int b3) :
    MetFree l (⟨"com/example/ubique/ubique/Frame", "intAt", "([BI)I"⟩ : MethodName) (head1 (Jvm.Cond.code (⟨"com/example/ubique/ubique/Frame", "intAt", "([BI)I"⟩ : MethodName) prog_27_method_17_code 2 (some .int) :: ws) ({ frames := 0, cells := 0, slots := 0, locals := 0 } : Room)) (fun a U => a = #[(.ref r0), (.int p1)] ∧ Z.Warmed39 U.vm ∧ U.heap = h0) (fun _ _ _ _ _ => True) (fun _ U o U' => ∃ v L, o = .returned v ∧ Q1 Z r0 p1 fb k b0 b1 b2 b3 h0 n0 v U'.heap L ∧ FrameEnd U o U' L ({ frames := 0, cells := 0, slots := 0, locals := 0 } : Room).cells ({ frames := 0, cells := 0, slots := 0, locals := 0 } : Room).slots) := by
  refine MetFree.of_bodySF (plainFor_of_name pn_1) hisR ?_
  intro p e s m args below meth c s₁ Bd hml0 hP hK
  obtain ⟨rfl, hZ, hh⟩ := hP
  have hx := Bd.exec
  have hby := Bd.bytes
  have hml : c.maxLocals = 2 := hml0
  have hown : s.vm.findClass "com/example/ubique/ubique/Frame" = some m.cls := findClass_of_methodNamed Bd.named
  have hnm := (name_of_methodNamed Bd.named Bd.method).1
  have X0 : Stand p l e ({ frames := 0, cells := 0, slots := 0, locals := 0 } : Room) s m #[(.ref r0), (.int p1)] below meth c s₁ [] 0 0 := Stand.of_body Bd
  have e0 : s₁.heap = h0 := by rw [← hh, Bd.state]; rfl
  have N0 := Fr.nil n0
  refine Runs.enter (ef_1 m r0 p1) ?_
  show Runs _ _ _ _ s₁ (mkF m 0 #[.val (.ref r0), .val (.int p1)] [])
  have i1 := idxS hk hn (show (1 : Int32).toInt = ((1 : Nat) : Int) from by decide) (by omega)
  have i2 := idxS hk hn (show (2 : Int32).toInt = ((2 : Nat) : Int) from by decide) (by omega)
  have i3 := idxS hk hn (show (3 : Int32).toInt = ((3 : Nat) : Int) from by decide) (by omega)
  refine Runs.back (fun t_ k_ => XS.aloadN X0.here hx rfl (hb hby d1_0) rfl rfl k_) ?_
  show Runs _ _ _ _ s₁ (mkF m 1 #[.val (.ref r0), .val (.int p1)] [(.ref r0)])
  refine Runs.back (fun t_ k_ => XS.iloadN X0.here hx rfl (hb hby d1_1) rfl k_) ?_
  show Runs _ _ _ _ s₁ (mkF m 2 #[.val (.ref r0), .val (.int p1)] [(.int p1), (.ref r0)])
  obtain ⟨cl1, Ar1, S1, Hs1⟩ := id A1
  have at1 : cl1.slots[(p1).toNatClampNeg]? = some (.int b0) := readO Hs1 hk (show k < 8 from (by first | omega | decide)) (hb0)
  refine Runs.back (fun t_ k_ => X0.baloadBytes hx (j := p1) (v := (.int b0)) (by rw [e0]; exact Ar1.1) (State.isArrayOf_alike hZ.alike Ar1.2.1) Ar1.2.2 (by rw [S1]; exact (inbO hn hk (show k < 8 from (by first | omega | decide)))) at1 (g := (mkF m 2 #[.val (.ref r0), .val (.int p1)] [(.int p1), (.ref r0)])) rfl rfl (hb hby d1_2) _ k_) ?_
  show Runs _ _ _ _ s₁ (mkF m 3 #[.val (.ref r0), .val (.int p1)] [(.int b0)])
  refine Runs.back (fun t_ k_ => XS.bipush X0.here hx rfl (hb hby d1_3) k_) ?_
  show Runs _ _ _ _ s₁ (mkF m 5 #[.val (.ref r0), .val (.int p1)] [(.int (24 : Int32)), (.int b0)])
  refine Runs.back (fun t_ k_ => XS.ishl X0.here hx rfl (hb hby d1_5) rfl k_) ?_
  show Runs _ _ _ _ s₁ (mkF m 6 #[.val (.ref r0), .val (.int p1)] [(.int (b0 <<< ((24 : Int32) &&& 31)))])
  refine Runs.back (fun t_ k_ => XS.aloadN X0.here hx rfl (hb hby d1_6) rfl rfl k_) ?_
  show Runs _ _ _ _ s₁ (mkF m 7 #[.val (.ref r0), .val (.int p1)] [(.ref r0), (.int (b0 <<< ((24 : Int32) &&& 31)))])
  refine Runs.back (fun t_ k_ => XS.iloadN X0.here hx rfl (hb hby d1_7) rfl k_) ?_
  show Runs _ _ _ _ s₁ (mkF m 8 #[.val (.ref r0), .val (.int p1)] [(.int p1), (.ref r0), (.int (b0 <<< ((24 : Int32) &&& 31)))])
  refine Runs.back (fun t_ k_ => XS.iconst X0.here hx rfl (hb hby d1_8) k_) ?_
  show Runs _ _ _ _ s₁ (mkF m 9 #[.val (.ref r0), .val (.int p1)] [(.int (1 : Int32)), (.int p1), (.ref r0), (.int (b0 <<< ((24 : Int32) &&& 31)))])
  refine Runs.back (fun t_ k_ => XS.iadd X0.here hx rfl (hb hby d1_9) rfl k_) ?_
  show Runs _ _ _ _ s₁ (mkF m 10 #[.val (.ref r0), .val (.int p1)] [(.int (p1 + (1 : Int32))), (.ref r0), (.int (b0 <<< ((24 : Int32) &&& 31)))])
  obtain ⟨cl2, Ar2, S2, Hs2⟩ := id A1
  have at2 : cl2.slots[((p1 + (1 : Int32))).toNatClampNeg]? = some (.int b1) := readO Hs2 i1.1 (show (k + 1) < 8 from (by first | omega | decide)) (hb1)
  refine Runs.back (fun t_ k_ => X0.baloadBytes hx (j := (p1 + (1 : Int32))) (v := (.int b1)) (by rw [e0]; exact Ar2.1) (State.isArrayOf_alike hZ.alike Ar2.2.1) Ar2.2.2 (by rw [S2]; exact (inbO i1.2 i1.1 (show (k + 1) < 8 from (by first | omega | decide)))) at2 (g := (mkF m 10 #[.val (.ref r0), .val (.int p1)] [(.int (p1 + (1 : Int32))), (.ref r0), (.int (b0 <<< ((24 : Int32) &&& 31)))])) rfl rfl (hb hby d1_10) _ k_) ?_
  show Runs _ _ _ _ s₁ (mkF m 11 #[.val (.ref r0), .val (.int p1)] [(.int b1), (.int (b0 <<< ((24 : Int32) &&& 31)))])
  refine Runs.back (fun t_ k_ => XS.sipush X0.here hx rfl (hb hby d1_11) k_) ?_
  show Runs _ _ _ _ s₁ (mkF m 14 #[.val (.ref r0), .val (.int p1)] [(.int (255 : Int32)), (.int b1), (.int (b0 <<< ((24 : Int32) &&& 31)))])
  refine Runs.back (fun t_ k_ => XS.iand X0.here hx rfl (hb hby d1_14) rfl k_) ?_
  show Runs _ _ _ _ s₁ (mkF m 15 #[.val (.ref r0), .val (.int p1)] [(.int (b1 &&& (255 : Int32))), (.int (b0 <<< ((24 : Int32) &&& 31)))])
  refine Runs.back (fun t_ k_ => XS.bipush X0.here hx rfl (hb hby d1_15) k_) ?_
  show Runs _ _ _ _ s₁ (mkF m 17 #[.val (.ref r0), .val (.int p1)] [(.int (16 : Int32)), (.int (b1 &&& (255 : Int32))), (.int (b0 <<< ((24 : Int32) &&& 31)))])
  refine Runs.back (fun t_ k_ => XS.ishl X0.here hx rfl (hb hby d1_17) rfl k_) ?_
  show Runs _ _ _ _ s₁ (mkF m 18 #[.val (.ref r0), .val (.int p1)] [(.int ((b1 &&& (255 : Int32)) <<< ((16 : Int32) &&& 31))), (.int (b0 <<< ((24 : Int32) &&& 31)))])
  refine Runs.back (fun t_ k_ => XS.ior X0.here hx rfl (hb hby d1_18) rfl k_) ?_
  show Runs _ _ _ _ s₁ (mkF m 19 #[.val (.ref r0), .val (.int p1)] [(.int ((b0 <<< ((24 : Int32) &&& 31)) ||| ((b1 &&& (255 : Int32)) <<< ((16 : Int32) &&& 31))))])
  refine Runs.back (fun t_ k_ => XS.aloadN X0.here hx rfl (hb hby d1_19) rfl rfl k_) ?_
  show Runs _ _ _ _ s₁ (mkF m 20 #[.val (.ref r0), .val (.int p1)] [(.ref r0), (.int ((b0 <<< ((24 : Int32) &&& 31)) ||| ((b1 &&& (255 : Int32)) <<< ((16 : Int32) &&& 31))))])
  refine Runs.back (fun t_ k_ => XS.iloadN X0.here hx rfl (hb hby d1_20) rfl k_) ?_
  show Runs _ _ _ _ s₁ (mkF m 21 #[.val (.ref r0), .val (.int p1)] [(.int p1), (.ref r0), (.int ((b0 <<< ((24 : Int32) &&& 31)) ||| ((b1 &&& (255 : Int32)) <<< ((16 : Int32) &&& 31))))])
  refine Runs.back (fun t_ k_ => XS.iconst X0.here hx rfl (hb hby d1_21) k_) ?_
  show Runs _ _ _ _ s₁ (mkF m 22 #[.val (.ref r0), .val (.int p1)] [(.int (2 : Int32)), (.int p1), (.ref r0), (.int ((b0 <<< ((24 : Int32) &&& 31)) ||| ((b1 &&& (255 : Int32)) <<< ((16 : Int32) &&& 31))))])
  refine Runs.back (fun t_ k_ => XS.iadd X0.here hx rfl (hb hby d1_22) rfl k_) ?_
  show Runs _ _ _ _ s₁ (mkF m 23 #[.val (.ref r0), .val (.int p1)] [(.int (p1 + (2 : Int32))), (.ref r0), (.int ((b0 <<< ((24 : Int32) &&& 31)) ||| ((b1 &&& (255 : Int32)) <<< ((16 : Int32) &&& 31))))])
  obtain ⟨cl3, Ar3, S3, Hs3⟩ := id A1
  have at3 : cl3.slots[((p1 + (2 : Int32))).toNatClampNeg]? = some (.int b2) := readO Hs3 i2.1 (show (k + 2) < 8 from (by first | omega | decide)) (hb2)
  refine Runs.back (fun t_ k_ => X0.baloadBytes hx (j := (p1 + (2 : Int32))) (v := (.int b2)) (by rw [e0]; exact Ar3.1) (State.isArrayOf_alike hZ.alike Ar3.2.1) Ar3.2.2 (by rw [S3]; exact (inbO i2.2 i2.1 (show (k + 2) < 8 from (by first | omega | decide)))) at3 (g := (mkF m 23 #[.val (.ref r0), .val (.int p1)] [(.int (p1 + (2 : Int32))), (.ref r0), (.int ((b0 <<< ((24 : Int32) &&& 31)) ||| ((b1 &&& (255 : Int32)) <<< ((16 : Int32) &&& 31))))])) rfl rfl (hb hby d1_23) _ k_) ?_
  show Runs _ _ _ _ s₁ (mkF m 24 #[.val (.ref r0), .val (.int p1)] [(.int b2), (.int ((b0 <<< ((24 : Int32) &&& 31)) ||| ((b1 &&& (255 : Int32)) <<< ((16 : Int32) &&& 31))))])
  refine Runs.back (fun t_ k_ => XS.sipush X0.here hx rfl (hb hby d1_24) k_) ?_
  show Runs _ _ _ _ s₁ (mkF m 27 #[.val (.ref r0), .val (.int p1)] [(.int (255 : Int32)), (.int b2), (.int ((b0 <<< ((24 : Int32) &&& 31)) ||| ((b1 &&& (255 : Int32)) <<< ((16 : Int32) &&& 31))))])
  refine Runs.back (fun t_ k_ => XS.iand X0.here hx rfl (hb hby d1_27) rfl k_) ?_
  show Runs _ _ _ _ s₁ (mkF m 28 #[.val (.ref r0), .val (.int p1)] [(.int (b2 &&& (255 : Int32))), (.int ((b0 <<< ((24 : Int32) &&& 31)) ||| ((b1 &&& (255 : Int32)) <<< ((16 : Int32) &&& 31))))])
  refine Runs.back (fun t_ k_ => XS.bipush X0.here hx rfl (hb hby d1_28) k_) ?_
  show Runs _ _ _ _ s₁ (mkF m 30 #[.val (.ref r0), .val (.int p1)] [(.int (8 : Int32)), (.int (b2 &&& (255 : Int32))), (.int ((b0 <<< ((24 : Int32) &&& 31)) ||| ((b1 &&& (255 : Int32)) <<< ((16 : Int32) &&& 31))))])
  refine Runs.back (fun t_ k_ => XS.ishl X0.here hx rfl (hb hby d1_30) rfl k_) ?_
  show Runs _ _ _ _ s₁ (mkF m 31 #[.val (.ref r0), .val (.int p1)] [(.int ((b2 &&& (255 : Int32)) <<< ((8 : Int32) &&& 31))), (.int ((b0 <<< ((24 : Int32) &&& 31)) ||| ((b1 &&& (255 : Int32)) <<< ((16 : Int32) &&& 31))))])
  refine Runs.back (fun t_ k_ => XS.ior X0.here hx rfl (hb hby d1_31) rfl k_) ?_
  show Runs _ _ _ _ s₁ (mkF m 32 #[.val (.ref r0), .val (.int p1)] [(.int (((b0 <<< ((24 : Int32) &&& 31)) ||| ((b1 &&& (255 : Int32)) <<< ((16 : Int32) &&& 31))) ||| ((b2 &&& (255 : Int32)) <<< ((8 : Int32) &&& 31))))])
  refine Runs.back (fun t_ k_ => XS.aloadN X0.here hx rfl (hb hby d1_32) rfl rfl k_) ?_
  show Runs _ _ _ _ s₁ (mkF m 33 #[.val (.ref r0), .val (.int p1)] [(.ref r0), (.int (((b0 <<< ((24 : Int32) &&& 31)) ||| ((b1 &&& (255 : Int32)) <<< ((16 : Int32) &&& 31))) ||| ((b2 &&& (255 : Int32)) <<< ((8 : Int32) &&& 31))))])
  refine Runs.back (fun t_ k_ => XS.iloadN X0.here hx rfl (hb hby d1_33) rfl k_) ?_
  show Runs _ _ _ _ s₁ (mkF m 34 #[.val (.ref r0), .val (.int p1)] [(.int p1), (.ref r0), (.int (((b0 <<< ((24 : Int32) &&& 31)) ||| ((b1 &&& (255 : Int32)) <<< ((16 : Int32) &&& 31))) ||| ((b2 &&& (255 : Int32)) <<< ((8 : Int32) &&& 31))))])
  refine Runs.back (fun t_ k_ => XS.iconst X0.here hx rfl (hb hby d1_34) k_) ?_
  show Runs _ _ _ _ s₁ (mkF m 35 #[.val (.ref r0), .val (.int p1)] [(.int (3 : Int32)), (.int p1), (.ref r0), (.int (((b0 <<< ((24 : Int32) &&& 31)) ||| ((b1 &&& (255 : Int32)) <<< ((16 : Int32) &&& 31))) ||| ((b2 &&& (255 : Int32)) <<< ((8 : Int32) &&& 31))))])
  refine Runs.back (fun t_ k_ => XS.iadd X0.here hx rfl (hb hby d1_35) rfl k_) ?_
  show Runs _ _ _ _ s₁ (mkF m 36 #[.val (.ref r0), .val (.int p1)] [(.int (p1 + (3 : Int32))), (.ref r0), (.int (((b0 <<< ((24 : Int32) &&& 31)) ||| ((b1 &&& (255 : Int32)) <<< ((16 : Int32) &&& 31))) ||| ((b2 &&& (255 : Int32)) <<< ((8 : Int32) &&& 31))))])
  obtain ⟨cl4, Ar4, S4, Hs4⟩ := id A1
  have at4 : cl4.slots[((p1 + (3 : Int32))).toNatClampNeg]? = some (.int b3) := readO Hs4 i3.1 (show (k + 3) < 8 from (by first | omega | decide)) (hb3)
  refine Runs.back (fun t_ k_ => X0.baloadBytes hx (j := (p1 + (3 : Int32))) (v := (.int b3)) (by rw [e0]; exact Ar4.1) (State.isArrayOf_alike hZ.alike Ar4.2.1) Ar4.2.2 (by rw [S4]; exact (inbO i3.2 i3.1 (show (k + 3) < 8 from (by first | omega | decide)))) at4 (g := (mkF m 36 #[.val (.ref r0), .val (.int p1)] [(.int (p1 + (3 : Int32))), (.ref r0), (.int (((b0 <<< ((24 : Int32) &&& 31)) ||| ((b1 &&& (255 : Int32)) <<< ((16 : Int32) &&& 31))) ||| ((b2 &&& (255 : Int32)) <<< ((8 : Int32) &&& 31))))])) rfl rfl (hb hby d1_36) _ k_) ?_
  show Runs _ _ _ _ s₁ (mkF m 37 #[.val (.ref r0), .val (.int p1)] [(.int b3), (.int (((b0 <<< ((24 : Int32) &&& 31)) ||| ((b1 &&& (255 : Int32)) <<< ((16 : Int32) &&& 31))) ||| ((b2 &&& (255 : Int32)) <<< ((8 : Int32) &&& 31))))])
  refine Runs.back (fun t_ k_ => XS.sipush X0.here hx rfl (hb hby d1_37) k_) ?_
  show Runs _ _ _ _ s₁ (mkF m 40 #[.val (.ref r0), .val (.int p1)] [(.int (255 : Int32)), (.int b3), (.int (((b0 <<< ((24 : Int32) &&& 31)) ||| ((b1 &&& (255 : Int32)) <<< ((16 : Int32) &&& 31))) ||| ((b2 &&& (255 : Int32)) <<< ((8 : Int32) &&& 31))))])
  refine Runs.back (fun t_ k_ => XS.iand X0.here hx rfl (hb hby d1_40) rfl k_) ?_
  show Runs _ _ _ _ s₁ (mkF m 41 #[.val (.ref r0), .val (.int p1)] [(.int (b3 &&& (255 : Int32))), (.int (((b0 <<< ((24 : Int32) &&& 31)) ||| ((b1 &&& (255 : Int32)) <<< ((16 : Int32) &&& 31))) ||| ((b2 &&& (255 : Int32)) <<< ((8 : Int32) &&& 31))))])
  refine Runs.back (fun t_ k_ => XS.ior X0.here hx rfl (hb hby d1_41) rfl k_) ?_
  show Runs _ _ _ _ s₁ (mkF m 42 #[.val (.ref r0), .val (.int p1)] [(.int ((((b0 <<< ((24 : Int32) &&& 31)) ||| ((b1 &&& (255 : Int32)) <<< ((16 : Int32) &&& 31))) ||| ((b2 &&& (255 : Int32)) <<< ((8 : Int32) &&& 31))) ||| (b3 &&& (255 : Int32))))])
  obtain ⟨fs, hr, hrun, hended, hW, hsame⟩ := X0.leave (v := some (.int ((((b0 <<< ((24 : Int32) &&& 31)) ||| ((b1 &&& (255 : Int32)) <<< ((16 : Int32) &&& 31))) ||| ((b2 &&& (255 : Int32)) <<< ((8 : Int32) &&& 31))) ||| (b3 &&& (255 : Int32))))) (fun h => by rw [Bd.returns] at h; cases h)
  exact ⟨_, _, (retI X0 hx Bd.returns (hb hby d1_42) hr), hrun, hended, _, _, rfl, ⟨rfl, N0, e0⟩, ⟨_, rfl⟩, hW, hsame.mono (by decide) (by decide)⟩

theorem shl_small {x q : Int32} {k : Nat} {P : Int} (hk : q.toBitVec.toNat % 32 = k) (hP : ((2 ^ k : Nat) : Int) = P) (h0 : 0 ≤ x.toInt * P) (h1 : x.toInt * P < 2147483648) : (x <<< (q &&& 31)).toInt = x.toInt * P := by
  have s := c_ishl x q k hk
  rw [hP] at s
  have t := bd32 (x <<< (q &&& 31))
  generalize x.toInt * P = z at *
  omega
theorem or_a {A B : Int32} (ha : A.toInt % 16777216 = 0) (hb : 0 ≤ B.toInt ∧ B.toInt < 16777216) : ((A ||| B).toInt - (A.toInt + B.toInt)) % 4294967296 = 0 := c_or A B 24 (by decide) 16777216 (by decide) ha hb.1 hb.2
theorem or_b {A B : Int32} (ha : A.toInt % 65536 = 0) (hb : 0 ≤ B.toInt ∧ B.toInt < 65536) : ((A ||| B).toInt - (A.toInt + B.toInt)) % 4294967296 = 0 := c_or A B 16 (by decide) 65536 (by decide) ha hb.1 hb.2
theorem or_c {A B : Int32} (ha : A.toInt % 256 = 0) (hb : 0 ≤ B.toInt ∧ B.toInt < 256) : ((A ||| B).toInt - (A.toInt + B.toInt)) % 4294967296 = 0 := c_or A B 8 (by decide) 256 (by decide) ha hb.1 hb.2
theorem m255 (x : Int32) : (x &&& (255 : Int32)).toInt = x.toInt % 256 := by
  rw [c_mask x 255 8 (by decide) (by decide)]; rfl
theorem intF_val (b0 b1 b2 b3 : Int32) : ((intF b0 b1 b2 b3).toInt - (b0.toInt * 16777216 + (b1.toInt % 256) * 65536 + (b2.toInt % 256) * 256 + b3.toInt % 256)) % 4294967296 = 0 := by
  unfold intF
  have s1 : ((b0 <<< ((24 : Int32) &&& 31)).toInt - b0.toInt * 16777216) % 4294967296 = 0 := by
    have q := c_ishl b0 24 24 (by decide)
    rw [show ((2 ^ 24 : Nat) : Int) = 16777216 from rfl] at q
    exact q
  have e1 := m255 b1; have e2 := m255 b2; have e3 := m255 b3
  have s2 : ((b1 &&& (255 : Int32)) <<< ((16 : Int32) &&& 31)).toInt = (b1 &&& (255 : Int32)).toInt * 65536 := shl_small (k := 16) (by decide) rfl (by omega) (by omega)
  have s3 : ((b2 &&& (255 : Int32)) <<< ((8 : Int32) &&& 31)).toInt = (b2 &&& (255 : Int32)).toInt * 256 := shl_small (k := 8) (by decide) rfl (by omega) (by omega)
  generalize (b0 <<< ((24 : Int32) &&& 31)) = A at *
  generalize ((b1 &&& (255 : Int32)) <<< ((16 : Int32) &&& 31)) = B at *
  generalize ((b2 &&& (255 : Int32)) <<< ((8 : Int32) &&& 31)) = D at *
  generalize (b3 &&& (255 : Int32)) = E at *
  rw [e1] at s2
  rw [e2] at s3
  clear e1 e2
  have hB : 0 ≤ B.toInt ∧ B.toInt < 16777216 := by omega
  have hD : 0 ≤ D.toInt ∧ D.toInt < 65536 := by omega
  have hE : 0 ≤ E.toInt ∧ E.toInt < 256 := by omega
  have o1 := or_a (A := A) (B := B) (by omega) hB
  have a1 : (A ||| B).toInt % 65536 = 0 := by omega
  have o2 := or_b (A := A ||| B) (B := D) a1 hD
  have a2 : (A ||| B ||| D).toInt % 256 = 0 := by omega
  have o3 := or_c (A := A ||| B ||| D) (B := E) a2 hE
  omega
theorem mulA {x : Int32} (h : 0 ≤ x.toInt ∧ x.toInt < 256) : (x.toInt64 * (16777216 : Int64)).toInt = x.toInt * 16777216 := by
  rw [Int64.toInt_mul, c_i2l, show (16777216 : Int64).toInt = 16777216 from by decide]; exact Int.bmod_eq_of_le (by omega) (by omega)
theorem mulB {x : Int32} (h : 0 ≤ x.toInt ∧ x.toInt < 256) : (x.toInt64 * (65536 : Int64)).toInt = x.toInt * 65536 := by
  rw [Int64.toInt_mul, c_i2l, show (65536 : Int64).toInt = 65536 from by decide]; exact Int.bmod_eq_of_le (by omega) (by omega)
theorem mulC {x : Int32} (h : 0 ≤ x.toInt ∧ x.toInt < 256) : (x.toInt64 * (256 : Int64)).toInt = x.toInt * 256 := by
  rw [Int64.toInt_mul, c_i2l, show (256 : Int64).toInt = 256 from by decide]; exact Int.bmod_eq_of_le (by omega) (by omega)
theorem sum_val (a b c d : Int32) : ((((((a &&& (255 : Int32)).toInt64) * (16777216 : Int64)) + (((b &&& (255 : Int32)).toInt64) * (65536 : Int64))) + (((c &&& (255 : Int32)).toInt64) * (256 : Int64))) + ((d &&& (255 : Int32)).toInt64)).toInt = (a.toInt % 256) * 16777216 + (b.toInt % 256) * 65536 + (c.toInt % 256) * 256 + d.toInt % 256 := by
  have e0 := m255 a; have e1 := m255 b; have e2 := m255 c; have e3 := m255 d
  have i3 := c_i2l (d &&& (255 : Int32))
  have k1 := mulA (x := a &&& (255 : Int32)) (by omega)
  have k2 := mulB (x := b &&& (255 : Int32)) (by omega)
  have k3 := mulC (x := c &&& (255 : Int32)) (by omega)
  rw [e0] at k1; rw [e1] at k2; rw [e2] at k3; rw [e3] at i3
  clear e0 e1 e2 e3
  generalize ((a &&& (255 : Int32)).toInt64) * (16777216 : Int64) = M1 at *
  generalize ((b &&& (255 : Int32)).toInt64) * (65536 : Int64) = M2 at *
  generalize ((c &&& (255 : Int32)).toInt64) * (256 : Int64) = M3 at *
  generalize (d &&& (255 : Int32)).toInt64 = M4 at *
  have v1 : (M1 + M2).toInt = M1.toInt + M2.toInt := add64 (by omega) (by omega)
  have v2 : (M1 + M2 + M3).toInt = (M1 + M2).toInt + M3.toInt := add64 (by omega) (by omega)
  have v3 : (M1 + M2 + M3 + M4).toInt = (M1 + M2 + M3).toInt + M4.toInt := add64 (by omega) (by omega)
  omega
theorem nar2m (x : Int32) : ((nar .byte (x.toInt8.toInt32)).toInt - x.toInt) % 256 = 0 := by
  show ((x.toInt8.toInt32.toInt8.toInt32).toInt - x.toInt) % 256 = 0
  have a := (c_i2b x).1; have b := (c_i2b (x.toInt8.toInt32)).1
  omega
theorem int_law (a b c d : Int32) : intF (nar .byte (a.toInt8.toInt32)) (nar .byte (b.toInt8.toInt32)) (nar .byte (c.toInt8.toInt32)) (nar .byte (d.toInt8.toInt32)) =
    ((((((a &&& (255 : Int32)).toInt64) * (16777216 : Int64)) + (((b &&& (255 : Int32)).toInt64) * (65536 : Int64))) + (((c &&& (255 : Int32)).toInt64) * (256 : Int64))) + ((d &&& (255 : Int32)).toInt64)).toInt32 := by
  have s := sum_val a b c d
  have v := intF_val (nar .byte (a.toInt8.toInt32)) (nar .byte (b.toInt8.toInt32)) (nar .byte (c.toInt8.toInt32)) (nar .byte (d.toInt8.toInt32))
  have n0 := nar2m a; have n1 := nar2m b; have n2 := nar2m c; have n3 := nar2m d
  generalize nar .byte (a.toInt8.toInt32) = A at *
  generalize nar .byte (b.toInt8.toInt32) = B at *
  generalize nar .byte (c.toInt8.toInt32) = Cc at *
  generalize nar .byte (d.toInt8.toInt32) = D at *
  have t := bd32 (intF A B Cc D)
  generalize ((((((a &&& (255 : Int32)).toInt64) * (16777216 : Int64)) + (((b &&& (255 : Int32)).toInt64) * (65536 : Int64))) + (((c &&& (255 : Int32)).toInt64) * (256 : Int64))) + ((d &&& (255 : Int32)).toInt64)) = M at *
  have w1 := c_l2i M
  have w2 := bd32 M.toInt32
  rw [eqi]
  have m1 : B.toInt % 256 = b.toInt % 256 := by omega
  have m2 : Cc.toInt % 256 = c.toInt % 256 := by omega
  have m3 : D.toInt % 256 = d.toInt % 256 := by omega
  rw [m1, m2, m3] at v
  clear n1 n2 n3 m1 m2 m3
  generalize (intF A B Cc D).toInt = F at *
  generalize b.toInt % 256 = b' at *
  generalize c.toInt % 256 = c' at *
  generalize d.toInt % 256 = d' at *
  omega
theorem pn_0 : plainName "com/example/ubique/ubique/FrameIntAtPinLaw" = true := by first | (simp [plainName, overriddenIn]; done) | decide +kernel
theorem pd0_0 : parseMethodDescriptor "([BI)I" = some ⟨[(.array .byte), .int], some .int⟩ := by decide +kernel
theorem ef_0 (m : MethodId) (p0 : Int32) (p1 : Int32) (p2 : Int32) (p3 : Int32) (p4 : Int32) (p5 : Int32) : entryFrame m #[(.int p0), (.int p1), (.int p2), (.int p3), (.int p4), (.int p5)] maxLocals = mkF m 0 #[.val (.int p0), .val (.int p1), .val (.int p2), .val (.int p3), .val (.int p4), .val (.int p5), .unset, .unset, .unset, .unset, .unset, .unset] [] := by first | (simp [entryFrame, mkF, argsToLocals, Value.category, maxLocals]; done) | rfl
def Q0 (Z : State) (p0 : Int32) (p1 : Int32) (p2 : Int32) (p3 : Int32) (p4 : Int32) (p5 : Int32)  (h0 : Heap) (n0 : Nat) (v : Option Value) (h : Heap) (L : List Loc) : Prop := v = some (.int 1) ∧ Fr n0 L
set_option maxRecDepth 65536 in
set_option maxHeartbeats 40000000 in
theorem rm0 (l : Launch) (Z : State) (a0 : Array Value) (hw : ∀ d ∈ tables_1, d.before a0 Z = true) (ws : List Jvm.Cond) (p0 : Int32) (p1 : Int32) (p2 : Int32) (p3 : Int32) (p4 : Int32) (p5 : Int32)  (h0 : Heap) (n0 : Nat) (Z0 : n0 ≤ h0.size) :
    MetFree l x (head1 (Jvm.Cond.code x code maxLocals ret :: ws) room_1) (fun a U => a = #[(.int p0), (.int p1), (.int p2), (.int p3), (.int p4), (.int p5)] ∧ Z.Warmed39 U.vm ∧ U.heap = h0) (fun _ _ _ _ _ => True) (fun _ U o U' => ∃ v L, o = .returned v ∧ Q0 Z p0 p1 p2 p3 p4 p5 h0 n0 v U'.heap L ∧ FrameEnd U o U' L 16 128) := by
  refine MetFree.of_bodySF (plainFor_of_name pn_0) hisR ?_
  intro p e s m args below meth c s₁ Bd hml0 hP hK
  obtain ⟨rfl, hZ, hh⟩ := hP
  have hx := Bd.exec
  have hby := Bd.bytes
  have hml : c.maxLocals = 12 := hml0
  have hown : s.vm.findClass "com/example/ubique/ubique/FrameIntAtPinLaw" = some m.cls := findClass_of_methodNamed Bd.named
  have hnm := (name_of_methodNamed Bd.named Bd.method).1
  have X0 : Stand p l e room_1 s m #[(.int p0), (.int p1), (.int p2), (.int p3), (.int p4), (.int p5)] below meth c s₁ [] 0 0 := Stand.of_body Bd
  have e0 : s₁.heap = h0 := by rw [← hh, Bd.state]; rfl
  have N0 := Fr.nil n0
  refine Runs.enter (ef_0 m p0 p1 p2 p3 p4 p5) ?_
  show Runs _ _ _ _ s₁ (mkF m 0 #[.val (.int p0), .val (.int p1), .val (.int p2), .val (.int p3), .val (.int p4), .val (.int p5), .unset, .unset, .unset, .unset, .unset, .unset] [])
  refine Runs.back (fun t_ k_ => XS.iload X0.here hx rfl (hb hby at_0) rfl k_) ?_
  show Runs _ _ _ _ s₁ (mkF m 2 #[.val (.int p0), .val (.int p1), .val (.int p2), .val (.int p3), .val (.int p4), .val (.int p5), .unset, .unset, .unset, .unset, .unset, .unset] [(.int p4)])
  refine Runs.back (X0.ldcInt hx hown (mvT hZ (hw _ (List.mem_of_getElem? (i := 0) rfl))) (g := (mkF m 2 #[.val (.int p0), .val (.int p1), .val (.int p2), .val (.int p3), .val (.int p4), .val (.int p5), .unset, .unset, .unset, .unset, .unset, .unset] [(.int p4)])) rfl (hb hby at_2)) ?_
  show Runs _ _ _ _ s₁ (mkF m 4 #[.val (.int p0), .val (.int p1), .val (.int p2), .val (.int p3), .val (.int p4), .val (.int p5), .unset, .unset, .unset, .unset, .unset, .unset] [(.int (2147483647 : Int32)), (.int p4)])
  refine Runs.back (fun t_ k_ => XS.iand X0.here hx rfl (hb hby at_4) rfl k_) ?_
  show Runs _ _ _ _ s₁ (mkF m 5 #[.val (.int p0), .val (.int p1), .val (.int p2), .val (.int p3), .val (.int p4), .val (.int p5), .unset, .unset, .unset, .unset, .unset, .unset] [(.int (p4 &&& (2147483647 : Int32)))])
  refine Runs.back (fun t_ k_ => XS.iconst X0.here hx rfl (hb hby at_5) k_) ?_
  show Runs _ _ _ _ s₁ (mkF m 6 #[.val (.int p0), .val (.int p1), .val (.int p2), .val (.int p3), .val (.int p4), .val (.int p5), .unset, .unset, .unset, .unset, .unset, .unset] [(.int (5 : Int32)), (.int (p4 &&& (2147483647 : Int32)))])
  refine Runs.back (fun t_ k_ => iremM X0 hx rfl (hb hby at_6) rfl (by decide) k_) ?_
  show Runs _ _ _ _ s₁ (mkF m 7 #[.val (.int p0), .val (.int p1), .val (.int p2), .val (.int p3), .val (.int p4), .val (.int p5), .unset, .unset, .unset, .unset, .unset, .unset] [(.int ((p4 &&& (2147483647 : Int32)) % (5 : Int32)))])
  have bA := (c_irem (p4 &&& (2147483647 : Int32)) 5 5 (by decide)).1 (by rw [c_mask p4 _ 31 (by decide) (by decide)]; omega)
  generalize epA : ((p4 &&& (2147483647 : Int32)) % (5 : Int32)) = pA at bA ⊢
  show Runs _ _ _ _ s₁ (mkF m 7 #[.val (.int p0), .val (.int p1), .val (.int p2), .val (.int p3), .val (.int p4), .val (.int p5), .unset, .unset, .unset, .unset, .unset, .unset] [(.int pA)])
  have b2A : 0 ≤ pA.toInt ∧ pA.toInt < 5 := by omega
  have hnA : ¬ pA < 0 := by rw [lti, z32]; omega
  obtain ⟨kA, hkA⟩ : ∃ k, pA.toNatClampNeg = k := ⟨_, rfl⟩
  have hk5 : kA < 5 := by have q := nat_of hnA; omega
  have j1 := idxS hkA hnA (show (1 : Int32).toInt = ((1 : Nat) : Int) from by decide) (by omega)
  have j2 := idxS hkA hnA (show (2 : Int32).toInt = ((2 : Nat) : Int) from by decide) (by omega)
  have j3 := idxS hkA hnA (show (3 : Int32).toInt = ((3 : Nat) : Int) from by decide) (by omega)
  refine Runs.back (fun t_ k_ => XS.istore X0.here hx rfl (hb hby at_7) rfl (l' := #[.val (.int p0), .val (.int p1), .val (.int p2), .val (.int p3), .val (.int p4), .val (.int p5), .val (.int pA), .unset, .unset, .unset, .unset, .unset]) rfl k_) ?_
  show Runs _ _ _ _ s₁ (mkF m 9 #[.val (.int p0), .val (.int p1), .val (.int p2), .val (.int p3), .val (.int p4), .val (.int p5), .val (.int pA), .unset, .unset, .unset, .unset, .unset] [])
  refine Runs.back (fun t_ k_ => XS.iload X0.here hx rfl (hb hby at_9) rfl k_) ?_
  show Runs _ _ _ _ s₁ (mkF m 11 #[.val (.int p0), .val (.int p1), .val (.int p2), .val (.int p3), .val (.int p4), .val (.int p5), .val (.int pA), .unset, .unset, .unset, .unset, .unset] [(.int p5)])
  refine Runs.back (fun t_ k_ => XS.i2b X0.here hx rfl (hb hby at_11) rfl k_) ?_
  show Runs _ _ _ _ s₁ (mkF m 12 #[.val (.int p0), .val (.int p1), .val (.int p2), .val (.int p3), .val (.int p4), .val (.int p5), .val (.int pA), .unset, .unset, .unset, .unset, .unset] [(.int (p5.toInt8.toInt32))])
  refine Runs.back (fun t_ k_ => XS.istore X0.here hx rfl (hb hby at_12) rfl (l' := #[.val (.int p0), .val (.int p1), .val (.int p2), .val (.int p3), .val (.int p4), .val (.int p5), .val (.int pA), .val (.int (p5.toInt8.toInt32)), .unset, .unset, .unset, .unset]) rfl k_) ?_
  show Runs _ _ _ _ s₁ (mkF m 14 #[.val (.int p0), .val (.int p1), .val (.int p2), .val (.int p3), .val (.int p4), .val (.int p5), .val (.int pA), .val (.int (p5.toInt8.toInt32)), .unset, .unset, .unset, .unset] [])
  refine Runs.back (fun t_ k_ => XS.bipush X0.here hx rfl (hb hby at_14) k_) ?_
  show Runs _ _ _ _ s₁ (mkF m 16 #[.val (.int p0), .val (.int p1), .val (.int p2), .val (.int p3), .val (.int p4), .val (.int p5), .val (.int pA), .val (.int (p5.toInt8.toInt32)), .unset, .unset, .unset, .unset] [(.int (8 : Int32))])
  obtain ⟨T1, h1, k1, X1, e1, E1, A1, st1⟩ := newP X0 hx hZ (hw _ (List.mem_of_getElem? (i := 1) rfl)) e0 (g := (mkF m 16 #[.val (.int p0), .val (.int p1), .val (.int p2), .val (.int p3), .val (.int p4), .val (.int p5), .val (.int pA), .val (.int (p5.toInt8.toInt32)), .unset, .unset, .unset, .unset] [(.int (8 : Int32))])) rfl (hb hby at_16) rfl (by decide) (cap := 8) (by decide) (by decide) (by decide) (by decide)
  obtain ⟨ob1, g1⟩ : ∃ z, z = h0.size := ⟨_, rfl⟩
  rw [← g1] at A1 st1
  have g_ob1 : n0 ≤ ob1 := Nat.le_trans (Z0) (Nat.le_of_eq g1.symm)
  have Z1 : n0 ≤ h1.size := Nat.le_trans (Z0) E1.1
  have V1 : OArr Z h1 ob1 .byte 8 (fun _ => (Value.int (0 : Int32))) := OArr.new A1 rfl rfl
  refine Runs.back st1 ?_
  show Runs _ _ _ _ T1 (mkF m 18 #[.val (.int p0), .val (.int p1), .val (.int p2), .val (.int p3), .val (.int p4), .val (.int p5), .val (.int pA), .val (.int (p5.toInt8.toInt32)), .unset, .unset, .unset, .unset] [(.ref ob1)])
  refine Runs.back (fun t_ k_ => XS.astore X1.here hx rfl (hb hby at_18) rfl rfl (l' := #[.val (.int p0), .val (.int p1), .val (.int p2), .val (.int p3), .val (.int p4), .val (.int p5), .val (.int pA), .val (.int (p5.toInt8.toInt32)), .val (.ref ob1), .unset, .unset, .unset]) rfl k_) ?_
  show Runs _ _ _ _ T1 (mkF m 20 #[.val (.int p0), .val (.int p1), .val (.int p2), .val (.int p3), .val (.int p4), .val (.int p5), .val (.int pA), .val (.int (p5.toInt8.toInt32)), .val (.ref ob1), .unset, .unset, .unset] [])
  refine Runs.back (fun t_ k_ => XS.aload X1.here hx rfl (hb hby at_20) rfl rfl k_) ?_
  show Runs _ _ _ _ T1 (mkF m 22 #[.val (.int p0), .val (.int p1), .val (.int p2), .val (.int p3), .val (.int p4), .val (.int p5), .val (.int pA), .val (.int (p5.toInt8.toInt32)), .val (.ref ob1), .unset, .unset, .unset] [(.ref ob1)])
  refine Runs.back (fun t_ k_ => XS.iconst X1.here hx rfl (hb hby at_22) k_) ?_
  show Runs _ _ _ _ T1 (mkF m 23 #[.val (.int p0), .val (.int p1), .val (.int p2), .val (.int p3), .val (.int p4), .val (.int p5), .val (.int pA), .val (.int (p5.toInt8.toInt32)), .val (.ref ob1), .unset, .unset, .unset] [(.int (0 : Int32)), (.ref ob1)])
  refine Runs.back (fun t_ k_ => XS.iload X1.here hx rfl (hb hby at_23) rfl k_) ?_
  show Runs _ _ _ _ T1 (mkF m 25 #[.val (.int p0), .val (.int p1), .val (.int p2), .val (.int p3), .val (.int p4), .val (.int p5), .val (.int pA), .val (.int (p5.toInt8.toInt32)), .val (.ref ob1), .unset, .unset, .unset] [(.int (p5.toInt8.toInt32)), (.int (0 : Int32)), (.ref ob1)])
  obtain ⟨cl2, Ar2, S2, Hs2⟩ := id V1
  obtain ⟨T2, h2, X2, e2, W2, st2⟩ := stB X1 hx hZ e1 Ar2 (j := (0 : Int32)) (by rw [S2]; exact (inbO (by decide : ¬ (0 : Int32) < 0) (rfl : ((0 : Int32)).toNatClampNeg = 0) (show 0 < 8 from (by first | omega | decide)))) (g := (mkF m 25 #[.val (.int p0), .val (.int p1), .val (.int p2), .val (.int p3), .val (.int p4), .val (.int p5), .val (.int pA), .val (.int (p5.toInt8.toInt32)), .val (.ref ob1), .unset, .unset, .unset] [(.int (p5.toInt8.toInt32)), (.int (0 : Int32)), (.ref ob1)])) rfl rfl (hb hby at_25)
  have N2 := Fr.snoc X2 N0 g_ob1
  rw [(rfl : ((0 : Int32)).toNatClampNeg = 0)] at W2
  have f2_Arr_0 : OArr Z h2 ob1 .byte 8 (fun i => if i = 0 then (Value.int (nar .byte (p5.toInt8.toInt32))) else (fun _ => (Value.int (0 : Int32))) i) := V1.set W2
  have Z2 : n0 ≤ h2.size := Nat.le_trans (Z1) (Nat.le_of_eq W2.size.symm)
  refine Runs.back st2 ?_
  show Runs _ _ _ _ T2 (mkF m 26 #[.val (.int p0), .val (.int p1), .val (.int p2), .val (.int p3), .val (.int p4), .val (.int p5), .val (.int pA), .val (.int (p5.toInt8.toInt32)), .val (.ref ob1), .unset, .unset, .unset] [])
  refine Runs.back (fun t_ k_ => XS.aload X2.here hx rfl (hb hby at_26) rfl rfl k_) ?_
  show Runs _ _ _ _ T2 (mkF m 28 #[.val (.int p0), .val (.int p1), .val (.int p2), .val (.int p3), .val (.int p4), .val (.int p5), .val (.int pA), .val (.int (p5.toInt8.toInt32)), .val (.ref ob1), .unset, .unset, .unset] [(.ref ob1)])
  refine Runs.back (fun t_ k_ => XS.iconst X2.here hx rfl (hb hby at_28) k_) ?_
  show Runs _ _ _ _ T2 (mkF m 29 #[.val (.int p0), .val (.int p1), .val (.int p2), .val (.int p3), .val (.int p4), .val (.int p5), .val (.int pA), .val (.int (p5.toInt8.toInt32)), .val (.ref ob1), .unset, .unset, .unset] [(.int (1 : Int32)), (.ref ob1)])
  refine Runs.back (fun t_ k_ => XS.iload X2.here hx rfl (hb hby at_29) rfl k_) ?_
  show Runs _ _ _ _ T2 (mkF m 31 #[.val (.int p0), .val (.int p1), .val (.int p2), .val (.int p3), .val (.int p4), .val (.int p5), .val (.int pA), .val (.int (p5.toInt8.toInt32)), .val (.ref ob1), .unset, .unset, .unset] [(.int (p5.toInt8.toInt32)), (.int (1 : Int32)), (.ref ob1)])
  obtain ⟨cl3, Ar3, S3, Hs3⟩ := id f2_Arr_0
  obtain ⟨T3, h3, X3, e3, W3, st3⟩ := stB X2 hx hZ e2 Ar3 (j := (1 : Int32)) (by rw [S3]; exact (inbO (by decide : ¬ (1 : Int32) < 0) (rfl : ((1 : Int32)).toNatClampNeg = 1) (show 1 < 8 from (by first | omega | decide)))) (g := (mkF m 31 #[.val (.int p0), .val (.int p1), .val (.int p2), .val (.int p3), .val (.int p4), .val (.int p5), .val (.int pA), .val (.int (p5.toInt8.toInt32)), .val (.ref ob1), .unset, .unset, .unset] [(.int (p5.toInt8.toInt32)), (.int (1 : Int32)), (.ref ob1)])) rfl rfl (hb hby at_31)
  have N3 := Fr.snoc X3 N2 g_ob1
  rw [(rfl : ((1 : Int32)).toNatClampNeg = 1)] at W3
  have f3_Arr_0 : OArr Z h3 ob1 .byte 8 (fun i => if i = 1 then (Value.int (nar .byte (p5.toInt8.toInt32))) else (fun i => if i = 0 then (Value.int (nar .byte (p5.toInt8.toInt32))) else (fun _ => (Value.int (0 : Int32))) i) i) := f2_Arr_0.set W3
  have Z3 : n0 ≤ h3.size := Nat.le_trans (Z2) (Nat.le_of_eq W3.size.symm)
  refine Runs.back st3 ?_
  show Runs _ _ _ _ T3 (mkF m 32 #[.val (.int p0), .val (.int p1), .val (.int p2), .val (.int p3), .val (.int p4), .val (.int p5), .val (.int pA), .val (.int (p5.toInt8.toInt32)), .val (.ref ob1), .unset, .unset, .unset] [])
  refine Runs.back (fun t_ k_ => XS.aload X3.here hx rfl (hb hby at_32) rfl rfl k_) ?_
  show Runs _ _ _ _ T3 (mkF m 34 #[.val (.int p0), .val (.int p1), .val (.int p2), .val (.int p3), .val (.int p4), .val (.int p5), .val (.int pA), .val (.int (p5.toInt8.toInt32)), .val (.ref ob1), .unset, .unset, .unset] [(.ref ob1)])
  refine Runs.back (fun t_ k_ => XS.iconst X3.here hx rfl (hb hby at_34) k_) ?_
  show Runs _ _ _ _ T3 (mkF m 35 #[.val (.int p0), .val (.int p1), .val (.int p2), .val (.int p3), .val (.int p4), .val (.int p5), .val (.int pA), .val (.int (p5.toInt8.toInt32)), .val (.ref ob1), .unset, .unset, .unset] [(.int (2 : Int32)), (.ref ob1)])
  refine Runs.back (fun t_ k_ => XS.iload X3.here hx rfl (hb hby at_35) rfl k_) ?_
  show Runs _ _ _ _ T3 (mkF m 37 #[.val (.int p0), .val (.int p1), .val (.int p2), .val (.int p3), .val (.int p4), .val (.int p5), .val (.int pA), .val (.int (p5.toInt8.toInt32)), .val (.ref ob1), .unset, .unset, .unset] [(.int (p5.toInt8.toInt32)), (.int (2 : Int32)), (.ref ob1)])
  obtain ⟨cl4, Ar4, S4, Hs4⟩ := id f3_Arr_0
  obtain ⟨T4, h4, X4, e4, W4, st4⟩ := stB X3 hx hZ e3 Ar4 (j := (2 : Int32)) (by rw [S4]; exact (inbO (by decide : ¬ (2 : Int32) < 0) (rfl : ((2 : Int32)).toNatClampNeg = 2) (show 2 < 8 from (by first | omega | decide)))) (g := (mkF m 37 #[.val (.int p0), .val (.int p1), .val (.int p2), .val (.int p3), .val (.int p4), .val (.int p5), .val (.int pA), .val (.int (p5.toInt8.toInt32)), .val (.ref ob1), .unset, .unset, .unset] [(.int (p5.toInt8.toInt32)), (.int (2 : Int32)), (.ref ob1)])) rfl rfl (hb hby at_37)
  have N4 := Fr.snoc X4 N3 g_ob1
  rw [(rfl : ((2 : Int32)).toNatClampNeg = 2)] at W4
  have f4_Arr_0 : OArr Z h4 ob1 .byte 8 (fun i => if i = 2 then (Value.int (nar .byte (p5.toInt8.toInt32))) else (fun i => if i = 1 then (Value.int (nar .byte (p5.toInt8.toInt32))) else (fun i => if i = 0 then (Value.int (nar .byte (p5.toInt8.toInt32))) else (fun _ => (Value.int (0 : Int32))) i) i) i) := f3_Arr_0.set W4
  have Z4 : n0 ≤ h4.size := Nat.le_trans (Z3) (Nat.le_of_eq W4.size.symm)
  refine Runs.back st4 ?_
  show Runs _ _ _ _ T4 (mkF m 38 #[.val (.int p0), .val (.int p1), .val (.int p2), .val (.int p3), .val (.int p4), .val (.int p5), .val (.int pA), .val (.int (p5.toInt8.toInt32)), .val (.ref ob1), .unset, .unset, .unset] [])
  refine Runs.back (fun t_ k_ => XS.aload X4.here hx rfl (hb hby at_38) rfl rfl k_) ?_
  show Runs _ _ _ _ T4 (mkF m 40 #[.val (.int p0), .val (.int p1), .val (.int p2), .val (.int p3), .val (.int p4), .val (.int p5), .val (.int pA), .val (.int (p5.toInt8.toInt32)), .val (.ref ob1), .unset, .unset, .unset] [(.ref ob1)])
  refine Runs.back (fun t_ k_ => XS.iconst X4.here hx rfl (hb hby at_40) k_) ?_
  show Runs _ _ _ _ T4 (mkF m 41 #[.val (.int p0), .val (.int p1), .val (.int p2), .val (.int p3), .val (.int p4), .val (.int p5), .val (.int pA), .val (.int (p5.toInt8.toInt32)), .val (.ref ob1), .unset, .unset, .unset] [(.int (3 : Int32)), (.ref ob1)])
  refine Runs.back (fun t_ k_ => XS.iload X4.here hx rfl (hb hby at_41) rfl k_) ?_
  show Runs _ _ _ _ T4 (mkF m 43 #[.val (.int p0), .val (.int p1), .val (.int p2), .val (.int p3), .val (.int p4), .val (.int p5), .val (.int pA), .val (.int (p5.toInt8.toInt32)), .val (.ref ob1), .unset, .unset, .unset] [(.int (p5.toInt8.toInt32)), (.int (3 : Int32)), (.ref ob1)])
  obtain ⟨cl5, Ar5, S5, Hs5⟩ := id f4_Arr_0
  obtain ⟨T5, h5, X5, e5, W5, st5⟩ := stB X4 hx hZ e4 Ar5 (j := (3 : Int32)) (by rw [S5]; exact (inbO (by decide : ¬ (3 : Int32) < 0) (rfl : ((3 : Int32)).toNatClampNeg = 3) (show 3 < 8 from (by first | omega | decide)))) (g := (mkF m 43 #[.val (.int p0), .val (.int p1), .val (.int p2), .val (.int p3), .val (.int p4), .val (.int p5), .val (.int pA), .val (.int (p5.toInt8.toInt32)), .val (.ref ob1), .unset, .unset, .unset] [(.int (p5.toInt8.toInt32)), (.int (3 : Int32)), (.ref ob1)])) rfl rfl (hb hby at_43)
  have N5 := Fr.snoc X5 N4 g_ob1
  rw [(rfl : ((3 : Int32)).toNatClampNeg = 3)] at W5
  have f5_Arr_0 : OArr Z h5 ob1 .byte 8 (fun i => if i = 3 then (Value.int (nar .byte (p5.toInt8.toInt32))) else (fun i => if i = 2 then (Value.int (nar .byte (p5.toInt8.toInt32))) else (fun i => if i = 1 then (Value.int (nar .byte (p5.toInt8.toInt32))) else (fun i => if i = 0 then (Value.int (nar .byte (p5.toInt8.toInt32))) else (fun _ => (Value.int (0 : Int32))) i) i) i) i) := f4_Arr_0.set W5
  have Z5 : n0 ≤ h5.size := Nat.le_trans (Z4) (Nat.le_of_eq W5.size.symm)
  refine Runs.back st5 ?_
  show Runs _ _ _ _ T5 (mkF m 44 #[.val (.int p0), .val (.int p1), .val (.int p2), .val (.int p3), .val (.int p4), .val (.int p5), .val (.int pA), .val (.int (p5.toInt8.toInt32)), .val (.ref ob1), .unset, .unset, .unset] [])
  refine Runs.back (fun t_ k_ => XS.aload X5.here hx rfl (hb hby at_44) rfl rfl k_) ?_
  show Runs _ _ _ _ T5 (mkF m 46 #[.val (.int p0), .val (.int p1), .val (.int p2), .val (.int p3), .val (.int p4), .val (.int p5), .val (.int pA), .val (.int (p5.toInt8.toInt32)), .val (.ref ob1), .unset, .unset, .unset] [(.ref ob1)])
  refine Runs.back (fun t_ k_ => XS.iconst X5.here hx rfl (hb hby at_46) k_) ?_
  show Runs _ _ _ _ T5 (mkF m 47 #[.val (.int p0), .val (.int p1), .val (.int p2), .val (.int p3), .val (.int p4), .val (.int p5), .val (.int pA), .val (.int (p5.toInt8.toInt32)), .val (.ref ob1), .unset, .unset, .unset] [(.int (4 : Int32)), (.ref ob1)])
  refine Runs.back (fun t_ k_ => XS.iload X5.here hx rfl (hb hby at_47) rfl k_) ?_
  show Runs _ _ _ _ T5 (mkF m 49 #[.val (.int p0), .val (.int p1), .val (.int p2), .val (.int p3), .val (.int p4), .val (.int p5), .val (.int pA), .val (.int (p5.toInt8.toInt32)), .val (.ref ob1), .unset, .unset, .unset] [(.int (p5.toInt8.toInt32)), (.int (4 : Int32)), (.ref ob1)])
  obtain ⟨cl6, Ar6, S6, Hs6⟩ := id f5_Arr_0
  obtain ⟨T6, h6, X6, e6, W6, st6⟩ := stB X5 hx hZ e5 Ar6 (j := (4 : Int32)) (by rw [S6]; exact (inbO (by decide : ¬ (4 : Int32) < 0) (rfl : ((4 : Int32)).toNatClampNeg = 4) (show 4 < 8 from (by first | omega | decide)))) (g := (mkF m 49 #[.val (.int p0), .val (.int p1), .val (.int p2), .val (.int p3), .val (.int p4), .val (.int p5), .val (.int pA), .val (.int (p5.toInt8.toInt32)), .val (.ref ob1), .unset, .unset, .unset] [(.int (p5.toInt8.toInt32)), (.int (4 : Int32)), (.ref ob1)])) rfl rfl (hb hby at_49)
  have N6 := Fr.snoc X6 N5 g_ob1
  rw [(rfl : ((4 : Int32)).toNatClampNeg = 4)] at W6
  have f6_Arr_0 : OArr Z h6 ob1 .byte 8 (fun i => if i = 4 then (Value.int (nar .byte (p5.toInt8.toInt32))) else (fun i => if i = 3 then (Value.int (nar .byte (p5.toInt8.toInt32))) else (fun i => if i = 2 then (Value.int (nar .byte (p5.toInt8.toInt32))) else (fun i => if i = 1 then (Value.int (nar .byte (p5.toInt8.toInt32))) else (fun i => if i = 0 then (Value.int (nar .byte (p5.toInt8.toInt32))) else (fun _ => (Value.int (0 : Int32))) i) i) i) i) i) := f5_Arr_0.set W6
  have Z6 : n0 ≤ h6.size := Nat.le_trans (Z5) (Nat.le_of_eq W6.size.symm)
  refine Runs.back st6 ?_
  show Runs _ _ _ _ T6 (mkF m 50 #[.val (.int p0), .val (.int p1), .val (.int p2), .val (.int p3), .val (.int p4), .val (.int p5), .val (.int pA), .val (.int (p5.toInt8.toInt32)), .val (.ref ob1), .unset, .unset, .unset] [])
  refine Runs.back (fun t_ k_ => XS.aload X6.here hx rfl (hb hby at_50) rfl rfl k_) ?_
  show Runs _ _ _ _ T6 (mkF m 52 #[.val (.int p0), .val (.int p1), .val (.int p2), .val (.int p3), .val (.int p4), .val (.int p5), .val (.int pA), .val (.int (p5.toInt8.toInt32)), .val (.ref ob1), .unset, .unset, .unset] [(.ref ob1)])
  refine Runs.back (fun t_ k_ => XS.iconst X6.here hx rfl (hb hby at_52) k_) ?_
  show Runs _ _ _ _ T6 (mkF m 53 #[.val (.int p0), .val (.int p1), .val (.int p2), .val (.int p3), .val (.int p4), .val (.int p5), .val (.int pA), .val (.int (p5.toInt8.toInt32)), .val (.ref ob1), .unset, .unset, .unset] [(.int (5 : Int32)), (.ref ob1)])
  refine Runs.back (fun t_ k_ => XS.iload X6.here hx rfl (hb hby at_53) rfl k_) ?_
  show Runs _ _ _ _ T6 (mkF m 55 #[.val (.int p0), .val (.int p1), .val (.int p2), .val (.int p3), .val (.int p4), .val (.int p5), .val (.int pA), .val (.int (p5.toInt8.toInt32)), .val (.ref ob1), .unset, .unset, .unset] [(.int (p5.toInt8.toInt32)), (.int (5 : Int32)), (.ref ob1)])
  obtain ⟨cl7, Ar7, S7, Hs7⟩ := id f6_Arr_0
  obtain ⟨T7, h7, X7, e7, W7, st7⟩ := stB X6 hx hZ e6 Ar7 (j := (5 : Int32)) (by rw [S7]; exact (inbO (by decide : ¬ (5 : Int32) < 0) (rfl : ((5 : Int32)).toNatClampNeg = 5) (show 5 < 8 from (by first | omega | decide)))) (g := (mkF m 55 #[.val (.int p0), .val (.int p1), .val (.int p2), .val (.int p3), .val (.int p4), .val (.int p5), .val (.int pA), .val (.int (p5.toInt8.toInt32)), .val (.ref ob1), .unset, .unset, .unset] [(.int (p5.toInt8.toInt32)), (.int (5 : Int32)), (.ref ob1)])) rfl rfl (hb hby at_55)
  have N7 := Fr.snoc X7 N6 g_ob1
  rw [(rfl : ((5 : Int32)).toNatClampNeg = 5)] at W7
  have f7_Arr_0 : OArr Z h7 ob1 .byte 8 (fun i => if i = 5 then (Value.int (nar .byte (p5.toInt8.toInt32))) else (fun i => if i = 4 then (Value.int (nar .byte (p5.toInt8.toInt32))) else (fun i => if i = 3 then (Value.int (nar .byte (p5.toInt8.toInt32))) else (fun i => if i = 2 then (Value.int (nar .byte (p5.toInt8.toInt32))) else (fun i => if i = 1 then (Value.int (nar .byte (p5.toInt8.toInt32))) else (fun i => if i = 0 then (Value.int (nar .byte (p5.toInt8.toInt32))) else (fun _ => (Value.int (0 : Int32))) i) i) i) i) i) i) := f6_Arr_0.set W7
  have Z7 : n0 ≤ h7.size := Nat.le_trans (Z6) (Nat.le_of_eq W7.size.symm)
  refine Runs.back st7 ?_
  show Runs _ _ _ _ T7 (mkF m 56 #[.val (.int p0), .val (.int p1), .val (.int p2), .val (.int p3), .val (.int p4), .val (.int p5), .val (.int pA), .val (.int (p5.toInt8.toInt32)), .val (.ref ob1), .unset, .unset, .unset] [])
  refine Runs.back (fun t_ k_ => XS.aload X7.here hx rfl (hb hby at_56) rfl rfl k_) ?_
  show Runs _ _ _ _ T7 (mkF m 58 #[.val (.int p0), .val (.int p1), .val (.int p2), .val (.int p3), .val (.int p4), .val (.int p5), .val (.int pA), .val (.int (p5.toInt8.toInt32)), .val (.ref ob1), .unset, .unset, .unset] [(.ref ob1)])
  refine Runs.back (fun t_ k_ => XS.bipush X7.here hx rfl (hb hby at_58) k_) ?_
  show Runs _ _ _ _ T7 (mkF m 60 #[.val (.int p0), .val (.int p1), .val (.int p2), .val (.int p3), .val (.int p4), .val (.int p5), .val (.int pA), .val (.int (p5.toInt8.toInt32)), .val (.ref ob1), .unset, .unset, .unset] [(.int (6 : Int32)), (.ref ob1)])
  refine Runs.back (fun t_ k_ => XS.iload X7.here hx rfl (hb hby at_60) rfl k_) ?_
  show Runs _ _ _ _ T7 (mkF m 62 #[.val (.int p0), .val (.int p1), .val (.int p2), .val (.int p3), .val (.int p4), .val (.int p5), .val (.int pA), .val (.int (p5.toInt8.toInt32)), .val (.ref ob1), .unset, .unset, .unset] [(.int (p5.toInt8.toInt32)), (.int (6 : Int32)), (.ref ob1)])
  obtain ⟨cl8, Ar8, S8, Hs8⟩ := id f7_Arr_0
  obtain ⟨T8, h8, X8, e8, W8, st8⟩ := stB X7 hx hZ e7 Ar8 (j := (6 : Int32)) (by rw [S8]; exact (inbO (by decide : ¬ (6 : Int32) < 0) (rfl : ((6 : Int32)).toNatClampNeg = 6) (show 6 < 8 from (by first | omega | decide)))) (g := (mkF m 62 #[.val (.int p0), .val (.int p1), .val (.int p2), .val (.int p3), .val (.int p4), .val (.int p5), .val (.int pA), .val (.int (p5.toInt8.toInt32)), .val (.ref ob1), .unset, .unset, .unset] [(.int (p5.toInt8.toInt32)), (.int (6 : Int32)), (.ref ob1)])) rfl rfl (hb hby at_62)
  have N8 := Fr.snoc X8 N7 g_ob1
  rw [(rfl : ((6 : Int32)).toNatClampNeg = 6)] at W8
  have f8_Arr_0 : OArr Z h8 ob1 .byte 8 (fun i => if i = 6 then (Value.int (nar .byte (p5.toInt8.toInt32))) else (fun i => if i = 5 then (Value.int (nar .byte (p5.toInt8.toInt32))) else (fun i => if i = 4 then (Value.int (nar .byte (p5.toInt8.toInt32))) else (fun i => if i = 3 then (Value.int (nar .byte (p5.toInt8.toInt32))) else (fun i => if i = 2 then (Value.int (nar .byte (p5.toInt8.toInt32))) else (fun i => if i = 1 then (Value.int (nar .byte (p5.toInt8.toInt32))) else (fun i => if i = 0 then (Value.int (nar .byte (p5.toInt8.toInt32))) else (fun _ => (Value.int (0 : Int32))) i) i) i) i) i) i) i) := f7_Arr_0.set W8
  have Z8 : n0 ≤ h8.size := Nat.le_trans (Z7) (Nat.le_of_eq W8.size.symm)
  refine Runs.back st8 ?_
  show Runs _ _ _ _ T8 (mkF m 63 #[.val (.int p0), .val (.int p1), .val (.int p2), .val (.int p3), .val (.int p4), .val (.int p5), .val (.int pA), .val (.int (p5.toInt8.toInt32)), .val (.ref ob1), .unset, .unset, .unset] [])
  refine Runs.back (fun t_ k_ => XS.aload X8.here hx rfl (hb hby at_63) rfl rfl k_) ?_
  show Runs _ _ _ _ T8 (mkF m 65 #[.val (.int p0), .val (.int p1), .val (.int p2), .val (.int p3), .val (.int p4), .val (.int p5), .val (.int pA), .val (.int (p5.toInt8.toInt32)), .val (.ref ob1), .unset, .unset, .unset] [(.ref ob1)])
  refine Runs.back (fun t_ k_ => XS.bipush X8.here hx rfl (hb hby at_65) k_) ?_
  show Runs _ _ _ _ T8 (mkF m 67 #[.val (.int p0), .val (.int p1), .val (.int p2), .val (.int p3), .val (.int p4), .val (.int p5), .val (.int pA), .val (.int (p5.toInt8.toInt32)), .val (.ref ob1), .unset, .unset, .unset] [(.int (7 : Int32)), (.ref ob1)])
  refine Runs.back (fun t_ k_ => XS.iload X8.here hx rfl (hb hby at_67) rfl k_) ?_
  show Runs _ _ _ _ T8 (mkF m 69 #[.val (.int p0), .val (.int p1), .val (.int p2), .val (.int p3), .val (.int p4), .val (.int p5), .val (.int pA), .val (.int (p5.toInt8.toInt32)), .val (.ref ob1), .unset, .unset, .unset] [(.int (p5.toInt8.toInt32)), (.int (7 : Int32)), (.ref ob1)])
  obtain ⟨cl9, Ar9, S9, Hs9⟩ := id f8_Arr_0
  obtain ⟨T9, h9, X9, e9, W9, st9⟩ := stB X8 hx hZ e8 Ar9 (j := (7 : Int32)) (by rw [S9]; exact (inbO (by decide : ¬ (7 : Int32) < 0) (rfl : ((7 : Int32)).toNatClampNeg = 7) (show 7 < 8 from (by first | omega | decide)))) (g := (mkF m 69 #[.val (.int p0), .val (.int p1), .val (.int p2), .val (.int p3), .val (.int p4), .val (.int p5), .val (.int pA), .val (.int (p5.toInt8.toInt32)), .val (.ref ob1), .unset, .unset, .unset] [(.int (p5.toInt8.toInt32)), (.int (7 : Int32)), (.ref ob1)])) rfl rfl (hb hby at_69)
  have N9 := Fr.snoc X9 N8 g_ob1
  rw [(rfl : ((7 : Int32)).toNatClampNeg = 7)] at W9
  have f9_Arr_0 : OArr Z h9 ob1 .byte 8 (fun i => if i = 7 then (Value.int (nar .byte (p5.toInt8.toInt32))) else (fun i => if i = 6 then (Value.int (nar .byte (p5.toInt8.toInt32))) else (fun i => if i = 5 then (Value.int (nar .byte (p5.toInt8.toInt32))) else (fun i => if i = 4 then (Value.int (nar .byte (p5.toInt8.toInt32))) else (fun i => if i = 3 then (Value.int (nar .byte (p5.toInt8.toInt32))) else (fun i => if i = 2 then (Value.int (nar .byte (p5.toInt8.toInt32))) else (fun i => if i = 1 then (Value.int (nar .byte (p5.toInt8.toInt32))) else (fun i => if i = 0 then (Value.int (nar .byte (p5.toInt8.toInt32))) else (fun _ => (Value.int (0 : Int32))) i) i) i) i) i) i) i) i) := f8_Arr_0.set W9
  have Z9 : n0 ≤ h9.size := Nat.le_trans (Z8) (Nat.le_of_eq W9.size.symm)
  refine Runs.back st9 ?_
  show Runs _ _ _ _ T9 (mkF m 70 #[.val (.int p0), .val (.int p1), .val (.int p2), .val (.int p3), .val (.int p4), .val (.int p5), .val (.int pA), .val (.int (p5.toInt8.toInt32)), .val (.ref ob1), .unset, .unset, .unset] [])
  obtain ⟨fq, V70⟩ : ∃ fq, OArr Z h9 ob1 .byte 8 fq := ⟨_, f9_Arr_0⟩
  refine Runs.back (fun t_ k_ => XS.aload X9.here hx rfl (hb hby at_70) rfl rfl k_) ?_
  show Runs _ _ _ _ T9 (mkF m 72 #[.val (.int p0), .val (.int p1), .val (.int p2), .val (.int p3), .val (.int p4), .val (.int p5), .val (.int pA), .val (.int (p5.toInt8.toInt32)), .val (.ref ob1), .unset, .unset, .unset] [(.ref ob1)])
  refine Runs.back (fun t_ k_ => XS.iload X9.here hx rfl (hb hby at_72) rfl k_) ?_
  show Runs _ _ _ _ T9 (mkF m 74 #[.val (.int p0), .val (.int p1), .val (.int p2), .val (.int p3), .val (.int p4), .val (.int p5), .val (.int pA), .val (.int (p5.toInt8.toInt32)), .val (.ref ob1), .unset, .unset, .unset] [(.int pA), (.ref ob1)])
  refine Runs.back (fun t_ k_ => XS.iloadN X9.here hx rfl (hb hby at_74) rfl k_) ?_
  show Runs _ _ _ _ T9 (mkF m 75 #[.val (.int p0), .val (.int p1), .val (.int p2), .val (.int p3), .val (.int p4), .val (.int p5), .val (.int pA), .val (.int (p5.toInt8.toInt32)), .val (.ref ob1), .unset, .unset, .unset] [(.int p0), (.int pA), (.ref ob1)])
  refine Runs.back (fun t_ k_ => XS.i2b X9.here hx rfl (hb hby at_75) rfl k_) ?_
  show Runs _ _ _ _ T9 (mkF m 76 #[.val (.int p0), .val (.int p1), .val (.int p2), .val (.int p3), .val (.int p4), .val (.int p5), .val (.int pA), .val (.int (p5.toInt8.toInt32)), .val (.ref ob1), .unset, .unset, .unset] [(.int (p0.toInt8.toInt32)), (.int pA), (.ref ob1)])
  obtain ⟨cl10, Ar10, S10, Hs10⟩ := id V70
  obtain ⟨T10, h10, X10, e10, W10, st10⟩ := stB X9 hx hZ e9 Ar10 (j := pA) (by rw [S10]; exact (inbO hnA hkA (show kA < 8 from (by first | omega | decide)))) (g := (mkF m 76 #[.val (.int p0), .val (.int p1), .val (.int p2), .val (.int p3), .val (.int p4), .val (.int p5), .val (.int pA), .val (.int (p5.toInt8.toInt32)), .val (.ref ob1), .unset, .unset, .unset] [(.int (p0.toInt8.toInt32)), (.int pA), (.ref ob1)])) rfl rfl (hb hby at_76)
  have N10 := Fr.snoc X10 N9 g_ob1
  rw [hkA] at W10
  have f10_Arr_0 : OArr Z h10 ob1 .byte 8 (fun i => if i = kA then (Value.int (nar .byte (p0.toInt8.toInt32))) else fq i) := V70.set W10
  have Z10 : n0 ≤ h10.size := Nat.le_trans (Z9) (Nat.le_of_eq W10.size.symm)
  refine Runs.back st10 ?_
  show Runs _ _ _ _ T10 (mkF m 77 #[.val (.int p0), .val (.int p1), .val (.int p2), .val (.int p3), .val (.int p4), .val (.int p5), .val (.int pA), .val (.int (p5.toInt8.toInt32)), .val (.ref ob1), .unset, .unset, .unset] [])
  refine Runs.back (fun t_ k_ => XS.aload X10.here hx rfl (hb hby at_77) rfl rfl k_) ?_
  show Runs _ _ _ _ T10 (mkF m 79 #[.val (.int p0), .val (.int p1), .val (.int p2), .val (.int p3), .val (.int p4), .val (.int p5), .val (.int pA), .val (.int (p5.toInt8.toInt32)), .val (.ref ob1), .unset, .unset, .unset] [(.ref ob1)])
  refine Runs.back (fun t_ k_ => XS.iload X10.here hx rfl (hb hby at_79) rfl k_) ?_
  show Runs _ _ _ _ T10 (mkF m 81 #[.val (.int p0), .val (.int p1), .val (.int p2), .val (.int p3), .val (.int p4), .val (.int p5), .val (.int pA), .val (.int (p5.toInt8.toInt32)), .val (.ref ob1), .unset, .unset, .unset] [(.int pA), (.ref ob1)])
  refine Runs.back (fun t_ k_ => XS.iconst X10.here hx rfl (hb hby at_81) k_) ?_
  show Runs _ _ _ _ T10 (mkF m 82 #[.val (.int p0), .val (.int p1), .val (.int p2), .val (.int p3), .val (.int p4), .val (.int p5), .val (.int pA), .val (.int (p5.toInt8.toInt32)), .val (.ref ob1), .unset, .unset, .unset] [(.int (1 : Int32)), (.int pA), (.ref ob1)])
  refine Runs.back (fun t_ k_ => XS.iadd X10.here hx rfl (hb hby at_82) rfl k_) ?_
  show Runs _ _ _ _ T10 (mkF m 83 #[.val (.int p0), .val (.int p1), .val (.int p2), .val (.int p3), .val (.int p4), .val (.int p5), .val (.int pA), .val (.int (p5.toInt8.toInt32)), .val (.ref ob1), .unset, .unset, .unset] [(.int (pA + (1 : Int32))), (.ref ob1)])
  refine Runs.back (fun t_ k_ => XS.iloadN X10.here hx rfl (hb hby at_83) rfl k_) ?_
  show Runs _ _ _ _ T10 (mkF m 84 #[.val (.int p0), .val (.int p1), .val (.int p2), .val (.int p3), .val (.int p4), .val (.int p5), .val (.int pA), .val (.int (p5.toInt8.toInt32)), .val (.ref ob1), .unset, .unset, .unset] [(.int p1), (.int (pA + (1 : Int32))), (.ref ob1)])
  refine Runs.back (fun t_ k_ => XS.i2b X10.here hx rfl (hb hby at_84) rfl k_) ?_
  show Runs _ _ _ _ T10 (mkF m 85 #[.val (.int p0), .val (.int p1), .val (.int p2), .val (.int p3), .val (.int p4), .val (.int p5), .val (.int pA), .val (.int (p5.toInt8.toInt32)), .val (.ref ob1), .unset, .unset, .unset] [(.int (p1.toInt8.toInt32)), (.int (pA + (1 : Int32))), (.ref ob1)])
  obtain ⟨cl11, Ar11, S11, Hs11⟩ := id f10_Arr_0
  obtain ⟨T11, h11, X11, e11, W11, st11⟩ := stB X10 hx hZ e10 Ar11 (j := (pA + (1 : Int32))) (by rw [S11]; exact (inbO j1.2 j1.1 (show (kA + 1) < 8 from (by first | omega | decide)))) (g := (mkF m 85 #[.val (.int p0), .val (.int p1), .val (.int p2), .val (.int p3), .val (.int p4), .val (.int p5), .val (.int pA), .val (.int (p5.toInt8.toInt32)), .val (.ref ob1), .unset, .unset, .unset] [(.int (p1.toInt8.toInt32)), (.int (pA + (1 : Int32))), (.ref ob1)])) rfl rfl (hb hby at_85)
  have N11 := Fr.snoc X11 N10 g_ob1
  rw [j1.1] at W11
  have f11_Arr_0 : OArr Z h11 ob1 .byte 8 (fun i => if i = (kA + 1) then (Value.int (nar .byte (p1.toInt8.toInt32))) else (fun i => if i = kA then (Value.int (nar .byte (p0.toInt8.toInt32))) else fq i) i) := f10_Arr_0.set W11
  have Z11 : n0 ≤ h11.size := Nat.le_trans (Z10) (Nat.le_of_eq W11.size.symm)
  refine Runs.back st11 ?_
  show Runs _ _ _ _ T11 (mkF m 86 #[.val (.int p0), .val (.int p1), .val (.int p2), .val (.int p3), .val (.int p4), .val (.int p5), .val (.int pA), .val (.int (p5.toInt8.toInt32)), .val (.ref ob1), .unset, .unset, .unset] [])
  refine Runs.back (fun t_ k_ => XS.aload X11.here hx rfl (hb hby at_86) rfl rfl k_) ?_
  show Runs _ _ _ _ T11 (mkF m 88 #[.val (.int p0), .val (.int p1), .val (.int p2), .val (.int p3), .val (.int p4), .val (.int p5), .val (.int pA), .val (.int (p5.toInt8.toInt32)), .val (.ref ob1), .unset, .unset, .unset] [(.ref ob1)])
  refine Runs.back (fun t_ k_ => XS.iload X11.here hx rfl (hb hby at_88) rfl k_) ?_
  show Runs _ _ _ _ T11 (mkF m 90 #[.val (.int p0), .val (.int p1), .val (.int p2), .val (.int p3), .val (.int p4), .val (.int p5), .val (.int pA), .val (.int (p5.toInt8.toInt32)), .val (.ref ob1), .unset, .unset, .unset] [(.int pA), (.ref ob1)])
  refine Runs.back (fun t_ k_ => XS.iconst X11.here hx rfl (hb hby at_90) k_) ?_
  show Runs _ _ _ _ T11 (mkF m 91 #[.val (.int p0), .val (.int p1), .val (.int p2), .val (.int p3), .val (.int p4), .val (.int p5), .val (.int pA), .val (.int (p5.toInt8.toInt32)), .val (.ref ob1), .unset, .unset, .unset] [(.int (2 : Int32)), (.int pA), (.ref ob1)])
  refine Runs.back (fun t_ k_ => XS.iadd X11.here hx rfl (hb hby at_91) rfl k_) ?_
  show Runs _ _ _ _ T11 (mkF m 92 #[.val (.int p0), .val (.int p1), .val (.int p2), .val (.int p3), .val (.int p4), .val (.int p5), .val (.int pA), .val (.int (p5.toInt8.toInt32)), .val (.ref ob1), .unset, .unset, .unset] [(.int (pA + (2 : Int32))), (.ref ob1)])
  refine Runs.back (fun t_ k_ => XS.iloadN X11.here hx rfl (hb hby at_92) rfl k_) ?_
  show Runs _ _ _ _ T11 (mkF m 93 #[.val (.int p0), .val (.int p1), .val (.int p2), .val (.int p3), .val (.int p4), .val (.int p5), .val (.int pA), .val (.int (p5.toInt8.toInt32)), .val (.ref ob1), .unset, .unset, .unset] [(.int p2), (.int (pA + (2 : Int32))), (.ref ob1)])
  refine Runs.back (fun t_ k_ => XS.i2b X11.here hx rfl (hb hby at_93) rfl k_) ?_
  show Runs _ _ _ _ T11 (mkF m 94 #[.val (.int p0), .val (.int p1), .val (.int p2), .val (.int p3), .val (.int p4), .val (.int p5), .val (.int pA), .val (.int (p5.toInt8.toInt32)), .val (.ref ob1), .unset, .unset, .unset] [(.int (p2.toInt8.toInt32)), (.int (pA + (2 : Int32))), (.ref ob1)])
  obtain ⟨cl12, Ar12, S12, Hs12⟩ := id f11_Arr_0
  obtain ⟨T12, h12, X12, e12, W12, st12⟩ := stB X11 hx hZ e11 Ar12 (j := (pA + (2 : Int32))) (by rw [S12]; exact (inbO j2.2 j2.1 (show (kA + 2) < 8 from (by first | omega | decide)))) (g := (mkF m 94 #[.val (.int p0), .val (.int p1), .val (.int p2), .val (.int p3), .val (.int p4), .val (.int p5), .val (.int pA), .val (.int (p5.toInt8.toInt32)), .val (.ref ob1), .unset, .unset, .unset] [(.int (p2.toInt8.toInt32)), (.int (pA + (2 : Int32))), (.ref ob1)])) rfl rfl (hb hby at_94)
  have N12 := Fr.snoc X12 N11 g_ob1
  rw [j2.1] at W12
  have f12_Arr_0 : OArr Z h12 ob1 .byte 8 (fun i => if i = (kA + 2) then (Value.int (nar .byte (p2.toInt8.toInt32))) else (fun i => if i = (kA + 1) then (Value.int (nar .byte (p1.toInt8.toInt32))) else (fun i => if i = kA then (Value.int (nar .byte (p0.toInt8.toInt32))) else fq i) i) i) := f11_Arr_0.set W12
  have Z12 : n0 ≤ h12.size := Nat.le_trans (Z11) (Nat.le_of_eq W12.size.symm)
  refine Runs.back st12 ?_
  show Runs _ _ _ _ T12 (mkF m 95 #[.val (.int p0), .val (.int p1), .val (.int p2), .val (.int p3), .val (.int p4), .val (.int p5), .val (.int pA), .val (.int (p5.toInt8.toInt32)), .val (.ref ob1), .unset, .unset, .unset] [])
  refine Runs.back (fun t_ k_ => XS.aload X12.here hx rfl (hb hby at_95) rfl rfl k_) ?_
  show Runs _ _ _ _ T12 (mkF m 97 #[.val (.int p0), .val (.int p1), .val (.int p2), .val (.int p3), .val (.int p4), .val (.int p5), .val (.int pA), .val (.int (p5.toInt8.toInt32)), .val (.ref ob1), .unset, .unset, .unset] [(.ref ob1)])
  refine Runs.back (fun t_ k_ => XS.iload X12.here hx rfl (hb hby at_97) rfl k_) ?_
  show Runs _ _ _ _ T12 (mkF m 99 #[.val (.int p0), .val (.int p1), .val (.int p2), .val (.int p3), .val (.int p4), .val (.int p5), .val (.int pA), .val (.int (p5.toInt8.toInt32)), .val (.ref ob1), .unset, .unset, .unset] [(.int pA), (.ref ob1)])
  refine Runs.back (fun t_ k_ => XS.iconst X12.here hx rfl (hb hby at_99) k_) ?_
  show Runs _ _ _ _ T12 (mkF m 100 #[.val (.int p0), .val (.int p1), .val (.int p2), .val (.int p3), .val (.int p4), .val (.int p5), .val (.int pA), .val (.int (p5.toInt8.toInt32)), .val (.ref ob1), .unset, .unset, .unset] [(.int (3 : Int32)), (.int pA), (.ref ob1)])
  refine Runs.back (fun t_ k_ => XS.iadd X12.here hx rfl (hb hby at_100) rfl k_) ?_
  show Runs _ _ _ _ T12 (mkF m 101 #[.val (.int p0), .val (.int p1), .val (.int p2), .val (.int p3), .val (.int p4), .val (.int p5), .val (.int pA), .val (.int (p5.toInt8.toInt32)), .val (.ref ob1), .unset, .unset, .unset] [(.int (pA + (3 : Int32))), (.ref ob1)])
  refine Runs.back (fun t_ k_ => XS.iloadN X12.here hx rfl (hb hby at_101) rfl k_) ?_
  show Runs _ _ _ _ T12 (mkF m 102 #[.val (.int p0), .val (.int p1), .val (.int p2), .val (.int p3), .val (.int p4), .val (.int p5), .val (.int pA), .val (.int (p5.toInt8.toInt32)), .val (.ref ob1), .unset, .unset, .unset] [(.int p3), (.int (pA + (3 : Int32))), (.ref ob1)])
  refine Runs.back (fun t_ k_ => XS.i2b X12.here hx rfl (hb hby at_102) rfl k_) ?_
  show Runs _ _ _ _ T12 (mkF m 103 #[.val (.int p0), .val (.int p1), .val (.int p2), .val (.int p3), .val (.int p4), .val (.int p5), .val (.int pA), .val (.int (p5.toInt8.toInt32)), .val (.ref ob1), .unset, .unset, .unset] [(.int (p3.toInt8.toInt32)), (.int (pA + (3 : Int32))), (.ref ob1)])
  obtain ⟨cl13, Ar13, S13, Hs13⟩ := id f12_Arr_0
  obtain ⟨T13, h13, X13, e13, W13, st13⟩ := stB X12 hx hZ e12 Ar13 (j := (pA + (3 : Int32))) (by rw [S13]; exact (inbO j3.2 j3.1 (show (kA + 3) < 8 from (by first | omega | decide)))) (g := (mkF m 103 #[.val (.int p0), .val (.int p1), .val (.int p2), .val (.int p3), .val (.int p4), .val (.int p5), .val (.int pA), .val (.int (p5.toInt8.toInt32)), .val (.ref ob1), .unset, .unset, .unset] [(.int (p3.toInt8.toInt32)), (.int (pA + (3 : Int32))), (.ref ob1)])) rfl rfl (hb hby at_103)
  have N13 := Fr.snoc X13 N12 g_ob1
  rw [j3.1] at W13
  have f13_Arr_0 : OArr Z h13 ob1 .byte 8 (fun i => if i = (kA + 3) then (Value.int (nar .byte (p3.toInt8.toInt32))) else (fun i => if i = (kA + 2) then (Value.int (nar .byte (p2.toInt8.toInt32))) else (fun i => if i = (kA + 1) then (Value.int (nar .byte (p1.toInt8.toInt32))) else (fun i => if i = kA then (Value.int (nar .byte (p0.toInt8.toInt32))) else fq i) i) i) i) := f12_Arr_0.set W13
  have Z13 : n0 ≤ h13.size := Nat.le_trans (Z12) (Nat.le_of_eq W13.size.symm)
  refine Runs.back st13 ?_
  show Runs _ _ _ _ T13 (mkF m 104 #[.val (.int p0), .val (.int p1), .val (.int p2), .val (.int p3), .val (.int p4), .val (.int p5), .val (.int pA), .val (.int (p5.toInt8.toInt32)), .val (.ref ob1), .unset, .unset, .unset] [])
  refine Runs.back (fun t_ k_ => XS.iloadN X13.here hx rfl (hb hby at_104) rfl k_) ?_
  show Runs _ _ _ _ T13 (mkF m 105 #[.val (.int p0), .val (.int p1), .val (.int p2), .val (.int p3), .val (.int p4), .val (.int p5), .val (.int pA), .val (.int (p5.toInt8.toInt32)), .val (.ref ob1), .unset, .unset, .unset] [(.int p0)])
  refine Runs.back (fun t_ k_ => XS.sipush X13.here hx rfl (hb hby at_105) k_) ?_
  show Runs _ _ _ _ T13 (mkF m 108 #[.val (.int p0), .val (.int p1), .val (.int p2), .val (.int p3), .val (.int p4), .val (.int p5), .val (.int pA), .val (.int (p5.toInt8.toInt32)), .val (.ref ob1), .unset, .unset, .unset] [(.int (255 : Int32)), (.int p0)])
  refine Runs.back (fun t_ k_ => XS.iand X13.here hx rfl (hb hby at_108) rfl k_) ?_
  show Runs _ _ _ _ T13 (mkF m 109 #[.val (.int p0), .val (.int p1), .val (.int p2), .val (.int p3), .val (.int p4), .val (.int p5), .val (.int pA), .val (.int (p5.toInt8.toInt32)), .val (.ref ob1), .unset, .unset, .unset] [(.int (p0 &&& (255 : Int32)))])
  refine Runs.back (fun t_ k_ => XS.i2l X13.here hx rfl (hb hby at_109) rfl k_) ?_
  show Runs _ _ _ _ T13 (mkF m 110 #[.val (.int p0), .val (.int p1), .val (.int p2), .val (.int p3), .val (.int p4), .val (.int p5), .val (.int pA), .val (.int (p5.toInt8.toInt32)), .val (.ref ob1), .unset, .unset, .unset] [(.long ((p0 &&& (255 : Int32)).toInt64))])
  refine Runs.back (X13.ldc2Long hx hown (mvT hZ (hw _ (List.mem_of_getElem? (i := 2) rfl))) (g := (mkF m 110 #[.val (.int p0), .val (.int p1), .val (.int p2), .val (.int p3), .val (.int p4), .val (.int p5), .val (.int pA), .val (.int (p5.toInt8.toInt32)), .val (.ref ob1), .unset, .unset, .unset] [(.long ((p0 &&& (255 : Int32)).toInt64))])) rfl (hb hby at_110)) ?_
  show Runs _ _ _ _ T13 (mkF m 113 #[.val (.int p0), .val (.int p1), .val (.int p2), .val (.int p3), .val (.int p4), .val (.int p5), .val (.int pA), .val (.int (p5.toInt8.toInt32)), .val (.ref ob1), .unset, .unset, .unset] [(.long (16777216 : Int64)), (.long ((p0 &&& (255 : Int32)).toInt64))])
  refine Runs.back (fun t_ k_ => XS.lmul X13.here hx rfl (hb hby at_113) rfl k_) ?_
  show Runs _ _ _ _ T13 (mkF m 114 #[.val (.int p0), .val (.int p1), .val (.int p2), .val (.int p3), .val (.int p4), .val (.int p5), .val (.int pA), .val (.int (p5.toInt8.toInt32)), .val (.ref ob1), .unset, .unset, .unset] [(.long (((p0 &&& (255 : Int32)).toInt64) * (16777216 : Int64)))])
  refine Runs.back (fun t_ k_ => XS.iloadN X13.here hx rfl (hb hby at_114) rfl k_) ?_
  show Runs _ _ _ _ T13 (mkF m 115 #[.val (.int p0), .val (.int p1), .val (.int p2), .val (.int p3), .val (.int p4), .val (.int p5), .val (.int pA), .val (.int (p5.toInt8.toInt32)), .val (.ref ob1), .unset, .unset, .unset] [(.int p1), (.long (((p0 &&& (255 : Int32)).toInt64) * (16777216 : Int64)))])
  refine Runs.back (fun t_ k_ => XS.sipush X13.here hx rfl (hb hby at_115) k_) ?_
  show Runs _ _ _ _ T13 (mkF m 118 #[.val (.int p0), .val (.int p1), .val (.int p2), .val (.int p3), .val (.int p4), .val (.int p5), .val (.int pA), .val (.int (p5.toInt8.toInt32)), .val (.ref ob1), .unset, .unset, .unset] [(.int (255 : Int32)), (.int p1), (.long (((p0 &&& (255 : Int32)).toInt64) * (16777216 : Int64)))])
  refine Runs.back (fun t_ k_ => XS.iand X13.here hx rfl (hb hby at_118) rfl k_) ?_
  show Runs _ _ _ _ T13 (mkF m 119 #[.val (.int p0), .val (.int p1), .val (.int p2), .val (.int p3), .val (.int p4), .val (.int p5), .val (.int pA), .val (.int (p5.toInt8.toInt32)), .val (.ref ob1), .unset, .unset, .unset] [(.int (p1 &&& (255 : Int32))), (.long (((p0 &&& (255 : Int32)).toInt64) * (16777216 : Int64)))])
  refine Runs.back (fun t_ k_ => XS.i2l X13.here hx rfl (hb hby at_119) rfl k_) ?_
  show Runs _ _ _ _ T13 (mkF m 120 #[.val (.int p0), .val (.int p1), .val (.int p2), .val (.int p3), .val (.int p4), .val (.int p5), .val (.int pA), .val (.int (p5.toInt8.toInt32)), .val (.ref ob1), .unset, .unset, .unset] [(.long ((p1 &&& (255 : Int32)).toInt64)), (.long (((p0 &&& (255 : Int32)).toInt64) * (16777216 : Int64)))])
  refine Runs.back (X13.ldc2Long hx hown (mvT hZ (hw _ (List.mem_of_getElem? (i := 3) rfl))) (g := (mkF m 120 #[.val (.int p0), .val (.int p1), .val (.int p2), .val (.int p3), .val (.int p4), .val (.int p5), .val (.int pA), .val (.int (p5.toInt8.toInt32)), .val (.ref ob1), .unset, .unset, .unset] [(.long ((p1 &&& (255 : Int32)).toInt64)), (.long (((p0 &&& (255 : Int32)).toInt64) * (16777216 : Int64)))])) rfl (hb hby at_120)) ?_
  show Runs _ _ _ _ T13 (mkF m 123 #[.val (.int p0), .val (.int p1), .val (.int p2), .val (.int p3), .val (.int p4), .val (.int p5), .val (.int pA), .val (.int (p5.toInt8.toInt32)), .val (.ref ob1), .unset, .unset, .unset] [(.long (65536 : Int64)), (.long ((p1 &&& (255 : Int32)).toInt64)), (.long (((p0 &&& (255 : Int32)).toInt64) * (16777216 : Int64)))])
  refine Runs.back (fun t_ k_ => XS.lmul X13.here hx rfl (hb hby at_123) rfl k_) ?_
  show Runs _ _ _ _ T13 (mkF m 124 #[.val (.int p0), .val (.int p1), .val (.int p2), .val (.int p3), .val (.int p4), .val (.int p5), .val (.int pA), .val (.int (p5.toInt8.toInt32)), .val (.ref ob1), .unset, .unset, .unset] [(.long (((p1 &&& (255 : Int32)).toInt64) * (65536 : Int64))), (.long (((p0 &&& (255 : Int32)).toInt64) * (16777216 : Int64)))])
  refine Runs.back (fun t_ k_ => XS.ladd X13.here hx rfl (hb hby at_124) rfl k_) ?_
  show Runs _ _ _ _ T13 (mkF m 125 #[.val (.int p0), .val (.int p1), .val (.int p2), .val (.int p3), .val (.int p4), .val (.int p5), .val (.int pA), .val (.int (p5.toInt8.toInt32)), .val (.ref ob1), .unset, .unset, .unset] [(.long ((((p0 &&& (255 : Int32)).toInt64) * (16777216 : Int64)) + (((p1 &&& (255 : Int32)).toInt64) * (65536 : Int64))))])
  refine Runs.back (fun t_ k_ => XS.iloadN X13.here hx rfl (hb hby at_125) rfl k_) ?_
  show Runs _ _ _ _ T13 (mkF m 126 #[.val (.int p0), .val (.int p1), .val (.int p2), .val (.int p3), .val (.int p4), .val (.int p5), .val (.int pA), .val (.int (p5.toInt8.toInt32)), .val (.ref ob1), .unset, .unset, .unset] [(.int p2), (.long ((((p0 &&& (255 : Int32)).toInt64) * (16777216 : Int64)) + (((p1 &&& (255 : Int32)).toInt64) * (65536 : Int64))))])
  refine Runs.back (fun t_ k_ => XS.sipush X13.here hx rfl (hb hby at_126) k_) ?_
  show Runs _ _ _ _ T13 (mkF m 129 #[.val (.int p0), .val (.int p1), .val (.int p2), .val (.int p3), .val (.int p4), .val (.int p5), .val (.int pA), .val (.int (p5.toInt8.toInt32)), .val (.ref ob1), .unset, .unset, .unset] [(.int (255 : Int32)), (.int p2), (.long ((((p0 &&& (255 : Int32)).toInt64) * (16777216 : Int64)) + (((p1 &&& (255 : Int32)).toInt64) * (65536 : Int64))))])
  refine Runs.back (fun t_ k_ => XS.iand X13.here hx rfl (hb hby at_129) rfl k_) ?_
  show Runs _ _ _ _ T13 (mkF m 130 #[.val (.int p0), .val (.int p1), .val (.int p2), .val (.int p3), .val (.int p4), .val (.int p5), .val (.int pA), .val (.int (p5.toInt8.toInt32)), .val (.ref ob1), .unset, .unset, .unset] [(.int (p2 &&& (255 : Int32))), (.long ((((p0 &&& (255 : Int32)).toInt64) * (16777216 : Int64)) + (((p1 &&& (255 : Int32)).toInt64) * (65536 : Int64))))])
  refine Runs.back (fun t_ k_ => XS.i2l X13.here hx rfl (hb hby at_130) rfl k_) ?_
  show Runs _ _ _ _ T13 (mkF m 131 #[.val (.int p0), .val (.int p1), .val (.int p2), .val (.int p3), .val (.int p4), .val (.int p5), .val (.int pA), .val (.int (p5.toInt8.toInt32)), .val (.ref ob1), .unset, .unset, .unset] [(.long ((p2 &&& (255 : Int32)).toInt64)), (.long ((((p0 &&& (255 : Int32)).toInt64) * (16777216 : Int64)) + (((p1 &&& (255 : Int32)).toInt64) * (65536 : Int64))))])
  refine Runs.back (X13.ldc2Long hx hown (mvT hZ (hw _ (List.mem_of_getElem? (i := 4) rfl))) (g := (mkF m 131 #[.val (.int p0), .val (.int p1), .val (.int p2), .val (.int p3), .val (.int p4), .val (.int p5), .val (.int pA), .val (.int (p5.toInt8.toInt32)), .val (.ref ob1), .unset, .unset, .unset] [(.long ((p2 &&& (255 : Int32)).toInt64)), (.long ((((p0 &&& (255 : Int32)).toInt64) * (16777216 : Int64)) + (((p1 &&& (255 : Int32)).toInt64) * (65536 : Int64))))])) rfl (hb hby at_131)) ?_
  show Runs _ _ _ _ T13 (mkF m 134 #[.val (.int p0), .val (.int p1), .val (.int p2), .val (.int p3), .val (.int p4), .val (.int p5), .val (.int pA), .val (.int (p5.toInt8.toInt32)), .val (.ref ob1), .unset, .unset, .unset] [(.long (256 : Int64)), (.long ((p2 &&& (255 : Int32)).toInt64)), (.long ((((p0 &&& (255 : Int32)).toInt64) * (16777216 : Int64)) + (((p1 &&& (255 : Int32)).toInt64) * (65536 : Int64))))])
  refine Runs.back (fun t_ k_ => XS.lmul X13.here hx rfl (hb hby at_134) rfl k_) ?_
  show Runs _ _ _ _ T13 (mkF m 135 #[.val (.int p0), .val (.int p1), .val (.int p2), .val (.int p3), .val (.int p4), .val (.int p5), .val (.int pA), .val (.int (p5.toInt8.toInt32)), .val (.ref ob1), .unset, .unset, .unset] [(.long (((p2 &&& (255 : Int32)).toInt64) * (256 : Int64))), (.long ((((p0 &&& (255 : Int32)).toInt64) * (16777216 : Int64)) + (((p1 &&& (255 : Int32)).toInt64) * (65536 : Int64))))])
  refine Runs.back (fun t_ k_ => XS.ladd X13.here hx rfl (hb hby at_135) rfl k_) ?_
  show Runs _ _ _ _ T13 (mkF m 136 #[.val (.int p0), .val (.int p1), .val (.int p2), .val (.int p3), .val (.int p4), .val (.int p5), .val (.int pA), .val (.int (p5.toInt8.toInt32)), .val (.ref ob1), .unset, .unset, .unset] [(.long (((((p0 &&& (255 : Int32)).toInt64) * (16777216 : Int64)) + (((p1 &&& (255 : Int32)).toInt64) * (65536 : Int64))) + (((p2 &&& (255 : Int32)).toInt64) * (256 : Int64))))])
  refine Runs.back (fun t_ k_ => XS.iloadN X13.here hx rfl (hb hby at_136) rfl k_) ?_
  show Runs _ _ _ _ T13 (mkF m 137 #[.val (.int p0), .val (.int p1), .val (.int p2), .val (.int p3), .val (.int p4), .val (.int p5), .val (.int pA), .val (.int (p5.toInt8.toInt32)), .val (.ref ob1), .unset, .unset, .unset] [(.int p3), (.long (((((p0 &&& (255 : Int32)).toInt64) * (16777216 : Int64)) + (((p1 &&& (255 : Int32)).toInt64) * (65536 : Int64))) + (((p2 &&& (255 : Int32)).toInt64) * (256 : Int64))))])
  refine Runs.back (fun t_ k_ => XS.sipush X13.here hx rfl (hb hby at_137) k_) ?_
  show Runs _ _ _ _ T13 (mkF m 140 #[.val (.int p0), .val (.int p1), .val (.int p2), .val (.int p3), .val (.int p4), .val (.int p5), .val (.int pA), .val (.int (p5.toInt8.toInt32)), .val (.ref ob1), .unset, .unset, .unset] [(.int (255 : Int32)), (.int p3), (.long (((((p0 &&& (255 : Int32)).toInt64) * (16777216 : Int64)) + (((p1 &&& (255 : Int32)).toInt64) * (65536 : Int64))) + (((p2 &&& (255 : Int32)).toInt64) * (256 : Int64))))])
  refine Runs.back (fun t_ k_ => XS.iand X13.here hx rfl (hb hby at_140) rfl k_) ?_
  show Runs _ _ _ _ T13 (mkF m 141 #[.val (.int p0), .val (.int p1), .val (.int p2), .val (.int p3), .val (.int p4), .val (.int p5), .val (.int pA), .val (.int (p5.toInt8.toInt32)), .val (.ref ob1), .unset, .unset, .unset] [(.int (p3 &&& (255 : Int32))), (.long (((((p0 &&& (255 : Int32)).toInt64) * (16777216 : Int64)) + (((p1 &&& (255 : Int32)).toInt64) * (65536 : Int64))) + (((p2 &&& (255 : Int32)).toInt64) * (256 : Int64))))])
  refine Runs.back (fun t_ k_ => XS.i2l X13.here hx rfl (hb hby at_141) rfl k_) ?_
  show Runs _ _ _ _ T13 (mkF m 142 #[.val (.int p0), .val (.int p1), .val (.int p2), .val (.int p3), .val (.int p4), .val (.int p5), .val (.int pA), .val (.int (p5.toInt8.toInt32)), .val (.ref ob1), .unset, .unset, .unset] [(.long ((p3 &&& (255 : Int32)).toInt64)), (.long (((((p0 &&& (255 : Int32)).toInt64) * (16777216 : Int64)) + (((p1 &&& (255 : Int32)).toInt64) * (65536 : Int64))) + (((p2 &&& (255 : Int32)).toInt64) * (256 : Int64))))])
  refine Runs.back (fun t_ k_ => XS.ladd X13.here hx rfl (hb hby at_142) rfl k_) ?_
  show Runs _ _ _ _ T13 (mkF m 143 #[.val (.int p0), .val (.int p1), .val (.int p2), .val (.int p3), .val (.int p4), .val (.int p5), .val (.int pA), .val (.int (p5.toInt8.toInt32)), .val (.ref ob1), .unset, .unset, .unset] [(.long ((((((p0 &&& (255 : Int32)).toInt64) * (16777216 : Int64)) + (((p1 &&& (255 : Int32)).toInt64) * (65536 : Int64))) + (((p2 &&& (255 : Int32)).toInt64) * (256 : Int64))) + ((p3 &&& (255 : Int32)).toInt64)))])
  refine Runs.back (fun t_ k_ => XS.lstore X13.here hx rfl (hb hby at_143) rfl (l' := #[.val (.int p0), .val (.int p1), .val (.int p2), .val (.int p3), .val (.int p4), .val (.int p5), .val (.int pA), .val (.int (p5.toInt8.toInt32)), .val (.ref ob1), .val (.long ((((((p0 &&& (255 : Int32)).toInt64) * (16777216 : Int64)) + (((p1 &&& (255 : Int32)).toInt64) * (65536 : Int64))) + (((p2 &&& (255 : Int32)).toInt64) * (256 : Int64))) + ((p3 &&& (255 : Int32)).toInt64))), .second, .unset]) rfl k_) ?_
  show Runs _ _ _ _ T13 (mkF m 145 #[.val (.int p0), .val (.int p1), .val (.int p2), .val (.int p3), .val (.int p4), .val (.int p5), .val (.int pA), .val (.int (p5.toInt8.toInt32)), .val (.ref ob1), .val (.long ((((((p0 &&& (255 : Int32)).toInt64) * (16777216 : Int64)) + (((p1 &&& (255 : Int32)).toInt64) * (65536 : Int64))) + (((p2 &&& (255 : Int32)).toInt64) * (256 : Int64))) + ((p3 &&& (255 : Int32)).toInt64))), .second, .unset] [])
  refine Runs.back (fun t_ k_ => XS.lload X13.here hx rfl (hb hby at_145) rfl k_) ?_
  show Runs _ _ _ _ T13 (mkF m 147 #[.val (.int p0), .val (.int p1), .val (.int p2), .val (.int p3), .val (.int p4), .val (.int p5), .val (.int pA), .val (.int (p5.toInt8.toInt32)), .val (.ref ob1), .val (.long ((((((p0 &&& (255 : Int32)).toInt64) * (16777216 : Int64)) + (((p1 &&& (255 : Int32)).toInt64) * (65536 : Int64))) + (((p2 &&& (255 : Int32)).toInt64) * (256 : Int64))) + ((p3 &&& (255 : Int32)).toInt64))), .second, .unset] [(.long ((((((p0 &&& (255 : Int32)).toInt64) * (16777216 : Int64)) + (((p1 &&& (255 : Int32)).toInt64) * (65536 : Int64))) + (((p2 &&& (255 : Int32)).toInt64) * (256 : Int64))) + ((p3 &&& (255 : Int32)).toInt64)))])
  refine Runs.back (fun t_ k_ => XS.l2i X13.here hx rfl (hb hby at_147) rfl k_) ?_
  show Runs _ _ _ _ T13 (mkF m 148 #[.val (.int p0), .val (.int p1), .val (.int p2), .val (.int p3), .val (.int p4), .val (.int p5), .val (.int pA), .val (.int (p5.toInt8.toInt32)), .val (.ref ob1), .val (.long ((((((p0 &&& (255 : Int32)).toInt64) * (16777216 : Int64)) + (((p1 &&& (255 : Int32)).toInt64) * (65536 : Int64))) + (((p2 &&& (255 : Int32)).toInt64) * (256 : Int64))) + ((p3 &&& (255 : Int32)).toInt64))), .second, .unset] [(.int (((((((p0 &&& (255 : Int32)).toInt64) * (16777216 : Int64)) + (((p1 &&& (255 : Int32)).toInt64) * (65536 : Int64))) + (((p2 &&& (255 : Int32)).toInt64) * (256 : Int64))) + ((p3 &&& (255 : Int32)).toInt64)).toInt32))])
  refine Runs.back (fun t_ k_ => XS.istore X13.here hx rfl (hb hby at_148) rfl (l' := #[.val (.int p0), .val (.int p1), .val (.int p2), .val (.int p3), .val (.int p4), .val (.int p5), .val (.int pA), .val (.int (p5.toInt8.toInt32)), .val (.ref ob1), .val (.long ((((((p0 &&& (255 : Int32)).toInt64) * (16777216 : Int64)) + (((p1 &&& (255 : Int32)).toInt64) * (65536 : Int64))) + (((p2 &&& (255 : Int32)).toInt64) * (256 : Int64))) + ((p3 &&& (255 : Int32)).toInt64))), .second, .val (.int (((((((p0 &&& (255 : Int32)).toInt64) * (16777216 : Int64)) + (((p1 &&& (255 : Int32)).toInt64) * (65536 : Int64))) + (((p2 &&& (255 : Int32)).toInt64) * (256 : Int64))) + ((p3 &&& (255 : Int32)).toInt64)).toInt32))]) rfl k_) ?_
  show Runs _ _ _ _ T13 (mkF m 150 #[.val (.int p0), .val (.int p1), .val (.int p2), .val (.int p3), .val (.int p4), .val (.int p5), .val (.int pA), .val (.int (p5.toInt8.toInt32)), .val (.ref ob1), .val (.long ((((((p0 &&& (255 : Int32)).toInt64) * (16777216 : Int64)) + (((p1 &&& (255 : Int32)).toInt64) * (65536 : Int64))) + (((p2 &&& (255 : Int32)).toInt64) * (256 : Int64))) + ((p3 &&& (255 : Int32)).toInt64))), .second, .val (.int (((((((p0 &&& (255 : Int32)).toInt64) * (16777216 : Int64)) + (((p1 &&& (255 : Int32)).toInt64) * (65536 : Int64))) + (((p2 &&& (255 : Int32)).toInt64) * (256 : Int64))) + ((p3 &&& (255 : Int32)).toInt64)).toInt32))] [])
  refine Runs.back (fun t_ k_ => XS.aload X13.here hx rfl (hb hby at_150) rfl rfl k_) ?_
  show Runs _ _ _ _ T13 (mkF m 152 #[.val (.int p0), .val (.int p1), .val (.int p2), .val (.int p3), .val (.int p4), .val (.int p5), .val (.int pA), .val (.int (p5.toInt8.toInt32)), .val (.ref ob1), .val (.long ((((((p0 &&& (255 : Int32)).toInt64) * (16777216 : Int64)) + (((p1 &&& (255 : Int32)).toInt64) * (65536 : Int64))) + (((p2 &&& (255 : Int32)).toInt64) * (256 : Int64))) + ((p3 &&& (255 : Int32)).toInt64))), .second, .val (.int (((((((p0 &&& (255 : Int32)).toInt64) * (16777216 : Int64)) + (((p1 &&& (255 : Int32)).toInt64) * (65536 : Int64))) + (((p2 &&& (255 : Int32)).toInt64) * (256 : Int64))) + ((p3 &&& (255 : Int32)).toInt64)).toInt32))] [(.ref ob1)])
  refine Runs.back (fun t_ k_ => XS.iload X13.here hx rfl (hb hby at_152) rfl k_) ?_
  show Runs _ _ _ _ T13 (mkF m 154 #[.val (.int p0), .val (.int p1), .val (.int p2), .val (.int p3), .val (.int p4), .val (.int p5), .val (.int pA), .val (.int (p5.toInt8.toInt32)), .val (.ref ob1), .val (.long ((((((p0 &&& (255 : Int32)).toInt64) * (16777216 : Int64)) + (((p1 &&& (255 : Int32)).toInt64) * (65536 : Int64))) + (((p2 &&& (255 : Int32)).toInt64) * (256 : Int64))) + ((p3 &&& (255 : Int32)).toInt64))), .second, .val (.int (((((((p0 &&& (255 : Int32)).toInt64) * (16777216 : Int64)) + (((p1 &&& (255 : Int32)).toInt64) * (65536 : Int64))) + (((p2 &&& (255 : Int32)).toInt64) * (256 : Int64))) + ((p3 &&& (255 : Int32)).toInt64)).toInt32))] [(.int pA), (.ref ob1)])
  obtain ⟨_, _, ⟨T14, L14, k14, n14⟩, -, X14, ⟨Lc14, hQ14, l14, y14, z14⟩, st14⟩ := Jvm.LawKit.callS X13 hx (y := (⟨"com/example/ubique/ubique/Frame", "intAt", "([BI)I"⟩ : MethodName)) hown (mvT hZ (hw _ (List.mem_of_getElem? (i := 5) rfl))) (mvT hZ (hw _ (List.mem_of_getElem? (i := 6) rfl))) (mvT hZ (hw _ (List.mem_of_getElem? (i := 7) rfl))) (mvT hZ (hw _ (List.mem_of_getElem? (i := 8) rfl))) (by decide) (backOf (W := 0) (rm1 l Z a0 hw [] ob1 pA _ kA (nar .byte (p0.toInt8.toInt32)) (nar .byte (p1.toInt8.toInt32)) (nar .byte (p2.toInt8.toInt32)) (nar .byte (p3.toInt8.toInt32)) h13 n0 (Z13) f13_Arr_0 hkA hnA (by omega) (by simp) (by simp) (by simp) (by simp)) hZ (hw _ (List.mem_of_getElem? (i := 8) rfl)) (hw _ (List.mem_of_getElem? (i := 7) rfl)) (by decide) (by decide)) (g := (mkF m 154 #[.val (.int p0), .val (.int p1), .val (.int p2), .val (.int p3), .val (.int p4), .val (.int p5), .val (.int pA), .val (.int (p5.toInt8.toInt32)), .val (.ref ob1), .val (.long ((((((p0 &&& (255 : Int32)).toInt64) * (16777216 : Int64)) + (((p1 &&& (255 : Int32)).toInt64) * (65536 : Int64))) + (((p2 &&& (255 : Int32)).toInt64) * (256 : Int64))) + ((p3 &&& (255 : Int32)).toInt64))), .second, .val (.int (((((((p0 &&& (255 : Int32)).toInt64) * (16777216 : Int64)) + (((p1 &&& (255 : Int32)).toInt64) * (65536 : Int64))) + (((p2 &&& (255 : Int32)).toInt64) * (256 : Int64))) + ((p3 &&& (255 : Int32)).toInt64)).toInt32))] [(.int pA), (.ref ob1)])) rfl (by rw [hml]; rfl) (argsL := [(.ref ob1), (.int pA)]) (rest := []) (lenOf pd0_0 rfl) rfl (by show 2 * 0 + _ ≤ _; exact Nat.le_of_eq rfl) (hb hby at_154) (fun _ _ => ⟨rfl, e13, (by decide : 1 + 0 ≤ _), (by decide : 8 + 0 ≤ _)⟩)
  dsimp only [Pt.U, Pt.locs, Pt.cells, Pt.slots] at X14 l14 y14 z14 st14 hQ14
  subst l14 y14 z14
  obtain ⟨rfl, N14q, eq14⟩ := hQ14
  have N14 := Fr.app N13 N14q
  refine Runs.back st14 ?_
  show Runs _ _ _ _ T14 (mkF m 157 #[.val (.int p0), .val (.int p1), .val (.int p2), .val (.int p3), .val (.int p4), .val (.int p5), .val (.int pA), .val (.int (p5.toInt8.toInt32)), .val (.ref ob1), .val (.long ((((((p0 &&& (255 : Int32)).toInt64) * (16777216 : Int64)) + (((p1 &&& (255 : Int32)).toInt64) * (65536 : Int64))) + (((p2 &&& (255 : Int32)).toInt64) * (256 : Int64))) + ((p3 &&& (255 : Int32)).toInt64))), .second, .val (.int (((((((p0 &&& (255 : Int32)).toInt64) * (16777216 : Int64)) + (((p1 &&& (255 : Int32)).toInt64) * (65536 : Int64))) + (((p2 &&& (255 : Int32)).toInt64) * (256 : Int64))) + ((p3 &&& (255 : Int32)).toInt64)).toInt32))] [(.int (intF (nar .byte (p0.toInt8.toInt32)) (nar .byte (p1.toInt8.toInt32)) (nar .byte (p2.toInt8.toInt32)) (nar .byte (p3.toInt8.toInt32))))])
  refine Runs.back (fun t_ k_ => XS.iload X14.here hx rfl (hb hby at_157) rfl k_) ?_
  show Runs _ _ _ _ T14 (mkF m 159 #[.val (.int p0), .val (.int p1), .val (.int p2), .val (.int p3), .val (.int p4), .val (.int p5), .val (.int pA), .val (.int (p5.toInt8.toInt32)), .val (.ref ob1), .val (.long ((((((p0 &&& (255 : Int32)).toInt64) * (16777216 : Int64)) + (((p1 &&& (255 : Int32)).toInt64) * (65536 : Int64))) + (((p2 &&& (255 : Int32)).toInt64) * (256 : Int64))) + ((p3 &&& (255 : Int32)).toInt64))), .second, .val (.int (((((((p0 &&& (255 : Int32)).toInt64) * (16777216 : Int64)) + (((p1 &&& (255 : Int32)).toInt64) * (65536 : Int64))) + (((p2 &&& (255 : Int32)).toInt64) * (256 : Int64))) + ((p3 &&& (255 : Int32)).toInt64)).toInt32))] [(.int (((((((p0 &&& (255 : Int32)).toInt64) * (16777216 : Int64)) + (((p1 &&& (255 : Int32)).toInt64) * (65536 : Int64))) + (((p2 &&& (255 : Int32)).toInt64) * (256 : Int64))) + ((p3 &&& (255 : Int32)).toInt64)).toInt32)), (.int (intF (nar .byte (p0.toInt8.toInt32)) (nar .byte (p1.toInt8.toInt32)) (nar .byte (p2.toInt8.toInt32)) (nar .byte (p3.toInt8.toInt32))))])
  refine Runs.back (fun t_ k_ => XS.icmpNo X14.here hx rfl (hb hby at_159) rfl (teq (show (intF (nar .byte (p0.toInt8.toInt32)) (nar .byte (p1.toInt8.toInt32)) (nar .byte (p2.toInt8.toInt32)) (nar .byte (p3.toInt8.toInt32))) = (((((((p0 &&& (255 : Int32)).toInt64) * (16777216 : Int64)) + (((p1 &&& (255 : Int32)).toInt64) * (65536 : Int64))) + (((p2 &&& (255 : Int32)).toInt64) * (256 : Int64))) + ((p3 &&& (255 : Int32)).toInt64)).toInt32) from (int_law p0 p1 p2 p3))).2 k_) ?_
  show Runs _ _ _ _ T14 (mkF m 162 #[.val (.int p0), .val (.int p1), .val (.int p2), .val (.int p3), .val (.int p4), .val (.int p5), .val (.int pA), .val (.int (p5.toInt8.toInt32)), .val (.ref ob1), .val (.long ((((((p0 &&& (255 : Int32)).toInt64) * (16777216 : Int64)) + (((p1 &&& (255 : Int32)).toInt64) * (65536 : Int64))) + (((p2 &&& (255 : Int32)).toInt64) * (256 : Int64))) + ((p3 &&& (255 : Int32)).toInt64))), .second, .val (.int (((((((p0 &&& (255 : Int32)).toInt64) * (16777216 : Int64)) + (((p1 &&& (255 : Int32)).toInt64) * (65536 : Int64))) + (((p2 &&& (255 : Int32)).toInt64) * (256 : Int64))) + ((p3 &&& (255 : Int32)).toInt64)).toInt32))] [])
  refine Runs.back (fun t_ k_ => XS.iconst X14.here hx rfl (hb hby at_162) k_) ?_
  show Runs _ _ _ _ T14 (mkF m 163 #[.val (.int p0), .val (.int p1), .val (.int p2), .val (.int p3), .val (.int p4), .val (.int p5), .val (.int pA), .val (.int (p5.toInt8.toInt32)), .val (.ref ob1), .val (.long ((((((p0 &&& (255 : Int32)).toInt64) * (16777216 : Int64)) + (((p1 &&& (255 : Int32)).toInt64) * (65536 : Int64))) + (((p2 &&& (255 : Int32)).toInt64) * (256 : Int64))) + ((p3 &&& (255 : Int32)).toInt64))), .second, .val (.int (((((((p0 &&& (255 : Int32)).toInt64) * (16777216 : Int64)) + (((p1 &&& (255 : Int32)).toInt64) * (65536 : Int64))) + (((p2 &&& (255 : Int32)).toInt64) * (256 : Int64))) + ((p3 &&& (255 : Int32)).toInt64)).toInt32))] [(.int (1 : Int32))])
  refine Runs.back (fun t_ k_ => XS.goto X14.here hx rfl (pc0 := 163) (pc' := 167) rfl (hb hby at_163) (by decide) (by decide) k_) ?_
  show Runs _ _ _ _ T14 (mkF m 167 #[.val (.int p0), .val (.int p1), .val (.int p2), .val (.int p3), .val (.int p4), .val (.int p5), .val (.int pA), .val (.int (p5.toInt8.toInt32)), .val (.ref ob1), .val (.long ((((((p0 &&& (255 : Int32)).toInt64) * (16777216 : Int64)) + (((p1 &&& (255 : Int32)).toInt64) * (65536 : Int64))) + (((p2 &&& (255 : Int32)).toInt64) * (256 : Int64))) + ((p3 &&& (255 : Int32)).toInt64))), .second, .val (.int (((((((p0 &&& (255 : Int32)).toInt64) * (16777216 : Int64)) + (((p1 &&& (255 : Int32)).toInt64) * (65536 : Int64))) + (((p2 &&& (255 : Int32)).toInt64) * (256 : Int64))) + ((p3 &&& (255 : Int32)).toInt64)).toInt32))] [(.int (1 : Int32))])
  obtain ⟨fs, hr, hrun, hended, hW, hsame⟩ := X14.leave (v := some (.int (1 : Int32))) (fun h => by rw [Bd.returns] at h; cases h)
  exact ⟨_, _, (retN X14 hx (t := .boolean) Bd.returns (by simp) (hb hby at_167) hr), hrun, hended, _, _, rfl, ⟨rfl, N14⟩, ⟨_, rfl⟩, hW, hsame.mono (by decide) (by decide)⟩
set_option maxRecDepth 65536 in
set_option maxHeartbeats 40000000 in
theorem comes_1 {Post : Tables → Env → Array Value → State → Outcome → State → Prop} (hpost : ∀ tb e args s v u, (limb_1_1.after args s (.returned v) u = true ∧ limb_1_2.after args s (.returned v) u = true ∧ True) → FrameEnd s (.returned v) u (Jvm.fieldLocs frame_1_writes args s ++ Jvm.arrayLocs frame_1_arrays args s ++ Jvm.staticLocs frame_1_statics s) 16 128 → Post tb e args s (.returned v) u) :
    ArmFor flags0 classFile x code maxLocals ret World_1 tables_1 room_1 Calls_1 rest_1 Pre_1 Post := by
  intro l hfl _ _ p e ha hc hk s m args below hf hA hF happ hP
  obtain ⟨hcalls, hrest, hpre⟩ := hP
  obtain ⟨-, -, -, hnamed, -, -, -, hat⟩ := (Spec.applies_iff hf).mp happ
  obtain ⟨hg, hn⟩ := and_e (Cond.before_iff.mp (show (Jvm.Cond.and given_1 narrow_1).before args s = true from hpre))
  obtain ⟨g0, gr0⟩ := and_e hg
  obtain ⟨g1, gr1⟩ := and_e gr0
  obtain ⟨g2, gr2⟩ := and_e gr1
  obtain ⟨g3, gr3⟩ := and_e gr2
  obtain ⟨g4, gr4⟩ := and_e gr3
  obtain ⟨g5, gr5⟩ := and_e gr4
  obtain ⟨w0, w1, w2, w3, w4, w5, rfl⟩ : ∃ w0 w1 w2 w3 w4 w5 : Value, args = #[w0, w1, w2, w3, w4, w5] := by
    have hs : args.size = 6 := by simpa [Cond.value, given_1] using g0
    obtain ⟨L⟩ := args
    match L, hs with
    | [w0, w1, w2, w3, w4, w5], _ => exact ⟨w0, w1, w2, w3, w4, w5, rfl⟩
  have hw := fun d (hd : d ∈ tables_1) => atoms_spec (ws := Jvm.Cond.code x code maxLocals ret :: tables_1) hat d (List.mem_cons_of_mem _ hd)
  obtain ⟨i0, ei0⟩ := is_v g1
  obtain rfl : w0 = (.int i0) := Option.some.inj ei0
  obtain ⟨i1, ei1⟩ := is_v g2
  obtain rfl : w1 = (.int i1) := Option.some.inj ei1
  obtain ⟨i2, ei2⟩ := is_v g3
  obtain rfl : w2 = (.int i2) := Option.some.inj ei2
  obtain ⟨i3, ei3⟩ := is_v g4
  obtain rfl : w3 = (.int i3) := Option.some.inj ei3
  obtain ⟨i4, ei4⟩ := is_v g5
  obtain rfl : w4 = (.int i4) := Option.some.inj ei4
  obtain ⟨i5, ei5⟩ := is_v gr5
  obtain rfl : w5 = (.int i5) := Option.some.inj ei5
  obtain ⟨n, o, h1, h2, h3, _, L, rfl, ⟨rfl, N⟩, hq⟩ := rm0 l s _ hw tables_1 i0 i1 i2 i3 i4 i5 s.heap s.heap.size (Nat.le_refl _) p e ha hc hk s m _ below hf ((Spec.applies_iff_loose hf).mp happ).1 ⟨rfl, State.Warmed39.refl s, rfl⟩ trivial
  refine ⟨n, _, h1, h2, h3, hpost _ _ _ _ _ _ ⟨Cond.after_iff.mpr rfl, Cond.after_iff.mpr (eq_i res_at (Term.int_eval (1)) rfl), trivial⟩ ⟨hq.1, hq.2.1, (hq.2.2.sift fun y hy => Or.inr (N y hy)).mono (by decide) (by decide)⟩⟩
theorem main_1_1 : Claimed_1_1 := comes_1 fun _ _ _ _ _ _ h hF => ⟨h.1, hF⟩
theorem main_1_2 : Claimed_1_2 := comes_1 fun _ _ _ _ _ _ h hF => ⟨h.2.1, hF⟩
end Jvm.Pilot.@@N@@
namespace Jvm.Pilot.@@N@@
open Jvm Jvm.ClassFile Sem Op Lib Jvm.Free Jvm.Stand Jvm.Pilot.@@N@@.Jvm.D
/-! MADE BY PROGRAM (witnessworld.py) out of the Statement's table words and the real class files: 9 classes; the members and pool entries that the words name. The judged class is class 1, her method 1. -/
namespace start1
open Jvm.ClassFile
def u (s : String) : CpInfo := .utf8 (stringToUtf16 s)
/-- a pool by its gaps: so many unusable entries, then the entry; so many at the end -/
def gap : Nat → List CpInfo → List CpInfo
  | 0, r => r
  | n + 1, r => .unusable :: gap n r
def poolList (es : List (Nat × CpInfo)) (last : Nat) : List CpInfo := es.foldr (fun e r => gap e.1 (e.2 :: r)) (gap last [])
def pool (es : List (Nat × CpInfo)) (last : Nat) : Array CpInfo := ⟨poolList es last⟩
def fileOf (pool : Array CpInfo) (this : Nat) (attrs : Array Attribute := #[]) (ms : Array MethodInfo := #[]) (fl : Nat := 33) (sup : Nat := 0) (ifs : Array Nat := #[]) (fds : Array FieldInfo := #[]) : ClassFile where
  minorVersion := 0
  majorVersion := 65
  constantPool := pool
  accessFlags := fl
  thisClass := this
  superClass := sup
  interfaces := ifs
  fields := fds
  methods := ms
  attributes := attrs
def plain (name : String) (sup : Option ClassId) : Class where
  name := name
  kind := .ordinary
  loader := none
  accessFlags := 33
  super := sup
  interfaces := #[]
  cf := none
  fields := #[]
  methods := #[]
  instanceTypes := #[]
  staticTypes := #[]
  resolved := #[]
  callSites := []
  init := .initialized
  statics := none
  mirror := none

def pool0 : Array CpInfo := pool [(5, u "<init>"), (0, u "()V"), (1, .class_ 10), (1, u "java/lang/Object")] 113

def k0m0 : Method := { name := "<init>", desc := "()V", sig := { parameters := [], returnType := none }, accessFlags := 1, code := none }
/-- java/lang/Object -/
def k0 : Class := { plain "java/lang/Object" none with
  accessFlags := 33
  interfaces := #[]
  cf := some (fileOf pool0 8 #[] #[{ accessFlags := 1, nameIndex := 5, descriptorIndex := 6, attributes := #[] }] 33 0 #[] #[])
  fields := #[]
  methods := #[k0m0]
  instanceTypes := #[]
  staticTypes := #[]
  resolved := Array.replicate 124 none
  statics := none }

def pool1 : Array CpInfo := pool [(2, .class_ 4), (1, u "java/lang/Object"), (0, u "<init>"), (0, u "()V"), (0, .integer 2147483647), (0, .long 16777216), (1, .long 65536), (1, .long 256), (1, .methodref 15 16), (0, .class_ 17), (0, .nameAndType 18 19), (0, u "com/example/ubique/ubique/Frame"), (0, u "intAt"), (0, u "([BI)I"), (0, .class_ 21), (0, u "com/example/ubique/ubique/FrameIntAtPinLaw"), (2, u "law"), (0, u "(IIIIII)Z")] 5

def k1m0 : Method := { name := "<init>", desc := "()V", sig := { parameters := [], returnType := none }, accessFlags := 1, code := none }
def k1c1 : Code := { maxStack := 6, maxLocals := 12, code := code, exceptionTable := #[], attributes := #[] }
def k1m1 : Method := { name := "law", desc := "(IIIIII)Z", sig := { parameters := [.int, .int, .int, .int, .int, .int], returnType := some .boolean }, accessFlags := 9, code := some k1c1 }
/-- com/example/ubique/ubique/FrameIntAtPinLaw -/
def k1 : Class := { plain "com/example/ubique/ubique/FrameIntAtPinLaw" (some 0) with
  accessFlags := 49
  interfaces := #[]
  cf := some (fileOf pool1 20 #[] #[{ accessFlags := 1, nameIndex := 5, descriptorIndex := 6, attributes := #[] }, { accessFlags := 9, nameIndex := 24, descriptorIndex := 25, attributes := #[] }] 49 2 #[] #[])
  fields := #[]
  methods := #[k1m0, k1m1]
  instanceTypes := #[]
  staticTypes := #[]
  resolved := Array.replicate 31 none
  statics := none }

def pool2 : Array CpInfo := pool [(2, .class_ 4), (1, u "java/lang/Object"), (3, .class_ 10), (1, u "com/example/ubique/ubique/Frame"), (0, u "flags"), (0, u "I"), (2, u "type"), (2, u "version"), (2, u "source"), (0, u "Lcom/example/ubique/ubique/ProcessId;"), (2, u "destination"), (2, u "token"), (0, u "[B"), (2, u "payload"), (116, u "([BI)I"), (25, u "intAt"), (39, u "HEADER_LENGTH"), (2, u "MAX_PAYLOAD"), (1, u "MAX_NODE_PAYLOAD"), (1, u "MAGIC"), (1, u "FLAG_TOKEN"), (1, u "TOKEN_LENGTH"), (1, u "FLAGS_AT"), (1, u "TYPE_AT"), (1, u "VERSION_AT"), (1, u "LENGTH_AT"), (1, u "SOURCE_AT"), (1, u "DESTINATION_AT")] 47

def k2c0 : Code := { maxStack := 4, maxLocals := 2, code := prog_27_method_17_code, exceptionTable := #[], attributes := #[] }
def k2m0 : Method := { name := "intAt", desc := "([BI)I", sig := { parameters := [(.array .byte), .int], returnType := some .int }, accessFlags := 8, code := some k2c0 }
/-- com/example/ubique/ubique/Frame -/
def k2 : Class := { plain "com/example/ubique/ubique/Frame" (some 0) with
  accessFlags := 48
  interfaces := #[]
  cf := some (fileOf pool2 8 #[] #[{ accessFlags := 8, nameIndex := 175, descriptorIndex := 149, attributes := #[] }] 48 2 #[] #[{ accessFlags := 24, nameIndex := 215, descriptorIndex := 12, attributes := #[] }, { accessFlags := 24, nameIndex := 218, descriptorIndex := 12, attributes := #[] }, { accessFlags := 24, nameIndex := 220, descriptorIndex := 12, attributes := #[] }, { accessFlags := 24, nameIndex := 222, descriptorIndex := 12, attributes := #[] }, { accessFlags := 24, nameIndex := 224, descriptorIndex := 12, attributes := #[] }, { accessFlags := 24, nameIndex := 226, descriptorIndex := 12, attributes := #[] }, { accessFlags := 24, nameIndex := 228, descriptorIndex := 12, attributes := #[] }, { accessFlags := 24, nameIndex := 230, descriptorIndex := 12, attributes := #[] }, { accessFlags := 24, nameIndex := 232, descriptorIndex := 12, attributes := #[] }, { accessFlags := 24, nameIndex := 234, descriptorIndex := 12, attributes := #[] }, { accessFlags := 24, nameIndex := 236, descriptorIndex := 12, attributes := #[] }, { accessFlags := 24, nameIndex := 238, descriptorIndex := 12, attributes := #[] }, { accessFlags := 18, nameIndex := 11, descriptorIndex := 12, attributes := #[] }, { accessFlags := 18, nameIndex := 15, descriptorIndex := 12, attributes := #[] }, { accessFlags := 18, nameIndex := 18, descriptorIndex := 12, attributes := #[] }, { accessFlags := 18, nameIndex := 21, descriptorIndex := 22, attributes := #[] }, { accessFlags := 18, nameIndex := 25, descriptorIndex := 22, attributes := #[] }, { accessFlags := 18, nameIndex := 28, descriptorIndex := 29, attributes := #[] }, { accessFlags := 18, nameIndex := 32, descriptorIndex := 29, attributes := #[] }])
  fields := #[{ name := "HEADER_LENGTH", type := .int, accessFlags := 24, slot := 0, constantValue := 0 }, { name := "MAX_PAYLOAD", type := .int, accessFlags := 24, slot := 1, constantValue := 0 }, { name := "MAX_NODE_PAYLOAD", type := .int, accessFlags := 24, slot := 2, constantValue := 0 }, { name := "MAGIC", type := .int, accessFlags := 24, slot := 3, constantValue := 0 }, { name := "FLAG_TOKEN", type := .int, accessFlags := 24, slot := 4, constantValue := 0 }, { name := "TOKEN_LENGTH", type := .int, accessFlags := 24, slot := 5, constantValue := 0 }, { name := "FLAGS_AT", type := .int, accessFlags := 24, slot := 6, constantValue := 0 }, { name := "TYPE_AT", type := .int, accessFlags := 24, slot := 7, constantValue := 0 }, { name := "VERSION_AT", type := .int, accessFlags := 24, slot := 8, constantValue := 0 }, { name := "LENGTH_AT", type := .int, accessFlags := 24, slot := 9, constantValue := 0 }, { name := "SOURCE_AT", type := .int, accessFlags := 24, slot := 10, constantValue := 0 }, { name := "DESTINATION_AT", type := .int, accessFlags := 24, slot := 11, constantValue := 0 }, { name := "flags", type := .int, accessFlags := 18, slot := 0, constantValue := 0 }, { name := "type", type := .int, accessFlags := 18, slot := 1, constantValue := 0 }, { name := "version", type := .int, accessFlags := 18, slot := 2, constantValue := 0 }, { name := "source", type := (.object "com/example/ubique/ubique/ProcessId"), accessFlags := 18, slot := 3, constantValue := 0 }, { name := "destination", type := (.object "com/example/ubique/ubique/ProcessId"), accessFlags := 18, slot := 4, constantValue := 0 }, { name := "token", type := (.array .byte), accessFlags := 18, slot := 5, constantValue := 0 }, { name := "payload", type := (.array .byte), accessFlags := 18, slot := 6, constantValue := 0 }]
  methods := #[k2m0]
  instanceTypes := #[.int, .int, .int, (.object "com/example/ubique/ubique/ProcessId"), (.object "com/example/ubique/ubique/ProcessId"), (.array .byte), (.array .byte)]
  staticTypes := #[.int, .int, .int, .int, .int, .int, .int, .int, .int, .int, .int, .int]
  resolved := Array.replicate 286 none
  statics := none }

def pool3 : Array CpInfo := pool [(1, u "java/lang/Cloneable"), (0, .class_ 1), (0, u "java/lang/Object"), (0, .class_ 3)] 3

/-- java/lang/Cloneable -/
def k3 : Class := { plain "java/lang/Cloneable" (some 0) with
  accessFlags := 1537
  interfaces := #[]
  cf := some (fileOf pool3 2 #[] #[] 1537 4 #[] #[])
  fields := #[]
  methods := #[]
  instanceTypes := #[]
  staticTypes := #[]
  resolved := Array.replicate 8 none
  statics := none }

def pool4 : Array CpInfo := pool [(1, u "java/io/Serializable"), (0, .class_ 1), (0, u "java/lang/Object"), (0, .class_ 3)] 3

/-- java/io/Serializable -/
def k4 : Class := { plain "java/io/Serializable" (some 0) with
  accessFlags := 1537
  interfaces := #[]
  cf := some (fileOf pool4 2 #[] #[] 1537 4 #[] #[])
  fields := #[]
  methods := #[]
  instanceTypes := #[]
  staticTypes := #[]
  resolved := Array.replicate 8 none
  statics := none }

/-- the primitive byte -/
def k5 : Class := { plain "byte" none with kind := .primitive 'B', accessFlags := 0x411 }
/-- [B -/
def k6 : Class := { plain "[B" (some 0) with kind := .array 5 .byte, interfaces := #[3, 4], accessFlags := 1041 }

/-- the primitive int -/
def k7 : Class := { plain "int" none with kind := .primitive 'I', accessFlags := 0x411 }
/-- [I -/
def k8 : Class := { plain "[I" (some 0) with kind := .array 7 .int, interfaces := #[3, 4], accessFlags := 1041 }

def heap : Heap := #[]
def classes : Array Class := #[k0, k1, k2, k3, k4, k5, k6, k7, k8]
def interned : List (Array UInt16 × Addr) := []
def slotsUsed : Nat := 0
def theMethod : MethodId := ⟨1, 1⟩
def args0 : Array Value := #[.int 5, .int 6, .int 7, .int 8, .int 9, .int 10]
def aboutOver (below : List Frame) : State where
  vm := { classes := classes, interned := interned.toArray }
  heap := heap
  slotsUsed := slotsUsed
  threads := #[{ frames := .invoking theMethod args0 :: below }]
def below0 : List Frame := [.native { method := ⟨0, 0⟩, args := #[] }]
def about1 : State := aboutOver below0
def p0 : Program := .bare "" "" ""
def e0 : Env := launch0.env 0 0 0
theorem w_frames : about1.frames = Frame.invoking theMethod args0 :: below0 := rfl
set_option maxRecDepth 65536 in
theorem w_args : argsFit about1.vm theMethod args0 = true := by decide +kernel
set_option maxRecDepth 65536 in
theorem w_heap : heapFits about1 = true := by decide +kernel
set_option maxRecDepth 65536 in
theorem w_runnable : about1.curStatus? = some .runnable := by decide +kernel
set_option maxRecDepth 65536 in
theorem w_alone : about1.alone = true := by decide +kernel
set_option maxRecDepth 65536 in
theorem w_named : about1.methodNamed? x = some theMethod := by decide +kernel
set_option maxRecDepth 65536 in
theorem w_hears : about1.hears theMethod below0 = true := by decide +kernel
set_option maxRecDepth 65536 in
theorem w_ripe : about1.ripe theMethod args0 below0 = true := by decide +kernel
theorem w_running : about1.status = .running := rfl
set_option maxRecDepth 65536 in
theorem w_room : about1.hasRoom e0.platform room_1 = true :=
  launch0.hasRoom_least _ room_1 (by decide +kernel) (by decide +kernel) (by decide +kernel) (by decide +kernel) (by decide +kernel) (by decide +kernel)
theorem allAtoms_all (ts : List Jvm.Cond) (a : Array Jvm.Value) (st : Jvm.State) : (allAtoms ts).before a st = ts.all (fun c => c.before a st) := by
  induction ts with
  | nil => rfl
  | cons c t ih =>
    show (Jvm.Cond.and c (allAtoms t)).before a st = _
    rw [Jvm.Cond.before_and, ih, List.all_cons]
def words1 : List Jvm.Cond := Jvm.Cond.code x code maxLocals ret :: tables_1
/-- a 'code' word, met by the world's own term for the bytes: nothing is compared byte by byte -/
theorem code_word {y : MethodName} {bytes : ByteArray} {mx : Nat} {rt : Option FieldType} {a : Array Value} {s : State} {m : MethodId} {meth : Method} {c : Code} (h1 : s.methodNamed? y = some m) (h2 : s.vm.method? m = some meth) (h3 : meth.code = some c) (h4 : c.code = bytes)
    (h5 : (c.maxLocals == mx && c.exceptionTable.isEmpty && decide (c.maxStack ≤ mostOperands) && decide (meth.sig.returnType = rt) && !meth.locks && decide (parseMethodDescriptor y.desc = some meth.sig)) = true) : (Jvm.Cond.code y bytes mx rt).before a s = true := by
  simp only [Bool.and_eq_true, beq_iff_eq, Bool.not_eq_true', decide_eq_true_eq] at h5
  obtain ⟨⟨⟨⟨⟨g1, g2⟩, g3⟩, g4⟩, g5⟩, g6⟩ := h5
  simp [Cond.before, Cond.holds, Cond.value, h1, h2, h3, h4, g1, g2, g3, g4, g5, g6]
def isCode : Jvm.Cond → Bool
  | .code _ _ _ _ => true
  | _ => false
theorem all_split {L : List Jvm.Cond} {P : Jvm.Cond → Bool} (h1 : L.all (fun c => isCode c || P c) = true) (h2 : ∀ c ∈ L.filter isCode, P c = true) : L.all P = true := by
  refine List.all_eq_true.mpr fun c hc => ?_
  have h := List.all_eq_true.mp h1 c hc
  rcases Bool.eq_false_or_eq_true (isCode c) with hi | hi
  · exact h2 c (List.mem_filter.mpr ⟨hc, hi⟩)
  · simpa [hi] using h
set_option maxRecDepth 65536 in
theorem w_c0 : (Jvm.Cond.code x code maxLocals ret).before args0 about1 = true := code_word (m := ⟨1, 1⟩) (meth := k1m1) (c := k1c1) (by decide +kernel) rfl rfl rfl (by decide +kernel)
set_option maxRecDepth 65536 in
theorem w_c1 : (Jvm.Cond.code ({ cls := "com/example/ubique/ubique/Frame", name := "intAt", desc := "([BI)I" } : Jvm.MethodName) prog_27_method_17_code (2 : Nat) (Option.some Jvm.ClassFile.FieldType.int)).before args0 about1 = true := code_word (m := ⟨2, 0⟩) (meth := k2m0) (c := k2c0) (by decide +kernel) rfl rfl rfl (by decide +kernel)
def codes1 : List Jvm.Cond := [Jvm.Cond.code x code maxLocals ret, Jvm.Cond.code ({ cls := "com/example/ubique/ubique/Frame", name := "intAt", desc := "([BI)I" } : Jvm.MethodName) prog_27_method_17_code (2 : Nat) (Option.some Jvm.ClassFile.FieldType.int)]
set_option maxRecDepth 65536 in
theorem codes_eq : words1.filter isCode = codes1 := rfl
theorem w_codes : ∀ c ∈ words1.filter isCode, c.before args0 about1 = true := by
  rw [codes_eq]
  intro c hc
  simp only [codes1, List.mem_cons, List.not_mem_nil, or_false] at hc
  rcases hc with rfl | rfl
  · exact w_c0
  · exact w_c1
set_option maxRecDepth 65536 in
theorem w_t1 : words1.all (fun c => isCode c || c.before args0 about1) = true := by decide +kernel
theorem w_tables : (allAtoms (Jvm.Cond.code x code maxLocals ret :: tables_1)).before args0 about1 = true := by
  rw [allAtoms_all]
  show words1.all (fun c => c.before args0 about1) = true
  refine all_split ?_ w_codes
  rw [w_t1]
set_option maxRecDepth 65536 in
theorem w_case : (Jvm.Cond.and given_1 narrow_1).before args0 about1 = true := by decide +kernel
theorem w_applies : (headSpec (Jvm.Cond.code x code maxLocals ret :: tables_1) room_1).applies x e0.platform about1 = true :=
  (Spec.applies_iff w_frames).mpr ⟨w_running, w_runnable, w_alone, w_named, w_hears, w_ripe, w_room, w_tables⟩
theorem atStart : AtStart classFile x code maxLocals ret World_1 tables_1 room_1 Calls_1 rest_1 Pre_1 launch0 p0 e0 about1 theMethod args0 below0 :=
  ⟨lists_1, trivial, launch0.admits_env _ _ _, launch0.least_env, fairChoices_fair.cas, fairChoices_fair.clock, w_frames, w_args, w_heap, w_applies, trivial, trivial, w_case⟩
end start1
theorem witness_1 : WitnessClaimed_1 := ⟨start1.p0, start1.e0, start1.about1, start1.theMethod, start1.args0, start1.below0, start1.atStart⟩
end Jvm.Pilot.@@N@@
