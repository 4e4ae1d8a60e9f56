import JvmDerived
import JvmDerived.Pilot.@@N@@Statement
import JvmDerived.Pilot.@@N@@Code
set_option linter.unusedVariables false
set_option linter.unusedSimpArgs false
namespace Jvm.RoadKit
open Sem ClassFile Op Lib Jvm.Stand Jvm.Free Jvm.LawKit
section New
variable {p : Program} {l : Launch} {e : Env} {R : Room} {s : State} {m : MethodId} {args : Array Value} {below : List Frame} {meth : Method} {c : Code} {T : State} {locs : List Loc} {cells slots : Nat}
theorem retI (X : Stand p l e R s m args below meth c T locs cells slots) (hx : p.tables.exec = Jvm.exec) {pc : Nat} {Ls : Array Slot} {z : Int32} {rest : List Value} (hret : meth.sig.returnType = some .int) (hd : decode c.code pc = .ok (.ireturn, 1)) {fs : List Frame}
    (hl : ∀ (f : JFrame) (acts : List Action), f.method = m → f.locked = none → f.entered = [] → (doReturn e (T.setTop f) acts (some (.int z))).1 = T.setFrames fs) : Steps p.tables e below (T.setTop (mkF m pc Ls (.int z :: rest))) (T.setFrames fs) := by
  have hm' : T.vm.method? m = some meth := X.method'
  have hn : narrow .int (.int z) = .int z := rfl
  show Steps p.tables e below (T.setTop { method := m, pc := pc, locals := Ls, stack := _ :: rest, locked := none }) _
  jvm_step X.here [X.here.top, hx, hd, hm', hret, hn]
  first | (intro acts; rw [hl _ acts rfl rfl rfl]) | rw [hl _ _ rfl rfl rfl]
  exact Steps.refl _
end New
end Jvm.RoadKit
namespace Jvm.Pilot.@@N@@
open Jvm Jvm.ClassFile Sem Op Lib Jvm.Free Jvm.Stand Jvm.LawKit Jvm.RoadKit Bundle Jvm.Pilot.@@N@@.Jvm.D
/-! the own kit: a run told backwards (Runs), arrays by a function of the place (OArr), the comparisons of longs -/
def Runs (tb : Tables) (e : Env) (below : List Frame) (R : State → Outcome → Prop) (T : State) (g : JFrame) : Prop := ∃ t o, Steps tb e below (T.setTop g) t ∧ R t o
section Own
variable {tb : Tables} {e : Env} {below : List Frame} {R : State → Outcome → Prop} {T T' : State} {g g' : JFrame}
theorem Runs.back (k : ∀ t, Steps tb e below (T'.setTop g') t → Steps tb e below (T.setTop g) t) (h : Runs tb e below R T' g') : Runs tb e below R T g := by
  obtain ⟨t, o, h1, h2⟩ := h; exact ⟨t, o, k t h1, h2⟩
theorem Runs.trans (k : Steps tb e below (T.setTop g) (T'.setTop g')) (h : Runs tb e below R T' g') : Runs tb e below R T g := by
  obtain ⟨t, o, h1, h2⟩ := h; exact ⟨t, o, Steps.trans k h1, h2⟩
theorem Runs.enter (q : g = g') (h : Runs tb e below R T g') : ∃ t o, Steps tb e below (T.setTop g) t ∧ R t o := by subst q; exact h
theorem Runs.join {α : Type} {P : α → Prop} {F : α → JFrame} (h : ∀ v, P v → Runs tb e below R T (F v)) (k : (∀ v, P v → Runs tb e below R T (F v)) → Runs tb e below R T g) : Runs tb e below R T g := k h
theorem Runs.joinT {α : Type} {P : α → State → Prop} {F : α → JFrame} (h : ∀ v T', P v T' → Runs tb e below R T' (F v)) (k : (∀ v T', P v T' → Runs tb e below R T' (F v)) → Runs tb e below R T g) : Runs tb e below R T g := k h
theorem lcT {x y : Int64} (h : x < y) : lcmpW x y < 0 := by
  have h1 : ¬ y < x := Int64.not_lt.mpr (Int64.le_of_lt h)
  have h2 : ¬ x = y := fun q => by subst q; exact Int64.lt_irrefl h
  simp [lcmpW, h1, h2]
theorem lcF {x y : Int64} (h : ¬ x < y) : ¬ lcmpW x y < 0 := by
  unfold lcmpW
  by_cases h1 : x > y
  · simp only [if_pos h1]; decide
  · have h2 : x = y := Int64.le_antisymm (Int64.not_lt.mp h1) (Int64.not_lt.mp h)
    simp only [if_neg h1, if_pos h2]; decide
theorem lcT' {x y : Int64} (h : y < x) : 0 < lcmpW x y := by
  unfold lcmpW; rw [if_pos h]; decide
theorem lcF' {x y : Int64} (h : ¬ y < x) : ¬ 0 < lcmpW x y := by
  unfold lcmpW
  have h1 : ¬ x > y := h
  simp only [if_neg h1]
  by_cases h2 : x = y
  · simp only [if_pos h2]; decide
  · simp only [if_neg h2]; decide
theorem lcE {x y : Int64} (h : x = y) : lcmpW x y = 0 := by
  have h1 : ¬ x > y := fun q => by subst h; exact Int64.lt_irrefl q
  unfold lcmpW; rw [if_neg h1, if_pos h]
theorem lcN {x y : Int64} (h : ¬ x = y) : ¬ lcmpW x y = 0 := by
  unfold lcmpW
  by_cases h1 : x > y
  · simp only [if_pos h1]; decide
  · simp only [if_neg h1, if_neg h]; decide
def OArr (Z : State) (h : Heap) (a : Addr) (ty : FieldType) (n : Nat) (f : Nat → Value) : Prop := ∃ c : Cell, Arr Z h a c ty ∧ c.slots.size = n ∧ ∀ i, i < n → c.slots[i]? = some (f i)
variable {Z : State} {h h' : Heap} {a b : Addr} {ty : FieldType} {n sl : Nat} {f : Nat → Value} {v : Value} {ws : List Addr}
theorem OArr.lt (F : OArr Z h a ty n f) : a < h.size := by obtain ⟨c, A, -⟩ := F; exact A.lt
theorem OArr.ext (F : OArr Z h a ty n f) (E : Ext h h') : OArr Z h' a ty n f := by obtain ⟨c, A, r⟩ := F; exact ⟨c, A.ext E, r⟩
theorem OArr.other (F : OArr Z h b ty n f) (W : Wr h h' a sl v) (q : b ≠ a) : OArr Z h' b ty n f := by obtain ⟨c, A, r⟩ := F; exact ⟨c, A.other W q, r⟩
theorem OArr.keep (F : OArr Z h a ty n f) (K : Keep h h' ws) (q : a ∉ ws) : OArr Z h' a ty n f := by obtain ⟨c, A, r⟩ := F; exact ⟨c, ⟨K.2.1 a c A.1 q, A.2⟩, r⟩
theorem OArr.congr (F : OArr Z h a ty n f) {f' : Nat → Value} (q : ∀ i, i < n → f i = f' i) : OArr Z h a ty n f' := by obtain ⟨c, A, r1, r2⟩ := F; exact ⟨c, A, r1, fun i hi => by rw [r2 i hi, q i hi]⟩
theorem OArr.set (F : OArr Z h a ty n f) (W : Wr h h' a sl v) : OArr Z h' a ty n (fun i => if i = sl then v else f i) := by
  obtain ⟨c, A, r1, r2⟩ := F
  obtain ⟨cell, e1, -, e3, -⟩ := id W
  cases e1.symm.trans A.1
  refine ⟨_, A.same W, by rw [sz_set]; exact r1, fun i hi => ?_⟩
  by_cases q : i = sl
  · subst q; simp [Cell.setSlot, e3]
  · simp only [if_neg q]; rw [← r2 i hi]; exact Array.getElem?_setIfInBounds_ne (Ne.symm q)
theorem OArr.new {cA : ClassId} {z : Int32} (A : Arr Z h a (newA cA ty z) ty) (q : z.toNatClampNeg = n) (hd : defaultValue ty = v) : OArr Z h a ty n (fun _ => v) :=
  ⟨_, A, by rw [sz_new]; exact q, fun i hi => by subst hd; simp [newA, q, hi]⟩
theorem inbO {j : Int32} {k : Nat} (ng : ¬ j < 0) (e : j.toNatClampNeg = k) (h : k < n) : ¬ (j < 0 ∨ n ≤ j.toNatClampNeg) := fun q => q.elim ng fun r => by rw [e] at r; exact absurd h (Nat.not_lt.mpr r)
theorem readO {c : Cell} {j : Int32} {k : Nat} (H : ∀ i, i < n → c.slots[i]? = some (f i)) (e : j.toNatClampNeg = k) (h : k < n) (q : f k = v) : c.slots[j.toNatClampNeg]? = some v := by rw [e, H k h, q]
theorem hideL {p : Program} {l : Launch} {R : Room} {s : State} {m : MethodId} {args : Array Value} {meth : Method} {c : Code} {locs : List Loc} {cells slots n0 : Nat} (X : Stand p l e R s m args below meth c T locs cells slots) (N : Fr n0 locs) : ∃ L, Stand p l e R s m args below meth c T L cells slots ∧ Fr n0 L := ⟨_, X, N⟩
theorem lti {x y : Int32} : x < y ↔ x.toInt < y.toInt := Int32.lt_iff_toInt_lt
theorem ltl {x y : Int64} : x < y ↔ x.toInt < y.toInt := Int64.lt_iff_toInt_lt
theorem eqi {x y : Int32} : x = y ↔ x.toInt = y.toInt := Int32.toInt_inj.symm
theorem eql {x y : Int64} : x = y ↔ x.toInt = y.toInt := Int64.toInt_inj.symm
end Own

theorem add32 {x y : Int32} (h1 : -2147483648 ≤ x.toInt + y.toInt) (h2 : x.toInt + y.toInt < 2147483648) : (x + y).toInt = x.toInt + y.toInt := by
  rw [Int32.toInt_add]; exact Int.bmod_eq_of_le (by omega) (by omega)
theorem sub32 {x y : Int32} (h1 : -2147483648 ≤ x.toInt - y.toInt) (h2 : x.toInt - y.toInt < 2147483648) : (x - y).toInt = x.toInt - y.toInt := by
  rw [Int32.toInt_sub]; exact Int.bmod_eq_of_le (by omega) (by omega)
theorem add64 {x y : Int64} (h1 : -9223372036854775808 ≤ x.toInt + y.toInt) (h2 : x.toInt + y.toInt < 9223372036854775808) : (x + y).toInt = x.toInt + y.toInt := by
  rw [Int64.toInt_add]; exact Int.bmod_eq_of_le (by omega) (by omega)
theorem sub64 {x y : Int64} (h1 : -9223372036854775808 ≤ x.toInt - y.toInt) (h2 : x.toInt - y.toInt < 9223372036854775808) : (x - y).toInt = x.toInt - y.toInt := by
  rw [Int64.toInt_sub]; exact Int.bmod_eq_of_le (by omega) (by omega)
theorem l2i' {x : Int64} (h1 : -2147483648 ≤ x.toInt) (h2 : x.toInt < 2147483648) : x.toInt32.toInt = x.toInt := by
  rw [Int64.toInt_toInt32]; exact Int.bmod_eq_of_le (by omega) (by omega)
theorem bd32 (x : Int32) : -2147483648 ≤ x.toInt ∧ x.toInt < 2147483648 := ⟨Int32.le_toInt x, Int32.toInt_lt x⟩
theorem takeE {c e p : Int32} : c.toInt64 < e.toInt64 + p.toInt64 ↔ c.toInt < e.toInt + p.toInt := by
  have b1 := bd32 e; have b2 := bd32 p
  rw [ltl, add64 (by rw [c_i2l, c_i2l]; omega) (by rw [c_i2l, c_i2l]; omega), c_i2l, c_i2l, c_i2l]
theorem takeC {c : Int32} {x y : Int64} (h1 : -9223372036854775808 ≤ x.toInt + y.toInt) (h2 : x.toInt + y.toInt < 9223372036854775808) : c.toInt64 < x + y ↔ c.toInt < x.toInt + y.toInt := by
  rw [ltl, add64 h1 h2, c_i2l]
theorem z32 : (0 : Int32).toInt = 0 := by decide
theorem o32 : (1 : Int32).toInt = 1 := by decide
theorem z64 : (0 : Int64).toInt = 0 := by decide
theorem o64 : (1 : Int64).toInt = 1 := by decide

def eqF (n1 p1 n2 p2 : Int64) : Int32 := if n2 = n1 then (if p2 = p1 then (1 : Int32) else (0 : Int32)) else (0 : Int32)
theorem eqF1 {n1 p1 n2 p2 : Int64} (h : n2 = n1 ∧ p2 = p1) : eqF n1 p1 n2 p2 = (1 : Int32) := by unfold eqF; rw [if_pos h.1, if_pos h.2]
theorem eqF0 {n1 p1 n2 p2 : Int64} (h : ¬ (n2 = n1 ∧ p2 = p1)) : eqF n1 p1 n2 p2 = (0 : Int32) := by
  unfold eqF
  by_cases q : n2 = n1
  · rw [if_pos q, if_neg fun r => h ⟨q, r⟩]
  · rw [if_neg q]
theorem eqF1' {n1 p1 n2 p2 : Int64} (h : n1 = n2 ∧ p1 = p2) : eqF n1 p1 n2 p2 = (1 : Int32) := eqF1 ⟨h.1.symm, h.2.symm⟩
theorem eqF0' {n1 p1 n2 p2 : Int64} (h : ¬ (n1 = n2 ∧ p1 = p2)) : eqF n1 p1 n2 p2 = (0 : Int32) := eqF0 fun q => h ⟨q.1.symm, q.2.symm⟩
theorem own_sta {Z : State} {h h' : Heap} {C n d : String} {v : Value} (F : Sta Z h C n d v) (K : Keep h h' []) : Sta Z h' C n d v := by
  obtain ⟨cf, i, k, f, st, cell, h1, h2, h3, h4, h5, r⟩ := F
  exact ⟨cf, i, k, f, st, cell, h1, h2, h3, h4, K.2.1 _ _ h5 nin0, r⟩
theorem own_no {Z : State} {a0 : Array Value} {C S O K : String} {n : Nat} (w1 : (Jvm.Cond.superclass C S).before a0 Z = true) (w2 : (Jvm.Cond.superclass S O).before a0 Z = true) (w3 : (Jvm.Cond.noSuperclass O).before a0 Z = true) (wi : (Jvm.Cond.instantiable K n).before a0 Z = true) (hC : C ≠ K) (hS : S ≠ K) (hO : O ≠ K) :
    ∃ c t, Z.vm.findClass C = some c ∧ Z.vm.findClass K = some t ∧ Z.vm.assignable c t = false := by
  obtain ⟨t, kt, g0, g2, g5, g7, -⟩ := Cond.instantiable_spec wi
  have g8 : kt.isInterface = false := by simp only [Bool.or_eq_false_iff] at g7; exact g7.1
  have root : NS Z O K := by
    obtain ⟨c, k, h1, h2, h3, -, -⟩ := Cond.noSuperclass_spec w3
    have ne := ids_ne h1 g0 hO
    refine ⟨c, t, h1, g0, fun fuel => ?_⟩
    cases fuel with
    | zero => rfl
    | succ f => simp [Vm.isSubclassAux, ne, h2, h3]
  obtain ⟨c, t', h0, q0, n3⟩ := NS.step w1 (NS.step w2 root hS) hC
  cases q0.symm.trans g0
  obtain ⟨p, k, kp, h1, h2, h3, h4, h5, -, h7⟩ := Cond.superclass_spec h0 w1
  have ne := ids_ne h0 g0 hC
  refine ⟨c, t, h0, g0, ?_⟩
  show Z.vm.assignableAux (255 + 1) c t = false
  simp [Vm.assignableAux, ne, h2, g2, h5, g5, g8, Vm.isSubclass, n3]
theorem d2_0 : decode jdk_30_method_1_code 0 = .ok (.aload_n 0, 1) := by decide +kernel
theorem d2_1 : decode jdk_30_method_1_code 1 = .ok (.invokespecial 1, 3) := by decide +kernel
theorem d2_4 : decode jdk_30_method_1_code 4 = .ok (.return_, 1) := by decide +kernel
theorem pn_2 : plainName "java/lang/Record" = true := by first | (simp [plainName, overriddenIn]; done) | decide +kernel
theorem ef_2 (m : MethodId) (r0 : Addr) : entryFrame m #[(.ref r0)] 1 = mkF m 0 #[.val (.ref r0)] [] := by first | (simp [entryFrame, mkF, argsToLocals, Value.category]; done) | rfl
def Q2 (Z : State) (r0 : Addr)  (h0 : Heap) (n0 : Nat) (v : Option Value) (h : Heap) (L : List Loc) : Prop := v = none ∧ Fr n0 L ∧ h = h0
set_option maxRecDepth 65536 in
set_option maxHeartbeats 40000000 in
theorem rm2 (l : Launch) (Z : State) (a0 : Array Value) (hw : ∀ d ∈ tables_1, d.before a0 Z = true) (ws : List Jvm.Cond) (r0 : Addr)  (h0 : Heap) (n0 : Nat) (Z0 : n0 ≤ h0.size) :
    MetFree l (⟨"java/lang/Record", "<init>", "()V"⟩ : MethodName) (head1 (Jvm.Cond.code (⟨"java/lang/Record", "<init>", "()V"⟩ : MethodName) jdk_30_method_1_code 1 none :: ws) ({ frames := 1, cells := 0, slots := 0, locals := 12 } : Room)) (fun a U => a = #[(.ref r0)] ∧ Z.Warmed39 U.vm ∧ U.heap = h0) (fun _ _ _ _ _ => True) (fun _ U o U' => ∃ v L, o = .returned v ∧ Q2 Z r0 h0 n0 v U'.heap L ∧ FrameEnd U o U' L ({ frames := 1, cells := 0, slots := 0, locals := 12 } : Room).cells ({ frames := 1, cells := 0, slots := 0, locals := 12 } : Room).slots) := by
  refine MetFree.of_bodySF (plainFor_of_name pn_2) hisR ?_
  intro p e s m args below meth c s₁ Bd hml0 hP hK
  obtain ⟨rfl, hZ, hh⟩ := hP
  have hx := Bd.exec
  have hby := Bd.bytes
  have hml : c.maxLocals = 1 := hml0
  have hown : s.vm.findClass "java/lang/Record" = some m.cls := findClass_of_methodNamed Bd.named
  have hnm := (name_of_methodNamed Bd.named Bd.method).1
  have X0 : Stand p l e ({ frames := 1, cells := 0, slots := 0, locals := 12 } : Room) s m #[(.ref r0)] below meth c s₁ [] 0 0 := Stand.of_body Bd
  have e0 : s₁.heap = h0 := by rw [← hh, Bd.state]; rfl
  have N0 := Fr.nil n0
  refine Runs.enter (ef_2 m r0) ?_
  show Runs _ _ _ _ s₁ (mkF m 0 #[.val (.ref r0)] [])
  refine Runs.back (fun t_ k_ => XS.aloadN X0.here hx rfl (hb hby d2_0) rfl rfl k_) ?_
  show Runs _ _ _ _ s₁ (mkF m 1 #[.val (.ref r0)] [(.ref r0)])
  obtain ⟨T1, X1, e1, st1⟩ := initO X0 hx hZ hown (hw _ (List.mem_of_getElem? (i := 11) rfl)) (hw _ (List.mem_of_getElem? (i := 12) rfl)) (hw _ (List.mem_of_getElem? (i := 13) rfl)) e0 (g := (mkF m 1 #[.val (.ref r0)] [(.ref r0)])) rfl (by rw [hml]; rfl) rfl (hb hby d2_1) (by decide) (W := 0) (by show 2 * 0 + _ ≤ _; exact Nat.le_of_eq rfl) (by decide)
  refine Runs.back st1 ?_
  show Runs _ _ _ _ T1 (mkF m 4 #[.val (.ref r0)] [])
  obtain ⟨fs, hr, hrun, hended, hW, hsame⟩ := X1.leave (v := none) (fun _ => rfl)
  exact ⟨_, _, (X1.returnOut hx Bd.returns (hb hby d2_4) hr), hrun, hended, _, _, rfl, ⟨rfl, N0, e1⟩, ⟨_, rfl⟩, hW, hsame.mono (by decide) (by decide)⟩
theorem d7_0 : decode jdk_18_method_1_code 0 = .ok (.aload_n 0, 1) := by decide +kernel
theorem d7_1 : decode jdk_18_method_1_code 1 = .ok (.invokespecial 1, 3) := by decide +kernel
theorem d7_4 : decode jdk_18_method_1_code 4 = .ok (.return_, 1) := by decide +kernel
theorem pn_7 : plainName "java/lang/Number" = true := by first | (simp [plainName, overriddenIn]; done) | decide +kernel
theorem ef_7 (m : MethodId) (r0 : Addr) : entryFrame m #[(.ref r0)] 1 = mkF m 0 #[.val (.ref r0)] [] := by first | (simp [entryFrame, mkF, argsToLocals, Value.category]; done) | rfl
def Q7 (Z : State) (r0 : Addr)  (h0 : Heap) (n0 : Nat) (v : Option Value) (h : Heap) (L : List Loc) : Prop := v = none ∧ Fr n0 L ∧ h = h0
set_option maxRecDepth 65536 in
set_option maxHeartbeats 40000000 in
theorem rm7 (l : Launch) (Z : State) (a0 : Array Value) (hw : ∀ d ∈ tables_1, d.before a0 Z = true) (ws : List Jvm.Cond) (r0 : Addr)  (h0 : Heap) (n0 : Nat) (Z0 : n0 ≤ h0.size) :
    MetFree l (⟨"java/lang/Number", "<init>", "()V"⟩ : MethodName) (head1 (Jvm.Cond.code (⟨"java/lang/Number", "<init>", "()V"⟩ : MethodName) jdk_18_method_1_code 1 none :: ws) ({ frames := 1, cells := 0, slots := 0, locals := 12 } : Room)) (fun a U => a = #[(.ref r0)] ∧ Z.Warmed39 U.vm ∧ U.heap = h0) (fun _ _ _ _ _ => True) (fun _ U o U' => ∃ v L, o = .returned v ∧ Q7 Z r0 h0 n0 v U'.heap L ∧ FrameEnd U o U' L ({ frames := 1, cells := 0, slots := 0, locals := 12 } : Room).cells ({ frames := 1, cells := 0, slots := 0, locals := 12 } : Room).slots) := by
  refine MetFree.of_bodySF (plainFor_of_name pn_7) hisR ?_
  intro p e s m args below meth c s₁ Bd hml0 hP hK
  obtain ⟨rfl, hZ, hh⟩ := hP
  have hx := Bd.exec
  have hby := Bd.bytes
  have hml : c.maxLocals = 1 := hml0
  have hown : s.vm.findClass "java/lang/Number" = some m.cls := findClass_of_methodNamed Bd.named
  have hnm := (name_of_methodNamed Bd.named Bd.method).1
  have X0 : Stand p l e ({ frames := 1, cells := 0, slots := 0, locals := 12 } : Room) s m #[(.ref r0)] below meth c s₁ [] 0 0 := Stand.of_body Bd
  have e0 : s₁.heap = h0 := by rw [← hh, Bd.state]; rfl
  have N0 := Fr.nil n0
  refine Runs.enter (ef_7 m r0) ?_
  show Runs _ _ _ _ s₁ (mkF m 0 #[.val (.ref r0)] [])
  refine Runs.back (fun t_ k_ => XS.aloadN X0.here hx rfl (hb hby d7_0) rfl rfl k_) ?_
  show Runs _ _ _ _ s₁ (mkF m 1 #[.val (.ref r0)] [(.ref r0)])
  obtain ⟨T1, X1, e1, st1⟩ := initO X0 hx hZ hown (hw _ (List.mem_of_getElem? (i := 48) rfl)) (hw _ (List.mem_of_getElem? (i := 12) rfl)) (hw _ (List.mem_of_getElem? (i := 13) rfl)) e0 (g := (mkF m 1 #[.val (.ref r0)] [(.ref r0)])) rfl (by rw [hml]; rfl) rfl (hb hby d7_1) (by decide) (W := 0) (by show 2 * 0 + _ ≤ _; exact Nat.le_of_eq rfl) (by decide)
  refine Runs.back st1 ?_
  show Runs _ _ _ _ T1 (mkF m 4 #[.val (.ref r0)] [])
  obtain ⟨fs, hr, hrun, hended, hW, hsame⟩ := X1.leave (v := none) (fun _ => rfl)
  exact ⟨_, _, (X1.returnOut hx Bd.returns (hb hby d7_4) hr), hrun, hended, _, _, rfl, ⟨rfl, N0, e1⟩, ⟨_, rfl⟩, hW, hsame.mono (by decide) (by decide)⟩
theorem d1_0 : decode prog_79_method_1_code 0 = .ok (.aload_n 0, 1) := by decide +kernel
theorem d1_1 : decode prog_79_method_1_code 1 = .ok (.invokespecial 1, 3) := by decide +kernel
theorem d1_4 : decode prog_79_method_1_code 4 = .ok (.aload_n 0, 1) := by decide +kernel
theorem d1_5 : decode prog_79_method_1_code 5 = .ok (.lload_n 1, 1) := by decide +kernel
theorem d1_6 : decode prog_79_method_1_code 6 = .ok (.putfield 7, 3) := by decide +kernel
theorem d1_9 : decode prog_79_method_1_code 9 = .ok (.aload_n 0, 1) := by decide +kernel
theorem d1_10 : decode prog_79_method_1_code 10 = .ok (.lload_n 3, 1) := by decide +kernel
theorem d1_11 : decode prog_79_method_1_code 11 = .ok (.putfield 13, 3) := by decide +kernel
theorem d1_14 : decode prog_79_method_1_code 14 = .ok (.return_, 1) := by decide +kernel
theorem pn_1 : plainName "com/example/ubique/ubique/ProcessId" = true := by first | (simp [plainName, overriddenIn]; done) | decide +kernel
theorem pd1_0 : parseMethodDescriptor "()V" = some ⟨[], none⟩ := by decide +kernel
theorem ef_1 (m : MethodId) (r0 : Addr) (q1 : Int64) (q2 : Int64) : entryFrame m #[(.ref r0), (.long q1), (.long q2)] 5 = mkF m 0 #[.val (.ref r0), .val (.long q1), .second, .val (.long q2), .second] [] := by first | (simp [entryFrame, mkF, argsToLocals, Value.category]; done) | rfl
def Q1 (Z : State) (r0 : Addr) (q1 : Int64) (q2 : Int64) (v1 v2 : Value) (h0 : Heap) (n0 : Nat) (v : Option Value) (h : Heap) (L : List Loc) : Prop := v = none ∧ Fr n0 L ∧ Keep h0 h [r0] ∧ Exa Z h r0 "com/example/ubique/ubique/ProcessId" ∧ Fld Z h r0 "com/example/ubique/ubique/ProcessId" "node" "J" (.long q1) ∧ Fld Z h r0 "com/example/ubique/ubique/ProcessId" "process" "J" (.long q2)
set_option maxRecDepth 65536 in
set_option maxHeartbeats 40000000 in
theorem rm1 (l : Launch) (Z : State) (a0 : Array Value) (hw : ∀ d ∈ tables_1, d.before a0 Z = true) (ws : List Jvm.Cond) (r0 : Addr) (q1 : Int64) (q2 : Int64) (v1 v2 : Value) (h0 : Heap) (n0 : Nat) (Z0 : n0 ≤ h0.size) (E_r0 : Exa Z h0 r0 "com/example/ubique/ubique/ProcessId") (F1 : Fld Z h0 r0 "com/example/ubique/ubique/ProcessId" "node" "J" v1) (F2 : Fld Z h0 r0 "com/example/ubique/ubique/ProcessId" "process" "J" v2) (g_r0 : n0 ≤ r0) :
    MetFree l (⟨"com/example/ubique/ubique/ProcessId", "<init>", "(JJ)V"⟩ : MethodName) (head1 (Jvm.Cond.code (⟨"com/example/ubique/ubique/ProcessId", "<init>", "(JJ)V"⟩ : MethodName) prog_79_method_1_code 5 none :: ws) ({ frames := 2, cells := 0, slots := 0, locals := 24 } : Room)) (fun a U => a = #[(.ref r0), (.long q1), (.long q2)] ∧ Z.Warmed39 U.vm ∧ U.heap = h0) (fun _ _ _ _ _ => True) (fun _ U o U' => ∃ v L, o = .returned v ∧ Q1 Z r0 q1 q2 v1 v2 h0 n0 v U'.heap L ∧ FrameEnd U o U' L ({ frames := 2, cells := 0, slots := 0, locals := 24 } : Room).cells ({ frames := 2, cells := 0, slots := 0, locals := 24 } : Room).slots) := by
  refine MetFree.of_bodySF (plainFor_of_name pn_1) hisR ?_
  intro p e s m args below meth c s₁ Bd hml0 hP hK
  obtain ⟨rfl, hZ, hh⟩ := hP
  have hx := Bd.exec
  have hby := Bd.bytes
  have hml : c.maxLocals = 5 := hml0
  have hown : s.vm.findClass "com/example/ubique/ubique/ProcessId" = some m.cls := findClass_of_methodNamed Bd.named
  have hnm := (name_of_methodNamed Bd.named Bd.method).1
  have X0 : Stand p l e ({ frames := 2, cells := 0, slots := 0, locals := 24 } : Room) s m #[(.ref r0), (.long q1), (.long q2)] below meth c s₁ [] 0 0 := Stand.of_body Bd
  have e0 : s₁.heap = h0 := by rw [← hh, Bd.state]; rfl
  have N0 := Fr.nil n0
  refine Runs.enter (ef_1 m r0 q1 q2) ?_
  show Runs _ _ _ _ s₁ (mkF m 0 #[.val (.ref r0), .val (.long q1), .second, .val (.long q2), .second] [])
  refine Runs.back (fun t_ k_ => XS.aloadN X0.here hx rfl (hb hby d1_0) rfl rfl k_) ?_
  show Runs _ _ _ _ s₁ (mkF m 1 #[.val (.ref r0), .val (.long q1), .second, .val (.long q2), .second] [(.ref r0)])
  obtain ⟨_, _, ⟨T1, L1, k1, n1⟩, -, X1, ⟨Lc1, hQ1, l1, y1, z1⟩, st1⟩ := X0.specialBack hx (y := (⟨"java/lang/Record", "<init>", "()V"⟩ : MethodName)) rfl hown (mvT hZ (hw _ (List.mem_of_getElem? (i := 6) rfl))) (mvT hZ (hw _ (List.mem_of_getElem? (i := 7) rfl))) (mvT hZ (hw _ (List.mem_of_getElem? (i := 10) rfl))) (by decide) (backOf (W := 0) (rm2 l Z a0 hw [] r0 h0 n0 (Z0)) hZ (hw _ (List.mem_of_getElem? (i := 10) rfl)) (hw _ (List.mem_of_getElem? (i := 9) rfl)) (by decide) (by decide)) (g := (mkF m 1 #[.val (.ref r0), .val (.long q1), .second, .val (.long q2), .second] [(.ref r0)])) rfl (by rw [hml]; rfl) (Steps.refl _) (a := r0) (argsL := []) (rest := []) (lenOf pd1_0 rfl) rfl (by show 2 * 0 + _ ≤ _; exact Nat.le_of_eq rfl) (hb hby d1_1) (fun _ _ => ⟨rfl, e0, (by decide : 0 + 0 ≤ _), (by decide : 0 + 0 ≤ _)⟩)
  dsimp only [Pt.U, Pt.locs, Pt.cells, Pt.slots] at X1 l1 y1 z1 st1 hQ1
  obtain rfl : k1 = 0 := y1
  obtain rfl : n1 = 0 := z1
  obtain ⟨rfl, N1q, eq1⟩ := hQ1
  have N1 : Fr n0 L1 := by rw [l1]; exact Fr.app N0 N1q
  clear l1
  refine Runs.trans st1 ?_
  show Runs _ _ _ _ T1 (mkF m 4 #[.val (.ref r0), .val (.long q1), .second, .val (.long q2), .second] [])
  refine Runs.back (fun t_ k_ => XS.aloadN X1.here hx rfl (hb hby d1_4) rfl rfl k_) ?_
  show Runs _ _ _ _ T1 (mkF m 5 #[.val (.ref r0), .val (.long q1), .second, .val (.long q2), .second] [(.ref r0)])
  refine Runs.back (fun t_ k_ => XS.lloadN X1.here hx rfl (hb hby d1_5) rfl k_) ?_
  show Runs _ _ _ _ T1 (mkF m 6 #[.val (.ref r0), .val (.long q1), .second, .val (.long q2), .second] [(.long q1), (.ref r0)])
  obtain ⟨T2, h2, X2, e2, W2, st2⟩ := putF X1 hx hZ hown (host := "") (Or.inl (hw _ (List.mem_of_getElem? (i := 14) rfl))) Via.refl eq1 F1 E_r0 (Or.inr ⟨(hw _ (List.mem_of_getElem? (i := 15) rfl)), rfl, hnm⟩) (hw _ (List.mem_of_getElem? (i := 1) rfl)) (ty := .long) (by decide) rfl rfl (g := (mkF m 6 #[.val (.ref r0), .val (.long q1), .second, .val (.long q2), .second] [(.long q1), (.ref r0)])) rfl rfl (hb hby d1_6)
  have f2_Exa_0 : Exa Z h2 r0 "com/example/ubique/ubique/ProcessId" := Exa.wr W2 E_r0
  have f2_Fld_1 : Fld Z h2 r0 "com/example/ubique/ubique/ProcessId" "node" "J" (.long q1) := Fld.same W2 F1
  have f2_Fld_2 : Fld Z h2 r0 "com/example/ubique/ubique/ProcessId" "process" "J" v2 := Fld.other W2 F2 (Or.inr (slot_ne (Or.inr (hw _ (List.mem_of_getElem? (i := 17) rfl))) (Or.inr (hw _ (List.mem_of_getElem? (i := 15) rfl))) (by decide) (t := .long) (t' := .long) (by decide) (by decide)))
  have N2 := Fr.snoc X2 N1 g_r0
  obtain ⟨L2, X2, N2⟩ := hideL X2 N2
  have KK2 : Keep h0 h2 [r0] := Keep.wr (Keep.refl h0 [r0]) W2 (Or.inl (List.mem_of_getElem? (i := 0) rfl))
  have Z2 : n0 ≤ h2.size := Nat.le_trans (Z0) (Nat.le_of_eq W2.size.symm)
  refine Runs.back st2 ?_
  show Runs _ _ _ _ T2 (mkF m 9 #[.val (.ref r0), .val (.long q1), .second, .val (.long q2), .second] [])
  refine Runs.back (fun t_ k_ => XS.aloadN X2.here hx rfl (hb hby d1_9) rfl rfl k_) ?_
  show Runs _ _ _ _ T2 (mkF m 10 #[.val (.ref r0), .val (.long q1), .second, .val (.long q2), .second] [(.ref r0)])
  refine Runs.back (fun t_ k_ => XS.lloadN X2.here hx rfl (hb hby d1_10) rfl k_) ?_
  show Runs _ _ _ _ T2 (mkF m 11 #[.val (.ref r0), .val (.long q1), .second, .val (.long q2), .second] [(.long q2), (.ref r0)])
  obtain ⟨T3, h3, X3, e3, W3, st3⟩ := putF X2 hx hZ hown (host := "") (Or.inl (hw _ (List.mem_of_getElem? (i := 16) rfl))) Via.refl e2 f2_Fld_2 f2_Exa_0 (Or.inr ⟨(hw _ (List.mem_of_getElem? (i := 17) rfl)), rfl, hnm⟩) (hw _ (List.mem_of_getElem? (i := 1) rfl)) (ty := .long) (by decide) rfl rfl (g := (mkF m 11 #[.val (.ref r0), .val (.long q1), .second, .val (.long q2), .second] [(.long q2), (.ref r0)])) rfl rfl (hb hby d1_11)
  have f3_Exa_0 : Exa Z h3 r0 "com/example/ubique/ubique/ProcessId" := Exa.wr W3 f2_Exa_0
  have f3_Fld_1 : Fld Z h3 r0 "com/example/ubique/ubique/ProcessId" "node" "J" (.long q1) := Fld.other W3 f2_Fld_1 (Or.inr (slot_ne (Or.inr (hw _ (List.mem_of_getElem? (i := 15) rfl))) (Or.inr (hw _ (List.mem_of_getElem? (i := 17) rfl))) (by decide) (t := .long) (t' := .long) (by decide) (by decide)))
  have f3_Fld_2 : Fld Z h3 r0 "com/example/ubique/ubique/ProcessId" "process" "J" (.long q2) := Fld.same W3 f2_Fld_2
  have N3 := Fr.snoc X3 N2 g_r0
  obtain ⟨L3, X3, N3⟩ := hideL X3 N3
  have KK3 : Keep h0 h3 [r0] := Keep.wr KK2 W3 (Or.inl (List.mem_of_getElem? (i := 0) rfl))
  have Z3 : n0 ≤ h3.size := Nat.le_trans (Z2) (Nat.le_of_eq W3.size.symm)
  refine Runs.back st3 ?_
  show Runs _ _ _ _ T3 (mkF m 14 #[.val (.ref r0), .val (.long q1), .second, .val (.long q2), .second] [])
  obtain ⟨fs, hr, hrun, hended, hW, hsame⟩ := X3.leave (v := none) (fun _ => rfl)
  exact ⟨_, _, (X3.returnOut hx Bd.returns (hb hby d1_14) hr), hrun, hended, _, _, rfl, (by show Q1 Z r0 q1 q2 v1 v2 h0 n0 _ T3.heap _; rw [e3]; exact ⟨rfl, N3, KK3, f3_Exa_0, f3_Fld_1, f3_Fld_2⟩), ⟨_, rfl⟩, hW, hsame.mono (by decide) (by decide)⟩
theorem d6_0 : decode jdk_35_method_26_code 0 = .ok (.aload_n 0, 1) := by decide +kernel
theorem d6_1 : decode jdk_35_method_26_code 1 = .ok (.invokespecial 270, 3) := by decide +kernel
theorem d6_4 : decode jdk_35_method_26_code 4 = .ok (.aload_n 0, 1) := by decide +kernel
theorem d6_5 : decode jdk_35_method_26_code 5 = .ok (.lload_n 1, 1) := by decide +kernel
theorem d6_6 : decode jdk_35_method_26_code 6 = .ok (.putfield 273, 3) := by decide +kernel
theorem d6_9 : decode jdk_35_method_26_code 9 = .ok (.return_, 1) := by decide +kernel
theorem pn_6 : plainName "java/lang/Long" = true := by first | (simp [plainName, overriddenIn]; done) | decide +kernel
theorem pd6_0 : parseMethodDescriptor "()V" = some ⟨[], none⟩ := by decide +kernel
theorem ef_6 (m : MethodId) (r0 : Addr) (q1 : Int64) : entryFrame m #[(.ref r0), (.long q1)] 3 = mkF m 0 #[.val (.ref r0), .val (.long q1), .second] [] := by first | (simp [entryFrame, mkF, argsToLocals, Value.category]; done) | rfl
def Q6 (Z : State) (r0 : Addr) (q1 : Int64) (v1 : Value) (h0 : Heap) (n0 : Nat) (v : Option Value) (h : Heap) (L : List Loc) : Prop := v = none ∧ Fr n0 L ∧ Keep h0 h [r0] ∧ Exa Z h r0 "java/lang/Long"
set_option maxRecDepth 65536 in
set_option maxHeartbeats 40000000 in
theorem rm6 (l : Launch) (Z : State) (a0 : Array Value) (hw : ∀ d ∈ tables_1, d.before a0 Z = true) (ws : List Jvm.Cond) (r0 : Addr) (q1 : Int64) (v1 : Value) (h0 : Heap) (n0 : Nat) (Z0 : n0 ≤ h0.size) (E_r0 : Exa Z h0 r0 "java/lang/Long") (F1 : Fld Z h0 r0 "java/lang/Long" "value" "J" v1) (g_r0 : n0 ≤ r0) :
    MetFree l (⟨"java/lang/Long", "<init>", "(J)V"⟩ : MethodName) (head1 (Jvm.Cond.code (⟨"java/lang/Long", "<init>", "(J)V"⟩ : MethodName) jdk_35_method_26_code 3 none :: ws) ({ frames := 2, cells := 0, slots := 0, locals := 24 } : Room)) (fun a U => a = #[(.ref r0), (.long q1)] ∧ Z.Warmed39 U.vm ∧ U.heap = h0) (fun _ _ _ _ _ => True) (fun _ U o U' => ∃ v L, o = .returned v ∧ Q6 Z r0 q1 v1 h0 n0 v U'.heap L ∧ FrameEnd U o U' L ({ frames := 2, cells := 0, slots := 0, locals := 24 } : Room).cells ({ frames := 2, cells := 0, slots := 0, locals := 24 } : Room).slots) := by
  refine MetFree.of_bodySF (plainFor_of_name pn_6) hisR ?_
  intro p e s m args below meth c s₁ Bd hml0 hP hK
  obtain ⟨rfl, hZ, hh⟩ := hP
  have hx := Bd.exec
  have hby := Bd.bytes
  have hml : c.maxLocals = 3 := hml0
  have hown : s.vm.findClass "java/lang/Long" = some m.cls := findClass_of_methodNamed Bd.named
  have hnm := (name_of_methodNamed Bd.named Bd.method).1
  have X0 : Stand p l e ({ frames := 2, cells := 0, slots := 0, locals := 24 } : Room) s m #[(.ref r0), (.long q1)] below meth c s₁ [] 0 0 := Stand.of_body Bd
  have e0 : s₁.heap = h0 := by rw [← hh, Bd.state]; rfl
  have N0 := Fr.nil n0
  refine Runs.enter (ef_6 m r0 q1) ?_
  show Runs _ _ _ _ s₁ (mkF m 0 #[.val (.ref r0), .val (.long q1), .second] [])
  refine Runs.back (fun t_ k_ => XS.aloadN X0.here hx rfl (hb hby d6_0) rfl rfl k_) ?_
  show Runs _ _ _ _ s₁ (mkF m 1 #[.val (.ref r0), .val (.long q1), .second] [(.ref r0)])
  obtain ⟨_, _, ⟨T1, L1, k1, n1⟩, -, X1, ⟨Lc1, hQ1, l1, y1, z1⟩, st1⟩ := X0.specialBack hx (y := (⟨"java/lang/Number", "<init>", "()V"⟩ : MethodName)) rfl hown (mvT hZ (hw _ (List.mem_of_getElem? (i := 42) rfl))) (mvT hZ (hw _ (List.mem_of_getElem? (i := 43) rfl))) (mvT hZ (hw _ (List.mem_of_getElem? (i := 47) rfl))) (by decide) (backOf (W := 0) (rm7 l Z a0 hw [] r0 h0 n0 (Z0)) hZ (hw _ (List.mem_of_getElem? (i := 47) rfl)) (hw _ (List.mem_of_getElem? (i := 46) rfl)) (by decide) (by decide)) (g := (mkF m 1 #[.val (.ref r0), .val (.long q1), .second] [(.ref r0)])) rfl (by rw [hml]; rfl) (Steps.refl _) (a := r0) (argsL := []) (rest := []) (lenOf pd6_0 rfl) rfl (by show 2 * 0 + _ ≤ _; exact Nat.le_of_eq rfl) (hb hby d6_1) (fun _ _ => ⟨rfl, e0, (by decide : 0 + 0 ≤ _), (by decide : 0 + 0 ≤ _)⟩)
  dsimp only [Pt.U, Pt.locs, Pt.cells, Pt.slots] at X1 l1 y1 z1 st1 hQ1
  obtain rfl : k1 = 0 := y1
  obtain rfl : n1 = 0 := z1
  obtain ⟨rfl, N1q, eq1⟩ := hQ1
  have N1 : Fr n0 L1 := by rw [l1]; exact Fr.app N0 N1q
  clear l1
  refine Runs.trans st1 ?_
  show Runs _ _ _ _ T1 (mkF m 4 #[.val (.ref r0), .val (.long q1), .second] [])
  refine Runs.back (fun t_ k_ => XS.aloadN X1.here hx rfl (hb hby d6_4) rfl rfl k_) ?_
  show Runs _ _ _ _ T1 (mkF m 5 #[.val (.ref r0), .val (.long q1), .second] [(.ref r0)])
  refine Runs.back (fun t_ k_ => XS.lloadN X1.here hx rfl (hb hby d6_5) rfl k_) ?_
  show Runs _ _ _ _ T1 (mkF m 6 #[.val (.ref r0), .val (.long q1), .second] [(.long q1), (.ref r0)])
  obtain ⟨T2, h2, X2, e2, W2, st2⟩ := putF X1 hx hZ hown (host := "") (Or.inl (hw _ (List.mem_of_getElem? (i := 49) rfl))) Via.refl eq1 F1 E_r0 (Or.inr ⟨(hw _ (List.mem_of_getElem? (i := 50) rfl)), rfl, hnm⟩) (hw _ (List.mem_of_getElem? (i := 37) rfl)) (ty := .long) (by decide) rfl rfl (g := (mkF m 6 #[.val (.ref r0), .val (.long q1), .second] [(.long q1), (.ref r0)])) rfl rfl (hb hby d6_6)
  have f2_Exa_0 : Exa Z h2 r0 "java/lang/Long" := Exa.wr W2 E_r0
  have f2_Fld_1 : Fld Z h2 r0 "java/lang/Long" "value" "J" (.long q1) := Fld.same W2 F1
  have N2 := Fr.snoc X2 N1 g_r0
  obtain ⟨L2, X2, N2⟩ := hideL X2 N2
  have KK2 : Keep h0 h2 [r0] := Keep.wr (Keep.refl h0 [r0]) W2 (Or.inl (List.mem_of_getElem? (i := 0) rfl))
  have Z2 : n0 ≤ h2.size := Nat.le_trans (Z0) (Nat.le_of_eq W2.size.symm)
  refine Runs.back st2 ?_
  show Runs _ _ _ _ T2 (mkF m 9 #[.val (.ref r0), .val (.long q1), .second] [])
  obtain ⟨fs, hr, hrun, hended, hW, hsame⟩ := X2.leave (v := none) (fun _ => rfl)
  exact ⟨_, _, (X2.returnOut hx Bd.returns (hb hby d6_9) hr), hrun, hended, _, _, rfl, (by show Q6 Z r0 q1 v1 h0 n0 _ T2.heap _; rw [e2]; exact ⟨rfl, N2, KK2, f2_Exa_0⟩), ⟨_, rfl⟩, hW, hsame.mono (by decide) (by decide)⟩
theorem d4_0 : decode jdk_35_method_24_code 0 = .ok (.sipush 128, 3) := by decide +kernel
theorem d4_3 : decode jdk_35_method_24_code 3 = .ok (.istore_n 2, 1) := by decide +kernel
theorem d4_4 : decode jdk_35_method_24_code 4 = .ok (.lload_n 0, 1) := by decide +kernel
theorem d4_5 : decode jdk_35_method_24_code 5 = .ok (.ldc2_w 230, 3) := by decide +kernel
theorem d4_8 : decode jdk_35_method_24_code 8 = .ok (.lcmp, 1) := by decide +kernel
theorem d4_9 : decode jdk_35_method_24_code 9 = .ok (.ifCond .lt 22, 3) := by decide +kernel
theorem d4_12 : decode jdk_35_method_24_code 12 = .ok (.lload_n 0, 1) := by decide +kernel
theorem d4_13 : decode jdk_35_method_24_code 13 = .ok (.ldc2_w 232, 3) := by decide +kernel
theorem d4_16 : decode jdk_35_method_24_code 16 = .ok (.lcmp, 1) := by decide +kernel
theorem d4_17 : decode jdk_35_method_24_code 17 = .ok (.ifCond .gt 14, 3) := by decide +kernel
theorem d4_20 : decode jdk_35_method_24_code 20 = .ok (.getstatic 234, 3) := by decide +kernel
theorem d4_23 : decode jdk_35_method_24_code 23 = .ok (.lload_n 0, 1) := by decide +kernel
theorem d4_24 : decode jdk_35_method_24_code 24 = .ok (.l2i, 1) := by decide +kernel
theorem d4_25 : decode jdk_35_method_24_code 25 = .ok (.sipush 128, 3) := by decide +kernel
theorem d4_28 : decode jdk_35_method_24_code 28 = .ok (.iadd, 1) := by decide +kernel
theorem d4_29 : decode jdk_35_method_24_code 29 = .ok (.aaload, 1) := by decide +kernel
theorem d4_30 : decode jdk_35_method_24_code 30 = .ok (.areturn, 1) := by decide +kernel
theorem d4_31 : decode jdk_35_method_24_code 31 = .ok (.new 1, 3) := by decide +kernel
theorem d4_34 : decode jdk_35_method_24_code 34 = .ok (.dup, 1) := by decide +kernel
theorem d4_35 : decode jdk_35_method_24_code 35 = .ok (.lload_n 0, 1) := by decide +kernel
theorem d4_36 : decode jdk_35_method_24_code 36 = .ok (.invokespecial 240, 3) := by decide +kernel
theorem d4_39 : decode jdk_35_method_24_code 39 = .ok (.areturn, 1) := by decide +kernel
theorem pn_4 : plainName "java/lang/Long" = true := by first | (simp [plainName, overriddenIn]; done) | decide +kernel
theorem pd4_0 : parseMethodDescriptor "(J)V" = some ⟨[.long], none⟩ := by decide +kernel
theorem ef_4 (m : MethodId) (q0 : Int64) : entryFrame m #[(.long q0)] 3 = mkF m 0 #[.val (.long q0), .second, .unset] [] := by first | (simp [entryFrame, mkF, argsToLocals, Value.category]; done) | rfl
def Q4 (Z : State) (q0 : Int64) (arr : Addr) (ce : Nat → Value) (h0 : Heap) (n0 : Nat) (v : Option Value) (h : Heap) (L : List Loc) : Prop := ∃ b, v = some (.ref b) ∧ Fr n0 L ∧ Keep h0 h [] ∧ Exa Z h b "java/lang/Long"
set_option maxRecDepth 65536 in
set_option maxHeartbeats 40000000 in
theorem rm4 (l : Launch) (Z : State) (a0 : Array Value) (hw : ∀ d ∈ tables_1, d.before a0 Z = true) (ws : List Jvm.Cond) (q0 : Int64) (arr : Addr) (ce : Nat → Value) (h0 : Heap) (n0 : Nat) (Z0 : n0 ≤ h0.size) (S1 : Sta Z h0 "java/lang/Long$LongCache" "cache" "[Ljava/lang/Long;" (.ref arr)) (AC : OArr Z h0 arr (.object "java/lang/Long") 256 ce) (hC : ∀ i, i < 256 → ∃ e, ce i = .ref e ∧ Exa Z h0 e "java/lang/Long") :
    MetFree l (⟨"java/lang/Long", "valueOf", "(J)Ljava/lang/Long;"⟩ : MethodName) (head1 (Jvm.Cond.code (⟨"java/lang/Long", "valueOf", "(J)Ljava/lang/Long;"⟩ : MethodName) jdk_35_method_24_code 3 (some (.object "java/lang/Long")) :: ws) ({ frames := 3, cells := 1, slots := 1, locals := 39 } : Room)) (fun a U => a = #[(.long q0)] ∧ Z.Warmed39 U.vm ∧ U.heap = h0) (fun _ _ _ _ _ => True) (fun _ U o U' => ∃ v L, o = .returned v ∧ Q4 Z q0 arr ce h0 n0 v U'.heap L ∧ FrameEnd U o U' L ({ frames := 3, cells := 1, slots := 1, locals := 39 } : Room).cells ({ frames := 3, cells := 1, slots := 1, locals := 39 } : Room).slots) := by
  refine MetFree.of_bodySF (plainFor_of_name pn_4) hisR ?_
  intro p e s m args below meth c s₁ Bd hml0 hP hK
  obtain ⟨rfl, hZ, hh⟩ := hP
  have hx := Bd.exec
  have hby := Bd.bytes
  have hml : c.maxLocals = 3 := hml0
  have hown : s.vm.findClass "java/lang/Long" = some m.cls := findClass_of_methodNamed Bd.named
  have hnm := (name_of_methodNamed Bd.named Bd.method).1
  have X0 : Stand p l e ({ frames := 3, cells := 1, slots := 1, locals := 39 } : Room) s m #[(.long q0)] below meth c s₁ [] 0 0 := Stand.of_body Bd
  have e0 : s₁.heap = h0 := by rw [← hh, Bd.state]; rfl
  have N0 := Fr.nil n0
  refine Runs.enter (ef_4 m q0) ?_
  show Runs _ _ _ _ s₁ (mkF m 0 #[.val (.long q0), .second, .unset] [])
  refine Runs.back (fun t_ k_ => XS.sipush X0.here hx rfl (hb hby d4_0) k_) ?_
  show Runs _ _ _ _ s₁ (mkF m 3 #[.val (.long q0), .second, .unset] [(.int (128 : Int32))])
  refine Runs.back (fun t_ k_ => XS.istoreN X0.here hx rfl (hb hby d4_3) rfl (l' := #[.val (.long q0), .second, .val (.int (128 : Int32))]) rfl k_) ?_
  show Runs _ _ _ _ s₁ (mkF m 4 #[.val (.long q0), .second, .val (.int (128 : Int32))] [])
  refine Runs.back (fun t_ k_ => XS.lloadN X0.here hx rfl (hb hby d4_4) rfl k_) ?_
  show Runs _ _ _ _ s₁ (mkF m 5 #[.val (.long q0), .second, .val (.int (128 : Int32))] [(.long q0)])
  refine Runs.back (X0.ldc2Long hx hown (mvT hZ (hw _ (List.mem_of_getElem? (i := 22) rfl))) (g := (mkF m 5 #[.val (.long q0), .second, .val (.int (128 : Int32))] [(.long q0)])) rfl (hb hby d4_5)) ?_
  show Runs _ _ _ _ s₁ (mkF m 8 #[.val (.long q0), .second, .val (.int (128 : Int32))] [(.long (-128 : Int64)), (.long q0)])
  refine Runs.back (fun t_ k_ => XS.lcmp X0.here hx rfl (hb hby d4_8) rfl k_) ?_
  show Runs _ _ _ _ s₁ (mkF m 9 #[.val (.long q0), .second, .val (.int (128 : Int32))] [(.int (lcmpW q0 (-128 : Int64)))])
  by_cases c9_1 : q0 < (-128 : Int64)
  · refine Runs.back (fun t_ k_ => XS.ifYes X0.here hx rfl (pc0 := 9) (pc' := 31) rfl (hb hby d4_9) rfl ((if0 _ _).trans (tlt (lcT c9_1)).1) (by decide) (by decide) k_) ?_
    show Runs _ _ _ _ s₁ (mkF m 31 #[.val (.long q0), .second, .val (.int (128 : Int32))] [])
    obtain ⟨T2, h2, X2, e2, E2, A2, D2, -, st2⟩ := newO X0 hx hZ hown (hw _ (List.mem_of_getElem? (i := 36) rfl)) (hw _ (List.mem_of_getElem? (i := 37) rfl)) (hw _ (List.mem_of_getElem? (i := 20) rfl)) e0 (g := (mkF m 31 #[.val (.long q0), .second, .val (.int (128 : Int32))] [])) rfl (hb hby d4_31) (by decide) (by decide)
    obtain ⟨ob2, g2⟩ : ∃ z, z = h0.size := ⟨_, rfl⟩
    rw [← g2] at A2 D2 st2
    have g_ob2 : n0 ≤ ob2 := Nat.le_trans (Z0) (Nat.le_of_eq g2.symm)
    have sz_ob2 : h0.size ≤ ob2 := Nat.le_trans (Keep.refl h0 []).1 (Nat.le_of_eq g2.symm)
    have ne_arr_ob2 : arr ≠ ob2 := Nat.ne_of_lt (Nat.lt_of_lt_of_le AC.lt (Nat.le_of_eq g2.symm))
    have f2_Sta_0 : Sta Z h2 "java/lang/Long$LongCache" "cache" "[Ljava/lang/Long;" (.ref arr) := Sta.ext E2 S1
    have f2_Arr_1 : OArr Z h2 arr (.object "java/lang/Long") 256 ce := AC.ext E2
    have Z2 : n0 ≤ h2.size := Nat.le_trans (Z0) E2.1
    have KK2 : Keep h0 h2 [] := Keep.ext (Keep.refl h0 []) E2
    have F2_50 : Fld Z h2 ob2 "java/lang/Long" "value" "J" (.long (0 : Int64)) := D2 (Or.inr (hw _ (List.mem_of_getElem? (i := 50) rfl))) (ty := .long) (by decide)
    refine Runs.back st2 ?_
    show Runs _ _ _ _ T2 (mkF m 34 #[.val (.long q0), .second, .val (.int (128 : Int32))] [(.ref ob2)])
    refine Runs.back (fun t_ k_ => XS.dup X2.here hx rfl (hb hby d4_34) rfl rfl k_) ?_
    show Runs _ _ _ _ T2 (mkF m 35 #[.val (.long q0), .second, .val (.int (128 : Int32))] [(.ref ob2), (.ref ob2)])
    refine Runs.back (fun t_ k_ => XS.lloadN X2.here hx rfl (hb hby d4_35) rfl k_) ?_
    show Runs _ _ _ _ T2 (mkF m 36 #[.val (.long q0), .second, .val (.int (128 : Int32))] [(.long q0), (.ref ob2), (.ref ob2)])
    obtain ⟨_, _, ⟨T3, L3, k3, n3⟩, -, X3, ⟨Lc3, hQ3, l3, y3, z3⟩, st3⟩ := X2.specialBack hx (y := (⟨"java/lang/Long", "<init>", "(J)V"⟩ : MethodName)) rfl hown (mvT hZ (hw _ (List.mem_of_getElem? (i := 38) rfl))) (mvT hZ (hw _ (List.mem_of_getElem? (i := 39) rfl))) (mvT hZ (hw _ (List.mem_of_getElem? (i := 41) rfl))) (by decide) (backOf (W := 1) (rm6 l Z a0 hw [] ob2 q0 _ h2 n0 (Z2) A2 F2_50 g_ob2) hZ (hw _ (List.mem_of_getElem? (i := 41) rfl)) (hw _ (List.mem_of_getElem? (i := 20) rfl)) (by decide) (by decide)) (g := (mkF m 36 #[.val (.long q0), .second, .val (.int (128 : Int32))] [(.long q0), (.ref ob2), (.ref ob2)])) rfl (by rw [hml]; rfl) (Steps.refl _) (a := ob2) (argsL := [(.long q0)]) (rest := [(.ref ob2)]) (lenOf pd4_0 rfl) rfl (by show 2 * 0 + _ ≤ _; exact Nat.le_of_eq rfl) (hb hby d4_36) (fun _ _ => ⟨rfl, e2, (by decide : 1 + 0 ≤ _), (by decide : 1 + 0 ≤ _)⟩)
    dsimp only [Pt.U, Pt.locs, Pt.cells, Pt.slots] at X3 l3 y3 z3 st3 hQ3
    obtain rfl : k3 = 1 := y3
    obtain rfl : n3 = 1 := z3
    obtain ⟨rfl, N3q, K3, lE3⟩ := hQ3
    have N3 : Fr n0 L3 := by rw [l3]; exact Fr.app N0 N3q
    clear l3
    have f3_Arr_0 : OArr Z T3.heap arr (.object "java/lang/Long") 256 ce := f2_Arr_1.keep K3 (ninS ne_arr_ob2 nin0)
    have f3_Exa_1 : Exa Z T3.heap ob2 "java/lang/Long" := A2.keep K3
    have Z3 : n0 ≤ T3.heap.size := Nat.le_trans (Z2) K3.1
    have KK3 : Keep h0 T3.heap [] := Keep.trans KK2 K3 ((allS (Or.inr sz_ob2) all0))
    refine Runs.trans st3 ?_
    show Runs _ _ _ _ T3 (mkF m 39 #[.val (.long q0), .second, .val (.int (128 : Int32))] [(.ref ob2)])
    obtain ⟨fs, hr, hrun, hended, hW, hsame⟩ := X3.leave (v := some (.ref ob2)) (fun h => by rw [Bd.returns] at h; cases h)
    exact ⟨_, _, (retOut X3 hx Bd.returns rfl (Or.inr (Or.inr (Or.inr (Or.inr ⟨rfl, rfl, rfl⟩)))) (hb hby d4_39) hr), hrun, hended, _, _, rfl, (by show Q4 Z q0 arr ce h0 n0 _ T3.heap _; exact ⟨ob2, rfl, N3, KK3, lE3⟩), ⟨_, rfl⟩, hW, hsame.mono (by decide) (by decide)⟩
  · refine Runs.back (fun t_ k_ => XS.ifNo X0.here hx rfl (hb hby d4_9) rfl ((if0 _ _).trans (flt (lcF c9_1)).1) k_) ?_
    show Runs _ _ _ _ s₁ (mkF m 12 #[.val (.long q0), .second, .val (.int (128 : Int32))] [])
    refine Runs.back (fun t_ k_ => XS.lloadN X0.here hx rfl (hb hby d4_12) rfl k_) ?_
    show Runs _ _ _ _ s₁ (mkF m 13 #[.val (.long q0), .second, .val (.int (128 : Int32))] [(.long q0)])
    refine Runs.back (X0.ldc2Long hx hown (mvT hZ (hw _ (List.mem_of_getElem? (i := 23) rfl))) (g := (mkF m 13 #[.val (.long q0), .second, .val (.int (128 : Int32))] [(.long q0)])) rfl (hb hby d4_13)) ?_
    show Runs _ _ _ _ s₁ (mkF m 16 #[.val (.long q0), .second, .val (.int (128 : Int32))] [(.long (127 : Int64)), (.long q0)])
    refine Runs.back (fun t_ k_ => XS.lcmp X0.here hx rfl (hb hby d4_16) rfl k_) ?_
    show Runs _ _ _ _ s₁ (mkF m 17 #[.val (.long q0), .second, .val (.int (128 : Int32))] [(.int (lcmpW q0 (127 : Int64)))])
    by_cases c17_4 : (127 : Int64) < q0
    · refine Runs.back (fun t_ k_ => XS.ifYes X0.here hx rfl (pc0 := 17) (pc' := 31) rfl (hb hby d4_17) rfl ((if0 _ _).trans (tlt (lcT' c17_4)).2.2.1) (by decide) (by decide) k_) ?_
      show Runs _ _ _ _ s₁ (mkF m 31 #[.val (.long q0), .second, .val (.int (128 : Int32))] [])
      obtain ⟨T5, h5, X5, e5, E5, A5, D5, -, st5⟩ := newO X0 hx hZ hown (hw _ (List.mem_of_getElem? (i := 36) rfl)) (hw _ (List.mem_of_getElem? (i := 37) rfl)) (hw _ (List.mem_of_getElem? (i := 20) rfl)) e0 (g := (mkF m 31 #[.val (.long q0), .second, .val (.int (128 : Int32))] [])) rfl (hb hby d4_31) (by decide) (by decide)
      obtain ⟨ob5, g5⟩ : ∃ z, z = h0.size := ⟨_, rfl⟩
      rw [← g5] at A5 D5 st5
      have g_ob5 : n0 ≤ ob5 := Nat.le_trans (Z0) (Nat.le_of_eq g5.symm)
      have sz_ob5 : h0.size ≤ ob5 := Nat.le_trans (Keep.refl h0 []).1 (Nat.le_of_eq g5.symm)
      have ne_arr_ob5 : arr ≠ ob5 := Nat.ne_of_lt (Nat.lt_of_lt_of_le AC.lt (Nat.le_of_eq g5.symm))
      have f5_Sta_0 : Sta Z h5 "java/lang/Long$LongCache" "cache" "[Ljava/lang/Long;" (.ref arr) := Sta.ext E5 S1
      have f5_Arr_1 : OArr Z h5 arr (.object "java/lang/Long") 256 ce := AC.ext E5
      have Z5 : n0 ≤ h5.size := Nat.le_trans (Z0) E5.1
      have KK5 : Keep h0 h5 [] := Keep.ext (Keep.refl h0 []) E5
      have F5_50 : Fld Z h5 ob5 "java/lang/Long" "value" "J" (.long (0 : Int64)) := D5 (Or.inr (hw _ (List.mem_of_getElem? (i := 50) rfl))) (ty := .long) (by decide)
      refine Runs.back st5 ?_
      show Runs _ _ _ _ T5 (mkF m 34 #[.val (.long q0), .second, .val (.int (128 : Int32))] [(.ref ob5)])
      refine Runs.back (fun t_ k_ => XS.dup X5.here hx rfl (hb hby d4_34) rfl rfl k_) ?_
      show Runs _ _ _ _ T5 (mkF m 35 #[.val (.long q0), .second, .val (.int (128 : Int32))] [(.ref ob5), (.ref ob5)])
      refine Runs.back (fun t_ k_ => XS.lloadN X5.here hx rfl (hb hby d4_35) rfl k_) ?_
      show Runs _ _ _ _ T5 (mkF m 36 #[.val (.long q0), .second, .val (.int (128 : Int32))] [(.long q0), (.ref ob5), (.ref ob5)])
      obtain ⟨_, _, ⟨T6, L6, k6, n6⟩, -, X6, ⟨Lc6, hQ6, l6, y6, z6⟩, st6⟩ := X5.specialBack hx (y := (⟨"java/lang/Long", "<init>", "(J)V"⟩ : MethodName)) rfl hown (mvT hZ (hw _ (List.mem_of_getElem? (i := 38) rfl))) (mvT hZ (hw _ (List.mem_of_getElem? (i := 39) rfl))) (mvT hZ (hw _ (List.mem_of_getElem? (i := 41) rfl))) (by decide) (backOf (W := 1) (rm6 l Z a0 hw [] ob5 q0 _ h5 n0 (Z5) A5 F5_50 g_ob5) hZ (hw _ (List.mem_of_getElem? (i := 41) rfl)) (hw _ (List.mem_of_getElem? (i := 20) rfl)) (by decide) (by decide)) (g := (mkF m 36 #[.val (.long q0), .second, .val (.int (128 : Int32))] [(.long q0), (.ref ob5), (.ref ob5)])) rfl (by rw [hml]; rfl) (Steps.refl _) (a := ob5) (argsL := [(.long q0)]) (rest := [(.ref ob5)]) (lenOf pd4_0 rfl) rfl (by show 2 * 0 + _ ≤ _; exact Nat.le_of_eq rfl) (hb hby d4_36) (fun _ _ => ⟨rfl, e5, (by decide : 1 + 0 ≤ _), (by decide : 1 + 0 ≤ _)⟩)
      dsimp only [Pt.U, Pt.locs, Pt.cells, Pt.slots] at X6 l6 y6 z6 st6 hQ6
      obtain rfl : k6 = 1 := y6
      obtain rfl : n6 = 1 := z6
      obtain ⟨rfl, N6q, K6, lE6⟩ := hQ6
      have N6 : Fr n0 L6 := by rw [l6]; exact Fr.app N0 N6q
      clear l6
      have f6_Arr_0 : OArr Z T6.heap arr (.object "java/lang/Long") 256 ce := f5_Arr_1.keep K6 (ninS ne_arr_ob5 nin0)
      have f6_Exa_1 : Exa Z T6.heap ob5 "java/lang/Long" := A5.keep K6
      have Z6 : n0 ≤ T6.heap.size := Nat.le_trans (Z5) K6.1
      have KK6 : Keep h0 T6.heap [] := Keep.trans KK5 K6 ((allS (Or.inr sz_ob5) all0))
      refine Runs.trans st6 ?_
      show Runs _ _ _ _ T6 (mkF m 39 #[.val (.long q0), .second, .val (.int (128 : Int32))] [(.ref ob5)])
      obtain ⟨fs, hr, hrun, hended, hW, hsame⟩ := X6.leave (v := some (.ref ob5)) (fun h => by rw [Bd.returns] at h; cases h)
      exact ⟨_, _, (retOut X6 hx Bd.returns rfl (Or.inr (Or.inr (Or.inr (Or.inr ⟨rfl, rfl, rfl⟩)))) (hb hby d4_39) hr), hrun, hended, _, _, rfl, (by show Q4 Z q0 arr ce h0 n0 _ T6.heap _; exact ⟨ob5, rfl, N6, KK6, lE6⟩), ⟨_, rfl⟩, hW, hsame.mono (by decide) (by decide)⟩
    · refine Runs.back (fun t_ k_ => XS.ifNo X0.here hx rfl (hb hby d4_17) rfl ((if0 _ _).trans (flt (lcF' c17_4)).2.2.1) k_) ?_
      show Runs _ _ _ _ s₁ (mkF m 20 #[.val (.long q0), .second, .val (.int (128 : Int32))] [])
      obtain ⟨T7, X7, e7, st7⟩ := getS2 X0 hx hZ hown (host := "") (Or.inl (hw _ (List.mem_of_getElem? (i := 24) rfl))) Via.refl e0 S1 (g := (mkF m 20 #[.val (.long q0), .second, .val (.int (128 : Int32))] [])) rfl (hb hby d4_20)
      refine Runs.back st7 ?_
      show Runs _ _ _ _ T7 (mkF m 23 #[.val (.long q0), .second, .val (.int (128 : Int32))] [(.ref arr)])
      refine Runs.back (fun t_ k_ => XS.lloadN X7.here hx rfl (hb hby d4_23) rfl k_) ?_
      show Runs _ _ _ _ T7 (mkF m 24 #[.val (.long q0), .second, .val (.int (128 : Int32))] [(.long q0), (.ref arr)])
      refine Runs.back (fun t_ k_ => XS.l2i X7.here hx rfl (hb hby d4_24) rfl k_) ?_
      show Runs _ _ _ _ T7 (mkF m 25 #[.val (.long q0), .second, .val (.int (128 : Int32))] [(.int (q0.toInt32)), (.ref arr)])
      refine Runs.back (fun t_ k_ => XS.sipush X7.here hx rfl (hb hby d4_25) k_) ?_
      show Runs _ _ _ _ T7 (mkF m 28 #[.val (.long q0), .second, .val (.int (128 : Int32))] [(.int (128 : Int32)), (.int (q0.toInt32)), (.ref arr)])
      refine Runs.back (fun t_ k_ => XS.iadd X7.here hx rfl (hb hby d4_28) rfl k_) ?_
      show Runs _ _ _ _ T7 (mkF m 29 #[.val (.long q0), .second, .val (.int (128 : Int32))] [(.int ((q0.toInt32) + (128 : Int32))), (.ref arr)])
      have z1 := c9_1
      rw [ltl, show (-128 : Int64).toInt = -128 from by decide] at z1
      have z2 := c17_4
      rw [ltl, show (127 : Int64).toInt = 127 from by decide] at z2
      have z3 : q0.toInt32.toInt = q0.toInt := l2i' (by omega) (by omega)
      have z4 : ((q0.toInt32) + (128 : Int32)).toInt = (q0.toInt32).toInt + (128 : Int32).toInt := add32 (by rw [show (128 : Int32).toInt = 128 from by decide]; omega) (by rw [show (128 : Int32).toInt = 128 from by decide]; omega)
      rw [show (128 : Int32).toInt = 128 from by decide] at z4
      have z5 : ¬ ((q0.toInt32) + (128 : Int32)) < 0 := by rw [lti, z32]; omega
      obtain ⟨kc, hkc⟩ : ∃ k, (((q0.toInt32) + (128 : Int32))).toNatClampNeg = k := ⟨_, rfl⟩
      have z6 : kc < 256 := by have q := nat_of z5; omega
      obtain ⟨el, hel, Eel⟩ := hC kc z6
      obtain ⟨cl8, Ar8, S8, Hs8⟩ := id AC
      have at8 : cl8.slots[(((q0.toInt32) + (128 : Int32))).toNatClampNeg]? = some (.ref el) := readO Hs8 hkc (show kc < 256 from z6) (hel)
      refine Runs.back (fun t_ k_ => X7.aaload hx (j := ((q0.toInt32) + (128 : Int32))) (v := (.ref el)) (by rw [e7]; exact Ar8.1) (State.isArrayOf_alike hZ.alike Ar8.2.1) rfl Ar8.2.2 (by rw [S8]; exact (inbO z5 hkc (show kc < 256 from z6))) at8 (g := (mkF m 29 #[.val (.long q0), .second, .val (.int (128 : Int32))] [(.int ((q0.toInt32) + (128 : Int32))), (.ref arr)])) rfl rfl (hb hby d4_29) _ k_) ?_
      show Runs _ _ _ _ T7 (mkF m 30 #[.val (.long q0), .second, .val (.int (128 : Int32))] [(.ref el)])
      obtain ⟨fs, hr, hrun, hended, hW, hsame⟩ := X7.leave (v := some (.ref el)) (fun h => by rw [Bd.returns] at h; cases h)
      exact ⟨_, _, (retOut X7 hx Bd.returns rfl (Or.inr (Or.inr (Or.inr (Or.inr ⟨rfl, rfl, rfl⟩)))) (hb hby d4_30) hr), hrun, hended, _, _, rfl, (by show Q4 Z q0 arr ce h0 n0 _ T7.heap _; rw [e7]; exact ⟨el, rfl, N0, (Keep.refl h0 []), Eel⟩), ⟨_, rfl⟩, hW, hsame.mono (by decide) (by decide)⟩
theorem d5_0 : decode prog_79_method_4_code 0 = .ok (.aload_n 1, 1) := by decide +kernel
theorem d5_1 : decode prog_79_method_4_code 1 = .ok (.instanceof 8, 3) := by decide +kernel
theorem d5_4 : decode prog_79_method_4_code 4 = .ok (.ifCond .eq 36, 3) := by decide +kernel
theorem d5_7 : decode prog_79_method_4_code 7 = .ok (.aload_n 1, 1) := by decide +kernel
theorem d5_8 : decode prog_79_method_4_code 8 = .ok (.checkcast 8, 3) := by decide +kernel
theorem d5_11 : decode prog_79_method_4_code 11 = .ok (.astore_n 2, 1) := by decide +kernel
theorem d5_12 : decode prog_79_method_4_code 12 = .ok (.aload_n 2, 1) := by decide +kernel
theorem d5_13 : decode prog_79_method_4_code 13 = .ok (.getfield 7, 3) := by decide +kernel
theorem d5_16 : decode prog_79_method_4_code 16 = .ok (.aload_n 0, 1) := by decide +kernel
theorem d5_17 : decode prog_79_method_4_code 17 = .ok (.getfield 7, 3) := by decide +kernel
theorem d5_20 : decode prog_79_method_4_code 20 = .ok (.lcmp, 1) := by decide +kernel
theorem d5_21 : decode prog_79_method_4_code 21 = .ok (.ifCond .ne 19, 3) := by decide +kernel
theorem d5_24 : decode prog_79_method_4_code 24 = .ok (.aload_n 2, 1) := by decide +kernel
theorem d5_25 : decode prog_79_method_4_code 25 = .ok (.getfield 13, 3) := by decide +kernel
theorem d5_28 : decode prog_79_method_4_code 28 = .ok (.aload_n 0, 1) := by decide +kernel
theorem d5_29 : decode prog_79_method_4_code 29 = .ok (.getfield 13, 3) := by decide +kernel
theorem d5_32 : decode prog_79_method_4_code 32 = .ok (.lcmp, 1) := by decide +kernel
theorem d5_33 : decode prog_79_method_4_code 33 = .ok (.ifCond .ne 7, 3) := by decide +kernel
theorem d5_36 : decode prog_79_method_4_code 36 = .ok (.iconst 1, 1) := by decide +kernel
theorem d5_37 : decode prog_79_method_4_code 37 = .ok (.goto 4, 3) := by decide +kernel
theorem d5_40 : decode prog_79_method_4_code 40 = .ok (.iconst 0, 1) := by decide +kernel
theorem d5_41 : decode prog_79_method_4_code 41 = .ok (.ireturn, 1) := by decide +kernel
theorem pn_5s : plainName "com/example/ubique/ubique/ProcessId" = true := by first | (simp [plainName, overriddenIn]; done) | decide +kernel
theorem ef_5s (m : MethodId) (r0 : Addr) (r1 : Addr) : entryFrame m #[(.ref r0), (.ref r1)] 3 = mkF m 0 #[.val (.ref r0), .val (.ref r1), .unset] [] := by first | (simp [entryFrame, mkF, argsToLocals, Value.category]; done) | rfl
def Q5s (Z : State) (r0 : Addr) (r1 : Addr) (n1 p1_ n2 p2_ : Int64) (h0 : Heap) (n0 : Nat) (v : Option Value) (h : Heap) (L : List Loc) : Prop := v = some (.int (eqF n1 p1_ n2 p2_)) ∧ Fr n0 L ∧ h = h0
set_option maxRecDepth 65536 in
set_option maxHeartbeats 40000000 in
theorem rm5s (l : Launch) (Z : State) (a0 : Array Value) (hw : ∀ d ∈ tables_1, d.before a0 Z = true) (ws : List Jvm.Cond) (r0 : Addr) (r1 : Addr) (n1 p1_ n2 p2_ : Int64) (h0 : Heap) (n0 : Nat) (Z0 : n0 ≤ h0.size) (F1 : Fld Z h0 r0 "com/example/ubique/ubique/ProcessId" "node" "J" (.long n1)) (F2 : Fld Z h0 r0 "com/example/ubique/ubique/ProcessId" "process" "J" (.long p1_)) (E1 : Exa Z h0 r1 "com/example/ubique/ubique/ProcessId") (F3 : Fld Z h0 r1 "com/example/ubique/ubique/ProcessId" "node" "J" (.long n2)) (F4 : Fld Z h0 r1 "com/example/ubique/ubique/ProcessId" "process" "J" (.long p2_)) :
    MetFree l (⟨"com/example/ubique/ubique/ProcessId", "equals", "(Ljava/lang/Object;)Z"⟩ : MethodName) (head1 (Jvm.Cond.code (⟨"com/example/ubique/ubique/ProcessId", "equals", "(Ljava/lang/Object;)Z"⟩ : MethodName) prog_79_method_4_code 3 (some .boolean) :: ws) ({ frames := 0, cells := 0, slots := 0, locals := 0 } : Room)) (fun a U => a = #[(.ref r0), (.ref r1)] ∧ Z.Warmed39 U.vm ∧ U.heap = h0) (fun _ _ _ _ _ => True) (fun _ U o U' => ∃ v L, o = .returned v ∧ Q5s Z r0 r1 n1 p1_ n2 p2_ h0 n0 v U'.heap L ∧ FrameEnd U o U' L ({ frames := 0, cells := 0, slots := 0, locals := 0 } : Room).cells ({ frames := 0, cells := 0, slots := 0, locals := 0 } : Room).slots) := by
  refine MetFree.of_bodySF (plainFor_of_name pn_5s) hisR ?_
  intro p e s m args below meth c s₁ Bd hml0 hP hK
  obtain ⟨rfl, hZ, hh⟩ := hP
  have hx := Bd.exec
  have hby := Bd.bytes
  have hml : c.maxLocals = 3 := hml0
  have hown : s.vm.findClass "com/example/ubique/ubique/ProcessId" = some m.cls := findClass_of_methodNamed Bd.named
  have hnm := (name_of_methodNamed Bd.named Bd.method).1
  have X0 : Stand p l e ({ frames := 0, cells := 0, slots := 0, locals := 0 } : Room) s m #[(.ref r0), (.ref r1)] below meth c s₁ [] 0 0 := Stand.of_body Bd
  have e0 : s₁.heap = h0 := by rw [← hh, Bd.state]; rfl
  have N0 := Fr.nil n0
  refine Runs.enter (ef_5s m r0 r1) ?_
  show Runs _ _ _ _ s₁ (mkF m 0 #[.val (.ref r0), .val (.ref r1), .unset] [])
  refine Runs.back (fun t_ k_ => XS.aloadN X0.here hx rfl (hb hby d5_0) rfl rfl k_) ?_
  show Runs _ _ _ _ s₁ (mkF m 1 #[.val (.ref r0), .val (.ref r1), .unset] [(.ref r1)])
  obtain ⟨T1, X1, e1, st1⟩ := instY X0 hx hZ hown (hw _ (List.mem_of_getElem? (i := 31) rfl)) e0 (Ins.self E1) (g := (mkF m 1 #[.val (.ref r0), .val (.ref r1), .unset] [(.ref r1)])) rfl rfl (hb hby d5_1)
  refine Runs.back st1 ?_
  show Runs _ _ _ _ T1 (mkF m 4 #[.val (.ref r0), .val (.ref r1), .unset] [(.int (1 : Int32))])
  refine Runs.back (fun t_ k_ => XS.ifNo X1.here hx rfl (hb hby d5_4) rfl ((if0 _ _).trans (feq (show ¬ ((1 : Int32) = (0 : Int32)) from (by decide))).1) k_) ?_
  show Runs _ _ _ _ T1 (mkF m 7 #[.val (.ref r0), .val (.ref r1), .unset] [])
  refine Runs.back (fun t_ k_ => XS.aloadN X1.here hx rfl (hb hby d5_7) rfl rfl k_) ?_
  show Runs _ _ _ _ T1 (mkF m 8 #[.val (.ref r0), .val (.ref r1), .unset] [(.ref r1)])
  obtain ⟨T2, X2, e2, st2⟩ := castY X1 hx hZ hown (hw _ (List.mem_of_getElem? (i := 31) rfl)) e1 (Ins.self E1) (g := (mkF m 8 #[.val (.ref r0), .val (.ref r1), .unset] [(.ref r1)])) rfl rfl (hb hby d5_8)
  refine Runs.back st2 ?_
  show Runs _ _ _ _ T2 (mkF m 11 #[.val (.ref r0), .val (.ref r1), .unset] [(.ref r1)])
  refine Runs.back (fun t_ k_ => XS.astoreN X2.here hx rfl (hb hby d5_11) rfl rfl (l' := #[.val (.ref r0), .val (.ref r1), .val (.ref r1)]) rfl k_) ?_
  show Runs _ _ _ _ T2 (mkF m 12 #[.val (.ref r0), .val (.ref r1), .val (.ref r1)] [])
  refine Runs.back (fun t_ k_ => XS.aloadN X2.here hx rfl (hb hby d5_12) rfl rfl k_) ?_
  show Runs _ _ _ _ T2 (mkF m 13 #[.val (.ref r0), .val (.ref r1), .val (.ref r1)] [(.ref r1)])
  obtain ⟨T3, X3, e3, st3⟩ := getF X2 hx hZ hown (host := "") (Or.inl (hw _ (List.mem_of_getElem? (i := 14) rfl))) Via.refl e2 F3 (g := (mkF m 13 #[.val (.ref r0), .val (.ref r1), .val (.ref r1)] [(.ref r1)])) rfl rfl (hb hby d5_13)
  refine Runs.back st3 ?_
  show Runs _ _ _ _ T3 (mkF m 16 #[.val (.ref r0), .val (.ref r1), .val (.ref r1)] [(.long n2)])
  refine Runs.back (fun t_ k_ => XS.aloadN X3.here hx rfl (hb hby d5_16) rfl rfl k_) ?_
  show Runs _ _ _ _ T3 (mkF m 17 #[.val (.ref r0), .val (.ref r1), .val (.ref r1)] [(.ref r0), (.long n2)])
  obtain ⟨T4, X4, e4, st4⟩ := getF X3 hx hZ hown (host := "") (Or.inl (hw _ (List.mem_of_getElem? (i := 14) rfl))) Via.refl e3 F1 (g := (mkF m 17 #[.val (.ref r0), .val (.ref r1), .val (.ref r1)] [(.ref r0), (.long n2)])) rfl rfl (hb hby d5_17)
  refine Runs.back st4 ?_
  show Runs _ _ _ _ T4 (mkF m 20 #[.val (.ref r0), .val (.ref r1), .val (.ref r1)] [(.long n1), (.long n2)])
  refine Runs.back (fun t_ k_ => XS.lcmp X4.here hx rfl (hb hby d5_20) rfl k_) ?_
  show Runs _ _ _ _ T4 (mkF m 21 #[.val (.ref r0), .val (.ref r1), .val (.ref r1)] [(.int (lcmpW n2 n1))])
  by_cases c21_5 : n2 = n1
  · refine Runs.back (fun t_ k_ => XS.ifNo X4.here hx rfl (hb hby d5_21) rfl ((if0 _ _).trans (teq (lcE c21_5)).2) k_) ?_
    show Runs _ _ _ _ T4 (mkF m 24 #[.val (.ref r0), .val (.ref r1), .val (.ref r1)] [])
    refine Runs.back (fun t_ k_ => XS.aloadN X4.here hx rfl (hb hby d5_24) rfl rfl k_) ?_
    show Runs _ _ _ _ T4 (mkF m 25 #[.val (.ref r0), .val (.ref r1), .val (.ref r1)] [(.ref r1)])
    obtain ⟨T6, X6, e6, st6⟩ := getF X4 hx hZ hown (host := "") (Or.inl (hw _ (List.mem_of_getElem? (i := 16) rfl))) Via.refl e4 F4 (g := (mkF m 25 #[.val (.ref r0), .val (.ref r1), .val (.ref r1)] [(.ref r1)])) rfl rfl (hb hby d5_25)
    refine Runs.back st6 ?_
    show Runs _ _ _ _ T6 (mkF m 28 #[.val (.ref r0), .val (.ref r1), .val (.ref r1)] [(.long p2_)])
    refine Runs.back (fun t_ k_ => XS.aloadN X6.here hx rfl (hb hby d5_28) rfl rfl k_) ?_
    show Runs _ _ _ _ T6 (mkF m 29 #[.val (.ref r0), .val (.ref r1), .val (.ref r1)] [(.ref r0), (.long p2_)])
    obtain ⟨T7, X7, e7, st7⟩ := getF X6 hx hZ hown (host := "") (Or.inl (hw _ (List.mem_of_getElem? (i := 16) rfl))) Via.refl e6 F2 (g := (mkF m 29 #[.val (.ref r0), .val (.ref r1), .val (.ref r1)] [(.ref r0), (.long p2_)])) rfl rfl (hb hby d5_29)
    refine Runs.back st7 ?_
    show Runs _ _ _ _ T7 (mkF m 32 #[.val (.ref r0), .val (.ref r1), .val (.ref r1)] [(.long p1_), (.long p2_)])
    refine Runs.back (fun t_ k_ => XS.lcmp X7.here hx rfl (hb hby d5_32) rfl k_) ?_
    show Runs _ _ _ _ T7 (mkF m 33 #[.val (.ref r0), .val (.ref r1), .val (.ref r1)] [(.int (lcmpW p2_ p1_))])
    by_cases c33_8 : p2_ = p1_
    · refine Runs.back (fun t_ k_ => XS.ifNo X7.here hx rfl (hb hby d5_33) rfl ((if0 _ _).trans (teq (lcE c33_8)).2) k_) ?_
      show Runs _ _ _ _ T7 (mkF m 36 #[.val (.ref r0), .val (.ref r1), .val (.ref r1)] [])
      refine Runs.back (fun t_ k_ => XS.iconst X7.here hx rfl (hb hby d5_36) k_) ?_
      show Runs _ _ _ _ T7 (mkF m 37 #[.val (.ref r0), .val (.ref r1), .val (.ref r1)] [(.int (1 : Int32))])
      refine Runs.back (fun t_ k_ => XS.goto X7.here hx rfl (pc0 := 37) (pc' := 41) rfl (hb hby d5_37) (by decide) (by decide) k_) ?_
      show Runs _ _ _ _ T7 (mkF m 41 #[.val (.ref r0), .val (.ref r1), .val (.ref r1)] [(.int (1 : Int32))])
      obtain ⟨fs, hr, hrun, hended, hW, hsame⟩ := X7.leave (v := some (.int (1 : Int32))) (fun h => by rw [Bd.returns] at h; cases h)
      exact ⟨_, _, (retN X7 hx (t := .boolean) Bd.returns (by simp) (hb hby d5_41) hr), hrun, hended, _, _, rfl, ⟨(by first | rfl | (simp only [eqF, if_pos c21_5, if_pos c33_8]; done) | (simp +decide only [eqF, if_pos c21_5, if_pos c33_8, if_true, if_false, ↓reduceIte]; done) | (simp [eqF, c21_5, c33_8]; done)), N0, e7⟩, ⟨_, rfl⟩, hW, hsame.mono (by decide) (by decide)⟩
    · refine Runs.back (fun t_ k_ => XS.ifYes X7.here hx rfl (pc0 := 33) (pc' := 40) rfl (hb hby d5_33) rfl ((if0 _ _).trans (feq (lcN c33_8)).2) (by decide) (by decide) k_) ?_
      show Runs _ _ _ _ T7 (mkF m 40 #[.val (.ref r0), .val (.ref r1), .val (.ref r1)] [])
      refine Runs.back (fun t_ k_ => XS.iconst X7.here hx rfl (hb hby d5_40) k_) ?_
      show Runs _ _ _ _ T7 (mkF m 41 #[.val (.ref r0), .val (.ref r1), .val (.ref r1)] [(.int (0 : Int32))])
      obtain ⟨fs, hr, hrun, hended, hW, hsame⟩ := X7.leave (v := some (.int (0 : Int32))) (fun h => by rw [Bd.returns] at h; cases h)
      exact ⟨_, _, (retN X7 hx (t := .boolean) Bd.returns (by simp) (hb hby d5_41) hr), hrun, hended, _, _, rfl, ⟨(by first | rfl | (simp only [eqF, if_pos c21_5, if_neg c33_8]; done) | (simp +decide only [eqF, if_pos c21_5, if_neg c33_8, if_true, if_false, ↓reduceIte]; done) | (simp [eqF, c21_5, c33_8]; done)), N0, e7⟩, ⟨_, rfl⟩, hW, hsame.mono (by decide) (by decide)⟩
  · refine Runs.back (fun t_ k_ => XS.ifYes X4.here hx rfl (pc0 := 21) (pc' := 40) rfl (hb hby d5_21) rfl ((if0 _ _).trans (feq (lcN c21_5)).2) (by decide) (by decide) k_) ?_
    show Runs _ _ _ _ T4 (mkF m 40 #[.val (.ref r0), .val (.ref r1), .val (.ref r1)] [])
    refine Runs.back (fun t_ k_ => XS.iconst X4.here hx rfl (hb hby d5_40) k_) ?_
    show Runs _ _ _ _ T4 (mkF m 41 #[.val (.ref r0), .val (.ref r1), .val (.ref r1)] [(.int (0 : Int32))])
    obtain ⟨fs, hr, hrun, hended, hW, hsame⟩ := X4.leave (v := some (.int (0 : Int32))) (fun h => by rw [Bd.returns] at h; cases h)
    exact ⟨_, _, (retN X4 hx (t := .boolean) Bd.returns (by simp) (hb hby d5_41) hr), hrun, hended, _, _, rfl, ⟨(by first | rfl | (simp only [eqF, if_neg c21_5]; done) | (simp +decide only [eqF, if_neg c21_5, if_true, if_false, ↓reduceIte]; done) | (simp [eqF, c21_5]; done)), N0, e4⟩, ⟨_, rfl⟩, hW, hsame.mono (by decide) (by decide)⟩
theorem pn_5n : plainName "com/example/ubique/ubique/ProcessId" = true := by first | (simp [plainName, overriddenIn]; done) | decide +kernel
theorem ef_5n (m : MethodId) (r0 : Addr) : entryFrame m #[(.ref r0), .null] 3 = mkF m 0 #[.val (.ref r0), .val .null, .unset] [] := by first | (simp [entryFrame, mkF, argsToLocals, Value.category]; done) | rfl
def Q5n (Z : State) (r0 : Addr)  (h0 : Heap) (n0 : Nat) (v : Option Value) (h : Heap) (L : List Loc) : Prop := v = some (.int 0) ∧ Fr n0 L ∧ h = h0
set_option maxRecDepth 65536 in
set_option maxHeartbeats 40000000 in
theorem rm5n (l : Launch) (Z : State) (a0 : Array Value) (hw : ∀ d ∈ tables_1, d.before a0 Z = true) (ws : List Jvm.Cond) (r0 : Addr)  (h0 : Heap) (n0 : Nat) (Z0 : n0 ≤ h0.size) :
    MetFree l (⟨"com/example/ubique/ubique/ProcessId", "equals", "(Ljava/lang/Object;)Z"⟩ : MethodName) (head1 (Jvm.Cond.code (⟨"com/example/ubique/ubique/ProcessId", "equals", "(Ljava/lang/Object;)Z"⟩ : MethodName) prog_79_method_4_code 3 (some .boolean) :: ws) ({ frames := 0, cells := 0, slots := 0, locals := 0 } : Room)) (fun a U => a = #[(.ref r0), .null] ∧ Z.Warmed39 U.vm ∧ U.heap = h0) (fun _ _ _ _ _ => True) (fun _ U o U' => ∃ v L, o = .returned v ∧ Q5n Z r0 h0 n0 v U'.heap L ∧ FrameEnd U o U' L ({ frames := 0, cells := 0, slots := 0, locals := 0 } : Room).cells ({ frames := 0, cells := 0, slots := 0, locals := 0 } : Room).slots) := by
  refine MetFree.of_bodySF (plainFor_of_name pn_5n) hisR ?_
  intro p e s m args below meth c s₁ Bd hml0 hP hK
  obtain ⟨rfl, hZ, hh⟩ := hP
  have hx := Bd.exec
  have hby := Bd.bytes
  have hml : c.maxLocals = 3 := hml0
  have hown : s.vm.findClass "com/example/ubique/ubique/ProcessId" = some m.cls := findClass_of_methodNamed Bd.named
  have hnm := (name_of_methodNamed Bd.named Bd.method).1
  have X0 : Stand p l e ({ frames := 0, cells := 0, slots := 0, locals := 0 } : Room) s m #[(.ref r0), .null] below meth c s₁ [] 0 0 := Stand.of_body Bd
  have e0 : s₁.heap = h0 := by rw [← hh, Bd.state]; rfl
  have N0 := Fr.nil n0
  refine Runs.enter (ef_5n m r0) ?_
  show Runs _ _ _ _ s₁ (mkF m 0 #[.val (.ref r0), .val .null, .unset] [])
  refine Runs.back (fun t_ k_ => XS.aloadN X0.here hx rfl (hb hby d5_0) rfl rfl k_) ?_
  show Runs _ _ _ _ s₁ (mkF m 1 #[.val (.ref r0), .val .null, .unset] [.null])
  refine Runs.back (fun t_ k_ => X0.instanceofNull hx (g := (mkF m 1 #[.val (.ref r0), .val .null, .unset] [.null])) rfl rfl (hb hby d5_1) _ k_) ?_
  show Runs _ _ _ _ s₁ (mkF m 4 #[.val (.ref r0), .val .null, .unset] [(.int (0 : Int32))])
  refine Runs.back (fun t_ k_ => XS.ifYes X0.here hx rfl (pc0 := 4) (pc' := 40) rfl (hb hby d5_4) rfl ((if0 _ _).trans (teq (show (0 : Int32) = (0 : Int32) from rfl)).1) (by decide) (by decide) k_) ?_
  show Runs _ _ _ _ s₁ (mkF m 40 #[.val (.ref r0), .val .null, .unset] [])
  refine Runs.back (fun t_ k_ => XS.iconst X0.here hx rfl (hb hby d5_40) k_) ?_
  show Runs _ _ _ _ s₁ (mkF m 41 #[.val (.ref r0), .val .null, .unset] [(.int (0 : Int32))])
  obtain ⟨fs, hr, hrun, hended, hW, hsame⟩ := X0.leave (v := some (.int (0 : Int32))) (fun h => by rw [Bd.returns] at h; cases h)
  exact ⟨_, _, (retN X0 hx (t := .boolean) Bd.returns (by simp) (hb hby d5_41) hr), hrun, hended, _, _, rfl, ⟨rfl, N0, e0⟩, ⟨_, rfl⟩, hW, hsame.mono (by decide) (by decide)⟩
theorem pn_5l : plainName "com/example/ubique/ubique/ProcessId" = true := by first | (simp [plainName, overriddenIn]; done) | decide +kernel
theorem ef_5l (m : MethodId) (r0 : Addr) (r1 : Addr) : entryFrame m #[(.ref r0), (.ref r1)] 3 = mkF m 0 #[.val (.ref r0), .val (.ref r1), .unset] [] := by first | (simp [entryFrame, mkF, argsToLocals, Value.category]; done) | rfl
def Q5l (Z : State) (r0 : Addr) (r1 : Addr)  (h0 : Heap) (n0 : Nat) (v : Option Value) (h : Heap) (L : List Loc) : Prop := v = some (.int 0) ∧ Fr n0 L ∧ h = h0
set_option maxRecDepth 65536 in
set_option maxHeartbeats 40000000 in
theorem rm5l (l : Launch) (Z : State) (a0 : Array Value) (hw : ∀ d ∈ tables_1, d.before a0 Z = true) (ws : List Jvm.Cond) (r0 : Addr) (r1 : Addr)  (h0 : Heap) (n0 : Nat) (Z0 : n0 ≤ h0.size) (E1 : Exa Z h0 r1 "java/lang/Long") :
    MetFree l (⟨"com/example/ubique/ubique/ProcessId", "equals", "(Ljava/lang/Object;)Z"⟩ : MethodName) (head1 (Jvm.Cond.code (⟨"com/example/ubique/ubique/ProcessId", "equals", "(Ljava/lang/Object;)Z"⟩ : MethodName) prog_79_method_4_code 3 (some .boolean) :: ws) ({ frames := 0, cells := 0, slots := 0, locals := 0 } : Room)) (fun a U => a = #[(.ref r0), (.ref r1)] ∧ Z.Warmed39 U.vm ∧ U.heap = h0) (fun _ _ _ _ _ => True) (fun _ U o U' => ∃ v L, o = .returned v ∧ Q5l Z r0 r1 h0 n0 v U'.heap L ∧ FrameEnd U o U' L ({ frames := 0, cells := 0, slots := 0, locals := 0 } : Room).cells ({ frames := 0, cells := 0, slots := 0, locals := 0 } : Room).slots) := by
  refine MetFree.of_bodySF (plainFor_of_name pn_5l) hisR ?_
  intro p e s m args below meth c s₁ Bd hml0 hP hK
  obtain ⟨rfl, hZ, hh⟩ := hP
  have hx := Bd.exec
  have hby := Bd.bytes
  have hml : c.maxLocals = 3 := hml0
  have hown : s.vm.findClass "com/example/ubique/ubique/ProcessId" = some m.cls := findClass_of_methodNamed Bd.named
  have hnm := (name_of_methodNamed Bd.named Bd.method).1
  have X0 : Stand p l e ({ frames := 0, cells := 0, slots := 0, locals := 0 } : Room) s m #[(.ref r0), (.ref r1)] below meth c s₁ [] 0 0 := Stand.of_body Bd
  have e0 : s₁.heap = h0 := by rw [← hh, Bd.state]; rfl
  have N0 := Fr.nil n0
  refine Runs.enter (ef_5l m r0 r1) ?_
  show Runs _ _ _ _ s₁ (mkF m 0 #[.val (.ref r0), .val (.ref r1), .unset] [])
  refine Runs.back (fun t_ k_ => XS.aloadN X0.here hx rfl (hb hby d5_0) rfl rfl k_) ?_
  show Runs _ _ _ _ s₁ (mkF m 1 #[.val (.ref r0), .val (.ref r1), .unset] [(.ref r1)])
  obtain ⟨T1, X1, e1, st1⟩ := instNo X0 hx hZ hown (hw _ (List.mem_of_getElem? (i := 31) rfl)) e0 E1 (own_no (hw _ (List.mem_of_getElem? (i := 33) rfl)) (hw _ (List.mem_of_getElem? (i := 34) rfl)) (hw _ (List.mem_of_getElem? (i := 35) rfl)) (hw _ (List.mem_of_getElem? (i := 1) rfl)) (by decide) (by decide) (by decide)) (g := (mkF m 1 #[.val (.ref r0), .val (.ref r1), .unset] [(.ref r1)])) rfl rfl (hb hby d5_1)
  refine Runs.back st1 ?_
  show Runs _ _ _ _ T1 (mkF m 4 #[.val (.ref r0), .val (.ref r1), .unset] [(.int (0 : Int32))])
  refine Runs.back (fun t_ k_ => XS.ifYes X1.here hx rfl (pc0 := 4) (pc' := 40) rfl (hb hby d5_4) rfl ((if0 _ _).trans (teq (show (0 : Int32) = (0 : Int32) from rfl)).1) (by decide) (by decide) k_) ?_
  show Runs _ _ _ _ T1 (mkF m 40 #[.val (.ref r0), .val (.ref r1), .unset] [])
  refine Runs.back (fun t_ k_ => XS.iconst X1.here hx rfl (hb hby d5_40) k_) ?_
  show Runs _ _ _ _ T1 (mkF m 41 #[.val (.ref r0), .val (.ref r1), .unset] [(.int (0 : Int32))])
  obtain ⟨fs, hr, hrun, hended, hW, hsame⟩ := X1.leave (v := some (.int (0 : Int32))) (fun h => by rw [Bd.returns] at h; cases h)
  exact ⟨_, _, (retN X1 hx (t := .boolean) Bd.returns (by simp) (hb hby d5_41) hr), hrun, hended, _, _, rfl, ⟨rfl, N0, e1⟩, ⟨_, rfl⟩, hW, hsame.mono (by decide) (by decide)⟩
theorem pn_0 : plainName "com/example/ubique/ubique/ProcessIdEqualsPinLaw" = true := by first | (simp [plainName, overriddenIn]; done) | decide +kernel
theorem pd0_0 : parseMethodDescriptor "(JJ)V" = some ⟨[.long, .long], none⟩ := by decide +kernel
theorem pd0_1 : parseMethodDescriptor "(J)Ljava/lang/Long;" = some ⟨[.long], some (.object "java/lang/Long")⟩ := by decide +kernel
theorem pd0_2 : parseMethodDescriptor "(Ljava/lang/Object;)Z" = some ⟨[(.object "java/lang/Object")], some .boolean⟩ := by decide +kernel
theorem ef_0 (m : MethodId) (q0 : Int64) (q1 : Int64) (q2 : Int64) (q3 : Int64) (p4 : Int32) : entryFrame m #[(.long q0), (.long q1), (.long q2), (.long q3), (.int p4)] maxLocals = mkF m 0 #[.val (.long q0), .second, .val (.long q1), .second, .val (.long q2), .second, .val (.long q3), .second, .val (.int p4), .unset, .unset, .unset, .unset, .unset, .unset, .unset, .unset, .unset, .unset] [] := by first | (simp [entryFrame, mkF, argsToLocals, Value.category, maxLocals]; done) | rfl
def Q0 (Z : State) (q0 : Int64) (q1 : Int64) (q2 : Int64) (q3 : Int64) (p4 : Int32) (arr : Addr) (ce : Nat → Value) (h0 : Heap) (n0 : Nat) (v : Option Value) (h : Heap) (L : List Loc) : Prop := v = some (.int 1) ∧ Fr n0 L
set_option maxRecDepth 65536 in
set_option maxHeartbeats 40000000 in
theorem rm0 (l : Launch) (Z : State) (a0 : Array Value) (hw : ∀ d ∈ tables_1, d.before a0 Z = true) (ws : List Jvm.Cond) (q0 : Int64) (q1 : Int64) (q2 : Int64) (q3 : Int64) (p4 : Int32) (arr : Addr) (ce : Nat → Value) (h0 : Heap) (n0 : Nat) (Z0 : n0 ≤ h0.size) (S1 : Sta Z h0 "java/lang/Long$LongCache" "cache" "[Ljava/lang/Long;" (.ref arr)) (AC : OArr Z h0 arr (.object "java/lang/Long") 256 ce) (hC : ∀ i, i < 256 → ∃ e, ce i = .ref e ∧ Exa Z h0 e "java/lang/Long") :
    MetFree l x (head1 (Jvm.Cond.code x code maxLocals ret :: ws) room_1) (fun a U => a = #[(.long q0), (.long q1), (.long q2), (.long q3), (.int p4)] ∧ Z.Warmed39 U.vm ∧ U.heap = h0) (fun _ _ _ _ _ => True) (fun _ U o U' => ∃ v L, o = .returned v ∧ Q0 Z q0 q1 q2 q3 p4 arr ce h0 n0 v U'.heap L ∧ FrameEnd U o U' L 16 128) := by
  refine MetFree.of_bodySF (plainFor_of_name pn_0) hisR ?_
  intro p e s m args below meth c s₁ Bd hml0 hP hK
  obtain ⟨rfl, hZ, hh⟩ := hP
  have hx := Bd.exec
  have hby := Bd.bytes
  have hml : c.maxLocals = 19 := hml0
  have hown : s.vm.findClass "com/example/ubique/ubique/ProcessIdEqualsPinLaw" = some m.cls := findClass_of_methodNamed Bd.named
  have hnm := (name_of_methodNamed Bd.named Bd.method).1
  have X0 : Stand p l e room_1 s m #[(.long q0), (.long q1), (.long q2), (.long q3), (.int p4)] below meth c s₁ [] 0 0 := Stand.of_body Bd
  have e0 : s₁.heap = h0 := by rw [← hh, Bd.state]; rfl
  have N0 := Fr.nil n0
  refine Runs.enter (ef_0 m q0 q1 q2 q3 p4) ?_
  show Runs _ _ _ _ s₁ (mkF m 0 #[.val (.long q0), .second, .val (.long q1), .second, .val (.long q2), .second, .val (.long q3), .second, .val (.int p4), .unset, .unset, .unset, .unset, .unset, .unset, .unset, .unset, .unset, .unset] [])
  refine Runs.join (α := Int64 × Int64) (P := fun (⟨qn, qp⟩ : Int64 × Int64) => True) (F := fun (⟨qn, qp⟩ : Int64 × Int64) => (mkF m 30 #[.val (.long q0), .second, .val (.long q1), .second, .val (.long q2), .second, .val (.long q3), .second, .val (.int p4), .val (.long qn), .second, .val (.long qp), .second, .unset, .unset, .unset, .unset, .unset, .unset] [])) ?_ ?_
  · rintro ⟨qn, qp⟩ hJ1
    show Runs _ _ _ _ s₁ (mkF m 30 #[.val (.long q0), .second, .val (.long q1), .second, .val (.long q2), .second, .val (.long q3), .second, .val (.int p4), .val (.long qn), .second, .val (.long qp), .second, .unset, .unset, .unset, .unset, .unset, .unset] [])
    obtain ⟨T1, h1, X1, e1, E1, A1, D1, -, st1⟩ := newO X0 hx hZ hown (hw _ (List.mem_of_getElem? (i := 0) rfl)) (hw _ (List.mem_of_getElem? (i := 1) rfl)) (hw _ (List.mem_of_getElem? (i := 2) rfl)) e0 (g := (mkF m 30 #[.val (.long q0), .second, .val (.long q1), .second, .val (.long q2), .second, .val (.long q3), .second, .val (.int p4), .val (.long qn), .second, .val (.long qp), .second, .unset, .unset, .unset, .unset, .unset, .unset] [])) rfl (hb hby at_30) (by decide) (by decide)
    obtain ⟨ob1, g1⟩ : ∃ z, z = h0.size := ⟨_, rfl⟩
    rw [← g1] at A1 D1 st1
    have g_ob1 : n0 ≤ ob1 := Nat.le_trans (Z0) (Nat.le_of_eq g1.symm)
    have sz_ob1 : h0.size ≤ ob1 := Nat.le_trans (Keep.refl h0 []).1 (Nat.le_of_eq g1.symm)
    have Z1 : n0 ≤ h1.size := Nat.le_trans (Z0) E1.1
    have KK1 : Keep h0 h1 [] := Keep.ext (Keep.refl h0 []) E1
    have F1_15 : Fld Z h1 ob1 "com/example/ubique/ubique/ProcessId" "node" "J" (.long (0 : Int64)) := D1 (Or.inr (hw _ (List.mem_of_getElem? (i := 15) rfl))) (ty := .long) (by decide)
    have F1_17 : Fld Z h1 ob1 "com/example/ubique/ubique/ProcessId" "process" "J" (.long (0 : Int64)) := D1 (Or.inr (hw _ (List.mem_of_getElem? (i := 17) rfl))) (ty := .long) (by decide)
    refine Runs.back st1 ?_
    show Runs _ _ _ _ T1 (mkF m 33 #[.val (.long q0), .second, .val (.long q1), .second, .val (.long q2), .second, .val (.long q3), .second, .val (.int p4), .val (.long qn), .second, .val (.long qp), .second, .unset, .unset, .unset, .unset, .unset, .unset] [(.ref ob1)])
    refine Runs.back (fun t_ k_ => XS.dup X1.here hx rfl (hb hby at_33) rfl rfl k_) ?_
    show Runs _ _ _ _ T1 (mkF m 34 #[.val (.long q0), .second, .val (.long q1), .second, .val (.long q2), .second, .val (.long q3), .second, .val (.int p4), .val (.long qn), .second, .val (.long qp), .second, .unset, .unset, .unset, .unset, .unset, .unset] [(.ref ob1), (.ref ob1)])
    refine Runs.back (fun t_ k_ => XS.lloadN X1.here hx rfl (hb hby at_34) rfl k_) ?_
    show Runs _ _ _ _ T1 (mkF m 35 #[.val (.long q0), .second, .val (.long q1), .second, .val (.long q2), .second, .val (.long q3), .second, .val (.int p4), .val (.long qn), .second, .val (.long qp), .second, .unset, .unset, .unset, .unset, .unset, .unset] [(.long q0), (.ref ob1), (.ref ob1)])
    refine Runs.back (fun t_ k_ => XS.lloadN X1.here hx rfl (hb hby at_35) rfl k_) ?_
    show Runs _ _ _ _ T1 (mkF m 36 #[.val (.long q0), .second, .val (.long q1), .second, .val (.long q2), .second, .val (.long q3), .second, .val (.int p4), .val (.long qn), .second, .val (.long qp), .second, .unset, .unset, .unset, .unset, .unset, .unset] [(.long q1), (.long q0), (.ref ob1), (.ref ob1)])
    obtain ⟨_, _, ⟨T2, L2, k2, n2⟩, -, X2, ⟨Lc2, hQ2, l2, y2, z2⟩, st2⟩ := X1.specialBack hx (y := (⟨"com/example/ubique/ubique/ProcessId", "<init>", "(JJ)V"⟩ : MethodName)) rfl hown (mvT hZ (hw _ (List.mem_of_getElem? (i := 3) rfl))) (mvT hZ (hw _ (List.mem_of_getElem? (i := 4) rfl))) (mvT hZ (hw _ (List.mem_of_getElem? (i := 5) rfl))) (by decide) (backOf (W := 1) (rm1 l Z a0 hw [] ob1 q0 q1 _ _ h1 n0 (Z1) A1 F1_15 F1_17 g_ob1) hZ (hw _ (List.mem_of_getElem? (i := 5) rfl)) (hw _ (List.mem_of_getElem? (i := 2) rfl)) (by decide) (by decide)) (g := (mkF m 36 #[.val (.long q0), .second, .val (.long q1), .second, .val (.long q2), .second, .val (.long q3), .second, .val (.int p4), .val (.long qn), .second, .val (.long qp), .second, .unset, .unset, .unset, .unset, .unset, .unset] [(.long q1), (.long q0), (.ref ob1), (.ref ob1)])) rfl (by rw [hml]; rfl) (Steps.refl _) (a := ob1) (argsL := [(.long q0), (.long q1)]) (rest := [(.ref ob1)]) (lenOf pd0_0 rfl) rfl (by show 2 * 0 + _ ≤ _; exact Nat.le_of_eq rfl) (hb hby at_36) (fun _ _ => ⟨rfl, e1, (by decide : 1 + 0 ≤ _), (by decide : 2 + 0 ≤ _)⟩)
    dsimp only [Pt.U, Pt.locs, Pt.cells, Pt.slots] at X2 l2 y2 z2 st2 hQ2
    obtain rfl : k2 = 1 := y2
    obtain rfl : n2 = 2 := z2
    obtain ⟨rfl, N2q, K2, pE2, pF2, pG2⟩ := hQ2
    have N2 : Fr n0 L2 := by rw [l2]; exact Fr.app N0 N2q
    clear l2
    have f2_Exa_0 : Exa Z T2.heap ob1 "com/example/ubique/ubique/ProcessId" := A1.keep K2
    have Z2 : n0 ≤ T2.heap.size := Nat.le_trans (Z1) K2.1
    have KK2 : Keep h0 T2.heap [] := Keep.trans KK1 K2 ((allS (Or.inr sz_ob1) all0))
    refine Runs.trans st2 ?_
    show Runs _ _ _ _ T2 (mkF m 39 #[.val (.long q0), .second, .val (.long q1), .second, .val (.long q2), .second, .val (.long q3), .second, .val (.int p4), .val (.long qn), .second, .val (.long qp), .second, .unset, .unset, .unset, .unset, .unset, .unset] [(.ref ob1)])
    refine Runs.back (fun t_ k_ => XS.astore X2.here hx rfl (hb hby at_39) rfl rfl (l' := #[.val (.long q0), .second, .val (.long q1), .second, .val (.long q2), .second, .val (.long q3), .second, .val (.int p4), .val (.long qn), .second, .val (.long qp), .second, .val (.ref ob1), .unset, .unset, .unset, .unset, .unset]) rfl k_) ?_
    show Runs _ _ _ _ T2 (mkF m 41 #[.val (.long q0), .second, .val (.long q1), .second, .val (.long q2), .second, .val (.long q3), .second, .val (.int p4), .val (.long qn), .second, .val (.long qp), .second, .val (.ref ob1), .unset, .unset, .unset, .unset, .unset] [])
    obtain ⟨T3, h3, X3, e3, E3, A3, D3, -, st3⟩ := newO X2 hx hZ hown (hw _ (List.mem_of_getElem? (i := 0) rfl)) (hw _ (List.mem_of_getElem? (i := 1) rfl)) (hw _ (List.mem_of_getElem? (i := 2) rfl)) rfl (g := (mkF m 41 #[.val (.long q0), .second, .val (.long q1), .second, .val (.long q2), .second, .val (.long q3), .second, .val (.int p4), .val (.long qn), .second, .val (.long qp), .second, .val (.ref ob1), .unset, .unset, .unset, .unset, .unset] [])) rfl (hb hby at_41) (by decide) (by decide)
    obtain ⟨ob3, g3⟩ : ∃ z, z = T2.heap.size := ⟨_, rfl⟩
    rw [← g3] at A3 D3 st3
    have g_ob3 : n0 ≤ ob3 := Nat.le_trans (Z2) (Nat.le_of_eq g3.symm)
    have sz_ob3 : h0.size ≤ ob3 := Nat.le_trans KK2.1 (Nat.le_of_eq g3.symm)
    have ne_ob1_ob3 : ob1 ≠ ob3 := Nat.ne_of_lt (Nat.lt_of_lt_of_le pE2.lt (Nat.le_of_eq g3.symm))
    have f3_Exa_0 : Exa Z h3 ob1 "com/example/ubique/ubique/ProcessId" := Exa.ext E3 pE2
    have f3_Fld_1 : Fld Z h3 ob1 "com/example/ubique/ubique/ProcessId" "node" "J" (.long q0) := Fld.ext E3 pF2
    have f3_Fld_2 : Fld Z h3 ob1 "com/example/ubique/ubique/ProcessId" "process" "J" (.long q1) := Fld.ext E3 pG2
    have Z3 : n0 ≤ h3.size := Nat.le_trans (Z2) E3.1
    have KK3 : Keep h0 h3 [] := Keep.ext KK2 E3
    have F3_15 : Fld Z h3 ob3 "com/example/ubique/ubique/ProcessId" "node" "J" (.long (0 : Int64)) := D3 (Or.inr (hw _ (List.mem_of_getElem? (i := 15) rfl))) (ty := .long) (by decide)
    have F3_17 : Fld Z h3 ob3 "com/example/ubique/ubique/ProcessId" "process" "J" (.long (0 : Int64)) := D3 (Or.inr (hw _ (List.mem_of_getElem? (i := 17) rfl))) (ty := .long) (by decide)
    refine Runs.back st3 ?_
    show Runs _ _ _ _ T3 (mkF m 44 #[.val (.long q0), .second, .val (.long q1), .second, .val (.long q2), .second, .val (.long q3), .second, .val (.int p4), .val (.long qn), .second, .val (.long qp), .second, .val (.ref ob1), .unset, .unset, .unset, .unset, .unset] [(.ref ob3)])
    refine Runs.back (fun t_ k_ => XS.dup X3.here hx rfl (hb hby at_44) rfl rfl k_) ?_
    show Runs _ _ _ _ T3 (mkF m 45 #[.val (.long q0), .second, .val (.long q1), .second, .val (.long q2), .second, .val (.long q3), .second, .val (.int p4), .val (.long qn), .second, .val (.long qp), .second, .val (.ref ob1), .unset, .unset, .unset, .unset, .unset] [(.ref ob3), (.ref ob3)])
    refine Runs.back (fun t_ k_ => XS.lload X3.here hx rfl (hb hby at_45) rfl k_) ?_
    show Runs _ _ _ _ T3 (mkF m 47 #[.val (.long q0), .second, .val (.long q1), .second, .val (.long q2), .second, .val (.long q3), .second, .val (.int p4), .val (.long qn), .second, .val (.long qp), .second, .val (.ref ob1), .unset, .unset, .unset, .unset, .unset] [(.long qn), (.ref ob3), (.ref ob3)])
    refine Runs.back (fun t_ k_ => XS.lload X3.here hx rfl (hb hby at_47) rfl k_) ?_
    show Runs _ _ _ _ T3 (mkF m 49 #[.val (.long q0), .second, .val (.long q1), .second, .val (.long q2), .second, .val (.long q3), .second, .val (.int p4), .val (.long qn), .second, .val (.long qp), .second, .val (.ref ob1), .unset, .unset, .unset, .unset, .unset] [(.long qp), (.long qn), (.ref ob3), (.ref ob3)])
    obtain ⟨_, _, ⟨T4, L4, k4, n4⟩, -, X4, ⟨Lc4, hQ4, l4, y4, z4⟩, st4⟩ := X3.specialBack hx (y := (⟨"com/example/ubique/ubique/ProcessId", "<init>", "(JJ)V"⟩ : MethodName)) rfl hown (mvT hZ (hw _ (List.mem_of_getElem? (i := 3) rfl))) (mvT hZ (hw _ (List.mem_of_getElem? (i := 4) rfl))) (mvT hZ (hw _ (List.mem_of_getElem? (i := 5) rfl))) (by decide) (backOf (W := 1) (rm1 l Z a0 hw [] ob3 qn qp _ _ h3 n0 (Z3) A3 F3_15 F3_17 g_ob3) hZ (hw _ (List.mem_of_getElem? (i := 5) rfl)) (hw _ (List.mem_of_getElem? (i := 2) rfl)) (by decide) (by decide)) (g := (mkF m 49 #[.val (.long q0), .second, .val (.long q1), .second, .val (.long q2), .second, .val (.long q3), .second, .val (.int p4), .val (.long qn), .second, .val (.long qp), .second, .val (.ref ob1), .unset, .unset, .unset, .unset, .unset] [(.long qp), (.long qn), (.ref ob3), (.ref ob3)])) rfl (by rw [hml]; rfl) (Steps.refl _) (a := ob3) (argsL := [(.long qn), (.long qp)]) (rest := [(.ref ob3)]) (lenOf pd0_0 rfl) rfl (by show 2 * 0 + _ ≤ _; exact Nat.le_of_eq rfl) (hb hby at_49) (fun _ _ => ⟨rfl, e3, (by decide : 2 + 0 ≤ _), (by decide : 4 + 0 ≤ _)⟩)
    dsimp only [Pt.U, Pt.locs, Pt.cells, Pt.slots] at X4 l4 y4 z4 st4 hQ4
    obtain rfl : k4 = 2 := y4
    obtain rfl : n4 = 4 := z4
    obtain ⟨rfl, N4q, K4, pE4, pF4, pG4⟩ := hQ4
    have N4 : Fr n0 L4 := by rw [l4]; exact Fr.app N2 N4q
    clear l4
    have f4_Exa_0 : Exa Z T4.heap ob1 "com/example/ubique/ubique/ProcessId" := f3_Exa_0.keep K4
    have f4_Fld_1 : Fld Z T4.heap ob1 "com/example/ubique/ubique/ProcessId" "node" "J" (.long q0) := f3_Fld_1.keep K4 (ninS ne_ob1_ob3 nin0)
    have f4_Fld_2 : Fld Z T4.heap ob1 "com/example/ubique/ubique/ProcessId" "process" "J" (.long q1) := f3_Fld_2.keep K4 (ninS ne_ob1_ob3 nin0)
    have f4_Exa_3 : Exa Z T4.heap ob3 "com/example/ubique/ubique/ProcessId" := A3.keep K4
    have Z4 : n0 ≤ T4.heap.size := Nat.le_trans (Z3) K4.1
    have KK4 : Keep h0 T4.heap [] := Keep.trans KK3 K4 ((allS (Or.inr sz_ob3) all0))
    refine Runs.trans st4 ?_
    show Runs _ _ _ _ T4 (mkF m 52 #[.val (.long q0), .second, .val (.long q1), .second, .val (.long q2), .second, .val (.long q3), .second, .val (.int p4), .val (.long qn), .second, .val (.long qp), .second, .val (.ref ob1), .unset, .unset, .unset, .unset, .unset] [(.ref ob3)])
    refine Runs.back (fun t_ k_ => XS.astore X4.here hx rfl (hb hby at_52) rfl rfl (l' := #[.val (.long q0), .second, .val (.long q1), .second, .val (.long q2), .second, .val (.long q3), .second, .val (.int p4), .val (.long qn), .second, .val (.long qp), .second, .val (.ref ob1), .val (.ref ob3), .unset, .unset, .unset, .unset]) rfl k_) ?_
    show Runs _ _ _ _ T4 (mkF m 54 #[.val (.long q0), .second, .val (.long q1), .second, .val (.long q2), .second, .val (.long q3), .second, .val (.int p4), .val (.long qn), .second, .val (.long qp), .second, .val (.ref ob1), .val (.ref ob3), .unset, .unset, .unset, .unset] [])
    refine Runs.join (α := Int32) (P := fun whE => whE = if qn = q0 ∧ qp = q1 then (1 : Int32) else (0 : Int32)) (F := fun whE => (mkF m 75 #[.val (.long q0), .second, .val (.long q1), .second, .val (.long q2), .second, .val (.long q3), .second, .val (.int p4), .val (.long qn), .second, .val (.long qp), .second, .val (.ref ob1), .val (.ref ob3), .val (.int whE), .unset, .unset, .unset] [])) ?_ ?_
    · rintro whE ehE
      show Runs _ _ _ _ T4 (mkF m 75 #[.val (.long q0), .second, .val (.long q1), .second, .val (.long q2), .second, .val (.long q3), .second, .val (.int p4), .val (.long qn), .second, .val (.long qp), .second, .val (.ref ob1), .val (.ref ob3), .val (.int whE), .unset, .unset, .unset] [])
      by_cases hE : qn = q0 ∧ qp = q1
      · obtain rfl : whE = (1 : Int32) := by rw [ehE, if_pos hE]
        show Runs _ _ _ _ T4 (mkF m 75 #[.val (.long q0), .second, .val (.long q1), .second, .val (.long q2), .second, .val (.long q3), .second, .val (.int p4), .val (.long qn), .second, .val (.long qp), .second, .val (.ref ob1), .val (.ref ob3), .val (.int (1 : Int32)), .unset, .unset, .unset] [])
        refine Runs.back (fun t_ k_ => XS.aconstNull X4.here hx rfl (hb hby at_75) k_) ?_
        show Runs _ _ _ _ T4 (mkF m 76 #[.val (.long q0), .second, .val (.long q1), .second, .val (.long q2), .second, .val (.long q3), .second, .val (.int p4), .val (.long qn), .second, .val (.long qp), .second, .val (.ref ob1), .val (.ref ob3), .val (.int (1 : Int32)), .unset, .unset, .unset] [.null])
        refine Runs.back (fun t_ k_ => XS.astore X4.here hx rfl (hb hby at_76) rfl rfl (l' := #[.val (.long q0), .second, .val (.long q1), .second, .val (.long q2), .second, .val (.long q3), .second, .val (.int p4), .val (.long qn), .second, .val (.long qp), .second, .val (.ref ob1), .val (.ref ob3), .val (.int (1 : Int32)), .val .null, .unset, .unset]) rfl k_) ?_
        show Runs _ _ _ _ T4 (mkF m 78 #[.val (.long q0), .second, .val (.long q1), .second, .val (.long q2), .second, .val (.long q3), .second, .val (.int p4), .val (.long qn), .second, .val (.long qp), .second, .val (.ref ob1), .val (.ref ob3), .val (.int (1 : Int32)), .val .null, .unset, .unset] [])
        refine Runs.back (fun t_ k_ => XS.lloadN X4.here hx rfl (hb hby at_78) rfl k_) ?_
        show Runs _ _ _ _ T4 (mkF m 79 #[.val (.long q0), .second, .val (.long q1), .second, .val (.long q2), .second, .val (.long q3), .second, .val (.int p4), .val (.long qn), .second, .val (.long qp), .second, .val (.ref ob1), .val (.ref ob3), .val (.int (1 : Int32)), .val .null, .unset, .unset] [(.long q0)])
        obtain ⟨_, _, ⟨T5, L5, k5, n5⟩, -, X5, ⟨Lc5, hQ5, l5, y5, z5⟩, st5⟩ := Jvm.LawKit.callS X4 hx (y := (⟨"java/lang/Long", "valueOf", "(J)Ljava/lang/Long;"⟩ : MethodName)) hown (mvT hZ (hw _ (List.mem_of_getElem? (i := 18) rfl))) (mvT hZ (hw _ (List.mem_of_getElem? (i := 19) rfl))) (mvT hZ (hw _ (List.mem_of_getElem? (i := 20) rfl))) (mvT hZ (hw _ (List.mem_of_getElem? (i := 21) rfl))) (by decide) (backOf (W := 0) (rm4 l Z a0 hw [] q0 arr ce T4.heap n0 (Z4) (own_sta S1 KK4) (AC.keep KK4 nin0) (fun i hi => (hC i hi).imp fun e z => ⟨z.1, z.2.keep KK4⟩)) hZ (hw _ (List.mem_of_getElem? (i := 21) rfl)) (hw _ (List.mem_of_getElem? (i := 20) rfl)) (by decide) (by decide)) (g := (mkF m 79 #[.val (.long q0), .second, .val (.long q1), .second, .val (.long q2), .second, .val (.long q3), .second, .val (.int p4), .val (.long qn), .second, .val (.long qp), .second, .val (.ref ob1), .val (.ref ob3), .val (.int (1 : Int32)), .val .null, .unset, .unset] [(.long q0)])) rfl (by rw [hml]; rfl) (argsL := [(.long q0)]) (rest := []) (lenOf pd0_1 rfl) rfl (by show 2 * 0 + _ ≤ _; exact Nat.le_of_eq rfl) (hb hby at_79) (fun _ _ => ⟨rfl, rfl, (by decide : 2 + 1 ≤ _), (by decide : 4 + 1 ≤ _)⟩)
        dsimp only [Pt.U, Pt.locs, Pt.cells, Pt.slots] at X5 l5 y5 z5 st5 hQ5
        obtain rfl : k5 = 3 := y5
        obtain rfl : n5 = 5 := z5
        obtain ⟨ol5, rfl, N5q, K5, lE5⟩ := hQ5
        have N5 : Fr n0 L5 := by rw [l5]; exact Fr.app N4 N5q
        clear l5
        have f5_Exa_0 : Exa Z T5.heap ob1 "com/example/ubique/ubique/ProcessId" := f4_Exa_0.keep K5
        have f5_Fld_1 : Fld Z T5.heap ob1 "com/example/ubique/ubique/ProcessId" "node" "J" (.long q0) := f4_Fld_1.keep K5 nin0
        have f5_Fld_2 : Fld Z T5.heap ob1 "com/example/ubique/ubique/ProcessId" "process" "J" (.long q1) := f4_Fld_2.keep K5 nin0
        have f5_Exa_3 : Exa Z T5.heap ob3 "com/example/ubique/ubique/ProcessId" := pE4.keep K5
        have f5_Fld_4 : Fld Z T5.heap ob3 "com/example/ubique/ubique/ProcessId" "node" "J" (.long qn) := pF4.keep K5 nin0
        have f5_Fld_5 : Fld Z T5.heap ob3 "com/example/ubique/ubique/ProcessId" "process" "J" (.long qp) := pG4.keep K5 nin0
        have Z5 : n0 ≤ T5.heap.size := Nat.le_trans (Z4) K5.1
        have KK5 : Keep h0 T5.heap [] := Keep.trans KK4 K5 (all0)
        refine Runs.back st5 ?_
        show Runs _ _ _ _ T5 (mkF m 82 #[.val (.long q0), .second, .val (.long q1), .second, .val (.long q2), .second, .val (.long q3), .second, .val (.int p4), .val (.long qn), .second, .val (.long qp), .second, .val (.ref ob1), .val (.ref ob3), .val (.int (1 : Int32)), .val .null, .unset, .unset] [(.ref ol5)])
        refine Runs.back (fun t_ k_ => XS.astore X5.here hx rfl (hb hby at_82) rfl rfl (l' := #[.val (.long q0), .second, .val (.long q1), .second, .val (.long q2), .second, .val (.long q3), .second, .val (.int p4), .val (.long qn), .second, .val (.long qp), .second, .val (.ref ob1), .val (.ref ob3), .val (.int (1 : Int32)), .val .null, .val (.ref ol5), .unset]) rfl k_) ?_
        show Runs _ _ _ _ T5 (mkF m 84 #[.val (.long q0), .second, .val (.long q1), .second, .val (.long q2), .second, .val (.long q3), .second, .val (.int p4), .val (.long qn), .second, .val (.long qp), .second, .val (.ref ob1), .val (.ref ob3), .val (.int (1 : Int32)), .val .null, .val (.ref ol5), .unset] [])
        refine Runs.back (fun t_ k_ => XS.aload X5.here hx rfl (hb hby at_84) rfl rfl k_) ?_
        show Runs _ _ _ _ T5 (mkF m 86 #[.val (.long q0), .second, .val (.long q1), .second, .val (.long q2), .second, .val (.long q3), .second, .val (.int p4), .val (.long qn), .second, .val (.long qp), .second, .val (.ref ob1), .val (.ref ob3), .val (.int (1 : Int32)), .val .null, .val (.ref ol5), .unset] [(.ref ob1)])
        refine Runs.back (fun t_ k_ => XS.aload X5.here hx rfl (hb hby at_86) rfl rfl k_) ?_
        show Runs _ _ _ _ T5 (mkF m 88 #[.val (.long q0), .second, .val (.long q1), .second, .val (.long q2), .second, .val (.long q3), .second, .val (.int p4), .val (.long qn), .second, .val (.long qp), .second, .val (.ref ob1), .val (.ref ob3), .val (.int (1 : Int32)), .val .null, .val (.ref ol5), .unset] [(.ref ob3), (.ref ob1)])
        obtain ⟨cq6, kq6, q6a, q6b, q6c⟩ := isOf hZ rfl f5_Exa_0
        obtain ⟨_, _, ⟨T6, L6, k6, n6⟩, -, X6, ⟨Lc6, hQ6, l6, y6, z6⟩, st6⟩ := X5.virtualBack hx (y := (⟨"com/example/ubique/ubique/ProcessId", "equals", "(Ljava/lang/Object;)Z"⟩ : MethodName)) (z := (⟨"com/example/ubique/ubique/ProcessId", "equals", "(Ljava/lang/Object;)Z"⟩ : MethodName)) hown (mvT hZ (hw _ (List.mem_of_getElem? (i := 26) rfl))) (mvT hZ (hw _ (List.mem_of_getElem? (i := 27) rfl))) (notFace_of_selects (args := #[]) (mvT hZ (hw _ (List.mem_of_getElem? (i := 29) rfl)))) (mvT hZ (hw _ (List.mem_of_getElem? (i := 29) rfl))) (mvT hZ (hw _ (List.mem_of_getElem? (i := 28) rfl))) (by decide) (backOf (W := 0) (rm5s l Z a0 hw [] ob1 ob3 q0 q1 qn qp T5.heap n0 (Z5) f5_Fld_1 f5_Fld_2 f5_Exa_3 f5_Fld_4 f5_Fld_5) hZ (hw _ (List.mem_of_getElem? (i := 30) rfl)) (hw _ (List.mem_of_getElem? (i := 2) rfl)) (by decide) (by decide)) q6a q6c (g := (mkF m 88 #[.val (.long q0), .second, .val (.long q1), .second, .val (.long q2), .second, .val (.long q3), .second, .val (.int p4), .val (.long qn), .second, .val (.long qp), .second, .val (.ref ob1), .val (.ref ob3), .val (.int (1 : Int32)), .val .null, .val (.ref ol5), .unset] [(.ref ob3), (.ref ob1)])) rfl (by rw [hml]; rfl) (Steps.refl _) (argsL := [(.ref ob3)]) (rest := []) (lenOf pd0_2 rfl) rfl (by show 2 * 0 + _ ≤ _; exact Nat.le_of_eq rfl) (hb hby at_88) (fun _ _ => ⟨rfl, rfl, (by decide : 3 + 0 ≤ _), (by decide : 5 + 0 ≤ _)⟩)
        dsimp only [Pt.U, Pt.locs, Pt.cells, Pt.slots] at X6 l6 y6 z6 st6 hQ6
        obtain rfl : k6 = 3 := y6
        obtain rfl : n6 = 5 := z6
        obtain ⟨rfl, N6q, eq6⟩ := hQ6
        have N6 : Fr n0 L6 := by rw [l6]; exact Fr.app N5 N6q
        clear l6
        refine Runs.trans st6 ?_
        show Runs _ _ _ _ T6 (mkF m 91 #[.val (.long q0), .second, .val (.long q1), .second, .val (.long q2), .second, .val (.long q3), .second, .val (.int p4), .val (.long qn), .second, .val (.long qp), .second, .val (.ref ob1), .val (.ref ob3), .val (.int (1 : Int32)), .val .null, .val (.ref ol5), .unset] [(.int (eqF q0 q1 qn qp))])
        refine Runs.back (fun t_ k_ => XS.iload X6.here hx rfl (hb hby at_91) rfl k_) ?_
        show Runs _ _ _ _ T6 (mkF m 93 #[.val (.long q0), .second, .val (.long q1), .second, .val (.long q2), .second, .val (.long q3), .second, .val (.int p4), .val (.long qn), .second, .val (.long qp), .second, .val (.ref ob1), .val (.ref ob3), .val (.int (1 : Int32)), .val .null, .val (.ref ol5), .unset] [(.int (1 : Int32)), (.int (eqF q0 q1 qn qp))])
        refine Runs.back (fun t_ k_ => XS.icmpNo X6.here hx rfl (hb hby at_93) rfl (teq (show (eqF q0 q1 qn qp) = (1 : Int32) from (eqF1 hE))).2 k_) ?_
        show Runs _ _ _ _ T6 (mkF m 96 #[.val (.long q0), .second, .val (.long q1), .second, .val (.long q2), .second, .val (.long q3), .second, .val (.int p4), .val (.long qn), .second, .val (.long qp), .second, .val (.ref ob1), .val (.ref ob3), .val (.int (1 : Int32)), .val .null, .val (.ref ol5), .unset] [])
        refine Runs.back (fun t_ k_ => XS.iconst X6.here hx rfl (hb hby at_96) k_) ?_
        show Runs _ _ _ _ T6 (mkF m 97 #[.val (.long q0), .second, .val (.long q1), .second, .val (.long q2), .second, .val (.long q3), .second, .val (.int p4), .val (.long qn), .second, .val (.long qp), .second, .val (.ref ob1), .val (.ref ob3), .val (.int (1 : Int32)), .val .null, .val (.ref ol5), .unset] [(.int (1 : Int32))])
        refine Runs.back (fun t_ k_ => XS.goto X6.here hx rfl (pc0 := 97) (pc' := 101) rfl (hb hby at_97) (by decide) (by decide) k_) ?_
        show Runs _ _ _ _ T6 (mkF m 101 #[.val (.long q0), .second, .val (.long q1), .second, .val (.long q2), .second, .val (.long q3), .second, .val (.int p4), .val (.long qn), .second, .val (.long qp), .second, .val (.ref ob1), .val (.ref ob3), .val (.int (1 : Int32)), .val .null, .val (.ref ol5), .unset] [(.int (1 : Int32))])
        refine Runs.back (fun t_ k_ => XS.istore X6.here hx rfl (hb hby at_101) rfl (l' := #[.val (.long q0), .second, .val (.long q1), .second, .val (.long q2), .second, .val (.long q3), .second, .val (.int p4), .val (.long qn), .second, .val (.long qp), .second, .val (.ref ob1), .val (.ref ob3), .val (.int (1 : Int32)), .val .null, .val (.ref ol5), .val (.int (1 : Int32))]) rfl k_) ?_
        show Runs _ _ _ _ T6 (mkF m 103 #[.val (.long q0), .second, .val (.long q1), .second, .val (.long q2), .second, .val (.long q3), .second, .val (.int p4), .val (.long qn), .second, .val (.long qp), .second, .val (.ref ob1), .val (.ref ob3), .val (.int (1 : Int32)), .val .null, .val (.ref ol5), .val (.int (1 : Int32))] [])
        refine Runs.back (fun t_ k_ => XS.iload X6.here hx rfl (hb hby at_103) rfl k_) ?_
        show Runs _ _ _ _ T6 (mkF m 105 #[.val (.long q0), .second, .val (.long q1), .second, .val (.long q2), .second, .val (.long q3), .second, .val (.int p4), .val (.long qn), .second, .val (.long qp), .second, .val (.ref ob1), .val (.ref ob3), .val (.int (1 : Int32)), .val .null, .val (.ref ol5), .val (.int (1 : Int32))] [(.int (1 : Int32))])
        refine Runs.back (fun t_ k_ => XS.ifNo X6.here hx rfl (hb hby at_105) rfl ((if0 _ _).trans (feq (show ¬ ((1 : Int32) = (0 : Int32)) from (by decide))).1) k_) ?_
        show Runs _ _ _ _ T6 (mkF m 108 #[.val (.long q0), .second, .val (.long q1), .second, .val (.long q2), .second, .val (.long q3), .second, .val (.int p4), .val (.long qn), .second, .val (.long qp), .second, .val (.ref ob1), .val (.ref ob3), .val (.int (1 : Int32)), .val .null, .val (.ref ol5), .val (.int (1 : Int32))] [])
        refine Runs.back (fun t_ k_ => XS.aload X6.here hx rfl (hb hby at_108) rfl rfl k_) ?_
        show Runs _ _ _ _ T6 (mkF m 110 #[.val (.long q0), .second, .val (.long q1), .second, .val (.long q2), .second, .val (.long q3), .second, .val (.int p4), .val (.long qn), .second, .val (.long qp), .second, .val (.ref ob1), .val (.ref ob3), .val (.int (1 : Int32)), .val .null, .val (.ref ol5), .val (.int (1 : Int32))] [(.ref ob3)])
        refine Runs.back (fun t_ k_ => XS.aload X6.here hx rfl (hb hby at_110) rfl rfl k_) ?_
        show Runs _ _ _ _ T6 (mkF m 112 #[.val (.long q0), .second, .val (.long q1), .second, .val (.long q2), .second, .val (.long q3), .second, .val (.int p4), .val (.long qn), .second, .val (.long qp), .second, .val (.ref ob1), .val (.ref ob3), .val (.int (1 : Int32)), .val .null, .val (.ref ol5), .val (.int (1 : Int32))] [(.ref ob1), (.ref ob3)])
        obtain ⟨cq7, kq7, q7a, q7b, q7c⟩ := isOf hZ eq6 f5_Exa_3
        obtain ⟨_, _, ⟨T7, L7, k7, n7⟩, -, X7, ⟨Lc7, hQ7, l7, y7, z7⟩, st7⟩ := X6.virtualBack hx (y := (⟨"com/example/ubique/ubique/ProcessId", "equals", "(Ljava/lang/Object;)Z"⟩ : MethodName)) (z := (⟨"com/example/ubique/ubique/ProcessId", "equals", "(Ljava/lang/Object;)Z"⟩ : MethodName)) hown (mvT hZ (hw _ (List.mem_of_getElem? (i := 26) rfl))) (mvT hZ (hw _ (List.mem_of_getElem? (i := 27) rfl))) (notFace_of_selects (args := #[]) (mvT hZ (hw _ (List.mem_of_getElem? (i := 29) rfl)))) (mvT hZ (hw _ (List.mem_of_getElem? (i := 29) rfl))) (mvT hZ (hw _ (List.mem_of_getElem? (i := 28) rfl))) (by decide) (backOf (W := 0) (rm5s l Z a0 hw [] ob3 ob1 qn qp q0 q1 T5.heap n0 (Z5) f5_Fld_4 f5_Fld_5 f5_Exa_0 f5_Fld_1 f5_Fld_2) hZ (hw _ (List.mem_of_getElem? (i := 30) rfl)) (hw _ (List.mem_of_getElem? (i := 2) rfl)) (by decide) (by decide)) q7a q7c (g := (mkF m 112 #[.val (.long q0), .second, .val (.long q1), .second, .val (.long q2), .second, .val (.long q3), .second, .val (.int p4), .val (.long qn), .second, .val (.long qp), .second, .val (.ref ob1), .val (.ref ob3), .val (.int (1 : Int32)), .val .null, .val (.ref ol5), .val (.int (1 : Int32))] [(.ref ob1), (.ref ob3)])) rfl (by rw [hml]; rfl) (Steps.refl _) (argsL := [(.ref ob1)]) (rest := []) (lenOf pd0_2 rfl) rfl (by show 2 * 0 + _ ≤ _; exact Nat.le_of_eq rfl) (hb hby at_112) (fun _ _ => ⟨rfl, eq6, (by decide : 3 + 0 ≤ _), (by decide : 5 + 0 ≤ _)⟩)
        dsimp only [Pt.U, Pt.locs, Pt.cells, Pt.slots] at X7 l7 y7 z7 st7 hQ7
        obtain rfl : k7 = 3 := y7
        obtain rfl : n7 = 5 := z7
        obtain ⟨rfl, N7q, eq7⟩ := hQ7
        have N7 : Fr n0 L7 := by rw [l7]; exact Fr.app N6 N7q
        clear l7
        refine Runs.trans st7 ?_
        show Runs _ _ _ _ T7 (mkF m 115 #[.val (.long q0), .second, .val (.long q1), .second, .val (.long q2), .second, .val (.long q3), .second, .val (.int p4), .val (.long qn), .second, .val (.long qp), .second, .val (.ref ob1), .val (.ref ob3), .val (.int (1 : Int32)), .val .null, .val (.ref ol5), .val (.int (1 : Int32))] [(.int (eqF qn qp q0 q1))])
        refine Runs.back (fun t_ k_ => XS.iload X7.here hx rfl (hb hby at_115) rfl k_) ?_
        show Runs _ _ _ _ T7 (mkF m 117 #[.val (.long q0), .second, .val (.long q1), .second, .val (.long q2), .second, .val (.long q3), .second, .val (.int p4), .val (.long qn), .second, .val (.long qp), .second, .val (.ref ob1), .val (.ref ob3), .val (.int (1 : Int32)), .val .null, .val (.ref ol5), .val (.int (1 : Int32))] [(.int (1 : Int32)), (.int (eqF qn qp q0 q1))])
        refine Runs.back (fun t_ k_ => XS.icmpNo X7.here hx rfl (hb hby at_117) rfl (teq (show (eqF qn qp q0 q1) = (1 : Int32) from (eqF1' hE))).2 k_) ?_
        show Runs _ _ _ _ T7 (mkF m 120 #[.val (.long q0), .second, .val (.long q1), .second, .val (.long q2), .second, .val (.long q3), .second, .val (.int p4), .val (.long qn), .second, .val (.long qp), .second, .val (.ref ob1), .val (.ref ob3), .val (.int (1 : Int32)), .val .null, .val (.ref ol5), .val (.int (1 : Int32))] [])
        refine Runs.back (fun t_ k_ => XS.iconst X7.here hx rfl (hb hby at_120) k_) ?_
        show Runs _ _ _ _ T7 (mkF m 121 #[.val (.long q0), .second, .val (.long q1), .second, .val (.long q2), .second, .val (.long q3), .second, .val (.int p4), .val (.long qn), .second, .val (.long qp), .second, .val (.ref ob1), .val (.ref ob3), .val (.int (1 : Int32)), .val .null, .val (.ref ol5), .val (.int (1 : Int32))] [(.int (1 : Int32))])
        refine Runs.back (fun t_ k_ => XS.goto X7.here hx rfl (pc0 := 121) (pc' := 125) rfl (hb hby at_121) (by decide) (by decide) k_) ?_
        show Runs _ _ _ _ T7 (mkF m 125 #[.val (.long q0), .second, .val (.long q1), .second, .val (.long q2), .second, .val (.long q3), .second, .val (.int p4), .val (.long qn), .second, .val (.long qp), .second, .val (.ref ob1), .val (.ref ob3), .val (.int (1 : Int32)), .val .null, .val (.ref ol5), .val (.int (1 : Int32))] [(.int (1 : Int32))])
        refine Runs.back (fun t_ k_ => XS.istore X7.here hx rfl (hb hby at_125) rfl (l' := #[.val (.long q0), .second, .val (.long q1), .second, .val (.long q2), .second, .val (.long q3), .second, .val (.int p4), .val (.long qn), .second, .val (.long qp), .second, .val (.ref ob1), .val (.ref ob3), .val (.int (1 : Int32)), .val .null, .val (.ref ol5), .val (.int (1 : Int32))]) rfl k_) ?_
        show Runs _ _ _ _ T7 (mkF m 127 #[.val (.long q0), .second, .val (.long q1), .second, .val (.long q2), .second, .val (.long q3), .second, .val (.int p4), .val (.long qn), .second, .val (.long qp), .second, .val (.ref ob1), .val (.ref ob3), .val (.int (1 : Int32)), .val .null, .val (.ref ol5), .val (.int (1 : Int32))] [])
        refine Runs.back (fun t_ k_ => XS.iload X7.here hx rfl (hb hby at_127) rfl k_) ?_
        show Runs _ _ _ _ T7 (mkF m 129 #[.val (.long q0), .second, .val (.long q1), .second, .val (.long q2), .second, .val (.long q3), .second, .val (.int p4), .val (.long qn), .second, .val (.long qp), .second, .val (.ref ob1), .val (.ref ob3), .val (.int (1 : Int32)), .val .null, .val (.ref ol5), .val (.int (1 : Int32))] [(.int (1 : Int32))])
        refine Runs.back (fun t_ k_ => XS.ifNo X7.here hx rfl (hb hby at_129) rfl ((if0 _ _).trans (feq (show ¬ ((1 : Int32) = (0 : Int32)) from (by decide))).1) k_) ?_
        show Runs _ _ _ _ T7 (mkF m 132 #[.val (.long q0), .second, .val (.long q1), .second, .val (.long q2), .second, .val (.long q3), .second, .val (.int p4), .val (.long qn), .second, .val (.long qp), .second, .val (.ref ob1), .val (.ref ob3), .val (.int (1 : Int32)), .val .null, .val (.ref ol5), .val (.int (1 : Int32))] [])
        refine Runs.back (fun t_ k_ => XS.aload X7.here hx rfl (hb hby at_132) rfl rfl k_) ?_
        show Runs _ _ _ _ T7 (mkF m 134 #[.val (.long q0), .second, .val (.long q1), .second, .val (.long q2), .second, .val (.long q3), .second, .val (.int p4), .val (.long qn), .second, .val (.long qp), .second, .val (.ref ob1), .val (.ref ob3), .val (.int (1 : Int32)), .val .null, .val (.ref ol5), .val (.int (1 : Int32))] [(.ref ob1)])
        refine Runs.back (fun t_ k_ => XS.aload X7.here hx rfl (hb hby at_134) rfl rfl k_) ?_
        show Runs _ _ _ _ T7 (mkF m 136 #[.val (.long q0), .second, .val (.long q1), .second, .val (.long q2), .second, .val (.long q3), .second, .val (.int p4), .val (.long qn), .second, .val (.long qp), .second, .val (.ref ob1), .val (.ref ob3), .val (.int (1 : Int32)), .val .null, .val (.ref ol5), .val (.int (1 : Int32))] [(.ref ob1), (.ref ob1)])
        obtain ⟨cq8, kq8, q8a, q8b, q8c⟩ := isOf hZ eq7 f5_Exa_0
        obtain ⟨_, _, ⟨T8, L8, k8, n8⟩, -, X8, ⟨Lc8, hQ8, l8, y8, z8⟩, st8⟩ := X7.virtualBack hx (y := (⟨"com/example/ubique/ubique/ProcessId", "equals", "(Ljava/lang/Object;)Z"⟩ : MethodName)) (z := (⟨"com/example/ubique/ubique/ProcessId", "equals", "(Ljava/lang/Object;)Z"⟩ : MethodName)) hown (mvT hZ (hw _ (List.mem_of_getElem? (i := 26) rfl))) (mvT hZ (hw _ (List.mem_of_getElem? (i := 27) rfl))) (notFace_of_selects (args := #[]) (mvT hZ (hw _ (List.mem_of_getElem? (i := 29) rfl)))) (mvT hZ (hw _ (List.mem_of_getElem? (i := 29) rfl))) (mvT hZ (hw _ (List.mem_of_getElem? (i := 28) rfl))) (by decide) (backOf (W := 0) (rm5s l Z a0 hw [] ob1 ob1 q0 q1 q0 q1 T5.heap n0 (Z5) f5_Fld_1 f5_Fld_2 f5_Exa_0 f5_Fld_1 f5_Fld_2) hZ (hw _ (List.mem_of_getElem? (i := 30) rfl)) (hw _ (List.mem_of_getElem? (i := 2) rfl)) (by decide) (by decide)) q8a q8c (g := (mkF m 136 #[.val (.long q0), .second, .val (.long q1), .second, .val (.long q2), .second, .val (.long q3), .second, .val (.int p4), .val (.long qn), .second, .val (.long qp), .second, .val (.ref ob1), .val (.ref ob3), .val (.int (1 : Int32)), .val .null, .val (.ref ol5), .val (.int (1 : Int32))] [(.ref ob1), (.ref ob1)])) rfl (by rw [hml]; rfl) (Steps.refl _) (argsL := [(.ref ob1)]) (rest := []) (lenOf pd0_2 rfl) rfl (by show 2 * 0 + _ ≤ _; exact Nat.le_of_eq rfl) (hb hby at_136) (fun _ _ => ⟨rfl, eq7, (by decide : 3 + 0 ≤ _), (by decide : 5 + 0 ≤ _)⟩)
        dsimp only [Pt.U, Pt.locs, Pt.cells, Pt.slots] at X8 l8 y8 z8 st8 hQ8
        obtain rfl : k8 = 3 := y8
        obtain rfl : n8 = 5 := z8
        obtain ⟨rfl, N8q, eq8⟩ := hQ8
        have N8 : Fr n0 L8 := by rw [l8]; exact Fr.app N7 N8q
        clear l8
        refine Runs.trans st8 ?_
        show Runs _ _ _ _ T8 (mkF m 139 #[.val (.long q0), .second, .val (.long q1), .second, .val (.long q2), .second, .val (.long q3), .second, .val (.int p4), .val (.long qn), .second, .val (.long qp), .second, .val (.ref ob1), .val (.ref ob3), .val (.int (1 : Int32)), .val .null, .val (.ref ol5), .val (.int (1 : Int32))] [(.int (eqF q0 q1 q0 q1))])
        refine Runs.back (fun t_ k_ => XS.ifNo X8.here hx rfl (hb hby at_139) rfl ((if0 _ _).trans (feq (show ¬ ((eqF q0 q1 q0 q1) = (0 : Int32)) from (by rw [eqF1 ⟨rfl, rfl⟩]; decide))).1) k_) ?_
        show Runs _ _ _ _ T8 (mkF m 142 #[.val (.long q0), .second, .val (.long q1), .second, .val (.long q2), .second, .val (.long q3), .second, .val (.int p4), .val (.long qn), .second, .val (.long qp), .second, .val (.ref ob1), .val (.ref ob3), .val (.int (1 : Int32)), .val .null, .val (.ref ol5), .val (.int (1 : Int32))] [])
        refine Runs.back (fun t_ k_ => XS.iconst X8.here hx rfl (hb hby at_142) k_) ?_
        show Runs _ _ _ _ T8 (mkF m 143 #[.val (.long q0), .second, .val (.long q1), .second, .val (.long q2), .second, .val (.long q3), .second, .val (.int p4), .val (.long qn), .second, .val (.long qp), .second, .val (.ref ob1), .val (.ref ob3), .val (.int (1 : Int32)), .val .null, .val (.ref ol5), .val (.int (1 : Int32))] [(.int (1 : Int32))])
        refine Runs.back (fun t_ k_ => XS.goto X8.here hx rfl (pc0 := 143) (pc' := 147) rfl (hb hby at_143) (by decide) (by decide) k_) ?_
        show Runs _ _ _ _ T8 (mkF m 147 #[.val (.long q0), .second, .val (.long q1), .second, .val (.long q2), .second, .val (.long q3), .second, .val (.int p4), .val (.long qn), .second, .val (.long qp), .second, .val (.ref ob1), .val (.ref ob3), .val (.int (1 : Int32)), .val .null, .val (.ref ol5), .val (.int (1 : Int32))] [(.int (1 : Int32))])
        refine Runs.back (fun t_ k_ => XS.istore X8.here hx rfl (hb hby at_147) rfl (l' := #[.val (.long q0), .second, .val (.long q1), .second, .val (.long q2), .second, .val (.long q3), .second, .val (.int p4), .val (.long qn), .second, .val (.long qp), .second, .val (.ref ob1), .val (.ref ob3), .val (.int (1 : Int32)), .val .null, .val (.ref ol5), .val (.int (1 : Int32))]) rfl k_) ?_
        show Runs _ _ _ _ T8 (mkF m 149 #[.val (.long q0), .second, .val (.long q1), .second, .val (.long q2), .second, .val (.long q3), .second, .val (.int p4), .val (.long qn), .second, .val (.long qp), .second, .val (.ref ob1), .val (.ref ob3), .val (.int (1 : Int32)), .val .null, .val (.ref ol5), .val (.int (1 : Int32))] [])
        refine Runs.back (fun t_ k_ => XS.iload X8.here hx rfl (hb hby at_149) rfl k_) ?_
        show Runs _ _ _ _ T8 (mkF m 151 #[.val (.long q0), .second, .val (.long q1), .second, .val (.long q2), .second, .val (.long q3), .second, .val (.int p4), .val (.long qn), .second, .val (.long qp), .second, .val (.ref ob1), .val (.ref ob3), .val (.int (1 : Int32)), .val .null, .val (.ref ol5), .val (.int (1 : Int32))] [(.int (1 : Int32))])
        refine Runs.back (fun t_ k_ => XS.ifNo X8.here hx rfl (hb hby at_151) rfl ((if0 _ _).trans (feq (show ¬ ((1 : Int32) = (0 : Int32)) from (by decide))).1) k_) ?_
        show Runs _ _ _ _ T8 (mkF m 154 #[.val (.long q0), .second, .val (.long q1), .second, .val (.long q2), .second, .val (.long q3), .second, .val (.int p4), .val (.long qn), .second, .val (.long qp), .second, .val (.ref ob1), .val (.ref ob3), .val (.int (1 : Int32)), .val .null, .val (.ref ol5), .val (.int (1 : Int32))] [])
        refine Runs.back (fun t_ k_ => XS.aload X8.here hx rfl (hb hby at_154) rfl rfl k_) ?_
        show Runs _ _ _ _ T8 (mkF m 156 #[.val (.long q0), .second, .val (.long q1), .second, .val (.long q2), .second, .val (.long q3), .second, .val (.int p4), .val (.long qn), .second, .val (.long qp), .second, .val (.ref ob1), .val (.ref ob3), .val (.int (1 : Int32)), .val .null, .val (.ref ol5), .val (.int (1 : Int32))] [(.ref ob1)])
        refine Runs.back (fun t_ k_ => XS.aload X8.here hx rfl (hb hby at_156) rfl rfl k_) ?_
        show Runs _ _ _ _ T8 (mkF m 158 #[.val (.long q0), .second, .val (.long q1), .second, .val (.long q2), .second, .val (.long q3), .second, .val (.int p4), .val (.long qn), .second, .val (.long qp), .second, .val (.ref ob1), .val (.ref ob3), .val (.int (1 : Int32)), .val .null, .val (.ref ol5), .val (.int (1 : Int32))] [.null, (.ref ob1)])
        obtain ⟨cq9, kq9, q9a, q9b, q9c⟩ := isOf hZ eq8 f5_Exa_0
        obtain ⟨_, _, ⟨T9, L9, k9, n9⟩, -, X9, ⟨Lc9, hQ9, l9, y9, z9⟩, st9⟩ := X8.virtualBack hx (y := (⟨"com/example/ubique/ubique/ProcessId", "equals", "(Ljava/lang/Object;)Z"⟩ : MethodName)) (z := (⟨"com/example/ubique/ubique/ProcessId", "equals", "(Ljava/lang/Object;)Z"⟩ : MethodName)) hown (mvT hZ (hw _ (List.mem_of_getElem? (i := 26) rfl))) (mvT hZ (hw _ (List.mem_of_getElem? (i := 27) rfl))) (notFace_of_selects (args := #[]) (mvT hZ (hw _ (List.mem_of_getElem? (i := 29) rfl)))) (mvT hZ (hw _ (List.mem_of_getElem? (i := 29) rfl))) (mvT hZ (hw _ (List.mem_of_getElem? (i := 28) rfl))) (by decide) (backOf (W := 0) (rm5n l Z a0 hw [] ob1 T5.heap n0 (Z5)) hZ (hw _ (List.mem_of_getElem? (i := 30) rfl)) (hw _ (List.mem_of_getElem? (i := 2) rfl)) (by decide) (by decide)) q9a q9c (g := (mkF m 158 #[.val (.long q0), .second, .val (.long q1), .second, .val (.long q2), .second, .val (.long q3), .second, .val (.int p4), .val (.long qn), .second, .val (.long qp), .second, .val (.ref ob1), .val (.ref ob3), .val (.int (1 : Int32)), .val .null, .val (.ref ol5), .val (.int (1 : Int32))] [.null, (.ref ob1)])) rfl (by rw [hml]; rfl) (Steps.refl _) (argsL := [.null]) (rest := []) (lenOf pd0_2 rfl) rfl (by show 2 * 0 + _ ≤ _; exact Nat.le_of_eq rfl) (hb hby at_158) (fun _ _ => ⟨rfl, eq8, (by decide : 3 + 0 ≤ _), (by decide : 5 + 0 ≤ _)⟩)
        dsimp only [Pt.U, Pt.locs, Pt.cells, Pt.slots] at X9 l9 y9 z9 st9 hQ9
        obtain rfl : k9 = 3 := y9
        obtain rfl : n9 = 5 := z9
        obtain ⟨rfl, N9q, eq9⟩ := hQ9
        have N9 : Fr n0 L9 := by rw [l9]; exact Fr.app N8 N9q
        clear l9
        refine Runs.trans st9 ?_
        show Runs _ _ _ _ T9 (mkF m 161 #[.val (.long q0), .second, .val (.long q1), .second, .val (.long q2), .second, .val (.long q3), .second, .val (.int p4), .val (.long qn), .second, .val (.long qp), .second, .val (.ref ob1), .val (.ref ob3), .val (.int (1 : Int32)), .val .null, .val (.ref ol5), .val (.int (1 : Int32))] [(.int (0 : Int32))])
        refine Runs.back (fun t_ k_ => XS.ifNo X9.here hx rfl (hb hby at_161) rfl ((if0 _ _).trans (teq (show (0 : Int32) = (0 : Int32) from rfl)).2) k_) ?_
        show Runs _ _ _ _ T9 (mkF m 164 #[.val (.long q0), .second, .val (.long q1), .second, .val (.long q2), .second, .val (.long q3), .second, .val (.int p4), .val (.long qn), .second, .val (.long qp), .second, .val (.ref ob1), .val (.ref ob3), .val (.int (1 : Int32)), .val .null, .val (.ref ol5), .val (.int (1 : Int32))] [])
        refine Runs.back (fun t_ k_ => XS.iconst X9.here hx rfl (hb hby at_164) k_) ?_
        show Runs _ _ _ _ T9 (mkF m 165 #[.val (.long q0), .second, .val (.long q1), .second, .val (.long q2), .second, .val (.long q3), .second, .val (.int p4), .val (.long qn), .second, .val (.long qp), .second, .val (.ref ob1), .val (.ref ob3), .val (.int (1 : Int32)), .val .null, .val (.ref ol5), .val (.int (1 : Int32))] [(.int (1 : Int32))])
        refine Runs.back (fun t_ k_ => XS.goto X9.here hx rfl (pc0 := 165) (pc' := 169) rfl (hb hby at_165) (by decide) (by decide) k_) ?_
        show Runs _ _ _ _ T9 (mkF m 169 #[.val (.long q0), .second, .val (.long q1), .second, .val (.long q2), .second, .val (.long q3), .second, .val (.int p4), .val (.long qn), .second, .val (.long qp), .second, .val (.ref ob1), .val (.ref ob3), .val (.int (1 : Int32)), .val .null, .val (.ref ol5), .val (.int (1 : Int32))] [(.int (1 : Int32))])
        refine Runs.back (fun t_ k_ => XS.istore X9.here hx rfl (hb hby at_169) rfl (l' := #[.val (.long q0), .second, .val (.long q1), .second, .val (.long q2), .second, .val (.long q3), .second, .val (.int p4), .val (.long qn), .second, .val (.long qp), .second, .val (.ref ob1), .val (.ref ob3), .val (.int (1 : Int32)), .val .null, .val (.ref ol5), .val (.int (1 : Int32))]) rfl k_) ?_
        show Runs _ _ _ _ T9 (mkF m 171 #[.val (.long q0), .second, .val (.long q1), .second, .val (.long q2), .second, .val (.long q3), .second, .val (.int p4), .val (.long qn), .second, .val (.long qp), .second, .val (.ref ob1), .val (.ref ob3), .val (.int (1 : Int32)), .val .null, .val (.ref ol5), .val (.int (1 : Int32))] [])
        refine Runs.back (fun t_ k_ => XS.iload X9.here hx rfl (hb hby at_171) rfl k_) ?_
        show Runs _ _ _ _ T9 (mkF m 173 #[.val (.long q0), .second, .val (.long q1), .second, .val (.long q2), .second, .val (.long q3), .second, .val (.int p4), .val (.long qn), .second, .val (.long qp), .second, .val (.ref ob1), .val (.ref ob3), .val (.int (1 : Int32)), .val .null, .val (.ref ol5), .val (.int (1 : Int32))] [(.int (1 : Int32))])
        refine Runs.back (fun t_ k_ => XS.ifNo X9.here hx rfl (hb hby at_173) rfl ((if0 _ _).trans (feq (show ¬ ((1 : Int32) = (0 : Int32)) from (by decide))).1) k_) ?_
        show Runs _ _ _ _ T9 (mkF m 176 #[.val (.long q0), .second, .val (.long q1), .second, .val (.long q2), .second, .val (.long q3), .second, .val (.int p4), .val (.long qn), .second, .val (.long qp), .second, .val (.ref ob1), .val (.ref ob3), .val (.int (1 : Int32)), .val .null, .val (.ref ol5), .val (.int (1 : Int32))] [])
        refine Runs.back (fun t_ k_ => XS.aload X9.here hx rfl (hb hby at_176) rfl rfl k_) ?_
        show Runs _ _ _ _ T9 (mkF m 178 #[.val (.long q0), .second, .val (.long q1), .second, .val (.long q2), .second, .val (.long q3), .second, .val (.int p4), .val (.long qn), .second, .val (.long qp), .second, .val (.ref ob1), .val (.ref ob3), .val (.int (1 : Int32)), .val .null, .val (.ref ol5), .val (.int (1 : Int32))] [(.ref ob1)])
        refine Runs.back (fun t_ k_ => XS.aload X9.here hx rfl (hb hby at_178) rfl rfl k_) ?_
        show Runs _ _ _ _ T9 (mkF m 180 #[.val (.long q0), .second, .val (.long q1), .second, .val (.long q2), .second, .val (.long q3), .second, .val (.int p4), .val (.long qn), .second, .val (.long qp), .second, .val (.ref ob1), .val (.ref ob3), .val (.int (1 : Int32)), .val .null, .val (.ref ol5), .val (.int (1 : Int32))] [(.ref ol5), (.ref ob1)])
        obtain ⟨cq10, kq10, q10a, q10b, q10c⟩ := isOf hZ eq9 f5_Exa_0
        obtain ⟨_, _, ⟨T10, L10, k10, n10⟩, -, X10, ⟨Lc10, hQ10, l10, y10, z10⟩, st10⟩ := X9.virtualBack hx (y := (⟨"com/example/ubique/ubique/ProcessId", "equals", "(Ljava/lang/Object;)Z"⟩ : MethodName)) (z := (⟨"com/example/ubique/ubique/ProcessId", "equals", "(Ljava/lang/Object;)Z"⟩ : MethodName)) hown (mvT hZ (hw _ (List.mem_of_getElem? (i := 26) rfl))) (mvT hZ (hw _ (List.mem_of_getElem? (i := 27) rfl))) (notFace_of_selects (args := #[]) (mvT hZ (hw _ (List.mem_of_getElem? (i := 29) rfl)))) (mvT hZ (hw _ (List.mem_of_getElem? (i := 29) rfl))) (mvT hZ (hw _ (List.mem_of_getElem? (i := 28) rfl))) (by decide) (backOf (W := 0) (rm5l l Z a0 hw [] ob1 ol5 T5.heap n0 (Z5) lE5) hZ (hw _ (List.mem_of_getElem? (i := 30) rfl)) (hw _ (List.mem_of_getElem? (i := 2) rfl)) (by decide) (by decide)) q10a q10c (g := (mkF m 180 #[.val (.long q0), .second, .val (.long q1), .second, .val (.long q2), .second, .val (.long q3), .second, .val (.int p4), .val (.long qn), .second, .val (.long qp), .second, .val (.ref ob1), .val (.ref ob3), .val (.int (1 : Int32)), .val .null, .val (.ref ol5), .val (.int (1 : Int32))] [(.ref ol5), (.ref ob1)])) rfl (by rw [hml]; rfl) (Steps.refl _) (argsL := [(.ref ol5)]) (rest := []) (lenOf pd0_2 rfl) rfl (by show 2 * 0 + _ ≤ _; exact Nat.le_of_eq rfl) (hb hby at_180) (fun _ _ => ⟨rfl, eq9, (by decide : 3 + 0 ≤ _), (by decide : 5 + 0 ≤ _)⟩)
        dsimp only [Pt.U, Pt.locs, Pt.cells, Pt.slots] at X10 l10 y10 z10 st10 hQ10
        obtain rfl : k10 = 3 := y10
        obtain rfl : n10 = 5 := z10
        obtain ⟨rfl, N10q, eq10⟩ := hQ10
        have N10 : Fr n0 L10 := by rw [l10]; exact Fr.app N9 N10q
        clear l10
        refine Runs.trans st10 ?_
        show Runs _ _ _ _ T10 (mkF m 183 #[.val (.long q0), .second, .val (.long q1), .second, .val (.long q2), .second, .val (.long q3), .second, .val (.int p4), .val (.long qn), .second, .val (.long qp), .second, .val (.ref ob1), .val (.ref ob3), .val (.int (1 : Int32)), .val .null, .val (.ref ol5), .val (.int (1 : Int32))] [(.int (0 : Int32))])
        refine Runs.back (fun t_ k_ => XS.ifNo X10.here hx rfl (hb hby at_183) rfl ((if0 _ _).trans (teq (show (0 : Int32) = (0 : Int32) from rfl)).2) k_) ?_
        show Runs _ _ _ _ T10 (mkF m 186 #[.val (.long q0), .second, .val (.long q1), .second, .val (.long q2), .second, .val (.long q3), .second, .val (.int p4), .val (.long qn), .second, .val (.long qp), .second, .val (.ref ob1), .val (.ref ob3), .val (.int (1 : Int32)), .val .null, .val (.ref ol5), .val (.int (1 : Int32))] [])
        refine Runs.back (fun t_ k_ => XS.iconst X10.here hx rfl (hb hby at_186) k_) ?_
        show Runs _ _ _ _ T10 (mkF m 187 #[.val (.long q0), .second, .val (.long q1), .second, .val (.long q2), .second, .val (.long q3), .second, .val (.int p4), .val (.long qn), .second, .val (.long qp), .second, .val (.ref ob1), .val (.ref ob3), .val (.int (1 : Int32)), .val .null, .val (.ref ol5), .val (.int (1 : Int32))] [(.int (1 : Int32))])
        refine Runs.back (fun t_ k_ => XS.goto X10.here hx rfl (pc0 := 187) (pc' := 191) rfl (hb hby at_187) (by decide) (by decide) k_) ?_
        show Runs _ _ _ _ T10 (mkF m 191 #[.val (.long q0), .second, .val (.long q1), .second, .val (.long q2), .second, .val (.long q3), .second, .val (.int p4), .val (.long qn), .second, .val (.long qp), .second, .val (.ref ob1), .val (.ref ob3), .val (.int (1 : Int32)), .val .null, .val (.ref ol5), .val (.int (1 : Int32))] [(.int (1 : Int32))])
        refine Runs.back (fun t_ k_ => XS.istore X10.here hx rfl (hb hby at_191) rfl (l' := #[.val (.long q0), .second, .val (.long q1), .second, .val (.long q2), .second, .val (.long q3), .second, .val (.int p4), .val (.long qn), .second, .val (.long qp), .second, .val (.ref ob1), .val (.ref ob3), .val (.int (1 : Int32)), .val .null, .val (.ref ol5), .val (.int (1 : Int32))]) rfl k_) ?_
        show Runs _ _ _ _ T10 (mkF m 193 #[.val (.long q0), .second, .val (.long q1), .second, .val (.long q2), .second, .val (.long q3), .second, .val (.int p4), .val (.long qn), .second, .val (.long qp), .second, .val (.ref ob1), .val (.ref ob3), .val (.int (1 : Int32)), .val .null, .val (.ref ol5), .val (.int (1 : Int32))] [])
        refine Runs.back (fun t_ k_ => XS.iload X10.here hx rfl (hb hby at_193) rfl k_) ?_
        show Runs _ _ _ _ T10 (mkF m 195 #[.val (.long q0), .second, .val (.long q1), .second, .val (.long q2), .second, .val (.long q3), .second, .val (.int p4), .val (.long qn), .second, .val (.long qp), .second, .val (.ref ob1), .val (.ref ob3), .val (.int (1 : Int32)), .val .null, .val (.ref ol5), .val (.int (1 : Int32))] [(.int (1 : Int32))])
        obtain ⟨fs, hr, hrun, hended, hW, hsame⟩ := X10.leave (v := some (.int (1 : Int32))) (fun h => by rw [Bd.returns] at h; cases h)
        exact ⟨_, _, (retN X10 hx (t := .boolean) Bd.returns (by simp) (hb hby at_195) hr), hrun, hended, _, _, rfl, ⟨rfl, N10⟩, ⟨_, rfl⟩, hW, hsame.mono (by decide) (by decide)⟩
      · obtain rfl : whE = (0 : Int32) := by rw [ehE, if_neg hE]
        show Runs _ _ _ _ T4 (mkF m 75 #[.val (.long q0), .second, .val (.long q1), .second, .val (.long q2), .second, .val (.long q3), .second, .val (.int p4), .val (.long qn), .second, .val (.long qp), .second, .val (.ref ob1), .val (.ref ob3), .val (.int (0 : Int32)), .unset, .unset, .unset] [])
        refine Runs.back (fun t_ k_ => XS.aconstNull X4.here hx rfl (hb hby at_75) k_) ?_
        show Runs _ _ _ _ T4 (mkF m 76 #[.val (.long q0), .second, .val (.long q1), .second, .val (.long q2), .second, .val (.long q3), .second, .val (.int p4), .val (.long qn), .second, .val (.long qp), .second, .val (.ref ob1), .val (.ref ob3), .val (.int (0 : Int32)), .unset, .unset, .unset] [.null])
        refine Runs.back (fun t_ k_ => XS.astore X4.here hx rfl (hb hby at_76) rfl rfl (l' := #[.val (.long q0), .second, .val (.long q1), .second, .val (.long q2), .second, .val (.long q3), .second, .val (.int p4), .val (.long qn), .second, .val (.long qp), .second, .val (.ref ob1), .val (.ref ob3), .val (.int (0 : Int32)), .val .null, .unset, .unset]) rfl k_) ?_
        show Runs _ _ _ _ T4 (mkF m 78 #[.val (.long q0), .second, .val (.long q1), .second, .val (.long q2), .second, .val (.long q3), .second, .val (.int p4), .val (.long qn), .second, .val (.long qp), .second, .val (.ref ob1), .val (.ref ob3), .val (.int (0 : Int32)), .val .null, .unset, .unset] [])
        refine Runs.back (fun t_ k_ => XS.lloadN X4.here hx rfl (hb hby at_78) rfl k_) ?_
        show Runs _ _ _ _ T4 (mkF m 79 #[.val (.long q0), .second, .val (.long q1), .second, .val (.long q2), .second, .val (.long q3), .second, .val (.int p4), .val (.long qn), .second, .val (.long qp), .second, .val (.ref ob1), .val (.ref ob3), .val (.int (0 : Int32)), .val .null, .unset, .unset] [(.long q0)])
        obtain ⟨_, _, ⟨T11, L11, k11, n11⟩, -, X11, ⟨Lc11, hQ11, l11, y11, z11⟩, st11⟩ := Jvm.LawKit.callS X4 hx (y := (⟨"java/lang/Long", "valueOf", "(J)Ljava/lang/Long;"⟩ : MethodName)) hown (mvT hZ (hw _ (List.mem_of_getElem? (i := 18) rfl))) (mvT hZ (hw _ (List.mem_of_getElem? (i := 19) rfl))) (mvT hZ (hw _ (List.mem_of_getElem? (i := 20) rfl))) (mvT hZ (hw _ (List.mem_of_getElem? (i := 21) rfl))) (by decide) (backOf (W := 0) (rm4 l Z a0 hw [] q0 arr ce T4.heap n0 (Z4) (own_sta S1 KK4) (AC.keep KK4 nin0) (fun i hi => (hC i hi).imp fun e z => ⟨z.1, z.2.keep KK4⟩)) hZ (hw _ (List.mem_of_getElem? (i := 21) rfl)) (hw _ (List.mem_of_getElem? (i := 20) rfl)) (by decide) (by decide)) (g := (mkF m 79 #[.val (.long q0), .second, .val (.long q1), .second, .val (.long q2), .second, .val (.long q3), .second, .val (.int p4), .val (.long qn), .second, .val (.long qp), .second, .val (.ref ob1), .val (.ref ob3), .val (.int (0 : Int32)), .val .null, .unset, .unset] [(.long q0)])) rfl (by rw [hml]; rfl) (argsL := [(.long q0)]) (rest := []) (lenOf pd0_1 rfl) rfl (by show 2 * 0 + _ ≤ _; exact Nat.le_of_eq rfl) (hb hby at_79) (fun _ _ => ⟨rfl, rfl, (by decide : 2 + 1 ≤ _), (by decide : 4 + 1 ≤ _)⟩)
        dsimp only [Pt.U, Pt.locs, Pt.cells, Pt.slots] at X11 l11 y11 z11 st11 hQ11
        obtain rfl : k11 = 3 := y11
        obtain rfl : n11 = 5 := z11
        obtain ⟨ol11, rfl, N11q, K11, lE11⟩ := hQ11
        have N11 : Fr n0 L11 := by rw [l11]; exact Fr.app N4 N11q
        clear l11
        have f11_Exa_0 : Exa Z T11.heap ob1 "com/example/ubique/ubique/ProcessId" := f4_Exa_0.keep K11
        have f11_Fld_1 : Fld Z T11.heap ob1 "com/example/ubique/ubique/ProcessId" "node" "J" (.long q0) := f4_Fld_1.keep K11 nin0
        have f11_Fld_2 : Fld Z T11.heap ob1 "com/example/ubique/ubique/ProcessId" "process" "J" (.long q1) := f4_Fld_2.keep K11 nin0
        have f11_Exa_3 : Exa Z T11.heap ob3 "com/example/ubique/ubique/ProcessId" := pE4.keep K11
        have f11_Fld_4 : Fld Z T11.heap ob3 "com/example/ubique/ubique/ProcessId" "node" "J" (.long qn) := pF4.keep K11 nin0
        have f11_Fld_5 : Fld Z T11.heap ob3 "com/example/ubique/ubique/ProcessId" "process" "J" (.long qp) := pG4.keep K11 nin0
        have Z11 : n0 ≤ T11.heap.size := Nat.le_trans (Z4) K11.1
        have KK11 : Keep h0 T11.heap [] := Keep.trans KK4 K11 (all0)
        refine Runs.back st11 ?_
        show Runs _ _ _ _ T11 (mkF m 82 #[.val (.long q0), .second, .val (.long q1), .second, .val (.long q2), .second, .val (.long q3), .second, .val (.int p4), .val (.long qn), .second, .val (.long qp), .second, .val (.ref ob1), .val (.ref ob3), .val (.int (0 : Int32)), .val .null, .unset, .unset] [(.ref ol11)])
        refine Runs.back (fun t_ k_ => XS.astore X11.here hx rfl (hb hby at_82) rfl rfl (l' := #[.val (.long q0), .second, .val (.long q1), .second, .val (.long q2), .second, .val (.long q3), .second, .val (.int p4), .val (.long qn), .second, .val (.long qp), .second, .val (.ref ob1), .val (.ref ob3), .val (.int (0 : Int32)), .val .null, .val (.ref ol11), .unset]) rfl k_) ?_
        show Runs _ _ _ _ T11 (mkF m 84 #[.val (.long q0), .second, .val (.long q1), .second, .val (.long q2), .second, .val (.long q3), .second, .val (.int p4), .val (.long qn), .second, .val (.long qp), .second, .val (.ref ob1), .val (.ref ob3), .val (.int (0 : Int32)), .val .null, .val (.ref ol11), .unset] [])
        refine Runs.back (fun t_ k_ => XS.aload X11.here hx rfl (hb hby at_84) rfl rfl k_) ?_
        show Runs _ _ _ _ T11 (mkF m 86 #[.val (.long q0), .second, .val (.long q1), .second, .val (.long q2), .second, .val (.long q3), .second, .val (.int p4), .val (.long qn), .second, .val (.long qp), .second, .val (.ref ob1), .val (.ref ob3), .val (.int (0 : Int32)), .val .null, .val (.ref ol11), .unset] [(.ref ob1)])
        refine Runs.back (fun t_ k_ => XS.aload X11.here hx rfl (hb hby at_86) rfl rfl k_) ?_
        show Runs _ _ _ _ T11 (mkF m 88 #[.val (.long q0), .second, .val (.long q1), .second, .val (.long q2), .second, .val (.long q3), .second, .val (.int p4), .val (.long qn), .second, .val (.long qp), .second, .val (.ref ob1), .val (.ref ob3), .val (.int (0 : Int32)), .val .null, .val (.ref ol11), .unset] [(.ref ob3), (.ref ob1)])
        obtain ⟨cq12, kq12, q12a, q12b, q12c⟩ := isOf hZ rfl f11_Exa_0
        obtain ⟨_, _, ⟨T12, L12, k12, n12⟩, -, X12, ⟨Lc12, hQ12, l12, y12, z12⟩, st12⟩ := X11.virtualBack hx (y := (⟨"com/example/ubique/ubique/ProcessId", "equals", "(Ljava/lang/Object;)Z"⟩ : MethodName)) (z := (⟨"com/example/ubique/ubique/ProcessId", "equals", "(Ljava/lang/Object;)Z"⟩ : MethodName)) hown (mvT hZ (hw _ (List.mem_of_getElem? (i := 26) rfl))) (mvT hZ (hw _ (List.mem_of_getElem? (i := 27) rfl))) (notFace_of_selects (args := #[]) (mvT hZ (hw _ (List.mem_of_getElem? (i := 29) rfl)))) (mvT hZ (hw _ (List.mem_of_getElem? (i := 29) rfl))) (mvT hZ (hw _ (List.mem_of_getElem? (i := 28) rfl))) (by decide) (backOf (W := 0) (rm5s l Z a0 hw [] ob1 ob3 q0 q1 qn qp T11.heap n0 (Z11) f11_Fld_1 f11_Fld_2 f11_Exa_3 f11_Fld_4 f11_Fld_5) hZ (hw _ (List.mem_of_getElem? (i := 30) rfl)) (hw _ (List.mem_of_getElem? (i := 2) rfl)) (by decide) (by decide)) q12a q12c (g := (mkF m 88 #[.val (.long q0), .second, .val (.long q1), .second, .val (.long q2), .second, .val (.long q3), .second, .val (.int p4), .val (.long qn), .second, .val (.long qp), .second, .val (.ref ob1), .val (.ref ob3), .val (.int (0 : Int32)), .val .null, .val (.ref ol11), .unset] [(.ref ob3), (.ref ob1)])) rfl (by rw [hml]; rfl) (Steps.refl _) (argsL := [(.ref ob3)]) (rest := []) (lenOf pd0_2 rfl) rfl (by show 2 * 0 + _ ≤ _; exact Nat.le_of_eq rfl) (hb hby at_88) (fun _ _ => ⟨rfl, rfl, (by decide : 3 + 0 ≤ _), (by decide : 5 + 0 ≤ _)⟩)
        dsimp only [Pt.U, Pt.locs, Pt.cells, Pt.slots] at X12 l12 y12 z12 st12 hQ12
        obtain rfl : k12 = 3 := y12
        obtain rfl : n12 = 5 := z12
        obtain ⟨rfl, N12q, eq12⟩ := hQ12
        have N12 : Fr n0 L12 := by rw [l12]; exact Fr.app N11 N12q
        clear l12
        refine Runs.trans st12 ?_
        show Runs _ _ _ _ T12 (mkF m 91 #[.val (.long q0), .second, .val (.long q1), .second, .val (.long q2), .second, .val (.long q3), .second, .val (.int p4), .val (.long qn), .second, .val (.long qp), .second, .val (.ref ob1), .val (.ref ob3), .val (.int (0 : Int32)), .val .null, .val (.ref ol11), .unset] [(.int (eqF q0 q1 qn qp))])
        refine Runs.back (fun t_ k_ => XS.iload X12.here hx rfl (hb hby at_91) rfl k_) ?_
        show Runs _ _ _ _ T12 (mkF m 93 #[.val (.long q0), .second, .val (.long q1), .second, .val (.long q2), .second, .val (.long q3), .second, .val (.int p4), .val (.long qn), .second, .val (.long qp), .second, .val (.ref ob1), .val (.ref ob3), .val (.int (0 : Int32)), .val .null, .val (.ref ol11), .unset] [(.int (0 : Int32)), (.int (eqF q0 q1 qn qp))])
        refine Runs.back (fun t_ k_ => XS.icmpNo X12.here hx rfl (hb hby at_93) rfl (teq (show (eqF q0 q1 qn qp) = (0 : Int32) from (eqF0 hE))).2 k_) ?_
        show Runs _ _ _ _ T12 (mkF m 96 #[.val (.long q0), .second, .val (.long q1), .second, .val (.long q2), .second, .val (.long q3), .second, .val (.int p4), .val (.long qn), .second, .val (.long qp), .second, .val (.ref ob1), .val (.ref ob3), .val (.int (0 : Int32)), .val .null, .val (.ref ol11), .unset] [])
        refine Runs.back (fun t_ k_ => XS.iconst X12.here hx rfl (hb hby at_96) k_) ?_
        show Runs _ _ _ _ T12 (mkF m 97 #[.val (.long q0), .second, .val (.long q1), .second, .val (.long q2), .second, .val (.long q3), .second, .val (.int p4), .val (.long qn), .second, .val (.long qp), .second, .val (.ref ob1), .val (.ref ob3), .val (.int (0 : Int32)), .val .null, .val (.ref ol11), .unset] [(.int (1 : Int32))])
        refine Runs.back (fun t_ k_ => XS.goto X12.here hx rfl (pc0 := 97) (pc' := 101) rfl (hb hby at_97) (by decide) (by decide) k_) ?_
        show Runs _ _ _ _ T12 (mkF m 101 #[.val (.long q0), .second, .val (.long q1), .second, .val (.long q2), .second, .val (.long q3), .second, .val (.int p4), .val (.long qn), .second, .val (.long qp), .second, .val (.ref ob1), .val (.ref ob3), .val (.int (0 : Int32)), .val .null, .val (.ref ol11), .unset] [(.int (1 : Int32))])
        refine Runs.back (fun t_ k_ => XS.istore X12.here hx rfl (hb hby at_101) rfl (l' := #[.val (.long q0), .second, .val (.long q1), .second, .val (.long q2), .second, .val (.long q3), .second, .val (.int p4), .val (.long qn), .second, .val (.long qp), .second, .val (.ref ob1), .val (.ref ob3), .val (.int (0 : Int32)), .val .null, .val (.ref ol11), .val (.int (1 : Int32))]) rfl k_) ?_
        show Runs _ _ _ _ T12 (mkF m 103 #[.val (.long q0), .second, .val (.long q1), .second, .val (.long q2), .second, .val (.long q3), .second, .val (.int p4), .val (.long qn), .second, .val (.long qp), .second, .val (.ref ob1), .val (.ref ob3), .val (.int (0 : Int32)), .val .null, .val (.ref ol11), .val (.int (1 : Int32))] [])
        refine Runs.back (fun t_ k_ => XS.iload X12.here hx rfl (hb hby at_103) rfl k_) ?_
        show Runs _ _ _ _ T12 (mkF m 105 #[.val (.long q0), .second, .val (.long q1), .second, .val (.long q2), .second, .val (.long q3), .second, .val (.int p4), .val (.long qn), .second, .val (.long qp), .second, .val (.ref ob1), .val (.ref ob3), .val (.int (0 : Int32)), .val .null, .val (.ref ol11), .val (.int (1 : Int32))] [(.int (1 : Int32))])
        refine Runs.back (fun t_ k_ => XS.ifNo X12.here hx rfl (hb hby at_105) rfl ((if0 _ _).trans (feq (show ¬ ((1 : Int32) = (0 : Int32)) from (by decide))).1) k_) ?_
        show Runs _ _ _ _ T12 (mkF m 108 #[.val (.long q0), .second, .val (.long q1), .second, .val (.long q2), .second, .val (.long q3), .second, .val (.int p4), .val (.long qn), .second, .val (.long qp), .second, .val (.ref ob1), .val (.ref ob3), .val (.int (0 : Int32)), .val .null, .val (.ref ol11), .val (.int (1 : Int32))] [])
        refine Runs.back (fun t_ k_ => XS.aload X12.here hx rfl (hb hby at_108) rfl rfl k_) ?_
        show Runs _ _ _ _ T12 (mkF m 110 #[.val (.long q0), .second, .val (.long q1), .second, .val (.long q2), .second, .val (.long q3), .second, .val (.int p4), .val (.long qn), .second, .val (.long qp), .second, .val (.ref ob1), .val (.ref ob3), .val (.int (0 : Int32)), .val .null, .val (.ref ol11), .val (.int (1 : Int32))] [(.ref ob3)])
        refine Runs.back (fun t_ k_ => XS.aload X12.here hx rfl (hb hby at_110) rfl rfl k_) ?_
        show Runs _ _ _ _ T12 (mkF m 112 #[.val (.long q0), .second, .val (.long q1), .second, .val (.long q2), .second, .val (.long q3), .second, .val (.int p4), .val (.long qn), .second, .val (.long qp), .second, .val (.ref ob1), .val (.ref ob3), .val (.int (0 : Int32)), .val .null, .val (.ref ol11), .val (.int (1 : Int32))] [(.ref ob1), (.ref ob3)])
        obtain ⟨cq13, kq13, q13a, q13b, q13c⟩ := isOf hZ eq12 f11_Exa_3
        obtain ⟨_, _, ⟨T13, L13, k13, n13⟩, -, X13, ⟨Lc13, hQ13, l13, y13, z13⟩, st13⟩ := X12.virtualBack hx (y := (⟨"com/example/ubique/ubique/ProcessId", "equals", "(Ljava/lang/Object;)Z"⟩ : MethodName)) (z := (⟨"com/example/ubique/ubique/ProcessId", "equals", "(Ljava/lang/Object;)Z"⟩ : MethodName)) hown (mvT hZ (hw _ (List.mem_of_getElem? (i := 26) rfl))) (mvT hZ (hw _ (List.mem_of_getElem? (i := 27) rfl))) (notFace_of_selects (args := #[]) (mvT hZ (hw _ (List.mem_of_getElem? (i := 29) rfl)))) (mvT hZ (hw _ (List.mem_of_getElem? (i := 29) rfl))) (mvT hZ (hw _ (List.mem_of_getElem? (i := 28) rfl))) (by decide) (backOf (W := 0) (rm5s l Z a0 hw [] ob3 ob1 qn qp q0 q1 T11.heap n0 (Z11) f11_Fld_4 f11_Fld_5 f11_Exa_0 f11_Fld_1 f11_Fld_2) hZ (hw _ (List.mem_of_getElem? (i := 30) rfl)) (hw _ (List.mem_of_getElem? (i := 2) rfl)) (by decide) (by decide)) q13a q13c (g := (mkF m 112 #[.val (.long q0), .second, .val (.long q1), .second, .val (.long q2), .second, .val (.long q3), .second, .val (.int p4), .val (.long qn), .second, .val (.long qp), .second, .val (.ref ob1), .val (.ref ob3), .val (.int (0 : Int32)), .val .null, .val (.ref ol11), .val (.int (1 : Int32))] [(.ref ob1), (.ref ob3)])) rfl (by rw [hml]; rfl) (Steps.refl _) (argsL := [(.ref ob1)]) (rest := []) (lenOf pd0_2 rfl) rfl (by show 2 * 0 + _ ≤ _; exact Nat.le_of_eq rfl) (hb hby at_112) (fun _ _ => ⟨rfl, eq12, (by decide : 3 + 0 ≤ _), (by decide : 5 + 0 ≤ _)⟩)
        dsimp only [Pt.U, Pt.locs, Pt.cells, Pt.slots] at X13 l13 y13 z13 st13 hQ13
        obtain rfl : k13 = 3 := y13
        obtain rfl : n13 = 5 := z13
        obtain ⟨rfl, N13q, eq13⟩ := hQ13
        have N13 : Fr n0 L13 := by rw [l13]; exact Fr.app N12 N13q
        clear l13
        refine Runs.trans st13 ?_
        show Runs _ _ _ _ T13 (mkF m 115 #[.val (.long q0), .second, .val (.long q1), .second, .val (.long q2), .second, .val (.long q3), .second, .val (.int p4), .val (.long qn), .second, .val (.long qp), .second, .val (.ref ob1), .val (.ref ob3), .val (.int (0 : Int32)), .val .null, .val (.ref ol11), .val (.int (1 : Int32))] [(.int (eqF qn qp q0 q1))])
        refine Runs.back (fun t_ k_ => XS.iload X13.here hx rfl (hb hby at_115) rfl k_) ?_
        show Runs _ _ _ _ T13 (mkF m 117 #[.val (.long q0), .second, .val (.long q1), .second, .val (.long q2), .second, .val (.long q3), .second, .val (.int p4), .val (.long qn), .second, .val (.long qp), .second, .val (.ref ob1), .val (.ref ob3), .val (.int (0 : Int32)), .val .null, .val (.ref ol11), .val (.int (1 : Int32))] [(.int (0 : Int32)), (.int (eqF qn qp q0 q1))])
        refine Runs.back (fun t_ k_ => XS.icmpNo X13.here hx rfl (hb hby at_117) rfl (teq (show (eqF qn qp q0 q1) = (0 : Int32) from (eqF0' hE))).2 k_) ?_
        show Runs _ _ _ _ T13 (mkF m 120 #[.val (.long q0), .second, .val (.long q1), .second, .val (.long q2), .second, .val (.long q3), .second, .val (.int p4), .val (.long qn), .second, .val (.long qp), .second, .val (.ref ob1), .val (.ref ob3), .val (.int (0 : Int32)), .val .null, .val (.ref ol11), .val (.int (1 : Int32))] [])
        refine Runs.back (fun t_ k_ => XS.iconst X13.here hx rfl (hb hby at_120) k_) ?_
        show Runs _ _ _ _ T13 (mkF m 121 #[.val (.long q0), .second, .val (.long q1), .second, .val (.long q2), .second, .val (.long q3), .second, .val (.int p4), .val (.long qn), .second, .val (.long qp), .second, .val (.ref ob1), .val (.ref ob3), .val (.int (0 : Int32)), .val .null, .val (.ref ol11), .val (.int (1 : Int32))] [(.int (1 : Int32))])
        refine Runs.back (fun t_ k_ => XS.goto X13.here hx rfl (pc0 := 121) (pc' := 125) rfl (hb hby at_121) (by decide) (by decide) k_) ?_
        show Runs _ _ _ _ T13 (mkF m 125 #[.val (.long q0), .second, .val (.long q1), .second, .val (.long q2), .second, .val (.long q3), .second, .val (.int p4), .val (.long qn), .second, .val (.long qp), .second, .val (.ref ob1), .val (.ref ob3), .val (.int (0 : Int32)), .val .null, .val (.ref ol11), .val (.int (1 : Int32))] [(.int (1 : Int32))])
        refine Runs.back (fun t_ k_ => XS.istore X13.here hx rfl (hb hby at_125) rfl (l' := #[.val (.long q0), .second, .val (.long q1), .second, .val (.long q2), .second, .val (.long q3), .second, .val (.int p4), .val (.long qn), .second, .val (.long qp), .second, .val (.ref ob1), .val (.ref ob3), .val (.int (0 : Int32)), .val .null, .val (.ref ol11), .val (.int (1 : Int32))]) rfl k_) ?_
        show Runs _ _ _ _ T13 (mkF m 127 #[.val (.long q0), .second, .val (.long q1), .second, .val (.long q2), .second, .val (.long q3), .second, .val (.int p4), .val (.long qn), .second, .val (.long qp), .second, .val (.ref ob1), .val (.ref ob3), .val (.int (0 : Int32)), .val .null, .val (.ref ol11), .val (.int (1 : Int32))] [])
        refine Runs.back (fun t_ k_ => XS.iload X13.here hx rfl (hb hby at_127) rfl k_) ?_
        show Runs _ _ _ _ T13 (mkF m 129 #[.val (.long q0), .second, .val (.long q1), .second, .val (.long q2), .second, .val (.long q3), .second, .val (.int p4), .val (.long qn), .second, .val (.long qp), .second, .val (.ref ob1), .val (.ref ob3), .val (.int (0 : Int32)), .val .null, .val (.ref ol11), .val (.int (1 : Int32))] [(.int (1 : Int32))])
        refine Runs.back (fun t_ k_ => XS.ifNo X13.here hx rfl (hb hby at_129) rfl ((if0 _ _).trans (feq (show ¬ ((1 : Int32) = (0 : Int32)) from (by decide))).1) k_) ?_
        show Runs _ _ _ _ T13 (mkF m 132 #[.val (.long q0), .second, .val (.long q1), .second, .val (.long q2), .second, .val (.long q3), .second, .val (.int p4), .val (.long qn), .second, .val (.long qp), .second, .val (.ref ob1), .val (.ref ob3), .val (.int (0 : Int32)), .val .null, .val (.ref ol11), .val (.int (1 : Int32))] [])
        refine Runs.back (fun t_ k_ => XS.aload X13.here hx rfl (hb hby at_132) rfl rfl k_) ?_
        show Runs _ _ _ _ T13 (mkF m 134 #[.val (.long q0), .second, .val (.long q1), .second, .val (.long q2), .second, .val (.long q3), .second, .val (.int p4), .val (.long qn), .second, .val (.long qp), .second, .val (.ref ob1), .val (.ref ob3), .val (.int (0 : Int32)), .val .null, .val (.ref ol11), .val (.int (1 : Int32))] [(.ref ob1)])
        refine Runs.back (fun t_ k_ => XS.aload X13.here hx rfl (hb hby at_134) rfl rfl k_) ?_
        show Runs _ _ _ _ T13 (mkF m 136 #[.val (.long q0), .second, .val (.long q1), .second, .val (.long q2), .second, .val (.long q3), .second, .val (.int p4), .val (.long qn), .second, .val (.long qp), .second, .val (.ref ob1), .val (.ref ob3), .val (.int (0 : Int32)), .val .null, .val (.ref ol11), .val (.int (1 : Int32))] [(.ref ob1), (.ref ob1)])
        obtain ⟨cq14, kq14, q14a, q14b, q14c⟩ := isOf hZ eq13 f11_Exa_0
        obtain ⟨_, _, ⟨T14, L14, k14, n14⟩, -, X14, ⟨Lc14, hQ14, l14, y14, z14⟩, st14⟩ := X13.virtualBack hx (y := (⟨"com/example/ubique/ubique/ProcessId", "equals", "(Ljava/lang/Object;)Z"⟩ : MethodName)) (z := (⟨"com/example/ubique/ubique/ProcessId", "equals", "(Ljava/lang/Object;)Z"⟩ : MethodName)) hown (mvT hZ (hw _ (List.mem_of_getElem? (i := 26) rfl))) (mvT hZ (hw _ (List.mem_of_getElem? (i := 27) rfl))) (notFace_of_selects (args := #[]) (mvT hZ (hw _ (List.mem_of_getElem? (i := 29) rfl)))) (mvT hZ (hw _ (List.mem_of_getElem? (i := 29) rfl))) (mvT hZ (hw _ (List.mem_of_getElem? (i := 28) rfl))) (by decide) (backOf (W := 0) (rm5s l Z a0 hw [] ob1 ob1 q0 q1 q0 q1 T11.heap n0 (Z11) f11_Fld_1 f11_Fld_2 f11_Exa_0 f11_Fld_1 f11_Fld_2) hZ (hw _ (List.mem_of_getElem? (i := 30) rfl)) (hw _ (List.mem_of_getElem? (i := 2) rfl)) (by decide) (by decide)) q14a q14c (g := (mkF m 136 #[.val (.long q0), .second, .val (.long q1), .second, .val (.long q2), .second, .val (.long q3), .second, .val (.int p4), .val (.long qn), .second, .val (.long qp), .second, .val (.ref ob1), .val (.ref ob3), .val (.int (0 : Int32)), .val .null, .val (.ref ol11), .val (.int (1 : Int32))] [(.ref ob1), (.ref ob1)])) rfl (by rw [hml]; rfl) (Steps.refl _) (argsL := [(.ref ob1)]) (rest := []) (lenOf pd0_2 rfl) rfl (by show 2 * 0 + _ ≤ _; exact Nat.le_of_eq rfl) (hb hby at_136) (fun _ _ => ⟨rfl, eq13, (by decide : 3 + 0 ≤ _), (by decide : 5 + 0 ≤ _)⟩)
        dsimp only [Pt.U, Pt.locs, Pt.cells, Pt.slots] at X14 l14 y14 z14 st14 hQ14
        obtain rfl : k14 = 3 := y14
        obtain rfl : n14 = 5 := z14
        obtain ⟨rfl, N14q, eq14⟩ := hQ14
        have N14 : Fr n0 L14 := by rw [l14]; exact Fr.app N13 N14q
        clear l14
        refine Runs.trans st14 ?_
        show Runs _ _ _ _ T14 (mkF m 139 #[.val (.long q0), .second, .val (.long q1), .second, .val (.long q2), .second, .val (.long q3), .second, .val (.int p4), .val (.long qn), .second, .val (.long qp), .second, .val (.ref ob1), .val (.ref ob3), .val (.int (0 : Int32)), .val .null, .val (.ref ol11), .val (.int (1 : Int32))] [(.int (eqF q0 q1 q0 q1))])
        refine Runs.back (fun t_ k_ => XS.ifNo X14.here hx rfl (hb hby at_139) rfl ((if0 _ _).trans (feq (show ¬ ((eqF q0 q1 q0 q1) = (0 : Int32)) from (by rw [eqF1 ⟨rfl, rfl⟩]; decide))).1) k_) ?_
        show Runs _ _ _ _ T14 (mkF m 142 #[.val (.long q0), .second, .val (.long q1), .second, .val (.long q2), .second, .val (.long q3), .second, .val (.int p4), .val (.long qn), .second, .val (.long qp), .second, .val (.ref ob1), .val (.ref ob3), .val (.int (0 : Int32)), .val .null, .val (.ref ol11), .val (.int (1 : Int32))] [])
        refine Runs.back (fun t_ k_ => XS.iconst X14.here hx rfl (hb hby at_142) k_) ?_
        show Runs _ _ _ _ T14 (mkF m 143 #[.val (.long q0), .second, .val (.long q1), .second, .val (.long q2), .second, .val (.long q3), .second, .val (.int p4), .val (.long qn), .second, .val (.long qp), .second, .val (.ref ob1), .val (.ref ob3), .val (.int (0 : Int32)), .val .null, .val (.ref ol11), .val (.int (1 : Int32))] [(.int (1 : Int32))])
        refine Runs.back (fun t_ k_ => XS.goto X14.here hx rfl (pc0 := 143) (pc' := 147) rfl (hb hby at_143) (by decide) (by decide) k_) ?_
        show Runs _ _ _ _ T14 (mkF m 147 #[.val (.long q0), .second, .val (.long q1), .second, .val (.long q2), .second, .val (.long q3), .second, .val (.int p4), .val (.long qn), .second, .val (.long qp), .second, .val (.ref ob1), .val (.ref ob3), .val (.int (0 : Int32)), .val .null, .val (.ref ol11), .val (.int (1 : Int32))] [(.int (1 : Int32))])
        refine Runs.back (fun t_ k_ => XS.istore X14.here hx rfl (hb hby at_147) rfl (l' := #[.val (.long q0), .second, .val (.long q1), .second, .val (.long q2), .second, .val (.long q3), .second, .val (.int p4), .val (.long qn), .second, .val (.long qp), .second, .val (.ref ob1), .val (.ref ob3), .val (.int (0 : Int32)), .val .null, .val (.ref ol11), .val (.int (1 : Int32))]) rfl k_) ?_
        show Runs _ _ _ _ T14 (mkF m 149 #[.val (.long q0), .second, .val (.long q1), .second, .val (.long q2), .second, .val (.long q3), .second, .val (.int p4), .val (.long qn), .second, .val (.long qp), .second, .val (.ref ob1), .val (.ref ob3), .val (.int (0 : Int32)), .val .null, .val (.ref ol11), .val (.int (1 : Int32))] [])
        refine Runs.back (fun t_ k_ => XS.iload X14.here hx rfl (hb hby at_149) rfl k_) ?_
        show Runs _ _ _ _ T14 (mkF m 151 #[.val (.long q0), .second, .val (.long q1), .second, .val (.long q2), .second, .val (.long q3), .second, .val (.int p4), .val (.long qn), .second, .val (.long qp), .second, .val (.ref ob1), .val (.ref ob3), .val (.int (0 : Int32)), .val .null, .val (.ref ol11), .val (.int (1 : Int32))] [(.int (1 : Int32))])
        refine Runs.back (fun t_ k_ => XS.ifNo X14.here hx rfl (hb hby at_151) rfl ((if0 _ _).trans (feq (show ¬ ((1 : Int32) = (0 : Int32)) from (by decide))).1) k_) ?_
        show Runs _ _ _ _ T14 (mkF m 154 #[.val (.long q0), .second, .val (.long q1), .second, .val (.long q2), .second, .val (.long q3), .second, .val (.int p4), .val (.long qn), .second, .val (.long qp), .second, .val (.ref ob1), .val (.ref ob3), .val (.int (0 : Int32)), .val .null, .val (.ref ol11), .val (.int (1 : Int32))] [])
        refine Runs.back (fun t_ k_ => XS.aload X14.here hx rfl (hb hby at_154) rfl rfl k_) ?_
        show Runs _ _ _ _ T14 (mkF m 156 #[.val (.long q0), .second, .val (.long q1), .second, .val (.long q2), .second, .val (.long q3), .second, .val (.int p4), .val (.long qn), .second, .val (.long qp), .second, .val (.ref ob1), .val (.ref ob3), .val (.int (0 : Int32)), .val .null, .val (.ref ol11), .val (.int (1 : Int32))] [(.ref ob1)])
        refine Runs.back (fun t_ k_ => XS.aload X14.here hx rfl (hb hby at_156) rfl rfl k_) ?_
        show Runs _ _ _ _ T14 (mkF m 158 #[.val (.long q0), .second, .val (.long q1), .second, .val (.long q2), .second, .val (.long q3), .second, .val (.int p4), .val (.long qn), .second, .val (.long qp), .second, .val (.ref ob1), .val (.ref ob3), .val (.int (0 : Int32)), .val .null, .val (.ref ol11), .val (.int (1 : Int32))] [.null, (.ref ob1)])
        obtain ⟨cq15, kq15, q15a, q15b, q15c⟩ := isOf hZ eq14 f11_Exa_0
        obtain ⟨_, _, ⟨T15, L15, k15, n15⟩, -, X15, ⟨Lc15, hQ15, l15, y15, z15⟩, st15⟩ := X14.virtualBack hx (y := (⟨"com/example/ubique/ubique/ProcessId", "equals", "(Ljava/lang/Object;)Z"⟩ : MethodName)) (z := (⟨"com/example/ubique/ubique/ProcessId", "equals", "(Ljava/lang/Object;)Z"⟩ : MethodName)) hown (mvT hZ (hw _ (List.mem_of_getElem? (i := 26) rfl))) (mvT hZ (hw _ (List.mem_of_getElem? (i := 27) rfl))) (notFace_of_selects (args := #[]) (mvT hZ (hw _ (List.mem_of_getElem? (i := 29) rfl)))) (mvT hZ (hw _ (List.mem_of_getElem? (i := 29) rfl))) (mvT hZ (hw _ (List.mem_of_getElem? (i := 28) rfl))) (by decide) (backOf (W := 0) (rm5n l Z a0 hw [] ob1 T11.heap n0 (Z11)) hZ (hw _ (List.mem_of_getElem? (i := 30) rfl)) (hw _ (List.mem_of_getElem? (i := 2) rfl)) (by decide) (by decide)) q15a q15c (g := (mkF m 158 #[.val (.long q0), .second, .val (.long q1), .second, .val (.long q2), .second, .val (.long q3), .second, .val (.int p4), .val (.long qn), .second, .val (.long qp), .second, .val (.ref ob1), .val (.ref ob3), .val (.int (0 : Int32)), .val .null, .val (.ref ol11), .val (.int (1 : Int32))] [.null, (.ref ob1)])) rfl (by rw [hml]; rfl) (Steps.refl _) (argsL := [.null]) (rest := []) (lenOf pd0_2 rfl) rfl (by show 2 * 0 + _ ≤ _; exact Nat.le_of_eq rfl) (hb hby at_158) (fun _ _ => ⟨rfl, eq14, (by decide : 3 + 0 ≤ _), (by decide : 5 + 0 ≤ _)⟩)
        dsimp only [Pt.U, Pt.locs, Pt.cells, Pt.slots] at X15 l15 y15 z15 st15 hQ15
        obtain rfl : k15 = 3 := y15
        obtain rfl : n15 = 5 := z15
        obtain ⟨rfl, N15q, eq15⟩ := hQ15
        have N15 : Fr n0 L15 := by rw [l15]; exact Fr.app N14 N15q
        clear l15
        refine Runs.trans st15 ?_
        show Runs _ _ _ _ T15 (mkF m 161 #[.val (.long q0), .second, .val (.long q1), .second, .val (.long q2), .second, .val (.long q3), .second, .val (.int p4), .val (.long qn), .second, .val (.long qp), .second, .val (.ref ob1), .val (.ref ob3), .val (.int (0 : Int32)), .val .null, .val (.ref ol11), .val (.int (1 : Int32))] [(.int (0 : Int32))])
        refine Runs.back (fun t_ k_ => XS.ifNo X15.here hx rfl (hb hby at_161) rfl ((if0 _ _).trans (teq (show (0 : Int32) = (0 : Int32) from rfl)).2) k_) ?_
        show Runs _ _ _ _ T15 (mkF m 164 #[.val (.long q0), .second, .val (.long q1), .second, .val (.long q2), .second, .val (.long q3), .second, .val (.int p4), .val (.long qn), .second, .val (.long qp), .second, .val (.ref ob1), .val (.ref ob3), .val (.int (0 : Int32)), .val .null, .val (.ref ol11), .val (.int (1 : Int32))] [])
        refine Runs.back (fun t_ k_ => XS.iconst X15.here hx rfl (hb hby at_164) k_) ?_
        show Runs _ _ _ _ T15 (mkF m 165 #[.val (.long q0), .second, .val (.long q1), .second, .val (.long q2), .second, .val (.long q3), .second, .val (.int p4), .val (.long qn), .second, .val (.long qp), .second, .val (.ref ob1), .val (.ref ob3), .val (.int (0 : Int32)), .val .null, .val (.ref ol11), .val (.int (1 : Int32))] [(.int (1 : Int32))])
        refine Runs.back (fun t_ k_ => XS.goto X15.here hx rfl (pc0 := 165) (pc' := 169) rfl (hb hby at_165) (by decide) (by decide) k_) ?_
        show Runs _ _ _ _ T15 (mkF m 169 #[.val (.long q0), .second, .val (.long q1), .second, .val (.long q2), .second, .val (.long q3), .second, .val (.int p4), .val (.long qn), .second, .val (.long qp), .second, .val (.ref ob1), .val (.ref ob3), .val (.int (0 : Int32)), .val .null, .val (.ref ol11), .val (.int (1 : Int32))] [(.int (1 : Int32))])
        refine Runs.back (fun t_ k_ => XS.istore X15.here hx rfl (hb hby at_169) rfl (l' := #[.val (.long q0), .second, .val (.long q1), .second, .val (.long q2), .second, .val (.long q3), .second, .val (.int p4), .val (.long qn), .second, .val (.long qp), .second, .val (.ref ob1), .val (.ref ob3), .val (.int (0 : Int32)), .val .null, .val (.ref ol11), .val (.int (1 : Int32))]) rfl k_) ?_
        show Runs _ _ _ _ T15 (mkF m 171 #[.val (.long q0), .second, .val (.long q1), .second, .val (.long q2), .second, .val (.long q3), .second, .val (.int p4), .val (.long qn), .second, .val (.long qp), .second, .val (.ref ob1), .val (.ref ob3), .val (.int (0 : Int32)), .val .null, .val (.ref ol11), .val (.int (1 : Int32))] [])
        refine Runs.back (fun t_ k_ => XS.iload X15.here hx rfl (hb hby at_171) rfl k_) ?_
        show Runs _ _ _ _ T15 (mkF m 173 #[.val (.long q0), .second, .val (.long q1), .second, .val (.long q2), .second, .val (.long q3), .second, .val (.int p4), .val (.long qn), .second, .val (.long qp), .second, .val (.ref ob1), .val (.ref ob3), .val (.int (0 : Int32)), .val .null, .val (.ref ol11), .val (.int (1 : Int32))] [(.int (1 : Int32))])
        refine Runs.back (fun t_ k_ => XS.ifNo X15.here hx rfl (hb hby at_173) rfl ((if0 _ _).trans (feq (show ¬ ((1 : Int32) = (0 : Int32)) from (by decide))).1) k_) ?_
        show Runs _ _ _ _ T15 (mkF m 176 #[.val (.long q0), .second, .val (.long q1), .second, .val (.long q2), .second, .val (.long q3), .second, .val (.int p4), .val (.long qn), .second, .val (.long qp), .second, .val (.ref ob1), .val (.ref ob3), .val (.int (0 : Int32)), .val .null, .val (.ref ol11), .val (.int (1 : Int32))] [])
        refine Runs.back (fun t_ k_ => XS.aload X15.here hx rfl (hb hby at_176) rfl rfl k_) ?_
        show Runs _ _ _ _ T15 (mkF m 178 #[.val (.long q0), .second, .val (.long q1), .second, .val (.long q2), .second, .val (.long q3), .second, .val (.int p4), .val (.long qn), .second, .val (.long qp), .second, .val (.ref ob1), .val (.ref ob3), .val (.int (0 : Int32)), .val .null, .val (.ref ol11), .val (.int (1 : Int32))] [(.ref ob1)])
        refine Runs.back (fun t_ k_ => XS.aload X15.here hx rfl (hb hby at_178) rfl rfl k_) ?_
        show Runs _ _ _ _ T15 (mkF m 180 #[.val (.long q0), .second, .val (.long q1), .second, .val (.long q2), .second, .val (.long q3), .second, .val (.int p4), .val (.long qn), .second, .val (.long qp), .second, .val (.ref ob1), .val (.ref ob3), .val (.int (0 : Int32)), .val .null, .val (.ref ol11), .val (.int (1 : Int32))] [(.ref ol11), (.ref ob1)])
        obtain ⟨cq16, kq16, q16a, q16b, q16c⟩ := isOf hZ eq15 f11_Exa_0
        obtain ⟨_, _, ⟨T16, L16, k16, n16⟩, -, X16, ⟨Lc16, hQ16, l16, y16, z16⟩, st16⟩ := X15.virtualBack hx (y := (⟨"com/example/ubique/ubique/ProcessId", "equals", "(Ljava/lang/Object;)Z"⟩ : MethodName)) (z := (⟨"com/example/ubique/ubique/ProcessId", "equals", "(Ljava/lang/Object;)Z"⟩ : MethodName)) hown (mvT hZ (hw _ (List.mem_of_getElem? (i := 26) rfl))) (mvT hZ (hw _ (List.mem_of_getElem? (i := 27) rfl))) (notFace_of_selects (args := #[]) (mvT hZ (hw _ (List.mem_of_getElem? (i := 29) rfl)))) (mvT hZ (hw _ (List.mem_of_getElem? (i := 29) rfl))) (mvT hZ (hw _ (List.mem_of_getElem? (i := 28) rfl))) (by decide) (backOf (W := 0) (rm5l l Z a0 hw [] ob1 ol11 T11.heap n0 (Z11) lE11) hZ (hw _ (List.mem_of_getElem? (i := 30) rfl)) (hw _ (List.mem_of_getElem? (i := 2) rfl)) (by decide) (by decide)) q16a q16c (g := (mkF m 180 #[.val (.long q0), .second, .val (.long q1), .second, .val (.long q2), .second, .val (.long q3), .second, .val (.int p4), .val (.long qn), .second, .val (.long qp), .second, .val (.ref ob1), .val (.ref ob3), .val (.int (0 : Int32)), .val .null, .val (.ref ol11), .val (.int (1 : Int32))] [(.ref ol11), (.ref ob1)])) rfl (by rw [hml]; rfl) (Steps.refl _) (argsL := [(.ref ol11)]) (rest := []) (lenOf pd0_2 rfl) rfl (by show 2 * 0 + _ ≤ _; exact Nat.le_of_eq rfl) (hb hby at_180) (fun _ _ => ⟨rfl, eq15, (by decide : 3 + 0 ≤ _), (by decide : 5 + 0 ≤ _)⟩)
        dsimp only [Pt.U, Pt.locs, Pt.cells, Pt.slots] at X16 l16 y16 z16 st16 hQ16
        obtain rfl : k16 = 3 := y16
        obtain rfl : n16 = 5 := z16
        obtain ⟨rfl, N16q, eq16⟩ := hQ16
        have N16 : Fr n0 L16 := by rw [l16]; exact Fr.app N15 N16q
        clear l16
        refine Runs.trans st16 ?_
        show Runs _ _ _ _ T16 (mkF m 183 #[.val (.long q0), .second, .val (.long q1), .second, .val (.long q2), .second, .val (.long q3), .second, .val (.int p4), .val (.long qn), .second, .val (.long qp), .second, .val (.ref ob1), .val (.ref ob3), .val (.int (0 : Int32)), .val .null, .val (.ref ol11), .val (.int (1 : Int32))] [(.int (0 : Int32))])
        refine Runs.back (fun t_ k_ => XS.ifNo X16.here hx rfl (hb hby at_183) rfl ((if0 _ _).trans (teq (show (0 : Int32) = (0 : Int32) from rfl)).2) k_) ?_
        show Runs _ _ _ _ T16 (mkF m 186 #[.val (.long q0), .second, .val (.long q1), .second, .val (.long q2), .second, .val (.long q3), .second, .val (.int p4), .val (.long qn), .second, .val (.long qp), .second, .val (.ref ob1), .val (.ref ob3), .val (.int (0 : Int32)), .val .null, .val (.ref ol11), .val (.int (1 : Int32))] [])
        refine Runs.back (fun t_ k_ => XS.iconst X16.here hx rfl (hb hby at_186) k_) ?_
        show Runs _ _ _ _ T16 (mkF m 187 #[.val (.long q0), .second, .val (.long q1), .second, .val (.long q2), .second, .val (.long q3), .second, .val (.int p4), .val (.long qn), .second, .val (.long qp), .second, .val (.ref ob1), .val (.ref ob3), .val (.int (0 : Int32)), .val .null, .val (.ref ol11), .val (.int (1 : Int32))] [(.int (1 : Int32))])
        refine Runs.back (fun t_ k_ => XS.goto X16.here hx rfl (pc0 := 187) (pc' := 191) rfl (hb hby at_187) (by decide) (by decide) k_) ?_
        show Runs _ _ _ _ T16 (mkF m 191 #[.val (.long q0), .second, .val (.long q1), .second, .val (.long q2), .second, .val (.long q3), .second, .val (.int p4), .val (.long qn), .second, .val (.long qp), .second, .val (.ref ob1), .val (.ref ob3), .val (.int (0 : Int32)), .val .null, .val (.ref ol11), .val (.int (1 : Int32))] [(.int (1 : Int32))])
        refine Runs.back (fun t_ k_ => XS.istore X16.here hx rfl (hb hby at_191) rfl (l' := #[.val (.long q0), .second, .val (.long q1), .second, .val (.long q2), .second, .val (.long q3), .second, .val (.int p4), .val (.long qn), .second, .val (.long qp), .second, .val (.ref ob1), .val (.ref ob3), .val (.int (0 : Int32)), .val .null, .val (.ref ol11), .val (.int (1 : Int32))]) rfl k_) ?_
        show Runs _ _ _ _ T16 (mkF m 193 #[.val (.long q0), .second, .val (.long q1), .second, .val (.long q2), .second, .val (.long q3), .second, .val (.int p4), .val (.long qn), .second, .val (.long qp), .second, .val (.ref ob1), .val (.ref ob3), .val (.int (0 : Int32)), .val .null, .val (.ref ol11), .val (.int (1 : Int32))] [])
        refine Runs.back (fun t_ k_ => XS.iload X16.here hx rfl (hb hby at_193) rfl k_) ?_
        show Runs _ _ _ _ T16 (mkF m 195 #[.val (.long q0), .second, .val (.long q1), .second, .val (.long q2), .second, .val (.long q3), .second, .val (.int p4), .val (.long qn), .second, .val (.long qp), .second, .val (.ref ob1), .val (.ref ob3), .val (.int (0 : Int32)), .val .null, .val (.ref ol11), .val (.int (1 : Int32))] [(.int (1 : Int32))])
        obtain ⟨fs, hr, hrun, hended, hW, hsame⟩ := X16.leave (v := some (.int (1 : Int32))) (fun h => by rw [Bd.returns] at h; cases h)
        exact ⟨_, _, (retN X16 hx (t := .boolean) Bd.returns (by simp) (hb hby at_195) hr), hrun, hended, _, _, rfl, ⟨rfl, N16⟩, ⟨_, rfl⟩, hW, hsame.mono (by decide) (by decide)⟩
    · intro J2
      show Runs _ _ _ _ T4 (mkF m 54 #[.val (.long q0), .second, .val (.long q1), .second, .val (.long q2), .second, .val (.long q3), .second, .val (.int p4), .val (.long qn), .second, .val (.long qp), .second, .val (.ref ob1), .val (.ref ob3), .unset, .unset, .unset, .unset] [])
      refine Runs.back (fun t_ k_ => XS.lload X4.here hx rfl (hb hby at_54) rfl k_) ?_
      show Runs _ _ _ _ T4 (mkF m 56 #[.val (.long q0), .second, .val (.long q1), .second, .val (.long q2), .second, .val (.long q3), .second, .val (.int p4), .val (.long qn), .second, .val (.long qp), .second, .val (.ref ob1), .val (.ref ob3), .unset, .unset, .unset, .unset] [(.long qn)])
      refine Runs.back (fun t_ k_ => XS.lloadN X4.here hx rfl (hb hby at_56) rfl k_) ?_
      show Runs _ _ _ _ T4 (mkF m 57 #[.val (.long q0), .second, .val (.long q1), .second, .val (.long q2), .second, .val (.long q3), .second, .val (.int p4), .val (.long qn), .second, .val (.long qp), .second, .val (.ref ob1), .val (.ref ob3), .unset, .unset, .unset, .unset] [(.long q0), (.long qn)])
      refine Runs.back (fun t_ k_ => XS.lcmp X4.here hx rfl (hb hby at_57) rfl k_) ?_
      show Runs _ _ _ _ T4 (mkF m 58 #[.val (.long q0), .second, .val (.long q1), .second, .val (.long q2), .second, .val (.long q3), .second, .val (.int p4), .val (.long qn), .second, .val (.long qp), .second, .val (.ref ob1), .val (.ref ob3), .unset, .unset, .unset, .unset] [(.int (lcmpW qn q0))])
      by_cases c58_17 : qn = q0
      · refine Runs.back (fun t_ k_ => XS.ifNo X4.here hx rfl (hb hby at_58) rfl ((if0 _ _).trans (teq (lcE c58_17)).2) k_) ?_
        show Runs _ _ _ _ T4 (mkF m 61 #[.val (.long q0), .second, .val (.long q1), .second, .val (.long q2), .second, .val (.long q3), .second, .val (.int p4), .val (.long qn), .second, .val (.long qp), .second, .val (.ref ob1), .val (.ref ob3), .unset, .unset, .unset, .unset] [])
        refine Runs.back (fun t_ k_ => XS.lload X4.here hx rfl (hb hby at_61) rfl k_) ?_
        show Runs _ _ _ _ T4 (mkF m 63 #[.val (.long q0), .second, .val (.long q1), .second, .val (.long q2), .second, .val (.long q3), .second, .val (.int p4), .val (.long qn), .second, .val (.long qp), .second, .val (.ref ob1), .val (.ref ob3), .unset, .unset, .unset, .unset] [(.long qp)])
        refine Runs.back (fun t_ k_ => XS.lloadN X4.here hx rfl (hb hby at_63) rfl k_) ?_
        show Runs _ _ _ _ T4 (mkF m 64 #[.val (.long q0), .second, .val (.long q1), .second, .val (.long q2), .second, .val (.long q3), .second, .val (.int p4), .val (.long qn), .second, .val (.long qp), .second, .val (.ref ob1), .val (.ref ob3), .unset, .unset, .unset, .unset] [(.long q1), (.long qp)])
        refine Runs.back (fun t_ k_ => XS.lcmp X4.here hx rfl (hb hby at_64) rfl k_) ?_
        show Runs _ _ _ _ T4 (mkF m 65 #[.val (.long q0), .second, .val (.long q1), .second, .val (.long q2), .second, .val (.long q3), .second, .val (.int p4), .val (.long qn), .second, .val (.long qp), .second, .val (.ref ob1), .val (.ref ob3), .unset, .unset, .unset, .unset] [(.int (lcmpW qp q1))])
        by_cases c65_18 : qp = q1
        · refine Runs.back (fun t_ k_ => XS.ifNo X4.here hx rfl (hb hby at_65) rfl ((if0 _ _).trans (teq (lcE c65_18)).2) k_) ?_
          show Runs _ _ _ _ T4 (mkF m 68 #[.val (.long q0), .second, .val (.long q1), .second, .val (.long q2), .second, .val (.long q3), .second, .val (.int p4), .val (.long qn), .second, .val (.long qp), .second, .val (.ref ob1), .val (.ref ob3), .unset, .unset, .unset, .unset] [])
          refine Runs.back (fun t_ k_ => XS.iconst X4.here hx rfl (hb hby at_68) k_) ?_
          show Runs _ _ _ _ T4 (mkF m 69 #[.val (.long q0), .second, .val (.long q1), .second, .val (.long q2), .second, .val (.long q3), .second, .val (.int p4), .val (.long qn), .second, .val (.long qp), .second, .val (.ref ob1), .val (.ref ob3), .unset, .unset, .unset, .unset] [(.int (1 : Int32))])
          refine Runs.back (fun t_ k_ => XS.goto X4.here hx rfl (pc0 := 69) (pc' := 73) rfl (hb hby at_69) (by decide) (by decide) k_) ?_
          show Runs _ _ _ _ T4 (mkF m 73 #[.val (.long q0), .second, .val (.long q1), .second, .val (.long q2), .second, .val (.long q3), .second, .val (.int p4), .val (.long qn), .second, .val (.long qp), .second, .val (.ref ob1), .val (.ref ob3), .unset, .unset, .unset, .unset] [(.int (1 : Int32))])
          refine Runs.back (fun t_ k_ => XS.istore X4.here hx rfl (hb hby at_73) rfl (l' := #[.val (.long q0), .second, .val (.long q1), .second, .val (.long q2), .second, .val (.long q3), .second, .val (.int p4), .val (.long qn), .second, .val (.long qp), .second, .val (.ref ob1), .val (.ref ob3), .val (.int (1 : Int32)), .unset, .unset, .unset]) rfl k_) ?_
          show Runs _ _ _ _ T4 (mkF m 75 #[.val (.long q0), .second, .val (.long q1), .second, .val (.long q2), .second, .val (.long q3), .second, .val (.int p4), .val (.long qn), .second, .val (.long qp), .second, .val (.ref ob1), .val (.ref ob3), .val (.int (1 : Int32)), .unset, .unset, .unset] [])
          exact J2 ((1 : Int32)) (if_pos ⟨c58_17, c65_18⟩).symm
        · refine Runs.back (fun t_ k_ => XS.ifYes X4.here hx rfl (pc0 := 65) (pc' := 72) rfl (hb hby at_65) rfl ((if0 _ _).trans (feq (lcN c65_18)).2) (by decide) (by decide) k_) ?_
          show Runs _ _ _ _ T4 (mkF m 72 #[.val (.long q0), .second, .val (.long q1), .second, .val (.long q2), .second, .val (.long q3), .second, .val (.int p4), .val (.long qn), .second, .val (.long qp), .second, .val (.ref ob1), .val (.ref ob3), .unset, .unset, .unset, .unset] [])
          refine Runs.back (fun t_ k_ => XS.iconst X4.here hx rfl (hb hby at_72) k_) ?_
          show Runs _ _ _ _ T4 (mkF m 73 #[.val (.long q0), .second, .val (.long q1), .second, .val (.long q2), .second, .val (.long q3), .second, .val (.int p4), .val (.long qn), .second, .val (.long qp), .second, .val (.ref ob1), .val (.ref ob3), .unset, .unset, .unset, .unset] [(.int (0 : Int32))])
          refine Runs.back (fun t_ k_ => XS.istore X4.here hx rfl (hb hby at_73) rfl (l' := #[.val (.long q0), .second, .val (.long q1), .second, .val (.long q2), .second, .val (.long q3), .second, .val (.int p4), .val (.long qn), .second, .val (.long qp), .second, .val (.ref ob1), .val (.ref ob3), .val (.int (0 : Int32)), .unset, .unset, .unset]) rfl k_) ?_
          show Runs _ _ _ _ T4 (mkF m 75 #[.val (.long q0), .second, .val (.long q1), .second, .val (.long q2), .second, .val (.long q3), .second, .val (.int p4), .val (.long qn), .second, .val (.long qp), .second, .val (.ref ob1), .val (.ref ob3), .val (.int (0 : Int32)), .unset, .unset, .unset] [])
          exact J2 ((0 : Int32)) (if_neg (fun q => c65_18 q.2)).symm
      · refine Runs.back (fun t_ k_ => XS.ifYes X4.here hx rfl (pc0 := 58) (pc' := 72) rfl (hb hby at_58) rfl ((if0 _ _).trans (feq (lcN c58_17)).2) (by decide) (by decide) k_) ?_
        show Runs _ _ _ _ T4 (mkF m 72 #[.val (.long q0), .second, .val (.long q1), .second, .val (.long q2), .second, .val (.long q3), .second, .val (.int p4), .val (.long qn), .second, .val (.long qp), .second, .val (.ref ob1), .val (.ref ob3), .unset, .unset, .unset, .unset] [])
        refine Runs.back (fun t_ k_ => XS.iconst X4.here hx rfl (hb hby at_72) k_) ?_
        show Runs _ _ _ _ T4 (mkF m 73 #[.val (.long q0), .second, .val (.long q1), .second, .val (.long q2), .second, .val (.long q3), .second, .val (.int p4), .val (.long qn), .second, .val (.long qp), .second, .val (.ref ob1), .val (.ref ob3), .unset, .unset, .unset, .unset] [(.int (0 : Int32))])
        refine Runs.back (fun t_ k_ => XS.istore X4.here hx rfl (hb hby at_73) rfl (l' := #[.val (.long q0), .second, .val (.long q1), .second, .val (.long q2), .second, .val (.long q3), .second, .val (.int p4), .val (.long qn), .second, .val (.long qp), .second, .val (.ref ob1), .val (.ref ob3), .val (.int (0 : Int32)), .unset, .unset, .unset]) rfl k_) ?_
        show Runs _ _ _ _ T4 (mkF m 75 #[.val (.long q0), .second, .val (.long q1), .second, .val (.long q2), .second, .val (.long q3), .second, .val (.int p4), .val (.long qn), .second, .val (.long qp), .second, .val (.ref ob1), .val (.ref ob3), .val (.int (0 : Int32)), .unset, .unset, .unset] [])
        exact J2 ((0 : Int32)) (if_neg (fun q => c58_17 q.1)).symm
  · intro J1
    show Runs _ _ _ _ s₁ (mkF m 0 #[.val (.long q0), .second, .val (.long q1), .second, .val (.long q2), .second, .val (.long q3), .second, .val (.int p4), .unset, .unset, .unset, .unset, .unset, .unset, .unset, .unset, .unset, .unset] [])
    refine Runs.back (fun t_ k_ => XS.iload X0.here hx rfl (hb hby at_0) rfl k_) ?_
    show Runs _ _ _ _ s₁ (mkF m 2 #[.val (.long q0), .second, .val (.long q1), .second, .val (.long q2), .second, .val (.long q3), .second, .val (.int p4), .unset, .unset, .unset, .unset, .unset, .unset, .unset, .unset, .unset, .unset] [(.int p4)])
    refine Runs.back (fun t_ k_ => XS.iconst X0.here hx rfl (hb hby at_2) k_) ?_
    show Runs _ _ _ _ s₁ (mkF m 3 #[.val (.long q0), .second, .val (.long q1), .second, .val (.long q2), .second, .val (.long q3), .second, .val (.int p4), .unset, .unset, .unset, .unset, .unset, .unset, .unset, .unset, .unset, .unset] [(.int (1 : Int32)), (.int p4)])
    refine Runs.back (fun t_ k_ => XS.iand X0.here hx rfl (hb hby at_3) rfl k_) ?_
    show Runs _ _ _ _ s₁ (mkF m 4 #[.val (.long q0), .second, .val (.long q1), .second, .val (.long q2), .second, .val (.long q3), .second, .val (.int p4), .unset, .unset, .unset, .unset, .unset, .unset, .unset, .unset, .unset, .unset] [(.int (p4 &&& (1 : Int32)))])
    by_cases c4_19 : (p4 &&& (1 : Int32)) = (0 : Int32)
    · refine Runs.back (fun t_ k_ => XS.ifYes X0.here hx rfl (pc0 := 4) (pc' := 12) rfl (hb hby at_4) rfl ((if0 _ _).trans (teq c4_19).1) (by decide) (by decide) k_) ?_
      show Runs _ _ _ _ s₁ (mkF m 12 #[.val (.long q0), .second, .val (.long q1), .second, .val (.long q2), .second, .val (.long q3), .second, .val (.int p4), .unset, .unset, .unset, .unset, .unset, .unset, .unset, .unset, .unset, .unset] [])
      refine Runs.back (fun t_ k_ => XS.lloadN X0.here hx rfl (hb hby at_12) rfl k_) ?_
      show Runs _ _ _ _ s₁ (mkF m 13 #[.val (.long q0), .second, .val (.long q1), .second, .val (.long q2), .second, .val (.long q3), .second, .val (.int p4), .unset, .unset, .unset, .unset, .unset, .unset, .unset, .unset, .unset, .unset] [(.long q0)])
      refine Runs.back (fun t_ k_ => XS.lstore X0.here hx rfl (hb hby at_13) rfl (l' := #[.val (.long q0), .second, .val (.long q1), .second, .val (.long q2), .second, .val (.long q3), .second, .val (.int p4), .val (.long q0), .second, .unset, .unset, .unset, .unset, .unset, .unset, .unset, .unset]) rfl k_) ?_
      show Runs _ _ _ _ s₁ (mkF m 15 #[.val (.long q0), .second, .val (.long q1), .second, .val (.long q2), .second, .val (.long q3), .second, .val (.int p4), .val (.long q0), .second, .unset, .unset, .unset, .unset, .unset, .unset, .unset, .unset] [])
      refine Runs.back (fun t_ k_ => XS.iload X0.here hx rfl (hb hby at_15) rfl k_) ?_
      show Runs _ _ _ _ s₁ (mkF m 17 #[.val (.long q0), .second, .val (.long q1), .second, .val (.long q2), .second, .val (.long q3), .second, .val (.int p4), .val (.long q0), .second, .unset, .unset, .unset, .unset, .unset, .unset, .unset, .unset] [(.int p4)])
      refine Runs.back (fun t_ k_ => XS.iconst X0.here hx rfl (hb hby at_17) k_) ?_
      show Runs _ _ _ _ s₁ (mkF m 18 #[.val (.long q0), .second, .val (.long q1), .second, .val (.long q2), .second, .val (.long q3), .second, .val (.int p4), .val (.long q0), .second, .unset, .unset, .unset, .unset, .unset, .unset, .unset, .unset] [(.int (2 : Int32)), (.int p4)])
      refine Runs.back (fun t_ k_ => XS.iand X0.here hx rfl (hb hby at_18) rfl k_) ?_
      show Runs _ _ _ _ s₁ (mkF m 19 #[.val (.long q0), .second, .val (.long q1), .second, .val (.long q2), .second, .val (.long q3), .second, .val (.int p4), .val (.long q0), .second, .unset, .unset, .unset, .unset, .unset, .unset, .unset, .unset] [(.int (p4 &&& (2 : Int32)))])
      by_cases c19_20 : (p4 &&& (2 : Int32)) = (0 : Int32)
      · refine Runs.back (fun t_ k_ => XS.ifYes X0.here hx rfl (pc0 := 19) (pc' := 27) rfl (hb hby at_19) rfl ((if0 _ _).trans (teq c19_20).1) (by decide) (by decide) k_) ?_
        show Runs _ _ _ _ s₁ (mkF m 27 #[.val (.long q0), .second, .val (.long q1), .second, .val (.long q2), .second, .val (.long q3), .second, .val (.int p4), .val (.long q0), .second, .unset, .unset, .unset, .unset, .unset, .unset, .unset, .unset] [])
        refine Runs.back (fun t_ k_ => XS.lloadN X0.here hx rfl (hb hby at_27) rfl k_) ?_
        show Runs _ _ _ _ s₁ (mkF m 28 #[.val (.long q0), .second, .val (.long q1), .second, .val (.long q2), .second, .val (.long q3), .second, .val (.int p4), .val (.long q0), .second, .unset, .unset, .unset, .unset, .unset, .unset, .unset, .unset] [(.long q1)])
        refine Runs.back (fun t_ k_ => XS.lstore X0.here hx rfl (hb hby at_28) rfl (l' := #[.val (.long q0), .second, .val (.long q1), .second, .val (.long q2), .second, .val (.long q3), .second, .val (.int p4), .val (.long q0), .second, .val (.long q1), .second, .unset, .unset, .unset, .unset, .unset, .unset]) rfl k_) ?_
        show Runs _ _ _ _ s₁ (mkF m 30 #[.val (.long q0), .second, .val (.long q1), .second, .val (.long q2), .second, .val (.long q3), .second, .val (.int p4), .val (.long q0), .second, .val (.long q1), .second, .unset, .unset, .unset, .unset, .unset, .unset] [])
        exact J1 (q0, q1) trivial
      · refine Runs.back (fun t_ k_ => XS.ifNo X0.here hx rfl (hb hby at_19) rfl ((if0 _ _).trans (feq c19_20).1) k_) ?_
        show Runs _ _ _ _ s₁ (mkF m 22 #[.val (.long q0), .second, .val (.long q1), .second, .val (.long q2), .second, .val (.long q3), .second, .val (.int p4), .val (.long q0), .second, .unset, .unset, .unset, .unset, .unset, .unset, .unset, .unset] [])
        refine Runs.back (fun t_ k_ => XS.lload X0.here hx rfl (hb hby at_22) rfl k_) ?_
        show Runs _ _ _ _ s₁ (mkF m 24 #[.val (.long q0), .second, .val (.long q1), .second, .val (.long q2), .second, .val (.long q3), .second, .val (.int p4), .val (.long q0), .second, .unset, .unset, .unset, .unset, .unset, .unset, .unset, .unset] [(.long q3)])
        refine Runs.back (fun t_ k_ => XS.goto X0.here hx rfl (pc0 := 24) (pc' := 28) rfl (hb hby at_24) (by decide) (by decide) k_) ?_
        show Runs _ _ _ _ s₁ (mkF m 28 #[.val (.long q0), .second, .val (.long q1), .second, .val (.long q2), .second, .val (.long q3), .second, .val (.int p4), .val (.long q0), .second, .unset, .unset, .unset, .unset, .unset, .unset, .unset, .unset] [(.long q3)])
        refine Runs.back (fun t_ k_ => XS.lstore X0.here hx rfl (hb hby at_28) rfl (l' := #[.val (.long q0), .second, .val (.long q1), .second, .val (.long q2), .second, .val (.long q3), .second, .val (.int p4), .val (.long q0), .second, .val (.long q3), .second, .unset, .unset, .unset, .unset, .unset, .unset]) rfl k_) ?_
        show Runs _ _ _ _ s₁ (mkF m 30 #[.val (.long q0), .second, .val (.long q1), .second, .val (.long q2), .second, .val (.long q3), .second, .val (.int p4), .val (.long q0), .second, .val (.long q3), .second, .unset, .unset, .unset, .unset, .unset, .unset] [])
        exact J1 (q0, q3) trivial
    · refine Runs.back (fun t_ k_ => XS.ifNo X0.here hx rfl (hb hby at_4) rfl ((if0 _ _).trans (feq c4_19).1) k_) ?_
      show Runs _ _ _ _ s₁ (mkF m 7 #[.val (.long q0), .second, .val (.long q1), .second, .val (.long q2), .second, .val (.long q3), .second, .val (.int p4), .unset, .unset, .unset, .unset, .unset, .unset, .unset, .unset, .unset, .unset] [])
      refine Runs.back (fun t_ k_ => XS.lload X0.here hx rfl (hb hby at_7) rfl k_) ?_
      show Runs _ _ _ _ s₁ (mkF m 9 #[.val (.long q0), .second, .val (.long q1), .second, .val (.long q2), .second, .val (.long q3), .second, .val (.int p4), .unset, .unset, .unset, .unset, .unset, .unset, .unset, .unset, .unset, .unset] [(.long q2)])
      refine Runs.back (fun t_ k_ => XS.goto X0.here hx rfl (pc0 := 9) (pc' := 13) rfl (hb hby at_9) (by decide) (by decide) k_) ?_
      show Runs _ _ _ _ s₁ (mkF m 13 #[.val (.long q0), .second, .val (.long q1), .second, .val (.long q2), .second, .val (.long q3), .second, .val (.int p4), .unset, .unset, .unset, .unset, .unset, .unset, .unset, .unset, .unset, .unset] [(.long q2)])
      refine Runs.back (fun t_ k_ => XS.lstore X0.here hx rfl (hb hby at_13) rfl (l' := #[.val (.long q0), .second, .val (.long q1), .second, .val (.long q2), .second, .val (.long q3), .second, .val (.int p4), .val (.long q2), .second, .unset, .unset, .unset, .unset, .unset, .unset, .unset, .unset]) rfl k_) ?_
      show Runs _ _ _ _ s₁ (mkF m 15 #[.val (.long q0), .second, .val (.long q1), .second, .val (.long q2), .second, .val (.long q3), .second, .val (.int p4), .val (.long q2), .second, .unset, .unset, .unset, .unset, .unset, .unset, .unset, .unset] [])
      refine Runs.back (fun t_ k_ => XS.iload X0.here hx rfl (hb hby at_15) rfl k_) ?_
      show Runs _ _ _ _ s₁ (mkF m 17 #[.val (.long q0), .second, .val (.long q1), .second, .val (.long q2), .second, .val (.long q3), .second, .val (.int p4), .val (.long q2), .second, .unset, .unset, .unset, .unset, .unset, .unset, .unset, .unset] [(.int p4)])
      refine Runs.back (fun t_ k_ => XS.iconst X0.here hx rfl (hb hby at_17) k_) ?_
      show Runs _ _ _ _ s₁ (mkF m 18 #[.val (.long q0), .second, .val (.long q1), .second, .val (.long q2), .second, .val (.long q3), .second, .val (.int p4), .val (.long q2), .second, .unset, .unset, .unset, .unset, .unset, .unset, .unset, .unset] [(.int (2 : Int32)), (.int p4)])
      refine Runs.back (fun t_ k_ => XS.iand X0.here hx rfl (hb hby at_18) rfl k_) ?_
      show Runs _ _ _ _ s₁ (mkF m 19 #[.val (.long q0), .second, .val (.long q1), .second, .val (.long q2), .second, .val (.long q3), .second, .val (.int p4), .val (.long q2), .second, .unset, .unset, .unset, .unset, .unset, .unset, .unset, .unset] [(.int (p4 &&& (2 : Int32)))])
      by_cases c19_21 : (p4 &&& (2 : Int32)) = (0 : Int32)
      · refine Runs.back (fun t_ k_ => XS.ifYes X0.here hx rfl (pc0 := 19) (pc' := 27) rfl (hb hby at_19) rfl ((if0 _ _).trans (teq c19_21).1) (by decide) (by decide) k_) ?_
        show Runs _ _ _ _ s₁ (mkF m 27 #[.val (.long q0), .second, .val (.long q1), .second, .val (.long q2), .second, .val (.long q3), .second, .val (.int p4), .val (.long q2), .second, .unset, .unset, .unset, .unset, .unset, .unset, .unset, .unset] [])
        refine Runs.back (fun t_ k_ => XS.lloadN X0.here hx rfl (hb hby at_27) rfl k_) ?_
        show Runs _ _ _ _ s₁ (mkF m 28 #[.val (.long q0), .second, .val (.long q1), .second, .val (.long q2), .second, .val (.long q3), .second, .val (.int p4), .val (.long q2), .second, .unset, .unset, .unset, .unset, .unset, .unset, .unset, .unset] [(.long q1)])
        refine Runs.back (fun t_ k_ => XS.lstore X0.here hx rfl (hb hby at_28) rfl (l' := #[.val (.long q0), .second, .val (.long q1), .second, .val (.long q2), .second, .val (.long q3), .second, .val (.int p4), .val (.long q2), .second, .val (.long q1), .second, .unset, .unset, .unset, .unset, .unset, .unset]) rfl k_) ?_
        show Runs _ _ _ _ s₁ (mkF m 30 #[.val (.long q0), .second, .val (.long q1), .second, .val (.long q2), .second, .val (.long q3), .second, .val (.int p4), .val (.long q2), .second, .val (.long q1), .second, .unset, .unset, .unset, .unset, .unset, .unset] [])
        exact J1 (q2, q1) trivial
      · refine Runs.back (fun t_ k_ => XS.ifNo X0.here hx rfl (hb hby at_19) rfl ((if0 _ _).trans (feq c19_21).1) k_) ?_
        show Runs _ _ _ _ s₁ (mkF m 22 #[.val (.long q0), .second, .val (.long q1), .second, .val (.long q2), .second, .val (.long q3), .second, .val (.int p4), .val (.long q2), .second, .unset, .unset, .unset, .unset, .unset, .unset, .unset, .unset] [])
        refine Runs.back (fun t_ k_ => XS.lload X0.here hx rfl (hb hby at_22) rfl k_) ?_
        show Runs _ _ _ _ s₁ (mkF m 24 #[.val (.long q0), .second, .val (.long q1), .second, .val (.long q2), .second, .val (.long q3), .second, .val (.int p4), .val (.long q2), .second, .unset, .unset, .unset, .unset, .unset, .unset, .unset, .unset] [(.long q3)])
        refine Runs.back (fun t_ k_ => XS.goto X0.here hx rfl (pc0 := 24) (pc' := 28) rfl (hb hby at_24) (by decide) (by decide) k_) ?_
        show Runs _ _ _ _ s₁ (mkF m 28 #[.val (.long q0), .second, .val (.long q1), .second, .val (.long q2), .second, .val (.long q3), .second, .val (.int p4), .val (.long q2), .second, .unset, .unset, .unset, .unset, .unset, .unset, .unset, .unset] [(.long q3)])
        refine Runs.back (fun t_ k_ => XS.lstore X0.here hx rfl (hb hby at_28) rfl (l' := #[.val (.long q0), .second, .val (.long q1), .second, .val (.long q2), .second, .val (.long q3), .second, .val (.int p4), .val (.long q2), .second, .val (.long q3), .second, .unset, .unset, .unset, .unset, .unset, .unset]) rfl k_) ?_
        show Runs _ _ _ _ s₁ (mkF m 30 #[.val (.long q0), .second, .val (.long q1), .second, .val (.long q2), .second, .val (.long q3), .second, .val (.int p4), .val (.long q2), .second, .val (.long q3), .second, .unset, .unset, .unset, .unset, .unset, .unset] [])
        exact J1 (q2, q3) trivial

theorem own_nat {i : Nat} (h : i < 2 ^ 31) : i.toInt32.toNatClampNeg = i := by
  have a := len_toInt h
  have n : ¬ i.toInt32 < 0 := by rw [lti, z32]; omega
  have b := nat_of n
  omega
theorem own_len {args : Array Value} {s : State} {t : Term} {a : Addr} {cl : Cell} (ht : t.eval args s none [] s = some (.ref a)) (ha : s.arrayAt? a = some cl) (h : (Jvm.Cond.eq (Jvm.Term.length t) (Jvm.Term.int (256 : Int32))).value args s none s [] = some true) : cl.slots.size = 256 := by
  obtain ⟨x, y, h1, h2, -⟩ := cmp_v (Or.inl h)
  by_cases hl : cl.slots.size < 2 ^ 31
  · have e := len_f ht ha hl
    have q : cl.slots.size.toInt32 = 256 := by
      by_cases z : cl.slots.size.toInt32 = 256
      · exact z
      · have w : (Jvm.Cond.eq (Jvm.Term.length t) (Jvm.Term.int (256 : Int32))).value args s none s [] = some (decide (cl.slots.size.toInt32 = 256)) := by simp [Cond.value, e, Term.int_eval]
        rw [w] at h; exact of_decide_eq_true (Option.some.inj h)
    have r := len_toInt hl
    rw [q] at r
    have r2 : (256 : Int32).toInt = 256 := by decide
    omega
  · rw [show (Jvm.Term.length t).eval args s none [] s = none from by simp [Term.eval, ht, ha, hl]] at h1
    cases h1
theorem own_el {args : Array Value} {s : State} {t : Term} {a e : Addr} {cl : Cell} {i : Nat} (ht : t.eval args s none [i] s = some (.ref a)) (ha : s.arrayAt? a = some cl) (he : (Jvm.Term.elem t (Jvm.Term.index 0)).eval args s none [i] s = some (.ref e)) (hb : i < 2 ^ 31) : (cl.slots[i]?).getD .null = .ref e := by
  have hj : (Jvm.Term.index 0).eval args s none [i] s = some (.int i.toInt32) := Term.index_eval _
  have n : ¬ i.toInt32 < 0 := by rw [lti, z32, len_toInt hb]; omega
  have q := elem_f ht hj ha n
  rw [own_nat hb, he] at q
  rw [← q]; rfl
set_option maxRecDepth 65536 in
set_option maxHeartbeats 40000000 in
theorem comes_1 {Post : Tables → Env → Array Value → State → Outcome → State → Prop} (hpost : ∀ tb e args s v u, (limb_1_1.after args s (.returned v) u = true ∧ limb_1_2.after args s (.returned v) u = true ∧ True) → FrameEnd s (.returned v) u (Jvm.fieldLocs frame_1_writes args s ++ Jvm.arrayLocs frame_1_arrays args s ++ Jvm.staticLocs frame_1_statics s) 16 128 → Post tb e args s (.returned v) u) :
    ArmFor flags0 classFile x code maxLocals ret World_1 tables_1 room_1 Calls_1 rest_1 Pre_1 Post := by
  intro l hfl _ _ p e ha hc hk s m args below hf hA hF happ hP
  obtain ⟨hcalls, hrest, hpre⟩ := hP
  obtain ⟨-, -, -, hnamed, -, -, -, hat⟩ := (Spec.applies_iff hf).mp happ
  obtain ⟨hg, hn⟩ := and_e (Cond.before_iff.mp (show (Jvm.Cond.and given_1 narrow_1).before args s = true from hpre))
  obtain ⟨g0, gr0⟩ := and_e hg
  obtain ⟨g1, gr1⟩ := and_e gr0
  obtain ⟨g2, gr2⟩ := and_e gr1
  obtain ⟨g3, gr3⟩ := and_e gr2
  obtain ⟨g4, gr4⟩ := and_e gr3
  obtain ⟨w0, w1, w2, w3, w4, rfl⟩ : ∃ w0 w1 w2 w3 w4 : Value, args = #[w0, w1, w2, w3, w4] := by
    have hs : args.size = 5 := by simpa [Cond.value, given_1] using g0
    obtain ⟨L⟩ := args
    match L, hs with
    | [w0, w1, w2, w3, w4], _ => exact ⟨w0, w1, w2, w3, w4, rfl⟩
  have hw := fun d (hd : d ∈ tables_1) => atoms_spec (ws := Jvm.Cond.code x code maxLocals ret :: tables_1) hat d (List.mem_cons_of_mem _ hd)
  obtain ⟨hsets, hown0⟩ := atoms_of _ (rest_1_c_eq ▸ (show rest_1_c.before _ s = true from hrest))
  obtain ⟨arr, earr⟩ := arr_v (Cond.before_iff.mp (hsets _ (List.mem_of_getElem? (i := 2) rfl)))
  obtain ⟨cl, A0⟩ := Arr.start earr (Cond.before_iff.mp (hsets _ (List.mem_of_getElem? (i := 2) rfl)))
  have afin := Arr.fin (Vm.Alike.refl _) A0
  have S1 := Sta.start earr (Or.inl (hsets _ (List.mem_of_getElem? (i := 1) rfl)))
  have hlen : cl.slots.size = 256 := own_len earr afin (Cond.before_iff.mp (hsets _ (List.mem_of_getElem? (i := 4) rfl)))
  have AC : OArr s s.heap arr (.object "java/lang/Long") 256 (fun i => (cl.slots[i]?).getD .null) := ⟨cl, A0, hlen, fun i hi => by
    show cl.slots[i]? = some ((cl.slots[i]?).getD .null); rw [Array.getElem?_eq_getElem (by omega)]; rfl⟩
  have hC : ∀ i, i < 256 → ∃ e, (fun i => (cl.slots[i]?).getD .null) i = .ref e ∧ Exa s s.heap e "java/lang/Long" := fun i hi => by
    obtain ⟨h1, -⟩ := and_e (Cond.all_elim earr afin (Cond.before_iff.mp (hsets _ (List.mem_of_getElem? (i := 5) rfl))) i (by omega))
    obtain ⟨e, he⟩ := exa_v h1
    refine ⟨e, ?_, exa_at he h1⟩
    exact own_el (by simpa [Term.eval] using earr) afin he (by omega)
  obtain ⟨i0, ei0⟩ := isL_v g1
  obtain rfl : w0 = (.long i0) := Option.some.inj ei0
  obtain ⟨i1, ei1⟩ := isL_v g2
  obtain rfl : w1 = (.long i1) := Option.some.inj ei1
  obtain ⟨i2, ei2⟩ := isL_v g3
  obtain rfl : w2 = (.long i2) := Option.some.inj ei2
  obtain ⟨i3, ei3⟩ := isL_v g4
  obtain rfl : w3 = (.long i3) := Option.some.inj ei3
  obtain ⟨i4, ei4⟩ := is_v gr4
  obtain rfl : w4 = (.int i4) := Option.some.inj ei4
  obtain ⟨n, o, h1, h2, h3, _, L, rfl, ⟨rfl, N⟩, hq⟩ := rm0 l s _ hw tables_1 i0 i1 i2 i3 i4 arr _ s.heap s.heap.size (Nat.le_refl _) S1 AC hC p e ha hc hk s m _ below hf ((Spec.applies_iff_loose hf).mp happ).1 ⟨rfl, State.Warmed39.refl s, rfl⟩ trivial
  refine ⟨n, _, h1, h2, h3, hpost _ _ _ _ _ _ ⟨Cond.after_iff.mpr rfl, Cond.after_iff.mpr (eq_i res_at (Term.int_eval (1)) rfl), trivial⟩ ⟨hq.1, hq.2.1, (hq.2.2.sift fun y hy => Or.inr (N y hy)).mono (by decide) (by decide)⟩⟩
theorem main_1_1 : Claimed_1_1 := comes_1 fun _ _ _ _ _ _ h hF => ⟨h.1, hF⟩
theorem main_1_2 : Claimed_1_2 := comes_1 fun _ _ _ _ _ _ h hF => ⟨h.2.1, hF⟩
end Jvm.Pilot.@@N@@
namespace Jvm.Pilot.@@N@@
open Jvm Jvm.ClassFile Sem Op Lib Jvm.Free Jvm.Stand Jvm.Pilot.@@N@@.Jvm.D
/-! MADE BY PROGRAM (witnessworld.py) out of the Statement's table words and the real class files: 17 classes; the members and pool entries that the words name. The judged class is class 1, her method 1. -/
namespace start1
open Jvm.ClassFile
def u (s : String) : CpInfo := .utf8 (stringToUtf16 s)
/-- a pool by its gaps: so many unusable entries, then the entry; so many at the end -/
def gap : Nat → List CpInfo → List CpInfo
  | 0, r => r
  | n + 1, r => .unusable :: gap n r
def poolList (es : List (Nat × CpInfo)) (last : Nat) : List CpInfo := es.foldr (fun e r => gap e.1 (e.2 :: r)) (gap last [])
def pool (es : List (Nat × CpInfo)) (last : Nat) : Array CpInfo := ⟨poolList es last⟩
def fileOf (pool : Array CpInfo) (this : Nat) (attrs : Array Attribute := #[]) (ms : Array MethodInfo := #[]) (fl : Nat := 33) (sup : Nat := 0) (ifs : Array Nat := #[]) (fds : Array FieldInfo := #[]) : ClassFile where
  minorVersion := 0
  majorVersion := 65
  constantPool := pool
  accessFlags := fl
  thisClass := this
  superClass := sup
  interfaces := ifs
  fields := fds
  methods := ms
  attributes := attrs
def plain (name : String) (sup : Option ClassId) : Class where
  name := name
  kind := .ordinary
  loader := none
  accessFlags := 33
  super := sup
  interfaces := #[]
  cf := none
  fields := #[]
  methods := #[]
  instanceTypes := #[]
  staticTypes := #[]
  resolved := #[]
  callSites := []
  init := .initialized
  statics := none
  mirror := none

def pool0 : Array CpInfo := pool [(5, u "<init>"), (0, u "()V"), (1, .class_ 10), (1, u "java/lang/Object")] 113

def k0c0 : Code := { maxStack := 0, maxLocals := 1, code := object_method_1_code, exceptionTable := #[], attributes := #[] }
def k0m0 : Method := { name := "<init>", desc := "()V", sig := { parameters := [], returnType := none }, accessFlags := 1, code := some k0c0 }
/-- java/lang/Object -/
def k0 : Class := { plain "java/lang/Object" none with
  accessFlags := 33
  interfaces := #[]
  cf := some (fileOf pool0 8 #[] #[{ accessFlags := 1, nameIndex := 5, descriptorIndex := 6, attributes := #[] }] 33 0 #[] #[])
  fields := #[]
  methods := #[k0m0]
  instanceTypes := #[]
  staticTypes := #[]
  resolved := Array.replicate 124 none
  statics := none }

def pool1 : Array CpInfo := pool [(2, .class_ 4), (1, u "java/lang/Object"), (0, u "<init>"), (0, u "()V"), (0, .class_ 8), (0, u "com/example/ubique/ubique/ProcessId"), (0, .methodref 7 10), (0, .nameAndType 5 11), (0, u "(JJ)V"), (0, .methodref 13 14), (0, .class_ 15), (0, .nameAndType 16 17), (0, u "java/lang/Long"), (0, u "valueOf"), (0, u "(J)Ljava/lang/Long;"), (0, .methodref 7 19), (0, .nameAndType 20 21), (0, u "equals"), (0, u "(Ljava/lang/Object;)Z"), (0, .class_ 23), (0, u "com/example/ubique/ubique/ProcessIdEqualsPinLaw"), (2, u "law"), (0, u "(JJJJI)Z")] 3

def k1m0 : Method := { name := "<init>", desc := "()V", sig := { parameters := [], returnType := none }, accessFlags := 2, code := none }
def k1c1 : Code := { maxStack := 6, maxLocals := 19, code := code, exceptionTable := #[], attributes := #[] }
def k1m1 : Method := { name := "law", desc := "(JJJJI)Z", sig := { parameters := [.long, .long, .long, .long, .int], returnType := some .boolean }, accessFlags := 9, code := some k1c1 }
/-- com/example/ubique/ubique/ProcessIdEqualsPinLaw -/
def k1 : Class := { plain "com/example/ubique/ubique/ProcessIdEqualsPinLaw" (some 0) with
  accessFlags := 49
  interfaces := #[]
  cf := some (fileOf pool1 22 #[] #[{ accessFlags := 2, nameIndex := 5, descriptorIndex := 6, attributes := #[] }, { accessFlags := 9, nameIndex := 26, descriptorIndex := 27, attributes := #[] }] 49 2 #[] #[])
  fields := #[]
  methods := #[k1m0, k1m1]
  instanceTypes := #[]
  staticTypes := #[]
  resolved := Array.replicate 31 none
  statics := none }

def pool2 : Array CpInfo := pool [(1, .methodref 2 3), (0, .class_ 4), (0, .nameAndType 5 6), (0, u "java/lang/Object"), (0, u "<init>"), (0, u "()V"), (0, .class_ 8), (0, u "java/lang/Record")] 13

def k2c0 : Code := { maxStack := 1, maxLocals := 1, code := jdk_30_method_1_code, exceptionTable := #[], attributes := #[] }
def k2m0 : Method := { name := "<init>", desc := "()V", sig := { parameters := [], returnType := none }, accessFlags := 4, code := some k2c0 }
/-- java/lang/Record -/
def k2 : Class := { plain "java/lang/Record" (some 0) with
  accessFlags := 1057
  interfaces := #[]
  cf := some (fileOf pool2 7 #[] #[{ accessFlags := 4, nameIndex := 5, descriptorIndex := 6, attributes := #[] }] 1057 2 #[] #[])
  fields := #[]
  methods := #[k2m0]
  instanceTypes := #[]
  staticTypes := #[]
  resolved := Array.replicate 22 none
  statics := none }

def pool3 : Array CpInfo := pool [(1, .methodref 2 3), (0, .class_ 4), (0, .nameAndType 5 6), (0, u "java/lang/Record"), (0, u "<init>"), (0, u "()V"), (0, .fieldref 8 9), (0, .class_ 10), (0, .nameAndType 11 12), (0, u "com/example/ubique/ubique/ProcessId"), (0, u "node"), (0, u "J"), (0, .fieldref 8 14), (0, .nameAndType 15 12), (0, u "process"), (21, u "(JJ)V"), (34, u "NONE"), (0, u "Lcom/example/ubique/ubique/ProcessId;"), (0, u "LENGTH"), (0, u "I"), (9, u "equals"), (0, u "(Ljava/lang/Object;)Z")] 22

def k3c0 : Code := { maxStack := 3, maxLocals := 5, code := prog_79_method_1_code, exceptionTable := #[], attributes := #[] }
def k3m0 : Method := { name := "<init>", desc := "(JJ)V", sig := { parameters := [.long, .long], returnType := none }, accessFlags := 0, code := some k3c0 }
def k3c1 : Code := { maxStack := 4, maxLocals := 3, code := prog_79_method_4_code, exceptionTable := #[], attributes := #[] }
def k3m1 : Method := { name := "equals", desc := "(Ljava/lang/Object;)Z", sig := { parameters := [(.object "java/lang/Object")], returnType := some .boolean }, accessFlags := 1, code := some k3c1 }
/-- com/example/ubique/ubique/ProcessId -/
def k3 : Class := { plain "com/example/ubique/ubique/ProcessId" (some 2) with
  accessFlags := 48
  interfaces := #[]
  cf := some (fileOf pool3 8 #[] #[{ accessFlags := 0, nameIndex := 5, descriptorIndex := 37, attributes := #[] }, { accessFlags := 1, nameIndex := 85, descriptorIndex := 86, attributes := #[] }] 48 2 #[] #[{ accessFlags := 18, nameIndex := 11, descriptorIndex := 12, attributes := #[] }, { accessFlags := 18, nameIndex := 15, descriptorIndex := 12, attributes := #[] }, { accessFlags := 24, nameIndex := 74, descriptorIndex := 75, attributes := #[] }, { accessFlags := 24, nameIndex := 72, descriptorIndex := 73, attributes := #[] }])
  fields := #[{ name := "node", type := .long, accessFlags := 18, slot := 0, constantValue := 0 }, { name := "process", type := .long, accessFlags := 18, slot := 1, constantValue := 0 }, { name := "LENGTH", type := .int, accessFlags := 24, slot := 0, constantValue := 0 }, { name := "NONE", type := (.object "com/example/ubique/ubique/ProcessId"), accessFlags := 24, slot := 1, constantValue := 0 }]
  methods := #[k3m0, k3m1]
  instanceTypes := #[.long, .long]
  staticTypes := #[.int, (.object "com/example/ubique/ubique/ProcessId")]
  resolved := Array.replicate 109 none
  statics := none }

def pool4 : Array CpInfo := pool [(1, .class_ 2), (0, u "java/io/Serializable"), (0, .class_ 4), (0, u "java/lang/Object")] 2

/-- java/io/Serializable -/
def k4 : Class := { plain "java/io/Serializable" (some 0) with
  accessFlags := 1537
  interfaces := #[]
  cf := some (fileOf pool4 1 #[] #[] 1537 3 #[] #[])
  fields := #[]
  methods := #[]
  instanceTypes := #[]
  staticTypes := #[]
  resolved := Array.replicate 7 none
  statics := none }

def pool5 : Array CpInfo := pool [(1, .methodref 2 3), (0, .class_ 4), (0, .nameAndType 5 6), (0, u "java/lang/Object"), (0, u "<init>"), (0, u "()V"), (1, .class_ 10), (1, u "java/lang/Number"), (2, .class_ 14), (0, u "java/io/Serializable"), (0, u "serialVersionUID"), (0, u "J")] 20

def k5c0 : Code := { maxStack := 1, maxLocals := 1, code := jdk_18_method_1_code, exceptionTable := #[], attributes := #[] }
def k5m0 : Method := { name := "<init>", desc := "()V", sig := { parameters := [], returnType := none }, accessFlags := 1, code := some k5c0 }
/-- java/lang/Number -/
def k5 : Class := { plain "java/lang/Number" (some 0) with
  accessFlags := 1057
  interfaces := #[4]
  cf := some (fileOf pool5 8 #[] #[{ accessFlags := 1, nameIndex := 5, descriptorIndex := 6, attributes := #[] }] 1057 2 #[13] #[{ accessFlags := 26, nameIndex := 15, descriptorIndex := 16, attributes := #[] }])
  fields := #[{ name := "serialVersionUID", type := .long, accessFlags := 26, slot := 0, constantValue := 0 }]
  methods := #[k5m0]
  instanceTypes := #[]
  staticTypes := #[.long]
  resolved := Array.replicate 37 none
  statics := none }

def pool6 : Array CpInfo := pool [(1, .class_ 2), (0, u "java/lang/Comparable"), (0, .class_ 4), (0, u "java/lang/Object")] 7

/-- java/lang/Comparable -/
def k6 : Class := { plain "java/lang/Comparable" (some 0) with
  accessFlags := 1537
  interfaces := #[]
  cf := some (fileOf pool6 1 #[] #[] 1537 3 #[] #[])
  fields := #[]
  methods := #[]
  instanceTypes := #[]
  staticTypes := #[]
  resolved := Array.replicate 12 none
  statics := none }

def pool7 : Array CpInfo := pool [(1, .class_ 2), (0, u "java/lang/constant/Constable"), (0, .class_ 4), (0, u "java/lang/Object")] 6

/-- java/lang/constant/Constable -/
def k7 : Class := { plain "java/lang/constant/Constable" (some 0) with
  accessFlags := 1537
  interfaces := #[]
  cf := some (fileOf pool7 1 #[] #[] 1537 3 #[] #[])
  fields := #[]
  methods := #[]
  instanceTypes := #[]
  staticTypes := #[]
  resolved := Array.replicate 11 none
  statics := none }

def pool8 : Array CpInfo := pool [(1, .class_ 2), (0, u "java/lang/constant/ConstantDesc"), (0, .class_ 4), (0, u "java/lang/Object")] 32

/-- java/lang/constant/ConstantDesc -/
def k8 : Class := { plain "java/lang/constant/ConstantDesc" (some 0) with
  accessFlags := 1537
  interfaces := #[]
  cf := some (fileOf pool8 1 #[] #[] 1537 3 #[] #[])
  fields := #[]
  methods := #[]
  instanceTypes := #[]
  staticTypes := #[]
  resolved := Array.replicate 37 none
  statics := none }

def pool9 : Array CpInfo := pool [(1, .class_ 2), (0, u "java/lang/Long"), (55, .nameAndType 59 60), (0, u "<init>"), (0, u "()V"), (24, u "valueOf"), (143, u "(J)Ljava/lang/Long;"), (0, .long 18446744073709551488), (1, .long 127), (1, .fieldref 235 236), (0, .class_ 237), (0, .nameAndType 238 239), (0, u "java/lang/Long$LongCache"), (0, u "cache"), (0, u "[Ljava/lang/Long;"), (0, .methodref 1 241), (0, .nameAndType 59 242), (0, u "(J)V"), (27, .methodref 271 58), (0, .class_ 272), (0, u "java/lang/Number"), (0, .fieldref 1 274), (0, .nameAndType 275 276), (0, u "value"), (0, u "J"), (84, u "TYPE"), (0, u "Ljava/lang/Class;"), (0, .class_ 364), (0, u "java/lang/Comparable"), (0, .class_ 366), (0, u "java/lang/constant/Constable"), (0, .class_ 368), (0, u "java/lang/constant/ConstantDesc"), (0, u "MIN_VALUE"), (1, u "MAX_VALUE"), (4, u "SIZE"), (0, u "I"), (1, u "BYTES"), (1, u "serialVersionUID")] 142

def k9c0 : Code := { maxStack := 4, maxLocals := 3, code := jdk_35_method_24_code, exceptionTable := #[], attributes := #[] }
def k9m0 : Method := { name := "valueOf", desc := "(J)Ljava/lang/Long;", sig := { parameters := [.long], returnType := some (.object "java/lang/Long") }, accessFlags := 9, code := some k9c0 }
def k9c1 : Code := { maxStack := 3, maxLocals := 3, code := jdk_35_method_26_code, exceptionTable := #[], attributes := #[] }
def k9m1 : Method := { name := "<init>", desc := "(J)V", sig := { parameters := [.long], returnType := none }, accessFlags := 1, code := some k9c1 }
/-- java/lang/Long -/
def k9 : Class := { plain "java/lang/Long" (some 5) with
  accessFlags := 49
  interfaces := #[6, 7, 8]
  cf := some (fileOf pool9 1 #[.nestMembers #[235]] #[{ accessFlags := 9, nameIndex := 85, descriptorIndex := 229, attributes := #[] }, { accessFlags := 1, nameIndex := 59, descriptorIndex := 242, attributes := #[] }] 49 271 #[363, 365, 367] #[{ accessFlags := 25, nameIndex := 369, descriptorIndex := 276, attributes := #[] }, { accessFlags := 25, nameIndex := 371, descriptorIndex := 276, attributes := #[] }, { accessFlags := 25, nameIndex := 361, descriptorIndex := 362, attributes := #[] }, { accessFlags := 18, nameIndex := 275, descriptorIndex := 276, attributes := #[] }, { accessFlags := 25, nameIndex := 376, descriptorIndex := 377, attributes := #[] }, { accessFlags := 25, nameIndex := 379, descriptorIndex := 377, attributes := #[] }, { accessFlags := 26, nameIndex := 381, descriptorIndex := 276, attributes := #[] }])
  fields := #[{ name := "MIN_VALUE", type := .long, accessFlags := 25, slot := 0, constantValue := 0 }, { name := "MAX_VALUE", type := .long, accessFlags := 25, slot := 1, constantValue := 0 }, { name := "TYPE", type := (.object "java/lang/Class"), accessFlags := 25, slot := 2, constantValue := 0 }, { name := "value", type := .long, accessFlags := 18, slot := 0, constantValue := 0 }, { name := "SIZE", type := .int, accessFlags := 25, slot := 3, constantValue := 0 }, { name := "BYTES", type := .int, accessFlags := 25, slot := 4, constantValue := 0 }, { name := "serialVersionUID", type := .long, accessFlags := 26, slot := 5, constantValue := 0 }]
  methods := #[k9m0, k9m1]
  instanceTypes := #[.long]
  staticTypes := #[.long, .long, (.object "java/lang/Class"), .int, .int, .long]
  resolved := Array.replicate 524 none
  statics := none }

def pool10 : Array CpInfo := pool [(2, .class_ 4), (1, u "java/lang/Object"), (0, u "<init>"), (0, u "()V"), (0, .class_ 8), (0, u "java/lang/Long"), (7, .class_ 18), (1, u "java/lang/Long$LongCache"), (0, u "$assertionsDisabled"), (0, u "Z"), (8, u "archivedCache"), (0, u "[Ljava/lang/Long;"), (7, u "cache")] 24

def k10m0 : Method := { name := "<init>", desc := "()V", sig := { parameters := [], returnType := none }, accessFlags := 2, code := none }
/-- java/lang/Long$LongCache -/
def k10 : Class := { plain "java/lang/Long$LongCache" (some 0) with
  accessFlags := 48
  interfaces := #[]
  cf := some (fileOf pool10 16 #[.nestHost 7] #[{ accessFlags := 2, nameIndex := 5, descriptorIndex := 6, attributes := #[] }] 48 2 #[] #[{ accessFlags := 24, nameIndex := 38, descriptorIndex := 30, attributes := #[] }, { accessFlags := 8, nameIndex := 29, descriptorIndex := 30, attributes := #[] }, { accessFlags := 4120, nameIndex := 19, descriptorIndex := 20, attributes := #[] }])
  fields := #[{ name := "cache", type := (.array (.object "java/lang/Long")), accessFlags := 24, slot := 0, constantValue := 0 }, { name := "archivedCache", type := (.array (.object "java/lang/Long")), accessFlags := 8, slot := 1, constantValue := 0 }, { name := "$assertionsDisabled", type := .boolean, accessFlags := 4120, slot := 2, constantValue := 0 }]
  methods := #[k10m0]
  instanceTypes := #[]
  staticTypes := #[(.array (.object "java/lang/Long")), (.array (.object "java/lang/Long")), .boolean]
  resolved := Array.replicate 63 none
  statics := some 0 }

def pool11 : Array CpInfo := pool [(1, u "java/lang/Cloneable"), (0, .class_ 1), (0, u "java/lang/Object"), (0, .class_ 3)] 3

/-- java/lang/Cloneable -/
def k11 : Class := { plain "java/lang/Cloneable" (some 0) with
  accessFlags := 1537
  interfaces := #[]
  cf := some (fileOf pool11 2 #[] #[] 1537 4 #[] #[])
  fields := #[]
  methods := #[]
  instanceTypes := #[]
  staticTypes := #[]
  resolved := Array.replicate 8 none
  statics := none }

/-- the primitive byte -/
def k12 : Class := { plain "byte" none with kind := .primitive 'B', accessFlags := 0x411 }
/-- [B -/
def k13 : Class := { plain "[B" (some 0) with kind := .array 12 .byte, interfaces := #[11, 4], accessFlags := 1041 }

/-- the primitive int -/
def k14 : Class := { plain "int" none with kind := .primitive 'I', accessFlags := 0x411 }
/-- [I -/
def k15 : Class := { plain "[I" (some 0) with kind := .array 14 .int, interfaces := #[11, 4], accessFlags := 1041 }

/-- [Ljava/lang/Long; -/
def k16 : Class := { plain "[Ljava/lang/Long;" (some 0) with kind := .array 9 (.object "java/lang/Long"), interfaces := #[11, 4], accessFlags := 1041 }

def heap : Heap := #[{ cls := 10, slots := #[.ref 1, .null, .int 0], vm := .statics 10 },
  { cls := 16, slots := #[.ref 2, .ref 3, .ref 4, .ref 5, .ref 6, .ref 7, .ref 8, .ref 9, .ref 10, .ref 11, .ref 12, .ref 13, .ref 14, .ref 15, .ref 16, .ref 17, .ref 18, .ref 19, .ref 20, .ref 21, .ref 22, .ref 23, .ref 24, .ref 25, .ref 26, .ref 27, .ref 28, .ref 29, .ref 30, .ref 31, .ref 32, .ref 33, .ref 34, .ref 35, .ref 36, .ref 37, .ref 38, .ref 39, .ref 40, .ref 41, .ref 42, .ref 43, .ref 44, .ref 45, .ref 46, .ref 47, .ref 48, .ref 49, .ref 50, .ref 51, .ref 52, .ref 53, .ref 54, .ref 55, .ref 56, .ref 57, .ref 58, .ref 59, .ref 60, .ref 61, .ref 62, .ref 63, .ref 64, .ref 65, .ref 66, .ref 67, .ref 68, .ref 69, .ref 70, .ref 71, .ref 72, .ref 73, .ref 74, .ref 75, .ref 76, .ref 77, .ref 78, .ref 79, .ref 80, .ref 81, .ref 82, .ref 83, .ref 84, .ref 85, .ref 86, .ref 87, .ref 88, .ref 89, .ref 90, .ref 91, .ref 92, .ref 93, .ref 94, .ref 95, .ref 96, .ref 97, .ref 98, .ref 99, .ref 100, .ref 101, .ref 102, .ref 103, .ref 104, .ref 105, .ref 106, .ref 107, .ref 108, .ref 109, .ref 110, .ref 111, .ref 112, .ref 113, .ref 114, .ref 115, .ref 116, .ref 117, .ref 118, .ref 119, .ref 120, .ref 121, .ref 122, .ref 123, .ref 124, .ref 125, .ref 126, .ref 127, .ref 128, .ref 129, .ref 130, .ref 131, .ref 132, .ref 133, .ref 134, .ref 135, .ref 136, .ref 137, .ref 138, .ref 139, .ref 140, .ref 141, .ref 142, .ref 143, .ref 144, .ref 145, .ref 146, .ref 147, .ref 148, .ref 149, .ref 150, .ref 151, .ref 152, .ref 153, .ref 154, .ref 155, .ref 156, .ref 157, .ref 158, .ref 159, .ref 160, .ref 161, .ref 162, .ref 163, .ref 164, .ref 165, .ref 166, .ref 167, .ref 168, .ref 169, .ref 170, .ref 171, .ref 172, .ref 173, .ref 174, .ref 175, .ref 176, .ref 177, .ref 178, .ref 179, .ref 180, .ref 181, .ref 182, .ref 183, .ref 184, .ref 185, .ref 186, .ref 187, .ref 188, .ref 189, .ref 190, .ref 191, .ref 192, .ref 193, .ref 194, .ref 195, .ref 196, .ref 197, .ref 198, .ref 199, .ref 200, .ref 201, .ref 202, .ref 203, .ref 204, .ref 205, .ref 206, .ref 207, .ref 208, .ref 209, .ref 210, .ref 211, .ref 212, .ref 213, .ref 214, .ref 215, .ref 216, .ref 217, .ref 218, .ref 219, .ref 220, .ref 221, .ref 222, .ref 223, .ref 224, .ref 225, .ref 226, .ref 227, .ref 228, .ref 229, .ref 230, .ref 231, .ref 232, .ref 233, .ref 234, .ref 235, .ref 236, .ref 237, .ref 238, .ref 239, .ref 240, .ref 241, .ref 242, .ref 243, .ref 244, .ref 245, .ref 246, .ref 247, .ref 248, .ref 249, .ref 250, .ref 251, .ref 252, .ref 253, .ref 254, .ref 255, .ref 256, .ref 257], vm := .none },
  { cls := 9, slots := #[.long (-128)], vm := .none },
  { cls := 9, slots := #[.long (-127)], vm := .none },
  { cls := 9, slots := #[.long (-126)], vm := .none },
  { cls := 9, slots := #[.long (-125)], vm := .none },
  { cls := 9, slots := #[.long (-124)], vm := .none },
  { cls := 9, slots := #[.long (-123)], vm := .none },
  { cls := 9, slots := #[.long (-122)], vm := .none },
  { cls := 9, slots := #[.long (-121)], vm := .none },
  { cls := 9, slots := #[.long (-120)], vm := .none },
  { cls := 9, slots := #[.long (-119)], vm := .none },
  { cls := 9, slots := #[.long (-118)], vm := .none },
  { cls := 9, slots := #[.long (-117)], vm := .none },
  { cls := 9, slots := #[.long (-116)], vm := .none },
  { cls := 9, slots := #[.long (-115)], vm := .none },
  { cls := 9, slots := #[.long (-114)], vm := .none },
  { cls := 9, slots := #[.long (-113)], vm := .none },
  { cls := 9, slots := #[.long (-112)], vm := .none },
  { cls := 9, slots := #[.long (-111)], vm := .none },
  { cls := 9, slots := #[.long (-110)], vm := .none },
  { cls := 9, slots := #[.long (-109)], vm := .none },
  { cls := 9, slots := #[.long (-108)], vm := .none },
  { cls := 9, slots := #[.long (-107)], vm := .none },
  { cls := 9, slots := #[.long (-106)], vm := .none },
  { cls := 9, slots := #[.long (-105)], vm := .none },
  { cls := 9, slots := #[.long (-104)], vm := .none },
  { cls := 9, slots := #[.long (-103)], vm := .none },
  { cls := 9, slots := #[.long (-102)], vm := .none },
  { cls := 9, slots := #[.long (-101)], vm := .none },
  { cls := 9, slots := #[.long (-100)], vm := .none },
  { cls := 9, slots := #[.long (-99)], vm := .none },
  { cls := 9, slots := #[.long (-98)], vm := .none },
  { cls := 9, slots := #[.long (-97)], vm := .none },
  { cls := 9, slots := #[.long (-96)], vm := .none },
  { cls := 9, slots := #[.long (-95)], vm := .none },
  { cls := 9, slots := #[.long (-94)], vm := .none },
  { cls := 9, slots := #[.long (-93)], vm := .none },
  { cls := 9, slots := #[.long (-92)], vm := .none },
  { cls := 9, slots := #[.long (-91)], vm := .none },
  { cls := 9, slots := #[.long (-90)], vm := .none },
  { cls := 9, slots := #[.long (-89)], vm := .none },
  { cls := 9, slots := #[.long (-88)], vm := .none },
  { cls := 9, slots := #[.long (-87)], vm := .none },
  { cls := 9, slots := #[.long (-86)], vm := .none },
  { cls := 9, slots := #[.long (-85)], vm := .none },
  { cls := 9, slots := #[.long (-84)], vm := .none },
  { cls := 9, slots := #[.long (-83)], vm := .none },
  { cls := 9, slots := #[.long (-82)], vm := .none },
  { cls := 9, slots := #[.long (-81)], vm := .none },
  { cls := 9, slots := #[.long (-80)], vm := .none },
  { cls := 9, slots := #[.long (-79)], vm := .none },
  { cls := 9, slots := #[.long (-78)], vm := .none },
  { cls := 9, slots := #[.long (-77)], vm := .none },
  { cls := 9, slots := #[.long (-76)], vm := .none },
  { cls := 9, slots := #[.long (-75)], vm := .none },
  { cls := 9, slots := #[.long (-74)], vm := .none },
  { cls := 9, slots := #[.long (-73)], vm := .none },
  { cls := 9, slots := #[.long (-72)], vm := .none },
  { cls := 9, slots := #[.long (-71)], vm := .none },
  { cls := 9, slots := #[.long (-70)], vm := .none },
  { cls := 9, slots := #[.long (-69)], vm := .none },
  { cls := 9, slots := #[.long (-68)], vm := .none },
  { cls := 9, slots := #[.long (-67)], vm := .none },
  { cls := 9, slots := #[.long (-66)], vm := .none },
  { cls := 9, slots := #[.long (-65)], vm := .none },
  { cls := 9, slots := #[.long (-64)], vm := .none },
  { cls := 9, slots := #[.long (-63)], vm := .none },
  { cls := 9, slots := #[.long (-62)], vm := .none },
  { cls := 9, slots := #[.long (-61)], vm := .none },
  { cls := 9, slots := #[.long (-60)], vm := .none },
  { cls := 9, slots := #[.long (-59)], vm := .none },
  { cls := 9, slots := #[.long (-58)], vm := .none },
  { cls := 9, slots := #[.long (-57)], vm := .none },
  { cls := 9, slots := #[.long (-56)], vm := .none },
  { cls := 9, slots := #[.long (-55)], vm := .none },
  { cls := 9, slots := #[.long (-54)], vm := .none },
  { cls := 9, slots := #[.long (-53)], vm := .none },
  { cls := 9, slots := #[.long (-52)], vm := .none },
  { cls := 9, slots := #[.long (-51)], vm := .none },
  { cls := 9, slots := #[.long (-50)], vm := .none },
  { cls := 9, slots := #[.long (-49)], vm := .none },
  { cls := 9, slots := #[.long (-48)], vm := .none },
  { cls := 9, slots := #[.long (-47)], vm := .none },
  { cls := 9, slots := #[.long (-46)], vm := .none },
  { cls := 9, slots := #[.long (-45)], vm := .none },
  { cls := 9, slots := #[.long (-44)], vm := .none },
  { cls := 9, slots := #[.long (-43)], vm := .none },
  { cls := 9, slots := #[.long (-42)], vm := .none },
  { cls := 9, slots := #[.long (-41)], vm := .none },
  { cls := 9, slots := #[.long (-40)], vm := .none },
  { cls := 9, slots := #[.long (-39)], vm := .none },
  { cls := 9, slots := #[.long (-38)], vm := .none },
  { cls := 9, slots := #[.long (-37)], vm := .none },
  { cls := 9, slots := #[.long (-36)], vm := .none },
  { cls := 9, slots := #[.long (-35)], vm := .none },
  { cls := 9, slots := #[.long (-34)], vm := .none },
  { cls := 9, slots := #[.long (-33)], vm := .none },
  { cls := 9, slots := #[.long (-32)], vm := .none },
  { cls := 9, slots := #[.long (-31)], vm := .none },
  { cls := 9, slots := #[.long (-30)], vm := .none },
  { cls := 9, slots := #[.long (-29)], vm := .none },
  { cls := 9, slots := #[.long (-28)], vm := .none },
  { cls := 9, slots := #[.long (-27)], vm := .none },
  { cls := 9, slots := #[.long (-26)], vm := .none },
  { cls := 9, slots := #[.long (-25)], vm := .none },
  { cls := 9, slots := #[.long (-24)], vm := .none },
  { cls := 9, slots := #[.long (-23)], vm := .none },
  { cls := 9, slots := #[.long (-22)], vm := .none },
  { cls := 9, slots := #[.long (-21)], vm := .none },
  { cls := 9, slots := #[.long (-20)], vm := .none },
  { cls := 9, slots := #[.long (-19)], vm := .none },
  { cls := 9, slots := #[.long (-18)], vm := .none },
  { cls := 9, slots := #[.long (-17)], vm := .none },
  { cls := 9, slots := #[.long (-16)], vm := .none },
  { cls := 9, slots := #[.long (-15)], vm := .none },
  { cls := 9, slots := #[.long (-14)], vm := .none },
  { cls := 9, slots := #[.long (-13)], vm := .none },
  { cls := 9, slots := #[.long (-12)], vm := .none },
  { cls := 9, slots := #[.long (-11)], vm := .none },
  { cls := 9, slots := #[.long (-10)], vm := .none },
  { cls := 9, slots := #[.long (-9)], vm := .none },
  { cls := 9, slots := #[.long (-8)], vm := .none },
  { cls := 9, slots := #[.long (-7)], vm := .none },
  { cls := 9, slots := #[.long (-6)], vm := .none },
  { cls := 9, slots := #[.long (-5)], vm := .none },
  { cls := 9, slots := #[.long (-4)], vm := .none },
  { cls := 9, slots := #[.long (-3)], vm := .none },
  { cls := 9, slots := #[.long (-2)], vm := .none },
  { cls := 9, slots := #[.long (-1)], vm := .none },
  { cls := 9, slots := #[.long (0)], vm := .none },
  { cls := 9, slots := #[.long (1)], vm := .none },
  { cls := 9, slots := #[.long (2)], vm := .none },
  { cls := 9, slots := #[.long (3)], vm := .none },
  { cls := 9, slots := #[.long (4)], vm := .none },
  { cls := 9, slots := #[.long (5)], vm := .none },
  { cls := 9, slots := #[.long (6)], vm := .none },
  { cls := 9, slots := #[.long (7)], vm := .none },
  { cls := 9, slots := #[.long (8)], vm := .none },
  { cls := 9, slots := #[.long (9)], vm := .none },
  { cls := 9, slots := #[.long (10)], vm := .none },
  { cls := 9, slots := #[.long (11)], vm := .none },
  { cls := 9, slots := #[.long (12)], vm := .none },
  { cls := 9, slots := #[.long (13)], vm := .none },
  { cls := 9, slots := #[.long (14)], vm := .none },
  { cls := 9, slots := #[.long (15)], vm := .none },
  { cls := 9, slots := #[.long (16)], vm := .none },
  { cls := 9, slots := #[.long (17)], vm := .none },
  { cls := 9, slots := #[.long (18)], vm := .none },
  { cls := 9, slots := #[.long (19)], vm := .none },
  { cls := 9, slots := #[.long (20)], vm := .none },
  { cls := 9, slots := #[.long (21)], vm := .none },
  { cls := 9, slots := #[.long (22)], vm := .none },
  { cls := 9, slots := #[.long (23)], vm := .none },
  { cls := 9, slots := #[.long (24)], vm := .none },
  { cls := 9, slots := #[.long (25)], vm := .none },
  { cls := 9, slots := #[.long (26)], vm := .none },
  { cls := 9, slots := #[.long (27)], vm := .none },
  { cls := 9, slots := #[.long (28)], vm := .none },
  { cls := 9, slots := #[.long (29)], vm := .none },
  { cls := 9, slots := #[.long (30)], vm := .none },
  { cls := 9, slots := #[.long (31)], vm := .none },
  { cls := 9, slots := #[.long (32)], vm := .none },
  { cls := 9, slots := #[.long (33)], vm := .none },
  { cls := 9, slots := #[.long (34)], vm := .none },
  { cls := 9, slots := #[.long (35)], vm := .none },
  { cls := 9, slots := #[.long (36)], vm := .none },
  { cls := 9, slots := #[.long (37)], vm := .none },
  { cls := 9, slots := #[.long (38)], vm := .none },
  { cls := 9, slots := #[.long (39)], vm := .none },
  { cls := 9, slots := #[.long (40)], vm := .none },
  { cls := 9, slots := #[.long (41)], vm := .none },
  { cls := 9, slots := #[.long (42)], vm := .none },
  { cls := 9, slots := #[.long (43)], vm := .none },
  { cls := 9, slots := #[.long (44)], vm := .none },
  { cls := 9, slots := #[.long (45)], vm := .none },
  { cls := 9, slots := #[.long (46)], vm := .none },
  { cls := 9, slots := #[.long (47)], vm := .none },
  { cls := 9, slots := #[.long (48)], vm := .none },
  { cls := 9, slots := #[.long (49)], vm := .none },
  { cls := 9, slots := #[.long (50)], vm := .none },
  { cls := 9, slots := #[.long (51)], vm := .none },
  { cls := 9, slots := #[.long (52)], vm := .none },
  { cls := 9, slots := #[.long (53)], vm := .none },
  { cls := 9, slots := #[.long (54)], vm := .none },
  { cls := 9, slots := #[.long (55)], vm := .none },
  { cls := 9, slots := #[.long (56)], vm := .none },
  { cls := 9, slots := #[.long (57)], vm := .none },
  { cls := 9, slots := #[.long (58)], vm := .none },
  { cls := 9, slots := #[.long (59)], vm := .none },
  { cls := 9, slots := #[.long (60)], vm := .none },
  { cls := 9, slots := #[.long (61)], vm := .none },
  { cls := 9, slots := #[.long (62)], vm := .none },
  { cls := 9, slots := #[.long (63)], vm := .none },
  { cls := 9, slots := #[.long (64)], vm := .none },
  { cls := 9, slots := #[.long (65)], vm := .none },
  { cls := 9, slots := #[.long (66)], vm := .none },
  { cls := 9, slots := #[.long (67)], vm := .none },
  { cls := 9, slots := #[.long (68)], vm := .none },
  { cls := 9, slots := #[.long (69)], vm := .none },
  { cls := 9, slots := #[.long (70)], vm := .none },
  { cls := 9, slots := #[.long (71)], vm := .none },
  { cls := 9, slots := #[.long (72)], vm := .none },
  { cls := 9, slots := #[.long (73)], vm := .none },
  { cls := 9, slots := #[.long (74)], vm := .none },
  { cls := 9, slots := #[.long (75)], vm := .none },
  { cls := 9, slots := #[.long (76)], vm := .none },
  { cls := 9, slots := #[.long (77)], vm := .none },
  { cls := 9, slots := #[.long (78)], vm := .none },
  { cls := 9, slots := #[.long (79)], vm := .none },
  { cls := 9, slots := #[.long (80)], vm := .none },
  { cls := 9, slots := #[.long (81)], vm := .none },
  { cls := 9, slots := #[.long (82)], vm := .none },
  { cls := 9, slots := #[.long (83)], vm := .none },
  { cls := 9, slots := #[.long (84)], vm := .none },
  { cls := 9, slots := #[.long (85)], vm := .none },
  { cls := 9, slots := #[.long (86)], vm := .none },
  { cls := 9, slots := #[.long (87)], vm := .none },
  { cls := 9, slots := #[.long (88)], vm := .none },
  { cls := 9, slots := #[.long (89)], vm := .none },
  { cls := 9, slots := #[.long (90)], vm := .none },
  { cls := 9, slots := #[.long (91)], vm := .none },
  { cls := 9, slots := #[.long (92)], vm := .none },
  { cls := 9, slots := #[.long (93)], vm := .none },
  { cls := 9, slots := #[.long (94)], vm := .none },
  { cls := 9, slots := #[.long (95)], vm := .none },
  { cls := 9, slots := #[.long (96)], vm := .none },
  { cls := 9, slots := #[.long (97)], vm := .none },
  { cls := 9, slots := #[.long (98)], vm := .none },
  { cls := 9, slots := #[.long (99)], vm := .none },
  { cls := 9, slots := #[.long (100)], vm := .none },
  { cls := 9, slots := #[.long (101)], vm := .none },
  { cls := 9, slots := #[.long (102)], vm := .none },
  { cls := 9, slots := #[.long (103)], vm := .none },
  { cls := 9, slots := #[.long (104)], vm := .none },
  { cls := 9, slots := #[.long (105)], vm := .none },
  { cls := 9, slots := #[.long (106)], vm := .none },
  { cls := 9, slots := #[.long (107)], vm := .none },
  { cls := 9, slots := #[.long (108)], vm := .none },
  { cls := 9, slots := #[.long (109)], vm := .none },
  { cls := 9, slots := #[.long (110)], vm := .none },
  { cls := 9, slots := #[.long (111)], vm := .none },
  { cls := 9, slots := #[.long (112)], vm := .none },
  { cls := 9, slots := #[.long (113)], vm := .none },
  { cls := 9, slots := #[.long (114)], vm := .none },
  { cls := 9, slots := #[.long (115)], vm := .none },
  { cls := 9, slots := #[.long (116)], vm := .none },
  { cls := 9, slots := #[.long (117)], vm := .none },
  { cls := 9, slots := #[.long (118)], vm := .none },
  { cls := 9, slots := #[.long (119)], vm := .none },
  { cls := 9, slots := #[.long (120)], vm := .none },
  { cls := 9, slots := #[.long (121)], vm := .none },
  { cls := 9, slots := #[.long (122)], vm := .none },
  { cls := 9, slots := #[.long (123)], vm := .none },
  { cls := 9, slots := #[.long (124)], vm := .none },
  { cls := 9, slots := #[.long (125)], vm := .none },
  { cls := 9, slots := #[.long (126)], vm := .none },
  { cls := 9, slots := #[.long (127)], vm := .none }]
def classes : Array Class := #[k0, k1, k2, k3, k4, k5, k6, k7, k8, k9, k10, k11, k12, k13, k14, k15, k16]
def interned : List (Array UInt16 × Addr) := []
def slotsUsed : Nat := 515
def theMethod : MethodId := ⟨1, 1⟩
def args0 : Array Value := #[.long 5, .long 6, .long 7, .long 8, .int 9]
def aboutOver (below : List Frame) : State where
  vm := { classes := classes, interned := interned.toArray }
  heap := heap
  slotsUsed := slotsUsed
  threads := #[{ frames := .invoking theMethod args0 :: below }]
def below0 : List Frame := [.native { method := ⟨0, 0⟩, args := #[] }]
def about1 : State := aboutOver below0
def p0 : Program := .bare "" "" ""
def e0 : Env := launch0.env 0 0 0
theorem w_frames : about1.frames = Frame.invoking theMethod args0 :: below0 := rfl
set_option maxRecDepth 65536 in
theorem w_args : argsFit about1.vm theMethod args0 = true := by decide +kernel
set_option maxRecDepth 65536 in
theorem w_heap : heapFits about1 = true := by decide +kernel
set_option maxRecDepth 65536 in
theorem w_runnable : about1.curStatus? = some .runnable := by decide +kernel
set_option maxRecDepth 65536 in
theorem w_alone : about1.alone = true := by decide +kernel
set_option maxRecDepth 65536 in
theorem w_named : about1.methodNamed? x = some theMethod := by decide +kernel
set_option maxRecDepth 65536 in
theorem w_hears : about1.hears theMethod below0 = true := by decide +kernel
set_option maxRecDepth 65536 in
theorem w_ripe : about1.ripe theMethod args0 below0 = true := by decide +kernel
theorem w_running : about1.status = .running := rfl
set_option maxRecDepth 65536 in
theorem w_room : about1.hasRoom e0.platform room_1 = true :=
  launch0.hasRoom_least _ room_1 (by decide +kernel) (by decide +kernel) (by decide +kernel) (by decide +kernel) (by decide +kernel) (by decide +kernel)
theorem allAtoms_all (ts : List Jvm.Cond) (a : Array Jvm.Value) (st : Jvm.State) : (allAtoms ts).before a st = ts.all (fun c => c.before a st) := by
  induction ts with
  | nil => rfl
  | cons c t ih =>
    show (Jvm.Cond.and c (allAtoms t)).before a st = _
    rw [Jvm.Cond.before_and, ih, List.all_cons]
def words1 : List Jvm.Cond := Jvm.Cond.code x code maxLocals ret :: tables_1
/-- a 'code' word, met by the world's own term for the bytes: nothing is compared byte by byte -/
theorem code_word {y : MethodName} {bytes : ByteArray} {mx : Nat} {rt : Option FieldType} {a : Array Value} {s : State} {m : MethodId} {meth : Method} {c : Code} (h1 : s.methodNamed? y = some m) (h2 : s.vm.method? m = some meth) (h3 : meth.code = some c) (h4 : c.code = bytes)
    (h5 : (c.maxLocals == mx && c.exceptionTable.isEmpty && decide (c.maxStack ≤ mostOperands) && decide (meth.sig.returnType = rt) && !meth.locks && decide (parseMethodDescriptor y.desc = some meth.sig)) = true) : (Jvm.Cond.code y bytes mx rt).before a s = true := by
  simp only [Bool.and_eq_true, beq_iff_eq, Bool.not_eq_true', decide_eq_true_eq] at h5
  obtain ⟨⟨⟨⟨⟨g1, g2⟩, g3⟩, g4⟩, g5⟩, g6⟩ := h5
  simp [Cond.before, Cond.holds, Cond.value, h1, h2, h3, h4, g1, g2, g3, g4, g5, g6]
def isCode : Jvm.Cond → Bool
  | .code _ _ _ _ => true
  | _ => false
theorem all_split {L : List Jvm.Cond} {P : Jvm.Cond → Bool} (h1 : L.all (fun c => isCode c || P c) = true) (h2 : ∀ c ∈ L.filter isCode, P c = true) : L.all P = true := by
  refine List.all_eq_true.mpr fun c hc => ?_
  have h := List.all_eq_true.mp h1 c hc
  rcases Bool.eq_false_or_eq_true (isCode c) with hi | hi
  · exact h2 c (List.mem_filter.mpr ⟨hc, hi⟩)
  · simpa [hi] using h
set_option maxRecDepth 65536 in
theorem w_c0 : (Jvm.Cond.code x code maxLocals ret).before args0 about1 = true := code_word (m := ⟨1, 1⟩) (meth := k1m1) (c := k1c1) (by decide +kernel) rfl rfl rfl (by decide +kernel)
set_option maxRecDepth 65536 in
theorem w_c1 : (Jvm.Cond.code ({ cls := "com/example/ubique/ubique/ProcessId", name := "<init>", desc := "(JJ)V" } : Jvm.MethodName) prog_79_method_1_code (5 : Nat) (Option.none : Option Jvm.ClassFile.FieldType)).before args0 about1 = true := code_word (m := ⟨3, 0⟩) (meth := k3m0) (c := k3c0) (by decide +kernel) rfl rfl rfl (by decide +kernel)
set_option maxRecDepth 65536 in
theorem w_c2 : (Jvm.Cond.code ({ cls := "java/lang/Record", name := "<init>", desc := "()V" } : Jvm.MethodName) jdk_30_method_1_code (1 : Nat) (Option.none : Option Jvm.ClassFile.FieldType)).before args0 about1 = true := code_word (m := ⟨2, 0⟩) (meth := k2m0) (c := k2c0) (by decide +kernel) rfl rfl rfl (by decide +kernel)
set_option maxRecDepth 65536 in
theorem w_c3 : (Jvm.Cond.code ({ cls := "java/lang/Object", name := "<init>", desc := "()V" } : Jvm.MethodName) object_method_1_code (1 : Nat) (Option.none : Option Jvm.ClassFile.FieldType)).before args0 about1 = true := code_word (m := ⟨0, 0⟩) (meth := k0m0) (c := k0c0) (by decide +kernel) rfl rfl rfl (by decide +kernel)
set_option maxRecDepth 65536 in
theorem w_c4 : (Jvm.Cond.code ({ cls := "java/lang/Long", name := "valueOf", desc := "(J)Ljava/lang/Long;" } : Jvm.MethodName) jdk_35_method_24_code (3 : Nat) (Option.some (Jvm.ClassFile.FieldType.object "java/lang/Long"))).before args0 about1 = true := code_word (m := ⟨9, 0⟩) (meth := k9m0) (c := k9c0) (by decide +kernel) rfl rfl rfl (by decide +kernel)
set_option maxRecDepth 65536 in
theorem w_c5 : (Jvm.Cond.code ({ cls := "com/example/ubique/ubique/ProcessId", name := "equals", desc := "(Ljava/lang/Object;)Z" } : Jvm.MethodName) prog_79_method_4_code (3 : Nat) (Option.some Jvm.ClassFile.FieldType.boolean)).before args0 about1 = true := code_word (m := ⟨3, 1⟩) (meth := k3m1) (c := k3c1) (by decide +kernel) rfl rfl rfl (by decide +kernel)
set_option maxRecDepth 65536 in
theorem w_c6 : (Jvm.Cond.code ({ cls := "java/lang/Long", name := "<init>", desc := "(J)V" } : Jvm.MethodName) jdk_35_method_26_code (3 : Nat) (Option.none : Option Jvm.ClassFile.FieldType)).before args0 about1 = true := code_word (m := ⟨9, 1⟩) (meth := k9m1) (c := k9c1) (by decide +kernel) rfl rfl rfl (by decide +kernel)
set_option maxRecDepth 65536 in
theorem w_c7 : (Jvm.Cond.code ({ cls := "java/lang/Number", name := "<init>", desc := "()V" } : Jvm.MethodName) jdk_18_method_1_code (1 : Nat) (Option.none : Option Jvm.ClassFile.FieldType)).before args0 about1 = true := code_word (m := ⟨5, 0⟩) (meth := k5m0) (c := k5c0) (by decide +kernel) rfl rfl rfl (by decide +kernel)
def codes1 : List Jvm.Cond := [Jvm.Cond.code x code maxLocals ret, Jvm.Cond.code ({ cls := "com/example/ubique/ubique/ProcessId", name := "<init>", desc := "(JJ)V" } : Jvm.MethodName) prog_79_method_1_code (5 : Nat) (Option.none : Option Jvm.ClassFile.FieldType), Jvm.Cond.code ({ cls := "java/lang/Record", name := "<init>", desc := "()V" } : Jvm.MethodName) jdk_30_method_1_code (1 : Nat) (Option.none : Option Jvm.ClassFile.FieldType), Jvm.Cond.code ({ cls := "java/lang/Object", name := "<init>", desc := "()V" } : Jvm.MethodName) object_method_1_code (1 : Nat) (Option.none : Option Jvm.ClassFile.FieldType), Jvm.Cond.code ({ cls := "java/lang/Long", name := "valueOf", desc := "(J)Ljava/lang/Long;" } : Jvm.MethodName) jdk_35_method_24_code (3 : Nat) (Option.some (Jvm.ClassFile.FieldType.object "java/lang/Long")), Jvm.Cond.code ({ cls := "com/example/ubique/ubique/ProcessId", name := "equals", desc := "(Ljava/lang/Object;)Z" } : Jvm.MethodName) prog_79_method_4_code (3 : Nat) (Option.some Jvm.ClassFile.FieldType.boolean), Jvm.Cond.code ({ cls := "java/lang/Long", name := "<init>", desc := "(J)V" } : Jvm.MethodName) jdk_35_method_26_code (3 : Nat) (Option.none : Option Jvm.ClassFile.FieldType), Jvm.Cond.code ({ cls := "java/lang/Number", name := "<init>", desc := "()V" } : Jvm.MethodName) jdk_18_method_1_code (1 : Nat) (Option.none : Option Jvm.ClassFile.FieldType)]
set_option maxRecDepth 65536 in
theorem codes_eq : words1.filter isCode = codes1 := rfl
theorem w_codes : ∀ c ∈ words1.filter isCode, c.before args0 about1 = true := by
  rw [codes_eq]
  intro c hc
  simp only [codes1, List.mem_cons, List.not_mem_nil, or_false] at hc
  rcases hc with rfl | rfl | rfl | rfl | rfl | rfl | rfl | rfl
  · exact w_c0
  · exact w_c1
  · exact w_c2
  · exact w_c3
  · exact w_c4
  · exact w_c5
  · exact w_c6
  · exact w_c7
set_option maxRecDepth 65536 in
theorem w_t1 : (words1.take 24).all (fun c => isCode c || c.before args0 about1) = true := by decide +kernel
set_option maxRecDepth 65536 in
theorem w_t2 : ((words1.drop 24).take 24).all (fun c => isCode c || c.before args0 about1) = true := by decide +kernel
set_option maxRecDepth 65536 in
theorem w_t3 : ((words1.drop 24).drop 24).all (fun c => isCode c || c.before args0 about1) = true := by decide +kernel
theorem w_tables : (allAtoms (Jvm.Cond.code x code maxLocals ret :: tables_1)).before args0 about1 = true := by
  rw [allAtoms_all]
  show words1.all (fun c => c.before args0 about1) = true
  refine all_split ?_ w_codes
  rw [← List.take_append_drop 24 words1, List.all_append, w_t1, ← List.take_append_drop 24 (words1.drop 24), List.all_append, w_t2, w_t3]
  rfl
set_option maxRecDepth 65536 in
theorem w_rest : rest_1_c.before args0 about1 = true := by decide +kernel
set_option maxRecDepth 65536 in
theorem w_case : (Jvm.Cond.and given_1 narrow_1).before args0 about1 = true := by decide +kernel
theorem w_applies : (headSpec (Jvm.Cond.code x code maxLocals ret :: tables_1) room_1).applies x e0.platform about1 = true :=
  (Spec.applies_iff w_frames).mpr ⟨w_running, w_runnable, w_alone, w_named, w_hears, w_ripe, w_room, w_tables⟩
theorem atStart : AtStart classFile x code maxLocals ret World_1 tables_1 room_1 Calls_1 rest_1 Pre_1 launch0 p0 e0 about1 theMethod args0 below0 :=
  ⟨lists_1, trivial, launch0.admits_env _ _ _, launch0.least_env, fairChoices_fair.cas, fairChoices_fair.clock, w_frames, w_args, w_heap, w_applies, trivial, w_rest, w_case⟩
end start1
theorem witness_1 : WitnessClaimed_1 := ⟨start1.p0, start1.e0, start1.about1, start1.theMethod, start1.args0, start1.below0, start1.atStart⟩
end Jvm.Pilot.@@N@@
