import JvmDerived
import JvmDerived.Pilot.@@N@@Statement
import JvmDerived.Pilot.@@N@@Code
set_option linter.unusedVariables false
set_option linter.unusedSimpArgs false
namespace Jvm.RoadKit
open Sem ClassFile Op Lib Jvm.Stand Jvm.Free Jvm.LawKit
section New
variable {p : Program} {l : Launch} {e : Env} {R : Room} {s : State} {m : MethodId} {args : Array Value} {below : List Frame} {meth : Method} {c : Code} {T : State} {locs : List Loc} {cells slots : Nat}
theorem retI (X : Stand p l e R s m args below meth c T locs cells slots) (hx : p.tables.exec = Jvm.exec) {pc : Nat} {Ls : Array Slot} {z : Int32} {rest : List Value} (hret : meth.sig.returnType = some .int) (hd : decode c.code pc = .ok (.ireturn, 1)) {fs : List Frame}
    (hl : ∀ (f : JFrame) (acts : List Action), f.method = m → f.locked = none → f.entered = [] → (doReturn e (T.setTop f) acts (some (.int z))).1 = T.setFrames fs) : Steps p.tables e below (T.setTop (mkF m pc Ls (.int z :: rest))) (T.setFrames fs) := by
  have hm' : T.vm.method? m = some meth := X.method'
  have hn : narrow .int (.int z) = .int z := rfl
  show Steps p.tables e below (T.setTop { method := m, pc := pc, locals := Ls, stack := _ :: rest, locked := none }) _
  jvm_step X.here [X.here.top, hx, hd, hm', hret, hn]
  first | (intro acts; rw [hl _ acts rfl rfl rfl]) | rw [hl _ _ rfl rfl rfl]
  exact Steps.refl _
end New
end Jvm.RoadKit
namespace Jvm.Pilot.@@N@@
open Jvm Jvm.ClassFile Sem Op Lib Jvm.Free Jvm.Stand Jvm.LawKit Jvm.RoadKit Bundle Jvm.Pilot.@@N@@.Jvm.D
/-! the own kit: a run told backwards (Runs), arrays by a function of the place (OArr), the comparisons of longs -/
def Runs (tb : Tables) (e : Env) (below : List Frame) (R : State → Outcome → Prop) (T : State) (g : JFrame) : Prop := ∃ t o, Steps tb e below (T.setTop g) t ∧ R t o
section Own
variable {tb : Tables} {e : Env} {below : List Frame} {R : State → Outcome → Prop} {T T' : State} {g g' : JFrame}
theorem Runs.back (k : ∀ t, Steps tb e below (T'.setTop g') t → Steps tb e below (T.setTop g) t) (h : Runs tb e below R T' g') : Runs tb e below R T g := by
  obtain ⟨t, o, h1, h2⟩ := h; exact ⟨t, o, k t h1, h2⟩
theorem Runs.trans (k : Steps tb e below (T.setTop g) (T'.setTop g')) (h : Runs tb e below R T' g') : Runs tb e below R T g := by
  obtain ⟨t, o, h1, h2⟩ := h; exact ⟨t, o, Steps.trans k h1, h2⟩
theorem Runs.enter (q : g = g') (h : Runs tb e below R T g') : ∃ t o, Steps tb e below (T.setTop g) t ∧ R t o := by subst q; exact h
theorem Runs.join {α : Type} {P : α → Prop} {F : α → JFrame} (h : ∀ v, P v → Runs tb e below R T (F v)) (k : (∀ v, P v → Runs tb e below R T (F v)) → Runs tb e below R T g) : Runs tb e below R T g := k h
theorem Runs.joinT {α : Type} {P : α → State → Prop} {F : α → JFrame} (h : ∀ v T', P v T' → Runs tb e below R T' (F v)) (k : (∀ v T', P v T' → Runs tb e below R T' (F v)) → Runs tb e below R T g) : Runs tb e below R T g := k h
theorem lcT {x y : Int64} (h : x < y) : lcmpW x y < 0 := by
  have h1 : ¬ y < x := Int64.not_lt.mpr (Int64.le_of_lt h)
  have h2 : ¬ x = y := fun q => by subst q; exact Int64.lt_irrefl h
  simp [lcmpW, h1, h2]
theorem lcF {x y : Int64} (h : ¬ x < y) : ¬ lcmpW x y < 0 := by
  unfold lcmpW
  by_cases h1 : x > y
  · simp only [if_pos h1]; decide
  · have h2 : x = y := Int64.le_antisymm (Int64.not_lt.mp h1) (Int64.not_lt.mp h)
    simp only [if_neg h1, if_pos h2]; decide
theorem lcT' {x y : Int64} (h : y < x) : 0 < lcmpW x y := by
  unfold lcmpW; rw [if_pos h]; decide
theorem lcF' {x y : Int64} (h : ¬ y < x) : ¬ 0 < lcmpW x y := by
  unfold lcmpW
  have h1 : ¬ x > y := h
  simp only [if_neg h1]
  by_cases h2 : x = y
  · simp only [if_pos h2]; decide
  · simp only [if_neg h2]; decide
theorem lcE {x y : Int64} (h : x = y) : lcmpW x y = 0 := by
  have h1 : ¬ x > y := fun q => by subst h; exact Int64.lt_irrefl q
  unfold lcmpW; rw [if_neg h1, if_pos h]
theorem lcN {x y : Int64} (h : ¬ x = y) : ¬ lcmpW x y = 0 := by
  unfold lcmpW
  by_cases h1 : x > y
  · simp only [if_pos h1]; decide
  · simp only [if_neg h1, if_neg h]; decide
def OArr (Z : State) (h : Heap) (a : Addr) (ty : FieldType) (n : Nat) (f : Nat → Value) : Prop := ∃ c : Cell, Arr Z h a c ty ∧ c.slots.size = n ∧ ∀ i, i < n → c.slots[i]? = some (f i)
variable {Z : State} {h h' : Heap} {a b : Addr} {ty : FieldType} {n sl : Nat} {f : Nat → Value} {v : Value} {ws : List Addr}
theorem OArr.lt (F : OArr Z h a ty n f) : a < h.size := by obtain ⟨c, A, -⟩ := F; exact A.lt
theorem OArr.ext (F : OArr Z h a ty n f) (E : Ext h h') : OArr Z h' a ty n f := by obtain ⟨c, A, r⟩ := F; exact ⟨c, A.ext E, r⟩
theorem OArr.other (F : OArr Z h b ty n f) (W : Wr h h' a sl v) (q : b ≠ a) : OArr Z h' b ty n f := by obtain ⟨c, A, r⟩ := F; exact ⟨c, A.other W q, r⟩
theorem OArr.keep (F : OArr Z h a ty n f) (K : Keep h h' ws) (q : a ∉ ws) : OArr Z h' a ty n f := by obtain ⟨c, A, r⟩ := F; exact ⟨c, ⟨K.2.1 a c A.1 q, A.2⟩, r⟩
theorem OArr.congr (F : OArr Z h a ty n f) {f' : Nat → Value} (q : ∀ i, i < n → f i = f' i) : OArr Z h a ty n f' := by obtain ⟨c, A, r1, r2⟩ := F; exact ⟨c, A, r1, fun i hi => by rw [r2 i hi, q i hi]⟩
theorem OArr.set (F : OArr Z h a ty n f) (W : Wr h h' a sl v) : OArr Z h' a ty n (fun i => if i = sl then v else f i) := by
  obtain ⟨c, A, r1, r2⟩ := F
  obtain ⟨cell, e1, -, e3, -⟩ := id W
  cases e1.symm.trans A.1
  refine ⟨_, A.same W, by rw [sz_set]; exact r1, fun i hi => ?_⟩
  by_cases q : i = sl
  · subst q; simp [Cell.setSlot, e3]
  · simp only [if_neg q]; rw [← r2 i hi]; exact Array.getElem?_setIfInBounds_ne (Ne.symm q)
theorem OArr.new {cA : ClassId} {z : Int32} (A : Arr Z h a (newA cA ty z) ty) (q : z.toNatClampNeg = n) (hd : defaultValue ty = v) : OArr Z h a ty n (fun _ => v) :=
  ⟨_, A, by rw [sz_new]; exact q, fun i hi => by subst hd; simp [newA, q, hi]⟩
theorem inbO {j : Int32} {k : Nat} (ng : ¬ j < 0) (e : j.toNatClampNeg = k) (h : k < n) : ¬ (j < 0 ∨ n ≤ j.toNatClampNeg) := fun q => q.elim ng fun r => by rw [e] at r; exact absurd h (Nat.not_lt.mpr r)
theorem readO {c : Cell} {j : Int32} {k : Nat} (H : ∀ i, i < n → c.slots[i]? = some (f i)) (e : j.toNatClampNeg = k) (h : k < n) (q : f k = v) : c.slots[j.toNatClampNeg]? = some v := by rw [e, H k h, q]
theorem lti {x y : Int32} : x < y ↔ x.toInt < y.toInt := Int32.lt_iff_toInt_lt
theorem ltl {x y : Int64} : x < y ↔ x.toInt < y.toInt := Int64.lt_iff_toInt_lt
theorem eqi {x y : Int32} : x = y ↔ x.toInt = y.toInt := Int32.toInt_inj.symm
theorem eql {x y : Int64} : x = y ↔ x.toInt = y.toInt := Int64.toInt_inj.symm
end Own

theorem add32 {x y : Int32} (h1 : -2147483648 ≤ x.toInt + y.toInt) (h2 : x.toInt + y.toInt < 2147483648) : (x + y).toInt = x.toInt + y.toInt := by
  rw [Int32.toInt_add]; exact Int.bmod_eq_of_le (by omega) (by omega)
theorem sub32 {x y : Int32} (h1 : -2147483648 ≤ x.toInt - y.toInt) (h2 : x.toInt - y.toInt < 2147483648) : (x - y).toInt = x.toInt - y.toInt := by
  rw [Int32.toInt_sub]; exact Int.bmod_eq_of_le (by omega) (by omega)
theorem add64 {x y : Int64} (h1 : -9223372036854775808 ≤ x.toInt + y.toInt) (h2 : x.toInt + y.toInt < 9223372036854775808) : (x + y).toInt = x.toInt + y.toInt := by
  rw [Int64.toInt_add]; exact Int.bmod_eq_of_le (by omega) (by omega)
theorem sub64 {x y : Int64} (h1 : -9223372036854775808 ≤ x.toInt - y.toInt) (h2 : x.toInt - y.toInt < 9223372036854775808) : (x - y).toInt = x.toInt - y.toInt := by
  rw [Int64.toInt_sub]; exact Int.bmod_eq_of_le (by omega) (by omega)
theorem l2i' {x : Int64} (h1 : -2147483648 ≤ x.toInt) (h2 : x.toInt < 2147483648) : x.toInt32.toInt = x.toInt := by
  rw [Int64.toInt_toInt32]; exact Int.bmod_eq_of_le (by omega) (by omega)
theorem bd32 (x : Int32) : -2147483648 ≤ x.toInt ∧ x.toInt < 2147483648 := ⟨Int32.le_toInt x, Int32.toInt_lt x⟩
theorem takeE {c e p : Int32} : c.toInt64 < e.toInt64 + p.toInt64 ↔ c.toInt < e.toInt + p.toInt := by
  have b1 := bd32 e; have b2 := bd32 p
  rw [ltl, add64 (by rw [c_i2l, c_i2l]; omega) (by rw [c_i2l, c_i2l]; omega), c_i2l, c_i2l, c_i2l]
theorem takeC {c : Int32} {x y : Int64} (h1 : -9223372036854775808 ≤ x.toInt + y.toInt) (h2 : x.toInt + y.toInt < 9223372036854775808) : c.toInt64 < x + y ↔ c.toInt < x.toInt + y.toInt := by
  rw [ltl, add64 h1 h2, c_i2l]
theorem z32 : (0 : Int32).toInt = 0 := by decide
theorem o32 : (1 : Int32).toInt = 1 := by decide
theorem z64 : (0 : Int64).toInt = 0 := by decide
theorem o64 : (1 : Int64).toInt = 1 := by decide

theorem len45 (n : Int32) : ((45 : Int32) + (0 : Int32)) + n = (45 : Int32) + n := by rw [show (45 : Int32) + (0 : Int32) = 45 from by decide]
theorem len77 (n : Int32) : ((45 : Int32) + (32 : Int32)) + n = (77 : Int32) + n := by rw [show (45 : Int32) + (32 : Int32) = 77 from by decide]
theorem d2_0 : decode jdk_30_method_1_code 0 = .ok (.aload_n 0, 1) := by decide +kernel
theorem d2_1 : decode jdk_30_method_1_code 1 = .ok (.invokespecial 1, 3) := by decide +kernel
theorem d2_4 : decode jdk_30_method_1_code 4 = .ok (.return_, 1) := by decide +kernel
theorem pn_2 : plainName "java/lang/Record" = true := by first | (simp [plainName, overriddenIn]; done) | decide +kernel
theorem ef_2 (m : MethodId) (r0 : Addr) : entryFrame m #[(.ref r0)] 1 = mkF m 0 #[.val (.ref r0)] [] := by first | (simp [entryFrame, mkF, argsToLocals, Value.category]; done) | rfl
def Q2 (Z : State) (r0 : Addr)  (h0 : Heap) (n0 : Nat) (v : Option Value) (h : Heap) (L : List Loc) : Prop := v = none ∧ Fr n0 L ∧ h = h0
set_option maxRecDepth 65536 in
set_option maxHeartbeats 40000000 in
theorem rm2 (l : Launch) (Z : State) (a0 : Array Value) (hw : ∀ d ∈ tables_1, d.before a0 Z = true) (ws : List Jvm.Cond) (r0 : Addr)  (h0 : Heap) (n0 : Nat) (Z0 : n0 ≤ h0.size) :
    MetFree l (⟨"java/lang/Record", "<init>", "()V"⟩ : MethodName) (head1 (Jvm.Cond.code (⟨"java/lang/Record", "<init>", "()V"⟩ : MethodName) jdk_30_method_1_code 1 none :: ws) ({ frames := 1, cells := 0, slots := 0, locals := 12 } : Room)) (fun a U => a = #[(.ref r0)] ∧ Z.Warmed39 U.vm ∧ U.heap = h0) (fun _ _ _ _ _ => True) (fun _ U o U' => ∃ v L, o = .returned v ∧ Q2 Z r0 h0 n0 v U'.heap L ∧ FrameEnd U o U' L ({ frames := 1, cells := 0, slots := 0, locals := 12 } : Room).cells ({ frames := 1, cells := 0, slots := 0, locals := 12 } : Room).slots) := by
  refine MetFree.of_bodySF (plainFor_of_name pn_2) hisR ?_
  intro p e s m args below meth c s₁ Bd hml0 hP hK
  obtain ⟨rfl, hZ, hh⟩ := hP
  have hx := Bd.exec
  have hby := Bd.bytes
  have hml : c.maxLocals = 1 := hml0
  have hown : s.vm.findClass "java/lang/Record" = some m.cls := findClass_of_methodNamed Bd.named
  have hnm := (name_of_methodNamed Bd.named Bd.method).1
  have X0 : Stand p l e ({ frames := 1, cells := 0, slots := 0, locals := 12 } : Room) s m #[(.ref r0)] below meth c s₁ [] 0 0 := Stand.of_body Bd
  have e0 : s₁.heap = h0 := by rw [← hh, Bd.state]; rfl
  have N0 := Fr.nil n0
  refine Runs.enter (ef_2 m r0) ?_
  show Runs _ _ _ _ s₁ (mkF m 0 #[.val (.ref r0)] [])
  refine Runs.back (fun t k => XS.aloadN X0.here hx rfl (hb hby d2_0) rfl rfl k) ?_
  show Runs _ _ _ _ s₁ (mkF m 1 #[.val (.ref r0)] [(.ref r0)])
  obtain ⟨T1, X1, e1, st1⟩ := initO X0 hx hZ hown (hw _ (List.mem_of_getElem? (i := 12) rfl)) (hw _ (List.mem_of_getElem? (i := 13) rfl)) (hw _ (List.mem_of_getElem? (i := 14) rfl)) e0 (g := (mkF m 1 #[.val (.ref r0)] [(.ref r0)])) rfl (by rw [hml]; rfl) rfl (hb hby d2_1) (by decide) (W := 0) (by show 2 * 0 + _ ≤ _; exact Nat.le_of_eq rfl) (by decide)
  refine Runs.back st1 ?_
  show Runs _ _ _ _ T1 (mkF m 4 #[.val (.ref r0)] [])
  obtain ⟨fs, hr, hrun, hended, hW, hsame⟩ := X1.leave (v := none) (fun _ => rfl)
  exact ⟨_, _, (X1.returnOut hx Bd.returns (hb hby d2_4) hr), hrun, hended, _, _, rfl, ⟨rfl, N0, e1⟩, ⟨_, rfl⟩, hW, hsame.mono (by decide) (by decide)⟩
theorem d1_0 : decode prog_80_method_1_code 0 = .ok (.aload_n 0, 1) := by decide +kernel
theorem d1_1 : decode prog_80_method_1_code 1 = .ok (.invokespecial 1, 3) := by decide +kernel
theorem d1_4 : decode prog_80_method_1_code 4 = .ok (.aload_n 0, 1) := by decide +kernel
theorem d1_5 : decode prog_80_method_1_code 5 = .ok (.lload_n 1, 1) := by decide +kernel
theorem d1_6 : decode prog_80_method_1_code 6 = .ok (.putfield 7, 3) := by decide +kernel
theorem d1_9 : decode prog_80_method_1_code 9 = .ok (.aload_n 0, 1) := by decide +kernel
theorem d1_10 : decode prog_80_method_1_code 10 = .ok (.lload_n 3, 1) := by decide +kernel
theorem d1_11 : decode prog_80_method_1_code 11 = .ok (.putfield 13, 3) := by decide +kernel
theorem d1_14 : decode prog_80_method_1_code 14 = .ok (.return_, 1) := by decide +kernel
theorem pn_1 : plainName "com/example/ubique/ubique/ProcessId" = true := by first | (simp [plainName, overriddenIn]; done) | decide +kernel
theorem pd1_0 : parseMethodDescriptor "()V" = some ⟨[], none⟩ := by decide +kernel
theorem ef_1 (m : MethodId) (r0 : Addr) (q1 : Int64) (q2 : Int64) : entryFrame m #[(.ref r0), (.long q1), (.long q2)] 5 = mkF m 0 #[.val (.ref r0), .val (.long q1), .second, .val (.long q2), .second] [] := by first | (simp [entryFrame, mkF, argsToLocals, Value.category]; done) | rfl
def Q1 (Z : State) (r0 : Addr) (q1 : Int64) (q2 : Int64) (v1 v2 : Value) (h0 : Heap) (n0 : Nat) (v : Option Value) (h : Heap) (L : List Loc) : Prop := v = none ∧ Fr n0 L ∧ Keep h0 h [r0]
set_option maxRecDepth 65536 in
set_option maxHeartbeats 40000000 in
theorem rm1 (l : Launch) (Z : State) (a0 : Array Value) (hw : ∀ d ∈ tables_1, d.before a0 Z = true) (ws : List Jvm.Cond) (r0 : Addr) (q1 : Int64) (q2 : Int64) (v1 v2 : Value) (h0 : Heap) (n0 : Nat) (Z0 : n0 ≤ h0.size) (E_r0 : Exa Z h0 r0 "com/example/ubique/ubique/ProcessId") (F1 : Fld Z h0 r0 "com/example/ubique/ubique/ProcessId" "node" "J" v1) (F2 : Fld Z h0 r0 "com/example/ubique/ubique/ProcessId" "process" "J" v2) (g_r0 : n0 ≤ r0) :
    MetFree l (⟨"com/example/ubique/ubique/ProcessId", "<init>", "(JJ)V"⟩ : MethodName) (head1 (Jvm.Cond.code (⟨"com/example/ubique/ubique/ProcessId", "<init>", "(JJ)V"⟩ : MethodName) prog_80_method_1_code 5 none :: ws) ({ frames := 2, cells := 0, slots := 0, locals := 24 } : Room)) (fun a U => a = #[(.ref r0), (.long q1), (.long q2)] ∧ Z.Warmed39 U.vm ∧ U.heap = h0) (fun _ _ _ _ _ => True) (fun _ U o U' => ∃ v L, o = .returned v ∧ Q1 Z r0 q1 q2 v1 v2 h0 n0 v U'.heap L ∧ FrameEnd U o U' L ({ frames := 2, cells := 0, slots := 0, locals := 24 } : Room).cells ({ frames := 2, cells := 0, slots := 0, locals := 24 } : Room).slots) := by
  refine MetFree.of_bodySF (plainFor_of_name pn_1) hisR ?_
  intro p e s m args below meth c s₁ Bd hml0 hP hK
  obtain ⟨rfl, hZ, hh⟩ := hP
  have hx := Bd.exec
  have hby := Bd.bytes
  have hml : c.maxLocals = 5 := hml0
  have hown : s.vm.findClass "com/example/ubique/ubique/ProcessId" = some m.cls := findClass_of_methodNamed Bd.named
  have hnm := (name_of_methodNamed Bd.named Bd.method).1
  have X0 : Stand p l e ({ frames := 2, cells := 0, slots := 0, locals := 24 } : Room) s m #[(.ref r0), (.long q1), (.long q2)] below meth c s₁ [] 0 0 := Stand.of_body Bd
  have e0 : s₁.heap = h0 := by rw [← hh, Bd.state]; rfl
  have N0 := Fr.nil n0
  refine Runs.enter (ef_1 m r0 q1 q2) ?_
  show Runs _ _ _ _ s₁ (mkF m 0 #[.val (.ref r0), .val (.long q1), .second, .val (.long q2), .second] [])
  refine Runs.back (fun t k => XS.aloadN X0.here hx rfl (hb hby d1_0) rfl rfl k) ?_
  show Runs _ _ _ _ s₁ (mkF m 1 #[.val (.ref r0), .val (.long q1), .second, .val (.long q2), .second] [(.ref r0)])
  obtain ⟨_, _, ⟨T1, L1, k1, n1⟩, -, X1, ⟨Lc1, hQ1, l1, y1, z1⟩, st1⟩ := X0.specialBack hx (y := (⟨"java/lang/Record", "<init>", "()V"⟩ : MethodName)) rfl hown (mvT hZ (hw _ (List.mem_of_getElem? (i := 7) rfl))) (mvT hZ (hw _ (List.mem_of_getElem? (i := 8) rfl))) (mvT hZ (hw _ (List.mem_of_getElem? (i := 11) rfl))) (by decide) (backOf (W := 0) (rm2 l Z a0 hw [] r0 h0 n0 (Z0)) hZ (hw _ (List.mem_of_getElem? (i := 11) rfl)) (hw _ (List.mem_of_getElem? (i := 10) rfl)) (by decide) (by decide)) (g := (mkF m 1 #[.val (.ref r0), .val (.long q1), .second, .val (.long q2), .second] [(.ref r0)])) rfl (by rw [hml]; rfl) (Steps.refl _) (a := r0) (argsL := []) (rest := []) (lenOf pd1_0 rfl) rfl (by show 2 * 0 + _ ≤ _; exact Nat.le_of_eq rfl) (hb hby d1_1) (fun _ _ => ⟨rfl, e0, (by decide : 0 + 0 ≤ _), (by decide : 0 + 0 ≤ _)⟩)
  dsimp only [Pt.U, Pt.locs, Pt.cells, Pt.slots] at X1 l1 y1 z1 st1 hQ1
  subst l1 y1 z1
  obtain ⟨rfl, N1q, eq1⟩ := hQ1
  have N1 := Fr.app N0 N1q
  refine Runs.trans st1 ?_
  show Runs _ _ _ _ T1 (mkF m 4 #[.val (.ref r0), .val (.long q1), .second, .val (.long q2), .second] [])
  refine Runs.back (fun t k => XS.aloadN X1.here hx rfl (hb hby d1_4) rfl rfl k) ?_
  show Runs _ _ _ _ T1 (mkF m 5 #[.val (.ref r0), .val (.long q1), .second, .val (.long q2), .second] [(.ref r0)])
  refine Runs.back (fun t k => XS.lloadN X1.here hx rfl (hb hby d1_5) rfl k) ?_
  show Runs _ _ _ _ T1 (mkF m 6 #[.val (.ref r0), .val (.long q1), .second, .val (.long q2), .second] [(.long q1), (.ref r0)])
  obtain ⟨T2, h2, X2, e2, W2, st2⟩ := putF X1 hx hZ hown (host := "") (Or.inl (hw _ (List.mem_of_getElem? (i := 15) rfl))) Via.refl eq1 F1 E_r0 (Or.inr ⟨(hw _ (List.mem_of_getElem? (i := 16) rfl)), rfl, hnm⟩) (hw _ (List.mem_of_getElem? (i := 2) rfl)) (ty := .long) (by decide) rfl rfl (g := (mkF m 6 #[.val (.ref r0), .val (.long q1), .second, .val (.long q2), .second] [(.long q1), (.ref r0)])) rfl rfl (hb hby d1_6)
  have f2_Exa_0 : Exa Z h2 r0 "com/example/ubique/ubique/ProcessId" := Exa.wr W2 E_r0
  have f2_Fld_1 : Fld Z h2 r0 "com/example/ubique/ubique/ProcessId" "node" "J" (.long q1) := Fld.same W2 F1
  have f2_Fld_2 : Fld Z h2 r0 "com/example/ubique/ubique/ProcessId" "process" "J" v2 := Fld.other W2 F2 (Or.inr (slot_ne (Or.inr (hw _ (List.mem_of_getElem? (i := 18) rfl))) (Or.inr (hw _ (List.mem_of_getElem? (i := 16) rfl))) (by decide) (t := .long) (t' := .long) (by decide) (by decide)))
  have N2 := Fr.snoc X2 N1 g_r0
  have KK2 : Keep h0 h2 [r0] := Keep.wr (Keep.refl h0 [r0]) W2 (Or.inl (List.mem_of_getElem? (i := 0) rfl))
  refine Runs.back st2 ?_
  show Runs _ _ _ _ T2 (mkF m 9 #[.val (.ref r0), .val (.long q1), .second, .val (.long q2), .second] [])
  refine Runs.back (fun t k => XS.aloadN X2.here hx rfl (hb hby d1_9) rfl rfl k) ?_
  show Runs _ _ _ _ T2 (mkF m 10 #[.val (.ref r0), .val (.long q1), .second, .val (.long q2), .second] [(.ref r0)])
  refine Runs.back (fun t k => XS.lloadN X2.here hx rfl (hb hby d1_10) rfl k) ?_
  show Runs _ _ _ _ T2 (mkF m 11 #[.val (.ref r0), .val (.long q1), .second, .val (.long q2), .second] [(.long q2), (.ref r0)])
  obtain ⟨T3, h3, X3, e3, W3, st3⟩ := putF X2 hx hZ hown (host := "") (Or.inl (hw _ (List.mem_of_getElem? (i := 17) rfl))) Via.refl e2 f2_Fld_2 f2_Exa_0 (Or.inr ⟨(hw _ (List.mem_of_getElem? (i := 18) rfl)), rfl, hnm⟩) (hw _ (List.mem_of_getElem? (i := 2) rfl)) (ty := .long) (by decide) rfl rfl (g := (mkF m 11 #[.val (.ref r0), .val (.long q1), .second, .val (.long q2), .second] [(.long q2), (.ref r0)])) rfl rfl (hb hby d1_11)
  have f3_Exa_0 : Exa Z h3 r0 "com/example/ubique/ubique/ProcessId" := Exa.wr W3 f2_Exa_0
  have f3_Fld_1 : Fld Z h3 r0 "com/example/ubique/ubique/ProcessId" "node" "J" (.long q1) := Fld.other W3 f2_Fld_1 (Or.inr (slot_ne (Or.inr (hw _ (List.mem_of_getElem? (i := 16) rfl))) (Or.inr (hw _ (List.mem_of_getElem? (i := 18) rfl))) (by decide) (t := .long) (t' := .long) (by decide) (by decide)))
  have f3_Fld_2 : Fld Z h3 r0 "com/example/ubique/ubique/ProcessId" "process" "J" (.long q2) := Fld.same W3 f2_Fld_2
  have N3 := Fr.snoc X3 N2 g_r0
  have KK3 : Keep h0 h3 [r0] := Keep.wr KK2 W3 (Or.inl (List.mem_of_getElem? (i := 0) rfl))
  refine Runs.back st3 ?_
  show Runs _ _ _ _ T3 (mkF m 14 #[.val (.ref r0), .val (.long q1), .second, .val (.long q2), .second] [])
  obtain ⟨fs, hr, hrun, hended, hW, hsame⟩ := X3.leave (v := none) (fun _ => rfl)
  exact ⟨_, _, (X3.returnOut hx Bd.returns (hb hby d1_14) hr), hrun, hended, _, _, rfl, (by show Q1 Z r0 q1 q2 v1 v2 h0 n0 _ T3.heap _; rw [e3]; exact ⟨rfl, N3, KK3⟩), ⟨_, rfl⟩, hW, hsame.mono (by decide) (by decide)⟩
theorem d4_0 : decode prog_27_method_1_code 0 = .ok (.aload_n 0, 1) := by decide +kernel
theorem d4_1 : decode prog_27_method_1_code 1 = .ok (.invokespecial 1, 3) := by decide +kernel
theorem d4_4 : decode prog_27_method_1_code 4 = .ok (.aload_n 0, 1) := by decide +kernel
theorem d4_5 : decode prog_27_method_1_code 5 = .ok (.iload_n 1, 1) := by decide +kernel
theorem d4_6 : decode prog_27_method_1_code 6 = .ok (.putfield 7, 3) := by decide +kernel
theorem d4_9 : decode prog_27_method_1_code 9 = .ok (.aload_n 0, 1) := by decide +kernel
theorem d4_10 : decode prog_27_method_1_code 10 = .ok (.iload_n 2, 1) := by decide +kernel
theorem d4_11 : decode prog_27_method_1_code 11 = .ok (.putfield 13, 3) := by decide +kernel
theorem d4_14 : decode prog_27_method_1_code 14 = .ok (.aload_n 0, 1) := by decide +kernel
theorem d4_15 : decode prog_27_method_1_code 15 = .ok (.iload_n 3, 1) := by decide +kernel
theorem d4_16 : decode prog_27_method_1_code 16 = .ok (.putfield 16, 3) := by decide +kernel
theorem d4_19 : decode prog_27_method_1_code 19 = .ok (.aload_n 0, 1) := by decide +kernel
theorem d4_20 : decode prog_27_method_1_code 20 = .ok (.aload 4, 2) := by decide +kernel
theorem d4_22 : decode prog_27_method_1_code 22 = .ok (.putfield 19, 3) := by decide +kernel
theorem d4_25 : decode prog_27_method_1_code 25 = .ok (.aload_n 0, 1) := by decide +kernel
theorem d4_26 : decode prog_27_method_1_code 26 = .ok (.aload 5, 2) := by decide +kernel
theorem d4_28 : decode prog_27_method_1_code 28 = .ok (.putfield 23, 3) := by decide +kernel
theorem d4_31 : decode prog_27_method_1_code 31 = .ok (.aload_n 0, 1) := by decide +kernel
theorem d4_32 : decode prog_27_method_1_code 32 = .ok (.aload 6, 2) := by decide +kernel
theorem d4_34 : decode prog_27_method_1_code 34 = .ok (.putfield 26, 3) := by decide +kernel
theorem d4_37 : decode prog_27_method_1_code 37 = .ok (.aload_n 0, 1) := by decide +kernel
theorem d4_38 : decode prog_27_method_1_code 38 = .ok (.aload 7, 2) := by decide +kernel
theorem d4_40 : decode prog_27_method_1_code 40 = .ok (.putfield 30, 3) := by decide +kernel
theorem d4_43 : decode prog_27_method_1_code 43 = .ok (.return_, 1) := by decide +kernel
theorem pn_4n : plainName "com/example/ubique/ubique/Frame" = true := by first | (simp [plainName, overriddenIn]; done) | decide +kernel
theorem ef_4n (m : MethodId) (r0 : Addr) (p1 : Int32) (p2 : Int32) (p3 : Int32) (r4 : Addr) (r5 : Addr) (r7 : Addr) : entryFrame m #[(.ref r0), (.int p1), (.int p2), (.int p3), (.ref r4), (.ref r5), .null, (.ref r7)] 8 = mkF m 0 #[.val (.ref r0), .val (.int p1), .val (.int p2), .val (.int p3), .val (.ref r4), .val (.ref r5), .val .null, .val (.ref r7)] [] := by first | (simp [entryFrame, mkF, argsToLocals, Value.category]; done) | rfl
def Q4n (Z : State) (r0 : Addr) (p1 : Int32) (p2 : Int32) (p3 : Int32) (r4 : Addr) (r5 : Addr) (r7 : Addr) (v0 v1 v2 v3 v4 v5 v6 : Value) (h0 : Heap) (n0 : Nat) (v : Option Value) (h : Heap) (L : List Loc) : Prop := v = none ∧ Fr n0 L ∧ Keep h0 h [r0] ∧ Exa Z h r0 "com/example/ubique/ubique/Frame" ∧ Fld Z h r0 "com/example/ubique/ubique/Frame" "token" "[B" .null ∧ Fld Z h r0 "com/example/ubique/ubique/Frame" "payload" "[B" (.ref r7)
set_option maxRecDepth 65536 in
set_option maxHeartbeats 40000000 in
theorem rm4n (l : Launch) (Z : State) (a0 : Array Value) (hw : ∀ d ∈ tables_1, d.before a0 Z = true) (ws : List Jvm.Cond) (r0 : Addr) (p1 : Int32) (p2 : Int32) (p3 : Int32) (r4 : Addr) (r5 : Addr) (r7 : Addr) (v0 v1 v2 v3 v4 v5 v6 : Value) (h0 : Heap) (n0 : Nat) (Z0 : n0 ≤ h0.size) (E_r0 : Exa Z h0 r0 "com/example/ubique/ubique/Frame") (F0 : Fld Z h0 r0 "com/example/ubique/ubique/Frame" "flags" "I" v0) (F1 : Fld Z h0 r0 "com/example/ubique/ubique/Frame" "type" "I" v1) (F2 : Fld Z h0 r0 "com/example/ubique/ubique/Frame" "version" "I" v2) (F3 : Fld Z h0 r0 "com/example/ubique/ubique/Frame" "source" "Lcom/example/ubique/ubique/ProcessId;" v3) (F4 : Fld Z h0 r0 "com/example/ubique/ubique/Frame" "destination" "Lcom/example/ubique/ubique/ProcessId;" v4) (F5 : Fld Z h0 r0 "com/example/ubique/ubique/Frame" "token" "[B" v5) (F6 : Fld Z h0 r0 "com/example/ubique/ubique/Frame" "payload" "[B" v6) (g_r0 : n0 ≤ r0) :
    MetFree l (⟨"com/example/ubique/ubique/Frame", "<init>", "(IIILcom/example/ubique/ubique/ProcessId;Lcom/example/ubique/ubique/ProcessId;[B[B)V"⟩ : MethodName) (head1 (Jvm.Cond.code (⟨"com/example/ubique/ubique/Frame", "<init>", "(IIILcom/example/ubique/ubique/ProcessId;Lcom/example/ubique/ubique/ProcessId;[B[B)V"⟩ : MethodName) prog_27_method_1_code 8 none :: ws) ({ frames := 1, cells := 0, slots := 0, locals := 12 } : Room)) (fun a U => a = #[(.ref r0), (.int p1), (.int p2), (.int p3), (.ref r4), (.ref r5), .null, (.ref r7)] ∧ Z.Warmed39 U.vm ∧ U.heap = h0) (fun _ _ _ _ _ => True) (fun _ U o U' => ∃ v L, o = .returned v ∧ Q4n Z r0 p1 p2 p3 r4 r5 r7 v0 v1 v2 v3 v4 v5 v6 h0 n0 v U'.heap L ∧ FrameEnd U o U' L ({ frames := 1, cells := 0, slots := 0, locals := 12 } : Room).cells ({ frames := 1, cells := 0, slots := 0, locals := 12 } : Room).slots) := by
  refine MetFree.of_bodySF (plainFor_of_name pn_4n) hisR ?_
  intro p e s m args below meth c s₁ Bd hml0 hP hK
  obtain ⟨rfl, hZ, hh⟩ := hP
  have hx := Bd.exec
  have hby := Bd.bytes
  have hml : c.maxLocals = 8 := hml0
  have hown : s.vm.findClass "com/example/ubique/ubique/Frame" = some m.cls := findClass_of_methodNamed Bd.named
  have hnm := (name_of_methodNamed Bd.named Bd.method).1
  have X0 : Stand p l e ({ frames := 1, cells := 0, slots := 0, locals := 12 } : Room) s m #[(.ref r0), (.int p1), (.int p2), (.int p3), (.ref r4), (.ref r5), .null, (.ref r7)] below meth c s₁ [] 0 0 := Stand.of_body Bd
  have e0 : s₁.heap = h0 := by rw [← hh, Bd.state]; rfl
  have N0 := Fr.nil n0
  refine Runs.enter (ef_4n m r0 p1 p2 p3 r4 r5 r7) ?_
  show Runs _ _ _ _ s₁ (mkF m 0 #[.val (.ref r0), .val (.int p1), .val (.int p2), .val (.int p3), .val (.ref r4), .val (.ref r5), .val .null, .val (.ref r7)] [])
  refine Runs.back (fun t k => XS.aloadN X0.here hx rfl (hb hby d4_0) rfl rfl k) ?_
  show Runs _ _ _ _ s₁ (mkF m 1 #[.val (.ref r0), .val (.int p1), .val (.int p2), .val (.int p3), .val (.ref r4), .val (.ref r5), .val .null, .val (.ref r7)] [(.ref r0)])
  obtain ⟨T1, X1, e1, st1⟩ := initO X0 hx hZ hown (hw _ (List.mem_of_getElem? (i := 25) rfl)) (hw _ (List.mem_of_getElem? (i := 13) rfl)) (hw _ (List.mem_of_getElem? (i := 14) rfl)) e0 (g := (mkF m 1 #[.val (.ref r0), .val (.int p1), .val (.int p2), .val (.int p3), .val (.ref r4), .val (.ref r5), .val .null, .val (.ref r7)] [(.ref r0)])) rfl (by rw [hml]; rfl) rfl (hb hby d4_1) (by decide) (W := 0) (by show 2 * 0 + _ ≤ _; exact Nat.le_of_eq rfl) (by decide)
  refine Runs.back st1 ?_
  show Runs _ _ _ _ T1 (mkF m 4 #[.val (.ref r0), .val (.int p1), .val (.int p2), .val (.int p3), .val (.ref r4), .val (.ref r5), .val .null, .val (.ref r7)] [])
  refine Runs.back (fun t k => XS.aloadN X1.here hx rfl (hb hby d4_4) rfl rfl k) ?_
  show Runs _ _ _ _ T1 (mkF m 5 #[.val (.ref r0), .val (.int p1), .val (.int p2), .val (.int p3), .val (.ref r4), .val (.ref r5), .val .null, .val (.ref r7)] [(.ref r0)])
  refine Runs.back (fun t k => XS.iloadN X1.here hx rfl (hb hby d4_5) rfl k) ?_
  show Runs _ _ _ _ T1 (mkF m 6 #[.val (.ref r0), .val (.int p1), .val (.int p2), .val (.int p3), .val (.ref r4), .val (.ref r5), .val .null, .val (.ref r7)] [(.int p1), (.ref r0)])
  obtain ⟨T2, h2, X2, e2, W2, st2⟩ := putF X1 hx hZ hown (host := "") (Or.inl (hw _ (List.mem_of_getElem? (i := 26) rfl))) Via.refl e1 F0 E_r0 (Or.inr ⟨(hw _ (List.mem_of_getElem? (i := 27) rfl)), rfl, hnm⟩) (hw _ (List.mem_of_getElem? (i := 20) rfl)) (ty := .int) (by decide) rfl rfl (g := (mkF m 6 #[.val (.ref r0), .val (.int p1), .val (.int p2), .val (.int p3), .val (.ref r4), .val (.ref r5), .val .null, .val (.ref r7)] [(.int p1), (.ref r0)])) rfl rfl (hb hby d4_6)
  have f2_Exa_0 : Exa Z h2 r0 "com/example/ubique/ubique/Frame" := Exa.wr W2 E_r0
  have f2_Fld_1 : Fld Z h2 r0 "com/example/ubique/ubique/Frame" "flags" "I" (.int p1) := Fld.same W2 F0
  have f2_Fld_2 : Fld Z h2 r0 "com/example/ubique/ubique/Frame" "type" "I" v1 := Fld.other W2 F1 (Or.inr (slot_ne (Or.inr (hw _ (List.mem_of_getElem? (i := 29) rfl))) (Or.inr (hw _ (List.mem_of_getElem? (i := 27) rfl))) (by decide) (t := .int) (t' := .int) (by decide) (by decide)))
  have f2_Fld_3 : Fld Z h2 r0 "com/example/ubique/ubique/Frame" "version" "I" v2 := Fld.other W2 F2 (Or.inr (slot_ne (Or.inr (hw _ (List.mem_of_getElem? (i := 31) rfl))) (Or.inr (hw _ (List.mem_of_getElem? (i := 27) rfl))) (by decide) (t := .int) (t' := .int) (by decide) (by decide)))
  have f2_Fld_4 : Fld Z h2 r0 "com/example/ubique/ubique/Frame" "source" "Lcom/example/ubique/ubique/ProcessId;" v3 := Fld.other W2 F3 (Or.inr (slot_ne (Or.inr (hw _ (List.mem_of_getElem? (i := 33) rfl))) (Or.inr (hw _ (List.mem_of_getElem? (i := 27) rfl))) (by decide) (t := (.object "com/example/ubique/ubique/ProcessId")) (t' := .int) (by decide) (by decide)))
  have f2_Fld_5 : Fld Z h2 r0 "com/example/ubique/ubique/Frame" "destination" "Lcom/example/ubique/ubique/ProcessId;" v4 := Fld.other W2 F4 (Or.inr (slot_ne (Or.inr (hw _ (List.mem_of_getElem? (i := 35) rfl))) (Or.inr (hw _ (List.mem_of_getElem? (i := 27) rfl))) (by decide) (t := (.object "com/example/ubique/ubique/ProcessId")) (t' := .int) (by decide) (by decide)))
  have f2_Fld_6 : Fld Z h2 r0 "com/example/ubique/ubique/Frame" "token" "[B" v5 := Fld.other W2 F5 (Or.inr (slot_ne (Or.inr (hw _ (List.mem_of_getElem? (i := 37) rfl))) (Or.inr (hw _ (List.mem_of_getElem? (i := 27) rfl))) (by decide) (t := (.array .byte)) (t' := .int) (by decide) (by decide)))
  have f2_Fld_7 : Fld Z h2 r0 "com/example/ubique/ubique/Frame" "payload" "[B" v6 := Fld.other W2 F6 (Or.inr (slot_ne (Or.inr (hw _ (List.mem_of_getElem? (i := 39) rfl))) (Or.inr (hw _ (List.mem_of_getElem? (i := 27) rfl))) (by decide) (t := (.array .byte)) (t' := .int) (by decide) (by decide)))
  have N2 := Fr.snoc X2 N0 g_r0
  have KK2 : Keep h0 h2 [r0] := Keep.wr (Keep.refl h0 [r0]) W2 (Or.inl (List.mem_of_getElem? (i := 0) rfl))
  refine Runs.back st2 ?_
  show Runs _ _ _ _ T2 (mkF m 9 #[.val (.ref r0), .val (.int p1), .val (.int p2), .val (.int p3), .val (.ref r4), .val (.ref r5), .val .null, .val (.ref r7)] [])
  refine Runs.back (fun t k => XS.aloadN X2.here hx rfl (hb hby d4_9) rfl rfl k) ?_
  show Runs _ _ _ _ T2 (mkF m 10 #[.val (.ref r0), .val (.int p1), .val (.int p2), .val (.int p3), .val (.ref r4), .val (.ref r5), .val .null, .val (.ref r7)] [(.ref r0)])
  refine Runs.back (fun t k => XS.iloadN X2.here hx rfl (hb hby d4_10) rfl k) ?_
  show Runs _ _ _ _ T2 (mkF m 11 #[.val (.ref r0), .val (.int p1), .val (.int p2), .val (.int p3), .val (.ref r4), .val (.ref r5), .val .null, .val (.ref r7)] [(.int p2), (.ref r0)])
  obtain ⟨T3, h3, X3, e3, W3, st3⟩ := putF X2 hx hZ hown (host := "") (Or.inl (hw _ (List.mem_of_getElem? (i := 28) rfl))) Via.refl e2 f2_Fld_2 f2_Exa_0 (Or.inr ⟨(hw _ (List.mem_of_getElem? (i := 29) rfl)), rfl, hnm⟩) (hw _ (List.mem_of_getElem? (i := 20) rfl)) (ty := .int) (by decide) rfl rfl (g := (mkF m 11 #[.val (.ref r0), .val (.int p1), .val (.int p2), .val (.int p3), .val (.ref r4), .val (.ref r5), .val .null, .val (.ref r7)] [(.int p2), (.ref r0)])) rfl rfl (hb hby d4_11)
  have f3_Exa_0 : Exa Z h3 r0 "com/example/ubique/ubique/Frame" := Exa.wr W3 f2_Exa_0
  have f3_Fld_1 : Fld Z h3 r0 "com/example/ubique/ubique/Frame" "flags" "I" (.int p1) := Fld.other W3 f2_Fld_1 (Or.inr (slot_ne (Or.inr (hw _ (List.mem_of_getElem? (i := 27) rfl))) (Or.inr (hw _ (List.mem_of_getElem? (i := 29) rfl))) (by decide) (t := .int) (t' := .int) (by decide) (by decide)))
  have f3_Fld_2 : Fld Z h3 r0 "com/example/ubique/ubique/Frame" "type" "I" (.int p2) := Fld.same W3 f2_Fld_2
  have f3_Fld_3 : Fld Z h3 r0 "com/example/ubique/ubique/Frame" "version" "I" v2 := Fld.other W3 f2_Fld_3 (Or.inr (slot_ne (Or.inr (hw _ (List.mem_of_getElem? (i := 31) rfl))) (Or.inr (hw _ (List.mem_of_getElem? (i := 29) rfl))) (by decide) (t := .int) (t' := .int) (by decide) (by decide)))
  have f3_Fld_4 : Fld Z h3 r0 "com/example/ubique/ubique/Frame" "source" "Lcom/example/ubique/ubique/ProcessId;" v3 := Fld.other W3 f2_Fld_4 (Or.inr (slot_ne (Or.inr (hw _ (List.mem_of_getElem? (i := 33) rfl))) (Or.inr (hw _ (List.mem_of_getElem? (i := 29) rfl))) (by decide) (t := (.object "com/example/ubique/ubique/ProcessId")) (t' := .int) (by decide) (by decide)))
  have f3_Fld_5 : Fld Z h3 r0 "com/example/ubique/ubique/Frame" "destination" "Lcom/example/ubique/ubique/ProcessId;" v4 := Fld.other W3 f2_Fld_5 (Or.inr (slot_ne (Or.inr (hw _ (List.mem_of_getElem? (i := 35) rfl))) (Or.inr (hw _ (List.mem_of_getElem? (i := 29) rfl))) (by decide) (t := (.object "com/example/ubique/ubique/ProcessId")) (t' := .int) (by decide) (by decide)))
  have f3_Fld_6 : Fld Z h3 r0 "com/example/ubique/ubique/Frame" "token" "[B" v5 := Fld.other W3 f2_Fld_6 (Or.inr (slot_ne (Or.inr (hw _ (List.mem_of_getElem? (i := 37) rfl))) (Or.inr (hw _ (List.mem_of_getElem? (i := 29) rfl))) (by decide) (t := (.array .byte)) (t' := .int) (by decide) (by decide)))
  have f3_Fld_7 : Fld Z h3 r0 "com/example/ubique/ubique/Frame" "payload" "[B" v6 := Fld.other W3 f2_Fld_7 (Or.inr (slot_ne (Or.inr (hw _ (List.mem_of_getElem? (i := 39) rfl))) (Or.inr (hw _ (List.mem_of_getElem? (i := 29) rfl))) (by decide) (t := (.array .byte)) (t' := .int) (by decide) (by decide)))
  have N3 := Fr.snoc X3 N2 g_r0
  have KK3 : Keep h0 h3 [r0] := Keep.wr KK2 W3 (Or.inl (List.mem_of_getElem? (i := 0) rfl))
  refine Runs.back st3 ?_
  show Runs _ _ _ _ T3 (mkF m 14 #[.val (.ref r0), .val (.int p1), .val (.int p2), .val (.int p3), .val (.ref r4), .val (.ref r5), .val .null, .val (.ref r7)] [])
  refine Runs.back (fun t k => XS.aloadN X3.here hx rfl (hb hby d4_14) rfl rfl k) ?_
  show Runs _ _ _ _ T3 (mkF m 15 #[.val (.ref r0), .val (.int p1), .val (.int p2), .val (.int p3), .val (.ref r4), .val (.ref r5), .val .null, .val (.ref r7)] [(.ref r0)])
  refine Runs.back (fun t k => XS.iloadN X3.here hx rfl (hb hby d4_15) rfl k) ?_
  show Runs _ _ _ _ T3 (mkF m 16 #[.val (.ref r0), .val (.int p1), .val (.int p2), .val (.int p3), .val (.ref r4), .val (.ref r5), .val .null, .val (.ref r7)] [(.int p3), (.ref r0)])
  obtain ⟨T4, h4, X4, e4, W4, st4⟩ := putF X3 hx hZ hown (host := "") (Or.inl (hw _ (List.mem_of_getElem? (i := 30) rfl))) Via.refl e3 f3_Fld_3 f3_Exa_0 (Or.inr ⟨(hw _ (List.mem_of_getElem? (i := 31) rfl)), rfl, hnm⟩) (hw _ (List.mem_of_getElem? (i := 20) rfl)) (ty := .int) (by decide) rfl rfl (g := (mkF m 16 #[.val (.ref r0), .val (.int p1), .val (.int p2), .val (.int p3), .val (.ref r4), .val (.ref r5), .val .null, .val (.ref r7)] [(.int p3), (.ref r0)])) rfl rfl (hb hby d4_16)
  have f4_Exa_0 : Exa Z h4 r0 "com/example/ubique/ubique/Frame" := Exa.wr W4 f3_Exa_0
  have f4_Fld_1 : Fld Z h4 r0 "com/example/ubique/ubique/Frame" "flags" "I" (.int p1) := Fld.other W4 f3_Fld_1 (Or.inr (slot_ne (Or.inr (hw _ (List.mem_of_getElem? (i := 27) rfl))) (Or.inr (hw _ (List.mem_of_getElem? (i := 31) rfl))) (by decide) (t := .int) (t' := .int) (by decide) (by decide)))
  have f4_Fld_2 : Fld Z h4 r0 "com/example/ubique/ubique/Frame" "type" "I" (.int p2) := Fld.other W4 f3_Fld_2 (Or.inr (slot_ne (Or.inr (hw _ (List.mem_of_getElem? (i := 29) rfl))) (Or.inr (hw _ (List.mem_of_getElem? (i := 31) rfl))) (by decide) (t := .int) (t' := .int) (by decide) (by decide)))
  have f4_Fld_3 : Fld Z h4 r0 "com/example/ubique/ubique/Frame" "version" "I" (.int p3) := Fld.same W4 f3_Fld_3
  have f4_Fld_4 : Fld Z h4 r0 "com/example/ubique/ubique/Frame" "source" "Lcom/example/ubique/ubique/ProcessId;" v3 := Fld.other W4 f3_Fld_4 (Or.inr (slot_ne (Or.inr (hw _ (List.mem_of_getElem? (i := 33) rfl))) (Or.inr (hw _ (List.mem_of_getElem? (i := 31) rfl))) (by decide) (t := (.object "com/example/ubique/ubique/ProcessId")) (t' := .int) (by decide) (by decide)))
  have f4_Fld_5 : Fld Z h4 r0 "com/example/ubique/ubique/Frame" "destination" "Lcom/example/ubique/ubique/ProcessId;" v4 := Fld.other W4 f3_Fld_5 (Or.inr (slot_ne (Or.inr (hw _ (List.mem_of_getElem? (i := 35) rfl))) (Or.inr (hw _ (List.mem_of_getElem? (i := 31) rfl))) (by decide) (t := (.object "com/example/ubique/ubique/ProcessId")) (t' := .int) (by decide) (by decide)))
  have f4_Fld_6 : Fld Z h4 r0 "com/example/ubique/ubique/Frame" "token" "[B" v5 := Fld.other W4 f3_Fld_6 (Or.inr (slot_ne (Or.inr (hw _ (List.mem_of_getElem? (i := 37) rfl))) (Or.inr (hw _ (List.mem_of_getElem? (i := 31) rfl))) (by decide) (t := (.array .byte)) (t' := .int) (by decide) (by decide)))
  have f4_Fld_7 : Fld Z h4 r0 "com/example/ubique/ubique/Frame" "payload" "[B" v6 := Fld.other W4 f3_Fld_7 (Or.inr (slot_ne (Or.inr (hw _ (List.mem_of_getElem? (i := 39) rfl))) (Or.inr (hw _ (List.mem_of_getElem? (i := 31) rfl))) (by decide) (t := (.array .byte)) (t' := .int) (by decide) (by decide)))
  have N4 := Fr.snoc X4 N3 g_r0
  have KK4 : Keep h0 h4 [r0] := Keep.wr KK3 W4 (Or.inl (List.mem_of_getElem? (i := 0) rfl))
  refine Runs.back st4 ?_
  show Runs _ _ _ _ T4 (mkF m 19 #[.val (.ref r0), .val (.int p1), .val (.int p2), .val (.int p3), .val (.ref r4), .val (.ref r5), .val .null, .val (.ref r7)] [])
  refine Runs.back (fun t k => XS.aloadN X4.here hx rfl (hb hby d4_19) rfl rfl k) ?_
  show Runs _ _ _ _ T4 (mkF m 20 #[.val (.ref r0), .val (.int p1), .val (.int p2), .val (.int p3), .val (.ref r4), .val (.ref r5), .val .null, .val (.ref r7)] [(.ref r0)])
  refine Runs.back (fun t k => XS.aload X4.here hx rfl (hb hby d4_20) rfl rfl k) ?_
  show Runs _ _ _ _ T4 (mkF m 22 #[.val (.ref r0), .val (.int p1), .val (.int p2), .val (.int p3), .val (.ref r4), .val (.ref r5), .val .null, .val (.ref r7)] [(.ref r4), (.ref r0)])
  obtain ⟨T5, h5, X5, e5, W5, st5⟩ := putF X4 hx hZ hown (host := "") (Or.inl (hw _ (List.mem_of_getElem? (i := 32) rfl))) Via.refl e4 f4_Fld_4 f4_Exa_0 (Or.inr ⟨(hw _ (List.mem_of_getElem? (i := 33) rfl)), rfl, hnm⟩) (hw _ (List.mem_of_getElem? (i := 20) rfl)) (ty := (.object "com/example/ubique/ubique/ProcessId")) (by decide) rfl rfl (g := (mkF m 22 #[.val (.ref r0), .val (.int p1), .val (.int p2), .val (.int p3), .val (.ref r4), .val (.ref r5), .val .null, .val (.ref r7)] [(.ref r4), (.ref r0)])) rfl rfl (hb hby d4_22)
  have f5_Exa_0 : Exa Z h5 r0 "com/example/ubique/ubique/Frame" := Exa.wr W5 f4_Exa_0
  have f5_Fld_1 : Fld Z h5 r0 "com/example/ubique/ubique/Frame" "flags" "I" (.int p1) := Fld.other W5 f4_Fld_1 (Or.inr (slot_ne (Or.inr (hw _ (List.mem_of_getElem? (i := 27) rfl))) (Or.inr (hw _ (List.mem_of_getElem? (i := 33) rfl))) (by decide) (t := .int) (t' := (.object "com/example/ubique/ubique/ProcessId")) (by decide) (by decide)))
  have f5_Fld_2 : Fld Z h5 r0 "com/example/ubique/ubique/Frame" "type" "I" (.int p2) := Fld.other W5 f4_Fld_2 (Or.inr (slot_ne (Or.inr (hw _ (List.mem_of_getElem? (i := 29) rfl))) (Or.inr (hw _ (List.mem_of_getElem? (i := 33) rfl))) (by decide) (t := .int) (t' := (.object "com/example/ubique/ubique/ProcessId")) (by decide) (by decide)))
  have f5_Fld_3 : Fld Z h5 r0 "com/example/ubique/ubique/Frame" "version" "I" (.int p3) := Fld.other W5 f4_Fld_3 (Or.inr (slot_ne (Or.inr (hw _ (List.mem_of_getElem? (i := 31) rfl))) (Or.inr (hw _ (List.mem_of_getElem? (i := 33) rfl))) (by decide) (t := .int) (t' := (.object "com/example/ubique/ubique/ProcessId")) (by decide) (by decide)))
  have f5_Fld_4 : Fld Z h5 r0 "com/example/ubique/ubique/Frame" "source" "Lcom/example/ubique/ubique/ProcessId;" (.ref r4) := Fld.same W5 f4_Fld_4
  have f5_Fld_5 : Fld Z h5 r0 "com/example/ubique/ubique/Frame" "destination" "Lcom/example/ubique/ubique/ProcessId;" v4 := Fld.other W5 f4_Fld_5 (Or.inr (slot_ne (Or.inr (hw _ (List.mem_of_getElem? (i := 35) rfl))) (Or.inr (hw _ (List.mem_of_getElem? (i := 33) rfl))) (by decide) (t := (.object "com/example/ubique/ubique/ProcessId")) (t' := (.object "com/example/ubique/ubique/ProcessId")) (by decide) (by decide)))
  have f5_Fld_6 : Fld Z h5 r0 "com/example/ubique/ubique/Frame" "token" "[B" v5 := Fld.other W5 f4_Fld_6 (Or.inr (slot_ne (Or.inr (hw _ (List.mem_of_getElem? (i := 37) rfl))) (Or.inr (hw _ (List.mem_of_getElem? (i := 33) rfl))) (by decide) (t := (.array .byte)) (t' := (.object "com/example/ubique/ubique/ProcessId")) (by decide) (by decide)))
  have f5_Fld_7 : Fld Z h5 r0 "com/example/ubique/ubique/Frame" "payload" "[B" v6 := Fld.other W5 f4_Fld_7 (Or.inr (slot_ne (Or.inr (hw _ (List.mem_of_getElem? (i := 39) rfl))) (Or.inr (hw _ (List.mem_of_getElem? (i := 33) rfl))) (by decide) (t := (.array .byte)) (t' := (.object "com/example/ubique/ubique/ProcessId")) (by decide) (by decide)))
  have N5 := Fr.snoc X5 N4 g_r0
  have KK5 : Keep h0 h5 [r0] := Keep.wr KK4 W5 (Or.inl (List.mem_of_getElem? (i := 0) rfl))
  refine Runs.back st5 ?_
  show Runs _ _ _ _ T5 (mkF m 25 #[.val (.ref r0), .val (.int p1), .val (.int p2), .val (.int p3), .val (.ref r4), .val (.ref r5), .val .null, .val (.ref r7)] [])
  refine Runs.back (fun t k => XS.aloadN X5.here hx rfl (hb hby d4_25) rfl rfl k) ?_
  show Runs _ _ _ _ T5 (mkF m 26 #[.val (.ref r0), .val (.int p1), .val (.int p2), .val (.int p3), .val (.ref r4), .val (.ref r5), .val .null, .val (.ref r7)] [(.ref r0)])
  refine Runs.back (fun t k => XS.aload X5.here hx rfl (hb hby d4_26) rfl rfl k) ?_
  show Runs _ _ _ _ T5 (mkF m 28 #[.val (.ref r0), .val (.int p1), .val (.int p2), .val (.int p3), .val (.ref r4), .val (.ref r5), .val .null, .val (.ref r7)] [(.ref r5), (.ref r0)])
  obtain ⟨T6, h6, X6, e6, W6, st6⟩ := putF X5 hx hZ hown (host := "") (Or.inl (hw _ (List.mem_of_getElem? (i := 34) rfl))) Via.refl e5 f5_Fld_5 f5_Exa_0 (Or.inr ⟨(hw _ (List.mem_of_getElem? (i := 35) rfl)), rfl, hnm⟩) (hw _ (List.mem_of_getElem? (i := 20) rfl)) (ty := (.object "com/example/ubique/ubique/ProcessId")) (by decide) rfl rfl (g := (mkF m 28 #[.val (.ref r0), .val (.int p1), .val (.int p2), .val (.int p3), .val (.ref r4), .val (.ref r5), .val .null, .val (.ref r7)] [(.ref r5), (.ref r0)])) rfl rfl (hb hby d4_28)
  have f6_Exa_0 : Exa Z h6 r0 "com/example/ubique/ubique/Frame" := Exa.wr W6 f5_Exa_0
  have f6_Fld_1 : Fld Z h6 r0 "com/example/ubique/ubique/Frame" "flags" "I" (.int p1) := Fld.other W6 f5_Fld_1 (Or.inr (slot_ne (Or.inr (hw _ (List.mem_of_getElem? (i := 27) rfl))) (Or.inr (hw _ (List.mem_of_getElem? (i := 35) rfl))) (by decide) (t := .int) (t' := (.object "com/example/ubique/ubique/ProcessId")) (by decide) (by decide)))
  have f6_Fld_2 : Fld Z h6 r0 "com/example/ubique/ubique/Frame" "type" "I" (.int p2) := Fld.other W6 f5_Fld_2 (Or.inr (slot_ne (Or.inr (hw _ (List.mem_of_getElem? (i := 29) rfl))) (Or.inr (hw _ (List.mem_of_getElem? (i := 35) rfl))) (by decide) (t := .int) (t' := (.object "com/example/ubique/ubique/ProcessId")) (by decide) (by decide)))
  have f6_Fld_3 : Fld Z h6 r0 "com/example/ubique/ubique/Frame" "version" "I" (.int p3) := Fld.other W6 f5_Fld_3 (Or.inr (slot_ne (Or.inr (hw _ (List.mem_of_getElem? (i := 31) rfl))) (Or.inr (hw _ (List.mem_of_getElem? (i := 35) rfl))) (by decide) (t := .int) (t' := (.object "com/example/ubique/ubique/ProcessId")) (by decide) (by decide)))
  have f6_Fld_4 : Fld Z h6 r0 "com/example/ubique/ubique/Frame" "source" "Lcom/example/ubique/ubique/ProcessId;" (.ref r4) := Fld.other W6 f5_Fld_4 (Or.inr (slot_ne (Or.inr (hw _ (List.mem_of_getElem? (i := 33) rfl))) (Or.inr (hw _ (List.mem_of_getElem? (i := 35) rfl))) (by decide) (t := (.object "com/example/ubique/ubique/ProcessId")) (t' := (.object "com/example/ubique/ubique/ProcessId")) (by decide) (by decide)))
  have f6_Fld_5 : Fld Z h6 r0 "com/example/ubique/ubique/Frame" "destination" "Lcom/example/ubique/ubique/ProcessId;" (.ref r5) := Fld.same W6 f5_Fld_5
  have f6_Fld_6 : Fld Z h6 r0 "com/example/ubique/ubique/Frame" "token" "[B" v5 := Fld.other W6 f5_Fld_6 (Or.inr (slot_ne (Or.inr (hw _ (List.mem_of_getElem? (i := 37) rfl))) (Or.inr (hw _ (List.mem_of_getElem? (i := 35) rfl))) (by decide) (t := (.array .byte)) (t' := (.object "com/example/ubique/ubique/ProcessId")) (by decide) (by decide)))
  have f6_Fld_7 : Fld Z h6 r0 "com/example/ubique/ubique/Frame" "payload" "[B" v6 := Fld.other W6 f5_Fld_7 (Or.inr (slot_ne (Or.inr (hw _ (List.mem_of_getElem? (i := 39) rfl))) (Or.inr (hw _ (List.mem_of_getElem? (i := 35) rfl))) (by decide) (t := (.array .byte)) (t' := (.object "com/example/ubique/ubique/ProcessId")) (by decide) (by decide)))
  have N6 := Fr.snoc X6 N5 g_r0
  have KK6 : Keep h0 h6 [r0] := Keep.wr KK5 W6 (Or.inl (List.mem_of_getElem? (i := 0) rfl))
  refine Runs.back st6 ?_
  show Runs _ _ _ _ T6 (mkF m 31 #[.val (.ref r0), .val (.int p1), .val (.int p2), .val (.int p3), .val (.ref r4), .val (.ref r5), .val .null, .val (.ref r7)] [])
  refine Runs.back (fun t k => XS.aloadN X6.here hx rfl (hb hby d4_31) rfl rfl k) ?_
  show Runs _ _ _ _ T6 (mkF m 32 #[.val (.ref r0), .val (.int p1), .val (.int p2), .val (.int p3), .val (.ref r4), .val (.ref r5), .val .null, .val (.ref r7)] [(.ref r0)])
  refine Runs.back (fun t k => XS.aload X6.here hx rfl (hb hby d4_32) rfl rfl k) ?_
  show Runs _ _ _ _ T6 (mkF m 34 #[.val (.ref r0), .val (.int p1), .val (.int p2), .val (.int p3), .val (.ref r4), .val (.ref r5), .val .null, .val (.ref r7)] [.null, (.ref r0)])
  obtain ⟨T7, h7, X7, e7, W7, st7⟩ := putF X6 hx hZ hown (host := "") (Or.inl (hw _ (List.mem_of_getElem? (i := 36) rfl))) Via.refl e6 f6_Fld_6 f6_Exa_0 (Or.inr ⟨(hw _ (List.mem_of_getElem? (i := 37) rfl)), rfl, hnm⟩) (hw _ (List.mem_of_getElem? (i := 20) rfl)) (ty := (.array .byte)) (by decide) rfl rfl (g := (mkF m 34 #[.val (.ref r0), .val (.int p1), .val (.int p2), .val (.int p3), .val (.ref r4), .val (.ref r5), .val .null, .val (.ref r7)] [.null, (.ref r0)])) rfl rfl (hb hby d4_34)
  have f7_Exa_0 : Exa Z h7 r0 "com/example/ubique/ubique/Frame" := Exa.wr W7 f6_Exa_0
  have f7_Fld_1 : Fld Z h7 r0 "com/example/ubique/ubique/Frame" "flags" "I" (.int p1) := Fld.other W7 f6_Fld_1 (Or.inr (slot_ne (Or.inr (hw _ (List.mem_of_getElem? (i := 27) rfl))) (Or.inr (hw _ (List.mem_of_getElem? (i := 37) rfl))) (by decide) (t := .int) (t' := (.array .byte)) (by decide) (by decide)))
  have f7_Fld_2 : Fld Z h7 r0 "com/example/ubique/ubique/Frame" "type" "I" (.int p2) := Fld.other W7 f6_Fld_2 (Or.inr (slot_ne (Or.inr (hw _ (List.mem_of_getElem? (i := 29) rfl))) (Or.inr (hw _ (List.mem_of_getElem? (i := 37) rfl))) (by decide) (t := .int) (t' := (.array .byte)) (by decide) (by decide)))
  have f7_Fld_3 : Fld Z h7 r0 "com/example/ubique/ubique/Frame" "version" "I" (.int p3) := Fld.other W7 f6_Fld_3 (Or.inr (slot_ne (Or.inr (hw _ (List.mem_of_getElem? (i := 31) rfl))) (Or.inr (hw _ (List.mem_of_getElem? (i := 37) rfl))) (by decide) (t := .int) (t' := (.array .byte)) (by decide) (by decide)))
  have f7_Fld_4 : Fld Z h7 r0 "com/example/ubique/ubique/Frame" "source" "Lcom/example/ubique/ubique/ProcessId;" (.ref r4) := Fld.other W7 f6_Fld_4 (Or.inr (slot_ne (Or.inr (hw _ (List.mem_of_getElem? (i := 33) rfl))) (Or.inr (hw _ (List.mem_of_getElem? (i := 37) rfl))) (by decide) (t := (.object "com/example/ubique/ubique/ProcessId")) (t' := (.array .byte)) (by decide) (by decide)))
  have f7_Fld_5 : Fld Z h7 r0 "com/example/ubique/ubique/Frame" "destination" "Lcom/example/ubique/ubique/ProcessId;" (.ref r5) := Fld.other W7 f6_Fld_5 (Or.inr (slot_ne (Or.inr (hw _ (List.mem_of_getElem? (i := 35) rfl))) (Or.inr (hw _ (List.mem_of_getElem? (i := 37) rfl))) (by decide) (t := (.object "com/example/ubique/ubique/ProcessId")) (t' := (.array .byte)) (by decide) (by decide)))
  have f7_Fld_6 : Fld Z h7 r0 "com/example/ubique/ubique/Frame" "token" "[B" .null := Fld.same W7 f6_Fld_6
  have f7_Fld_7 : Fld Z h7 r0 "com/example/ubique/ubique/Frame" "payload" "[B" v6 := Fld.other W7 f6_Fld_7 (Or.inr (slot_ne (Or.inr (hw _ (List.mem_of_getElem? (i := 39) rfl))) (Or.inr (hw _ (List.mem_of_getElem? (i := 37) rfl))) (by decide) (t := (.array .byte)) (t' := (.array .byte)) (by decide) (by decide)))
  have N7 := Fr.snoc X7 N6 g_r0
  have KK7 : Keep h0 h7 [r0] := Keep.wr KK6 W7 (Or.inl (List.mem_of_getElem? (i := 0) rfl))
  refine Runs.back st7 ?_
  show Runs _ _ _ _ T7 (mkF m 37 #[.val (.ref r0), .val (.int p1), .val (.int p2), .val (.int p3), .val (.ref r4), .val (.ref r5), .val .null, .val (.ref r7)] [])
  refine Runs.back (fun t k => XS.aloadN X7.here hx rfl (hb hby d4_37) rfl rfl k) ?_
  show Runs _ _ _ _ T7 (mkF m 38 #[.val (.ref r0), .val (.int p1), .val (.int p2), .val (.int p3), .val (.ref r4), .val (.ref r5), .val .null, .val (.ref r7)] [(.ref r0)])
  refine Runs.back (fun t k => XS.aload X7.here hx rfl (hb hby d4_38) rfl rfl k) ?_
  show Runs _ _ _ _ T7 (mkF m 40 #[.val (.ref r0), .val (.int p1), .val (.int p2), .val (.int p3), .val (.ref r4), .val (.ref r5), .val .null, .val (.ref r7)] [(.ref r7), (.ref r0)])
  obtain ⟨T8, h8, X8, e8, W8, st8⟩ := putF X7 hx hZ hown (host := "") (Or.inl (hw _ (List.mem_of_getElem? (i := 38) rfl))) Via.refl e7 f7_Fld_7 f7_Exa_0 (Or.inr ⟨(hw _ (List.mem_of_getElem? (i := 39) rfl)), rfl, hnm⟩) (hw _ (List.mem_of_getElem? (i := 20) rfl)) (ty := (.array .byte)) (by decide) rfl rfl (g := (mkF m 40 #[.val (.ref r0), .val (.int p1), .val (.int p2), .val (.int p3), .val (.ref r4), .val (.ref r5), .val .null, .val (.ref r7)] [(.ref r7), (.ref r0)])) rfl rfl (hb hby d4_40)
  have f8_Exa_0 : Exa Z h8 r0 "com/example/ubique/ubique/Frame" := Exa.wr W8 f7_Exa_0
  have f8_Fld_1 : Fld Z h8 r0 "com/example/ubique/ubique/Frame" "flags" "I" (.int p1) := Fld.other W8 f7_Fld_1 (Or.inr (slot_ne (Or.inr (hw _ (List.mem_of_getElem? (i := 27) rfl))) (Or.inr (hw _ (List.mem_of_getElem? (i := 39) rfl))) (by decide) (t := .int) (t' := (.array .byte)) (by decide) (by decide)))
  have f8_Fld_2 : Fld Z h8 r0 "com/example/ubique/ubique/Frame" "type" "I" (.int p2) := Fld.other W8 f7_Fld_2 (Or.inr (slot_ne (Or.inr (hw _ (List.mem_of_getElem? (i := 29) rfl))) (Or.inr (hw _ (List.mem_of_getElem? (i := 39) rfl))) (by decide) (t := .int) (t' := (.array .byte)) (by decide) (by decide)))
  have f8_Fld_3 : Fld Z h8 r0 "com/example/ubique/ubique/Frame" "version" "I" (.int p3) := Fld.other W8 f7_Fld_3 (Or.inr (slot_ne (Or.inr (hw _ (List.mem_of_getElem? (i := 31) rfl))) (Or.inr (hw _ (List.mem_of_getElem? (i := 39) rfl))) (by decide) (t := .int) (t' := (.array .byte)) (by decide) (by decide)))
  have f8_Fld_4 : Fld Z h8 r0 "com/example/ubique/ubique/Frame" "source" "Lcom/example/ubique/ubique/ProcessId;" (.ref r4) := Fld.other W8 f7_Fld_4 (Or.inr (slot_ne (Or.inr (hw _ (List.mem_of_getElem? (i := 33) rfl))) (Or.inr (hw _ (List.mem_of_getElem? (i := 39) rfl))) (by decide) (t := (.object "com/example/ubique/ubique/ProcessId")) (t' := (.array .byte)) (by decide) (by decide)))
  have f8_Fld_5 : Fld Z h8 r0 "com/example/ubique/ubique/Frame" "destination" "Lcom/example/ubique/ubique/ProcessId;" (.ref r5) := Fld.other W8 f7_Fld_5 (Or.inr (slot_ne (Or.inr (hw _ (List.mem_of_getElem? (i := 35) rfl))) (Or.inr (hw _ (List.mem_of_getElem? (i := 39) rfl))) (by decide) (t := (.object "com/example/ubique/ubique/ProcessId")) (t' := (.array .byte)) (by decide) (by decide)))
  have f8_Fld_6 : Fld Z h8 r0 "com/example/ubique/ubique/Frame" "token" "[B" .null := Fld.other W8 f7_Fld_6 (Or.inr (slot_ne (Or.inr (hw _ (List.mem_of_getElem? (i := 37) rfl))) (Or.inr (hw _ (List.mem_of_getElem? (i := 39) rfl))) (by decide) (t := (.array .byte)) (t' := (.array .byte)) (by decide) (by decide)))
  have f8_Fld_7 : Fld Z h8 r0 "com/example/ubique/ubique/Frame" "payload" "[B" (.ref r7) := Fld.same W8 f7_Fld_7
  have N8 := Fr.snoc X8 N7 g_r0
  have KK8 : Keep h0 h8 [r0] := Keep.wr KK7 W8 (Or.inl (List.mem_of_getElem? (i := 0) rfl))
  refine Runs.back st8 ?_
  show Runs _ _ _ _ T8 (mkF m 43 #[.val (.ref r0), .val (.int p1), .val (.int p2), .val (.int p3), .val (.ref r4), .val (.ref r5), .val .null, .val (.ref r7)] [])
  obtain ⟨fs, hr, hrun, hended, hW, hsame⟩ := X8.leave (v := none) (fun _ => rfl)
  exact ⟨_, _, (X8.returnOut hx Bd.returns (hb hby d4_43) hr), hrun, hended, _, _, rfl, (by show Q4n Z r0 p1 p2 p3 r4 r5 r7 v0 v1 v2 v3 v4 v5 v6 h0 n0 _ T8.heap _; rw [e8]; exact ⟨rfl, N8, KK8, f8_Exa_0, f8_Fld_6, f8_Fld_7⟩), ⟨_, rfl⟩, hW, hsame.mono (by decide) (by decide)⟩
theorem d5_0 : decode prog_27_method_9_code 0 = .ok (.bipush 45, 2) := by decide +kernel
theorem d5_2 : decode prog_27_method_9_code 2 = .ok (.aload_n 0, 1) := by decide +kernel
theorem d5_3 : decode prog_27_method_9_code 3 = .ok (.getfield 26, 3) := by decide +kernel
theorem d5_6 : decode prog_27_method_9_code 6 = .ok (.ifnonnull 7, 3) := by decide +kernel
theorem d5_9 : decode prog_27_method_9_code 9 = .ok (.iconst 0, 1) := by decide +kernel
theorem d5_10 : decode prog_27_method_9_code 10 = .ok (.goto 5, 3) := by decide +kernel
theorem d5_13 : decode prog_27_method_9_code 13 = .ok (.bipush 32, 2) := by decide +kernel
theorem d5_15 : decode prog_27_method_9_code 15 = .ok (.iadd, 1) := by decide +kernel
theorem d5_16 : decode prog_27_method_9_code 16 = .ok (.aload_n 0, 1) := by decide +kernel
theorem d5_17 : decode prog_27_method_9_code 17 = .ok (.getfield 30, 3) := by decide +kernel
theorem d5_20 : decode prog_27_method_9_code 20 = .ok (.arraylength, 1) := by decide +kernel
theorem d5_21 : decode prog_27_method_9_code 21 = .ok (.iadd, 1) := by decide +kernel
theorem d5_22 : decode prog_27_method_9_code 22 = .ok (.ireturn, 1) := by decide +kernel
theorem pn_5n : plainName "com/example/ubique/ubique/Frame" = true := by first | (simp [plainName, overriddenIn]; done) | decide +kernel
theorem ef_5n (m : MethodId) (r0 : Addr) : entryFrame m #[(.ref r0)] 1 = mkF m 0 #[.val (.ref r0)] [] := by first | (simp [entryFrame, mkF, argsToLocals, Value.category]; done) | rfl
def Q5n (Z : State) (r0 : Addr) (pl : Addr) (nb : Nat) (fb : Nat → Value) (z : Int32) (h0 : Heap) (n0 : Nat) (v : Option Value) (h : Heap) (L : List Loc) : Prop := v = some (.int (((45 : Int32) + (0 : Int32)) + z)) ∧ Fr n0 L ∧ h = h0
set_option maxRecDepth 65536 in
set_option maxHeartbeats 40000000 in
theorem rm5n (l : Launch) (Z : State) (a0 : Array Value) (hw : ∀ d ∈ tables_1, d.before a0 Z = true) (ws : List Jvm.Cond) (r0 : Addr) (pl : Addr) (nb : Nat) (fb : Nat → Value) (z : Int32) (h0 : Heap) (n0 : Nat) (Z0 : n0 ≤ h0.size) (F1 : Fld Z h0 r0 "com/example/ubique/ubique/Frame" "token" "[B" .null) (F2 : Fld Z h0 r0 "com/example/ubique/ubique/Frame" "payload" "[B" (.ref pl)) (A1 : OArr Z h0 pl .byte nb fb) (hz : nb.toInt32 = z) :
    MetFree l (⟨"com/example/ubique/ubique/Frame", "length", "()I"⟩ : MethodName) (head1 (Jvm.Cond.code (⟨"com/example/ubique/ubique/Frame", "length", "()I"⟩ : MethodName) prog_27_method_9_code 1 (some .int) :: ws) ({ frames := 0, cells := 0, slots := 0, locals := 0 } : Room)) (fun a U => a = #[(.ref r0)] ∧ Z.Warmed39 U.vm ∧ U.heap = h0) (fun _ _ _ _ _ => True) (fun _ U o U' => ∃ v L, o = .returned v ∧ Q5n Z r0 pl nb fb z h0 n0 v U'.heap L ∧ FrameEnd U o U' L ({ frames := 0, cells := 0, slots := 0, locals := 0 } : Room).cells ({ frames := 0, cells := 0, slots := 0, locals := 0 } : Room).slots) := by
  refine MetFree.of_bodySF (plainFor_of_name pn_5n) hisR ?_
  intro p e s m args below meth c s₁ Bd hml0 hP hK
  obtain ⟨rfl, hZ, hh⟩ := hP
  have hx := Bd.exec
  have hby := Bd.bytes
  have hml : c.maxLocals = 1 := hml0
  have hown : s.vm.findClass "com/example/ubique/ubique/Frame" = some m.cls := findClass_of_methodNamed Bd.named
  have hnm := (name_of_methodNamed Bd.named Bd.method).1
  have X0 : Stand p l e ({ frames := 0, cells := 0, slots := 0, locals := 0 } : Room) s m #[(.ref r0)] below meth c s₁ [] 0 0 := Stand.of_body Bd
  have e0 : s₁.heap = h0 := by rw [← hh, Bd.state]; rfl
  have N0 := Fr.nil n0
  refine Runs.enter (ef_5n m r0) ?_
  show Runs _ _ _ _ s₁ (mkF m 0 #[.val (.ref r0)] [])
  refine Runs.back (fun t k => XS.bipush X0.here hx rfl (hb hby d5_0) k) ?_
  show Runs _ _ _ _ s₁ (mkF m 2 #[.val (.ref r0)] [(.int (45 : Int32))])
  refine Runs.back (fun t k => XS.aloadN X0.here hx rfl (hb hby d5_2) rfl rfl k) ?_
  show Runs _ _ _ _ s₁ (mkF m 3 #[.val (.ref r0)] [(.ref r0), (.int (45 : Int32))])
  obtain ⟨T1, X1, e1, st1⟩ := getF X0 hx hZ hown (host := "") (Or.inl (hw _ (List.mem_of_getElem? (i := 36) rfl))) Via.refl e0 F1 (g := (mkF m 3 #[.val (.ref r0)] [(.ref r0), (.int (45 : Int32))])) rfl rfl (hb hby d5_3)
  refine Runs.back st1 ?_
  show Runs _ _ _ _ T1 (mkF m 6 #[.val (.ref r0)] [.null, (.int (45 : Int32))])
  refine Runs.back (fun t k => XS.ifnonnullNo X1.here hx rfl (hb hby d5_6) rfl k) ?_
  show Runs _ _ _ _ T1 (mkF m 9 #[.val (.ref r0)] [(.int (45 : Int32))])
  refine Runs.back (fun t k => XS.iconst X1.here hx rfl (hb hby d5_9) k) ?_
  show Runs _ _ _ _ T1 (mkF m 10 #[.val (.ref r0)] [(.int (0 : Int32)), (.int (45 : Int32))])
  refine Runs.back (fun t k => XS.goto X1.here hx rfl (pc0 := 10) (pc' := 15) rfl (hb hby d5_10) (by decide) (by decide) k) ?_
  show Runs _ _ _ _ T1 (mkF m 15 #[.val (.ref r0)] [(.int (0 : Int32)), (.int (45 : Int32))])
  refine Runs.back (fun t k => XS.iadd X1.here hx rfl (hb hby d5_15) rfl k) ?_
  show Runs _ _ _ _ T1 (mkF m 16 #[.val (.ref r0)] [(.int ((45 : Int32) + (0 : Int32)))])
  refine Runs.back (fun t k => XS.aloadN X1.here hx rfl (hb hby d5_16) rfl rfl k) ?_
  show Runs _ _ _ _ T1 (mkF m 17 #[.val (.ref r0)] [(.ref r0), (.int ((45 : Int32) + (0 : Int32)))])
  obtain ⟨T2, X2, e2, st2⟩ := getF X1 hx hZ hown (host := "") (Or.inl (hw _ (List.mem_of_getElem? (i := 38) rfl))) Via.refl e1 F2 (g := (mkF m 17 #[.val (.ref r0)] [(.ref r0), (.int ((45 : Int32) + (0 : Int32)))])) rfl rfl (hb hby d5_17)
  refine Runs.back st2 ?_
  show Runs _ _ _ _ T2 (mkF m 20 #[.val (.ref r0)] [(.ref pl), (.int ((45 : Int32) + (0 : Int32)))])
  obtain ⟨cl3, Ar3, S3, Hs3⟩ := id A1
  refine Runs.back (fun t k => X2.arraylength hx (by rw [e2]; exact Ar3.1) (State.isArrayOf_alike hZ.alike Ar3.2.1) (g := (mkF m 20 #[.val (.ref r0)] [(.ref pl), (.int ((45 : Int32) + (0 : Int32)))])) rfl rfl (hb hby d5_20) _ (by rw [S3, show (nb).toInt32 = z from hz]; exact k)) ?_
  show Runs _ _ _ _ T2 (mkF m 21 #[.val (.ref r0)] [(.int z), (.int ((45 : Int32) + (0 : Int32)))])
  refine Runs.back (fun t k => XS.iadd X2.here hx rfl (hb hby d5_21) rfl k) ?_
  show Runs _ _ _ _ T2 (mkF m 22 #[.val (.ref r0)] [(.int (((45 : Int32) + (0 : Int32)) + z))])
  obtain ⟨fs, hr, hrun, hended, hW, hsame⟩ := X2.leave (v := some (.int (((45 : Int32) + (0 : Int32)) + z))) (fun h => by rw [Bd.returns] at h; cases h)
  exact ⟨_, _, (retI X2 hx Bd.returns (hb hby d5_22) hr), hrun, hended, _, _, rfl, ⟨rfl, N0, e2⟩, ⟨_, rfl⟩, hW, hsame.mono (by decide) (by decide)⟩
theorem pn_4t : plainName "com/example/ubique/ubique/Frame" = true := by first | (simp [plainName, overriddenIn]; done) | decide +kernel
theorem ef_4t (m : MethodId) (r0 : Addr) (p1 : Int32) (p2 : Int32) (p3 : Int32) (r4 : Addr) (r5 : Addr) (r6 : Addr) (r7 : Addr) : entryFrame m #[(.ref r0), (.int p1), (.int p2), (.int p3), (.ref r4), (.ref r5), (.ref r6), (.ref r7)] 8 = mkF m 0 #[.val (.ref r0), .val (.int p1), .val (.int p2), .val (.int p3), .val (.ref r4), .val (.ref r5), .val (.ref r6), .val (.ref r7)] [] := by first | (simp [entryFrame, mkF, argsToLocals, Value.category]; done) | rfl
def Q4t (Z : State) (r0 : Addr) (p1 : Int32) (p2 : Int32) (p3 : Int32) (r4 : Addr) (r5 : Addr) (r6 : Addr) (r7 : Addr) (v0 v1 v2 v3 v4 v5 v6 : Value) (h0 : Heap) (n0 : Nat) (v : Option Value) (h : Heap) (L : List Loc) : Prop := v = none ∧ Fr n0 L ∧ Keep h0 h [r0] ∧ Exa Z h r0 "com/example/ubique/ubique/Frame" ∧ Fld Z h r0 "com/example/ubique/ubique/Frame" "token" "[B" (.ref r6) ∧ Fld Z h r0 "com/example/ubique/ubique/Frame" "payload" "[B" (.ref r7)
set_option maxRecDepth 65536 in
set_option maxHeartbeats 40000000 in
theorem rm4t (l : Launch) (Z : State) (a0 : Array Value) (hw : ∀ d ∈ tables_1, d.before a0 Z = true) (ws : List Jvm.Cond) (r0 : Addr) (p1 : Int32) (p2 : Int32) (p3 : Int32) (r4 : Addr) (r5 : Addr) (r6 : Addr) (r7 : Addr) (v0 v1 v2 v3 v4 v5 v6 : Value) (h0 : Heap) (n0 : Nat) (Z0 : n0 ≤ h0.size) (E_r0 : Exa Z h0 r0 "com/example/ubique/ubique/Frame") (F0 : Fld Z h0 r0 "com/example/ubique/ubique/Frame" "flags" "I" v0) (F1 : Fld Z h0 r0 "com/example/ubique/ubique/Frame" "type" "I" v1) (F2 : Fld Z h0 r0 "com/example/ubique/ubique/Frame" "version" "I" v2) (F3 : Fld Z h0 r0 "com/example/ubique/ubique/Frame" "source" "Lcom/example/ubique/ubique/ProcessId;" v3) (F4 : Fld Z h0 r0 "com/example/ubique/ubique/Frame" "destination" "Lcom/example/ubique/ubique/ProcessId;" v4) (F5 : Fld Z h0 r0 "com/example/ubique/ubique/Frame" "token" "[B" v5) (F6 : Fld Z h0 r0 "com/example/ubique/ubique/Frame" "payload" "[B" v6) (g_r0 : n0 ≤ r0) :
    MetFree l (⟨"com/example/ubique/ubique/Frame", "<init>", "(IIILcom/example/ubique/ubique/ProcessId;Lcom/example/ubique/ubique/ProcessId;[B[B)V"⟩ : MethodName) (head1 (Jvm.Cond.code (⟨"com/example/ubique/ubique/Frame", "<init>", "(IIILcom/example/ubique/ubique/ProcessId;Lcom/example/ubique/ubique/ProcessId;[B[B)V"⟩ : MethodName) prog_27_method_1_code 8 none :: ws) ({ frames := 1, cells := 0, slots := 0, locals := 12 } : Room)) (fun a U => a = #[(.ref r0), (.int p1), (.int p2), (.int p3), (.ref r4), (.ref r5), (.ref r6), (.ref r7)] ∧ Z.Warmed39 U.vm ∧ U.heap = h0) (fun _ _ _ _ _ => True) (fun _ U o U' => ∃ v L, o = .returned v ∧ Q4t Z r0 p1 p2 p3 r4 r5 r6 r7 v0 v1 v2 v3 v4 v5 v6 h0 n0 v U'.heap L ∧ FrameEnd U o U' L ({ frames := 1, cells := 0, slots := 0, locals := 12 } : Room).cells ({ frames := 1, cells := 0, slots := 0, locals := 12 } : Room).slots) := by
  refine MetFree.of_bodySF (plainFor_of_name pn_4t) hisR ?_
  intro p e s m args below meth c s₁ Bd hml0 hP hK
  obtain ⟨rfl, hZ, hh⟩ := hP
  have hx := Bd.exec
  have hby := Bd.bytes
  have hml : c.maxLocals = 8 := hml0
  have hown : s.vm.findClass "com/example/ubique/ubique/Frame" = some m.cls := findClass_of_methodNamed Bd.named
  have hnm := (name_of_methodNamed Bd.named Bd.method).1
  have X0 : Stand p l e ({ frames := 1, cells := 0, slots := 0, locals := 12 } : Room) s m #[(.ref r0), (.int p1), (.int p2), (.int p3), (.ref r4), (.ref r5), (.ref r6), (.ref r7)] below meth c s₁ [] 0 0 := Stand.of_body Bd
  have e0 : s₁.heap = h0 := by rw [← hh, Bd.state]; rfl
  have N0 := Fr.nil n0
  refine Runs.enter (ef_4t m r0 p1 p2 p3 r4 r5 r6 r7) ?_
  show Runs _ _ _ _ s₁ (mkF m 0 #[.val (.ref r0), .val (.int p1), .val (.int p2), .val (.int p3), .val (.ref r4), .val (.ref r5), .val (.ref r6), .val (.ref r7)] [])
  refine Runs.back (fun t k => XS.aloadN X0.here hx rfl (hb hby d4_0) rfl rfl k) ?_
  show Runs _ _ _ _ s₁ (mkF m 1 #[.val (.ref r0), .val (.int p1), .val (.int p2), .val (.int p3), .val (.ref r4), .val (.ref r5), .val (.ref r6), .val (.ref r7)] [(.ref r0)])
  obtain ⟨T1, X1, e1, st1⟩ := initO X0 hx hZ hown (hw _ (List.mem_of_getElem? (i := 25) rfl)) (hw _ (List.mem_of_getElem? (i := 13) rfl)) (hw _ (List.mem_of_getElem? (i := 14) rfl)) e0 (g := (mkF m 1 #[.val (.ref r0), .val (.int p1), .val (.int p2), .val (.int p3), .val (.ref r4), .val (.ref r5), .val (.ref r6), .val (.ref r7)] [(.ref r0)])) rfl (by rw [hml]; rfl) rfl (hb hby d4_1) (by decide) (W := 0) (by show 2 * 0 + _ ≤ _; exact Nat.le_of_eq rfl) (by decide)
  refine Runs.back st1 ?_
  show Runs _ _ _ _ T1 (mkF m 4 #[.val (.ref r0), .val (.int p1), .val (.int p2), .val (.int p3), .val (.ref r4), .val (.ref r5), .val (.ref r6), .val (.ref r7)] [])
  refine Runs.back (fun t k => XS.aloadN X1.here hx rfl (hb hby d4_4) rfl rfl k) ?_
  show Runs _ _ _ _ T1 (mkF m 5 #[.val (.ref r0), .val (.int p1), .val (.int p2), .val (.int p3), .val (.ref r4), .val (.ref r5), .val (.ref r6), .val (.ref r7)] [(.ref r0)])
  refine Runs.back (fun t k => XS.iloadN X1.here hx rfl (hb hby d4_5) rfl k) ?_
  show Runs _ _ _ _ T1 (mkF m 6 #[.val (.ref r0), .val (.int p1), .val (.int p2), .val (.int p3), .val (.ref r4), .val (.ref r5), .val (.ref r6), .val (.ref r7)] [(.int p1), (.ref r0)])
  obtain ⟨T2, h2, X2, e2, W2, st2⟩ := putF X1 hx hZ hown (host := "") (Or.inl (hw _ (List.mem_of_getElem? (i := 26) rfl))) Via.refl e1 F0 E_r0 (Or.inr ⟨(hw _ (List.mem_of_getElem? (i := 27) rfl)), rfl, hnm⟩) (hw _ (List.mem_of_getElem? (i := 20) rfl)) (ty := .int) (by decide) rfl rfl (g := (mkF m 6 #[.val (.ref r0), .val (.int p1), .val (.int p2), .val (.int p3), .val (.ref r4), .val (.ref r5), .val (.ref r6), .val (.ref r7)] [(.int p1), (.ref r0)])) rfl rfl (hb hby d4_6)
  have f2_Exa_0 : Exa Z h2 r0 "com/example/ubique/ubique/Frame" := Exa.wr W2 E_r0
  have f2_Fld_1 : Fld Z h2 r0 "com/example/ubique/ubique/Frame" "flags" "I" (.int p1) := Fld.same W2 F0
  have f2_Fld_2 : Fld Z h2 r0 "com/example/ubique/ubique/Frame" "type" "I" v1 := Fld.other W2 F1 (Or.inr (slot_ne (Or.inr (hw _ (List.mem_of_getElem? (i := 29) rfl))) (Or.inr (hw _ (List.mem_of_getElem? (i := 27) rfl))) (by decide) (t := .int) (t' := .int) (by decide) (by decide)))
  have f2_Fld_3 : Fld Z h2 r0 "com/example/ubique/ubique/Frame" "version" "I" v2 := Fld.other W2 F2 (Or.inr (slot_ne (Or.inr (hw _ (List.mem_of_getElem? (i := 31) rfl))) (Or.inr (hw _ (List.mem_of_getElem? (i := 27) rfl))) (by decide) (t := .int) (t' := .int) (by decide) (by decide)))
  have f2_Fld_4 : Fld Z h2 r0 "com/example/ubique/ubique/Frame" "source" "Lcom/example/ubique/ubique/ProcessId;" v3 := Fld.other W2 F3 (Or.inr (slot_ne (Or.inr (hw _ (List.mem_of_getElem? (i := 33) rfl))) (Or.inr (hw _ (List.mem_of_getElem? (i := 27) rfl))) (by decide) (t := (.object "com/example/ubique/ubique/ProcessId")) (t' := .int) (by decide) (by decide)))
  have f2_Fld_5 : Fld Z h2 r0 "com/example/ubique/ubique/Frame" "destination" "Lcom/example/ubique/ubique/ProcessId;" v4 := Fld.other W2 F4 (Or.inr (slot_ne (Or.inr (hw _ (List.mem_of_getElem? (i := 35) rfl))) (Or.inr (hw _ (List.mem_of_getElem? (i := 27) rfl))) (by decide) (t := (.object "com/example/ubique/ubique/ProcessId")) (t' := .int) (by decide) (by decide)))
  have f2_Fld_6 : Fld Z h2 r0 "com/example/ubique/ubique/Frame" "token" "[B" v5 := Fld.other W2 F5 (Or.inr (slot_ne (Or.inr (hw _ (List.mem_of_getElem? (i := 37) rfl))) (Or.inr (hw _ (List.mem_of_getElem? (i := 27) rfl))) (by decide) (t := (.array .byte)) (t' := .int) (by decide) (by decide)))
  have f2_Fld_7 : Fld Z h2 r0 "com/example/ubique/ubique/Frame" "payload" "[B" v6 := Fld.other W2 F6 (Or.inr (slot_ne (Or.inr (hw _ (List.mem_of_getElem? (i := 39) rfl))) (Or.inr (hw _ (List.mem_of_getElem? (i := 27) rfl))) (by decide) (t := (.array .byte)) (t' := .int) (by decide) (by decide)))
  have N2 := Fr.snoc X2 N0 g_r0
  have KK2 : Keep h0 h2 [r0] := Keep.wr (Keep.refl h0 [r0]) W2 (Or.inl (List.mem_of_getElem? (i := 0) rfl))
  refine Runs.back st2 ?_
  show Runs _ _ _ _ T2 (mkF m 9 #[.val (.ref r0), .val (.int p1), .val (.int p2), .val (.int p3), .val (.ref r4), .val (.ref r5), .val (.ref r6), .val (.ref r7)] [])
  refine Runs.back (fun t k => XS.aloadN X2.here hx rfl (hb hby d4_9) rfl rfl k) ?_
  show Runs _ _ _ _ T2 (mkF m 10 #[.val (.ref r0), .val (.int p1), .val (.int p2), .val (.int p3), .val (.ref r4), .val (.ref r5), .val (.ref r6), .val (.ref r7)] [(.ref r0)])
  refine Runs.back (fun t k => XS.iloadN X2.here hx rfl (hb hby d4_10) rfl k) ?_
  show Runs _ _ _ _ T2 (mkF m 11 #[.val (.ref r0), .val (.int p1), .val (.int p2), .val (.int p3), .val (.ref r4), .val (.ref r5), .val (.ref r6), .val (.ref r7)] [(.int p2), (.ref r0)])
  obtain ⟨T3, h3, X3, e3, W3, st3⟩ := putF X2 hx hZ hown (host := "") (Or.inl (hw _ (List.mem_of_getElem? (i := 28) rfl))) Via.refl e2 f2_Fld_2 f2_Exa_0 (Or.inr ⟨(hw _ (List.mem_of_getElem? (i := 29) rfl)), rfl, hnm⟩) (hw _ (List.mem_of_getElem? (i := 20) rfl)) (ty := .int) (by decide) rfl rfl (g := (mkF m 11 #[.val (.ref r0), .val (.int p1), .val (.int p2), .val (.int p3), .val (.ref r4), .val (.ref r5), .val (.ref r6), .val (.ref r7)] [(.int p2), (.ref r0)])) rfl rfl (hb hby d4_11)
  have f3_Exa_0 : Exa Z h3 r0 "com/example/ubique/ubique/Frame" := Exa.wr W3 f2_Exa_0
  have f3_Fld_1 : Fld Z h3 r0 "com/example/ubique/ubique/Frame" "flags" "I" (.int p1) := Fld.other W3 f2_Fld_1 (Or.inr (slot_ne (Or.inr (hw _ (List.mem_of_getElem? (i := 27) rfl))) (Or.inr (hw _ (List.mem_of_getElem? (i := 29) rfl))) (by decide) (t := .int) (t' := .int) (by decide) (by decide)))
  have f3_Fld_2 : Fld Z h3 r0 "com/example/ubique/ubique/Frame" "type" "I" (.int p2) := Fld.same W3 f2_Fld_2
  have f3_Fld_3 : Fld Z h3 r0 "com/example/ubique/ubique/Frame" "version" "I" v2 := Fld.other W3 f2_Fld_3 (Or.inr (slot_ne (Or.inr (hw _ (List.mem_of_getElem? (i := 31) rfl))) (Or.inr (hw _ (List.mem_of_getElem? (i := 29) rfl))) (by decide) (t := .int) (t' := .int) (by decide) (by decide)))
  have f3_Fld_4 : Fld Z h3 r0 "com/example/ubique/ubique/Frame" "source" "Lcom/example/ubique/ubique/ProcessId;" v3 := Fld.other W3 f2_Fld_4 (Or.inr (slot_ne (Or.inr (hw _ (List.mem_of_getElem? (i := 33) rfl))) (Or.inr (hw _ (List.mem_of_getElem? (i := 29) rfl))) (by decide) (t := (.object "com/example/ubique/ubique/ProcessId")) (t' := .int) (by decide) (by decide)))
  have f3_Fld_5 : Fld Z h3 r0 "com/example/ubique/ubique/Frame" "destination" "Lcom/example/ubique/ubique/ProcessId;" v4 := Fld.other W3 f2_Fld_5 (Or.inr (slot_ne (Or.inr (hw _ (List.mem_of_getElem? (i := 35) rfl))) (Or.inr (hw _ (List.mem_of_getElem? (i := 29) rfl))) (by decide) (t := (.object "com/example/ubique/ubique/ProcessId")) (t' := .int) (by decide) (by decide)))
  have f3_Fld_6 : Fld Z h3 r0 "com/example/ubique/ubique/Frame" "token" "[B" v5 := Fld.other W3 f2_Fld_6 (Or.inr (slot_ne (Or.inr (hw _ (List.mem_of_getElem? (i := 37) rfl))) (Or.inr (hw _ (List.mem_of_getElem? (i := 29) rfl))) (by decide) (t := (.array .byte)) (t' := .int) (by decide) (by decide)))
  have f3_Fld_7 : Fld Z h3 r0 "com/example/ubique/ubique/Frame" "payload" "[B" v6 := Fld.other W3 f2_Fld_7 (Or.inr (slot_ne (Or.inr (hw _ (List.mem_of_getElem? (i := 39) rfl))) (Or.inr (hw _ (List.mem_of_getElem? (i := 29) rfl))) (by decide) (t := (.array .byte)) (t' := .int) (by decide) (by decide)))
  have N3 := Fr.snoc X3 N2 g_r0
  have KK3 : Keep h0 h3 [r0] := Keep.wr KK2 W3 (Or.inl (List.mem_of_getElem? (i := 0) rfl))
  refine Runs.back st3 ?_
  show Runs _ _ _ _ T3 (mkF m 14 #[.val (.ref r0), .val (.int p1), .val (.int p2), .val (.int p3), .val (.ref r4), .val (.ref r5), .val (.ref r6), .val (.ref r7)] [])
  refine Runs.back (fun t k => XS.aloadN X3.here hx rfl (hb hby d4_14) rfl rfl k) ?_
  show Runs _ _ _ _ T3 (mkF m 15 #[.val (.ref r0), .val (.int p1), .val (.int p2), .val (.int p3), .val (.ref r4), .val (.ref r5), .val (.ref r6), .val (.ref r7)] [(.ref r0)])
  refine Runs.back (fun t k => XS.iloadN X3.here hx rfl (hb hby d4_15) rfl k) ?_
  show Runs _ _ _ _ T3 (mkF m 16 #[.val (.ref r0), .val (.int p1), .val (.int p2), .val (.int p3), .val (.ref r4), .val (.ref r5), .val (.ref r6), .val (.ref r7)] [(.int p3), (.ref r0)])
  obtain ⟨T4, h4, X4, e4, W4, st4⟩ := putF X3 hx hZ hown (host := "") (Or.inl (hw _ (List.mem_of_getElem? (i := 30) rfl))) Via.refl e3 f3_Fld_3 f3_Exa_0 (Or.inr ⟨(hw _ (List.mem_of_getElem? (i := 31) rfl)), rfl, hnm⟩) (hw _ (List.mem_of_getElem? (i := 20) rfl)) (ty := .int) (by decide) rfl rfl (g := (mkF m 16 #[.val (.ref r0), .val (.int p1), .val (.int p2), .val (.int p3), .val (.ref r4), .val (.ref r5), .val (.ref r6), .val (.ref r7)] [(.int p3), (.ref r0)])) rfl rfl (hb hby d4_16)
  have f4_Exa_0 : Exa Z h4 r0 "com/example/ubique/ubique/Frame" := Exa.wr W4 f3_Exa_0
  have f4_Fld_1 : Fld Z h4 r0 "com/example/ubique/ubique/Frame" "flags" "I" (.int p1) := Fld.other W4 f3_Fld_1 (Or.inr (slot_ne (Or.inr (hw _ (List.mem_of_getElem? (i := 27) rfl))) (Or.inr (hw _ (List.mem_of_getElem? (i := 31) rfl))) (by decide) (t := .int) (t' := .int) (by decide) (by decide)))
  have f4_Fld_2 : Fld Z h4 r0 "com/example/ubique/ubique/Frame" "type" "I" (.int p2) := Fld.other W4 f3_Fld_2 (Or.inr (slot_ne (Or.inr (hw _ (List.mem_of_getElem? (i := 29) rfl))) (Or.inr (hw _ (List.mem_of_getElem? (i := 31) rfl))) (by decide) (t := .int) (t' := .int) (by decide) (by decide)))
  have f4_Fld_3 : Fld Z h4 r0 "com/example/ubique/ubique/Frame" "version" "I" (.int p3) := Fld.same W4 f3_Fld_3
  have f4_Fld_4 : Fld Z h4 r0 "com/example/ubique/ubique/Frame" "source" "Lcom/example/ubique/ubique/ProcessId;" v3 := Fld.other W4 f3_Fld_4 (Or.inr (slot_ne (Or.inr (hw _ (List.mem_of_getElem? (i := 33) rfl))) (Or.inr (hw _ (List.mem_of_getElem? (i := 31) rfl))) (by decide) (t := (.object "com/example/ubique/ubique/ProcessId")) (t' := .int) (by decide) (by decide)))
  have f4_Fld_5 : Fld Z h4 r0 "com/example/ubique/ubique/Frame" "destination" "Lcom/example/ubique/ubique/ProcessId;" v4 := Fld.other W4 f3_Fld_5 (Or.inr (slot_ne (Or.inr (hw _ (List.mem_of_getElem? (i := 35) rfl))) (Or.inr (hw _ (List.mem_of_getElem? (i := 31) rfl))) (by decide) (t := (.object "com/example/ubique/ubique/ProcessId")) (t' := .int) (by decide) (by decide)))
  have f4_Fld_6 : Fld Z h4 r0 "com/example/ubique/ubique/Frame" "token" "[B" v5 := Fld.other W4 f3_Fld_6 (Or.inr (slot_ne (Or.inr (hw _ (List.mem_of_getElem? (i := 37) rfl))) (Or.inr (hw _ (List.mem_of_getElem? (i := 31) rfl))) (by decide) (t := (.array .byte)) (t' := .int) (by decide) (by decide)))
  have f4_Fld_7 : Fld Z h4 r0 "com/example/ubique/ubique/Frame" "payload" "[B" v6 := Fld.other W4 f3_Fld_7 (Or.inr (slot_ne (Or.inr (hw _ (List.mem_of_getElem? (i := 39) rfl))) (Or.inr (hw _ (List.mem_of_getElem? (i := 31) rfl))) (by decide) (t := (.array .byte)) (t' := .int) (by decide) (by decide)))
  have N4 := Fr.snoc X4 N3 g_r0
  have KK4 : Keep h0 h4 [r0] := Keep.wr KK3 W4 (Or.inl (List.mem_of_getElem? (i := 0) rfl))
  refine Runs.back st4 ?_
  show Runs _ _ _ _ T4 (mkF m 19 #[.val (.ref r0), .val (.int p1), .val (.int p2), .val (.int p3), .val (.ref r4), .val (.ref r5), .val (.ref r6), .val (.ref r7)] [])
  refine Runs.back (fun t k => XS.aloadN X4.here hx rfl (hb hby d4_19) rfl rfl k) ?_
  show Runs _ _ _ _ T4 (mkF m 20 #[.val (.ref r0), .val (.int p1), .val (.int p2), .val (.int p3), .val (.ref r4), .val (.ref r5), .val (.ref r6), .val (.ref r7)] [(.ref r0)])
  refine Runs.back (fun t k => XS.aload X4.here hx rfl (hb hby d4_20) rfl rfl k) ?_
  show Runs _ _ _ _ T4 (mkF m 22 #[.val (.ref r0), .val (.int p1), .val (.int p2), .val (.int p3), .val (.ref r4), .val (.ref r5), .val (.ref r6), .val (.ref r7)] [(.ref r4), (.ref r0)])
  obtain ⟨T5, h5, X5, e5, W5, st5⟩ := putF X4 hx hZ hown (host := "") (Or.inl (hw _ (List.mem_of_getElem? (i := 32) rfl))) Via.refl e4 f4_Fld_4 f4_Exa_0 (Or.inr ⟨(hw _ (List.mem_of_getElem? (i := 33) rfl)), rfl, hnm⟩) (hw _ (List.mem_of_getElem? (i := 20) rfl)) (ty := (.object "com/example/ubique/ubique/ProcessId")) (by decide) rfl rfl (g := (mkF m 22 #[.val (.ref r0), .val (.int p1), .val (.int p2), .val (.int p3), .val (.ref r4), .val (.ref r5), .val (.ref r6), .val (.ref r7)] [(.ref r4), (.ref r0)])) rfl rfl (hb hby d4_22)
  have f5_Exa_0 : Exa Z h5 r0 "com/example/ubique/ubique/Frame" := Exa.wr W5 f4_Exa_0
  have f5_Fld_1 : Fld Z h5 r0 "com/example/ubique/ubique/Frame" "flags" "I" (.int p1) := Fld.other W5 f4_Fld_1 (Or.inr (slot_ne (Or.inr (hw _ (List.mem_of_getElem? (i := 27) rfl))) (Or.inr (hw _ (List.mem_of_getElem? (i := 33) rfl))) (by decide) (t := .int) (t' := (.object "com/example/ubique/ubique/ProcessId")) (by decide) (by decide)))
  have f5_Fld_2 : Fld Z h5 r0 "com/example/ubique/ubique/Frame" "type" "I" (.int p2) := Fld.other W5 f4_Fld_2 (Or.inr (slot_ne (Or.inr (hw _ (List.mem_of_getElem? (i := 29) rfl))) (Or.inr (hw _ (List.mem_of_getElem? (i := 33) rfl))) (by decide) (t := .int) (t' := (.object "com/example/ubique/ubique/ProcessId")) (by decide) (by decide)))
  have f5_Fld_3 : Fld Z h5 r0 "com/example/ubique/ubique/Frame" "version" "I" (.int p3) := Fld.other W5 f4_Fld_3 (Or.inr (slot_ne (Or.inr (hw _ (List.mem_of_getElem? (i := 31) rfl))) (Or.inr (hw _ (List.mem_of_getElem? (i := 33) rfl))) (by decide) (t := .int) (t' := (.object "com/example/ubique/ubique/ProcessId")) (by decide) (by decide)))
  have f5_Fld_4 : Fld Z h5 r0 "com/example/ubique/ubique/Frame" "source" "Lcom/example/ubique/ubique/ProcessId;" (.ref r4) := Fld.same W5 f4_Fld_4
  have f5_Fld_5 : Fld Z h5 r0 "com/example/ubique/ubique/Frame" "destination" "Lcom/example/ubique/ubique/ProcessId;" v4 := Fld.other W5 f4_Fld_5 (Or.inr (slot_ne (Or.inr (hw _ (List.mem_of_getElem? (i := 35) rfl))) (Or.inr (hw _ (List.mem_of_getElem? (i := 33) rfl))) (by decide) (t := (.object "com/example/ubique/ubique/ProcessId")) (t' := (.object "com/example/ubique/ubique/ProcessId")) (by decide) (by decide)))
  have f5_Fld_6 : Fld Z h5 r0 "com/example/ubique/ubique/Frame" "token" "[B" v5 := Fld.other W5 f4_Fld_6 (Or.inr (slot_ne (Or.inr (hw _ (List.mem_of_getElem? (i := 37) rfl))) (Or.inr (hw _ (List.mem_of_getElem? (i := 33) rfl))) (by decide) (t := (.array .byte)) (t' := (.object "com/example/ubique/ubique/ProcessId")) (by decide) (by decide)))
  have f5_Fld_7 : Fld Z h5 r0 "com/example/ubique/ubique/Frame" "payload" "[B" v6 := Fld.other W5 f4_Fld_7 (Or.inr (slot_ne (Or.inr (hw _ (List.mem_of_getElem? (i := 39) rfl))) (Or.inr (hw _ (List.mem_of_getElem? (i := 33) rfl))) (by decide) (t := (.array .byte)) (t' := (.object "com/example/ubique/ubique/ProcessId")) (by decide) (by decide)))
  have N5 := Fr.snoc X5 N4 g_r0
  have KK5 : Keep h0 h5 [r0] := Keep.wr KK4 W5 (Or.inl (List.mem_of_getElem? (i := 0) rfl))
  refine Runs.back st5 ?_
  show Runs _ _ _ _ T5 (mkF m 25 #[.val (.ref r0), .val (.int p1), .val (.int p2), .val (.int p3), .val (.ref r4), .val (.ref r5), .val (.ref r6), .val (.ref r7)] [])
  refine Runs.back (fun t k => XS.aloadN X5.here hx rfl (hb hby d4_25) rfl rfl k) ?_
  show Runs _ _ _ _ T5 (mkF m 26 #[.val (.ref r0), .val (.int p1), .val (.int p2), .val (.int p3), .val (.ref r4), .val (.ref r5), .val (.ref r6), .val (.ref r7)] [(.ref r0)])
  refine Runs.back (fun t k => XS.aload X5.here hx rfl (hb hby d4_26) rfl rfl k) ?_
  show Runs _ _ _ _ T5 (mkF m 28 #[.val (.ref r0), .val (.int p1), .val (.int p2), .val (.int p3), .val (.ref r4), .val (.ref r5), .val (.ref r6), .val (.ref r7)] [(.ref r5), (.ref r0)])
  obtain ⟨T6, h6, X6, e6, W6, st6⟩ := putF X5 hx hZ hown (host := "") (Or.inl (hw _ (List.mem_of_getElem? (i := 34) rfl))) Via.refl e5 f5_Fld_5 f5_Exa_0 (Or.inr ⟨(hw _ (List.mem_of_getElem? (i := 35) rfl)), rfl, hnm⟩) (hw _ (List.mem_of_getElem? (i := 20) rfl)) (ty := (.object "com/example/ubique/ubique/ProcessId")) (by decide) rfl rfl (g := (mkF m 28 #[.val (.ref r0), .val (.int p1), .val (.int p2), .val (.int p3), .val (.ref r4), .val (.ref r5), .val (.ref r6), .val (.ref r7)] [(.ref r5), (.ref r0)])) rfl rfl (hb hby d4_28)
  have f6_Exa_0 : Exa Z h6 r0 "com/example/ubique/ubique/Frame" := Exa.wr W6 f5_Exa_0
  have f6_Fld_1 : Fld Z h6 r0 "com/example/ubique/ubique/Frame" "flags" "I" (.int p1) := Fld.other W6 f5_Fld_1 (Or.inr (slot_ne (Or.inr (hw _ (List.mem_of_getElem? (i := 27) rfl))) (Or.inr (hw _ (List.mem_of_getElem? (i := 35) rfl))) (by decide) (t := .int) (t' := (.object "com/example/ubique/ubique/ProcessId")) (by decide) (by decide)))
  have f6_Fld_2 : Fld Z h6 r0 "com/example/ubique/ubique/Frame" "type" "I" (.int p2) := Fld.other W6 f5_Fld_2 (Or.inr (slot_ne (Or.inr (hw _ (List.mem_of_getElem? (i := 29) rfl))) (Or.inr (hw _ (List.mem_of_getElem? (i := 35) rfl))) (by decide) (t := .int) (t' := (.object "com/example/ubique/ubique/ProcessId")) (by decide) (by decide)))
  have f6_Fld_3 : Fld Z h6 r0 "com/example/ubique/ubique/Frame" "version" "I" (.int p3) := Fld.other W6 f5_Fld_3 (Or.inr (slot_ne (Or.inr (hw _ (List.mem_of_getElem? (i := 31) rfl))) (Or.inr (hw _ (List.mem_of_getElem? (i := 35) rfl))) (by decide) (t := .int) (t' := (.object "com/example/ubique/ubique/ProcessId")) (by decide) (by decide)))
  have f6_Fld_4 : Fld Z h6 r0 "com/example/ubique/ubique/Frame" "source" "Lcom/example/ubique/ubique/ProcessId;" (.ref r4) := Fld.other W6 f5_Fld_4 (Or.inr (slot_ne (Or.inr (hw _ (List.mem_of_getElem? (i := 33) rfl))) (Or.inr (hw _ (List.mem_of_getElem? (i := 35) rfl))) (by decide) (t := (.object "com/example/ubique/ubique/ProcessId")) (t' := (.object "com/example/ubique/ubique/ProcessId")) (by decide) (by decide)))
  have f6_Fld_5 : Fld Z h6 r0 "com/example/ubique/ubique/Frame" "destination" "Lcom/example/ubique/ubique/ProcessId;" (.ref r5) := Fld.same W6 f5_Fld_5
  have f6_Fld_6 : Fld Z h6 r0 "com/example/ubique/ubique/Frame" "token" "[B" v5 := Fld.other W6 f5_Fld_6 (Or.inr (slot_ne (Or.inr (hw _ (List.mem_of_getElem? (i := 37) rfl))) (Or.inr (hw _ (List.mem_of_getElem? (i := 35) rfl))) (by decide) (t := (.array .byte)) (t' := (.object "com/example/ubique/ubique/ProcessId")) (by decide) (by decide)))
  have f6_Fld_7 : Fld Z h6 r0 "com/example/ubique/ubique/Frame" "payload" "[B" v6 := Fld.other W6 f5_Fld_7 (Or.inr (slot_ne (Or.inr (hw _ (List.mem_of_getElem? (i := 39) rfl))) (Or.inr (hw _ (List.mem_of_getElem? (i := 35) rfl))) (by decide) (t := (.array .byte)) (t' := (.object "com/example/ubique/ubique/ProcessId")) (by decide) (by decide)))
  have N6 := Fr.snoc X6 N5 g_r0
  have KK6 : Keep h0 h6 [r0] := Keep.wr KK5 W6 (Or.inl (List.mem_of_getElem? (i := 0) rfl))
  refine Runs.back st6 ?_
  show Runs _ _ _ _ T6 (mkF m 31 #[.val (.ref r0), .val (.int p1), .val (.int p2), .val (.int p3), .val (.ref r4), .val (.ref r5), .val (.ref r6), .val (.ref r7)] [])
  refine Runs.back (fun t k => XS.aloadN X6.here hx rfl (hb hby d4_31) rfl rfl k) ?_
  show Runs _ _ _ _ T6 (mkF m 32 #[.val (.ref r0), .val (.int p1), .val (.int p2), .val (.int p3), .val (.ref r4), .val (.ref r5), .val (.ref r6), .val (.ref r7)] [(.ref r0)])
  refine Runs.back (fun t k => XS.aload X6.here hx rfl (hb hby d4_32) rfl rfl k) ?_
  show Runs _ _ _ _ T6 (mkF m 34 #[.val (.ref r0), .val (.int p1), .val (.int p2), .val (.int p3), .val (.ref r4), .val (.ref r5), .val (.ref r6), .val (.ref r7)] [(.ref r6), (.ref r0)])
  obtain ⟨T7, h7, X7, e7, W7, st7⟩ := putF X6 hx hZ hown (host := "") (Or.inl (hw _ (List.mem_of_getElem? (i := 36) rfl))) Via.refl e6 f6_Fld_6 f6_Exa_0 (Or.inr ⟨(hw _ (List.mem_of_getElem? (i := 37) rfl)), rfl, hnm⟩) (hw _ (List.mem_of_getElem? (i := 20) rfl)) (ty := (.array .byte)) (by decide) rfl rfl (g := (mkF m 34 #[.val (.ref r0), .val (.int p1), .val (.int p2), .val (.int p3), .val (.ref r4), .val (.ref r5), .val (.ref r6), .val (.ref r7)] [(.ref r6), (.ref r0)])) rfl rfl (hb hby d4_34)
  have f7_Exa_0 : Exa Z h7 r0 "com/example/ubique/ubique/Frame" := Exa.wr W7 f6_Exa_0
  have f7_Fld_1 : Fld Z h7 r0 "com/example/ubique/ubique/Frame" "flags" "I" (.int p1) := Fld.other W7 f6_Fld_1 (Or.inr (slot_ne (Or.inr (hw _ (List.mem_of_getElem? (i := 27) rfl))) (Or.inr (hw _ (List.mem_of_getElem? (i := 37) rfl))) (by decide) (t := .int) (t' := (.array .byte)) (by decide) (by decide)))
  have f7_Fld_2 : Fld Z h7 r0 "com/example/ubique/ubique/Frame" "type" "I" (.int p2) := Fld.other W7 f6_Fld_2 (Or.inr (slot_ne (Or.inr (hw _ (List.mem_of_getElem? (i := 29) rfl))) (Or.inr (hw _ (List.mem_of_getElem? (i := 37) rfl))) (by decide) (t := .int) (t' := (.array .byte)) (by decide) (by decide)))
  have f7_Fld_3 : Fld Z h7 r0 "com/example/ubique/ubique/Frame" "version" "I" (.int p3) := Fld.other W7 f6_Fld_3 (Or.inr (slot_ne (Or.inr (hw _ (List.mem_of_getElem? (i := 31) rfl))) (Or.inr (hw _ (List.mem_of_getElem? (i := 37) rfl))) (by decide) (t := .int) (t' := (.array .byte)) (by decide) (by decide)))
  have f7_Fld_4 : Fld Z h7 r0 "com/example/ubique/ubique/Frame" "source" "Lcom/example/ubique/ubique/ProcessId;" (.ref r4) := Fld.other W7 f6_Fld_4 (Or.inr (slot_ne (Or.inr (hw _ (List.mem_of_getElem? (i := 33) rfl))) (Or.inr (hw _ (List.mem_of_getElem? (i := 37) rfl))) (by decide) (t := (.object "com/example/ubique/ubique/ProcessId")) (t' := (.array .byte)) (by decide) (by decide)))
  have f7_Fld_5 : Fld Z h7 r0 "com/example/ubique/ubique/Frame" "destination" "Lcom/example/ubique/ubique/ProcessId;" (.ref r5) := Fld.other W7 f6_Fld_5 (Or.inr (slot_ne (Or.inr (hw _ (List.mem_of_getElem? (i := 35) rfl))) (Or.inr (hw _ (List.mem_of_getElem? (i := 37) rfl))) (by decide) (t := (.object "com/example/ubique/ubique/ProcessId")) (t' := (.array .byte)) (by decide) (by decide)))
  have f7_Fld_6 : Fld Z h7 r0 "com/example/ubique/ubique/Frame" "token" "[B" (.ref r6) := Fld.same W7 f6_Fld_6
  have f7_Fld_7 : Fld Z h7 r0 "com/example/ubique/ubique/Frame" "payload" "[B" v6 := Fld.other W7 f6_Fld_7 (Or.inr (slot_ne (Or.inr (hw _ (List.mem_of_getElem? (i := 39) rfl))) (Or.inr (hw _ (List.mem_of_getElem? (i := 37) rfl))) (by decide) (t := (.array .byte)) (t' := (.array .byte)) (by decide) (by decide)))
  have N7 := Fr.snoc X7 N6 g_r0
  have KK7 : Keep h0 h7 [r0] := Keep.wr KK6 W7 (Or.inl (List.mem_of_getElem? (i := 0) rfl))
  refine Runs.back st7 ?_
  show Runs _ _ _ _ T7 (mkF m 37 #[.val (.ref r0), .val (.int p1), .val (.int p2), .val (.int p3), .val (.ref r4), .val (.ref r5), .val (.ref r6), .val (.ref r7)] [])
  refine Runs.back (fun t k => XS.aloadN X7.here hx rfl (hb hby d4_37) rfl rfl k) ?_
  show Runs _ _ _ _ T7 (mkF m 38 #[.val (.ref r0), .val (.int p1), .val (.int p2), .val (.int p3), .val (.ref r4), .val (.ref r5), .val (.ref r6), .val (.ref r7)] [(.ref r0)])
  refine Runs.back (fun t k => XS.aload X7.here hx rfl (hb hby d4_38) rfl rfl k) ?_
  show Runs _ _ _ _ T7 (mkF m 40 #[.val (.ref r0), .val (.int p1), .val (.int p2), .val (.int p3), .val (.ref r4), .val (.ref r5), .val (.ref r6), .val (.ref r7)] [(.ref r7), (.ref r0)])
  obtain ⟨T8, h8, X8, e8, W8, st8⟩ := putF X7 hx hZ hown (host := "") (Or.inl (hw _ (List.mem_of_getElem? (i := 38) rfl))) Via.refl e7 f7_Fld_7 f7_Exa_0 (Or.inr ⟨(hw _ (List.mem_of_getElem? (i := 39) rfl)), rfl, hnm⟩) (hw _ (List.mem_of_getElem? (i := 20) rfl)) (ty := (.array .byte)) (by decide) rfl rfl (g := (mkF m 40 #[.val (.ref r0), .val (.int p1), .val (.int p2), .val (.int p3), .val (.ref r4), .val (.ref r5), .val (.ref r6), .val (.ref r7)] [(.ref r7), (.ref r0)])) rfl rfl (hb hby d4_40)
  have f8_Exa_0 : Exa Z h8 r0 "com/example/ubique/ubique/Frame" := Exa.wr W8 f7_Exa_0
  have f8_Fld_1 : Fld Z h8 r0 "com/example/ubique/ubique/Frame" "flags" "I" (.int p1) := Fld.other W8 f7_Fld_1 (Or.inr (slot_ne (Or.inr (hw _ (List.mem_of_getElem? (i := 27) rfl))) (Or.inr (hw _ (List.mem_of_getElem? (i := 39) rfl))) (by decide) (t := .int) (t' := (.array .byte)) (by decide) (by decide)))
  have f8_Fld_2 : Fld Z h8 r0 "com/example/ubique/ubique/Frame" "type" "I" (.int p2) := Fld.other W8 f7_Fld_2 (Or.inr (slot_ne (Or.inr (hw _ (List.mem_of_getElem? (i := 29) rfl))) (Or.inr (hw _ (List.mem_of_getElem? (i := 39) rfl))) (by decide) (t := .int) (t' := (.array .byte)) (by decide) (by decide)))
  have f8_Fld_3 : Fld Z h8 r0 "com/example/ubique/ubique/Frame" "version" "I" (.int p3) := Fld.other W8 f7_Fld_3 (Or.inr (slot_ne (Or.inr (hw _ (List.mem_of_getElem? (i := 31) rfl))) (Or.inr (hw _ (List.mem_of_getElem? (i := 39) rfl))) (by decide) (t := .int) (t' := (.array .byte)) (by decide) (by decide)))
  have f8_Fld_4 : Fld Z h8 r0 "com/example/ubique/ubique/Frame" "source" "Lcom/example/ubique/ubique/ProcessId;" (.ref r4) := Fld.other W8 f7_Fld_4 (Or.inr (slot_ne (Or.inr (hw _ (List.mem_of_getElem? (i := 33) rfl))) (Or.inr (hw _ (List.mem_of_getElem? (i := 39) rfl))) (by decide) (t := (.object "com/example/ubique/ubique/ProcessId")) (t' := (.array .byte)) (by decide) (by decide)))
  have f8_Fld_5 : Fld Z h8 r0 "com/example/ubique/ubique/Frame" "destination" "Lcom/example/ubique/ubique/ProcessId;" (.ref r5) := Fld.other W8 f7_Fld_5 (Or.inr (slot_ne (Or.inr (hw _ (List.mem_of_getElem? (i := 35) rfl))) (Or.inr (hw _ (List.mem_of_getElem? (i := 39) rfl))) (by decide) (t := (.object "com/example/ubique/ubique/ProcessId")) (t' := (.array .byte)) (by decide) (by decide)))
  have f8_Fld_6 : Fld Z h8 r0 "com/example/ubique/ubique/Frame" "token" "[B" (.ref r6) := Fld.other W8 f7_Fld_6 (Or.inr (slot_ne (Or.inr (hw _ (List.mem_of_getElem? (i := 37) rfl))) (Or.inr (hw _ (List.mem_of_getElem? (i := 39) rfl))) (by decide) (t := (.array .byte)) (t' := (.array .byte)) (by decide) (by decide)))
  have f8_Fld_7 : Fld Z h8 r0 "com/example/ubique/ubique/Frame" "payload" "[B" (.ref r7) := Fld.same W8 f7_Fld_7
  have N8 := Fr.snoc X8 N7 g_r0
  have KK8 : Keep h0 h8 [r0] := Keep.wr KK7 W8 (Or.inl (List.mem_of_getElem? (i := 0) rfl))
  refine Runs.back st8 ?_
  show Runs _ _ _ _ T8 (mkF m 43 #[.val (.ref r0), .val (.int p1), .val (.int p2), .val (.int p3), .val (.ref r4), .val (.ref r5), .val (.ref r6), .val (.ref r7)] [])
  obtain ⟨fs, hr, hrun, hended, hW, hsame⟩ := X8.leave (v := none) (fun _ => rfl)
  exact ⟨_, _, (X8.returnOut hx Bd.returns (hb hby d4_43) hr), hrun, hended, _, _, rfl, (by show Q4t Z r0 p1 p2 p3 r4 r5 r6 r7 v0 v1 v2 v3 v4 v5 v6 h0 n0 _ T8.heap _; rw [e8]; exact ⟨rfl, N8, KK8, f8_Exa_0, f8_Fld_6, f8_Fld_7⟩), ⟨_, rfl⟩, hW, hsame.mono (by decide) (by decide)⟩
theorem pn_5t : plainName "com/example/ubique/ubique/Frame" = true := by first | (simp [plainName, overriddenIn]; done) | decide +kernel
theorem ef_5t (m : MethodId) (r0 : Addr) : entryFrame m #[(.ref r0)] 1 = mkF m 0 #[.val (.ref r0)] [] := by first | (simp [entryFrame, mkF, argsToLocals, Value.category]; done) | rfl
def Q5t (Z : State) (r0 : Addr) (tk : Addr) (pl : Addr) (nb : Nat) (fb : Nat → Value) (z : Int32) (h0 : Heap) (n0 : Nat) (v : Option Value) (h : Heap) (L : List Loc) : Prop := v = some (.int (((45 : Int32) + (32 : Int32)) + z)) ∧ Fr n0 L ∧ h = h0
set_option maxRecDepth 65536 in
set_option maxHeartbeats 40000000 in
theorem rm5t (l : Launch) (Z : State) (a0 : Array Value) (hw : ∀ d ∈ tables_1, d.before a0 Z = true) (ws : List Jvm.Cond) (r0 : Addr) (tk : Addr) (pl : Addr) (nb : Nat) (fb : Nat → Value) (z : Int32) (h0 : Heap) (n0 : Nat) (Z0 : n0 ≤ h0.size) (F1 : Fld Z h0 r0 "com/example/ubique/ubique/Frame" "token" "[B" (.ref tk)) (F2 : Fld Z h0 r0 "com/example/ubique/ubique/Frame" "payload" "[B" (.ref pl)) (A1 : OArr Z h0 pl .byte nb fb) (hz : nb.toInt32 = z) :
    MetFree l (⟨"com/example/ubique/ubique/Frame", "length", "()I"⟩ : MethodName) (head1 (Jvm.Cond.code (⟨"com/example/ubique/ubique/Frame", "length", "()I"⟩ : MethodName) prog_27_method_9_code 1 (some .int) :: ws) ({ frames := 0, cells := 0, slots := 0, locals := 0 } : Room)) (fun a U => a = #[(.ref r0)] ∧ Z.Warmed39 U.vm ∧ U.heap = h0) (fun _ _ _ _ _ => True) (fun _ U o U' => ∃ v L, o = .returned v ∧ Q5t Z r0 tk pl nb fb z h0 n0 v U'.heap L ∧ FrameEnd U o U' L ({ frames := 0, cells := 0, slots := 0, locals := 0 } : Room).cells ({ frames := 0, cells := 0, slots := 0, locals := 0 } : Room).slots) := by
  refine MetFree.of_bodySF (plainFor_of_name pn_5t) hisR ?_
  intro p e s m args below meth c s₁ Bd hml0 hP hK
  obtain ⟨rfl, hZ, hh⟩ := hP
  have hx := Bd.exec
  have hby := Bd.bytes
  have hml : c.maxLocals = 1 := hml0
  have hown : s.vm.findClass "com/example/ubique/ubique/Frame" = some m.cls := findClass_of_methodNamed Bd.named
  have hnm := (name_of_methodNamed Bd.named Bd.method).1
  have X0 : Stand p l e ({ frames := 0, cells := 0, slots := 0, locals := 0 } : Room) s m #[(.ref r0)] below meth c s₁ [] 0 0 := Stand.of_body Bd
  have e0 : s₁.heap = h0 := by rw [← hh, Bd.state]; rfl
  have N0 := Fr.nil n0
  refine Runs.enter (ef_5t m r0) ?_
  show Runs _ _ _ _ s₁ (mkF m 0 #[.val (.ref r0)] [])
  refine Runs.back (fun t k => XS.bipush X0.here hx rfl (hb hby d5_0) k) ?_
  show Runs _ _ _ _ s₁ (mkF m 2 #[.val (.ref r0)] [(.int (45 : Int32))])
  refine Runs.back (fun t k => XS.aloadN X0.here hx rfl (hb hby d5_2) rfl rfl k) ?_
  show Runs _ _ _ _ s₁ (mkF m 3 #[.val (.ref r0)] [(.ref r0), (.int (45 : Int32))])
  obtain ⟨T1, X1, e1, st1⟩ := getF X0 hx hZ hown (host := "") (Or.inl (hw _ (List.mem_of_getElem? (i := 36) rfl))) Via.refl e0 F1 (g := (mkF m 3 #[.val (.ref r0)] [(.ref r0), (.int (45 : Int32))])) rfl rfl (hb hby d5_3)
  refine Runs.back st1 ?_
  show Runs _ _ _ _ T1 (mkF m 6 #[.val (.ref r0)] [(.ref tk), (.int (45 : Int32))])
  refine Runs.back (fun t k => XS.ifnonnullYes X1.here hx rfl (pc0 := 6) (pc' := 13) rfl (hb hby d5_6) rfl (by decide) (by decide) k) ?_
  show Runs _ _ _ _ T1 (mkF m 13 #[.val (.ref r0)] [(.int (45 : Int32))])
  refine Runs.back (fun t k => XS.bipush X1.here hx rfl (hb hby d5_13) k) ?_
  show Runs _ _ _ _ T1 (mkF m 15 #[.val (.ref r0)] [(.int (32 : Int32)), (.int (45 : Int32))])
  refine Runs.back (fun t k => XS.iadd X1.here hx rfl (hb hby d5_15) rfl k) ?_
  show Runs _ _ _ _ T1 (mkF m 16 #[.val (.ref r0)] [(.int ((45 : Int32) + (32 : Int32)))])
  refine Runs.back (fun t k => XS.aloadN X1.here hx rfl (hb hby d5_16) rfl rfl k) ?_
  show Runs _ _ _ _ T1 (mkF m 17 #[.val (.ref r0)] [(.ref r0), (.int ((45 : Int32) + (32 : Int32)))])
  obtain ⟨T2, X2, e2, st2⟩ := getF X1 hx hZ hown (host := "") (Or.inl (hw _ (List.mem_of_getElem? (i := 38) rfl))) Via.refl e1 F2 (g := (mkF m 17 #[.val (.ref r0)] [(.ref r0), (.int ((45 : Int32) + (32 : Int32)))])) rfl rfl (hb hby d5_17)
  refine Runs.back st2 ?_
  show Runs _ _ _ _ T2 (mkF m 20 #[.val (.ref r0)] [(.ref pl), (.int ((45 : Int32) + (32 : Int32)))])
  obtain ⟨cl3, Ar3, S3, Hs3⟩ := id A1
  refine Runs.back (fun t k => X2.arraylength hx (by rw [e2]; exact Ar3.1) (State.isArrayOf_alike hZ.alike Ar3.2.1) (g := (mkF m 20 #[.val (.ref r0)] [(.ref pl), (.int ((45 : Int32) + (32 : Int32)))])) rfl rfl (hb hby d5_20) _ (by rw [S3, show (nb).toInt32 = z from hz]; exact k)) ?_
  show Runs _ _ _ _ T2 (mkF m 21 #[.val (.ref r0)] [(.int z), (.int ((45 : Int32) + (32 : Int32)))])
  refine Runs.back (fun t k => XS.iadd X2.here hx rfl (hb hby d5_21) rfl k) ?_
  show Runs _ _ _ _ T2 (mkF m 22 #[.val (.ref r0)] [(.int (((45 : Int32) + (32 : Int32)) + z))])
  obtain ⟨fs, hr, hrun, hended, hW, hsame⟩ := X2.leave (v := some (.int (((45 : Int32) + (32 : Int32)) + z))) (fun h => by rw [Bd.returns] at h; cases h)
  exact ⟨_, _, (retI X2 hx Bd.returns (hb hby d5_22) hr), hrun, hended, _, _, rfl, ⟨rfl, N0, e2⟩, ⟨_, rfl⟩, hW, hsame.mono (by decide) (by decide)⟩
theorem pn_0 : plainName "com/example/ubique/ubique/FrameLengthPinLaw" = true := by first | (simp [plainName, overriddenIn]; done) | decide +kernel
theorem pd0_0 : parseMethodDescriptor "(JJ)V" = some ⟨[.long, .long], none⟩ := by decide +kernel
theorem pd0_1 : parseMethodDescriptor "(IIILcom/example/ubique/ubique/ProcessId;Lcom/example/ubique/ubique/ProcessId;[B[B)V" = some ⟨[.int, .int, .int, (.object "com/example/ubique/ubique/ProcessId"), (.object "com/example/ubique/ubique/ProcessId"), (.array .byte), (.array .byte)], none⟩ := by decide +kernel
theorem pd0_2 : parseMethodDescriptor "()I" = some ⟨[], some .int⟩ := by decide +kernel
theorem ef_0 (m : MethodId) (p0 : Int32) (p1 : Int32) (p2 : Int32) (q3 : Int64) (p4 : Int32) (p5 : Int32) : entryFrame m #[(.int p0), (.int p1), (.int p2), (.long q3), (.int p4), (.int p5)] maxLocals = mkF m 0 #[.val (.int p0), .val (.int p1), .val (.int p2), .val (.long q3), .second, .val (.int p4), .val (.int p5), .unset, .unset, .unset, .unset, .unset, .unset, .unset, .unset] [] := by first | (simp [entryFrame, mkF, argsToLocals, Value.category, maxLocals]; done) | rfl
def Q0 (Z : State) (p0 : Int32) (p1 : Int32) (p2 : Int32) (q3 : Int64) (p4 : Int32) (p5 : Int32)  (h0 : Heap) (n0 : Nat) (v : Option Value) (h : Heap) (L : List Loc) : Prop := v = some (.int 1) ∧ Fr n0 L
set_option maxRecDepth 65536 in
set_option maxHeartbeats 40000000 in
theorem rm0 (l : Launch) (Z : State) (a0 : Array Value) (hw : ∀ d ∈ tables_1, d.before a0 Z = true) (ws : List Jvm.Cond) (p0 : Int32) (p1 : Int32) (p2 : Int32) (q3 : Int64) (p4 : Int32) (p5 : Int32)  (h0 : Heap) (n0 : Nat) (Z0 : n0 ≤ h0.size) :
    MetFree l x (head1 (Jvm.Cond.code x code maxLocals ret :: ws) room_1) (fun a U => a = #[(.int p0), (.int p1), (.int p2), (.long q3), (.int p4), (.int p5)] ∧ Z.Warmed39 U.vm ∧ U.heap = h0) (fun _ _ _ _ _ => True) (fun _ U o U' => ∃ v L, o = .returned v ∧ Q0 Z p0 p1 p2 q3 p4 p5 h0 n0 v U'.heap L ∧ FrameEnd U o U' L 24 192) := by
  refine MetFree.of_bodySF (plainFor_of_name pn_0) hisR ?_
  intro p e s m args below meth c s₁ Bd hml0 hP hK
  obtain ⟨rfl, hZ, hh⟩ := hP
  have hx := Bd.exec
  have hby := Bd.bytes
  have hml : c.maxLocals = 15 := hml0
  have hown : s.vm.findClass "com/example/ubique/ubique/FrameLengthPinLaw" = some m.cls := findClass_of_methodNamed Bd.named
  have hnm := (name_of_methodNamed Bd.named Bd.method).1
  have X0 : Stand p l e room_1 s m #[(.int p0), (.int p1), (.int p2), (.long q3), (.int p4), (.int p5)] below meth c s₁ [] 0 0 := Stand.of_body Bd
  have e0 : s₁.heap = h0 := by rw [← hh, Bd.state]; rfl
  have N0 := Fr.nil n0
  refine Runs.enter (ef_0 m p0 p1 p2 q3 p4 p5) ?_
  show Runs _ _ _ _ s₁ (mkF m 0 #[.val (.int p0), .val (.int p1), .val (.int p2), .val (.long q3), .second, .val (.int p4), .val (.int p5), .unset, .unset, .unset, .unset, .unset, .unset, .unset, .unset] [])
  refine Runs.back (fun t k => XS.iload X0.here hx rfl (hb hby at_0) rfl k) ?_
  show Runs _ _ _ _ s₁ (mkF m 2 #[.val (.int p0), .val (.int p1), .val (.int p2), .val (.long q3), .second, .val (.int p4), .val (.int p5), .unset, .unset, .unset, .unset, .unset, .unset, .unset, .unset] [(.int p4)])
  refine Runs.back (fun t k => XS.iconst X0.here hx rfl (hb hby at_2) k) ?_
  show Runs _ _ _ _ s₁ (mkF m 3 #[.val (.int p0), .val (.int p1), .val (.int p2), .val (.long q3), .second, .val (.int p4), .val (.int p5), .unset, .unset, .unset, .unset, .unset, .unset, .unset, .unset] [(.int (1 : Int32)), (.int p4)])
  refine Runs.back (fun t k => XS.iand X0.here hx rfl (hb hby at_3) rfl k) ?_
  show Runs _ _ _ _ s₁ (mkF m 4 #[.val (.int p0), .val (.int p1), .val (.int p2), .val (.long q3), .second, .val (.int p4), .val (.int p5), .unset, .unset, .unset, .unset, .unset, .unset, .unset, .unset] [(.int (p4 &&& (1 : Int32)))])
  by_cases c4_1 : (p4 &&& (1 : Int32)) = (0 : Int32)
  · refine Runs.back (fun t k => XS.ifYes X0.here hx rfl (pc0 := 4) (pc' := 11) rfl (hb hby at_4) rfl ((if0 _ _).trans (teq c4_1).1) (by decide) (by decide) k) ?_
    show Runs _ _ _ _ s₁ (mkF m 11 #[.val (.int p0), .val (.int p1), .val (.int p2), .val (.long q3), .second, .val (.int p4), .val (.int p5), .unset, .unset, .unset, .unset, .unset, .unset, .unset, .unset] [])
    refine Runs.back (fun t k => XS.iconst X0.here hx rfl (hb hby at_11) k) ?_
    show Runs _ _ _ _ s₁ (mkF m 12 #[.val (.int p0), .val (.int p1), .val (.int p2), .val (.long q3), .second, .val (.int p4), .val (.int p5), .unset, .unset, .unset, .unset, .unset, .unset, .unset, .unset] [(.int (0 : Int32))])
    refine Runs.back (fun t k => XS.istore X0.here hx rfl (hb hby at_12) rfl (l' := #[.val (.int p0), .val (.int p1), .val (.int p2), .val (.long q3), .second, .val (.int p4), .val (.int p5), .val (.int (0 : Int32)), .unset, .unset, .unset, .unset, .unset, .unset, .unset]) rfl k) ?_
    show Runs _ _ _ _ s₁ (mkF m 14 #[.val (.int p0), .val (.int p1), .val (.int p2), .val (.long q3), .second, .val (.int p4), .val (.int p5), .val (.int (0 : Int32)), .unset, .unset, .unset, .unset, .unset, .unset, .unset] [])
    refine Runs.back (fun t k => XS.iload X0.here hx rfl (hb hby at_14) rfl k) ?_
    show Runs _ _ _ _ s₁ (mkF m 16 #[.val (.int p0), .val (.int p1), .val (.int p2), .val (.long q3), .second, .val (.int p4), .val (.int p5), .val (.int (0 : Int32)), .unset, .unset, .unset, .unset, .unset, .unset, .unset] [(.int p5)])
    refine Runs.back (fun t k => XS.bipush X0.here hx rfl (hb hby at_16) k) ?_
    show Runs _ _ _ _ s₁ (mkF m 18 #[.val (.int p0), .val (.int p1), .val (.int p2), .val (.long q3), .second, .val (.int p4), .val (.int p5), .val (.int (0 : Int32)), .unset, .unset, .unset, .unset, .unset, .unset, .unset] [(.int (15 : Int32)), (.int p5)])
    refine Runs.back (fun t k => XS.iand X0.here hx rfl (hb hby at_18) rfl k) ?_
    show Runs _ _ _ _ s₁ (mkF m 19 #[.val (.int p0), .val (.int p1), .val (.int p2), .val (.long q3), .second, .val (.int p4), .val (.int p5), .val (.int (0 : Int32)), .unset, .unset, .unset, .unset, .unset, .unset, .unset] [(.int (p5 &&& (15 : Int32)))])
    refine Runs.back (fun t k => XS.istore X0.here hx rfl (hb hby at_19) rfl (l' := #[.val (.int p0), .val (.int p1), .val (.int p2), .val (.long q3), .second, .val (.int p4), .val (.int p5), .val (.int (0 : Int32)), .val (.int (p5 &&& (15 : Int32))), .unset, .unset, .unset, .unset, .unset, .unset]) rfl k) ?_
    show Runs _ _ _ _ s₁ (mkF m 21 #[.val (.int p0), .val (.int p1), .val (.int p2), .val (.long q3), .second, .val (.int p4), .val (.int p5), .val (.int (0 : Int32)), .val (.int (p5 &&& (15 : Int32))), .unset, .unset, .unset, .unset, .unset, .unset] [])
    generalize enN : (p5 &&& (15 : Int32)) = nN
    show Runs _ _ _ _ s₁ (mkF m 21 #[.val (.int p0), .val (.int p1), .val (.int p2), .val (.long q3), .second, .val (.int p4), .val (.int p5), .val (.int (0 : Int32)), .val (.int nN), .unset, .unset, .unset, .unset, .unset, .unset] [])
    have B_N : 0 ≤ nN.toInt ∧ nN.toInt < 16 := by rw [← enN, c_mask p5 _ 4 (by decide) (by decide)]; omega
    have hN0 : ¬ nN < (0 : Int32) := by rw [lti, z32]; omega
    have zN : nN.toNatClampNeg.toInt32 = nN := (back32 hN0).1
    have lN : nN.toNatClampNeg ≤ 15 := by have q := nat_of hN0; omega
    refine Runs.back (fun t k => XS.iload X0.here hx rfl (hb hby at_21) rfl k) ?_
    show Runs _ _ _ _ s₁ (mkF m 23 #[.val (.int p0), .val (.int p1), .val (.int p2), .val (.long q3), .second, .val (.int p4), .val (.int p5), .val (.int (0 : Int32)), .val (.int nN), .unset, .unset, .unset, .unset, .unset, .unset] [(.int nN)])
    obtain ⟨T2, h2, k2, X2, e2, E2, A2, st2⟩ := newP X0 hx hZ (hw _ (List.mem_of_getElem? (i := 0) rfl)) e0 (g := (mkF m 23 #[.val (.int p0), .val (.int p1), .val (.int p2), .val (.long q3), .second, .val (.int p4), .val (.int p5), .val (.int (0 : Int32)), .val (.int nN), .unset, .unset, .unset, .unset, .unset, .unset] [(.int nN)])) rfl (hb hby at_23) rfl hN0 (cap := 15) lN (by decide) (by decide) (by decide)
    obtain ⟨b2, g2⟩ : ∃ z, z = h0.size := ⟨_, rfl⟩
    rw [← g2] at A2 st2
    have g_b2 : n0 ≤ b2 := Nat.le_trans (Z0) (Nat.le_of_eq g2.symm)
    have Z2 : n0 ≤ h2.size := Nat.le_trans (Z0) E2.1
    have V2 : OArr Z h2 b2 .byte nN.toNatClampNeg (fun _ => (.int (0 : Int32))) := OArr.new A2 (by rfl) rfl
    refine Runs.back st2 ?_
    show Runs _ _ _ _ T2 (mkF m 25 #[.val (.int p0), .val (.int p1), .val (.int p2), .val (.long q3), .second, .val (.int p4), .val (.int p5), .val (.int (0 : Int32)), .val (.int nN), .unset, .unset, .unset, .unset, .unset, .unset] [(.ref b2)])
    refine Runs.back (fun t k => XS.astore X2.here hx rfl (hb hby at_25) rfl rfl (l' := #[.val (.int p0), .val (.int p1), .val (.int p2), .val (.long q3), .second, .val (.int p4), .val (.int p5), .val (.int (0 : Int32)), .val (.int nN), .val (.ref b2), .unset, .unset, .unset, .unset, .unset]) rfl k) ?_
    show Runs _ _ _ _ T2 (mkF m 27 #[.val (.int p0), .val (.int p1), .val (.int p2), .val (.long q3), .second, .val (.int p4), .val (.int p5), .val (.int (0 : Int32)), .val (.int nN), .val (.ref b2), .unset, .unset, .unset, .unset, .unset] [])
    refine Runs.back (fun t k => XS.iload X2.here hx rfl (hb hby at_27) rfl k) ?_
    show Runs _ _ _ _ T2 (mkF m 29 #[.val (.int p0), .val (.int p1), .val (.int p2), .val (.long q3), .second, .val (.int p4), .val (.int p5), .val (.int (0 : Int32)), .val (.int nN), .val (.ref b2), .unset, .unset, .unset, .unset, .unset] [(.int (0 : Int32))])
    refine Runs.back (fun t k => XS.ifYes X2.here hx rfl (pc0 := 29) (pc' := 39) rfl (hb hby at_29) rfl ((if0 _ _).trans (teq (show (0 : Int32) = (0 : Int32) from rfl)).1) (by decide) (by decide) k) ?_
    show Runs _ _ _ _ T2 (mkF m 39 #[.val (.int p0), .val (.int p1), .val (.int p2), .val (.long q3), .second, .val (.int p4), .val (.int p5), .val (.int (0 : Int32)), .val (.int nN), .val (.ref b2), .unset, .unset, .unset, .unset, .unset] [])
    refine Runs.back (fun t k => XS.aconstNull X2.here hx rfl (hb hby at_39) k) ?_
    show Runs _ _ _ _ T2 (mkF m 40 #[.val (.int p0), .val (.int p1), .val (.int p2), .val (.long q3), .second, .val (.int p4), .val (.int p5), .val (.int (0 : Int32)), .val (.int nN), .val (.ref b2), .unset, .unset, .unset, .unset, .unset] [.null])
    refine Runs.back (fun t k => XS.astore X2.here hx rfl (hb hby at_40) rfl rfl (l' := #[.val (.int p0), .val (.int p1), .val (.int p2), .val (.long q3), .second, .val (.int p4), .val (.int p5), .val (.int (0 : Int32)), .val (.int nN), .val (.ref b2), .val .null, .unset, .unset, .unset, .unset]) rfl k) ?_
    show Runs _ _ _ _ T2 (mkF m 42 #[.val (.int p0), .val (.int p1), .val (.int p2), .val (.long q3), .second, .val (.int p4), .val (.int p5), .val (.int (0 : Int32)), .val (.int nN), .val (.ref b2), .val .null, .unset, .unset, .unset, .unset] [])
    obtain ⟨T3, h3, X3, e3, E3, A3, D3, -, st3⟩ := newO X2 hx hZ hown (hw _ (List.mem_of_getElem? (i := 1) rfl)) (hw _ (List.mem_of_getElem? (i := 2) rfl)) (hw _ (List.mem_of_getElem? (i := 3) rfl)) e2 (g := (mkF m 42 #[.val (.int p0), .val (.int p1), .val (.int p2), .val (.long q3), .second, .val (.int p4), .val (.int p5), .val (.int (0 : Int32)), .val (.int nN), .val (.ref b2), .val .null, .unset, .unset, .unset, .unset] [])) rfl (hb hby at_42) (by decide) (by decide)
    obtain ⟨b3, g3⟩ : ∃ z, z = h2.size := ⟨_, rfl⟩
    rw [← g3] at A3 D3 st3
    have g_b3 : n0 ≤ b3 := Nat.le_trans (Z2) (Nat.le_of_eq g3.symm)
    have ne_b2_b3 : b2 ≠ b3 := Nat.ne_of_lt (Nat.lt_of_lt_of_le V2.lt (Nat.le_of_eq g3.symm))
    have f3_Arr_0 : OArr Z h3 b2 .byte nN.toNatClampNeg (fun _ => (.int (0 : Int32))) := V2.ext E3
    have Z3 : n0 ≤ h3.size := Nat.le_trans (Z2) E3.1
    have F3_16 : Fld Z h3 b3 "com/example/ubique/ubique/ProcessId" "node" "J" (.long (0 : Int64)) := D3 (Or.inr (hw _ (List.mem_of_getElem? (i := 16) rfl))) (ty := .long) (by decide)
    have F3_18 : Fld Z h3 b3 "com/example/ubique/ubique/ProcessId" "process" "J" (.long (0 : Int64)) := D3 (Or.inr (hw _ (List.mem_of_getElem? (i := 18) rfl))) (ty := .long) (by decide)
    refine Runs.back st3 ?_
    show Runs _ _ _ _ T3 (mkF m 45 #[.val (.int p0), .val (.int p1), .val (.int p2), .val (.long q3), .second, .val (.int p4), .val (.int p5), .val (.int (0 : Int32)), .val (.int nN), .val (.ref b2), .val .null, .unset, .unset, .unset, .unset] [(.ref b3)])
    refine Runs.back (fun t k => XS.dup X3.here hx rfl (hb hby at_45) rfl rfl k) ?_
    show Runs _ _ _ _ T3 (mkF m 46 #[.val (.int p0), .val (.int p1), .val (.int p2), .val (.long q3), .second, .val (.int p4), .val (.int p5), .val (.int (0 : Int32)), .val (.int nN), .val (.ref b2), .val .null, .unset, .unset, .unset, .unset] [(.ref b3), (.ref b3)])
    refine Runs.back (fun t k => XS.lloadN X3.here hx rfl (hb hby at_46) rfl k) ?_
    show Runs _ _ _ _ T3 (mkF m 47 #[.val (.int p0), .val (.int p1), .val (.int p2), .val (.long q3), .second, .val (.int p4), .val (.int p5), .val (.int (0 : Int32)), .val (.int nN), .val (.ref b2), .val .null, .unset, .unset, .unset, .unset] [(.long q3), (.ref b3), (.ref b3)])
    refine Runs.back (fun t k => XS.iload X3.here hx rfl (hb hby at_47) rfl k) ?_
    show Runs _ _ _ _ T3 (mkF m 49 #[.val (.int p0), .val (.int p1), .val (.int p2), .val (.long q3), .second, .val (.int p4), .val (.int p5), .val (.int (0 : Int32)), .val (.int nN), .val (.ref b2), .val .null, .unset, .unset, .unset, .unset] [(.int p4), (.long q3), (.ref b3), (.ref b3)])
    refine Runs.back (fun t k => XS.i2l X3.here hx rfl (hb hby at_49) rfl k) ?_
    show Runs _ _ _ _ T3 (mkF m 50 #[.val (.int p0), .val (.int p1), .val (.int p2), .val (.long q3), .second, .val (.int p4), .val (.int p5), .val (.int (0 : Int32)), .val (.int nN), .val (.ref b2), .val .null, .unset, .unset, .unset, .unset] [(.long (p4.toInt64)), (.long q3), (.ref b3), (.ref b3)])
    obtain ⟨_, _, ⟨T4, L4, k4, n4⟩, -, X4, ⟨Lc4, hQ4, l4, y4, z4⟩, st4⟩ := X3.specialBack hx (y := (⟨"com/example/ubique/ubique/ProcessId", "<init>", "(JJ)V"⟩ : MethodName)) rfl hown (mvT hZ (hw _ (List.mem_of_getElem? (i := 4) rfl))) (mvT hZ (hw _ (List.mem_of_getElem? (i := 5) rfl))) (mvT hZ (hw _ (List.mem_of_getElem? (i := 6) rfl))) (by decide) (backOf (W := 1) (rm1 l Z a0 hw [] b3 q3 (p4.toInt64) _ _ h3 n0 (Z3) A3 F3_16 F3_18 g_b3) hZ (hw _ (List.mem_of_getElem? (i := 6) rfl)) (hw _ (List.mem_of_getElem? (i := 3) rfl)) (by decide) (by decide)) (g := (mkF m 50 #[.val (.int p0), .val (.int p1), .val (.int p2), .val (.long q3), .second, .val (.int p4), .val (.int p5), .val (.int (0 : Int32)), .val (.int nN), .val (.ref b2), .val .null, .unset, .unset, .unset, .unset] [(.long (p4.toInt64)), (.long q3), (.ref b3), (.ref b3)])) rfl (by rw [hml]; rfl) (Steps.refl _) (a := b3) (argsL := [(.long q3), (.long (p4.toInt64))]) (rest := [(.ref b3)]) (lenOf pd0_0 rfl) rfl (by show 2 * 0 + _ ≤ _; exact Nat.le_of_eq rfl) (hb hby at_50) (fun _ _ => ⟨rfl, e3, (by decide : 2 + 0 ≤ _), (by decide : 17 + 0 ≤ _)⟩)
    dsimp only [Pt.U, Pt.locs, Pt.cells, Pt.slots] at X4 l4 y4 z4 st4 hQ4
    subst l4 y4 z4
    obtain ⟨rfl, N4q, K4⟩ := hQ4
    have N4 := Fr.app N0 N4q
    have f4_Arr_0 : OArr Z T4.heap b2 .byte nN.toNatClampNeg (fun _ => (.int (0 : Int32))) := f3_Arr_0.keep K4 (ninS ne_b2_b3 nin0)
    have f4_Exa_1 : Exa Z T4.heap b3 "com/example/ubique/ubique/ProcessId" := A3.keep K4
    have Z4 : n0 ≤ T4.heap.size := Nat.le_trans (Z3) K4.1
    refine Runs.trans st4 ?_
    show Runs _ _ _ _ T4 (mkF m 53 #[.val (.int p0), .val (.int p1), .val (.int p2), .val (.long q3), .second, .val (.int p4), .val (.int p5), .val (.int (0 : Int32)), .val (.int nN), .val (.ref b2), .val .null, .unset, .unset, .unset, .unset] [(.ref b3)])
    refine Runs.back (fun t k => XS.astore X4.here hx rfl (hb hby at_53) rfl rfl (l' := #[.val (.int p0), .val (.int p1), .val (.int p2), .val (.long q3), .second, .val (.int p4), .val (.int p5), .val (.int (0 : Int32)), .val (.int nN), .val (.ref b2), .val .null, .val (.ref b3), .unset, .unset, .unset]) rfl k) ?_
    show Runs _ _ _ _ T4 (mkF m 55 #[.val (.int p0), .val (.int p1), .val (.int p2), .val (.long q3), .second, .val (.int p4), .val (.int p5), .val (.int (0 : Int32)), .val (.int nN), .val (.ref b2), .val .null, .val (.ref b3), .unset, .unset, .unset] [])
    obtain ⟨T5, h5, X5, e5, E5, A5, D5, -, st5⟩ := newO X4 hx hZ hown (hw _ (List.mem_of_getElem? (i := 1) rfl)) (hw _ (List.mem_of_getElem? (i := 2) rfl)) (hw _ (List.mem_of_getElem? (i := 3) rfl)) rfl (g := (mkF m 55 #[.val (.int p0), .val (.int p1), .val (.int p2), .val (.long q3), .second, .val (.int p4), .val (.int p5), .val (.int (0 : Int32)), .val (.int nN), .val (.ref b2), .val .null, .val (.ref b3), .unset, .unset, .unset] [])) rfl (hb hby at_55) (by decide) (by decide)
    obtain ⟨b5, g5⟩ : ∃ z, z = T4.heap.size := ⟨_, rfl⟩
    rw [← g5] at A5 D5 st5
    have g_b5 : n0 ≤ b5 := Nat.le_trans (Z4) (Nat.le_of_eq g5.symm)
    have ne_b2_b5 : b2 ≠ b5 := Nat.ne_of_lt (Nat.lt_of_lt_of_le f4_Arr_0.lt (Nat.le_of_eq g5.symm))
    have ne_b3_b5 : b3 ≠ b5 := Nat.ne_of_lt (Nat.lt_of_lt_of_le f4_Exa_1.lt (Nat.le_of_eq g5.symm))
    have f5_Arr_0 : OArr Z h5 b2 .byte nN.toNatClampNeg (fun _ => (.int (0 : Int32))) := f4_Arr_0.ext E5
    have f5_Exa_1 : Exa Z h5 b3 "com/example/ubique/ubique/ProcessId" := Exa.ext E5 f4_Exa_1
    have Z5 : n0 ≤ h5.size := Nat.le_trans (Z4) E5.1
    have F5_16 : Fld Z h5 b5 "com/example/ubique/ubique/ProcessId" "node" "J" (.long (0 : Int64)) := D5 (Or.inr (hw _ (List.mem_of_getElem? (i := 16) rfl))) (ty := .long) (by decide)
    have F5_18 : Fld Z h5 b5 "com/example/ubique/ubique/ProcessId" "process" "J" (.long (0 : Int64)) := D5 (Or.inr (hw _ (List.mem_of_getElem? (i := 18) rfl))) (ty := .long) (by decide)
    refine Runs.back st5 ?_
    show Runs _ _ _ _ T5 (mkF m 58 #[.val (.int p0), .val (.int p1), .val (.int p2), .val (.long q3), .second, .val (.int p4), .val (.int p5), .val (.int (0 : Int32)), .val (.int nN), .val (.ref b2), .val .null, .val (.ref b3), .unset, .unset, .unset] [(.ref b5)])
    refine Runs.back (fun t k => XS.dup X5.here hx rfl (hb hby at_58) rfl rfl k) ?_
    show Runs _ _ _ _ T5 (mkF m 59 #[.val (.int p0), .val (.int p1), .val (.int p2), .val (.long q3), .second, .val (.int p4), .val (.int p5), .val (.int (0 : Int32)), .val (.int nN), .val (.ref b2), .val .null, .val (.ref b3), .unset, .unset, .unset] [(.ref b5), (.ref b5)])
    refine Runs.back (fun t k => XS.iload X5.here hx rfl (hb hby at_59) rfl k) ?_
    show Runs _ _ _ _ T5 (mkF m 61 #[.val (.int p0), .val (.int p1), .val (.int p2), .val (.long q3), .second, .val (.int p4), .val (.int p5), .val (.int (0 : Int32)), .val (.int nN), .val (.ref b2), .val .null, .val (.ref b3), .unset, .unset, .unset] [(.int p4), (.ref b5), (.ref b5)])
    refine Runs.back (fun t k => XS.i2l X5.here hx rfl (hb hby at_61) rfl k) ?_
    show Runs _ _ _ _ T5 (mkF m 62 #[.val (.int p0), .val (.int p1), .val (.int p2), .val (.long q3), .second, .val (.int p4), .val (.int p5), .val (.int (0 : Int32)), .val (.int nN), .val (.ref b2), .val .null, .val (.ref b3), .unset, .unset, .unset] [(.long (p4.toInt64)), (.ref b5), (.ref b5)])
    refine Runs.back (fun t k => XS.lloadN X5.here hx rfl (hb hby at_62) rfl k) ?_
    show Runs _ _ _ _ T5 (mkF m 63 #[.val (.int p0), .val (.int p1), .val (.int p2), .val (.long q3), .second, .val (.int p4), .val (.int p5), .val (.int (0 : Int32)), .val (.int nN), .val (.ref b2), .val .null, .val (.ref b3), .unset, .unset, .unset] [(.long q3), (.long (p4.toInt64)), (.ref b5), (.ref b5)])
    obtain ⟨_, _, ⟨T6, L6, k6, n6⟩, -, X6, ⟨Lc6, hQ6, l6, y6, z6⟩, st6⟩ := X5.specialBack hx (y := (⟨"com/example/ubique/ubique/ProcessId", "<init>", "(JJ)V"⟩ : MethodName)) rfl hown (mvT hZ (hw _ (List.mem_of_getElem? (i := 4) rfl))) (mvT hZ (hw _ (List.mem_of_getElem? (i := 5) rfl))) (mvT hZ (hw _ (List.mem_of_getElem? (i := 6) rfl))) (by decide) (backOf (W := 1) (rm1 l Z a0 hw [] b5 (p4.toInt64) q3 _ _ h5 n0 (Z5) A5 F5_16 F5_18 g_b5) hZ (hw _ (List.mem_of_getElem? (i := 6) rfl)) (hw _ (List.mem_of_getElem? (i := 3) rfl)) (by decide) (by decide)) (g := (mkF m 63 #[.val (.int p0), .val (.int p1), .val (.int p2), .val (.long q3), .second, .val (.int p4), .val (.int p5), .val (.int (0 : Int32)), .val (.int nN), .val (.ref b2), .val .null, .val (.ref b3), .unset, .unset, .unset] [(.long q3), (.long (p4.toInt64)), (.ref b5), (.ref b5)])) rfl (by rw [hml]; rfl) (Steps.refl _) (a := b5) (argsL := [(.long (p4.toInt64)), (.long q3)]) (rest := [(.ref b5)]) (lenOf pd0_0 rfl) rfl (by show 2 * 0 + _ ≤ _; exact Nat.le_of_eq rfl) (hb hby at_63) (fun _ _ => ⟨rfl, e5, (by decide : 3 + 0 ≤ _), (by decide : 19 + 0 ≤ _)⟩)
    dsimp only [Pt.U, Pt.locs, Pt.cells, Pt.slots] at X6 l6 y6 z6 st6 hQ6
    subst l6 y6 z6
    obtain ⟨rfl, N6q, K6⟩ := hQ6
    have N6 := Fr.app N4 N6q
    have f6_Arr_0 : OArr Z T6.heap b2 .byte nN.toNatClampNeg (fun _ => (.int (0 : Int32))) := f5_Arr_0.keep K6 (ninS ne_b2_b5 nin0)
    have f6_Exa_1 : Exa Z T6.heap b3 "com/example/ubique/ubique/ProcessId" := f5_Exa_1.keep K6
    have f6_Exa_2 : Exa Z T6.heap b5 "com/example/ubique/ubique/ProcessId" := A5.keep K6
    have Z6 : n0 ≤ T6.heap.size := Nat.le_trans (Z5) K6.1
    refine Runs.trans st6 ?_
    show Runs _ _ _ _ T6 (mkF m 66 #[.val (.int p0), .val (.int p1), .val (.int p2), .val (.long q3), .second, .val (.int p4), .val (.int p5), .val (.int (0 : Int32)), .val (.int nN), .val (.ref b2), .val .null, .val (.ref b3), .unset, .unset, .unset] [(.ref b5)])
    refine Runs.back (fun t k => XS.astore X6.here hx rfl (hb hby at_66) rfl rfl (l' := #[.val (.int p0), .val (.int p1), .val (.int p2), .val (.long q3), .second, .val (.int p4), .val (.int p5), .val (.int (0 : Int32)), .val (.int nN), .val (.ref b2), .val .null, .val (.ref b3), .val (.ref b5), .unset, .unset]) rfl k) ?_
    show Runs _ _ _ _ T6 (mkF m 68 #[.val (.int p0), .val (.int p1), .val (.int p2), .val (.long q3), .second, .val (.int p4), .val (.int p5), .val (.int (0 : Int32)), .val (.int nN), .val (.ref b2), .val .null, .val (.ref b3), .val (.ref b5), .unset, .unset] [])
    obtain ⟨T7, h7, X7, e7, E7, A7, D7, -, st7⟩ := newO X6 hx hZ hown (hw _ (List.mem_of_getElem? (i := 19) rfl)) (hw _ (List.mem_of_getElem? (i := 20) rfl)) (hw _ (List.mem_of_getElem? (i := 21) rfl)) rfl (g := (mkF m 68 #[.val (.int p0), .val (.int p1), .val (.int p2), .val (.long q3), .second, .val (.int p4), .val (.int p5), .val (.int (0 : Int32)), .val (.int nN), .val (.ref b2), .val .null, .val (.ref b3), .val (.ref b5), .unset, .unset] [])) rfl (hb hby at_68) (by decide) (by decide)
    obtain ⟨b7, g7⟩ : ∃ z, z = T6.heap.size := ⟨_, rfl⟩
    rw [← g7] at A7 D7 st7
    have g_b7 : n0 ≤ b7 := Nat.le_trans (Z6) (Nat.le_of_eq g7.symm)
    have ne_b2_b7 : b2 ≠ b7 := Nat.ne_of_lt (Nat.lt_of_lt_of_le f6_Arr_0.lt (Nat.le_of_eq g7.symm))
    have ne_b3_b7 : b3 ≠ b7 := Nat.ne_of_lt (Nat.lt_of_lt_of_le f6_Exa_1.lt (Nat.le_of_eq g7.symm))
    have ne_b5_b7 : b5 ≠ b7 := Nat.ne_of_lt (Nat.lt_of_lt_of_le f6_Exa_2.lt (Nat.le_of_eq g7.symm))
    have f7_Arr_0 : OArr Z h7 b2 .byte nN.toNatClampNeg (fun _ => (.int (0 : Int32))) := f6_Arr_0.ext E7
    have f7_Exa_1 : Exa Z h7 b3 "com/example/ubique/ubique/ProcessId" := Exa.ext E7 f6_Exa_1
    have f7_Exa_2 : Exa Z h7 b5 "com/example/ubique/ubique/ProcessId" := Exa.ext E7 f6_Exa_2
    have Z7 : n0 ≤ h7.size := Nat.le_trans (Z6) E7.1
    have F7_27 : Fld Z h7 b7 "com/example/ubique/ubique/Frame" "flags" "I" (.int (0 : Int32)) := D7 (Or.inr (hw _ (List.mem_of_getElem? (i := 27) rfl))) (ty := .int) (by decide)
    have F7_29 : Fld Z h7 b7 "com/example/ubique/ubique/Frame" "type" "I" (.int (0 : Int32)) := D7 (Or.inr (hw _ (List.mem_of_getElem? (i := 29) rfl))) (ty := .int) (by decide)
    have F7_31 : Fld Z h7 b7 "com/example/ubique/ubique/Frame" "version" "I" (.int (0 : Int32)) := D7 (Or.inr (hw _ (List.mem_of_getElem? (i := 31) rfl))) (ty := .int) (by decide)
    have F7_33 : Fld Z h7 b7 "com/example/ubique/ubique/Frame" "source" "Lcom/example/ubique/ubique/ProcessId;" .null := D7 (Or.inr (hw _ (List.mem_of_getElem? (i := 33) rfl))) (ty := (.object "com/example/ubique/ubique/ProcessId")) (by decide)
    have F7_35 : Fld Z h7 b7 "com/example/ubique/ubique/Frame" "destination" "Lcom/example/ubique/ubique/ProcessId;" .null := D7 (Or.inr (hw _ (List.mem_of_getElem? (i := 35) rfl))) (ty := (.object "com/example/ubique/ubique/ProcessId")) (by decide)
    have F7_37 : Fld Z h7 b7 "com/example/ubique/ubique/Frame" "token" "[B" .null := D7 (Or.inr (hw _ (List.mem_of_getElem? (i := 37) rfl))) (ty := (.array .byte)) (by decide)
    have F7_39 : Fld Z h7 b7 "com/example/ubique/ubique/Frame" "payload" "[B" .null := D7 (Or.inr (hw _ (List.mem_of_getElem? (i := 39) rfl))) (ty := (.array .byte)) (by decide)
    refine Runs.back st7 ?_
    show Runs _ _ _ _ T7 (mkF m 71 #[.val (.int p0), .val (.int p1), .val (.int p2), .val (.long q3), .second, .val (.int p4), .val (.int p5), .val (.int (0 : Int32)), .val (.int nN), .val (.ref b2), .val .null, .val (.ref b3), .val (.ref b5), .unset, .unset] [(.ref b7)])
    refine Runs.back (fun t k => XS.dup X7.here hx rfl (hb hby at_71) rfl rfl k) ?_
    show Runs _ _ _ _ T7 (mkF m 72 #[.val (.int p0), .val (.int p1), .val (.int p2), .val (.long q3), .second, .val (.int p4), .val (.int p5), .val (.int (0 : Int32)), .val (.int nN), .val (.ref b2), .val .null, .val (.ref b3), .val (.ref b5), .unset, .unset] [(.ref b7), (.ref b7)])
    refine Runs.back (fun t k => XS.iloadN X7.here hx rfl (hb hby at_72) rfl k) ?_
    show Runs _ _ _ _ T7 (mkF m 73 #[.val (.int p0), .val (.int p1), .val (.int p2), .val (.long q3), .second, .val (.int p4), .val (.int p5), .val (.int (0 : Int32)), .val (.int nN), .val (.ref b2), .val .null, .val (.ref b3), .val (.ref b5), .unset, .unset] [(.int p0), (.ref b7), (.ref b7)])
    refine Runs.back (fun t k => XS.iloadN X7.here hx rfl (hb hby at_73) rfl k) ?_
    show Runs _ _ _ _ T7 (mkF m 74 #[.val (.int p0), .val (.int p1), .val (.int p2), .val (.long q3), .second, .val (.int p4), .val (.int p5), .val (.int (0 : Int32)), .val (.int nN), .val (.ref b2), .val .null, .val (.ref b3), .val (.ref b5), .unset, .unset] [(.int p1), (.int p0), (.ref b7), (.ref b7)])
    refine Runs.back (fun t k => XS.iloadN X7.here hx rfl (hb hby at_74) rfl k) ?_
    show Runs _ _ _ _ T7 (mkF m 75 #[.val (.int p0), .val (.int p1), .val (.int p2), .val (.long q3), .second, .val (.int p4), .val (.int p5), .val (.int (0 : Int32)), .val (.int nN), .val (.ref b2), .val .null, .val (.ref b3), .val (.ref b5), .unset, .unset] [(.int p2), (.int p1), (.int p0), (.ref b7), (.ref b7)])
    refine Runs.back (fun t k => XS.aload X7.here hx rfl (hb hby at_75) rfl rfl k) ?_
    show Runs _ _ _ _ T7 (mkF m 77 #[.val (.int p0), .val (.int p1), .val (.int p2), .val (.long q3), .second, .val (.int p4), .val (.int p5), .val (.int (0 : Int32)), .val (.int nN), .val (.ref b2), .val .null, .val (.ref b3), .val (.ref b5), .unset, .unset] [(.ref b3), (.int p2), (.int p1), (.int p0), (.ref b7), (.ref b7)])
    refine Runs.back (fun t k => XS.aload X7.here hx rfl (hb hby at_77) rfl rfl k) ?_
    show Runs _ _ _ _ T7 (mkF m 79 #[.val (.int p0), .val (.int p1), .val (.int p2), .val (.long q3), .second, .val (.int p4), .val (.int p5), .val (.int (0 : Int32)), .val (.int nN), .val (.ref b2), .val .null, .val (.ref b3), .val (.ref b5), .unset, .unset] [(.ref b5), (.ref b3), (.int p2), (.int p1), (.int p0), (.ref b7), (.ref b7)])
    refine Runs.back (fun t k => XS.aload X7.here hx rfl (hb hby at_79) rfl rfl k) ?_
    show Runs _ _ _ _ T7 (mkF m 81 #[.val (.int p0), .val (.int p1), .val (.int p2), .val (.long q3), .second, .val (.int p4), .val (.int p5), .val (.int (0 : Int32)), .val (.int nN), .val (.ref b2), .val .null, .val (.ref b3), .val (.ref b5), .unset, .unset] [.null, (.ref b5), (.ref b3), (.int p2), (.int p1), (.int p0), (.ref b7), (.ref b7)])
    refine Runs.back (fun t k => XS.aload X7.here hx rfl (hb hby at_81) rfl rfl k) ?_
    show Runs _ _ _ _ T7 (mkF m 83 #[.val (.int p0), .val (.int p1), .val (.int p2), .val (.long q3), .second, .val (.int p4), .val (.int p5), .val (.int (0 : Int32)), .val (.int nN), .val (.ref b2), .val .null, .val (.ref b3), .val (.ref b5), .unset, .unset] [(.ref b2), .null, (.ref b5), (.ref b3), (.int p2), (.int p1), (.int p0), (.ref b7), (.ref b7)])
    obtain ⟨_, _, ⟨T8, L8, k8, n8⟩, -, X8, ⟨Lc8, hQ8, l8, y8, z8⟩, st8⟩ := X7.specialBack hx (y := (⟨"com/example/ubique/ubique/Frame", "<init>", "(IIILcom/example/ubique/ubique/ProcessId;Lcom/example/ubique/ubique/ProcessId;[B[B)V"⟩ : MethodName)) rfl hown (mvT hZ (hw _ (List.mem_of_getElem? (i := 22) rfl))) (mvT hZ (hw _ (List.mem_of_getElem? (i := 23) rfl))) (mvT hZ (hw _ (List.mem_of_getElem? (i := 24) rfl))) (by decide) (backOf (W := 1) (rm4n l Z a0 hw [] b7 p0 p1 p2 b3 b5 b2 _ _ _ _ _ _ _ h7 n0 (Z7) A7 F7_27 F7_29 F7_31 F7_33 F7_35 F7_37 F7_39 g_b7) hZ (hw _ (List.mem_of_getElem? (i := 24) rfl)) (hw _ (List.mem_of_getElem? (i := 21) rfl)) (by decide) (by decide)) (g := (mkF m 83 #[.val (.int p0), .val (.int p1), .val (.int p2), .val (.long q3), .second, .val (.int p4), .val (.int p5), .val (.int (0 : Int32)), .val (.int nN), .val (.ref b2), .val .null, .val (.ref b3), .val (.ref b5), .unset, .unset] [(.ref b2), .null, (.ref b5), (.ref b3), (.int p2), (.int p1), (.int p0), (.ref b7), (.ref b7)])) rfl (by rw [hml]; rfl) (Steps.refl _) (a := b7) (argsL := [(.int p0), (.int p1), (.int p2), (.ref b3), (.ref b5), .null, (.ref b2)]) (rest := [(.ref b7)]) (lenOf pd0_1 rfl) rfl (by show 2 * 0 + _ ≤ _; exact Nat.le_of_eq rfl) (hb hby at_83) (fun _ _ => ⟨rfl, e7, (by decide : 4 + 0 ≤ _), (by decide : 26 + 0 ≤ _)⟩)
    dsimp only [Pt.U, Pt.locs, Pt.cells, Pt.slots] at X8 l8 y8 z8 st8 hQ8
    subst l8 y8 z8
    obtain ⟨rfl, N8q, K8, fE8, fT8, fP8⟩ := hQ8
    have N8 := Fr.app N6 N8q
    have f8_Arr_0 : OArr Z T8.heap b2 .byte nN.toNatClampNeg (fun _ => (.int (0 : Int32))) := f7_Arr_0.keep K8 (ninS ne_b2_b7 nin0)
    have f8_Exa_1 : Exa Z T8.heap b3 "com/example/ubique/ubique/ProcessId" := f7_Exa_1.keep K8
    have f8_Exa_2 : Exa Z T8.heap b5 "com/example/ubique/ubique/ProcessId" := f7_Exa_2.keep K8
    have f8_Exa_3 : Exa Z T8.heap b7 "com/example/ubique/ubique/Frame" := A7.keep K8
    have Z8 : n0 ≤ T8.heap.size := Nat.le_trans (Z7) K8.1
    refine Runs.trans st8 ?_
    show Runs _ _ _ _ T8 (mkF m 86 #[.val (.int p0), .val (.int p1), .val (.int p2), .val (.long q3), .second, .val (.int p4), .val (.int p5), .val (.int (0 : Int32)), .val (.int nN), .val (.ref b2), .val .null, .val (.ref b3), .val (.ref b5), .unset, .unset] [(.ref b7)])
    refine Runs.back (fun t k => XS.astore X8.here hx rfl (hb hby at_86) rfl rfl (l' := #[.val (.int p0), .val (.int p1), .val (.int p2), .val (.long q3), .second, .val (.int p4), .val (.int p5), .val (.int (0 : Int32)), .val (.int nN), .val (.ref b2), .val .null, .val (.ref b3), .val (.ref b5), .val (.ref b7), .unset]) rfl k) ?_
    show Runs _ _ _ _ T8 (mkF m 88 #[.val (.int p0), .val (.int p1), .val (.int p2), .val (.long q3), .second, .val (.int p4), .val (.int p5), .val (.int (0 : Int32)), .val (.int nN), .val (.ref b2), .val .null, .val (.ref b3), .val (.ref b5), .val (.ref b7), .unset] [])
    refine Runs.back (fun t k => XS.iload X8.here hx rfl (hb hby at_88) rfl k) ?_
    show Runs _ _ _ _ T8 (mkF m 90 #[.val (.int p0), .val (.int p1), .val (.int p2), .val (.long q3), .second, .val (.int p4), .val (.int p5), .val (.int (0 : Int32)), .val (.int nN), .val (.ref b2), .val .null, .val (.ref b3), .val (.ref b5), .val (.ref b7), .unset] [(.int (0 : Int32))])
    refine Runs.back (fun t k => XS.ifYes X8.here hx rfl (pc0 := 90) (pc' := 101) rfl (hb hby at_90) rfl ((if0 _ _).trans (teq (show (0 : Int32) = (0 : Int32) from rfl)).1) (by decide) (by decide) k) ?_
    show Runs _ _ _ _ T8 (mkF m 101 #[.val (.int p0), .val (.int p1), .val (.int p2), .val (.long q3), .second, .val (.int p4), .val (.int p5), .val (.int (0 : Int32)), .val (.int nN), .val (.ref b2), .val .null, .val (.ref b3), .val (.ref b5), .val (.ref b7), .unset] [])
    refine Runs.back (fun t k => XS.bipush X8.here hx rfl (hb hby at_101) k) ?_
    show Runs _ _ _ _ T8 (mkF m 103 #[.val (.int p0), .val (.int p1), .val (.int p2), .val (.long q3), .second, .val (.int p4), .val (.int p5), .val (.int (0 : Int32)), .val (.int nN), .val (.ref b2), .val .null, .val (.ref b3), .val (.ref b5), .val (.ref b7), .unset] [(.int (45 : Int32))])
    refine Runs.back (fun t k => XS.iload X8.here hx rfl (hb hby at_103) rfl k) ?_
    show Runs _ _ _ _ T8 (mkF m 105 #[.val (.int p0), .val (.int p1), .val (.int p2), .val (.long q3), .second, .val (.int p4), .val (.int p5), .val (.int (0 : Int32)), .val (.int nN), .val (.ref b2), .val .null, .val (.ref b3), .val (.ref b5), .val (.ref b7), .unset] [(.int nN), (.int (45 : Int32))])
    refine Runs.back (fun t k => XS.iadd X8.here hx rfl (hb hby at_105) rfl k) ?_
    show Runs _ _ _ _ T8 (mkF m 106 #[.val (.int p0), .val (.int p1), .val (.int p2), .val (.long q3), .second, .val (.int p4), .val (.int p5), .val (.int (0 : Int32)), .val (.int nN), .val (.ref b2), .val .null, .val (.ref b3), .val (.ref b5), .val (.ref b7), .unset] [(.int ((45 : Int32) + nN))])
    refine Runs.back (fun t k => XS.istore X8.here hx rfl (hb hby at_106) rfl (l' := #[.val (.int p0), .val (.int p1), .val (.int p2), .val (.long q3), .second, .val (.int p4), .val (.int p5), .val (.int (0 : Int32)), .val (.int nN), .val (.ref b2), .val .null, .val (.ref b3), .val (.ref b5), .val (.ref b7), .val (.int ((45 : Int32) + nN))]) rfl k) ?_
    show Runs _ _ _ _ T8 (mkF m 108 #[.val (.int p0), .val (.int p1), .val (.int p2), .val (.long q3), .second, .val (.int p4), .val (.int p5), .val (.int (0 : Int32)), .val (.int nN), .val (.ref b2), .val .null, .val (.ref b3), .val (.ref b5), .val (.ref b7), .val (.int ((45 : Int32) + nN))] [])
    refine Runs.back (fun t k => XS.aload X8.here hx rfl (hb hby at_108) rfl rfl k) ?_
    show Runs _ _ _ _ T8 (mkF m 110 #[.val (.int p0), .val (.int p1), .val (.int p2), .val (.long q3), .second, .val (.int p4), .val (.int p5), .val (.int (0 : Int32)), .val (.int nN), .val (.ref b2), .val .null, .val (.ref b3), .val (.ref b5), .val (.ref b7), .val (.int ((45 : Int32) + nN))] [(.ref b7)])
    obtain ⟨cq9, kq9, q9a, q9b, q9c⟩ := isOf hZ rfl fE8
    obtain ⟨_, _, ⟨T9, L9, k9, n9⟩, -, X9, ⟨Lc9, hQ9, l9, y9, z9⟩, st9⟩ := X8.virtualBack hx (y := (⟨"com/example/ubique/ubique/Frame", "length", "()I"⟩ : MethodName)) (z := (⟨"com/example/ubique/ubique/Frame", "length", "()I"⟩ : MethodName)) hown (mvT hZ (hw _ (List.mem_of_getElem? (i := 40) rfl))) (mvT hZ (hw _ (List.mem_of_getElem? (i := 41) rfl))) (notFace_of_selects (args := #[]) (mvT hZ (hw _ (List.mem_of_getElem? (i := 43) rfl)))) (mvT hZ (hw _ (List.mem_of_getElem? (i := 43) rfl))) (mvT hZ (hw _ (List.mem_of_getElem? (i := 42) rfl))) (by decide) (backOf (W := 0) (rm5n l Z a0 hw [] b7 b2 _ _ nN T8.heap n0 (Z8) fT8 fP8 f8_Arr_0 zN) hZ (hw _ (List.mem_of_getElem? (i := 44) rfl)) (hw _ (List.mem_of_getElem? (i := 21) rfl)) (by decide) (by decide)) q9a q9c (g := (mkF m 110 #[.val (.int p0), .val (.int p1), .val (.int p2), .val (.long q3), .second, .val (.int p4), .val (.int p5), .val (.int (0 : Int32)), .val (.int nN), .val (.ref b2), .val .null, .val (.ref b3), .val (.ref b5), .val (.ref b7), .val (.int ((45 : Int32) + nN))] [(.ref b7)])) rfl (by rw [hml]; rfl) (Steps.refl _) (argsL := []) (rest := []) (lenOf pd0_2 rfl) rfl (by show 2 * 0 + _ ≤ _; exact Nat.le_of_eq rfl) (hb hby at_110) (fun _ _ => ⟨rfl, rfl, (by decide : 4 + 0 ≤ _), (by decide : 26 + 0 ≤ _)⟩)
    dsimp only [Pt.U, Pt.locs, Pt.cells, Pt.slots] at X9 l9 y9 z9 st9 hQ9
    subst l9 y9 z9
    obtain ⟨rfl, N9q, eq9⟩ := hQ9
    have N9 := Fr.app N8 N9q
    refine Runs.trans st9 ?_
    show Runs _ _ _ _ T9 (mkF m 113 #[.val (.int p0), .val (.int p1), .val (.int p2), .val (.long q3), .second, .val (.int p4), .val (.int p5), .val (.int (0 : Int32)), .val (.int nN), .val (.ref b2), .val .null, .val (.ref b3), .val (.ref b5), .val (.ref b7), .val (.int ((45 : Int32) + nN))] [(.int (((45 : Int32) + (0 : Int32)) + nN))])
    refine Runs.back (fun t k => XS.iload X9.here hx rfl (hb hby at_113) rfl k) ?_
    show Runs _ _ _ _ T9 (mkF m 115 #[.val (.int p0), .val (.int p1), .val (.int p2), .val (.long q3), .second, .val (.int p4), .val (.int p5), .val (.int (0 : Int32)), .val (.int nN), .val (.ref b2), .val .null, .val (.ref b3), .val (.ref b5), .val (.ref b7), .val (.int ((45 : Int32) + nN))] [(.int ((45 : Int32) + nN)), (.int (((45 : Int32) + (0 : Int32)) + nN))])
    refine Runs.back (fun t k => XS.icmpNo X9.here hx rfl (hb hby at_115) rfl (teq (show (((45 : Int32) + (0 : Int32)) + nN) = ((45 : Int32) + nN) from (len45 nN))).2 k) ?_
    show Runs _ _ _ _ T9 (mkF m 118 #[.val (.int p0), .val (.int p1), .val (.int p2), .val (.long q3), .second, .val (.int p4), .val (.int p5), .val (.int (0 : Int32)), .val (.int nN), .val (.ref b2), .val .null, .val (.ref b3), .val (.ref b5), .val (.ref b7), .val (.int ((45 : Int32) + nN))] [])
    refine Runs.back (fun t k => XS.iconst X9.here hx rfl (hb hby at_118) k) ?_
    show Runs _ _ _ _ T9 (mkF m 119 #[.val (.int p0), .val (.int p1), .val (.int p2), .val (.long q3), .second, .val (.int p4), .val (.int p5), .val (.int (0 : Int32)), .val (.int nN), .val (.ref b2), .val .null, .val (.ref b3), .val (.ref b5), .val (.ref b7), .val (.int ((45 : Int32) + nN))] [(.int (1 : Int32))])
    refine Runs.back (fun t k => XS.goto X9.here hx rfl (pc0 := 119) (pc' := 123) rfl (hb hby at_119) (by decide) (by decide) k) ?_
    show Runs _ _ _ _ T9 (mkF m 123 #[.val (.int p0), .val (.int p1), .val (.int p2), .val (.long q3), .second, .val (.int p4), .val (.int p5), .val (.int (0 : Int32)), .val (.int nN), .val (.ref b2), .val .null, .val (.ref b3), .val (.ref b5), .val (.ref b7), .val (.int ((45 : Int32) + nN))] [(.int (1 : Int32))])
    obtain ⟨fs, hr, hrun, hended, hW, hsame⟩ := X9.leave (v := some (.int (1 : Int32))) (fun h => by rw [Bd.returns] at h; cases h)
    exact ⟨_, _, (retN X9 hx (t := .boolean) Bd.returns (by simp) (hb hby at_123) hr), hrun, hended, _, _, rfl, ⟨rfl, N9⟩, ⟨_, rfl⟩, hW, hsame.mono (by decide) (by decide)⟩
  · refine Runs.back (fun t k => XS.ifNo X0.here hx rfl (hb hby at_4) rfl ((if0 _ _).trans (feq c4_1).1) k) ?_
    show Runs _ _ _ _ s₁ (mkF m 7 #[.val (.int p0), .val (.int p1), .val (.int p2), .val (.long q3), .second, .val (.int p4), .val (.int p5), .unset, .unset, .unset, .unset, .unset, .unset, .unset, .unset] [])
    refine Runs.back (fun t k => XS.iconst X0.here hx rfl (hb hby at_7) k) ?_
    show Runs _ _ _ _ s₁ (mkF m 8 #[.val (.int p0), .val (.int p1), .val (.int p2), .val (.long q3), .second, .val (.int p4), .val (.int p5), .unset, .unset, .unset, .unset, .unset, .unset, .unset, .unset] [(.int (1 : Int32))])
    refine Runs.back (fun t k => XS.goto X0.here hx rfl (pc0 := 8) (pc' := 12) rfl (hb hby at_8) (by decide) (by decide) k) ?_
    show Runs _ _ _ _ s₁ (mkF m 12 #[.val (.int p0), .val (.int p1), .val (.int p2), .val (.long q3), .second, .val (.int p4), .val (.int p5), .unset, .unset, .unset, .unset, .unset, .unset, .unset, .unset] [(.int (1 : Int32))])
    refine Runs.back (fun t k => XS.istore X0.here hx rfl (hb hby at_12) rfl (l' := #[.val (.int p0), .val (.int p1), .val (.int p2), .val (.long q3), .second, .val (.int p4), .val (.int p5), .val (.int (1 : Int32)), .unset, .unset, .unset, .unset, .unset, .unset, .unset]) rfl k) ?_
    show Runs _ _ _ _ s₁ (mkF m 14 #[.val (.int p0), .val (.int p1), .val (.int p2), .val (.long q3), .second, .val (.int p4), .val (.int p5), .val (.int (1 : Int32)), .unset, .unset, .unset, .unset, .unset, .unset, .unset] [])
    refine Runs.back (fun t k => XS.iload X0.here hx rfl (hb hby at_14) rfl k) ?_
    show Runs _ _ _ _ s₁ (mkF m 16 #[.val (.int p0), .val (.int p1), .val (.int p2), .val (.long q3), .second, .val (.int p4), .val (.int p5), .val (.int (1 : Int32)), .unset, .unset, .unset, .unset, .unset, .unset, .unset] [(.int p5)])
    refine Runs.back (fun t k => XS.bipush X0.here hx rfl (hb hby at_16) k) ?_
    show Runs _ _ _ _ s₁ (mkF m 18 #[.val (.int p0), .val (.int p1), .val (.int p2), .val (.long q3), .second, .val (.int p4), .val (.int p5), .val (.int (1 : Int32)), .unset, .unset, .unset, .unset, .unset, .unset, .unset] [(.int (15 : Int32)), (.int p5)])
    refine Runs.back (fun t k => XS.iand X0.here hx rfl (hb hby at_18) rfl k) ?_
    show Runs _ _ _ _ s₁ (mkF m 19 #[.val (.int p0), .val (.int p1), .val (.int p2), .val (.long q3), .second, .val (.int p4), .val (.int p5), .val (.int (1 : Int32)), .unset, .unset, .unset, .unset, .unset, .unset, .unset] [(.int (p5 &&& (15 : Int32)))])
    refine Runs.back (fun t k => XS.istore X0.here hx rfl (hb hby at_19) rfl (l' := #[.val (.int p0), .val (.int p1), .val (.int p2), .val (.long q3), .second, .val (.int p4), .val (.int p5), .val (.int (1 : Int32)), .val (.int (p5 &&& (15 : Int32))), .unset, .unset, .unset, .unset, .unset, .unset]) rfl k) ?_
    show Runs _ _ _ _ s₁ (mkF m 21 #[.val (.int p0), .val (.int p1), .val (.int p2), .val (.long q3), .second, .val (.int p4), .val (.int p5), .val (.int (1 : Int32)), .val (.int (p5 &&& (15 : Int32))), .unset, .unset, .unset, .unset, .unset, .unset] [])
    generalize enN : (p5 &&& (15 : Int32)) = nN
    show Runs _ _ _ _ s₁ (mkF m 21 #[.val (.int p0), .val (.int p1), .val (.int p2), .val (.long q3), .second, .val (.int p4), .val (.int p5), .val (.int (1 : Int32)), .val (.int nN), .unset, .unset, .unset, .unset, .unset, .unset] [])
    have B_N : 0 ≤ nN.toInt ∧ nN.toInt < 16 := by rw [← enN, c_mask p5 _ 4 (by decide) (by decide)]; omega
    have hN0 : ¬ nN < (0 : Int32) := by rw [lti, z32]; omega
    have zN : nN.toNatClampNeg.toInt32 = nN := (back32 hN0).1
    have lN : nN.toNatClampNeg ≤ 15 := by have q := nat_of hN0; omega
    refine Runs.back (fun t k => XS.iload X0.here hx rfl (hb hby at_21) rfl k) ?_
    show Runs _ _ _ _ s₁ (mkF m 23 #[.val (.int p0), .val (.int p1), .val (.int p2), .val (.long q3), .second, .val (.int p4), .val (.int p5), .val (.int (1 : Int32)), .val (.int nN), .unset, .unset, .unset, .unset, .unset, .unset] [(.int nN)])
    obtain ⟨T10, h10, k10, X10, e10, E10, A10, st10⟩ := newP X0 hx hZ (hw _ (List.mem_of_getElem? (i := 0) rfl)) e0 (g := (mkF m 23 #[.val (.int p0), .val (.int p1), .val (.int p2), .val (.long q3), .second, .val (.int p4), .val (.int p5), .val (.int (1 : Int32)), .val (.int nN), .unset, .unset, .unset, .unset, .unset, .unset] [(.int nN)])) rfl (hb hby at_23) rfl hN0 (cap := 15) lN (by decide) (by decide) (by decide)
    obtain ⟨b10, g10⟩ : ∃ z, z = h0.size := ⟨_, rfl⟩
    rw [← g10] at A10 st10
    have g_b10 : n0 ≤ b10 := Nat.le_trans (Z0) (Nat.le_of_eq g10.symm)
    have Z10 : n0 ≤ h10.size := Nat.le_trans (Z0) E10.1
    have V10 : OArr Z h10 b10 .byte nN.toNatClampNeg (fun _ => (.int (0 : Int32))) := OArr.new A10 (by rfl) rfl
    refine Runs.back st10 ?_
    show Runs _ _ _ _ T10 (mkF m 25 #[.val (.int p0), .val (.int p1), .val (.int p2), .val (.long q3), .second, .val (.int p4), .val (.int p5), .val (.int (1 : Int32)), .val (.int nN), .unset, .unset, .unset, .unset, .unset, .unset] [(.ref b10)])
    refine Runs.back (fun t k => XS.astore X10.here hx rfl (hb hby at_25) rfl rfl (l' := #[.val (.int p0), .val (.int p1), .val (.int p2), .val (.long q3), .second, .val (.int p4), .val (.int p5), .val (.int (1 : Int32)), .val (.int nN), .val (.ref b10), .unset, .unset, .unset, .unset, .unset]) rfl k) ?_
    show Runs _ _ _ _ T10 (mkF m 27 #[.val (.int p0), .val (.int p1), .val (.int p2), .val (.long q3), .second, .val (.int p4), .val (.int p5), .val (.int (1 : Int32)), .val (.int nN), .val (.ref b10), .unset, .unset, .unset, .unset, .unset] [])
    refine Runs.back (fun t k => XS.iload X10.here hx rfl (hb hby at_27) rfl k) ?_
    show Runs _ _ _ _ T10 (mkF m 29 #[.val (.int p0), .val (.int p1), .val (.int p2), .val (.long q3), .second, .val (.int p4), .val (.int p5), .val (.int (1 : Int32)), .val (.int nN), .val (.ref b10), .unset, .unset, .unset, .unset, .unset] [(.int (1 : Int32))])
    refine Runs.back (fun t k => XS.ifNo X10.here hx rfl (hb hby at_29) rfl ((if0 _ _).trans (feq (show ¬ ((1 : Int32) = (0 : Int32)) from (by decide))).1) k) ?_
    show Runs _ _ _ _ T10 (mkF m 32 #[.val (.int p0), .val (.int p1), .val (.int p2), .val (.long q3), .second, .val (.int p4), .val (.int p5), .val (.int (1 : Int32)), .val (.int nN), .val (.ref b10), .unset, .unset, .unset, .unset, .unset] [])
    refine Runs.back (fun t k => XS.bipush X10.here hx rfl (hb hby at_32) k) ?_
    show Runs _ _ _ _ T10 (mkF m 34 #[.val (.int p0), .val (.int p1), .val (.int p2), .val (.long q3), .second, .val (.int p4), .val (.int p5), .val (.int (1 : Int32)), .val (.int nN), .val (.ref b10), .unset, .unset, .unset, .unset, .unset] [(.int (32 : Int32))])
    obtain ⟨T11, h11, k11, X11, e11, E11, A11, st11⟩ := newP X10 hx hZ (hw _ (List.mem_of_getElem? (i := 0) rfl)) e10 (g := (mkF m 34 #[.val (.int p0), .val (.int p1), .val (.int p2), .val (.long q3), .second, .val (.int p4), .val (.int p5), .val (.int (1 : Int32)), .val (.int nN), .val (.ref b10), .unset, .unset, .unset, .unset, .unset] [(.int (32 : Int32))])) rfl (hb hby at_34) rfl (by decide) (cap := 32) (by decide) (by decide) (by decide) (by decide)
    obtain ⟨b11, g11⟩ : ∃ z, z = h10.size := ⟨_, rfl⟩
    rw [← g11] at A11 st11
    have g_b11 : n0 ≤ b11 := Nat.le_trans (Z10) (Nat.le_of_eq g11.symm)
    have ne_b10_b11 : b10 ≠ b11 := Nat.ne_of_lt (Nat.lt_of_lt_of_le V10.lt (Nat.le_of_eq g11.symm))
    have f11_Arr_0 : OArr Z h11 b10 .byte nN.toNatClampNeg (fun _ => (.int (0 : Int32))) := V10.ext E11
    have Z11 : n0 ≤ h11.size := Nat.le_trans (Z10) E11.1
    have V11 : OArr Z h11 b11 .byte 32 (fun _ => (.int (0 : Int32))) := OArr.new A11 rfl rfl
    refine Runs.back st11 ?_
    show Runs _ _ _ _ T11 (mkF m 36 #[.val (.int p0), .val (.int p1), .val (.int p2), .val (.long q3), .second, .val (.int p4), .val (.int p5), .val (.int (1 : Int32)), .val (.int nN), .val (.ref b10), .unset, .unset, .unset, .unset, .unset] [(.ref b11)])
    refine Runs.back (fun t k => XS.goto X11.here hx rfl (pc0 := 36) (pc' := 40) rfl (hb hby at_36) (by decide) (by decide) k) ?_
    show Runs _ _ _ _ T11 (mkF m 40 #[.val (.int p0), .val (.int p1), .val (.int p2), .val (.long q3), .second, .val (.int p4), .val (.int p5), .val (.int (1 : Int32)), .val (.int nN), .val (.ref b10), .unset, .unset, .unset, .unset, .unset] [(.ref b11)])
    refine Runs.back (fun t k => XS.astore X11.here hx rfl (hb hby at_40) rfl rfl (l' := #[.val (.int p0), .val (.int p1), .val (.int p2), .val (.long q3), .second, .val (.int p4), .val (.int p5), .val (.int (1 : Int32)), .val (.int nN), .val (.ref b10), .val (.ref b11), .unset, .unset, .unset, .unset]) rfl k) ?_
    show Runs _ _ _ _ T11 (mkF m 42 #[.val (.int p0), .val (.int p1), .val (.int p2), .val (.long q3), .second, .val (.int p4), .val (.int p5), .val (.int (1 : Int32)), .val (.int nN), .val (.ref b10), .val (.ref b11), .unset, .unset, .unset, .unset] [])
    obtain ⟨T12, h12, X12, e12, E12, A12, D12, -, st12⟩ := newO X11 hx hZ hown (hw _ (List.mem_of_getElem? (i := 1) rfl)) (hw _ (List.mem_of_getElem? (i := 2) rfl)) (hw _ (List.mem_of_getElem? (i := 3) rfl)) e11 (g := (mkF m 42 #[.val (.int p0), .val (.int p1), .val (.int p2), .val (.long q3), .second, .val (.int p4), .val (.int p5), .val (.int (1 : Int32)), .val (.int nN), .val (.ref b10), .val (.ref b11), .unset, .unset, .unset, .unset] [])) rfl (hb hby at_42) (by decide) (by decide)
    obtain ⟨b12, g12⟩ : ∃ z, z = h11.size := ⟨_, rfl⟩
    rw [← g12] at A12 D12 st12
    have g_b12 : n0 ≤ b12 := Nat.le_trans (Z11) (Nat.le_of_eq g12.symm)
    have ne_b10_b12 : b10 ≠ b12 := Nat.ne_of_lt (Nat.lt_of_lt_of_le f11_Arr_0.lt (Nat.le_of_eq g12.symm))
    have ne_b11_b12 : b11 ≠ b12 := Nat.ne_of_lt (Nat.lt_of_lt_of_le V11.lt (Nat.le_of_eq g12.symm))
    have f12_Arr_0 : OArr Z h12 b10 .byte nN.toNatClampNeg (fun _ => (.int (0 : Int32))) := f11_Arr_0.ext E12
    have f12_Arr_1 : OArr Z h12 b11 .byte 32 (fun _ => (.int (0 : Int32))) := V11.ext E12
    have Z12 : n0 ≤ h12.size := Nat.le_trans (Z11) E12.1
    have F12_16 : Fld Z h12 b12 "com/example/ubique/ubique/ProcessId" "node" "J" (.long (0 : Int64)) := D12 (Or.inr (hw _ (List.mem_of_getElem? (i := 16) rfl))) (ty := .long) (by decide)
    have F12_18 : Fld Z h12 b12 "com/example/ubique/ubique/ProcessId" "process" "J" (.long (0 : Int64)) := D12 (Or.inr (hw _ (List.mem_of_getElem? (i := 18) rfl))) (ty := .long) (by decide)
    refine Runs.back st12 ?_
    show Runs _ _ _ _ T12 (mkF m 45 #[.val (.int p0), .val (.int p1), .val (.int p2), .val (.long q3), .second, .val (.int p4), .val (.int p5), .val (.int (1 : Int32)), .val (.int nN), .val (.ref b10), .val (.ref b11), .unset, .unset, .unset, .unset] [(.ref b12)])
    refine Runs.back (fun t k => XS.dup X12.here hx rfl (hb hby at_45) rfl rfl k) ?_
    show Runs _ _ _ _ T12 (mkF m 46 #[.val (.int p0), .val (.int p1), .val (.int p2), .val (.long q3), .second, .val (.int p4), .val (.int p5), .val (.int (1 : Int32)), .val (.int nN), .val (.ref b10), .val (.ref b11), .unset, .unset, .unset, .unset] [(.ref b12), (.ref b12)])
    refine Runs.back (fun t k => XS.lloadN X12.here hx rfl (hb hby at_46) rfl k) ?_
    show Runs _ _ _ _ T12 (mkF m 47 #[.val (.int p0), .val (.int p1), .val (.int p2), .val (.long q3), .second, .val (.int p4), .val (.int p5), .val (.int (1 : Int32)), .val (.int nN), .val (.ref b10), .val (.ref b11), .unset, .unset, .unset, .unset] [(.long q3), (.ref b12), (.ref b12)])
    refine Runs.back (fun t k => XS.iload X12.here hx rfl (hb hby at_47) rfl k) ?_
    show Runs _ _ _ _ T12 (mkF m 49 #[.val (.int p0), .val (.int p1), .val (.int p2), .val (.long q3), .second, .val (.int p4), .val (.int p5), .val (.int (1 : Int32)), .val (.int nN), .val (.ref b10), .val (.ref b11), .unset, .unset, .unset, .unset] [(.int p4), (.long q3), (.ref b12), (.ref b12)])
    refine Runs.back (fun t k => XS.i2l X12.here hx rfl (hb hby at_49) rfl k) ?_
    show Runs _ _ _ _ T12 (mkF m 50 #[.val (.int p0), .val (.int p1), .val (.int p2), .val (.long q3), .second, .val (.int p4), .val (.int p5), .val (.int (1 : Int32)), .val (.int nN), .val (.ref b10), .val (.ref b11), .unset, .unset, .unset, .unset] [(.long (p4.toInt64)), (.long q3), (.ref b12), (.ref b12)])
    obtain ⟨_, _, ⟨T13, L13, k13, n13⟩, -, X13, ⟨Lc13, hQ13, l13, y13, z13⟩, st13⟩ := X12.specialBack hx (y := (⟨"com/example/ubique/ubique/ProcessId", "<init>", "(JJ)V"⟩ : MethodName)) rfl hown (mvT hZ (hw _ (List.mem_of_getElem? (i := 4) rfl))) (mvT hZ (hw _ (List.mem_of_getElem? (i := 5) rfl))) (mvT hZ (hw _ (List.mem_of_getElem? (i := 6) rfl))) (by decide) (backOf (W := 1) (rm1 l Z a0 hw [] b12 q3 (p4.toInt64) _ _ h12 n0 (Z12) A12 F12_16 F12_18 g_b12) hZ (hw _ (List.mem_of_getElem? (i := 6) rfl)) (hw _ (List.mem_of_getElem? (i := 3) rfl)) (by decide) (by decide)) (g := (mkF m 50 #[.val (.int p0), .val (.int p1), .val (.int p2), .val (.long q3), .second, .val (.int p4), .val (.int p5), .val (.int (1 : Int32)), .val (.int nN), .val (.ref b10), .val (.ref b11), .unset, .unset, .unset, .unset] [(.long (p4.toInt64)), (.long q3), (.ref b12), (.ref b12)])) rfl (by rw [hml]; rfl) (Steps.refl _) (a := b12) (argsL := [(.long q3), (.long (p4.toInt64))]) (rest := [(.ref b12)]) (lenOf pd0_0 rfl) rfl (by show 2 * 0 + _ ≤ _; exact Nat.le_of_eq rfl) (hb hby at_50) (fun _ _ => ⟨rfl, e12, (by decide : 3 + 0 ≤ _), (by decide : 49 + 0 ≤ _)⟩)
    dsimp only [Pt.U, Pt.locs, Pt.cells, Pt.slots] at X13 l13 y13 z13 st13 hQ13
    subst l13 y13 z13
    obtain ⟨rfl, N13q, K13⟩ := hQ13
    have N13 := Fr.app N0 N13q
    have f13_Arr_0 : OArr Z T13.heap b10 .byte nN.toNatClampNeg (fun _ => (.int (0 : Int32))) := f12_Arr_0.keep K13 (ninS ne_b10_b12 nin0)
    have f13_Arr_1 : OArr Z T13.heap b11 .byte 32 (fun _ => (.int (0 : Int32))) := f12_Arr_1.keep K13 (ninS ne_b11_b12 nin0)
    have f13_Exa_2 : Exa Z T13.heap b12 "com/example/ubique/ubique/ProcessId" := A12.keep K13
    have Z13 : n0 ≤ T13.heap.size := Nat.le_trans (Z12) K13.1
    refine Runs.trans st13 ?_
    show Runs _ _ _ _ T13 (mkF m 53 #[.val (.int p0), .val (.int p1), .val (.int p2), .val (.long q3), .second, .val (.int p4), .val (.int p5), .val (.int (1 : Int32)), .val (.int nN), .val (.ref b10), .val (.ref b11), .unset, .unset, .unset, .unset] [(.ref b12)])
    refine Runs.back (fun t k => XS.astore X13.here hx rfl (hb hby at_53) rfl rfl (l' := #[.val (.int p0), .val (.int p1), .val (.int p2), .val (.long q3), .second, .val (.int p4), .val (.int p5), .val (.int (1 : Int32)), .val (.int nN), .val (.ref b10), .val (.ref b11), .val (.ref b12), .unset, .unset, .unset]) rfl k) ?_
    show Runs _ _ _ _ T13 (mkF m 55 #[.val (.int p0), .val (.int p1), .val (.int p2), .val (.long q3), .second, .val (.int p4), .val (.int p5), .val (.int (1 : Int32)), .val (.int nN), .val (.ref b10), .val (.ref b11), .val (.ref b12), .unset, .unset, .unset] [])
    obtain ⟨T14, h14, X14, e14, E14, A14, D14, -, st14⟩ := newO X13 hx hZ hown (hw _ (List.mem_of_getElem? (i := 1) rfl)) (hw _ (List.mem_of_getElem? (i := 2) rfl)) (hw _ (List.mem_of_getElem? (i := 3) rfl)) rfl (g := (mkF m 55 #[.val (.int p0), .val (.int p1), .val (.int p2), .val (.long q3), .second, .val (.int p4), .val (.int p5), .val (.int (1 : Int32)), .val (.int nN), .val (.ref b10), .val (.ref b11), .val (.ref b12), .unset, .unset, .unset] [])) rfl (hb hby at_55) (by decide) (by decide)
    obtain ⟨b14, g14⟩ : ∃ z, z = T13.heap.size := ⟨_, rfl⟩
    rw [← g14] at A14 D14 st14
    have g_b14 : n0 ≤ b14 := Nat.le_trans (Z13) (Nat.le_of_eq g14.symm)
    have ne_b10_b14 : b10 ≠ b14 := Nat.ne_of_lt (Nat.lt_of_lt_of_le f13_Arr_0.lt (Nat.le_of_eq g14.symm))
    have ne_b11_b14 : b11 ≠ b14 := Nat.ne_of_lt (Nat.lt_of_lt_of_le f13_Arr_1.lt (Nat.le_of_eq g14.symm))
    have ne_b12_b14 : b12 ≠ b14 := Nat.ne_of_lt (Nat.lt_of_lt_of_le f13_Exa_2.lt (Nat.le_of_eq g14.symm))
    have f14_Arr_0 : OArr Z h14 b10 .byte nN.toNatClampNeg (fun _ => (.int (0 : Int32))) := f13_Arr_0.ext E14
    have f14_Arr_1 : OArr Z h14 b11 .byte 32 (fun _ => (.int (0 : Int32))) := f13_Arr_1.ext E14
    have f14_Exa_2 : Exa Z h14 b12 "com/example/ubique/ubique/ProcessId" := Exa.ext E14 f13_Exa_2
    have Z14 : n0 ≤ h14.size := Nat.le_trans (Z13) E14.1
    have F14_16 : Fld Z h14 b14 "com/example/ubique/ubique/ProcessId" "node" "J" (.long (0 : Int64)) := D14 (Or.inr (hw _ (List.mem_of_getElem? (i := 16) rfl))) (ty := .long) (by decide)
    have F14_18 : Fld Z h14 b14 "com/example/ubique/ubique/ProcessId" "process" "J" (.long (0 : Int64)) := D14 (Or.inr (hw _ (List.mem_of_getElem? (i := 18) rfl))) (ty := .long) (by decide)
    refine Runs.back st14 ?_
    show Runs _ _ _ _ T14 (mkF m 58 #[.val (.int p0), .val (.int p1), .val (.int p2), .val (.long q3), .second, .val (.int p4), .val (.int p5), .val (.int (1 : Int32)), .val (.int nN), .val (.ref b10), .val (.ref b11), .val (.ref b12), .unset, .unset, .unset] [(.ref b14)])
    refine Runs.back (fun t k => XS.dup X14.here hx rfl (hb hby at_58) rfl rfl k) ?_
    show Runs _ _ _ _ T14 (mkF m 59 #[.val (.int p0), .val (.int p1), .val (.int p2), .val (.long q3), .second, .val (.int p4), .val (.int p5), .val (.int (1 : Int32)), .val (.int nN), .val (.ref b10), .val (.ref b11), .val (.ref b12), .unset, .unset, .unset] [(.ref b14), (.ref b14)])
    refine Runs.back (fun t k => XS.iload X14.here hx rfl (hb hby at_59) rfl k) ?_
    show Runs _ _ _ _ T14 (mkF m 61 #[.val (.int p0), .val (.int p1), .val (.int p2), .val (.long q3), .second, .val (.int p4), .val (.int p5), .val (.int (1 : Int32)), .val (.int nN), .val (.ref b10), .val (.ref b11), .val (.ref b12), .unset, .unset, .unset] [(.int p4), (.ref b14), (.ref b14)])
    refine Runs.back (fun t k => XS.i2l X14.here hx rfl (hb hby at_61) rfl k) ?_
    show Runs _ _ _ _ T14 (mkF m 62 #[.val (.int p0), .val (.int p1), .val (.int p2), .val (.long q3), .second, .val (.int p4), .val (.int p5), .val (.int (1 : Int32)), .val (.int nN), .val (.ref b10), .val (.ref b11), .val (.ref b12), .unset, .unset, .unset] [(.long (p4.toInt64)), (.ref b14), (.ref b14)])
    refine Runs.back (fun t k => XS.lloadN X14.here hx rfl (hb hby at_62) rfl k) ?_
    show Runs _ _ _ _ T14 (mkF m 63 #[.val (.int p0), .val (.int p1), .val (.int p2), .val (.long q3), .second, .val (.int p4), .val (.int p5), .val (.int (1 : Int32)), .val (.int nN), .val (.ref b10), .val (.ref b11), .val (.ref b12), .unset, .unset, .unset] [(.long q3), (.long (p4.toInt64)), (.ref b14), (.ref b14)])
    obtain ⟨_, _, ⟨T15, L15, k15, n15⟩, -, X15, ⟨Lc15, hQ15, l15, y15, z15⟩, st15⟩ := X14.specialBack hx (y := (⟨"com/example/ubique/ubique/ProcessId", "<init>", "(JJ)V"⟩ : MethodName)) rfl hown (mvT hZ (hw _ (List.mem_of_getElem? (i := 4) rfl))) (mvT hZ (hw _ (List.mem_of_getElem? (i := 5) rfl))) (mvT hZ (hw _ (List.mem_of_getElem? (i := 6) rfl))) (by decide) (backOf (W := 1) (rm1 l Z a0 hw [] b14 (p4.toInt64) q3 _ _ h14 n0 (Z14) A14 F14_16 F14_18 g_b14) hZ (hw _ (List.mem_of_getElem? (i := 6) rfl)) (hw _ (List.mem_of_getElem? (i := 3) rfl)) (by decide) (by decide)) (g := (mkF m 63 #[.val (.int p0), .val (.int p1), .val (.int p2), .val (.long q3), .second, .val (.int p4), .val (.int p5), .val (.int (1 : Int32)), .val (.int nN), .val (.ref b10), .val (.ref b11), .val (.ref b12), .unset, .unset, .unset] [(.long q3), (.long (p4.toInt64)), (.ref b14), (.ref b14)])) rfl (by rw [hml]; rfl) (Steps.refl _) (a := b14) (argsL := [(.long (p4.toInt64)), (.long q3)]) (rest := [(.ref b14)]) (lenOf pd0_0 rfl) rfl (by show 2 * 0 + _ ≤ _; exact Nat.le_of_eq rfl) (hb hby at_63) (fun _ _ => ⟨rfl, e14, (by decide : 4 + 0 ≤ _), (by decide : 51 + 0 ≤ _)⟩)
    dsimp only [Pt.U, Pt.locs, Pt.cells, Pt.slots] at X15 l15 y15 z15 st15 hQ15
    subst l15 y15 z15
    obtain ⟨rfl, N15q, K15⟩ := hQ15
    have N15 := Fr.app N13 N15q
    have f15_Arr_0 : OArr Z T15.heap b10 .byte nN.toNatClampNeg (fun _ => (.int (0 : Int32))) := f14_Arr_0.keep K15 (ninS ne_b10_b14 nin0)
    have f15_Arr_1 : OArr Z T15.heap b11 .byte 32 (fun _ => (.int (0 : Int32))) := f14_Arr_1.keep K15 (ninS ne_b11_b14 nin0)
    have f15_Exa_2 : Exa Z T15.heap b12 "com/example/ubique/ubique/ProcessId" := f14_Exa_2.keep K15
    have f15_Exa_3 : Exa Z T15.heap b14 "com/example/ubique/ubique/ProcessId" := A14.keep K15
    have Z15 : n0 ≤ T15.heap.size := Nat.le_trans (Z14) K15.1
    refine Runs.trans st15 ?_
    show Runs _ _ _ _ T15 (mkF m 66 #[.val (.int p0), .val (.int p1), .val (.int p2), .val (.long q3), .second, .val (.int p4), .val (.int p5), .val (.int (1 : Int32)), .val (.int nN), .val (.ref b10), .val (.ref b11), .val (.ref b12), .unset, .unset, .unset] [(.ref b14)])
    refine Runs.back (fun t k => XS.astore X15.here hx rfl (hb hby at_66) rfl rfl (l' := #[.val (.int p0), .val (.int p1), .val (.int p2), .val (.long q3), .second, .val (.int p4), .val (.int p5), .val (.int (1 : Int32)), .val (.int nN), .val (.ref b10), .val (.ref b11), .val (.ref b12), .val (.ref b14), .unset, .unset]) rfl k) ?_
    show Runs _ _ _ _ T15 (mkF m 68 #[.val (.int p0), .val (.int p1), .val (.int p2), .val (.long q3), .second, .val (.int p4), .val (.int p5), .val (.int (1 : Int32)), .val (.int nN), .val (.ref b10), .val (.ref b11), .val (.ref b12), .val (.ref b14), .unset, .unset] [])
    obtain ⟨T16, h16, X16, e16, E16, A16, D16, -, st16⟩ := newO X15 hx hZ hown (hw _ (List.mem_of_getElem? (i := 19) rfl)) (hw _ (List.mem_of_getElem? (i := 20) rfl)) (hw _ (List.mem_of_getElem? (i := 21) rfl)) rfl (g := (mkF m 68 #[.val (.int p0), .val (.int p1), .val (.int p2), .val (.long q3), .second, .val (.int p4), .val (.int p5), .val (.int (1 : Int32)), .val (.int nN), .val (.ref b10), .val (.ref b11), .val (.ref b12), .val (.ref b14), .unset, .unset] [])) rfl (hb hby at_68) (by decide) (by decide)
    obtain ⟨b16, g16⟩ : ∃ z, z = T15.heap.size := ⟨_, rfl⟩
    rw [← g16] at A16 D16 st16
    have g_b16 : n0 ≤ b16 := Nat.le_trans (Z15) (Nat.le_of_eq g16.symm)
    have ne_b10_b16 : b10 ≠ b16 := Nat.ne_of_lt (Nat.lt_of_lt_of_le f15_Arr_0.lt (Nat.le_of_eq g16.symm))
    have ne_b11_b16 : b11 ≠ b16 := Nat.ne_of_lt (Nat.lt_of_lt_of_le f15_Arr_1.lt (Nat.le_of_eq g16.symm))
    have ne_b12_b16 : b12 ≠ b16 := Nat.ne_of_lt (Nat.lt_of_lt_of_le f15_Exa_2.lt (Nat.le_of_eq g16.symm))
    have ne_b14_b16 : b14 ≠ b16 := Nat.ne_of_lt (Nat.lt_of_lt_of_le f15_Exa_3.lt (Nat.le_of_eq g16.symm))
    have f16_Arr_0 : OArr Z h16 b10 .byte nN.toNatClampNeg (fun _ => (.int (0 : Int32))) := f15_Arr_0.ext E16
    have f16_Arr_1 : OArr Z h16 b11 .byte 32 (fun _ => (.int (0 : Int32))) := f15_Arr_1.ext E16
    have f16_Exa_2 : Exa Z h16 b12 "com/example/ubique/ubique/ProcessId" := Exa.ext E16 f15_Exa_2
    have f16_Exa_3 : Exa Z h16 b14 "com/example/ubique/ubique/ProcessId" := Exa.ext E16 f15_Exa_3
    have Z16 : n0 ≤ h16.size := Nat.le_trans (Z15) E16.1
    have F16_27 : Fld Z h16 b16 "com/example/ubique/ubique/Frame" "flags" "I" (.int (0 : Int32)) := D16 (Or.inr (hw _ (List.mem_of_getElem? (i := 27) rfl))) (ty := .int) (by decide)
    have F16_29 : Fld Z h16 b16 "com/example/ubique/ubique/Frame" "type" "I" (.int (0 : Int32)) := D16 (Or.inr (hw _ (List.mem_of_getElem? (i := 29) rfl))) (ty := .int) (by decide)
    have F16_31 : Fld Z h16 b16 "com/example/ubique/ubique/Frame" "version" "I" (.int (0 : Int32)) := D16 (Or.inr (hw _ (List.mem_of_getElem? (i := 31) rfl))) (ty := .int) (by decide)
    have F16_33 : Fld Z h16 b16 "com/example/ubique/ubique/Frame" "source" "Lcom/example/ubique/ubique/ProcessId;" .null := D16 (Or.inr (hw _ (List.mem_of_getElem? (i := 33) rfl))) (ty := (.object "com/example/ubique/ubique/ProcessId")) (by decide)
    have F16_35 : Fld Z h16 b16 "com/example/ubique/ubique/Frame" "destination" "Lcom/example/ubique/ubique/ProcessId;" .null := D16 (Or.inr (hw _ (List.mem_of_getElem? (i := 35) rfl))) (ty := (.object "com/example/ubique/ubique/ProcessId")) (by decide)
    have F16_37 : Fld Z h16 b16 "com/example/ubique/ubique/Frame" "token" "[B" .null := D16 (Or.inr (hw _ (List.mem_of_getElem? (i := 37) rfl))) (ty := (.array .byte)) (by decide)
    have F16_39 : Fld Z h16 b16 "com/example/ubique/ubique/Frame" "payload" "[B" .null := D16 (Or.inr (hw _ (List.mem_of_getElem? (i := 39) rfl))) (ty := (.array .byte)) (by decide)
    refine Runs.back st16 ?_
    show Runs _ _ _ _ T16 (mkF m 71 #[.val (.int p0), .val (.int p1), .val (.int p2), .val (.long q3), .second, .val (.int p4), .val (.int p5), .val (.int (1 : Int32)), .val (.int nN), .val (.ref b10), .val (.ref b11), .val (.ref b12), .val (.ref b14), .unset, .unset] [(.ref b16)])
    refine Runs.back (fun t k => XS.dup X16.here hx rfl (hb hby at_71) rfl rfl k) ?_
    show Runs _ _ _ _ T16 (mkF m 72 #[.val (.int p0), .val (.int p1), .val (.int p2), .val (.long q3), .second, .val (.int p4), .val (.int p5), .val (.int (1 : Int32)), .val (.int nN), .val (.ref b10), .val (.ref b11), .val (.ref b12), .val (.ref b14), .unset, .unset] [(.ref b16), (.ref b16)])
    refine Runs.back (fun t k => XS.iloadN X16.here hx rfl (hb hby at_72) rfl k) ?_
    show Runs _ _ _ _ T16 (mkF m 73 #[.val (.int p0), .val (.int p1), .val (.int p2), .val (.long q3), .second, .val (.int p4), .val (.int p5), .val (.int (1 : Int32)), .val (.int nN), .val (.ref b10), .val (.ref b11), .val (.ref b12), .val (.ref b14), .unset, .unset] [(.int p0), (.ref b16), (.ref b16)])
    refine Runs.back (fun t k => XS.iloadN X16.here hx rfl (hb hby at_73) rfl k) ?_
    show Runs _ _ _ _ T16 (mkF m 74 #[.val (.int p0), .val (.int p1), .val (.int p2), .val (.long q3), .second, .val (.int p4), .val (.int p5), .val (.int (1 : Int32)), .val (.int nN), .val (.ref b10), .val (.ref b11), .val (.ref b12), .val (.ref b14), .unset, .unset] [(.int p1), (.int p0), (.ref b16), (.ref b16)])
    refine Runs.back (fun t k => XS.iloadN X16.here hx rfl (hb hby at_74) rfl k) ?_
    show Runs _ _ _ _ T16 (mkF m 75 #[.val (.int p0), .val (.int p1), .val (.int p2), .val (.long q3), .second, .val (.int p4), .val (.int p5), .val (.int (1 : Int32)), .val (.int nN), .val (.ref b10), .val (.ref b11), .val (.ref b12), .val (.ref b14), .unset, .unset] [(.int p2), (.int p1), (.int p0), (.ref b16), (.ref b16)])
    refine Runs.back (fun t k => XS.aload X16.here hx rfl (hb hby at_75) rfl rfl k) ?_
    show Runs _ _ _ _ T16 (mkF m 77 #[.val (.int p0), .val (.int p1), .val (.int p2), .val (.long q3), .second, .val (.int p4), .val (.int p5), .val (.int (1 : Int32)), .val (.int nN), .val (.ref b10), .val (.ref b11), .val (.ref b12), .val (.ref b14), .unset, .unset] [(.ref b12), (.int p2), (.int p1), (.int p0), (.ref b16), (.ref b16)])
    refine Runs.back (fun t k => XS.aload X16.here hx rfl (hb hby at_77) rfl rfl k) ?_
    show Runs _ _ _ _ T16 (mkF m 79 #[.val (.int p0), .val (.int p1), .val (.int p2), .val (.long q3), .second, .val (.int p4), .val (.int p5), .val (.int (1 : Int32)), .val (.int nN), .val (.ref b10), .val (.ref b11), .val (.ref b12), .val (.ref b14), .unset, .unset] [(.ref b14), (.ref b12), (.int p2), (.int p1), (.int p0), (.ref b16), (.ref b16)])
    refine Runs.back (fun t k => XS.aload X16.here hx rfl (hb hby at_79) rfl rfl k) ?_
    show Runs _ _ _ _ T16 (mkF m 81 #[.val (.int p0), .val (.int p1), .val (.int p2), .val (.long q3), .second, .val (.int p4), .val (.int p5), .val (.int (1 : Int32)), .val (.int nN), .val (.ref b10), .val (.ref b11), .val (.ref b12), .val (.ref b14), .unset, .unset] [(.ref b11), (.ref b14), (.ref b12), (.int p2), (.int p1), (.int p0), (.ref b16), (.ref b16)])
    refine Runs.back (fun t k => XS.aload X16.here hx rfl (hb hby at_81) rfl rfl k) ?_
    show Runs _ _ _ _ T16 (mkF m 83 #[.val (.int p0), .val (.int p1), .val (.int p2), .val (.long q3), .second, .val (.int p4), .val (.int p5), .val (.int (1 : Int32)), .val (.int nN), .val (.ref b10), .val (.ref b11), .val (.ref b12), .val (.ref b14), .unset, .unset] [(.ref b10), (.ref b11), (.ref b14), (.ref b12), (.int p2), (.int p1), (.int p0), (.ref b16), (.ref b16)])
    obtain ⟨_, _, ⟨T17, L17, k17, n17⟩, -, X17, ⟨Lc17, hQ17, l17, y17, z17⟩, st17⟩ := X16.specialBack hx (y := (⟨"com/example/ubique/ubique/Frame", "<init>", "(IIILcom/example/ubique/ubique/ProcessId;Lcom/example/ubique/ubique/ProcessId;[B[B)V"⟩ : MethodName)) rfl hown (mvT hZ (hw _ (List.mem_of_getElem? (i := 22) rfl))) (mvT hZ (hw _ (List.mem_of_getElem? (i := 23) rfl))) (mvT hZ (hw _ (List.mem_of_getElem? (i := 24) rfl))) (by decide) (backOf (W := 1) (rm4t l Z a0 hw [] b16 p0 p1 p2 b12 b14 b11 b10 _ _ _ _ _ _ _ h16 n0 (Z16) A16 F16_27 F16_29 F16_31 F16_33 F16_35 F16_37 F16_39 g_b16) hZ (hw _ (List.mem_of_getElem? (i := 24) rfl)) (hw _ (List.mem_of_getElem? (i := 21) rfl)) (by decide) (by decide)) (g := (mkF m 83 #[.val (.int p0), .val (.int p1), .val (.int p2), .val (.long q3), .second, .val (.int p4), .val (.int p5), .val (.int (1 : Int32)), .val (.int nN), .val (.ref b10), .val (.ref b11), .val (.ref b12), .val (.ref b14), .unset, .unset] [(.ref b10), (.ref b11), (.ref b14), (.ref b12), (.int p2), (.int p1), (.int p0), (.ref b16), (.ref b16)])) rfl (by rw [hml]; rfl) (Steps.refl _) (a := b16) (argsL := [(.int p0), (.int p1), (.int p2), (.ref b12), (.ref b14), (.ref b11), (.ref b10)]) (rest := [(.ref b16)]) (lenOf pd0_1 rfl) rfl (by show 2 * 0 + _ ≤ _; exact Nat.le_of_eq rfl) (hb hby at_83) (fun _ _ => ⟨rfl, e16, (by decide : 5 + 0 ≤ _), (by decide : 58 + 0 ≤ _)⟩)
    dsimp only [Pt.U, Pt.locs, Pt.cells, Pt.slots] at X17 l17 y17 z17 st17 hQ17
    subst l17 y17 z17
    obtain ⟨rfl, N17q, K17, fE17, fT17, fP17⟩ := hQ17
    have N17 := Fr.app N15 N17q
    have f17_Arr_0 : OArr Z T17.heap b10 .byte nN.toNatClampNeg (fun _ => (.int (0 : Int32))) := f16_Arr_0.keep K17 (ninS ne_b10_b16 nin0)
    have f17_Arr_1 : OArr Z T17.heap b11 .byte 32 (fun _ => (.int (0 : Int32))) := f16_Arr_1.keep K17 (ninS ne_b11_b16 nin0)
    have f17_Exa_2 : Exa Z T17.heap b12 "com/example/ubique/ubique/ProcessId" := f16_Exa_2.keep K17
    have f17_Exa_3 : Exa Z T17.heap b14 "com/example/ubique/ubique/ProcessId" := f16_Exa_3.keep K17
    have f17_Exa_4 : Exa Z T17.heap b16 "com/example/ubique/ubique/Frame" := A16.keep K17
    have Z17 : n0 ≤ T17.heap.size := Nat.le_trans (Z16) K17.1
    refine Runs.trans st17 ?_
    show Runs _ _ _ _ T17 (mkF m 86 #[.val (.int p0), .val (.int p1), .val (.int p2), .val (.long q3), .second, .val (.int p4), .val (.int p5), .val (.int (1 : Int32)), .val (.int nN), .val (.ref b10), .val (.ref b11), .val (.ref b12), .val (.ref b14), .unset, .unset] [(.ref b16)])
    refine Runs.back (fun t k => XS.astore X17.here hx rfl (hb hby at_86) rfl rfl (l' := #[.val (.int p0), .val (.int p1), .val (.int p2), .val (.long q3), .second, .val (.int p4), .val (.int p5), .val (.int (1 : Int32)), .val (.int nN), .val (.ref b10), .val (.ref b11), .val (.ref b12), .val (.ref b14), .val (.ref b16), .unset]) rfl k) ?_
    show Runs _ _ _ _ T17 (mkF m 88 #[.val (.int p0), .val (.int p1), .val (.int p2), .val (.long q3), .second, .val (.int p4), .val (.int p5), .val (.int (1 : Int32)), .val (.int nN), .val (.ref b10), .val (.ref b11), .val (.ref b12), .val (.ref b14), .val (.ref b16), .unset] [])
    refine Runs.back (fun t k => XS.iload X17.here hx rfl (hb hby at_88) rfl k) ?_
    show Runs _ _ _ _ T17 (mkF m 90 #[.val (.int p0), .val (.int p1), .val (.int p2), .val (.long q3), .second, .val (.int p4), .val (.int p5), .val (.int (1 : Int32)), .val (.int nN), .val (.ref b10), .val (.ref b11), .val (.ref b12), .val (.ref b14), .val (.ref b16), .unset] [(.int (1 : Int32))])
    refine Runs.back (fun t k => XS.ifNo X17.here hx rfl (hb hby at_90) rfl ((if0 _ _).trans (feq (show ¬ ((1 : Int32) = (0 : Int32)) from (by decide))).1) k) ?_
    show Runs _ _ _ _ T17 (mkF m 93 #[.val (.int p0), .val (.int p1), .val (.int p2), .val (.long q3), .second, .val (.int p4), .val (.int p5), .val (.int (1 : Int32)), .val (.int nN), .val (.ref b10), .val (.ref b11), .val (.ref b12), .val (.ref b14), .val (.ref b16), .unset] [])
    refine Runs.back (fun t k => XS.bipush X17.here hx rfl (hb hby at_93) k) ?_
    show Runs _ _ _ _ T17 (mkF m 95 #[.val (.int p0), .val (.int p1), .val (.int p2), .val (.long q3), .second, .val (.int p4), .val (.int p5), .val (.int (1 : Int32)), .val (.int nN), .val (.ref b10), .val (.ref b11), .val (.ref b12), .val (.ref b14), .val (.ref b16), .unset] [(.int (77 : Int32))])
    refine Runs.back (fun t k => XS.iload X17.here hx rfl (hb hby at_95) rfl k) ?_
    show Runs _ _ _ _ T17 (mkF m 97 #[.val (.int p0), .val (.int p1), .val (.int p2), .val (.long q3), .second, .val (.int p4), .val (.int p5), .val (.int (1 : Int32)), .val (.int nN), .val (.ref b10), .val (.ref b11), .val (.ref b12), .val (.ref b14), .val (.ref b16), .unset] [(.int nN), (.int (77 : Int32))])
    refine Runs.back (fun t k => XS.iadd X17.here hx rfl (hb hby at_97) rfl k) ?_
    show Runs _ _ _ _ T17 (mkF m 98 #[.val (.int p0), .val (.int p1), .val (.int p2), .val (.long q3), .second, .val (.int p4), .val (.int p5), .val (.int (1 : Int32)), .val (.int nN), .val (.ref b10), .val (.ref b11), .val (.ref b12), .val (.ref b14), .val (.ref b16), .unset] [(.int ((77 : Int32) + nN))])
    refine Runs.back (fun t k => XS.goto X17.here hx rfl (pc0 := 98) (pc' := 106) rfl (hb hby at_98) (by decide) (by decide) k) ?_
    show Runs _ _ _ _ T17 (mkF m 106 #[.val (.int p0), .val (.int p1), .val (.int p2), .val (.long q3), .second, .val (.int p4), .val (.int p5), .val (.int (1 : Int32)), .val (.int nN), .val (.ref b10), .val (.ref b11), .val (.ref b12), .val (.ref b14), .val (.ref b16), .unset] [(.int ((77 : Int32) + nN))])
    refine Runs.back (fun t k => XS.istore X17.here hx rfl (hb hby at_106) rfl (l' := #[.val (.int p0), .val (.int p1), .val (.int p2), .val (.long q3), .second, .val (.int p4), .val (.int p5), .val (.int (1 : Int32)), .val (.int nN), .val (.ref b10), .val (.ref b11), .val (.ref b12), .val (.ref b14), .val (.ref b16), .val (.int ((77 : Int32) + nN))]) rfl k) ?_
    show Runs _ _ _ _ T17 (mkF m 108 #[.val (.int p0), .val (.int p1), .val (.int p2), .val (.long q3), .second, .val (.int p4), .val (.int p5), .val (.int (1 : Int32)), .val (.int nN), .val (.ref b10), .val (.ref b11), .val (.ref b12), .val (.ref b14), .val (.ref b16), .val (.int ((77 : Int32) + nN))] [])
    refine Runs.back (fun t k => XS.aload X17.here hx rfl (hb hby at_108) rfl rfl k) ?_
    show Runs _ _ _ _ T17 (mkF m 110 #[.val (.int p0), .val (.int p1), .val (.int p2), .val (.long q3), .second, .val (.int p4), .val (.int p5), .val (.int (1 : Int32)), .val (.int nN), .val (.ref b10), .val (.ref b11), .val (.ref b12), .val (.ref b14), .val (.ref b16), .val (.int ((77 : Int32) + nN))] [(.ref b16)])
    obtain ⟨cq18, kq18, q18a, q18b, q18c⟩ := isOf hZ rfl fE17
    obtain ⟨_, _, ⟨T18, L18, k18, n18⟩, -, X18, ⟨Lc18, hQ18, l18, y18, z18⟩, st18⟩ := X17.virtualBack hx (y := (⟨"com/example/ubique/ubique/Frame", "length", "()I"⟩ : MethodName)) (z := (⟨"com/example/ubique/ubique/Frame", "length", "()I"⟩ : MethodName)) hown (mvT hZ (hw _ (List.mem_of_getElem? (i := 40) rfl))) (mvT hZ (hw _ (List.mem_of_getElem? (i := 41) rfl))) (notFace_of_selects (args := #[]) (mvT hZ (hw _ (List.mem_of_getElem? (i := 43) rfl)))) (mvT hZ (hw _ (List.mem_of_getElem? (i := 43) rfl))) (mvT hZ (hw _ (List.mem_of_getElem? (i := 42) rfl))) (by decide) (backOf (W := 0) (rm5t l Z a0 hw [] b16 b11 b10 _ _ nN T17.heap n0 (Z17) fT17 fP17 f17_Arr_0 zN) hZ (hw _ (List.mem_of_getElem? (i := 44) rfl)) (hw _ (List.mem_of_getElem? (i := 21) rfl)) (by decide) (by decide)) q18a q18c (g := (mkF m 110 #[.val (.int p0), .val (.int p1), .val (.int p2), .val (.long q3), .second, .val (.int p4), .val (.int p5), .val (.int (1 : Int32)), .val (.int nN), .val (.ref b10), .val (.ref b11), .val (.ref b12), .val (.ref b14), .val (.ref b16), .val (.int ((77 : Int32) + nN))] [(.ref b16)])) rfl (by rw [hml]; rfl) (Steps.refl _) (argsL := []) (rest := []) (lenOf pd0_2 rfl) rfl (by show 2 * 0 + _ ≤ _; exact Nat.le_of_eq rfl) (hb hby at_110) (fun _ _ => ⟨rfl, rfl, (by decide : 5 + 0 ≤ _), (by decide : 58 + 0 ≤ _)⟩)
    dsimp only [Pt.U, Pt.locs, Pt.cells, Pt.slots] at X18 l18 y18 z18 st18 hQ18
    subst l18 y18 z18
    obtain ⟨rfl, N18q, eq18⟩ := hQ18
    have N18 := Fr.app N17 N18q
    refine Runs.trans st18 ?_
    show Runs _ _ _ _ T18 (mkF m 113 #[.val (.int p0), .val (.int p1), .val (.int p2), .val (.long q3), .second, .val (.int p4), .val (.int p5), .val (.int (1 : Int32)), .val (.int nN), .val (.ref b10), .val (.ref b11), .val (.ref b12), .val (.ref b14), .val (.ref b16), .val (.int ((77 : Int32) + nN))] [(.int (((45 : Int32) + (32 : Int32)) + nN))])
    refine Runs.back (fun t k => XS.iload X18.here hx rfl (hb hby at_113) rfl k) ?_
    show Runs _ _ _ _ T18 (mkF m 115 #[.val (.int p0), .val (.int p1), .val (.int p2), .val (.long q3), .second, .val (.int p4), .val (.int p5), .val (.int (1 : Int32)), .val (.int nN), .val (.ref b10), .val (.ref b11), .val (.ref b12), .val (.ref b14), .val (.ref b16), .val (.int ((77 : Int32) + nN))] [(.int ((77 : Int32) + nN)), (.int (((45 : Int32) + (32 : Int32)) + nN))])
    refine Runs.back (fun t k => XS.icmpNo X18.here hx rfl (hb hby at_115) rfl (teq (show (((45 : Int32) + (32 : Int32)) + nN) = ((77 : Int32) + nN) from (len77 nN))).2 k) ?_
    show Runs _ _ _ _ T18 (mkF m 118 #[.val (.int p0), .val (.int p1), .val (.int p2), .val (.long q3), .second, .val (.int p4), .val (.int p5), .val (.int (1 : Int32)), .val (.int nN), .val (.ref b10), .val (.ref b11), .val (.ref b12), .val (.ref b14), .val (.ref b16), .val (.int ((77 : Int32) + nN))] [])
    refine Runs.back (fun t k => XS.iconst X18.here hx rfl (hb hby at_118) k) ?_
    show Runs _ _ _ _ T18 (mkF m 119 #[.val (.int p0), .val (.int p1), .val (.int p2), .val (.long q3), .second, .val (.int p4), .val (.int p5), .val (.int (1 : Int32)), .val (.int nN), .val (.ref b10), .val (.ref b11), .val (.ref b12), .val (.ref b14), .val (.ref b16), .val (.int ((77 : Int32) + nN))] [(.int (1 : Int32))])
    refine Runs.back (fun t k => XS.goto X18.here hx rfl (pc0 := 119) (pc' := 123) rfl (hb hby at_119) (by decide) (by decide) k) ?_
    show Runs _ _ _ _ T18 (mkF m 123 #[.val (.int p0), .val (.int p1), .val (.int p2), .val (.long q3), .second, .val (.int p4), .val (.int p5), .val (.int (1 : Int32)), .val (.int nN), .val (.ref b10), .val (.ref b11), .val (.ref b12), .val (.ref b14), .val (.ref b16), .val (.int ((77 : Int32) + nN))] [(.int (1 : Int32))])
    obtain ⟨fs, hr, hrun, hended, hW, hsame⟩ := X18.leave (v := some (.int (1 : Int32))) (fun h => by rw [Bd.returns] at h; cases h)
    exact ⟨_, _, (retN X18 hx (t := .boolean) Bd.returns (by simp) (hb hby at_123) hr), hrun, hended, _, _, rfl, ⟨rfl, N18⟩, ⟨_, rfl⟩, hW, hsame.mono (by decide) (by decide)⟩
set_option maxRecDepth 65536 in
set_option maxHeartbeats 40000000 in
theorem comes_1 {Post : Tables → Env → Array Value → State → Outcome → State → Prop} (hpost : ∀ tb e args s v u, (limb_1_1.after args s (.returned v) u = true ∧ limb_1_2.after args s (.returned v) u = true ∧ True) → FrameEnd s (.returned v) u (Jvm.fieldLocs frame_1_writes args s ++ Jvm.arrayLocs frame_1_arrays args s ++ Jvm.staticLocs frame_1_statics s) 24 192 → Post tb e args s (.returned v) u) :
    ArmFor flags0 classFile x code maxLocals ret World_1 tables_1 room_1 Calls_1 rest_1 Pre_1 Post := by
  intro l hfl _ _ p e ha hc hk s m args below hf hA hF happ hP
  obtain ⟨hcalls, hrest, hpre⟩ := hP
  obtain ⟨-, -, -, hnamed, -, -, -, hat⟩ := (Spec.applies_iff hf).mp happ
  obtain ⟨hg, hn⟩ := and_e (Cond.before_iff.mp (show (Jvm.Cond.and given_1 narrow_1).before args s = true from hpre))
  obtain ⟨g0, gr0⟩ := and_e hg
  obtain ⟨g1, gr1⟩ := and_e gr0
  obtain ⟨g2, gr2⟩ := and_e gr1
  obtain ⟨g3, gr3⟩ := and_e gr2
  obtain ⟨g4, gr4⟩ := and_e gr3
  obtain ⟨g5, gr5⟩ := and_e gr4
  obtain ⟨w0, w1, w2, w3, w4, w5, rfl⟩ : ∃ w0 w1 w2 w3 w4 w5 : Value, args = #[w0, w1, w2, w3, w4, w5] := by
    have hs : args.size = 6 := by simpa [Cond.value, given_1] using g0
    obtain ⟨L⟩ := args
    match L, hs with
    | [w0, w1, w2, w3, w4, w5], _ => exact ⟨w0, w1, w2, w3, w4, w5, rfl⟩
  have hw := fun d (hd : d ∈ tables_1) => atoms_spec (ws := Jvm.Cond.code x code maxLocals ret :: tables_1) hat d (List.mem_cons_of_mem _ hd)
  obtain ⟨i0, ei0⟩ := is_v g1
  obtain rfl : w0 = (.int i0) := Option.some.inj ei0
  obtain ⟨i1, ei1⟩ := is_v g2
  obtain rfl : w1 = (.int i1) := Option.some.inj ei1
  obtain ⟨i2, ei2⟩ := is_v g3
  obtain rfl : w2 = (.int i2) := Option.some.inj ei2
  obtain ⟨i3, ei3⟩ := isL_v g4
  obtain rfl : w3 = (.long i3) := Option.some.inj ei3
  obtain ⟨i4, ei4⟩ := is_v g5
  obtain rfl : w4 = (.int i4) := Option.some.inj ei4
  obtain ⟨i5, ei5⟩ := is_v gr5
  obtain rfl : w5 = (.int i5) := Option.some.inj ei5
  obtain ⟨n, o, h1, h2, h3, _, L, rfl, ⟨rfl, N⟩, hq⟩ := rm0 l s _ hw tables_1 i0 i1 i2 i3 i4 i5 s.heap s.heap.size (Nat.le_refl _) p e ha hc hk s m _ below hf ((Spec.applies_iff_loose hf).mp happ).1 ⟨rfl, State.Warmed39.refl s, rfl⟩ trivial
  refine ⟨n, _, h1, h2, h3, hpost _ _ _ _ _ _ ⟨Cond.after_iff.mpr rfl, Cond.after_iff.mpr (eq_i res_at (Term.int_eval (1)) rfl), trivial⟩ ⟨hq.1, hq.2.1, (hq.2.2.sift fun y hy => Or.inr (N y hy)).mono (by decide) (by decide)⟩⟩
theorem main_1_1 : Claimed_1_1 := comes_1 fun _ _ _ _ _ _ h hF => ⟨h.1, hF⟩
theorem main_1_2 : Claimed_1_2 := comes_1 fun _ _ _ _ _ _ h hF => ⟨h.2.1, hF⟩
end Jvm.Pilot.@@N@@
namespace Jvm.Pilot.@@N@@
open Jvm Jvm.ClassFile Sem Op Lib Jvm.Free Jvm.Stand Jvm.Pilot.@@N@@.Jvm.D
/-! MADE BY PROGRAM (witnessworld.py) out of the Statement's table words and the real class files: 11 classes; the members and pool entries that the words name. The judged class is class 1, her method 1. -/
namespace start1
open Jvm.ClassFile
def u (s : String) : CpInfo := .utf8 (stringToUtf16 s)
/-- a pool by its gaps: so many unusable entries, then the entry; so many at the end -/
def gap : Nat → List CpInfo → List CpInfo
  | 0, r => r
  | n + 1, r => .unusable :: gap n r
def poolList (es : List (Nat × CpInfo)) (last : Nat) : List CpInfo := es.foldr (fun e r => gap e.1 (e.2 :: r)) (gap last [])
def pool (es : List (Nat × CpInfo)) (last : Nat) : Array CpInfo := ⟨poolList es last⟩
def fileOf (pool : Array CpInfo) (this : Nat) (attrs : Array Attribute := #[]) (ms : Array MethodInfo := #[]) (fl : Nat := 33) (sup : Nat := 0) (ifs : Array Nat := #[]) (fds : Array FieldInfo := #[]) : ClassFile where
  minorVersion := 0
  majorVersion := 65
  constantPool := pool
  accessFlags := fl
  thisClass := this
  superClass := sup
  interfaces := ifs
  fields := fds
  methods := ms
  attributes := attrs
def plain (name : String) (sup : Option ClassId) : Class where
  name := name
  kind := .ordinary
  loader := none
  accessFlags := 33
  super := sup
  interfaces := #[]
  cf := none
  fields := #[]
  methods := #[]
  instanceTypes := #[]
  staticTypes := #[]
  resolved := #[]
  callSites := []
  init := .initialized
  statics := none
  mirror := none

def pool0 : Array CpInfo := pool [(5, u "<init>"), (0, u "()V"), (1, .class_ 10), (1, u "java/lang/Object")] 113

def k0c0 : Code := { maxStack := 0, maxLocals := 1, code := object_method_1_code, exceptionTable := #[], attributes := #[] }
def k0m0 : Method := { name := "<init>", desc := "()V", sig := { parameters := [], returnType := none }, accessFlags := 1, code := some k0c0 }
/-- java/lang/Object -/
def k0 : Class := { plain "java/lang/Object" none with
  accessFlags := 33
  interfaces := #[]
  cf := some (fileOf pool0 8 #[] #[{ accessFlags := 1, nameIndex := 5, descriptorIndex := 6, attributes := #[] }] 33 0 #[] #[])
  fields := #[]
  methods := #[k0m0]
  instanceTypes := #[]
  staticTypes := #[]
  resolved := Array.replicate 124 none
  statics := none }

def pool1 : Array CpInfo := pool [(2, .class_ 4), (1, u "java/lang/Object"), (0, u "<init>"), (0, u "()V"), (0, .class_ 8), (0, u "com/example/ubique/ubique/ProcessId"), (0, .methodref 7 10), (0, .nameAndType 5 11), (0, u "(JJ)V"), (0, .class_ 13), (0, u "com/example/ubique/ubique/Frame"), (0, .methodref 12 15), (0, .nameAndType 5 16), (0, u "(IIILcom/example/ubique/ubique/ProcessId;Lcom/example/ubique/ubique/ProcessId;[B[B)V"), (0, .methodref 12 18), (0, .nameAndType 19 20), (0, u "length"), (0, u "()I"), (0, .class_ 22), (0, u "com/example/ubique/ubique/FrameLengthPinLaw"), (2, u "law"), (0, u "(IIIJII)Z")] 5

def k1m0 : Method := { name := "<init>", desc := "()V", sig := { parameters := [], returnType := none }, accessFlags := 1, code := none }
def k1c1 : Code := { maxStack := 9, maxLocals := 15, code := code, exceptionTable := #[], attributes := #[] }
def k1m1 : Method := { name := "law", desc := "(IIIJII)Z", sig := { parameters := [.int, .int, .int, .long, .int, .int], returnType := some .boolean }, accessFlags := 9, code := some k1c1 }
/-- com/example/ubique/ubique/FrameLengthPinLaw -/
def k1 : Class := { plain "com/example/ubique/ubique/FrameLengthPinLaw" (some 0) with
  accessFlags := 49
  interfaces := #[]
  cf := some (fileOf pool1 21 #[] #[{ accessFlags := 1, nameIndex := 5, descriptorIndex := 6, attributes := #[] }, { accessFlags := 9, nameIndex := 25, descriptorIndex := 26, attributes := #[] }] 49 2 #[] #[])
  fields := #[]
  methods := #[k1m0, k1m1]
  instanceTypes := #[]
  staticTypes := #[]
  resolved := Array.replicate 32 none
  statics := none }

def pool2 : Array CpInfo := pool [(1, .methodref 2 3), (0, .class_ 4), (0, .nameAndType 5 6), (0, u "java/lang/Object"), (0, u "<init>"), (0, u "()V"), (0, .class_ 8), (0, u "java/lang/Record")] 13

def k2c0 : Code := { maxStack := 1, maxLocals := 1, code := jdk_30_method_1_code, exceptionTable := #[], attributes := #[] }
def k2m0 : Method := { name := "<init>", desc := "()V", sig := { parameters := [], returnType := none }, accessFlags := 4, code := some k2c0 }
/-- java/lang/Record -/
def k2 : Class := { plain "java/lang/Record" (some 0) with
  accessFlags := 1057
  interfaces := #[]
  cf := some (fileOf pool2 7 #[] #[{ accessFlags := 4, nameIndex := 5, descriptorIndex := 6, attributes := #[] }] 1057 2 #[] #[])
  fields := #[]
  methods := #[k2m0]
  instanceTypes := #[]
  staticTypes := #[]
  resolved := Array.replicate 22 none
  statics := none }

def pool3 : Array CpInfo := pool [(1, .methodref 2 3), (0, .class_ 4), (0, .nameAndType 5 6), (0, u "java/lang/Record"), (0, u "<init>"), (0, u "()V"), (0, .fieldref 8 9), (0, .class_ 10), (0, .nameAndType 11 12), (0, u "com/example/ubique/ubique/ProcessId"), (0, u "node"), (0, u "J"), (0, .fieldref 8 14), (0, .nameAndType 15 12), (0, u "process"), (21, u "(JJ)V"), (34, u "NONE"), (0, u "Lcom/example/ubique/ubique/ProcessId;"), (0, u "LENGTH"), (0, u "I")] 33

def k3c0 : Code := { maxStack := 3, maxLocals := 5, code := prog_80_method_1_code, exceptionTable := #[], attributes := #[] }
def k3m0 : Method := { name := "<init>", desc := "(JJ)V", sig := { parameters := [.long, .long], returnType := none }, accessFlags := 0, code := some k3c0 }
/-- com/example/ubique/ubique/ProcessId -/
def k3 : Class := { plain "com/example/ubique/ubique/ProcessId" (some 2) with
  accessFlags := 48
  interfaces := #[]
  cf := some (fileOf pool3 8 #[] #[{ accessFlags := 0, nameIndex := 5, descriptorIndex := 37, attributes := #[] }] 48 2 #[] #[{ accessFlags := 18, nameIndex := 11, descriptorIndex := 12, attributes := #[] }, { accessFlags := 18, nameIndex := 15, descriptorIndex := 12, attributes := #[] }, { accessFlags := 24, nameIndex := 74, descriptorIndex := 75, attributes := #[] }, { accessFlags := 24, nameIndex := 72, descriptorIndex := 73, attributes := #[] }])
  fields := #[{ name := "node", type := .long, accessFlags := 18, slot := 0, constantValue := 0 }, { name := "process", type := .long, accessFlags := 18, slot := 1, constantValue := 0 }, { name := "LENGTH", type := .int, accessFlags := 24, slot := 0, constantValue := 0 }, { name := "NONE", type := (.object "com/example/ubique/ubique/ProcessId"), accessFlags := 24, slot := 1, constantValue := 0 }]
  methods := #[k3m0]
  instanceTypes := #[.long, .long]
  staticTypes := #[.int, (.object "com/example/ubique/ubique/ProcessId")]
  resolved := Array.replicate 109 none
  statics := none }

def pool4 : Array CpInfo := pool [(1, .methodref 2 3), (0, .class_ 4), (0, .nameAndType 5 6), (0, u "java/lang/Object"), (0, u "<init>"), (0, u "()V"), (0, .fieldref 8 9), (0, .class_ 10), (0, .nameAndType 11 12), (0, u "com/example/ubique/ubique/Frame"), (0, u "flags"), (0, u "I"), (0, .fieldref 8 14), (0, .nameAndType 15 12), (0, u "type"), (0, .fieldref 8 17), (0, .nameAndType 18 12), (0, u "version"), (0, .fieldref 8 20), (0, .nameAndType 21 22), (0, u "source"), (0, u "Lcom/example/ubique/ubique/ProcessId;"), (0, .fieldref 8 24), (0, .nameAndType 25 22), (0, u "destination"), (0, .fieldref 8 27), (0, .nameAndType 28 29), (0, u "token"), (0, u "[B"), (0, .fieldref 8 31), (0, .nameAndType 32 29), (0, u "payload"), (7, u "(IIILcom/example/ubique/ubique/ProcessId;Lcom/example/ubique/ubique/ProcessId;[B[B)V"), (9, u "()I"), (94, u "length"), (69, u "HEADER_LENGTH"), (2, u "MAX_PAYLOAD"), (1, u "MAX_NODE_PAYLOAD"), (1, u "MAGIC"), (1, u "FLAG_TOKEN"), (1, u "TOKEN_LENGTH"), (1, u "FLAGS_AT"), (1, u "TYPE_AT"), (1, u "VERSION_AT"), (1, u "LENGTH_AT"), (1, u "SOURCE_AT"), (1, u "DESTINATION_AT")] 47

def k4c0 : Code := { maxStack := 2, maxLocals := 8, code := prog_27_method_1_code, exceptionTable := #[], attributes := #[] }
def k4m0 : Method := { name := "<init>", desc := "(IIILcom/example/ubique/ubique/ProcessId;Lcom/example/ubique/ubique/ProcessId;[B[B)V", sig := { parameters := [.int, .int, .int, (.object "com/example/ubique/ubique/ProcessId"), (.object "com/example/ubique/ubique/ProcessId"), (.array .byte), (.array .byte)], returnType := none }, accessFlags := 0, code := some k4c0 }
def k4c1 : Code := { maxStack := 2, maxLocals := 1, code := prog_27_method_9_code, exceptionTable := #[], attributes := #[] }
def k4m1 : Method := { name := "length", desc := "()I", sig := { parameters := [], returnType := some .int }, accessFlags := 0, code := some k4c1 }
/-- com/example/ubique/ubique/Frame -/
def k4 : Class := { plain "com/example/ubique/ubique/Frame" (some 0) with
  accessFlags := 48
  interfaces := #[]
  cf := some (fileOf pool4 8 #[] #[{ accessFlags := 0, nameIndex := 5, descriptorIndex := 40, attributes := #[] }, { accessFlags := 0, nameIndex := 145, descriptorIndex := 50, attributes := #[] }] 48 2 #[] #[{ accessFlags := 24, nameIndex := 215, descriptorIndex := 12, attributes := #[] }, { accessFlags := 24, nameIndex := 218, descriptorIndex := 12, attributes := #[] }, { accessFlags := 24, nameIndex := 220, descriptorIndex := 12, attributes := #[] }, { accessFlags := 24, nameIndex := 222, descriptorIndex := 12, attributes := #[] }, { accessFlags := 24, nameIndex := 224, descriptorIndex := 12, attributes := #[] }, { accessFlags := 24, nameIndex := 226, descriptorIndex := 12, attributes := #[] }, { accessFlags := 24, nameIndex := 228, descriptorIndex := 12, attributes := #[] }, { accessFlags := 24, nameIndex := 230, descriptorIndex := 12, attributes := #[] }, { accessFlags := 24, nameIndex := 232, descriptorIndex := 12, attributes := #[] }, { accessFlags := 24, nameIndex := 234, descriptorIndex := 12, attributes := #[] }, { accessFlags := 24, nameIndex := 236, descriptorIndex := 12, attributes := #[] }, { accessFlags := 24, nameIndex := 238, descriptorIndex := 12, attributes := #[] }, { accessFlags := 18, nameIndex := 11, descriptorIndex := 12, attributes := #[] }, { accessFlags := 18, nameIndex := 15, descriptorIndex := 12, attributes := #[] }, { accessFlags := 18, nameIndex := 18, descriptorIndex := 12, attributes := #[] }, { accessFlags := 18, nameIndex := 21, descriptorIndex := 22, attributes := #[] }, { accessFlags := 18, nameIndex := 25, descriptorIndex := 22, attributes := #[] }, { accessFlags := 18, nameIndex := 28, descriptorIndex := 29, attributes := #[] }, { accessFlags := 18, nameIndex := 32, descriptorIndex := 29, attributes := #[] }])
  fields := #[{ name := "HEADER_LENGTH", type := .int, accessFlags := 24, slot := 0, constantValue := 0 }, { name := "MAX_PAYLOAD", type := .int, accessFlags := 24, slot := 1, constantValue := 0 }, { name := "MAX_NODE_PAYLOAD", type := .int, accessFlags := 24, slot := 2, constantValue := 0 }, { name := "MAGIC", type := .int, accessFlags := 24, slot := 3, constantValue := 0 }, { name := "FLAG_TOKEN", type := .int, accessFlags := 24, slot := 4, constantValue := 0 }, { name := "TOKEN_LENGTH", type := .int, accessFlags := 24, slot := 5, constantValue := 0 }, { name := "FLAGS_AT", type := .int, accessFlags := 24, slot := 6, constantValue := 0 }, { name := "TYPE_AT", type := .int, accessFlags := 24, slot := 7, constantValue := 0 }, { name := "VERSION_AT", type := .int, accessFlags := 24, slot := 8, constantValue := 0 }, { name := "LENGTH_AT", type := .int, accessFlags := 24, slot := 9, constantValue := 0 }, { name := "SOURCE_AT", type := .int, accessFlags := 24, slot := 10, constantValue := 0 }, { name := "DESTINATION_AT", type := .int, accessFlags := 24, slot := 11, constantValue := 0 }, { name := "flags", type := .int, accessFlags := 18, slot := 0, constantValue := 0 }, { name := "type", type := .int, accessFlags := 18, slot := 1, constantValue := 0 }, { name := "version", type := .int, accessFlags := 18, slot := 2, constantValue := 0 }, { name := "source", type := (.object "com/example/ubique/ubique/ProcessId"), accessFlags := 18, slot := 3, constantValue := 0 }, { name := "destination", type := (.object "com/example/ubique/ubique/ProcessId"), accessFlags := 18, slot := 4, constantValue := 0 }, { name := "token", type := (.array .byte), accessFlags := 18, slot := 5, constantValue := 0 }, { name := "payload", type := (.array .byte), accessFlags := 18, slot := 6, constantValue := 0 }]
  methods := #[k4m0, k4m1]
  instanceTypes := #[.int, .int, .int, (.object "com/example/ubique/ubique/ProcessId"), (.object "com/example/ubique/ubique/ProcessId"), (.array .byte), (.array .byte)]
  staticTypes := #[.int, .int, .int, .int, .int, .int, .int, .int, .int, .int, .int, .int]
  resolved := Array.replicate 286 none
  statics := none }

def pool5 : Array CpInfo := pool [(1, u "java/lang/Cloneable"), (0, .class_ 1), (0, u "java/lang/Object"), (0, .class_ 3)] 3

/-- java/lang/Cloneable -/
def k5 : Class := { plain "java/lang/Cloneable" (some 0) with
  accessFlags := 1537
  interfaces := #[]
  cf := some (fileOf pool5 2 #[] #[] 1537 4 #[] #[])
  fields := #[]
  methods := #[]
  instanceTypes := #[]
  staticTypes := #[]
  resolved := Array.replicate 8 none
  statics := none }

def pool6 : Array CpInfo := pool [(1, u "java/io/Serializable"), (0, .class_ 1), (0, u "java/lang/Object"), (0, .class_ 3)] 3

/-- java/io/Serializable -/
def k6 : Class := { plain "java/io/Serializable" (some 0) with
  accessFlags := 1537
  interfaces := #[]
  cf := some (fileOf pool6 2 #[] #[] 1537 4 #[] #[])
  fields := #[]
  methods := #[]
  instanceTypes := #[]
  staticTypes := #[]
  resolved := Array.replicate 8 none
  statics := none }

/-- the primitive byte -/
def k7 : Class := { plain "byte" none with kind := .primitive 'B', accessFlags := 0x411 }
/-- [B -/
def k8 : Class := { plain "[B" (some 0) with kind := .array 7 .byte, interfaces := #[5, 6], accessFlags := 1041 }

/-- the primitive int -/
def k9 : Class := { plain "int" none with kind := .primitive 'I', accessFlags := 0x411 }
/-- [I -/
def k10 : Class := { plain "[I" (some 0) with kind := .array 9 .int, interfaces := #[5, 6], accessFlags := 1041 }

def heap : Heap := #[]
def classes : Array Class := #[k0, k1, k2, k3, k4, k5, k6, k7, k8, k9, k10]
def interned : List (Array UInt16 × Addr) := []
def slotsUsed : Nat := 0
def theMethod : MethodId := ⟨1, 1⟩
def args0 : Array Value := #[.int 5, .int 6, .int 7, .long 8, .int 9, .int 10]
def aboutOver (below : List Frame) : State where
  vm := { classes := classes, interned := interned.toArray }
  heap := heap
  slotsUsed := slotsUsed
  threads := #[{ frames := .invoking theMethod args0 :: below }]
def below0 : List Frame := [.native { method := ⟨0, 0⟩, args := #[] }]
def about1 : State := aboutOver below0
def p0 : Program := .bare "" "" ""
def e0 : Env := launch0.env 0 0 0
theorem w_frames : about1.frames = Frame.invoking theMethod args0 :: below0 := rfl
set_option maxRecDepth 65536 in
theorem w_args : argsFit about1.vm theMethod args0 = true := by decide +kernel
set_option maxRecDepth 65536 in
theorem w_heap : heapFits about1 = true := by decide +kernel
set_option maxRecDepth 65536 in
theorem w_runnable : about1.curStatus? = some .runnable := by decide +kernel
set_option maxRecDepth 65536 in
theorem w_alone : about1.alone = true := by decide +kernel
set_option maxRecDepth 65536 in
theorem w_named : about1.methodNamed? x = some theMethod := by decide +kernel
set_option maxRecDepth 65536 in
theorem w_hears : about1.hears theMethod below0 = true := by decide +kernel
set_option maxRecDepth 65536 in
theorem w_ripe : about1.ripe theMethod args0 below0 = true := by decide +kernel
theorem w_running : about1.status = .running := rfl
set_option maxRecDepth 65536 in
theorem w_room : about1.hasRoom e0.platform room_1 = true :=
  launch0.hasRoom_least _ room_1 (by decide +kernel) (by decide +kernel) (by decide +kernel) (by decide +kernel) (by decide +kernel) (by decide +kernel)
theorem allAtoms_all (ts : List Jvm.Cond) (a : Array Jvm.Value) (st : Jvm.State) : (allAtoms ts).before a st = ts.all (fun c => c.before a st) := by
  induction ts with
  | nil => rfl
  | cons c t ih =>
    show (Jvm.Cond.and c (allAtoms t)).before a st = _
    rw [Jvm.Cond.before_and, ih, List.all_cons]
def words1 : List Jvm.Cond := Jvm.Cond.code x code maxLocals ret :: tables_1
/-- a 'code' word, met by the world's own term for the bytes: nothing is compared byte by byte -/
theorem code_word {y : MethodName} {bytes : ByteArray} {mx : Nat} {rt : Option FieldType} {a : Array Value} {s : State} {m : MethodId} {meth : Method} {c : Code} (h1 : s.methodNamed? y = some m) (h2 : s.vm.method? m = some meth) (h3 : meth.code = some c) (h4 : c.code = bytes)
    (h5 : (c.maxLocals == mx && c.exceptionTable.isEmpty && decide (c.maxStack ≤ mostOperands) && decide (meth.sig.returnType = rt) && !meth.locks && decide (parseMethodDescriptor y.desc = some meth.sig)) = true) : (Jvm.Cond.code y bytes mx rt).before a s = true := by
  simp only [Bool.and_eq_true, beq_iff_eq, Bool.not_eq_true', decide_eq_true_eq] at h5
  obtain ⟨⟨⟨⟨⟨g1, g2⟩, g3⟩, g4⟩, g5⟩, g6⟩ := h5
  simp [Cond.before, Cond.holds, Cond.value, h1, h2, h3, h4, g1, g2, g3, g4, g5, g6]
def isCode : Jvm.Cond → Bool
  | .code _ _ _ _ => true
  | _ => false
theorem all_split {L : List Jvm.Cond} {P : Jvm.Cond → Bool} (h1 : L.all (fun c => isCode c || P c) = true) (h2 : ∀ c ∈ L.filter isCode, P c = true) : L.all P = true := by
  refine List.all_eq_true.mpr fun c hc => ?_
  have h := List.all_eq_true.mp h1 c hc
  rcases Bool.eq_false_or_eq_true (isCode c) with hi | hi
  · exact h2 c (List.mem_filter.mpr ⟨hc, hi⟩)
  · simpa [hi] using h
set_option maxRecDepth 65536 in
theorem w_c0 : (Jvm.Cond.code x code maxLocals ret).before args0 about1 = true := code_word (m := ⟨1, 1⟩) (meth := k1m1) (c := k1c1) (by decide +kernel) rfl rfl rfl (by decide +kernel)
set_option maxRecDepth 65536 in
theorem w_c1 : (Jvm.Cond.code ({ cls := "com/example/ubique/ubique/ProcessId", name := "<init>", desc := "(JJ)V" } : Jvm.MethodName) prog_80_method_1_code (5 : Nat) (Option.none : Option Jvm.ClassFile.FieldType)).before args0 about1 = true := code_word (m := ⟨3, 0⟩) (meth := k3m0) (c := k3c0) (by decide +kernel) rfl rfl rfl (by decide +kernel)
set_option maxRecDepth 65536 in
theorem w_c2 : (Jvm.Cond.code ({ cls := "java/lang/Record", name := "<init>", desc := "()V" } : Jvm.MethodName) jdk_30_method_1_code (1 : Nat) (Option.none : Option Jvm.ClassFile.FieldType)).before args0 about1 = true := code_word (m := ⟨2, 0⟩) (meth := k2m0) (c := k2c0) (by decide +kernel) rfl rfl rfl (by decide +kernel)
set_option maxRecDepth 65536 in
theorem w_c3 : (Jvm.Cond.code ({ cls := "java/lang/Object", name := "<init>", desc := "()V" } : Jvm.MethodName) object_method_1_code (1 : Nat) (Option.none : Option Jvm.ClassFile.FieldType)).before args0 about1 = true := code_word (m := ⟨0, 0⟩) (meth := k0m0) (c := k0c0) (by decide +kernel) rfl rfl rfl (by decide +kernel)
set_option maxRecDepth 65536 in
theorem w_c4 : (Jvm.Cond.code ({ cls := "com/example/ubique/ubique/Frame", name := "<init>", desc := "(IIILcom/example/ubique/ubique/ProcessId;Lcom/example/ubique/ubique/ProcessId;[B[B)V" } : Jvm.MethodName) prog_27_method_1_code (8 : Nat) (Option.none : Option Jvm.ClassFile.FieldType)).before args0 about1 = true := code_word (m := ⟨4, 0⟩) (meth := k4m0) (c := k4c0) (by decide +kernel) rfl rfl rfl (by decide +kernel)
set_option maxRecDepth 65536 in
theorem w_c5 : (Jvm.Cond.code ({ cls := "com/example/ubique/ubique/Frame", name := "length", desc := "()I" } : Jvm.MethodName) prog_27_method_9_code (1 : Nat) (Option.some Jvm.ClassFile.FieldType.int)).before args0 about1 = true := code_word (m := ⟨4, 1⟩) (meth := k4m1) (c := k4c1) (by decide +kernel) rfl rfl rfl (by decide +kernel)
def codes1 : List Jvm.Cond := [Jvm.Cond.code x code maxLocals ret, Jvm.Cond.code ({ cls := "com/example/ubique/ubique/ProcessId", name := "<init>", desc := "(JJ)V" } : Jvm.MethodName) prog_80_method_1_code (5 : Nat) (Option.none : Option Jvm.ClassFile.FieldType), Jvm.Cond.code ({ cls := "java/lang/Record", name := "<init>", desc := "()V" } : Jvm.MethodName) jdk_30_method_1_code (1 : Nat) (Option.none : Option Jvm.ClassFile.FieldType), Jvm.Cond.code ({ cls := "java/lang/Object", name := "<init>", desc := "()V" } : Jvm.MethodName) object_method_1_code (1 : Nat) (Option.none : Option Jvm.ClassFile.FieldType), Jvm.Cond.code ({ cls := "com/example/ubique/ubique/Frame", name := "<init>", desc := "(IIILcom/example/ubique/ubique/ProcessId;Lcom/example/ubique/ubique/ProcessId;[B[B)V" } : Jvm.MethodName) prog_27_method_1_code (8 : Nat) (Option.none : Option Jvm.ClassFile.FieldType), Jvm.Cond.code ({ cls := "com/example/ubique/ubique/Frame", name := "length", desc := "()I" } : Jvm.MethodName) prog_27_method_9_code (1 : Nat) (Option.some Jvm.ClassFile.FieldType.int)]
set_option maxRecDepth 65536 in
theorem codes_eq : words1.filter isCode = codes1 := rfl
theorem w_codes : ∀ c ∈ words1.filter isCode, c.before args0 about1 = true := by
  rw [codes_eq]
  intro c hc
  simp only [codes1, List.mem_cons, List.not_mem_nil, or_false] at hc
  rcases hc with rfl | rfl | rfl | rfl | rfl | rfl
  · exact w_c0
  · exact w_c1
  · exact w_c2
  · exact w_c3
  · exact w_c4
  · exact w_c5
set_option maxRecDepth 65536 in
theorem w_t1 : (words1.take 24).all (fun c => isCode c || c.before args0 about1) = true := by decide +kernel
set_option maxRecDepth 65536 in
theorem w_t2 : (words1.drop 24).all (fun c => isCode c || c.before args0 about1) = true := by decide +kernel
theorem w_tables : (allAtoms (Jvm.Cond.code x code maxLocals ret :: tables_1)).before args0 about1 = true := by
  rw [allAtoms_all]
  show words1.all (fun c => c.before args0 about1) = true
  refine all_split ?_ w_codes
  rw [← List.take_append_drop 24 words1, List.all_append, w_t1, w_t2]
  rfl
set_option maxRecDepth 65536 in
theorem w_case : (Jvm.Cond.and given_1 narrow_1).before args0 about1 = true := by decide +kernel
theorem w_applies : (headSpec (Jvm.Cond.code x code maxLocals ret :: tables_1) room_1).applies x e0.platform about1 = true :=
  (Spec.applies_iff w_frames).mpr ⟨w_running, w_runnable, w_alone, w_named, w_hears, w_ripe, w_room, w_tables⟩
theorem atStart : AtStart classFile x code maxLocals ret World_1 tables_1 room_1 Calls_1 rest_1 Pre_1 launch0 p0 e0 about1 theMethod args0 below0 :=
  ⟨lists_1, trivial, launch0.admits_env _ _ _, launch0.least_env, fairChoices_fair.cas, fairChoices_fair.clock, w_frames, w_args, w_heap, w_applies, trivial, trivial, w_case⟩
end start1
theorem witness_1 : WitnessClaimed_1 := ⟨start1.p0, start1.e0, start1.about1, start1.theMethod, start1.args0, start1.below0, start1.atStart⟩
end Jvm.Pilot.@@N@@
