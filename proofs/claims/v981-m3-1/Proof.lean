import JvmDerived
import JvmDerived.Pilot.@@N@@Statement
import JvmDerived.Pilot.@@N@@Code
set_option linter.unusedVariables false
set_option linter.unusedSimpArgs false
namespace Jvm.RoadKit
open Sem ClassFile Op Lib Jvm.Stand Jvm.Free Jvm.LawKit
section New
variable {p : Program} {l : Launch} {e : Env} {R : Room} {s : State} {m : MethodId} {args : Array Value} {below : List Frame} {meth : Method} {c : Code} {T : State} {locs : List Loc} {cells slots : Nat}
theorem retI (X : Stand p l e R s m args below meth c T locs cells slots) (hx : p.tables.exec = Jvm.exec) {pc : Nat} {Ls : Array Slot} {z : Int32} {rest : List Value} (hret : meth.sig.returnType = some .int) (hd : decode c.code pc = .ok (.ireturn, 1)) {fs : List Frame}
    (hl : ∀ (f : JFrame) (acts : List Action), f.method = m → f.locked = none → f.entered = [] → (doReturn e (T.setTop f) acts (some (.int z))).1 = T.setFrames fs) : Steps p.tables e below (T.setTop (mkF m pc Ls (.int z :: rest))) (T.setFrames fs) := by
  have hm' : T.vm.method? m = some meth := X.method'
  have hn : narrow .int (.int z) = .int z := rfl
  show Steps p.tables e below (T.setTop { method := m, pc := pc, locals := Ls, stack := _ :: rest, locked := none }) _
  jvm_step X.here [X.here.top, hx, hd, hm', hret, hn]
  first | (intro acts; rw [hl _ acts rfl rfl rfl]) | rw [hl _ _ rfl rfl rfl]
  exact Steps.refl _
end New
end Jvm.RoadKit
namespace Jvm.Pilot.@@N@@
open Jvm Jvm.ClassFile Sem Op Lib Jvm.Free Jvm.Stand Jvm.LawKit Jvm.RoadKit Bundle Jvm.Pilot.@@N@@.Jvm.D
/-! the own kit: a run told backwards (Runs), arrays by a function of the place (OArr), the comparisons of longs -/
def Runs (tb : Tables) (e : Env) (below : List Frame) (R : State → Outcome → Prop) (T : State) (g : JFrame) : Prop := ∃ t o, Steps tb e below (T.setTop g) t ∧ R t o
section Own
variable {tb : Tables} {e : Env} {below : List Frame} {R : State → Outcome → Prop} {T T' : State} {g g' : JFrame}
theorem Runs.back (k : ∀ t, Steps tb e below (T'.setTop g') t → Steps tb e below (T.setTop g) t) (h : Runs tb e below R T' g') : Runs tb e below R T g := by
  obtain ⟨t, o, h1, h2⟩ := h; exact ⟨t, o, k t h1, h2⟩
theorem Runs.trans (k : Steps tb e below (T.setTop g) (T'.setTop g')) (h : Runs tb e below R T' g') : Runs tb e below R T g := by
  obtain ⟨t, o, h1, h2⟩ := h; exact ⟨t, o, Steps.trans k h1, h2⟩
theorem Runs.enter (q : g = g') (h : Runs tb e below R T g') : ∃ t o, Steps tb e below (T.setTop g) t ∧ R t o := by subst q; exact h
theorem Runs.join {α : Type} {P : α → Prop} {F : α → JFrame} (h : ∀ v, P v → Runs tb e below R T (F v)) (k : (∀ v, P v → Runs tb e below R T (F v)) → Runs tb e below R T g) : Runs tb e below R T g := k h
theorem Runs.joinT {α : Type} {P : α → State → Prop} {F : α → JFrame} (h : ∀ v T', P v T' → Runs tb e below R T' (F v)) (k : (∀ v T', P v T' → Runs tb e below R T' (F v)) → Runs tb e below R T g) : Runs tb e below R T g := k h
theorem lcT {x y : Int64} (h : x < y) : lcmpW x y < 0 := by
  have h1 : ¬ y < x := Int64.not_lt.mpr (Int64.le_of_lt h)
  have h2 : ¬ x = y := fun q => by subst q; exact Int64.lt_irrefl h
  simp [lcmpW, h1, h2]
theorem lcF {x y : Int64} (h : ¬ x < y) : ¬ lcmpW x y < 0 := by
  unfold lcmpW
  by_cases h1 : x > y
  · simp only [if_pos h1]; decide
  · have h2 : x = y := Int64.le_antisymm (Int64.not_lt.mp h1) (Int64.not_lt.mp h)
    simp only [if_neg h1, if_pos h2]; decide
theorem lcT' {x y : Int64} (h : y < x) : 0 < lcmpW x y := by
  unfold lcmpW; rw [if_pos h]; decide
theorem lcF' {x y : Int64} (h : ¬ y < x) : ¬ 0 < lcmpW x y := by
  unfold lcmpW
  have h1 : ¬ x > y := h
  simp only [if_neg h1]
  by_cases h2 : x = y
  · simp only [if_pos h2]; decide
  · simp only [if_neg h2]; decide
theorem lcE {x y : Int64} (h : x = y) : lcmpW x y = 0 := by
  have h1 : ¬ x > y := fun q => by subst h; exact Int64.lt_irrefl q
  unfold lcmpW; rw [if_neg h1, if_pos h]
theorem lcN {x y : Int64} (h : ¬ x = y) : ¬ lcmpW x y = 0 := by
  unfold lcmpW
  by_cases h1 : x > y
  · simp only [if_pos h1]; decide
  · simp only [if_neg h1, if_neg h]; decide
def OArr (Z : State) (h : Heap) (a : Addr) (ty : FieldType) (n : Nat) (f : Nat → Value) : Prop := ∃ c : Cell, Arr Z h a c ty ∧ c.slots.size = n ∧ ∀ i, i < n → c.slots[i]? = some (f i)
variable {Z : State} {h h' : Heap} {a b : Addr} {ty : FieldType} {n sl : Nat} {f : Nat → Value} {v : Value} {ws : List Addr}
theorem OArr.lt (F : OArr Z h a ty n f) : a < h.size := by obtain ⟨c, A, -⟩ := F; exact A.lt
theorem OArr.ext (F : OArr Z h a ty n f) (E : Ext h h') : OArr Z h' a ty n f := by obtain ⟨c, A, r⟩ := F; exact ⟨c, A.ext E, r⟩
theorem OArr.other (F : OArr Z h b ty n f) (W : Wr h h' a sl v) (q : b ≠ a) : OArr Z h' b ty n f := by obtain ⟨c, A, r⟩ := F; exact ⟨c, A.other W q, r⟩
theorem OArr.keep (F : OArr Z h a ty n f) (K : Keep h h' ws) (q : a ∉ ws) : OArr Z h' a ty n f := by obtain ⟨c, A, r⟩ := F; exact ⟨c, ⟨K.2.1 a c A.1 q, A.2⟩, r⟩
theorem OArr.congr (F : OArr Z h a ty n f) {f' : Nat → Value} (q : ∀ i, i < n → f i = f' i) : OArr Z h a ty n f' := by obtain ⟨c, A, r1, r2⟩ := F; exact ⟨c, A, r1, fun i hi => by rw [r2 i hi, q i hi]⟩
theorem OArr.set (F : OArr Z h a ty n f) (W : Wr h h' a sl v) : OArr Z h' a ty n (fun i => if i = sl then v else f i) := by
  obtain ⟨c, A, r1, r2⟩ := F
  obtain ⟨cell, e1, -, e3, -⟩ := id W
  cases e1.symm.trans A.1
  refine ⟨_, A.same W, by rw [sz_set]; exact r1, fun i hi => ?_⟩
  by_cases q : i = sl
  · subst q; simp [Cell.setSlot, e3]
  · simp only [if_neg q]; rw [← r2 i hi]; exact Array.getElem?_setIfInBounds_ne (Ne.symm q)
theorem OArr.new {cA : ClassId} {z : Int32} (A : Arr Z h a (newA cA ty z) ty) (q : z.toNatClampNeg = n) (hd : defaultValue ty = v) : OArr Z h a ty n (fun _ => v) :=
  ⟨_, A, by rw [sz_new]; exact q, fun i hi => by subst hd; simp [newA, q, hi]⟩
theorem inbO {j : Int32} {k : Nat} (ng : ¬ j < 0) (e : j.toNatClampNeg = k) (h : k < n) : ¬ (j < 0 ∨ n ≤ j.toNatClampNeg) := fun q => q.elim ng fun r => by rw [e] at r; exact absurd h (Nat.not_lt.mpr r)
theorem readO {c : Cell} {j : Int32} {k : Nat} (H : ∀ i, i < n → c.slots[i]? = some (f i)) (e : j.toNatClampNeg = k) (h : k < n) (q : f k = v) : c.slots[j.toNatClampNeg]? = some v := by rw [e, H k h, q]
theorem lti {x y : Int32} : x < y ↔ x.toInt < y.toInt := Int32.lt_iff_toInt_lt
theorem ltl {x y : Int64} : x < y ↔ x.toInt < y.toInt := Int64.lt_iff_toInt_lt
theorem eqi {x y : Int32} : x = y ↔ x.toInt = y.toInt := Int32.toInt_inj.symm
theorem eql {x y : Int64} : x = y ↔ x.toInt = y.toInt := Int64.toInt_inj.symm
end Own

theorem add32 {x y : Int32} (h1 : -2147483648 ≤ x.toInt + y.toInt) (h2 : x.toInt + y.toInt < 2147483648) : (x + y).toInt = x.toInt + y.toInt := by
  rw [Int32.toInt_add]; exact Int.bmod_eq_of_le (by omega) (by omega)
theorem sub32 {x y : Int32} (h1 : -2147483648 ≤ x.toInt - y.toInt) (h2 : x.toInt - y.toInt < 2147483648) : (x - y).toInt = x.toInt - y.toInt := by
  rw [Int32.toInt_sub]; exact Int.bmod_eq_of_le (by omega) (by omega)
theorem add64 {x y : Int64} (h1 : -9223372036854775808 ≤ x.toInt + y.toInt) (h2 : x.toInt + y.toInt < 9223372036854775808) : (x + y).toInt = x.toInt + y.toInt := by
  rw [Int64.toInt_add]; exact Int.bmod_eq_of_le (by omega) (by omega)
theorem sub64 {x y : Int64} (h1 : -9223372036854775808 ≤ x.toInt - y.toInt) (h2 : x.toInt - y.toInt < 9223372036854775808) : (x - y).toInt = x.toInt - y.toInt := by
  rw [Int64.toInt_sub]; exact Int.bmod_eq_of_le (by omega) (by omega)
theorem l2i' {x : Int64} (h1 : -2147483648 ≤ x.toInt) (h2 : x.toInt < 2147483648) : x.toInt32.toInt = x.toInt := by
  rw [Int64.toInt_toInt32]; exact Int.bmod_eq_of_le (by omega) (by omega)
theorem bd32 (x : Int32) : -2147483648 ≤ x.toInt ∧ x.toInt < 2147483648 := ⟨Int32.le_toInt x, Int32.toInt_lt x⟩
theorem takeE {c e p : Int32} : c.toInt64 < e.toInt64 + p.toInt64 ↔ c.toInt < e.toInt + p.toInt := by
  have b1 := bd32 e; have b2 := bd32 p
  rw [ltl, add64 (by rw [c_i2l, c_i2l]; omega) (by rw [c_i2l, c_i2l]; omega), c_i2l, c_i2l, c_i2l]
theorem takeC {c : Int32} {x y : Int64} (h1 : -9223372036854775808 ≤ x.toInt + y.toInt) (h2 : x.toInt + y.toInt < 9223372036854775808) : c.toInt64 < x + y ↔ c.toInt < x.toInt + y.toInt := by
  rw [ltl, add64 h1 h2, c_i2l]
theorem z32 : (0 : Int32).toInt = 0 := by decide
theorem o32 : (1 : Int32).toInt = 1 := by decide
theorem z64 : (0 : Int64).toInt = 0 := by decide
theorem o64 : (1 : Int64).toInt = 1 := by decide
theorem d2_0 : decode jdk_30_method_1_code 0 = .ok (.aload_n 0, 1) := by decide +kernel
theorem d2_1 : decode jdk_30_method_1_code 1 = .ok (.invokespecial 1, 3) := by decide +kernel
theorem d2_4 : decode jdk_30_method_1_code 4 = .ok (.return_, 1) := by decide +kernel
theorem pn_2 : plainName "java/lang/Record" = true := by first | (simp [plainName, overriddenIn]; done) | decide +kernel
theorem ef_2 (m : MethodId) (r0 : Addr) : entryFrame m #[(.ref r0)] 1 = mkF m 0 #[.val (.ref r0)] [] := by first | (simp [entryFrame, mkF, argsToLocals, Value.category]; done) | rfl
def Q2 (Z : State) (r0 : Addr)  (h0 : Heap) (n0 : Nat) (v : Option Value) (h : Heap) (L : List Loc) : Prop := v = none ∧ Fr n0 L ∧ h = h0
set_option maxRecDepth 65536 in
set_option maxHeartbeats 40000000 in
theorem rm2 (l : Launch) (Z : State) (a0 : Array Value) (hw : ∀ d ∈ tables_1, d.before a0 Z = true) (ws : List Jvm.Cond) (r0 : Addr)  (h0 : Heap) (n0 : Nat) (Z0 : n0 ≤ h0.size) :
    MetFree l (⟨"java/lang/Record", "<init>", "()V"⟩ : MethodName) (head1 (Jvm.Cond.code (⟨"java/lang/Record", "<init>", "()V"⟩ : MethodName) jdk_30_method_1_code 1 none :: ws) ({ frames := 1, cells := 0, slots := 0, locals := 12 } : Room)) (fun a U => a = #[(.ref r0)] ∧ Z.Warmed39 U.vm ∧ U.heap = h0) (fun _ _ _ _ _ => True) (fun _ U o U' => ∃ v L, o = .returned v ∧ Q2 Z r0 h0 n0 v U'.heap L ∧ FrameEnd U o U' L ({ frames := 1, cells := 0, slots := 0, locals := 12 } : Room).cells ({ frames := 1, cells := 0, slots := 0, locals := 12 } : Room).slots) := by
  refine MetFree.of_bodySF (plainFor_of_name pn_2) hisR ?_
  intro p e s m args below meth c s₁ Bd hml0 hP hK
  obtain ⟨rfl, hZ, hh⟩ := hP
  have hx := Bd.exec
  have hby := Bd.bytes
  have hml : c.maxLocals = 1 := hml0
  have hown : s.vm.findClass "java/lang/Record" = some m.cls := findClass_of_methodNamed Bd.named
  have hnm := (name_of_methodNamed Bd.named Bd.method).1
  have X0 : Stand p l e ({ frames := 1, cells := 0, slots := 0, locals := 12 } : Room) s m #[(.ref r0)] below meth c s₁ [] 0 0 := Stand.of_body Bd
  have e0 : s₁.heap = h0 := by rw [← hh, Bd.state]; rfl
  have N0 := Fr.nil n0
  refine Runs.enter (ef_2 m r0) ?_
  show Runs _ _ _ _ s₁ (mkF m 0 #[.val (.ref r0)] [])
  refine Runs.back (fun t_ k_ => XS.aloadN X0.here hx rfl (hb hby d2_0) rfl rfl k_) ?_
  show Runs _ _ _ _ s₁ (mkF m 1 #[.val (.ref r0)] [(.ref r0)])
  obtain ⟨T1, X1, e1, st1⟩ := initO X0 hx hZ hown (hw _ (List.mem_of_getElem? (i := 16) rfl)) (hw _ (List.mem_of_getElem? (i := 17) rfl)) (hw _ (List.mem_of_getElem? (i := 18) rfl)) e0 (g := (mkF m 1 #[.val (.ref r0)] [(.ref r0)])) rfl (by rw [hml]; rfl) rfl (hb hby d2_1) (by decide) (W := 0) (by show 2 * 0 + _ ≤ _; exact Nat.le_of_eq rfl) (by decide)
  refine Runs.back st1 ?_
  show Runs _ _ _ _ T1 (mkF m 4 #[.val (.ref r0)] [])
  obtain ⟨fs, hr, hrun, hended, hW, hsame⟩ := X1.leave (v := none) (fun _ => rfl)
  exact ⟨_, _, (X1.returnOut hx Bd.returns (hb hby d2_4) hr), hrun, hended, _, _, rfl, ⟨rfl, N0, e1⟩, ⟨_, rfl⟩, hW, hsame.mono (by decide) (by decide)⟩
theorem d1_0 : decode prog_92_method_1_code 0 = .ok (.aload_n 0, 1) := by decide +kernel
theorem d1_1 : decode prog_92_method_1_code 1 = .ok (.invokespecial 1, 3) := by decide +kernel
theorem d1_4 : decode prog_92_method_1_code 4 = .ok (.iload_n 1, 1) := by decide +kernel
theorem d1_5 : decode prog_92_method_1_code 5 = .ok (.ifCond .lt 7, 3) := by decide +kernel
theorem d1_8 : decode prog_92_method_1_code 8 = .ok (.iload_n 2, 1) := by decide +kernel
theorem d1_9 : decode prog_92_method_1_code 9 = .ok (.ifCond .ge 13, 3) := by decide +kernel
theorem d1_12 : decode prog_92_method_1_code 12 = .ok (.new 7, 3) := by decide +kernel
theorem d1_15 : decode prog_92_method_1_code 15 = .ok (.dup, 1) := by decide +kernel
theorem d1_16 : decode prog_92_method_1_code 16 = .ok (.ldc 9, 2) := by decide +kernel
theorem d1_18 : decode prog_92_method_1_code 18 = .ok (.invokespecial 11, 3) := by decide +kernel
theorem d1_21 : decode prog_92_method_1_code 21 = .ok (.athrow, 1) := by decide +kernel
theorem d1_22 : decode prog_92_method_1_code 22 = .ok (.aload_n 0, 1) := by decide +kernel
theorem d1_23 : decode prog_92_method_1_code 23 = .ok (.iload_n 1, 1) := by decide +kernel
theorem d1_24 : decode prog_92_method_1_code 24 = .ok (.putfield 14, 3) := by decide +kernel
theorem d1_27 : decode prog_92_method_1_code 27 = .ok (.aload_n 0, 1) := by decide +kernel
theorem d1_28 : decode prog_92_method_1_code 28 = .ok (.iload_n 2, 1) := by decide +kernel
theorem d1_29 : decode prog_92_method_1_code 29 = .ok (.putfield 20, 3) := by decide +kernel
theorem d1_32 : decode prog_92_method_1_code 32 = .ok (.return_, 1) := by decide +kernel
theorem pn_1 : plainName "stanzabits/xml/Room$Size" = true := by first | (simp [plainName, overriddenIn]; done) | decide +kernel
theorem pd1_0 : parseMethodDescriptor "()V" = some ⟨[], none⟩ := by decide +kernel
theorem ef_1 (m : MethodId) (r0 : Addr) (p1 : Int32) (p2 : Int32) : entryFrame m #[(.ref r0), (.int p1), (.int p2)] 3 = mkF m 0 #[.val (.ref r0), .val (.int p1), .val (.int p2)] [] := by first | (simp [entryFrame, mkF, argsToLocals, Value.category]; done) | rfl
def Q1 (Z : State) (r0 : Addr) (p1 : Int32) (p2 : Int32) (v1 v2 : Value) (h0 : Heap) (n0 : Nat) (v : Option Value) (h : Heap) (L : List Loc) : Prop := v = none ∧ Fr n0 L ∧ Keep h0 h [r0] ∧ Exa Z h r0 "stanzabits/xml/Room$Size" ∧ Fld Z h r0 "stanzabits/xml/Room$Size" "entries" "I" (.int p1) ∧ Fld Z h r0 "stanzabits/xml/Room$Size" "chars" "I" (.int p2)
set_option maxRecDepth 65536 in
set_option maxHeartbeats 40000000 in
theorem rm1 (l : Launch) (Z : State) (a0 : Array Value) (hw : ∀ d ∈ tables_1, d.before a0 Z = true) (ws : List Jvm.Cond) (r0 : Addr) (p1 : Int32) (p2 : Int32) (v1 v2 : Value) (h0 : Heap) (n0 : Nat) (Z0 : n0 ≤ h0.size) (E_r0 : Exa Z h0 r0 "stanzabits/xml/Room$Size") (F1 : Fld Z h0 r0 "stanzabits/xml/Room$Size" "entries" "I" v1) (F2 : Fld Z h0 r0 "stanzabits/xml/Room$Size" "chars" "I" v2) (g_r0 : n0 ≤ r0) (hp1 : ¬ p1 < (0 : Int32)) (hp2 : ¬ p2 < (0 : Int32)) :
    MetFree l (⟨"stanzabits/xml/Room$Size", "<init>", "(II)V"⟩ : MethodName) (head1 (Jvm.Cond.code (⟨"stanzabits/xml/Room$Size", "<init>", "(II)V"⟩ : MethodName) prog_92_method_1_code 3 none :: ws) ({ frames := 2, cells := 0, slots := 0, locals := 24 } : Room)) (fun a U => a = #[(.ref r0), (.int p1), (.int p2)] ∧ Z.Warmed39 U.vm ∧ U.heap = h0) (fun _ _ _ _ _ => True) (fun _ U o U' => ∃ v L, o = .returned v ∧ Q1 Z r0 p1 p2 v1 v2 h0 n0 v U'.heap L ∧ FrameEnd U o U' L ({ frames := 2, cells := 0, slots := 0, locals := 24 } : Room).cells ({ frames := 2, cells := 0, slots := 0, locals := 24 } : Room).slots) := by
  refine MetFree.of_bodySF (plainFor_of_name pn_1) hisR ?_
  intro p e s m args below meth c s₁ Bd hml0 hP hK
  obtain ⟨rfl, hZ, hh⟩ := hP
  have hx := Bd.exec
  have hby := Bd.bytes
  have hml : c.maxLocals = 3 := hml0
  have hown : s.vm.findClass "stanzabits/xml/Room$Size" = some m.cls := findClass_of_methodNamed Bd.named
  have hnm := (name_of_methodNamed Bd.named Bd.method).1
  have X0 : Stand p l e ({ frames := 2, cells := 0, slots := 0, locals := 24 } : Room) s m #[(.ref r0), (.int p1), (.int p2)] below meth c s₁ [] 0 0 := Stand.of_body Bd
  have e0 : s₁.heap = h0 := by rw [← hh, Bd.state]; rfl
  have N0 := Fr.nil n0
  refine Runs.enter (ef_1 m r0 p1 p2) ?_
  show Runs _ _ _ _ s₁ (mkF m 0 #[.val (.ref r0), .val (.int p1), .val (.int p2)] [])
  refine Runs.back (fun t_ k_ => XS.aloadN X0.here hx rfl (hb hby d1_0) rfl rfl k_) ?_
  show Runs _ _ _ _ s₁ (mkF m 1 #[.val (.ref r0), .val (.int p1), .val (.int p2)] [(.ref r0)])
  obtain ⟨_, _, ⟨T1, L1, k1, n1⟩, -, X1, ⟨Lc1, hQ1, l1, y1, z1⟩, st1⟩ := X0.specialBack hx (y := (⟨"java/lang/Record", "<init>", "()V"⟩ : MethodName)) rfl hown (mvT hZ (hw _ (List.mem_of_getElem? (i := 11) rfl))) (mvT hZ (hw _ (List.mem_of_getElem? (i := 12) rfl))) (mvT hZ (hw _ (List.mem_of_getElem? (i := 15) rfl))) (by decide) (backOf (W := 0) (rm2 l Z a0 hw [] r0 h0 n0 (Z0)) hZ (hw _ (List.mem_of_getElem? (i := 15) rfl)) (hw _ (List.mem_of_getElem? (i := 14) rfl)) (by decide) (by decide)) (g := (mkF m 1 #[.val (.ref r0), .val (.int p1), .val (.int p2)] [(.ref r0)])) rfl (by rw [hml]; rfl) (Steps.refl _) (a := r0) (argsL := []) (rest := []) (lenOf pd1_0 rfl) rfl (by show 2 * 0 + _ ≤ _; exact Nat.le_of_eq rfl) (hb hby d1_1) (fun _ _ => ⟨rfl, e0, (by decide : 0 + 0 ≤ _), (by decide : 0 + 0 ≤ _)⟩)
  dsimp only [Pt.U, Pt.locs, Pt.cells, Pt.slots] at X1 l1 y1 z1 st1 hQ1
  subst l1 y1 z1
  obtain ⟨rfl, N1q, eq1⟩ := hQ1
  have N1 := Fr.app N0 N1q
  refine Runs.trans st1 ?_
  show Runs _ _ _ _ T1 (mkF m 4 #[.val (.ref r0), .val (.int p1), .val (.int p2)] [])
  refine Runs.back (fun t_ k_ => XS.iloadN X1.here hx rfl (hb hby d1_4) rfl k_) ?_
  show Runs _ _ _ _ T1 (mkF m 5 #[.val (.ref r0), .val (.int p1), .val (.int p2)] [(.int p1)])
  refine Runs.back (fun t_ k_ => XS.ifNo X1.here hx rfl (hb hby d1_5) rfl ((if0 _ _).trans (flt (show ¬ (p1 < (0 : Int32)) from hp1)).1) k_) ?_
  show Runs _ _ _ _ T1 (mkF m 8 #[.val (.ref r0), .val (.int p1), .val (.int p2)] [])
  refine Runs.back (fun t_ k_ => XS.iloadN X1.here hx rfl (hb hby d1_8) rfl k_) ?_
  show Runs _ _ _ _ T1 (mkF m 9 #[.val (.ref r0), .val (.int p1), .val (.int p2)] [(.int p2)])
  refine Runs.back (fun t_ k_ => XS.ifYes X1.here hx rfl (pc0 := 9) (pc' := 22) rfl (hb hby d1_9) rfl ((if0 _ _).trans (flt (show ¬ (p2 < (0 : Int32)) from hp2)).2.1) (by decide) (by decide) k_) ?_
  show Runs _ _ _ _ T1 (mkF m 22 #[.val (.ref r0), .val (.int p1), .val (.int p2)] [])
  refine Runs.back (fun t_ k_ => XS.aloadN X1.here hx rfl (hb hby d1_22) rfl rfl k_) ?_
  show Runs _ _ _ _ T1 (mkF m 23 #[.val (.ref r0), .val (.int p1), .val (.int p2)] [(.ref r0)])
  refine Runs.back (fun t_ k_ => XS.iloadN X1.here hx rfl (hb hby d1_23) rfl k_) ?_
  show Runs _ _ _ _ T1 (mkF m 24 #[.val (.ref r0), .val (.int p1), .val (.int p2)] [(.int p1), (.ref r0)])
  obtain ⟨T2, h2, X2, e2, W2, st2⟩ := putF X1 hx hZ hown (host := "") (Or.inl (hw _ (List.mem_of_getElem? (i := 19) rfl))) Via.refl eq1 F1 E_r0 (Or.inr ⟨(hw _ (List.mem_of_getElem? (i := 20) rfl)), rfl, hnm⟩) (hw _ (List.mem_of_getElem? (i := 6) rfl)) (ty := .int) (by decide) rfl rfl (g := (mkF m 24 #[.val (.ref r0), .val (.int p1), .val (.int p2)] [(.int p1), (.ref r0)])) rfl rfl (hb hby d1_24)
  have f2_Exa_0 : Exa Z h2 r0 "stanzabits/xml/Room$Size" := Exa.wr W2 E_r0
  have f2_Fld_1 : Fld Z h2 r0 "stanzabits/xml/Room$Size" "entries" "I" (.int p1) := Fld.same W2 F1
  have f2_Fld_2 : Fld Z h2 r0 "stanzabits/xml/Room$Size" "chars" "I" v2 := Fld.other W2 F2 (Or.inr (slot_ne (Or.inr (hw _ (List.mem_of_getElem? (i := 22) rfl))) (Or.inr (hw _ (List.mem_of_getElem? (i := 20) rfl))) (by decide) (t := .int) (t' := .int) (by decide) (by decide)))
  have N2 := Fr.snoc X2 N1 g_r0
  have KK2 : Keep h0 h2 [r0] := Keep.wr (Keep.refl h0 [r0]) W2 (Or.inl (List.mem_of_getElem? (i := 0) rfl))
  have Z2 : n0 ≤ h2.size := Nat.le_trans (Z0) (Nat.le_of_eq W2.size.symm)
  refine Runs.back st2 ?_
  show Runs _ _ _ _ T2 (mkF m 27 #[.val (.ref r0), .val (.int p1), .val (.int p2)] [])
  refine Runs.back (fun t_ k_ => XS.aloadN X2.here hx rfl (hb hby d1_27) rfl rfl k_) ?_
  show Runs _ _ _ _ T2 (mkF m 28 #[.val (.ref r0), .val (.int p1), .val (.int p2)] [(.ref r0)])
  refine Runs.back (fun t_ k_ => XS.iloadN X2.here hx rfl (hb hby d1_28) rfl k_) ?_
  show Runs _ _ _ _ T2 (mkF m 29 #[.val (.ref r0), .val (.int p1), .val (.int p2)] [(.int p2), (.ref r0)])
  obtain ⟨T3, h3, X3, e3, W3, st3⟩ := putF X2 hx hZ hown (host := "") (Or.inl (hw _ (List.mem_of_getElem? (i := 21) rfl))) Via.refl e2 f2_Fld_2 f2_Exa_0 (Or.inr ⟨(hw _ (List.mem_of_getElem? (i := 22) rfl)), rfl, hnm⟩) (hw _ (List.mem_of_getElem? (i := 6) rfl)) (ty := .int) (by decide) rfl rfl (g := (mkF m 29 #[.val (.ref r0), .val (.int p1), .val (.int p2)] [(.int p2), (.ref r0)])) rfl rfl (hb hby d1_29)
  have f3_Exa_0 : Exa Z h3 r0 "stanzabits/xml/Room$Size" := Exa.wr W3 f2_Exa_0
  have f3_Fld_1 : Fld Z h3 r0 "stanzabits/xml/Room$Size" "entries" "I" (.int p1) := Fld.other W3 f2_Fld_1 (Or.inr (slot_ne (Or.inr (hw _ (List.mem_of_getElem? (i := 20) rfl))) (Or.inr (hw _ (List.mem_of_getElem? (i := 22) rfl))) (by decide) (t := .int) (t' := .int) (by decide) (by decide)))
  have f3_Fld_2 : Fld Z h3 r0 "stanzabits/xml/Room$Size" "chars" "I" (.int p2) := Fld.same W3 f2_Fld_2
  have N3 := Fr.snoc X3 N2 g_r0
  have KK3 : Keep h0 h3 [r0] := Keep.wr KK2 W3 (Or.inl (List.mem_of_getElem? (i := 0) rfl))
  have Z3 : n0 ≤ h3.size := Nat.le_trans (Z2) (Nat.le_of_eq W3.size.symm)
  refine Runs.back st3 ?_
  show Runs _ _ _ _ T3 (mkF m 32 #[.val (.ref r0), .val (.int p1), .val (.int p2)] [])
  obtain ⟨fs, hr, hrun, hended, hW, hsame⟩ := X3.leave (v := none) (fun _ => rfl)
  exact ⟨_, _, (X3.returnOut hx Bd.returns (hb hby d1_32) hr), hrun, hended, _, _, rfl, (by show Q1 Z r0 p1 p2 v1 v2 h0 n0 _ T3.heap _; rw [e3]; exact ⟨rfl, N3, KK3, f3_Exa_0, f3_Fld_1, f3_Fld_2⟩), ⟨_, rfl⟩, hW, hsame.mono (by decide) (by decide)⟩
theorem d4_0 : decode prog_91_method_1_code 0 = .ok (.aload_n 0, 1) := by decide +kernel
theorem d4_1 : decode prog_91_method_1_code 1 = .ok (.invokespecial 1, 3) := by decide +kernel
theorem d4_4 : decode prog_91_method_1_code 4 = .ok (.aload_n 0, 1) := by decide +kernel
theorem d4_5 : decode prog_91_method_1_code 5 = .ok (.aload_n 1, 1) := by decide +kernel
theorem d4_6 : decode prog_91_method_1_code 6 = .ok (.putfield 7, 3) := by decide +kernel
theorem d4_9 : decode prog_91_method_1_code 9 = .ok (.return_, 1) := by decide +kernel
theorem pn_4 : plainName "stanzabits/xml/Room" = true := by first | (simp [plainName, overriddenIn]; done) | decide +kernel
theorem ef_4 (m : MethodId) (r0 : Addr) (r1 : Addr) : entryFrame m #[(.ref r0), (.ref r1)] 2 = mkF m 0 #[.val (.ref r0), .val (.ref r1)] [] := by first | (simp [entryFrame, mkF, argsToLocals, Value.category]; done) | rfl
def Q4 (Z : State) (r0 : Addr) (r1 : Addr) (v1 v2 v3 : Value) (h0 : Heap) (n0 : Nat) (v : Option Value) (h : Heap) (L : List Loc) : Prop := v = none ∧ Fr n0 L ∧ Keep h0 h [r0] ∧ Exa Z h r0 "stanzabits/xml/Room" ∧ Fld Z h r0 "stanzabits/xml/Room" "size" "Lstanzabits/xml/Room$Size;" (.ref r1) ∧ Fld Z h r0 "stanzabits/xml/Room" "entries" "I" v2 ∧ Fld Z h r0 "stanzabits/xml/Room" "chars" "J" v3
set_option maxRecDepth 65536 in
set_option maxHeartbeats 40000000 in
theorem rm4 (l : Launch) (Z : State) (a0 : Array Value) (hw : ∀ d ∈ tables_1, d.before a0 Z = true) (ws : List Jvm.Cond) (r0 : Addr) (r1 : Addr) (v1 v2 v3 : Value) (h0 : Heap) (n0 : Nat) (Z0 : n0 ≤ h0.size) (E_r0 : Exa Z h0 r0 "stanzabits/xml/Room") (F1 : Fld Z h0 r0 "stanzabits/xml/Room" "size" "Lstanzabits/xml/Room$Size;" v1) (F2 : Fld Z h0 r0 "stanzabits/xml/Room" "entries" "I" v2) (F3 : Fld Z h0 r0 "stanzabits/xml/Room" "chars" "J" v3) (g_r0 : n0 ≤ r0) :
    MetFree l (⟨"stanzabits/xml/Room", "<init>", "(Lstanzabits/xml/Room$Size;)V"⟩ : MethodName) (head1 (Jvm.Cond.code (⟨"stanzabits/xml/Room", "<init>", "(Lstanzabits/xml/Room$Size;)V"⟩ : MethodName) prog_91_method_1_code 2 none :: ws) ({ frames := 1, cells := 0, slots := 0, locals := 12 } : Room)) (fun a U => a = #[(.ref r0), (.ref r1)] ∧ Z.Warmed39 U.vm ∧ U.heap = h0) (fun _ _ _ _ _ => True) (fun _ U o U' => ∃ v L, o = .returned v ∧ Q4 Z r0 r1 v1 v2 v3 h0 n0 v U'.heap L ∧ FrameEnd U o U' L ({ frames := 1, cells := 0, slots := 0, locals := 12 } : Room).cells ({ frames := 1, cells := 0, slots := 0, locals := 12 } : Room).slots) := by
  refine MetFree.of_bodySF (plainFor_of_name pn_4) hisR ?_
  intro p e s m args below meth c s₁ Bd hml0 hP hK
  obtain ⟨rfl, hZ, hh⟩ := hP
  have hx := Bd.exec
  have hby := Bd.bytes
  have hml : c.maxLocals = 2 := hml0
  have hown : s.vm.findClass "stanzabits/xml/Room" = some m.cls := findClass_of_methodNamed Bd.named
  have hnm := (name_of_methodNamed Bd.named Bd.method).1
  have X0 : Stand p l e ({ frames := 1, cells := 0, slots := 0, locals := 12 } : Room) s m #[(.ref r0), (.ref r1)] below meth c s₁ [] 0 0 := Stand.of_body Bd
  have e0 : s₁.heap = h0 := by rw [← hh, Bd.state]; rfl
  have N0 := Fr.nil n0
  refine Runs.enter (ef_4 m r0 r1) ?_
  show Runs _ _ _ _ s₁ (mkF m 0 #[.val (.ref r0), .val (.ref r1)] [])
  refine Runs.back (fun t_ k_ => XS.aloadN X0.here hx rfl (hb hby d4_0) rfl rfl k_) ?_
  show Runs _ _ _ _ s₁ (mkF m 1 #[.val (.ref r0), .val (.ref r1)] [(.ref r0)])
  obtain ⟨T1, X1, e1, st1⟩ := initO X0 hx hZ hown (hw _ (List.mem_of_getElem? (i := 26) rfl)) (hw _ (List.mem_of_getElem? (i := 17) rfl)) (hw _ (List.mem_of_getElem? (i := 18) rfl)) e0 (g := (mkF m 1 #[.val (.ref r0), .val (.ref r1)] [(.ref r0)])) rfl (by rw [hml]; rfl) rfl (hb hby d4_1) (by decide) (W := 0) (by show 2 * 0 + _ ≤ _; exact Nat.le_of_eq rfl) (by decide)
  refine Runs.back st1 ?_
  show Runs _ _ _ _ T1 (mkF m 4 #[.val (.ref r0), .val (.ref r1)] [])
  refine Runs.back (fun t_ k_ => XS.aloadN X1.here hx rfl (hb hby d4_4) rfl rfl k_) ?_
  show Runs _ _ _ _ T1 (mkF m 5 #[.val (.ref r0), .val (.ref r1)] [(.ref r0)])
  refine Runs.back (fun t_ k_ => XS.aloadN X1.here hx rfl (hb hby d4_5) rfl rfl k_) ?_
  show Runs _ _ _ _ T1 (mkF m 6 #[.val (.ref r0), .val (.ref r1)] [(.ref r1), (.ref r0)])
  obtain ⟨T2, h2, X2, e2, W2, st2⟩ := putF X1 hx hZ hown (host := "") (Or.inl (hw _ (List.mem_of_getElem? (i := 27) rfl))) Via.refl e1 F1 E_r0 (Or.inr ⟨(hw _ (List.mem_of_getElem? (i := 28) rfl)), rfl, hnm⟩) (hw _ (List.mem_of_getElem? (i := 3) rfl)) (ty := (.object "stanzabits/xml/Room$Size")) (by decide) rfl rfl (g := (mkF m 6 #[.val (.ref r0), .val (.ref r1)] [(.ref r1), (.ref r0)])) rfl rfl (hb hby d4_6)
  have f2_Exa_0 : Exa Z h2 r0 "stanzabits/xml/Room" := Exa.wr W2 E_r0
  have f2_Fld_1 : Fld Z h2 r0 "stanzabits/xml/Room" "size" "Lstanzabits/xml/Room$Size;" (.ref r1) := Fld.same W2 F1
  have f2_Fld_2 : Fld Z h2 r0 "stanzabits/xml/Room" "entries" "I" v2 := Fld.other W2 F2 (Or.inr (slot_ne (Or.inl (hw _ (List.mem_of_getElem? (i := 35) rfl))) (Or.inr (hw _ (List.mem_of_getElem? (i := 28) rfl))) (by decide) (t := .int) (t' := (.object "stanzabits/xml/Room$Size")) (by decide) (by decide)))
  have f2_Fld_3 : Fld Z h2 r0 "stanzabits/xml/Room" "chars" "J" v3 := Fld.other W2 F3 (Or.inr (slot_ne (Or.inl (hw _ (List.mem_of_getElem? (i := 42) rfl))) (Or.inr (hw _ (List.mem_of_getElem? (i := 28) rfl))) (by decide) (t := .long) (t' := (.object "stanzabits/xml/Room$Size")) (by decide) (by decide)))
  have N2 := Fr.snoc X2 N0 g_r0
  have KK2 : Keep h0 h2 [r0] := Keep.wr (Keep.refl h0 [r0]) W2 (Or.inl (List.mem_of_getElem? (i := 0) rfl))
  have Z2 : n0 ≤ h2.size := Nat.le_trans (Z0) (Nat.le_of_eq W2.size.symm)
  refine Runs.back st2 ?_
  show Runs _ _ _ _ T2 (mkF m 9 #[.val (.ref r0), .val (.ref r1)] [])
  obtain ⟨fs, hr, hrun, hended, hW, hsame⟩ := X2.leave (v := none) (fun _ => rfl)
  exact ⟨_, _, (X2.returnOut hx Bd.returns (hb hby d4_9) hr), hrun, hended, _, _, rfl, (by show Q4 Z r0 r1 v1 v2 v3 h0 n0 _ T2.heap _; rw [e2]; exact ⟨rfl, N2, KK2, f2_Exa_0, f2_Fld_1, f2_Fld_2, f2_Fld_3⟩), ⟨_, rfl⟩, hW, hsame.mono (by decide) (by decide)⟩
theorem d6_0 : decode prog_92_method_5_code 0 = .ok (.aload_n 0, 1) := by decide +kernel
theorem d6_1 : decode prog_92_method_5_code 1 = .ok (.getfield 14, 3) := by decide +kernel
theorem d6_4 : decode prog_92_method_5_code 4 = .ok (.ireturn, 1) := by decide +kernel
theorem pn_6 : plainName "stanzabits/xml/Room$Size" = true := by first | (simp [plainName, overriddenIn]; done) | decide +kernel
theorem ef_6 (m : MethodId) (r0 : Addr) : entryFrame m #[(.ref r0)] 1 = mkF m 0 #[.val (.ref r0)] [] := by first | (simp [entryFrame, mkF, argsToLocals, Value.category]; done) | rfl
def Q6 (Z : State) (r0 : Addr) (u : Int32) (h0 : Heap) (n0 : Nat) (v : Option Value) (h : Heap) (L : List Loc) : Prop := v = some (.int u) ∧ Fr n0 L ∧ h = h0
set_option maxRecDepth 65536 in
set_option maxHeartbeats 40000000 in
theorem rm6 (l : Launch) (Z : State) (a0 : Array Value) (hw : ∀ d ∈ tables_1, d.before a0 Z = true) (ws : List Jvm.Cond) (r0 : Addr) (u : Int32) (h0 : Heap) (n0 : Nat) (Z0 : n0 ≤ h0.size) (F1 : Fld Z h0 r0 "stanzabits/xml/Room$Size" "entries" "I" (.int u)) :
    MetFree l (⟨"stanzabits/xml/Room$Size", "entries", "()I"⟩ : MethodName) (head1 (Jvm.Cond.code (⟨"stanzabits/xml/Room$Size", "entries", "()I"⟩ : MethodName) prog_92_method_5_code 1 (some .int) :: ws) ({ frames := 0, cells := 0, slots := 0, locals := 0 } : Room)) (fun a U => a = #[(.ref r0)] ∧ Z.Warmed39 U.vm ∧ U.heap = h0) (fun _ _ _ _ _ => True) (fun _ U o U' => ∃ v L, o = .returned v ∧ Q6 Z r0 u h0 n0 v U'.heap L ∧ FrameEnd U o U' L ({ frames := 0, cells := 0, slots := 0, locals := 0 } : Room).cells ({ frames := 0, cells := 0, slots := 0, locals := 0 } : Room).slots) := by
  refine MetFree.of_bodySF (plainFor_of_name pn_6) hisR ?_
  intro p e s m args below meth c s₁ Bd hml0 hP hK
  obtain ⟨rfl, hZ, hh⟩ := hP
  have hx := Bd.exec
  have hby := Bd.bytes
  have hml : c.maxLocals = 1 := hml0
  have hown : s.vm.findClass "stanzabits/xml/Room$Size" = some m.cls := findClass_of_methodNamed Bd.named
  have hnm := (name_of_methodNamed Bd.named Bd.method).1
  have X0 : Stand p l e ({ frames := 0, cells := 0, slots := 0, locals := 0 } : Room) s m #[(.ref r0)] below meth c s₁ [] 0 0 := Stand.of_body Bd
  have e0 : s₁.heap = h0 := by rw [← hh, Bd.state]; rfl
  have N0 := Fr.nil n0
  refine Runs.enter (ef_6 m r0) ?_
  show Runs _ _ _ _ s₁ (mkF m 0 #[.val (.ref r0)] [])
  refine Runs.back (fun t_ k_ => XS.aloadN X0.here hx rfl (hb hby d6_0) rfl rfl k_) ?_
  show Runs _ _ _ _ s₁ (mkF m 1 #[.val (.ref r0)] [(.ref r0)])
  obtain ⟨T1, X1, e1, st1⟩ := getF X0 hx hZ hown (host := "") (Or.inl (hw _ (List.mem_of_getElem? (i := 19) rfl))) Via.refl e0 F1 (g := (mkF m 1 #[.val (.ref r0)] [(.ref r0)])) rfl rfl (hb hby d6_1)
  refine Runs.back st1 ?_
  show Runs _ _ _ _ T1 (mkF m 4 #[.val (.ref r0)] [(.int u)])
  obtain ⟨fs, hr, hrun, hended, hW, hsame⟩ := X1.leave (v := some (.int u)) (fun h => by rw [Bd.returns] at h; cases h)
  exact ⟨_, _, (retI X1 hx Bd.returns (hb hby d6_4) hr), hrun, hended, _, _, rfl, ⟨rfl, N0, e1⟩, ⟨_, rfl⟩, hW, hsame.mono (by decide) (by decide)⟩
theorem d7_0 : decode prog_92_method_6_code 0 = .ok (.aload_n 0, 1) := by decide +kernel
theorem d7_1 : decode prog_92_method_6_code 1 = .ok (.getfield 20, 3) := by decide +kernel
theorem d7_4 : decode prog_92_method_6_code 4 = .ok (.ireturn, 1) := by decide +kernel
theorem pn_7 : plainName "stanzabits/xml/Room$Size" = true := by first | (simp [plainName, overriddenIn]; done) | decide +kernel
theorem ef_7 (m : MethodId) (r0 : Addr) : entryFrame m #[(.ref r0)] 1 = mkF m 0 #[.val (.ref r0)] [] := by first | (simp [entryFrame, mkF, argsToLocals, Value.category]; done) | rfl
def Q7 (Z : State) (r0 : Addr) (u : Int32) (h0 : Heap) (n0 : Nat) (v : Option Value) (h : Heap) (L : List Loc) : Prop := v = some (.int u) ∧ Fr n0 L ∧ h = h0
set_option maxRecDepth 65536 in
set_option maxHeartbeats 40000000 in
theorem rm7 (l : Launch) (Z : State) (a0 : Array Value) (hw : ∀ d ∈ tables_1, d.before a0 Z = true) (ws : List Jvm.Cond) (r0 : Addr) (u : Int32) (h0 : Heap) (n0 : Nat) (Z0 : n0 ≤ h0.size) (F1 : Fld Z h0 r0 "stanzabits/xml/Room$Size" "chars" "I" (.int u)) :
    MetFree l (⟨"stanzabits/xml/Room$Size", "chars", "()I"⟩ : MethodName) (head1 (Jvm.Cond.code (⟨"stanzabits/xml/Room$Size", "chars", "()I"⟩ : MethodName) prog_92_method_6_code 1 (some .int) :: ws) ({ frames := 0, cells := 0, slots := 0, locals := 0 } : Room)) (fun a U => a = #[(.ref r0)] ∧ Z.Warmed39 U.vm ∧ U.heap = h0) (fun _ _ _ _ _ => True) (fun _ U o U' => ∃ v L, o = .returned v ∧ Q7 Z r0 u h0 n0 v U'.heap L ∧ FrameEnd U o U' L ({ frames := 0, cells := 0, slots := 0, locals := 0 } : Room).cells ({ frames := 0, cells := 0, slots := 0, locals := 0 } : Room).slots) := by
  refine MetFree.of_bodySF (plainFor_of_name pn_7) hisR ?_
  intro p e s m args below meth c s₁ Bd hml0 hP hK
  obtain ⟨rfl, hZ, hh⟩ := hP
  have hx := Bd.exec
  have hby := Bd.bytes
  have hml : c.maxLocals = 1 := hml0
  have hown : s.vm.findClass "stanzabits/xml/Room$Size" = some m.cls := findClass_of_methodNamed Bd.named
  have hnm := (name_of_methodNamed Bd.named Bd.method).1
  have X0 : Stand p l e ({ frames := 0, cells := 0, slots := 0, locals := 0 } : Room) s m #[(.ref r0)] below meth c s₁ [] 0 0 := Stand.of_body Bd
  have e0 : s₁.heap = h0 := by rw [← hh, Bd.state]; rfl
  have N0 := Fr.nil n0
  refine Runs.enter (ef_7 m r0) ?_
  show Runs _ _ _ _ s₁ (mkF m 0 #[.val (.ref r0)] [])
  refine Runs.back (fun t_ k_ => XS.aloadN X0.here hx rfl (hb hby d7_0) rfl rfl k_) ?_
  show Runs _ _ _ _ s₁ (mkF m 1 #[.val (.ref r0)] [(.ref r0)])
  obtain ⟨T1, X1, e1, st1⟩ := getF X0 hx hZ hown (host := "") (Or.inl (hw _ (List.mem_of_getElem? (i := 21) rfl))) Via.refl e0 F1 (g := (mkF m 1 #[.val (.ref r0)] [(.ref r0)])) rfl rfl (hb hby d7_1)
  refine Runs.back st1 ?_
  show Runs _ _ _ _ T1 (mkF m 4 #[.val (.ref r0)] [(.int u)])
  obtain ⟨fs, hr, hrun, hended, hW, hsame⟩ := X1.leave (v := some (.int u)) (fun h => by rw [Bd.returns] at h; cases h)
  exact ⟨_, _, (retI X1 hx Bd.returns (hb hby d7_4) hr), hrun, hended, _, _, rfl, ⟨rfl, N0, e1⟩, ⟨_, rfl⟩, hW, hsame.mono (by decide) (by decide)⟩
theorem d5_0 : decode prog_91_method_2_code 0 = .ok (.aload_n 0, 1) := by decide +kernel
theorem d5_1 : decode prog_91_method_2_code 1 = .ok (.getfield 13, 3) := by decide +kernel
theorem d5_4 : decode prog_91_method_2_code 4 = .ok (.i2l, 1) := by decide +kernel
theorem d5_5 : decode prog_91_method_2_code 5 = .ok (.iload_n 1, 1) := by decide +kernel
theorem d5_6 : decode prog_91_method_2_code 6 = .ok (.i2l, 1) := by decide +kernel
theorem d5_7 : decode prog_91_method_2_code 7 = .ok (.ladd, 1) := by decide +kernel
theorem d5_8 : decode prog_91_method_2_code 8 = .ok (.aload_n 0, 1) := by decide +kernel
theorem d5_9 : decode prog_91_method_2_code 9 = .ok (.getfield 7, 3) := by decide +kernel
theorem d5_12 : decode prog_91_method_2_code 12 = .ok (.invokevirtual 17, 3) := by decide +kernel
theorem d5_15 : decode prog_91_method_2_code 15 = .ok (.i2l, 1) := by decide +kernel
theorem d5_16 : decode prog_91_method_2_code 16 = .ok (.lcmp, 1) := by decide +kernel
theorem d5_17 : decode prog_91_method_2_code 17 = .ok (.ifCond .gt 25, 3) := by decide +kernel
theorem d5_20 : decode prog_91_method_2_code 20 = .ok (.aload_n 0, 1) := by decide +kernel
theorem d5_21 : decode prog_91_method_2_code 21 = .ok (.getfield 22, 3) := by decide +kernel
theorem d5_24 : decode prog_91_method_2_code 24 = .ok (.lload_n 2, 1) := by decide +kernel
theorem d5_25 : decode prog_91_method_2_code 25 = .ok (.ladd, 1) := by decide +kernel
theorem d5_26 : decode prog_91_method_2_code 26 = .ok (.aload_n 0, 1) := by decide +kernel
theorem d5_27 : decode prog_91_method_2_code 27 = .ok (.getfield 7, 3) := by decide +kernel
theorem d5_30 : decode prog_91_method_2_code 30 = .ok (.invokevirtual 26, 3) := by decide +kernel
theorem d5_33 : decode prog_91_method_2_code 33 = .ok (.i2l, 1) := by decide +kernel
theorem d5_34 : decode prog_91_method_2_code 34 = .ok (.lcmp, 1) := by decide +kernel
theorem d5_35 : decode prog_91_method_2_code 35 = .ok (.ifCond .gt 7, 3) := by decide +kernel
theorem d5_38 : decode prog_91_method_2_code 38 = .ok (.iconst 1, 1) := by decide +kernel
theorem d5_39 : decode prog_91_method_2_code 39 = .ok (.goto 4, 3) := by decide +kernel
theorem d5_42 : decode prog_91_method_2_code 42 = .ok (.iconst 0, 1) := by decide +kernel
theorem d5_43 : decode prog_91_method_2_code 43 = .ok (.istore 4, 2) := by decide +kernel
theorem d5_45 : decode prog_91_method_2_code 45 = .ok (.iload 4, 2) := by decide +kernel
theorem d5_47 : decode prog_91_method_2_code 47 = .ok (.ifCond .eq 23, 3) := by decide +kernel
theorem d5_50 : decode prog_91_method_2_code 50 = .ok (.aload_n 0, 1) := by decide +kernel
theorem d5_51 : decode prog_91_method_2_code 51 = .ok (.dup, 1) := by decide +kernel
theorem d5_52 : decode prog_91_method_2_code 52 = .ok (.getfield 13, 3) := by decide +kernel
theorem d5_55 : decode prog_91_method_2_code 55 = .ok (.iload_n 1, 1) := by decide +kernel
theorem d5_56 : decode prog_91_method_2_code 56 = .ok (.iadd, 1) := by decide +kernel
theorem d5_57 : decode prog_91_method_2_code 57 = .ok (.putfield 13, 3) := by decide +kernel
theorem d5_60 : decode prog_91_method_2_code 60 = .ok (.aload_n 0, 1) := by decide +kernel
theorem d5_61 : decode prog_91_method_2_code 61 = .ok (.dup, 1) := by decide +kernel
theorem d5_62 : decode prog_91_method_2_code 62 = .ok (.getfield 22, 3) := by decide +kernel
theorem d5_65 : decode prog_91_method_2_code 65 = .ok (.lload_n 2, 1) := by decide +kernel
theorem d5_66 : decode prog_91_method_2_code 66 = .ok (.ladd, 1) := by decide +kernel
theorem d5_67 : decode prog_91_method_2_code 67 = .ok (.putfield 22, 3) := by decide +kernel
theorem d5_70 : decode prog_91_method_2_code 70 = .ok (.iload 4, 2) := by decide +kernel
theorem d5_72 : decode prog_91_method_2_code 72 = .ok (.ireturn, 1) := by decide +kernel
theorem pn_5t : plainName "stanzabits/xml/Room" = true := by first | (simp [plainName, overriddenIn]; done) | decide +kernel
theorem pd5t_0 : parseMethodDescriptor "()I" = some ⟨[], some .int⟩ := by decide +kernel
theorem ef_5t (m : MethodId) (r0 : Addr) (p1 : Int32) (q2 : Int64) : entryFrame m #[(.ref r0), (.int p1), (.long q2)] 5 = mkF m 0 #[.val (.ref r0), .val (.int p1), .val (.long q2), .second, .unset] [] := by first | (simp [entryFrame, mkF, argsToLocals, Value.category]; done) | rfl
def Q5t (Z : State) (r0 : Addr) (p1 : Int32) (q2 : Int64) (sz : Addr) (en : Int32) (ch : Int64) (cE cC : Int32) (h0 : Heap) (n0 : Nat) (v : Option Value) (h : Heap) (L : List Loc) : Prop := v = some (.int 1) ∧ Fr n0 L ∧ Keep h0 h [r0] ∧ Exa Z h r0 "stanzabits/xml/Room" ∧ Fld Z h r0 "stanzabits/xml/Room" "size" "Lstanzabits/xml/Room$Size;" (.ref sz) ∧ Fld Z h r0 "stanzabits/xml/Room" "entries" "I" (.int (en + p1)) ∧ Fld Z h r0 "stanzabits/xml/Room" "chars" "J" (.long (ch + q2))
set_option maxRecDepth 65536 in
set_option maxHeartbeats 40000000 in
theorem rm5t (l : Launch) (Z : State) (a0 : Array Value) (hw : ∀ d ∈ tables_1, d.before a0 Z = true) (ws : List Jvm.Cond) (r0 : Addr) (p1 : Int32) (q2 : Int64) (sz : Addr) (en : Int32) (ch : Int64) (cE cC : Int32) (h0 : Heap) (n0 : Nat) (Z0 : n0 ≤ h0.size) (E_r0 : Exa Z h0 r0 "stanzabits/xml/Room") (F1 : Fld Z h0 r0 "stanzabits/xml/Room" "size" "Lstanzabits/xml/Room$Size;" (.ref sz)) (F2 : Fld Z h0 r0 "stanzabits/xml/Room" "entries" "I" (.int en)) (F3 : Fld Z h0 r0 "stanzabits/xml/Room" "chars" "J" (.long ch)) (E_sz : Exa Z h0 sz "stanzabits/xml/Room$Size") (F4 : Fld Z h0 sz "stanzabits/xml/Room$Size" "entries" "I" (.int cE)) (F5 : Fld Z h0 sz "stanzabits/xml/Room$Size" "chars" "I" (.int cC)) (ne_r0_sz : r0 ≠ sz) (g_r0 : n0 ≤ r0) (hP1 : ¬ cE.toInt64 < en.toInt64 + p1.toInt64) (hP2 : ¬ cC.toInt64 < ch + q2) :
    MetFree l (⟨"stanzabits/xml/Room", "take", "(IJ)Z"⟩ : MethodName) (head1 (Jvm.Cond.code (⟨"stanzabits/xml/Room", "take", "(IJ)Z"⟩ : MethodName) prog_91_method_2_code 5 (some .boolean) :: ws) ({ frames := 1, cells := 0, slots := 0, locals := 14 } : Room)) (fun a U => a = #[(.ref r0), (.int p1), (.long q2)] ∧ Z.Warmed39 U.vm ∧ U.heap = h0) (fun _ _ _ _ _ => True) (fun _ U o U' => ∃ v L, o = .returned v ∧ Q5t Z r0 p1 q2 sz en ch cE cC h0 n0 v U'.heap L ∧ FrameEnd U o U' L ({ frames := 1, cells := 0, slots := 0, locals := 14 } : Room).cells ({ frames := 1, cells := 0, slots := 0, locals := 14 } : Room).slots) := by
  refine MetFree.of_bodySF (plainFor_of_name pn_5t) hisR ?_
  intro p e s m args below meth c s₁ Bd hml0 hP hK
  obtain ⟨rfl, hZ, hh⟩ := hP
  have hx := Bd.exec
  have hby := Bd.bytes
  have hml : c.maxLocals = 5 := hml0
  have hown : s.vm.findClass "stanzabits/xml/Room" = some m.cls := findClass_of_methodNamed Bd.named
  have hnm := (name_of_methodNamed Bd.named Bd.method).1
  have X0 : Stand p l e ({ frames := 1, cells := 0, slots := 0, locals := 14 } : Room) s m #[(.ref r0), (.int p1), (.long q2)] below meth c s₁ [] 0 0 := Stand.of_body Bd
  have e0 : s₁.heap = h0 := by rw [← hh, Bd.state]; rfl
  have N0 := Fr.nil n0
  refine Runs.enter (ef_5t m r0 p1 q2) ?_
  show Runs _ _ _ _ s₁ (mkF m 0 #[.val (.ref r0), .val (.int p1), .val (.long q2), .second, .unset] [])
  refine Runs.back (fun t_ k_ => XS.aloadN X0.here hx rfl (hb hby d5_0) rfl rfl k_) ?_
  show Runs _ _ _ _ s₁ (mkF m 1 #[.val (.ref r0), .val (.int p1), .val (.long q2), .second, .unset] [(.ref r0)])
  obtain ⟨T1, X1, e1, st1⟩ := getF X0 hx hZ hown (host := "") (Or.inl (hw _ (List.mem_of_getElem? (i := 34) rfl))) Via.refl e0 F2 (g := (mkF m 1 #[.val (.ref r0), .val (.int p1), .val (.long q2), .second, .unset] [(.ref r0)])) rfl rfl (hb hby d5_1)
  refine Runs.back st1 ?_
  show Runs _ _ _ _ T1 (mkF m 4 #[.val (.ref r0), .val (.int p1), .val (.long q2), .second, .unset] [(.int en)])
  refine Runs.back (fun t_ k_ => XS.i2l X1.here hx rfl (hb hby d5_4) rfl k_) ?_
  show Runs _ _ _ _ T1 (mkF m 5 #[.val (.ref r0), .val (.int p1), .val (.long q2), .second, .unset] [(.long (en.toInt64))])
  refine Runs.back (fun t_ k_ => XS.iloadN X1.here hx rfl (hb hby d5_5) rfl k_) ?_
  show Runs _ _ _ _ T1 (mkF m 6 #[.val (.ref r0), .val (.int p1), .val (.long q2), .second, .unset] [(.int p1), (.long (en.toInt64))])
  refine Runs.back (fun t_ k_ => XS.i2l X1.here hx rfl (hb hby d5_6) rfl k_) ?_
  show Runs _ _ _ _ T1 (mkF m 7 #[.val (.ref r0), .val (.int p1), .val (.long q2), .second, .unset] [(.long (p1.toInt64)), (.long (en.toInt64))])
  refine Runs.back (fun t_ k_ => XS.ladd X1.here hx rfl (hb hby d5_7) rfl k_) ?_
  show Runs _ _ _ _ T1 (mkF m 8 #[.val (.ref r0), .val (.int p1), .val (.long q2), .second, .unset] [(.long ((en.toInt64) + (p1.toInt64)))])
  refine Runs.back (fun t_ k_ => XS.aloadN X1.here hx rfl (hb hby d5_8) rfl rfl k_) ?_
  show Runs _ _ _ _ T1 (mkF m 9 #[.val (.ref r0), .val (.int p1), .val (.long q2), .second, .unset] [(.ref r0), (.long ((en.toInt64) + (p1.toInt64)))])
  obtain ⟨T2, X2, e2, st2⟩ := getF X1 hx hZ hown (host := "") (Or.inl (hw _ (List.mem_of_getElem? (i := 27) rfl))) Via.refl e1 F1 (g := (mkF m 9 #[.val (.ref r0), .val (.int p1), .val (.long q2), .second, .unset] [(.ref r0), (.long ((en.toInt64) + (p1.toInt64)))])) rfl rfl (hb hby d5_9)
  refine Runs.back st2 ?_
  show Runs _ _ _ _ T2 (mkF m 12 #[.val (.ref r0), .val (.int p1), .val (.long q2), .second, .unset] [(.ref sz), (.long ((en.toInt64) + (p1.toInt64)))])
  obtain ⟨cq3, kq3, q3a, q3b, q3c⟩ := isOf hZ e2 E_sz
  obtain ⟨_, _, ⟨T3, L3, k3, n3⟩, -, X3, ⟨Lc3, hQ3, l3, y3, z3⟩, st3⟩ := X2.virtualBack hx (y := (⟨"stanzabits/xml/Room$Size", "entries", "()I"⟩ : MethodName)) (z := (⟨"stanzabits/xml/Room$Size", "entries", "()I"⟩ : MethodName)) hown (mvT hZ (hw _ (List.mem_of_getElem? (i := 36) rfl))) (mvT hZ (hw _ (List.mem_of_getElem? (i := 37) rfl))) (notFace_of_selects (args := #[]) (mvT hZ (hw _ (List.mem_of_getElem? (i := 39) rfl)))) (mvT hZ (hw _ (List.mem_of_getElem? (i := 39) rfl))) (mvT hZ (hw _ (List.mem_of_getElem? (i := 38) rfl))) (by decide) (backOf (W := 2) (rm6 l Z a0 hw [] sz cE h0 n0 (Z0) F4) hZ (hw _ (List.mem_of_getElem? (i := 40) rfl)) (hw _ (List.mem_of_getElem? (i := 7) rfl)) (by decide) (by decide)) q3a q3c (g := (mkF m 12 #[.val (.ref r0), .val (.int p1), .val (.long q2), .second, .unset] [(.ref sz), (.long ((en.toInt64) + (p1.toInt64)))])) rfl (by rw [hml]; rfl) (Steps.refl _) (argsL := []) (rest := [(.long ((en.toInt64) + (p1.toInt64)))]) (lenOf pd5t_0 rfl) rfl (by show 2 * 0 + _ ≤ _; exact Nat.le_of_eq rfl) (hb hby d5_12) (fun _ _ => ⟨rfl, e2, (by decide : 0 + 0 ≤ _), (by decide : 0 + 0 ≤ _)⟩)
  dsimp only [Pt.U, Pt.locs, Pt.cells, Pt.slots] at X3 l3 y3 z3 st3 hQ3
  subst l3 y3 z3
  obtain ⟨rfl, N3q, eq3⟩ := hQ3
  have N3 := Fr.app N0 N3q
  refine Runs.trans st3 ?_
  show Runs _ _ _ _ T3 (mkF m 15 #[.val (.ref r0), .val (.int p1), .val (.long q2), .second, .unset] [(.int cE), (.long ((en.toInt64) + (p1.toInt64)))])
  refine Runs.back (fun t_ k_ => XS.i2l X3.here hx rfl (hb hby d5_15) rfl k_) ?_
  show Runs _ _ _ _ T3 (mkF m 16 #[.val (.ref r0), .val (.int p1), .val (.long q2), .second, .unset] [(.long (cE.toInt64)), (.long ((en.toInt64) + (p1.toInt64)))])
  refine Runs.back (fun t_ k_ => XS.lcmp X3.here hx rfl (hb hby d5_16) rfl k_) ?_
  show Runs _ _ _ _ T3 (mkF m 17 #[.val (.ref r0), .val (.int p1), .val (.long q2), .second, .unset] [(.int (lcmpW ((en.toInt64) + (p1.toInt64)) (cE.toInt64)))])
  refine Runs.back (fun t_ k_ => XS.ifNo X3.here hx rfl (hb hby d5_17) rfl ((if0 _ _).trans (flt (lcF' (show ¬ ((cE.toInt64) < ((en.toInt64) + (p1.toInt64))) from hP1))).2.2.1) k_) ?_
  show Runs _ _ _ _ T3 (mkF m 20 #[.val (.ref r0), .val (.int p1), .val (.long q2), .second, .unset] [])
  refine Runs.back (fun t_ k_ => XS.aloadN X3.here hx rfl (hb hby d5_20) rfl rfl k_) ?_
  show Runs _ _ _ _ T3 (mkF m 21 #[.val (.ref r0), .val (.int p1), .val (.long q2), .second, .unset] [(.ref r0)])
  obtain ⟨T4, X4, e4, st4⟩ := getF X3 hx hZ hown (host := "") (Or.inl (hw _ (List.mem_of_getElem? (i := 41) rfl))) Via.refl eq3 F3 (g := (mkF m 21 #[.val (.ref r0), .val (.int p1), .val (.long q2), .second, .unset] [(.ref r0)])) rfl rfl (hb hby d5_21)
  refine Runs.back st4 ?_
  show Runs _ _ _ _ T4 (mkF m 24 #[.val (.ref r0), .val (.int p1), .val (.long q2), .second, .unset] [(.long ch)])
  refine Runs.back (fun t_ k_ => XS.lloadN X4.here hx rfl (hb hby d5_24) rfl k_) ?_
  show Runs _ _ _ _ T4 (mkF m 25 #[.val (.ref r0), .val (.int p1), .val (.long q2), .second, .unset] [(.long q2), (.long ch)])
  refine Runs.back (fun t_ k_ => XS.ladd X4.here hx rfl (hb hby d5_25) rfl k_) ?_
  show Runs _ _ _ _ T4 (mkF m 26 #[.val (.ref r0), .val (.int p1), .val (.long q2), .second, .unset] [(.long (ch + q2))])
  refine Runs.back (fun t_ k_ => XS.aloadN X4.here hx rfl (hb hby d5_26) rfl rfl k_) ?_
  show Runs _ _ _ _ T4 (mkF m 27 #[.val (.ref r0), .val (.int p1), .val (.long q2), .second, .unset] [(.ref r0), (.long (ch + q2))])
  obtain ⟨T5, X5, e5, st5⟩ := getF X4 hx hZ hown (host := "") (Or.inl (hw _ (List.mem_of_getElem? (i := 27) rfl))) Via.refl e4 F1 (g := (mkF m 27 #[.val (.ref r0), .val (.int p1), .val (.long q2), .second, .unset] [(.ref r0), (.long (ch + q2))])) rfl rfl (hb hby d5_27)
  refine Runs.back st5 ?_
  show Runs _ _ _ _ T5 (mkF m 30 #[.val (.ref r0), .val (.int p1), .val (.long q2), .second, .unset] [(.ref sz), (.long (ch + q2))])
  obtain ⟨cq6, kq6, q6a, q6b, q6c⟩ := isOf hZ e5 E_sz
  obtain ⟨_, _, ⟨T6, L6, k6, n6⟩, -, X6, ⟨Lc6, hQ6, l6, y6, z6⟩, st6⟩ := X5.virtualBack hx (y := (⟨"stanzabits/xml/Room$Size", "chars", "()I"⟩ : MethodName)) (z := (⟨"stanzabits/xml/Room$Size", "chars", "()I"⟩ : MethodName)) hown (mvT hZ (hw _ (List.mem_of_getElem? (i := 43) rfl))) (mvT hZ (hw _ (List.mem_of_getElem? (i := 44) rfl))) (notFace_of_selects (args := #[]) (mvT hZ (hw _ (List.mem_of_getElem? (i := 46) rfl)))) (mvT hZ (hw _ (List.mem_of_getElem? (i := 46) rfl))) (mvT hZ (hw _ (List.mem_of_getElem? (i := 45) rfl))) (by decide) (backOf (W := 2) (rm7 l Z a0 hw [] sz cC h0 n0 (Z0) F5) hZ (hw _ (List.mem_of_getElem? (i := 47) rfl)) (hw _ (List.mem_of_getElem? (i := 7) rfl)) (by decide) (by decide)) q6a q6c (g := (mkF m 30 #[.val (.ref r0), .val (.int p1), .val (.long q2), .second, .unset] [(.ref sz), (.long (ch + q2))])) rfl (by rw [hml]; rfl) (Steps.refl _) (argsL := []) (rest := [(.long (ch + q2))]) (lenOf pd5t_0 rfl) rfl (by show 2 * 0 + _ ≤ _; exact Nat.le_of_eq rfl) (hb hby d5_30) (fun _ _ => ⟨rfl, e5, (by decide : 0 + 0 ≤ _), (by decide : 0 + 0 ≤ _)⟩)
  dsimp only [Pt.U, Pt.locs, Pt.cells, Pt.slots] at X6 l6 y6 z6 st6 hQ6
  subst l6 y6 z6
  obtain ⟨rfl, N6q, eq6⟩ := hQ6
  have N6 := Fr.app N3 N6q
  refine Runs.trans st6 ?_
  show Runs _ _ _ _ T6 (mkF m 33 #[.val (.ref r0), .val (.int p1), .val (.long q2), .second, .unset] [(.int cC), (.long (ch + q2))])
  refine Runs.back (fun t_ k_ => XS.i2l X6.here hx rfl (hb hby d5_33) rfl k_) ?_
  show Runs _ _ _ _ T6 (mkF m 34 #[.val (.ref r0), .val (.int p1), .val (.long q2), .second, .unset] [(.long (cC.toInt64)), (.long (ch + q2))])
  refine Runs.back (fun t_ k_ => XS.lcmp X6.here hx rfl (hb hby d5_34) rfl k_) ?_
  show Runs _ _ _ _ T6 (mkF m 35 #[.val (.ref r0), .val (.int p1), .val (.long q2), .second, .unset] [(.int (lcmpW (ch + q2) (cC.toInt64)))])
  refine Runs.back (fun t_ k_ => XS.ifNo X6.here hx rfl (hb hby d5_35) rfl ((if0 _ _).trans (flt (lcF' (show ¬ ((cC.toInt64) < (ch + q2)) from hP2))).2.2.1) k_) ?_
  show Runs _ _ _ _ T6 (mkF m 38 #[.val (.ref r0), .val (.int p1), .val (.long q2), .second, .unset] [])
  refine Runs.back (fun t_ k_ => XS.iconst X6.here hx rfl (hb hby d5_38) k_) ?_
  show Runs _ _ _ _ T6 (mkF m 39 #[.val (.ref r0), .val (.int p1), .val (.long q2), .second, .unset] [(.int (1 : Int32))])
  refine Runs.back (fun t_ k_ => XS.goto X6.here hx rfl (pc0 := 39) (pc' := 43) rfl (hb hby d5_39) (by decide) (by decide) k_) ?_
  show Runs _ _ _ _ T6 (mkF m 43 #[.val (.ref r0), .val (.int p1), .val (.long q2), .second, .unset] [(.int (1 : Int32))])
  refine Runs.back (fun t_ k_ => XS.istore X6.here hx rfl (hb hby d5_43) rfl (l' := #[.val (.ref r0), .val (.int p1), .val (.long q2), .second, .val (.int (1 : Int32))]) rfl k_) ?_
  show Runs _ _ _ _ T6 (mkF m 45 #[.val (.ref r0), .val (.int p1), .val (.long q2), .second, .val (.int (1 : Int32))] [])
  refine Runs.back (fun t_ k_ => XS.iload X6.here hx rfl (hb hby d5_45) rfl k_) ?_
  show Runs _ _ _ _ T6 (mkF m 47 #[.val (.ref r0), .val (.int p1), .val (.long q2), .second, .val (.int (1 : Int32))] [(.int (1 : Int32))])
  refine Runs.back (fun t_ k_ => XS.ifNo X6.here hx rfl (hb hby d5_47) rfl ((if0 _ _).trans (feq (show ¬ ((1 : Int32) = (0 : Int32)) from (by decide))).1) k_) ?_
  show Runs _ _ _ _ T6 (mkF m 50 #[.val (.ref r0), .val (.int p1), .val (.long q2), .second, .val (.int (1 : Int32))] [])
  refine Runs.back (fun t_ k_ => XS.aloadN X6.here hx rfl (hb hby d5_50) rfl rfl k_) ?_
  show Runs _ _ _ _ T6 (mkF m 51 #[.val (.ref r0), .val (.int p1), .val (.long q2), .second, .val (.int (1 : Int32))] [(.ref r0)])
  refine Runs.back (fun t_ k_ => XS.dup X6.here hx rfl (hb hby d5_51) rfl rfl k_) ?_
  show Runs _ _ _ _ T6 (mkF m 52 #[.val (.ref r0), .val (.int p1), .val (.long q2), .second, .val (.int (1 : Int32))] [(.ref r0), (.ref r0)])
  obtain ⟨T7, X7, e7, st7⟩ := getF X6 hx hZ hown (host := "") (Or.inl (hw _ (List.mem_of_getElem? (i := 34) rfl))) Via.refl eq6 F2 (g := (mkF m 52 #[.val (.ref r0), .val (.int p1), .val (.long q2), .second, .val (.int (1 : Int32))] [(.ref r0), (.ref r0)])) rfl rfl (hb hby d5_52)
  refine Runs.back st7 ?_
  show Runs _ _ _ _ T7 (mkF m 55 #[.val (.ref r0), .val (.int p1), .val (.long q2), .second, .val (.int (1 : Int32))] [(.int en), (.ref r0)])
  refine Runs.back (fun t_ k_ => XS.iloadN X7.here hx rfl (hb hby d5_55) rfl k_) ?_
  show Runs _ _ _ _ T7 (mkF m 56 #[.val (.ref r0), .val (.int p1), .val (.long q2), .second, .val (.int (1 : Int32))] [(.int p1), (.int en), (.ref r0)])
  refine Runs.back (fun t_ k_ => XS.iadd X7.here hx rfl (hb hby d5_56) rfl k_) ?_
  show Runs _ _ _ _ T7 (mkF m 57 #[.val (.ref r0), .val (.int p1), .val (.long q2), .second, .val (.int (1 : Int32))] [(.int (en + p1)), (.ref r0)])
  obtain ⟨T8, h8, X8, e8, W8, st8⟩ := putF X7 hx hZ hown (host := "") (Or.inl (hw _ (List.mem_of_getElem? (i := 34) rfl))) Via.refl e7 F2 E_r0 (Or.inl (hw _ (List.mem_of_getElem? (i := 35) rfl))) (hw _ (List.mem_of_getElem? (i := 3) rfl)) (ty := .int) (by decide) rfl rfl (g := (mkF m 57 #[.val (.ref r0), .val (.int p1), .val (.long q2), .second, .val (.int (1 : Int32))] [(.int (en + p1)), (.ref r0)])) rfl rfl (hb hby d5_57)
  have f8_Exa_0 : Exa Z h8 r0 "stanzabits/xml/Room" := Exa.wr W8 E_r0
  have f8_Fld_1 : Fld Z h8 r0 "stanzabits/xml/Room" "size" "Lstanzabits/xml/Room$Size;" (.ref sz) := Fld.other W8 F1 (Or.inr (slot_ne (Or.inr (hw _ (List.mem_of_getElem? (i := 28) rfl))) (Or.inl (hw _ (List.mem_of_getElem? (i := 35) rfl))) (by decide) (t := (.object "stanzabits/xml/Room$Size")) (t' := .int) (by decide) (by decide)))
  have f8_Fld_2 : Fld Z h8 r0 "stanzabits/xml/Room" "entries" "I" (.int (en + p1)) := Fld.same W8 F2
  have f8_Fld_3 : Fld Z h8 r0 "stanzabits/xml/Room" "chars" "J" (.long ch) := Fld.other W8 F3 (Or.inr (slot_ne (Or.inl (hw _ (List.mem_of_getElem? (i := 42) rfl))) (Or.inl (hw _ (List.mem_of_getElem? (i := 35) rfl))) (by decide) (t := .long) (t' := .int) (by decide) (by decide)))
  have f8_Exa_4 : Exa Z h8 sz "stanzabits/xml/Room$Size" := Exa.wr W8 E_sz
  have f8_Fld_5 : Fld Z h8 sz "stanzabits/xml/Room$Size" "entries" "I" (.int cE) := Fld.other W8 F4 (Or.inl (Ne.symm ne_r0_sz))
  have f8_Fld_6 : Fld Z h8 sz "stanzabits/xml/Room$Size" "chars" "I" (.int cC) := Fld.other W8 F5 (Or.inl (Ne.symm ne_r0_sz))
  have N8 := Fr.snoc X8 N6 g_r0
  have KK8 : Keep h0 h8 [r0] := Keep.wr (Keep.refl h0 [r0]) W8 (Or.inl (List.mem_of_getElem? (i := 0) rfl))
  have Z8 : n0 ≤ h8.size := Nat.le_trans (Z0) (Nat.le_of_eq W8.size.symm)
  refine Runs.back st8 ?_
  show Runs _ _ _ _ T8 (mkF m 60 #[.val (.ref r0), .val (.int p1), .val (.long q2), .second, .val (.int (1 : Int32))] [])
  refine Runs.back (fun t_ k_ => XS.aloadN X8.here hx rfl (hb hby d5_60) rfl rfl k_) ?_
  show Runs _ _ _ _ T8 (mkF m 61 #[.val (.ref r0), .val (.int p1), .val (.long q2), .second, .val (.int (1 : Int32))] [(.ref r0)])
  refine Runs.back (fun t_ k_ => XS.dup X8.here hx rfl (hb hby d5_61) rfl rfl k_) ?_
  show Runs _ _ _ _ T8 (mkF m 62 #[.val (.ref r0), .val (.int p1), .val (.long q2), .second, .val (.int (1 : Int32))] [(.ref r0), (.ref r0)])
  obtain ⟨T9, X9, e9, st9⟩ := getF X8 hx hZ hown (host := "") (Or.inl (hw _ (List.mem_of_getElem? (i := 41) rfl))) Via.refl e8 f8_Fld_3 (g := (mkF m 62 #[.val (.ref r0), .val (.int p1), .val (.long q2), .second, .val (.int (1 : Int32))] [(.ref r0), (.ref r0)])) rfl rfl (hb hby d5_62)
  refine Runs.back st9 ?_
  show Runs _ _ _ _ T9 (mkF m 65 #[.val (.ref r0), .val (.int p1), .val (.long q2), .second, .val (.int (1 : Int32))] [(.long ch), (.ref r0)])
  refine Runs.back (fun t_ k_ => XS.lloadN X9.here hx rfl (hb hby d5_65) rfl k_) ?_
  show Runs _ _ _ _ T9 (mkF m 66 #[.val (.ref r0), .val (.int p1), .val (.long q2), .second, .val (.int (1 : Int32))] [(.long q2), (.long ch), (.ref r0)])
  refine Runs.back (fun t_ k_ => XS.ladd X9.here hx rfl (hb hby d5_66) rfl k_) ?_
  show Runs _ _ _ _ T9 (mkF m 67 #[.val (.ref r0), .val (.int p1), .val (.long q2), .second, .val (.int (1 : Int32))] [(.long (ch + q2)), (.ref r0)])
  obtain ⟨T10, h10, X10, e10, W10, st10⟩ := putF X9 hx hZ hown (host := "") (Or.inl (hw _ (List.mem_of_getElem? (i := 41) rfl))) Via.refl e9 f8_Fld_3 f8_Exa_0 (Or.inl (hw _ (List.mem_of_getElem? (i := 42) rfl))) (hw _ (List.mem_of_getElem? (i := 3) rfl)) (ty := .long) (by decide) rfl rfl (g := (mkF m 67 #[.val (.ref r0), .val (.int p1), .val (.long q2), .second, .val (.int (1 : Int32))] [(.long (ch + q2)), (.ref r0)])) rfl rfl (hb hby d5_67)
  have f10_Exa_0 : Exa Z h10 r0 "stanzabits/xml/Room" := Exa.wr W10 f8_Exa_0
  have f10_Fld_1 : Fld Z h10 r0 "stanzabits/xml/Room" "size" "Lstanzabits/xml/Room$Size;" (.ref sz) := Fld.other W10 f8_Fld_1 (Or.inr (slot_ne (Or.inr (hw _ (List.mem_of_getElem? (i := 28) rfl))) (Or.inl (hw _ (List.mem_of_getElem? (i := 42) rfl))) (by decide) (t := (.object "stanzabits/xml/Room$Size")) (t' := .long) (by decide) (by decide)))
  have f10_Fld_2 : Fld Z h10 r0 "stanzabits/xml/Room" "entries" "I" (.int (en + p1)) := Fld.other W10 f8_Fld_2 (Or.inr (slot_ne (Or.inl (hw _ (List.mem_of_getElem? (i := 35) rfl))) (Or.inl (hw _ (List.mem_of_getElem? (i := 42) rfl))) (by decide) (t := .int) (t' := .long) (by decide) (by decide)))
  have f10_Fld_3 : Fld Z h10 r0 "stanzabits/xml/Room" "chars" "J" (.long (ch + q2)) := Fld.same W10 f8_Fld_3
  have f10_Exa_4 : Exa Z h10 sz "stanzabits/xml/Room$Size" := Exa.wr W10 f8_Exa_4
  have f10_Fld_5 : Fld Z h10 sz "stanzabits/xml/Room$Size" "entries" "I" (.int cE) := Fld.other W10 f8_Fld_5 (Or.inl (Ne.symm ne_r0_sz))
  have f10_Fld_6 : Fld Z h10 sz "stanzabits/xml/Room$Size" "chars" "I" (.int cC) := Fld.other W10 f8_Fld_6 (Or.inl (Ne.symm ne_r0_sz))
  have N10 := Fr.snoc X10 N8 g_r0
  have KK10 : Keep h0 h10 [r0] := Keep.wr KK8 W10 (Or.inl (List.mem_of_getElem? (i := 0) rfl))
  have Z10 : n0 ≤ h10.size := Nat.le_trans (Z8) (Nat.le_of_eq W10.size.symm)
  refine Runs.back st10 ?_
  show Runs _ _ _ _ T10 (mkF m 70 #[.val (.ref r0), .val (.int p1), .val (.long q2), .second, .val (.int (1 : Int32))] [])
  refine Runs.back (fun t_ k_ => XS.iload X10.here hx rfl (hb hby d5_70) rfl k_) ?_
  show Runs _ _ _ _ T10 (mkF m 72 #[.val (.ref r0), .val (.int p1), .val (.long q2), .second, .val (.int (1 : Int32))] [(.int (1 : Int32))])
  obtain ⟨fs, hr, hrun, hended, hW, hsame⟩ := X10.leave (v := some (.int (1 : Int32))) (fun h => by rw [Bd.returns] at h; cases h)
  exact ⟨_, _, (retN X10 hx (t := .boolean) Bd.returns (by simp) (hb hby d5_72) hr), hrun, hended, _, _, rfl, (by show Q5t Z r0 p1 q2 sz en ch cE cC h0 n0 _ T10.heap _; rw [e10]; exact ⟨rfl, N10, KK10, f10_Exa_0, f10_Fld_1, f10_Fld_2, f10_Fld_3⟩), ⟨_, rfl⟩, hW, hsame.mono (by decide) (by decide)⟩
theorem pn_5f : plainName "stanzabits/xml/Room" = true := by first | (simp [plainName, overriddenIn]; done) | decide +kernel
theorem pd5f_0 : parseMethodDescriptor "()I" = some ⟨[], some .int⟩ := by decide +kernel
theorem ef_5f (m : MethodId) (r0 : Addr) (p1 : Int32) (q2 : Int64) : entryFrame m #[(.ref r0), (.int p1), (.long q2)] 5 = mkF m 0 #[.val (.ref r0), .val (.int p1), .val (.long q2), .second, .unset] [] := by first | (simp [entryFrame, mkF, argsToLocals, Value.category]; done) | rfl
def Q5f (Z : State) (r0 : Addr) (p1 : Int32) (q2 : Int64) (sz : Addr) (en : Int32) (ch : Int64) (cE cC : Int32) (h0 : Heap) (n0 : Nat) (v : Option Value) (h : Heap) (L : List Loc) : Prop := v = some (.int 0) ∧ Fr n0 L ∧ h = h0
set_option maxRecDepth 65536 in
set_option maxHeartbeats 40000000 in
theorem rm5f (l : Launch) (Z : State) (a0 : Array Value) (hw : ∀ d ∈ tables_1, d.before a0 Z = true) (ws : List Jvm.Cond) (r0 : Addr) (p1 : Int32) (q2 : Int64) (sz : Addr) (en : Int32) (ch : Int64) (cE cC : Int32) (h0 : Heap) (n0 : Nat) (Z0 : n0 ≤ h0.size) (E_r0 : Exa Z h0 r0 "stanzabits/xml/Room") (F1 : Fld Z h0 r0 "stanzabits/xml/Room" "size" "Lstanzabits/xml/Room$Size;" (.ref sz)) (F2 : Fld Z h0 r0 "stanzabits/xml/Room" "entries" "I" (.int en)) (F3 : Fld Z h0 r0 "stanzabits/xml/Room" "chars" "J" (.long ch)) (E_sz : Exa Z h0 sz "stanzabits/xml/Room$Size") (F4 : Fld Z h0 sz "stanzabits/xml/Room$Size" "entries" "I" (.int cE)) (F5 : Fld Z h0 sz "stanzabits/xml/Room$Size" "chars" "I" (.int cC)) (ne_r0_sz : r0 ≠ sz) (g_r0 : n0 ≤ r0) (hN : ¬ (¬ cE.toInt64 < en.toInt64 + p1.toInt64 ∧ ¬ cC.toInt64 < ch + q2)) :
    MetFree l (⟨"stanzabits/xml/Room", "take", "(IJ)Z"⟩ : MethodName) (head1 (Jvm.Cond.code (⟨"stanzabits/xml/Room", "take", "(IJ)Z"⟩ : MethodName) prog_91_method_2_code 5 (some .boolean) :: ws) ({ frames := 1, cells := 0, slots := 0, locals := 14 } : Room)) (fun a U => a = #[(.ref r0), (.int p1), (.long q2)] ∧ Z.Warmed39 U.vm ∧ U.heap = h0) (fun _ _ _ _ _ => True) (fun _ U o U' => ∃ v L, o = .returned v ∧ Q5f Z r0 p1 q2 sz en ch cE cC h0 n0 v U'.heap L ∧ FrameEnd U o U' L ({ frames := 1, cells := 0, slots := 0, locals := 14 } : Room).cells ({ frames := 1, cells := 0, slots := 0, locals := 14 } : Room).slots) := by
  refine MetFree.of_bodySF (plainFor_of_name pn_5f) hisR ?_
  intro p e s m args below meth c s₁ Bd hml0 hP hK
  obtain ⟨rfl, hZ, hh⟩ := hP
  have hx := Bd.exec
  have hby := Bd.bytes
  have hml : c.maxLocals = 5 := hml0
  have hown : s.vm.findClass "stanzabits/xml/Room" = some m.cls := findClass_of_methodNamed Bd.named
  have hnm := (name_of_methodNamed Bd.named Bd.method).1
  have X0 : Stand p l e ({ frames := 1, cells := 0, slots := 0, locals := 14 } : Room) s m #[(.ref r0), (.int p1), (.long q2)] below meth c s₁ [] 0 0 := Stand.of_body Bd
  have e0 : s₁.heap = h0 := by rw [← hh, Bd.state]; rfl
  have N0 := Fr.nil n0
  refine Runs.enter (ef_5f m r0 p1 q2) ?_
  show Runs _ _ _ _ s₁ (mkF m 0 #[.val (.ref r0), .val (.int p1), .val (.long q2), .second, .unset] [])
  refine Runs.back (fun t_ k_ => XS.aloadN X0.here hx rfl (hb hby d5_0) rfl rfl k_) ?_
  show Runs _ _ _ _ s₁ (mkF m 1 #[.val (.ref r0), .val (.int p1), .val (.long q2), .second, .unset] [(.ref r0)])
  obtain ⟨T1, X1, e1, st1⟩ := getF X0 hx hZ hown (host := "") (Or.inl (hw _ (List.mem_of_getElem? (i := 34) rfl))) Via.refl e0 F2 (g := (mkF m 1 #[.val (.ref r0), .val (.int p1), .val (.long q2), .second, .unset] [(.ref r0)])) rfl rfl (hb hby d5_1)
  refine Runs.back st1 ?_
  show Runs _ _ _ _ T1 (mkF m 4 #[.val (.ref r0), .val (.int p1), .val (.long q2), .second, .unset] [(.int en)])
  refine Runs.back (fun t_ k_ => XS.i2l X1.here hx rfl (hb hby d5_4) rfl k_) ?_
  show Runs _ _ _ _ T1 (mkF m 5 #[.val (.ref r0), .val (.int p1), .val (.long q2), .second, .unset] [(.long (en.toInt64))])
  refine Runs.back (fun t_ k_ => XS.iloadN X1.here hx rfl (hb hby d5_5) rfl k_) ?_
  show Runs _ _ _ _ T1 (mkF m 6 #[.val (.ref r0), .val (.int p1), .val (.long q2), .second, .unset] [(.int p1), (.long (en.toInt64))])
  refine Runs.back (fun t_ k_ => XS.i2l X1.here hx rfl (hb hby d5_6) rfl k_) ?_
  show Runs _ _ _ _ T1 (mkF m 7 #[.val (.ref r0), .val (.int p1), .val (.long q2), .second, .unset] [(.long (p1.toInt64)), (.long (en.toInt64))])
  refine Runs.back (fun t_ k_ => XS.ladd X1.here hx rfl (hb hby d5_7) rfl k_) ?_
  show Runs _ _ _ _ T1 (mkF m 8 #[.val (.ref r0), .val (.int p1), .val (.long q2), .second, .unset] [(.long ((en.toInt64) + (p1.toInt64)))])
  refine Runs.back (fun t_ k_ => XS.aloadN X1.here hx rfl (hb hby d5_8) rfl rfl k_) ?_
  show Runs _ _ _ _ T1 (mkF m 9 #[.val (.ref r0), .val (.int p1), .val (.long q2), .second, .unset] [(.ref r0), (.long ((en.toInt64) + (p1.toInt64)))])
  obtain ⟨T2, X2, e2, st2⟩ := getF X1 hx hZ hown (host := "") (Or.inl (hw _ (List.mem_of_getElem? (i := 27) rfl))) Via.refl e1 F1 (g := (mkF m 9 #[.val (.ref r0), .val (.int p1), .val (.long q2), .second, .unset] [(.ref r0), (.long ((en.toInt64) + (p1.toInt64)))])) rfl rfl (hb hby d5_9)
  refine Runs.back st2 ?_
  show Runs _ _ _ _ T2 (mkF m 12 #[.val (.ref r0), .val (.int p1), .val (.long q2), .second, .unset] [(.ref sz), (.long ((en.toInt64) + (p1.toInt64)))])
  obtain ⟨cq3, kq3, q3a, q3b, q3c⟩ := isOf hZ e2 E_sz
  obtain ⟨_, _, ⟨T3, L3, k3, n3⟩, -, X3, ⟨Lc3, hQ3, l3, y3, z3⟩, st3⟩ := X2.virtualBack hx (y := (⟨"stanzabits/xml/Room$Size", "entries", "()I"⟩ : MethodName)) (z := (⟨"stanzabits/xml/Room$Size", "entries", "()I"⟩ : MethodName)) hown (mvT hZ (hw _ (List.mem_of_getElem? (i := 36) rfl))) (mvT hZ (hw _ (List.mem_of_getElem? (i := 37) rfl))) (notFace_of_selects (args := #[]) (mvT hZ (hw _ (List.mem_of_getElem? (i := 39) rfl)))) (mvT hZ (hw _ (List.mem_of_getElem? (i := 39) rfl))) (mvT hZ (hw _ (List.mem_of_getElem? (i := 38) rfl))) (by decide) (backOf (W := 2) (rm6 l Z a0 hw [] sz cE h0 n0 (Z0) F4) hZ (hw _ (List.mem_of_getElem? (i := 40) rfl)) (hw _ (List.mem_of_getElem? (i := 7) rfl)) (by decide) (by decide)) q3a q3c (g := (mkF m 12 #[.val (.ref r0), .val (.int p1), .val (.long q2), .second, .unset] [(.ref sz), (.long ((en.toInt64) + (p1.toInt64)))])) rfl (by rw [hml]; rfl) (Steps.refl _) (argsL := []) (rest := [(.long ((en.toInt64) + (p1.toInt64)))]) (lenOf pd5f_0 rfl) rfl (by show 2 * 0 + _ ≤ _; exact Nat.le_of_eq rfl) (hb hby d5_12) (fun _ _ => ⟨rfl, e2, (by decide : 0 + 0 ≤ _), (by decide : 0 + 0 ≤ _)⟩)
  dsimp only [Pt.U, Pt.locs, Pt.cells, Pt.slots] at X3 l3 y3 z3 st3 hQ3
  subst l3 y3 z3
  obtain ⟨rfl, N3q, eq3⟩ := hQ3
  have N3 := Fr.app N0 N3q
  refine Runs.trans st3 ?_
  show Runs _ _ _ _ T3 (mkF m 15 #[.val (.ref r0), .val (.int p1), .val (.long q2), .second, .unset] [(.int cE), (.long ((en.toInt64) + (p1.toInt64)))])
  refine Runs.back (fun t_ k_ => XS.i2l X3.here hx rfl (hb hby d5_15) rfl k_) ?_
  show Runs _ _ _ _ T3 (mkF m 16 #[.val (.ref r0), .val (.int p1), .val (.long q2), .second, .unset] [(.long (cE.toInt64)), (.long ((en.toInt64) + (p1.toInt64)))])
  refine Runs.back (fun t_ k_ => XS.lcmp X3.here hx rfl (hb hby d5_16) rfl k_) ?_
  show Runs _ _ _ _ T3 (mkF m 17 #[.val (.ref r0), .val (.int p1), .val (.long q2), .second, .unset] [(.int (lcmpW ((en.toInt64) + (p1.toInt64)) (cE.toInt64)))])
  by_cases c17_4 : (cE.toInt64) < ((en.toInt64) + (p1.toInt64))
  · refine Runs.back (fun t_ k_ => XS.ifYes X3.here hx rfl (pc0 := 17) (pc' := 42) rfl (hb hby d5_17) rfl ((if0 _ _).trans (tlt (lcT' c17_4)).2.2.1) (by decide) (by decide) k_) ?_
    show Runs _ _ _ _ T3 (mkF m 42 #[.val (.ref r0), .val (.int p1), .val (.long q2), .second, .unset] [])
    refine Runs.back (fun t_ k_ => XS.iconst X3.here hx rfl (hb hby d5_42) k_) ?_
    show Runs _ _ _ _ T3 (mkF m 43 #[.val (.ref r0), .val (.int p1), .val (.long q2), .second, .unset] [(.int (0 : Int32))])
    refine Runs.back (fun t_ k_ => XS.istore X3.here hx rfl (hb hby d5_43) rfl (l' := #[.val (.ref r0), .val (.int p1), .val (.long q2), .second, .val (.int (0 : Int32))]) rfl k_) ?_
    show Runs _ _ _ _ T3 (mkF m 45 #[.val (.ref r0), .val (.int p1), .val (.long q2), .second, .val (.int (0 : Int32))] [])
    refine Runs.back (fun t_ k_ => XS.iload X3.here hx rfl (hb hby d5_45) rfl k_) ?_
    show Runs _ _ _ _ T3 (mkF m 47 #[.val (.ref r0), .val (.int p1), .val (.long q2), .second, .val (.int (0 : Int32))] [(.int (0 : Int32))])
    refine Runs.back (fun t_ k_ => XS.ifYes X3.here hx rfl (pc0 := 47) (pc' := 70) rfl (hb hby d5_47) rfl ((if0 _ _).trans (teq (show (0 : Int32) = (0 : Int32) from rfl)).1) (by decide) (by decide) k_) ?_
    show Runs _ _ _ _ T3 (mkF m 70 #[.val (.ref r0), .val (.int p1), .val (.long q2), .second, .val (.int (0 : Int32))] [])
    refine Runs.back (fun t_ k_ => XS.iload X3.here hx rfl (hb hby d5_70) rfl k_) ?_
    show Runs _ _ _ _ T3 (mkF m 72 #[.val (.ref r0), .val (.int p1), .val (.long q2), .second, .val (.int (0 : Int32))] [(.int (0 : Int32))])
    obtain ⟨fs, hr, hrun, hended, hW, hsame⟩ := X3.leave (v := some (.int (0 : Int32))) (fun h => by rw [Bd.returns] at h; cases h)
    exact ⟨_, _, (retN X3 hx (t := .boolean) Bd.returns (by simp) (hb hby d5_72) hr), hrun, hended, _, _, rfl, ⟨rfl, N3, eq3⟩, ⟨_, rfl⟩, hW, hsame.mono (by decide) (by decide)⟩
  · refine Runs.back (fun t_ k_ => XS.ifNo X3.here hx rfl (hb hby d5_17) rfl ((if0 _ _).trans (flt (lcF' c17_4)).2.2.1) k_) ?_
    show Runs _ _ _ _ T3 (mkF m 20 #[.val (.ref r0), .val (.int p1), .val (.long q2), .second, .unset] [])
    refine Runs.back (fun t_ k_ => XS.aloadN X3.here hx rfl (hb hby d5_20) rfl rfl k_) ?_
    show Runs _ _ _ _ T3 (mkF m 21 #[.val (.ref r0), .val (.int p1), .val (.long q2), .second, .unset] [(.ref r0)])
    obtain ⟨T5, X5, e5, st5⟩ := getF X3 hx hZ hown (host := "") (Or.inl (hw _ (List.mem_of_getElem? (i := 41) rfl))) Via.refl eq3 F3 (g := (mkF m 21 #[.val (.ref r0), .val (.int p1), .val (.long q2), .second, .unset] [(.ref r0)])) rfl rfl (hb hby d5_21)
    refine Runs.back st5 ?_
    show Runs _ _ _ _ T5 (mkF m 24 #[.val (.ref r0), .val (.int p1), .val (.long q2), .second, .unset] [(.long ch)])
    refine Runs.back (fun t_ k_ => XS.lloadN X5.here hx rfl (hb hby d5_24) rfl k_) ?_
    show Runs _ _ _ _ T5 (mkF m 25 #[.val (.ref r0), .val (.int p1), .val (.long q2), .second, .unset] [(.long q2), (.long ch)])
    refine Runs.back (fun t_ k_ => XS.ladd X5.here hx rfl (hb hby d5_25) rfl k_) ?_
    show Runs _ _ _ _ T5 (mkF m 26 #[.val (.ref r0), .val (.int p1), .val (.long q2), .second, .unset] [(.long (ch + q2))])
    refine Runs.back (fun t_ k_ => XS.aloadN X5.here hx rfl (hb hby d5_26) rfl rfl k_) ?_
    show Runs _ _ _ _ T5 (mkF m 27 #[.val (.ref r0), .val (.int p1), .val (.long q2), .second, .unset] [(.ref r0), (.long (ch + q2))])
    obtain ⟨T6, X6, e6, st6⟩ := getF X5 hx hZ hown (host := "") (Or.inl (hw _ (List.mem_of_getElem? (i := 27) rfl))) Via.refl e5 F1 (g := (mkF m 27 #[.val (.ref r0), .val (.int p1), .val (.long q2), .second, .unset] [(.ref r0), (.long (ch + q2))])) rfl rfl (hb hby d5_27)
    refine Runs.back st6 ?_
    show Runs _ _ _ _ T6 (mkF m 30 #[.val (.ref r0), .val (.int p1), .val (.long q2), .second, .unset] [(.ref sz), (.long (ch + q2))])
    obtain ⟨cq7, kq7, q7a, q7b, q7c⟩ := isOf hZ e6 E_sz
    obtain ⟨_, _, ⟨T7, L7, k7, n7⟩, -, X7, ⟨Lc7, hQ7, l7, y7, z7⟩, st7⟩ := X6.virtualBack hx (y := (⟨"stanzabits/xml/Room$Size", "chars", "()I"⟩ : MethodName)) (z := (⟨"stanzabits/xml/Room$Size", "chars", "()I"⟩ : MethodName)) hown (mvT hZ (hw _ (List.mem_of_getElem? (i := 43) rfl))) (mvT hZ (hw _ (List.mem_of_getElem? (i := 44) rfl))) (notFace_of_selects (args := #[]) (mvT hZ (hw _ (List.mem_of_getElem? (i := 46) rfl)))) (mvT hZ (hw _ (List.mem_of_getElem? (i := 46) rfl))) (mvT hZ (hw _ (List.mem_of_getElem? (i := 45) rfl))) (by decide) (backOf (W := 2) (rm7 l Z a0 hw [] sz cC h0 n0 (Z0) F5) hZ (hw _ (List.mem_of_getElem? (i := 47) rfl)) (hw _ (List.mem_of_getElem? (i := 7) rfl)) (by decide) (by decide)) q7a q7c (g := (mkF m 30 #[.val (.ref r0), .val (.int p1), .val (.long q2), .second, .unset] [(.ref sz), (.long (ch + q2))])) rfl (by rw [hml]; rfl) (Steps.refl _) (argsL := []) (rest := [(.long (ch + q2))]) (lenOf pd5f_0 rfl) rfl (by show 2 * 0 + _ ≤ _; exact Nat.le_of_eq rfl) (hb hby d5_30) (fun _ _ => ⟨rfl, e6, (by decide : 0 + 0 ≤ _), (by decide : 0 + 0 ≤ _)⟩)
    dsimp only [Pt.U, Pt.locs, Pt.cells, Pt.slots] at X7 l7 y7 z7 st7 hQ7
    subst l7 y7 z7
    obtain ⟨rfl, N7q, eq7⟩ := hQ7
    have N7 := Fr.app N3 N7q
    refine Runs.trans st7 ?_
    show Runs _ _ _ _ T7 (mkF m 33 #[.val (.ref r0), .val (.int p1), .val (.long q2), .second, .unset] [(.int cC), (.long (ch + q2))])
    refine Runs.back (fun t_ k_ => XS.i2l X7.here hx rfl (hb hby d5_33) rfl k_) ?_
    show Runs _ _ _ _ T7 (mkF m 34 #[.val (.ref r0), .val (.int p1), .val (.long q2), .second, .unset] [(.long (cC.toInt64)), (.long (ch + q2))])
    refine Runs.back (fun t_ k_ => XS.lcmp X7.here hx rfl (hb hby d5_34) rfl k_) ?_
    show Runs _ _ _ _ T7 (mkF m 35 #[.val (.ref r0), .val (.int p1), .val (.long q2), .second, .unset] [(.int (lcmpW (ch + q2) (cC.toInt64)))])
    by_cases c35_8 : (cC.toInt64) < (ch + q2)
    · refine Runs.back (fun t_ k_ => XS.ifYes X7.here hx rfl (pc0 := 35) (pc' := 42) rfl (hb hby d5_35) rfl ((if0 _ _).trans (tlt (lcT' c35_8)).2.2.1) (by decide) (by decide) k_) ?_
      show Runs _ _ _ _ T7 (mkF m 42 #[.val (.ref r0), .val (.int p1), .val (.long q2), .second, .unset] [])
      refine Runs.back (fun t_ k_ => XS.iconst X7.here hx rfl (hb hby d5_42) k_) ?_
      show Runs _ _ _ _ T7 (mkF m 43 #[.val (.ref r0), .val (.int p1), .val (.long q2), .second, .unset] [(.int (0 : Int32))])
      refine Runs.back (fun t_ k_ => XS.istore X7.here hx rfl (hb hby d5_43) rfl (l' := #[.val (.ref r0), .val (.int p1), .val (.long q2), .second, .val (.int (0 : Int32))]) rfl k_) ?_
      show Runs _ _ _ _ T7 (mkF m 45 #[.val (.ref r0), .val (.int p1), .val (.long q2), .second, .val (.int (0 : Int32))] [])
      refine Runs.back (fun t_ k_ => XS.iload X7.here hx rfl (hb hby d5_45) rfl k_) ?_
      show Runs _ _ _ _ T7 (mkF m 47 #[.val (.ref r0), .val (.int p1), .val (.long q2), .second, .val (.int (0 : Int32))] [(.int (0 : Int32))])
      refine Runs.back (fun t_ k_ => XS.ifYes X7.here hx rfl (pc0 := 47) (pc' := 70) rfl (hb hby d5_47) rfl ((if0 _ _).trans (teq (show (0 : Int32) = (0 : Int32) from rfl)).1) (by decide) (by decide) k_) ?_
      show Runs _ _ _ _ T7 (mkF m 70 #[.val (.ref r0), .val (.int p1), .val (.long q2), .second, .val (.int (0 : Int32))] [])
      refine Runs.back (fun t_ k_ => XS.iload X7.here hx rfl (hb hby d5_70) rfl k_) ?_
      show Runs _ _ _ _ T7 (mkF m 72 #[.val (.ref r0), .val (.int p1), .val (.long q2), .second, .val (.int (0 : Int32))] [(.int (0 : Int32))])
      obtain ⟨fs, hr, hrun, hended, hW, hsame⟩ := X7.leave (v := some (.int (0 : Int32))) (fun h => by rw [Bd.returns] at h; cases h)
      exact ⟨_, _, (retN X7 hx (t := .boolean) Bd.returns (by simp) (hb hby d5_72) hr), hrun, hended, _, _, rfl, ⟨rfl, N7, eq7⟩, ⟨_, rfl⟩, hW, hsame.mono (by decide) (by decide)⟩
    · refine Runs.back (fun t_ k_ => XS.ifNo X7.here hx rfl (hb hby d5_35) rfl ((if0 _ _).trans (flt (lcF' c35_8)).2.2.1) k_) ?_
      show Runs _ _ _ _ T7 (mkF m 38 #[.val (.ref r0), .val (.int p1), .val (.long q2), .second, .unset] [])
      exact absurd ⟨c17_4, c35_8⟩ hN
theorem pn_0 : plainName "stanzabits/xml/RoomTakePinLaw" = true := by first | (simp [plainName, overriddenIn]; done) | decide +kernel
theorem pd0_0 : parseMethodDescriptor "(II)V" = some ⟨[.int, .int], none⟩ := by decide +kernel
theorem pd0_1 : parseMethodDescriptor "(Lstanzabits/xml/Room$Size;)V" = some ⟨[(.object "stanzabits/xml/Room$Size")], none⟩ := by decide +kernel
theorem pd0_2 : parseMethodDescriptor "(IJ)Z" = some ⟨[.int, .long], some .boolean⟩ := by decide +kernel
theorem ef_0 (m : MethodId) (p0 : Int32) (p1 : Int32) (p2 : Int32) (q3 : Int64) (p4 : Int32) (q5 : Int64) : entryFrame m #[(.int p0), (.int p1), (.int p2), (.long q3), (.int p4), (.long q5)] maxLocals = mkF m 0 #[.val (.int p0), .val (.int p1), .val (.int p2), .val (.long q3), .second, .val (.int p4), .val (.long q5), .second, .unset, .unset, .unset, .unset, .unset, .unset, .unset, .unset, .unset, .unset, .unset, .unset, .unset, .unset, .unset, .unset, .unset, .unset, .unset, .unset] [] := by first | (simp [entryFrame, mkF, argsToLocals, Value.category, maxLocals]; done) | rfl
def Q0 (Z : State) (p0 : Int32) (p1 : Int32) (p2 : Int32) (q3 : Int64) (p4 : Int32) (q5 : Int64)  (h0 : Heap) (n0 : Nat) (v : Option Value) (h : Heap) (L : List Loc) : Prop := v = some (.int 1) ∧ Fr n0 L
set_option maxRecDepth 65536 in
set_option maxHeartbeats 40000000 in
theorem rm0 (l : Launch) (Z : State) (a0 : Array Value) (hw : ∀ d ∈ tables_1, d.before a0 Z = true) (ws : List Jvm.Cond) (p0 : Int32) (p1 : Int32) (p2 : Int32) (q3 : Int64) (p4 : Int32) (q5 : Int64)  (h0 : Heap) (n0 : Nat) (Z0 : n0 ≤ h0.size) :
    MetFree l x (head1 (Jvm.Cond.code x code maxLocals ret :: ws) room_1) (fun a U => a = #[(.int p0), (.int p1), (.int p2), (.long q3), (.int p4), (.long q5)] ∧ Z.Warmed39 U.vm ∧ U.heap = h0) (fun _ _ _ _ _ => True) (fun _ U o U' => ∃ v L, o = .returned v ∧ Q0 Z p0 p1 p2 q3 p4 q5 h0 n0 v U'.heap L ∧ FrameEnd U o U' L 16 128) := by
  refine MetFree.of_bodySF (plainFor_of_name pn_0) hisR ?_
  intro p e s m args below meth c s₁ Bd hml0 hP hK
  obtain ⟨rfl, hZ, hh⟩ := hP
  have hx := Bd.exec
  have hby := Bd.bytes
  have hml : c.maxLocals = 28 := hml0
  have hown : s.vm.findClass "stanzabits/xml/RoomTakePinLaw" = some m.cls := findClass_of_methodNamed Bd.named
  have hnm := (name_of_methodNamed Bd.named Bd.method).1
  have X0 : Stand p l e room_1 s m #[(.int p0), (.int p1), (.int p2), (.long q3), (.int p4), (.long q5)] below meth c s₁ [] 0 0 := Stand.of_body Bd
  have e0 : s₁.heap = h0 := by rw [← hh, Bd.state]; rfl
  have N0 := Fr.nil n0
  refine Runs.enter (ef_0 m p0 p1 p2 q3 p4 q5) ?_
  show Runs _ _ _ _ s₁ (mkF m 0 #[.val (.int p0), .val (.int p1), .val (.int p2), .val (.long q3), .second, .val (.int p4), .val (.long q5), .second, .unset, .unset, .unset, .unset, .unset, .unset, .unset, .unset, .unset, .unset, .unset, .unset, .unset, .unset, .unset, .unset, .unset, .unset, .unset, .unset] [])
  refine Runs.back (fun t_ k_ => XS.iloadN X0.here hx rfl (hb hby at_0) rfl k_) ?_
  show Runs _ _ _ _ s₁ (mkF m 1 #[.val (.int p0), .val (.int p1), .val (.int p2), .val (.long q3), .second, .val (.int p4), .val (.long q5), .second, .unset, .unset, .unset, .unset, .unset, .unset, .unset, .unset, .unset, .unset, .unset, .unset, .unset, .unset, .unset, .unset, .unset, .unset, .unset, .unset] [(.int p0)])
  refine Runs.back (X0.ldcInt hx hown (mvT hZ (hw _ (List.mem_of_getElem? (i := 0) rfl))) (g := (mkF m 1 #[.val (.int p0), .val (.int p1), .val (.int p2), .val (.long q3), .second, .val (.int p4), .val (.long q5), .second, .unset, .unset, .unset, .unset, .unset, .unset, .unset, .unset, .unset, .unset, .unset, .unset, .unset, .unset, .unset, .unset, .unset, .unset, .unset, .unset] [(.int p0)])) rfl (hb hby at_1)) ?_
  show Runs _ _ _ _ s₁ (mkF m 3 #[.val (.int p0), .val (.int p1), .val (.int p2), .val (.long q3), .second, .val (.int p4), .val (.long q5), .second, .unset, .unset, .unset, .unset, .unset, .unset, .unset, .unset, .unset, .unset, .unset, .unset, .unset, .unset, .unset, .unset, .unset, .unset, .unset, .unset] [(.int (2147483647 : Int32)), (.int p0)])
  refine Runs.back (fun t_ k_ => XS.iand X0.here hx rfl (hb hby at_3) rfl k_) ?_
  show Runs _ _ _ _ s₁ (mkF m 4 #[.val (.int p0), .val (.int p1), .val (.int p2), .val (.long q3), .second, .val (.int p4), .val (.long q5), .second, .unset, .unset, .unset, .unset, .unset, .unset, .unset, .unset, .unset, .unset, .unset, .unset, .unset, .unset, .unset, .unset, .unset, .unset, .unset, .unset] [(.int (p0 &&& (2147483647 : Int32)))])
  refine Runs.back (fun t_ k_ => XS.istore X0.here hx rfl (hb hby at_4) rfl (l' := #[.val (.int p0), .val (.int p1), .val (.int p2), .val (.long q3), .second, .val (.int p4), .val (.long q5), .second, .val (.int (p0 &&& (2147483647 : Int32))), .unset, .unset, .unset, .unset, .unset, .unset, .unset, .unset, .unset, .unset, .unset, .unset, .unset, .unset, .unset, .unset, .unset, .unset, .unset]) rfl k_) ?_
  show Runs _ _ _ _ s₁ (mkF m 6 #[.val (.int p0), .val (.int p1), .val (.int p2), .val (.long q3), .second, .val (.int p4), .val (.long q5), .second, .val (.int (p0 &&& (2147483647 : Int32))), .unset, .unset, .unset, .unset, .unset, .unset, .unset, .unset, .unset, .unset, .unset, .unset, .unset, .unset, .unset, .unset, .unset, .unset, .unset] [])
  refine Runs.back (fun t_ k_ => XS.iloadN X0.here hx rfl (hb hby at_6) rfl k_) ?_
  show Runs _ _ _ _ s₁ (mkF m 7 #[.val (.int p0), .val (.int p1), .val (.int p2), .val (.long q3), .second, .val (.int p4), .val (.long q5), .second, .val (.int (p0 &&& (2147483647 : Int32))), .unset, .unset, .unset, .unset, .unset, .unset, .unset, .unset, .unset, .unset, .unset, .unset, .unset, .unset, .unset, .unset, .unset, .unset, .unset] [(.int p1)])
  refine Runs.back (X0.ldcInt hx hown (mvT hZ (hw _ (List.mem_of_getElem? (i := 0) rfl))) (g := (mkF m 7 #[.val (.int p0), .val (.int p1), .val (.int p2), .val (.long q3), .second, .val (.int p4), .val (.long q5), .second, .val (.int (p0 &&& (2147483647 : Int32))), .unset, .unset, .unset, .unset, .unset, .unset, .unset, .unset, .unset, .unset, .unset, .unset, .unset, .unset, .unset, .unset, .unset, .unset, .unset] [(.int p1)])) rfl (hb hby at_7)) ?_
  show Runs _ _ _ _ s₁ (mkF m 9 #[.val (.int p0), .val (.int p1), .val (.int p2), .val (.long q3), .second, .val (.int p4), .val (.long q5), .second, .val (.int (p0 &&& (2147483647 : Int32))), .unset, .unset, .unset, .unset, .unset, .unset, .unset, .unset, .unset, .unset, .unset, .unset, .unset, .unset, .unset, .unset, .unset, .unset, .unset] [(.int (2147483647 : Int32)), (.int p1)])
  refine Runs.back (fun t_ k_ => XS.iand X0.here hx rfl (hb hby at_9) rfl k_) ?_
  show Runs _ _ _ _ s₁ (mkF m 10 #[.val (.int p0), .val (.int p1), .val (.int p2), .val (.long q3), .second, .val (.int p4), .val (.long q5), .second, .val (.int (p0 &&& (2147483647 : Int32))), .unset, .unset, .unset, .unset, .unset, .unset, .unset, .unset, .unset, .unset, .unset, .unset, .unset, .unset, .unset, .unset, .unset, .unset, .unset] [(.int (p1 &&& (2147483647 : Int32)))])
  refine Runs.back (fun t_ k_ => XS.istore X0.here hx rfl (hb hby at_10) rfl (l' := #[.val (.int p0), .val (.int p1), .val (.int p2), .val (.long q3), .second, .val (.int p4), .val (.long q5), .second, .val (.int (p0 &&& (2147483647 : Int32))), .val (.int (p1 &&& (2147483647 : Int32))), .unset, .unset, .unset, .unset, .unset, .unset, .unset, .unset, .unset, .unset, .unset, .unset, .unset, .unset, .unset, .unset, .unset, .unset]) rfl k_) ?_
  show Runs _ _ _ _ s₁ (mkF m 12 #[.val (.int p0), .val (.int p1), .val (.int p2), .val (.long q3), .second, .val (.int p4), .val (.long q5), .second, .val (.int (p0 &&& (2147483647 : Int32))), .val (.int (p1 &&& (2147483647 : Int32))), .unset, .unset, .unset, .unset, .unset, .unset, .unset, .unset, .unset, .unset, .unset, .unset, .unset, .unset, .unset, .unset, .unset, .unset] [])
  refine Runs.back (fun t_ k_ => XS.iloadN X0.here hx rfl (hb hby at_12) rfl k_) ?_
  show Runs _ _ _ _ s₁ (mkF m 13 #[.val (.int p0), .val (.int p1), .val (.int p2), .val (.long q3), .second, .val (.int p4), .val (.long q5), .second, .val (.int (p0 &&& (2147483647 : Int32))), .val (.int (p1 &&& (2147483647 : Int32))), .unset, .unset, .unset, .unset, .unset, .unset, .unset, .unset, .unset, .unset, .unset, .unset, .unset, .unset, .unset, .unset, .unset, .unset] [(.int p2)])
  refine Runs.back (X0.ldcInt hx hown (mvT hZ (hw _ (List.mem_of_getElem? (i := 0) rfl))) (g := (mkF m 13 #[.val (.int p0), .val (.int p1), .val (.int p2), .val (.long q3), .second, .val (.int p4), .val (.long q5), .second, .val (.int (p0 &&& (2147483647 : Int32))), .val (.int (p1 &&& (2147483647 : Int32))), .unset, .unset, .unset, .unset, .unset, .unset, .unset, .unset, .unset, .unset, .unset, .unset, .unset, .unset, .unset, .unset, .unset, .unset] [(.int p2)])) rfl (hb hby at_13)) ?_
  show Runs _ _ _ _ s₁ (mkF m 15 #[.val (.int p0), .val (.int p1), .val (.int p2), .val (.long q3), .second, .val (.int p4), .val (.long q5), .second, .val (.int (p0 &&& (2147483647 : Int32))), .val (.int (p1 &&& (2147483647 : Int32))), .unset, .unset, .unset, .unset, .unset, .unset, .unset, .unset, .unset, .unset, .unset, .unset, .unset, .unset, .unset, .unset, .unset, .unset] [(.int (2147483647 : Int32)), (.int p2)])
  refine Runs.back (fun t_ k_ => XS.iand X0.here hx rfl (hb hby at_15) rfl k_) ?_
  show Runs _ _ _ _ s₁ (mkF m 16 #[.val (.int p0), .val (.int p1), .val (.int p2), .val (.long q3), .second, .val (.int p4), .val (.long q5), .second, .val (.int (p0 &&& (2147483647 : Int32))), .val (.int (p1 &&& (2147483647 : Int32))), .unset, .unset, .unset, .unset, .unset, .unset, .unset, .unset, .unset, .unset, .unset, .unset, .unset, .unset, .unset, .unset, .unset, .unset] [(.int (p2 &&& (2147483647 : Int32)))])
  refine Runs.back (fun t_ k_ => XS.istore X0.here hx rfl (hb hby at_16) rfl (l' := #[.val (.int p0), .val (.int p1), .val (.int p2), .val (.long q3), .second, .val (.int p4), .val (.long q5), .second, .val (.int (p0 &&& (2147483647 : Int32))), .val (.int (p1 &&& (2147483647 : Int32))), .val (.int (p2 &&& (2147483647 : Int32))), .unset, .unset, .unset, .unset, .unset, .unset, .unset, .unset, .unset, .unset, .unset, .unset, .unset, .unset, .unset, .unset, .unset]) rfl k_) ?_
  show Runs _ _ _ _ s₁ (mkF m 18 #[.val (.int p0), .val (.int p1), .val (.int p2), .val (.long q3), .second, .val (.int p4), .val (.long q5), .second, .val (.int (p0 &&& (2147483647 : Int32))), .val (.int (p1 &&& (2147483647 : Int32))), .val (.int (p2 &&& (2147483647 : Int32))), .unset, .unset, .unset, .unset, .unset, .unset, .unset, .unset, .unset, .unset, .unset, .unset, .unset, .unset, .unset, .unset, .unset] [])
  refine Runs.back (fun t_ k_ => XS.lloadN X0.here hx rfl (hb hby at_18) rfl k_) ?_
  show Runs _ _ _ _ s₁ (mkF m 19 #[.val (.int p0), .val (.int p1), .val (.int p2), .val (.long q3), .second, .val (.int p4), .val (.long q5), .second, .val (.int (p0 &&& (2147483647 : Int32))), .val (.int (p1 &&& (2147483647 : Int32))), .val (.int (p2 &&& (2147483647 : Int32))), .unset, .unset, .unset, .unset, .unset, .unset, .unset, .unset, .unset, .unset, .unset, .unset, .unset, .unset, .unset, .unset, .unset] [(.long q3)])
  refine Runs.back (X0.ldc2Long hx hown (mvT hZ (hw _ (List.mem_of_getElem? (i := 1) rfl))) (g := (mkF m 19 #[.val (.int p0), .val (.int p1), .val (.int p2), .val (.long q3), .second, .val (.int p4), .val (.long q5), .second, .val (.int (p0 &&& (2147483647 : Int32))), .val (.int (p1 &&& (2147483647 : Int32))), .val (.int (p2 &&& (2147483647 : Int32))), .unset, .unset, .unset, .unset, .unset, .unset, .unset, .unset, .unset, .unset, .unset, .unset, .unset, .unset, .unset, .unset, .unset] [(.long q3)])) rfl (hb hby at_19)) ?_
  show Runs _ _ _ _ s₁ (mkF m 22 #[.val (.int p0), .val (.int p1), .val (.int p2), .val (.long q3), .second, .val (.int p4), .val (.long q5), .second, .val (.int (p0 &&& (2147483647 : Int32))), .val (.int (p1 &&& (2147483647 : Int32))), .val (.int (p2 &&& (2147483647 : Int32))), .unset, .unset, .unset, .unset, .unset, .unset, .unset, .unset, .unset, .unset, .unset, .unset, .unset, .unset, .unset, .unset, .unset] [(.long (4294967295 : Int64)), (.long q3)])
  refine Runs.back (fun t_ k_ => XS.land X0.here hx rfl (hb hby at_22) rfl k_) ?_
  show Runs _ _ _ _ s₁ (mkF m 23 #[.val (.int p0), .val (.int p1), .val (.int p2), .val (.long q3), .second, .val (.int p4), .val (.long q5), .second, .val (.int (p0 &&& (2147483647 : Int32))), .val (.int (p1 &&& (2147483647 : Int32))), .val (.int (p2 &&& (2147483647 : Int32))), .unset, .unset, .unset, .unset, .unset, .unset, .unset, .unset, .unset, .unset, .unset, .unset, .unset, .unset, .unset, .unset, .unset] [(.long (q3 &&& (4294967295 : Int64)))])
  refine Runs.back (fun t_ k_ => XS.lstore X0.here hx rfl (hb hby at_23) rfl (l' := #[.val (.int p0), .val (.int p1), .val (.int p2), .val (.long q3), .second, .val (.int p4), .val (.long q5), .second, .val (.int (p0 &&& (2147483647 : Int32))), .val (.int (p1 &&& (2147483647 : Int32))), .val (.int (p2 &&& (2147483647 : Int32))), .val (.long (q3 &&& (4294967295 : Int64))), .second, .unset, .unset, .unset, .unset, .unset, .unset, .unset, .unset, .unset, .unset, .unset, .unset, .unset, .unset, .unset]) rfl k_) ?_
  show Runs _ _ _ _ s₁ (mkF m 25 #[.val (.int p0), .val (.int p1), .val (.int p2), .val (.long q3), .second, .val (.int p4), .val (.long q5), .second, .val (.int (p0 &&& (2147483647 : Int32))), .val (.int (p1 &&& (2147483647 : Int32))), .val (.int (p2 &&& (2147483647 : Int32))), .val (.long (q3 &&& (4294967295 : Int64))), .second, .unset, .unset, .unset, .unset, .unset, .unset, .unset, .unset, .unset, .unset, .unset, .unset, .unset, .unset, .unset] [])
  refine Runs.back (fun t_ k_ => XS.iload X0.here hx rfl (hb hby at_25) rfl k_) ?_
  show Runs _ _ _ _ s₁ (mkF m 27 #[.val (.int p0), .val (.int p1), .val (.int p2), .val (.long q3), .second, .val (.int p4), .val (.long q5), .second, .val (.int (p0 &&& (2147483647 : Int32))), .val (.int (p1 &&& (2147483647 : Int32))), .val (.int (p2 &&& (2147483647 : Int32))), .val (.long (q3 &&& (4294967295 : Int64))), .second, .unset, .unset, .unset, .unset, .unset, .unset, .unset, .unset, .unset, .unset, .unset, .unset, .unset, .unset, .unset] [(.int p4)])
  refine Runs.back (X0.ldcInt hx hown (mvT hZ (hw _ (List.mem_of_getElem? (i := 0) rfl))) (g := (mkF m 27 #[.val (.int p0), .val (.int p1), .val (.int p2), .val (.long q3), .second, .val (.int p4), .val (.long q5), .second, .val (.int (p0 &&& (2147483647 : Int32))), .val (.int (p1 &&& (2147483647 : Int32))), .val (.int (p2 &&& (2147483647 : Int32))), .val (.long (q3 &&& (4294967295 : Int64))), .second, .unset, .unset, .unset, .unset, .unset, .unset, .unset, .unset, .unset, .unset, .unset, .unset, .unset, .unset, .unset] [(.int p4)])) rfl (hb hby at_27)) ?_
  show Runs _ _ _ _ s₁ (mkF m 29 #[.val (.int p0), .val (.int p1), .val (.int p2), .val (.long q3), .second, .val (.int p4), .val (.long q5), .second, .val (.int (p0 &&& (2147483647 : Int32))), .val (.int (p1 &&& (2147483647 : Int32))), .val (.int (p2 &&& (2147483647 : Int32))), .val (.long (q3 &&& (4294967295 : Int64))), .second, .unset, .unset, .unset, .unset, .unset, .unset, .unset, .unset, .unset, .unset, .unset, .unset, .unset, .unset, .unset] [(.int (2147483647 : Int32)), (.int p4)])
  refine Runs.back (fun t_ k_ => XS.iand X0.here hx rfl (hb hby at_29) rfl k_) ?_
  show Runs _ _ _ _ s₁ (mkF m 30 #[.val (.int p0), .val (.int p1), .val (.int p2), .val (.long q3), .second, .val (.int p4), .val (.long q5), .second, .val (.int (p0 &&& (2147483647 : Int32))), .val (.int (p1 &&& (2147483647 : Int32))), .val (.int (p2 &&& (2147483647 : Int32))), .val (.long (q3 &&& (4294967295 : Int64))), .second, .unset, .unset, .unset, .unset, .unset, .unset, .unset, .unset, .unset, .unset, .unset, .unset, .unset, .unset, .unset] [(.int (p4 &&& (2147483647 : Int32)))])
  refine Runs.back (fun t_ k_ => XS.istore X0.here hx rfl (hb hby at_30) rfl (l' := #[.val (.int p0), .val (.int p1), .val (.int p2), .val (.long q3), .second, .val (.int p4), .val (.long q5), .second, .val (.int (p0 &&& (2147483647 : Int32))), .val (.int (p1 &&& (2147483647 : Int32))), .val (.int (p2 &&& (2147483647 : Int32))), .val (.long (q3 &&& (4294967295 : Int64))), .second, .val (.int (p4 &&& (2147483647 : Int32))), .unset, .unset, .unset, .unset, .unset, .unset, .unset, .unset, .unset, .unset, .unset, .unset, .unset, .unset]) rfl k_) ?_
  show Runs _ _ _ _ s₁ (mkF m 32 #[.val (.int p0), .val (.int p1), .val (.int p2), .val (.long q3), .second, .val (.int p4), .val (.long q5), .second, .val (.int (p0 &&& (2147483647 : Int32))), .val (.int (p1 &&& (2147483647 : Int32))), .val (.int (p2 &&& (2147483647 : Int32))), .val (.long (q3 &&& (4294967295 : Int64))), .second, .val (.int (p4 &&& (2147483647 : Int32))), .unset, .unset, .unset, .unset, .unset, .unset, .unset, .unset, .unset, .unset, .unset, .unset, .unset, .unset] [])
  refine Runs.back (fun t_ k_ => XS.lload X0.here hx rfl (hb hby at_32) rfl k_) ?_
  show Runs _ _ _ _ s₁ (mkF m 34 #[.val (.int p0), .val (.int p1), .val (.int p2), .val (.long q3), .second, .val (.int p4), .val (.long q5), .second, .val (.int (p0 &&& (2147483647 : Int32))), .val (.int (p1 &&& (2147483647 : Int32))), .val (.int (p2 &&& (2147483647 : Int32))), .val (.long (q3 &&& (4294967295 : Int64))), .second, .val (.int (p4 &&& (2147483647 : Int32))), .unset, .unset, .unset, .unset, .unset, .unset, .unset, .unset, .unset, .unset, .unset, .unset, .unset, .unset] [(.long q5)])
  refine Runs.back (X0.ldc2Long hx hown (mvT hZ (hw _ (List.mem_of_getElem? (i := 1) rfl))) (g := (mkF m 34 #[.val (.int p0), .val (.int p1), .val (.int p2), .val (.long q3), .second, .val (.int p4), .val (.long q5), .second, .val (.int (p0 &&& (2147483647 : Int32))), .val (.int (p1 &&& (2147483647 : Int32))), .val (.int (p2 &&& (2147483647 : Int32))), .val (.long (q3 &&& (4294967295 : Int64))), .second, .val (.int (p4 &&& (2147483647 : Int32))), .unset, .unset, .unset, .unset, .unset, .unset, .unset, .unset, .unset, .unset, .unset, .unset, .unset, .unset] [(.long q5)])) rfl (hb hby at_34)) ?_
  show Runs _ _ _ _ s₁ (mkF m 37 #[.val (.int p0), .val (.int p1), .val (.int p2), .val (.long q3), .second, .val (.int p4), .val (.long q5), .second, .val (.int (p0 &&& (2147483647 : Int32))), .val (.int (p1 &&& (2147483647 : Int32))), .val (.int (p2 &&& (2147483647 : Int32))), .val (.long (q3 &&& (4294967295 : Int64))), .second, .val (.int (p4 &&& (2147483647 : Int32))), .unset, .unset, .unset, .unset, .unset, .unset, .unset, .unset, .unset, .unset, .unset, .unset, .unset, .unset] [(.long (4294967295 : Int64)), (.long q5)])
  refine Runs.back (fun t_ k_ => XS.land X0.here hx rfl (hb hby at_37) rfl k_) ?_
  show Runs _ _ _ _ s₁ (mkF m 38 #[.val (.int p0), .val (.int p1), .val (.int p2), .val (.long q3), .second, .val (.int p4), .val (.long q5), .second, .val (.int (p0 &&& (2147483647 : Int32))), .val (.int (p1 &&& (2147483647 : Int32))), .val (.int (p2 &&& (2147483647 : Int32))), .val (.long (q3 &&& (4294967295 : Int64))), .second, .val (.int (p4 &&& (2147483647 : Int32))), .unset, .unset, .unset, .unset, .unset, .unset, .unset, .unset, .unset, .unset, .unset, .unset, .unset, .unset] [(.long (q5 &&& (4294967295 : Int64)))])
  refine Runs.back (fun t_ k_ => XS.lstore X0.here hx rfl (hb hby at_38) rfl (l' := #[.val (.int p0), .val (.int p1), .val (.int p2), .val (.long q3), .second, .val (.int p4), .val (.long q5), .second, .val (.int (p0 &&& (2147483647 : Int32))), .val (.int (p1 &&& (2147483647 : Int32))), .val (.int (p2 &&& (2147483647 : Int32))), .val (.long (q3 &&& (4294967295 : Int64))), .second, .val (.int (p4 &&& (2147483647 : Int32))), .val (.long (q5 &&& (4294967295 : Int64))), .second, .unset, .unset, .unset, .unset, .unset, .unset, .unset, .unset, .unset, .unset, .unset, .unset]) rfl k_) ?_
  show Runs _ _ _ _ s₁ (mkF m 40 #[.val (.int p0), .val (.int p1), .val (.int p2), .val (.long q3), .second, .val (.int p4), .val (.long q5), .second, .val (.int (p0 &&& (2147483647 : Int32))), .val (.int (p1 &&& (2147483647 : Int32))), .val (.int (p2 &&& (2147483647 : Int32))), .val (.long (q3 &&& (4294967295 : Int64))), .second, .val (.int (p4 &&& (2147483647 : Int32))), .val (.long (q5 &&& (4294967295 : Int64))), .second, .unset, .unset, .unset, .unset, .unset, .unset, .unset, .unset, .unset, .unset, .unset, .unset] [])
  generalize ecE : (p0 &&& (2147483647 : Int32)) = cE
  generalize ecC : (p1 &&& (2147483647 : Int32)) = cC
  generalize ea1 : (p2 &&& (2147483647 : Int32)) = a1
  generalize eb1 : (q3 &&& (4294967295 : Int64)) = b1
  generalize ea2 : (p4 &&& (2147483647 : Int32)) = a2
  generalize eb2 : (q5 &&& (4294967295 : Int64)) = b2
  show Runs _ _ _ _ s₁ (mkF m 40 #[.val (.int p0), .val (.int p1), .val (.int p2), .val (.long q3), .second, .val (.int p4), .val (.long q5), .second, .val (.int cE), .val (.int cC), .val (.int a1), .val (.long b1), .second, .val (.int a2), .val (.long b2), .second, .unset, .unset, .unset, .unset, .unset, .unset, .unset, .unset, .unset, .unset, .unset, .unset] [])
  have B_cE : 0 ≤ cE.toInt ∧ cE.toInt < 2147483648 := by rw [← ecE, c_mask p0 _ 31 (by decide) (by decide)]; omega
  have i_cE := c_i2l cE
  have B_cC : 0 ≤ cC.toInt ∧ cC.toInt < 2147483648 := by rw [← ecC, c_mask p1 _ 31 (by decide) (by decide)]; omega
  have i_cC := c_i2l cC
  have B_a1 : 0 ≤ a1.toInt ∧ a1.toInt < 2147483648 := by rw [← ea1, c_mask p2 _ 31 (by decide) (by decide)]; omega
  have i_a1 := c_i2l a1
  have B_a2 : 0 ≤ a2.toInt ∧ a2.toInt < 2147483648 := by rw [← ea2, c_mask p4 _ 31 (by decide) (by decide)]; omega
  have i_a2 := c_i2l a2
  have B_b1 : 0 ≤ b1.toInt ∧ b1.toInt < 4294967296 := by rw [← eb1, c_maskL q3 _ 32 (by decide) (by decide)]; omega
  have B_b2 : 0 ≤ b2.toInt ∧ b2.toInt < 4294967296 := by rw [← eb2, c_maskL q5 _ 32 (by decide) (by decide)]; omega
  have z1 := z32; have z2 := o32; have z3 := z64; have z4 := o64
  have hp1 : ¬ cE < (0 : Int32) := by rw [lti]; omega
  have hp2 : ¬ cC < (0 : Int32) := by rw [lti]; omega
  obtain ⟨T1, h1, X1, e1, E1, A1, D1, -, st1⟩ := newO X0 hx hZ hown (hw _ (List.mem_of_getElem? (i := 2) rfl)) (hw _ (List.mem_of_getElem? (i := 3) rfl)) (hw _ (List.mem_of_getElem? (i := 4) rfl)) e0 (g := (mkF m 40 #[.val (.int p0), .val (.int p1), .val (.int p2), .val (.long q3), .second, .val (.int p4), .val (.long q5), .second, .val (.int cE), .val (.int cC), .val (.int a1), .val (.long b1), .second, .val (.int a2), .val (.long b2), .second, .unset, .unset, .unset, .unset, .unset, .unset, .unset, .unset, .unset, .unset, .unset, .unset] [])) rfl (hb hby at_40) (by decide) (by decide)
  obtain ⟨ob1, g1⟩ : ∃ z, z = h0.size := ⟨_, rfl⟩
  rw [← g1] at A1 D1 st1
  have g_ob1 : n0 ≤ ob1 := Nat.le_trans (Z0) (Nat.le_of_eq g1.symm)
  have Z1 : n0 ≤ h1.size := Nat.le_trans (Z0) E1.1
  have F1_28 : Fld Z h1 ob1 "stanzabits/xml/Room" "size" "Lstanzabits/xml/Room$Size;" .null := D1 (Or.inr (hw _ (List.mem_of_getElem? (i := 28) rfl))) (ty := (.object "stanzabits/xml/Room$Size")) (by decide)
  have F1_35 : Fld Z h1 ob1 "stanzabits/xml/Room" "entries" "I" (.int (0 : Int32)) := D1 (Or.inl (hw _ (List.mem_of_getElem? (i := 35) rfl))) (ty := .int) (by decide)
  have F1_42 : Fld Z h1 ob1 "stanzabits/xml/Room" "chars" "J" (.long (0 : Int64)) := D1 (Or.inl (hw _ (List.mem_of_getElem? (i := 42) rfl))) (ty := .long) (by decide)
  refine Runs.back st1 ?_
  show Runs _ _ _ _ T1 (mkF m 43 #[.val (.int p0), .val (.int p1), .val (.int p2), .val (.long q3), .second, .val (.int p4), .val (.long q5), .second, .val (.int cE), .val (.int cC), .val (.int a1), .val (.long b1), .second, .val (.int a2), .val (.long b2), .second, .unset, .unset, .unset, .unset, .unset, .unset, .unset, .unset, .unset, .unset, .unset, .unset] [(.ref ob1)])
  refine Runs.back (fun t_ k_ => XS.dup X1.here hx rfl (hb hby at_43) rfl rfl k_) ?_
  show Runs _ _ _ _ T1 (mkF m 44 #[.val (.int p0), .val (.int p1), .val (.int p2), .val (.long q3), .second, .val (.int p4), .val (.long q5), .second, .val (.int cE), .val (.int cC), .val (.int a1), .val (.long b1), .second, .val (.int a2), .val (.long b2), .second, .unset, .unset, .unset, .unset, .unset, .unset, .unset, .unset, .unset, .unset, .unset, .unset] [(.ref ob1), (.ref ob1)])
  obtain ⟨T2, h2, X2, e2, E2, A2, D2, -, st2⟩ := newO X1 hx hZ hown (hw _ (List.mem_of_getElem? (i := 5) rfl)) (hw _ (List.mem_of_getElem? (i := 6) rfl)) (hw _ (List.mem_of_getElem? (i := 7) rfl)) e1 (g := (mkF m 44 #[.val (.int p0), .val (.int p1), .val (.int p2), .val (.long q3), .second, .val (.int p4), .val (.long q5), .second, .val (.int cE), .val (.int cC), .val (.int a1), .val (.long b1), .second, .val (.int a2), .val (.long b2), .second, .unset, .unset, .unset, .unset, .unset, .unset, .unset, .unset, .unset, .unset, .unset, .unset] [(.ref ob1), (.ref ob1)])) rfl (hb hby at_44) (by decide) (by decide)
  obtain ⟨ob2, g2⟩ : ∃ z, z = h1.size := ⟨_, rfl⟩
  rw [← g2] at A2 D2 st2
  have g_ob2 : n0 ≤ ob2 := Nat.le_trans (Z1) (Nat.le_of_eq g2.symm)
  have ne_ob1_ob2 : ob1 ≠ ob2 := Nat.ne_of_lt (Nat.lt_of_lt_of_le A1.lt (Nat.le_of_eq g2.symm))
  have f2_Exa_0 : Exa Z h2 ob1 "stanzabits/xml/Room" := Exa.ext E2 A1
  have f2_Fld_1 : Fld Z h2 ob1 "stanzabits/xml/Room" "size" "Lstanzabits/xml/Room$Size;" .null := Fld.ext E2 F1_28
  have f2_Fld_2 : Fld Z h2 ob1 "stanzabits/xml/Room" "entries" "I" (.int (0 : Int32)) := Fld.ext E2 F1_35
  have f2_Fld_3 : Fld Z h2 ob1 "stanzabits/xml/Room" "chars" "J" (.long (0 : Int64)) := Fld.ext E2 F1_42
  have Z2 : n0 ≤ h2.size := Nat.le_trans (Z1) E2.1
  have F2_20 : Fld Z h2 ob2 "stanzabits/xml/Room$Size" "entries" "I" (.int (0 : Int32)) := D2 (Or.inr (hw _ (List.mem_of_getElem? (i := 20) rfl))) (ty := .int) (by decide)
  have F2_22 : Fld Z h2 ob2 "stanzabits/xml/Room$Size" "chars" "I" (.int (0 : Int32)) := D2 (Or.inr (hw _ (List.mem_of_getElem? (i := 22) rfl))) (ty := .int) (by decide)
  refine Runs.back st2 ?_
  show Runs _ _ _ _ T2 (mkF m 47 #[.val (.int p0), .val (.int p1), .val (.int p2), .val (.long q3), .second, .val (.int p4), .val (.long q5), .second, .val (.int cE), .val (.int cC), .val (.int a1), .val (.long b1), .second, .val (.int a2), .val (.long b2), .second, .unset, .unset, .unset, .unset, .unset, .unset, .unset, .unset, .unset, .unset, .unset, .unset] [(.ref ob2), (.ref ob1), (.ref ob1)])
  refine Runs.back (fun t_ k_ => XS.dup X2.here hx rfl (hb hby at_47) rfl rfl k_) ?_
  show Runs _ _ _ _ T2 (mkF m 48 #[.val (.int p0), .val (.int p1), .val (.int p2), .val (.long q3), .second, .val (.int p4), .val (.long q5), .second, .val (.int cE), .val (.int cC), .val (.int a1), .val (.long b1), .second, .val (.int a2), .val (.long b2), .second, .unset, .unset, .unset, .unset, .unset, .unset, .unset, .unset, .unset, .unset, .unset, .unset] [(.ref ob2), (.ref ob2), (.ref ob1), (.ref ob1)])
  refine Runs.back (fun t_ k_ => XS.iload X2.here hx rfl (hb hby at_48) rfl k_) ?_
  show Runs _ _ _ _ T2 (mkF m 50 #[.val (.int p0), .val (.int p1), .val (.int p2), .val (.long q3), .second, .val (.int p4), .val (.long q5), .second, .val (.int cE), .val (.int cC), .val (.int a1), .val (.long b1), .second, .val (.int a2), .val (.long b2), .second, .unset, .unset, .unset, .unset, .unset, .unset, .unset, .unset, .unset, .unset, .unset, .unset] [(.int cE), (.ref ob2), (.ref ob2), (.ref ob1), (.ref ob1)])
  refine Runs.back (fun t_ k_ => XS.iload X2.here hx rfl (hb hby at_50) rfl k_) ?_
  show Runs _ _ _ _ T2 (mkF m 52 #[.val (.int p0), .val (.int p1), .val (.int p2), .val (.long q3), .second, .val (.int p4), .val (.long q5), .second, .val (.int cE), .val (.int cC), .val (.int a1), .val (.long b1), .second, .val (.int a2), .val (.long b2), .second, .unset, .unset, .unset, .unset, .unset, .unset, .unset, .unset, .unset, .unset, .unset, .unset] [(.int cC), (.int cE), (.ref ob2), (.ref ob2), (.ref ob1), (.ref ob1)])
  obtain ⟨_, _, ⟨T3, L3, k3, n3⟩, -, X3, ⟨Lc3, hQ3, l3, y3, z3⟩, st3⟩ := X2.specialBack hx (y := (⟨"stanzabits/xml/Room$Size", "<init>", "(II)V"⟩ : MethodName)) rfl hown (mvT hZ (hw _ (List.mem_of_getElem? (i := 8) rfl))) (mvT hZ (hw _ (List.mem_of_getElem? (i := 9) rfl))) (mvT hZ (hw _ (List.mem_of_getElem? (i := 10) rfl))) (by decide) (backOf (W := 3) (rm1 l Z a0 hw [] ob2 cE cC _ _ h2 n0 (Z2) A2 F2_20 F2_22 g_ob2 hp1 hp2) hZ (hw _ (List.mem_of_getElem? (i := 10) rfl)) (hw _ (List.mem_of_getElem? (i := 7) rfl)) (by decide) (by decide)) (g := (mkF m 52 #[.val (.int p0), .val (.int p1), .val (.int p2), .val (.long q3), .second, .val (.int p4), .val (.long q5), .second, .val (.int cE), .val (.int cC), .val (.int a1), .val (.long b1), .second, .val (.int a2), .val (.long b2), .second, .unset, .unset, .unset, .unset, .unset, .unset, .unset, .unset, .unset, .unset, .unset, .unset] [(.int cC), (.int cE), (.ref ob2), (.ref ob2), (.ref ob1), (.ref ob1)])) rfl (by rw [hml]; rfl) (Steps.refl _) (a := ob2) (argsL := [(.int cE), (.int cC)]) (rest := [(.ref ob2), (.ref ob1), (.ref ob1)]) (lenOf pd0_0 rfl) rfl (by show 2 * 0 + _ ≤ _; exact Nat.le_of_eq rfl) (hb hby at_52) (fun _ _ => ⟨rfl, e2, (by decide : 2 + 0 ≤ _), (by decide : 5 + 0 ≤ _)⟩)
  dsimp only [Pt.U, Pt.locs, Pt.cells, Pt.slots] at X3 l3 y3 z3 st3 hQ3
  subst l3 y3 z3
  obtain ⟨rfl, N3q, K3, sE3, sF3, sG3⟩ := hQ3
  have N3 := Fr.app N0 N3q
  have f3_Exa_0 : Exa Z T3.heap ob1 "stanzabits/xml/Room" := f2_Exa_0.keep K3
  have f3_Fld_1 : Fld Z T3.heap ob1 "stanzabits/xml/Room" "size" "Lstanzabits/xml/Room$Size;" .null := f2_Fld_1.keep K3 (ninS ne_ob1_ob2 nin0)
  have f3_Fld_2 : Fld Z T3.heap ob1 "stanzabits/xml/Room" "entries" "I" (.int (0 : Int32)) := f2_Fld_2.keep K3 (ninS ne_ob1_ob2 nin0)
  have f3_Fld_3 : Fld Z T3.heap ob1 "stanzabits/xml/Room" "chars" "J" (.long (0 : Int64)) := f2_Fld_3.keep K3 (ninS ne_ob1_ob2 nin0)
  have f3_Exa_4 : Exa Z T3.heap ob2 "stanzabits/xml/Room$Size" := A2.keep K3
  have Z3 : n0 ≤ T3.heap.size := Nat.le_trans (Z2) K3.1
  refine Runs.trans st3 ?_
  show Runs _ _ _ _ T3 (mkF m 55 #[.val (.int p0), .val (.int p1), .val (.int p2), .val (.long q3), .second, .val (.int p4), .val (.long q5), .second, .val (.int cE), .val (.int cC), .val (.int a1), .val (.long b1), .second, .val (.int a2), .val (.long b2), .second, .unset, .unset, .unset, .unset, .unset, .unset, .unset, .unset, .unset, .unset, .unset, .unset] [(.ref ob2), (.ref ob1), (.ref ob1)])
  obtain ⟨_, _, ⟨T4, L4, k4, n4⟩, -, X4, ⟨Lc4, hQ4, l4, y4, z4⟩, st4⟩ := X3.specialBack hx (y := (⟨"stanzabits/xml/Room", "<init>", "(Lstanzabits/xml/Room$Size;)V"⟩ : MethodName)) rfl hown (mvT hZ (hw _ (List.mem_of_getElem? (i := 23) rfl))) (mvT hZ (hw _ (List.mem_of_getElem? (i := 24) rfl))) (mvT hZ (hw _ (List.mem_of_getElem? (i := 25) rfl))) (by decide) (backOf (W := 1) (rm4 l Z a0 hw [] ob1 ob2 _ _ _ T3.heap n0 (Z3) f3_Exa_0 f3_Fld_1 f3_Fld_2 f3_Fld_3 g_ob1) hZ (hw _ (List.mem_of_getElem? (i := 25) rfl)) (hw _ (List.mem_of_getElem? (i := 4) rfl)) (by decide) (by decide)) (g := (mkF m 55 #[.val (.int p0), .val (.int p1), .val (.int p2), .val (.long q3), .second, .val (.int p4), .val (.long q5), .second, .val (.int cE), .val (.int cC), .val (.int a1), .val (.long b1), .second, .val (.int a2), .val (.long b2), .second, .unset, .unset, .unset, .unset, .unset, .unset, .unset, .unset, .unset, .unset, .unset, .unset] [(.ref ob2), (.ref ob1), (.ref ob1)])) rfl (by rw [hml]; rfl) (Steps.refl _) (a := ob1) (argsL := [(.ref ob2)]) (rest := [(.ref ob1)]) (lenOf pd0_1 rfl) rfl (by show 2 * 0 + _ ≤ _; exact Nat.le_of_eq rfl) (hb hby at_55) (fun _ _ => ⟨rfl, rfl, (by decide : 2 + 0 ≤ _), (by decide : 5 + 0 ≤ _)⟩)
  dsimp only [Pt.U, Pt.locs, Pt.cells, Pt.slots] at X4 l4 y4 z4 st4 hQ4
  subst l4 y4 z4
  obtain ⟨rfl, N4q, K4, rE4, rF4, rG4, rH4⟩ := hQ4
  have N4 := Fr.app N3 N4q
  have f4_Exa_0 : Exa Z T4.heap ob1 "stanzabits/xml/Room" := f3_Exa_0.keep K4
  have f4_Exa_1 : Exa Z T4.heap ob2 "stanzabits/xml/Room$Size" := sE3.keep K4
  have f4_Fld_2 : Fld Z T4.heap ob2 "stanzabits/xml/Room$Size" "entries" "I" (.int cE) := sF3.keep K4 (ninS (Ne.symm ne_ob1_ob2) nin0)
  have f4_Fld_3 : Fld Z T4.heap ob2 "stanzabits/xml/Room$Size" "chars" "I" (.int cC) := sG3.keep K4 (ninS (Ne.symm ne_ob1_ob2) nin0)
  have Z4 : n0 ≤ T4.heap.size := Nat.le_trans (Z3) K4.1
  refine Runs.trans st4 ?_
  show Runs _ _ _ _ T4 (mkF m 58 #[.val (.int p0), .val (.int p1), .val (.int p2), .val (.long q3), .second, .val (.int p4), .val (.long q5), .second, .val (.int cE), .val (.int cC), .val (.int a1), .val (.long b1), .second, .val (.int a2), .val (.long b2), .second, .unset, .unset, .unset, .unset, .unset, .unset, .unset, .unset, .unset, .unset, .unset, .unset] [(.ref ob1)])
  refine Runs.back (fun t_ k_ => XS.astore X4.here hx rfl (hb hby at_58) rfl rfl (l' := #[.val (.int p0), .val (.int p1), .val (.int p2), .val (.long q3), .second, .val (.int p4), .val (.long q5), .second, .val (.int cE), .val (.int cC), .val (.int a1), .val (.long b1), .second, .val (.int a2), .val (.long b2), .second, .val (.ref ob1), .unset, .unset, .unset, .unset, .unset, .unset, .unset, .unset, .unset, .unset, .unset]) rfl k_) ?_
  show Runs _ _ _ _ T4 (mkF m 60 #[.val (.int p0), .val (.int p1), .val (.int p2), .val (.long q3), .second, .val (.int p4), .val (.long q5), .second, .val (.int cE), .val (.int cC), .val (.int a1), .val (.long b1), .second, .val (.int a2), .val (.long b2), .second, .val (.ref ob1), .unset, .unset, .unset, .unset, .unset, .unset, .unset, .unset, .unset, .unset, .unset] [])
  refine Runs.join (α := Int32) (P := fun whW1 => whW1 = if ¬ cE < a1 ∧ ¬ (cC.toInt64) < b1 then (1 : Int32) else (0 : Int32)) (F := fun whW1 => (mkF m 83 #[.val (.int p0), .val (.int p1), .val (.int p2), .val (.long q3), .second, .val (.int p4), .val (.long q5), .second, .val (.int cE), .val (.int cC), .val (.int a1), .val (.long b1), .second, .val (.int a2), .val (.long b2), .second, .val (.ref ob1), .val (.int whW1), .unset, .unset, .unset, .unset, .unset, .unset, .unset, .unset, .unset, .unset] [])) ?_ ?_
  · rintro whW1 ehW1
    show Runs _ _ _ _ T4 (mkF m 83 #[.val (.int p0), .val (.int p1), .val (.int p2), .val (.long q3), .second, .val (.int p4), .val (.long q5), .second, .val (.int cE), .val (.int cC), .val (.int a1), .val (.long b1), .second, .val (.int a2), .val (.long b2), .second, .val (.ref ob1), .val (.int whW1), .unset, .unset, .unset, .unset, .unset, .unset, .unset, .unset, .unset, .unset] [])
    by_cases hW1 : ¬ cE < a1 ∧ ¬ (cC.toInt64) < b1
    · obtain rfl : whW1 = (1 : Int32) := by rw [ehW1, if_pos hW1]
      show Runs _ _ _ _ T4 (mkF m 83 #[.val (.int p0), .val (.int p1), .val (.int p2), .val (.long q3), .second, .val (.int p4), .val (.long q5), .second, .val (.int cE), .val (.int cC), .val (.int a1), .val (.long b1), .second, .val (.int a2), .val (.long b2), .second, .val (.ref ob1), .val (.int (1 : Int32)), .unset, .unset, .unset, .unset, .unset, .unset, .unset, .unset, .unset, .unset] [])
      refine Runs.back (fun t_ k_ => XS.aload X4.here hx rfl (hb hby at_83) rfl rfl k_) ?_
      show Runs _ _ _ _ T4 (mkF m 85 #[.val (.int p0), .val (.int p1), .val (.int p2), .val (.long q3), .second, .val (.int p4), .val (.long q5), .second, .val (.int cE), .val (.int cC), .val (.int a1), .val (.long b1), .second, .val (.int a2), .val (.long b2), .second, .val (.ref ob1), .val (.int (1 : Int32)), .unset, .unset, .unset, .unset, .unset, .unset, .unset, .unset, .unset, .unset] [(.ref ob1)])
      refine Runs.back (fun t_ k_ => XS.iload X4.here hx rfl (hb hby at_85) rfl k_) ?_
      show Runs _ _ _ _ T4 (mkF m 87 #[.val (.int p0), .val (.int p1), .val (.int p2), .val (.long q3), .second, .val (.int p4), .val (.long q5), .second, .val (.int cE), .val (.int cC), .val (.int a1), .val (.long b1), .second, .val (.int a2), .val (.long b2), .second, .val (.ref ob1), .val (.int (1 : Int32)), .unset, .unset, .unset, .unset, .unset, .unset, .unset, .unset, .unset, .unset] [(.int a1), (.ref ob1)])
      refine Runs.back (fun t_ k_ => XS.lload X4.here hx rfl (hb hby at_87) rfl k_) ?_
      show Runs _ _ _ _ T4 (mkF m 89 #[.val (.int p0), .val (.int p1), .val (.int p2), .val (.long q3), .second, .val (.int p4), .val (.long q5), .second, .val (.int cE), .val (.int cC), .val (.int a1), .val (.long b1), .second, .val (.int a2), .val (.long b2), .second, .val (.ref ob1), .val (.int (1 : Int32)), .unset, .unset, .unset, .unset, .unset, .unset, .unset, .unset, .unset, .unset] [(.long b1), (.int a1), (.ref ob1)])
      have iW1 := hW1
      rw [lti, ltl, c_i2l] at iW1
      have P6 : (¬ cE.toInt64 < (0 : Int32).toInt64 + a1.toInt64 ∧ ¬ cC.toInt64 < (0 : Int64) + b1) := by rw [takeE, takeC (by omega) (by omega)]; omega
      have fe6 : ((0 : Int32) + a1).toInt = ((0 : Int32)).toInt + (a1).toInt := add32 (by omega) (by omega)
      have fc6 : ((0 : Int64) + b1).toInt = ((0 : Int64)).toInt + (b1).toInt := add64 (by omega) (by omega)
      obtain ⟨cq5, kq5, q5a, q5b, q5c⟩ := isOf hZ rfl rE4
      obtain ⟨_, _, ⟨T5, L5, k5, n5⟩, -, X5, ⟨Lc5, hQ5, l5, y5, z5⟩, st5⟩ := X4.virtualBack hx (y := (⟨"stanzabits/xml/Room", "take", "(IJ)Z"⟩ : MethodName)) (z := (⟨"stanzabits/xml/Room", "take", "(IJ)Z"⟩ : MethodName)) hown (mvT hZ (hw _ (List.mem_of_getElem? (i := 29) rfl))) (mvT hZ (hw _ (List.mem_of_getElem? (i := 30) rfl))) (notFace_of_selects (args := #[]) (mvT hZ (hw _ (List.mem_of_getElem? (i := 32) rfl)))) (mvT hZ (hw _ (List.mem_of_getElem? (i := 32) rfl))) (mvT hZ (hw _ (List.mem_of_getElem? (i := 31) rfl))) (by decide) (backOf (W := 0) (rm5t l Z a0 hw [] ob1 a1 b1 ob2 (0 : Int32) (0 : Int64) cE cC T4.heap n0 (Z4) rE4 rF4 rG4 rH4 f4_Exa_1 f4_Fld_2 f4_Fld_3 ne_ob1_ob2 g_ob1 P6.1 P6.2) hZ (hw _ (List.mem_of_getElem? (i := 33) rfl)) (hw _ (List.mem_of_getElem? (i := 4) rfl)) (by decide) (by decide)) q5a q5c (g := (mkF m 89 #[.val (.int p0), .val (.int p1), .val (.int p2), .val (.long q3), .second, .val (.int p4), .val (.long q5), .second, .val (.int cE), .val (.int cC), .val (.int a1), .val (.long b1), .second, .val (.int a2), .val (.long b2), .second, .val (.ref ob1), .val (.int (1 : Int32)), .unset, .unset, .unset, .unset, .unset, .unset, .unset, .unset, .unset, .unset] [(.long b1), (.int a1), (.ref ob1)])) rfl (by rw [hml]; rfl) (Steps.refl _) (argsL := [(.int a1), (.long b1)]) (rest := []) (lenOf pd0_2 rfl) rfl (by show 2 * 0 + _ ≤ _; exact Nat.le_of_eq rfl) (hb hby at_89) (fun _ _ => ⟨rfl, rfl, (by decide : 2 + 0 ≤ _), (by decide : 5 + 0 ≤ _)⟩)
      dsimp only [Pt.U, Pt.locs, Pt.cells, Pt.slots] at X5 l5 y5 z5 st5 hQ5
      subst l5 y5 z5
      obtain ⟨rfl, N5q, K5, rE5, rF5, rG5, rH5⟩ := hQ5
      have N5 := Fr.app N4 N5q
      have f5_Exa_0 : Exa Z T5.heap ob2 "stanzabits/xml/Room$Size" := f4_Exa_1.keep K5
      have f5_Fld_1 : Fld Z T5.heap ob2 "stanzabits/xml/Room$Size" "entries" "I" (.int cE) := f4_Fld_2.keep K5 (ninS (Ne.symm ne_ob1_ob2) nin0)
      have f5_Fld_2 : Fld Z T5.heap ob2 "stanzabits/xml/Room$Size" "chars" "I" (.int cC) := f4_Fld_3.keep K5 (ninS (Ne.symm ne_ob1_ob2) nin0)
      have f5_Exa_3 : Exa Z T5.heap ob1 "stanzabits/xml/Room" := rE4.keep K5
      have Z5 : n0 ≤ T5.heap.size := Nat.le_trans (Z4) K5.1
      refine Runs.trans st5 ?_
      show Runs _ _ _ _ T5 (mkF m 92 #[.val (.int p0), .val (.int p1), .val (.int p2), .val (.long q3), .second, .val (.int p4), .val (.long q5), .second, .val (.int cE), .val (.int cC), .val (.int a1), .val (.long b1), .second, .val (.int a2), .val (.long b2), .second, .val (.ref ob1), .val (.int (1 : Int32)), .unset, .unset, .unset, .unset, .unset, .unset, .unset, .unset, .unset, .unset] [(.int (1 : Int32))])
      refine Runs.back (fun t_ k_ => XS.istore X5.here hx rfl (hb hby at_92) rfl (l' := #[.val (.int p0), .val (.int p1), .val (.int p2), .val (.long q3), .second, .val (.int p4), .val (.long q5), .second, .val (.int cE), .val (.int cC), .val (.int a1), .val (.long b1), .second, .val (.int a2), .val (.long b2), .second, .val (.ref ob1), .val (.int (1 : Int32)), .val (.int (1 : Int32)), .unset, .unset, .unset, .unset, .unset, .unset, .unset, .unset, .unset]) rfl k_) ?_
      show Runs _ _ _ _ T5 (mkF m 94 #[.val (.int p0), .val (.int p1), .val (.int p2), .val (.long q3), .second, .val (.int p4), .val (.long q5), .second, .val (.int cE), .val (.int cC), .val (.int a1), .val (.long b1), .second, .val (.int a2), .val (.long b2), .second, .val (.ref ob1), .val (.int (1 : Int32)), .val (.int (1 : Int32)), .unset, .unset, .unset, .unset, .unset, .unset, .unset, .unset, .unset] [])
      refine Runs.back (fun t_ k_ => XS.lconst X5.here hx rfl (hb hby at_94) k_) ?_
      show Runs _ _ _ _ T5 (mkF m 95 #[.val (.int p0), .val (.int p1), .val (.int p2), .val (.long q3), .second, .val (.int p4), .val (.long q5), .second, .val (.int cE), .val (.int cC), .val (.int a1), .val (.long b1), .second, .val (.int a2), .val (.long b2), .second, .val (.ref ob1), .val (.int (1 : Int32)), .val (.int (1 : Int32)), .unset, .unset, .unset, .unset, .unset, .unset, .unset, .unset, .unset] [(.long (0 : Int64))])
      refine Runs.back (fun t_ k_ => XS.lstore X5.here hx rfl (hb hby at_95) rfl (l' := #[.val (.int p0), .val (.int p1), .val (.int p2), .val (.long q3), .second, .val (.int p4), .val (.long q5), .second, .val (.int cE), .val (.int cC), .val (.int a1), .val (.long b1), .second, .val (.int a2), .val (.long b2), .second, .val (.ref ob1), .val (.int (1 : Int32)), .val (.int (1 : Int32)), .val (.long (0 : Int64)), .second, .unset, .unset, .unset, .unset, .unset, .unset, .unset]) rfl k_) ?_
      show Runs _ _ _ _ T5 (mkF m 97 #[.val (.int p0), .val (.int p1), .val (.int p2), .val (.long q3), .second, .val (.int p4), .val (.long q5), .second, .val (.int cE), .val (.int cC), .val (.int a1), .val (.long b1), .second, .val (.int a2), .val (.long b2), .second, .val (.ref ob1), .val (.int (1 : Int32)), .val (.int (1 : Int32)), .val (.long (0 : Int64)), .second, .unset, .unset, .unset, .unset, .unset, .unset, .unset] [])
      refine Runs.back (fun t_ k_ => XS.lconst X5.here hx rfl (hb hby at_97) k_) ?_
      show Runs _ _ _ _ T5 (mkF m 98 #[.val (.int p0), .val (.int p1), .val (.int p2), .val (.long q3), .second, .val (.int p4), .val (.long q5), .second, .val (.int cE), .val (.int cC), .val (.int a1), .val (.long b1), .second, .val (.int a2), .val (.long b2), .second, .val (.ref ob1), .val (.int (1 : Int32)), .val (.int (1 : Int32)), .val (.long (0 : Int64)), .second, .unset, .unset, .unset, .unset, .unset, .unset, .unset] [(.long (0 : Int64))])
      refine Runs.back (fun t_ k_ => XS.lstore X5.here hx rfl (hb hby at_98) rfl (l' := #[.val (.int p0), .val (.int p1), .val (.int p2), .val (.long q3), .second, .val (.int p4), .val (.long q5), .second, .val (.int cE), .val (.int cC), .val (.int a1), .val (.long b1), .second, .val (.int a2), .val (.long b2), .second, .val (.ref ob1), .val (.int (1 : Int32)), .val (.int (1 : Int32)), .val (.long (0 : Int64)), .second, .val (.long (0 : Int64)), .second, .unset, .unset, .unset, .unset, .unset]) rfl k_) ?_
      show Runs _ _ _ _ T5 (mkF m 100 #[.val (.int p0), .val (.int p1), .val (.int p2), .val (.long q3), .second, .val (.int p4), .val (.long q5), .second, .val (.int cE), .val (.int cC), .val (.int a1), .val (.long b1), .second, .val (.int a2), .val (.long b2), .second, .val (.ref ob1), .val (.int (1 : Int32)), .val (.int (1 : Int32)), .val (.long (0 : Int64)), .second, .val (.long (0 : Int64)), .second, .unset, .unset, .unset, .unset, .unset] [])
      refine Runs.back (fun t_ k_ => XS.iload X5.here hx rfl (hb hby at_100) rfl k_) ?_
      show Runs _ _ _ _ T5 (mkF m 102 #[.val (.int p0), .val (.int p1), .val (.int p2), .val (.long q3), .second, .val (.int p4), .val (.long q5), .second, .val (.int cE), .val (.int cC), .val (.int a1), .val (.long b1), .second, .val (.int a2), .val (.long b2), .second, .val (.ref ob1), .val (.int (1 : Int32)), .val (.int (1 : Int32)), .val (.long (0 : Int64)), .second, .val (.long (0 : Int64)), .second, .unset, .unset, .unset, .unset, .unset] [(.int (1 : Int32))])
      refine Runs.back (fun t_ k_ => XS.ifNo X5.here hx rfl (hb hby at_102) rfl ((if0 _ _).trans (feq (show ¬ ((1 : Int32) = (0 : Int32)) from (by decide))).1) k_) ?_
      show Runs _ _ _ _ T5 (mkF m 105 #[.val (.int p0), .val (.int p1), .val (.int p2), .val (.long q3), .second, .val (.int p4), .val (.long q5), .second, .val (.int cE), .val (.int cC), .val (.int a1), .val (.long b1), .second, .val (.int a2), .val (.long b2), .second, .val (.ref ob1), .val (.int (1 : Int32)), .val (.int (1 : Int32)), .val (.long (0 : Int64)), .second, .val (.long (0 : Int64)), .second, .unset, .unset, .unset, .unset, .unset] [])
      refine Runs.back (fun t_ k_ => XS.iload X5.here hx rfl (hb hby at_105) rfl k_) ?_
      show Runs _ _ _ _ T5 (mkF m 107 #[.val (.int p0), .val (.int p1), .val (.int p2), .val (.long q3), .second, .val (.int p4), .val (.long q5), .second, .val (.int cE), .val (.int cC), .val (.int a1), .val (.long b1), .second, .val (.int a2), .val (.long b2), .second, .val (.ref ob1), .val (.int (1 : Int32)), .val (.int (1 : Int32)), .val (.long (0 : Int64)), .second, .val (.long (0 : Int64)), .second, .unset, .unset, .unset, .unset, .unset] [(.int a1)])
      refine Runs.back (fun t_ k_ => XS.i2l X5.here hx rfl (hb hby at_107) rfl k_) ?_
      show Runs _ _ _ _ T5 (mkF m 108 #[.val (.int p0), .val (.int p1), .val (.int p2), .val (.long q3), .second, .val (.int p4), .val (.long q5), .second, .val (.int cE), .val (.int cC), .val (.int a1), .val (.long b1), .second, .val (.int a2), .val (.long b2), .second, .val (.ref ob1), .val (.int (1 : Int32)), .val (.int (1 : Int32)), .val (.long (0 : Int64)), .second, .val (.long (0 : Int64)), .second, .unset, .unset, .unset, .unset, .unset] [(.long (a1.toInt64))])
      refine Runs.back (fun t_ k_ => XS.lstore X5.here hx rfl (hb hby at_108) rfl (l' := #[.val (.int p0), .val (.int p1), .val (.int p2), .val (.long q3), .second, .val (.int p4), .val (.long q5), .second, .val (.int cE), .val (.int cC), .val (.int a1), .val (.long b1), .second, .val (.int a2), .val (.long b2), .second, .val (.ref ob1), .val (.int (1 : Int32)), .val (.int (1 : Int32)), .val (.long (a1.toInt64)), .second, .val (.long (0 : Int64)), .second, .unset, .unset, .unset, .unset, .unset]) rfl k_) ?_
      show Runs _ _ _ _ T5 (mkF m 110 #[.val (.int p0), .val (.int p1), .val (.int p2), .val (.long q3), .second, .val (.int p4), .val (.long q5), .second, .val (.int cE), .val (.int cC), .val (.int a1), .val (.long b1), .second, .val (.int a2), .val (.long b2), .second, .val (.ref ob1), .val (.int (1 : Int32)), .val (.int (1 : Int32)), .val (.long (a1.toInt64)), .second, .val (.long (0 : Int64)), .second, .unset, .unset, .unset, .unset, .unset] [])
      refine Runs.back (fun t_ k_ => XS.lload X5.here hx rfl (hb hby at_110) rfl k_) ?_
      show Runs _ _ _ _ T5 (mkF m 112 #[.val (.int p0), .val (.int p1), .val (.int p2), .val (.long q3), .second, .val (.int p4), .val (.long q5), .second, .val (.int cE), .val (.int cC), .val (.int a1), .val (.long b1), .second, .val (.int a2), .val (.long b2), .second, .val (.ref ob1), .val (.int (1 : Int32)), .val (.int (1 : Int32)), .val (.long (a1.toInt64)), .second, .val (.long (0 : Int64)), .second, .unset, .unset, .unset, .unset, .unset] [(.long b1)])
      refine Runs.back (fun t_ k_ => XS.lstore X5.here hx rfl (hb hby at_112) rfl (l' := #[.val (.int p0), .val (.int p1), .val (.int p2), .val (.long q3), .second, .val (.int p4), .val (.long q5), .second, .val (.int cE), .val (.int cC), .val (.int a1), .val (.long b1), .second, .val (.int a2), .val (.long b2), .second, .val (.ref ob1), .val (.int (1 : Int32)), .val (.int (1 : Int32)), .val (.long (a1.toInt64)), .second, .val (.long b1), .second, .unset, .unset, .unset, .unset, .unset]) rfl k_) ?_
      show Runs _ _ _ _ T5 (mkF m 114 #[.val (.int p0), .val (.int p1), .val (.int p2), .val (.long q3), .second, .val (.int p4), .val (.long q5), .second, .val (.int cE), .val (.int cC), .val (.int a1), .val (.long b1), .second, .val (.int a2), .val (.long b2), .second, .val (.ref ob1), .val (.int (1 : Int32)), .val (.int (1 : Int32)), .val (.long (a1.toInt64)), .second, .val (.long b1), .second, .unset, .unset, .unset, .unset, .unset] [])
      refine Runs.join (α := Int32) (P := fun whW2 => whW2 = if ¬ (cE.toInt64) < ((a1.toInt64) + (a2.toInt64)) ∧ ¬ (cC.toInt64) < (b1 + b2) then (1 : Int32) else (0 : Int32)) (F := fun whW2 => (mkF m 146 #[.val (.int p0), .val (.int p1), .val (.int p2), .val (.long q3), .second, .val (.int p4), .val (.long q5), .second, .val (.int cE), .val (.int cC), .val (.int a1), .val (.long b1), .second, .val (.int a2), .val (.long b2), .second, .val (.ref ob1), .val (.int (1 : Int32)), .val (.int (1 : Int32)), .val (.long (a1.toInt64)), .second, .val (.long b1), .second, .val (.int whW2), .unset, .unset, .unset, .unset] [])) ?_ ?_
      · rintro whW2 ehW2
        show Runs _ _ _ _ T5 (mkF m 146 #[.val (.int p0), .val (.int p1), .val (.int p2), .val (.long q3), .second, .val (.int p4), .val (.long q5), .second, .val (.int cE), .val (.int cC), .val (.int a1), .val (.long b1), .second, .val (.int a2), .val (.long b2), .second, .val (.ref ob1), .val (.int (1 : Int32)), .val (.int (1 : Int32)), .val (.long (a1.toInt64)), .second, .val (.long b1), .second, .val (.int whW2), .unset, .unset, .unset, .unset] [])
        by_cases hW2 : ¬ (cE.toInt64) < ((a1.toInt64) + (a2.toInt64)) ∧ ¬ (cC.toInt64) < (b1 + b2)
        · obtain rfl : whW2 = (1 : Int32) := by rw [ehW2, if_pos hW2]
          show Runs _ _ _ _ T5 (mkF m 146 #[.val (.int p0), .val (.int p1), .val (.int p2), .val (.long q3), .second, .val (.int p4), .val (.long q5), .second, .val (.int cE), .val (.int cC), .val (.int a1), .val (.long b1), .second, .val (.int a2), .val (.long b2), .second, .val (.ref ob1), .val (.int (1 : Int32)), .val (.int (1 : Int32)), .val (.long (a1.toInt64)), .second, .val (.long b1), .second, .val (.int (1 : Int32)), .unset, .unset, .unset, .unset] [])
          refine Runs.back (fun t_ k_ => XS.aload X5.here hx rfl (hb hby at_146) rfl rfl k_) ?_
          show Runs _ _ _ _ T5 (mkF m 148 #[.val (.int p0), .val (.int p1), .val (.int p2), .val (.long q3), .second, .val (.int p4), .val (.long q5), .second, .val (.int cE), .val (.int cC), .val (.int a1), .val (.long b1), .second, .val (.int a2), .val (.long b2), .second, .val (.ref ob1), .val (.int (1 : Int32)), .val (.int (1 : Int32)), .val (.long (a1.toInt64)), .second, .val (.long b1), .second, .val (.int (1 : Int32)), .unset, .unset, .unset, .unset] [(.ref ob1)])
          refine Runs.back (fun t_ k_ => XS.iload X5.here hx rfl (hb hby at_148) rfl k_) ?_
          show Runs _ _ _ _ T5 (mkF m 150 #[.val (.int p0), .val (.int p1), .val (.int p2), .val (.long q3), .second, .val (.int p4), .val (.long q5), .second, .val (.int cE), .val (.int cC), .val (.int a1), .val (.long b1), .second, .val (.int a2), .val (.long b2), .second, .val (.ref ob1), .val (.int (1 : Int32)), .val (.int (1 : Int32)), .val (.long (a1.toInt64)), .second, .val (.long b1), .second, .val (.int (1 : Int32)), .unset, .unset, .unset, .unset] [(.int a2), (.ref ob1)])
          refine Runs.back (fun t_ k_ => XS.lload X5.here hx rfl (hb hby at_150) rfl k_) ?_
          show Runs _ _ _ _ T5 (mkF m 152 #[.val (.int p0), .val (.int p1), .val (.int p2), .val (.long q3), .second, .val (.int p4), .val (.long q5), .second, .val (.int cE), .val (.int cC), .val (.int a1), .val (.long b1), .second, .val (.int a2), .val (.long b2), .second, .val (.ref ob1), .val (.int (1 : Int32)), .val (.int (1 : Int32)), .val (.long (a1.toInt64)), .second, .val (.long b1), .second, .val (.int (1 : Int32)), .unset, .unset, .unset, .unset] [(.long b2), (.int a2), (.ref ob1)])
          have sE : ((a1.toInt64) + (a2.toInt64)).toInt = ((a1.toInt64)).toInt + (a2.toInt64).toInt := add64 (by omega) (by omega)
          have sC : (b1 + b2).toInt = (b1).toInt + b2.toInt := add64 (by omega) (by omega)
          have iW2 := hW2
          rw [ltl, ltl] at iW2
          have P8 : (¬ cE.toInt64 < ((0 : Int32) + a1).toInt64 + a2.toInt64 ∧ ¬ cC.toInt64 < ((0 : Int64) + b1) + b2) := by rw [takeE, takeC (by omega) (by omega)]; omega
          have fe8 : (((0 : Int32) + a1) + a2).toInt = (((0 : Int32) + a1)).toInt + (a2).toInt := add32 (by omega) (by omega)
          have fc8 : (((0 : Int64) + b1) + b2).toInt = (((0 : Int64) + b1)).toInt + (b2).toInt := add64 (by omega) (by omega)
          obtain ⟨cq7, kq7, q7a, q7b, q7c⟩ := isOf hZ rfl rE5
          obtain ⟨_, _, ⟨T7, L7, k7, n7⟩, -, X7, ⟨Lc7, hQ7, l7, y7, z7⟩, st7⟩ := X5.virtualBack hx (y := (⟨"stanzabits/xml/Room", "take", "(IJ)Z"⟩ : MethodName)) (z := (⟨"stanzabits/xml/Room", "take", "(IJ)Z"⟩ : MethodName)) hown (mvT hZ (hw _ (List.mem_of_getElem? (i := 29) rfl))) (mvT hZ (hw _ (List.mem_of_getElem? (i := 30) rfl))) (notFace_of_selects (args := #[]) (mvT hZ (hw _ (List.mem_of_getElem? (i := 32) rfl)))) (mvT hZ (hw _ (List.mem_of_getElem? (i := 32) rfl))) (mvT hZ (hw _ (List.mem_of_getElem? (i := 31) rfl))) (by decide) (backOf (W := 0) (rm5t l Z a0 hw [] ob1 a2 b2 ob2 ((0 : Int32) + a1) ((0 : Int64) + b1) cE cC T5.heap n0 (Z5) rE5 rF5 rG5 rH5 f5_Exa_0 f5_Fld_1 f5_Fld_2 ne_ob1_ob2 g_ob1 P8.1 P8.2) hZ (hw _ (List.mem_of_getElem? (i := 33) rfl)) (hw _ (List.mem_of_getElem? (i := 4) rfl)) (by decide) (by decide)) q7a q7c (g := (mkF m 152 #[.val (.int p0), .val (.int p1), .val (.int p2), .val (.long q3), .second, .val (.int p4), .val (.long q5), .second, .val (.int cE), .val (.int cC), .val (.int a1), .val (.long b1), .second, .val (.int a2), .val (.long b2), .second, .val (.ref ob1), .val (.int (1 : Int32)), .val (.int (1 : Int32)), .val (.long (a1.toInt64)), .second, .val (.long b1), .second, .val (.int (1 : Int32)), .unset, .unset, .unset, .unset] [(.long b2), (.int a2), (.ref ob1)])) rfl (by rw [hml]; rfl) (Steps.refl _) (argsL := [(.int a2), (.long b2)]) (rest := []) (lenOf pd0_2 rfl) rfl (by show 2 * 0 + _ ≤ _; exact Nat.le_of_eq rfl) (hb hby at_152) (fun _ _ => ⟨rfl, rfl, (by decide : 2 + 0 ≤ _), (by decide : 5 + 0 ≤ _)⟩)
          dsimp only [Pt.U, Pt.locs, Pt.cells, Pt.slots] at X7 l7 y7 z7 st7 hQ7
          subst l7 y7 z7
          obtain ⟨rfl, N7q, K7, rE7, rF7, rG7, rH7⟩ := hQ7
          have N7 := Fr.app N5 N7q
          have f7_Exa_0 : Exa Z T7.heap ob2 "stanzabits/xml/Room$Size" := f5_Exa_0.keep K7
          have f7_Fld_1 : Fld Z T7.heap ob2 "stanzabits/xml/Room$Size" "entries" "I" (.int cE) := f5_Fld_1.keep K7 (ninS (Ne.symm ne_ob1_ob2) nin0)
          have f7_Fld_2 : Fld Z T7.heap ob2 "stanzabits/xml/Room$Size" "chars" "I" (.int cC) := f5_Fld_2.keep K7 (ninS (Ne.symm ne_ob1_ob2) nin0)
          have f7_Exa_3 : Exa Z T7.heap ob1 "stanzabits/xml/Room" := rE5.keep K7
          have Z7 : n0 ≤ T7.heap.size := Nat.le_trans (Z5) K7.1
          refine Runs.trans st7 ?_
          show Runs _ _ _ _ T7 (mkF m 155 #[.val (.int p0), .val (.int p1), .val (.int p2), .val (.long q3), .second, .val (.int p4), .val (.long q5), .second, .val (.int cE), .val (.int cC), .val (.int a1), .val (.long b1), .second, .val (.int a2), .val (.long b2), .second, .val (.ref ob1), .val (.int (1 : Int32)), .val (.int (1 : Int32)), .val (.long (a1.toInt64)), .second, .val (.long b1), .second, .val (.int (1 : Int32)), .unset, .unset, .unset, .unset] [(.int (1 : Int32))])
          refine Runs.back (fun t_ k_ => XS.istore X7.here hx rfl (hb hby at_155) rfl (l' := #[.val (.int p0), .val (.int p1), .val (.int p2), .val (.long q3), .second, .val (.int p4), .val (.long q5), .second, .val (.int cE), .val (.int cC), .val (.int a1), .val (.long b1), .second, .val (.int a2), .val (.long b2), .second, .val (.ref ob1), .val (.int (1 : Int32)), .val (.int (1 : Int32)), .val (.long (a1.toInt64)), .second, .val (.long b1), .second, .val (.int (1 : Int32)), .val (.int (1 : Int32)), .unset, .unset, .unset]) rfl k_) ?_
          show Runs _ _ _ _ T7 (mkF m 157 #[.val (.int p0), .val (.int p1), .val (.int p2), .val (.long q3), .second, .val (.int p4), .val (.long q5), .second, .val (.int cE), .val (.int cC), .val (.int a1), .val (.long b1), .second, .val (.int a2), .val (.long b2), .second, .val (.ref ob1), .val (.int (1 : Int32)), .val (.int (1 : Int32)), .val (.long (a1.toInt64)), .second, .val (.long b1), .second, .val (.int (1 : Int32)), .val (.int (1 : Int32)), .unset, .unset, .unset] [])
          refine Runs.back (fun t_ k_ => XS.iload X7.here hx rfl (hb hby at_157) rfl k_) ?_
          show Runs _ _ _ _ T7 (mkF m 159 #[.val (.int p0), .val (.int p1), .val (.int p2), .val (.long q3), .second, .val (.int p4), .val (.long q5), .second, .val (.int cE), .val (.int cC), .val (.int a1), .val (.long b1), .second, .val (.int a2), .val (.long b2), .second, .val (.ref ob1), .val (.int (1 : Int32)), .val (.int (1 : Int32)), .val (.long (a1.toInt64)), .second, .val (.long b1), .second, .val (.int (1 : Int32)), .val (.int (1 : Int32)), .unset, .unset, .unset] [(.int (1 : Int32))])
          refine Runs.back (fun t_ k_ => XS.ifNo X7.here hx rfl (hb hby at_159) rfl ((if0 _ _).trans (feq (show ¬ ((1 : Int32) = (0 : Int32)) from (by decide))).1) k_) ?_
          show Runs _ _ _ _ T7 (mkF m 162 #[.val (.int p0), .val (.int p1), .val (.int p2), .val (.long q3), .second, .val (.int p4), .val (.long q5), .second, .val (.int cE), .val (.int cC), .val (.int a1), .val (.long b1), .second, .val (.int a2), .val (.long b2), .second, .val (.ref ob1), .val (.int (1 : Int32)), .val (.int (1 : Int32)), .val (.long (a1.toInt64)), .second, .val (.long b1), .second, .val (.int (1 : Int32)), .val (.int (1 : Int32)), .unset, .unset, .unset] [])
          refine Runs.back (fun t_ k_ => XS.lload X7.here hx rfl (hb hby at_162) rfl k_) ?_
          show Runs _ _ _ _ T7 (mkF m 164 #[.val (.int p0), .val (.int p1), .val (.int p2), .val (.long q3), .second, .val (.int p4), .val (.long q5), .second, .val (.int cE), .val (.int cC), .val (.int a1), .val (.long b1), .second, .val (.int a2), .val (.long b2), .second, .val (.ref ob1), .val (.int (1 : Int32)), .val (.int (1 : Int32)), .val (.long (a1.toInt64)), .second, .val (.long b1), .second, .val (.int (1 : Int32)), .val (.int (1 : Int32)), .unset, .unset, .unset] [(.long (a1.toInt64))])
          refine Runs.back (fun t_ k_ => XS.iload X7.here hx rfl (hb hby at_164) rfl k_) ?_
          show Runs _ _ _ _ T7 (mkF m 166 #[.val (.int p0), .val (.int p1), .val (.int p2), .val (.long q3), .second, .val (.int p4), .val (.long q5), .second, .val (.int cE), .val (.int cC), .val (.int a1), .val (.long b1), .second, .val (.int a2), .val (.long b2), .second, .val (.ref ob1), .val (.int (1 : Int32)), .val (.int (1 : Int32)), .val (.long (a1.toInt64)), .second, .val (.long b1), .second, .val (.int (1 : Int32)), .val (.int (1 : Int32)), .unset, .unset, .unset] [(.int a2), (.long (a1.toInt64))])
          refine Runs.back (fun t_ k_ => XS.i2l X7.here hx rfl (hb hby at_166) rfl k_) ?_
          show Runs _ _ _ _ T7 (mkF m 167 #[.val (.int p0), .val (.int p1), .val (.int p2), .val (.long q3), .second, .val (.int p4), .val (.long q5), .second, .val (.int cE), .val (.int cC), .val (.int a1), .val (.long b1), .second, .val (.int a2), .val (.long b2), .second, .val (.ref ob1), .val (.int (1 : Int32)), .val (.int (1 : Int32)), .val (.long (a1.toInt64)), .second, .val (.long b1), .second, .val (.int (1 : Int32)), .val (.int (1 : Int32)), .unset, .unset, .unset] [(.long (a2.toInt64)), (.long (a1.toInt64))])
          refine Runs.back (fun t_ k_ => XS.ladd X7.here hx rfl (hb hby at_167) rfl k_) ?_
          show Runs _ _ _ _ T7 (mkF m 168 #[.val (.int p0), .val (.int p1), .val (.int p2), .val (.long q3), .second, .val (.int p4), .val (.long q5), .second, .val (.int cE), .val (.int cC), .val (.int a1), .val (.long b1), .second, .val (.int a2), .val (.long b2), .second, .val (.ref ob1), .val (.int (1 : Int32)), .val (.int (1 : Int32)), .val (.long (a1.toInt64)), .second, .val (.long b1), .second, .val (.int (1 : Int32)), .val (.int (1 : Int32)), .unset, .unset, .unset] [(.long ((a1.toInt64) + (a2.toInt64)))])
          refine Runs.back (fun t_ k_ => XS.lstore X7.here hx rfl (hb hby at_168) rfl (l' := #[.val (.int p0), .val (.int p1), .val (.int p2), .val (.long q3), .second, .val (.int p4), .val (.long q5), .second, .val (.int cE), .val (.int cC), .val (.int a1), .val (.long b1), .second, .val (.int a2), .val (.long b2), .second, .val (.ref ob1), .val (.int (1 : Int32)), .val (.int (1 : Int32)), .val (.long ((a1.toInt64) + (a2.toInt64))), .second, .val (.long b1), .second, .val (.int (1 : Int32)), .val (.int (1 : Int32)), .unset, .unset, .unset]) rfl k_) ?_
          show Runs _ _ _ _ T7 (mkF m 170 #[.val (.int p0), .val (.int p1), .val (.int p2), .val (.long q3), .second, .val (.int p4), .val (.long q5), .second, .val (.int cE), .val (.int cC), .val (.int a1), .val (.long b1), .second, .val (.int a2), .val (.long b2), .second, .val (.ref ob1), .val (.int (1 : Int32)), .val (.int (1 : Int32)), .val (.long ((a1.toInt64) + (a2.toInt64))), .second, .val (.long b1), .second, .val (.int (1 : Int32)), .val (.int (1 : Int32)), .unset, .unset, .unset] [])
          refine Runs.back (fun t_ k_ => XS.lload X7.here hx rfl (hb hby at_170) rfl k_) ?_
          show Runs _ _ _ _ T7 (mkF m 172 #[.val (.int p0), .val (.int p1), .val (.int p2), .val (.long q3), .second, .val (.int p4), .val (.long q5), .second, .val (.int cE), .val (.int cC), .val (.int a1), .val (.long b1), .second, .val (.int a2), .val (.long b2), .second, .val (.ref ob1), .val (.int (1 : Int32)), .val (.int (1 : Int32)), .val (.long ((a1.toInt64) + (a2.toInt64))), .second, .val (.long b1), .second, .val (.int (1 : Int32)), .val (.int (1 : Int32)), .unset, .unset, .unset] [(.long b1)])
          refine Runs.back (fun t_ k_ => XS.lload X7.here hx rfl (hb hby at_172) rfl k_) ?_
          show Runs _ _ _ _ T7 (mkF m 174 #[.val (.int p0), .val (.int p1), .val (.int p2), .val (.long q3), .second, .val (.int p4), .val (.long q5), .second, .val (.int cE), .val (.int cC), .val (.int a1), .val (.long b1), .second, .val (.int a2), .val (.long b2), .second, .val (.ref ob1), .val (.int (1 : Int32)), .val (.int (1 : Int32)), .val (.long ((a1.toInt64) + (a2.toInt64))), .second, .val (.long b1), .second, .val (.int (1 : Int32)), .val (.int (1 : Int32)), .unset, .unset, .unset] [(.long b2), (.long b1)])
          refine Runs.back (fun t_ k_ => XS.ladd X7.here hx rfl (hb hby at_174) rfl k_) ?_
          show Runs _ _ _ _ T7 (mkF m 175 #[.val (.int p0), .val (.int p1), .val (.int p2), .val (.long q3), .second, .val (.int p4), .val (.long q5), .second, .val (.int cE), .val (.int cC), .val (.int a1), .val (.long b1), .second, .val (.int a2), .val (.long b2), .second, .val (.ref ob1), .val (.int (1 : Int32)), .val (.int (1 : Int32)), .val (.long ((a1.toInt64) + (a2.toInt64))), .second, .val (.long b1), .second, .val (.int (1 : Int32)), .val (.int (1 : Int32)), .unset, .unset, .unset] [(.long (b1 + b2))])
          refine Runs.back (fun t_ k_ => XS.lstore X7.here hx rfl (hb hby at_175) rfl (l' := #[.val (.int p0), .val (.int p1), .val (.int p2), .val (.long q3), .second, .val (.int p4), .val (.long q5), .second, .val (.int cE), .val (.int cC), .val (.int a1), .val (.long b1), .second, .val (.int a2), .val (.long b2), .second, .val (.ref ob1), .val (.int (1 : Int32)), .val (.int (1 : Int32)), .val (.long ((a1.toInt64) + (a2.toInt64))), .second, .val (.long (b1 + b2)), .second, .val (.int (1 : Int32)), .val (.int (1 : Int32)), .unset, .unset, .unset]) rfl k_) ?_
          show Runs _ _ _ _ T7 (mkF m 177 #[.val (.int p0), .val (.int p1), .val (.int p2), .val (.long q3), .second, .val (.int p4), .val (.long q5), .second, .val (.int cE), .val (.int cC), .val (.int a1), .val (.long b1), .second, .val (.int a2), .val (.long b2), .second, .val (.ref ob1), .val (.int (1 : Int32)), .val (.int (1 : Int32)), .val (.long ((a1.toInt64) + (a2.toInt64))), .second, .val (.long (b1 + b2)), .second, .val (.int (1 : Int32)), .val (.int (1 : Int32)), .unset, .unset, .unset] [])
          refine Runs.back (fun t_ k_ => XS.aload X7.here hx rfl (hb hby at_177) rfl rfl k_) ?_
          show Runs _ _ _ _ T7 (mkF m 179 #[.val (.int p0), .val (.int p1), .val (.int p2), .val (.long q3), .second, .val (.int p4), .val (.long q5), .second, .val (.int cE), .val (.int cC), .val (.int a1), .val (.long b1), .second, .val (.int a2), .val (.long b2), .second, .val (.ref ob1), .val (.int (1 : Int32)), .val (.int (1 : Int32)), .val (.long ((a1.toInt64) + (a2.toInt64))), .second, .val (.long (b1 + b2)), .second, .val (.int (1 : Int32)), .val (.int (1 : Int32)), .unset, .unset, .unset] [(.ref ob1)])
          refine Runs.back (fun t_ k_ => XS.iload X7.here hx rfl (hb hby at_179) rfl k_) ?_
          show Runs _ _ _ _ T7 (mkF m 181 #[.val (.int p0), .val (.int p1), .val (.int p2), .val (.long q3), .second, .val (.int p4), .val (.long q5), .second, .val (.int cE), .val (.int cC), .val (.int a1), .val (.long b1), .second, .val (.int a2), .val (.long b2), .second, .val (.ref ob1), .val (.int (1 : Int32)), .val (.int (1 : Int32)), .val (.long ((a1.toInt64) + (a2.toInt64))), .second, .val (.long (b1 + b2)), .second, .val (.int (1 : Int32)), .val (.int (1 : Int32)), .unset, .unset, .unset] [(.int cE), (.ref ob1)])
          refine Runs.back (fun t_ k_ => XS.i2l X7.here hx rfl (hb hby at_181) rfl k_) ?_
          show Runs _ _ _ _ T7 (mkF m 182 #[.val (.int p0), .val (.int p1), .val (.int p2), .val (.long q3), .second, .val (.int p4), .val (.long q5), .second, .val (.int cE), .val (.int cC), .val (.int a1), .val (.long b1), .second, .val (.int a2), .val (.long b2), .second, .val (.ref ob1), .val (.int (1 : Int32)), .val (.int (1 : Int32)), .val (.long ((a1.toInt64) + (a2.toInt64))), .second, .val (.long (b1 + b2)), .second, .val (.int (1 : Int32)), .val (.int (1 : Int32)), .unset, .unset, .unset] [(.long (cE.toInt64)), (.ref ob1)])
          refine Runs.back (fun t_ k_ => XS.lload X7.here hx rfl (hb hby at_182) rfl k_) ?_
          show Runs _ _ _ _ T7 (mkF m 184 #[.val (.int p0), .val (.int p1), .val (.int p2), .val (.long q3), .second, .val (.int p4), .val (.long q5), .second, .val (.int cE), .val (.int cC), .val (.int a1), .val (.long b1), .second, .val (.int a2), .val (.long b2), .second, .val (.ref ob1), .val (.int (1 : Int32)), .val (.int (1 : Int32)), .val (.long ((a1.toInt64) + (a2.toInt64))), .second, .val (.long (b1 + b2)), .second, .val (.int (1 : Int32)), .val (.int (1 : Int32)), .unset, .unset, .unset] [(.long ((a1.toInt64) + (a2.toInt64))), (.long (cE.toInt64)), (.ref ob1)])
          refine Runs.back (fun t_ k_ => XS.lsub X7.here hx rfl (hb hby at_184) rfl k_) ?_
          show Runs _ _ _ _ T7 (mkF m 185 #[.val (.int p0), .val (.int p1), .val (.int p2), .val (.long q3), .second, .val (.int p4), .val (.long q5), .second, .val (.int cE), .val (.int cC), .val (.int a1), .val (.long b1), .second, .val (.int a2), .val (.long b2), .second, .val (.ref ob1), .val (.int (1 : Int32)), .val (.int (1 : Int32)), .val (.long ((a1.toInt64) + (a2.toInt64))), .second, .val (.long (b1 + b2)), .second, .val (.int (1 : Int32)), .val (.int (1 : Int32)), .unset, .unset, .unset] [(.long ((cE.toInt64) - ((a1.toInt64) + (a2.toInt64)))), (.ref ob1)])
          refine Runs.back (fun t_ k_ => XS.l2i X7.here hx rfl (hb hby at_185) rfl k_) ?_
          show Runs _ _ _ _ T7 (mkF m 186 #[.val (.int p0), .val (.int p1), .val (.int p2), .val (.long q3), .second, .val (.int p4), .val (.long q5), .second, .val (.int cE), .val (.int cC), .val (.int a1), .val (.long b1), .second, .val (.int a2), .val (.long b2), .second, .val (.ref ob1), .val (.int (1 : Int32)), .val (.int (1 : Int32)), .val (.long ((a1.toInt64) + (a2.toInt64))), .second, .val (.long (b1 + b2)), .second, .val (.int (1 : Int32)), .val (.int (1 : Int32)), .unset, .unset, .unset] [(.int (((cE.toInt64) - ((a1.toInt64) + (a2.toInt64))).toInt32)), (.ref ob1)])
          refine Runs.back (fun t_ k_ => XS.iload X7.here hx rfl (hb hby at_186) rfl k_) ?_
          show Runs _ _ _ _ T7 (mkF m 188 #[.val (.int p0), .val (.int p1), .val (.int p2), .val (.long q3), .second, .val (.int p4), .val (.long q5), .second, .val (.int cE), .val (.int cC), .val (.int a1), .val (.long b1), .second, .val (.int a2), .val (.long b2), .second, .val (.ref ob1), .val (.int (1 : Int32)), .val (.int (1 : Int32)), .val (.long ((a1.toInt64) + (a2.toInt64))), .second, .val (.long (b1 + b2)), .second, .val (.int (1 : Int32)), .val (.int (1 : Int32)), .unset, .unset, .unset] [(.int cC), (.int (((cE.toInt64) - ((a1.toInt64) + (a2.toInt64))).toInt32)), (.ref ob1)])
          refine Runs.back (fun t_ k_ => XS.i2l X7.here hx rfl (hb hby at_188) rfl k_) ?_
          show Runs _ _ _ _ T7 (mkF m 189 #[.val (.int p0), .val (.int p1), .val (.int p2), .val (.long q3), .second, .val (.int p4), .val (.long q5), .second, .val (.int cE), .val (.int cC), .val (.int a1), .val (.long b1), .second, .val (.int a2), .val (.long b2), .second, .val (.ref ob1), .val (.int (1 : Int32)), .val (.int (1 : Int32)), .val (.long ((a1.toInt64) + (a2.toInt64))), .second, .val (.long (b1 + b2)), .second, .val (.int (1 : Int32)), .val (.int (1 : Int32)), .unset, .unset, .unset] [(.long (cC.toInt64)), (.int (((cE.toInt64) - ((a1.toInt64) + (a2.toInt64))).toInt32)), (.ref ob1)])
          refine Runs.back (fun t_ k_ => XS.lload X7.here hx rfl (hb hby at_189) rfl k_) ?_
          show Runs _ _ _ _ T7 (mkF m 191 #[.val (.int p0), .val (.int p1), .val (.int p2), .val (.long q3), .second, .val (.int p4), .val (.long q5), .second, .val (.int cE), .val (.int cC), .val (.int a1), .val (.long b1), .second, .val (.int a2), .val (.long b2), .second, .val (.ref ob1), .val (.int (1 : Int32)), .val (.int (1 : Int32)), .val (.long ((a1.toInt64) + (a2.toInt64))), .second, .val (.long (b1 + b2)), .second, .val (.int (1 : Int32)), .val (.int (1 : Int32)), .unset, .unset, .unset] [(.long (b1 + b2)), (.long (cC.toInt64)), (.int (((cE.toInt64) - ((a1.toInt64) + (a2.toInt64))).toInt32)), (.ref ob1)])
          refine Runs.back (fun t_ k_ => XS.lsub X7.here hx rfl (hb hby at_191) rfl k_) ?_
          show Runs _ _ _ _ T7 (mkF m 192 #[.val (.int p0), .val (.int p1), .val (.int p2), .val (.long q3), .second, .val (.int p4), .val (.long q5), .second, .val (.int cE), .val (.int cC), .val (.int a1), .val (.long b1), .second, .val (.int a2), .val (.long b2), .second, .val (.ref ob1), .val (.int (1 : Int32)), .val (.int (1 : Int32)), .val (.long ((a1.toInt64) + (a2.toInt64))), .second, .val (.long (b1 + b2)), .second, .val (.int (1 : Int32)), .val (.int (1 : Int32)), .unset, .unset, .unset] [(.long ((cC.toInt64) - (b1 + b2))), (.int (((cE.toInt64) - ((a1.toInt64) + (a2.toInt64))).toInt32)), (.ref ob1)])
          have tE : ((cE.toInt64) - ((a1.toInt64) + (a2.toInt64))).toInt = (cE.toInt64).toInt - (((a1.toInt64) + (a2.toInt64))).toInt := sub64 (by omega) (by omega)
          have tC : ((cC.toInt64) - (b1 + b2)).toInt = (cC.toInt64).toInt - ((b1 + b2)).toInt := sub64 (by omega) (by omega)
          have tI : ((cE.toInt64) - ((a1.toInt64) + (a2.toInt64))).toInt32.toInt = ((cE.toInt64) - ((a1.toInt64) + (a2.toInt64))).toInt := l2i' (by omega) (by omega)
          have P10 : (¬ cE.toInt64 < (((0 : Int32) + a1) + a2).toInt64 + (((cE.toInt64) - ((a1.toInt64) + (a2.toInt64))).toInt32).toInt64 ∧ ¬ cC.toInt64 < (((0 : Int64) + b1) + b2) + ((cC.toInt64) - (b1 + b2))) := by rw [takeE, takeC (by omega) (by omega)]; omega
          have fe10 : ((((0 : Int32) + a1) + a2) + (((cE.toInt64) - ((a1.toInt64) + (a2.toInt64))).toInt32)).toInt = ((((0 : Int32) + a1) + a2)).toInt + ((((cE.toInt64) - ((a1.toInt64) + (a2.toInt64))).toInt32)).toInt := add32 (by omega) (by omega)
          have fc10 : ((((0 : Int64) + b1) + b2) + ((cC.toInt64) - (b1 + b2))).toInt = ((((0 : Int64) + b1) + b2)).toInt + (((cC.toInt64) - (b1 + b2))).toInt := add64 (by omega) (by omega)
          obtain ⟨cq9, kq9, q9a, q9b, q9c⟩ := isOf hZ rfl rE7
          obtain ⟨_, _, ⟨T9, L9, k9, n9⟩, -, X9, ⟨Lc9, hQ9, l9, y9, z9⟩, st9⟩ := X7.virtualBack hx (y := (⟨"stanzabits/xml/Room", "take", "(IJ)Z"⟩ : MethodName)) (z := (⟨"stanzabits/xml/Room", "take", "(IJ)Z"⟩ : MethodName)) hown (mvT hZ (hw _ (List.mem_of_getElem? (i := 29) rfl))) (mvT hZ (hw _ (List.mem_of_getElem? (i := 30) rfl))) (notFace_of_selects (args := #[]) (mvT hZ (hw _ (List.mem_of_getElem? (i := 32) rfl)))) (mvT hZ (hw _ (List.mem_of_getElem? (i := 32) rfl))) (mvT hZ (hw _ (List.mem_of_getElem? (i := 31) rfl))) (by decide) (backOf (W := 0) (rm5t l Z a0 hw [] ob1 (((cE.toInt64) - ((a1.toInt64) + (a2.toInt64))).toInt32) ((cC.toInt64) - (b1 + b2)) ob2 (((0 : Int32) + a1) + a2) (((0 : Int64) + b1) + b2) cE cC T7.heap n0 (Z7) rE7 rF7 rG7 rH7 f7_Exa_0 f7_Fld_1 f7_Fld_2 ne_ob1_ob2 g_ob1 P10.1 P10.2) hZ (hw _ (List.mem_of_getElem? (i := 33) rfl)) (hw _ (List.mem_of_getElem? (i := 4) rfl)) (by decide) (by decide)) q9a q9c (g := (mkF m 192 #[.val (.int p0), .val (.int p1), .val (.int p2), .val (.long q3), .second, .val (.int p4), .val (.long q5), .second, .val (.int cE), .val (.int cC), .val (.int a1), .val (.long b1), .second, .val (.int a2), .val (.long b2), .second, .val (.ref ob1), .val (.int (1 : Int32)), .val (.int (1 : Int32)), .val (.long ((a1.toInt64) + (a2.toInt64))), .second, .val (.long (b1 + b2)), .second, .val (.int (1 : Int32)), .val (.int (1 : Int32)), .unset, .unset, .unset] [(.long ((cC.toInt64) - (b1 + b2))), (.int (((cE.toInt64) - ((a1.toInt64) + (a2.toInt64))).toInt32)), (.ref ob1)])) rfl (by rw [hml]; rfl) (Steps.refl _) (argsL := [(.int (((cE.toInt64) - ((a1.toInt64) + (a2.toInt64))).toInt32)), (.long ((cC.toInt64) - (b1 + b2)))]) (rest := []) (lenOf pd0_2 rfl) rfl (by show 2 * 0 + _ ≤ _; exact Nat.le_of_eq rfl) (hb hby at_192) (fun _ _ => ⟨rfl, rfl, (by decide : 2 + 0 ≤ _), (by decide : 5 + 0 ≤ _)⟩)
          dsimp only [Pt.U, Pt.locs, Pt.cells, Pt.slots] at X9 l9 y9 z9 st9 hQ9
          subst l9 y9 z9
          obtain ⟨rfl, N9q, K9, rE9, rF9, rG9, rH9⟩ := hQ9
          have N9 := Fr.app N7 N9q
          have f9_Exa_0 : Exa Z T9.heap ob2 "stanzabits/xml/Room$Size" := f7_Exa_0.keep K9
          have f9_Fld_1 : Fld Z T9.heap ob2 "stanzabits/xml/Room$Size" "entries" "I" (.int cE) := f7_Fld_1.keep K9 (ninS (Ne.symm ne_ob1_ob2) nin0)
          have f9_Fld_2 : Fld Z T9.heap ob2 "stanzabits/xml/Room$Size" "chars" "I" (.int cC) := f7_Fld_2.keep K9 (ninS (Ne.symm ne_ob1_ob2) nin0)
          have f9_Exa_3 : Exa Z T9.heap ob1 "stanzabits/xml/Room" := rE7.keep K9
          have Z9 : n0 ≤ T9.heap.size := Nat.le_trans (Z7) K9.1
          refine Runs.trans st9 ?_
          show Runs _ _ _ _ T9 (mkF m 195 #[.val (.int p0), .val (.int p1), .val (.int p2), .val (.long q3), .second, .val (.int p4), .val (.long q5), .second, .val (.int cE), .val (.int cC), .val (.int a1), .val (.long b1), .second, .val (.int a2), .val (.long b2), .second, .val (.ref ob1), .val (.int (1 : Int32)), .val (.int (1 : Int32)), .val (.long ((a1.toInt64) + (a2.toInt64))), .second, .val (.long (b1 + b2)), .second, .val (.int (1 : Int32)), .val (.int (1 : Int32)), .unset, .unset, .unset] [(.int (1 : Int32))])
          refine Runs.back (fun t_ k_ => XS.istore X9.here hx rfl (hb hby at_195) rfl (l' := #[.val (.int p0), .val (.int p1), .val (.int p2), .val (.long q3), .second, .val (.int p4), .val (.long q5), .second, .val (.int cE), .val (.int cC), .val (.int a1), .val (.long b1), .second, .val (.int a2), .val (.long b2), .second, .val (.ref ob1), .val (.int (1 : Int32)), .val (.int (1 : Int32)), .val (.long ((a1.toInt64) + (a2.toInt64))), .second, .val (.long (b1 + b2)), .second, .val (.int (1 : Int32)), .val (.int (1 : Int32)), .val (.int (1 : Int32)), .unset, .unset]) rfl k_) ?_
          show Runs _ _ _ _ T9 (mkF m 197 #[.val (.int p0), .val (.int p1), .val (.int p2), .val (.long q3), .second, .val (.int p4), .val (.long q5), .second, .val (.int cE), .val (.int cC), .val (.int a1), .val (.long b1), .second, .val (.int a2), .val (.long b2), .second, .val (.ref ob1), .val (.int (1 : Int32)), .val (.int (1 : Int32)), .val (.long ((a1.toInt64) + (a2.toInt64))), .second, .val (.long (b1 + b2)), .second, .val (.int (1 : Int32)), .val (.int (1 : Int32)), .val (.int (1 : Int32)), .unset, .unset] [])
          refine Runs.back (fun t_ k_ => XS.aload X9.here hx rfl (hb hby at_197) rfl rfl k_) ?_
          show Runs _ _ _ _ T9 (mkF m 199 #[.val (.int p0), .val (.int p1), .val (.int p2), .val (.long q3), .second, .val (.int p4), .val (.long q5), .second, .val (.int cE), .val (.int cC), .val (.int a1), .val (.long b1), .second, .val (.int a2), .val (.long b2), .second, .val (.ref ob1), .val (.int (1 : Int32)), .val (.int (1 : Int32)), .val (.long ((a1.toInt64) + (a2.toInt64))), .second, .val (.long (b1 + b2)), .second, .val (.int (1 : Int32)), .val (.int (1 : Int32)), .val (.int (1 : Int32)), .unset, .unset] [(.ref ob1)])
          refine Runs.back (fun t_ k_ => XS.iconst X9.here hx rfl (hb hby at_199) k_) ?_
          show Runs _ _ _ _ T9 (mkF m 200 #[.val (.int p0), .val (.int p1), .val (.int p2), .val (.long q3), .second, .val (.int p4), .val (.long q5), .second, .val (.int cE), .val (.int cC), .val (.int a1), .val (.long b1), .second, .val (.int a2), .val (.long b2), .second, .val (.ref ob1), .val (.int (1 : Int32)), .val (.int (1 : Int32)), .val (.long ((a1.toInt64) + (a2.toInt64))), .second, .val (.long (b1 + b2)), .second, .val (.int (1 : Int32)), .val (.int (1 : Int32)), .val (.int (1 : Int32)), .unset, .unset] [(.int (1 : Int32)), (.ref ob1)])
          refine Runs.back (fun t_ k_ => XS.lconst X9.here hx rfl (hb hby at_200) k_) ?_
          show Runs _ _ _ _ T9 (mkF m 201 #[.val (.int p0), .val (.int p1), .val (.int p2), .val (.long q3), .second, .val (.int p4), .val (.long q5), .second, .val (.int cE), .val (.int cC), .val (.int a1), .val (.long b1), .second, .val (.int a2), .val (.long b2), .second, .val (.ref ob1), .val (.int (1 : Int32)), .val (.int (1 : Int32)), .val (.long ((a1.toInt64) + (a2.toInt64))), .second, .val (.long (b1 + b2)), .second, .val (.int (1 : Int32)), .val (.int (1 : Int32)), .val (.int (1 : Int32)), .unset, .unset] [(.long (0 : Int64)), (.int (1 : Int32)), (.ref ob1)])
          have P12 : ¬ (¬ cE.toInt64 < ((((0 : Int32) + a1) + a2) + (((cE.toInt64) - ((a1.toInt64) + (a2.toInt64))).toInt32)).toInt64 + (1 : Int32).toInt64 ∧ ¬ cC.toInt64 < ((((0 : Int64) + b1) + b2) + ((cC.toInt64) - (b1 + b2))) + (0 : Int64)) := by rw [takeE, takeC (by omega) (by omega)]; omega
          obtain ⟨cq11, kq11, q11a, q11b, q11c⟩ := isOf hZ rfl rE9
          obtain ⟨_, _, ⟨T11, L11, k11, n11⟩, -, X11, ⟨Lc11, hQ11, l11, y11, z11⟩, st11⟩ := X9.virtualBack hx (y := (⟨"stanzabits/xml/Room", "take", "(IJ)Z"⟩ : MethodName)) (z := (⟨"stanzabits/xml/Room", "take", "(IJ)Z"⟩ : MethodName)) hown (mvT hZ (hw _ (List.mem_of_getElem? (i := 29) rfl))) (mvT hZ (hw _ (List.mem_of_getElem? (i := 30) rfl))) (notFace_of_selects (args := #[]) (mvT hZ (hw _ (List.mem_of_getElem? (i := 32) rfl)))) (mvT hZ (hw _ (List.mem_of_getElem? (i := 32) rfl))) (mvT hZ (hw _ (List.mem_of_getElem? (i := 31) rfl))) (by decide) (backOf (W := 0) (rm5f l Z a0 hw [] ob1 (1 : Int32) (0 : Int64) ob2 ((((0 : Int32) + a1) + a2) + (((cE.toInt64) - ((a1.toInt64) + (a2.toInt64))).toInt32)) ((((0 : Int64) + b1) + b2) + ((cC.toInt64) - (b1 + b2))) cE cC T9.heap n0 (Z9) rE9 rF9 rG9 rH9 f9_Exa_0 f9_Fld_1 f9_Fld_2 ne_ob1_ob2 g_ob1 P12) hZ (hw _ (List.mem_of_getElem? (i := 33) rfl)) (hw _ (List.mem_of_getElem? (i := 4) rfl)) (by decide) (by decide)) q11a q11c (g := (mkF m 201 #[.val (.int p0), .val (.int p1), .val (.int p2), .val (.long q3), .second, .val (.int p4), .val (.long q5), .second, .val (.int cE), .val (.int cC), .val (.int a1), .val (.long b1), .second, .val (.int a2), .val (.long b2), .second, .val (.ref ob1), .val (.int (1 : Int32)), .val (.int (1 : Int32)), .val (.long ((a1.toInt64) + (a2.toInt64))), .second, .val (.long (b1 + b2)), .second, .val (.int (1 : Int32)), .val (.int (1 : Int32)), .val (.int (1 : Int32)), .unset, .unset] [(.long (0 : Int64)), (.int (1 : Int32)), (.ref ob1)])) rfl (by rw [hml]; rfl) (Steps.refl _) (argsL := [(.int (1 : Int32)), (.long (0 : Int64))]) (rest := []) (lenOf pd0_2 rfl) rfl (by show 2 * 0 + _ ≤ _; exact Nat.le_of_eq rfl) (hb hby at_201) (fun _ _ => ⟨rfl, rfl, (by decide : 2 + 0 ≤ _), (by decide : 5 + 0 ≤ _)⟩)
          dsimp only [Pt.U, Pt.locs, Pt.cells, Pt.slots] at X11 l11 y11 z11 st11 hQ11
          subst l11 y11 z11
          obtain ⟨rfl, N11q, eq11⟩ := hQ11
          have N11 := Fr.app N9 N11q
          refine Runs.trans st11 ?_
          show Runs _ _ _ _ T11 (mkF m 204 #[.val (.int p0), .val (.int p1), .val (.int p2), .val (.long q3), .second, .val (.int p4), .val (.long q5), .second, .val (.int cE), .val (.int cC), .val (.int a1), .val (.long b1), .second, .val (.int a2), .val (.long b2), .second, .val (.ref ob1), .val (.int (1 : Int32)), .val (.int (1 : Int32)), .val (.long ((a1.toInt64) + (a2.toInt64))), .second, .val (.long (b1 + b2)), .second, .val (.int (1 : Int32)), .val (.int (1 : Int32)), .val (.int (1 : Int32)), .unset, .unset] [(.int (0 : Int32))])
          refine Runs.back (fun t_ k_ => XS.istore X11.here hx rfl (hb hby at_204) rfl (l' := #[.val (.int p0), .val (.int p1), .val (.int p2), .val (.long q3), .second, .val (.int p4), .val (.long q5), .second, .val (.int cE), .val (.int cC), .val (.int a1), .val (.long b1), .second, .val (.int a2), .val (.long b2), .second, .val (.ref ob1), .val (.int (1 : Int32)), .val (.int (1 : Int32)), .val (.long ((a1.toInt64) + (a2.toInt64))), .second, .val (.long (b1 + b2)), .second, .val (.int (1 : Int32)), .val (.int (1 : Int32)), .val (.int (1 : Int32)), .val (.int (0 : Int32)), .unset]) rfl k_) ?_
          show Runs _ _ _ _ T11 (mkF m 206 #[.val (.int p0), .val (.int p1), .val (.int p2), .val (.long q3), .second, .val (.int p4), .val (.long q5), .second, .val (.int cE), .val (.int cC), .val (.int a1), .val (.long b1), .second, .val (.int a2), .val (.long b2), .second, .val (.ref ob1), .val (.int (1 : Int32)), .val (.int (1 : Int32)), .val (.long ((a1.toInt64) + (a2.toInt64))), .second, .val (.long (b1 + b2)), .second, .val (.int (1 : Int32)), .val (.int (1 : Int32)), .val (.int (1 : Int32)), .val (.int (0 : Int32)), .unset] [])
          refine Runs.back (fun t_ k_ => XS.aload X11.here hx rfl (hb hby at_206) rfl rfl k_) ?_
          show Runs _ _ _ _ T11 (mkF m 208 #[.val (.int p0), .val (.int p1), .val (.int p2), .val (.long q3), .second, .val (.int p4), .val (.long q5), .second, .val (.int cE), .val (.int cC), .val (.int a1), .val (.long b1), .second, .val (.int a2), .val (.long b2), .second, .val (.ref ob1), .val (.int (1 : Int32)), .val (.int (1 : Int32)), .val (.long ((a1.toInt64) + (a2.toInt64))), .second, .val (.long (b1 + b2)), .second, .val (.int (1 : Int32)), .val (.int (1 : Int32)), .val (.int (1 : Int32)), .val (.int (0 : Int32)), .unset] [(.ref ob1)])
          refine Runs.back (fun t_ k_ => XS.iconst X11.here hx rfl (hb hby at_208) k_) ?_
          show Runs _ _ _ _ T11 (mkF m 209 #[.val (.int p0), .val (.int p1), .val (.int p2), .val (.long q3), .second, .val (.int p4), .val (.long q5), .second, .val (.int cE), .val (.int cC), .val (.int a1), .val (.long b1), .second, .val (.int a2), .val (.long b2), .second, .val (.ref ob1), .val (.int (1 : Int32)), .val (.int (1 : Int32)), .val (.long ((a1.toInt64) + (a2.toInt64))), .second, .val (.long (b1 + b2)), .second, .val (.int (1 : Int32)), .val (.int (1 : Int32)), .val (.int (1 : Int32)), .val (.int (0 : Int32)), .unset] [(.int (0 : Int32)), (.ref ob1)])
          refine Runs.back (fun t_ k_ => XS.lconst X11.here hx rfl (hb hby at_209) k_) ?_
          show Runs _ _ _ _ T11 (mkF m 210 #[.val (.int p0), .val (.int p1), .val (.int p2), .val (.long q3), .second, .val (.int p4), .val (.long q5), .second, .val (.int cE), .val (.int cC), .val (.int a1), .val (.long b1), .second, .val (.int a2), .val (.long b2), .second, .val (.ref ob1), .val (.int (1 : Int32)), .val (.int (1 : Int32)), .val (.long ((a1.toInt64) + (a2.toInt64))), .second, .val (.long (b1 + b2)), .second, .val (.int (1 : Int32)), .val (.int (1 : Int32)), .val (.int (1 : Int32)), .val (.int (0 : Int32)), .unset] [(.long (1 : Int64)), (.int (0 : Int32)), (.ref ob1)])
          have P14 : ¬ (¬ cE.toInt64 < ((((0 : Int32) + a1) + a2) + (((cE.toInt64) - ((a1.toInt64) + (a2.toInt64))).toInt32)).toInt64 + (0 : Int32).toInt64 ∧ ¬ cC.toInt64 < ((((0 : Int64) + b1) + b2) + ((cC.toInt64) - (b1 + b2))) + (1 : Int64)) := by rw [takeE, takeC (by omega) (by omega)]; omega
          obtain ⟨cq13, kq13, q13a, q13b, q13c⟩ := isOf hZ eq11 rE9
          obtain ⟨_, _, ⟨T13, L13, k13, n13⟩, -, X13, ⟨Lc13, hQ13, l13, y13, z13⟩, st13⟩ := X11.virtualBack hx (y := (⟨"stanzabits/xml/Room", "take", "(IJ)Z"⟩ : MethodName)) (z := (⟨"stanzabits/xml/Room", "take", "(IJ)Z"⟩ : MethodName)) hown (mvT hZ (hw _ (List.mem_of_getElem? (i := 29) rfl))) (mvT hZ (hw _ (List.mem_of_getElem? (i := 30) rfl))) (notFace_of_selects (args := #[]) (mvT hZ (hw _ (List.mem_of_getElem? (i := 32) rfl)))) (mvT hZ (hw _ (List.mem_of_getElem? (i := 32) rfl))) (mvT hZ (hw _ (List.mem_of_getElem? (i := 31) rfl))) (by decide) (backOf (W := 0) (rm5f l Z a0 hw [] ob1 (0 : Int32) (1 : Int64) ob2 ((((0 : Int32) + a1) + a2) + (((cE.toInt64) - ((a1.toInt64) + (a2.toInt64))).toInt32)) ((((0 : Int64) + b1) + b2) + ((cC.toInt64) - (b1 + b2))) cE cC T9.heap n0 (Z9) rE9 rF9 rG9 rH9 f9_Exa_0 f9_Fld_1 f9_Fld_2 ne_ob1_ob2 g_ob1 P14) hZ (hw _ (List.mem_of_getElem? (i := 33) rfl)) (hw _ (List.mem_of_getElem? (i := 4) rfl)) (by decide) (by decide)) q13a q13c (g := (mkF m 210 #[.val (.int p0), .val (.int p1), .val (.int p2), .val (.long q3), .second, .val (.int p4), .val (.long q5), .second, .val (.int cE), .val (.int cC), .val (.int a1), .val (.long b1), .second, .val (.int a2), .val (.long b2), .second, .val (.ref ob1), .val (.int (1 : Int32)), .val (.int (1 : Int32)), .val (.long ((a1.toInt64) + (a2.toInt64))), .second, .val (.long (b1 + b2)), .second, .val (.int (1 : Int32)), .val (.int (1 : Int32)), .val (.int (1 : Int32)), .val (.int (0 : Int32)), .unset] [(.long (1 : Int64)), (.int (0 : Int32)), (.ref ob1)])) rfl (by rw [hml]; rfl) (Steps.refl _) (argsL := [(.int (0 : Int32)), (.long (1 : Int64))]) (rest := []) (lenOf pd0_2 rfl) rfl (by show 2 * 0 + _ ≤ _; exact Nat.le_of_eq rfl) (hb hby at_210) (fun _ _ => ⟨rfl, eq11, (by decide : 2 + 0 ≤ _), (by decide : 5 + 0 ≤ _)⟩)
          dsimp only [Pt.U, Pt.locs, Pt.cells, Pt.slots] at X13 l13 y13 z13 st13 hQ13
          subst l13 y13 z13
          obtain ⟨rfl, N13q, eq13⟩ := hQ13
          have N13 := Fr.app N11 N13q
          refine Runs.trans st13 ?_
          show Runs _ _ _ _ T13 (mkF m 213 #[.val (.int p0), .val (.int p1), .val (.int p2), .val (.long q3), .second, .val (.int p4), .val (.long q5), .second, .val (.int cE), .val (.int cC), .val (.int a1), .val (.long b1), .second, .val (.int a2), .val (.long b2), .second, .val (.ref ob1), .val (.int (1 : Int32)), .val (.int (1 : Int32)), .val (.long ((a1.toInt64) + (a2.toInt64))), .second, .val (.long (b1 + b2)), .second, .val (.int (1 : Int32)), .val (.int (1 : Int32)), .val (.int (1 : Int32)), .val (.int (0 : Int32)), .unset] [(.int (0 : Int32))])
          refine Runs.back (fun t_ k_ => XS.istore X13.here hx rfl (hb hby at_213) rfl (l' := #[.val (.int p0), .val (.int p1), .val (.int p2), .val (.long q3), .second, .val (.int p4), .val (.long q5), .second, .val (.int cE), .val (.int cC), .val (.int a1), .val (.long b1), .second, .val (.int a2), .val (.long b2), .second, .val (.ref ob1), .val (.int (1 : Int32)), .val (.int (1 : Int32)), .val (.long ((a1.toInt64) + (a2.toInt64))), .second, .val (.long (b1 + b2)), .second, .val (.int (1 : Int32)), .val (.int (1 : Int32)), .val (.int (1 : Int32)), .val (.int (0 : Int32)), .val (.int (0 : Int32))]) rfl k_) ?_
          show Runs _ _ _ _ T13 (mkF m 215 #[.val (.int p0), .val (.int p1), .val (.int p2), .val (.long q3), .second, .val (.int p4), .val (.long q5), .second, .val (.int cE), .val (.int cC), .val (.int a1), .val (.long b1), .second, .val (.int a2), .val (.long b2), .second, .val (.ref ob1), .val (.int (1 : Int32)), .val (.int (1 : Int32)), .val (.long ((a1.toInt64) + (a2.toInt64))), .second, .val (.long (b1 + b2)), .second, .val (.int (1 : Int32)), .val (.int (1 : Int32)), .val (.int (1 : Int32)), .val (.int (0 : Int32)), .val (.int (0 : Int32))] [])
          refine Runs.back (fun t_ k_ => XS.iload X13.here hx rfl (hb hby at_215) rfl k_) ?_
          show Runs _ _ _ _ T13 (mkF m 217 #[.val (.int p0), .val (.int p1), .val (.int p2), .val (.long q3), .second, .val (.int p4), .val (.long q5), .second, .val (.int cE), .val (.int cC), .val (.int a1), .val (.long b1), .second, .val (.int a2), .val (.long b2), .second, .val (.ref ob1), .val (.int (1 : Int32)), .val (.int (1 : Int32)), .val (.long ((a1.toInt64) + (a2.toInt64))), .second, .val (.long (b1 + b2)), .second, .val (.int (1 : Int32)), .val (.int (1 : Int32)), .val (.int (1 : Int32)), .val (.int (0 : Int32)), .val (.int (0 : Int32))] [(.int (1 : Int32))])
          refine Runs.back (fun t_ k_ => XS.iload X13.here hx rfl (hb hby at_217) rfl k_) ?_
          show Runs _ _ _ _ T13 (mkF m 219 #[.val (.int p0), .val (.int p1), .val (.int p2), .val (.long q3), .second, .val (.int p4), .val (.long q5), .second, .val (.int cE), .val (.int cC), .val (.int a1), .val (.long b1), .second, .val (.int a2), .val (.long b2), .second, .val (.ref ob1), .val (.int (1 : Int32)), .val (.int (1 : Int32)), .val (.long ((a1.toInt64) + (a2.toInt64))), .second, .val (.long (b1 + b2)), .second, .val (.int (1 : Int32)), .val (.int (1 : Int32)), .val (.int (1 : Int32)), .val (.int (0 : Int32)), .val (.int (0 : Int32))] [(.int (1 : Int32)), (.int (1 : Int32))])
          refine Runs.back (fun t_ k_ => XS.icmpNo X13.here hx rfl (hb hby at_219) rfl (teq (show (1 : Int32) = (1 : Int32) from rfl)).2 k_) ?_
          show Runs _ _ _ _ T13 (mkF m 222 #[.val (.int p0), .val (.int p1), .val (.int p2), .val (.long q3), .second, .val (.int p4), .val (.long q5), .second, .val (.int cE), .val (.int cC), .val (.int a1), .val (.long b1), .second, .val (.int a2), .val (.long b2), .second, .val (.ref ob1), .val (.int (1 : Int32)), .val (.int (1 : Int32)), .val (.long ((a1.toInt64) + (a2.toInt64))), .second, .val (.long (b1 + b2)), .second, .val (.int (1 : Int32)), .val (.int (1 : Int32)), .val (.int (1 : Int32)), .val (.int (0 : Int32)), .val (.int (0 : Int32))] [])
          refine Runs.back (fun t_ k_ => XS.iload X13.here hx rfl (hb hby at_222) rfl k_) ?_
          show Runs _ _ _ _ T13 (mkF m 224 #[.val (.int p0), .val (.int p1), .val (.int p2), .val (.long q3), .second, .val (.int p4), .val (.long q5), .second, .val (.int cE), .val (.int cC), .val (.int a1), .val (.long b1), .second, .val (.int a2), .val (.long b2), .second, .val (.ref ob1), .val (.int (1 : Int32)), .val (.int (1 : Int32)), .val (.long ((a1.toInt64) + (a2.toInt64))), .second, .val (.long (b1 + b2)), .second, .val (.int (1 : Int32)), .val (.int (1 : Int32)), .val (.int (1 : Int32)), .val (.int (0 : Int32)), .val (.int (0 : Int32))] [(.int (1 : Int32))])
          refine Runs.back (fun t_ k_ => XS.iload X13.here hx rfl (hb hby at_224) rfl k_) ?_
          show Runs _ _ _ _ T13 (mkF m 226 #[.val (.int p0), .val (.int p1), .val (.int p2), .val (.long q3), .second, .val (.int p4), .val (.long q5), .second, .val (.int cE), .val (.int cC), .val (.int a1), .val (.long b1), .second, .val (.int a2), .val (.long b2), .second, .val (.ref ob1), .val (.int (1 : Int32)), .val (.int (1 : Int32)), .val (.long ((a1.toInt64) + (a2.toInt64))), .second, .val (.long (b1 + b2)), .second, .val (.int (1 : Int32)), .val (.int (1 : Int32)), .val (.int (1 : Int32)), .val (.int (0 : Int32)), .val (.int (0 : Int32))] [(.int (1 : Int32)), (.int (1 : Int32))])
          refine Runs.back (fun t_ k_ => XS.icmpNo X13.here hx rfl (hb hby at_226) rfl (teq (show (1 : Int32) = (1 : Int32) from rfl)).2 k_) ?_
          show Runs _ _ _ _ T13 (mkF m 229 #[.val (.int p0), .val (.int p1), .val (.int p2), .val (.long q3), .second, .val (.int p4), .val (.long q5), .second, .val (.int cE), .val (.int cC), .val (.int a1), .val (.long b1), .second, .val (.int a2), .val (.long b2), .second, .val (.ref ob1), .val (.int (1 : Int32)), .val (.int (1 : Int32)), .val (.long ((a1.toInt64) + (a2.toInt64))), .second, .val (.long (b1 + b2)), .second, .val (.int (1 : Int32)), .val (.int (1 : Int32)), .val (.int (1 : Int32)), .val (.int (0 : Int32)), .val (.int (0 : Int32))] [])
          refine Runs.back (fun t_ k_ => XS.iload X13.here hx rfl (hb hby at_229) rfl k_) ?_
          show Runs _ _ _ _ T13 (mkF m 231 #[.val (.int p0), .val (.int p1), .val (.int p2), .val (.long q3), .second, .val (.int p4), .val (.long q5), .second, .val (.int cE), .val (.int cC), .val (.int a1), .val (.long b1), .second, .val (.int a2), .val (.long b2), .second, .val (.ref ob1), .val (.int (1 : Int32)), .val (.int (1 : Int32)), .val (.long ((a1.toInt64) + (a2.toInt64))), .second, .val (.long (b1 + b2)), .second, .val (.int (1 : Int32)), .val (.int (1 : Int32)), .val (.int (1 : Int32)), .val (.int (0 : Int32)), .val (.int (0 : Int32))] [(.int (1 : Int32))])
          refine Runs.back (fun t_ k_ => XS.ifNo X13.here hx rfl (hb hby at_231) rfl ((if0 _ _).trans (feq (show ¬ ((1 : Int32) = (0 : Int32)) from (by decide))).1) k_) ?_
          show Runs _ _ _ _ T13 (mkF m 234 #[.val (.int p0), .val (.int p1), .val (.int p2), .val (.long q3), .second, .val (.int p4), .val (.long q5), .second, .val (.int cE), .val (.int cC), .val (.int a1), .val (.long b1), .second, .val (.int a2), .val (.long b2), .second, .val (.ref ob1), .val (.int (1 : Int32)), .val (.int (1 : Int32)), .val (.long ((a1.toInt64) + (a2.toInt64))), .second, .val (.long (b1 + b2)), .second, .val (.int (1 : Int32)), .val (.int (1 : Int32)), .val (.int (1 : Int32)), .val (.int (0 : Int32)), .val (.int (0 : Int32))] [])
          refine Runs.back (fun t_ k_ => XS.iload X13.here hx rfl (hb hby at_234) rfl k_) ?_
          show Runs _ _ _ _ T13 (mkF m 236 #[.val (.int p0), .val (.int p1), .val (.int p2), .val (.long q3), .second, .val (.int p4), .val (.long q5), .second, .val (.int cE), .val (.int cC), .val (.int a1), .val (.long b1), .second, .val (.int a2), .val (.long b2), .second, .val (.ref ob1), .val (.int (1 : Int32)), .val (.int (1 : Int32)), .val (.long ((a1.toInt64) + (a2.toInt64))), .second, .val (.long (b1 + b2)), .second, .val (.int (1 : Int32)), .val (.int (1 : Int32)), .val (.int (1 : Int32)), .val (.int (0 : Int32)), .val (.int (0 : Int32))] [(.int (0 : Int32))])
          refine Runs.back (fun t_ k_ => XS.ifNo X13.here hx rfl (hb hby at_236) rfl ((if0 _ _).trans (teq (show (0 : Int32) = (0 : Int32) from rfl)).2) k_) ?_
          show Runs _ _ _ _ T13 (mkF m 239 #[.val (.int p0), .val (.int p1), .val (.int p2), .val (.long q3), .second, .val (.int p4), .val (.long q5), .second, .val (.int cE), .val (.int cC), .val (.int a1), .val (.long b1), .second, .val (.int a2), .val (.long b2), .second, .val (.ref ob1), .val (.int (1 : Int32)), .val (.int (1 : Int32)), .val (.long ((a1.toInt64) + (a2.toInt64))), .second, .val (.long (b1 + b2)), .second, .val (.int (1 : Int32)), .val (.int (1 : Int32)), .val (.int (1 : Int32)), .val (.int (0 : Int32)), .val (.int (0 : Int32))] [])
          refine Runs.back (fun t_ k_ => XS.iload X13.here hx rfl (hb hby at_239) rfl k_) ?_
          show Runs _ _ _ _ T13 (mkF m 241 #[.val (.int p0), .val (.int p1), .val (.int p2), .val (.long q3), .second, .val (.int p4), .val (.long q5), .second, .val (.int cE), .val (.int cC), .val (.int a1), .val (.long b1), .second, .val (.int a2), .val (.long b2), .second, .val (.ref ob1), .val (.int (1 : Int32)), .val (.int (1 : Int32)), .val (.long ((a1.toInt64) + (a2.toInt64))), .second, .val (.long (b1 + b2)), .second, .val (.int (1 : Int32)), .val (.int (1 : Int32)), .val (.int (1 : Int32)), .val (.int (0 : Int32)), .val (.int (0 : Int32))] [(.int (0 : Int32))])
          refine Runs.back (fun t_ k_ => XS.ifNo X13.here hx rfl (hb hby at_241) rfl ((if0 _ _).trans (teq (show (0 : Int32) = (0 : Int32) from rfl)).2) k_) ?_
          show Runs _ _ _ _ T13 (mkF m 244 #[.val (.int p0), .val (.int p1), .val (.int p2), .val (.long q3), .second, .val (.int p4), .val (.long q5), .second, .val (.int cE), .val (.int cC), .val (.int a1), .val (.long b1), .second, .val (.int a2), .val (.long b2), .second, .val (.ref ob1), .val (.int (1 : Int32)), .val (.int (1 : Int32)), .val (.long ((a1.toInt64) + (a2.toInt64))), .second, .val (.long (b1 + b2)), .second, .val (.int (1 : Int32)), .val (.int (1 : Int32)), .val (.int (1 : Int32)), .val (.int (0 : Int32)), .val (.int (0 : Int32))] [])
          refine Runs.back (fun t_ k_ => XS.iconst X13.here hx rfl (hb hby at_244) k_) ?_
          show Runs _ _ _ _ T13 (mkF m 245 #[.val (.int p0), .val (.int p1), .val (.int p2), .val (.long q3), .second, .val (.int p4), .val (.long q5), .second, .val (.int cE), .val (.int cC), .val (.int a1), .val (.long b1), .second, .val (.int a2), .val (.long b2), .second, .val (.ref ob1), .val (.int (1 : Int32)), .val (.int (1 : Int32)), .val (.long ((a1.toInt64) + (a2.toInt64))), .second, .val (.long (b1 + b2)), .second, .val (.int (1 : Int32)), .val (.int (1 : Int32)), .val (.int (1 : Int32)), .val (.int (0 : Int32)), .val (.int (0 : Int32))] [(.int (1 : Int32))])
          refine Runs.back (fun t_ k_ => XS.goto X13.here hx rfl (pc0 := 245) (pc' := 249) rfl (hb hby at_245) (by decide) (by decide) k_) ?_
          show Runs _ _ _ _ T13 (mkF m 249 #[.val (.int p0), .val (.int p1), .val (.int p2), .val (.long q3), .second, .val (.int p4), .val (.long q5), .second, .val (.int cE), .val (.int cC), .val (.int a1), .val (.long b1), .second, .val (.int a2), .val (.long b2), .second, .val (.ref ob1), .val (.int (1 : Int32)), .val (.int (1 : Int32)), .val (.long ((a1.toInt64) + (a2.toInt64))), .second, .val (.long (b1 + b2)), .second, .val (.int (1 : Int32)), .val (.int (1 : Int32)), .val (.int (1 : Int32)), .val (.int (0 : Int32)), .val (.int (0 : Int32))] [(.int (1 : Int32))])
          obtain ⟨fs, hr, hrun, hended, hW, hsame⟩ := X13.leave (v := some (.int (1 : Int32))) (fun h => by rw [Bd.returns] at h; cases h)
          exact ⟨_, _, (retN X13 hx (t := .boolean) Bd.returns (by simp) (hb hby at_249) hr), hrun, hended, _, _, rfl, ⟨rfl, N13⟩, ⟨_, rfl⟩, hW, hsame.mono (by decide) (by decide)⟩
        · obtain rfl : whW2 = (0 : Int32) := by rw [ehW2, if_neg hW2]
          show Runs _ _ _ _ T5 (mkF m 146 #[.val (.int p0), .val (.int p1), .val (.int p2), .val (.long q3), .second, .val (.int p4), .val (.long q5), .second, .val (.int cE), .val (.int cC), .val (.int a1), .val (.long b1), .second, .val (.int a2), .val (.long b2), .second, .val (.ref ob1), .val (.int (1 : Int32)), .val (.int (1 : Int32)), .val (.long (a1.toInt64)), .second, .val (.long b1), .second, .val (.int (0 : Int32)), .unset, .unset, .unset, .unset] [])
          refine Runs.back (fun t_ k_ => XS.aload X5.here hx rfl (hb hby at_146) rfl rfl k_) ?_
          show Runs _ _ _ _ T5 (mkF m 148 #[.val (.int p0), .val (.int p1), .val (.int p2), .val (.long q3), .second, .val (.int p4), .val (.long q5), .second, .val (.int cE), .val (.int cC), .val (.int a1), .val (.long b1), .second, .val (.int a2), .val (.long b2), .second, .val (.ref ob1), .val (.int (1 : Int32)), .val (.int (1 : Int32)), .val (.long (a1.toInt64)), .second, .val (.long b1), .second, .val (.int (0 : Int32)), .unset, .unset, .unset, .unset] [(.ref ob1)])
          refine Runs.back (fun t_ k_ => XS.iload X5.here hx rfl (hb hby at_148) rfl k_) ?_
          show Runs _ _ _ _ T5 (mkF m 150 #[.val (.int p0), .val (.int p1), .val (.int p2), .val (.long q3), .second, .val (.int p4), .val (.long q5), .second, .val (.int cE), .val (.int cC), .val (.int a1), .val (.long b1), .second, .val (.int a2), .val (.long b2), .second, .val (.ref ob1), .val (.int (1 : Int32)), .val (.int (1 : Int32)), .val (.long (a1.toInt64)), .second, .val (.long b1), .second, .val (.int (0 : Int32)), .unset, .unset, .unset, .unset] [(.int a2), (.ref ob1)])
          refine Runs.back (fun t_ k_ => XS.lload X5.here hx rfl (hb hby at_150) rfl k_) ?_
          show Runs _ _ _ _ T5 (mkF m 152 #[.val (.int p0), .val (.int p1), .val (.int p2), .val (.long q3), .second, .val (.int p4), .val (.long q5), .second, .val (.int cE), .val (.int cC), .val (.int a1), .val (.long b1), .second, .val (.int a2), .val (.long b2), .second, .val (.ref ob1), .val (.int (1 : Int32)), .val (.int (1 : Int32)), .val (.long (a1.toInt64)), .second, .val (.long b1), .second, .val (.int (0 : Int32)), .unset, .unset, .unset, .unset] [(.long b2), (.int a2), (.ref ob1)])
          have sE : ((a1.toInt64) + (a2.toInt64)).toInt = ((a1.toInt64)).toInt + (a2.toInt64).toInt := add64 (by omega) (by omega)
          have sC : (b1 + b2).toInt = (b1).toInt + b2.toInt := add64 (by omega) (by omega)
          have iW2 := hW2
          rw [ltl, ltl] at iW2
          have P16 : ¬ (¬ cE.toInt64 < ((0 : Int32) + a1).toInt64 + a2.toInt64 ∧ ¬ cC.toInt64 < ((0 : Int64) + b1) + b2) := by rw [takeE, takeC (by omega) (by omega)]; omega
          obtain ⟨cq15, kq15, q15a, q15b, q15c⟩ := isOf hZ rfl rE5
          obtain ⟨_, _, ⟨T15, L15, k15, n15⟩, -, X15, ⟨Lc15, hQ15, l15, y15, z15⟩, st15⟩ := X5.virtualBack hx (y := (⟨"stanzabits/xml/Room", "take", "(IJ)Z"⟩ : MethodName)) (z := (⟨"stanzabits/xml/Room", "take", "(IJ)Z"⟩ : MethodName)) hown (mvT hZ (hw _ (List.mem_of_getElem? (i := 29) rfl))) (mvT hZ (hw _ (List.mem_of_getElem? (i := 30) rfl))) (notFace_of_selects (args := #[]) (mvT hZ (hw _ (List.mem_of_getElem? (i := 32) rfl)))) (mvT hZ (hw _ (List.mem_of_getElem? (i := 32) rfl))) (mvT hZ (hw _ (List.mem_of_getElem? (i := 31) rfl))) (by decide) (backOf (W := 0) (rm5f l Z a0 hw [] ob1 a2 b2 ob2 ((0 : Int32) + a1) ((0 : Int64) + b1) cE cC T5.heap n0 (Z5) rE5 rF5 rG5 rH5 f5_Exa_0 f5_Fld_1 f5_Fld_2 ne_ob1_ob2 g_ob1 P16) hZ (hw _ (List.mem_of_getElem? (i := 33) rfl)) (hw _ (List.mem_of_getElem? (i := 4) rfl)) (by decide) (by decide)) q15a q15c (g := (mkF m 152 #[.val (.int p0), .val (.int p1), .val (.int p2), .val (.long q3), .second, .val (.int p4), .val (.long q5), .second, .val (.int cE), .val (.int cC), .val (.int a1), .val (.long b1), .second, .val (.int a2), .val (.long b2), .second, .val (.ref ob1), .val (.int (1 : Int32)), .val (.int (1 : Int32)), .val (.long (a1.toInt64)), .second, .val (.long b1), .second, .val (.int (0 : Int32)), .unset, .unset, .unset, .unset] [(.long b2), (.int a2), (.ref ob1)])) rfl (by rw [hml]; rfl) (Steps.refl _) (argsL := [(.int a2), (.long b2)]) (rest := []) (lenOf pd0_2 rfl) rfl (by show 2 * 0 + _ ≤ _; exact Nat.le_of_eq rfl) (hb hby at_152) (fun _ _ => ⟨rfl, rfl, (by decide : 2 + 0 ≤ _), (by decide : 5 + 0 ≤ _)⟩)
          dsimp only [Pt.U, Pt.locs, Pt.cells, Pt.slots] at X15 l15 y15 z15 st15 hQ15
          subst l15 y15 z15
          obtain ⟨rfl, N15q, eq15⟩ := hQ15
          have N15 := Fr.app N5 N15q
          refine Runs.trans st15 ?_
          show Runs _ _ _ _ T15 (mkF m 155 #[.val (.int p0), .val (.int p1), .val (.int p2), .val (.long q3), .second, .val (.int p4), .val (.long q5), .second, .val (.int cE), .val (.int cC), .val (.int a1), .val (.long b1), .second, .val (.int a2), .val (.long b2), .second, .val (.ref ob1), .val (.int (1 : Int32)), .val (.int (1 : Int32)), .val (.long (a1.toInt64)), .second, .val (.long b1), .second, .val (.int (0 : Int32)), .unset, .unset, .unset, .unset] [(.int (0 : Int32))])
          refine Runs.back (fun t_ k_ => XS.istore X15.here hx rfl (hb hby at_155) rfl (l' := #[.val (.int p0), .val (.int p1), .val (.int p2), .val (.long q3), .second, .val (.int p4), .val (.long q5), .second, .val (.int cE), .val (.int cC), .val (.int a1), .val (.long b1), .second, .val (.int a2), .val (.long b2), .second, .val (.ref ob1), .val (.int (1 : Int32)), .val (.int (1 : Int32)), .val (.long (a1.toInt64)), .second, .val (.long b1), .second, .val (.int (0 : Int32)), .val (.int (0 : Int32)), .unset, .unset, .unset]) rfl k_) ?_
          show Runs _ _ _ _ T15 (mkF m 157 #[.val (.int p0), .val (.int p1), .val (.int p2), .val (.long q3), .second, .val (.int p4), .val (.long q5), .second, .val (.int cE), .val (.int cC), .val (.int a1), .val (.long b1), .second, .val (.int a2), .val (.long b2), .second, .val (.ref ob1), .val (.int (1 : Int32)), .val (.int (1 : Int32)), .val (.long (a1.toInt64)), .second, .val (.long b1), .second, .val (.int (0 : Int32)), .val (.int (0 : Int32)), .unset, .unset, .unset] [])
          refine Runs.back (fun t_ k_ => XS.iload X15.here hx rfl (hb hby at_157) rfl k_) ?_
          show Runs _ _ _ _ T15 (mkF m 159 #[.val (.int p0), .val (.int p1), .val (.int p2), .val (.long q3), .second, .val (.int p4), .val (.long q5), .second, .val (.int cE), .val (.int cC), .val (.int a1), .val (.long b1), .second, .val (.int a2), .val (.long b2), .second, .val (.ref ob1), .val (.int (1 : Int32)), .val (.int (1 : Int32)), .val (.long (a1.toInt64)), .second, .val (.long b1), .second, .val (.int (0 : Int32)), .val (.int (0 : Int32)), .unset, .unset, .unset] [(.int (0 : Int32))])
          refine Runs.back (fun t_ k_ => XS.ifYes X15.here hx rfl (pc0 := 159) (pc' := 177) rfl (hb hby at_159) rfl ((if0 _ _).trans (teq (show (0 : Int32) = (0 : Int32) from rfl)).1) (by decide) (by decide) k_) ?_
          show Runs _ _ _ _ T15 (mkF m 177 #[.val (.int p0), .val (.int p1), .val (.int p2), .val (.long q3), .second, .val (.int p4), .val (.long q5), .second, .val (.int cE), .val (.int cC), .val (.int a1), .val (.long b1), .second, .val (.int a2), .val (.long b2), .second, .val (.ref ob1), .val (.int (1 : Int32)), .val (.int (1 : Int32)), .val (.long (a1.toInt64)), .second, .val (.long b1), .second, .val (.int (0 : Int32)), .val (.int (0 : Int32)), .unset, .unset, .unset] [])
          refine Runs.back (fun t_ k_ => XS.aload X15.here hx rfl (hb hby at_177) rfl rfl k_) ?_
          show Runs _ _ _ _ T15 (mkF m 179 #[.val (.int p0), .val (.int p1), .val (.int p2), .val (.long q3), .second, .val (.int p4), .val (.long q5), .second, .val (.int cE), .val (.int cC), .val (.int a1), .val (.long b1), .second, .val (.int a2), .val (.long b2), .second, .val (.ref ob1), .val (.int (1 : Int32)), .val (.int (1 : Int32)), .val (.long (a1.toInt64)), .second, .val (.long b1), .second, .val (.int (0 : Int32)), .val (.int (0 : Int32)), .unset, .unset, .unset] [(.ref ob1)])
          refine Runs.back (fun t_ k_ => XS.iload X15.here hx rfl (hb hby at_179) rfl k_) ?_
          show Runs _ _ _ _ T15 (mkF m 181 #[.val (.int p0), .val (.int p1), .val (.int p2), .val (.long q3), .second, .val (.int p4), .val (.long q5), .second, .val (.int cE), .val (.int cC), .val (.int a1), .val (.long b1), .second, .val (.int a2), .val (.long b2), .second, .val (.ref ob1), .val (.int (1 : Int32)), .val (.int (1 : Int32)), .val (.long (a1.toInt64)), .second, .val (.long b1), .second, .val (.int (0 : Int32)), .val (.int (0 : Int32)), .unset, .unset, .unset] [(.int cE), (.ref ob1)])
          refine Runs.back (fun t_ k_ => XS.i2l X15.here hx rfl (hb hby at_181) rfl k_) ?_
          show Runs _ _ _ _ T15 (mkF m 182 #[.val (.int p0), .val (.int p1), .val (.int p2), .val (.long q3), .second, .val (.int p4), .val (.long q5), .second, .val (.int cE), .val (.int cC), .val (.int a1), .val (.long b1), .second, .val (.int a2), .val (.long b2), .second, .val (.ref ob1), .val (.int (1 : Int32)), .val (.int (1 : Int32)), .val (.long (a1.toInt64)), .second, .val (.long b1), .second, .val (.int (0 : Int32)), .val (.int (0 : Int32)), .unset, .unset, .unset] [(.long (cE.toInt64)), (.ref ob1)])
          refine Runs.back (fun t_ k_ => XS.lload X15.here hx rfl (hb hby at_182) rfl k_) ?_
          show Runs _ _ _ _ T15 (mkF m 184 #[.val (.int p0), .val (.int p1), .val (.int p2), .val (.long q3), .second, .val (.int p4), .val (.long q5), .second, .val (.int cE), .val (.int cC), .val (.int a1), .val (.long b1), .second, .val (.int a2), .val (.long b2), .second, .val (.ref ob1), .val (.int (1 : Int32)), .val (.int (1 : Int32)), .val (.long (a1.toInt64)), .second, .val (.long b1), .second, .val (.int (0 : Int32)), .val (.int (0 : Int32)), .unset, .unset, .unset] [(.long (a1.toInt64)), (.long (cE.toInt64)), (.ref ob1)])
          refine Runs.back (fun t_ k_ => XS.lsub X15.here hx rfl (hb hby at_184) rfl k_) ?_
          show Runs _ _ _ _ T15 (mkF m 185 #[.val (.int p0), .val (.int p1), .val (.int p2), .val (.long q3), .second, .val (.int p4), .val (.long q5), .second, .val (.int cE), .val (.int cC), .val (.int a1), .val (.long b1), .second, .val (.int a2), .val (.long b2), .second, .val (.ref ob1), .val (.int (1 : Int32)), .val (.int (1 : Int32)), .val (.long (a1.toInt64)), .second, .val (.long b1), .second, .val (.int (0 : Int32)), .val (.int (0 : Int32)), .unset, .unset, .unset] [(.long ((cE.toInt64) - (a1.toInt64))), (.ref ob1)])
          refine Runs.back (fun t_ k_ => XS.l2i X15.here hx rfl (hb hby at_185) rfl k_) ?_
          show Runs _ _ _ _ T15 (mkF m 186 #[.val (.int p0), .val (.int p1), .val (.int p2), .val (.long q3), .second, .val (.int p4), .val (.long q5), .second, .val (.int cE), .val (.int cC), .val (.int a1), .val (.long b1), .second, .val (.int a2), .val (.long b2), .second, .val (.ref ob1), .val (.int (1 : Int32)), .val (.int (1 : Int32)), .val (.long (a1.toInt64)), .second, .val (.long b1), .second, .val (.int (0 : Int32)), .val (.int (0 : Int32)), .unset, .unset, .unset] [(.int (((cE.toInt64) - (a1.toInt64)).toInt32)), (.ref ob1)])
          refine Runs.back (fun t_ k_ => XS.iload X15.here hx rfl (hb hby at_186) rfl k_) ?_
          show Runs _ _ _ _ T15 (mkF m 188 #[.val (.int p0), .val (.int p1), .val (.int p2), .val (.long q3), .second, .val (.int p4), .val (.long q5), .second, .val (.int cE), .val (.int cC), .val (.int a1), .val (.long b1), .second, .val (.int a2), .val (.long b2), .second, .val (.ref ob1), .val (.int (1 : Int32)), .val (.int (1 : Int32)), .val (.long (a1.toInt64)), .second, .val (.long b1), .second, .val (.int (0 : Int32)), .val (.int (0 : Int32)), .unset, .unset, .unset] [(.int cC), (.int (((cE.toInt64) - (a1.toInt64)).toInt32)), (.ref ob1)])
          refine Runs.back (fun t_ k_ => XS.i2l X15.here hx rfl (hb hby at_188) rfl k_) ?_
          show Runs _ _ _ _ T15 (mkF m 189 #[.val (.int p0), .val (.int p1), .val (.int p2), .val (.long q3), .second, .val (.int p4), .val (.long q5), .second, .val (.int cE), .val (.int cC), .val (.int a1), .val (.long b1), .second, .val (.int a2), .val (.long b2), .second, .val (.ref ob1), .val (.int (1 : Int32)), .val (.int (1 : Int32)), .val (.long (a1.toInt64)), .second, .val (.long b1), .second, .val (.int (0 : Int32)), .val (.int (0 : Int32)), .unset, .unset, .unset] [(.long (cC.toInt64)), (.int (((cE.toInt64) - (a1.toInt64)).toInt32)), (.ref ob1)])
          refine Runs.back (fun t_ k_ => XS.lload X15.here hx rfl (hb hby at_189) rfl k_) ?_
          show Runs _ _ _ _ T15 (mkF m 191 #[.val (.int p0), .val (.int p1), .val (.int p2), .val (.long q3), .second, .val (.int p4), .val (.long q5), .second, .val (.int cE), .val (.int cC), .val (.int a1), .val (.long b1), .second, .val (.int a2), .val (.long b2), .second, .val (.ref ob1), .val (.int (1 : Int32)), .val (.int (1 : Int32)), .val (.long (a1.toInt64)), .second, .val (.long b1), .second, .val (.int (0 : Int32)), .val (.int (0 : Int32)), .unset, .unset, .unset] [(.long b1), (.long (cC.toInt64)), (.int (((cE.toInt64) - (a1.toInt64)).toInt32)), (.ref ob1)])
          refine Runs.back (fun t_ k_ => XS.lsub X15.here hx rfl (hb hby at_191) rfl k_) ?_
          show Runs _ _ _ _ T15 (mkF m 192 #[.val (.int p0), .val (.int p1), .val (.int p2), .val (.long q3), .second, .val (.int p4), .val (.long q5), .second, .val (.int cE), .val (.int cC), .val (.int a1), .val (.long b1), .second, .val (.int a2), .val (.long b2), .second, .val (.ref ob1), .val (.int (1 : Int32)), .val (.int (1 : Int32)), .val (.long (a1.toInt64)), .second, .val (.long b1), .second, .val (.int (0 : Int32)), .val (.int (0 : Int32)), .unset, .unset, .unset] [(.long ((cC.toInt64) - b1)), (.int (((cE.toInt64) - (a1.toInt64)).toInt32)), (.ref ob1)])
          have tE : ((cE.toInt64) - (a1.toInt64)).toInt = (cE.toInt64).toInt - ((a1.toInt64)).toInt := sub64 (by omega) (by omega)
          have tC : ((cC.toInt64) - b1).toInt = (cC.toInt64).toInt - (b1).toInt := sub64 (by omega) (by omega)
          have tI : ((cE.toInt64) - (a1.toInt64)).toInt32.toInt = ((cE.toInt64) - (a1.toInt64)).toInt := l2i' (by omega) (by omega)
          have P18 : (¬ cE.toInt64 < ((0 : Int32) + a1).toInt64 + (((cE.toInt64) - (a1.toInt64)).toInt32).toInt64 ∧ ¬ cC.toInt64 < ((0 : Int64) + b1) + ((cC.toInt64) - b1)) := by rw [takeE, takeC (by omega) (by omega)]; omega
          have fe18 : (((0 : Int32) + a1) + (((cE.toInt64) - (a1.toInt64)).toInt32)).toInt = (((0 : Int32) + a1)).toInt + ((((cE.toInt64) - (a1.toInt64)).toInt32)).toInt := add32 (by omega) (by omega)
          have fc18 : (((0 : Int64) + b1) + ((cC.toInt64) - b1)).toInt = (((0 : Int64) + b1)).toInt + (((cC.toInt64) - b1)).toInt := add64 (by omega) (by omega)
          obtain ⟨cq17, kq17, q17a, q17b, q17c⟩ := isOf hZ eq15 rE5
          obtain ⟨_, _, ⟨T17, L17, k17, n17⟩, -, X17, ⟨Lc17, hQ17, l17, y17, z17⟩, st17⟩ := X15.virtualBack hx (y := (⟨"stanzabits/xml/Room", "take", "(IJ)Z"⟩ : MethodName)) (z := (⟨"stanzabits/xml/Room", "take", "(IJ)Z"⟩ : MethodName)) hown (mvT hZ (hw _ (List.mem_of_getElem? (i := 29) rfl))) (mvT hZ (hw _ (List.mem_of_getElem? (i := 30) rfl))) (notFace_of_selects (args := #[]) (mvT hZ (hw _ (List.mem_of_getElem? (i := 32) rfl)))) (mvT hZ (hw _ (List.mem_of_getElem? (i := 32) rfl))) (mvT hZ (hw _ (List.mem_of_getElem? (i := 31) rfl))) (by decide) (backOf (W := 0) (rm5t l Z a0 hw [] ob1 (((cE.toInt64) - (a1.toInt64)).toInt32) ((cC.toInt64) - b1) ob2 ((0 : Int32) + a1) ((0 : Int64) + b1) cE cC T5.heap n0 (Z5) rE5 rF5 rG5 rH5 f5_Exa_0 f5_Fld_1 f5_Fld_2 ne_ob1_ob2 g_ob1 P18.1 P18.2) hZ (hw _ (List.mem_of_getElem? (i := 33) rfl)) (hw _ (List.mem_of_getElem? (i := 4) rfl)) (by decide) (by decide)) q17a q17c (g := (mkF m 192 #[.val (.int p0), .val (.int p1), .val (.int p2), .val (.long q3), .second, .val (.int p4), .val (.long q5), .second, .val (.int cE), .val (.int cC), .val (.int a1), .val (.long b1), .second, .val (.int a2), .val (.long b2), .second, .val (.ref ob1), .val (.int (1 : Int32)), .val (.int (1 : Int32)), .val (.long (a1.toInt64)), .second, .val (.long b1), .second, .val (.int (0 : Int32)), .val (.int (0 : Int32)), .unset, .unset, .unset] [(.long ((cC.toInt64) - b1)), (.int (((cE.toInt64) - (a1.toInt64)).toInt32)), (.ref ob1)])) rfl (by rw [hml]; rfl) (Steps.refl _) (argsL := [(.int (((cE.toInt64) - (a1.toInt64)).toInt32)), (.long ((cC.toInt64) - b1))]) (rest := []) (lenOf pd0_2 rfl) rfl (by show 2 * 0 + _ ≤ _; exact Nat.le_of_eq rfl) (hb hby at_192) (fun _ _ => ⟨rfl, eq15, (by decide : 2 + 0 ≤ _), (by decide : 5 + 0 ≤ _)⟩)
          dsimp only [Pt.U, Pt.locs, Pt.cells, Pt.slots] at X17 l17 y17 z17 st17 hQ17
          subst l17 y17 z17
          obtain ⟨rfl, N17q, K17, rE17, rF17, rG17, rH17⟩ := hQ17
          have N17 := Fr.app N15 N17q
          have f17_Exa_0 : Exa Z T17.heap ob2 "stanzabits/xml/Room$Size" := f5_Exa_0.keep K17
          have f17_Fld_1 : Fld Z T17.heap ob2 "stanzabits/xml/Room$Size" "entries" "I" (.int cE) := f5_Fld_1.keep K17 (ninS (Ne.symm ne_ob1_ob2) nin0)
          have f17_Fld_2 : Fld Z T17.heap ob2 "stanzabits/xml/Room$Size" "chars" "I" (.int cC) := f5_Fld_2.keep K17 (ninS (Ne.symm ne_ob1_ob2) nin0)
          have f17_Exa_3 : Exa Z T17.heap ob1 "stanzabits/xml/Room" := rE5.keep K17
          have Z17 : n0 ≤ T17.heap.size := Nat.le_trans (Z5) K17.1
          refine Runs.trans st17 ?_
          show Runs _ _ _ _ T17 (mkF m 195 #[.val (.int p0), .val (.int p1), .val (.int p2), .val (.long q3), .second, .val (.int p4), .val (.long q5), .second, .val (.int cE), .val (.int cC), .val (.int a1), .val (.long b1), .second, .val (.int a2), .val (.long b2), .second, .val (.ref ob1), .val (.int (1 : Int32)), .val (.int (1 : Int32)), .val (.long (a1.toInt64)), .second, .val (.long b1), .second, .val (.int (0 : Int32)), .val (.int (0 : Int32)), .unset, .unset, .unset] [(.int (1 : Int32))])
          refine Runs.back (fun t_ k_ => XS.istore X17.here hx rfl (hb hby at_195) rfl (l' := #[.val (.int p0), .val (.int p1), .val (.int p2), .val (.long q3), .second, .val (.int p4), .val (.long q5), .second, .val (.int cE), .val (.int cC), .val (.int a1), .val (.long b1), .second, .val (.int a2), .val (.long b2), .second, .val (.ref ob1), .val (.int (1 : Int32)), .val (.int (1 : Int32)), .val (.long (a1.toInt64)), .second, .val (.long b1), .second, .val (.int (0 : Int32)), .val (.int (0 : Int32)), .val (.int (1 : Int32)), .unset, .unset]) rfl k_) ?_
          show Runs _ _ _ _ T17 (mkF m 197 #[.val (.int p0), .val (.int p1), .val (.int p2), .val (.long q3), .second, .val (.int p4), .val (.long q5), .second, .val (.int cE), .val (.int cC), .val (.int a1), .val (.long b1), .second, .val (.int a2), .val (.long b2), .second, .val (.ref ob1), .val (.int (1 : Int32)), .val (.int (1 : Int32)), .val (.long (a1.toInt64)), .second, .val (.long b1), .second, .val (.int (0 : Int32)), .val (.int (0 : Int32)), .val (.int (1 : Int32)), .unset, .unset] [])
          refine Runs.back (fun t_ k_ => XS.aload X17.here hx rfl (hb hby at_197) rfl rfl k_) ?_
          show Runs _ _ _ _ T17 (mkF m 199 #[.val (.int p0), .val (.int p1), .val (.int p2), .val (.long q3), .second, .val (.int p4), .val (.long q5), .second, .val (.int cE), .val (.int cC), .val (.int a1), .val (.long b1), .second, .val (.int a2), .val (.long b2), .second, .val (.ref ob1), .val (.int (1 : Int32)), .val (.int (1 : Int32)), .val (.long (a1.toInt64)), .second, .val (.long b1), .second, .val (.int (0 : Int32)), .val (.int (0 : Int32)), .val (.int (1 : Int32)), .unset, .unset] [(.ref ob1)])
          refine Runs.back (fun t_ k_ => XS.iconst X17.here hx rfl (hb hby at_199) k_) ?_
          show Runs _ _ _ _ T17 (mkF m 200 #[.val (.int p0), .val (.int p1), .val (.int p2), .val (.long q3), .second, .val (.int p4), .val (.long q5), .second, .val (.int cE), .val (.int cC), .val (.int a1), .val (.long b1), .second, .val (.int a2), .val (.long b2), .second, .val (.ref ob1), .val (.int (1 : Int32)), .val (.int (1 : Int32)), .val (.long (a1.toInt64)), .second, .val (.long b1), .second, .val (.int (0 : Int32)), .val (.int (0 : Int32)), .val (.int (1 : Int32)), .unset, .unset] [(.int (1 : Int32)), (.ref ob1)])
          refine Runs.back (fun t_ k_ => XS.lconst X17.here hx rfl (hb hby at_200) k_) ?_
          show Runs _ _ _ _ T17 (mkF m 201 #[.val (.int p0), .val (.int p1), .val (.int p2), .val (.long q3), .second, .val (.int p4), .val (.long q5), .second, .val (.int cE), .val (.int cC), .val (.int a1), .val (.long b1), .second, .val (.int a2), .val (.long b2), .second, .val (.ref ob1), .val (.int (1 : Int32)), .val (.int (1 : Int32)), .val (.long (a1.toInt64)), .second, .val (.long b1), .second, .val (.int (0 : Int32)), .val (.int (0 : Int32)), .val (.int (1 : Int32)), .unset, .unset] [(.long (0 : Int64)), (.int (1 : Int32)), (.ref ob1)])
          have P20 : ¬ (¬ cE.toInt64 < (((0 : Int32) + a1) + (((cE.toInt64) - (a1.toInt64)).toInt32)).toInt64 + (1 : Int32).toInt64 ∧ ¬ cC.toInt64 < (((0 : Int64) + b1) + ((cC.toInt64) - b1)) + (0 : Int64)) := by rw [takeE, takeC (by omega) (by omega)]; omega
          obtain ⟨cq19, kq19, q19a, q19b, q19c⟩ := isOf hZ rfl rE17
          obtain ⟨_, _, ⟨T19, L19, k19, n19⟩, -, X19, ⟨Lc19, hQ19, l19, y19, z19⟩, st19⟩ := X17.virtualBack hx (y := (⟨"stanzabits/xml/Room", "take", "(IJ)Z"⟩ : MethodName)) (z := (⟨"stanzabits/xml/Room", "take", "(IJ)Z"⟩ : MethodName)) hown (mvT hZ (hw _ (List.mem_of_getElem? (i := 29) rfl))) (mvT hZ (hw _ (List.mem_of_getElem? (i := 30) rfl))) (notFace_of_selects (args := #[]) (mvT hZ (hw _ (List.mem_of_getElem? (i := 32) rfl)))) (mvT hZ (hw _ (List.mem_of_getElem? (i := 32) rfl))) (mvT hZ (hw _ (List.mem_of_getElem? (i := 31) rfl))) (by decide) (backOf (W := 0) (rm5f l Z a0 hw [] ob1 (1 : Int32) (0 : Int64) ob2 (((0 : Int32) + a1) + (((cE.toInt64) - (a1.toInt64)).toInt32)) (((0 : Int64) + b1) + ((cC.toInt64) - b1)) cE cC T17.heap n0 (Z17) rE17 rF17 rG17 rH17 f17_Exa_0 f17_Fld_1 f17_Fld_2 ne_ob1_ob2 g_ob1 P20) hZ (hw _ (List.mem_of_getElem? (i := 33) rfl)) (hw _ (List.mem_of_getElem? (i := 4) rfl)) (by decide) (by decide)) q19a q19c (g := (mkF m 201 #[.val (.int p0), .val (.int p1), .val (.int p2), .val (.long q3), .second, .val (.int p4), .val (.long q5), .second, .val (.int cE), .val (.int cC), .val (.int a1), .val (.long b1), .second, .val (.int a2), .val (.long b2), .second, .val (.ref ob1), .val (.int (1 : Int32)), .val (.int (1 : Int32)), .val (.long (a1.toInt64)), .second, .val (.long b1), .second, .val (.int (0 : Int32)), .val (.int (0 : Int32)), .val (.int (1 : Int32)), .unset, .unset] [(.long (0 : Int64)), (.int (1 : Int32)), (.ref ob1)])) rfl (by rw [hml]; rfl) (Steps.refl _) (argsL := [(.int (1 : Int32)), (.long (0 : Int64))]) (rest := []) (lenOf pd0_2 rfl) rfl (by show 2 * 0 + _ ≤ _; exact Nat.le_of_eq rfl) (hb hby at_201) (fun _ _ => ⟨rfl, rfl, (by decide : 2 + 0 ≤ _), (by decide : 5 + 0 ≤ _)⟩)
          dsimp only [Pt.U, Pt.locs, Pt.cells, Pt.slots] at X19 l19 y19 z19 st19 hQ19
          subst l19 y19 z19
          obtain ⟨rfl, N19q, eq19⟩ := hQ19
          have N19 := Fr.app N17 N19q
          refine Runs.trans st19 ?_
          show Runs _ _ _ _ T19 (mkF m 204 #[.val (.int p0), .val (.int p1), .val (.int p2), .val (.long q3), .second, .val (.int p4), .val (.long q5), .second, .val (.int cE), .val (.int cC), .val (.int a1), .val (.long b1), .second, .val (.int a2), .val (.long b2), .second, .val (.ref ob1), .val (.int (1 : Int32)), .val (.int (1 : Int32)), .val (.long (a1.toInt64)), .second, .val (.long b1), .second, .val (.int (0 : Int32)), .val (.int (0 : Int32)), .val (.int (1 : Int32)), .unset, .unset] [(.int (0 : Int32))])
          refine Runs.back (fun t_ k_ => XS.istore X19.here hx rfl (hb hby at_204) rfl (l' := #[.val (.int p0), .val (.int p1), .val (.int p2), .val (.long q3), .second, .val (.int p4), .val (.long q5), .second, .val (.int cE), .val (.int cC), .val (.int a1), .val (.long b1), .second, .val (.int a2), .val (.long b2), .second, .val (.ref ob1), .val (.int (1 : Int32)), .val (.int (1 : Int32)), .val (.long (a1.toInt64)), .second, .val (.long b1), .second, .val (.int (0 : Int32)), .val (.int (0 : Int32)), .val (.int (1 : Int32)), .val (.int (0 : Int32)), .unset]) rfl k_) ?_
          show Runs _ _ _ _ T19 (mkF m 206 #[.val (.int p0), .val (.int p1), .val (.int p2), .val (.long q3), .second, .val (.int p4), .val (.long q5), .second, .val (.int cE), .val (.int cC), .val (.int a1), .val (.long b1), .second, .val (.int a2), .val (.long b2), .second, .val (.ref ob1), .val (.int (1 : Int32)), .val (.int (1 : Int32)), .val (.long (a1.toInt64)), .second, .val (.long b1), .second, .val (.int (0 : Int32)), .val (.int (0 : Int32)), .val (.int (1 : Int32)), .val (.int (0 : Int32)), .unset] [])
          refine Runs.back (fun t_ k_ => XS.aload X19.here hx rfl (hb hby at_206) rfl rfl k_) ?_
          show Runs _ _ _ _ T19 (mkF m 208 #[.val (.int p0), .val (.int p1), .val (.int p2), .val (.long q3), .second, .val (.int p4), .val (.long q5), .second, .val (.int cE), .val (.int cC), .val (.int a1), .val (.long b1), .second, .val (.int a2), .val (.long b2), .second, .val (.ref ob1), .val (.int (1 : Int32)), .val (.int (1 : Int32)), .val (.long (a1.toInt64)), .second, .val (.long b1), .second, .val (.int (0 : Int32)), .val (.int (0 : Int32)), .val (.int (1 : Int32)), .val (.int (0 : Int32)), .unset] [(.ref ob1)])
          refine Runs.back (fun t_ k_ => XS.iconst X19.here hx rfl (hb hby at_208) k_) ?_
          show Runs _ _ _ _ T19 (mkF m 209 #[.val (.int p0), .val (.int p1), .val (.int p2), .val (.long q3), .second, .val (.int p4), .val (.long q5), .second, .val (.int cE), .val (.int cC), .val (.int a1), .val (.long b1), .second, .val (.int a2), .val (.long b2), .second, .val (.ref ob1), .val (.int (1 : Int32)), .val (.int (1 : Int32)), .val (.long (a1.toInt64)), .second, .val (.long b1), .second, .val (.int (0 : Int32)), .val (.int (0 : Int32)), .val (.int (1 : Int32)), .val (.int (0 : Int32)), .unset] [(.int (0 : Int32)), (.ref ob1)])
          refine Runs.back (fun t_ k_ => XS.lconst X19.here hx rfl (hb hby at_209) k_) ?_
          show Runs _ _ _ _ T19 (mkF m 210 #[.val (.int p0), .val (.int p1), .val (.int p2), .val (.long q3), .second, .val (.int p4), .val (.long q5), .second, .val (.int cE), .val (.int cC), .val (.int a1), .val (.long b1), .second, .val (.int a2), .val (.long b2), .second, .val (.ref ob1), .val (.int (1 : Int32)), .val (.int (1 : Int32)), .val (.long (a1.toInt64)), .second, .val (.long b1), .second, .val (.int (0 : Int32)), .val (.int (0 : Int32)), .val (.int (1 : Int32)), .val (.int (0 : Int32)), .unset] [(.long (1 : Int64)), (.int (0 : Int32)), (.ref ob1)])
          have P22 : ¬ (¬ cE.toInt64 < (((0 : Int32) + a1) + (((cE.toInt64) - (a1.toInt64)).toInt32)).toInt64 + (0 : Int32).toInt64 ∧ ¬ cC.toInt64 < (((0 : Int64) + b1) + ((cC.toInt64) - b1)) + (1 : Int64)) := by rw [takeE, takeC (by omega) (by omega)]; omega
          obtain ⟨cq21, kq21, q21a, q21b, q21c⟩ := isOf hZ eq19 rE17
          obtain ⟨_, _, ⟨T21, L21, k21, n21⟩, -, X21, ⟨Lc21, hQ21, l21, y21, z21⟩, st21⟩ := X19.virtualBack hx (y := (⟨"stanzabits/xml/Room", "take", "(IJ)Z"⟩ : MethodName)) (z := (⟨"stanzabits/xml/Room", "take", "(IJ)Z"⟩ : MethodName)) hown (mvT hZ (hw _ (List.mem_of_getElem? (i := 29) rfl))) (mvT hZ (hw _ (List.mem_of_getElem? (i := 30) rfl))) (notFace_of_selects (args := #[]) (mvT hZ (hw _ (List.mem_of_getElem? (i := 32) rfl)))) (mvT hZ (hw _ (List.mem_of_getElem? (i := 32) rfl))) (mvT hZ (hw _ (List.mem_of_getElem? (i := 31) rfl))) (by decide) (backOf (W := 0) (rm5f l Z a0 hw [] ob1 (0 : Int32) (1 : Int64) ob2 (((0 : Int32) + a1) + (((cE.toInt64) - (a1.toInt64)).toInt32)) (((0 : Int64) + b1) + ((cC.toInt64) - b1)) cE cC T17.heap n0 (Z17) rE17 rF17 rG17 rH17 f17_Exa_0 f17_Fld_1 f17_Fld_2 ne_ob1_ob2 g_ob1 P22) hZ (hw _ (List.mem_of_getElem? (i := 33) rfl)) (hw _ (List.mem_of_getElem? (i := 4) rfl)) (by decide) (by decide)) q21a q21c (g := (mkF m 210 #[.val (.int p0), .val (.int p1), .val (.int p2), .val (.long q3), .second, .val (.int p4), .val (.long q5), .second, .val (.int cE), .val (.int cC), .val (.int a1), .val (.long b1), .second, .val (.int a2), .val (.long b2), .second, .val (.ref ob1), .val (.int (1 : Int32)), .val (.int (1 : Int32)), .val (.long (a1.toInt64)), .second, .val (.long b1), .second, .val (.int (0 : Int32)), .val (.int (0 : Int32)), .val (.int (1 : Int32)), .val (.int (0 : Int32)), .unset] [(.long (1 : Int64)), (.int (0 : Int32)), (.ref ob1)])) rfl (by rw [hml]; rfl) (Steps.refl _) (argsL := [(.int (0 : Int32)), (.long (1 : Int64))]) (rest := []) (lenOf pd0_2 rfl) rfl (by show 2 * 0 + _ ≤ _; exact Nat.le_of_eq rfl) (hb hby at_210) (fun _ _ => ⟨rfl, eq19, (by decide : 2 + 0 ≤ _), (by decide : 5 + 0 ≤ _)⟩)
          dsimp only [Pt.U, Pt.locs, Pt.cells, Pt.slots] at X21 l21 y21 z21 st21 hQ21
          subst l21 y21 z21
          obtain ⟨rfl, N21q, eq21⟩ := hQ21
          have N21 := Fr.app N19 N21q
          refine Runs.trans st21 ?_
          show Runs _ _ _ _ T21 (mkF m 213 #[.val (.int p0), .val (.int p1), .val (.int p2), .val (.long q3), .second, .val (.int p4), .val (.long q5), .second, .val (.int cE), .val (.int cC), .val (.int a1), .val (.long b1), .second, .val (.int a2), .val (.long b2), .second, .val (.ref ob1), .val (.int (1 : Int32)), .val (.int (1 : Int32)), .val (.long (a1.toInt64)), .second, .val (.long b1), .second, .val (.int (0 : Int32)), .val (.int (0 : Int32)), .val (.int (1 : Int32)), .val (.int (0 : Int32)), .unset] [(.int (0 : Int32))])
          refine Runs.back (fun t_ k_ => XS.istore X21.here hx rfl (hb hby at_213) rfl (l' := #[.val (.int p0), .val (.int p1), .val (.int p2), .val (.long q3), .second, .val (.int p4), .val (.long q5), .second, .val (.int cE), .val (.int cC), .val (.int a1), .val (.long b1), .second, .val (.int a2), .val (.long b2), .second, .val (.ref ob1), .val (.int (1 : Int32)), .val (.int (1 : Int32)), .val (.long (a1.toInt64)), .second, .val (.long b1), .second, .val (.int (0 : Int32)), .val (.int (0 : Int32)), .val (.int (1 : Int32)), .val (.int (0 : Int32)), .val (.int (0 : Int32))]) rfl k_) ?_
          show Runs _ _ _ _ T21 (mkF m 215 #[.val (.int p0), .val (.int p1), .val (.int p2), .val (.long q3), .second, .val (.int p4), .val (.long q5), .second, .val (.int cE), .val (.int cC), .val (.int a1), .val (.long b1), .second, .val (.int a2), .val (.long b2), .second, .val (.ref ob1), .val (.int (1 : Int32)), .val (.int (1 : Int32)), .val (.long (a1.toInt64)), .second, .val (.long b1), .second, .val (.int (0 : Int32)), .val (.int (0 : Int32)), .val (.int (1 : Int32)), .val (.int (0 : Int32)), .val (.int (0 : Int32))] [])
          refine Runs.back (fun t_ k_ => XS.iload X21.here hx rfl (hb hby at_215) rfl k_) ?_
          show Runs _ _ _ _ T21 (mkF m 217 #[.val (.int p0), .val (.int p1), .val (.int p2), .val (.long q3), .second, .val (.int p4), .val (.long q5), .second, .val (.int cE), .val (.int cC), .val (.int a1), .val (.long b1), .second, .val (.int a2), .val (.long b2), .second, .val (.ref ob1), .val (.int (1 : Int32)), .val (.int (1 : Int32)), .val (.long (a1.toInt64)), .second, .val (.long b1), .second, .val (.int (0 : Int32)), .val (.int (0 : Int32)), .val (.int (1 : Int32)), .val (.int (0 : Int32)), .val (.int (0 : Int32))] [(.int (1 : Int32))])
          refine Runs.back (fun t_ k_ => XS.iload X21.here hx rfl (hb hby at_217) rfl k_) ?_
          show Runs _ _ _ _ T21 (mkF m 219 #[.val (.int p0), .val (.int p1), .val (.int p2), .val (.long q3), .second, .val (.int p4), .val (.long q5), .second, .val (.int cE), .val (.int cC), .val (.int a1), .val (.long b1), .second, .val (.int a2), .val (.long b2), .second, .val (.ref ob1), .val (.int (1 : Int32)), .val (.int (1 : Int32)), .val (.long (a1.toInt64)), .second, .val (.long b1), .second, .val (.int (0 : Int32)), .val (.int (0 : Int32)), .val (.int (1 : Int32)), .val (.int (0 : Int32)), .val (.int (0 : Int32))] [(.int (1 : Int32)), (.int (1 : Int32))])
          refine Runs.back (fun t_ k_ => XS.icmpNo X21.here hx rfl (hb hby at_219) rfl (teq (show (1 : Int32) = (1 : Int32) from rfl)).2 k_) ?_
          show Runs _ _ _ _ T21 (mkF m 222 #[.val (.int p0), .val (.int p1), .val (.int p2), .val (.long q3), .second, .val (.int p4), .val (.long q5), .second, .val (.int cE), .val (.int cC), .val (.int a1), .val (.long b1), .second, .val (.int a2), .val (.long b2), .second, .val (.ref ob1), .val (.int (1 : Int32)), .val (.int (1 : Int32)), .val (.long (a1.toInt64)), .second, .val (.long b1), .second, .val (.int (0 : Int32)), .val (.int (0 : Int32)), .val (.int (1 : Int32)), .val (.int (0 : Int32)), .val (.int (0 : Int32))] [])
          refine Runs.back (fun t_ k_ => XS.iload X21.here hx rfl (hb hby at_222) rfl k_) ?_
          show Runs _ _ _ _ T21 (mkF m 224 #[.val (.int p0), .val (.int p1), .val (.int p2), .val (.long q3), .second, .val (.int p4), .val (.long q5), .second, .val (.int cE), .val (.int cC), .val (.int a1), .val (.long b1), .second, .val (.int a2), .val (.long b2), .second, .val (.ref ob1), .val (.int (1 : Int32)), .val (.int (1 : Int32)), .val (.long (a1.toInt64)), .second, .val (.long b1), .second, .val (.int (0 : Int32)), .val (.int (0 : Int32)), .val (.int (1 : Int32)), .val (.int (0 : Int32)), .val (.int (0 : Int32))] [(.int (0 : Int32))])
          refine Runs.back (fun t_ k_ => XS.iload X21.here hx rfl (hb hby at_224) rfl k_) ?_
          show Runs _ _ _ _ T21 (mkF m 226 #[.val (.int p0), .val (.int p1), .val (.int p2), .val (.long q3), .second, .val (.int p4), .val (.long q5), .second, .val (.int cE), .val (.int cC), .val (.int a1), .val (.long b1), .second, .val (.int a2), .val (.long b2), .second, .val (.ref ob1), .val (.int (1 : Int32)), .val (.int (1 : Int32)), .val (.long (a1.toInt64)), .second, .val (.long b1), .second, .val (.int (0 : Int32)), .val (.int (0 : Int32)), .val (.int (1 : Int32)), .val (.int (0 : Int32)), .val (.int (0 : Int32))] [(.int (0 : Int32)), (.int (0 : Int32))])
          refine Runs.back (fun t_ k_ => XS.icmpNo X21.here hx rfl (hb hby at_226) rfl (teq (show (0 : Int32) = (0 : Int32) from rfl)).2 k_) ?_
          show Runs _ _ _ _ T21 (mkF m 229 #[.val (.int p0), .val (.int p1), .val (.int p2), .val (.long q3), .second, .val (.int p4), .val (.long q5), .second, .val (.int cE), .val (.int cC), .val (.int a1), .val (.long b1), .second, .val (.int a2), .val (.long b2), .second, .val (.ref ob1), .val (.int (1 : Int32)), .val (.int (1 : Int32)), .val (.long (a1.toInt64)), .second, .val (.long b1), .second, .val (.int (0 : Int32)), .val (.int (0 : Int32)), .val (.int (1 : Int32)), .val (.int (0 : Int32)), .val (.int (0 : Int32))] [])
          refine Runs.back (fun t_ k_ => XS.iload X21.here hx rfl (hb hby at_229) rfl k_) ?_
          show Runs _ _ _ _ T21 (mkF m 231 #[.val (.int p0), .val (.int p1), .val (.int p2), .val (.long q3), .second, .val (.int p4), .val (.long q5), .second, .val (.int cE), .val (.int cC), .val (.int a1), .val (.long b1), .second, .val (.int a2), .val (.long b2), .second, .val (.ref ob1), .val (.int (1 : Int32)), .val (.int (1 : Int32)), .val (.long (a1.toInt64)), .second, .val (.long b1), .second, .val (.int (0 : Int32)), .val (.int (0 : Int32)), .val (.int (1 : Int32)), .val (.int (0 : Int32)), .val (.int (0 : Int32))] [(.int (1 : Int32))])
          refine Runs.back (fun t_ k_ => XS.ifNo X21.here hx rfl (hb hby at_231) rfl ((if0 _ _).trans (feq (show ¬ ((1 : Int32) = (0 : Int32)) from (by decide))).1) k_) ?_
          show Runs _ _ _ _ T21 (mkF m 234 #[.val (.int p0), .val (.int p1), .val (.int p2), .val (.long q3), .second, .val (.int p4), .val (.long q5), .second, .val (.int cE), .val (.int cC), .val (.int a1), .val (.long b1), .second, .val (.int a2), .val (.long b2), .second, .val (.ref ob1), .val (.int (1 : Int32)), .val (.int (1 : Int32)), .val (.long (a1.toInt64)), .second, .val (.long b1), .second, .val (.int (0 : Int32)), .val (.int (0 : Int32)), .val (.int (1 : Int32)), .val (.int (0 : Int32)), .val (.int (0 : Int32))] [])
          refine Runs.back (fun t_ k_ => XS.iload X21.here hx rfl (hb hby at_234) rfl k_) ?_
          show Runs _ _ _ _ T21 (mkF m 236 #[.val (.int p0), .val (.int p1), .val (.int p2), .val (.long q3), .second, .val (.int p4), .val (.long q5), .second, .val (.int cE), .val (.int cC), .val (.int a1), .val (.long b1), .second, .val (.int a2), .val (.long b2), .second, .val (.ref ob1), .val (.int (1 : Int32)), .val (.int (1 : Int32)), .val (.long (a1.toInt64)), .second, .val (.long b1), .second, .val (.int (0 : Int32)), .val (.int (0 : Int32)), .val (.int (1 : Int32)), .val (.int (0 : Int32)), .val (.int (0 : Int32))] [(.int (0 : Int32))])
          refine Runs.back (fun t_ k_ => XS.ifNo X21.here hx rfl (hb hby at_236) rfl ((if0 _ _).trans (teq (show (0 : Int32) = (0 : Int32) from rfl)).2) k_) ?_
          show Runs _ _ _ _ T21 (mkF m 239 #[.val (.int p0), .val (.int p1), .val (.int p2), .val (.long q3), .second, .val (.int p4), .val (.long q5), .second, .val (.int cE), .val (.int cC), .val (.int a1), .val (.long b1), .second, .val (.int a2), .val (.long b2), .second, .val (.ref ob1), .val (.int (1 : Int32)), .val (.int (1 : Int32)), .val (.long (a1.toInt64)), .second, .val (.long b1), .second, .val (.int (0 : Int32)), .val (.int (0 : Int32)), .val (.int (1 : Int32)), .val (.int (0 : Int32)), .val (.int (0 : Int32))] [])
          refine Runs.back (fun t_ k_ => XS.iload X21.here hx rfl (hb hby at_239) rfl k_) ?_
          show Runs _ _ _ _ T21 (mkF m 241 #[.val (.int p0), .val (.int p1), .val (.int p2), .val (.long q3), .second, .val (.int p4), .val (.long q5), .second, .val (.int cE), .val (.int cC), .val (.int a1), .val (.long b1), .second, .val (.int a2), .val (.long b2), .second, .val (.ref ob1), .val (.int (1 : Int32)), .val (.int (1 : Int32)), .val (.long (a1.toInt64)), .second, .val (.long b1), .second, .val (.int (0 : Int32)), .val (.int (0 : Int32)), .val (.int (1 : Int32)), .val (.int (0 : Int32)), .val (.int (0 : Int32))] [(.int (0 : Int32))])
          refine Runs.back (fun t_ k_ => XS.ifNo X21.here hx rfl (hb hby at_241) rfl ((if0 _ _).trans (teq (show (0 : Int32) = (0 : Int32) from rfl)).2) k_) ?_
          show Runs _ _ _ _ T21 (mkF m 244 #[.val (.int p0), .val (.int p1), .val (.int p2), .val (.long q3), .second, .val (.int p4), .val (.long q5), .second, .val (.int cE), .val (.int cC), .val (.int a1), .val (.long b1), .second, .val (.int a2), .val (.long b2), .second, .val (.ref ob1), .val (.int (1 : Int32)), .val (.int (1 : Int32)), .val (.long (a1.toInt64)), .second, .val (.long b1), .second, .val (.int (0 : Int32)), .val (.int (0 : Int32)), .val (.int (1 : Int32)), .val (.int (0 : Int32)), .val (.int (0 : Int32))] [])
          refine Runs.back (fun t_ k_ => XS.iconst X21.here hx rfl (hb hby at_244) k_) ?_
          show Runs _ _ _ _ T21 (mkF m 245 #[.val (.int p0), .val (.int p1), .val (.int p2), .val (.long q3), .second, .val (.int p4), .val (.long q5), .second, .val (.int cE), .val (.int cC), .val (.int a1), .val (.long b1), .second, .val (.int a2), .val (.long b2), .second, .val (.ref ob1), .val (.int (1 : Int32)), .val (.int (1 : Int32)), .val (.long (a1.toInt64)), .second, .val (.long b1), .second, .val (.int (0 : Int32)), .val (.int (0 : Int32)), .val (.int (1 : Int32)), .val (.int (0 : Int32)), .val (.int (0 : Int32))] [(.int (1 : Int32))])
          refine Runs.back (fun t_ k_ => XS.goto X21.here hx rfl (pc0 := 245) (pc' := 249) rfl (hb hby at_245) (by decide) (by decide) k_) ?_
          show Runs _ _ _ _ T21 (mkF m 249 #[.val (.int p0), .val (.int p1), .val (.int p2), .val (.long q3), .second, .val (.int p4), .val (.long q5), .second, .val (.int cE), .val (.int cC), .val (.int a1), .val (.long b1), .second, .val (.int a2), .val (.long b2), .second, .val (.ref ob1), .val (.int (1 : Int32)), .val (.int (1 : Int32)), .val (.long (a1.toInt64)), .second, .val (.long b1), .second, .val (.int (0 : Int32)), .val (.int (0 : Int32)), .val (.int (1 : Int32)), .val (.int (0 : Int32)), .val (.int (0 : Int32))] [(.int (1 : Int32))])
          obtain ⟨fs, hr, hrun, hended, hW, hsame⟩ := X21.leave (v := some (.int (1 : Int32))) (fun h => by rw [Bd.returns] at h; cases h)
          exact ⟨_, _, (retN X21 hx (t := .boolean) Bd.returns (by simp) (hb hby at_249) hr), hrun, hended, _, _, rfl, ⟨rfl, N21⟩, ⟨_, rfl⟩, hW, hsame.mono (by decide) (by decide)⟩
      · intro J2
        show Runs _ _ _ _ T5 (mkF m 114 #[.val (.int p0), .val (.int p1), .val (.int p2), .val (.long q3), .second, .val (.int p4), .val (.long q5), .second, .val (.int cE), .val (.int cC), .val (.int a1), .val (.long b1), .second, .val (.int a2), .val (.long b2), .second, .val (.ref ob1), .val (.int (1 : Int32)), .val (.int (1 : Int32)), .val (.long (a1.toInt64)), .second, .val (.long b1), .second, .unset, .unset, .unset, .unset, .unset] [])
        refine Runs.back (fun t_ k_ => XS.lload X5.here hx rfl (hb hby at_114) rfl k_) ?_
        show Runs _ _ _ _ T5 (mkF m 116 #[.val (.int p0), .val (.int p1), .val (.int p2), .val (.long q3), .second, .val (.int p4), .val (.long q5), .second, .val (.int cE), .val (.int cC), .val (.int a1), .val (.long b1), .second, .val (.int a2), .val (.long b2), .second, .val (.ref ob1), .val (.int (1 : Int32)), .val (.int (1 : Int32)), .val (.long (a1.toInt64)), .second, .val (.long b1), .second, .unset, .unset, .unset, .unset, .unset] [(.long (a1.toInt64))])
        refine Runs.back (fun t_ k_ => XS.iload X5.here hx rfl (hb hby at_116) rfl k_) ?_
        show Runs _ _ _ _ T5 (mkF m 118 #[.val (.int p0), .val (.int p1), .val (.int p2), .val (.long q3), .second, .val (.int p4), .val (.long q5), .second, .val (.int cE), .val (.int cC), .val (.int a1), .val (.long b1), .second, .val (.int a2), .val (.long b2), .second, .val (.ref ob1), .val (.int (1 : Int32)), .val (.int (1 : Int32)), .val (.long (a1.toInt64)), .second, .val (.long b1), .second, .unset, .unset, .unset, .unset, .unset] [(.int a2), (.long (a1.toInt64))])
        refine Runs.back (fun t_ k_ => XS.i2l X5.here hx rfl (hb hby at_118) rfl k_) ?_
        show Runs _ _ _ _ T5 (mkF m 119 #[.val (.int p0), .val (.int p1), .val (.int p2), .val (.long q3), .second, .val (.int p4), .val (.long q5), .second, .val (.int cE), .val (.int cC), .val (.int a1), .val (.long b1), .second, .val (.int a2), .val (.long b2), .second, .val (.ref ob1), .val (.int (1 : Int32)), .val (.int (1 : Int32)), .val (.long (a1.toInt64)), .second, .val (.long b1), .second, .unset, .unset, .unset, .unset, .unset] [(.long (a2.toInt64)), (.long (a1.toInt64))])
        refine Runs.back (fun t_ k_ => XS.ladd X5.here hx rfl (hb hby at_119) rfl k_) ?_
        show Runs _ _ _ _ T5 (mkF m 120 #[.val (.int p0), .val (.int p1), .val (.int p2), .val (.long q3), .second, .val (.int p4), .val (.long q5), .second, .val (.int cE), .val (.int cC), .val (.int a1), .val (.long b1), .second, .val (.int a2), .val (.long b2), .second, .val (.ref ob1), .val (.int (1 : Int32)), .val (.int (1 : Int32)), .val (.long (a1.toInt64)), .second, .val (.long b1), .second, .unset, .unset, .unset, .unset, .unset] [(.long ((a1.toInt64) + (a2.toInt64)))])
        refine Runs.back (fun t_ k_ => XS.iload X5.here hx rfl (hb hby at_120) rfl k_) ?_
        show Runs _ _ _ _ T5 (mkF m 122 #[.val (.int p0), .val (.int p1), .val (.int p2), .val (.long q3), .second, .val (.int p4), .val (.long q5), .second, .val (.int cE), .val (.int cC), .val (.int a1), .val (.long b1), .second, .val (.int a2), .val (.long b2), .second, .val (.ref ob1), .val (.int (1 : Int32)), .val (.int (1 : Int32)), .val (.long (a1.toInt64)), .second, .val (.long b1), .second, .unset, .unset, .unset, .unset, .unset] [(.int cE), (.long ((a1.toInt64) + (a2.toInt64)))])
        refine Runs.back (fun t_ k_ => XS.i2l X5.here hx rfl (hb hby at_122) rfl k_) ?_
        show Runs _ _ _ _ T5 (mkF m 123 #[.val (.int p0), .val (.int p1), .val (.int p2), .val (.long q3), .second, .val (.int p4), .val (.long q5), .second, .val (.int cE), .val (.int cC), .val (.int a1), .val (.long b1), .second, .val (.int a2), .val (.long b2), .second, .val (.ref ob1), .val (.int (1 : Int32)), .val (.int (1 : Int32)), .val (.long (a1.toInt64)), .second, .val (.long b1), .second, .unset, .unset, .unset, .unset, .unset] [(.long (cE.toInt64)), (.long ((a1.toInt64) + (a2.toInt64)))])
        refine Runs.back (fun t_ k_ => XS.lcmp X5.here hx rfl (hb hby at_123) rfl k_) ?_
        show Runs _ _ _ _ T5 (mkF m 124 #[.val (.int p0), .val (.int p1), .val (.int p2), .val (.long q3), .second, .val (.int p4), .val (.long q5), .second, .val (.int cE), .val (.int cC), .val (.int a1), .val (.long b1), .second, .val (.int a2), .val (.long b2), .second, .val (.ref ob1), .val (.int (1 : Int32)), .val (.int (1 : Int32)), .val (.long (a1.toInt64)), .second, .val (.long b1), .second, .unset, .unset, .unset, .unset, .unset] [(.int (lcmpW ((a1.toInt64) + (a2.toInt64)) (cE.toInt64)))])
        by_cases c124_23 : (cE.toInt64) < ((a1.toInt64) + (a2.toInt64))
        · refine Runs.back (fun t_ k_ => XS.ifYes X5.here hx rfl (pc0 := 124) (pc' := 143) rfl (hb hby at_124) rfl ((if0 _ _).trans (tlt (lcT' c124_23)).2.2.1) (by decide) (by decide) k_) ?_
          show Runs _ _ _ _ T5 (mkF m 143 #[.val (.int p0), .val (.int p1), .val (.int p2), .val (.long q3), .second, .val (.int p4), .val (.long q5), .second, .val (.int cE), .val (.int cC), .val (.int a1), .val (.long b1), .second, .val (.int a2), .val (.long b2), .second, .val (.ref ob1), .val (.int (1 : Int32)), .val (.int (1 : Int32)), .val (.long (a1.toInt64)), .second, .val (.long b1), .second, .unset, .unset, .unset, .unset, .unset] [])
          refine Runs.back (fun t_ k_ => XS.iconst X5.here hx rfl (hb hby at_143) k_) ?_
          show Runs _ _ _ _ T5 (mkF m 144 #[.val (.int p0), .val (.int p1), .val (.int p2), .val (.long q3), .second, .val (.int p4), .val (.long q5), .second, .val (.int cE), .val (.int cC), .val (.int a1), .val (.long b1), .second, .val (.int a2), .val (.long b2), .second, .val (.ref ob1), .val (.int (1 : Int32)), .val (.int (1 : Int32)), .val (.long (a1.toInt64)), .second, .val (.long b1), .second, .unset, .unset, .unset, .unset, .unset] [(.int (0 : Int32))])
          refine Runs.back (fun t_ k_ => XS.istore X5.here hx rfl (hb hby at_144) rfl (l' := #[.val (.int p0), .val (.int p1), .val (.int p2), .val (.long q3), .second, .val (.int p4), .val (.long q5), .second, .val (.int cE), .val (.int cC), .val (.int a1), .val (.long b1), .second, .val (.int a2), .val (.long b2), .second, .val (.ref ob1), .val (.int (1 : Int32)), .val (.int (1 : Int32)), .val (.long (a1.toInt64)), .second, .val (.long b1), .second, .val (.int (0 : Int32)), .unset, .unset, .unset, .unset]) rfl k_) ?_
          show Runs _ _ _ _ T5 (mkF m 146 #[.val (.int p0), .val (.int p1), .val (.int p2), .val (.long q3), .second, .val (.int p4), .val (.long q5), .second, .val (.int cE), .val (.int cC), .val (.int a1), .val (.long b1), .second, .val (.int a2), .val (.long b2), .second, .val (.ref ob1), .val (.int (1 : Int32)), .val (.int (1 : Int32)), .val (.long (a1.toInt64)), .second, .val (.long b1), .second, .val (.int (0 : Int32)), .unset, .unset, .unset, .unset] [])
          exact J2 ((0 : Int32)) (if_neg (fun q => q.1 c124_23)).symm
        · refine Runs.back (fun t_ k_ => XS.ifNo X5.here hx rfl (hb hby at_124) rfl ((if0 _ _).trans (flt (lcF' c124_23)).2.2.1) k_) ?_
          show Runs _ _ _ _ T5 (mkF m 127 #[.val (.int p0), .val (.int p1), .val (.int p2), .val (.long q3), .second, .val (.int p4), .val (.long q5), .second, .val (.int cE), .val (.int cC), .val (.int a1), .val (.long b1), .second, .val (.int a2), .val (.long b2), .second, .val (.ref ob1), .val (.int (1 : Int32)), .val (.int (1 : Int32)), .val (.long (a1.toInt64)), .second, .val (.long b1), .second, .unset, .unset, .unset, .unset, .unset] [])
          refine Runs.back (fun t_ k_ => XS.lload X5.here hx rfl (hb hby at_127) rfl k_) ?_
          show Runs _ _ _ _ T5 (mkF m 129 #[.val (.int p0), .val (.int p1), .val (.int p2), .val (.long q3), .second, .val (.int p4), .val (.long q5), .second, .val (.int cE), .val (.int cC), .val (.int a1), .val (.long b1), .second, .val (.int a2), .val (.long b2), .second, .val (.ref ob1), .val (.int (1 : Int32)), .val (.int (1 : Int32)), .val (.long (a1.toInt64)), .second, .val (.long b1), .second, .unset, .unset, .unset, .unset, .unset] [(.long b1)])
          refine Runs.back (fun t_ k_ => XS.lload X5.here hx rfl (hb hby at_129) rfl k_) ?_
          show Runs _ _ _ _ T5 (mkF m 131 #[.val (.int p0), .val (.int p1), .val (.int p2), .val (.long q3), .second, .val (.int p4), .val (.long q5), .second, .val (.int cE), .val (.int cC), .val (.int a1), .val (.long b1), .second, .val (.int a2), .val (.long b2), .second, .val (.ref ob1), .val (.int (1 : Int32)), .val (.int (1 : Int32)), .val (.long (a1.toInt64)), .second, .val (.long b1), .second, .unset, .unset, .unset, .unset, .unset] [(.long b2), (.long b1)])
          refine Runs.back (fun t_ k_ => XS.ladd X5.here hx rfl (hb hby at_131) rfl k_) ?_
          show Runs _ _ _ _ T5 (mkF m 132 #[.val (.int p0), .val (.int p1), .val (.int p2), .val (.long q3), .second, .val (.int p4), .val (.long q5), .second, .val (.int cE), .val (.int cC), .val (.int a1), .val (.long b1), .second, .val (.int a2), .val (.long b2), .second, .val (.ref ob1), .val (.int (1 : Int32)), .val (.int (1 : Int32)), .val (.long (a1.toInt64)), .second, .val (.long b1), .second, .unset, .unset, .unset, .unset, .unset] [(.long (b1 + b2))])
          refine Runs.back (fun t_ k_ => XS.iload X5.here hx rfl (hb hby at_132) rfl k_) ?_
          show Runs _ _ _ _ T5 (mkF m 134 #[.val (.int p0), .val (.int p1), .val (.int p2), .val (.long q3), .second, .val (.int p4), .val (.long q5), .second, .val (.int cE), .val (.int cC), .val (.int a1), .val (.long b1), .second, .val (.int a2), .val (.long b2), .second, .val (.ref ob1), .val (.int (1 : Int32)), .val (.int (1 : Int32)), .val (.long (a1.toInt64)), .second, .val (.long b1), .second, .unset, .unset, .unset, .unset, .unset] [(.int cC), (.long (b1 + b2))])
          refine Runs.back (fun t_ k_ => XS.i2l X5.here hx rfl (hb hby at_134) rfl k_) ?_
          show Runs _ _ _ _ T5 (mkF m 135 #[.val (.int p0), .val (.int p1), .val (.int p2), .val (.long q3), .second, .val (.int p4), .val (.long q5), .second, .val (.int cE), .val (.int cC), .val (.int a1), .val (.long b1), .second, .val (.int a2), .val (.long b2), .second, .val (.ref ob1), .val (.int (1 : Int32)), .val (.int (1 : Int32)), .val (.long (a1.toInt64)), .second, .val (.long b1), .second, .unset, .unset, .unset, .unset, .unset] [(.long (cC.toInt64)), (.long (b1 + b2))])
          refine Runs.back (fun t_ k_ => XS.lcmp X5.here hx rfl (hb hby at_135) rfl k_) ?_
          show Runs _ _ _ _ T5 (mkF m 136 #[.val (.int p0), .val (.int p1), .val (.int p2), .val (.long q3), .second, .val (.int p4), .val (.long q5), .second, .val (.int cE), .val (.int cC), .val (.int a1), .val (.long b1), .second, .val (.int a2), .val (.long b2), .second, .val (.ref ob1), .val (.int (1 : Int32)), .val (.int (1 : Int32)), .val (.long (a1.toInt64)), .second, .val (.long b1), .second, .unset, .unset, .unset, .unset, .unset] [(.int (lcmpW (b1 + b2) (cC.toInt64)))])
          by_cases c136_24 : (cC.toInt64) < (b1 + b2)
          · refine Runs.back (fun t_ k_ => XS.ifYes X5.here hx rfl (pc0 := 136) (pc' := 143) rfl (hb hby at_136) rfl ((if0 _ _).trans (tlt (lcT' c136_24)).2.2.1) (by decide) (by decide) k_) ?_
            show Runs _ _ _ _ T5 (mkF m 143 #[.val (.int p0), .val (.int p1), .val (.int p2), .val (.long q3), .second, .val (.int p4), .val (.long q5), .second, .val (.int cE), .val (.int cC), .val (.int a1), .val (.long b1), .second, .val (.int a2), .val (.long b2), .second, .val (.ref ob1), .val (.int (1 : Int32)), .val (.int (1 : Int32)), .val (.long (a1.toInt64)), .second, .val (.long b1), .second, .unset, .unset, .unset, .unset, .unset] [])
            refine Runs.back (fun t_ k_ => XS.iconst X5.here hx rfl (hb hby at_143) k_) ?_
            show Runs _ _ _ _ T5 (mkF m 144 #[.val (.int p0), .val (.int p1), .val (.int p2), .val (.long q3), .second, .val (.int p4), .val (.long q5), .second, .val (.int cE), .val (.int cC), .val (.int a1), .val (.long b1), .second, .val (.int a2), .val (.long b2), .second, .val (.ref ob1), .val (.int (1 : Int32)), .val (.int (1 : Int32)), .val (.long (a1.toInt64)), .second, .val (.long b1), .second, .unset, .unset, .unset, .unset, .unset] [(.int (0 : Int32))])
            refine Runs.back (fun t_ k_ => XS.istore X5.here hx rfl (hb hby at_144) rfl (l' := #[.val (.int p0), .val (.int p1), .val (.int p2), .val (.long q3), .second, .val (.int p4), .val (.long q5), .second, .val (.int cE), .val (.int cC), .val (.int a1), .val (.long b1), .second, .val (.int a2), .val (.long b2), .second, .val (.ref ob1), .val (.int (1 : Int32)), .val (.int (1 : Int32)), .val (.long (a1.toInt64)), .second, .val (.long b1), .second, .val (.int (0 : Int32)), .unset, .unset, .unset, .unset]) rfl k_) ?_
            show Runs _ _ _ _ T5 (mkF m 146 #[.val (.int p0), .val (.int p1), .val (.int p2), .val (.long q3), .second, .val (.int p4), .val (.long q5), .second, .val (.int cE), .val (.int cC), .val (.int a1), .val (.long b1), .second, .val (.int a2), .val (.long b2), .second, .val (.ref ob1), .val (.int (1 : Int32)), .val (.int (1 : Int32)), .val (.long (a1.toInt64)), .second, .val (.long b1), .second, .val (.int (0 : Int32)), .unset, .unset, .unset, .unset] [])
            exact J2 ((0 : Int32)) (if_neg (fun q => q.2 c136_24)).symm
          · refine Runs.back (fun t_ k_ => XS.ifNo X5.here hx rfl (hb hby at_136) rfl ((if0 _ _).trans (flt (lcF' c136_24)).2.2.1) k_) ?_
            show Runs _ _ _ _ T5 (mkF m 139 #[.val (.int p0), .val (.int p1), .val (.int p2), .val (.long q3), .second, .val (.int p4), .val (.long q5), .second, .val (.int cE), .val (.int cC), .val (.int a1), .val (.long b1), .second, .val (.int a2), .val (.long b2), .second, .val (.ref ob1), .val (.int (1 : Int32)), .val (.int (1 : Int32)), .val (.long (a1.toInt64)), .second, .val (.long b1), .second, .unset, .unset, .unset, .unset, .unset] [])
            refine Runs.back (fun t_ k_ => XS.iconst X5.here hx rfl (hb hby at_139) k_) ?_
            show Runs _ _ _ _ T5 (mkF m 140 #[.val (.int p0), .val (.int p1), .val (.int p2), .val (.long q3), .second, .val (.int p4), .val (.long q5), .second, .val (.int cE), .val (.int cC), .val (.int a1), .val (.long b1), .second, .val (.int a2), .val (.long b2), .second, .val (.ref ob1), .val (.int (1 : Int32)), .val (.int (1 : Int32)), .val (.long (a1.toInt64)), .second, .val (.long b1), .second, .unset, .unset, .unset, .unset, .unset] [(.int (1 : Int32))])
            refine Runs.back (fun t_ k_ => XS.goto X5.here hx rfl (pc0 := 140) (pc' := 144) rfl (hb hby at_140) (by decide) (by decide) k_) ?_
            show Runs _ _ _ _ T5 (mkF m 144 #[.val (.int p0), .val (.int p1), .val (.int p2), .val (.long q3), .second, .val (.int p4), .val (.long q5), .second, .val (.int cE), .val (.int cC), .val (.int a1), .val (.long b1), .second, .val (.int a2), .val (.long b2), .second, .val (.ref ob1), .val (.int (1 : Int32)), .val (.int (1 : Int32)), .val (.long (a1.toInt64)), .second, .val (.long b1), .second, .unset, .unset, .unset, .unset, .unset] [(.int (1 : Int32))])
            refine Runs.back (fun t_ k_ => XS.istore X5.here hx rfl (hb hby at_144) rfl (l' := #[.val (.int p0), .val (.int p1), .val (.int p2), .val (.long q3), .second, .val (.int p4), .val (.long q5), .second, .val (.int cE), .val (.int cC), .val (.int a1), .val (.long b1), .second, .val (.int a2), .val (.long b2), .second, .val (.ref ob1), .val (.int (1 : Int32)), .val (.int (1 : Int32)), .val (.long (a1.toInt64)), .second, .val (.long b1), .second, .val (.int (1 : Int32)), .unset, .unset, .unset, .unset]) rfl k_) ?_
            show Runs _ _ _ _ T5 (mkF m 146 #[.val (.int p0), .val (.int p1), .val (.int p2), .val (.long q3), .second, .val (.int p4), .val (.long q5), .second, .val (.int cE), .val (.int cC), .val (.int a1), .val (.long b1), .second, .val (.int a2), .val (.long b2), .second, .val (.ref ob1), .val (.int (1 : Int32)), .val (.int (1 : Int32)), .val (.long (a1.toInt64)), .second, .val (.long b1), .second, .val (.int (1 : Int32)), .unset, .unset, .unset, .unset] [])
            exact J2 ((1 : Int32)) (if_pos ⟨c124_23, c136_24⟩).symm
    · obtain rfl : whW1 = (0 : Int32) := by rw [ehW1, if_neg hW1]
      show Runs _ _ _ _ T4 (mkF m 83 #[.val (.int p0), .val (.int p1), .val (.int p2), .val (.long q3), .second, .val (.int p4), .val (.long q5), .second, .val (.int cE), .val (.int cC), .val (.int a1), .val (.long b1), .second, .val (.int a2), .val (.long b2), .second, .val (.ref ob1), .val (.int (0 : Int32)), .unset, .unset, .unset, .unset, .unset, .unset, .unset, .unset, .unset, .unset] [])
      refine Runs.back (fun t_ k_ => XS.aload X4.here hx rfl (hb hby at_83) rfl rfl k_) ?_
      show Runs _ _ _ _ T4 (mkF m 85 #[.val (.int p0), .val (.int p1), .val (.int p2), .val (.long q3), .second, .val (.int p4), .val (.long q5), .second, .val (.int cE), .val (.int cC), .val (.int a1), .val (.long b1), .second, .val (.int a2), .val (.long b2), .second, .val (.ref ob1), .val (.int (0 : Int32)), .unset, .unset, .unset, .unset, .unset, .unset, .unset, .unset, .unset, .unset] [(.ref ob1)])
      refine Runs.back (fun t_ k_ => XS.iload X4.here hx rfl (hb hby at_85) rfl k_) ?_
      show Runs _ _ _ _ T4 (mkF m 87 #[.val (.int p0), .val (.int p1), .val (.int p2), .val (.long q3), .second, .val (.int p4), .val (.long q5), .second, .val (.int cE), .val (.int cC), .val (.int a1), .val (.long b1), .second, .val (.int a2), .val (.long b2), .second, .val (.ref ob1), .val (.int (0 : Int32)), .unset, .unset, .unset, .unset, .unset, .unset, .unset, .unset, .unset, .unset] [(.int a1), (.ref ob1)])
      refine Runs.back (fun t_ k_ => XS.lload X4.here hx rfl (hb hby at_87) rfl k_) ?_
      show Runs _ _ _ _ T4 (mkF m 89 #[.val (.int p0), .val (.int p1), .val (.int p2), .val (.long q3), .second, .val (.int p4), .val (.long q5), .second, .val (.int cE), .val (.int cC), .val (.int a1), .val (.long b1), .second, .val (.int a2), .val (.long b2), .second, .val (.ref ob1), .val (.int (0 : Int32)), .unset, .unset, .unset, .unset, .unset, .unset, .unset, .unset, .unset, .unset] [(.long b1), (.int a1), (.ref ob1)])
      have iW1 := hW1
      rw [lti, ltl, c_i2l] at iW1
      have P26 : ¬ (¬ cE.toInt64 < (0 : Int32).toInt64 + a1.toInt64 ∧ ¬ cC.toInt64 < (0 : Int64) + b1) := by rw [takeE, takeC (by omega) (by omega)]; omega
      obtain ⟨cq25, kq25, q25a, q25b, q25c⟩ := isOf hZ rfl rE4
      obtain ⟨_, _, ⟨T25, L25, k25, n25⟩, -, X25, ⟨Lc25, hQ25, l25, y25, z25⟩, st25⟩ := X4.virtualBack hx (y := (⟨"stanzabits/xml/Room", "take", "(IJ)Z"⟩ : MethodName)) (z := (⟨"stanzabits/xml/Room", "take", "(IJ)Z"⟩ : MethodName)) hown (mvT hZ (hw _ (List.mem_of_getElem? (i := 29) rfl))) (mvT hZ (hw _ (List.mem_of_getElem? (i := 30) rfl))) (notFace_of_selects (args := #[]) (mvT hZ (hw _ (List.mem_of_getElem? (i := 32) rfl)))) (mvT hZ (hw _ (List.mem_of_getElem? (i := 32) rfl))) (mvT hZ (hw _ (List.mem_of_getElem? (i := 31) rfl))) (by decide) (backOf (W := 0) (rm5f l Z a0 hw [] ob1 a1 b1 ob2 (0 : Int32) (0 : Int64) cE cC T4.heap n0 (Z4) rE4 rF4 rG4 rH4 f4_Exa_1 f4_Fld_2 f4_Fld_3 ne_ob1_ob2 g_ob1 P26) hZ (hw _ (List.mem_of_getElem? (i := 33) rfl)) (hw _ (List.mem_of_getElem? (i := 4) rfl)) (by decide) (by decide)) q25a q25c (g := (mkF m 89 #[.val (.int p0), .val (.int p1), .val (.int p2), .val (.long q3), .second, .val (.int p4), .val (.long q5), .second, .val (.int cE), .val (.int cC), .val (.int a1), .val (.long b1), .second, .val (.int a2), .val (.long b2), .second, .val (.ref ob1), .val (.int (0 : Int32)), .unset, .unset, .unset, .unset, .unset, .unset, .unset, .unset, .unset, .unset] [(.long b1), (.int a1), (.ref ob1)])) rfl (by rw [hml]; rfl) (Steps.refl _) (argsL := [(.int a1), (.long b1)]) (rest := []) (lenOf pd0_2 rfl) rfl (by show 2 * 0 + _ ≤ _; exact Nat.le_of_eq rfl) (hb hby at_89) (fun _ _ => ⟨rfl, rfl, (by decide : 2 + 0 ≤ _), (by decide : 5 + 0 ≤ _)⟩)
      dsimp only [Pt.U, Pt.locs, Pt.cells, Pt.slots] at X25 l25 y25 z25 st25 hQ25
      subst l25 y25 z25
      obtain ⟨rfl, N25q, eq25⟩ := hQ25
      have N25 := Fr.app N4 N25q
      refine Runs.trans st25 ?_
      show Runs _ _ _ _ T25 (mkF m 92 #[.val (.int p0), .val (.int p1), .val (.int p2), .val (.long q3), .second, .val (.int p4), .val (.long q5), .second, .val (.int cE), .val (.int cC), .val (.int a1), .val (.long b1), .second, .val (.int a2), .val (.long b2), .second, .val (.ref ob1), .val (.int (0 : Int32)), .unset, .unset, .unset, .unset, .unset, .unset, .unset, .unset, .unset, .unset] [(.int (0 : Int32))])
      refine Runs.back (fun t_ k_ => XS.istore X25.here hx rfl (hb hby at_92) rfl (l' := #[.val (.int p0), .val (.int p1), .val (.int p2), .val (.long q3), .second, .val (.int p4), .val (.long q5), .second, .val (.int cE), .val (.int cC), .val (.int a1), .val (.long b1), .second, .val (.int a2), .val (.long b2), .second, .val (.ref ob1), .val (.int (0 : Int32)), .val (.int (0 : Int32)), .unset, .unset, .unset, .unset, .unset, .unset, .unset, .unset, .unset]) rfl k_) ?_
      show Runs _ _ _ _ T25 (mkF m 94 #[.val (.int p0), .val (.int p1), .val (.int p2), .val (.long q3), .second, .val (.int p4), .val (.long q5), .second, .val (.int cE), .val (.int cC), .val (.int a1), .val (.long b1), .second, .val (.int a2), .val (.long b2), .second, .val (.ref ob1), .val (.int (0 : Int32)), .val (.int (0 : Int32)), .unset, .unset, .unset, .unset, .unset, .unset, .unset, .unset, .unset] [])
      refine Runs.back (fun t_ k_ => XS.lconst X25.here hx rfl (hb hby at_94) k_) ?_
      show Runs _ _ _ _ T25 (mkF m 95 #[.val (.int p0), .val (.int p1), .val (.int p2), .val (.long q3), .second, .val (.int p4), .val (.long q5), .second, .val (.int cE), .val (.int cC), .val (.int a1), .val (.long b1), .second, .val (.int a2), .val (.long b2), .second, .val (.ref ob1), .val (.int (0 : Int32)), .val (.int (0 : Int32)), .unset, .unset, .unset, .unset, .unset, .unset, .unset, .unset, .unset] [(.long (0 : Int64))])
      refine Runs.back (fun t_ k_ => XS.lstore X25.here hx rfl (hb hby at_95) rfl (l' := #[.val (.int p0), .val (.int p1), .val (.int p2), .val (.long q3), .second, .val (.int p4), .val (.long q5), .second, .val (.int cE), .val (.int cC), .val (.int a1), .val (.long b1), .second, .val (.int a2), .val (.long b2), .second, .val (.ref ob1), .val (.int (0 : Int32)), .val (.int (0 : Int32)), .val (.long (0 : Int64)), .second, .unset, .unset, .unset, .unset, .unset, .unset, .unset]) rfl k_) ?_
      show Runs _ _ _ _ T25 (mkF m 97 #[.val (.int p0), .val (.int p1), .val (.int p2), .val (.long q3), .second, .val (.int p4), .val (.long q5), .second, .val (.int cE), .val (.int cC), .val (.int a1), .val (.long b1), .second, .val (.int a2), .val (.long b2), .second, .val (.ref ob1), .val (.int (0 : Int32)), .val (.int (0 : Int32)), .val (.long (0 : Int64)), .second, .unset, .unset, .unset, .unset, .unset, .unset, .unset] [])
      refine Runs.back (fun t_ k_ => XS.lconst X25.here hx rfl (hb hby at_97) k_) ?_
      show Runs _ _ _ _ T25 (mkF m 98 #[.val (.int p0), .val (.int p1), .val (.int p2), .val (.long q3), .second, .val (.int p4), .val (.long q5), .second, .val (.int cE), .val (.int cC), .val (.int a1), .val (.long b1), .second, .val (.int a2), .val (.long b2), .second, .val (.ref ob1), .val (.int (0 : Int32)), .val (.int (0 : Int32)), .val (.long (0 : Int64)), .second, .unset, .unset, .unset, .unset, .unset, .unset, .unset] [(.long (0 : Int64))])
      refine Runs.back (fun t_ k_ => XS.lstore X25.here hx rfl (hb hby at_98) rfl (l' := #[.val (.int p0), .val (.int p1), .val (.int p2), .val (.long q3), .second, .val (.int p4), .val (.long q5), .second, .val (.int cE), .val (.int cC), .val (.int a1), .val (.long b1), .second, .val (.int a2), .val (.long b2), .second, .val (.ref ob1), .val (.int (0 : Int32)), .val (.int (0 : Int32)), .val (.long (0 : Int64)), .second, .val (.long (0 : Int64)), .second, .unset, .unset, .unset, .unset, .unset]) rfl k_) ?_
      show Runs _ _ _ _ T25 (mkF m 100 #[.val (.int p0), .val (.int p1), .val (.int p2), .val (.long q3), .second, .val (.int p4), .val (.long q5), .second, .val (.int cE), .val (.int cC), .val (.int a1), .val (.long b1), .second, .val (.int a2), .val (.long b2), .second, .val (.ref ob1), .val (.int (0 : Int32)), .val (.int (0 : Int32)), .val (.long (0 : Int64)), .second, .val (.long (0 : Int64)), .second, .unset, .unset, .unset, .unset, .unset] [])
      refine Runs.back (fun t_ k_ => XS.iload X25.here hx rfl (hb hby at_100) rfl k_) ?_
      show Runs _ _ _ _ T25 (mkF m 102 #[.val (.int p0), .val (.int p1), .val (.int p2), .val (.long q3), .second, .val (.int p4), .val (.long q5), .second, .val (.int cE), .val (.int cC), .val (.int a1), .val (.long b1), .second, .val (.int a2), .val (.long b2), .second, .val (.ref ob1), .val (.int (0 : Int32)), .val (.int (0 : Int32)), .val (.long (0 : Int64)), .second, .val (.long (0 : Int64)), .second, .unset, .unset, .unset, .unset, .unset] [(.int (0 : Int32))])
      refine Runs.back (fun t_ k_ => XS.ifYes X25.here hx rfl (pc0 := 102) (pc' := 114) rfl (hb hby at_102) rfl ((if0 _ _).trans (teq (show (0 : Int32) = (0 : Int32) from rfl)).1) (by decide) (by decide) k_) ?_
      show Runs _ _ _ _ T25 (mkF m 114 #[.val (.int p0), .val (.int p1), .val (.int p2), .val (.long q3), .second, .val (.int p4), .val (.long q5), .second, .val (.int cE), .val (.int cC), .val (.int a1), .val (.long b1), .second, .val (.int a2), .val (.long b2), .second, .val (.ref ob1), .val (.int (0 : Int32)), .val (.int (0 : Int32)), .val (.long (0 : Int64)), .second, .val (.long (0 : Int64)), .second, .unset, .unset, .unset, .unset, .unset] [])
      refine Runs.join (α := Int32) (P := fun whW2 => whW2 = if ¬ (cE.toInt64) < ((0 : Int64) + (a2.toInt64)) ∧ ¬ (cC.toInt64) < ((0 : Int64) + b2) then (1 : Int32) else (0 : Int32)) (F := fun whW2 => (mkF m 146 #[.val (.int p0), .val (.int p1), .val (.int p2), .val (.long q3), .second, .val (.int p4), .val (.long q5), .second, .val (.int cE), .val (.int cC), .val (.int a1), .val (.long b1), .second, .val (.int a2), .val (.long b2), .second, .val (.ref ob1), .val (.int (0 : Int32)), .val (.int (0 : Int32)), .val (.long (0 : Int64)), .second, .val (.long (0 : Int64)), .second, .val (.int whW2), .unset, .unset, .unset, .unset] [])) ?_ ?_
      · rintro whW2 ehW2
        show Runs _ _ _ _ T25 (mkF m 146 #[.val (.int p0), .val (.int p1), .val (.int p2), .val (.long q3), .second, .val (.int p4), .val (.long q5), .second, .val (.int cE), .val (.int cC), .val (.int a1), .val (.long b1), .second, .val (.int a2), .val (.long b2), .second, .val (.ref ob1), .val (.int (0 : Int32)), .val (.int (0 : Int32)), .val (.long (0 : Int64)), .second, .val (.long (0 : Int64)), .second, .val (.int whW2), .unset, .unset, .unset, .unset] [])
        by_cases hW2 : ¬ (cE.toInt64) < ((0 : Int64) + (a2.toInt64)) ∧ ¬ (cC.toInt64) < ((0 : Int64) + b2)
        · obtain rfl : whW2 = (1 : Int32) := by rw [ehW2, if_pos hW2]
          show Runs _ _ _ _ T25 (mkF m 146 #[.val (.int p0), .val (.int p1), .val (.int p2), .val (.long q3), .second, .val (.int p4), .val (.long q5), .second, .val (.int cE), .val (.int cC), .val (.int a1), .val (.long b1), .second, .val (.int a2), .val (.long b2), .second, .val (.ref ob1), .val (.int (0 : Int32)), .val (.int (0 : Int32)), .val (.long (0 : Int64)), .second, .val (.long (0 : Int64)), .second, .val (.int (1 : Int32)), .unset, .unset, .unset, .unset] [])
          refine Runs.back (fun t_ k_ => XS.aload X25.here hx rfl (hb hby at_146) rfl rfl k_) ?_
          show Runs _ _ _ _ T25 (mkF m 148 #[.val (.int p0), .val (.int p1), .val (.int p2), .val (.long q3), .second, .val (.int p4), .val (.long q5), .second, .val (.int cE), .val (.int cC), .val (.int a1), .val (.long b1), .second, .val (.int a2), .val (.long b2), .second, .val (.ref ob1), .val (.int (0 : Int32)), .val (.int (0 : Int32)), .val (.long (0 : Int64)), .second, .val (.long (0 : Int64)), .second, .val (.int (1 : Int32)), .unset, .unset, .unset, .unset] [(.ref ob1)])
          refine Runs.back (fun t_ k_ => XS.iload X25.here hx rfl (hb hby at_148) rfl k_) ?_
          show Runs _ _ _ _ T25 (mkF m 150 #[.val (.int p0), .val (.int p1), .val (.int p2), .val (.long q3), .second, .val (.int p4), .val (.long q5), .second, .val (.int cE), .val (.int cC), .val (.int a1), .val (.long b1), .second, .val (.int a2), .val (.long b2), .second, .val (.ref ob1), .val (.int (0 : Int32)), .val (.int (0 : Int32)), .val (.long (0 : Int64)), .second, .val (.long (0 : Int64)), .second, .val (.int (1 : Int32)), .unset, .unset, .unset, .unset] [(.int a2), (.ref ob1)])
          refine Runs.back (fun t_ k_ => XS.lload X25.here hx rfl (hb hby at_150) rfl k_) ?_
          show Runs _ _ _ _ T25 (mkF m 152 #[.val (.int p0), .val (.int p1), .val (.int p2), .val (.long q3), .second, .val (.int p4), .val (.long q5), .second, .val (.int cE), .val (.int cC), .val (.int a1), .val (.long b1), .second, .val (.int a2), .val (.long b2), .second, .val (.ref ob1), .val (.int (0 : Int32)), .val (.int (0 : Int32)), .val (.long (0 : Int64)), .second, .val (.long (0 : Int64)), .second, .val (.int (1 : Int32)), .unset, .unset, .unset, .unset] [(.long b2), (.int a2), (.ref ob1)])
          have sE : ((0 : Int64) + (a2.toInt64)).toInt = ((0 : Int64)).toInt + (a2.toInt64).toInt := add64 (by omega) (by omega)
          have sC : ((0 : Int64) + b2).toInt = ((0 : Int64)).toInt + b2.toInt := add64 (by omega) (by omega)
          have iW2 := hW2
          rw [ltl, ltl] at iW2
          have P28 : (¬ cE.toInt64 < (0 : Int32).toInt64 + a2.toInt64 ∧ ¬ cC.toInt64 < (0 : Int64) + b2) := by rw [takeE, takeC (by omega) (by omega)]; omega
          have fe28 : ((0 : Int32) + a2).toInt = ((0 : Int32)).toInt + (a2).toInt := add32 (by omega) (by omega)
          have fc28 : ((0 : Int64) + b2).toInt = ((0 : Int64)).toInt + (b2).toInt := add64 (by omega) (by omega)
          obtain ⟨cq27, kq27, q27a, q27b, q27c⟩ := isOf hZ eq25 rE4
          obtain ⟨_, _, ⟨T27, L27, k27, n27⟩, -, X27, ⟨Lc27, hQ27, l27, y27, z27⟩, st27⟩ := X25.virtualBack hx (y := (⟨"stanzabits/xml/Room", "take", "(IJ)Z"⟩ : MethodName)) (z := (⟨"stanzabits/xml/Room", "take", "(IJ)Z"⟩ : MethodName)) hown (mvT hZ (hw _ (List.mem_of_getElem? (i := 29) rfl))) (mvT hZ (hw _ (List.mem_of_getElem? (i := 30) rfl))) (notFace_of_selects (args := #[]) (mvT hZ (hw _ (List.mem_of_getElem? (i := 32) rfl)))) (mvT hZ (hw _ (List.mem_of_getElem? (i := 32) rfl))) (mvT hZ (hw _ (List.mem_of_getElem? (i := 31) rfl))) (by decide) (backOf (W := 0) (rm5t l Z a0 hw [] ob1 a2 b2 ob2 (0 : Int32) (0 : Int64) cE cC T4.heap n0 (Z4) rE4 rF4 rG4 rH4 f4_Exa_1 f4_Fld_2 f4_Fld_3 ne_ob1_ob2 g_ob1 P28.1 P28.2) hZ (hw _ (List.mem_of_getElem? (i := 33) rfl)) (hw _ (List.mem_of_getElem? (i := 4) rfl)) (by decide) (by decide)) q27a q27c (g := (mkF m 152 #[.val (.int p0), .val (.int p1), .val (.int p2), .val (.long q3), .second, .val (.int p4), .val (.long q5), .second, .val (.int cE), .val (.int cC), .val (.int a1), .val (.long b1), .second, .val (.int a2), .val (.long b2), .second, .val (.ref ob1), .val (.int (0 : Int32)), .val (.int (0 : Int32)), .val (.long (0 : Int64)), .second, .val (.long (0 : Int64)), .second, .val (.int (1 : Int32)), .unset, .unset, .unset, .unset] [(.long b2), (.int a2), (.ref ob1)])) rfl (by rw [hml]; rfl) (Steps.refl _) (argsL := [(.int a2), (.long b2)]) (rest := []) (lenOf pd0_2 rfl) rfl (by show 2 * 0 + _ ≤ _; exact Nat.le_of_eq rfl) (hb hby at_152) (fun _ _ => ⟨rfl, eq25, (by decide : 2 + 0 ≤ _), (by decide : 5 + 0 ≤ _)⟩)
          dsimp only [Pt.U, Pt.locs, Pt.cells, Pt.slots] at X27 l27 y27 z27 st27 hQ27
          subst l27 y27 z27
          obtain ⟨rfl, N27q, K27, rE27, rF27, rG27, rH27⟩ := hQ27
          have N27 := Fr.app N25 N27q
          have f27_Exa_0 : Exa Z T27.heap ob2 "stanzabits/xml/Room$Size" := f4_Exa_1.keep K27
          have f27_Fld_1 : Fld Z T27.heap ob2 "stanzabits/xml/Room$Size" "entries" "I" (.int cE) := f4_Fld_2.keep K27 (ninS (Ne.symm ne_ob1_ob2) nin0)
          have f27_Fld_2 : Fld Z T27.heap ob2 "stanzabits/xml/Room$Size" "chars" "I" (.int cC) := f4_Fld_3.keep K27 (ninS (Ne.symm ne_ob1_ob2) nin0)
          have f27_Exa_3 : Exa Z T27.heap ob1 "stanzabits/xml/Room" := rE4.keep K27
          have Z27 : n0 ≤ T27.heap.size := Nat.le_trans (Z4) K27.1
          refine Runs.trans st27 ?_
          show Runs _ _ _ _ T27 (mkF m 155 #[.val (.int p0), .val (.int p1), .val (.int p2), .val (.long q3), .second, .val (.int p4), .val (.long q5), .second, .val (.int cE), .val (.int cC), .val (.int a1), .val (.long b1), .second, .val (.int a2), .val (.long b2), .second, .val (.ref ob1), .val (.int (0 : Int32)), .val (.int (0 : Int32)), .val (.long (0 : Int64)), .second, .val (.long (0 : Int64)), .second, .val (.int (1 : Int32)), .unset, .unset, .unset, .unset] [(.int (1 : Int32))])
          refine Runs.back (fun t_ k_ => XS.istore X27.here hx rfl (hb hby at_155) rfl (l' := #[.val (.int p0), .val (.int p1), .val (.int p2), .val (.long q3), .second, .val (.int p4), .val (.long q5), .second, .val (.int cE), .val (.int cC), .val (.int a1), .val (.long b1), .second, .val (.int a2), .val (.long b2), .second, .val (.ref ob1), .val (.int (0 : Int32)), .val (.int (0 : Int32)), .val (.long (0 : Int64)), .second, .val (.long (0 : Int64)), .second, .val (.int (1 : Int32)), .val (.int (1 : Int32)), .unset, .unset, .unset]) rfl k_) ?_
          show Runs _ _ _ _ T27 (mkF m 157 #[.val (.int p0), .val (.int p1), .val (.int p2), .val (.long q3), .second, .val (.int p4), .val (.long q5), .second, .val (.int cE), .val (.int cC), .val (.int a1), .val (.long b1), .second, .val (.int a2), .val (.long b2), .second, .val (.ref ob1), .val (.int (0 : Int32)), .val (.int (0 : Int32)), .val (.long (0 : Int64)), .second, .val (.long (0 : Int64)), .second, .val (.int (1 : Int32)), .val (.int (1 : Int32)), .unset, .unset, .unset] [])
          refine Runs.back (fun t_ k_ => XS.iload X27.here hx rfl (hb hby at_157) rfl k_) ?_
          show Runs _ _ _ _ T27 (mkF m 159 #[.val (.int p0), .val (.int p1), .val (.int p2), .val (.long q3), .second, .val (.int p4), .val (.long q5), .second, .val (.int cE), .val (.int cC), .val (.int a1), .val (.long b1), .second, .val (.int a2), .val (.long b2), .second, .val (.ref ob1), .val (.int (0 : Int32)), .val (.int (0 : Int32)), .val (.long (0 : Int64)), .second, .val (.long (0 : Int64)), .second, .val (.int (1 : Int32)), .val (.int (1 : Int32)), .unset, .unset, .unset] [(.int (1 : Int32))])
          refine Runs.back (fun t_ k_ => XS.ifNo X27.here hx rfl (hb hby at_159) rfl ((if0 _ _).trans (feq (show ¬ ((1 : Int32) = (0 : Int32)) from (by decide))).1) k_) ?_
          show Runs _ _ _ _ T27 (mkF m 162 #[.val (.int p0), .val (.int p1), .val (.int p2), .val (.long q3), .second, .val (.int p4), .val (.long q5), .second, .val (.int cE), .val (.int cC), .val (.int a1), .val (.long b1), .second, .val (.int a2), .val (.long b2), .second, .val (.ref ob1), .val (.int (0 : Int32)), .val (.int (0 : Int32)), .val (.long (0 : Int64)), .second, .val (.long (0 : Int64)), .second, .val (.int (1 : Int32)), .val (.int (1 : Int32)), .unset, .unset, .unset] [])
          refine Runs.back (fun t_ k_ => XS.lload X27.here hx rfl (hb hby at_162) rfl k_) ?_
          show Runs _ _ _ _ T27 (mkF m 164 #[.val (.int p0), .val (.int p1), .val (.int p2), .val (.long q3), .second, .val (.int p4), .val (.long q5), .second, .val (.int cE), .val (.int cC), .val (.int a1), .val (.long b1), .second, .val (.int a2), .val (.long b2), .second, .val (.ref ob1), .val (.int (0 : Int32)), .val (.int (0 : Int32)), .val (.long (0 : Int64)), .second, .val (.long (0 : Int64)), .second, .val (.int (1 : Int32)), .val (.int (1 : Int32)), .unset, .unset, .unset] [(.long (0 : Int64))])
          refine Runs.back (fun t_ k_ => XS.iload X27.here hx rfl (hb hby at_164) rfl k_) ?_
          show Runs _ _ _ _ T27 (mkF m 166 #[.val (.int p0), .val (.int p1), .val (.int p2), .val (.long q3), .second, .val (.int p4), .val (.long q5), .second, .val (.int cE), .val (.int cC), .val (.int a1), .val (.long b1), .second, .val (.int a2), .val (.long b2), .second, .val (.ref ob1), .val (.int (0 : Int32)), .val (.int (0 : Int32)), .val (.long (0 : Int64)), .second, .val (.long (0 : Int64)), .second, .val (.int (1 : Int32)), .val (.int (1 : Int32)), .unset, .unset, .unset] [(.int a2), (.long (0 : Int64))])
          refine Runs.back (fun t_ k_ => XS.i2l X27.here hx rfl (hb hby at_166) rfl k_) ?_
          show Runs _ _ _ _ T27 (mkF m 167 #[.val (.int p0), .val (.int p1), .val (.int p2), .val (.long q3), .second, .val (.int p4), .val (.long q5), .second, .val (.int cE), .val (.int cC), .val (.int a1), .val (.long b1), .second, .val (.int a2), .val (.long b2), .second, .val (.ref ob1), .val (.int (0 : Int32)), .val (.int (0 : Int32)), .val (.long (0 : Int64)), .second, .val (.long (0 : Int64)), .second, .val (.int (1 : Int32)), .val (.int (1 : Int32)), .unset, .unset, .unset] [(.long (a2.toInt64)), (.long (0 : Int64))])
          refine Runs.back (fun t_ k_ => XS.ladd X27.here hx rfl (hb hby at_167) rfl k_) ?_
          show Runs _ _ _ _ T27 (mkF m 168 #[.val (.int p0), .val (.int p1), .val (.int p2), .val (.long q3), .second, .val (.int p4), .val (.long q5), .second, .val (.int cE), .val (.int cC), .val (.int a1), .val (.long b1), .second, .val (.int a2), .val (.long b2), .second, .val (.ref ob1), .val (.int (0 : Int32)), .val (.int (0 : Int32)), .val (.long (0 : Int64)), .second, .val (.long (0 : Int64)), .second, .val (.int (1 : Int32)), .val (.int (1 : Int32)), .unset, .unset, .unset] [(.long ((0 : Int64) + (a2.toInt64)))])
          refine Runs.back (fun t_ k_ => XS.lstore X27.here hx rfl (hb hby at_168) rfl (l' := #[.val (.int p0), .val (.int p1), .val (.int p2), .val (.long q3), .second, .val (.int p4), .val (.long q5), .second, .val (.int cE), .val (.int cC), .val (.int a1), .val (.long b1), .second, .val (.int a2), .val (.long b2), .second, .val (.ref ob1), .val (.int (0 : Int32)), .val (.int (0 : Int32)), .val (.long ((0 : Int64) + (a2.toInt64))), .second, .val (.long (0 : Int64)), .second, .val (.int (1 : Int32)), .val (.int (1 : Int32)), .unset, .unset, .unset]) rfl k_) ?_
          show Runs _ _ _ _ T27 (mkF m 170 #[.val (.int p0), .val (.int p1), .val (.int p2), .val (.long q3), .second, .val (.int p4), .val (.long q5), .second, .val (.int cE), .val (.int cC), .val (.int a1), .val (.long b1), .second, .val (.int a2), .val (.long b2), .second, .val (.ref ob1), .val (.int (0 : Int32)), .val (.int (0 : Int32)), .val (.long ((0 : Int64) + (a2.toInt64))), .second, .val (.long (0 : Int64)), .second, .val (.int (1 : Int32)), .val (.int (1 : Int32)), .unset, .unset, .unset] [])
          refine Runs.back (fun t_ k_ => XS.lload X27.here hx rfl (hb hby at_170) rfl k_) ?_
          show Runs _ _ _ _ T27 (mkF m 172 #[.val (.int p0), .val (.int p1), .val (.int p2), .val (.long q3), .second, .val (.int p4), .val (.long q5), .second, .val (.int cE), .val (.int cC), .val (.int a1), .val (.long b1), .second, .val (.int a2), .val (.long b2), .second, .val (.ref ob1), .val (.int (0 : Int32)), .val (.int (0 : Int32)), .val (.long ((0 : Int64) + (a2.toInt64))), .second, .val (.long (0 : Int64)), .second, .val (.int (1 : Int32)), .val (.int (1 : Int32)), .unset, .unset, .unset] [(.long (0 : Int64))])
          refine Runs.back (fun t_ k_ => XS.lload X27.here hx rfl (hb hby at_172) rfl k_) ?_
          show Runs _ _ _ _ T27 (mkF m 174 #[.val (.int p0), .val (.int p1), .val (.int p2), .val (.long q3), .second, .val (.int p4), .val (.long q5), .second, .val (.int cE), .val (.int cC), .val (.int a1), .val (.long b1), .second, .val (.int a2), .val (.long b2), .second, .val (.ref ob1), .val (.int (0 : Int32)), .val (.int (0 : Int32)), .val (.long ((0 : Int64) + (a2.toInt64))), .second, .val (.long (0 : Int64)), .second, .val (.int (1 : Int32)), .val (.int (1 : Int32)), .unset, .unset, .unset] [(.long b2), (.long (0 : Int64))])
          refine Runs.back (fun t_ k_ => XS.ladd X27.here hx rfl (hb hby at_174) rfl k_) ?_
          show Runs _ _ _ _ T27 (mkF m 175 #[.val (.int p0), .val (.int p1), .val (.int p2), .val (.long q3), .second, .val (.int p4), .val (.long q5), .second, .val (.int cE), .val (.int cC), .val (.int a1), .val (.long b1), .second, .val (.int a2), .val (.long b2), .second, .val (.ref ob1), .val (.int (0 : Int32)), .val (.int (0 : Int32)), .val (.long ((0 : Int64) + (a2.toInt64))), .second, .val (.long (0 : Int64)), .second, .val (.int (1 : Int32)), .val (.int (1 : Int32)), .unset, .unset, .unset] [(.long ((0 : Int64) + b2))])
          refine Runs.back (fun t_ k_ => XS.lstore X27.here hx rfl (hb hby at_175) rfl (l' := #[.val (.int p0), .val (.int p1), .val (.int p2), .val (.long q3), .second, .val (.int p4), .val (.long q5), .second, .val (.int cE), .val (.int cC), .val (.int a1), .val (.long b1), .second, .val (.int a2), .val (.long b2), .second, .val (.ref ob1), .val (.int (0 : Int32)), .val (.int (0 : Int32)), .val (.long ((0 : Int64) + (a2.toInt64))), .second, .val (.long ((0 : Int64) + b2)), .second, .val (.int (1 : Int32)), .val (.int (1 : Int32)), .unset, .unset, .unset]) rfl k_) ?_
          show Runs _ _ _ _ T27 (mkF m 177 #[.val (.int p0), .val (.int p1), .val (.int p2), .val (.long q3), .second, .val (.int p4), .val (.long q5), .second, .val (.int cE), .val (.int cC), .val (.int a1), .val (.long b1), .second, .val (.int a2), .val (.long b2), .second, .val (.ref ob1), .val (.int (0 : Int32)), .val (.int (0 : Int32)), .val (.long ((0 : Int64) + (a2.toInt64))), .second, .val (.long ((0 : Int64) + b2)), .second, .val (.int (1 : Int32)), .val (.int (1 : Int32)), .unset, .unset, .unset] [])
          refine Runs.back (fun t_ k_ => XS.aload X27.here hx rfl (hb hby at_177) rfl rfl k_) ?_
          show Runs _ _ _ _ T27 (mkF m 179 #[.val (.int p0), .val (.int p1), .val (.int p2), .val (.long q3), .second, .val (.int p4), .val (.long q5), .second, .val (.int cE), .val (.int cC), .val (.int a1), .val (.long b1), .second, .val (.int a2), .val (.long b2), .second, .val (.ref ob1), .val (.int (0 : Int32)), .val (.int (0 : Int32)), .val (.long ((0 : Int64) + (a2.toInt64))), .second, .val (.long ((0 : Int64) + b2)), .second, .val (.int (1 : Int32)), .val (.int (1 : Int32)), .unset, .unset, .unset] [(.ref ob1)])
          refine Runs.back (fun t_ k_ => XS.iload X27.here hx rfl (hb hby at_179) rfl k_) ?_
          show Runs _ _ _ _ T27 (mkF m 181 #[.val (.int p0), .val (.int p1), .val (.int p2), .val (.long q3), .second, .val (.int p4), .val (.long q5), .second, .val (.int cE), .val (.int cC), .val (.int a1), .val (.long b1), .second, .val (.int a2), .val (.long b2), .second, .val (.ref ob1), .val (.int (0 : Int32)), .val (.int (0 : Int32)), .val (.long ((0 : Int64) + (a2.toInt64))), .second, .val (.long ((0 : Int64) + b2)), .second, .val (.int (1 : Int32)), .val (.int (1 : Int32)), .unset, .unset, .unset] [(.int cE), (.ref ob1)])
          refine Runs.back (fun t_ k_ => XS.i2l X27.here hx rfl (hb hby at_181) rfl k_) ?_
          show Runs _ _ _ _ T27 (mkF m 182 #[.val (.int p0), .val (.int p1), .val (.int p2), .val (.long q3), .second, .val (.int p4), .val (.long q5), .second, .val (.int cE), .val (.int cC), .val (.int a1), .val (.long b1), .second, .val (.int a2), .val (.long b2), .second, .val (.ref ob1), .val (.int (0 : Int32)), .val (.int (0 : Int32)), .val (.long ((0 : Int64) + (a2.toInt64))), .second, .val (.long ((0 : Int64) + b2)), .second, .val (.int (1 : Int32)), .val (.int (1 : Int32)), .unset, .unset, .unset] [(.long (cE.toInt64)), (.ref ob1)])
          refine Runs.back (fun t_ k_ => XS.lload X27.here hx rfl (hb hby at_182) rfl k_) ?_
          show Runs _ _ _ _ T27 (mkF m 184 #[.val (.int p0), .val (.int p1), .val (.int p2), .val (.long q3), .second, .val (.int p4), .val (.long q5), .second, .val (.int cE), .val (.int cC), .val (.int a1), .val (.long b1), .second, .val (.int a2), .val (.long b2), .second, .val (.ref ob1), .val (.int (0 : Int32)), .val (.int (0 : Int32)), .val (.long ((0 : Int64) + (a2.toInt64))), .second, .val (.long ((0 : Int64) + b2)), .second, .val (.int (1 : Int32)), .val (.int (1 : Int32)), .unset, .unset, .unset] [(.long ((0 : Int64) + (a2.toInt64))), (.long (cE.toInt64)), (.ref ob1)])
          refine Runs.back (fun t_ k_ => XS.lsub X27.here hx rfl (hb hby at_184) rfl k_) ?_
          show Runs _ _ _ _ T27 (mkF m 185 #[.val (.int p0), .val (.int p1), .val (.int p2), .val (.long q3), .second, .val (.int p4), .val (.long q5), .second, .val (.int cE), .val (.int cC), .val (.int a1), .val (.long b1), .second, .val (.int a2), .val (.long b2), .second, .val (.ref ob1), .val (.int (0 : Int32)), .val (.int (0 : Int32)), .val (.long ((0 : Int64) + (a2.toInt64))), .second, .val (.long ((0 : Int64) + b2)), .second, .val (.int (1 : Int32)), .val (.int (1 : Int32)), .unset, .unset, .unset] [(.long ((cE.toInt64) - ((0 : Int64) + (a2.toInt64)))), (.ref ob1)])
          refine Runs.back (fun t_ k_ => XS.l2i X27.here hx rfl (hb hby at_185) rfl k_) ?_
          show Runs _ _ _ _ T27 (mkF m 186 #[.val (.int p0), .val (.int p1), .val (.int p2), .val (.long q3), .second, .val (.int p4), .val (.long q5), .second, .val (.int cE), .val (.int cC), .val (.int a1), .val (.long b1), .second, .val (.int a2), .val (.long b2), .second, .val (.ref ob1), .val (.int (0 : Int32)), .val (.int (0 : Int32)), .val (.long ((0 : Int64) + (a2.toInt64))), .second, .val (.long ((0 : Int64) + b2)), .second, .val (.int (1 : Int32)), .val (.int (1 : Int32)), .unset, .unset, .unset] [(.int (((cE.toInt64) - ((0 : Int64) + (a2.toInt64))).toInt32)), (.ref ob1)])
          refine Runs.back (fun t_ k_ => XS.iload X27.here hx rfl (hb hby at_186) rfl k_) ?_
          show Runs _ _ _ _ T27 (mkF m 188 #[.val (.int p0), .val (.int p1), .val (.int p2), .val (.long q3), .second, .val (.int p4), .val (.long q5), .second, .val (.int cE), .val (.int cC), .val (.int a1), .val (.long b1), .second, .val (.int a2), .val (.long b2), .second, .val (.ref ob1), .val (.int (0 : Int32)), .val (.int (0 : Int32)), .val (.long ((0 : Int64) + (a2.toInt64))), .second, .val (.long ((0 : Int64) + b2)), .second, .val (.int (1 : Int32)), .val (.int (1 : Int32)), .unset, .unset, .unset] [(.int cC), (.int (((cE.toInt64) - ((0 : Int64) + (a2.toInt64))).toInt32)), (.ref ob1)])
          refine Runs.back (fun t_ k_ => XS.i2l X27.here hx rfl (hb hby at_188) rfl k_) ?_
          show Runs _ _ _ _ T27 (mkF m 189 #[.val (.int p0), .val (.int p1), .val (.int p2), .val (.long q3), .second, .val (.int p4), .val (.long q5), .second, .val (.int cE), .val (.int cC), .val (.int a1), .val (.long b1), .second, .val (.int a2), .val (.long b2), .second, .val (.ref ob1), .val (.int (0 : Int32)), .val (.int (0 : Int32)), .val (.long ((0 : Int64) + (a2.toInt64))), .second, .val (.long ((0 : Int64) + b2)), .second, .val (.int (1 : Int32)), .val (.int (1 : Int32)), .unset, .unset, .unset] [(.long (cC.toInt64)), (.int (((cE.toInt64) - ((0 : Int64) + (a2.toInt64))).toInt32)), (.ref ob1)])
          refine Runs.back (fun t_ k_ => XS.lload X27.here hx rfl (hb hby at_189) rfl k_) ?_
          show Runs _ _ _ _ T27 (mkF m 191 #[.val (.int p0), .val (.int p1), .val (.int p2), .val (.long q3), .second, .val (.int p4), .val (.long q5), .second, .val (.int cE), .val (.int cC), .val (.int a1), .val (.long b1), .second, .val (.int a2), .val (.long b2), .second, .val (.ref ob1), .val (.int (0 : Int32)), .val (.int (0 : Int32)), .val (.long ((0 : Int64) + (a2.toInt64))), .second, .val (.long ((0 : Int64) + b2)), .second, .val (.int (1 : Int32)), .val (.int (1 : Int32)), .unset, .unset, .unset] [(.long ((0 : Int64) + b2)), (.long (cC.toInt64)), (.int (((cE.toInt64) - ((0 : Int64) + (a2.toInt64))).toInt32)), (.ref ob1)])
          refine Runs.back (fun t_ k_ => XS.lsub X27.here hx rfl (hb hby at_191) rfl k_) ?_
          show Runs _ _ _ _ T27 (mkF m 192 #[.val (.int p0), .val (.int p1), .val (.int p2), .val (.long q3), .second, .val (.int p4), .val (.long q5), .second, .val (.int cE), .val (.int cC), .val (.int a1), .val (.long b1), .second, .val (.int a2), .val (.long b2), .second, .val (.ref ob1), .val (.int (0 : Int32)), .val (.int (0 : Int32)), .val (.long ((0 : Int64) + (a2.toInt64))), .second, .val (.long ((0 : Int64) + b2)), .second, .val (.int (1 : Int32)), .val (.int (1 : Int32)), .unset, .unset, .unset] [(.long ((cC.toInt64) - ((0 : Int64) + b2))), (.int (((cE.toInt64) - ((0 : Int64) + (a2.toInt64))).toInt32)), (.ref ob1)])
          have tE : ((cE.toInt64) - ((0 : Int64) + (a2.toInt64))).toInt = (cE.toInt64).toInt - (((0 : Int64) + (a2.toInt64))).toInt := sub64 (by omega) (by omega)
          have tC : ((cC.toInt64) - ((0 : Int64) + b2)).toInt = (cC.toInt64).toInt - (((0 : Int64) + b2)).toInt := sub64 (by omega) (by omega)
          have tI : ((cE.toInt64) - ((0 : Int64) + (a2.toInt64))).toInt32.toInt = ((cE.toInt64) - ((0 : Int64) + (a2.toInt64))).toInt := l2i' (by omega) (by omega)
          have P30 : (¬ cE.toInt64 < ((0 : Int32) + a2).toInt64 + (((cE.toInt64) - ((0 : Int64) + (a2.toInt64))).toInt32).toInt64 ∧ ¬ cC.toInt64 < ((0 : Int64) + b2) + ((cC.toInt64) - ((0 : Int64) + b2))) := by rw [takeE, takeC (by omega) (by omega)]; omega
          have fe30 : (((0 : Int32) + a2) + (((cE.toInt64) - ((0 : Int64) + (a2.toInt64))).toInt32)).toInt = (((0 : Int32) + a2)).toInt + ((((cE.toInt64) - ((0 : Int64) + (a2.toInt64))).toInt32)).toInt := add32 (by omega) (by omega)
          have fc30 : (((0 : Int64) + b2) + ((cC.toInt64) - ((0 : Int64) + b2))).toInt = (((0 : Int64) + b2)).toInt + (((cC.toInt64) - ((0 : Int64) + b2))).toInt := add64 (by omega) (by omega)
          obtain ⟨cq29, kq29, q29a, q29b, q29c⟩ := isOf hZ rfl rE27
          obtain ⟨_, _, ⟨T29, L29, k29, n29⟩, -, X29, ⟨Lc29, hQ29, l29, y29, z29⟩, st29⟩ := X27.virtualBack hx (y := (⟨"stanzabits/xml/Room", "take", "(IJ)Z"⟩ : MethodName)) (z := (⟨"stanzabits/xml/Room", "take", "(IJ)Z"⟩ : MethodName)) hown (mvT hZ (hw _ (List.mem_of_getElem? (i := 29) rfl))) (mvT hZ (hw _ (List.mem_of_getElem? (i := 30) rfl))) (notFace_of_selects (args := #[]) (mvT hZ (hw _ (List.mem_of_getElem? (i := 32) rfl)))) (mvT hZ (hw _ (List.mem_of_getElem? (i := 32) rfl))) (mvT hZ (hw _ (List.mem_of_getElem? (i := 31) rfl))) (by decide) (backOf (W := 0) (rm5t l Z a0 hw [] ob1 (((cE.toInt64) - ((0 : Int64) + (a2.toInt64))).toInt32) ((cC.toInt64) - ((0 : Int64) + b2)) ob2 ((0 : Int32) + a2) ((0 : Int64) + b2) cE cC T27.heap n0 (Z27) rE27 rF27 rG27 rH27 f27_Exa_0 f27_Fld_1 f27_Fld_2 ne_ob1_ob2 g_ob1 P30.1 P30.2) hZ (hw _ (List.mem_of_getElem? (i := 33) rfl)) (hw _ (List.mem_of_getElem? (i := 4) rfl)) (by decide) (by decide)) q29a q29c (g := (mkF m 192 #[.val (.int p0), .val (.int p1), .val (.int p2), .val (.long q3), .second, .val (.int p4), .val (.long q5), .second, .val (.int cE), .val (.int cC), .val (.int a1), .val (.long b1), .second, .val (.int a2), .val (.long b2), .second, .val (.ref ob1), .val (.int (0 : Int32)), .val (.int (0 : Int32)), .val (.long ((0 : Int64) + (a2.toInt64))), .second, .val (.long ((0 : Int64) + b2)), .second, .val (.int (1 : Int32)), .val (.int (1 : Int32)), .unset, .unset, .unset] [(.long ((cC.toInt64) - ((0 : Int64) + b2))), (.int (((cE.toInt64) - ((0 : Int64) + (a2.toInt64))).toInt32)), (.ref ob1)])) rfl (by rw [hml]; rfl) (Steps.refl _) (argsL := [(.int (((cE.toInt64) - ((0 : Int64) + (a2.toInt64))).toInt32)), (.long ((cC.toInt64) - ((0 : Int64) + b2)))]) (rest := []) (lenOf pd0_2 rfl) rfl (by show 2 * 0 + _ ≤ _; exact Nat.le_of_eq rfl) (hb hby at_192) (fun _ _ => ⟨rfl, rfl, (by decide : 2 + 0 ≤ _), (by decide : 5 + 0 ≤ _)⟩)
          dsimp only [Pt.U, Pt.locs, Pt.cells, Pt.slots] at X29 l29 y29 z29 st29 hQ29
          subst l29 y29 z29
          obtain ⟨rfl, N29q, K29, rE29, rF29, rG29, rH29⟩ := hQ29
          have N29 := Fr.app N27 N29q
          have f29_Exa_0 : Exa Z T29.heap ob2 "stanzabits/xml/Room$Size" := f27_Exa_0.keep K29
          have f29_Fld_1 : Fld Z T29.heap ob2 "stanzabits/xml/Room$Size" "entries" "I" (.int cE) := f27_Fld_1.keep K29 (ninS (Ne.symm ne_ob1_ob2) nin0)
          have f29_Fld_2 : Fld Z T29.heap ob2 "stanzabits/xml/Room$Size" "chars" "I" (.int cC) := f27_Fld_2.keep K29 (ninS (Ne.symm ne_ob1_ob2) nin0)
          have f29_Exa_3 : Exa Z T29.heap ob1 "stanzabits/xml/Room" := rE27.keep K29
          have Z29 : n0 ≤ T29.heap.size := Nat.le_trans (Z27) K29.1
          refine Runs.trans st29 ?_
          show Runs _ _ _ _ T29 (mkF m 195 #[.val (.int p0), .val (.int p1), .val (.int p2), .val (.long q3), .second, .val (.int p4), .val (.long q5), .second, .val (.int cE), .val (.int cC), .val (.int a1), .val (.long b1), .second, .val (.int a2), .val (.long b2), .second, .val (.ref ob1), .val (.int (0 : Int32)), .val (.int (0 : Int32)), .val (.long ((0 : Int64) + (a2.toInt64))), .second, .val (.long ((0 : Int64) + b2)), .second, .val (.int (1 : Int32)), .val (.int (1 : Int32)), .unset, .unset, .unset] [(.int (1 : Int32))])
          refine Runs.back (fun t_ k_ => XS.istore X29.here hx rfl (hb hby at_195) rfl (l' := #[.val (.int p0), .val (.int p1), .val (.int p2), .val (.long q3), .second, .val (.int p4), .val (.long q5), .second, .val (.int cE), .val (.int cC), .val (.int a1), .val (.long b1), .second, .val (.int a2), .val (.long b2), .second, .val (.ref ob1), .val (.int (0 : Int32)), .val (.int (0 : Int32)), .val (.long ((0 : Int64) + (a2.toInt64))), .second, .val (.long ((0 : Int64) + b2)), .second, .val (.int (1 : Int32)), .val (.int (1 : Int32)), .val (.int (1 : Int32)), .unset, .unset]) rfl k_) ?_
          show Runs _ _ _ _ T29 (mkF m 197 #[.val (.int p0), .val (.int p1), .val (.int p2), .val (.long q3), .second, .val (.int p4), .val (.long q5), .second, .val (.int cE), .val (.int cC), .val (.int a1), .val (.long b1), .second, .val (.int a2), .val (.long b2), .second, .val (.ref ob1), .val (.int (0 : Int32)), .val (.int (0 : Int32)), .val (.long ((0 : Int64) + (a2.toInt64))), .second, .val (.long ((0 : Int64) + b2)), .second, .val (.int (1 : Int32)), .val (.int (1 : Int32)), .val (.int (1 : Int32)), .unset, .unset] [])
          refine Runs.back (fun t_ k_ => XS.aload X29.here hx rfl (hb hby at_197) rfl rfl k_) ?_
          show Runs _ _ _ _ T29 (mkF m 199 #[.val (.int p0), .val (.int p1), .val (.int p2), .val (.long q3), .second, .val (.int p4), .val (.long q5), .second, .val (.int cE), .val (.int cC), .val (.int a1), .val (.long b1), .second, .val (.int a2), .val (.long b2), .second, .val (.ref ob1), .val (.int (0 : Int32)), .val (.int (0 : Int32)), .val (.long ((0 : Int64) + (a2.toInt64))), .second, .val (.long ((0 : Int64) + b2)), .second, .val (.int (1 : Int32)), .val (.int (1 : Int32)), .val (.int (1 : Int32)), .unset, .unset] [(.ref ob1)])
          refine Runs.back (fun t_ k_ => XS.iconst X29.here hx rfl (hb hby at_199) k_) ?_
          show Runs _ _ _ _ T29 (mkF m 200 #[.val (.int p0), .val (.int p1), .val (.int p2), .val (.long q3), .second, .val (.int p4), .val (.long q5), .second, .val (.int cE), .val (.int cC), .val (.int a1), .val (.long b1), .second, .val (.int a2), .val (.long b2), .second, .val (.ref ob1), .val (.int (0 : Int32)), .val (.int (0 : Int32)), .val (.long ((0 : Int64) + (a2.toInt64))), .second, .val (.long ((0 : Int64) + b2)), .second, .val (.int (1 : Int32)), .val (.int (1 : Int32)), .val (.int (1 : Int32)), .unset, .unset] [(.int (1 : Int32)), (.ref ob1)])
          refine Runs.back (fun t_ k_ => XS.lconst X29.here hx rfl (hb hby at_200) k_) ?_
          show Runs _ _ _ _ T29 (mkF m 201 #[.val (.int p0), .val (.int p1), .val (.int p2), .val (.long q3), .second, .val (.int p4), .val (.long q5), .second, .val (.int cE), .val (.int cC), .val (.int a1), .val (.long b1), .second, .val (.int a2), .val (.long b2), .second, .val (.ref ob1), .val (.int (0 : Int32)), .val (.int (0 : Int32)), .val (.long ((0 : Int64) + (a2.toInt64))), .second, .val (.long ((0 : Int64) + b2)), .second, .val (.int (1 : Int32)), .val (.int (1 : Int32)), .val (.int (1 : Int32)), .unset, .unset] [(.long (0 : Int64)), (.int (1 : Int32)), (.ref ob1)])
          have P32 : ¬ (¬ cE.toInt64 < (((0 : Int32) + a2) + (((cE.toInt64) - ((0 : Int64) + (a2.toInt64))).toInt32)).toInt64 + (1 : Int32).toInt64 ∧ ¬ cC.toInt64 < (((0 : Int64) + b2) + ((cC.toInt64) - ((0 : Int64) + b2))) + (0 : Int64)) := by rw [takeE, takeC (by omega) (by omega)]; omega
          obtain ⟨cq31, kq31, q31a, q31b, q31c⟩ := isOf hZ rfl rE29
          obtain ⟨_, _, ⟨T31, L31, k31, n31⟩, -, X31, ⟨Lc31, hQ31, l31, y31, z31⟩, st31⟩ := X29.virtualBack hx (y := (⟨"stanzabits/xml/Room", "take", "(IJ)Z"⟩ : MethodName)) (z := (⟨"stanzabits/xml/Room", "take", "(IJ)Z"⟩ : MethodName)) hown (mvT hZ (hw _ (List.mem_of_getElem? (i := 29) rfl))) (mvT hZ (hw _ (List.mem_of_getElem? (i := 30) rfl))) (notFace_of_selects (args := #[]) (mvT hZ (hw _ (List.mem_of_getElem? (i := 32) rfl)))) (mvT hZ (hw _ (List.mem_of_getElem? (i := 32) rfl))) (mvT hZ (hw _ (List.mem_of_getElem? (i := 31) rfl))) (by decide) (backOf (W := 0) (rm5f l Z a0 hw [] ob1 (1 : Int32) (0 : Int64) ob2 (((0 : Int32) + a2) + (((cE.toInt64) - ((0 : Int64) + (a2.toInt64))).toInt32)) (((0 : Int64) + b2) + ((cC.toInt64) - ((0 : Int64) + b2))) cE cC T29.heap n0 (Z29) rE29 rF29 rG29 rH29 f29_Exa_0 f29_Fld_1 f29_Fld_2 ne_ob1_ob2 g_ob1 P32) hZ (hw _ (List.mem_of_getElem? (i := 33) rfl)) (hw _ (List.mem_of_getElem? (i := 4) rfl)) (by decide) (by decide)) q31a q31c (g := (mkF m 201 #[.val (.int p0), .val (.int p1), .val (.int p2), .val (.long q3), .second, .val (.int p4), .val (.long q5), .second, .val (.int cE), .val (.int cC), .val (.int a1), .val (.long b1), .second, .val (.int a2), .val (.long b2), .second, .val (.ref ob1), .val (.int (0 : Int32)), .val (.int (0 : Int32)), .val (.long ((0 : Int64) + (a2.toInt64))), .second, .val (.long ((0 : Int64) + b2)), .second, .val (.int (1 : Int32)), .val (.int (1 : Int32)), .val (.int (1 : Int32)), .unset, .unset] [(.long (0 : Int64)), (.int (1 : Int32)), (.ref ob1)])) rfl (by rw [hml]; rfl) (Steps.refl _) (argsL := [(.int (1 : Int32)), (.long (0 : Int64))]) (rest := []) (lenOf pd0_2 rfl) rfl (by show 2 * 0 + _ ≤ _; exact Nat.le_of_eq rfl) (hb hby at_201) (fun _ _ => ⟨rfl, rfl, (by decide : 2 + 0 ≤ _), (by decide : 5 + 0 ≤ _)⟩)
          dsimp only [Pt.U, Pt.locs, Pt.cells, Pt.slots] at X31 l31 y31 z31 st31 hQ31
          subst l31 y31 z31
          obtain ⟨rfl, N31q, eq31⟩ := hQ31
          have N31 := Fr.app N29 N31q
          refine Runs.trans st31 ?_
          show Runs _ _ _ _ T31 (mkF m 204 #[.val (.int p0), .val (.int p1), .val (.int p2), .val (.long q3), .second, .val (.int p4), .val (.long q5), .second, .val (.int cE), .val (.int cC), .val (.int a1), .val (.long b1), .second, .val (.int a2), .val (.long b2), .second, .val (.ref ob1), .val (.int (0 : Int32)), .val (.int (0 : Int32)), .val (.long ((0 : Int64) + (a2.toInt64))), .second, .val (.long ((0 : Int64) + b2)), .second, .val (.int (1 : Int32)), .val (.int (1 : Int32)), .val (.int (1 : Int32)), .unset, .unset] [(.int (0 : Int32))])
          refine Runs.back (fun t_ k_ => XS.istore X31.here hx rfl (hb hby at_204) rfl (l' := #[.val (.int p0), .val (.int p1), .val (.int p2), .val (.long q3), .second, .val (.int p4), .val (.long q5), .second, .val (.int cE), .val (.int cC), .val (.int a1), .val (.long b1), .second, .val (.int a2), .val (.long b2), .second, .val (.ref ob1), .val (.int (0 : Int32)), .val (.int (0 : Int32)), .val (.long ((0 : Int64) + (a2.toInt64))), .second, .val (.long ((0 : Int64) + b2)), .second, .val (.int (1 : Int32)), .val (.int (1 : Int32)), .val (.int (1 : Int32)), .val (.int (0 : Int32)), .unset]) rfl k_) ?_
          show Runs _ _ _ _ T31 (mkF m 206 #[.val (.int p0), .val (.int p1), .val (.int p2), .val (.long q3), .second, .val (.int p4), .val (.long q5), .second, .val (.int cE), .val (.int cC), .val (.int a1), .val (.long b1), .second, .val (.int a2), .val (.long b2), .second, .val (.ref ob1), .val (.int (0 : Int32)), .val (.int (0 : Int32)), .val (.long ((0 : Int64) + (a2.toInt64))), .second, .val (.long ((0 : Int64) + b2)), .second, .val (.int (1 : Int32)), .val (.int (1 : Int32)), .val (.int (1 : Int32)), .val (.int (0 : Int32)), .unset] [])
          refine Runs.back (fun t_ k_ => XS.aload X31.here hx rfl (hb hby at_206) rfl rfl k_) ?_
          show Runs _ _ _ _ T31 (mkF m 208 #[.val (.int p0), .val (.int p1), .val (.int p2), .val (.long q3), .second, .val (.int p4), .val (.long q5), .second, .val (.int cE), .val (.int cC), .val (.int a1), .val (.long b1), .second, .val (.int a2), .val (.long b2), .second, .val (.ref ob1), .val (.int (0 : Int32)), .val (.int (0 : Int32)), .val (.long ((0 : Int64) + (a2.toInt64))), .second, .val (.long ((0 : Int64) + b2)), .second, .val (.int (1 : Int32)), .val (.int (1 : Int32)), .val (.int (1 : Int32)), .val (.int (0 : Int32)), .unset] [(.ref ob1)])
          refine Runs.back (fun t_ k_ => XS.iconst X31.here hx rfl (hb hby at_208) k_) ?_
          show Runs _ _ _ _ T31 (mkF m 209 #[.val (.int p0), .val (.int p1), .val (.int p2), .val (.long q3), .second, .val (.int p4), .val (.long q5), .second, .val (.int cE), .val (.int cC), .val (.int a1), .val (.long b1), .second, .val (.int a2), .val (.long b2), .second, .val (.ref ob1), .val (.int (0 : Int32)), .val (.int (0 : Int32)), .val (.long ((0 : Int64) + (a2.toInt64))), .second, .val (.long ((0 : Int64) + b2)), .second, .val (.int (1 : Int32)), .val (.int (1 : Int32)), .val (.int (1 : Int32)), .val (.int (0 : Int32)), .unset] [(.int (0 : Int32)), (.ref ob1)])
          refine Runs.back (fun t_ k_ => XS.lconst X31.here hx rfl (hb hby at_209) k_) ?_
          show Runs _ _ _ _ T31 (mkF m 210 #[.val (.int p0), .val (.int p1), .val (.int p2), .val (.long q3), .second, .val (.int p4), .val (.long q5), .second, .val (.int cE), .val (.int cC), .val (.int a1), .val (.long b1), .second, .val (.int a2), .val (.long b2), .second, .val (.ref ob1), .val (.int (0 : Int32)), .val (.int (0 : Int32)), .val (.long ((0 : Int64) + (a2.toInt64))), .second, .val (.long ((0 : Int64) + b2)), .second, .val (.int (1 : Int32)), .val (.int (1 : Int32)), .val (.int (1 : Int32)), .val (.int (0 : Int32)), .unset] [(.long (1 : Int64)), (.int (0 : Int32)), (.ref ob1)])
          have P34 : ¬ (¬ cE.toInt64 < (((0 : Int32) + a2) + (((cE.toInt64) - ((0 : Int64) + (a2.toInt64))).toInt32)).toInt64 + (0 : Int32).toInt64 ∧ ¬ cC.toInt64 < (((0 : Int64) + b2) + ((cC.toInt64) - ((0 : Int64) + b2))) + (1 : Int64)) := by rw [takeE, takeC (by omega) (by omega)]; omega
          obtain ⟨cq33, kq33, q33a, q33b, q33c⟩ := isOf hZ eq31 rE29
          obtain ⟨_, _, ⟨T33, L33, k33, n33⟩, -, X33, ⟨Lc33, hQ33, l33, y33, z33⟩, st33⟩ := X31.virtualBack hx (y := (⟨"stanzabits/xml/Room", "take", "(IJ)Z"⟩ : MethodName)) (z := (⟨"stanzabits/xml/Room", "take", "(IJ)Z"⟩ : MethodName)) hown (mvT hZ (hw _ (List.mem_of_getElem? (i := 29) rfl))) (mvT hZ (hw _ (List.mem_of_getElem? (i := 30) rfl))) (notFace_of_selects (args := #[]) (mvT hZ (hw _ (List.mem_of_getElem? (i := 32) rfl)))) (mvT hZ (hw _ (List.mem_of_getElem? (i := 32) rfl))) (mvT hZ (hw _ (List.mem_of_getElem? (i := 31) rfl))) (by decide) (backOf (W := 0) (rm5f l Z a0 hw [] ob1 (0 : Int32) (1 : Int64) ob2 (((0 : Int32) + a2) + (((cE.toInt64) - ((0 : Int64) + (a2.toInt64))).toInt32)) (((0 : Int64) + b2) + ((cC.toInt64) - ((0 : Int64) + b2))) cE cC T29.heap n0 (Z29) rE29 rF29 rG29 rH29 f29_Exa_0 f29_Fld_1 f29_Fld_2 ne_ob1_ob2 g_ob1 P34) hZ (hw _ (List.mem_of_getElem? (i := 33) rfl)) (hw _ (List.mem_of_getElem? (i := 4) rfl)) (by decide) (by decide)) q33a q33c (g := (mkF m 210 #[.val (.int p0), .val (.int p1), .val (.int p2), .val (.long q3), .second, .val (.int p4), .val (.long q5), .second, .val (.int cE), .val (.int cC), .val (.int a1), .val (.long b1), .second, .val (.int a2), .val (.long b2), .second, .val (.ref ob1), .val (.int (0 : Int32)), .val (.int (0 : Int32)), .val (.long ((0 : Int64) + (a2.toInt64))), .second, .val (.long ((0 : Int64) + b2)), .second, .val (.int (1 : Int32)), .val (.int (1 : Int32)), .val (.int (1 : Int32)), .val (.int (0 : Int32)), .unset] [(.long (1 : Int64)), (.int (0 : Int32)), (.ref ob1)])) rfl (by rw [hml]; rfl) (Steps.refl _) (argsL := [(.int (0 : Int32)), (.long (1 : Int64))]) (rest := []) (lenOf pd0_2 rfl) rfl (by show 2 * 0 + _ ≤ _; exact Nat.le_of_eq rfl) (hb hby at_210) (fun _ _ => ⟨rfl, eq31, (by decide : 2 + 0 ≤ _), (by decide : 5 + 0 ≤ _)⟩)
          dsimp only [Pt.U, Pt.locs, Pt.cells, Pt.slots] at X33 l33 y33 z33 st33 hQ33
          subst l33 y33 z33
          obtain ⟨rfl, N33q, eq33⟩ := hQ33
          have N33 := Fr.app N31 N33q
          refine Runs.trans st33 ?_
          show Runs _ _ _ _ T33 (mkF m 213 #[.val (.int p0), .val (.int p1), .val (.int p2), .val (.long q3), .second, .val (.int p4), .val (.long q5), .second, .val (.int cE), .val (.int cC), .val (.int a1), .val (.long b1), .second, .val (.int a2), .val (.long b2), .second, .val (.ref ob1), .val (.int (0 : Int32)), .val (.int (0 : Int32)), .val (.long ((0 : Int64) + (a2.toInt64))), .second, .val (.long ((0 : Int64) + b2)), .second, .val (.int (1 : Int32)), .val (.int (1 : Int32)), .val (.int (1 : Int32)), .val (.int (0 : Int32)), .unset] [(.int (0 : Int32))])
          refine Runs.back (fun t_ k_ => XS.istore X33.here hx rfl (hb hby at_213) rfl (l' := #[.val (.int p0), .val (.int p1), .val (.int p2), .val (.long q3), .second, .val (.int p4), .val (.long q5), .second, .val (.int cE), .val (.int cC), .val (.int a1), .val (.long b1), .second, .val (.int a2), .val (.long b2), .second, .val (.ref ob1), .val (.int (0 : Int32)), .val (.int (0 : Int32)), .val (.long ((0 : Int64) + (a2.toInt64))), .second, .val (.long ((0 : Int64) + b2)), .second, .val (.int (1 : Int32)), .val (.int (1 : Int32)), .val (.int (1 : Int32)), .val (.int (0 : Int32)), .val (.int (0 : Int32))]) rfl k_) ?_
          show Runs _ _ _ _ T33 (mkF m 215 #[.val (.int p0), .val (.int p1), .val (.int p2), .val (.long q3), .second, .val (.int p4), .val (.long q5), .second, .val (.int cE), .val (.int cC), .val (.int a1), .val (.long b1), .second, .val (.int a2), .val (.long b2), .second, .val (.ref ob1), .val (.int (0 : Int32)), .val (.int (0 : Int32)), .val (.long ((0 : Int64) + (a2.toInt64))), .second, .val (.long ((0 : Int64) + b2)), .second, .val (.int (1 : Int32)), .val (.int (1 : Int32)), .val (.int (1 : Int32)), .val (.int (0 : Int32)), .val (.int (0 : Int32))] [])
          refine Runs.back (fun t_ k_ => XS.iload X33.here hx rfl (hb hby at_215) rfl k_) ?_
          show Runs _ _ _ _ T33 (mkF m 217 #[.val (.int p0), .val (.int p1), .val (.int p2), .val (.long q3), .second, .val (.int p4), .val (.long q5), .second, .val (.int cE), .val (.int cC), .val (.int a1), .val (.long b1), .second, .val (.int a2), .val (.long b2), .second, .val (.ref ob1), .val (.int (0 : Int32)), .val (.int (0 : Int32)), .val (.long ((0 : Int64) + (a2.toInt64))), .second, .val (.long ((0 : Int64) + b2)), .second, .val (.int (1 : Int32)), .val (.int (1 : Int32)), .val (.int (1 : Int32)), .val (.int (0 : Int32)), .val (.int (0 : Int32))] [(.int (0 : Int32))])
          refine Runs.back (fun t_ k_ => XS.iload X33.here hx rfl (hb hby at_217) rfl k_) ?_
          show Runs _ _ _ _ T33 (mkF m 219 #[.val (.int p0), .val (.int p1), .val (.int p2), .val (.long q3), .second, .val (.int p4), .val (.long q5), .second, .val (.int cE), .val (.int cC), .val (.int a1), .val (.long b1), .second, .val (.int a2), .val (.long b2), .second, .val (.ref ob1), .val (.int (0 : Int32)), .val (.int (0 : Int32)), .val (.long ((0 : Int64) + (a2.toInt64))), .second, .val (.long ((0 : Int64) + b2)), .second, .val (.int (1 : Int32)), .val (.int (1 : Int32)), .val (.int (1 : Int32)), .val (.int (0 : Int32)), .val (.int (0 : Int32))] [(.int (0 : Int32)), (.int (0 : Int32))])
          refine Runs.back (fun t_ k_ => XS.icmpNo X33.here hx rfl (hb hby at_219) rfl (teq (show (0 : Int32) = (0 : Int32) from rfl)).2 k_) ?_
          show Runs _ _ _ _ T33 (mkF m 222 #[.val (.int p0), .val (.int p1), .val (.int p2), .val (.long q3), .second, .val (.int p4), .val (.long q5), .second, .val (.int cE), .val (.int cC), .val (.int a1), .val (.long b1), .second, .val (.int a2), .val (.long b2), .second, .val (.ref ob1), .val (.int (0 : Int32)), .val (.int (0 : Int32)), .val (.long ((0 : Int64) + (a2.toInt64))), .second, .val (.long ((0 : Int64) + b2)), .second, .val (.int (1 : Int32)), .val (.int (1 : Int32)), .val (.int (1 : Int32)), .val (.int (0 : Int32)), .val (.int (0 : Int32))] [])
          refine Runs.back (fun t_ k_ => XS.iload X33.here hx rfl (hb hby at_222) rfl k_) ?_
          show Runs _ _ _ _ T33 (mkF m 224 #[.val (.int p0), .val (.int p1), .val (.int p2), .val (.long q3), .second, .val (.int p4), .val (.long q5), .second, .val (.int cE), .val (.int cC), .val (.int a1), .val (.long b1), .second, .val (.int a2), .val (.long b2), .second, .val (.ref ob1), .val (.int (0 : Int32)), .val (.int (0 : Int32)), .val (.long ((0 : Int64) + (a2.toInt64))), .second, .val (.long ((0 : Int64) + b2)), .second, .val (.int (1 : Int32)), .val (.int (1 : Int32)), .val (.int (1 : Int32)), .val (.int (0 : Int32)), .val (.int (0 : Int32))] [(.int (1 : Int32))])
          refine Runs.back (fun t_ k_ => XS.iload X33.here hx rfl (hb hby at_224) rfl k_) ?_
          show Runs _ _ _ _ T33 (mkF m 226 #[.val (.int p0), .val (.int p1), .val (.int p2), .val (.long q3), .second, .val (.int p4), .val (.long q5), .second, .val (.int cE), .val (.int cC), .val (.int a1), .val (.long b1), .second, .val (.int a2), .val (.long b2), .second, .val (.ref ob1), .val (.int (0 : Int32)), .val (.int (0 : Int32)), .val (.long ((0 : Int64) + (a2.toInt64))), .second, .val (.long ((0 : Int64) + b2)), .second, .val (.int (1 : Int32)), .val (.int (1 : Int32)), .val (.int (1 : Int32)), .val (.int (0 : Int32)), .val (.int (0 : Int32))] [(.int (1 : Int32)), (.int (1 : Int32))])
          refine Runs.back (fun t_ k_ => XS.icmpNo X33.here hx rfl (hb hby at_226) rfl (teq (show (1 : Int32) = (1 : Int32) from rfl)).2 k_) ?_
          show Runs _ _ _ _ T33 (mkF m 229 #[.val (.int p0), .val (.int p1), .val (.int p2), .val (.long q3), .second, .val (.int p4), .val (.long q5), .second, .val (.int cE), .val (.int cC), .val (.int a1), .val (.long b1), .second, .val (.int a2), .val (.long b2), .second, .val (.ref ob1), .val (.int (0 : Int32)), .val (.int (0 : Int32)), .val (.long ((0 : Int64) + (a2.toInt64))), .second, .val (.long ((0 : Int64) + b2)), .second, .val (.int (1 : Int32)), .val (.int (1 : Int32)), .val (.int (1 : Int32)), .val (.int (0 : Int32)), .val (.int (0 : Int32))] [])
          refine Runs.back (fun t_ k_ => XS.iload X33.here hx rfl (hb hby at_229) rfl k_) ?_
          show Runs _ _ _ _ T33 (mkF m 231 #[.val (.int p0), .val (.int p1), .val (.int p2), .val (.long q3), .second, .val (.int p4), .val (.long q5), .second, .val (.int cE), .val (.int cC), .val (.int a1), .val (.long b1), .second, .val (.int a2), .val (.long b2), .second, .val (.ref ob1), .val (.int (0 : Int32)), .val (.int (0 : Int32)), .val (.long ((0 : Int64) + (a2.toInt64))), .second, .val (.long ((0 : Int64) + b2)), .second, .val (.int (1 : Int32)), .val (.int (1 : Int32)), .val (.int (1 : Int32)), .val (.int (0 : Int32)), .val (.int (0 : Int32))] [(.int (1 : Int32))])
          refine Runs.back (fun t_ k_ => XS.ifNo X33.here hx rfl (hb hby at_231) rfl ((if0 _ _).trans (feq (show ¬ ((1 : Int32) = (0 : Int32)) from (by decide))).1) k_) ?_
          show Runs _ _ _ _ T33 (mkF m 234 #[.val (.int p0), .val (.int p1), .val (.int p2), .val (.long q3), .second, .val (.int p4), .val (.long q5), .second, .val (.int cE), .val (.int cC), .val (.int a1), .val (.long b1), .second, .val (.int a2), .val (.long b2), .second, .val (.ref ob1), .val (.int (0 : Int32)), .val (.int (0 : Int32)), .val (.long ((0 : Int64) + (a2.toInt64))), .second, .val (.long ((0 : Int64) + b2)), .second, .val (.int (1 : Int32)), .val (.int (1 : Int32)), .val (.int (1 : Int32)), .val (.int (0 : Int32)), .val (.int (0 : Int32))] [])
          refine Runs.back (fun t_ k_ => XS.iload X33.here hx rfl (hb hby at_234) rfl k_) ?_
          show Runs _ _ _ _ T33 (mkF m 236 #[.val (.int p0), .val (.int p1), .val (.int p2), .val (.long q3), .second, .val (.int p4), .val (.long q5), .second, .val (.int cE), .val (.int cC), .val (.int a1), .val (.long b1), .second, .val (.int a2), .val (.long b2), .second, .val (.ref ob1), .val (.int (0 : Int32)), .val (.int (0 : Int32)), .val (.long ((0 : Int64) + (a2.toInt64))), .second, .val (.long ((0 : Int64) + b2)), .second, .val (.int (1 : Int32)), .val (.int (1 : Int32)), .val (.int (1 : Int32)), .val (.int (0 : Int32)), .val (.int (0 : Int32))] [(.int (0 : Int32))])
          refine Runs.back (fun t_ k_ => XS.ifNo X33.here hx rfl (hb hby at_236) rfl ((if0 _ _).trans (teq (show (0 : Int32) = (0 : Int32) from rfl)).2) k_) ?_
          show Runs _ _ _ _ T33 (mkF m 239 #[.val (.int p0), .val (.int p1), .val (.int p2), .val (.long q3), .second, .val (.int p4), .val (.long q5), .second, .val (.int cE), .val (.int cC), .val (.int a1), .val (.long b1), .second, .val (.int a2), .val (.long b2), .second, .val (.ref ob1), .val (.int (0 : Int32)), .val (.int (0 : Int32)), .val (.long ((0 : Int64) + (a2.toInt64))), .second, .val (.long ((0 : Int64) + b2)), .second, .val (.int (1 : Int32)), .val (.int (1 : Int32)), .val (.int (1 : Int32)), .val (.int (0 : Int32)), .val (.int (0 : Int32))] [])
          refine Runs.back (fun t_ k_ => XS.iload X33.here hx rfl (hb hby at_239) rfl k_) ?_
          show Runs _ _ _ _ T33 (mkF m 241 #[.val (.int p0), .val (.int p1), .val (.int p2), .val (.long q3), .second, .val (.int p4), .val (.long q5), .second, .val (.int cE), .val (.int cC), .val (.int a1), .val (.long b1), .second, .val (.int a2), .val (.long b2), .second, .val (.ref ob1), .val (.int (0 : Int32)), .val (.int (0 : Int32)), .val (.long ((0 : Int64) + (a2.toInt64))), .second, .val (.long ((0 : Int64) + b2)), .second, .val (.int (1 : Int32)), .val (.int (1 : Int32)), .val (.int (1 : Int32)), .val (.int (0 : Int32)), .val (.int (0 : Int32))] [(.int (0 : Int32))])
          refine Runs.back (fun t_ k_ => XS.ifNo X33.here hx rfl (hb hby at_241) rfl ((if0 _ _).trans (teq (show (0 : Int32) = (0 : Int32) from rfl)).2) k_) ?_
          show Runs _ _ _ _ T33 (mkF m 244 #[.val (.int p0), .val (.int p1), .val (.int p2), .val (.long q3), .second, .val (.int p4), .val (.long q5), .second, .val (.int cE), .val (.int cC), .val (.int a1), .val (.long b1), .second, .val (.int a2), .val (.long b2), .second, .val (.ref ob1), .val (.int (0 : Int32)), .val (.int (0 : Int32)), .val (.long ((0 : Int64) + (a2.toInt64))), .second, .val (.long ((0 : Int64) + b2)), .second, .val (.int (1 : Int32)), .val (.int (1 : Int32)), .val (.int (1 : Int32)), .val (.int (0 : Int32)), .val (.int (0 : Int32))] [])
          refine Runs.back (fun t_ k_ => XS.iconst X33.here hx rfl (hb hby at_244) k_) ?_
          show Runs _ _ _ _ T33 (mkF m 245 #[.val (.int p0), .val (.int p1), .val (.int p2), .val (.long q3), .second, .val (.int p4), .val (.long q5), .second, .val (.int cE), .val (.int cC), .val (.int a1), .val (.long b1), .second, .val (.int a2), .val (.long b2), .second, .val (.ref ob1), .val (.int (0 : Int32)), .val (.int (0 : Int32)), .val (.long ((0 : Int64) + (a2.toInt64))), .second, .val (.long ((0 : Int64) + b2)), .second, .val (.int (1 : Int32)), .val (.int (1 : Int32)), .val (.int (1 : Int32)), .val (.int (0 : Int32)), .val (.int (0 : Int32))] [(.int (1 : Int32))])
          refine Runs.back (fun t_ k_ => XS.goto X33.here hx rfl (pc0 := 245) (pc' := 249) rfl (hb hby at_245) (by decide) (by decide) k_) ?_
          show Runs _ _ _ _ T33 (mkF m 249 #[.val (.int p0), .val (.int p1), .val (.int p2), .val (.long q3), .second, .val (.int p4), .val (.long q5), .second, .val (.int cE), .val (.int cC), .val (.int a1), .val (.long b1), .second, .val (.int a2), .val (.long b2), .second, .val (.ref ob1), .val (.int (0 : Int32)), .val (.int (0 : Int32)), .val (.long ((0 : Int64) + (a2.toInt64))), .second, .val (.long ((0 : Int64) + b2)), .second, .val (.int (1 : Int32)), .val (.int (1 : Int32)), .val (.int (1 : Int32)), .val (.int (0 : Int32)), .val (.int (0 : Int32))] [(.int (1 : Int32))])
          obtain ⟨fs, hr, hrun, hended, hW, hsame⟩ := X33.leave (v := some (.int (1 : Int32))) (fun h => by rw [Bd.returns] at h; cases h)
          exact ⟨_, _, (retN X33 hx (t := .boolean) Bd.returns (by simp) (hb hby at_249) hr), hrun, hended, _, _, rfl, ⟨rfl, N33⟩, ⟨_, rfl⟩, hW, hsame.mono (by decide) (by decide)⟩
        · obtain rfl : whW2 = (0 : Int32) := by rw [ehW2, if_neg hW2]
          show Runs _ _ _ _ T25 (mkF m 146 #[.val (.int p0), .val (.int p1), .val (.int p2), .val (.long q3), .second, .val (.int p4), .val (.long q5), .second, .val (.int cE), .val (.int cC), .val (.int a1), .val (.long b1), .second, .val (.int a2), .val (.long b2), .second, .val (.ref ob1), .val (.int (0 : Int32)), .val (.int (0 : Int32)), .val (.long (0 : Int64)), .second, .val (.long (0 : Int64)), .second, .val (.int (0 : Int32)), .unset, .unset, .unset, .unset] [])
          refine Runs.back (fun t_ k_ => XS.aload X25.here hx rfl (hb hby at_146) rfl rfl k_) ?_
          show Runs _ _ _ _ T25 (mkF m 148 #[.val (.int p0), .val (.int p1), .val (.int p2), .val (.long q3), .second, .val (.int p4), .val (.long q5), .second, .val (.int cE), .val (.int cC), .val (.int a1), .val (.long b1), .second, .val (.int a2), .val (.long b2), .second, .val (.ref ob1), .val (.int (0 : Int32)), .val (.int (0 : Int32)), .val (.long (0 : Int64)), .second, .val (.long (0 : Int64)), .second, .val (.int (0 : Int32)), .unset, .unset, .unset, .unset] [(.ref ob1)])
          refine Runs.back (fun t_ k_ => XS.iload X25.here hx rfl (hb hby at_148) rfl k_) ?_
          show Runs _ _ _ _ T25 (mkF m 150 #[.val (.int p0), .val (.int p1), .val (.int p2), .val (.long q3), .second, .val (.int p4), .val (.long q5), .second, .val (.int cE), .val (.int cC), .val (.int a1), .val (.long b1), .second, .val (.int a2), .val (.long b2), .second, .val (.ref ob1), .val (.int (0 : Int32)), .val (.int (0 : Int32)), .val (.long (0 : Int64)), .second, .val (.long (0 : Int64)), .second, .val (.int (0 : Int32)), .unset, .unset, .unset, .unset] [(.int a2), (.ref ob1)])
          refine Runs.back (fun t_ k_ => XS.lload X25.here hx rfl (hb hby at_150) rfl k_) ?_
          show Runs _ _ _ _ T25 (mkF m 152 #[.val (.int p0), .val (.int p1), .val (.int p2), .val (.long q3), .second, .val (.int p4), .val (.long q5), .second, .val (.int cE), .val (.int cC), .val (.int a1), .val (.long b1), .second, .val (.int a2), .val (.long b2), .second, .val (.ref ob1), .val (.int (0 : Int32)), .val (.int (0 : Int32)), .val (.long (0 : Int64)), .second, .val (.long (0 : Int64)), .second, .val (.int (0 : Int32)), .unset, .unset, .unset, .unset] [(.long b2), (.int a2), (.ref ob1)])
          have sE : ((0 : Int64) + (a2.toInt64)).toInt = ((0 : Int64)).toInt + (a2.toInt64).toInt := add64 (by omega) (by omega)
          have sC : ((0 : Int64) + b2).toInt = ((0 : Int64)).toInt + b2.toInt := add64 (by omega) (by omega)
          have iW2 := hW2
          rw [ltl, ltl] at iW2
          have P36 : ¬ (¬ cE.toInt64 < (0 : Int32).toInt64 + a2.toInt64 ∧ ¬ cC.toInt64 < (0 : Int64) + b2) := by rw [takeE, takeC (by omega) (by omega)]; omega
          obtain ⟨cq35, kq35, q35a, q35b, q35c⟩ := isOf hZ eq25 rE4
          obtain ⟨_, _, ⟨T35, L35, k35, n35⟩, -, X35, ⟨Lc35, hQ35, l35, y35, z35⟩, st35⟩ := X25.virtualBack hx (y := (⟨"stanzabits/xml/Room", "take", "(IJ)Z"⟩ : MethodName)) (z := (⟨"stanzabits/xml/Room", "take", "(IJ)Z"⟩ : MethodName)) hown (mvT hZ (hw _ (List.mem_of_getElem? (i := 29) rfl))) (mvT hZ (hw _ (List.mem_of_getElem? (i := 30) rfl))) (notFace_of_selects (args := #[]) (mvT hZ (hw _ (List.mem_of_getElem? (i := 32) rfl)))) (mvT hZ (hw _ (List.mem_of_getElem? (i := 32) rfl))) (mvT hZ (hw _ (List.mem_of_getElem? (i := 31) rfl))) (by decide) (backOf (W := 0) (rm5f l Z a0 hw [] ob1 a2 b2 ob2 (0 : Int32) (0 : Int64) cE cC T4.heap n0 (Z4) rE4 rF4 rG4 rH4 f4_Exa_1 f4_Fld_2 f4_Fld_3 ne_ob1_ob2 g_ob1 P36) hZ (hw _ (List.mem_of_getElem? (i := 33) rfl)) (hw _ (List.mem_of_getElem? (i := 4) rfl)) (by decide) (by decide)) q35a q35c (g := (mkF m 152 #[.val (.int p0), .val (.int p1), .val (.int p2), .val (.long q3), .second, .val (.int p4), .val (.long q5), .second, .val (.int cE), .val (.int cC), .val (.int a1), .val (.long b1), .second, .val (.int a2), .val (.long b2), .second, .val (.ref ob1), .val (.int (0 : Int32)), .val (.int (0 : Int32)), .val (.long (0 : Int64)), .second, .val (.long (0 : Int64)), .second, .val (.int (0 : Int32)), .unset, .unset, .unset, .unset] [(.long b2), (.int a2), (.ref ob1)])) rfl (by rw [hml]; rfl) (Steps.refl _) (argsL := [(.int a2), (.long b2)]) (rest := []) (lenOf pd0_2 rfl) rfl (by show 2 * 0 + _ ≤ _; exact Nat.le_of_eq rfl) (hb hby at_152) (fun _ _ => ⟨rfl, eq25, (by decide : 2 + 0 ≤ _), (by decide : 5 + 0 ≤ _)⟩)
          dsimp only [Pt.U, Pt.locs, Pt.cells, Pt.slots] at X35 l35 y35 z35 st35 hQ35
          subst l35 y35 z35
          obtain ⟨rfl, N35q, eq35⟩ := hQ35
          have N35 := Fr.app N25 N35q
          refine Runs.trans st35 ?_
          show Runs _ _ _ _ T35 (mkF m 155 #[.val (.int p0), .val (.int p1), .val (.int p2), .val (.long q3), .second, .val (.int p4), .val (.long q5), .second, .val (.int cE), .val (.int cC), .val (.int a1), .val (.long b1), .second, .val (.int a2), .val (.long b2), .second, .val (.ref ob1), .val (.int (0 : Int32)), .val (.int (0 : Int32)), .val (.long (0 : Int64)), .second, .val (.long (0 : Int64)), .second, .val (.int (0 : Int32)), .unset, .unset, .unset, .unset] [(.int (0 : Int32))])
          refine Runs.back (fun t_ k_ => XS.istore X35.here hx rfl (hb hby at_155) rfl (l' := #[.val (.int p0), .val (.int p1), .val (.int p2), .val (.long q3), .second, .val (.int p4), .val (.long q5), .second, .val (.int cE), .val (.int cC), .val (.int a1), .val (.long b1), .second, .val (.int a2), .val (.long b2), .second, .val (.ref ob1), .val (.int (0 : Int32)), .val (.int (0 : Int32)), .val (.long (0 : Int64)), .second, .val (.long (0 : Int64)), .second, .val (.int (0 : Int32)), .val (.int (0 : Int32)), .unset, .unset, .unset]) rfl k_) ?_
          show Runs _ _ _ _ T35 (mkF m 157 #[.val (.int p0), .val (.int p1), .val (.int p2), .val (.long q3), .second, .val (.int p4), .val (.long q5), .second, .val (.int cE), .val (.int cC), .val (.int a1), .val (.long b1), .second, .val (.int a2), .val (.long b2), .second, .val (.ref ob1), .val (.int (0 : Int32)), .val (.int (0 : Int32)), .val (.long (0 : Int64)), .second, .val (.long (0 : Int64)), .second, .val (.int (0 : Int32)), .val (.int (0 : Int32)), .unset, .unset, .unset] [])
          refine Runs.back (fun t_ k_ => XS.iload X35.here hx rfl (hb hby at_157) rfl k_) ?_
          show Runs _ _ _ _ T35 (mkF m 159 #[.val (.int p0), .val (.int p1), .val (.int p2), .val (.long q3), .second, .val (.int p4), .val (.long q5), .second, .val (.int cE), .val (.int cC), .val (.int a1), .val (.long b1), .second, .val (.int a2), .val (.long b2), .second, .val (.ref ob1), .val (.int (0 : Int32)), .val (.int (0 : Int32)), .val (.long (0 : Int64)), .second, .val (.long (0 : Int64)), .second, .val (.int (0 : Int32)), .val (.int (0 : Int32)), .unset, .unset, .unset] [(.int (0 : Int32))])
          refine Runs.back (fun t_ k_ => XS.ifYes X35.here hx rfl (pc0 := 159) (pc' := 177) rfl (hb hby at_159) rfl ((if0 _ _).trans (teq (show (0 : Int32) = (0 : Int32) from rfl)).1) (by decide) (by decide) k_) ?_
          show Runs _ _ _ _ T35 (mkF m 177 #[.val (.int p0), .val (.int p1), .val (.int p2), .val (.long q3), .second, .val (.int p4), .val (.long q5), .second, .val (.int cE), .val (.int cC), .val (.int a1), .val (.long b1), .second, .val (.int a2), .val (.long b2), .second, .val (.ref ob1), .val (.int (0 : Int32)), .val (.int (0 : Int32)), .val (.long (0 : Int64)), .second, .val (.long (0 : Int64)), .second, .val (.int (0 : Int32)), .val (.int (0 : Int32)), .unset, .unset, .unset] [])
          refine Runs.back (fun t_ k_ => XS.aload X35.here hx rfl (hb hby at_177) rfl rfl k_) ?_
          show Runs _ _ _ _ T35 (mkF m 179 #[.val (.int p0), .val (.int p1), .val (.int p2), .val (.long q3), .second, .val (.int p4), .val (.long q5), .second, .val (.int cE), .val (.int cC), .val (.int a1), .val (.long b1), .second, .val (.int a2), .val (.long b2), .second, .val (.ref ob1), .val (.int (0 : Int32)), .val (.int (0 : Int32)), .val (.long (0 : Int64)), .second, .val (.long (0 : Int64)), .second, .val (.int (0 : Int32)), .val (.int (0 : Int32)), .unset, .unset, .unset] [(.ref ob1)])
          refine Runs.back (fun t_ k_ => XS.iload X35.here hx rfl (hb hby at_179) rfl k_) ?_
          show Runs _ _ _ _ T35 (mkF m 181 #[.val (.int p0), .val (.int p1), .val (.int p2), .val (.long q3), .second, .val (.int p4), .val (.long q5), .second, .val (.int cE), .val (.int cC), .val (.int a1), .val (.long b1), .second, .val (.int a2), .val (.long b2), .second, .val (.ref ob1), .val (.int (0 : Int32)), .val (.int (0 : Int32)), .val (.long (0 : Int64)), .second, .val (.long (0 : Int64)), .second, .val (.int (0 : Int32)), .val (.int (0 : Int32)), .unset, .unset, .unset] [(.int cE), (.ref ob1)])
          refine Runs.back (fun t_ k_ => XS.i2l X35.here hx rfl (hb hby at_181) rfl k_) ?_
          show Runs _ _ _ _ T35 (mkF m 182 #[.val (.int p0), .val (.int p1), .val (.int p2), .val (.long q3), .second, .val (.int p4), .val (.long q5), .second, .val (.int cE), .val (.int cC), .val (.int a1), .val (.long b1), .second, .val (.int a2), .val (.long b2), .second, .val (.ref ob1), .val (.int (0 : Int32)), .val (.int (0 : Int32)), .val (.long (0 : Int64)), .second, .val (.long (0 : Int64)), .second, .val (.int (0 : Int32)), .val (.int (0 : Int32)), .unset, .unset, .unset] [(.long (cE.toInt64)), (.ref ob1)])
          refine Runs.back (fun t_ k_ => XS.lload X35.here hx rfl (hb hby at_182) rfl k_) ?_
          show Runs _ _ _ _ T35 (mkF m 184 #[.val (.int p0), .val (.int p1), .val (.int p2), .val (.long q3), .second, .val (.int p4), .val (.long q5), .second, .val (.int cE), .val (.int cC), .val (.int a1), .val (.long b1), .second, .val (.int a2), .val (.long b2), .second, .val (.ref ob1), .val (.int (0 : Int32)), .val (.int (0 : Int32)), .val (.long (0 : Int64)), .second, .val (.long (0 : Int64)), .second, .val (.int (0 : Int32)), .val (.int (0 : Int32)), .unset, .unset, .unset] [(.long (0 : Int64)), (.long (cE.toInt64)), (.ref ob1)])
          refine Runs.back (fun t_ k_ => XS.lsub X35.here hx rfl (hb hby at_184) rfl k_) ?_
          show Runs _ _ _ _ T35 (mkF m 185 #[.val (.int p0), .val (.int p1), .val (.int p2), .val (.long q3), .second, .val (.int p4), .val (.long q5), .second, .val (.int cE), .val (.int cC), .val (.int a1), .val (.long b1), .second, .val (.int a2), .val (.long b2), .second, .val (.ref ob1), .val (.int (0 : Int32)), .val (.int (0 : Int32)), .val (.long (0 : Int64)), .second, .val (.long (0 : Int64)), .second, .val (.int (0 : Int32)), .val (.int (0 : Int32)), .unset, .unset, .unset] [(.long ((cE.toInt64) - (0 : Int64))), (.ref ob1)])
          refine Runs.back (fun t_ k_ => XS.l2i X35.here hx rfl (hb hby at_185) rfl k_) ?_
          show Runs _ _ _ _ T35 (mkF m 186 #[.val (.int p0), .val (.int p1), .val (.int p2), .val (.long q3), .second, .val (.int p4), .val (.long q5), .second, .val (.int cE), .val (.int cC), .val (.int a1), .val (.long b1), .second, .val (.int a2), .val (.long b2), .second, .val (.ref ob1), .val (.int (0 : Int32)), .val (.int (0 : Int32)), .val (.long (0 : Int64)), .second, .val (.long (0 : Int64)), .second, .val (.int (0 : Int32)), .val (.int (0 : Int32)), .unset, .unset, .unset] [(.int (((cE.toInt64) - (0 : Int64)).toInt32)), (.ref ob1)])
          refine Runs.back (fun t_ k_ => XS.iload X35.here hx rfl (hb hby at_186) rfl k_) ?_
          show Runs _ _ _ _ T35 (mkF m 188 #[.val (.int p0), .val (.int p1), .val (.int p2), .val (.long q3), .second, .val (.int p4), .val (.long q5), .second, .val (.int cE), .val (.int cC), .val (.int a1), .val (.long b1), .second, .val (.int a2), .val (.long b2), .second, .val (.ref ob1), .val (.int (0 : Int32)), .val (.int (0 : Int32)), .val (.long (0 : Int64)), .second, .val (.long (0 : Int64)), .second, .val (.int (0 : Int32)), .val (.int (0 : Int32)), .unset, .unset, .unset] [(.int cC), (.int (((cE.toInt64) - (0 : Int64)).toInt32)), (.ref ob1)])
          refine Runs.back (fun t_ k_ => XS.i2l X35.here hx rfl (hb hby at_188) rfl k_) ?_
          show Runs _ _ _ _ T35 (mkF m 189 #[.val (.int p0), .val (.int p1), .val (.int p2), .val (.long q3), .second, .val (.int p4), .val (.long q5), .second, .val (.int cE), .val (.int cC), .val (.int a1), .val (.long b1), .second, .val (.int a2), .val (.long b2), .second, .val (.ref ob1), .val (.int (0 : Int32)), .val (.int (0 : Int32)), .val (.long (0 : Int64)), .second, .val (.long (0 : Int64)), .second, .val (.int (0 : Int32)), .val (.int (0 : Int32)), .unset, .unset, .unset] [(.long (cC.toInt64)), (.int (((cE.toInt64) - (0 : Int64)).toInt32)), (.ref ob1)])
          refine Runs.back (fun t_ k_ => XS.lload X35.here hx rfl (hb hby at_189) rfl k_) ?_
          show Runs _ _ _ _ T35 (mkF m 191 #[.val (.int p0), .val (.int p1), .val (.int p2), .val (.long q3), .second, .val (.int p4), .val (.long q5), .second, .val (.int cE), .val (.int cC), .val (.int a1), .val (.long b1), .second, .val (.int a2), .val (.long b2), .second, .val (.ref ob1), .val (.int (0 : Int32)), .val (.int (0 : Int32)), .val (.long (0 : Int64)), .second, .val (.long (0 : Int64)), .second, .val (.int (0 : Int32)), .val (.int (0 : Int32)), .unset, .unset, .unset] [(.long (0 : Int64)), (.long (cC.toInt64)), (.int (((cE.toInt64) - (0 : Int64)).toInt32)), (.ref ob1)])
          refine Runs.back (fun t_ k_ => XS.lsub X35.here hx rfl (hb hby at_191) rfl k_) ?_
          show Runs _ _ _ _ T35 (mkF m 192 #[.val (.int p0), .val (.int p1), .val (.int p2), .val (.long q3), .second, .val (.int p4), .val (.long q5), .second, .val (.int cE), .val (.int cC), .val (.int a1), .val (.long b1), .second, .val (.int a2), .val (.long b2), .second, .val (.ref ob1), .val (.int (0 : Int32)), .val (.int (0 : Int32)), .val (.long (0 : Int64)), .second, .val (.long (0 : Int64)), .second, .val (.int (0 : Int32)), .val (.int (0 : Int32)), .unset, .unset, .unset] [(.long ((cC.toInt64) - (0 : Int64))), (.int (((cE.toInt64) - (0 : Int64)).toInt32)), (.ref ob1)])
          have tE : ((cE.toInt64) - (0 : Int64)).toInt = (cE.toInt64).toInt - ((0 : Int64)).toInt := sub64 (by omega) (by omega)
          have tC : ((cC.toInt64) - (0 : Int64)).toInt = (cC.toInt64).toInt - ((0 : Int64)).toInt := sub64 (by omega) (by omega)
          have tI : ((cE.toInt64) - (0 : Int64)).toInt32.toInt = ((cE.toInt64) - (0 : Int64)).toInt := l2i' (by omega) (by omega)
          have P38 : (¬ cE.toInt64 < (0 : Int32).toInt64 + (((cE.toInt64) - (0 : Int64)).toInt32).toInt64 ∧ ¬ cC.toInt64 < (0 : Int64) + ((cC.toInt64) - (0 : Int64))) := by rw [takeE, takeC (by omega) (by omega)]; omega
          have fe38 : ((0 : Int32) + (((cE.toInt64) - (0 : Int64)).toInt32)).toInt = ((0 : Int32)).toInt + ((((cE.toInt64) - (0 : Int64)).toInt32)).toInt := add32 (by omega) (by omega)
          have fc38 : ((0 : Int64) + ((cC.toInt64) - (0 : Int64))).toInt = ((0 : Int64)).toInt + (((cC.toInt64) - (0 : Int64))).toInt := add64 (by omega) (by omega)
          obtain ⟨cq37, kq37, q37a, q37b, q37c⟩ := isOf hZ eq35 rE4
          obtain ⟨_, _, ⟨T37, L37, k37, n37⟩, -, X37, ⟨Lc37, hQ37, l37, y37, z37⟩, st37⟩ := X35.virtualBack hx (y := (⟨"stanzabits/xml/Room", "take", "(IJ)Z"⟩ : MethodName)) (z := (⟨"stanzabits/xml/Room", "take", "(IJ)Z"⟩ : MethodName)) hown (mvT hZ (hw _ (List.mem_of_getElem? (i := 29) rfl))) (mvT hZ (hw _ (List.mem_of_getElem? (i := 30) rfl))) (notFace_of_selects (args := #[]) (mvT hZ (hw _ (List.mem_of_getElem? (i := 32) rfl)))) (mvT hZ (hw _ (List.mem_of_getElem? (i := 32) rfl))) (mvT hZ (hw _ (List.mem_of_getElem? (i := 31) rfl))) (by decide) (backOf (W := 0) (rm5t l Z a0 hw [] ob1 (((cE.toInt64) - (0 : Int64)).toInt32) ((cC.toInt64) - (0 : Int64)) ob2 (0 : Int32) (0 : Int64) cE cC T4.heap n0 (Z4) rE4 rF4 rG4 rH4 f4_Exa_1 f4_Fld_2 f4_Fld_3 ne_ob1_ob2 g_ob1 P38.1 P38.2) hZ (hw _ (List.mem_of_getElem? (i := 33) rfl)) (hw _ (List.mem_of_getElem? (i := 4) rfl)) (by decide) (by decide)) q37a q37c (g := (mkF m 192 #[.val (.int p0), .val (.int p1), .val (.int p2), .val (.long q3), .second, .val (.int p4), .val (.long q5), .second, .val (.int cE), .val (.int cC), .val (.int a1), .val (.long b1), .second, .val (.int a2), .val (.long b2), .second, .val (.ref ob1), .val (.int (0 : Int32)), .val (.int (0 : Int32)), .val (.long (0 : Int64)), .second, .val (.long (0 : Int64)), .second, .val (.int (0 : Int32)), .val (.int (0 : Int32)), .unset, .unset, .unset] [(.long ((cC.toInt64) - (0 : Int64))), (.int (((cE.toInt64) - (0 : Int64)).toInt32)), (.ref ob1)])) rfl (by rw [hml]; rfl) (Steps.refl _) (argsL := [(.int (((cE.toInt64) - (0 : Int64)).toInt32)), (.long ((cC.toInt64) - (0 : Int64)))]) (rest := []) (lenOf pd0_2 rfl) rfl (by show 2 * 0 + _ ≤ _; exact Nat.le_of_eq rfl) (hb hby at_192) (fun _ _ => ⟨rfl, eq35, (by decide : 2 + 0 ≤ _), (by decide : 5 + 0 ≤ _)⟩)
          dsimp only [Pt.U, Pt.locs, Pt.cells, Pt.slots] at X37 l37 y37 z37 st37 hQ37
          subst l37 y37 z37
          obtain ⟨rfl, N37q, K37, rE37, rF37, rG37, rH37⟩ := hQ37
          have N37 := Fr.app N35 N37q
          have f37_Exa_0 : Exa Z T37.heap ob2 "stanzabits/xml/Room$Size" := f4_Exa_1.keep K37
          have f37_Fld_1 : Fld Z T37.heap ob2 "stanzabits/xml/Room$Size" "entries" "I" (.int cE) := f4_Fld_2.keep K37 (ninS (Ne.symm ne_ob1_ob2) nin0)
          have f37_Fld_2 : Fld Z T37.heap ob2 "stanzabits/xml/Room$Size" "chars" "I" (.int cC) := f4_Fld_3.keep K37 (ninS (Ne.symm ne_ob1_ob2) nin0)
          have f37_Exa_3 : Exa Z T37.heap ob1 "stanzabits/xml/Room" := rE4.keep K37
          have Z37 : n0 ≤ T37.heap.size := Nat.le_trans (Z4) K37.1
          refine Runs.trans st37 ?_
          show Runs _ _ _ _ T37 (mkF m 195 #[.val (.int p0), .val (.int p1), .val (.int p2), .val (.long q3), .second, .val (.int p4), .val (.long q5), .second, .val (.int cE), .val (.int cC), .val (.int a1), .val (.long b1), .second, .val (.int a2), .val (.long b2), .second, .val (.ref ob1), .val (.int (0 : Int32)), .val (.int (0 : Int32)), .val (.long (0 : Int64)), .second, .val (.long (0 : Int64)), .second, .val (.int (0 : Int32)), .val (.int (0 : Int32)), .unset, .unset, .unset] [(.int (1 : Int32))])
          refine Runs.back (fun t_ k_ => XS.istore X37.here hx rfl (hb hby at_195) rfl (l' := #[.val (.int p0), .val (.int p1), .val (.int p2), .val (.long q3), .second, .val (.int p4), .val (.long q5), .second, .val (.int cE), .val (.int cC), .val (.int a1), .val (.long b1), .second, .val (.int a2), .val (.long b2), .second, .val (.ref ob1), .val (.int (0 : Int32)), .val (.int (0 : Int32)), .val (.long (0 : Int64)), .second, .val (.long (0 : Int64)), .second, .val (.int (0 : Int32)), .val (.int (0 : Int32)), .val (.int (1 : Int32)), .unset, .unset]) rfl k_) ?_
          show Runs _ _ _ _ T37 (mkF m 197 #[.val (.int p0), .val (.int p1), .val (.int p2), .val (.long q3), .second, .val (.int p4), .val (.long q5), .second, .val (.int cE), .val (.int cC), .val (.int a1), .val (.long b1), .second, .val (.int a2), .val (.long b2), .second, .val (.ref ob1), .val (.int (0 : Int32)), .val (.int (0 : Int32)), .val (.long (0 : Int64)), .second, .val (.long (0 : Int64)), .second, .val (.int (0 : Int32)), .val (.int (0 : Int32)), .val (.int (1 : Int32)), .unset, .unset] [])
          refine Runs.back (fun t_ k_ => XS.aload X37.here hx rfl (hb hby at_197) rfl rfl k_) ?_
          show Runs _ _ _ _ T37 (mkF m 199 #[.val (.int p0), .val (.int p1), .val (.int p2), .val (.long q3), .second, .val (.int p4), .val (.long q5), .second, .val (.int cE), .val (.int cC), .val (.int a1), .val (.long b1), .second, .val (.int a2), .val (.long b2), .second, .val (.ref ob1), .val (.int (0 : Int32)), .val (.int (0 : Int32)), .val (.long (0 : Int64)), .second, .val (.long (0 : Int64)), .second, .val (.int (0 : Int32)), .val (.int (0 : Int32)), .val (.int (1 : Int32)), .unset, .unset] [(.ref ob1)])
          refine Runs.back (fun t_ k_ => XS.iconst X37.here hx rfl (hb hby at_199) k_) ?_
          show Runs _ _ _ _ T37 (mkF m 200 #[.val (.int p0), .val (.int p1), .val (.int p2), .val (.long q3), .second, .val (.int p4), .val (.long q5), .second, .val (.int cE), .val (.int cC), .val (.int a1), .val (.long b1), .second, .val (.int a2), .val (.long b2), .second, .val (.ref ob1), .val (.int (0 : Int32)), .val (.int (0 : Int32)), .val (.long (0 : Int64)), .second, .val (.long (0 : Int64)), .second, .val (.int (0 : Int32)), .val (.int (0 : Int32)), .val (.int (1 : Int32)), .unset, .unset] [(.int (1 : Int32)), (.ref ob1)])
          refine Runs.back (fun t_ k_ => XS.lconst X37.here hx rfl (hb hby at_200) k_) ?_
          show Runs _ _ _ _ T37 (mkF m 201 #[.val (.int p0), .val (.int p1), .val (.int p2), .val (.long q3), .second, .val (.int p4), .val (.long q5), .second, .val (.int cE), .val (.int cC), .val (.int a1), .val (.long b1), .second, .val (.int a2), .val (.long b2), .second, .val (.ref ob1), .val (.int (0 : Int32)), .val (.int (0 : Int32)), .val (.long (0 : Int64)), .second, .val (.long (0 : Int64)), .second, .val (.int (0 : Int32)), .val (.int (0 : Int32)), .val (.int (1 : Int32)), .unset, .unset] [(.long (0 : Int64)), (.int (1 : Int32)), (.ref ob1)])
          have P40 : ¬ (¬ cE.toInt64 < ((0 : Int32) + (((cE.toInt64) - (0 : Int64)).toInt32)).toInt64 + (1 : Int32).toInt64 ∧ ¬ cC.toInt64 < ((0 : Int64) + ((cC.toInt64) - (0 : Int64))) + (0 : Int64)) := by rw [takeE, takeC (by omega) (by omega)]; omega
          obtain ⟨cq39, kq39, q39a, q39b, q39c⟩ := isOf hZ rfl rE37
          obtain ⟨_, _, ⟨T39, L39, k39, n39⟩, -, X39, ⟨Lc39, hQ39, l39, y39, z39⟩, st39⟩ := X37.virtualBack hx (y := (⟨"stanzabits/xml/Room", "take", "(IJ)Z"⟩ : MethodName)) (z := (⟨"stanzabits/xml/Room", "take", "(IJ)Z"⟩ : MethodName)) hown (mvT hZ (hw _ (List.mem_of_getElem? (i := 29) rfl))) (mvT hZ (hw _ (List.mem_of_getElem? (i := 30) rfl))) (notFace_of_selects (args := #[]) (mvT hZ (hw _ (List.mem_of_getElem? (i := 32) rfl)))) (mvT hZ (hw _ (List.mem_of_getElem? (i := 32) rfl))) (mvT hZ (hw _ (List.mem_of_getElem? (i := 31) rfl))) (by decide) (backOf (W := 0) (rm5f l Z a0 hw [] ob1 (1 : Int32) (0 : Int64) ob2 ((0 : Int32) + (((cE.toInt64) - (0 : Int64)).toInt32)) ((0 : Int64) + ((cC.toInt64) - (0 : Int64))) cE cC T37.heap n0 (Z37) rE37 rF37 rG37 rH37 f37_Exa_0 f37_Fld_1 f37_Fld_2 ne_ob1_ob2 g_ob1 P40) hZ (hw _ (List.mem_of_getElem? (i := 33) rfl)) (hw _ (List.mem_of_getElem? (i := 4) rfl)) (by decide) (by decide)) q39a q39c (g := (mkF m 201 #[.val (.int p0), .val (.int p1), .val (.int p2), .val (.long q3), .second, .val (.int p4), .val (.long q5), .second, .val (.int cE), .val (.int cC), .val (.int a1), .val (.long b1), .second, .val (.int a2), .val (.long b2), .second, .val (.ref ob1), .val (.int (0 : Int32)), .val (.int (0 : Int32)), .val (.long (0 : Int64)), .second, .val (.long (0 : Int64)), .second, .val (.int (0 : Int32)), .val (.int (0 : Int32)), .val (.int (1 : Int32)), .unset, .unset] [(.long (0 : Int64)), (.int (1 : Int32)), (.ref ob1)])) rfl (by rw [hml]; rfl) (Steps.refl _) (argsL := [(.int (1 : Int32)), (.long (0 : Int64))]) (rest := []) (lenOf pd0_2 rfl) rfl (by show 2 * 0 + _ ≤ _; exact Nat.le_of_eq rfl) (hb hby at_201) (fun _ _ => ⟨rfl, rfl, (by decide : 2 + 0 ≤ _), (by decide : 5 + 0 ≤ _)⟩)
          dsimp only [Pt.U, Pt.locs, Pt.cells, Pt.slots] at X39 l39 y39 z39 st39 hQ39
          subst l39 y39 z39
          obtain ⟨rfl, N39q, eq39⟩ := hQ39
          have N39 := Fr.app N37 N39q
          refine Runs.trans st39 ?_
          show Runs _ _ _ _ T39 (mkF m 204 #[.val (.int p0), .val (.int p1), .val (.int p2), .val (.long q3), .second, .val (.int p4), .val (.long q5), .second, .val (.int cE), .val (.int cC), .val (.int a1), .val (.long b1), .second, .val (.int a2), .val (.long b2), .second, .val (.ref ob1), .val (.int (0 : Int32)), .val (.int (0 : Int32)), .val (.long (0 : Int64)), .second, .val (.long (0 : Int64)), .second, .val (.int (0 : Int32)), .val (.int (0 : Int32)), .val (.int (1 : Int32)), .unset, .unset] [(.int (0 : Int32))])
          refine Runs.back (fun t_ k_ => XS.istore X39.here hx rfl (hb hby at_204) rfl (l' := #[.val (.int p0), .val (.int p1), .val (.int p2), .val (.long q3), .second, .val (.int p4), .val (.long q5), .second, .val (.int cE), .val (.int cC), .val (.int a1), .val (.long b1), .second, .val (.int a2), .val (.long b2), .second, .val (.ref ob1), .val (.int (0 : Int32)), .val (.int (0 : Int32)), .val (.long (0 : Int64)), .second, .val (.long (0 : Int64)), .second, .val (.int (0 : Int32)), .val (.int (0 : Int32)), .val (.int (1 : Int32)), .val (.int (0 : Int32)), .unset]) rfl k_) ?_
          show Runs _ _ _ _ T39 (mkF m 206 #[.val (.int p0), .val (.int p1), .val (.int p2), .val (.long q3), .second, .val (.int p4), .val (.long q5), .second, .val (.int cE), .val (.int cC), .val (.int a1), .val (.long b1), .second, .val (.int a2), .val (.long b2), .second, .val (.ref ob1), .val (.int (0 : Int32)), .val (.int (0 : Int32)), .val (.long (0 : Int64)), .second, .val (.long (0 : Int64)), .second, .val (.int (0 : Int32)), .val (.int (0 : Int32)), .val (.int (1 : Int32)), .val (.int (0 : Int32)), .unset] [])
          refine Runs.back (fun t_ k_ => XS.aload X39.here hx rfl (hb hby at_206) rfl rfl k_) ?_
          show Runs _ _ _ _ T39 (mkF m 208 #[.val (.int p0), .val (.int p1), .val (.int p2), .val (.long q3), .second, .val (.int p4), .val (.long q5), .second, .val (.int cE), .val (.int cC), .val (.int a1), .val (.long b1), .second, .val (.int a2), .val (.long b2), .second, .val (.ref ob1), .val (.int (0 : Int32)), .val (.int (0 : Int32)), .val (.long (0 : Int64)), .second, .val (.long (0 : Int64)), .second, .val (.int (0 : Int32)), .val (.int (0 : Int32)), .val (.int (1 : Int32)), .val (.int (0 : Int32)), .unset] [(.ref ob1)])
          refine Runs.back (fun t_ k_ => XS.iconst X39.here hx rfl (hb hby at_208) k_) ?_
          show Runs _ _ _ _ T39 (mkF m 209 #[.val (.int p0), .val (.int p1), .val (.int p2), .val (.long q3), .second, .val (.int p4), .val (.long q5), .second, .val (.int cE), .val (.int cC), .val (.int a1), .val (.long b1), .second, .val (.int a2), .val (.long b2), .second, .val (.ref ob1), .val (.int (0 : Int32)), .val (.int (0 : Int32)), .val (.long (0 : Int64)), .second, .val (.long (0 : Int64)), .second, .val (.int (0 : Int32)), .val (.int (0 : Int32)), .val (.int (1 : Int32)), .val (.int (0 : Int32)), .unset] [(.int (0 : Int32)), (.ref ob1)])
          refine Runs.back (fun t_ k_ => XS.lconst X39.here hx rfl (hb hby at_209) k_) ?_
          show Runs _ _ _ _ T39 (mkF m 210 #[.val (.int p0), .val (.int p1), .val (.int p2), .val (.long q3), .second, .val (.int p4), .val (.long q5), .second, .val (.int cE), .val (.int cC), .val (.int a1), .val (.long b1), .second, .val (.int a2), .val (.long b2), .second, .val (.ref ob1), .val (.int (0 : Int32)), .val (.int (0 : Int32)), .val (.long (0 : Int64)), .second, .val (.long (0 : Int64)), .second, .val (.int (0 : Int32)), .val (.int (0 : Int32)), .val (.int (1 : Int32)), .val (.int (0 : Int32)), .unset] [(.long (1 : Int64)), (.int (0 : Int32)), (.ref ob1)])
          have P42 : ¬ (¬ cE.toInt64 < ((0 : Int32) + (((cE.toInt64) - (0 : Int64)).toInt32)).toInt64 + (0 : Int32).toInt64 ∧ ¬ cC.toInt64 < ((0 : Int64) + ((cC.toInt64) - (0 : Int64))) + (1 : Int64)) := by rw [takeE, takeC (by omega) (by omega)]; omega
          obtain ⟨cq41, kq41, q41a, q41b, q41c⟩ := isOf hZ eq39 rE37
          obtain ⟨_, _, ⟨T41, L41, k41, n41⟩, -, X41, ⟨Lc41, hQ41, l41, y41, z41⟩, st41⟩ := X39.virtualBack hx (y := (⟨"stanzabits/xml/Room", "take", "(IJ)Z"⟩ : MethodName)) (z := (⟨"stanzabits/xml/Room", "take", "(IJ)Z"⟩ : MethodName)) hown (mvT hZ (hw _ (List.mem_of_getElem? (i := 29) rfl))) (mvT hZ (hw _ (List.mem_of_getElem? (i := 30) rfl))) (notFace_of_selects (args := #[]) (mvT hZ (hw _ (List.mem_of_getElem? (i := 32) rfl)))) (mvT hZ (hw _ (List.mem_of_getElem? (i := 32) rfl))) (mvT hZ (hw _ (List.mem_of_getElem? (i := 31) rfl))) (by decide) (backOf (W := 0) (rm5f l Z a0 hw [] ob1 (0 : Int32) (1 : Int64) ob2 ((0 : Int32) + (((cE.toInt64) - (0 : Int64)).toInt32)) ((0 : Int64) + ((cC.toInt64) - (0 : Int64))) cE cC T37.heap n0 (Z37) rE37 rF37 rG37 rH37 f37_Exa_0 f37_Fld_1 f37_Fld_2 ne_ob1_ob2 g_ob1 P42) hZ (hw _ (List.mem_of_getElem? (i := 33) rfl)) (hw _ (List.mem_of_getElem? (i := 4) rfl)) (by decide) (by decide)) q41a q41c (g := (mkF m 210 #[.val (.int p0), .val (.int p1), .val (.int p2), .val (.long q3), .second, .val (.int p4), .val (.long q5), .second, .val (.int cE), .val (.int cC), .val (.int a1), .val (.long b1), .second, .val (.int a2), .val (.long b2), .second, .val (.ref ob1), .val (.int (0 : Int32)), .val (.int (0 : Int32)), .val (.long (0 : Int64)), .second, .val (.long (0 : Int64)), .second, .val (.int (0 : Int32)), .val (.int (0 : Int32)), .val (.int (1 : Int32)), .val (.int (0 : Int32)), .unset] [(.long (1 : Int64)), (.int (0 : Int32)), (.ref ob1)])) rfl (by rw [hml]; rfl) (Steps.refl _) (argsL := [(.int (0 : Int32)), (.long (1 : Int64))]) (rest := []) (lenOf pd0_2 rfl) rfl (by show 2 * 0 + _ ≤ _; exact Nat.le_of_eq rfl) (hb hby at_210) (fun _ _ => ⟨rfl, eq39, (by decide : 2 + 0 ≤ _), (by decide : 5 + 0 ≤ _)⟩)
          dsimp only [Pt.U, Pt.locs, Pt.cells, Pt.slots] at X41 l41 y41 z41 st41 hQ41
          subst l41 y41 z41
          obtain ⟨rfl, N41q, eq41⟩ := hQ41
          have N41 := Fr.app N39 N41q
          refine Runs.trans st41 ?_
          show Runs _ _ _ _ T41 (mkF m 213 #[.val (.int p0), .val (.int p1), .val (.int p2), .val (.long q3), .second, .val (.int p4), .val (.long q5), .second, .val (.int cE), .val (.int cC), .val (.int a1), .val (.long b1), .second, .val (.int a2), .val (.long b2), .second, .val (.ref ob1), .val (.int (0 : Int32)), .val (.int (0 : Int32)), .val (.long (0 : Int64)), .second, .val (.long (0 : Int64)), .second, .val (.int (0 : Int32)), .val (.int (0 : Int32)), .val (.int (1 : Int32)), .val (.int (0 : Int32)), .unset] [(.int (0 : Int32))])
          refine Runs.back (fun t_ k_ => XS.istore X41.here hx rfl (hb hby at_213) rfl (l' := #[.val (.int p0), .val (.int p1), .val (.int p2), .val (.long q3), .second, .val (.int p4), .val (.long q5), .second, .val (.int cE), .val (.int cC), .val (.int a1), .val (.long b1), .second, .val (.int a2), .val (.long b2), .second, .val (.ref ob1), .val (.int (0 : Int32)), .val (.int (0 : Int32)), .val (.long (0 : Int64)), .second, .val (.long (0 : Int64)), .second, .val (.int (0 : Int32)), .val (.int (0 : Int32)), .val (.int (1 : Int32)), .val (.int (0 : Int32)), .val (.int (0 : Int32))]) rfl k_) ?_
          show Runs _ _ _ _ T41 (mkF m 215 #[.val (.int p0), .val (.int p1), .val (.int p2), .val (.long q3), .second, .val (.int p4), .val (.long q5), .second, .val (.int cE), .val (.int cC), .val (.int a1), .val (.long b1), .second, .val (.int a2), .val (.long b2), .second, .val (.ref ob1), .val (.int (0 : Int32)), .val (.int (0 : Int32)), .val (.long (0 : Int64)), .second, .val (.long (0 : Int64)), .second, .val (.int (0 : Int32)), .val (.int (0 : Int32)), .val (.int (1 : Int32)), .val (.int (0 : Int32)), .val (.int (0 : Int32))] [])
          refine Runs.back (fun t_ k_ => XS.iload X41.here hx rfl (hb hby at_215) rfl k_) ?_
          show Runs _ _ _ _ T41 (mkF m 217 #[.val (.int p0), .val (.int p1), .val (.int p2), .val (.long q3), .second, .val (.int p4), .val (.long q5), .second, .val (.int cE), .val (.int cC), .val (.int a1), .val (.long b1), .second, .val (.int a2), .val (.long b2), .second, .val (.ref ob1), .val (.int (0 : Int32)), .val (.int (0 : Int32)), .val (.long (0 : Int64)), .second, .val (.long (0 : Int64)), .second, .val (.int (0 : Int32)), .val (.int (0 : Int32)), .val (.int (1 : Int32)), .val (.int (0 : Int32)), .val (.int (0 : Int32))] [(.int (0 : Int32))])
          refine Runs.back (fun t_ k_ => XS.iload X41.here hx rfl (hb hby at_217) rfl k_) ?_
          show Runs _ _ _ _ T41 (mkF m 219 #[.val (.int p0), .val (.int p1), .val (.int p2), .val (.long q3), .second, .val (.int p4), .val (.long q5), .second, .val (.int cE), .val (.int cC), .val (.int a1), .val (.long b1), .second, .val (.int a2), .val (.long b2), .second, .val (.ref ob1), .val (.int (0 : Int32)), .val (.int (0 : Int32)), .val (.long (0 : Int64)), .second, .val (.long (0 : Int64)), .second, .val (.int (0 : Int32)), .val (.int (0 : Int32)), .val (.int (1 : Int32)), .val (.int (0 : Int32)), .val (.int (0 : Int32))] [(.int (0 : Int32)), (.int (0 : Int32))])
          refine Runs.back (fun t_ k_ => XS.icmpNo X41.here hx rfl (hb hby at_219) rfl (teq (show (0 : Int32) = (0 : Int32) from rfl)).2 k_) ?_
          show Runs _ _ _ _ T41 (mkF m 222 #[.val (.int p0), .val (.int p1), .val (.int p2), .val (.long q3), .second, .val (.int p4), .val (.long q5), .second, .val (.int cE), .val (.int cC), .val (.int a1), .val (.long b1), .second, .val (.int a2), .val (.long b2), .second, .val (.ref ob1), .val (.int (0 : Int32)), .val (.int (0 : Int32)), .val (.long (0 : Int64)), .second, .val (.long (0 : Int64)), .second, .val (.int (0 : Int32)), .val (.int (0 : Int32)), .val (.int (1 : Int32)), .val (.int (0 : Int32)), .val (.int (0 : Int32))] [])
          refine Runs.back (fun t_ k_ => XS.iload X41.here hx rfl (hb hby at_222) rfl k_) ?_
          show Runs _ _ _ _ T41 (mkF m 224 #[.val (.int p0), .val (.int p1), .val (.int p2), .val (.long q3), .second, .val (.int p4), .val (.long q5), .second, .val (.int cE), .val (.int cC), .val (.int a1), .val (.long b1), .second, .val (.int a2), .val (.long b2), .second, .val (.ref ob1), .val (.int (0 : Int32)), .val (.int (0 : Int32)), .val (.long (0 : Int64)), .second, .val (.long (0 : Int64)), .second, .val (.int (0 : Int32)), .val (.int (0 : Int32)), .val (.int (1 : Int32)), .val (.int (0 : Int32)), .val (.int (0 : Int32))] [(.int (0 : Int32))])
          refine Runs.back (fun t_ k_ => XS.iload X41.here hx rfl (hb hby at_224) rfl k_) ?_
          show Runs _ _ _ _ T41 (mkF m 226 #[.val (.int p0), .val (.int p1), .val (.int p2), .val (.long q3), .second, .val (.int p4), .val (.long q5), .second, .val (.int cE), .val (.int cC), .val (.int a1), .val (.long b1), .second, .val (.int a2), .val (.long b2), .second, .val (.ref ob1), .val (.int (0 : Int32)), .val (.int (0 : Int32)), .val (.long (0 : Int64)), .second, .val (.long (0 : Int64)), .second, .val (.int (0 : Int32)), .val (.int (0 : Int32)), .val (.int (1 : Int32)), .val (.int (0 : Int32)), .val (.int (0 : Int32))] [(.int (0 : Int32)), (.int (0 : Int32))])
          refine Runs.back (fun t_ k_ => XS.icmpNo X41.here hx rfl (hb hby at_226) rfl (teq (show (0 : Int32) = (0 : Int32) from rfl)).2 k_) ?_
          show Runs _ _ _ _ T41 (mkF m 229 #[.val (.int p0), .val (.int p1), .val (.int p2), .val (.long q3), .second, .val (.int p4), .val (.long q5), .second, .val (.int cE), .val (.int cC), .val (.int a1), .val (.long b1), .second, .val (.int a2), .val (.long b2), .second, .val (.ref ob1), .val (.int (0 : Int32)), .val (.int (0 : Int32)), .val (.long (0 : Int64)), .second, .val (.long (0 : Int64)), .second, .val (.int (0 : Int32)), .val (.int (0 : Int32)), .val (.int (1 : Int32)), .val (.int (0 : Int32)), .val (.int (0 : Int32))] [])
          refine Runs.back (fun t_ k_ => XS.iload X41.here hx rfl (hb hby at_229) rfl k_) ?_
          show Runs _ _ _ _ T41 (mkF m 231 #[.val (.int p0), .val (.int p1), .val (.int p2), .val (.long q3), .second, .val (.int p4), .val (.long q5), .second, .val (.int cE), .val (.int cC), .val (.int a1), .val (.long b1), .second, .val (.int a2), .val (.long b2), .second, .val (.ref ob1), .val (.int (0 : Int32)), .val (.int (0 : Int32)), .val (.long (0 : Int64)), .second, .val (.long (0 : Int64)), .second, .val (.int (0 : Int32)), .val (.int (0 : Int32)), .val (.int (1 : Int32)), .val (.int (0 : Int32)), .val (.int (0 : Int32))] [(.int (1 : Int32))])
          refine Runs.back (fun t_ k_ => XS.ifNo X41.here hx rfl (hb hby at_231) rfl ((if0 _ _).trans (feq (show ¬ ((1 : Int32) = (0 : Int32)) from (by decide))).1) k_) ?_
          show Runs _ _ _ _ T41 (mkF m 234 #[.val (.int p0), .val (.int p1), .val (.int p2), .val (.long q3), .second, .val (.int p4), .val (.long q5), .second, .val (.int cE), .val (.int cC), .val (.int a1), .val (.long b1), .second, .val (.int a2), .val (.long b2), .second, .val (.ref ob1), .val (.int (0 : Int32)), .val (.int (0 : Int32)), .val (.long (0 : Int64)), .second, .val (.long (0 : Int64)), .second, .val (.int (0 : Int32)), .val (.int (0 : Int32)), .val (.int (1 : Int32)), .val (.int (0 : Int32)), .val (.int (0 : Int32))] [])
          refine Runs.back (fun t_ k_ => XS.iload X41.here hx rfl (hb hby at_234) rfl k_) ?_
          show Runs _ _ _ _ T41 (mkF m 236 #[.val (.int p0), .val (.int p1), .val (.int p2), .val (.long q3), .second, .val (.int p4), .val (.long q5), .second, .val (.int cE), .val (.int cC), .val (.int a1), .val (.long b1), .second, .val (.int a2), .val (.long b2), .second, .val (.ref ob1), .val (.int (0 : Int32)), .val (.int (0 : Int32)), .val (.long (0 : Int64)), .second, .val (.long (0 : Int64)), .second, .val (.int (0 : Int32)), .val (.int (0 : Int32)), .val (.int (1 : Int32)), .val (.int (0 : Int32)), .val (.int (0 : Int32))] [(.int (0 : Int32))])
          refine Runs.back (fun t_ k_ => XS.ifNo X41.here hx rfl (hb hby at_236) rfl ((if0 _ _).trans (teq (show (0 : Int32) = (0 : Int32) from rfl)).2) k_) ?_
          show Runs _ _ _ _ T41 (mkF m 239 #[.val (.int p0), .val (.int p1), .val (.int p2), .val (.long q3), .second, .val (.int p4), .val (.long q5), .second, .val (.int cE), .val (.int cC), .val (.int a1), .val (.long b1), .second, .val (.int a2), .val (.long b2), .second, .val (.ref ob1), .val (.int (0 : Int32)), .val (.int (0 : Int32)), .val (.long (0 : Int64)), .second, .val (.long (0 : Int64)), .second, .val (.int (0 : Int32)), .val (.int (0 : Int32)), .val (.int (1 : Int32)), .val (.int (0 : Int32)), .val (.int (0 : Int32))] [])
          refine Runs.back (fun t_ k_ => XS.iload X41.here hx rfl (hb hby at_239) rfl k_) ?_
          show Runs _ _ _ _ T41 (mkF m 241 #[.val (.int p0), .val (.int p1), .val (.int p2), .val (.long q3), .second, .val (.int p4), .val (.long q5), .second, .val (.int cE), .val (.int cC), .val (.int a1), .val (.long b1), .second, .val (.int a2), .val (.long b2), .second, .val (.ref ob1), .val (.int (0 : Int32)), .val (.int (0 : Int32)), .val (.long (0 : Int64)), .second, .val (.long (0 : Int64)), .second, .val (.int (0 : Int32)), .val (.int (0 : Int32)), .val (.int (1 : Int32)), .val (.int (0 : Int32)), .val (.int (0 : Int32))] [(.int (0 : Int32))])
          refine Runs.back (fun t_ k_ => XS.ifNo X41.here hx rfl (hb hby at_241) rfl ((if0 _ _).trans (teq (show (0 : Int32) = (0 : Int32) from rfl)).2) k_) ?_
          show Runs _ _ _ _ T41 (mkF m 244 #[.val (.int p0), .val (.int p1), .val (.int p2), .val (.long q3), .second, .val (.int p4), .val (.long q5), .second, .val (.int cE), .val (.int cC), .val (.int a1), .val (.long b1), .second, .val (.int a2), .val (.long b2), .second, .val (.ref ob1), .val (.int (0 : Int32)), .val (.int (0 : Int32)), .val (.long (0 : Int64)), .second, .val (.long (0 : Int64)), .second, .val (.int (0 : Int32)), .val (.int (0 : Int32)), .val (.int (1 : Int32)), .val (.int (0 : Int32)), .val (.int (0 : Int32))] [])
          refine Runs.back (fun t_ k_ => XS.iconst X41.here hx rfl (hb hby at_244) k_) ?_
          show Runs _ _ _ _ T41 (mkF m 245 #[.val (.int p0), .val (.int p1), .val (.int p2), .val (.long q3), .second, .val (.int p4), .val (.long q5), .second, .val (.int cE), .val (.int cC), .val (.int a1), .val (.long b1), .second, .val (.int a2), .val (.long b2), .second, .val (.ref ob1), .val (.int (0 : Int32)), .val (.int (0 : Int32)), .val (.long (0 : Int64)), .second, .val (.long (0 : Int64)), .second, .val (.int (0 : Int32)), .val (.int (0 : Int32)), .val (.int (1 : Int32)), .val (.int (0 : Int32)), .val (.int (0 : Int32))] [(.int (1 : Int32))])
          refine Runs.back (fun t_ k_ => XS.goto X41.here hx rfl (pc0 := 245) (pc' := 249) rfl (hb hby at_245) (by decide) (by decide) k_) ?_
          show Runs _ _ _ _ T41 (mkF m 249 #[.val (.int p0), .val (.int p1), .val (.int p2), .val (.long q3), .second, .val (.int p4), .val (.long q5), .second, .val (.int cE), .val (.int cC), .val (.int a1), .val (.long b1), .second, .val (.int a2), .val (.long b2), .second, .val (.ref ob1), .val (.int (0 : Int32)), .val (.int (0 : Int32)), .val (.long (0 : Int64)), .second, .val (.long (0 : Int64)), .second, .val (.int (0 : Int32)), .val (.int (0 : Int32)), .val (.int (1 : Int32)), .val (.int (0 : Int32)), .val (.int (0 : Int32))] [(.int (1 : Int32))])
          obtain ⟨fs, hr, hrun, hended, hW, hsame⟩ := X41.leave (v := some (.int (1 : Int32))) (fun h => by rw [Bd.returns] at h; cases h)
          exact ⟨_, _, (retN X41 hx (t := .boolean) Bd.returns (by simp) (hb hby at_249) hr), hrun, hended, _, _, rfl, ⟨rfl, N41⟩, ⟨_, rfl⟩, hW, hsame.mono (by decide) (by decide)⟩
      · intro J3
        show Runs _ _ _ _ T25 (mkF m 114 #[.val (.int p0), .val (.int p1), .val (.int p2), .val (.long q3), .second, .val (.int p4), .val (.long q5), .second, .val (.int cE), .val (.int cC), .val (.int a1), .val (.long b1), .second, .val (.int a2), .val (.long b2), .second, .val (.ref ob1), .val (.int (0 : Int32)), .val (.int (0 : Int32)), .val (.long (0 : Int64)), .second, .val (.long (0 : Int64)), .second, .unset, .unset, .unset, .unset, .unset] [])
        refine Runs.back (fun t_ k_ => XS.lload X25.here hx rfl (hb hby at_114) rfl k_) ?_
        show Runs _ _ _ _ T25 (mkF m 116 #[.val (.int p0), .val (.int p1), .val (.int p2), .val (.long q3), .second, .val (.int p4), .val (.long q5), .second, .val (.int cE), .val (.int cC), .val (.int a1), .val (.long b1), .second, .val (.int a2), .val (.long b2), .second, .val (.ref ob1), .val (.int (0 : Int32)), .val (.int (0 : Int32)), .val (.long (0 : Int64)), .second, .val (.long (0 : Int64)), .second, .unset, .unset, .unset, .unset, .unset] [(.long (0 : Int64))])
        refine Runs.back (fun t_ k_ => XS.iload X25.here hx rfl (hb hby at_116) rfl k_) ?_
        show Runs _ _ _ _ T25 (mkF m 118 #[.val (.int p0), .val (.int p1), .val (.int p2), .val (.long q3), .second, .val (.int p4), .val (.long q5), .second, .val (.int cE), .val (.int cC), .val (.int a1), .val (.long b1), .second, .val (.int a2), .val (.long b2), .second, .val (.ref ob1), .val (.int (0 : Int32)), .val (.int (0 : Int32)), .val (.long (0 : Int64)), .second, .val (.long (0 : Int64)), .second, .unset, .unset, .unset, .unset, .unset] [(.int a2), (.long (0 : Int64))])
        refine Runs.back (fun t_ k_ => XS.i2l X25.here hx rfl (hb hby at_118) rfl k_) ?_
        show Runs _ _ _ _ T25 (mkF m 119 #[.val (.int p0), .val (.int p1), .val (.int p2), .val (.long q3), .second, .val (.int p4), .val (.long q5), .second, .val (.int cE), .val (.int cC), .val (.int a1), .val (.long b1), .second, .val (.int a2), .val (.long b2), .second, .val (.ref ob1), .val (.int (0 : Int32)), .val (.int (0 : Int32)), .val (.long (0 : Int64)), .second, .val (.long (0 : Int64)), .second, .unset, .unset, .unset, .unset, .unset] [(.long (a2.toInt64)), (.long (0 : Int64))])
        refine Runs.back (fun t_ k_ => XS.ladd X25.here hx rfl (hb hby at_119) rfl k_) ?_
        show Runs _ _ _ _ T25 (mkF m 120 #[.val (.int p0), .val (.int p1), .val (.int p2), .val (.long q3), .second, .val (.int p4), .val (.long q5), .second, .val (.int cE), .val (.int cC), .val (.int a1), .val (.long b1), .second, .val (.int a2), .val (.long b2), .second, .val (.ref ob1), .val (.int (0 : Int32)), .val (.int (0 : Int32)), .val (.long (0 : Int64)), .second, .val (.long (0 : Int64)), .second, .unset, .unset, .unset, .unset, .unset] [(.long ((0 : Int64) + (a2.toInt64)))])
        refine Runs.back (fun t_ k_ => XS.iload X25.here hx rfl (hb hby at_120) rfl k_) ?_
        show Runs _ _ _ _ T25 (mkF m 122 #[.val (.int p0), .val (.int p1), .val (.int p2), .val (.long q3), .second, .val (.int p4), .val (.long q5), .second, .val (.int cE), .val (.int cC), .val (.int a1), .val (.long b1), .second, .val (.int a2), .val (.long b2), .second, .val (.ref ob1), .val (.int (0 : Int32)), .val (.int (0 : Int32)), .val (.long (0 : Int64)), .second, .val (.long (0 : Int64)), .second, .unset, .unset, .unset, .unset, .unset] [(.int cE), (.long ((0 : Int64) + (a2.toInt64)))])
        refine Runs.back (fun t_ k_ => XS.i2l X25.here hx rfl (hb hby at_122) rfl k_) ?_
        show Runs _ _ _ _ T25 (mkF m 123 #[.val (.int p0), .val (.int p1), .val (.int p2), .val (.long q3), .second, .val (.int p4), .val (.long q5), .second, .val (.int cE), .val (.int cC), .val (.int a1), .val (.long b1), .second, .val (.int a2), .val (.long b2), .second, .val (.ref ob1), .val (.int (0 : Int32)), .val (.int (0 : Int32)), .val (.long (0 : Int64)), .second, .val (.long (0 : Int64)), .second, .unset, .unset, .unset, .unset, .unset] [(.long (cE.toInt64)), (.long ((0 : Int64) + (a2.toInt64)))])
        refine Runs.back (fun t_ k_ => XS.lcmp X25.here hx rfl (hb hby at_123) rfl k_) ?_
        show Runs _ _ _ _ T25 (mkF m 124 #[.val (.int p0), .val (.int p1), .val (.int p2), .val (.long q3), .second, .val (.int p4), .val (.long q5), .second, .val (.int cE), .val (.int cC), .val (.int a1), .val (.long b1), .second, .val (.int a2), .val (.long b2), .second, .val (.ref ob1), .val (.int (0 : Int32)), .val (.int (0 : Int32)), .val (.long (0 : Int64)), .second, .val (.long (0 : Int64)), .second, .unset, .unset, .unset, .unset, .unset] [(.int (lcmpW ((0 : Int64) + (a2.toInt64)) (cE.toInt64)))])
        by_cases c124_43 : (cE.toInt64) < ((0 : Int64) + (a2.toInt64))
        · refine Runs.back (fun t_ k_ => XS.ifYes X25.here hx rfl (pc0 := 124) (pc' := 143) rfl (hb hby at_124) rfl ((if0 _ _).trans (tlt (lcT' c124_43)).2.2.1) (by decide) (by decide) k_) ?_
          show Runs _ _ _ _ T25 (mkF m 143 #[.val (.int p0), .val (.int p1), .val (.int p2), .val (.long q3), .second, .val (.int p4), .val (.long q5), .second, .val (.int cE), .val (.int cC), .val (.int a1), .val (.long b1), .second, .val (.int a2), .val (.long b2), .second, .val (.ref ob1), .val (.int (0 : Int32)), .val (.int (0 : Int32)), .val (.long (0 : Int64)), .second, .val (.long (0 : Int64)), .second, .unset, .unset, .unset, .unset, .unset] [])
          refine Runs.back (fun t_ k_ => XS.iconst X25.here hx rfl (hb hby at_143) k_) ?_
          show Runs _ _ _ _ T25 (mkF m 144 #[.val (.int p0), .val (.int p1), .val (.int p2), .val (.long q3), .second, .val (.int p4), .val (.long q5), .second, .val (.int cE), .val (.int cC), .val (.int a1), .val (.long b1), .second, .val (.int a2), .val (.long b2), .second, .val (.ref ob1), .val (.int (0 : Int32)), .val (.int (0 : Int32)), .val (.long (0 : Int64)), .second, .val (.long (0 : Int64)), .second, .unset, .unset, .unset, .unset, .unset] [(.int (0 : Int32))])
          refine Runs.back (fun t_ k_ => XS.istore X25.here hx rfl (hb hby at_144) rfl (l' := #[.val (.int p0), .val (.int p1), .val (.int p2), .val (.long q3), .second, .val (.int p4), .val (.long q5), .second, .val (.int cE), .val (.int cC), .val (.int a1), .val (.long b1), .second, .val (.int a2), .val (.long b2), .second, .val (.ref ob1), .val (.int (0 : Int32)), .val (.int (0 : Int32)), .val (.long (0 : Int64)), .second, .val (.long (0 : Int64)), .second, .val (.int (0 : Int32)), .unset, .unset, .unset, .unset]) rfl k_) ?_
          show Runs _ _ _ _ T25 (mkF m 146 #[.val (.int p0), .val (.int p1), .val (.int p2), .val (.long q3), .second, .val (.int p4), .val (.long q5), .second, .val (.int cE), .val (.int cC), .val (.int a1), .val (.long b1), .second, .val (.int a2), .val (.long b2), .second, .val (.ref ob1), .val (.int (0 : Int32)), .val (.int (0 : Int32)), .val (.long (0 : Int64)), .second, .val (.long (0 : Int64)), .second, .val (.int (0 : Int32)), .unset, .unset, .unset, .unset] [])
          exact J3 ((0 : Int32)) (if_neg (fun q => q.1 c124_43)).symm
        · refine Runs.back (fun t_ k_ => XS.ifNo X25.here hx rfl (hb hby at_124) rfl ((if0 _ _).trans (flt (lcF' c124_43)).2.2.1) k_) ?_
          show Runs _ _ _ _ T25 (mkF m 127 #[.val (.int p0), .val (.int p1), .val (.int p2), .val (.long q3), .second, .val (.int p4), .val (.long q5), .second, .val (.int cE), .val (.int cC), .val (.int a1), .val (.long b1), .second, .val (.int a2), .val (.long b2), .second, .val (.ref ob1), .val (.int (0 : Int32)), .val (.int (0 : Int32)), .val (.long (0 : Int64)), .second, .val (.long (0 : Int64)), .second, .unset, .unset, .unset, .unset, .unset] [])
          refine Runs.back (fun t_ k_ => XS.lload X25.here hx rfl (hb hby at_127) rfl k_) ?_
          show Runs _ _ _ _ T25 (mkF m 129 #[.val (.int p0), .val (.int p1), .val (.int p2), .val (.long q3), .second, .val (.int p4), .val (.long q5), .second, .val (.int cE), .val (.int cC), .val (.int a1), .val (.long b1), .second, .val (.int a2), .val (.long b2), .second, .val (.ref ob1), .val (.int (0 : Int32)), .val (.int (0 : Int32)), .val (.long (0 : Int64)), .second, .val (.long (0 : Int64)), .second, .unset, .unset, .unset, .unset, .unset] [(.long (0 : Int64))])
          refine Runs.back (fun t_ k_ => XS.lload X25.here hx rfl (hb hby at_129) rfl k_) ?_
          show Runs _ _ _ _ T25 (mkF m 131 #[.val (.int p0), .val (.int p1), .val (.int p2), .val (.long q3), .second, .val (.int p4), .val (.long q5), .second, .val (.int cE), .val (.int cC), .val (.int a1), .val (.long b1), .second, .val (.int a2), .val (.long b2), .second, .val (.ref ob1), .val (.int (0 : Int32)), .val (.int (0 : Int32)), .val (.long (0 : Int64)), .second, .val (.long (0 : Int64)), .second, .unset, .unset, .unset, .unset, .unset] [(.long b2), (.long (0 : Int64))])
          refine Runs.back (fun t_ k_ => XS.ladd X25.here hx rfl (hb hby at_131) rfl k_) ?_
          show Runs _ _ _ _ T25 (mkF m 132 #[.val (.int p0), .val (.int p1), .val (.int p2), .val (.long q3), .second, .val (.int p4), .val (.long q5), .second, .val (.int cE), .val (.int cC), .val (.int a1), .val (.long b1), .second, .val (.int a2), .val (.long b2), .second, .val (.ref ob1), .val (.int (0 : Int32)), .val (.int (0 : Int32)), .val (.long (0 : Int64)), .second, .val (.long (0 : Int64)), .second, .unset, .unset, .unset, .unset, .unset] [(.long ((0 : Int64) + b2))])
          refine Runs.back (fun t_ k_ => XS.iload X25.here hx rfl (hb hby at_132) rfl k_) ?_
          show Runs _ _ _ _ T25 (mkF m 134 #[.val (.int p0), .val (.int p1), .val (.int p2), .val (.long q3), .second, .val (.int p4), .val (.long q5), .second, .val (.int cE), .val (.int cC), .val (.int a1), .val (.long b1), .second, .val (.int a2), .val (.long b2), .second, .val (.ref ob1), .val (.int (0 : Int32)), .val (.int (0 : Int32)), .val (.long (0 : Int64)), .second, .val (.long (0 : Int64)), .second, .unset, .unset, .unset, .unset, .unset] [(.int cC), (.long ((0 : Int64) + b2))])
          refine Runs.back (fun t_ k_ => XS.i2l X25.here hx rfl (hb hby at_134) rfl k_) ?_
          show Runs _ _ _ _ T25 (mkF m 135 #[.val (.int p0), .val (.int p1), .val (.int p2), .val (.long q3), .second, .val (.int p4), .val (.long q5), .second, .val (.int cE), .val (.int cC), .val (.int a1), .val (.long b1), .second, .val (.int a2), .val (.long b2), .second, .val (.ref ob1), .val (.int (0 : Int32)), .val (.int (0 : Int32)), .val (.long (0 : Int64)), .second, .val (.long (0 : Int64)), .second, .unset, .unset, .unset, .unset, .unset] [(.long (cC.toInt64)), (.long ((0 : Int64) + b2))])
          refine Runs.back (fun t_ k_ => XS.lcmp X25.here hx rfl (hb hby at_135) rfl k_) ?_
          show Runs _ _ _ _ T25 (mkF m 136 #[.val (.int p0), .val (.int p1), .val (.int p2), .val (.long q3), .second, .val (.int p4), .val (.long q5), .second, .val (.int cE), .val (.int cC), .val (.int a1), .val (.long b1), .second, .val (.int a2), .val (.long b2), .second, .val (.ref ob1), .val (.int (0 : Int32)), .val (.int (0 : Int32)), .val (.long (0 : Int64)), .second, .val (.long (0 : Int64)), .second, .unset, .unset, .unset, .unset, .unset] [(.int (lcmpW ((0 : Int64) + b2) (cC.toInt64)))])
          by_cases c136_44 : (cC.toInt64) < ((0 : Int64) + b2)
          · refine Runs.back (fun t_ k_ => XS.ifYes X25.here hx rfl (pc0 := 136) (pc' := 143) rfl (hb hby at_136) rfl ((if0 _ _).trans (tlt (lcT' c136_44)).2.2.1) (by decide) (by decide) k_) ?_
            show Runs _ _ _ _ T25 (mkF m 143 #[.val (.int p0), .val (.int p1), .val (.int p2), .val (.long q3), .second, .val (.int p4), .val (.long q5), .second, .val (.int cE), .val (.int cC), .val (.int a1), .val (.long b1), .second, .val (.int a2), .val (.long b2), .second, .val (.ref ob1), .val (.int (0 : Int32)), .val (.int (0 : Int32)), .val (.long (0 : Int64)), .second, .val (.long (0 : Int64)), .second, .unset, .unset, .unset, .unset, .unset] [])
            refine Runs.back (fun t_ k_ => XS.iconst X25.here hx rfl (hb hby at_143) k_) ?_
            show Runs _ _ _ _ T25 (mkF m 144 #[.val (.int p0), .val (.int p1), .val (.int p2), .val (.long q3), .second, .val (.int p4), .val (.long q5), .second, .val (.int cE), .val (.int cC), .val (.int a1), .val (.long b1), .second, .val (.int a2), .val (.long b2), .second, .val (.ref ob1), .val (.int (0 : Int32)), .val (.int (0 : Int32)), .val (.long (0 : Int64)), .second, .val (.long (0 : Int64)), .second, .unset, .unset, .unset, .unset, .unset] [(.int (0 : Int32))])
            refine Runs.back (fun t_ k_ => XS.istore X25.here hx rfl (hb hby at_144) rfl (l' := #[.val (.int p0), .val (.int p1), .val (.int p2), .val (.long q3), .second, .val (.int p4), .val (.long q5), .second, .val (.int cE), .val (.int cC), .val (.int a1), .val (.long b1), .second, .val (.int a2), .val (.long b2), .second, .val (.ref ob1), .val (.int (0 : Int32)), .val (.int (0 : Int32)), .val (.long (0 : Int64)), .second, .val (.long (0 : Int64)), .second, .val (.int (0 : Int32)), .unset, .unset, .unset, .unset]) rfl k_) ?_
            show Runs _ _ _ _ T25 (mkF m 146 #[.val (.int p0), .val (.int p1), .val (.int p2), .val (.long q3), .second, .val (.int p4), .val (.long q5), .second, .val (.int cE), .val (.int cC), .val (.int a1), .val (.long b1), .second, .val (.int a2), .val (.long b2), .second, .val (.ref ob1), .val (.int (0 : Int32)), .val (.int (0 : Int32)), .val (.long (0 : Int64)), .second, .val (.long (0 : Int64)), .second, .val (.int (0 : Int32)), .unset, .unset, .unset, .unset] [])
            exact J3 ((0 : Int32)) (if_neg (fun q => q.2 c136_44)).symm
          · refine Runs.back (fun t_ k_ => XS.ifNo X25.here hx rfl (hb hby at_136) rfl ((if0 _ _).trans (flt (lcF' c136_44)).2.2.1) k_) ?_
            show Runs _ _ _ _ T25 (mkF m 139 #[.val (.int p0), .val (.int p1), .val (.int p2), .val (.long q3), .second, .val (.int p4), .val (.long q5), .second, .val (.int cE), .val (.int cC), .val (.int a1), .val (.long b1), .second, .val (.int a2), .val (.long b2), .second, .val (.ref ob1), .val (.int (0 : Int32)), .val (.int (0 : Int32)), .val (.long (0 : Int64)), .second, .val (.long (0 : Int64)), .second, .unset, .unset, .unset, .unset, .unset] [])
            refine Runs.back (fun t_ k_ => XS.iconst X25.here hx rfl (hb hby at_139) k_) ?_
            show Runs _ _ _ _ T25 (mkF m 140 #[.val (.int p0), .val (.int p1), .val (.int p2), .val (.long q3), .second, .val (.int p4), .val (.long q5), .second, .val (.int cE), .val (.int cC), .val (.int a1), .val (.long b1), .second, .val (.int a2), .val (.long b2), .second, .val (.ref ob1), .val (.int (0 : Int32)), .val (.int (0 : Int32)), .val (.long (0 : Int64)), .second, .val (.long (0 : Int64)), .second, .unset, .unset, .unset, .unset, .unset] [(.int (1 : Int32))])
            refine Runs.back (fun t_ k_ => XS.goto X25.here hx rfl (pc0 := 140) (pc' := 144) rfl (hb hby at_140) (by decide) (by decide) k_) ?_
            show Runs _ _ _ _ T25 (mkF m 144 #[.val (.int p0), .val (.int p1), .val (.int p2), .val (.long q3), .second, .val (.int p4), .val (.long q5), .second, .val (.int cE), .val (.int cC), .val (.int a1), .val (.long b1), .second, .val (.int a2), .val (.long b2), .second, .val (.ref ob1), .val (.int (0 : Int32)), .val (.int (0 : Int32)), .val (.long (0 : Int64)), .second, .val (.long (0 : Int64)), .second, .unset, .unset, .unset, .unset, .unset] [(.int (1 : Int32))])
            refine Runs.back (fun t_ k_ => XS.istore X25.here hx rfl (hb hby at_144) rfl (l' := #[.val (.int p0), .val (.int p1), .val (.int p2), .val (.long q3), .second, .val (.int p4), .val (.long q5), .second, .val (.int cE), .val (.int cC), .val (.int a1), .val (.long b1), .second, .val (.int a2), .val (.long b2), .second, .val (.ref ob1), .val (.int (0 : Int32)), .val (.int (0 : Int32)), .val (.long (0 : Int64)), .second, .val (.long (0 : Int64)), .second, .val (.int (1 : Int32)), .unset, .unset, .unset, .unset]) rfl k_) ?_
            show Runs _ _ _ _ T25 (mkF m 146 #[.val (.int p0), .val (.int p1), .val (.int p2), .val (.long q3), .second, .val (.int p4), .val (.long q5), .second, .val (.int cE), .val (.int cC), .val (.int a1), .val (.long b1), .second, .val (.int a2), .val (.long b2), .second, .val (.ref ob1), .val (.int (0 : Int32)), .val (.int (0 : Int32)), .val (.long (0 : Int64)), .second, .val (.long (0 : Int64)), .second, .val (.int (1 : Int32)), .unset, .unset, .unset, .unset] [])
            exact J3 ((1 : Int32)) (if_pos ⟨c124_43, c136_44⟩).symm
  · intro J1
    show Runs _ _ _ _ T4 (mkF m 60 #[.val (.int p0), .val (.int p1), .val (.int p2), .val (.long q3), .second, .val (.int p4), .val (.long q5), .second, .val (.int cE), .val (.int cC), .val (.int a1), .val (.long b1), .second, .val (.int a2), .val (.long b2), .second, .val (.ref ob1), .unset, .unset, .unset, .unset, .unset, .unset, .unset, .unset, .unset, .unset, .unset] [])
    refine Runs.back (fun t_ k_ => XS.iload X4.here hx rfl (hb hby at_60) rfl k_) ?_
    show Runs _ _ _ _ T4 (mkF m 62 #[.val (.int p0), .val (.int p1), .val (.int p2), .val (.long q3), .second, .val (.int p4), .val (.long q5), .second, .val (.int cE), .val (.int cC), .val (.int a1), .val (.long b1), .second, .val (.int a2), .val (.long b2), .second, .val (.ref ob1), .unset, .unset, .unset, .unset, .unset, .unset, .unset, .unset, .unset, .unset, .unset] [(.int a1)])
    refine Runs.back (fun t_ k_ => XS.iload X4.here hx rfl (hb hby at_62) rfl k_) ?_
    show Runs _ _ _ _ T4 (mkF m 64 #[.val (.int p0), .val (.int p1), .val (.int p2), .val (.long q3), .second, .val (.int p4), .val (.long q5), .second, .val (.int cE), .val (.int cC), .val (.int a1), .val (.long b1), .second, .val (.int a2), .val (.long b2), .second, .val (.ref ob1), .unset, .unset, .unset, .unset, .unset, .unset, .unset, .unset, .unset, .unset, .unset] [(.int cE), (.int a1)])
    by_cases c64_45 : cE < a1
    · refine Runs.back (fun t_ k_ => XS.icmpYes X4.here hx rfl (pc0 := 64) (pc' := 80) rfl (hb hby at_64) rfl (tlt c64_45).2.2.1 (by decide) (by decide) k_) ?_
      show Runs _ _ _ _ T4 (mkF m 80 #[.val (.int p0), .val (.int p1), .val (.int p2), .val (.long q3), .second, .val (.int p4), .val (.long q5), .second, .val (.int cE), .val (.int cC), .val (.int a1), .val (.long b1), .second, .val (.int a2), .val (.long b2), .second, .val (.ref ob1), .unset, .unset, .unset, .unset, .unset, .unset, .unset, .unset, .unset, .unset, .unset] [])
      refine Runs.back (fun t_ k_ => XS.iconst X4.here hx rfl (hb hby at_80) k_) ?_
      show Runs _ _ _ _ T4 (mkF m 81 #[.val (.int p0), .val (.int p1), .val (.int p2), .val (.long q3), .second, .val (.int p4), .val (.long q5), .second, .val (.int cE), .val (.int cC), .val (.int a1), .val (.long b1), .second, .val (.int a2), .val (.long b2), .second, .val (.ref ob1), .unset, .unset, .unset, .unset, .unset, .unset, .unset, .unset, .unset, .unset, .unset] [(.int (0 : Int32))])
      refine Runs.back (fun t_ k_ => XS.istore X4.here hx rfl (hb hby at_81) rfl (l' := #[.val (.int p0), .val (.int p1), .val (.int p2), .val (.long q3), .second, .val (.int p4), .val (.long q5), .second, .val (.int cE), .val (.int cC), .val (.int a1), .val (.long b1), .second, .val (.int a2), .val (.long b2), .second, .val (.ref ob1), .val (.int (0 : Int32)), .unset, .unset, .unset, .unset, .unset, .unset, .unset, .unset, .unset, .unset]) rfl k_) ?_
      show Runs _ _ _ _ T4 (mkF m 83 #[.val (.int p0), .val (.int p1), .val (.int p2), .val (.long q3), .second, .val (.int p4), .val (.long q5), .second, .val (.int cE), .val (.int cC), .val (.int a1), .val (.long b1), .second, .val (.int a2), .val (.long b2), .second, .val (.ref ob1), .val (.int (0 : Int32)), .unset, .unset, .unset, .unset, .unset, .unset, .unset, .unset, .unset, .unset] [])
      exact J1 ((0 : Int32)) (if_neg (fun q => q.1 c64_45)).symm
    · refine Runs.back (fun t_ k_ => XS.icmpNo X4.here hx rfl (hb hby at_64) rfl (flt c64_45).2.2.1 k_) ?_
      show Runs _ _ _ _ T4 (mkF m 67 #[.val (.int p0), .val (.int p1), .val (.int p2), .val (.long q3), .second, .val (.int p4), .val (.long q5), .second, .val (.int cE), .val (.int cC), .val (.int a1), .val (.long b1), .second, .val (.int a2), .val (.long b2), .second, .val (.ref ob1), .unset, .unset, .unset, .unset, .unset, .unset, .unset, .unset, .unset, .unset, .unset] [])
      refine Runs.back (fun t_ k_ => XS.lload X4.here hx rfl (hb hby at_67) rfl k_) ?_
      show Runs _ _ _ _ T4 (mkF m 69 #[.val (.int p0), .val (.int p1), .val (.int p2), .val (.long q3), .second, .val (.int p4), .val (.long q5), .second, .val (.int cE), .val (.int cC), .val (.int a1), .val (.long b1), .second, .val (.int a2), .val (.long b2), .second, .val (.ref ob1), .unset, .unset, .unset, .unset, .unset, .unset, .unset, .unset, .unset, .unset, .unset] [(.long b1)])
      refine Runs.back (fun t_ k_ => XS.iload X4.here hx rfl (hb hby at_69) rfl k_) ?_
      show Runs _ _ _ _ T4 (mkF m 71 #[.val (.int p0), .val (.int p1), .val (.int p2), .val (.long q3), .second, .val (.int p4), .val (.long q5), .second, .val (.int cE), .val (.int cC), .val (.int a1), .val (.long b1), .second, .val (.int a2), .val (.long b2), .second, .val (.ref ob1), .unset, .unset, .unset, .unset, .unset, .unset, .unset, .unset, .unset, .unset, .unset] [(.int cC), (.long b1)])
      refine Runs.back (fun t_ k_ => XS.i2l X4.here hx rfl (hb hby at_71) rfl k_) ?_
      show Runs _ _ _ _ T4 (mkF m 72 #[.val (.int p0), .val (.int p1), .val (.int p2), .val (.long q3), .second, .val (.int p4), .val (.long q5), .second, .val (.int cE), .val (.int cC), .val (.int a1), .val (.long b1), .second, .val (.int a2), .val (.long b2), .second, .val (.ref ob1), .unset, .unset, .unset, .unset, .unset, .unset, .unset, .unset, .unset, .unset, .unset] [(.long (cC.toInt64)), (.long b1)])
      refine Runs.back (fun t_ k_ => XS.lcmp X4.here hx rfl (hb hby at_72) rfl k_) ?_
      show Runs _ _ _ _ T4 (mkF m 73 #[.val (.int p0), .val (.int p1), .val (.int p2), .val (.long q3), .second, .val (.int p4), .val (.long q5), .second, .val (.int cE), .val (.int cC), .val (.int a1), .val (.long b1), .second, .val (.int a2), .val (.long b2), .second, .val (.ref ob1), .unset, .unset, .unset, .unset, .unset, .unset, .unset, .unset, .unset, .unset, .unset] [(.int (lcmpW b1 (cC.toInt64)))])
      by_cases c73_46 : (cC.toInt64) < b1
      · refine Runs.back (fun t_ k_ => XS.ifYes X4.here hx rfl (pc0 := 73) (pc' := 80) rfl (hb hby at_73) rfl ((if0 _ _).trans (tlt (lcT' c73_46)).2.2.1) (by decide) (by decide) k_) ?_
        show Runs _ _ _ _ T4 (mkF m 80 #[.val (.int p0), .val (.int p1), .val (.int p2), .val (.long q3), .second, .val (.int p4), .val (.long q5), .second, .val (.int cE), .val (.int cC), .val (.int a1), .val (.long b1), .second, .val (.int a2), .val (.long b2), .second, .val (.ref ob1), .unset, .unset, .unset, .unset, .unset, .unset, .unset, .unset, .unset, .unset, .unset] [])
        refine Runs.back (fun t_ k_ => XS.iconst X4.here hx rfl (hb hby at_80) k_) ?_
        show Runs _ _ _ _ T4 (mkF m 81 #[.val (.int p0), .val (.int p1), .val (.int p2), .val (.long q3), .second, .val (.int p4), .val (.long q5), .second, .val (.int cE), .val (.int cC), .val (.int a1), .val (.long b1), .second, .val (.int a2), .val (.long b2), .second, .val (.ref ob1), .unset, .unset, .unset, .unset, .unset, .unset, .unset, .unset, .unset, .unset, .unset] [(.int (0 : Int32))])
        refine Runs.back (fun t_ k_ => XS.istore X4.here hx rfl (hb hby at_81) rfl (l' := #[.val (.int p0), .val (.int p1), .val (.int p2), .val (.long q3), .second, .val (.int p4), .val (.long q5), .second, .val (.int cE), .val (.int cC), .val (.int a1), .val (.long b1), .second, .val (.int a2), .val (.long b2), .second, .val (.ref ob1), .val (.int (0 : Int32)), .unset, .unset, .unset, .unset, .unset, .unset, .unset, .unset, .unset, .unset]) rfl k_) ?_
        show Runs _ _ _ _ T4 (mkF m 83 #[.val (.int p0), .val (.int p1), .val (.int p2), .val (.long q3), .second, .val (.int p4), .val (.long q5), .second, .val (.int cE), .val (.int cC), .val (.int a1), .val (.long b1), .second, .val (.int a2), .val (.long b2), .second, .val (.ref ob1), .val (.int (0 : Int32)), .unset, .unset, .unset, .unset, .unset, .unset, .unset, .unset, .unset, .unset] [])
        exact J1 ((0 : Int32)) (if_neg (fun q => q.2 c73_46)).symm
      · refine Runs.back (fun t_ k_ => XS.ifNo X4.here hx rfl (hb hby at_73) rfl ((if0 _ _).trans (flt (lcF' c73_46)).2.2.1) k_) ?_
        show Runs _ _ _ _ T4 (mkF m 76 #[.val (.int p0), .val (.int p1), .val (.int p2), .val (.long q3), .second, .val (.int p4), .val (.long q5), .second, .val (.int cE), .val (.int cC), .val (.int a1), .val (.long b1), .second, .val (.int a2), .val (.long b2), .second, .val (.ref ob1), .unset, .unset, .unset, .unset, .unset, .unset, .unset, .unset, .unset, .unset, .unset] [])
        refine Runs.back (fun t_ k_ => XS.iconst X4.here hx rfl (hb hby at_76) k_) ?_
        show Runs _ _ _ _ T4 (mkF m 77 #[.val (.int p0), .val (.int p1), .val (.int p2), .val (.long q3), .second, .val (.int p4), .val (.long q5), .second, .val (.int cE), .val (.int cC), .val (.int a1), .val (.long b1), .second, .val (.int a2), .val (.long b2), .second, .val (.ref ob1), .unset, .unset, .unset, .unset, .unset, .unset, .unset, .unset, .unset, .unset, .unset] [(.int (1 : Int32))])
        refine Runs.back (fun t_ k_ => XS.goto X4.here hx rfl (pc0 := 77) (pc' := 81) rfl (hb hby at_77) (by decide) (by decide) k_) ?_
        show Runs _ _ _ _ T4 (mkF m 81 #[.val (.int p0), .val (.int p1), .val (.int p2), .val (.long q3), .second, .val (.int p4), .val (.long q5), .second, .val (.int cE), .val (.int cC), .val (.int a1), .val (.long b1), .second, .val (.int a2), .val (.long b2), .second, .val (.ref ob1), .unset, .unset, .unset, .unset, .unset, .unset, .unset, .unset, .unset, .unset, .unset] [(.int (1 : Int32))])
        refine Runs.back (fun t_ k_ => XS.istore X4.here hx rfl (hb hby at_81) rfl (l' := #[.val (.int p0), .val (.int p1), .val (.int p2), .val (.long q3), .second, .val (.int p4), .val (.long q5), .second, .val (.int cE), .val (.int cC), .val (.int a1), .val (.long b1), .second, .val (.int a2), .val (.long b2), .second, .val (.ref ob1), .val (.int (1 : Int32)), .unset, .unset, .unset, .unset, .unset, .unset, .unset, .unset, .unset, .unset]) rfl k_) ?_
        show Runs _ _ _ _ T4 (mkF m 83 #[.val (.int p0), .val (.int p1), .val (.int p2), .val (.long q3), .second, .val (.int p4), .val (.long q5), .second, .val (.int cE), .val (.int cC), .val (.int a1), .val (.long b1), .second, .val (.int a2), .val (.long b2), .second, .val (.ref ob1), .val (.int (1 : Int32)), .unset, .unset, .unset, .unset, .unset, .unset, .unset, .unset, .unset, .unset] [])
        exact J1 ((1 : Int32)) (if_pos ⟨c64_45, c73_46⟩).symm
set_option maxRecDepth 65536 in
set_option maxHeartbeats 40000000 in
theorem comes_1 {Post : Tables → Env → Array Value → State → Outcome → State → Prop} (hpost : ∀ tb e args s v u, (limb_1_1.after args s (.returned v) u = true ∧ limb_1_2.after args s (.returned v) u = true ∧ True) → FrameEnd s (.returned v) u (Jvm.fieldLocs frame_1_writes args s ++ Jvm.arrayLocs frame_1_arrays args s ++ Jvm.staticLocs frame_1_statics s) 16 128 → Post tb e args s (.returned v) u) :
    ArmFor flags0 classFile x code maxLocals ret World_1 tables_1 room_1 Calls_1 rest_1 Pre_1 Post := by
  intro l hfl _ _ p e ha hc hk s m args below hf hA hF happ hP
  obtain ⟨hcalls, hrest, hpre⟩ := hP
  obtain ⟨-, -, -, hnamed, -, -, -, hat⟩ := (Spec.applies_iff hf).mp happ
  obtain ⟨hg, hn⟩ := and_e (Cond.before_iff.mp (show (Jvm.Cond.and given_1 narrow_1).before args s = true from hpre))
  obtain ⟨g0, gr0⟩ := and_e hg
  obtain ⟨g1, gr1⟩ := and_e gr0
  obtain ⟨g2, gr2⟩ := and_e gr1
  obtain ⟨g3, gr3⟩ := and_e gr2
  obtain ⟨g4, gr4⟩ := and_e gr3
  obtain ⟨g5, gr5⟩ := and_e gr4
  obtain ⟨w0, w1, w2, w3, w4, w5, rfl⟩ : ∃ w0 w1 w2 w3 w4 w5 : Value, args = #[w0, w1, w2, w3, w4, w5] := by
    have hs : args.size = 6 := by simpa [Cond.value, given_1] using g0
    obtain ⟨L⟩ := args
    match L, hs with
    | [w0, w1, w2, w3, w4, w5], _ => exact ⟨w0, w1, w2, w3, w4, w5, rfl⟩
  have hw := fun d (hd : d ∈ tables_1) => atoms_spec (ws := Jvm.Cond.code x code maxLocals ret :: tables_1) hat d (List.mem_cons_of_mem _ hd)
  obtain ⟨i0, ei0⟩ := is_v g1
  obtain rfl : w0 = (.int i0) := Option.some.inj ei0
  obtain ⟨i1, ei1⟩ := is_v g2
  obtain rfl : w1 = (.int i1) := Option.some.inj ei1
  obtain ⟨i2, ei2⟩ := is_v g3
  obtain rfl : w2 = (.int i2) := Option.some.inj ei2
  obtain ⟨i3, ei3⟩ := isL_v g4
  obtain rfl : w3 = (.long i3) := Option.some.inj ei3
  obtain ⟨i4, ei4⟩ := is_v g5
  obtain rfl : w4 = (.int i4) := Option.some.inj ei4
  obtain ⟨i5, ei5⟩ := isL_v gr5
  obtain rfl : w5 = (.long i5) := Option.some.inj ei5
  obtain ⟨n, o, h1, h2, h3, _, L, rfl, ⟨rfl, N⟩, hq⟩ := rm0 l s _ hw tables_1 i0 i1 i2 i3 i4 i5 s.heap s.heap.size (Nat.le_refl _) p e ha hc hk s m _ below hf ((Spec.applies_iff_loose hf).mp happ).1 ⟨rfl, State.Warmed39.refl s, rfl⟩ trivial
  refine ⟨n, _, h1, h2, h3, hpost _ _ _ _ _ _ ⟨Cond.after_iff.mpr rfl, Cond.after_iff.mpr (eq_i res_at (Term.int_eval (1)) rfl), trivial⟩ ⟨hq.1, hq.2.1, (hq.2.2.sift fun y hy => Or.inr (N y hy)).mono (by decide) (by decide)⟩⟩
theorem main_1_1 : Claimed_1_1 := comes_1 fun _ _ _ _ _ _ h hF => ⟨h.1, hF⟩
theorem main_1_2 : Claimed_1_2 := comes_1 fun _ _ _ _ _ _ h hF => ⟨h.2.1, hF⟩
end Jvm.Pilot.@@N@@
namespace Jvm.Pilot.@@N@@
open Jvm Jvm.ClassFile Sem Op Lib Jvm.Free Jvm.Stand Jvm.Pilot.@@N@@.Jvm.D
/-! MADE BY PROGRAM (witnessworld.py) out of the Statement's table words and the real class files: 11 classes; the members and pool entries that the words name. The judged class is class 1, her method 1. -/
namespace start1
open Jvm.ClassFile
def u (s : String) : CpInfo := .utf8 (stringToUtf16 s)
/-- a pool by its gaps: so many unusable entries, then the entry; so many at the end -/
def gap : Nat → List CpInfo → List CpInfo
  | 0, r => r
  | n + 1, r => .unusable :: gap n r
def poolList (es : List (Nat × CpInfo)) (last : Nat) : List CpInfo := es.foldr (fun e r => gap e.1 (e.2 :: r)) (gap last [])
def pool (es : List (Nat × CpInfo)) (last : Nat) : Array CpInfo := ⟨poolList es last⟩
def fileOf (pool : Array CpInfo) (this : Nat) (attrs : Array Attribute := #[]) (ms : Array MethodInfo := #[]) (fl : Nat := 33) (sup : Nat := 0) (ifs : Array Nat := #[]) (fds : Array FieldInfo := #[]) : ClassFile where
  minorVersion := 0
  majorVersion := 65
  constantPool := pool
  accessFlags := fl
  thisClass := this
  superClass := sup
  interfaces := ifs
  fields := fds
  methods := ms
  attributes := attrs
def plain (name : String) (sup : Option ClassId) : Class where
  name := name
  kind := .ordinary
  loader := none
  accessFlags := 33
  super := sup
  interfaces := #[]
  cf := none
  fields := #[]
  methods := #[]
  instanceTypes := #[]
  staticTypes := #[]
  resolved := #[]
  callSites := []
  init := .initialized
  statics := none
  mirror := none

def pool0 : Array CpInfo := pool [(5, u "<init>"), (0, u "()V"), (1, .class_ 10), (1, u "java/lang/Object")] 113

def k0c0 : Code := { maxStack := 0, maxLocals := 1, code := object_method_1_code, exceptionTable := #[], attributes := #[] }
def k0m0 : Method := { name := "<init>", desc := "()V", sig := { parameters := [], returnType := none }, accessFlags := 1, code := some k0c0 }
/-- java/lang/Object -/
def k0 : Class := { plain "java/lang/Object" none with
  accessFlags := 33
  interfaces := #[]
  cf := some (fileOf pool0 8 #[] #[{ accessFlags := 1, nameIndex := 5, descriptorIndex := 6, attributes := #[] }] 33 0 #[] #[])
  fields := #[]
  methods := #[k0m0]
  instanceTypes := #[]
  staticTypes := #[]
  resolved := Array.replicate 124 none
  statics := none }

def pool1 : Array CpInfo := pool [(2, .class_ 4), (1, u "java/lang/Object"), (0, u "<init>"), (0, u "()V"), (0, .integer 2147483647), (0, .long 4294967295), (1, .class_ 11), (0, u "stanzabits/xml/Room"), (0, .class_ 13), (0, u "stanzabits/xml/Room$Size"), (0, .methodref 12 15), (0, .nameAndType 5 16), (0, u "(II)V"), (0, .methodref 10 18), (0, .nameAndType 5 19), (0, u "(Lstanzabits/xml/Room$Size;)V"), (0, .methodref 10 21), (0, .nameAndType 22 23), (0, u "take"), (0, u "(IJ)Z"), (0, .class_ 25), (0, u "stanzabits/xml/RoomTakePinLaw"), (2, u "law"), (0, u "(IIIJIJ)Z")] 5

def k1m0 : Method := { name := "<init>", desc := "()V", sig := { parameters := [], returnType := none }, accessFlags := 1, code := none }
def k1c1 : Code := { maxStack := 6, maxLocals := 28, code := code, exceptionTable := #[], attributes := #[] }
def k1m1 : Method := { name := "law", desc := "(IIIJIJ)Z", sig := { parameters := [.int, .int, .int, .long, .int, .long], returnType := some .boolean }, accessFlags := 9, code := some k1c1 }
/-- stanzabits/xml/RoomTakePinLaw -/
def k1 : Class := { plain "stanzabits/xml/RoomTakePinLaw" (some 0) with
  accessFlags := 49
  interfaces := #[]
  cf := some (fileOf pool1 24 #[] #[{ accessFlags := 1, nameIndex := 5, descriptorIndex := 6, attributes := #[] }, { accessFlags := 9, nameIndex := 28, descriptorIndex := 29, attributes := #[] }] 49 2 #[] #[])
  fields := #[]
  methods := #[k1m0, k1m1]
  instanceTypes := #[]
  staticTypes := #[]
  resolved := Array.replicate 35 none
  statics := none }

def pool2 : Array CpInfo := pool [(1, .methodref 2 3), (0, .class_ 4), (0, .nameAndType 5 6), (0, u "java/lang/Object"), (0, u "<init>"), (0, u "()V"), (0, .fieldref 8 9), (0, .class_ 10), (0, .nameAndType 11 12), (0, u "stanzabits/xml/Room"), (0, u "size"), (0, u "Lstanzabits/xml/Room$Size;"), (0, .fieldref 8 14), (0, .nameAndType 15 16), (0, u "entries"), (0, u "I"), (0, .methodref 18 19), (0, .class_ 20), (0, .nameAndType 15 21), (0, u "stanzabits/xml/Room$Size"), (0, u "()I"), (0, .fieldref 8 23), (0, .nameAndType 24 25), (0, u "chars"), (0, u "J"), (0, .methodref 18 27), (0, .nameAndType 24 21), (0, u "(Lstanzabits/xml/Room$Size;)V"), (2, u "take"), (0, u "(IJ)Z")] 8

def k2c0 : Code := { maxStack := 2, maxLocals := 2, code := prog_91_method_1_code, exceptionTable := #[], attributes := #[] }
def k2m0 : Method := { name := "<init>", desc := "(Lstanzabits/xml/Room$Size;)V", sig := { parameters := [(.object "stanzabits/xml/Room$Size")], returnType := none }, accessFlags := 1, code := some k2c0 }
def k2c1 : Code := { maxStack := 5, maxLocals := 5, code := prog_91_method_2_code, exceptionTable := #[], attributes := #[] }
def k2m1 : Method := { name := "take", desc := "(IJ)Z", sig := { parameters := [.int, .long], returnType := some .boolean }, accessFlags := 1, code := some k2c1 }
/-- stanzabits/xml/Room -/
def k2 : Class := { plain "stanzabits/xml/Room" (some 0) with
  accessFlags := 49
  interfaces := #[]
  cf := some (fileOf pool2 8 #[.nestMembers #[18]] #[{ accessFlags := 1, nameIndex := 5, descriptorIndex := 28, attributes := #[] }, { accessFlags := 1, nameIndex := 31, descriptorIndex := 32, attributes := #[] }] 49 2 #[] #[{ accessFlags := 18, nameIndex := 11, descriptorIndex := 12, attributes := #[] }, { accessFlags := 2, nameIndex := 15, descriptorIndex := 16, attributes := #[] }, { accessFlags := 2, nameIndex := 24, descriptorIndex := 25, attributes := #[] }])
  fields := #[{ name := "size", type := (.object "stanzabits/xml/Room$Size"), accessFlags := 18, slot := 0, constantValue := 0 }, { name := "entries", type := .int, accessFlags := 2, slot := 1, constantValue := 0 }, { name := "chars", type := .long, accessFlags := 2, slot := 2, constantValue := 0 }]
  methods := #[k2m0, k2m1]
  instanceTypes := #[(.object "stanzabits/xml/Room$Size"), .int, .long]
  staticTypes := #[]
  resolved := Array.replicate 41 none
  statics := none }

def pool3 : Array CpInfo := pool [(1, .methodref 2 3), (0, .class_ 4), (0, .nameAndType 5 6), (0, u "java/lang/Object"), (0, u "<init>"), (0, u "()V"), (0, .class_ 8), (0, u "java/lang/Record")] 13

def k3c0 : Code := { maxStack := 1, maxLocals := 1, code := jdk_30_method_1_code, exceptionTable := #[], attributes := #[] }
def k3m0 : Method := { name := "<init>", desc := "()V", sig := { parameters := [], returnType := none }, accessFlags := 4, code := some k3c0 }
/-- java/lang/Record -/
def k3 : Class := { plain "java/lang/Record" (some 0) with
  accessFlags := 1057
  interfaces := #[]
  cf := some (fileOf pool3 7 #[] #[{ accessFlags := 4, nameIndex := 5, descriptorIndex := 6, attributes := #[] }] 1057 2 #[] #[])
  fields := #[]
  methods := #[k3m0]
  instanceTypes := #[]
  staticTypes := #[]
  resolved := Array.replicate 22 none
  statics := none }

def pool4 : Array CpInfo := pool [(1, .methodref 2 3), (0, .class_ 4), (0, .nameAndType 5 6), (0, u "java/lang/Record"), (0, u "<init>"), (0, u "()V"), (7, .fieldref 15 16), (0, .class_ 17), (0, .nameAndType 18 19), (0, u "stanzabits/xml/Room$Size"), (0, u "entries"), (0, u "I"), (0, .fieldref 15 21), (0, .nameAndType 22 19), (0, u "chars"), (15, u "(II)V"), (2, u "DEFAULT"), (0, u "Lstanzabits/xml/Room$Size;"), (5, u "()I"), (5, .class_ 55), (0, u "stanzabits/xml/Room")] 20

def k4c0 : Code := { maxStack := 3, maxLocals := 3, code := prog_92_method_1_code, exceptionTable := #[], attributes := #[] }
def k4m0 : Method := { name := "<init>", desc := "(II)V", sig := { parameters := [.int, .int], returnType := none }, accessFlags := 1, code := some k4c0 }
def k4c1 : Code := { maxStack := 1, maxLocals := 1, code := prog_92_method_5_code, exceptionTable := #[], attributes := #[] }
def k4m1 : Method := { name := "entries", desc := "()I", sig := { parameters := [], returnType := some .int }, accessFlags := 1, code := some k4c1 }
def k4c2 : Code := { maxStack := 1, maxLocals := 1, code := prog_92_method_6_code, exceptionTable := #[], attributes := #[] }
def k4m2 : Method := { name := "chars", desc := "()I", sig := { parameters := [], returnType := some .int }, accessFlags := 1, code := some k4c2 }
/-- stanzabits/xml/Room$Size -/
def k4 : Class := { plain "stanzabits/xml/Room$Size" (some 3) with
  accessFlags := 49
  interfaces := #[]
  cf := some (fileOf pool4 15 #[.nestHost 54] #[{ accessFlags := 1, nameIndex := 5, descriptorIndex := 38, attributes := #[] }, { accessFlags := 1, nameIndex := 18, descriptorIndex := 48, attributes := #[] }, { accessFlags := 1, nameIndex := 22, descriptorIndex := 48, attributes := #[] }] 49 2 #[] #[{ accessFlags := 18, nameIndex := 18, descriptorIndex := 19, attributes := #[] }, { accessFlags := 18, nameIndex := 22, descriptorIndex := 19, attributes := #[] }, { accessFlags := 25, nameIndex := 41, descriptorIndex := 42, attributes := #[] }])
  fields := #[{ name := "entries", type := .int, accessFlags := 18, slot := 0, constantValue := 0 }, { name := "chars", type := .int, accessFlags := 18, slot := 1, constantValue := 0 }, { name := "DEFAULT", type := (.object "stanzabits/xml/Room$Size"), accessFlags := 25, slot := 0, constantValue := 0 }]
  methods := #[k4m0, k4m1, k4m2]
  instanceTypes := #[.int, .int]
  staticTypes := #[(.object "stanzabits/xml/Room$Size")]
  resolved := Array.replicate 76 none
  statics := none }

def pool5 : Array CpInfo := pool [(1, u "java/lang/Cloneable"), (0, .class_ 1), (0, u "java/lang/Object"), (0, .class_ 3)] 3

/-- java/lang/Cloneable -/
def k5 : Class := { plain "java/lang/Cloneable" (some 0) with
  accessFlags := 1537
  interfaces := #[]
  cf := some (fileOf pool5 2 #[] #[] 1537 4 #[] #[])
  fields := #[]
  methods := #[]
  instanceTypes := #[]
  staticTypes := #[]
  resolved := Array.replicate 8 none
  statics := none }

def pool6 : Array CpInfo := pool [(1, u "java/io/Serializable"), (0, .class_ 1), (0, u "java/lang/Object"), (0, .class_ 3)] 3

/-- java/io/Serializable -/
def k6 : Class := { plain "java/io/Serializable" (some 0) with
  accessFlags := 1537
  interfaces := #[]
  cf := some (fileOf pool6 2 #[] #[] 1537 4 #[] #[])
  fields := #[]
  methods := #[]
  instanceTypes := #[]
  staticTypes := #[]
  resolved := Array.replicate 8 none
  statics := none }

/-- the primitive byte -/
def k7 : Class := { plain "byte" none with kind := .primitive 'B', accessFlags := 0x411 }
/-- [B -/
def k8 : Class := { plain "[B" (some 0) with kind := .array 7 .byte, interfaces := #[5, 6], accessFlags := 1041 }

/-- the primitive int -/
def k9 : Class := { plain "int" none with kind := .primitive 'I', accessFlags := 0x411 }
/-- [I -/
def k10 : Class := { plain "[I" (some 0) with kind := .array 9 .int, interfaces := #[5, 6], accessFlags := 1041 }

def heap : Heap := #[]
def classes : Array Class := #[k0, k1, k2, k3, k4, k5, k6, k7, k8, k9, k10]
def interned : List (Array UInt16 × Addr) := []
def slotsUsed : Nat := 0
def theMethod : MethodId := ⟨1, 1⟩
def args0 : Array Value := #[.int 5, .int 6, .int 7, .long 8, .int 9, .long 10]
def aboutOver (below : List Frame) : State where
  vm := { classes := classes, interned := interned.toArray }
  heap := heap
  slotsUsed := slotsUsed
  threads := #[{ frames := .invoking theMethod args0 :: below }]
def below0 : List Frame := [.native { method := ⟨0, 0⟩, args := #[] }]
def about1 : State := aboutOver below0
def p0 : Program := .bare "" "" ""
def e0 : Env := launch0.env 0 0 0
theorem w_frames : about1.frames = Frame.invoking theMethod args0 :: below0 := rfl
set_option maxRecDepth 65536 in
theorem w_args : argsFit about1.vm theMethod args0 = true := by decide +kernel
set_option maxRecDepth 65536 in
theorem w_heap : heapFits about1 = true := by decide +kernel
set_option maxRecDepth 65536 in
theorem w_runnable : about1.curStatus? = some .runnable := by decide +kernel
set_option maxRecDepth 65536 in
theorem w_alone : about1.alone = true := by decide +kernel
set_option maxRecDepth 65536 in
theorem w_named : about1.methodNamed? x = some theMethod := by decide +kernel
set_option maxRecDepth 65536 in
theorem w_hears : about1.hears theMethod below0 = true := by decide +kernel
set_option maxRecDepth 65536 in
theorem w_ripe : about1.ripe theMethod args0 below0 = true := by decide +kernel
theorem w_running : about1.status = .running := rfl
set_option maxRecDepth 65536 in
theorem w_room : about1.hasRoom e0.platform room_1 = true :=
  launch0.hasRoom_least _ room_1 (by decide +kernel) (by decide +kernel) (by decide +kernel) (by decide +kernel) (by decide +kernel) (by decide +kernel)
theorem allAtoms_all (ts : List Jvm.Cond) (a : Array Jvm.Value) (st : Jvm.State) : (allAtoms ts).before a st = ts.all (fun c => c.before a st) := by
  induction ts with
  | nil => rfl
  | cons c t ih =>
    show (Jvm.Cond.and c (allAtoms t)).before a st = _
    rw [Jvm.Cond.before_and, ih, List.all_cons]
def words1 : List Jvm.Cond := Jvm.Cond.code x code maxLocals ret :: tables_1
/-- a 'code' word, met by the world's own term for the bytes: nothing is compared byte by byte -/
theorem code_word {y : MethodName} {bytes : ByteArray} {mx : Nat} {rt : Option FieldType} {a : Array Value} {s : State} {m : MethodId} {meth : Method} {c : Code} (h1 : s.methodNamed? y = some m) (h2 : s.vm.method? m = some meth) (h3 : meth.code = some c) (h4 : c.code = bytes)
    (h5 : (c.maxLocals == mx && c.exceptionTable.isEmpty && decide (c.maxStack ≤ mostOperands) && decide (meth.sig.returnType = rt) && !meth.locks && decide (parseMethodDescriptor y.desc = some meth.sig)) = true) : (Jvm.Cond.code y bytes mx rt).before a s = true := by
  simp only [Bool.and_eq_true, beq_iff_eq, Bool.not_eq_true', decide_eq_true_eq] at h5
  obtain ⟨⟨⟨⟨⟨g1, g2⟩, g3⟩, g4⟩, g5⟩, g6⟩ := h5
  simp [Cond.before, Cond.holds, Cond.value, h1, h2, h3, h4, g1, g2, g3, g4, g5, g6]
def isCode : Jvm.Cond → Bool
  | .code _ _ _ _ => true
  | _ => false
theorem all_split {L : List Jvm.Cond} {P : Jvm.Cond → Bool} (h1 : L.all (fun c => isCode c || P c) = true) (h2 : ∀ c ∈ L.filter isCode, P c = true) : L.all P = true := by
  refine List.all_eq_true.mpr fun c hc => ?_
  have h := List.all_eq_true.mp h1 c hc
  rcases Bool.eq_false_or_eq_true (isCode c) with hi | hi
  · exact h2 c (List.mem_filter.mpr ⟨hc, hi⟩)
  · simpa [hi] using h
set_option maxRecDepth 65536 in
theorem w_c0 : (Jvm.Cond.code x code maxLocals ret).before args0 about1 = true := code_word (m := ⟨1, 1⟩) (meth := k1m1) (c := k1c1) (by decide +kernel) rfl rfl rfl (by decide +kernel)
set_option maxRecDepth 65536 in
theorem w_c1 : (Jvm.Cond.code ({ cls := "stanzabits/xml/Room$Size", name := "<init>", desc := "(II)V" } : Jvm.MethodName) prog_92_method_1_code (3 : Nat) (Option.none : Option Jvm.ClassFile.FieldType)).before args0 about1 = true := code_word (m := ⟨4, 0⟩) (meth := k4m0) (c := k4c0) (by decide +kernel) rfl rfl rfl (by decide +kernel)
set_option maxRecDepth 65536 in
theorem w_c2 : (Jvm.Cond.code ({ cls := "java/lang/Record", name := "<init>", desc := "()V" } : Jvm.MethodName) jdk_30_method_1_code (1 : Nat) (Option.none : Option Jvm.ClassFile.FieldType)).before args0 about1 = true := code_word (m := ⟨3, 0⟩) (meth := k3m0) (c := k3c0) (by decide +kernel) rfl rfl rfl (by decide +kernel)
set_option maxRecDepth 65536 in
theorem w_c3 : (Jvm.Cond.code ({ cls := "java/lang/Object", name := "<init>", desc := "()V" } : Jvm.MethodName) object_method_1_code (1 : Nat) (Option.none : Option Jvm.ClassFile.FieldType)).before args0 about1 = true := code_word (m := ⟨0, 0⟩) (meth := k0m0) (c := k0c0) (by decide +kernel) rfl rfl rfl (by decide +kernel)
set_option maxRecDepth 65536 in
theorem w_c4 : (Jvm.Cond.code ({ cls := "stanzabits/xml/Room", name := "<init>", desc := "(Lstanzabits/xml/Room$Size;)V" } : Jvm.MethodName) prog_91_method_1_code (2 : Nat) (Option.none : Option Jvm.ClassFile.FieldType)).before args0 about1 = true := code_word (m := ⟨2, 0⟩) (meth := k2m0) (c := k2c0) (by decide +kernel) rfl rfl rfl (by decide +kernel)
set_option maxRecDepth 65536 in
theorem w_c5 : (Jvm.Cond.code ({ cls := "stanzabits/xml/Room", name := "take", desc := "(IJ)Z" } : Jvm.MethodName) prog_91_method_2_code (5 : Nat) (Option.some Jvm.ClassFile.FieldType.boolean)).before args0 about1 = true := code_word (m := ⟨2, 1⟩) (meth := k2m1) (c := k2c1) (by decide +kernel) rfl rfl rfl (by decide +kernel)
set_option maxRecDepth 65536 in
theorem w_c6 : (Jvm.Cond.code ({ cls := "stanzabits/xml/Room$Size", name := "entries", desc := "()I" } : Jvm.MethodName) prog_92_method_5_code (1 : Nat) (Option.some Jvm.ClassFile.FieldType.int)).before args0 about1 = true := code_word (m := ⟨4, 1⟩) (meth := k4m1) (c := k4c1) (by decide +kernel) rfl rfl rfl (by decide +kernel)
set_option maxRecDepth 65536 in
theorem w_c7 : (Jvm.Cond.code ({ cls := "stanzabits/xml/Room$Size", name := "chars", desc := "()I" } : Jvm.MethodName) prog_92_method_6_code (1 : Nat) (Option.some Jvm.ClassFile.FieldType.int)).before args0 about1 = true := code_word (m := ⟨4, 2⟩) (meth := k4m2) (c := k4c2) (by decide +kernel) rfl rfl rfl (by decide +kernel)
def codes1 : List Jvm.Cond := [Jvm.Cond.code x code maxLocals ret, Jvm.Cond.code ({ cls := "stanzabits/xml/Room$Size", name := "<init>", desc := "(II)V" } : Jvm.MethodName) prog_92_method_1_code (3 : Nat) (Option.none : Option Jvm.ClassFile.FieldType), Jvm.Cond.code ({ cls := "java/lang/Record", name := "<init>", desc := "()V" } : Jvm.MethodName) jdk_30_method_1_code (1 : Nat) (Option.none : Option Jvm.ClassFile.FieldType), Jvm.Cond.code ({ cls := "java/lang/Object", name := "<init>", desc := "()V" } : Jvm.MethodName) object_method_1_code (1 : Nat) (Option.none : Option Jvm.ClassFile.FieldType), Jvm.Cond.code ({ cls := "stanzabits/xml/Room", name := "<init>", desc := "(Lstanzabits/xml/Room$Size;)V" } : Jvm.MethodName) prog_91_method_1_code (2 : Nat) (Option.none : Option Jvm.ClassFile.FieldType), Jvm.Cond.code ({ cls := "stanzabits/xml/Room", name := "take", desc := "(IJ)Z" } : Jvm.MethodName) prog_91_method_2_code (5 : Nat) (Option.some Jvm.ClassFile.FieldType.boolean), Jvm.Cond.code ({ cls := "stanzabits/xml/Room$Size", name := "entries", desc := "()I" } : Jvm.MethodName) prog_92_method_5_code (1 : Nat) (Option.some Jvm.ClassFile.FieldType.int), Jvm.Cond.code ({ cls := "stanzabits/xml/Room$Size", name := "chars", desc := "()I" } : Jvm.MethodName) prog_92_method_6_code (1 : Nat) (Option.some Jvm.ClassFile.FieldType.int)]
set_option maxRecDepth 65536 in
theorem codes_eq : words1.filter isCode = codes1 := rfl
theorem w_codes : ∀ c ∈ words1.filter isCode, c.before args0 about1 = true := by
  rw [codes_eq]
  intro c hc
  simp only [codes1, List.mem_cons, List.not_mem_nil, or_false] at hc
  rcases hc with rfl | rfl | rfl | rfl | rfl | rfl | rfl | rfl
  · exact w_c0
  · exact w_c1
  · exact w_c2
  · exact w_c3
  · exact w_c4
  · exact w_c5
  · exact w_c6
  · exact w_c7
set_option maxRecDepth 65536 in
theorem w_t1 : (words1.take 24).all (fun c => isCode c || c.before args0 about1) = true := by decide +kernel
set_option maxRecDepth 65536 in
theorem w_t2 : ((words1.drop 24).take 24).all (fun c => isCode c || c.before args0 about1) = true := by decide +kernel
set_option maxRecDepth 65536 in
theorem w_t3 : ((words1.drop 24).drop 24).all (fun c => isCode c || c.before args0 about1) = true := by decide +kernel
theorem w_tables : (allAtoms (Jvm.Cond.code x code maxLocals ret :: tables_1)).before args0 about1 = true := by
  rw [allAtoms_all]
  show words1.all (fun c => c.before args0 about1) = true
  refine all_split ?_ w_codes
  rw [← List.take_append_drop 24 words1, List.all_append, w_t1, ← List.take_append_drop 24 (words1.drop 24), List.all_append, w_t2, w_t3]
  rfl
set_option maxRecDepth 65536 in
theorem w_case : (Jvm.Cond.and given_1 narrow_1).before args0 about1 = true := by decide +kernel
theorem w_applies : (headSpec (Jvm.Cond.code x code maxLocals ret :: tables_1) room_1).applies x e0.platform about1 = true :=
  (Spec.applies_iff w_frames).mpr ⟨w_running, w_runnable, w_alone, w_named, w_hears, w_ripe, w_room, w_tables⟩
theorem atStart : AtStart classFile x code maxLocals ret World_1 tables_1 room_1 Calls_1 rest_1 Pre_1 launch0 p0 e0 about1 theMethod args0 below0 :=
  ⟨lists_1, trivial, launch0.admits_env _ _ _, launch0.least_env, fairChoices_fair.cas, fairChoices_fair.clock, w_frames, w_args, w_heap, w_applies, trivial, trivial, w_case⟩
end start1
theorem witness_1 : WitnessClaimed_1 := ⟨start1.p0, start1.e0, start1.about1, start1.theMethod, start1.args0, start1.below0, start1.atStart⟩
end Jvm.Pilot.@@N@@
