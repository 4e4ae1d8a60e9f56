import JvmDerived
import JvmDerived.Pilot.@@N@@Statement
import JvmDerived.Pilot.@@N@@Code
set_option linter.unusedVariables false
set_option linter.unusedSimpArgs false
namespace Jvm.RoadKit
open Sem ClassFile Op Lib Jvm.Stand Jvm.Free Jvm.LawKit
section New
variable {p : Program} {l : Launch} {e : Env} {R : Room} {s : State} {m : MethodId} {args : Array Value} {below : List Frame} {meth : Method} {c : Code} {T : State} {locs : List Loc} {cells slots : Nat}
theorem retI (X : Stand p l e R s m args below meth c T locs cells slots) (hx : p.tables.exec = Jvm.exec) {pc : Nat} {Ls : Array Slot} {z : Int32} {rest : List Value} (hret : meth.sig.returnType = some .int) (hd : decode c.code pc = .ok (.ireturn, 1)) {fs : List Frame}
    (hl : ∀ (f : JFrame) (acts : List Action), f.method = m → f.locked = none → f.entered = [] → (doReturn e (T.setTop f) acts (some (.int z))).1 = T.setFrames fs) : Steps p.tables e below (T.setTop (mkF m pc Ls (.int z :: rest))) (T.setFrames fs) := by
  have hm' : T.vm.method? m = some meth := X.method'
  have hn : narrow .int (.int z) = .int z := rfl
  show Steps p.tables e below (T.setTop { method := m, pc := pc, locals := Ls, stack := _ :: rest, locked := none }) _
  jvm_step X.here [X.here.top, hx, hd, hm', hret, hn]
  first | (intro acts; rw [hl _ acts rfl rfl rfl]) | rw [hl _ _ rfl rfl rfl]
  exact Steps.refl _
end New
end Jvm.RoadKit
namespace Jvm.Pilot.@@N@@
open Jvm Jvm.ClassFile Sem Op Lib Jvm.Free Jvm.Stand Jvm.LawKit Jvm.RoadKit Bundle Jvm.Pilot.@@N@@.Jvm.D
/-! the own kit: a run told backwards (Runs), arrays by a function of the place (OArr), the comparisons of longs -/
def Runs (tb : Tables) (e : Env) (below : List Frame) (R : State → Outcome → Prop) (T : State) (g : JFrame) : Prop := ∃ t o, Steps tb e below (T.setTop g) t ∧ R t o
section Own
variable {tb : Tables} {e : Env} {below : List Frame} {R : State → Outcome → Prop} {T T' : State} {g g' : JFrame}
theorem Runs.back (k : ∀ t, Steps tb e below (T'.setTop g') t → Steps tb e below (T.setTop g) t) (h : Runs tb e below R T' g') : Runs tb e below R T g := by
  obtain ⟨t, o, h1, h2⟩ := h; exact ⟨t, o, k t h1, h2⟩
theorem Runs.trans (k : Steps tb e below (T.setTop g) (T'.setTop g')) (h : Runs tb e below R T' g') : Runs tb e below R T g := by
  obtain ⟨t, o, h1, h2⟩ := h; exact ⟨t, o, Steps.trans k h1, h2⟩
theorem Runs.enter (q : g = g') (h : Runs tb e below R T g') : ∃ t o, Steps tb e below (T.setTop g) t ∧ R t o := by subst q; exact h
theorem Runs.join {α : Type} {P : α → Prop} {F : α → JFrame} (h : ∀ v, P v → Runs tb e below R T (F v)) (k : (∀ v, P v → Runs tb e below R T (F v)) → Runs tb e below R T g) : Runs tb e below R T g := k h
theorem Runs.joinT {α : Type} {P : α → State → Prop} {F : α → JFrame} (h : ∀ v T', P v T' → Runs tb e below R T' (F v)) (k : (∀ v T', P v T' → Runs tb e below R T' (F v)) → Runs tb e below R T g) : Runs tb e below R T g := k h
theorem lcT {x y : Int64} (h : x < y) : lcmpW x y < 0 := by
  have h1 : ¬ y < x := Int64.not_lt.mpr (Int64.le_of_lt h)
  have h2 : ¬ x = y := fun q => by subst q; exact Int64.lt_irrefl h
  simp [lcmpW, h1, h2]
theorem lcF {x y : Int64} (h : ¬ x < y) : ¬ lcmpW x y < 0 := by
  unfold lcmpW
  by_cases h1 : x > y
  · simp only [if_pos h1]; decide
  · have h2 : x = y := Int64.le_antisymm (Int64.not_lt.mp h1) (Int64.not_lt.mp h)
    simp only [if_neg h1, if_pos h2]; decide
theorem lcT' {x y : Int64} (h : y < x) : 0 < lcmpW x y := by
  unfold lcmpW; rw [if_pos h]; decide
theorem lcF' {x y : Int64} (h : ¬ y < x) : ¬ 0 < lcmpW x y := by
  unfold lcmpW
  have h1 : ¬ x > y := h
  simp only [if_neg h1]
  by_cases h2 : x = y
  · simp only [if_pos h2]; decide
  · simp only [if_neg h2]; decide
theorem lcE {x y : Int64} (h : x = y) : lcmpW x y = 0 := by
  have h1 : ¬ x > y := fun q => by subst h; exact Int64.lt_irrefl q
  unfold lcmpW; rw [if_neg h1, if_pos h]
theorem lcN {x y : Int64} (h : ¬ x = y) : ¬ lcmpW x y = 0 := by
  unfold lcmpW
  by_cases h1 : x > y
  · simp only [if_pos h1]; decide
  · simp only [if_neg h1, if_neg h]; decide
def OArr (Z : State) (h : Heap) (a : Addr) (ty : FieldType) (n : Nat) (f : Nat → Value) : Prop := ∃ c : Cell, Arr Z h a c ty ∧ c.slots.size = n ∧ ∀ i, i < n → c.slots[i]? = some (f i)
variable {Z : State} {h h' : Heap} {a b : Addr} {ty : FieldType} {n sl : Nat} {f : Nat → Value} {v : Value} {ws : List Addr}
theorem OArr.lt (F : OArr Z h a ty n f) : a < h.size := by obtain ⟨c, A, -⟩ := F; exact A.lt
theorem OArr.ext (F : OArr Z h a ty n f) (E : Ext h h') : OArr Z h' a ty n f := by obtain ⟨c, A, r⟩ := F; exact ⟨c, A.ext E, r⟩
theorem OArr.other (F : OArr Z h b ty n f) (W : Wr h h' a sl v) (q : b ≠ a) : OArr Z h' b ty n f := by obtain ⟨c, A, r⟩ := F; exact ⟨c, A.other W q, r⟩
theorem OArr.keep (F : OArr Z h a ty n f) (K : Keep h h' ws) (q : a ∉ ws) : OArr Z h' a ty n f := by obtain ⟨c, A, r⟩ := F; exact ⟨c, ⟨K.2.1 a c A.1 q, A.2⟩, r⟩
theorem OArr.congr (F : OArr Z h a ty n f) {f' : Nat → Value} (q : ∀ i, i < n → f i = f' i) : OArr Z h a ty n f' := by obtain ⟨c, A, r1, r2⟩ := F; exact ⟨c, A, r1, fun i hi => by rw [r2 i hi, q i hi]⟩
theorem OArr.set (F : OArr Z h a ty n f) (W : Wr h h' a sl v) : OArr Z h' a ty n (fun i => if i = sl then v else f i) := by
  obtain ⟨c, A, r1, r2⟩ := F
  obtain ⟨cell, e1, -, e3, -⟩ := id W
  cases e1.symm.trans A.1
  refine ⟨_, A.same W, by rw [sz_set]; exact r1, fun i hi => ?_⟩
  by_cases q : i = sl
  · subst q; simp [Cell.setSlot, e3]
  · simp only [if_neg q]; rw [← r2 i hi]; exact Array.getElem?_setIfInBounds_ne (Ne.symm q)
theorem OArr.new {cA : ClassId} {z : Int32} (A : Arr Z h a (newA cA ty z) ty) (q : z.toNatClampNeg = n) (hd : defaultValue ty = v) : OArr Z h a ty n (fun _ => v) :=
  ⟨_, A, by rw [sz_new]; exact q, fun i hi => by subst hd; simp [newA, q, hi]⟩
theorem inbO {j : Int32} {k : Nat} (ng : ¬ j < 0) (e : j.toNatClampNeg = k) (h : k < n) : ¬ (j < 0 ∨ n ≤ j.toNatClampNeg) := fun q => q.elim ng fun r => by rw [e] at r; exact absurd h (Nat.not_lt.mpr r)
theorem readO {c : Cell} {j : Int32} {k : Nat} (H : ∀ i, i < n → c.slots[i]? = some (f i)) (e : j.toNatClampNeg = k) (h : k < n) (q : f k = v) : c.slots[j.toNatClampNeg]? = some v := by rw [e, H k h, q]
theorem hideL {p : Program} {l : Launch} {R : Room} {s : State} {m : MethodId} {args : Array Value} {meth : Method} {c : Code} {locs : List Loc} {cells slots n0 : Nat} (X : Stand p l e R s m args below meth c T locs cells slots) (N : Fr n0 locs) : ∃ L, Stand p l e R s m args below meth c T L cells slots ∧ Fr n0 L := ⟨_, X, N⟩
theorem lti {x y : Int32} : x < y ↔ x.toInt < y.toInt := Int32.lt_iff_toInt_lt
theorem ltl {x y : Int64} : x < y ↔ x.toInt < y.toInt := Int64.lt_iff_toInt_lt
theorem eqi {x y : Int32} : x = y ↔ x.toInt = y.toInt := Int32.toInt_inj.symm
theorem eql {x y : Int64} : x = y ↔ x.toInt = y.toInt := Int64.toInt_inj.symm
end Own

theorem add32 {x y : Int32} (h1 : -2147483648 ≤ x.toInt + y.toInt) (h2 : x.toInt + y.toInt < 2147483648) : (x + y).toInt = x.toInt + y.toInt := by
  rw [Int32.toInt_add]; exact Int.bmod_eq_of_le (by omega) (by omega)
theorem sub32 {x y : Int32} (h1 : -2147483648 ≤ x.toInt - y.toInt) (h2 : x.toInt - y.toInt < 2147483648) : (x - y).toInt = x.toInt - y.toInt := by
  rw [Int32.toInt_sub]; exact Int.bmod_eq_of_le (by omega) (by omega)
theorem add64 {x y : Int64} (h1 : -9223372036854775808 ≤ x.toInt + y.toInt) (h2 : x.toInt + y.toInt < 9223372036854775808) : (x + y).toInt = x.toInt + y.toInt := by
  rw [Int64.toInt_add]; exact Int.bmod_eq_of_le (by omega) (by omega)
theorem sub64 {x y : Int64} (h1 : -9223372036854775808 ≤ x.toInt - y.toInt) (h2 : x.toInt - y.toInt < 9223372036854775808) : (x - y).toInt = x.toInt - y.toInt := by
  rw [Int64.toInt_sub]; exact Int.bmod_eq_of_le (by omega) (by omega)
theorem l2i' {x : Int64} (h1 : -2147483648 ≤ x.toInt) (h2 : x.toInt < 2147483648) : x.toInt32.toInt = x.toInt := by
  rw [Int64.toInt_toInt32]; exact Int.bmod_eq_of_le (by omega) (by omega)
theorem bd32 (x : Int32) : -2147483648 ≤ x.toInt ∧ x.toInt < 2147483648 := ⟨Int32.le_toInt x, Int32.toInt_lt x⟩
theorem takeE {c e p : Int32} : c.toInt64 < e.toInt64 + p.toInt64 ↔ c.toInt < e.toInt + p.toInt := by
  have b1 := bd32 e; have b2 := bd32 p
  rw [ltl, add64 (by rw [c_i2l, c_i2l]; omega) (by rw [c_i2l, c_i2l]; omega), c_i2l, c_i2l, c_i2l]
theorem takeC {c : Int32} {x y : Int64} (h1 : -9223372036854775808 ≤ x.toInt + y.toInt) (h2 : x.toInt + y.toInt < 9223372036854775808) : c.toInt64 < x + y ↔ c.toInt < x.toInt + y.toInt := by
  rw [ltl, add64 h1 h2, c_i2l]
theorem z32 : (0 : Int32).toInt = 0 := by decide
theorem o32 : (1 : Int32).toInt = 1 := by decide
theorem z64 : (0 : Int64).toInt = 0 := by decide
theorem o64 : (1 : Int64).toInt = 1 := by decide

def fitF (w h : Int32) : Int32 := if (65535 : Int32) < w then (0 : Int32) else if (65535 : Int32) < h then (0 : Int32) else (1 : Int32)
theorem i2c_small {x : Int32} (h : 0 ≤ x.toInt ∧ x.toInt < 256) : ¬ (255 : Int32) < x.toUInt32.toUInt16.toUInt32.toInt32 := by
  have q := c_i2c x
  rw [lti, show (255 : Int32).toInt = 255 from by decide]; omega
theorem d7_0 : decode jdk_30_method_1_code 0 = .ok (.aload_n 0, 1) := by decide +kernel
theorem d7_1 : decode jdk_30_method_1_code 1 = .ok (.invokespecial 1, 3) := by decide +kernel
theorem d7_4 : decode jdk_30_method_1_code 4 = .ok (.return_, 1) := by decide +kernel
theorem pn_7 : plainName "java/lang/Record" = true := by first | (simp [plainName, overriddenIn]; done) | decide +kernel
theorem ef_7 (m : MethodId) (r0 : Addr) : entryFrame m #[(.ref r0)] 1 = mkF m 0 #[.val (.ref r0)] [] := by first | (simp [entryFrame, mkF, argsToLocals, Value.category]; done) | rfl
def Q7 (Z : State) (r0 : Addr)  (h0 : Heap) (n0 : Nat) (v : Option Value) (h : Heap) (L : List Loc) : Prop := v = none ∧ Fr n0 L ∧ h = h0
set_option maxRecDepth 65536 in
set_option maxHeartbeats 40000000 in
theorem rm7 (l : Launch) (Z : State) (a0 : Array Value) (hw : ∀ d ∈ tables_1, d.before a0 Z = true) (ws : List Jvm.Cond) (r0 : Addr)  (h0 : Heap) (n0 : Nat) (Z0 : n0 ≤ h0.size) :
    MetFree l (⟨"java/lang/Record", "<init>", "()V"⟩ : MethodName) (head1 (Jvm.Cond.code (⟨"java/lang/Record", "<init>", "()V"⟩ : MethodName) jdk_30_method_1_code 1 none :: ws) ({ frames := 1, cells := 0, slots := 0, locals := 12 } : Room)) (fun a U => a = #[(.ref r0)] ∧ Z.Warmed39 U.vm ∧ U.heap = h0) (fun _ _ _ _ _ => True) (fun _ U o U' => ∃ v L, o = .returned v ∧ Q7 Z r0 h0 n0 v U'.heap L ∧ FrameEnd U o U' L ({ frames := 1, cells := 0, slots := 0, locals := 12 } : Room).cells ({ frames := 1, cells := 0, slots := 0, locals := 12 } : Room).slots) := by
  refine MetFree.of_bodySF (plainFor_of_name pn_7) hisR ?_
  intro p e s m args below meth c s₁ Bd hml0 hP hK
  obtain ⟨rfl, hZ, hh⟩ := hP
  have hx := Bd.exec
  have hby := Bd.bytes
  have hml : c.maxLocals = 1 := hml0
  have hown : s.vm.findClass "java/lang/Record" = some m.cls := findClass_of_methodNamed Bd.named
  have hnm := (name_of_methodNamed Bd.named Bd.method).1
  have X0 : Stand p l e ({ frames := 1, cells := 0, slots := 0, locals := 12 } : Room) s m #[(.ref r0)] below meth c s₁ [] 0 0 := Stand.of_body Bd
  have e0 : s₁.heap = h0 := by rw [← hh, Bd.state]; rfl
  have N0 := Fr.nil n0
  refine Runs.enter (ef_7 m r0) ?_
  show Runs _ _ _ _ s₁ (mkF m 0 #[.val (.ref r0)] [])
  refine Runs.back (fun t_ k_ => XS.aloadN X0.here hx rfl (hb hby d7_0) rfl rfl k_) ?_
  show Runs _ _ _ _ s₁ (mkF m 1 #[.val (.ref r0)] [(.ref r0)])
  obtain ⟨T1, X1, e1, st1⟩ := initO X0 hx hZ hown (hw _ (List.mem_of_getElem? (i := 37) rfl)) (hw _ (List.mem_of_getElem? (i := 20) rfl)) (hw _ (List.mem_of_getElem? (i := 21) rfl)) e0 (g := (mkF m 1 #[.val (.ref r0)] [(.ref r0)])) rfl (by rw [hml]; rfl) rfl (hb hby d7_1) (by decide) (W := 0) (by show 2 * 0 + _ ≤ _; exact Nat.le_of_eq rfl) (by decide)
  refine Runs.back st1 ?_
  show Runs _ _ _ _ T1 (mkF m 4 #[.val (.ref r0)] [])
  obtain ⟨fs, hr, hrun, hended, hW, hsame⟩ := X1.leave (v := none) (fun _ => rfl)
  exact ⟨_, _, (X1.returnOut hx Bd.returns (hb hby d7_4) hr), hrun, hended, _, _, rfl, ⟨rfl, N0, e1⟩, ⟨_, rfl⟩, hW, hsame.mono (by decide) (by decide)⟩
theorem d2_0 : decode jdk_43_method_3_code 0 = .ok (.iload_n 0, 1) := by decide +kernel
theorem d2_1 : decode jdk_43_method_3_code 1 = .ok (.sipush 255, 3) := by decide +kernel
theorem d2_4 : decode jdk_43_method_3_code 4 = .ok (.if_icmp .gt 7, 3) := by decide +kernel
theorem d2_7 : decode jdk_43_method_3_code 7 = .ok (.iconst 1, 1) := by decide +kernel
theorem d2_8 : decode jdk_43_method_3_code 8 = .ok (.goto 4, 3) := by decide +kernel
theorem d2_11 : decode jdk_43_method_3_code 11 = .ok (.iconst 0, 1) := by decide +kernel
theorem d2_12 : decode jdk_43_method_3_code 12 = .ok (.ireturn, 1) := by decide +kernel
theorem pn_2 : plainName "java/lang/StringLatin1" = true := by first | (simp [plainName, overriddenIn]; done) | decide +kernel
theorem ef_2 (m : MethodId) (p0 : Int32) : entryFrame m #[(.int p0)] 1 = mkF m 0 #[.val (.int p0)] [] := by first | (simp [entryFrame, mkF, argsToLocals, Value.category]; done) | rfl
def Q2 (Z : State) (p0 : Int32)  (h0 : Heap) (n0 : Nat) (v : Option Value) (h : Heap) (L : List Loc) : Prop := v = some (.int 1) ∧ Fr n0 L ∧ h = h0
set_option maxRecDepth 65536 in
set_option maxHeartbeats 40000000 in
theorem rm2 (l : Launch) (Z : State) (a0 : Array Value) (hw : ∀ d ∈ tables_1, d.before a0 Z = true) (ws : List Jvm.Cond) (p0 : Int32)  (h0 : Heap) (n0 : Nat) (Z0 : n0 ≤ h0.size) (hc : ¬ (255 : Int32) < p0) :
    MetFree l (⟨"java/lang/StringLatin1", "canEncode", "(C)Z"⟩ : MethodName) (head1 (Jvm.Cond.code (⟨"java/lang/StringLatin1", "canEncode", "(C)Z"⟩ : MethodName) jdk_43_method_3_code 1 (some .boolean) :: ws) ({ frames := 0, cells := 0, slots := 0, locals := 0 } : Room)) (fun a U => a = #[(.int p0)] ∧ Z.Warmed39 U.vm ∧ U.heap = h0) (fun _ _ _ _ _ => True) (fun _ U o U' => ∃ v L, o = .returned v ∧ Q2 Z p0 h0 n0 v U'.heap L ∧ FrameEnd U o U' L ({ frames := 0, cells := 0, slots := 0, locals := 0 } : Room).cells ({ frames := 0, cells := 0, slots := 0, locals := 0 } : Room).slots) := by
  refine MetFree.of_bodySF (plainFor_of_name pn_2) hisR ?_
  intro p e s m args below meth c s₁ Bd hml0 hP hK
  obtain ⟨rfl, hZ, hh⟩ := hP
  have hx := Bd.exec
  have hby := Bd.bytes
  have hml : c.maxLocals = 1 := hml0
  have hown : s.vm.findClass "java/lang/StringLatin1" = some m.cls := findClass_of_methodNamed Bd.named
  have hnm := (name_of_methodNamed Bd.named Bd.method).1
  have X0 : Stand p l e ({ frames := 0, cells := 0, slots := 0, locals := 0 } : Room) s m #[(.int p0)] below meth c s₁ [] 0 0 := Stand.of_body Bd
  have e0 : s₁.heap = h0 := by rw [← hh, Bd.state]; rfl
  have N0 := Fr.nil n0
  refine Runs.enter (ef_2 m p0) ?_
  show Runs _ _ _ _ s₁ (mkF m 0 #[.val (.int p0)] [])
  refine Runs.back (fun t_ k_ => XS.iloadN X0.here hx rfl (hb hby d2_0) rfl k_) ?_
  show Runs _ _ _ _ s₁ (mkF m 1 #[.val (.int p0)] [(.int p0)])
  refine Runs.back (fun t_ k_ => XS.sipush X0.here hx rfl (hb hby d2_1) k_) ?_
  show Runs _ _ _ _ s₁ (mkF m 4 #[.val (.int p0)] [(.int (255 : Int32)), (.int p0)])
  refine Runs.back (fun t_ k_ => XS.icmpNo X0.here hx rfl (hb hby d2_4) rfl (flt (show ¬ ((255 : Int32) < p0) from hc)).2.2.1 k_) ?_
  show Runs _ _ _ _ s₁ (mkF m 7 #[.val (.int p0)] [])
  refine Runs.back (fun t_ k_ => XS.iconst X0.here hx rfl (hb hby d2_7) k_) ?_
  show Runs _ _ _ _ s₁ (mkF m 8 #[.val (.int p0)] [(.int (1 : Int32))])
  refine Runs.back (fun t_ k_ => XS.goto X0.here hx rfl (pc0 := 8) (pc' := 12) rfl (hb hby d2_8) (by decide) (by decide) k_) ?_
  show Runs _ _ _ _ s₁ (mkF m 12 #[.val (.int p0)] [(.int (1 : Int32))])
  obtain ⟨fs, hr, hrun, hended, hW, hsame⟩ := X0.leave (v := some (.int (1 : Int32))) (fun h => by rw [Bd.returns] at h; cases h)
  exact ⟨_, _, (retN X0 hx (t := .boolean) Bd.returns (by simp) (hb hby d2_12) hr), hrun, hended, _, _, rfl, ⟨rfl, N0, e0⟩, ⟨_, rfl⟩, hW, hsame.mono (by decide) (by decide)⟩
theorem d3_0 : decode jdk_43_method_46_code 0 = .ok (.iconst 1, 1) := by decide +kernel
theorem d3_1 : decode jdk_43_method_46_code 1 = .ok (.newarray .byte, 2) := by decide +kernel
theorem d3_3 : decode jdk_43_method_46_code 3 = .ok (.dup, 1) := by decide +kernel
theorem d3_4 : decode jdk_43_method_46_code 4 = .ok (.iconst 0, 1) := by decide +kernel
theorem d3_5 : decode jdk_43_method_46_code 5 = .ok (.iload_n 0, 1) := by decide +kernel
theorem d3_6 : decode jdk_43_method_46_code 6 = .ok (.i2b, 1) := by decide +kernel
theorem d3_7 : decode jdk_43_method_46_code 7 = .ok (.bastore, 1) := by decide +kernel
theorem d3_8 : decode jdk_43_method_46_code 8 = .ok (.areturn, 1) := by decide +kernel
theorem pn_3 : plainName "java/lang/StringLatin1" = true := by first | (simp [plainName, overriddenIn]; done) | decide +kernel
theorem ef_3 (m : MethodId) (p0 : Int32) : entryFrame m #[(.int p0)] 1 = mkF m 0 #[.val (.int p0)] [] := by first | (simp [entryFrame, mkF, argsToLocals, Value.category]; done) | rfl
def Q3 (Z : State) (p0 : Int32)  (h0 : Heap) (n0 : Nat) (v : Option Value) (h : Heap) (L : List Loc) : Prop := ∃ b, v = some (.ref b) ∧ Fr n0 L ∧ n0 ≤ b ∧ h0.size ≤ b ∧ Keep h0 h []
set_option maxRecDepth 65536 in
set_option maxHeartbeats 40000000 in
theorem rm3 (l : Launch) (Z : State) (a0 : Array Value) (hw : ∀ d ∈ tables_1, d.before a0 Z = true) (ws : List Jvm.Cond) (p0 : Int32)  (h0 : Heap) (n0 : Nat) (Z0 : n0 ≤ h0.size) :
    MetFree l (⟨"java/lang/StringLatin1", "toBytes", "(C)[B"⟩ : MethodName) (head1 (Jvm.Cond.code (⟨"java/lang/StringLatin1", "toBytes", "(C)[B"⟩ : MethodName) jdk_43_method_46_code 1 (some (.array .byte)) :: ws) ({ frames := 0, cells := 1, slots := 1, locals := 0 } : Room)) (fun a U => a = #[(.int p0)] ∧ Z.Warmed39 U.vm ∧ U.heap = h0) (fun _ _ _ _ _ => True) (fun _ U o U' => ∃ v L, o = .returned v ∧ Q3 Z p0 h0 n0 v U'.heap L ∧ FrameEnd U o U' L ({ frames := 0, cells := 1, slots := 1, locals := 0 } : Room).cells ({ frames := 0, cells := 1, slots := 1, locals := 0 } : Room).slots) := by
  refine MetFree.of_bodySF (plainFor_of_name pn_3) hisR ?_
  intro p e s m args below meth c s₁ Bd hml0 hP hK
  obtain ⟨rfl, hZ, hh⟩ := hP
  have hx := Bd.exec
  have hby := Bd.bytes
  have hml : c.maxLocals = 1 := hml0
  have hown : s.vm.findClass "java/lang/StringLatin1" = some m.cls := findClass_of_methodNamed Bd.named
  have hnm := (name_of_methodNamed Bd.named Bd.method).1
  have X0 : Stand p l e ({ frames := 0, cells := 1, slots := 1, locals := 0 } : Room) s m #[(.int p0)] below meth c s₁ [] 0 0 := Stand.of_body Bd
  have e0 : s₁.heap = h0 := by rw [← hh, Bd.state]; rfl
  have N0 := Fr.nil n0
  refine Runs.enter (ef_3 m p0) ?_
  show Runs _ _ _ _ s₁ (mkF m 0 #[.val (.int p0)] [])
  refine Runs.back (fun t_ k_ => XS.iconst X0.here hx rfl (hb hby d3_0) k_) ?_
  show Runs _ _ _ _ s₁ (mkF m 1 #[.val (.int p0)] [(.int (1 : Int32))])
  obtain ⟨T1, h1, k1, X1, e1, E1, A1, st1⟩ := newP X0 hx hZ (hw _ (List.mem_of_getElem? (i := 14) rfl)) e0 (g := (mkF m 1 #[.val (.int p0)] [(.int (1 : Int32))])) rfl (hb hby d3_1) rfl (by decide) (cap := 1) (by decide) (by decide) (by decide) (by decide)
  obtain ⟨ob1, g1⟩ : ∃ z, z = h0.size := ⟨_, rfl⟩
  rw [← g1] at A1 st1
  have g_ob1 : n0 ≤ ob1 := Nat.le_trans (Z0) (Nat.le_of_eq g1.symm)
  have sz_ob1 : h0.size ≤ ob1 := Nat.le_trans (Keep.refl h0 []).1 (Nat.le_of_eq g1.symm)
  have Z1 : n0 ≤ h1.size := Nat.le_trans (Z0) E1.1
  have KK1 : Keep h0 h1 [] := Keep.ext (Keep.refl h0 []) E1
  have V1 : OArr Z h1 ob1 .byte 1 (fun _ => (Value.int (0 : Int32))) := OArr.new A1 rfl rfl
  refine Runs.back st1 ?_
  show Runs _ _ _ _ T1 (mkF m 3 #[.val (.int p0)] [(.ref ob1)])
  refine Runs.back (fun t_ k_ => XS.dup X1.here hx rfl (hb hby d3_3) rfl rfl k_) ?_
  show Runs _ _ _ _ T1 (mkF m 4 #[.val (.int p0)] [(.ref ob1), (.ref ob1)])
  refine Runs.back (fun t_ k_ => XS.iconst X1.here hx rfl (hb hby d3_4) k_) ?_
  show Runs _ _ _ _ T1 (mkF m 5 #[.val (.int p0)] [(.int (0 : Int32)), (.ref ob1), (.ref ob1)])
  refine Runs.back (fun t_ k_ => XS.iloadN X1.here hx rfl (hb hby d3_5) rfl k_) ?_
  show Runs _ _ _ _ T1 (mkF m 6 #[.val (.int p0)] [(.int p0), (.int (0 : Int32)), (.ref ob1), (.ref ob1)])
  refine Runs.back (fun t_ k_ => XS.i2b X1.here hx rfl (hb hby d3_6) rfl k_) ?_
  show Runs _ _ _ _ T1 (mkF m 7 #[.val (.int p0)] [(.int (p0.toInt8.toInt32)), (.int (0 : Int32)), (.ref ob1), (.ref ob1)])
  obtain ⟨cl2, Ar2, S2, Hs2⟩ := id V1
  obtain ⟨T2, h2, X2, e2, W2, st2⟩ := stB X1 hx hZ e1 Ar2 (j := (0 : Int32)) (by rw [S2]; exact (inbO (by decide : ¬ (0 : Int32) < 0) (rfl : ((0 : Int32)).toNatClampNeg = 0) (show 0 < 1 from (by first | omega | decide)))) (g := (mkF m 7 #[.val (.int p0)] [(.int (p0.toInt8.toInt32)), (.int (0 : Int32)), (.ref ob1), (.ref ob1)])) rfl rfl (hb hby d3_7)
  have N2 := Fr.snoc X2 N0 g_ob1
  obtain ⟨L2, X2, N2⟩ := hideL X2 N2
  rw [(rfl : ((0 : Int32)).toNatClampNeg = 0)] at W2
  have f2_Arr_0 : OArr Z h2 ob1 .byte 1 (fun i => if i = 0 then (Value.int (nar .byte (p0.toInt8.toInt32))) else (fun _ => (Value.int (0 : Int32))) i) := V1.set W2
  have KK2 : Keep h0 h2 [] := Keep.wr KK1 W2 (Or.inr sz_ob1)
  have Z2 : n0 ≤ h2.size := Nat.le_trans (Z1) (Nat.le_of_eq W2.size.symm)
  refine Runs.back st2 ?_
  show Runs _ _ _ _ T2 (mkF m 8 #[.val (.int p0)] [(.ref ob1)])
  obtain ⟨fs, hr, hrun, hended, hW, hsame⟩ := X2.leave (v := some (.ref ob1)) (fun h => by rw [Bd.returns] at h; cases h)
  exact ⟨_, _, (retOut X2 hx Bd.returns rfl (Or.inr (Or.inr (Or.inr (Or.inr ⟨rfl, rfl, rfl⟩)))) (hb hby d3_8) hr), hrun, hended, _, _, rfl, (by show Q3 Z p0 h0 n0 _ T2.heap _; rw [e2]; exact ⟨ob1, rfl, N2, g_ob1, sz_ob1, KK2⟩), ⟨_, rfl⟩, hW, hsame.mono (by decide) (by decide)⟩
theorem d4_0 : decode jdk_42_method_151_code 0 = .ok (.aload_n 0, 1) := by decide +kernel
theorem d4_1 : decode jdk_42_method_151_code 1 = .ok (.invokespecial 1, 3) := by decide +kernel
theorem d4_4 : decode jdk_42_method_151_code 4 = .ok (.aload_n 0, 1) := by decide +kernel
theorem d4_5 : decode jdk_42_method_151_code 5 = .ok (.aload_n 1, 1) := by decide +kernel
theorem d4_6 : decode jdk_42_method_151_code 6 = .ok (.putfield 9, 3) := by decide +kernel
theorem d4_9 : decode jdk_42_method_151_code 9 = .ok (.aload_n 0, 1) := by decide +kernel
theorem d4_10 : decode jdk_42_method_151_code 10 = .ok (.iload_n 2, 1) := by decide +kernel
theorem d4_11 : decode jdk_42_method_151_code 11 = .ok (.putfield 15, 3) := by decide +kernel
theorem d4_14 : decode jdk_42_method_151_code 14 = .ok (.return_, 1) := by decide +kernel
theorem pn_4 : plainName "java/lang/String" = true := by first | (simp [plainName, overriddenIn]; done) | decide +kernel
theorem ef_4 (m : MethodId) (r0 : Addr) (r1 : Addr) (p2 : Int32) : entryFrame m #[(.ref r0), (.ref r1), (.int p2)] 3 = mkF m 0 #[.val (.ref r0), .val (.ref r1), .val (.int p2)] [] := by first | (simp [entryFrame, mkF, argsToLocals, Value.category]; done) | rfl
def Q4 (Z : State) (r0 : Addr) (r1 : Addr) (p2 : Int32) (v1 v2 : Value) (h0 : Heap) (n0 : Nat) (v : Option Value) (h : Heap) (L : List Loc) : Prop := v = none ∧ Fr n0 L ∧ Keep h0 h [r0]
set_option maxRecDepth 65536 in
set_option maxHeartbeats 40000000 in
theorem rm4 (l : Launch) (Z : State) (a0 : Array Value) (hw : ∀ d ∈ tables_1, d.before a0 Z = true) (ws : List Jvm.Cond) (r0 : Addr) (r1 : Addr) (p2 : Int32) (v1 v2 : Value) (h0 : Heap) (n0 : Nat) (Z0 : n0 ≤ h0.size) (E_r0 : Exa Z h0 r0 "java/lang/String") (F1 : Fld Z h0 r0 "java/lang/String" "value" "[B" v1) (F2 : Fld Z h0 r0 "java/lang/String" "coder" "B" v2) (g_r0 : n0 ≤ r0) :
    MetFree l (⟨"java/lang/String", "<init>", "([BB)V"⟩ : MethodName) (head1 (Jvm.Cond.code (⟨"java/lang/String", "<init>", "([BB)V"⟩ : MethodName) jdk_42_method_151_code 3 none :: ws) ({ frames := 1, cells := 0, slots := 0, locals := 12 } : Room)) (fun a U => a = #[(.ref r0), (.ref r1), (.int p2)] ∧ Z.Warmed39 U.vm ∧ U.heap = h0) (fun _ _ _ _ _ => True) (fun _ U o U' => ∃ v L, o = .returned v ∧ Q4 Z r0 r1 p2 v1 v2 h0 n0 v U'.heap L ∧ FrameEnd U o U' L ({ frames := 1, cells := 0, slots := 0, locals := 12 } : Room).cells ({ frames := 1, cells := 0, slots := 0, locals := 12 } : Room).slots) := by
  refine MetFree.of_bodySF (plainFor_of_name pn_4) hisR ?_
  intro p e s m args below meth c s₁ Bd hml0 hP hK
  obtain ⟨rfl, hZ, hh⟩ := hP
  have hx := Bd.exec
  have hby := Bd.bytes
  have hml : c.maxLocals = 3 := hml0
  have hown : s.vm.findClass "java/lang/String" = some m.cls := findClass_of_methodNamed Bd.named
  have hnm := (name_of_methodNamed Bd.named Bd.method).1
  have X0 : Stand p l e ({ frames := 1, cells := 0, slots := 0, locals := 12 } : Room) s m #[(.ref r0), (.ref r1), (.int p2)] below meth c s₁ [] 0 0 := Stand.of_body Bd
  have e0 : s₁.heap = h0 := by rw [← hh, Bd.state]; rfl
  have N0 := Fr.nil n0
  refine Runs.enter (ef_4 m r0 r1 p2) ?_
  show Runs _ _ _ _ s₁ (mkF m 0 #[.val (.ref r0), .val (.ref r1), .val (.int p2)] [])
  refine Runs.back (fun t_ k_ => XS.aloadN X0.here hx rfl (hb hby d4_0) rfl rfl k_) ?_
  show Runs _ _ _ _ s₁ (mkF m 1 #[.val (.ref r0), .val (.ref r1), .val (.int p2)] [(.ref r0)])
  obtain ⟨T1, X1, e1, st1⟩ := initO X0 hx hZ hown (hw _ (List.mem_of_getElem? (i := 19) rfl)) (hw _ (List.mem_of_getElem? (i := 20) rfl)) (hw _ (List.mem_of_getElem? (i := 21) rfl)) e0 (g := (mkF m 1 #[.val (.ref r0), .val (.ref r1), .val (.int p2)] [(.ref r0)])) rfl (by rw [hml]; rfl) rfl (hb hby d4_1) (by decide) (W := 0) (by show 2 * 0 + _ ≤ _; exact Nat.le_of_eq rfl) (by decide)
  refine Runs.back st1 ?_
  show Runs _ _ _ _ T1 (mkF m 4 #[.val (.ref r0), .val (.ref r1), .val (.int p2)] [])
  refine Runs.back (fun t_ k_ => XS.aloadN X1.here hx rfl (hb hby d4_4) rfl rfl k_) ?_
  show Runs _ _ _ _ T1 (mkF m 5 #[.val (.ref r0), .val (.ref r1), .val (.int p2)] [(.ref r0)])
  refine Runs.back (fun t_ k_ => XS.aloadN X1.here hx rfl (hb hby d4_5) rfl rfl k_) ?_
  show Runs _ _ _ _ T1 (mkF m 6 #[.val (.ref r0), .val (.ref r1), .val (.int p2)] [(.ref r1), (.ref r0)])
  obtain ⟨T2, h2, X2, e2, W2, st2⟩ := putF X1 hx hZ hown (host := "") (Or.inl (hw _ (List.mem_of_getElem? (i := 22) rfl))) Via.refl e1 F1 E_r0 (Or.inr ⟨(hw _ (List.mem_of_getElem? (i := 23) rfl)), rfl, hnm⟩) (hw _ (List.mem_of_getElem? (i := 10) rfl)) (ty := (.array .byte)) (by decide) rfl rfl (g := (mkF m 6 #[.val (.ref r0), .val (.ref r1), .val (.int p2)] [(.ref r1), (.ref r0)])) rfl rfl (hb hby d4_6)
  have f2_Exa_0 : Exa Z h2 r0 "java/lang/String" := Exa.wr W2 E_r0
  have f2_Fld_1 : Fld Z h2 r0 "java/lang/String" "value" "[B" (.ref r1) := Fld.same W2 F1
  have f2_Fld_2 : Fld Z h2 r0 "java/lang/String" "coder" "B" v2 := Fld.other W2 F2 (Or.inr (slot_ne (Or.inr (hw _ (List.mem_of_getElem? (i := 25) rfl))) (Or.inr (hw _ (List.mem_of_getElem? (i := 23) rfl))) (by decide) (t := .byte) (t' := (.array .byte)) (by decide) (by decide)))
  have N2 := Fr.snoc X2 N0 g_r0
  obtain ⟨L2, X2, N2⟩ := hideL X2 N2
  have KK2 : Keep h0 h2 [r0] := Keep.wr (Keep.refl h0 [r0]) W2 (Or.inl (List.mem_of_getElem? (i := 0) rfl))
  have Z2 : n0 ≤ h2.size := Nat.le_trans (Z0) (Nat.le_of_eq W2.size.symm)
  refine Runs.back st2 ?_
  show Runs _ _ _ _ T2 (mkF m 9 #[.val (.ref r0), .val (.ref r1), .val (.int p2)] [])
  refine Runs.back (fun t_ k_ => XS.aloadN X2.here hx rfl (hb hby d4_9) rfl rfl k_) ?_
  show Runs _ _ _ _ T2 (mkF m 10 #[.val (.ref r0), .val (.ref r1), .val (.int p2)] [(.ref r0)])
  refine Runs.back (fun t_ k_ => XS.iloadN X2.here hx rfl (hb hby d4_10) rfl k_) ?_
  show Runs _ _ _ _ T2 (mkF m 11 #[.val (.ref r0), .val (.ref r1), .val (.int p2)] [(.int p2), (.ref r0)])
  obtain ⟨T3, h3, X3, e3, W3, st3⟩ := putFN X2 hx hZ hown (hw _ (List.mem_of_getElem? (i := 24) rfl)) Via.refl e2 f2_Fld_2 f2_Exa_0 (Or.inr ⟨(hw _ (List.mem_of_getElem? (i := 25) rfl)), rfl, hnm⟩) (hw _ (List.mem_of_getElem? (i := 10) rfl)) (ty := .byte) (v' := (.int (nar .byte p2))) (by decide) rfl (fits_nar_byte _) (g := (mkF m 11 #[.val (.ref r0), .val (.ref r1), .val (.int p2)] [(.int p2), (.ref r0)])) rfl rfl (hb hby d4_11)
  have f3_Exa_0 : Exa Z h3 r0 "java/lang/String" := Exa.wr W3 f2_Exa_0
  have f3_Fld_1 : Fld Z h3 r0 "java/lang/String" "value" "[B" (.ref r1) := Fld.other W3 f2_Fld_1 (Or.inr (slot_ne (Or.inr (hw _ (List.mem_of_getElem? (i := 23) rfl))) (Or.inr (hw _ (List.mem_of_getElem? (i := 25) rfl))) (by decide) (t := (.array .byte)) (t' := .byte) (by decide) (by decide)))
  have f3_Fld_2 : Fld Z h3 r0 "java/lang/String" "coder" "B" (.int (nar .byte p2)) := Fld.same W3 f2_Fld_2
  have N3 := Fr.snoc X3 N2 g_r0
  obtain ⟨L3, X3, N3⟩ := hideL X3 N3
  have KK3 : Keep h0 h3 [r0] := Keep.wr KK2 W3 (Or.inl (List.mem_of_getElem? (i := 0) rfl))
  have Z3 : n0 ≤ h3.size := Nat.le_trans (Z2) (Nat.le_of_eq W3.size.symm)
  refine Runs.back st3 ?_
  show Runs _ _ _ _ T3 (mkF m 14 #[.val (.ref r0), .val (.ref r1), .val (.int p2)] [])
  obtain ⟨fs, hr, hrun, hended, hW, hsame⟩ := X3.leave (v := none) (fun _ => rfl)
  exact ⟨_, _, (X3.returnOut hx Bd.returns (hb hby d4_14) hr), hrun, hended, _, _, rfl, (by show Q4 Z r0 r1 p2 v1 v2 h0 n0 _ T3.heap _; rw [e3]; exact ⟨rfl, N3, KK3⟩), ⟨_, rfl⟩, hW, hsame.mono (by decide) (by decide)⟩
theorem d1_0 : decode jdk_42_method_139_code 0 = .ok (.getstatic 38, 3) := by decide +kernel
theorem d1_3 : decode jdk_42_method_139_code 3 = .ok (.ifCond .eq 23, 3) := by decide +kernel
theorem d1_6 : decode jdk_42_method_139_code 6 = .ok (.iload_n 0, 1) := by decide +kernel
theorem d1_7 : decode jdk_42_method_139_code 7 = .ok (.invokestatic 1015, 3) := by decide +kernel
theorem d1_10 : decode jdk_42_method_139_code 10 = .ok (.ifCond .eq 16, 3) := by decide +kernel
theorem d1_13 : decode jdk_42_method_139_code 13 = .ok (.new 10, 3) := by decide +kernel
theorem d1_16 : decode jdk_42_method_139_code 16 = .ok (.dup, 1) := by decide +kernel
theorem d1_17 : decode jdk_42_method_139_code 17 = .ok (.iload_n 0, 1) := by decide +kernel
theorem d1_18 : decode jdk_42_method_139_code 18 = .ok (.invokestatic 1018, 3) := by decide +kernel
theorem d1_21 : decode jdk_42_method_139_code 21 = .ok (.iconst 0, 1) := by decide +kernel
theorem d1_22 : decode jdk_42_method_139_code 22 = .ok (.invokespecial 209, 3) := by decide +kernel
theorem d1_25 : decode jdk_42_method_139_code 25 = .ok (.areturn, 1) := by decide +kernel
theorem d1_26 : decode jdk_42_method_139_code 26 = .ok (.new 10, 3) := by decide +kernel
theorem d1_29 : decode jdk_42_method_139_code 29 = .ok (.dup, 1) := by decide +kernel
theorem d1_30 : decode jdk_42_method_139_code 30 = .ok (.iload_n 0, 1) := by decide +kernel
theorem d1_31 : decode jdk_42_method_139_code 31 = .ok (.invokestatic 1021, 3) := by decide +kernel
theorem d1_34 : decode jdk_42_method_139_code 34 = .ok (.iconst 1, 1) := by decide +kernel
theorem d1_35 : decode jdk_42_method_139_code 35 = .ok (.invokespecial 209, 3) := by decide +kernel
theorem d1_38 : decode jdk_42_method_139_code 38 = .ok (.areturn, 1) := by decide +kernel
theorem pn_1 : plainName "java/lang/String" = true := by first | (simp [plainName, overriddenIn]; done) | decide +kernel
theorem pd1_0 : parseMethodDescriptor "(C)Z" = some ⟨[.char], some .boolean⟩ := by decide +kernel
theorem pd1_1 : parseMethodDescriptor "(C)[B" = some ⟨[.char], some (.array .byte)⟩ := by decide +kernel
theorem pd1_2 : parseMethodDescriptor "([BB)V" = some ⟨[(.array .byte), .byte], none⟩ := by decide +kernel
theorem ef_1 (m : MethodId) (p0 : Int32) : entryFrame m #[(.int p0)] 1 = mkF m 0 #[.val (.int p0)] [] := by first | (simp [entryFrame, mkF, argsToLocals, Value.category]; done) | rfl
def Q1 (Z : State) (p0 : Int32) (cs : Int32) (h0 : Heap) (n0 : Nat) (v : Option Value) (h : Heap) (L : List Loc) : Prop := ∃ b, v = some (.ref b) ∧ Fr n0 L ∧ n0 ≤ b ∧ h0.size ≤ b ∧ Keep h0 h []
set_option maxRecDepth 65536 in
set_option maxHeartbeats 40000000 in
theorem rm1 (l : Launch) (Z : State) (a0 : Array Value) (hw : ∀ d ∈ tables_1, d.before a0 Z = true) (ws : List Jvm.Cond) (p0 : Int32) (cs : Int32) (h0 : Heap) (n0 : Nat) (Z0 : n0 ≤ h0.size) (S1 : Sta Z h0 "java/lang/String" "COMPACT_STRINGS" "Z" (.int cs)) (hcs : ¬ cs = (0 : Int32)) (hc : ¬ (255 : Int32) < p0) :
    MetFree l (⟨"java/lang/String", "valueOf", "(C)Ljava/lang/String;"⟩ : MethodName) (head1 (Jvm.Cond.code (⟨"java/lang/String", "valueOf", "(C)Ljava/lang/String;"⟩ : MethodName) jdk_42_method_139_code 1 (some (.object "java/lang/String")) :: ws) ({ frames := 2, cells := 2, slots := 5, locals := 27 } : Room)) (fun a U => a = #[(.int p0)] ∧ Z.Warmed39 U.vm ∧ U.heap = h0) (fun _ _ _ _ _ => True) (fun _ U o U' => ∃ v L, o = .returned v ∧ Q1 Z p0 cs h0 n0 v U'.heap L ∧ FrameEnd U o U' L ({ frames := 2, cells := 2, slots := 5, locals := 27 } : Room).cells ({ frames := 2, cells := 2, slots := 5, locals := 27 } : Room).slots) := by
  refine MetFree.of_bodySF (plainFor_of_name pn_1) hisR ?_
  intro p e s m args below meth c s₁ Bd hml0 hP hK
  obtain ⟨rfl, hZ, hh⟩ := hP
  have hx := Bd.exec
  have hby := Bd.bytes
  have hml : c.maxLocals = 1 := hml0
  have hown : s.vm.findClass "java/lang/String" = some m.cls := findClass_of_methodNamed Bd.named
  have hnm := (name_of_methodNamed Bd.named Bd.method).1
  have X0 : Stand p l e ({ frames := 2, cells := 2, slots := 5, locals := 27 } : Room) s m #[(.int p0)] below meth c s₁ [] 0 0 := Stand.of_body Bd
  have e0 : s₁.heap = h0 := by rw [← hh, Bd.state]; rfl
  have N0 := Fr.nil n0
  refine Runs.enter (ef_1 m p0) ?_
  show Runs _ _ _ _ s₁ (mkF m 0 #[.val (.int p0)] [])
  obtain ⟨T1, X1, e1, st1⟩ := getS2 X0 hx hZ hown (host := "") (Or.inl (hw _ (List.mem_of_getElem? (i := 4) rfl))) Via.refl e0 S1 (g := (mkF m 0 #[.val (.int p0)] [])) rfl (hb hby d1_0)
  refine Runs.back st1 ?_
  show Runs _ _ _ _ T1 (mkF m 3 #[.val (.int p0)] [(.int cs)])
  refine Runs.back (fun t_ k_ => XS.ifNo X1.here hx rfl (hb hby d1_3) rfl ((if0 _ _).trans (feq (show ¬ (cs = (0 : Int32)) from hcs)).1) k_) ?_
  show Runs _ _ _ _ T1 (mkF m 6 #[.val (.int p0)] [])
  refine Runs.back (fun t_ k_ => XS.iloadN X1.here hx rfl (hb hby d1_6) rfl k_) ?_
  show Runs _ _ _ _ T1 (mkF m 7 #[.val (.int p0)] [(.int p0)])
  obtain ⟨_, _, ⟨T2, L2, k2, n2⟩, -, X2, ⟨Lc2, hQ2, l2, y2, z2⟩, st2⟩ := Jvm.LawKit.callS X1 hx (y := (⟨"java/lang/StringLatin1", "canEncode", "(C)Z"⟩ : MethodName)) hown (mvT hZ (hw _ (List.mem_of_getElem? (i := 5) rfl))) (mvT hZ (hw _ (List.mem_of_getElem? (i := 6) rfl))) (mvT hZ (hw _ (List.mem_of_getElem? (i := 7) rfl))) (mvT hZ (hw _ (List.mem_of_getElem? (i := 8) rfl))) (by decide) (backOf (W := 0) (rm2 l Z a0 hw [] p0 h0 n0 (Z0) hc) hZ (hw _ (List.mem_of_getElem? (i := 8) rfl)) (hw _ (List.mem_of_getElem? (i := 7) rfl)) (by decide) (by decide)) (g := (mkF m 7 #[.val (.int p0)] [(.int p0)])) rfl (by rw [hml]; rfl) (argsL := [(.int p0)]) (rest := []) (lenOf pd1_0 rfl) rfl (by show 2 * 0 + _ ≤ _; exact Nat.le_of_eq rfl) (hb hby d1_7) (fun _ _ => ⟨rfl, e1, (by decide : 0 + 0 ≤ _), (by decide : 0 + 0 ≤ _)⟩)
  dsimp only [Pt.U, Pt.locs, Pt.cells, Pt.slots] at X2 l2 y2 z2 st2 hQ2
  obtain rfl : k2 = 0 := y2
  obtain rfl : n2 = 0 := z2
  obtain ⟨rfl, N2q, eq2⟩ := hQ2
  have N2 : Fr n0 L2 := by rw [l2]; exact Fr.app N0 N2q
  clear l2
  refine Runs.back st2 ?_
  show Runs _ _ _ _ T2 (mkF m 10 #[.val (.int p0)] [(.int (1 : Int32))])
  refine Runs.back (fun t_ k_ => XS.ifNo X2.here hx rfl (hb hby d1_10) rfl ((if0 _ _).trans (feq (show ¬ ((1 : Int32) = (0 : Int32)) from (by decide))).1) k_) ?_
  show Runs _ _ _ _ T2 (mkF m 13 #[.val (.int p0)] [])
  obtain ⟨T3, h3, X3, e3, E3, A3, D3, -, st3⟩ := newO X2 hx hZ hown (hw _ (List.mem_of_getElem? (i := 9) rfl)) (hw _ (List.mem_of_getElem? (i := 10) rfl)) (hw _ (List.mem_of_getElem? (i := 2) rfl)) eq2 (g := (mkF m 13 #[.val (.int p0)] [])) rfl (hb hby d1_13) (by decide) (by decide)
  obtain ⟨ob3, g3⟩ : ∃ z, z = h0.size := ⟨_, rfl⟩
  rw [← g3] at A3 D3 st3
  have g_ob3 : n0 ≤ ob3 := Nat.le_trans (Z0) (Nat.le_of_eq g3.symm)
  have sz_ob3 : h0.size ≤ ob3 := Nat.le_trans (Keep.refl h0 []).1 (Nat.le_of_eq g3.symm)
  have Z3 : n0 ≤ h3.size := Nat.le_trans (Z0) E3.1
  have KK3 : Keep h0 h3 [] := Keep.ext (Keep.refl h0 []) E3
  have F3_23 : Fld Z h3 ob3 "java/lang/String" "value" "[B" .null := D3 (Or.inr (hw _ (List.mem_of_getElem? (i := 23) rfl))) (ty := (.array .byte)) (by decide)
  have F3_25 : Fld Z h3 ob3 "java/lang/String" "coder" "B" (.int (0 : Int32)) := D3 (Or.inr (hw _ (List.mem_of_getElem? (i := 25) rfl))) (ty := .byte) (by decide)
  refine Runs.back st3 ?_
  show Runs _ _ _ _ T3 (mkF m 16 #[.val (.int p0)] [(.ref ob3)])
  refine Runs.back (fun t_ k_ => XS.dup X3.here hx rfl (hb hby d1_16) rfl rfl k_) ?_
  show Runs _ _ _ _ T3 (mkF m 17 #[.val (.int p0)] [(.ref ob3), (.ref ob3)])
  refine Runs.back (fun t_ k_ => XS.iloadN X3.here hx rfl (hb hby d1_17) rfl k_) ?_
  show Runs _ _ _ _ T3 (mkF m 18 #[.val (.int p0)] [(.int p0), (.ref ob3), (.ref ob3)])
  obtain ⟨_, _, ⟨T4, L4, k4, n4⟩, -, X4, ⟨Lc4, hQ4, l4, y4, z4⟩, st4⟩ := Jvm.LawKit.callS X3 hx (y := (⟨"java/lang/StringLatin1", "toBytes", "(C)[B"⟩ : MethodName)) hown (mvT hZ (hw _ (List.mem_of_getElem? (i := 11) rfl))) (mvT hZ (hw _ (List.mem_of_getElem? (i := 12) rfl))) (mvT hZ (hw _ (List.mem_of_getElem? (i := 7) rfl))) (mvT hZ (hw _ (List.mem_of_getElem? (i := 13) rfl))) (by decide) (backOf (W := 2) (rm3 l Z a0 hw [] p0 h3 n0 (Z3)) hZ (hw _ (List.mem_of_getElem? (i := 13) rfl)) (hw _ (List.mem_of_getElem? (i := 7) rfl)) (by decide) (by decide)) (g := (mkF m 18 #[.val (.int p0)] [(.int p0), (.ref ob3), (.ref ob3)])) rfl (by rw [hml]; rfl) (argsL := [(.int p0)]) (rest := [(.ref ob3), (.ref ob3)]) (lenOf pd1_1 rfl) rfl (by show 2 * 0 + _ ≤ _; exact Nat.le_of_eq rfl) (hb hby d1_18) (fun _ _ => ⟨rfl, e3, (by decide : 1 + 1 ≤ _), (by decide : 4 + 1 ≤ _)⟩)
  dsimp only [Pt.U, Pt.locs, Pt.cells, Pt.slots] at X4 l4 y4 z4 st4 hQ4
  obtain rfl : k4 = 2 := y4
  obtain rfl : n4 = 5 := z4
  obtain ⟨ob4, rfl, N4q, g_ob4, sb4, K4⟩ := hQ4
  have N4 : Fr n0 L4 := by rw [l4]; exact Fr.app N2 N4q
  clear l4
  have ne_ob3_ob4 : ob3 ≠ ob4 := Nat.ne_of_lt (Nat.lt_of_lt_of_le A3.lt sb4)
  have sz_ob4 : h0.size ≤ ob4 := Nat.le_trans KK3.1 sb4
  have f4_Exa_0 : Exa Z T4.heap ob3 "java/lang/String" := A3.keep K4
  have f4_Fld_1 : Fld Z T4.heap ob3 "java/lang/String" "value" "[B" .null := F3_23.keep K4 nin0
  have f4_Fld_2 : Fld Z T4.heap ob3 "java/lang/String" "coder" "B" (.int (0 : Int32)) := F3_25.keep K4 nin0
  have Z4 : n0 ≤ T4.heap.size := Nat.le_trans (Z3) K4.1
  have KK4 : Keep h0 T4.heap [] := Keep.trans KK3 K4 (all0)
  refine Runs.back st4 ?_
  show Runs _ _ _ _ T4 (mkF m 21 #[.val (.int p0)] [(.ref ob4), (.ref ob3), (.ref ob3)])
  refine Runs.back (fun t_ k_ => XS.iconst X4.here hx rfl (hb hby d1_21) k_) ?_
  show Runs _ _ _ _ T4 (mkF m 22 #[.val (.int p0)] [(.int (0 : Int32)), (.ref ob4), (.ref ob3), (.ref ob3)])
  obtain ⟨_, _, ⟨T5, L5, k5, n5⟩, -, X5, ⟨Lc5, hQ5, l5, y5, z5⟩, st5⟩ := X4.specialBack hx (y := (⟨"java/lang/String", "<init>", "([BB)V"⟩ : MethodName)) rfl hown (mvT hZ (hw _ (List.mem_of_getElem? (i := 15) rfl))) (mvT hZ (hw _ (List.mem_of_getElem? (i := 16) rfl))) (mvT hZ (hw _ (List.mem_of_getElem? (i := 18) rfl))) (by decide) (backOf (W := 1) (rm4 l Z a0 hw [] ob3 ob4 (0 : Int32) _ _ T4.heap n0 (Z4) f4_Exa_0 f4_Fld_1 f4_Fld_2 g_ob3) hZ (hw _ (List.mem_of_getElem? (i := 18) rfl)) (hw _ (List.mem_of_getElem? (i := 2) rfl)) (by decide) (by decide)) (g := (mkF m 22 #[.val (.int p0)] [(.int (0 : Int32)), (.ref ob4), (.ref ob3), (.ref ob3)])) rfl (by rw [hml]; rfl) (Steps.refl _) (a := ob3) (argsL := [(.ref ob4), (.int (0 : Int32))]) (rest := [(.ref ob3)]) (lenOf pd1_2 rfl) rfl (by show 2 * 0 + _ ≤ _; exact Nat.le_of_eq rfl) (hb hby d1_22) (fun _ _ => ⟨rfl, rfl, (by decide : 2 + 0 ≤ _), (by decide : 5 + 0 ≤ _)⟩)
  dsimp only [Pt.U, Pt.locs, Pt.cells, Pt.slots] at X5 l5 y5 z5 st5 hQ5
  obtain rfl : k5 = 2 := y5
  obtain rfl : n5 = 5 := z5
  obtain ⟨rfl, N5q, K5⟩ := hQ5
  have N5 : Fr n0 L5 := by rw [l5]; exact Fr.app N4 N5q
  clear l5
  have f5_Exa_0 : Exa Z T5.heap ob3 "java/lang/String" := f4_Exa_0.keep K5
  have Z5 : n0 ≤ T5.heap.size := Nat.le_trans (Z4) K5.1
  have KK5 : Keep h0 T5.heap [] := Keep.trans KK4 K5 ((allS (Or.inr sz_ob3) all0))
  refine Runs.trans st5 ?_
  show Runs _ _ _ _ T5 (mkF m 25 #[.val (.int p0)] [(.ref ob3)])
  obtain ⟨fs, hr, hrun, hended, hW, hsame⟩ := X5.leave (v := some (.ref ob3)) (fun h => by rw [Bd.returns] at h; cases h)
  exact ⟨_, _, (retOut X5 hx Bd.returns rfl (Or.inr (Or.inr (Or.inr (Or.inr ⟨rfl, rfl, rfl⟩)))) (hb hby d1_25) hr), hrun, hended, _, _, rfl, (by show Q1 Z p0 cs h0 n0 _ T5.heap _; exact ⟨ob3, rfl, N5, g_ob3, sz_ob3, KK5⟩), ⟨_, rfl⟩, hW, hsame.mono (by decide) (by decide)⟩
theorem d6_0 : decode prog_80_method_1_code 0 = .ok (.aload_n 0, 1) := by decide +kernel
theorem d6_1 : decode prog_80_method_1_code 1 = .ok (.invokespecial 1, 3) := by decide +kernel
theorem d6_4 : decode prog_80_method_1_code 4 = .ok (.aload_n 0, 1) := by decide +kernel
theorem d6_5 : decode prog_80_method_1_code 5 = .ok (.aload_n 1, 1) := by decide +kernel
theorem d6_6 : decode prog_80_method_1_code 6 = .ok (.putfield 7, 3) := by decide +kernel
theorem d6_9 : decode prog_80_method_1_code 9 = .ok (.aload_n 0, 1) := by decide +kernel
theorem d6_10 : decode prog_80_method_1_code 10 = .ok (.iload_n 2, 1) := by decide +kernel
theorem d6_11 : decode prog_80_method_1_code 11 = .ok (.putfield 13, 3) := by decide +kernel
theorem d6_14 : decode prog_80_method_1_code 14 = .ok (.aload_n 0, 1) := by decide +kernel
theorem d6_15 : decode prog_80_method_1_code 15 = .ok (.iload_n 3, 1) := by decide +kernel
theorem d6_16 : decode prog_80_method_1_code 16 = .ok (.putfield 17, 3) := by decide +kernel
theorem d6_19 : decode prog_80_method_1_code 19 = .ok (.return_, 1) := by decide +kernel
theorem pn_6 : plainName "stanzabits/image/ImageHeader" = true := by first | (simp [plainName, overriddenIn]; done) | decide +kernel
theorem pd6_0 : parseMethodDescriptor "()V" = some ⟨[], none⟩ := by decide +kernel
theorem ef_6 (m : MethodId) (r0 : Addr) (r1 : Addr) (p2 : Int32) (p3 : Int32) : entryFrame m #[(.ref r0), (.ref r1), (.int p2), (.int p3)] 4 = mkF m 0 #[.val (.ref r0), .val (.ref r1), .val (.int p2), .val (.int p3)] [] := by first | (simp [entryFrame, mkF, argsToLocals, Value.category]; done) | rfl
def Q6 (Z : State) (r0 : Addr) (r1 : Addr) (p2 : Int32) (p3 : Int32) (v1 v2 v3 : Value) (h0 : Heap) (n0 : Nat) (v : Option Value) (h : Heap) (L : List Loc) : Prop := v = none ∧ Fr n0 L ∧ Keep h0 h [r0] ∧ Exa Z h r0 "stanzabits/image/ImageHeader" ∧ Fld Z h r0 "stanzabits/image/ImageHeader" "width" "I" (.int p2) ∧ Fld Z h r0 "stanzabits/image/ImageHeader" "height" "I" (.int p3)
set_option maxRecDepth 65536 in
set_option maxHeartbeats 40000000 in
theorem rm6 (l : Launch) (Z : State) (a0 : Array Value) (hw : ∀ d ∈ tables_1, d.before a0 Z = true) (ws : List Jvm.Cond) (r0 : Addr) (r1 : Addr) (p2 : Int32) (p3 : Int32) (v1 v2 v3 : Value) (h0 : Heap) (n0 : Nat) (Z0 : n0 ≤ h0.size) (E_r0 : Exa Z h0 r0 "stanzabits/image/ImageHeader") (F1 : Fld Z h0 r0 "stanzabits/image/ImageHeader" "format" "Ljava/lang/String;" v1) (F2 : Fld Z h0 r0 "stanzabits/image/ImageHeader" "width" "I" v2) (F3 : Fld Z h0 r0 "stanzabits/image/ImageHeader" "height" "I" v3) (g_r0 : n0 ≤ r0) :
    MetFree l (⟨"stanzabits/image/ImageHeader", "<init>", "(Ljava/lang/String;II)V"⟩ : MethodName) (head1 (Jvm.Cond.code (⟨"stanzabits/image/ImageHeader", "<init>", "(Ljava/lang/String;II)V"⟩ : MethodName) prog_80_method_1_code 4 none :: ws) ({ frames := 2, cells := 0, slots := 0, locals := 24 } : Room)) (fun a U => a = #[(.ref r0), (.ref r1), (.int p2), (.int p3)] ∧ Z.Warmed39 U.vm ∧ U.heap = h0) (fun _ _ _ _ _ => True) (fun _ U o U' => ∃ v L, o = .returned v ∧ Q6 Z r0 r1 p2 p3 v1 v2 v3 h0 n0 v U'.heap L ∧ FrameEnd U o U' L ({ frames := 2, cells := 0, slots := 0, locals := 24 } : Room).cells ({ frames := 2, cells := 0, slots := 0, locals := 24 } : Room).slots) := by
  refine MetFree.of_bodySF (plainFor_of_name pn_6) hisR ?_
  intro p e s m args below meth c s₁ Bd hml0 hP hK
  obtain ⟨rfl, hZ, hh⟩ := hP
  have hx := Bd.exec
  have hby := Bd.bytes
  have hml : c.maxLocals = 4 := hml0
  have hown : s.vm.findClass "stanzabits/image/ImageHeader" = some m.cls := findClass_of_methodNamed Bd.named
  have hnm := (name_of_methodNamed Bd.named Bd.method).1
  have X0 : Stand p l e ({ frames := 2, cells := 0, slots := 0, locals := 24 } : Room) s m #[(.ref r0), (.ref r1), (.int p2), (.int p3)] below meth c s₁ [] 0 0 := Stand.of_body Bd
  have e0 : s₁.heap = h0 := by rw [← hh, Bd.state]; rfl
  have N0 := Fr.nil n0
  refine Runs.enter (ef_6 m r0 r1 p2 p3) ?_
  show Runs _ _ _ _ s₁ (mkF m 0 #[.val (.ref r0), .val (.ref r1), .val (.int p2), .val (.int p3)] [])
  refine Runs.back (fun t_ k_ => XS.aloadN X0.here hx rfl (hb hby d6_0) rfl rfl k_) ?_
  show Runs _ _ _ _ s₁ (mkF m 1 #[.val (.ref r0), .val (.ref r1), .val (.int p2), .val (.int p3)] [(.ref r0)])
  obtain ⟨_, _, ⟨T1, L1, k1, n1⟩, -, X1, ⟨Lc1, hQ1, l1, y1, z1⟩, st1⟩ := X0.specialBack hx (y := (⟨"java/lang/Record", "<init>", "()V"⟩ : MethodName)) rfl hown (mvT hZ (hw _ (List.mem_of_getElem? (i := 32) rfl))) (mvT hZ (hw _ (List.mem_of_getElem? (i := 33) rfl))) (mvT hZ (hw _ (List.mem_of_getElem? (i := 36) rfl))) (by decide) (backOf (W := 0) (rm7 l Z a0 hw [] r0 h0 n0 (Z0)) hZ (hw _ (List.mem_of_getElem? (i := 36) rfl)) (hw _ (List.mem_of_getElem? (i := 35) rfl)) (by decide) (by decide)) (g := (mkF m 1 #[.val (.ref r0), .val (.ref r1), .val (.int p2), .val (.int p3)] [(.ref r0)])) rfl (by rw [hml]; rfl) (Steps.refl _) (a := r0) (argsL := []) (rest := []) (lenOf pd6_0 rfl) rfl (by show 2 * 0 + _ ≤ _; exact Nat.le_of_eq rfl) (hb hby d6_1) (fun _ _ => ⟨rfl, e0, (by decide : 0 + 0 ≤ _), (by decide : 0 + 0 ≤ _)⟩)
  dsimp only [Pt.U, Pt.locs, Pt.cells, Pt.slots] at X1 l1 y1 z1 st1 hQ1
  obtain rfl : k1 = 0 := y1
  obtain rfl : n1 = 0 := z1
  obtain ⟨rfl, N1q, eq1⟩ := hQ1
  have N1 : Fr n0 L1 := by rw [l1]; exact Fr.app N0 N1q
  clear l1
  refine Runs.trans st1 ?_
  show Runs _ _ _ _ T1 (mkF m 4 #[.val (.ref r0), .val (.ref r1), .val (.int p2), .val (.int p3)] [])
  refine Runs.back (fun t_ k_ => XS.aloadN X1.here hx rfl (hb hby d6_4) rfl rfl k_) ?_
  show Runs _ _ _ _ T1 (mkF m 5 #[.val (.ref r0), .val (.ref r1), .val (.int p2), .val (.int p3)] [(.ref r0)])
  refine Runs.back (fun t_ k_ => XS.aloadN X1.here hx rfl (hb hby d6_5) rfl rfl k_) ?_
  show Runs _ _ _ _ T1 (mkF m 6 #[.val (.ref r0), .val (.ref r1), .val (.int p2), .val (.int p3)] [(.ref r1), (.ref r0)])
  obtain ⟨T2, h2, X2, e2, W2, st2⟩ := putF X1 hx hZ hown (host := "") (Or.inl (hw _ (List.mem_of_getElem? (i := 38) rfl))) Via.refl eq1 F1 E_r0 (Or.inr ⟨(hw _ (List.mem_of_getElem? (i := 39) rfl)), rfl, hnm⟩) (hw _ (List.mem_of_getElem? (i := 27) rfl)) (ty := (.object "java/lang/String")) (by decide) rfl rfl (g := (mkF m 6 #[.val (.ref r0), .val (.ref r1), .val (.int p2), .val (.int p3)] [(.ref r1), (.ref r0)])) rfl rfl (hb hby d6_6)
  have f2_Exa_0 : Exa Z h2 r0 "stanzabits/image/ImageHeader" := Exa.wr W2 E_r0
  have f2_Fld_1 : Fld Z h2 r0 "stanzabits/image/ImageHeader" "format" "Ljava/lang/String;" (.ref r1) := Fld.same W2 F1
  have f2_Fld_2 : Fld Z h2 r0 "stanzabits/image/ImageHeader" "width" "I" v2 := Fld.other W2 F2 (Or.inr (slot_ne (Or.inr (hw _ (List.mem_of_getElem? (i := 41) rfl))) (Or.inr (hw _ (List.mem_of_getElem? (i := 39) rfl))) (by decide) (t := .int) (t' := (.object "java/lang/String")) (by decide) (by decide)))
  have f2_Fld_3 : Fld Z h2 r0 "stanzabits/image/ImageHeader" "height" "I" v3 := Fld.other W2 F3 (Or.inr (slot_ne (Or.inr (hw _ (List.mem_of_getElem? (i := 43) rfl))) (Or.inr (hw _ (List.mem_of_getElem? (i := 39) rfl))) (by decide) (t := .int) (t' := (.object "java/lang/String")) (by decide) (by decide)))
  have N2 := Fr.snoc X2 N1 g_r0
  obtain ⟨L2, X2, N2⟩ := hideL X2 N2
  have KK2 : Keep h0 h2 [r0] := Keep.wr (Keep.refl h0 [r0]) W2 (Or.inl (List.mem_of_getElem? (i := 0) rfl))
  have Z2 : n0 ≤ h2.size := Nat.le_trans (Z0) (Nat.le_of_eq W2.size.symm)
  refine Runs.back st2 ?_
  show Runs _ _ _ _ T2 (mkF m 9 #[.val (.ref r0), .val (.ref r1), .val (.int p2), .val (.int p3)] [])
  refine Runs.back (fun t_ k_ => XS.aloadN X2.here hx rfl (hb hby d6_9) rfl rfl k_) ?_
  show Runs _ _ _ _ T2 (mkF m 10 #[.val (.ref r0), .val (.ref r1), .val (.int p2), .val (.int p3)] [(.ref r0)])
  refine Runs.back (fun t_ k_ => XS.iloadN X2.here hx rfl (hb hby d6_10) rfl k_) ?_
  show Runs _ _ _ _ T2 (mkF m 11 #[.val (.ref r0), .val (.ref r1), .val (.int p2), .val (.int p3)] [(.int p2), (.ref r0)])
  obtain ⟨T3, h3, X3, e3, W3, st3⟩ := putF X2 hx hZ hown (host := "") (Or.inl (hw _ (List.mem_of_getElem? (i := 40) rfl))) Via.refl e2 f2_Fld_2 f2_Exa_0 (Or.inr ⟨(hw _ (List.mem_of_getElem? (i := 41) rfl)), rfl, hnm⟩) (hw _ (List.mem_of_getElem? (i := 27) rfl)) (ty := .int) (by decide) rfl rfl (g := (mkF m 11 #[.val (.ref r0), .val (.ref r1), .val (.int p2), .val (.int p3)] [(.int p2), (.ref r0)])) rfl rfl (hb hby d6_11)
  have f3_Exa_0 : Exa Z h3 r0 "stanzabits/image/ImageHeader" := Exa.wr W3 f2_Exa_0
  have f3_Fld_1 : Fld Z h3 r0 "stanzabits/image/ImageHeader" "format" "Ljava/lang/String;" (.ref r1) := Fld.other W3 f2_Fld_1 (Or.inr (slot_ne (Or.inr (hw _ (List.mem_of_getElem? (i := 39) rfl))) (Or.inr (hw _ (List.mem_of_getElem? (i := 41) rfl))) (by decide) (t := (.object "java/lang/String")) (t' := .int) (by decide) (by decide)))
  have f3_Fld_2 : Fld Z h3 r0 "stanzabits/image/ImageHeader" "width" "I" (.int p2) := Fld.same W3 f2_Fld_2
  have f3_Fld_3 : Fld Z h3 r0 "stanzabits/image/ImageHeader" "height" "I" v3 := Fld.other W3 f2_Fld_3 (Or.inr (slot_ne (Or.inr (hw _ (List.mem_of_getElem? (i := 43) rfl))) (Or.inr (hw _ (List.mem_of_getElem? (i := 41) rfl))) (by decide) (t := .int) (t' := .int) (by decide) (by decide)))
  have N3 := Fr.snoc X3 N2 g_r0
  obtain ⟨L3, X3, N3⟩ := hideL X3 N3
  have KK3 : Keep h0 h3 [r0] := Keep.wr KK2 W3 (Or.inl (List.mem_of_getElem? (i := 0) rfl))
  have Z3 : n0 ≤ h3.size := Nat.le_trans (Z2) (Nat.le_of_eq W3.size.symm)
  refine Runs.back st3 ?_
  show Runs _ _ _ _ T3 (mkF m 14 #[.val (.ref r0), .val (.ref r1), .val (.int p2), .val (.int p3)] [])
  refine Runs.back (fun t_ k_ => XS.aloadN X3.here hx rfl (hb hby d6_14) rfl rfl k_) ?_
  show Runs _ _ _ _ T3 (mkF m 15 #[.val (.ref r0), .val (.ref r1), .val (.int p2), .val (.int p3)] [(.ref r0)])
  refine Runs.back (fun t_ k_ => XS.iloadN X3.here hx rfl (hb hby d6_15) rfl k_) ?_
  show Runs _ _ _ _ T3 (mkF m 16 #[.val (.ref r0), .val (.ref r1), .val (.int p2), .val (.int p3)] [(.int p3), (.ref r0)])
  obtain ⟨T4, h4, X4, e4, W4, st4⟩ := putF X3 hx hZ hown (host := "") (Or.inl (hw _ (List.mem_of_getElem? (i := 42) rfl))) Via.refl e3 f3_Fld_3 f3_Exa_0 (Or.inr ⟨(hw _ (List.mem_of_getElem? (i := 43) rfl)), rfl, hnm⟩) (hw _ (List.mem_of_getElem? (i := 27) rfl)) (ty := .int) (by decide) rfl rfl (g := (mkF m 16 #[.val (.ref r0), .val (.ref r1), .val (.int p2), .val (.int p3)] [(.int p3), (.ref r0)])) rfl rfl (hb hby d6_16)
  have f4_Exa_0 : Exa Z h4 r0 "stanzabits/image/ImageHeader" := Exa.wr W4 f3_Exa_0
  have f4_Fld_1 : Fld Z h4 r0 "stanzabits/image/ImageHeader" "format" "Ljava/lang/String;" (.ref r1) := Fld.other W4 f3_Fld_1 (Or.inr (slot_ne (Or.inr (hw _ (List.mem_of_getElem? (i := 39) rfl))) (Or.inr (hw _ (List.mem_of_getElem? (i := 43) rfl))) (by decide) (t := (.object "java/lang/String")) (t' := .int) (by decide) (by decide)))
  have f4_Fld_2 : Fld Z h4 r0 "stanzabits/image/ImageHeader" "width" "I" (.int p2) := Fld.other W4 f3_Fld_2 (Or.inr (slot_ne (Or.inr (hw _ (List.mem_of_getElem? (i := 41) rfl))) (Or.inr (hw _ (List.mem_of_getElem? (i := 43) rfl))) (by decide) (t := .int) (t' := .int) (by decide) (by decide)))
  have f4_Fld_3 : Fld Z h4 r0 "stanzabits/image/ImageHeader" "height" "I" (.int p3) := Fld.same W4 f3_Fld_3
  have N4 := Fr.snoc X4 N3 g_r0
  obtain ⟨L4, X4, N4⟩ := hideL X4 N4
  have KK4 : Keep h0 h4 [r0] := Keep.wr KK3 W4 (Or.inl (List.mem_of_getElem? (i := 0) rfl))
  have Z4 : n0 ≤ h4.size := Nat.le_trans (Z3) (Nat.le_of_eq W4.size.symm)
  refine Runs.back st4 ?_
  show Runs _ _ _ _ T4 (mkF m 19 #[.val (.ref r0), .val (.ref r1), .val (.int p2), .val (.int p3)] [])
  obtain ⟨fs, hr, hrun, hended, hW, hsame⟩ := X4.leave (v := none) (fun _ => rfl)
  exact ⟨_, _, (X4.returnOut hx Bd.returns (hb hby d6_19) hr), hrun, hended, _, _, rfl, (by show Q6 Z r0 r1 p2 p3 v1 v2 v3 h0 n0 _ T4.heap _; rw [e4]; exact ⟨rfl, N4, KK4, f4_Exa_0, f4_Fld_2, f4_Fld_3⟩), ⟨_, rfl⟩, hW, hsame.mono (by decide) (by decide)⟩
theorem d8_0 : decode prog_80_method_4_code 0 = .ok (.aload_n 0, 1) := by decide +kernel
theorem d8_1 : decode prog_80_method_4_code 1 = .ok (.getfield 13, 3) := by decide +kernel
theorem d8_4 : decode prog_80_method_4_code 4 = .ok (.ldc 119, 2) := by decide +kernel
theorem d8_6 : decode prog_80_method_4_code 6 = .ok (.if_icmp .gt 16, 3) := by decide +kernel
theorem d8_9 : decode prog_80_method_4_code 9 = .ok (.aload_n 0, 1) := by decide +kernel
theorem d8_10 : decode prog_80_method_4_code 10 = .ok (.getfield 17, 3) := by decide +kernel
theorem d8_13 : decode prog_80_method_4_code 13 = .ok (.ldc 119, 2) := by decide +kernel
theorem d8_15 : decode prog_80_method_4_code 15 = .ok (.if_icmp .gt 7, 3) := by decide +kernel
theorem d8_18 : decode prog_80_method_4_code 18 = .ok (.iconst 1, 1) := by decide +kernel
theorem d8_19 : decode prog_80_method_4_code 19 = .ok (.goto 4, 3) := by decide +kernel
theorem d8_22 : decode prog_80_method_4_code 22 = .ok (.iconst 0, 1) := by decide +kernel
theorem d8_23 : decode prog_80_method_4_code 23 = .ok (.ireturn, 1) := by decide +kernel
theorem pn_8 : plainName "stanzabits/image/ImageHeader" = true := by first | (simp [plainName, overriddenIn]; done) | decide +kernel
theorem ef_8 (m : MethodId) (r0 : Addr) : entryFrame m #[(.ref r0)] 1 = mkF m 0 #[.val (.ref r0)] [] := by first | (simp [entryFrame, mkF, argsToLocals, Value.category]; done) | rfl
def Q8 (Z : State) (r0 : Addr) (ww hh_ : Int32) (h0 : Heap) (n0 : Nat) (v : Option Value) (h : Heap) (L : List Loc) : Prop := v = some (.int (fitF ww hh_)) ∧ Fr n0 L ∧ h = h0
set_option maxRecDepth 65536 in
set_option maxHeartbeats 40000000 in
theorem rm8 (l : Launch) (Z : State) (a0 : Array Value) (hw : ∀ d ∈ tables_1, d.before a0 Z = true) (ws : List Jvm.Cond) (r0 : Addr) (ww hh_ : Int32) (h0 : Heap) (n0 : Nat) (Z0 : n0 ≤ h0.size) (F1 : Fld Z h0 r0 "stanzabits/image/ImageHeader" "width" "I" (.int ww)) (F2 : Fld Z h0 r0 "stanzabits/image/ImageHeader" "height" "I" (.int hh_)) :
    MetFree l (⟨"stanzabits/image/ImageHeader", "fitsUnsignedShort", "()Z"⟩ : MethodName) (head1 (Jvm.Cond.code (⟨"stanzabits/image/ImageHeader", "fitsUnsignedShort", "()Z"⟩ : MethodName) prog_80_method_4_code 1 (some .boolean) :: ws) ({ frames := 0, cells := 0, slots := 0, locals := 0 } : Room)) (fun a U => a = #[(.ref r0)] ∧ Z.Warmed39 U.vm ∧ U.heap = h0) (fun _ _ _ _ _ => True) (fun _ U o U' => ∃ v L, o = .returned v ∧ Q8 Z r0 ww hh_ h0 n0 v U'.heap L ∧ FrameEnd U o U' L ({ frames := 0, cells := 0, slots := 0, locals := 0 } : Room).cells ({ frames := 0, cells := 0, slots := 0, locals := 0 } : Room).slots) := by
  refine MetFree.of_bodySF (plainFor_of_name pn_8) hisR ?_
  intro p e s m args below meth c s₁ Bd hml0 hP hK
  obtain ⟨rfl, hZ, hh⟩ := hP
  have hx := Bd.exec
  have hby := Bd.bytes
  have hml : c.maxLocals = 1 := hml0
  have hown : s.vm.findClass "stanzabits/image/ImageHeader" = some m.cls := findClass_of_methodNamed Bd.named
  have hnm := (name_of_methodNamed Bd.named Bd.method).1
  have X0 : Stand p l e ({ frames := 0, cells := 0, slots := 0, locals := 0 } : Room) s m #[(.ref r0)] below meth c s₁ [] 0 0 := Stand.of_body Bd
  have e0 : s₁.heap = h0 := by rw [← hh, Bd.state]; rfl
  have N0 := Fr.nil n0
  refine Runs.enter (ef_8 m r0) ?_
  show Runs _ _ _ _ s₁ (mkF m 0 #[.val (.ref r0)] [])
  refine Runs.back (fun t_ k_ => XS.aloadN X0.here hx rfl (hb hby d8_0) rfl rfl k_) ?_
  show Runs _ _ _ _ s₁ (mkF m 1 #[.val (.ref r0)] [(.ref r0)])
  obtain ⟨T1, X1, e1, st1⟩ := getF X0 hx hZ hown (host := "") (Or.inl (hw _ (List.mem_of_getElem? (i := 40) rfl))) Via.refl e0 F1 (g := (mkF m 1 #[.val (.ref r0)] [(.ref r0)])) rfl rfl (hb hby d8_1)
  refine Runs.back st1 ?_
  show Runs _ _ _ _ T1 (mkF m 4 #[.val (.ref r0)] [(.int ww)])
  refine Runs.back (X1.ldcInt hx hown (mvT hZ (hw _ (List.mem_of_getElem? (i := 50) rfl))) (g := (mkF m 4 #[.val (.ref r0)] [(.int ww)])) rfl (hb hby d8_4)) ?_
  show Runs _ _ _ _ T1 (mkF m 6 #[.val (.ref r0)] [(.int (65535 : Int32)), (.int ww)])
  by_cases c6_2 : (65535 : Int32) < ww
  · refine Runs.back (fun t_ k_ => XS.icmpYes X1.here hx rfl (pc0 := 6) (pc' := 22) rfl (hb hby d8_6) rfl (tlt c6_2).2.2.1 (by decide) (by decide) k_) ?_
    show Runs _ _ _ _ T1 (mkF m 22 #[.val (.ref r0)] [])
    refine Runs.back (fun t_ k_ => XS.iconst X1.here hx rfl (hb hby d8_22) k_) ?_
    show Runs _ _ _ _ T1 (mkF m 23 #[.val (.ref r0)] [(.int (0 : Int32))])
    obtain ⟨fs, hr, hrun, hended, hW, hsame⟩ := X1.leave (v := some (.int (0 : Int32))) (fun h => by rw [Bd.returns] at h; cases h)
    exact ⟨_, _, (retN X1 hx (t := .boolean) Bd.returns (by simp) (hb hby d8_23) hr), hrun, hended, _, _, rfl, ⟨(by first | rfl | (simp only [fitF, if_pos c6_2]; done) | (simp +decide only [fitF, if_pos c6_2, if_true, if_false, ↓reduceIte]; done) | (simp [fitF, c6_2]; done)), N0, e1⟩, ⟨_, rfl⟩, hW, hsame.mono (by decide) (by decide)⟩
  · refine Runs.back (fun t_ k_ => XS.icmpNo X1.here hx rfl (hb hby d8_6) rfl (flt c6_2).2.2.1 k_) ?_
    show Runs _ _ _ _ T1 (mkF m 9 #[.val (.ref r0)] [])
    refine Runs.back (fun t_ k_ => XS.aloadN X1.here hx rfl (hb hby d8_9) rfl rfl k_) ?_
    show Runs _ _ _ _ T1 (mkF m 10 #[.val (.ref r0)] [(.ref r0)])
    obtain ⟨T3, X3, e3, st3⟩ := getF X1 hx hZ hown (host := "") (Or.inl (hw _ (List.mem_of_getElem? (i := 42) rfl))) Via.refl e1 F2 (g := (mkF m 10 #[.val (.ref r0)] [(.ref r0)])) rfl rfl (hb hby d8_10)
    refine Runs.back st3 ?_
    show Runs _ _ _ _ T3 (mkF m 13 #[.val (.ref r0)] [(.int hh_)])
    refine Runs.back (X3.ldcInt hx hown (mvT hZ (hw _ (List.mem_of_getElem? (i := 50) rfl))) (g := (mkF m 13 #[.val (.ref r0)] [(.int hh_)])) rfl (hb hby d8_13)) ?_
    show Runs _ _ _ _ T3 (mkF m 15 #[.val (.ref r0)] [(.int (65535 : Int32)), (.int hh_)])
    by_cases c15_4 : (65535 : Int32) < hh_
    · refine Runs.back (fun t_ k_ => XS.icmpYes X3.here hx rfl (pc0 := 15) (pc' := 22) rfl (hb hby d8_15) rfl (tlt c15_4).2.2.1 (by decide) (by decide) k_) ?_
      show Runs _ _ _ _ T3 (mkF m 22 #[.val (.ref r0)] [])
      refine Runs.back (fun t_ k_ => XS.iconst X3.here hx rfl (hb hby d8_22) k_) ?_
      show Runs _ _ _ _ T3 (mkF m 23 #[.val (.ref r0)] [(.int (0 : Int32))])
      obtain ⟨fs, hr, hrun, hended, hW, hsame⟩ := X3.leave (v := some (.int (0 : Int32))) (fun h => by rw [Bd.returns] at h; cases h)
      exact ⟨_, _, (retN X3 hx (t := .boolean) Bd.returns (by simp) (hb hby d8_23) hr), hrun, hended, _, _, rfl, ⟨(by first | rfl | (simp only [fitF, if_neg c6_2, if_pos c15_4]; done) | (simp +decide only [fitF, if_neg c6_2, if_pos c15_4, if_true, if_false, ↓reduceIte]; done) | (simp [fitF, c6_2, c15_4]; done)), N0, e3⟩, ⟨_, rfl⟩, hW, hsame.mono (by decide) (by decide)⟩
    · refine Runs.back (fun t_ k_ => XS.icmpNo X3.here hx rfl (hb hby d8_15) rfl (flt c15_4).2.2.1 k_) ?_
      show Runs _ _ _ _ T3 (mkF m 18 #[.val (.ref r0)] [])
      refine Runs.back (fun t_ k_ => XS.iconst X3.here hx rfl (hb hby d8_18) k_) ?_
      show Runs _ _ _ _ T3 (mkF m 19 #[.val (.ref r0)] [(.int (1 : Int32))])
      refine Runs.back (fun t_ k_ => XS.goto X3.here hx rfl (pc0 := 19) (pc' := 23) rfl (hb hby d8_19) (by decide) (by decide) k_) ?_
      show Runs _ _ _ _ T3 (mkF m 23 #[.val (.ref r0)] [(.int (1 : Int32))])
      obtain ⟨fs, hr, hrun, hended, hW, hsame⟩ := X3.leave (v := some (.int (1 : Int32))) (fun h => by rw [Bd.returns] at h; cases h)
      exact ⟨_, _, (retN X3 hx (t := .boolean) Bd.returns (by simp) (hb hby d8_23) hr), hrun, hended, _, _, rfl, ⟨(by first | rfl | (simp only [fitF, if_neg c6_2, if_neg c15_4]; done) | (simp +decide only [fitF, if_neg c6_2, if_neg c15_4, if_true, if_false, ↓reduceIte]; done) | (simp [fitF, c6_2, c15_4]; done)), N0, e3⟩, ⟨_, rfl⟩, hW, hsame.mono (by decide) (by decide)⟩
theorem pn_0 : plainName "stanzabits/image/ImageHeaderFitsUnsignedShortPinLaw" = true := by first | (simp [plainName, overriddenIn]; done) | decide +kernel
theorem pd0_0 : parseMethodDescriptor "(C)Ljava/lang/String;" = some ⟨[.char], some (.object "java/lang/String")⟩ := by decide +kernel
theorem pd0_1 : parseMethodDescriptor "(Ljava/lang/String;II)V" = some ⟨[(.object "java/lang/String"), .int, .int], none⟩ := by decide +kernel
theorem pd0_2 : parseMethodDescriptor "()Z" = some ⟨[], some .boolean⟩ := by decide +kernel
theorem ef_0 (m : MethodId) (p0 : Int32) (p1 : Int32) (p2 : Int32) : entryFrame m #[(.int p0), (.int p1), (.int p2)] maxLocals = mkF m 0 #[.val (.int p0), .val (.int p1), .val (.int p2), .unset, .unset, .unset, .unset, .unset] [] := by first | (simp [entryFrame, mkF, argsToLocals, Value.category, maxLocals]; done) | rfl
def Q0 (Z : State) (p0 : Int32) (p1 : Int32) (p2 : Int32) (cs : Int32) (h0 : Heap) (n0 : Nat) (v : Option Value) (h : Heap) (L : List Loc) : Prop := v = some (.int 1) ∧ Fr n0 L
set_option maxRecDepth 65536 in
set_option maxHeartbeats 40000000 in
theorem rm0 (l : Launch) (Z : State) (a0 : Array Value) (hw : ∀ d ∈ tables_1, d.before a0 Z = true) (ws : List Jvm.Cond) (p0 : Int32) (p1 : Int32) (p2 : Int32) (cs : Int32) (h0 : Heap) (n0 : Nat) (Z0 : n0 ≤ h0.size) (S1 : Sta Z h0 "java/lang/String" "COMPACT_STRINGS" "Z" (.int cs)) (hcs : ¬ cs = (0 : Int32)) :
    MetFree l x (head1 (Jvm.Cond.code x code maxLocals ret :: ws) room_1) (fun a U => a = #[(.int p0), (.int p1), (.int p2)] ∧ Z.Warmed39 U.vm ∧ U.heap = h0) (fun _ _ _ _ _ => True) (fun _ U o U' => ∃ v L, o = .returned v ∧ Q0 Z p0 p1 p2 cs h0 n0 v U'.heap L ∧ FrameEnd U o U' L 16 128) := by
  refine MetFree.of_bodySF (plainFor_of_name pn_0) hisR ?_
  intro p e s m args below meth c s₁ Bd hml0 hP hK
  obtain ⟨rfl, hZ, hh⟩ := hP
  have hx := Bd.exec
  have hby := Bd.bytes
  have hml : c.maxLocals = 8 := hml0
  have hown : s.vm.findClass "stanzabits/image/ImageHeaderFitsUnsignedShortPinLaw" = some m.cls := findClass_of_methodNamed Bd.named
  have hnm := (name_of_methodNamed Bd.named Bd.method).1
  have X0 : Stand p l e room_1 s m #[(.int p0), (.int p1), (.int p2)] below meth c s₁ [] 0 0 := Stand.of_body Bd
  have e0 : s₁.heap = h0 := by rw [← hh, Bd.state]; rfl
  have N0 := Fr.nil n0
  refine Runs.enter (ef_0 m p0 p1 p2) ?_
  show Runs _ _ _ _ s₁ (mkF m 0 #[.val (.int p0), .val (.int p1), .val (.int p2), .unset, .unset, .unset, .unset, .unset] [])
  refine Runs.back (fun t_ k_ => XS.iloadN X0.here hx rfl (hb hby at_0) rfl k_) ?_
  show Runs _ _ _ _ s₁ (mkF m 1 #[.val (.int p0), .val (.int p1), .val (.int p2), .unset, .unset, .unset, .unset, .unset] [(.int p2)])
  refine Runs.back (fun t_ k_ => XS.sipush X0.here hx rfl (hb hby at_1) k_) ?_
  show Runs _ _ _ _ s₁ (mkF m 4 #[.val (.int p0), .val (.int p1), .val (.int p2), .unset, .unset, .unset, .unset, .unset] [(.int (255 : Int32)), (.int p2)])
  refine Runs.back (fun t_ k_ => XS.iand X0.here hx rfl (hb hby at_4) rfl k_) ?_
  show Runs _ _ _ _ s₁ (mkF m 5 #[.val (.int p0), .val (.int p1), .val (.int p2), .unset, .unset, .unset, .unset, .unset] [(.int (p2 &&& (255 : Int32)))])
  refine Runs.back (fun t_ k_ => XS.i2c X0.here hx rfl (hb hby at_5) rfl k_) ?_
  show Runs _ _ _ _ s₁ (mkF m 6 #[.val (.int p0), .val (.int p1), .val (.int p2), .unset, .unset, .unset, .unset, .unset] [(.int ((p2 &&& (255 : Int32)).toUInt32.toUInt16.toUInt32.toInt32))])
  have hcc := i2c_small (x := (p2 &&& (255 : Int32))) (by rw [c_mask p2 _ 8 (by decide) (by decide)]; omega)
  obtain ⟨_, _, ⟨T1, L1, k1, n1⟩, -, X1, ⟨Lc1, hQ1, l1, y1, z1⟩, st1⟩ := Jvm.LawKit.callS X0 hx (y := (⟨"java/lang/String", "valueOf", "(C)Ljava/lang/String;"⟩ : MethodName)) hown (mvT hZ (hw _ (List.mem_of_getElem? (i := 0) rfl))) (mvT hZ (hw _ (List.mem_of_getElem? (i := 1) rfl))) (mvT hZ (hw _ (List.mem_of_getElem? (i := 2) rfl))) (mvT hZ (hw _ (List.mem_of_getElem? (i := 3) rfl))) (by decide) (backOf (W := 0) (rm1 l Z a0 hw [] ((p2 &&& (255 : Int32)).toUInt32.toUInt16.toUInt32.toInt32) cs h0 n0 (Z0) S1 hcs hcc) hZ (hw _ (List.mem_of_getElem? (i := 3) rfl)) (hw _ (List.mem_of_getElem? (i := 2) rfl)) (by decide) (by decide)) (g := (mkF m 6 #[.val (.int p0), .val (.int p1), .val (.int p2), .unset, .unset, .unset, .unset, .unset] [(.int ((p2 &&& (255 : Int32)).toUInt32.toUInt16.toUInt32.toInt32))])) rfl (by rw [hml]; rfl) (argsL := [(.int ((p2 &&& (255 : Int32)).toUInt32.toUInt16.toUInt32.toInt32))]) (rest := []) (lenOf pd0_0 rfl) rfl (by show 2 * 0 + _ ≤ _; exact Nat.le_of_eq rfl) (hb hby at_6) (fun _ _ => ⟨rfl, e0, (by decide : 0 + 2 ≤ _), (by decide : 0 + 5 ≤ _)⟩)
  dsimp only [Pt.U, Pt.locs, Pt.cells, Pt.slots] at X1 l1 y1 z1 st1 hQ1
  obtain rfl : k1 = 2 := y1
  obtain rfl : n1 = 5 := z1
  obtain ⟨ob1, rfl, N1q, g_ob1, sb1, K1⟩ := hQ1
  have N1 : Fr n0 L1 := by rw [l1]; exact Fr.app N0 N1q
  clear l1
  have Z1 : n0 ≤ T1.heap.size := Nat.le_trans (Z0) K1.1
  refine Runs.back st1 ?_
  show Runs _ _ _ _ T1 (mkF m 9 #[.val (.int p0), .val (.int p1), .val (.int p2), .unset, .unset, .unset, .unset, .unset] [(.ref ob1)])
  refine Runs.back (fun t_ k_ => XS.astoreN X1.here hx rfl (hb hby at_9) rfl rfl (l' := #[.val (.int p0), .val (.int p1), .val (.int p2), .val (.ref ob1), .unset, .unset, .unset, .unset]) rfl k_) ?_
  show Runs _ _ _ _ T1 (mkF m 10 #[.val (.int p0), .val (.int p1), .val (.int p2), .val (.ref ob1), .unset, .unset, .unset, .unset] [])
  obtain ⟨T2, h2, X2, e2, E2, A2, D2, -, st2⟩ := newO X1 hx hZ hown (hw _ (List.mem_of_getElem? (i := 26) rfl)) (hw _ (List.mem_of_getElem? (i := 27) rfl)) (hw _ (List.mem_of_getElem? (i := 28) rfl)) rfl (g := (mkF m 10 #[.val (.int p0), .val (.int p1), .val (.int p2), .val (.ref ob1), .unset, .unset, .unset, .unset] [])) rfl (hb hby at_10) (by decide) (by decide)
  obtain ⟨ob2, g2⟩ : ∃ z, z = T1.heap.size := ⟨_, rfl⟩
  rw [← g2] at A2 D2 st2
  have g_ob2 : n0 ≤ ob2 := Nat.le_trans (Z1) (Nat.le_of_eq g2.symm)
  have Z2 : n0 ≤ h2.size := Nat.le_trans (Z1) E2.1
  have F2_39 : Fld Z h2 ob2 "stanzabits/image/ImageHeader" "format" "Ljava/lang/String;" .null := D2 (Or.inr (hw _ (List.mem_of_getElem? (i := 39) rfl))) (ty := (.object "java/lang/String")) (by decide)
  have F2_41 : Fld Z h2 ob2 "stanzabits/image/ImageHeader" "width" "I" (.int (0 : Int32)) := D2 (Or.inr (hw _ (List.mem_of_getElem? (i := 41) rfl))) (ty := .int) (by decide)
  have F2_43 : Fld Z h2 ob2 "stanzabits/image/ImageHeader" "height" "I" (.int (0 : Int32)) := D2 (Or.inr (hw _ (List.mem_of_getElem? (i := 43) rfl))) (ty := .int) (by decide)
  refine Runs.back st2 ?_
  show Runs _ _ _ _ T2 (mkF m 13 #[.val (.int p0), .val (.int p1), .val (.int p2), .val (.ref ob1), .unset, .unset, .unset, .unset] [(.ref ob2)])
  refine Runs.back (fun t_ k_ => XS.dup X2.here hx rfl (hb hby at_13) rfl rfl k_) ?_
  show Runs _ _ _ _ T2 (mkF m 14 #[.val (.int p0), .val (.int p1), .val (.int p2), .val (.ref ob1), .unset, .unset, .unset, .unset] [(.ref ob2), (.ref ob2)])
  refine Runs.back (fun t_ k_ => XS.aloadN X2.here hx rfl (hb hby at_14) rfl rfl k_) ?_
  show Runs _ _ _ _ T2 (mkF m 15 #[.val (.int p0), .val (.int p1), .val (.int p2), .val (.ref ob1), .unset, .unset, .unset, .unset] [(.ref ob1), (.ref ob2), (.ref ob2)])
  refine Runs.back (fun t_ k_ => XS.iloadN X2.here hx rfl (hb hby at_15) rfl k_) ?_
  show Runs _ _ _ _ T2 (mkF m 16 #[.val (.int p0), .val (.int p1), .val (.int p2), .val (.ref ob1), .unset, .unset, .unset, .unset] [(.int p0), (.ref ob1), (.ref ob2), (.ref ob2)])
  refine Runs.back (fun t_ k_ => XS.iloadN X2.here hx rfl (hb hby at_16) rfl k_) ?_
  show Runs _ _ _ _ T2 (mkF m 17 #[.val (.int p0), .val (.int p1), .val (.int p2), .val (.ref ob1), .unset, .unset, .unset, .unset] [(.int p1), (.int p0), (.ref ob1), (.ref ob2), (.ref ob2)])
  obtain ⟨_, _, ⟨T3, L3, k3, n3⟩, -, X3, ⟨Lc3, hQ3, l3, y3, z3⟩, st3⟩ := X2.specialBack hx (y := (⟨"stanzabits/image/ImageHeader", "<init>", "(Ljava/lang/String;II)V"⟩ : MethodName)) rfl hown (mvT hZ (hw _ (List.mem_of_getElem? (i := 29) rfl))) (mvT hZ (hw _ (List.mem_of_getElem? (i := 30) rfl))) (mvT hZ (hw _ (List.mem_of_getElem? (i := 31) rfl))) (by decide) (backOf (W := 1) (rm6 l Z a0 hw [] ob2 ob1 p0 p1 _ _ _ h2 n0 (Z2) A2 F2_39 F2_41 F2_43 g_ob2) hZ (hw _ (List.mem_of_getElem? (i := 31) rfl)) (hw _ (List.mem_of_getElem? (i := 28) rfl)) (by decide) (by decide)) (g := (mkF m 17 #[.val (.int p0), .val (.int p1), .val (.int p2), .val (.ref ob1), .unset, .unset, .unset, .unset] [(.int p1), (.int p0), (.ref ob1), (.ref ob2), (.ref ob2)])) rfl (by rw [hml]; rfl) (Steps.refl _) (a := ob2) (argsL := [(.ref ob1), (.int p0), (.int p1)]) (rest := [(.ref ob2)]) (lenOf pd0_1 rfl) rfl (by show 2 * 0 + _ ≤ _; exact Nat.le_of_eq rfl) (hb hby at_17) (fun _ _ => ⟨rfl, e2, (by decide : 3 + 0 ≤ _), (by decide : 8 + 0 ≤ _)⟩)
  dsimp only [Pt.U, Pt.locs, Pt.cells, Pt.slots] at X3 l3 y3 z3 st3 hQ3
  obtain rfl : k3 = 3 := y3
  obtain rfl : n3 = 8 := z3
  obtain ⟨rfl, N3q, K3, iE3, iF3, iG3⟩ := hQ3
  have N3 : Fr n0 L3 := by rw [l3]; exact Fr.app N1 N3q
  clear l3
  have f3_Exa_0 : Exa Z T3.heap ob2 "stanzabits/image/ImageHeader" := A2.keep K3
  have Z3 : n0 ≤ T3.heap.size := Nat.le_trans (Z2) K3.1
  refine Runs.trans st3 ?_
  show Runs _ _ _ _ T3 (mkF m 20 #[.val (.int p0), .val (.int p1), .val (.int p2), .val (.ref ob1), .unset, .unset, .unset, .unset] [(.ref ob2)])
  refine Runs.back (fun t_ k_ => XS.astore X3.here hx rfl (hb hby at_20) rfl rfl (l' := #[.val (.int p0), .val (.int p1), .val (.int p2), .val (.ref ob1), .val (.ref ob2), .unset, .unset, .unset]) rfl k_) ?_
  show Runs _ _ _ _ T3 (mkF m 22 #[.val (.int p0), .val (.int p1), .val (.int p2), .val (.ref ob1), .val (.ref ob2), .unset, .unset, .unset] [])
  refine Runs.back (fun t_ k_ => XS.iloadN X3.here hx rfl (hb hby at_22) rfl k_) ?_
  show Runs _ _ _ _ T3 (mkF m 23 #[.val (.int p0), .val (.int p1), .val (.int p2), .val (.ref ob1), .val (.ref ob2), .unset, .unset, .unset] [(.int p0)])
  refine Runs.back (X3.ldcInt hx hown (mvT hZ (hw _ (List.mem_of_getElem? (i := 44) rfl))) (g := (mkF m 23 #[.val (.int p0), .val (.int p1), .val (.int p2), .val (.ref ob1), .val (.ref ob2), .unset, .unset, .unset] [(.int p0)])) rfl (hb hby at_23)) ?_
  show Runs _ _ _ _ T3 (mkF m 25 #[.val (.int p0), .val (.int p1), .val (.int p2), .val (.ref ob1), .val (.ref ob2), .unset, .unset, .unset] [(.int (65535 : Int32)), (.int p0)])
  by_cases c25_4 : (65535 : Int32) < p0
  · refine Runs.back (fun t_ k_ => XS.icmpYes X3.here hx rfl (pc0 := 25) (pc' := 32) rfl (hb hby at_25) rfl (tlt c25_4).2.2.1 (by decide) (by decide) k_) ?_
    show Runs _ _ _ _ T3 (mkF m 32 #[.val (.int p0), .val (.int p1), .val (.int p2), .val (.ref ob1), .val (.ref ob2), .unset, .unset, .unset] [])
    refine Runs.back (fun t_ k_ => XS.iconst X3.here hx rfl (hb hby at_32) k_) ?_
    show Runs _ _ _ _ T3 (mkF m 33 #[.val (.int p0), .val (.int p1), .val (.int p2), .val (.ref ob1), .val (.ref ob2), .unset, .unset, .unset] [(.int (0 : Int32))])
    refine Runs.back (fun t_ k_ => XS.istore X3.here hx rfl (hb hby at_33) rfl (l' := #[.val (.int p0), .val (.int p1), .val (.int p2), .val (.ref ob1), .val (.ref ob2), .val (.int (0 : Int32)), .unset, .unset]) rfl k_) ?_
    show Runs _ _ _ _ T3 (mkF m 35 #[.val (.int p0), .val (.int p1), .val (.int p2), .val (.ref ob1), .val (.ref ob2), .val (.int (0 : Int32)), .unset, .unset] [])
    refine Runs.back (fun t_ k_ => XS.iloadN X3.here hx rfl (hb hby at_35) rfl k_) ?_
    show Runs _ _ _ _ T3 (mkF m 36 #[.val (.int p0), .val (.int p1), .val (.int p2), .val (.ref ob1), .val (.ref ob2), .val (.int (0 : Int32)), .unset, .unset] [(.int p1)])
    refine Runs.back (X3.ldcInt hx hown (mvT hZ (hw _ (List.mem_of_getElem? (i := 44) rfl))) (g := (mkF m 36 #[.val (.int p0), .val (.int p1), .val (.int p2), .val (.ref ob1), .val (.ref ob2), .val (.int (0 : Int32)), .unset, .unset] [(.int p1)])) rfl (hb hby at_36)) ?_
    show Runs _ _ _ _ T3 (mkF m 38 #[.val (.int p0), .val (.int p1), .val (.int p2), .val (.ref ob1), .val (.ref ob2), .val (.int (0 : Int32)), .unset, .unset] [(.int (65535 : Int32)), (.int p1)])
    by_cases c38_5 : (65535 : Int32) < p1
    · refine Runs.back (fun t_ k_ => XS.icmpYes X3.here hx rfl (pc0 := 38) (pc' := 45) rfl (hb hby at_38) rfl (tlt c38_5).2.2.1 (by decide) (by decide) k_) ?_
      show Runs _ _ _ _ T3 (mkF m 45 #[.val (.int p0), .val (.int p1), .val (.int p2), .val (.ref ob1), .val (.ref ob2), .val (.int (0 : Int32)), .unset, .unset] [])
      refine Runs.back (fun t_ k_ => XS.iconst X3.here hx rfl (hb hby at_45) k_) ?_
      show Runs _ _ _ _ T3 (mkF m 46 #[.val (.int p0), .val (.int p1), .val (.int p2), .val (.ref ob1), .val (.ref ob2), .val (.int (0 : Int32)), .unset, .unset] [(.int (0 : Int32))])
      refine Runs.back (fun t_ k_ => XS.istore X3.here hx rfl (hb hby at_46) rfl (l' := #[.val (.int p0), .val (.int p1), .val (.int p2), .val (.ref ob1), .val (.ref ob2), .val (.int (0 : Int32)), .val (.int (0 : Int32)), .unset]) rfl k_) ?_
      show Runs _ _ _ _ T3 (mkF m 48 #[.val (.int p0), .val (.int p1), .val (.int p2), .val (.ref ob1), .val (.ref ob2), .val (.int (0 : Int32)), .val (.int (0 : Int32)), .unset] [])
      refine Runs.back (fun t_ k_ => XS.iload X3.here hx rfl (hb hby at_48) rfl k_) ?_
      show Runs _ _ _ _ T3 (mkF m 50 #[.val (.int p0), .val (.int p1), .val (.int p2), .val (.ref ob1), .val (.ref ob2), .val (.int (0 : Int32)), .val (.int (0 : Int32)), .unset] [(.int (0 : Int32))])
      refine Runs.back (fun t_ k_ => XS.ifYes X3.here hx rfl (pc0 := 50) (pc' := 60) rfl (hb hby at_50) rfl ((if0 _ _).trans (teq (show (0 : Int32) = (0 : Int32) from rfl)).1) (by decide) (by decide) k_) ?_
      show Runs _ _ _ _ T3 (mkF m 60 #[.val (.int p0), .val (.int p1), .val (.int p2), .val (.ref ob1), .val (.ref ob2), .val (.int (0 : Int32)), .val (.int (0 : Int32)), .unset] [])
      refine Runs.back (fun t_ k_ => XS.iconst X3.here hx rfl (hb hby at_60) k_) ?_
      show Runs _ _ _ _ T3 (mkF m 61 #[.val (.int p0), .val (.int p1), .val (.int p2), .val (.ref ob1), .val (.ref ob2), .val (.int (0 : Int32)), .val (.int (0 : Int32)), .unset] [(.int (0 : Int32))])
      refine Runs.back (fun t_ k_ => XS.istore X3.here hx rfl (hb hby at_61) rfl (l' := #[.val (.int p0), .val (.int p1), .val (.int p2), .val (.ref ob1), .val (.ref ob2), .val (.int (0 : Int32)), .val (.int (0 : Int32)), .val (.int (0 : Int32))]) rfl k_) ?_
      show Runs _ _ _ _ T3 (mkF m 63 #[.val (.int p0), .val (.int p1), .val (.int p2), .val (.ref ob1), .val (.ref ob2), .val (.int (0 : Int32)), .val (.int (0 : Int32)), .val (.int (0 : Int32))] [])
      refine Runs.back (fun t_ k_ => XS.aload X3.here hx rfl (hb hby at_63) rfl rfl k_) ?_
      show Runs _ _ _ _ T3 (mkF m 65 #[.val (.int p0), .val (.int p1), .val (.int p2), .val (.ref ob1), .val (.ref ob2), .val (.int (0 : Int32)), .val (.int (0 : Int32)), .val (.int (0 : Int32))] [(.ref ob2)])
      obtain ⟨cq6, kq6, q6a, q6b, q6c⟩ := isOf hZ rfl iE3
      obtain ⟨_, _, ⟨T6, L6, k6, n6⟩, -, X6, ⟨Lc6, hQ6, l6, y6, z6⟩, st6⟩ := X3.virtualBack hx (y := (⟨"stanzabits/image/ImageHeader", "fitsUnsignedShort", "()Z"⟩ : MethodName)) (z := (⟨"stanzabits/image/ImageHeader", "fitsUnsignedShort", "()Z"⟩ : MethodName)) hown (mvT hZ (hw _ (List.mem_of_getElem? (i := 45) rfl))) (mvT hZ (hw _ (List.mem_of_getElem? (i := 46) rfl))) (notFace_of_selects (args := #[]) (mvT hZ (hw _ (List.mem_of_getElem? (i := 48) rfl)))) (mvT hZ (hw _ (List.mem_of_getElem? (i := 48) rfl))) (mvT hZ (hw _ (List.mem_of_getElem? (i := 47) rfl))) (by decide) (backOf (W := 0) (rm8 l Z a0 hw [] ob2 p0 p1 T3.heap n0 (Z3) iF3 iG3) hZ (hw _ (List.mem_of_getElem? (i := 49) rfl)) (hw _ (List.mem_of_getElem? (i := 28) rfl)) (by decide) (by decide)) q6a q6c (g := (mkF m 65 #[.val (.int p0), .val (.int p1), .val (.int p2), .val (.ref ob1), .val (.ref ob2), .val (.int (0 : Int32)), .val (.int (0 : Int32)), .val (.int (0 : Int32))] [(.ref ob2)])) rfl (by rw [hml]; rfl) (Steps.refl _) (argsL := []) (rest := []) (lenOf pd0_2 rfl) rfl (by show 2 * 0 + _ ≤ _; exact Nat.le_of_eq rfl) (hb hby at_65) (fun _ _ => ⟨rfl, rfl, (by decide : 3 + 0 ≤ _), (by decide : 8 + 0 ≤ _)⟩)
      dsimp only [Pt.U, Pt.locs, Pt.cells, Pt.slots] at X6 l6 y6 z6 st6 hQ6
      obtain rfl : k6 = 3 := y6
      obtain rfl : n6 = 8 := z6
      obtain ⟨rfl, N6q, eq6⟩ := hQ6
      have N6 : Fr n0 L6 := by rw [l6]; exact Fr.app N3 N6q
      clear l6
      refine Runs.trans st6 ?_
      show Runs _ _ _ _ T6 (mkF m 68 #[.val (.int p0), .val (.int p1), .val (.int p2), .val (.ref ob1), .val (.ref ob2), .val (.int (0 : Int32)), .val (.int (0 : Int32)), .val (.int (0 : Int32))] [(.int (fitF p0 p1))])
      refine Runs.back (fun t_ k_ => XS.iload X6.here hx rfl (hb hby at_68) rfl k_) ?_
      show Runs _ _ _ _ T6 (mkF m 70 #[.val (.int p0), .val (.int p1), .val (.int p2), .val (.ref ob1), .val (.ref ob2), .val (.int (0 : Int32)), .val (.int (0 : Int32)), .val (.int (0 : Int32))] [(.int (0 : Int32)), (.int (fitF p0 p1))])
      refine Runs.back (fun t_ k_ => XS.icmpNo X6.here hx rfl (hb hby at_70) rfl (teq (show (fitF p0 p1) = (0 : Int32) from (by simp only [fitF, if_pos c25_4, if_pos c38_5]))).2 k_) ?_
      show Runs _ _ _ _ T6 (mkF m 73 #[.val (.int p0), .val (.int p1), .val (.int p2), .val (.ref ob1), .val (.ref ob2), .val (.int (0 : Int32)), .val (.int (0 : Int32)), .val (.int (0 : Int32))] [])
      refine Runs.back (fun t_ k_ => XS.iconst X6.here hx rfl (hb hby at_73) k_) ?_
      show Runs _ _ _ _ T6 (mkF m 74 #[.val (.int p0), .val (.int p1), .val (.int p2), .val (.ref ob1), .val (.ref ob2), .val (.int (0 : Int32)), .val (.int (0 : Int32)), .val (.int (0 : Int32))] [(.int (1 : Int32))])
      refine Runs.back (fun t_ k_ => XS.goto X6.here hx rfl (pc0 := 74) (pc' := 78) rfl (hb hby at_74) (by decide) (by decide) k_) ?_
      show Runs _ _ _ _ T6 (mkF m 78 #[.val (.int p0), .val (.int p1), .val (.int p2), .val (.ref ob1), .val (.ref ob2), .val (.int (0 : Int32)), .val (.int (0 : Int32)), .val (.int (0 : Int32))] [(.int (1 : Int32))])
      obtain ⟨fs, hr, hrun, hended, hW, hsame⟩ := X6.leave (v := some (.int (1 : Int32))) (fun h => by rw [Bd.returns] at h; cases h)
      exact ⟨_, _, (retN X6 hx (t := .boolean) Bd.returns (by simp) (hb hby at_78) hr), hrun, hended, _, _, rfl, ⟨rfl, N6⟩, ⟨_, rfl⟩, hW, hsame.mono (by decide) (by decide)⟩
    · refine Runs.back (fun t_ k_ => XS.icmpNo X3.here hx rfl (hb hby at_38) rfl (flt c38_5).2.2.1 k_) ?_
      show Runs _ _ _ _ T3 (mkF m 41 #[.val (.int p0), .val (.int p1), .val (.int p2), .val (.ref ob1), .val (.ref ob2), .val (.int (0 : Int32)), .unset, .unset] [])
      refine Runs.back (fun t_ k_ => XS.iconst X3.here hx rfl (hb hby at_41) k_) ?_
      show Runs _ _ _ _ T3 (mkF m 42 #[.val (.int p0), .val (.int p1), .val (.int p2), .val (.ref ob1), .val (.ref ob2), .val (.int (0 : Int32)), .unset, .unset] [(.int (1 : Int32))])
      refine Runs.back (fun t_ k_ => XS.goto X3.here hx rfl (pc0 := 42) (pc' := 46) rfl (hb hby at_42) (by decide) (by decide) k_) ?_
      show Runs _ _ _ _ T3 (mkF m 46 #[.val (.int p0), .val (.int p1), .val (.int p2), .val (.ref ob1), .val (.ref ob2), .val (.int (0 : Int32)), .unset, .unset] [(.int (1 : Int32))])
      refine Runs.back (fun t_ k_ => XS.istore X3.here hx rfl (hb hby at_46) rfl (l' := #[.val (.int p0), .val (.int p1), .val (.int p2), .val (.ref ob1), .val (.ref ob2), .val (.int (0 : Int32)), .val (.int (1 : Int32)), .unset]) rfl k_) ?_
      show Runs _ _ _ _ T3 (mkF m 48 #[.val (.int p0), .val (.int p1), .val (.int p2), .val (.ref ob1), .val (.ref ob2), .val (.int (0 : Int32)), .val (.int (1 : Int32)), .unset] [])
      refine Runs.back (fun t_ k_ => XS.iload X3.here hx rfl (hb hby at_48) rfl k_) ?_
      show Runs _ _ _ _ T3 (mkF m 50 #[.val (.int p0), .val (.int p1), .val (.int p2), .val (.ref ob1), .val (.ref ob2), .val (.int (0 : Int32)), .val (.int (1 : Int32)), .unset] [(.int (0 : Int32))])
      refine Runs.back (fun t_ k_ => XS.ifYes X3.here hx rfl (pc0 := 50) (pc' := 60) rfl (hb hby at_50) rfl ((if0 _ _).trans (teq (show (0 : Int32) = (0 : Int32) from rfl)).1) (by decide) (by decide) k_) ?_
      show Runs _ _ _ _ T3 (mkF m 60 #[.val (.int p0), .val (.int p1), .val (.int p2), .val (.ref ob1), .val (.ref ob2), .val (.int (0 : Int32)), .val (.int (1 : Int32)), .unset] [])
      refine Runs.back (fun t_ k_ => XS.iconst X3.here hx rfl (hb hby at_60) k_) ?_
      show Runs _ _ _ _ T3 (mkF m 61 #[.val (.int p0), .val (.int p1), .val (.int p2), .val (.ref ob1), .val (.ref ob2), .val (.int (0 : Int32)), .val (.int (1 : Int32)), .unset] [(.int (0 : Int32))])
      refine Runs.back (fun t_ k_ => XS.istore X3.here hx rfl (hb hby at_61) rfl (l' := #[.val (.int p0), .val (.int p1), .val (.int p2), .val (.ref ob1), .val (.ref ob2), .val (.int (0 : Int32)), .val (.int (1 : Int32)), .val (.int (0 : Int32))]) rfl k_) ?_
      show Runs _ _ _ _ T3 (mkF m 63 #[.val (.int p0), .val (.int p1), .val (.int p2), .val (.ref ob1), .val (.ref ob2), .val (.int (0 : Int32)), .val (.int (1 : Int32)), .val (.int (0 : Int32))] [])
      refine Runs.back (fun t_ k_ => XS.aload X3.here hx rfl (hb hby at_63) rfl rfl k_) ?_
      show Runs _ _ _ _ T3 (mkF m 65 #[.val (.int p0), .val (.int p1), .val (.int p2), .val (.ref ob1), .val (.ref ob2), .val (.int (0 : Int32)), .val (.int (1 : Int32)), .val (.int (0 : Int32))] [(.ref ob2)])
      obtain ⟨cq7, kq7, q7a, q7b, q7c⟩ := isOf hZ rfl iE3
      obtain ⟨_, _, ⟨T7, L7, k7, n7⟩, -, X7, ⟨Lc7, hQ7, l7, y7, z7⟩, st7⟩ := X3.virtualBack hx (y := (⟨"stanzabits/image/ImageHeader", "fitsUnsignedShort", "()Z"⟩ : MethodName)) (z := (⟨"stanzabits/image/ImageHeader", "fitsUnsignedShort", "()Z"⟩ : MethodName)) hown (mvT hZ (hw _ (List.mem_of_getElem? (i := 45) rfl))) (mvT hZ (hw _ (List.mem_of_getElem? (i := 46) rfl))) (notFace_of_selects (args := #[]) (mvT hZ (hw _ (List.mem_of_getElem? (i := 48) rfl)))) (mvT hZ (hw _ (List.mem_of_getElem? (i := 48) rfl))) (mvT hZ (hw _ (List.mem_of_getElem? (i := 47) rfl))) (by decide) (backOf (W := 0) (rm8 l Z a0 hw [] ob2 p0 p1 T3.heap n0 (Z3) iF3 iG3) hZ (hw _ (List.mem_of_getElem? (i := 49) rfl)) (hw _ (List.mem_of_getElem? (i := 28) rfl)) (by decide) (by decide)) q7a q7c (g := (mkF m 65 #[.val (.int p0), .val (.int p1), .val (.int p2), .val (.ref ob1), .val (.ref ob2), .val (.int (0 : Int32)), .val (.int (1 : Int32)), .val (.int (0 : Int32))] [(.ref ob2)])) rfl (by rw [hml]; rfl) (Steps.refl _) (argsL := []) (rest := []) (lenOf pd0_2 rfl) rfl (by show 2 * 0 + _ ≤ _; exact Nat.le_of_eq rfl) (hb hby at_65) (fun _ _ => ⟨rfl, rfl, (by decide : 3 + 0 ≤ _), (by decide : 8 + 0 ≤ _)⟩)
      dsimp only [Pt.U, Pt.locs, Pt.cells, Pt.slots] at X7 l7 y7 z7 st7 hQ7
      obtain rfl : k7 = 3 := y7
      obtain rfl : n7 = 8 := z7
      obtain ⟨rfl, N7q, eq7⟩ := hQ7
      have N7 : Fr n0 L7 := by rw [l7]; exact Fr.app N3 N7q
      clear l7
      refine Runs.trans st7 ?_
      show Runs _ _ _ _ T7 (mkF m 68 #[.val (.int p0), .val (.int p1), .val (.int p2), .val (.ref ob1), .val (.ref ob2), .val (.int (0 : Int32)), .val (.int (1 : Int32)), .val (.int (0 : Int32))] [(.int (fitF p0 p1))])
      refine Runs.back (fun t_ k_ => XS.iload X7.here hx rfl (hb hby at_68) rfl k_) ?_
      show Runs _ _ _ _ T7 (mkF m 70 #[.val (.int p0), .val (.int p1), .val (.int p2), .val (.ref ob1), .val (.ref ob2), .val (.int (0 : Int32)), .val (.int (1 : Int32)), .val (.int (0 : Int32))] [(.int (0 : Int32)), (.int (fitF p0 p1))])
      refine Runs.back (fun t_ k_ => XS.icmpNo X7.here hx rfl (hb hby at_70) rfl (teq (show (fitF p0 p1) = (0 : Int32) from (by simp only [fitF, if_pos c25_4, if_neg c38_5]))).2 k_) ?_
      show Runs _ _ _ _ T7 (mkF m 73 #[.val (.int p0), .val (.int p1), .val (.int p2), .val (.ref ob1), .val (.ref ob2), .val (.int (0 : Int32)), .val (.int (1 : Int32)), .val (.int (0 : Int32))] [])
      refine Runs.back (fun t_ k_ => XS.iconst X7.here hx rfl (hb hby at_73) k_) ?_
      show Runs _ _ _ _ T7 (mkF m 74 #[.val (.int p0), .val (.int p1), .val (.int p2), .val (.ref ob1), .val (.ref ob2), .val (.int (0 : Int32)), .val (.int (1 : Int32)), .val (.int (0 : Int32))] [(.int (1 : Int32))])
      refine Runs.back (fun t_ k_ => XS.goto X7.here hx rfl (pc0 := 74) (pc' := 78) rfl (hb hby at_74) (by decide) (by decide) k_) ?_
      show Runs _ _ _ _ T7 (mkF m 78 #[.val (.int p0), .val (.int p1), .val (.int p2), .val (.ref ob1), .val (.ref ob2), .val (.int (0 : Int32)), .val (.int (1 : Int32)), .val (.int (0 : Int32))] [(.int (1 : Int32))])
      obtain ⟨fs, hr, hrun, hended, hW, hsame⟩ := X7.leave (v := some (.int (1 : Int32))) (fun h => by rw [Bd.returns] at h; cases h)
      exact ⟨_, _, (retN X7 hx (t := .boolean) Bd.returns (by simp) (hb hby at_78) hr), hrun, hended, _, _, rfl, ⟨rfl, N7⟩, ⟨_, rfl⟩, hW, hsame.mono (by decide) (by decide)⟩
  · refine Runs.back (fun t_ k_ => XS.icmpNo X3.here hx rfl (hb hby at_25) rfl (flt c25_4).2.2.1 k_) ?_
    show Runs _ _ _ _ T3 (mkF m 28 #[.val (.int p0), .val (.int p1), .val (.int p2), .val (.ref ob1), .val (.ref ob2), .unset, .unset, .unset] [])
    refine Runs.back (fun t_ k_ => XS.iconst X3.here hx rfl (hb hby at_28) k_) ?_
    show Runs _ _ _ _ T3 (mkF m 29 #[.val (.int p0), .val (.int p1), .val (.int p2), .val (.ref ob1), .val (.ref ob2), .unset, .unset, .unset] [(.int (1 : Int32))])
    refine Runs.back (fun t_ k_ => XS.goto X3.here hx rfl (pc0 := 29) (pc' := 33) rfl (hb hby at_29) (by decide) (by decide) k_) ?_
    show Runs _ _ _ _ T3 (mkF m 33 #[.val (.int p0), .val (.int p1), .val (.int p2), .val (.ref ob1), .val (.ref ob2), .unset, .unset, .unset] [(.int (1 : Int32))])
    refine Runs.back (fun t_ k_ => XS.istore X3.here hx rfl (hb hby at_33) rfl (l' := #[.val (.int p0), .val (.int p1), .val (.int p2), .val (.ref ob1), .val (.ref ob2), .val (.int (1 : Int32)), .unset, .unset]) rfl k_) ?_
    show Runs _ _ _ _ T3 (mkF m 35 #[.val (.int p0), .val (.int p1), .val (.int p2), .val (.ref ob1), .val (.ref ob2), .val (.int (1 : Int32)), .unset, .unset] [])
    refine Runs.back (fun t_ k_ => XS.iloadN X3.here hx rfl (hb hby at_35) rfl k_) ?_
    show Runs _ _ _ _ T3 (mkF m 36 #[.val (.int p0), .val (.int p1), .val (.int p2), .val (.ref ob1), .val (.ref ob2), .val (.int (1 : Int32)), .unset, .unset] [(.int p1)])
    refine Runs.back (X3.ldcInt hx hown (mvT hZ (hw _ (List.mem_of_getElem? (i := 44) rfl))) (g := (mkF m 36 #[.val (.int p0), .val (.int p1), .val (.int p2), .val (.ref ob1), .val (.ref ob2), .val (.int (1 : Int32)), .unset, .unset] [(.int p1)])) rfl (hb hby at_36)) ?_
    show Runs _ _ _ _ T3 (mkF m 38 #[.val (.int p0), .val (.int p1), .val (.int p2), .val (.ref ob1), .val (.ref ob2), .val (.int (1 : Int32)), .unset, .unset] [(.int (65535 : Int32)), (.int p1)])
    by_cases c38_8 : (65535 : Int32) < p1
    · refine Runs.back (fun t_ k_ => XS.icmpYes X3.here hx rfl (pc0 := 38) (pc' := 45) rfl (hb hby at_38) rfl (tlt c38_8).2.2.1 (by decide) (by decide) k_) ?_
      show Runs _ _ _ _ T3 (mkF m 45 #[.val (.int p0), .val (.int p1), .val (.int p2), .val (.ref ob1), .val (.ref ob2), .val (.int (1 : Int32)), .unset, .unset] [])
      refine Runs.back (fun t_ k_ => XS.iconst X3.here hx rfl (hb hby at_45) k_) ?_
      show Runs _ _ _ _ T3 (mkF m 46 #[.val (.int p0), .val (.int p1), .val (.int p2), .val (.ref ob1), .val (.ref ob2), .val (.int (1 : Int32)), .unset, .unset] [(.int (0 : Int32))])
      refine Runs.back (fun t_ k_ => XS.istore X3.here hx rfl (hb hby at_46) rfl (l' := #[.val (.int p0), .val (.int p1), .val (.int p2), .val (.ref ob1), .val (.ref ob2), .val (.int (1 : Int32)), .val (.int (0 : Int32)), .unset]) rfl k_) ?_
      show Runs _ _ _ _ T3 (mkF m 48 #[.val (.int p0), .val (.int p1), .val (.int p2), .val (.ref ob1), .val (.ref ob2), .val (.int (1 : Int32)), .val (.int (0 : Int32)), .unset] [])
      refine Runs.back (fun t_ k_ => XS.iload X3.here hx rfl (hb hby at_48) rfl k_) ?_
      show Runs _ _ _ _ T3 (mkF m 50 #[.val (.int p0), .val (.int p1), .val (.int p2), .val (.ref ob1), .val (.ref ob2), .val (.int (1 : Int32)), .val (.int (0 : Int32)), .unset] [(.int (1 : Int32))])
      refine Runs.back (fun t_ k_ => XS.ifNo X3.here hx rfl (hb hby at_50) rfl ((if0 _ _).trans (feq (show ¬ ((1 : Int32) = (0 : Int32)) from (by decide))).1) k_) ?_
      show Runs _ _ _ _ T3 (mkF m 53 #[.val (.int p0), .val (.int p1), .val (.int p2), .val (.ref ob1), .val (.ref ob2), .val (.int (1 : Int32)), .val (.int (0 : Int32)), .unset] [])
      refine Runs.back (fun t_ k_ => XS.iload X3.here hx rfl (hb hby at_53) rfl k_) ?_
      show Runs _ _ _ _ T3 (mkF m 55 #[.val (.int p0), .val (.int p1), .val (.int p2), .val (.ref ob1), .val (.ref ob2), .val (.int (1 : Int32)), .val (.int (0 : Int32)), .unset] [(.int (0 : Int32))])
      refine Runs.back (fun t_ k_ => XS.istore X3.here hx rfl (hb hby at_55) rfl (l' := #[.val (.int p0), .val (.int p1), .val (.int p2), .val (.ref ob1), .val (.ref ob2), .val (.int (1 : Int32)), .val (.int (0 : Int32)), .val (.int (0 : Int32))]) rfl k_) ?_
      show Runs _ _ _ _ T3 (mkF m 57 #[.val (.int p0), .val (.int p1), .val (.int p2), .val (.ref ob1), .val (.ref ob2), .val (.int (1 : Int32)), .val (.int (0 : Int32)), .val (.int (0 : Int32))] [])
      refine Runs.back (fun t_ k_ => XS.goto X3.here hx rfl (pc0 := 57) (pc' := 63) rfl (hb hby at_57) (by decide) (by decide) k_) ?_
      show Runs _ _ _ _ T3 (mkF m 63 #[.val (.int p0), .val (.int p1), .val (.int p2), .val (.ref ob1), .val (.ref ob2), .val (.int (1 : Int32)), .val (.int (0 : Int32)), .val (.int (0 : Int32))] [])
      refine Runs.back (fun t_ k_ => XS.aload X3.here hx rfl (hb hby at_63) rfl rfl k_) ?_
      show Runs _ _ _ _ T3 (mkF m 65 #[.val (.int p0), .val (.int p1), .val (.int p2), .val (.ref ob1), .val (.ref ob2), .val (.int (1 : Int32)), .val (.int (0 : Int32)), .val (.int (0 : Int32))] [(.ref ob2)])
      obtain ⟨cq9, kq9, q9a, q9b, q9c⟩ := isOf hZ rfl iE3
      obtain ⟨_, _, ⟨T9, L9, k9, n9⟩, -, X9, ⟨Lc9, hQ9, l9, y9, z9⟩, st9⟩ := X3.virtualBack hx (y := (⟨"stanzabits/image/ImageHeader", "fitsUnsignedShort", "()Z"⟩ : MethodName)) (z := (⟨"stanzabits/image/ImageHeader", "fitsUnsignedShort", "()Z"⟩ : MethodName)) hown (mvT hZ (hw _ (List.mem_of_getElem? (i := 45) rfl))) (mvT hZ (hw _ (List.mem_of_getElem? (i := 46) rfl))) (notFace_of_selects (args := #[]) (mvT hZ (hw _ (List.mem_of_getElem? (i := 48) rfl)))) (mvT hZ (hw _ (List.mem_of_getElem? (i := 48) rfl))) (mvT hZ (hw _ (List.mem_of_getElem? (i := 47) rfl))) (by decide) (backOf (W := 0) (rm8 l Z a0 hw [] ob2 p0 p1 T3.heap n0 (Z3) iF3 iG3) hZ (hw _ (List.mem_of_getElem? (i := 49) rfl)) (hw _ (List.mem_of_getElem? (i := 28) rfl)) (by decide) (by decide)) q9a q9c (g := (mkF m 65 #[.val (.int p0), .val (.int p1), .val (.int p2), .val (.ref ob1), .val (.ref ob2), .val (.int (1 : Int32)), .val (.int (0 : Int32)), .val (.int (0 : Int32))] [(.ref ob2)])) rfl (by rw [hml]; rfl) (Steps.refl _) (argsL := []) (rest := []) (lenOf pd0_2 rfl) rfl (by show 2 * 0 + _ ≤ _; exact Nat.le_of_eq rfl) (hb hby at_65) (fun _ _ => ⟨rfl, rfl, (by decide : 3 + 0 ≤ _), (by decide : 8 + 0 ≤ _)⟩)
      dsimp only [Pt.U, Pt.locs, Pt.cells, Pt.slots] at X9 l9 y9 z9 st9 hQ9
      obtain rfl : k9 = 3 := y9
      obtain rfl : n9 = 8 := z9
      obtain ⟨rfl, N9q, eq9⟩ := hQ9
      have N9 : Fr n0 L9 := by rw [l9]; exact Fr.app N3 N9q
      clear l9
      refine Runs.trans st9 ?_
      show Runs _ _ _ _ T9 (mkF m 68 #[.val (.int p0), .val (.int p1), .val (.int p2), .val (.ref ob1), .val (.ref ob2), .val (.int (1 : Int32)), .val (.int (0 : Int32)), .val (.int (0 : Int32))] [(.int (fitF p0 p1))])
      refine Runs.back (fun t_ k_ => XS.iload X9.here hx rfl (hb hby at_68) rfl k_) ?_
      show Runs _ _ _ _ T9 (mkF m 70 #[.val (.int p0), .val (.int p1), .val (.int p2), .val (.ref ob1), .val (.ref ob2), .val (.int (1 : Int32)), .val (.int (0 : Int32)), .val (.int (0 : Int32))] [(.int (0 : Int32)), (.int (fitF p0 p1))])
      refine Runs.back (fun t_ k_ => XS.icmpNo X9.here hx rfl (hb hby at_70) rfl (teq (show (fitF p0 p1) = (0 : Int32) from (by simp only [fitF, if_neg c25_4, if_pos c38_8]))).2 k_) ?_
      show Runs _ _ _ _ T9 (mkF m 73 #[.val (.int p0), .val (.int p1), .val (.int p2), .val (.ref ob1), .val (.ref ob2), .val (.int (1 : Int32)), .val (.int (0 : Int32)), .val (.int (0 : Int32))] [])
      refine Runs.back (fun t_ k_ => XS.iconst X9.here hx rfl (hb hby at_73) k_) ?_
      show Runs _ _ _ _ T9 (mkF m 74 #[.val (.int p0), .val (.int p1), .val (.int p2), .val (.ref ob1), .val (.ref ob2), .val (.int (1 : Int32)), .val (.int (0 : Int32)), .val (.int (0 : Int32))] [(.int (1 : Int32))])
      refine Runs.back (fun t_ k_ => XS.goto X9.here hx rfl (pc0 := 74) (pc' := 78) rfl (hb hby at_74) (by decide) (by decide) k_) ?_
      show Runs _ _ _ _ T9 (mkF m 78 #[.val (.int p0), .val (.int p1), .val (.int p2), .val (.ref ob1), .val (.ref ob2), .val (.int (1 : Int32)), .val (.int (0 : Int32)), .val (.int (0 : Int32))] [(.int (1 : Int32))])
      obtain ⟨fs, hr, hrun, hended, hW, hsame⟩ := X9.leave (v := some (.int (1 : Int32))) (fun h => by rw [Bd.returns] at h; cases h)
      exact ⟨_, _, (retN X9 hx (t := .boolean) Bd.returns (by simp) (hb hby at_78) hr), hrun, hended, _, _, rfl, ⟨rfl, N9⟩, ⟨_, rfl⟩, hW, hsame.mono (by decide) (by decide)⟩
    · refine Runs.back (fun t_ k_ => XS.icmpNo X3.here hx rfl (hb hby at_38) rfl (flt c38_8).2.2.1 k_) ?_
      show Runs _ _ _ _ T3 (mkF m 41 #[.val (.int p0), .val (.int p1), .val (.int p2), .val (.ref ob1), .val (.ref ob2), .val (.int (1 : Int32)), .unset, .unset] [])
      refine Runs.back (fun t_ k_ => XS.iconst X3.here hx rfl (hb hby at_41) k_) ?_
      show Runs _ _ _ _ T3 (mkF m 42 #[.val (.int p0), .val (.int p1), .val (.int p2), .val (.ref ob1), .val (.ref ob2), .val (.int (1 : Int32)), .unset, .unset] [(.int (1 : Int32))])
      refine Runs.back (fun t_ k_ => XS.goto X3.here hx rfl (pc0 := 42) (pc' := 46) rfl (hb hby at_42) (by decide) (by decide) k_) ?_
      show Runs _ _ _ _ T3 (mkF m 46 #[.val (.int p0), .val (.int p1), .val (.int p2), .val (.ref ob1), .val (.ref ob2), .val (.int (1 : Int32)), .unset, .unset] [(.int (1 : Int32))])
      refine Runs.back (fun t_ k_ => XS.istore X3.here hx rfl (hb hby at_46) rfl (l' := #[.val (.int p0), .val (.int p1), .val (.int p2), .val (.ref ob1), .val (.ref ob2), .val (.int (1 : Int32)), .val (.int (1 : Int32)), .unset]) rfl k_) ?_
      show Runs _ _ _ _ T3 (mkF m 48 #[.val (.int p0), .val (.int p1), .val (.int p2), .val (.ref ob1), .val (.ref ob2), .val (.int (1 : Int32)), .val (.int (1 : Int32)), .unset] [])
      refine Runs.back (fun t_ k_ => XS.iload X3.here hx rfl (hb hby at_48) rfl k_) ?_
      show Runs _ _ _ _ T3 (mkF m 50 #[.val (.int p0), .val (.int p1), .val (.int p2), .val (.ref ob1), .val (.ref ob2), .val (.int (1 : Int32)), .val (.int (1 : Int32)), .unset] [(.int (1 : Int32))])
      refine Runs.back (fun t_ k_ => XS.ifNo X3.here hx rfl (hb hby at_50) rfl ((if0 _ _).trans (feq (show ¬ ((1 : Int32) = (0 : Int32)) from (by decide))).1) k_) ?_
      show Runs _ _ _ _ T3 (mkF m 53 #[.val (.int p0), .val (.int p1), .val (.int p2), .val (.ref ob1), .val (.ref ob2), .val (.int (1 : Int32)), .val (.int (1 : Int32)), .unset] [])
      refine Runs.back (fun t_ k_ => XS.iload X3.here hx rfl (hb hby at_53) rfl k_) ?_
      show Runs _ _ _ _ T3 (mkF m 55 #[.val (.int p0), .val (.int p1), .val (.int p2), .val (.ref ob1), .val (.ref ob2), .val (.int (1 : Int32)), .val (.int (1 : Int32)), .unset] [(.int (1 : Int32))])
      refine Runs.back (fun t_ k_ => XS.istore X3.here hx rfl (hb hby at_55) rfl (l' := #[.val (.int p0), .val (.int p1), .val (.int p2), .val (.ref ob1), .val (.ref ob2), .val (.int (1 : Int32)), .val (.int (1 : Int32)), .val (.int (1 : Int32))]) rfl k_) ?_
      show Runs _ _ _ _ T3 (mkF m 57 #[.val (.int p0), .val (.int p1), .val (.int p2), .val (.ref ob1), .val (.ref ob2), .val (.int (1 : Int32)), .val (.int (1 : Int32)), .val (.int (1 : Int32))] [])
      refine Runs.back (fun t_ k_ => XS.goto X3.here hx rfl (pc0 := 57) (pc' := 63) rfl (hb hby at_57) (by decide) (by decide) k_) ?_
      show Runs _ _ _ _ T3 (mkF m 63 #[.val (.int p0), .val (.int p1), .val (.int p2), .val (.ref ob1), .val (.ref ob2), .val (.int (1 : Int32)), .val (.int (1 : Int32)), .val (.int (1 : Int32))] [])
      refine Runs.back (fun t_ k_ => XS.aload X3.here hx rfl (hb hby at_63) rfl rfl k_) ?_
      show Runs _ _ _ _ T3 (mkF m 65 #[.val (.int p0), .val (.int p1), .val (.int p2), .val (.ref ob1), .val (.ref ob2), .val (.int (1 : Int32)), .val (.int (1 : Int32)), .val (.int (1 : Int32))] [(.ref ob2)])
      obtain ⟨cq10, kq10, q10a, q10b, q10c⟩ := isOf hZ rfl iE3
      obtain ⟨_, _, ⟨T10, L10, k10, n10⟩, -, X10, ⟨Lc10, hQ10, l10, y10, z10⟩, st10⟩ := X3.virtualBack hx (y := (⟨"stanzabits/image/ImageHeader", "fitsUnsignedShort", "()Z"⟩ : MethodName)) (z := (⟨"stanzabits/image/ImageHeader", "fitsUnsignedShort", "()Z"⟩ : MethodName)) hown (mvT hZ (hw _ (List.mem_of_getElem? (i := 45) rfl))) (mvT hZ (hw _ (List.mem_of_getElem? (i := 46) rfl))) (notFace_of_selects (args := #[]) (mvT hZ (hw _ (List.mem_of_getElem? (i := 48) rfl)))) (mvT hZ (hw _ (List.mem_of_getElem? (i := 48) rfl))) (mvT hZ (hw _ (List.mem_of_getElem? (i := 47) rfl))) (by decide) (backOf (W := 0) (rm8 l Z a0 hw [] ob2 p0 p1 T3.heap n0 (Z3) iF3 iG3) hZ (hw _ (List.mem_of_getElem? (i := 49) rfl)) (hw _ (List.mem_of_getElem? (i := 28) rfl)) (by decide) (by decide)) q10a q10c (g := (mkF m 65 #[.val (.int p0), .val (.int p1), .val (.int p2), .val (.ref ob1), .val (.ref ob2), .val (.int (1 : Int32)), .val (.int (1 : Int32)), .val (.int (1 : Int32))] [(.ref ob2)])) rfl (by rw [hml]; rfl) (Steps.refl _) (argsL := []) (rest := []) (lenOf pd0_2 rfl) rfl (by show 2 * 0 + _ ≤ _; exact Nat.le_of_eq rfl) (hb hby at_65) (fun _ _ => ⟨rfl, rfl, (by decide : 3 + 0 ≤ _), (by decide : 8 + 0 ≤ _)⟩)
      dsimp only [Pt.U, Pt.locs, Pt.cells, Pt.slots] at X10 l10 y10 z10 st10 hQ10
      obtain rfl : k10 = 3 := y10
      obtain rfl : n10 = 8 := z10
      obtain ⟨rfl, N10q, eq10⟩ := hQ10
      have N10 : Fr n0 L10 := by rw [l10]; exact Fr.app N3 N10q
      clear l10
      refine Runs.trans st10 ?_
      show Runs _ _ _ _ T10 (mkF m 68 #[.val (.int p0), .val (.int p1), .val (.int p2), .val (.ref ob1), .val (.ref ob2), .val (.int (1 : Int32)), .val (.int (1 : Int32)), .val (.int (1 : Int32))] [(.int (fitF p0 p1))])
      refine Runs.back (fun t_ k_ => XS.iload X10.here hx rfl (hb hby at_68) rfl k_) ?_
      show Runs _ _ _ _ T10 (mkF m 70 #[.val (.int p0), .val (.int p1), .val (.int p2), .val (.ref ob1), .val (.ref ob2), .val (.int (1 : Int32)), .val (.int (1 : Int32)), .val (.int (1 : Int32))] [(.int (1 : Int32)), (.int (fitF p0 p1))])
      refine Runs.back (fun t_ k_ => XS.icmpNo X10.here hx rfl (hb hby at_70) rfl (teq (show (fitF p0 p1) = (1 : Int32) from (by simp only [fitF, if_neg c25_4, if_neg c38_8]))).2 k_) ?_
      show Runs _ _ _ _ T10 (mkF m 73 #[.val (.int p0), .val (.int p1), .val (.int p2), .val (.ref ob1), .val (.ref ob2), .val (.int (1 : Int32)), .val (.int (1 : Int32)), .val (.int (1 : Int32))] [])
      refine Runs.back (fun t_ k_ => XS.iconst X10.here hx rfl (hb hby at_73) k_) ?_
      show Runs _ _ _ _ T10 (mkF m 74 #[.val (.int p0), .val (.int p1), .val (.int p2), .val (.ref ob1), .val (.ref ob2), .val (.int (1 : Int32)), .val (.int (1 : Int32)), .val (.int (1 : Int32))] [(.int (1 : Int32))])
      refine Runs.back (fun t_ k_ => XS.goto X10.here hx rfl (pc0 := 74) (pc' := 78) rfl (hb hby at_74) (by decide) (by decide) k_) ?_
      show Runs _ _ _ _ T10 (mkF m 78 #[.val (.int p0), .val (.int p1), .val (.int p2), .val (.ref ob1), .val (.ref ob2), .val (.int (1 : Int32)), .val (.int (1 : Int32)), .val (.int (1 : Int32))] [(.int (1 : Int32))])
      obtain ⟨fs, hr, hrun, hended, hW, hsame⟩ := X10.leave (v := some (.int (1 : Int32))) (fun h => by rw [Bd.returns] at h; cases h)
      exact ⟨_, _, (retN X10 hx (t := .boolean) Bd.returns (by simp) (hb hby at_78) hr), hrun, hended, _, _, rfl, ⟨rfl, N10⟩, ⟨_, rfl⟩, hW, hsame.mono (by decide) (by decide)⟩
set_option maxRecDepth 65536 in
set_option maxHeartbeats 40000000 in
theorem comes_1 {Post : Tables → Env → Array Value → State → Outcome → State → Prop} (hpost : ∀ tb e args s v u, (limb_1_1.after args s (.returned v) u = true ∧ limb_1_2.after args s (.returned v) u = true ∧ True) → FrameEnd s (.returned v) u (Jvm.fieldLocs frame_1_writes args s ++ Jvm.arrayLocs frame_1_arrays args s ++ Jvm.staticLocs frame_1_statics s) 16 128 → Post tb e args s (.returned v) u) :
    ArmFor flags0 classFile x code maxLocals ret World_1 tables_1 room_1 Calls_1 rest_1 Pre_1 Post := by
  intro l hfl _ _ p e ha hc hk s m args below hf hA hF happ hP
  obtain ⟨hcalls, hrest, hpre⟩ := hP
  obtain ⟨-, -, -, hnamed, -, -, -, hat⟩ := (Spec.applies_iff hf).mp happ
  obtain ⟨hg, hn⟩ := and_e (Cond.before_iff.mp (show (Jvm.Cond.and given_1 narrow_1).before args s = true from hpre))
  obtain ⟨g0, gr0⟩ := and_e hg
  obtain ⟨g1, gr1⟩ := and_e gr0
  obtain ⟨g2, gr2⟩ := and_e gr1
  obtain ⟨w0, w1, w2, rfl⟩ : ∃ w0 w1 w2 : Value, args = #[w0, w1, w2] := by
    have hs : args.size = 3 := by simpa [Cond.value, given_1] using g0
    obtain ⟨L⟩ := args
    match L, hs with
    | [w0, w1, w2], _ => exact ⟨w0, w1, w2, rfl⟩
  have hw := fun d (hd : d ∈ tables_1) => atoms_spec (ws := Jvm.Cond.code x code maxLocals ret :: tables_1) hat d (List.mem_cons_of_mem _ hd)
  obtain ⟨hsets, hown0⟩ := atoms_of _ (rest_1_c_eq ▸ (show rest_1_c.before _ s = true from hrest))
  obtain ⟨cs, ecs⟩ := is_v (Cond.before_iff.mp (hsets _ (List.mem_of_getElem? (i := 1) rfl)))
  have nz := not_v (Cond.before_iff.mp (hsets _ (List.mem_of_getElem? (i := 2) rfl)))
  have hcs : ¬ cs = (0 : Int32) := fun q => by
    have z := eq_i ecs (Term.int_eval (0)) (by rw [q])
    rw [nz] at z; cases z
  have S1 := Sta.start ecs (Or.inl (hsets _ (List.mem_of_getElem? (i := 0) rfl)))
  obtain ⟨i0, ei0⟩ := is_v g1
  obtain rfl : w0 = (.int i0) := Option.some.inj ei0
  obtain ⟨i1, ei1⟩ := is_v g2
  obtain rfl : w1 = (.int i1) := Option.some.inj ei1
  obtain ⟨i2, ei2⟩ := is_v gr2
  obtain rfl : w2 = (.int i2) := Option.some.inj ei2
  obtain ⟨n, o, h1, h2, h3, _, L, rfl, ⟨rfl, N⟩, hq⟩ := rm0 l s _ hw tables_1 i0 i1 i2 cs s.heap s.heap.size (Nat.le_refl _) S1 hcs p e ha hc hk s m _ below hf ((Spec.applies_iff_loose hf).mp happ).1 ⟨rfl, State.Warmed39.refl s, rfl⟩ trivial
  refine ⟨n, _, h1, h2, h3, hpost _ _ _ _ _ _ ⟨Cond.after_iff.mpr rfl, Cond.after_iff.mpr (eq_i res_at (Term.int_eval (1)) rfl), trivial⟩ ⟨hq.1, hq.2.1, (hq.2.2.sift fun y hy => Or.inr (N y hy)).mono (by decide) (by decide)⟩⟩
theorem main_1_1 : Claimed_1_1 := comes_1 fun _ _ _ _ _ _ h hF => ⟨h.1, hF⟩
theorem main_1_2 : Claimed_1_2 := comes_1 fun _ _ _ _ _ _ h hF => ⟨h.2.1, hF⟩
end Jvm.Pilot.@@N@@
namespace Jvm.Pilot.@@N@@
open Jvm Jvm.ClassFile Sem Op Lib Jvm.Free Jvm.Stand Jvm.Pilot.@@N@@.Jvm.D
/-! MADE BY PROGRAM (witnessworld.py) out of the Statement's table words and the real class files: 18 classes; the members and pool entries that the words name. The judged class is class 1, her method 1. -/
namespace start1
open Jvm.ClassFile
def u (s : String) : CpInfo := .utf8 (stringToUtf16 s)
/-- a pool by its gaps: so many unusable entries, then the entry; so many at the end -/
def gap : Nat → List CpInfo → List CpInfo
  | 0, r => r
  | n + 1, r => .unusable :: gap n r
def poolList (es : List (Nat × CpInfo)) (last : Nat) : List CpInfo := es.foldr (fun e r => gap e.1 (e.2 :: r)) (gap last [])
def pool (es : List (Nat × CpInfo)) (last : Nat) : Array CpInfo := ⟨poolList es last⟩
def fileOf (pool : Array CpInfo) (this : Nat) (attrs : Array Attribute := #[]) (ms : Array MethodInfo := #[]) (fl : Nat := 33) (sup : Nat := 0) (ifs : Array Nat := #[]) (fds : Array FieldInfo := #[]) : ClassFile where
  minorVersion := 0
  majorVersion := 65
  constantPool := pool
  accessFlags := fl
  thisClass := this
  superClass := sup
  interfaces := ifs
  fields := fds
  methods := ms
  attributes := attrs
def plain (name : String) (sup : Option ClassId) : Class where
  name := name
  kind := .ordinary
  loader := none
  accessFlags := 33
  super := sup
  interfaces := #[]
  cf := none
  fields := #[]
  methods := #[]
  instanceTypes := #[]
  staticTypes := #[]
  resolved := #[]
  callSites := []
  init := .initialized
  statics := none
  mirror := none

def pool0 : Array CpInfo := pool [(5, u "<init>"), (0, u "()V"), (1, .class_ 10), (1, u "java/lang/Object")] 113

def k0c0 : Code := { maxStack := 0, maxLocals := 1, code := object_method_1_code, exceptionTable := #[], attributes := #[] }
def k0m0 : Method := { name := "<init>", desc := "()V", sig := { parameters := [], returnType := none }, accessFlags := 1, code := some k0c0 }
/-- java/lang/Object -/
def k0 : Class := { plain "java/lang/Object" none with
  accessFlags := 33
  interfaces := #[]
  cf := some (fileOf pool0 8 #[] #[{ accessFlags := 1, nameIndex := 5, descriptorIndex := 6, attributes := #[] }] 33 0 #[] #[])
  fields := #[]
  methods := #[k0m0]
  instanceTypes := #[]
  staticTypes := #[]
  resolved := Array.replicate 124 none
  statics := none }

def pool1 : Array CpInfo := pool [(2, .class_ 4), (1, u "java/lang/Object"), (0, u "<init>"), (0, u "()V"), (0, .methodref 8 9), (0, .class_ 10), (0, .nameAndType 11 12), (0, u "java/lang/String"), (0, u "valueOf"), (0, u "(C)Ljava/lang/String;"), (0, .class_ 14), (0, u "stanzabits/image/ImageHeader"), (0, .methodref 13 16), (0, .nameAndType 5 17), (0, u "(Ljava/lang/String;II)V"), (0, .integer 65535), (0, .methodref 13 20), (0, .nameAndType 21 22), (0, u "fitsUnsignedShort"), (0, u "()Z"), (0, .class_ 24), (0, u "stanzabits/image/ImageHeaderFitsUnsignedShortPinLaw"), (2, u "law"), (0, u "(III)Z")] 3

def k1m0 : Method := { name := "<init>", desc := "()V", sig := { parameters := [], returnType := none }, accessFlags := 2, code := none }
def k1c1 : Code := { maxStack := 5, maxLocals := 8, code := code, exceptionTable := #[], attributes := #[] }
def k1m1 : Method := { name := "law", desc := "(III)Z", sig := { parameters := [.int, .int, .int], returnType := some .boolean }, accessFlags := 9, code := some k1c1 }
/-- stanzabits/image/ImageHeaderFitsUnsignedShortPinLaw -/
def k1 : Class := { plain "stanzabits/image/ImageHeaderFitsUnsignedShortPinLaw" (some 0) with
  accessFlags := 49
  interfaces := #[]
  cf := some (fileOf pool1 23 #[] #[{ accessFlags := 2, nameIndex := 5, descriptorIndex := 6, attributes := #[] }, { accessFlags := 9, nameIndex := 27, descriptorIndex := 28, attributes := #[] }] 49 2 #[] #[])
  fields := #[]
  methods := #[k1m0, k1m1]
  instanceTypes := #[]
  staticTypes := #[]
  resolved := Array.replicate 32 none
  statics := none }

def pool2 : Array CpInfo := pool [(1, .class_ 2), (0, u "java/io/Serializable"), (0, .class_ 4), (0, u "java/lang/Object")] 2

/-- java/io/Serializable -/
def k2 : Class := { plain "java/io/Serializable" (some 0) with
  accessFlags := 1537
  interfaces := #[]
  cf := some (fileOf pool2 1 #[] #[] 1537 3 #[] #[])
  fields := #[]
  methods := #[]
  instanceTypes := #[]
  staticTypes := #[]
  resolved := Array.replicate 7 none
  statics := none }

def pool3 : Array CpInfo := pool [(1, .class_ 2), (0, u "java/lang/Comparable"), (0, .class_ 4), (0, u "java/lang/Object")] 7

/-- java/lang/Comparable -/
def k3 : Class := { plain "java/lang/Comparable" (some 0) with
  accessFlags := 1537
  interfaces := #[]
  cf := some (fileOf pool3 1 #[] #[] 1537 3 #[] #[])
  fields := #[]
  methods := #[]
  instanceTypes := #[]
  staticTypes := #[]
  resolved := Array.replicate 12 none
  statics := none }

def pool4 : Array CpInfo := pool [(2, .class_ 4), (1, u "java/lang/CharSequence"), (42, .class_ 48), (0, u "java/lang/CharSequence$1CodePointIterator"), (10, .class_ 60), (0, u "java/lang/CharSequence$1CharIterator"), (5, .class_ 67), (0, u "java/lang/Object")] 63

/-- java/lang/CharSequence -/
def k4 : Class := { plain "java/lang/CharSequence" (some 0) with
  accessFlags := 1537
  interfaces := #[]
  cf := some (fileOf pool4 2 #[.nestMembers #[47, 59]] #[] 1537 66 #[] #[])
  fields := #[]
  methods := #[]
  instanceTypes := #[]
  staticTypes := #[]
  resolved := Array.replicate 131 none
  statics := none }

def pool5 : Array CpInfo := pool [(1, .class_ 2), (0, u "java/lang/constant/Constable"), (0, .class_ 4), (0, u "java/lang/Object")] 6

/-- java/lang/constant/Constable -/
def k5 : Class := { plain "java/lang/constant/Constable" (some 0) with
  accessFlags := 1537
  interfaces := #[]
  cf := some (fileOf pool5 1 #[] #[] 1537 3 #[] #[])
  fields := #[]
  methods := #[]
  instanceTypes := #[]
  staticTypes := #[]
  resolved := Array.replicate 11 none
  statics := none }

def pool6 : Array CpInfo := pool [(1, .class_ 2), (0, u "java/lang/constant/ConstantDesc"), (0, .class_ 4), (0, u "java/lang/Object")] 32

/-- java/lang/constant/ConstantDesc -/
def k6 : Class := { plain "java/lang/constant/ConstantDesc" (some 0) with
  accessFlags := 1537
  interfaces := #[]
  cf := some (fileOf pool6 1 #[] #[] 1537 3 #[] #[])
  fields := #[]
  methods := #[]
  instanceTypes := #[]
  staticTypes := #[]
  resolved := Array.replicate 37 none
  statics := none }

def pool7 : Array CpInfo := pool [(1, .methodref 2 3), (0, .class_ 4), (0, .nameAndType 5 6), (0, u "java/lang/Object"), (0, u "<init>"), (0, u "()V"), (2, .fieldref 10 11), (0, .class_ 12), (0, .nameAndType 13 14), (0, u "java/lang/String"), (0, u "value"), (0, u "[B"), (0, .fieldref 10 16), (0, .nameAndType 17 18), (0, u "coder"), (0, u "B"), (2, u "hash"), (0, u "I"), (2, u "hashIsZero"), (0, u "Z"), (11, .fieldref 10 39), (0, .nameAndType 40 26), (0, u "COMPACT_STRINGS"), (12, u "toBytes"), (53, .class_ 109), (1, u "java/lang/StringLatin1"), (99, .methodref 10 210), (0, .nameAndType 5 211), (0, u "([BB)V"), (157, u "(C)Z"), (205, .class_ 576), (0, u "java/lang/CharSequence"), (22, u "CASE_INSENSITIVE_ORDER"), (0, u "Ljava/util/Comparator;"), (181, u "valueOf"), (0, u "(C)Ljava/lang/String;"), (231, .methodref 107 1016), (0, .nameAndType 1017 369), (0, u "canEncode"), (0, .methodref 107 1019), (0, .nameAndType 53 1020), (0, u "(C)[B"), (80, u "serialPersistentFields"), (0, u "[Ljava/io/ObjectStreamField;"), (0, .class_ 1104), (0, u "java/lang/String$CaseInsensitiveComparator"), (1, .class_ 1107), (0, u "java/io/Serializable"), (0, .class_ 1109), (0, u "java/lang/Comparable"), (0, .class_ 1111), (0, u "java/lang/constant/Constable"), (0, .class_ 1113), (0, u "java/lang/constant/ConstantDesc"), (2, u "serialVersionUID"), (0, u "J"), (3, u "REPL"), (0, u "C"), (2, u "LATIN1"), (1, u "UTF16")] 323

def k7m0 : Method := { name := "<init>", desc := "()V", sig := { parameters := [], returnType := none }, accessFlags := 1, code := none }
def k7c1 : Code := { maxStack := 4, maxLocals := 1, code := jdk_42_method_139_code, exceptionTable := #[], attributes := #[] }
def k7m1 : Method := { name := "valueOf", desc := "(C)Ljava/lang/String;", sig := { parameters := [.char], returnType := some (.object "java/lang/String") }, accessFlags := 9, code := some k7c1 }
def k7c2 : Code := { maxStack := 2, maxLocals := 3, code := jdk_42_method_151_code, exceptionTable := #[], attributes := #[] }
def k7m2 : Method := { name := "<init>", desc := "([BB)V", sig := { parameters := [(.array .byte), .byte], returnType := none }, accessFlags := 0, code := some k7c2 }
/-- java/lang/String -/
def k7 : Class := { plain "java/lang/String" (some 0) with
  accessFlags := 49
  interfaces := #[2, 3, 4, 5, 6]
  cf := some (fileOf pool7 10 #[.nestMembers #[1103]] #[{ accessFlags := 1, nameIndex := 5, descriptorIndex := 6, attributes := #[] }, { accessFlags := 9, nameIndex := 782, descriptorIndex := 783, attributes := #[] }, { accessFlags := 0, nameIndex := 5, descriptorIndex := 211, attributes := #[] }] 49 2 #[1106, 1108, 575, 1110, 1112] #[{ accessFlags := 18, nameIndex := 13, descriptorIndex := 14, attributes := #[] }, { accessFlags := 18, nameIndex := 17, descriptorIndex := 18, attributes := #[] }, { accessFlags := 2, nameIndex := 21, descriptorIndex := 22, attributes := #[] }, { accessFlags := 2, nameIndex := 25, descriptorIndex := 26, attributes := #[] }, { accessFlags := 26, nameIndex := 1116, descriptorIndex := 1117, attributes := #[] }, { accessFlags := 24, nameIndex := 40, descriptorIndex := 26, attributes := #[] }, { accessFlags := 26, nameIndex := 1101, descriptorIndex := 1102, attributes := #[] }, { accessFlags := 26, nameIndex := 1121, descriptorIndex := 1122, attributes := #[] }, { accessFlags := 25, nameIndex := 599, descriptorIndex := 600, attributes := #[] }, { accessFlags := 24, nameIndex := 1125, descriptorIndex := 18, attributes := #[] }, { accessFlags := 24, nameIndex := 1127, descriptorIndex := 18, attributes := #[] }])
  fields := #[{ name := "value", type := (.array .byte), accessFlags := 18, slot := 0, constantValue := 0 }, { name := "coder", type := .byte, accessFlags := 18, slot := 1, constantValue := 0 }, { name := "hash", type := .int, accessFlags := 2, slot := 2, constantValue := 0 }, { name := "hashIsZero", type := .boolean, accessFlags := 2, slot := 3, constantValue := 0 }, { name := "serialVersionUID", type := .long, accessFlags := 26, slot := 0, constantValue := 0 }, { name := "COMPACT_STRINGS", type := .boolean, accessFlags := 24, slot := 1, constantValue := 0 }, { name := "serialPersistentFields", type := (.array (.object "java/io/ObjectStreamField")), accessFlags := 26, slot := 2, constantValue := 0 }, { name := "REPL", type := .char, accessFlags := 26, slot := 3, constantValue := 0 }, { name := "CASE_INSENSITIVE_ORDER", type := (.object "java/util/Comparator"), accessFlags := 25, slot := 4, constantValue := 0 }, { name := "LATIN1", type := .byte, accessFlags := 24, slot := 5, constantValue := 0 }, { name := "UTF16", type := .byte, accessFlags := 24, slot := 6, constantValue := 0 }]
  methods := #[k7m0, k7m1, k7m2]
  instanceTypes := #[(.array .byte), .byte, .int, .boolean]
  staticTypes := #[.long, .boolean, (.array (.object "java/io/ObjectStreamField")), .char, (.object "java/util/Comparator"), .byte, .byte]
  resolved := Array.replicate 1451 none
  statics := some 0 }

def pool8 : Array CpInfo := pool [(4, .class_ 6), (1, u "java/lang/Object"), (0, u "<init>"), (0, u "()V"), (5, .class_ 16), (1, u "java/lang/StringLatin1"), (73, u "canEncode"), (14, u "(C)Z"), (15, u "$assertionsDisabled"), (0, u "Z"), (98, .class_ 223), (1, u "java/lang/StringLatin1$LinesSpliterator"), (156, u "toBytes"), (1, u "(C)[B"), (7, .class_ 391), (0, u "java/lang/StringLatin1$CharsSpliterator")] 3

def k8m0 : Method := { name := "<init>", desc := "()V", sig := { parameters := [], returnType := none }, accessFlags := 0, code := none }
def k8c1 : Code := { maxStack := 2, maxLocals := 1, code := jdk_43_method_3_code, exceptionTable := #[], attributes := #[] }
def k8m1 : Method := { name := "canEncode", desc := "(C)Z", sig := { parameters := [.char], returnType := some .boolean }, accessFlags := 9, code := some k8c1 }
def k8c2 : Code := { maxStack := 4, maxLocals := 1, code := jdk_43_method_46_code, exceptionTable := #[], attributes := #[] }
def k8m2 : Method := { name := "toBytes", desc := "(C)[B", sig := { parameters := [.char], returnType := some (.array .byte) }, accessFlags := 9, code := some k8c2 }
/-- java/lang/StringLatin1 -/
def k8 : Class := { plain "java/lang/StringLatin1" (some 0) with
  accessFlags := 48
  interfaces := #[]
  cf := some (fileOf pool8 14 #[.nestMembers #[390, 221]] #[{ accessFlags := 0, nameIndex := 7, descriptorIndex := 8, attributes := #[] }, { accessFlags := 9, nameIndex := 90, descriptorIndex := 105, attributes := #[] }, { accessFlags := 9, nameIndex := 380, descriptorIndex := 382, attributes := #[] }] 48 4 #[] #[{ accessFlags := 4120, nameIndex := 121, descriptorIndex := 122, attributes := #[] }])
  fields := #[{ name := "$assertionsDisabled", type := .boolean, accessFlags := 4120, slot := 0, constantValue := 0 }]
  methods := #[k8m0, k8m1, k8m2]
  instanceTypes := #[]
  staticTypes := #[.boolean]
  resolved := Array.replicate 395 none
  statics := none }

def pool9 : Array CpInfo := pool [(1, .methodref 2 3), (0, .class_ 4), (0, .nameAndType 5 6), (0, u "java/lang/Object"), (0, u "<init>"), (0, u "()V"), (0, .class_ 8), (0, u "java/lang/Record")] 13

def k9c0 : Code := { maxStack := 1, maxLocals := 1, code := jdk_30_method_1_code, exceptionTable := #[], attributes := #[] }
def k9m0 : Method := { name := "<init>", desc := "()V", sig := { parameters := [], returnType := none }, accessFlags := 4, code := some k9c0 }
/-- java/lang/Record -/
def k9 : Class := { plain "java/lang/Record" (some 0) with
  accessFlags := 1057
  interfaces := #[]
  cf := some (fileOf pool9 7 #[] #[{ accessFlags := 4, nameIndex := 5, descriptorIndex := 6, attributes := #[] }] 1057 2 #[] #[])
  fields := #[]
  methods := #[k9m0]
  instanceTypes := #[]
  staticTypes := #[]
  resolved := Array.replicate 22 none
  statics := none }

def pool10 : Array CpInfo := pool [(1, .methodref 2 3), (0, .class_ 4), (0, .nameAndType 5 6), (0, u "java/lang/Record"), (0, u "<init>"), (0, u "()V"), (0, .fieldref 8 9), (0, .class_ 10), (0, .nameAndType 11 12), (0, u "stanzabits/image/ImageHeader"), (0, u "format"), (0, u "Ljava/lang/String;"), (0, .fieldref 8 14), (0, .nameAndType 15 16), (0, u "width"), (0, u "I"), (0, .fieldref 8 18), (0, .nameAndType 19 16), (0, u "height"), (21, u "()Z"), (46, u "(Ljava/lang/String;II)V"), (17, u "CONTENT_TYPES"), (0, u "Ljava/util/Map;"), (11, .integer 65535), (40, u "fitsUnsignedShort")] 25

def k10c0 : Code := { maxStack := 2, maxLocals := 4, code := prog_80_method_1_code, exceptionTable := #[], attributes := #[] }
def k10m0 : Method := { name := "<init>", desc := "(Ljava/lang/String;II)V", sig := { parameters := [(.object "java/lang/String"), .int, .int], returnType := none }, accessFlags := 1, code := some k10c0 }
def k10c1 : Code := { maxStack := 2, maxLocals := 1, code := prog_80_method_4_code, exceptionTable := #[], attributes := #[] }
def k10m1 : Method := { name := "fitsUnsignedShort", desc := "()Z", sig := { parameters := [], returnType := some .boolean }, accessFlags := 1, code := some k10c1 }
/-- stanzabits/image/ImageHeader -/
def k10 : Class := { plain "stanzabits/image/ImageHeader" (some 9) with
  accessFlags := 49
  interfaces := #[]
  cf := some (fileOf pool10 8 #[] #[{ accessFlags := 1, nameIndex := 5, descriptorIndex := 88, attributes := #[] }, { accessFlags := 1, nameIndex := 160, descriptorIndex := 41, attributes := #[] }] 49 2 #[] #[{ accessFlags := 18, nameIndex := 11, descriptorIndex := 12, attributes := #[] }, { accessFlags := 18, nameIndex := 15, descriptorIndex := 16, attributes := #[] }, { accessFlags := 18, nameIndex := 19, descriptorIndex := 16, attributes := #[] }, { accessFlags := 26, nameIndex := 106, descriptorIndex := 107, attributes := #[] }])
  fields := #[{ name := "format", type := (.object "java/lang/String"), accessFlags := 18, slot := 0, constantValue := 0 }, { name := "width", type := .int, accessFlags := 18, slot := 1, constantValue := 0 }, { name := "height", type := .int, accessFlags := 18, slot := 2, constantValue := 0 }, { name := "CONTENT_TYPES", type := (.object "java/util/Map"), accessFlags := 26, slot := 0, constantValue := 0 }]
  methods := #[k10m0, k10m1]
  instanceTypes := #[(.object "java/lang/String"), .int, .int]
  staticTypes := #[(.object "java/util/Map")]
  resolved := Array.replicate 186 none
  statics := none }

def pool11 : Array CpInfo := pool [(2, .class_ 4), (1, u "java/lang/Object"), (0, u "<init>"), (0, u "()V"), (17, .class_ 26), (1, u "jdk/internal/util/Preconditions"), (28, .class_ 56), (0, u "jdk/internal/util/Preconditions$4"), (57, .class_ 115), (0, u "jdk/internal/util/Preconditions$1"), (7, u "SIOOBE_FORMATTER"), (0, u "Ljava/util/function/BiFunction;"), (0, .class_ 126), (0, u "jdk/internal/util/Preconditions$2"), (3, u "AIOOBE_FORMATTER"), (0, .class_ 132), (0, u "jdk/internal/util/Preconditions$3"), (3, u "IOOBE_FORMATTER")] 57

def k11m0 : Method := { name := "<init>", desc := "()V", sig := { parameters := [], returnType := none }, accessFlags := 1, code := none }
/-- jdk/internal/util/Preconditions -/
def k11 : Class := { plain "jdk/internal/util/Preconditions" (some 0) with
  accessFlags := 33
  interfaces := #[]
  cf := some (fileOf pool11 24 #[.nestMembers #[55, 131, 125, 114]] #[{ accessFlags := 1, nameIndex := 5, descriptorIndex := 6, attributes := #[] }] 33 2 #[] #[{ accessFlags := 25, nameIndex := 123, descriptorIndex := 124, attributes := #[] }, { accessFlags := 25, nameIndex := 130, descriptorIndex := 124, attributes := #[] }, { accessFlags := 25, nameIndex := 136, descriptorIndex := 124, attributes := #[] }])
  fields := #[{ name := "SIOOBE_FORMATTER", type := (.object "java/util/function/BiFunction"), accessFlags := 25, slot := 0, constantValue := 0 }, { name := "AIOOBE_FORMATTER", type := (.object "java/util/function/BiFunction"), accessFlags := 25, slot := 1, constantValue := 0 }, { name := "IOOBE_FORMATTER", type := (.object "java/util/function/BiFunction"), accessFlags := 25, slot := 2, constantValue := 0 }]
  methods := #[k11m0]
  instanceTypes := #[]
  staticTypes := #[(.object "java/util/function/BiFunction"), (.object "java/util/function/BiFunction"), (.object "java/util/function/BiFunction")]
  resolved := Array.replicate 194 none
  statics := some 1 }

def pool12 : Array CpInfo := pool [(9, u "<init>"), (6, .class_ 18), (1, u "java/lang/Object"), (0, u "()V"), (1, .class_ 23), (1, u "jdk/internal/util/ArraysSupport"), (0, u "LOG2_ARRAY_LONG_INDEX_SCALE"), (0, u "I"), (2, u "U"), (0, u "Ljdk/internal/misc/Unsafe;"), (8, u "BIG_ENDIAN"), (0, u "Z"), (8, u "LOG2_BYTE_BIT_SIZE"), (4, u "LOG2_ARRAY_INT_INDEX_SCALE"), (54, u "JLA"), (0, u "Ljdk/internal/access/JavaLangAccess;"), (11, u "LOG2_ARRAY_BOOLEAN_INDEX_SCALE"), (9, u "LOG2_ARRAY_BYTE_INDEX_SCALE"), (5, u "LOG2_ARRAY_CHAR_INDEX_SCALE"), (5, u "LOG2_ARRAY_SHORT_INDEX_SCALE"), (18, u "LOG2_ARRAY_FLOAT_INDEX_SCALE"), (24, u "LOG2_ARRAY_DOUBLE_INDEX_SCALE"), (89, u "T_BOOLEAN"), (2, u "T_CHAR"), (1, u "T_FLOAT"), (1, u "T_DOUBLE"), (1, u "T_BYTE"), (1, u "T_SHORT"), (1, u "T_INT"), (1, u "T_LONG"), (1, u "SOFT_MAX_ARRAY_LENGTH")] 83

def k12m0 : Method := { name := "<init>", desc := "()V", sig := { parameters := [], returnType := none }, accessFlags := 2, code := none }
/-- jdk/internal/util/ArraysSupport -/
def k12 : Class := { plain "jdk/internal/util/ArraysSupport" (some 0) with
  accessFlags := 33
  interfaces := #[]
  cf := some (fileOf pool12 21 #[] #[{ accessFlags := 2, nameIndex := 9, descriptorIndex := 19, attributes := #[] }] 33 16 #[] #[{ accessFlags := 24, nameIndex := 28, descriptorIndex := 29, attributes := #[] }, { accessFlags := 26, nameIndex := 38, descriptorIndex := 39, attributes := #[] }, { accessFlags := 25, nameIndex := 121, descriptorIndex := 25, attributes := #[] }, { accessFlags := 25, nameIndex := 131, descriptorIndex := 25, attributes := #[] }, { accessFlags := 25, nameIndex := 137, descriptorIndex := 25, attributes := #[] }, { accessFlags := 25, nameIndex := 143, descriptorIndex := 25, attributes := #[] }, { accessFlags := 25, nameIndex := 53, descriptorIndex := 25, attributes := #[] }, { accessFlags := 25, nameIndex := 24, descriptorIndex := 25, attributes := #[] }, { accessFlags := 25, nameIndex := 162, descriptorIndex := 25, attributes := #[] }, { accessFlags := 25, nameIndex := 187, descriptorIndex := 25, attributes := #[] }, { accessFlags := 26, nameIndex := 48, descriptorIndex := 25, attributes := #[] }, { accessFlags := 25, nameIndex := 277, descriptorIndex := 25, attributes := #[] }, { accessFlags := 25, nameIndex := 280, descriptorIndex := 25, attributes := #[] }, { accessFlags := 25, nameIndex := 282, descriptorIndex := 25, attributes := #[] }, { accessFlags := 25, nameIndex := 284, descriptorIndex := 25, attributes := #[] }, { accessFlags := 25, nameIndex := 286, descriptorIndex := 25, attributes := #[] }, { accessFlags := 25, nameIndex := 288, descriptorIndex := 25, attributes := #[] }, { accessFlags := 25, nameIndex := 290, descriptorIndex := 25, attributes := #[] }, { accessFlags := 25, nameIndex := 292, descriptorIndex := 25, attributes := #[] }, { accessFlags := 26, nameIndex := 108, descriptorIndex := 109, attributes := #[] }, { accessFlags := 25, nameIndex := 294, descriptorIndex := 25, attributes := #[] }])
  fields := #[{ name := "U", type := (.object "jdk/internal/misc/Unsafe"), accessFlags := 24, slot := 0, constantValue := 0 }, { name := "BIG_ENDIAN", type := .boolean, accessFlags := 26, slot := 1, constantValue := 0 }, { name := "LOG2_ARRAY_BOOLEAN_INDEX_SCALE", type := .int, accessFlags := 25, slot := 2, constantValue := 0 }, { name := "LOG2_ARRAY_BYTE_INDEX_SCALE", type := .int, accessFlags := 25, slot := 3, constantValue := 0 }, { name := "LOG2_ARRAY_CHAR_INDEX_SCALE", type := .int, accessFlags := 25, slot := 4, constantValue := 0 }, { name := "LOG2_ARRAY_SHORT_INDEX_SCALE", type := .int, accessFlags := 25, slot := 5, constantValue := 0 }, { name := "LOG2_ARRAY_INT_INDEX_SCALE", type := .int, accessFlags := 25, slot := 6, constantValue := 0 }, { name := "LOG2_ARRAY_LONG_INDEX_SCALE", type := .int, accessFlags := 25, slot := 7, constantValue := 0 }, { name := "LOG2_ARRAY_FLOAT_INDEX_SCALE", type := .int, accessFlags := 25, slot := 8, constantValue := 0 }, { name := "LOG2_ARRAY_DOUBLE_INDEX_SCALE", type := .int, accessFlags := 25, slot := 9, constantValue := 0 }, { name := "LOG2_BYTE_BIT_SIZE", type := .int, accessFlags := 26, slot := 10, constantValue := 0 }, { name := "T_BOOLEAN", type := .int, accessFlags := 25, slot := 11, constantValue := 0 }, { name := "T_CHAR", type := .int, accessFlags := 25, slot := 12, constantValue := 0 }, { name := "T_FLOAT", type := .int, accessFlags := 25, slot := 13, constantValue := 0 }, { name := "T_DOUBLE", type := .int, accessFlags := 25, slot := 14, constantValue := 0 }, { name := "T_BYTE", type := .int, accessFlags := 25, slot := 15, constantValue := 0 }, { name := "T_SHORT", type := .int, accessFlags := 25, slot := 16, constantValue := 0 }, { name := "T_INT", type := .int, accessFlags := 25, slot := 17, constantValue := 0 }, { name := "T_LONG", type := .int, accessFlags := 25, slot := 18, constantValue := 0 }, { name := "JLA", type := (.object "jdk/internal/access/JavaLangAccess"), accessFlags := 26, slot := 19, constantValue := 0 }, { name := "SOFT_MAX_ARRAY_LENGTH", type := .int, accessFlags := 25, slot := 20, constantValue := 0 }]
  methods := #[k12m0]
  instanceTypes := #[]
  staticTypes := #[(.object "jdk/internal/misc/Unsafe"), .boolean, .int, .int, .int, .int, .int, .int, .int, .int, .int, .int, .int, .int, .int, .int, .int, .int, .int, (.object "jdk/internal/access/JavaLangAccess"), .int]
  resolved := Array.replicate 378 none
  statics := none }

def pool13 : Array CpInfo := pool [(1, u "java/lang/Cloneable"), (0, .class_ 1), (0, u "java/lang/Object"), (0, .class_ 3)] 3

/-- java/lang/Cloneable -/
def k13 : Class := { plain "java/lang/Cloneable" (some 0) with
  accessFlags := 1537
  interfaces := #[]
  cf := some (fileOf pool13 2 #[] #[] 1537 4 #[] #[])
  fields := #[]
  methods := #[]
  instanceTypes := #[]
  staticTypes := #[]
  resolved := Array.replicate 8 none
  statics := none }

/-- the primitive byte -/
def k14 : Class := { plain "byte" none with kind := .primitive 'B', accessFlags := 0x411 }
/-- [B -/
def k15 : Class := { plain "[B" (some 0) with kind := .array 14 .byte, interfaces := #[13, 2], accessFlags := 1041 }

/-- the primitive int -/
def k16 : Class := { plain "int" none with kind := .primitive 'I', accessFlags := 0x411 }
/-- [I -/
def k17 : Class := { plain "[I" (some 0) with kind := .array 16 .int, interfaces := #[13, 2], accessFlags := 1041 }

def heap : Heap := #[{ cls := 7, slots := #[.long 0, .int 1, .null, .int 0, .null, .int 0, .int 0], vm := .statics 7 },
  { cls := 11, slots := #[.null, .null, .null], vm := .statics 11 }]
def classes : Array Class := #[k0, k1, k2, k3, k4, k5, k6, k7, k8, k9, k10, k11, k12, k13, k14, k15, k16, k17]
def interned : List (Array UInt16 × Addr) := []
def slotsUsed : Nat := 10
def theMethod : MethodId := ⟨1, 1⟩
def args0 : Array Value := #[.int 5, .int 6, .int 7]
def aboutOver (below : List Frame) : State where
  vm := { classes := classes, interned := interned.toArray }
  heap := heap
  slotsUsed := slotsUsed
  threads := #[{ frames := .invoking theMethod args0 :: below }]
def below0 : List Frame := [.native { method := ⟨0, 0⟩, args := #[] }]
def about1 : State := aboutOver below0
def p0 : Program := .bare "" "" ""
def e0 : Env := launch0.env 0 0 0
theorem w_frames : about1.frames = Frame.invoking theMethod args0 :: below0 := rfl
set_option maxRecDepth 65536 in
theorem w_args : argsFit about1.vm theMethod args0 = true := by decide +kernel
set_option maxRecDepth 65536 in
theorem w_heap : heapFits about1 = true := by decide +kernel
set_option maxRecDepth 65536 in
theorem w_runnable : about1.curStatus? = some .runnable := by decide +kernel
set_option maxRecDepth 65536 in
theorem w_alone : about1.alone = true := by decide +kernel
set_option maxRecDepth 65536 in
theorem w_named : about1.methodNamed? x = some theMethod := by decide +kernel
set_option maxRecDepth 65536 in
theorem w_hears : about1.hears theMethod below0 = true := by decide +kernel
set_option maxRecDepth 65536 in
theorem w_ripe : about1.ripe theMethod args0 below0 = true := by decide +kernel
theorem w_running : about1.status = .running := rfl
set_option maxRecDepth 65536 in
theorem w_room : about1.hasRoom e0.platform room_1 = true :=
  launch0.hasRoom_least _ room_1 (by decide +kernel) (by decide +kernel) (by decide +kernel) (by decide +kernel) (by decide +kernel) (by decide +kernel)
theorem allAtoms_all (ts : List Jvm.Cond) (a : Array Jvm.Value) (st : Jvm.State) : (allAtoms ts).before a st = ts.all (fun c => c.before a st) := by
  induction ts with
  | nil => rfl
  | cons c t ih =>
    show (Jvm.Cond.and c (allAtoms t)).before a st = _
    rw [Jvm.Cond.before_and, ih, List.all_cons]
def words1 : List Jvm.Cond := Jvm.Cond.code x code maxLocals ret :: tables_1
/-- a 'code' word, met by the world's own term for the bytes: nothing is compared byte by byte -/
theorem code_word {y : MethodName} {bytes : ByteArray} {mx : Nat} {rt : Option FieldType} {a : Array Value} {s : State} {m : MethodId} {meth : Method} {c : Code} (h1 : s.methodNamed? y = some m) (h2 : s.vm.method? m = some meth) (h3 : meth.code = some c) (h4 : c.code = bytes)
    (h5 : (c.maxLocals == mx && c.exceptionTable.isEmpty && decide (c.maxStack ≤ mostOperands) && decide (meth.sig.returnType = rt) && !meth.locks && decide (parseMethodDescriptor y.desc = some meth.sig)) = true) : (Jvm.Cond.code y bytes mx rt).before a s = true := by
  simp only [Bool.and_eq_true, beq_iff_eq, Bool.not_eq_true', decide_eq_true_eq] at h5
  obtain ⟨⟨⟨⟨⟨g1, g2⟩, g3⟩, g4⟩, g5⟩, g6⟩ := h5
  simp [Cond.before, Cond.holds, Cond.value, h1, h2, h3, h4, g1, g2, g3, g4, g5, g6]
def isCode : Jvm.Cond → Bool
  | .code _ _ _ _ => true
  | _ => false
theorem all_split {L : List Jvm.Cond} {P : Jvm.Cond → Bool} (h1 : L.all (fun c => isCode c || P c) = true) (h2 : ∀ c ∈ L.filter isCode, P c = true) : L.all P = true := by
  refine List.all_eq_true.mpr fun c hc => ?_
  have h := List.all_eq_true.mp h1 c hc
  rcases Bool.eq_false_or_eq_true (isCode c) with hi | hi
  · exact h2 c (List.mem_filter.mpr ⟨hc, hi⟩)
  · simpa [hi] using h
set_option maxRecDepth 65536 in
theorem w_c0 : (Jvm.Cond.code x code maxLocals ret).before args0 about1 = true := code_word (m := ⟨1, 1⟩) (meth := k1m1) (c := k1c1) (by decide +kernel) rfl rfl rfl (by decide +kernel)
set_option maxRecDepth 65536 in
theorem w_c1 : (Jvm.Cond.code ({ cls := "java/lang/String", name := "valueOf", desc := "(C)Ljava/lang/String;" } : Jvm.MethodName) jdk_42_method_139_code (1 : Nat) (Option.some (Jvm.ClassFile.FieldType.object "java/lang/String"))).before args0 about1 = true := code_word (m := ⟨7, 1⟩) (meth := k7m1) (c := k7c1) (by decide +kernel) rfl rfl rfl (by decide +kernel)
set_option maxRecDepth 65536 in
theorem w_c2 : (Jvm.Cond.code ({ cls := "java/lang/StringLatin1", name := "canEncode", desc := "(C)Z" } : Jvm.MethodName) jdk_43_method_3_code (1 : Nat) (Option.some Jvm.ClassFile.FieldType.boolean)).before args0 about1 = true := code_word (m := ⟨8, 1⟩) (meth := k8m1) (c := k8c1) (by decide +kernel) rfl rfl rfl (by decide +kernel)
set_option maxRecDepth 65536 in
theorem w_c3 : (Jvm.Cond.code ({ cls := "java/lang/StringLatin1", name := "toBytes", desc := "(C)[B" } : Jvm.MethodName) jdk_43_method_46_code (1 : Nat) (Option.some (Jvm.ClassFile.FieldType.array Jvm.ClassFile.FieldType.byte))).before args0 about1 = true := code_word (m := ⟨8, 2⟩) (meth := k8m2) (c := k8c2) (by decide +kernel) rfl rfl rfl (by decide +kernel)
set_option maxRecDepth 65536 in
theorem w_c4 : (Jvm.Cond.code ({ cls := "java/lang/String", name := "<init>", desc := "([BB)V" } : Jvm.MethodName) jdk_42_method_151_code (3 : Nat) (Option.none : Option Jvm.ClassFile.FieldType)).before args0 about1 = true := code_word (m := ⟨7, 2⟩) (meth := k7m2) (c := k7c2) (by decide +kernel) rfl rfl rfl (by decide +kernel)
set_option maxRecDepth 65536 in
theorem w_c5 : (Jvm.Cond.code ({ cls := "java/lang/Object", name := "<init>", desc := "()V" } : Jvm.MethodName) object_method_1_code (1 : Nat) (Option.none : Option Jvm.ClassFile.FieldType)).before args0 about1 = true := code_word (m := ⟨0, 0⟩) (meth := k0m0) (c := k0c0) (by decide +kernel) rfl rfl rfl (by decide +kernel)
set_option maxRecDepth 65536 in
theorem w_c6 : (Jvm.Cond.code ({ cls := "stanzabits/image/ImageHeader", name := "<init>", desc := "(Ljava/lang/String;II)V" } : Jvm.MethodName) prog_80_method_1_code (4 : Nat) (Option.none : Option Jvm.ClassFile.FieldType)).before args0 about1 = true := code_word (m := ⟨10, 0⟩) (meth := k10m0) (c := k10c0) (by decide +kernel) rfl rfl rfl (by decide +kernel)
set_option maxRecDepth 65536 in
theorem w_c7 : (Jvm.Cond.code ({ cls := "java/lang/Record", name := "<init>", desc := "()V" } : Jvm.MethodName) jdk_30_method_1_code (1 : Nat) (Option.none : Option Jvm.ClassFile.FieldType)).before args0 about1 = true := code_word (m := ⟨9, 0⟩) (meth := k9m0) (c := k9c0) (by decide +kernel) rfl rfl rfl (by decide +kernel)
set_option maxRecDepth 65536 in
theorem w_c8 : (Jvm.Cond.code ({ cls := "stanzabits/image/ImageHeader", name := "fitsUnsignedShort", desc := "()Z" } : Jvm.MethodName) prog_80_method_4_code (1 : Nat) (Option.some Jvm.ClassFile.FieldType.boolean)).before args0 about1 = true := code_word (m := ⟨10, 1⟩) (meth := k10m1) (c := k10c1) (by decide +kernel) rfl rfl rfl (by decide +kernel)
def codes1 : List Jvm.Cond := [Jvm.Cond.code x code maxLocals ret, Jvm.Cond.code ({ cls := "java/lang/String", name := "valueOf", desc := "(C)Ljava/lang/String;" } : Jvm.MethodName) jdk_42_method_139_code (1 : Nat) (Option.some (Jvm.ClassFile.FieldType.object "java/lang/String")), Jvm.Cond.code ({ cls := "java/lang/StringLatin1", name := "canEncode", desc := "(C)Z" } : Jvm.MethodName) jdk_43_method_3_code (1 : Nat) (Option.some Jvm.ClassFile.FieldType.boolean), Jvm.Cond.code ({ cls := "java/lang/StringLatin1", name := "toBytes", desc := "(C)[B" } : Jvm.MethodName) jdk_43_method_46_code (1 : Nat) (Option.some (Jvm.ClassFile.FieldType.array Jvm.ClassFile.FieldType.byte)), Jvm.Cond.code ({ cls := "java/lang/String", name := "<init>", desc := "([BB)V" } : Jvm.MethodName) jdk_42_method_151_code (3 : Nat) (Option.none : Option Jvm.ClassFile.FieldType), Jvm.Cond.code ({ cls := "java/lang/Object", name := "<init>", desc := "()V" } : Jvm.MethodName) object_method_1_code (1 : Nat) (Option.none : Option Jvm.ClassFile.FieldType), Jvm.Cond.code ({ cls := "stanzabits/image/ImageHeader", name := "<init>", desc := "(Ljava/lang/String;II)V" } : Jvm.MethodName) prog_80_method_1_code (4 : Nat) (Option.none : Option Jvm.ClassFile.FieldType), Jvm.Cond.code ({ cls := "java/lang/Record", name := "<init>", desc := "()V" } : Jvm.MethodName) jdk_30_method_1_code (1 : Nat) (Option.none : Option Jvm.ClassFile.FieldType), Jvm.Cond.code ({ cls := "stanzabits/image/ImageHeader", name := "fitsUnsignedShort", desc := "()Z" } : Jvm.MethodName) prog_80_method_4_code (1 : Nat) (Option.some Jvm.ClassFile.FieldType.boolean)]
set_option maxRecDepth 65536 in
theorem codes_eq : words1.filter isCode = codes1 := rfl
theorem w_codes : ∀ c ∈ words1.filter isCode, c.before args0 about1 = true := by
  rw [codes_eq]
  intro c hc
  simp only [codes1, List.mem_cons, List.not_mem_nil, or_false] at hc
  rcases hc with rfl | rfl | rfl | rfl | rfl | rfl | rfl | rfl | rfl
  · exact w_c0
  · exact w_c1
  · exact w_c2
  · exact w_c3
  · exact w_c4
  · exact w_c5
  · exact w_c6
  · exact w_c7
  · exact w_c8
set_option maxRecDepth 65536 in
theorem w_t1 : (words1.take 24).all (fun c => isCode c || c.before args0 about1) = true := by decide +kernel
set_option maxRecDepth 65536 in
theorem w_t2 : ((words1.drop 24).take 24).all (fun c => isCode c || c.before args0 about1) = true := by decide +kernel
set_option maxRecDepth 65536 in
theorem w_t3 : ((words1.drop 24).drop 24).all (fun c => isCode c || c.before args0 about1) = true := by decide +kernel
theorem w_tables : (allAtoms (Jvm.Cond.code x code maxLocals ret :: tables_1)).before args0 about1 = true := by
  rw [allAtoms_all]
  show words1.all (fun c => c.before args0 about1) = true
  refine all_split ?_ w_codes
  rw [← List.take_append_drop 24 words1, List.all_append, w_t1, ← List.take_append_drop 24 (words1.drop 24), List.all_append, w_t2, w_t3]
  rfl
set_option maxRecDepth 65536 in
theorem w_rest : rest_1_c.before args0 about1 = true := by decide +kernel
set_option maxRecDepth 65536 in
theorem w_case : (Jvm.Cond.and given_1 narrow_1).before args0 about1 = true := by decide +kernel
theorem w_applies : (headSpec (Jvm.Cond.code x code maxLocals ret :: tables_1) room_1).applies x e0.platform about1 = true :=
  (Spec.applies_iff w_frames).mpr ⟨w_running, w_runnable, w_alone, w_named, w_hears, w_ripe, w_room, w_tables⟩
theorem atStart : AtStart classFile x code maxLocals ret World_1 tables_1 room_1 Calls_1 rest_1 Pre_1 launch0 p0 e0 about1 theMethod args0 below0 :=
  ⟨lists_1, trivial, launch0.admits_env _ _ _, launch0.least_env, fairChoices_fair.cas, fairChoices_fair.clock, w_frames, w_args, w_heap, w_applies, trivial, w_rest, w_case⟩
end start1
theorem witness_1 : WitnessClaimed_1 := ⟨start1.p0, start1.e0, start1.about1, start1.theMethod, start1.args0, start1.below0, start1.atStart⟩
end Jvm.Pilot.@@N@@
