import JvmDerived
import JvmDerived.Pilot.@@N@@Statement
import JvmDerived.Pilot.@@N@@Code
set_option linter.unusedVariables false
set_option linter.unusedSimpArgs false
namespace Jvm.RoadKit
open Sem ClassFile Op Lib Jvm.Stand Jvm.Free Jvm.LawKit
section New
variable {p : Program} {l : Launch} {e : Env} {R : Room} {s : State} {m : MethodId} {args : Array Value} {below : List Frame} {meth : Method} {c : Code} {T : State} {locs : List Loc} {cells slots : Nat}
theorem retI (X : Stand p l e R s m args below meth c T locs cells slots) (hx : p.tables.exec = Jvm.exec) {pc : Nat} {Ls : Array Slot} {z : Int32} {rest : List Value} (hret : meth.sig.returnType = some .int) (hd : decode c.code pc = .ok (.ireturn, 1)) {fs : List Frame}
    (hl : ∀ (f : JFrame) (acts : List Action), f.method = m → f.locked = none → f.entered = [] → (doReturn e (T.setTop f) acts (some (.int z))).1 = T.setFrames fs) : Steps p.tables e below (T.setTop (mkF m pc Ls (.int z :: rest))) (T.setFrames fs) := by
  have hm' : T.vm.method? m = some meth := X.method'
  have hn : narrow .int (.int z) = .int z := rfl
  show Steps p.tables e below (T.setTop { method := m, pc := pc, locals := Ls, stack := _ :: rest, locked := none }) _
  jvm_step X.here [X.here.top, hx, hd, hm', hret, hn]
  first | (intro acts; rw [hl _ acts rfl rfl rfl]) | rw [hl _ _ rfl rfl rfl]
  exact Steps.refl _
end New
end Jvm.RoadKit
namespace Jvm.Pilot.@@N@@
open Jvm Jvm.ClassFile Sem Op Lib Jvm.Free Jvm.Stand Jvm.LawKit Jvm.RoadKit Bundle Jvm.Pilot.@@N@@.Jvm.D
/-! the own kit: a run told backwards (Runs), arrays by a function of the place (OArr), the comparisons of longs -/
def Runs (tb : Tables) (e : Env) (below : List Frame) (R : State → Outcome → Prop) (T : State) (g : JFrame) : Prop := ∃ t o, Steps tb e below (T.setTop g) t ∧ R t o
section Own
variable {tb : Tables} {e : Env} {below : List Frame} {R : State → Outcome → Prop} {T T' : State} {g g' : JFrame}
theorem Runs.back (k : ∀ t, Steps tb e below (T'.setTop g') t → Steps tb e below (T.setTop g) t) (h : Runs tb e below R T' g') : Runs tb e below R T g := by
  obtain ⟨t, o, h1, h2⟩ := h; exact ⟨t, o, k t h1, h2⟩
theorem Runs.trans (k : Steps tb e below (T.setTop g) (T'.setTop g')) (h : Runs tb e below R T' g') : Runs tb e below R T g := by
  obtain ⟨t, o, h1, h2⟩ := h; exact ⟨t, o, Steps.trans k h1, h2⟩
theorem Runs.enter (q : g = g') (h : Runs tb e below R T g') : ∃ t o, Steps tb e below (T.setTop g) t ∧ R t o := by subst q; exact h
theorem Runs.join {α : Type} {P : α → Prop} {F : α → JFrame} (h : ∀ v, P v → Runs tb e below R T (F v)) (k : (∀ v, P v → Runs tb e below R T (F v)) → Runs tb e below R T g) : Runs tb e below R T g := k h
theorem Runs.joinT {α : Type} {P : α → State → Prop} {F : α → JFrame} (h : ∀ v T', P v T' → Runs tb e below R T' (F v)) (k : (∀ v T', P v T' → Runs tb e below R T' (F v)) → Runs tb e below R T g) : Runs tb e below R T g := k h
theorem lcT {x y : Int64} (h : x < y) : lcmpW x y < 0 := by
  have h1 : ¬ y < x := Int64.not_lt.mpr (Int64.le_of_lt h)
  have h2 : ¬ x = y := fun q => by subst q; exact Int64.lt_irrefl h
  simp [lcmpW, h1, h2]
theorem lcF {x y : Int64} (h : ¬ x < y) : ¬ lcmpW x y < 0 := by
  unfold lcmpW
  by_cases h1 : x > y
  · simp only [if_pos h1]; decide
  · have h2 : x = y := Int64.le_antisymm (Int64.not_lt.mp h1) (Int64.not_lt.mp h)
    simp only [if_neg h1, if_pos h2]; decide
theorem lcT' {x y : Int64} (h : y < x) : 0 < lcmpW x y := by
  unfold lcmpW; rw [if_pos h]; decide
theorem lcF' {x y : Int64} (h : ¬ y < x) : ¬ 0 < lcmpW x y := by
  unfold lcmpW
  have h1 : ¬ x > y := h
  simp only [if_neg h1]
  by_cases h2 : x = y
  · simp only [if_pos h2]; decide
  · simp only [if_neg h2]; decide
theorem lcE {x y : Int64} (h : x = y) : lcmpW x y = 0 := by
  have h1 : ¬ x > y := fun q => by subst h; exact Int64.lt_irrefl q
  unfold lcmpW; rw [if_neg h1, if_pos h]
theorem lcN {x y : Int64} (h : ¬ x = y) : ¬ lcmpW x y = 0 := by
  unfold lcmpW
  by_cases h1 : x > y
  · simp only [if_pos h1]; decide
  · simp only [if_neg h1, if_neg h]; decide
def OArr (Z : State) (h : Heap) (a : Addr) (ty : FieldType) (n : Nat) (f : Nat → Value) : Prop := ∃ c : Cell, Arr Z h a c ty ∧ c.slots.size = n ∧ ∀ i, i < n → c.slots[i]? = some (f i)
variable {Z : State} {h h' : Heap} {a b : Addr} {ty : FieldType} {n sl : Nat} {f : Nat → Value} {v : Value} {ws : List Addr}
theorem OArr.lt (F : OArr Z h a ty n f) : a < h.size := by obtain ⟨c, A, -⟩ := F; exact A.lt
theorem OArr.ext (F : OArr Z h a ty n f) (E : Ext h h') : OArr Z h' a ty n f := by obtain ⟨c, A, r⟩ := F; exact ⟨c, A.ext E, r⟩
theorem OArr.other (F : OArr Z h b ty n f) (W : Wr h h' a sl v) (q : b ≠ a) : OArr Z h' b ty n f := by obtain ⟨c, A, r⟩ := F; exact ⟨c, A.other W q, r⟩
theorem OArr.keep (F : OArr Z h a ty n f) (K : Keep h h' ws) (q : a ∉ ws) : OArr Z h' a ty n f := by obtain ⟨c, A, r⟩ := F; exact ⟨c, ⟨K.2.1 a c A.1 q, A.2⟩, r⟩
theorem OArr.congr (F : OArr Z h a ty n f) {f' : Nat → Value} (q : ∀ i, i < n → f i = f' i) : OArr Z h a ty n f' := by obtain ⟨c, A, r1, r2⟩ := F; exact ⟨c, A, r1, fun i hi => by rw [r2 i hi, q i hi]⟩
theorem OArr.set (F : OArr Z h a ty n f) (W : Wr h h' a sl v) : OArr Z h' a ty n (fun i => if i = sl then v else f i) := by
  obtain ⟨c, A, r1, r2⟩ := F
  obtain ⟨cell, e1, -, e3, -⟩ := id W
  cases e1.symm.trans A.1
  refine ⟨_, A.same W, by rw [sz_set]; exact r1, fun i hi => ?_⟩
  by_cases q : i = sl
  · subst q; simp [Cell.setSlot, e3]
  · simp only [if_neg q]; rw [← r2 i hi]; exact Array.getElem?_setIfInBounds_ne (Ne.symm q)
theorem OArr.new {cA : ClassId} {z : Int32} (A : Arr Z h a (newA cA ty z) ty) (q : z.toNatClampNeg = n) (hd : defaultValue ty = v) : OArr Z h a ty n (fun _ => v) :=
  ⟨_, A, by rw [sz_new]; exact q, fun i hi => by subst hd; simp [newA, q, hi]⟩
theorem inbO {j : Int32} {k : Nat} (ng : ¬ j < 0) (e : j.toNatClampNeg = k) (h : k < n) : ¬ (j < 0 ∨ n ≤ j.toNatClampNeg) := fun q => q.elim ng fun r => by rw [e] at r; exact absurd h (Nat.not_lt.mpr r)
theorem readO {c : Cell} {j : Int32} {k : Nat} (H : ∀ i, i < n → c.slots[i]? = some (f i)) (e : j.toNatClampNeg = k) (h : k < n) (q : f k = v) : c.slots[j.toNatClampNeg]? = some v := by rw [e, H k h, q]
theorem lti {x y : Int32} : x < y ↔ x.toInt < y.toInt := Int32.lt_iff_toInt_lt
theorem ltl {x y : Int64} : x < y ↔ x.toInt < y.toInt := Int64.lt_iff_toInt_lt
theorem eqi {x y : Int32} : x = y ↔ x.toInt = y.toInt := Int32.toInt_inj.symm
theorem eql {x y : Int64} : x = y ↔ x.toInt = y.toInt := Int64.toInt_inj.symm
end Own

theorem add32 {x y : Int32} (h1 : -2147483648 ≤ x.toInt + y.toInt) (h2 : x.toInt + y.toInt < 2147483648) : (x + y).toInt = x.toInt + y.toInt := by
  rw [Int32.toInt_add]; exact Int.bmod_eq_of_le (by omega) (by omega)
theorem sub32 {x y : Int32} (h1 : -2147483648 ≤ x.toInt - y.toInt) (h2 : x.toInt - y.toInt < 2147483648) : (x - y).toInt = x.toInt - y.toInt := by
  rw [Int32.toInt_sub]; exact Int.bmod_eq_of_le (by omega) (by omega)
theorem add64 {x y : Int64} (h1 : -9223372036854775808 ≤ x.toInt + y.toInt) (h2 : x.toInt + y.toInt < 9223372036854775808) : (x + y).toInt = x.toInt + y.toInt := by
  rw [Int64.toInt_add]; exact Int.bmod_eq_of_le (by omega) (by omega)
theorem sub64 {x y : Int64} (h1 : -9223372036854775808 ≤ x.toInt - y.toInt) (h2 : x.toInt - y.toInt < 9223372036854775808) : (x - y).toInt = x.toInt - y.toInt := by
  rw [Int64.toInt_sub]; exact Int.bmod_eq_of_le (by omega) (by omega)
theorem l2i' {x : Int64} (h1 : -2147483648 ≤ x.toInt) (h2 : x.toInt < 2147483648) : x.toInt32.toInt = x.toInt := by
  rw [Int64.toInt_toInt32]; exact Int.bmod_eq_of_le (by omega) (by omega)
theorem bd32 (x : Int32) : -2147483648 ≤ x.toInt ∧ x.toInt < 2147483648 := ⟨Int32.le_toInt x, Int32.toInt_lt x⟩
theorem takeE {c e p : Int32} : c.toInt64 < e.toInt64 + p.toInt64 ↔ c.toInt < e.toInt + p.toInt := by
  have b1 := bd32 e; have b2 := bd32 p
  rw [ltl, add64 (by rw [c_i2l, c_i2l]; omega) (by rw [c_i2l, c_i2l]; omega), c_i2l, c_i2l, c_i2l]
theorem takeC {c : Int32} {x y : Int64} (h1 : -9223372036854775808 ≤ x.toInt + y.toInt) (h2 : x.toInt + y.toInt < 9223372036854775808) : c.toInt64 < x + y ↔ c.toInt < x.toInt + y.toInt := by
  rw [ltl, add64 h1 h2, c_i2l]
theorem z32 : (0 : Int32).toInt = 0 := by decide
theorem o32 : (1 : Int32).toInt = 1 := by decide
theorem z64 : (0 : Int64).toInt = 0 := by decide
theorem o64 : (1 : Int64).toInt = 1 := by decide
theorem d1_0 : decode prog_70_method_1_code 0 = .ok (.aload_n 0, 1) := by decide +kernel
theorem d1_1 : decode prog_70_method_1_code 1 = .ok (.invokespecial 1, 3) := by decide +kernel
theorem d1_4 : decode prog_70_method_1_code 4 = .ok (.aload_n 0, 1) := by decide +kernel
theorem d1_5 : decode prog_70_method_1_code 5 = .ok (.iload_n 1, 1) := by decide +kernel
theorem d1_6 : decode prog_70_method_1_code 6 = .ok (.putfield 7, 3) := by decide +kernel
theorem d1_9 : decode prog_70_method_1_code 9 = .ok (.return_, 1) := by decide +kernel
theorem pn_1 : plainName "com/example/lacuna/lacuna/IndexStore$Run" = true := by first | (simp [plainName, overriddenIn]; done) | decide +kernel
theorem ef_1 (m : MethodId) (r0 : Addr) (p1 : Int32) : entryFrame m #[(.ref r0), (.int p1)] 2 = mkF m 0 #[.val (.ref r0), .val (.int p1)] [] := by first | (simp [entryFrame, mkF, argsToLocals, Value.category]; done) | rfl
def Q1 (Z : State) (r0 : Addr) (p1 : Int32) (v1 v2 : Value) (h0 : Heap) (n0 : Nat) (v : Option Value) (h : Heap) (L : List Loc) : Prop := v = none ∧ Fr n0 L ∧ Keep h0 h [r0] ∧ Exa Z h r0 "com/example/lacuna/lacuna/IndexStore$Run" ∧ Fld Z h r0 "com/example/lacuna/lacuna/IndexStore$Run" "copies" "[I" v2
set_option maxRecDepth 65536 in
set_option maxHeartbeats 40000000 in
theorem rm1 (l : Launch) (Z : State) (a0 : Array Value) (hw : ∀ d ∈ tables_1, d.before a0 Z = true) (ws : List Jvm.Cond) (r0 : Addr) (p1 : Int32) (v1 v2 : Value) (h0 : Heap) (n0 : Nat) (Z0 : n0 ≤ h0.size) (E_r0 : Exa Z h0 r0 "com/example/lacuna/lacuna/IndexStore$Run") (F1 : Fld Z h0 r0 "com/example/lacuna/lacuna/IndexStore$Run" "longest" "I" v1) (F2 : Fld Z h0 r0 "com/example/lacuna/lacuna/IndexStore$Run" "copies" "[I" v2) (g_r0 : n0 ≤ r0) :
    MetFree l (⟨"com/example/lacuna/lacuna/IndexStore$Run", "<init>", "(I)V"⟩ : MethodName) (head1 (Jvm.Cond.code (⟨"com/example/lacuna/lacuna/IndexStore$Run", "<init>", "(I)V"⟩ : MethodName) prog_70_method_1_code 2 none :: ws) ({ frames := 1, cells := 0, slots := 0, locals := 12 } : Room)) (fun a U => a = #[(.ref r0), (.int p1)] ∧ Z.Warmed39 U.vm ∧ U.heap = h0) (fun _ _ _ _ _ => True) (fun _ U o U' => ∃ v L, o = .returned v ∧ Q1 Z r0 p1 v1 v2 h0 n0 v U'.heap L ∧ FrameEnd U o U' L ({ frames := 1, cells := 0, slots := 0, locals := 12 } : Room).cells ({ frames := 1, cells := 0, slots := 0, locals := 12 } : Room).slots) := by
  refine MetFree.of_bodySF (plainFor_of_name pn_1) hisR ?_
  intro p e s m args below meth c s₁ Bd hml0 hP hK
  obtain ⟨rfl, hZ, hh⟩ := hP
  have hx := Bd.exec
  have hby := Bd.bytes
  have hml : c.maxLocals = 2 := hml0
  have hown : s.vm.findClass "com/example/lacuna/lacuna/IndexStore$Run" = some m.cls := findClass_of_methodNamed Bd.named
  have hnm := (name_of_methodNamed Bd.named Bd.method).1
  have X0 : Stand p l e ({ frames := 1, cells := 0, slots := 0, locals := 12 } : Room) s m #[(.ref r0), (.int p1)] below meth c s₁ [] 0 0 := Stand.of_body Bd
  have e0 : s₁.heap = h0 := by rw [← hh, Bd.state]; rfl
  have N0 := Fr.nil n0
  refine Runs.enter (ef_1 m r0 p1) ?_
  show Runs _ _ _ _ s₁ (mkF m 0 #[.val (.ref r0), .val (.int p1)] [])
  refine Runs.back (fun t k => XS.aloadN X0.here hx rfl (hb hby d1_0) rfl rfl k) ?_
  show Runs _ _ _ _ s₁ (mkF m 1 #[.val (.ref r0), .val (.int p1)] [(.ref r0)])
  obtain ⟨T1, X1, e1, st1⟩ := initO X0 hx hZ hown (hw _ (List.mem_of_getElem? (i := 6) rfl)) (hw _ (List.mem_of_getElem? (i := 7) rfl)) (hw _ (List.mem_of_getElem? (i := 8) rfl)) e0 (g := (mkF m 1 #[.val (.ref r0), .val (.int p1)] [(.ref r0)])) rfl (by rw [hml]; rfl) rfl (hb hby d1_1) (by decide) (W := 0) (by show 2 * 0 + _ ≤ _; exact Nat.le_of_eq rfl) (by decide)
  refine Runs.back st1 ?_
  show Runs _ _ _ _ T1 (mkF m 4 #[.val (.ref r0), .val (.int p1)] [])
  refine Runs.back (fun t k => XS.aloadN X1.here hx rfl (hb hby d1_4) rfl rfl k) ?_
  show Runs _ _ _ _ T1 (mkF m 5 #[.val (.ref r0), .val (.int p1)] [(.ref r0)])
  refine Runs.back (fun t k => XS.iloadN X1.here hx rfl (hb hby d1_5) rfl k) ?_
  show Runs _ _ _ _ T1 (mkF m 6 #[.val (.ref r0), .val (.int p1)] [(.int p1), (.ref r0)])
  obtain ⟨T2, h2, X2, e2, W2, st2⟩ := putF X1 hx hZ hown (host := "") (Or.inl (hw _ (List.mem_of_getElem? (i := 9) rfl))) Via.refl e1 F1 E_r0 (Or.inr ⟨(hw _ (List.mem_of_getElem? (i := 10) rfl)), rfl, hnm⟩) (hw _ (List.mem_of_getElem? (i := 1) rfl)) (ty := .int) (by decide) rfl rfl (g := (mkF m 6 #[.val (.ref r0), .val (.int p1)] [(.int p1), (.ref r0)])) rfl rfl (hb hby d1_6)
  have f2_Exa_0 : Exa Z h2 r0 "com/example/lacuna/lacuna/IndexStore$Run" := Exa.wr W2 E_r0
  have f2_Fld_1 : Fld Z h2 r0 "com/example/lacuna/lacuna/IndexStore$Run" "longest" "I" (.int p1) := Fld.same W2 F1
  have f2_Fld_2 : Fld Z h2 r0 "com/example/lacuna/lacuna/IndexStore$Run" "copies" "[I" v2 := Fld.other W2 F2 (Or.inr (slot_ne (Or.inl (hw _ (List.mem_of_getElem? (i := 17) rfl))) (Or.inr (hw _ (List.mem_of_getElem? (i := 10) rfl))) (by decide) (t := (.array .int)) (t' := .int) (by decide) (by decide)))
  have N2 := Fr.snoc X2 N0 g_r0
  have KK2 : Keep h0 h2 [r0] := Keep.wr (Keep.refl h0 [r0]) W2 (Or.inl (List.mem_of_getElem? (i := 0) rfl))
  refine Runs.back st2 ?_
  show Runs _ _ _ _ T2 (mkF m 9 #[.val (.ref r0), .val (.int p1)] [])
  obtain ⟨fs, hr, hrun, hended, hW, hsame⟩ := X2.leave (v := none) (fun _ => rfl)
  exact ⟨_, _, (X2.returnOut hx Bd.returns (hb hby d1_9) hr), hrun, hended, _, _, rfl, (by show Q1 Z r0 p1 v1 v2 h0 n0 _ T2.heap _; rw [e2]; exact ⟨rfl, N2, KK2, f2_Exa_0, f2_Fld_2⟩), ⟨_, rfl⟩, hW, hsame.mono (by decide) (by decide)⟩
theorem d3_0 : decode prog_70_method_2_code 0 = .ok (.aload_n 0, 1) := by decide +kernel
theorem d3_1 : decode prog_70_method_2_code 1 = .ok (.getfield 13, 3) := by decide +kernel
theorem d3_4 : decode prog_70_method_2_code 4 = .ok (.ifnull 12, 3) := by decide +kernel
theorem d3_7 : decode prog_70_method_2_code 7 = .ok (.aload_n 0, 1) := by decide +kernel
theorem d3_8 : decode prog_70_method_2_code 8 = .ok (.getfield 13, 3) := by decide +kernel
theorem d3_11 : decode prog_70_method_2_code 11 = .ok (.arraylength, 1) := by decide +kernel
theorem d3_12 : decode prog_70_method_2_code 12 = .ok (.iload_n 1, 1) := by decide +kernel
theorem d3_13 : decode prog_70_method_2_code 13 = .ok (.if_icmp .ge 10, 3) := by decide +kernel
theorem d3_16 : decode prog_70_method_2_code 16 = .ok (.aload_n 0, 1) := by decide +kernel
theorem d3_17 : decode prog_70_method_2_code 17 = .ok (.iload_n 1, 1) := by decide +kernel
theorem d3_18 : decode prog_70_method_2_code 18 = .ok (.newarray .int, 2) := by decide +kernel
theorem d3_20 : decode prog_70_method_2_code 20 = .ok (.putfield 13, 3) := by decide +kernel
theorem d3_23 : decode prog_70_method_2_code 23 = .ok (.aload_n 0, 1) := by decide +kernel
theorem d3_24 : decode prog_70_method_2_code 24 = .ok (.getfield 13, 3) := by decide +kernel
theorem d3_27 : decode prog_70_method_2_code 27 = .ok (.areturn, 1) := by decide +kernel
theorem pn_3n : plainName "com/example/lacuna/lacuna/IndexStore$Run" = true := by first | (simp [plainName, overriddenIn]; done) | decide +kernel
theorem ef_3n (m : MethodId) (r0 : Addr) (p1 : Int32) : entryFrame m #[(.ref r0), (.int p1)] 2 = mkF m 0 #[.val (.ref r0), .val (.int p1)] [] := by first | (simp [entryFrame, mkF, argsToLocals, Value.category]; done) | rfl
def Q3n (Z : State) (r0 : Addr) (p1 : Int32)  (h0 : Heap) (n0 : Nat) (v : Option Value) (h : Heap) (L : List Loc) : Prop := ∃ b, v = some (.ref b) ∧ Fr n0 L ∧ n0 ≤ b ∧ h0.size ≤ b ∧ Keep h0 h [r0] ∧ Exa Z h r0 "com/example/lacuna/lacuna/IndexStore$Run" ∧ Fld Z h r0 "com/example/lacuna/lacuna/IndexStore$Run" "copies" "[I" (.ref b) ∧ OArr Z h b .int p1.toNatClampNeg (fun _ => (.int (0 : Int32)))
set_option maxRecDepth 65536 in
set_option maxHeartbeats 40000000 in
theorem rm3n (l : Launch) (Z : State) (a0 : Array Value) (hw : ∀ d ∈ tables_1, d.before a0 Z = true) (ws : List Jvm.Cond) (r0 : Addr) (p1 : Int32)  (h0 : Heap) (n0 : Nat) (Z0 : n0 ≤ h0.size) (E_r0 : Exa Z h0 r0 "com/example/lacuna/lacuna/IndexStore$Run") (F2 : Fld Z h0 r0 "com/example/lacuna/lacuna/IndexStore$Run" "copies" "[I" .null) (g_r0 : n0 ≤ r0) (hp0 : ¬ p1 < (0 : Int32)) (hp255 : p1.toNatClampNeg ≤ 255) :
    MetFree l (⟨"com/example/lacuna/lacuna/IndexStore$Run", "roomFor", "(I)[I"⟩ : MethodName) (head1 (Jvm.Cond.code (⟨"com/example/lacuna/lacuna/IndexStore$Run", "roomFor", "(I)[I"⟩ : MethodName) prog_70_method_2_code 2 (some (.array .int)) :: ws) ({ frames := 0, cells := 1, slots := 255, locals := 0 } : Room)) (fun a U => a = #[(.ref r0), (.int p1)] ∧ Z.Warmed39 U.vm ∧ U.heap = h0) (fun _ _ _ _ _ => True) (fun _ U o U' => ∃ v L, o = .returned v ∧ Q3n Z r0 p1 h0 n0 v U'.heap L ∧ FrameEnd U o U' L ({ frames := 0, cells := 1, slots := 255, locals := 0 } : Room).cells ({ frames := 0, cells := 1, slots := 255, locals := 0 } : Room).slots) := by
  refine MetFree.of_bodySF (plainFor_of_name pn_3n) hisR ?_
  intro p e s m args below meth c s₁ Bd hml0 hP hK
  obtain ⟨rfl, hZ, hh⟩ := hP
  have hx := Bd.exec
  have hby := Bd.bytes
  have hml : c.maxLocals = 2 := hml0
  have hown : s.vm.findClass "com/example/lacuna/lacuna/IndexStore$Run" = some m.cls := findClass_of_methodNamed Bd.named
  have hnm := (name_of_methodNamed Bd.named Bd.method).1
  have X0 : Stand p l e ({ frames := 0, cells := 1, slots := 255, locals := 0 } : Room) s m #[(.ref r0), (.int p1)] below meth c s₁ [] 0 0 := Stand.of_body Bd
  have e0 : s₁.heap = h0 := by rw [← hh, Bd.state]; rfl
  have N0 := Fr.nil n0
  refine Runs.enter (ef_3n m r0 p1) ?_
  show Runs _ _ _ _ s₁ (mkF m 0 #[.val (.ref r0), .val (.int p1)] [])
  refine Runs.back (fun t k => XS.aloadN X0.here hx rfl (hb hby d3_0) rfl rfl k) ?_
  show Runs _ _ _ _ s₁ (mkF m 1 #[.val (.ref r0), .val (.int p1)] [(.ref r0)])
  obtain ⟨T1, X1, e1, st1⟩ := getF X0 hx hZ hown (host := "") (Or.inl (hw _ (List.mem_of_getElem? (i := 16) rfl))) Via.refl e0 F2 (g := (mkF m 1 #[.val (.ref r0), .val (.int p1)] [(.ref r0)])) rfl rfl (hb hby d3_1)
  refine Runs.back st1 ?_
  show Runs _ _ _ _ T1 (mkF m 4 #[.val (.ref r0), .val (.int p1)] [.null])
  refine Runs.back (fun t k => XS.ifnullYes X1.here hx rfl (pc0 := 4) (pc' := 16) rfl (hb hby d3_4) rfl (by decide) (by decide) k) ?_
  show Runs _ _ _ _ T1 (mkF m 16 #[.val (.ref r0), .val (.int p1)] [])
  refine Runs.back (fun t k => XS.aloadN X1.here hx rfl (hb hby d3_16) rfl rfl k) ?_
  show Runs _ _ _ _ T1 (mkF m 17 #[.val (.ref r0), .val (.int p1)] [(.ref r0)])
  refine Runs.back (fun t k => XS.iloadN X1.here hx rfl (hb hby d3_17) rfl k) ?_
  show Runs _ _ _ _ T1 (mkF m 18 #[.val (.ref r0), .val (.int p1)] [(.int p1), (.ref r0)])
  obtain ⟨T2, h2, k2, X2, e2, E2, A2, st2⟩ := newP X1 hx hZ (hw _ (List.mem_of_getElem? (i := 18) rfl)) e1 (g := (mkF m 18 #[.val (.ref r0), .val (.int p1)] [(.int p1), (.ref r0)])) rfl (hb hby d3_18) rfl hp0 (cap := 255) hp255 (by decide) (by decide) (by decide)
  obtain ⟨b2, g2⟩ : ∃ z, z = h0.size := ⟨_, rfl⟩
  rw [← g2] at A2 st2
  have g_b2 : n0 ≤ b2 := Nat.le_trans (Z0) (Nat.le_of_eq g2.symm)
  have sz_b2 : h0.size ≤ b2 := Nat.le_trans (Keep.refl h0 [r0]).1 (Nat.le_of_eq g2.symm)
  have ne_r0_b2 : r0 ≠ b2 := Nat.ne_of_lt (Nat.lt_of_lt_of_le E_r0.lt (Nat.le_of_eq g2.symm))
  have f2_Exa_0 : Exa Z h2 r0 "com/example/lacuna/lacuna/IndexStore$Run" := Exa.ext E2 E_r0
  have f2_Fld_1 : Fld Z h2 r0 "com/example/lacuna/lacuna/IndexStore$Run" "copies" "[I" .null := Fld.ext E2 F2
  have Z2 : n0 ≤ h2.size := Nat.le_trans (Z0) E2.1
  have KK2 : Keep h0 h2 [r0] := Keep.ext (Keep.refl h0 [r0]) E2
  have V2 : OArr Z h2 b2 .int p1.toNatClampNeg (fun _ => (.int (0 : Int32))) := OArr.new A2 (by rfl) rfl
  refine Runs.back st2 ?_
  show Runs _ _ _ _ T2 (mkF m 20 #[.val (.ref r0), .val (.int p1)] [(.ref b2), (.ref r0)])
  obtain ⟨T3, h3, X3, e3, W3, st3⟩ := putF X2 hx hZ hown (host := "") (Or.inl (hw _ (List.mem_of_getElem? (i := 16) rfl))) Via.refl e2 f2_Fld_1 f2_Exa_0 (Or.inl (hw _ (List.mem_of_getElem? (i := 17) rfl))) (hw _ (List.mem_of_getElem? (i := 1) rfl)) (ty := (.array .int)) (by decide) rfl rfl (g := (mkF m 20 #[.val (.ref r0), .val (.int p1)] [(.ref b2), (.ref r0)])) rfl rfl (hb hby d3_20)
  have f3_Exa_0 : Exa Z h3 r0 "com/example/lacuna/lacuna/IndexStore$Run" := Exa.wr W3 f2_Exa_0
  have f3_Fld_1 : Fld Z h3 r0 "com/example/lacuna/lacuna/IndexStore$Run" "copies" "[I" (.ref b2) := Fld.same W3 f2_Fld_1
  have f3_Arr_2 : OArr Z h3 b2 .int p1.toNatClampNeg (fun _ => (.int (0 : Int32))) := V2.other W3 (Ne.symm ne_r0_b2)
  have N3 := Fr.snoc X3 N0 g_r0
  have KK3 : Keep h0 h3 [r0] := Keep.wr KK2 W3 (Or.inl (List.mem_of_getElem? (i := 0) rfl))
  refine Runs.back st3 ?_
  show Runs _ _ _ _ T3 (mkF m 23 #[.val (.ref r0), .val (.int p1)] [])
  refine Runs.back (fun t k => XS.aloadN X3.here hx rfl (hb hby d3_23) rfl rfl k) ?_
  show Runs _ _ _ _ T3 (mkF m 24 #[.val (.ref r0), .val (.int p1)] [(.ref r0)])
  obtain ⟨T4, X4, e4, st4⟩ := getF X3 hx hZ hown (host := "") (Or.inl (hw _ (List.mem_of_getElem? (i := 16) rfl))) Via.refl e3 f3_Fld_1 (g := (mkF m 24 #[.val (.ref r0), .val (.int p1)] [(.ref r0)])) rfl rfl (hb hby d3_24)
  refine Runs.back st4 ?_
  show Runs _ _ _ _ T4 (mkF m 27 #[.val (.ref r0), .val (.int p1)] [(.ref b2)])
  obtain ⟨fs, hr, hrun, hended, hW, hsame⟩ := X4.leave (v := some (.ref b2)) (fun h => by rw [Bd.returns] at h; cases h)
  exact ⟨_, _, (retOut X4 hx Bd.returns rfl (Or.inr (Or.inr (Or.inr (Or.inr ⟨rfl, rfl, rfl⟩)))) (hb hby d3_27) hr), hrun, hended, _, _, rfl, (by show Q3n Z r0 p1 h0 n0 _ T4.heap _; rw [e4]; exact ⟨b2, rfl, N3, g_b2, sz_b2, KK3, f3_Exa_0, f3_Fld_1, f3_Arr_2⟩), ⟨_, rfl⟩, hW, hsame.mono (by decide) (by decide)⟩
theorem pn_3g : plainName "com/example/lacuna/lacuna/IndexStore$Run" = true := by first | (simp [plainName, overriddenIn]; done) | decide +kernel
theorem ef_3g (m : MethodId) (r0 : Addr) (p1 : Int32) : entryFrame m #[(.ref r0), (.int p1)] 2 = mkF m 0 #[.val (.ref r0), .val (.int p1)] [] := by first | (simp [entryFrame, mkF, argsToLocals, Value.category]; done) | rfl
def Q3g (Z : State) (r0 : Addr) (p1 : Int32) (cp : Addr) (nb : Nat) (fb : Nat → Value) (z : Int32) (h0 : Heap) (n0 : Nat) (v : Option Value) (h : Heap) (L : List Loc) : Prop := ∃ b, v = some (.ref b) ∧ Fr n0 L ∧ n0 ≤ b ∧ h0.size ≤ b ∧ Keep h0 h [r0] ∧ Exa Z h r0 "com/example/lacuna/lacuna/IndexStore$Run" ∧ Fld Z h r0 "com/example/lacuna/lacuna/IndexStore$Run" "copies" "[I" (.ref b) ∧ OArr Z h b .int p1.toNatClampNeg (fun _ => (.int (0 : Int32)))
set_option maxRecDepth 65536 in
set_option maxHeartbeats 40000000 in
theorem rm3g (l : Launch) (Z : State) (a0 : Array Value) (hw : ∀ d ∈ tables_1, d.before a0 Z = true) (ws : List Jvm.Cond) (r0 : Addr) (p1 : Int32) (cp : Addr) (nb : Nat) (fb : Nat → Value) (z : Int32) (h0 : Heap) (n0 : Nat) (Z0 : n0 ≤ h0.size) (E_r0 : Exa Z h0 r0 "com/example/lacuna/lacuna/IndexStore$Run") (F2 : Fld Z h0 r0 "com/example/lacuna/lacuna/IndexStore$Run" "copies" "[I" (.ref cp)) (A1 : OArr Z h0 cp .int nb fb) (ne_r0_cp : r0 ≠ cp) (hz : nb.toInt32 = z) (hG : z < p1) (g_r0 : n0 ≤ r0) (hp0 : ¬ p1 < (0 : Int32)) (hp255 : p1.toNatClampNeg ≤ 255) :
    MetFree l (⟨"com/example/lacuna/lacuna/IndexStore$Run", "roomFor", "(I)[I"⟩ : MethodName) (head1 (Jvm.Cond.code (⟨"com/example/lacuna/lacuna/IndexStore$Run", "roomFor", "(I)[I"⟩ : MethodName) prog_70_method_2_code 2 (some (.array .int)) :: ws) ({ frames := 0, cells := 1, slots := 255, locals := 0 } : Room)) (fun a U => a = #[(.ref r0), (.int p1)] ∧ Z.Warmed39 U.vm ∧ U.heap = h0) (fun _ _ _ _ _ => True) (fun _ U o U' => ∃ v L, o = .returned v ∧ Q3g Z r0 p1 cp nb fb z h0 n0 v U'.heap L ∧ FrameEnd U o U' L ({ frames := 0, cells := 1, slots := 255, locals := 0 } : Room).cells ({ frames := 0, cells := 1, slots := 255, locals := 0 } : Room).slots) := by
  refine MetFree.of_bodySF (plainFor_of_name pn_3g) hisR ?_
  intro p e s m args below meth c s₁ Bd hml0 hP hK
  obtain ⟨rfl, hZ, hh⟩ := hP
  have hx := Bd.exec
  have hby := Bd.bytes
  have hml : c.maxLocals = 2 := hml0
  have hown : s.vm.findClass "com/example/lacuna/lacuna/IndexStore$Run" = some m.cls := findClass_of_methodNamed Bd.named
  have hnm := (name_of_methodNamed Bd.named Bd.method).1
  have X0 : Stand p l e ({ frames := 0, cells := 1, slots := 255, locals := 0 } : Room) s m #[(.ref r0), (.int p1)] below meth c s₁ [] 0 0 := Stand.of_body Bd
  have e0 : s₁.heap = h0 := by rw [← hh, Bd.state]; rfl
  have N0 := Fr.nil n0
  refine Runs.enter (ef_3g m r0 p1) ?_
  show Runs _ _ _ _ s₁ (mkF m 0 #[.val (.ref r0), .val (.int p1)] [])
  refine Runs.back (fun t k => XS.aloadN X0.here hx rfl (hb hby d3_0) rfl rfl k) ?_
  show Runs _ _ _ _ s₁ (mkF m 1 #[.val (.ref r0), .val (.int p1)] [(.ref r0)])
  obtain ⟨T1, X1, e1, st1⟩ := getF X0 hx hZ hown (host := "") (Or.inl (hw _ (List.mem_of_getElem? (i := 16) rfl))) Via.refl e0 F2 (g := (mkF m 1 #[.val (.ref r0), .val (.int p1)] [(.ref r0)])) rfl rfl (hb hby d3_1)
  refine Runs.back st1 ?_
  show Runs _ _ _ _ T1 (mkF m 4 #[.val (.ref r0), .val (.int p1)] [(.ref cp)])
  refine Runs.back (fun t k => XS.ifnullNo X1.here hx rfl (hb hby d3_4) rfl k) ?_
  show Runs _ _ _ _ T1 (mkF m 7 #[.val (.ref r0), .val (.int p1)] [])
  refine Runs.back (fun t k => XS.aloadN X1.here hx rfl (hb hby d3_7) rfl rfl k) ?_
  show Runs _ _ _ _ T1 (mkF m 8 #[.val (.ref r0), .val (.int p1)] [(.ref r0)])
  obtain ⟨T2, X2, e2, st2⟩ := getF X1 hx hZ hown (host := "") (Or.inl (hw _ (List.mem_of_getElem? (i := 16) rfl))) Via.refl e1 F2 (g := (mkF m 8 #[.val (.ref r0), .val (.int p1)] [(.ref r0)])) rfl rfl (hb hby d3_8)
  refine Runs.back st2 ?_
  show Runs _ _ _ _ T2 (mkF m 11 #[.val (.ref r0), .val (.int p1)] [(.ref cp)])
  obtain ⟨cl3, Ar3, S3, Hs3⟩ := id A1
  refine Runs.back (fun t k => X2.arraylength hx (by rw [e2]; exact Ar3.1) (State.isArrayOf_alike hZ.alike Ar3.2.1) (g := (mkF m 11 #[.val (.ref r0), .val (.int p1)] [(.ref cp)])) rfl rfl (hb hby d3_11) _ (by rw [S3, show (nb).toInt32 = z from hz]; exact k)) ?_
  show Runs _ _ _ _ T2 (mkF m 12 #[.val (.ref r0), .val (.int p1)] [(.int z)])
  refine Runs.back (fun t k => XS.iloadN X2.here hx rfl (hb hby d3_12) rfl k) ?_
  show Runs _ _ _ _ T2 (mkF m 13 #[.val (.ref r0), .val (.int p1)] [(.int p1), (.int z)])
  refine Runs.back (fun t k => XS.icmpNo X2.here hx rfl (hb hby d3_13) rfl (tlt (show z < p1 from hG)).2.1 k) ?_
  show Runs _ _ _ _ T2 (mkF m 16 #[.val (.ref r0), .val (.int p1)] [])
  refine Runs.back (fun t k => XS.aloadN X2.here hx rfl (hb hby d3_16) rfl rfl k) ?_
  show Runs _ _ _ _ T2 (mkF m 17 #[.val (.ref r0), .val (.int p1)] [(.ref r0)])
  refine Runs.back (fun t k => XS.iloadN X2.here hx rfl (hb hby d3_17) rfl k) ?_
  show Runs _ _ _ _ T2 (mkF m 18 #[.val (.ref r0), .val (.int p1)] [(.int p1), (.ref r0)])
  obtain ⟨T4, h4, k4, X4, e4, E4, A4, st4⟩ := newP X2 hx hZ (hw _ (List.mem_of_getElem? (i := 18) rfl)) e2 (g := (mkF m 18 #[.val (.ref r0), .val (.int p1)] [(.int p1), (.ref r0)])) rfl (hb hby d3_18) rfl hp0 (cap := 255) hp255 (by decide) (by decide) (by decide)
  obtain ⟨b4, g4⟩ : ∃ z, z = h0.size := ⟨_, rfl⟩
  rw [← g4] at A4 st4
  have g_b4 : n0 ≤ b4 := Nat.le_trans (Z0) (Nat.le_of_eq g4.symm)
  have sz_b4 : h0.size ≤ b4 := Nat.le_trans (Keep.refl h0 [r0]).1 (Nat.le_of_eq g4.symm)
  have ne_r0_b4 : r0 ≠ b4 := Nat.ne_of_lt (Nat.lt_of_lt_of_le E_r0.lt (Nat.le_of_eq g4.symm))
  have ne_cp_b4 : cp ≠ b4 := Nat.ne_of_lt (Nat.lt_of_lt_of_le A1.lt (Nat.le_of_eq g4.symm))
  have f4_Exa_0 : Exa Z h4 r0 "com/example/lacuna/lacuna/IndexStore$Run" := Exa.ext E4 E_r0
  have f4_Fld_1 : Fld Z h4 r0 "com/example/lacuna/lacuna/IndexStore$Run" "copies" "[I" (.ref cp) := Fld.ext E4 F2
  have f4_Arr_2 : OArr Z h4 cp .int nb fb := A1.ext E4
  have Z4 : n0 ≤ h4.size := Nat.le_trans (Z0) E4.1
  have KK4 : Keep h0 h4 [r0] := Keep.ext (Keep.refl h0 [r0]) E4
  have V4 : OArr Z h4 b4 .int p1.toNatClampNeg (fun _ => (.int (0 : Int32))) := OArr.new A4 (by rfl) rfl
  refine Runs.back st4 ?_
  show Runs _ _ _ _ T4 (mkF m 20 #[.val (.ref r0), .val (.int p1)] [(.ref b4), (.ref r0)])
  obtain ⟨T5, h5, X5, e5, W5, st5⟩ := putF X4 hx hZ hown (host := "") (Or.inl (hw _ (List.mem_of_getElem? (i := 16) rfl))) Via.refl e4 f4_Fld_1 f4_Exa_0 (Or.inl (hw _ (List.mem_of_getElem? (i := 17) rfl))) (hw _ (List.mem_of_getElem? (i := 1) rfl)) (ty := (.array .int)) (by decide) rfl rfl (g := (mkF m 20 #[.val (.ref r0), .val (.int p1)] [(.ref b4), (.ref r0)])) rfl rfl (hb hby d3_20)
  have f5_Exa_0 : Exa Z h5 r0 "com/example/lacuna/lacuna/IndexStore$Run" := Exa.wr W5 f4_Exa_0
  have f5_Fld_1 : Fld Z h5 r0 "com/example/lacuna/lacuna/IndexStore$Run" "copies" "[I" (.ref b4) := Fld.same W5 f4_Fld_1
  have f5_Arr_2 : OArr Z h5 cp .int nb fb := f4_Arr_2.other W5 (Ne.symm ne_r0_cp)
  have f5_Arr_3 : OArr Z h5 b4 .int p1.toNatClampNeg (fun _ => (.int (0 : Int32))) := V4.other W5 (Ne.symm ne_r0_b4)
  have N5 := Fr.snoc X5 N0 g_r0
  have KK5 : Keep h0 h5 [r0] := Keep.wr KK4 W5 (Or.inl (List.mem_of_getElem? (i := 0) rfl))
  refine Runs.back st5 ?_
  show Runs _ _ _ _ T5 (mkF m 23 #[.val (.ref r0), .val (.int p1)] [])
  refine Runs.back (fun t k => XS.aloadN X5.here hx rfl (hb hby d3_23) rfl rfl k) ?_
  show Runs _ _ _ _ T5 (mkF m 24 #[.val (.ref r0), .val (.int p1)] [(.ref r0)])
  obtain ⟨T6, X6, e6, st6⟩ := getF X5 hx hZ hown (host := "") (Or.inl (hw _ (List.mem_of_getElem? (i := 16) rfl))) Via.refl e5 f5_Fld_1 (g := (mkF m 24 #[.val (.ref r0), .val (.int p1)] [(.ref r0)])) rfl rfl (hb hby d3_24)
  refine Runs.back st6 ?_
  show Runs _ _ _ _ T6 (mkF m 27 #[.val (.ref r0), .val (.int p1)] [(.ref b4)])
  obtain ⟨fs, hr, hrun, hended, hW, hsame⟩ := X6.leave (v := some (.ref b4)) (fun h => by rw [Bd.returns] at h; cases h)
  exact ⟨_, _, (retOut X6 hx Bd.returns rfl (Or.inr (Or.inr (Or.inr (Or.inr ⟨rfl, rfl, rfl⟩)))) (hb hby d3_27) hr), hrun, hended, _, _, rfl, (by show Q3g Z r0 p1 cp nb fb z h0 n0 _ T6.heap _; rw [e6]; exact ⟨b4, rfl, N5, g_b4, sz_b4, KK5, f5_Exa_0, f5_Fld_1, f5_Arr_3⟩), ⟨_, rfl⟩, hW, hsame.mono (by decide) (by decide)⟩
theorem pn_3k : plainName "com/example/lacuna/lacuna/IndexStore$Run" = true := by first | (simp [plainName, overriddenIn]; done) | decide +kernel
theorem ef_3k (m : MethodId) (r0 : Addr) (p1 : Int32) : entryFrame m #[(.ref r0), (.int p1)] 2 = mkF m 0 #[.val (.ref r0), .val (.int p1)] [] := by first | (simp [entryFrame, mkF, argsToLocals, Value.category]; done) | rfl
def Q3k (Z : State) (r0 : Addr) (p1 : Int32) (cp : Addr) (nb : Nat) (fb : Nat → Value) (z : Int32) (h0 : Heap) (n0 : Nat) (v : Option Value) (h : Heap) (L : List Loc) : Prop := v = some (.ref cp) ∧ Fr n0 L ∧ h = h0
set_option maxRecDepth 65536 in
set_option maxHeartbeats 40000000 in
theorem rm3k (l : Launch) (Z : State) (a0 : Array Value) (hw : ∀ d ∈ tables_1, d.before a0 Z = true) (ws : List Jvm.Cond) (r0 : Addr) (p1 : Int32) (cp : Addr) (nb : Nat) (fb : Nat → Value) (z : Int32) (h0 : Heap) (n0 : Nat) (Z0 : n0 ≤ h0.size) (E_r0 : Exa Z h0 r0 "com/example/lacuna/lacuna/IndexStore$Run") (F2 : Fld Z h0 r0 "com/example/lacuna/lacuna/IndexStore$Run" "copies" "[I" (.ref cp)) (A1 : OArr Z h0 cp .int nb fb) (hz : nb.toInt32 = z) (hG : ¬ z < p1) :
    MetFree l (⟨"com/example/lacuna/lacuna/IndexStore$Run", "roomFor", "(I)[I"⟩ : MethodName) (head1 (Jvm.Cond.code (⟨"com/example/lacuna/lacuna/IndexStore$Run", "roomFor", "(I)[I"⟩ : MethodName) prog_70_method_2_code 2 (some (.array .int)) :: ws) ({ frames := 0, cells := 0, slots := 0, locals := 0 } : Room)) (fun a U => a = #[(.ref r0), (.int p1)] ∧ Z.Warmed39 U.vm ∧ U.heap = h0) (fun _ _ _ _ _ => True) (fun _ U o U' => ∃ v L, o = .returned v ∧ Q3k Z r0 p1 cp nb fb z h0 n0 v U'.heap L ∧ FrameEnd U o U' L ({ frames := 0, cells := 0, slots := 0, locals := 0 } : Room).cells ({ frames := 0, cells := 0, slots := 0, locals := 0 } : Room).slots) := by
  refine MetFree.of_bodySF (plainFor_of_name pn_3k) hisR ?_
  intro p e s m args below meth c s₁ Bd hml0 hP hK
  obtain ⟨rfl, hZ, hh⟩ := hP
  have hx := Bd.exec
  have hby := Bd.bytes
  have hml : c.maxLocals = 2 := hml0
  have hown : s.vm.findClass "com/example/lacuna/lacuna/IndexStore$Run" = some m.cls := findClass_of_methodNamed Bd.named
  have hnm := (name_of_methodNamed Bd.named Bd.method).1
  have X0 : Stand p l e ({ frames := 0, cells := 0, slots := 0, locals := 0 } : Room) s m #[(.ref r0), (.int p1)] below meth c s₁ [] 0 0 := Stand.of_body Bd
  have e0 : s₁.heap = h0 := by rw [← hh, Bd.state]; rfl
  have N0 := Fr.nil n0
  refine Runs.enter (ef_3k m r0 p1) ?_
  show Runs _ _ _ _ s₁ (mkF m 0 #[.val (.ref r0), .val (.int p1)] [])
  refine Runs.back (fun t k => XS.aloadN X0.here hx rfl (hb hby d3_0) rfl rfl k) ?_
  show Runs _ _ _ _ s₁ (mkF m 1 #[.val (.ref r0), .val (.int p1)] [(.ref r0)])
  obtain ⟨T1, X1, e1, st1⟩ := getF X0 hx hZ hown (host := "") (Or.inl (hw _ (List.mem_of_getElem? (i := 16) rfl))) Via.refl e0 F2 (g := (mkF m 1 #[.val (.ref r0), .val (.int p1)] [(.ref r0)])) rfl rfl (hb hby d3_1)
  refine Runs.back st1 ?_
  show Runs _ _ _ _ T1 (mkF m 4 #[.val (.ref r0), .val (.int p1)] [(.ref cp)])
  refine Runs.back (fun t k => XS.ifnullNo X1.here hx rfl (hb hby d3_4) rfl k) ?_
  show Runs _ _ _ _ T1 (mkF m 7 #[.val (.ref r0), .val (.int p1)] [])
  refine Runs.back (fun t k => XS.aloadN X1.here hx rfl (hb hby d3_7) rfl rfl k) ?_
  show Runs _ _ _ _ T1 (mkF m 8 #[.val (.ref r0), .val (.int p1)] [(.ref r0)])
  obtain ⟨T2, X2, e2, st2⟩ := getF X1 hx hZ hown (host := "") (Or.inl (hw _ (List.mem_of_getElem? (i := 16) rfl))) Via.refl e1 F2 (g := (mkF m 8 #[.val (.ref r0), .val (.int p1)] [(.ref r0)])) rfl rfl (hb hby d3_8)
  refine Runs.back st2 ?_
  show Runs _ _ _ _ T2 (mkF m 11 #[.val (.ref r0), .val (.int p1)] [(.ref cp)])
  obtain ⟨cl3, Ar3, S3, Hs3⟩ := id A1
  refine Runs.back (fun t k => X2.arraylength hx (by rw [e2]; exact Ar3.1) (State.isArrayOf_alike hZ.alike Ar3.2.1) (g := (mkF m 11 #[.val (.ref r0), .val (.int p1)] [(.ref cp)])) rfl rfl (hb hby d3_11) _ (by rw [S3, show (nb).toInt32 = z from hz]; exact k)) ?_
  show Runs _ _ _ _ T2 (mkF m 12 #[.val (.ref r0), .val (.int p1)] [(.int z)])
  refine Runs.back (fun t k => XS.iloadN X2.here hx rfl (hb hby d3_12) rfl k) ?_
  show Runs _ _ _ _ T2 (mkF m 13 #[.val (.ref r0), .val (.int p1)] [(.int p1), (.int z)])
  refine Runs.back (fun t k => XS.icmpYes X2.here hx rfl (pc0 := 13) (pc' := 23) rfl (hb hby d3_13) rfl (flt (show ¬ (z < p1) from hG)).2.1 (by decide) (by decide) k) ?_
  show Runs _ _ _ _ T2 (mkF m 23 #[.val (.ref r0), .val (.int p1)] [])
  refine Runs.back (fun t k => XS.aloadN X2.here hx rfl (hb hby d3_23) rfl rfl k) ?_
  show Runs _ _ _ _ T2 (mkF m 24 #[.val (.ref r0), .val (.int p1)] [(.ref r0)])
  obtain ⟨T4, X4, e4, st4⟩ := getF X2 hx hZ hown (host := "") (Or.inl (hw _ (List.mem_of_getElem? (i := 16) rfl))) Via.refl e2 F2 (g := (mkF m 24 #[.val (.ref r0), .val (.int p1)] [(.ref r0)])) rfl rfl (hb hby d3_24)
  refine Runs.back st4 ?_
  show Runs _ _ _ _ T4 (mkF m 27 #[.val (.ref r0), .val (.int p1)] [(.ref cp)])
  obtain ⟨fs, hr, hrun, hended, hW, hsame⟩ := X4.leave (v := some (.ref cp)) (fun h => by rw [Bd.returns] at h; cases h)
  exact ⟨_, _, (retOut X4 hx Bd.returns rfl (Or.inr (Or.inr (Or.inr (Or.inr ⟨rfl, rfl, rfl⟩)))) (hb hby d3_27) hr), hrun, hended, _, _, rfl, ⟨rfl, N0, e4⟩, ⟨_, rfl⟩, hW, hsame.mono (by decide) (by decide)⟩
theorem pn_0 : plainName "com/example/lacuna/lacuna/IndexStoreRoomForPinLaw" = true := by first | (simp [plainName, overriddenIn]; done) | decide +kernel
theorem pd0_0 : parseMethodDescriptor "(I)V" = some ⟨[.int], none⟩ := by decide +kernel
theorem pd0_1 : parseMethodDescriptor "(I)[I" = some ⟨[.int], some (.array .int)⟩ := by decide +kernel
theorem ef_0 (m : MethodId) (p0 : Int32) (p1 : Int32) (p2 : Int32) (p3 : Int32) : entryFrame m #[(.int p0), (.int p1), (.int p2), (.int p3)] maxLocals = mkF m 0 #[.val (.int p0), .val (.int p1), .val (.int p2), .val (.int p3), .unset, .unset, .unset, .unset, .unset, .unset, .unset, .unset] [] := by first | (simp [entryFrame, mkF, argsToLocals, Value.category, maxLocals]; done) | rfl
def Q0 (Z : State) (p0 : Int32) (p1 : Int32) (p2 : Int32) (p3 : Int32)  (h0 : Heap) (n0 : Nat) (v : Option Value) (h : Heap) (L : List Loc) : Prop := v = some (.int 1) ∧ Fr n0 L
set_option maxRecDepth 65536 in
set_option maxHeartbeats 40000000 in
theorem rm0 (l : Launch) (Z : State) (a0 : Array Value) (hw : ∀ d ∈ tables_1, d.before a0 Z = true) (ws : List Jvm.Cond) (p0 : Int32) (p1 : Int32) (p2 : Int32) (p3 : Int32)  (h0 : Heap) (n0 : Nat) (Z0 : n0 ≤ h0.size) :
    MetFree l x (head1 (Jvm.Cond.code x code maxLocals ret :: ws) room_1) (fun a U => a = #[(.int p0), (.int p1), (.int p2), (.int p3)] ∧ Z.Warmed39 U.vm ∧ U.heap = h0) (fun _ _ _ _ _ => True) (fun _ U o U' => ∃ v L, o = .returned v ∧ Q0 Z p0 p1 p2 p3 h0 n0 v U'.heap L ∧ FrameEnd U o U' L 16 1600) := by
  refine MetFree.of_bodySF (plainFor_of_name pn_0) hisR ?_
  intro p e s m args below meth c s₁ Bd hml0 hP hK
  obtain ⟨rfl, hZ, hh⟩ := hP
  have hx := Bd.exec
  have hby := Bd.bytes
  have hml : c.maxLocals = 12 := hml0
  have hown : s.vm.findClass "com/example/lacuna/lacuna/IndexStoreRoomForPinLaw" = some m.cls := findClass_of_methodNamed Bd.named
  have hnm := (name_of_methodNamed Bd.named Bd.method).1
  have X0 : Stand p l e room_1 s m #[(.int p0), (.int p1), (.int p2), (.int p3)] below meth c s₁ [] 0 0 := Stand.of_body Bd
  have e0 : s₁.heap = h0 := by rw [← hh, Bd.state]; rfl
  have N0 := Fr.nil n0
  refine Runs.enter (ef_0 m p0 p1 p2 p3) ?_
  show Runs _ _ _ _ s₁ (mkF m 0 #[.val (.int p0), .val (.int p1), .val (.int p2), .val (.int p3), .unset, .unset, .unset, .unset, .unset, .unset, .unset, .unset] [])
  refine Runs.back (fun t k => XS.iloadN X0.here hx rfl (hb hby at_0) rfl k) ?_
  show Runs _ _ _ _ s₁ (mkF m 1 #[.val (.int p0), .val (.int p1), .val (.int p2), .val (.int p3), .unset, .unset, .unset, .unset, .unset, .unset, .unset, .unset] [(.int p1)])
  refine Runs.back (fun t k => XS.sipush X0.here hx rfl (hb hby at_1) k) ?_
  show Runs _ _ _ _ s₁ (mkF m 4 #[.val (.int p0), .val (.int p1), .val (.int p2), .val (.int p3), .unset, .unset, .unset, .unset, .unset, .unset, .unset, .unset] [(.int (255 : Int32)), (.int p1)])
  refine Runs.back (fun t k => XS.iand X0.here hx rfl (hb hby at_4) rfl k) ?_
  show Runs _ _ _ _ s₁ (mkF m 5 #[.val (.int p0), .val (.int p1), .val (.int p2), .val (.int p3), .unset, .unset, .unset, .unset, .unset, .unset, .unset, .unset] [(.int (p1 &&& (255 : Int32)))])
  refine Runs.back (fun t k => XS.istore X0.here hx rfl (hb hby at_5) rfl (l' := #[.val (.int p0), .val (.int p1), .val (.int p2), .val (.int p3), .val (.int (p1 &&& (255 : Int32))), .unset, .unset, .unset, .unset, .unset, .unset, .unset]) rfl k) ?_
  show Runs _ _ _ _ s₁ (mkF m 7 #[.val (.int p0), .val (.int p1), .val (.int p2), .val (.int p3), .val (.int (p1 &&& (255 : Int32))), .unset, .unset, .unset, .unset, .unset, .unset, .unset] [])
  refine Runs.back (fun t k => XS.iloadN X0.here hx rfl (hb hby at_7) rfl k) ?_
  show Runs _ _ _ _ s₁ (mkF m 8 #[.val (.int p0), .val (.int p1), .val (.int p2), .val (.int p3), .val (.int (p1 &&& (255 : Int32))), .unset, .unset, .unset, .unset, .unset, .unset, .unset] [(.int p2)])
  refine Runs.back (fun t k => XS.sipush X0.here hx rfl (hb hby at_8) k) ?_
  show Runs _ _ _ _ s₁ (mkF m 11 #[.val (.int p0), .val (.int p1), .val (.int p2), .val (.int p3), .val (.int (p1 &&& (255 : Int32))), .unset, .unset, .unset, .unset, .unset, .unset, .unset] [(.int (255 : Int32)), (.int p2)])
  refine Runs.back (fun t k => XS.iand X0.here hx rfl (hb hby at_11) rfl k) ?_
  show Runs _ _ _ _ s₁ (mkF m 12 #[.val (.int p0), .val (.int p1), .val (.int p2), .val (.int p3), .val (.int (p1 &&& (255 : Int32))), .unset, .unset, .unset, .unset, .unset, .unset, .unset] [(.int (p2 &&& (255 : Int32)))])
  refine Runs.back (fun t k => XS.istore X0.here hx rfl (hb hby at_12) rfl (l' := #[.val (.int p0), .val (.int p1), .val (.int p2), .val (.int p3), .val (.int (p1 &&& (255 : Int32))), .val (.int (p2 &&& (255 : Int32))), .unset, .unset, .unset, .unset, .unset, .unset]) rfl k) ?_
  show Runs _ _ _ _ s₁ (mkF m 14 #[.val (.int p0), .val (.int p1), .val (.int p2), .val (.int p3), .val (.int (p1 &&& (255 : Int32))), .val (.int (p2 &&& (255 : Int32))), .unset, .unset, .unset, .unset, .unset, .unset] [])
  refine Runs.back (fun t k => XS.iloadN X0.here hx rfl (hb hby at_14) rfl k) ?_
  show Runs _ _ _ _ s₁ (mkF m 15 #[.val (.int p0), .val (.int p1), .val (.int p2), .val (.int p3), .val (.int (p1 &&& (255 : Int32))), .val (.int (p2 &&& (255 : Int32))), .unset, .unset, .unset, .unset, .unset, .unset] [(.int p3)])
  refine Runs.back (fun t k => XS.sipush X0.here hx rfl (hb hby at_15) k) ?_
  show Runs _ _ _ _ s₁ (mkF m 18 #[.val (.int p0), .val (.int p1), .val (.int p2), .val (.int p3), .val (.int (p1 &&& (255 : Int32))), .val (.int (p2 &&& (255 : Int32))), .unset, .unset, .unset, .unset, .unset, .unset] [(.int (255 : Int32)), (.int p3)])
  refine Runs.back (fun t k => XS.iand X0.here hx rfl (hb hby at_18) rfl k) ?_
  show Runs _ _ _ _ s₁ (mkF m 19 #[.val (.int p0), .val (.int p1), .val (.int p2), .val (.int p3), .val (.int (p1 &&& (255 : Int32))), .val (.int (p2 &&& (255 : Int32))), .unset, .unset, .unset, .unset, .unset, .unset] [(.int (p3 &&& (255 : Int32)))])
  refine Runs.back (fun t k => XS.istore X0.here hx rfl (hb hby at_19) rfl (l' := #[.val (.int p0), .val (.int p1), .val (.int p2), .val (.int p3), .val (.int (p1 &&& (255 : Int32))), .val (.int (p2 &&& (255 : Int32))), .val (.int (p3 &&& (255 : Int32))), .unset, .unset, .unset, .unset, .unset]) rfl k) ?_
  show Runs _ _ _ _ s₁ (mkF m 21 #[.val (.int p0), .val (.int p1), .val (.int p2), .val (.int p3), .val (.int (p1 &&& (255 : Int32))), .val (.int (p2 &&& (255 : Int32))), .val (.int (p3 &&& (255 : Int32))), .unset, .unset, .unset, .unset, .unset] [])
  generalize ela : (p1 &&& (255 : Int32)) = la
  generalize elb : (p2 &&& (255 : Int32)) = lb
  generalize elc : (p3 &&& (255 : Int32)) = lc
  show Runs _ _ _ _ s₁ (mkF m 21 #[.val (.int p0), .val (.int p1), .val (.int p2), .val (.int p3), .val (.int la), .val (.int lb), .val (.int lc), .unset, .unset, .unset, .unset, .unset] [])
  have z1 := z32
  have B_la : 0 ≤ la.toInt ∧ la.toInt < 256 := by rw [← ela, c_mask p1 _ 8 (by decide) (by decide)]; omega
  have hp_la : ¬ la < (0 : Int32) := by rw [lti]; omega
  have z_la : la.toNatClampNeg.toInt32 = la := (back32 hp_la).1
  have l_la : la.toNatClampNeg ≤ 255 := by have q := nat_of hp_la; omega
  have B_lb : 0 ≤ lb.toInt ∧ lb.toInt < 256 := by rw [← elb, c_mask p2 _ 8 (by decide) (by decide)]; omega
  have hp_lb : ¬ lb < (0 : Int32) := by rw [lti]; omega
  have z_lb : lb.toNatClampNeg.toInt32 = lb := (back32 hp_lb).1
  have l_lb : lb.toNatClampNeg ≤ 255 := by have q := nat_of hp_lb; omega
  have B_lc : 0 ≤ lc.toInt ∧ lc.toInt < 256 := by rw [← elc, c_mask p3 _ 8 (by decide) (by decide)]; omega
  have hp_lc : ¬ lc < (0 : Int32) := by rw [lti]; omega
  have z_lc : lc.toNatClampNeg.toInt32 = lc := (back32 hp_lc).1
  have l_lc : lc.toNatClampNeg ≤ 255 := by have q := nat_of hp_lc; omega
  obtain ⟨T1, h1, X1, e1, E1, A1, D1, -, st1⟩ := newO X0 hx hZ hown (hw _ (List.mem_of_getElem? (i := 0) rfl)) (hw _ (List.mem_of_getElem? (i := 1) rfl)) (hw _ (List.mem_of_getElem? (i := 2) rfl)) e0 (g := (mkF m 21 #[.val (.int p0), .val (.int p1), .val (.int p2), .val (.int p3), .val (.int la), .val (.int lb), .val (.int lc), .unset, .unset, .unset, .unset, .unset] [])) rfl (hb hby at_21) (by decide) (by decide)
  obtain ⟨b1, g1⟩ : ∃ z, z = h0.size := ⟨_, rfl⟩
  rw [← g1] at A1 D1 st1
  have g_b1 : n0 ≤ b1 := Nat.le_trans (Z0) (Nat.le_of_eq g1.symm)
  have Z1 : n0 ≤ h1.size := Nat.le_trans (Z0) E1.1
  have F1_10 : Fld Z h1 b1 "com/example/lacuna/lacuna/IndexStore$Run" "longest" "I" (.int (0 : Int32)) := D1 (Or.inr (hw _ (List.mem_of_getElem? (i := 10) rfl))) (ty := .int) (by decide)
  have F1_17 : Fld Z h1 b1 "com/example/lacuna/lacuna/IndexStore$Run" "copies" "[I" .null := D1 (Or.inl (hw _ (List.mem_of_getElem? (i := 17) rfl))) (ty := (.array .int)) (by decide)
  refine Runs.back st1 ?_
  show Runs _ _ _ _ T1 (mkF m 24 #[.val (.int p0), .val (.int p1), .val (.int p2), .val (.int p3), .val (.int la), .val (.int lb), .val (.int lc), .unset, .unset, .unset, .unset, .unset] [(.ref b1)])
  refine Runs.back (fun t k => XS.dup X1.here hx rfl (hb hby at_24) rfl rfl k) ?_
  show Runs _ _ _ _ T1 (mkF m 25 #[.val (.int p0), .val (.int p1), .val (.int p2), .val (.int p3), .val (.int la), .val (.int lb), .val (.int lc), .unset, .unset, .unset, .unset, .unset] [(.ref b1), (.ref b1)])
  refine Runs.back (fun t k => XS.iloadN X1.here hx rfl (hb hby at_25) rfl k) ?_
  show Runs _ _ _ _ T1 (mkF m 26 #[.val (.int p0), .val (.int p1), .val (.int p2), .val (.int p3), .val (.int la), .val (.int lb), .val (.int lc), .unset, .unset, .unset, .unset, .unset] [(.int p0), (.ref b1), (.ref b1)])
  obtain ⟨_, _, ⟨T2, L2, k2, n2⟩, -, X2, ⟨Lc2, hQ2, l2, y2, z2⟩, st2⟩ := X1.specialBack hx (y := (⟨"com/example/lacuna/lacuna/IndexStore$Run", "<init>", "(I)V"⟩ : MethodName)) rfl hown (mvT hZ (hw _ (List.mem_of_getElem? (i := 3) rfl))) (mvT hZ (hw _ (List.mem_of_getElem? (i := 4) rfl))) (mvT hZ (hw _ (List.mem_of_getElem? (i := 5) rfl))) (by decide) (backOf (W := 1) (rm1 l Z a0 hw [] b1 p0 _ _ h1 n0 (Z1) A1 F1_10 F1_17 g_b1) hZ (hw _ (List.mem_of_getElem? (i := 5) rfl)) (hw _ (List.mem_of_getElem? (i := 2) rfl)) (by decide) (by decide)) (g := (mkF m 26 #[.val (.int p0), .val (.int p1), .val (.int p2), .val (.int p3), .val (.int la), .val (.int lb), .val (.int lc), .unset, .unset, .unset, .unset, .unset] [(.int p0), (.ref b1), (.ref b1)])) rfl (by rw [hml]; rfl) (Steps.refl _) (a := b1) (argsL := [(.int p0)]) (rest := [(.ref b1)]) (lenOf pd0_0 rfl) rfl (by show 2 * 0 + _ ≤ _; exact Nat.le_of_eq rfl) (hb hby at_26) (fun _ _ => ⟨rfl, e1, (by decide : 1 + 0 ≤ _), (by decide : 6 + 0 ≤ _)⟩)
  dsimp only [Pt.U, Pt.locs, Pt.cells, Pt.slots] at X2 l2 y2 z2 st2 hQ2
  subst l2 y2 z2
  obtain ⟨rfl, N2q, K2, iE2, iF2⟩ := hQ2
  have N2 := Fr.app N0 N2q
  have f2_Exa_0 : Exa Z T2.heap b1 "com/example/lacuna/lacuna/IndexStore$Run" := A1.keep K2
  have Z2 : n0 ≤ T2.heap.size := Nat.le_trans (Z1) K2.1
  refine Runs.trans st2 ?_
  show Runs _ _ _ _ T2 (mkF m 29 #[.val (.int p0), .val (.int p1), .val (.int p2), .val (.int p3), .val (.int la), .val (.int lb), .val (.int lc), .unset, .unset, .unset, .unset, .unset] [(.ref b1)])
  refine Runs.back (fun t k => XS.astore X2.here hx rfl (hb hby at_29) rfl rfl (l' := #[.val (.int p0), .val (.int p1), .val (.int p2), .val (.int p3), .val (.int la), .val (.int lb), .val (.int lc), .val (.ref b1), .unset, .unset, .unset, .unset]) rfl k) ?_
  show Runs _ _ _ _ T2 (mkF m 31 #[.val (.int p0), .val (.int p1), .val (.int p2), .val (.int p3), .val (.int la), .val (.int lb), .val (.int lc), .val (.ref b1), .unset, .unset, .unset, .unset] [])
  refine Runs.back (fun t k => XS.aload X2.here hx rfl (hb hby at_31) rfl rfl k) ?_
  show Runs _ _ _ _ T2 (mkF m 33 #[.val (.int p0), .val (.int p1), .val (.int p2), .val (.int p3), .val (.int la), .val (.int lb), .val (.int lc), .val (.ref b1), .unset, .unset, .unset, .unset] [(.ref b1)])
  refine Runs.back (fun t k => XS.iload X2.here hx rfl (hb hby at_33) rfl k) ?_
  show Runs _ _ _ _ T2 (mkF m 35 #[.val (.int p0), .val (.int p1), .val (.int p2), .val (.int p3), .val (.int la), .val (.int lb), .val (.int lc), .val (.ref b1), .unset, .unset, .unset, .unset] [(.int la), (.ref b1)])
  obtain ⟨cq3, kq3, q3a, q3b, q3c⟩ := isOf hZ rfl iE2
  obtain ⟨_, _, ⟨T3, L3, k3, n3⟩, -, X3, ⟨Lc3, hQ3, l3, y3, z3⟩, st3⟩ := X2.virtualBack hx (y := (⟨"com/example/lacuna/lacuna/IndexStore$Run", "roomFor", "(I)[I"⟩ : MethodName)) (z := (⟨"com/example/lacuna/lacuna/IndexStore$Run", "roomFor", "(I)[I"⟩ : MethodName)) hown (mvT hZ (hw _ (List.mem_of_getElem? (i := 11) rfl))) (mvT hZ (hw _ (List.mem_of_getElem? (i := 12) rfl))) (notFace_of_selects (args := #[]) (mvT hZ (hw _ (List.mem_of_getElem? (i := 14) rfl)))) (mvT hZ (hw _ (List.mem_of_getElem? (i := 14) rfl))) (mvT hZ (hw _ (List.mem_of_getElem? (i := 13) rfl))) (by decide) (backOf (W := 0) (rm3n l Z a0 hw [] b1 la T2.heap n0 (Z2) iE2 iF2 g_b1 hp_la l_la) hZ (hw _ (List.mem_of_getElem? (i := 15) rfl)) (hw _ (List.mem_of_getElem? (i := 2) rfl)) (by decide) (by decide)) q3a q3c (g := (mkF m 35 #[.val (.int p0), .val (.int p1), .val (.int p2), .val (.int p3), .val (.int la), .val (.int lb), .val (.int lc), .val (.ref b1), .unset, .unset, .unset, .unset] [(.int la), (.ref b1)])) rfl (by rw [hml]; rfl) (Steps.refl _) (argsL := [(.int la)]) (rest := []) (lenOf pd0_1 rfl) rfl (by show 2 * 0 + _ ≤ _; exact Nat.le_of_eq rfl) (hb hby at_35) (fun _ _ => ⟨rfl, rfl, (by decide : 1 + 1 ≤ _), (by decide : 6 + 255 ≤ _)⟩)
  dsimp only [Pt.U, Pt.locs, Pt.cells, Pt.slots] at X3 l3 y3 z3 st3 hQ3
  subst l3 y3 z3
  obtain ⟨b3, rfl, N3q, g_b3, sb3, K3, iE3, iF3, iA3⟩ := hQ3
  have N3 := Fr.app N2 N3q
  have ne_b1_b3 : b1 ≠ b3 := Nat.ne_of_lt (Nat.lt_of_lt_of_le iE2.lt sb3)
  have f3_Exa_0 : Exa Z T3.heap b1 "com/example/lacuna/lacuna/IndexStore$Run" := iE2.keep K3
  have Z3 : n0 ≤ T3.heap.size := Nat.le_trans (Z2) K3.1
  refine Runs.trans st3 ?_
  show Runs _ _ _ _ T3 (mkF m 38 #[.val (.int p0), .val (.int p1), .val (.int p2), .val (.int p3), .val (.int la), .val (.int lb), .val (.int lc), .val (.ref b1), .unset, .unset, .unset, .unset] [(.ref b3)])
  refine Runs.back (fun t k => XS.astore X3.here hx rfl (hb hby at_38) rfl rfl (l' := #[.val (.int p0), .val (.int p1), .val (.int p2), .val (.int p3), .val (.int la), .val (.int lb), .val (.int lc), .val (.ref b1), .val (.ref b3), .unset, .unset, .unset]) rfl k) ?_
  show Runs _ _ _ _ T3 (mkF m 40 #[.val (.int p0), .val (.int p1), .val (.int p2), .val (.int p3), .val (.int la), .val (.int lb), .val (.int lc), .val (.ref b1), .val (.ref b3), .unset, .unset, .unset] [])
  by_cases hG1 : la < lb
  · have ihG1 := hG1
    rw [lti] at ihG1
    show Runs _ _ _ _ T3 (mkF m 40 #[.val (.int p0), .val (.int p1), .val (.int p2), .val (.int p3), .val (.int la), .val (.int lb), .val (.int lc), .val (.ref b1), .val (.ref b3), .unset, .unset, .unset] [])
    refine Runs.back (fun t k => XS.aload X3.here hx rfl (hb hby at_40) rfl rfl k) ?_
    show Runs _ _ _ _ T3 (mkF m 42 #[.val (.int p0), .val (.int p1), .val (.int p2), .val (.int p3), .val (.int la), .val (.int lb), .val (.int lc), .val (.ref b1), .val (.ref b3), .unset, .unset, .unset] [(.ref b1)])
    refine Runs.back (fun t k => XS.iload X3.here hx rfl (hb hby at_42) rfl k) ?_
    show Runs _ _ _ _ T3 (mkF m 44 #[.val (.int p0), .val (.int p1), .val (.int p2), .val (.int p3), .val (.int la), .val (.int lb), .val (.int lc), .val (.ref b1), .val (.ref b3), .unset, .unset, .unset] [(.int lb), (.ref b1)])
    obtain ⟨cq4, kq4, q4a, q4b, q4c⟩ := isOf hZ rfl iE3
    obtain ⟨_, _, ⟨T4, L4, k4, n4⟩, -, X4, ⟨Lc4, hQ4, l4, y4, z4⟩, st4⟩ := X3.virtualBack hx (y := (⟨"com/example/lacuna/lacuna/IndexStore$Run", "roomFor", "(I)[I"⟩ : MethodName)) (z := (⟨"com/example/lacuna/lacuna/IndexStore$Run", "roomFor", "(I)[I"⟩ : MethodName)) hown (mvT hZ (hw _ (List.mem_of_getElem? (i := 11) rfl))) (mvT hZ (hw _ (List.mem_of_getElem? (i := 12) rfl))) (notFace_of_selects (args := #[]) (mvT hZ (hw _ (List.mem_of_getElem? (i := 14) rfl)))) (mvT hZ (hw _ (List.mem_of_getElem? (i := 14) rfl))) (mvT hZ (hw _ (List.mem_of_getElem? (i := 13) rfl))) (by decide) (backOf (W := 0) (rm3g l Z a0 hw [] b1 lb b3 _ _ la T3.heap n0 (Z3) iE3 iF3 iA3 ne_b1_b3 z_la hG1 g_b1 hp_lb l_lb) hZ (hw _ (List.mem_of_getElem? (i := 15) rfl)) (hw _ (List.mem_of_getElem? (i := 2) rfl)) (by decide) (by decide)) q4a q4c (g := (mkF m 44 #[.val (.int p0), .val (.int p1), .val (.int p2), .val (.int p3), .val (.int la), .val (.int lb), .val (.int lc), .val (.ref b1), .val (.ref b3), .unset, .unset, .unset] [(.int lb), (.ref b1)])) rfl (by rw [hml]; rfl) (Steps.refl _) (argsL := [(.int lb)]) (rest := []) (lenOf pd0_1 rfl) rfl (by show 2 * 0 + _ ≤ _; exact Nat.le_of_eq rfl) (hb hby at_44) (fun _ _ => ⟨rfl, rfl, (by decide : 2 + 1 ≤ _), (by decide : 261 + 255 ≤ _)⟩)
    dsimp only [Pt.U, Pt.locs, Pt.cells, Pt.slots] at X4 l4 y4 z4 st4 hQ4
    subst l4 y4 z4
    obtain ⟨b4, rfl, N4q, g_b4, sb4, K4, iE4, iF4, iA4⟩ := hQ4
    have N4 := Fr.app N3 N4q
    have ne_b1_b4 : b1 ≠ b4 := Nat.ne_of_lt (Nat.lt_of_lt_of_le iE3.lt sb4)
    have ne_b3_b4 : b3 ≠ b4 := Nat.ne_of_lt (Nat.lt_of_lt_of_le iA3.lt sb4)
    have f4_Exa_0 : Exa Z T4.heap b1 "com/example/lacuna/lacuna/IndexStore$Run" := iE3.keep K4
    have f4_Arr_1 : OArr Z T4.heap b3 .int la.toNatClampNeg (fun _ => (.int (0 : Int32))) := iA3.keep K4 (ninS (Ne.symm ne_b1_b3) nin0)
    have Z4 : n0 ≤ T4.heap.size := Nat.le_trans (Z3) K4.1
    refine Runs.trans st4 ?_
    show Runs _ _ _ _ T4 (mkF m 47 #[.val (.int p0), .val (.int p1), .val (.int p2), .val (.int p3), .val (.int la), .val (.int lb), .val (.int lc), .val (.ref b1), .val (.ref b3), .unset, .unset, .unset] [(.ref b4)])
    refine Runs.back (fun t k => XS.astore X4.here hx rfl (hb hby at_47) rfl rfl (l' := #[.val (.int p0), .val (.int p1), .val (.int p2), .val (.int p3), .val (.int la), .val (.int lb), .val (.int lc), .val (.ref b1), .val (.ref b3), .val (.ref b4), .unset, .unset]) rfl k) ?_
    show Runs _ _ _ _ T4 (mkF m 49 #[.val (.int p0), .val (.int p1), .val (.int p2), .val (.int p3), .val (.int la), .val (.int lb), .val (.int lc), .val (.ref b1), .val (.ref b3), .val (.ref b4), .unset, .unset] [])
    by_cases hG2 : lb < lc
    · have ihG2 := hG2
      rw [lti] at ihG2
      show Runs _ _ _ _ T4 (mkF m 49 #[.val (.int p0), .val (.int p1), .val (.int p2), .val (.int p3), .val (.int la), .val (.int lb), .val (.int lc), .val (.ref b1), .val (.ref b3), .val (.ref b4), .unset, .unset] [])
      refine Runs.back (fun t k => XS.aload X4.here hx rfl (hb hby at_49) rfl rfl k) ?_
      show Runs _ _ _ _ T4 (mkF m 51 #[.val (.int p0), .val (.int p1), .val (.int p2), .val (.int p3), .val (.int la), .val (.int lb), .val (.int lc), .val (.ref b1), .val (.ref b3), .val (.ref b4), .unset, .unset] [(.ref b1)])
      refine Runs.back (fun t k => XS.iload X4.here hx rfl (hb hby at_51) rfl k) ?_
      show Runs _ _ _ _ T4 (mkF m 53 #[.val (.int p0), .val (.int p1), .val (.int p2), .val (.int p3), .val (.int la), .val (.int lb), .val (.int lc), .val (.ref b1), .val (.ref b3), .val (.ref b4), .unset, .unset] [(.int lc), (.ref b1)])
      obtain ⟨cq5, kq5, q5a, q5b, q5c⟩ := isOf hZ rfl iE4
      obtain ⟨_, _, ⟨T5, L5, k5, n5⟩, -, X5, ⟨Lc5, hQ5, l5, y5, z5⟩, st5⟩ := X4.virtualBack hx (y := (⟨"com/example/lacuna/lacuna/IndexStore$Run", "roomFor", "(I)[I"⟩ : MethodName)) (z := (⟨"com/example/lacuna/lacuna/IndexStore$Run", "roomFor", "(I)[I"⟩ : MethodName)) hown (mvT hZ (hw _ (List.mem_of_getElem? (i := 11) rfl))) (mvT hZ (hw _ (List.mem_of_getElem? (i := 12) rfl))) (notFace_of_selects (args := #[]) (mvT hZ (hw _ (List.mem_of_getElem? (i := 14) rfl)))) (mvT hZ (hw _ (List.mem_of_getElem? (i := 14) rfl))) (mvT hZ (hw _ (List.mem_of_getElem? (i := 13) rfl))) (by decide) (backOf (W := 0) (rm3g l Z a0 hw [] b1 lc b4 _ _ lb T4.heap n0 (Z4) iE4 iF4 iA4 ne_b1_b4 z_lb hG2 g_b1 hp_lc l_lc) hZ (hw _ (List.mem_of_getElem? (i := 15) rfl)) (hw _ (List.mem_of_getElem? (i := 2) rfl)) (by decide) (by decide)) q5a q5c (g := (mkF m 53 #[.val (.int p0), .val (.int p1), .val (.int p2), .val (.int p3), .val (.int la), .val (.int lb), .val (.int lc), .val (.ref b1), .val (.ref b3), .val (.ref b4), .unset, .unset] [(.int lc), (.ref b1)])) rfl (by rw [hml]; rfl) (Steps.refl _) (argsL := [(.int lc)]) (rest := []) (lenOf pd0_1 rfl) rfl (by show 2 * 0 + _ ≤ _; exact Nat.le_of_eq rfl) (hb hby at_53) (fun _ _ => ⟨rfl, rfl, (by decide : 3 + 1 ≤ _), (by decide : 516 + 255 ≤ _)⟩)
      dsimp only [Pt.U, Pt.locs, Pt.cells, Pt.slots] at X5 l5 y5 z5 st5 hQ5
      subst l5 y5 z5
      obtain ⟨b5, rfl, N5q, g_b5, sb5, K5, iE5, iF5, iA5⟩ := hQ5
      have N5 := Fr.app N4 N5q
      have ne_b3_b5 : b3 ≠ b5 := Nat.ne_of_lt (Nat.lt_of_lt_of_le f4_Arr_1.lt sb5)
      have ne_b1_b5 : b1 ≠ b5 := Nat.ne_of_lt (Nat.lt_of_lt_of_le iE4.lt sb5)
      have ne_b4_b5 : b4 ≠ b5 := Nat.ne_of_lt (Nat.lt_of_lt_of_le iA4.lt sb5)
      have f5_Arr_0 : OArr Z T5.heap b3 .int la.toNatClampNeg (fun _ => (.int (0 : Int32))) := f4_Arr_1.keep K5 (ninS (Ne.symm ne_b1_b3) nin0)
      have f5_Exa_1 : Exa Z T5.heap b1 "com/example/lacuna/lacuna/IndexStore$Run" := iE4.keep K5
      have f5_Arr_2 : OArr Z T5.heap b4 .int lb.toNatClampNeg (fun _ => (.int (0 : Int32))) := iA4.keep K5 (ninS (Ne.symm ne_b1_b4) nin0)
      have Z5 : n0 ≤ T5.heap.size := Nat.le_trans (Z4) K5.1
      refine Runs.trans st5 ?_
      show Runs _ _ _ _ T5 (mkF m 56 #[.val (.int p0), .val (.int p1), .val (.int p2), .val (.int p3), .val (.int la), .val (.int lb), .val (.int lc), .val (.ref b1), .val (.ref b3), .val (.ref b4), .unset, .unset] [(.ref b5)])
      refine Runs.back (fun t k => XS.astore X5.here hx rfl (hb hby at_56) rfl rfl (l' := #[.val (.int p0), .val (.int p1), .val (.int p2), .val (.int p3), .val (.int la), .val (.int lb), .val (.int lc), .val (.ref b1), .val (.ref b3), .val (.ref b4), .val (.ref b5), .unset]) rfl k) ?_
      show Runs _ _ _ _ T5 (mkF m 58 #[.val (.int p0), .val (.int p1), .val (.int p2), .val (.int p3), .val (.int la), .val (.int lb), .val (.int lc), .val (.ref b1), .val (.ref b3), .val (.ref b4), .val (.ref b5), .unset] [])
      refine Runs.back (fun t k => XS.aload X5.here hx rfl (hb hby at_58) rfl rfl k) ?_
      show Runs _ _ _ _ T5 (mkF m 60 #[.val (.int p0), .val (.int p1), .val (.int p2), .val (.int p3), .val (.int la), .val (.int lb), .val (.int lc), .val (.ref b1), .val (.ref b3), .val (.ref b4), .val (.ref b5), .unset] [(.ref b3)])
      refine Runs.back (fun t k => XS.ifnullNo X5.here hx rfl (hb hby at_60) rfl k) ?_
      show Runs _ _ _ _ T5 (mkF m 63 #[.val (.int p0), .val (.int p1), .val (.int p2), .val (.int p3), .val (.int la), .val (.int lb), .val (.int lc), .val (.ref b1), .val (.ref b3), .val (.ref b4), .val (.ref b5), .unset] [])
      refine Runs.back (fun t k => XS.aload X5.here hx rfl (hb hby at_63) rfl rfl k) ?_
      show Runs _ _ _ _ T5 (mkF m 65 #[.val (.int p0), .val (.int p1), .val (.int p2), .val (.int p3), .val (.int la), .val (.int lb), .val (.int lc), .val (.ref b1), .val (.ref b3), .val (.ref b4), .val (.ref b5), .unset] [(.ref b4)])
      refine Runs.back (fun t k => XS.ifnullNo X5.here hx rfl (hb hby at_65) rfl k) ?_
      show Runs _ _ _ _ T5 (mkF m 68 #[.val (.int p0), .val (.int p1), .val (.int p2), .val (.int p3), .val (.int la), .val (.int lb), .val (.int lc), .val (.ref b1), .val (.ref b3), .val (.ref b4), .val (.ref b5), .unset] [])
      refine Runs.back (fun t k => XS.aload X5.here hx rfl (hb hby at_68) rfl rfl k) ?_
      show Runs _ _ _ _ T5 (mkF m 70 #[.val (.int p0), .val (.int p1), .val (.int p2), .val (.int p3), .val (.int la), .val (.int lb), .val (.int lc), .val (.ref b1), .val (.ref b3), .val (.ref b4), .val (.ref b5), .unset] [(.ref b5)])
      refine Runs.back (fun t k => XS.ifnonnullYes X5.here hx rfl (pc0 := 70) (pc' := 75) rfl (hb hby at_70) rfl (by decide) (by decide) k) ?_
      show Runs _ _ _ _ T5 (mkF m 75 #[.val (.int p0), .val (.int p1), .val (.int p2), .val (.int p3), .val (.int la), .val (.int lb), .val (.int lc), .val (.ref b1), .val (.ref b3), .val (.ref b4), .val (.ref b5), .unset] [])
      refine Runs.back (fun t k => XS.aload X5.here hx rfl (hb hby at_75) rfl rfl k) ?_
      show Runs _ _ _ _ T5 (mkF m 77 #[.val (.int p0), .val (.int p1), .val (.int p2), .val (.int p3), .val (.int la), .val (.int lb), .val (.int lc), .val (.ref b1), .val (.ref b3), .val (.ref b4), .val (.ref b5), .unset] [(.ref b3)])
      obtain ⟨cl6, Ar6, S6, Hs6⟩ := id f5_Arr_0
      refine Runs.back (fun t k => X5.arraylength hx Ar6.1 (State.isArrayOf_alike hZ.alike Ar6.2.1) (g := (mkF m 77 #[.val (.int p0), .val (.int p1), .val (.int p2), .val (.int p3), .val (.int la), .val (.int lb), .val (.int lc), .val (.ref b1), .val (.ref b3), .val (.ref b4), .val (.ref b5), .unset] [(.ref b3)])) rfl rfl (hb hby at_77) _ (by rw [S6, show (la.toNatClampNeg).toInt32 = la from z_la]; exact k)) ?_
      show Runs _ _ _ _ T5 (mkF m 78 #[.val (.int p0), .val (.int p1), .val (.int p2), .val (.int p3), .val (.int la), .val (.int lb), .val (.int lc), .val (.ref b1), .val (.ref b3), .val (.ref b4), .val (.ref b5), .unset] [(.int la)])
      refine Runs.back (fun t k => XS.iload X5.here hx rfl (hb hby at_78) rfl k) ?_
      show Runs _ _ _ _ T5 (mkF m 80 #[.val (.int p0), .val (.int p1), .val (.int p2), .val (.int p3), .val (.int la), .val (.int lb), .val (.int lc), .val (.ref b1), .val (.ref b3), .val (.ref b4), .val (.ref b5), .unset] [(.int la), (.int la)])
      refine Runs.back (fun t k => XS.icmpNo X5.here hx rfl (hb hby at_80) rfl (flt (show ¬ (la < la) from (by rw [lti]; omega))).1 k) ?_
      show Runs _ _ _ _ T5 (mkF m 83 #[.val (.int p0), .val (.int p1), .val (.int p2), .val (.int p3), .val (.int la), .val (.int lb), .val (.int lc), .val (.ref b1), .val (.ref b3), .val (.ref b4), .val (.ref b5), .unset] [])
      refine Runs.back (fun t k => XS.aload X5.here hx rfl (hb hby at_83) rfl rfl k) ?_
      show Runs _ _ _ _ T5 (mkF m 85 #[.val (.int p0), .val (.int p1), .val (.int p2), .val (.int p3), .val (.int la), .val (.int lb), .val (.int lc), .val (.ref b1), .val (.ref b3), .val (.ref b4), .val (.ref b5), .unset] [(.ref b4)])
      obtain ⟨cl7, Ar7, S7, Hs7⟩ := id f5_Arr_2
      refine Runs.back (fun t k => X5.arraylength hx Ar7.1 (State.isArrayOf_alike hZ.alike Ar7.2.1) (g := (mkF m 85 #[.val (.int p0), .val (.int p1), .val (.int p2), .val (.int p3), .val (.int la), .val (.int lb), .val (.int lc), .val (.ref b1), .val (.ref b3), .val (.ref b4), .val (.ref b5), .unset] [(.ref b4)])) rfl rfl (hb hby at_85) _ (by rw [S7, show (lb.toNatClampNeg).toInt32 = lb from z_lb]; exact k)) ?_
      show Runs _ _ _ _ T5 (mkF m 86 #[.val (.int p0), .val (.int p1), .val (.int p2), .val (.int p3), .val (.int la), .val (.int lb), .val (.int lc), .val (.ref b1), .val (.ref b3), .val (.ref b4), .val (.ref b5), .unset] [(.int lb)])
      refine Runs.back (fun t k => XS.iload X5.here hx rfl (hb hby at_86) rfl k) ?_
      show Runs _ _ _ _ T5 (mkF m 88 #[.val (.int p0), .val (.int p1), .val (.int p2), .val (.int p3), .val (.int la), .val (.int lb), .val (.int lc), .val (.ref b1), .val (.ref b3), .val (.ref b4), .val (.ref b5), .unset] [(.int lb), (.int lb)])
      refine Runs.back (fun t k => XS.icmpNo X5.here hx rfl (hb hby at_88) rfl (flt (show ¬ (lb < lb) from (by rw [lti]; omega))).1 k) ?_
      show Runs _ _ _ _ T5 (mkF m 91 #[.val (.int p0), .val (.int p1), .val (.int p2), .val (.int p3), .val (.int la), .val (.int lb), .val (.int lc), .val (.ref b1), .val (.ref b3), .val (.ref b4), .val (.ref b5), .unset] [])
      refine Runs.back (fun t k => XS.aload X5.here hx rfl (hb hby at_91) rfl rfl k) ?_
      show Runs _ _ _ _ T5 (mkF m 93 #[.val (.int p0), .val (.int p1), .val (.int p2), .val (.int p3), .val (.int la), .val (.int lb), .val (.int lc), .val (.ref b1), .val (.ref b3), .val (.ref b4), .val (.ref b5), .unset] [(.ref b5)])
      obtain ⟨cl8, Ar8, S8, Hs8⟩ := id iA5
      refine Runs.back (fun t k => X5.arraylength hx Ar8.1 (State.isArrayOf_alike hZ.alike Ar8.2.1) (g := (mkF m 93 #[.val (.int p0), .val (.int p1), .val (.int p2), .val (.int p3), .val (.int la), .val (.int lb), .val (.int lc), .val (.ref b1), .val (.ref b3), .val (.ref b4), .val (.ref b5), .unset] [(.ref b5)])) rfl rfl (hb hby at_93) _ (by rw [S8, show (lc.toNatClampNeg).toInt32 = lc from z_lc]; exact k)) ?_
      show Runs _ _ _ _ T5 (mkF m 94 #[.val (.int p0), .val (.int p1), .val (.int p2), .val (.int p3), .val (.int la), .val (.int lb), .val (.int lc), .val (.ref b1), .val (.ref b3), .val (.ref b4), .val (.ref b5), .unset] [(.int lc)])
      refine Runs.back (fun t k => XS.iload X5.here hx rfl (hb hby at_94) rfl k) ?_
      show Runs _ _ _ _ T5 (mkF m 96 #[.val (.int p0), .val (.int p1), .val (.int p2), .val (.int p3), .val (.int la), .val (.int lb), .val (.int lc), .val (.ref b1), .val (.ref b3), .val (.ref b4), .val (.ref b5), .unset] [(.int lc), (.int lc)])
      refine Runs.back (fun t k => XS.icmpNo X5.here hx rfl (hb hby at_96) rfl (flt (show ¬ (lc < lc) from (by rw [lti]; omega))).1 k) ?_
      show Runs _ _ _ _ T5 (mkF m 99 #[.val (.int p0), .val (.int p1), .val (.int p2), .val (.int p3), .val (.int la), .val (.int lb), .val (.int lc), .val (.ref b1), .val (.ref b3), .val (.ref b4), .val (.ref b5), .unset] [])
      refine Runs.back (fun t k => XS.iconst X5.here hx rfl (hb hby at_99) k) ?_
      show Runs _ _ _ _ T5 (mkF m 100 #[.val (.int p0), .val (.int p1), .val (.int p2), .val (.int p3), .val (.int la), .val (.int lb), .val (.int lc), .val (.ref b1), .val (.ref b3), .val (.ref b4), .val (.ref b5), .unset] [(.int (1 : Int32))])
      refine Runs.back (fun t k => XS.goto X5.here hx rfl (pc0 := 100) (pc' := 104) rfl (hb hby at_100) (by decide) (by decide) k) ?_
      show Runs _ _ _ _ T5 (mkF m 104 #[.val (.int p0), .val (.int p1), .val (.int p2), .val (.int p3), .val (.int la), .val (.int lb), .val (.int lc), .val (.ref b1), .val (.ref b3), .val (.ref b4), .val (.ref b5), .unset] [(.int (1 : Int32))])
      refine Runs.back (fun t k => XS.istore X5.here hx rfl (hb hby at_104) rfl (l' := #[.val (.int p0), .val (.int p1), .val (.int p2), .val (.int p3), .val (.int la), .val (.int lb), .val (.int lc), .val (.ref b1), .val (.ref b3), .val (.ref b4), .val (.ref b5), .val (.int (1 : Int32))]) rfl k) ?_
      show Runs _ _ _ _ T5 (mkF m 106 #[.val (.int p0), .val (.int p1), .val (.int p2), .val (.int p3), .val (.int la), .val (.int lb), .val (.int lc), .val (.ref b1), .val (.ref b3), .val (.ref b4), .val (.ref b5), .val (.int (1 : Int32))] [])
      refine Runs.back (fun t k => XS.iload X5.here hx rfl (hb hby at_106) rfl k) ?_
      show Runs _ _ _ _ T5 (mkF m 108 #[.val (.int p0), .val (.int p1), .val (.int p2), .val (.int p3), .val (.int la), .val (.int lb), .val (.int lc), .val (.ref b1), .val (.ref b3), .val (.ref b4), .val (.ref b5), .val (.int (1 : Int32))] [(.int lb)])
      refine Runs.back (fun t k => XS.aload X5.here hx rfl (hb hby at_108) rfl rfl k) ?_
      show Runs _ _ _ _ T5 (mkF m 110 #[.val (.int p0), .val (.int p1), .val (.int p2), .val (.int p3), .val (.int la), .val (.int lb), .val (.int lc), .val (.ref b1), .val (.ref b3), .val (.ref b4), .val (.ref b5), .val (.int (1 : Int32))] [(.ref b3), (.int lb)])
      obtain ⟨cl9, Ar9, S9, Hs9⟩ := id f5_Arr_0
      refine Runs.back (fun t k => X5.arraylength hx Ar9.1 (State.isArrayOf_alike hZ.alike Ar9.2.1) (g := (mkF m 110 #[.val (.int p0), .val (.int p1), .val (.int p2), .val (.int p3), .val (.int la), .val (.int lb), .val (.int lc), .val (.ref b1), .val (.ref b3), .val (.ref b4), .val (.ref b5), .val (.int (1 : Int32))] [(.ref b3), (.int lb)])) rfl rfl (hb hby at_110) _ (by rw [S9, show (la.toNatClampNeg).toInt32 = la from z_la]; exact k)) ?_
      show Runs _ _ _ _ T5 (mkF m 111 #[.val (.int p0), .val (.int p1), .val (.int p2), .val (.int p3), .val (.int la), .val (.int lb), .val (.int lc), .val (.ref b1), .val (.ref b3), .val (.ref b4), .val (.ref b5), .val (.int (1 : Int32))] [(.int la), (.int lb)])
      refine Runs.back (fun t k => XS.icmpYes X5.here hx rfl (pc0 := 111) (pc' := 133) rfl (hb hby at_111) rfl (tlt (show la < lb from hG1)).2.2.1 (by decide) (by decide) k) ?_
      show Runs _ _ _ _ T5 (mkF m 133 #[.val (.int p0), .val (.int p1), .val (.int p2), .val (.int p3), .val (.int la), .val (.int lb), .val (.int lc), .val (.ref b1), .val (.ref b3), .val (.ref b4), .val (.ref b5), .val (.int (1 : Int32))] [])
      refine Runs.back (fun t k => XS.iload X5.here hx rfl (hb hby at_133) rfl k) ?_
      show Runs _ _ _ _ T5 (mkF m 135 #[.val (.int p0), .val (.int p1), .val (.int p2), .val (.int p3), .val (.int la), .val (.int lb), .val (.int lc), .val (.ref b1), .val (.ref b3), .val (.ref b4), .val (.ref b5), .val (.int (1 : Int32))] [(.int lc)])
      refine Runs.back (fun t k => XS.aload X5.here hx rfl (hb hby at_135) rfl rfl k) ?_
      show Runs _ _ _ _ T5 (mkF m 137 #[.val (.int p0), .val (.int p1), .val (.int p2), .val (.int p3), .val (.int la), .val (.int lb), .val (.int lc), .val (.ref b1), .val (.ref b3), .val (.ref b4), .val (.ref b5), .val (.int (1 : Int32))] [(.ref b4), (.int lc)])
      obtain ⟨cl10, Ar10, S10, Hs10⟩ := id f5_Arr_2
      refine Runs.back (fun t k => X5.arraylength hx Ar10.1 (State.isArrayOf_alike hZ.alike Ar10.2.1) (g := (mkF m 137 #[.val (.int p0), .val (.int p1), .val (.int p2), .val (.int p3), .val (.int la), .val (.int lb), .val (.int lc), .val (.ref b1), .val (.ref b3), .val (.ref b4), .val (.ref b5), .val (.int (1 : Int32))] [(.ref b4), (.int lc)])) rfl rfl (hb hby at_137) _ (by rw [S10, show (lb.toNatClampNeg).toInt32 = lb from z_lb]; exact k)) ?_
      show Runs _ _ _ _ T5 (mkF m 138 #[.val (.int p0), .val (.int p1), .val (.int p2), .val (.int p3), .val (.int la), .val (.int lb), .val (.int lc), .val (.ref b1), .val (.ref b3), .val (.ref b4), .val (.ref b5), .val (.int (1 : Int32))] [(.int lb), (.int lc)])
      refine Runs.back (fun t k => XS.icmpYes X5.here hx rfl (pc0 := 138) (pc' := 160) rfl (hb hby at_138) rfl (tlt (show lb < lc from hG2)).2.2.1 (by decide) (by decide) k) ?_
      show Runs _ _ _ _ T5 (mkF m 160 #[.val (.int p0), .val (.int p1), .val (.int p2), .val (.int p3), .val (.int la), .val (.int lb), .val (.int lc), .val (.ref b1), .val (.ref b3), .val (.ref b4), .val (.ref b5), .val (.int (1 : Int32))] [])
      refine Runs.back (fun t k => XS.iload X5.here hx rfl (hb hby at_160) rfl k) ?_
      show Runs _ _ _ _ T5 (mkF m 162 #[.val (.int p0), .val (.int p1), .val (.int p2), .val (.int p3), .val (.int la), .val (.int lb), .val (.int lc), .val (.ref b1), .val (.ref b3), .val (.ref b4), .val (.ref b5), .val (.int (1 : Int32))] [(.int (1 : Int32))])
      obtain ⟨fs, hr, hrun, hended, hW, hsame⟩ := X5.leave (v := some (.int (1 : Int32))) (fun h => by rw [Bd.returns] at h; cases h)
      exact ⟨_, _, (retN X5 hx (t := .boolean) Bd.returns (by simp) (hb hby at_162) hr), hrun, hended, _, _, rfl, ⟨rfl, N5⟩, ⟨_, rfl⟩, hW, hsame.mono (by decide) (by decide)⟩
    · have ihG2 := hG2
      rw [lti] at ihG2
      show Runs _ _ _ _ T4 (mkF m 49 #[.val (.int p0), .val (.int p1), .val (.int p2), .val (.int p3), .val (.int la), .val (.int lb), .val (.int lc), .val (.ref b1), .val (.ref b3), .val (.ref b4), .unset, .unset] [])
      refine Runs.back (fun t k => XS.aload X4.here hx rfl (hb hby at_49) rfl rfl k) ?_
      show Runs _ _ _ _ T4 (mkF m 51 #[.val (.int p0), .val (.int p1), .val (.int p2), .val (.int p3), .val (.int la), .val (.int lb), .val (.int lc), .val (.ref b1), .val (.ref b3), .val (.ref b4), .unset, .unset] [(.ref b1)])
      refine Runs.back (fun t k => XS.iload X4.here hx rfl (hb hby at_51) rfl k) ?_
      show Runs _ _ _ _ T4 (mkF m 53 #[.val (.int p0), .val (.int p1), .val (.int p2), .val (.int p3), .val (.int la), .val (.int lb), .val (.int lc), .val (.ref b1), .val (.ref b3), .val (.ref b4), .unset, .unset] [(.int lc), (.ref b1)])
      obtain ⟨cq11, kq11, q11a, q11b, q11c⟩ := isOf hZ rfl iE4
      obtain ⟨_, _, ⟨T11, L11, k11, n11⟩, -, X11, ⟨Lc11, hQ11, l11, y11, z11⟩, st11⟩ := X4.virtualBack hx (y := (⟨"com/example/lacuna/lacuna/IndexStore$Run", "roomFor", "(I)[I"⟩ : MethodName)) (z := (⟨"com/example/lacuna/lacuna/IndexStore$Run", "roomFor", "(I)[I"⟩ : MethodName)) hown (mvT hZ (hw _ (List.mem_of_getElem? (i := 11) rfl))) (mvT hZ (hw _ (List.mem_of_getElem? (i := 12) rfl))) (notFace_of_selects (args := #[]) (mvT hZ (hw _ (List.mem_of_getElem? (i := 14) rfl)))) (mvT hZ (hw _ (List.mem_of_getElem? (i := 14) rfl))) (mvT hZ (hw _ (List.mem_of_getElem? (i := 13) rfl))) (by decide) (backOf (W := 0) (rm3k l Z a0 hw [] b1 lc b4 _ _ lb T4.heap n0 (Z4) iE4 iF4 iA4 z_lb hG2) hZ (hw _ (List.mem_of_getElem? (i := 15) rfl)) (hw _ (List.mem_of_getElem? (i := 2) rfl)) (by decide) (by decide)) q11a q11c (g := (mkF m 53 #[.val (.int p0), .val (.int p1), .val (.int p2), .val (.int p3), .val (.int la), .val (.int lb), .val (.int lc), .val (.ref b1), .val (.ref b3), .val (.ref b4), .unset, .unset] [(.int lc), (.ref b1)])) rfl (by rw [hml]; rfl) (Steps.refl _) (argsL := [(.int lc)]) (rest := []) (lenOf pd0_1 rfl) rfl (by show 2 * 0 + _ ≤ _; exact Nat.le_of_eq rfl) (hb hby at_53) (fun _ _ => ⟨rfl, rfl, (by decide : 3 + 0 ≤ _), (by decide : 516 + 0 ≤ _)⟩)
      dsimp only [Pt.U, Pt.locs, Pt.cells, Pt.slots] at X11 l11 y11 z11 st11 hQ11
      subst l11 y11 z11
      obtain ⟨rfl, N11q, eq11⟩ := hQ11
      have N11 := Fr.app N4 N11q
      refine Runs.trans st11 ?_
      show Runs _ _ _ _ T11 (mkF m 56 #[.val (.int p0), .val (.int p1), .val (.int p2), .val (.int p3), .val (.int la), .val (.int lb), .val (.int lc), .val (.ref b1), .val (.ref b3), .val (.ref b4), .unset, .unset] [(.ref b4)])
      refine Runs.back (fun t k => XS.astore X11.here hx rfl (hb hby at_56) rfl rfl (l' := #[.val (.int p0), .val (.int p1), .val (.int p2), .val (.int p3), .val (.int la), .val (.int lb), .val (.int lc), .val (.ref b1), .val (.ref b3), .val (.ref b4), .val (.ref b4), .unset]) rfl k) ?_
      show Runs _ _ _ _ T11 (mkF m 58 #[.val (.int p0), .val (.int p1), .val (.int p2), .val (.int p3), .val (.int la), .val (.int lb), .val (.int lc), .val (.ref b1), .val (.ref b3), .val (.ref b4), .val (.ref b4), .unset] [])
      refine Runs.back (fun t k => XS.aload X11.here hx rfl (hb hby at_58) rfl rfl k) ?_
      show Runs _ _ _ _ T11 (mkF m 60 #[.val (.int p0), .val (.int p1), .val (.int p2), .val (.int p3), .val (.int la), .val (.int lb), .val (.int lc), .val (.ref b1), .val (.ref b3), .val (.ref b4), .val (.ref b4), .unset] [(.ref b3)])
      refine Runs.back (fun t k => XS.ifnullNo X11.here hx rfl (hb hby at_60) rfl k) ?_
      show Runs _ _ _ _ T11 (mkF m 63 #[.val (.int p0), .val (.int p1), .val (.int p2), .val (.int p3), .val (.int la), .val (.int lb), .val (.int lc), .val (.ref b1), .val (.ref b3), .val (.ref b4), .val (.ref b4), .unset] [])
      refine Runs.back (fun t k => XS.aload X11.here hx rfl (hb hby at_63) rfl rfl k) ?_
      show Runs _ _ _ _ T11 (mkF m 65 #[.val (.int p0), .val (.int p1), .val (.int p2), .val (.int p3), .val (.int la), .val (.int lb), .val (.int lc), .val (.ref b1), .val (.ref b3), .val (.ref b4), .val (.ref b4), .unset] [(.ref b4)])
      refine Runs.back (fun t k => XS.ifnullNo X11.here hx rfl (hb hby at_65) rfl k) ?_
      show Runs _ _ _ _ T11 (mkF m 68 #[.val (.int p0), .val (.int p1), .val (.int p2), .val (.int p3), .val (.int la), .val (.int lb), .val (.int lc), .val (.ref b1), .val (.ref b3), .val (.ref b4), .val (.ref b4), .unset] [])
      refine Runs.back (fun t k => XS.aload X11.here hx rfl (hb hby at_68) rfl rfl k) ?_
      show Runs _ _ _ _ T11 (mkF m 70 #[.val (.int p0), .val (.int p1), .val (.int p2), .val (.int p3), .val (.int la), .val (.int lb), .val (.int lc), .val (.ref b1), .val (.ref b3), .val (.ref b4), .val (.ref b4), .unset] [(.ref b4)])
      refine Runs.back (fun t k => XS.ifnonnullYes X11.here hx rfl (pc0 := 70) (pc' := 75) rfl (hb hby at_70) rfl (by decide) (by decide) k) ?_
      show Runs _ _ _ _ T11 (mkF m 75 #[.val (.int p0), .val (.int p1), .val (.int p2), .val (.int p3), .val (.int la), .val (.int lb), .val (.int lc), .val (.ref b1), .val (.ref b3), .val (.ref b4), .val (.ref b4), .unset] [])
      refine Runs.back (fun t k => XS.aload X11.here hx rfl (hb hby at_75) rfl rfl k) ?_
      show Runs _ _ _ _ T11 (mkF m 77 #[.val (.int p0), .val (.int p1), .val (.int p2), .val (.int p3), .val (.int la), .val (.int lb), .val (.int lc), .val (.ref b1), .val (.ref b3), .val (.ref b4), .val (.ref b4), .unset] [(.ref b3)])
      obtain ⟨cl12, Ar12, S12, Hs12⟩ := id f4_Arr_1
      refine Runs.back (fun t k => X11.arraylength hx (by rw [eq11]; exact Ar12.1) (State.isArrayOf_alike hZ.alike Ar12.2.1) (g := (mkF m 77 #[.val (.int p0), .val (.int p1), .val (.int p2), .val (.int p3), .val (.int la), .val (.int lb), .val (.int lc), .val (.ref b1), .val (.ref b3), .val (.ref b4), .val (.ref b4), .unset] [(.ref b3)])) rfl rfl (hb hby at_77) _ (by rw [S12, show (la.toNatClampNeg).toInt32 = la from z_la]; exact k)) ?_
      show Runs _ _ _ _ T11 (mkF m 78 #[.val (.int p0), .val (.int p1), .val (.int p2), .val (.int p3), .val (.int la), .val (.int lb), .val (.int lc), .val (.ref b1), .val (.ref b3), .val (.ref b4), .val (.ref b4), .unset] [(.int la)])
      refine Runs.back (fun t k => XS.iload X11.here hx rfl (hb hby at_78) rfl k) ?_
      show Runs _ _ _ _ T11 (mkF m 80 #[.val (.int p0), .val (.int p1), .val (.int p2), .val (.int p3), .val (.int la), .val (.int lb), .val (.int lc), .val (.ref b1), .val (.ref b3), .val (.ref b4), .val (.ref b4), .unset] [(.int la), (.int la)])
      refine Runs.back (fun t k => XS.icmpNo X11.here hx rfl (hb hby at_80) rfl (flt (show ¬ (la < la) from (by rw [lti]; omega))).1 k) ?_
      show Runs _ _ _ _ T11 (mkF m 83 #[.val (.int p0), .val (.int p1), .val (.int p2), .val (.int p3), .val (.int la), .val (.int lb), .val (.int lc), .val (.ref b1), .val (.ref b3), .val (.ref b4), .val (.ref b4), .unset] [])
      refine Runs.back (fun t k => XS.aload X11.here hx rfl (hb hby at_83) rfl rfl k) ?_
      show Runs _ _ _ _ T11 (mkF m 85 #[.val (.int p0), .val (.int p1), .val (.int p2), .val (.int p3), .val (.int la), .val (.int lb), .val (.int lc), .val (.ref b1), .val (.ref b3), .val (.ref b4), .val (.ref b4), .unset] [(.ref b4)])
      obtain ⟨cl13, Ar13, S13, Hs13⟩ := id iA4
      refine Runs.back (fun t k => X11.arraylength hx (by rw [eq11]; exact Ar13.1) (State.isArrayOf_alike hZ.alike Ar13.2.1) (g := (mkF m 85 #[.val (.int p0), .val (.int p1), .val (.int p2), .val (.int p3), .val (.int la), .val (.int lb), .val (.int lc), .val (.ref b1), .val (.ref b3), .val (.ref b4), .val (.ref b4), .unset] [(.ref b4)])) rfl rfl (hb hby at_85) _ (by rw [S13, show (lb.toNatClampNeg).toInt32 = lb from z_lb]; exact k)) ?_
      show Runs _ _ _ _ T11 (mkF m 86 #[.val (.int p0), .val (.int p1), .val (.int p2), .val (.int p3), .val (.int la), .val (.int lb), .val (.int lc), .val (.ref b1), .val (.ref b3), .val (.ref b4), .val (.ref b4), .unset] [(.int lb)])
      refine Runs.back (fun t k => XS.iload X11.here hx rfl (hb hby at_86) rfl k) ?_
      show Runs _ _ _ _ T11 (mkF m 88 #[.val (.int p0), .val (.int p1), .val (.int p2), .val (.int p3), .val (.int la), .val (.int lb), .val (.int lc), .val (.ref b1), .val (.ref b3), .val (.ref b4), .val (.ref b4), .unset] [(.int lb), (.int lb)])
      refine Runs.back (fun t k => XS.icmpNo X11.here hx rfl (hb hby at_88) rfl (flt (show ¬ (lb < lb) from (by rw [lti]; omega))).1 k) ?_
      show Runs _ _ _ _ T11 (mkF m 91 #[.val (.int p0), .val (.int p1), .val (.int p2), .val (.int p3), .val (.int la), .val (.int lb), .val (.int lc), .val (.ref b1), .val (.ref b3), .val (.ref b4), .val (.ref b4), .unset] [])
      refine Runs.back (fun t k => XS.aload X11.here hx rfl (hb hby at_91) rfl rfl k) ?_
      show Runs _ _ _ _ T11 (mkF m 93 #[.val (.int p0), .val (.int p1), .val (.int p2), .val (.int p3), .val (.int la), .val (.int lb), .val (.int lc), .val (.ref b1), .val (.ref b3), .val (.ref b4), .val (.ref b4), .unset] [(.ref b4)])
      obtain ⟨cl14, Ar14, S14, Hs14⟩ := id iA4
      refine Runs.back (fun t k => X11.arraylength hx (by rw [eq11]; exact Ar14.1) (State.isArrayOf_alike hZ.alike Ar14.2.1) (g := (mkF m 93 #[.val (.int p0), .val (.int p1), .val (.int p2), .val (.int p3), .val (.int la), .val (.int lb), .val (.int lc), .val (.ref b1), .val (.ref b3), .val (.ref b4), .val (.ref b4), .unset] [(.ref b4)])) rfl rfl (hb hby at_93) _ (by rw [S14, show (lb.toNatClampNeg).toInt32 = lb from z_lb]; exact k)) ?_
      show Runs _ _ _ _ T11 (mkF m 94 #[.val (.int p0), .val (.int p1), .val (.int p2), .val (.int p3), .val (.int la), .val (.int lb), .val (.int lc), .val (.ref b1), .val (.ref b3), .val (.ref b4), .val (.ref b4), .unset] [(.int lb)])
      refine Runs.back (fun t k => XS.iload X11.here hx rfl (hb hby at_94) rfl k) ?_
      show Runs _ _ _ _ T11 (mkF m 96 #[.val (.int p0), .val (.int p1), .val (.int p2), .val (.int p3), .val (.int la), .val (.int lb), .val (.int lc), .val (.ref b1), .val (.ref b3), .val (.ref b4), .val (.ref b4), .unset] [(.int lc), (.int lb)])
      refine Runs.back (fun t k => XS.icmpNo X11.here hx rfl (hb hby at_96) rfl (flt (show ¬ (lb < lc) from (by rw [lti]; omega))).1 k) ?_
      show Runs _ _ _ _ T11 (mkF m 99 #[.val (.int p0), .val (.int p1), .val (.int p2), .val (.int p3), .val (.int la), .val (.int lb), .val (.int lc), .val (.ref b1), .val (.ref b3), .val (.ref b4), .val (.ref b4), .unset] [])
      refine Runs.back (fun t k => XS.iconst X11.here hx rfl (hb hby at_99) k) ?_
      show Runs _ _ _ _ T11 (mkF m 100 #[.val (.int p0), .val (.int p1), .val (.int p2), .val (.int p3), .val (.int la), .val (.int lb), .val (.int lc), .val (.ref b1), .val (.ref b3), .val (.ref b4), .val (.ref b4), .unset] [(.int (1 : Int32))])
      refine Runs.back (fun t k => XS.goto X11.here hx rfl (pc0 := 100) (pc' := 104) rfl (hb hby at_100) (by decide) (by decide) k) ?_
      show Runs _ _ _ _ T11 (mkF m 104 #[.val (.int p0), .val (.int p1), .val (.int p2), .val (.int p3), .val (.int la), .val (.int lb), .val (.int lc), .val (.ref b1), .val (.ref b3), .val (.ref b4), .val (.ref b4), .unset] [(.int (1 : Int32))])
      refine Runs.back (fun t k => XS.istore X11.here hx rfl (hb hby at_104) rfl (l' := #[.val (.int p0), .val (.int p1), .val (.int p2), .val (.int p3), .val (.int la), .val (.int lb), .val (.int lc), .val (.ref b1), .val (.ref b3), .val (.ref b4), .val (.ref b4), .val (.int (1 : Int32))]) rfl k) ?_
      show Runs _ _ _ _ T11 (mkF m 106 #[.val (.int p0), .val (.int p1), .val (.int p2), .val (.int p3), .val (.int la), .val (.int lb), .val (.int lc), .val (.ref b1), .val (.ref b3), .val (.ref b4), .val (.ref b4), .val (.int (1 : Int32))] [])
      refine Runs.back (fun t k => XS.iload X11.here hx rfl (hb hby at_106) rfl k) ?_
      show Runs _ _ _ _ T11 (mkF m 108 #[.val (.int p0), .val (.int p1), .val (.int p2), .val (.int p3), .val (.int la), .val (.int lb), .val (.int lc), .val (.ref b1), .val (.ref b3), .val (.ref b4), .val (.ref b4), .val (.int (1 : Int32))] [(.int lb)])
      refine Runs.back (fun t k => XS.aload X11.here hx rfl (hb hby at_108) rfl rfl k) ?_
      show Runs _ _ _ _ T11 (mkF m 110 #[.val (.int p0), .val (.int p1), .val (.int p2), .val (.int p3), .val (.int la), .val (.int lb), .val (.int lc), .val (.ref b1), .val (.ref b3), .val (.ref b4), .val (.ref b4), .val (.int (1 : Int32))] [(.ref b3), (.int lb)])
      obtain ⟨cl15, Ar15, S15, Hs15⟩ := id f4_Arr_1
      refine Runs.back (fun t k => X11.arraylength hx (by rw [eq11]; exact Ar15.1) (State.isArrayOf_alike hZ.alike Ar15.2.1) (g := (mkF m 110 #[.val (.int p0), .val (.int p1), .val (.int p2), .val (.int p3), .val (.int la), .val (.int lb), .val (.int lc), .val (.ref b1), .val (.ref b3), .val (.ref b4), .val (.ref b4), .val (.int (1 : Int32))] [(.ref b3), (.int lb)])) rfl rfl (hb hby at_110) _ (by rw [S15, show (la.toNatClampNeg).toInt32 = la from z_la]; exact k)) ?_
      show Runs _ _ _ _ T11 (mkF m 111 #[.val (.int p0), .val (.int p1), .val (.int p2), .val (.int p3), .val (.int la), .val (.int lb), .val (.int lc), .val (.ref b1), .val (.ref b3), .val (.ref b4), .val (.ref b4), .val (.int (1 : Int32))] [(.int la), (.int lb)])
      refine Runs.back (fun t k => XS.icmpYes X11.here hx rfl (pc0 := 111) (pc' := 133) rfl (hb hby at_111) rfl (tlt (show la < lb from hG1)).2.2.1 (by decide) (by decide) k) ?_
      show Runs _ _ _ _ T11 (mkF m 133 #[.val (.int p0), .val (.int p1), .val (.int p2), .val (.int p3), .val (.int la), .val (.int lb), .val (.int lc), .val (.ref b1), .val (.ref b3), .val (.ref b4), .val (.ref b4), .val (.int (1 : Int32))] [])
      refine Runs.back (fun t k => XS.iload X11.here hx rfl (hb hby at_133) rfl k) ?_
      show Runs _ _ _ _ T11 (mkF m 135 #[.val (.int p0), .val (.int p1), .val (.int p2), .val (.int p3), .val (.int la), .val (.int lb), .val (.int lc), .val (.ref b1), .val (.ref b3), .val (.ref b4), .val (.ref b4), .val (.int (1 : Int32))] [(.int lc)])
      refine Runs.back (fun t k => XS.aload X11.here hx rfl (hb hby at_135) rfl rfl k) ?_
      show Runs _ _ _ _ T11 (mkF m 137 #[.val (.int p0), .val (.int p1), .val (.int p2), .val (.int p3), .val (.int la), .val (.int lb), .val (.int lc), .val (.ref b1), .val (.ref b3), .val (.ref b4), .val (.ref b4), .val (.int (1 : Int32))] [(.ref b4), (.int lc)])
      obtain ⟨cl16, Ar16, S16, Hs16⟩ := id iA4
      refine Runs.back (fun t k => X11.arraylength hx (by rw [eq11]; exact Ar16.1) (State.isArrayOf_alike hZ.alike Ar16.2.1) (g := (mkF m 137 #[.val (.int p0), .val (.int p1), .val (.int p2), .val (.int p3), .val (.int la), .val (.int lb), .val (.int lc), .val (.ref b1), .val (.ref b3), .val (.ref b4), .val (.ref b4), .val (.int (1 : Int32))] [(.ref b4), (.int lc)])) rfl rfl (hb hby at_137) _ (by rw [S16, show (lb.toNatClampNeg).toInt32 = lb from z_lb]; exact k)) ?_
      show Runs _ _ _ _ T11 (mkF m 138 #[.val (.int p0), .val (.int p1), .val (.int p2), .val (.int p3), .val (.int la), .val (.int lb), .val (.int lc), .val (.ref b1), .val (.ref b3), .val (.ref b4), .val (.ref b4), .val (.int (1 : Int32))] [(.int lb), (.int lc)])
      refine Runs.back (fun t k => XS.icmpNo X11.here hx rfl (hb hby at_138) rfl (flt (show ¬ (lb < lc) from hG2)).2.2.1 k) ?_
      show Runs _ _ _ _ T11 (mkF m 141 #[.val (.int p0), .val (.int p1), .val (.int p2), .val (.int p3), .val (.int la), .val (.int lb), .val (.int lc), .val (.ref b1), .val (.ref b3), .val (.ref b4), .val (.ref b4), .val (.int (1 : Int32))] [])
      refine Runs.back (fun t k => XS.iload X11.here hx rfl (hb hby at_141) rfl k) ?_
      show Runs _ _ _ _ T11 (mkF m 143 #[.val (.int p0), .val (.int p1), .val (.int p2), .val (.int p3), .val (.int la), .val (.int lb), .val (.int lc), .val (.ref b1), .val (.ref b3), .val (.ref b4), .val (.ref b4), .val (.int (1 : Int32))] [(.int (1 : Int32))])
      refine Runs.back (fun t k => XS.ifNo X11.here hx rfl (hb hby at_143) rfl ((if0 _ _).trans (feq (show ¬ ((1 : Int32) = (0 : Int32)) from (by decide))).1) k) ?_
      show Runs _ _ _ _ T11 (mkF m 146 #[.val (.int p0), .val (.int p1), .val (.int p2), .val (.int p3), .val (.int la), .val (.int lb), .val (.int lc), .val (.ref b1), .val (.ref b3), .val (.ref b4), .val (.ref b4), .val (.int (1 : Int32))] [])
      refine Runs.back (fun t k => XS.aload X11.here hx rfl (hb hby at_146) rfl rfl k) ?_
      show Runs _ _ _ _ T11 (mkF m 148 #[.val (.int p0), .val (.int p1), .val (.int p2), .val (.int p3), .val (.int la), .val (.int lb), .val (.int lc), .val (.ref b1), .val (.ref b3), .val (.ref b4), .val (.ref b4), .val (.int (1 : Int32))] [(.ref b4)])
      refine Runs.back (fun t k => XS.aload X11.here hx rfl (hb hby at_148) rfl rfl k) ?_
      show Runs _ _ _ _ T11 (mkF m 150 #[.val (.int p0), .val (.int p1), .val (.int p2), .val (.int p3), .val (.int la), .val (.int lb), .val (.int lc), .val (.ref b1), .val (.ref b3), .val (.ref b4), .val (.ref b4), .val (.int (1 : Int32))] [(.ref b4), (.ref b4)])
      refine Runs.back (fun t k => Jvm.RoadKit.acmp (g := (mkF m 150 #[.val (.int p0), .val (.int p1), .val (.int p2), .val (.int p3), .val (.int la), .val (.int lb), .val (.int lc), .val (.ref b1), .val (.ref b3), .val (.ref b4), .val (.ref b4), .val (.int (1 : Int32))] [(.ref b4), (.ref b4)])) X11 hx rfl rfl rfl (pc0 := 150) (pc' := 153) (same := true) rfl (hb hby at_150) rfl (decide_eq_true rfl) (by decide) (by decide) k) ?_
      show Runs _ _ _ _ T11 (mkF m 153 #[.val (.int p0), .val (.int p1), .val (.int p2), .val (.int p3), .val (.int la), .val (.int lb), .val (.int lc), .val (.ref b1), .val (.ref b3), .val (.ref b4), .val (.ref b4), .val (.int (1 : Int32))] [])
      refine Runs.back (fun t k => XS.iconst X11.here hx rfl (hb hby at_153) k) ?_
      show Runs _ _ _ _ T11 (mkF m 154 #[.val (.int p0), .val (.int p1), .val (.int p2), .val (.int p3), .val (.int la), .val (.int lb), .val (.int lc), .val (.ref b1), .val (.ref b3), .val (.ref b4), .val (.ref b4), .val (.int (1 : Int32))] [(.int (1 : Int32))])
      refine Runs.back (fun t k => XS.goto X11.here hx rfl (pc0 := 154) (pc' := 158) rfl (hb hby at_154) (by decide) (by decide) k) ?_
      show Runs _ _ _ _ T11 (mkF m 158 #[.val (.int p0), .val (.int p1), .val (.int p2), .val (.int p3), .val (.int la), .val (.int lb), .val (.int lc), .val (.ref b1), .val (.ref b3), .val (.ref b4), .val (.ref b4), .val (.int (1 : Int32))] [(.int (1 : Int32))])
      refine Runs.back (fun t k => XS.istore X11.here hx rfl (hb hby at_158) rfl (l' := #[.val (.int p0), .val (.int p1), .val (.int p2), .val (.int p3), .val (.int la), .val (.int lb), .val (.int lc), .val (.ref b1), .val (.ref b3), .val (.ref b4), .val (.ref b4), .val (.int (1 : Int32))]) rfl k) ?_
      show Runs _ _ _ _ T11 (mkF m 160 #[.val (.int p0), .val (.int p1), .val (.int p2), .val (.int p3), .val (.int la), .val (.int lb), .val (.int lc), .val (.ref b1), .val (.ref b3), .val (.ref b4), .val (.ref b4), .val (.int (1 : Int32))] [])
      refine Runs.back (fun t k => XS.iload X11.here hx rfl (hb hby at_160) rfl k) ?_
      show Runs _ _ _ _ T11 (mkF m 162 #[.val (.int p0), .val (.int p1), .val (.int p2), .val (.int p3), .val (.int la), .val (.int lb), .val (.int lc), .val (.ref b1), .val (.ref b3), .val (.ref b4), .val (.ref b4), .val (.int (1 : Int32))] [(.int (1 : Int32))])
      obtain ⟨fs, hr, hrun, hended, hW, hsame⟩ := X11.leave (v := some (.int (1 : Int32))) (fun h => by rw [Bd.returns] at h; cases h)
      exact ⟨_, _, (retN X11 hx (t := .boolean) Bd.returns (by simp) (hb hby at_162) hr), hrun, hended, _, _, rfl, ⟨rfl, N11⟩, ⟨_, rfl⟩, hW, hsame.mono (by decide) (by decide)⟩
  · have ihG1 := hG1
    rw [lti] at ihG1
    show Runs _ _ _ _ T3 (mkF m 40 #[.val (.int p0), .val (.int p1), .val (.int p2), .val (.int p3), .val (.int la), .val (.int lb), .val (.int lc), .val (.ref b1), .val (.ref b3), .unset, .unset, .unset] [])
    refine Runs.back (fun t k => XS.aload X3.here hx rfl (hb hby at_40) rfl rfl k) ?_
    show Runs _ _ _ _ T3 (mkF m 42 #[.val (.int p0), .val (.int p1), .val (.int p2), .val (.int p3), .val (.int la), .val (.int lb), .val (.int lc), .val (.ref b1), .val (.ref b3), .unset, .unset, .unset] [(.ref b1)])
    refine Runs.back (fun t k => XS.iload X3.here hx rfl (hb hby at_42) rfl k) ?_
    show Runs _ _ _ _ T3 (mkF m 44 #[.val (.int p0), .val (.int p1), .val (.int p2), .val (.int p3), .val (.int la), .val (.int lb), .val (.int lc), .val (.ref b1), .val (.ref b3), .unset, .unset, .unset] [(.int lb), (.ref b1)])
    obtain ⟨cq17, kq17, q17a, q17b, q17c⟩ := isOf hZ rfl iE3
    obtain ⟨_, _, ⟨T17, L17, k17, n17⟩, -, X17, ⟨Lc17, hQ17, l17, y17, z17⟩, st17⟩ := X3.virtualBack hx (y := (⟨"com/example/lacuna/lacuna/IndexStore$Run", "roomFor", "(I)[I"⟩ : MethodName)) (z := (⟨"com/example/lacuna/lacuna/IndexStore$Run", "roomFor", "(I)[I"⟩ : MethodName)) hown (mvT hZ (hw _ (List.mem_of_getElem? (i := 11) rfl))) (mvT hZ (hw _ (List.mem_of_getElem? (i := 12) rfl))) (notFace_of_selects (args := #[]) (mvT hZ (hw _ (List.mem_of_getElem? (i := 14) rfl)))) (mvT hZ (hw _ (List.mem_of_getElem? (i := 14) rfl))) (mvT hZ (hw _ (List.mem_of_getElem? (i := 13) rfl))) (by decide) (backOf (W := 0) (rm3k l Z a0 hw [] b1 lb b3 _ _ la T3.heap n0 (Z3) iE3 iF3 iA3 z_la hG1) hZ (hw _ (List.mem_of_getElem? (i := 15) rfl)) (hw _ (List.mem_of_getElem? (i := 2) rfl)) (by decide) (by decide)) q17a q17c (g := (mkF m 44 #[.val (.int p0), .val (.int p1), .val (.int p2), .val (.int p3), .val (.int la), .val (.int lb), .val (.int lc), .val (.ref b1), .val (.ref b3), .unset, .unset, .unset] [(.int lb), (.ref b1)])) rfl (by rw [hml]; rfl) (Steps.refl _) (argsL := [(.int lb)]) (rest := []) (lenOf pd0_1 rfl) rfl (by show 2 * 0 + _ ≤ _; exact Nat.le_of_eq rfl) (hb hby at_44) (fun _ _ => ⟨rfl, rfl, (by decide : 2 + 0 ≤ _), (by decide : 261 + 0 ≤ _)⟩)
    dsimp only [Pt.U, Pt.locs, Pt.cells, Pt.slots] at X17 l17 y17 z17 st17 hQ17
    subst l17 y17 z17
    obtain ⟨rfl, N17q, eq17⟩ := hQ17
    have N17 := Fr.app N3 N17q
    refine Runs.trans st17 ?_
    show Runs _ _ _ _ T17 (mkF m 47 #[.val (.int p0), .val (.int p1), .val (.int p2), .val (.int p3), .val (.int la), .val (.int lb), .val (.int lc), .val (.ref b1), .val (.ref b3), .unset, .unset, .unset] [(.ref b3)])
    refine Runs.back (fun t k => XS.astore X17.here hx rfl (hb hby at_47) rfl rfl (l' := #[.val (.int p0), .val (.int p1), .val (.int p2), .val (.int p3), .val (.int la), .val (.int lb), .val (.int lc), .val (.ref b1), .val (.ref b3), .val (.ref b3), .unset, .unset]) rfl k) ?_
    show Runs _ _ _ _ T17 (mkF m 49 #[.val (.int p0), .val (.int p1), .val (.int p2), .val (.int p3), .val (.int la), .val (.int lb), .val (.int lc), .val (.ref b1), .val (.ref b3), .val (.ref b3), .unset, .unset] [])
    by_cases hG2 : la < lc
    · have ihG2 := hG2
      rw [lti] at ihG2
      show Runs _ _ _ _ T17 (mkF m 49 #[.val (.int p0), .val (.int p1), .val (.int p2), .val (.int p3), .val (.int la), .val (.int lb), .val (.int lc), .val (.ref b1), .val (.ref b3), .val (.ref b3), .unset, .unset] [])
      refine Runs.back (fun t k => XS.aload X17.here hx rfl (hb hby at_49) rfl rfl k) ?_
      show Runs _ _ _ _ T17 (mkF m 51 #[.val (.int p0), .val (.int p1), .val (.int p2), .val (.int p3), .val (.int la), .val (.int lb), .val (.int lc), .val (.ref b1), .val (.ref b3), .val (.ref b3), .unset, .unset] [(.ref b1)])
      refine Runs.back (fun t k => XS.iload X17.here hx rfl (hb hby at_51) rfl k) ?_
      show Runs _ _ _ _ T17 (mkF m 53 #[.val (.int p0), .val (.int p1), .val (.int p2), .val (.int p3), .val (.int la), .val (.int lb), .val (.int lc), .val (.ref b1), .val (.ref b3), .val (.ref b3), .unset, .unset] [(.int lc), (.ref b1)])
      obtain ⟨cq18, kq18, q18a, q18b, q18c⟩ := isOf hZ eq17 iE3
      obtain ⟨_, _, ⟨T18, L18, k18, n18⟩, -, X18, ⟨Lc18, hQ18, l18, y18, z18⟩, st18⟩ := X17.virtualBack hx (y := (⟨"com/example/lacuna/lacuna/IndexStore$Run", "roomFor", "(I)[I"⟩ : MethodName)) (z := (⟨"com/example/lacuna/lacuna/IndexStore$Run", "roomFor", "(I)[I"⟩ : MethodName)) hown (mvT hZ (hw _ (List.mem_of_getElem? (i := 11) rfl))) (mvT hZ (hw _ (List.mem_of_getElem? (i := 12) rfl))) (notFace_of_selects (args := #[]) (mvT hZ (hw _ (List.mem_of_getElem? (i := 14) rfl)))) (mvT hZ (hw _ (List.mem_of_getElem? (i := 14) rfl))) (mvT hZ (hw _ (List.mem_of_getElem? (i := 13) rfl))) (by decide) (backOf (W := 0) (rm3g l Z a0 hw [] b1 lc b3 _ _ la T3.heap n0 (Z3) iE3 iF3 iA3 ne_b1_b3 z_la hG2 g_b1 hp_lc l_lc) hZ (hw _ (List.mem_of_getElem? (i := 15) rfl)) (hw _ (List.mem_of_getElem? (i := 2) rfl)) (by decide) (by decide)) q18a q18c (g := (mkF m 53 #[.val (.int p0), .val (.int p1), .val (.int p2), .val (.int p3), .val (.int la), .val (.int lb), .val (.int lc), .val (.ref b1), .val (.ref b3), .val (.ref b3), .unset, .unset] [(.int lc), (.ref b1)])) rfl (by rw [hml]; rfl) (Steps.refl _) (argsL := [(.int lc)]) (rest := []) (lenOf pd0_1 rfl) rfl (by show 2 * 0 + _ ≤ _; exact Nat.le_of_eq rfl) (hb hby at_53) (fun _ _ => ⟨rfl, eq17, (by decide : 2 + 1 ≤ _), (by decide : 261 + 255 ≤ _)⟩)
      dsimp only [Pt.U, Pt.locs, Pt.cells, Pt.slots] at X18 l18 y18 z18 st18 hQ18
      subst l18 y18 z18
      obtain ⟨b18, rfl, N18q, g_b18, sb18, K18, iE18, iF18, iA18⟩ := hQ18
      have N18 := Fr.app N17 N18q
      have ne_b1_b18 : b1 ≠ b18 := Nat.ne_of_lt (Nat.lt_of_lt_of_le iE3.lt sb18)
      have ne_b3_b18 : b3 ≠ b18 := Nat.ne_of_lt (Nat.lt_of_lt_of_le iA3.lt sb18)
      have f18_Exa_0 : Exa Z T18.heap b1 "com/example/lacuna/lacuna/IndexStore$Run" := iE3.keep K18
      have f18_Arr_1 : OArr Z T18.heap b3 .int la.toNatClampNeg (fun _ => (.int (0 : Int32))) := iA3.keep K18 (ninS (Ne.symm ne_b1_b3) nin0)
      have Z18 : n0 ≤ T18.heap.size := Nat.le_trans (Z3) K18.1
      refine Runs.trans st18 ?_
      show Runs _ _ _ _ T18 (mkF m 56 #[.val (.int p0), .val (.int p1), .val (.int p2), .val (.int p3), .val (.int la), .val (.int lb), .val (.int lc), .val (.ref b1), .val (.ref b3), .val (.ref b3), .unset, .unset] [(.ref b18)])
      refine Runs.back (fun t k => XS.astore X18.here hx rfl (hb hby at_56) rfl rfl (l' := #[.val (.int p0), .val (.int p1), .val (.int p2), .val (.int p3), .val (.int la), .val (.int lb), .val (.int lc), .val (.ref b1), .val (.ref b3), .val (.ref b3), .val (.ref b18), .unset]) rfl k) ?_
      show Runs _ _ _ _ T18 (mkF m 58 #[.val (.int p0), .val (.int p1), .val (.int p2), .val (.int p3), .val (.int la), .val (.int lb), .val (.int lc), .val (.ref b1), .val (.ref b3), .val (.ref b3), .val (.ref b18), .unset] [])
      refine Runs.back (fun t k => XS.aload X18.here hx rfl (hb hby at_58) rfl rfl k) ?_
      show Runs _ _ _ _ T18 (mkF m 60 #[.val (.int p0), .val (.int p1), .val (.int p2), .val (.int p3), .val (.int la), .val (.int lb), .val (.int lc), .val (.ref b1), .val (.ref b3), .val (.ref b3), .val (.ref b18), .unset] [(.ref b3)])
      refine Runs.back (fun t k => XS.ifnullNo X18.here hx rfl (hb hby at_60) rfl k) ?_
      show Runs _ _ _ _ T18 (mkF m 63 #[.val (.int p0), .val (.int p1), .val (.int p2), .val (.int p3), .val (.int la), .val (.int lb), .val (.int lc), .val (.ref b1), .val (.ref b3), .val (.ref b3), .val (.ref b18), .unset] [])
      refine Runs.back (fun t k => XS.aload X18.here hx rfl (hb hby at_63) rfl rfl k) ?_
      show Runs _ _ _ _ T18 (mkF m 65 #[.val (.int p0), .val (.int p1), .val (.int p2), .val (.int p3), .val (.int la), .val (.int lb), .val (.int lc), .val (.ref b1), .val (.ref b3), .val (.ref b3), .val (.ref b18), .unset] [(.ref b3)])
      refine Runs.back (fun t k => XS.ifnullNo X18.here hx rfl (hb hby at_65) rfl k) ?_
      show Runs _ _ _ _ T18 (mkF m 68 #[.val (.int p0), .val (.int p1), .val (.int p2), .val (.int p3), .val (.int la), .val (.int lb), .val (.int lc), .val (.ref b1), .val (.ref b3), .val (.ref b3), .val (.ref b18), .unset] [])
      refine Runs.back (fun t k => XS.aload X18.here hx rfl (hb hby at_68) rfl rfl k) ?_
      show Runs _ _ _ _ T18 (mkF m 70 #[.val (.int p0), .val (.int p1), .val (.int p2), .val (.int p3), .val (.int la), .val (.int lb), .val (.int lc), .val (.ref b1), .val (.ref b3), .val (.ref b3), .val (.ref b18), .unset] [(.ref b18)])
      refine Runs.back (fun t k => XS.ifnonnullYes X18.here hx rfl (pc0 := 70) (pc' := 75) rfl (hb hby at_70) rfl (by decide) (by decide) k) ?_
      show Runs _ _ _ _ T18 (mkF m 75 #[.val (.int p0), .val (.int p1), .val (.int p2), .val (.int p3), .val (.int la), .val (.int lb), .val (.int lc), .val (.ref b1), .val (.ref b3), .val (.ref b3), .val (.ref b18), .unset] [])
      refine Runs.back (fun t k => XS.aload X18.here hx rfl (hb hby at_75) rfl rfl k) ?_
      show Runs _ _ _ _ T18 (mkF m 77 #[.val (.int p0), .val (.int p1), .val (.int p2), .val (.int p3), .val (.int la), .val (.int lb), .val (.int lc), .val (.ref b1), .val (.ref b3), .val (.ref b3), .val (.ref b18), .unset] [(.ref b3)])
      obtain ⟨cl19, Ar19, S19, Hs19⟩ := id f18_Arr_1
      refine Runs.back (fun t k => X18.arraylength hx Ar19.1 (State.isArrayOf_alike hZ.alike Ar19.2.1) (g := (mkF m 77 #[.val (.int p0), .val (.int p1), .val (.int p2), .val (.int p3), .val (.int la), .val (.int lb), .val (.int lc), .val (.ref b1), .val (.ref b3), .val (.ref b3), .val (.ref b18), .unset] [(.ref b3)])) rfl rfl (hb hby at_77) _ (by rw [S19, show (la.toNatClampNeg).toInt32 = la from z_la]; exact k)) ?_
      show Runs _ _ _ _ T18 (mkF m 78 #[.val (.int p0), .val (.int p1), .val (.int p2), .val (.int p3), .val (.int la), .val (.int lb), .val (.int lc), .val (.ref b1), .val (.ref b3), .val (.ref b3), .val (.ref b18), .unset] [(.int la)])
      refine Runs.back (fun t k => XS.iload X18.here hx rfl (hb hby at_78) rfl k) ?_
      show Runs _ _ _ _ T18 (mkF m 80 #[.val (.int p0), .val (.int p1), .val (.int p2), .val (.int p3), .val (.int la), .val (.int lb), .val (.int lc), .val (.ref b1), .val (.ref b3), .val (.ref b3), .val (.ref b18), .unset] [(.int la), (.int la)])
      refine Runs.back (fun t k => XS.icmpNo X18.here hx rfl (hb hby at_80) rfl (flt (show ¬ (la < la) from (by rw [lti]; omega))).1 k) ?_
      show Runs _ _ _ _ T18 (mkF m 83 #[.val (.int p0), .val (.int p1), .val (.int p2), .val (.int p3), .val (.int la), .val (.int lb), .val (.int lc), .val (.ref b1), .val (.ref b3), .val (.ref b3), .val (.ref b18), .unset] [])
      refine Runs.back (fun t k => XS.aload X18.here hx rfl (hb hby at_83) rfl rfl k) ?_
      show Runs _ _ _ _ T18 (mkF m 85 #[.val (.int p0), .val (.int p1), .val (.int p2), .val (.int p3), .val (.int la), .val (.int lb), .val (.int lc), .val (.ref b1), .val (.ref b3), .val (.ref b3), .val (.ref b18), .unset] [(.ref b3)])
      obtain ⟨cl20, Ar20, S20, Hs20⟩ := id f18_Arr_1
      refine Runs.back (fun t k => X18.arraylength hx Ar20.1 (State.isArrayOf_alike hZ.alike Ar20.2.1) (g := (mkF m 85 #[.val (.int p0), .val (.int p1), .val (.int p2), .val (.int p3), .val (.int la), .val (.int lb), .val (.int lc), .val (.ref b1), .val (.ref b3), .val (.ref b3), .val (.ref b18), .unset] [(.ref b3)])) rfl rfl (hb hby at_85) _ (by rw [S20, show (la.toNatClampNeg).toInt32 = la from z_la]; exact k)) ?_
      show Runs _ _ _ _ T18 (mkF m 86 #[.val (.int p0), .val (.int p1), .val (.int p2), .val (.int p3), .val (.int la), .val (.int lb), .val (.int lc), .val (.ref b1), .val (.ref b3), .val (.ref b3), .val (.ref b18), .unset] [(.int la)])
      refine Runs.back (fun t k => XS.iload X18.here hx rfl (hb hby at_86) rfl k) ?_
      show Runs _ _ _ _ T18 (mkF m 88 #[.val (.int p0), .val (.int p1), .val (.int p2), .val (.int p3), .val (.int la), .val (.int lb), .val (.int lc), .val (.ref b1), .val (.ref b3), .val (.ref b3), .val (.ref b18), .unset] [(.int lb), (.int la)])
      refine Runs.back (fun t k => XS.icmpNo X18.here hx rfl (hb hby at_88) rfl (flt (show ¬ (la < lb) from (by rw [lti]; omega))).1 k) ?_
      show Runs _ _ _ _ T18 (mkF m 91 #[.val (.int p0), .val (.int p1), .val (.int p2), .val (.int p3), .val (.int la), .val (.int lb), .val (.int lc), .val (.ref b1), .val (.ref b3), .val (.ref b3), .val (.ref b18), .unset] [])
      refine Runs.back (fun t k => XS.aload X18.here hx rfl (hb hby at_91) rfl rfl k) ?_
      show Runs _ _ _ _ T18 (mkF m 93 #[.val (.int p0), .val (.int p1), .val (.int p2), .val (.int p3), .val (.int la), .val (.int lb), .val (.int lc), .val (.ref b1), .val (.ref b3), .val (.ref b3), .val (.ref b18), .unset] [(.ref b18)])
      obtain ⟨cl21, Ar21, S21, Hs21⟩ := id iA18
      refine Runs.back (fun t k => X18.arraylength hx Ar21.1 (State.isArrayOf_alike hZ.alike Ar21.2.1) (g := (mkF m 93 #[.val (.int p0), .val (.int p1), .val (.int p2), .val (.int p3), .val (.int la), .val (.int lb), .val (.int lc), .val (.ref b1), .val (.ref b3), .val (.ref b3), .val (.ref b18), .unset] [(.ref b18)])) rfl rfl (hb hby at_93) _ (by rw [S21, show (lc.toNatClampNeg).toInt32 = lc from z_lc]; exact k)) ?_
      show Runs _ _ _ _ T18 (mkF m 94 #[.val (.int p0), .val (.int p1), .val (.int p2), .val (.int p3), .val (.int la), .val (.int lb), .val (.int lc), .val (.ref b1), .val (.ref b3), .val (.ref b3), .val (.ref b18), .unset] [(.int lc)])
      refine Runs.back (fun t k => XS.iload X18.here hx rfl (hb hby at_94) rfl k) ?_
      show Runs _ _ _ _ T18 (mkF m 96 #[.val (.int p0), .val (.int p1), .val (.int p2), .val (.int p3), .val (.int la), .val (.int lb), .val (.int lc), .val (.ref b1), .val (.ref b3), .val (.ref b3), .val (.ref b18), .unset] [(.int lc), (.int lc)])
      refine Runs.back (fun t k => XS.icmpNo X18.here hx rfl (hb hby at_96) rfl (flt (show ¬ (lc < lc) from (by rw [lti]; omega))).1 k) ?_
      show Runs _ _ _ _ T18 (mkF m 99 #[.val (.int p0), .val (.int p1), .val (.int p2), .val (.int p3), .val (.int la), .val (.int lb), .val (.int lc), .val (.ref b1), .val (.ref b3), .val (.ref b3), .val (.ref b18), .unset] [])
      refine Runs.back (fun t k => XS.iconst X18.here hx rfl (hb hby at_99) k) ?_
      show Runs _ _ _ _ T18 (mkF m 100 #[.val (.int p0), .val (.int p1), .val (.int p2), .val (.int p3), .val (.int la), .val (.int lb), .val (.int lc), .val (.ref b1), .val (.ref b3), .val (.ref b3), .val (.ref b18), .unset] [(.int (1 : Int32))])
      refine Runs.back (fun t k => XS.goto X18.here hx rfl (pc0 := 100) (pc' := 104) rfl (hb hby at_100) (by decide) (by decide) k) ?_
      show Runs _ _ _ _ T18 (mkF m 104 #[.val (.int p0), .val (.int p1), .val (.int p2), .val (.int p3), .val (.int la), .val (.int lb), .val (.int lc), .val (.ref b1), .val (.ref b3), .val (.ref b3), .val (.ref b18), .unset] [(.int (1 : Int32))])
      refine Runs.back (fun t k => XS.istore X18.here hx rfl (hb hby at_104) rfl (l' := #[.val (.int p0), .val (.int p1), .val (.int p2), .val (.int p3), .val (.int la), .val (.int lb), .val (.int lc), .val (.ref b1), .val (.ref b3), .val (.ref b3), .val (.ref b18), .val (.int (1 : Int32))]) rfl k) ?_
      show Runs _ _ _ _ T18 (mkF m 106 #[.val (.int p0), .val (.int p1), .val (.int p2), .val (.int p3), .val (.int la), .val (.int lb), .val (.int lc), .val (.ref b1), .val (.ref b3), .val (.ref b3), .val (.ref b18), .val (.int (1 : Int32))] [])
      refine Runs.back (fun t k => XS.iload X18.here hx rfl (hb hby at_106) rfl k) ?_
      show Runs _ _ _ _ T18 (mkF m 108 #[.val (.int p0), .val (.int p1), .val (.int p2), .val (.int p3), .val (.int la), .val (.int lb), .val (.int lc), .val (.ref b1), .val (.ref b3), .val (.ref b3), .val (.ref b18), .val (.int (1 : Int32))] [(.int lb)])
      refine Runs.back (fun t k => XS.aload X18.here hx rfl (hb hby at_108) rfl rfl k) ?_
      show Runs _ _ _ _ T18 (mkF m 110 #[.val (.int p0), .val (.int p1), .val (.int p2), .val (.int p3), .val (.int la), .val (.int lb), .val (.int lc), .val (.ref b1), .val (.ref b3), .val (.ref b3), .val (.ref b18), .val (.int (1 : Int32))] [(.ref b3), (.int lb)])
      obtain ⟨cl22, Ar22, S22, Hs22⟩ := id f18_Arr_1
      refine Runs.back (fun t k => X18.arraylength hx Ar22.1 (State.isArrayOf_alike hZ.alike Ar22.2.1) (g := (mkF m 110 #[.val (.int p0), .val (.int p1), .val (.int p2), .val (.int p3), .val (.int la), .val (.int lb), .val (.int lc), .val (.ref b1), .val (.ref b3), .val (.ref b3), .val (.ref b18), .val (.int (1 : Int32))] [(.ref b3), (.int lb)])) rfl rfl (hb hby at_110) _ (by rw [S22, show (la.toNatClampNeg).toInt32 = la from z_la]; exact k)) ?_
      show Runs _ _ _ _ T18 (mkF m 111 #[.val (.int p0), .val (.int p1), .val (.int p2), .val (.int p3), .val (.int la), .val (.int lb), .val (.int lc), .val (.ref b1), .val (.ref b3), .val (.ref b3), .val (.ref b18), .val (.int (1 : Int32))] [(.int la), (.int lb)])
      refine Runs.back (fun t k => XS.icmpNo X18.here hx rfl (hb hby at_111) rfl (flt (show ¬ (la < lb) from hG1)).2.2.1 k) ?_
      show Runs _ _ _ _ T18 (mkF m 114 #[.val (.int p0), .val (.int p1), .val (.int p2), .val (.int p3), .val (.int la), .val (.int lb), .val (.int lc), .val (.ref b1), .val (.ref b3), .val (.ref b3), .val (.ref b18), .val (.int (1 : Int32))] [])
      refine Runs.back (fun t k => XS.iload X18.here hx rfl (hb hby at_114) rfl k) ?_
      show Runs _ _ _ _ T18 (mkF m 116 #[.val (.int p0), .val (.int p1), .val (.int p2), .val (.int p3), .val (.int la), .val (.int lb), .val (.int lc), .val (.ref b1), .val (.ref b3), .val (.ref b3), .val (.ref b18), .val (.int (1 : Int32))] [(.int (1 : Int32))])
      refine Runs.back (fun t k => XS.ifNo X18.here hx rfl (hb hby at_116) rfl ((if0 _ _).trans (feq (show ¬ ((1 : Int32) = (0 : Int32)) from (by decide))).1) k) ?_
      show Runs _ _ _ _ T18 (mkF m 119 #[.val (.int p0), .val (.int p1), .val (.int p2), .val (.int p3), .val (.int la), .val (.int lb), .val (.int lc), .val (.ref b1), .val (.ref b3), .val (.ref b3), .val (.ref b18), .val (.int (1 : Int32))] [])
      refine Runs.back (fun t k => XS.aload X18.here hx rfl (hb hby at_119) rfl rfl k) ?_
      show Runs _ _ _ _ T18 (mkF m 121 #[.val (.int p0), .val (.int p1), .val (.int p2), .val (.int p3), .val (.int la), .val (.int lb), .val (.int lc), .val (.ref b1), .val (.ref b3), .val (.ref b3), .val (.ref b18), .val (.int (1 : Int32))] [(.ref b3)])
      refine Runs.back (fun t k => XS.aload X18.here hx rfl (hb hby at_121) rfl rfl k) ?_
      show Runs _ _ _ _ T18 (mkF m 123 #[.val (.int p0), .val (.int p1), .val (.int p2), .val (.int p3), .val (.int la), .val (.int lb), .val (.int lc), .val (.ref b1), .val (.ref b3), .val (.ref b3), .val (.ref b18), .val (.int (1 : Int32))] [(.ref b3), (.ref b3)])
      refine Runs.back (fun t k => Jvm.RoadKit.acmp (g := (mkF m 123 #[.val (.int p0), .val (.int p1), .val (.int p2), .val (.int p3), .val (.int la), .val (.int lb), .val (.int lc), .val (.ref b1), .val (.ref b3), .val (.ref b3), .val (.ref b18), .val (.int (1 : Int32))] [(.ref b3), (.ref b3)])) X18 hx rfl rfl rfl (pc0 := 123) (pc' := 126) (same := true) rfl (hb hby at_123) rfl (decide_eq_true rfl) (by decide) (by decide) k) ?_
      show Runs _ _ _ _ T18 (mkF m 126 #[.val (.int p0), .val (.int p1), .val (.int p2), .val (.int p3), .val (.int la), .val (.int lb), .val (.int lc), .val (.ref b1), .val (.ref b3), .val (.ref b3), .val (.ref b18), .val (.int (1 : Int32))] [])
      refine Runs.back (fun t k => XS.iconst X18.here hx rfl (hb hby at_126) k) ?_
      show Runs _ _ _ _ T18 (mkF m 127 #[.val (.int p0), .val (.int p1), .val (.int p2), .val (.int p3), .val (.int la), .val (.int lb), .val (.int lc), .val (.ref b1), .val (.ref b3), .val (.ref b3), .val (.ref b18), .val (.int (1 : Int32))] [(.int (1 : Int32))])
      refine Runs.back (fun t k => XS.goto X18.here hx rfl (pc0 := 127) (pc' := 131) rfl (hb hby at_127) (by decide) (by decide) k) ?_
      show Runs _ _ _ _ T18 (mkF m 131 #[.val (.int p0), .val (.int p1), .val (.int p2), .val (.int p3), .val (.int la), .val (.int lb), .val (.int lc), .val (.ref b1), .val (.ref b3), .val (.ref b3), .val (.ref b18), .val (.int (1 : Int32))] [(.int (1 : Int32))])
      refine Runs.back (fun t k => XS.istore X18.here hx rfl (hb hby at_131) rfl (l' := #[.val (.int p0), .val (.int p1), .val (.int p2), .val (.int p3), .val (.int la), .val (.int lb), .val (.int lc), .val (.ref b1), .val (.ref b3), .val (.ref b3), .val (.ref b18), .val (.int (1 : Int32))]) rfl k) ?_
      show Runs _ _ _ _ T18 (mkF m 133 #[.val (.int p0), .val (.int p1), .val (.int p2), .val (.int p3), .val (.int la), .val (.int lb), .val (.int lc), .val (.ref b1), .val (.ref b3), .val (.ref b3), .val (.ref b18), .val (.int (1 : Int32))] [])
      refine Runs.back (fun t k => XS.iload X18.here hx rfl (hb hby at_133) rfl k) ?_
      show Runs _ _ _ _ T18 (mkF m 135 #[.val (.int p0), .val (.int p1), .val (.int p2), .val (.int p3), .val (.int la), .val (.int lb), .val (.int lc), .val (.ref b1), .val (.ref b3), .val (.ref b3), .val (.ref b18), .val (.int (1 : Int32))] [(.int lc)])
      refine Runs.back (fun t k => XS.aload X18.here hx rfl (hb hby at_135) rfl rfl k) ?_
      show Runs _ _ _ _ T18 (mkF m 137 #[.val (.int p0), .val (.int p1), .val (.int p2), .val (.int p3), .val (.int la), .val (.int lb), .val (.int lc), .val (.ref b1), .val (.ref b3), .val (.ref b3), .val (.ref b18), .val (.int (1 : Int32))] [(.ref b3), (.int lc)])
      obtain ⟨cl23, Ar23, S23, Hs23⟩ := id f18_Arr_1
      refine Runs.back (fun t k => X18.arraylength hx Ar23.1 (State.isArrayOf_alike hZ.alike Ar23.2.1) (g := (mkF m 137 #[.val (.int p0), .val (.int p1), .val (.int p2), .val (.int p3), .val (.int la), .val (.int lb), .val (.int lc), .val (.ref b1), .val (.ref b3), .val (.ref b3), .val (.ref b18), .val (.int (1 : Int32))] [(.ref b3), (.int lc)])) rfl rfl (hb hby at_137) _ (by rw [S23, show (la.toNatClampNeg).toInt32 = la from z_la]; exact k)) ?_
      show Runs _ _ _ _ T18 (mkF m 138 #[.val (.int p0), .val (.int p1), .val (.int p2), .val (.int p3), .val (.int la), .val (.int lb), .val (.int lc), .val (.ref b1), .val (.ref b3), .val (.ref b3), .val (.ref b18), .val (.int (1 : Int32))] [(.int la), (.int lc)])
      refine Runs.back (fun t k => XS.icmpYes X18.here hx rfl (pc0 := 138) (pc' := 160) rfl (hb hby at_138) rfl (tlt (show la < lc from hG2)).2.2.1 (by decide) (by decide) k) ?_
      show Runs _ _ _ _ T18 (mkF m 160 #[.val (.int p0), .val (.int p1), .val (.int p2), .val (.int p3), .val (.int la), .val (.int lb), .val (.int lc), .val (.ref b1), .val (.ref b3), .val (.ref b3), .val (.ref b18), .val (.int (1 : Int32))] [])
      refine Runs.back (fun t k => XS.iload X18.here hx rfl (hb hby at_160) rfl k) ?_
      show Runs _ _ _ _ T18 (mkF m 162 #[.val (.int p0), .val (.int p1), .val (.int p2), .val (.int p3), .val (.int la), .val (.int lb), .val (.int lc), .val (.ref b1), .val (.ref b3), .val (.ref b3), .val (.ref b18), .val (.int (1 : Int32))] [(.int (1 : Int32))])
      obtain ⟨fs, hr, hrun, hended, hW, hsame⟩ := X18.leave (v := some (.int (1 : Int32))) (fun h => by rw [Bd.returns] at h; cases h)
      exact ⟨_, _, (retN X18 hx (t := .boolean) Bd.returns (by simp) (hb hby at_162) hr), hrun, hended, _, _, rfl, ⟨rfl, N18⟩, ⟨_, rfl⟩, hW, hsame.mono (by decide) (by decide)⟩
    · have ihG2 := hG2
      rw [lti] at ihG2
      show Runs _ _ _ _ T17 (mkF m 49 #[.val (.int p0), .val (.int p1), .val (.int p2), .val (.int p3), .val (.int la), .val (.int lb), .val (.int lc), .val (.ref b1), .val (.ref b3), .val (.ref b3), .unset, .unset] [])
      refine Runs.back (fun t k => XS.aload X17.here hx rfl (hb hby at_49) rfl rfl k) ?_
      show Runs _ _ _ _ T17 (mkF m 51 #[.val (.int p0), .val (.int p1), .val (.int p2), .val (.int p3), .val (.int la), .val (.int lb), .val (.int lc), .val (.ref b1), .val (.ref b3), .val (.ref b3), .unset, .unset] [(.ref b1)])
      refine Runs.back (fun t k => XS.iload X17.here hx rfl (hb hby at_51) rfl k) ?_
      show Runs _ _ _ _ T17 (mkF m 53 #[.val (.int p0), .val (.int p1), .val (.int p2), .val (.int p3), .val (.int la), .val (.int lb), .val (.int lc), .val (.ref b1), .val (.ref b3), .val (.ref b3), .unset, .unset] [(.int lc), (.ref b1)])
      obtain ⟨cq24, kq24, q24a, q24b, q24c⟩ := isOf hZ eq17 iE3
      obtain ⟨_, _, ⟨T24, L24, k24, n24⟩, -, X24, ⟨Lc24, hQ24, l24, y24, z24⟩, st24⟩ := X17.virtualBack hx (y := (⟨"com/example/lacuna/lacuna/IndexStore$Run", "roomFor", "(I)[I"⟩ : MethodName)) (z := (⟨"com/example/lacuna/lacuna/IndexStore$Run", "roomFor", "(I)[I"⟩ : MethodName)) hown (mvT hZ (hw _ (List.mem_of_getElem? (i := 11) rfl))) (mvT hZ (hw _ (List.mem_of_getElem? (i := 12) rfl))) (notFace_of_selects (args := #[]) (mvT hZ (hw _ (List.mem_of_getElem? (i := 14) rfl)))) (mvT hZ (hw _ (List.mem_of_getElem? (i := 14) rfl))) (mvT hZ (hw _ (List.mem_of_getElem? (i := 13) rfl))) (by decide) (backOf (W := 0) (rm3k l Z a0 hw [] b1 lc b3 _ _ la T3.heap n0 (Z3) iE3 iF3 iA3 z_la hG2) hZ (hw _ (List.mem_of_getElem? (i := 15) rfl)) (hw _ (List.mem_of_getElem? (i := 2) rfl)) (by decide) (by decide)) q24a q24c (g := (mkF m 53 #[.val (.int p0), .val (.int p1), .val (.int p2), .val (.int p3), .val (.int la), .val (.int lb), .val (.int lc), .val (.ref b1), .val (.ref b3), .val (.ref b3), .unset, .unset] [(.int lc), (.ref b1)])) rfl (by rw [hml]; rfl) (Steps.refl _) (argsL := [(.int lc)]) (rest := []) (lenOf pd0_1 rfl) rfl (by show 2 * 0 + _ ≤ _; exact Nat.le_of_eq rfl) (hb hby at_53) (fun _ _ => ⟨rfl, eq17, (by decide : 2 + 0 ≤ _), (by decide : 261 + 0 ≤ _)⟩)
      dsimp only [Pt.U, Pt.locs, Pt.cells, Pt.slots] at X24 l24 y24 z24 st24 hQ24
      subst l24 y24 z24
      obtain ⟨rfl, N24q, eq24⟩ := hQ24
      have N24 := Fr.app N17 N24q
      refine Runs.trans st24 ?_
      show Runs _ _ _ _ T24 (mkF m 56 #[.val (.int p0), .val (.int p1), .val (.int p2), .val (.int p3), .val (.int la), .val (.int lb), .val (.int lc), .val (.ref b1), .val (.ref b3), .val (.ref b3), .unset, .unset] [(.ref b3)])
      refine Runs.back (fun t k => XS.astore X24.here hx rfl (hb hby at_56) rfl rfl (l' := #[.val (.int p0), .val (.int p1), .val (.int p2), .val (.int p3), .val (.int la), .val (.int lb), .val (.int lc), .val (.ref b1), .val (.ref b3), .val (.ref b3), .val (.ref b3), .unset]) rfl k) ?_
      show Runs _ _ _ _ T24 (mkF m 58 #[.val (.int p0), .val (.int p1), .val (.int p2), .val (.int p3), .val (.int la), .val (.int lb), .val (.int lc), .val (.ref b1), .val (.ref b3), .val (.ref b3), .val (.ref b3), .unset] [])
      refine Runs.back (fun t k => XS.aload X24.here hx rfl (hb hby at_58) rfl rfl k) ?_
      show Runs _ _ _ _ T24 (mkF m 60 #[.val (.int p0), .val (.int p1), .val (.int p2), .val (.int p3), .val (.int la), .val (.int lb), .val (.int lc), .val (.ref b1), .val (.ref b3), .val (.ref b3), .val (.ref b3), .unset] [(.ref b3)])
      refine Runs.back (fun t k => XS.ifnullNo X24.here hx rfl (hb hby at_60) rfl k) ?_
      show Runs _ _ _ _ T24 (mkF m 63 #[.val (.int p0), .val (.int p1), .val (.int p2), .val (.int p3), .val (.int la), .val (.int lb), .val (.int lc), .val (.ref b1), .val (.ref b3), .val (.ref b3), .val (.ref b3), .unset] [])
      refine Runs.back (fun t k => XS.aload X24.here hx rfl (hb hby at_63) rfl rfl k) ?_
      show Runs _ _ _ _ T24 (mkF m 65 #[.val (.int p0), .val (.int p1), .val (.int p2), .val (.int p3), .val (.int la), .val (.int lb), .val (.int lc), .val (.ref b1), .val (.ref b3), .val (.ref b3), .val (.ref b3), .unset] [(.ref b3)])
      refine Runs.back (fun t k => XS.ifnullNo X24.here hx rfl (hb hby at_65) rfl k) ?_
      show Runs _ _ _ _ T24 (mkF m 68 #[.val (.int p0), .val (.int p1), .val (.int p2), .val (.int p3), .val (.int la), .val (.int lb), .val (.int lc), .val (.ref b1), .val (.ref b3), .val (.ref b3), .val (.ref b3), .unset] [])
      refine Runs.back (fun t k => XS.aload X24.here hx rfl (hb hby at_68) rfl rfl k) ?_
      show Runs _ _ _ _ T24 (mkF m 70 #[.val (.int p0), .val (.int p1), .val (.int p2), .val (.int p3), .val (.int la), .val (.int lb), .val (.int lc), .val (.ref b1), .val (.ref b3), .val (.ref b3), .val (.ref b3), .unset] [(.ref b3)])
      refine Runs.back (fun t k => XS.ifnonnullYes X24.here hx rfl (pc0 := 70) (pc' := 75) rfl (hb hby at_70) rfl (by decide) (by decide) k) ?_
      show Runs _ _ _ _ T24 (mkF m 75 #[.val (.int p0), .val (.int p1), .val (.int p2), .val (.int p3), .val (.int la), .val (.int lb), .val (.int lc), .val (.ref b1), .val (.ref b3), .val (.ref b3), .val (.ref b3), .unset] [])
      refine Runs.back (fun t k => XS.aload X24.here hx rfl (hb hby at_75) rfl rfl k) ?_
      show Runs _ _ _ _ T24 (mkF m 77 #[.val (.int p0), .val (.int p1), .val (.int p2), .val (.int p3), .val (.int la), .val (.int lb), .val (.int lc), .val (.ref b1), .val (.ref b3), .val (.ref b3), .val (.ref b3), .unset] [(.ref b3)])
      obtain ⟨cl25, Ar25, S25, Hs25⟩ := id iA3
      refine Runs.back (fun t k => X24.arraylength hx (by rw [eq24]; exact Ar25.1) (State.isArrayOf_alike hZ.alike Ar25.2.1) (g := (mkF m 77 #[.val (.int p0), .val (.int p1), .val (.int p2), .val (.int p3), .val (.int la), .val (.int lb), .val (.int lc), .val (.ref b1), .val (.ref b3), .val (.ref b3), .val (.ref b3), .unset] [(.ref b3)])) rfl rfl (hb hby at_77) _ (by rw [S25, show (la.toNatClampNeg).toInt32 = la from z_la]; exact k)) ?_
      show Runs _ _ _ _ T24 (mkF m 78 #[.val (.int p0), .val (.int p1), .val (.int p2), .val (.int p3), .val (.int la), .val (.int lb), .val (.int lc), .val (.ref b1), .val (.ref b3), .val (.ref b3), .val (.ref b3), .unset] [(.int la)])
      refine Runs.back (fun t k => XS.iload X24.here hx rfl (hb hby at_78) rfl k) ?_
      show Runs _ _ _ _ T24 (mkF m 80 #[.val (.int p0), .val (.int p1), .val (.int p2), .val (.int p3), .val (.int la), .val (.int lb), .val (.int lc), .val (.ref b1), .val (.ref b3), .val (.ref b3), .val (.ref b3), .unset] [(.int la), (.int la)])
      refine Runs.back (fun t k => XS.icmpNo X24.here hx rfl (hb hby at_80) rfl (flt (show ¬ (la < la) from (by rw [lti]; omega))).1 k) ?_
      show Runs _ _ _ _ T24 (mkF m 83 #[.val (.int p0), .val (.int p1), .val (.int p2), .val (.int p3), .val (.int la), .val (.int lb), .val (.int lc), .val (.ref b1), .val (.ref b3), .val (.ref b3), .val (.ref b3), .unset] [])
      refine Runs.back (fun t k => XS.aload X24.here hx rfl (hb hby at_83) rfl rfl k) ?_
      show Runs _ _ _ _ T24 (mkF m 85 #[.val (.int p0), .val (.int p1), .val (.int p2), .val (.int p3), .val (.int la), .val (.int lb), .val (.int lc), .val (.ref b1), .val (.ref b3), .val (.ref b3), .val (.ref b3), .unset] [(.ref b3)])
      obtain ⟨cl26, Ar26, S26, Hs26⟩ := id iA3
      refine Runs.back (fun t k => X24.arraylength hx (by rw [eq24]; exact Ar26.1) (State.isArrayOf_alike hZ.alike Ar26.2.1) (g := (mkF m 85 #[.val (.int p0), .val (.int p1), .val (.int p2), .val (.int p3), .val (.int la), .val (.int lb), .val (.int lc), .val (.ref b1), .val (.ref b3), .val (.ref b3), .val (.ref b3), .unset] [(.ref b3)])) rfl rfl (hb hby at_85) _ (by rw [S26, show (la.toNatClampNeg).toInt32 = la from z_la]; exact k)) ?_
      show Runs _ _ _ _ T24 (mkF m 86 #[.val (.int p0), .val (.int p1), .val (.int p2), .val (.int p3), .val (.int la), .val (.int lb), .val (.int lc), .val (.ref b1), .val (.ref b3), .val (.ref b3), .val (.ref b3), .unset] [(.int la)])
      refine Runs.back (fun t k => XS.iload X24.here hx rfl (hb hby at_86) rfl k) ?_
      show Runs _ _ _ _ T24 (mkF m 88 #[.val (.int p0), .val (.int p1), .val (.int p2), .val (.int p3), .val (.int la), .val (.int lb), .val (.int lc), .val (.ref b1), .val (.ref b3), .val (.ref b3), .val (.ref b3), .unset] [(.int lb), (.int la)])
      refine Runs.back (fun t k => XS.icmpNo X24.here hx rfl (hb hby at_88) rfl (flt (show ¬ (la < lb) from (by rw [lti]; omega))).1 k) ?_
      show Runs _ _ _ _ T24 (mkF m 91 #[.val (.int p0), .val (.int p1), .val (.int p2), .val (.int p3), .val (.int la), .val (.int lb), .val (.int lc), .val (.ref b1), .val (.ref b3), .val (.ref b3), .val (.ref b3), .unset] [])
      refine Runs.back (fun t k => XS.aload X24.here hx rfl (hb hby at_91) rfl rfl k) ?_
      show Runs _ _ _ _ T24 (mkF m 93 #[.val (.int p0), .val (.int p1), .val (.int p2), .val (.int p3), .val (.int la), .val (.int lb), .val (.int lc), .val (.ref b1), .val (.ref b3), .val (.ref b3), .val (.ref b3), .unset] [(.ref b3)])
      obtain ⟨cl27, Ar27, S27, Hs27⟩ := id iA3
      refine Runs.back (fun t k => X24.arraylength hx (by rw [eq24]; exact Ar27.1) (State.isArrayOf_alike hZ.alike Ar27.2.1) (g := (mkF m 93 #[.val (.int p0), .val (.int p1), .val (.int p2), .val (.int p3), .val (.int la), .val (.int lb), .val (.int lc), .val (.ref b1), .val (.ref b3), .val (.ref b3), .val (.ref b3), .unset] [(.ref b3)])) rfl rfl (hb hby at_93) _ (by rw [S27, show (la.toNatClampNeg).toInt32 = la from z_la]; exact k)) ?_
      show Runs _ _ _ _ T24 (mkF m 94 #[.val (.int p0), .val (.int p1), .val (.int p2), .val (.int p3), .val (.int la), .val (.int lb), .val (.int lc), .val (.ref b1), .val (.ref b3), .val (.ref b3), .val (.ref b3), .unset] [(.int la)])
      refine Runs.back (fun t k => XS.iload X24.here hx rfl (hb hby at_94) rfl k) ?_
      show Runs _ _ _ _ T24 (mkF m 96 #[.val (.int p0), .val (.int p1), .val (.int p2), .val (.int p3), .val (.int la), .val (.int lb), .val (.int lc), .val (.ref b1), .val (.ref b3), .val (.ref b3), .val (.ref b3), .unset] [(.int lc), (.int la)])
      refine Runs.back (fun t k => XS.icmpNo X24.here hx rfl (hb hby at_96) rfl (flt (show ¬ (la < lc) from (by rw [lti]; omega))).1 k) ?_
      show Runs _ _ _ _ T24 (mkF m 99 #[.val (.int p0), .val (.int p1), .val (.int p2), .val (.int p3), .val (.int la), .val (.int lb), .val (.int lc), .val (.ref b1), .val (.ref b3), .val (.ref b3), .val (.ref b3), .unset] [])
      refine Runs.back (fun t k => XS.iconst X24.here hx rfl (hb hby at_99) k) ?_
      show Runs _ _ _ _ T24 (mkF m 100 #[.val (.int p0), .val (.int p1), .val (.int p2), .val (.int p3), .val (.int la), .val (.int lb), .val (.int lc), .val (.ref b1), .val (.ref b3), .val (.ref b3), .val (.ref b3), .unset] [(.int (1 : Int32))])
      refine Runs.back (fun t k => XS.goto X24.here hx rfl (pc0 := 100) (pc' := 104) rfl (hb hby at_100) (by decide) (by decide) k) ?_
      show Runs _ _ _ _ T24 (mkF m 104 #[.val (.int p0), .val (.int p1), .val (.int p2), .val (.int p3), .val (.int la), .val (.int lb), .val (.int lc), .val (.ref b1), .val (.ref b3), .val (.ref b3), .val (.ref b3), .unset] [(.int (1 : Int32))])
      refine Runs.back (fun t k => XS.istore X24.here hx rfl (hb hby at_104) rfl (l' := #[.val (.int p0), .val (.int p1), .val (.int p2), .val (.int p3), .val (.int la), .val (.int lb), .val (.int lc), .val (.ref b1), .val (.ref b3), .val (.ref b3), .val (.ref b3), .val (.int (1 : Int32))]) rfl k) ?_
      show Runs _ _ _ _ T24 (mkF m 106 #[.val (.int p0), .val (.int p1), .val (.int p2), .val (.int p3), .val (.int la), .val (.int lb), .val (.int lc), .val (.ref b1), .val (.ref b3), .val (.ref b3), .val (.ref b3), .val (.int (1 : Int32))] [])
      refine Runs.back (fun t k => XS.iload X24.here hx rfl (hb hby at_106) rfl k) ?_
      show Runs _ _ _ _ T24 (mkF m 108 #[.val (.int p0), .val (.int p1), .val (.int p2), .val (.int p3), .val (.int la), .val (.int lb), .val (.int lc), .val (.ref b1), .val (.ref b3), .val (.ref b3), .val (.ref b3), .val (.int (1 : Int32))] [(.int lb)])
      refine Runs.back (fun t k => XS.aload X24.here hx rfl (hb hby at_108) rfl rfl k) ?_
      show Runs _ _ _ _ T24 (mkF m 110 #[.val (.int p0), .val (.int p1), .val (.int p2), .val (.int p3), .val (.int la), .val (.int lb), .val (.int lc), .val (.ref b1), .val (.ref b3), .val (.ref b3), .val (.ref b3), .val (.int (1 : Int32))] [(.ref b3), (.int lb)])
      obtain ⟨cl28, Ar28, S28, Hs28⟩ := id iA3
      refine Runs.back (fun t k => X24.arraylength hx (by rw [eq24]; exact Ar28.1) (State.isArrayOf_alike hZ.alike Ar28.2.1) (g := (mkF m 110 #[.val (.int p0), .val (.int p1), .val (.int p2), .val (.int p3), .val (.int la), .val (.int lb), .val (.int lc), .val (.ref b1), .val (.ref b3), .val (.ref b3), .val (.ref b3), .val (.int (1 : Int32))] [(.ref b3), (.int lb)])) rfl rfl (hb hby at_110) _ (by rw [S28, show (la.toNatClampNeg).toInt32 = la from z_la]; exact k)) ?_
      show Runs _ _ _ _ T24 (mkF m 111 #[.val (.int p0), .val (.int p1), .val (.int p2), .val (.int p3), .val (.int la), .val (.int lb), .val (.int lc), .val (.ref b1), .val (.ref b3), .val (.ref b3), .val (.ref b3), .val (.int (1 : Int32))] [(.int la), (.int lb)])
      refine Runs.back (fun t k => XS.icmpNo X24.here hx rfl (hb hby at_111) rfl (flt (show ¬ (la < lb) from hG1)).2.2.1 k) ?_
      show Runs _ _ _ _ T24 (mkF m 114 #[.val (.int p0), .val (.int p1), .val (.int p2), .val (.int p3), .val (.int la), .val (.int lb), .val (.int lc), .val (.ref b1), .val (.ref b3), .val (.ref b3), .val (.ref b3), .val (.int (1 : Int32))] [])
      refine Runs.back (fun t k => XS.iload X24.here hx rfl (hb hby at_114) rfl k) ?_
      show Runs _ _ _ _ T24 (mkF m 116 #[.val (.int p0), .val (.int p1), .val (.int p2), .val (.int p3), .val (.int la), .val (.int lb), .val (.int lc), .val (.ref b1), .val (.ref b3), .val (.ref b3), .val (.ref b3), .val (.int (1 : Int32))] [(.int (1 : Int32))])
      refine Runs.back (fun t k => XS.ifNo X24.here hx rfl (hb hby at_116) rfl ((if0 _ _).trans (feq (show ¬ ((1 : Int32) = (0 : Int32)) from (by decide))).1) k) ?_
      show Runs _ _ _ _ T24 (mkF m 119 #[.val (.int p0), .val (.int p1), .val (.int p2), .val (.int p3), .val (.int la), .val (.int lb), .val (.int lc), .val (.ref b1), .val (.ref b3), .val (.ref b3), .val (.ref b3), .val (.int (1 : Int32))] [])
      refine Runs.back (fun t k => XS.aload X24.here hx rfl (hb hby at_119) rfl rfl k) ?_
      show Runs _ _ _ _ T24 (mkF m 121 #[.val (.int p0), .val (.int p1), .val (.int p2), .val (.int p3), .val (.int la), .val (.int lb), .val (.int lc), .val (.ref b1), .val (.ref b3), .val (.ref b3), .val (.ref b3), .val (.int (1 : Int32))] [(.ref b3)])
      refine Runs.back (fun t k => XS.aload X24.here hx rfl (hb hby at_121) rfl rfl k) ?_
      show Runs _ _ _ _ T24 (mkF m 123 #[.val (.int p0), .val (.int p1), .val (.int p2), .val (.int p3), .val (.int la), .val (.int lb), .val (.int lc), .val (.ref b1), .val (.ref b3), .val (.ref b3), .val (.ref b3), .val (.int (1 : Int32))] [(.ref b3), (.ref b3)])
      refine Runs.back (fun t k => Jvm.RoadKit.acmp (g := (mkF m 123 #[.val (.int p0), .val (.int p1), .val (.int p2), .val (.int p3), .val (.int la), .val (.int lb), .val (.int lc), .val (.ref b1), .val (.ref b3), .val (.ref b3), .val (.ref b3), .val (.int (1 : Int32))] [(.ref b3), (.ref b3)])) X24 hx rfl rfl rfl (pc0 := 123) (pc' := 126) (same := true) rfl (hb hby at_123) rfl (decide_eq_true rfl) (by decide) (by decide) k) ?_
      show Runs _ _ _ _ T24 (mkF m 126 #[.val (.int p0), .val (.int p1), .val (.int p2), .val (.int p3), .val (.int la), .val (.int lb), .val (.int lc), .val (.ref b1), .val (.ref b3), .val (.ref b3), .val (.ref b3), .val (.int (1 : Int32))] [])
      refine Runs.back (fun t k => XS.iconst X24.here hx rfl (hb hby at_126) k) ?_
      show Runs _ _ _ _ T24 (mkF m 127 #[.val (.int p0), .val (.int p1), .val (.int p2), .val (.int p3), .val (.int la), .val (.int lb), .val (.int lc), .val (.ref b1), .val (.ref b3), .val (.ref b3), .val (.ref b3), .val (.int (1 : Int32))] [(.int (1 : Int32))])
      refine Runs.back (fun t k => XS.goto X24.here hx rfl (pc0 := 127) (pc' := 131) rfl (hb hby at_127) (by decide) (by decide) k) ?_
      show Runs _ _ _ _ T24 (mkF m 131 #[.val (.int p0), .val (.int p1), .val (.int p2), .val (.int p3), .val (.int la), .val (.int lb), .val (.int lc), .val (.ref b1), .val (.ref b3), .val (.ref b3), .val (.ref b3), .val (.int (1 : Int32))] [(.int (1 : Int32))])
      refine Runs.back (fun t k => XS.istore X24.here hx rfl (hb hby at_131) rfl (l' := #[.val (.int p0), .val (.int p1), .val (.int p2), .val (.int p3), .val (.int la), .val (.int lb), .val (.int lc), .val (.ref b1), .val (.ref b3), .val (.ref b3), .val (.ref b3), .val (.int (1 : Int32))]) rfl k) ?_
      show Runs _ _ _ _ T24 (mkF m 133 #[.val (.int p0), .val (.int p1), .val (.int p2), .val (.int p3), .val (.int la), .val (.int lb), .val (.int lc), .val (.ref b1), .val (.ref b3), .val (.ref b3), .val (.ref b3), .val (.int (1 : Int32))] [])
      refine Runs.back (fun t k => XS.iload X24.here hx rfl (hb hby at_133) rfl k) ?_
      show Runs _ _ _ _ T24 (mkF m 135 #[.val (.int p0), .val (.int p1), .val (.int p2), .val (.int p3), .val (.int la), .val (.int lb), .val (.int lc), .val (.ref b1), .val (.ref b3), .val (.ref b3), .val (.ref b3), .val (.int (1 : Int32))] [(.int lc)])
      refine Runs.back (fun t k => XS.aload X24.here hx rfl (hb hby at_135) rfl rfl k) ?_
      show Runs _ _ _ _ T24 (mkF m 137 #[.val (.int p0), .val (.int p1), .val (.int p2), .val (.int p3), .val (.int la), .val (.int lb), .val (.int lc), .val (.ref b1), .val (.ref b3), .val (.ref b3), .val (.ref b3), .val (.int (1 : Int32))] [(.ref b3), (.int lc)])
      obtain ⟨cl29, Ar29, S29, Hs29⟩ := id iA3
      refine Runs.back (fun t k => X24.arraylength hx (by rw [eq24]; exact Ar29.1) (State.isArrayOf_alike hZ.alike Ar29.2.1) (g := (mkF m 137 #[.val (.int p0), .val (.int p1), .val (.int p2), .val (.int p3), .val (.int la), .val (.int lb), .val (.int lc), .val (.ref b1), .val (.ref b3), .val (.ref b3), .val (.ref b3), .val (.int (1 : Int32))] [(.ref b3), (.int lc)])) rfl rfl (hb hby at_137) _ (by rw [S29, show (la.toNatClampNeg).toInt32 = la from z_la]; exact k)) ?_
      show Runs _ _ _ _ T24 (mkF m 138 #[.val (.int p0), .val (.int p1), .val (.int p2), .val (.int p3), .val (.int la), .val (.int lb), .val (.int lc), .val (.ref b1), .val (.ref b3), .val (.ref b3), .val (.ref b3), .val (.int (1 : Int32))] [(.int la), (.int lc)])
      refine Runs.back (fun t k => XS.icmpNo X24.here hx rfl (hb hby at_138) rfl (flt (show ¬ (la < lc) from hG2)).2.2.1 k) ?_
      show Runs _ _ _ _ T24 (mkF m 141 #[.val (.int p0), .val (.int p1), .val (.int p2), .val (.int p3), .val (.int la), .val (.int lb), .val (.int lc), .val (.ref b1), .val (.ref b3), .val (.ref b3), .val (.ref b3), .val (.int (1 : Int32))] [])
      refine Runs.back (fun t k => XS.iload X24.here hx rfl (hb hby at_141) rfl k) ?_
      show Runs _ _ _ _ T24 (mkF m 143 #[.val (.int p0), .val (.int p1), .val (.int p2), .val (.int p3), .val (.int la), .val (.int lb), .val (.int lc), .val (.ref b1), .val (.ref b3), .val (.ref b3), .val (.ref b3), .val (.int (1 : Int32))] [(.int (1 : Int32))])
      refine Runs.back (fun t k => XS.ifNo X24.here hx rfl (hb hby at_143) rfl ((if0 _ _).trans (feq (show ¬ ((1 : Int32) = (0 : Int32)) from (by decide))).1) k) ?_
      show Runs _ _ _ _ T24 (mkF m 146 #[.val (.int p0), .val (.int p1), .val (.int p2), .val (.int p3), .val (.int la), .val (.int lb), .val (.int lc), .val (.ref b1), .val (.ref b3), .val (.ref b3), .val (.ref b3), .val (.int (1 : Int32))] [])
      refine Runs.back (fun t k => XS.aload X24.here hx rfl (hb hby at_146) rfl rfl k) ?_
      show Runs _ _ _ _ T24 (mkF m 148 #[.val (.int p0), .val (.int p1), .val (.int p2), .val (.int p3), .val (.int la), .val (.int lb), .val (.int lc), .val (.ref b1), .val (.ref b3), .val (.ref b3), .val (.ref b3), .val (.int (1 : Int32))] [(.ref b3)])
      refine Runs.back (fun t k => XS.aload X24.here hx rfl (hb hby at_148) rfl rfl k) ?_
      show Runs _ _ _ _ T24 (mkF m 150 #[.val (.int p0), .val (.int p1), .val (.int p2), .val (.int p3), .val (.int la), .val (.int lb), .val (.int lc), .val (.ref b1), .val (.ref b3), .val (.ref b3), .val (.ref b3), .val (.int (1 : Int32))] [(.ref b3), (.ref b3)])
      refine Runs.back (fun t k => Jvm.RoadKit.acmp (g := (mkF m 150 #[.val (.int p0), .val (.int p1), .val (.int p2), .val (.int p3), .val (.int la), .val (.int lb), .val (.int lc), .val (.ref b1), .val (.ref b3), .val (.ref b3), .val (.ref b3), .val (.int (1 : Int32))] [(.ref b3), (.ref b3)])) X24 hx rfl rfl rfl (pc0 := 150) (pc' := 153) (same := true) rfl (hb hby at_150) rfl (decide_eq_true rfl) (by decide) (by decide) k) ?_
      show Runs _ _ _ _ T24 (mkF m 153 #[.val (.int p0), .val (.int p1), .val (.int p2), .val (.int p3), .val (.int la), .val (.int lb), .val (.int lc), .val (.ref b1), .val (.ref b3), .val (.ref b3), .val (.ref b3), .val (.int (1 : Int32))] [])
      refine Runs.back (fun t k => XS.iconst X24.here hx rfl (hb hby at_153) k) ?_
      show Runs _ _ _ _ T24 (mkF m 154 #[.val (.int p0), .val (.int p1), .val (.int p2), .val (.int p3), .val (.int la), .val (.int lb), .val (.int lc), .val (.ref b1), .val (.ref b3), .val (.ref b3), .val (.ref b3), .val (.int (1 : Int32))] [(.int (1 : Int32))])
      refine Runs.back (fun t k => XS.goto X24.here hx rfl (pc0 := 154) (pc' := 158) rfl (hb hby at_154) (by decide) (by decide) k) ?_
      show Runs _ _ _ _ T24 (mkF m 158 #[.val (.int p0), .val (.int p1), .val (.int p2), .val (.int p3), .val (.int la), .val (.int lb), .val (.int lc), .val (.ref b1), .val (.ref b3), .val (.ref b3), .val (.ref b3), .val (.int (1 : Int32))] [(.int (1 : Int32))])
      refine Runs.back (fun t k => XS.istore X24.here hx rfl (hb hby at_158) rfl (l' := #[.val (.int p0), .val (.int p1), .val (.int p2), .val (.int p3), .val (.int la), .val (.int lb), .val (.int lc), .val (.ref b1), .val (.ref b3), .val (.ref b3), .val (.ref b3), .val (.int (1 : Int32))]) rfl k) ?_
      show Runs _ _ _ _ T24 (mkF m 160 #[.val (.int p0), .val (.int p1), .val (.int p2), .val (.int p3), .val (.int la), .val (.int lb), .val (.int lc), .val (.ref b1), .val (.ref b3), .val (.ref b3), .val (.ref b3), .val (.int (1 : Int32))] [])
      refine Runs.back (fun t k => XS.iload X24.here hx rfl (hb hby at_160) rfl k) ?_
      show Runs _ _ _ _ T24 (mkF m 162 #[.val (.int p0), .val (.int p1), .val (.int p2), .val (.int p3), .val (.int la), .val (.int lb), .val (.int lc), .val (.ref b1), .val (.ref b3), .val (.ref b3), .val (.ref b3), .val (.int (1 : Int32))] [(.int (1 : Int32))])
      obtain ⟨fs, hr, hrun, hended, hW, hsame⟩ := X24.leave (v := some (.int (1 : Int32))) (fun h => by rw [Bd.returns] at h; cases h)
      exact ⟨_, _, (retN X24 hx (t := .boolean) Bd.returns (by simp) (hb hby at_162) hr), hrun, hended, _, _, rfl, ⟨rfl, N24⟩, ⟨_, rfl⟩, hW, hsame.mono (by decide) (by decide)⟩
set_option maxRecDepth 65536 in
set_option maxHeartbeats 40000000 in
theorem comes_1 {Post : Tables → Env → Array Value → State → Outcome → State → Prop} (hpost : ∀ tb e args s v u, (limb_1_1.after args s (.returned v) u = true ∧ limb_1_2.after args s (.returned v) u = true ∧ True) → FrameEnd s (.returned v) u (Jvm.fieldLocs frame_1_writes args s ++ Jvm.arrayLocs frame_1_arrays args s ++ Jvm.staticLocs frame_1_statics s) 16 1600 → Post tb e args s (.returned v) u) :
    ArmFor flags0 classFile x code maxLocals ret World_1 tables_1 room_1 Calls_1 rest_1 Pre_1 Post := by
  intro l hfl _ _ p e ha hc hk s m args below hf hA hF happ hP
  obtain ⟨hcalls, hrest, hpre⟩ := hP
  obtain ⟨-, -, -, hnamed, -, -, -, hat⟩ := (Spec.applies_iff hf).mp happ
  obtain ⟨hg, hn⟩ := and_e (Cond.before_iff.mp (show (Jvm.Cond.and given_1 narrow_1).before args s = true from hpre))
  obtain ⟨g0, gr0⟩ := and_e hg
  obtain ⟨g1, gr1⟩ := and_e gr0
  obtain ⟨g2, gr2⟩ := and_e gr1
  obtain ⟨g3, gr3⟩ := and_e gr2
  obtain ⟨w0, w1, w2, w3, rfl⟩ : ∃ w0 w1 w2 w3 : Value, args = #[w0, w1, w2, w3] := by
    have hs : args.size = 4 := by simpa [Cond.value, given_1] using g0
    obtain ⟨L⟩ := args
    match L, hs with
    | [w0, w1, w2, w3], _ => exact ⟨w0, w1, w2, w3, rfl⟩
  have hw := fun d (hd : d ∈ tables_1) => atoms_spec (ws := Jvm.Cond.code x code maxLocals ret :: tables_1) hat d (List.mem_cons_of_mem _ hd)
  obtain ⟨i0, ei0⟩ := is_v g1
  obtain rfl : w0 = (.int i0) := Option.some.inj ei0
  obtain ⟨i1, ei1⟩ := is_v g2
  obtain rfl : w1 = (.int i1) := Option.some.inj ei1
  obtain ⟨i2, ei2⟩ := is_v g3
  obtain rfl : w2 = (.int i2) := Option.some.inj ei2
  obtain ⟨i3, ei3⟩ := is_v gr3
  obtain rfl : w3 = (.int i3) := Option.some.inj ei3
  obtain ⟨n, o, h1, h2, h3, _, L, rfl, ⟨rfl, N⟩, hq⟩ := rm0 l s _ hw tables_1 i0 i1 i2 i3 s.heap s.heap.size (Nat.le_refl _) p e ha hc hk s m _ below hf ((Spec.applies_iff_loose hf).mp happ).1 ⟨rfl, State.Warmed39.refl s, rfl⟩ trivial
  refine ⟨n, _, h1, h2, h3, hpost _ _ _ _ _ _ ⟨Cond.after_iff.mpr rfl, Cond.after_iff.mpr (eq_i res_at (Term.int_eval (1)) rfl), trivial⟩ ⟨hq.1, hq.2.1, (hq.2.2.sift fun y hy => Or.inr (N y hy)).mono (by decide) (by decide)⟩⟩
theorem main_1_1 : Claimed_1_1 := comes_1 fun _ _ _ _ _ _ h hF => ⟨h.1, hF⟩
theorem main_1_2 : Claimed_1_2 := comes_1 fun _ _ _ _ _ _ h hF => ⟨h.2.1, hF⟩
end Jvm.Pilot.@@N@@
namespace Jvm.Pilot.@@N@@
open Jvm Jvm.ClassFile Sem Op Lib Jvm.Free Jvm.Stand Jvm.Pilot.@@N@@.Jvm.D
/-! MADE BY PROGRAM (witnessworld.py) out of the Statement's table words and the real class files: 9 classes; the members and pool entries that the words name. The judged class is class 1, her method 1. -/
namespace start1
open Jvm.ClassFile
def u (s : String) : CpInfo := .utf8 (stringToUtf16 s)
/-- a pool by its gaps: so many unusable entries, then the entry; so many at the end -/
def gap : Nat → List CpInfo → List CpInfo
  | 0, r => r
  | n + 1, r => .unusable :: gap n r
def poolList (es : List (Nat × CpInfo)) (last : Nat) : List CpInfo := es.foldr (fun e r => gap e.1 (e.2 :: r)) (gap last [])
def pool (es : List (Nat × CpInfo)) (last : Nat) : Array CpInfo := ⟨poolList es last⟩
def fileOf (pool : Array CpInfo) (this : Nat) (attrs : Array Attribute := #[]) (ms : Array MethodInfo := #[]) (fl : Nat := 33) (sup : Nat := 0) (ifs : Array Nat := #[]) (fds : Array FieldInfo := #[]) : ClassFile where
  minorVersion := 0
  majorVersion := 65
  constantPool := pool
  accessFlags := fl
  thisClass := this
  superClass := sup
  interfaces := ifs
  fields := fds
  methods := ms
  attributes := attrs
def plain (name : String) (sup : Option ClassId) : Class where
  name := name
  kind := .ordinary
  loader := none
  accessFlags := 33
  super := sup
  interfaces := #[]
  cf := none
  fields := #[]
  methods := #[]
  instanceTypes := #[]
  staticTypes := #[]
  resolved := #[]
  callSites := []
  init := .initialized
  statics := none
  mirror := none

def pool0 : Array CpInfo := pool [(5, u "<init>"), (0, u "()V"), (1, .class_ 10), (1, u "java/lang/Object")] 113

def k0c0 : Code := { maxStack := 0, maxLocals := 1, code := object_method_1_code, exceptionTable := #[], attributes := #[] }
def k0m0 : Method := { name := "<init>", desc := "()V", sig := { parameters := [], returnType := none }, accessFlags := 1, code := some k0c0 }
/-- java/lang/Object -/
def k0 : Class := { plain "java/lang/Object" none with
  accessFlags := 33
  interfaces := #[]
  cf := some (fileOf pool0 8 #[] #[{ accessFlags := 1, nameIndex := 5, descriptorIndex := 6, attributes := #[] }] 33 0 #[] #[])
  fields := #[]
  methods := #[k0m0]
  instanceTypes := #[]
  staticTypes := #[]
  resolved := Array.replicate 124 none
  statics := none }

def pool1 : Array CpInfo := pool [(2, .class_ 4), (1, u "java/lang/Object"), (0, u "<init>"), (0, u "()V"), (0, .class_ 8), (0, u "com/example/lacuna/lacuna/IndexStore$Run"), (0, .methodref 7 10), (0, .nameAndType 5 11), (0, u "(I)V"), (0, .methodref 7 13), (0, .nameAndType 14 15), (0, u "roomFor"), (0, u "(I)[I"), (0, .class_ 17), (0, u "com/example/lacuna/lacuna/IndexStoreRoomForPinLaw"), (2, u "law"), (0, u "(IIII)Z")] 9

def k1m0 : Method := { name := "<init>", desc := "()V", sig := { parameters := [], returnType := none }, accessFlags := 1, code := none }
def k1c1 : Code := { maxStack := 3, maxLocals := 12, code := code, exceptionTable := #[], attributes := #[] }
def k1m1 : Method := { name := "law", desc := "(IIII)Z", sig := { parameters := [.int, .int, .int, .int], returnType := some .boolean }, accessFlags := 9, code := some k1c1 }
/-- com/example/lacuna/lacuna/IndexStoreRoomForPinLaw -/
def k1 : Class := { plain "com/example/lacuna/lacuna/IndexStoreRoomForPinLaw" (some 0) with
  accessFlags := 49
  interfaces := #[]
  cf := some (fileOf pool1 16 #[] #[{ accessFlags := 1, nameIndex := 5, descriptorIndex := 6, attributes := #[] }, { accessFlags := 9, nameIndex := 20, descriptorIndex := 21, attributes := #[] }] 49 2 #[] #[])
  fields := #[]
  methods := #[k1m0, k1m1]
  instanceTypes := #[]
  staticTypes := #[]
  resolved := Array.replicate 31 none
  statics := none }

def pool2 : Array CpInfo := pool [(1, .methodref 2 3), (0, .class_ 4), (0, .nameAndType 5 6), (0, u "java/lang/Object"), (0, u "<init>"), (0, u "()V"), (0, .fieldref 8 9), (0, .class_ 10), (0, .nameAndType 11 12), (0, u "com/example/lacuna/lacuna/IndexStore$Run"), (0, u "longest"), (0, u "I"), (0, .fieldref 8 14), (0, .nameAndType 15 16), (0, u "copies"), (0, u "[I"), (0, u "PIECE"), (2, u "low"), (0, u "offset"), (0, u "end"), (0, u "high"), (0, u "J"), (0, u "(I)V"), (2, u "roomFor"), (0, u "(I)[I"), (4, .class_ 35), (0, u "com/example/lacuna/lacuna/IndexStore")] 2

def k2c0 : Code := { maxStack := 2, maxLocals := 2, code := prog_70_method_1_code, exceptionTable := #[], attributes := #[] }
def k2m0 : Method := { name := "<init>", desc := "(I)V", sig := { parameters := [.int], returnType := none }, accessFlags := 0, code := some k2c0 }
def k2c1 : Code := { maxStack := 2, maxLocals := 2, code := prog_70_method_2_code, exceptionTable := #[], attributes := #[] }
def k2m1 : Method := { name := "roomFor", desc := "(I)[I", sig := { parameters := [.int], returnType := some (.array .int) }, accessFlags := 0, code := some k2c1 }
/-- com/example/lacuna/lacuna/IndexStore$Run -/
def k2 : Class := { plain "com/example/lacuna/lacuna/IndexStore$Run" (some 0) with
  accessFlags := 48
  interfaces := #[]
  cf := some (fileOf pool2 8 #[.nestHost 34] #[{ accessFlags := 0, nameIndex := 5, descriptorIndex := 25, attributes := #[] }, { accessFlags := 0, nameIndex := 28, descriptorIndex := 29, attributes := #[] }] 48 2 #[] #[{ accessFlags := 24, nameIndex := 17, descriptorIndex := 12, attributes := #[] }, { accessFlags := 16, nameIndex := 11, descriptorIndex := 12, attributes := #[] }, { accessFlags := 0, nameIndex := 20, descriptorIndex := 16, attributes := #[] }, { accessFlags := 0, nameIndex := 21, descriptorIndex := 12, attributes := #[] }, { accessFlags := 0, nameIndex := 22, descriptorIndex := 12, attributes := #[] }, { accessFlags := 0, nameIndex := 23, descriptorIndex := 24, attributes := #[] }, { accessFlags := 2, nameIndex := 15, descriptorIndex := 16, attributes := #[] }])
  fields := #[{ name := "PIECE", type := .int, accessFlags := 24, slot := 0, constantValue := 0 }, { name := "longest", type := .int, accessFlags := 16, slot := 0, constantValue := 0 }, { name := "low", type := (.array .int), accessFlags := 0, slot := 1, constantValue := 0 }, { name := "offset", type := .int, accessFlags := 0, slot := 2, constantValue := 0 }, { name := "end", type := .int, accessFlags := 0, slot := 3, constantValue := 0 }, { name := "high", type := .long, accessFlags := 0, slot := 4, constantValue := 0 }, { name := "copies", type := (.array .int), accessFlags := 2, slot := 5, constantValue := 0 }]
  methods := #[k2m0, k2m1]
  instanceTypes := #[.int, (.array .int), .int, .int, .long, (.array .int)]
  staticTypes := #[.int]
  resolved := Array.replicate 38 none
  statics := none }

def pool3 : Array CpInfo := pool [(1, u "java/lang/Cloneable"), (0, .class_ 1), (0, u "java/lang/Object"), (0, .class_ 3)] 3

/-- java/lang/Cloneable -/
def k3 : Class := { plain "java/lang/Cloneable" (some 0) with
  accessFlags := 1537
  interfaces := #[]
  cf := some (fileOf pool3 2 #[] #[] 1537 4 #[] #[])
  fields := #[]
  methods := #[]
  instanceTypes := #[]
  staticTypes := #[]
  resolved := Array.replicate 8 none
  statics := none }

def pool4 : Array CpInfo := pool [(1, u "java/io/Serializable"), (0, .class_ 1), (0, u "java/lang/Object"), (0, .class_ 3)] 3

/-- java/io/Serializable -/
def k4 : Class := { plain "java/io/Serializable" (some 0) with
  accessFlags := 1537
  interfaces := #[]
  cf := some (fileOf pool4 2 #[] #[] 1537 4 #[] #[])
  fields := #[]
  methods := #[]
  instanceTypes := #[]
  staticTypes := #[]
  resolved := Array.replicate 8 none
  statics := none }

/-- the primitive byte -/
def k5 : Class := { plain "byte" none with kind := .primitive 'B', accessFlags := 0x411 }
/-- [B -/
def k6 : Class := { plain "[B" (some 0) with kind := .array 5 .byte, interfaces := #[3, 4], accessFlags := 1041 }

/-- the primitive int -/
def k7 : Class := { plain "int" none with kind := .primitive 'I', accessFlags := 0x411 }
/-- [I -/
def k8 : Class := { plain "[I" (some 0) with kind := .array 7 .int, interfaces := #[3, 4], accessFlags := 1041 }

def heap : Heap := #[]
def classes : Array Class := #[k0, k1, k2, k3, k4, k5, k6, k7, k8]
def interned : List (Array UInt16 × Addr) := []
def slotsUsed : Nat := 0
def theMethod : MethodId := ⟨1, 1⟩
def args0 : Array Value := #[.int 5, .int 6, .int 7, .int 8]
def aboutOver (below : List Frame) : State where
  vm := { classes := classes, interned := interned.toArray }
  heap := heap
  slotsUsed := slotsUsed
  threads := #[{ frames := .invoking theMethod args0 :: below }]
def below0 : List Frame := [.native { method := ⟨0, 0⟩, args := #[] }]
def about1 : State := aboutOver below0
def p0 : Program := .bare "" "" ""
def e0 : Env := launch0.env 0 0 0
theorem w_frames : about1.frames = Frame.invoking theMethod args0 :: below0 := rfl
set_option maxRecDepth 65536 in
theorem w_args : argsFit about1.vm theMethod args0 = true := by decide +kernel
set_option maxRecDepth 65536 in
theorem w_heap : heapFits about1 = true := by decide +kernel
set_option maxRecDepth 65536 in
theorem w_runnable : about1.curStatus? = some .runnable := by decide +kernel
set_option maxRecDepth 65536 in
theorem w_alone : about1.alone = true := by decide +kernel
set_option maxRecDepth 65536 in
theorem w_named : about1.methodNamed? x = some theMethod := by decide +kernel
set_option maxRecDepth 65536 in
theorem w_hears : about1.hears theMethod below0 = true := by decide +kernel
set_option maxRecDepth 65536 in
theorem w_ripe : about1.ripe theMethod args0 below0 = true := by decide +kernel
theorem w_running : about1.status = .running := rfl
set_option maxRecDepth 65536 in
theorem w_room : about1.hasRoom e0.platform room_1 = true :=
  launch0.hasRoom_least _ room_1 (by decide +kernel) (by decide +kernel) (by decide +kernel) (by decide +kernel) (by decide +kernel) (by decide +kernel)
theorem allAtoms_all (ts : List Jvm.Cond) (a : Array Jvm.Value) (st : Jvm.State) : (allAtoms ts).before a st = ts.all (fun c => c.before a st) := by
  induction ts with
  | nil => rfl
  | cons c t ih =>
    show (Jvm.Cond.and c (allAtoms t)).before a st = _
    rw [Jvm.Cond.before_and, ih, List.all_cons]
def words1 : List Jvm.Cond := Jvm.Cond.code x code maxLocals ret :: tables_1
/-- a 'code' word, met by the world's own term for the bytes: nothing is compared byte by byte -/
theorem code_word {y : MethodName} {bytes : ByteArray} {mx : Nat} {rt : Option FieldType} {a : Array Value} {s : State} {m : MethodId} {meth : Method} {c : Code} (h1 : s.methodNamed? y = some m) (h2 : s.vm.method? m = some meth) (h3 : meth.code = some c) (h4 : c.code = bytes)
    (h5 : (c.maxLocals == mx && c.exceptionTable.isEmpty && decide (c.maxStack ≤ mostOperands) && decide (meth.sig.returnType = rt) && !meth.locks && decide (parseMethodDescriptor y.desc = some meth.sig)) = true) : (Jvm.Cond.code y bytes mx rt).before a s = true := by
  simp only [Bool.and_eq_true, beq_iff_eq, Bool.not_eq_true', decide_eq_true_eq] at h5
  obtain ⟨⟨⟨⟨⟨g1, g2⟩, g3⟩, g4⟩, g5⟩, g6⟩ := h5
  simp [Cond.before, Cond.holds, Cond.value, h1, h2, h3, h4, g1, g2, g3, g4, g5, g6]
def isCode : Jvm.Cond → Bool
  | .code _ _ _ _ => true
  | _ => false
theorem all_split {L : List Jvm.Cond} {P : Jvm.Cond → Bool} (h1 : L.all (fun c => isCode c || P c) = true) (h2 : ∀ c ∈ L.filter isCode, P c = true) : L.all P = true := by
  refine List.all_eq_true.mpr fun c hc => ?_
  have h := List.all_eq_true.mp h1 c hc
  rcases Bool.eq_false_or_eq_true (isCode c) with hi | hi
  · exact h2 c (List.mem_filter.mpr ⟨hc, hi⟩)
  · simpa [hi] using h
set_option maxRecDepth 65536 in
theorem w_c0 : (Jvm.Cond.code x code maxLocals ret).before args0 about1 = true := code_word (m := ⟨1, 1⟩) (meth := k1m1) (c := k1c1) (by decide +kernel) rfl rfl rfl (by decide +kernel)
set_option maxRecDepth 65536 in
theorem w_c1 : (Jvm.Cond.code ({ cls := "com/example/lacuna/lacuna/IndexStore$Run", name := "<init>", desc := "(I)V" } : Jvm.MethodName) prog_70_method_1_code (2 : Nat) (Option.none : Option Jvm.ClassFile.FieldType)).before args0 about1 = true := code_word (m := ⟨2, 0⟩) (meth := k2m0) (c := k2c0) (by decide +kernel) rfl rfl rfl (by decide +kernel)
set_option maxRecDepth 65536 in
theorem w_c2 : (Jvm.Cond.code ({ cls := "java/lang/Object", name := "<init>", desc := "()V" } : Jvm.MethodName) object_method_1_code (1 : Nat) (Option.none : Option Jvm.ClassFile.FieldType)).before args0 about1 = true := code_word (m := ⟨0, 0⟩) (meth := k0m0) (c := k0c0) (by decide +kernel) rfl rfl rfl (by decide +kernel)
set_option maxRecDepth 65536 in
theorem w_c3 : (Jvm.Cond.code ({ cls := "com/example/lacuna/lacuna/IndexStore$Run", name := "roomFor", desc := "(I)[I" } : Jvm.MethodName) prog_70_method_2_code (2 : Nat) (Option.some (Jvm.ClassFile.FieldType.array Jvm.ClassFile.FieldType.int))).before args0 about1 = true := code_word (m := ⟨2, 1⟩) (meth := k2m1) (c := k2c1) (by decide +kernel) rfl rfl rfl (by decide +kernel)
def codes1 : List Jvm.Cond := [Jvm.Cond.code x code maxLocals ret, Jvm.Cond.code ({ cls := "com/example/lacuna/lacuna/IndexStore$Run", name := "<init>", desc := "(I)V" } : Jvm.MethodName) prog_70_method_1_code (2 : Nat) (Option.none : Option Jvm.ClassFile.FieldType), Jvm.Cond.code ({ cls := "java/lang/Object", name := "<init>", desc := "()V" } : Jvm.MethodName) object_method_1_code (1 : Nat) (Option.none : Option Jvm.ClassFile.FieldType), Jvm.Cond.code ({ cls := "com/example/lacuna/lacuna/IndexStore$Run", name := "roomFor", desc := "(I)[I" } : Jvm.MethodName) prog_70_method_2_code (2 : Nat) (Option.some (Jvm.ClassFile.FieldType.array Jvm.ClassFile.FieldType.int))]
set_option maxRecDepth 65536 in
theorem codes_eq : words1.filter isCode = codes1 := rfl
theorem w_codes : ∀ c ∈ words1.filter isCode, c.before args0 about1 = true := by
  rw [codes_eq]
  intro c hc
  simp only [codes1, List.mem_cons, List.not_mem_nil, or_false] at hc
  rcases hc with rfl | rfl | rfl | rfl
  · exact w_c0
  · exact w_c1
  · exact w_c2
  · exact w_c3
set_option maxRecDepth 65536 in
theorem w_t1 : words1.all (fun c => isCode c || c.before args0 about1) = true := by decide +kernel
theorem w_tables : (allAtoms (Jvm.Cond.code x code maxLocals ret :: tables_1)).before args0 about1 = true := by
  rw [allAtoms_all]
  show words1.all (fun c => c.before args0 about1) = true
  refine all_split ?_ w_codes
  rw [w_t1]
set_option maxRecDepth 65536 in
theorem w_case : (Jvm.Cond.and given_1 narrow_1).before args0 about1 = true := by decide +kernel
theorem w_applies : (headSpec (Jvm.Cond.code x code maxLocals ret :: tables_1) room_1).applies x e0.platform about1 = true :=
  (Spec.applies_iff w_frames).mpr ⟨w_running, w_runnable, w_alone, w_named, w_hears, w_ripe, w_room, w_tables⟩
theorem atStart : AtStart classFile x code maxLocals ret World_1 tables_1 room_1 Calls_1 rest_1 Pre_1 launch0 p0 e0 about1 theMethod args0 below0 :=
  ⟨lists_1, trivial, launch0.admits_env _ _ _, launch0.least_env, fairChoices_fair.cas, fairChoices_fair.clock, w_frames, w_args, w_heap, w_applies, trivial, trivial, w_case⟩
end start1
theorem witness_1 : WitnessClaimed_1 := ⟨start1.p0, start1.e0, start1.about1, start1.theMethod, start1.args0, start1.below0, start1.atStart⟩
end Jvm.Pilot.@@N@@
