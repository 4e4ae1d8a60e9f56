import JvmDerived
import JvmDerived.Pilot.@@N@@Statement
import JvmDerived.Pilot.@@N@@Code
set_option linter.unusedVariables false
set_option linter.unusedSimpArgs false
namespace Jvm.RoadKit
open Sem ClassFile Op Lib Jvm.Stand Jvm.Free Jvm.LawKit
section New
variable {p : Program} {l : Launch} {e : Env} {R : Room} {s : State} {m : MethodId} {args : Array Value} {below : List Frame} {meth : Method} {c : Code} {T : State} {locs : List Loc} {cells slots : Nat}
theorem retI (X : Stand p l e R s m args below meth c T locs cells slots) (hx : p.tables.exec = Jvm.exec) {pc : Nat} {Ls : Array Slot} {z : Int32} {rest : List Value} (hret : meth.sig.returnType = some .int) (hd : decode c.code pc = .ok (.ireturn, 1)) {fs : List Frame}
    (hl : ∀ (f : JFrame) (acts : List Action), f.method = m → f.locked = none → f.entered = [] → (doReturn e (T.setTop f) acts (some (.int z))).1 = T.setFrames fs) : Steps p.tables e below (T.setTop (mkF m pc Ls (.int z :: rest))) (T.setFrames fs) := by
  have hm' : T.vm.method? m = some meth := X.method'
  have hn : narrow .int (.int z) = .int z := rfl
  show Steps p.tables e below (T.setTop { method := m, pc := pc, locals := Ls, stack := _ :: rest, locked := none }) _
  jvm_step X.here [X.here.top, hx, hd, hm', hret, hn]
  first | (intro acts; rw [hl _ acts rfl rfl rfl]) | rw [hl _ _ rfl rfl rfl]
  exact Steps.refl _
end New
end Jvm.RoadKit
namespace Jvm.Pilot.@@N@@
open Jvm Jvm.ClassFile Sem Op Lib Jvm.Free Jvm.Stand Jvm.LawKit Jvm.RoadKit Bundle Jvm.Pilot.@@N@@.Jvm.D
/-! the own kit: a run told backwards (Runs), arrays by a function of the place (OArr), the comparisons of longs -/
def Runs (tb : Tables) (e : Env) (below : List Frame) (R : State → Outcome → Prop) (T : State) (g : JFrame) : Prop := ∃ t o, Steps tb e below (T.setTop g) t ∧ R t o
section Own
variable {tb : Tables} {e : Env} {below : List Frame} {R : State → Outcome → Prop} {T T' : State} {g g' : JFrame}
theorem Runs.back (k : ∀ t, Steps tb e below (T'.setTop g') t → Steps tb e below (T.setTop g) t) (h : Runs tb e below R T' g') : Runs tb e below R T g := by
  obtain ⟨t, o, h1, h2⟩ := h; exact ⟨t, o, k t h1, h2⟩
theorem Runs.trans (k : Steps tb e below (T.setTop g) (T'.setTop g')) (h : Runs tb e below R T' g') : Runs tb e below R T g := by
  obtain ⟨t, o, h1, h2⟩ := h; exact ⟨t, o, Steps.trans k h1, h2⟩
theorem Runs.enter (q : g = g') (h : Runs tb e below R T g') : ∃ t o, Steps tb e below (T.setTop g) t ∧ R t o := by subst q; exact h
theorem Runs.join {α : Type} {P : α → Prop} {F : α → JFrame} (h : ∀ v, P v → Runs tb e below R T (F v)) (k : (∀ v, P v → Runs tb e below R T (F v)) → Runs tb e below R T g) : Runs tb e below R T g := k h
theorem Runs.joinT {α : Type} {P : α → State → Prop} {F : α → JFrame} (h : ∀ v T', P v T' → Runs tb e below R T' (F v)) (k : (∀ v T', P v T' → Runs tb e below R T' (F v)) → Runs tb e below R T g) : Runs tb e below R T g := k h
theorem lcT {x y : Int64} (h : x < y) : lcmpW x y < 0 := by
  have h1 : ¬ y < x := Int64.not_lt.mpr (Int64.le_of_lt h)
  have h2 : ¬ x = y := fun q => by subst q; exact Int64.lt_irrefl h
  simp [lcmpW, h1, h2]
theorem lcF {x y : Int64} (h : ¬ x < y) : ¬ lcmpW x y < 0 := by
  unfold lcmpW
  by_cases h1 : x > y
  · simp only [if_pos h1]; decide
  · have h2 : x = y := Int64.le_antisymm (Int64.not_lt.mp h1) (Int64.not_lt.mp h)
    simp only [if_neg h1, if_pos h2]; decide
theorem lcT' {x y : Int64} (h : y < x) : 0 < lcmpW x y := by
  unfold lcmpW; rw [if_pos h]; decide
theorem lcF' {x y : Int64} (h : ¬ y < x) : ¬ 0 < lcmpW x y := by
  unfold lcmpW
  have h1 : ¬ x > y := h
  simp only [if_neg h1]
  by_cases h2 : x = y
  · simp only [if_pos h2]; decide
  · simp only [if_neg h2]; decide
theorem lcE {x y : Int64} (h : x = y) : lcmpW x y = 0 := by
  have h1 : ¬ x > y := fun q => by subst h; exact Int64.lt_irrefl q
  unfold lcmpW; rw [if_neg h1, if_pos h]
theorem lcN {x y : Int64} (h : ¬ x = y) : ¬ lcmpW x y = 0 := by
  unfold lcmpW
  by_cases h1 : x > y
  · simp only [if_pos h1]; decide
  · simp only [if_neg h1, if_neg h]; decide
def OArr (Z : State) (h : Heap) (a : Addr) (ty : FieldType) (n : Nat) (f : Nat → Value) : Prop := ∃ c : Cell, Arr Z h a c ty ∧ c.slots.size = n ∧ ∀ i, i < n → c.slots[i]? = some (f i)
variable {Z : State} {h h' : Heap} {a b : Addr} {ty : FieldType} {n sl : Nat} {f : Nat → Value} {v : Value} {ws : List Addr}
theorem OArr.lt (F : OArr Z h a ty n f) : a < h.size := by obtain ⟨c, A, -⟩ := F; exact A.lt
theorem OArr.ext (F : OArr Z h a ty n f) (E : Ext h h') : OArr Z h' a ty n f := by obtain ⟨c, A, r⟩ := F; exact ⟨c, A.ext E, r⟩
theorem OArr.other (F : OArr Z h b ty n f) (W : Wr h h' a sl v) (q : b ≠ a) : OArr Z h' b ty n f := by obtain ⟨c, A, r⟩ := F; exact ⟨c, A.other W q, r⟩
theorem OArr.keep (F : OArr Z h a ty n f) (K : Keep h h' ws) (q : a ∉ ws) : OArr Z h' a ty n f := by obtain ⟨c, A, r⟩ := F; exact ⟨c, ⟨K.2.1 a c A.1 q, A.2⟩, r⟩
theorem OArr.congr (F : OArr Z h a ty n f) {f' : Nat → Value} (q : ∀ i, i < n → f i = f' i) : OArr Z h a ty n f' := by obtain ⟨c, A, r1, r2⟩ := F; exact ⟨c, A, r1, fun i hi => by rw [r2 i hi, q i hi]⟩
theorem OArr.set (F : OArr Z h a ty n f) (W : Wr h h' a sl v) : OArr Z h' a ty n (fun i => if i = sl then v else f i) := by
  obtain ⟨c, A, r1, r2⟩ := F
  obtain ⟨cell, e1, -, e3, -⟩ := id W
  cases e1.symm.trans A.1
  refine ⟨_, A.same W, by rw [sz_set]; exact r1, fun i hi => ?_⟩
  by_cases q : i = sl
  · subst q; simp [Cell.setSlot, e3]
  · simp only [if_neg q]; rw [← r2 i hi]; exact Array.getElem?_setIfInBounds_ne (Ne.symm q)
theorem OArr.new {cA : ClassId} {z : Int32} (A : Arr Z h a (newA cA ty z) ty) (q : z.toNatClampNeg = n) (hd : defaultValue ty = v) : OArr Z h a ty n (fun _ => v) :=
  ⟨_, A, by rw [sz_new]; exact q, fun i hi => by subst hd; simp [newA, q, hi]⟩
theorem inbO {j : Int32} {k : Nat} (ng : ¬ j < 0) (e : j.toNatClampNeg = k) (h : k < n) : ¬ (j < 0 ∨ n ≤ j.toNatClampNeg) := fun q => q.elim ng fun r => by rw [e] at r; exact absurd h (Nat.not_lt.mpr r)
theorem readO {c : Cell} {j : Int32} {k : Nat} (H : ∀ i, i < n → c.slots[i]? = some (f i)) (e : j.toNatClampNeg = k) (h : k < n) (q : f k = v) : c.slots[j.toNatClampNeg]? = some v := by rw [e, H k h, q]
theorem lti {x y : Int32} : x < y ↔ x.toInt < y.toInt := Int32.lt_iff_toInt_lt
theorem ltl {x y : Int64} : x < y ↔ x.toInt < y.toInt := Int64.lt_iff_toInt_lt
theorem eqi {x y : Int32} : x = y ↔ x.toInt = y.toInt := Int32.toInt_inj.symm
theorem eql {x y : Int64} : x = y ↔ x.toInt = y.toInt := Int64.toInt_inj.symm
end Own

def cntF (x : Int64) : Int32 := if x < (1 : Int64) then (0 : Int32) else if (999999999999999999 : Int64) < x then (0 : Int32) else (1 : Int32)
theorem d1_0 : decode prog_58_method_2_code 0 = .ok (.lload_n 0, 1) := by decide +kernel
theorem d1_1 : decode prog_58_method_2_code 1 = .ok (.lconst 1, 1) := by decide +kernel
theorem d1_2 : decode prog_58_method_2_code 2 = .ok (.lcmp, 1) := by decide +kernel
theorem d1_3 : decode prog_58_method_2_code 3 = .ok (.ifCond .lt 15, 3) := by decide +kernel
theorem d1_6 : decode prog_58_method_2_code 6 = .ok (.lload_n 0, 1) := by decide +kernel
theorem d1_7 : decode prog_58_method_2_code 7 = .ok (.ldc2_w 41, 3) := by decide +kernel
theorem d1_10 : decode prog_58_method_2_code 10 = .ok (.lcmp, 1) := by decide +kernel
theorem d1_11 : decode prog_58_method_2_code 11 = .ok (.ifCond .gt 7, 3) := by decide +kernel
theorem d1_14 : decode prog_58_method_2_code 14 = .ok (.iconst 1, 1) := by decide +kernel
theorem d1_15 : decode prog_58_method_2_code 15 = .ok (.goto 4, 3) := by decide +kernel
theorem d1_18 : decode prog_58_method_2_code 18 = .ok (.iconst 0, 1) := by decide +kernel
theorem d1_19 : decode prog_58_method_2_code 19 = .ok (.ireturn, 1) := by decide +kernel
theorem pn_1 : plainName "com/example/tenorbook/tenorbook/model/Fact$ShareChange" = true := by first | (simp [plainName, overriddenIn]; done) | decide +kernel
theorem ef_1 (m : MethodId) (q0 : Int64) : entryFrame m #[(.long q0)] 2 = mkF m 0 #[.val (.long q0), .second] [] := by first | (simp [entryFrame, mkF, argsToLocals, Value.category]; done) | rfl
def Q1 (Z : State) (q0 : Int64)  (h0 : Heap) (n0 : Nat) (v : Option Value) (h : Heap) (L : List Loc) : Prop := v = some (.int (cntF q0)) ∧ Fr n0 L ∧ h = h0
set_option maxRecDepth 65536 in
set_option maxHeartbeats 40000000 in
theorem rm1 (l : Launch) (Z : State) (a0 : Array Value) (hw : ∀ d ∈ tables_1, d.before a0 Z = true) (ws : List Jvm.Cond) (q0 : Int64)  (h0 : Heap) (n0 : Nat) (Z0 : n0 ≤ h0.size) :
    MetFree l (⟨"com/example/tenorbook/tenorbook/model/Fact$ShareChange", "isCount", "(J)Z"⟩ : MethodName) (head1 (Jvm.Cond.code (⟨"com/example/tenorbook/tenorbook/model/Fact$ShareChange", "isCount", "(J)Z"⟩ : MethodName) prog_58_method_2_code 2 (some .boolean) :: ws) ({ frames := 0, cells := 0, slots := 0, locals := 0 } : Room)) (fun a U => a = #[(.long q0)] ∧ Z.Warmed39 U.vm ∧ U.heap = h0) (fun _ _ _ _ _ => True) (fun _ U o U' => ∃ v L, o = .returned v ∧ Q1 Z q0 h0 n0 v U'.heap L ∧ FrameEnd U o U' L ({ frames := 0, cells := 0, slots := 0, locals := 0 } : Room).cells ({ frames := 0, cells := 0, slots := 0, locals := 0 } : Room).slots) := by
  refine MetFree.of_bodySF (plainFor_of_name pn_1) hisR ?_
  intro p e s m args below meth c s₁ Bd hml0 hP hK
  obtain ⟨rfl, hZ, hh⟩ := hP
  have hx := Bd.exec
  have hby := Bd.bytes
  have hml : c.maxLocals = 2 := hml0
  have hown : s.vm.findClass "com/example/tenorbook/tenorbook/model/Fact$ShareChange" = some m.cls := findClass_of_methodNamed Bd.named
  have hnm := (name_of_methodNamed Bd.named Bd.method).1
  have X0 : Stand p l e ({ frames := 0, cells := 0, slots := 0, locals := 0 } : Room) s m #[(.long q0)] below meth c s₁ [] 0 0 := Stand.of_body Bd
  have e0 : s₁.heap = h0 := by rw [← hh, Bd.state]; rfl
  have N0 := Fr.nil n0
  refine Runs.enter (ef_1 m q0) ?_
  show Runs _ _ _ _ s₁ (mkF m 0 #[.val (.long q0), .second] [])
  refine Runs.back (fun t k => XS.lloadN X0.here hx rfl (hb hby d1_0) rfl k) ?_
  show Runs _ _ _ _ s₁ (mkF m 1 #[.val (.long q0), .second] [(.long q0)])
  refine Runs.back (fun t k => XS.lconst X0.here hx rfl (hb hby d1_1) k) ?_
  show Runs _ _ _ _ s₁ (mkF m 2 #[.val (.long q0), .second] [(.long (1 : Int64)), (.long q0)])
  refine Runs.back (fun t k => XS.lcmp X0.here hx rfl (hb hby d1_2) rfl k) ?_
  show Runs _ _ _ _ s₁ (mkF m 3 #[.val (.long q0), .second] [(.int (lcmpW q0 (1 : Int64)))])
  by_cases c3_1 : q0 < (1 : Int64)
  · refine Runs.back (fun t k => XS.ifYes X0.here hx rfl (pc0 := 3) (pc' := 18) rfl (hb hby d1_3) rfl ((if0 _ _).trans (tlt (lcT c3_1)).1) (by decide) (by decide) k) ?_
    show Runs _ _ _ _ s₁ (mkF m 18 #[.val (.long q0), .second] [])
    refine Runs.back (fun t k => XS.iconst X0.here hx rfl (hb hby d1_18) k) ?_
    show Runs _ _ _ _ s₁ (mkF m 19 #[.val (.long q0), .second] [(.int (0 : Int32))])
    obtain ⟨fs, hr, hrun, hended, hW, hsame⟩ := X0.leave (v := some (.int (0 : Int32))) (fun h => by rw [Bd.returns] at h; cases h)
    exact ⟨_, _, (retN X0 hx (t := .boolean) Bd.returns (by simp) (hb hby d1_19) hr), hrun, hended, _, _, rfl, ⟨(by first | rfl | (simp only [cntF, if_pos c3_1]; done) | (simp +decide only [cntF, if_pos c3_1]; done) | (simp [cntF, c3_1]; done)), N0, e0⟩, ⟨_, rfl⟩, hW, hsame.mono (by decide) (by decide)⟩
  · refine Runs.back (fun t k => XS.ifNo X0.here hx rfl (hb hby d1_3) rfl ((if0 _ _).trans (flt (lcF c3_1)).1) k) ?_
    show Runs _ _ _ _ s₁ (mkF m 6 #[.val (.long q0), .second] [])
    refine Runs.back (fun t k => XS.lloadN X0.here hx rfl (hb hby d1_6) rfl k) ?_
    show Runs _ _ _ _ s₁ (mkF m 7 #[.val (.long q0), .second] [(.long q0)])
    refine Runs.back (X0.ldc2Long hx hown (mvT hZ (hw _ (List.mem_of_getElem? (i := 5) rfl))) (g := (mkF m 7 #[.val (.long q0), .second] [(.long q0)])) rfl (hb hby d1_7)) ?_
    show Runs _ _ _ _ s₁ (mkF m 10 #[.val (.long q0), .second] [(.long (999999999999999999 : Int64)), (.long q0)])
    refine Runs.back (fun t k => XS.lcmp X0.here hx rfl (hb hby d1_10) rfl k) ?_
    show Runs _ _ _ _ s₁ (mkF m 11 #[.val (.long q0), .second] [(.int (lcmpW q0 (999999999999999999 : Int64)))])
    by_cases c11_2 : (999999999999999999 : Int64) < q0
    · refine Runs.back (fun t k => XS.ifYes X0.here hx rfl (pc0 := 11) (pc' := 18) rfl (hb hby d1_11) rfl ((if0 _ _).trans (tlt (lcT' c11_2)).2.2.1) (by decide) (by decide) k) ?_
      show Runs _ _ _ _ s₁ (mkF m 18 #[.val (.long q0), .second] [])
      refine Runs.back (fun t k => XS.iconst X0.here hx rfl (hb hby d1_18) k) ?_
      show Runs _ _ _ _ s₁ (mkF m 19 #[.val (.long q0), .second] [(.int (0 : Int32))])
      obtain ⟨fs, hr, hrun, hended, hW, hsame⟩ := X0.leave (v := some (.int (0 : Int32))) (fun h => by rw [Bd.returns] at h; cases h)
      exact ⟨_, _, (retN X0 hx (t := .boolean) Bd.returns (by simp) (hb hby d1_19) hr), hrun, hended, _, _, rfl, ⟨(by first | rfl | (simp only [cntF, if_neg c3_1, if_pos c11_2]; done) | (simp +decide only [cntF, if_neg c3_1, if_pos c11_2]; done) | (simp [cntF, c3_1, c11_2]; done)), N0, e0⟩, ⟨_, rfl⟩, hW, hsame.mono (by decide) (by decide)⟩
    · refine Runs.back (fun t k => XS.ifNo X0.here hx rfl (hb hby d1_11) rfl ((if0 _ _).trans (flt (lcF' c11_2)).2.2.1) k) ?_
      show Runs _ _ _ _ s₁ (mkF m 14 #[.val (.long q0), .second] [])
      refine Runs.back (fun t k => XS.iconst X0.here hx rfl (hb hby d1_14) k) ?_
      show Runs _ _ _ _ s₁ (mkF m 15 #[.val (.long q0), .second] [(.int (1 : Int32))])
      refine Runs.back (fun t k => XS.goto X0.here hx rfl (pc0 := 15) (pc' := 19) rfl (hb hby d1_15) (by decide) (by decide) k) ?_
      show Runs _ _ _ _ s₁ (mkF m 19 #[.val (.long q0), .second] [(.int (1 : Int32))])
      obtain ⟨fs, hr, hrun, hended, hW, hsame⟩ := X0.leave (v := some (.int (1 : Int32))) (fun h => by rw [Bd.returns] at h; cases h)
      exact ⟨_, _, (retN X0 hx (t := .boolean) Bd.returns (by simp) (hb hby d1_19) hr), hrun, hended, _, _, rfl, ⟨(by first | rfl | (simp only [cntF, if_neg c3_1, if_neg c11_2]; done) | (simp +decide only [cntF, if_neg c3_1, if_neg c11_2]; done) | (simp [cntF, c3_1, c11_2]; done)), N0, e0⟩, ⟨_, rfl⟩, hW, hsame.mono (by decide) (by decide)⟩

theorem cnt_div {x : Int64} (h : (0 : Int64) < x) : (x / (1000000000000000000 : Int64)) = (0 : Int64) ↔ x.toInt < 1000000000000000000 := by
  have e0 : (0 : Int64).toInt = 0 := by decide
  have hd := (c_ldiv x (1000000000000000000 : Int64) 1000000000000000000 (by decide) (by decide)).1
  have h' := ltl.mp h
  rw [e0] at h'
  rw [eql, hd (by omega), e0]
  omega
theorem cnt1 {x : Int64} (h : (0 : Int64) < x) (q : (x / (1000000000000000000 : Int64)) = (0 : Int64)) : cntF x = (1 : Int32) := by
  have q' := (cnt_div h).mp q
  have e0 : (0 : Int64).toInt = 0 := by decide
  have e1 : (1 : Int64).toInt = 1 := by decide
  have e2 : (999999999999999999 : Int64).toInt = 999999999999999999 := by decide
  have h' := ltl.mp h
  unfold cntF
  rw [if_neg (by rw [ltl]; omega), if_neg (by rw [ltl]; omega)]
theorem cnt0a {x : Int64} (h : ¬ (0 : Int64) < x) : cntF x = (0 : Int32) := by
  have e0 : (0 : Int64).toInt = 0 := by decide
  have e1 : (1 : Int64).toInt = 1 := by decide
  rw [ltl] at h
  unfold cntF
  rw [if_pos (by rw [ltl]; omega)]
theorem cnt0b {x : Int64} (h : (0 : Int64) < x) (q : ¬ (x / (1000000000000000000 : Int64)) = (0 : Int64)) : cntF x = (0 : Int32) := by
  rw [cnt_div h] at q
  have e0 : (0 : Int64).toInt = 0 := by decide
  have e1 : (1 : Int64).toInt = 1 := by decide
  have e2 : (999999999999999999 : Int64).toInt = 999999999999999999 := by decide
  have h' := ltl.mp h
  unfold cntF
  rw [if_neg (by rw [ltl]; omega), if_pos (by rw [ltl]; omega)]
theorem cntP {x : Int64} (h : (0 : Int64) < x ∧ (x / (1000000000000000000 : Int64)) = (0 : Int64)) : cntF x = (1 : Int32) := cnt1 h.1 h.2
theorem cntN {x : Int64} (h : ¬ ((0 : Int64) < x ∧ (x / (1000000000000000000 : Int64)) = (0 : Int64))) : cntF x = (0 : Int32) := by
  by_cases q : (0 : Int64) < x
  · exact cnt0b q fun r => h ⟨q, r⟩
  · exact cnt0a q
theorem pn_0 : plainName "com/example/tenorbook/tenorbook/model/ShareChangeIsCountPinLaw" = true := by first | (simp [plainName, overriddenIn]; done) | decide +kernel
theorem pd0_0 : parseMethodDescriptor "(J)Z" = some ⟨[.long], some .boolean⟩ := by decide +kernel
theorem ef_0 (m : MethodId) (q0 : Int64) : entryFrame m #[(.long q0)] maxLocals = mkF m 0 #[.val (.long q0), .second, .unset, .unset, .unset] [] := by first | (simp [entryFrame, mkF, argsToLocals, Value.category, maxLocals]; done) | rfl
def Q0 (Z : State) (q0 : Int64)  (h0 : Heap) (n0 : Nat) (v : Option Value) (h : Heap) (L : List Loc) : Prop := v = some (.int 1) ∧ Fr n0 L
set_option maxRecDepth 65536 in
set_option maxHeartbeats 40000000 in
theorem rm0 (l : Launch) (Z : State) (a0 : Array Value) (hw : ∀ d ∈ tables_1, d.before a0 Z = true) (ws : List Jvm.Cond) (q0 : Int64)  (h0 : Heap) (n0 : Nat) (Z0 : n0 ≤ h0.size) :
    MetFree l x (head1 (Jvm.Cond.code x code maxLocals ret :: ws) room_1) (fun a U => a = #[(.long q0)] ∧ Z.Warmed39 U.vm ∧ U.heap = h0) (fun _ _ _ _ _ => True) (fun _ U o U' => ∃ v L, o = .returned v ∧ Q0 Z q0 h0 n0 v U'.heap L ∧ FrameEnd U o U' L 0 0) := by
  refine MetFree.of_bodySF (plainFor_of_name pn_0) hisR ?_
  intro p e s m args below meth c s₁ Bd hml0 hP hK
  obtain ⟨rfl, hZ, hh⟩ := hP
  have hx := Bd.exec
  have hby := Bd.bytes
  have hml : c.maxLocals = 5 := hml0
  have hown : s.vm.findClass "com/example/tenorbook/tenorbook/model/ShareChangeIsCountPinLaw" = some m.cls := findClass_of_methodNamed Bd.named
  have hnm := (name_of_methodNamed Bd.named Bd.method).1
  have X0 : Stand p l e room_1 s m #[(.long q0)] below meth c s₁ [] 0 0 := Stand.of_body Bd
  have e0 : s₁.heap = h0 := by rw [← hh, Bd.state]; rfl
  have N0 := Fr.nil n0
  refine Runs.enter (ef_0 m q0) ?_
  show Runs _ _ _ _ s₁ (mkF m 0 #[.val (.long q0), .second, .unset, .unset, .unset] [])
  refine Runs.join (α := Int32) (P := fun whP => whP = if (0 : Int64) < q0 ∧ (q0 / (1000000000000000000 : Int64)) = (0 : Int64) then (1 : Int32) else (0 : Int32)) (F := fun whP => (mkF m 21 #[.val (.long q0), .second, .unset, .unset, .unset] [(.int whP)])) ?_ ?_
  · rintro whP ehP
    show Runs _ _ _ _ s₁ (mkF m 21 #[.val (.long q0), .second, .unset, .unset, .unset] [(.int whP)])
    by_cases hP : (0 : Int64) < q0 ∧ (q0 / (1000000000000000000 : Int64)) = (0 : Int64)
    · obtain rfl : whP = (1 : Int32) := by rw [ehP, if_pos hP]
      show Runs _ _ _ _ s₁ (mkF m 21 #[.val (.long q0), .second, .unset, .unset, .unset] [(.int (1 : Int32))])
      refine Runs.back (fun t k => XS.istoreN X0.here hx rfl (hb hby at_21) rfl (l' := #[.val (.long q0), .second, .val (.int (1 : Int32)), .unset, .unset]) rfl k) ?_
      show Runs _ _ _ _ s₁ (mkF m 22 #[.val (.long q0), .second, .val (.int (1 : Int32)), .unset, .unset] [])
      refine Runs.back (fun t k => XS.lloadN X0.here hx rfl (hb hby at_22) rfl k) ?_
      show Runs _ _ _ _ s₁ (mkF m 23 #[.val (.long q0), .second, .val (.int (1 : Int32)), .unset, .unset] [(.long q0)])
      obtain ⟨_, _, ⟨T1, L1, k1, n1⟩, -, X1, ⟨Lc1, hQ1, l1, y1, z1⟩, st1⟩ := Jvm.LawKit.callS X0 hx (y := (⟨"com/example/tenorbook/tenorbook/model/Fact$ShareChange", "isCount", "(J)Z"⟩ : MethodName)) hown (mvT hZ (hw _ (List.mem_of_getElem? (i := 1) rfl))) (mvT hZ (hw _ (List.mem_of_getElem? (i := 2) rfl))) (mvT hZ (hw _ (List.mem_of_getElem? (i := 3) rfl))) (mvT hZ (hw _ (List.mem_of_getElem? (i := 4) rfl))) (by decide) (backOf (W := 0) (rm1 l Z a0 hw [] q0 h0 n0 (Z0)) hZ (hw _ (List.mem_of_getElem? (i := 4) rfl)) (hw _ (List.mem_of_getElem? (i := 3) rfl)) (by decide) (by decide)) (g := (mkF m 23 #[.val (.long q0), .second, .val (.int (1 : Int32)), .unset, .unset] [(.long q0)])) rfl (by rw [hml]; rfl) (argsL := [(.long q0)]) (rest := []) (lenOf pd0_0 rfl) rfl (by show 2 * 0 + _ ≤ _; exact Nat.le_of_eq rfl) (hb hby at_23) (fun _ _ => ⟨rfl, e0, (by decide : 0 + 0 ≤ _), (by decide : 0 + 0 ≤ _)⟩)
      dsimp only [Pt.U, Pt.locs, Pt.cells, Pt.slots] at X1 l1 y1 z1 st1 hQ1
      subst l1 y1 z1
      obtain ⟨rfl, N1q, eq1⟩ := hQ1
      have N1 := Fr.app N0 N1q
      refine Runs.back st1 ?_
      show Runs _ _ _ _ T1 (mkF m 26 #[.val (.long q0), .second, .val (.int (1 : Int32)), .unset, .unset] [(.int (cntF q0))])
      refine Runs.back (fun t k => XS.iloadN X1.here hx rfl (hb hby at_26) rfl k) ?_
      show Runs _ _ _ _ T1 (mkF m 27 #[.val (.long q0), .second, .val (.int (1 : Int32)), .unset, .unset] [(.int (1 : Int32)), (.int (cntF q0))])
      refine Runs.back (fun t k => XS.icmpNo X1.here hx rfl (hb hby at_27) rfl (teq (show (cntF q0) = (1 : Int32) from (cntP hP))).2 k) ?_
      show Runs _ _ _ _ T1 (mkF m 30 #[.val (.long q0), .second, .val (.int (1 : Int32)), .unset, .unset] [])
      refine Runs.back (fun t k => XS.iconst X1.here hx rfl (hb hby at_30) k) ?_
      show Runs _ _ _ _ T1 (mkF m 31 #[.val (.long q0), .second, .val (.int (1 : Int32)), .unset, .unset] [(.int (1 : Int32))])
      refine Runs.back (fun t k => XS.goto X1.here hx rfl (pc0 := 31) (pc' := 35) rfl (hb hby at_31) (by decide) (by decide) k) ?_
      show Runs _ _ _ _ T1 (mkF m 35 #[.val (.long q0), .second, .val (.int (1 : Int32)), .unset, .unset] [(.int (1 : Int32))])
      refine Runs.back (fun t k => XS.istoreN X1.here hx rfl (hb hby at_35) rfl (l' := #[.val (.long q0), .second, .val (.int (1 : Int32)), .val (.int (1 : Int32)), .unset]) rfl k) ?_
      show Runs _ _ _ _ T1 (mkF m 36 #[.val (.long q0), .second, .val (.int (1 : Int32)), .val (.int (1 : Int32)), .unset] [])
      refine Runs.back (fun t k => XS.lconst X1.here hx rfl (hb hby at_36) k) ?_
      show Runs _ _ _ _ T1 (mkF m 37 #[.val (.long q0), .second, .val (.int (1 : Int32)), .val (.int (1 : Int32)), .unset] [(.long (1 : Int64))])
      obtain ⟨_, _, ⟨T2, L2, k2, n2⟩, -, X2, ⟨Lc2, hQ2, l2, y2, z2⟩, st2⟩ := Jvm.LawKit.callS X1 hx (y := (⟨"com/example/tenorbook/tenorbook/model/Fact$ShareChange", "isCount", "(J)Z"⟩ : MethodName)) hown (mvT hZ (hw _ (List.mem_of_getElem? (i := 1) rfl))) (mvT hZ (hw _ (List.mem_of_getElem? (i := 2) rfl))) (mvT hZ (hw _ (List.mem_of_getElem? (i := 3) rfl))) (mvT hZ (hw _ (List.mem_of_getElem? (i := 4) rfl))) (by decide) (backOf (W := 0) (rm1 l Z a0 hw [] (1 : Int64) h0 n0 (Z0)) hZ (hw _ (List.mem_of_getElem? (i := 4) rfl)) (hw _ (List.mem_of_getElem? (i := 3) rfl)) (by decide) (by decide)) (g := (mkF m 37 #[.val (.long q0), .second, .val (.int (1 : Int32)), .val (.int (1 : Int32)), .unset] [(.long (1 : Int64))])) rfl (by rw [hml]; rfl) (argsL := [(.long (1 : Int64))]) (rest := []) (lenOf pd0_0 rfl) rfl (by show 2 * 0 + _ ≤ _; exact Nat.le_of_eq rfl) (hb hby at_37) (fun _ _ => ⟨rfl, eq1, (by decide : 0 + 0 ≤ _), (by decide : 0 + 0 ≤ _)⟩)
      dsimp only [Pt.U, Pt.locs, Pt.cells, Pt.slots] at X2 l2 y2 z2 st2 hQ2
      subst l2 y2 z2
      obtain ⟨rfl, N2q, eq2⟩ := hQ2
      have N2 := Fr.app N1 N2q
      refine Runs.back st2 ?_
      show Runs _ _ _ _ T2 (mkF m 40 #[.val (.long q0), .second, .val (.int (1 : Int32)), .val (.int (1 : Int32)), .unset] [(.int (cntF (1 : Int64)))])
      refine Runs.back (fun t k => XS.ifNo X2.here hx rfl (hb hby at_40) rfl ((if0 _ _).trans (feq (show ¬ ((cntF (1 : Int64)) = (0 : Int32)) from (by decide))).1) k) ?_
      show Runs _ _ _ _ T2 (mkF m 43 #[.val (.long q0), .second, .val (.int (1 : Int32)), .val (.int (1 : Int32)), .unset] [])
      refine Runs.back (fun t k => XS.lconst X2.here hx rfl (hb hby at_43) k) ?_
      show Runs _ _ _ _ T2 (mkF m 44 #[.val (.long q0), .second, .val (.int (1 : Int32)), .val (.int (1 : Int32)), .unset] [(.long (0 : Int64))])
      obtain ⟨_, _, ⟨T3, L3, k3, n3⟩, -, X3, ⟨Lc3, hQ3, l3, y3, z3⟩, st3⟩ := Jvm.LawKit.callS X2 hx (y := (⟨"com/example/tenorbook/tenorbook/model/Fact$ShareChange", "isCount", "(J)Z"⟩ : MethodName)) hown (mvT hZ (hw _ (List.mem_of_getElem? (i := 1) rfl))) (mvT hZ (hw _ (List.mem_of_getElem? (i := 2) rfl))) (mvT hZ (hw _ (List.mem_of_getElem? (i := 3) rfl))) (mvT hZ (hw _ (List.mem_of_getElem? (i := 4) rfl))) (by decide) (backOf (W := 0) (rm1 l Z a0 hw [] (0 : Int64) h0 n0 (Z0)) hZ (hw _ (List.mem_of_getElem? (i := 4) rfl)) (hw _ (List.mem_of_getElem? (i := 3) rfl)) (by decide) (by decide)) (g := (mkF m 44 #[.val (.long q0), .second, .val (.int (1 : Int32)), .val (.int (1 : Int32)), .unset] [(.long (0 : Int64))])) rfl (by rw [hml]; rfl) (argsL := [(.long (0 : Int64))]) (rest := []) (lenOf pd0_0 rfl) rfl (by show 2 * 0 + _ ≤ _; exact Nat.le_of_eq rfl) (hb hby at_44) (fun _ _ => ⟨rfl, eq2, (by decide : 0 + 0 ≤ _), (by decide : 0 + 0 ≤ _)⟩)
      dsimp only [Pt.U, Pt.locs, Pt.cells, Pt.slots] at X3 l3 y3 z3 st3 hQ3
      subst l3 y3 z3
      obtain ⟨rfl, N3q, eq3⟩ := hQ3
      have N3 := Fr.app N2 N3q
      refine Runs.back st3 ?_
      show Runs _ _ _ _ T3 (mkF m 47 #[.val (.long q0), .second, .val (.int (1 : Int32)), .val (.int (1 : Int32)), .unset] [(.int (cntF (0 : Int64)))])
      refine Runs.back (fun t k => XS.ifNo X3.here hx rfl (hb hby at_47) rfl ((if0 _ _).trans (teq (show (cntF (0 : Int64)) = (0 : Int32) from (by decide))).2) k) ?_
      show Runs _ _ _ _ T3 (mkF m 50 #[.val (.long q0), .second, .val (.int (1 : Int32)), .val (.int (1 : Int32)), .unset] [])
      refine Runs.back (X3.ldc2Long hx hown (mvT hZ (hw _ (List.mem_of_getElem? (i := 6) rfl))) (g := (mkF m 50 #[.val (.long q0), .second, .val (.int (1 : Int32)), .val (.int (1 : Int32)), .unset] [])) rfl (hb hby at_50)) ?_
      show Runs _ _ _ _ T3 (mkF m 53 #[.val (.long q0), .second, .val (.int (1 : Int32)), .val (.int (1 : Int32)), .unset] [(.long (999999999999999999 : Int64))])
      obtain ⟨_, _, ⟨T4, L4, k4, n4⟩, -, X4, ⟨Lc4, hQ4, l4, y4, z4⟩, st4⟩ := Jvm.LawKit.callS X3 hx (y := (⟨"com/example/tenorbook/tenorbook/model/Fact$ShareChange", "isCount", "(J)Z"⟩ : MethodName)) hown (mvT hZ (hw _ (List.mem_of_getElem? (i := 1) rfl))) (mvT hZ (hw _ (List.mem_of_getElem? (i := 2) rfl))) (mvT hZ (hw _ (List.mem_of_getElem? (i := 3) rfl))) (mvT hZ (hw _ (List.mem_of_getElem? (i := 4) rfl))) (by decide) (backOf (W := 0) (rm1 l Z a0 hw [] (999999999999999999 : Int64) h0 n0 (Z0)) hZ (hw _ (List.mem_of_getElem? (i := 4) rfl)) (hw _ (List.mem_of_getElem? (i := 3) rfl)) (by decide) (by decide)) (g := (mkF m 53 #[.val (.long q0), .second, .val (.int (1 : Int32)), .val (.int (1 : Int32)), .unset] [(.long (999999999999999999 : Int64))])) rfl (by rw [hml]; rfl) (argsL := [(.long (999999999999999999 : Int64))]) (rest := []) (lenOf pd0_0 rfl) rfl (by show 2 * 0 + _ ≤ _; exact Nat.le_of_eq rfl) (hb hby at_53) (fun _ _ => ⟨rfl, eq3, (by decide : 0 + 0 ≤ _), (by decide : 0 + 0 ≤ _)⟩)
      dsimp only [Pt.U, Pt.locs, Pt.cells, Pt.slots] at X4 l4 y4 z4 st4 hQ4
      subst l4 y4 z4
      obtain ⟨rfl, N4q, eq4⟩ := hQ4
      have N4 := Fr.app N3 N4q
      refine Runs.back st4 ?_
      show Runs _ _ _ _ T4 (mkF m 56 #[.val (.long q0), .second, .val (.int (1 : Int32)), .val (.int (1 : Int32)), .unset] [(.int (cntF (999999999999999999 : Int64)))])
      refine Runs.back (fun t k => XS.ifNo X4.here hx rfl (hb hby at_56) rfl ((if0 _ _).trans (feq (show ¬ ((cntF (999999999999999999 : Int64)) = (0 : Int32)) from (by decide))).1) k) ?_
      show Runs _ _ _ _ T4 (mkF m 59 #[.val (.long q0), .second, .val (.int (1 : Int32)), .val (.int (1 : Int32)), .unset] [])
      refine Runs.back (X4.ldc2Long hx hown (mvT hZ (hw _ (List.mem_of_getElem? (i := 0) rfl))) (g := (mkF m 59 #[.val (.long q0), .second, .val (.int (1 : Int32)), .val (.int (1 : Int32)), .unset] [])) rfl (hb hby at_59)) ?_
      show Runs _ _ _ _ T4 (mkF m 62 #[.val (.long q0), .second, .val (.int (1 : Int32)), .val (.int (1 : Int32)), .unset] [(.long (1000000000000000000 : Int64))])
      obtain ⟨_, _, ⟨T5, L5, k5, n5⟩, -, X5, ⟨Lc5, hQ5, l5, y5, z5⟩, st5⟩ := Jvm.LawKit.callS X4 hx (y := (⟨"com/example/tenorbook/tenorbook/model/Fact$ShareChange", "isCount", "(J)Z"⟩ : MethodName)) hown (mvT hZ (hw _ (List.mem_of_getElem? (i := 1) rfl))) (mvT hZ (hw _ (List.mem_of_getElem? (i := 2) rfl))) (mvT hZ (hw _ (List.mem_of_getElem? (i := 3) rfl))) (mvT hZ (hw _ (List.mem_of_getElem? (i := 4) rfl))) (by decide) (backOf (W := 0) (rm1 l Z a0 hw [] (1000000000000000000 : Int64) h0 n0 (Z0)) hZ (hw _ (List.mem_of_getElem? (i := 4) rfl)) (hw _ (List.mem_of_getElem? (i := 3) rfl)) (by decide) (by decide)) (g := (mkF m 62 #[.val (.long q0), .second, .val (.int (1 : Int32)), .val (.int (1 : Int32)), .unset] [(.long (1000000000000000000 : Int64))])) rfl (by rw [hml]; rfl) (argsL := [(.long (1000000000000000000 : Int64))]) (rest := []) (lenOf pd0_0 rfl) rfl (by show 2 * 0 + _ ≤ _; exact Nat.le_of_eq rfl) (hb hby at_62) (fun _ _ => ⟨rfl, eq4, (by decide : 0 + 0 ≤ _), (by decide : 0 + 0 ≤ _)⟩)
      dsimp only [Pt.U, Pt.locs, Pt.cells, Pt.slots] at X5 l5 y5 z5 st5 hQ5
      subst l5 y5 z5
      obtain ⟨rfl, N5q, eq5⟩ := hQ5
      have N5 := Fr.app N4 N5q
      refine Runs.back st5 ?_
      show Runs _ _ _ _ T5 (mkF m 65 #[.val (.long q0), .second, .val (.int (1 : Int32)), .val (.int (1 : Int32)), .unset] [(.int (cntF (1000000000000000000 : Int64)))])
      refine Runs.back (fun t k => XS.ifNo X5.here hx rfl (hb hby at_65) rfl ((if0 _ _).trans (teq (show (cntF (1000000000000000000 : Int64)) = (0 : Int32) from (by decide))).2) k) ?_
      show Runs _ _ _ _ T5 (mkF m 68 #[.val (.long q0), .second, .val (.int (1 : Int32)), .val (.int (1 : Int32)), .unset] [])
      refine Runs.back (X5.ldc2Long hx hown (mvT hZ (hw _ (List.mem_of_getElem? (i := 7) rfl))) (g := (mkF m 68 #[.val (.long q0), .second, .val (.int (1 : Int32)), .val (.int (1 : Int32)), .unset] [])) rfl (hb hby at_68)) ?_
      show Runs _ _ _ _ T5 (mkF m 71 #[.val (.long q0), .second, .val (.int (1 : Int32)), .val (.int (1 : Int32)), .unset] [(.long (-9223372036854775808 : Int64))])
      obtain ⟨_, _, ⟨T6, L6, k6, n6⟩, -, X6, ⟨Lc6, hQ6, l6, y6, z6⟩, st6⟩ := Jvm.LawKit.callS X5 hx (y := (⟨"com/example/tenorbook/tenorbook/model/Fact$ShareChange", "isCount", "(J)Z"⟩ : MethodName)) hown (mvT hZ (hw _ (List.mem_of_getElem? (i := 1) rfl))) (mvT hZ (hw _ (List.mem_of_getElem? (i := 2) rfl))) (mvT hZ (hw _ (List.mem_of_getElem? (i := 3) rfl))) (mvT hZ (hw _ (List.mem_of_getElem? (i := 4) rfl))) (by decide) (backOf (W := 0) (rm1 l Z a0 hw [] (-9223372036854775808 : Int64) h0 n0 (Z0)) hZ (hw _ (List.mem_of_getElem? (i := 4) rfl)) (hw _ (List.mem_of_getElem? (i := 3) rfl)) (by decide) (by decide)) (g := (mkF m 71 #[.val (.long q0), .second, .val (.int (1 : Int32)), .val (.int (1 : Int32)), .unset] [(.long (-9223372036854775808 : Int64))])) rfl (by rw [hml]; rfl) (argsL := [(.long (-9223372036854775808 : Int64))]) (rest := []) (lenOf pd0_0 rfl) rfl (by show 2 * 0 + _ ≤ _; exact Nat.le_of_eq rfl) (hb hby at_71) (fun _ _ => ⟨rfl, eq5, (by decide : 0 + 0 ≤ _), (by decide : 0 + 0 ≤ _)⟩)
      dsimp only [Pt.U, Pt.locs, Pt.cells, Pt.slots] at X6 l6 y6 z6 st6 hQ6
      subst l6 y6 z6
      obtain ⟨rfl, N6q, eq6⟩ := hQ6
      have N6 := Fr.app N5 N6q
      refine Runs.back st6 ?_
      show Runs _ _ _ _ T6 (mkF m 74 #[.val (.long q0), .second, .val (.int (1 : Int32)), .val (.int (1 : Int32)), .unset] [(.int (cntF (-9223372036854775808 : Int64)))])
      refine Runs.back (fun t k => XS.ifNo X6.here hx rfl (hb hby at_74) rfl ((if0 _ _).trans (teq (show (cntF (-9223372036854775808 : Int64)) = (0 : Int32) from (by decide))).2) k) ?_
      show Runs _ _ _ _ T6 (mkF m 77 #[.val (.long q0), .second, .val (.int (1 : Int32)), .val (.int (1 : Int32)), .unset] [])
      refine Runs.back (X6.ldc2Long hx hown (mvT hZ (hw _ (List.mem_of_getElem? (i := 8) rfl))) (g := (mkF m 77 #[.val (.long q0), .second, .val (.int (1 : Int32)), .val (.int (1 : Int32)), .unset] [])) rfl (hb hby at_77)) ?_
      show Runs _ _ _ _ T6 (mkF m 80 #[.val (.long q0), .second, .val (.int (1 : Int32)), .val (.int (1 : Int32)), .unset] [(.long (9223372036854775807 : Int64))])
      obtain ⟨_, _, ⟨T7, L7, k7, n7⟩, -, X7, ⟨Lc7, hQ7, l7, y7, z7⟩, st7⟩ := Jvm.LawKit.callS X6 hx (y := (⟨"com/example/tenorbook/tenorbook/model/Fact$ShareChange", "isCount", "(J)Z"⟩ : MethodName)) hown (mvT hZ (hw _ (List.mem_of_getElem? (i := 1) rfl))) (mvT hZ (hw _ (List.mem_of_getElem? (i := 2) rfl))) (mvT hZ (hw _ (List.mem_of_getElem? (i := 3) rfl))) (mvT hZ (hw _ (List.mem_of_getElem? (i := 4) rfl))) (by decide) (backOf (W := 0) (rm1 l Z a0 hw [] (9223372036854775807 : Int64) h0 n0 (Z0)) hZ (hw _ (List.mem_of_getElem? (i := 4) rfl)) (hw _ (List.mem_of_getElem? (i := 3) rfl)) (by decide) (by decide)) (g := (mkF m 80 #[.val (.long q0), .second, .val (.int (1 : Int32)), .val (.int (1 : Int32)), .unset] [(.long (9223372036854775807 : Int64))])) rfl (by rw [hml]; rfl) (argsL := [(.long (9223372036854775807 : Int64))]) (rest := []) (lenOf pd0_0 rfl) rfl (by show 2 * 0 + _ ≤ _; exact Nat.le_of_eq rfl) (hb hby at_80) (fun _ _ => ⟨rfl, eq6, (by decide : 0 + 0 ≤ _), (by decide : 0 + 0 ≤ _)⟩)
      dsimp only [Pt.U, Pt.locs, Pt.cells, Pt.slots] at X7 l7 y7 z7 st7 hQ7
      subst l7 y7 z7
      obtain ⟨rfl, N7q, eq7⟩ := hQ7
      have N7 := Fr.app N6 N7q
      refine Runs.back st7 ?_
      show Runs _ _ _ _ T7 (mkF m 83 #[.val (.long q0), .second, .val (.int (1 : Int32)), .val (.int (1 : Int32)), .unset] [(.int (cntF (9223372036854775807 : Int64)))])
      refine Runs.back (fun t k => XS.ifNo X7.here hx rfl (hb hby at_83) rfl ((if0 _ _).trans (teq (show (cntF (9223372036854775807 : Int64)) = (0 : Int32) from (by decide))).2) k) ?_
      show Runs _ _ _ _ T7 (mkF m 86 #[.val (.long q0), .second, .val (.int (1 : Int32)), .val (.int (1 : Int32)), .unset] [])
      refine Runs.back (fun t k => XS.iconst X7.here hx rfl (hb hby at_86) k) ?_
      show Runs _ _ _ _ T7 (mkF m 87 #[.val (.long q0), .second, .val (.int (1 : Int32)), .val (.int (1 : Int32)), .unset] [(.int (1 : Int32))])
      refine Runs.back (fun t k => XS.goto X7.here hx rfl (pc0 := 87) (pc' := 91) rfl (hb hby at_87) (by decide) (by decide) k) ?_
      show Runs _ _ _ _ T7 (mkF m 91 #[.val (.long q0), .second, .val (.int (1 : Int32)), .val (.int (1 : Int32)), .unset] [(.int (1 : Int32))])
      refine Runs.back (fun t k => XS.istore X7.here hx rfl (hb hby at_91) rfl (l' := #[.val (.long q0), .second, .val (.int (1 : Int32)), .val (.int (1 : Int32)), .val (.int (1 : Int32))]) rfl k) ?_
      show Runs _ _ _ _ T7 (mkF m 93 #[.val (.long q0), .second, .val (.int (1 : Int32)), .val (.int (1 : Int32)), .val (.int (1 : Int32))] [])
      refine Runs.back (fun t k => XS.iloadN X7.here hx rfl (hb hby at_93) rfl k) ?_
      show Runs _ _ _ _ T7 (mkF m 94 #[.val (.long q0), .second, .val (.int (1 : Int32)), .val (.int (1 : Int32)), .val (.int (1 : Int32))] [(.int (1 : Int32))])
      refine Runs.back (fun t k => XS.ifNo X7.here hx rfl (hb hby at_94) rfl ((if0 _ _).trans (feq (show ¬ ((1 : Int32) = (0 : Int32)) from (by decide))).1) k) ?_
      show Runs _ _ _ _ T7 (mkF m 97 #[.val (.long q0), .second, .val (.int (1 : Int32)), .val (.int (1 : Int32)), .val (.int (1 : Int32))] [])
      refine Runs.back (fun t k => XS.iload X7.here hx rfl (hb hby at_97) rfl k) ?_
      show Runs _ _ _ _ T7 (mkF m 99 #[.val (.long q0), .second, .val (.int (1 : Int32)), .val (.int (1 : Int32)), .val (.int (1 : Int32))] [(.int (1 : Int32))])
      refine Runs.back (fun t k => XS.ifNo X7.here hx rfl (hb hby at_99) rfl ((if0 _ _).trans (feq (show ¬ ((1 : Int32) = (0 : Int32)) from (by decide))).1) k) ?_
      show Runs _ _ _ _ T7 (mkF m 102 #[.val (.long q0), .second, .val (.int (1 : Int32)), .val (.int (1 : Int32)), .val (.int (1 : Int32))] [])
      refine Runs.back (fun t k => XS.iconst X7.here hx rfl (hb hby at_102) k) ?_
      show Runs _ _ _ _ T7 (mkF m 103 #[.val (.long q0), .second, .val (.int (1 : Int32)), .val (.int (1 : Int32)), .val (.int (1 : Int32))] [(.int (1 : Int32))])
      refine Runs.back (fun t k => XS.goto X7.here hx rfl (pc0 := 103) (pc' := 107) rfl (hb hby at_103) (by decide) (by decide) k) ?_
      show Runs _ _ _ _ T7 (mkF m 107 #[.val (.long q0), .second, .val (.int (1 : Int32)), .val (.int (1 : Int32)), .val (.int (1 : Int32))] [(.int (1 : Int32))])
      obtain ⟨fs, hr, hrun, hended, hW, hsame⟩ := X7.leave (v := some (.int (1 : Int32))) (fun h => by rw [Bd.returns] at h; cases h)
      exact ⟨_, _, (retN X7 hx (t := .boolean) Bd.returns (by simp) (hb hby at_107) hr), hrun, hended, _, _, rfl, ⟨rfl, N7⟩, ⟨_, rfl⟩, hW, hsame.mono (by decide) (by decide)⟩
    · obtain rfl : whP = (0 : Int32) := by rw [ehP, if_neg hP]
      show Runs _ _ _ _ s₁ (mkF m 21 #[.val (.long q0), .second, .unset, .unset, .unset] [(.int (0 : Int32))])
      refine Runs.back (fun t k => XS.istoreN X0.here hx rfl (hb hby at_21) rfl (l' := #[.val (.long q0), .second, .val (.int (0 : Int32)), .unset, .unset]) rfl k) ?_
      show Runs _ _ _ _ s₁ (mkF m 22 #[.val (.long q0), .second, .val (.int (0 : Int32)), .unset, .unset] [])
      refine Runs.back (fun t k => XS.lloadN X0.here hx rfl (hb hby at_22) rfl k) ?_
      show Runs _ _ _ _ s₁ (mkF m 23 #[.val (.long q0), .second, .val (.int (0 : Int32)), .unset, .unset] [(.long q0)])
      obtain ⟨_, _, ⟨T8, L8, k8, n8⟩, -, X8, ⟨Lc8, hQ8, l8, y8, z8⟩, st8⟩ := Jvm.LawKit.callS X0 hx (y := (⟨"com/example/tenorbook/tenorbook/model/Fact$ShareChange", "isCount", "(J)Z"⟩ : MethodName)) hown (mvT hZ (hw _ (List.mem_of_getElem? (i := 1) rfl))) (mvT hZ (hw _ (List.mem_of_getElem? (i := 2) rfl))) (mvT hZ (hw _ (List.mem_of_getElem? (i := 3) rfl))) (mvT hZ (hw _ (List.mem_of_getElem? (i := 4) rfl))) (by decide) (backOf (W := 0) (rm1 l Z a0 hw [] q0 h0 n0 (Z0)) hZ (hw _ (List.mem_of_getElem? (i := 4) rfl)) (hw _ (List.mem_of_getElem? (i := 3) rfl)) (by decide) (by decide)) (g := (mkF m 23 #[.val (.long q0), .second, .val (.int (0 : Int32)), .unset, .unset] [(.long q0)])) rfl (by rw [hml]; rfl) (argsL := [(.long q0)]) (rest := []) (lenOf pd0_0 rfl) rfl (by show 2 * 0 + _ ≤ _; exact Nat.le_of_eq rfl) (hb hby at_23) (fun _ _ => ⟨rfl, e0, (by decide : 0 + 0 ≤ _), (by decide : 0 + 0 ≤ _)⟩)
      dsimp only [Pt.U, Pt.locs, Pt.cells, Pt.slots] at X8 l8 y8 z8 st8 hQ8
      subst l8 y8 z8
      obtain ⟨rfl, N8q, eq8⟩ := hQ8
      have N8 := Fr.app N0 N8q
      refine Runs.back st8 ?_
      show Runs _ _ _ _ T8 (mkF m 26 #[.val (.long q0), .second, .val (.int (0 : Int32)), .unset, .unset] [(.int (cntF q0))])
      refine Runs.back (fun t k => XS.iloadN X8.here hx rfl (hb hby at_26) rfl k) ?_
      show Runs _ _ _ _ T8 (mkF m 27 #[.val (.long q0), .second, .val (.int (0 : Int32)), .unset, .unset] [(.int (0 : Int32)), (.int (cntF q0))])
      refine Runs.back (fun t k => XS.icmpNo X8.here hx rfl (hb hby at_27) rfl (teq (show (cntF q0) = (0 : Int32) from (cntN hP))).2 k) ?_
      show Runs _ _ _ _ T8 (mkF m 30 #[.val (.long q0), .second, .val (.int (0 : Int32)), .unset, .unset] [])
      refine Runs.back (fun t k => XS.iconst X8.here hx rfl (hb hby at_30) k) ?_
      show Runs _ _ _ _ T8 (mkF m 31 #[.val (.long q0), .second, .val (.int (0 : Int32)), .unset, .unset] [(.int (1 : Int32))])
      refine Runs.back (fun t k => XS.goto X8.here hx rfl (pc0 := 31) (pc' := 35) rfl (hb hby at_31) (by decide) (by decide) k) ?_
      show Runs _ _ _ _ T8 (mkF m 35 #[.val (.long q0), .second, .val (.int (0 : Int32)), .unset, .unset] [(.int (1 : Int32))])
      refine Runs.back (fun t k => XS.istoreN X8.here hx rfl (hb hby at_35) rfl (l' := #[.val (.long q0), .second, .val (.int (0 : Int32)), .val (.int (1 : Int32)), .unset]) rfl k) ?_
      show Runs _ _ _ _ T8 (mkF m 36 #[.val (.long q0), .second, .val (.int (0 : Int32)), .val (.int (1 : Int32)), .unset] [])
      refine Runs.back (fun t k => XS.lconst X8.here hx rfl (hb hby at_36) k) ?_
      show Runs _ _ _ _ T8 (mkF m 37 #[.val (.long q0), .second, .val (.int (0 : Int32)), .val (.int (1 : Int32)), .unset] [(.long (1 : Int64))])
      obtain ⟨_, _, ⟨T9, L9, k9, n9⟩, -, X9, ⟨Lc9, hQ9, l9, y9, z9⟩, st9⟩ := Jvm.LawKit.callS X8 hx (y := (⟨"com/example/tenorbook/tenorbook/model/Fact$ShareChange", "isCount", "(J)Z"⟩ : MethodName)) hown (mvT hZ (hw _ (List.mem_of_getElem? (i := 1) rfl))) (mvT hZ (hw _ (List.mem_of_getElem? (i := 2) rfl))) (mvT hZ (hw _ (List.mem_of_getElem? (i := 3) rfl))) (mvT hZ (hw _ (List.mem_of_getElem? (i := 4) rfl))) (by decide) (backOf (W := 0) (rm1 l Z a0 hw [] (1 : Int64) h0 n0 (Z0)) hZ (hw _ (List.mem_of_getElem? (i := 4) rfl)) (hw _ (List.mem_of_getElem? (i := 3) rfl)) (by decide) (by decide)) (g := (mkF m 37 #[.val (.long q0), .second, .val (.int (0 : Int32)), .val (.int (1 : Int32)), .unset] [(.long (1 : Int64))])) rfl (by rw [hml]; rfl) (argsL := [(.long (1 : Int64))]) (rest := []) (lenOf pd0_0 rfl) rfl (by show 2 * 0 + _ ≤ _; exact Nat.le_of_eq rfl) (hb hby at_37) (fun _ _ => ⟨rfl, eq8, (by decide : 0 + 0 ≤ _), (by decide : 0 + 0 ≤ _)⟩)
      dsimp only [Pt.U, Pt.locs, Pt.cells, Pt.slots] at X9 l9 y9 z9 st9 hQ9
      subst l9 y9 z9
      obtain ⟨rfl, N9q, eq9⟩ := hQ9
      have N9 := Fr.app N8 N9q
      refine Runs.back st9 ?_
      show Runs _ _ _ _ T9 (mkF m 40 #[.val (.long q0), .second, .val (.int (0 : Int32)), .val (.int (1 : Int32)), .unset] [(.int (cntF (1 : Int64)))])
      refine Runs.back (fun t k => XS.ifNo X9.here hx rfl (hb hby at_40) rfl ((if0 _ _).trans (feq (show ¬ ((cntF (1 : Int64)) = (0 : Int32)) from (by decide))).1) k) ?_
      show Runs _ _ _ _ T9 (mkF m 43 #[.val (.long q0), .second, .val (.int (0 : Int32)), .val (.int (1 : Int32)), .unset] [])
      refine Runs.back (fun t k => XS.lconst X9.here hx rfl (hb hby at_43) k) ?_
      show Runs _ _ _ _ T9 (mkF m 44 #[.val (.long q0), .second, .val (.int (0 : Int32)), .val (.int (1 : Int32)), .unset] [(.long (0 : Int64))])
      obtain ⟨_, _, ⟨T10, L10, k10, n10⟩, -, X10, ⟨Lc10, hQ10, l10, y10, z10⟩, st10⟩ := Jvm.LawKit.callS X9 hx (y := (⟨"com/example/tenorbook/tenorbook/model/Fact$ShareChange", "isCount", "(J)Z"⟩ : MethodName)) hown (mvT hZ (hw _ (List.mem_of_getElem? (i := 1) rfl))) (mvT hZ (hw _ (List.mem_of_getElem? (i := 2) rfl))) (mvT hZ (hw _ (List.mem_of_getElem? (i := 3) rfl))) (mvT hZ (hw _ (List.mem_of_getElem? (i := 4) rfl))) (by decide) (backOf (W := 0) (rm1 l Z a0 hw [] (0 : Int64) h0 n0 (Z0)) hZ (hw _ (List.mem_of_getElem? (i := 4) rfl)) (hw _ (List.mem_of_getElem? (i := 3) rfl)) (by decide) (by decide)) (g := (mkF m 44 #[.val (.long q0), .second, .val (.int (0 : Int32)), .val (.int (1 : Int32)), .unset] [(.long (0 : Int64))])) rfl (by rw [hml]; rfl) (argsL := [(.long (0 : Int64))]) (rest := []) (lenOf pd0_0 rfl) rfl (by show 2 * 0 + _ ≤ _; exact Nat.le_of_eq rfl) (hb hby at_44) (fun _ _ => ⟨rfl, eq9, (by decide : 0 + 0 ≤ _), (by decide : 0 + 0 ≤ _)⟩)
      dsimp only [Pt.U, Pt.locs, Pt.cells, Pt.slots] at X10 l10 y10 z10 st10 hQ10
      subst l10 y10 z10
      obtain ⟨rfl, N10q, eq10⟩ := hQ10
      have N10 := Fr.app N9 N10q
      refine Runs.back st10 ?_
      show Runs _ _ _ _ T10 (mkF m 47 #[.val (.long q0), .second, .val (.int (0 : Int32)), .val (.int (1 : Int32)), .unset] [(.int (cntF (0 : Int64)))])
      refine Runs.back (fun t k => XS.ifNo X10.here hx rfl (hb hby at_47) rfl ((if0 _ _).trans (teq (show (cntF (0 : Int64)) = (0 : Int32) from (by decide))).2) k) ?_
      show Runs _ _ _ _ T10 (mkF m 50 #[.val (.long q0), .second, .val (.int (0 : Int32)), .val (.int (1 : Int32)), .unset] [])
      refine Runs.back (X10.ldc2Long hx hown (mvT hZ (hw _ (List.mem_of_getElem? (i := 6) rfl))) (g := (mkF m 50 #[.val (.long q0), .second, .val (.int (0 : Int32)), .val (.int (1 : Int32)), .unset] [])) rfl (hb hby at_50)) ?_
      show Runs _ _ _ _ T10 (mkF m 53 #[.val (.long q0), .second, .val (.int (0 : Int32)), .val (.int (1 : Int32)), .unset] [(.long (999999999999999999 : Int64))])
      obtain ⟨_, _, ⟨T11, L11, k11, n11⟩, -, X11, ⟨Lc11, hQ11, l11, y11, z11⟩, st11⟩ := Jvm.LawKit.callS X10 hx (y := (⟨"com/example/tenorbook/tenorbook/model/Fact$ShareChange", "isCount", "(J)Z"⟩ : MethodName)) hown (mvT hZ (hw _ (List.mem_of_getElem? (i := 1) rfl))) (mvT hZ (hw _ (List.mem_of_getElem? (i := 2) rfl))) (mvT hZ (hw _ (List.mem_of_getElem? (i := 3) rfl))) (mvT hZ (hw _ (List.mem_of_getElem? (i := 4) rfl))) (by decide) (backOf (W := 0) (rm1 l Z a0 hw [] (999999999999999999 : Int64) h0 n0 (Z0)) hZ (hw _ (List.mem_of_getElem? (i := 4) rfl)) (hw _ (List.mem_of_getElem? (i := 3) rfl)) (by decide) (by decide)) (g := (mkF m 53 #[.val (.long q0), .second, .val (.int (0 : Int32)), .val (.int (1 : Int32)), .unset] [(.long (999999999999999999 : Int64))])) rfl (by rw [hml]; rfl) (argsL := [(.long (999999999999999999 : Int64))]) (rest := []) (lenOf pd0_0 rfl) rfl (by show 2 * 0 + _ ≤ _; exact Nat.le_of_eq rfl) (hb hby at_53) (fun _ _ => ⟨rfl, eq10, (by decide : 0 + 0 ≤ _), (by decide : 0 + 0 ≤ _)⟩)
      dsimp only [Pt.U, Pt.locs, Pt.cells, Pt.slots] at X11 l11 y11 z11 st11 hQ11
      subst l11 y11 z11
      obtain ⟨rfl, N11q, eq11⟩ := hQ11
      have N11 := Fr.app N10 N11q
      refine Runs.back st11 ?_
      show Runs _ _ _ _ T11 (mkF m 56 #[.val (.long q0), .second, .val (.int (0 : Int32)), .val (.int (1 : Int32)), .unset] [(.int (cntF (999999999999999999 : Int64)))])
      refine Runs.back (fun t k => XS.ifNo X11.here hx rfl (hb hby at_56) rfl ((if0 _ _).trans (feq (show ¬ ((cntF (999999999999999999 : Int64)) = (0 : Int32)) from (by decide))).1) k) ?_
      show Runs _ _ _ _ T11 (mkF m 59 #[.val (.long q0), .second, .val (.int (0 : Int32)), .val (.int (1 : Int32)), .unset] [])
      refine Runs.back (X11.ldc2Long hx hown (mvT hZ (hw _ (List.mem_of_getElem? (i := 0) rfl))) (g := (mkF m 59 #[.val (.long q0), .second, .val (.int (0 : Int32)), .val (.int (1 : Int32)), .unset] [])) rfl (hb hby at_59)) ?_
      show Runs _ _ _ _ T11 (mkF m 62 #[.val (.long q0), .second, .val (.int (0 : Int32)), .val (.int (1 : Int32)), .unset] [(.long (1000000000000000000 : Int64))])
      obtain ⟨_, _, ⟨T12, L12, k12, n12⟩, -, X12, ⟨Lc12, hQ12, l12, y12, z12⟩, st12⟩ := Jvm.LawKit.callS X11 hx (y := (⟨"com/example/tenorbook/tenorbook/model/Fact$ShareChange", "isCount", "(J)Z"⟩ : MethodName)) hown (mvT hZ (hw _ (List.mem_of_getElem? (i := 1) rfl))) (mvT hZ (hw _ (List.mem_of_getElem? (i := 2) rfl))) (mvT hZ (hw _ (List.mem_of_getElem? (i := 3) rfl))) (mvT hZ (hw _ (List.mem_of_getElem? (i := 4) rfl))) (by decide) (backOf (W := 0) (rm1 l Z a0 hw [] (1000000000000000000 : Int64) h0 n0 (Z0)) hZ (hw _ (List.mem_of_getElem? (i := 4) rfl)) (hw _ (List.mem_of_getElem? (i := 3) rfl)) (by decide) (by decide)) (g := (mkF m 62 #[.val (.long q0), .second, .val (.int (0 : Int32)), .val (.int (1 : Int32)), .unset] [(.long (1000000000000000000 : Int64))])) rfl (by rw [hml]; rfl) (argsL := [(.long (1000000000000000000 : Int64))]) (rest := []) (lenOf pd0_0 rfl) rfl (by show 2 * 0 + _ ≤ _; exact Nat.le_of_eq rfl) (hb hby at_62) (fun _ _ => ⟨rfl, eq11, (by decide : 0 + 0 ≤ _), (by decide : 0 + 0 ≤ _)⟩)
      dsimp only [Pt.U, Pt.locs, Pt.cells, Pt.slots] at X12 l12 y12 z12 st12 hQ12
      subst l12 y12 z12
      obtain ⟨rfl, N12q, eq12⟩ := hQ12
      have N12 := Fr.app N11 N12q
      refine Runs.back st12 ?_
      show Runs _ _ _ _ T12 (mkF m 65 #[.val (.long q0), .second, .val (.int (0 : Int32)), .val (.int (1 : Int32)), .unset] [(.int (cntF (1000000000000000000 : Int64)))])
      refine Runs.back (fun t k => XS.ifNo X12.here hx rfl (hb hby at_65) rfl ((if0 _ _).trans (teq (show (cntF (1000000000000000000 : Int64)) = (0 : Int32) from (by decide))).2) k) ?_
      show Runs _ _ _ _ T12 (mkF m 68 #[.val (.long q0), .second, .val (.int (0 : Int32)), .val (.int (1 : Int32)), .unset] [])
      refine Runs.back (X12.ldc2Long hx hown (mvT hZ (hw _ (List.mem_of_getElem? (i := 7) rfl))) (g := (mkF m 68 #[.val (.long q0), .second, .val (.int (0 : Int32)), .val (.int (1 : Int32)), .unset] [])) rfl (hb hby at_68)) ?_
      show Runs _ _ _ _ T12 (mkF m 71 #[.val (.long q0), .second, .val (.int (0 : Int32)), .val (.int (1 : Int32)), .unset] [(.long (-9223372036854775808 : Int64))])
      obtain ⟨_, _, ⟨T13, L13, k13, n13⟩, -, X13, ⟨Lc13, hQ13, l13, y13, z13⟩, st13⟩ := Jvm.LawKit.callS X12 hx (y := (⟨"com/example/tenorbook/tenorbook/model/Fact$ShareChange", "isCount", "(J)Z"⟩ : MethodName)) hown (mvT hZ (hw _ (List.mem_of_getElem? (i := 1) rfl))) (mvT hZ (hw _ (List.mem_of_getElem? (i := 2) rfl))) (mvT hZ (hw _ (List.mem_of_getElem? (i := 3) rfl))) (mvT hZ (hw _ (List.mem_of_getElem? (i := 4) rfl))) (by decide) (backOf (W := 0) (rm1 l Z a0 hw [] (-9223372036854775808 : Int64) h0 n0 (Z0)) hZ (hw _ (List.mem_of_getElem? (i := 4) rfl)) (hw _ (List.mem_of_getElem? (i := 3) rfl)) (by decide) (by decide)) (g := (mkF m 71 #[.val (.long q0), .second, .val (.int (0 : Int32)), .val (.int (1 : Int32)), .unset] [(.long (-9223372036854775808 : Int64))])) rfl (by rw [hml]; rfl) (argsL := [(.long (-9223372036854775808 : Int64))]) (rest := []) (lenOf pd0_0 rfl) rfl (by show 2 * 0 + _ ≤ _; exact Nat.le_of_eq rfl) (hb hby at_71) (fun _ _ => ⟨rfl, eq12, (by decide : 0 + 0 ≤ _), (by decide : 0 + 0 ≤ _)⟩)
      dsimp only [Pt.U, Pt.locs, Pt.cells, Pt.slots] at X13 l13 y13 z13 st13 hQ13
      subst l13 y13 z13
      obtain ⟨rfl, N13q, eq13⟩ := hQ13
      have N13 := Fr.app N12 N13q
      refine Runs.back st13 ?_
      show Runs _ _ _ _ T13 (mkF m 74 #[.val (.long q0), .second, .val (.int (0 : Int32)), .val (.int (1 : Int32)), .unset] [(.int (cntF (-9223372036854775808 : Int64)))])
      refine Runs.back (fun t k => XS.ifNo X13.here hx rfl (hb hby at_74) rfl ((if0 _ _).trans (teq (show (cntF (-9223372036854775808 : Int64)) = (0 : Int32) from (by decide))).2) k) ?_
      show Runs _ _ _ _ T13 (mkF m 77 #[.val (.long q0), .second, .val (.int (0 : Int32)), .val (.int (1 : Int32)), .unset] [])
      refine Runs.back (X13.ldc2Long hx hown (mvT hZ (hw _ (List.mem_of_getElem? (i := 8) rfl))) (g := (mkF m 77 #[.val (.long q0), .second, .val (.int (0 : Int32)), .val (.int (1 : Int32)), .unset] [])) rfl (hb hby at_77)) ?_
      show Runs _ _ _ _ T13 (mkF m 80 #[.val (.long q0), .second, .val (.int (0 : Int32)), .val (.int (1 : Int32)), .unset] [(.long (9223372036854775807 : Int64))])
      obtain ⟨_, _, ⟨T14, L14, k14, n14⟩, -, X14, ⟨Lc14, hQ14, l14, y14, z14⟩, st14⟩ := Jvm.LawKit.callS X13 hx (y := (⟨"com/example/tenorbook/tenorbook/model/Fact$ShareChange", "isCount", "(J)Z"⟩ : MethodName)) hown (mvT hZ (hw _ (List.mem_of_getElem? (i := 1) rfl))) (mvT hZ (hw _ (List.mem_of_getElem? (i := 2) rfl))) (mvT hZ (hw _ (List.mem_of_getElem? (i := 3) rfl))) (mvT hZ (hw _ (List.mem_of_getElem? (i := 4) rfl))) (by decide) (backOf (W := 0) (rm1 l Z a0 hw [] (9223372036854775807 : Int64) h0 n0 (Z0)) hZ (hw _ (List.mem_of_getElem? (i := 4) rfl)) (hw _ (List.mem_of_getElem? (i := 3) rfl)) (by decide) (by decide)) (g := (mkF m 80 #[.val (.long q0), .second, .val (.int (0 : Int32)), .val (.int (1 : Int32)), .unset] [(.long (9223372036854775807 : Int64))])) rfl (by rw [hml]; rfl) (argsL := [(.long (9223372036854775807 : Int64))]) (rest := []) (lenOf pd0_0 rfl) rfl (by show 2 * 0 + _ ≤ _; exact Nat.le_of_eq rfl) (hb hby at_80) (fun _ _ => ⟨rfl, eq13, (by decide : 0 + 0 ≤ _), (by decide : 0 + 0 ≤ _)⟩)
      dsimp only [Pt.U, Pt.locs, Pt.cells, Pt.slots] at X14 l14 y14 z14 st14 hQ14
      subst l14 y14 z14
      obtain ⟨rfl, N14q, eq14⟩ := hQ14
      have N14 := Fr.app N13 N14q
      refine Runs.back st14 ?_
      show Runs _ _ _ _ T14 (mkF m 83 #[.val (.long q0), .second, .val (.int (0 : Int32)), .val (.int (1 : Int32)), .unset] [(.int (cntF (9223372036854775807 : Int64)))])
      refine Runs.back (fun t k => XS.ifNo X14.here hx rfl (hb hby at_83) rfl ((if0 _ _).trans (teq (show (cntF (9223372036854775807 : Int64)) = (0 : Int32) from (by decide))).2) k) ?_
      show Runs _ _ _ _ T14 (mkF m 86 #[.val (.long q0), .second, .val (.int (0 : Int32)), .val (.int (1 : Int32)), .unset] [])
      refine Runs.back (fun t k => XS.iconst X14.here hx rfl (hb hby at_86) k) ?_
      show Runs _ _ _ _ T14 (mkF m 87 #[.val (.long q0), .second, .val (.int (0 : Int32)), .val (.int (1 : Int32)), .unset] [(.int (1 : Int32))])
      refine Runs.back (fun t k => XS.goto X14.here hx rfl (pc0 := 87) (pc' := 91) rfl (hb hby at_87) (by decide) (by decide) k) ?_
      show Runs _ _ _ _ T14 (mkF m 91 #[.val (.long q0), .second, .val (.int (0 : Int32)), .val (.int (1 : Int32)), .unset] [(.int (1 : Int32))])
      refine Runs.back (fun t k => XS.istore X14.here hx rfl (hb hby at_91) rfl (l' := #[.val (.long q0), .second, .val (.int (0 : Int32)), .val (.int (1 : Int32)), .val (.int (1 : Int32))]) rfl k) ?_
      show Runs _ _ _ _ T14 (mkF m 93 #[.val (.long q0), .second, .val (.int (0 : Int32)), .val (.int (1 : Int32)), .val (.int (1 : Int32))] [])
      refine Runs.back (fun t k => XS.iloadN X14.here hx rfl (hb hby at_93) rfl k) ?_
      show Runs _ _ _ _ T14 (mkF m 94 #[.val (.long q0), .second, .val (.int (0 : Int32)), .val (.int (1 : Int32)), .val (.int (1 : Int32))] [(.int (1 : Int32))])
      refine Runs.back (fun t k => XS.ifNo X14.here hx rfl (hb hby at_94) rfl ((if0 _ _).trans (feq (show ¬ ((1 : Int32) = (0 : Int32)) from (by decide))).1) k) ?_
      show Runs _ _ _ _ T14 (mkF m 97 #[.val (.long q0), .second, .val (.int (0 : Int32)), .val (.int (1 : Int32)), .val (.int (1 : Int32))] [])
      refine Runs.back (fun t k => XS.iload X14.here hx rfl (hb hby at_97) rfl k) ?_
      show Runs _ _ _ _ T14 (mkF m 99 #[.val (.long q0), .second, .val (.int (0 : Int32)), .val (.int (1 : Int32)), .val (.int (1 : Int32))] [(.int (1 : Int32))])
      refine Runs.back (fun t k => XS.ifNo X14.here hx rfl (hb hby at_99) rfl ((if0 _ _).trans (feq (show ¬ ((1 : Int32) = (0 : Int32)) from (by decide))).1) k) ?_
      show Runs _ _ _ _ T14 (mkF m 102 #[.val (.long q0), .second, .val (.int (0 : Int32)), .val (.int (1 : Int32)), .val (.int (1 : Int32))] [])
      refine Runs.back (fun t k => XS.iconst X14.here hx rfl (hb hby at_102) k) ?_
      show Runs _ _ _ _ T14 (mkF m 103 #[.val (.long q0), .second, .val (.int (0 : Int32)), .val (.int (1 : Int32)), .val (.int (1 : Int32))] [(.int (1 : Int32))])
      refine Runs.back (fun t k => XS.goto X14.here hx rfl (pc0 := 103) (pc' := 107) rfl (hb hby at_103) (by decide) (by decide) k) ?_
      show Runs _ _ _ _ T14 (mkF m 107 #[.val (.long q0), .second, .val (.int (0 : Int32)), .val (.int (1 : Int32)), .val (.int (1 : Int32))] [(.int (1 : Int32))])
      obtain ⟨fs, hr, hrun, hended, hW, hsame⟩ := X14.leave (v := some (.int (1 : Int32))) (fun h => by rw [Bd.returns] at h; cases h)
      exact ⟨_, _, (retN X14 hx (t := .boolean) Bd.returns (by simp) (hb hby at_107) hr), hrun, hended, _, _, rfl, ⟨rfl, N14⟩, ⟨_, rfl⟩, hW, hsame.mono (by decide) (by decide)⟩
  · intro J1
    show Runs _ _ _ _ s₁ (mkF m 0 #[.val (.long q0), .second, .unset, .unset, .unset] [])
    refine Runs.back (fun t k => XS.lloadN X0.here hx rfl (hb hby at_0) rfl k) ?_
    show Runs _ _ _ _ s₁ (mkF m 1 #[.val (.long q0), .second, .unset, .unset, .unset] [(.long q0)])
    refine Runs.back (fun t k => XS.lconst X0.here hx rfl (hb hby at_1) k) ?_
    show Runs _ _ _ _ s₁ (mkF m 2 #[.val (.long q0), .second, .unset, .unset, .unset] [(.long (0 : Int64)), (.long q0)])
    refine Runs.back (fun t k => XS.lcmp X0.here hx rfl (hb hby at_2) rfl k) ?_
    show Runs _ _ _ _ s₁ (mkF m 3 #[.val (.long q0), .second, .unset, .unset, .unset] [(.int (lcmpW q0 (0 : Int64)))])
    by_cases c3_15 : (0 : Int64) < q0
    · refine Runs.back (fun t k => XS.ifNo X0.here hx rfl (hb hby at_3) rfl ((if0 _ _).trans (tlt (lcT' c3_15)).2.2.2) k) ?_
      show Runs _ _ _ _ s₁ (mkF m 6 #[.val (.long q0), .second, .unset, .unset, .unset] [])
      refine Runs.back (fun t k => XS.lloadN X0.here hx rfl (hb hby at_6) rfl k) ?_
      show Runs _ _ _ _ s₁ (mkF m 7 #[.val (.long q0), .second, .unset, .unset, .unset] [(.long q0)])
      refine Runs.back (X0.ldc2Long hx hown (mvT hZ (hw _ (List.mem_of_getElem? (i := 0) rfl))) (g := (mkF m 7 #[.val (.long q0), .second, .unset, .unset, .unset] [(.long q0)])) rfl (hb hby at_7)) ?_
      show Runs _ _ _ _ s₁ (mkF m 10 #[.val (.long q0), .second, .unset, .unset, .unset] [(.long (1000000000000000000 : Int64)), (.long q0)])
      refine Runs.back (fun t k => XS.ldiv X0.here hx rfl (hb hby at_10) rfl (by decide) k) ?_
      show Runs _ _ _ _ s₁ (mkF m 11 #[.val (.long q0), .second, .unset, .unset, .unset] [(.long (q0 / (1000000000000000000 : Int64)))])
      refine Runs.back (fun t k => XS.lconst X0.here hx rfl (hb hby at_11) k) ?_
      show Runs _ _ _ _ s₁ (mkF m 12 #[.val (.long q0), .second, .unset, .unset, .unset] [(.long (0 : Int64)), (.long (q0 / (1000000000000000000 : Int64)))])
      refine Runs.back (fun t k => XS.lcmp X0.here hx rfl (hb hby at_12) rfl k) ?_
      show Runs _ _ _ _ s₁ (mkF m 13 #[.val (.long q0), .second, .unset, .unset, .unset] [(.int (lcmpW (q0 / (1000000000000000000 : Int64)) (0 : Int64)))])
      by_cases c13_16 : (q0 / (1000000000000000000 : Int64)) = (0 : Int64)
      · refine Runs.back (fun t k => XS.ifNo X0.here hx rfl (hb hby at_13) rfl ((if0 _ _).trans (teq (lcE c13_16)).2) k) ?_
        show Runs _ _ _ _ s₁ (mkF m 16 #[.val (.long q0), .second, .unset, .unset, .unset] [])
        refine Runs.back (fun t k => XS.iconst X0.here hx rfl (hb hby at_16) k) ?_
        show Runs _ _ _ _ s₁ (mkF m 17 #[.val (.long q0), .second, .unset, .unset, .unset] [(.int (1 : Int32))])
        refine Runs.back (fun t k => XS.goto X0.here hx rfl (pc0 := 17) (pc' := 21) rfl (hb hby at_17) (by decide) (by decide) k) ?_
        show Runs _ _ _ _ s₁ (mkF m 21 #[.val (.long q0), .second, .unset, .unset, .unset] [(.int (1 : Int32))])
        exact J1 ((1 : Int32)) (by simp [c3_15, c13_16])
      · refine Runs.back (fun t k => XS.ifYes X0.here hx rfl (pc0 := 13) (pc' := 20) rfl (hb hby at_13) rfl ((if0 _ _).trans (feq (lcN c13_16)).2) (by decide) (by decide) k) ?_
        show Runs _ _ _ _ s₁ (mkF m 20 #[.val (.long q0), .second, .unset, .unset, .unset] [])
        refine Runs.back (fun t k => XS.iconst X0.here hx rfl (hb hby at_20) k) ?_
        show Runs _ _ _ _ s₁ (mkF m 21 #[.val (.long q0), .second, .unset, .unset, .unset] [(.int (0 : Int32))])
        exact J1 ((0 : Int32)) (by simp [c3_15, c13_16])
    · refine Runs.back (fun t k => XS.ifYes X0.here hx rfl (pc0 := 3) (pc' := 20) rfl (hb hby at_3) rfl ((if0 _ _).trans (flt (lcF' c3_15)).2.2.2) (by decide) (by decide) k) ?_
      show Runs _ _ _ _ s₁ (mkF m 20 #[.val (.long q0), .second, .unset, .unset, .unset] [])
      refine Runs.back (fun t k => XS.iconst X0.here hx rfl (hb hby at_20) k) ?_
      show Runs _ _ _ _ s₁ (mkF m 21 #[.val (.long q0), .second, .unset, .unset, .unset] [(.int (0 : Int32))])
      exact J1 ((0 : Int32)) (by simp [c3_15])
set_option maxRecDepth 65536 in
set_option maxHeartbeats 40000000 in
theorem comes_1 {Post : Tables → Env → Array Value → State → Outcome → State → Prop} (hpost : ∀ tb e args s v u, (limb_1_1.after args s (.returned v) u = true ∧ limb_1_2.after args s (.returned v) u = true ∧ True) → FrameEnd s (.returned v) u (Jvm.fieldLocs frame_1_writes args s ++ Jvm.arrayLocs frame_1_arrays args s ++ Jvm.staticLocs frame_1_statics s) 0 0 → Post tb e args s (.returned v) u) :
    ArmFor flags0 classFile x code maxLocals ret World_1 tables_1 room_1 Calls_1 rest_1 Pre_1 Post := by
  intro l hfl _ _ p e ha hc hk s m args below hf hA hF happ hP
  obtain ⟨hcalls, hrest, hpre⟩ := hP
  obtain ⟨-, -, -, hnamed, -, -, -, hat⟩ := (Spec.applies_iff hf).mp happ
  obtain ⟨hg, hn⟩ := and_e (Cond.before_iff.mp (show (Jvm.Cond.and given_1 narrow_1).before args s = true from hpre))
  obtain ⟨g0, gr0⟩ := and_e hg
  obtain ⟨w0, rfl⟩ : ∃ w0 : Value, args = #[w0] := by
    have hs : args.size = 1 := by simpa [Cond.value, given_1] using g0
    obtain ⟨L⟩ := args
    match L, hs with
    | [w0], _ => exact ⟨w0, rfl⟩
  have hw := fun d (hd : d ∈ tables_1) => atoms_spec (ws := Jvm.Cond.code x code maxLocals ret :: tables_1) hat d (List.mem_cons_of_mem _ hd)
  obtain ⟨i0, ei0⟩ := isL_v gr0
  obtain rfl : w0 = (.long i0) := Option.some.inj ei0
  obtain ⟨n, o, h1, h2, h3, _, L, rfl, ⟨rfl, N⟩, hq⟩ := rm0 l s _ hw tables_1 i0 s.heap s.heap.size (Nat.le_refl _) p e ha hc hk s m _ below hf ((Spec.applies_iff_loose hf).mp happ).1 ⟨rfl, State.Warmed39.refl s, rfl⟩ trivial
  refine ⟨n, _, h1, h2, h3, hpost _ _ _ _ _ _ ⟨Cond.after_iff.mpr rfl, Cond.after_iff.mpr (eq_i res_at (Term.int_eval (1)) rfl), trivial⟩ ⟨hq.1, hq.2.1, (hq.2.2.sift fun y hy => Or.inr (N y hy)).mono (by decide) (by decide)⟩⟩
theorem main_1_1 : Claimed_1_1 := comes_1 fun _ _ _ _ _ _ h hF => ⟨h.1, hF⟩
theorem main_1_2 : Claimed_1_2 := comes_1 fun _ _ _ _ _ _ h hF => ⟨h.2.1, hF⟩
end Jvm.Pilot.@@N@@
namespace Jvm.Pilot.@@N@@
open Jvm Jvm.ClassFile Sem Op Lib Jvm.Free Jvm.Stand Jvm.Pilot.@@N@@.Jvm.D
/-! MADE BY PROGRAM (witnessworld.py) out of the Statement's table words and the real class files: 11 classes; the members and pool entries that the words name. The judged class is class 1, her method 1. -/
namespace start1
open Jvm.ClassFile
def u (s : String) : CpInfo := .utf8 (stringToUtf16 s)
/-- a pool by its gaps: so many unusable entries, then the entry; so many at the end -/
def gap : Nat → List CpInfo → List CpInfo
  | 0, r => r
  | n + 1, r => .unusable :: gap n r
def poolList (es : List (Nat × CpInfo)) (last : Nat) : List CpInfo := es.foldr (fun e r => gap e.1 (e.2 :: r)) (gap last [])
def pool (es : List (Nat × CpInfo)) (last : Nat) : Array CpInfo := ⟨poolList es last⟩
def fileOf (pool : Array CpInfo) (this : Nat) (attrs : Array Attribute := #[]) (ms : Array MethodInfo := #[]) (fl : Nat := 33) (sup : Nat := 0) (ifs : Array Nat := #[]) (fds : Array FieldInfo := #[]) : ClassFile where
  minorVersion := 0
  majorVersion := 65
  constantPool := pool
  accessFlags := fl
  thisClass := this
  superClass := sup
  interfaces := ifs
  fields := fds
  methods := ms
  attributes := attrs
def plain (name : String) (sup : Option ClassId) : Class where
  name := name
  kind := .ordinary
  loader := none
  accessFlags := 33
  super := sup
  interfaces := #[]
  cf := none
  fields := #[]
  methods := #[]
  instanceTypes := #[]
  staticTypes := #[]
  resolved := #[]
  callSites := []
  init := .initialized
  statics := none
  mirror := none

def pool0 : Array CpInfo := pool [(5, u "<init>"), (0, u "()V"), (1, .class_ 10), (1, u "java/lang/Object")] 113

def k0m0 : Method := { name := "<init>", desc := "()V", sig := { parameters := [], returnType := none }, accessFlags := 1, code := none }
/-- java/lang/Object -/
def k0 : Class := { plain "java/lang/Object" none with
  accessFlags := 33
  interfaces := #[]
  cf := some (fileOf pool0 8 #[] #[{ accessFlags := 1, nameIndex := 5, descriptorIndex := 6, attributes := #[] }] 33 0 #[] #[])
  fields := #[]
  methods := #[k0m0]
  instanceTypes := #[]
  staticTypes := #[]
  resolved := Array.replicate 124 none
  statics := none }

def pool1 : Array CpInfo := pool [(2, .class_ 4), (1, u "java/lang/Object"), (0, u "<init>"), (0, u "()V"), (0, .class_ 8), (0, u "com/example/tenorbook/tenorbook/model/ShareChangeIsCountPinLaw"), (0, .long 1000000000000000000), (1, .methodref 12 13), (0, .class_ 14), (0, .nameAndType 15 16), (0, u "com/example/tenorbook/tenorbook/model/Fact$ShareChange"), (0, u "isCount"), (0, u "(J)Z"), (0, .long 999999999999999999), (3, .long 9223372036854775808), (1, .long 9223372036854775807), (1, u "TEN_POW_18"), (0, u "J"), (3, u "law")] 7

def k1m0 : Method := { name := "<init>", desc := "()V", sig := { parameters := [], returnType := none }, accessFlags := 1, code := none }
def k1c1 : Code := { maxStack := 4, maxLocals := 5, code := code, exceptionTable := #[], attributes := #[] }
def k1m1 : Method := { name := "law", desc := "(J)Z", sig := { parameters := [.long], returnType := some .boolean }, accessFlags := 9, code := some k1c1 }
/-- com/example/tenorbook/tenorbook/model/ShareChangeIsCountPinLaw -/
def k1 : Class := { plain "com/example/tenorbook/tenorbook/model/ShareChangeIsCountPinLaw" (some 0) with
  accessFlags := 49
  interfaces := #[]
  cf := some (fileOf pool1 7 #[] #[{ accessFlags := 1, nameIndex := 5, descriptorIndex := 6, attributes := #[] }, { accessFlags := 9, nameIndex := 30, descriptorIndex := 16, attributes := #[] }] 49 2 #[] #[{ accessFlags := 26, nameIndex := 25, descriptorIndex := 26, attributes := #[] }])
  fields := #[{ name := "TEN_POW_18", type := .long, accessFlags := 26, slot := 0, constantValue := 0 }]
  methods := #[k1m0, k1m1]
  instanceTypes := #[]
  staticTypes := #[.long]
  resolved := Array.replicate 38 none
  statics := none }

def pool2 : Array CpInfo := pool [(2, .class_ 4), (1, u "java/lang/Object"), (0, u "<init>"), (0, u "()V"), (0, .class_ 8), (0, u "java/lang/Record")] 13

def k2m0 : Method := { name := "<init>", desc := "()V", sig := { parameters := [], returnType := none }, accessFlags := 4, code := none }
/-- java/lang/Record -/
def k2 : Class := { plain "java/lang/Record" (some 0) with
  accessFlags := 1057
  interfaces := #[]
  cf := some (fileOf pool2 7 #[] #[{ accessFlags := 4, nameIndex := 5, descriptorIndex := 6, attributes := #[] }] 1057 2 #[] #[])
  fields := #[]
  methods := #[k2m0]
  instanceTypes := #[]
  staticTypes := #[]
  resolved := Array.replicate 22 none
  statics := none }

def pool3 : Array CpInfo := pool [(21, .class_ 22), (0, u "com/example/tenorbook/tenorbook/model/Fact"), (0, .class_ 24), (0, u "java/lang/Object"), (0, u "NAME_EXPECTED"), (0, u "Ljava/lang/String;"), (22, .class_ 50), (0, u "com/example/tenorbook/tenorbook/model/Fact$ShareChange"), (0, .class_ 52), (0, u "com/example/tenorbook/tenorbook/model/Fact$ShareChange$Cause"), (0, .class_ 54), (0, u "com/example/tenorbook/tenorbook/model/Fact$EarlySettlement"), (0, .class_ 56), (0, u "com/example/tenorbook/tenorbook/model/Fact$Put"), (0, .class_ 58), (0, u "com/example/tenorbook/tenorbook/model/Fact$Redemption"), (0, .class_ 60), (0, u "com/example/tenorbook/tenorbook/model/Fact$Conversion"), (0, .class_ 62), (0, u "com/example/tenorbook/tenorbook/model/Fact$Event"), (0, .class_ 64), (0, u "com/example/tenorbook/tenorbook/model/Fact$Price"), (0, .class_ 66), (0, u "com/example/tenorbook/tenorbook/model/Fact$Fixing"), (0, .class_ 68), (0, u "com/example/tenorbook/tenorbook/model/Fact$Instrument"), (0, .class_ 70), (0, u "com/example/tenorbook/tenorbook/model/Fact$Redeeming"), (0, .class_ 72), (0, u "com/example/tenorbook/tenorbook/model/Fact$Retirement")] 35

/-- com/example/tenorbook/tenorbook/model/Fact -/
def k3 : Class := { plain "com/example/tenorbook/tenorbook/model/Fact" (some 0) with
  accessFlags := 1537
  interfaces := #[]
  cf := some (fileOf pool3 21 #[.nestMembers #[49, 51, 53, 55, 57, 59, 61, 63, 65, 67, 69, 71]] #[] 1537 23 #[] #[{ accessFlags := 25, nameIndex := 25, descriptorIndex := 26, attributes := #[] }])
  fields := #[{ name := "NAME_EXPECTED", type := (.object "java/lang/String"), accessFlags := 25, slot := 0, constantValue := 0 }]
  methods := #[]
  instanceTypes := #[]
  staticTypes := #[(.object "java/lang/String")]
  resolved := Array.replicate 108 none
  statics := none }

def pool4 : Array CpInfo := pool [(1, .class_ 2), (0, u "com/example/tenorbook/tenorbook/model/Fact$ShareChange"), (1, .class_ 6), (1, u "java/lang/Record"), (3, u "symbol"), (7, u "date"), (1, u "cause"), (2, u "seq"), (0, u "I"), (2, u "Ljava/lang/String;"), (2, u "Ljava/time/LocalDate;"), (2, u "Lcom/example/tenorbook/tenorbook/model/Fact$ShareChange$Cause;"), (2, u "before"), (0, u "J"), (2, u "after"), (0, .long 999999999999999999), (3, u "isCount"), (0, u "(J)Z"), (40, .class_ 88), (0, u "com/example/tenorbook/tenorbook/model/Fact"), (0, u "KIND"), (1, u "MOST_SHARES"), (0, u "COUNT_EXPECTED")] 62

def k4c0 : Code := { maxStack := 4, maxLocals := 2, code := prog_58_method_2_code, exceptionTable := #[], attributes := #[] }
def k4m0 : Method := { name := "isCount", desc := "(J)Z", sig := { parameters := [.long], returnType := some .boolean }, accessFlags := 9, code := some k4c0 }
/-- com/example/tenorbook/tenorbook/model/Fact$ShareChange -/
def k4 : Class := { plain "com/example/tenorbook/tenorbook/model/Fact$ShareChange" (some 2) with
  accessFlags := 49
  interfaces := #[3]
  cf := some (fileOf pool4 1 #[.nestHost 87] #[{ accessFlags := 9, nameIndex := 45, descriptorIndex := 46, attributes := #[] }] 49 4 #[87] #[{ accessFlags := 18, nameIndex := 23, descriptorIndex := 24, attributes := #[] }, { accessFlags := 18, nameIndex := 10, descriptorIndex := 27, attributes := #[] }, { accessFlags := 18, nameIndex := 18, descriptorIndex := 30, attributes := #[] }, { accessFlags := 18, nameIndex := 20, descriptorIndex := 33, attributes := #[] }, { accessFlags := 18, nameIndex := 36, descriptorIndex := 37, attributes := #[] }, { accessFlags := 18, nameIndex := 40, descriptorIndex := 37, attributes := #[] }, { accessFlags := 25, nameIndex := 89, descriptorIndex := 27, attributes := #[] }, { accessFlags := 25, nameIndex := 91, descriptorIndex := 37, attributes := #[] }, { accessFlags := 25, nameIndex := 92, descriptorIndex := 27, attributes := #[] }])
  fields := #[{ name := "seq", type := .int, accessFlags := 18, slot := 0, constantValue := 0 }, { name := "symbol", type := (.object "java/lang/String"), accessFlags := 18, slot := 1, constantValue := 0 }, { name := "date", type := (.object "java/time/LocalDate"), accessFlags := 18, slot := 2, constantValue := 0 }, { name := "cause", type := (.object "com/example/tenorbook/tenorbook/model/Fact$ShareChange$Cause"), accessFlags := 18, slot := 3, constantValue := 0 }, { name := "before", type := .long, accessFlags := 18, slot := 4, constantValue := 0 }, { name := "after", type := .long, accessFlags := 18, slot := 5, constantValue := 0 }, { name := "KIND", type := (.object "java/lang/String"), accessFlags := 25, slot := 0, constantValue := 0 }, { name := "MOST_SHARES", type := .long, accessFlags := 25, slot := 1, constantValue := 0 }, { name := "COUNT_EXPECTED", type := (.object "java/lang/String"), accessFlags := 25, slot := 2, constantValue := 0 }]
  methods := #[k4m0]
  instanceTypes := #[.int, (.object "java/lang/String"), (.object "java/time/LocalDate"), (.object "com/example/tenorbook/tenorbook/model/Fact$ShareChange$Cause"), .long, .long]
  staticTypes := #[(.object "java/lang/String"), .long, (.object "java/lang/String")]
  resolved := Array.replicate 155 none
  statics := none }

def pool5 : Array CpInfo := pool [(1, u "java/lang/Cloneable"), (0, .class_ 1), (0, u "java/lang/Object"), (0, .class_ 3)] 3

/-- java/lang/Cloneable -/
def k5 : Class := { plain "java/lang/Cloneable" (some 0) with
  accessFlags := 1537
  interfaces := #[]
  cf := some (fileOf pool5 2 #[] #[] 1537 4 #[] #[])
  fields := #[]
  methods := #[]
  instanceTypes := #[]
  staticTypes := #[]
  resolved := Array.replicate 8 none
  statics := none }

def pool6 : Array CpInfo := pool [(1, u "java/io/Serializable"), (0, .class_ 1), (0, u "java/lang/Object"), (0, .class_ 3)] 3

/-- java/io/Serializable -/
def k6 : Class := { plain "java/io/Serializable" (some 0) with
  accessFlags := 1537
  interfaces := #[]
  cf := some (fileOf pool6 2 #[] #[] 1537 4 #[] #[])
  fields := #[]
  methods := #[]
  instanceTypes := #[]
  staticTypes := #[]
  resolved := Array.replicate 8 none
  statics := none }

/-- the primitive byte -/
def k7 : Class := { plain "byte" none with kind := .primitive 'B', accessFlags := 0x411 }
/-- [B -/
def k8 : Class := { plain "[B" (some 0) with kind := .array 7 .byte, interfaces := #[5, 6], accessFlags := 1041 }

/-- the primitive int -/
def k9 : Class := { plain "int" none with kind := .primitive 'I', accessFlags := 0x411 }
/-- [I -/
def k10 : Class := { plain "[I" (some 0) with kind := .array 9 .int, interfaces := #[5, 6], accessFlags := 1041 }

def heap : Heap := #[]
def classes : Array Class := #[k0, k1, k2, k3, k4, k5, k6, k7, k8, k9, k10]
def interned : List (Array UInt16 × Addr) := []
def slotsUsed : Nat := 0
def theMethod : MethodId := ⟨1, 1⟩
def args0 : Array Value := #[.long 5]
def aboutOver (below : List Frame) : State where
  vm := { classes := classes, interned := interned.toArray }
  heap := heap
  slotsUsed := slotsUsed
  threads := #[{ frames := .invoking theMethod args0 :: below }]
def below0 : List Frame := [.native { method := ⟨0, 0⟩, args := #[] }]
def about1 : State := aboutOver below0
def p0 : Program := .bare "" "" ""
def e0 : Env := launch0.env 0 0 0
theorem w_frames : about1.frames = Frame.invoking theMethod args0 :: below0 := rfl
set_option maxRecDepth 65536 in
theorem w_args : argsFit about1.vm theMethod args0 = true := by decide +kernel
set_option maxRecDepth 65536 in
theorem w_heap : heapFits about1 = true := by decide +kernel
set_option maxRecDepth 65536 in
theorem w_runnable : about1.curStatus? = some .runnable := by decide +kernel
set_option maxRecDepth 65536 in
theorem w_alone : about1.alone = true := by decide +kernel
set_option maxRecDepth 65536 in
theorem w_named : about1.methodNamed? x = some theMethod := by decide +kernel
set_option maxRecDepth 65536 in
theorem w_hears : about1.hears theMethod below0 = true := by decide +kernel
set_option maxRecDepth 65536 in
theorem w_ripe : about1.ripe theMethod args0 below0 = true := by decide +kernel
theorem w_running : about1.status = .running := rfl
set_option maxRecDepth 65536 in
theorem w_room : about1.hasRoom e0.platform room_1 = true :=
  launch0.hasRoom_least _ room_1 (by decide +kernel) (by decide +kernel) (by decide +kernel) (by decide +kernel) (by decide +kernel) (by decide +kernel)
theorem allAtoms_all (ts : List Jvm.Cond) (a : Array Jvm.Value) (st : Jvm.State) : (allAtoms ts).before a st = ts.all (fun c => c.before a st) := by
  induction ts with
  | nil => rfl
  | cons c t ih =>
    show (Jvm.Cond.and c (allAtoms t)).before a st = _
    rw [Jvm.Cond.before_and, ih, List.all_cons]
def words1 : List Jvm.Cond := Jvm.Cond.code x code maxLocals ret :: tables_1
/-- a 'code' word, met by the world's own term for the bytes: nothing is compared byte by byte -/
theorem code_word {y : MethodName} {bytes : ByteArray} {mx : Nat} {rt : Option FieldType} {a : Array Value} {s : State} {m : MethodId} {meth : Method} {c : Code} (h1 : s.methodNamed? y = some m) (h2 : s.vm.method? m = some meth) (h3 : meth.code = some c) (h4 : c.code = bytes)
    (h5 : (c.maxLocals == mx && c.exceptionTable.isEmpty && decide (c.maxStack ≤ mostOperands) && decide (meth.sig.returnType = rt) && !meth.locks && decide (parseMethodDescriptor y.desc = some meth.sig)) = true) : (Jvm.Cond.code y bytes mx rt).before a s = true := by
  simp only [Bool.and_eq_true, beq_iff_eq, Bool.not_eq_true', decide_eq_true_eq] at h5
  obtain ⟨⟨⟨⟨⟨g1, g2⟩, g3⟩, g4⟩, g5⟩, g6⟩ := h5
  simp [Cond.before, Cond.holds, Cond.value, h1, h2, h3, h4, g1, g2, g3, g4, g5, g6]
def isCode : Jvm.Cond → Bool
  | .code _ _ _ _ => true
  | _ => false
theorem all_split {L : List Jvm.Cond} {P : Jvm.Cond → Bool} (h1 : L.all (fun c => isCode c || P c) = true) (h2 : ∀ c ∈ L.filter isCode, P c = true) : L.all P = true := by
  refine List.all_eq_true.mpr fun c hc => ?_
  have h := List.all_eq_true.mp h1 c hc
  rcases Bool.eq_false_or_eq_true (isCode c) with hi | hi
  · exact h2 c (List.mem_filter.mpr ⟨hc, hi⟩)
  · simpa [hi] using h
set_option maxRecDepth 65536 in
theorem w_c0 : (Jvm.Cond.code x code maxLocals ret).before args0 about1 = true := code_word (m := ⟨1, 1⟩) (meth := k1m1) (c := k1c1) (by decide +kernel) rfl rfl rfl (by decide +kernel)
set_option maxRecDepth 65536 in
theorem w_c1 : (Jvm.Cond.code ({ cls := "com/example/tenorbook/tenorbook/model/Fact$ShareChange", name := "isCount", desc := "(J)Z" } : Jvm.MethodName) prog_58_method_2_code (2 : Nat) (Option.some Jvm.ClassFile.FieldType.boolean)).before args0 about1 = true := code_word (m := ⟨4, 0⟩) (meth := k4m0) (c := k4c0) (by decide +kernel) rfl rfl rfl (by decide +kernel)
def codes1 : List Jvm.Cond := [Jvm.Cond.code x code maxLocals ret, Jvm.Cond.code ({ cls := "com/example/tenorbook/tenorbook/model/Fact$ShareChange", name := "isCount", desc := "(J)Z" } : Jvm.MethodName) prog_58_method_2_code (2 : Nat) (Option.some Jvm.ClassFile.FieldType.boolean)]
set_option maxRecDepth 65536 in
theorem codes_eq : words1.filter isCode = codes1 := rfl
theorem w_codes : ∀ c ∈ words1.filter isCode, c.before args0 about1 = true := by
  rw [codes_eq]
  intro c hc
  simp only [codes1, List.mem_cons, List.not_mem_nil, or_false] at hc
  rcases hc with rfl | rfl
  · exact w_c0
  · exact w_c1
set_option maxRecDepth 65536 in
theorem w_t1 : words1.all (fun c => isCode c || c.before args0 about1) = true := by decide +kernel
theorem w_tables : (allAtoms (Jvm.Cond.code x code maxLocals ret :: tables_1)).before args0 about1 = true := by
  rw [allAtoms_all]
  show words1.all (fun c => c.before args0 about1) = true
  refine all_split ?_ w_codes
  rw [w_t1]
set_option maxRecDepth 65536 in
theorem w_case : (Jvm.Cond.and given_1 narrow_1).before args0 about1 = true := by decide +kernel
theorem w_applies : (headSpec (Jvm.Cond.code x code maxLocals ret :: tables_1) room_1).applies x e0.platform about1 = true :=
  (Spec.applies_iff w_frames).mpr ⟨w_running, w_runnable, w_alone, w_named, w_hears, w_ripe, w_room, w_tables⟩
theorem atStart : AtStart classFile x code maxLocals ret World_1 tables_1 room_1 Calls_1 rest_1 Pre_1 launch0 p0 e0 about1 theMethod args0 below0 :=
  ⟨lists_1, trivial, launch0.admits_env _ _ _, launch0.least_env, fairChoices_fair.cas, fairChoices_fair.clock, w_frames, w_args, w_heap, w_applies, trivial, trivial, w_case⟩
end start1
theorem witness_1 : WitnessClaimed_1 := ⟨start1.p0, start1.e0, start1.about1, start1.theMethod, start1.args0, start1.below0, start1.atStart⟩
end Jvm.Pilot.@@N@@
