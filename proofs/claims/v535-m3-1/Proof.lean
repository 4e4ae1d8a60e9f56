import JvmDerived
import JvmDerived.Pilot.@@N@@Statement
import JvmDerived.Pilot.@@N@@Code
set_option linter.unusedVariables false
set_option linter.unusedSimpArgs false
namespace Jvm.RoadKit
open Sem ClassFile Op Lib Jvm.Stand Jvm.Free Jvm.LawKit
section New
variable {p : Program} {l : Launch} {e : Env} {R : Room} {s : State} {m : MethodId} {args : Array Value} {below : List Frame} {meth : Method} {c : Code} {T : State} {locs : List Loc} {cells slots : Nat}
theorem retI (X : Stand p l e R s m args below meth c T locs cells slots) (hx : p.tables.exec = Jvm.exec) {pc : Nat} {Ls : Array Slot} {z : Int32} {rest : List Value} (hret : meth.sig.returnType = some .int) (hd : decode c.code pc = .ok (.ireturn, 1)) {fs : List Frame}
    (hl : ∀ (f : JFrame) (acts : List Action), f.method = m → f.locked = none → f.entered = [] → (doReturn e (T.setTop f) acts (some (.int z))).1 = T.setFrames fs) : Steps p.tables e below (T.setTop (mkF m pc Ls (.int z :: rest))) (T.setFrames fs) := by
  have hm' : T.vm.method? m = some meth := X.method'
  have hn : narrow .int (.int z) = .int z := rfl
  show Steps p.tables e below (T.setTop { method := m, pc := pc, locals := Ls, stack := _ :: rest, locked := none }) _
  jvm_step X.here [X.here.top, hx, hd, hm', hret, hn]
  first | (intro acts; rw [hl _ acts rfl rfl rfl]) | rw [hl _ _ rfl rfl rfl]
  exact Steps.refl _
end New
end Jvm.RoadKit
namespace Jvm.Pilot.@@N@@
open Jvm Jvm.ClassFile Sem Op Lib Jvm.Free Jvm.Stand Jvm.LawKit Jvm.RoadKit Bundle Jvm.Pilot.@@N@@.Jvm.D
/-! the own kit: a run told backwards (Runs), arrays by a function of the place (OArr), the comparisons of longs -/
def Runs (tb : Tables) (e : Env) (below : List Frame) (R : State → Outcome → Prop) (T : State) (g : JFrame) : Prop := ∃ t o, Steps tb e below (T.setTop g) t ∧ R t o
section Own
variable {tb : Tables} {e : Env} {below : List Frame} {R : State → Outcome → Prop} {T T' : State} {g g' : JFrame}
theorem Runs.back (k : ∀ t, Steps tb e below (T'.setTop g') t → Steps tb e below (T.setTop g) t) (h : Runs tb e below R T' g') : Runs tb e below R T g := by
  obtain ⟨t, o, h1, h2⟩ := h; exact ⟨t, o, k t h1, h2⟩
theorem Runs.trans (k : Steps tb e below (T.setTop g) (T'.setTop g')) (h : Runs tb e below R T' g') : Runs tb e below R T g := by
  obtain ⟨t, o, h1, h2⟩ := h; exact ⟨t, o, Steps.trans k h1, h2⟩
theorem Runs.enter (q : g = g') (h : Runs tb e below R T g') : ∃ t o, Steps tb e below (T.setTop g) t ∧ R t o := by subst q; exact h
theorem Runs.join {α : Type} {P : α → Prop} {F : α → JFrame} (h : ∀ v, P v → Runs tb e below R T (F v)) (k : (∀ v, P v → Runs tb e below R T (F v)) → Runs tb e below R T g) : Runs tb e below R T g := k h
theorem Runs.joinT {α : Type} {P : α → State → Prop} {F : α → JFrame} (h : ∀ v T', P v T' → Runs tb e below R T' (F v)) (k : (∀ v T', P v T' → Runs tb e below R T' (F v)) → Runs tb e below R T g) : Runs tb e below R T g := k h
theorem lcT {x y : Int64} (h : x < y) : lcmpW x y < 0 := by
  have h1 : ¬ y < x := Int64.not_lt.mpr (Int64.le_of_lt h)
  have h2 : ¬ x = y := fun q => by subst q; exact Int64.lt_irrefl h
  simp [lcmpW, h1, h2]
theorem lcF {x y : Int64} (h : ¬ x < y) : ¬ lcmpW x y < 0 := by
  unfold lcmpW
  by_cases h1 : x > y
  · simp only [if_pos h1]; decide
  · have h2 : x = y := Int64.le_antisymm (Int64.not_lt.mp h1) (Int64.not_lt.mp h)
    simp only [if_neg h1, if_pos h2]; decide
theorem lcT' {x y : Int64} (h : y < x) : 0 < lcmpW x y := by
  unfold lcmpW; rw [if_pos h]; decide
theorem lcF' {x y : Int64} (h : ¬ y < x) : ¬ 0 < lcmpW x y := by
  unfold lcmpW
  have h1 : ¬ x > y := h
  simp only [if_neg h1]
  by_cases h2 : x = y
  · simp only [if_pos h2]; decide
  · simp only [if_neg h2]; decide
theorem lcE {x y : Int64} (h : x = y) : lcmpW x y = 0 := by
  have h1 : ¬ x > y := fun q => by subst h; exact Int64.lt_irrefl q
  unfold lcmpW; rw [if_neg h1, if_pos h]
theorem lcN {x y : Int64} (h : ¬ x = y) : ¬ lcmpW x y = 0 := by
  unfold lcmpW
  by_cases h1 : x > y
  · simp only [if_pos h1]; decide
  · simp only [if_neg h1, if_neg h]; decide
def OArr (Z : State) (h : Heap) (a : Addr) (ty : FieldType) (n : Nat) (f : Nat → Value) : Prop := ∃ c : Cell, Arr Z h a c ty ∧ c.slots.size = n ∧ ∀ i, i < n → c.slots[i]? = some (f i)
variable {Z : State} {h h' : Heap} {a b : Addr} {ty : FieldType} {n sl : Nat} {f : Nat → Value} {v : Value} {ws : List Addr}
theorem OArr.lt (F : OArr Z h a ty n f) : a < h.size := by obtain ⟨c, A, -⟩ := F; exact A.lt
theorem OArr.ext (F : OArr Z h a ty n f) (E : Ext h h') : OArr Z h' a ty n f := by obtain ⟨c, A, r⟩ := F; exact ⟨c, A.ext E, r⟩
theorem OArr.other (F : OArr Z h b ty n f) (W : Wr h h' a sl v) (q : b ≠ a) : OArr Z h' b ty n f := by obtain ⟨c, A, r⟩ := F; exact ⟨c, A.other W q, r⟩
theorem OArr.keep (F : OArr Z h a ty n f) (K : Keep h h' ws) (q : a ∉ ws) : OArr Z h' a ty n f := by obtain ⟨c, A, r⟩ := F; exact ⟨c, ⟨K.2.1 a c A.1 q, A.2⟩, r⟩
theorem OArr.congr (F : OArr Z h a ty n f) {f' : Nat → Value} (q : ∀ i, i < n → f i = f' i) : OArr Z h a ty n f' := by obtain ⟨c, A, r1, r2⟩ := F; exact ⟨c, A, r1, fun i hi => by rw [r2 i hi, q i hi]⟩
theorem OArr.set (F : OArr Z h a ty n f) (W : Wr h h' a sl v) : OArr Z h' a ty n (fun i => if i = sl then v else f i) := by
  obtain ⟨c, A, r1, r2⟩ := F
  obtain ⟨cell, e1, -, e3, -⟩ := id W
  cases e1.symm.trans A.1
  refine ⟨_, A.same W, by rw [sz_set]; exact r1, fun i hi => ?_⟩
  by_cases q : i = sl
  · subst q; simp [Cell.setSlot, e3]
  · simp only [if_neg q]; rw [← r2 i hi]; exact Array.getElem?_setIfInBounds_ne (Ne.symm q)
theorem OArr.new {cA : ClassId} {z : Int32} (A : Arr Z h a (newA cA ty z) ty) (q : z.toNatClampNeg = n) (hd : defaultValue ty = v) : OArr Z h a ty n (fun _ => v) :=
  ⟨_, A, by rw [sz_new]; exact q, fun i hi => by subst hd; simp [newA, q, hi]⟩
theorem inbO {j : Int32} {k : Nat} (ng : ¬ j < 0) (e : j.toNatClampNeg = k) (h : k < n) : ¬ (j < 0 ∨ n ≤ j.toNatClampNeg) := fun q => q.elim ng fun r => by rw [e] at r; exact absurd h (Nat.not_lt.mpr r)
theorem readO {c : Cell} {j : Int32} {k : Nat} (H : ∀ i, i < n → c.slots[i]? = some (f i)) (e : j.toNatClampNeg = k) (h : k < n) (q : f k = v) : c.slots[j.toNatClampNeg]? = some v := by rw [e, H k h, q]
theorem hideL {p : Program} {l : Launch} {R : Room} {s : State} {m : MethodId} {args : Array Value} {meth : Method} {c : Code} {locs : List Loc} {cells slots n0 : Nat} (X : Stand p l e R s m args below meth c T locs cells slots) (N : Fr n0 locs) : ∃ L, Stand p l e R s m args below meth c T L cells slots ∧ Fr n0 L := ⟨_, X, N⟩
theorem lti {x y : Int32} : x < y ↔ x.toInt < y.toInt := Int32.lt_iff_toInt_lt
theorem ltl {x y : Int64} : x < y ↔ x.toInt < y.toInt := Int64.lt_iff_toInt_lt
theorem eqi {x y : Int32} : x = y ↔ x.toInt = y.toInt := Int32.toInt_inj.symm
theorem eql {x y : Int64} : x = y ↔ x.toInt = y.toInt := Int64.toInt_inj.symm
end Own

theorem adds (x y : Int64) : (x + y) - x = y := by
  have h := c_lsub (x + y) x; have h2 := c_ladd x y
  have a := Int64.toInt_lt ((x + y) - x); have a' := Int64.le_toInt ((x + y) - x); have b := Int64.toInt_lt y; have b' := Int64.le_toInt y
  rw [eql]; omega
theorem d1_0 : decode prog_60_method_8_code 0 = .ok (.aload_n 0, 1) := by decide +kernel
theorem d1_1 : decode prog_60_method_8_code 1 = .ok (.getstatic 3, 3) := by decide +kernel
theorem d1_4 : decode prog_60_method_8_code 4 = .ok (.if_acmp .ne 9, 3) := by decide +kernel
theorem d1_7 : decode prog_60_method_8_code 7 = .ok (.lload_n 1, 1) := by decide +kernel
theorem d1_8 : decode prog_60_method_8_code 8 = .ok (.lload_n 3, 1) := by decide +kernel
theorem d1_9 : decode prog_60_method_8_code 9 = .ok (.ladd, 1) := by decide +kernel
theorem d1_10 : decode prog_60_method_8_code 10 = .ok (.goto 4, 3) := by decide +kernel
theorem d1_13 : decode prog_60_method_8_code 13 = .ok (.lload_n 3, 1) := by decide +kernel
theorem d1_14 : decode prog_60_method_8_code 14 = .ok (.lreturn, 1) := by decide +kernel
theorem pn_1d : plainName "com/example/tenorbook/tenorbook/model/Fact$ShareChange$Cause" = true := by first | (simp [plainName, overriddenIn]; done) | decide +kernel
theorem ef_1d (m : MethodId) (r0 : Addr) (q1 : Int64) (q2 : Int64) : entryFrame m #[(.ref r0), (.long q1), (.long q2)] 5 = mkF m 0 #[.val (.ref r0), .val (.long q1), .second, .val (.long q2), .second] [] := by first | (simp [entryFrame, mkF, argsToLocals, Value.category]; done) | rfl
def Q1d (Z : State) (r0 : Addr) (q1 : Int64) (q2 : Int64)  (h0 : Heap) (n0 : Nat) (v : Option Value) (h : Heap) (L : List Loc) : Prop := v = some (.long (q1 + q2)) ∧ Fr n0 L ∧ h = h0
set_option maxRecDepth 65536 in
set_option maxHeartbeats 40000000 in
theorem rm1d (l : Launch) (Z : State) (a0 : Array Value) (hw : ∀ d ∈ tables_1, d.before a0 Z = true) (ws : List Jvm.Cond) (r0 : Addr) (q1 : Int64) (q2 : Int64)  (h0 : Heap) (n0 : Nat) (Z0 : n0 ≤ h0.size) (S1 : Sta Z h0 "com/example/tenorbook/tenorbook/model/Fact$ShareChange$Cause" "DIVIDEND" "Lcom/example/tenorbook/tenorbook/model/Fact$ShareChange$Cause;" (.ref r0)) :
    MetFree l (⟨"com/example/tenorbook/tenorbook/model/Fact$ShareChange$Cause", "after", "(JJ)J"⟩ : MethodName) (head1 (Jvm.Cond.code (⟨"com/example/tenorbook/tenorbook/model/Fact$ShareChange$Cause", "after", "(JJ)J"⟩ : MethodName) prog_60_method_8_code 5 (some .long) :: ws) ({ frames := 0, cells := 0, slots := 0, locals := 0 } : Room)) (fun a U => a = #[(.ref r0), (.long q1), (.long q2)] ∧ Z.Warmed39 U.vm ∧ U.heap = h0) (fun _ _ _ _ _ => True) (fun _ U o U' => ∃ v L, o = .returned v ∧ Q1d Z r0 q1 q2 h0 n0 v U'.heap L ∧ FrameEnd U o U' L ({ frames := 0, cells := 0, slots := 0, locals := 0 } : Room).cells ({ frames := 0, cells := 0, slots := 0, locals := 0 } : Room).slots) := by
  refine MetFree.of_bodySF (plainFor_of_name pn_1d) hisR ?_
  intro p e s m args below meth c s₁ Bd hml0 hP hK
  obtain ⟨rfl, hZ, hh⟩ := hP
  have hx := Bd.exec
  have hby := Bd.bytes
  have hml : c.maxLocals = 5 := hml0
  have hown : s.vm.findClass "com/example/tenorbook/tenorbook/model/Fact$ShareChange$Cause" = some m.cls := findClass_of_methodNamed Bd.named
  have hnm := (name_of_methodNamed Bd.named Bd.method).1
  have X0 : Stand p l e ({ frames := 0, cells := 0, slots := 0, locals := 0 } : Room) s m #[(.ref r0), (.long q1), (.long q2)] below meth c s₁ [] 0 0 := Stand.of_body Bd
  have e0 : s₁.heap = h0 := by rw [← hh, Bd.state]; rfl
  have N0 := Fr.nil n0
  refine Runs.enter (ef_1d m r0 q1 q2) ?_
  show Runs _ _ _ _ s₁ (mkF m 0 #[.val (.ref r0), .val (.long q1), .second, .val (.long q2), .second] [])
  refine Runs.back (fun t_ k_ => XS.aloadN X0.here hx rfl (hb hby d1_0) rfl rfl k_) ?_
  show Runs _ _ _ _ s₁ (mkF m 1 #[.val (.ref r0), .val (.long q1), .second, .val (.long q2), .second] [(.ref r0)])
  obtain ⟨T1, X1, e1, st1⟩ := getS2 X0 hx hZ hown (host := "") (Or.inl (hw _ (List.mem_of_getElem? (i := 8) rfl))) Via.refl e0 S1 (g := (mkF m 1 #[.val (.ref r0), .val (.long q1), .second, .val (.long q2), .second] [(.ref r0)])) rfl (hb hby d1_1)
  refine Runs.back st1 ?_
  show Runs _ _ _ _ T1 (mkF m 4 #[.val (.ref r0), .val (.long q1), .second, .val (.long q2), .second] [(.ref r0), (.ref r0)])
  refine Runs.back (fun t_ k_ => Jvm.RoadKit.acmp (g := (mkF m 4 #[.val (.ref r0), .val (.long q1), .second, .val (.long q2), .second] [(.ref r0), (.ref r0)])) X1 hx rfl rfl rfl (pc0 := 4) (pc' := 7) (same := true) rfl (hb hby d1_4) rfl (decide_eq_true rfl) (by decide) (by decide) k_) ?_
  show Runs _ _ _ _ T1 (mkF m 7 #[.val (.ref r0), .val (.long q1), .second, .val (.long q2), .second] [])
  refine Runs.back (fun t_ k_ => XS.lloadN X1.here hx rfl (hb hby d1_7) rfl k_) ?_
  show Runs _ _ _ _ T1 (mkF m 8 #[.val (.ref r0), .val (.long q1), .second, .val (.long q2), .second] [(.long q1)])
  refine Runs.back (fun t_ k_ => XS.lloadN X1.here hx rfl (hb hby d1_8) rfl k_) ?_
  show Runs _ _ _ _ T1 (mkF m 9 #[.val (.ref r0), .val (.long q1), .second, .val (.long q2), .second] [(.long q2), (.long q1)])
  refine Runs.back (fun t_ k_ => XS.ladd X1.here hx rfl (hb hby d1_9) rfl k_) ?_
  show Runs _ _ _ _ T1 (mkF m 10 #[.val (.ref r0), .val (.long q1), .second, .val (.long q2), .second] [(.long (q1 + q2))])
  refine Runs.back (fun t_ k_ => XS.goto X1.here hx rfl (pc0 := 10) (pc' := 14) rfl (hb hby d1_10) (by decide) (by decide) k_) ?_
  show Runs _ _ _ _ T1 (mkF m 14 #[.val (.ref r0), .val (.long q1), .second, .val (.long q2), .second] [(.long (q1 + q2))])
  obtain ⟨fs, hr, hrun, hended, hW, hsame⟩ := X1.leave (v := some (.long (q1 + q2))) (fun h => by rw [Bd.returns] at h; cases h)
  exact ⟨_, _, (X1.lreturnOut hx Bd.returns (hb hby d1_14) hr), hrun, hended, _, _, rfl, ⟨rfl, N0, e1⟩, ⟨_, rfl⟩, hW, hsame.mono (by decide) (by decide)⟩
theorem pn_1s : plainName "com/example/tenorbook/tenorbook/model/Fact$ShareChange$Cause" = true := by first | (simp [plainName, overriddenIn]; done) | decide +kernel
theorem ef_1s (m : MethodId) (r0 : Addr) (q1 : Int64) (q2 : Int64) : entryFrame m #[(.ref r0), (.long q1), (.long q2)] 5 = mkF m 0 #[.val (.ref r0), .val (.long q1), .second, .val (.long q2), .second] [] := by first | (simp [entryFrame, mkF, argsToLocals, Value.category]; done) | rfl
def Q1s (Z : State) (r0 : Addr) (q1 : Int64) (q2 : Int64) (dv : Addr) (h0 : Heap) (n0 : Nat) (v : Option Value) (h : Heap) (L : List Loc) : Prop := v = some (.long q2) ∧ Fr n0 L ∧ h = h0
set_option maxRecDepth 65536 in
set_option maxHeartbeats 40000000 in
theorem rm1s (l : Launch) (Z : State) (a0 : Array Value) (hw : ∀ d ∈ tables_1, d.before a0 Z = true) (ws : List Jvm.Cond) (r0 : Addr) (q1 : Int64) (q2 : Int64) (dv : Addr) (h0 : Heap) (n0 : Nat) (Z0 : n0 ≤ h0.size) (S1 : Sta Z h0 "com/example/tenorbook/tenorbook/model/Fact$ShareChange$Cause" "DIVIDEND" "Lcom/example/tenorbook/tenorbook/model/Fact$ShareChange$Cause;" (.ref dv)) (hne : ¬ (r0 = dv)) :
    MetFree l (⟨"com/example/tenorbook/tenorbook/model/Fact$ShareChange$Cause", "after", "(JJ)J"⟩ : MethodName) (head1 (Jvm.Cond.code (⟨"com/example/tenorbook/tenorbook/model/Fact$ShareChange$Cause", "after", "(JJ)J"⟩ : MethodName) prog_60_method_8_code 5 (some .long) :: ws) ({ frames := 0, cells := 0, slots := 0, locals := 0 } : Room)) (fun a U => a = #[(.ref r0), (.long q1), (.long q2)] ∧ Z.Warmed39 U.vm ∧ U.heap = h0) (fun _ _ _ _ _ => True) (fun _ U o U' => ∃ v L, o = .returned v ∧ Q1s Z r0 q1 q2 dv h0 n0 v U'.heap L ∧ FrameEnd U o U' L ({ frames := 0, cells := 0, slots := 0, locals := 0 } : Room).cells ({ frames := 0, cells := 0, slots := 0, locals := 0 } : Room).slots) := by
  refine MetFree.of_bodySF (plainFor_of_name pn_1s) hisR ?_
  intro p e s m args below meth c s₁ Bd hml0 hP hK
  obtain ⟨rfl, hZ, hh⟩ := hP
  have hx := Bd.exec
  have hby := Bd.bytes
  have hml : c.maxLocals = 5 := hml0
  have hown : s.vm.findClass "com/example/tenorbook/tenorbook/model/Fact$ShareChange$Cause" = some m.cls := findClass_of_methodNamed Bd.named
  have hnm := (name_of_methodNamed Bd.named Bd.method).1
  have X0 : Stand p l e ({ frames := 0, cells := 0, slots := 0, locals := 0 } : Room) s m #[(.ref r0), (.long q1), (.long q2)] below meth c s₁ [] 0 0 := Stand.of_body Bd
  have e0 : s₁.heap = h0 := by rw [← hh, Bd.state]; rfl
  have N0 := Fr.nil n0
  refine Runs.enter (ef_1s m r0 q1 q2) ?_
  show Runs _ _ _ _ s₁ (mkF m 0 #[.val (.ref r0), .val (.long q1), .second, .val (.long q2), .second] [])
  refine Runs.back (fun t_ k_ => XS.aloadN X0.here hx rfl (hb hby d1_0) rfl rfl k_) ?_
  show Runs _ _ _ _ s₁ (mkF m 1 #[.val (.ref r0), .val (.long q1), .second, .val (.long q2), .second] [(.ref r0)])
  obtain ⟨T1, X1, e1, st1⟩ := getS2 X0 hx hZ hown (host := "") (Or.inl (hw _ (List.mem_of_getElem? (i := 8) rfl))) Via.refl e0 S1 (g := (mkF m 1 #[.val (.ref r0), .val (.long q1), .second, .val (.long q2), .second] [(.ref r0)])) rfl (hb hby d1_1)
  refine Runs.back st1 ?_
  show Runs _ _ _ _ T1 (mkF m 4 #[.val (.ref r0), .val (.long q1), .second, .val (.long q2), .second] [(.ref dv), (.ref r0)])
  refine Runs.back (fun t_ k_ => Jvm.RoadKit.acmp (g := (mkF m 4 #[.val (.ref r0), .val (.long q1), .second, .val (.long q2), .second] [(.ref dv), (.ref r0)])) X1 hx rfl rfl rfl (pc0 := 4) (pc' := 13) (same := false) rfl (hb hby d1_4) rfl (decide_eq_false fun q => hne (Value.ref.inj q)) (by decide) (by decide) k_) ?_
  show Runs _ _ _ _ T1 (mkF m 13 #[.val (.ref r0), .val (.long q1), .second, .val (.long q2), .second] [])
  refine Runs.back (fun t_ k_ => XS.lloadN X1.here hx rfl (hb hby d1_13) rfl k_) ?_
  show Runs _ _ _ _ T1 (mkF m 14 #[.val (.ref r0), .val (.long q1), .second, .val (.long q2), .second] [(.long q2)])
  obtain ⟨fs, hr, hrun, hended, hW, hsame⟩ := X1.leave (v := some (.long q2)) (fun h => by rw [Bd.returns] at h; cases h)
  exact ⟨_, _, (X1.lreturnOut hx Bd.returns (hb hby d1_14) hr), hrun, hended, _, _, rfl, ⟨rfl, N0, e1⟩, ⟨_, rfl⟩, hW, hsame.mono (by decide) (by decide)⟩
theorem d2_0 : decode prog_60_method_9_code 0 = .ok (.aload_n 0, 1) := by decide +kernel
theorem d2_1 : decode prog_60_method_9_code 1 = .ok (.getstatic 3, 3) := by decide +kernel
theorem d2_4 : decode prog_60_method_9_code 4 = .ok (.if_acmp .ne 9, 3) := by decide +kernel
theorem d2_7 : decode prog_60_method_9_code 7 = .ok (.lload_n 3, 1) := by decide +kernel
theorem d2_8 : decode prog_60_method_9_code 8 = .ok (.lload_n 1, 1) := by decide +kernel
theorem d2_9 : decode prog_60_method_9_code 9 = .ok (.lsub, 1) := by decide +kernel
theorem d2_10 : decode prog_60_method_9_code 10 = .ok (.goto 4, 3) := by decide +kernel
theorem d2_13 : decode prog_60_method_9_code 13 = .ok (.lload_n 3, 1) := by decide +kernel
theorem d2_14 : decode prog_60_method_9_code 14 = .ok (.lreturn, 1) := by decide +kernel
theorem pn_2d : plainName "com/example/tenorbook/tenorbook/model/Fact$ShareChange$Cause" = true := by first | (simp [plainName, overriddenIn]; done) | decide +kernel
theorem ef_2d (m : MethodId) (r0 : Addr) (q1 : Int64) (q2 : Int64) : entryFrame m #[(.ref r0), (.long q1), (.long q2)] 5 = mkF m 0 #[.val (.ref r0), .val (.long q1), .second, .val (.long q2), .second] [] := by first | (simp [entryFrame, mkF, argsToLocals, Value.category]; done) | rfl
def Q2d (Z : State) (r0 : Addr) (q1 : Int64) (q2 : Int64)  (h0 : Heap) (n0 : Nat) (v : Option Value) (h : Heap) (L : List Loc) : Prop := v = some (.long (q2 - q1)) ∧ Fr n0 L ∧ h = h0
set_option maxRecDepth 65536 in
set_option maxHeartbeats 40000000 in
theorem rm2d (l : Launch) (Z : State) (a0 : Array Value) (hw : ∀ d ∈ tables_1, d.before a0 Z = true) (ws : List Jvm.Cond) (r0 : Addr) (q1 : Int64) (q2 : Int64)  (h0 : Heap) (n0 : Nat) (Z0 : n0 ≤ h0.size) (S1 : Sta Z h0 "com/example/tenorbook/tenorbook/model/Fact$ShareChange$Cause" "DIVIDEND" "Lcom/example/tenorbook/tenorbook/model/Fact$ShareChange$Cause;" (.ref r0)) :
    MetFree l (⟨"com/example/tenorbook/tenorbook/model/Fact$ShareChange$Cause", "second", "(JJ)J"⟩ : MethodName) (head1 (Jvm.Cond.code (⟨"com/example/tenorbook/tenorbook/model/Fact$ShareChange$Cause", "second", "(JJ)J"⟩ : MethodName) prog_60_method_9_code 5 (some .long) :: ws) ({ frames := 0, cells := 0, slots := 0, locals := 0 } : Room)) (fun a U => a = #[(.ref r0), (.long q1), (.long q2)] ∧ Z.Warmed39 U.vm ∧ U.heap = h0) (fun _ _ _ _ _ => True) (fun _ U o U' => ∃ v L, o = .returned v ∧ Q2d Z r0 q1 q2 h0 n0 v U'.heap L ∧ FrameEnd U o U' L ({ frames := 0, cells := 0, slots := 0, locals := 0 } : Room).cells ({ frames := 0, cells := 0, slots := 0, locals := 0 } : Room).slots) := by
  refine MetFree.of_bodySF (plainFor_of_name pn_2d) hisR ?_
  intro p e s m args below meth c s₁ Bd hml0 hP hK
  obtain ⟨rfl, hZ, hh⟩ := hP
  have hx := Bd.exec
  have hby := Bd.bytes
  have hml : c.maxLocals = 5 := hml0
  have hown : s.vm.findClass "com/example/tenorbook/tenorbook/model/Fact$ShareChange$Cause" = some m.cls := findClass_of_methodNamed Bd.named
  have hnm := (name_of_methodNamed Bd.named Bd.method).1
  have X0 : Stand p l e ({ frames := 0, cells := 0, slots := 0, locals := 0 } : Room) s m #[(.ref r0), (.long q1), (.long q2)] below meth c s₁ [] 0 0 := Stand.of_body Bd
  have e0 : s₁.heap = h0 := by rw [← hh, Bd.state]; rfl
  have N0 := Fr.nil n0
  refine Runs.enter (ef_2d m r0 q1 q2) ?_
  show Runs _ _ _ _ s₁ (mkF m 0 #[.val (.ref r0), .val (.long q1), .second, .val (.long q2), .second] [])
  refine Runs.back (fun t_ k_ => XS.aloadN X0.here hx rfl (hb hby d2_0) rfl rfl k_) ?_
  show Runs _ _ _ _ s₁ (mkF m 1 #[.val (.ref r0), .val (.long q1), .second, .val (.long q2), .second] [(.ref r0)])
  obtain ⟨T1, X1, e1, st1⟩ := getS2 X0 hx hZ hown (host := "") (Or.inl (hw _ (List.mem_of_getElem? (i := 8) rfl))) Via.refl e0 S1 (g := (mkF m 1 #[.val (.ref r0), .val (.long q1), .second, .val (.long q2), .second] [(.ref r0)])) rfl (hb hby d2_1)
  refine Runs.back st1 ?_
  show Runs _ _ _ _ T1 (mkF m 4 #[.val (.ref r0), .val (.long q1), .second, .val (.long q2), .second] [(.ref r0), (.ref r0)])
  refine Runs.back (fun t_ k_ => Jvm.RoadKit.acmp (g := (mkF m 4 #[.val (.ref r0), .val (.long q1), .second, .val (.long q2), .second] [(.ref r0), (.ref r0)])) X1 hx rfl rfl rfl (pc0 := 4) (pc' := 7) (same := true) rfl (hb hby d2_4) rfl (decide_eq_true rfl) (by decide) (by decide) k_) ?_
  show Runs _ _ _ _ T1 (mkF m 7 #[.val (.ref r0), .val (.long q1), .second, .val (.long q2), .second] [])
  refine Runs.back (fun t_ k_ => XS.lloadN X1.here hx rfl (hb hby d2_7) rfl k_) ?_
  show Runs _ _ _ _ T1 (mkF m 8 #[.val (.ref r0), .val (.long q1), .second, .val (.long q2), .second] [(.long q2)])
  refine Runs.back (fun t_ k_ => XS.lloadN X1.here hx rfl (hb hby d2_8) rfl k_) ?_
  show Runs _ _ _ _ T1 (mkF m 9 #[.val (.ref r0), .val (.long q1), .second, .val (.long q2), .second] [(.long q1), (.long q2)])
  refine Runs.back (fun t_ k_ => XS.lsub X1.here hx rfl (hb hby d2_9) rfl k_) ?_
  show Runs _ _ _ _ T1 (mkF m 10 #[.val (.ref r0), .val (.long q1), .second, .val (.long q2), .second] [(.long (q2 - q1))])
  refine Runs.back (fun t_ k_ => XS.goto X1.here hx rfl (pc0 := 10) (pc' := 14) rfl (hb hby d2_10) (by decide) (by decide) k_) ?_
  show Runs _ _ _ _ T1 (mkF m 14 #[.val (.ref r0), .val (.long q1), .second, .val (.long q2), .second] [(.long (q2 - q1))])
  obtain ⟨fs, hr, hrun, hended, hW, hsame⟩ := X1.leave (v := some (.long (q2 - q1))) (fun h => by rw [Bd.returns] at h; cases h)
  exact ⟨_, _, (X1.lreturnOut hx Bd.returns (hb hby d2_14) hr), hrun, hended, _, _, rfl, ⟨rfl, N0, e1⟩, ⟨_, rfl⟩, hW, hsame.mono (by decide) (by decide)⟩
theorem pn_2s : plainName "com/example/tenorbook/tenorbook/model/Fact$ShareChange$Cause" = true := by first | (simp [plainName, overriddenIn]; done) | decide +kernel
theorem ef_2s (m : MethodId) (r0 : Addr) (q1 : Int64) (q2 : Int64) : entryFrame m #[(.ref r0), (.long q1), (.long q2)] 5 = mkF m 0 #[.val (.ref r0), .val (.long q1), .second, .val (.long q2), .second] [] := by first | (simp [entryFrame, mkF, argsToLocals, Value.category]; done) | rfl
def Q2s (Z : State) (r0 : Addr) (q1 : Int64) (q2 : Int64) (dv : Addr) (h0 : Heap) (n0 : Nat) (v : Option Value) (h : Heap) (L : List Loc) : Prop := v = some (.long q2) ∧ Fr n0 L ∧ h = h0
set_option maxRecDepth 65536 in
set_option maxHeartbeats 40000000 in
theorem rm2s (l : Launch) (Z : State) (a0 : Array Value) (hw : ∀ d ∈ tables_1, d.before a0 Z = true) (ws : List Jvm.Cond) (r0 : Addr) (q1 : Int64) (q2 : Int64) (dv : Addr) (h0 : Heap) (n0 : Nat) (Z0 : n0 ≤ h0.size) (S1 : Sta Z h0 "com/example/tenorbook/tenorbook/model/Fact$ShareChange$Cause" "DIVIDEND" "Lcom/example/tenorbook/tenorbook/model/Fact$ShareChange$Cause;" (.ref dv)) (hne : ¬ (r0 = dv)) :
    MetFree l (⟨"com/example/tenorbook/tenorbook/model/Fact$ShareChange$Cause", "second", "(JJ)J"⟩ : MethodName) (head1 (Jvm.Cond.code (⟨"com/example/tenorbook/tenorbook/model/Fact$ShareChange$Cause", "second", "(JJ)J"⟩ : MethodName) prog_60_method_9_code 5 (some .long) :: ws) ({ frames := 0, cells := 0, slots := 0, locals := 0 } : Room)) (fun a U => a = #[(.ref r0), (.long q1), (.long q2)] ∧ Z.Warmed39 U.vm ∧ U.heap = h0) (fun _ _ _ _ _ => True) (fun _ U o U' => ∃ v L, o = .returned v ∧ Q2s Z r0 q1 q2 dv h0 n0 v U'.heap L ∧ FrameEnd U o U' L ({ frames := 0, cells := 0, slots := 0, locals := 0 } : Room).cells ({ frames := 0, cells := 0, slots := 0, locals := 0 } : Room).slots) := by
  refine MetFree.of_bodySF (plainFor_of_name pn_2s) hisR ?_
  intro p e s m args below meth c s₁ Bd hml0 hP hK
  obtain ⟨rfl, hZ, hh⟩ := hP
  have hx := Bd.exec
  have hby := Bd.bytes
  have hml : c.maxLocals = 5 := hml0
  have hown : s.vm.findClass "com/example/tenorbook/tenorbook/model/Fact$ShareChange$Cause" = some m.cls := findClass_of_methodNamed Bd.named
  have hnm := (name_of_methodNamed Bd.named Bd.method).1
  have X0 : Stand p l e ({ frames := 0, cells := 0, slots := 0, locals := 0 } : Room) s m #[(.ref r0), (.long q1), (.long q2)] below meth c s₁ [] 0 0 := Stand.of_body Bd
  have e0 : s₁.heap = h0 := by rw [← hh, Bd.state]; rfl
  have N0 := Fr.nil n0
  refine Runs.enter (ef_2s m r0 q1 q2) ?_
  show Runs _ _ _ _ s₁ (mkF m 0 #[.val (.ref r0), .val (.long q1), .second, .val (.long q2), .second] [])
  refine Runs.back (fun t_ k_ => XS.aloadN X0.here hx rfl (hb hby d2_0) rfl rfl k_) ?_
  show Runs _ _ _ _ s₁ (mkF m 1 #[.val (.ref r0), .val (.long q1), .second, .val (.long q2), .second] [(.ref r0)])
  obtain ⟨T1, X1, e1, st1⟩ := getS2 X0 hx hZ hown (host := "") (Or.inl (hw _ (List.mem_of_getElem? (i := 8) rfl))) Via.refl e0 S1 (g := (mkF m 1 #[.val (.ref r0), .val (.long q1), .second, .val (.long q2), .second] [(.ref r0)])) rfl (hb hby d2_1)
  refine Runs.back st1 ?_
  show Runs _ _ _ _ T1 (mkF m 4 #[.val (.ref r0), .val (.long q1), .second, .val (.long q2), .second] [(.ref dv), (.ref r0)])
  refine Runs.back (fun t_ k_ => Jvm.RoadKit.acmp (g := (mkF m 4 #[.val (.ref r0), .val (.long q1), .second, .val (.long q2), .second] [(.ref dv), (.ref r0)])) X1 hx rfl rfl rfl (pc0 := 4) (pc' := 13) (same := false) rfl (hb hby d2_4) rfl (decide_eq_false fun q => hne (Value.ref.inj q)) (by decide) (by decide) k_) ?_
  show Runs _ _ _ _ T1 (mkF m 13 #[.val (.ref r0), .val (.long q1), .second, .val (.long q2), .second] [])
  refine Runs.back (fun t_ k_ => XS.lloadN X1.here hx rfl (hb hby d2_13) rfl k_) ?_
  show Runs _ _ _ _ T1 (mkF m 14 #[.val (.ref r0), .val (.long q1), .second, .val (.long q2), .second] [(.long q2)])
  obtain ⟨fs, hr, hrun, hended, hW, hsame⟩ := X1.leave (v := some (.long q2)) (fun h => by rw [Bd.returns] at h; cases h)
  exact ⟨_, _, (X1.lreturnOut hx Bd.returns (hb hby d2_14) hr), hrun, hended, _, _, rfl, ⟨rfl, N0, e1⟩, ⟨_, rfl⟩, hW, hsame.mono (by decide) (by decide)⟩
theorem pn_0 : plainName "com/example/tenorbook/tenorbook/model/CauseAfterPinLaw" = true := by first | (simp [plainName, overriddenIn]; done) | decide +kernel
theorem pd0_0 : parseMethodDescriptor "(JJ)J" = some ⟨[.long, .long], some .long⟩ := by decide +kernel
theorem ef_0 (m : MethodId) (p0 : Int32) (q1 : Int64) (q2 : Int64) (q3 : Int64) : entryFrame m #[(.int p0), (.long q1), (.long q2), (.long q3)] maxLocals = mkF m 0 #[.val (.int p0), .val (.long q1), .second, .val (.long q2), .second, .val (.long q3), .second, .unset, .unset, .unset, .unset, .unset] [] := by first | (simp [entryFrame, mkF, argsToLocals, Value.category, maxLocals]; done) | rfl
def Q0 (Z : State) (p0 : Int32) (q1 : Int64) (q2 : Int64) (q3 : Int64) (dv sp : Addr) (h0 : Heap) (n0 : Nat) (v : Option Value) (h : Heap) (L : List Loc) : Prop := v = some (.int 1) ∧ Fr n0 L
set_option maxRecDepth 65536 in
set_option maxHeartbeats 40000000 in
theorem rm0 (l : Launch) (Z : State) (a0 : Array Value) (hw : ∀ d ∈ tables_1, d.before a0 Z = true) (ws : List Jvm.Cond) (p0 : Int32) (q1 : Int64) (q2 : Int64) (q3 : Int64) (dv sp : Addr) (h0 : Heap) (n0 : Nat) (Z0 : n0 ≤ h0.size) (S1 : Sta Z h0 "com/example/tenorbook/tenorbook/model/Fact$ShareChange$Cause" "DIVIDEND" "Lcom/example/tenorbook/tenorbook/model/Fact$ShareChange$Cause;" (.ref dv)) (S2 : Sta Z h0 "com/example/tenorbook/tenorbook/model/Fact$ShareChange$Cause" "SPLIT" "Lcom/example/tenorbook/tenorbook/model/Fact$ShareChange$Cause;" (.ref sp)) (E1 : Exa Z h0 dv "com/example/tenorbook/tenorbook/model/Fact$ShareChange$Cause") (E2 : Exa Z h0 sp "com/example/tenorbook/tenorbook/model/Fact$ShareChange$Cause") (hne : ¬ (sp = dv)) :
    MetFree l x (head1 (Jvm.Cond.code x code maxLocals ret :: ws) room_1) (fun a U => a = #[(.int p0), (.long q1), (.long q2), (.long q3)] ∧ Z.Warmed39 U.vm ∧ U.heap = h0) (fun _ _ _ _ _ => True) (fun _ U o U' => ∃ v L, o = .returned v ∧ Q0 Z p0 q1 q2 q3 dv sp h0 n0 v U'.heap L ∧ FrameEnd U o U' L 0 0) := by
  refine MetFree.of_bodySF (plainFor_of_name pn_0) hisR ?_
  intro p e s m args below meth c s₁ Bd hml0 hP hK
  obtain ⟨rfl, hZ, hh⟩ := hP
  have hx := Bd.exec
  have hby := Bd.bytes
  have hml : c.maxLocals = 12 := hml0
  have hown : s.vm.findClass "com/example/tenorbook/tenorbook/model/CauseAfterPinLaw" = some m.cls := findClass_of_methodNamed Bd.named
  have hnm := (name_of_methodNamed Bd.named Bd.method).1
  have X0 : Stand p l e room_1 s m #[(.int p0), (.long q1), (.long q2), (.long q3)] below meth c s₁ [] 0 0 := Stand.of_body Bd
  have e0 : s₁.heap = h0 := by rw [← hh, Bd.state]; rfl
  have N0 := Fr.nil n0
  refine Runs.enter (ef_0 m p0 q1 q2 q3) ?_
  show Runs _ _ _ _ s₁ (mkF m 0 #[.val (.int p0), .val (.long q1), .second, .val (.long q2), .second, .val (.long q3), .second, .unset, .unset, .unset, .unset, .unset] [])
  refine Runs.back (fun t_ k_ => XS.iloadN X0.here hx rfl (hb hby at_0) rfl k_) ?_
  show Runs _ _ _ _ s₁ (mkF m 1 #[.val (.int p0), .val (.long q1), .second, .val (.long q2), .second, .val (.long q3), .second, .unset, .unset, .unset, .unset, .unset] [(.int p0)])
  refine Runs.back (fun t_ k_ => XS.iconst X0.here hx rfl (hb hby at_1) k_) ?_
  show Runs _ _ _ _ s₁ (mkF m 2 #[.val (.int p0), .val (.long q1), .second, .val (.long q2), .second, .val (.long q3), .second, .unset, .unset, .unset, .unset, .unset] [(.int (1 : Int32)), (.int p0)])
  refine Runs.back (fun t_ k_ => XS.iand X0.here hx rfl (hb hby at_2) rfl k_) ?_
  show Runs _ _ _ _ s₁ (mkF m 3 #[.val (.int p0), .val (.long q1), .second, .val (.long q2), .second, .val (.long q3), .second, .unset, .unset, .unset, .unset, .unset] [(.int (p0 &&& (1 : Int32)))])
  by_cases c3_1 : (p0 &&& (1 : Int32)) = (0 : Int32)
  · refine Runs.back (fun t_ k_ => XS.ifYes X0.here hx rfl (pc0 := 3) (pc' := 10) rfl (hb hby at_3) rfl ((if0 _ _).trans (teq c3_1).1) (by decide) (by decide) k_) ?_
    show Runs _ _ _ _ s₁ (mkF m 10 #[.val (.int p0), .val (.long q1), .second, .val (.long q2), .second, .val (.long q3), .second, .unset, .unset, .unset, .unset, .unset] [])
    refine Runs.back (fun t_ k_ => XS.iconst X0.here hx rfl (hb hby at_10) k_) ?_
    show Runs _ _ _ _ s₁ (mkF m 11 #[.val (.int p0), .val (.long q1), .second, .val (.long q2), .second, .val (.long q3), .second, .unset, .unset, .unset, .unset, .unset] [(.int (0 : Int32))])
    refine Runs.back (fun t_ k_ => XS.istore X0.here hx rfl (hb hby at_11) rfl (l' := #[.val (.int p0), .val (.long q1), .second, .val (.long q2), .second, .val (.long q3), .second, .val (.int (0 : Int32)), .unset, .unset, .unset, .unset]) rfl k_) ?_
    show Runs _ _ _ _ s₁ (mkF m 13 #[.val (.int p0), .val (.long q1), .second, .val (.long q2), .second, .val (.long q3), .second, .val (.int (0 : Int32)), .unset, .unset, .unset, .unset] [])
    refine Runs.back (fun t_ k_ => XS.iload X0.here hx rfl (hb hby at_13) rfl k_) ?_
    show Runs _ _ _ _ s₁ (mkF m 15 #[.val (.int p0), .val (.long q1), .second, .val (.long q2), .second, .val (.long q3), .second, .val (.int (0 : Int32)), .unset, .unset, .unset, .unset] [(.int (0 : Int32))])
    refine Runs.back (fun t_ k_ => XS.ifYes X0.here hx rfl (pc0 := 15) (pc' := 24) rfl (hb hby at_15) rfl ((if0 _ _).trans (teq (show (0 : Int32) = (0 : Int32) from rfl)).1) (by decide) (by decide) k_) ?_
    show Runs _ _ _ _ s₁ (mkF m 24 #[.val (.int p0), .val (.long q1), .second, .val (.long q2), .second, .val (.long q3), .second, .val (.int (0 : Int32)), .unset, .unset, .unset, .unset] [])
    obtain ⟨T2, X2, e2, st2⟩ := getS2 X0 hx hZ hown (host := "") (Or.inl (hw _ (List.mem_of_getElem? (i := 0) rfl))) Via.refl e0 S2 (g := (mkF m 24 #[.val (.int p0), .val (.long q1), .second, .val (.long q2), .second, .val (.long q3), .second, .val (.int (0 : Int32)), .unset, .unset, .unset, .unset] [])) rfl (hb hby at_24)
    refine Runs.back st2 ?_
    show Runs _ _ _ _ T2 (mkF m 27 #[.val (.int p0), .val (.long q1), .second, .val (.long q2), .second, .val (.long q3), .second, .val (.int (0 : Int32)), .unset, .unset, .unset, .unset] [(.ref sp)])
    refine Runs.back (fun t_ k_ => XS.astore X2.here hx rfl (hb hby at_27) rfl rfl (l' := #[.val (.int p0), .val (.long q1), .second, .val (.long q2), .second, .val (.long q3), .second, .val (.int (0 : Int32)), .val (.ref sp), .unset, .unset, .unset]) rfl k_) ?_
    show Runs _ _ _ _ T2 (mkF m 29 #[.val (.int p0), .val (.long q1), .second, .val (.long q2), .second, .val (.long q3), .second, .val (.int (0 : Int32)), .val (.ref sp), .unset, .unset, .unset] [])
    refine Runs.back (fun t_ k_ => XS.aload X2.here hx rfl (hb hby at_29) rfl rfl k_) ?_
    show Runs _ _ _ _ T2 (mkF m 31 #[.val (.int p0), .val (.long q1), .second, .val (.long q2), .second, .val (.long q3), .second, .val (.int (0 : Int32)), .val (.ref sp), .unset, .unset, .unset] [(.ref sp)])
    refine Runs.back (fun t_ k_ => XS.lloadN X2.here hx rfl (hb hby at_31) rfl k_) ?_
    show Runs _ _ _ _ T2 (mkF m 32 #[.val (.int p0), .val (.long q1), .second, .val (.long q2), .second, .val (.long q3), .second, .val (.int (0 : Int32)), .val (.ref sp), .unset, .unset, .unset] [(.long q1), (.ref sp)])
    refine Runs.back (fun t_ k_ => XS.lloadN X2.here hx rfl (hb hby at_32) rfl k_) ?_
    show Runs _ _ _ _ T2 (mkF m 33 #[.val (.int p0), .val (.long q1), .second, .val (.long q2), .second, .val (.long q3), .second, .val (.int (0 : Int32)), .val (.ref sp), .unset, .unset, .unset] [(.long q2), (.long q1), (.ref sp)])
    obtain ⟨cq3, kq3, q3a, q3b, q3c⟩ := isOf hZ e2 E2
    obtain ⟨_, _, ⟨T3, L3, k3, n3⟩, -, X3, ⟨Lc3, hQ3, l3, y3, z3⟩, st3⟩ := X2.virtualBack hx (y := (⟨"com/example/tenorbook/tenorbook/model/Fact$ShareChange$Cause", "after", "(JJ)J"⟩ : MethodName)) (z := (⟨"com/example/tenorbook/tenorbook/model/Fact$ShareChange$Cause", "after", "(JJ)J"⟩ : MethodName)) hown (mvT hZ (hw _ (List.mem_of_getElem? (i := 3) rfl))) (mvT hZ (hw _ (List.mem_of_getElem? (i := 4) rfl))) (notFace_of_selects (args := #[]) (mvT hZ (hw _ (List.mem_of_getElem? (i := 6) rfl)))) (mvT hZ (hw _ (List.mem_of_getElem? (i := 6) rfl))) (mvT hZ (hw _ (List.mem_of_getElem? (i := 5) rfl))) (by decide) (backOf (W := 0) (rm1s l Z a0 hw [] sp q1 q2 dv h0 n0 (Z0) S1 hne) hZ (hw _ (List.mem_of_getElem? (i := 7) rfl)) (hw _ (List.mem_of_getElem? (i := 1) rfl)) (by decide) (by decide)) q3a q3c (g := (mkF m 33 #[.val (.int p0), .val (.long q1), .second, .val (.long q2), .second, .val (.long q3), .second, .val (.int (0 : Int32)), .val (.ref sp), .unset, .unset, .unset] [(.long q2), (.long q1), (.ref sp)])) rfl (by rw [hml]; rfl) (Steps.refl _) (argsL := [(.long q1), (.long q2)]) (rest := []) (lenOf pd0_0 rfl) rfl (by show 2 * 0 + _ ≤ _; exact Nat.le_of_eq rfl) (hb hby at_33) (fun _ _ => ⟨rfl, e2, (by decide : 0 + 0 ≤ _), (by decide : 0 + 0 ≤ _)⟩)
    dsimp only [Pt.U, Pt.locs, Pt.cells, Pt.slots] at X3 l3 y3 z3 st3 hQ3
    obtain rfl : k3 = 0 := y3
    obtain rfl : n3 = 0 := z3
    obtain ⟨rfl, N3q, eq3⟩ := hQ3
    have N3 : Fr n0 L3 := by rw [l3]; exact Fr.app N0 N3q
    clear l3
    refine Runs.trans st3 ?_
    show Runs _ _ _ _ T3 (mkF m 36 #[.val (.int p0), .val (.long q1), .second, .val (.long q2), .second, .val (.long q3), .second, .val (.int (0 : Int32)), .val (.ref sp), .unset, .unset, .unset] [(.long q2)])
    refine Runs.back (fun t_ k_ => XS.lstore X3.here hx rfl (hb hby at_36) rfl (l' := #[.val (.int p0), .val (.long q1), .second, .val (.long q2), .second, .val (.long q3), .second, .val (.int (0 : Int32)), .val (.ref sp), .val (.long q2), .second, .unset]) rfl k_) ?_
    show Runs _ _ _ _ T3 (mkF m 38 #[.val (.int p0), .val (.long q1), .second, .val (.long q2), .second, .val (.long q3), .second, .val (.int (0 : Int32)), .val (.ref sp), .val (.long q2), .second, .unset] [])
    refine Runs.back (fun t_ k_ => XS.aload X3.here hx rfl (hb hby at_38) rfl rfl k_) ?_
    show Runs _ _ _ _ T3 (mkF m 40 #[.val (.int p0), .val (.long q1), .second, .val (.long q2), .second, .val (.long q3), .second, .val (.int (0 : Int32)), .val (.ref sp), .val (.long q2), .second, .unset] [(.ref sp)])
    refine Runs.back (fun t_ k_ => XS.lloadN X3.here hx rfl (hb hby at_40) rfl k_) ?_
    show Runs _ _ _ _ T3 (mkF m 41 #[.val (.int p0), .val (.long q1), .second, .val (.long q2), .second, .val (.long q3), .second, .val (.int (0 : Int32)), .val (.ref sp), .val (.long q2), .second, .unset] [(.long q1), (.ref sp)])
    refine Runs.back (fun t_ k_ => XS.lload X3.here hx rfl (hb hby at_41) rfl k_) ?_
    show Runs _ _ _ _ T3 (mkF m 43 #[.val (.int p0), .val (.long q1), .second, .val (.long q2), .second, .val (.long q3), .second, .val (.int (0 : Int32)), .val (.ref sp), .val (.long q2), .second, .unset] [(.long q2), (.long q1), (.ref sp)])
    obtain ⟨cq4, kq4, q4a, q4b, q4c⟩ := isOf hZ eq3 E2
    obtain ⟨_, _, ⟨T4, L4, k4, n4⟩, -, X4, ⟨Lc4, hQ4, l4, y4, z4⟩, st4⟩ := X3.virtualBack hx (y := (⟨"com/example/tenorbook/tenorbook/model/Fact$ShareChange$Cause", "second", "(JJ)J"⟩ : MethodName)) (z := (⟨"com/example/tenorbook/tenorbook/model/Fact$ShareChange$Cause", "second", "(JJ)J"⟩ : MethodName)) hown (mvT hZ (hw _ (List.mem_of_getElem? (i := 10) rfl))) (mvT hZ (hw _ (List.mem_of_getElem? (i := 11) rfl))) (notFace_of_selects (args := #[]) (mvT hZ (hw _ (List.mem_of_getElem? (i := 13) rfl)))) (mvT hZ (hw _ (List.mem_of_getElem? (i := 13) rfl))) (mvT hZ (hw _ (List.mem_of_getElem? (i := 12) rfl))) (by decide) (backOf (W := 0) (rm2s l Z a0 hw [] sp q1 q2 dv h0 n0 (Z0) S1 hne) hZ (hw _ (List.mem_of_getElem? (i := 14) rfl)) (hw _ (List.mem_of_getElem? (i := 1) rfl)) (by decide) (by decide)) q4a q4c (g := (mkF m 43 #[.val (.int p0), .val (.long q1), .second, .val (.long q2), .second, .val (.long q3), .second, .val (.int (0 : Int32)), .val (.ref sp), .val (.long q2), .second, .unset] [(.long q2), (.long q1), (.ref sp)])) rfl (by rw [hml]; rfl) (Steps.refl _) (argsL := [(.long q1), (.long q2)]) (rest := []) (lenOf pd0_0 rfl) rfl (by show 2 * 0 + _ ≤ _; exact Nat.le_of_eq rfl) (hb hby at_43) (fun _ _ => ⟨rfl, eq3, (by decide : 0 + 0 ≤ _), (by decide : 0 + 0 ≤ _)⟩)
    dsimp only [Pt.U, Pt.locs, Pt.cells, Pt.slots] at X4 l4 y4 z4 st4 hQ4
    obtain rfl : k4 = 0 := y4
    obtain rfl : n4 = 0 := z4
    obtain ⟨rfl, N4q, eq4⟩ := hQ4
    have N4 : Fr n0 L4 := by rw [l4]; exact Fr.app N3 N4q
    clear l4
    refine Runs.trans st4 ?_
    show Runs _ _ _ _ T4 (mkF m 46 #[.val (.int p0), .val (.long q1), .second, .val (.long q2), .second, .val (.long q3), .second, .val (.int (0 : Int32)), .val (.ref sp), .val (.long q2), .second, .unset] [(.long q2)])
    refine Runs.back (fun t_ k_ => XS.lloadN X4.here hx rfl (hb hby at_46) rfl k_) ?_
    show Runs _ _ _ _ T4 (mkF m 47 #[.val (.int p0), .val (.long q1), .second, .val (.long q2), .second, .val (.long q3), .second, .val (.int (0 : Int32)), .val (.ref sp), .val (.long q2), .second, .unset] [(.long q2), (.long q2)])
    refine Runs.back (fun t_ k_ => XS.lcmp X4.here hx rfl (hb hby at_47) rfl k_) ?_
    show Runs _ _ _ _ T4 (mkF m 48 #[.val (.int p0), .val (.long q1), .second, .val (.long q2), .second, .val (.long q3), .second, .val (.int (0 : Int32)), .val (.ref sp), .val (.long q2), .second, .unset] [(.int (lcmpW q2 q2))])
    refine Runs.back (fun t_ k_ => XS.ifNo X4.here hx rfl (hb hby at_48) rfl ((if0 _ _).trans (teq (lcE (show q2 = q2 from rfl))).2) k_) ?_
    show Runs _ _ _ _ T4 (mkF m 51 #[.val (.int p0), .val (.long q1), .second, .val (.long q2), .second, .val (.long q3), .second, .val (.int (0 : Int32)), .val (.ref sp), .val (.long q2), .second, .unset] [])
    refine Runs.back (fun t_ k_ => XS.iconst X4.here hx rfl (hb hby at_51) k_) ?_
    show Runs _ _ _ _ T4 (mkF m 52 #[.val (.int p0), .val (.long q1), .second, .val (.long q2), .second, .val (.long q3), .second, .val (.int (0 : Int32)), .val (.ref sp), .val (.long q2), .second, .unset] [(.int (1 : Int32))])
    refine Runs.back (fun t_ k_ => XS.goto X4.here hx rfl (pc0 := 52) (pc' := 56) rfl (hb hby at_52) (by decide) (by decide) k_) ?_
    show Runs _ _ _ _ T4 (mkF m 56 #[.val (.int p0), .val (.long q1), .second, .val (.long q2), .second, .val (.long q3), .second, .val (.int (0 : Int32)), .val (.ref sp), .val (.long q2), .second, .unset] [(.int (1 : Int32))])
    refine Runs.back (fun t_ k_ => XS.istore X4.here hx rfl (hb hby at_56) rfl (l' := #[.val (.int p0), .val (.long q1), .second, .val (.long q2), .second, .val (.long q3), .second, .val (.int (0 : Int32)), .val (.ref sp), .val (.long q2), .second, .val (.int (1 : Int32))]) rfl k_) ?_
    show Runs _ _ _ _ T4 (mkF m 58 #[.val (.int p0), .val (.long q1), .second, .val (.long q2), .second, .val (.long q3), .second, .val (.int (0 : Int32)), .val (.ref sp), .val (.long q2), .second, .val (.int (1 : Int32))] [])
    refine Runs.back (fun t_ k_ => XS.iload X4.here hx rfl (hb hby at_58) rfl k_) ?_
    show Runs _ _ _ _ T4 (mkF m 60 #[.val (.int p0), .val (.long q1), .second, .val (.long q2), .second, .val (.long q3), .second, .val (.int (0 : Int32)), .val (.ref sp), .val (.long q2), .second, .val (.int (1 : Int32))] [(.int (0 : Int32))])
    refine Runs.back (fun t_ k_ => XS.ifYes X4.here hx rfl (pc0 := 60) (pc' := 105) rfl (hb hby at_60) rfl ((if0 _ _).trans (teq (show (0 : Int32) = (0 : Int32) from rfl)).1) (by decide) (by decide) k_) ?_
    show Runs _ _ _ _ T4 (mkF m 105 #[.val (.int p0), .val (.long q1), .second, .val (.long q2), .second, .val (.long q3), .second, .val (.int (0 : Int32)), .val (.ref sp), .val (.long q2), .second, .val (.int (1 : Int32))] [])
    refine Runs.back (fun t_ k_ => XS.iload X4.here hx rfl (hb hby at_105) rfl k_) ?_
    show Runs _ _ _ _ T4 (mkF m 107 #[.val (.int p0), .val (.long q1), .second, .val (.long q2), .second, .val (.long q3), .second, .val (.int (0 : Int32)), .val (.ref sp), .val (.long q2), .second, .val (.int (1 : Int32))] [(.int (1 : Int32))])
    refine Runs.back (fun t_ k_ => XS.ifNo X4.here hx rfl (hb hby at_107) rfl ((if0 _ _).trans (feq (show ¬ ((1 : Int32) = (0 : Int32)) from (by decide))).1) k_) ?_
    show Runs _ _ _ _ T4 (mkF m 110 #[.val (.int p0), .val (.long q1), .second, .val (.long q2), .second, .val (.long q3), .second, .val (.int (0 : Int32)), .val (.ref sp), .val (.long q2), .second, .val (.int (1 : Int32))] [])
    refine Runs.back (fun t_ k_ => XS.lload X4.here hx rfl (hb hby at_110) rfl k_) ?_
    show Runs _ _ _ _ T4 (mkF m 112 #[.val (.int p0), .val (.long q1), .second, .val (.long q2), .second, .val (.long q3), .second, .val (.int (0 : Int32)), .val (.ref sp), .val (.long q2), .second, .val (.int (1 : Int32))] [(.long q2)])
    refine Runs.back (fun t_ k_ => XS.lloadN X4.here hx rfl (hb hby at_112) rfl k_) ?_
    show Runs _ _ _ _ T4 (mkF m 113 #[.val (.int p0), .val (.long q1), .second, .val (.long q2), .second, .val (.long q3), .second, .val (.int (0 : Int32)), .val (.ref sp), .val (.long q2), .second, .val (.int (1 : Int32))] [(.long q2), (.long q2)])
    refine Runs.back (fun t_ k_ => XS.lcmp X4.here hx rfl (hb hby at_113) rfl k_) ?_
    show Runs _ _ _ _ T4 (mkF m 114 #[.val (.int p0), .val (.long q1), .second, .val (.long q2), .second, .val (.long q3), .second, .val (.int (0 : Int32)), .val (.ref sp), .val (.long q2), .second, .val (.int (1 : Int32))] [(.int (lcmpW q2 q2))])
    refine Runs.back (fun t_ k_ => XS.ifNo X4.here hx rfl (hb hby at_114) rfl ((if0 _ _).trans (teq (lcE (show q2 = q2 from rfl))).2) k_) ?_
    show Runs _ _ _ _ T4 (mkF m 117 #[.val (.int p0), .val (.long q1), .second, .val (.long q2), .second, .val (.long q3), .second, .val (.int (0 : Int32)), .val (.ref sp), .val (.long q2), .second, .val (.int (1 : Int32))] [])
    refine Runs.back (fun t_ k_ => XS.aload X4.here hx rfl (hb hby at_117) rfl rfl k_) ?_
    show Runs _ _ _ _ T4 (mkF m 119 #[.val (.int p0), .val (.long q1), .second, .val (.long q2), .second, .val (.long q3), .second, .val (.int (0 : Int32)), .val (.ref sp), .val (.long q2), .second, .val (.int (1 : Int32))] [(.ref sp)])
    refine Runs.back (fun t_ k_ => XS.lload X4.here hx rfl (hb hby at_119) rfl k_) ?_
    show Runs _ _ _ _ T4 (mkF m 121 #[.val (.int p0), .val (.long q1), .second, .val (.long q2), .second, .val (.long q3), .second, .val (.int (0 : Int32)), .val (.ref sp), .val (.long q2), .second, .val (.int (1 : Int32))] [(.long q3), (.ref sp)])
    refine Runs.back (fun t_ k_ => XS.lloadN X4.here hx rfl (hb hby at_121) rfl k_) ?_
    show Runs _ _ _ _ T4 (mkF m 122 #[.val (.int p0), .val (.long q1), .second, .val (.long q2), .second, .val (.long q3), .second, .val (.int (0 : Int32)), .val (.ref sp), .val (.long q2), .second, .val (.int (1 : Int32))] [(.long q2), (.long q3), (.ref sp)])
    obtain ⟨cq5, kq5, q5a, q5b, q5c⟩ := isOf hZ eq4 E2
    obtain ⟨_, _, ⟨T5, L5, k5, n5⟩, -, X5, ⟨Lc5, hQ5, l5, y5, z5⟩, st5⟩ := X4.virtualBack hx (y := (⟨"com/example/tenorbook/tenorbook/model/Fact$ShareChange$Cause", "after", "(JJ)J"⟩ : MethodName)) (z := (⟨"com/example/tenorbook/tenorbook/model/Fact$ShareChange$Cause", "after", "(JJ)J"⟩ : MethodName)) hown (mvT hZ (hw _ (List.mem_of_getElem? (i := 3) rfl))) (mvT hZ (hw _ (List.mem_of_getElem? (i := 4) rfl))) (notFace_of_selects (args := #[]) (mvT hZ (hw _ (List.mem_of_getElem? (i := 6) rfl)))) (mvT hZ (hw _ (List.mem_of_getElem? (i := 6) rfl))) (mvT hZ (hw _ (List.mem_of_getElem? (i := 5) rfl))) (by decide) (backOf (W := 0) (rm1s l Z a0 hw [] sp q3 q2 dv h0 n0 (Z0) S1 hne) hZ (hw _ (List.mem_of_getElem? (i := 7) rfl)) (hw _ (List.mem_of_getElem? (i := 1) rfl)) (by decide) (by decide)) q5a q5c (g := (mkF m 122 #[.val (.int p0), .val (.long q1), .second, .val (.long q2), .second, .val (.long q3), .second, .val (.int (0 : Int32)), .val (.ref sp), .val (.long q2), .second, .val (.int (1 : Int32))] [(.long q2), (.long q3), (.ref sp)])) rfl (by rw [hml]; rfl) (Steps.refl _) (argsL := [(.long q3), (.long q2)]) (rest := []) (lenOf pd0_0 rfl) rfl (by show 2 * 0 + _ ≤ _; exact Nat.le_of_eq rfl) (hb hby at_122) (fun _ _ => ⟨rfl, eq4, (by decide : 0 + 0 ≤ _), (by decide : 0 + 0 ≤ _)⟩)
    dsimp only [Pt.U, Pt.locs, Pt.cells, Pt.slots] at X5 l5 y5 z5 st5 hQ5
    obtain rfl : k5 = 0 := y5
    obtain rfl : n5 = 0 := z5
    obtain ⟨rfl, N5q, eq5⟩ := hQ5
    have N5 : Fr n0 L5 := by rw [l5]; exact Fr.app N4 N5q
    clear l5
    refine Runs.trans st5 ?_
    show Runs _ _ _ _ T5 (mkF m 125 #[.val (.int p0), .val (.long q1), .second, .val (.long q2), .second, .val (.long q3), .second, .val (.int (0 : Int32)), .val (.ref sp), .val (.long q2), .second, .val (.int (1 : Int32))] [(.long q2)])
    refine Runs.back (fun t_ k_ => XS.lloadN X5.here hx rfl (hb hby at_125) rfl k_) ?_
    show Runs _ _ _ _ T5 (mkF m 126 #[.val (.int p0), .val (.long q1), .second, .val (.long q2), .second, .val (.long q3), .second, .val (.int (0 : Int32)), .val (.ref sp), .val (.long q2), .second, .val (.int (1 : Int32))] [(.long q2), (.long q2)])
    refine Runs.back (fun t_ k_ => XS.lcmp X5.here hx rfl (hb hby at_126) rfl k_) ?_
    show Runs _ _ _ _ T5 (mkF m 127 #[.val (.int p0), .val (.long q1), .second, .val (.long q2), .second, .val (.long q3), .second, .val (.int (0 : Int32)), .val (.ref sp), .val (.long q2), .second, .val (.int (1 : Int32))] [(.int (lcmpW q2 q2))])
    refine Runs.back (fun t_ k_ => XS.ifNo X5.here hx rfl (hb hby at_127) rfl ((if0 _ _).trans (teq (lcE (show q2 = q2 from rfl))).2) k_) ?_
    show Runs _ _ _ _ T5 (mkF m 130 #[.val (.int p0), .val (.long q1), .second, .val (.long q2), .second, .val (.long q3), .second, .val (.int (0 : Int32)), .val (.ref sp), .val (.long q2), .second, .val (.int (1 : Int32))] [])
    refine Runs.back (fun t_ k_ => XS.iconst X5.here hx rfl (hb hby at_130) k_) ?_
    show Runs _ _ _ _ T5 (mkF m 131 #[.val (.int p0), .val (.long q1), .second, .val (.long q2), .second, .val (.long q3), .second, .val (.int (0 : Int32)), .val (.ref sp), .val (.long q2), .second, .val (.int (1 : Int32))] [(.int (1 : Int32))])
    refine Runs.back (fun t_ k_ => XS.goto X5.here hx rfl (pc0 := 131) (pc' := 135) rfl (hb hby at_131) (by decide) (by decide) k_) ?_
    show Runs _ _ _ _ T5 (mkF m 135 #[.val (.int p0), .val (.long q1), .second, .val (.long q2), .second, .val (.long q3), .second, .val (.int (0 : Int32)), .val (.ref sp), .val (.long q2), .second, .val (.int (1 : Int32))] [(.int (1 : Int32))])
    obtain ⟨fs, hr, hrun, hended, hW, hsame⟩ := X5.leave (v := some (.int (1 : Int32))) (fun h => by rw [Bd.returns] at h; cases h)
    exact ⟨_, _, (retN X5 hx (t := .boolean) Bd.returns (by simp) (hb hby at_135) hr), hrun, hended, _, _, rfl, ⟨rfl, N5⟩, ⟨_, rfl⟩, hW, hsame.mono (by decide) (by decide)⟩
  · refine Runs.back (fun t_ k_ => XS.ifNo X0.here hx rfl (hb hby at_3) rfl ((if0 _ _).trans (feq c3_1).1) k_) ?_
    show Runs _ _ _ _ s₁ (mkF m 6 #[.val (.int p0), .val (.long q1), .second, .val (.long q2), .second, .val (.long q3), .second, .unset, .unset, .unset, .unset, .unset] [])
    refine Runs.back (fun t_ k_ => XS.iconst X0.here hx rfl (hb hby at_6) k_) ?_
    show Runs _ _ _ _ s₁ (mkF m 7 #[.val (.int p0), .val (.long q1), .second, .val (.long q2), .second, .val (.long q3), .second, .unset, .unset, .unset, .unset, .unset] [(.int (1 : Int32))])
    refine Runs.back (fun t_ k_ => XS.goto X0.here hx rfl (pc0 := 7) (pc' := 11) rfl (hb hby at_7) (by decide) (by decide) k_) ?_
    show Runs _ _ _ _ s₁ (mkF m 11 #[.val (.int p0), .val (.long q1), .second, .val (.long q2), .second, .val (.long q3), .second, .unset, .unset, .unset, .unset, .unset] [(.int (1 : Int32))])
    refine Runs.back (fun t_ k_ => XS.istore X0.here hx rfl (hb hby at_11) rfl (l' := #[.val (.int p0), .val (.long q1), .second, .val (.long q2), .second, .val (.long q3), .second, .val (.int (1 : Int32)), .unset, .unset, .unset, .unset]) rfl k_) ?_
    show Runs _ _ _ _ s₁ (mkF m 13 #[.val (.int p0), .val (.long q1), .second, .val (.long q2), .second, .val (.long q3), .second, .val (.int (1 : Int32)), .unset, .unset, .unset, .unset] [])
    refine Runs.back (fun t_ k_ => XS.iload X0.here hx rfl (hb hby at_13) rfl k_) ?_
    show Runs _ _ _ _ s₁ (mkF m 15 #[.val (.int p0), .val (.long q1), .second, .val (.long q2), .second, .val (.long q3), .second, .val (.int (1 : Int32)), .unset, .unset, .unset, .unset] [(.int (1 : Int32))])
    refine Runs.back (fun t_ k_ => XS.ifNo X0.here hx rfl (hb hby at_15) rfl ((if0 _ _).trans (feq (show ¬ ((1 : Int32) = (0 : Int32)) from (by decide))).1) k_) ?_
    show Runs _ _ _ _ s₁ (mkF m 18 #[.val (.int p0), .val (.long q1), .second, .val (.long q2), .second, .val (.long q3), .second, .val (.int (1 : Int32)), .unset, .unset, .unset, .unset] [])
    obtain ⟨T6, X6, e6, st6⟩ := getS2 X0 hx hZ hown (host := "") (Or.inl (hw _ (List.mem_of_getElem? (i := 15) rfl))) Via.refl e0 S1 (g := (mkF m 18 #[.val (.int p0), .val (.long q1), .second, .val (.long q2), .second, .val (.long q3), .second, .val (.int (1 : Int32)), .unset, .unset, .unset, .unset] [])) rfl (hb hby at_18)
    refine Runs.back st6 ?_
    show Runs _ _ _ _ T6 (mkF m 21 #[.val (.int p0), .val (.long q1), .second, .val (.long q2), .second, .val (.long q3), .second, .val (.int (1 : Int32)), .unset, .unset, .unset, .unset] [(.ref dv)])
    refine Runs.back (fun t_ k_ => XS.goto X6.here hx rfl (pc0 := 21) (pc' := 27) rfl (hb hby at_21) (by decide) (by decide) k_) ?_
    show Runs _ _ _ _ T6 (mkF m 27 #[.val (.int p0), .val (.long q1), .second, .val (.long q2), .second, .val (.long q3), .second, .val (.int (1 : Int32)), .unset, .unset, .unset, .unset] [(.ref dv)])
    refine Runs.back (fun t_ k_ => XS.astore X6.here hx rfl (hb hby at_27) rfl rfl (l' := #[.val (.int p0), .val (.long q1), .second, .val (.long q2), .second, .val (.long q3), .second, .val (.int (1 : Int32)), .val (.ref dv), .unset, .unset, .unset]) rfl k_) ?_
    show Runs _ _ _ _ T6 (mkF m 29 #[.val (.int p0), .val (.long q1), .second, .val (.long q2), .second, .val (.long q3), .second, .val (.int (1 : Int32)), .val (.ref dv), .unset, .unset, .unset] [])
    refine Runs.back (fun t_ k_ => XS.aload X6.here hx rfl (hb hby at_29) rfl rfl k_) ?_
    show Runs _ _ _ _ T6 (mkF m 31 #[.val (.int p0), .val (.long q1), .second, .val (.long q2), .second, .val (.long q3), .second, .val (.int (1 : Int32)), .val (.ref dv), .unset, .unset, .unset] [(.ref dv)])
    refine Runs.back (fun t_ k_ => XS.lloadN X6.here hx rfl (hb hby at_31) rfl k_) ?_
    show Runs _ _ _ _ T6 (mkF m 32 #[.val (.int p0), .val (.long q1), .second, .val (.long q2), .second, .val (.long q3), .second, .val (.int (1 : Int32)), .val (.ref dv), .unset, .unset, .unset] [(.long q1), (.ref dv)])
    refine Runs.back (fun t_ k_ => XS.lloadN X6.here hx rfl (hb hby at_32) rfl k_) ?_
    show Runs _ _ _ _ T6 (mkF m 33 #[.val (.int p0), .val (.long q1), .second, .val (.long q2), .second, .val (.long q3), .second, .val (.int (1 : Int32)), .val (.ref dv), .unset, .unset, .unset] [(.long q2), (.long q1), (.ref dv)])
    obtain ⟨cq7, kq7, q7a, q7b, q7c⟩ := isOf hZ e6 E1
    obtain ⟨_, _, ⟨T7, L7, k7, n7⟩, -, X7, ⟨Lc7, hQ7, l7, y7, z7⟩, st7⟩ := X6.virtualBack hx (y := (⟨"com/example/tenorbook/tenorbook/model/Fact$ShareChange$Cause", "after", "(JJ)J"⟩ : MethodName)) (z := (⟨"com/example/tenorbook/tenorbook/model/Fact$ShareChange$Cause", "after", "(JJ)J"⟩ : MethodName)) hown (mvT hZ (hw _ (List.mem_of_getElem? (i := 3) rfl))) (mvT hZ (hw _ (List.mem_of_getElem? (i := 4) rfl))) (notFace_of_selects (args := #[]) (mvT hZ (hw _ (List.mem_of_getElem? (i := 6) rfl)))) (mvT hZ (hw _ (List.mem_of_getElem? (i := 6) rfl))) (mvT hZ (hw _ (List.mem_of_getElem? (i := 5) rfl))) (by decide) (backOf (W := 0) (rm1d l Z a0 hw [] dv q1 q2 h0 n0 (Z0) S1) hZ (hw _ (List.mem_of_getElem? (i := 7) rfl)) (hw _ (List.mem_of_getElem? (i := 1) rfl)) (by decide) (by decide)) q7a q7c (g := (mkF m 33 #[.val (.int p0), .val (.long q1), .second, .val (.long q2), .second, .val (.long q3), .second, .val (.int (1 : Int32)), .val (.ref dv), .unset, .unset, .unset] [(.long q2), (.long q1), (.ref dv)])) rfl (by rw [hml]; rfl) (Steps.refl _) (argsL := [(.long q1), (.long q2)]) (rest := []) (lenOf pd0_0 rfl) rfl (by show 2 * 0 + _ ≤ _; exact Nat.le_of_eq rfl) (hb hby at_33) (fun _ _ => ⟨rfl, e6, (by decide : 0 + 0 ≤ _), (by decide : 0 + 0 ≤ _)⟩)
    dsimp only [Pt.U, Pt.locs, Pt.cells, Pt.slots] at X7 l7 y7 z7 st7 hQ7
    obtain rfl : k7 = 0 := y7
    obtain rfl : n7 = 0 := z7
    obtain ⟨rfl, N7q, eq7⟩ := hQ7
    have N7 : Fr n0 L7 := by rw [l7]; exact Fr.app N0 N7q
    clear l7
    refine Runs.trans st7 ?_
    show Runs _ _ _ _ T7 (mkF m 36 #[.val (.int p0), .val (.long q1), .second, .val (.long q2), .second, .val (.long q3), .second, .val (.int (1 : Int32)), .val (.ref dv), .unset, .unset, .unset] [(.long (q1 + q2))])
    refine Runs.back (fun t_ k_ => XS.lstore X7.here hx rfl (hb hby at_36) rfl (l' := #[.val (.int p0), .val (.long q1), .second, .val (.long q2), .second, .val (.long q3), .second, .val (.int (1 : Int32)), .val (.ref dv), .val (.long (q1 + q2)), .second, .unset]) rfl k_) ?_
    show Runs _ _ _ _ T7 (mkF m 38 #[.val (.int p0), .val (.long q1), .second, .val (.long q2), .second, .val (.long q3), .second, .val (.int (1 : Int32)), .val (.ref dv), .val (.long (q1 + q2)), .second, .unset] [])
    refine Runs.back (fun t_ k_ => XS.aload X7.here hx rfl (hb hby at_38) rfl rfl k_) ?_
    show Runs _ _ _ _ T7 (mkF m 40 #[.val (.int p0), .val (.long q1), .second, .val (.long q2), .second, .val (.long q3), .second, .val (.int (1 : Int32)), .val (.ref dv), .val (.long (q1 + q2)), .second, .unset] [(.ref dv)])
    refine Runs.back (fun t_ k_ => XS.lloadN X7.here hx rfl (hb hby at_40) rfl k_) ?_
    show Runs _ _ _ _ T7 (mkF m 41 #[.val (.int p0), .val (.long q1), .second, .val (.long q2), .second, .val (.long q3), .second, .val (.int (1 : Int32)), .val (.ref dv), .val (.long (q1 + q2)), .second, .unset] [(.long q1), (.ref dv)])
    refine Runs.back (fun t_ k_ => XS.lload X7.here hx rfl (hb hby at_41) rfl k_) ?_
    show Runs _ _ _ _ T7 (mkF m 43 #[.val (.int p0), .val (.long q1), .second, .val (.long q2), .second, .val (.long q3), .second, .val (.int (1 : Int32)), .val (.ref dv), .val (.long (q1 + q2)), .second, .unset] [(.long (q1 + q2)), (.long q1), (.ref dv)])
    obtain ⟨cq8, kq8, q8a, q8b, q8c⟩ := isOf hZ eq7 E1
    obtain ⟨_, _, ⟨T8, L8, k8, n8⟩, -, X8, ⟨Lc8, hQ8, l8, y8, z8⟩, st8⟩ := X7.virtualBack hx (y := (⟨"com/example/tenorbook/tenorbook/model/Fact$ShareChange$Cause", "second", "(JJ)J"⟩ : MethodName)) (z := (⟨"com/example/tenorbook/tenorbook/model/Fact$ShareChange$Cause", "second", "(JJ)J"⟩ : MethodName)) hown (mvT hZ (hw _ (List.mem_of_getElem? (i := 10) rfl))) (mvT hZ (hw _ (List.mem_of_getElem? (i := 11) rfl))) (notFace_of_selects (args := #[]) (mvT hZ (hw _ (List.mem_of_getElem? (i := 13) rfl)))) (mvT hZ (hw _ (List.mem_of_getElem? (i := 13) rfl))) (mvT hZ (hw _ (List.mem_of_getElem? (i := 12) rfl))) (by decide) (backOf (W := 0) (rm2d l Z a0 hw [] dv q1 (q1 + q2) h0 n0 (Z0) S1) hZ (hw _ (List.mem_of_getElem? (i := 14) rfl)) (hw _ (List.mem_of_getElem? (i := 1) rfl)) (by decide) (by decide)) q8a q8c (g := (mkF m 43 #[.val (.int p0), .val (.long q1), .second, .val (.long q2), .second, .val (.long q3), .second, .val (.int (1 : Int32)), .val (.ref dv), .val (.long (q1 + q2)), .second, .unset] [(.long (q1 + q2)), (.long q1), (.ref dv)])) rfl (by rw [hml]; rfl) (Steps.refl _) (argsL := [(.long q1), (.long (q1 + q2))]) (rest := []) (lenOf pd0_0 rfl) rfl (by show 2 * 0 + _ ≤ _; exact Nat.le_of_eq rfl) (hb hby at_43) (fun _ _ => ⟨rfl, eq7, (by decide : 0 + 0 ≤ _), (by decide : 0 + 0 ≤ _)⟩)
    dsimp only [Pt.U, Pt.locs, Pt.cells, Pt.slots] at X8 l8 y8 z8 st8 hQ8
    obtain rfl : k8 = 0 := y8
    obtain rfl : n8 = 0 := z8
    obtain ⟨rfl, N8q, eq8⟩ := hQ8
    have N8 : Fr n0 L8 := by rw [l8]; exact Fr.app N7 N8q
    clear l8
    refine Runs.trans st8 ?_
    show Runs _ _ _ _ T8 (mkF m 46 #[.val (.int p0), .val (.long q1), .second, .val (.long q2), .second, .val (.long q3), .second, .val (.int (1 : Int32)), .val (.ref dv), .val (.long (q1 + q2)), .second, .unset] [(.long ((q1 + q2) - q1))])
    refine Runs.back (fun t_ k_ => XS.lloadN X8.here hx rfl (hb hby at_46) rfl k_) ?_
    show Runs _ _ _ _ T8 (mkF m 47 #[.val (.int p0), .val (.long q1), .second, .val (.long q2), .second, .val (.long q3), .second, .val (.int (1 : Int32)), .val (.ref dv), .val (.long (q1 + q2)), .second, .unset] [(.long q2), (.long ((q1 + q2) - q1))])
    refine Runs.back (fun t_ k_ => XS.lcmp X8.here hx rfl (hb hby at_47) rfl k_) ?_
    show Runs _ _ _ _ T8 (mkF m 48 #[.val (.int p0), .val (.long q1), .second, .val (.long q2), .second, .val (.long q3), .second, .val (.int (1 : Int32)), .val (.ref dv), .val (.long (q1 + q2)), .second, .unset] [(.int (lcmpW ((q1 + q2) - q1) q2))])
    refine Runs.back (fun t_ k_ => XS.ifNo X8.here hx rfl (hb hby at_48) rfl ((if0 _ _).trans (teq (lcE (show ((q1 + q2) - q1) = q2 from (adds _ _)))).2) k_) ?_
    show Runs _ _ _ _ T8 (mkF m 51 #[.val (.int p0), .val (.long q1), .second, .val (.long q2), .second, .val (.long q3), .second, .val (.int (1 : Int32)), .val (.ref dv), .val (.long (q1 + q2)), .second, .unset] [])
    refine Runs.back (fun t_ k_ => XS.iconst X8.here hx rfl (hb hby at_51) k_) ?_
    show Runs _ _ _ _ T8 (mkF m 52 #[.val (.int p0), .val (.long q1), .second, .val (.long q2), .second, .val (.long q3), .second, .val (.int (1 : Int32)), .val (.ref dv), .val (.long (q1 + q2)), .second, .unset] [(.int (1 : Int32))])
    refine Runs.back (fun t_ k_ => XS.goto X8.here hx rfl (pc0 := 52) (pc' := 56) rfl (hb hby at_52) (by decide) (by decide) k_) ?_
    show Runs _ _ _ _ T8 (mkF m 56 #[.val (.int p0), .val (.long q1), .second, .val (.long q2), .second, .val (.long q3), .second, .val (.int (1 : Int32)), .val (.ref dv), .val (.long (q1 + q2)), .second, .unset] [(.int (1 : Int32))])
    refine Runs.back (fun t_ k_ => XS.istore X8.here hx rfl (hb hby at_56) rfl (l' := #[.val (.int p0), .val (.long q1), .second, .val (.long q2), .second, .val (.long q3), .second, .val (.int (1 : Int32)), .val (.ref dv), .val (.long (q1 + q2)), .second, .val (.int (1 : Int32))]) rfl k_) ?_
    show Runs _ _ _ _ T8 (mkF m 58 #[.val (.int p0), .val (.long q1), .second, .val (.long q2), .second, .val (.long q3), .second, .val (.int (1 : Int32)), .val (.ref dv), .val (.long (q1 + q2)), .second, .val (.int (1 : Int32))] [])
    refine Runs.back (fun t_ k_ => XS.iload X8.here hx rfl (hb hby at_58) rfl k_) ?_
    show Runs _ _ _ _ T8 (mkF m 60 #[.val (.int p0), .val (.long q1), .second, .val (.long q2), .second, .val (.long q3), .second, .val (.int (1 : Int32)), .val (.ref dv), .val (.long (q1 + q2)), .second, .val (.int (1 : Int32))] [(.int (1 : Int32))])
    refine Runs.back (fun t_ k_ => XS.ifNo X8.here hx rfl (hb hby at_60) rfl ((if0 _ _).trans (feq (show ¬ ((1 : Int32) = (0 : Int32)) from (by decide))).1) k_) ?_
    show Runs _ _ _ _ T8 (mkF m 63 #[.val (.int p0), .val (.long q1), .second, .val (.long q2), .second, .val (.long q3), .second, .val (.int (1 : Int32)), .val (.ref dv), .val (.long (q1 + q2)), .second, .val (.int (1 : Int32))] [])
    refine Runs.back (fun t_ k_ => XS.iload X8.here hx rfl (hb hby at_63) rfl k_) ?_
    show Runs _ _ _ _ T8 (mkF m 65 #[.val (.int p0), .val (.long q1), .second, .val (.long q2), .second, .val (.long q3), .second, .val (.int (1 : Int32)), .val (.ref dv), .val (.long (q1 + q2)), .second, .val (.int (1 : Int32))] [(.int (1 : Int32))])
    refine Runs.back (fun t_ k_ => XS.ifNo X8.here hx rfl (hb hby at_65) rfl ((if0 _ _).trans (feq (show ¬ ((1 : Int32) = (0 : Int32)) from (by decide))).1) k_) ?_
    show Runs _ _ _ _ T8 (mkF m 68 #[.val (.int p0), .val (.long q1), .second, .val (.long q2), .second, .val (.long q3), .second, .val (.int (1 : Int32)), .val (.ref dv), .val (.long (q1 + q2)), .second, .val (.int (1 : Int32))] [])
    refine Runs.back (fun t_ k_ => XS.lload X8.here hx rfl (hb hby at_68) rfl k_) ?_
    show Runs _ _ _ _ T8 (mkF m 70 #[.val (.int p0), .val (.long q1), .second, .val (.long q2), .second, .val (.long q3), .second, .val (.int (1 : Int32)), .val (.ref dv), .val (.long (q1 + q2)), .second, .val (.int (1 : Int32))] [(.long (q1 + q2))])
    refine Runs.back (fun t_ k_ => XS.lloadN X8.here hx rfl (hb hby at_70) rfl k_) ?_
    show Runs _ _ _ _ T8 (mkF m 71 #[.val (.int p0), .val (.long q1), .second, .val (.long q2), .second, .val (.long q3), .second, .val (.int (1 : Int32)), .val (.ref dv), .val (.long (q1 + q2)), .second, .val (.int (1 : Int32))] [(.long q1), (.long (q1 + q2))])
    refine Runs.back (fun t_ k_ => XS.lloadN X8.here hx rfl (hb hby at_71) rfl k_) ?_
    show Runs _ _ _ _ T8 (mkF m 72 #[.val (.int p0), .val (.long q1), .second, .val (.long q2), .second, .val (.long q3), .second, .val (.int (1 : Int32)), .val (.ref dv), .val (.long (q1 + q2)), .second, .val (.int (1 : Int32))] [(.long q2), (.long q1), (.long (q1 + q2))])
    refine Runs.back (fun t_ k_ => XS.ladd X8.here hx rfl (hb hby at_72) rfl k_) ?_
    show Runs _ _ _ _ T8 (mkF m 73 #[.val (.int p0), .val (.long q1), .second, .val (.long q2), .second, .val (.long q3), .second, .val (.int (1 : Int32)), .val (.ref dv), .val (.long (q1 + q2)), .second, .val (.int (1 : Int32))] [(.long (q1 + q2)), (.long (q1 + q2))])
    refine Runs.back (fun t_ k_ => XS.lcmp X8.here hx rfl (hb hby at_73) rfl k_) ?_
    show Runs _ _ _ _ T8 (mkF m 74 #[.val (.int p0), .val (.long q1), .second, .val (.long q2), .second, .val (.long q3), .second, .val (.int (1 : Int32)), .val (.ref dv), .val (.long (q1 + q2)), .second, .val (.int (1 : Int32))] [(.int (lcmpW (q1 + q2) (q1 + q2)))])
    refine Runs.back (fun t_ k_ => XS.ifNo X8.here hx rfl (hb hby at_74) rfl ((if0 _ _).trans (teq (lcE (show (q1 + q2) = (q1 + q2) from rfl))).2) k_) ?_
    show Runs _ _ _ _ T8 (mkF m 77 #[.val (.int p0), .val (.long q1), .second, .val (.long q2), .second, .val (.long q3), .second, .val (.int (1 : Int32)), .val (.ref dv), .val (.long (q1 + q2)), .second, .val (.int (1 : Int32))] [])
    refine Runs.back (fun t_ k_ => XS.lload X8.here hx rfl (hb hby at_77) rfl k_) ?_
    show Runs _ _ _ _ T8 (mkF m 79 #[.val (.int p0), .val (.long q1), .second, .val (.long q2), .second, .val (.long q3), .second, .val (.int (1 : Int32)), .val (.ref dv), .val (.long (q1 + q2)), .second, .val (.int (1 : Int32))] [(.long (q1 + q2))])
    refine Runs.back (fun t_ k_ => XS.lloadN X8.here hx rfl (hb hby at_79) rfl k_) ?_
    show Runs _ _ _ _ T8 (mkF m 80 #[.val (.int p0), .val (.long q1), .second, .val (.long q2), .second, .val (.long q3), .second, .val (.int (1 : Int32)), .val (.ref dv), .val (.long (q1 + q2)), .second, .val (.int (1 : Int32))] [(.long q1), (.long (q1 + q2))])
    refine Runs.back (fun t_ k_ => XS.lsub X8.here hx rfl (hb hby at_80) rfl k_) ?_
    show Runs _ _ _ _ T8 (mkF m 81 #[.val (.int p0), .val (.long q1), .second, .val (.long q2), .second, .val (.long q3), .second, .val (.int (1 : Int32)), .val (.ref dv), .val (.long (q1 + q2)), .second, .val (.int (1 : Int32))] [(.long ((q1 + q2) - q1))])
    refine Runs.back (fun t_ k_ => XS.lloadN X8.here hx rfl (hb hby at_81) rfl k_) ?_
    show Runs _ _ _ _ T8 (mkF m 82 #[.val (.int p0), .val (.long q1), .second, .val (.long q2), .second, .val (.long q3), .second, .val (.int (1 : Int32)), .val (.ref dv), .val (.long (q1 + q2)), .second, .val (.int (1 : Int32))] [(.long q2), (.long ((q1 + q2) - q1))])
    refine Runs.back (fun t_ k_ => XS.lcmp X8.here hx rfl (hb hby at_82) rfl k_) ?_
    show Runs _ _ _ _ T8 (mkF m 83 #[.val (.int p0), .val (.long q1), .second, .val (.long q2), .second, .val (.long q3), .second, .val (.int (1 : Int32)), .val (.ref dv), .val (.long (q1 + q2)), .second, .val (.int (1 : Int32))] [(.int (lcmpW ((q1 + q2) - q1) q2))])
    refine Runs.back (fun t_ k_ => XS.ifNo X8.here hx rfl (hb hby at_83) rfl ((if0 _ _).trans (teq (lcE (show ((q1 + q2) - q1) = q2 from (adds _ _)))).2) k_) ?_
    show Runs _ _ _ _ T8 (mkF m 86 #[.val (.int p0), .val (.long q1), .second, .val (.long q2), .second, .val (.long q3), .second, .val (.int (1 : Int32)), .val (.ref dv), .val (.long (q1 + q2)), .second, .val (.int (1 : Int32))] [])
    refine Runs.back (fun t_ k_ => XS.aload X8.here hx rfl (hb hby at_86) rfl rfl k_) ?_
    show Runs _ _ _ _ T8 (mkF m 88 #[.val (.int p0), .val (.long q1), .second, .val (.long q2), .second, .val (.long q3), .second, .val (.int (1 : Int32)), .val (.ref dv), .val (.long (q1 + q2)), .second, .val (.int (1 : Int32))] [(.ref dv)])
    refine Runs.back (fun t_ k_ => XS.lloadN X8.here hx rfl (hb hby at_88) rfl k_) ?_
    show Runs _ _ _ _ T8 (mkF m 89 #[.val (.int p0), .val (.long q1), .second, .val (.long q2), .second, .val (.long q3), .second, .val (.int (1 : Int32)), .val (.ref dv), .val (.long (q1 + q2)), .second, .val (.int (1 : Int32))] [(.long q2), (.ref dv)])
    refine Runs.back (fun t_ k_ => XS.lloadN X8.here hx rfl (hb hby at_89) rfl k_) ?_
    show Runs _ _ _ _ T8 (mkF m 90 #[.val (.int p0), .val (.long q1), .second, .val (.long q2), .second, .val (.long q3), .second, .val (.int (1 : Int32)), .val (.ref dv), .val (.long (q1 + q2)), .second, .val (.int (1 : Int32))] [(.long q1), (.long q2), (.ref dv)])
    obtain ⟨cq9, kq9, q9a, q9b, q9c⟩ := isOf hZ eq8 E1
    obtain ⟨_, _, ⟨T9, L9, k9, n9⟩, -, X9, ⟨Lc9, hQ9, l9, y9, z9⟩, st9⟩ := X8.virtualBack hx (y := (⟨"com/example/tenorbook/tenorbook/model/Fact$ShareChange$Cause", "after", "(JJ)J"⟩ : MethodName)) (z := (⟨"com/example/tenorbook/tenorbook/model/Fact$ShareChange$Cause", "after", "(JJ)J"⟩ : MethodName)) hown (mvT hZ (hw _ (List.mem_of_getElem? (i := 3) rfl))) (mvT hZ (hw _ (List.mem_of_getElem? (i := 4) rfl))) (notFace_of_selects (args := #[]) (mvT hZ (hw _ (List.mem_of_getElem? (i := 6) rfl)))) (mvT hZ (hw _ (List.mem_of_getElem? (i := 6) rfl))) (mvT hZ (hw _ (List.mem_of_getElem? (i := 5) rfl))) (by decide) (backOf (W := 0) (rm1d l Z a0 hw [] dv q2 q1 h0 n0 (Z0) S1) hZ (hw _ (List.mem_of_getElem? (i := 7) rfl)) (hw _ (List.mem_of_getElem? (i := 1) rfl)) (by decide) (by decide)) q9a q9c (g := (mkF m 90 #[.val (.int p0), .val (.long q1), .second, .val (.long q2), .second, .val (.long q3), .second, .val (.int (1 : Int32)), .val (.ref dv), .val (.long (q1 + q2)), .second, .val (.int (1 : Int32))] [(.long q1), (.long q2), (.ref dv)])) rfl (by rw [hml]; rfl) (Steps.refl _) (argsL := [(.long q2), (.long q1)]) (rest := []) (lenOf pd0_0 rfl) rfl (by show 2 * 0 + _ ≤ _; exact Nat.le_of_eq rfl) (hb hby at_90) (fun _ _ => ⟨rfl, eq8, (by decide : 0 + 0 ≤ _), (by decide : 0 + 0 ≤ _)⟩)
    dsimp only [Pt.U, Pt.locs, Pt.cells, Pt.slots] at X9 l9 y9 z9 st9 hQ9
    obtain rfl : k9 = 0 := y9
    obtain rfl : n9 = 0 := z9
    obtain ⟨rfl, N9q, eq9⟩ := hQ9
    have N9 : Fr n0 L9 := by rw [l9]; exact Fr.app N8 N9q
    clear l9
    refine Runs.trans st9 ?_
    show Runs _ _ _ _ T9 (mkF m 93 #[.val (.int p0), .val (.long q1), .second, .val (.long q2), .second, .val (.long q3), .second, .val (.int (1 : Int32)), .val (.ref dv), .val (.long (q1 + q2)), .second, .val (.int (1 : Int32))] [(.long (q2 + q1))])
    refine Runs.back (fun t_ k_ => XS.lload X9.here hx rfl (hb hby at_93) rfl k_) ?_
    show Runs _ _ _ _ T9 (mkF m 95 #[.val (.int p0), .val (.long q1), .second, .val (.long q2), .second, .val (.long q3), .second, .val (.int (1 : Int32)), .val (.ref dv), .val (.long (q1 + q2)), .second, .val (.int (1 : Int32))] [(.long (q1 + q2)), (.long (q2 + q1))])
    refine Runs.back (fun t_ k_ => XS.lcmp X9.here hx rfl (hb hby at_95) rfl k_) ?_
    show Runs _ _ _ _ T9 (mkF m 96 #[.val (.int p0), .val (.long q1), .second, .val (.long q2), .second, .val (.long q3), .second, .val (.int (1 : Int32)), .val (.ref dv), .val (.long (q1 + q2)), .second, .val (.int (1 : Int32))] [(.int (lcmpW (q2 + q1) (q1 + q2)))])
    refine Runs.back (fun t_ k_ => XS.ifNo X9.here hx rfl (hb hby at_96) rfl ((if0 _ _).trans (teq (lcE (show (q2 + q1) = (q1 + q2) from (Int64.add_comm _ _)))).2) k_) ?_
    show Runs _ _ _ _ T9 (mkF m 99 #[.val (.int p0), .val (.long q1), .second, .val (.long q2), .second, .val (.long q3), .second, .val (.int (1 : Int32)), .val (.ref dv), .val (.long (q1 + q2)), .second, .val (.int (1 : Int32))] [])
    refine Runs.back (fun t_ k_ => XS.iconst X9.here hx rfl (hb hby at_99) k_) ?_
    show Runs _ _ _ _ T9 (mkF m 100 #[.val (.int p0), .val (.long q1), .second, .val (.long q2), .second, .val (.long q3), .second, .val (.int (1 : Int32)), .val (.ref dv), .val (.long (q1 + q2)), .second, .val (.int (1 : Int32))] [(.int (1 : Int32))])
    refine Runs.back (fun t_ k_ => XS.goto X9.here hx rfl (pc0 := 100) (pc' := 104) rfl (hb hby at_100) (by decide) (by decide) k_) ?_
    show Runs _ _ _ _ T9 (mkF m 104 #[.val (.int p0), .val (.long q1), .second, .val (.long q2), .second, .val (.long q3), .second, .val (.int (1 : Int32)), .val (.ref dv), .val (.long (q1 + q2)), .second, .val (.int (1 : Int32))] [(.int (1 : Int32))])
    obtain ⟨fs, hr, hrun, hended, hW, hsame⟩ := X9.leave (v := some (.int (1 : Int32))) (fun h => by rw [Bd.returns] at h; cases h)
    exact ⟨_, _, (retN X9 hx (t := .boolean) Bd.returns (by simp) (hb hby at_104) hr), hrun, hended, _, _, rfl, ⟨rfl, N9⟩, ⟨_, rfl⟩, hW, hsame.mono (by decide) (by decide)⟩
set_option maxRecDepth 65536 in
set_option maxHeartbeats 40000000 in
theorem comes_1 {Post : Tables → Env → Array Value → State → Outcome → State → Prop} (hpost : ∀ tb e args s v u, (limb_1_1.after args s (.returned v) u = true ∧ limb_1_2.after args s (.returned v) u = true ∧ True) → FrameEnd s (.returned v) u (Jvm.fieldLocs frame_1_writes args s ++ Jvm.arrayLocs frame_1_arrays args s ++ Jvm.staticLocs frame_1_statics s) 0 0 → Post tb e args s (.returned v) u) :
    ArmFor flags0 classFile x code maxLocals ret World_1 tables_1 room_1 Calls_1 rest_1 Pre_1 Post := by
  intro l hfl _ _ p e ha hc hk s m args below hf hA hF happ hP
  obtain ⟨hcalls, hrest, hpre⟩ := hP
  obtain ⟨-, -, -, hnamed, -, -, -, hat⟩ := (Spec.applies_iff hf).mp happ
  obtain ⟨hg, hn⟩ := and_e (Cond.before_iff.mp (show (Jvm.Cond.and given_1 narrow_1).before args s = true from hpre))
  obtain ⟨g0, gr0⟩ := and_e hg
  obtain ⟨g1, gr1⟩ := and_e gr0
  obtain ⟨g2, gr2⟩ := and_e gr1
  obtain ⟨g3, gr3⟩ := and_e gr2
  obtain ⟨w0, w1, w2, w3, rfl⟩ : ∃ w0 w1 w2 w3 : Value, args = #[w0, w1, w2, w3] := by
    have hs : args.size = 4 := by simpa [Cond.value, given_1] using g0
    obtain ⟨L⟩ := args
    match L, hs with
    | [w0, w1, w2, w3], _ => exact ⟨w0, w1, w2, w3, rfl⟩
  have hw := fun d (hd : d ∈ tables_1) => atoms_spec (ws := Jvm.Cond.code x code maxLocals ret :: tables_1) hat d (List.mem_cons_of_mem _ hd)
  obtain ⟨n1, n2⟩ := and_e hn
  obtain ⟨n2, n3⟩ := and_e n2
  obtain ⟨n3, n4⟩ := and_e n3
  obtain ⟨sp, esp⟩ := exa_v n1
  obtain ⟨dv, edv⟩ := exa_v n2
  have hne : ¬ (sp = dv) := fun q => by
    subst q
    have f1 := fld_at (C := "java/lang/Enum") (n := "ordinal") (dd := "I") esp
    have f2 := fld_at (C := "java/lang/Enum") (n := "ordinal") (dd := "I") edv
    simp only [Cond.value, f1, f2, Term.int_eval] at n3 n4
    cases hh : s.fieldOf? sp "java/lang/Enum" "ordinal" "I" with
    | none => rw [hh] at n3; simp at n3
    | some v => rw [hh] at n3 n4; cases v <;> simp_all
  have S1 := Sta.start edv (Or.inr ⟨(hw _ (List.mem_of_getElem? (i := 1) rfl)), (hw _ (List.mem_of_getElem? (i := 9) rfl))⟩)
  have S2 := Sta.start esp (Or.inr ⟨(hw _ (List.mem_of_getElem? (i := 1) rfl)), (hw _ (List.mem_of_getElem? (i := 2) rfl))⟩)
  have E1 := Exa.start edv n2
  have E2 := Exa.start esp n1
  obtain ⟨i0, ei0⟩ := is_v g1
  obtain rfl : w0 = (.int i0) := Option.some.inj ei0
  obtain ⟨i1, ei1⟩ := isL_v g2
  obtain rfl : w1 = (.long i1) := Option.some.inj ei1
  obtain ⟨i2, ei2⟩ := isL_v g3
  obtain rfl : w2 = (.long i2) := Option.some.inj ei2
  obtain ⟨i3, ei3⟩ := isL_v gr3
  obtain rfl : w3 = (.long i3) := Option.some.inj ei3
  obtain ⟨n, o, h1, h2, h3, _, L, rfl, ⟨rfl, N⟩, hq⟩ := rm0 l s _ hw tables_1 i0 i1 i2 i3 dv sp s.heap s.heap.size (Nat.le_refl _) S1 S2 E1 E2 hne p e ha hc hk s m _ below hf ((Spec.applies_iff_loose hf).mp happ).1 ⟨rfl, State.Warmed39.refl s, rfl⟩ trivial
  refine ⟨n, _, h1, h2, h3, hpost _ _ _ _ _ _ ⟨Cond.after_iff.mpr rfl, Cond.after_iff.mpr (eq_i res_at (Term.int_eval (1)) rfl), trivial⟩ ⟨hq.1, hq.2.1, (hq.2.2.sift fun y hy => Or.inr (N y hy)).mono (by decide) (by decide)⟩⟩
theorem main_1_1 : Claimed_1_1 := comes_1 fun _ _ _ _ _ _ h hF => ⟨h.1, hF⟩
theorem main_1_2 : Claimed_1_2 := comes_1 fun _ _ _ _ _ _ h hF => ⟨h.2.1, hF⟩
end Jvm.Pilot.@@N@@
namespace Jvm.Pilot.@@N@@
open Jvm Jvm.ClassFile Sem Op Lib Jvm.Free Jvm.Stand Jvm.Pilot.@@N@@.Jvm.D
/-! MADE BY PROGRAM (witnessworld.py) out of the Statement's table words and the real class files: 12 classes; the members and pool entries that the words name. The judged class is class 1, her method 1. -/
namespace start1
open Jvm.ClassFile
def u (s : String) : CpInfo := .utf8 (stringToUtf16 s)
/-- a pool by its gaps: so many unusable entries, then the entry; so many at the end -/
def gap : Nat → List CpInfo → List CpInfo
  | 0, r => r
  | n + 1, r => .unusable :: gap n r
def poolList (es : List (Nat × CpInfo)) (last : Nat) : List CpInfo := es.foldr (fun e r => gap e.1 (e.2 :: r)) (gap last [])
def pool (es : List (Nat × CpInfo)) (last : Nat) : Array CpInfo := ⟨poolList es last⟩
def fileOf (pool : Array CpInfo) (this : Nat) (attrs : Array Attribute := #[]) (ms : Array MethodInfo := #[]) (fl : Nat := 33) (sup : Nat := 0) (ifs : Array Nat := #[]) (fds : Array FieldInfo := #[]) : ClassFile where
  minorVersion := 0
  majorVersion := 65
  constantPool := pool
  accessFlags := fl
  thisClass := this
  superClass := sup
  interfaces := ifs
  fields := fds
  methods := ms
  attributes := attrs
def plain (name : String) (sup : Option ClassId) : Class where
  name := name
  kind := .ordinary
  loader := none
  accessFlags := 33
  super := sup
  interfaces := #[]
  cf := none
  fields := #[]
  methods := #[]
  instanceTypes := #[]
  staticTypes := #[]
  resolved := #[]
  callSites := []
  init := .initialized
  statics := none
  mirror := none

def pool0 : Array CpInfo := pool [(5, u "<init>"), (0, u "()V"), (1, .class_ 10), (1, u "java/lang/Object")] 113

def k0m0 : Method := { name := "<init>", desc := "()V", sig := { parameters := [], returnType := none }, accessFlags := 1, code := none }
/-- java/lang/Object -/
def k0 : Class := { plain "java/lang/Object" none with
  accessFlags := 33
  interfaces := #[]
  cf := some (fileOf pool0 8 #[] #[{ accessFlags := 1, nameIndex := 5, descriptorIndex := 6, attributes := #[] }] 33 0 #[] #[])
  fields := #[]
  methods := #[k0m0]
  instanceTypes := #[]
  staticTypes := #[]
  resolved := Array.replicate 124 none
  statics := none }

def pool1 : Array CpInfo := pool [(2, .class_ 4), (1, u "java/lang/Object"), (0, u "<init>"), (0, u "()V"), (0, .fieldref 8 9), (0, .class_ 10), (0, .nameAndType 11 12), (0, u "com/example/tenorbook/tenorbook/model/Fact$ShareChange$Cause"), (0, u "DIVIDEND"), (0, u "Lcom/example/tenorbook/tenorbook/model/Fact$ShareChange$Cause;"), (0, .fieldref 8 14), (0, .nameAndType 15 12), (0, u "SPLIT"), (0, .methodref 8 17), (0, .nameAndType 18 19), (0, u "after"), (0, u "(JJ)J"), (0, .methodref 8 21), (0, .nameAndType 22 19), (0, u "second"), (0, .class_ 24), (0, u "com/example/tenorbook/tenorbook/model/CauseAfterPinLaw"), (2, u "law"), (0, u "(IJJJ)Z")] 10

def k1m0 : Method := { name := "<init>", desc := "()V", sig := { parameters := [], returnType := none }, accessFlags := 1, code := none }
def k1c1 : Code := { maxStack := 6, maxLocals := 12, code := code, exceptionTable := #[], attributes := #[] }
def k1m1 : Method := { name := "law", desc := "(IJJJ)Z", sig := { parameters := [.int, .long, .long, .long], returnType := some .boolean }, accessFlags := 9, code := some k1c1 }
/-- com/example/tenorbook/tenorbook/model/CauseAfterPinLaw -/
def k1 : Class := { plain "com/example/tenorbook/tenorbook/model/CauseAfterPinLaw" (some 0) with
  accessFlags := 49
  interfaces := #[]
  cf := some (fileOf pool1 23 #[] #[{ accessFlags := 1, nameIndex := 5, descriptorIndex := 6, attributes := #[] }, { accessFlags := 9, nameIndex := 27, descriptorIndex := 28, attributes := #[] }] 49 2 #[] #[])
  fields := #[]
  methods := #[k1m0, k1m1]
  instanceTypes := #[]
  staticTypes := #[]
  resolved := Array.replicate 39 none
  statics := none }

def pool2 : Array CpInfo := pool [(1, .class_ 2), (0, u "java/lang/constant/Constable"), (0, .class_ 4), (0, u "java/lang/Object")] 6

/-- java/lang/constant/Constable -/
def k2 : Class := { plain "java/lang/constant/Constable" (some 0) with
  accessFlags := 1537
  interfaces := #[]
  cf := some (fileOf pool2 1 #[] #[] 1537 3 #[] #[])
  fields := #[]
  methods := #[]
  instanceTypes := #[]
  staticTypes := #[]
  resolved := Array.replicate 11 none
  statics := none }

def pool3 : Array CpInfo := pool [(1, .class_ 2), (0, u "java/lang/Comparable"), (0, .class_ 4), (0, u "java/lang/Object")] 7

/-- java/lang/Comparable -/
def k3 : Class := { plain "java/lang/Comparable" (some 0) with
  accessFlags := 1537
  interfaces := #[]
  cf := some (fileOf pool3 1 #[] #[] 1537 3 #[] #[])
  fields := #[]
  methods := #[]
  instanceTypes := #[]
  staticTypes := #[]
  resolved := Array.replicate 12 none
  statics := none }

def pool4 : Array CpInfo := pool [(1, .class_ 2), (0, u "java/io/Serializable"), (0, .class_ 4), (0, u "java/lang/Object")] 2

/-- java/io/Serializable -/
def k4 : Class := { plain "java/io/Serializable" (some 0) with
  accessFlags := 1537
  interfaces := #[]
  cf := some (fileOf pool4 1 #[] #[] 1537 3 #[] #[])
  fields := #[]
  methods := #[]
  instanceTypes := #[]
  staticTypes := #[]
  resolved := Array.replicate 7 none
  statics := none }

def pool5 : Array CpInfo := pool [(2, .class_ 4), (1, u "java/lang/Enum"), (0, u "name"), (0, u "Ljava/lang/String;"), (2, u "ordinal"), (0, u "I"), (1, .class_ 14), (1, u "java/lang/Object"), (4, u "hash"), (86, .class_ 108), (1, u "java/lang/Enum$EnumDesc"), (2, .class_ 112), (0, u "java/lang/constant/Constable"), (0, .class_ 114), (0, u "java/lang/Comparable"), (0, .class_ 116), (0, u "java/io/Serializable")] 87

/-- java/lang/Enum -/
def k5 : Class := { plain "java/lang/Enum" (some 0) with
  accessFlags := 1057
  interfaces := #[2, 3, 4]
  cf := some (fileOf pool5 2 #[.nestMembers #[106]] #[] 1057 12 #[111, 113, 115] #[{ accessFlags := 18, nameIndex := 5, descriptorIndex := 6, attributes := #[] }, { accessFlags := 18, nameIndex := 9, descriptorIndex := 10, attributes := #[] }, { accessFlags := 2, nameIndex := 19, descriptorIndex := 10, attributes := #[] }])
  fields := #[{ name := "name", type := (.object "java/lang/String"), accessFlags := 18, slot := 0, constantValue := 0 }, { name := "ordinal", type := .int, accessFlags := 18, slot := 1, constantValue := 0 }, { name := "hash", type := .int, accessFlags := 2, slot := 2, constantValue := 0 }]
  methods := #[]
  instanceTypes := #[(.object "java/lang/String"), .int, .int]
  staticTypes := #[]
  resolved := Array.replicate 204 none
  statics := none }

def pool6 : Array CpInfo := pool [(1, .class_ 2), (0, u "com/example/tenorbook/tenorbook/model/Fact$ShareChange$Cause"), (0, .fieldref 1 4), (0, .nameAndType 5 6), (0, u "DIVIDEND"), (0, u "Lcom/example/tenorbook/tenorbook/model/Fact$ShareChange$Cause;"), (2, u "SPLIT"), (2, u "$VALUES"), (0, u "[Lcom/example/tenorbook/tenorbook/model/Fact$ShareChange$Cause;"), (6, .class_ 22), (1, u "java/lang/Enum"), (8, u "bookName"), (0, u "Ljava/lang/String;"), (2, u "firstLabel"), (2, u "secondLabel"), (51, u "after"), (0, u "(JJ)J"), (0, u "second"), (6, .class_ 100), (0, u "com/example/tenorbook/tenorbook/model/Fact")] 5

def k6c0 : Code := { maxStack := 4, maxLocals := 5, code := prog_60_method_8_code, exceptionTable := #[], attributes := #[] }
def k6m0 : Method := { name := "after", desc := "(JJ)J", sig := { parameters := [.long, .long], returnType := some .long }, accessFlags := 1, code := some k6c0 }
def k6c1 : Code := { maxStack := 4, maxLocals := 5, code := prog_60_method_9_code, exceptionTable := #[], attributes := #[] }
def k6m1 : Method := { name := "second", desc := "(JJ)J", sig := { parameters := [.long, .long], returnType := some .long }, accessFlags := 1, code := some k6c1 }
/-- com/example/tenorbook/tenorbook/model/Fact$ShareChange$Cause -/
def k6 : Class := { plain "com/example/tenorbook/tenorbook/model/Fact$ShareChange$Cause" (some 5) with
  accessFlags := 16433
  interfaces := #[]
  cf := some (fileOf pool6 1 #[.nestHost 99] #[{ accessFlags := 1, nameIndex := 90, descriptorIndex := 91, attributes := #[] }, { accessFlags := 1, nameIndex := 92, descriptorIndex := 91, attributes := #[] }] 16433 20 #[] #[{ accessFlags := 16409, nameIndex := 5, descriptorIndex := 6, attributes := #[] }, { accessFlags := 16409, nameIndex := 9, descriptorIndex := 6, attributes := #[] }, { accessFlags := 18, nameIndex := 31, descriptorIndex := 32, attributes := #[] }, { accessFlags := 18, nameIndex := 35, descriptorIndex := 32, attributes := #[] }, { accessFlags := 18, nameIndex := 38, descriptorIndex := 32, attributes := #[] }, { accessFlags := 4122, nameIndex := 12, descriptorIndex := 13, attributes := #[] }])
  fields := #[{ name := "DIVIDEND", type := (.object "com/example/tenorbook/tenorbook/model/Fact$ShareChange$Cause"), accessFlags := 16409, slot := 0, constantValue := 0 }, { name := "SPLIT", type := (.object "com/example/tenorbook/tenorbook/model/Fact$ShareChange$Cause"), accessFlags := 16409, slot := 1, constantValue := 0 }, { name := "bookName", type := (.object "java/lang/String"), accessFlags := 18, slot := 3, constantValue := 0 }, { name := "firstLabel", type := (.object "java/lang/String"), accessFlags := 18, slot := 4, constantValue := 0 }, { name := "secondLabel", type := (.object "java/lang/String"), accessFlags := 18, slot := 5, constantValue := 0 }, { name := "$VALUES", type := (.array (.object "com/example/tenorbook/tenorbook/model/Fact$ShareChange$Cause")), accessFlags := 4122, slot := 2, constantValue := 0 }]
  methods := #[k6m0, k6m1]
  instanceTypes := #[(.object "java/lang/String"), .int, .int, (.object "java/lang/String"), (.object "java/lang/String"), (.object "java/lang/String")]
  staticTypes := #[(.object "com/example/tenorbook/tenorbook/model/Fact$ShareChange$Cause"), (.object "com/example/tenorbook/tenorbook/model/Fact$ShareChange$Cause"), (.array (.object "com/example/tenorbook/tenorbook/model/Fact$ShareChange$Cause"))]
  resolved := Array.replicate 106 none
  statics := some 0 }

def pool7 : Array CpInfo := pool [(1, u "java/lang/Cloneable"), (0, .class_ 1), (0, u "java/lang/Object"), (0, .class_ 3)] 3

/-- java/lang/Cloneable -/
def k7 : Class := { plain "java/lang/Cloneable" (some 0) with
  accessFlags := 1537
  interfaces := #[]
  cf := some (fileOf pool7 2 #[] #[] 1537 4 #[] #[])
  fields := #[]
  methods := #[]
  instanceTypes := #[]
  staticTypes := #[]
  resolved := Array.replicate 8 none
  statics := none }

/-- the primitive byte -/
def k8 : Class := { plain "byte" none with kind := .primitive 'B', accessFlags := 0x411 }
/-- [B -/
def k9 : Class := { plain "[B" (some 0) with kind := .array 8 .byte, interfaces := #[7, 4], accessFlags := 1041 }

/-- the primitive int -/
def k10 : Class := { plain "int" none with kind := .primitive 'I', accessFlags := 0x411 }
/-- [I -/
def k11 : Class := { plain "[I" (some 0) with kind := .array 10 .int, interfaces := #[7, 4], accessFlags := 1041 }

def heap : Heap := #[{ cls := 6, slots := #[.ref 2, .ref 1, .null], vm := .statics 6 },
  { cls := 6, slots := #[.null, .int 1, .int 0, .null, .null, .null], vm := .none },
  { cls := 6, slots := #[.null, .int 0, .int 0, .null, .null, .null], vm := .none }]
def classes : Array Class := #[k0, k1, k2, k3, k4, k5, k6, k7, k8, k9, k10, k11]
def interned : List (Array UInt16 × Addr) := []
def slotsUsed : Nat := 15
def theMethod : MethodId := ⟨1, 1⟩
def args0 : Array Value := #[.int 5, .long 6, .long 7, .long 8]
def aboutOver (below : List Frame) : State where
  vm := { classes := classes, interned := interned.toArray }
  heap := heap
  slotsUsed := slotsUsed
  threads := #[{ frames := .invoking theMethod args0 :: below }]
def below0 : List Frame := [.native { method := ⟨0, 0⟩, args := #[] }]
def about1 : State := aboutOver below0
def p0 : Program := .bare "" "" ""
def e0 : Env := launch0.env 0 0 0
theorem w_frames : about1.frames = Frame.invoking theMethod args0 :: below0 := rfl
set_option maxRecDepth 65536 in
theorem w_args : argsFit about1.vm theMethod args0 = true := by decide +kernel
set_option maxRecDepth 65536 in
theorem w_heap : heapFits about1 = true := by decide +kernel
set_option maxRecDepth 65536 in
theorem w_runnable : about1.curStatus? = some .runnable := by decide +kernel
set_option maxRecDepth 65536 in
theorem w_alone : about1.alone = true := by decide +kernel
set_option maxRecDepth 65536 in
theorem w_named : about1.methodNamed? x = some theMethod := by decide +kernel
set_option maxRecDepth 65536 in
theorem w_hears : about1.hears theMethod below0 = true := by decide +kernel
set_option maxRecDepth 65536 in
theorem w_ripe : about1.ripe theMethod args0 below0 = true := by decide +kernel
theorem w_running : about1.status = .running := rfl
set_option maxRecDepth 65536 in
theorem w_room : about1.hasRoom e0.platform room_1 = true :=
  launch0.hasRoom_least _ room_1 (by decide +kernel) (by decide +kernel) (by decide +kernel) (by decide +kernel) (by decide +kernel) (by decide +kernel)
theorem allAtoms_all (ts : List Jvm.Cond) (a : Array Jvm.Value) (st : Jvm.State) : (allAtoms ts).before a st = ts.all (fun c => c.before a st) := by
  induction ts with
  | nil => rfl
  | cons c t ih =>
    show (Jvm.Cond.and c (allAtoms t)).before a st = _
    rw [Jvm.Cond.before_and, ih, List.all_cons]
def words1 : List Jvm.Cond := Jvm.Cond.code x code maxLocals ret :: tables_1
/-- a 'code' word, met by the world's own term for the bytes: nothing is compared byte by byte -/
theorem code_word {y : MethodName} {bytes : ByteArray} {mx : Nat} {rt : Option FieldType} {a : Array Value} {s : State} {m : MethodId} {meth : Method} {c : Code} (h1 : s.methodNamed? y = some m) (h2 : s.vm.method? m = some meth) (h3 : meth.code = some c) (h4 : c.code = bytes)
    (h5 : (c.maxLocals == mx && c.exceptionTable.isEmpty && decide (c.maxStack ≤ mostOperands) && decide (meth.sig.returnType = rt) && !meth.locks && decide (parseMethodDescriptor y.desc = some meth.sig)) = true) : (Jvm.Cond.code y bytes mx rt).before a s = true := by
  simp only [Bool.and_eq_true, beq_iff_eq, Bool.not_eq_true', decide_eq_true_eq] at h5
  obtain ⟨⟨⟨⟨⟨g1, g2⟩, g3⟩, g4⟩, g5⟩, g6⟩ := h5
  simp [Cond.before, Cond.holds, Cond.value, h1, h2, h3, h4, g1, g2, g3, g4, g5, g6]
def isCode : Jvm.Cond → Bool
  | .code _ _ _ _ => true
  | _ => false
theorem all_split {L : List Jvm.Cond} {P : Jvm.Cond → Bool} (h1 : L.all (fun c => isCode c || P c) = true) (h2 : ∀ c ∈ L.filter isCode, P c = true) : L.all P = true := by
  refine List.all_eq_true.mpr fun c hc => ?_
  have h := List.all_eq_true.mp h1 c hc
  rcases Bool.eq_false_or_eq_true (isCode c) with hi | hi
  · exact h2 c (List.mem_filter.mpr ⟨hc, hi⟩)
  · simpa [hi] using h
set_option maxRecDepth 65536 in
theorem w_c0 : (Jvm.Cond.code x code maxLocals ret).before args0 about1 = true := code_word (m := ⟨1, 1⟩) (meth := k1m1) (c := k1c1) (by decide +kernel) rfl rfl rfl (by decide +kernel)
set_option maxRecDepth 65536 in
theorem w_c1 : (Jvm.Cond.code ({ cls := "com/example/tenorbook/tenorbook/model/Fact$ShareChange$Cause", name := "after", desc := "(JJ)J" } : Jvm.MethodName) prog_60_method_8_code (5 : Nat) (Option.some Jvm.ClassFile.FieldType.long)).before args0 about1 = true := code_word (m := ⟨6, 0⟩) (meth := k6m0) (c := k6c0) (by decide +kernel) rfl rfl rfl (by decide +kernel)
set_option maxRecDepth 65536 in
theorem w_c2 : (Jvm.Cond.code ({ cls := "com/example/tenorbook/tenorbook/model/Fact$ShareChange$Cause", name := "second", desc := "(JJ)J" } : Jvm.MethodName) prog_60_method_9_code (5 : Nat) (Option.some Jvm.ClassFile.FieldType.long)).before args0 about1 = true := code_word (m := ⟨6, 1⟩) (meth := k6m1) (c := k6c1) (by decide +kernel) rfl rfl rfl (by decide +kernel)
def codes1 : List Jvm.Cond := [Jvm.Cond.code x code maxLocals ret, Jvm.Cond.code ({ cls := "com/example/tenorbook/tenorbook/model/Fact$ShareChange$Cause", name := "after", desc := "(JJ)J" } : Jvm.MethodName) prog_60_method_8_code (5 : Nat) (Option.some Jvm.ClassFile.FieldType.long), Jvm.Cond.code ({ cls := "com/example/tenorbook/tenorbook/model/Fact$ShareChange$Cause", name := "second", desc := "(JJ)J" } : Jvm.MethodName) prog_60_method_9_code (5 : Nat) (Option.some Jvm.ClassFile.FieldType.long)]
set_option maxRecDepth 65536 in
theorem codes_eq : words1.filter isCode = codes1 := rfl
theorem w_codes : ∀ c ∈ words1.filter isCode, c.before args0 about1 = true := by
  rw [codes_eq]
  intro c hc
  simp only [codes1, List.mem_cons, List.not_mem_nil, or_false] at hc
  rcases hc with rfl | rfl | rfl
  · exact w_c0
  · exact w_c1
  · exact w_c2
set_option maxRecDepth 65536 in
theorem w_t1 : words1.all (fun c => isCode c || c.before args0 about1) = true := by decide +kernel
theorem w_tables : (allAtoms (Jvm.Cond.code x code maxLocals ret :: tables_1)).before args0 about1 = true := by
  rw [allAtoms_all]
  show words1.all (fun c => c.before args0 about1) = true
  refine all_split ?_ w_codes
  rw [w_t1]
set_option maxRecDepth 65536 in
theorem w_case : (Jvm.Cond.and given_1 narrow_1).before args0 about1 = true := by decide +kernel
theorem w_applies : (headSpec (Jvm.Cond.code x code maxLocals ret :: tables_1) room_1).applies x e0.platform about1 = true :=
  (Spec.applies_iff w_frames).mpr ⟨w_running, w_runnable, w_alone, w_named, w_hears, w_ripe, w_room, w_tables⟩
theorem atStart : AtStart classFile x code maxLocals ret World_1 tables_1 room_1 Calls_1 rest_1 Pre_1 launch0 p0 e0 about1 theMethod args0 below0 :=
  ⟨lists_1, trivial, launch0.admits_env _ _ _, launch0.least_env, fairChoices_fair.cas, fairChoices_fair.clock, w_frames, w_args, w_heap, w_applies, trivial, trivial, w_case⟩
end start1
theorem witness_1 : WitnessClaimed_1 := ⟨start1.p0, start1.e0, start1.about1, start1.theMethod, start1.args0, start1.below0, start1.atStart⟩
end Jvm.Pilot.@@N@@
