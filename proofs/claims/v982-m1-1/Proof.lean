import JvmDerived
import JvmDerived.Pilot.@@N@@Statement
import JvmDerived.Pilot.@@N@@Code
set_option linter.unusedVariables false
set_option linter.unusedSimpArgs false
namespace Jvm.RoadKit
open Sem ClassFile Op Lib Jvm.Stand Jvm.Free Jvm.LawKit
section New
variable {p : Program} {l : Launch} {e : Env} {R : Room} {s : State} {m : MethodId} {args : Array Value} {below : List Frame} {meth : Method} {c : Code} {T : State} {locs : List Loc} {cells slots : Nat}
theorem retI (X : Stand p l e R s m args below meth c T locs cells slots) (hx : p.tables.exec = Jvm.exec) {pc : Nat} {Ls : Array Slot} {z : Int32} {rest : List Value} (hret : meth.sig.returnType = some .int) (hd : decode c.code pc = .ok (.ireturn, 1)) {fs : List Frame}
    (hl : ∀ (f : JFrame) (acts : List Action), f.method = m → f.locked = none → f.entered = [] → (doReturn e (T.setTop f) acts (some (.int z))).1 = T.setFrames fs) : Steps p.tables e below (T.setTop (mkF m pc Ls (.int z :: rest))) (T.setFrames fs) := by
  have hm' : T.vm.method? m = some meth := X.method'
  have hn : narrow .int (.int z) = .int z := rfl
  show Steps p.tables e below (T.setTop { method := m, pc := pc, locals := Ls, stack := _ :: rest, locked := none }) _
  jvm_step X.here [X.here.top, hx, hd, hm', hret, hn]
  first | (intro acts; rw [hl _ acts rfl rfl rfl]) | rw [hl _ _ rfl rfl rfl]
  exact Steps.refl _
end New
end Jvm.RoadKit
namespace Jvm.Pilot.@@N@@
open Jvm Jvm.ClassFile Sem Op Lib Jvm.Free Jvm.Stand Jvm.LawKit Jvm.RoadKit Bundle Jvm.Pilot.@@N@@.Jvm.D
/-! the own kit: a run told backwards (Runs), arrays by a function of the place (OArr), the comparisons of longs -/
def Runs (tb : Tables) (e : Env) (below : List Frame) (R : State → Outcome → Prop) (T : State) (g : JFrame) : Prop := ∃ t o, Steps tb e below (T.setTop g) t ∧ R t o
section Own
variable {tb : Tables} {e : Env} {below : List Frame} {R : State → Outcome → Prop} {T T' : State} {g g' : JFrame}
theorem Runs.back (k : ∀ t, Steps tb e below (T'.setTop g') t → Steps tb e below (T.setTop g) t) (h : Runs tb e below R T' g') : Runs tb e below R T g := by
  obtain ⟨t, o, h1, h2⟩ := h; exact ⟨t, o, k t h1, h2⟩
theorem Runs.trans (k : Steps tb e below (T.setTop g) (T'.setTop g')) (h : Runs tb e below R T' g') : Runs tb e below R T g := by
  obtain ⟨t, o, h1, h2⟩ := h; exact ⟨t, o, Steps.trans k h1, h2⟩
theorem Runs.enter (q : g = g') (h : Runs tb e below R T g') : ∃ t o, Steps tb e below (T.setTop g) t ∧ R t o := by subst q; exact h
theorem Runs.join {α : Type} {P : α → Prop} {F : α → JFrame} (h : ∀ v, P v → Runs tb e below R T (F v)) (k : (∀ v, P v → Runs tb e below R T (F v)) → Runs tb e below R T g) : Runs tb e below R T g := k h
theorem Runs.joinT {α : Type} {P : α → State → Prop} {F : α → JFrame} (h : ∀ v T', P v T' → Runs tb e below R T' (F v)) (k : (∀ v T', P v T' → Runs tb e below R T' (F v)) → Runs tb e below R T g) : Runs tb e below R T g := k h
theorem lcT {x y : Int64} (h : x < y) : lcmpW x y < 0 := by
  have h1 : ¬ y < x := Int64.not_lt.mpr (Int64.le_of_lt h)
  have h2 : ¬ x = y := fun q => by subst q; exact Int64.lt_irrefl h
  simp [lcmpW, h1, h2]
theorem lcF {x y : Int64} (h : ¬ x < y) : ¬ lcmpW x y < 0 := by
  unfold lcmpW
  by_cases h1 : x > y
  · simp only [if_pos h1]; decide
  · have h2 : x = y := Int64.le_antisymm (Int64.not_lt.mp h1) (Int64.not_lt.mp h)
    simp only [if_neg h1, if_pos h2]; decide
theorem lcT' {x y : Int64} (h : y < x) : 0 < lcmpW x y := by
  unfold lcmpW; rw [if_pos h]; decide
theorem lcF' {x y : Int64} (h : ¬ y < x) : ¬ 0 < lcmpW x y := by
  unfold lcmpW
  have h1 : ¬ x > y := h
  simp only [if_neg h1]
  by_cases h2 : x = y
  · simp only [if_pos h2]; decide
  · simp only [if_neg h2]; decide
theorem lcE {x y : Int64} (h : x = y) : lcmpW x y = 0 := by
  have h1 : ¬ x > y := fun q => by subst h; exact Int64.lt_irrefl q
  unfold lcmpW; rw [if_neg h1, if_pos h]
theorem lcN {x y : Int64} (h : ¬ x = y) : ¬ lcmpW x y = 0 := by
  unfold lcmpW
  by_cases h1 : x > y
  · simp only [if_pos h1]; decide
  · simp only [if_neg h1, if_neg h]; decide
def OArr (Z : State) (h : Heap) (a : Addr) (ty : FieldType) (n : Nat) (f : Nat → Value) : Prop := ∃ c : Cell, Arr Z h a c ty ∧ c.slots.size = n ∧ ∀ i, i < n → c.slots[i]? = some (f i)
variable {Z : State} {h h' : Heap} {a b : Addr} {ty : FieldType} {n sl : Nat} {f : Nat → Value} {v : Value} {ws : List Addr}
theorem OArr.lt (F : OArr Z h a ty n f) : a < h.size := by obtain ⟨c, A, -⟩ := F; exact A.lt
theorem OArr.ext (F : OArr Z h a ty n f) (E : Ext h h') : OArr Z h' a ty n f := by obtain ⟨c, A, r⟩ := F; exact ⟨c, A.ext E, r⟩
theorem OArr.other (F : OArr Z h b ty n f) (W : Wr h h' a sl v) (q : b ≠ a) : OArr Z h' b ty n f := by obtain ⟨c, A, r⟩ := F; exact ⟨c, A.other W q, r⟩
theorem OArr.keep (F : OArr Z h a ty n f) (K : Keep h h' ws) (q : a ∉ ws) : OArr Z h' a ty n f := by obtain ⟨c, A, r⟩ := F; exact ⟨c, ⟨K.2.1 a c A.1 q, A.2⟩, r⟩
theorem OArr.congr (F : OArr Z h a ty n f) {f' : Nat → Value} (q : ∀ i, i < n → f i = f' i) : OArr Z h a ty n f' := by obtain ⟨c, A, r1, r2⟩ := F; exact ⟨c, A, r1, fun i hi => by rw [r2 i hi, q i hi]⟩
theorem OArr.set (F : OArr Z h a ty n f) (W : Wr h h' a sl v) : OArr Z h' a ty n (fun i => if i = sl then v else f i) := by
  obtain ⟨c, A, r1, r2⟩ := F
  obtain ⟨cell, e1, -, e3, -⟩ := id W
  cases e1.symm.trans A.1
  refine ⟨_, A.same W, by rw [sz_set]; exact r1, fun i hi => ?_⟩
  by_cases q : i = sl
  · subst q; simp [Cell.setSlot, e3]
  · simp only [if_neg q]; rw [← r2 i hi]; exact Array.getElem?_setIfInBounds_ne (Ne.symm q)
theorem OArr.new {cA : ClassId} {z : Int32} (A : Arr Z h a (newA cA ty z) ty) (q : z.toNatClampNeg = n) (hd : defaultValue ty = v) : OArr Z h a ty n (fun _ => v) :=
  ⟨_, A, by rw [sz_new]; exact q, fun i hi => by subst hd; simp [newA, q, hi]⟩
theorem inbO {j : Int32} {k : Nat} (ng : ¬ j < 0) (e : j.toNatClampNeg = k) (h : k < n) : ¬ (j < 0 ∨ n ≤ j.toNatClampNeg) := fun q => q.elim ng fun r => by rw [e] at r; exact absurd h (Nat.not_lt.mpr r)
theorem readO {c : Cell} {j : Int32} {k : Nat} (H : ∀ i, i < n → c.slots[i]? = some (f i)) (e : j.toNatClampNeg = k) (h : k < n) (q : f k = v) : c.slots[j.toNatClampNeg]? = some v := by rw [e, H k h, q]
theorem lti {x y : Int32} : x < y ↔ x.toInt < y.toInt := Int32.lt_iff_toInt_lt
theorem ltl {x y : Int64} : x < y ↔ x.toInt < y.toInt := Int64.lt_iff_toInt_lt
theorem eqi {x y : Int32} : x = y ↔ x.toInt = y.toInt := Int32.toInt_inj.symm
theorem eql {x y : Int64} : x = y ↔ x.toInt = y.toInt := Int64.toInt_inj.symm
end Own

def refF (a b : Int64) : Int64 := if a = b then a else if a = (1 : Int64) then b else if b = (1 : Int64) then a else (-1 : Int64)
def extF (a b : Int64) : Int64 := if a = b then (if a = (1 : Int64) then b else a) else if a = (1 : Int64) then (if a = (1 : Int64) then b else a) else if b = (1 : Int64) then (if a = (1 : Int64) then b else a) else (-1 : Int64)
theorem ext_ref (a b : Int64) : extF a b = refF a b := by
  unfold extF refF
  by_cases h1 : a = b
  · subst h1; simp
  · rw [if_neg h1, if_neg h1]
    by_cases h2 : a = (1 : Int64)
    · rw [if_pos h2, if_pos h2, if_pos h2]
    · rw [if_neg h2, if_neg h2, if_neg h2]
theorem ext_fer (a b : Int64) : extF b a = refF a b := by
  unfold extF refF
  by_cases h1 : a = b
  · subst h1; simp
  · have h1' : ¬ b = a := fun q => h1 q.symm
    rw [if_neg h1, if_neg h1']
    by_cases h2 : a = (1 : Int64)
    · have h3 : ¬ b = (1 : Int64) := fun q => h1 (h2.trans q.symm)
      rw [if_pos h2, if_neg h3, if_pos h2, if_neg h3]
    · rw [if_neg h2]
      by_cases h3 : b = (1 : Int64)
      · subst h3; simp [h2]
      · rw [if_neg h3, if_neg h2, if_neg h3]
theorem d1_0 : decode method_3_code 0 = .ok (.lload_n 0, 1) := by decide +kernel
theorem d1_1 : decode method_3_code 1 = .ok (.lload_n 2, 1) := by decide +kernel
theorem d1_2 : decode method_3_code 2 = .ok (.lcmp, 1) := by decide +kernel
theorem d1_3 : decode method_3_code 3 = .ok (.ifCond .ne 5, 3) := by decide +kernel
theorem d1_6 : decode method_3_code 6 = .ok (.lload_n 0, 1) := by decide +kernel
theorem d1_7 : decode method_3_code 7 = .ok (.lreturn, 1) := by decide +kernel
theorem d1_8 : decode method_3_code 8 = .ok (.lload_n 0, 1) := by decide +kernel
theorem d1_9 : decode method_3_code 9 = .ok (.lconst 1, 1) := by decide +kernel
theorem d1_10 : decode method_3_code 10 = .ok (.lcmp, 1) := by decide +kernel
theorem d1_11 : decode method_3_code 11 = .ok (.ifCond .ne 5, 3) := by decide +kernel
theorem d1_14 : decode method_3_code 14 = .ok (.lload_n 2, 1) := by decide +kernel
theorem d1_15 : decode method_3_code 15 = .ok (.lreturn, 1) := by decide +kernel
theorem d1_16 : decode method_3_code 16 = .ok (.lload_n 2, 1) := by decide +kernel
theorem d1_17 : decode method_3_code 17 = .ok (.lconst 1, 1) := by decide +kernel
theorem d1_18 : decode method_3_code 18 = .ok (.lcmp, 1) := by decide +kernel
theorem d1_19 : decode method_3_code 19 = .ok (.ifCond .ne 5, 3) := by decide +kernel
theorem d1_22 : decode method_3_code 22 = .ok (.lload_n 0, 1) := by decide +kernel
theorem d1_23 : decode method_3_code 23 = .ok (.lreturn, 1) := by decide +kernel
theorem d1_24 : decode method_3_code 24 = .ok (.ldc2_w 18, 3) := by decide +kernel
theorem d1_27 : decode method_3_code 27 = .ok (.lreturn, 1) := by decide +kernel
theorem pn_1 : plainName "com/example/lacuna/lacuna/BroadcastExtentPinLaw" = true := by first | (simp [plainName, overriddenIn]; done) | decide +kernel
theorem ef_1 (m : MethodId) (q0 : Int64) (q1 : Int64) : entryFrame m #[(.long q0), (.long q1)] 4 = mkF m 0 #[.val (.long q0), .second, .val (.long q1), .second] [] := by first | (simp [entryFrame, mkF, argsToLocals, Value.category]; done) | rfl
def Q1 (Z : State) (q0 : Int64) (q1 : Int64)  (h0 : Heap) (n0 : Nat) (v : Option Value) (h : Heap) (L : List Loc) : Prop := v = some (.long (refF q0 q1)) ∧ Fr n0 L ∧ h = h0
set_option maxRecDepth 65536 in
set_option maxHeartbeats 40000000 in
theorem rm1 (l : Launch) (Z : State) (a0 : Array Value) (hw : ∀ d ∈ tables_1, d.before a0 Z = true) (ws : List Jvm.Cond) (q0 : Int64) (q1 : Int64)  (h0 : Heap) (n0 : Nat) (Z0 : n0 ≤ h0.size) :
    MetFree l (⟨"com/example/lacuna/lacuna/BroadcastExtentPinLaw", "reference", "(JJ)J"⟩ : MethodName) (head1 (Jvm.Cond.code (⟨"com/example/lacuna/lacuna/BroadcastExtentPinLaw", "reference", "(JJ)J"⟩ : MethodName) method_3_code 4 (some .long) :: ws) ({ frames := 0, cells := 0, slots := 0, locals := 0 } : Room)) (fun a U => a = #[(.long q0), (.long q1)] ∧ Z.Warmed39 U.vm ∧ U.heap = h0) (fun _ _ _ _ _ => True) (fun _ U o U' => ∃ v L, o = .returned v ∧ Q1 Z q0 q1 h0 n0 v U'.heap L ∧ FrameEnd U o U' L ({ frames := 0, cells := 0, slots := 0, locals := 0 } : Room).cells ({ frames := 0, cells := 0, slots := 0, locals := 0 } : Room).slots) := by
  refine MetFree.of_bodySF (plainFor_of_name pn_1) hisR ?_
  intro p e s m args below meth c s₁ Bd hml0 hP hK
  obtain ⟨rfl, hZ, hh⟩ := hP
  have hx := Bd.exec
  have hby := Bd.bytes
  have hml : c.maxLocals = 4 := hml0
  have hown : s.vm.findClass "com/example/lacuna/lacuna/BroadcastExtentPinLaw" = some m.cls := findClass_of_methodNamed Bd.named
  have hnm := (name_of_methodNamed Bd.named Bd.method).1
  have X0 : Stand p l e ({ frames := 0, cells := 0, slots := 0, locals := 0 } : Room) s m #[(.long q0), (.long q1)] below meth c s₁ [] 0 0 := Stand.of_body Bd
  have e0 : s₁.heap = h0 := by rw [← hh, Bd.state]; rfl
  have N0 := Fr.nil n0
  refine Runs.enter (ef_1 m q0 q1) ?_
  show Runs _ _ _ _ s₁ (mkF m 0 #[.val (.long q0), .second, .val (.long q1), .second] [])
  refine Runs.back (fun t k => XS.lloadN X0.here hx rfl (hb hby d1_0) rfl k) ?_
  show Runs _ _ _ _ s₁ (mkF m 1 #[.val (.long q0), .second, .val (.long q1), .second] [(.long q0)])
  refine Runs.back (fun t k => XS.lloadN X0.here hx rfl (hb hby d1_1) rfl k) ?_
  show Runs _ _ _ _ s₁ (mkF m 2 #[.val (.long q0), .second, .val (.long q1), .second] [(.long q1), (.long q0)])
  refine Runs.back (fun t k => XS.lcmp X0.here hx rfl (hb hby d1_2) rfl k) ?_
  show Runs _ _ _ _ s₁ (mkF m 3 #[.val (.long q0), .second, .val (.long q1), .second] [(.int (lcmpW q0 q1))])
  by_cases c3_1 : q0 = q1
  · refine Runs.back (fun t k => XS.ifNo X0.here hx rfl (hb hby d1_3) rfl ((if0 _ _).trans (teq (lcE c3_1)).2) k) ?_
    show Runs _ _ _ _ s₁ (mkF m 6 #[.val (.long q0), .second, .val (.long q1), .second] [])
    refine Runs.back (fun t k => XS.lloadN X0.here hx rfl (hb hby d1_6) rfl k) ?_
    show Runs _ _ _ _ s₁ (mkF m 7 #[.val (.long q0), .second, .val (.long q1), .second] [(.long q0)])
    obtain ⟨fs, hr, hrun, hended, hW, hsame⟩ := X0.leave (v := some (.long q0)) (fun h => by rw [Bd.returns] at h; cases h)
    exact ⟨_, _, (X0.lreturnOut hx Bd.returns (hb hby d1_7) hr), hrun, hended, _, _, rfl, ⟨(by first | rfl | (simp only [refF, if_pos c3_1]; done) | (simp +decide only [refF, if_pos c3_1]; done) | (simp [refF, c3_1]; done)), N0, e0⟩, ⟨_, rfl⟩, hW, hsame.mono (by decide) (by decide)⟩
  · refine Runs.back (fun t k => XS.ifYes X0.here hx rfl (pc0 := 3) (pc' := 8) rfl (hb hby d1_3) rfl ((if0 _ _).trans (feq (lcN c3_1)).2) (by decide) (by decide) k) ?_
    show Runs _ _ _ _ s₁ (mkF m 8 #[.val (.long q0), .second, .val (.long q1), .second] [])
    refine Runs.back (fun t k => XS.lloadN X0.here hx rfl (hb hby d1_8) rfl k) ?_
    show Runs _ _ _ _ s₁ (mkF m 9 #[.val (.long q0), .second, .val (.long q1), .second] [(.long q0)])
    refine Runs.back (fun t k => XS.lconst X0.here hx rfl (hb hby d1_9) k) ?_
    show Runs _ _ _ _ s₁ (mkF m 10 #[.val (.long q0), .second, .val (.long q1), .second] [(.long (1 : Int64)), (.long q0)])
    refine Runs.back (fun t k => XS.lcmp X0.here hx rfl (hb hby d1_10) rfl k) ?_
    show Runs _ _ _ _ s₁ (mkF m 11 #[.val (.long q0), .second, .val (.long q1), .second] [(.int (lcmpW q0 (1 : Int64)))])
    by_cases c11_2 : q0 = (1 : Int64)
    · refine Runs.back (fun t k => XS.ifNo X0.here hx rfl (hb hby d1_11) rfl ((if0 _ _).trans (teq (lcE c11_2)).2) k) ?_
      show Runs _ _ _ _ s₁ (mkF m 14 #[.val (.long q0), .second, .val (.long q1), .second] [])
      refine Runs.back (fun t k => XS.lloadN X0.here hx rfl (hb hby d1_14) rfl k) ?_
      show Runs _ _ _ _ s₁ (mkF m 15 #[.val (.long q0), .second, .val (.long q1), .second] [(.long q1)])
      obtain ⟨fs, hr, hrun, hended, hW, hsame⟩ := X0.leave (v := some (.long q1)) (fun h => by rw [Bd.returns] at h; cases h)
      exact ⟨_, _, (X0.lreturnOut hx Bd.returns (hb hby d1_15) hr), hrun, hended, _, _, rfl, ⟨(by first | rfl | (simp only [refF, if_neg c3_1, if_pos c11_2]; done) | (simp +decide only [refF, if_neg c3_1, if_pos c11_2]; done) | (simp [refF, c3_1, c11_2]; done)), N0, e0⟩, ⟨_, rfl⟩, hW, hsame.mono (by decide) (by decide)⟩
    · refine Runs.back (fun t k => XS.ifYes X0.here hx rfl (pc0 := 11) (pc' := 16) rfl (hb hby d1_11) rfl ((if0 _ _).trans (feq (lcN c11_2)).2) (by decide) (by decide) k) ?_
      show Runs _ _ _ _ s₁ (mkF m 16 #[.val (.long q0), .second, .val (.long q1), .second] [])
      refine Runs.back (fun t k => XS.lloadN X0.here hx rfl (hb hby d1_16) rfl k) ?_
      show Runs _ _ _ _ s₁ (mkF m 17 #[.val (.long q0), .second, .val (.long q1), .second] [(.long q1)])
      refine Runs.back (fun t k => XS.lconst X0.here hx rfl (hb hby d1_17) k) ?_
      show Runs _ _ _ _ s₁ (mkF m 18 #[.val (.long q0), .second, .val (.long q1), .second] [(.long (1 : Int64)), (.long q1)])
      refine Runs.back (fun t k => XS.lcmp X0.here hx rfl (hb hby d1_18) rfl k) ?_
      show Runs _ _ _ _ s₁ (mkF m 19 #[.val (.long q0), .second, .val (.long q1), .second] [(.int (lcmpW q1 (1 : Int64)))])
      by_cases c19_3 : q1 = (1 : Int64)
      · refine Runs.back (fun t k => XS.ifNo X0.here hx rfl (hb hby d1_19) rfl ((if0 _ _).trans (teq (lcE c19_3)).2) k) ?_
        show Runs _ _ _ _ s₁ (mkF m 22 #[.val (.long q0), .second, .val (.long q1), .second] [])
        refine Runs.back (fun t k => XS.lloadN X0.here hx rfl (hb hby d1_22) rfl k) ?_
        show Runs _ _ _ _ s₁ (mkF m 23 #[.val (.long q0), .second, .val (.long q1), .second] [(.long q0)])
        obtain ⟨fs, hr, hrun, hended, hW, hsame⟩ := X0.leave (v := some (.long q0)) (fun h => by rw [Bd.returns] at h; cases h)
        exact ⟨_, _, (X0.lreturnOut hx Bd.returns (hb hby d1_23) hr), hrun, hended, _, _, rfl, ⟨(by first | rfl | (simp only [refF, if_neg c3_1, if_neg c11_2, if_pos c19_3]; done) | (simp +decide only [refF, if_neg c3_1, if_neg c11_2, if_pos c19_3]; done) | (simp [refF, c3_1, c11_2, c19_3]; done)), N0, e0⟩, ⟨_, rfl⟩, hW, hsame.mono (by decide) (by decide)⟩
      · refine Runs.back (fun t k => XS.ifYes X0.here hx rfl (pc0 := 19) (pc' := 24) rfl (hb hby d1_19) rfl ((if0 _ _).trans (feq (lcN c19_3)).2) (by decide) (by decide) k) ?_
        show Runs _ _ _ _ s₁ (mkF m 24 #[.val (.long q0), .second, .val (.long q1), .second] [])
        refine Runs.back (X0.ldc2Long hx hown (mvT hZ (hw _ (List.mem_of_getElem? (i := 8) rfl))) (g := (mkF m 24 #[.val (.long q0), .second, .val (.long q1), .second] [])) rfl (hb hby d1_24)) ?_
        show Runs _ _ _ _ s₁ (mkF m 27 #[.val (.long q0), .second, .val (.long q1), .second] [(.long (-1 : Int64))])
        obtain ⟨fs, hr, hrun, hended, hW, hsame⟩ := X0.leave (v := some (.long (-1 : Int64))) (fun h => by rw [Bd.returns] at h; cases h)
        exact ⟨_, _, (X0.lreturnOut hx Bd.returns (hb hby d1_27) hr), hrun, hended, _, _, rfl, ⟨(by first | rfl | (simp only [refF, if_neg c3_1, if_neg c11_2, if_neg c19_3]; done) | (simp +decide only [refF, if_neg c3_1, if_neg c11_2, if_neg c19_3]; done) | (simp [refF, c3_1, c11_2, c19_3]; done)), N0, e0⟩, ⟨_, rfl⟩, hW, hsame.mono (by decide) (by decide)⟩
theorem d2_0 : decode prog_7_method_3_code 0 = .ok (.lload_n 0, 1) := by decide +kernel
theorem d2_1 : decode prog_7_method_3_code 1 = .ok (.lload_n 2, 1) := by decide +kernel
theorem d2_2 : decode prog_7_method_3_code 2 = .ok (.lcmp, 1) := by decide +kernel
theorem d2_3 : decode prog_7_method_3_code 3 = .ok (.ifCond .eq 19, 3) := by decide +kernel
theorem d2_6 : decode prog_7_method_3_code 6 = .ok (.lload_n 0, 1) := by decide +kernel
theorem d2_7 : decode prog_7_method_3_code 7 = .ok (.lconst 1, 1) := by decide +kernel
theorem d2_8 : decode prog_7_method_3_code 8 = .ok (.lcmp, 1) := by decide +kernel
theorem d2_9 : decode prog_7_method_3_code 9 = .ok (.ifCond .eq 13, 3) := by decide +kernel
theorem d2_12 : decode prog_7_method_3_code 12 = .ok (.lload_n 2, 1) := by decide +kernel
theorem d2_13 : decode prog_7_method_3_code 13 = .ok (.lconst 1, 1) := by decide +kernel
theorem d2_14 : decode prog_7_method_3_code 14 = .ok (.lcmp, 1) := by decide +kernel
theorem d2_15 : decode prog_7_method_3_code 15 = .ok (.ifCond .eq 7, 3) := by decide +kernel
theorem d2_18 : decode prog_7_method_3_code 18 = .ok (.ldc2_w 78, 3) := by decide +kernel
theorem d2_21 : decode prog_7_method_3_code 21 = .ok (.lreturn, 1) := by decide +kernel
theorem d2_22 : decode prog_7_method_3_code 22 = .ok (.lload_n 0, 1) := by decide +kernel
theorem d2_23 : decode prog_7_method_3_code 23 = .ok (.lconst 1, 1) := by decide +kernel
theorem d2_24 : decode prog_7_method_3_code 24 = .ok (.lcmp, 1) := by decide +kernel
theorem d2_25 : decode prog_7_method_3_code 25 = .ok (.ifCond .ne 7, 3) := by decide +kernel
theorem d2_28 : decode prog_7_method_3_code 28 = .ok (.lload_n 2, 1) := by decide +kernel
theorem d2_29 : decode prog_7_method_3_code 29 = .ok (.goto 4, 3) := by decide +kernel
theorem d2_32 : decode prog_7_method_3_code 32 = .ok (.lload_n 0, 1) := by decide +kernel
theorem d2_33 : decode prog_7_method_3_code 33 = .ok (.lreturn, 1) := by decide +kernel
theorem pn_2 : plainName "com/example/lacuna/lacuna/Broadcast" = true := by first | (simp [plainName, overriddenIn]; done) | decide +kernel
theorem ef_2 (m : MethodId) (q0 : Int64) (q1 : Int64) : entryFrame m #[(.long q0), (.long q1)] 4 = mkF m 0 #[.val (.long q0), .second, .val (.long q1), .second] [] := by first | (simp [entryFrame, mkF, argsToLocals, Value.category]; done) | rfl
def Q2 (Z : State) (q0 : Int64) (q1 : Int64)  (h0 : Heap) (n0 : Nat) (v : Option Value) (h : Heap) (L : List Loc) : Prop := v = some (.long (extF q0 q1)) ∧ Fr n0 L ∧ h = h0
set_option maxRecDepth 65536 in
set_option maxHeartbeats 40000000 in
theorem rm2 (l : Launch) (Z : State) (a0 : Array Value) (hw : ∀ d ∈ tables_1, d.before a0 Z = true) (ws : List Jvm.Cond) (q0 : Int64) (q1 : Int64)  (h0 : Heap) (n0 : Nat) (Z0 : n0 ≤ h0.size) :
    MetFree l (⟨"com/example/lacuna/lacuna/Broadcast", "extent", "(JJ)J"⟩ : MethodName) (head1 (Jvm.Cond.code (⟨"com/example/lacuna/lacuna/Broadcast", "extent", "(JJ)J"⟩ : MethodName) prog_7_method_3_code 4 (some .long) :: ws) ({ frames := 0, cells := 0, slots := 0, locals := 0 } : Room)) (fun a U => a = #[(.long q0), (.long q1)] ∧ Z.Warmed39 U.vm ∧ U.heap = h0) (fun _ _ _ _ _ => True) (fun _ U o U' => ∃ v L, o = .returned v ∧ Q2 Z q0 q1 h0 n0 v U'.heap L ∧ FrameEnd U o U' L ({ frames := 0, cells := 0, slots := 0, locals := 0 } : Room).cells ({ frames := 0, cells := 0, slots := 0, locals := 0 } : Room).slots) := by
  refine MetFree.of_bodySF (plainFor_of_name pn_2) hisR ?_
  intro p e s m args below meth c s₁ Bd hml0 hP hK
  obtain ⟨rfl, hZ, hh⟩ := hP
  have hx := Bd.exec
  have hby := Bd.bytes
  have hml : c.maxLocals = 4 := hml0
  have hown : s.vm.findClass "com/example/lacuna/lacuna/Broadcast" = some m.cls := findClass_of_methodNamed Bd.named
  have hnm := (name_of_methodNamed Bd.named Bd.method).1
  have X0 : Stand p l e ({ frames := 0, cells := 0, slots := 0, locals := 0 } : Room) s m #[(.long q0), (.long q1)] below meth c s₁ [] 0 0 := Stand.of_body Bd
  have e0 : s₁.heap = h0 := by rw [← hh, Bd.state]; rfl
  have N0 := Fr.nil n0
  refine Runs.enter (ef_2 m q0 q1) ?_
  show Runs _ _ _ _ s₁ (mkF m 0 #[.val (.long q0), .second, .val (.long q1), .second] [])
  refine Runs.back (fun t k => XS.lloadN X0.here hx rfl (hb hby d2_0) rfl k) ?_
  show Runs _ _ _ _ s₁ (mkF m 1 #[.val (.long q0), .second, .val (.long q1), .second] [(.long q0)])
  refine Runs.back (fun t k => XS.lloadN X0.here hx rfl (hb hby d2_1) rfl k) ?_
  show Runs _ _ _ _ s₁ (mkF m 2 #[.val (.long q0), .second, .val (.long q1), .second] [(.long q1), (.long q0)])
  refine Runs.back (fun t k => XS.lcmp X0.here hx rfl (hb hby d2_2) rfl k) ?_
  show Runs _ _ _ _ s₁ (mkF m 3 #[.val (.long q0), .second, .val (.long q1), .second] [(.int (lcmpW q0 q1))])
  by_cases c3_1 : q0 = q1
  · refine Runs.back (fun t k => XS.ifYes X0.here hx rfl (pc0 := 3) (pc' := 22) rfl (hb hby d2_3) rfl ((if0 _ _).trans (teq (lcE c3_1)).1) (by decide) (by decide) k) ?_
    show Runs _ _ _ _ s₁ (mkF m 22 #[.val (.long q0), .second, .val (.long q1), .second] [])
    refine Runs.back (fun t k => XS.lloadN X0.here hx rfl (hb hby d2_22) rfl k) ?_
    show Runs _ _ _ _ s₁ (mkF m 23 #[.val (.long q0), .second, .val (.long q1), .second] [(.long q0)])
    refine Runs.back (fun t k => XS.lconst X0.here hx rfl (hb hby d2_23) k) ?_
    show Runs _ _ _ _ s₁ (mkF m 24 #[.val (.long q0), .second, .val (.long q1), .second] [(.long (1 : Int64)), (.long q0)])
    refine Runs.back (fun t k => XS.lcmp X0.here hx rfl (hb hby d2_24) rfl k) ?_
    show Runs _ _ _ _ s₁ (mkF m 25 #[.val (.long q0), .second, .val (.long q1), .second] [(.int (lcmpW q0 (1 : Int64)))])
    by_cases c25_2 : q0 = (1 : Int64)
    · refine Runs.back (fun t k => XS.ifNo X0.here hx rfl (hb hby d2_25) rfl ((if0 _ _).trans (teq (lcE c25_2)).2) k) ?_
      show Runs _ _ _ _ s₁ (mkF m 28 #[.val (.long q0), .second, .val (.long q1), .second] [])
      refine Runs.back (fun t k => XS.lloadN X0.here hx rfl (hb hby d2_28) rfl k) ?_
      show Runs _ _ _ _ s₁ (mkF m 29 #[.val (.long q0), .second, .val (.long q1), .second] [(.long q1)])
      refine Runs.back (fun t k => XS.goto X0.here hx rfl (pc0 := 29) (pc' := 33) rfl (hb hby d2_29) (by decide) (by decide) k) ?_
      show Runs _ _ _ _ s₁ (mkF m 33 #[.val (.long q0), .second, .val (.long q1), .second] [(.long q1)])
      obtain ⟨fs, hr, hrun, hended, hW, hsame⟩ := X0.leave (v := some (.long q1)) (fun h => by rw [Bd.returns] at h; cases h)
      exact ⟨_, _, (X0.lreturnOut hx Bd.returns (hb hby d2_33) hr), hrun, hended, _, _, rfl, ⟨(by first | rfl | (simp only [extF, if_pos c3_1, if_pos c25_2]; done) | (simp +decide only [extF, if_pos c3_1, if_pos c25_2]; done) | (simp [extF, c3_1, c25_2]; done)), N0, e0⟩, ⟨_, rfl⟩, hW, hsame.mono (by decide) (by decide)⟩
    · refine Runs.back (fun t k => XS.ifYes X0.here hx rfl (pc0 := 25) (pc' := 32) rfl (hb hby d2_25) rfl ((if0 _ _).trans (feq (lcN c25_2)).2) (by decide) (by decide) k) ?_
      show Runs _ _ _ _ s₁ (mkF m 32 #[.val (.long q0), .second, .val (.long q1), .second] [])
      refine Runs.back (fun t k => XS.lloadN X0.here hx rfl (hb hby d2_32) rfl k) ?_
      show Runs _ _ _ _ s₁ (mkF m 33 #[.val (.long q0), .second, .val (.long q1), .second] [(.long q0)])
      obtain ⟨fs, hr, hrun, hended, hW, hsame⟩ := X0.leave (v := some (.long q0)) (fun h => by rw [Bd.returns] at h; cases h)
      exact ⟨_, _, (X0.lreturnOut hx Bd.returns (hb hby d2_33) hr), hrun, hended, _, _, rfl, ⟨(by first | rfl | (simp only [extF, if_pos c3_1, if_neg c25_2]; done) | (simp +decide only [extF, if_pos c3_1, if_neg c25_2]; done) | (simp [extF, c3_1, c25_2]; done)), N0, e0⟩, ⟨_, rfl⟩, hW, hsame.mono (by decide) (by decide)⟩
  · refine Runs.back (fun t k => XS.ifNo X0.here hx rfl (hb hby d2_3) rfl ((if0 _ _).trans (feq (lcN c3_1)).1) k) ?_
    show Runs _ _ _ _ s₁ (mkF m 6 #[.val (.long q0), .second, .val (.long q1), .second] [])
    refine Runs.back (fun t k => XS.lloadN X0.here hx rfl (hb hby d2_6) rfl k) ?_
    show Runs _ _ _ _ s₁ (mkF m 7 #[.val (.long q0), .second, .val (.long q1), .second] [(.long q0)])
    refine Runs.back (fun t k => XS.lconst X0.here hx rfl (hb hby d2_7) k) ?_
    show Runs _ _ _ _ s₁ (mkF m 8 #[.val (.long q0), .second, .val (.long q1), .second] [(.long (1 : Int64)), (.long q0)])
    refine Runs.back (fun t k => XS.lcmp X0.here hx rfl (hb hby d2_8) rfl k) ?_
    show Runs _ _ _ _ s₁ (mkF m 9 #[.val (.long q0), .second, .val (.long q1), .second] [(.int (lcmpW q0 (1 : Int64)))])
    by_cases c9_3 : q0 = (1 : Int64)
    · refine Runs.back (fun t k => XS.ifYes X0.here hx rfl (pc0 := 9) (pc' := 22) rfl (hb hby d2_9) rfl ((if0 _ _).trans (teq (lcE c9_3)).1) (by decide) (by decide) k) ?_
      show Runs _ _ _ _ s₁ (mkF m 22 #[.val (.long q0), .second, .val (.long q1), .second] [])
      refine Runs.back (fun t k => XS.lloadN X0.here hx rfl (hb hby d2_22) rfl k) ?_
      show Runs _ _ _ _ s₁ (mkF m 23 #[.val (.long q0), .second, .val (.long q1), .second] [(.long q0)])
      refine Runs.back (fun t k => XS.lconst X0.here hx rfl (hb hby d2_23) k) ?_
      show Runs _ _ _ _ s₁ (mkF m 24 #[.val (.long q0), .second, .val (.long q1), .second] [(.long (1 : Int64)), (.long q0)])
      refine Runs.back (fun t k => XS.lcmp X0.here hx rfl (hb hby d2_24) rfl k) ?_
      show Runs _ _ _ _ s₁ (mkF m 25 #[.val (.long q0), .second, .val (.long q1), .second] [(.int (lcmpW q0 (1 : Int64)))])
      refine Runs.back (fun t k => XS.ifNo X0.here hx rfl (hb hby d2_25) rfl ((if0 _ _).trans (teq (lcE (show q0 = (1 : Int64) from c9_3))).2) k) ?_
      show Runs _ _ _ _ s₁ (mkF m 28 #[.val (.long q0), .second, .val (.long q1), .second] [])
      refine Runs.back (fun t k => XS.lloadN X0.here hx rfl (hb hby d2_28) rfl k) ?_
      show Runs _ _ _ _ s₁ (mkF m 29 #[.val (.long q0), .second, .val (.long q1), .second] [(.long q1)])
      refine Runs.back (fun t k => XS.goto X0.here hx rfl (pc0 := 29) (pc' := 33) rfl (hb hby d2_29) (by decide) (by decide) k) ?_
      show Runs _ _ _ _ s₁ (mkF m 33 #[.val (.long q0), .second, .val (.long q1), .second] [(.long q1)])
      obtain ⟨fs, hr, hrun, hended, hW, hsame⟩ := X0.leave (v := some (.long q1)) (fun h => by rw [Bd.returns] at h; cases h)
      exact ⟨_, _, (X0.lreturnOut hx Bd.returns (hb hby d2_33) hr), hrun, hended, _, _, rfl, ⟨(by first | rfl | (simp only [extF, if_neg c3_1, if_pos c9_3]; done) | (simp +decide only [extF, if_neg c3_1, if_pos c9_3]; done) | (simp [extF, c3_1, c9_3]; done)), N0, e0⟩, ⟨_, rfl⟩, hW, hsame.mono (by decide) (by decide)⟩
    · refine Runs.back (fun t k => XS.ifNo X0.here hx rfl (hb hby d2_9) rfl ((if0 _ _).trans (feq (lcN c9_3)).1) k) ?_
      show Runs _ _ _ _ s₁ (mkF m 12 #[.val (.long q0), .second, .val (.long q1), .second] [])
      refine Runs.back (fun t k => XS.lloadN X0.here hx rfl (hb hby d2_12) rfl k) ?_
      show Runs _ _ _ _ s₁ (mkF m 13 #[.val (.long q0), .second, .val (.long q1), .second] [(.long q1)])
      refine Runs.back (fun t k => XS.lconst X0.here hx rfl (hb hby d2_13) k) ?_
      show Runs _ _ _ _ s₁ (mkF m 14 #[.val (.long q0), .second, .val (.long q1), .second] [(.long (1 : Int64)), (.long q1)])
      refine Runs.back (fun t k => XS.lcmp X0.here hx rfl (hb hby d2_14) rfl k) ?_
      show Runs _ _ _ _ s₁ (mkF m 15 #[.val (.long q0), .second, .val (.long q1), .second] [(.int (lcmpW q1 (1 : Int64)))])
      by_cases c15_4 : q1 = (1 : Int64)
      · refine Runs.back (fun t k => XS.ifYes X0.here hx rfl (pc0 := 15) (pc' := 22) rfl (hb hby d2_15) rfl ((if0 _ _).trans (teq (lcE c15_4)).1) (by decide) (by decide) k) ?_
        show Runs _ _ _ _ s₁ (mkF m 22 #[.val (.long q0), .second, .val (.long q1), .second] [])
        refine Runs.back (fun t k => XS.lloadN X0.here hx rfl (hb hby d2_22) rfl k) ?_
        show Runs _ _ _ _ s₁ (mkF m 23 #[.val (.long q0), .second, .val (.long q1), .second] [(.long q0)])
        refine Runs.back (fun t k => XS.lconst X0.here hx rfl (hb hby d2_23) k) ?_
        show Runs _ _ _ _ s₁ (mkF m 24 #[.val (.long q0), .second, .val (.long q1), .second] [(.long (1 : Int64)), (.long q0)])
        refine Runs.back (fun t k => XS.lcmp X0.here hx rfl (hb hby d2_24) rfl k) ?_
        show Runs _ _ _ _ s₁ (mkF m 25 #[.val (.long q0), .second, .val (.long q1), .second] [(.int (lcmpW q0 (1 : Int64)))])
        refine Runs.back (fun t k => XS.ifYes X0.here hx rfl (pc0 := 25) (pc' := 32) rfl (hb hby d2_25) rfl ((if0 _ _).trans (feq (lcN (show ¬ (q0 = (1 : Int64)) from c9_3))).2) (by decide) (by decide) k) ?_
        show Runs _ _ _ _ s₁ (mkF m 32 #[.val (.long q0), .second, .val (.long q1), .second] [])
        refine Runs.back (fun t k => XS.lloadN X0.here hx rfl (hb hby d2_32) rfl k) ?_
        show Runs _ _ _ _ s₁ (mkF m 33 #[.val (.long q0), .second, .val (.long q1), .second] [(.long q0)])
        obtain ⟨fs, hr, hrun, hended, hW, hsame⟩ := X0.leave (v := some (.long q0)) (fun h => by rw [Bd.returns] at h; cases h)
        exact ⟨_, _, (X0.lreturnOut hx Bd.returns (hb hby d2_33) hr), hrun, hended, _, _, rfl, ⟨(by first | rfl | (simp only [extF, if_neg c3_1, if_neg c9_3, if_pos c15_4]; done) | (simp +decide only [extF, if_neg c3_1, if_neg c9_3, if_pos c15_4]; done) | (simp [extF, c3_1, c9_3, c15_4]; done)), N0, e0⟩, ⟨_, rfl⟩, hW, hsame.mono (by decide) (by decide)⟩
      · refine Runs.back (fun t k => XS.ifNo X0.here hx rfl (hb hby d2_15) rfl ((if0 _ _).trans (feq (lcN c15_4)).1) k) ?_
        show Runs _ _ _ _ s₁ (mkF m 18 #[.val (.long q0), .second, .val (.long q1), .second] [])
        refine Runs.back (X0.ldc2Long hx hown (mvT hZ (hw _ (List.mem_of_getElem? (i := 9) rfl))) (g := (mkF m 18 #[.val (.long q0), .second, .val (.long q1), .second] [])) rfl (hb hby d2_18)) ?_
        show Runs _ _ _ _ s₁ (mkF m 21 #[.val (.long q0), .second, .val (.long q1), .second] [(.long (-1 : Int64))])
        obtain ⟨fs, hr, hrun, hended, hW, hsame⟩ := X0.leave (v := some (.long (-1 : Int64))) (fun h => by rw [Bd.returns] at h; cases h)
        exact ⟨_, _, (X0.lreturnOut hx Bd.returns (hb hby d2_21) hr), hrun, hended, _, _, rfl, ⟨(by first | rfl | (simp only [extF, if_neg c3_1, if_neg c9_3, if_neg c15_4]; done) | (simp +decide only [extF, if_neg c3_1, if_neg c9_3, if_neg c15_4]; done) | (simp [extF, c3_1, c9_3, c15_4]; done)), N0, e0⟩, ⟨_, rfl⟩, hW, hsame.mono (by decide) (by decide)⟩
theorem pn_0 : plainName "com/example/lacuna/lacuna/BroadcastExtentPinLaw" = true := by first | (simp [plainName, overriddenIn]; done) | decide +kernel
theorem pd0_0 : parseMethodDescriptor "(JJ)J" = some ⟨[.long, .long], some .long⟩ := by decide +kernel
theorem ef_0 (m : MethodId) (q0 : Int64) (q1 : Int64) (p2 : Int32) : entryFrame m #[(.long q0), (.long q1), (.int p2)] maxLocals = mkF m 0 #[.val (.long q0), .second, .val (.long q1), .second, .val (.int p2), .unset, .unset, .unset, .unset, .unset, .unset, .unset, .unset, .unset, .unset, .unset] [] := by first | (simp [entryFrame, mkF, argsToLocals, Value.category, maxLocals]; done) | rfl
def Q0 (Z : State) (q0 : Int64) (q1 : Int64) (p2 : Int32)  (h0 : Heap) (n0 : Nat) (v : Option Value) (h : Heap) (L : List Loc) : Prop := v = some (.int 1) ∧ Fr n0 L
set_option maxRecDepth 65536 in
set_option maxHeartbeats 40000000 in
theorem rm0 (l : Launch) (Z : State) (a0 : Array Value) (hw : ∀ d ∈ tables_1, d.before a0 Z = true) (ws : List Jvm.Cond) (q0 : Int64) (q1 : Int64) (p2 : Int32)  (h0 : Heap) (n0 : Nat) (Z0 : n0 ≤ h0.size) :
    MetFree l x (head1 (Jvm.Cond.code x code maxLocals ret :: ws) room_1) (fun a U => a = #[(.long q0), (.long q1), (.int p2)] ∧ Z.Warmed39 U.vm ∧ U.heap = h0) (fun _ _ _ _ _ => True) (fun _ U o U' => ∃ v L, o = .returned v ∧ Q0 Z q0 q1 p2 h0 n0 v U'.heap L ∧ FrameEnd U o U' L 0 0) := by
  refine MetFree.of_bodySF (plainFor_of_name pn_0) hisR ?_
  intro p e s m args below meth c s₁ Bd hml0 hP hK
  obtain ⟨rfl, hZ, hh⟩ := hP
  have hx := Bd.exec
  have hby := Bd.bytes
  have hml : c.maxLocals = 16 := hml0
  have hown : s.vm.findClass "com/example/lacuna/lacuna/BroadcastExtentPinLaw" = some m.cls := findClass_of_methodNamed Bd.named
  have hnm := (name_of_methodNamed Bd.named Bd.method).1
  have X0 : Stand p l e room_1 s m #[(.long q0), (.long q1), (.int p2)] below meth c s₁ [] 0 0 := Stand.of_body Bd
  have e0 : s₁.heap = h0 := by rw [← hh, Bd.state]; rfl
  have N0 := Fr.nil n0
  refine Runs.enter (ef_0 m q0 q1 p2) ?_
  show Runs _ _ _ _ s₁ (mkF m 0 #[.val (.long q0), .second, .val (.long q1), .second, .val (.int p2), .unset, .unset, .unset, .unset, .unset, .unset, .unset, .unset, .unset, .unset, .unset] [])
  refine Runs.back (fun t k => XS.iload X0.here hx rfl (hb hby at_0) rfl k) ?_
  show Runs _ _ _ _ s₁ (mkF m 2 #[.val (.long q0), .second, .val (.long q1), .second, .val (.int p2), .unset, .unset, .unset, .unset, .unset, .unset, .unset, .unset, .unset, .unset, .unset] [(.int p2)])
  refine Runs.back (fun t k => XS.iconst X0.here hx rfl (hb hby at_2) k) ?_
  show Runs _ _ _ _ s₁ (mkF m 3 #[.val (.long q0), .second, .val (.long q1), .second, .val (.int p2), .unset, .unset, .unset, .unset, .unset, .unset, .unset, .unset, .unset, .unset, .unset] [(.int (3 : Int32)), (.int p2)])
  refine Runs.back (fun t k => XS.iand X0.here hx rfl (hb hby at_3) rfl k) ?_
  show Runs _ _ _ _ s₁ (mkF m 4 #[.val (.long q0), .second, .val (.long q1), .second, .val (.int p2), .unset, .unset, .unset, .unset, .unset, .unset, .unset, .unset, .unset, .unset, .unset] [(.int (p2 &&& (3 : Int32)))])
  refine Runs.back (fun t k => XS.istore X0.here hx rfl (hb hby at_4) rfl (l' := #[.val (.long q0), .second, .val (.long q1), .second, .val (.int p2), .val (.int (p2 &&& (3 : Int32))), .unset, .unset, .unset, .unset, .unset, .unset, .unset, .unset, .unset, .unset]) rfl k) ?_
  show Runs _ _ _ _ s₁ (mkF m 6 #[.val (.long q0), .second, .val (.long q1), .second, .val (.int p2), .val (.int (p2 &&& (3 : Int32))), .unset, .unset, .unset, .unset, .unset, .unset, .unset, .unset, .unset, .unset] [])
  refine Runs.back (fun t k => XS.lloadN X0.here hx rfl (hb hby at_6) rfl k) ?_
  show Runs _ _ _ _ s₁ (mkF m 7 #[.val (.long q0), .second, .val (.long q1), .second, .val (.int p2), .val (.int (p2 &&& (3 : Int32))), .unset, .unset, .unset, .unset, .unset, .unset, .unset, .unset, .unset, .unset] [(.long q0)])
  refine Runs.back (fun t k => XS.lstore X0.here hx rfl (hb hby at_7) rfl (l' := #[.val (.long q0), .second, .val (.long q1), .second, .val (.int p2), .val (.int (p2 &&& (3 : Int32))), .val (.long q0), .second, .unset, .unset, .unset, .unset, .unset, .unset, .unset, .unset]) rfl k) ?_
  show Runs _ _ _ _ s₁ (mkF m 9 #[.val (.long q0), .second, .val (.long q1), .second, .val (.int p2), .val (.int (p2 &&& (3 : Int32))), .val (.long q0), .second, .unset, .unset, .unset, .unset, .unset, .unset, .unset, .unset] [])
  refine Runs.back (fun t k => XS.lloadN X0.here hx rfl (hb hby at_9) rfl k) ?_
  show Runs _ _ _ _ s₁ (mkF m 10 #[.val (.long q0), .second, .val (.long q1), .second, .val (.int p2), .val (.int (p2 &&& (3 : Int32))), .val (.long q0), .second, .unset, .unset, .unset, .unset, .unset, .unset, .unset, .unset] [(.long q1)])
  refine Runs.back (fun t k => XS.lstore X0.here hx rfl (hb hby at_10) rfl (l' := #[.val (.long q0), .second, .val (.long q1), .second, .val (.int p2), .val (.int (p2 &&& (3 : Int32))), .val (.long q0), .second, .val (.long q1), .second, .unset, .unset, .unset, .unset, .unset, .unset]) rfl k) ?_
  show Runs _ _ _ _ s₁ (mkF m 12 #[.val (.long q0), .second, .val (.long q1), .second, .val (.int p2), .val (.int (p2 &&& (3 : Int32))), .val (.long q0), .second, .val (.long q1), .second, .unset, .unset, .unset, .unset, .unset, .unset] [])
  refine Runs.join (α := Int64 × Int64) (P := fun (⟨ua, ub⟩ : Int64 × Int64) => True) (F := fun (⟨ua, ub⟩ : Int64 × Int64) => (mkF m 45 #[.val (.long q0), .second, .val (.long q1), .second, .val (.int p2), .val (.int (p2 &&& (3 : Int32))), .val (.long ua), .second, .val (.long ub), .second, .unset, .unset, .unset, .unset, .unset, .unset] [])) ?_ ?_
  · rintro ⟨ua, ub⟩ hJ1
    show Runs _ _ _ _ s₁ (mkF m 45 #[.val (.long q0), .second, .val (.long q1), .second, .val (.int p2), .val (.int (p2 &&& (3 : Int32))), .val (.long ua), .second, .val (.long ub), .second, .unset, .unset, .unset, .unset, .unset, .unset] [])
    refine Runs.back (fun t k => XS.lload X0.here hx rfl (hb hby at_45) rfl k) ?_
    show Runs _ _ _ _ s₁ (mkF m 47 #[.val (.long q0), .second, .val (.long q1), .second, .val (.int p2), .val (.int (p2 &&& (3 : Int32))), .val (.long ua), .second, .val (.long ub), .second, .unset, .unset, .unset, .unset, .unset, .unset] [(.long ua)])
    refine Runs.back (fun t k => XS.lload X0.here hx rfl (hb hby at_47) rfl k) ?_
    show Runs _ _ _ _ s₁ (mkF m 49 #[.val (.long q0), .second, .val (.long q1), .second, .val (.int p2), .val (.int (p2 &&& (3 : Int32))), .val (.long ua), .second, .val (.long ub), .second, .unset, .unset, .unset, .unset, .unset, .unset] [(.long ub), (.long ua)])
    obtain ⟨_, _, ⟨T1, L1, k1, n1⟩, -, X1, ⟨Lc1, hQ1, l1, y1, z1⟩, st1⟩ := Jvm.LawKit.callS X0 hx (y := (⟨"com/example/lacuna/lacuna/BroadcastExtentPinLaw", "reference", "(JJ)J"⟩ : MethodName)) hown (mvT hZ (hw _ (List.mem_of_getElem? (i := 0) rfl))) (mvT hZ (hw _ (List.mem_of_getElem? (i := 1) rfl))) (mvT hZ (hw _ (List.mem_of_getElem? (i := 2) rfl))) (mvT hZ (hw _ (List.mem_of_getElem? (i := 3) rfl))) (by decide) (backOf (W := 0) (rm1 l Z a0 hw [] ua ub h0 n0 (Z0)) hZ (hw _ (List.mem_of_getElem? (i := 3) rfl)) (hw _ (List.mem_of_getElem? (i := 2) rfl)) (by decide) (by decide)) (g := (mkF m 49 #[.val (.long q0), .second, .val (.long q1), .second, .val (.int p2), .val (.int (p2 &&& (3 : Int32))), .val (.long ua), .second, .val (.long ub), .second, .unset, .unset, .unset, .unset, .unset, .unset] [(.long ub), (.long ua)])) rfl (by rw [hml]; rfl) (argsL := [(.long ua), (.long ub)]) (rest := []) (lenOf pd0_0 rfl) rfl (by show 2 * 0 + _ ≤ _; exact Nat.le_of_eq rfl) (hb hby at_49) (fun _ _ => ⟨rfl, e0, (by decide : 0 + 0 ≤ _), (by decide : 0 + 0 ≤ _)⟩)
    dsimp only [Pt.U, Pt.locs, Pt.cells, Pt.slots] at X1 l1 y1 z1 st1 hQ1
    subst l1 y1 z1
    obtain ⟨rfl, N1q, eq1⟩ := hQ1
    have N1 := Fr.app N0 N1q
    refine Runs.back st1 ?_
    show Runs _ _ _ _ T1 (mkF m 52 #[.val (.long q0), .second, .val (.long q1), .second, .val (.int p2), .val (.int (p2 &&& (3 : Int32))), .val (.long ua), .second, .val (.long ub), .second, .unset, .unset, .unset, .unset, .unset, .unset] [(.long (refF ua ub))])
    refine Runs.back (fun t k => XS.lstore X1.here hx rfl (hb hby at_52) rfl (l' := #[.val (.long q0), .second, .val (.long q1), .second, .val (.int p2), .val (.int (p2 &&& (3 : Int32))), .val (.long ua), .second, .val (.long ub), .second, .val (.long (refF ua ub)), .second, .unset, .unset, .unset, .unset]) rfl k) ?_
    show Runs _ _ _ _ T1 (mkF m 54 #[.val (.long q0), .second, .val (.long q1), .second, .val (.int p2), .val (.int (p2 &&& (3 : Int32))), .val (.long ua), .second, .val (.long ub), .second, .val (.long (refF ua ub)), .second, .unset, .unset, .unset, .unset] [])
    refine Runs.back (fun t k => XS.lload X1.here hx rfl (hb hby at_54) rfl k) ?_
    show Runs _ _ _ _ T1 (mkF m 56 #[.val (.long q0), .second, .val (.long q1), .second, .val (.int p2), .val (.int (p2 &&& (3 : Int32))), .val (.long ua), .second, .val (.long ub), .second, .val (.long (refF ua ub)), .second, .unset, .unset, .unset, .unset] [(.long ua)])
    refine Runs.back (fun t k => XS.lload X1.here hx rfl (hb hby at_56) rfl k) ?_
    show Runs _ _ _ _ T1 (mkF m 58 #[.val (.long q0), .second, .val (.long q1), .second, .val (.int p2), .val (.int (p2 &&& (3 : Int32))), .val (.long ua), .second, .val (.long ub), .second, .val (.long (refF ua ub)), .second, .unset, .unset, .unset, .unset] [(.long ub), (.long ua)])
    obtain ⟨_, _, ⟨T2, L2, k2, n2⟩, -, X2, ⟨Lc2, hQ2, l2, y2, z2⟩, st2⟩ := Jvm.LawKit.callS X1 hx (y := (⟨"com/example/lacuna/lacuna/Broadcast", "extent", "(JJ)J"⟩ : MethodName)) hown (mvT hZ (hw _ (List.mem_of_getElem? (i := 4) rfl))) (mvT hZ (hw _ (List.mem_of_getElem? (i := 5) rfl))) (mvT hZ (hw _ (List.mem_of_getElem? (i := 6) rfl))) (mvT hZ (hw _ (List.mem_of_getElem? (i := 7) rfl))) (by decide) (backOf (W := 0) (rm2 l Z a0 hw [] ua ub h0 n0 (Z0)) hZ (hw _ (List.mem_of_getElem? (i := 7) rfl)) (hw _ (List.mem_of_getElem? (i := 6) rfl)) (by decide) (by decide)) (g := (mkF m 58 #[.val (.long q0), .second, .val (.long q1), .second, .val (.int p2), .val (.int (p2 &&& (3 : Int32))), .val (.long ua), .second, .val (.long ub), .second, .val (.long (refF ua ub)), .second, .unset, .unset, .unset, .unset] [(.long ub), (.long ua)])) rfl (by rw [hml]; rfl) (argsL := [(.long ua), (.long ub)]) (rest := []) (lenOf pd0_0 rfl) rfl (by show 2 * 0 + _ ≤ _; exact Nat.le_of_eq rfl) (hb hby at_58) (fun _ _ => ⟨rfl, eq1, (by decide : 0 + 0 ≤ _), (by decide : 0 + 0 ≤ _)⟩)
    dsimp only [Pt.U, Pt.locs, Pt.cells, Pt.slots] at X2 l2 y2 z2 st2 hQ2
    subst l2 y2 z2
    obtain ⟨rfl, N2q, eq2⟩ := hQ2
    have N2 := Fr.app N1 N2q
    refine Runs.back st2 ?_
    show Runs _ _ _ _ T2 (mkF m 61 #[.val (.long q0), .second, .val (.long q1), .second, .val (.int p2), .val (.int (p2 &&& (3 : Int32))), .val (.long ua), .second, .val (.long ub), .second, .val (.long (refF ua ub)), .second, .unset, .unset, .unset, .unset] [(.long (extF ua ub))])
    refine Runs.back (fun t k => XS.lstore X2.here hx rfl (hb hby at_61) rfl (l' := #[.val (.long q0), .second, .val (.long q1), .second, .val (.int p2), .val (.int (p2 &&& (3 : Int32))), .val (.long ua), .second, .val (.long ub), .second, .val (.long (refF ua ub)), .second, .val (.long (extF ua ub)), .second, .unset, .unset]) rfl k) ?_
    show Runs _ _ _ _ T2 (mkF m 63 #[.val (.long q0), .second, .val (.long q1), .second, .val (.int p2), .val (.int (p2 &&& (3 : Int32))), .val (.long ua), .second, .val (.long ub), .second, .val (.long (refF ua ub)), .second, .val (.long (extF ua ub)), .second, .unset, .unset] [])
    refine Runs.back (fun t k => XS.lload X2.here hx rfl (hb hby at_63) rfl k) ?_
    show Runs _ _ _ _ T2 (mkF m 65 #[.val (.long q0), .second, .val (.long q1), .second, .val (.int p2), .val (.int (p2 &&& (3 : Int32))), .val (.long ua), .second, .val (.long ub), .second, .val (.long (refF ua ub)), .second, .val (.long (extF ua ub)), .second, .unset, .unset] [(.long ub)])
    refine Runs.back (fun t k => XS.lload X2.here hx rfl (hb hby at_65) rfl k) ?_
    show Runs _ _ _ _ T2 (mkF m 67 #[.val (.long q0), .second, .val (.long q1), .second, .val (.int p2), .val (.int (p2 &&& (3 : Int32))), .val (.long ua), .second, .val (.long ub), .second, .val (.long (refF ua ub)), .second, .val (.long (extF ua ub)), .second, .unset, .unset] [(.long ua), (.long ub)])
    obtain ⟨_, _, ⟨T3, L3, k3, n3⟩, -, X3, ⟨Lc3, hQ3, l3, y3, z3⟩, st3⟩ := Jvm.LawKit.callS X2 hx (y := (⟨"com/example/lacuna/lacuna/Broadcast", "extent", "(JJ)J"⟩ : MethodName)) hown (mvT hZ (hw _ (List.mem_of_getElem? (i := 4) rfl))) (mvT hZ (hw _ (List.mem_of_getElem? (i := 5) rfl))) (mvT hZ (hw _ (List.mem_of_getElem? (i := 6) rfl))) (mvT hZ (hw _ (List.mem_of_getElem? (i := 7) rfl))) (by decide) (backOf (W := 0) (rm2 l Z a0 hw [] ub ua h0 n0 (Z0)) hZ (hw _ (List.mem_of_getElem? (i := 7) rfl)) (hw _ (List.mem_of_getElem? (i := 6) rfl)) (by decide) (by decide)) (g := (mkF m 67 #[.val (.long q0), .second, .val (.long q1), .second, .val (.int p2), .val (.int (p2 &&& (3 : Int32))), .val (.long ua), .second, .val (.long ub), .second, .val (.long (refF ua ub)), .second, .val (.long (extF ua ub)), .second, .unset, .unset] [(.long ua), (.long ub)])) rfl (by rw [hml]; rfl) (argsL := [(.long ub), (.long ua)]) (rest := []) (lenOf pd0_0 rfl) rfl (by show 2 * 0 + _ ≤ _; exact Nat.le_of_eq rfl) (hb hby at_67) (fun _ _ => ⟨rfl, eq2, (by decide : 0 + 0 ≤ _), (by decide : 0 + 0 ≤ _)⟩)
    dsimp only [Pt.U, Pt.locs, Pt.cells, Pt.slots] at X3 l3 y3 z3 st3 hQ3
    subst l3 y3 z3
    obtain ⟨rfl, N3q, eq3⟩ := hQ3
    have N3 := Fr.app N2 N3q
    refine Runs.back st3 ?_
    show Runs _ _ _ _ T3 (mkF m 70 #[.val (.long q0), .second, .val (.long q1), .second, .val (.int p2), .val (.int (p2 &&& (3 : Int32))), .val (.long ua), .second, .val (.long ub), .second, .val (.long (refF ua ub)), .second, .val (.long (extF ua ub)), .second, .unset, .unset] [(.long (extF ub ua))])
    refine Runs.back (fun t k => XS.lstore X3.here hx rfl (hb hby at_70) rfl (l' := #[.val (.long q0), .second, .val (.long q1), .second, .val (.int p2), .val (.int (p2 &&& (3 : Int32))), .val (.long ua), .second, .val (.long ub), .second, .val (.long (refF ua ub)), .second, .val (.long (extF ua ub)), .second, .val (.long (extF ub ua)), .second]) rfl k) ?_
    show Runs _ _ _ _ T3 (mkF m 72 #[.val (.long q0), .second, .val (.long q1), .second, .val (.int p2), .val (.int (p2 &&& (3 : Int32))), .val (.long ua), .second, .val (.long ub), .second, .val (.long (refF ua ub)), .second, .val (.long (extF ua ub)), .second, .val (.long (extF ub ua)), .second] [])
    refine Runs.back (fun t k => XS.lload X3.here hx rfl (hb hby at_72) rfl k) ?_
    show Runs _ _ _ _ T3 (mkF m 74 #[.val (.long q0), .second, .val (.long q1), .second, .val (.int p2), .val (.int (p2 &&& (3 : Int32))), .val (.long ua), .second, .val (.long ub), .second, .val (.long (refF ua ub)), .second, .val (.long (extF ua ub)), .second, .val (.long (extF ub ua)), .second] [(.long (extF ua ub))])
    refine Runs.back (fun t k => XS.lload X3.here hx rfl (hb hby at_74) rfl k) ?_
    show Runs _ _ _ _ T3 (mkF m 76 #[.val (.long q0), .second, .val (.long q1), .second, .val (.int p2), .val (.int (p2 &&& (3 : Int32))), .val (.long ua), .second, .val (.long ub), .second, .val (.long (refF ua ub)), .second, .val (.long (extF ua ub)), .second, .val (.long (extF ub ua)), .second] [(.long (refF ua ub)), (.long (extF ua ub))])
    refine Runs.back (fun t k => XS.lcmp X3.here hx rfl (hb hby at_76) rfl k) ?_
    show Runs _ _ _ _ T3 (mkF m 77 #[.val (.long q0), .second, .val (.long q1), .second, .val (.int p2), .val (.int (p2 &&& (3 : Int32))), .val (.long ua), .second, .val (.long ub), .second, .val (.long (refF ua ub)), .second, .val (.long (extF ua ub)), .second, .val (.long (extF ub ua)), .second] [(.int (lcmpW (extF ua ub) (refF ua ub)))])
    refine Runs.back (fun t k => XS.ifNo X3.here hx rfl (hb hby at_77) rfl ((if0 _ _).trans (teq (lcE (show (extF ua ub) = (refF ua ub) from (ext_ref _ _)))).2) k) ?_
    show Runs _ _ _ _ T3 (mkF m 80 #[.val (.long q0), .second, .val (.long q1), .second, .val (.int p2), .val (.int (p2 &&& (3 : Int32))), .val (.long ua), .second, .val (.long ub), .second, .val (.long (refF ua ub)), .second, .val (.long (extF ua ub)), .second, .val (.long (extF ub ua)), .second] [])
    refine Runs.back (fun t k => XS.lload X3.here hx rfl (hb hby at_80) rfl k) ?_
    show Runs _ _ _ _ T3 (mkF m 82 #[.val (.long q0), .second, .val (.long q1), .second, .val (.int p2), .val (.int (p2 &&& (3 : Int32))), .val (.long ua), .second, .val (.long ub), .second, .val (.long (refF ua ub)), .second, .val (.long (extF ua ub)), .second, .val (.long (extF ub ua)), .second] [(.long (extF ub ua))])
    refine Runs.back (fun t k => XS.lload X3.here hx rfl (hb hby at_82) rfl k) ?_
    show Runs _ _ _ _ T3 (mkF m 84 #[.val (.long q0), .second, .val (.long q1), .second, .val (.int p2), .val (.int (p2 &&& (3 : Int32))), .val (.long ua), .second, .val (.long ub), .second, .val (.long (refF ua ub)), .second, .val (.long (extF ua ub)), .second, .val (.long (extF ub ua)), .second] [(.long (refF ua ub)), (.long (extF ub ua))])
    refine Runs.back (fun t k => XS.lcmp X3.here hx rfl (hb hby at_84) rfl k) ?_
    show Runs _ _ _ _ T3 (mkF m 85 #[.val (.long q0), .second, .val (.long q1), .second, .val (.int p2), .val (.int (p2 &&& (3 : Int32))), .val (.long ua), .second, .val (.long ub), .second, .val (.long (refF ua ub)), .second, .val (.long (extF ua ub)), .second, .val (.long (extF ub ua)), .second] [(.int (lcmpW (extF ub ua) (refF ua ub)))])
    refine Runs.back (fun t k => XS.ifNo X3.here hx rfl (hb hby at_85) rfl ((if0 _ _).trans (teq (lcE (show (extF ub ua) = (refF ua ub) from (ext_fer _ _)))).2) k) ?_
    show Runs _ _ _ _ T3 (mkF m 88 #[.val (.long q0), .second, .val (.long q1), .second, .val (.int p2), .val (.int (p2 &&& (3 : Int32))), .val (.long ua), .second, .val (.long ub), .second, .val (.long (refF ua ub)), .second, .val (.long (extF ua ub)), .second, .val (.long (extF ub ua)), .second] [])
    refine Runs.back (fun t k => XS.iconst X3.here hx rfl (hb hby at_88) k) ?_
    show Runs _ _ _ _ T3 (mkF m 89 #[.val (.long q0), .second, .val (.long q1), .second, .val (.int p2), .val (.int (p2 &&& (3 : Int32))), .val (.long ua), .second, .val (.long ub), .second, .val (.long (refF ua ub)), .second, .val (.long (extF ua ub)), .second, .val (.long (extF ub ua)), .second] [(.int (1 : Int32))])
    refine Runs.back (fun t k => XS.goto X3.here hx rfl (pc0 := 89) (pc' := 93) rfl (hb hby at_89) (by decide) (by decide) k) ?_
    show Runs _ _ _ _ T3 (mkF m 93 #[.val (.long q0), .second, .val (.long q1), .second, .val (.int p2), .val (.int (p2 &&& (3 : Int32))), .val (.long ua), .second, .val (.long ub), .second, .val (.long (refF ua ub)), .second, .val (.long (extF ua ub)), .second, .val (.long (extF ub ua)), .second] [(.int (1 : Int32))])
    obtain ⟨fs, hr, hrun, hended, hW, hsame⟩ := X3.leave (v := some (.int (1 : Int32))) (fun h => by rw [Bd.returns] at h; cases h)
    exact ⟨_, _, (retN X3 hx (t := .boolean) Bd.returns (by simp) (hb hby at_93) hr), hrun, hended, _, _, rfl, ⟨rfl, N3⟩, ⟨_, rfl⟩, hW, hsame.mono (by decide) (by decide)⟩
  · intro J1
    show Runs _ _ _ _ s₁ (mkF m 12 #[.val (.long q0), .second, .val (.long q1), .second, .val (.int p2), .val (.int (p2 &&& (3 : Int32))), .val (.long q0), .second, .val (.long q1), .second, .unset, .unset, .unset, .unset, .unset, .unset] [])
    refine Runs.back (fun t k => XS.iload X0.here hx rfl (hb hby at_12) rfl k) ?_
    show Runs _ _ _ _ s₁ (mkF m 14 #[.val (.long q0), .second, .val (.long q1), .second, .val (.int p2), .val (.int (p2 &&& (3 : Int32))), .val (.long q0), .second, .val (.long q1), .second, .unset, .unset, .unset, .unset, .unset, .unset] [(.int (p2 &&& (3 : Int32)))])
    refine Runs.back (fun t k => XS.iconst X0.here hx rfl (hb hby at_14) k) ?_
    show Runs _ _ _ _ s₁ (mkF m 15 #[.val (.long q0), .second, .val (.long q1), .second, .val (.int p2), .val (.int (p2 &&& (3 : Int32))), .val (.long q0), .second, .val (.long q1), .second, .unset, .unset, .unset, .unset, .unset, .unset] [(.int (1 : Int32)), (.int (p2 &&& (3 : Int32)))])
    by_cases c15_4 : (p2 &&& (3 : Int32)) = (1 : Int32)
    · refine Runs.back (fun t k => XS.icmpNo X0.here hx rfl (hb hby at_15) rfl (teq c15_4).2 k) ?_
      show Runs _ _ _ _ s₁ (mkF m 18 #[.val (.long q0), .second, .val (.long q1), .second, .val (.int p2), .val (.int (p2 &&& (3 : Int32))), .val (.long q0), .second, .val (.long q1), .second, .unset, .unset, .unset, .unset, .unset, .unset] [])
      refine Runs.back (fun t k => XS.lconst X0.here hx rfl (hb hby at_18) k) ?_
      show Runs _ _ _ _ s₁ (mkF m 19 #[.val (.long q0), .second, .val (.long q1), .second, .val (.int p2), .val (.int (p2 &&& (3 : Int32))), .val (.long q0), .second, .val (.long q1), .second, .unset, .unset, .unset, .unset, .unset, .unset] [(.long (1 : Int64))])
      refine Runs.back (fun t k => XS.lstore X0.here hx rfl (hb hby at_19) rfl (l' := #[.val (.long q0), .second, .val (.long q1), .second, .val (.int p2), .val (.int (p2 &&& (3 : Int32))), .val (.long (1 : Int64)), .second, .val (.long q1), .second, .unset, .unset, .unset, .unset, .unset, .unset]) rfl k) ?_
      show Runs _ _ _ _ s₁ (mkF m 21 #[.val (.long q0), .second, .val (.long q1), .second, .val (.int p2), .val (.int (p2 &&& (3 : Int32))), .val (.long (1 : Int64)), .second, .val (.long q1), .second, .unset, .unset, .unset, .unset, .unset, .unset] [])
      refine Runs.back (fun t k => XS.goto X0.here hx rfl (pc0 := 21) (pc' := 45) rfl (hb hby at_21) (by decide) (by decide) k) ?_
      show Runs _ _ _ _ s₁ (mkF m 45 #[.val (.long q0), .second, .val (.long q1), .second, .val (.int p2), .val (.int (p2 &&& (3 : Int32))), .val (.long (1 : Int64)), .second, .val (.long q1), .second, .unset, .unset, .unset, .unset, .unset, .unset] [])
      exact J1 ((1 : Int64), q1) trivial
    · refine Runs.back (fun t k => XS.icmpYes X0.here hx rfl (pc0 := 15) (pc' := 24) rfl (hb hby at_15) rfl (feq c15_4).2 (by decide) (by decide) k) ?_
      show Runs _ _ _ _ s₁ (mkF m 24 #[.val (.long q0), .second, .val (.long q1), .second, .val (.int p2), .val (.int (p2 &&& (3 : Int32))), .val (.long q0), .second, .val (.long q1), .second, .unset, .unset, .unset, .unset, .unset, .unset] [])
      refine Runs.back (fun t k => XS.iload X0.here hx rfl (hb hby at_24) rfl k) ?_
      show Runs _ _ _ _ s₁ (mkF m 26 #[.val (.long q0), .second, .val (.long q1), .second, .val (.int p2), .val (.int (p2 &&& (3 : Int32))), .val (.long q0), .second, .val (.long q1), .second, .unset, .unset, .unset, .unset, .unset, .unset] [(.int (p2 &&& (3 : Int32)))])
      refine Runs.back (fun t k => XS.iconst X0.here hx rfl (hb hby at_26) k) ?_
      show Runs _ _ _ _ s₁ (mkF m 27 #[.val (.long q0), .second, .val (.long q1), .second, .val (.int p2), .val (.int (p2 &&& (3 : Int32))), .val (.long q0), .second, .val (.long q1), .second, .unset, .unset, .unset, .unset, .unset, .unset] [(.int (2 : Int32)), (.int (p2 &&& (3 : Int32)))])
      by_cases c27_5 : (p2 &&& (3 : Int32)) = (2 : Int32)
      · refine Runs.back (fun t k => XS.icmpNo X0.here hx rfl (hb hby at_27) rfl (teq c27_5).2 k) ?_
        show Runs _ _ _ _ s₁ (mkF m 30 #[.val (.long q0), .second, .val (.long q1), .second, .val (.int p2), .val (.int (p2 &&& (3 : Int32))), .val (.long q0), .second, .val (.long q1), .second, .unset, .unset, .unset, .unset, .unset, .unset] [])
        refine Runs.back (fun t k => XS.lconst X0.here hx rfl (hb hby at_30) k) ?_
        show Runs _ _ _ _ s₁ (mkF m 31 #[.val (.long q0), .second, .val (.long q1), .second, .val (.int p2), .val (.int (p2 &&& (3 : Int32))), .val (.long q0), .second, .val (.long q1), .second, .unset, .unset, .unset, .unset, .unset, .unset] [(.long (1 : Int64))])
        refine Runs.back (fun t k => XS.lstore X0.here hx rfl (hb hby at_31) rfl (l' := #[.val (.long q0), .second, .val (.long q1), .second, .val (.int p2), .val (.int (p2 &&& (3 : Int32))), .val (.long q0), .second, .val (.long (1 : Int64)), .second, .unset, .unset, .unset, .unset, .unset, .unset]) rfl k) ?_
        show Runs _ _ _ _ s₁ (mkF m 33 #[.val (.long q0), .second, .val (.long q1), .second, .val (.int p2), .val (.int (p2 &&& (3 : Int32))), .val (.long q0), .second, .val (.long (1 : Int64)), .second, .unset, .unset, .unset, .unset, .unset, .unset] [])
        refine Runs.back (fun t k => XS.goto X0.here hx rfl (pc0 := 33) (pc' := 45) rfl (hb hby at_33) (by decide) (by decide) k) ?_
        show Runs _ _ _ _ s₁ (mkF m 45 #[.val (.long q0), .second, .val (.long q1), .second, .val (.int p2), .val (.int (p2 &&& (3 : Int32))), .val (.long q0), .second, .val (.long (1 : Int64)), .second, .unset, .unset, .unset, .unset, .unset, .unset] [])
        exact J1 (q0, (1 : Int64)) trivial
      · refine Runs.back (fun t k => XS.icmpYes X0.here hx rfl (pc0 := 27) (pc' := 36) rfl (hb hby at_27) rfl (feq c27_5).2 (by decide) (by decide) k) ?_
        show Runs _ _ _ _ s₁ (mkF m 36 #[.val (.long q0), .second, .val (.long q1), .second, .val (.int p2), .val (.int (p2 &&& (3 : Int32))), .val (.long q0), .second, .val (.long q1), .second, .unset, .unset, .unset, .unset, .unset, .unset] [])
        refine Runs.back (fun t k => XS.iload X0.here hx rfl (hb hby at_36) rfl k) ?_
        show Runs _ _ _ _ s₁ (mkF m 38 #[.val (.long q0), .second, .val (.long q1), .second, .val (.int p2), .val (.int (p2 &&& (3 : Int32))), .val (.long q0), .second, .val (.long q1), .second, .unset, .unset, .unset, .unset, .unset, .unset] [(.int (p2 &&& (3 : Int32)))])
        refine Runs.back (fun t k => XS.iconst X0.here hx rfl (hb hby at_38) k) ?_
        show Runs _ _ _ _ s₁ (mkF m 39 #[.val (.long q0), .second, .val (.long q1), .second, .val (.int p2), .val (.int (p2 &&& (3 : Int32))), .val (.long q0), .second, .val (.long q1), .second, .unset, .unset, .unset, .unset, .unset, .unset] [(.int (3 : Int32)), (.int (p2 &&& (3 : Int32)))])
        by_cases c39_6 : (p2 &&& (3 : Int32)) = (3 : Int32)
        · refine Runs.back (fun t k => XS.icmpNo X0.here hx rfl (hb hby at_39) rfl (teq c39_6).2 k) ?_
          show Runs _ _ _ _ s₁ (mkF m 42 #[.val (.long q0), .second, .val (.long q1), .second, .val (.int p2), .val (.int (p2 &&& (3 : Int32))), .val (.long q0), .second, .val (.long q1), .second, .unset, .unset, .unset, .unset, .unset, .unset] [])
          refine Runs.back (fun t k => XS.lloadN X0.here hx rfl (hb hby at_42) rfl k) ?_
          show Runs _ _ _ _ s₁ (mkF m 43 #[.val (.long q0), .second, .val (.long q1), .second, .val (.int p2), .val (.int (p2 &&& (3 : Int32))), .val (.long q0), .second, .val (.long q1), .second, .unset, .unset, .unset, .unset, .unset, .unset] [(.long q0)])
          refine Runs.back (fun t k => XS.lstore X0.here hx rfl (hb hby at_43) rfl (l' := #[.val (.long q0), .second, .val (.long q1), .second, .val (.int p2), .val (.int (p2 &&& (3 : Int32))), .val (.long q0), .second, .val (.long q0), .second, .unset, .unset, .unset, .unset, .unset, .unset]) rfl k) ?_
          show Runs _ _ _ _ s₁ (mkF m 45 #[.val (.long q0), .second, .val (.long q1), .second, .val (.int p2), .val (.int (p2 &&& (3 : Int32))), .val (.long q0), .second, .val (.long q0), .second, .unset, .unset, .unset, .unset, .unset, .unset] [])
          exact J1 (q0, q0) trivial
        · refine Runs.back (fun t k => XS.icmpYes X0.here hx rfl (pc0 := 39) (pc' := 45) rfl (hb hby at_39) rfl (feq c39_6).2 (by decide) (by decide) k) ?_
          show Runs _ _ _ _ s₁ (mkF m 45 #[.val (.long q0), .second, .val (.long q1), .second, .val (.int p2), .val (.int (p2 &&& (3 : Int32))), .val (.long q0), .second, .val (.long q1), .second, .unset, .unset, .unset, .unset, .unset, .unset] [])
          exact J1 (q0, q1) trivial
set_option maxRecDepth 65536 in
set_option maxHeartbeats 40000000 in
theorem comes_1 {Post : Tables → Env → Array Value → State → Outcome → State → Prop} (hpost : ∀ tb e args s v u, (limb_1_1.after args s (.returned v) u = true ∧ limb_1_2.after args s (.returned v) u = true ∧ True) → FrameEnd s (.returned v) u (Jvm.fieldLocs frame_1_writes args s ++ Jvm.arrayLocs frame_1_arrays args s ++ Jvm.staticLocs frame_1_statics s) 0 0 → Post tb e args s (.returned v) u) :
    ArmFor flags0 classFile x code maxLocals ret World_1 tables_1 room_1 Calls_1 rest_1 Pre_1 Post := by
  intro l hfl _ _ p e ha hc hk s m args below hf hA hF happ hP
  obtain ⟨hcalls, hrest, hpre⟩ := hP
  obtain ⟨-, -, -, hnamed, -, -, -, hat⟩ := (Spec.applies_iff hf).mp happ
  obtain ⟨hg, hn⟩ := and_e (Cond.before_iff.mp (show (Jvm.Cond.and given_1 narrow_1).before args s = true from hpre))
  obtain ⟨g0, gr0⟩ := and_e hg
  obtain ⟨g1, gr1⟩ := and_e gr0
  obtain ⟨g2, gr2⟩ := and_e gr1
  obtain ⟨w0, w1, w2, rfl⟩ : ∃ w0 w1 w2 : Value, args = #[w0, w1, w2] := by
    have hs : args.size = 3 := by simpa [Cond.value, given_1] using g0
    obtain ⟨L⟩ := args
    match L, hs with
    | [w0, w1, w2], _ => exact ⟨w0, w1, w2, rfl⟩
  have hw := fun d (hd : d ∈ tables_1) => atoms_spec (ws := Jvm.Cond.code x code maxLocals ret :: tables_1) hat d (List.mem_cons_of_mem _ hd)
  obtain ⟨i0, ei0⟩ := isL_v g1
  obtain rfl : w0 = (.long i0) := Option.some.inj ei0
  obtain ⟨i1, ei1⟩ := isL_v g2
  obtain rfl : w1 = (.long i1) := Option.some.inj ei1
  obtain ⟨i2, ei2⟩ := is_v gr2
  obtain rfl : w2 = (.int i2) := Option.some.inj ei2
  obtain ⟨n, o, h1, h2, h3, _, L, rfl, ⟨rfl, N⟩, hq⟩ := rm0 l s _ hw tables_1 i0 i1 i2 s.heap s.heap.size (Nat.le_refl _) p e ha hc hk s m _ below hf ((Spec.applies_iff_loose hf).mp happ).1 ⟨rfl, State.Warmed39.refl s, rfl⟩ trivial
  refine ⟨n, _, h1, h2, h3, hpost _ _ _ _ _ _ ⟨Cond.after_iff.mpr rfl, Cond.after_iff.mpr (eq_i res_at (Term.int_eval (1)) rfl), trivial⟩ ⟨hq.1, hq.2.1, (hq.2.2.sift fun y hy => Or.inr (N y hy)).mono (by decide) (by decide)⟩⟩
theorem main_1_1 : Claimed_1_1 := comes_1 fun _ _ _ _ _ _ h hF => ⟨h.1, hF⟩
theorem main_1_2 : Claimed_1_2 := comes_1 fun _ _ _ _ _ _ h hF => ⟨h.2.1, hF⟩
end Jvm.Pilot.@@N@@
namespace Jvm.Pilot.@@N@@
open Jvm Jvm.ClassFile Sem Op Lib Jvm.Free Jvm.Stand Jvm.Pilot.@@N@@.Jvm.D
/-! MADE BY PROGRAM (witnessworld.py) out of the Statement's table words and the real class files: 9 classes; the members and pool entries that the words name. The judged class is class 1, her method 1. -/
namespace start1
open Jvm.ClassFile
def u (s : String) : CpInfo := .utf8 (stringToUtf16 s)
/-- a pool by its gaps: so many unusable entries, then the entry; so many at the end -/
def gap : Nat → List CpInfo → List CpInfo
  | 0, r => r
  | n + 1, r => .unusable :: gap n r
def poolList (es : List (Nat × CpInfo)) (last : Nat) : List CpInfo := es.foldr (fun e r => gap e.1 (e.2 :: r)) (gap last [])
def pool (es : List (Nat × CpInfo)) (last : Nat) : Array CpInfo := ⟨poolList es last⟩
def fileOf (pool : Array CpInfo) (this : Nat) (attrs : Array Attribute := #[]) (ms : Array MethodInfo := #[]) (fl : Nat := 33) (sup : Nat := 0) (ifs : Array Nat := #[]) (fds : Array FieldInfo := #[]) : ClassFile where
  minorVersion := 0
  majorVersion := 65
  constantPool := pool
  accessFlags := fl
  thisClass := this
  superClass := sup
  interfaces := ifs
  fields := fds
  methods := ms
  attributes := attrs
def plain (name : String) (sup : Option ClassId) : Class where
  name := name
  kind := .ordinary
  loader := none
  accessFlags := 33
  super := sup
  interfaces := #[]
  cf := none
  fields := #[]
  methods := #[]
  instanceTypes := #[]
  staticTypes := #[]
  resolved := #[]
  callSites := []
  init := .initialized
  statics := none
  mirror := none

def pool0 : Array CpInfo := pool [(5, u "<init>"), (0, u "()V"), (1, .class_ 10), (1, u "java/lang/Object")] 113

def k0m0 : Method := { name := "<init>", desc := "()V", sig := { parameters := [], returnType := none }, accessFlags := 1, code := none }
/-- java/lang/Object -/
def k0 : Class := { plain "java/lang/Object" none with
  accessFlags := 33
  interfaces := #[]
  cf := some (fileOf pool0 8 #[] #[{ accessFlags := 1, nameIndex := 5, descriptorIndex := 6, attributes := #[] }] 33 0 #[] #[])
  fields := #[]
  methods := #[k0m0]
  instanceTypes := #[]
  staticTypes := #[]
  resolved := Array.replicate 124 none
  statics := none }

def pool1 : Array CpInfo := pool [(2, .class_ 4), (1, u "java/lang/Object"), (0, u "<init>"), (0, u "()V"), (0, .methodref 8 9), (0, .class_ 10), (0, .nameAndType 11 12), (0, u "com/example/lacuna/lacuna/BroadcastExtentPinLaw"), (0, u "reference"), (0, u "(JJ)J"), (0, .methodref 14 15), (0, .class_ 16), (0, .nameAndType 17 12), (0, u "com/example/lacuna/lacuna/Broadcast"), (0, u "extent"), (0, .long 18446744073709551615), (3, u "law"), (0, u "(JJI)Z")] 3

def k1m0 : Method := { name := "<init>", desc := "()V", sig := { parameters := [], returnType := none }, accessFlags := 1, code := none }
def k1c1 : Code := { maxStack := 4, maxLocals := 16, code := code, exceptionTable := #[], attributes := #[] }
def k1m1 : Method := { name := "law", desc := "(JJI)Z", sig := { parameters := [.long, .long, .int], returnType := some .boolean }, accessFlags := 9, code := some k1c1 }
def k1c2 : Code := { maxStack := 4, maxLocals := 4, code := method_3_code, exceptionTable := #[], attributes := #[] }
def k1m2 : Method := { name := "reference", desc := "(JJ)J", sig := { parameters := [.long, .long], returnType := some .long }, accessFlags := 10, code := some k1c2 }
/-- com/example/lacuna/lacuna/BroadcastExtentPinLaw -/
def k1 : Class := { plain "com/example/lacuna/lacuna/BroadcastExtentPinLaw" (some 0) with
  accessFlags := 49
  interfaces := #[]
  cf := some (fileOf pool1 8 #[] #[{ accessFlags := 1, nameIndex := 5, descriptorIndex := 6, attributes := #[] }, { accessFlags := 9, nameIndex := 22, descriptorIndex := 23, attributes := #[] }, { accessFlags := 10, nameIndex := 11, descriptorIndex := 12, attributes := #[] }] 49 2 #[] #[])
  fields := #[]
  methods := #[k1m0, k1m1, k1m2]
  instanceTypes := #[]
  staticTypes := #[]
  resolved := Array.replicate 27 none
  statics := none }

def pool2 : Array CpInfo := pool [(2, .class_ 4), (1, u "java/lang/Object"), (3, .class_ 10), (1, u "com/example/lacuna/lacuna/Broadcast"), (0, u "result"), (0, u "Lcom/example/lacuna/lacuna/Shape;"), (2, u "shared"), (2, u "isShared"), (0, u "[Z"), (2, u "left"), (0, u "Lcom/example/lacuna/lacuna/Broadcast$Operand;"), (2, u "right"), (18, u "extent"), (0, u "(JJ)J"), (23, .class_ 71), (0, u "com/example/lacuna/lacuna/Broadcast$Operand"), (6, .long 18446744073709551615)] 74

def k2c0 : Code := { maxStack := 4, maxLocals := 4, code := prog_7_method_3_code, exceptionTable := #[], attributes := #[] }
def k2m0 : Method := { name := "extent", desc := "(JJ)J", sig := { parameters := [.long, .long], returnType := some .long }, accessFlags := 8, code := some k2c0 }
/-- com/example/lacuna/lacuna/Broadcast -/
def k2 : Class := { plain "com/example/lacuna/lacuna/Broadcast" (some 0) with
  accessFlags := 48
  interfaces := #[]
  cf := some (fileOf pool2 8 #[.nestMembers #[70]] #[{ accessFlags := 8, nameIndex := 45, descriptorIndex := 46, attributes := #[] }] 48 2 #[] #[{ accessFlags := 18, nameIndex := 11, descriptorIndex := 12, attributes := #[] }, { accessFlags := 18, nameIndex := 22, descriptorIndex := 23, attributes := #[] }, { accessFlags := 18, nameIndex := 26, descriptorIndex := 23, attributes := #[] }, { accessFlags := 18, nameIndex := 15, descriptorIndex := 12, attributes := #[] }, { accessFlags := 18, nameIndex := 18, descriptorIndex := 19, attributes := #[] }])
  fields := #[{ name := "result", type := (.object "com/example/lacuna/lacuna/Shape"), accessFlags := 18, slot := 0, constantValue := 0 }, { name := "left", type := (.object "com/example/lacuna/lacuna/Broadcast$Operand"), accessFlags := 18, slot := 1, constantValue := 0 }, { name := "right", type := (.object "com/example/lacuna/lacuna/Broadcast$Operand"), accessFlags := 18, slot := 2, constantValue := 0 }, { name := "shared", type := (.object "com/example/lacuna/lacuna/Shape"), accessFlags := 18, slot := 3, constantValue := 0 }, { name := "isShared", type := (.array .boolean), accessFlags := 18, slot := 4, constantValue := 0 }]
  methods := #[k2m0]
  instanceTypes := #[(.object "com/example/lacuna/lacuna/Shape"), (.object "com/example/lacuna/lacuna/Broadcast$Operand"), (.object "com/example/lacuna/lacuna/Broadcast$Operand"), (.object "com/example/lacuna/lacuna/Shape"), (.array .boolean)]
  staticTypes := #[]
  resolved := Array.replicate 153 none
  statics := none }

def pool3 : Array CpInfo := pool [(1, u "java/lang/Cloneable"), (0, .class_ 1), (0, u "java/lang/Object"), (0, .class_ 3)] 3

/-- java/lang/Cloneable -/
def k3 : Class := { plain "java/lang/Cloneable" (some 0) with
  accessFlags := 1537
  interfaces := #[]
  cf := some (fileOf pool3 2 #[] #[] 1537 4 #[] #[])
  fields := #[]
  methods := #[]
  instanceTypes := #[]
  staticTypes := #[]
  resolved := Array.replicate 8 none
  statics := none }

def pool4 : Array CpInfo := pool [(1, u "java/io/Serializable"), (0, .class_ 1), (0, u "java/lang/Object"), (0, .class_ 3)] 3

/-- java/io/Serializable -/
def k4 : Class := { plain "java/io/Serializable" (some 0) with
  accessFlags := 1537
  interfaces := #[]
  cf := some (fileOf pool4 2 #[] #[] 1537 4 #[] #[])
  fields := #[]
  methods := #[]
  instanceTypes := #[]
  staticTypes := #[]
  resolved := Array.replicate 8 none
  statics := none }

/-- the primitive byte -/
def k5 : Class := { plain "byte" none with kind := .primitive 'B', accessFlags := 0x411 }
/-- [B -/
def k6 : Class := { plain "[B" (some 0) with kind := .array 5 .byte, interfaces := #[3, 4], accessFlags := 1041 }

/-- the primitive int -/
def k7 : Class := { plain "int" none with kind := .primitive 'I', accessFlags := 0x411 }
/-- [I -/
def k8 : Class := { plain "[I" (some 0) with kind := .array 7 .int, interfaces := #[3, 4], accessFlags := 1041 }

def heap : Heap := #[]
def classes : Array Class := #[k0, k1, k2, k3, k4, k5, k6, k7, k8]
def interned : List (Array UInt16 × Addr) := []
def slotsUsed : Nat := 0
def theMethod : MethodId := ⟨1, 1⟩
def args0 : Array Value := #[.long 5, .long 6, .int 7]
def aboutOver (below : List Frame) : State where
  vm := { classes := classes, interned := interned.toArray }
  heap := heap
  slotsUsed := slotsUsed
  threads := #[{ frames := .invoking theMethod args0 :: below }]
def below0 : List Frame := [.native { method := ⟨0, 0⟩, args := #[] }]
def about1 : State := aboutOver below0
def p0 : Program := .bare "" "" ""
def e0 : Env := launch0.env 0 0 0
theorem w_frames : about1.frames = Frame.invoking theMethod args0 :: below0 := rfl
set_option maxRecDepth 65536 in
theorem w_args : argsFit about1.vm theMethod args0 = true := by decide +kernel
set_option maxRecDepth 65536 in
theorem w_heap : heapFits about1 = true := by decide +kernel
set_option maxRecDepth 65536 in
theorem w_runnable : about1.curStatus? = some .runnable := by decide +kernel
set_option maxRecDepth 65536 in
theorem w_alone : about1.alone = true := by decide +kernel
set_option maxRecDepth 65536 in
theorem w_named : about1.methodNamed? x = some theMethod := by decide +kernel
set_option maxRecDepth 65536 in
theorem w_hears : about1.hears theMethod below0 = true := by decide +kernel
set_option maxRecDepth 65536 in
theorem w_ripe : about1.ripe theMethod args0 below0 = true := by decide +kernel
theorem w_running : about1.status = .running := rfl
set_option maxRecDepth 65536 in
theorem w_room : about1.hasRoom e0.platform room_1 = true :=
  launch0.hasRoom_least _ room_1 (by decide +kernel) (by decide +kernel) (by decide +kernel) (by decide +kernel) (by decide +kernel) (by decide +kernel)
theorem allAtoms_all (ts : List Jvm.Cond) (a : Array Jvm.Value) (st : Jvm.State) : (allAtoms ts).before a st = ts.all (fun c => c.before a st) := by
  induction ts with
  | nil => rfl
  | cons c t ih =>
    show (Jvm.Cond.and c (allAtoms t)).before a st = _
    rw [Jvm.Cond.before_and, ih, List.all_cons]
def words1 : List Jvm.Cond := Jvm.Cond.code x code maxLocals ret :: tables_1
/-- a 'code' word, met by the world's own term for the bytes: nothing is compared byte by byte -/
theorem code_word {y : MethodName} {bytes : ByteArray} {mx : Nat} {rt : Option FieldType} {a : Array Value} {s : State} {m : MethodId} {meth : Method} {c : Code} (h1 : s.methodNamed? y = some m) (h2 : s.vm.method? m = some meth) (h3 : meth.code = some c) (h4 : c.code = bytes)
    (h5 : (c.maxLocals == mx && c.exceptionTable.isEmpty && decide (c.maxStack ≤ mostOperands) && decide (meth.sig.returnType = rt) && !meth.locks && decide (parseMethodDescriptor y.desc = some meth.sig)) = true) : (Jvm.Cond.code y bytes mx rt).before a s = true := by
  simp only [Bool.and_eq_true, beq_iff_eq, Bool.not_eq_true', decide_eq_true_eq] at h5
  obtain ⟨⟨⟨⟨⟨g1, g2⟩, g3⟩, g4⟩, g5⟩, g6⟩ := h5
  simp [Cond.before, Cond.holds, Cond.value, h1, h2, h3, h4, g1, g2, g3, g4, g5, g6]
def isCode : Jvm.Cond → Bool
  | .code _ _ _ _ => true
  | _ => false
theorem all_split {L : List Jvm.Cond} {P : Jvm.Cond → Bool} (h1 : L.all (fun c => isCode c || P c) = true) (h2 : ∀ c ∈ L.filter isCode, P c = true) : L.all P = true := by
  refine List.all_eq_true.mpr fun c hc => ?_
  have h := List.all_eq_true.mp h1 c hc
  rcases Bool.eq_false_or_eq_true (isCode c) with hi | hi
  · exact h2 c (List.mem_filter.mpr ⟨hc, hi⟩)
  · simpa [hi] using h
set_option maxRecDepth 65536 in
theorem w_c0 : (Jvm.Cond.code x code maxLocals ret).before args0 about1 = true := code_word (m := ⟨1, 1⟩) (meth := k1m1) (c := k1c1) (by decide +kernel) rfl rfl rfl (by decide +kernel)
set_option maxRecDepth 65536 in
theorem w_c1 : (Jvm.Cond.code ({ cls := "com/example/lacuna/lacuna/BroadcastExtentPinLaw", name := "reference", desc := "(JJ)J" } : Jvm.MethodName) method_3_code (4 : Nat) (Option.some Jvm.ClassFile.FieldType.long)).before args0 about1 = true := code_word (m := ⟨1, 2⟩) (meth := k1m2) (c := k1c2) (by decide +kernel) rfl rfl rfl (by decide +kernel)
set_option maxRecDepth 65536 in
theorem w_c2 : (Jvm.Cond.code ({ cls := "com/example/lacuna/lacuna/Broadcast", name := "extent", desc := "(JJ)J" } : Jvm.MethodName) prog_7_method_3_code (4 : Nat) (Option.some Jvm.ClassFile.FieldType.long)).before args0 about1 = true := code_word (m := ⟨2, 0⟩) (meth := k2m0) (c := k2c0) (by decide +kernel) rfl rfl rfl (by decide +kernel)
def codes1 : List Jvm.Cond := [Jvm.Cond.code x code maxLocals ret, Jvm.Cond.code ({ cls := "com/example/lacuna/lacuna/BroadcastExtentPinLaw", name := "reference", desc := "(JJ)J" } : Jvm.MethodName) method_3_code (4 : Nat) (Option.some Jvm.ClassFile.FieldType.long), Jvm.Cond.code ({ cls := "com/example/lacuna/lacuna/Broadcast", name := "extent", desc := "(JJ)J" } : Jvm.MethodName) prog_7_method_3_code (4 : Nat) (Option.some Jvm.ClassFile.FieldType.long)]
set_option maxRecDepth 65536 in
theorem codes_eq : words1.filter isCode = codes1 := rfl
theorem w_codes : ∀ c ∈ words1.filter isCode, c.before args0 about1 = true := by
  rw [codes_eq]
  intro c hc
  simp only [codes1, List.mem_cons, List.not_mem_nil, or_false] at hc
  rcases hc with rfl | rfl | rfl
  · exact w_c0
  · exact w_c1
  · exact w_c2
set_option maxRecDepth 65536 in
theorem w_t1 : words1.all (fun c => isCode c || c.before args0 about1) = true := by decide +kernel
theorem w_tables : (allAtoms (Jvm.Cond.code x code maxLocals ret :: tables_1)).before args0 about1 = true := by
  rw [allAtoms_all]
  show words1.all (fun c => c.before args0 about1) = true
  refine all_split ?_ w_codes
  rw [w_t1]
set_option maxRecDepth 65536 in
theorem w_case : (Jvm.Cond.and given_1 narrow_1).before args0 about1 = true := by decide +kernel
theorem w_applies : (headSpec (Jvm.Cond.code x code maxLocals ret :: tables_1) room_1).applies x e0.platform about1 = true :=
  (Spec.applies_iff w_frames).mpr ⟨w_running, w_runnable, w_alone, w_named, w_hears, w_ripe, w_room, w_tables⟩
theorem atStart : AtStart classFile x code maxLocals ret World_1 tables_1 room_1 Calls_1 rest_1 Pre_1 launch0 p0 e0 about1 theMethod args0 below0 :=
  ⟨lists_1, trivial, launch0.admits_env _ _ _, launch0.least_env, fairChoices_fair.cas, fairChoices_fair.clock, w_frames, w_args, w_heap, w_applies, trivial, trivial, w_case⟩
end start1
theorem witness_1 : WitnessClaimed_1 := ⟨start1.p0, start1.e0, start1.about1, start1.theMethod, start1.args0, start1.below0, start1.atStart⟩
end Jvm.Pilot.@@N@@
