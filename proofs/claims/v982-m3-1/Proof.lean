import JvmDerived
import JvmDerived.Pilot.@@N@@Statement
import JvmDerived.Pilot.@@N@@Code
set_option linter.unusedVariables false
set_option linter.unusedSimpArgs false
namespace Jvm.RoadKit
open Sem ClassFile Op Lib Jvm.Stand Jvm.Free Jvm.LawKit
section New
variable {p : Program} {l : Launch} {e : Env} {R : Room} {s : State} {m : MethodId} {args : Array Value} {below : List Frame} {meth : Method} {c : Code} {T : State} {locs : List Loc} {cells slots : Nat}
theorem retI (X : Stand p l e R s m args below meth c T locs cells slots) (hx : p.tables.exec = Jvm.exec) {pc : Nat} {Ls : Array Slot} {z : Int32} {rest : List Value} (hret : meth.sig.returnType = some .int) (hd : decode c.code pc = .ok (.ireturn, 1)) {fs : List Frame}
    (hl : ∀ (f : JFrame) (acts : List Action), f.method = m → f.locked = none → f.entered = [] → (doReturn e (T.setTop f) acts (some (.int z))).1 = T.setFrames fs) : Steps p.tables e below (T.setTop (mkF m pc Ls (.int z :: rest))) (T.setFrames fs) := by
  have hm' : T.vm.method? m = some meth := X.method'
  have hn : narrow .int (.int z) = .int z := rfl
  show Steps p.tables e below (T.setTop { method := m, pc := pc, locals := Ls, stack := _ :: rest, locked := none }) _
  jvm_step X.here [X.here.top, hx, hd, hm', hret, hn]
  first | (intro acts; rw [hl _ acts rfl rfl rfl]) | rw [hl _ _ rfl rfl rfl]
  exact Steps.refl _
end New
end Jvm.RoadKit
namespace Jvm.Pilot.@@N@@
open Jvm Jvm.ClassFile Sem Op Lib Jvm.Free Jvm.Stand Jvm.LawKit Jvm.RoadKit Bundle Jvm.Pilot.@@N@@.Jvm.D
/-! the own kit: a run told backwards (Runs), arrays by a function of the place (OArr), the comparisons of longs -/
def Runs (tb : Tables) (e : Env) (below : List Frame) (R : State → Outcome → Prop) (T : State) (g : JFrame) : Prop := ∃ t o, Steps tb e below (T.setTop g) t ∧ R t o
section Own
variable {tb : Tables} {e : Env} {below : List Frame} {R : State → Outcome → Prop} {T T' : State} {g g' : JFrame}
theorem Runs.back (k : ∀ t, Steps tb e below (T'.setTop g') t → Steps tb e below (T.setTop g) t) (h : Runs tb e below R T' g') : Runs tb e below R T g := by
  obtain ⟨t, o, h1, h2⟩ := h; exact ⟨t, o, k t h1, h2⟩
theorem Runs.trans (k : Steps tb e below (T.setTop g) (T'.setTop g')) (h : Runs tb e below R T' g') : Runs tb e below R T g := by
  obtain ⟨t, o, h1, h2⟩ := h; exact ⟨t, o, Steps.trans k h1, h2⟩
theorem Runs.enter (q : g = g') (h : Runs tb e below R T g') : ∃ t o, Steps tb e below (T.setTop g) t ∧ R t o := by subst q; exact h
theorem Runs.join {α : Type} {P : α → Prop} {F : α → JFrame} (h : ∀ v, P v → Runs tb e below R T (F v)) (k : (∀ v, P v → Runs tb e below R T (F v)) → Runs tb e below R T g) : Runs tb e below R T g := k h
theorem Runs.joinT {α : Type} {P : α → State → Prop} {F : α → JFrame} (h : ∀ v T', P v T' → Runs tb e below R T' (F v)) (k : (∀ v T', P v T' → Runs tb e below R T' (F v)) → Runs tb e below R T g) : Runs tb e below R T g := k h
theorem lcT {x y : Int64} (h : x < y) : lcmpW x y < 0 := by
  have h1 : ¬ y < x := Int64.not_lt.mpr (Int64.le_of_lt h)
  have h2 : ¬ x = y := fun q => by subst q; exact Int64.lt_irrefl h
  simp [lcmpW, h1, h2]
theorem lcF {x y : Int64} (h : ¬ x < y) : ¬ lcmpW x y < 0 := by
  unfold lcmpW
  by_cases h1 : x > y
  · simp only [if_pos h1]; decide
  · have h2 : x = y := Int64.le_antisymm (Int64.not_lt.mp h1) (Int64.not_lt.mp h)
    simp only [if_neg h1, if_pos h2]; decide
theorem lcT' {x y : Int64} (h : y < x) : 0 < lcmpW x y := by
  unfold lcmpW; rw [if_pos h]; decide
theorem lcF' {x y : Int64} (h : ¬ y < x) : ¬ 0 < lcmpW x y := by
  unfold lcmpW
  have h1 : ¬ x > y := h
  simp only [if_neg h1]
  by_cases h2 : x = y
  · simp only [if_pos h2]; decide
  · simp only [if_neg h2]; decide
theorem lcE {x y : Int64} (h : x = y) : lcmpW x y = 0 := by
  have h1 : ¬ x > y := fun q => by subst h; exact Int64.lt_irrefl q
  unfold lcmpW; rw [if_neg h1, if_pos h]
theorem lcN {x y : Int64} (h : ¬ x = y) : ¬ lcmpW x y = 0 := by
  unfold lcmpW
  by_cases h1 : x > y
  · simp only [if_pos h1]; decide
  · simp only [if_neg h1, if_neg h]; decide
def OArr (Z : State) (h : Heap) (a : Addr) (ty : FieldType) (n : Nat) (f : Nat → Value) : Prop := ∃ c : Cell, Arr Z h a c ty ∧ c.slots.size = n ∧ ∀ i, i < n → c.slots[i]? = some (f i)
variable {Z : State} {h h' : Heap} {a b : Addr} {ty : FieldType} {n sl : Nat} {f : Nat → Value} {v : Value} {ws : List Addr}
theorem OArr.lt (F : OArr Z h a ty n f) : a < h.size := by obtain ⟨c, A, -⟩ := F; exact A.lt
theorem OArr.ext (F : OArr Z h a ty n f) (E : Ext h h') : OArr Z h' a ty n f := by obtain ⟨c, A, r⟩ := F; exact ⟨c, A.ext E, r⟩
theorem OArr.other (F : OArr Z h b ty n f) (W : Wr h h' a sl v) (q : b ≠ a) : OArr Z h' b ty n f := by obtain ⟨c, A, r⟩ := F; exact ⟨c, A.other W q, r⟩
theorem OArr.keep (F : OArr Z h a ty n f) (K : Keep h h' ws) (q : a ∉ ws) : OArr Z h' a ty n f := by obtain ⟨c, A, r⟩ := F; exact ⟨c, ⟨K.2.1 a c A.1 q, A.2⟩, r⟩
theorem OArr.congr (F : OArr Z h a ty n f) {f' : Nat → Value} (q : ∀ i, i < n → f i = f' i) : OArr Z h a ty n f' := by obtain ⟨c, A, r1, r2⟩ := F; exact ⟨c, A, r1, fun i hi => by rw [r2 i hi, q i hi]⟩
theorem OArr.set (F : OArr Z h a ty n f) (W : Wr h h' a sl v) : OArr Z h' a ty n (fun i => if i = sl then v else f i) := by
  obtain ⟨c, A, r1, r2⟩ := F
  obtain ⟨cell, e1, -, e3, -⟩ := id W
  cases e1.symm.trans A.1
  refine ⟨_, A.same W, by rw [sz_set]; exact r1, fun i hi => ?_⟩
  by_cases q : i = sl
  · subst q; simp [Cell.setSlot, e3]
  · simp only [if_neg q]; rw [← r2 i hi]; exact Array.getElem?_setIfInBounds_ne (Ne.symm q)
theorem OArr.new {cA : ClassId} {z : Int32} (A : Arr Z h a (newA cA ty z) ty) (q : z.toNatClampNeg = n) (hd : defaultValue ty = v) : OArr Z h a ty n (fun _ => v) :=
  ⟨_, A, by rw [sz_new]; exact q, fun i hi => by subst hd; simp [newA, q, hi]⟩
theorem inbO {j : Int32} {k : Nat} (ng : ¬ j < 0) (e : j.toNatClampNeg = k) (h : k < n) : ¬ (j < 0 ∨ n ≤ j.toNatClampNeg) := fun q => q.elim ng fun r => by rw [e] at r; exact absurd h (Nat.not_lt.mpr r)
theorem readO {c : Cell} {j : Int32} {k : Nat} (H : ∀ i, i < n → c.slots[i]? = some (f i)) (e : j.toNatClampNeg = k) (h : k < n) (q : f k = v) : c.slots[j.toNatClampNeg]? = some v := by rw [e, H k h, q]
theorem lti {x y : Int32} : x < y ↔ x.toInt < y.toInt := Int32.lt_iff_toInt_lt
theorem ltl {x y : Int64} : x < y ↔ x.toInt < y.toInt := Int64.lt_iff_toInt_lt
theorem eqi {x y : Int32} : x = y ↔ x.toInt = y.toInt := Int32.toInt_inj.symm
theorem eql {x y : Int64} : x = y ↔ x.toInt = y.toInt := Int64.toInt_inj.symm
end Own

def wrapF (x y s : Int64) : Int32 := if ((x ^^^ s) &&& (y ^^^ s)) < (0 : Int64) then (if y < (0 : Int64) then (-1 : Int32) else (1 : Int32)) else (0 : Int32)
theorem d1_0 : decode prog_78_method_6_code 0 = .ok (.lload_n 0, 1) := by decide +kernel
theorem d1_1 : decode prog_78_method_6_code 1 = .ok (.lload 4, 2) := by decide +kernel
theorem d1_3 : decode prog_78_method_6_code 3 = .ok (.lxor, 1) := by decide +kernel
theorem d1_4 : decode prog_78_method_6_code 4 = .ok (.lload_n 2, 1) := by decide +kernel
theorem d1_5 : decode prog_78_method_6_code 5 = .ok (.lload 4, 2) := by decide +kernel
theorem d1_7 : decode prog_78_method_6_code 7 = .ok (.lxor, 1) := by decide +kernel
theorem d1_8 : decode prog_78_method_6_code 8 = .ok (.land, 1) := by decide +kernel
theorem d1_9 : decode prog_78_method_6_code 9 = .ok (.lconst 0, 1) := by decide +kernel
theorem d1_10 : decode prog_78_method_6_code 10 = .ok (.lcmp, 1) := by decide +kernel
theorem d1_11 : decode prog_78_method_6_code 11 = .ok (.ifCond .lt 5, 3) := by decide +kernel
theorem d1_14 : decode prog_78_method_6_code 14 = .ok (.iconst 0, 1) := by decide +kernel
theorem d1_15 : decode prog_78_method_6_code 15 = .ok (.ireturn, 1) := by decide +kernel
theorem d1_16 : decode prog_78_method_6_code 16 = .ok (.lload_n 2, 1) := by decide +kernel
theorem d1_17 : decode prog_78_method_6_code 17 = .ok (.lconst 0, 1) := by decide +kernel
theorem d1_18 : decode prog_78_method_6_code 18 = .ok (.lcmp, 1) := by decide +kernel
theorem d1_19 : decode prog_78_method_6_code 19 = .ok (.ifCond .ge 7, 3) := by decide +kernel
theorem d1_22 : decode prog_78_method_6_code 22 = .ok (.iconst (-1), 1) := by decide +kernel
theorem d1_23 : decode prog_78_method_6_code 23 = .ok (.goto 4, 3) := by decide +kernel
theorem d1_26 : decode prog_78_method_6_code 26 = .ok (.iconst 1, 1) := by decide +kernel
theorem d1_27 : decode prog_78_method_6_code 27 = .ok (.ireturn, 1) := by decide +kernel
theorem pn_1 : plainName "com/example/lacuna/lacuna/LongSum" = true := by first | (simp [plainName, overriddenIn]; done) | decide +kernel
theorem ef_1 (m : MethodId) (q0 : Int64) (q1 : Int64) (q2 : Int64) : entryFrame m #[(.long q0), (.long q1), (.long q2)] 6 = mkF m 0 #[.val (.long q0), .second, .val (.long q1), .second, .val (.long q2), .second] [] := by first | (simp [entryFrame, mkF, argsToLocals, Value.category]; done) | rfl
def Q1 (Z : State) (q0 : Int64) (q1 : Int64) (q2 : Int64)  (h0 : Heap) (n0 : Nat) (v : Option Value) (h : Heap) (L : List Loc) : Prop := v = some (.int (wrapF q0 q1 q2)) ∧ Fr n0 L ∧ h = h0
set_option maxRecDepth 65536 in
set_option maxHeartbeats 40000000 in
theorem rm1 (l : Launch) (Z : State) (a0 : Array Value) (hw : ∀ d ∈ tables_1, d.before a0 Z = true) (ws : List Jvm.Cond) (q0 : Int64) (q1 : Int64) (q2 : Int64)  (h0 : Heap) (n0 : Nat) (Z0 : n0 ≤ h0.size) :
    MetFree l (⟨"com/example/lacuna/lacuna/LongSum", "wrapOf", "(JJJ)I"⟩ : MethodName) (head1 (Jvm.Cond.code (⟨"com/example/lacuna/lacuna/LongSum", "wrapOf", "(JJJ)I"⟩ : MethodName) prog_78_method_6_code 6 (some .int) :: ws) ({ frames := 0, cells := 0, slots := 0, locals := 0 } : Room)) (fun a U => a = #[(.long q0), (.long q1), (.long q2)] ∧ Z.Warmed39 U.vm ∧ U.heap = h0) (fun _ _ _ _ _ => True) (fun _ U o U' => ∃ v L, o = .returned v ∧ Q1 Z q0 q1 q2 h0 n0 v U'.heap L ∧ FrameEnd U o U' L ({ frames := 0, cells := 0, slots := 0, locals := 0 } : Room).cells ({ frames := 0, cells := 0, slots := 0, locals := 0 } : Room).slots) := by
  refine MetFree.of_bodySF (plainFor_of_name pn_1) hisR ?_
  intro p e s m args below meth c s₁ Bd hml0 hP hK
  obtain ⟨rfl, hZ, hh⟩ := hP
  have hx := Bd.exec
  have hby := Bd.bytes
  have hml : c.maxLocals = 6 := hml0
  have hown : s.vm.findClass "com/example/lacuna/lacuna/LongSum" = some m.cls := findClass_of_methodNamed Bd.named
  have hnm := (name_of_methodNamed Bd.named Bd.method).1
  have X0 : Stand p l e ({ frames := 0, cells := 0, slots := 0, locals := 0 } : Room) s m #[(.long q0), (.long q1), (.long q2)] below meth c s₁ [] 0 0 := Stand.of_body Bd
  have e0 : s₁.heap = h0 := by rw [← hh, Bd.state]; rfl
  have N0 := Fr.nil n0
  refine Runs.enter (ef_1 m q0 q1 q2) ?_
  show Runs _ _ _ _ s₁ (mkF m 0 #[.val (.long q0), .second, .val (.long q1), .second, .val (.long q2), .second] [])
  refine Runs.back (fun t k => XS.lloadN X0.here hx rfl (hb hby d1_0) rfl k) ?_
  show Runs _ _ _ _ s₁ (mkF m 1 #[.val (.long q0), .second, .val (.long q1), .second, .val (.long q2), .second] [(.long q0)])
  refine Runs.back (fun t k => XS.lload X0.here hx rfl (hb hby d1_1) rfl k) ?_
  show Runs _ _ _ _ s₁ (mkF m 3 #[.val (.long q0), .second, .val (.long q1), .second, .val (.long q2), .second] [(.long q2), (.long q0)])
  refine Runs.back (fun t k => XS.lxor X0.here hx rfl (hb hby d1_3) rfl k) ?_
  show Runs _ _ _ _ s₁ (mkF m 4 #[.val (.long q0), .second, .val (.long q1), .second, .val (.long q2), .second] [(.long (q0 ^^^ q2))])
  refine Runs.back (fun t k => XS.lloadN X0.here hx rfl (hb hby d1_4) rfl k) ?_
  show Runs _ _ _ _ s₁ (mkF m 5 #[.val (.long q0), .second, .val (.long q1), .second, .val (.long q2), .second] [(.long q1), (.long (q0 ^^^ q2))])
  refine Runs.back (fun t k => XS.lload X0.here hx rfl (hb hby d1_5) rfl k) ?_
  show Runs _ _ _ _ s₁ (mkF m 7 #[.val (.long q0), .second, .val (.long q1), .second, .val (.long q2), .second] [(.long q2), (.long q1), (.long (q0 ^^^ q2))])
  refine Runs.back (fun t k => XS.lxor X0.here hx rfl (hb hby d1_7) rfl k) ?_
  show Runs _ _ _ _ s₁ (mkF m 8 #[.val (.long q0), .second, .val (.long q1), .second, .val (.long q2), .second] [(.long (q1 ^^^ q2)), (.long (q0 ^^^ q2))])
  refine Runs.back (fun t k => XS.land X0.here hx rfl (hb hby d1_8) rfl k) ?_
  show Runs _ _ _ _ s₁ (mkF m 9 #[.val (.long q0), .second, .val (.long q1), .second, .val (.long q2), .second] [(.long ((q0 ^^^ q2) &&& (q1 ^^^ q2)))])
  refine Runs.back (fun t k => XS.lconst X0.here hx rfl (hb hby d1_9) k) ?_
  show Runs _ _ _ _ s₁ (mkF m 10 #[.val (.long q0), .second, .val (.long q1), .second, .val (.long q2), .second] [(.long (0 : Int64)), (.long ((q0 ^^^ q2) &&& (q1 ^^^ q2)))])
  refine Runs.back (fun t k => XS.lcmp X0.here hx rfl (hb hby d1_10) rfl k) ?_
  show Runs _ _ _ _ s₁ (mkF m 11 #[.val (.long q0), .second, .val (.long q1), .second, .val (.long q2), .second] [(.int (lcmpW ((q0 ^^^ q2) &&& (q1 ^^^ q2)) (0 : Int64)))])
  by_cases c11_1 : ((q0 ^^^ q2) &&& (q1 ^^^ q2)) < (0 : Int64)
  · refine Runs.back (fun t k => XS.ifYes X0.here hx rfl (pc0 := 11) (pc' := 16) rfl (hb hby d1_11) rfl ((if0 _ _).trans (tlt (lcT c11_1)).1) (by decide) (by decide) k) ?_
    show Runs _ _ _ _ s₁ (mkF m 16 #[.val (.long q0), .second, .val (.long q1), .second, .val (.long q2), .second] [])
    refine Runs.back (fun t k => XS.lloadN X0.here hx rfl (hb hby d1_16) rfl k) ?_
    show Runs _ _ _ _ s₁ (mkF m 17 #[.val (.long q0), .second, .val (.long q1), .second, .val (.long q2), .second] [(.long q1)])
    refine Runs.back (fun t k => XS.lconst X0.here hx rfl (hb hby d1_17) k) ?_
    show Runs _ _ _ _ s₁ (mkF m 18 #[.val (.long q0), .second, .val (.long q1), .second, .val (.long q2), .second] [(.long (0 : Int64)), (.long q1)])
    refine Runs.back (fun t k => XS.lcmp X0.here hx rfl (hb hby d1_18) rfl k) ?_
    show Runs _ _ _ _ s₁ (mkF m 19 #[.val (.long q0), .second, .val (.long q1), .second, .val (.long q2), .second] [(.int (lcmpW q1 (0 : Int64)))])
    by_cases c19_2 : q1 < (0 : Int64)
    · refine Runs.back (fun t k => XS.ifNo X0.here hx rfl (hb hby d1_19) rfl ((if0 _ _).trans (tlt (lcT c19_2)).2.1) k) ?_
      show Runs _ _ _ _ s₁ (mkF m 22 #[.val (.long q0), .second, .val (.long q1), .second, .val (.long q2), .second] [])
      refine Runs.back (fun t k => XS.iconst X0.here hx rfl (hb hby d1_22) k) ?_
      show Runs _ _ _ _ s₁ (mkF m 23 #[.val (.long q0), .second, .val (.long q1), .second, .val (.long q2), .second] [(.int (-1 : Int32))])
      refine Runs.back (fun t k => XS.goto X0.here hx rfl (pc0 := 23) (pc' := 27) rfl (hb hby d1_23) (by decide) (by decide) k) ?_
      show Runs _ _ _ _ s₁ (mkF m 27 #[.val (.long q0), .second, .val (.long q1), .second, .val (.long q2), .second] [(.int (-1 : Int32))])
      obtain ⟨fs, hr, hrun, hended, hW, hsame⟩ := X0.leave (v := some (.int (-1 : Int32))) (fun h => by rw [Bd.returns] at h; cases h)
      exact ⟨_, _, (retI X0 hx Bd.returns (hb hby d1_27) hr), hrun, hended, _, _, rfl, ⟨(by first | rfl | (simp only [wrapF, if_pos c11_1, if_pos c19_2]; done) | (simp +decide only [wrapF, if_pos c11_1, if_pos c19_2]; done) | (simp [wrapF, c11_1, c19_2]; done)), N0, e0⟩, ⟨_, rfl⟩, hW, hsame.mono (by decide) (by decide)⟩
    · refine Runs.back (fun t k => XS.ifYes X0.here hx rfl (pc0 := 19) (pc' := 26) rfl (hb hby d1_19) rfl ((if0 _ _).trans (flt (lcF c19_2)).2.1) (by decide) (by decide) k) ?_
      show Runs _ _ _ _ s₁ (mkF m 26 #[.val (.long q0), .second, .val (.long q1), .second, .val (.long q2), .second] [])
      refine Runs.back (fun t k => XS.iconst X0.here hx rfl (hb hby d1_26) k) ?_
      show Runs _ _ _ _ s₁ (mkF m 27 #[.val (.long q0), .second, .val (.long q1), .second, .val (.long q2), .second] [(.int (1 : Int32))])
      obtain ⟨fs, hr, hrun, hended, hW, hsame⟩ := X0.leave (v := some (.int (1 : Int32))) (fun h => by rw [Bd.returns] at h; cases h)
      exact ⟨_, _, (retI X0 hx Bd.returns (hb hby d1_27) hr), hrun, hended, _, _, rfl, ⟨(by first | rfl | (simp only [wrapF, if_pos c11_1, if_neg c19_2]; done) | (simp +decide only [wrapF, if_pos c11_1, if_neg c19_2]; done) | (simp [wrapF, c11_1, c19_2]; done)), N0, e0⟩, ⟨_, rfl⟩, hW, hsame.mono (by decide) (by decide)⟩
  · refine Runs.back (fun t k => XS.ifNo X0.here hx rfl (hb hby d1_11) rfl ((if0 _ _).trans (flt (lcF c11_1)).1) k) ?_
    show Runs _ _ _ _ s₁ (mkF m 14 #[.val (.long q0), .second, .val (.long q1), .second, .val (.long q2), .second] [])
    refine Runs.back (fun t k => XS.iconst X0.here hx rfl (hb hby d1_14) k) ?_
    show Runs _ _ _ _ s₁ (mkF m 15 #[.val (.long q0), .second, .val (.long q1), .second, .val (.long q2), .second] [(.int (0 : Int32))])
    obtain ⟨fs, hr, hrun, hended, hW, hsame⟩ := X0.leave (v := some (.int (0 : Int32))) (fun h => by rw [Bd.returns] at h; cases h)
    exact ⟨_, _, (retI X0 hx Bd.returns (hb hby d1_15) hr), hrun, hended, _, _, rfl, ⟨(by first | rfl | (simp only [wrapF, if_neg c11_1]; done) | (simp +decide only [wrapF, if_neg c11_1]; done) | (simp [wrapF, c11_1]; done)), N0, e0⟩, ⟨_, rfl⟩, hW, hsame.mono (by decide) (by decide)⟩

theorem own_xorB (x : Int64) : (x ^^^ (-9223372036854775808 : Int64)).toInt = if x.toInt < 0 then x.toInt + 9223372036854775808 else x.toInt - 9223372036854775808 := by
  have e : (x ^^^ (-9223372036854775808 : Int64)).toBitVec.toNat = x.toBitVec.toNat ^^^ 9223372036854775808 := by
    rw [Int64.toBitVec_xor, BitVec.toNat_xor]; rfl
  have hlt := x.toBitVec.isLt
  have h1 : (x.toBitVec.toNat ^^^ 9223372036854775808) % 2 ^ 63 = x.toBitVec.toNat % 2 ^ 63 := by
    rw [Nat.xor_mod_two_pow]; simp
  have h2 : (x.toBitVec.toNat ^^^ 9223372036854775808) / 2 ^ 63 = (x.toBitVec.toNat / 2 ^ 63) ^^^ 1 := by
    rw [Nat.xor_div_two_pow]
  have hd : x.toBitVec.toNat / 2 ^ 63 = 0 ∨ x.toBitVec.toNat / 2 ^ 63 = 1 := by omega
  have hX : x.toInt = if 2 * x.toBitVec.toNat < 2 ^ 64 then (x.toBitVec.toNat : Int) else (x.toBitVec.toNat : Int) - ((2 ^ 64 : Nat) : Int) := BitVec.toInt_eq_toNat_cond x.toBitVec
  have hY : (x ^^^ (-9223372036854775808 : Int64)).toInt = if 2 * (x ^^^ (-9223372036854775808 : Int64)).toBitVec.toNat < 2 ^ 64 then ((x ^^^ (-9223372036854775808 : Int64)).toBitVec.toNat : Int) else ((x ^^^ (-9223372036854775808 : Int64)).toBitVec.toNat : Int) - ((2 ^ 64 : Nat) : Int) := BitVec.toInt_eq_toNat_cond _
  rw [e] at hY
  generalize (x ^^^ (-9223372036854775808 : Int64)).toInt = Y at *
  generalize x.toInt = X at *
  generalize (x.toBitVec.toNat ^^^ 9223372036854775808) = z at *
  generalize x.toBitVec.toNat = u at *
  clear e
  rcases hd with hd | hd <;> rw [hd] at h2
  · have h2' : z / 2 ^ 63 = 1 := h2
    split at hX <;> split at hY <;> split <;> omega
  · have h2' : z / 2 ^ 63 = 0 := h2
    split at hX <;> split at hY <;> split <;> omega
theorem wrap_law (l r : Int64) (k : Int64) (hk : k = if ((l + r) ^^^ (-9223372036854775808 : Int64)) < (l ^^^ (-9223372036854775808 : Int64)) then 1 else 0) :
    (wrapF l r (l + r)).toInt64 = (((l >>> ((63 : Int32) &&& 0x3f).toInt64) + (r >>> ((63 : Int32) &&& 0x3f).toInt64)) + k) + (((l + r).toUInt64 >>> ((63 : Int32) &&& 0x3f).toInt64.toUInt64).toInt64) := by
  have bl := Int64.toInt_lt l
  have bl' := Int64.le_toInt l
  have br := Int64.toInt_lt r
  have br' := Int64.le_toInt r
  have hs := c_ladd l r
  have bs := Int64.toInt_lt (l + r)
  have bs' := Int64.le_toInt (l + r)
  have s1 := c_lshr l 63 63 rfl
  have s2 := c_lshr r 63 63 rfl
  have s3 := c_lushr (l + r) 63 63 rfl (by decide)
  have x1 := own_xorB (l + r)
  have x2 := own_xorB l
  have a1 := c_xorSL l (l + r)
  have a2 := c_xorSL r (l + r)
  have a3 := c_andSL (l ^^^ (l + r)) (r ^^^ (l + r))
  have hk' : k.toInt = if (if (l + r).toInt < 0 then (l + r).toInt + 9223372036854775808 else (l + r).toInt - 9223372036854775808) < (if l.toInt < 0 then l.toInt + 9223372036854775808 else l.toInt - 9223372036854775808) then 1 else 0 := by
    rw [hk, ← x1, ← x2]
    by_cases q : ((l + r) ^^^ (-9223372036854775808 : Int64)) < (l ^^^ (-9223372036854775808 : Int64))
    · rw [if_pos q, if_pos (ltl.mp q)]; rfl
    · rw [if_neg q, if_neg (fun z => q (ltl.mpr z))]; rfl
  have hw : (wrapF l r (l + r)).toInt = if ((l ^^^ (l + r)) &&& (r ^^^ (l + r))).toInt < 0 then (if r.toInt < 0 then -1 else 1) else 0 := by
    unfold wrapF
    simp only [ltl]
    have z0 : (0 : Int64).toInt = 0 := rfl
    rw [z0]
    split
    · split <;> rfl
    · rfl
  rw [eql, c_i2l, hw]
  have c1 := c_ladd (((l >>> ((63 : Int32) &&& 0x3f).toInt64) + (r >>> ((63 : Int32) &&& 0x3f).toInt64)) + k) (((l + r).toUInt64 >>> ((63 : Int32) &&& 0x3f).toInt64.toUInt64).toInt64)
  have c2 := c_ladd ((l >>> ((63 : Int32) &&& 0x3f).toInt64) + (r >>> ((63 : Int32) &&& 0x3f).toInt64)) k
  have c3 := c_ladd (l >>> ((63 : Int32) &&& 0x3f).toInt64) (r >>> ((63 : Int32) &&& 0x3f).toInt64)
  have d1 := Int64.toInt_lt ((((l >>> ((63 : Int32) &&& 0x3f).toInt64) + (r >>> ((63 : Int32) &&& 0x3f).toInt64)) + k) + (((l + r).toUInt64 >>> ((63 : Int32) &&& 0x3f).toInt64.toUInt64).toInt64))
  have d1' := Int64.le_toInt ((((l >>> ((63 : Int32) &&& 0x3f).toInt64) + (r >>> ((63 : Int32) &&& 0x3f).toInt64)) + k) + (((l + r).toUInt64 >>> ((63 : Int32) &&& 0x3f).toInt64.toUInt64).toInt64))
  generalize (((((l >>> ((63 : Int32) &&& 0x3f).toInt64) + (r >>> ((63 : Int32) &&& 0x3f).toInt64)) + k) + (((l + r).toUInt64 >>> ((63 : Int32) &&& 0x3f).toInt64.toUInt64).toInt64))).toInt = t at *
  generalize ((((l >>> ((63 : Int32) &&& 0x3f).toInt64) + (r >>> ((63 : Int32) &&& 0x3f).toInt64)) + k)).toInt = t2 at *
  generalize (((l >>> ((63 : Int32) &&& 0x3f).toInt64) + (r >>> ((63 : Int32) &&& 0x3f).toInt64))).toInt = t3 at *
  generalize ((l + r).toUInt64 >>> ((63 : Int32) &&& 0x3f).toInt64.toUInt64).toInt64.toInt = t4 at *
  generalize (l >>> ((63 : Int32) &&& 0x3f).toInt64).toInt = t5 at *
  generalize (r >>> ((63 : Int32) &&& 0x3f).toInt64).toInt = t6 at *
  generalize ((l ^^^ (l + r)) &&& (r ^^^ (l + r))).toInt = t7 at *
  generalize (l ^^^ (l + r)).toInt = t8 at *
  generalize (r ^^^ (l + r)).toInt = t9 at *
  generalize (l + r).toInt = S at *
  generalize l.toInt = A at *
  generalize r.toInt = B at *
  generalize k.toInt = kk at *
  clear hk hw x1 x2
  have p63 : ((2 ^ 63 : Nat) : Int) = 9223372036854775808 := by decide
  rw [p63] at s1 s2 s3
  obtain ⟨a11, a12, a13, a14⟩ := a1
  obtain ⟨a21, a22, a23, a24⟩ := a2
  obtain ⟨a31, a32, a33⟩ := a3
  rcases Int.lt_or_le A 0 with hA | hA <;> rcases Int.lt_or_le B 0 with hB | hB <;> rcases Int.lt_or_le S 0 with hS | hS <;>
    (repeat (split at hk')) <;> (repeat split) <;> omega
theorem pn_0 : plainName "com/example/lacuna/lacuna/LongSumWrapOfPinLaw" = true := by first | (simp [plainName, overriddenIn]; done) | decide +kernel
theorem pd0_0 : parseMethodDescriptor "(JJJ)I" = some ⟨[.long, .long, .long], some .int⟩ := by decide +kernel
theorem ef_0 (m : MethodId) (q0 : Int64) (q1 : Int64) : entryFrame m #[(.long q0), (.long q1)] maxLocals = mkF m 0 #[.val (.long q0), .second, .val (.long q1), .second, .unset, .unset, .unset, .unset, .unset, .unset, .unset, .unset, .unset, .unset, .unset] [] := by first | (simp [entryFrame, mkF, argsToLocals, Value.category, maxLocals]; done) | rfl
def Q0 (Z : State) (q0 : Int64) (q1 : Int64)  (h0 : Heap) (n0 : Nat) (v : Option Value) (h : Heap) (L : List Loc) : Prop := v = some (.int 1) ∧ Fr n0 L
set_option maxRecDepth 65536 in
set_option maxHeartbeats 40000000 in
theorem rm0 (l : Launch) (Z : State) (a0 : Array Value) (hw : ∀ d ∈ tables_1, d.before a0 Z = true) (ws : List Jvm.Cond) (q0 : Int64) (q1 : Int64)  (h0 : Heap) (n0 : Nat) (Z0 : n0 ≤ h0.size) :
    MetFree l x (head1 (Jvm.Cond.code x code maxLocals ret :: ws) room_1) (fun a U => a = #[(.long q0), (.long q1)] ∧ Z.Warmed39 U.vm ∧ U.heap = h0) (fun _ _ _ _ _ => True) (fun _ U o U' => ∃ v L, o = .returned v ∧ Q0 Z q0 q1 h0 n0 v U'.heap L ∧ FrameEnd U o U' L 0 0) := by
  refine MetFree.of_bodySF (plainFor_of_name pn_0) hisR ?_
  intro p e s m args below meth c s₁ Bd hml0 hP hK
  obtain ⟨rfl, hZ, hh⟩ := hP
  have hx := Bd.exec
  have hby := Bd.bytes
  have hml : c.maxLocals = 15 := hml0
  have hown : s.vm.findClass "com/example/lacuna/lacuna/LongSumWrapOfPinLaw" = some m.cls := findClass_of_methodNamed Bd.named
  have hnm := (name_of_methodNamed Bd.named Bd.method).1
  have X0 : Stand p l e room_1 s m #[(.long q0), (.long q1)] below meth c s₁ [] 0 0 := Stand.of_body Bd
  have e0 : s₁.heap = h0 := by rw [← hh, Bd.state]; rfl
  have N0 := Fr.nil n0
  refine Runs.enter (ef_0 m q0 q1) ?_
  show Runs _ _ _ _ s₁ (mkF m 0 #[.val (.long q0), .second, .val (.long q1), .second, .unset, .unset, .unset, .unset, .unset, .unset, .unset, .unset, .unset, .unset, .unset] [])
  refine Runs.back (fun t k => XS.lloadN X0.here hx rfl (hb hby at_0) rfl k) ?_
  show Runs _ _ _ _ s₁ (mkF m 1 #[.val (.long q0), .second, .val (.long q1), .second, .unset, .unset, .unset, .unset, .unset, .unset, .unset, .unset, .unset, .unset, .unset] [(.long q0)])
  refine Runs.back (fun t k => XS.lloadN X0.here hx rfl (hb hby at_1) rfl k) ?_
  show Runs _ _ _ _ s₁ (mkF m 2 #[.val (.long q0), .second, .val (.long q1), .second, .unset, .unset, .unset, .unset, .unset, .unset, .unset, .unset, .unset, .unset, .unset] [(.long q1), (.long q0)])
  refine Runs.back (fun t k => XS.ladd X0.here hx rfl (hb hby at_2) rfl k) ?_
  show Runs _ _ _ _ s₁ (mkF m 3 #[.val (.long q0), .second, .val (.long q1), .second, .unset, .unset, .unset, .unset, .unset, .unset, .unset, .unset, .unset, .unset, .unset] [(.long (q0 + q1))])
  refine Runs.back (fun t k => XS.lstore X0.here hx rfl (hb hby at_3) rfl (l' := #[.val (.long q0), .second, .val (.long q1), .second, .val (.long (q0 + q1)), .second, .unset, .unset, .unset, .unset, .unset, .unset, .unset, .unset, .unset]) rfl k) ?_
  show Runs _ _ _ _ s₁ (mkF m 5 #[.val (.long q0), .second, .val (.long q1), .second, .val (.long (q0 + q1)), .second, .unset, .unset, .unset, .unset, .unset, .unset, .unset, .unset, .unset] [])
  refine Runs.back (X0.ldc2Long hx hown (mvT hZ (hw _ (List.mem_of_getElem? (i := 0) rfl))) (g := (mkF m 5 #[.val (.long q0), .second, .val (.long q1), .second, .val (.long (q0 + q1)), .second, .unset, .unset, .unset, .unset, .unset, .unset, .unset, .unset, .unset] [])) rfl (hb hby at_5)) ?_
  show Runs _ _ _ _ s₁ (mkF m 8 #[.val (.long q0), .second, .val (.long q1), .second, .val (.long (q0 + q1)), .second, .unset, .unset, .unset, .unset, .unset, .unset, .unset, .unset, .unset] [(.long (-9223372036854775808 : Int64))])
  refine Runs.back (fun t k => XS.lstore X0.here hx rfl (hb hby at_8) rfl (l' := #[.val (.long q0), .second, .val (.long q1), .second, .val (.long (q0 + q1)), .second, .val (.long (-9223372036854775808 : Int64)), .second, .unset, .unset, .unset, .unset, .unset, .unset, .unset]) rfl k) ?_
  show Runs _ _ _ _ s₁ (mkF m 10 #[.val (.long q0), .second, .val (.long q1), .second, .val (.long (q0 + q1)), .second, .val (.long (-9223372036854775808 : Int64)), .second, .unset, .unset, .unset, .unset, .unset, .unset, .unset] [])
  refine Runs.back (fun t k => XS.lload X0.here hx rfl (hb hby at_10) rfl k) ?_
  show Runs _ _ _ _ s₁ (mkF m 12 #[.val (.long q0), .second, .val (.long q1), .second, .val (.long (q0 + q1)), .second, .val (.long (-9223372036854775808 : Int64)), .second, .unset, .unset, .unset, .unset, .unset, .unset, .unset] [(.long (q0 + q1))])
  refine Runs.back (fun t k => XS.lload X0.here hx rfl (hb hby at_12) rfl k) ?_
  show Runs _ _ _ _ s₁ (mkF m 14 #[.val (.long q0), .second, .val (.long q1), .second, .val (.long (q0 + q1)), .second, .val (.long (-9223372036854775808 : Int64)), .second, .unset, .unset, .unset, .unset, .unset, .unset, .unset] [(.long (-9223372036854775808 : Int64)), (.long (q0 + q1))])
  refine Runs.back (fun t k => XS.lxor X0.here hx rfl (hb hby at_14) rfl k) ?_
  show Runs _ _ _ _ s₁ (mkF m 15 #[.val (.long q0), .second, .val (.long q1), .second, .val (.long (q0 + q1)), .second, .val (.long (-9223372036854775808 : Int64)), .second, .unset, .unset, .unset, .unset, .unset, .unset, .unset] [(.long ((q0 + q1) ^^^ (-9223372036854775808 : Int64)))])
  refine Runs.back (fun t k => XS.lloadN X0.here hx rfl (hb hby at_15) rfl k) ?_
  show Runs _ _ _ _ s₁ (mkF m 16 #[.val (.long q0), .second, .val (.long q1), .second, .val (.long (q0 + q1)), .second, .val (.long (-9223372036854775808 : Int64)), .second, .unset, .unset, .unset, .unset, .unset, .unset, .unset] [(.long q0), (.long ((q0 + q1) ^^^ (-9223372036854775808 : Int64)))])
  refine Runs.back (fun t k => XS.lload X0.here hx rfl (hb hby at_16) rfl k) ?_
  show Runs _ _ _ _ s₁ (mkF m 18 #[.val (.long q0), .second, .val (.long q1), .second, .val (.long (q0 + q1)), .second, .val (.long (-9223372036854775808 : Int64)), .second, .unset, .unset, .unset, .unset, .unset, .unset, .unset] [(.long (-9223372036854775808 : Int64)), (.long q0), (.long ((q0 + q1) ^^^ (-9223372036854775808 : Int64)))])
  refine Runs.back (fun t k => XS.lxor X0.here hx rfl (hb hby at_18) rfl k) ?_
  show Runs _ _ _ _ s₁ (mkF m 19 #[.val (.long q0), .second, .val (.long q1), .second, .val (.long (q0 + q1)), .second, .val (.long (-9223372036854775808 : Int64)), .second, .unset, .unset, .unset, .unset, .unset, .unset, .unset] [(.long (q0 ^^^ (-9223372036854775808 : Int64))), (.long ((q0 + q1) ^^^ (-9223372036854775808 : Int64)))])
  refine Runs.back (fun t k => XS.lcmp X0.here hx rfl (hb hby at_19) rfl k) ?_
  show Runs _ _ _ _ s₁ (mkF m 20 #[.val (.long q0), .second, .val (.long q1), .second, .val (.long (q0 + q1)), .second, .val (.long (-9223372036854775808 : Int64)), .second, .unset, .unset, .unset, .unset, .unset, .unset, .unset] [(.int (lcmpW ((q0 + q1) ^^^ (-9223372036854775808 : Int64)) (q0 ^^^ (-9223372036854775808 : Int64))))])
  by_cases c20_1 : ((q0 + q1) ^^^ (-9223372036854775808 : Int64)) < (q0 ^^^ (-9223372036854775808 : Int64))
  · refine Runs.back (fun t k => XS.ifNo X0.here hx rfl (hb hby at_20) rfl ((if0 _ _).trans (tlt (lcT c20_1)).2.1) k) ?_
    show Runs _ _ _ _ s₁ (mkF m 23 #[.val (.long q0), .second, .val (.long q1), .second, .val (.long (q0 + q1)), .second, .val (.long (-9223372036854775808 : Int64)), .second, .unset, .unset, .unset, .unset, .unset, .unset, .unset] [])
    refine Runs.back (fun t k => XS.lconst X0.here hx rfl (hb hby at_23) k) ?_
    show Runs _ _ _ _ s₁ (mkF m 24 #[.val (.long q0), .second, .val (.long q1), .second, .val (.long (q0 + q1)), .second, .val (.long (-9223372036854775808 : Int64)), .second, .unset, .unset, .unset, .unset, .unset, .unset, .unset] [(.long (1 : Int64))])
    refine Runs.back (fun t k => XS.goto X0.here hx rfl (pc0 := 24) (pc' := 28) rfl (hb hby at_24) (by decide) (by decide) k) ?_
    show Runs _ _ _ _ s₁ (mkF m 28 #[.val (.long q0), .second, .val (.long q1), .second, .val (.long (q0 + q1)), .second, .val (.long (-9223372036854775808 : Int64)), .second, .unset, .unset, .unset, .unset, .unset, .unset, .unset] [(.long (1 : Int64))])
    refine Runs.back (fun t k => XS.lstore X0.here hx rfl (hb hby at_28) rfl (l' := #[.val (.long q0), .second, .val (.long q1), .second, .val (.long (q0 + q1)), .second, .val (.long (-9223372036854775808 : Int64)), .second, .val (.long (1 : Int64)), .second, .unset, .unset, .unset, .unset, .unset]) rfl k) ?_
    show Runs _ _ _ _ s₁ (mkF m 30 #[.val (.long q0), .second, .val (.long q1), .second, .val (.long (q0 + q1)), .second, .val (.long (-9223372036854775808 : Int64)), .second, .val (.long (1 : Int64)), .second, .unset, .unset, .unset, .unset, .unset] [])
    refine Runs.back (fun t k => XS.lloadN X0.here hx rfl (hb hby at_30) rfl k) ?_
    show Runs _ _ _ _ s₁ (mkF m 31 #[.val (.long q0), .second, .val (.long q1), .second, .val (.long (q0 + q1)), .second, .val (.long (-9223372036854775808 : Int64)), .second, .val (.long (1 : Int64)), .second, .unset, .unset, .unset, .unset, .unset] [(.long q0)])
    refine Runs.back (fun t k => XS.bipush X0.here hx rfl (hb hby at_31) k) ?_
    show Runs _ _ _ _ s₁ (mkF m 33 #[.val (.long q0), .second, .val (.long q1), .second, .val (.long (q0 + q1)), .second, .val (.long (-9223372036854775808 : Int64)), .second, .val (.long (1 : Int64)), .second, .unset, .unset, .unset, .unset, .unset] [(.int (63 : Int32)), (.long q0)])
    refine Runs.back (fun t k => XS.lshr X0.here hx rfl (hb hby at_33) rfl k) ?_
    show Runs _ _ _ _ s₁ (mkF m 34 #[.val (.long q0), .second, .val (.long q1), .second, .val (.long (q0 + q1)), .second, .val (.long (-9223372036854775808 : Int64)), .second, .val (.long (1 : Int64)), .second, .unset, .unset, .unset, .unset, .unset] [(.long (q0 >>> ((63 : Int32) &&& 0x3f).toInt64))])
    refine Runs.back (fun t k => XS.lloadN X0.here hx rfl (hb hby at_34) rfl k) ?_
    show Runs _ _ _ _ s₁ (mkF m 35 #[.val (.long q0), .second, .val (.long q1), .second, .val (.long (q0 + q1)), .second, .val (.long (-9223372036854775808 : Int64)), .second, .val (.long (1 : Int64)), .second, .unset, .unset, .unset, .unset, .unset] [(.long q1), (.long (q0 >>> ((63 : Int32) &&& 0x3f).toInt64))])
    refine Runs.back (fun t k => XS.bipush X0.here hx rfl (hb hby at_35) k) ?_
    show Runs _ _ _ _ s₁ (mkF m 37 #[.val (.long q0), .second, .val (.long q1), .second, .val (.long (q0 + q1)), .second, .val (.long (-9223372036854775808 : Int64)), .second, .val (.long (1 : Int64)), .second, .unset, .unset, .unset, .unset, .unset] [(.int (63 : Int32)), (.long q1), (.long (q0 >>> ((63 : Int32) &&& 0x3f).toInt64))])
    refine Runs.back (fun t k => XS.lshr X0.here hx rfl (hb hby at_37) rfl k) ?_
    show Runs _ _ _ _ s₁ (mkF m 38 #[.val (.long q0), .second, .val (.long q1), .second, .val (.long (q0 + q1)), .second, .val (.long (-9223372036854775808 : Int64)), .second, .val (.long (1 : Int64)), .second, .unset, .unset, .unset, .unset, .unset] [(.long (q1 >>> ((63 : Int32) &&& 0x3f).toInt64)), (.long (q0 >>> ((63 : Int32) &&& 0x3f).toInt64))])
    refine Runs.back (fun t k => XS.ladd X0.here hx rfl (hb hby at_38) rfl k) ?_
    show Runs _ _ _ _ s₁ (mkF m 39 #[.val (.long q0), .second, .val (.long q1), .second, .val (.long (q0 + q1)), .second, .val (.long (-9223372036854775808 : Int64)), .second, .val (.long (1 : Int64)), .second, .unset, .unset, .unset, .unset, .unset] [(.long ((q0 >>> ((63 : Int32) &&& 0x3f).toInt64) + (q1 >>> ((63 : Int32) &&& 0x3f).toInt64)))])
    refine Runs.back (fun t k => XS.lload X0.here hx rfl (hb hby at_39) rfl k) ?_
    show Runs _ _ _ _ s₁ (mkF m 41 #[.val (.long q0), .second, .val (.long q1), .second, .val (.long (q0 + q1)), .second, .val (.long (-9223372036854775808 : Int64)), .second, .val (.long (1 : Int64)), .second, .unset, .unset, .unset, .unset, .unset] [(.long (1 : Int64)), (.long ((q0 >>> ((63 : Int32) &&& 0x3f).toInt64) + (q1 >>> ((63 : Int32) &&& 0x3f).toInt64)))])
    refine Runs.back (fun t k => XS.ladd X0.here hx rfl (hb hby at_41) rfl k) ?_
    show Runs _ _ _ _ s₁ (mkF m 42 #[.val (.long q0), .second, .val (.long q1), .second, .val (.long (q0 + q1)), .second, .val (.long (-9223372036854775808 : Int64)), .second, .val (.long (1 : Int64)), .second, .unset, .unset, .unset, .unset, .unset] [(.long (((q0 >>> ((63 : Int32) &&& 0x3f).toInt64) + (q1 >>> ((63 : Int32) &&& 0x3f).toInt64)) + (1 : Int64)))])
    refine Runs.back (fun t k => XS.lstore X0.here hx rfl (hb hby at_42) rfl (l' := #[.val (.long q0), .second, .val (.long q1), .second, .val (.long (q0 + q1)), .second, .val (.long (-9223372036854775808 : Int64)), .second, .val (.long (1 : Int64)), .second, .val (.long (((q0 >>> ((63 : Int32) &&& 0x3f).toInt64) + (q1 >>> ((63 : Int32) &&& 0x3f).toInt64)) + (1 : Int64))), .second, .unset, .unset, .unset]) rfl k) ?_
    show Runs _ _ _ _ s₁ (mkF m 44 #[.val (.long q0), .second, .val (.long q1), .second, .val (.long (q0 + q1)), .second, .val (.long (-9223372036854775808 : Int64)), .second, .val (.long (1 : Int64)), .second, .val (.long (((q0 >>> ((63 : Int32) &&& 0x3f).toInt64) + (q1 >>> ((63 : Int32) &&& 0x3f).toInt64)) + (1 : Int64))), .second, .unset, .unset, .unset] [])
    refine Runs.back (fun t k => XS.lload X0.here hx rfl (hb hby at_44) rfl k) ?_
    show Runs _ _ _ _ s₁ (mkF m 46 #[.val (.long q0), .second, .val (.long q1), .second, .val (.long (q0 + q1)), .second, .val (.long (-9223372036854775808 : Int64)), .second, .val (.long (1 : Int64)), .second, .val (.long (((q0 >>> ((63 : Int32) &&& 0x3f).toInt64) + (q1 >>> ((63 : Int32) &&& 0x3f).toInt64)) + (1 : Int64))), .second, .unset, .unset, .unset] [(.long (((q0 >>> ((63 : Int32) &&& 0x3f).toInt64) + (q1 >>> ((63 : Int32) &&& 0x3f).toInt64)) + (1 : Int64)))])
    refine Runs.back (fun t k => XS.lload X0.here hx rfl (hb hby at_46) rfl k) ?_
    show Runs _ _ _ _ s₁ (mkF m 48 #[.val (.long q0), .second, .val (.long q1), .second, .val (.long (q0 + q1)), .second, .val (.long (-9223372036854775808 : Int64)), .second, .val (.long (1 : Int64)), .second, .val (.long (((q0 >>> ((63 : Int32) &&& 0x3f).toInt64) + (q1 >>> ((63 : Int32) &&& 0x3f).toInt64)) + (1 : Int64))), .second, .unset, .unset, .unset] [(.long (q0 + q1)), (.long (((q0 >>> ((63 : Int32) &&& 0x3f).toInt64) + (q1 >>> ((63 : Int32) &&& 0x3f).toInt64)) + (1 : Int64)))])
    refine Runs.back (fun t k => XS.bipush X0.here hx rfl (hb hby at_48) k) ?_
    show Runs _ _ _ _ s₁ (mkF m 50 #[.val (.long q0), .second, .val (.long q1), .second, .val (.long (q0 + q1)), .second, .val (.long (-9223372036854775808 : Int64)), .second, .val (.long (1 : Int64)), .second, .val (.long (((q0 >>> ((63 : Int32) &&& 0x3f).toInt64) + (q1 >>> ((63 : Int32) &&& 0x3f).toInt64)) + (1 : Int64))), .second, .unset, .unset, .unset] [(.int (63 : Int32)), (.long (q0 + q1)), (.long (((q0 >>> ((63 : Int32) &&& 0x3f).toInt64) + (q1 >>> ((63 : Int32) &&& 0x3f).toInt64)) + (1 : Int64)))])
    refine Runs.back (fun t k => XS.lushr X0.here hx rfl (hb hby at_50) rfl k) ?_
    show Runs _ _ _ _ s₁ (mkF m 51 #[.val (.long q0), .second, .val (.long q1), .second, .val (.long (q0 + q1)), .second, .val (.long (-9223372036854775808 : Int64)), .second, .val (.long (1 : Int64)), .second, .val (.long (((q0 >>> ((63 : Int32) &&& 0x3f).toInt64) + (q1 >>> ((63 : Int32) &&& 0x3f).toInt64)) + (1 : Int64))), .second, .unset, .unset, .unset] [(.long (((q0 + q1).toUInt64 >>> ((63 : Int32) &&& 0x3f).toInt64.toUInt64).toInt64)), (.long (((q0 >>> ((63 : Int32) &&& 0x3f).toInt64) + (q1 >>> ((63 : Int32) &&& 0x3f).toInt64)) + (1 : Int64)))])
    refine Runs.back (fun t k => XS.ladd X0.here hx rfl (hb hby at_51) rfl k) ?_
    show Runs _ _ _ _ s₁ (mkF m 52 #[.val (.long q0), .second, .val (.long q1), .second, .val (.long (q0 + q1)), .second, .val (.long (-9223372036854775808 : Int64)), .second, .val (.long (1 : Int64)), .second, .val (.long (((q0 >>> ((63 : Int32) &&& 0x3f).toInt64) + (q1 >>> ((63 : Int32) &&& 0x3f).toInt64)) + (1 : Int64))), .second, .unset, .unset, .unset] [(.long ((((q0 >>> ((63 : Int32) &&& 0x3f).toInt64) + (q1 >>> ((63 : Int32) &&& 0x3f).toInt64)) + (1 : Int64)) + (((q0 + q1).toUInt64 >>> ((63 : Int32) &&& 0x3f).toInt64.toUInt64).toInt64)))])
    refine Runs.back (fun t k => XS.lstore X0.here hx rfl (hb hby at_52) rfl (l' := #[.val (.long q0), .second, .val (.long q1), .second, .val (.long (q0 + q1)), .second, .val (.long (-9223372036854775808 : Int64)), .second, .val (.long (1 : Int64)), .second, .val (.long (((q0 >>> ((63 : Int32) &&& 0x3f).toInt64) + (q1 >>> ((63 : Int32) &&& 0x3f).toInt64)) + (1 : Int64))), .second, .val (.long ((((q0 >>> ((63 : Int32) &&& 0x3f).toInt64) + (q1 >>> ((63 : Int32) &&& 0x3f).toInt64)) + (1 : Int64)) + (((q0 + q1).toUInt64 >>> ((63 : Int32) &&& 0x3f).toInt64.toUInt64).toInt64))), .second, .unset]) rfl k) ?_
    show Runs _ _ _ _ s₁ (mkF m 54 #[.val (.long q0), .second, .val (.long q1), .second, .val (.long (q0 + q1)), .second, .val (.long (-9223372036854775808 : Int64)), .second, .val (.long (1 : Int64)), .second, .val (.long (((q0 >>> ((63 : Int32) &&& 0x3f).toInt64) + (q1 >>> ((63 : Int32) &&& 0x3f).toInt64)) + (1 : Int64))), .second, .val (.long ((((q0 >>> ((63 : Int32) &&& 0x3f).toInt64) + (q1 >>> ((63 : Int32) &&& 0x3f).toInt64)) + (1 : Int64)) + (((q0 + q1).toUInt64 >>> ((63 : Int32) &&& 0x3f).toInt64.toUInt64).toInt64))), .second, .unset] [])
    refine Runs.back (fun t k => XS.lloadN X0.here hx rfl (hb hby at_54) rfl k) ?_
    show Runs _ _ _ _ s₁ (mkF m 55 #[.val (.long q0), .second, .val (.long q1), .second, .val (.long (q0 + q1)), .second, .val (.long (-9223372036854775808 : Int64)), .second, .val (.long (1 : Int64)), .second, .val (.long (((q0 >>> ((63 : Int32) &&& 0x3f).toInt64) + (q1 >>> ((63 : Int32) &&& 0x3f).toInt64)) + (1 : Int64))), .second, .val (.long ((((q0 >>> ((63 : Int32) &&& 0x3f).toInt64) + (q1 >>> ((63 : Int32) &&& 0x3f).toInt64)) + (1 : Int64)) + (((q0 + q1).toUInt64 >>> ((63 : Int32) &&& 0x3f).toInt64.toUInt64).toInt64))), .second, .unset] [(.long q0)])
    refine Runs.back (fun t k => XS.lloadN X0.here hx rfl (hb hby at_55) rfl k) ?_
    show Runs _ _ _ _ s₁ (mkF m 56 #[.val (.long q0), .second, .val (.long q1), .second, .val (.long (q0 + q1)), .second, .val (.long (-9223372036854775808 : Int64)), .second, .val (.long (1 : Int64)), .second, .val (.long (((q0 >>> ((63 : Int32) &&& 0x3f).toInt64) + (q1 >>> ((63 : Int32) &&& 0x3f).toInt64)) + (1 : Int64))), .second, .val (.long ((((q0 >>> ((63 : Int32) &&& 0x3f).toInt64) + (q1 >>> ((63 : Int32) &&& 0x3f).toInt64)) + (1 : Int64)) + (((q0 + q1).toUInt64 >>> ((63 : Int32) &&& 0x3f).toInt64.toUInt64).toInt64))), .second, .unset] [(.long q1), (.long q0)])
    refine Runs.back (fun t k => XS.lload X0.here hx rfl (hb hby at_56) rfl k) ?_
    show Runs _ _ _ _ s₁ (mkF m 58 #[.val (.long q0), .second, .val (.long q1), .second, .val (.long (q0 + q1)), .second, .val (.long (-9223372036854775808 : Int64)), .second, .val (.long (1 : Int64)), .second, .val (.long (((q0 >>> ((63 : Int32) &&& 0x3f).toInt64) + (q1 >>> ((63 : Int32) &&& 0x3f).toInt64)) + (1 : Int64))), .second, .val (.long ((((q0 >>> ((63 : Int32) &&& 0x3f).toInt64) + (q1 >>> ((63 : Int32) &&& 0x3f).toInt64)) + (1 : Int64)) + (((q0 + q1).toUInt64 >>> ((63 : Int32) &&& 0x3f).toInt64.toUInt64).toInt64))), .second, .unset] [(.long (q0 + q1)), (.long q1), (.long q0)])
    obtain ⟨_, _, ⟨T2, L2, k2, n2⟩, -, X2, ⟨Lc2, hQ2, l2, y2, z2⟩, st2⟩ := Jvm.LawKit.callS X0 hx (y := (⟨"com/example/lacuna/lacuna/LongSum", "wrapOf", "(JJJ)I"⟩ : MethodName)) hown (mvT hZ (hw _ (List.mem_of_getElem? (i := 1) rfl))) (mvT hZ (hw _ (List.mem_of_getElem? (i := 2) rfl))) (mvT hZ (hw _ (List.mem_of_getElem? (i := 3) rfl))) (mvT hZ (hw _ (List.mem_of_getElem? (i := 4) rfl))) (by decide) (backOf (W := 0) (rm1 l Z a0 hw [] q0 q1 (q0 + q1) h0 n0 (Z0)) hZ (hw _ (List.mem_of_getElem? (i := 4) rfl)) (hw _ (List.mem_of_getElem? (i := 3) rfl)) (by decide) (by decide)) (g := (mkF m 58 #[.val (.long q0), .second, .val (.long q1), .second, .val (.long (q0 + q1)), .second, .val (.long (-9223372036854775808 : Int64)), .second, .val (.long (1 : Int64)), .second, .val (.long (((q0 >>> ((63 : Int32) &&& 0x3f).toInt64) + (q1 >>> ((63 : Int32) &&& 0x3f).toInt64)) + (1 : Int64))), .second, .val (.long ((((q0 >>> ((63 : Int32) &&& 0x3f).toInt64) + (q1 >>> ((63 : Int32) &&& 0x3f).toInt64)) + (1 : Int64)) + (((q0 + q1).toUInt64 >>> ((63 : Int32) &&& 0x3f).toInt64.toUInt64).toInt64))), .second, .unset] [(.long (q0 + q1)), (.long q1), (.long q0)])) rfl (by rw [hml]; rfl) (argsL := [(.long q0), (.long q1), (.long (q0 + q1))]) (rest := []) (lenOf pd0_0 rfl) rfl (by show 2 * 0 + _ ≤ _; exact Nat.le_of_eq rfl) (hb hby at_58) (fun _ _ => ⟨rfl, e0, (by decide : 0 + 0 ≤ _), (by decide : 0 + 0 ≤ _)⟩)
    dsimp only [Pt.U, Pt.locs, Pt.cells, Pt.slots] at X2 l2 y2 z2 st2 hQ2
    subst l2 y2 z2
    obtain ⟨rfl, N2q, eq2⟩ := hQ2
    have N2 := Fr.app N0 N2q
    refine Runs.back st2 ?_
    show Runs _ _ _ _ T2 (mkF m 61 #[.val (.long q0), .second, .val (.long q1), .second, .val (.long (q0 + q1)), .second, .val (.long (-9223372036854775808 : Int64)), .second, .val (.long (1 : Int64)), .second, .val (.long (((q0 >>> ((63 : Int32) &&& 0x3f).toInt64) + (q1 >>> ((63 : Int32) &&& 0x3f).toInt64)) + (1 : Int64))), .second, .val (.long ((((q0 >>> ((63 : Int32) &&& 0x3f).toInt64) + (q1 >>> ((63 : Int32) &&& 0x3f).toInt64)) + (1 : Int64)) + (((q0 + q1).toUInt64 >>> ((63 : Int32) &&& 0x3f).toInt64.toUInt64).toInt64))), .second, .unset] [(.int (wrapF q0 q1 (q0 + q1)))])
    refine Runs.back (fun t k => XS.istore X2.here hx rfl (hb hby at_61) rfl (l' := #[.val (.long q0), .second, .val (.long q1), .second, .val (.long (q0 + q1)), .second, .val (.long (-9223372036854775808 : Int64)), .second, .val (.long (1 : Int64)), .second, .val (.long (((q0 >>> ((63 : Int32) &&& 0x3f).toInt64) + (q1 >>> ((63 : Int32) &&& 0x3f).toInt64)) + (1 : Int64))), .second, .val (.long ((((q0 >>> ((63 : Int32) &&& 0x3f).toInt64) + (q1 >>> ((63 : Int32) &&& 0x3f).toInt64)) + (1 : Int64)) + (((q0 + q1).toUInt64 >>> ((63 : Int32) &&& 0x3f).toInt64.toUInt64).toInt64))), .second, .val (.int (wrapF q0 q1 (q0 + q1)))]) rfl k) ?_
    show Runs _ _ _ _ T2 (mkF m 63 #[.val (.long q0), .second, .val (.long q1), .second, .val (.long (q0 + q1)), .second, .val (.long (-9223372036854775808 : Int64)), .second, .val (.long (1 : Int64)), .second, .val (.long (((q0 >>> ((63 : Int32) &&& 0x3f).toInt64) + (q1 >>> ((63 : Int32) &&& 0x3f).toInt64)) + (1 : Int64))), .second, .val (.long ((((q0 >>> ((63 : Int32) &&& 0x3f).toInt64) + (q1 >>> ((63 : Int32) &&& 0x3f).toInt64)) + (1 : Int64)) + (((q0 + q1).toUInt64 >>> ((63 : Int32) &&& 0x3f).toInt64.toUInt64).toInt64))), .second, .val (.int (wrapF q0 q1 (q0 + q1)))] [])
    refine Runs.back (fun t k => XS.iload X2.here hx rfl (hb hby at_63) rfl k) ?_
    show Runs _ _ _ _ T2 (mkF m 65 #[.val (.long q0), .second, .val (.long q1), .second, .val (.long (q0 + q1)), .second, .val (.long (-9223372036854775808 : Int64)), .second, .val (.long (1 : Int64)), .second, .val (.long (((q0 >>> ((63 : Int32) &&& 0x3f).toInt64) + (q1 >>> ((63 : Int32) &&& 0x3f).toInt64)) + (1 : Int64))), .second, .val (.long ((((q0 >>> ((63 : Int32) &&& 0x3f).toInt64) + (q1 >>> ((63 : Int32) &&& 0x3f).toInt64)) + (1 : Int64)) + (((q0 + q1).toUInt64 >>> ((63 : Int32) &&& 0x3f).toInt64.toUInt64).toInt64))), .second, .val (.int (wrapF q0 q1 (q0 + q1)))] [(.int (wrapF q0 q1 (q0 + q1)))])
    refine Runs.back (fun t k => XS.i2l X2.here hx rfl (hb hby at_65) rfl k) ?_
    show Runs _ _ _ _ T2 (mkF m 66 #[.val (.long q0), .second, .val (.long q1), .second, .val (.long (q0 + q1)), .second, .val (.long (-9223372036854775808 : Int64)), .second, .val (.long (1 : Int64)), .second, .val (.long (((q0 >>> ((63 : Int32) &&& 0x3f).toInt64) + (q1 >>> ((63 : Int32) &&& 0x3f).toInt64)) + (1 : Int64))), .second, .val (.long ((((q0 >>> ((63 : Int32) &&& 0x3f).toInt64) + (q1 >>> ((63 : Int32) &&& 0x3f).toInt64)) + (1 : Int64)) + (((q0 + q1).toUInt64 >>> ((63 : Int32) &&& 0x3f).toInt64.toUInt64).toInt64))), .second, .val (.int (wrapF q0 q1 (q0 + q1)))] [(.long ((wrapF q0 q1 (q0 + q1)).toInt64))])
    refine Runs.back (fun t k => XS.lload X2.here hx rfl (hb hby at_66) rfl k) ?_
    show Runs _ _ _ _ T2 (mkF m 68 #[.val (.long q0), .second, .val (.long q1), .second, .val (.long (q0 + q1)), .second, .val (.long (-9223372036854775808 : Int64)), .second, .val (.long (1 : Int64)), .second, .val (.long (((q0 >>> ((63 : Int32) &&& 0x3f).toInt64) + (q1 >>> ((63 : Int32) &&& 0x3f).toInt64)) + (1 : Int64))), .second, .val (.long ((((q0 >>> ((63 : Int32) &&& 0x3f).toInt64) + (q1 >>> ((63 : Int32) &&& 0x3f).toInt64)) + (1 : Int64)) + (((q0 + q1).toUInt64 >>> ((63 : Int32) &&& 0x3f).toInt64.toUInt64).toInt64))), .second, .val (.int (wrapF q0 q1 (q0 + q1)))] [(.long ((((q0 >>> ((63 : Int32) &&& 0x3f).toInt64) + (q1 >>> ((63 : Int32) &&& 0x3f).toInt64)) + (1 : Int64)) + (((q0 + q1).toUInt64 >>> ((63 : Int32) &&& 0x3f).toInt64.toUInt64).toInt64))), (.long ((wrapF q0 q1 (q0 + q1)).toInt64))])
    refine Runs.back (fun t k => XS.lcmp X2.here hx rfl (hb hby at_68) rfl k) ?_
    show Runs _ _ _ _ T2 (mkF m 69 #[.val (.long q0), .second, .val (.long q1), .second, .val (.long (q0 + q1)), .second, .val (.long (-9223372036854775808 : Int64)), .second, .val (.long (1 : Int64)), .second, .val (.long (((q0 >>> ((63 : Int32) &&& 0x3f).toInt64) + (q1 >>> ((63 : Int32) &&& 0x3f).toInt64)) + (1 : Int64))), .second, .val (.long ((((q0 >>> ((63 : Int32) &&& 0x3f).toInt64) + (q1 >>> ((63 : Int32) &&& 0x3f).toInt64)) + (1 : Int64)) + (((q0 + q1).toUInt64 >>> ((63 : Int32) &&& 0x3f).toInt64.toUInt64).toInt64))), .second, .val (.int (wrapF q0 q1 (q0 + q1)))] [(.int (lcmpW ((wrapF q0 q1 (q0 + q1)).toInt64) ((((q0 >>> ((63 : Int32) &&& 0x3f).toInt64) + (q1 >>> ((63 : Int32) &&& 0x3f).toInt64)) + (1 : Int64)) + (((q0 + q1).toUInt64 >>> ((63 : Int32) &&& 0x3f).toInt64.toUInt64).toInt64))))])
    refine Runs.back (fun t k => XS.ifNo X2.here hx rfl (hb hby at_69) rfl ((if0 _ _).trans (teq (lcE (show ((wrapF q0 q1 (q0 + q1)).toInt64) = ((((q0 >>> ((63 : Int32) &&& 0x3f).toInt64) + (q1 >>> ((63 : Int32) &&& 0x3f).toInt64)) + (1 : Int64)) + (((q0 + q1).toUInt64 >>> ((63 : Int32) &&& 0x3f).toInt64.toUInt64).toInt64)) from (wrap_law q0 q1 _ (if_pos c20_1).symm)))).2) k) ?_
    show Runs _ _ _ _ T2 (mkF m 72 #[.val (.long q0), .second, .val (.long q1), .second, .val (.long (q0 + q1)), .second, .val (.long (-9223372036854775808 : Int64)), .second, .val (.long (1 : Int64)), .second, .val (.long (((q0 >>> ((63 : Int32) &&& 0x3f).toInt64) + (q1 >>> ((63 : Int32) &&& 0x3f).toInt64)) + (1 : Int64))), .second, .val (.long ((((q0 >>> ((63 : Int32) &&& 0x3f).toInt64) + (q1 >>> ((63 : Int32) &&& 0x3f).toInt64)) + (1 : Int64)) + (((q0 + q1).toUInt64 >>> ((63 : Int32) &&& 0x3f).toInt64.toUInt64).toInt64))), .second, .val (.int (wrapF q0 q1 (q0 + q1)))] [])
    refine Runs.back (fun t k => XS.iconst X2.here hx rfl (hb hby at_72) k) ?_
    show Runs _ _ _ _ T2 (mkF m 73 #[.val (.long q0), .second, .val (.long q1), .second, .val (.long (q0 + q1)), .second, .val (.long (-9223372036854775808 : Int64)), .second, .val (.long (1 : Int64)), .second, .val (.long (((q0 >>> ((63 : Int32) &&& 0x3f).toInt64) + (q1 >>> ((63 : Int32) &&& 0x3f).toInt64)) + (1 : Int64))), .second, .val (.long ((((q0 >>> ((63 : Int32) &&& 0x3f).toInt64) + (q1 >>> ((63 : Int32) &&& 0x3f).toInt64)) + (1 : Int64)) + (((q0 + q1).toUInt64 >>> ((63 : Int32) &&& 0x3f).toInt64.toUInt64).toInt64))), .second, .val (.int (wrapF q0 q1 (q0 + q1)))] [(.int (1 : Int32))])
    refine Runs.back (fun t k => XS.goto X2.here hx rfl (pc0 := 73) (pc' := 77) rfl (hb hby at_73) (by decide) (by decide) k) ?_
    show Runs _ _ _ _ T2 (mkF m 77 #[.val (.long q0), .second, .val (.long q1), .second, .val (.long (q0 + q1)), .second, .val (.long (-9223372036854775808 : Int64)), .second, .val (.long (1 : Int64)), .second, .val (.long (((q0 >>> ((63 : Int32) &&& 0x3f).toInt64) + (q1 >>> ((63 : Int32) &&& 0x3f).toInt64)) + (1 : Int64))), .second, .val (.long ((((q0 >>> ((63 : Int32) &&& 0x3f).toInt64) + (q1 >>> ((63 : Int32) &&& 0x3f).toInt64)) + (1 : Int64)) + (((q0 + q1).toUInt64 >>> ((63 : Int32) &&& 0x3f).toInt64.toUInt64).toInt64))), .second, .val (.int (wrapF q0 q1 (q0 + q1)))] [(.int (1 : Int32))])
    obtain ⟨fs, hr, hrun, hended, hW, hsame⟩ := X2.leave (v := some (.int (1 : Int32))) (fun h => by rw [Bd.returns] at h; cases h)
    exact ⟨_, _, (retN X2 hx (t := .boolean) Bd.returns (by simp) (hb hby at_77) hr), hrun, hended, _, _, rfl, ⟨rfl, N2⟩, ⟨_, rfl⟩, hW, hsame.mono (by decide) (by decide)⟩
  · refine Runs.back (fun t k => XS.ifYes X0.here hx rfl (pc0 := 20) (pc' := 27) rfl (hb hby at_20) rfl ((if0 _ _).trans (flt (lcF c20_1)).2.1) (by decide) (by decide) k) ?_
    show Runs _ _ _ _ s₁ (mkF m 27 #[.val (.long q0), .second, .val (.long q1), .second, .val (.long (q0 + q1)), .second, .val (.long (-9223372036854775808 : Int64)), .second, .unset, .unset, .unset, .unset, .unset, .unset, .unset] [])
    refine Runs.back (fun t k => XS.lconst X0.here hx rfl (hb hby at_27) k) ?_
    show Runs _ _ _ _ s₁ (mkF m 28 #[.val (.long q0), .second, .val (.long q1), .second, .val (.long (q0 + q1)), .second, .val (.long (-9223372036854775808 : Int64)), .second, .unset, .unset, .unset, .unset, .unset, .unset, .unset] [(.long (0 : Int64))])
    refine Runs.back (fun t k => XS.lstore X0.here hx rfl (hb hby at_28) rfl (l' := #[.val (.long q0), .second, .val (.long q1), .second, .val (.long (q0 + q1)), .second, .val (.long (-9223372036854775808 : Int64)), .second, .val (.long (0 : Int64)), .second, .unset, .unset, .unset, .unset, .unset]) rfl k) ?_
    show Runs _ _ _ _ s₁ (mkF m 30 #[.val (.long q0), .second, .val (.long q1), .second, .val (.long (q0 + q1)), .second, .val (.long (-9223372036854775808 : Int64)), .second, .val (.long (0 : Int64)), .second, .unset, .unset, .unset, .unset, .unset] [])
    refine Runs.back (fun t k => XS.lloadN X0.here hx rfl (hb hby at_30) rfl k) ?_
    show Runs _ _ _ _ s₁ (mkF m 31 #[.val (.long q0), .second, .val (.long q1), .second, .val (.long (q0 + q1)), .second, .val (.long (-9223372036854775808 : Int64)), .second, .val (.long (0 : Int64)), .second, .unset, .unset, .unset, .unset, .unset] [(.long q0)])
    refine Runs.back (fun t k => XS.bipush X0.here hx rfl (hb hby at_31) k) ?_
    show Runs _ _ _ _ s₁ (mkF m 33 #[.val (.long q0), .second, .val (.long q1), .second, .val (.long (q0 + q1)), .second, .val (.long (-9223372036854775808 : Int64)), .second, .val (.long (0 : Int64)), .second, .unset, .unset, .unset, .unset, .unset] [(.int (63 : Int32)), (.long q0)])
    refine Runs.back (fun t k => XS.lshr X0.here hx rfl (hb hby at_33) rfl k) ?_
    show Runs _ _ _ _ s₁ (mkF m 34 #[.val (.long q0), .second, .val (.long q1), .second, .val (.long (q0 + q1)), .second, .val (.long (-9223372036854775808 : Int64)), .second, .val (.long (0 : Int64)), .second, .unset, .unset, .unset, .unset, .unset] [(.long (q0 >>> ((63 : Int32) &&& 0x3f).toInt64))])
    refine Runs.back (fun t k => XS.lloadN X0.here hx rfl (hb hby at_34) rfl k) ?_
    show Runs _ _ _ _ s₁ (mkF m 35 #[.val (.long q0), .second, .val (.long q1), .second, .val (.long (q0 + q1)), .second, .val (.long (-9223372036854775808 : Int64)), .second, .val (.long (0 : Int64)), .second, .unset, .unset, .unset, .unset, .unset] [(.long q1), (.long (q0 >>> ((63 : Int32) &&& 0x3f).toInt64))])
    refine Runs.back (fun t k => XS.bipush X0.here hx rfl (hb hby at_35) k) ?_
    show Runs _ _ _ _ s₁ (mkF m 37 #[.val (.long q0), .second, .val (.long q1), .second, .val (.long (q0 + q1)), .second, .val (.long (-9223372036854775808 : Int64)), .second, .val (.long (0 : Int64)), .second, .unset, .unset, .unset, .unset, .unset] [(.int (63 : Int32)), (.long q1), (.long (q0 >>> ((63 : Int32) &&& 0x3f).toInt64))])
    refine Runs.back (fun t k => XS.lshr X0.here hx rfl (hb hby at_37) rfl k) ?_
    show Runs _ _ _ _ s₁ (mkF m 38 #[.val (.long q0), .second, .val (.long q1), .second, .val (.long (q0 + q1)), .second, .val (.long (-9223372036854775808 : Int64)), .second, .val (.long (0 : Int64)), .second, .unset, .unset, .unset, .unset, .unset] [(.long (q1 >>> ((63 : Int32) &&& 0x3f).toInt64)), (.long (q0 >>> ((63 : Int32) &&& 0x3f).toInt64))])
    refine Runs.back (fun t k => XS.ladd X0.here hx rfl (hb hby at_38) rfl k) ?_
    show Runs _ _ _ _ s₁ (mkF m 39 #[.val (.long q0), .second, .val (.long q1), .second, .val (.long (q0 + q1)), .second, .val (.long (-9223372036854775808 : Int64)), .second, .val (.long (0 : Int64)), .second, .unset, .unset, .unset, .unset, .unset] [(.long ((q0 >>> ((63 : Int32) &&& 0x3f).toInt64) + (q1 >>> ((63 : Int32) &&& 0x3f).toInt64)))])
    refine Runs.back (fun t k => XS.lload X0.here hx rfl (hb hby at_39) rfl k) ?_
    show Runs _ _ _ _ s₁ (mkF m 41 #[.val (.long q0), .second, .val (.long q1), .second, .val (.long (q0 + q1)), .second, .val (.long (-9223372036854775808 : Int64)), .second, .val (.long (0 : Int64)), .second, .unset, .unset, .unset, .unset, .unset] [(.long (0 : Int64)), (.long ((q0 >>> ((63 : Int32) &&& 0x3f).toInt64) + (q1 >>> ((63 : Int32) &&& 0x3f).toInt64)))])
    refine Runs.back (fun t k => XS.ladd X0.here hx rfl (hb hby at_41) rfl k) ?_
    show Runs _ _ _ _ s₁ (mkF m 42 #[.val (.long q0), .second, .val (.long q1), .second, .val (.long (q0 + q1)), .second, .val (.long (-9223372036854775808 : Int64)), .second, .val (.long (0 : Int64)), .second, .unset, .unset, .unset, .unset, .unset] [(.long (((q0 >>> ((63 : Int32) &&& 0x3f).toInt64) + (q1 >>> ((63 : Int32) &&& 0x3f).toInt64)) + (0 : Int64)))])
    refine Runs.back (fun t k => XS.lstore X0.here hx rfl (hb hby at_42) rfl (l' := #[.val (.long q0), .second, .val (.long q1), .second, .val (.long (q0 + q1)), .second, .val (.long (-9223372036854775808 : Int64)), .second, .val (.long (0 : Int64)), .second, .val (.long (((q0 >>> ((63 : Int32) &&& 0x3f).toInt64) + (q1 >>> ((63 : Int32) &&& 0x3f).toInt64)) + (0 : Int64))), .second, .unset, .unset, .unset]) rfl k) ?_
    show Runs _ _ _ _ s₁ (mkF m 44 #[.val (.long q0), .second, .val (.long q1), .second, .val (.long (q0 + q1)), .second, .val (.long (-9223372036854775808 : Int64)), .second, .val (.long (0 : Int64)), .second, .val (.long (((q0 >>> ((63 : Int32) &&& 0x3f).toInt64) + (q1 >>> ((63 : Int32) &&& 0x3f).toInt64)) + (0 : Int64))), .second, .unset, .unset, .unset] [])
    refine Runs.back (fun t k => XS.lload X0.here hx rfl (hb hby at_44) rfl k) ?_
    show Runs _ _ _ _ s₁ (mkF m 46 #[.val (.long q0), .second, .val (.long q1), .second, .val (.long (q0 + q1)), .second, .val (.long (-9223372036854775808 : Int64)), .second, .val (.long (0 : Int64)), .second, .val (.long (((q0 >>> ((63 : Int32) &&& 0x3f).toInt64) + (q1 >>> ((63 : Int32) &&& 0x3f).toInt64)) + (0 : Int64))), .second, .unset, .unset, .unset] [(.long (((q0 >>> ((63 : Int32) &&& 0x3f).toInt64) + (q1 >>> ((63 : Int32) &&& 0x3f).toInt64)) + (0 : Int64)))])
    refine Runs.back (fun t k => XS.lload X0.here hx rfl (hb hby at_46) rfl k) ?_
    show Runs _ _ _ _ s₁ (mkF m 48 #[.val (.long q0), .second, .val (.long q1), .second, .val (.long (q0 + q1)), .second, .val (.long (-9223372036854775808 : Int64)), .second, .val (.long (0 : Int64)), .second, .val (.long (((q0 >>> ((63 : Int32) &&& 0x3f).toInt64) + (q1 >>> ((63 : Int32) &&& 0x3f).toInt64)) + (0 : Int64))), .second, .unset, .unset, .unset] [(.long (q0 + q1)), (.long (((q0 >>> ((63 : Int32) &&& 0x3f).toInt64) + (q1 >>> ((63 : Int32) &&& 0x3f).toInt64)) + (0 : Int64)))])
    refine Runs.back (fun t k => XS.bipush X0.here hx rfl (hb hby at_48) k) ?_
    show Runs _ _ _ _ s₁ (mkF m 50 #[.val (.long q0), .second, .val (.long q1), .second, .val (.long (q0 + q1)), .second, .val (.long (-9223372036854775808 : Int64)), .second, .val (.long (0 : Int64)), .second, .val (.long (((q0 >>> ((63 : Int32) &&& 0x3f).toInt64) + (q1 >>> ((63 : Int32) &&& 0x3f).toInt64)) + (0 : Int64))), .second, .unset, .unset, .unset] [(.int (63 : Int32)), (.long (q0 + q1)), (.long (((q0 >>> ((63 : Int32) &&& 0x3f).toInt64) + (q1 >>> ((63 : Int32) &&& 0x3f).toInt64)) + (0 : Int64)))])
    refine Runs.back (fun t k => XS.lushr X0.here hx rfl (hb hby at_50) rfl k) ?_
    show Runs _ _ _ _ s₁ (mkF m 51 #[.val (.long q0), .second, .val (.long q1), .second, .val (.long (q0 + q1)), .second, .val (.long (-9223372036854775808 : Int64)), .second, .val (.long (0 : Int64)), .second, .val (.long (((q0 >>> ((63 : Int32) &&& 0x3f).toInt64) + (q1 >>> ((63 : Int32) &&& 0x3f).toInt64)) + (0 : Int64))), .second, .unset, .unset, .unset] [(.long (((q0 + q1).toUInt64 >>> ((63 : Int32) &&& 0x3f).toInt64.toUInt64).toInt64)), (.long (((q0 >>> ((63 : Int32) &&& 0x3f).toInt64) + (q1 >>> ((63 : Int32) &&& 0x3f).toInt64)) + (0 : Int64)))])
    refine Runs.back (fun t k => XS.ladd X0.here hx rfl (hb hby at_51) rfl k) ?_
    show Runs _ _ _ _ s₁ (mkF m 52 #[.val (.long q0), .second, .val (.long q1), .second, .val (.long (q0 + q1)), .second, .val (.long (-9223372036854775808 : Int64)), .second, .val (.long (0 : Int64)), .second, .val (.long (((q0 >>> ((63 : Int32) &&& 0x3f).toInt64) + (q1 >>> ((63 : Int32) &&& 0x3f).toInt64)) + (0 : Int64))), .second, .unset, .unset, .unset] [(.long ((((q0 >>> ((63 : Int32) &&& 0x3f).toInt64) + (q1 >>> ((63 : Int32) &&& 0x3f).toInt64)) + (0 : Int64)) + (((q0 + q1).toUInt64 >>> ((63 : Int32) &&& 0x3f).toInt64.toUInt64).toInt64)))])
    refine Runs.back (fun t k => XS.lstore X0.here hx rfl (hb hby at_52) rfl (l' := #[.val (.long q0), .second, .val (.long q1), .second, .val (.long (q0 + q1)), .second, .val (.long (-9223372036854775808 : Int64)), .second, .val (.long (0 : Int64)), .second, .val (.long (((q0 >>> ((63 : Int32) &&& 0x3f).toInt64) + (q1 >>> ((63 : Int32) &&& 0x3f).toInt64)) + (0 : Int64))), .second, .val (.long ((((q0 >>> ((63 : Int32) &&& 0x3f).toInt64) + (q1 >>> ((63 : Int32) &&& 0x3f).toInt64)) + (0 : Int64)) + (((q0 + q1).toUInt64 >>> ((63 : Int32) &&& 0x3f).toInt64.toUInt64).toInt64))), .second, .unset]) rfl k) ?_
    show Runs _ _ _ _ s₁ (mkF m 54 #[.val (.long q0), .second, .val (.long q1), .second, .val (.long (q0 + q1)), .second, .val (.long (-9223372036854775808 : Int64)), .second, .val (.long (0 : Int64)), .second, .val (.long (((q0 >>> ((63 : Int32) &&& 0x3f).toInt64) + (q1 >>> ((63 : Int32) &&& 0x3f).toInt64)) + (0 : Int64))), .second, .val (.long ((((q0 >>> ((63 : Int32) &&& 0x3f).toInt64) + (q1 >>> ((63 : Int32) &&& 0x3f).toInt64)) + (0 : Int64)) + (((q0 + q1).toUInt64 >>> ((63 : Int32) &&& 0x3f).toInt64.toUInt64).toInt64))), .second, .unset] [])
    refine Runs.back (fun t k => XS.lloadN X0.here hx rfl (hb hby at_54) rfl k) ?_
    show Runs _ _ _ _ s₁ (mkF m 55 #[.val (.long q0), .second, .val (.long q1), .second, .val (.long (q0 + q1)), .second, .val (.long (-9223372036854775808 : Int64)), .second, .val (.long (0 : Int64)), .second, .val (.long (((q0 >>> ((63 : Int32) &&& 0x3f).toInt64) + (q1 >>> ((63 : Int32) &&& 0x3f).toInt64)) + (0 : Int64))), .second, .val (.long ((((q0 >>> ((63 : Int32) &&& 0x3f).toInt64) + (q1 >>> ((63 : Int32) &&& 0x3f).toInt64)) + (0 : Int64)) + (((q0 + q1).toUInt64 >>> ((63 : Int32) &&& 0x3f).toInt64.toUInt64).toInt64))), .second, .unset] [(.long q0)])
    refine Runs.back (fun t k => XS.lloadN X0.here hx rfl (hb hby at_55) rfl k) ?_
    show Runs _ _ _ _ s₁ (mkF m 56 #[.val (.long q0), .second, .val (.long q1), .second, .val (.long (q0 + q1)), .second, .val (.long (-9223372036854775808 : Int64)), .second, .val (.long (0 : Int64)), .second, .val (.long (((q0 >>> ((63 : Int32) &&& 0x3f).toInt64) + (q1 >>> ((63 : Int32) &&& 0x3f).toInt64)) + (0 : Int64))), .second, .val (.long ((((q0 >>> ((63 : Int32) &&& 0x3f).toInt64) + (q1 >>> ((63 : Int32) &&& 0x3f).toInt64)) + (0 : Int64)) + (((q0 + q1).toUInt64 >>> ((63 : Int32) &&& 0x3f).toInt64.toUInt64).toInt64))), .second, .unset] [(.long q1), (.long q0)])
    refine Runs.back (fun t k => XS.lload X0.here hx rfl (hb hby at_56) rfl k) ?_
    show Runs _ _ _ _ s₁ (mkF m 58 #[.val (.long q0), .second, .val (.long q1), .second, .val (.long (q0 + q1)), .second, .val (.long (-9223372036854775808 : Int64)), .second, .val (.long (0 : Int64)), .second, .val (.long (((q0 >>> ((63 : Int32) &&& 0x3f).toInt64) + (q1 >>> ((63 : Int32) &&& 0x3f).toInt64)) + (0 : Int64))), .second, .val (.long ((((q0 >>> ((63 : Int32) &&& 0x3f).toInt64) + (q1 >>> ((63 : Int32) &&& 0x3f).toInt64)) + (0 : Int64)) + (((q0 + q1).toUInt64 >>> ((63 : Int32) &&& 0x3f).toInt64.toUInt64).toInt64))), .second, .unset] [(.long (q0 + q1)), (.long q1), (.long q0)])
    obtain ⟨_, _, ⟨T3, L3, k3, n3⟩, -, X3, ⟨Lc3, hQ3, l3, y3, z3⟩, st3⟩ := Jvm.LawKit.callS X0 hx (y := (⟨"com/example/lacuna/lacuna/LongSum", "wrapOf", "(JJJ)I"⟩ : MethodName)) hown (mvT hZ (hw _ (List.mem_of_getElem? (i := 1) rfl))) (mvT hZ (hw _ (List.mem_of_getElem? (i := 2) rfl))) (mvT hZ (hw _ (List.mem_of_getElem? (i := 3) rfl))) (mvT hZ (hw _ (List.mem_of_getElem? (i := 4) rfl))) (by decide) (backOf (W := 0) (rm1 l Z a0 hw [] q0 q1 (q0 + q1) h0 n0 (Z0)) hZ (hw _ (List.mem_of_getElem? (i := 4) rfl)) (hw _ (List.mem_of_getElem? (i := 3) rfl)) (by decide) (by decide)) (g := (mkF m 58 #[.val (.long q0), .second, .val (.long q1), .second, .val (.long (q0 + q1)), .second, .val (.long (-9223372036854775808 : Int64)), .second, .val (.long (0 : Int64)), .second, .val (.long (((q0 >>> ((63 : Int32) &&& 0x3f).toInt64) + (q1 >>> ((63 : Int32) &&& 0x3f).toInt64)) + (0 : Int64))), .second, .val (.long ((((q0 >>> ((63 : Int32) &&& 0x3f).toInt64) + (q1 >>> ((63 : Int32) &&& 0x3f).toInt64)) + (0 : Int64)) + (((q0 + q1).toUInt64 >>> ((63 : Int32) &&& 0x3f).toInt64.toUInt64).toInt64))), .second, .unset] [(.long (q0 + q1)), (.long q1), (.long q0)])) rfl (by rw [hml]; rfl) (argsL := [(.long q0), (.long q1), (.long (q0 + q1))]) (rest := []) (lenOf pd0_0 rfl) rfl (by show 2 * 0 + _ ≤ _; exact Nat.le_of_eq rfl) (hb hby at_58) (fun _ _ => ⟨rfl, e0, (by decide : 0 + 0 ≤ _), (by decide : 0 + 0 ≤ _)⟩)
    dsimp only [Pt.U, Pt.locs, Pt.cells, Pt.slots] at X3 l3 y3 z3 st3 hQ3
    subst l3 y3 z3
    obtain ⟨rfl, N3q, eq3⟩ := hQ3
    have N3 := Fr.app N0 N3q
    refine Runs.back st3 ?_
    show Runs _ _ _ _ T3 (mkF m 61 #[.val (.long q0), .second, .val (.long q1), .second, .val (.long (q0 + q1)), .second, .val (.long (-9223372036854775808 : Int64)), .second, .val (.long (0 : Int64)), .second, .val (.long (((q0 >>> ((63 : Int32) &&& 0x3f).toInt64) + (q1 >>> ((63 : Int32) &&& 0x3f).toInt64)) + (0 : Int64))), .second, .val (.long ((((q0 >>> ((63 : Int32) &&& 0x3f).toInt64) + (q1 >>> ((63 : Int32) &&& 0x3f).toInt64)) + (0 : Int64)) + (((q0 + q1).toUInt64 >>> ((63 : Int32) &&& 0x3f).toInt64.toUInt64).toInt64))), .second, .unset] [(.int (wrapF q0 q1 (q0 + q1)))])
    refine Runs.back (fun t k => XS.istore X3.here hx rfl (hb hby at_61) rfl (l' := #[.val (.long q0), .second, .val (.long q1), .second, .val (.long (q0 + q1)), .second, .val (.long (-9223372036854775808 : Int64)), .second, .val (.long (0 : Int64)), .second, .val (.long (((q0 >>> ((63 : Int32) &&& 0x3f).toInt64) + (q1 >>> ((63 : Int32) &&& 0x3f).toInt64)) + (0 : Int64))), .second, .val (.long ((((q0 >>> ((63 : Int32) &&& 0x3f).toInt64) + (q1 >>> ((63 : Int32) &&& 0x3f).toInt64)) + (0 : Int64)) + (((q0 + q1).toUInt64 >>> ((63 : Int32) &&& 0x3f).toInt64.toUInt64).toInt64))), .second, .val (.int (wrapF q0 q1 (q0 + q1)))]) rfl k) ?_
    show Runs _ _ _ _ T3 (mkF m 63 #[.val (.long q0), .second, .val (.long q1), .second, .val (.long (q0 + q1)), .second, .val (.long (-9223372036854775808 : Int64)), .second, .val (.long (0 : Int64)), .second, .val (.long (((q0 >>> ((63 : Int32) &&& 0x3f).toInt64) + (q1 >>> ((63 : Int32) &&& 0x3f).toInt64)) + (0 : Int64))), .second, .val (.long ((((q0 >>> ((63 : Int32) &&& 0x3f).toInt64) + (q1 >>> ((63 : Int32) &&& 0x3f).toInt64)) + (0 : Int64)) + (((q0 + q1).toUInt64 >>> ((63 : Int32) &&& 0x3f).toInt64.toUInt64).toInt64))), .second, .val (.int (wrapF q0 q1 (q0 + q1)))] [])
    refine Runs.back (fun t k => XS.iload X3.here hx rfl (hb hby at_63) rfl k) ?_
    show Runs _ _ _ _ T3 (mkF m 65 #[.val (.long q0), .second, .val (.long q1), .second, .val (.long (q0 + q1)), .second, .val (.long (-9223372036854775808 : Int64)), .second, .val (.long (0 : Int64)), .second, .val (.long (((q0 >>> ((63 : Int32) &&& 0x3f).toInt64) + (q1 >>> ((63 : Int32) &&& 0x3f).toInt64)) + (0 : Int64))), .second, .val (.long ((((q0 >>> ((63 : Int32) &&& 0x3f).toInt64) + (q1 >>> ((63 : Int32) &&& 0x3f).toInt64)) + (0 : Int64)) + (((q0 + q1).toUInt64 >>> ((63 : Int32) &&& 0x3f).toInt64.toUInt64).toInt64))), .second, .val (.int (wrapF q0 q1 (q0 + q1)))] [(.int (wrapF q0 q1 (q0 + q1)))])
    refine Runs.back (fun t k => XS.i2l X3.here hx rfl (hb hby at_65) rfl k) ?_
    show Runs _ _ _ _ T3 (mkF m 66 #[.val (.long q0), .second, .val (.long q1), .second, .val (.long (q0 + q1)), .second, .val (.long (-9223372036854775808 : Int64)), .second, .val (.long (0 : Int64)), .second, .val (.long (((q0 >>> ((63 : Int32) &&& 0x3f).toInt64) + (q1 >>> ((63 : Int32) &&& 0x3f).toInt64)) + (0 : Int64))), .second, .val (.long ((((q0 >>> ((63 : Int32) &&& 0x3f).toInt64) + (q1 >>> ((63 : Int32) &&& 0x3f).toInt64)) + (0 : Int64)) + (((q0 + q1).toUInt64 >>> ((63 : Int32) &&& 0x3f).toInt64.toUInt64).toInt64))), .second, .val (.int (wrapF q0 q1 (q0 + q1)))] [(.long ((wrapF q0 q1 (q0 + q1)).toInt64))])
    refine Runs.back (fun t k => XS.lload X3.here hx rfl (hb hby at_66) rfl k) ?_
    show Runs _ _ _ _ T3 (mkF m 68 #[.val (.long q0), .second, .val (.long q1), .second, .val (.long (q0 + q1)), .second, .val (.long (-9223372036854775808 : Int64)), .second, .val (.long (0 : Int64)), .second, .val (.long (((q0 >>> ((63 : Int32) &&& 0x3f).toInt64) + (q1 >>> ((63 : Int32) &&& 0x3f).toInt64)) + (0 : Int64))), .second, .val (.long ((((q0 >>> ((63 : Int32) &&& 0x3f).toInt64) + (q1 >>> ((63 : Int32) &&& 0x3f).toInt64)) + (0 : Int64)) + (((q0 + q1).toUInt64 >>> ((63 : Int32) &&& 0x3f).toInt64.toUInt64).toInt64))), .second, .val (.int (wrapF q0 q1 (q0 + q1)))] [(.long ((((q0 >>> ((63 : Int32) &&& 0x3f).toInt64) + (q1 >>> ((63 : Int32) &&& 0x3f).toInt64)) + (0 : Int64)) + (((q0 + q1).toUInt64 >>> ((63 : Int32) &&& 0x3f).toInt64.toUInt64).toInt64))), (.long ((wrapF q0 q1 (q0 + q1)).toInt64))])
    refine Runs.back (fun t k => XS.lcmp X3.here hx rfl (hb hby at_68) rfl k) ?_
    show Runs _ _ _ _ T3 (mkF m 69 #[.val (.long q0), .second, .val (.long q1), .second, .val (.long (q0 + q1)), .second, .val (.long (-9223372036854775808 : Int64)), .second, .val (.long (0 : Int64)), .second, .val (.long (((q0 >>> ((63 : Int32) &&& 0x3f).toInt64) + (q1 >>> ((63 : Int32) &&& 0x3f).toInt64)) + (0 : Int64))), .second, .val (.long ((((q0 >>> ((63 : Int32) &&& 0x3f).toInt64) + (q1 >>> ((63 : Int32) &&& 0x3f).toInt64)) + (0 : Int64)) + (((q0 + q1).toUInt64 >>> ((63 : Int32) &&& 0x3f).toInt64.toUInt64).toInt64))), .second, .val (.int (wrapF q0 q1 (q0 + q1)))] [(.int (lcmpW ((wrapF q0 q1 (q0 + q1)).toInt64) ((((q0 >>> ((63 : Int32) &&& 0x3f).toInt64) + (q1 >>> ((63 : Int32) &&& 0x3f).toInt64)) + (0 : Int64)) + (((q0 + q1).toUInt64 >>> ((63 : Int32) &&& 0x3f).toInt64.toUInt64).toInt64))))])
    refine Runs.back (fun t k => XS.ifNo X3.here hx rfl (hb hby at_69) rfl ((if0 _ _).trans (teq (lcE (show ((wrapF q0 q1 (q0 + q1)).toInt64) = ((((q0 >>> ((63 : Int32) &&& 0x3f).toInt64) + (q1 >>> ((63 : Int32) &&& 0x3f).toInt64)) + (0 : Int64)) + (((q0 + q1).toUInt64 >>> ((63 : Int32) &&& 0x3f).toInt64.toUInt64).toInt64)) from (wrap_law q0 q1 _ (if_neg c20_1).symm)))).2) k) ?_
    show Runs _ _ _ _ T3 (mkF m 72 #[.val (.long q0), .second, .val (.long q1), .second, .val (.long (q0 + q1)), .second, .val (.long (-9223372036854775808 : Int64)), .second, .val (.long (0 : Int64)), .second, .val (.long (((q0 >>> ((63 : Int32) &&& 0x3f).toInt64) + (q1 >>> ((63 : Int32) &&& 0x3f).toInt64)) + (0 : Int64))), .second, .val (.long ((((q0 >>> ((63 : Int32) &&& 0x3f).toInt64) + (q1 >>> ((63 : Int32) &&& 0x3f).toInt64)) + (0 : Int64)) + (((q0 + q1).toUInt64 >>> ((63 : Int32) &&& 0x3f).toInt64.toUInt64).toInt64))), .second, .val (.int (wrapF q0 q1 (q0 + q1)))] [])
    refine Runs.back (fun t k => XS.iconst X3.here hx rfl (hb hby at_72) k) ?_
    show Runs _ _ _ _ T3 (mkF m 73 #[.val (.long q0), .second, .val (.long q1), .second, .val (.long (q0 + q1)), .second, .val (.long (-9223372036854775808 : Int64)), .second, .val (.long (0 : Int64)), .second, .val (.long (((q0 >>> ((63 : Int32) &&& 0x3f).toInt64) + (q1 >>> ((63 : Int32) &&& 0x3f).toInt64)) + (0 : Int64))), .second, .val (.long ((((q0 >>> ((63 : Int32) &&& 0x3f).toInt64) + (q1 >>> ((63 : Int32) &&& 0x3f).toInt64)) + (0 : Int64)) + (((q0 + q1).toUInt64 >>> ((63 : Int32) &&& 0x3f).toInt64.toUInt64).toInt64))), .second, .val (.int (wrapF q0 q1 (q0 + q1)))] [(.int (1 : Int32))])
    refine Runs.back (fun t k => XS.goto X3.here hx rfl (pc0 := 73) (pc' := 77) rfl (hb hby at_73) (by decide) (by decide) k) ?_
    show Runs _ _ _ _ T3 (mkF m 77 #[.val (.long q0), .second, .val (.long q1), .second, .val (.long (q0 + q1)), .second, .val (.long (-9223372036854775808 : Int64)), .second, .val (.long (0 : Int64)), .second, .val (.long (((q0 >>> ((63 : Int32) &&& 0x3f).toInt64) + (q1 >>> ((63 : Int32) &&& 0x3f).toInt64)) + (0 : Int64))), .second, .val (.long ((((q0 >>> ((63 : Int32) &&& 0x3f).toInt64) + (q1 >>> ((63 : Int32) &&& 0x3f).toInt64)) + (0 : Int64)) + (((q0 + q1).toUInt64 >>> ((63 : Int32) &&& 0x3f).toInt64.toUInt64).toInt64))), .second, .val (.int (wrapF q0 q1 (q0 + q1)))] [(.int (1 : Int32))])
    obtain ⟨fs, hr, hrun, hended, hW, hsame⟩ := X3.leave (v := some (.int (1 : Int32))) (fun h => by rw [Bd.returns] at h; cases h)
    exact ⟨_, _, (retN X3 hx (t := .boolean) Bd.returns (by simp) (hb hby at_77) hr), hrun, hended, _, _, rfl, ⟨rfl, N3⟩, ⟨_, rfl⟩, hW, hsame.mono (by decide) (by decide)⟩
set_option maxRecDepth 65536 in
set_option maxHeartbeats 40000000 in
theorem comes_1 {Post : Tables → Env → Array Value → State → Outcome → State → Prop} (hpost : ∀ tb e args s v u, (limb_1_1.after args s (.returned v) u = true ∧ limb_1_2.after args s (.returned v) u = true ∧ True) → FrameEnd s (.returned v) u (Jvm.fieldLocs frame_1_writes args s ++ Jvm.arrayLocs frame_1_arrays args s ++ Jvm.staticLocs frame_1_statics s) 0 0 → Post tb e args s (.returned v) u) :
    ArmFor flags0 classFile x code maxLocals ret World_1 tables_1 room_1 Calls_1 rest_1 Pre_1 Post := by
  intro l hfl _ _ p e ha hc hk s m args below hf hA hF happ hP
  obtain ⟨hcalls, hrest, hpre⟩ := hP
  obtain ⟨-, -, -, hnamed, -, -, -, hat⟩ := (Spec.applies_iff hf).mp happ
  obtain ⟨hg, hn⟩ := and_e (Cond.before_iff.mp (show (Jvm.Cond.and given_1 narrow_1).before args s = true from hpre))
  obtain ⟨g0, gr0⟩ := and_e hg
  obtain ⟨g1, gr1⟩ := and_e gr0
  obtain ⟨w0, w1, rfl⟩ : ∃ w0 w1 : Value, args = #[w0, w1] := by
    have hs : args.size = 2 := by simpa [Cond.value, given_1] using g0
    obtain ⟨L⟩ := args
    match L, hs with
    | [w0, w1], _ => exact ⟨w0, w1, rfl⟩
  have hw := fun d (hd : d ∈ tables_1) => atoms_spec (ws := Jvm.Cond.code x code maxLocals ret :: tables_1) hat d (List.mem_cons_of_mem _ hd)
  obtain ⟨i0, ei0⟩ := isL_v g1
  obtain rfl : w0 = (.long i0) := Option.some.inj ei0
  obtain ⟨i1, ei1⟩ := isL_v gr1
  obtain rfl : w1 = (.long i1) := Option.some.inj ei1
  obtain ⟨n, o, h1, h2, h3, _, L, rfl, ⟨rfl, N⟩, hq⟩ := rm0 l s _ hw tables_1 i0 i1 s.heap s.heap.size (Nat.le_refl _) p e ha hc hk s m _ below hf ((Spec.applies_iff_loose hf).mp happ).1 ⟨rfl, State.Warmed39.refl s, rfl⟩ trivial
  refine ⟨n, _, h1, h2, h3, hpost _ _ _ _ _ _ ⟨Cond.after_iff.mpr rfl, Cond.after_iff.mpr (eq_i res_at (Term.int_eval (1)) rfl), trivial⟩ ⟨hq.1, hq.2.1, (hq.2.2.sift fun y hy => Or.inr (N y hy)).mono (by decide) (by decide)⟩⟩
theorem main_1_1 : Claimed_1_1 := comes_1 fun _ _ _ _ _ _ h hF => ⟨h.1, hF⟩
theorem main_1_2 : Claimed_1_2 := comes_1 fun _ _ _ _ _ _ h hF => ⟨h.2.1, hF⟩
end Jvm.Pilot.@@N@@
namespace Jvm.Pilot.@@N@@
open Jvm Jvm.ClassFile Sem Op Lib Jvm.Free Jvm.Stand Jvm.Pilot.@@N@@.Jvm.D
/-! MADE BY PROGRAM (witnessworld.py) out of the Statement's table words and the real class files: 9 classes; the members and pool entries that the words name. The judged class is class 1, her method 1. -/
namespace start1
open Jvm.ClassFile
def u (s : String) : CpInfo := .utf8 (stringToUtf16 s)
/-- a pool by its gaps: so many unusable entries, then the entry; so many at the end -/
def gap : Nat → List CpInfo → List CpInfo
  | 0, r => r
  | n + 1, r => .unusable :: gap n r
def poolList (es : List (Nat × CpInfo)) (last : Nat) : List CpInfo := es.foldr (fun e r => gap e.1 (e.2 :: r)) (gap last [])
def pool (es : List (Nat × CpInfo)) (last : Nat) : Array CpInfo := ⟨poolList es last⟩
def fileOf (pool : Array CpInfo) (this : Nat) (attrs : Array Attribute := #[]) (ms : Array MethodInfo := #[]) (fl : Nat := 33) (sup : Nat := 0) (ifs : Array Nat := #[]) (fds : Array FieldInfo := #[]) : ClassFile where
  minorVersion := 0
  majorVersion := 65
  constantPool := pool
  accessFlags := fl
  thisClass := this
  superClass := sup
  interfaces := ifs
  fields := fds
  methods := ms
  attributes := attrs
def plain (name : String) (sup : Option ClassId) : Class where
  name := name
  kind := .ordinary
  loader := none
  accessFlags := 33
  super := sup
  interfaces := #[]
  cf := none
  fields := #[]
  methods := #[]
  instanceTypes := #[]
  staticTypes := #[]
  resolved := #[]
  callSites := []
  init := .initialized
  statics := none
  mirror := none

def pool0 : Array CpInfo := pool [(5, u "<init>"), (0, u "()V"), (1, .class_ 10), (1, u "java/lang/Object")] 113

def k0m0 : Method := { name := "<init>", desc := "()V", sig := { parameters := [], returnType := none }, accessFlags := 1, code := none }
/-- java/lang/Object -/
def k0 : Class := { plain "java/lang/Object" none with
  accessFlags := 33
  interfaces := #[]
  cf := some (fileOf pool0 8 #[] #[{ accessFlags := 1, nameIndex := 5, descriptorIndex := 6, attributes := #[] }] 33 0 #[] #[])
  fields := #[]
  methods := #[k0m0]
  instanceTypes := #[]
  staticTypes := #[]
  resolved := Array.replicate 124 none
  statics := none }

def pool1 : Array CpInfo := pool [(2, .class_ 4), (1, u "java/lang/Object"), (0, u "<init>"), (0, u "()V"), (0, .long 9223372036854775808), (1, .methodref 10 11), (0, .class_ 12), (0, .nameAndType 13 14), (0, u "com/example/lacuna/lacuna/LongSum"), (0, u "wrapOf"), (0, u "(JJJ)I"), (0, .class_ 16), (0, u "com/example/lacuna/lacuna/LongSumWrapOfPinLaw"), (2, u "law"), (0, u "(JJ)Z")] 3

def k1m0 : Method := { name := "<init>", desc := "()V", sig := { parameters := [], returnType := none }, accessFlags := 1, code := none }
def k1c1 : Code := { maxStack := 6, maxLocals := 15, code := code, exceptionTable := #[], attributes := #[] }
def k1m1 : Method := { name := "law", desc := "(JJ)Z", sig := { parameters := [.long, .long], returnType := some .boolean }, accessFlags := 9, code := some k1c1 }
/-- com/example/lacuna/lacuna/LongSumWrapOfPinLaw -/
def k1 : Class := { plain "com/example/lacuna/lacuna/LongSumWrapOfPinLaw" (some 0) with
  accessFlags := 49
  interfaces := #[]
  cf := some (fileOf pool1 15 #[] #[{ accessFlags := 1, nameIndex := 5, descriptorIndex := 6, attributes := #[] }, { accessFlags := 9, nameIndex := 19, descriptorIndex := 20, attributes := #[] }] 49 2 #[] #[])
  fields := #[]
  methods := #[k1m0, k1m1]
  instanceTypes := #[]
  staticTypes := #[]
  resolved := Array.replicate 24 none
  statics := none }

def pool2 : Array CpInfo := pool [(2, .class_ 4), (1, u "java/lang/Object"), (0, u "<init>"), (0, u "()V"), (1, .class_ 10), (1, u "com/example/lacuna/lacuna/LongSum"), (0, u "low"), (0, u "J"), (2, u "high"), (2, u "wraps"), (2, u "wrapOf"), (0, u "(JJJ)I")] 71

def k2m0 : Method := { name := "<init>", desc := "()V", sig := { parameters := [], returnType := none }, accessFlags := 0, code := none }
def k2c1 : Code := { maxStack := 6, maxLocals := 6, code := prog_78_method_6_code, exceptionTable := #[], attributes := #[] }
def k2m1 : Method := { name := "wrapOf", desc := "(JJJ)I", sig := { parameters := [.long, .long, .long], returnType := some .int }, accessFlags := 8, code := some k2c1 }
/-- com/example/lacuna/lacuna/LongSum -/
def k2 : Class := { plain "com/example/lacuna/lacuna/LongSum" (some 0) with
  accessFlags := 48
  interfaces := #[]
  cf := some (fileOf pool2 8 #[] #[{ accessFlags := 0, nameIndex := 5, descriptorIndex := 6, attributes := #[] }, { accessFlags := 8, nameIndex := 21, descriptorIndex := 22, attributes := #[] }] 48 2 #[] #[{ accessFlags := 2, nameIndex := 11, descriptorIndex := 12, attributes := #[] }, { accessFlags := 2, nameIndex := 15, descriptorIndex := 12, attributes := #[] }, { accessFlags := 2, nameIndex := 18, descriptorIndex := 12, attributes := #[] }])
  fields := #[{ name := "low", type := .long, accessFlags := 2, slot := 0, constantValue := 0 }, { name := "high", type := .long, accessFlags := 2, slot := 1, constantValue := 0 }, { name := "wraps", type := .long, accessFlags := 2, slot := 2, constantValue := 0 }]
  methods := #[k2m0, k2m1]
  instanceTypes := #[.long, .long, .long]
  staticTypes := #[]
  resolved := Array.replicate 94 none
  statics := none }

def pool3 : Array CpInfo := pool [(1, u "java/lang/Cloneable"), (0, .class_ 1), (0, u "java/lang/Object"), (0, .class_ 3)] 3

/-- java/lang/Cloneable -/
def k3 : Class := { plain "java/lang/Cloneable" (some 0) with
  accessFlags := 1537
  interfaces := #[]
  cf := some (fileOf pool3 2 #[] #[] 1537 4 #[] #[])
  fields := #[]
  methods := #[]
  instanceTypes := #[]
  staticTypes := #[]
  resolved := Array.replicate 8 none
  statics := none }

def pool4 : Array CpInfo := pool [(1, u "java/io/Serializable"), (0, .class_ 1), (0, u "java/lang/Object"), (0, .class_ 3)] 3

/-- java/io/Serializable -/
def k4 : Class := { plain "java/io/Serializable" (some 0) with
  accessFlags := 1537
  interfaces := #[]
  cf := some (fileOf pool4 2 #[] #[] 1537 4 #[] #[])
  fields := #[]
  methods := #[]
  instanceTypes := #[]
  staticTypes := #[]
  resolved := Array.replicate 8 none
  statics := none }

/-- the primitive byte -/
def k5 : Class := { plain "byte" none with kind := .primitive 'B', accessFlags := 0x411 }
/-- [B -/
def k6 : Class := { plain "[B" (some 0) with kind := .array 5 .byte, interfaces := #[3, 4], accessFlags := 1041 }

/-- the primitive int -/
def k7 : Class := { plain "int" none with kind := .primitive 'I', accessFlags := 0x411 }
/-- [I -/
def k8 : Class := { plain "[I" (some 0) with kind := .array 7 .int, interfaces := #[3, 4], accessFlags := 1041 }

def heap : Heap := #[]
def classes : Array Class := #[k0, k1, k2, k3, k4, k5, k6, k7, k8]
def interned : List (Array UInt16 × Addr) := []
def slotsUsed : Nat := 0
def theMethod : MethodId := ⟨1, 1⟩
def args0 : Array Value := #[.long 5, .long 7]
def aboutOver (below : List Frame) : State where
  vm := { classes := classes, interned := interned.toArray }
  heap := heap
  slotsUsed := slotsUsed
  threads := #[{ frames := .invoking theMethod args0 :: below }]
def below0 : List Frame := [.native { method := ⟨0, 0⟩, args := #[] }]
def about1 : State := aboutOver below0
def p0 : Program := .bare "" "" ""
def e0 : Env := launch0.env 0 0 0
theorem w_frames : about1.frames = Frame.invoking theMethod args0 :: below0 := rfl
set_option maxRecDepth 65536 in
theorem w_args : argsFit about1.vm theMethod args0 = true := by decide +kernel
set_option maxRecDepth 65536 in
theorem w_heap : heapFits about1 = true := by decide +kernel
set_option maxRecDepth 65536 in
theorem w_runnable : about1.curStatus? = some .runnable := by decide +kernel
set_option maxRecDepth 65536 in
theorem w_alone : about1.alone = true := by decide +kernel
set_option maxRecDepth 65536 in
theorem w_named : about1.methodNamed? x = some theMethod := by decide +kernel
set_option maxRecDepth 65536 in
theorem w_hears : about1.hears theMethod below0 = true := by decide +kernel
set_option maxRecDepth 65536 in
theorem w_ripe : about1.ripe theMethod args0 below0 = true := by decide +kernel
theorem w_running : about1.status = .running := rfl
set_option maxRecDepth 65536 in
theorem w_room : about1.hasRoom e0.platform room_1 = true :=
  launch0.hasRoom_least _ room_1 (by decide +kernel) (by decide +kernel) (by decide +kernel) (by decide +kernel) (by decide +kernel) (by decide +kernel)
theorem allAtoms_all (ts : List Jvm.Cond) (a : Array Jvm.Value) (st : Jvm.State) : (allAtoms ts).before a st = ts.all (fun c => c.before a st) := by
  induction ts with
  | nil => rfl
  | cons c t ih =>
    show (Jvm.Cond.and c (allAtoms t)).before a st = _
    rw [Jvm.Cond.before_and, ih, List.all_cons]
def words1 : List Jvm.Cond := Jvm.Cond.code x code maxLocals ret :: tables_1
/-- a 'code' word, met by the world's own term for the bytes: nothing is compared byte by byte -/
theorem code_word {y : MethodName} {bytes : ByteArray} {mx : Nat} {rt : Option FieldType} {a : Array Value} {s : State} {m : MethodId} {meth : Method} {c : Code} (h1 : s.methodNamed? y = some m) (h2 : s.vm.method? m = some meth) (h3 : meth.code = some c) (h4 : c.code = bytes)
    (h5 : (c.maxLocals == mx && c.exceptionTable.isEmpty && decide (c.maxStack ≤ mostOperands) && decide (meth.sig.returnType = rt) && !meth.locks && decide (parseMethodDescriptor y.desc = some meth.sig)) = true) : (Jvm.Cond.code y bytes mx rt).before a s = true := by
  simp only [Bool.and_eq_true, beq_iff_eq, Bool.not_eq_true', decide_eq_true_eq] at h5
  obtain ⟨⟨⟨⟨⟨g1, g2⟩, g3⟩, g4⟩, g5⟩, g6⟩ := h5
  simp [Cond.before, Cond.holds, Cond.value, h1, h2, h3, h4, g1, g2, g3, g4, g5, g6]
def isCode : Jvm.Cond → Bool
  | .code _ _ _ _ => true
  | _ => false
theorem all_split {L : List Jvm.Cond} {P : Jvm.Cond → Bool} (h1 : L.all (fun c => isCode c || P c) = true) (h2 : ∀ c ∈ L.filter isCode, P c = true) : L.all P = true := by
  refine List.all_eq_true.mpr fun c hc => ?_
  have h := List.all_eq_true.mp h1 c hc
  rcases Bool.eq_false_or_eq_true (isCode c) with hi | hi
  · exact h2 c (List.mem_filter.mpr ⟨hc, hi⟩)
  · simpa [hi] using h
set_option maxRecDepth 65536 in
theorem w_c0 : (Jvm.Cond.code x code maxLocals ret).before args0 about1 = true := code_word (m := ⟨1, 1⟩) (meth := k1m1) (c := k1c1) (by decide +kernel) rfl rfl rfl (by decide +kernel)
set_option maxRecDepth 65536 in
theorem w_c1 : (Jvm.Cond.code ({ cls := "com/example/lacuna/lacuna/LongSum", name := "wrapOf", desc := "(JJJ)I" } : Jvm.MethodName) prog_78_method_6_code (6 : Nat) (Option.some Jvm.ClassFile.FieldType.int)).before args0 about1 = true := code_word (m := ⟨2, 1⟩) (meth := k2m1) (c := k2c1) (by decide +kernel) rfl rfl rfl (by decide +kernel)
def codes1 : List Jvm.Cond := [Jvm.Cond.code x code maxLocals ret, Jvm.Cond.code ({ cls := "com/example/lacuna/lacuna/LongSum", name := "wrapOf", desc := "(JJJ)I" } : Jvm.MethodName) prog_78_method_6_code (6 : Nat) (Option.some Jvm.ClassFile.FieldType.int)]
set_option maxRecDepth 65536 in
theorem codes_eq : words1.filter isCode = codes1 := rfl
theorem w_codes : ∀ c ∈ words1.filter isCode, c.before args0 about1 = true := by
  rw [codes_eq]
  intro c hc
  simp only [codes1, List.mem_cons, List.not_mem_nil, or_false] at hc
  rcases hc with rfl | rfl
  · exact w_c0
  · exact w_c1
set_option maxRecDepth 65536 in
theorem w_t1 : words1.all (fun c => isCode c || c.before args0 about1) = true := by decide +kernel
theorem w_tables : (allAtoms (Jvm.Cond.code x code maxLocals ret :: tables_1)).before args0 about1 = true := by
  rw [allAtoms_all]
  show words1.all (fun c => c.before args0 about1) = true
  refine all_split ?_ w_codes
  rw [w_t1]
set_option maxRecDepth 65536 in
theorem w_case : (Jvm.Cond.and given_1 narrow_1).before args0 about1 = true := by decide +kernel
theorem w_applies : (headSpec (Jvm.Cond.code x code maxLocals ret :: tables_1) room_1).applies x e0.platform about1 = true :=
  (Spec.applies_iff w_frames).mpr ⟨w_running, w_runnable, w_alone, w_named, w_hears, w_ripe, w_room, w_tables⟩
theorem atStart : AtStart classFile x code maxLocals ret World_1 tables_1 room_1 Calls_1 rest_1 Pre_1 launch0 p0 e0 about1 theMethod args0 below0 :=
  ⟨lists_1, trivial, launch0.admits_env _ _ _, launch0.least_env, fairChoices_fair.cas, fairChoices_fair.clock, w_frames, w_args, w_heap, w_applies, trivial, trivial, w_case⟩
end start1
theorem witness_1 : WitnessClaimed_1 := ⟨start1.p0, start1.e0, start1.about1, start1.theMethod, start1.args0, start1.below0, start1.atStart⟩
end Jvm.Pilot.@@N@@
