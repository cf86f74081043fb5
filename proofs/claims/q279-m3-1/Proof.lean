import JvmDerived
import JvmDerived.Pilot.@@N@@Statement
import JvmDerived.Pilot.@@N@@Code
set_option linter.unusedVariables false
set_option linter.unusedSimpArgs false
namespace Jvm.RoadKit
open Sem ClassFile Op Lib Jvm.Stand Jvm.Free Jvm.LawKit
section New
variable {p : Program} {l : Launch} {e : Env} {R : Room} {s : State} {m : MethodId} {args : Array Value} {below : List Frame} {meth : Method} {c : Code} {T : State} {locs : List Loc} {cells slots : Nat}
theorem retI (X : Stand p l e R s m args below meth c T locs cells slots) (hx : p.tables.exec = Jvm.exec) {pc : Nat} {Ls : Array Slot} {z : Int32} {rest : List Value} (hret : meth.sig.returnType = some .int) (hd : decode c.code pc = .ok (.ireturn, 1)) {fs : List Frame}
    (hl : ∀ (f : JFrame) (acts : List Action), f.method = m → f.locked = none → f.entered = [] → (doReturn e (T.setTop f) acts (some (.int z))).1 = T.setFrames fs) : Steps p.tables e below (T.setTop (mkF m pc Ls (.int z :: rest))) (T.setFrames fs) := by
  have hm' : T.vm.method? m = some meth := X.method'
  have hn : narrow .int (.int z) = .int z := rfl
  show Steps p.tables e below (T.setTop { method := m, pc := pc, locals := Ls, stack := _ :: rest, locked := none }) _
  jvm_step X.here [X.here.top, hx, hd, hm', hret, hn]
  first | (intro acts; rw [hl _ acts rfl rfl rfl]) | rw [hl _ _ rfl rfl rfl]
  exact Steps.refl _
/-- the run from G on comes to an end that Q speaks of -/
def Go (p : Program) (e : Env) (below : List Frame) (s : State) (Q : Option Value → Heap → List Loc → Prop) (ck sk : Nat) (G : State) : Prop :=
  ∃ s₂ o, Steps p.tables e below G s₂ ∧ s₂.status = .running ∧ Ended s₂ below o ∧ ∃ v L, o = .returned v ∧ Q v s₂.heap L ∧ FrameEnd s o s₂ L ck sk
theorem Go.of {Q : Option Value → Heap → List Loc → Prop} {ck sk : Nat} {G G' : State} (h : ∀ t, Steps p.tables e below G' t → Steps p.tables e below G t) (k : Go p e below s Q ck sk G') : Go p e below s Q ck sk G := by
  obtain ⟨s₂, o, h1, r⟩ := k
  exact ⟨s₂, o, h _ h1, r⟩
theorem Go.ret (X : Stand p l e R s m args below meth c T locs cells slots) {Q : Option Value → Heap → List Loc → Prop} {ck sk : Nat} {G : State} (v : Option Value) (hv : meth.sig.returnType = none → v = none) (hlk : meth.locks = false) (hq : Q v T.heap locs) (hc : cells ≤ ck) (hs : slots ≤ sk)
    (st : ∀ fs, (∀ (f : JFrame) (acts : List Action), f.method = m → f.locked = none → f.entered = [] → (doReturn e (T.setTop f) acts v).1 = T.setFrames fs) → Steps p.tables e below G (T.setFrames fs)) : Go p e below s Q ck sk G := by
  obtain ⟨fs, hr, hrun, hended, hW, hsame⟩ := X.leave hv hlk
  exact ⟨_, _, st fs hr, hrun, hended, v, locs, rfl, hq, ⟨_, rfl⟩, hW, hsame.mono hc hs⟩
/-- what it returns, that it wrote nothing old, and that the heap is as it was -/
def QP (val : Option Value) (h0 : Heap) (n0 : Nat) (v : Option Value) (h : Heap) (L : List Loc) : Prop := v = val ∧ Fr n0 L ∧ h = h0
/-- what it returns, and that it wrote nothing old -/
def QL (val : Option Value) (n0 : Nat) (v : Option Value) (h : Heap) (L : List Loc) : Prop := v = val ∧ Fr n0 L
theorem lremM {g : JFrame} {target : State} (X : Stand p l e R s m args below meth c T locs cells slots) (hx : p.tables.exec = Jvm.exec) (hg : g.method = m) {x y : Int64} {rest : List Value} (hd : decode c.code g.pc = .ok (.lrem, 1)) (hs : g.stack = .long y :: .long x :: rest) (hy : y ≠ 0)
    (hr : Steps p.tables e below (T.setTop { g with pc := g.pc + 1, stack := .long (x % y) :: rest }) target) : Steps p.tables e below (T.setTop g) target := by
  have q : x - x / y * y = x % y := lrem_mod x y
  exact XS.lrem X.here hx hg hd hs hy (by rw [q]; exact hr)
end New
end Jvm.RoadKit
namespace Jvm.Pilot.@@N@@
open Jvm Jvm.ClassFile Sem Op Lib Jvm.Free Jvm.Stand Jvm.LawKit Jvm.RoadKit Bundle Jvm.Pilot.@@N@@.Jvm.D
theorem own_nz (x : Int64) : (x &&& (9223372036854775807 : Int64)) + (1 : Int64) ≠ 0 := fun h => by
  have m := c_maskL x 9223372036854775807 63 (by decide) (by decide)
  have s := c_ladd (x &&& 9223372036854775807) 1
  rw [h] at s
  have e1 : (1 : Int64).toInt = 1 := by decide
  have e0 : (0 : Int64).toInt = 0 := by decide
  omega
theorem d1_0 : decode jdk_29_method_70_code 0 = .ok (.lload_n 0, 1) := by decide +kernel
theorem d1_1 : decode jdk_29_method_70_code 1 = .ok (.lload_n 2, 1) := by decide +kernel
theorem d1_2 : decode jdk_29_method_70_code 2 = .ok (.lcmp, 1) := by decide +kernel
theorem d1_3 : decode jdk_29_method_70_code 3 = .ok (.ifCond .gt 7, 3) := by decide +kernel
theorem d1_6 : decode jdk_29_method_70_code 6 = .ok (.lload_n 0, 1) := by decide +kernel
theorem d1_7 : decode jdk_29_method_70_code 7 = .ok (.goto 4, 3) := by decide +kernel
theorem d1_10 : decode jdk_29_method_70_code 10 = .ok (.lload_n 2, 1) := by decide +kernel
theorem d1_11 : decode jdk_29_method_70_code 11 = .ok (.lreturn, 1) := by decide +kernel
theorem ef_1 (m : MethodId) (q0 : Int64) (q1 : Int64) : entryFrame m #[(.long q0), (.long q1)] 4 = mkF m 0 #[.val (.long q0), .second, .val (.long q1), .second] [] := by first | (simp [entryFrame, mkF, argsToLocals, Value.category]; done) | rfl
def F1 (q0 : Int64) (q1 : Int64) : Int64 := (if q1 < q0 then q1 else q0)
set_option maxRecDepth 65536 in
set_option maxHeartbeats 40000000 in
theorem rm1 (l : Launch) (Z : State) (az : Array Value) (hw : ∀ d ∈ tables_1, d.before az Z = true) (ws : List Jvm.Cond) (q0 : Int64) (q1 : Int64)  (h0 : Heap) (n0 : Nat) (Z0 : n0 ≤ h0.size) :
    MetFree l (⟨"java/lang/Math", "min", "(JJ)J"⟩ : MethodName) (head1 (Jvm.Cond.code (⟨"java/lang/Math", "min", "(JJ)J"⟩ : MethodName) jdk_29_method_70_code 4 (some .long) :: ws) ({ frames := 0, cells := 0, slots := 0, locals := 0 } : Room)) (fun a U => a = #[(.long q0), (.long q1)] ∧ Z.Warmed39 U.vm ∧ U.heap = h0) (fun _ _ _ _ _ => True) (fun _ U o U' => ∃ v L, o = .returned v ∧ (QP (some (.long (F1 q0 q1))) h0 n0) v U'.heap L ∧ FrameEnd U o U' L ({ frames := 0, cells := 0, slots := 0, locals := 0 } : Room).cells ({ frames := 0, cells := 0, slots := 0, locals := 0 } : Room).slots) := by
  refine MetFree.of_bodySF (Jvm.Free.JP.mathPlain rfl (by decide +kernel)) hisR ?_
  intro p e s m args below meth c s₁ Bd hml0 hP hK
  obtain ⟨rfl, hZ, hh⟩ := hP
  have hx := Bd.exec
  have hby := Bd.bytes
  have hml : c.maxLocals = 4 := hml0
  have hown : s.vm.findClass "java/lang/Math" = some m.cls := findClass_of_methodNamed Bd.named
  have hnm := (name_of_methodNamed Bd.named Bd.method).1
  have hlk : meth.locks = false := BodyLoose.notSynchronized Bd
  have X0 : Stand p l e ({ frames := 0, cells := 0, slots := 0, locals := 0 } : Room) s m #[(.long q0), (.long q1)] below meth c s₁ [] 0 0 := Stand.of_body Bd
  have e0 : s₁.heap = h0 := by rw [← hh, Bd.state]; rfl
  have N0 := Fr.nil n0
  show Go p e below s (QP (some (.long (F1 q0 q1))) h0 n0) ({ frames := 0, cells := 0, slots := 0, locals := 0 } : Room).cells ({ frames := 0, cells := 0, slots := 0, locals := 0 } : Room).slots (s₁.setTop (entryFrame m #[(.long q0), (.long q1)] 4))
  refine Go.of (fun t k => castTop (ef_1 m q0 q1) k) ?_
  show Go p e below s _ _ _ (s₁.setTop (mkF m 0 #[.val (.long q0), .second, .val (.long q1), .second] []))
  unfold F1
  refine Go.of (fun t k => XS.lloadN X0.here hx rfl (hb hby d1_0) rfl k) ?_
  show Go p e below s _ _ _ (s₁.setTop (mkF m 1 #[.val (.long q0), .second, .val (.long q1), .second] [(.long q0)]))
  refine Go.of (fun t k => XS.lloadN X0.here hx rfl (hb hby d1_1) rfl k) ?_
  show Go p e below s _ _ _ (s₁.setTop (mkF m 2 #[.val (.long q0), .second, .val (.long q1), .second] [(.long q1), (.long q0)]))
  refine Go.of (fun t k => XS.lcmp X0.here hx rfl (hb hby d1_2) rfl k) ?_
  show Go p e below s _ _ _ (s₁.setTop (mkF m 3 #[.val (.long q0), .second, .val (.long q1), .second] [(.int (lcmpW q0 q1))]))
  by_cases hc3_1 : q1 < q0
  · rewrite [if_pos hc3_1]
    refine Go.of (fun t k => XS.ifYes X0.here hx rfl (pc0 := 3) (pc' := 10) rfl (hb hby d1_3) rfl ((if0 _ _).trans (tlt ((lw_gt q0 q1).mpr hc3_1)).2.2.1) (by decide) (by decide) k) ?_
    show Go p e below s _ _ _ (s₁.setTop (mkF m 10 #[.val (.long q0), .second, .val (.long q1), .second] []))
    refine Go.of (fun t k => XS.lloadN X0.here hx rfl (hb hby d1_10) rfl k) ?_
    show Go p e below s _ _ _ (s₁.setTop (mkF m 11 #[.val (.long q0), .second, .val (.long q1), .second] [(.long q1)]))
    exact Go.ret X0 (some (.long q1)) (fun h => by rw [Bd.returns] at h; cases h) hlk ⟨rfl, N0, e0⟩ (by decide) (by decide) (fun fs hr => (retOut X0 hx Bd.returns rfl (Or.inr (Or.inl ⟨rfl, rfl, _, rfl⟩)) (hb hby d1_11) hr))
  · rewrite [if_neg hc3_1]
    refine Go.of (fun t k => XS.ifNo X0.here hx rfl (hb hby d1_3) rfl ((if0 _ _).trans (flt (mt (lw_gt q0 q1).mp hc3_1)).2.2.1) k) ?_
    show Go p e below s _ _ _ (s₁.setTop (mkF m 6 #[.val (.long q0), .second, .val (.long q1), .second] []))
    refine Go.of (fun t k => XS.lloadN X0.here hx rfl (hb hby d1_6) rfl k) ?_
    show Go p e below s _ _ _ (s₁.setTop (mkF m 7 #[.val (.long q0), .second, .val (.long q1), .second] [(.long q0)]))
    refine Go.of (fun t k => XS.goto X0.here hx rfl (pc0 := 7) (pc' := 11) rfl (hb hby d1_7) (by decide) (by decide) k) ?_
    show Go p e below s _ _ _ (s₁.setTop (mkF m 11 #[.val (.long q0), .second, .val (.long q1), .second] [(.long q0)]))
    exact Go.ret X0 (some (.long q0)) (fun h => by rw [Bd.returns] at h; cases h) hlk ⟨rfl, N0, e0⟩ (by decide) (by decide) (fun fs hr => (retOut X0 hx Bd.returns rfl (Or.inr (Or.inl ⟨rfl, rfl, _, rfl⟩)) (hb hby d1_11) hr))
theorem own_pn0 : plainName "com/example/prorata/prorata/PlanSearch" = true := by first | (simp [plainName, overriddenIn]; done) | decide +kernel
theorem d2_0 : decode prog_41_method_6_code 0 = .ok (.lload_n 2, 1) := by decide +kernel
theorem d2_1 : decode prog_41_method_6_code 1 = .ok (.lload 4, 2) := by decide +kernel
theorem d2_3 : decode prog_41_method_6_code 3 = .ok (.lload_n 0, 1) := by decide +kernel
theorem d2_4 : decode prog_41_method_6_code 4 = .ok (.lsub, 1) := by decide +kernel
theorem d2_5 : decode prog_41_method_6_code 5 = .ok (.lcmp, 1) := by decide +kernel
theorem d2_6 : decode prog_41_method_6_code 6 = .ok (.ifCond .lt 8, 3) := by decide +kernel
theorem d2_9 : decode prog_41_method_6_code 9 = .ok (.lload 4, 2) := by decide +kernel
theorem d2_11 : decode prog_41_method_6_code 11 = .ok (.goto 6, 3) := by decide +kernel
theorem d2_14 : decode prog_41_method_6_code 14 = .ok (.lload_n 0, 1) := by decide +kernel
theorem d2_15 : decode prog_41_method_6_code 15 = .ok (.lload_n 2, 1) := by decide +kernel
theorem d2_16 : decode prog_41_method_6_code 16 = .ok (.ladd, 1) := by decide +kernel
theorem d2_17 : decode prog_41_method_6_code 17 = .ok (.lreturn, 1) := by decide +kernel
theorem ef_2 (m : MethodId) (q0 : Int64) (q1 : Int64) (q2 : Int64) : entryFrame m #[(.long q0), (.long q1), (.long q2)] 6 = mkF m 0 #[.val (.long q0), .second, .val (.long q1), .second, .val (.long q2), .second] [] := by first | (simp [entryFrame, mkF, argsToLocals, Value.category]; done) | rfl
def F2 (q0 : Int64) (q1 : Int64) (q2 : Int64) : Int64 := (if q1 < (q2 - q0) then (q0 + q1) else q2)
set_option maxRecDepth 65536 in
set_option maxHeartbeats 40000000 in
theorem rm2 (l : Launch) (Z : State) (az : Array Value) (hw : ∀ d ∈ tables_1, d.before az Z = true) (ws : List Jvm.Cond) (q0 : Int64) (q1 : Int64) (q2 : Int64)  (h0 : Heap) (n0 : Nat) (Z0 : n0 ≤ h0.size) :
    MetFree l (⟨"com/example/prorata/prorata/PlanSearch", "mostTogether", "(JJJ)J"⟩ : MethodName) (head1 (Jvm.Cond.code (⟨"com/example/prorata/prorata/PlanSearch", "mostTogether", "(JJJ)J"⟩ : MethodName) prog_41_method_6_code 6 (some .long) :: ws) ({ frames := 0, cells := 0, slots := 0, locals := 0 } : Room)) (fun a U => a = #[(.long q0), (.long q1), (.long q2)] ∧ Z.Warmed39 U.vm ∧ U.heap = h0) (fun _ _ _ _ _ => True) (fun _ U o U' => ∃ v L, o = .returned v ∧ (QP (some (.long (F2 q0 q1 q2))) h0 n0) v U'.heap L ∧ FrameEnd U o U' L ({ frames := 0, cells := 0, slots := 0, locals := 0 } : Room).cells ({ frames := 0, cells := 0, slots := 0, locals := 0 } : Room).slots) := by
  refine MetFree.of_bodySF (plainFor_of_name own_pn0) hisR ?_
  intro p e s m args below meth c s₁ Bd hml0 hP hK
  obtain ⟨rfl, hZ, hh⟩ := hP
  have hx := Bd.exec
  have hby := Bd.bytes
  have hml : c.maxLocals = 6 := hml0
  have hown : s.vm.findClass "com/example/prorata/prorata/PlanSearch" = some m.cls := findClass_of_methodNamed Bd.named
  have hnm := (name_of_methodNamed Bd.named Bd.method).1
  have hlk : meth.locks = false := BodyLoose.notSynchronized Bd
  have X0 : Stand p l e ({ frames := 0, cells := 0, slots := 0, locals := 0 } : Room) s m #[(.long q0), (.long q1), (.long q2)] below meth c s₁ [] 0 0 := Stand.of_body Bd
  have e0 : s₁.heap = h0 := by rw [← hh, Bd.state]; rfl
  have N0 := Fr.nil n0
  show Go p e below s (QP (some (.long (F2 q0 q1 q2))) h0 n0) ({ frames := 0, cells := 0, slots := 0, locals := 0 } : Room).cells ({ frames := 0, cells := 0, slots := 0, locals := 0 } : Room).slots (s₁.setTop (entryFrame m #[(.long q0), (.long q1), (.long q2)] 6))
  refine Go.of (fun t k => castTop (ef_2 m q0 q1 q2) k) ?_
  show Go p e below s _ _ _ (s₁.setTop (mkF m 0 #[.val (.long q0), .second, .val (.long q1), .second, .val (.long q2), .second] []))
  unfold F2
  refine Go.of (fun t k => XS.lloadN X0.here hx rfl (hb hby d2_0) rfl k) ?_
  show Go p e below s _ _ _ (s₁.setTop (mkF m 1 #[.val (.long q0), .second, .val (.long q1), .second, .val (.long q2), .second] [(.long q1)]))
  refine Go.of (fun t k => XS.lload X0.here hx rfl (hb hby d2_1) rfl k) ?_
  show Go p e below s _ _ _ (s₁.setTop (mkF m 3 #[.val (.long q0), .second, .val (.long q1), .second, .val (.long q2), .second] [(.long q2), (.long q1)]))
  refine Go.of (fun t k => XS.lloadN X0.here hx rfl (hb hby d2_3) rfl k) ?_
  show Go p e below s _ _ _ (s₁.setTop (mkF m 4 #[.val (.long q0), .second, .val (.long q1), .second, .val (.long q2), .second] [(.long q0), (.long q2), (.long q1)]))
  refine Go.of (fun t k => XS.lsub X0.here hx rfl (hb hby d2_4) rfl k) ?_
  show Go p e below s _ _ _ (s₁.setTop (mkF m 5 #[.val (.long q0), .second, .val (.long q1), .second, .val (.long q2), .second] [(.long (q2 - q0)), (.long q1)]))
  refine Go.of (fun t k => XS.lcmp X0.here hx rfl (hb hby d2_5) rfl k) ?_
  show Go p e below s _ _ _ (s₁.setTop (mkF m 6 #[.val (.long q0), .second, .val (.long q1), .second, .val (.long q2), .second] [(.int (lcmpW q1 (q2 - q0)))]))
  by_cases hc6_1 : q1 < (q2 - q0)
  · rewrite [if_pos hc6_1]
    refine Go.of (fun t k => XS.ifYes X0.here hx rfl (pc0 := 6) (pc' := 14) rfl (hb hby d2_6) rfl ((if0 _ _).trans (tlt ((lw_lt q1 (q2 - q0)).mpr hc6_1)).1) (by decide) (by decide) k) ?_
    show Go p e below s _ _ _ (s₁.setTop (mkF m 14 #[.val (.long q0), .second, .val (.long q1), .second, .val (.long q2), .second] []))
    refine Go.of (fun t k => XS.lloadN X0.here hx rfl (hb hby d2_14) rfl k) ?_
    show Go p e below s _ _ _ (s₁.setTop (mkF m 15 #[.val (.long q0), .second, .val (.long q1), .second, .val (.long q2), .second] [(.long q0)]))
    refine Go.of (fun t k => XS.lloadN X0.here hx rfl (hb hby d2_15) rfl k) ?_
    show Go p e below s _ _ _ (s₁.setTop (mkF m 16 #[.val (.long q0), .second, .val (.long q1), .second, .val (.long q2), .second] [(.long q1), (.long q0)]))
    refine Go.of (fun t k => XS.ladd X0.here hx rfl (hb hby d2_16) rfl k) ?_
    show Go p e below s _ _ _ (s₁.setTop (mkF m 17 #[.val (.long q0), .second, .val (.long q1), .second, .val (.long q2), .second] [(.long (q0 + q1))]))
    exact Go.ret X0 (some (.long (q0 + q1))) (fun h => by rw [Bd.returns] at h; cases h) hlk ⟨rfl, N0, e0⟩ (by decide) (by decide) (fun fs hr => (retOut X0 hx Bd.returns rfl (Or.inr (Or.inl ⟨rfl, rfl, _, rfl⟩)) (hb hby d2_17) hr))
  · rewrite [if_neg hc6_1]
    refine Go.of (fun t k => XS.ifNo X0.here hx rfl (hb hby d2_6) rfl ((if0 _ _).trans (flt (mt (lw_lt q1 (q2 - q0)).mp hc6_1)).1) k) ?_
    show Go p e below s _ _ _ (s₁.setTop (mkF m 9 #[.val (.long q0), .second, .val (.long q1), .second, .val (.long q2), .second] []))
    refine Go.of (fun t k => XS.lload X0.here hx rfl (hb hby d2_9) rfl k) ?_
    show Go p e below s _ _ _ (s₁.setTop (mkF m 11 #[.val (.long q0), .second, .val (.long q1), .second, .val (.long q2), .second] [(.long q2)]))
    refine Go.of (fun t k => XS.goto X0.here hx rfl (pc0 := 11) (pc' := 17) rfl (hb hby d2_11) (by decide) (by decide) k) ?_
    show Go p e below s _ _ _ (s₁.setTop (mkF m 17 #[.val (.long q0), .second, .val (.long q1), .second, .val (.long q2), .second] [(.long q2)]))
    exact Go.ret X0 (some (.long q2)) (fun h => by rw [Bd.returns] at h; cases h) hlk ⟨rfl, N0, e0⟩ (by decide) (by decide) (fun fs hr => (retOut X0 hx Bd.returns rfl (Or.inr (Or.inl ⟨rfl, rfl, _, rfl⟩)) (hb hby d2_17) hr))
theorem own_pd0 : parseMethodDescriptor "(JJJ)J" = some ⟨[.long, .long, .long], some .long⟩ := by decide +kernel
theorem own_pd1 : parseMethodDescriptor "(JJ)J" = some ⟨[.long, .long], some .long⟩ := by decide +kernel
theorem own_pn1 : plainName "com/example/prorata/prorata/PlanSearchMostTogetherPinLaw" = true := by first | (simp [plainName, overriddenIn]; done) | decide +kernel
theorem ef_0 (m : MethodId) (q0 : Int64) (q1 : Int64) (q2 : Int64) : entryFrame m #[(.long q0), (.long q1), (.long q2)] maxLocals = mkF m 0 #[.val (.long q0), .second, .val (.long q1), .second, .val (.long q2), .second, .unset, .unset, .unset, .unset, .unset, .unset, .unset, .unset, .unset, .unset, .unset, .unset] [] := by first | (simp [entryFrame, mkF, argsToLocals, Value.category, maxLocals]; done) | rfl
def F0_76 (q0 : Int64) (q2 : Int64) (w0_35 : Int64) (v14_76 : Int64) : Int32 := (if (F2 w0_35 (q2 &&& (9223372036854775807 : Int64)) (q0 &&& (9223372036854775807 : Int64))) = v14_76 then (1 : Int32) else (0 : Int32))
def F0_35 (q0 : Int64) (q2 : Int64) (w0_35 : Int64) : Int32 := (if ((9223372036854775807 : Int64) - w0_35) < (q2 &&& (9223372036854775807 : Int64)) then (F0_76 q0 q2 w0_35 (q0 &&& (9223372036854775807 : Int64))) else (F0_76 q0 q2 w0_35 (F1 (w0_35 + (q2 &&& (9223372036854775807 : Int64))) (q0 &&& (9223372036854775807 : Int64)))))
def F0 (q0 : Int64) (q1 : Int64) (q2 : Int64) : Int32 := (if (q0 &&& (9223372036854775807 : Int64)) = (9223372036854775807 : Int64) then (F0_35 q0 q2 (q1 &&& (9223372036854775807 : Int64))) else (F0_35 q0 q2 ((q1 &&& (9223372036854775807 : Int64)) % ((q0 &&& (9223372036854775807 : Int64)) + (1 : Int64)))))
set_option maxRecDepth 65536 in
set_option maxHeartbeats 40000000 in
theorem rm0 (l : Launch) (Z : State) (az : Array Value) (hw : ∀ d ∈ tables_1, d.before az Z = true) (ws : List Jvm.Cond) (q0 : Int64) (q1 : Int64) (q2 : Int64)  (h0 : Heap) (n0 : Nat) (Z0 : n0 ≤ h0.size) :
    MetFree l x (head1 (Jvm.Cond.code x code maxLocals ret :: ws) room_1) (fun a U => a = #[(.long q0), (.long q1), (.long q2)] ∧ Z.Warmed39 U.vm ∧ U.heap = h0) (fun _ _ _ _ _ => True) (fun _ U o U' => ∃ v L, o = .returned v ∧ (QL (some (.int (F0 q0 q1 q2))) n0) v U'.heap L ∧ FrameEnd U o U' L room_1.cells room_1.slots) := by
  refine MetFree.of_bodySF (plainFor_of_name own_pn1) hisR ?_
  intro p e s m args below meth c s₁ Bd hml0 hP hK
  obtain ⟨rfl, hZ, hh⟩ := hP
  have hx := Bd.exec
  have hby := Bd.bytes
  have hml : c.maxLocals = 18 := hml0
  have hown : s.vm.findClass "com/example/prorata/prorata/PlanSearchMostTogetherPinLaw" = some m.cls := findClass_of_methodNamed Bd.named
  have hnm := (name_of_methodNamed Bd.named Bd.method).1
  have hlk : meth.locks = false := BodyLoose.notSynchronized Bd
  have X0 : Stand p l e room_1 s m #[(.long q0), (.long q1), (.long q2)] below meth c s₁ [] 0 0 := Stand.of_body Bd
  have e0 : s₁.heap = h0 := by rw [← hh, Bd.state]; rfl
  have N0 := Fr.nil n0
  show Go p e below s (QL (some (.int (F0 q0 q1 q2))) n0) room_1.cells room_1.slots (s₁.setTop (entryFrame m #[(.long q0), (.long q1), (.long q2)] maxLocals))
  refine Go.of (fun t k => castTop (ef_0 m q0 q1 q2) k) ?_
  show Go p e below s _ _ _ (s₁.setTop (mkF m 0 #[.val (.long q0), .second, .val (.long q1), .second, .val (.long q2), .second, .unset, .unset, .unset, .unset, .unset, .unset, .unset, .unset, .unset, .unset, .unset, .unset] []))
  unfold F0
  refine Go.of (fun t k => XS.lloadN X0.here hx rfl (hb hby at_0) rfl k) ?_
  show Go p e below s _ _ _ (s₁.setTop (mkF m 1 #[.val (.long q0), .second, .val (.long q1), .second, .val (.long q2), .second, .unset, .unset, .unset, .unset, .unset, .unset, .unset, .unset, .unset, .unset, .unset, .unset] [(.long q0)]))
  refine Go.of (X0.ldc2Long hx hown (mvT hZ (hw _ (List.mem_of_getElem? (i := 0) rfl))) (g := (mkF m 1 #[.val (.long q0), .second, .val (.long q1), .second, .val (.long q2), .second, .unset, .unset, .unset, .unset, .unset, .unset, .unset, .unset, .unset, .unset, .unset, .unset] [(.long q0)])) rfl (hb hby at_1)) ?_
  show Go p e below s _ _ _ (s₁.setTop (mkF m 4 #[.val (.long q0), .second, .val (.long q1), .second, .val (.long q2), .second, .unset, .unset, .unset, .unset, .unset, .unset, .unset, .unset, .unset, .unset, .unset, .unset] [(.long (9223372036854775807 : Int64)), (.long q0)]))
  refine Go.of (fun t k => XS.land X0.here hx rfl (hb hby at_4) rfl k) ?_
  show Go p e below s _ _ _ (s₁.setTop (mkF m 5 #[.val (.long q0), .second, .val (.long q1), .second, .val (.long q2), .second, .unset, .unset, .unset, .unset, .unset, .unset, .unset, .unset, .unset, .unset, .unset, .unset] [(.long (q0 &&& (9223372036854775807 : Int64)))]))
  refine Go.of (fun t k => XS.lstore X0.here hx rfl (hb hby at_5) rfl (l' := #[.val (.long q0), .second, .val (.long q1), .second, .val (.long q2), .second, .val (.long (q0 &&& (9223372036854775807 : Int64))), .second, .unset, .unset, .unset, .unset, .unset, .unset, .unset, .unset, .unset, .unset]) rfl k) ?_
  show Go p e below s _ _ _ (s₁.setTop (mkF m 7 #[.val (.long q0), .second, .val (.long q1), .second, .val (.long q2), .second, .val (.long (q0 &&& (9223372036854775807 : Int64))), .second, .unset, .unset, .unset, .unset, .unset, .unset, .unset, .unset, .unset, .unset] []))
  refine Go.of (fun t k => XS.lloadN X0.here hx rfl (hb hby at_7) rfl k) ?_
  show Go p e below s _ _ _ (s₁.setTop (mkF m 8 #[.val (.long q0), .second, .val (.long q1), .second, .val (.long q2), .second, .val (.long (q0 &&& (9223372036854775807 : Int64))), .second, .unset, .unset, .unset, .unset, .unset, .unset, .unset, .unset, .unset, .unset] [(.long q1)]))
  refine Go.of (X0.ldc2Long hx hown (mvT hZ (hw _ (List.mem_of_getElem? (i := 0) rfl))) (g := (mkF m 8 #[.val (.long q0), .second, .val (.long q1), .second, .val (.long q2), .second, .val (.long (q0 &&& (9223372036854775807 : Int64))), .second, .unset, .unset, .unset, .unset, .unset, .unset, .unset, .unset, .unset, .unset] [(.long q1)])) rfl (hb hby at_8)) ?_
  show Go p e below s _ _ _ (s₁.setTop (mkF m 11 #[.val (.long q0), .second, .val (.long q1), .second, .val (.long q2), .second, .val (.long (q0 &&& (9223372036854775807 : Int64))), .second, .unset, .unset, .unset, .unset, .unset, .unset, .unset, .unset, .unset, .unset] [(.long (9223372036854775807 : Int64)), (.long q1)]))
  refine Go.of (fun t k => XS.land X0.here hx rfl (hb hby at_11) rfl k) ?_
  show Go p e below s _ _ _ (s₁.setTop (mkF m 12 #[.val (.long q0), .second, .val (.long q1), .second, .val (.long q2), .second, .val (.long (q0 &&& (9223372036854775807 : Int64))), .second, .unset, .unset, .unset, .unset, .unset, .unset, .unset, .unset, .unset, .unset] [(.long (q1 &&& (9223372036854775807 : Int64)))]))
  refine Go.of (fun t k => XS.lstore X0.here hx rfl (hb hby at_12) rfl (l' := #[.val (.long q0), .second, .val (.long q1), .second, .val (.long q2), .second, .val (.long (q0 &&& (9223372036854775807 : Int64))), .second, .val (.long (q1 &&& (9223372036854775807 : Int64))), .second, .unset, .unset, .unset, .unset, .unset, .unset, .unset, .unset]) rfl k) ?_
  show Go p e below s _ _ _ (s₁.setTop (mkF m 14 #[.val (.long q0), .second, .val (.long q1), .second, .val (.long q2), .second, .val (.long (q0 &&& (9223372036854775807 : Int64))), .second, .val (.long (q1 &&& (9223372036854775807 : Int64))), .second, .unset, .unset, .unset, .unset, .unset, .unset, .unset, .unset] []))
  refine Go.of (fun t k => XS.lload X0.here hx rfl (hb hby at_14) rfl k) ?_
  show Go p e below s _ _ _ (s₁.setTop (mkF m 16 #[.val (.long q0), .second, .val (.long q1), .second, .val (.long q2), .second, .val (.long (q0 &&& (9223372036854775807 : Int64))), .second, .val (.long (q1 &&& (9223372036854775807 : Int64))), .second, .unset, .unset, .unset, .unset, .unset, .unset, .unset, .unset] [(.long (q0 &&& (9223372036854775807 : Int64)))]))
  refine Go.of (X0.ldc2Long hx hown (mvT hZ (hw _ (List.mem_of_getElem? (i := 0) rfl))) (g := (mkF m 16 #[.val (.long q0), .second, .val (.long q1), .second, .val (.long q2), .second, .val (.long (q0 &&& (9223372036854775807 : Int64))), .second, .val (.long (q1 &&& (9223372036854775807 : Int64))), .second, .unset, .unset, .unset, .unset, .unset, .unset, .unset, .unset] [(.long (q0 &&& (9223372036854775807 : Int64)))])) rfl (hb hby at_16)) ?_
  show Go p e below s _ _ _ (s₁.setTop (mkF m 19 #[.val (.long q0), .second, .val (.long q1), .second, .val (.long q2), .second, .val (.long (q0 &&& (9223372036854775807 : Int64))), .second, .val (.long (q1 &&& (9223372036854775807 : Int64))), .second, .unset, .unset, .unset, .unset, .unset, .unset, .unset, .unset] [(.long (9223372036854775807 : Int64)), (.long (q0 &&& (9223372036854775807 : Int64)))]))
  refine Go.of (fun t k => XS.lcmp X0.here hx rfl (hb hby at_19) rfl k) ?_
  show Go p e below s _ _ _ (s₁.setTop (mkF m 20 #[.val (.long q0), .second, .val (.long q1), .second, .val (.long q2), .second, .val (.long (q0 &&& (9223372036854775807 : Int64))), .second, .val (.long (q1 &&& (9223372036854775807 : Int64))), .second, .unset, .unset, .unset, .unset, .unset, .unset, .unset, .unset] [(.int (lcmpW (q0 &&& (9223372036854775807 : Int64)) (9223372036854775807 : Int64)))]))
  have jn35 : ∀ (w0_35 : Int64) (T_35 : State) (l_35 : List Loc) (X_35 : Stand p l e room_1 s m #[(.long q0), (.long q1), (.long q2)] below meth c T_35 l_35 0 0) (e_35 : T_35.heap = h0) (N_35 : Fr n0 l_35), Go p e below s (QL (some (.int (F0_35 q0 q2 w0_35))) n0) room_1.cells room_1.slots (T_35.setTop (mkF m 35 #[.val (.long q0), .second, .val (.long q1), .second, .val (.long q2), .second, .val (.long (q0 &&& (9223372036854775807 : Int64))), .second, .val (.long (q1 &&& (9223372036854775807 : Int64))), .second, .unset, .unset, .unset, .unset, .unset, .unset, .unset, .unset] [(.long w0_35)])) := by
    intro w0_35 T_35 l_35 X_35 e_35 N_35
    unfold F0_35
    refine Go.of (fun t k => XS.lstore X_35.here hx rfl (hb hby at_35) rfl (l' := #[.val (.long q0), .second, .val (.long q1), .second, .val (.long q2), .second, .val (.long (q0 &&& (9223372036854775807 : Int64))), .second, .val (.long (q1 &&& (9223372036854775807 : Int64))), .second, .val (.long w0_35), .second, .unset, .unset, .unset, .unset, .unset, .unset]) rfl k) ?_
    show Go p e below s _ _ _ (T_35.setTop (mkF m 37 #[.val (.long q0), .second, .val (.long q1), .second, .val (.long q2), .second, .val (.long (q0 &&& (9223372036854775807 : Int64))), .second, .val (.long (q1 &&& (9223372036854775807 : Int64))), .second, .val (.long w0_35), .second, .unset, .unset, .unset, .unset, .unset, .unset] []))
    refine Go.of (fun t k => XS.lload X_35.here hx rfl (hb hby at_37) rfl k) ?_
    show Go p e below s _ _ _ (T_35.setTop (mkF m 39 #[.val (.long q0), .second, .val (.long q1), .second, .val (.long q2), .second, .val (.long (q0 &&& (9223372036854775807 : Int64))), .second, .val (.long (q1 &&& (9223372036854775807 : Int64))), .second, .val (.long w0_35), .second, .unset, .unset, .unset, .unset, .unset, .unset] [(.long q2)]))
    refine Go.of (X_35.ldc2Long hx hown (mvT hZ (hw _ (List.mem_of_getElem? (i := 0) rfl))) (g := (mkF m 39 #[.val (.long q0), .second, .val (.long q1), .second, .val (.long q2), .second, .val (.long (q0 &&& (9223372036854775807 : Int64))), .second, .val (.long (q1 &&& (9223372036854775807 : Int64))), .second, .val (.long w0_35), .second, .unset, .unset, .unset, .unset, .unset, .unset] [(.long q2)])) rfl (hb hby at_39)) ?_
    show Go p e below s _ _ _ (T_35.setTop (mkF m 42 #[.val (.long q0), .second, .val (.long q1), .second, .val (.long q2), .second, .val (.long (q0 &&& (9223372036854775807 : Int64))), .second, .val (.long (q1 &&& (9223372036854775807 : Int64))), .second, .val (.long w0_35), .second, .unset, .unset, .unset, .unset, .unset, .unset] [(.long (9223372036854775807 : Int64)), (.long q2)]))
    refine Go.of (fun t k => XS.land X_35.here hx rfl (hb hby at_42) rfl k) ?_
    show Go p e below s _ _ _ (T_35.setTop (mkF m 43 #[.val (.long q0), .second, .val (.long q1), .second, .val (.long q2), .second, .val (.long (q0 &&& (9223372036854775807 : Int64))), .second, .val (.long (q1 &&& (9223372036854775807 : Int64))), .second, .val (.long w0_35), .second, .unset, .unset, .unset, .unset, .unset, .unset] [(.long (q2 &&& (9223372036854775807 : Int64)))]))
    refine Go.of (fun t k => XS.lstore X_35.here hx rfl (hb hby at_43) rfl (l' := #[.val (.long q0), .second, .val (.long q1), .second, .val (.long q2), .second, .val (.long (q0 &&& (9223372036854775807 : Int64))), .second, .val (.long (q1 &&& (9223372036854775807 : Int64))), .second, .val (.long w0_35), .second, .val (.long (q2 &&& (9223372036854775807 : Int64))), .second, .unset, .unset, .unset, .unset]) rfl k) ?_
    show Go p e below s _ _ _ (T_35.setTop (mkF m 45 #[.val (.long q0), .second, .val (.long q1), .second, .val (.long q2), .second, .val (.long (q0 &&& (9223372036854775807 : Int64))), .second, .val (.long (q1 &&& (9223372036854775807 : Int64))), .second, .val (.long w0_35), .second, .val (.long (q2 &&& (9223372036854775807 : Int64))), .second, .unset, .unset, .unset, .unset] []))
    refine Go.of (fun t k => XS.lload X_35.here hx rfl (hb hby at_45) rfl k) ?_
    show Go p e below s _ _ _ (T_35.setTop (mkF m 47 #[.val (.long q0), .second, .val (.long q1), .second, .val (.long q2), .second, .val (.long (q0 &&& (9223372036854775807 : Int64))), .second, .val (.long (q1 &&& (9223372036854775807 : Int64))), .second, .val (.long w0_35), .second, .val (.long (q2 &&& (9223372036854775807 : Int64))), .second, .unset, .unset, .unset, .unset] [(.long (q2 &&& (9223372036854775807 : Int64)))]))
    refine Go.of (X_35.ldc2Long hx hown (mvT hZ (hw _ (List.mem_of_getElem? (i := 0) rfl))) (g := (mkF m 47 #[.val (.long q0), .second, .val (.long q1), .second, .val (.long q2), .second, .val (.long (q0 &&& (9223372036854775807 : Int64))), .second, .val (.long (q1 &&& (9223372036854775807 : Int64))), .second, .val (.long w0_35), .second, .val (.long (q2 &&& (9223372036854775807 : Int64))), .second, .unset, .unset, .unset, .unset] [(.long (q2 &&& (9223372036854775807 : Int64)))])) rfl (hb hby at_47)) ?_
    show Go p e below s _ _ _ (T_35.setTop (mkF m 50 #[.val (.long q0), .second, .val (.long q1), .second, .val (.long q2), .second, .val (.long (q0 &&& (9223372036854775807 : Int64))), .second, .val (.long (q1 &&& (9223372036854775807 : Int64))), .second, .val (.long w0_35), .second, .val (.long (q2 &&& (9223372036854775807 : Int64))), .second, .unset, .unset, .unset, .unset] [(.long (9223372036854775807 : Int64)), (.long (q2 &&& (9223372036854775807 : Int64)))]))
    refine Go.of (fun t k => XS.lload X_35.here hx rfl (hb hby at_50) rfl k) ?_
    show Go p e below s _ _ _ (T_35.setTop (mkF m 52 #[.val (.long q0), .second, .val (.long q1), .second, .val (.long q2), .second, .val (.long (q0 &&& (9223372036854775807 : Int64))), .second, .val (.long (q1 &&& (9223372036854775807 : Int64))), .second, .val (.long w0_35), .second, .val (.long (q2 &&& (9223372036854775807 : Int64))), .second, .unset, .unset, .unset, .unset] [(.long w0_35), (.long (9223372036854775807 : Int64)), (.long (q2 &&& (9223372036854775807 : Int64)))]))
    refine Go.of (fun t k => XS.lsub X_35.here hx rfl (hb hby at_52) rfl k) ?_
    show Go p e below s _ _ _ (T_35.setTop (mkF m 53 #[.val (.long q0), .second, .val (.long q1), .second, .val (.long q2), .second, .val (.long (q0 &&& (9223372036854775807 : Int64))), .second, .val (.long (q1 &&& (9223372036854775807 : Int64))), .second, .val (.long w0_35), .second, .val (.long (q2 &&& (9223372036854775807 : Int64))), .second, .unset, .unset, .unset, .unset] [(.long ((9223372036854775807 : Int64) - w0_35)), (.long (q2 &&& (9223372036854775807 : Int64)))]))
    refine Go.of (fun t k => XS.lcmp X_35.here hx rfl (hb hby at_53) rfl k) ?_
    show Go p e below s _ _ _ (T_35.setTop (mkF m 54 #[.val (.long q0), .second, .val (.long q1), .second, .val (.long q2), .second, .val (.long (q0 &&& (9223372036854775807 : Int64))), .second, .val (.long (q1 &&& (9223372036854775807 : Int64))), .second, .val (.long w0_35), .second, .val (.long (q2 &&& (9223372036854775807 : Int64))), .second, .unset, .unset, .unset, .unset] [(.int (lcmpW (q2 &&& (9223372036854775807 : Int64)) ((9223372036854775807 : Int64) - w0_35)))]))
    have jn76 : ∀ (v14_76 : Int64) (T_76 : State) (l_76 : List Loc) (X_76 : Stand p l e room_1 s m #[(.long q0), (.long q1), (.long q2)] below meth c T_76 l_76 0 0) (e_76 : T_76.heap = h0) (N_76 : Fr n0 l_76), Go p e below s (QL (some (.int (F0_76 q0 q2 w0_35 v14_76))) n0) room_1.cells room_1.slots (T_76.setTop (mkF m 76 #[.val (.long q0), .second, .val (.long q1), .second, .val (.long q2), .second, .val (.long (q0 &&& (9223372036854775807 : Int64))), .second, .val (.long (q1 &&& (9223372036854775807 : Int64))), .second, .val (.long w0_35), .second, .val (.long (q2 &&& (9223372036854775807 : Int64))), .second, .val (.long v14_76), .second, .unset, .unset] [])) := by
      intro v14_76 T_76 l_76 X_76 e_76 N_76
      unfold F0_76
      refine Go.of (fun t k => XS.lload X_76.here hx rfl (hb hby at_76) rfl k) ?_
      show Go p e below s _ _ _ (T_76.setTop (mkF m 78 #[.val (.long q0), .second, .val (.long q1), .second, .val (.long q2), .second, .val (.long (q0 &&& (9223372036854775807 : Int64))), .second, .val (.long (q1 &&& (9223372036854775807 : Int64))), .second, .val (.long w0_35), .second, .val (.long (q2 &&& (9223372036854775807 : Int64))), .second, .val (.long v14_76), .second, .unset, .unset] [(.long w0_35)]))
      refine Go.of (fun t k => XS.lload X_76.here hx rfl (hb hby at_78) rfl k) ?_
      show Go p e below s _ _ _ (T_76.setTop (mkF m 80 #[.val (.long q0), .second, .val (.long q1), .second, .val (.long q2), .second, .val (.long (q0 &&& (9223372036854775807 : Int64))), .second, .val (.long (q1 &&& (9223372036854775807 : Int64))), .second, .val (.long w0_35), .second, .val (.long (q2 &&& (9223372036854775807 : Int64))), .second, .val (.long v14_76), .second, .unset, .unset] [(.long (q2 &&& (9223372036854775807 : Int64))), (.long w0_35)]))
      refine Go.of (fun t k => XS.lload X_76.here hx rfl (hb hby at_80) rfl k) ?_
      show Go p e below s _ _ _ (T_76.setTop (mkF m 82 #[.val (.long q0), .second, .val (.long q1), .second, .val (.long q2), .second, .val (.long (q0 &&& (9223372036854775807 : Int64))), .second, .val (.long (q1 &&& (9223372036854775807 : Int64))), .second, .val (.long w0_35), .second, .val (.long (q2 &&& (9223372036854775807 : Int64))), .second, .val (.long v14_76), .second, .unset, .unset] [(.long (q0 &&& (9223372036854775807 : Int64))), (.long (q2 &&& (9223372036854775807 : Int64))), (.long w0_35)]))
      obtain ⟨_, _, ⟨T1, L1, k1, n1⟩, -, X1, ⟨Lc1, hQ1, l1, y1, z1⟩, st1⟩ := Jvm.LawKit.callS X_76 hx (y := (⟨"com/example/prorata/prorata/PlanSearch", "mostTogether", "(JJJ)J"⟩ : MethodName)) hown (mvT hZ (hw _ (List.mem_of_getElem? (i := 5) rfl))) (mvT hZ (hw _ (List.mem_of_getElem? (i := 6) rfl))) (mvT hZ (hw _ (List.mem_of_getElem? (i := 7) rfl))) (mvT hZ (hw _ (List.mem_of_getElem? (i := 8) rfl))) (by decide) (backOf (W := 0) (rm2 l Z az hw [] w0_35 (q2 &&& (9223372036854775807 : Int64)) (q0 &&& (9223372036854775807 : Int64)) h0 n0 Z0) hZ (hw _ (List.mem_of_getElem? (i := 8) rfl)) (hw _ (List.mem_of_getElem? (i := 7) rfl)) (by decide) (by decide)) (g := (mkF m 82 #[.val (.long q0), .second, .val (.long q1), .second, .val (.long q2), .second, .val (.long (q0 &&& (9223372036854775807 : Int64))), .second, .val (.long (q1 &&& (9223372036854775807 : Int64))), .second, .val (.long w0_35), .second, .val (.long (q2 &&& (9223372036854775807 : Int64))), .second, .val (.long v14_76), .second, .unset, .unset] [(.long (q0 &&& (9223372036854775807 : Int64))), (.long (q2 &&& (9223372036854775807 : Int64))), (.long w0_35)])) rfl (by rw [hml]; rfl) (argsL := [(.long w0_35), (.long (q2 &&& (9223372036854775807 : Int64))), (.long (q0 &&& (9223372036854775807 : Int64)))]) (rest := []) (lenOf own_pd0 rfl) rfl (by show 2 * 0 + _ ≤ _; exact Nat.le_of_eq rfl) (hb hby at_82) (fun _ _ => ⟨rfl, e_76, (by decide : 0 + 0 ≤ _), (by decide : 0 + 0 ≤ _)⟩)
      dsimp only [Pt.U, Pt.locs, Pt.cells, Pt.slots] at X1 l1 y1 z1 st1 hQ1
      subst l1 y1 z1
      obtain ⟨rfl, N1q, e1⟩ := hQ1
      have N1 := Fr.app N_76 N1q
      refine Go.of st1 ?_
      show Go p e below s _ _ _ (T1.setTop (mkF m 85 #[.val (.long q0), .second, .val (.long q1), .second, .val (.long q2), .second, .val (.long (q0 &&& (9223372036854775807 : Int64))), .second, .val (.long (q1 &&& (9223372036854775807 : Int64))), .second, .val (.long w0_35), .second, .val (.long (q2 &&& (9223372036854775807 : Int64))), .second, .val (.long v14_76), .second, .unset, .unset] [(.long (F2 w0_35 (q2 &&& (9223372036854775807 : Int64)) (q0 &&& (9223372036854775807 : Int64))))]))
      refine Go.of (fun t k => XS.lstore X1.here hx rfl (hb hby at_85) rfl (l' := #[.val (.long q0), .second, .val (.long q1), .second, .val (.long q2), .second, .val (.long (q0 &&& (9223372036854775807 : Int64))), .second, .val (.long (q1 &&& (9223372036854775807 : Int64))), .second, .val (.long w0_35), .second, .val (.long (q2 &&& (9223372036854775807 : Int64))), .second, .val (.long v14_76), .second, .val (.long (F2 w0_35 (q2 &&& (9223372036854775807 : Int64)) (q0 &&& (9223372036854775807 : Int64)))), .second]) rfl k) ?_
      show Go p e below s _ _ _ (T1.setTop (mkF m 87 #[.val (.long q0), .second, .val (.long q1), .second, .val (.long q2), .second, .val (.long (q0 &&& (9223372036854775807 : Int64))), .second, .val (.long (q1 &&& (9223372036854775807 : Int64))), .second, .val (.long w0_35), .second, .val (.long (q2 &&& (9223372036854775807 : Int64))), .second, .val (.long v14_76), .second, .val (.long (F2 w0_35 (q2 &&& (9223372036854775807 : Int64)) (q0 &&& (9223372036854775807 : Int64)))), .second] []))
      refine Go.of (fun t k => XS.lload X1.here hx rfl (hb hby at_87) rfl k) ?_
      show Go p e below s _ _ _ (T1.setTop (mkF m 89 #[.val (.long q0), .second, .val (.long q1), .second, .val (.long q2), .second, .val (.long (q0 &&& (9223372036854775807 : Int64))), .second, .val (.long (q1 &&& (9223372036854775807 : Int64))), .second, .val (.long w0_35), .second, .val (.long (q2 &&& (9223372036854775807 : Int64))), .second, .val (.long v14_76), .second, .val (.long (F2 w0_35 (q2 &&& (9223372036854775807 : Int64)) (q0 &&& (9223372036854775807 : Int64)))), .second] [(.long (F2 w0_35 (q2 &&& (9223372036854775807 : Int64)) (q0 &&& (9223372036854775807 : Int64))))]))
      refine Go.of (fun t k => XS.lload X1.here hx rfl (hb hby at_89) rfl k) ?_
      show Go p e below s _ _ _ (T1.setTop (mkF m 91 #[.val (.long q0), .second, .val (.long q1), .second, .val (.long q2), .second, .val (.long (q0 &&& (9223372036854775807 : Int64))), .second, .val (.long (q1 &&& (9223372036854775807 : Int64))), .second, .val (.long w0_35), .second, .val (.long (q2 &&& (9223372036854775807 : Int64))), .second, .val (.long v14_76), .second, .val (.long (F2 w0_35 (q2 &&& (9223372036854775807 : Int64)) (q0 &&& (9223372036854775807 : Int64)))), .second] [(.long v14_76), (.long (F2 w0_35 (q2 &&& (9223372036854775807 : Int64)) (q0 &&& (9223372036854775807 : Int64))))]))
      refine Go.of (fun t k => XS.lcmp X1.here hx rfl (hb hby at_91) rfl k) ?_
      show Go p e below s _ _ _ (T1.setTop (mkF m 92 #[.val (.long q0), .second, .val (.long q1), .second, .val (.long q2), .second, .val (.long (q0 &&& (9223372036854775807 : Int64))), .second, .val (.long (q1 &&& (9223372036854775807 : Int64))), .second, .val (.long w0_35), .second, .val (.long (q2 &&& (9223372036854775807 : Int64))), .second, .val (.long v14_76), .second, .val (.long (F2 w0_35 (q2 &&& (9223372036854775807 : Int64)) (q0 &&& (9223372036854775807 : Int64)))), .second] [(.int (lcmpW (F2 w0_35 (q2 &&& (9223372036854775807 : Int64)) (q0 &&& (9223372036854775807 : Int64))) v14_76))]))
      by_cases hc92_2 : (F2 w0_35 (q2 &&& (9223372036854775807 : Int64)) (q0 &&& (9223372036854775807 : Int64))) = v14_76
      · rewrite [if_pos hc92_2]
        refine Go.of (fun t k => XS.ifNo X1.here hx rfl (hb hby at_92) rfl ((if0 _ _).trans (teq ((lw_eq (F2 w0_35 (q2 &&& (9223372036854775807 : Int64)) (q0 &&& (9223372036854775807 : Int64))) v14_76).mpr hc92_2)).2) k) ?_
        show Go p e below s _ _ _ (T1.setTop (mkF m 95 #[.val (.long q0), .second, .val (.long q1), .second, .val (.long q2), .second, .val (.long (q0 &&& (9223372036854775807 : Int64))), .second, .val (.long (q1 &&& (9223372036854775807 : Int64))), .second, .val (.long w0_35), .second, .val (.long (q2 &&& (9223372036854775807 : Int64))), .second, .val (.long v14_76), .second, .val (.long (F2 w0_35 (q2 &&& (9223372036854775807 : Int64)) (q0 &&& (9223372036854775807 : Int64)))), .second] []))
        refine Go.of (fun t k => XS.iconst X1.here hx rfl (hb hby at_95) k) ?_
        show Go p e below s _ _ _ (T1.setTop (mkF m 96 #[.val (.long q0), .second, .val (.long q1), .second, .val (.long q2), .second, .val (.long (q0 &&& (9223372036854775807 : Int64))), .second, .val (.long (q1 &&& (9223372036854775807 : Int64))), .second, .val (.long w0_35), .second, .val (.long (q2 &&& (9223372036854775807 : Int64))), .second, .val (.long v14_76), .second, .val (.long (F2 w0_35 (q2 &&& (9223372036854775807 : Int64)) (q0 &&& (9223372036854775807 : Int64)))), .second] [(.int (1 : Int32))]))
        refine Go.of (fun t k => XS.goto X1.here hx rfl (pc0 := 96) (pc' := 100) rfl (hb hby at_96) (by decide) (by decide) k) ?_
        show Go p e below s _ _ _ (T1.setTop (mkF m 100 #[.val (.long q0), .second, .val (.long q1), .second, .val (.long q2), .second, .val (.long (q0 &&& (9223372036854775807 : Int64))), .second, .val (.long (q1 &&& (9223372036854775807 : Int64))), .second, .val (.long w0_35), .second, .val (.long (q2 &&& (9223372036854775807 : Int64))), .second, .val (.long v14_76), .second, .val (.long (F2 w0_35 (q2 &&& (9223372036854775807 : Int64)) (q0 &&& (9223372036854775807 : Int64)))), .second] [(.int (1 : Int32))]))
        exact Go.ret X1 (some (.int (1 : Int32))) (fun h => by rw [Bd.returns] at h; cases h) hlk ⟨rfl, N1⟩ (by decide) (by decide) (fun fs hr => (retN X1 hx (t := .boolean) Bd.returns (by simp) (hb hby at_100) hr))
      · rewrite [if_neg hc92_2]
        refine Go.of (fun t k => XS.ifYes X1.here hx rfl (pc0 := 92) (pc' := 99) rfl (hb hby at_92) rfl ((if0 _ _).trans (feq (mt (lw_eq (F2 w0_35 (q2 &&& (9223372036854775807 : Int64)) (q0 &&& (9223372036854775807 : Int64))) v14_76).mp hc92_2)).2) (by decide) (by decide) k) ?_
        show Go p e below s _ _ _ (T1.setTop (mkF m 99 #[.val (.long q0), .second, .val (.long q1), .second, .val (.long q2), .second, .val (.long (q0 &&& (9223372036854775807 : Int64))), .second, .val (.long (q1 &&& (9223372036854775807 : Int64))), .second, .val (.long w0_35), .second, .val (.long (q2 &&& (9223372036854775807 : Int64))), .second, .val (.long v14_76), .second, .val (.long (F2 w0_35 (q2 &&& (9223372036854775807 : Int64)) (q0 &&& (9223372036854775807 : Int64)))), .second] []))
        refine Go.of (fun t k => XS.iconst X1.here hx rfl (hb hby at_99) k) ?_
        show Go p e below s _ _ _ (T1.setTop (mkF m 100 #[.val (.long q0), .second, .val (.long q1), .second, .val (.long q2), .second, .val (.long (q0 &&& (9223372036854775807 : Int64))), .second, .val (.long (q1 &&& (9223372036854775807 : Int64))), .second, .val (.long w0_35), .second, .val (.long (q2 &&& (9223372036854775807 : Int64))), .second, .val (.long v14_76), .second, .val (.long (F2 w0_35 (q2 &&& (9223372036854775807 : Int64)) (q0 &&& (9223372036854775807 : Int64)))), .second] [(.int (0 : Int32))]))
        exact Go.ret X1 (some (.int (0 : Int32))) (fun h => by rw [Bd.returns] at h; cases h) hlk ⟨rfl, N1⟩ (by decide) (by decide) (fun fs hr => (retN X1 hx (t := .boolean) Bd.returns (by simp) (hb hby at_100) hr))
    by_cases hc54_3 : ((9223372036854775807 : Int64) - w0_35) < (q2 &&& (9223372036854775807 : Int64))
    · rewrite [if_pos hc54_3]
      refine Go.of (fun t k => XS.ifNo X_35.here hx rfl (hb hby at_54) rfl ((if0 _ _).trans (tlt ((lw_gt (q2 &&& (9223372036854775807 : Int64)) ((9223372036854775807 : Int64) - w0_35)).mpr hc54_3)).2.2.2) k) ?_
      show Go p e below s _ _ _ (T_35.setTop (mkF m 57 #[.val (.long q0), .second, .val (.long q1), .second, .val (.long q2), .second, .val (.long (q0 &&& (9223372036854775807 : Int64))), .second, .val (.long (q1 &&& (9223372036854775807 : Int64))), .second, .val (.long w0_35), .second, .val (.long (q2 &&& (9223372036854775807 : Int64))), .second, .unset, .unset, .unset, .unset] []))
      refine Go.of (fun t k => XS.lload X_35.here hx rfl (hb hby at_57) rfl k) ?_
      show Go p e below s _ _ _ (T_35.setTop (mkF m 59 #[.val (.long q0), .second, .val (.long q1), .second, .val (.long q2), .second, .val (.long (q0 &&& (9223372036854775807 : Int64))), .second, .val (.long (q1 &&& (9223372036854775807 : Int64))), .second, .val (.long w0_35), .second, .val (.long (q2 &&& (9223372036854775807 : Int64))), .second, .unset, .unset, .unset, .unset] [(.long (q0 &&& (9223372036854775807 : Int64)))]))
      refine Go.of (fun t k => XS.lstore X_35.here hx rfl (hb hby at_59) rfl (l' := #[.val (.long q0), .second, .val (.long q1), .second, .val (.long q2), .second, .val (.long (q0 &&& (9223372036854775807 : Int64))), .second, .val (.long (q1 &&& (9223372036854775807 : Int64))), .second, .val (.long w0_35), .second, .val (.long (q2 &&& (9223372036854775807 : Int64))), .second, .val (.long (q0 &&& (9223372036854775807 : Int64))), .second, .unset, .unset]) rfl k) ?_
      show Go p e below s _ _ _ (T_35.setTop (mkF m 61 #[.val (.long q0), .second, .val (.long q1), .second, .val (.long q2), .second, .val (.long (q0 &&& (9223372036854775807 : Int64))), .second, .val (.long (q1 &&& (9223372036854775807 : Int64))), .second, .val (.long w0_35), .second, .val (.long (q2 &&& (9223372036854775807 : Int64))), .second, .val (.long (q0 &&& (9223372036854775807 : Int64))), .second, .unset, .unset] []))
      refine Go.of (fun t k => XS.goto X_35.here hx rfl (pc0 := 61) (pc' := 76) rfl (hb hby at_61) (by decide) (by decide) k) ?_
      show Go p e below s _ _ _ (T_35.setTop (mkF m 76 #[.val (.long q0), .second, .val (.long q1), .second, .val (.long q2), .second, .val (.long (q0 &&& (9223372036854775807 : Int64))), .second, .val (.long (q1 &&& (9223372036854775807 : Int64))), .second, .val (.long w0_35), .second, .val (.long (q2 &&& (9223372036854775807 : Int64))), .second, .val (.long (q0 &&& (9223372036854775807 : Int64))), .second, .unset, .unset] []))
      exact jn76 (q0 &&& (9223372036854775807 : Int64))  T_35 _ X_35 e_35 N_35  
    · rewrite [if_neg hc54_3]
      refine Go.of (fun t k => XS.ifYes X_35.here hx rfl (pc0 := 54) (pc' := 64) rfl (hb hby at_54) rfl ((if0 _ _).trans (flt (mt (lw_gt (q2 &&& (9223372036854775807 : Int64)) ((9223372036854775807 : Int64) - w0_35)).mp hc54_3)).2.2.2) (by decide) (by decide) k) ?_
      show Go p e below s _ _ _ (T_35.setTop (mkF m 64 #[.val (.long q0), .second, .val (.long q1), .second, .val (.long q2), .second, .val (.long (q0 &&& (9223372036854775807 : Int64))), .second, .val (.long (q1 &&& (9223372036854775807 : Int64))), .second, .val (.long w0_35), .second, .val (.long (q2 &&& (9223372036854775807 : Int64))), .second, .unset, .unset, .unset, .unset] []))
      refine Go.of (fun t k => XS.lload X_35.here hx rfl (hb hby at_64) rfl k) ?_
      show Go p e below s _ _ _ (T_35.setTop (mkF m 66 #[.val (.long q0), .second, .val (.long q1), .second, .val (.long q2), .second, .val (.long (q0 &&& (9223372036854775807 : Int64))), .second, .val (.long (q1 &&& (9223372036854775807 : Int64))), .second, .val (.long w0_35), .second, .val (.long (q2 &&& (9223372036854775807 : Int64))), .second, .unset, .unset, .unset, .unset] [(.long w0_35)]))
      refine Go.of (fun t k => XS.lload X_35.here hx rfl (hb hby at_66) rfl k) ?_
      show Go p e below s _ _ _ (T_35.setTop (mkF m 68 #[.val (.long q0), .second, .val (.long q1), .second, .val (.long q2), .second, .val (.long (q0 &&& (9223372036854775807 : Int64))), .second, .val (.long (q1 &&& (9223372036854775807 : Int64))), .second, .val (.long w0_35), .second, .val (.long (q2 &&& (9223372036854775807 : Int64))), .second, .unset, .unset, .unset, .unset] [(.long (q2 &&& (9223372036854775807 : Int64))), (.long w0_35)]))
      refine Go.of (fun t k => XS.ladd X_35.here hx rfl (hb hby at_68) rfl k) ?_
      show Go p e below s _ _ _ (T_35.setTop (mkF m 69 #[.val (.long q0), .second, .val (.long q1), .second, .val (.long q2), .second, .val (.long (q0 &&& (9223372036854775807 : Int64))), .second, .val (.long (q1 &&& (9223372036854775807 : Int64))), .second, .val (.long w0_35), .second, .val (.long (q2 &&& (9223372036854775807 : Int64))), .second, .unset, .unset, .unset, .unset] [(.long (w0_35 + (q2 &&& (9223372036854775807 : Int64))))]))
      refine Go.of (fun t k => XS.lload X_35.here hx rfl (hb hby at_69) rfl k) ?_
      show Go p e below s _ _ _ (T_35.setTop (mkF m 71 #[.val (.long q0), .second, .val (.long q1), .second, .val (.long q2), .second, .val (.long (q0 &&& (9223372036854775807 : Int64))), .second, .val (.long (q1 &&& (9223372036854775807 : Int64))), .second, .val (.long w0_35), .second, .val (.long (q2 &&& (9223372036854775807 : Int64))), .second, .unset, .unset, .unset, .unset] [(.long (q0 &&& (9223372036854775807 : Int64))), (.long (w0_35 + (q2 &&& (9223372036854775807 : Int64))))]))
      obtain ⟨_, _, ⟨T4, L4, k4, n4⟩, -, X4, ⟨Lc4, hQ4, l4, y4, z4⟩, st4⟩ := Jvm.LawKit.callS X_35 hx (y := (⟨"java/lang/Math", "min", "(JJ)J"⟩ : MethodName)) hown (mvT hZ (hw _ (List.mem_of_getElem? (i := 1) rfl))) (mvT hZ (hw _ (List.mem_of_getElem? (i := 2) rfl))) (mvT hZ (hw _ (List.mem_of_getElem? (i := 3) rfl))) (mvT hZ (hw _ (List.mem_of_getElem? (i := 4) rfl))) (by decide) (backOf (W := 0) (rm1 l Z az hw [] (w0_35 + (q2 &&& (9223372036854775807 : Int64))) (q0 &&& (9223372036854775807 : Int64)) h0 n0 Z0) hZ (hw _ (List.mem_of_getElem? (i := 4) rfl)) (hw _ (List.mem_of_getElem? (i := 3) rfl)) (by decide) (by decide)) (g := (mkF m 71 #[.val (.long q0), .second, .val (.long q1), .second, .val (.long q2), .second, .val (.long (q0 &&& (9223372036854775807 : Int64))), .second, .val (.long (q1 &&& (9223372036854775807 : Int64))), .second, .val (.long w0_35), .second, .val (.long (q2 &&& (9223372036854775807 : Int64))), .second, .unset, .unset, .unset, .unset] [(.long (q0 &&& (9223372036854775807 : Int64))), (.long (w0_35 + (q2 &&& (9223372036854775807 : Int64))))])) rfl (by rw [hml]; rfl) (argsL := [(.long (w0_35 + (q2 &&& (9223372036854775807 : Int64)))), (.long (q0 &&& (9223372036854775807 : Int64)))]) (rest := []) (lenOf own_pd1 rfl) rfl (by show 2 * 0 + _ ≤ _; exact Nat.le_of_eq rfl) (hb hby at_71) (fun _ _ => ⟨rfl, e_35, (by decide : 0 + 0 ≤ _), (by decide : 0 + 0 ≤ _)⟩)
      dsimp only [Pt.U, Pt.locs, Pt.cells, Pt.slots] at X4 l4 y4 z4 st4 hQ4
      subst l4 y4 z4
      obtain ⟨rfl, N4q, e4⟩ := hQ4
      have N4 := Fr.app N_35 N4q
      refine Go.of st4 ?_
      show Go p e below s _ _ _ (T4.setTop (mkF m 74 #[.val (.long q0), .second, .val (.long q1), .second, .val (.long q2), .second, .val (.long (q0 &&& (9223372036854775807 : Int64))), .second, .val (.long (q1 &&& (9223372036854775807 : Int64))), .second, .val (.long w0_35), .second, .val (.long (q2 &&& (9223372036854775807 : Int64))), .second, .unset, .unset, .unset, .unset] [(.long (F1 (w0_35 + (q2 &&& (9223372036854775807 : Int64))) (q0 &&& (9223372036854775807 : Int64))))]))
      refine Go.of (fun t k => XS.lstore X4.here hx rfl (hb hby at_74) rfl (l' := #[.val (.long q0), .second, .val (.long q1), .second, .val (.long q2), .second, .val (.long (q0 &&& (9223372036854775807 : Int64))), .second, .val (.long (q1 &&& (9223372036854775807 : Int64))), .second, .val (.long w0_35), .second, .val (.long (q2 &&& (9223372036854775807 : Int64))), .second, .val (.long (F1 (w0_35 + (q2 &&& (9223372036854775807 : Int64))) (q0 &&& (9223372036854775807 : Int64)))), .second, .unset, .unset]) rfl k) ?_
      show Go p e below s _ _ _ (T4.setTop (mkF m 76 #[.val (.long q0), .second, .val (.long q1), .second, .val (.long q2), .second, .val (.long (q0 &&& (9223372036854775807 : Int64))), .second, .val (.long (q1 &&& (9223372036854775807 : Int64))), .second, .val (.long w0_35), .second, .val (.long (q2 &&& (9223372036854775807 : Int64))), .second, .val (.long (F1 (w0_35 + (q2 &&& (9223372036854775807 : Int64))) (q0 &&& (9223372036854775807 : Int64)))), .second, .unset, .unset] []))
      exact jn76 (F1 (w0_35 + (q2 &&& (9223372036854775807 : Int64))) (q0 &&& (9223372036854775807 : Int64)))  T4 _ X4 e4 N4  
  by_cases hc20_5 : (q0 &&& (9223372036854775807 : Int64)) = (9223372036854775807 : Int64)
  · rewrite [if_pos hc20_5]
    refine Go.of (fun t k => XS.ifNo X0.here hx rfl (hb hby at_20) rfl ((if0 _ _).trans (teq ((lw_eq (q0 &&& (9223372036854775807 : Int64)) (9223372036854775807 : Int64)).mpr hc20_5)).2) k) ?_
    show Go p e below s _ _ _ (s₁.setTop (mkF m 23 #[.val (.long q0), .second, .val (.long q1), .second, .val (.long q2), .second, .val (.long (q0 &&& (9223372036854775807 : Int64))), .second, .val (.long (q1 &&& (9223372036854775807 : Int64))), .second, .unset, .unset, .unset, .unset, .unset, .unset, .unset, .unset] []))
    refine Go.of (fun t k => XS.lload X0.here hx rfl (hb hby at_23) rfl k) ?_
    show Go p e below s _ _ _ (s₁.setTop (mkF m 25 #[.val (.long q0), .second, .val (.long q1), .second, .val (.long q2), .second, .val (.long (q0 &&& (9223372036854775807 : Int64))), .second, .val (.long (q1 &&& (9223372036854775807 : Int64))), .second, .unset, .unset, .unset, .unset, .unset, .unset, .unset, .unset] [(.long (q1 &&& (9223372036854775807 : Int64)))]))
    refine Go.of (fun t k => XS.goto X0.here hx rfl (pc0 := 25) (pc' := 35) rfl (hb hby at_25) (by decide) (by decide) k) ?_
    show Go p e below s _ _ _ (s₁.setTop (mkF m 35 #[.val (.long q0), .second, .val (.long q1), .second, .val (.long q2), .second, .val (.long (q0 &&& (9223372036854775807 : Int64))), .second, .val (.long (q1 &&& (9223372036854775807 : Int64))), .second, .unset, .unset, .unset, .unset, .unset, .unset, .unset, .unset] [(.long (q1 &&& (9223372036854775807 : Int64)))]))
    exact jn35 (q1 &&& (9223372036854775807 : Int64))  s₁ _ X0 e0 N0  
  · rewrite [if_neg hc20_5]
    refine Go.of (fun t k => XS.ifYes X0.here hx rfl (pc0 := 20) (pc' := 28) rfl (hb hby at_20) rfl ((if0 _ _).trans (feq (mt (lw_eq (q0 &&& (9223372036854775807 : Int64)) (9223372036854775807 : Int64)).mp hc20_5)).2) (by decide) (by decide) k) ?_
    show Go p e below s _ _ _ (s₁.setTop (mkF m 28 #[.val (.long q0), .second, .val (.long q1), .second, .val (.long q2), .second, .val (.long (q0 &&& (9223372036854775807 : Int64))), .second, .val (.long (q1 &&& (9223372036854775807 : Int64))), .second, .unset, .unset, .unset, .unset, .unset, .unset, .unset, .unset] []))
    refine Go.of (fun t k => XS.lload X0.here hx rfl (hb hby at_28) rfl k) ?_
    show Go p e below s _ _ _ (s₁.setTop (mkF m 30 #[.val (.long q0), .second, .val (.long q1), .second, .val (.long q2), .second, .val (.long (q0 &&& (9223372036854775807 : Int64))), .second, .val (.long (q1 &&& (9223372036854775807 : Int64))), .second, .unset, .unset, .unset, .unset, .unset, .unset, .unset, .unset] [(.long (q1 &&& (9223372036854775807 : Int64)))]))
    refine Go.of (fun t k => XS.lload X0.here hx rfl (hb hby at_30) rfl k) ?_
    show Go p e below s _ _ _ (s₁.setTop (mkF m 32 #[.val (.long q0), .second, .val (.long q1), .second, .val (.long q2), .second, .val (.long (q0 &&& (9223372036854775807 : Int64))), .second, .val (.long (q1 &&& (9223372036854775807 : Int64))), .second, .unset, .unset, .unset, .unset, .unset, .unset, .unset, .unset] [(.long (q0 &&& (9223372036854775807 : Int64))), (.long (q1 &&& (9223372036854775807 : Int64)))]))
    refine Go.of (fun t k => XS.lconst X0.here hx rfl (hb hby at_32) k) ?_
    show Go p e below s _ _ _ (s₁.setTop (mkF m 33 #[.val (.long q0), .second, .val (.long q1), .second, .val (.long q2), .second, .val (.long (q0 &&& (9223372036854775807 : Int64))), .second, .val (.long (q1 &&& (9223372036854775807 : Int64))), .second, .unset, .unset, .unset, .unset, .unset, .unset, .unset, .unset] [(.long (1 : Int64)), (.long (q0 &&& (9223372036854775807 : Int64))), (.long (q1 &&& (9223372036854775807 : Int64)))]))
    refine Go.of (fun t k => XS.ladd X0.here hx rfl (hb hby at_33) rfl k) ?_
    show Go p e below s _ _ _ (s₁.setTop (mkF m 34 #[.val (.long q0), .second, .val (.long q1), .second, .val (.long q2), .second, .val (.long (q0 &&& (9223372036854775807 : Int64))), .second, .val (.long (q1 &&& (9223372036854775807 : Int64))), .second, .unset, .unset, .unset, .unset, .unset, .unset, .unset, .unset] [(.long ((q0 &&& (9223372036854775807 : Int64)) + (1 : Int64))), (.long (q1 &&& (9223372036854775807 : Int64)))]))
    refine Go.of (fun t k => lremM X0 hx rfl (hb hby at_34) rfl (own_nz q0) k) ?_
    show Go p e below s _ _ _ (s₁.setTop (mkF m 35 #[.val (.long q0), .second, .val (.long q1), .second, .val (.long q2), .second, .val (.long (q0 &&& (9223372036854775807 : Int64))), .second, .val (.long (q1 &&& (9223372036854775807 : Int64))), .second, .unset, .unset, .unset, .unset, .unset, .unset, .unset, .unset] [(.long ((q1 &&& (9223372036854775807 : Int64)) % ((q0 &&& (9223372036854775807 : Int64)) + (1 : Int64))))]))
    exact jn35 ((q1 &&& (9223372036854775807 : Int64)) % ((q0 &&& (9223372036854775807 : Int64)) + (1 : Int64)))  s₁ _ X0 e0 N0  
theorem own_M (x : Int64) : 0 ≤ (x &&& (9223372036854775807 : Int64)).toInt := by
  have m := c_maskL x 9223372036854775807 63 (by decide) (by decide)
  omega
theorem own_eM : (9223372036854775807 : Int64).toInt = 9223372036854775807 := by decide
theorem own_core (g b w : Int64) (hg : 0 ≤ g.toInt) (hb : 0 ≤ b.toInt) (hw : 0 ≤ w.toInt ∧ w.toInt ≤ g.toInt) : (if ((9223372036854775807 : Int64) - w) < b then (if F2 w b g = g then (1 : Int32) else 0) else (if F2 w b g = F1 (w + b) g then (1 : Int32) else 0)) = 1 := by
  have s1 := c_lsub 9223372036854775807 w
  have s2 := c_lsub g w
  have s3 := c_ladd w b
  have t1 := rng64 (9223372036854775807 - w)
  have t2 := rng64 (g - w)
  have t3 := rng64 (w + b)
  have r1 := rng64 g
  have r2 := rng64 b
  have e := own_eM
  unfold F1 F2
  simp only [Int64.lt_iff_toInt_lt]
  by_cases h1 : (9223372036854775807 - w).toInt < b.toInt
  · rw [if_pos h1, if_neg (show ¬ b.toInt < (g - w).toInt by omega), if_pos rfl]
  · rw [if_neg h1]
    by_cases h2 : b.toInt < (g - w).toInt
    · rw [if_pos h2, if_neg (show ¬ g.toInt < (w + b).toInt by omega), if_pos rfl]
    · rw [if_neg h2]
      by_cases h3 : g.toInt < (w + b).toInt
      · rw [if_pos h3, if_pos rfl]
      · rw [if_neg h3, if_pos (show g = w + b from Int64.toInt_inj.mp (by omega))]
theorem own_35 (q0 q2 w : Int64) (hw : 0 ≤ w.toInt ∧ w.toInt ≤ (q0 &&& (9223372036854775807 : Int64)).toInt) : F0_35 q0 q2 w = 1 := own_core _ _ w (own_M q0) (own_M q2) hw
theorem own_law (a b c : Int64) : F0 a b c = 1 := by
  unfold F0
  have ha := own_M a
  have hb := own_M b
  have e := own_eM
  have r1 := rng64 (b &&& 9223372036854775807)
  have r2 := rng64 (a &&& 9223372036854775807)
  split
  · rename_i h
    refine own_35 _ _ _ ⟨hb, ?_⟩
    rw [h, e]; omega
  · rename_i h
    refine own_35 _ _ _ ?_
    rw [← Int64.toInt_inj, e] at h
    have s := c_ladd (a &&& 9223372036854775807) 1
    have t := rng64 ((a &&& 9223372036854775807) + 1)
    have e1 : (1 : Int64).toInt = 1 := by decide
    rw [Int64.toInt_mod, (tr _ _).1 hb]
    have q1 := Int.emod_nonneg (b &&& (9223372036854775807 : Int64)).toInt (b := ((a &&& (9223372036854775807 : Int64)) + 1).toInt) (by omega)
    have q2 := Int.emod_lt_of_pos (b &&& (9223372036854775807 : Int64)).toInt (b := ((a &&& (9223372036854775807 : Int64)) + 1).toInt) (by omega)
    omega
set_option maxRecDepth 65536 in
set_option maxHeartbeats 40000000 in
theorem comes_1 {Post : Tables → Env → Array Value → State → Outcome → State → Prop} (hpost : ∀ tb e args s v u, (limb_1_1.after args s (.returned v) u = true ∧ limb_1_2.after args s (.returned v) u = true ∧ True) → FrameEnd s (.returned v) u (Jvm.fieldLocs frame_1_writes args s ++ Jvm.arrayLocs frame_1_arrays args s ++ Jvm.staticLocs frame_1_statics s) 0 0 → Post tb e args s (.returned v) u) :
    ArmFor flags0 classFile x code maxLocals ret World_1 tables_1 room_1 Calls_1 rest_1 Pre_1 Post := by
  intro l hfl _ _ p e ha hc hk s m args below hf hA hF happ hP
  obtain ⟨hcalls, hrest, hpre⟩ := hP
  obtain ⟨-, -, -, hnamed, -, -, -, hat⟩ := (Spec.applies_iff hf).mp happ
  obtain ⟨hg, hn⟩ := and_e (Cond.before_iff.mp (show (Jvm.Cond.and given_1 narrow_1).before args s = true from hpre))
  obtain ⟨g0, g1⟩ := and_e hg
  obtain ⟨a0, g2⟩ := and_e g1
  obtain ⟨a1, g3⟩ := and_e g2
  have a2 := g3
  obtain ⟨w0, w1, w2, rfl⟩ : ∃ w0 w1 w2 : Value, args = #[w0, w1, w2] := by
    have hs : args.size = 3 := by simpa [Cond.value, given_1] using g0
    obtain ⟨L⟩ := args
    match L, hs with
    | [w0, w1, w2], _ => exact ⟨w0, w1, w2, rfl⟩
  have hw := fun d (hd : d ∈ tables_1) => atoms_spec (ws := Jvm.Cond.code x code maxLocals ret :: tables_1) hat d (List.mem_cons_of_mem _ hd)
  obtain ⟨i0, ei0⟩ := isL_v a0
  obtain rfl : w0 = (.long i0) := Option.some.inj ei0
  obtain ⟨i1, ei1⟩ := isL_v a1
  obtain rfl : w1 = (.long i1) := Option.some.inj ei1
  obtain ⟨i2, ei2⟩ := isL_v a2
  obtain rfl : w2 = (.long i2) := Option.some.inj ei2
  obtain ⟨n, o, h1, h2, h3, _, L, rfl, ⟨rfl, N⟩, hq⟩ := rm0 l s _ hw tables_1 i0 i1 i2 s.heap s.heap.size (Nat.le_refl _) p e ha hc hk s m _ below hf ((Spec.applies_iff_loose hf).mp happ).1 ⟨rfl, State.Warmed39.refl s, rfl⟩ trivial
  have hone : (F0 i0 i1 i2) = 1 := own_law i0 i1 i2
  refine ⟨n, _, h1, h2, h3, hpost _ _ _ _ _ _ ⟨Cond.after_iff.mpr rfl, Cond.after_iff.mpr (eq_i res_at (Term.int_eval (1)) (by rw [hone])), trivial⟩ ⟨hq.1, hq.2.1, (hq.2.2.sift fun y hy => Or.inr (N y hy)).mono (by decide) (by decide)⟩⟩
theorem main_1_1 : Claimed_1_1 := comes_1 fun _ _ _ _ _ _ h hF => ⟨h.1, hF⟩
theorem main_1_2 : Claimed_1_2 := comes_1 fun _ _ _ _ _ _ h hF => ⟨h.2.1, hF⟩
end Jvm.Pilot.@@N@@
namespace Jvm.Pilot.@@N@@
open Jvm Jvm.ClassFile Sem Op Lib Jvm.Free Jvm.Stand Jvm.Pilot.@@N@@.Jvm.D
/-! MADE BY PROGRAM (witnessworld.py) out of the Statement's table words and the real class files: 10 classes; the members and pool entries that the words name. The judged class is class 1, her method 1. -/
namespace start1
open Jvm.ClassFile
def u (s : String) : CpInfo := .utf8 (stringToUtf16 s)
/-- a pool by its gaps: so many unusable entries, then the entry; so many at the end -/
def gap : Nat → List CpInfo → List CpInfo
  | 0, r => r
  | n + 1, r => .unusable :: gap n r
def poolList (es : List (Nat × CpInfo)) (last : Nat) : List CpInfo := es.foldr (fun e r => gap e.1 (e.2 :: r)) (gap last [])
def pool (es : List (Nat × CpInfo)) (last : Nat) : Array CpInfo := ⟨poolList es last⟩
def fileOf (pool : Array CpInfo) (this : Nat) (attrs : Array Attribute := #[]) (ms : Array MethodInfo := #[]) (fl : Nat := 33) (sup : Nat := 0) (ifs : Array Nat := #[]) (fds : Array FieldInfo := #[]) : ClassFile where
  minorVersion := 0
  majorVersion := 65
  constantPool := pool
  accessFlags := fl
  thisClass := this
  superClass := sup
  interfaces := ifs
  fields := fds
  methods := ms
  attributes := attrs
def plain (name : String) (sup : Option ClassId) : Class where
  name := name
  kind := .ordinary
  loader := none
  accessFlags := 33
  super := sup
  interfaces := #[]
  cf := none
  fields := #[]
  methods := #[]
  instanceTypes := #[]
  staticTypes := #[]
  resolved := #[]
  callSites := []
  init := .initialized
  statics := none
  mirror := none

def pool0 : Array CpInfo := pool [(5, u "<init>"), (0, u "()V"), (1, .class_ 10), (1, u "java/lang/Object")] 113

def k0m0 : Method := { name := "<init>", desc := "()V", sig := { parameters := [], returnType := none }, accessFlags := 1, code := none }
/-- java/lang/Object -/
def k0 : Class := { plain "java/lang/Object" none with
  accessFlags := 33
  interfaces := #[]
  cf := some (fileOf pool0 8 #[] #[{ accessFlags := 1, nameIndex := 5, descriptorIndex := 6, attributes := #[] }] 33 0 #[] #[])
  fields := #[]
  methods := #[k0m0]
  instanceTypes := #[]
  staticTypes := #[]
  resolved := Array.replicate 124 none
  statics := none }

def pool1 : Array CpInfo := pool [(2, .class_ 4), (1, u "java/lang/Object"), (0, u "<init>"), (0, u "()V"), (2, .long 9223372036854775807), (1, .methodref 12 13), (0, .class_ 14), (0, .nameAndType 15 16), (0, u "java/lang/Math"), (0, u "min"), (0, u "(JJ)J"), (0, .methodref 18 19), (0, .class_ 20), (0, .nameAndType 21 22), (0, u "com/example/prorata/prorata/PlanSearch"), (0, u "mostTogether"), (0, u "(JJJ)J"), (0, .class_ 24), (0, u "com/example/prorata/prorata/PlanSearchMostTogetherPinLaw"), (2, u "law"), (0, u "(JJJ)Z")] 3

def k1m0 : Method := { name := "<init>", desc := "()V", sig := { parameters := [], returnType := none }, accessFlags := 2, code := none }
def k1c1 : Code := { maxStack := 6, maxLocals := 18, code := code, exceptionTable := #[], attributes := #[] }
def k1m1 : Method := { name := "law", desc := "(JJJ)Z", sig := { parameters := [.long, .long, .long], returnType := some .boolean }, accessFlags := 9, code := some k1c1 }
/-- com/example/prorata/prorata/PlanSearchMostTogetherPinLaw -/
def k1 : Class := { plain "com/example/prorata/prorata/PlanSearchMostTogetherPinLaw" (some 0) with
  accessFlags := 49
  interfaces := #[]
  cf := some (fileOf pool1 23 #[] #[{ accessFlags := 2, nameIndex := 5, descriptorIndex := 6, attributes := #[] }, { accessFlags := 9, nameIndex := 27, descriptorIndex := 28, attributes := #[] }] 49 2 #[] #[])
  fields := #[]
  methods := #[k1m0, k1m1]
  instanceTypes := #[]
  staticTypes := #[]
  resolved := Array.replicate 32 none
  statics := none }

def pool2 : Array CpInfo := pool [(1, .class_ 2), (0, u "java/lang/Math"), (1, .class_ 6), (1, u "java/lang/Object"), (0, u "<init>"), (0, u "()V"), (89, .class_ 100), (1, u "java/lang/Math$RandomNumberGeneratorHolder"), (20, u "(JJ)J"), (50, u "negativeZeroFloatBits"), (0, u "J"), (2, u "negativeZeroDoubleBits"), (24, u "min"), (43, u "$assertionsDisabled"), (0, u "Z"), (91, u "twoToTheDoubleScaleDown"), (0, u "D"), (4, u "twoToTheDoubleScaleUp"), (9, u "E"), (3, u "PI"), (2, u "TAU"), (2, u "DEGREES_TO_RADIANS"), (0, u "RADIANS_TO_DEGREES")] 94

def k2m0 : Method := { name := "<init>", desc := "()V", sig := { parameters := [], returnType := none }, accessFlags := 2, code := none }
def k2c1 : Code := { maxStack := 4, maxLocals := 4, code := jdk_29_method_70_code, exceptionTable := #[], attributes := #[] }
def k2m1 : Method := { name := "min", desc := "(JJ)J", sig := { parameters := [.long, .long], returnType := some .long }, accessFlags := 9, code := some k2c1 }
/-- java/lang/Math -/
def k2 : Class := { plain "java/lang/Math" (some 0) with
  accessFlags := 49
  interfaces := #[]
  cf := some (fileOf pool2 1 #[.nestMembers #[98]] #[{ accessFlags := 2, nameIndex := 7, descriptorIndex := 8, attributes := #[] }, { accessFlags := 9, nameIndex := 201, descriptorIndex := 121, attributes := #[] }] 49 4 #[] #[{ accessFlags := 25, nameIndex := 354, descriptorIndex := 339, attributes := #[] }, { accessFlags := 25, nameIndex := 358, descriptorIndex := 339, attributes := #[] }, { accessFlags := 25, nameIndex := 361, descriptorIndex := 339, attributes := #[] }, { accessFlags := 26, nameIndex := 364, descriptorIndex := 339, attributes := #[] }, { accessFlags := 26, nameIndex := 365, descriptorIndex := 339, attributes := #[] }, { accessFlags := 26, nameIndex := 172, descriptorIndex := 173, attributes := #[] }, { accessFlags := 26, nameIndex := 176, descriptorIndex := 173, attributes := #[] }, { accessFlags := 8, nameIndex := 344, descriptorIndex := 339, attributes := #[] }, { accessFlags := 8, nameIndex := 338, descriptorIndex := 339, attributes := #[] }, { accessFlags := 4120, nameIndex := 245, descriptorIndex := 246, attributes := #[] }])
  fields := #[{ name := "E", type := .double, accessFlags := 25, slot := 0, constantValue := 0 }, { name := "PI", type := .double, accessFlags := 25, slot := 1, constantValue := 0 }, { name := "TAU", type := .double, accessFlags := 25, slot := 2, constantValue := 0 }, { name := "DEGREES_TO_RADIANS", type := .double, accessFlags := 26, slot := 3, constantValue := 0 }, { name := "RADIANS_TO_DEGREES", type := .double, accessFlags := 26, slot := 4, constantValue := 0 }, { name := "negativeZeroFloatBits", type := .long, accessFlags := 26, slot := 5, constantValue := 0 }, { name := "negativeZeroDoubleBits", type := .long, accessFlags := 26, slot := 6, constantValue := 0 }, { name := "twoToTheDoubleScaleUp", type := .double, accessFlags := 8, slot := 7, constantValue := 0 }, { name := "twoToTheDoubleScaleDown", type := .double, accessFlags := 8, slot := 8, constantValue := 0 }, { name := "$assertionsDisabled", type := .boolean, accessFlags := 4120, slot := 9, constantValue := 0 }]
  methods := #[k2m0, k2m1]
  instanceTypes := #[]
  staticTypes := #[.double, .double, .double, .double, .double, .long, .long, .double, .double, .boolean]
  resolved := Array.replicate 460 none
  statics := none }

def pool3 : Array CpInfo := pool [(4, .class_ 6), (1, u "java/lang/Object"), (6, .class_ 15), (1, u "com/example/prorata/prorata/PlanSearch"), (0, u "seen"), (0, u "Ljava/util/Set;"), (4, u "pricer"), (0, u "Lcom/example/prorata/prorata/Pricer;"), (3, u "layout"), (0, u "Lcom/example/prorata/prorata/WalletLayout;"), (2, u "coupons"), (0, u "[Lcom/example/prorata/prorata/WalletLayout$Coupon;"), (3, u "partOf"), (0, u "[I"), (3, u "linesIn"), (3, u "goods"), (0, u "J"), (3, u "tax"), (0, u "Lcom/example/prorata/prorata/GoodsTax;"), (3, u "budget"), (0, u "Lcom/example/prorata/prorata/WorkBudget;"), (0, .class_ 58), (0, u "com/example/prorata/prorata/PlanSearch$Judged"), (2, u "judged"), (0, u "[Lcom/example/prorata/prorata/PlanSearch$Judged;"), (2, u "followed"), (2, u "saved"), (0, u "[J"), (4, u "barredAfter"), (0, u "[Ljava/util/BitSet;"), (23, u "mostTogether"), (0, u "(JJJ)J"), (114, .class_ 216), (0, u "com/example/prorata/prorata/PlanSearch$Split"), (25, .class_ 243), (0, u "com/example/prorata/prorata/PlanSearch$Reached"), (66, u "UNPAID")] 29

def k3c0 : Code := { maxStack := 6, maxLocals := 6, code := prog_41_method_6_code, exceptionTable := #[], attributes := #[] }
def k3m0 : Method := { name := "mostTogether", desc := "(JJJ)J", sig := { parameters := [.long, .long, .long], returnType := some .long }, accessFlags := 8, code := some k3c0 }
/-- com/example/prorata/prorata/PlanSearch -/
def k3 : Class := { plain "com/example/prorata/prorata/PlanSearch" (some 0) with
  accessFlags := 1056
  interfaces := #[]
  cf := some (fileOf pool3 13 #[.nestMembers #[242, 215, 57]] #[{ accessFlags := 8, nameIndex := 99, descriptorIndex := 100, attributes := #[] }] 1056 4 #[] #[{ accessFlags := 24, nameIndex := 310, descriptorIndex := 46, attributes := #[] }, { accessFlags := 16, nameIndex := 22, descriptorIndex := 23, attributes := #[] }, { accessFlags := 16, nameIndex := 27, descriptorIndex := 28, attributes := #[] }, { accessFlags := 16, nameIndex := 31, descriptorIndex := 32, attributes := #[] }, { accessFlags := 16, nameIndex := 36, descriptorIndex := 37, attributes := #[] }, { accessFlags := 16, nameIndex := 41, descriptorIndex := 37, attributes := #[] }, { accessFlags := 16, nameIndex := 45, descriptorIndex := 46, attributes := #[] }, { accessFlags := 18, nameIndex := 50, descriptorIndex := 51, attributes := #[] }, { accessFlags := 16, nameIndex := 55, descriptorIndex := 56, attributes := #[] }, { accessFlags := 18, nameIndex := 61, descriptorIndex := 62, attributes := #[] }, { accessFlags := 18, nameIndex := 16, descriptorIndex := 17, attributes := #[] }, { accessFlags := 16, nameIndex := 65, descriptorIndex := 37, attributes := #[] }, { accessFlags := 18, nameIndex := 68, descriptorIndex := 69, attributes := #[] }, { accessFlags := 18, nameIndex := 74, descriptorIndex := 75, attributes := #[] }])
  fields := #[{ name := "UNPAID", type := .long, accessFlags := 24, slot := 0, constantValue := 0 }, { name := "pricer", type := (.object "com/example/prorata/prorata/Pricer"), accessFlags := 16, slot := 0, constantValue := 0 }, { name := "layout", type := (.object "com/example/prorata/prorata/WalletLayout"), accessFlags := 16, slot := 1, constantValue := 0 }, { name := "coupons", type := (.array (.object "com/example/prorata/prorata/WalletLayout$Coupon")), accessFlags := 16, slot := 2, constantValue := 0 }, { name := "partOf", type := (.array .int), accessFlags := 16, slot := 3, constantValue := 0 }, { name := "linesIn", type := (.array .int), accessFlags := 16, slot := 4, constantValue := 0 }, { name := "goods", type := .long, accessFlags := 16, slot := 5, constantValue := 0 }, { name := "tax", type := (.object "com/example/prorata/prorata/GoodsTax"), accessFlags := 18, slot := 6, constantValue := 0 }, { name := "budget", type := (.object "com/example/prorata/prorata/WorkBudget"), accessFlags := 16, slot := 7, constantValue := 0 }, { name := "judged", type := (.array (.object "com/example/prorata/prorata/PlanSearch$Judged")), accessFlags := 18, slot := 8, constantValue := 0 }, { name := "seen", type := (.object "java/util/Set"), accessFlags := 18, slot := 9, constantValue := 0 }, { name := "followed", type := (.array .int), accessFlags := 16, slot := 10, constantValue := 0 }, { name := "saved", type := (.array .long), accessFlags := 18, slot := 11, constantValue := 0 }, { name := "barredAfter", type := (.array (.object "java/util/BitSet")), accessFlags := 18, slot := 12, constantValue := 0 }]
  methods := #[k3m0]
  instanceTypes := #[(.object "com/example/prorata/prorata/Pricer"), (.object "com/example/prorata/prorata/WalletLayout"), (.array (.object "com/example/prorata/prorata/WalletLayout$Coupon")), (.array .int), (.array .int), .long, (.object "com/example/prorata/prorata/GoodsTax"), (.object "com/example/prorata/prorata/WorkBudget"), (.array (.object "com/example/prorata/prorata/PlanSearch$Judged")), (.object "java/util/Set"), (.array .int), (.array .long), (.array (.object "java/util/BitSet"))]
  staticTypes := #[.long]
  resolved := Array.replicate 340 none
  statics := none }

def pool4 : Array CpInfo := pool [(1, u "java/lang/Cloneable"), (0, .class_ 1), (0, u "java/lang/Object"), (0, .class_ 3)] 3

/-- java/lang/Cloneable -/
def k4 : Class := { plain "java/lang/Cloneable" (some 0) with
  accessFlags := 1537
  interfaces := #[]
  cf := some (fileOf pool4 2 #[] #[] 1537 4 #[] #[])
  fields := #[]
  methods := #[]
  instanceTypes := #[]
  staticTypes := #[]
  resolved := Array.replicate 8 none
  statics := none }

def pool5 : Array CpInfo := pool [(1, u "java/io/Serializable"), (0, .class_ 1), (0, u "java/lang/Object"), (0, .class_ 3)] 3

/-- java/io/Serializable -/
def k5 : Class := { plain "java/io/Serializable" (some 0) with
  accessFlags := 1537
  interfaces := #[]
  cf := some (fileOf pool5 2 #[] #[] 1537 4 #[] #[])
  fields := #[]
  methods := #[]
  instanceTypes := #[]
  staticTypes := #[]
  resolved := Array.replicate 8 none
  statics := none }

/-- the primitive byte -/
def k6 : Class := { plain "byte" none with kind := .primitive 'B', accessFlags := 0x411 }
/-- [B -/
def k7 : Class := { plain "[B" (some 0) with kind := .array 6 .byte, interfaces := #[4, 5], accessFlags := 1041 }

/-- the primitive int -/
def k8 : Class := { plain "int" none with kind := .primitive 'I', accessFlags := 0x411 }
/-- [I -/
def k9 : Class := { plain "[I" (some 0) with kind := .array 8 .int, interfaces := #[4, 5], accessFlags := 1041 }

def heap : Heap := #[]
def classes : Array Class := #[k0, k1, k2, k3, k4, k5, k6, k7, k8, k9]
def interned : List (Array UInt16 × Addr) := []
def slotsUsed : Nat := 0
def theMethod : MethodId := ⟨1, 1⟩
def args0 : Array Value := #[.long 5, .long 6, .long 7]
def aboutOver (below : List Frame) : State where
  vm := { classes := classes, interned := interned.toArray }
  heap := heap
  slotsUsed := slotsUsed
  threads := #[{ frames := .invoking theMethod args0 :: below }]
def below0 : List Frame := [.native { method := ⟨0, 0⟩, args := #[] }]
def about1 : State := aboutOver below0
def p0 : Program := .bare "" "" ""
def e0 : Env := launch0.env 0 0 0
theorem w_frames : about1.frames = Frame.invoking theMethod args0 :: below0 := rfl
set_option maxRecDepth 65536 in
theorem w_args : argsFit about1.vm theMethod args0 = true := by decide +kernel
set_option maxRecDepth 65536 in
theorem w_heap : heapFits about1 = true := by decide +kernel
set_option maxRecDepth 65536 in
theorem w_runnable : about1.curStatus? = some .runnable := by decide +kernel
set_option maxRecDepth 65536 in
theorem w_alone : about1.alone = true := by decide +kernel
set_option maxRecDepth 65536 in
theorem w_named : about1.methodNamed? x = some theMethod := by decide +kernel
set_option maxRecDepth 65536 in
theorem w_hears : about1.hears theMethod below0 = true := by decide +kernel
set_option maxRecDepth 65536 in
theorem w_ripe : about1.ripe theMethod args0 below0 = true := by decide +kernel
theorem w_running : about1.status = .running := rfl
set_option maxRecDepth 65536 in
theorem w_room : about1.hasRoom e0.platform room_1 = true :=
  launch0.hasRoom_least _ room_1 (by decide +kernel) (by decide +kernel) (by decide +kernel) (by decide +kernel) (by decide +kernel) (by decide +kernel)
theorem allAtoms_all (ts : List Jvm.Cond) (a : Array Jvm.Value) (st : Jvm.State) : (allAtoms ts).before a st = ts.all (fun c => c.before a st) := by
  induction ts with
  | nil => rfl
  | cons c t ih =>
    show (Jvm.Cond.and c (allAtoms t)).before a st = _
    rw [Jvm.Cond.before_and, ih, List.all_cons]
def words1 : List Jvm.Cond := Jvm.Cond.code x code maxLocals ret :: tables_1
/-- a 'code' word, met by the world's own term for the bytes: nothing is compared byte by byte -/
theorem code_word {y : MethodName} {bytes : ByteArray} {mx : Nat} {rt : Option FieldType} {a : Array Value} {s : State} {m : MethodId} {meth : Method} {c : Code} (h1 : s.methodNamed? y = some m) (h2 : s.vm.method? m = some meth) (h3 : meth.code = some c) (h4 : c.code = bytes)
    (h5 : (c.maxLocals == mx && c.exceptionTable.isEmpty && decide (c.maxStack ≤ mostOperands) && decide (meth.sig.returnType = rt) && !meth.locks && decide (parseMethodDescriptor y.desc = some meth.sig)) = true) : (Jvm.Cond.code y bytes mx rt).before a s = true := by
  simp only [Bool.and_eq_true, beq_iff_eq, Bool.not_eq_true', decide_eq_true_eq] at h5
  obtain ⟨⟨⟨⟨⟨g1, g2⟩, g3⟩, g4⟩, g5⟩, g6⟩ := h5
  simp [Cond.before, Cond.holds, Cond.value, h1, h2, h3, h4, g1, g2, g3, g4, g5, g6]
def isCode : Jvm.Cond → Bool
  | .code _ _ _ _ => true
  | _ => false
theorem all_split {L : List Jvm.Cond} {P : Jvm.Cond → Bool} (h1 : L.all (fun c => isCode c || P c) = true) (h2 : ∀ c ∈ L.filter isCode, P c = true) : L.all P = true := by
  refine List.all_eq_true.mpr fun c hc => ?_
  have h := List.all_eq_true.mp h1 c hc
  rcases Bool.eq_false_or_eq_true (isCode c) with hi | hi
  · exact h2 c (List.mem_filter.mpr ⟨hc, hi⟩)
  · simpa [hi] using h
set_option maxRecDepth 65536 in
theorem w_c0 : (Jvm.Cond.code x code maxLocals ret).before args0 about1 = true := code_word (m := ⟨1, 1⟩) (meth := k1m1) (c := k1c1) (by decide +kernel) rfl rfl rfl (by decide +kernel)
set_option maxRecDepth 65536 in
theorem w_c1 : (Jvm.Cond.code ({ cls := "java/lang/Math", name := "min", desc := "(JJ)J" } : Jvm.MethodName) jdk_29_method_70_code (4 : Nat) (Option.some Jvm.ClassFile.FieldType.long)).before args0 about1 = true := code_word (m := ⟨2, 1⟩) (meth := k2m1) (c := k2c1) (by decide +kernel) rfl rfl rfl (by decide +kernel)
set_option maxRecDepth 65536 in
theorem w_c2 : (Jvm.Cond.code ({ cls := "com/example/prorata/prorata/PlanSearch", name := "mostTogether", desc := "(JJJ)J" } : Jvm.MethodName) prog_41_method_6_code (6 : Nat) (Option.some Jvm.ClassFile.FieldType.long)).before args0 about1 = true := code_word (m := ⟨3, 0⟩) (meth := k3m0) (c := k3c0) (by decide +kernel) rfl rfl rfl (by decide +kernel)
def codes1 : List Jvm.Cond := [Jvm.Cond.code x code maxLocals ret, Jvm.Cond.code ({ cls := "java/lang/Math", name := "min", desc := "(JJ)J" } : Jvm.MethodName) jdk_29_method_70_code (4 : Nat) (Option.some Jvm.ClassFile.FieldType.long), Jvm.Cond.code ({ cls := "com/example/prorata/prorata/PlanSearch", name := "mostTogether", desc := "(JJJ)J" } : Jvm.MethodName) prog_41_method_6_code (6 : Nat) (Option.some Jvm.ClassFile.FieldType.long)]
set_option maxRecDepth 65536 in
theorem codes_eq : words1.filter isCode = codes1 := rfl
theorem w_codes : ∀ c ∈ words1.filter isCode, c.before args0 about1 = true := by
  rw [codes_eq]
  intro c hc
  simp only [codes1, List.mem_cons, List.not_mem_nil, or_false] at hc
  rcases hc with rfl | rfl | rfl
  · exact w_c0
  · exact w_c1
  · exact w_c2
set_option maxRecDepth 65536 in
theorem w_t1 : words1.all (fun c => isCode c || c.before args0 about1) = true := by decide +kernel
theorem w_tables : (allAtoms (Jvm.Cond.code x code maxLocals ret :: tables_1)).before args0 about1 = true := by
  rw [allAtoms_all]
  show words1.all (fun c => c.before args0 about1) = true
  refine all_split ?_ w_codes
  rw [w_t1]
set_option maxRecDepth 65536 in
theorem w_case : (Jvm.Cond.and given_1 narrow_1).before args0 about1 = true := by decide +kernel
theorem w_applies : (headSpec (Jvm.Cond.code x code maxLocals ret :: tables_1) room_1).applies x e0.platform about1 = true :=
  (Spec.applies_iff w_frames).mpr ⟨w_running, w_runnable, w_alone, w_named, w_hears, w_ripe, w_room, w_tables⟩
theorem atStart : AtStart classFile x code maxLocals ret World_1 tables_1 room_1 Calls_1 rest_1 Pre_1 launch0 p0 e0 about1 theMethod args0 below0 :=
  ⟨lists_1, trivial, launch0.admits_env _ _ _, launch0.least_env, fairChoices_fair.cas, fairChoices_fair.clock, w_frames, w_args, w_heap, w_applies, trivial, trivial, w_case⟩
end start1
theorem witness_1 : WitnessClaimed_1 := ⟨start1.p0, start1.e0, start1.about1, start1.theMethod, start1.args0, start1.below0, start1.atStart⟩
end Jvm.Pilot.@@N@@
