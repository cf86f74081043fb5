import JvmDerived
import JvmDerived.Pilot.@@N@@Statement
import JvmDerived.Pilot.@@N@@Code
set_option linter.unusedVariables false
set_option linter.unusedSimpArgs false
namespace Jvm.RoadKit
open Sem ClassFile Op Lib Jvm.Stand Jvm.Free Jvm.LawKit
section New
variable {p : Program} {l : Launch} {e : Env} {R : Room} {s : State} {m : MethodId} {args : Array Value} {below : List Frame} {meth : Method} {c : Code} {T : State} {locs : List Loc} {cells slots : Nat}
theorem retI (X : Stand p l e R s m args below meth c T locs cells slots) (hx : p.tables.exec = Jvm.exec) {pc : Nat} {Ls : Array Slot} {z : Int32} {rest : List Value} (hret : meth.sig.returnType = some .int) (hd : decode c.code pc = .ok (.ireturn, 1)) {fs : List Frame}
    (hl : ∀ (f : JFrame) (acts : List Action), f.method = m → f.locked = none → f.entered = [] → (doReturn e (T.setTop f) acts (some (.int z))).1 = T.setFrames fs) : Steps p.tables e below (T.setTop (mkF m pc Ls (.int z :: rest))) (T.setFrames fs) := by
  have hm' : T.vm.method? m = some meth := X.method'
  have hn : narrow .int (.int z) = .int z := rfl
  show Steps p.tables e below (T.setTop { method := m, pc := pc, locals := Ls, stack := _ :: rest, locked := none }) _
  jvm_step X.here [X.here.top, hx, hd, hm', hret, hn]
  first | (intro acts; rw [hl _ acts rfl rfl rfl]) | rw [hl _ _ rfl rfl rfl]
  exact Steps.refl _
/-- the run from G on comes to an end that Q speaks of -/
def Go (p : Program) (e : Env) (below : List Frame) (s : State) (Q : Option Value → Heap → List Loc → Prop) (ck sk : Nat) (G : State) : Prop :=
  ∃ s₂ o, Steps p.tables e below G s₂ ∧ s₂.status = .running ∧ Ended s₂ below o ∧ ∃ v L, o = .returned v ∧ Q v s₂.heap L ∧ FrameEnd s o s₂ L ck sk
theorem Go.of {Q : Option Value → Heap → List Loc → Prop} {ck sk : Nat} {G G' : State} (h : ∀ t, Steps p.tables e below G' t → Steps p.tables e below G t) (k : Go p e below s Q ck sk G') : Go p e below s Q ck sk G := by
  obtain ⟨s₂, o, h1, r⟩ := k
  exact ⟨s₂, o, h _ h1, r⟩
theorem Go.ret (X : Stand p l e R s m args below meth c T locs cells slots) {Q : Option Value → Heap → List Loc → Prop} {ck sk : Nat} {G : State} (v : Option Value) (hv : meth.sig.returnType = none → v = none) (hlk : meth.locks = false) (hq : Q v T.heap locs) (hc : cells ≤ ck) (hs : slots ≤ sk)
    (st : ∀ fs, (∀ (f : JFrame) (acts : List Action), f.method = m → f.locked = none → f.entered = [] → (doReturn e (T.setTop f) acts v).1 = T.setFrames fs) → Steps p.tables e below G (T.setFrames fs)) : Go p e below s Q ck sk G := by
  obtain ⟨fs, hr, hrun, hended, hW, hsame⟩ := X.leave hv hlk
  exact ⟨_, _, st fs hr, hrun, hended, v, locs, rfl, hq, ⟨_, rfl⟩, hW, hsame.mono hc hs⟩
/-- what it returns, that it wrote nothing old, and that the heap is as it was -/
def QP (val : Option Value) (h0 : Heap) (n0 : Nat) (v : Option Value) (h : Heap) (L : List Loc) : Prop := v = val ∧ Fr n0 L ∧ h = h0
/-- what it returns, and that it wrote nothing old -/
def QL (val : Option Value) (n0 : Nat) (v : Option Value) (h : Heap) (L : List Loc) : Prop := v = val ∧ Fr n0 L
theorem lremM {g : JFrame} {target : State} (X : Stand p l e R s m args below meth c T locs cells slots) (hx : p.tables.exec = Jvm.exec) (hg : g.method = m) {x y : Int64} {rest : List Value} (hd : decode c.code g.pc = .ok (.lrem, 1)) (hs : g.stack = .long y :: .long x :: rest) (hy : y ≠ 0)
    (hr : Steps p.tables e below (T.setTop { g with pc := g.pc + 1, stack := .long (x % y) :: rest }) target) : Steps p.tables e below (T.setTop g) target := by
  have q : x - x / y * y = x % y := lrem_mod x y
  exact XS.lrem X.here hx hg hd hs hy (by rw [q]; exact hr)
end New
end Jvm.RoadKit
namespace Jvm.Pilot.@@N@@
open Jvm Jvm.ClassFile Sem Op Lib Jvm.Free Jvm.Stand Jvm.LawKit Jvm.RoadKit Bundle Jvm.Pilot.@@N@@.Jvm.D
theorem d1_0 : decode jdk_29_method_69_code 0 = .ok (.iload_n 0, 1) := by decide +kernel
theorem d1_1 : decode jdk_29_method_69_code 1 = .ok (.iload_n 1, 1) := by decide +kernel
theorem d1_2 : decode jdk_29_method_69_code 2 = .ok (.if_icmp .gt 7, 3) := by decide +kernel
theorem d1_5 : decode jdk_29_method_69_code 5 = .ok (.iload_n 0, 1) := by decide +kernel
theorem d1_6 : decode jdk_29_method_69_code 6 = .ok (.goto 4, 3) := by decide +kernel
theorem d1_9 : decode jdk_29_method_69_code 9 = .ok (.iload_n 1, 1) := by decide +kernel
theorem d1_10 : decode jdk_29_method_69_code 10 = .ok (.ireturn, 1) := by decide +kernel
theorem ef_1 (m : MethodId) (p0 : Int32) (p1 : Int32) : entryFrame m #[(.int p0), (.int p1)] 2 = mkF m 0 #[.val (.int p0), .val (.int p1)] [] := by first | (simp [entryFrame, mkF, argsToLocals, Value.category]; done) | rfl
def F1 (p0 : Int32) (p1 : Int32) : Int32 := (if p1 < p0 then p1 else p0)
set_option maxRecDepth 65536 in
set_option maxHeartbeats 40000000 in
theorem rm1 (l : Launch) (Z : State) (az : Array Value) (hw : ∀ d ∈ tables_1, d.before az Z = true) (ws : List Jvm.Cond) (p0 : Int32) (p1 : Int32)  (h0 : Heap) (n0 : Nat) (Z0 : n0 ≤ h0.size) :
    MetFree l (⟨"java/lang/Math", "min", "(II)I"⟩ : MethodName) (head1 (Jvm.Cond.code (⟨"java/lang/Math", "min", "(II)I"⟩ : MethodName) jdk_29_method_69_code 2 (some .int) :: ws) ({ frames := 0, cells := 0, slots := 0, locals := 0 } : Room)) (fun a U => a = #[(.int p0), (.int p1)] ∧ Z.Warmed39 U.vm ∧ U.heap = h0) (fun _ _ _ _ _ => True) (fun _ U o U' => ∃ v L, o = .returned v ∧ (QP (some (.int (F1 p0 p1))) h0 n0) v U'.heap L ∧ FrameEnd U o U' L ({ frames := 0, cells := 0, slots := 0, locals := 0 } : Room).cells ({ frames := 0, cells := 0, slots := 0, locals := 0 } : Room).slots) := by
  refine MetFree.of_bodySF (Jvm.Free.JP.mathPlain rfl (by decide +kernel)) hisR ?_
  intro p e s m args below meth c s₁ Bd hml0 hP hK
  obtain ⟨rfl, hZ, hh⟩ := hP
  have hx := Bd.exec
  have hby := Bd.bytes
  have hml : c.maxLocals = 2 := hml0
  have hown : s.vm.findClass "java/lang/Math" = some m.cls := findClass_of_methodNamed Bd.named
  have hnm := (name_of_methodNamed Bd.named Bd.method).1
  have hlk : meth.locks = false := BodyLoose.notSynchronized Bd
  have X0 : Stand p l e ({ frames := 0, cells := 0, slots := 0, locals := 0 } : Room) s m #[(.int p0), (.int p1)] below meth c s₁ [] 0 0 := Stand.of_body Bd
  have e0 : s₁.heap = h0 := by rw [← hh, Bd.state]; rfl
  have N0 := Fr.nil n0
  show Go p e below s (QP (some (.int (F1 p0 p1))) h0 n0) ({ frames := 0, cells := 0, slots := 0, locals := 0 } : Room).cells ({ frames := 0, cells := 0, slots := 0, locals := 0 } : Room).slots (s₁.setTop (entryFrame m #[(.int p0), (.int p1)] 2))
  refine Go.of (fun t k => castTop (ef_1 m p0 p1) k) ?_
  show Go p e below s _ _ _ (s₁.setTop (mkF m 0 #[.val (.int p0), .val (.int p1)] []))
  unfold F1
  refine Go.of (fun t k => XS.iloadN X0.here hx rfl (hb hby d1_0) rfl k) ?_
  show Go p e below s _ _ _ (s₁.setTop (mkF m 1 #[.val (.int p0), .val (.int p1)] [(.int p0)]))
  refine Go.of (fun t k => XS.iloadN X0.here hx rfl (hb hby d1_1) rfl k) ?_
  show Go p e below s _ _ _ (s₁.setTop (mkF m 2 #[.val (.int p0), .val (.int p1)] [(.int p1), (.int p0)]))
  by_cases hc2_1 : p1 < p0
  · rewrite [if_pos hc2_1]
    refine Go.of (fun t k => XS.icmpYes X0.here hx rfl (pc0 := 2) (pc' := 9) rfl (hb hby d1_2) rfl (tlt hc2_1).2.2.1 (by decide) (by decide) k) ?_
    show Go p e below s _ _ _ (s₁.setTop (mkF m 9 #[.val (.int p0), .val (.int p1)] []))
    refine Go.of (fun t k => XS.iloadN X0.here hx rfl (hb hby d1_9) rfl k) ?_
    show Go p e below s _ _ _ (s₁.setTop (mkF m 10 #[.val (.int p0), .val (.int p1)] [(.int p1)]))
    exact Go.ret X0 (some (.int p1)) (fun h => by rw [Bd.returns] at h; cases h) hlk ⟨rfl, N0, e0⟩ (by decide) (by decide) (fun fs hr => (retI X0 hx Bd.returns (hb hby d1_10) hr))
  · rewrite [if_neg hc2_1]
    refine Go.of (fun t k => XS.icmpNo X0.here hx rfl (hb hby d1_2) rfl (flt hc2_1).2.2.1 k) ?_
    show Go p e below s _ _ _ (s₁.setTop (mkF m 5 #[.val (.int p0), .val (.int p1)] []))
    refine Go.of (fun t k => XS.iloadN X0.here hx rfl (hb hby d1_5) rfl k) ?_
    show Go p e below s _ _ _ (s₁.setTop (mkF m 6 #[.val (.int p0), .val (.int p1)] [(.int p0)]))
    refine Go.of (fun t k => XS.goto X0.here hx rfl (pc0 := 6) (pc' := 10) rfl (hb hby d1_6) (by decide) (by decide) k) ?_
    show Go p e below s _ _ _ (s₁.setTop (mkF m 10 #[.val (.int p0), .val (.int p1)] [(.int p0)]))
    exact Go.ret X0 (some (.int p0)) (fun h => by rw [Bd.returns] at h; cases h) hlk ⟨rfl, N0, e0⟩ (by decide) (by decide) (fun fs hr => (retI X0 hx Bd.returns (hb hby d1_10) hr))
theorem d2_0 : decode jdk_29_method_65_code 0 = .ok (.iload_n 0, 1) := by decide +kernel
theorem d2_1 : decode jdk_29_method_65_code 1 = .ok (.iload_n 1, 1) := by decide +kernel
theorem d2_2 : decode jdk_29_method_65_code 2 = .ok (.if_icmp .lt 7, 3) := by decide +kernel
theorem d2_5 : decode jdk_29_method_65_code 5 = .ok (.iload_n 0, 1) := by decide +kernel
theorem d2_6 : decode jdk_29_method_65_code 6 = .ok (.goto 4, 3) := by decide +kernel
theorem d2_9 : decode jdk_29_method_65_code 9 = .ok (.iload_n 1, 1) := by decide +kernel
theorem d2_10 : decode jdk_29_method_65_code 10 = .ok (.ireturn, 1) := by decide +kernel
theorem ef_2 (m : MethodId) (p0 : Int32) (p1 : Int32) : entryFrame m #[(.int p0), (.int p1)] 2 = mkF m 0 #[.val (.int p0), .val (.int p1)] [] := by first | (simp [entryFrame, mkF, argsToLocals, Value.category]; done) | rfl
def F2 (p0 : Int32) (p1 : Int32) : Int32 := (if p0 < p1 then p1 else p0)
set_option maxRecDepth 65536 in
set_option maxHeartbeats 40000000 in
theorem rm2 (l : Launch) (Z : State) (az : Array Value) (hw : ∀ d ∈ tables_1, d.before az Z = true) (ws : List Jvm.Cond) (p0 : Int32) (p1 : Int32)  (h0 : Heap) (n0 : Nat) (Z0 : n0 ≤ h0.size) :
    MetFree l (⟨"java/lang/Math", "max", "(II)I"⟩ : MethodName) (head1 (Jvm.Cond.code (⟨"java/lang/Math", "max", "(II)I"⟩ : MethodName) jdk_29_method_65_code 2 (some .int) :: ws) ({ frames := 0, cells := 0, slots := 0, locals := 0 } : Room)) (fun a U => a = #[(.int p0), (.int p1)] ∧ Z.Warmed39 U.vm ∧ U.heap = h0) (fun _ _ _ _ _ => True) (fun _ U o U' => ∃ v L, o = .returned v ∧ (QP (some (.int (F2 p0 p1))) h0 n0) v U'.heap L ∧ FrameEnd U o U' L ({ frames := 0, cells := 0, slots := 0, locals := 0 } : Room).cells ({ frames := 0, cells := 0, slots := 0, locals := 0 } : Room).slots) := by
  refine MetFree.of_bodySF (Jvm.Free.JP.mathPlain rfl (by decide +kernel)) hisR ?_
  intro p e s m args below meth c s₁ Bd hml0 hP hK
  obtain ⟨rfl, hZ, hh⟩ := hP
  have hx := Bd.exec
  have hby := Bd.bytes
  have hml : c.maxLocals = 2 := hml0
  have hown : s.vm.findClass "java/lang/Math" = some m.cls := findClass_of_methodNamed Bd.named
  have hnm := (name_of_methodNamed Bd.named Bd.method).1
  have hlk : meth.locks = false := BodyLoose.notSynchronized Bd
  have X0 : Stand p l e ({ frames := 0, cells := 0, slots := 0, locals := 0 } : Room) s m #[(.int p0), (.int p1)] below meth c s₁ [] 0 0 := Stand.of_body Bd
  have e0 : s₁.heap = h0 := by rw [← hh, Bd.state]; rfl
  have N0 := Fr.nil n0
  show Go p e below s (QP (some (.int (F2 p0 p1))) h0 n0) ({ frames := 0, cells := 0, slots := 0, locals := 0 } : Room).cells ({ frames := 0, cells := 0, slots := 0, locals := 0 } : Room).slots (s₁.setTop (entryFrame m #[(.int p0), (.int p1)] 2))
  refine Go.of (fun t k => castTop (ef_2 m p0 p1) k) ?_
  show Go p e below s _ _ _ (s₁.setTop (mkF m 0 #[.val (.int p0), .val (.int p1)] []))
  unfold F2
  refine Go.of (fun t k => XS.iloadN X0.here hx rfl (hb hby d2_0) rfl k) ?_
  show Go p e below s _ _ _ (s₁.setTop (mkF m 1 #[.val (.int p0), .val (.int p1)] [(.int p0)]))
  refine Go.of (fun t k => XS.iloadN X0.here hx rfl (hb hby d2_1) rfl k) ?_
  show Go p e below s _ _ _ (s₁.setTop (mkF m 2 #[.val (.int p0), .val (.int p1)] [(.int p1), (.int p0)]))
  by_cases hc2_1 : p0 < p1
  · rewrite [if_pos hc2_1]
    refine Go.of (fun t k => XS.icmpYes X0.here hx rfl (pc0 := 2) (pc' := 9) rfl (hb hby d2_2) rfl (tlt hc2_1).1 (by decide) (by decide) k) ?_
    show Go p e below s _ _ _ (s₁.setTop (mkF m 9 #[.val (.int p0), .val (.int p1)] []))
    refine Go.of (fun t k => XS.iloadN X0.here hx rfl (hb hby d2_9) rfl k) ?_
    show Go p e below s _ _ _ (s₁.setTop (mkF m 10 #[.val (.int p0), .val (.int p1)] [(.int p1)]))
    exact Go.ret X0 (some (.int p1)) (fun h => by rw [Bd.returns] at h; cases h) hlk ⟨rfl, N0, e0⟩ (by decide) (by decide) (fun fs hr => (retI X0 hx Bd.returns (hb hby d2_10) hr))
  · rewrite [if_neg hc2_1]
    refine Go.of (fun t k => XS.icmpNo X0.here hx rfl (hb hby d2_2) rfl (flt hc2_1).1 k) ?_
    show Go p e below s _ _ _ (s₁.setTop (mkF m 5 #[.val (.int p0), .val (.int p1)] []))
    refine Go.of (fun t k => XS.iloadN X0.here hx rfl (hb hby d2_5) rfl k) ?_
    show Go p e below s _ _ _ (s₁.setTop (mkF m 6 #[.val (.int p0), .val (.int p1)] [(.int p0)]))
    refine Go.of (fun t k => XS.goto X0.here hx rfl (pc0 := 6) (pc' := 10) rfl (hb hby d2_6) (by decide) (by decide) k) ?_
    show Go p e below s _ _ _ (s₁.setTop (mkF m 10 #[.val (.int p0), .val (.int p1)] [(.int p0)]))
    exact Go.ret X0 (some (.int p0)) (fun h => by rw [Bd.returns] at h; cases h) hlk ⟨rfl, N0, e0⟩ (by decide) (by decide) (fun fs hr => (retI X0 hx Bd.returns (hb hby d2_10) hr))
theorem own_pn0 : plainName "java/lang/Record" = true := by first | (simp [plainName, overriddenIn]; done) | decide +kernel
theorem d4_0 : decode jdk_30_method_1_code 0 = .ok (.aload_n 0, 1) := by decide +kernel
theorem d4_1 : decode jdk_30_method_1_code 1 = .ok (.invokespecial 1, 3) := by decide +kernel
theorem d4_4 : decode jdk_30_method_1_code 4 = .ok (.return_, 1) := by decide +kernel
theorem ef_4 (m : MethodId) (a0 : Addr) : entryFrame m #[(.ref a0)] 1 = mkF m 0 #[.val (.ref a0)] [] := by first | (simp [entryFrame, mkF, argsToLocals, Value.category]; done) | rfl
set_option maxRecDepth 65536 in
set_option maxHeartbeats 40000000 in
theorem rm4 (l : Launch) (Z : State) (az : Array Value) (hw : ∀ d ∈ tables_1, d.before az Z = true) (ws : List Jvm.Cond) (a0 : Addr)  (h0 : Heap) (n0 : Nat) (Z0 : n0 ≤ h0.size) :
    MetFree l (⟨"java/lang/Record", "<init>", "()V"⟩ : MethodName) (head1 (Jvm.Cond.code (⟨"java/lang/Record", "<init>", "()V"⟩ : MethodName) jdk_30_method_1_code 1 none :: ws) ({ frames := 1, cells := 0, slots := 0, locals := 12 } : Room)) (fun a U => a = #[(.ref a0)] ∧ Z.Warmed39 U.vm ∧ U.heap = h0) (fun _ _ _ _ _ => True) (fun _ U o U' => ∃ v L, o = .returned v ∧ (QP none h0 n0) v U'.heap L ∧ FrameEnd U o U' L ({ frames := 1, cells := 0, slots := 0, locals := 12 } : Room).cells ({ frames := 1, cells := 0, slots := 0, locals := 12 } : Room).slots) := by
  refine MetFree.of_bodySF (plainFor_of_name own_pn0) hisR ?_
  intro p e s m args below meth c s₁ Bd hml0 hP hK
  obtain ⟨rfl, hZ, hh⟩ := hP
  have hx := Bd.exec
  have hby := Bd.bytes
  have hml : c.maxLocals = 1 := hml0
  have hown : s.vm.findClass "java/lang/Record" = some m.cls := findClass_of_methodNamed Bd.named
  have hnm := (name_of_methodNamed Bd.named Bd.method).1
  have hlk : meth.locks = false := BodyLoose.notSynchronized Bd
  have X0 : Stand p l e ({ frames := 1, cells := 0, slots := 0, locals := 12 } : Room) s m #[(.ref a0)] below meth c s₁ [] 0 0 := Stand.of_body Bd
  have e0 : s₁.heap = h0 := by rw [← hh, Bd.state]; rfl
  have N0 := Fr.nil n0
  show Go p e below s (QP none h0 n0) ({ frames := 1, cells := 0, slots := 0, locals := 12 } : Room).cells ({ frames := 1, cells := 0, slots := 0, locals := 12 } : Room).slots (s₁.setTop (entryFrame m #[(.ref a0)] 1))
  refine Go.of (fun t k => castTop (ef_4 m a0) k) ?_
  show Go p e below s _ _ _ (s₁.setTop (mkF m 0 #[.val (.ref a0)] []))
  refine Go.of (fun t k => XS.aloadN X0.here hx rfl (hb hby d4_0) rfl rfl k) ?_
  show Go p e below s _ _ _ (s₁.setTop (mkF m 1 #[.val (.ref a0)] [(.ref a0)]))
  obtain ⟨T1, X1, e1, st1⟩ := initO X0 hx hZ hown (hw _ (List.mem_of_getElem? (i := 19) rfl)) (hw _ (List.mem_of_getElem? (i := 20) rfl)) (hw _ (List.mem_of_getElem? (i := 21) rfl)) e0 (g := (mkF m 1 #[.val (.ref a0)] [(.ref a0)])) rfl (by rw [hml]; rfl) rfl (hb hby d4_1) (by decide) (W := 0) (by show 2 * 0 + _ ≤ _; exact Nat.le_of_eq rfl) (by decide)
  refine Go.of st1 ?_
  show Go p e below s _ _ _ (T1.setTop (mkF m 4 #[.val (.ref a0)] []))
  exact Go.ret X1 none (fun _ => rfl) hlk ⟨rfl, N0, e1⟩ (by decide) (by decide) (fun fs hr => (X1.returnOut hx Bd.returns (hb hby d4_4) hr))
theorem own_pd0 : parseMethodDescriptor "()V" = some ⟨[], none⟩ := by decide +kernel
theorem own_pn1 : plainName "com/example/tallyfold/tallyfold/Statement$Quantity" = true := by first | (simp [plainName, overriddenIn]; done) | decide +kernel
theorem d3_0 : decode prog_84_method_1_code 0 = .ok (.aload_n 0, 1) := by decide +kernel
theorem d3_1 : decode prog_84_method_1_code 1 = .ok (.invokespecial 1, 3) := by decide +kernel
theorem d3_4 : decode prog_84_method_1_code 4 = .ok (.iload_n 1, 1) := by decide +kernel
theorem d3_5 : decode prog_84_method_1_code 5 = .ok (.ifCond .lt 8, 3) := by decide +kernel
theorem d3_8 : decode prog_84_method_1_code 8 = .ok (.iload_n 2, 1) := by decide +kernel
theorem d3_9 : decode prog_84_method_1_code 9 = .ok (.iload_n 1, 1) := by decide +kernel
theorem d3_10 : decode prog_84_method_1_code 10 = .ok (.if_icmp .ge 18, 3) := by decide +kernel
theorem d3_28 : decode prog_84_method_1_code 28 = .ok (.aload_n 0, 1) := by decide +kernel
theorem d3_29 : decode prog_84_method_1_code 29 = .ok (.iload_n 1, 1) := by decide +kernel
theorem d3_30 : decode prog_84_method_1_code 30 = .ok (.putfield 16, 3) := by decide +kernel
theorem d3_33 : decode prog_84_method_1_code 33 = .ok (.aload_n 0, 1) := by decide +kernel
theorem d3_34 : decode prog_84_method_1_code 34 = .ok (.iload_n 2, 1) := by decide +kernel
theorem d3_35 : decode prog_84_method_1_code 35 = .ok (.putfield 22, 3) := by decide +kernel
theorem d3_38 : decode prog_84_method_1_code 38 = .ok (.return_, 1) := by decide +kernel
theorem ef_3 (m : MethodId) (a0 : Addr) (p1 : Int32) (p2 : Int32) : entryFrame m #[(.ref a0), (.int p1), (.int p2)] 3 = mkF m 0 #[.val (.ref a0), .val (.int p1), .val (.int p2)] [] := by first | (simp [entryFrame, mkF, argsToLocals, Value.category]; done) | rfl
def Q3 (Z : State) (a0 : Addr) (p1 : Int32) (p2 : Int32) (u_min_a0 : Value) (u_max_a0 : Value) (h0 : Heap) (n0 : Nat) (v : Option Value) (h : Heap) (L : List Loc) : Prop := v = none ∧ Fr n0 L ∧ Keep h0 h [a0] ∧ Exa Z h a0 "com/example/tallyfold/tallyfold/Statement$Quantity" ∧ Fld Z h a0 "com/example/tallyfold/tallyfold/Statement$Quantity" "min" "I" (.int p1) ∧ Fld Z h a0 "com/example/tallyfold/tallyfold/Statement$Quantity" "max" "I" (.int p2)
set_option maxRecDepth 65536 in
set_option maxHeartbeats 40000000 in
theorem rm3 (l : Launch) (Z : State) (az : Array Value) (hw : ∀ d ∈ tables_1, d.before az Z = true) (ws : List Jvm.Cond) (a0 : Addr) (p1 : Int32) (p2 : Int32) (u_min_a0 : Value) (u_max_a0 : Value) (h0 : Heap) (n0 : Nat) (Z0 : n0 ≤ h0.size) (E_a0 : Exa Z h0 a0 "com/example/tallyfold/tallyfold/Statement$Quantity") (Fp_min_a0 : Fld Z h0 a0 "com/example/tallyfold/tallyfold/Statement$Quantity" "min" "I" u_min_a0) (Fp_max_a0 : Fld Z h0 a0 "com/example/tallyfold/tallyfold/Statement$Quantity" "max" "I" u_max_a0) (g_a0 : n0 ≤ a0) (hlo : ¬ (p1 < (0 : Int32))) (hhi : ¬ (p2 < p1)) :
    MetFree l (⟨"com/example/tallyfold/tallyfold/Statement$Quantity", "<init>", "(II)V"⟩ : MethodName) (head1 (Jvm.Cond.code (⟨"com/example/tallyfold/tallyfold/Statement$Quantity", "<init>", "(II)V"⟩ : MethodName) prog_84_method_1_code 3 none :: ws) ({ frames := 2, cells := 0, slots := 0, locals := 24 } : Room)) (fun a U => a = #[(.ref a0), (.int p1), (.int p2)] ∧ Z.Warmed39 U.vm ∧ U.heap = h0) (fun _ _ _ _ _ => True) (fun _ U o U' => ∃ v L, o = .returned v ∧ (Q3 Z a0 p1 p2 u_min_a0 u_max_a0 h0 n0) v U'.heap L ∧ FrameEnd U o U' L ({ frames := 2, cells := 0, slots := 0, locals := 24 } : Room).cells ({ frames := 2, cells := 0, slots := 0, locals := 24 } : Room).slots) := by
  refine MetFree.of_bodySF (plainFor_of_name own_pn1) hisR ?_
  intro p e s m args below meth c s₁ Bd hml0 hP hK
  obtain ⟨rfl, hZ, hh⟩ := hP
  have hx := Bd.exec
  have hby := Bd.bytes
  have hml : c.maxLocals = 3 := hml0
  have hown : s.vm.findClass "com/example/tallyfold/tallyfold/Statement$Quantity" = some m.cls := findClass_of_methodNamed Bd.named
  have hnm := (name_of_methodNamed Bd.named Bd.method).1
  have hlk : meth.locks = false := BodyLoose.notSynchronized Bd
  have X0 : Stand p l e ({ frames := 2, cells := 0, slots := 0, locals := 24 } : Room) s m #[(.ref a0), (.int p1), (.int p2)] below meth c s₁ [] 0 0 := Stand.of_body Bd
  have e0 : s₁.heap = h0 := by rw [← hh, Bd.state]; rfl
  have N0 := Fr.nil n0
  show Go p e below s (Q3 Z a0 p1 p2 u_min_a0 u_max_a0 h0 n0) ({ frames := 2, cells := 0, slots := 0, locals := 24 } : Room).cells ({ frames := 2, cells := 0, slots := 0, locals := 24 } : Room).slots (s₁.setTop (entryFrame m #[(.ref a0), (.int p1), (.int p2)] 3))
  refine Go.of (fun t k => castTop (ef_3 m a0 p1 p2) k) ?_
  show Go p e below s _ _ _ (s₁.setTop (mkF m 0 #[.val (.ref a0), .val (.int p1), .val (.int p2)] []))
  refine Go.of (fun t k => XS.aloadN X0.here hx rfl (hb hby d3_0) rfl rfl k) ?_
  show Go p e below s _ _ _ (s₁.setTop (mkF m 1 #[.val (.ref a0), .val (.int p1), .val (.int p2)] [(.ref a0)]))
  obtain ⟨_, _, ⟨T1, L1, k1, n1⟩, -, X1, ⟨Lc1, hQ1, l1, y1, z1⟩, st1⟩ := X0.specialBack hx (y := (⟨"java/lang/Record", "<init>", "()V"⟩ : MethodName)) rfl hown (mvT hZ (hw _ (List.mem_of_getElem? (i := 14) rfl))) (mvT hZ (hw _ (List.mem_of_getElem? (i := 15) rfl))) (mvT hZ (hw _ (List.mem_of_getElem? (i := 18) rfl))) (by decide) (backOf (W := 0) (rm4 l Z az hw [] a0  h0 n0 Z0 ) hZ (hw _ (List.mem_of_getElem? (i := 18) rfl)) (hw _ (List.mem_of_getElem? (i := 17) rfl)) (by decide) (by decide)) (g := (mkF m 1 #[.val (.ref a0), .val (.int p1), .val (.int p2)] [(.ref a0)])) rfl (by rw [hml]; rfl) (Steps.refl _) (a := a0) (argsL := []) (rest := []) (lenOf own_pd0 rfl) rfl (by show 2 * 0 + _ ≤ _; exact Nat.le_of_eq rfl) (hb hby d3_1) (fun _ _ => ⟨rfl, e0, (by decide : 0 + 0 ≤ _), (by decide : 0 + 0 ≤ _)⟩)
  dsimp only [Pt.U, Pt.locs, Pt.cells, Pt.slots] at X1 l1 y1 z1 st1 hQ1
  subst l1 y1 z1
  obtain ⟨rfl, N1q, e1⟩ := hQ1
  have N1 := Fr.app N0 N1q
  refine Go.of (fun t k => st1.trans k) ?_
  show Go p e below s _ _ _ (T1.setTop (mkF m 4 #[.val (.ref a0), .val (.int p1), .val (.int p2)] []))
  refine Go.of (fun t k => XS.iloadN X1.here hx rfl (hb hby d3_4) rfl k) ?_
  show Go p e below s _ _ _ (T1.setTop (mkF m 5 #[.val (.ref a0), .val (.int p1), .val (.int p2)] [(.int p1)]))
  refine Go.of (fun t k => XS.ifNo X1.here hx rfl (hb hby d3_5) rfl ((if0 _ _).trans (flt hlo).1) k) ?_
  show Go p e below s _ _ _ (T1.setTop (mkF m 8 #[.val (.ref a0), .val (.int p1), .val (.int p2)] []))
  refine Go.of (fun t k => XS.iloadN X1.here hx rfl (hb hby d3_8) rfl k) ?_
  show Go p e below s _ _ _ (T1.setTop (mkF m 9 #[.val (.ref a0), .val (.int p1), .val (.int p2)] [(.int p2)]))
  refine Go.of (fun t k => XS.iloadN X1.here hx rfl (hb hby d3_9) rfl k) ?_
  show Go p e below s _ _ _ (T1.setTop (mkF m 10 #[.val (.ref a0), .val (.int p1), .val (.int p2)] [(.int p1), (.int p2)]))
  refine Go.of (fun t k => XS.icmpYes X1.here hx rfl (pc0 := 10) (pc' := 28) rfl (hb hby d3_10) rfl (flt hhi).2.1 (by decide) (by decide) k) ?_
  show Go p e below s _ _ _ (T1.setTop (mkF m 28 #[.val (.ref a0), .val (.int p1), .val (.int p2)] []))
  refine Go.of (fun t k => XS.aloadN X1.here hx rfl (hb hby d3_28) rfl rfl k) ?_
  show Go p e below s _ _ _ (T1.setTop (mkF m 29 #[.val (.ref a0), .val (.int p1), .val (.int p2)] [(.ref a0)]))
  refine Go.of (fun t k => XS.iloadN X1.here hx rfl (hb hby d3_29) rfl k) ?_
  show Go p e below s _ _ _ (T1.setTop (mkF m 30 #[.val (.ref a0), .val (.int p1), .val (.int p2)] [(.int p1), (.ref a0)]))
  obtain ⟨T2, h2, X2, e2, W2, st2⟩ := putF X1 hx hZ hown (host := "") (Or.inl (hw _ (List.mem_of_getElem? (i := 22) rfl))) Via.refl e1 Fp_min_a0 E_a0 (Or.inr ⟨(hw _ (List.mem_of_getElem? (i := 23) rfl)), rfl, hnm⟩) (hw _ (List.mem_of_getElem? (i := 9) rfl)) (ty := .int) (by decide) rfl rfl (g := (mkF m 30 #[.val (.ref a0), .val (.int p1), .val (.int p2)] [(.int p1), (.ref a0)])) rfl rfl (hb hby d3_30)
  have f3 := Fp_min_a0.same W2
  have f4 := E_a0.wr W2
  have f5 := Fp_max_a0.other W2 (Or.inr (slot_ne (Or.inr (hw _ (List.mem_of_getElem? (i := 25) rfl))) (Or.inr (hw _ (List.mem_of_getElem? (i := 23) rfl))) (by decide) (t := .int) (t' := .int) (by decide) (by decide)))
  have N2 := Fr.snoc X2 N1 g_a0
  have K2 : Keep h0 h2 [a0] := Keep.wr (Keep.refl h0 [a0]) W2 (Or.inl (List.mem_of_getElem? (i := 0) rfl))
  refine Go.of st2 ?_
  show Go p e below s _ _ _ (T2.setTop (mkF m 33 #[.val (.ref a0), .val (.int p1), .val (.int p2)] []))
  refine Go.of (fun t k => XS.aloadN X2.here hx rfl (hb hby d3_33) rfl rfl k) ?_
  show Go p e below s _ _ _ (T2.setTop (mkF m 34 #[.val (.ref a0), .val (.int p1), .val (.int p2)] [(.ref a0)]))
  refine Go.of (fun t k => XS.iloadN X2.here hx rfl (hb hby d3_34) rfl k) ?_
  show Go p e below s _ _ _ (T2.setTop (mkF m 35 #[.val (.ref a0), .val (.int p1), .val (.int p2)] [(.int p2), (.ref a0)]))
  obtain ⟨T6, h6, X6, e6, W6, st6⟩ := putF X2 hx hZ hown (host := "") (Or.inl (hw _ (List.mem_of_getElem? (i := 24) rfl))) Via.refl e2 f5 f4 (Or.inr ⟨(hw _ (List.mem_of_getElem? (i := 25) rfl)), rfl, hnm⟩) (hw _ (List.mem_of_getElem? (i := 9) rfl)) (ty := .int) (by decide) rfl rfl (g := (mkF m 35 #[.val (.ref a0), .val (.int p1), .val (.int p2)] [(.int p2), (.ref a0)])) rfl rfl (hb hby d3_35)
  have f7 := f5.same W6
  have f8 := f4.wr W6
  have f9 := f3.other W6 (Or.inr (slot_ne (Or.inr (hw _ (List.mem_of_getElem? (i := 23) rfl))) (Or.inr (hw _ (List.mem_of_getElem? (i := 25) rfl))) (by decide) (t := .int) (t' := .int) (by decide) (by decide)))
  have N6 := Fr.snoc X6 N2 g_a0
  have K6 : Keep h0 h6 [a0] := Keep.wr K2 W6 (Or.inl (List.mem_of_getElem? (i := 0) rfl))
  refine Go.of st6 ?_
  show Go p e below s _ _ _ (T6.setTop (mkF m 38 #[.val (.ref a0), .val (.int p1), .val (.int p2)] []))
  exact Go.ret X6 none (fun _ => rfl) hlk (by rw [e6]; exact ⟨rfl, N6, K6, f8, f9, f7⟩) (by decide) (by decide) (fun fs hr => (X6.returnOut hx Bd.returns (hb hby d3_38) hr))
theorem d6_0 : decode prog_84_method_2_code 0 = .ok (.iload_n 1, 1) := by decide +kernel
theorem d6_1 : decode prog_84_method_2_code 1 = .ok (.aload_n 0, 1) := by decide +kernel
theorem d6_2 : decode prog_84_method_2_code 2 = .ok (.getfield 16, 3) := by decide +kernel
theorem d6_5 : decode prog_84_method_2_code 5 = .ok (.if_icmp .lt 15, 3) := by decide +kernel
theorem d6_8 : decode prog_84_method_2_code 8 = .ok (.iload_n 1, 1) := by decide +kernel
theorem d6_9 : decode prog_84_method_2_code 9 = .ok (.aload_n 0, 1) := by decide +kernel
theorem d6_10 : decode prog_84_method_2_code 10 = .ok (.getfield 22, 3) := by decide +kernel
theorem d6_13 : decode prog_84_method_2_code 13 = .ok (.if_icmp .gt 7, 3) := by decide +kernel
theorem d6_16 : decode prog_84_method_2_code 16 = .ok (.iconst 1, 1) := by decide +kernel
theorem d6_17 : decode prog_84_method_2_code 17 = .ok (.goto 4, 3) := by decide +kernel
theorem d6_20 : decode prog_84_method_2_code 20 = .ok (.iconst 0, 1) := by decide +kernel
theorem d6_21 : decode prog_84_method_2_code 21 = .ok (.ireturn, 1) := by decide +kernel
theorem ef_6 (m : MethodId) (a0 : Addr) (p1 : Int32) : entryFrame m #[(.ref a0), (.int p1)] 2 = mkF m 0 #[.val (.ref a0), .val (.int p1)] [] := by first | (simp [entryFrame, mkF, argsToLocals, Value.category]; done) | rfl
def F6 (p1 : Int32) (u_min_a0 : Int32) (u_max_a0 : Int32) : Int32 := (if p1 < u_min_a0 then (0 : Int32) else (if u_max_a0 < p1 then (0 : Int32) else (1 : Int32)))
set_option maxRecDepth 65536 in
set_option maxHeartbeats 40000000 in
theorem rm6 (l : Launch) (Z : State) (az : Array Value) (hw : ∀ d ∈ tables_1, d.before az Z = true) (ws : List Jvm.Cond) (a0 : Addr) (p1 : Int32) (u_min_a0 : Int32) (u_max_a0 : Int32) (h0 : Heap) (n0 : Nat) (Z0 : n0 ≤ h0.size) (Fp_min_a0 : Fld Z h0 a0 "com/example/tallyfold/tallyfold/Statement$Quantity" "min" "I" (.int u_min_a0)) (Fp_max_a0 : Fld Z h0 a0 "com/example/tallyfold/tallyfold/Statement$Quantity" "max" "I" (.int u_max_a0)) :
    MetFree l (⟨"com/example/tallyfold/tallyfold/Statement$Quantity", "accepts", "(I)Z"⟩ : MethodName) (head1 (Jvm.Cond.code (⟨"com/example/tallyfold/tallyfold/Statement$Quantity", "accepts", "(I)Z"⟩ : MethodName) prog_84_method_2_code 2 (some .boolean) :: ws) ({ frames := 0, cells := 0, slots := 0, locals := 0 } : Room)) (fun a U => a = #[(.ref a0), (.int p1)] ∧ Z.Warmed39 U.vm ∧ U.heap = h0) (fun _ _ _ _ _ => True) (fun _ U o U' => ∃ v L, o = .returned v ∧ (QP (some (.int (F6 p1 u_min_a0 u_max_a0))) h0 n0) v U'.heap L ∧ FrameEnd U o U' L ({ frames := 0, cells := 0, slots := 0, locals := 0 } : Room).cells ({ frames := 0, cells := 0, slots := 0, locals := 0 } : Room).slots) := by
  refine MetFree.of_bodySF (plainFor_of_name own_pn1) hisR ?_
  intro p e s m args below meth c s₁ Bd hml0 hP hK
  obtain ⟨rfl, hZ, hh⟩ := hP
  have hx := Bd.exec
  have hby := Bd.bytes
  have hml : c.maxLocals = 2 := hml0
  have hown : s.vm.findClass "com/example/tallyfold/tallyfold/Statement$Quantity" = some m.cls := findClass_of_methodNamed Bd.named
  have hnm := (name_of_methodNamed Bd.named Bd.method).1
  have hlk : meth.locks = false := BodyLoose.notSynchronized Bd
  have X0 : Stand p l e ({ frames := 0, cells := 0, slots := 0, locals := 0 } : Room) s m #[(.ref a0), (.int p1)] below meth c s₁ [] 0 0 := Stand.of_body Bd
  have e0 : s₁.heap = h0 := by rw [← hh, Bd.state]; rfl
  have N0 := Fr.nil n0
  show Go p e below s (QP (some (.int (F6 p1 u_min_a0 u_max_a0))) h0 n0) ({ frames := 0, cells := 0, slots := 0, locals := 0 } : Room).cells ({ frames := 0, cells := 0, slots := 0, locals := 0 } : Room).slots (s₁.setTop (entryFrame m #[(.ref a0), (.int p1)] 2))
  refine Go.of (fun t k => castTop (ef_6 m a0 p1) k) ?_
  show Go p e below s _ _ _ (s₁.setTop (mkF m 0 #[.val (.ref a0), .val (.int p1)] []))
  unfold F6
  refine Go.of (fun t k => XS.iloadN X0.here hx rfl (hb hby d6_0) rfl k) ?_
  show Go p e below s _ _ _ (s₁.setTop (mkF m 1 #[.val (.ref a0), .val (.int p1)] [(.int p1)]))
  refine Go.of (fun t k => XS.aloadN X0.here hx rfl (hb hby d6_1) rfl rfl k) ?_
  show Go p e below s _ _ _ (s₁.setTop (mkF m 2 #[.val (.ref a0), .val (.int p1)] [(.ref a0), (.int p1)]))
  obtain ⟨T1, X1, e1, st1⟩ := getF X0 hx hZ hown (host := "") (Or.inl (hw _ (List.mem_of_getElem? (i := 22) rfl))) Via.refl e0 Fp_min_a0 (g := (mkF m 2 #[.val (.ref a0), .val (.int p1)] [(.ref a0), (.int p1)])) rfl rfl (hb hby d6_2)
  refine Go.of st1 ?_
  show Go p e below s _ _ _ (T1.setTop (mkF m 5 #[.val (.ref a0), .val (.int p1)] [(.int u_min_a0), (.int p1)]))
  by_cases hc5_2 : p1 < u_min_a0
  · rewrite [if_pos hc5_2]
    refine Go.of (fun t k => XS.icmpYes X1.here hx rfl (pc0 := 5) (pc' := 20) rfl (hb hby d6_5) rfl (tlt hc5_2).1 (by decide) (by decide) k) ?_
    show Go p e below s _ _ _ (T1.setTop (mkF m 20 #[.val (.ref a0), .val (.int p1)] []))
    refine Go.of (fun t k => XS.iconst X1.here hx rfl (hb hby d6_20) k) ?_
    show Go p e below s _ _ _ (T1.setTop (mkF m 21 #[.val (.ref a0), .val (.int p1)] [(.int (0 : Int32))]))
    exact Go.ret X1 (some (.int (0 : Int32))) (fun h => by rw [Bd.returns] at h; cases h) hlk ⟨rfl, N0, e1⟩ (by decide) (by decide) (fun fs hr => (retN X1 hx (t := .boolean) Bd.returns (by simp) (hb hby d6_21) hr))
  · rewrite [if_neg hc5_2]
    refine Go.of (fun t k => XS.icmpNo X1.here hx rfl (hb hby d6_5) rfl (flt hc5_2).1 k) ?_
    show Go p e below s _ _ _ (T1.setTop (mkF m 8 #[.val (.ref a0), .val (.int p1)] []))
    refine Go.of (fun t k => XS.iloadN X1.here hx rfl (hb hby d6_8) rfl k) ?_
    show Go p e below s _ _ _ (T1.setTop (mkF m 9 #[.val (.ref a0), .val (.int p1)] [(.int p1)]))
    refine Go.of (fun t k => XS.aloadN X1.here hx rfl (hb hby d6_9) rfl rfl k) ?_
    show Go p e below s _ _ _ (T1.setTop (mkF m 10 #[.val (.ref a0), .val (.int p1)] [(.ref a0), (.int p1)]))
    obtain ⟨T3, X3, e3, st3⟩ := getF X1 hx hZ hown (host := "") (Or.inl (hw _ (List.mem_of_getElem? (i := 24) rfl))) Via.refl e1 Fp_max_a0 (g := (mkF m 10 #[.val (.ref a0), .val (.int p1)] [(.ref a0), (.int p1)])) rfl rfl (hb hby d6_10)
    refine Go.of st3 ?_
    show Go p e below s _ _ _ (T3.setTop (mkF m 13 #[.val (.ref a0), .val (.int p1)] [(.int u_max_a0), (.int p1)]))
    by_cases hc13_4 : u_max_a0 < p1
    · rewrite [if_pos hc13_4]
      refine Go.of (fun t k => XS.icmpYes X3.here hx rfl (pc0 := 13) (pc' := 20) rfl (hb hby d6_13) rfl (tlt hc13_4).2.2.1 (by decide) (by decide) k) ?_
      show Go p e below s _ _ _ (T3.setTop (mkF m 20 #[.val (.ref a0), .val (.int p1)] []))
      refine Go.of (fun t k => XS.iconst X3.here hx rfl (hb hby d6_20) k) ?_
      show Go p e below s _ _ _ (T3.setTop (mkF m 21 #[.val (.ref a0), .val (.int p1)] [(.int (0 : Int32))]))
      exact Go.ret X3 (some (.int (0 : Int32))) (fun h => by rw [Bd.returns] at h; cases h) hlk ⟨rfl, N0, e3⟩ (by decide) (by decide) (fun fs hr => (retN X3 hx (t := .boolean) Bd.returns (by simp) (hb hby d6_21) hr))
    · rewrite [if_neg hc13_4]
      refine Go.of (fun t k => XS.icmpNo X3.here hx rfl (hb hby d6_13) rfl (flt hc13_4).2.2.1 k) ?_
      show Go p e below s _ _ _ (T3.setTop (mkF m 16 #[.val (.ref a0), .val (.int p1)] []))
      refine Go.of (fun t k => XS.iconst X3.here hx rfl (hb hby d6_16) k) ?_
      show Go p e below s _ _ _ (T3.setTop (mkF m 17 #[.val (.ref a0), .val (.int p1)] [(.int (1 : Int32))]))
      refine Go.of (fun t k => XS.goto X3.here hx rfl (pc0 := 17) (pc' := 21) rfl (hb hby d6_17) (by decide) (by decide) k) ?_
      show Go p e below s _ _ _ (T3.setTop (mkF m 21 #[.val (.ref a0), .val (.int p1)] [(.int (1 : Int32))]))
      exact Go.ret X3 (some (.int (1 : Int32))) (fun h => by rw [Bd.returns] at h; cases h) hlk ⟨rfl, N0, e3⟩ (by decide) (by decide) (fun fs hr => (retN X3 hx (t := .boolean) Bd.returns (by simp) (hb hby d6_21) hr))
theorem d7_0 : decode prog_84_method_8_code 0 = .ok (.aload_n 0, 1) := by decide +kernel
theorem d7_1 : decode prog_84_method_8_code 1 = .ok (.getfield 16, 3) := by decide +kernel
theorem d7_4 : decode prog_84_method_8_code 4 = .ok (.ireturn, 1) := by decide +kernel
theorem ef_7 (m : MethodId) (a0 : Addr) : entryFrame m #[(.ref a0)] 1 = mkF m 0 #[.val (.ref a0)] [] := by first | (simp [entryFrame, mkF, argsToLocals, Value.category]; done) | rfl
def F7 (u_min_a0 : Int32) : Int32 := u_min_a0
set_option maxRecDepth 65536 in
set_option maxHeartbeats 40000000 in
theorem rm7 (l : Launch) (Z : State) (az : Array Value) (hw : ∀ d ∈ tables_1, d.before az Z = true) (ws : List Jvm.Cond) (a0 : Addr) (u_min_a0 : Int32) (h0 : Heap) (n0 : Nat) (Z0 : n0 ≤ h0.size) (Fp_min_a0 : Fld Z h0 a0 "com/example/tallyfold/tallyfold/Statement$Quantity" "min" "I" (.int u_min_a0)) :
    MetFree l (⟨"com/example/tallyfold/tallyfold/Statement$Quantity", "min", "()I"⟩ : MethodName) (head1 (Jvm.Cond.code (⟨"com/example/tallyfold/tallyfold/Statement$Quantity", "min", "()I"⟩ : MethodName) prog_84_method_8_code 1 (some .int) :: ws) ({ frames := 0, cells := 0, slots := 0, locals := 0 } : Room)) (fun a U => a = #[(.ref a0)] ∧ Z.Warmed39 U.vm ∧ U.heap = h0) (fun _ _ _ _ _ => True) (fun _ U o U' => ∃ v L, o = .returned v ∧ (QP (some (.int (F7 u_min_a0))) h0 n0) v U'.heap L ∧ FrameEnd U o U' L ({ frames := 0, cells := 0, slots := 0, locals := 0 } : Room).cells ({ frames := 0, cells := 0, slots := 0, locals := 0 } : Room).slots) := by
  refine MetFree.of_bodySF (plainFor_of_name own_pn1) hisR ?_
  intro p e s m args below meth c s₁ Bd hml0 hP hK
  obtain ⟨rfl, hZ, hh⟩ := hP
  have hx := Bd.exec
  have hby := Bd.bytes
  have hml : c.maxLocals = 1 := hml0
  have hown : s.vm.findClass "com/example/tallyfold/tallyfold/Statement$Quantity" = some m.cls := findClass_of_methodNamed Bd.named
  have hnm := (name_of_methodNamed Bd.named Bd.method).1
  have hlk : meth.locks = false := BodyLoose.notSynchronized Bd
  have X0 : Stand p l e ({ frames := 0, cells := 0, slots := 0, locals := 0 } : Room) s m #[(.ref a0)] below meth c s₁ [] 0 0 := Stand.of_body Bd
  have e0 : s₁.heap = h0 := by rw [← hh, Bd.state]; rfl
  have N0 := Fr.nil n0
  show Go p e below s (QP (some (.int (F7 u_min_a0))) h0 n0) ({ frames := 0, cells := 0, slots := 0, locals := 0 } : Room).cells ({ frames := 0, cells := 0, slots := 0, locals := 0 } : Room).slots (s₁.setTop (entryFrame m #[(.ref a0)] 1))
  refine Go.of (fun t k => castTop (ef_7 m a0) k) ?_
  show Go p e below s _ _ _ (s₁.setTop (mkF m 0 #[.val (.ref a0)] []))
  unfold F7
  refine Go.of (fun t k => XS.aloadN X0.here hx rfl (hb hby d7_0) rfl rfl k) ?_
  show Go p e below s _ _ _ (s₁.setTop (mkF m 1 #[.val (.ref a0)] [(.ref a0)]))
  obtain ⟨T1, X1, e1, st1⟩ := getF X0 hx hZ hown (host := "") (Or.inl (hw _ (List.mem_of_getElem? (i := 22) rfl))) Via.refl e0 Fp_min_a0 (g := (mkF m 1 #[.val (.ref a0)] [(.ref a0)])) rfl rfl (hb hby d7_1)
  refine Go.of st1 ?_
  show Go p e below s _ _ _ (T1.setTop (mkF m 4 #[.val (.ref a0)] [(.int u_min_a0)]))
  exact Go.ret X1 (some (.int u_min_a0)) (fun h => by rw [Bd.returns] at h; cases h) hlk ⟨rfl, N0, e1⟩ (by decide) (by decide) (fun fs hr => (retI X1 hx Bd.returns (hb hby d7_4) hr))
theorem d8_0 : decode prog_84_method_9_code 0 = .ok (.aload_n 0, 1) := by decide +kernel
theorem d8_1 : decode prog_84_method_9_code 1 = .ok (.getfield 22, 3) := by decide +kernel
theorem d8_4 : decode prog_84_method_9_code 4 = .ok (.ireturn, 1) := by decide +kernel
theorem ef_8 (m : MethodId) (a0 : Addr) : entryFrame m #[(.ref a0)] 1 = mkF m 0 #[.val (.ref a0)] [] := by first | (simp [entryFrame, mkF, argsToLocals, Value.category]; done) | rfl
def F8 (u_max_a0 : Int32) : Int32 := u_max_a0
set_option maxRecDepth 65536 in
set_option maxHeartbeats 40000000 in
theorem rm8 (l : Launch) (Z : State) (az : Array Value) (hw : ∀ d ∈ tables_1, d.before az Z = true) (ws : List Jvm.Cond) (a0 : Addr) (u_max_a0 : Int32) (h0 : Heap) (n0 : Nat) (Z0 : n0 ≤ h0.size) (Fp_max_a0 : Fld Z h0 a0 "com/example/tallyfold/tallyfold/Statement$Quantity" "max" "I" (.int u_max_a0)) :
    MetFree l (⟨"com/example/tallyfold/tallyfold/Statement$Quantity", "max", "()I"⟩ : MethodName) (head1 (Jvm.Cond.code (⟨"com/example/tallyfold/tallyfold/Statement$Quantity", "max", "()I"⟩ : MethodName) prog_84_method_9_code 1 (some .int) :: ws) ({ frames := 0, cells := 0, slots := 0, locals := 0 } : Room)) (fun a U => a = #[(.ref a0)] ∧ Z.Warmed39 U.vm ∧ U.heap = h0) (fun _ _ _ _ _ => True) (fun _ U o U' => ∃ v L, o = .returned v ∧ (QP (some (.int (F8 u_max_a0))) h0 n0) v U'.heap L ∧ FrameEnd U o U' L ({ frames := 0, cells := 0, slots := 0, locals := 0 } : Room).cells ({ frames := 0, cells := 0, slots := 0, locals := 0 } : Room).slots) := by
  refine MetFree.of_bodySF (plainFor_of_name own_pn1) hisR ?_
  intro p e s m args below meth c s₁ Bd hml0 hP hK
  obtain ⟨rfl, hZ, hh⟩ := hP
  have hx := Bd.exec
  have hby := Bd.bytes
  have hml : c.maxLocals = 1 := hml0
  have hown : s.vm.findClass "com/example/tallyfold/tallyfold/Statement$Quantity" = some m.cls := findClass_of_methodNamed Bd.named
  have hnm := (name_of_methodNamed Bd.named Bd.method).1
  have hlk : meth.locks = false := BodyLoose.notSynchronized Bd
  have X0 : Stand p l e ({ frames := 0, cells := 0, slots := 0, locals := 0 } : Room) s m #[(.ref a0)] below meth c s₁ [] 0 0 := Stand.of_body Bd
  have e0 : s₁.heap = h0 := by rw [← hh, Bd.state]; rfl
  have N0 := Fr.nil n0
  show Go p e below s (QP (some (.int (F8 u_max_a0))) h0 n0) ({ frames := 0, cells := 0, slots := 0, locals := 0 } : Room).cells ({ frames := 0, cells := 0, slots := 0, locals := 0 } : Room).slots (s₁.setTop (entryFrame m #[(.ref a0)] 1))
  refine Go.of (fun t k => castTop (ef_8 m a0) k) ?_
  show Go p e below s _ _ _ (s₁.setTop (mkF m 0 #[.val (.ref a0)] []))
  unfold F8
  refine Go.of (fun t k => XS.aloadN X0.here hx rfl (hb hby d8_0) rfl rfl k) ?_
  show Go p e below s _ _ _ (s₁.setTop (mkF m 1 #[.val (.ref a0)] [(.ref a0)]))
  obtain ⟨T1, X1, e1, st1⟩ := getF X0 hx hZ hown (host := "") (Or.inl (hw _ (List.mem_of_getElem? (i := 24) rfl))) Via.refl e0 Fp_max_a0 (g := (mkF m 1 #[.val (.ref a0)] [(.ref a0)])) rfl rfl (hb hby d8_1)
  refine Go.of st1 ?_
  show Go p e below s _ _ _ (T1.setTop (mkF m 4 #[.val (.ref a0)] [(.int u_max_a0)]))
  exact Go.ret X1 (some (.int u_max_a0)) (fun h => by rw [Bd.returns] at h; cases h) hlk ⟨rfl, N0, e1⟩ (by decide) (by decide) (fun fs hr => (retI X1 hx Bd.returns (hb hby d8_4) hr))
theorem own_m0 (a : Int32) : 0 ≤ (a &&& (2147483647 : Int32)).toInt := by
  have m := c_mask a 2147483647 31 (by decide) (by decide)
  omega
theorem own_z : (0 : Int32).toInt = 0 := by decide
theorem own_i39a (a b : Int32) : ¬ ((0 : Int32) < (0 : Int32)) ∧ ¬ ((F2 (a &&& (2147483647 : Int32)) (b &&& (2147483647 : Int32))) < (0 : Int32)) := by
  have h1 := own_m0 a; have h2 := own_m0 b; have z := own_z
  refine ⟨by decide, ?_⟩
  unfold F2
  rw [Int32.lt_iff_toInt_lt]
  split <;> omega
theorem own_i39b (a b : Int32) : ¬ ((F1 (a &&& (2147483647 : Int32)) (b &&& (2147483647 : Int32))) < (0 : Int32)) ∧ ¬ ((F2 (a &&& (2147483647 : Int32)) (b &&& (2147483647 : Int32))) < (F1 (a &&& (2147483647 : Int32)) (b &&& (2147483647 : Int32)))) := by
  have h1 := own_m0 a; have h2 := own_m0 b; have z := own_z
  unfold F1 F2
  simp only [Int32.lt_iff_toInt_lt]
  refine ⟨?_, ?_⟩ <;> (repeat' split) <;> omega
theorem own_i67a {x y : Int32} (h : ¬ (x < (0 : Int32)) ∧ ¬ (y < x)) : ¬ (x < (0 : Int32)) ∧ ¬ ((2147483647 : Int32) < x) := by
  refine ⟨h.1, ?_⟩
  rw [Int32.lt_iff_toInt_lt]
  have := rng32 x
  have e : (2147483647 : Int32).toInt = 2147483647 := by decide
  omega
theorem own_i67c {x y : Int32} (h : ¬ (x < (0 : Int32)) ∧ ¬ (y < x)) : ¬ (x < (0 : Int32)) ∧ ¬ (x < x) := by
  refine ⟨h.1, ?_⟩
  rw [Int32.lt_iff_toInt_lt]
  omega
theorem own_pd1 : parseMethodDescriptor "(II)I" = some ⟨[.int, .int], some .int⟩ := by decide +kernel
theorem own_pd2 : parseMethodDescriptor "(II)V" = some ⟨[.int, .int], none⟩ := by decide +kernel
theorem own_pd3 : parseMethodDescriptor "(I)Z" = some ⟨[.int], some .boolean⟩ := by decide +kernel
theorem own_pd4 : parseMethodDescriptor "()I" = some ⟨[], some .int⟩ := by decide +kernel
theorem own_pn2 : plainName "com/example/tallyfold/tallyfold/QuantityAcceptsPinLaw" = true := by first | (simp [plainName, overriddenIn]; done) | decide +kernel
theorem ef_0 (m : MethodId) (p0 : Int32) (p1 : Int32) (p2 : Int32) (p3 : Int32) : entryFrame m #[(.int p0), (.int p1), (.int p2), (.int p3)] maxLocals = mkF m 0 #[.val (.int p0), .val (.int p1), .val (.int p2), .val (.int p3), .unset, .unset, .unset, .unset, .unset, .unset, .unset, .unset, .unset, .unset, .unset, .unset, .unset] [] := by first | (simp [entryFrame, mkF, argsToLocals, Value.category, maxLocals]; done) | rfl
def F0_182 (v6_39 : Int32) (v7_67 : Int32) (v11_144 : Int32) (w0_182 : Int32) : Int32 := (if (F6 v11_144 v6_39 v7_67) = w0_182 then (if (F7 v6_39) = v6_39 then (if (F8 v7_67) = v7_67 then (1 : Int32) else (0 : Int32)) else (0 : Int32)) else (0 : Int32))
def F0_181 (v6_39 : Int32) (v7_67 : Int32) (v11_144 : Int32) : Int32 := (F0_182 v6_39 v7_67 v11_144 (0 : Int32))
def F0_144 (v6_39 : Int32) (v7_67 : Int32) (v11_144 : Int32) : Int32 := (if ((v11_144.toInt64) - (v6_39.toInt64)) < (0 : Int64) then (F0_181 v6_39 v7_67 v11_144) else (if ((v7_67.toInt64) - (v6_39.toInt64)) < ((v11_144.toInt64) - (v6_39.toInt64)) then (F0_181 v6_39 v7_67 v11_144) else (F0_182 v6_39 v7_67 v11_144 (1 : Int32))))
def F0_67 (p2 : Int32) (p3 : Int32) (v6_39 : Int32) (v7_67 : Int32) : Int32 := (if (((p3.toUInt32 >>> ((3 : Int32) &&& 31).toUInt32).toInt32) &&& (7 : Int32)) = (1 : Int32) then (F0_144 v6_39 v7_67 v6_39) else (if (((p3.toUInt32 >>> ((3 : Int32) &&& 31).toUInt32).toInt32) &&& (7 : Int32)) = (2 : Int32) then (F0_144 v6_39 v7_67 v7_67) else (if (((p3.toUInt32 >>> ((3 : Int32) &&& 31).toUInt32).toInt32) &&& (7 : Int32)) = (3 : Int32) then (F0_144 v6_39 v7_67 (v6_39 - (1 : Int32))) else (if (((p3.toUInt32 >>> ((3 : Int32) &&& 31).toUInt32).toInt32) &&& (7 : Int32)) = (4 : Int32) then (F0_144 v6_39 v7_67 (v7_67 + (1 : Int32))) else (F0_144 v6_39 v7_67 p2)))))
def F0_39 (p0 : Int32) (p1 : Int32) (p2 : Int32) (p3 : Int32) (v6_39 : Int32) : Int32 := (if (p3 &&& (3 : Int32)) = (1 : Int32) then (F0_67 p2 p3 v6_39 (2147483647 : Int32)) else (if (p3 &&& (3 : Int32)) = (2 : Int32) then (F0_67 p2 p3 v6_39 v6_39) else (F0_67 p2 p3 v6_39 (F2 (p0 &&& (2147483647 : Int32)) (p1 &&& (2147483647 : Int32))))))
def F0 (p0 : Int32) (p1 : Int32) (p2 : Int32) (p3 : Int32) : Int32 := (if (p3 &&& (4 : Int32)) = (0 : Int32) then (F0_39 p0 p1 p2 p3 (F1 (p0 &&& (2147483647 : Int32)) (p1 &&& (2147483647 : Int32)))) else (F0_39 p0 p1 p2 p3 (0 : Int32)))
set_option maxRecDepth 65536 in
set_option maxHeartbeats 40000000 in
theorem rm0 (l : Launch) (Z : State) (az : Array Value) (hw : ∀ d ∈ tables_1, d.before az Z = true) (ws : List Jvm.Cond) (p0 : Int32) (p1 : Int32) (p2 : Int32) (p3 : Int32)  (h0 : Heap) (n0 : Nat) (Z0 : n0 ≤ h0.size) :
    MetFree l x (head1 (Jvm.Cond.code x code maxLocals ret :: ws) room_1) (fun a U => a = #[(.int p0), (.int p1), (.int p2), (.int p3)] ∧ Z.Warmed39 U.vm ∧ U.heap = h0) (fun _ _ _ _ _ => True) (fun _ U o U' => ∃ v L, o = .returned v ∧ (QL (some (.int (F0 p0 p1 p2 p3))) n0) v U'.heap L ∧ FrameEnd U o U' L room_1.cells room_1.slots) := by
  refine MetFree.of_bodySF (plainFor_of_name own_pn2) hisR ?_
  intro p e s m args below meth c s₁ Bd hml0 hP hK
  obtain ⟨rfl, hZ, hh⟩ := hP
  have hx := Bd.exec
  have hby := Bd.bytes
  have hml : c.maxLocals = 17 := hml0
  have hown : s.vm.findClass "com/example/tallyfold/tallyfold/QuantityAcceptsPinLaw" = some m.cls := findClass_of_methodNamed Bd.named
  have hnm := (name_of_methodNamed Bd.named Bd.method).1
  have hlk : meth.locks = false := BodyLoose.notSynchronized Bd
  have X0 : Stand p l e room_1 s m #[(.int p0), (.int p1), (.int p2), (.int p3)] below meth c s₁ [] 0 0 := Stand.of_body Bd
  have e0 : s₁.heap = h0 := by rw [← hh, Bd.state]; rfl
  have N0 := Fr.nil n0
  show Go p e below s (QL (some (.int (F0 p0 p1 p2 p3))) n0) room_1.cells room_1.slots (s₁.setTop (entryFrame m #[(.int p0), (.int p1), (.int p2), (.int p3)] maxLocals))
  refine Go.of (fun t k => castTop (ef_0 m p0 p1 p2 p3) k) ?_
  show Go p e below s _ _ _ (s₁.setTop (mkF m 0 #[.val (.int p0), .val (.int p1), .val (.int p2), .val (.int p3), .unset, .unset, .unset, .unset, .unset, .unset, .unset, .unset, .unset, .unset, .unset, .unset, .unset] []))
  unfold F0
  refine Go.of (fun t k => XS.iloadN X0.here hx rfl (hb hby at_0) rfl k) ?_
  show Go p e below s _ _ _ (s₁.setTop (mkF m 1 #[.val (.int p0), .val (.int p1), .val (.int p2), .val (.int p3), .unset, .unset, .unset, .unset, .unset, .unset, .unset, .unset, .unset, .unset, .unset, .unset, .unset] [(.int p0)]))
  refine Go.of (X0.ldcInt hx hown (mvT hZ (hw _ (List.mem_of_getElem? (i := 0) rfl))) (g := (mkF m 1 #[.val (.int p0), .val (.int p1), .val (.int p2), .val (.int p3), .unset, .unset, .unset, .unset, .unset, .unset, .unset, .unset, .unset, .unset, .unset, .unset, .unset] [(.int p0)])) rfl (hb hby at_1)) ?_
  show Go p e below s _ _ _ (s₁.setTop (mkF m 3 #[.val (.int p0), .val (.int p1), .val (.int p2), .val (.int p3), .unset, .unset, .unset, .unset, .unset, .unset, .unset, .unset, .unset, .unset, .unset, .unset, .unset] [(.int (2147483647 : Int32)), (.int p0)]))
  refine Go.of (fun t k => XS.iand X0.here hx rfl (hb hby at_3) rfl k) ?_
  show Go p e below s _ _ _ (s₁.setTop (mkF m 4 #[.val (.int p0), .val (.int p1), .val (.int p2), .val (.int p3), .unset, .unset, .unset, .unset, .unset, .unset, .unset, .unset, .unset, .unset, .unset, .unset, .unset] [(.int (p0 &&& (2147483647 : Int32)))]))
  refine Go.of (fun t k => XS.istore X0.here hx rfl (hb hby at_4) rfl (l' := #[.val (.int p0), .val (.int p1), .val (.int p2), .val (.int p3), .val (.int (p0 &&& (2147483647 : Int32))), .unset, .unset, .unset, .unset, .unset, .unset, .unset, .unset, .unset, .unset, .unset, .unset]) rfl k) ?_
  show Go p e below s _ _ _ (s₁.setTop (mkF m 6 #[.val (.int p0), .val (.int p1), .val (.int p2), .val (.int p3), .val (.int (p0 &&& (2147483647 : Int32))), .unset, .unset, .unset, .unset, .unset, .unset, .unset, .unset, .unset, .unset, .unset, .unset] []))
  refine Go.of (fun t k => XS.iloadN X0.here hx rfl (hb hby at_6) rfl k) ?_
  show Go p e below s _ _ _ (s₁.setTop (mkF m 7 #[.val (.int p0), .val (.int p1), .val (.int p2), .val (.int p3), .val (.int (p0 &&& (2147483647 : Int32))), .unset, .unset, .unset, .unset, .unset, .unset, .unset, .unset, .unset, .unset, .unset, .unset] [(.int p1)]))
  refine Go.of (X0.ldcInt hx hown (mvT hZ (hw _ (List.mem_of_getElem? (i := 0) rfl))) (g := (mkF m 7 #[.val (.int p0), .val (.int p1), .val (.int p2), .val (.int p3), .val (.int (p0 &&& (2147483647 : Int32))), .unset, .unset, .unset, .unset, .unset, .unset, .unset, .unset, .unset, .unset, .unset, .unset] [(.int p1)])) rfl (hb hby at_7)) ?_
  show Go p e below s _ _ _ (s₁.setTop (mkF m 9 #[.val (.int p0), .val (.int p1), .val (.int p2), .val (.int p3), .val (.int (p0 &&& (2147483647 : Int32))), .unset, .unset, .unset, .unset, .unset, .unset, .unset, .unset, .unset, .unset, .unset, .unset] [(.int (2147483647 : Int32)), (.int p1)]))
  refine Go.of (fun t k => XS.iand X0.here hx rfl (hb hby at_9) rfl k) ?_
  show Go p e below s _ _ _ (s₁.setTop (mkF m 10 #[.val (.int p0), .val (.int p1), .val (.int p2), .val (.int p3), .val (.int (p0 &&& (2147483647 : Int32))), .unset, .unset, .unset, .unset, .unset, .unset, .unset, .unset, .unset, .unset, .unset, .unset] [(.int (p1 &&& (2147483647 : Int32)))]))
  refine Go.of (fun t k => XS.istore X0.here hx rfl (hb hby at_10) rfl (l' := #[.val (.int p0), .val (.int p1), .val (.int p2), .val (.int p3), .val (.int (p0 &&& (2147483647 : Int32))), .val (.int (p1 &&& (2147483647 : Int32))), .unset, .unset, .unset, .unset, .unset, .unset, .unset, .unset, .unset, .unset, .unset]) rfl k) ?_
  show Go p e below s _ _ _ (s₁.setTop (mkF m 12 #[.val (.int p0), .val (.int p1), .val (.int p2), .val (.int p3), .val (.int (p0 &&& (2147483647 : Int32))), .val (.int (p1 &&& (2147483647 : Int32))), .unset, .unset, .unset, .unset, .unset, .unset, .unset, .unset, .unset, .unset, .unset] []))
  refine Go.of (fun t k => XS.iload X0.here hx rfl (hb hby at_12) rfl k) ?_
  show Go p e below s _ _ _ (s₁.setTop (mkF m 14 #[.val (.int p0), .val (.int p1), .val (.int p2), .val (.int p3), .val (.int (p0 &&& (2147483647 : Int32))), .val (.int (p1 &&& (2147483647 : Int32))), .unset, .unset, .unset, .unset, .unset, .unset, .unset, .unset, .unset, .unset, .unset] [(.int (p0 &&& (2147483647 : Int32)))]))
  refine Go.of (fun t k => XS.iload X0.here hx rfl (hb hby at_14) rfl k) ?_
  show Go p e below s _ _ _ (s₁.setTop (mkF m 16 #[.val (.int p0), .val (.int p1), .val (.int p2), .val (.int p3), .val (.int (p0 &&& (2147483647 : Int32))), .val (.int (p1 &&& (2147483647 : Int32))), .unset, .unset, .unset, .unset, .unset, .unset, .unset, .unset, .unset, .unset, .unset] [(.int (p1 &&& (2147483647 : Int32))), (.int (p0 &&& (2147483647 : Int32)))]))
  obtain ⟨_, _, ⟨T1, L1, k1, n1⟩, -, X1, ⟨Lc1, hQ1, l1, y1, z1⟩, st1⟩ := Jvm.LawKit.callS X0 hx (y := (⟨"java/lang/Math", "min", "(II)I"⟩ : MethodName)) hown (mvT hZ (hw _ (List.mem_of_getElem? (i := 1) rfl))) (mvT hZ (hw _ (List.mem_of_getElem? (i := 2) rfl))) (mvT hZ (hw _ (List.mem_of_getElem? (i := 3) rfl))) (mvT hZ (hw _ (List.mem_of_getElem? (i := 4) rfl))) (by decide) (backOf (W := 0) (rm1 l Z az hw [] (p0 &&& (2147483647 : Int32)) (p1 &&& (2147483647 : Int32)) h0 n0 Z0) hZ (hw _ (List.mem_of_getElem? (i := 4) rfl)) (hw _ (List.mem_of_getElem? (i := 3) rfl)) (by decide) (by decide)) (g := (mkF m 16 #[.val (.int p0), .val (.int p1), .val (.int p2), .val (.int p3), .val (.int (p0 &&& (2147483647 : Int32))), .val (.int (p1 &&& (2147483647 : Int32))), .unset, .unset, .unset, .unset, .unset, .unset, .unset, .unset, .unset, .unset, .unset] [(.int (p1 &&& (2147483647 : Int32))), (.int (p0 &&& (2147483647 : Int32)))])) rfl (by rw [hml]; rfl) (argsL := [(.int (p0 &&& (2147483647 : Int32))), (.int (p1 &&& (2147483647 : Int32)))]) (rest := []) (lenOf own_pd1 rfl) rfl (by show 2 * 0 + _ ≤ _; exact Nat.le_of_eq rfl) (hb hby at_16) (fun _ _ => ⟨rfl, e0, (by decide : 0 + 0 ≤ _), (by decide : 0 + 0 ≤ _)⟩)
  dsimp only [Pt.U, Pt.locs, Pt.cells, Pt.slots] at X1 l1 y1 z1 st1 hQ1
  subst l1 y1 z1
  obtain ⟨rfl, N1q, e1⟩ := hQ1
  have N1 := Fr.app N0 N1q
  refine Go.of st1 ?_
  show Go p e below s _ _ _ (T1.setTop (mkF m 19 #[.val (.int p0), .val (.int p1), .val (.int p2), .val (.int p3), .val (.int (p0 &&& (2147483647 : Int32))), .val (.int (p1 &&& (2147483647 : Int32))), .unset, .unset, .unset, .unset, .unset, .unset, .unset, .unset, .unset, .unset, .unset] [(.int (F1 (p0 &&& (2147483647 : Int32)) (p1 &&& (2147483647 : Int32))))]))
  refine Go.of (fun t k => XS.istore X1.here hx rfl (hb hby at_19) rfl (l' := #[.val (.int p0), .val (.int p1), .val (.int p2), .val (.int p3), .val (.int (p0 &&& (2147483647 : Int32))), .val (.int (p1 &&& (2147483647 : Int32))), .val (.int (F1 (p0 &&& (2147483647 : Int32)) (p1 &&& (2147483647 : Int32)))), .unset, .unset, .unset, .unset, .unset, .unset, .unset, .unset, .unset, .unset]) rfl k) ?_
  show Go p e below s _ _ _ (T1.setTop (mkF m 21 #[.val (.int p0), .val (.int p1), .val (.int p2), .val (.int p3), .val (.int (p0 &&& (2147483647 : Int32))), .val (.int (p1 &&& (2147483647 : Int32))), .val (.int (F1 (p0 &&& (2147483647 : Int32)) (p1 &&& (2147483647 : Int32)))), .unset, .unset, .unset, .unset, .unset, .unset, .unset, .unset, .unset, .unset] []))
  refine Go.of (fun t k => XS.iload X1.here hx rfl (hb hby at_21) rfl k) ?_
  show Go p e below s _ _ _ (T1.setTop (mkF m 23 #[.val (.int p0), .val (.int p1), .val (.int p2), .val (.int p3), .val (.int (p0 &&& (2147483647 : Int32))), .val (.int (p1 &&& (2147483647 : Int32))), .val (.int (F1 (p0 &&& (2147483647 : Int32)) (p1 &&& (2147483647 : Int32)))), .unset, .unset, .unset, .unset, .unset, .unset, .unset, .unset, .unset, .unset] [(.int (p0 &&& (2147483647 : Int32)))]))
  refine Go.of (fun t k => XS.iload X1.here hx rfl (hb hby at_23) rfl k) ?_
  show Go p e below s _ _ _ (T1.setTop (mkF m 25 #[.val (.int p0), .val (.int p1), .val (.int p2), .val (.int p3), .val (.int (p0 &&& (2147483647 : Int32))), .val (.int (p1 &&& (2147483647 : Int32))), .val (.int (F1 (p0 &&& (2147483647 : Int32)) (p1 &&& (2147483647 : Int32)))), .unset, .unset, .unset, .unset, .unset, .unset, .unset, .unset, .unset, .unset] [(.int (p1 &&& (2147483647 : Int32))), (.int (p0 &&& (2147483647 : Int32)))]))
  obtain ⟨_, _, ⟨T2, L2, k2, n2⟩, -, X2, ⟨Lc2, hQ2, l2, y2, z2⟩, st2⟩ := Jvm.LawKit.callS X1 hx (y := (⟨"java/lang/Math", "max", "(II)I"⟩ : MethodName)) hown (mvT hZ (hw _ (List.mem_of_getElem? (i := 5) rfl))) (mvT hZ (hw _ (List.mem_of_getElem? (i := 6) rfl))) (mvT hZ (hw _ (List.mem_of_getElem? (i := 3) rfl))) (mvT hZ (hw _ (List.mem_of_getElem? (i := 7) rfl))) (by decide) (backOf (W := 0) (rm2 l Z az hw [] (p0 &&& (2147483647 : Int32)) (p1 &&& (2147483647 : Int32)) h0 n0 Z0) hZ (hw _ (List.mem_of_getElem? (i := 7) rfl)) (hw _ (List.mem_of_getElem? (i := 3) rfl)) (by decide) (by decide)) (g := (mkF m 25 #[.val (.int p0), .val (.int p1), .val (.int p2), .val (.int p3), .val (.int (p0 &&& (2147483647 : Int32))), .val (.int (p1 &&& (2147483647 : Int32))), .val (.int (F1 (p0 &&& (2147483647 : Int32)) (p1 &&& (2147483647 : Int32)))), .unset, .unset, .unset, .unset, .unset, .unset, .unset, .unset, .unset, .unset] [(.int (p1 &&& (2147483647 : Int32))), (.int (p0 &&& (2147483647 : Int32)))])) rfl (by rw [hml]; rfl) (argsL := [(.int (p0 &&& (2147483647 : Int32))), (.int (p1 &&& (2147483647 : Int32)))]) (rest := []) (lenOf own_pd1 rfl) rfl (by show 2 * 0 + _ ≤ _; exact Nat.le_of_eq rfl) (hb hby at_25) (fun _ _ => ⟨rfl, e1, (by decide : 0 + 0 ≤ _), (by decide : 0 + 0 ≤ _)⟩)
  dsimp only [Pt.U, Pt.locs, Pt.cells, Pt.slots] at X2 l2 y2 z2 st2 hQ2
  subst l2 y2 z2
  obtain ⟨rfl, N2q, e2⟩ := hQ2
  have N2 := Fr.app N1 N2q
  refine Go.of st2 ?_
  show Go p e below s _ _ _ (T2.setTop (mkF m 28 #[.val (.int p0), .val (.int p1), .val (.int p2), .val (.int p3), .val (.int (p0 &&& (2147483647 : Int32))), .val (.int (p1 &&& (2147483647 : Int32))), .val (.int (F1 (p0 &&& (2147483647 : Int32)) (p1 &&& (2147483647 : Int32)))), .unset, .unset, .unset, .unset, .unset, .unset, .unset, .unset, .unset, .unset] [(.int (F2 (p0 &&& (2147483647 : Int32)) (p1 &&& (2147483647 : Int32))))]))
  refine Go.of (fun t k => XS.istore X2.here hx rfl (hb hby at_28) rfl (l' := #[.val (.int p0), .val (.int p1), .val (.int p2), .val (.int p3), .val (.int (p0 &&& (2147483647 : Int32))), .val (.int (p1 &&& (2147483647 : Int32))), .val (.int (F1 (p0 &&& (2147483647 : Int32)) (p1 &&& (2147483647 : Int32)))), .val (.int (F2 (p0 &&& (2147483647 : Int32)) (p1 &&& (2147483647 : Int32)))), .unset, .unset, .unset, .unset, .unset, .unset, .unset, .unset, .unset]) rfl k) ?_
  show Go p e below s _ _ _ (T2.setTop (mkF m 30 #[.val (.int p0), .val (.int p1), .val (.int p2), .val (.int p3), .val (.int (p0 &&& (2147483647 : Int32))), .val (.int (p1 &&& (2147483647 : Int32))), .val (.int (F1 (p0 &&& (2147483647 : Int32)) (p1 &&& (2147483647 : Int32)))), .val (.int (F2 (p0 &&& (2147483647 : Int32)) (p1 &&& (2147483647 : Int32)))), .unset, .unset, .unset, .unset, .unset, .unset, .unset, .unset, .unset] []))
  refine Go.of (fun t k => XS.iloadN X2.here hx rfl (hb hby at_30) rfl k) ?_
  show Go p e below s _ _ _ (T2.setTop (mkF m 31 #[.val (.int p0), .val (.int p1), .val (.int p2), .val (.int p3), .val (.int (p0 &&& (2147483647 : Int32))), .val (.int (p1 &&& (2147483647 : Int32))), .val (.int (F1 (p0 &&& (2147483647 : Int32)) (p1 &&& (2147483647 : Int32)))), .val (.int (F2 (p0 &&& (2147483647 : Int32)) (p1 &&& (2147483647 : Int32)))), .unset, .unset, .unset, .unset, .unset, .unset, .unset, .unset, .unset] [(.int p3)]))
  refine Go.of (fun t k => XS.iconst X2.here hx rfl (hb hby at_31) k) ?_
  show Go p e below s _ _ _ (T2.setTop (mkF m 32 #[.val (.int p0), .val (.int p1), .val (.int p2), .val (.int p3), .val (.int (p0 &&& (2147483647 : Int32))), .val (.int (p1 &&& (2147483647 : Int32))), .val (.int (F1 (p0 &&& (2147483647 : Int32)) (p1 &&& (2147483647 : Int32)))), .val (.int (F2 (p0 &&& (2147483647 : Int32)) (p1 &&& (2147483647 : Int32)))), .unset, .unset, .unset, .unset, .unset, .unset, .unset, .unset, .unset] [(.int (4 : Int32)), (.int p3)]))
  refine Go.of (fun t k => XS.iand X2.here hx rfl (hb hby at_32) rfl k) ?_
  show Go p e below s _ _ _ (T2.setTop (mkF m 33 #[.val (.int p0), .val (.int p1), .val (.int p2), .val (.int p3), .val (.int (p0 &&& (2147483647 : Int32))), .val (.int (p1 &&& (2147483647 : Int32))), .val (.int (F1 (p0 &&& (2147483647 : Int32)) (p1 &&& (2147483647 : Int32)))), .val (.int (F2 (p0 &&& (2147483647 : Int32)) (p1 &&& (2147483647 : Int32)))), .unset, .unset, .unset, .unset, .unset, .unset, .unset, .unset, .unset] [(.int (p3 &&& (4 : Int32)))]))
  have jn39 : ∀ (v6_39 : Int32) (T_39 : State) (l_39 : List Loc) (X_39 : Stand p l e room_1 s m #[(.int p0), (.int p1), (.int p2), (.int p3)] below meth c T_39 l_39 0 0) (e_39 : T_39.heap = h0) (N_39 : Fr n0 l_39) (hI_39 : ¬ (v6_39 < (0 : Int32)) ∧ ¬ ((F2 (p0 &&& (2147483647 : Int32)) (p1 &&& (2147483647 : Int32))) < v6_39)), Go p e below s (QL (some (.int (F0_39 p0 p1 p2 p3 v6_39))) n0) room_1.cells room_1.slots (T_39.setTop (mkF m 39 #[.val (.int p0), .val (.int p1), .val (.int p2), .val (.int p3), .val (.int (p0 &&& (2147483647 : Int32))), .val (.int (p1 &&& (2147483647 : Int32))), .val (.int v6_39), .val (.int (F2 (p0 &&& (2147483647 : Int32)) (p1 &&& (2147483647 : Int32)))), .unset, .unset, .unset, .unset, .unset, .unset, .unset, .unset, .unset] [])) := by
    intro v6_39 T_39 l_39 X_39 e_39 N_39 hI_39
    unfold F0_39
    refine Go.of (fun t k => XS.iloadN X_39.here hx rfl (hb hby at_39) rfl k) ?_
    show Go p e below s _ _ _ (T_39.setTop (mkF m 40 #[.val (.int p0), .val (.int p1), .val (.int p2), .val (.int p3), .val (.int (p0 &&& (2147483647 : Int32))), .val (.int (p1 &&& (2147483647 : Int32))), .val (.int v6_39), .val (.int (F2 (p0 &&& (2147483647 : Int32)) (p1 &&& (2147483647 : Int32)))), .unset, .unset, .unset, .unset, .unset, .unset, .unset, .unset, .unset] [(.int p3)]))
    refine Go.of (fun t k => XS.iconst X_39.here hx rfl (hb hby at_40) k) ?_
    show Go p e below s _ _ _ (T_39.setTop (mkF m 41 #[.val (.int p0), .val (.int p1), .val (.int p2), .val (.int p3), .val (.int (p0 &&& (2147483647 : Int32))), .val (.int (p1 &&& (2147483647 : Int32))), .val (.int v6_39), .val (.int (F2 (p0 &&& (2147483647 : Int32)) (p1 &&& (2147483647 : Int32)))), .unset, .unset, .unset, .unset, .unset, .unset, .unset, .unset, .unset] [(.int (3 : Int32)), (.int p3)]))
    refine Go.of (fun t k => XS.iand X_39.here hx rfl (hb hby at_41) rfl k) ?_
    show Go p e below s _ _ _ (T_39.setTop (mkF m 42 #[.val (.int p0), .val (.int p1), .val (.int p2), .val (.int p3), .val (.int (p0 &&& (2147483647 : Int32))), .val (.int (p1 &&& (2147483647 : Int32))), .val (.int v6_39), .val (.int (F2 (p0 &&& (2147483647 : Int32)) (p1 &&& (2147483647 : Int32)))), .unset, .unset, .unset, .unset, .unset, .unset, .unset, .unset, .unset] [(.int (p3 &&& (3 : Int32)))]))
    refine Go.of (fun t k => XS.istore X_39.here hx rfl (hb hby at_42) rfl (l' := #[.val (.int p0), .val (.int p1), .val (.int p2), .val (.int p3), .val (.int (p0 &&& (2147483647 : Int32))), .val (.int (p1 &&& (2147483647 : Int32))), .val (.int v6_39), .val (.int (F2 (p0 &&& (2147483647 : Int32)) (p1 &&& (2147483647 : Int32)))), .val (.int (p3 &&& (3 : Int32))), .unset, .unset, .unset, .unset, .unset, .unset, .unset, .unset]) rfl k) ?_
    show Go p e below s _ _ _ (T_39.setTop (mkF m 44 #[.val (.int p0), .val (.int p1), .val (.int p2), .val (.int p3), .val (.int (p0 &&& (2147483647 : Int32))), .val (.int (p1 &&& (2147483647 : Int32))), .val (.int v6_39), .val (.int (F2 (p0 &&& (2147483647 : Int32)) (p1 &&& (2147483647 : Int32)))), .val (.int (p3 &&& (3 : Int32))), .unset, .unset, .unset, .unset, .unset, .unset, .unset, .unset] []))
    refine Go.of (fun t k => XS.iload X_39.here hx rfl (hb hby at_44) rfl k) ?_
    show Go p e below s _ _ _ (T_39.setTop (mkF m 46 #[.val (.int p0), .val (.int p1), .val (.int p2), .val (.int p3), .val (.int (p0 &&& (2147483647 : Int32))), .val (.int (p1 &&& (2147483647 : Int32))), .val (.int v6_39), .val (.int (F2 (p0 &&& (2147483647 : Int32)) (p1 &&& (2147483647 : Int32)))), .val (.int (p3 &&& (3 : Int32))), .unset, .unset, .unset, .unset, .unset, .unset, .unset, .unset] [(.int (p3 &&& (3 : Int32)))]))
    refine Go.of (fun t k => XS.iconst X_39.here hx rfl (hb hby at_46) k) ?_
    show Go p e below s _ _ _ (T_39.setTop (mkF m 47 #[.val (.int p0), .val (.int p1), .val (.int p2), .val (.int p3), .val (.int (p0 &&& (2147483647 : Int32))), .val (.int (p1 &&& (2147483647 : Int32))), .val (.int v6_39), .val (.int (F2 (p0 &&& (2147483647 : Int32)) (p1 &&& (2147483647 : Int32)))), .val (.int (p3 &&& (3 : Int32))), .unset, .unset, .unset, .unset, .unset, .unset, .unset, .unset] [(.int (1 : Int32)), (.int (p3 &&& (3 : Int32)))]))
    have jn67 : ∀ (v7_67 : Int32) (T_67 : State) (l_67 : List Loc) (X_67 : Stand p l e room_1 s m #[(.int p0), (.int p1), (.int p2), (.int p3)] below meth c T_67 l_67 0 0) (e_67 : T_67.heap = h0) (N_67 : Fr n0 l_67) (hI_67 : ¬ (v6_39 < (0 : Int32)) ∧ ¬ (v7_67 < v6_39)), Go p e below s (QL (some (.int (F0_67 p2 p3 v6_39 v7_67))) n0) room_1.cells room_1.slots (T_67.setTop (mkF m 67 #[.val (.int p0), .val (.int p1), .val (.int p2), .val (.int p3), .val (.int (p0 &&& (2147483647 : Int32))), .val (.int (p1 &&& (2147483647 : Int32))), .val (.int v6_39), .val (.int v7_67), .val (.int (p3 &&& (3 : Int32))), .unset, .unset, .unset, .unset, .unset, .unset, .unset, .unset] [])) := by
      intro v7_67 T_67 l_67 X_67 e_67 N_67 hI_67
      unfold F0_67
      obtain ⟨T3, h3, X3, e3, E3, A3, D3, -, st3⟩ := newO X_67 hx hZ hown (hw _ (List.mem_of_getElem? (i := 8) rfl)) (hw _ (List.mem_of_getElem? (i := 9) rfl)) (hw _ (List.mem_of_getElem? (i := 10) rfl)) e_67 (g := (mkF m 67 #[.val (.int p0), .val (.int p1), .val (.int p2), .val (.int p3), .val (.int (p0 &&& (2147483647 : Int32))), .val (.int (p1 &&& (2147483647 : Int32))), .val (.int v6_39), .val (.int v7_67), .val (.int (p3 &&& (3 : Int32))), .unset, .unset, .unset, .unset, .unset, .unset, .unset, .unset] [])) rfl (hb hby at_67) (by decide) (by decide)
      obtain ⟨b3, ga3⟩ : ∃ z, z = h0.size := ⟨_, rfl⟩
      rw [← ga3] at A3 D3 st3
      have g_b3 : n0 ≤ b3 := Nat.le_trans Z0 (Nat.le_of_eq ga3.symm)
      have sz_b3 : h0.size ≤ b3 := Nat.le_trans (Keep.refl h0 []).1 (Nat.le_of_eq ga3.symm)
      have f4 : Fld Z h3 b3 "com/example/tallyfold/tallyfold/Statement$Quantity" "min" "I" (.int (0 : Int32)) := D3 (Or.inr (hw _ (List.mem_of_getElem? (i := 23) rfl))) (ty := .int) (by decide)
      have f5 : Fld Z h3 b3 "com/example/tallyfold/tallyfold/Statement$Quantity" "max" "I" (.int (0 : Int32)) := D3 (Or.inr (hw _ (List.mem_of_getElem? (i := 25) rfl))) (ty := .int) (by decide)
      have K3 : Keep h0 h3 [] := Keep.ext (Keep.refl h0 []) E3
      refine Go.of st3 ?_
      show Go p e below s _ _ _ (T3.setTop (mkF m 70 #[.val (.int p0), .val (.int p1), .val (.int p2), .val (.int p3), .val (.int (p0 &&& (2147483647 : Int32))), .val (.int (p1 &&& (2147483647 : Int32))), .val (.int v6_39), .val (.int v7_67), .val (.int (p3 &&& (3 : Int32))), .unset, .unset, .unset, .unset, .unset, .unset, .unset, .unset] [(.ref b3)]))
      refine Go.of (fun t k => XS.dup X3.here hx rfl (hb hby at_70) rfl rfl k) ?_
      show Go p e below s _ _ _ (T3.setTop (mkF m 71 #[.val (.int p0), .val (.int p1), .val (.int p2), .val (.int p3), .val (.int (p0 &&& (2147483647 : Int32))), .val (.int (p1 &&& (2147483647 : Int32))), .val (.int v6_39), .val (.int v7_67), .val (.int (p3 &&& (3 : Int32))), .unset, .unset, .unset, .unset, .unset, .unset, .unset, .unset] [(.ref b3), (.ref b3)]))
      refine Go.of (fun t k => XS.iload X3.here hx rfl (hb hby at_71) rfl k) ?_
      show Go p e below s _ _ _ (T3.setTop (mkF m 73 #[.val (.int p0), .val (.int p1), .val (.int p2), .val (.int p3), .val (.int (p0 &&& (2147483647 : Int32))), .val (.int (p1 &&& (2147483647 : Int32))), .val (.int v6_39), .val (.int v7_67), .val (.int (p3 &&& (3 : Int32))), .unset, .unset, .unset, .unset, .unset, .unset, .unset, .unset] [(.int v6_39), (.ref b3), (.ref b3)]))
      refine Go.of (fun t k => XS.iload X3.here hx rfl (hb hby at_73) rfl k) ?_
      show Go p e below s _ _ _ (T3.setTop (mkF m 75 #[.val (.int p0), .val (.int p1), .val (.int p2), .val (.int p3), .val (.int (p0 &&& (2147483647 : Int32))), .val (.int (p1 &&& (2147483647 : Int32))), .val (.int v6_39), .val (.int v7_67), .val (.int (p3 &&& (3 : Int32))), .unset, .unset, .unset, .unset, .unset, .unset, .unset, .unset] [(.int v7_67), (.int v6_39), (.ref b3), (.ref b3)]))
      obtain ⟨_, _, ⟨T6, L6, k6, n6⟩, -, X6, ⟨Lc6, hQ6, l6, y6, z6⟩, st6⟩ := X3.specialBack hx (y := (⟨"com/example/tallyfold/tallyfold/Statement$Quantity", "<init>", "(II)V"⟩ : MethodName)) rfl hown (mvT hZ (hw _ (List.mem_of_getElem? (i := 11) rfl))) (mvT hZ (hw _ (List.mem_of_getElem? (i := 12) rfl))) (mvT hZ (hw _ (List.mem_of_getElem? (i := 13) rfl))) (by decide) (backOf (W := 1) (rm3 l Z az hw [] b3 v6_39 v7_67 (.int (0 : Int32)) (.int (0 : Int32)) h3 n0 (Nat.le_trans Z0 K3.1) A3 f4 f5 g_b3 (hI_67.1) (hI_67.2)) hZ (hw _ (List.mem_of_getElem? (i := 13) rfl)) (hw _ (List.mem_of_getElem? (i := 10) rfl)) (by decide) (by decide)) (g := (mkF m 75 #[.val (.int p0), .val (.int p1), .val (.int p2), .val (.int p3), .val (.int (p0 &&& (2147483647 : Int32))), .val (.int (p1 &&& (2147483647 : Int32))), .val (.int v6_39), .val (.int v7_67), .val (.int (p3 &&& (3 : Int32))), .unset, .unset, .unset, .unset, .unset, .unset, .unset, .unset] [(.int v7_67), (.int v6_39), (.ref b3), (.ref b3)])) rfl (by rw [hml]; rfl) (Steps.refl _) (a := b3) (argsL := [(.int v6_39), (.int v7_67)]) (rest := [(.ref b3)]) (lenOf own_pd2 rfl) rfl (by show 2 * 0 + _ ≤ _; exact Nat.le_of_eq rfl) (hb hby at_75) (fun _ _ => ⟨rfl, e3, (by decide : 1 + 0 ≤ _), (by decide : 2 + 0 ≤ _)⟩)
      dsimp only [Pt.U, Pt.locs, Pt.cells, Pt.slots] at X6 l6 y6 z6 st6 hQ6
      subst l6 y6 z6
      obtain ⟨rfl, N6q, Kq6, f7, f8, f9⟩ := hQ6
      have N6 := Fr.app N_67 N6q
      have K6 : Keep h0 T6.heap [] := Keep.trans K3 Kq6 (allS (Or.inr sz_b3) all0)
      refine Go.of (fun t k => st6.trans k) ?_
      show Go p e below s _ _ _ (T6.setTop (mkF m 78 #[.val (.int p0), .val (.int p1), .val (.int p2), .val (.int p3), .val (.int (p0 &&& (2147483647 : Int32))), .val (.int (p1 &&& (2147483647 : Int32))), .val (.int v6_39), .val (.int v7_67), .val (.int (p3 &&& (3 : Int32))), .unset, .unset, .unset, .unset, .unset, .unset, .unset, .unset] [(.ref b3)]))
      refine Go.of (fun t k => XS.astore X6.here hx rfl (hb hby at_78) rfl rfl (l' := #[.val (.int p0), .val (.int p1), .val (.int p2), .val (.int p3), .val (.int (p0 &&& (2147483647 : Int32))), .val (.int (p1 &&& (2147483647 : Int32))), .val (.int v6_39), .val (.int v7_67), .val (.int (p3 &&& (3 : Int32))), .val (.ref b3), .unset, .unset, .unset, .unset, .unset, .unset, .unset]) rfl k) ?_
      show Go p e below s _ _ _ (T6.setTop (mkF m 80 #[.val (.int p0), .val (.int p1), .val (.int p2), .val (.int p3), .val (.int (p0 &&& (2147483647 : Int32))), .val (.int (p1 &&& (2147483647 : Int32))), .val (.int v6_39), .val (.int v7_67), .val (.int (p3 &&& (3 : Int32))), .val (.ref b3), .unset, .unset, .unset, .unset, .unset, .unset, .unset] []))
      refine Go.of (fun t k => XS.iloadN X6.here hx rfl (hb hby at_80) rfl k) ?_
      show Go p e below s _ _ _ (T6.setTop (mkF m 81 #[.val (.int p0), .val (.int p1), .val (.int p2), .val (.int p3), .val (.int (p0 &&& (2147483647 : Int32))), .val (.int (p1 &&& (2147483647 : Int32))), .val (.int v6_39), .val (.int v7_67), .val (.int (p3 &&& (3 : Int32))), .val (.ref b3), .unset, .unset, .unset, .unset, .unset, .unset, .unset] [(.int p3)]))
      refine Go.of (fun t k => XS.iconst X6.here hx rfl (hb hby at_81) k) ?_
      show Go p e below s _ _ _ (T6.setTop (mkF m 82 #[.val (.int p0), .val (.int p1), .val (.int p2), .val (.int p3), .val (.int (p0 &&& (2147483647 : Int32))), .val (.int (p1 &&& (2147483647 : Int32))), .val (.int v6_39), .val (.int v7_67), .val (.int (p3 &&& (3 : Int32))), .val (.ref b3), .unset, .unset, .unset, .unset, .unset, .unset, .unset] [(.int (3 : Int32)), (.int p3)]))
      refine Go.of (fun t k => XS.iushr X6.here hx rfl (hb hby at_82) rfl k) ?_
      show Go p e below s _ _ _ (T6.setTop (mkF m 83 #[.val (.int p0), .val (.int p1), .val (.int p2), .val (.int p3), .val (.int (p0 &&& (2147483647 : Int32))), .val (.int (p1 &&& (2147483647 : Int32))), .val (.int v6_39), .val (.int v7_67), .val (.int (p3 &&& (3 : Int32))), .val (.ref b3), .unset, .unset, .unset, .unset, .unset, .unset, .unset] [(.int ((p3.toUInt32 >>> ((3 : Int32) &&& 31).toUInt32).toInt32))]))
      refine Go.of (fun t k => XS.bipush X6.here hx rfl (hb hby at_83) k) ?_
      show Go p e below s _ _ _ (T6.setTop (mkF m 85 #[.val (.int p0), .val (.int p1), .val (.int p2), .val (.int p3), .val (.int (p0 &&& (2147483647 : Int32))), .val (.int (p1 &&& (2147483647 : Int32))), .val (.int v6_39), .val (.int v7_67), .val (.int (p3 &&& (3 : Int32))), .val (.ref b3), .unset, .unset, .unset, .unset, .unset, .unset, .unset] [(.int (7 : Int32)), (.int ((p3.toUInt32 >>> ((3 : Int32) &&& 31).toUInt32).toInt32))]))
      refine Go.of (fun t k => XS.iand X6.here hx rfl (hb hby at_85) rfl k) ?_
      show Go p e below s _ _ _ (T6.setTop (mkF m 86 #[.val (.int p0), .val (.int p1), .val (.int p2), .val (.int p3), .val (.int (p0 &&& (2147483647 : Int32))), .val (.int (p1 &&& (2147483647 : Int32))), .val (.int v6_39), .val (.int v7_67), .val (.int (p3 &&& (3 : Int32))), .val (.ref b3), .unset, .unset, .unset, .unset, .unset, .unset, .unset] [(.int (((p3.toUInt32 >>> ((3 : Int32) &&& 31).toUInt32).toInt32) &&& (7 : Int32)))]))
      refine Go.of (fun t k => XS.istore X6.here hx rfl (hb hby at_86) rfl (l' := #[.val (.int p0), .val (.int p1), .val (.int p2), .val (.int p3), .val (.int (p0 &&& (2147483647 : Int32))), .val (.int (p1 &&& (2147483647 : Int32))), .val (.int v6_39), .val (.int v7_67), .val (.int (p3 &&& (3 : Int32))), .val (.ref b3), .val (.int (((p3.toUInt32 >>> ((3 : Int32) &&& 31).toUInt32).toInt32) &&& (7 : Int32))), .unset, .unset, .unset, .unset, .unset, .unset]) rfl k) ?_
      show Go p e below s _ _ _ (T6.setTop (mkF m 88 #[.val (.int p0), .val (.int p1), .val (.int p2), .val (.int p3), .val (.int (p0 &&& (2147483647 : Int32))), .val (.int (p1 &&& (2147483647 : Int32))), .val (.int v6_39), .val (.int v7_67), .val (.int (p3 &&& (3 : Int32))), .val (.ref b3), .val (.int (((p3.toUInt32 >>> ((3 : Int32) &&& 31).toUInt32).toInt32) &&& (7 : Int32))), .unset, .unset, .unset, .unset, .unset, .unset] []))
      refine Go.of (fun t k => XS.iloadN X6.here hx rfl (hb hby at_88) rfl k) ?_
      show Go p e below s _ _ _ (T6.setTop (mkF m 89 #[.val (.int p0), .val (.int p1), .val (.int p2), .val (.int p3), .val (.int (p0 &&& (2147483647 : Int32))), .val (.int (p1 &&& (2147483647 : Int32))), .val (.int v6_39), .val (.int v7_67), .val (.int (p3 &&& (3 : Int32))), .val (.ref b3), .val (.int (((p3.toUInt32 >>> ((3 : Int32) &&& 31).toUInt32).toInt32) &&& (7 : Int32))), .unset, .unset, .unset, .unset, .unset, .unset] [(.int p2)]))
      refine Go.of (fun t k => XS.istore X6.here hx rfl (hb hby at_89) rfl (l' := #[.val (.int p0), .val (.int p1), .val (.int p2), .val (.int p3), .val (.int (p0 &&& (2147483647 : Int32))), .val (.int (p1 &&& (2147483647 : Int32))), .val (.int v6_39), .val (.int v7_67), .val (.int (p3 &&& (3 : Int32))), .val (.ref b3), .val (.int (((p3.toUInt32 >>> ((3 : Int32) &&& 31).toUInt32).toInt32) &&& (7 : Int32))), .val (.int p2), .unset, .unset, .unset, .unset, .unset]) rfl k) ?_
      show Go p e below s _ _ _ (T6.setTop (mkF m 91 #[.val (.int p0), .val (.int p1), .val (.int p2), .val (.int p3), .val (.int (p0 &&& (2147483647 : Int32))), .val (.int (p1 &&& (2147483647 : Int32))), .val (.int v6_39), .val (.int v7_67), .val (.int (p3 &&& (3 : Int32))), .val (.ref b3), .val (.int (((p3.toUInt32 >>> ((3 : Int32) &&& 31).toUInt32).toInt32) &&& (7 : Int32))), .val (.int p2), .unset, .unset, .unset, .unset, .unset] []))
      refine Go.of (fun t k => XS.iload X6.here hx rfl (hb hby at_91) rfl k) ?_
      show Go p e below s _ _ _ (T6.setTop (mkF m 93 #[.val (.int p0), .val (.int p1), .val (.int p2), .val (.int p3), .val (.int (p0 &&& (2147483647 : Int32))), .val (.int (p1 &&& (2147483647 : Int32))), .val (.int v6_39), .val (.int v7_67), .val (.int (p3 &&& (3 : Int32))), .val (.ref b3), .val (.int (((p3.toUInt32 >>> ((3 : Int32) &&& 31).toUInt32).toInt32) &&& (7 : Int32))), .val (.int p2), .unset, .unset, .unset, .unset, .unset] [(.int (((p3.toUInt32 >>> ((3 : Int32) &&& 31).toUInt32).toInt32) &&& (7 : Int32)))]))
      refine Go.of (fun t k => XS.iconst X6.here hx rfl (hb hby at_93) k) ?_
      show Go p e below s _ _ _ (T6.setTop (mkF m 94 #[.val (.int p0), .val (.int p1), .val (.int p2), .val (.int p3), .val (.int (p0 &&& (2147483647 : Int32))), .val (.int (p1 &&& (2147483647 : Int32))), .val (.int v6_39), .val (.int v7_67), .val (.int (p3 &&& (3 : Int32))), .val (.ref b3), .val (.int (((p3.toUInt32 >>> ((3 : Int32) &&& 31).toUInt32).toInt32) &&& (7 : Int32))), .val (.int p2), .unset, .unset, .unset, .unset, .unset] [(.int (1 : Int32)), (.int (((p3.toUInt32 >>> ((3 : Int32) &&& 31).toUInt32).toInt32) &&& (7 : Int32)))]))
      have jn144 : ∀ (v11_144 : Int32) (T_144 : State) (l_144 : List Loc) (X_144 : Stand p l e room_1 s m #[(.int p0), (.int p1), (.int p2), (.int p3)] below meth c T_144 l_144 1 2) (e_144 : T_144.heap = T6.heap) (N_144 : Fr n0 l_144), Go p e below s (QL (some (.int (F0_144 v6_39 v7_67 v11_144))) n0) room_1.cells room_1.slots (T_144.setTop (mkF m 144 #[.val (.int p0), .val (.int p1), .val (.int p2), .val (.int p3), .val (.int (p0 &&& (2147483647 : Int32))), .val (.int (p1 &&& (2147483647 : Int32))), .val (.int v6_39), .val (.int v7_67), .val (.int (p3 &&& (3 : Int32))), .val (.ref b3), .val (.int (((p3.toUInt32 >>> ((3 : Int32) &&& 31).toUInt32).toInt32) &&& (7 : Int32))), .val (.int v11_144), .unset, .unset, .unset, .unset, .unset] [])) := by
        intro v11_144 T_144 l_144 X_144 e_144 N_144
        unfold F0_144
        refine Go.of (fun t k => XS.iload X_144.here hx rfl (hb hby at_144) rfl k) ?_
        show Go p e below s _ _ _ (T_144.setTop (mkF m 146 #[.val (.int p0), .val (.int p1), .val (.int p2), .val (.int p3), .val (.int (p0 &&& (2147483647 : Int32))), .val (.int (p1 &&& (2147483647 : Int32))), .val (.int v6_39), .val (.int v7_67), .val (.int (p3 &&& (3 : Int32))), .val (.ref b3), .val (.int (((p3.toUInt32 >>> ((3 : Int32) &&& 31).toUInt32).toInt32) &&& (7 : Int32))), .val (.int v11_144), .unset, .unset, .unset, .unset, .unset] [(.int v11_144)]))
        refine Go.of (fun t k => XS.i2l X_144.here hx rfl (hb hby at_146) rfl k) ?_
        show Go p e below s _ _ _ (T_144.setTop (mkF m 147 #[.val (.int p0), .val (.int p1), .val (.int p2), .val (.int p3), .val (.int (p0 &&& (2147483647 : Int32))), .val (.int (p1 &&& (2147483647 : Int32))), .val (.int v6_39), .val (.int v7_67), .val (.int (p3 &&& (3 : Int32))), .val (.ref b3), .val (.int (((p3.toUInt32 >>> ((3 : Int32) &&& 31).toUInt32).toInt32) &&& (7 : Int32))), .val (.int v11_144), .unset, .unset, .unset, .unset, .unset] [(.long (v11_144.toInt64))]))
        refine Go.of (fun t k => XS.iload X_144.here hx rfl (hb hby at_147) rfl k) ?_
        show Go p e below s _ _ _ (T_144.setTop (mkF m 149 #[.val (.int p0), .val (.int p1), .val (.int p2), .val (.int p3), .val (.int (p0 &&& (2147483647 : Int32))), .val (.int (p1 &&& (2147483647 : Int32))), .val (.int v6_39), .val (.int v7_67), .val (.int (p3 &&& (3 : Int32))), .val (.ref b3), .val (.int (((p3.toUInt32 >>> ((3 : Int32) &&& 31).toUInt32).toInt32) &&& (7 : Int32))), .val (.int v11_144), .unset, .unset, .unset, .unset, .unset] [(.int v6_39), (.long (v11_144.toInt64))]))
        refine Go.of (fun t k => XS.i2l X_144.here hx rfl (hb hby at_149) rfl k) ?_
        show Go p e below s _ _ _ (T_144.setTop (mkF m 150 #[.val (.int p0), .val (.int p1), .val (.int p2), .val (.int p3), .val (.int (p0 &&& (2147483647 : Int32))), .val (.int (p1 &&& (2147483647 : Int32))), .val (.int v6_39), .val (.int v7_67), .val (.int (p3 &&& (3 : Int32))), .val (.ref b3), .val (.int (((p3.toUInt32 >>> ((3 : Int32) &&& 31).toUInt32).toInt32) &&& (7 : Int32))), .val (.int v11_144), .unset, .unset, .unset, .unset, .unset] [(.long (v6_39.toInt64)), (.long (v11_144.toInt64))]))
        refine Go.of (fun t k => XS.lsub X_144.here hx rfl (hb hby at_150) rfl k) ?_
        show Go p e below s _ _ _ (T_144.setTop (mkF m 151 #[.val (.int p0), .val (.int p1), .val (.int p2), .val (.int p3), .val (.int (p0 &&& (2147483647 : Int32))), .val (.int (p1 &&& (2147483647 : Int32))), .val (.int v6_39), .val (.int v7_67), .val (.int (p3 &&& (3 : Int32))), .val (.ref b3), .val (.int (((p3.toUInt32 >>> ((3 : Int32) &&& 31).toUInt32).toInt32) &&& (7 : Int32))), .val (.int v11_144), .unset, .unset, .unset, .unset, .unset] [(.long ((v11_144.toInt64) - (v6_39.toInt64)))]))
        refine Go.of (fun t k => XS.lstore X_144.here hx rfl (hb hby at_151) rfl (l' := #[.val (.int p0), .val (.int p1), .val (.int p2), .val (.int p3), .val (.int (p0 &&& (2147483647 : Int32))), .val (.int (p1 &&& (2147483647 : Int32))), .val (.int v6_39), .val (.int v7_67), .val (.int (p3 &&& (3 : Int32))), .val (.ref b3), .val (.int (((p3.toUInt32 >>> ((3 : Int32) &&& 31).toUInt32).toInt32) &&& (7 : Int32))), .val (.int v11_144), .val (.long ((v11_144.toInt64) - (v6_39.toInt64))), .second, .unset, .unset, .unset]) rfl k) ?_
        show Go p e below s _ _ _ (T_144.setTop (mkF m 153 #[.val (.int p0), .val (.int p1), .val (.int p2), .val (.int p3), .val (.int (p0 &&& (2147483647 : Int32))), .val (.int (p1 &&& (2147483647 : Int32))), .val (.int v6_39), .val (.int v7_67), .val (.int (p3 &&& (3 : Int32))), .val (.ref b3), .val (.int (((p3.toUInt32 >>> ((3 : Int32) &&& 31).toUInt32).toInt32) &&& (7 : Int32))), .val (.int v11_144), .val (.long ((v11_144.toInt64) - (v6_39.toInt64))), .second, .unset, .unset, .unset] []))
        refine Go.of (fun t k => XS.iload X_144.here hx rfl (hb hby at_153) rfl k) ?_
        show Go p e below s _ _ _ (T_144.setTop (mkF m 155 #[.val (.int p0), .val (.int p1), .val (.int p2), .val (.int p3), .val (.int (p0 &&& (2147483647 : Int32))), .val (.int (p1 &&& (2147483647 : Int32))), .val (.int v6_39), .val (.int v7_67), .val (.int (p3 &&& (3 : Int32))), .val (.ref b3), .val (.int (((p3.toUInt32 >>> ((3 : Int32) &&& 31).toUInt32).toInt32) &&& (7 : Int32))), .val (.int v11_144), .val (.long ((v11_144.toInt64) - (v6_39.toInt64))), .second, .unset, .unset, .unset] [(.int v7_67)]))
        refine Go.of (fun t k => XS.i2l X_144.here hx rfl (hb hby at_155) rfl k) ?_
        show Go p e below s _ _ _ (T_144.setTop (mkF m 156 #[.val (.int p0), .val (.int p1), .val (.int p2), .val (.int p3), .val (.int (p0 &&& (2147483647 : Int32))), .val (.int (p1 &&& (2147483647 : Int32))), .val (.int v6_39), .val (.int v7_67), .val (.int (p3 &&& (3 : Int32))), .val (.ref b3), .val (.int (((p3.toUInt32 >>> ((3 : Int32) &&& 31).toUInt32).toInt32) &&& (7 : Int32))), .val (.int v11_144), .val (.long ((v11_144.toInt64) - (v6_39.toInt64))), .second, .unset, .unset, .unset] [(.long (v7_67.toInt64))]))
        refine Go.of (fun t k => XS.iload X_144.here hx rfl (hb hby at_156) rfl k) ?_
        show Go p e below s _ _ _ (T_144.setTop (mkF m 158 #[.val (.int p0), .val (.int p1), .val (.int p2), .val (.int p3), .val (.int (p0 &&& (2147483647 : Int32))), .val (.int (p1 &&& (2147483647 : Int32))), .val (.int v6_39), .val (.int v7_67), .val (.int (p3 &&& (3 : Int32))), .val (.ref b3), .val (.int (((p3.toUInt32 >>> ((3 : Int32) &&& 31).toUInt32).toInt32) &&& (7 : Int32))), .val (.int v11_144), .val (.long ((v11_144.toInt64) - (v6_39.toInt64))), .second, .unset, .unset, .unset] [(.int v6_39), (.long (v7_67.toInt64))]))
        refine Go.of (fun t k => XS.i2l X_144.here hx rfl (hb hby at_158) rfl k) ?_
        show Go p e below s _ _ _ (T_144.setTop (mkF m 159 #[.val (.int p0), .val (.int p1), .val (.int p2), .val (.int p3), .val (.int (p0 &&& (2147483647 : Int32))), .val (.int (p1 &&& (2147483647 : Int32))), .val (.int v6_39), .val (.int v7_67), .val (.int (p3 &&& (3 : Int32))), .val (.ref b3), .val (.int (((p3.toUInt32 >>> ((3 : Int32) &&& 31).toUInt32).toInt32) &&& (7 : Int32))), .val (.int v11_144), .val (.long ((v11_144.toInt64) - (v6_39.toInt64))), .second, .unset, .unset, .unset] [(.long (v6_39.toInt64)), (.long (v7_67.toInt64))]))
        refine Go.of (fun t k => XS.lsub X_144.here hx rfl (hb hby at_159) rfl k) ?_
        show Go p e below s _ _ _ (T_144.setTop (mkF m 160 #[.val (.int p0), .val (.int p1), .val (.int p2), .val (.int p3), .val (.int (p0 &&& (2147483647 : Int32))), .val (.int (p1 &&& (2147483647 : Int32))), .val (.int v6_39), .val (.int v7_67), .val (.int (p3 &&& (3 : Int32))), .val (.ref b3), .val (.int (((p3.toUInt32 >>> ((3 : Int32) &&& 31).toUInt32).toInt32) &&& (7 : Int32))), .val (.int v11_144), .val (.long ((v11_144.toInt64) - (v6_39.toInt64))), .second, .unset, .unset, .unset] [(.long ((v7_67.toInt64) - (v6_39.toInt64)))]))
        refine Go.of (fun t k => XS.lstore X_144.here hx rfl (hb hby at_160) rfl (l' := #[.val (.int p0), .val (.int p1), .val (.int p2), .val (.int p3), .val (.int (p0 &&& (2147483647 : Int32))), .val (.int (p1 &&& (2147483647 : Int32))), .val (.int v6_39), .val (.int v7_67), .val (.int (p3 &&& (3 : Int32))), .val (.ref b3), .val (.int (((p3.toUInt32 >>> ((3 : Int32) &&& 31).toUInt32).toInt32) &&& (7 : Int32))), .val (.int v11_144), .val (.long ((v11_144.toInt64) - (v6_39.toInt64))), .second, .val (.long ((v7_67.toInt64) - (v6_39.toInt64))), .second, .unset]) rfl k) ?_
        show Go p e below s _ _ _ (T_144.setTop (mkF m 162 #[.val (.int p0), .val (.int p1), .val (.int p2), .val (.int p3), .val (.int (p0 &&& (2147483647 : Int32))), .val (.int (p1 &&& (2147483647 : Int32))), .val (.int v6_39), .val (.int v7_67), .val (.int (p3 &&& (3 : Int32))), .val (.ref b3), .val (.int (((p3.toUInt32 >>> ((3 : Int32) &&& 31).toUInt32).toInt32) &&& (7 : Int32))), .val (.int v11_144), .val (.long ((v11_144.toInt64) - (v6_39.toInt64))), .second, .val (.long ((v7_67.toInt64) - (v6_39.toInt64))), .second, .unset] []))
        refine Go.of (fun t k => XS.lload X_144.here hx rfl (hb hby at_162) rfl k) ?_
        show Go p e below s _ _ _ (T_144.setTop (mkF m 164 #[.val (.int p0), .val (.int p1), .val (.int p2), .val (.int p3), .val (.int (p0 &&& (2147483647 : Int32))), .val (.int (p1 &&& (2147483647 : Int32))), .val (.int v6_39), .val (.int v7_67), .val (.int (p3 &&& (3 : Int32))), .val (.ref b3), .val (.int (((p3.toUInt32 >>> ((3 : Int32) &&& 31).toUInt32).toInt32) &&& (7 : Int32))), .val (.int v11_144), .val (.long ((v11_144.toInt64) - (v6_39.toInt64))), .second, .val (.long ((v7_67.toInt64) - (v6_39.toInt64))), .second, .unset] [(.long ((v11_144.toInt64) - (v6_39.toInt64)))]))
        refine Go.of (fun t k => XS.lconst X_144.here hx rfl (hb hby at_164) k) ?_
        show Go p e below s _ _ _ (T_144.setTop (mkF m 165 #[.val (.int p0), .val (.int p1), .val (.int p2), .val (.int p3), .val (.int (p0 &&& (2147483647 : Int32))), .val (.int (p1 &&& (2147483647 : Int32))), .val (.int v6_39), .val (.int v7_67), .val (.int (p3 &&& (3 : Int32))), .val (.ref b3), .val (.int (((p3.toUInt32 >>> ((3 : Int32) &&& 31).toUInt32).toInt32) &&& (7 : Int32))), .val (.int v11_144), .val (.long ((v11_144.toInt64) - (v6_39.toInt64))), .second, .val (.long ((v7_67.toInt64) - (v6_39.toInt64))), .second, .unset] [(.long (0 : Int64)), (.long ((v11_144.toInt64) - (v6_39.toInt64)))]))
        refine Go.of (fun t k => XS.lcmp X_144.here hx rfl (hb hby at_165) rfl k) ?_
        show Go p e below s _ _ _ (T_144.setTop (mkF m 166 #[.val (.int p0), .val (.int p1), .val (.int p2), .val (.int p3), .val (.int (p0 &&& (2147483647 : Int32))), .val (.int (p1 &&& (2147483647 : Int32))), .val (.int v6_39), .val (.int v7_67), .val (.int (p3 &&& (3 : Int32))), .val (.ref b3), .val (.int (((p3.toUInt32 >>> ((3 : Int32) &&& 31).toUInt32).toInt32) &&& (7 : Int32))), .val (.int v11_144), .val (.long ((v11_144.toInt64) - (v6_39.toInt64))), .second, .val (.long ((v7_67.toInt64) - (v6_39.toInt64))), .second, .unset] [(.int (lcmpW ((v11_144.toInt64) - (v6_39.toInt64)) (0 : Int64)))]))
        have jn182 : ∀ (w0_182 : Int32) (T_182 : State) (l_182 : List Loc) (X_182 : Stand p l e room_1 s m #[(.int p0), (.int p1), (.int p2), (.int p3)] below meth c T_182 l_182 1 2) (e_182 : T_182.heap = T6.heap) (N_182 : Fr n0 l_182), Go p e below s (QL (some (.int (F0_182 v6_39 v7_67 v11_144 w0_182))) n0) room_1.cells room_1.slots (T_182.setTop (mkF m 182 #[.val (.int p0), .val (.int p1), .val (.int p2), .val (.int p3), .val (.int (p0 &&& (2147483647 : Int32))), .val (.int (p1 &&& (2147483647 : Int32))), .val (.int v6_39), .val (.int v7_67), .val (.int (p3 &&& (3 : Int32))), .val (.ref b3), .val (.int (((p3.toUInt32 >>> ((3 : Int32) &&& 31).toUInt32).toInt32) &&& (7 : Int32))), .val (.int v11_144), .val (.long ((v11_144.toInt64) - (v6_39.toInt64))), .second, .val (.long ((v7_67.toInt64) - (v6_39.toInt64))), .second, .unset] [(.int w0_182)])) := by
          intro w0_182 T_182 l_182 X_182 e_182 N_182
          unfold F0_182
          refine Go.of (fun t k => XS.istore X_182.here hx rfl (hb hby at_182) rfl (l' := #[.val (.int p0), .val (.int p1), .val (.int p2), .val (.int p3), .val (.int (p0 &&& (2147483647 : Int32))), .val (.int (p1 &&& (2147483647 : Int32))), .val (.int v6_39), .val (.int v7_67), .val (.int (p3 &&& (3 : Int32))), .val (.ref b3), .val (.int (((p3.toUInt32 >>> ((3 : Int32) &&& 31).toUInt32).toInt32) &&& (7 : Int32))), .val (.int v11_144), .val (.long ((v11_144.toInt64) - (v6_39.toInt64))), .second, .val (.long ((v7_67.toInt64) - (v6_39.toInt64))), .second, .val (.int w0_182)]) rfl k) ?_
          show Go p e below s _ _ _ (T_182.setTop (mkF m 184 #[.val (.int p0), .val (.int p1), .val (.int p2), .val (.int p3), .val (.int (p0 &&& (2147483647 : Int32))), .val (.int (p1 &&& (2147483647 : Int32))), .val (.int v6_39), .val (.int v7_67), .val (.int (p3 &&& (3 : Int32))), .val (.ref b3), .val (.int (((p3.toUInt32 >>> ((3 : Int32) &&& 31).toUInt32).toInt32) &&& (7 : Int32))), .val (.int v11_144), .val (.long ((v11_144.toInt64) - (v6_39.toInt64))), .second, .val (.long ((v7_67.toInt64) - (v6_39.toInt64))), .second, .val (.int w0_182)] []))
          refine Go.of (fun t k => XS.aload X_182.here hx rfl (hb hby at_184) rfl rfl k) ?_
          show Go p e below s _ _ _ (T_182.setTop (mkF m 186 #[.val (.int p0), .val (.int p1), .val (.int p2), .val (.int p3), .val (.int (p0 &&& (2147483647 : Int32))), .val (.int (p1 &&& (2147483647 : Int32))), .val (.int v6_39), .val (.int v7_67), .val (.int (p3 &&& (3 : Int32))), .val (.ref b3), .val (.int (((p3.toUInt32 >>> ((3 : Int32) &&& 31).toUInt32).toInt32) &&& (7 : Int32))), .val (.int v11_144), .val (.long ((v11_144.toInt64) - (v6_39.toInt64))), .second, .val (.long ((v7_67.toInt64) - (v6_39.toInt64))), .second, .val (.int w0_182)] [(.ref b3)]))
          refine Go.of (fun t k => XS.iload X_182.here hx rfl (hb hby at_186) rfl k) ?_
          show Go p e below s _ _ _ (T_182.setTop (mkF m 188 #[.val (.int p0), .val (.int p1), .val (.int p2), .val (.int p3), .val (.int (p0 &&& (2147483647 : Int32))), .val (.int (p1 &&& (2147483647 : Int32))), .val (.int v6_39), .val (.int v7_67), .val (.int (p3 &&& (3 : Int32))), .val (.ref b3), .val (.int (((p3.toUInt32 >>> ((3 : Int32) &&& 31).toUInt32).toInt32) &&& (7 : Int32))), .val (.int v11_144), .val (.long ((v11_144.toInt64) - (v6_39.toInt64))), .second, .val (.long ((v7_67.toInt64) - (v6_39.toInt64))), .second, .val (.int w0_182)] [(.int v11_144), (.ref b3)]))
          obtain ⟨cq10, kq10, q10a, q10b, q10c⟩ := isOf hZ e_182 f7
          obtain ⟨_, _, ⟨T10, L10, k10, n10⟩, -, X10, ⟨Lc10, hQ10, l10, y10, z10⟩, st10⟩ := X_182.virtualBack hx (y := (⟨"com/example/tallyfold/tallyfold/Statement$Quantity", "accepts", "(I)Z"⟩ : MethodName)) (z := (⟨"com/example/tallyfold/tallyfold/Statement$Quantity", "accepts", "(I)Z"⟩ : MethodName)) hown (mvT hZ (hw _ (List.mem_of_getElem? (i := 26) rfl))) (mvT hZ (hw _ (List.mem_of_getElem? (i := 27) rfl))) (notFace_of_selects (args := #[]) (mvT hZ (hw _ (List.mem_of_getElem? (i := 29) rfl)))) (mvT hZ (hw _ (List.mem_of_getElem? (i := 29) rfl))) (mvT hZ (hw _ (List.mem_of_getElem? (i := 28) rfl))) (by decide) (backOf (W := 0) (rm6 l Z az hw [] b3 v11_144 v6_39 v7_67 T6.heap n0 (Nat.le_trans Z0 K6.1) f8 f9) hZ (hw _ (List.mem_of_getElem? (i := 30) rfl)) (hw _ (List.mem_of_getElem? (i := 10) rfl)) (by decide) (by decide)) q10a q10c (g := (mkF m 188 #[.val (.int p0), .val (.int p1), .val (.int p2), .val (.int p3), .val (.int (p0 &&& (2147483647 : Int32))), .val (.int (p1 &&& (2147483647 : Int32))), .val (.int v6_39), .val (.int v7_67), .val (.int (p3 &&& (3 : Int32))), .val (.ref b3), .val (.int (((p3.toUInt32 >>> ((3 : Int32) &&& 31).toUInt32).toInt32) &&& (7 : Int32))), .val (.int v11_144), .val (.long ((v11_144.toInt64) - (v6_39.toInt64))), .second, .val (.long ((v7_67.toInt64) - (v6_39.toInt64))), .second, .val (.int w0_182)] [(.int v11_144), (.ref b3)])) rfl (by rw [hml]; rfl) (Steps.refl _) (argsL := [(.int v11_144)]) (rest := []) (lenOf own_pd3 rfl) rfl (by show 2 * 0 + _ ≤ _; exact Nat.le_of_eq rfl) (hb hby at_188) (fun _ _ => ⟨rfl, e_182, (by decide : 1 + 0 ≤ _), (by decide : 2 + 0 ≤ _)⟩)
          dsimp only [Pt.U, Pt.locs, Pt.cells, Pt.slots] at X10 l10 y10 z10 st10 hQ10
          subst l10 y10 z10
          obtain ⟨rfl, N10q, e10⟩ := hQ10
          have N10 := Fr.app N_182 N10q
          refine Go.of (fun t k => st10.trans k) ?_
          show Go p e below s _ _ _ (T10.setTop (mkF m 191 #[.val (.int p0), .val (.int p1), .val (.int p2), .val (.int p3), .val (.int (p0 &&& (2147483647 : Int32))), .val (.int (p1 &&& (2147483647 : Int32))), .val (.int v6_39), .val (.int v7_67), .val (.int (p3 &&& (3 : Int32))), .val (.ref b3), .val (.int (((p3.toUInt32 >>> ((3 : Int32) &&& 31).toUInt32).toInt32) &&& (7 : Int32))), .val (.int v11_144), .val (.long ((v11_144.toInt64) - (v6_39.toInt64))), .second, .val (.long ((v7_67.toInt64) - (v6_39.toInt64))), .second, .val (.int w0_182)] [(.int (F6 v11_144 v6_39 v7_67))]))
          refine Go.of (fun t k => XS.iload X10.here hx rfl (hb hby at_191) rfl k) ?_
          show Go p e below s _ _ _ (T10.setTop (mkF m 193 #[.val (.int p0), .val (.int p1), .val (.int p2), .val (.int p3), .val (.int (p0 &&& (2147483647 : Int32))), .val (.int (p1 &&& (2147483647 : Int32))), .val (.int v6_39), .val (.int v7_67), .val (.int (p3 &&& (3 : Int32))), .val (.ref b3), .val (.int (((p3.toUInt32 >>> ((3 : Int32) &&& 31).toUInt32).toInt32) &&& (7 : Int32))), .val (.int v11_144), .val (.long ((v11_144.toInt64) - (v6_39.toInt64))), .second, .val (.long ((v7_67.toInt64) - (v6_39.toInt64))), .second, .val (.int w0_182)] [(.int w0_182), (.int (F6 v11_144 v6_39 v7_67))]))
          by_cases hc193_11 : (F6 v11_144 v6_39 v7_67) = w0_182
          · rewrite [if_pos hc193_11]
            refine Go.of (fun t k => XS.icmpNo X10.here hx rfl (hb hby at_193) rfl (teq hc193_11).2 k) ?_
            show Go p e below s _ _ _ (T10.setTop (mkF m 196 #[.val (.int p0), .val (.int p1), .val (.int p2), .val (.int p3), .val (.int (p0 &&& (2147483647 : Int32))), .val (.int (p1 &&& (2147483647 : Int32))), .val (.int v6_39), .val (.int v7_67), .val (.int (p3 &&& (3 : Int32))), .val (.ref b3), .val (.int (((p3.toUInt32 >>> ((3 : Int32) &&& 31).toUInt32).toInt32) &&& (7 : Int32))), .val (.int v11_144), .val (.long ((v11_144.toInt64) - (v6_39.toInt64))), .second, .val (.long ((v7_67.toInt64) - (v6_39.toInt64))), .second, .val (.int w0_182)] []))
            refine Go.of (fun t k => XS.aload X10.here hx rfl (hb hby at_196) rfl rfl k) ?_
            show Go p e below s _ _ _ (T10.setTop (mkF m 198 #[.val (.int p0), .val (.int p1), .val (.int p2), .val (.int p3), .val (.int (p0 &&& (2147483647 : Int32))), .val (.int (p1 &&& (2147483647 : Int32))), .val (.int v6_39), .val (.int v7_67), .val (.int (p3 &&& (3 : Int32))), .val (.ref b3), .val (.int (((p3.toUInt32 >>> ((3 : Int32) &&& 31).toUInt32).toInt32) &&& (7 : Int32))), .val (.int v11_144), .val (.long ((v11_144.toInt64) - (v6_39.toInt64))), .second, .val (.long ((v7_67.toInt64) - (v6_39.toInt64))), .second, .val (.int w0_182)] [(.ref b3)]))
            obtain ⟨cq12, kq12, q12a, q12b, q12c⟩ := isOf hZ e10 f7
            obtain ⟨_, _, ⟨T12, L12, k12, n12⟩, -, X12, ⟨Lc12, hQ12, l12, y12, z12⟩, st12⟩ := X10.virtualBack hx (y := (⟨"com/example/tallyfold/tallyfold/Statement$Quantity", "min", "()I"⟩ : MethodName)) (z := (⟨"com/example/tallyfold/tallyfold/Statement$Quantity", "min", "()I"⟩ : MethodName)) hown (mvT hZ (hw _ (List.mem_of_getElem? (i := 31) rfl))) (mvT hZ (hw _ (List.mem_of_getElem? (i := 32) rfl))) (notFace_of_selects (args := #[]) (mvT hZ (hw _ (List.mem_of_getElem? (i := 34) rfl)))) (mvT hZ (hw _ (List.mem_of_getElem? (i := 34) rfl))) (mvT hZ (hw _ (List.mem_of_getElem? (i := 33) rfl))) (by decide) (backOf (W := 0) (rm7 l Z az hw [] b3 v6_39 T6.heap n0 (Nat.le_trans Z0 K6.1) f8) hZ (hw _ (List.mem_of_getElem? (i := 35) rfl)) (hw _ (List.mem_of_getElem? (i := 10) rfl)) (by decide) (by decide)) q12a q12c (g := (mkF m 198 #[.val (.int p0), .val (.int p1), .val (.int p2), .val (.int p3), .val (.int (p0 &&& (2147483647 : Int32))), .val (.int (p1 &&& (2147483647 : Int32))), .val (.int v6_39), .val (.int v7_67), .val (.int (p3 &&& (3 : Int32))), .val (.ref b3), .val (.int (((p3.toUInt32 >>> ((3 : Int32) &&& 31).toUInt32).toInt32) &&& (7 : Int32))), .val (.int v11_144), .val (.long ((v11_144.toInt64) - (v6_39.toInt64))), .second, .val (.long ((v7_67.toInt64) - (v6_39.toInt64))), .second, .val (.int w0_182)] [(.ref b3)])) rfl (by rw [hml]; rfl) (Steps.refl _) (argsL := []) (rest := []) (lenOf own_pd4 rfl) rfl (by show 2 * 0 + _ ≤ _; exact Nat.le_of_eq rfl) (hb hby at_198) (fun _ _ => ⟨rfl, e10, (by decide : 1 + 0 ≤ _), (by decide : 2 + 0 ≤ _)⟩)
            dsimp only [Pt.U, Pt.locs, Pt.cells, Pt.slots] at X12 l12 y12 z12 st12 hQ12
            subst l12 y12 z12
            obtain ⟨rfl, N12q, e12⟩ := hQ12
            have N12 := Fr.app N10 N12q
            refine Go.of (fun t k => st12.trans k) ?_
            show Go p e below s _ _ _ (T12.setTop (mkF m 201 #[.val (.int p0), .val (.int p1), .val (.int p2), .val (.int p3), .val (.int (p0 &&& (2147483647 : Int32))), .val (.int (p1 &&& (2147483647 : Int32))), .val (.int v6_39), .val (.int v7_67), .val (.int (p3 &&& (3 : Int32))), .val (.ref b3), .val (.int (((p3.toUInt32 >>> ((3 : Int32) &&& 31).toUInt32).toInt32) &&& (7 : Int32))), .val (.int v11_144), .val (.long ((v11_144.toInt64) - (v6_39.toInt64))), .second, .val (.long ((v7_67.toInt64) - (v6_39.toInt64))), .second, .val (.int w0_182)] [(.int (F7 v6_39))]))
            refine Go.of (fun t k => XS.iload X12.here hx rfl (hb hby at_201) rfl k) ?_
            show Go p e below s _ _ _ (T12.setTop (mkF m 203 #[.val (.int p0), .val (.int p1), .val (.int p2), .val (.int p3), .val (.int (p0 &&& (2147483647 : Int32))), .val (.int (p1 &&& (2147483647 : Int32))), .val (.int v6_39), .val (.int v7_67), .val (.int (p3 &&& (3 : Int32))), .val (.ref b3), .val (.int (((p3.toUInt32 >>> ((3 : Int32) &&& 31).toUInt32).toInt32) &&& (7 : Int32))), .val (.int v11_144), .val (.long ((v11_144.toInt64) - (v6_39.toInt64))), .second, .val (.long ((v7_67.toInt64) - (v6_39.toInt64))), .second, .val (.int w0_182)] [(.int v6_39), (.int (F7 v6_39))]))
            by_cases hc203_13 : (F7 v6_39) = v6_39
            · rewrite [if_pos hc203_13]
              refine Go.of (fun t k => XS.icmpNo X12.here hx rfl (hb hby at_203) rfl (teq hc203_13).2 k) ?_
              show Go p e below s _ _ _ (T12.setTop (mkF m 206 #[.val (.int p0), .val (.int p1), .val (.int p2), .val (.int p3), .val (.int (p0 &&& (2147483647 : Int32))), .val (.int (p1 &&& (2147483647 : Int32))), .val (.int v6_39), .val (.int v7_67), .val (.int (p3 &&& (3 : Int32))), .val (.ref b3), .val (.int (((p3.toUInt32 >>> ((3 : Int32) &&& 31).toUInt32).toInt32) &&& (7 : Int32))), .val (.int v11_144), .val (.long ((v11_144.toInt64) - (v6_39.toInt64))), .second, .val (.long ((v7_67.toInt64) - (v6_39.toInt64))), .second, .val (.int w0_182)] []))
              refine Go.of (fun t k => XS.aload X12.here hx rfl (hb hby at_206) rfl rfl k) ?_
              show Go p e below s _ _ _ (T12.setTop (mkF m 208 #[.val (.int p0), .val (.int p1), .val (.int p2), .val (.int p3), .val (.int (p0 &&& (2147483647 : Int32))), .val (.int (p1 &&& (2147483647 : Int32))), .val (.int v6_39), .val (.int v7_67), .val (.int (p3 &&& (3 : Int32))), .val (.ref b3), .val (.int (((p3.toUInt32 >>> ((3 : Int32) &&& 31).toUInt32).toInt32) &&& (7 : Int32))), .val (.int v11_144), .val (.long ((v11_144.toInt64) - (v6_39.toInt64))), .second, .val (.long ((v7_67.toInt64) - (v6_39.toInt64))), .second, .val (.int w0_182)] [(.ref b3)]))
              obtain ⟨cq14, kq14, q14a, q14b, q14c⟩ := isOf hZ e12 f7
              obtain ⟨_, _, ⟨T14, L14, k14, n14⟩, -, X14, ⟨Lc14, hQ14, l14, y14, z14⟩, st14⟩ := X12.virtualBack hx (y := (⟨"com/example/tallyfold/tallyfold/Statement$Quantity", "max", "()I"⟩ : MethodName)) (z := (⟨"com/example/tallyfold/tallyfold/Statement$Quantity", "max", "()I"⟩ : MethodName)) hown (mvT hZ (hw _ (List.mem_of_getElem? (i := 36) rfl))) (mvT hZ (hw _ (List.mem_of_getElem? (i := 37) rfl))) (notFace_of_selects (args := #[]) (mvT hZ (hw _ (List.mem_of_getElem? (i := 39) rfl)))) (mvT hZ (hw _ (List.mem_of_getElem? (i := 39) rfl))) (mvT hZ (hw _ (List.mem_of_getElem? (i := 38) rfl))) (by decide) (backOf (W := 0) (rm8 l Z az hw [] b3 v7_67 T6.heap n0 (Nat.le_trans Z0 K6.1) f9) hZ (hw _ (List.mem_of_getElem? (i := 40) rfl)) (hw _ (List.mem_of_getElem? (i := 10) rfl)) (by decide) (by decide)) q14a q14c (g := (mkF m 208 #[.val (.int p0), .val (.int p1), .val (.int p2), .val (.int p3), .val (.int (p0 &&& (2147483647 : Int32))), .val (.int (p1 &&& (2147483647 : Int32))), .val (.int v6_39), .val (.int v7_67), .val (.int (p3 &&& (3 : Int32))), .val (.ref b3), .val (.int (((p3.toUInt32 >>> ((3 : Int32) &&& 31).toUInt32).toInt32) &&& (7 : Int32))), .val (.int v11_144), .val (.long ((v11_144.toInt64) - (v6_39.toInt64))), .second, .val (.long ((v7_67.toInt64) - (v6_39.toInt64))), .second, .val (.int w0_182)] [(.ref b3)])) rfl (by rw [hml]; rfl) (Steps.refl _) (argsL := []) (rest := []) (lenOf own_pd4 rfl) rfl (by show 2 * 0 + _ ≤ _; exact Nat.le_of_eq rfl) (hb hby at_208) (fun _ _ => ⟨rfl, e12, (by decide : 1 + 0 ≤ _), (by decide : 2 + 0 ≤ _)⟩)
              dsimp only [Pt.U, Pt.locs, Pt.cells, Pt.slots] at X14 l14 y14 z14 st14 hQ14
              subst l14 y14 z14
              obtain ⟨rfl, N14q, e14⟩ := hQ14
              have N14 := Fr.app N12 N14q
              refine Go.of (fun t k => st14.trans k) ?_
              show Go p e below s _ _ _ (T14.setTop (mkF m 211 #[.val (.int p0), .val (.int p1), .val (.int p2), .val (.int p3), .val (.int (p0 &&& (2147483647 : Int32))), .val (.int (p1 &&& (2147483647 : Int32))), .val (.int v6_39), .val (.int v7_67), .val (.int (p3 &&& (3 : Int32))), .val (.ref b3), .val (.int (((p3.toUInt32 >>> ((3 : Int32) &&& 31).toUInt32).toInt32) &&& (7 : Int32))), .val (.int v11_144), .val (.long ((v11_144.toInt64) - (v6_39.toInt64))), .second, .val (.long ((v7_67.toInt64) - (v6_39.toInt64))), .second, .val (.int w0_182)] [(.int (F8 v7_67))]))
              refine Go.of (fun t k => XS.iload X14.here hx rfl (hb hby at_211) rfl k) ?_
              show Go p e below s _ _ _ (T14.setTop (mkF m 213 #[.val (.int p0), .val (.int p1), .val (.int p2), .val (.int p3), .val (.int (p0 &&& (2147483647 : Int32))), .val (.int (p1 &&& (2147483647 : Int32))), .val (.int v6_39), .val (.int v7_67), .val (.int (p3 &&& (3 : Int32))), .val (.ref b3), .val (.int (((p3.toUInt32 >>> ((3 : Int32) &&& 31).toUInt32).toInt32) &&& (7 : Int32))), .val (.int v11_144), .val (.long ((v11_144.toInt64) - (v6_39.toInt64))), .second, .val (.long ((v7_67.toInt64) - (v6_39.toInt64))), .second, .val (.int w0_182)] [(.int v7_67), (.int (F8 v7_67))]))
              by_cases hc213_15 : (F8 v7_67) = v7_67
              · rewrite [if_pos hc213_15]
                refine Go.of (fun t k => XS.icmpNo X14.here hx rfl (hb hby at_213) rfl (teq hc213_15).2 k) ?_
                show Go p e below s _ _ _ (T14.setTop (mkF m 216 #[.val (.int p0), .val (.int p1), .val (.int p2), .val (.int p3), .val (.int (p0 &&& (2147483647 : Int32))), .val (.int (p1 &&& (2147483647 : Int32))), .val (.int v6_39), .val (.int v7_67), .val (.int (p3 &&& (3 : Int32))), .val (.ref b3), .val (.int (((p3.toUInt32 >>> ((3 : Int32) &&& 31).toUInt32).toInt32) &&& (7 : Int32))), .val (.int v11_144), .val (.long ((v11_144.toInt64) - (v6_39.toInt64))), .second, .val (.long ((v7_67.toInt64) - (v6_39.toInt64))), .second, .val (.int w0_182)] []))
                refine Go.of (fun t k => XS.iconst X14.here hx rfl (hb hby at_216) k) ?_
                show Go p e below s _ _ _ (T14.setTop (mkF m 217 #[.val (.int p0), .val (.int p1), .val (.int p2), .val (.int p3), .val (.int (p0 &&& (2147483647 : Int32))), .val (.int (p1 &&& (2147483647 : Int32))), .val (.int v6_39), .val (.int v7_67), .val (.int (p3 &&& (3 : Int32))), .val (.ref b3), .val (.int (((p3.toUInt32 >>> ((3 : Int32) &&& 31).toUInt32).toInt32) &&& (7 : Int32))), .val (.int v11_144), .val (.long ((v11_144.toInt64) - (v6_39.toInt64))), .second, .val (.long ((v7_67.toInt64) - (v6_39.toInt64))), .second, .val (.int w0_182)] [(.int (1 : Int32))]))
                refine Go.of (fun t k => XS.goto X14.here hx rfl (pc0 := 217) (pc' := 221) rfl (hb hby at_217) (by decide) (by decide) k) ?_
                show Go p e below s _ _ _ (T14.setTop (mkF m 221 #[.val (.int p0), .val (.int p1), .val (.int p2), .val (.int p3), .val (.int (p0 &&& (2147483647 : Int32))), .val (.int (p1 &&& (2147483647 : Int32))), .val (.int v6_39), .val (.int v7_67), .val (.int (p3 &&& (3 : Int32))), .val (.ref b3), .val (.int (((p3.toUInt32 >>> ((3 : Int32) &&& 31).toUInt32).toInt32) &&& (7 : Int32))), .val (.int v11_144), .val (.long ((v11_144.toInt64) - (v6_39.toInt64))), .second, .val (.long ((v7_67.toInt64) - (v6_39.toInt64))), .second, .val (.int w0_182)] [(.int (1 : Int32))]))
                exact Go.ret X14 (some (.int (1 : Int32))) (fun h => by rw [Bd.returns] at h; cases h) hlk ⟨rfl, N14⟩ (by decide) (by decide) (fun fs hr => (retN X14 hx (t := .boolean) Bd.returns (by simp) (hb hby at_221) hr))
              · rewrite [if_neg hc213_15]
                refine Go.of (fun t k => XS.icmpYes X14.here hx rfl (pc0 := 213) (pc' := 220) rfl (hb hby at_213) rfl (feq hc213_15).2 (by decide) (by decide) k) ?_
                show Go p e below s _ _ _ (T14.setTop (mkF m 220 #[.val (.int p0), .val (.int p1), .val (.int p2), .val (.int p3), .val (.int (p0 &&& (2147483647 : Int32))), .val (.int (p1 &&& (2147483647 : Int32))), .val (.int v6_39), .val (.int v7_67), .val (.int (p3 &&& (3 : Int32))), .val (.ref b3), .val (.int (((p3.toUInt32 >>> ((3 : Int32) &&& 31).toUInt32).toInt32) &&& (7 : Int32))), .val (.int v11_144), .val (.long ((v11_144.toInt64) - (v6_39.toInt64))), .second, .val (.long ((v7_67.toInt64) - (v6_39.toInt64))), .second, .val (.int w0_182)] []))
                refine Go.of (fun t k => XS.iconst X14.here hx rfl (hb hby at_220) k) ?_
                show Go p e below s _ _ _ (T14.setTop (mkF m 221 #[.val (.int p0), .val (.int p1), .val (.int p2), .val (.int p3), .val (.int (p0 &&& (2147483647 : Int32))), .val (.int (p1 &&& (2147483647 : Int32))), .val (.int v6_39), .val (.int v7_67), .val (.int (p3 &&& (3 : Int32))), .val (.ref b3), .val (.int (((p3.toUInt32 >>> ((3 : Int32) &&& 31).toUInt32).toInt32) &&& (7 : Int32))), .val (.int v11_144), .val (.long ((v11_144.toInt64) - (v6_39.toInt64))), .second, .val (.long ((v7_67.toInt64) - (v6_39.toInt64))), .second, .val (.int w0_182)] [(.int (0 : Int32))]))
                exact Go.ret X14 (some (.int (0 : Int32))) (fun h => by rw [Bd.returns] at h; cases h) hlk ⟨rfl, N14⟩ (by decide) (by decide) (fun fs hr => (retN X14 hx (t := .boolean) Bd.returns (by simp) (hb hby at_221) hr))
            · rewrite [if_neg hc203_13]
              refine Go.of (fun t k => XS.icmpYes X12.here hx rfl (pc0 := 203) (pc' := 220) rfl (hb hby at_203) rfl (feq hc203_13).2 (by decide) (by decide) k) ?_
              show Go p e below s _ _ _ (T12.setTop (mkF m 220 #[.val (.int p0), .val (.int p1), .val (.int p2), .val (.int p3), .val (.int (p0 &&& (2147483647 : Int32))), .val (.int (p1 &&& (2147483647 : Int32))), .val (.int v6_39), .val (.int v7_67), .val (.int (p3 &&& (3 : Int32))), .val (.ref b3), .val (.int (((p3.toUInt32 >>> ((3 : Int32) &&& 31).toUInt32).toInt32) &&& (7 : Int32))), .val (.int v11_144), .val (.long ((v11_144.toInt64) - (v6_39.toInt64))), .second, .val (.long ((v7_67.toInt64) - (v6_39.toInt64))), .second, .val (.int w0_182)] []))
              refine Go.of (fun t k => XS.iconst X12.here hx rfl (hb hby at_220) k) ?_
              show Go p e below s _ _ _ (T12.setTop (mkF m 221 #[.val (.int p0), .val (.int p1), .val (.int p2), .val (.int p3), .val (.int (p0 &&& (2147483647 : Int32))), .val (.int (p1 &&& (2147483647 : Int32))), .val (.int v6_39), .val (.int v7_67), .val (.int (p3 &&& (3 : Int32))), .val (.ref b3), .val (.int (((p3.toUInt32 >>> ((3 : Int32) &&& 31).toUInt32).toInt32) &&& (7 : Int32))), .val (.int v11_144), .val (.long ((v11_144.toInt64) - (v6_39.toInt64))), .second, .val (.long ((v7_67.toInt64) - (v6_39.toInt64))), .second, .val (.int w0_182)] [(.int (0 : Int32))]))
              exact Go.ret X12 (some (.int (0 : Int32))) (fun h => by rw [Bd.returns] at h; cases h) hlk ⟨rfl, N12⟩ (by decide) (by decide) (fun fs hr => (retN X12 hx (t := .boolean) Bd.returns (by simp) (hb hby at_221) hr))
          · rewrite [if_neg hc193_11]
            refine Go.of (fun t k => XS.icmpYes X10.here hx rfl (pc0 := 193) (pc' := 220) rfl (hb hby at_193) rfl (feq hc193_11).2 (by decide) (by decide) k) ?_
            show Go p e below s _ _ _ (T10.setTop (mkF m 220 #[.val (.int p0), .val (.int p1), .val (.int p2), .val (.int p3), .val (.int (p0 &&& (2147483647 : Int32))), .val (.int (p1 &&& (2147483647 : Int32))), .val (.int v6_39), .val (.int v7_67), .val (.int (p3 &&& (3 : Int32))), .val (.ref b3), .val (.int (((p3.toUInt32 >>> ((3 : Int32) &&& 31).toUInt32).toInt32) &&& (7 : Int32))), .val (.int v11_144), .val (.long ((v11_144.toInt64) - (v6_39.toInt64))), .second, .val (.long ((v7_67.toInt64) - (v6_39.toInt64))), .second, .val (.int w0_182)] []))
            refine Go.of (fun t k => XS.iconst X10.here hx rfl (hb hby at_220) k) ?_
            show Go p e below s _ _ _ (T10.setTop (mkF m 221 #[.val (.int p0), .val (.int p1), .val (.int p2), .val (.int p3), .val (.int (p0 &&& (2147483647 : Int32))), .val (.int (p1 &&& (2147483647 : Int32))), .val (.int v6_39), .val (.int v7_67), .val (.int (p3 &&& (3 : Int32))), .val (.ref b3), .val (.int (((p3.toUInt32 >>> ((3 : Int32) &&& 31).toUInt32).toInt32) &&& (7 : Int32))), .val (.int v11_144), .val (.long ((v11_144.toInt64) - (v6_39.toInt64))), .second, .val (.long ((v7_67.toInt64) - (v6_39.toInt64))), .second, .val (.int w0_182)] [(.int (0 : Int32))]))
            exact Go.ret X10 (some (.int (0 : Int32))) (fun h => by rw [Bd.returns] at h; cases h) hlk ⟨rfl, N10⟩ (by decide) (by decide) (fun fs hr => (retN X10 hx (t := .boolean) Bd.returns (by simp) (hb hby at_221) hr))
        have jn181 : ∀ (T_181 : State) (l_181 : List Loc) (X_181 : Stand p l e room_1 s m #[(.int p0), (.int p1), (.int p2), (.int p3)] below meth c T_181 l_181 1 2) (e_181 : T_181.heap = T6.heap) (N_181 : Fr n0 l_181), Go p e below s (QL (some (.int (F0_181 v6_39 v7_67 v11_144))) n0) room_1.cells room_1.slots (T_181.setTop (mkF m 181 #[.val (.int p0), .val (.int p1), .val (.int p2), .val (.int p3), .val (.int (p0 &&& (2147483647 : Int32))), .val (.int (p1 &&& (2147483647 : Int32))), .val (.int v6_39), .val (.int v7_67), .val (.int (p3 &&& (3 : Int32))), .val (.ref b3), .val (.int (((p3.toUInt32 >>> ((3 : Int32) &&& 31).toUInt32).toInt32) &&& (7 : Int32))), .val (.int v11_144), .val (.long ((v11_144.toInt64) - (v6_39.toInt64))), .second, .val (.long ((v7_67.toInt64) - (v6_39.toInt64))), .second, .unset] [])) := by
          intro T_181 l_181 X_181 e_181 N_181
          unfold F0_181
          refine Go.of (fun t k => XS.iconst X_181.here hx rfl (hb hby at_181) k) ?_
          show Go p e below s _ _ _ (T_181.setTop (mkF m 182 #[.val (.int p0), .val (.int p1), .val (.int p2), .val (.int p3), .val (.int (p0 &&& (2147483647 : Int32))), .val (.int (p1 &&& (2147483647 : Int32))), .val (.int v6_39), .val (.int v7_67), .val (.int (p3 &&& (3 : Int32))), .val (.ref b3), .val (.int (((p3.toUInt32 >>> ((3 : Int32) &&& 31).toUInt32).toInt32) &&& (7 : Int32))), .val (.int v11_144), .val (.long ((v11_144.toInt64) - (v6_39.toInt64))), .second, .val (.long ((v7_67.toInt64) - (v6_39.toInt64))), .second, .unset] [(.int (0 : Int32))]))
          exact jn182 (0 : Int32)  T_181 _ X_181 e_181 N_181  
        by_cases hc166_16 : ((v11_144.toInt64) - (v6_39.toInt64)) < (0 : Int64)
        · rewrite [if_pos hc166_16]
          refine Go.of (fun t k => XS.ifYes X_144.here hx rfl (pc0 := 166) (pc' := 181) rfl (hb hby at_166) rfl ((if0 _ _).trans (tlt ((lw_lt ((v11_144.toInt64) - (v6_39.toInt64)) (0 : Int64)).mpr hc166_16)).1) (by decide) (by decide) k) ?_
          show Go p e below s _ _ _ (T_144.setTop (mkF m 181 #[.val (.int p0), .val (.int p1), .val (.int p2), .val (.int p3), .val (.int (p0 &&& (2147483647 : Int32))), .val (.int (p1 &&& (2147483647 : Int32))), .val (.int v6_39), .val (.int v7_67), .val (.int (p3 &&& (3 : Int32))), .val (.ref b3), .val (.int (((p3.toUInt32 >>> ((3 : Int32) &&& 31).toUInt32).toInt32) &&& (7 : Int32))), .val (.int v11_144), .val (.long ((v11_144.toInt64) - (v6_39.toInt64))), .second, .val (.long ((v7_67.toInt64) - (v6_39.toInt64))), .second, .unset] []))
          exact jn181   T_144 _ X_144 e_144 N_144  
        · rewrite [if_neg hc166_16]
          refine Go.of (fun t k => XS.ifNo X_144.here hx rfl (hb hby at_166) rfl ((if0 _ _).trans (flt (mt (lw_lt ((v11_144.toInt64) - (v6_39.toInt64)) (0 : Int64)).mp hc166_16)).1) k) ?_
          show Go p e below s _ _ _ (T_144.setTop (mkF m 169 #[.val (.int p0), .val (.int p1), .val (.int p2), .val (.int p3), .val (.int (p0 &&& (2147483647 : Int32))), .val (.int (p1 &&& (2147483647 : Int32))), .val (.int v6_39), .val (.int v7_67), .val (.int (p3 &&& (3 : Int32))), .val (.ref b3), .val (.int (((p3.toUInt32 >>> ((3 : Int32) &&& 31).toUInt32).toInt32) &&& (7 : Int32))), .val (.int v11_144), .val (.long ((v11_144.toInt64) - (v6_39.toInt64))), .second, .val (.long ((v7_67.toInt64) - (v6_39.toInt64))), .second, .unset] []))
          refine Go.of (fun t k => XS.lload X_144.here hx rfl (hb hby at_169) rfl k) ?_
          show Go p e below s _ _ _ (T_144.setTop (mkF m 171 #[.val (.int p0), .val (.int p1), .val (.int p2), .val (.int p3), .val (.int (p0 &&& (2147483647 : Int32))), .val (.int (p1 &&& (2147483647 : Int32))), .val (.int v6_39), .val (.int v7_67), .val (.int (p3 &&& (3 : Int32))), .val (.ref b3), .val (.int (((p3.toUInt32 >>> ((3 : Int32) &&& 31).toUInt32).toInt32) &&& (7 : Int32))), .val (.int v11_144), .val (.long ((v11_144.toInt64) - (v6_39.toInt64))), .second, .val (.long ((v7_67.toInt64) - (v6_39.toInt64))), .second, .unset] [(.long ((v11_144.toInt64) - (v6_39.toInt64)))]))
          refine Go.of (fun t k => XS.lload X_144.here hx rfl (hb hby at_171) rfl k) ?_
          show Go p e below s _ _ _ (T_144.setTop (mkF m 173 #[.val (.int p0), .val (.int p1), .val (.int p2), .val (.int p3), .val (.int (p0 &&& (2147483647 : Int32))), .val (.int (p1 &&& (2147483647 : Int32))), .val (.int v6_39), .val (.int v7_67), .val (.int (p3 &&& (3 : Int32))), .val (.ref b3), .val (.int (((p3.toUInt32 >>> ((3 : Int32) &&& 31).toUInt32).toInt32) &&& (7 : Int32))), .val (.int v11_144), .val (.long ((v11_144.toInt64) - (v6_39.toInt64))), .second, .val (.long ((v7_67.toInt64) - (v6_39.toInt64))), .second, .unset] [(.long ((v7_67.toInt64) - (v6_39.toInt64))), (.long ((v11_144.toInt64) - (v6_39.toInt64)))]))
          refine Go.of (fun t k => XS.lcmp X_144.here hx rfl (hb hby at_173) rfl k) ?_
          show Go p e below s _ _ _ (T_144.setTop (mkF m 174 #[.val (.int p0), .val (.int p1), .val (.int p2), .val (.int p3), .val (.int (p0 &&& (2147483647 : Int32))), .val (.int (p1 &&& (2147483647 : Int32))), .val (.int v6_39), .val (.int v7_67), .val (.int (p3 &&& (3 : Int32))), .val (.ref b3), .val (.int (((p3.toUInt32 >>> ((3 : Int32) &&& 31).toUInt32).toInt32) &&& (7 : Int32))), .val (.int v11_144), .val (.long ((v11_144.toInt64) - (v6_39.toInt64))), .second, .val (.long ((v7_67.toInt64) - (v6_39.toInt64))), .second, .unset] [(.int (lcmpW ((v11_144.toInt64) - (v6_39.toInt64)) ((v7_67.toInt64) - (v6_39.toInt64))))]))
          by_cases hc174_17 : ((v7_67.toInt64) - (v6_39.toInt64)) < ((v11_144.toInt64) - (v6_39.toInt64))
          · rewrite [if_pos hc174_17]
            refine Go.of (fun t k => XS.ifYes X_144.here hx rfl (pc0 := 174) (pc' := 181) rfl (hb hby at_174) rfl ((if0 _ _).trans (tlt ((lw_gt ((v11_144.toInt64) - (v6_39.toInt64)) ((v7_67.toInt64) - (v6_39.toInt64))).mpr hc174_17)).2.2.1) (by decide) (by decide) k) ?_
            show Go p e below s _ _ _ (T_144.setTop (mkF m 181 #[.val (.int p0), .val (.int p1), .val (.int p2), .val (.int p3), .val (.int (p0 &&& (2147483647 : Int32))), .val (.int (p1 &&& (2147483647 : Int32))), .val (.int v6_39), .val (.int v7_67), .val (.int (p3 &&& (3 : Int32))), .val (.ref b3), .val (.int (((p3.toUInt32 >>> ((3 : Int32) &&& 31).toUInt32).toInt32) &&& (7 : Int32))), .val (.int v11_144), .val (.long ((v11_144.toInt64) - (v6_39.toInt64))), .second, .val (.long ((v7_67.toInt64) - (v6_39.toInt64))), .second, .unset] []))
            exact jn181   T_144 _ X_144 e_144 N_144  
          · rewrite [if_neg hc174_17]
            refine Go.of (fun t k => XS.ifNo X_144.here hx rfl (hb hby at_174) rfl ((if0 _ _).trans (flt (mt (lw_gt ((v11_144.toInt64) - (v6_39.toInt64)) ((v7_67.toInt64) - (v6_39.toInt64))).mp hc174_17)).2.2.1) k) ?_
            show Go p e below s _ _ _ (T_144.setTop (mkF m 177 #[.val (.int p0), .val (.int p1), .val (.int p2), .val (.int p3), .val (.int (p0 &&& (2147483647 : Int32))), .val (.int (p1 &&& (2147483647 : Int32))), .val (.int v6_39), .val (.int v7_67), .val (.int (p3 &&& (3 : Int32))), .val (.ref b3), .val (.int (((p3.toUInt32 >>> ((3 : Int32) &&& 31).toUInt32).toInt32) &&& (7 : Int32))), .val (.int v11_144), .val (.long ((v11_144.toInt64) - (v6_39.toInt64))), .second, .val (.long ((v7_67.toInt64) - (v6_39.toInt64))), .second, .unset] []))
            refine Go.of (fun t k => XS.iconst X_144.here hx rfl (hb hby at_177) k) ?_
            show Go p e below s _ _ _ (T_144.setTop (mkF m 178 #[.val (.int p0), .val (.int p1), .val (.int p2), .val (.int p3), .val (.int (p0 &&& (2147483647 : Int32))), .val (.int (p1 &&& (2147483647 : Int32))), .val (.int v6_39), .val (.int v7_67), .val (.int (p3 &&& (3 : Int32))), .val (.ref b3), .val (.int (((p3.toUInt32 >>> ((3 : Int32) &&& 31).toUInt32).toInt32) &&& (7 : Int32))), .val (.int v11_144), .val (.long ((v11_144.toInt64) - (v6_39.toInt64))), .second, .val (.long ((v7_67.toInt64) - (v6_39.toInt64))), .second, .unset] [(.int (1 : Int32))]))
            refine Go.of (fun t k => XS.goto X_144.here hx rfl (pc0 := 178) (pc' := 182) rfl (hb hby at_178) (by decide) (by decide) k) ?_
            show Go p e below s _ _ _ (T_144.setTop (mkF m 182 #[.val (.int p0), .val (.int p1), .val (.int p2), .val (.int p3), .val (.int (p0 &&& (2147483647 : Int32))), .val (.int (p1 &&& (2147483647 : Int32))), .val (.int v6_39), .val (.int v7_67), .val (.int (p3 &&& (3 : Int32))), .val (.ref b3), .val (.int (((p3.toUInt32 >>> ((3 : Int32) &&& 31).toUInt32).toInt32) &&& (7 : Int32))), .val (.int v11_144), .val (.long ((v11_144.toInt64) - (v6_39.toInt64))), .second, .val (.long ((v7_67.toInt64) - (v6_39.toInt64))), .second, .unset] [(.int (1 : Int32))]))
            exact jn182 (1 : Int32)  T_144 _ X_144 e_144 N_144  
      by_cases hc94_18 : (((p3.toUInt32 >>> ((3 : Int32) &&& 31).toUInt32).toInt32) &&& (7 : Int32)) = (1 : Int32)
      · rewrite [if_pos hc94_18]
        refine Go.of (fun t k => XS.icmpNo X6.here hx rfl (hb hby at_94) rfl (teq hc94_18).2 k) ?_
        show Go p e below s _ _ _ (T6.setTop (mkF m 97 #[.val (.int p0), .val (.int p1), .val (.int p2), .val (.int p3), .val (.int (p0 &&& (2147483647 : Int32))), .val (.int (p1 &&& (2147483647 : Int32))), .val (.int v6_39), .val (.int v7_67), .val (.int (p3 &&& (3 : Int32))), .val (.ref b3), .val (.int (((p3.toUInt32 >>> ((3 : Int32) &&& 31).toUInt32).toInt32) &&& (7 : Int32))), .val (.int p2), .unset, .unset, .unset, .unset, .unset] []))
        refine Go.of (fun t k => XS.iload X6.here hx rfl (hb hby at_97) rfl k) ?_
        show Go p e below s _ _ _ (T6.setTop (mkF m 99 #[.val (.int p0), .val (.int p1), .val (.int p2), .val (.int p3), .val (.int (p0 &&& (2147483647 : Int32))), .val (.int (p1 &&& (2147483647 : Int32))), .val (.int v6_39), .val (.int v7_67), .val (.int (p3 &&& (3 : Int32))), .val (.ref b3), .val (.int (((p3.toUInt32 >>> ((3 : Int32) &&& 31).toUInt32).toInt32) &&& (7 : Int32))), .val (.int p2), .unset, .unset, .unset, .unset, .unset] [(.int v6_39)]))
        refine Go.of (fun t k => XS.istore X6.here hx rfl (hb hby at_99) rfl (l' := #[.val (.int p0), .val (.int p1), .val (.int p2), .val (.int p3), .val (.int (p0 &&& (2147483647 : Int32))), .val (.int (p1 &&& (2147483647 : Int32))), .val (.int v6_39), .val (.int v7_67), .val (.int (p3 &&& (3 : Int32))), .val (.ref b3), .val (.int (((p3.toUInt32 >>> ((3 : Int32) &&& 31).toUInt32).toInt32) &&& (7 : Int32))), .val (.int v6_39), .unset, .unset, .unset, .unset, .unset]) rfl k) ?_
        show Go p e below s _ _ _ (T6.setTop (mkF m 101 #[.val (.int p0), .val (.int p1), .val (.int p2), .val (.int p3), .val (.int (p0 &&& (2147483647 : Int32))), .val (.int (p1 &&& (2147483647 : Int32))), .val (.int v6_39), .val (.int v7_67), .val (.int (p3 &&& (3 : Int32))), .val (.ref b3), .val (.int (((p3.toUInt32 >>> ((3 : Int32) &&& 31).toUInt32).toInt32) &&& (7 : Int32))), .val (.int v6_39), .unset, .unset, .unset, .unset, .unset] []))
        refine Go.of (fun t k => XS.goto X6.here hx rfl (pc0 := 101) (pc' := 144) rfl (hb hby at_101) (by decide) (by decide) k) ?_
        show Go p e below s _ _ _ (T6.setTop (mkF m 144 #[.val (.int p0), .val (.int p1), .val (.int p2), .val (.int p3), .val (.int (p0 &&& (2147483647 : Int32))), .val (.int (p1 &&& (2147483647 : Int32))), .val (.int v6_39), .val (.int v7_67), .val (.int (p3 &&& (3 : Int32))), .val (.ref b3), .val (.int (((p3.toUInt32 >>> ((3 : Int32) &&& 31).toUInt32).toInt32) &&& (7 : Int32))), .val (.int v6_39), .unset, .unset, .unset, .unset, .unset] []))
        exact jn144 v6_39  T6 _ X6 rfl N6  
      · rewrite [if_neg hc94_18]
        refine Go.of (fun t k => XS.icmpYes X6.here hx rfl (pc0 := 94) (pc' := 104) rfl (hb hby at_94) rfl (feq hc94_18).2 (by decide) (by decide) k) ?_
        show Go p e below s _ _ _ (T6.setTop (mkF m 104 #[.val (.int p0), .val (.int p1), .val (.int p2), .val (.int p3), .val (.int (p0 &&& (2147483647 : Int32))), .val (.int (p1 &&& (2147483647 : Int32))), .val (.int v6_39), .val (.int v7_67), .val (.int (p3 &&& (3 : Int32))), .val (.ref b3), .val (.int (((p3.toUInt32 >>> ((3 : Int32) &&& 31).toUInt32).toInt32) &&& (7 : Int32))), .val (.int p2), .unset, .unset, .unset, .unset, .unset] []))
        refine Go.of (fun t k => XS.iload X6.here hx rfl (hb hby at_104) rfl k) ?_
        show Go p e below s _ _ _ (T6.setTop (mkF m 106 #[.val (.int p0), .val (.int p1), .val (.int p2), .val (.int p3), .val (.int (p0 &&& (2147483647 : Int32))), .val (.int (p1 &&& (2147483647 : Int32))), .val (.int v6_39), .val (.int v7_67), .val (.int (p3 &&& (3 : Int32))), .val (.ref b3), .val (.int (((p3.toUInt32 >>> ((3 : Int32) &&& 31).toUInt32).toInt32) &&& (7 : Int32))), .val (.int p2), .unset, .unset, .unset, .unset, .unset] [(.int (((p3.toUInt32 >>> ((3 : Int32) &&& 31).toUInt32).toInt32) &&& (7 : Int32)))]))
        refine Go.of (fun t k => XS.iconst X6.here hx rfl (hb hby at_106) k) ?_
        show Go p e below s _ _ _ (T6.setTop (mkF m 107 #[.val (.int p0), .val (.int p1), .val (.int p2), .val (.int p3), .val (.int (p0 &&& (2147483647 : Int32))), .val (.int (p1 &&& (2147483647 : Int32))), .val (.int v6_39), .val (.int v7_67), .val (.int (p3 &&& (3 : Int32))), .val (.ref b3), .val (.int (((p3.toUInt32 >>> ((3 : Int32) &&& 31).toUInt32).toInt32) &&& (7 : Int32))), .val (.int p2), .unset, .unset, .unset, .unset, .unset] [(.int (2 : Int32)), (.int (((p3.toUInt32 >>> ((3 : Int32) &&& 31).toUInt32).toInt32) &&& (7 : Int32)))]))
        by_cases hc107_19 : (((p3.toUInt32 >>> ((3 : Int32) &&& 31).toUInt32).toInt32) &&& (7 : Int32)) = (2 : Int32)
        · rewrite [if_pos hc107_19]
          refine Go.of (fun t k => XS.icmpNo X6.here hx rfl (hb hby at_107) rfl (teq hc107_19).2 k) ?_
          show Go p e below s _ _ _ (T6.setTop (mkF m 110 #[.val (.int p0), .val (.int p1), .val (.int p2), .val (.int p3), .val (.int (p0 &&& (2147483647 : Int32))), .val (.int (p1 &&& (2147483647 : Int32))), .val (.int v6_39), .val (.int v7_67), .val (.int (p3 &&& (3 : Int32))), .val (.ref b3), .val (.int (((p3.toUInt32 >>> ((3 : Int32) &&& 31).toUInt32).toInt32) &&& (7 : Int32))), .val (.int p2), .unset, .unset, .unset, .unset, .unset] []))
          refine Go.of (fun t k => XS.iload X6.here hx rfl (hb hby at_110) rfl k) ?_
          show Go p e below s _ _ _ (T6.setTop (mkF m 112 #[.val (.int p0), .val (.int p1), .val (.int p2), .val (.int p3), .val (.int (p0 &&& (2147483647 : Int32))), .val (.int (p1 &&& (2147483647 : Int32))), .val (.int v6_39), .val (.int v7_67), .val (.int (p3 &&& (3 : Int32))), .val (.ref b3), .val (.int (((p3.toUInt32 >>> ((3 : Int32) &&& 31).toUInt32).toInt32) &&& (7 : Int32))), .val (.int p2), .unset, .unset, .unset, .unset, .unset] [(.int v7_67)]))
          refine Go.of (fun t k => XS.istore X6.here hx rfl (hb hby at_112) rfl (l' := #[.val (.int p0), .val (.int p1), .val (.int p2), .val (.int p3), .val (.int (p0 &&& (2147483647 : Int32))), .val (.int (p1 &&& (2147483647 : Int32))), .val (.int v6_39), .val (.int v7_67), .val (.int (p3 &&& (3 : Int32))), .val (.ref b3), .val (.int (((p3.toUInt32 >>> ((3 : Int32) &&& 31).toUInt32).toInt32) &&& (7 : Int32))), .val (.int v7_67), .unset, .unset, .unset, .unset, .unset]) rfl k) ?_
          show Go p e below s _ _ _ (T6.setTop (mkF m 114 #[.val (.int p0), .val (.int p1), .val (.int p2), .val (.int p3), .val (.int (p0 &&& (2147483647 : Int32))), .val (.int (p1 &&& (2147483647 : Int32))), .val (.int v6_39), .val (.int v7_67), .val (.int (p3 &&& (3 : Int32))), .val (.ref b3), .val (.int (((p3.toUInt32 >>> ((3 : Int32) &&& 31).toUInt32).toInt32) &&& (7 : Int32))), .val (.int v7_67), .unset, .unset, .unset, .unset, .unset] []))
          refine Go.of (fun t k => XS.goto X6.here hx rfl (pc0 := 114) (pc' := 144) rfl (hb hby at_114) (by decide) (by decide) k) ?_
          show Go p e below s _ _ _ (T6.setTop (mkF m 144 #[.val (.int p0), .val (.int p1), .val (.int p2), .val (.int p3), .val (.int (p0 &&& (2147483647 : Int32))), .val (.int (p1 &&& (2147483647 : Int32))), .val (.int v6_39), .val (.int v7_67), .val (.int (p3 &&& (3 : Int32))), .val (.ref b3), .val (.int (((p3.toUInt32 >>> ((3 : Int32) &&& 31).toUInt32).toInt32) &&& (7 : Int32))), .val (.int v7_67), .unset, .unset, .unset, .unset, .unset] []))
          exact jn144 v7_67  T6 _ X6 rfl N6  
        · rewrite [if_neg hc107_19]
          refine Go.of (fun t k => XS.icmpYes X6.here hx rfl (pc0 := 107) (pc' := 117) rfl (hb hby at_107) rfl (feq hc107_19).2 (by decide) (by decide) k) ?_
          show Go p e below s _ _ _ (T6.setTop (mkF m 117 #[.val (.int p0), .val (.int p1), .val (.int p2), .val (.int p3), .val (.int (p0 &&& (2147483647 : Int32))), .val (.int (p1 &&& (2147483647 : Int32))), .val (.int v6_39), .val (.int v7_67), .val (.int (p3 &&& (3 : Int32))), .val (.ref b3), .val (.int (((p3.toUInt32 >>> ((3 : Int32) &&& 31).toUInt32).toInt32) &&& (7 : Int32))), .val (.int p2), .unset, .unset, .unset, .unset, .unset] []))
          refine Go.of (fun t k => XS.iload X6.here hx rfl (hb hby at_117) rfl k) ?_
          show Go p e below s _ _ _ (T6.setTop (mkF m 119 #[.val (.int p0), .val (.int p1), .val (.int p2), .val (.int p3), .val (.int (p0 &&& (2147483647 : Int32))), .val (.int (p1 &&& (2147483647 : Int32))), .val (.int v6_39), .val (.int v7_67), .val (.int (p3 &&& (3 : Int32))), .val (.ref b3), .val (.int (((p3.toUInt32 >>> ((3 : Int32) &&& 31).toUInt32).toInt32) &&& (7 : Int32))), .val (.int p2), .unset, .unset, .unset, .unset, .unset] [(.int (((p3.toUInt32 >>> ((3 : Int32) &&& 31).toUInt32).toInt32) &&& (7 : Int32)))]))
          refine Go.of (fun t k => XS.iconst X6.here hx rfl (hb hby at_119) k) ?_
          show Go p e below s _ _ _ (T6.setTop (mkF m 120 #[.val (.int p0), .val (.int p1), .val (.int p2), .val (.int p3), .val (.int (p0 &&& (2147483647 : Int32))), .val (.int (p1 &&& (2147483647 : Int32))), .val (.int v6_39), .val (.int v7_67), .val (.int (p3 &&& (3 : Int32))), .val (.ref b3), .val (.int (((p3.toUInt32 >>> ((3 : Int32) &&& 31).toUInt32).toInt32) &&& (7 : Int32))), .val (.int p2), .unset, .unset, .unset, .unset, .unset] [(.int (3 : Int32)), (.int (((p3.toUInt32 >>> ((3 : Int32) &&& 31).toUInt32).toInt32) &&& (7 : Int32)))]))
          by_cases hc120_20 : (((p3.toUInt32 >>> ((3 : Int32) &&& 31).toUInt32).toInt32) &&& (7 : Int32)) = (3 : Int32)
          · rewrite [if_pos hc120_20]
            refine Go.of (fun t k => XS.icmpNo X6.here hx rfl (hb hby at_120) rfl (teq hc120_20).2 k) ?_
            show Go p e below s _ _ _ (T6.setTop (mkF m 123 #[.val (.int p0), .val (.int p1), .val (.int p2), .val (.int p3), .val (.int (p0 &&& (2147483647 : Int32))), .val (.int (p1 &&& (2147483647 : Int32))), .val (.int v6_39), .val (.int v7_67), .val (.int (p3 &&& (3 : Int32))), .val (.ref b3), .val (.int (((p3.toUInt32 >>> ((3 : Int32) &&& 31).toUInt32).toInt32) &&& (7 : Int32))), .val (.int p2), .unset, .unset, .unset, .unset, .unset] []))
            refine Go.of (fun t k => XS.iload X6.here hx rfl (hb hby at_123) rfl k) ?_
            show Go p e below s _ _ _ (T6.setTop (mkF m 125 #[.val (.int p0), .val (.int p1), .val (.int p2), .val (.int p3), .val (.int (p0 &&& (2147483647 : Int32))), .val (.int (p1 &&& (2147483647 : Int32))), .val (.int v6_39), .val (.int v7_67), .val (.int (p3 &&& (3 : Int32))), .val (.ref b3), .val (.int (((p3.toUInt32 >>> ((3 : Int32) &&& 31).toUInt32).toInt32) &&& (7 : Int32))), .val (.int p2), .unset, .unset, .unset, .unset, .unset] [(.int v6_39)]))
            refine Go.of (fun t k => XS.iconst X6.here hx rfl (hb hby at_125) k) ?_
            show Go p e below s _ _ _ (T6.setTop (mkF m 126 #[.val (.int p0), .val (.int p1), .val (.int p2), .val (.int p3), .val (.int (p0 &&& (2147483647 : Int32))), .val (.int (p1 &&& (2147483647 : Int32))), .val (.int v6_39), .val (.int v7_67), .val (.int (p3 &&& (3 : Int32))), .val (.ref b3), .val (.int (((p3.toUInt32 >>> ((3 : Int32) &&& 31).toUInt32).toInt32) &&& (7 : Int32))), .val (.int p2), .unset, .unset, .unset, .unset, .unset] [(.int (1 : Int32)), (.int v6_39)]))
            refine Go.of (fun t k => XS.isub X6.here hx rfl (hb hby at_126) rfl k) ?_
            show Go p e below s _ _ _ (T6.setTop (mkF m 127 #[.val (.int p0), .val (.int p1), .val (.int p2), .val (.int p3), .val (.int (p0 &&& (2147483647 : Int32))), .val (.int (p1 &&& (2147483647 : Int32))), .val (.int v6_39), .val (.int v7_67), .val (.int (p3 &&& (3 : Int32))), .val (.ref b3), .val (.int (((p3.toUInt32 >>> ((3 : Int32) &&& 31).toUInt32).toInt32) &&& (7 : Int32))), .val (.int p2), .unset, .unset, .unset, .unset, .unset] [(.int (v6_39 - (1 : Int32)))]))
            refine Go.of (fun t k => XS.istore X6.here hx rfl (hb hby at_127) rfl (l' := #[.val (.int p0), .val (.int p1), .val (.int p2), .val (.int p3), .val (.int (p0 &&& (2147483647 : Int32))), .val (.int (p1 &&& (2147483647 : Int32))), .val (.int v6_39), .val (.int v7_67), .val (.int (p3 &&& (3 : Int32))), .val (.ref b3), .val (.int (((p3.toUInt32 >>> ((3 : Int32) &&& 31).toUInt32).toInt32) &&& (7 : Int32))), .val (.int (v6_39 - (1 : Int32))), .unset, .unset, .unset, .unset, .unset]) rfl k) ?_
            show Go p e below s _ _ _ (T6.setTop (mkF m 129 #[.val (.int p0), .val (.int p1), .val (.int p2), .val (.int p3), .val (.int (p0 &&& (2147483647 : Int32))), .val (.int (p1 &&& (2147483647 : Int32))), .val (.int v6_39), .val (.int v7_67), .val (.int (p3 &&& (3 : Int32))), .val (.ref b3), .val (.int (((p3.toUInt32 >>> ((3 : Int32) &&& 31).toUInt32).toInt32) &&& (7 : Int32))), .val (.int (v6_39 - (1 : Int32))), .unset, .unset, .unset, .unset, .unset] []))
            refine Go.of (fun t k => XS.goto X6.here hx rfl (pc0 := 129) (pc' := 144) rfl (hb hby at_129) (by decide) (by decide) k) ?_
            show Go p e below s _ _ _ (T6.setTop (mkF m 144 #[.val (.int p0), .val (.int p1), .val (.int p2), .val (.int p3), .val (.int (p0 &&& (2147483647 : Int32))), .val (.int (p1 &&& (2147483647 : Int32))), .val (.int v6_39), .val (.int v7_67), .val (.int (p3 &&& (3 : Int32))), .val (.ref b3), .val (.int (((p3.toUInt32 >>> ((3 : Int32) &&& 31).toUInt32).toInt32) &&& (7 : Int32))), .val (.int (v6_39 - (1 : Int32))), .unset, .unset, .unset, .unset, .unset] []))
            exact jn144 (v6_39 - (1 : Int32))  T6 _ X6 rfl N6  
          · rewrite [if_neg hc120_20]
            refine Go.of (fun t k => XS.icmpYes X6.here hx rfl (pc0 := 120) (pc' := 132) rfl (hb hby at_120) rfl (feq hc120_20).2 (by decide) (by decide) k) ?_
            show Go p e below s _ _ _ (T6.setTop (mkF m 132 #[.val (.int p0), .val (.int p1), .val (.int p2), .val (.int p3), .val (.int (p0 &&& (2147483647 : Int32))), .val (.int (p1 &&& (2147483647 : Int32))), .val (.int v6_39), .val (.int v7_67), .val (.int (p3 &&& (3 : Int32))), .val (.ref b3), .val (.int (((p3.toUInt32 >>> ((3 : Int32) &&& 31).toUInt32).toInt32) &&& (7 : Int32))), .val (.int p2), .unset, .unset, .unset, .unset, .unset] []))
            refine Go.of (fun t k => XS.iload X6.here hx rfl (hb hby at_132) rfl k) ?_
            show Go p e below s _ _ _ (T6.setTop (mkF m 134 #[.val (.int p0), .val (.int p1), .val (.int p2), .val (.int p3), .val (.int (p0 &&& (2147483647 : Int32))), .val (.int (p1 &&& (2147483647 : Int32))), .val (.int v6_39), .val (.int v7_67), .val (.int (p3 &&& (3 : Int32))), .val (.ref b3), .val (.int (((p3.toUInt32 >>> ((3 : Int32) &&& 31).toUInt32).toInt32) &&& (7 : Int32))), .val (.int p2), .unset, .unset, .unset, .unset, .unset] [(.int (((p3.toUInt32 >>> ((3 : Int32) &&& 31).toUInt32).toInt32) &&& (7 : Int32)))]))
            refine Go.of (fun t k => XS.iconst X6.here hx rfl (hb hby at_134) k) ?_
            show Go p e below s _ _ _ (T6.setTop (mkF m 135 #[.val (.int p0), .val (.int p1), .val (.int p2), .val (.int p3), .val (.int (p0 &&& (2147483647 : Int32))), .val (.int (p1 &&& (2147483647 : Int32))), .val (.int v6_39), .val (.int v7_67), .val (.int (p3 &&& (3 : Int32))), .val (.ref b3), .val (.int (((p3.toUInt32 >>> ((3 : Int32) &&& 31).toUInt32).toInt32) &&& (7 : Int32))), .val (.int p2), .unset, .unset, .unset, .unset, .unset] [(.int (4 : Int32)), (.int (((p3.toUInt32 >>> ((3 : Int32) &&& 31).toUInt32).toInt32) &&& (7 : Int32)))]))
            by_cases hc135_21 : (((p3.toUInt32 >>> ((3 : Int32) &&& 31).toUInt32).toInt32) &&& (7 : Int32)) = (4 : Int32)
            · rewrite [if_pos hc135_21]
              refine Go.of (fun t k => XS.icmpNo X6.here hx rfl (hb hby at_135) rfl (teq hc135_21).2 k) ?_
              show Go p e below s _ _ _ (T6.setTop (mkF m 138 #[.val (.int p0), .val (.int p1), .val (.int p2), .val (.int p3), .val (.int (p0 &&& (2147483647 : Int32))), .val (.int (p1 &&& (2147483647 : Int32))), .val (.int v6_39), .val (.int v7_67), .val (.int (p3 &&& (3 : Int32))), .val (.ref b3), .val (.int (((p3.toUInt32 >>> ((3 : Int32) &&& 31).toUInt32).toInt32) &&& (7 : Int32))), .val (.int p2), .unset, .unset, .unset, .unset, .unset] []))
              refine Go.of (fun t k => XS.iload X6.here hx rfl (hb hby at_138) rfl k) ?_
              show Go p e below s _ _ _ (T6.setTop (mkF m 140 #[.val (.int p0), .val (.int p1), .val (.int p2), .val (.int p3), .val (.int (p0 &&& (2147483647 : Int32))), .val (.int (p1 &&& (2147483647 : Int32))), .val (.int v6_39), .val (.int v7_67), .val (.int (p3 &&& (3 : Int32))), .val (.ref b3), .val (.int (((p3.toUInt32 >>> ((3 : Int32) &&& 31).toUInt32).toInt32) &&& (7 : Int32))), .val (.int p2), .unset, .unset, .unset, .unset, .unset] [(.int v7_67)]))
              refine Go.of (fun t k => XS.iconst X6.here hx rfl (hb hby at_140) k) ?_
              show Go p e below s _ _ _ (T6.setTop (mkF m 141 #[.val (.int p0), .val (.int p1), .val (.int p2), .val (.int p3), .val (.int (p0 &&& (2147483647 : Int32))), .val (.int (p1 &&& (2147483647 : Int32))), .val (.int v6_39), .val (.int v7_67), .val (.int (p3 &&& (3 : Int32))), .val (.ref b3), .val (.int (((p3.toUInt32 >>> ((3 : Int32) &&& 31).toUInt32).toInt32) &&& (7 : Int32))), .val (.int p2), .unset, .unset, .unset, .unset, .unset] [(.int (1 : Int32)), (.int v7_67)]))
              refine Go.of (fun t k => XS.iadd X6.here hx rfl (hb hby at_141) rfl k) ?_
              show Go p e below s _ _ _ (T6.setTop (mkF m 142 #[.val (.int p0), .val (.int p1), .val (.int p2), .val (.int p3), .val (.int (p0 &&& (2147483647 : Int32))), .val (.int (p1 &&& (2147483647 : Int32))), .val (.int v6_39), .val (.int v7_67), .val (.int (p3 &&& (3 : Int32))), .val (.ref b3), .val (.int (((p3.toUInt32 >>> ((3 : Int32) &&& 31).toUInt32).toInt32) &&& (7 : Int32))), .val (.int p2), .unset, .unset, .unset, .unset, .unset] [(.int (v7_67 + (1 : Int32)))]))
              refine Go.of (fun t k => XS.istore X6.here hx rfl (hb hby at_142) rfl (l' := #[.val (.int p0), .val (.int p1), .val (.int p2), .val (.int p3), .val (.int (p0 &&& (2147483647 : Int32))), .val (.int (p1 &&& (2147483647 : Int32))), .val (.int v6_39), .val (.int v7_67), .val (.int (p3 &&& (3 : Int32))), .val (.ref b3), .val (.int (((p3.toUInt32 >>> ((3 : Int32) &&& 31).toUInt32).toInt32) &&& (7 : Int32))), .val (.int (v7_67 + (1 : Int32))), .unset, .unset, .unset, .unset, .unset]) rfl k) ?_
              show Go p e below s _ _ _ (T6.setTop (mkF m 144 #[.val (.int p0), .val (.int p1), .val (.int p2), .val (.int p3), .val (.int (p0 &&& (2147483647 : Int32))), .val (.int (p1 &&& (2147483647 : Int32))), .val (.int v6_39), .val (.int v7_67), .val (.int (p3 &&& (3 : Int32))), .val (.ref b3), .val (.int (((p3.toUInt32 >>> ((3 : Int32) &&& 31).toUInt32).toInt32) &&& (7 : Int32))), .val (.int (v7_67 + (1 : Int32))), .unset, .unset, .unset, .unset, .unset] []))
              exact jn144 (v7_67 + (1 : Int32))  T6 _ X6 rfl N6  
            · rewrite [if_neg hc135_21]
              refine Go.of (fun t k => XS.icmpYes X6.here hx rfl (pc0 := 135) (pc' := 144) rfl (hb hby at_135) rfl (feq hc135_21).2 (by decide) (by decide) k) ?_
              show Go p e below s _ _ _ (T6.setTop (mkF m 144 #[.val (.int p0), .val (.int p1), .val (.int p2), .val (.int p3), .val (.int (p0 &&& (2147483647 : Int32))), .val (.int (p1 &&& (2147483647 : Int32))), .val (.int v6_39), .val (.int v7_67), .val (.int (p3 &&& (3 : Int32))), .val (.ref b3), .val (.int (((p3.toUInt32 >>> ((3 : Int32) &&& 31).toUInt32).toInt32) &&& (7 : Int32))), .val (.int p2), .unset, .unset, .unset, .unset, .unset] []))
              exact jn144 p2  T6 _ X6 rfl N6  
    by_cases hc47_22 : (p3 &&& (3 : Int32)) = (1 : Int32)
    · rewrite [if_pos hc47_22]
      refine Go.of (fun t k => XS.icmpNo X_39.here hx rfl (hb hby at_47) rfl (teq hc47_22).2 k) ?_
      show Go p e below s _ _ _ (T_39.setTop (mkF m 50 #[.val (.int p0), .val (.int p1), .val (.int p2), .val (.int p3), .val (.int (p0 &&& (2147483647 : Int32))), .val (.int (p1 &&& (2147483647 : Int32))), .val (.int v6_39), .val (.int (F2 (p0 &&& (2147483647 : Int32)) (p1 &&& (2147483647 : Int32)))), .val (.int (p3 &&& (3 : Int32))), .unset, .unset, .unset, .unset, .unset, .unset, .unset, .unset] []))
      refine Go.of (X_39.ldcInt hx hown (mvT hZ (hw _ (List.mem_of_getElem? (i := 0) rfl))) (g := (mkF m 50 #[.val (.int p0), .val (.int p1), .val (.int p2), .val (.int p3), .val (.int (p0 &&& (2147483647 : Int32))), .val (.int (p1 &&& (2147483647 : Int32))), .val (.int v6_39), .val (.int (F2 (p0 &&& (2147483647 : Int32)) (p1 &&& (2147483647 : Int32)))), .val (.int (p3 &&& (3 : Int32))), .unset, .unset, .unset, .unset, .unset, .unset, .unset, .unset] [])) rfl (hb hby at_50)) ?_
      show Go p e below s _ _ _ (T_39.setTop (mkF m 52 #[.val (.int p0), .val (.int p1), .val (.int p2), .val (.int p3), .val (.int (p0 &&& (2147483647 : Int32))), .val (.int (p1 &&& (2147483647 : Int32))), .val (.int v6_39), .val (.int (F2 (p0 &&& (2147483647 : Int32)) (p1 &&& (2147483647 : Int32)))), .val (.int (p3 &&& (3 : Int32))), .unset, .unset, .unset, .unset, .unset, .unset, .unset, .unset] [(.int (2147483647 : Int32))]))
      refine Go.of (fun t k => XS.istore X_39.here hx rfl (hb hby at_52) rfl (l' := #[.val (.int p0), .val (.int p1), .val (.int p2), .val (.int p3), .val (.int (p0 &&& (2147483647 : Int32))), .val (.int (p1 &&& (2147483647 : Int32))), .val (.int v6_39), .val (.int (2147483647 : Int32)), .val (.int (p3 &&& (3 : Int32))), .unset, .unset, .unset, .unset, .unset, .unset, .unset, .unset]) rfl k) ?_
      show Go p e below s _ _ _ (T_39.setTop (mkF m 54 #[.val (.int p0), .val (.int p1), .val (.int p2), .val (.int p3), .val (.int (p0 &&& (2147483647 : Int32))), .val (.int (p1 &&& (2147483647 : Int32))), .val (.int v6_39), .val (.int (2147483647 : Int32)), .val (.int (p3 &&& (3 : Int32))), .unset, .unset, .unset, .unset, .unset, .unset, .unset, .unset] []))
      refine Go.of (fun t k => XS.goto X_39.here hx rfl (pc0 := 54) (pc' := 67) rfl (hb hby at_54) (by decide) (by decide) k) ?_
      show Go p e below s _ _ _ (T_39.setTop (mkF m 67 #[.val (.int p0), .val (.int p1), .val (.int p2), .val (.int p3), .val (.int (p0 &&& (2147483647 : Int32))), .val (.int (p1 &&& (2147483647 : Int32))), .val (.int v6_39), .val (.int (2147483647 : Int32)), .val (.int (p3 &&& (3 : Int32))), .unset, .unset, .unset, .unset, .unset, .unset, .unset, .unset] []))
      exact jn67 (2147483647 : Int32)  T_39 _ X_39 e_39 N_39  (own_i67a hI_39)
    · rewrite [if_neg hc47_22]
      refine Go.of (fun t k => XS.icmpYes X_39.here hx rfl (pc0 := 47) (pc' := 57) rfl (hb hby at_47) rfl (feq hc47_22).2 (by decide) (by decide) k) ?_
      show Go p e below s _ _ _ (T_39.setTop (mkF m 57 #[.val (.int p0), .val (.int p1), .val (.int p2), .val (.int p3), .val (.int (p0 &&& (2147483647 : Int32))), .val (.int (p1 &&& (2147483647 : Int32))), .val (.int v6_39), .val (.int (F2 (p0 &&& (2147483647 : Int32)) (p1 &&& (2147483647 : Int32)))), .val (.int (p3 &&& (3 : Int32))), .unset, .unset, .unset, .unset, .unset, .unset, .unset, .unset] []))
      refine Go.of (fun t k => XS.iload X_39.here hx rfl (hb hby at_57) rfl k) ?_
      show Go p e below s _ _ _ (T_39.setTop (mkF m 59 #[.val (.int p0), .val (.int p1), .val (.int p2), .val (.int p3), .val (.int (p0 &&& (2147483647 : Int32))), .val (.int (p1 &&& (2147483647 : Int32))), .val (.int v6_39), .val (.int (F2 (p0 &&& (2147483647 : Int32)) (p1 &&& (2147483647 : Int32)))), .val (.int (p3 &&& (3 : Int32))), .unset, .unset, .unset, .unset, .unset, .unset, .unset, .unset] [(.int (p3 &&& (3 : Int32)))]))
      refine Go.of (fun t k => XS.iconst X_39.here hx rfl (hb hby at_59) k) ?_
      show Go p e below s _ _ _ (T_39.setTop (mkF m 60 #[.val (.int p0), .val (.int p1), .val (.int p2), .val (.int p3), .val (.int (p0 &&& (2147483647 : Int32))), .val (.int (p1 &&& (2147483647 : Int32))), .val (.int v6_39), .val (.int (F2 (p0 &&& (2147483647 : Int32)) (p1 &&& (2147483647 : Int32)))), .val (.int (p3 &&& (3 : Int32))), .unset, .unset, .unset, .unset, .unset, .unset, .unset, .unset] [(.int (2 : Int32)), (.int (p3 &&& (3 : Int32)))]))
      by_cases hc60_23 : (p3 &&& (3 : Int32)) = (2 : Int32)
      · rewrite [if_pos hc60_23]
        refine Go.of (fun t k => XS.icmpNo X_39.here hx rfl (hb hby at_60) rfl (teq hc60_23).2 k) ?_
        show Go p e below s _ _ _ (T_39.setTop (mkF m 63 #[.val (.int p0), .val (.int p1), .val (.int p2), .val (.int p3), .val (.int (p0 &&& (2147483647 : Int32))), .val (.int (p1 &&& (2147483647 : Int32))), .val (.int v6_39), .val (.int (F2 (p0 &&& (2147483647 : Int32)) (p1 &&& (2147483647 : Int32)))), .val (.int (p3 &&& (3 : Int32))), .unset, .unset, .unset, .unset, .unset, .unset, .unset, .unset] []))
        refine Go.of (fun t k => XS.iload X_39.here hx rfl (hb hby at_63) rfl k) ?_
        show Go p e below s _ _ _ (T_39.setTop (mkF m 65 #[.val (.int p0), .val (.int p1), .val (.int p2), .val (.int p3), .val (.int (p0 &&& (2147483647 : Int32))), .val (.int (p1 &&& (2147483647 : Int32))), .val (.int v6_39), .val (.int (F2 (p0 &&& (2147483647 : Int32)) (p1 &&& (2147483647 : Int32)))), .val (.int (p3 &&& (3 : Int32))), .unset, .unset, .unset, .unset, .unset, .unset, .unset, .unset] [(.int v6_39)]))
        refine Go.of (fun t k => XS.istore X_39.here hx rfl (hb hby at_65) rfl (l' := #[.val (.int p0), .val (.int p1), .val (.int p2), .val (.int p3), .val (.int (p0 &&& (2147483647 : Int32))), .val (.int (p1 &&& (2147483647 : Int32))), .val (.int v6_39), .val (.int v6_39), .val (.int (p3 &&& (3 : Int32))), .unset, .unset, .unset, .unset, .unset, .unset, .unset, .unset]) rfl k) ?_
        show Go p e below s _ _ _ (T_39.setTop (mkF m 67 #[.val (.int p0), .val (.int p1), .val (.int p2), .val (.int p3), .val (.int (p0 &&& (2147483647 : Int32))), .val (.int (p1 &&& (2147483647 : Int32))), .val (.int v6_39), .val (.int v6_39), .val (.int (p3 &&& (3 : Int32))), .unset, .unset, .unset, .unset, .unset, .unset, .unset, .unset] []))
        exact jn67 v6_39  T_39 _ X_39 e_39 N_39  (own_i67c hI_39)
      · rewrite [if_neg hc60_23]
        refine Go.of (fun t k => XS.icmpYes X_39.here hx rfl (pc0 := 60) (pc' := 67) rfl (hb hby at_60) rfl (feq hc60_23).2 (by decide) (by decide) k) ?_
        show Go p e below s _ _ _ (T_39.setTop (mkF m 67 #[.val (.int p0), .val (.int p1), .val (.int p2), .val (.int p3), .val (.int (p0 &&& (2147483647 : Int32))), .val (.int (p1 &&& (2147483647 : Int32))), .val (.int v6_39), .val (.int (F2 (p0 &&& (2147483647 : Int32)) (p1 &&& (2147483647 : Int32)))), .val (.int (p3 &&& (3 : Int32))), .unset, .unset, .unset, .unset, .unset, .unset, .unset, .unset] []))
        exact jn67 (F2 (p0 &&& (2147483647 : Int32)) (p1 &&& (2147483647 : Int32)))  T_39 _ X_39 e_39 N_39  (hI_39)
  by_cases hc33_24 : (p3 &&& (4 : Int32)) = (0 : Int32)
  · rewrite [if_pos hc33_24]
    refine Go.of (fun t k => XS.ifYes X2.here hx rfl (pc0 := 33) (pc' := 39) rfl (hb hby at_33) rfl ((if0 _ _).trans (teq hc33_24).1) (by decide) (by decide) k) ?_
    show Go p e below s _ _ _ (T2.setTop (mkF m 39 #[.val (.int p0), .val (.int p1), .val (.int p2), .val (.int p3), .val (.int (p0 &&& (2147483647 : Int32))), .val (.int (p1 &&& (2147483647 : Int32))), .val (.int (F1 (p0 &&& (2147483647 : Int32)) (p1 &&& (2147483647 : Int32)))), .val (.int (F2 (p0 &&& (2147483647 : Int32)) (p1 &&& (2147483647 : Int32)))), .unset, .unset, .unset, .unset, .unset, .unset, .unset, .unset, .unset] []))
    exact jn39 (F1 (p0 &&& (2147483647 : Int32)) (p1 &&& (2147483647 : Int32)))  T2 _ X2 e2 N2  (own_i39b p0 p1)
  · rewrite [if_neg hc33_24]
    refine Go.of (fun t k => XS.ifNo X2.here hx rfl (hb hby at_33) rfl ((if0 _ _).trans (feq hc33_24).1) k) ?_
    show Go p e below s _ _ _ (T2.setTop (mkF m 36 #[.val (.int p0), .val (.int p1), .val (.int p2), .val (.int p3), .val (.int (p0 &&& (2147483647 : Int32))), .val (.int (p1 &&& (2147483647 : Int32))), .val (.int (F1 (p0 &&& (2147483647 : Int32)) (p1 &&& (2147483647 : Int32)))), .val (.int (F2 (p0 &&& (2147483647 : Int32)) (p1 &&& (2147483647 : Int32)))), .unset, .unset, .unset, .unset, .unset, .unset, .unset, .unset, .unset] []))
    refine Go.of (fun t k => XS.iconst X2.here hx rfl (hb hby at_36) k) ?_
    show Go p e below s _ _ _ (T2.setTop (mkF m 37 #[.val (.int p0), .val (.int p1), .val (.int p2), .val (.int p3), .val (.int (p0 &&& (2147483647 : Int32))), .val (.int (p1 &&& (2147483647 : Int32))), .val (.int (F1 (p0 &&& (2147483647 : Int32)) (p1 &&& (2147483647 : Int32)))), .val (.int (F2 (p0 &&& (2147483647 : Int32)) (p1 &&& (2147483647 : Int32)))), .unset, .unset, .unset, .unset, .unset, .unset, .unset, .unset, .unset] [(.int (0 : Int32))]))
    refine Go.of (fun t k => XS.istore X2.here hx rfl (hb hby at_37) rfl (l' := #[.val (.int p0), .val (.int p1), .val (.int p2), .val (.int p3), .val (.int (p0 &&& (2147483647 : Int32))), .val (.int (p1 &&& (2147483647 : Int32))), .val (.int (0 : Int32)), .val (.int (F2 (p0 &&& (2147483647 : Int32)) (p1 &&& (2147483647 : Int32)))), .unset, .unset, .unset, .unset, .unset, .unset, .unset, .unset, .unset]) rfl k) ?_
    show Go p e below s _ _ _ (T2.setTop (mkF m 39 #[.val (.int p0), .val (.int p1), .val (.int p2), .val (.int p3), .val (.int (p0 &&& (2147483647 : Int32))), .val (.int (p1 &&& (2147483647 : Int32))), .val (.int (0 : Int32)), .val (.int (F2 (p0 &&& (2147483647 : Int32)) (p1 &&& (2147483647 : Int32)))), .unset, .unset, .unset, .unset, .unset, .unset, .unset, .unset, .unset] []))
    exact jn39 (0 : Int32)  T2 _ X2 e2 N2  (own_i39a p0 p1)
theorem own_144 (lo hi c : Int32) : F0_144 lo hi c = 1 := by
  have a1 := c_i2l lo
  have a2 := c_i2l hi
  have a3 := c_i2l c
  have s1 := c_lsub c.toInt64 lo.toInt64
  have s2 := c_lsub hi.toInt64 lo.toInt64
  have t1 := rng64 (c.toInt64 - lo.toInt64)
  have t2 := rng64 (hi.toInt64 - lo.toInt64)
  have r1 := rng32 lo
  have r2 := rng32 hi
  have r3 := rng32 c
  have z : (0 : Int64).toInt = 0 := by decide
  unfold F0_144 F0_181 F0_182 F6 F7 F8
  simp only [Int32.lt_iff_toInt_lt, Int64.lt_iff_toInt_lt, z]
  by_cases h1 : c.toInt < lo.toInt
  · rw [if_pos (show (c.toInt64 - lo.toInt64).toInt < 0 by omega)]; simp [h1]
  · rw [if_neg (show ¬ (c.toInt64 - lo.toInt64).toInt < 0 by omega)]
    by_cases h2 : hi.toInt < c.toInt
    · rw [if_pos (show (hi.toInt64 - lo.toInt64).toInt < (c.toInt64 - lo.toInt64).toInt by omega)]; simp [h1, h2]
    · rw [if_neg (show ¬ (hi.toInt64 - lo.toInt64).toInt < (c.toInt64 - lo.toInt64).toInt by omega)]; simp [h1, h2]
theorem own_law (a b c d : Int32) : F0 a b c d = 1 := by
  unfold F0 F0_39 F0_67
  repeat' split
  all_goals exact own_144 _ _ _
set_option maxRecDepth 65536 in
set_option maxHeartbeats 40000000 in
theorem comes_1 {Post : Tables → Env → Array Value → State → Outcome → State → Prop} (hpost : ∀ tb e args s v u, (limb_1_1.after args s (.returned v) u = true ∧ limb_1_2.after args s (.returned v) u = true ∧ True) → FrameEnd s (.returned v) u (Jvm.fieldLocs frame_1_writes args s ++ Jvm.arrayLocs frame_1_arrays args s ++ Jvm.staticLocs frame_1_statics s) 16 128 → Post tb e args s (.returned v) u) :
    ArmFor flags0 classFile x code maxLocals ret World_1 tables_1 room_1 Calls_1 rest_1 Pre_1 Post := by
  intro l hfl _ _ p e ha hc hk s m args below hf hA hF happ hP
  obtain ⟨hcalls, hrest, hpre⟩ := hP
  obtain ⟨-, -, -, hnamed, -, -, -, hat⟩ := (Spec.applies_iff hf).mp happ
  obtain ⟨hg, hn⟩ := and_e (Cond.before_iff.mp (show (Jvm.Cond.and given_1 narrow_1).before args s = true from hpre))
  obtain ⟨g0, g1⟩ := and_e hg
  obtain ⟨a0, g2⟩ := and_e g1
  obtain ⟨a1, g3⟩ := and_e g2
  obtain ⟨a2, g4⟩ := and_e g3
  have a3 := g4
  obtain ⟨w0, w1, w2, w3, rfl⟩ : ∃ w0 w1 w2 w3 : Value, args = #[w0, w1, w2, w3] := by
    have hs : args.size = 4 := by simpa [Cond.value, given_1] using g0
    obtain ⟨L⟩ := args
    match L, hs with
    | [w0, w1, w2, w3], _ => exact ⟨w0, w1, w2, w3, rfl⟩
  have hw := fun d (hd : d ∈ tables_1) => atoms_spec (ws := Jvm.Cond.code x code maxLocals ret :: tables_1) hat d (List.mem_cons_of_mem _ hd)
  obtain ⟨i0, ei0⟩ := is_v a0
  obtain rfl : w0 = (.int i0) := Option.some.inj ei0
  obtain ⟨i1, ei1⟩ := is_v a1
  obtain rfl : w1 = (.int i1) := Option.some.inj ei1
  obtain ⟨i2, ei2⟩ := is_v a2
  obtain rfl : w2 = (.int i2) := Option.some.inj ei2
  obtain ⟨i3, ei3⟩ := is_v a3
  obtain rfl : w3 = (.int i3) := Option.some.inj ei3
  obtain ⟨n, o, h1, h2, h3, _, L, rfl, ⟨rfl, N⟩, hq⟩ := rm0 l s _ hw tables_1 i0 i1 i2 i3 s.heap s.heap.size (Nat.le_refl _) p e ha hc hk s m _ below hf ((Spec.applies_iff_loose hf).mp happ).1 ⟨rfl, State.Warmed39.refl s, rfl⟩ trivial
  have hone : (F0 i0 i1 i2 i3) = 1 := own_law i0 i1 i2 i3
  refine ⟨n, _, h1, h2, h3, hpost _ _ _ _ _ _ ⟨Cond.after_iff.mpr rfl, Cond.after_iff.mpr (eq_i res_at (Term.int_eval (1)) (by rw [hone])), trivial⟩ ⟨hq.1, hq.2.1, (hq.2.2.sift fun y hy => Or.inr (N y hy)).mono (by decide) (by decide)⟩⟩
theorem main_1_1 : Claimed_1_1 := comes_1 fun _ _ _ _ _ _ h hF => ⟨h.1, hF⟩
theorem main_1_2 : Claimed_1_2 := comes_1 fun _ _ _ _ _ _ h hF => ⟨h.2.1, hF⟩
end Jvm.Pilot.@@N@@
namespace Jvm.Pilot.@@N@@
open Jvm Jvm.ClassFile Sem Op Lib Jvm.Free Jvm.Stand Jvm.Pilot.@@N@@.Jvm.D
/-! MADE BY PROGRAM (witnessworld.py) out of the Statement's table words and the real class files: 11 classes; the members and pool entries that the words name. The judged class is class 1, her method 1. -/
namespace start1
open Jvm.ClassFile
def u (s : String) : CpInfo := .utf8 (stringToUtf16 s)
/-- a pool by its gaps: so many unusable entries, then the entry; so many at the end -/
def gap : Nat → List CpInfo → List CpInfo
  | 0, r => r
  | n + 1, r => .unusable :: gap n r
def poolList (es : List (Nat × CpInfo)) (last : Nat) : List CpInfo := es.foldr (fun e r => gap e.1 (e.2 :: r)) (gap last [])
def pool (es : List (Nat × CpInfo)) (last : Nat) : Array CpInfo := ⟨poolList es last⟩
def fileOf (pool : Array CpInfo) (this : Nat) (attrs : Array Attribute := #[]) (ms : Array MethodInfo := #[]) (fl : Nat := 33) (sup : Nat := 0) (ifs : Array Nat := #[]) (fds : Array FieldInfo := #[]) : ClassFile where
  minorVersion := 0
  majorVersion := 65
  constantPool := pool
  accessFlags := fl
  thisClass := this
  superClass := sup
  interfaces := ifs
  fields := fds
  methods := ms
  attributes := attrs
def plain (name : String) (sup : Option ClassId) : Class where
  name := name
  kind := .ordinary
  loader := none
  accessFlags := 33
  super := sup
  interfaces := #[]
  cf := none
  fields := #[]
  methods := #[]
  instanceTypes := #[]
  staticTypes := #[]
  resolved := #[]
  callSites := []
  init := .initialized
  statics := none
  mirror := none

def pool0 : Array CpInfo := pool [(5, u "<init>"), (0, u "()V"), (1, .class_ 10), (1, u "java/lang/Object")] 113

def k0c0 : Code := { maxStack := 0, maxLocals := 1, code := object_method_1_code, exceptionTable := #[], attributes := #[] }
def k0m0 : Method := { name := "<init>", desc := "()V", sig := { parameters := [], returnType := none }, accessFlags := 1, code := some k0c0 }
/-- java/lang/Object -/
def k0 : Class := { plain "java/lang/Object" none with
  accessFlags := 33
  interfaces := #[]
  cf := some (fileOf pool0 8 #[] #[{ accessFlags := 1, nameIndex := 5, descriptorIndex := 6, attributes := #[] }] 33 0 #[] #[])
  fields := #[]
  methods := #[k0m0]
  instanceTypes := #[]
  staticTypes := #[]
  resolved := Array.replicate 124 none
  statics := none }

def pool1 : Array CpInfo := pool [(2, .class_ 4), (1, u "java/lang/Object"), (0, u "<init>"), (0, u "()V"), (0, .integer 2147483647), (0, .methodref 9 10), (0, .class_ 11), (0, .nameAndType 12 13), (0, u "java/lang/Math"), (0, u "min"), (0, u "(II)I"), (0, .methodref 9 15), (0, .nameAndType 16 13), (0, u "max"), (2, .class_ 20), (0, u "com/example/tallyfold/tallyfold/Statement$Quantity"), (0, .methodref 19 22), (0, .nameAndType 5 23), (0, u "(II)V"), (0, .methodref 19 25), (0, .nameAndType 26 27), (0, u "accepts"), (0, u "(I)Z"), (0, .methodref 19 29), (0, .nameAndType 12 30), (0, u "()I"), (0, .methodref 19 32), (0, .nameAndType 16 30), (0, .class_ 34), (0, u "com/example/tallyfold/tallyfold/QuantityAcceptsPinLaw"), (2, u "law"), (0, u "(IIII)Z")] 7

def k1m0 : Method := { name := "<init>", desc := "()V", sig := { parameters := [], returnType := none }, accessFlags := 2, code := none }
def k1c1 : Code := { maxStack := 4, maxLocals := 17, code := code, exceptionTable := #[], attributes := #[] }
def k1m1 : Method := { name := "law", desc := "(IIII)Z", sig := { parameters := [.int, .int, .int, .int], returnType := some .boolean }, accessFlags := 9, code := some k1c1 }
/-- com/example/tallyfold/tallyfold/QuantityAcceptsPinLaw -/
def k1 : Class := { plain "com/example/tallyfold/tallyfold/QuantityAcceptsPinLaw" (some 0) with
  accessFlags := 49
  interfaces := #[]
  cf := some (fileOf pool1 33 #[] #[{ accessFlags := 2, nameIndex := 5, descriptorIndex := 6, attributes := #[] }, { accessFlags := 9, nameIndex := 37, descriptorIndex := 38, attributes := #[] }] 49 2 #[] #[])
  fields := #[]
  methods := #[k1m0, k1m1]
  instanceTypes := #[]
  staticTypes := #[]
  resolved := Array.replicate 46 none
  statics := none }

def pool2 : Array CpInfo := pool [(1, .class_ 2), (0, u "java/lang/Math"), (1, .class_ 6), (1, u "java/lang/Object"), (0, u "<init>"), (0, u "()V"), (89, .class_ 100), (1, u "java/lang/Math$RandomNumberGeneratorHolder"), (71, u "negativeZeroFloatBits"), (0, u "J"), (2, u "negativeZeroDoubleBits"), (21, u "max"), (2, u "min"), (43, u "$assertionsDisabled"), (0, u "Z"), (88, u "(II)I"), (2, u "twoToTheDoubleScaleDown"), (0, u "D"), (4, u "twoToTheDoubleScaleUp"), (9, u "E"), (3, u "PI"), (2, u "TAU"), (2, u "DEGREES_TO_RADIANS"), (0, u "RADIANS_TO_DEGREES")] 94

def k2m0 : Method := { name := "<init>", desc := "()V", sig := { parameters := [], returnType := none }, accessFlags := 2, code := none }
def k2c1 : Code := { maxStack := 2, maxLocals := 2, code := jdk_29_method_65_code, exceptionTable := #[], attributes := #[] }
def k2m1 : Method := { name := "max", desc := "(II)I", sig := { parameters := [.int, .int], returnType := some .int }, accessFlags := 9, code := some k2c1 }
def k2c2 : Code := { maxStack := 2, maxLocals := 2, code := jdk_29_method_69_code, exceptionTable := #[], attributes := #[] }
def k2m2 : Method := { name := "min", desc := "(II)I", sig := { parameters := [.int, .int], returnType := some .int }, accessFlags := 9, code := some k2c2 }
/-- java/lang/Math -/
def k2 : Class := { plain "java/lang/Math" (some 0) with
  accessFlags := 49
  interfaces := #[]
  cf := some (fileOf pool2 1 #[.nestMembers #[98]] #[{ accessFlags := 2, nameIndex := 7, descriptorIndex := 8, attributes := #[] }, { accessFlags := 9, nameIndex := 198, descriptorIndex := 335, attributes := #[] }, { accessFlags := 9, nameIndex := 201, descriptorIndex := 335, attributes := #[] }] 49 4 #[] #[{ accessFlags := 25, nameIndex := 354, descriptorIndex := 339, attributes := #[] }, { accessFlags := 25, nameIndex := 358, descriptorIndex := 339, attributes := #[] }, { accessFlags := 25, nameIndex := 361, descriptorIndex := 339, attributes := #[] }, { accessFlags := 26, nameIndex := 364, descriptorIndex := 339, attributes := #[] }, { accessFlags := 26, nameIndex := 365, descriptorIndex := 339, attributes := #[] }, { accessFlags := 26, nameIndex := 172, descriptorIndex := 173, attributes := #[] }, { accessFlags := 26, nameIndex := 176, descriptorIndex := 173, attributes := #[] }, { accessFlags := 8, nameIndex := 344, descriptorIndex := 339, attributes := #[] }, { accessFlags := 8, nameIndex := 338, descriptorIndex := 339, attributes := #[] }, { accessFlags := 4120, nameIndex := 245, descriptorIndex := 246, attributes := #[] }])
  fields := #[{ name := "E", type := .double, accessFlags := 25, slot := 0, constantValue := 0 }, { name := "PI", type := .double, accessFlags := 25, slot := 1, constantValue := 0 }, { name := "TAU", type := .double, accessFlags := 25, slot := 2, constantValue := 0 }, { name := "DEGREES_TO_RADIANS", type := .double, accessFlags := 26, slot := 3, constantValue := 0 }, { name := "RADIANS_TO_DEGREES", type := .double, accessFlags := 26, slot := 4, constantValue := 0 }, { name := "negativeZeroFloatBits", type := .long, accessFlags := 26, slot := 5, constantValue := 0 }, { name := "negativeZeroDoubleBits", type := .long, accessFlags := 26, slot := 6, constantValue := 0 }, { name := "twoToTheDoubleScaleUp", type := .double, accessFlags := 8, slot := 7, constantValue := 0 }, { name := "twoToTheDoubleScaleDown", type := .double, accessFlags := 8, slot := 8, constantValue := 0 }, { name := "$assertionsDisabled", type := .boolean, accessFlags := 4120, slot := 9, constantValue := 0 }]
  methods := #[k2m0, k2m1, k2m2]
  instanceTypes := #[]
  staticTypes := #[.double, .double, .double, .double, .double, .long, .long, .double, .double, .boolean]
  resolved := Array.replicate 460 none
  statics := none }

def pool3 : Array CpInfo := pool [(1, .methodref 2 3), (0, .class_ 4), (0, .nameAndType 5 6), (0, u "java/lang/Object"), (0, u "<init>"), (0, u "()V"), (0, .class_ 8), (0, u "java/lang/Record")] 13

def k3c0 : Code := { maxStack := 1, maxLocals := 1, code := jdk_30_method_1_code, exceptionTable := #[], attributes := #[] }
def k3m0 : Method := { name := "<init>", desc := "()V", sig := { parameters := [], returnType := none }, accessFlags := 4, code := some k3c0 }
/-- java/lang/Record -/
def k3 : Class := { plain "java/lang/Record" (some 0) with
  accessFlags := 1057
  interfaces := #[]
  cf := some (fileOf pool3 7 #[] #[{ accessFlags := 4, nameIndex := 5, descriptorIndex := 6, attributes := #[] }] 1057 2 #[] #[])
  fields := #[]
  methods := #[k3m0]
  instanceTypes := #[]
  staticTypes := #[]
  resolved := Array.replicate 22 none
  statics := none }

def pool4 : Array CpInfo := pool [(1, .methodref 2 3), (0, .class_ 4), (0, .nameAndType 5 6), (0, u "java/lang/Record"), (0, u "<init>"), (0, u "()V"), (9, .fieldref 17 18), (0, .class_ 19), (0, .nameAndType 20 21), (0, u "com/example/tallyfold/tallyfold/Statement$Quantity"), (0, u "min"), (0, u "I"), (0, .fieldref 17 23), (0, .nameAndType 24 21), (0, u "max"), (35, u "(II)V"), (2, u "NONE"), (0, u "Lcom/example/tallyfold/tallyfold/Statement$Quantity;"), (2, u "ONE"), (2, u "SOME"), (4, u "accepts"), (0, u "(I)Z"), (4, u "()I"), (5, .class_ 88), (0, u "com/example/tallyfold/tallyfold/Statement")] 36

def k4c0 : Code := { maxStack := 4, maxLocals := 3, code := prog_84_method_1_code, exceptionTable := #[], attributes := #[] }
def k4m0 : Method := { name := "<init>", desc := "(II)V", sig := { parameters := [.int, .int], returnType := none }, accessFlags := 1, code := some k4c0 }
def k4c1 : Code := { maxStack := 2, maxLocals := 2, code := prog_84_method_2_code, exceptionTable := #[], attributes := #[] }
def k4m1 : Method := { name := "accepts", desc := "(I)Z", sig := { parameters := [.int], returnType := some .boolean }, accessFlags := 0, code := some k4c1 }
def k4c2 : Code := { maxStack := 1, maxLocals := 1, code := prog_84_method_8_code, exceptionTable := #[], attributes := #[] }
def k4m2 : Method := { name := "min", desc := "()I", sig := { parameters := [], returnType := some .int }, accessFlags := 1, code := some k4c2 }
def k4c3 : Code := { maxStack := 1, maxLocals := 1, code := prog_84_method_9_code, exceptionTable := #[], attributes := #[] }
def k4m3 : Method := { name := "max", desc := "()I", sig := { parameters := [], returnType := some .int }, accessFlags := 1, code := some k4c3 }
/-- com/example/tallyfold/tallyfold/Statement$Quantity -/
def k4 : Class := { plain "com/example/tallyfold/tallyfold/Statement$Quantity" (some 3) with
  accessFlags := 49
  interfaces := #[]
  cf := some (fileOf pool4 17 #[.nestHost 87] #[{ accessFlags := 1, nameIndex := 5, descriptorIndex := 60, attributes := #[] }, { accessFlags := 0, nameIndex := 75, descriptorIndex := 76, attributes := #[] }, { accessFlags := 1, nameIndex := 20, descriptorIndex := 81, attributes := #[] }, { accessFlags := 1, nameIndex := 24, descriptorIndex := 81, attributes := #[] }] 49 2 #[] #[{ accessFlags := 18, nameIndex := 20, descriptorIndex := 21, attributes := #[] }, { accessFlags := 18, nameIndex := 24, descriptorIndex := 21, attributes := #[] }, { accessFlags := 24, nameIndex := 63, descriptorIndex := 64, attributes := #[] }, { accessFlags := 24, nameIndex := 67, descriptorIndex := 64, attributes := #[] }, { accessFlags := 24, nameIndex := 70, descriptorIndex := 64, attributes := #[] }])
  fields := #[{ name := "min", type := .int, accessFlags := 18, slot := 0, constantValue := 0 }, { name := "max", type := .int, accessFlags := 18, slot := 1, constantValue := 0 }, { name := "NONE", type := (.object "com/example/tallyfold/tallyfold/Statement$Quantity"), accessFlags := 24, slot := 0, constantValue := 0 }, { name := "ONE", type := (.object "com/example/tallyfold/tallyfold/Statement$Quantity"), accessFlags := 24, slot := 1, constantValue := 0 }, { name := "SOME", type := (.object "com/example/tallyfold/tallyfold/Statement$Quantity"), accessFlags := 24, slot := 2, constantValue := 0 }]
  methods := #[k4m0, k4m1, k4m2, k4m3]
  instanceTypes := #[.int, .int]
  staticTypes := #[(.object "com/example/tallyfold/tallyfold/Statement$Quantity"), (.object "com/example/tallyfold/tallyfold/Statement$Quantity"), (.object "com/example/tallyfold/tallyfold/Statement$Quantity")]
  resolved := Array.replicate 125 none
  statics := none }

def pool5 : Array CpInfo := pool [(1, u "java/lang/Cloneable"), (0, .class_ 1), (0, u "java/lang/Object"), (0, .class_ 3)] 3

/-- java/lang/Cloneable -/
def k5 : Class := { plain "java/lang/Cloneable" (some 0) with
  accessFlags := 1537
  interfaces := #[]
  cf := some (fileOf pool5 2 #[] #[] 1537 4 #[] #[])
  fields := #[]
  methods := #[]
  instanceTypes := #[]
  staticTypes := #[]
  resolved := Array.replicate 8 none
  statics := none }

def pool6 : Array CpInfo := pool [(1, u "java/io/Serializable"), (0, .class_ 1), (0, u "java/lang/Object"), (0, .class_ 3)] 3

/-- java/io/Serializable -/
def k6 : Class := { plain "java/io/Serializable" (some 0) with
  accessFlags := 1537
  interfaces := #[]
  cf := some (fileOf pool6 2 #[] #[] 1537 4 #[] #[])
  fields := #[]
  methods := #[]
  instanceTypes := #[]
  staticTypes := #[]
  resolved := Array.replicate 8 none
  statics := none }

/-- the primitive byte -/
def k7 : Class := { plain "byte" none with kind := .primitive 'B', accessFlags := 0x411 }
/-- [B -/
def k8 : Class := { plain "[B" (some 0) with kind := .array 7 .byte, interfaces := #[5, 6], accessFlags := 1041 }

/-- the primitive int -/
def k9 : Class := { plain "int" none with kind := .primitive 'I', accessFlags := 0x411 }
/-- [I -/
def k10 : Class := { plain "[I" (some 0) with kind := .array 9 .int, interfaces := #[5, 6], accessFlags := 1041 }

def heap : Heap := #[]
def classes : Array Class := #[k0, k1, k2, k3, k4, k5, k6, k7, k8, k9, k10]
def interned : List (Array UInt16 × Addr) := []
def slotsUsed : Nat := 0
def theMethod : MethodId := ⟨1, 1⟩
def args0 : Array Value := #[.int 5, .int 6, .int 7, .int 8]
def aboutOver (below : List Frame) : State where
  vm := { classes := classes, interned := interned.toArray }
  heap := heap
  slotsUsed := slotsUsed
  threads := #[{ frames := .invoking theMethod args0 :: below }]
def below0 : List Frame := [.native { method := ⟨0, 0⟩, args := #[] }]
def about1 : State := aboutOver below0
def p0 : Program := .bare "" "" ""
def e0 : Env := launch0.env 0 0 0
theorem w_frames : about1.frames = Frame.invoking theMethod args0 :: below0 := rfl
set_option maxRecDepth 65536 in
theorem w_args : argsFit about1.vm theMethod args0 = true := by decide +kernel
set_option maxRecDepth 65536 in
theorem w_heap : heapFits about1 = true := by decide +kernel
set_option maxRecDepth 65536 in
theorem w_runnable : about1.curStatus? = some .runnable := by decide +kernel
set_option maxRecDepth 65536 in
theorem w_alone : about1.alone = true := by decide +kernel
set_option maxRecDepth 65536 in
theorem w_named : about1.methodNamed? x = some theMethod := by decide +kernel
set_option maxRecDepth 65536 in
theorem w_hears : about1.hears theMethod below0 = true := by decide +kernel
set_option maxRecDepth 65536 in
theorem w_ripe : about1.ripe theMethod args0 below0 = true := by decide +kernel
theorem w_running : about1.status = .running := rfl
set_option maxRecDepth 65536 in
theorem w_room : about1.hasRoom e0.platform room_1 = true :=
  launch0.hasRoom_least _ room_1 (by decide +kernel) (by decide +kernel) (by decide +kernel) (by decide +kernel) (by decide +kernel) (by decide +kernel)
theorem allAtoms_all (ts : List Jvm.Cond) (a : Array Jvm.Value) (st : Jvm.State) : (allAtoms ts).before a st = ts.all (fun c => c.before a st) := by
  induction ts with
  | nil => rfl
  | cons c t ih =>
    show (Jvm.Cond.and c (allAtoms t)).before a st = _
    rw [Jvm.Cond.before_and, ih, List.all_cons]
def words1 : List Jvm.Cond := Jvm.Cond.code x code maxLocals ret :: tables_1
/-- a 'code' word, met by the world's own term for the bytes: nothing is compared byte by byte -/
theorem code_word {y : MethodName} {bytes : ByteArray} {mx : Nat} {rt : Option FieldType} {a : Array Value} {s : State} {m : MethodId} {meth : Method} {c : Code} (h1 : s.methodNamed? y = some m) (h2 : s.vm.method? m = some meth) (h3 : meth.code = some c) (h4 : c.code = bytes)
    (h5 : (c.maxLocals == mx && c.exceptionTable.isEmpty && decide (c.maxStack ≤ mostOperands) && decide (meth.sig.returnType = rt) && !meth.locks && decide (parseMethodDescriptor y.desc = some meth.sig)) = true) : (Jvm.Cond.code y bytes mx rt).before a s = true := by
  simp only [Bool.and_eq_true, beq_iff_eq, Bool.not_eq_true', decide_eq_true_eq] at h5
  obtain ⟨⟨⟨⟨⟨g1, g2⟩, g3⟩, g4⟩, g5⟩, g6⟩ := h5
  simp [Cond.before, Cond.holds, Cond.value, h1, h2, h3, h4, g1, g2, g3, g4, g5, g6]
def isCode : Jvm.Cond → Bool
  | .code _ _ _ _ => true
  | _ => false
theorem all_split {L : List Jvm.Cond} {P : Jvm.Cond → Bool} (h1 : L.all (fun c => isCode c || P c) = true) (h2 : ∀ c ∈ L.filter isCode, P c = true) : L.all P = true := by
  refine List.all_eq_true.mpr fun c hc => ?_
  have h := List.all_eq_true.mp h1 c hc
  rcases Bool.eq_false_or_eq_true (isCode c) with hi | hi
  · exact h2 c (List.mem_filter.mpr ⟨hc, hi⟩)
  · simpa [hi] using h
set_option maxRecDepth 65536 in
theorem w_c0 : (Jvm.Cond.code x code maxLocals ret).before args0 about1 = true := code_word (m := ⟨1, 1⟩) (meth := k1m1) (c := k1c1) (by decide +kernel) rfl rfl rfl (by decide +kernel)
set_option maxRecDepth 65536 in
theorem w_c1 : (Jvm.Cond.code ({ cls := "java/lang/Math", name := "min", desc := "(II)I" } : Jvm.MethodName) jdk_29_method_69_code (2 : Nat) (Option.some Jvm.ClassFile.FieldType.int)).before args0 about1 = true := code_word (m := ⟨2, 2⟩) (meth := k2m2) (c := k2c2) (by decide +kernel) rfl rfl rfl (by decide +kernel)
set_option maxRecDepth 65536 in
theorem w_c2 : (Jvm.Cond.code ({ cls := "java/lang/Math", name := "max", desc := "(II)I" } : Jvm.MethodName) jdk_29_method_65_code (2 : Nat) (Option.some Jvm.ClassFile.FieldType.int)).before args0 about1 = true := code_word (m := ⟨2, 1⟩) (meth := k2m1) (c := k2c1) (by decide +kernel) rfl rfl rfl (by decide +kernel)
set_option maxRecDepth 65536 in
theorem w_c3 : (Jvm.Cond.code ({ cls := "com/example/tallyfold/tallyfold/Statement$Quantity", name := "<init>", desc := "(II)V" } : Jvm.MethodName) prog_84_method_1_code (3 : Nat) (Option.none : Option Jvm.ClassFile.FieldType)).before args0 about1 = true := code_word (m := ⟨4, 0⟩) (meth := k4m0) (c := k4c0) (by decide +kernel) rfl rfl rfl (by decide +kernel)
set_option maxRecDepth 65536 in
theorem w_c4 : (Jvm.Cond.code ({ cls := "java/lang/Record", name := "<init>", desc := "()V" } : Jvm.MethodName) jdk_30_method_1_code (1 : Nat) (Option.none : Option Jvm.ClassFile.FieldType)).before args0 about1 = true := code_word (m := ⟨3, 0⟩) (meth := k3m0) (c := k3c0) (by decide +kernel) rfl rfl rfl (by decide +kernel)
set_option maxRecDepth 65536 in
theorem w_c5 : (Jvm.Cond.code ({ cls := "java/lang/Object", name := "<init>", desc := "()V" } : Jvm.MethodName) object_method_1_code (1 : Nat) (Option.none : Option Jvm.ClassFile.FieldType)).before args0 about1 = true := code_word (m := ⟨0, 0⟩) (meth := k0m0) (c := k0c0) (by decide +kernel) rfl rfl rfl (by decide +kernel)
set_option maxRecDepth 65536 in
theorem w_c6 : (Jvm.Cond.code ({ cls := "com/example/tallyfold/tallyfold/Statement$Quantity", name := "accepts", desc := "(I)Z" } : Jvm.MethodName) prog_84_method_2_code (2 : Nat) (Option.some Jvm.ClassFile.FieldType.boolean)).before args0 about1 = true := code_word (m := ⟨4, 1⟩) (meth := k4m1) (c := k4c1) (by decide +kernel) rfl rfl rfl (by decide +kernel)
set_option maxRecDepth 65536 in
theorem w_c7 : (Jvm.Cond.code ({ cls := "com/example/tallyfold/tallyfold/Statement$Quantity", name := "min", desc := "()I" } : Jvm.MethodName) prog_84_method_8_code (1 : Nat) (Option.some Jvm.ClassFile.FieldType.int)).before args0 about1 = true := code_word (m := ⟨4, 2⟩) (meth := k4m2) (c := k4c2) (by decide +kernel) rfl rfl rfl (by decide +kernel)
set_option maxRecDepth 65536 in
theorem w_c8 : (Jvm.Cond.code ({ cls := "com/example/tallyfold/tallyfold/Statement$Quantity", name := "max", desc := "()I" } : Jvm.MethodName) prog_84_method_9_code (1 : Nat) (Option.some Jvm.ClassFile.FieldType.int)).before args0 about1 = true := code_word (m := ⟨4, 3⟩) (meth := k4m3) (c := k4c3) (by decide +kernel) rfl rfl rfl (by decide +kernel)
def codes1 : List Jvm.Cond := [Jvm.Cond.code x code maxLocals ret, Jvm.Cond.code ({ cls := "java/lang/Math", name := "min", desc := "(II)I" } : Jvm.MethodName) jdk_29_method_69_code (2 : Nat) (Option.some Jvm.ClassFile.FieldType.int), Jvm.Cond.code ({ cls := "java/lang/Math", name := "max", desc := "(II)I" } : Jvm.MethodName) jdk_29_method_65_code (2 : Nat) (Option.some Jvm.ClassFile.FieldType.int), Jvm.Cond.code ({ cls := "com/example/tallyfold/tallyfold/Statement$Quantity", name := "<init>", desc := "(II)V" } : Jvm.MethodName) prog_84_method_1_code (3 : Nat) (Option.none : Option Jvm.ClassFile.FieldType), Jvm.Cond.code ({ cls := "java/lang/Record", name := "<init>", desc := "()V" } : Jvm.MethodName) jdk_30_method_1_code (1 : Nat) (Option.none : Option Jvm.ClassFile.FieldType), Jvm.Cond.code ({ cls := "java/lang/Object", name := "<init>", desc := "()V" } : Jvm.MethodName) object_method_1_code (1 : Nat) (Option.none : Option Jvm.ClassFile.FieldType), Jvm.Cond.code ({ cls := "com/example/tallyfold/tallyfold/Statement$Quantity", name := "accepts", desc := "(I)Z" } : Jvm.MethodName) prog_84_method_2_code (2 : Nat) (Option.some Jvm.ClassFile.FieldType.boolean), Jvm.Cond.code ({ cls := "com/example/tallyfold/tallyfold/Statement$Quantity", name := "min", desc := "()I" } : Jvm.MethodName) prog_84_method_8_code (1 : Nat) (Option.some Jvm.ClassFile.FieldType.int), Jvm.Cond.code ({ cls := "com/example/tallyfold/tallyfold/Statement$Quantity", name := "max", desc := "()I" } : Jvm.MethodName) prog_84_method_9_code (1 : Nat) (Option.some Jvm.ClassFile.FieldType.int)]
set_option maxRecDepth 65536 in
theorem codes_eq : words1.filter isCode = codes1 := rfl
theorem w_codes : ∀ c ∈ words1.filter isCode, c.before args0 about1 = true := by
  rw [codes_eq]
  intro c hc
  simp only [codes1, List.mem_cons, List.not_mem_nil, or_false] at hc
  rcases hc with rfl | rfl | rfl | rfl | rfl | rfl | rfl | rfl | rfl
  · exact w_c0
  · exact w_c1
  · exact w_c2
  · exact w_c3
  · exact w_c4
  · exact w_c5
  · exact w_c6
  · exact w_c7
  · exact w_c8
set_option maxRecDepth 65536 in
theorem w_t1 : (words1.take 24).all (fun c => isCode c || c.before args0 about1) = true := by decide +kernel
set_option maxRecDepth 65536 in
theorem w_t2 : (words1.drop 24).all (fun c => isCode c || c.before args0 about1) = true := by decide +kernel
theorem w_tables : (allAtoms (Jvm.Cond.code x code maxLocals ret :: tables_1)).before args0 about1 = true := by
  rw [allAtoms_all]
  show words1.all (fun c => c.before args0 about1) = true
  refine all_split ?_ w_codes
  rw [← List.take_append_drop 24 words1, List.all_append, w_t1, w_t2]
  rfl
set_option maxRecDepth 65536 in
theorem w_case : (Jvm.Cond.and given_1 narrow_1).before args0 about1 = true := by decide +kernel
theorem w_applies : (headSpec (Jvm.Cond.code x code maxLocals ret :: tables_1) room_1).applies x e0.platform about1 = true :=
  (Spec.applies_iff w_frames).mpr ⟨w_running, w_runnable, w_alone, w_named, w_hears, w_ripe, w_room, w_tables⟩
theorem atStart : AtStart classFile x code maxLocals ret World_1 tables_1 room_1 Calls_1 rest_1 Pre_1 launch0 p0 e0 about1 theMethod args0 below0 :=
  ⟨lists_1, trivial, launch0.admits_env _ _ _, launch0.least_env, fairChoices_fair.cas, fairChoices_fair.clock, w_frames, w_args, w_heap, w_applies, trivial, trivial, w_case⟩
end start1
theorem witness_1 : WitnessClaimed_1 := ⟨start1.p0, start1.e0, start1.about1, start1.theMethod, start1.args0, start1.below0, start1.atStart⟩
end Jvm.Pilot.@@N@@
