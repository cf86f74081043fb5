import JvmDerived
import JvmDerived.Pilot.@@N@@Statement
import JvmDerived.Pilot.@@N@@Code
set_option linter.unusedVariables false
set_option linter.unusedSimpArgs false
namespace Jvm.RoadKit
open Sem ClassFile Op Lib Jvm.Stand Jvm.Free Jvm.LawKit
section New
variable {p : Program} {l : Launch} {e : Env} {R : Room} {s : State} {m : MethodId} {args : Array Value} {below : List Frame} {meth : Method} {c : Code} {T : State} {locs : List Loc} {cells slots : Nat}
theorem retI (X : Stand p l e R s m args below meth c T locs cells slots) (hx : p.tables.exec = Jvm.exec) {pc : Nat} {Ls : Array Slot} {z : Int32} {rest : List Value} (hret : meth.sig.returnType = some .int) (hd : decode c.code pc = .ok (.ireturn, 1)) {fs : List Frame}
    (hl : ∀ (f : JFrame) (acts : List Action), f.method = m → f.locked = none → f.entered = [] → (doReturn e (T.setTop f) acts (some (.int z))).1 = T.setFrames fs) : Steps p.tables e below (T.setTop (mkF m pc Ls (.int z :: rest))) (T.setFrames fs) := by
  have hm' : T.vm.method? m = some meth := X.method'
  have hn : narrow .int (.int z) = .int z := rfl
  show Steps p.tables e below (T.setTop { method := m, pc := pc, locals := Ls, stack := _ :: rest, locked := none }) _
  jvm_step X.here [X.here.top, hx, hd, hm', hret, hn]
  first | (intro acts; rw [hl _ acts rfl rfl rfl]) | rw [hl _ _ rfl rfl rfl]
  exact Steps.refl _
/-- the run from G on comes to an end that Q speaks of -/
def Go (p : Program) (e : Env) (below : List Frame) (s : State) (Q : Option Value → Heap → List Loc → Prop) (ck sk : Nat) (G : State) : Prop :=
  ∃ s₂ o, Steps p.tables e below G s₂ ∧ s₂.status = .running ∧ Ended s₂ below o ∧ ∃ v L, o = .returned v ∧ Q v s₂.heap L ∧ FrameEnd s o s₂ L ck sk
theorem Go.of {Q : Option Value → Heap → List Loc → Prop} {ck sk : Nat} {G G' : State} (h : ∀ t, Steps p.tables e below G' t → Steps p.tables e below G t) (k : Go p e below s Q ck sk G') : Go p e below s Q ck sk G := by
  obtain ⟨s₂, o, h1, r⟩ := k
  exact ⟨s₂, o, h _ h1, r⟩
theorem Go.ret (X : Stand p l e R s m args below meth c T locs cells slots) {Q : Option Value → Heap → List Loc → Prop} {ck sk : Nat} {G : State} (v : Option Value) (hv : meth.sig.returnType = none → v = none) (hlk : meth.locks = false) (hq : Q v T.heap locs) (hc : cells ≤ ck) (hs : slots ≤ sk)
    (st : ∀ fs, (∀ (f : JFrame) (acts : List Action), f.method = m → f.locked = none → f.entered = [] → (doReturn e (T.setTop f) acts v).1 = T.setFrames fs) → Steps p.tables e below G (T.setFrames fs)) : Go p e below s Q ck sk G := by
  obtain ⟨fs, hr, hrun, hended, hW, hsame⟩ := X.leave hv hlk
  exact ⟨_, _, st fs hr, hrun, hended, v, locs, rfl, hq, ⟨_, rfl⟩, hW, hsame.mono hc hs⟩
/-- what it returns, that it wrote nothing old, and that the heap is as it was -/
def QP (val : Option Value) (h0 : Heap) (n0 : Nat) (v : Option Value) (h : Heap) (L : List Loc) : Prop := v = val ∧ Fr n0 L ∧ h = h0
/-- what it returns, and that it wrote nothing old -/
def QL (val : Option Value) (n0 : Nat) (v : Option Value) (h : Heap) (L : List Loc) : Prop := v = val ∧ Fr n0 L
theorem lremM {g : JFrame} {target : State} (X : Stand p l e R s m args below meth c T locs cells slots) (hx : p.tables.exec = Jvm.exec) (hg : g.method = m) {x y : Int64} {rest : List Value} (hd : decode c.code g.pc = .ok (.lrem, 1)) (hs : g.stack = .long y :: .long x :: rest) (hy : y ≠ 0)
    (hr : Steps p.tables e below (T.setTop { g with pc := g.pc + 1, stack := .long (x % y) :: rest }) target) : Steps p.tables e below (T.setTop g) target := by
  have q : x - x / y * y = x % y := lrem_mod x y
  exact XS.lrem X.here hx hg hd hs hy (by rw [q]; exact hr)
end New
end Jvm.RoadKit
namespace Jvm.Pilot.@@N@@
open Jvm Jvm.ClassFile Sem Op Lib Jvm.Free Jvm.Stand Jvm.LawKit Jvm.RoadKit Bundle Jvm.Pilot.@@N@@.Jvm.D
theorem own_pn0 : plainName "com/example/canonym/canonym/iri/CharClasses" = true := by first | (simp [plainName, overriddenIn]; done) | decide +kernel
theorem d2_0 : decode prog_8_method_18_code 0 = .ok (.iload_n 0, 1) := by decide +kernel
theorem d2_1 : decode prog_8_method_18_code 1 = .ok (.iload_n 1, 1) := by decide +kernel
theorem d2_2 : decode prog_8_method_18_code 2 = .ok (.if_icmp .lt 12, 3) := by decide +kernel
theorem d2_5 : decode prog_8_method_18_code 5 = .ok (.iload_n 0, 1) := by decide +kernel
theorem d2_6 : decode prog_8_method_18_code 6 = .ok (.iload_n 2, 1) := by decide +kernel
theorem d2_7 : decode prog_8_method_18_code 7 = .ok (.if_icmp .gt 7, 3) := by decide +kernel
theorem d2_10 : decode prog_8_method_18_code 10 = .ok (.iconst 1, 1) := by decide +kernel
theorem d2_11 : decode prog_8_method_18_code 11 = .ok (.goto 4, 3) := by decide +kernel
theorem d2_14 : decode prog_8_method_18_code 14 = .ok (.iconst 0, 1) := by decide +kernel
theorem d2_15 : decode prog_8_method_18_code 15 = .ok (.ireturn, 1) := by decide +kernel
theorem ef_2 (m : MethodId) (p0 : Int32) (p1 : Int32) (p2 : Int32) : entryFrame m #[(.int p0), (.int p1), (.int p2)] 3 = mkF m 0 #[.val (.int p0), .val (.int p1), .val (.int p2)] [] := by first | (simp [entryFrame, mkF, argsToLocals, Value.category]; done) | rfl
def F2 (p0 : Int32) (p1 : Int32) (p2 : Int32) : Int32 := (if p0 < p1 then (0 : Int32) else (if p2 < p0 then (0 : Int32) else (1 : Int32)))
set_option maxRecDepth 65536 in
set_option maxHeartbeats 40000000 in
theorem rm2 (l : Launch) (Z : State) (az : Array Value) (hw : ∀ d ∈ tables_1, d.before az Z = true) (ws : List Jvm.Cond) (p0 : Int32) (p1 : Int32) (p2 : Int32)  (h0 : Heap) (n0 : Nat) (Z0 : n0 ≤ h0.size) :
    MetFree l (⟨"com/example/canonym/canonym/iri/CharClasses", "inRange", "(III)Z"⟩ : MethodName) (head1 (Jvm.Cond.code (⟨"com/example/canonym/canonym/iri/CharClasses", "inRange", "(III)Z"⟩ : MethodName) prog_8_method_18_code 3 (some .boolean) :: ws) ({ frames := 0, cells := 0, slots := 0, locals := 0 } : Room)) (fun a U => a = #[(.int p0), (.int p1), (.int p2)] ∧ Z.Warmed39 U.vm ∧ U.heap = h0) (fun _ _ _ _ _ => True) (fun _ U o U' => ∃ v L, o = .returned v ∧ (QP (some (.int (F2 p0 p1 p2))) h0 n0) v U'.heap L ∧ FrameEnd U o U' L ({ frames := 0, cells := 0, slots := 0, locals := 0 } : Room).cells ({ frames := 0, cells := 0, slots := 0, locals := 0 } : Room).slots) := by
  refine MetFree.of_bodySF (plainFor_of_name own_pn0) hisR ?_
  intro p e s m args below meth c s₁ Bd hml0 hP hK
  obtain ⟨rfl, hZ, hh⟩ := hP
  have hx := Bd.exec
  have hby := Bd.bytes
  have hml : c.maxLocals = 3 := hml0
  have hown : s.vm.findClass "com/example/canonym/canonym/iri/CharClasses" = some m.cls := findClass_of_methodNamed Bd.named
  have hnm := (name_of_methodNamed Bd.named Bd.method).1
  have hlk : meth.locks = false := BodyLoose.notSynchronized Bd
  have X0 : Stand p l e ({ frames := 0, cells := 0, slots := 0, locals := 0 } : Room) s m #[(.int p0), (.int p1), (.int p2)] below meth c s₁ [] 0 0 := Stand.of_body Bd
  have e0 : s₁.heap = h0 := by rw [← hh, Bd.state]; rfl
  have N0 := Fr.nil n0
  show Go p e below s (QP (some (.int (F2 p0 p1 p2))) h0 n0) ({ frames := 0, cells := 0, slots := 0, locals := 0 } : Room).cells ({ frames := 0, cells := 0, slots := 0, locals := 0 } : Room).slots (s₁.setTop (entryFrame m #[(.int p0), (.int p1), (.int p2)] 3))
  refine Go.of (fun t k => castTop (ef_2 m p0 p1 p2) k) ?_
  show Go p e below s _ _ _ (s₁.setTop (mkF m 0 #[.val (.int p0), .val (.int p1), .val (.int p2)] []))
  unfold F2
  refine Go.of (fun t k => XS.iloadN X0.here hx rfl (hb hby d2_0) rfl k) ?_
  show Go p e below s _ _ _ (s₁.setTop (mkF m 1 #[.val (.int p0), .val (.int p1), .val (.int p2)] [(.int p0)]))
  refine Go.of (fun t k => XS.iloadN X0.here hx rfl (hb hby d2_1) rfl k) ?_
  show Go p e below s _ _ _ (s₁.setTop (mkF m 2 #[.val (.int p0), .val (.int p1), .val (.int p2)] [(.int p1), (.int p0)]))
  by_cases hc2_1 : p0 < p1
  · rewrite [if_pos hc2_1]
    refine Go.of (fun t k => XS.icmpYes X0.here hx rfl (pc0 := 2) (pc' := 14) rfl (hb hby d2_2) rfl (tlt hc2_1).1 (by decide) (by decide) k) ?_
    show Go p e below s _ _ _ (s₁.setTop (mkF m 14 #[.val (.int p0), .val (.int p1), .val (.int p2)] []))
    refine Go.of (fun t k => XS.iconst X0.here hx rfl (hb hby d2_14) k) ?_
    show Go p e below s _ _ _ (s₁.setTop (mkF m 15 #[.val (.int p0), .val (.int p1), .val (.int p2)] [(.int (0 : Int32))]))
    exact Go.ret X0 (some (.int (0 : Int32))) (fun h => by rw [Bd.returns] at h; cases h) hlk ⟨rfl, N0, e0⟩ (by decide) (by decide) (fun fs hr => (retN X0 hx (t := .boolean) Bd.returns (by simp) (hb hby d2_15) hr))
  · rewrite [if_neg hc2_1]
    refine Go.of (fun t k => XS.icmpNo X0.here hx rfl (hb hby d2_2) rfl (flt hc2_1).1 k) ?_
    show Go p e below s _ _ _ (s₁.setTop (mkF m 5 #[.val (.int p0), .val (.int p1), .val (.int p2)] []))
    refine Go.of (fun t k => XS.iloadN X0.here hx rfl (hb hby d2_5) rfl k) ?_
    show Go p e below s _ _ _ (s₁.setTop (mkF m 6 #[.val (.int p0), .val (.int p1), .val (.int p2)] [(.int p0)]))
    refine Go.of (fun t k => XS.iloadN X0.here hx rfl (hb hby d2_6) rfl k) ?_
    show Go p e below s _ _ _ (s₁.setTop (mkF m 7 #[.val (.int p0), .val (.int p1), .val (.int p2)] [(.int p2), (.int p0)]))
    by_cases hc7_2 : p2 < p0
    · rewrite [if_pos hc7_2]
      refine Go.of (fun t k => XS.icmpYes X0.here hx rfl (pc0 := 7) (pc' := 14) rfl (hb hby d2_7) rfl (tlt hc7_2).2.2.1 (by decide) (by decide) k) ?_
      show Go p e below s _ _ _ (s₁.setTop (mkF m 14 #[.val (.int p0), .val (.int p1), .val (.int p2)] []))
      refine Go.of (fun t k => XS.iconst X0.here hx rfl (hb hby d2_14) k) ?_
      show Go p e below s _ _ _ (s₁.setTop (mkF m 15 #[.val (.int p0), .val (.int p1), .val (.int p2)] [(.int (0 : Int32))]))
      exact Go.ret X0 (some (.int (0 : Int32))) (fun h => by rw [Bd.returns] at h; cases h) hlk ⟨rfl, N0, e0⟩ (by decide) (by decide) (fun fs hr => (retN X0 hx (t := .boolean) Bd.returns (by simp) (hb hby d2_15) hr))
    · rewrite [if_neg hc7_2]
      refine Go.of (fun t k => XS.icmpNo X0.here hx rfl (hb hby d2_7) rfl (flt hc7_2).2.2.1 k) ?_
      show Go p e below s _ _ _ (s₁.setTop (mkF m 10 #[.val (.int p0), .val (.int p1), .val (.int p2)] []))
      refine Go.of (fun t k => XS.iconst X0.here hx rfl (hb hby d2_10) k) ?_
      show Go p e below s _ _ _ (s₁.setTop (mkF m 11 #[.val (.int p0), .val (.int p1), .val (.int p2)] [(.int (1 : Int32))]))
      refine Go.of (fun t k => XS.goto X0.here hx rfl (pc0 := 11) (pc' := 15) rfl (hb hby d2_11) (by decide) (by decide) k) ?_
      show Go p e below s _ _ _ (s₁.setTop (mkF m 15 #[.val (.int p0), .val (.int p1), .val (.int p2)] [(.int (1 : Int32))]))
      exact Go.ret X0 (some (.int (1 : Int32))) (fun h => by rw [Bd.returns] at h; cases h) hlk ⟨rfl, N0, e0⟩ (by decide) (by decide) (fun fs hr => (retN X0 hx (t := .boolean) Bd.returns (by simp) (hb hby d2_15) hr))
theorem own_pd0 : parseMethodDescriptor "(III)Z" = some ⟨[.int, .int, .int], some .boolean⟩ := by decide +kernel
theorem d1_0 : decode prog_8_method_9_code 0 = .ok (.iload_n 0, 1) := by decide +kernel
theorem d1_1 : decode prog_8_method_9_code 1 = .ok (.sipush 160, 3) := by decide +kernel
theorem d1_4 : decode prog_8_method_9_code 4 = .ok (.ldc 13, 2) := by decide +kernel
theorem d1_6 : decode prog_8_method_9_code 6 = .ok (.invokestatic 14, 3) := by decide +kernel
theorem d1_9 : decode prog_8_method_9_code 9 = .ok (.ifCond .ne 25, 3) := by decide +kernel
theorem d1_12 : decode prog_8_method_9_code 12 = .ok (.iload_n 0, 1) := by decide +kernel
theorem d1_13 : decode prog_8_method_9_code 13 = .ok (.ldc 18, 2) := by decide +kernel
theorem d1_15 : decode prog_8_method_9_code 15 = .ok (.ldc 19, 2) := by decide +kernel
theorem d1_17 : decode prog_8_method_9_code 17 = .ok (.invokestatic 14, 3) := by decide +kernel
theorem d1_20 : decode prog_8_method_9_code 20 = .ok (.ifCond .ne 14, 3) := by decide +kernel
theorem d1_23 : decode prog_8_method_9_code 23 = .ok (.iload_n 0, 1) := by decide +kernel
theorem d1_24 : decode prog_8_method_9_code 24 = .ok (.ldc 20, 2) := by decide +kernel
theorem d1_26 : decode prog_8_method_9_code 26 = .ok (.ldc 21, 2) := by decide +kernel
theorem d1_28 : decode prog_8_method_9_code 28 = .ok (.invokestatic 14, 3) := by decide +kernel
theorem d1_31 : decode prog_8_method_9_code 31 = .ok (.ifCond .eq 7, 3) := by decide +kernel
theorem d1_34 : decode prog_8_method_9_code 34 = .ok (.iconst 1, 1) := by decide +kernel
theorem d1_35 : decode prog_8_method_9_code 35 = .ok (.goto 4, 3) := by decide +kernel
theorem d1_38 : decode prog_8_method_9_code 38 = .ok (.iconst 0, 1) := by decide +kernel
theorem d1_39 : decode prog_8_method_9_code 39 = .ok (.istore_n 1, 1) := by decide +kernel
theorem d1_40 : decode prog_8_method_9_code 40 = .ok (.iload_n 0, 1) := by decide +kernel
theorem d1_41 : decode prog_8_method_9_code 41 = .ok (.ldc 22, 2) := by decide +kernel
theorem d1_43 : decode prog_8_method_9_code 43 = .ok (.ldc 23, 2) := by decide +kernel
theorem d1_45 : decode prog_8_method_9_code 45 = .ok (.invokestatic 14, 3) := by decide +kernel
theorem d1_48 : decode prog_8_method_9_code 48 = .ok (.ifCond .ne 14, 3) := by decide +kernel
theorem d1_51 : decode prog_8_method_9_code 51 = .ok (.iload_n 0, 1) := by decide +kernel
theorem d1_52 : decode prog_8_method_9_code 52 = .ok (.ldc 24, 2) := by decide +kernel
theorem d1_54 : decode prog_8_method_9_code 54 = .ok (.ldc 25, 2) := by decide +kernel
theorem d1_56 : decode prog_8_method_9_code 56 = .ok (.invokestatic 14, 3) := by decide +kernel
theorem d1_59 : decode prog_8_method_9_code 59 = .ok (.ifCond .eq 16, 3) := by decide +kernel
theorem d1_62 : decode prog_8_method_9_code 62 = .ok (.iload_n 0, 1) := by decide +kernel
theorem d1_63 : decode prog_8_method_9_code 63 = .ok (.ldc 26, 2) := by decide +kernel
theorem d1_65 : decode prog_8_method_9_code 65 = .ok (.iand, 1) := by decide +kernel
theorem d1_66 : decode prog_8_method_9_code 66 = .ok (.ldc 27, 2) := by decide +kernel
theorem d1_68 : decode prog_8_method_9_code 68 = .ok (.if_icmp .gt 7, 3) := by decide +kernel
theorem d1_71 : decode prog_8_method_9_code 71 = .ok (.iconst 1, 1) := by decide +kernel
theorem d1_72 : decode prog_8_method_9_code 72 = .ok (.goto 4, 3) := by decide +kernel
theorem d1_75 : decode prog_8_method_9_code 75 = .ok (.iconst 0, 1) := by decide +kernel
theorem d1_76 : decode prog_8_method_9_code 76 = .ok (.istore_n 2, 1) := by decide +kernel
theorem d1_77 : decode prog_8_method_9_code 77 = .ok (.iload_n 1, 1) := by decide +kernel
theorem d1_78 : decode prog_8_method_9_code 78 = .ok (.ifCond .ne 7, 3) := by decide +kernel
theorem d1_81 : decode prog_8_method_9_code 81 = .ok (.iload_n 2, 1) := by decide +kernel
theorem d1_82 : decode prog_8_method_9_code 82 = .ok (.ifCond .eq 7, 3) := by decide +kernel
theorem d1_85 : decode prog_8_method_9_code 85 = .ok (.iconst 1, 1) := by decide +kernel
theorem d1_86 : decode prog_8_method_9_code 86 = .ok (.goto 4, 3) := by decide +kernel
theorem d1_89 : decode prog_8_method_9_code 89 = .ok (.iconst 0, 1) := by decide +kernel
theorem d1_90 : decode prog_8_method_9_code 90 = .ok (.ireturn, 1) := by decide +kernel
theorem ef_1 (m : MethodId) (p0 : Int32) : entryFrame m #[(.int p0)] 3 = mkF m 0 #[.val (.int p0), .unset, .unset] [] := by first | (simp [entryFrame, mkF, argsToLocals, Value.category]; done) | rfl
def F1_76 (w0_39 : Int32) (w0_76 : Int32) : Int32 := (if w0_39 = (0 : Int32) then (if w0_76 = (0 : Int32) then (0 : Int32) else (1 : Int32)) else (1 : Int32))
def F1_75 (w0_39 : Int32) : Int32 := (F1_76 w0_39 (0 : Int32))
def F1_62 (p0 : Int32) (w0_39 : Int32) : Int32 := (if (65533 : Int32) < (p0 &&& (65535 : Int32)) then (F1_75 w0_39) else (F1_76 w0_39 (1 : Int32)))
def F1_39 (p0 : Int32) (w0_39 : Int32) : Int32 := (if (F2 p0 (65536 : Int32) (917501 : Int32)) = (0 : Int32) then (if (F2 p0 (921600 : Int32) (983037 : Int32)) = (0 : Int32) then (F1_75 w0_39) else (F1_62 p0 w0_39)) else (F1_62 p0 w0_39))
def F1_34 (p0 : Int32) : Int32 := (F1_39 p0 (1 : Int32))
def F1 (p0 : Int32) : Int32 := (if (F2 p0 (160 : Int32) (55295 : Int32)) = (0 : Int32) then (if (F2 p0 (63744 : Int32) (64975 : Int32)) = (0 : Int32) then (if (F2 p0 (65008 : Int32) (65519 : Int32)) = (0 : Int32) then (F1_39 p0 (0 : Int32)) else (F1_34 p0)) else (F1_34 p0)) else (F1_34 p0))
set_option maxRecDepth 65536 in
set_option maxHeartbeats 40000000 in
theorem rm1 (l : Launch) (Z : State) (az : Array Value) (hw : ∀ d ∈ tables_1, d.before az Z = true) (ws : List Jvm.Cond) (p0 : Int32)  (h0 : Heap) (n0 : Nat) (Z0 : n0 ≤ h0.size) :
    MetFree l (⟨"com/example/canonym/canonym/iri/CharClasses", "isUcschar", "(I)Z"⟩ : MethodName) (head1 (Jvm.Cond.code (⟨"com/example/canonym/canonym/iri/CharClasses", "isUcschar", "(I)Z"⟩ : MethodName) prog_8_method_9_code 3 (some .boolean) :: ws) ({ frames := 1, cells := 0, slots := 0, locals := 14 } : Room)) (fun a U => a = #[(.int p0)] ∧ Z.Warmed39 U.vm ∧ U.heap = h0) (fun _ _ _ _ _ => True) (fun _ U o U' => ∃ v L, o = .returned v ∧ (QP (some (.int (F1 p0))) h0 n0) v U'.heap L ∧ FrameEnd U o U' L ({ frames := 1, cells := 0, slots := 0, locals := 14 } : Room).cells ({ frames := 1, cells := 0, slots := 0, locals := 14 } : Room).slots) := by
  refine MetFree.of_bodySF (plainFor_of_name own_pn0) hisR ?_
  intro p e s m args below meth c s₁ Bd hml0 hP hK
  obtain ⟨rfl, hZ, hh⟩ := hP
  have hx := Bd.exec
  have hby := Bd.bytes
  have hml : c.maxLocals = 3 := hml0
  have hown : s.vm.findClass "com/example/canonym/canonym/iri/CharClasses" = some m.cls := findClass_of_methodNamed Bd.named
  have hnm := (name_of_methodNamed Bd.named Bd.method).1
  have hlk : meth.locks = false := BodyLoose.notSynchronized Bd
  have X0 : Stand p l e ({ frames := 1, cells := 0, slots := 0, locals := 14 } : Room) s m #[(.int p0)] below meth c s₁ [] 0 0 := Stand.of_body Bd
  have e0 : s₁.heap = h0 := by rw [← hh, Bd.state]; rfl
  have N0 := Fr.nil n0
  show Go p e below s (QP (some (.int (F1 p0))) h0 n0) ({ frames := 1, cells := 0, slots := 0, locals := 14 } : Room).cells ({ frames := 1, cells := 0, slots := 0, locals := 14 } : Room).slots (s₁.setTop (entryFrame m #[(.int p0)] 3))
  refine Go.of (fun t k => castTop (ef_1 m p0) k) ?_
  show Go p e below s _ _ _ (s₁.setTop (mkF m 0 #[.val (.int p0), .unset, .unset] []))
  unfold F1
  refine Go.of (fun t k => XS.iloadN X0.here hx rfl (hb hby d1_0) rfl k) ?_
  show Go p e below s _ _ _ (s₁.setTop (mkF m 1 #[.val (.int p0), .unset, .unset] [(.int p0)]))
  refine Go.of (fun t k => XS.sipush X0.here hx rfl (hb hby d1_1) k) ?_
  show Go p e below s _ _ _ (s₁.setTop (mkF m 4 #[.val (.int p0), .unset, .unset] [(.int (160 : Int32)), (.int p0)]))
  refine Go.of (X0.ldcInt hx hown (mvT hZ (hw _ (List.mem_of_getElem? (i := 4) rfl))) (g := (mkF m 4 #[.val (.int p0), .unset, .unset] [(.int (160 : Int32)), (.int p0)])) rfl (hb hby d1_4)) ?_
  show Go p e below s _ _ _ (s₁.setTop (mkF m 6 #[.val (.int p0), .unset, .unset] [(.int (55295 : Int32)), (.int (160 : Int32)), (.int p0)]))
  obtain ⟨_, _, ⟨T1, L1, k1, n1⟩, -, X1, ⟨Lc1, hQ1, l1, y1, z1⟩, st1⟩ := Jvm.LawKit.callS X0 hx (y := (⟨"com/example/canonym/canonym/iri/CharClasses", "inRange", "(III)Z"⟩ : MethodName)) hown (mvT hZ (hw _ (List.mem_of_getElem? (i := 5) rfl))) (mvT hZ (hw _ (List.mem_of_getElem? (i := 6) rfl))) (mvT hZ (hw _ (List.mem_of_getElem? (i := 2) rfl))) (mvT hZ (hw _ (List.mem_of_getElem? (i := 7) rfl))) (by decide) (backOf (W := 0) (rm2 l Z az hw [] p0 (160 : Int32) (55295 : Int32) h0 n0 Z0) hZ (hw _ (List.mem_of_getElem? (i := 7) rfl)) (hw _ (List.mem_of_getElem? (i := 2) rfl)) (by decide) (by decide)) (g := (mkF m 6 #[.val (.int p0), .unset, .unset] [(.int (55295 : Int32)), (.int (160 : Int32)), (.int p0)])) rfl (by rw [hml]; rfl) (argsL := [(.int p0), (.int (160 : Int32)), (.int (55295 : Int32))]) (rest := []) (lenOf own_pd0 rfl) rfl (by show 2 * 0 + _ ≤ _; exact Nat.le_of_eq rfl) (hb hby d1_6) (fun _ _ => ⟨rfl, e0, (by decide : 0 + 0 ≤ _), (by decide : 0 + 0 ≤ _)⟩)
  dsimp only [Pt.U, Pt.locs, Pt.cells, Pt.slots] at X1 l1 y1 z1 st1 hQ1
  subst l1 y1 z1
  obtain ⟨rfl, N1q, e1⟩ := hQ1
  have N1 := Fr.app N0 N1q
  refine Go.of st1 ?_
  show Go p e below s _ _ _ (T1.setTop (mkF m 9 #[.val (.int p0), .unset, .unset] [(.int (F2 p0 (160 : Int32) (55295 : Int32)))]))
  have jn39 : ∀ (w0_39 : Int32) (T_39 : State) (l_39 : List Loc) (X_39 : Stand p l e ({ frames := 1, cells := 0, slots := 0, locals := 14 } : Room) s m #[(.int p0)] below meth c T_39 l_39 0 0) (e_39 : T_39.heap = h0) (N_39 : Fr n0 l_39), Go p e below s (QP (some (.int (F1_39 p0 w0_39))) h0 n0) ({ frames := 1, cells := 0, slots := 0, locals := 14 } : Room).cells ({ frames := 1, cells := 0, slots := 0, locals := 14 } : Room).slots (T_39.setTop (mkF m 39 #[.val (.int p0), .unset, .unset] [(.int w0_39)])) := by
    intro w0_39 T_39 l_39 X_39 e_39 N_39
    unfold F1_39
    refine Go.of (fun t k => XS.istoreN X_39.here hx rfl (hb hby d1_39) rfl (l' := #[.val (.int p0), .val (.int w0_39), .unset]) rfl k) ?_
    show Go p e below s _ _ _ (T_39.setTop (mkF m 40 #[.val (.int p0), .val (.int w0_39), .unset] []))
    refine Go.of (fun t k => XS.iloadN X_39.here hx rfl (hb hby d1_40) rfl k) ?_
    show Go p e below s _ _ _ (T_39.setTop (mkF m 41 #[.val (.int p0), .val (.int w0_39), .unset] [(.int p0)]))
    refine Go.of (X_39.ldcInt hx hown (mvT hZ (hw _ (List.mem_of_getElem? (i := 12) rfl))) (g := (mkF m 41 #[.val (.int p0), .val (.int w0_39), .unset] [(.int p0)])) rfl (hb hby d1_41)) ?_
    show Go p e below s _ _ _ (T_39.setTop (mkF m 43 #[.val (.int p0), .val (.int w0_39), .unset] [(.int (65536 : Int32)), (.int p0)]))
    refine Go.of (X_39.ldcInt hx hown (mvT hZ (hw _ (List.mem_of_getElem? (i := 13) rfl))) (g := (mkF m 43 #[.val (.int p0), .val (.int w0_39), .unset] [(.int (65536 : Int32)), (.int p0)])) rfl (hb hby d1_43)) ?_
    show Go p e below s _ _ _ (T_39.setTop (mkF m 45 #[.val (.int p0), .val (.int w0_39), .unset] [(.int (917501 : Int32)), (.int (65536 : Int32)), (.int p0)]))
    obtain ⟨_, _, ⟨T2, L2, k2, n2⟩, -, X2, ⟨Lc2, hQ2, l2, y2, z2⟩, st2⟩ := Jvm.LawKit.callS X_39 hx (y := (⟨"com/example/canonym/canonym/iri/CharClasses", "inRange", "(III)Z"⟩ : MethodName)) hown (mvT hZ (hw _ (List.mem_of_getElem? (i := 5) rfl))) (mvT hZ (hw _ (List.mem_of_getElem? (i := 6) rfl))) (mvT hZ (hw _ (List.mem_of_getElem? (i := 2) rfl))) (mvT hZ (hw _ (List.mem_of_getElem? (i := 7) rfl))) (by decide) (backOf (W := 0) (rm2 l Z az hw [] p0 (65536 : Int32) (917501 : Int32) h0 n0 Z0) hZ (hw _ (List.mem_of_getElem? (i := 7) rfl)) (hw _ (List.mem_of_getElem? (i := 2) rfl)) (by decide) (by decide)) (g := (mkF m 45 #[.val (.int p0), .val (.int w0_39), .unset] [(.int (917501 : Int32)), (.int (65536 : Int32)), (.int p0)])) rfl (by rw [hml]; rfl) (argsL := [(.int p0), (.int (65536 : Int32)), (.int (917501 : Int32))]) (rest := []) (lenOf own_pd0 rfl) rfl (by show 2 * 0 + _ ≤ _; exact Nat.le_of_eq rfl) (hb hby d1_45) (fun _ _ => ⟨rfl, e_39, (by decide : 0 + 0 ≤ _), (by decide : 0 + 0 ≤ _)⟩)
    dsimp only [Pt.U, Pt.locs, Pt.cells, Pt.slots] at X2 l2 y2 z2 st2 hQ2
    subst l2 y2 z2
    obtain ⟨rfl, N2q, e2⟩ := hQ2
    have N2 := Fr.app N_39 N2q
    refine Go.of st2 ?_
    show Go p e below s _ _ _ (T2.setTop (mkF m 48 #[.val (.int p0), .val (.int w0_39), .unset] [(.int (F2 p0 (65536 : Int32) (917501 : Int32)))]))
    have jn76 : ∀ (w0_76 : Int32) (T_76 : State) (l_76 : List Loc) (X_76 : Stand p l e ({ frames := 1, cells := 0, slots := 0, locals := 14 } : Room) s m #[(.int p0)] below meth c T_76 l_76 0 0) (e_76 : T_76.heap = h0) (N_76 : Fr n0 l_76), Go p e below s (QP (some (.int (F1_76 w0_39 w0_76))) h0 n0) ({ frames := 1, cells := 0, slots := 0, locals := 14 } : Room).cells ({ frames := 1, cells := 0, slots := 0, locals := 14 } : Room).slots (T_76.setTop (mkF m 76 #[.val (.int p0), .val (.int w0_39), .unset] [(.int w0_76)])) := by
      intro w0_76 T_76 l_76 X_76 e_76 N_76
      unfold F1_76
      refine Go.of (fun t k => XS.istoreN X_76.here hx rfl (hb hby d1_76) rfl (l' := #[.val (.int p0), .val (.int w0_39), .val (.int w0_76)]) rfl k) ?_
      show Go p e below s _ _ _ (T_76.setTop (mkF m 77 #[.val (.int p0), .val (.int w0_39), .val (.int w0_76)] []))
      refine Go.of (fun t k => XS.iloadN X_76.here hx rfl (hb hby d1_77) rfl k) ?_
      show Go p e below s _ _ _ (T_76.setTop (mkF m 78 #[.val (.int p0), .val (.int w0_39), .val (.int w0_76)] [(.int w0_39)]))
      by_cases hc78_3 : w0_39 = (0 : Int32)
      · rewrite [if_pos hc78_3]
        refine Go.of (fun t k => XS.ifNo X_76.here hx rfl (hb hby d1_78) rfl ((if0 _ _).trans (teq hc78_3).2) k) ?_
        show Go p e below s _ _ _ (T_76.setTop (mkF m 81 #[.val (.int p0), .val (.int w0_39), .val (.int w0_76)] []))
        refine Go.of (fun t k => XS.iloadN X_76.here hx rfl (hb hby d1_81) rfl k) ?_
        show Go p e below s _ _ _ (T_76.setTop (mkF m 82 #[.val (.int p0), .val (.int w0_39), .val (.int w0_76)] [(.int w0_76)]))
        by_cases hc82_4 : w0_76 = (0 : Int32)
        · rewrite [if_pos hc82_4]
          refine Go.of (fun t k => XS.ifYes X_76.here hx rfl (pc0 := 82) (pc' := 89) rfl (hb hby d1_82) rfl ((if0 _ _).trans (teq hc82_4).1) (by decide) (by decide) k) ?_
          show Go p e below s _ _ _ (T_76.setTop (mkF m 89 #[.val (.int p0), .val (.int w0_39), .val (.int w0_76)] []))
          refine Go.of (fun t k => XS.iconst X_76.here hx rfl (hb hby d1_89) k) ?_
          show Go p e below s _ _ _ (T_76.setTop (mkF m 90 #[.val (.int p0), .val (.int w0_39), .val (.int w0_76)] [(.int (0 : Int32))]))
          exact Go.ret X_76 (some (.int (0 : Int32))) (fun h => by rw [Bd.returns] at h; cases h) hlk ⟨rfl, N_76, e_76⟩ (by decide) (by decide) (fun fs hr => (retN X_76 hx (t := .boolean) Bd.returns (by simp) (hb hby d1_90) hr))
        · rewrite [if_neg hc82_4]
          refine Go.of (fun t k => XS.ifNo X_76.here hx rfl (hb hby d1_82) rfl ((if0 _ _).trans (feq hc82_4).1) k) ?_
          show Go p e below s _ _ _ (T_76.setTop (mkF m 85 #[.val (.int p0), .val (.int w0_39), .val (.int w0_76)] []))
          refine Go.of (fun t k => XS.iconst X_76.here hx rfl (hb hby d1_85) k) ?_
          show Go p e below s _ _ _ (T_76.setTop (mkF m 86 #[.val (.int p0), .val (.int w0_39), .val (.int w0_76)] [(.int (1 : Int32))]))
          refine Go.of (fun t k => XS.goto X_76.here hx rfl (pc0 := 86) (pc' := 90) rfl (hb hby d1_86) (by decide) (by decide) k) ?_
          show Go p e below s _ _ _ (T_76.setTop (mkF m 90 #[.val (.int p0), .val (.int w0_39), .val (.int w0_76)] [(.int (1 : Int32))]))
          exact Go.ret X_76 (some (.int (1 : Int32))) (fun h => by rw [Bd.returns] at h; cases h) hlk ⟨rfl, N_76, e_76⟩ (by decide) (by decide) (fun fs hr => (retN X_76 hx (t := .boolean) Bd.returns (by simp) (hb hby d1_90) hr))
      · rewrite [if_neg hc78_3]
        refine Go.of (fun t k => XS.ifYes X_76.here hx rfl (pc0 := 78) (pc' := 85) rfl (hb hby d1_78) rfl ((if0 _ _).trans (feq hc78_3).2) (by decide) (by decide) k) ?_
        show Go p e below s _ _ _ (T_76.setTop (mkF m 85 #[.val (.int p0), .val (.int w0_39), .val (.int w0_76)] []))
        refine Go.of (fun t k => XS.iconst X_76.here hx rfl (hb hby d1_85) k) ?_
        show Go p e below s _ _ _ (T_76.setTop (mkF m 86 #[.val (.int p0), .val (.int w0_39), .val (.int w0_76)] [(.int (1 : Int32))]))
        refine Go.of (fun t k => XS.goto X_76.here hx rfl (pc0 := 86) (pc' := 90) rfl (hb hby d1_86) (by decide) (by decide) k) ?_
        show Go p e below s _ _ _ (T_76.setTop (mkF m 90 #[.val (.int p0), .val (.int w0_39), .val (.int w0_76)] [(.int (1 : Int32))]))
        exact Go.ret X_76 (some (.int (1 : Int32))) (fun h => by rw [Bd.returns] at h; cases h) hlk ⟨rfl, N_76, e_76⟩ (by decide) (by decide) (fun fs hr => (retN X_76 hx (t := .boolean) Bd.returns (by simp) (hb hby d1_90) hr))
    have jn75 : ∀ (T_75 : State) (l_75 : List Loc) (X_75 : Stand p l e ({ frames := 1, cells := 0, slots := 0, locals := 14 } : Room) s m #[(.int p0)] below meth c T_75 l_75 0 0) (e_75 : T_75.heap = h0) (N_75 : Fr n0 l_75), Go p e below s (QP (some (.int (F1_75 w0_39))) h0 n0) ({ frames := 1, cells := 0, slots := 0, locals := 14 } : Room).cells ({ frames := 1, cells := 0, slots := 0, locals := 14 } : Room).slots (T_75.setTop (mkF m 75 #[.val (.int p0), .val (.int w0_39), .unset] [])) := by
      intro T_75 l_75 X_75 e_75 N_75
      unfold F1_75
      refine Go.of (fun t k => XS.iconst X_75.here hx rfl (hb hby d1_75) k) ?_
      show Go p e below s _ _ _ (T_75.setTop (mkF m 76 #[.val (.int p0), .val (.int w0_39), .unset] [(.int (0 : Int32))]))
      exact jn76 (0 : Int32)  T_75 _ X_75 e_75 N_75  
    have jn62 : ∀ (T_62 : State) (l_62 : List Loc) (X_62 : Stand p l e ({ frames := 1, cells := 0, slots := 0, locals := 14 } : Room) s m #[(.int p0)] below meth c T_62 l_62 0 0) (e_62 : T_62.heap = h0) (N_62 : Fr n0 l_62), Go p e below s (QP (some (.int (F1_62 p0 w0_39))) h0 n0) ({ frames := 1, cells := 0, slots := 0, locals := 14 } : Room).cells ({ frames := 1, cells := 0, slots := 0, locals := 14 } : Room).slots (T_62.setTop (mkF m 62 #[.val (.int p0), .val (.int w0_39), .unset] [])) := by
      intro T_62 l_62 X_62 e_62 N_62
      unfold F1_62
      refine Go.of (fun t k => XS.iloadN X_62.here hx rfl (hb hby d1_62) rfl k) ?_
      show Go p e below s _ _ _ (T_62.setTop (mkF m 63 #[.val (.int p0), .val (.int w0_39), .unset] [(.int p0)]))
      refine Go.of (X_62.ldcInt hx hown (mvT hZ (hw _ (List.mem_of_getElem? (i := 22) rfl))) (g := (mkF m 63 #[.val (.int p0), .val (.int w0_39), .unset] [(.int p0)])) rfl (hb hby d1_63)) ?_
      show Go p e below s _ _ _ (T_62.setTop (mkF m 65 #[.val (.int p0), .val (.int w0_39), .unset] [(.int (65535 : Int32)), (.int p0)]))
      refine Go.of (fun t k => XS.iand X_62.here hx rfl (hb hby d1_65) rfl k) ?_
      show Go p e below s _ _ _ (T_62.setTop (mkF m 66 #[.val (.int p0), .val (.int w0_39), .unset] [(.int (p0 &&& (65535 : Int32)))]))
      refine Go.of (X_62.ldcInt hx hown (mvT hZ (hw _ (List.mem_of_getElem? (i := 23) rfl))) (g := (mkF m 66 #[.val (.int p0), .val (.int w0_39), .unset] [(.int (p0 &&& (65535 : Int32)))])) rfl (hb hby d1_66)) ?_
      show Go p e below s _ _ _ (T_62.setTop (mkF m 68 #[.val (.int p0), .val (.int w0_39), .unset] [(.int (65533 : Int32)), (.int (p0 &&& (65535 : Int32)))]))
      by_cases hc68_5 : (65533 : Int32) < (p0 &&& (65535 : Int32))
      · rewrite [if_pos hc68_5]
        refine Go.of (fun t k => XS.icmpYes X_62.here hx rfl (pc0 := 68) (pc' := 75) rfl (hb hby d1_68) rfl (tlt hc68_5).2.2.1 (by decide) (by decide) k) ?_
        show Go p e below s _ _ _ (T_62.setTop (mkF m 75 #[.val (.int p0), .val (.int w0_39), .unset] []))
        exact jn75   T_62 _ X_62 e_62 N_62  
      · rewrite [if_neg hc68_5]
        refine Go.of (fun t k => XS.icmpNo X_62.here hx rfl (hb hby d1_68) rfl (flt hc68_5).2.2.1 k) ?_
        show Go p e below s _ _ _ (T_62.setTop (mkF m 71 #[.val (.int p0), .val (.int w0_39), .unset] []))
        refine Go.of (fun t k => XS.iconst X_62.here hx rfl (hb hby d1_71) k) ?_
        show Go p e below s _ _ _ (T_62.setTop (mkF m 72 #[.val (.int p0), .val (.int w0_39), .unset] [(.int (1 : Int32))]))
        refine Go.of (fun t k => XS.goto X_62.here hx rfl (pc0 := 72) (pc' := 76) rfl (hb hby d1_72) (by decide) (by decide) k) ?_
        show Go p e below s _ _ _ (T_62.setTop (mkF m 76 #[.val (.int p0), .val (.int w0_39), .unset] [(.int (1 : Int32))]))
        exact jn76 (1 : Int32)  T_62 _ X_62 e_62 N_62  
    by_cases hc48_6 : (F2 p0 (65536 : Int32) (917501 : Int32)) = (0 : Int32)
    · rewrite [if_pos hc48_6]
      refine Go.of (fun t k => XS.ifNo X2.here hx rfl (hb hby d1_48) rfl ((if0 _ _).trans (teq hc48_6).2) k) ?_
      show Go p e below s _ _ _ (T2.setTop (mkF m 51 #[.val (.int p0), .val (.int w0_39), .unset] []))
      refine Go.of (fun t k => XS.iloadN X2.here hx rfl (hb hby d1_51) rfl k) ?_
      show Go p e below s _ _ _ (T2.setTop (mkF m 52 #[.val (.int p0), .val (.int w0_39), .unset] [(.int p0)]))
      refine Go.of (X2.ldcInt hx hown (mvT hZ (hw _ (List.mem_of_getElem? (i := 14) rfl))) (g := (mkF m 52 #[.val (.int p0), .val (.int w0_39), .unset] [(.int p0)])) rfl (hb hby d1_52)) ?_
      show Go p e below s _ _ _ (T2.setTop (mkF m 54 #[.val (.int p0), .val (.int w0_39), .unset] [(.int (921600 : Int32)), (.int p0)]))
      refine Go.of (X2.ldcInt hx hown (mvT hZ (hw _ (List.mem_of_getElem? (i := 15) rfl))) (g := (mkF m 54 #[.val (.int p0), .val (.int w0_39), .unset] [(.int (921600 : Int32)), (.int p0)])) rfl (hb hby d1_54)) ?_
      show Go p e below s _ _ _ (T2.setTop (mkF m 56 #[.val (.int p0), .val (.int w0_39), .unset] [(.int (983037 : Int32)), (.int (921600 : Int32)), (.int p0)]))
      obtain ⟨_, _, ⟨T7, L7, k7, n7⟩, -, X7, ⟨Lc7, hQ7, l7, y7, z7⟩, st7⟩ := Jvm.LawKit.callS X2 hx (y := (⟨"com/example/canonym/canonym/iri/CharClasses", "inRange", "(III)Z"⟩ : MethodName)) hown (mvT hZ (hw _ (List.mem_of_getElem? (i := 5) rfl))) (mvT hZ (hw _ (List.mem_of_getElem? (i := 6) rfl))) (mvT hZ (hw _ (List.mem_of_getElem? (i := 2) rfl))) (mvT hZ (hw _ (List.mem_of_getElem? (i := 7) rfl))) (by decide) (backOf (W := 0) (rm2 l Z az hw [] p0 (921600 : Int32) (983037 : Int32) h0 n0 Z0) hZ (hw _ (List.mem_of_getElem? (i := 7) rfl)) (hw _ (List.mem_of_getElem? (i := 2) rfl)) (by decide) (by decide)) (g := (mkF m 56 #[.val (.int p0), .val (.int w0_39), .unset] [(.int (983037 : Int32)), (.int (921600 : Int32)), (.int p0)])) rfl (by rw [hml]; rfl) (argsL := [(.int p0), (.int (921600 : Int32)), (.int (983037 : Int32))]) (rest := []) (lenOf own_pd0 rfl) rfl (by show 2 * 0 + _ ≤ _; exact Nat.le_of_eq rfl) (hb hby d1_56) (fun _ _ => ⟨rfl, e2, (by decide : 0 + 0 ≤ _), (by decide : 0 + 0 ≤ _)⟩)
      dsimp only [Pt.U, Pt.locs, Pt.cells, Pt.slots] at X7 l7 y7 z7 st7 hQ7
      subst l7 y7 z7
      obtain ⟨rfl, N7q, e7⟩ := hQ7
      have N7 := Fr.app N2 N7q
      refine Go.of st7 ?_
      show Go p e below s _ _ _ (T7.setTop (mkF m 59 #[.val (.int p0), .val (.int w0_39), .unset] [(.int (F2 p0 (921600 : Int32) (983037 : Int32)))]))
      by_cases hc59_8 : (F2 p0 (921600 : Int32) (983037 : Int32)) = (0 : Int32)
      · rewrite [if_pos hc59_8]
        refine Go.of (fun t k => XS.ifYes X7.here hx rfl (pc0 := 59) (pc' := 75) rfl (hb hby d1_59) rfl ((if0 _ _).trans (teq hc59_8).1) (by decide) (by decide) k) ?_
        show Go p e below s _ _ _ (T7.setTop (mkF m 75 #[.val (.int p0), .val (.int w0_39), .unset] []))
        exact jn75   T7 _ X7 e7 N7  
      · rewrite [if_neg hc59_8]
        refine Go.of (fun t k => XS.ifNo X7.here hx rfl (hb hby d1_59) rfl ((if0 _ _).trans (feq hc59_8).1) k) ?_
        show Go p e below s _ _ _ (T7.setTop (mkF m 62 #[.val (.int p0), .val (.int w0_39), .unset] []))
        exact jn62   T7 _ X7 e7 N7  
    · rewrite [if_neg hc48_6]
      refine Go.of (fun t k => XS.ifYes X2.here hx rfl (pc0 := 48) (pc' := 62) rfl (hb hby d1_48) rfl ((if0 _ _).trans (feq hc48_6).2) (by decide) (by decide) k) ?_
      show Go p e below s _ _ _ (T2.setTop (mkF m 62 #[.val (.int p0), .val (.int w0_39), .unset] []))
      exact jn62   T2 _ X2 e2 N2  
  have jn34 : ∀ (T_34 : State) (l_34 : List Loc) (X_34 : Stand p l e ({ frames := 1, cells := 0, slots := 0, locals := 14 } : Room) s m #[(.int p0)] below meth c T_34 l_34 0 0) (e_34 : T_34.heap = h0) (N_34 : Fr n0 l_34), Go p e below s (QP (some (.int (F1_34 p0))) h0 n0) ({ frames := 1, cells := 0, slots := 0, locals := 14 } : Room).cells ({ frames := 1, cells := 0, slots := 0, locals := 14 } : Room).slots (T_34.setTop (mkF m 34 #[.val (.int p0), .unset, .unset] [])) := by
    intro T_34 l_34 X_34 e_34 N_34
    unfold F1_34
    refine Go.of (fun t k => XS.iconst X_34.here hx rfl (hb hby d1_34) k) ?_
    show Go p e below s _ _ _ (T_34.setTop (mkF m 35 #[.val (.int p0), .unset, .unset] [(.int (1 : Int32))]))
    refine Go.of (fun t k => XS.goto X_34.here hx rfl (pc0 := 35) (pc' := 39) rfl (hb hby d1_35) (by decide) (by decide) k) ?_
    show Go p e below s _ _ _ (T_34.setTop (mkF m 39 #[.val (.int p0), .unset, .unset] [(.int (1 : Int32))]))
    exact jn39 (1 : Int32)  T_34 _ X_34 e_34 N_34  
  by_cases hc9_9 : (F2 p0 (160 : Int32) (55295 : Int32)) = (0 : Int32)
  · rewrite [if_pos hc9_9]
    refine Go.of (fun t k => XS.ifNo X1.here hx rfl (hb hby d1_9) rfl ((if0 _ _).trans (teq hc9_9).2) k) ?_
    show Go p e below s _ _ _ (T1.setTop (mkF m 12 #[.val (.int p0), .unset, .unset] []))
    refine Go.of (fun t k => XS.iloadN X1.here hx rfl (hb hby d1_12) rfl k) ?_
    show Go p e below s _ _ _ (T1.setTop (mkF m 13 #[.val (.int p0), .unset, .unset] [(.int p0)]))
    refine Go.of (X1.ldcInt hx hown (mvT hZ (hw _ (List.mem_of_getElem? (i := 8) rfl))) (g := (mkF m 13 #[.val (.int p0), .unset, .unset] [(.int p0)])) rfl (hb hby d1_13)) ?_
    show Go p e below s _ _ _ (T1.setTop (mkF m 15 #[.val (.int p0), .unset, .unset] [(.int (63744 : Int32)), (.int p0)]))
    refine Go.of (X1.ldcInt hx hown (mvT hZ (hw _ (List.mem_of_getElem? (i := 9) rfl))) (g := (mkF m 15 #[.val (.int p0), .unset, .unset] [(.int (63744 : Int32)), (.int p0)])) rfl (hb hby d1_15)) ?_
    show Go p e below s _ _ _ (T1.setTop (mkF m 17 #[.val (.int p0), .unset, .unset] [(.int (64975 : Int32)), (.int (63744 : Int32)), (.int p0)]))
    obtain ⟨_, _, ⟨T10, L10, k10, n10⟩, -, X10, ⟨Lc10, hQ10, l10, y10, z10⟩, st10⟩ := Jvm.LawKit.callS X1 hx (y := (⟨"com/example/canonym/canonym/iri/CharClasses", "inRange", "(III)Z"⟩ : MethodName)) hown (mvT hZ (hw _ (List.mem_of_getElem? (i := 5) rfl))) (mvT hZ (hw _ (List.mem_of_getElem? (i := 6) rfl))) (mvT hZ (hw _ (List.mem_of_getElem? (i := 2) rfl))) (mvT hZ (hw _ (List.mem_of_getElem? (i := 7) rfl))) (by decide) (backOf (W := 0) (rm2 l Z az hw [] p0 (63744 : Int32) (64975 : Int32) h0 n0 Z0) hZ (hw _ (List.mem_of_getElem? (i := 7) rfl)) (hw _ (List.mem_of_getElem? (i := 2) rfl)) (by decide) (by decide)) (g := (mkF m 17 #[.val (.int p0), .unset, .unset] [(.int (64975 : Int32)), (.int (63744 : Int32)), (.int p0)])) rfl (by rw [hml]; rfl) (argsL := [(.int p0), (.int (63744 : Int32)), (.int (64975 : Int32))]) (rest := []) (lenOf own_pd0 rfl) rfl (by show 2 * 0 + _ ≤ _; exact Nat.le_of_eq rfl) (hb hby d1_17) (fun _ _ => ⟨rfl, e1, (by decide : 0 + 0 ≤ _), (by decide : 0 + 0 ≤ _)⟩)
    dsimp only [Pt.U, Pt.locs, Pt.cells, Pt.slots] at X10 l10 y10 z10 st10 hQ10
    subst l10 y10 z10
    obtain ⟨rfl, N10q, e10⟩ := hQ10
    have N10 := Fr.app N1 N10q
    refine Go.of st10 ?_
    show Go p e below s _ _ _ (T10.setTop (mkF m 20 #[.val (.int p0), .unset, .unset] [(.int (F2 p0 (63744 : Int32) (64975 : Int32)))]))
    by_cases hc20_11 : (F2 p0 (63744 : Int32) (64975 : Int32)) = (0 : Int32)
    · rewrite [if_pos hc20_11]
      refine Go.of (fun t k => XS.ifNo X10.here hx rfl (hb hby d1_20) rfl ((if0 _ _).trans (teq hc20_11).2) k) ?_
      show Go p e below s _ _ _ (T10.setTop (mkF m 23 #[.val (.int p0), .unset, .unset] []))
      refine Go.of (fun t k => XS.iloadN X10.here hx rfl (hb hby d1_23) rfl k) ?_
      show Go p e below s _ _ _ (T10.setTop (mkF m 24 #[.val (.int p0), .unset, .unset] [(.int p0)]))
      refine Go.of (X10.ldcInt hx hown (mvT hZ (hw _ (List.mem_of_getElem? (i := 10) rfl))) (g := (mkF m 24 #[.val (.int p0), .unset, .unset] [(.int p0)])) rfl (hb hby d1_24)) ?_
      show Go p e below s _ _ _ (T10.setTop (mkF m 26 #[.val (.int p0), .unset, .unset] [(.int (65008 : Int32)), (.int p0)]))
      refine Go.of (X10.ldcInt hx hown (mvT hZ (hw _ (List.mem_of_getElem? (i := 11) rfl))) (g := (mkF m 26 #[.val (.int p0), .unset, .unset] [(.int (65008 : Int32)), (.int p0)])) rfl (hb hby d1_26)) ?_
      show Go p e below s _ _ _ (T10.setTop (mkF m 28 #[.val (.int p0), .unset, .unset] [(.int (65519 : Int32)), (.int (65008 : Int32)), (.int p0)]))
      obtain ⟨_, _, ⟨T12, L12, k12, n12⟩, -, X12, ⟨Lc12, hQ12, l12, y12, z12⟩, st12⟩ := Jvm.LawKit.callS X10 hx (y := (⟨"com/example/canonym/canonym/iri/CharClasses", "inRange", "(III)Z"⟩ : MethodName)) hown (mvT hZ (hw _ (List.mem_of_getElem? (i := 5) rfl))) (mvT hZ (hw _ (List.mem_of_getElem? (i := 6) rfl))) (mvT hZ (hw _ (List.mem_of_getElem? (i := 2) rfl))) (mvT hZ (hw _ (List.mem_of_getElem? (i := 7) rfl))) (by decide) (backOf (W := 0) (rm2 l Z az hw [] p0 (65008 : Int32) (65519 : Int32) h0 n0 Z0) hZ (hw _ (List.mem_of_getElem? (i := 7) rfl)) (hw _ (List.mem_of_getElem? (i := 2) rfl)) (by decide) (by decide)) (g := (mkF m 28 #[.val (.int p0), .unset, .unset] [(.int (65519 : Int32)), (.int (65008 : Int32)), (.int p0)])) rfl (by rw [hml]; rfl) (argsL := [(.int p0), (.int (65008 : Int32)), (.int (65519 : Int32))]) (rest := []) (lenOf own_pd0 rfl) rfl (by show 2 * 0 + _ ≤ _; exact Nat.le_of_eq rfl) (hb hby d1_28) (fun _ _ => ⟨rfl, e10, (by decide : 0 + 0 ≤ _), (by decide : 0 + 0 ≤ _)⟩)
      dsimp only [Pt.U, Pt.locs, Pt.cells, Pt.slots] at X12 l12 y12 z12 st12 hQ12
      subst l12 y12 z12
      obtain ⟨rfl, N12q, e12⟩ := hQ12
      have N12 := Fr.app N10 N12q
      refine Go.of st12 ?_
      show Go p e below s _ _ _ (T12.setTop (mkF m 31 #[.val (.int p0), .unset, .unset] [(.int (F2 p0 (65008 : Int32) (65519 : Int32)))]))
      by_cases hc31_13 : (F2 p0 (65008 : Int32) (65519 : Int32)) = (0 : Int32)
      · rewrite [if_pos hc31_13]
        refine Go.of (fun t k => XS.ifYes X12.here hx rfl (pc0 := 31) (pc' := 38) rfl (hb hby d1_31) rfl ((if0 _ _).trans (teq hc31_13).1) (by decide) (by decide) k) ?_
        show Go p e below s _ _ _ (T12.setTop (mkF m 38 #[.val (.int p0), .unset, .unset] []))
        refine Go.of (fun t k => XS.iconst X12.here hx rfl (hb hby d1_38) k) ?_
        show Go p e below s _ _ _ (T12.setTop (mkF m 39 #[.val (.int p0), .unset, .unset] [(.int (0 : Int32))]))
        exact jn39 (0 : Int32)  T12 _ X12 e12 N12  
      · rewrite [if_neg hc31_13]
        refine Go.of (fun t k => XS.ifNo X12.here hx rfl (hb hby d1_31) rfl ((if0 _ _).trans (feq hc31_13).1) k) ?_
        show Go p e below s _ _ _ (T12.setTop (mkF m 34 #[.val (.int p0), .unset, .unset] []))
        exact jn34   T12 _ X12 e12 N12  
    · rewrite [if_neg hc20_11]
      refine Go.of (fun t k => XS.ifYes X10.here hx rfl (pc0 := 20) (pc' := 34) rfl (hb hby d1_20) rfl ((if0 _ _).trans (feq hc20_11).2) (by decide) (by decide) k) ?_
      show Go p e below s _ _ _ (T10.setTop (mkF m 34 #[.val (.int p0), .unset, .unset] []))
      exact jn34   T10 _ X10 e10 N10  
  · rewrite [if_neg hc9_9]
    refine Go.of (fun t k => XS.ifYes X1.here hx rfl (pc0 := 9) (pc' := 34) rfl (hb hby d1_9) rfl ((if0 _ _).trans (feq hc9_9).2) (by decide) (by decide) k) ?_
    show Go p e below s _ _ _ (T1.setTop (mkF m 34 #[.val (.int p0), .unset, .unset] []))
    exact jn34   T1 _ X1 e1 N1  
theorem own_pn1 : plainName "com/example/canonym/canonym/iri/CharClassesIsUcscharPinLaw" = true := by first | (simp [plainName, overriddenIn]; done) | decide +kernel
theorem d3_0 : decode method_3_code 0 = .ok (.iload_n 0, 1) := by decide +kernel
theorem d3_1 : decode method_3_code 1 = .ok (.ifCond .lt 9, 3) := by decide +kernel
theorem d3_4 : decode method_3_code 4 = .ok (.iload_n 0, 1) := by decide +kernel
theorem d3_5 : decode method_3_code 5 = .ok (.ldc 19, 2) := by decide +kernel
theorem d3_7 : decode method_3_code 7 = .ok (.if_icmp .le 5, 3) := by decide +kernel
theorem d3_10 : decode method_3_code 10 = .ok (.iconst 0, 1) := by decide +kernel
theorem d3_11 : decode method_3_code 11 = .ok (.ireturn, 1) := by decide +kernel
theorem d3_12 : decode method_3_code 12 = .ok (.iload_n 0, 1) := by decide +kernel
theorem d3_13 : decode method_3_code 13 = .ok (.bipush 16, 2) := by decide +kernel
theorem d3_15 : decode method_3_code 15 = .ok (.iushr, 1) := by decide +kernel
theorem d3_16 : decode method_3_code 16 = .ok (.istore_n 1, 1) := by decide +kernel
theorem d3_17 : decode method_3_code 17 = .ok (.iload_n 0, 1) := by decide +kernel
theorem d3_18 : decode method_3_code 18 = .ok (.ldc 7, 2) := by decide +kernel
theorem d3_20 : decode method_3_code 20 = .ok (.iand, 1) := by decide +kernel
theorem d3_21 : decode method_3_code 21 = .ok (.istore_n 2, 1) := by decide +kernel
theorem d3_22 : decode method_3_code 22 = .ok (.iload_n 1, 1) := by decide +kernel
theorem d3_23 : decode method_3_code 23 = .ok (.ifCond .ne 56, 3) := by decide +kernel
theorem d3_26 : decode method_3_code 26 = .ok (.iload_n 2, 1) := by decide +kernel
theorem d3_27 : decode method_3_code 27 = .ok (.sipush 160, 3) := by decide +kernel
theorem d3_30 : decode method_3_code 30 = .ok (.if_icmp .ge 5, 3) := by decide +kernel
theorem d3_33 : decode method_3_code 33 = .ok (.iconst 0, 1) := by decide +kernel
theorem d3_34 : decode method_3_code 34 = .ok (.ireturn, 1) := by decide +kernel
theorem d3_35 : decode method_3_code 35 = .ok (.iload_n 2, 1) := by decide +kernel
theorem d3_36 : decode method_3_code 36 = .ok (.ldc 20, 2) := by decide +kernel
theorem d3_38 : decode method_3_code 38 = .ok (.if_icmp .gt 5, 3) := by decide +kernel
theorem d3_41 : decode method_3_code 41 = .ok (.iconst 1, 1) := by decide +kernel
theorem d3_42 : decode method_3_code 42 = .ok (.ireturn, 1) := by decide +kernel
theorem d3_43 : decode method_3_code 43 = .ok (.iload_n 2, 1) := by decide +kernel
theorem d3_44 : decode method_3_code 44 = .ok (.ldc 21, 2) := by decide +kernel
theorem d3_46 : decode method_3_code 46 = .ok (.if_icmp .ge 5, 3) := by decide +kernel
theorem d3_49 : decode method_3_code 49 = .ok (.iconst 0, 1) := by decide +kernel
theorem d3_50 : decode method_3_code 50 = .ok (.ireturn, 1) := by decide +kernel
theorem d3_51 : decode method_3_code 51 = .ok (.iload_n 2, 1) := by decide +kernel
theorem d3_52 : decode method_3_code 52 = .ok (.ldc 22, 2) := by decide +kernel
theorem d3_54 : decode method_3_code 54 = .ok (.if_icmp .gt 5, 3) := by decide +kernel
theorem d3_57 : decode method_3_code 57 = .ok (.iconst 1, 1) := by decide +kernel
theorem d3_58 : decode method_3_code 58 = .ok (.ireturn, 1) := by decide +kernel
theorem d3_59 : decode method_3_code 59 = .ok (.iload_n 2, 1) := by decide +kernel
theorem d3_60 : decode method_3_code 60 = .ok (.ldc 23, 2) := by decide +kernel
theorem d3_62 : decode method_3_code 62 = .ok (.if_icmp .ge 5, 3) := by decide +kernel
theorem d3_65 : decode method_3_code 65 = .ok (.iconst 0, 1) := by decide +kernel
theorem d3_66 : decode method_3_code 66 = .ok (.ireturn, 1) := by decide +kernel
theorem d3_67 : decode method_3_code 67 = .ok (.iload_n 2, 1) := by decide +kernel
theorem d3_68 : decode method_3_code 68 = .ok (.ldc 24, 2) := by decide +kernel
theorem d3_70 : decode method_3_code 70 = .ok (.if_icmp .gt 7, 3) := by decide +kernel
theorem d3_73 : decode method_3_code 73 = .ok (.iconst 1, 1) := by decide +kernel
theorem d3_74 : decode method_3_code 74 = .ok (.goto 4, 3) := by decide +kernel
theorem d3_77 : decode method_3_code 77 = .ok (.iconst 0, 1) := by decide +kernel
theorem d3_78 : decode method_3_code 78 = .ok (.ireturn, 1) := by decide +kernel
theorem d3_79 : decode method_3_code 79 = .ok (.iload_n 1, 1) := by decide +kernel
theorem d3_80 : decode method_3_code 80 = .ok (.bipush 13, 2) := by decide +kernel
theorem d3_82 : decode method_3_code 82 = .ok (.if_icmp .gt 15, 3) := by decide +kernel
theorem d3_85 : decode method_3_code 85 = .ok (.iload_n 2, 1) := by decide +kernel
theorem d3_86 : decode method_3_code 86 = .ok (.ldc 25, 2) := by decide +kernel
theorem d3_88 : decode method_3_code 88 = .ok (.if_icmp .gt 7, 3) := by decide +kernel
theorem d3_91 : decode method_3_code 91 = .ok (.iconst 1, 1) := by decide +kernel
theorem d3_92 : decode method_3_code 92 = .ok (.goto 4, 3) := by decide +kernel
theorem d3_95 : decode method_3_code 95 = .ok (.iconst 0, 1) := by decide +kernel
theorem d3_96 : decode method_3_code 96 = .ok (.ireturn, 1) := by decide +kernel
theorem d3_97 : decode method_3_code 97 = .ok (.iload_n 1, 1) := by decide +kernel
theorem d3_98 : decode method_3_code 98 = .ok (.bipush 14, 2) := by decide +kernel
theorem d3_100 : decode method_3_code 100 = .ok (.if_icmp .ne 22, 3) := by decide +kernel
theorem d3_103 : decode method_3_code 103 = .ok (.iload_n 2, 1) := by decide +kernel
theorem d3_104 : decode method_3_code 104 = .ok (.sipush 4096, 3) := by decide +kernel
theorem d3_107 : decode method_3_code 107 = .ok (.if_icmp .lt 13, 3) := by decide +kernel
theorem d3_110 : decode method_3_code 110 = .ok (.iload_n 2, 1) := by decide +kernel
theorem d3_111 : decode method_3_code 111 = .ok (.ldc 25, 2) := by decide +kernel
theorem d3_113 : decode method_3_code 113 = .ok (.if_icmp .gt 7, 3) := by decide +kernel
theorem d3_116 : decode method_3_code 116 = .ok (.iconst 1, 1) := by decide +kernel
theorem d3_117 : decode method_3_code 117 = .ok (.goto 4, 3) := by decide +kernel
theorem d3_120 : decode method_3_code 120 = .ok (.iconst 0, 1) := by decide +kernel
theorem d3_121 : decode method_3_code 121 = .ok (.ireturn, 1) := by decide +kernel
theorem d3_122 : decode method_3_code 122 = .ok (.iconst 0, 1) := by decide +kernel
theorem d3_123 : decode method_3_code 123 = .ok (.ireturn, 1) := by decide +kernel
theorem ef_3 (m : MethodId) (p0 : Int32) : entryFrame m #[(.int p0)] 3 = mkF m 0 #[.val (.int p0), .unset, .unset] [] := by first | (simp [entryFrame, mkF, argsToLocals, Value.category]; done) | rfl
def F3 (p0 : Int32) : Int32 := (if p0 < (0 : Int32) then (0 : Int32) else (if (1114111 : Int32) < p0 then (0 : Int32) else (if ((p0.toUInt32 >>> ((16 : Int32) &&& 31).toUInt32).toInt32) = (0 : Int32) then (if (p0 &&& (65535 : Int32)) < (160 : Int32) then (0 : Int32) else (if (55295 : Int32) < (p0 &&& (65535 : Int32)) then (if (p0 &&& (65535 : Int32)) < (63744 : Int32) then (0 : Int32) else (if (64975 : Int32) < (p0 &&& (65535 : Int32)) then (if (p0 &&& (65535 : Int32)) < (65008 : Int32) then (0 : Int32) else (if (65519 : Int32) < (p0 &&& (65535 : Int32)) then (0 : Int32) else (1 : Int32))) else (1 : Int32))) else (1 : Int32))) else (if (13 : Int32) < ((p0.toUInt32 >>> ((16 : Int32) &&& 31).toUInt32).toInt32) then (if ((p0.toUInt32 >>> ((16 : Int32) &&& 31).toUInt32).toInt32) = (14 : Int32) then (if (p0 &&& (65535 : Int32)) < (4096 : Int32) then (0 : Int32) else (if (65533 : Int32) < (p0 &&& (65535 : Int32)) then (0 : Int32) else (1 : Int32))) else (0 : Int32)) else (if (65533 : Int32) < (p0 &&& (65535 : Int32)) then (0 : Int32) else (1 : Int32))))))
set_option maxRecDepth 65536 in
set_option maxHeartbeats 40000000 in
theorem rm3 (l : Launch) (Z : State) (az : Array Value) (hw : ∀ d ∈ tables_1, d.before az Z = true) (ws : List Jvm.Cond) (p0 : Int32)  (h0 : Heap) (n0 : Nat) (Z0 : n0 ≤ h0.size) :
    MetFree l (⟨"com/example/canonym/canonym/iri/CharClassesIsUcscharPinLaw", "expected", "(I)Z"⟩ : MethodName) (head1 (Jvm.Cond.code (⟨"com/example/canonym/canonym/iri/CharClassesIsUcscharPinLaw", "expected", "(I)Z"⟩ : MethodName) method_3_code 3 (some .boolean) :: ws) ({ frames := 0, cells := 0, slots := 0, locals := 0 } : Room)) (fun a U => a = #[(.int p0)] ∧ Z.Warmed39 U.vm ∧ U.heap = h0) (fun _ _ _ _ _ => True) (fun _ U o U' => ∃ v L, o = .returned v ∧ (QP (some (.int (F3 p0))) h0 n0) v U'.heap L ∧ FrameEnd U o U' L ({ frames := 0, cells := 0, slots := 0, locals := 0 } : Room).cells ({ frames := 0, cells := 0, slots := 0, locals := 0 } : Room).slots) := by
  refine MetFree.of_bodySF (plainFor_of_name own_pn1) hisR ?_
  intro p e s m args below meth c s₁ Bd hml0 hP hK
  obtain ⟨rfl, hZ, hh⟩ := hP
  have hx := Bd.exec
  have hby := Bd.bytes
  have hml : c.maxLocals = 3 := hml0
  have hown : s.vm.findClass "com/example/canonym/canonym/iri/CharClassesIsUcscharPinLaw" = some m.cls := findClass_of_methodNamed Bd.named
  have hnm := (name_of_methodNamed Bd.named Bd.method).1
  have hlk : meth.locks = false := BodyLoose.notSynchronized Bd
  have X0 : Stand p l e ({ frames := 0, cells := 0, slots := 0, locals := 0 } : Room) s m #[(.int p0)] below meth c s₁ [] 0 0 := Stand.of_body Bd
  have e0 : s₁.heap = h0 := by rw [← hh, Bd.state]; rfl
  have N0 := Fr.nil n0
  show Go p e below s (QP (some (.int (F3 p0))) h0 n0) ({ frames := 0, cells := 0, slots := 0, locals := 0 } : Room).cells ({ frames := 0, cells := 0, slots := 0, locals := 0 } : Room).slots (s₁.setTop (entryFrame m #[(.int p0)] 3))
  refine Go.of (fun t k => castTop (ef_3 m p0) k) ?_
  show Go p e below s _ _ _ (s₁.setTop (mkF m 0 #[.val (.int p0), .unset, .unset] []))
  unfold F3
  refine Go.of (fun t k => XS.iloadN X0.here hx rfl (hb hby d3_0) rfl k) ?_
  show Go p e below s _ _ _ (s₁.setTop (mkF m 1 #[.val (.int p0), .unset, .unset] [(.int p0)]))
  by_cases hc1_1 : p0 < (0 : Int32)
  · rewrite [if_pos hc1_1]
    refine Go.of (fun t k => XS.ifYes X0.here hx rfl (pc0 := 1) (pc' := 10) rfl (hb hby d3_1) rfl ((if0 _ _).trans (tlt hc1_1).1) (by decide) (by decide) k) ?_
    show Go p e below s _ _ _ (s₁.setTop (mkF m 10 #[.val (.int p0), .unset, .unset] []))
    refine Go.of (fun t k => XS.iconst X0.here hx rfl (hb hby d3_10) k) ?_
    show Go p e below s _ _ _ (s₁.setTop (mkF m 11 #[.val (.int p0), .unset, .unset] [(.int (0 : Int32))]))
    exact Go.ret X0 (some (.int (0 : Int32))) (fun h => by rw [Bd.returns] at h; cases h) hlk ⟨rfl, N0, e0⟩ (by decide) (by decide) (fun fs hr => (retN X0 hx (t := .boolean) Bd.returns (by simp) (hb hby d3_11) hr))
  · rewrite [if_neg hc1_1]
    refine Go.of (fun t k => XS.ifNo X0.here hx rfl (hb hby d3_1) rfl ((if0 _ _).trans (flt hc1_1).1) k) ?_
    show Go p e below s _ _ _ (s₁.setTop (mkF m 4 #[.val (.int p0), .unset, .unset] []))
    refine Go.of (fun t k => XS.iloadN X0.here hx rfl (hb hby d3_4) rfl k) ?_
    show Go p e below s _ _ _ (s₁.setTop (mkF m 5 #[.val (.int p0), .unset, .unset] [(.int p0)]))
    refine Go.of (X0.ldcInt hx hown (mvT hZ (hw _ (List.mem_of_getElem? (i := 20) rfl))) (g := (mkF m 5 #[.val (.int p0), .unset, .unset] [(.int p0)])) rfl (hb hby d3_5)) ?_
    show Go p e below s _ _ _ (s₁.setTop (mkF m 7 #[.val (.int p0), .unset, .unset] [(.int (1114111 : Int32)), (.int p0)]))
    by_cases hc7_2 : (1114111 : Int32) < p0
    · rewrite [if_pos hc7_2]
      refine Go.of (fun t k => XS.icmpNo X0.here hx rfl (hb hby d3_7) rfl (tlt hc7_2).2.2.2 k) ?_
      show Go p e below s _ _ _ (s₁.setTop (mkF m 10 #[.val (.int p0), .unset, .unset] []))
      refine Go.of (fun t k => XS.iconst X0.here hx rfl (hb hby d3_10) k) ?_
      show Go p e below s _ _ _ (s₁.setTop (mkF m 11 #[.val (.int p0), .unset, .unset] [(.int (0 : Int32))]))
      exact Go.ret X0 (some (.int (0 : Int32))) (fun h => by rw [Bd.returns] at h; cases h) hlk ⟨rfl, N0, e0⟩ (by decide) (by decide) (fun fs hr => (retN X0 hx (t := .boolean) Bd.returns (by simp) (hb hby d3_11) hr))
    · rewrite [if_neg hc7_2]
      refine Go.of (fun t k => XS.icmpYes X0.here hx rfl (pc0 := 7) (pc' := 12) rfl (hb hby d3_7) rfl (flt hc7_2).2.2.2 (by decide) (by decide) k) ?_
      show Go p e below s _ _ _ (s₁.setTop (mkF m 12 #[.val (.int p0), .unset, .unset] []))
      refine Go.of (fun t k => XS.iloadN X0.here hx rfl (hb hby d3_12) rfl k) ?_
      show Go p e below s _ _ _ (s₁.setTop (mkF m 13 #[.val (.int p0), .unset, .unset] [(.int p0)]))
      refine Go.of (fun t k => XS.bipush X0.here hx rfl (hb hby d3_13) k) ?_
      show Go p e below s _ _ _ (s₁.setTop (mkF m 15 #[.val (.int p0), .unset, .unset] [(.int (16 : Int32)), (.int p0)]))
      refine Go.of (fun t k => XS.iushr X0.here hx rfl (hb hby d3_15) rfl k) ?_
      show Go p e below s _ _ _ (s₁.setTop (mkF m 16 #[.val (.int p0), .unset, .unset] [(.int ((p0.toUInt32 >>> ((16 : Int32) &&& 31).toUInt32).toInt32))]))
      refine Go.of (fun t k => XS.istoreN X0.here hx rfl (hb hby d3_16) rfl (l' := #[.val (.int p0), .val (.int ((p0.toUInt32 >>> ((16 : Int32) &&& 31).toUInt32).toInt32)), .unset]) rfl k) ?_
      show Go p e below s _ _ _ (s₁.setTop (mkF m 17 #[.val (.int p0), .val (.int ((p0.toUInt32 >>> ((16 : Int32) &&& 31).toUInt32).toInt32)), .unset] []))
      refine Go.of (fun t k => XS.iloadN X0.here hx rfl (hb hby d3_17) rfl k) ?_
      show Go p e below s _ _ _ (s₁.setTop (mkF m 18 #[.val (.int p0), .val (.int ((p0.toUInt32 >>> ((16 : Int32) &&& 31).toUInt32).toInt32)), .unset] [(.int p0)]))
      refine Go.of (X0.ldcInt hx hown (mvT hZ (hw _ (List.mem_of_getElem? (i := 21) rfl))) (g := (mkF m 18 #[.val (.int p0), .val (.int ((p0.toUInt32 >>> ((16 : Int32) &&& 31).toUInt32).toInt32)), .unset] [(.int p0)])) rfl (hb hby d3_18)) ?_
      show Go p e below s _ _ _ (s₁.setTop (mkF m 20 #[.val (.int p0), .val (.int ((p0.toUInt32 >>> ((16 : Int32) &&& 31).toUInt32).toInt32)), .unset] [(.int (65535 : Int32)), (.int p0)]))
      refine Go.of (fun t k => XS.iand X0.here hx rfl (hb hby d3_20) rfl k) ?_
      show Go p e below s _ _ _ (s₁.setTop (mkF m 21 #[.val (.int p0), .val (.int ((p0.toUInt32 >>> ((16 : Int32) &&& 31).toUInt32).toInt32)), .unset] [(.int (p0 &&& (65535 : Int32)))]))
      refine Go.of (fun t k => XS.istoreN X0.here hx rfl (hb hby d3_21) rfl (l' := #[.val (.int p0), .val (.int ((p0.toUInt32 >>> ((16 : Int32) &&& 31).toUInt32).toInt32)), .val (.int (p0 &&& (65535 : Int32)))]) rfl k) ?_
      show Go p e below s _ _ _ (s₁.setTop (mkF m 22 #[.val (.int p0), .val (.int ((p0.toUInt32 >>> ((16 : Int32) &&& 31).toUInt32).toInt32)), .val (.int (p0 &&& (65535 : Int32)))] []))
      refine Go.of (fun t k => XS.iloadN X0.here hx rfl (hb hby d3_22) rfl k) ?_
      show Go p e below s _ _ _ (s₁.setTop (mkF m 23 #[.val (.int p0), .val (.int ((p0.toUInt32 >>> ((16 : Int32) &&& 31).toUInt32).toInt32)), .val (.int (p0 &&& (65535 : Int32)))] [(.int ((p0.toUInt32 >>> ((16 : Int32) &&& 31).toUInt32).toInt32))]))
      by_cases hc23_3 : ((p0.toUInt32 >>> ((16 : Int32) &&& 31).toUInt32).toInt32) = (0 : Int32)
      · rewrite [if_pos hc23_3]
        refine Go.of (fun t k => XS.ifNo X0.here hx rfl (hb hby d3_23) rfl ((if0 _ _).trans (teq hc23_3).2) k) ?_
        show Go p e below s _ _ _ (s₁.setTop (mkF m 26 #[.val (.int p0), .val (.int ((p0.toUInt32 >>> ((16 : Int32) &&& 31).toUInt32).toInt32)), .val (.int (p0 &&& (65535 : Int32)))] []))
        refine Go.of (fun t k => XS.iloadN X0.here hx rfl (hb hby d3_26) rfl k) ?_
        show Go p e below s _ _ _ (s₁.setTop (mkF m 27 #[.val (.int p0), .val (.int ((p0.toUInt32 >>> ((16 : Int32) &&& 31).toUInt32).toInt32)), .val (.int (p0 &&& (65535 : Int32)))] [(.int (p0 &&& (65535 : Int32)))]))
        refine Go.of (fun t k => XS.sipush X0.here hx rfl (hb hby d3_27) k) ?_
        show Go p e below s _ _ _ (s₁.setTop (mkF m 30 #[.val (.int p0), .val (.int ((p0.toUInt32 >>> ((16 : Int32) &&& 31).toUInt32).toInt32)), .val (.int (p0 &&& (65535 : Int32)))] [(.int (160 : Int32)), (.int (p0 &&& (65535 : Int32)))]))
        by_cases hc30_4 : (p0 &&& (65535 : Int32)) < (160 : Int32)
        · rewrite [if_pos hc30_4]
          refine Go.of (fun t k => XS.icmpNo X0.here hx rfl (hb hby d3_30) rfl (tlt hc30_4).2.1 k) ?_
          show Go p e below s _ _ _ (s₁.setTop (mkF m 33 #[.val (.int p0), .val (.int ((p0.toUInt32 >>> ((16 : Int32) &&& 31).toUInt32).toInt32)), .val (.int (p0 &&& (65535 : Int32)))] []))
          refine Go.of (fun t k => XS.iconst X0.here hx rfl (hb hby d3_33) k) ?_
          show Go p e below s _ _ _ (s₁.setTop (mkF m 34 #[.val (.int p0), .val (.int ((p0.toUInt32 >>> ((16 : Int32) &&& 31).toUInt32).toInt32)), .val (.int (p0 &&& (65535 : Int32)))] [(.int (0 : Int32))]))
          exact Go.ret X0 (some (.int (0 : Int32))) (fun h => by rw [Bd.returns] at h; cases h) hlk ⟨rfl, N0, e0⟩ (by decide) (by decide) (fun fs hr => (retN X0 hx (t := .boolean) Bd.returns (by simp) (hb hby d3_34) hr))
        · rewrite [if_neg hc30_4]
          refine Go.of (fun t k => XS.icmpYes X0.here hx rfl (pc0 := 30) (pc' := 35) rfl (hb hby d3_30) rfl (flt hc30_4).2.1 (by decide) (by decide) k) ?_
          show Go p e below s _ _ _ (s₁.setTop (mkF m 35 #[.val (.int p0), .val (.int ((p0.toUInt32 >>> ((16 : Int32) &&& 31).toUInt32).toInt32)), .val (.int (p0 &&& (65535 : Int32)))] []))
          refine Go.of (fun t k => XS.iloadN X0.here hx rfl (hb hby d3_35) rfl k) ?_
          show Go p e below s _ _ _ (s₁.setTop (mkF m 36 #[.val (.int p0), .val (.int ((p0.toUInt32 >>> ((16 : Int32) &&& 31).toUInt32).toInt32)), .val (.int (p0 &&& (65535 : Int32)))] [(.int (p0 &&& (65535 : Int32)))]))
          refine Go.of (X0.ldcInt hx hown (mvT hZ (hw _ (List.mem_of_getElem? (i := 25) rfl))) (g := (mkF m 36 #[.val (.int p0), .val (.int ((p0.toUInt32 >>> ((16 : Int32) &&& 31).toUInt32).toInt32)), .val (.int (p0 &&& (65535 : Int32)))] [(.int (p0 &&& (65535 : Int32)))])) rfl (hb hby d3_36)) ?_
          show Go p e below s _ _ _ (s₁.setTop (mkF m 38 #[.val (.int p0), .val (.int ((p0.toUInt32 >>> ((16 : Int32) &&& 31).toUInt32).toInt32)), .val (.int (p0 &&& (65535 : Int32)))] [(.int (55295 : Int32)), (.int (p0 &&& (65535 : Int32)))]))
          by_cases hc38_5 : (55295 : Int32) < (p0 &&& (65535 : Int32))
          · rewrite [if_pos hc38_5]
            refine Go.of (fun t k => XS.icmpYes X0.here hx rfl (pc0 := 38) (pc' := 43) rfl (hb hby d3_38) rfl (tlt hc38_5).2.2.1 (by decide) (by decide) k) ?_
            show Go p e below s _ _ _ (s₁.setTop (mkF m 43 #[.val (.int p0), .val (.int ((p0.toUInt32 >>> ((16 : Int32) &&& 31).toUInt32).toInt32)), .val (.int (p0 &&& (65535 : Int32)))] []))
            refine Go.of (fun t k => XS.iloadN X0.here hx rfl (hb hby d3_43) rfl k) ?_
            show Go p e below s _ _ _ (s₁.setTop (mkF m 44 #[.val (.int p0), .val (.int ((p0.toUInt32 >>> ((16 : Int32) &&& 31).toUInt32).toInt32)), .val (.int (p0 &&& (65535 : Int32)))] [(.int (p0 &&& (65535 : Int32)))]))
            refine Go.of (X0.ldcInt hx hown (mvT hZ (hw _ (List.mem_of_getElem? (i := 26) rfl))) (g := (mkF m 44 #[.val (.int p0), .val (.int ((p0.toUInt32 >>> ((16 : Int32) &&& 31).toUInt32).toInt32)), .val (.int (p0 &&& (65535 : Int32)))] [(.int (p0 &&& (65535 : Int32)))])) rfl (hb hby d3_44)) ?_
            show Go p e below s _ _ _ (s₁.setTop (mkF m 46 #[.val (.int p0), .val (.int ((p0.toUInt32 >>> ((16 : Int32) &&& 31).toUInt32).toInt32)), .val (.int (p0 &&& (65535 : Int32)))] [(.int (63744 : Int32)), (.int (p0 &&& (65535 : Int32)))]))
            by_cases hc46_6 : (p0 &&& (65535 : Int32)) < (63744 : Int32)
            · rewrite [if_pos hc46_6]
              refine Go.of (fun t k => XS.icmpNo X0.here hx rfl (hb hby d3_46) rfl (tlt hc46_6).2.1 k) ?_
              show Go p e below s _ _ _ (s₁.setTop (mkF m 49 #[.val (.int p0), .val (.int ((p0.toUInt32 >>> ((16 : Int32) &&& 31).toUInt32).toInt32)), .val (.int (p0 &&& (65535 : Int32)))] []))
              refine Go.of (fun t k => XS.iconst X0.here hx rfl (hb hby d3_49) k) ?_
              show Go p e below s _ _ _ (s₁.setTop (mkF m 50 #[.val (.int p0), .val (.int ((p0.toUInt32 >>> ((16 : Int32) &&& 31).toUInt32).toInt32)), .val (.int (p0 &&& (65535 : Int32)))] [(.int (0 : Int32))]))
              exact Go.ret X0 (some (.int (0 : Int32))) (fun h => by rw [Bd.returns] at h; cases h) hlk ⟨rfl, N0, e0⟩ (by decide) (by decide) (fun fs hr => (retN X0 hx (t := .boolean) Bd.returns (by simp) (hb hby d3_50) hr))
            · rewrite [if_neg hc46_6]
              refine Go.of (fun t k => XS.icmpYes X0.here hx rfl (pc0 := 46) (pc' := 51) rfl (hb hby d3_46) rfl (flt hc46_6).2.1 (by decide) (by decide) k) ?_
              show Go p e below s _ _ _ (s₁.setTop (mkF m 51 #[.val (.int p0), .val (.int ((p0.toUInt32 >>> ((16 : Int32) &&& 31).toUInt32).toInt32)), .val (.int (p0 &&& (65535 : Int32)))] []))
              refine Go.of (fun t k => XS.iloadN X0.here hx rfl (hb hby d3_51) rfl k) ?_
              show Go p e below s _ _ _ (s₁.setTop (mkF m 52 #[.val (.int p0), .val (.int ((p0.toUInt32 >>> ((16 : Int32) &&& 31).toUInt32).toInt32)), .val (.int (p0 &&& (65535 : Int32)))] [(.int (p0 &&& (65535 : Int32)))]))
              refine Go.of (X0.ldcInt hx hown (mvT hZ (hw _ (List.mem_of_getElem? (i := 27) rfl))) (g := (mkF m 52 #[.val (.int p0), .val (.int ((p0.toUInt32 >>> ((16 : Int32) &&& 31).toUInt32).toInt32)), .val (.int (p0 &&& (65535 : Int32)))] [(.int (p0 &&& (65535 : Int32)))])) rfl (hb hby d3_52)) ?_
              show Go p e below s _ _ _ (s₁.setTop (mkF m 54 #[.val (.int p0), .val (.int ((p0.toUInt32 >>> ((16 : Int32) &&& 31).toUInt32).toInt32)), .val (.int (p0 &&& (65535 : Int32)))] [(.int (64975 : Int32)), (.int (p0 &&& (65535 : Int32)))]))
              by_cases hc54_7 : (64975 : Int32) < (p0 &&& (65535 : Int32))
              · rewrite [if_pos hc54_7]
                refine Go.of (fun t k => XS.icmpYes X0.here hx rfl (pc0 := 54) (pc' := 59) rfl (hb hby d3_54) rfl (tlt hc54_7).2.2.1 (by decide) (by decide) k) ?_
                show Go p e below s _ _ _ (s₁.setTop (mkF m 59 #[.val (.int p0), .val (.int ((p0.toUInt32 >>> ((16 : Int32) &&& 31).toUInt32).toInt32)), .val (.int (p0 &&& (65535 : Int32)))] []))
                refine Go.of (fun t k => XS.iloadN X0.here hx rfl (hb hby d3_59) rfl k) ?_
                show Go p e below s _ _ _ (s₁.setTop (mkF m 60 #[.val (.int p0), .val (.int ((p0.toUInt32 >>> ((16 : Int32) &&& 31).toUInt32).toInt32)), .val (.int (p0 &&& (65535 : Int32)))] [(.int (p0 &&& (65535 : Int32)))]))
                refine Go.of (X0.ldcInt hx hown (mvT hZ (hw _ (List.mem_of_getElem? (i := 28) rfl))) (g := (mkF m 60 #[.val (.int p0), .val (.int ((p0.toUInt32 >>> ((16 : Int32) &&& 31).toUInt32).toInt32)), .val (.int (p0 &&& (65535 : Int32)))] [(.int (p0 &&& (65535 : Int32)))])) rfl (hb hby d3_60)) ?_
                show Go p e below s _ _ _ (s₁.setTop (mkF m 62 #[.val (.int p0), .val (.int ((p0.toUInt32 >>> ((16 : Int32) &&& 31).toUInt32).toInt32)), .val (.int (p0 &&& (65535 : Int32)))] [(.int (65008 : Int32)), (.int (p0 &&& (65535 : Int32)))]))
                by_cases hc62_8 : (p0 &&& (65535 : Int32)) < (65008 : Int32)
                · rewrite [if_pos hc62_8]
                  refine Go.of (fun t k => XS.icmpNo X0.here hx rfl (hb hby d3_62) rfl (tlt hc62_8).2.1 k) ?_
                  show Go p e below s _ _ _ (s₁.setTop (mkF m 65 #[.val (.int p0), .val (.int ((p0.toUInt32 >>> ((16 : Int32) &&& 31).toUInt32).toInt32)), .val (.int (p0 &&& (65535 : Int32)))] []))
                  refine Go.of (fun t k => XS.iconst X0.here hx rfl (hb hby d3_65) k) ?_
                  show Go p e below s _ _ _ (s₁.setTop (mkF m 66 #[.val (.int p0), .val (.int ((p0.toUInt32 >>> ((16 : Int32) &&& 31).toUInt32).toInt32)), .val (.int (p0 &&& (65535 : Int32)))] [(.int (0 : Int32))]))
                  exact Go.ret X0 (some (.int (0 : Int32))) (fun h => by rw [Bd.returns] at h; cases h) hlk ⟨rfl, N0, e0⟩ (by decide) (by decide) (fun fs hr => (retN X0 hx (t := .boolean) Bd.returns (by simp) (hb hby d3_66) hr))
                · rewrite [if_neg hc62_8]
                  refine Go.of (fun t k => XS.icmpYes X0.here hx rfl (pc0 := 62) (pc' := 67) rfl (hb hby d3_62) rfl (flt hc62_8).2.1 (by decide) (by decide) k) ?_
                  show Go p e below s _ _ _ (s₁.setTop (mkF m 67 #[.val (.int p0), .val (.int ((p0.toUInt32 >>> ((16 : Int32) &&& 31).toUInt32).toInt32)), .val (.int (p0 &&& (65535 : Int32)))] []))
                  refine Go.of (fun t k => XS.iloadN X0.here hx rfl (hb hby d3_67) rfl k) ?_
                  show Go p e below s _ _ _ (s₁.setTop (mkF m 68 #[.val (.int p0), .val (.int ((p0.toUInt32 >>> ((16 : Int32) &&& 31).toUInt32).toInt32)), .val (.int (p0 &&& (65535 : Int32)))] [(.int (p0 &&& (65535 : Int32)))]))
                  refine Go.of (X0.ldcInt hx hown (mvT hZ (hw _ (List.mem_of_getElem? (i := 29) rfl))) (g := (mkF m 68 #[.val (.int p0), .val (.int ((p0.toUInt32 >>> ((16 : Int32) &&& 31).toUInt32).toInt32)), .val (.int (p0 &&& (65535 : Int32)))] [(.int (p0 &&& (65535 : Int32)))])) rfl (hb hby d3_68)) ?_
                  show Go p e below s _ _ _ (s₁.setTop (mkF m 70 #[.val (.int p0), .val (.int ((p0.toUInt32 >>> ((16 : Int32) &&& 31).toUInt32).toInt32)), .val (.int (p0 &&& (65535 : Int32)))] [(.int (65519 : Int32)), (.int (p0 &&& (65535 : Int32)))]))
                  by_cases hc70_9 : (65519 : Int32) < (p0 &&& (65535 : Int32))
                  · rewrite [if_pos hc70_9]
                    refine Go.of (fun t k => XS.icmpYes X0.here hx rfl (pc0 := 70) (pc' := 77) rfl (hb hby d3_70) rfl (tlt hc70_9).2.2.1 (by decide) (by decide) k) ?_
                    show Go p e below s _ _ _ (s₁.setTop (mkF m 77 #[.val (.int p0), .val (.int ((p0.toUInt32 >>> ((16 : Int32) &&& 31).toUInt32).toInt32)), .val (.int (p0 &&& (65535 : Int32)))] []))
                    refine Go.of (fun t k => XS.iconst X0.here hx rfl (hb hby d3_77) k) ?_
                    show Go p e below s _ _ _ (s₁.setTop (mkF m 78 #[.val (.int p0), .val (.int ((p0.toUInt32 >>> ((16 : Int32) &&& 31).toUInt32).toInt32)), .val (.int (p0 &&& (65535 : Int32)))] [(.int (0 : Int32))]))
                    exact Go.ret X0 (some (.int (0 : Int32))) (fun h => by rw [Bd.returns] at h; cases h) hlk ⟨rfl, N0, e0⟩ (by decide) (by decide) (fun fs hr => (retN X0 hx (t := .boolean) Bd.returns (by simp) (hb hby d3_78) hr))
                  · rewrite [if_neg hc70_9]
                    refine Go.of (fun t k => XS.icmpNo X0.here hx rfl (hb hby d3_70) rfl (flt hc70_9).2.2.1 k) ?_
                    show Go p e below s _ _ _ (s₁.setTop (mkF m 73 #[.val (.int p0), .val (.int ((p0.toUInt32 >>> ((16 : Int32) &&& 31).toUInt32).toInt32)), .val (.int (p0 &&& (65535 : Int32)))] []))
                    refine Go.of (fun t k => XS.iconst X0.here hx rfl (hb hby d3_73) k) ?_
                    show Go p e below s _ _ _ (s₁.setTop (mkF m 74 #[.val (.int p0), .val (.int ((p0.toUInt32 >>> ((16 : Int32) &&& 31).toUInt32).toInt32)), .val (.int (p0 &&& (65535 : Int32)))] [(.int (1 : Int32))]))
                    refine Go.of (fun t k => XS.goto X0.here hx rfl (pc0 := 74) (pc' := 78) rfl (hb hby d3_74) (by decide) (by decide) k) ?_
                    show Go p e below s _ _ _ (s₁.setTop (mkF m 78 #[.val (.int p0), .val (.int ((p0.toUInt32 >>> ((16 : Int32) &&& 31).toUInt32).toInt32)), .val (.int (p0 &&& (65535 : Int32)))] [(.int (1 : Int32))]))
                    exact Go.ret X0 (some (.int (1 : Int32))) (fun h => by rw [Bd.returns] at h; cases h) hlk ⟨rfl, N0, e0⟩ (by decide) (by decide) (fun fs hr => (retN X0 hx (t := .boolean) Bd.returns (by simp) (hb hby d3_78) hr))
              · rewrite [if_neg hc54_7]
                refine Go.of (fun t k => XS.icmpNo X0.here hx rfl (hb hby d3_54) rfl (flt hc54_7).2.2.1 k) ?_
                show Go p e below s _ _ _ (s₁.setTop (mkF m 57 #[.val (.int p0), .val (.int ((p0.toUInt32 >>> ((16 : Int32) &&& 31).toUInt32).toInt32)), .val (.int (p0 &&& (65535 : Int32)))] []))
                refine Go.of (fun t k => XS.iconst X0.here hx rfl (hb hby d3_57) k) ?_
                show Go p e below s _ _ _ (s₁.setTop (mkF m 58 #[.val (.int p0), .val (.int ((p0.toUInt32 >>> ((16 : Int32) &&& 31).toUInt32).toInt32)), .val (.int (p0 &&& (65535 : Int32)))] [(.int (1 : Int32))]))
                exact Go.ret X0 (some (.int (1 : Int32))) (fun h => by rw [Bd.returns] at h; cases h) hlk ⟨rfl, N0, e0⟩ (by decide) (by decide) (fun fs hr => (retN X0 hx (t := .boolean) Bd.returns (by simp) (hb hby d3_58) hr))
          · rewrite [if_neg hc38_5]
            refine Go.of (fun t k => XS.icmpNo X0.here hx rfl (hb hby d3_38) rfl (flt hc38_5).2.2.1 k) ?_
            show Go p e below s _ _ _ (s₁.setTop (mkF m 41 #[.val (.int p0), .val (.int ((p0.toUInt32 >>> ((16 : Int32) &&& 31).toUInt32).toInt32)), .val (.int (p0 &&& (65535 : Int32)))] []))
            refine Go.of (fun t k => XS.iconst X0.here hx rfl (hb hby d3_41) k) ?_
            show Go p e below s _ _ _ (s₁.setTop (mkF m 42 #[.val (.int p0), .val (.int ((p0.toUInt32 >>> ((16 : Int32) &&& 31).toUInt32).toInt32)), .val (.int (p0 &&& (65535 : Int32)))] [(.int (1 : Int32))]))
            exact Go.ret X0 (some (.int (1 : Int32))) (fun h => by rw [Bd.returns] at h; cases h) hlk ⟨rfl, N0, e0⟩ (by decide) (by decide) (fun fs hr => (retN X0 hx (t := .boolean) Bd.returns (by simp) (hb hby d3_42) hr))
      · rewrite [if_neg hc23_3]
        refine Go.of (fun t k => XS.ifYes X0.here hx rfl (pc0 := 23) (pc' := 79) rfl (hb hby d3_23) rfl ((if0 _ _).trans (feq hc23_3).2) (by decide) (by decide) k) ?_
        show Go p e below s _ _ _ (s₁.setTop (mkF m 79 #[.val (.int p0), .val (.int ((p0.toUInt32 >>> ((16 : Int32) &&& 31).toUInt32).toInt32)), .val (.int (p0 &&& (65535 : Int32)))] []))
        refine Go.of (fun t k => XS.iloadN X0.here hx rfl (hb hby d3_79) rfl k) ?_
        show Go p e below s _ _ _ (s₁.setTop (mkF m 80 #[.val (.int p0), .val (.int ((p0.toUInt32 >>> ((16 : Int32) &&& 31).toUInt32).toInt32)), .val (.int (p0 &&& (65535 : Int32)))] [(.int ((p0.toUInt32 >>> ((16 : Int32) &&& 31).toUInt32).toInt32))]))
        refine Go.of (fun t k => XS.bipush X0.here hx rfl (hb hby d3_80) k) ?_
        show Go p e below s _ _ _ (s₁.setTop (mkF m 82 #[.val (.int p0), .val (.int ((p0.toUInt32 >>> ((16 : Int32) &&& 31).toUInt32).toInt32)), .val (.int (p0 &&& (65535 : Int32)))] [(.int (13 : Int32)), (.int ((p0.toUInt32 >>> ((16 : Int32) &&& 31).toUInt32).toInt32))]))
        by_cases hc82_10 : (13 : Int32) < ((p0.toUInt32 >>> ((16 : Int32) &&& 31).toUInt32).toInt32)
        · rewrite [if_pos hc82_10]
          refine Go.of (fun t k => XS.icmpYes X0.here hx rfl (pc0 := 82) (pc' := 97) rfl (hb hby d3_82) rfl (tlt hc82_10).2.2.1 (by decide) (by decide) k) ?_
          show Go p e below s _ _ _ (s₁.setTop (mkF m 97 #[.val (.int p0), .val (.int ((p0.toUInt32 >>> ((16 : Int32) &&& 31).toUInt32).toInt32)), .val (.int (p0 &&& (65535 : Int32)))] []))
          refine Go.of (fun t k => XS.iloadN X0.here hx rfl (hb hby d3_97) rfl k) ?_
          show Go p e below s _ _ _ (s₁.setTop (mkF m 98 #[.val (.int p0), .val (.int ((p0.toUInt32 >>> ((16 : Int32) &&& 31).toUInt32).toInt32)), .val (.int (p0 &&& (65535 : Int32)))] [(.int ((p0.toUInt32 >>> ((16 : Int32) &&& 31).toUInt32).toInt32))]))
          refine Go.of (fun t k => XS.bipush X0.here hx rfl (hb hby d3_98) k) ?_
          show Go p e below s _ _ _ (s₁.setTop (mkF m 100 #[.val (.int p0), .val (.int ((p0.toUInt32 >>> ((16 : Int32) &&& 31).toUInt32).toInt32)), .val (.int (p0 &&& (65535 : Int32)))] [(.int (14 : Int32)), (.int ((p0.toUInt32 >>> ((16 : Int32) &&& 31).toUInt32).toInt32))]))
          by_cases hc100_11 : ((p0.toUInt32 >>> ((16 : Int32) &&& 31).toUInt32).toInt32) = (14 : Int32)
          · rewrite [if_pos hc100_11]
            refine Go.of (fun t k => XS.icmpNo X0.here hx rfl (hb hby d3_100) rfl (teq hc100_11).2 k) ?_
            show Go p e below s _ _ _ (s₁.setTop (mkF m 103 #[.val (.int p0), .val (.int ((p0.toUInt32 >>> ((16 : Int32) &&& 31).toUInt32).toInt32)), .val (.int (p0 &&& (65535 : Int32)))] []))
            refine Go.of (fun t k => XS.iloadN X0.here hx rfl (hb hby d3_103) rfl k) ?_
            show Go p e below s _ _ _ (s₁.setTop (mkF m 104 #[.val (.int p0), .val (.int ((p0.toUInt32 >>> ((16 : Int32) &&& 31).toUInt32).toInt32)), .val (.int (p0 &&& (65535 : Int32)))] [(.int (p0 &&& (65535 : Int32)))]))
            refine Go.of (fun t k => XS.sipush X0.here hx rfl (hb hby d3_104) k) ?_
            show Go p e below s _ _ _ (s₁.setTop (mkF m 107 #[.val (.int p0), .val (.int ((p0.toUInt32 >>> ((16 : Int32) &&& 31).toUInt32).toInt32)), .val (.int (p0 &&& (65535 : Int32)))] [(.int (4096 : Int32)), (.int (p0 &&& (65535 : Int32)))]))
            by_cases hc107_12 : (p0 &&& (65535 : Int32)) < (4096 : Int32)
            · rewrite [if_pos hc107_12]
              refine Go.of (fun t k => XS.icmpYes X0.here hx rfl (pc0 := 107) (pc' := 120) rfl (hb hby d3_107) rfl (tlt hc107_12).1 (by decide) (by decide) k) ?_
              show Go p e below s _ _ _ (s₁.setTop (mkF m 120 #[.val (.int p0), .val (.int ((p0.toUInt32 >>> ((16 : Int32) &&& 31).toUInt32).toInt32)), .val (.int (p0 &&& (65535 : Int32)))] []))
              refine Go.of (fun t k => XS.iconst X0.here hx rfl (hb hby d3_120) k) ?_
              show Go p e below s _ _ _ (s₁.setTop (mkF m 121 #[.val (.int p0), .val (.int ((p0.toUInt32 >>> ((16 : Int32) &&& 31).toUInt32).toInt32)), .val (.int (p0 &&& (65535 : Int32)))] [(.int (0 : Int32))]))
              exact Go.ret X0 (some (.int (0 : Int32))) (fun h => by rw [Bd.returns] at h; cases h) hlk ⟨rfl, N0, e0⟩ (by decide) (by decide) (fun fs hr => (retN X0 hx (t := .boolean) Bd.returns (by simp) (hb hby d3_121) hr))
            · rewrite [if_neg hc107_12]
              refine Go.of (fun t k => XS.icmpNo X0.here hx rfl (hb hby d3_107) rfl (flt hc107_12).1 k) ?_
              show Go p e below s _ _ _ (s₁.setTop (mkF m 110 #[.val (.int p0), .val (.int ((p0.toUInt32 >>> ((16 : Int32) &&& 31).toUInt32).toInt32)), .val (.int (p0 &&& (65535 : Int32)))] []))
              refine Go.of (fun t k => XS.iloadN X0.here hx rfl (hb hby d3_110) rfl k) ?_
              show Go p e below s _ _ _ (s₁.setTop (mkF m 111 #[.val (.int p0), .val (.int ((p0.toUInt32 >>> ((16 : Int32) &&& 31).toUInt32).toInt32)), .val (.int (p0 &&& (65535 : Int32)))] [(.int (p0 &&& (65535 : Int32)))]))
              refine Go.of (X0.ldcInt hx hown (mvT hZ (hw _ (List.mem_of_getElem? (i := 24) rfl))) (g := (mkF m 111 #[.val (.int p0), .val (.int ((p0.toUInt32 >>> ((16 : Int32) &&& 31).toUInt32).toInt32)), .val (.int (p0 &&& (65535 : Int32)))] [(.int (p0 &&& (65535 : Int32)))])) rfl (hb hby d3_111)) ?_
              show Go p e below s _ _ _ (s₁.setTop (mkF m 113 #[.val (.int p0), .val (.int ((p0.toUInt32 >>> ((16 : Int32) &&& 31).toUInt32).toInt32)), .val (.int (p0 &&& (65535 : Int32)))] [(.int (65533 : Int32)), (.int (p0 &&& (65535 : Int32)))]))
              by_cases hc113_13 : (65533 : Int32) < (p0 &&& (65535 : Int32))
              · rewrite [if_pos hc113_13]
                refine Go.of (fun t k => XS.icmpYes X0.here hx rfl (pc0 := 113) (pc' := 120) rfl (hb hby d3_113) rfl (tlt hc113_13).2.2.1 (by decide) (by decide) k) ?_
                show Go p e below s _ _ _ (s₁.setTop (mkF m 120 #[.val (.int p0), .val (.int ((p0.toUInt32 >>> ((16 : Int32) &&& 31).toUInt32).toInt32)), .val (.int (p0 &&& (65535 : Int32)))] []))
                refine Go.of (fun t k => XS.iconst X0.here hx rfl (hb hby d3_120) k) ?_
                show Go p e below s _ _ _ (s₁.setTop (mkF m 121 #[.val (.int p0), .val (.int ((p0.toUInt32 >>> ((16 : Int32) &&& 31).toUInt32).toInt32)), .val (.int (p0 &&& (65535 : Int32)))] [(.int (0 : Int32))]))
                exact Go.ret X0 (some (.int (0 : Int32))) (fun h => by rw [Bd.returns] at h; cases h) hlk ⟨rfl, N0, e0⟩ (by decide) (by decide) (fun fs hr => (retN X0 hx (t := .boolean) Bd.returns (by simp) (hb hby d3_121) hr))
              · rewrite [if_neg hc113_13]
                refine Go.of (fun t k => XS.icmpNo X0.here hx rfl (hb hby d3_113) rfl (flt hc113_13).2.2.1 k) ?_
                show Go p e below s _ _ _ (s₁.setTop (mkF m 116 #[.val (.int p0), .val (.int ((p0.toUInt32 >>> ((16 : Int32) &&& 31).toUInt32).toInt32)), .val (.int (p0 &&& (65535 : Int32)))] []))
                refine Go.of (fun t k => XS.iconst X0.here hx rfl (hb hby d3_116) k) ?_
                show Go p e below s _ _ _ (s₁.setTop (mkF m 117 #[.val (.int p0), .val (.int ((p0.toUInt32 >>> ((16 : Int32) &&& 31).toUInt32).toInt32)), .val (.int (p0 &&& (65535 : Int32)))] [(.int (1 : Int32))]))
                refine Go.of (fun t k => XS.goto X0.here hx rfl (pc0 := 117) (pc' := 121) rfl (hb hby d3_117) (by decide) (by decide) k) ?_
                show Go p e below s _ _ _ (s₁.setTop (mkF m 121 #[.val (.int p0), .val (.int ((p0.toUInt32 >>> ((16 : Int32) &&& 31).toUInt32).toInt32)), .val (.int (p0 &&& (65535 : Int32)))] [(.int (1 : Int32))]))
                exact Go.ret X0 (some (.int (1 : Int32))) (fun h => by rw [Bd.returns] at h; cases h) hlk ⟨rfl, N0, e0⟩ (by decide) (by decide) (fun fs hr => (retN X0 hx (t := .boolean) Bd.returns (by simp) (hb hby d3_121) hr))
          · rewrite [if_neg hc100_11]
            refine Go.of (fun t k => XS.icmpYes X0.here hx rfl (pc0 := 100) (pc' := 122) rfl (hb hby d3_100) rfl (feq hc100_11).2 (by decide) (by decide) k) ?_
            show Go p e below s _ _ _ (s₁.setTop (mkF m 122 #[.val (.int p0), .val (.int ((p0.toUInt32 >>> ((16 : Int32) &&& 31).toUInt32).toInt32)), .val (.int (p0 &&& (65535 : Int32)))] []))
            refine Go.of (fun t k => XS.iconst X0.here hx rfl (hb hby d3_122) k) ?_
            show Go p e below s _ _ _ (s₁.setTop (mkF m 123 #[.val (.int p0), .val (.int ((p0.toUInt32 >>> ((16 : Int32) &&& 31).toUInt32).toInt32)), .val (.int (p0 &&& (65535 : Int32)))] [(.int (0 : Int32))]))
            exact Go.ret X0 (some (.int (0 : Int32))) (fun h => by rw [Bd.returns] at h; cases h) hlk ⟨rfl, N0, e0⟩ (by decide) (by decide) (fun fs hr => (retN X0 hx (t := .boolean) Bd.returns (by simp) (hb hby d3_123) hr))
        · rewrite [if_neg hc82_10]
          refine Go.of (fun t k => XS.icmpNo X0.here hx rfl (hb hby d3_82) rfl (flt hc82_10).2.2.1 k) ?_
          show Go p e below s _ _ _ (s₁.setTop (mkF m 85 #[.val (.int p0), .val (.int ((p0.toUInt32 >>> ((16 : Int32) &&& 31).toUInt32).toInt32)), .val (.int (p0 &&& (65535 : Int32)))] []))
          refine Go.of (fun t k => XS.iloadN X0.here hx rfl (hb hby d3_85) rfl k) ?_
          show Go p e below s _ _ _ (s₁.setTop (mkF m 86 #[.val (.int p0), .val (.int ((p0.toUInt32 >>> ((16 : Int32) &&& 31).toUInt32).toInt32)), .val (.int (p0 &&& (65535 : Int32)))] [(.int (p0 &&& (65535 : Int32)))]))
          refine Go.of (X0.ldcInt hx hown (mvT hZ (hw _ (List.mem_of_getElem? (i := 24) rfl))) (g := (mkF m 86 #[.val (.int p0), .val (.int ((p0.toUInt32 >>> ((16 : Int32) &&& 31).toUInt32).toInt32)), .val (.int (p0 &&& (65535 : Int32)))] [(.int (p0 &&& (65535 : Int32)))])) rfl (hb hby d3_86)) ?_
          show Go p e below s _ _ _ (s₁.setTop (mkF m 88 #[.val (.int p0), .val (.int ((p0.toUInt32 >>> ((16 : Int32) &&& 31).toUInt32).toInt32)), .val (.int (p0 &&& (65535 : Int32)))] [(.int (65533 : Int32)), (.int (p0 &&& (65535 : Int32)))]))
          by_cases hc88_14 : (65533 : Int32) < (p0 &&& (65535 : Int32))
          · rewrite [if_pos hc88_14]
            refine Go.of (fun t k => XS.icmpYes X0.here hx rfl (pc0 := 88) (pc' := 95) rfl (hb hby d3_88) rfl (tlt hc88_14).2.2.1 (by decide) (by decide) k) ?_
            show Go p e below s _ _ _ (s₁.setTop (mkF m 95 #[.val (.int p0), .val (.int ((p0.toUInt32 >>> ((16 : Int32) &&& 31).toUInt32).toInt32)), .val (.int (p0 &&& (65535 : Int32)))] []))
            refine Go.of (fun t k => XS.iconst X0.here hx rfl (hb hby d3_95) k) ?_
            show Go p e below s _ _ _ (s₁.setTop (mkF m 96 #[.val (.int p0), .val (.int ((p0.toUInt32 >>> ((16 : Int32) &&& 31).toUInt32).toInt32)), .val (.int (p0 &&& (65535 : Int32)))] [(.int (0 : Int32))]))
            exact Go.ret X0 (some (.int (0 : Int32))) (fun h => by rw [Bd.returns] at h; cases h) hlk ⟨rfl, N0, e0⟩ (by decide) (by decide) (fun fs hr => (retN X0 hx (t := .boolean) Bd.returns (by simp) (hb hby d3_96) hr))
          · rewrite [if_neg hc88_14]
            refine Go.of (fun t k => XS.icmpNo X0.here hx rfl (hb hby d3_88) rfl (flt hc88_14).2.2.1 k) ?_
            show Go p e below s _ _ _ (s₁.setTop (mkF m 91 #[.val (.int p0), .val (.int ((p0.toUInt32 >>> ((16 : Int32) &&& 31).toUInt32).toInt32)), .val (.int (p0 &&& (65535 : Int32)))] []))
            refine Go.of (fun t k => XS.iconst X0.here hx rfl (hb hby d3_91) k) ?_
            show Go p e below s _ _ _ (s₁.setTop (mkF m 92 #[.val (.int p0), .val (.int ((p0.toUInt32 >>> ((16 : Int32) &&& 31).toUInt32).toInt32)), .val (.int (p0 &&& (65535 : Int32)))] [(.int (1 : Int32))]))
            refine Go.of (fun t k => XS.goto X0.here hx rfl (pc0 := 92) (pc' := 96) rfl (hb hby d3_92) (by decide) (by decide) k) ?_
            show Go p e below s _ _ _ (s₁.setTop (mkF m 96 #[.val (.int p0), .val (.int ((p0.toUInt32 >>> ((16 : Int32) &&& 31).toUInt32).toInt32)), .val (.int (p0 &&& (65535 : Int32)))] [(.int (1 : Int32))]))
            exact Go.ret X0 (some (.int (1 : Int32))) (fun h => by rw [Bd.returns] at h; cases h) hlk ⟨rfl, N0, e0⟩ (by decide) (by decide) (fun fs hr => (retN X0 hx (t := .boolean) Bd.returns (by simp) (hb hby d3_96) hr))
theorem own_pd1 : parseMethodDescriptor "(I)Z" = some ⟨[.int], some .boolean⟩ := by decide +kernel
theorem ef_0 (m : MethodId) (p0 : Int32) (p1 : Int32) (p2 : Int32) (p3 : Int32) : entryFrame m #[(.int p0), (.int p1), (.int p2), (.int p3)] maxLocals = mkF m 0 #[.val (.int p0), .val (.int p1), .val (.int p2), .val (.int p3), .unset] [] := by first | (simp [entryFrame, mkF, argsToLocals, Value.category, maxLocals]; done) | rfl
def F0_26 (v4_26 : Int32) : Int32 := (if (F1 v4_26) = (F3 v4_26) then (1 : Int32) else (0 : Int32))
def F0 (p0 : Int32) (p1 : Int32) (p2 : Int32) (p3 : Int32) : Int32 := (if (p3 &&& (1 : Int32)) = (0 : Int32) then (F0_26 (((p1 &&& (31 : Int32)) <<< ((16 : Int32) &&& 31)) ||| (p2 &&& (65535 : Int32)))) else (F0_26 p0))
set_option maxRecDepth 65536 in
set_option maxHeartbeats 40000000 in
theorem rm0 (l : Launch) (Z : State) (az : Array Value) (hw : ∀ d ∈ tables_1, d.before az Z = true) (ws : List Jvm.Cond) (p0 : Int32) (p1 : Int32) (p2 : Int32) (p3 : Int32)  (h0 : Heap) (n0 : Nat) (Z0 : n0 ≤ h0.size) :
    MetFree l x (head1 (Jvm.Cond.code x code maxLocals ret :: ws) room_1) (fun a U => a = #[(.int p0), (.int p1), (.int p2), (.int p3)] ∧ Z.Warmed39 U.vm ∧ U.heap = h0) (fun _ _ _ _ _ => True) (fun _ U o U' => ∃ v L, o = .returned v ∧ (QL (some (.int (F0 p0 p1 p2 p3))) n0) v U'.heap L ∧ FrameEnd U o U' L room_1.cells room_1.slots) := by
  refine MetFree.of_bodySF (plainFor_of_name own_pn1) hisR ?_
  intro p e s m args below meth c s₁ Bd hml0 hP hK
  obtain ⟨rfl, hZ, hh⟩ := hP
  have hx := Bd.exec
  have hby := Bd.bytes
  have hml : c.maxLocals = 5 := hml0
  have hown : s.vm.findClass "com/example/canonym/canonym/iri/CharClassesIsUcscharPinLaw" = some m.cls := findClass_of_methodNamed Bd.named
  have hnm := (name_of_methodNamed Bd.named Bd.method).1
  have hlk : meth.locks = false := BodyLoose.notSynchronized Bd
  have X0 : Stand p l e room_1 s m #[(.int p0), (.int p1), (.int p2), (.int p3)] below meth c s₁ [] 0 0 := Stand.of_body Bd
  have e0 : s₁.heap = h0 := by rw [← hh, Bd.state]; rfl
  have N0 := Fr.nil n0
  show Go p e below s (QL (some (.int (F0 p0 p1 p2 p3))) n0) room_1.cells room_1.slots (s₁.setTop (entryFrame m #[(.int p0), (.int p1), (.int p2), (.int p3)] maxLocals))
  refine Go.of (fun t k => castTop (ef_0 m p0 p1 p2 p3) k) ?_
  show Go p e below s _ _ _ (s₁.setTop (mkF m 0 #[.val (.int p0), .val (.int p1), .val (.int p2), .val (.int p3), .unset] []))
  unfold F0
  refine Go.of (fun t k => XS.iloadN X0.here hx rfl (hb hby at_0) rfl k) ?_
  show Go p e below s _ _ _ (s₁.setTop (mkF m 1 #[.val (.int p0), .val (.int p1), .val (.int p2), .val (.int p3), .unset] [(.int p3)]))
  refine Go.of (fun t k => XS.iconst X0.here hx rfl (hb hby at_1) k) ?_
  show Go p e below s _ _ _ (s₁.setTop (mkF m 2 #[.val (.int p0), .val (.int p1), .val (.int p2), .val (.int p3), .unset] [(.int (1 : Int32)), (.int p3)]))
  refine Go.of (fun t k => XS.iand X0.here hx rfl (hb hby at_2) rfl k) ?_
  show Go p e below s _ _ _ (s₁.setTop (mkF m 3 #[.val (.int p0), .val (.int p1), .val (.int p2), .val (.int p3), .unset] [(.int (p3 &&& (1 : Int32)))]))
  have jn26 : ∀ (v4_26 : Int32) (T_26 : State) (l_26 : List Loc) (X_26 : Stand p l e room_1 s m #[(.int p0), (.int p1), (.int p2), (.int p3)] below meth c T_26 l_26 0 0) (e_26 : T_26.heap = h0) (N_26 : Fr n0 l_26), Go p e below s (QL (some (.int (F0_26 v4_26))) n0) room_1.cells room_1.slots (T_26.setTop (mkF m 26 #[.val (.int p0), .val (.int p1), .val (.int p2), .val (.int p3), .val (.int v4_26)] [])) := by
    intro v4_26 T_26 l_26 X_26 e_26 N_26
    unfold F0_26
    refine Go.of (fun t k => XS.iload X_26.here hx rfl (hb hby at_26) rfl k) ?_
    show Go p e below s _ _ _ (T_26.setTop (mkF m 28 #[.val (.int p0), .val (.int p1), .val (.int p2), .val (.int p3), .val (.int v4_26)] [(.int v4_26)]))
    obtain ⟨_, _, ⟨T1, L1, k1, n1⟩, -, X1, ⟨Lc1, hQ1, l1, y1, z1⟩, st1⟩ := Jvm.LawKit.callS X_26 hx (y := (⟨"com/example/canonym/canonym/iri/CharClasses", "isUcschar", "(I)Z"⟩ : MethodName)) hown (mvT hZ (hw _ (List.mem_of_getElem? (i := 0) rfl))) (mvT hZ (hw _ (List.mem_of_getElem? (i := 1) rfl))) (mvT hZ (hw _ (List.mem_of_getElem? (i := 2) rfl))) (mvT hZ (hw _ (List.mem_of_getElem? (i := 3) rfl))) (by decide) (backOf (W := 0) (rm1 l Z az hw [] v4_26 h0 n0 Z0) hZ (hw _ (List.mem_of_getElem? (i := 3) rfl)) (hw _ (List.mem_of_getElem? (i := 2) rfl)) (by decide) (by decide)) (g := (mkF m 28 #[.val (.int p0), .val (.int p1), .val (.int p2), .val (.int p3), .val (.int v4_26)] [(.int v4_26)])) rfl (by rw [hml]; rfl) (argsL := [(.int v4_26)]) (rest := []) (lenOf own_pd1 rfl) rfl (by show 2 * 0 + _ ≤ _; exact Nat.le_of_eq rfl) (hb hby at_28) (fun _ _ => ⟨rfl, e_26, (by decide : 0 + 0 ≤ _), (by decide : 0 + 0 ≤ _)⟩)
    dsimp only [Pt.U, Pt.locs, Pt.cells, Pt.slots] at X1 l1 y1 z1 st1 hQ1
    subst l1 y1 z1
    obtain ⟨rfl, N1q, e1⟩ := hQ1
    have N1 := Fr.app N_26 N1q
    refine Go.of st1 ?_
    show Go p e below s _ _ _ (T1.setTop (mkF m 31 #[.val (.int p0), .val (.int p1), .val (.int p2), .val (.int p3), .val (.int v4_26)] [(.int (F1 v4_26))]))
    refine Go.of (fun t k => XS.iload X1.here hx rfl (hb hby at_31) rfl k) ?_
    show Go p e below s _ _ _ (T1.setTop (mkF m 33 #[.val (.int p0), .val (.int p1), .val (.int p2), .val (.int p3), .val (.int v4_26)] [(.int v4_26), (.int (F1 v4_26))]))
    obtain ⟨_, _, ⟨T2, L2, k2, n2⟩, -, X2, ⟨Lc2, hQ2, l2, y2, z2⟩, st2⟩ := Jvm.LawKit.callS X1 hx (y := (⟨"com/example/canonym/canonym/iri/CharClassesIsUcscharPinLaw", "expected", "(I)Z"⟩ : MethodName)) hown (mvT hZ (hw _ (List.mem_of_getElem? (i := 16) rfl))) (mvT hZ (hw _ (List.mem_of_getElem? (i := 17) rfl))) (mvT hZ (hw _ (List.mem_of_getElem? (i := 18) rfl))) (mvT hZ (hw _ (List.mem_of_getElem? (i := 19) rfl))) (by decide) (backOf (W := 1) (rm3 l Z az hw [] v4_26 h0 n0 Z0) hZ (hw _ (List.mem_of_getElem? (i := 19) rfl)) (hw _ (List.mem_of_getElem? (i := 18) rfl)) (by decide) (by decide)) (g := (mkF m 33 #[.val (.int p0), .val (.int p1), .val (.int p2), .val (.int p3), .val (.int v4_26)] [(.int v4_26), (.int (F1 v4_26))])) rfl (by rw [hml]; rfl) (argsL := [(.int v4_26)]) (rest := [(.int (F1 v4_26))]) (lenOf own_pd1 rfl) rfl (by show 2 * 0 + _ ≤ _; exact Nat.le_of_eq rfl) (hb hby at_33) (fun _ _ => ⟨rfl, e1, (by decide : 0 + 0 ≤ _), (by decide : 0 + 0 ≤ _)⟩)
    dsimp only [Pt.U, Pt.locs, Pt.cells, Pt.slots] at X2 l2 y2 z2 st2 hQ2
    subst l2 y2 z2
    obtain ⟨rfl, N2q, e2⟩ := hQ2
    have N2 := Fr.app N1 N2q
    refine Go.of st2 ?_
    show Go p e below s _ _ _ (T2.setTop (mkF m 36 #[.val (.int p0), .val (.int p1), .val (.int p2), .val (.int p3), .val (.int v4_26)] [(.int (F3 v4_26)), (.int (F1 v4_26))]))
    by_cases hc36_3 : (F1 v4_26) = (F3 v4_26)
    · rewrite [if_pos hc36_3]
      refine Go.of (fun t k => XS.icmpNo X2.here hx rfl (hb hby at_36) rfl (teq hc36_3).2 k) ?_
      show Go p e below s _ _ _ (T2.setTop (mkF m 39 #[.val (.int p0), .val (.int p1), .val (.int p2), .val (.int p3), .val (.int v4_26)] []))
      refine Go.of (fun t k => XS.iconst X2.here hx rfl (hb hby at_39) k) ?_
      show Go p e below s _ _ _ (T2.setTop (mkF m 40 #[.val (.int p0), .val (.int p1), .val (.int p2), .val (.int p3), .val (.int v4_26)] [(.int (1 : Int32))]))
      refine Go.of (fun t k => XS.goto X2.here hx rfl (pc0 := 40) (pc' := 44) rfl (hb hby at_40) (by decide) (by decide) k) ?_
      show Go p e below s _ _ _ (T2.setTop (mkF m 44 #[.val (.int p0), .val (.int p1), .val (.int p2), .val (.int p3), .val (.int v4_26)] [(.int (1 : Int32))]))
      exact Go.ret X2 (some (.int (1 : Int32))) (fun h => by rw [Bd.returns] at h; cases h) hlk ⟨rfl, N2⟩ (by decide) (by decide) (fun fs hr => (retN X2 hx (t := .boolean) Bd.returns (by simp) (hb hby at_44) hr))
    · rewrite [if_neg hc36_3]
      refine Go.of (fun t k => XS.icmpYes X2.here hx rfl (pc0 := 36) (pc' := 43) rfl (hb hby at_36) rfl (feq hc36_3).2 (by decide) (by decide) k) ?_
      show Go p e below s _ _ _ (T2.setTop (mkF m 43 #[.val (.int p0), .val (.int p1), .val (.int p2), .val (.int p3), .val (.int v4_26)] []))
      refine Go.of (fun t k => XS.iconst X2.here hx rfl (hb hby at_43) k) ?_
      show Go p e below s _ _ _ (T2.setTop (mkF m 44 #[.val (.int p0), .val (.int p1), .val (.int p2), .val (.int p3), .val (.int v4_26)] [(.int (0 : Int32))]))
      exact Go.ret X2 (some (.int (0 : Int32))) (fun h => by rw [Bd.returns] at h; cases h) hlk ⟨rfl, N2⟩ (by decide) (by decide) (fun fs hr => (retN X2 hx (t := .boolean) Bd.returns (by simp) (hb hby at_44) hr))
  by_cases hc3_4 : (p3 &&& (1 : Int32)) = (0 : Int32)
  · rewrite [if_pos hc3_4]
    refine Go.of (fun t k => XS.ifYes X0.here hx rfl (pc0 := 3) (pc' := 12) rfl (hb hby at_3) rfl ((if0 _ _).trans (teq hc3_4).1) (by decide) (by decide) k) ?_
    show Go p e below s _ _ _ (s₁.setTop (mkF m 12 #[.val (.int p0), .val (.int p1), .val (.int p2), .val (.int p3), .unset] []))
    refine Go.of (fun t k => XS.iloadN X0.here hx rfl (hb hby at_12) rfl k) ?_
    show Go p e below s _ _ _ (s₁.setTop (mkF m 13 #[.val (.int p0), .val (.int p1), .val (.int p2), .val (.int p3), .unset] [(.int p1)]))
    refine Go.of (fun t k => XS.bipush X0.here hx rfl (hb hby at_13) k) ?_
    show Go p e below s _ _ _ (s₁.setTop (mkF m 15 #[.val (.int p0), .val (.int p1), .val (.int p2), .val (.int p3), .unset] [(.int (31 : Int32)), (.int p1)]))
    refine Go.of (fun t k => XS.iand X0.here hx rfl (hb hby at_15) rfl k) ?_
    show Go p e below s _ _ _ (s₁.setTop (mkF m 16 #[.val (.int p0), .val (.int p1), .val (.int p2), .val (.int p3), .unset] [(.int (p1 &&& (31 : Int32)))]))
    refine Go.of (fun t k => XS.bipush X0.here hx rfl (hb hby at_16) k) ?_
    show Go p e below s _ _ _ (s₁.setTop (mkF m 18 #[.val (.int p0), .val (.int p1), .val (.int p2), .val (.int p3), .unset] [(.int (16 : Int32)), (.int (p1 &&& (31 : Int32)))]))
    refine Go.of (fun t k => XS.ishl X0.here hx rfl (hb hby at_18) rfl k) ?_
    show Go p e below s _ _ _ (s₁.setTop (mkF m 19 #[.val (.int p0), .val (.int p1), .val (.int p2), .val (.int p3), .unset] [(.int ((p1 &&& (31 : Int32)) <<< ((16 : Int32) &&& 31)))]))
    refine Go.of (fun t k => XS.iloadN X0.here hx rfl (hb hby at_19) rfl k) ?_
    show Go p e below s _ _ _ (s₁.setTop (mkF m 20 #[.val (.int p0), .val (.int p1), .val (.int p2), .val (.int p3), .unset] [(.int p2), (.int ((p1 &&& (31 : Int32)) <<< ((16 : Int32) &&& 31)))]))
    refine Go.of (X0.ldcInt hx hown (mvT hZ (hw _ (List.mem_of_getElem? (i := 21) rfl))) (g := (mkF m 20 #[.val (.int p0), .val (.int p1), .val (.int p2), .val (.int p3), .unset] [(.int p2), (.int ((p1 &&& (31 : Int32)) <<< ((16 : Int32) &&& 31)))])) rfl (hb hby at_20)) ?_
    show Go p e below s _ _ _ (s₁.setTop (mkF m 22 #[.val (.int p0), .val (.int p1), .val (.int p2), .val (.int p3), .unset] [(.int (65535 : Int32)), (.int p2), (.int ((p1 &&& (31 : Int32)) <<< ((16 : Int32) &&& 31)))]))
    refine Go.of (fun t k => XS.iand X0.here hx rfl (hb hby at_22) rfl k) ?_
    show Go p e below s _ _ _ (s₁.setTop (mkF m 23 #[.val (.int p0), .val (.int p1), .val (.int p2), .val (.int p3), .unset] [(.int (p2 &&& (65535 : Int32))), (.int ((p1 &&& (31 : Int32)) <<< ((16 : Int32) &&& 31)))]))
    refine Go.of (fun t k => XS.ior X0.here hx rfl (hb hby at_23) rfl k) ?_
    show Go p e below s _ _ _ (s₁.setTop (mkF m 24 #[.val (.int p0), .val (.int p1), .val (.int p2), .val (.int p3), .unset] [(.int (((p1 &&& (31 : Int32)) <<< ((16 : Int32) &&& 31)) ||| (p2 &&& (65535 : Int32))))]))
    refine Go.of (fun t k => XS.istore X0.here hx rfl (hb hby at_24) rfl (l' := #[.val (.int p0), .val (.int p1), .val (.int p2), .val (.int p3), .val (.int (((p1 &&& (31 : Int32)) <<< ((16 : Int32) &&& 31)) ||| (p2 &&& (65535 : Int32))))]) rfl k) ?_
    show Go p e below s _ _ _ (s₁.setTop (mkF m 26 #[.val (.int p0), .val (.int p1), .val (.int p2), .val (.int p3), .val (.int (((p1 &&& (31 : Int32)) <<< ((16 : Int32) &&& 31)) ||| (p2 &&& (65535 : Int32))))] []))
    exact jn26 (((p1 &&& (31 : Int32)) <<< ((16 : Int32) &&& 31)) ||| (p2 &&& (65535 : Int32)))  s₁ _ X0 e0 N0  
  · rewrite [if_neg hc3_4]
    refine Go.of (fun t k => XS.ifNo X0.here hx rfl (hb hby at_3) rfl ((if0 _ _).trans (feq hc3_4).1) k) ?_
    show Go p e below s _ _ _ (s₁.setTop (mkF m 6 #[.val (.int p0), .val (.int p1), .val (.int p2), .val (.int p3), .unset] []))
    refine Go.of (fun t k => XS.iloadN X0.here hx rfl (hb hby at_6) rfl k) ?_
    show Go p e below s _ _ _ (s₁.setTop (mkF m 7 #[.val (.int p0), .val (.int p1), .val (.int p2), .val (.int p3), .unset] [(.int p0)]))
    refine Go.of (fun t k => XS.istore X0.here hx rfl (hb hby at_7) rfl (l' := #[.val (.int p0), .val (.int p1), .val (.int p2), .val (.int p3), .val (.int p0)]) rfl k) ?_
    show Go p e below s _ _ _ (s₁.setTop (mkF m 9 #[.val (.int p0), .val (.int p1), .val (.int p2), .val (.int p3), .val (.int p0)] []))
    refine Go.of (fun t k => XS.goto X0.here hx rfl (pc0 := 9) (pc' := 26) rfl (hb hby at_9) (by decide) (by decide) k) ?_
    show Go p e below s _ _ _ (s₁.setTop (mkF m 26 #[.val (.int p0), .val (.int p1), .val (.int p2), .val (.int p3), .val (.int p0)] []))
    exact jn26 p0  s₁ _ X0 e0 N0  
theorem own_F2 (x a b : Int32) : F2 x a b = 0 ↔ (x.toInt < a.toInt ∨ b.toInt < x.toInt) := by
  unfold F2
  simp only [Int32.lt_iff_toInt_lt]
  by_cases h1 : x.toInt < a.toInt
  · simp [h1]
  · by_cases h2 : b.toInt < x.toInt <;> simp [h1, h2]
set_option maxHeartbeats 8000000 in
theorem own_26 (v : Int32) : F1 v = F3 v := by
  have l := c_mask v 65535 16 (by decide) (by decide)
  have u := c_iushr v 16 16 (by decide) (by decide)
  have r := rng32 v
  have e0 : (0 : Int32).toInt = 0 := by decide
  have e13 : (13 : Int32).toInt = 13 := by decide
  have e14 : (14 : Int32).toInt = 14 := by decide
  have e160 : (160 : Int32).toInt = 160 := by decide
  have e4096 : (4096 : Int32).toInt = 4096 := by decide
  have e55295 : (55295 : Int32).toInt = 55295 := by decide
  have e63744 : (63744 : Int32).toInt = 63744 := by decide
  have e64975 : (64975 : Int32).toInt = 64975 := by decide
  have e65008 : (65008 : Int32).toInt = 65008 := by decide
  have e65519 : (65519 : Int32).toInt = 65519 := by decide
  have e65533 : (65533 : Int32).toInt = 65533 := by decide
  have e65536 : (65536 : Int32).toInt = 65536 := by decide
  have e917501 : (917501 : Int32).toInt = 917501 := by decide
  have e921600 : (921600 : Int32).toInt = 921600 := by decide
  have e983037 : (983037 : Int32).toInt = 983037 := by decide
  have e1114111 : (1114111 : Int32).toInt = 1114111 := by decide
  have o10 : ¬ ((1 : Int32) = 0) := by decide
  unfold F3
  have k0 : (v.toUInt32 >>> ((16 : Int32) &&& 31).toUInt32).toInt32 = 0 ↔ ((v.toUInt32 >>> ((16 : Int32) &&& 31).toUInt32).toInt32).toInt = 0 := by rw [← Int32.toInt_inj, e0]
  have k14 : (v.toUInt32 >>> ((16 : Int32) &&& 31).toUInt32).toInt32 = 14 ↔ ((v.toUInt32 >>> ((16 : Int32) &&& 31).toUInt32).toInt32).toInt = 14 := by rw [← Int32.toInt_inj, e14]
  simp only [k0, k14, Int32.lt_iff_toInt_lt, e0, e13, e14, e160, e4096, e55295, e63744, e64975, e65008, e65519, e65533, e65536, e917501, e921600, e983037, e1114111]
  clear k0 k14
  repeat' split
  all_goals
    simp only [F1, F1_34, F1_39, F1_62, F1_75, F1_76, own_F2, o10, Int32.lt_iff_toInt_lt, if_true, if_false, e0, e13, e14, e160, e4096, e55295, e63744, e64975, e65008, e65519, e65533, e65536, e917501, e921600, e983037, e1114111]
    simp (disch := omega) only [if_pos, if_neg, ite_self]
theorem own_law (a b c d : Int32) : F0 a b c d = 1 := by
  unfold F0 F0_26
  split <;> rw [if_pos (own_26 _)]
set_option maxRecDepth 65536 in
set_option maxHeartbeats 40000000 in
theorem comes_1 {Post : Tables → Env → Array Value → State → Outcome → State → Prop} (hpost : ∀ tb e args s v u, (limb_1_1.after args s (.returned v) u = true ∧ limb_1_2.after args s (.returned v) u = true ∧ True) → FrameEnd s (.returned v) u (Jvm.fieldLocs frame_1_writes args s ++ Jvm.arrayLocs frame_1_arrays args s ++ Jvm.staticLocs frame_1_statics s) 0 0 → Post tb e args s (.returned v) u) :
    ArmFor flags0 classFile x code maxLocals ret World_1 tables_1 room_1 Calls_1 rest_1 Pre_1 Post := by
  intro l hfl _ _ p e ha hc hk s m args below hf hA hF happ hP
  obtain ⟨hcalls, hrest, hpre⟩ := hP
  obtain ⟨-, -, -, hnamed, -, -, -, hat⟩ := (Spec.applies_iff hf).mp happ
  obtain ⟨hg, hn⟩ := and_e (Cond.before_iff.mp (show (Jvm.Cond.and given_1 narrow_1).before args s = true from hpre))
  obtain ⟨g0, g1⟩ := and_e hg
  obtain ⟨a0, g2⟩ := and_e g1
  obtain ⟨a1, g3⟩ := and_e g2
  obtain ⟨a2, g4⟩ := and_e g3
  have a3 := g4
  obtain ⟨w0, w1, w2, w3, rfl⟩ : ∃ w0 w1 w2 w3 : Value, args = #[w0, w1, w2, w3] := by
    have hs : args.size = 4 := by simpa [Cond.value, given_1] using g0
    obtain ⟨L⟩ := args
    match L, hs with
    | [w0, w1, w2, w3], _ => exact ⟨w0, w1, w2, w3, rfl⟩
  have hw := fun d (hd : d ∈ tables_1) => atoms_spec (ws := Jvm.Cond.code x code maxLocals ret :: tables_1) hat d (List.mem_cons_of_mem _ hd)
  obtain ⟨i0, ei0⟩ := is_v a0
  obtain rfl : w0 = (.int i0) := Option.some.inj ei0
  obtain ⟨i1, ei1⟩ := is_v a1
  obtain rfl : w1 = (.int i1) := Option.some.inj ei1
  obtain ⟨i2, ei2⟩ := is_v a2
  obtain rfl : w2 = (.int i2) := Option.some.inj ei2
  obtain ⟨i3, ei3⟩ := is_v a3
  obtain rfl : w3 = (.int i3) := Option.some.inj ei3
  obtain ⟨n, o, h1, h2, h3, _, L, rfl, ⟨rfl, N⟩, hq⟩ := rm0 l s _ hw tables_1 i0 i1 i2 i3 s.heap s.heap.size (Nat.le_refl _) p e ha hc hk s m _ below hf ((Spec.applies_iff_loose hf).mp happ).1 ⟨rfl, State.Warmed39.refl s, rfl⟩ trivial
  have hone : (F0 i0 i1 i2 i3) = 1 := own_law i0 i1 i2 i3
  refine ⟨n, _, h1, h2, h3, hpost _ _ _ _ _ _ ⟨Cond.after_iff.mpr rfl, Cond.after_iff.mpr (eq_i res_at (Term.int_eval (1)) (by rw [hone])), trivial⟩ ⟨hq.1, hq.2.1, (hq.2.2.sift fun y hy => Or.inr (N y hy)).mono (by decide) (by decide)⟩⟩
theorem main_1_1 : Claimed_1_1 := comes_1 fun _ _ _ _ _ _ h hF => ⟨h.1, hF⟩
theorem main_1_2 : Claimed_1_2 := comes_1 fun _ _ _ _ _ _ h hF => ⟨h.2.1, hF⟩
end Jvm.Pilot.@@N@@
namespace Jvm.Pilot.@@N@@
open Jvm Jvm.ClassFile Sem Op Lib Jvm.Free Jvm.Stand Jvm.Pilot.@@N@@.Jvm.D
/-! MADE BY PROGRAM (witnessworld.py) out of the Statement's table words and the real class files: 9 classes; the members and pool entries that the words name. The judged class is class 1, her method 1. -/
namespace start1
open Jvm.ClassFile
def u (s : String) : CpInfo := .utf8 (stringToUtf16 s)
/-- a pool by its gaps: so many unusable entries, then the entry; so many at the end -/
def gap : Nat → List CpInfo → List CpInfo
  | 0, r => r
  | n + 1, r => .unusable :: gap n r
def poolList (es : List (Nat × CpInfo)) (last : Nat) : List CpInfo := es.foldr (fun e r => gap e.1 (e.2 :: r)) (gap last [])
def pool (es : List (Nat × CpInfo)) (last : Nat) : Array CpInfo := ⟨poolList es last⟩
def fileOf (pool : Array CpInfo) (this : Nat) (attrs : Array Attribute := #[]) (ms : Array MethodInfo := #[]) (fl : Nat := 33) (sup : Nat := 0) (ifs : Array Nat := #[]) (fds : Array FieldInfo := #[]) : ClassFile where
  minorVersion := 0
  majorVersion := 65
  constantPool := pool
  accessFlags := fl
  thisClass := this
  superClass := sup
  interfaces := ifs
  fields := fds
  methods := ms
  attributes := attrs
def plain (name : String) (sup : Option ClassId) : Class where
  name := name
  kind := .ordinary
  loader := none
  accessFlags := 33
  super := sup
  interfaces := #[]
  cf := none
  fields := #[]
  methods := #[]
  instanceTypes := #[]
  staticTypes := #[]
  resolved := #[]
  callSites := []
  init := .initialized
  statics := none
  mirror := none

def pool0 : Array CpInfo := pool [(5, u "<init>"), (0, u "()V"), (1, .class_ 10), (1, u "java/lang/Object")] 113

def k0m0 : Method := { name := "<init>", desc := "()V", sig := { parameters := [], returnType := none }, accessFlags := 1, code := none }
/-- java/lang/Object -/
def k0 : Class := { plain "java/lang/Object" none with
  accessFlags := 33
  interfaces := #[]
  cf := some (fileOf pool0 8 #[] #[{ accessFlags := 1, nameIndex := 5, descriptorIndex := 6, attributes := #[] }] 33 0 #[] #[])
  fields := #[]
  methods := #[k0m0]
  instanceTypes := #[]
  staticTypes := #[]
  resolved := Array.replicate 124 none
  statics := none }

def pool1 : Array CpInfo := pool [(2, .class_ 4), (1, u "java/lang/Object"), (0, u "<init>"), (0, u "()V"), (0, .integer 65535), (0, .methodref 9 10), (0, .class_ 11), (0, .nameAndType 12 13), (0, u "com/example/canonym/canonym/iri/CharClasses"), (0, u "isUcschar"), (0, u "(I)Z"), (0, .methodref 15 16), (0, .class_ 17), (0, .nameAndType 18 13), (0, u "com/example/canonym/canonym/iri/CharClassesIsUcscharPinLaw"), (0, u "expected"), (0, .integer 1114111), (0, .integer 55295), (0, .integer 63744), (0, .integer 64975), (0, .integer 65008), (0, .integer 65519), (0, .integer 65533), (2, u "law"), (0, u "(IIII)Z")] 3

def k1m0 : Method := { name := "<init>", desc := "()V", sig := { parameters := [], returnType := none }, accessFlags := 1, code := none }
def k1c1 : Code := { maxStack := 3, maxLocals := 5, code := code, exceptionTable := #[], attributes := #[] }
def k1m1 : Method := { name := "law", desc := "(IIII)Z", sig := { parameters := [.int, .int, .int, .int], returnType := some .boolean }, accessFlags := 9, code := some k1c1 }
def k1c2 : Code := { maxStack := 2, maxLocals := 3, code := method_3_code, exceptionTable := #[], attributes := #[] }
def k1m2 : Method := { name := "expected", desc := "(I)Z", sig := { parameters := [.int], returnType := some .boolean }, accessFlags := 10, code := some k1c2 }
/-- com/example/canonym/canonym/iri/CharClassesIsUcscharPinLaw -/
def k1 : Class := { plain "com/example/canonym/canonym/iri/CharClassesIsUcscharPinLaw" (some 0) with
  accessFlags := 49
  interfaces := #[]
  cf := some (fileOf pool1 15 #[] #[{ accessFlags := 1, nameIndex := 5, descriptorIndex := 6, attributes := #[] }, { accessFlags := 9, nameIndex := 28, descriptorIndex := 29, attributes := #[] }, { accessFlags := 10, nameIndex := 18, descriptorIndex := 13, attributes := #[] }] 49 2 #[] #[])
  fields := #[]
  methods := #[k1m0, k1m1, k1m2]
  instanceTypes := #[]
  staticTypes := #[]
  resolved := Array.replicate 33 none
  statics := none }

def pool2 : Array CpInfo := pool [(2, .class_ 4), (1, u "java/lang/Object"), (0, u "<init>"), (0, u "()V"), (0, .class_ 8), (0, u "com/example/canonym/canonym/iri/CharClasses"), (4, .integer 55295), (0, .methodref 7 15), (0, .nameAndType 16 17), (0, u "inRange"), (0, u "(III)Z"), (0, .integer 63744), (0, .integer 64975), (0, .integer 65008), (0, .integer 65519), (0, .integer 65536), (0, .integer 917501), (0, .integer 921600), (0, .integer 983037), (0, .integer 65535), (0, .integer 65533), (3, u "(I)Z"), (2, u "isUcschar"), (34, u "ASCII"), (0, u "[B"), (26, u "ALPHA"), (0, u "I"), (2, u "DIGIT"), (1, u "HEXDIG"), (1, u "UNRESERVED"), (1, u "GEN_DELIM"), (1, u "SUB_DELIM"), (1, u "LEIRI_UCSCHAR"), (1, u "ALPHA_CHARS"), (0, u "Ljava/lang/String;"), (0, u "DIGIT_CHARS")] 17

def k2m0 : Method := { name := "<init>", desc := "()V", sig := { parameters := [], returnType := none }, accessFlags := 2, code := none }
def k2c1 : Code := { maxStack := 3, maxLocals := 3, code := prog_8_method_9_code, exceptionTable := #[], attributes := #[] }
def k2m1 : Method := { name := "isUcschar", desc := "(I)Z", sig := { parameters := [.int], returnType := some .boolean }, accessFlags := 9, code := some k2c1 }
def k2c2 : Code := { maxStack := 2, maxLocals := 3, code := prog_8_method_18_code, exceptionTable := #[], attributes := #[] }
def k2m2 : Method := { name := "inRange", desc := "(III)Z", sig := { parameters := [.int, .int, .int], returnType := some .boolean }, accessFlags := 10, code := some k2c2 }
/-- com/example/canonym/canonym/iri/CharClasses -/
def k2 : Class := { plain "com/example/canonym/canonym/iri/CharClasses" (some 0) with
  accessFlags := 49
  interfaces := #[]
  cf := some (fileOf pool2 7 #[] #[{ accessFlags := 2, nameIndex := 5, descriptorIndex := 6, attributes := #[] }, { accessFlags := 9, nameIndex := 34, descriptorIndex := 31, attributes := #[] }, { accessFlags := 10, nameIndex := 16, descriptorIndex := 17, attributes := #[] }] 49 2 #[] #[{ accessFlags := 26, nameIndex := 97, descriptorIndex := 98, attributes := #[] }, { accessFlags := 26, nameIndex := 101, descriptorIndex := 98, attributes := #[] }, { accessFlags := 26, nameIndex := 103, descriptorIndex := 98, attributes := #[] }, { accessFlags := 26, nameIndex := 105, descriptorIndex := 98, attributes := #[] }, { accessFlags := 26, nameIndex := 107, descriptorIndex := 98, attributes := #[] }, { accessFlags := 26, nameIndex := 109, descriptorIndex := 98, attributes := #[] }, { accessFlags := 26, nameIndex := 111, descriptorIndex := 98, attributes := #[] }, { accessFlags := 26, nameIndex := 113, descriptorIndex := 114, attributes := #[] }, { accessFlags := 26, nameIndex := 115, descriptorIndex := 114, attributes := #[] }, { accessFlags := 26, nameIndex := 69, descriptorIndex := 70, attributes := #[] }])
  fields := #[{ name := "ALPHA", type := .int, accessFlags := 26, slot := 0, constantValue := 0 }, { name := "DIGIT", type := .int, accessFlags := 26, slot := 1, constantValue := 0 }, { name := "HEXDIG", type := .int, accessFlags := 26, slot := 2, constantValue := 0 }, { name := "UNRESERVED", type := .int, accessFlags := 26, slot := 3, constantValue := 0 }, { name := "GEN_DELIM", type := .int, accessFlags := 26, slot := 4, constantValue := 0 }, { name := "SUB_DELIM", type := .int, accessFlags := 26, slot := 5, constantValue := 0 }, { name := "LEIRI_UCSCHAR", type := .int, accessFlags := 26, slot := 6, constantValue := 0 }, { name := "ALPHA_CHARS", type := (.object "java/lang/String"), accessFlags := 26, slot := 7, constantValue := 0 }, { name := "DIGIT_CHARS", type := (.object "java/lang/String"), accessFlags := 26, slot := 8, constantValue := 0 }, { name := "ASCII", type := (.array .byte), accessFlags := 26, slot := 9, constantValue := 0 }]
  methods := #[k2m0, k2m1, k2m2]
  instanceTypes := #[]
  staticTypes := #[.int, .int, .int, .int, .int, .int, .int, (.object "java/lang/String"), (.object "java/lang/String"), (.array .byte)]
  resolved := Array.replicate 133 none
  statics := none }

def pool3 : Array CpInfo := pool [(1, u "java/lang/Cloneable"), (0, .class_ 1), (0, u "java/lang/Object"), (0, .class_ 3)] 3

/-- java/lang/Cloneable -/
def k3 : Class := { plain "java/lang/Cloneable" (some 0) with
  accessFlags := 1537
  interfaces := #[]
  cf := some (fileOf pool3 2 #[] #[] 1537 4 #[] #[])
  fields := #[]
  methods := #[]
  instanceTypes := #[]
  staticTypes := #[]
  resolved := Array.replicate 8 none
  statics := none }

def pool4 : Array CpInfo := pool [(1, u "java/io/Serializable"), (0, .class_ 1), (0, u "java/lang/Object"), (0, .class_ 3)] 3

/-- java/io/Serializable -/
def k4 : Class := { plain "java/io/Serializable" (some 0) with
  accessFlags := 1537
  interfaces := #[]
  cf := some (fileOf pool4 2 #[] #[] 1537 4 #[] #[])
  fields := #[]
  methods := #[]
  instanceTypes := #[]
  staticTypes := #[]
  resolved := Array.replicate 8 none
  statics := none }

/-- the primitive byte -/
def k5 : Class := { plain "byte" none with kind := .primitive 'B', accessFlags := 0x411 }
/-- [B -/
def k6 : Class := { plain "[B" (some 0) with kind := .array 5 .byte, interfaces := #[3, 4], accessFlags := 1041 }

/-- the primitive int -/
def k7 : Class := { plain "int" none with kind := .primitive 'I', accessFlags := 0x411 }
/-- [I -/
def k8 : Class := { plain "[I" (some 0) with kind := .array 7 .int, interfaces := #[3, 4], accessFlags := 1041 }

def heap : Heap := #[]
def classes : Array Class := #[k0, k1, k2, k3, k4, k5, k6, k7, k8]
def interned : List (Array UInt16 × Addr) := []
def slotsUsed : Nat := 0
def theMethod : MethodId := ⟨1, 1⟩
def args0 : Array Value := #[.int 5, .int 6, .int 7, .int 8]
def aboutOver (below : List Frame) : State where
  vm := { classes := classes, interned := interned.toArray }
  heap := heap
  slotsUsed := slotsUsed
  threads := #[{ frames := .invoking theMethod args0 :: below }]
def below0 : List Frame := [.native { method := ⟨0, 0⟩, args := #[] }]
def about1 : State := aboutOver below0
def p0 : Program := .bare "" "" ""
def e0 : Env := launch0.env 0 0 0
theorem w_frames : about1.frames = Frame.invoking theMethod args0 :: below0 := rfl
set_option maxRecDepth 65536 in
theorem w_args : argsFit about1.vm theMethod args0 = true := by decide +kernel
set_option maxRecDepth 65536 in
theorem w_heap : heapFits about1 = true := by decide +kernel
set_option maxRecDepth 65536 in
theorem w_runnable : about1.curStatus? = some .runnable := by decide +kernel
set_option maxRecDepth 65536 in
theorem w_alone : about1.alone = true := by decide +kernel
set_option maxRecDepth 65536 in
theorem w_named : about1.methodNamed? x = some theMethod := by decide +kernel
set_option maxRecDepth 65536 in
theorem w_hears : about1.hears theMethod below0 = true := by decide +kernel
set_option maxRecDepth 65536 in
theorem w_ripe : about1.ripe theMethod args0 below0 = true := by decide +kernel
theorem w_running : about1.status = .running := rfl
set_option maxRecDepth 65536 in
theorem w_room : about1.hasRoom e0.platform room_1 = true :=
  launch0.hasRoom_least _ room_1 (by decide +kernel) (by decide +kernel) (by decide +kernel) (by decide +kernel) (by decide +kernel) (by decide +kernel)
theorem allAtoms_all (ts : List Jvm.Cond) (a : Array Jvm.Value) (st : Jvm.State) : (allAtoms ts).before a st = ts.all (fun c => c.before a st) := by
  induction ts with
  | nil => rfl
  | cons c t ih =>
    show (Jvm.Cond.and c (allAtoms t)).before a st = _
    rw [Jvm.Cond.before_and, ih, List.all_cons]
def words1 : List Jvm.Cond := Jvm.Cond.code x code maxLocals ret :: tables_1
/-- a 'code' word, met by the world's own term for the bytes: nothing is compared byte by byte -/
theorem code_word {y : MethodName} {bytes : ByteArray} {mx : Nat} {rt : Option FieldType} {a : Array Value} {s : State} {m : MethodId} {meth : Method} {c : Code} (h1 : s.methodNamed? y = some m) (h2 : s.vm.method? m = some meth) (h3 : meth.code = some c) (h4 : c.code = bytes)
    (h5 : (c.maxLocals == mx && c.exceptionTable.isEmpty && decide (c.maxStack ≤ mostOperands) && decide (meth.sig.returnType = rt) && !meth.locks && decide (parseMethodDescriptor y.desc = some meth.sig)) = true) : (Jvm.Cond.code y bytes mx rt).before a s = true := by
  simp only [Bool.and_eq_true, beq_iff_eq, Bool.not_eq_true', decide_eq_true_eq] at h5
  obtain ⟨⟨⟨⟨⟨g1, g2⟩, g3⟩, g4⟩, g5⟩, g6⟩ := h5
  simp [Cond.before, Cond.holds, Cond.value, h1, h2, h3, h4, g1, g2, g3, g4, g5, g6]
def isCode : Jvm.Cond → Bool
  | .code _ _ _ _ => true
  | _ => false
theorem all_split {L : List Jvm.Cond} {P : Jvm.Cond → Bool} (h1 : L.all (fun c => isCode c || P c) = true) (h2 : ∀ c ∈ L.filter isCode, P c = true) : L.all P = true := by
  refine List.all_eq_true.mpr fun c hc => ?_
  have h := List.all_eq_true.mp h1 c hc
  rcases Bool.eq_false_or_eq_true (isCode c) with hi | hi
  · exact h2 c (List.mem_filter.mpr ⟨hc, hi⟩)
  · simpa [hi] using h
set_option maxRecDepth 65536 in
theorem w_c0 : (Jvm.Cond.code x code maxLocals ret).before args0 about1 = true := code_word (m := ⟨1, 1⟩) (meth := k1m1) (c := k1c1) (by decide +kernel) rfl rfl rfl (by decide +kernel)
set_option maxRecDepth 65536 in
theorem w_c1 : (Jvm.Cond.code ({ cls := "com/example/canonym/canonym/iri/CharClasses", name := "isUcschar", desc := "(I)Z" } : Jvm.MethodName) prog_8_method_9_code (3 : Nat) (Option.some Jvm.ClassFile.FieldType.boolean)).before args0 about1 = true := code_word (m := ⟨2, 1⟩) (meth := k2m1) (c := k2c1) (by decide +kernel) rfl rfl rfl (by decide +kernel)
set_option maxRecDepth 65536 in
theorem w_c2 : (Jvm.Cond.code ({ cls := "com/example/canonym/canonym/iri/CharClasses", name := "inRange", desc := "(III)Z" } : Jvm.MethodName) prog_8_method_18_code (3 : Nat) (Option.some Jvm.ClassFile.FieldType.boolean)).before args0 about1 = true := code_word (m := ⟨2, 2⟩) (meth := k2m2) (c := k2c2) (by decide +kernel) rfl rfl rfl (by decide +kernel)
set_option maxRecDepth 65536 in
theorem w_c3 : (Jvm.Cond.code ({ cls := "com/example/canonym/canonym/iri/CharClassesIsUcscharPinLaw", name := "expected", desc := "(I)Z" } : Jvm.MethodName) method_3_code (3 : Nat) (Option.some Jvm.ClassFile.FieldType.boolean)).before args0 about1 = true := code_word (m := ⟨1, 2⟩) (meth := k1m2) (c := k1c2) (by decide +kernel) rfl rfl rfl (by decide +kernel)
def codes1 : List Jvm.Cond := [Jvm.Cond.code x code maxLocals ret, Jvm.Cond.code ({ cls := "com/example/canonym/canonym/iri/CharClasses", name := "isUcschar", desc := "(I)Z" } : Jvm.MethodName) prog_8_method_9_code (3 : Nat) (Option.some Jvm.ClassFile.FieldType.boolean), Jvm.Cond.code ({ cls := "com/example/canonym/canonym/iri/CharClasses", name := "inRange", desc := "(III)Z" } : Jvm.MethodName) prog_8_method_18_code (3 : Nat) (Option.some Jvm.ClassFile.FieldType.boolean), Jvm.Cond.code ({ cls := "com/example/canonym/canonym/iri/CharClassesIsUcscharPinLaw", name := "expected", desc := "(I)Z" } : Jvm.MethodName) method_3_code (3 : Nat) (Option.some Jvm.ClassFile.FieldType.boolean)]
set_option maxRecDepth 65536 in
theorem codes_eq : words1.filter isCode = codes1 := rfl
theorem w_codes : ∀ c ∈ words1.filter isCode, c.before args0 about1 = true := by
  rw [codes_eq]
  intro c hc
  simp only [codes1, List.mem_cons, List.not_mem_nil, or_false] at hc
  rcases hc with rfl | rfl | rfl | rfl
  · exact w_c0
  · exact w_c1
  · exact w_c2
  · exact w_c3
set_option maxRecDepth 65536 in
theorem w_t1 : (words1.take 24).all (fun c => isCode c || c.before args0 about1) = true := by decide +kernel
set_option maxRecDepth 65536 in
theorem w_t2 : (words1.drop 24).all (fun c => isCode c || c.before args0 about1) = true := by decide +kernel
theorem w_tables : (allAtoms (Jvm.Cond.code x code maxLocals ret :: tables_1)).before args0 about1 = true := by
  rw [allAtoms_all]
  show words1.all (fun c => c.before args0 about1) = true
  refine all_split ?_ w_codes
  rw [← List.take_append_drop 24 words1, List.all_append, w_t1, w_t2]
  rfl
set_option maxRecDepth 65536 in
theorem w_case : (Jvm.Cond.and given_1 narrow_1).before args0 about1 = true := by decide +kernel
theorem w_applies : (headSpec (Jvm.Cond.code x code maxLocals ret :: tables_1) room_1).applies x e0.platform about1 = true :=
  (Spec.applies_iff w_frames).mpr ⟨w_running, w_runnable, w_alone, w_named, w_hears, w_ripe, w_room, w_tables⟩
theorem atStart : AtStart classFile x code maxLocals ret World_1 tables_1 room_1 Calls_1 rest_1 Pre_1 launch0 p0 e0 about1 theMethod args0 below0 :=
  ⟨lists_1, trivial, launch0.admits_env _ _ _, launch0.least_env, fairChoices_fair.cas, fairChoices_fair.clock, w_frames, w_args, w_heap, w_applies, trivial, trivial, w_case⟩
end start1
theorem witness_1 : WitnessClaimed_1 := ⟨start1.p0, start1.e0, start1.about1, start1.theMethod, start1.args0, start1.below0, start1.atStart⟩
end Jvm.Pilot.@@N@@
