import JvmDerived
import JvmDerived.Pilot.@@N@@Statement
import JvmDerived.Pilot.@@N@@Code
set_option linter.unusedVariables false
set_option linter.unusedSimpArgs false
namespace Jvm.RoadKit
open Sem ClassFile Op Lib Jvm.Stand Jvm.Free Jvm.LawKit
section New
variable {p : Program} {l : Launch} {e : Env} {R : Room} {s : State} {m : MethodId} {args : Array Value} {below : List Frame} {meth : Method} {c : Code} {T : State} {locs : List Loc} {cells slots : Nat}
theorem retI (X : Stand p l e R s m args below meth c T locs cells slots) (hx : p.tables.exec = Jvm.exec) {pc : Nat} {Ls : Array Slot} {z : Int32} {rest : List Value} (hret : meth.sig.returnType = some .int) (hd : decode c.code pc = .ok (.ireturn, 1)) {fs : List Frame}
    (hl : ∀ (f : JFrame) (acts : List Action), f.method = m → f.locked = none → f.entered = [] → (doReturn e (T.setTop f) acts (some (.int z))).1 = T.setFrames fs) : Steps p.tables e below (T.setTop (mkF m pc Ls (.int z :: rest))) (T.setFrames fs) := by
  have hm' : T.vm.method? m = some meth := X.method'
  have hn : narrow .int (.int z) = .int z := rfl
  show Steps p.tables e below (T.setTop { method := m, pc := pc, locals := Ls, stack := _ :: rest, locked := none }) _
  jvm_step X.here [X.here.top, hx, hd, hm', hret, hn]
  first | (intro acts; rw [hl _ acts rfl rfl rfl]) | rw [hl _ _ rfl rfl rfl]
  exact Steps.refl _
/-- the run from G on comes to an end that Q speaks of -/
def Go (p : Program) (e : Env) (below : List Frame) (s : State) (Q : Option Value → Heap → List Loc → Prop) (ck sk : Nat) (G : State) : Prop :=
  ∃ s₂ o, Steps p.tables e below G s₂ ∧ s₂.status = .running ∧ Ended s₂ below o ∧ ∃ v L, o = .returned v ∧ Q v s₂.heap L ∧ FrameEnd s o s₂ L ck sk
theorem Go.of {Q : Option Value → Heap → List Loc → Prop} {ck sk : Nat} {G G' : State} (h : ∀ t, Steps p.tables e below G' t → Steps p.tables e below G t) (k : Go p e below s Q ck sk G') : Go p e below s Q ck sk G := by
  obtain ⟨s₂, o, h1, r⟩ := k
  exact ⟨s₂, o, h _ h1, r⟩
theorem Go.ret (X : Stand p l e R s m args below meth c T locs cells slots) {Q : Option Value → Heap → List Loc → Prop} {ck sk : Nat} {G : State} (v : Option Value) (hv : meth.sig.returnType = none → v = none) (hlk : meth.locks = false) (hq : Q v T.heap locs) (hc : cells ≤ ck) (hs : slots ≤ sk)
    (st : ∀ fs, (∀ (f : JFrame) (acts : List Action), f.method = m → f.locked = none → f.entered = [] → (doReturn e (T.setTop f) acts v).1 = T.setFrames fs) → Steps p.tables e below G (T.setFrames fs)) : Go p e below s Q ck sk G := by
  obtain ⟨fs, hr, hrun, hended, hW, hsame⟩ := X.leave hv hlk
  exact ⟨_, _, st fs hr, hrun, hended, v, locs, rfl, hq, ⟨_, rfl⟩, hW, hsame.mono hc hs⟩
/-- what it returns, that it wrote nothing old, and that the heap is as it was -/
def QP (val : Option Value) (h0 : Heap) (n0 : Nat) (v : Option Value) (h : Heap) (L : List Loc) : Prop := v = val ∧ Fr n0 L ∧ h = h0
/-- what it returns, and that it wrote nothing old -/
def QL (val : Option Value) (n0 : Nat) (v : Option Value) (h : Heap) (L : List Loc) : Prop := v = val ∧ Fr n0 L
theorem lremM {g : JFrame} {target : State} (X : Stand p l e R s m args below meth c T locs cells slots) (hx : p.tables.exec = Jvm.exec) (hg : g.method = m) {x y : Int64} {rest : List Value} (hd : decode c.code g.pc = .ok (.lrem, 1)) (hs : g.stack = .long y :: .long x :: rest) (hy : y ≠ 0)
    (hr : Steps p.tables e below (T.setTop { g with pc := g.pc + 1, stack := .long (x % y) :: rest }) target) : Steps p.tables e below (T.setTop g) target := by
  have q : x - x / y * y = x % y := lrem_mod x y
  exact XS.lrem X.here hx hg hd hs hy (by rw [q]; exact hr)
end New
end Jvm.RoadKit
namespace Jvm.Pilot.@@N@@
open Jvm Jvm.ClassFile Sem Op Lib Jvm.Free Jvm.Stand Jvm.LawKit Jvm.RoadKit Bundle Jvm.Pilot.@@N@@.Jvm.D
theorem own_pn0 : plainName "com/example/canonym/canonym/iri/CharClasses" = true := by first | (simp [plainName, overriddenIn]; done) | decide +kernel
theorem d2_0 : decode prog_8_method_18_code 0 = .ok (.iload_n 0, 1) := by decide +kernel
theorem d2_1 : decode prog_8_method_18_code 1 = .ok (.iload_n 1, 1) := by decide +kernel
theorem d2_2 : decode prog_8_method_18_code 2 = .ok (.if_icmp .lt 12, 3) := by decide +kernel
theorem d2_5 : decode prog_8_method_18_code 5 = .ok (.iload_n 0, 1) := by decide +kernel
theorem d2_6 : decode prog_8_method_18_code 6 = .ok (.iload_n 2, 1) := by decide +kernel
theorem d2_7 : decode prog_8_method_18_code 7 = .ok (.if_icmp .gt 7, 3) := by decide +kernel
theorem d2_10 : decode prog_8_method_18_code 10 = .ok (.iconst 1, 1) := by decide +kernel
theorem d2_11 : decode prog_8_method_18_code 11 = .ok (.goto 4, 3) := by decide +kernel
theorem d2_14 : decode prog_8_method_18_code 14 = .ok (.iconst 0, 1) := by decide +kernel
theorem d2_15 : decode prog_8_method_18_code 15 = .ok (.ireturn, 1) := by decide +kernel
theorem ef_2 (m : MethodId) (p0 : Int32) (p1 : Int32) (p2 : Int32) : entryFrame m #[(.int p0), (.int p1), (.int p2)] 3 = mkF m 0 #[.val (.int p0), .val (.int p1), .val (.int p2)] [] := by first | (simp [entryFrame, mkF, argsToLocals, Value.category]; done) | rfl
def F2 (p0 : Int32) (p1 : Int32) (p2 : Int32) : Int32 := (if p0 < p1 then (0 : Int32) else (if p2 < p0 then (0 : Int32) else (1 : Int32)))
set_option maxRecDepth 65536 in
set_option maxHeartbeats 40000000 in
theorem rm2 (l : Launch) (Z : State) (az : Array Value) (hw : ∀ d ∈ tables_1, d.before az Z = true) (ws : List Jvm.Cond) (p0 : Int32) (p1 : Int32) (p2 : Int32)  (h0 : Heap) (n0 : Nat) (Z0 : n0 ≤ h0.size) :
    MetFree l (⟨"com/example/canonym/canonym/iri/CharClasses", "inRange", "(III)Z"⟩ : MethodName) (head1 (Jvm.Cond.code (⟨"com/example/canonym/canonym/iri/CharClasses", "inRange", "(III)Z"⟩ : MethodName) prog_8_method_18_code 3 (some .boolean) :: ws) ({ frames := 0, cells := 0, slots := 0, locals := 0 } : Room)) (fun a U => a = #[(.int p0), (.int p1), (.int p2)] ∧ Z.Warmed39 U.vm ∧ U.heap = h0) (fun _ _ _ _ _ => True) (fun _ U o U' => ∃ v L, o = .returned v ∧ (QP (some (.int (F2 p0 p1 p2))) h0 n0) v U'.heap L ∧ FrameEnd U o U' L ({ frames := 0, cells := 0, slots := 0, locals := 0 } : Room).cells ({ frames := 0, cells := 0, slots := 0, locals := 0 } : Room).slots) := by
  refine MetFree.of_bodySF (plainFor_of_name own_pn0) hisR ?_
  intro p e s m args below meth c s₁ Bd hml0 hP hK
  obtain ⟨rfl, hZ, hh⟩ := hP
  have hx := Bd.exec
  have hby := Bd.bytes
  have hml : c.maxLocals = 3 := hml0
  have hown : s.vm.findClass "com/example/canonym/canonym/iri/CharClasses" = some m.cls := findClass_of_methodNamed Bd.named
  have hnm := (name_of_methodNamed Bd.named Bd.method).1
  have hlk : meth.locks = false := BodyLoose.notSynchronized Bd
  have X0 : Stand p l e ({ frames := 0, cells := 0, slots := 0, locals := 0 } : Room) s m #[(.int p0), (.int p1), (.int p2)] below meth c s₁ [] 0 0 := Stand.of_body Bd
  have e0 : s₁.heap = h0 := by rw [← hh, Bd.state]; rfl
  have N0 := Fr.nil n0
  show Go p e below s (QP (some (.int (F2 p0 p1 p2))) h0 n0) ({ frames := 0, cells := 0, slots := 0, locals := 0 } : Room).cells ({ frames := 0, cells := 0, slots := 0, locals := 0 } : Room).slots (s₁.setTop (entryFrame m #[(.int p0), (.int p1), (.int p2)] 3))
  refine Go.of (fun t k => castTop (ef_2 m p0 p1 p2) k) ?_
  show Go p e below s _ _ _ (s₁.setTop (mkF m 0 #[.val (.int p0), .val (.int p1), .val (.int p2)] []))
  unfold F2
  refine Go.of (fun t k => XS.iloadN X0.here hx rfl (hb hby d2_0) rfl k) ?_
  show Go p e below s _ _ _ (s₁.setTop (mkF m 1 #[.val (.int p0), .val (.int p1), .val (.int p2)] [(.int p0)]))
  refine Go.of (fun t k => XS.iloadN X0.here hx rfl (hb hby d2_1) rfl k) ?_
  show Go p e below s _ _ _ (s₁.setTop (mkF m 2 #[.val (.int p0), .val (.int p1), .val (.int p2)] [(.int p1), (.int p0)]))
  by_cases hc2_1 : p0 < p1
  · rewrite [if_pos hc2_1]
    refine Go.of (fun t k => XS.icmpYes X0.here hx rfl (pc0 := 2) (pc' := 14) rfl (hb hby d2_2) rfl (tlt hc2_1).1 (by decide) (by decide) k) ?_
    show Go p e below s _ _ _ (s₁.setTop (mkF m 14 #[.val (.int p0), .val (.int p1), .val (.int p2)] []))
    refine Go.of (fun t k => XS.iconst X0.here hx rfl (hb hby d2_14) k) ?_
    show Go p e below s _ _ _ (s₁.setTop (mkF m 15 #[.val (.int p0), .val (.int p1), .val (.int p2)] [(.int (0 : Int32))]))
    exact Go.ret X0 (some (.int (0 : Int32))) (fun h => by rw [Bd.returns] at h; cases h) hlk ⟨rfl, N0, e0⟩ (by decide) (by decide) (fun fs hr => (retN X0 hx (t := .boolean) Bd.returns (by simp) (hb hby d2_15) hr))
  · rewrite [if_neg hc2_1]
    refine Go.of (fun t k => XS.icmpNo X0.here hx rfl (hb hby d2_2) rfl (flt hc2_1).1 k) ?_
    show Go p e below s _ _ _ (s₁.setTop (mkF m 5 #[.val (.int p0), .val (.int p1), .val (.int p2)] []))
    refine Go.of (fun t k => XS.iloadN X0.here hx rfl (hb hby d2_5) rfl k) ?_
    show Go p e below s _ _ _ (s₁.setTop (mkF m 6 #[.val (.int p0), .val (.int p1), .val (.int p2)] [(.int p0)]))
    refine Go.of (fun t k => XS.iloadN X0.here hx rfl (hb hby d2_6) rfl k) ?_
    show Go p e below s _ _ _ (s₁.setTop (mkF m 7 #[.val (.int p0), .val (.int p1), .val (.int p2)] [(.int p2), (.int p0)]))
    by_cases hc7_2 : p2 < p0
    · rewrite [if_pos hc7_2]
      refine Go.of (fun t k => XS.icmpYes X0.here hx rfl (pc0 := 7) (pc' := 14) rfl (hb hby d2_7) rfl (tlt hc7_2).2.2.1 (by decide) (by decide) k) ?_
      show Go p e below s _ _ _ (s₁.setTop (mkF m 14 #[.val (.int p0), .val (.int p1), .val (.int p2)] []))
      refine Go.of (fun t k => XS.iconst X0.here hx rfl (hb hby d2_14) k) ?_
      show Go p e below s _ _ _ (s₁.setTop (mkF m 15 #[.val (.int p0), .val (.int p1), .val (.int p2)] [(.int (0 : Int32))]))
      exact Go.ret X0 (some (.int (0 : Int32))) (fun h => by rw [Bd.returns] at h; cases h) hlk ⟨rfl, N0, e0⟩ (by decide) (by decide) (fun fs hr => (retN X0 hx (t := .boolean) Bd.returns (by simp) (hb hby d2_15) hr))
    · rewrite [if_neg hc7_2]
      refine Go.of (fun t k => XS.icmpNo X0.here hx rfl (hb hby d2_7) rfl (flt hc7_2).2.2.1 k) ?_
      show Go p e below s _ _ _ (s₁.setTop (mkF m 10 #[.val (.int p0), .val (.int p1), .val (.int p2)] []))
      refine Go.of (fun t k => XS.iconst X0.here hx rfl (hb hby d2_10) k) ?_
      show Go p e below s _ _ _ (s₁.setTop (mkF m 11 #[.val (.int p0), .val (.int p1), .val (.int p2)] [(.int (1 : Int32))]))
      refine Go.of (fun t k => XS.goto X0.here hx rfl (pc0 := 11) (pc' := 15) rfl (hb hby d2_11) (by decide) (by decide) k) ?_
      show Go p e below s _ _ _ (s₁.setTop (mkF m 15 #[.val (.int p0), .val (.int p1), .val (.int p2)] [(.int (1 : Int32))]))
      exact Go.ret X0 (some (.int (1 : Int32))) (fun h => by rw [Bd.returns] at h; cases h) hlk ⟨rfl, N0, e0⟩ (by decide) (by decide) (fun fs hr => (retN X0 hx (t := .boolean) Bd.returns (by simp) (hb hby d2_15) hr))
theorem own_pd0 : parseMethodDescriptor "(III)Z" = some ⟨[.int, .int, .int], some .boolean⟩ := by decide +kernel
theorem d1_0 : decode prog_8_method_11_code 0 = .ok (.iload_n 0, 1) := by decide +kernel
theorem d1_1 : decode prog_8_method_11_code 1 = .ok (.ldc 35, 2) := by decide +kernel
theorem d1_3 : decode prog_8_method_11_code 3 = .ok (.ldc 36, 2) := by decide +kernel
theorem d1_5 : decode prog_8_method_11_code 5 = .ok (.invokestatic 14, 3) := by decide +kernel
theorem d1_8 : decode prog_8_method_11_code 8 = .ok (.ifCond .ne 25, 3) := by decide +kernel
theorem d1_11 : decode prog_8_method_11_code 11 = .ok (.iload_n 0, 1) := by decide +kernel
theorem d1_12 : decode prog_8_method_11_code 12 = .ok (.ldc 37, 2) := by decide +kernel
theorem d1_14 : decode prog_8_method_11_code 14 = .ok (.ldc 38, 2) := by decide +kernel
theorem d1_16 : decode prog_8_method_11_code 16 = .ok (.invokestatic 14, 3) := by decide +kernel
theorem d1_19 : decode prog_8_method_11_code 19 = .ok (.ifCond .ne 14, 3) := by decide +kernel
theorem d1_22 : decode prog_8_method_11_code 22 = .ok (.iload_n 0, 1) := by decide +kernel
theorem d1_23 : decode prog_8_method_11_code 23 = .ok (.ldc 39, 2) := by decide +kernel
theorem d1_25 : decode prog_8_method_11_code 25 = .ok (.ldc 40, 2) := by decide +kernel
theorem d1_27 : decode prog_8_method_11_code 27 = .ok (.invokestatic 14, 3) := by decide +kernel
theorem d1_30 : decode prog_8_method_11_code 30 = .ok (.ifCond .eq 7, 3) := by decide +kernel
theorem d1_33 : decode prog_8_method_11_code 33 = .ok (.iconst 1, 1) := by decide +kernel
theorem d1_34 : decode prog_8_method_11_code 34 = .ok (.goto 4, 3) := by decide +kernel
theorem d1_37 : decode prog_8_method_11_code 37 = .ok (.iconst 0, 1) := by decide +kernel
theorem d1_38 : decode prog_8_method_11_code 38 = .ok (.ireturn, 1) := by decide +kernel
theorem ef_1 (m : MethodId) (p0 : Int32) : entryFrame m #[(.int p0)] 1 = mkF m 0 #[.val (.int p0)] [] := by first | (simp [entryFrame, mkF, argsToLocals, Value.category]; done) | rfl
def F1 (p0 : Int32) : Int32 := (if (F2 p0 (57344 : Int32) (63743 : Int32)) = (0 : Int32) then (if (F2 p0 (983040 : Int32) (1048573 : Int32)) = (0 : Int32) then (if (F2 p0 (1048576 : Int32) (1114109 : Int32)) = (0 : Int32) then (0 : Int32) else (1 : Int32)) else (1 : Int32)) else (1 : Int32))
set_option maxRecDepth 65536 in
set_option maxHeartbeats 40000000 in
theorem rm1 (l : Launch) (Z : State) (az : Array Value) (hw : ∀ d ∈ tables_1, d.before az Z = true) (ws : List Jvm.Cond) (p0 : Int32)  (h0 : Heap) (n0 : Nat) (Z0 : n0 ≤ h0.size) :
    MetFree l (⟨"com/example/canonym/canonym/iri/CharClasses", "isIprivate", "(I)Z"⟩ : MethodName) (head1 (Jvm.Cond.code (⟨"com/example/canonym/canonym/iri/CharClasses", "isIprivate", "(I)Z"⟩ : MethodName) prog_8_method_11_code 1 (some .boolean) :: ws) ({ frames := 1, cells := 0, slots := 0, locals := 14 } : Room)) (fun a U => a = #[(.int p0)] ∧ Z.Warmed39 U.vm ∧ U.heap = h0) (fun _ _ _ _ _ => True) (fun _ U o U' => ∃ v L, o = .returned v ∧ (QP (some (.int (F1 p0))) h0 n0) v U'.heap L ∧ FrameEnd U o U' L ({ frames := 1, cells := 0, slots := 0, locals := 14 } : Room).cells ({ frames := 1, cells := 0, slots := 0, locals := 14 } : Room).slots) := by
  refine MetFree.of_bodySF (plainFor_of_name own_pn0) hisR ?_
  intro p e s m args below meth c s₁ Bd hml0 hP hK
  obtain ⟨rfl, hZ, hh⟩ := hP
  have hx := Bd.exec
  have hby := Bd.bytes
  have hml : c.maxLocals = 1 := hml0
  have hown : s.vm.findClass "com/example/canonym/canonym/iri/CharClasses" = some m.cls := findClass_of_methodNamed Bd.named
  have hnm := (name_of_methodNamed Bd.named Bd.method).1
  have hlk : meth.locks = false := BodyLoose.notSynchronized Bd
  have X0 : Stand p l e ({ frames := 1, cells := 0, slots := 0, locals := 14 } : Room) s m #[(.int p0)] below meth c s₁ [] 0 0 := Stand.of_body Bd
  have e0 : s₁.heap = h0 := by rw [← hh, Bd.state]; rfl
  have N0 := Fr.nil n0
  show Go p e below s (QP (some (.int (F1 p0))) h0 n0) ({ frames := 1, cells := 0, slots := 0, locals := 14 } : Room).cells ({ frames := 1, cells := 0, slots := 0, locals := 14 } : Room).slots (s₁.setTop (entryFrame m #[(.int p0)] 1))
  refine Go.of (fun t k => castTop (ef_1 m p0) k) ?_
  show Go p e below s _ _ _ (s₁.setTop (mkF m 0 #[.val (.int p0)] []))
  unfold F1
  refine Go.of (fun t k => XS.iloadN X0.here hx rfl (hb hby d1_0) rfl k) ?_
  show Go p e below s _ _ _ (s₁.setTop (mkF m 1 #[.val (.int p0)] [(.int p0)]))
  refine Go.of (X0.ldcInt hx hown (mvT hZ (hw _ (List.mem_of_getElem? (i := 19) rfl))) (g := (mkF m 1 #[.val (.int p0)] [(.int p0)])) rfl (hb hby d1_1)) ?_
  show Go p e below s _ _ _ (s₁.setTop (mkF m 3 #[.val (.int p0)] [(.int (57344 : Int32)), (.int p0)]))
  refine Go.of (X0.ldcInt hx hown (mvT hZ (hw _ (List.mem_of_getElem? (i := 20) rfl))) (g := (mkF m 3 #[.val (.int p0)] [(.int (57344 : Int32)), (.int p0)])) rfl (hb hby d1_3)) ?_
  show Go p e below s _ _ _ (s₁.setTop (mkF m 5 #[.val (.int p0)] [(.int (63743 : Int32)), (.int (57344 : Int32)), (.int p0)]))
  obtain ⟨_, _, ⟨T1, L1, k1, n1⟩, -, X1, ⟨Lc1, hQ1, l1, y1, z1⟩, st1⟩ := Jvm.LawKit.callS X0 hx (y := (⟨"com/example/canonym/canonym/iri/CharClasses", "inRange", "(III)Z"⟩ : MethodName)) hown (mvT hZ (hw _ (List.mem_of_getElem? (i := 21) rfl))) (mvT hZ (hw _ (List.mem_of_getElem? (i := 22) rfl))) (mvT hZ (hw _ (List.mem_of_getElem? (i := 17) rfl))) (mvT hZ (hw _ (List.mem_of_getElem? (i := 23) rfl))) (by decide) (backOf (W := 0) (rm2 l Z az hw [] p0 (57344 : Int32) (63743 : Int32) h0 n0 Z0) hZ (hw _ (List.mem_of_getElem? (i := 23) rfl)) (hw _ (List.mem_of_getElem? (i := 17) rfl)) (by decide) (by decide)) (g := (mkF m 5 #[.val (.int p0)] [(.int (63743 : Int32)), (.int (57344 : Int32)), (.int p0)])) rfl (by rw [hml]; rfl) (argsL := [(.int p0), (.int (57344 : Int32)), (.int (63743 : Int32))]) (rest := []) (lenOf own_pd0 rfl) rfl (by show 2 * 0 + _ ≤ _; exact Nat.le_of_eq rfl) (hb hby d1_5) (fun _ _ => ⟨rfl, e0, (by decide : 0 + 0 ≤ _), (by decide : 0 + 0 ≤ _)⟩)
  dsimp only [Pt.U, Pt.locs, Pt.cells, Pt.slots] at X1 l1 y1 z1 st1 hQ1
  subst l1 y1 z1
  obtain ⟨rfl, N1q, e1⟩ := hQ1
  have N1 := Fr.app N0 N1q
  refine Go.of st1 ?_
  show Go p e below s _ _ _ (T1.setTop (mkF m 8 #[.val (.int p0)] [(.int (F2 p0 (57344 : Int32) (63743 : Int32)))]))
  by_cases hc8_2 : (F2 p0 (57344 : Int32) (63743 : Int32)) = (0 : Int32)
  · rewrite [if_pos hc8_2]
    refine Go.of (fun t k => XS.ifNo X1.here hx rfl (hb hby d1_8) rfl ((if0 _ _).trans (teq hc8_2).2) k) ?_
    show Go p e below s _ _ _ (T1.setTop (mkF m 11 #[.val (.int p0)] []))
    refine Go.of (fun t k => XS.iloadN X1.here hx rfl (hb hby d1_11) rfl k) ?_
    show Go p e below s _ _ _ (T1.setTop (mkF m 12 #[.val (.int p0)] [(.int p0)]))
    refine Go.of (X1.ldcInt hx hown (mvT hZ (hw _ (List.mem_of_getElem? (i := 28) rfl))) (g := (mkF m 12 #[.val (.int p0)] [(.int p0)])) rfl (hb hby d1_12)) ?_
    show Go p e below s _ _ _ (T1.setTop (mkF m 14 #[.val (.int p0)] [(.int (983040 : Int32)), (.int p0)]))
    refine Go.of (X1.ldcInt hx hown (mvT hZ (hw _ (List.mem_of_getElem? (i := 29) rfl))) (g := (mkF m 14 #[.val (.int p0)] [(.int (983040 : Int32)), (.int p0)])) rfl (hb hby d1_14)) ?_
    show Go p e below s _ _ _ (T1.setTop (mkF m 16 #[.val (.int p0)] [(.int (1048573 : Int32)), (.int (983040 : Int32)), (.int p0)]))
    obtain ⟨_, _, ⟨T3, L3, k3, n3⟩, -, X3, ⟨Lc3, hQ3, l3, y3, z3⟩, st3⟩ := Jvm.LawKit.callS X1 hx (y := (⟨"com/example/canonym/canonym/iri/CharClasses", "inRange", "(III)Z"⟩ : MethodName)) hown (mvT hZ (hw _ (List.mem_of_getElem? (i := 21) rfl))) (mvT hZ (hw _ (List.mem_of_getElem? (i := 22) rfl))) (mvT hZ (hw _ (List.mem_of_getElem? (i := 17) rfl))) (mvT hZ (hw _ (List.mem_of_getElem? (i := 23) rfl))) (by decide) (backOf (W := 0) (rm2 l Z az hw [] p0 (983040 : Int32) (1048573 : Int32) h0 n0 Z0) hZ (hw _ (List.mem_of_getElem? (i := 23) rfl)) (hw _ (List.mem_of_getElem? (i := 17) rfl)) (by decide) (by decide)) (g := (mkF m 16 #[.val (.int p0)] [(.int (1048573 : Int32)), (.int (983040 : Int32)), (.int p0)])) rfl (by rw [hml]; rfl) (argsL := [(.int p0), (.int (983040 : Int32)), (.int (1048573 : Int32))]) (rest := []) (lenOf own_pd0 rfl) rfl (by show 2 * 0 + _ ≤ _; exact Nat.le_of_eq rfl) (hb hby d1_16) (fun _ _ => ⟨rfl, e1, (by decide : 0 + 0 ≤ _), (by decide : 0 + 0 ≤ _)⟩)
    dsimp only [Pt.U, Pt.locs, Pt.cells, Pt.slots] at X3 l3 y3 z3 st3 hQ3
    subst l3 y3 z3
    obtain ⟨rfl, N3q, e3⟩ := hQ3
    have N3 := Fr.app N1 N3q
    refine Go.of st3 ?_
    show Go p e below s _ _ _ (T3.setTop (mkF m 19 #[.val (.int p0)] [(.int (F2 p0 (983040 : Int32) (1048573 : Int32)))]))
    by_cases hc19_4 : (F2 p0 (983040 : Int32) (1048573 : Int32)) = (0 : Int32)
    · rewrite [if_pos hc19_4]
      refine Go.of (fun t k => XS.ifNo X3.here hx rfl (hb hby d1_19) rfl ((if0 _ _).trans (teq hc19_4).2) k) ?_
      show Go p e below s _ _ _ (T3.setTop (mkF m 22 #[.val (.int p0)] []))
      refine Go.of (fun t k => XS.iloadN X3.here hx rfl (hb hby d1_22) rfl k) ?_
      show Go p e below s _ _ _ (T3.setTop (mkF m 23 #[.val (.int p0)] [(.int p0)]))
      refine Go.of (X3.ldcInt hx hown (mvT hZ (hw _ (List.mem_of_getElem? (i := 30) rfl))) (g := (mkF m 23 #[.val (.int p0)] [(.int p0)])) rfl (hb hby d1_23)) ?_
      show Go p e below s _ _ _ (T3.setTop (mkF m 25 #[.val (.int p0)] [(.int (1048576 : Int32)), (.int p0)]))
      refine Go.of (X3.ldcInt hx hown (mvT hZ (hw _ (List.mem_of_getElem? (i := 31) rfl))) (g := (mkF m 25 #[.val (.int p0)] [(.int (1048576 : Int32)), (.int p0)])) rfl (hb hby d1_25)) ?_
      show Go p e below s _ _ _ (T3.setTop (mkF m 27 #[.val (.int p0)] [(.int (1114109 : Int32)), (.int (1048576 : Int32)), (.int p0)]))
      obtain ⟨_, _, ⟨T5, L5, k5, n5⟩, -, X5, ⟨Lc5, hQ5, l5, y5, z5⟩, st5⟩ := Jvm.LawKit.callS X3 hx (y := (⟨"com/example/canonym/canonym/iri/CharClasses", "inRange", "(III)Z"⟩ : MethodName)) hown (mvT hZ (hw _ (List.mem_of_getElem? (i := 21) rfl))) (mvT hZ (hw _ (List.mem_of_getElem? (i := 22) rfl))) (mvT hZ (hw _ (List.mem_of_getElem? (i := 17) rfl))) (mvT hZ (hw _ (List.mem_of_getElem? (i := 23) rfl))) (by decide) (backOf (W := 0) (rm2 l Z az hw [] p0 (1048576 : Int32) (1114109 : Int32) h0 n0 Z0) hZ (hw _ (List.mem_of_getElem? (i := 23) rfl)) (hw _ (List.mem_of_getElem? (i := 17) rfl)) (by decide) (by decide)) (g := (mkF m 27 #[.val (.int p0)] [(.int (1114109 : Int32)), (.int (1048576 : Int32)), (.int p0)])) rfl (by rw [hml]; rfl) (argsL := [(.int p0), (.int (1048576 : Int32)), (.int (1114109 : Int32))]) (rest := []) (lenOf own_pd0 rfl) rfl (by show 2 * 0 + _ ≤ _; exact Nat.le_of_eq rfl) (hb hby d1_27) (fun _ _ => ⟨rfl, e3, (by decide : 0 + 0 ≤ _), (by decide : 0 + 0 ≤ _)⟩)
      dsimp only [Pt.U, Pt.locs, Pt.cells, Pt.slots] at X5 l5 y5 z5 st5 hQ5
      subst l5 y5 z5
      obtain ⟨rfl, N5q, e5⟩ := hQ5
      have N5 := Fr.app N3 N5q
      refine Go.of st5 ?_
      show Go p e below s _ _ _ (T5.setTop (mkF m 30 #[.val (.int p0)] [(.int (F2 p0 (1048576 : Int32) (1114109 : Int32)))]))
      by_cases hc30_6 : (F2 p0 (1048576 : Int32) (1114109 : Int32)) = (0 : Int32)
      · rewrite [if_pos hc30_6]
        refine Go.of (fun t k => XS.ifYes X5.here hx rfl (pc0 := 30) (pc' := 37) rfl (hb hby d1_30) rfl ((if0 _ _).trans (teq hc30_6).1) (by decide) (by decide) k) ?_
        show Go p e below s _ _ _ (T5.setTop (mkF m 37 #[.val (.int p0)] []))
        refine Go.of (fun t k => XS.iconst X5.here hx rfl (hb hby d1_37) k) ?_
        show Go p e below s _ _ _ (T5.setTop (mkF m 38 #[.val (.int p0)] [(.int (0 : Int32))]))
        exact Go.ret X5 (some (.int (0 : Int32))) (fun h => by rw [Bd.returns] at h; cases h) hlk ⟨rfl, N5, e5⟩ (by decide) (by decide) (fun fs hr => (retN X5 hx (t := .boolean) Bd.returns (by simp) (hb hby d1_38) hr))
      · rewrite [if_neg hc30_6]
        refine Go.of (fun t k => XS.ifNo X5.here hx rfl (hb hby d1_30) rfl ((if0 _ _).trans (feq hc30_6).1) k) ?_
        show Go p e below s _ _ _ (T5.setTop (mkF m 33 #[.val (.int p0)] []))
        refine Go.of (fun t k => XS.iconst X5.here hx rfl (hb hby d1_33) k) ?_
        show Go p e below s _ _ _ (T5.setTop (mkF m 34 #[.val (.int p0)] [(.int (1 : Int32))]))
        refine Go.of (fun t k => XS.goto X5.here hx rfl (pc0 := 34) (pc' := 38) rfl (hb hby d1_34) (by decide) (by decide) k) ?_
        show Go p e below s _ _ _ (T5.setTop (mkF m 38 #[.val (.int p0)] [(.int (1 : Int32))]))
        exact Go.ret X5 (some (.int (1 : Int32))) (fun h => by rw [Bd.returns] at h; cases h) hlk ⟨rfl, N5, e5⟩ (by decide) (by decide) (fun fs hr => (retN X5 hx (t := .boolean) Bd.returns (by simp) (hb hby d1_38) hr))
    · rewrite [if_neg hc19_4]
      refine Go.of (fun t k => XS.ifYes X3.here hx rfl (pc0 := 19) (pc' := 33) rfl (hb hby d1_19) rfl ((if0 _ _).trans (feq hc19_4).2) (by decide) (by decide) k) ?_
      show Go p e below s _ _ _ (T3.setTop (mkF m 33 #[.val (.int p0)] []))
      refine Go.of (fun t k => XS.iconst X3.here hx rfl (hb hby d1_33) k) ?_
      show Go p e below s _ _ _ (T3.setTop (mkF m 34 #[.val (.int p0)] [(.int (1 : Int32))]))
      refine Go.of (fun t k => XS.goto X3.here hx rfl (pc0 := 34) (pc' := 38) rfl (hb hby d1_34) (by decide) (by decide) k) ?_
      show Go p e below s _ _ _ (T3.setTop (mkF m 38 #[.val (.int p0)] [(.int (1 : Int32))]))
      exact Go.ret X3 (some (.int (1 : Int32))) (fun h => by rw [Bd.returns] at h; cases h) hlk ⟨rfl, N3, e3⟩ (by decide) (by decide) (fun fs hr => (retN X3 hx (t := .boolean) Bd.returns (by simp) (hb hby d1_38) hr))
  · rewrite [if_neg hc8_2]
    refine Go.of (fun t k => XS.ifYes X1.here hx rfl (pc0 := 8) (pc' := 33) rfl (hb hby d1_8) rfl ((if0 _ _).trans (feq hc8_2).2) (by decide) (by decide) k) ?_
    show Go p e below s _ _ _ (T1.setTop (mkF m 33 #[.val (.int p0)] []))
    refine Go.of (fun t k => XS.iconst X1.here hx rfl (hb hby d1_33) k) ?_
    show Go p e below s _ _ _ (T1.setTop (mkF m 34 #[.val (.int p0)] [(.int (1 : Int32))]))
    refine Go.of (fun t k => XS.goto X1.here hx rfl (pc0 := 34) (pc' := 38) rfl (hb hby d1_34) (by decide) (by decide) k) ?_
    show Go p e below s _ _ _ (T1.setTop (mkF m 38 #[.val (.int p0)] [(.int (1 : Int32))]))
    exact Go.ret X1 (some (.int (1 : Int32))) (fun h => by rw [Bd.returns] at h; cases h) hlk ⟨rfl, N1, e1⟩ (by decide) (by decide) (fun fs hr => (retN X1 hx (t := .boolean) Bd.returns (by simp) (hb hby d1_38) hr))
theorem own_pn1 : plainName "com/example/canonym/canonym/iri/CharClassesIsIprivatePinLaw" = true := by first | (simp [plainName, overriddenIn]; done) | decide +kernel
theorem d3_0 : decode method_3_code 0 = .ok (.iload_n 0, 1) := by decide +kernel
theorem d3_1 : decode method_3_code 1 = .ok (.ifCond .ge 5, 3) := by decide +kernel
theorem d3_4 : decode method_3_code 4 = .ok (.iconst 0, 1) := by decide +kernel
theorem d3_5 : decode method_3_code 5 = .ok (.ireturn, 1) := by decide +kernel
theorem d3_6 : decode method_3_code 6 = .ok (.iload_n 0, 1) := by decide +kernel
theorem d3_7 : decode method_3_code 7 = .ok (.bipush 16, 2) := by decide +kernel
theorem d3_9 : decode method_3_code 9 = .ok (.iushr, 1) := by decide +kernel
theorem d3_10 : decode method_3_code 10 = .ok (.istore_n 1, 1) := by decide +kernel
theorem d3_11 : decode method_3_code 11 = .ok (.iload_n 0, 1) := by decide +kernel
theorem d3_12 : decode method_3_code 12 = .ok (.ldc 14, 2) := by decide +kernel
theorem d3_14 : decode method_3_code 14 = .ok (.iand, 1) := by decide +kernel
theorem d3_15 : decode method_3_code 15 = .ok (.istore_n 2, 1) := by decide +kernel
theorem d3_16 : decode method_3_code 16 = .ok (.iload_n 1, 1) := by decide +kernel
theorem d3_17 : decode method_3_code 17 = .ok (.ifCond .ne 21, 3) := by decide +kernel
theorem d3_20 : decode method_3_code 20 = .ok (.iload_n 2, 1) := by decide +kernel
theorem d3_21 : decode method_3_code 21 = .ok (.ldc 7, 2) := by decide +kernel
theorem d3_23 : decode method_3_code 23 = .ok (.if_icmp .lt 13, 3) := by decide +kernel
theorem d3_26 : decode method_3_code 26 = .ok (.iload_n 2, 1) := by decide +kernel
theorem d3_27 : decode method_3_code 27 = .ok (.ldc 8, 2) := by decide +kernel
theorem d3_29 : decode method_3_code 29 = .ok (.if_icmp .gt 7, 3) := by decide +kernel
theorem d3_32 : decode method_3_code 32 = .ok (.iconst 1, 1) := by decide +kernel
theorem d3_33 : decode method_3_code 33 = .ok (.goto 4, 3) := by decide +kernel
theorem d3_36 : decode method_3_code 36 = .ok (.iconst 0, 1) := by decide +kernel
theorem d3_37 : decode method_3_code 37 = .ok (.ireturn, 1) := by decide +kernel
theorem d3_38 : decode method_3_code 38 = .ok (.iload_n 1, 1) := by decide +kernel
theorem d3_39 : decode method_3_code 39 = .ok (.bipush 15, 2) := by decide +kernel
theorem d3_41 : decode method_3_code 41 = .ok (.if_icmp .eq 9, 3) := by decide +kernel
theorem d3_44 : decode method_3_code 44 = .ok (.iload_n 1, 1) := by decide +kernel
theorem d3_45 : decode method_3_code 45 = .ok (.bipush 16, 2) := by decide +kernel
theorem d3_47 : decode method_3_code 47 = .ok (.if_icmp .ne 15, 3) := by decide +kernel
theorem d3_50 : decode method_3_code 50 = .ok (.iload_n 2, 1) := by decide +kernel
theorem d3_51 : decode method_3_code 51 = .ok (.ldc 33, 2) := by decide +kernel
theorem d3_53 : decode method_3_code 53 = .ok (.if_icmp .gt 7, 3) := by decide +kernel
theorem d3_56 : decode method_3_code 56 = .ok (.iconst 1, 1) := by decide +kernel
theorem d3_57 : decode method_3_code 57 = .ok (.goto 4, 3) := by decide +kernel
theorem d3_60 : decode method_3_code 60 = .ok (.iconst 0, 1) := by decide +kernel
theorem d3_61 : decode method_3_code 61 = .ok (.ireturn, 1) := by decide +kernel
theorem d3_62 : decode method_3_code 62 = .ok (.iconst 0, 1) := by decide +kernel
theorem d3_63 : decode method_3_code 63 = .ok (.ireturn, 1) := by decide +kernel
theorem ef_3 (m : MethodId) (p0 : Int32) : entryFrame m #[(.int p0)] 3 = mkF m 0 #[.val (.int p0), .unset, .unset] [] := by first | (simp [entryFrame, mkF, argsToLocals, Value.category]; done) | rfl
def F3_50 (p0 : Int32) : Int32 := (if (65533 : Int32) < (p0 &&& (65535 : Int32)) then (0 : Int32) else (1 : Int32))
def F3 (p0 : Int32) : Int32 := (if p0 < (0 : Int32) then (0 : Int32) else (if ((p0.toUInt32 >>> ((16 : Int32) &&& 31).toUInt32).toInt32) = (0 : Int32) then (if (p0 &&& (65535 : Int32)) < (57344 : Int32) then (0 : Int32) else (if (63743 : Int32) < (p0 &&& (65535 : Int32)) then (0 : Int32) else (1 : Int32))) else (if ((p0.toUInt32 >>> ((16 : Int32) &&& 31).toUInt32).toInt32) = (15 : Int32) then (F3_50 p0) else (if ((p0.toUInt32 >>> ((16 : Int32) &&& 31).toUInt32).toInt32) = (16 : Int32) then (F3_50 p0) else (0 : Int32)))))
set_option maxRecDepth 65536 in
set_option maxHeartbeats 40000000 in
theorem rm3 (l : Launch) (Z : State) (az : Array Value) (hw : ∀ d ∈ tables_1, d.before az Z = true) (ws : List Jvm.Cond) (p0 : Int32)  (h0 : Heap) (n0 : Nat) (Z0 : n0 ≤ h0.size) :
    MetFree l (⟨"com/example/canonym/canonym/iri/CharClassesIsIprivatePinLaw", "expected", "(I)Z"⟩ : MethodName) (head1 (Jvm.Cond.code (⟨"com/example/canonym/canonym/iri/CharClassesIsIprivatePinLaw", "expected", "(I)Z"⟩ : MethodName) method_3_code 3 (some .boolean) :: ws) ({ frames := 0, cells := 0, slots := 0, locals := 0 } : Room)) (fun a U => a = #[(.int p0)] ∧ Z.Warmed39 U.vm ∧ U.heap = h0) (fun _ _ _ _ _ => True) (fun _ U o U' => ∃ v L, o = .returned v ∧ (QP (some (.int (F3 p0))) h0 n0) v U'.heap L ∧ FrameEnd U o U' L ({ frames := 0, cells := 0, slots := 0, locals := 0 } : Room).cells ({ frames := 0, cells := 0, slots := 0, locals := 0 } : Room).slots) := by
  refine MetFree.of_bodySF (plainFor_of_name own_pn1) hisR ?_
  intro p e s m args below meth c s₁ Bd hml0 hP hK
  obtain ⟨rfl, hZ, hh⟩ := hP
  have hx := Bd.exec
  have hby := Bd.bytes
  have hml : c.maxLocals = 3 := hml0
  have hown : s.vm.findClass "com/example/canonym/canonym/iri/CharClassesIsIprivatePinLaw" = some m.cls := findClass_of_methodNamed Bd.named
  have hnm := (name_of_methodNamed Bd.named Bd.method).1
  have hlk : meth.locks = false := BodyLoose.notSynchronized Bd
  have X0 : Stand p l e ({ frames := 0, cells := 0, slots := 0, locals := 0 } : Room) s m #[(.int p0)] below meth c s₁ [] 0 0 := Stand.of_body Bd
  have e0 : s₁.heap = h0 := by rw [← hh, Bd.state]; rfl
  have N0 := Fr.nil n0
  show Go p e below s (QP (some (.int (F3 p0))) h0 n0) ({ frames := 0, cells := 0, slots := 0, locals := 0 } : Room).cells ({ frames := 0, cells := 0, slots := 0, locals := 0 } : Room).slots (s₁.setTop (entryFrame m #[(.int p0)] 3))
  refine Go.of (fun t k => castTop (ef_3 m p0) k) ?_
  show Go p e below s _ _ _ (s₁.setTop (mkF m 0 #[.val (.int p0), .unset, .unset] []))
  unfold F3
  refine Go.of (fun t k => XS.iloadN X0.here hx rfl (hb hby d3_0) rfl k) ?_
  show Go p e below s _ _ _ (s₁.setTop (mkF m 1 #[.val (.int p0), .unset, .unset] [(.int p0)]))
  by_cases hc1_1 : p0 < (0 : Int32)
  · rewrite [if_pos hc1_1]
    refine Go.of (fun t k => XS.ifNo X0.here hx rfl (hb hby d3_1) rfl ((if0 _ _).trans (tlt hc1_1).2.1) k) ?_
    show Go p e below s _ _ _ (s₁.setTop (mkF m 4 #[.val (.int p0), .unset, .unset] []))
    refine Go.of (fun t k => XS.iconst X0.here hx rfl (hb hby d3_4) k) ?_
    show Go p e below s _ _ _ (s₁.setTop (mkF m 5 #[.val (.int p0), .unset, .unset] [(.int (0 : Int32))]))
    exact Go.ret X0 (some (.int (0 : Int32))) (fun h => by rw [Bd.returns] at h; cases h) hlk ⟨rfl, N0, e0⟩ (by decide) (by decide) (fun fs hr => (retN X0 hx (t := .boolean) Bd.returns (by simp) (hb hby d3_5) hr))
  · rewrite [if_neg hc1_1]
    refine Go.of (fun t k => XS.ifYes X0.here hx rfl (pc0 := 1) (pc' := 6) rfl (hb hby d3_1) rfl ((if0 _ _).trans (flt hc1_1).2.1) (by decide) (by decide) k) ?_
    show Go p e below s _ _ _ (s₁.setTop (mkF m 6 #[.val (.int p0), .unset, .unset] []))
    refine Go.of (fun t k => XS.iloadN X0.here hx rfl (hb hby d3_6) rfl k) ?_
    show Go p e below s _ _ _ (s₁.setTop (mkF m 7 #[.val (.int p0), .unset, .unset] [(.int p0)]))
    refine Go.of (fun t k => XS.bipush X0.here hx rfl (hb hby d3_7) k) ?_
    show Go p e below s _ _ _ (s₁.setTop (mkF m 9 #[.val (.int p0), .unset, .unset] [(.int (16 : Int32)), (.int p0)]))
    refine Go.of (fun t k => XS.iushr X0.here hx rfl (hb hby d3_9) rfl k) ?_
    show Go p e below s _ _ _ (s₁.setTop (mkF m 10 #[.val (.int p0), .unset, .unset] [(.int ((p0.toUInt32 >>> ((16 : Int32) &&& 31).toUInt32).toInt32))]))
    refine Go.of (fun t k => XS.istoreN X0.here hx rfl (hb hby d3_10) rfl (l' := #[.val (.int p0), .val (.int ((p0.toUInt32 >>> ((16 : Int32) &&& 31).toUInt32).toInt32)), .unset]) rfl k) ?_
    show Go p e below s _ _ _ (s₁.setTop (mkF m 11 #[.val (.int p0), .val (.int ((p0.toUInt32 >>> ((16 : Int32) &&& 31).toUInt32).toInt32)), .unset] []))
    refine Go.of (fun t k => XS.iloadN X0.here hx rfl (hb hby d3_11) rfl k) ?_
    show Go p e below s _ _ _ (s₁.setTop (mkF m 12 #[.val (.int p0), .val (.int ((p0.toUInt32 >>> ((16 : Int32) &&& 31).toUInt32).toInt32)), .unset] [(.int p0)]))
    refine Go.of (X0.ldcInt hx hown (mvT hZ (hw _ (List.mem_of_getElem? (i := 8) rfl))) (g := (mkF m 12 #[.val (.int p0), .val (.int ((p0.toUInt32 >>> ((16 : Int32) &&& 31).toUInt32).toInt32)), .unset] [(.int p0)])) rfl (hb hby d3_12)) ?_
    show Go p e below s _ _ _ (s₁.setTop (mkF m 14 #[.val (.int p0), .val (.int ((p0.toUInt32 >>> ((16 : Int32) &&& 31).toUInt32).toInt32)), .unset] [(.int (65535 : Int32)), (.int p0)]))
    refine Go.of (fun t k => XS.iand X0.here hx rfl (hb hby d3_14) rfl k) ?_
    show Go p e below s _ _ _ (s₁.setTop (mkF m 15 #[.val (.int p0), .val (.int ((p0.toUInt32 >>> ((16 : Int32) &&& 31).toUInt32).toInt32)), .unset] [(.int (p0 &&& (65535 : Int32)))]))
    refine Go.of (fun t k => XS.istoreN X0.here hx rfl (hb hby d3_15) rfl (l' := #[.val (.int p0), .val (.int ((p0.toUInt32 >>> ((16 : Int32) &&& 31).toUInt32).toInt32)), .val (.int (p0 &&& (65535 : Int32)))]) rfl k) ?_
    show Go p e below s _ _ _ (s₁.setTop (mkF m 16 #[.val (.int p0), .val (.int ((p0.toUInt32 >>> ((16 : Int32) &&& 31).toUInt32).toInt32)), .val (.int (p0 &&& (65535 : Int32)))] []))
    refine Go.of (fun t k => XS.iloadN X0.here hx rfl (hb hby d3_16) rfl k) ?_
    show Go p e below s _ _ _ (s₁.setTop (mkF m 17 #[.val (.int p0), .val (.int ((p0.toUInt32 >>> ((16 : Int32) &&& 31).toUInt32).toInt32)), .val (.int (p0 &&& (65535 : Int32)))] [(.int ((p0.toUInt32 >>> ((16 : Int32) &&& 31).toUInt32).toInt32))]))
    by_cases hc17_2 : ((p0.toUInt32 >>> ((16 : Int32) &&& 31).toUInt32).toInt32) = (0 : Int32)
    · rewrite [if_pos hc17_2]
      refine Go.of (fun t k => XS.ifNo X0.here hx rfl (hb hby d3_17) rfl ((if0 _ _).trans (teq hc17_2).2) k) ?_
      show Go p e below s _ _ _ (s₁.setTop (mkF m 20 #[.val (.int p0), .val (.int ((p0.toUInt32 >>> ((16 : Int32) &&& 31).toUInt32).toInt32)), .val (.int (p0 &&& (65535 : Int32)))] []))
      refine Go.of (fun t k => XS.iloadN X0.here hx rfl (hb hby d3_20) rfl k) ?_
      show Go p e below s _ _ _ (s₁.setTop (mkF m 21 #[.val (.int p0), .val (.int ((p0.toUInt32 >>> ((16 : Int32) &&& 31).toUInt32).toInt32)), .val (.int (p0 &&& (65535 : Int32)))] [(.int (p0 &&& (65535 : Int32)))]))
      refine Go.of (X0.ldcInt hx hown (mvT hZ (hw _ (List.mem_of_getElem? (i := 1) rfl))) (g := (mkF m 21 #[.val (.int p0), .val (.int ((p0.toUInt32 >>> ((16 : Int32) &&& 31).toUInt32).toInt32)), .val (.int (p0 &&& (65535 : Int32)))] [(.int (p0 &&& (65535 : Int32)))])) rfl (hb hby d3_21)) ?_
      show Go p e below s _ _ _ (s₁.setTop (mkF m 23 #[.val (.int p0), .val (.int ((p0.toUInt32 >>> ((16 : Int32) &&& 31).toUInt32).toInt32)), .val (.int (p0 &&& (65535 : Int32)))] [(.int (57344 : Int32)), (.int (p0 &&& (65535 : Int32)))]))
      by_cases hc23_3 : (p0 &&& (65535 : Int32)) < (57344 : Int32)
      · rewrite [if_pos hc23_3]
        refine Go.of (fun t k => XS.icmpYes X0.here hx rfl (pc0 := 23) (pc' := 36) rfl (hb hby d3_23) rfl (tlt hc23_3).1 (by decide) (by decide) k) ?_
        show Go p e below s _ _ _ (s₁.setTop (mkF m 36 #[.val (.int p0), .val (.int ((p0.toUInt32 >>> ((16 : Int32) &&& 31).toUInt32).toInt32)), .val (.int (p0 &&& (65535 : Int32)))] []))
        refine Go.of (fun t k => XS.iconst X0.here hx rfl (hb hby d3_36) k) ?_
        show Go p e below s _ _ _ (s₁.setTop (mkF m 37 #[.val (.int p0), .val (.int ((p0.toUInt32 >>> ((16 : Int32) &&& 31).toUInt32).toInt32)), .val (.int (p0 &&& (65535 : Int32)))] [(.int (0 : Int32))]))
        exact Go.ret X0 (some (.int (0 : Int32))) (fun h => by rw [Bd.returns] at h; cases h) hlk ⟨rfl, N0, e0⟩ (by decide) (by decide) (fun fs hr => (retN X0 hx (t := .boolean) Bd.returns (by simp) (hb hby d3_37) hr))
      · rewrite [if_neg hc23_3]
        refine Go.of (fun t k => XS.icmpNo X0.here hx rfl (hb hby d3_23) rfl (flt hc23_3).1 k) ?_
        show Go p e below s _ _ _ (s₁.setTop (mkF m 26 #[.val (.int p0), .val (.int ((p0.toUInt32 >>> ((16 : Int32) &&& 31).toUInt32).toInt32)), .val (.int (p0 &&& (65535 : Int32)))] []))
        refine Go.of (fun t k => XS.iloadN X0.here hx rfl (hb hby d3_26) rfl k) ?_
        show Go p e below s _ _ _ (s₁.setTop (mkF m 27 #[.val (.int p0), .val (.int ((p0.toUInt32 >>> ((16 : Int32) &&& 31).toUInt32).toInt32)), .val (.int (p0 &&& (65535 : Int32)))] [(.int (p0 &&& (65535 : Int32)))]))
        refine Go.of (X0.ldcInt hx hown (mvT hZ (hw _ (List.mem_of_getElem? (i := 2) rfl))) (g := (mkF m 27 #[.val (.int p0), .val (.int ((p0.toUInt32 >>> ((16 : Int32) &&& 31).toUInt32).toInt32)), .val (.int (p0 &&& (65535 : Int32)))] [(.int (p0 &&& (65535 : Int32)))])) rfl (hb hby d3_27)) ?_
        show Go p e below s _ _ _ (s₁.setTop (mkF m 29 #[.val (.int p0), .val (.int ((p0.toUInt32 >>> ((16 : Int32) &&& 31).toUInt32).toInt32)), .val (.int (p0 &&& (65535 : Int32)))] [(.int (63743 : Int32)), (.int (p0 &&& (65535 : Int32)))]))
        by_cases hc29_4 : (63743 : Int32) < (p0 &&& (65535 : Int32))
        · rewrite [if_pos hc29_4]
          refine Go.of (fun t k => XS.icmpYes X0.here hx rfl (pc0 := 29) (pc' := 36) rfl (hb hby d3_29) rfl (tlt hc29_4).2.2.1 (by decide) (by decide) k) ?_
          show Go p e below s _ _ _ (s₁.setTop (mkF m 36 #[.val (.int p0), .val (.int ((p0.toUInt32 >>> ((16 : Int32) &&& 31).toUInt32).toInt32)), .val (.int (p0 &&& (65535 : Int32)))] []))
          refine Go.of (fun t k => XS.iconst X0.here hx rfl (hb hby d3_36) k) ?_
          show Go p e below s _ _ _ (s₁.setTop (mkF m 37 #[.val (.int p0), .val (.int ((p0.toUInt32 >>> ((16 : Int32) &&& 31).toUInt32).toInt32)), .val (.int (p0 &&& (65535 : Int32)))] [(.int (0 : Int32))]))
          exact Go.ret X0 (some (.int (0 : Int32))) (fun h => by rw [Bd.returns] at h; cases h) hlk ⟨rfl, N0, e0⟩ (by decide) (by decide) (fun fs hr => (retN X0 hx (t := .boolean) Bd.returns (by simp) (hb hby d3_37) hr))
        · rewrite [if_neg hc29_4]
          refine Go.of (fun t k => XS.icmpNo X0.here hx rfl (hb hby d3_29) rfl (flt hc29_4).2.2.1 k) ?_
          show Go p e below s _ _ _ (s₁.setTop (mkF m 32 #[.val (.int p0), .val (.int ((p0.toUInt32 >>> ((16 : Int32) &&& 31).toUInt32).toInt32)), .val (.int (p0 &&& (65535 : Int32)))] []))
          refine Go.of (fun t k => XS.iconst X0.here hx rfl (hb hby d3_32) k) ?_
          show Go p e below s _ _ _ (s₁.setTop (mkF m 33 #[.val (.int p0), .val (.int ((p0.toUInt32 >>> ((16 : Int32) &&& 31).toUInt32).toInt32)), .val (.int (p0 &&& (65535 : Int32)))] [(.int (1 : Int32))]))
          refine Go.of (fun t k => XS.goto X0.here hx rfl (pc0 := 33) (pc' := 37) rfl (hb hby d3_33) (by decide) (by decide) k) ?_
          show Go p e below s _ _ _ (s₁.setTop (mkF m 37 #[.val (.int p0), .val (.int ((p0.toUInt32 >>> ((16 : Int32) &&& 31).toUInt32).toInt32)), .val (.int (p0 &&& (65535 : Int32)))] [(.int (1 : Int32))]))
          exact Go.ret X0 (some (.int (1 : Int32))) (fun h => by rw [Bd.returns] at h; cases h) hlk ⟨rfl, N0, e0⟩ (by decide) (by decide) (fun fs hr => (retN X0 hx (t := .boolean) Bd.returns (by simp) (hb hby d3_37) hr))
    · rewrite [if_neg hc17_2]
      refine Go.of (fun t k => XS.ifYes X0.here hx rfl (pc0 := 17) (pc' := 38) rfl (hb hby d3_17) rfl ((if0 _ _).trans (feq hc17_2).2) (by decide) (by decide) k) ?_
      show Go p e below s _ _ _ (s₁.setTop (mkF m 38 #[.val (.int p0), .val (.int ((p0.toUInt32 >>> ((16 : Int32) &&& 31).toUInt32).toInt32)), .val (.int (p0 &&& (65535 : Int32)))] []))
      refine Go.of (fun t k => XS.iloadN X0.here hx rfl (hb hby d3_38) rfl k) ?_
      show Go p e below s _ _ _ (s₁.setTop (mkF m 39 #[.val (.int p0), .val (.int ((p0.toUInt32 >>> ((16 : Int32) &&& 31).toUInt32).toInt32)), .val (.int (p0 &&& (65535 : Int32)))] [(.int ((p0.toUInt32 >>> ((16 : Int32) &&& 31).toUInt32).toInt32))]))
      refine Go.of (fun t k => XS.bipush X0.here hx rfl (hb hby d3_39) k) ?_
      show Go p e below s _ _ _ (s₁.setTop (mkF m 41 #[.val (.int p0), .val (.int ((p0.toUInt32 >>> ((16 : Int32) &&& 31).toUInt32).toInt32)), .val (.int (p0 &&& (65535 : Int32)))] [(.int (15 : Int32)), (.int ((p0.toUInt32 >>> ((16 : Int32) &&& 31).toUInt32).toInt32))]))
      have jn50 : ∀ (T_50 : State) (l_50 : List Loc) (X_50 : Stand p l e ({ frames := 0, cells := 0, slots := 0, locals := 0 } : Room) s m #[(.int p0)] below meth c T_50 l_50 0 0) (e_50 : T_50.heap = h0) (N_50 : Fr n0 l_50), Go p e below s (QP (some (.int (F3_50 p0))) h0 n0) ({ frames := 0, cells := 0, slots := 0, locals := 0 } : Room).cells ({ frames := 0, cells := 0, slots := 0, locals := 0 } : Room).slots (T_50.setTop (mkF m 50 #[.val (.int p0), .val (.int ((p0.toUInt32 >>> ((16 : Int32) &&& 31).toUInt32).toInt32)), .val (.int (p0 &&& (65535 : Int32)))] [])) := by
        intro T_50 l_50 X_50 e_50 N_50
        unfold F3_50
        refine Go.of (fun t k => XS.iloadN X_50.here hx rfl (hb hby d3_50) rfl k) ?_
        show Go p e below s _ _ _ (T_50.setTop (mkF m 51 #[.val (.int p0), .val (.int ((p0.toUInt32 >>> ((16 : Int32) &&& 31).toUInt32).toInt32)), .val (.int (p0 &&& (65535 : Int32)))] [(.int (p0 &&& (65535 : Int32)))]))
        refine Go.of (X_50.ldcInt hx hown (mvT hZ (hw _ (List.mem_of_getElem? (i := 32) rfl))) (g := (mkF m 51 #[.val (.int p0), .val (.int ((p0.toUInt32 >>> ((16 : Int32) &&& 31).toUInt32).toInt32)), .val (.int (p0 &&& (65535 : Int32)))] [(.int (p0 &&& (65535 : Int32)))])) rfl (hb hby d3_51)) ?_
        show Go p e below s _ _ _ (T_50.setTop (mkF m 53 #[.val (.int p0), .val (.int ((p0.toUInt32 >>> ((16 : Int32) &&& 31).toUInt32).toInt32)), .val (.int (p0 &&& (65535 : Int32)))] [(.int (65533 : Int32)), (.int (p0 &&& (65535 : Int32)))]))
        by_cases hc53_5 : (65533 : Int32) < (p0 &&& (65535 : Int32))
        · rewrite [if_pos hc53_5]
          refine Go.of (fun t k => XS.icmpYes X_50.here hx rfl (pc0 := 53) (pc' := 60) rfl (hb hby d3_53) rfl (tlt hc53_5).2.2.1 (by decide) (by decide) k) ?_
          show Go p e below s _ _ _ (T_50.setTop (mkF m 60 #[.val (.int p0), .val (.int ((p0.toUInt32 >>> ((16 : Int32) &&& 31).toUInt32).toInt32)), .val (.int (p0 &&& (65535 : Int32)))] []))
          refine Go.of (fun t k => XS.iconst X_50.here hx rfl (hb hby d3_60) k) ?_
          show Go p e below s _ _ _ (T_50.setTop (mkF m 61 #[.val (.int p0), .val (.int ((p0.toUInt32 >>> ((16 : Int32) &&& 31).toUInt32).toInt32)), .val (.int (p0 &&& (65535 : Int32)))] [(.int (0 : Int32))]))
          exact Go.ret X_50 (some (.int (0 : Int32))) (fun h => by rw [Bd.returns] at h; cases h) hlk ⟨rfl, N_50, e_50⟩ (by decide) (by decide) (fun fs hr => (retN X_50 hx (t := .boolean) Bd.returns (by simp) (hb hby d3_61) hr))
        · rewrite [if_neg hc53_5]
          refine Go.of (fun t k => XS.icmpNo X_50.here hx rfl (hb hby d3_53) rfl (flt hc53_5).2.2.1 k) ?_
          show Go p e below s _ _ _ (T_50.setTop (mkF m 56 #[.val (.int p0), .val (.int ((p0.toUInt32 >>> ((16 : Int32) &&& 31).toUInt32).toInt32)), .val (.int (p0 &&& (65535 : Int32)))] []))
          refine Go.of (fun t k => XS.iconst X_50.here hx rfl (hb hby d3_56) k) ?_
          show Go p e below s _ _ _ (T_50.setTop (mkF m 57 #[.val (.int p0), .val (.int ((p0.toUInt32 >>> ((16 : Int32) &&& 31).toUInt32).toInt32)), .val (.int (p0 &&& (65535 : Int32)))] [(.int (1 : Int32))]))
          refine Go.of (fun t k => XS.goto X_50.here hx rfl (pc0 := 57) (pc' := 61) rfl (hb hby d3_57) (by decide) (by decide) k) ?_
          show Go p e below s _ _ _ (T_50.setTop (mkF m 61 #[.val (.int p0), .val (.int ((p0.toUInt32 >>> ((16 : Int32) &&& 31).toUInt32).toInt32)), .val (.int (p0 &&& (65535 : Int32)))] [(.int (1 : Int32))]))
          exact Go.ret X_50 (some (.int (1 : Int32))) (fun h => by rw [Bd.returns] at h; cases h) hlk ⟨rfl, N_50, e_50⟩ (by decide) (by decide) (fun fs hr => (retN X_50 hx (t := .boolean) Bd.returns (by simp) (hb hby d3_61) hr))
      by_cases hc41_6 : ((p0.toUInt32 >>> ((16 : Int32) &&& 31).toUInt32).toInt32) = (15 : Int32)
      · rewrite [if_pos hc41_6]
        refine Go.of (fun t k => XS.icmpYes X0.here hx rfl (pc0 := 41) (pc' := 50) rfl (hb hby d3_41) rfl (teq hc41_6).1 (by decide) (by decide) k) ?_
        show Go p e below s _ _ _ (s₁.setTop (mkF m 50 #[.val (.int p0), .val (.int ((p0.toUInt32 >>> ((16 : Int32) &&& 31).toUInt32).toInt32)), .val (.int (p0 &&& (65535 : Int32)))] []))
        exact jn50   s₁ _ X0 e0 N0  
      · rewrite [if_neg hc41_6]
        refine Go.of (fun t k => XS.icmpNo X0.here hx rfl (hb hby d3_41) rfl (feq hc41_6).1 k) ?_
        show Go p e below s _ _ _ (s₁.setTop (mkF m 44 #[.val (.int p0), .val (.int ((p0.toUInt32 >>> ((16 : Int32) &&& 31).toUInt32).toInt32)), .val (.int (p0 &&& (65535 : Int32)))] []))
        refine Go.of (fun t k => XS.iloadN X0.here hx rfl (hb hby d3_44) rfl k) ?_
        show Go p e below s _ _ _ (s₁.setTop (mkF m 45 #[.val (.int p0), .val (.int ((p0.toUInt32 >>> ((16 : Int32) &&& 31).toUInt32).toInt32)), .val (.int (p0 &&& (65535 : Int32)))] [(.int ((p0.toUInt32 >>> ((16 : Int32) &&& 31).toUInt32).toInt32))]))
        refine Go.of (fun t k => XS.bipush X0.here hx rfl (hb hby d3_45) k) ?_
        show Go p e below s _ _ _ (s₁.setTop (mkF m 47 #[.val (.int p0), .val (.int ((p0.toUInt32 >>> ((16 : Int32) &&& 31).toUInt32).toInt32)), .val (.int (p0 &&& (65535 : Int32)))] [(.int (16 : Int32)), (.int ((p0.toUInt32 >>> ((16 : Int32) &&& 31).toUInt32).toInt32))]))
        by_cases hc47_7 : ((p0.toUInt32 >>> ((16 : Int32) &&& 31).toUInt32).toInt32) = (16 : Int32)
        · rewrite [if_pos hc47_7]
          refine Go.of (fun t k => XS.icmpNo X0.here hx rfl (hb hby d3_47) rfl (teq hc47_7).2 k) ?_
          show Go p e below s _ _ _ (s₁.setTop (mkF m 50 #[.val (.int p0), .val (.int ((p0.toUInt32 >>> ((16 : Int32) &&& 31).toUInt32).toInt32)), .val (.int (p0 &&& (65535 : Int32)))] []))
          exact jn50   s₁ _ X0 e0 N0  
        · rewrite [if_neg hc47_7]
          refine Go.of (fun t k => XS.icmpYes X0.here hx rfl (pc0 := 47) (pc' := 62) rfl (hb hby d3_47) rfl (feq hc47_7).2 (by decide) (by decide) k) ?_
          show Go p e below s _ _ _ (s₁.setTop (mkF m 62 #[.val (.int p0), .val (.int ((p0.toUInt32 >>> ((16 : Int32) &&& 31).toUInt32).toInt32)), .val (.int (p0 &&& (65535 : Int32)))] []))
          refine Go.of (fun t k => XS.iconst X0.here hx rfl (hb hby d3_62) k) ?_
          show Go p e below s _ _ _ (s₁.setTop (mkF m 63 #[.val (.int p0), .val (.int ((p0.toUInt32 >>> ((16 : Int32) &&& 31).toUInt32).toInt32)), .val (.int (p0 &&& (65535 : Int32)))] [(.int (0 : Int32))]))
          exact Go.ret X0 (some (.int (0 : Int32))) (fun h => by rw [Bd.returns] at h; cases h) hlk ⟨rfl, N0, e0⟩ (by decide) (by decide) (fun fs hr => (retN X0 hx (t := .boolean) Bd.returns (by simp) (hb hby d3_63) hr))
def own_L : List Int32 := [(0 : Int32), (0 : Int32), (57344 : Int32), (63743 : Int32), (983040 : Int32), (1048573 : Int32), (1048576 : Int32), (1114109 : Int32), (1114111 : Int32), (65535 : Int32), (983037 : Int32), (57343 : Int32), (63744 : Int32), (1114112 : Int32), (2147483647 : Int32), (-2147483646 : Int32)]
def own_tab (k : Int32) : Int32 := own_L.getD k.toNatClampNeg 0
theorem own_getD : ∀ (L : List Int32) (i : Nat), (L.map Value.int).getD i (.int (0 : Int32)) = .int (L.getD i 0)
  | [], i => by simp
  | a :: L, 0 => by simp
  | a :: L, i + 1 => by simpa using own_getD L i
theorem own_in (a : Int32) : ¬ ((a &&& (15 : Int32)) < 0) ∧ (a &&& (15 : Int32)) < 16 := by
  have m := c_mask a 15 4 (by decide) (by decide)
  rw [Int32.lt_iff_toInt_lt, Int32.lt_iff_toInt_lt, m]
  have e0 : (0 : Int32).toInt = 0 := by decide
  have e1 : (16 : Int32).toInt = 16 := by decide
  omega
theorem own_pd1 : parseMethodDescriptor "(I)Z" = some ⟨[.int], some .boolean⟩ := by decide +kernel
theorem ef_0 (m : MethodId) (p0 : Int32) (p1 : Int32) (p2 : Int32) : entryFrame m #[(.int p0), (.int p1), (.int p2)] maxLocals = mkF m 0 #[.val (.int p0), .val (.int p1), .val (.int p2), .unset, .unset, .unset, .unset] [] := by first | (simp [entryFrame, mkF, argsToLocals, Value.category, maxLocals]; done) | rfl
def F0_145 (v6_145 : Int32) : Int32 := (if (F1 v6_145) = (F3 v6_145) then (1 : Int32) else (0 : Int32))
def F0 (p0 : Int32) (p1 : Int32) (p2 : Int32) : Int32 := (if (p1 &&& (15 : Int32)) = (0 : Int32) then (F0_145 p0) else (if (p1 &&& (15 : Int32)) = (1 : Int32) then (F0_145 (p0 &&& (2097151 : Int32))) else (F0_145 ((own_tab (p1 &&& (15 : Int32))) + (((p2 &&& (2147483647 : Int32)) % (7 : Int32)) - (3 : Int32))))))
set_option maxRecDepth 65536 in
set_option maxHeartbeats 40000000 in
theorem rm0 (l : Launch) (Z : State) (az : Array Value) (hw : ∀ d ∈ tables_1, d.before az Z = true) (ws : List Jvm.Cond) (p0 : Int32) (p1 : Int32) (p2 : Int32)  (h0 : Heap) (n0 : Nat) (Z0 : n0 ≤ h0.size) :
    MetFree l x (head1 (Jvm.Cond.code x code maxLocals ret :: ws) room_1) (fun a U => a = #[(.int p0), (.int p1), (.int p2)] ∧ Z.Warmed39 U.vm ∧ U.heap = h0) (fun _ _ _ _ _ => True) (fun _ U o U' => ∃ v L, o = .returned v ∧ (QL (some (.int (F0 p0 p1 p2))) n0) v U'.heap L ∧ FrameEnd U o U' L room_1.cells room_1.slots) := by
  refine MetFree.of_bodySF (plainFor_of_name own_pn1) hisR ?_
  intro p e s m args below meth c s₁ Bd hml0 hP hK
  obtain ⟨rfl, hZ, hh⟩ := hP
  have hx := Bd.exec
  have hby := Bd.bytes
  have hml : c.maxLocals = 7 := hml0
  have hown : s.vm.findClass "com/example/canonym/canonym/iri/CharClassesIsIprivatePinLaw" = some m.cls := findClass_of_methodNamed Bd.named
  have hnm := (name_of_methodNamed Bd.named Bd.method).1
  have hlk : meth.locks = false := BodyLoose.notSynchronized Bd
  have X0 : Stand p l e room_1 s m #[(.int p0), (.int p1), (.int p2)] below meth c s₁ [] 0 0 := Stand.of_body Bd
  have e0 : s₁.heap = h0 := by rw [← hh, Bd.state]; rfl
  have N0 := Fr.nil n0
  show Go p e below s (QL (some (.int (F0 p0 p1 p2))) n0) room_1.cells room_1.slots (s₁.setTop (entryFrame m #[(.int p0), (.int p1), (.int p2)] maxLocals))
  refine Go.of (fun t k => castTop (ef_0 m p0 p1 p2) k) ?_
  show Go p e below s _ _ _ (s₁.setTop (mkF m 0 #[.val (.int p0), .val (.int p1), .val (.int p2), .unset, .unset, .unset, .unset] []))
  unfold F0
  refine Go.of (fun t k => XS.bipush X0.here hx rfl (hb hby at_0) k) ?_
  show Go p e below s _ _ _ (s₁.setTop (mkF m 2 #[.val (.int p0), .val (.int p1), .val (.int p2), .unset, .unset, .unset, .unset] [(.int (16 : Int32))]))
  obtain ⟨T1, h1, k1, X1, e1, E1, A1, st1⟩ := newP X0 hx hZ (hw _ (List.mem_of_getElem? (i := 0) rfl)) e0 (g := (mkF m 2 #[.val (.int p0), .val (.int p1), .val (.int p2), .unset, .unset, .unset, .unset] [(.int (16 : Int32))])) rfl (hb hby at_2) rfl (by decide) (cap := 16) (by decide) (by decide) (by decide) (by decide)
  obtain ⟨b1, ga1⟩ : ∃ z, z = h0.size := ⟨_, rfl⟩
  rw [← ga1] at A1 st1
  have g_b1 : n0 ≤ b1 := Nat.le_trans Z0 (Nat.le_of_eq ga1.symm)
  have sz_b1 : h0.size ≤ b1 := Nat.le_trans (Keep.refl h0 []).1 (Nat.le_of_eq ga1.symm)
  have f2 : Arv Z h1 b1 k1 .int (16 : Int32) [(.int (0 : Int32)), (.int (0 : Int32)), (.int (0 : Int32)), (.int (0 : Int32)), (.int (0 : Int32)), (.int (0 : Int32)), (.int (0 : Int32)), (.int (0 : Int32)), (.int (0 : Int32)), (.int (0 : Int32)), (.int (0 : Int32)), (.int (0 : Int32)), (.int (0 : Int32)), (.int (0 : Int32)), (.int (0 : Int32)), (.int (0 : Int32))] (.int (0 : Int32)) := (Arv.new A1 (by decide)).pad (pad_rep [] (.int (0 : Int32)) 16)
  have K1 : Keep h0 h1 [] := Keep.ext (Keep.refl h0 []) E1
  refine Go.of st1 ?_
  show Go p e below s _ _ _ (T1.setTop (mkF m 4 #[.val (.int p0), .val (.int p1), .val (.int p2), .unset, .unset, .unset, .unset] [(.ref b1)]))
  refine Go.of (fun t k => XS.dup X1.here hx rfl (hb hby at_4) rfl rfl k) ?_
  show Go p e below s _ _ _ (T1.setTop (mkF m 5 #[.val (.int p0), .val (.int p1), .val (.int p2), .unset, .unset, .unset, .unset] [(.ref b1), (.ref b1)]))
  refine Go.of (fun t k => XS.iconst X1.here hx rfl (hb hby at_5) k) ?_
  show Go p e below s _ _ _ (T1.setTop (mkF m 6 #[.val (.int p0), .val (.int p1), .val (.int p2), .unset, .unset, .unset, .unset] [(.int (0 : Int32)), (.ref b1), (.ref b1)]))
  refine Go.of (fun t k => XS.iconst X1.here hx rfl (hb hby at_6) k) ?_
  show Go p e below s _ _ _ (T1.setTop (mkF m 7 #[.val (.int p0), .val (.int p1), .val (.int p2), .unset, .unset, .unset, .unset] [(.int (0 : Int32)), (.int (0 : Int32)), (.ref b1), (.ref b1)]))
  obtain ⟨cl3, Ar3, q3, S3, M3, H3, G3⟩ := f2
  have hin3 : ¬ ((0 : Int32) < 0 ∨ cl3.slots.size ≤ ((0 : Int32)).toNatClampNeg) := (inb_of S3 ⟨by decide, by decide⟩)
  obtain ⟨T3, h3, X3, e3, W3, st3⟩ := stI X1 hx hZ e1 Ar3 (j := (0 : Int32)) hin3 (g := (mkF m 7 #[.val (.int p0), .val (.int p1), .val (.int p2), .unset, .unset, .unset, .unset] [(.int (0 : Int32)), (.int (0 : Int32)), (.ref b1), (.ref b1)])) rfl rfl (hb hby at_7)
  have f4 : Arv Z h3 b1 k1 .int (16 : Int32) [(.int (0 : Int32)), (.int (0 : Int32)), (.int (0 : Int32)), (.int (0 : Int32)), (.int (0 : Int32)), (.int (0 : Int32)), (.int (0 : Int32)), (.int (0 : Int32)), (.int (0 : Int32)), (.int (0 : Int32)), (.int (0 : Int32)), (.int (0 : Int32)), (.int (0 : Int32)), (.int (0 : Int32)), (.int (0 : Int32)), (.int (0 : Int32))] (.int (0 : Int32)) := Arv.set Ar3 q3 S3 M3 H3 G3 rfl W3 0 rfl (Nat.le_of_ble_eq_true rfl)
  have N3 := Fr.snoc X3 N0 g_b1
  have K3 : Keep h0 h3 [] := Keep.wr K1 W3 (Or.inr sz_b1)
  refine Go.of st3 ?_
  show Go p e below s _ _ _ (T3.setTop (mkF m 8 #[.val (.int p0), .val (.int p1), .val (.int p2), .unset, .unset, .unset, .unset] [(.ref b1)]))
  refine Go.of (fun t k => XS.dup X3.here hx rfl (hb hby at_8) rfl rfl k) ?_
  show Go p e below s _ _ _ (T3.setTop (mkF m 9 #[.val (.int p0), .val (.int p1), .val (.int p2), .unset, .unset, .unset, .unset] [(.ref b1), (.ref b1)]))
  refine Go.of (fun t k => XS.iconst X3.here hx rfl (hb hby at_9) k) ?_
  show Go p e below s _ _ _ (T3.setTop (mkF m 10 #[.val (.int p0), .val (.int p1), .val (.int p2), .unset, .unset, .unset, .unset] [(.int (1 : Int32)), (.ref b1), (.ref b1)]))
  refine Go.of (fun t k => XS.iconst X3.here hx rfl (hb hby at_10) k) ?_
  show Go p e below s _ _ _ (T3.setTop (mkF m 11 #[.val (.int p0), .val (.int p1), .val (.int p2), .unset, .unset, .unset, .unset] [(.int (0 : Int32)), (.int (1 : Int32)), (.ref b1), (.ref b1)]))
  obtain ⟨cl5, Ar5, q5, S5, M5, H5, G5⟩ := f4
  have hin5 : ¬ ((1 : Int32) < 0 ∨ cl5.slots.size ≤ ((1 : Int32)).toNatClampNeg) := (inb_of S5 ⟨by decide, by decide⟩)
  obtain ⟨T5, h5, X5, e5, W5, st5⟩ := stI X3 hx hZ e3 Ar5 (j := (1 : Int32)) hin5 (g := (mkF m 11 #[.val (.int p0), .val (.int p1), .val (.int p2), .unset, .unset, .unset, .unset] [(.int (0 : Int32)), (.int (1 : Int32)), (.ref b1), (.ref b1)])) rfl rfl (hb hby at_11)
  have f6 : Arv Z h5 b1 k1 .int (16 : Int32) [(.int (0 : Int32)), (.int (0 : Int32)), (.int (0 : Int32)), (.int (0 : Int32)), (.int (0 : Int32)), (.int (0 : Int32)), (.int (0 : Int32)), (.int (0 : Int32)), (.int (0 : Int32)), (.int (0 : Int32)), (.int (0 : Int32)), (.int (0 : Int32)), (.int (0 : Int32)), (.int (0 : Int32)), (.int (0 : Int32)), (.int (0 : Int32))] (.int (0 : Int32)) := Arv.set Ar5 q5 S5 M5 H5 G5 rfl W5 1 rfl (Nat.le_of_ble_eq_true rfl)
  have N5 := Fr.snoc X5 N3 g_b1
  have K5 : Keep h0 h5 [] := Keep.wr K3 W5 (Or.inr sz_b1)
  refine Go.of st5 ?_
  show Go p e below s _ _ _ (T5.setTop (mkF m 12 #[.val (.int p0), .val (.int p1), .val (.int p2), .unset, .unset, .unset, .unset] [(.ref b1)]))
  refine Go.of (fun t k => XS.dup X5.here hx rfl (hb hby at_12) rfl rfl k) ?_
  show Go p e below s _ _ _ (T5.setTop (mkF m 13 #[.val (.int p0), .val (.int p1), .val (.int p2), .unset, .unset, .unset, .unset] [(.ref b1), (.ref b1)]))
  refine Go.of (fun t k => XS.iconst X5.here hx rfl (hb hby at_13) k) ?_
  show Go p e below s _ _ _ (T5.setTop (mkF m 14 #[.val (.int p0), .val (.int p1), .val (.int p2), .unset, .unset, .unset, .unset] [(.int (2 : Int32)), (.ref b1), (.ref b1)]))
  refine Go.of (X5.ldcInt hx hown (mvT hZ (hw _ (List.mem_of_getElem? (i := 1) rfl))) (g := (mkF m 14 #[.val (.int p0), .val (.int p1), .val (.int p2), .unset, .unset, .unset, .unset] [(.int (2 : Int32)), (.ref b1), (.ref b1)])) rfl (hb hby at_14)) ?_
  show Go p e below s _ _ _ (T5.setTop (mkF m 16 #[.val (.int p0), .val (.int p1), .val (.int p2), .unset, .unset, .unset, .unset] [(.int (57344 : Int32)), (.int (2 : Int32)), (.ref b1), (.ref b1)]))
  obtain ⟨cl7, Ar7, q7, S7, M7, H7, G7⟩ := f6
  have hin7 : ¬ ((2 : Int32) < 0 ∨ cl7.slots.size ≤ ((2 : Int32)).toNatClampNeg) := (inb_of S7 ⟨by decide, by decide⟩)
  obtain ⟨T7, h7, X7, e7, W7, st7⟩ := stI X5 hx hZ e5 Ar7 (j := (2 : Int32)) hin7 (g := (mkF m 16 #[.val (.int p0), .val (.int p1), .val (.int p2), .unset, .unset, .unset, .unset] [(.int (57344 : Int32)), (.int (2 : Int32)), (.ref b1), (.ref b1)])) rfl rfl (hb hby at_16)
  have f8 : Arv Z h7 b1 k1 .int (16 : Int32) [(.int (0 : Int32)), (.int (0 : Int32)), (.int (57344 : Int32)), (.int (0 : Int32)), (.int (0 : Int32)), (.int (0 : Int32)), (.int (0 : Int32)), (.int (0 : Int32)), (.int (0 : Int32)), (.int (0 : Int32)), (.int (0 : Int32)), (.int (0 : Int32)), (.int (0 : Int32)), (.int (0 : Int32)), (.int (0 : Int32)), (.int (0 : Int32))] (.int (0 : Int32)) := Arv.set Ar7 q7 S7 M7 H7 G7 rfl W7 2 rfl (Nat.le_of_ble_eq_true rfl)
  have N7 := Fr.snoc X7 N5 g_b1
  have K7 : Keep h0 h7 [] := Keep.wr K5 W7 (Or.inr sz_b1)
  refine Go.of st7 ?_
  show Go p e below s _ _ _ (T7.setTop (mkF m 17 #[.val (.int p0), .val (.int p1), .val (.int p2), .unset, .unset, .unset, .unset] [(.ref b1)]))
  refine Go.of (fun t k => XS.dup X7.here hx rfl (hb hby at_17) rfl rfl k) ?_
  show Go p e below s _ _ _ (T7.setTop (mkF m 18 #[.val (.int p0), .val (.int p1), .val (.int p2), .unset, .unset, .unset, .unset] [(.ref b1), (.ref b1)]))
  refine Go.of (fun t k => XS.iconst X7.here hx rfl (hb hby at_18) k) ?_
  show Go p e below s _ _ _ (T7.setTop (mkF m 19 #[.val (.int p0), .val (.int p1), .val (.int p2), .unset, .unset, .unset, .unset] [(.int (3 : Int32)), (.ref b1), (.ref b1)]))
  refine Go.of (X7.ldcInt hx hown (mvT hZ (hw _ (List.mem_of_getElem? (i := 2) rfl))) (g := (mkF m 19 #[.val (.int p0), .val (.int p1), .val (.int p2), .unset, .unset, .unset, .unset] [(.int (3 : Int32)), (.ref b1), (.ref b1)])) rfl (hb hby at_19)) ?_
  show Go p e below s _ _ _ (T7.setTop (mkF m 21 #[.val (.int p0), .val (.int p1), .val (.int p2), .unset, .unset, .unset, .unset] [(.int (63743 : Int32)), (.int (3 : Int32)), (.ref b1), (.ref b1)]))
  obtain ⟨cl9, Ar9, q9, S9, M9, H9, G9⟩ := f8
  have hin9 : ¬ ((3 : Int32) < 0 ∨ cl9.slots.size ≤ ((3 : Int32)).toNatClampNeg) := (inb_of S9 ⟨by decide, by decide⟩)
  obtain ⟨T9, h9, X9, e9, W9, st9⟩ := stI X7 hx hZ e7 Ar9 (j := (3 : Int32)) hin9 (g := (mkF m 21 #[.val (.int p0), .val (.int p1), .val (.int p2), .unset, .unset, .unset, .unset] [(.int (63743 : Int32)), (.int (3 : Int32)), (.ref b1), (.ref b1)])) rfl rfl (hb hby at_21)
  have f10 : Arv Z h9 b1 k1 .int (16 : Int32) [(.int (0 : Int32)), (.int (0 : Int32)), (.int (57344 : Int32)), (.int (63743 : Int32)), (.int (0 : Int32)), (.int (0 : Int32)), (.int (0 : Int32)), (.int (0 : Int32)), (.int (0 : Int32)), (.int (0 : Int32)), (.int (0 : Int32)), (.int (0 : Int32)), (.int (0 : Int32)), (.int (0 : Int32)), (.int (0 : Int32)), (.int (0 : Int32))] (.int (0 : Int32)) := Arv.set Ar9 q9 S9 M9 H9 G9 rfl W9 3 rfl (Nat.le_of_ble_eq_true rfl)
  have N9 := Fr.snoc X9 N7 g_b1
  have K9 : Keep h0 h9 [] := Keep.wr K7 W9 (Or.inr sz_b1)
  refine Go.of st9 ?_
  show Go p e below s _ _ _ (T9.setTop (mkF m 22 #[.val (.int p0), .val (.int p1), .val (.int p2), .unset, .unset, .unset, .unset] [(.ref b1)]))
  refine Go.of (fun t k => XS.dup X9.here hx rfl (hb hby at_22) rfl rfl k) ?_
  show Go p e below s _ _ _ (T9.setTop (mkF m 23 #[.val (.int p0), .val (.int p1), .val (.int p2), .unset, .unset, .unset, .unset] [(.ref b1), (.ref b1)]))
  refine Go.of (fun t k => XS.iconst X9.here hx rfl (hb hby at_23) k) ?_
  show Go p e below s _ _ _ (T9.setTop (mkF m 24 #[.val (.int p0), .val (.int p1), .val (.int p2), .unset, .unset, .unset, .unset] [(.int (4 : Int32)), (.ref b1), (.ref b1)]))
  refine Go.of (X9.ldcInt hx hown (mvT hZ (hw _ (List.mem_of_getElem? (i := 3) rfl))) (g := (mkF m 24 #[.val (.int p0), .val (.int p1), .val (.int p2), .unset, .unset, .unset, .unset] [(.int (4 : Int32)), (.ref b1), (.ref b1)])) rfl (hb hby at_24)) ?_
  show Go p e below s _ _ _ (T9.setTop (mkF m 26 #[.val (.int p0), .val (.int p1), .val (.int p2), .unset, .unset, .unset, .unset] [(.int (983040 : Int32)), (.int (4 : Int32)), (.ref b1), (.ref b1)]))
  obtain ⟨cl11, Ar11, q11, S11, M11, H11, G11⟩ := f10
  have hin11 : ¬ ((4 : Int32) < 0 ∨ cl11.slots.size ≤ ((4 : Int32)).toNatClampNeg) := (inb_of S11 ⟨by decide, by decide⟩)
  obtain ⟨T11, h11, X11, e11, W11, st11⟩ := stI X9 hx hZ e9 Ar11 (j := (4 : Int32)) hin11 (g := (mkF m 26 #[.val (.int p0), .val (.int p1), .val (.int p2), .unset, .unset, .unset, .unset] [(.int (983040 : Int32)), (.int (4 : Int32)), (.ref b1), (.ref b1)])) rfl rfl (hb hby at_26)
  have f12 : Arv Z h11 b1 k1 .int (16 : Int32) [(.int (0 : Int32)), (.int (0 : Int32)), (.int (57344 : Int32)), (.int (63743 : Int32)), (.int (983040 : Int32)), (.int (0 : Int32)), (.int (0 : Int32)), (.int (0 : Int32)), (.int (0 : Int32)), (.int (0 : Int32)), (.int (0 : Int32)), (.int (0 : Int32)), (.int (0 : Int32)), (.int (0 : Int32)), (.int (0 : Int32)), (.int (0 : Int32))] (.int (0 : Int32)) := Arv.set Ar11 q11 S11 M11 H11 G11 rfl W11 4 rfl (Nat.le_of_ble_eq_true rfl)
  have N11 := Fr.snoc X11 N9 g_b1
  have K11 : Keep h0 h11 [] := Keep.wr K9 W11 (Or.inr sz_b1)
  refine Go.of st11 ?_
  show Go p e below s _ _ _ (T11.setTop (mkF m 27 #[.val (.int p0), .val (.int p1), .val (.int p2), .unset, .unset, .unset, .unset] [(.ref b1)]))
  refine Go.of (fun t k => XS.dup X11.here hx rfl (hb hby at_27) rfl rfl k) ?_
  show Go p e below s _ _ _ (T11.setTop (mkF m 28 #[.val (.int p0), .val (.int p1), .val (.int p2), .unset, .unset, .unset, .unset] [(.ref b1), (.ref b1)]))
  refine Go.of (fun t k => XS.iconst X11.here hx rfl (hb hby at_28) k) ?_
  show Go p e below s _ _ _ (T11.setTop (mkF m 29 #[.val (.int p0), .val (.int p1), .val (.int p2), .unset, .unset, .unset, .unset] [(.int (5 : Int32)), (.ref b1), (.ref b1)]))
  refine Go.of (X11.ldcInt hx hown (mvT hZ (hw _ (List.mem_of_getElem? (i := 4) rfl))) (g := (mkF m 29 #[.val (.int p0), .val (.int p1), .val (.int p2), .unset, .unset, .unset, .unset] [(.int (5 : Int32)), (.ref b1), (.ref b1)])) rfl (hb hby at_29)) ?_
  show Go p e below s _ _ _ (T11.setTop (mkF m 31 #[.val (.int p0), .val (.int p1), .val (.int p2), .unset, .unset, .unset, .unset] [(.int (1048573 : Int32)), (.int (5 : Int32)), (.ref b1), (.ref b1)]))
  obtain ⟨cl13, Ar13, q13, S13, M13, H13, G13⟩ := f12
  have hin13 : ¬ ((5 : Int32) < 0 ∨ cl13.slots.size ≤ ((5 : Int32)).toNatClampNeg) := (inb_of S13 ⟨by decide, by decide⟩)
  obtain ⟨T13, h13, X13, e13, W13, st13⟩ := stI X11 hx hZ e11 Ar13 (j := (5 : Int32)) hin13 (g := (mkF m 31 #[.val (.int p0), .val (.int p1), .val (.int p2), .unset, .unset, .unset, .unset] [(.int (1048573 : Int32)), (.int (5 : Int32)), (.ref b1), (.ref b1)])) rfl rfl (hb hby at_31)
  have f14 : Arv Z h13 b1 k1 .int (16 : Int32) [(.int (0 : Int32)), (.int (0 : Int32)), (.int (57344 : Int32)), (.int (63743 : Int32)), (.int (983040 : Int32)), (.int (1048573 : Int32)), (.int (0 : Int32)), (.int (0 : Int32)), (.int (0 : Int32)), (.int (0 : Int32)), (.int (0 : Int32)), (.int (0 : Int32)), (.int (0 : Int32)), (.int (0 : Int32)), (.int (0 : Int32)), (.int (0 : Int32))] (.int (0 : Int32)) := Arv.set Ar13 q13 S13 M13 H13 G13 rfl W13 5 rfl (Nat.le_of_ble_eq_true rfl)
  have N13 := Fr.snoc X13 N11 g_b1
  have K13 : Keep h0 h13 [] := Keep.wr K11 W13 (Or.inr sz_b1)
  refine Go.of st13 ?_
  show Go p e below s _ _ _ (T13.setTop (mkF m 32 #[.val (.int p0), .val (.int p1), .val (.int p2), .unset, .unset, .unset, .unset] [(.ref b1)]))
  refine Go.of (fun t k => XS.dup X13.here hx rfl (hb hby at_32) rfl rfl k) ?_
  show Go p e below s _ _ _ (T13.setTop (mkF m 33 #[.val (.int p0), .val (.int p1), .val (.int p2), .unset, .unset, .unset, .unset] [(.ref b1), (.ref b1)]))
  refine Go.of (fun t k => XS.bipush X13.here hx rfl (hb hby at_33) k) ?_
  show Go p e below s _ _ _ (T13.setTop (mkF m 35 #[.val (.int p0), .val (.int p1), .val (.int p2), .unset, .unset, .unset, .unset] [(.int (6 : Int32)), (.ref b1), (.ref b1)]))
  refine Go.of (X13.ldcInt hx hown (mvT hZ (hw _ (List.mem_of_getElem? (i := 5) rfl))) (g := (mkF m 35 #[.val (.int p0), .val (.int p1), .val (.int p2), .unset, .unset, .unset, .unset] [(.int (6 : Int32)), (.ref b1), (.ref b1)])) rfl (hb hby at_35)) ?_
  show Go p e below s _ _ _ (T13.setTop (mkF m 37 #[.val (.int p0), .val (.int p1), .val (.int p2), .unset, .unset, .unset, .unset] [(.int (1048576 : Int32)), (.int (6 : Int32)), (.ref b1), (.ref b1)]))
  obtain ⟨cl15, Ar15, q15, S15, M15, H15, G15⟩ := f14
  have hin15 : ¬ ((6 : Int32) < 0 ∨ cl15.slots.size ≤ ((6 : Int32)).toNatClampNeg) := (inb_of S15 ⟨by decide, by decide⟩)
  obtain ⟨T15, h15, X15, e15, W15, st15⟩ := stI X13 hx hZ e13 Ar15 (j := (6 : Int32)) hin15 (g := (mkF m 37 #[.val (.int p0), .val (.int p1), .val (.int p2), .unset, .unset, .unset, .unset] [(.int (1048576 : Int32)), (.int (6 : Int32)), (.ref b1), (.ref b1)])) rfl rfl (hb hby at_37)
  have f16 : Arv Z h15 b1 k1 .int (16 : Int32) [(.int (0 : Int32)), (.int (0 : Int32)), (.int (57344 : Int32)), (.int (63743 : Int32)), (.int (983040 : Int32)), (.int (1048573 : Int32)), (.int (1048576 : Int32)), (.int (0 : Int32)), (.int (0 : Int32)), (.int (0 : Int32)), (.int (0 : Int32)), (.int (0 : Int32)), (.int (0 : Int32)), (.int (0 : Int32)), (.int (0 : Int32)), (.int (0 : Int32))] (.int (0 : Int32)) := Arv.set Ar15 q15 S15 M15 H15 G15 rfl W15 6 rfl (Nat.le_of_ble_eq_true rfl)
  have N15 := Fr.snoc X15 N13 g_b1
  have K15 : Keep h0 h15 [] := Keep.wr K13 W15 (Or.inr sz_b1)
  refine Go.of st15 ?_
  show Go p e below s _ _ _ (T15.setTop (mkF m 38 #[.val (.int p0), .val (.int p1), .val (.int p2), .unset, .unset, .unset, .unset] [(.ref b1)]))
  refine Go.of (fun t k => XS.dup X15.here hx rfl (hb hby at_38) rfl rfl k) ?_
  show Go p e below s _ _ _ (T15.setTop (mkF m 39 #[.val (.int p0), .val (.int p1), .val (.int p2), .unset, .unset, .unset, .unset] [(.ref b1), (.ref b1)]))
  refine Go.of (fun t k => XS.bipush X15.here hx rfl (hb hby at_39) k) ?_
  show Go p e below s _ _ _ (T15.setTop (mkF m 41 #[.val (.int p0), .val (.int p1), .val (.int p2), .unset, .unset, .unset, .unset] [(.int (7 : Int32)), (.ref b1), (.ref b1)]))
  refine Go.of (X15.ldcInt hx hown (mvT hZ (hw _ (List.mem_of_getElem? (i := 6) rfl))) (g := (mkF m 41 #[.val (.int p0), .val (.int p1), .val (.int p2), .unset, .unset, .unset, .unset] [(.int (7 : Int32)), (.ref b1), (.ref b1)])) rfl (hb hby at_41)) ?_
  show Go p e below s _ _ _ (T15.setTop (mkF m 43 #[.val (.int p0), .val (.int p1), .val (.int p2), .unset, .unset, .unset, .unset] [(.int (1114109 : Int32)), (.int (7 : Int32)), (.ref b1), (.ref b1)]))
  obtain ⟨cl17, Ar17, q17, S17, M17, H17, G17⟩ := f16
  have hin17 : ¬ ((7 : Int32) < 0 ∨ cl17.slots.size ≤ ((7 : Int32)).toNatClampNeg) := (inb_of S17 ⟨by decide, by decide⟩)
  obtain ⟨T17, h17, X17, e17, W17, st17⟩ := stI X15 hx hZ e15 Ar17 (j := (7 : Int32)) hin17 (g := (mkF m 43 #[.val (.int p0), .val (.int p1), .val (.int p2), .unset, .unset, .unset, .unset] [(.int (1114109 : Int32)), (.int (7 : Int32)), (.ref b1), (.ref b1)])) rfl rfl (hb hby at_43)
  have f18 : Arv Z h17 b1 k1 .int (16 : Int32) [(.int (0 : Int32)), (.int (0 : Int32)), (.int (57344 : Int32)), (.int (63743 : Int32)), (.int (983040 : Int32)), (.int (1048573 : Int32)), (.int (1048576 : Int32)), (.int (1114109 : Int32)), (.int (0 : Int32)), (.int (0 : Int32)), (.int (0 : Int32)), (.int (0 : Int32)), (.int (0 : Int32)), (.int (0 : Int32)), (.int (0 : Int32)), (.int (0 : Int32))] (.int (0 : Int32)) := Arv.set Ar17 q17 S17 M17 H17 G17 rfl W17 7 rfl (Nat.le_of_ble_eq_true rfl)
  have N17 := Fr.snoc X17 N15 g_b1
  have K17 : Keep h0 h17 [] := Keep.wr K15 W17 (Or.inr sz_b1)
  refine Go.of st17 ?_
  show Go p e below s _ _ _ (T17.setTop (mkF m 44 #[.val (.int p0), .val (.int p1), .val (.int p2), .unset, .unset, .unset, .unset] [(.ref b1)]))
  refine Go.of (fun t k => XS.dup X17.here hx rfl (hb hby at_44) rfl rfl k) ?_
  show Go p e below s _ _ _ (T17.setTop (mkF m 45 #[.val (.int p0), .val (.int p1), .val (.int p2), .unset, .unset, .unset, .unset] [(.ref b1), (.ref b1)]))
  refine Go.of (fun t k => XS.bipush X17.here hx rfl (hb hby at_45) k) ?_
  show Go p e below s _ _ _ (T17.setTop (mkF m 47 #[.val (.int p0), .val (.int p1), .val (.int p2), .unset, .unset, .unset, .unset] [(.int (8 : Int32)), (.ref b1), (.ref b1)]))
  refine Go.of (X17.ldcInt hx hown (mvT hZ (hw _ (List.mem_of_getElem? (i := 7) rfl))) (g := (mkF m 47 #[.val (.int p0), .val (.int p1), .val (.int p2), .unset, .unset, .unset, .unset] [(.int (8 : Int32)), (.ref b1), (.ref b1)])) rfl (hb hby at_47)) ?_
  show Go p e below s _ _ _ (T17.setTop (mkF m 49 #[.val (.int p0), .val (.int p1), .val (.int p2), .unset, .unset, .unset, .unset] [(.int (1114111 : Int32)), (.int (8 : Int32)), (.ref b1), (.ref b1)]))
  obtain ⟨cl19, Ar19, q19, S19, M19, H19, G19⟩ := f18
  have hin19 : ¬ ((8 : Int32) < 0 ∨ cl19.slots.size ≤ ((8 : Int32)).toNatClampNeg) := (inb_of S19 ⟨by decide, by decide⟩)
  obtain ⟨T19, h19, X19, e19, W19, st19⟩ := stI X17 hx hZ e17 Ar19 (j := (8 : Int32)) hin19 (g := (mkF m 49 #[.val (.int p0), .val (.int p1), .val (.int p2), .unset, .unset, .unset, .unset] [(.int (1114111 : Int32)), (.int (8 : Int32)), (.ref b1), (.ref b1)])) rfl rfl (hb hby at_49)
  have f20 : Arv Z h19 b1 k1 .int (16 : Int32) [(.int (0 : Int32)), (.int (0 : Int32)), (.int (57344 : Int32)), (.int (63743 : Int32)), (.int (983040 : Int32)), (.int (1048573 : Int32)), (.int (1048576 : Int32)), (.int (1114109 : Int32)), (.int (1114111 : Int32)), (.int (0 : Int32)), (.int (0 : Int32)), (.int (0 : Int32)), (.int (0 : Int32)), (.int (0 : Int32)), (.int (0 : Int32)), (.int (0 : Int32))] (.int (0 : Int32)) := Arv.set Ar19 q19 S19 M19 H19 G19 rfl W19 8 rfl (Nat.le_of_ble_eq_true rfl)
  have N19 := Fr.snoc X19 N17 g_b1
  have K19 : Keep h0 h19 [] := Keep.wr K17 W19 (Or.inr sz_b1)
  refine Go.of st19 ?_
  show Go p e below s _ _ _ (T19.setTop (mkF m 50 #[.val (.int p0), .val (.int p1), .val (.int p2), .unset, .unset, .unset, .unset] [(.ref b1)]))
  refine Go.of (fun t k => XS.dup X19.here hx rfl (hb hby at_50) rfl rfl k) ?_
  show Go p e below s _ _ _ (T19.setTop (mkF m 51 #[.val (.int p0), .val (.int p1), .val (.int p2), .unset, .unset, .unset, .unset] [(.ref b1), (.ref b1)]))
  refine Go.of (fun t k => XS.bipush X19.here hx rfl (hb hby at_51) k) ?_
  show Go p e below s _ _ _ (T19.setTop (mkF m 53 #[.val (.int p0), .val (.int p1), .val (.int p2), .unset, .unset, .unset, .unset] [(.int (9 : Int32)), (.ref b1), (.ref b1)]))
  refine Go.of (X19.ldcInt hx hown (mvT hZ (hw _ (List.mem_of_getElem? (i := 8) rfl))) (g := (mkF m 53 #[.val (.int p0), .val (.int p1), .val (.int p2), .unset, .unset, .unset, .unset] [(.int (9 : Int32)), (.ref b1), (.ref b1)])) rfl (hb hby at_53)) ?_
  show Go p e below s _ _ _ (T19.setTop (mkF m 55 #[.val (.int p0), .val (.int p1), .val (.int p2), .unset, .unset, .unset, .unset] [(.int (65535 : Int32)), (.int (9 : Int32)), (.ref b1), (.ref b1)]))
  obtain ⟨cl21, Ar21, q21, S21, M21, H21, G21⟩ := f20
  have hin21 : ¬ ((9 : Int32) < 0 ∨ cl21.slots.size ≤ ((9 : Int32)).toNatClampNeg) := (inb_of S21 ⟨by decide, by decide⟩)
  obtain ⟨T21, h21, X21, e21, W21, st21⟩ := stI X19 hx hZ e19 Ar21 (j := (9 : Int32)) hin21 (g := (mkF m 55 #[.val (.int p0), .val (.int p1), .val (.int p2), .unset, .unset, .unset, .unset] [(.int (65535 : Int32)), (.int (9 : Int32)), (.ref b1), (.ref b1)])) rfl rfl (hb hby at_55)
  have f22 : Arv Z h21 b1 k1 .int (16 : Int32) [(.int (0 : Int32)), (.int (0 : Int32)), (.int (57344 : Int32)), (.int (63743 : Int32)), (.int (983040 : Int32)), (.int (1048573 : Int32)), (.int (1048576 : Int32)), (.int (1114109 : Int32)), (.int (1114111 : Int32)), (.int (65535 : Int32)), (.int (0 : Int32)), (.int (0 : Int32)), (.int (0 : Int32)), (.int (0 : Int32)), (.int (0 : Int32)), (.int (0 : Int32))] (.int (0 : Int32)) := Arv.set Ar21 q21 S21 M21 H21 G21 rfl W21 9 rfl (Nat.le_of_ble_eq_true rfl)
  have N21 := Fr.snoc X21 N19 g_b1
  have K21 : Keep h0 h21 [] := Keep.wr K19 W21 (Or.inr sz_b1)
  refine Go.of st21 ?_
  show Go p e below s _ _ _ (T21.setTop (mkF m 56 #[.val (.int p0), .val (.int p1), .val (.int p2), .unset, .unset, .unset, .unset] [(.ref b1)]))
  refine Go.of (fun t k => XS.dup X21.here hx rfl (hb hby at_56) rfl rfl k) ?_
  show Go p e below s _ _ _ (T21.setTop (mkF m 57 #[.val (.int p0), .val (.int p1), .val (.int p2), .unset, .unset, .unset, .unset] [(.ref b1), (.ref b1)]))
  refine Go.of (fun t k => XS.bipush X21.here hx rfl (hb hby at_57) k) ?_
  show Go p e below s _ _ _ (T21.setTop (mkF m 59 #[.val (.int p0), .val (.int p1), .val (.int p2), .unset, .unset, .unset, .unset] [(.int (10 : Int32)), (.ref b1), (.ref b1)]))
  refine Go.of (X21.ldcInt hx hown (mvT hZ (hw _ (List.mem_of_getElem? (i := 9) rfl))) (g := (mkF m 59 #[.val (.int p0), .val (.int p1), .val (.int p2), .unset, .unset, .unset, .unset] [(.int (10 : Int32)), (.ref b1), (.ref b1)])) rfl (hb hby at_59)) ?_
  show Go p e below s _ _ _ (T21.setTop (mkF m 61 #[.val (.int p0), .val (.int p1), .val (.int p2), .unset, .unset, .unset, .unset] [(.int (983037 : Int32)), (.int (10 : Int32)), (.ref b1), (.ref b1)]))
  obtain ⟨cl23, Ar23, q23, S23, M23, H23, G23⟩ := f22
  have hin23 : ¬ ((10 : Int32) < 0 ∨ cl23.slots.size ≤ ((10 : Int32)).toNatClampNeg) := (inb_of S23 ⟨by decide, by decide⟩)
  obtain ⟨T23, h23, X23, e23, W23, st23⟩ := stI X21 hx hZ e21 Ar23 (j := (10 : Int32)) hin23 (g := (mkF m 61 #[.val (.int p0), .val (.int p1), .val (.int p2), .unset, .unset, .unset, .unset] [(.int (983037 : Int32)), (.int (10 : Int32)), (.ref b1), (.ref b1)])) rfl rfl (hb hby at_61)
  have f24 : Arv Z h23 b1 k1 .int (16 : Int32) [(.int (0 : Int32)), (.int (0 : Int32)), (.int (57344 : Int32)), (.int (63743 : Int32)), (.int (983040 : Int32)), (.int (1048573 : Int32)), (.int (1048576 : Int32)), (.int (1114109 : Int32)), (.int (1114111 : Int32)), (.int (65535 : Int32)), (.int (983037 : Int32)), (.int (0 : Int32)), (.int (0 : Int32)), (.int (0 : Int32)), (.int (0 : Int32)), (.int (0 : Int32))] (.int (0 : Int32)) := Arv.set Ar23 q23 S23 M23 H23 G23 rfl W23 10 rfl (Nat.le_of_ble_eq_true rfl)
  have N23 := Fr.snoc X23 N21 g_b1
  have K23 : Keep h0 h23 [] := Keep.wr K21 W23 (Or.inr sz_b1)
  refine Go.of st23 ?_
  show Go p e below s _ _ _ (T23.setTop (mkF m 62 #[.val (.int p0), .val (.int p1), .val (.int p2), .unset, .unset, .unset, .unset] [(.ref b1)]))
  refine Go.of (fun t k => XS.dup X23.here hx rfl (hb hby at_62) rfl rfl k) ?_
  show Go p e below s _ _ _ (T23.setTop (mkF m 63 #[.val (.int p0), .val (.int p1), .val (.int p2), .unset, .unset, .unset, .unset] [(.ref b1), (.ref b1)]))
  refine Go.of (fun t k => XS.bipush X23.here hx rfl (hb hby at_63) k) ?_
  show Go p e below s _ _ _ (T23.setTop (mkF m 65 #[.val (.int p0), .val (.int p1), .val (.int p2), .unset, .unset, .unset, .unset] [(.int (11 : Int32)), (.ref b1), (.ref b1)]))
  refine Go.of (X23.ldcInt hx hown (mvT hZ (hw _ (List.mem_of_getElem? (i := 10) rfl))) (g := (mkF m 65 #[.val (.int p0), .val (.int p1), .val (.int p2), .unset, .unset, .unset, .unset] [(.int (11 : Int32)), (.ref b1), (.ref b1)])) rfl (hb hby at_65)) ?_
  show Go p e below s _ _ _ (T23.setTop (mkF m 67 #[.val (.int p0), .val (.int p1), .val (.int p2), .unset, .unset, .unset, .unset] [(.int (57343 : Int32)), (.int (11 : Int32)), (.ref b1), (.ref b1)]))
  obtain ⟨cl25, Ar25, q25, S25, M25, H25, G25⟩ := f24
  have hin25 : ¬ ((11 : Int32) < 0 ∨ cl25.slots.size ≤ ((11 : Int32)).toNatClampNeg) := (inb_of S25 ⟨by decide, by decide⟩)
  obtain ⟨T25, h25, X25, e25, W25, st25⟩ := stI X23 hx hZ e23 Ar25 (j := (11 : Int32)) hin25 (g := (mkF m 67 #[.val (.int p0), .val (.int p1), .val (.int p2), .unset, .unset, .unset, .unset] [(.int (57343 : Int32)), (.int (11 : Int32)), (.ref b1), (.ref b1)])) rfl rfl (hb hby at_67)
  have f26 : Arv Z h25 b1 k1 .int (16 : Int32) [(.int (0 : Int32)), (.int (0 : Int32)), (.int (57344 : Int32)), (.int (63743 : Int32)), (.int (983040 : Int32)), (.int (1048573 : Int32)), (.int (1048576 : Int32)), (.int (1114109 : Int32)), (.int (1114111 : Int32)), (.int (65535 : Int32)), (.int (983037 : Int32)), (.int (57343 : Int32)), (.int (0 : Int32)), (.int (0 : Int32)), (.int (0 : Int32)), (.int (0 : Int32))] (.int (0 : Int32)) := Arv.set Ar25 q25 S25 M25 H25 G25 rfl W25 11 rfl (Nat.le_of_ble_eq_true rfl)
  have N25 := Fr.snoc X25 N23 g_b1
  have K25 : Keep h0 h25 [] := Keep.wr K23 W25 (Or.inr sz_b1)
  refine Go.of st25 ?_
  show Go p e below s _ _ _ (T25.setTop (mkF m 68 #[.val (.int p0), .val (.int p1), .val (.int p2), .unset, .unset, .unset, .unset] [(.ref b1)]))
  refine Go.of (fun t k => XS.dup X25.here hx rfl (hb hby at_68) rfl rfl k) ?_
  show Go p e below s _ _ _ (T25.setTop (mkF m 69 #[.val (.int p0), .val (.int p1), .val (.int p2), .unset, .unset, .unset, .unset] [(.ref b1), (.ref b1)]))
  refine Go.of (fun t k => XS.bipush X25.here hx rfl (hb hby at_69) k) ?_
  show Go p e below s _ _ _ (T25.setTop (mkF m 71 #[.val (.int p0), .val (.int p1), .val (.int p2), .unset, .unset, .unset, .unset] [(.int (12 : Int32)), (.ref b1), (.ref b1)]))
  refine Go.of (X25.ldcInt hx hown (mvT hZ (hw _ (List.mem_of_getElem? (i := 11) rfl))) (g := (mkF m 71 #[.val (.int p0), .val (.int p1), .val (.int p2), .unset, .unset, .unset, .unset] [(.int (12 : Int32)), (.ref b1), (.ref b1)])) rfl (hb hby at_71)) ?_
  show Go p e below s _ _ _ (T25.setTop (mkF m 73 #[.val (.int p0), .val (.int p1), .val (.int p2), .unset, .unset, .unset, .unset] [(.int (63744 : Int32)), (.int (12 : Int32)), (.ref b1), (.ref b1)]))
  obtain ⟨cl27, Ar27, q27, S27, M27, H27, G27⟩ := f26
  have hin27 : ¬ ((12 : Int32) < 0 ∨ cl27.slots.size ≤ ((12 : Int32)).toNatClampNeg) := (inb_of S27 ⟨by decide, by decide⟩)
  obtain ⟨T27, h27, X27, e27, W27, st27⟩ := stI X25 hx hZ e25 Ar27 (j := (12 : Int32)) hin27 (g := (mkF m 73 #[.val (.int p0), .val (.int p1), .val (.int p2), .unset, .unset, .unset, .unset] [(.int (63744 : Int32)), (.int (12 : Int32)), (.ref b1), (.ref b1)])) rfl rfl (hb hby at_73)
  have f28 : Arv Z h27 b1 k1 .int (16 : Int32) [(.int (0 : Int32)), (.int (0 : Int32)), (.int (57344 : Int32)), (.int (63743 : Int32)), (.int (983040 : Int32)), (.int (1048573 : Int32)), (.int (1048576 : Int32)), (.int (1114109 : Int32)), (.int (1114111 : Int32)), (.int (65535 : Int32)), (.int (983037 : Int32)), (.int (57343 : Int32)), (.int (63744 : Int32)), (.int (0 : Int32)), (.int (0 : Int32)), (.int (0 : Int32))] (.int (0 : Int32)) := Arv.set Ar27 q27 S27 M27 H27 G27 rfl W27 12 rfl (Nat.le_of_ble_eq_true rfl)
  have N27 := Fr.snoc X27 N25 g_b1
  have K27 : Keep h0 h27 [] := Keep.wr K25 W27 (Or.inr sz_b1)
  refine Go.of st27 ?_
  show Go p e below s _ _ _ (T27.setTop (mkF m 74 #[.val (.int p0), .val (.int p1), .val (.int p2), .unset, .unset, .unset, .unset] [(.ref b1)]))
  refine Go.of (fun t k => XS.dup X27.here hx rfl (hb hby at_74) rfl rfl k) ?_
  show Go p e below s _ _ _ (T27.setTop (mkF m 75 #[.val (.int p0), .val (.int p1), .val (.int p2), .unset, .unset, .unset, .unset] [(.ref b1), (.ref b1)]))
  refine Go.of (fun t k => XS.bipush X27.here hx rfl (hb hby at_75) k) ?_
  show Go p e below s _ _ _ (T27.setTop (mkF m 77 #[.val (.int p0), .val (.int p1), .val (.int p2), .unset, .unset, .unset, .unset] [(.int (13 : Int32)), (.ref b1), (.ref b1)]))
  refine Go.of (X27.ldcInt hx hown (mvT hZ (hw _ (List.mem_of_getElem? (i := 12) rfl))) (g := (mkF m 77 #[.val (.int p0), .val (.int p1), .val (.int p2), .unset, .unset, .unset, .unset] [(.int (13 : Int32)), (.ref b1), (.ref b1)])) rfl (hb hby at_77)) ?_
  show Go p e below s _ _ _ (T27.setTop (mkF m 79 #[.val (.int p0), .val (.int p1), .val (.int p2), .unset, .unset, .unset, .unset] [(.int (1114112 : Int32)), (.int (13 : Int32)), (.ref b1), (.ref b1)]))
  obtain ⟨cl29, Ar29, q29, S29, M29, H29, G29⟩ := f28
  have hin29 : ¬ ((13 : Int32) < 0 ∨ cl29.slots.size ≤ ((13 : Int32)).toNatClampNeg) := (inb_of S29 ⟨by decide, by decide⟩)
  obtain ⟨T29, h29, X29, e29, W29, st29⟩ := stI X27 hx hZ e27 Ar29 (j := (13 : Int32)) hin29 (g := (mkF m 79 #[.val (.int p0), .val (.int p1), .val (.int p2), .unset, .unset, .unset, .unset] [(.int (1114112 : Int32)), (.int (13 : Int32)), (.ref b1), (.ref b1)])) rfl rfl (hb hby at_79)
  have f30 : Arv Z h29 b1 k1 .int (16 : Int32) [(.int (0 : Int32)), (.int (0 : Int32)), (.int (57344 : Int32)), (.int (63743 : Int32)), (.int (983040 : Int32)), (.int (1048573 : Int32)), (.int (1048576 : Int32)), (.int (1114109 : Int32)), (.int (1114111 : Int32)), (.int (65535 : Int32)), (.int (983037 : Int32)), (.int (57343 : Int32)), (.int (63744 : Int32)), (.int (1114112 : Int32)), (.int (0 : Int32)), (.int (0 : Int32))] (.int (0 : Int32)) := Arv.set Ar29 q29 S29 M29 H29 G29 rfl W29 13 rfl (Nat.le_of_ble_eq_true rfl)
  have N29 := Fr.snoc X29 N27 g_b1
  have K29 : Keep h0 h29 [] := Keep.wr K27 W29 (Or.inr sz_b1)
  refine Go.of st29 ?_
  show Go p e below s _ _ _ (T29.setTop (mkF m 80 #[.val (.int p0), .val (.int p1), .val (.int p2), .unset, .unset, .unset, .unset] [(.ref b1)]))
  refine Go.of (fun t k => XS.dup X29.here hx rfl (hb hby at_80) rfl rfl k) ?_
  show Go p e below s _ _ _ (T29.setTop (mkF m 81 #[.val (.int p0), .val (.int p1), .val (.int p2), .unset, .unset, .unset, .unset] [(.ref b1), (.ref b1)]))
  refine Go.of (fun t k => XS.bipush X29.here hx rfl (hb hby at_81) k) ?_
  show Go p e below s _ _ _ (T29.setTop (mkF m 83 #[.val (.int p0), .val (.int p1), .val (.int p2), .unset, .unset, .unset, .unset] [(.int (14 : Int32)), (.ref b1), (.ref b1)]))
  refine Go.of (X29.ldcInt hx hown (mvT hZ (hw _ (List.mem_of_getElem? (i := 13) rfl))) (g := (mkF m 83 #[.val (.int p0), .val (.int p1), .val (.int p2), .unset, .unset, .unset, .unset] [(.int (14 : Int32)), (.ref b1), (.ref b1)])) rfl (hb hby at_83)) ?_
  show Go p e below s _ _ _ (T29.setTop (mkF m 85 #[.val (.int p0), .val (.int p1), .val (.int p2), .unset, .unset, .unset, .unset] [(.int (2147483647 : Int32)), (.int (14 : Int32)), (.ref b1), (.ref b1)]))
  obtain ⟨cl31, Ar31, q31, S31, M31, H31, G31⟩ := f30
  have hin31 : ¬ ((14 : Int32) < 0 ∨ cl31.slots.size ≤ ((14 : Int32)).toNatClampNeg) := (inb_of S31 ⟨by decide, by decide⟩)
  obtain ⟨T31, h31, X31, e31, W31, st31⟩ := stI X29 hx hZ e29 Ar31 (j := (14 : Int32)) hin31 (g := (mkF m 85 #[.val (.int p0), .val (.int p1), .val (.int p2), .unset, .unset, .unset, .unset] [(.int (2147483647 : Int32)), (.int (14 : Int32)), (.ref b1), (.ref b1)])) rfl rfl (hb hby at_85)
  have f32 : Arv Z h31 b1 k1 .int (16 : Int32) [(.int (0 : Int32)), (.int (0 : Int32)), (.int (57344 : Int32)), (.int (63743 : Int32)), (.int (983040 : Int32)), (.int (1048573 : Int32)), (.int (1048576 : Int32)), (.int (1114109 : Int32)), (.int (1114111 : Int32)), (.int (65535 : Int32)), (.int (983037 : Int32)), (.int (57343 : Int32)), (.int (63744 : Int32)), (.int (1114112 : Int32)), (.int (2147483647 : Int32)), (.int (0 : Int32))] (.int (0 : Int32)) := Arv.set Ar31 q31 S31 M31 H31 G31 rfl W31 14 rfl (Nat.le_of_ble_eq_true rfl)
  have N31 := Fr.snoc X31 N29 g_b1
  have K31 : Keep h0 h31 [] := Keep.wr K29 W31 (Or.inr sz_b1)
  refine Go.of st31 ?_
  show Go p e below s _ _ _ (T31.setTop (mkF m 86 #[.val (.int p0), .val (.int p1), .val (.int p2), .unset, .unset, .unset, .unset] [(.ref b1)]))
  refine Go.of (fun t k => XS.dup X31.here hx rfl (hb hby at_86) rfl rfl k) ?_
  show Go p e below s _ _ _ (T31.setTop (mkF m 87 #[.val (.int p0), .val (.int p1), .val (.int p2), .unset, .unset, .unset, .unset] [(.ref b1), (.ref b1)]))
  refine Go.of (fun t k => XS.bipush X31.here hx rfl (hb hby at_87) k) ?_
  show Go p e below s _ _ _ (T31.setTop (mkF m 89 #[.val (.int p0), .val (.int p1), .val (.int p2), .unset, .unset, .unset, .unset] [(.int (15 : Int32)), (.ref b1), (.ref b1)]))
  refine Go.of (X31.ldcInt hx hown (mvT hZ (hw _ (List.mem_of_getElem? (i := 14) rfl))) (g := (mkF m 89 #[.val (.int p0), .val (.int p1), .val (.int p2), .unset, .unset, .unset, .unset] [(.int (15 : Int32)), (.ref b1), (.ref b1)])) rfl (hb hby at_89)) ?_
  show Go p e below s _ _ _ (T31.setTop (mkF m 91 #[.val (.int p0), .val (.int p1), .val (.int p2), .unset, .unset, .unset, .unset] [(.int (-2147483646 : Int32)), (.int (15 : Int32)), (.ref b1), (.ref b1)]))
  obtain ⟨cl33, Ar33, q33, S33, M33, H33, G33⟩ := f32
  have hin33 : ¬ ((15 : Int32) < 0 ∨ cl33.slots.size ≤ ((15 : Int32)).toNatClampNeg) := (inb_of S33 ⟨by decide, by decide⟩)
  obtain ⟨T33, h33, X33, e33, W33, st33⟩ := stI X31 hx hZ e31 Ar33 (j := (15 : Int32)) hin33 (g := (mkF m 91 #[.val (.int p0), .val (.int p1), .val (.int p2), .unset, .unset, .unset, .unset] [(.int (-2147483646 : Int32)), (.int (15 : Int32)), (.ref b1), (.ref b1)])) rfl rfl (hb hby at_91)
  have f34 : Arv Z h33 b1 k1 .int (16 : Int32) [(.int (0 : Int32)), (.int (0 : Int32)), (.int (57344 : Int32)), (.int (63743 : Int32)), (.int (983040 : Int32)), (.int (1048573 : Int32)), (.int (1048576 : Int32)), (.int (1114109 : Int32)), (.int (1114111 : Int32)), (.int (65535 : Int32)), (.int (983037 : Int32)), (.int (57343 : Int32)), (.int (63744 : Int32)), (.int (1114112 : Int32)), (.int (2147483647 : Int32)), (.int (-2147483646 : Int32))] (.int (0 : Int32)) := Arv.set Ar33 q33 S33 M33 H33 G33 rfl W33 15 rfl (Nat.le_of_ble_eq_true rfl)
  have N33 := Fr.snoc X33 N31 g_b1
  have K33 : Keep h0 h33 [] := Keep.wr K31 W33 (Or.inr sz_b1)
  refine Go.of st33 ?_
  show Go p e below s _ _ _ (T33.setTop (mkF m 92 #[.val (.int p0), .val (.int p1), .val (.int p2), .unset, .unset, .unset, .unset] [(.ref b1)]))
  refine Go.of (fun t k => XS.astoreN X33.here hx rfl (hb hby at_92) rfl rfl (l' := #[.val (.int p0), .val (.int p1), .val (.int p2), .val (.ref b1), .unset, .unset, .unset]) rfl k) ?_
  show Go p e below s _ _ _ (T33.setTop (mkF m 93 #[.val (.int p0), .val (.int p1), .val (.int p2), .val (.ref b1), .unset, .unset, .unset] []))
  refine Go.of (fun t k => XS.iloadN X33.here hx rfl (hb hby at_93) rfl k) ?_
  show Go p e below s _ _ _ (T33.setTop (mkF m 94 #[.val (.int p0), .val (.int p1), .val (.int p2), .val (.ref b1), .unset, .unset, .unset] [(.int p1)]))
  refine Go.of (fun t k => XS.bipush X33.here hx rfl (hb hby at_94) k) ?_
  show Go p e below s _ _ _ (T33.setTop (mkF m 96 #[.val (.int p0), .val (.int p1), .val (.int p2), .val (.ref b1), .unset, .unset, .unset] [(.int (15 : Int32)), (.int p1)]))
  refine Go.of (fun t k => XS.iand X33.here hx rfl (hb hby at_96) rfl k) ?_
  show Go p e below s _ _ _ (T33.setTop (mkF m 97 #[.val (.int p0), .val (.int p1), .val (.int p2), .val (.ref b1), .unset, .unset, .unset] [(.int (p1 &&& (15 : Int32)))]))
  refine Go.of (fun t k => XS.istore X33.here hx rfl (hb hby at_97) rfl (l' := #[.val (.int p0), .val (.int p1), .val (.int p2), .val (.ref b1), .val (.int (p1 &&& (15 : Int32))), .unset, .unset]) rfl k) ?_
  show Go p e below s _ _ _ (T33.setTop (mkF m 99 #[.val (.int p0), .val (.int p1), .val (.int p2), .val (.ref b1), .val (.int (p1 &&& (15 : Int32))), .unset, .unset] []))
  refine Go.of (fun t k => XS.iloadN X33.here hx rfl (hb hby at_99) rfl k) ?_
  show Go p e below s _ _ _ (T33.setTop (mkF m 100 #[.val (.int p0), .val (.int p1), .val (.int p2), .val (.ref b1), .val (.int (p1 &&& (15 : Int32))), .unset, .unset] [(.int p2)]))
  refine Go.of (X33.ldcInt hx hown (mvT hZ (hw _ (List.mem_of_getElem? (i := 13) rfl))) (g := (mkF m 100 #[.val (.int p0), .val (.int p1), .val (.int p2), .val (.ref b1), .val (.int (p1 &&& (15 : Int32))), .unset, .unset] [(.int p2)])) rfl (hb hby at_100)) ?_
  show Go p e below s _ _ _ (T33.setTop (mkF m 102 #[.val (.int p0), .val (.int p1), .val (.int p2), .val (.ref b1), .val (.int (p1 &&& (15 : Int32))), .unset, .unset] [(.int (2147483647 : Int32)), (.int p2)]))
  refine Go.of (fun t k => XS.iand X33.here hx rfl (hb hby at_102) rfl k) ?_
  show Go p e below s _ _ _ (T33.setTop (mkF m 103 #[.val (.int p0), .val (.int p1), .val (.int p2), .val (.ref b1), .val (.int (p1 &&& (15 : Int32))), .unset, .unset] [(.int (p2 &&& (2147483647 : Int32)))]))
  refine Go.of (fun t k => XS.bipush X33.here hx rfl (hb hby at_103) k) ?_
  show Go p e below s _ _ _ (T33.setTop (mkF m 105 #[.val (.int p0), .val (.int p1), .val (.int p2), .val (.ref b1), .val (.int (p1 &&& (15 : Int32))), .unset, .unset] [(.int (7 : Int32)), (.int (p2 &&& (2147483647 : Int32)))]))
  refine Go.of (fun t k => iremM X33 hx rfl (hb hby at_105) rfl (by decide) k) ?_
  show Go p e below s _ _ _ (T33.setTop (mkF m 106 #[.val (.int p0), .val (.int p1), .val (.int p2), .val (.ref b1), .val (.int (p1 &&& (15 : Int32))), .unset, .unset] [(.int ((p2 &&& (2147483647 : Int32)) % (7 : Int32)))]))
  refine Go.of (fun t k => XS.iconst X33.here hx rfl (hb hby at_106) k) ?_
  show Go p e below s _ _ _ (T33.setTop (mkF m 107 #[.val (.int p0), .val (.int p1), .val (.int p2), .val (.ref b1), .val (.int (p1 &&& (15 : Int32))), .unset, .unset] [(.int (3 : Int32)), (.int ((p2 &&& (2147483647 : Int32)) % (7 : Int32)))]))
  refine Go.of (fun t k => XS.isub X33.here hx rfl (hb hby at_107) rfl k) ?_
  show Go p e below s _ _ _ (T33.setTop (mkF m 108 #[.val (.int p0), .val (.int p1), .val (.int p2), .val (.ref b1), .val (.int (p1 &&& (15 : Int32))), .unset, .unset] [(.int (((p2 &&& (2147483647 : Int32)) % (7 : Int32)) - (3 : Int32)))]))
  refine Go.of (fun t k => XS.istore X33.here hx rfl (hb hby at_108) rfl (l' := #[.val (.int p0), .val (.int p1), .val (.int p2), .val (.ref b1), .val (.int (p1 &&& (15 : Int32))), .val (.int (((p2 &&& (2147483647 : Int32)) % (7 : Int32)) - (3 : Int32))), .unset]) rfl k) ?_
  show Go p e below s _ _ _ (T33.setTop (mkF m 110 #[.val (.int p0), .val (.int p1), .val (.int p2), .val (.ref b1), .val (.int (p1 &&& (15 : Int32))), .val (.int (((p2 &&& (2147483647 : Int32)) % (7 : Int32)) - (3 : Int32))), .unset] []))
  refine Go.of (fun t k => XS.iload X33.here hx rfl (hb hby at_110) rfl k) ?_
  show Go p e below s _ _ _ (T33.setTop (mkF m 112 #[.val (.int p0), .val (.int p1), .val (.int p2), .val (.ref b1), .val (.int (p1 &&& (15 : Int32))), .val (.int (((p2 &&& (2147483647 : Int32)) % (7 : Int32)) - (3 : Int32))), .unset] [(.int (p1 &&& (15 : Int32)))]))
  have jn145 : ∀ (v6_145 : Int32) (T_145 : State) (l_145 : List Loc) (X_145 : Stand p l e room_1 s m #[(.int p0), (.int p1), (.int p2)] below meth c T_145 l_145 1 16) (e_145 : T_145.heap = h33) (N_145 : Fr n0 l_145), Go p e below s (QL (some (.int (F0_145 v6_145))) n0) room_1.cells room_1.slots (T_145.setTop (mkF m 145 #[.val (.int p0), .val (.int p1), .val (.int p2), .val (.ref b1), .val (.int (p1 &&& (15 : Int32))), .val (.int (((p2 &&& (2147483647 : Int32)) % (7 : Int32)) - (3 : Int32))), .val (.int v6_145)] [])) := by
    intro v6_145 T_145 l_145 X_145 e_145 N_145
    unfold F0_145
    refine Go.of (fun t k => XS.iload X_145.here hx rfl (hb hby at_145) rfl k) ?_
    show Go p e below s _ _ _ (T_145.setTop (mkF m 147 #[.val (.int p0), .val (.int p1), .val (.int p2), .val (.ref b1), .val (.int (p1 &&& (15 : Int32))), .val (.int (((p2 &&& (2147483647 : Int32)) % (7 : Int32)) - (3 : Int32))), .val (.int v6_145)] [(.int v6_145)]))
    obtain ⟨_, _, ⟨T35, L35, k35, n35⟩, -, X35, ⟨Lc35, hQ35, l35, y35, z35⟩, st35⟩ := Jvm.LawKit.callS X_145 hx (y := (⟨"com/example/canonym/canonym/iri/CharClasses", "isIprivate", "(I)Z"⟩ : MethodName)) hown (mvT hZ (hw _ (List.mem_of_getElem? (i := 15) rfl))) (mvT hZ (hw _ (List.mem_of_getElem? (i := 16) rfl))) (mvT hZ (hw _ (List.mem_of_getElem? (i := 17) rfl))) (mvT hZ (hw _ (List.mem_of_getElem? (i := 18) rfl))) (by decide) (backOf (W := 0) (rm1 l Z az hw [] v6_145 h33 n0 (Nat.le_trans Z0 K33.1)) hZ (hw _ (List.mem_of_getElem? (i := 18) rfl)) (hw _ (List.mem_of_getElem? (i := 17) rfl)) (by decide) (by decide)) (g := (mkF m 147 #[.val (.int p0), .val (.int p1), .val (.int p2), .val (.ref b1), .val (.int (p1 &&& (15 : Int32))), .val (.int (((p2 &&& (2147483647 : Int32)) % (7 : Int32)) - (3 : Int32))), .val (.int v6_145)] [(.int v6_145)])) rfl (by rw [hml]; rfl) (argsL := [(.int v6_145)]) (rest := []) (lenOf own_pd1 rfl) rfl (by show 2 * 0 + _ ≤ _; exact Nat.le_of_eq rfl) (hb hby at_147) (fun _ _ => ⟨rfl, e_145, (by decide : 1 + 0 ≤ _), (by decide : 16 + 0 ≤ _)⟩)
    dsimp only [Pt.U, Pt.locs, Pt.cells, Pt.slots] at X35 l35 y35 z35 st35 hQ35
    subst l35 y35 z35
    obtain ⟨rfl, N35q, e35⟩ := hQ35
    have N35 := Fr.app N_145 N35q
    refine Go.of st35 ?_
    show Go p e below s _ _ _ (T35.setTop (mkF m 150 #[.val (.int p0), .val (.int p1), .val (.int p2), .val (.ref b1), .val (.int (p1 &&& (15 : Int32))), .val (.int (((p2 &&& (2147483647 : Int32)) % (7 : Int32)) - (3 : Int32))), .val (.int v6_145)] [(.int (F1 v6_145))]))
    refine Go.of (fun t k => XS.iload X35.here hx rfl (hb hby at_150) rfl k) ?_
    show Go p e below s _ _ _ (T35.setTop (mkF m 152 #[.val (.int p0), .val (.int p1), .val (.int p2), .val (.ref b1), .val (.int (p1 &&& (15 : Int32))), .val (.int (((p2 &&& (2147483647 : Int32)) % (7 : Int32)) - (3 : Int32))), .val (.int v6_145)] [(.int v6_145), (.int (F1 v6_145))]))
    obtain ⟨_, _, ⟨T36, L36, k36, n36⟩, -, X36, ⟨Lc36, hQ36, l36, y36, z36⟩, st36⟩ := Jvm.LawKit.callS X35 hx (y := (⟨"com/example/canonym/canonym/iri/CharClassesIsIprivatePinLaw", "expected", "(I)Z"⟩ : MethodName)) hown (mvT hZ (hw _ (List.mem_of_getElem? (i := 24) rfl))) (mvT hZ (hw _ (List.mem_of_getElem? (i := 25) rfl))) (mvT hZ (hw _ (List.mem_of_getElem? (i := 26) rfl))) (mvT hZ (hw _ (List.mem_of_getElem? (i := 27) rfl))) (by decide) (backOf (W := 1) (rm3 l Z az hw [] v6_145 h33 n0 (Nat.le_trans Z0 K33.1)) hZ (hw _ (List.mem_of_getElem? (i := 27) rfl)) (hw _ (List.mem_of_getElem? (i := 26) rfl)) (by decide) (by decide)) (g := (mkF m 152 #[.val (.int p0), .val (.int p1), .val (.int p2), .val (.ref b1), .val (.int (p1 &&& (15 : Int32))), .val (.int (((p2 &&& (2147483647 : Int32)) % (7 : Int32)) - (3 : Int32))), .val (.int v6_145)] [(.int v6_145), (.int (F1 v6_145))])) rfl (by rw [hml]; rfl) (argsL := [(.int v6_145)]) (rest := [(.int (F1 v6_145))]) (lenOf own_pd1 rfl) rfl (by show 2 * 0 + _ ≤ _; exact Nat.le_of_eq rfl) (hb hby at_152) (fun _ _ => ⟨rfl, e35, (by decide : 1 + 0 ≤ _), (by decide : 16 + 0 ≤ _)⟩)
    dsimp only [Pt.U, Pt.locs, Pt.cells, Pt.slots] at X36 l36 y36 z36 st36 hQ36
    subst l36 y36 z36
    obtain ⟨rfl, N36q, e36⟩ := hQ36
    have N36 := Fr.app N35 N36q
    refine Go.of st36 ?_
    show Go p e below s _ _ _ (T36.setTop (mkF m 155 #[.val (.int p0), .val (.int p1), .val (.int p2), .val (.ref b1), .val (.int (p1 &&& (15 : Int32))), .val (.int (((p2 &&& (2147483647 : Int32)) % (7 : Int32)) - (3 : Int32))), .val (.int v6_145)] [(.int (F3 v6_145)), (.int (F1 v6_145))]))
    by_cases hc155_37 : (F1 v6_145) = (F3 v6_145)
    · rewrite [if_pos hc155_37]
      refine Go.of (fun t k => XS.icmpNo X36.here hx rfl (hb hby at_155) rfl (teq hc155_37).2 k) ?_
      show Go p e below s _ _ _ (T36.setTop (mkF m 158 #[.val (.int p0), .val (.int p1), .val (.int p2), .val (.ref b1), .val (.int (p1 &&& (15 : Int32))), .val (.int (((p2 &&& (2147483647 : Int32)) % (7 : Int32)) - (3 : Int32))), .val (.int v6_145)] []))
      refine Go.of (fun t k => XS.iconst X36.here hx rfl (hb hby at_158) k) ?_
      show Go p e below s _ _ _ (T36.setTop (mkF m 159 #[.val (.int p0), .val (.int p1), .val (.int p2), .val (.ref b1), .val (.int (p1 &&& (15 : Int32))), .val (.int (((p2 &&& (2147483647 : Int32)) % (7 : Int32)) - (3 : Int32))), .val (.int v6_145)] [(.int (1 : Int32))]))
      refine Go.of (fun t k => XS.goto X36.here hx rfl (pc0 := 159) (pc' := 163) rfl (hb hby at_159) (by decide) (by decide) k) ?_
      show Go p e below s _ _ _ (T36.setTop (mkF m 163 #[.val (.int p0), .val (.int p1), .val (.int p2), .val (.ref b1), .val (.int (p1 &&& (15 : Int32))), .val (.int (((p2 &&& (2147483647 : Int32)) % (7 : Int32)) - (3 : Int32))), .val (.int v6_145)] [(.int (1 : Int32))]))
      exact Go.ret X36 (some (.int (1 : Int32))) (fun h => by rw [Bd.returns] at h; cases h) hlk ⟨rfl, N36⟩ (by decide) (by decide) (fun fs hr => (retN X36 hx (t := .boolean) Bd.returns (by simp) (hb hby at_163) hr))
    · rewrite [if_neg hc155_37]
      refine Go.of (fun t k => XS.icmpYes X36.here hx rfl (pc0 := 155) (pc' := 162) rfl (hb hby at_155) rfl (feq hc155_37).2 (by decide) (by decide) k) ?_
      show Go p e below s _ _ _ (T36.setTop (mkF m 162 #[.val (.int p0), .val (.int p1), .val (.int p2), .val (.ref b1), .val (.int (p1 &&& (15 : Int32))), .val (.int (((p2 &&& (2147483647 : Int32)) % (7 : Int32)) - (3 : Int32))), .val (.int v6_145)] []))
      refine Go.of (fun t k => XS.iconst X36.here hx rfl (hb hby at_162) k) ?_
      show Go p e below s _ _ _ (T36.setTop (mkF m 163 #[.val (.int p0), .val (.int p1), .val (.int p2), .val (.ref b1), .val (.int (p1 &&& (15 : Int32))), .val (.int (((p2 &&& (2147483647 : Int32)) % (7 : Int32)) - (3 : Int32))), .val (.int v6_145)] [(.int (0 : Int32))]))
      exact Go.ret X36 (some (.int (0 : Int32))) (fun h => by rw [Bd.returns] at h; cases h) hlk ⟨rfl, N36⟩ (by decide) (by decide) (fun fs hr => (retN X36 hx (t := .boolean) Bd.returns (by simp) (hb hby at_163) hr))
  by_cases hc112_38 : (p1 &&& (15 : Int32)) = (0 : Int32)
  · rewrite [if_pos hc112_38]
    refine Go.of (fun t k => XS.ifNo X33.here hx rfl (hb hby at_112) rfl ((if0 _ _).trans (teq hc112_38).2) k) ?_
    show Go p e below s _ _ _ (T33.setTop (mkF m 115 #[.val (.int p0), .val (.int p1), .val (.int p2), .val (.ref b1), .val (.int (p1 &&& (15 : Int32))), .val (.int (((p2 &&& (2147483647 : Int32)) % (7 : Int32)) - (3 : Int32))), .unset] []))
    refine Go.of (fun t k => XS.iloadN X33.here hx rfl (hb hby at_115) rfl k) ?_
    show Go p e below s _ _ _ (T33.setTop (mkF m 116 #[.val (.int p0), .val (.int p1), .val (.int p2), .val (.ref b1), .val (.int (p1 &&& (15 : Int32))), .val (.int (((p2 &&& (2147483647 : Int32)) % (7 : Int32)) - (3 : Int32))), .unset] [(.int p0)]))
    refine Go.of (fun t k => XS.istore X33.here hx rfl (hb hby at_116) rfl (l' := #[.val (.int p0), .val (.int p1), .val (.int p2), .val (.ref b1), .val (.int (p1 &&& (15 : Int32))), .val (.int (((p2 &&& (2147483647 : Int32)) % (7 : Int32)) - (3 : Int32))), .val (.int p0)]) rfl k) ?_
    show Go p e below s _ _ _ (T33.setTop (mkF m 118 #[.val (.int p0), .val (.int p1), .val (.int p2), .val (.ref b1), .val (.int (p1 &&& (15 : Int32))), .val (.int (((p2 &&& (2147483647 : Int32)) % (7 : Int32)) - (3 : Int32))), .val (.int p0)] []))
    refine Go.of (fun t k => XS.goto X33.here hx rfl (pc0 := 118) (pc' := 145) rfl (hb hby at_118) (by decide) (by decide) k) ?_
    show Go p e below s _ _ _ (T33.setTop (mkF m 145 #[.val (.int p0), .val (.int p1), .val (.int p2), .val (.ref b1), .val (.int (p1 &&& (15 : Int32))), .val (.int (((p2 &&& (2147483647 : Int32)) % (7 : Int32)) - (3 : Int32))), .val (.int p0)] []))
    exact jn145 p0  T33 _ X33 e33 N33  
  · rewrite [if_neg hc112_38]
    refine Go.of (fun t k => XS.ifYes X33.here hx rfl (pc0 := 112) (pc' := 121) rfl (hb hby at_112) rfl ((if0 _ _).trans (feq hc112_38).2) (by decide) (by decide) k) ?_
    show Go p e below s _ _ _ (T33.setTop (mkF m 121 #[.val (.int p0), .val (.int p1), .val (.int p2), .val (.ref b1), .val (.int (p1 &&& (15 : Int32))), .val (.int (((p2 &&& (2147483647 : Int32)) % (7 : Int32)) - (3 : Int32))), .unset] []))
    refine Go.of (fun t k => XS.iload X33.here hx rfl (hb hby at_121) rfl k) ?_
    show Go p e below s _ _ _ (T33.setTop (mkF m 123 #[.val (.int p0), .val (.int p1), .val (.int p2), .val (.ref b1), .val (.int (p1 &&& (15 : Int32))), .val (.int (((p2 &&& (2147483647 : Int32)) % (7 : Int32)) - (3 : Int32))), .unset] [(.int (p1 &&& (15 : Int32)))]))
    refine Go.of (fun t k => XS.iconst X33.here hx rfl (hb hby at_123) k) ?_
    show Go p e below s _ _ _ (T33.setTop (mkF m 124 #[.val (.int p0), .val (.int p1), .val (.int p2), .val (.ref b1), .val (.int (p1 &&& (15 : Int32))), .val (.int (((p2 &&& (2147483647 : Int32)) % (7 : Int32)) - (3 : Int32))), .unset] [(.int (1 : Int32)), (.int (p1 &&& (15 : Int32)))]))
    by_cases hc124_39 : (p1 &&& (15 : Int32)) = (1 : Int32)
    · rewrite [if_pos hc124_39]
      refine Go.of (fun t k => XS.icmpNo X33.here hx rfl (hb hby at_124) rfl (teq hc124_39).2 k) ?_
      show Go p e below s _ _ _ (T33.setTop (mkF m 127 #[.val (.int p0), .val (.int p1), .val (.int p2), .val (.ref b1), .val (.int (p1 &&& (15 : Int32))), .val (.int (((p2 &&& (2147483647 : Int32)) % (7 : Int32)) - (3 : Int32))), .unset] []))
      refine Go.of (fun t k => XS.iloadN X33.here hx rfl (hb hby at_127) rfl k) ?_
      show Go p e below s _ _ _ (T33.setTop (mkF m 128 #[.val (.int p0), .val (.int p1), .val (.int p2), .val (.ref b1), .val (.int (p1 &&& (15 : Int32))), .val (.int (((p2 &&& (2147483647 : Int32)) % (7 : Int32)) - (3 : Int32))), .unset] [(.int p0)]))
      refine Go.of (X33.ldcInt hx hown (mvT hZ (hw _ (List.mem_of_getElem? (i := 33) rfl))) (g := (mkF m 128 #[.val (.int p0), .val (.int p1), .val (.int p2), .val (.ref b1), .val (.int (p1 &&& (15 : Int32))), .val (.int (((p2 &&& (2147483647 : Int32)) % (7 : Int32)) - (3 : Int32))), .unset] [(.int p0)])) rfl (hb hby at_128)) ?_
      show Go p e below s _ _ _ (T33.setTop (mkF m 130 #[.val (.int p0), .val (.int p1), .val (.int p2), .val (.ref b1), .val (.int (p1 &&& (15 : Int32))), .val (.int (((p2 &&& (2147483647 : Int32)) % (7 : Int32)) - (3 : Int32))), .unset] [(.int (2097151 : Int32)), (.int p0)]))
      refine Go.of (fun t k => XS.iand X33.here hx rfl (hb hby at_130) rfl k) ?_
      show Go p e below s _ _ _ (T33.setTop (mkF m 131 #[.val (.int p0), .val (.int p1), .val (.int p2), .val (.ref b1), .val (.int (p1 &&& (15 : Int32))), .val (.int (((p2 &&& (2147483647 : Int32)) % (7 : Int32)) - (3 : Int32))), .unset] [(.int (p0 &&& (2097151 : Int32)))]))
      refine Go.of (fun t k => XS.istore X33.here hx rfl (hb hby at_131) rfl (l' := #[.val (.int p0), .val (.int p1), .val (.int p2), .val (.ref b1), .val (.int (p1 &&& (15 : Int32))), .val (.int (((p2 &&& (2147483647 : Int32)) % (7 : Int32)) - (3 : Int32))), .val (.int (p0 &&& (2097151 : Int32)))]) rfl k) ?_
      show Go p e below s _ _ _ (T33.setTop (mkF m 133 #[.val (.int p0), .val (.int p1), .val (.int p2), .val (.ref b1), .val (.int (p1 &&& (15 : Int32))), .val (.int (((p2 &&& (2147483647 : Int32)) % (7 : Int32)) - (3 : Int32))), .val (.int (p0 &&& (2097151 : Int32)))] []))
      refine Go.of (fun t k => XS.goto X33.here hx rfl (pc0 := 133) (pc' := 145) rfl (hb hby at_133) (by decide) (by decide) k) ?_
      show Go p e below s _ _ _ (T33.setTop (mkF m 145 #[.val (.int p0), .val (.int p1), .val (.int p2), .val (.ref b1), .val (.int (p1 &&& (15 : Int32))), .val (.int (((p2 &&& (2147483647 : Int32)) % (7 : Int32)) - (3 : Int32))), .val (.int (p0 &&& (2097151 : Int32)))] []))
      exact jn145 (p0 &&& (2097151 : Int32))  T33 _ X33 e33 N33  
    · rewrite [if_neg hc124_39]
      refine Go.of (fun t k => XS.icmpYes X33.here hx rfl (pc0 := 124) (pc' := 136) rfl (hb hby at_124) rfl (feq hc124_39).2 (by decide) (by decide) k) ?_
      show Go p e below s _ _ _ (T33.setTop (mkF m 136 #[.val (.int p0), .val (.int p1), .val (.int p2), .val (.ref b1), .val (.int (p1 &&& (15 : Int32))), .val (.int (((p2 &&& (2147483647 : Int32)) % (7 : Int32)) - (3 : Int32))), .unset] []))
      refine Go.of (fun t k => XS.aloadN X33.here hx rfl (hb hby at_136) rfl rfl k) ?_
      show Go p e below s _ _ _ (T33.setTop (mkF m 137 #[.val (.int p0), .val (.int p1), .val (.int p2), .val (.ref b1), .val (.int (p1 &&& (15 : Int32))), .val (.int (((p2 &&& (2147483647 : Int32)) % (7 : Int32)) - (3 : Int32))), .unset] [(.ref b1)]))
      refine Go.of (fun t k => XS.iload X33.here hx rfl (hb hby at_137) rfl k) ?_
      show Go p e below s _ _ _ (T33.setTop (mkF m 139 #[.val (.int p0), .val (.int p1), .val (.int p2), .val (.ref b1), .val (.int (p1 &&& (15 : Int32))), .val (.int (((p2 &&& (2147483647 : Int32)) % (7 : Int32)) - (3 : Int32))), .unset] [(.int (p1 &&& (15 : Int32))), (.ref b1)]))
      obtain ⟨cl40, Ar40, q40, S40, M40, H40, G40⟩ := f34
      have hin40 : ¬ ((p1 &&& (15 : Int32)) < 0 ∨ cl40.slots.size ≤ ((p1 &&& (15 : Int32))).toNatClampNeg) := (inb_of S40 (own_in p1))
      refine Go.of (X33.iaload hx (j := (p1 &&& (15 : Int32))) (v := (.int (own_tab (p1 &&& (15 : Int32))))) (by rw [e33]; exact Ar40.1) (State.isArrayOf_alike hZ.alike Ar40.2.1) Ar40.2.2 hin40 (Has.at H40 hin40 (own_getD own_L _)) (g := (mkF m 139 #[.val (.int p0), .val (.int p1), .val (.int p2), .val (.ref b1), .val (.int (p1 &&& (15 : Int32))), .val (.int (((p2 &&& (2147483647 : Int32)) % (7 : Int32)) - (3 : Int32))), .unset] [(.int (p1 &&& (15 : Int32))), (.ref b1)])) rfl rfl (hb hby at_139)) ?_
      show Go p e below s _ _ _ (T33.setTop (mkF m 140 #[.val (.int p0), .val (.int p1), .val (.int p2), .val (.ref b1), .val (.int (p1 &&& (15 : Int32))), .val (.int (((p2 &&& (2147483647 : Int32)) % (7 : Int32)) - (3 : Int32))), .unset] [(.int (own_tab (p1 &&& (15 : Int32))))]))
      refine Go.of (fun t k => XS.iload X33.here hx rfl (hb hby at_140) rfl k) ?_
      show Go p e below s _ _ _ (T33.setTop (mkF m 142 #[.val (.int p0), .val (.int p1), .val (.int p2), .val (.ref b1), .val (.int (p1 &&& (15 : Int32))), .val (.int (((p2 &&& (2147483647 : Int32)) % (7 : Int32)) - (3 : Int32))), .unset] [(.int (((p2 &&& (2147483647 : Int32)) % (7 : Int32)) - (3 : Int32))), (.int (own_tab (p1 &&& (15 : Int32))))]))
      refine Go.of (fun t k => XS.iadd X33.here hx rfl (hb hby at_142) rfl k) ?_
      show Go p e below s _ _ _ (T33.setTop (mkF m 143 #[.val (.int p0), .val (.int p1), .val (.int p2), .val (.ref b1), .val (.int (p1 &&& (15 : Int32))), .val (.int (((p2 &&& (2147483647 : Int32)) % (7 : Int32)) - (3 : Int32))), .unset] [(.int ((own_tab (p1 &&& (15 : Int32))) + (((p2 &&& (2147483647 : Int32)) % (7 : Int32)) - (3 : Int32))))]))
      refine Go.of (fun t k => XS.istore X33.here hx rfl (hb hby at_143) rfl (l' := #[.val (.int p0), .val (.int p1), .val (.int p2), .val (.ref b1), .val (.int (p1 &&& (15 : Int32))), .val (.int (((p2 &&& (2147483647 : Int32)) % (7 : Int32)) - (3 : Int32))), .val (.int ((own_tab (p1 &&& (15 : Int32))) + (((p2 &&& (2147483647 : Int32)) % (7 : Int32)) - (3 : Int32))))]) rfl k) ?_
      show Go p e below s _ _ _ (T33.setTop (mkF m 145 #[.val (.int p0), .val (.int p1), .val (.int p2), .val (.ref b1), .val (.int (p1 &&& (15 : Int32))), .val (.int (((p2 &&& (2147483647 : Int32)) % (7 : Int32)) - (3 : Int32))), .val (.int ((own_tab (p1 &&& (15 : Int32))) + (((p2 &&& (2147483647 : Int32)) % (7 : Int32)) - (3 : Int32))))] []))
      exact jn145 ((own_tab (p1 &&& (15 : Int32))) + (((p2 &&& (2147483647 : Int32)) % (7 : Int32)) - (3 : Int32)))  T33 _ X33 e33 N33  
theorem own_F2 (x a b : Int32) : F2 x a b = 0 ↔ (x.toInt < a.toInt ∨ b.toInt < x.toInt) := by
  unfold F2
  simp only [Int32.lt_iff_toInt_lt]
  by_cases h1 : x.toInt < a.toInt
  · simp [h1]
  · by_cases h2 : b.toInt < x.toInt <;> simp [h1, h2]
theorem own_145 (v : Int32) : F1 v = F3 v := by
  have l := c_mask v 65535 16 (by decide) (by decide)
  have u := c_iushr v 16 16 (by decide) (by decide)
  have r := rng32 v
  have e0 : (0 : Int32).toInt = 0 := by decide
  have e15 : (15 : Int32).toInt = 15 := by decide
  have e16 : (16 : Int32).toInt = 16 := by decide
  have e57344 : (57344 : Int32).toInt = 57344 := by decide
  have e63743 : (63743 : Int32).toInt = 63743 := by decide
  have e65533 : (65533 : Int32).toInt = 65533 := by decide
  have e983040 : (983040 : Int32).toInt = 983040 := by decide
  have e1048573 : (1048573 : Int32).toInt = 1048573 := by decide
  have e1048576 : (1048576 : Int32).toInt = 1048576 := by decide
  have e1114109 : (1114109 : Int32).toInt = 1114109 := by decide
  unfold F1 F3 F3_50
  generalize v &&& (65535 : Int32) = lo at *
  generalize ((v.toUInt32 >>> ((16 : Int32) &&& 31).toUInt32).toInt32) = hi at *
  have k0 : hi = 0 ↔ hi.toInt = 0 := by rw [← Int32.toInt_inj, e0]
  have k15 : hi = 15 ↔ hi.toInt = 15 := by rw [← Int32.toInt_inj, e15]
  have k16 : hi = 16 ↔ hi.toInt = 16 := by rw [← Int32.toInt_inj, e16]
  simp only [own_F2, k0, k15, k16, Int32.lt_iff_toInt_lt, e0, e15, e16, e57344, e63743, e65533, e983040, e1048573, e1048576, e1114109]
  repeat' split
  all_goals first | rfl | (exfalso; omega)
theorem own_law (a b c : Int32) : F0 a b c = 1 := by
  unfold F0 F0_145
  split
  · rw [if_pos (own_145 _)]
  · split <;> rw [if_pos (own_145 _)]
set_option maxRecDepth 65536 in
set_option maxHeartbeats 40000000 in
theorem comes_1 {Post : Tables → Env → Array Value → State → Outcome → State → Prop} (hpost : ∀ tb e args s v u, (limb_1_1.after args s (.returned v) u = true ∧ limb_1_2.after args s (.returned v) u = true ∧ True) → FrameEnd s (.returned v) u (Jvm.fieldLocs frame_1_writes args s ++ Jvm.arrayLocs frame_1_arrays args s ++ Jvm.staticLocs frame_1_statics s) 16 128 → Post tb e args s (.returned v) u) :
    ArmFor flags0 classFile x code maxLocals ret World_1 tables_1 room_1 Calls_1 rest_1 Pre_1 Post := by
  intro l hfl _ _ p e ha hc hk s m args below hf hA hF happ hP
  obtain ⟨hcalls, hrest, hpre⟩ := hP
  obtain ⟨-, -, -, hnamed, -, -, -, hat⟩ := (Spec.applies_iff hf).mp happ
  obtain ⟨hg, hn⟩ := and_e (Cond.before_iff.mp (show (Jvm.Cond.and given_1 narrow_1).before args s = true from hpre))
  obtain ⟨g0, g1⟩ := and_e hg
  obtain ⟨a0, g2⟩ := and_e g1
  obtain ⟨a1, g3⟩ := and_e g2
  have a2 := g3
  obtain ⟨w0, w1, w2, rfl⟩ : ∃ w0 w1 w2 : Value, args = #[w0, w1, w2] := by
    have hs : args.size = 3 := by simpa [Cond.value, given_1] using g0
    obtain ⟨L⟩ := args
    match L, hs with
    | [w0, w1, w2], _ => exact ⟨w0, w1, w2, rfl⟩
  have hw := fun d (hd : d ∈ tables_1) => atoms_spec (ws := Jvm.Cond.code x code maxLocals ret :: tables_1) hat d (List.mem_cons_of_mem _ hd)
  obtain ⟨i0, ei0⟩ := is_v a0
  obtain rfl : w0 = (.int i0) := Option.some.inj ei0
  obtain ⟨i1, ei1⟩ := is_v a1
  obtain rfl : w1 = (.int i1) := Option.some.inj ei1
  obtain ⟨i2, ei2⟩ := is_v a2
  obtain rfl : w2 = (.int i2) := Option.some.inj ei2
  obtain ⟨n, o, h1, h2, h3, _, L, rfl, ⟨rfl, N⟩, hq⟩ := rm0 l s _ hw tables_1 i0 i1 i2 s.heap s.heap.size (Nat.le_refl _) p e ha hc hk s m _ below hf ((Spec.applies_iff_loose hf).mp happ).1 ⟨rfl, State.Warmed39.refl s, rfl⟩ trivial
  have hone : (F0 i0 i1 i2) = 1 := own_law i0 i1 i2
  refine ⟨n, _, h1, h2, h3, hpost _ _ _ _ _ _ ⟨Cond.after_iff.mpr rfl, Cond.after_iff.mpr (eq_i res_at (Term.int_eval (1)) (by rw [hone])), trivial⟩ ⟨hq.1, hq.2.1, (hq.2.2.sift fun y hy => Or.inr (N y hy)).mono (by decide) (by decide)⟩⟩
theorem main_1_1 : Claimed_1_1 := comes_1 fun _ _ _ _ _ _ h hF => ⟨h.1, hF⟩
theorem main_1_2 : Claimed_1_2 := comes_1 fun _ _ _ _ _ _ h hF => ⟨h.2.1, hF⟩
end Jvm.Pilot.@@N@@
namespace Jvm.Pilot.@@N@@
open Jvm Jvm.ClassFile Sem Op Lib Jvm.Free Jvm.Stand Jvm.Pilot.@@N@@.Jvm.D
/-! MADE BY PROGRAM (witnessworld.py) out of the Statement's table words and the real class files: 9 classes; the members and pool entries that the words name. The judged class is class 1, her method 1. -/
namespace start1
open Jvm.ClassFile
def u (s : String) : CpInfo := .utf8 (stringToUtf16 s)
/-- a pool by its gaps: so many unusable entries, then the entry; so many at the end -/
def gap : Nat → List CpInfo → List CpInfo
  | 0, r => r
  | n + 1, r => .unusable :: gap n r
def poolList (es : List (Nat × CpInfo)) (last : Nat) : List CpInfo := es.foldr (fun e r => gap e.1 (e.2 :: r)) (gap last [])
def pool (es : List (Nat × CpInfo)) (last : Nat) : Array CpInfo := ⟨poolList es last⟩
def fileOf (pool : Array CpInfo) (this : Nat) (attrs : Array Attribute := #[]) (ms : Array MethodInfo := #[]) (fl : Nat := 33) (sup : Nat := 0) (ifs : Array Nat := #[]) (fds : Array FieldInfo := #[]) : ClassFile where
  minorVersion := 0
  majorVersion := 65
  constantPool := pool
  accessFlags := fl
  thisClass := this
  superClass := sup
  interfaces := ifs
  fields := fds
  methods := ms
  attributes := attrs
def plain (name : String) (sup : Option ClassId) : Class where
  name := name
  kind := .ordinary
  loader := none
  accessFlags := 33
  super := sup
  interfaces := #[]
  cf := none
  fields := #[]
  methods := #[]
  instanceTypes := #[]
  staticTypes := #[]
  resolved := #[]
  callSites := []
  init := .initialized
  statics := none
  mirror := none

def pool0 : Array CpInfo := pool [(5, u "<init>"), (0, u "()V"), (1, .class_ 10), (1, u "java/lang/Object")] 113

def k0m0 : Method := { name := "<init>", desc := "()V", sig := { parameters := [], returnType := none }, accessFlags := 1, code := none }
/-- java/lang/Object -/
def k0 : Class := { plain "java/lang/Object" none with
  accessFlags := 33
  interfaces := #[]
  cf := some (fileOf pool0 8 #[] #[{ accessFlags := 1, nameIndex := 5, descriptorIndex := 6, attributes := #[] }] 33 0 #[] #[])
  fields := #[]
  methods := #[k0m0]
  instanceTypes := #[]
  staticTypes := #[]
  resolved := Array.replicate 124 none
  statics := none }

def pool1 : Array CpInfo := pool [(2, .class_ 4), (1, u "java/lang/Object"), (0, u "<init>"), (0, u "()V"), (0, .integer 57344), (0, .integer 63743), (0, .integer 983040), (0, .integer 1048573), (0, .integer 1048576), (0, .integer 1114109), (0, .integer 1114111), (0, .integer 65535), (0, .integer 983037), (0, .integer 57343), (0, .integer 63744), (0, .integer 1114112), (0, .integer 2147483647), (0, .integer 2147483650), (0, .integer 2097151), (0, .methodref 23 24), (0, .class_ 25), (0, .nameAndType 26 27), (0, u "com/example/canonym/canonym/iri/CharClasses"), (0, u "isIprivate"), (0, u "(I)Z"), (0, .methodref 29 30), (0, .class_ 31), (0, .nameAndType 32 27), (0, u "com/example/canonym/canonym/iri/CharClassesIsIprivatePinLaw"), (0, u "expected"), (0, .integer 65533), (2, u "law"), (0, u "(III)Z")] 5

def k1m0 : Method := { name := "<init>", desc := "()V", sig := { parameters := [], returnType := none }, accessFlags := 2, code := none }
def k1c1 : Code := { maxStack := 4, maxLocals := 7, code := code, exceptionTable := #[], attributes := #[] }
def k1m1 : Method := { name := "law", desc := "(III)Z", sig := { parameters := [.int, .int, .int], returnType := some .boolean }, accessFlags := 9, code := some k1c1 }
def k1c2 : Code := { maxStack := 2, maxLocals := 3, code := method_3_code, exceptionTable := #[], attributes := #[] }
def k1m2 : Method := { name := "expected", desc := "(I)Z", sig := { parameters := [.int], returnType := some .boolean }, accessFlags := 10, code := some k1c2 }
/-- com/example/canonym/canonym/iri/CharClassesIsIprivatePinLaw -/
def k1 : Class := { plain "com/example/canonym/canonym/iri/CharClassesIsIprivatePinLaw" (some 0) with
  accessFlags := 49
  interfaces := #[]
  cf := some (fileOf pool1 29 #[] #[{ accessFlags := 2, nameIndex := 5, descriptorIndex := 6, attributes := #[] }, { accessFlags := 9, nameIndex := 36, descriptorIndex := 37, attributes := #[] }, { accessFlags := 10, nameIndex := 32, descriptorIndex := 27, attributes := #[] }] 49 2 #[] #[])
  fields := #[]
  methods := #[k1m0, k1m1, k1m2]
  instanceTypes := #[]
  staticTypes := #[]
  resolved := Array.replicate 43 none
  statics := none }

def pool2 : Array CpInfo := pool [(2, .class_ 4), (1, u "java/lang/Object"), (0, u "<init>"), (0, u "()V"), (0, .class_ 8), (0, u "com/example/canonym/canonym/iri/CharClasses"), (5, .methodref 7 15), (0, .nameAndType 16 17), (0, u "inRange"), (0, u "(III)Z"), (13, u "(I)Z"), (3, .integer 57344), (0, .integer 63743), (0, .integer 983040), (0, .integer 1048573), (0, .integer 1048576), (0, .integer 1114109), (5, u "isIprivate"), (22, u "ASCII"), (0, u "[B"), (26, u "ALPHA"), (0, u "I"), (2, u "DIGIT"), (1, u "HEXDIG"), (1, u "UNRESERVED"), (1, u "GEN_DELIM"), (1, u "SUB_DELIM"), (1, u "LEIRI_UCSCHAR"), (1, u "ALPHA_CHARS"), (0, u "Ljava/lang/String;"), (0, u "DIGIT_CHARS")] 17

def k2m0 : Method := { name := "<init>", desc := "()V", sig := { parameters := [], returnType := none }, accessFlags := 2, code := none }
def k2c1 : Code := { maxStack := 3, maxLocals := 1, code := prog_8_method_11_code, exceptionTable := #[], attributes := #[] }
def k2m1 : Method := { name := "isIprivate", desc := "(I)Z", sig := { parameters := [.int], returnType := some .boolean }, accessFlags := 9, code := some k2c1 }
def k2c2 : Code := { maxStack := 2, maxLocals := 3, code := prog_8_method_18_code, exceptionTable := #[], attributes := #[] }
def k2m2 : Method := { name := "inRange", desc := "(III)Z", sig := { parameters := [.int, .int, .int], returnType := some .boolean }, accessFlags := 10, code := some k2c2 }
/-- com/example/canonym/canonym/iri/CharClasses -/
def k2 : Class := { plain "com/example/canonym/canonym/iri/CharClasses" (some 0) with
  accessFlags := 49
  interfaces := #[]
  cf := some (fileOf pool2 7 #[] #[{ accessFlags := 2, nameIndex := 5, descriptorIndex := 6, attributes := #[] }, { accessFlags := 9, nameIndex := 46, descriptorIndex := 31, attributes := #[] }, { accessFlags := 10, nameIndex := 16, descriptorIndex := 17, attributes := #[] }] 49 2 #[] #[{ accessFlags := 26, nameIndex := 97, descriptorIndex := 98, attributes := #[] }, { accessFlags := 26, nameIndex := 101, descriptorIndex := 98, attributes := #[] }, { accessFlags := 26, nameIndex := 103, descriptorIndex := 98, attributes := #[] }, { accessFlags := 26, nameIndex := 105, descriptorIndex := 98, attributes := #[] }, { accessFlags := 26, nameIndex := 107, descriptorIndex := 98, attributes := #[] }, { accessFlags := 26, nameIndex := 109, descriptorIndex := 98, attributes := #[] }, { accessFlags := 26, nameIndex := 111, descriptorIndex := 98, attributes := #[] }, { accessFlags := 26, nameIndex := 113, descriptorIndex := 114, attributes := #[] }, { accessFlags := 26, nameIndex := 115, descriptorIndex := 114, attributes := #[] }, { accessFlags := 26, nameIndex := 69, descriptorIndex := 70, attributes := #[] }])
  fields := #[{ name := "ALPHA", type := .int, accessFlags := 26, slot := 0, constantValue := 0 }, { name := "DIGIT", type := .int, accessFlags := 26, slot := 1, constantValue := 0 }, { name := "HEXDIG", type := .int, accessFlags := 26, slot := 2, constantValue := 0 }, { name := "UNRESERVED", type := .int, accessFlags := 26, slot := 3, constantValue := 0 }, { name := "GEN_DELIM", type := .int, accessFlags := 26, slot := 4, constantValue := 0 }, { name := "SUB_DELIM", type := .int, accessFlags := 26, slot := 5, constantValue := 0 }, { name := "LEIRI_UCSCHAR", type := .int, accessFlags := 26, slot := 6, constantValue := 0 }, { name := "ALPHA_CHARS", type := (.object "java/lang/String"), accessFlags := 26, slot := 7, constantValue := 0 }, { name := "DIGIT_CHARS", type := (.object "java/lang/String"), accessFlags := 26, slot := 8, constantValue := 0 }, { name := "ASCII", type := (.array .byte), accessFlags := 26, slot := 9, constantValue := 0 }]
  methods := #[k2m0, k2m1, k2m2]
  instanceTypes := #[]
  staticTypes := #[.int, .int, .int, .int, .int, .int, .int, (.object "java/lang/String"), (.object "java/lang/String"), (.array .byte)]
  resolved := Array.replicate 133 none
  statics := none }

def pool3 : Array CpInfo := pool [(1, u "java/lang/Cloneable"), (0, .class_ 1), (0, u "java/lang/Object"), (0, .class_ 3)] 3

/-- java/lang/Cloneable -/
def k3 : Class := { plain "java/lang/Cloneable" (some 0) with
  accessFlags := 1537
  interfaces := #[]
  cf := some (fileOf pool3 2 #[] #[] 1537 4 #[] #[])
  fields := #[]
  methods := #[]
  instanceTypes := #[]
  staticTypes := #[]
  resolved := Array.replicate 8 none
  statics := none }

def pool4 : Array CpInfo := pool [(1, u "java/io/Serializable"), (0, .class_ 1), (0, u "java/lang/Object"), (0, .class_ 3)] 3

/-- java/io/Serializable -/
def k4 : Class := { plain "java/io/Serializable" (some 0) with
  accessFlags := 1537
  interfaces := #[]
  cf := some (fileOf pool4 2 #[] #[] 1537 4 #[] #[])
  fields := #[]
  methods := #[]
  instanceTypes := #[]
  staticTypes := #[]
  resolved := Array.replicate 8 none
  statics := none }

/-- the primitive byte -/
def k5 : Class := { plain "byte" none with kind := .primitive 'B', accessFlags := 0x411 }
/-- [B -/
def k6 : Class := { plain "[B" (some 0) with kind := .array 5 .byte, interfaces := #[3, 4], accessFlags := 1041 }

/-- the primitive int -/
def k7 : Class := { plain "int" none with kind := .primitive 'I', accessFlags := 0x411 }
/-- [I -/
def k8 : Class := { plain "[I" (some 0) with kind := .array 7 .int, interfaces := #[3, 4], accessFlags := 1041 }

def heap : Heap := #[]
def classes : Array Class := #[k0, k1, k2, k3, k4, k5, k6, k7, k8]
def interned : List (Array UInt16 × Addr) := []
def slotsUsed : Nat := 0
def theMethod : MethodId := ⟨1, 1⟩
def args0 : Array Value := #[.int 5, .int 6, .int 7]
def aboutOver (below : List Frame) : State where
  vm := { classes := classes, interned := interned.toArray }
  heap := heap
  slotsUsed := slotsUsed
  threads := #[{ frames := .invoking theMethod args0 :: below }]
def below0 : List Frame := [.native { method := ⟨0, 0⟩, args := #[] }]
def about1 : State := aboutOver below0
def p0 : Program := .bare "" "" ""
def e0 : Env := launch0.env 0 0 0
theorem w_frames : about1.frames = Frame.invoking theMethod args0 :: below0 := rfl
set_option maxRecDepth 65536 in
theorem w_args : argsFit about1.vm theMethod args0 = true := by decide +kernel
set_option maxRecDepth 65536 in
theorem w_heap : heapFits about1 = true := by decide +kernel
set_option maxRecDepth 65536 in
theorem w_runnable : about1.curStatus? = some .runnable := by decide +kernel
set_option maxRecDepth 65536 in
theorem w_alone : about1.alone = true := by decide +kernel
set_option maxRecDepth 65536 in
theorem w_named : about1.methodNamed? x = some theMethod := by decide +kernel
set_option maxRecDepth 65536 in
theorem w_hears : about1.hears theMethod below0 = true := by decide +kernel
set_option maxRecDepth 65536 in
theorem w_ripe : about1.ripe theMethod args0 below0 = true := by decide +kernel
theorem w_running : about1.status = .running := rfl
set_option maxRecDepth 65536 in
theorem w_room : about1.hasRoom e0.platform room_1 = true :=
  launch0.hasRoom_least _ room_1 (by decide +kernel) (by decide +kernel) (by decide +kernel) (by decide +kernel) (by decide +kernel) (by decide +kernel)
theorem allAtoms_all (ts : List Jvm.Cond) (a : Array Jvm.Value) (st : Jvm.State) : (allAtoms ts).before a st = ts.all (fun c => c.before a st) := by
  induction ts with
  | nil => rfl
  | cons c t ih =>
    show (Jvm.Cond.and c (allAtoms t)).before a st = _
    rw [Jvm.Cond.before_and, ih, List.all_cons]
def words1 : List Jvm.Cond := Jvm.Cond.code x code maxLocals ret :: tables_1
/-- a 'code' word, met by the world's own term for the bytes: nothing is compared byte by byte -/
theorem code_word {y : MethodName} {bytes : ByteArray} {mx : Nat} {rt : Option FieldType} {a : Array Value} {s : State} {m : MethodId} {meth : Method} {c : Code} (h1 : s.methodNamed? y = some m) (h2 : s.vm.method? m = some meth) (h3 : meth.code = some c) (h4 : c.code = bytes)
    (h5 : (c.maxLocals == mx && c.exceptionTable.isEmpty && decide (c.maxStack ≤ mostOperands) && decide (meth.sig.returnType = rt) && !meth.locks && decide (parseMethodDescriptor y.desc = some meth.sig)) = true) : (Jvm.Cond.code y bytes mx rt).before a s = true := by
  simp only [Bool.and_eq_true, beq_iff_eq, Bool.not_eq_true', decide_eq_true_eq] at h5
  obtain ⟨⟨⟨⟨⟨g1, g2⟩, g3⟩, g4⟩, g5⟩, g6⟩ := h5
  simp [Cond.before, Cond.holds, Cond.value, h1, h2, h3, h4, g1, g2, g3, g4, g5, g6]
def isCode : Jvm.Cond → Bool
  | .code _ _ _ _ => true
  | _ => false
theorem all_split {L : List Jvm.Cond} {P : Jvm.Cond → Bool} (h1 : L.all (fun c => isCode c || P c) = true) (h2 : ∀ c ∈ L.filter isCode, P c = true) : L.all P = true := by
  refine List.all_eq_true.mpr fun c hc => ?_
  have h := List.all_eq_true.mp h1 c hc
  rcases Bool.eq_false_or_eq_true (isCode c) with hi | hi
  · exact h2 c (List.mem_filter.mpr ⟨hc, hi⟩)
  · simpa [hi] using h
set_option maxRecDepth 65536 in
theorem w_c0 : (Jvm.Cond.code x code maxLocals ret).before args0 about1 = true := code_word (m := ⟨1, 1⟩) (meth := k1m1) (c := k1c1) (by decide +kernel) rfl rfl rfl (by decide +kernel)
set_option maxRecDepth 65536 in
theorem w_c1 : (Jvm.Cond.code ({ cls := "com/example/canonym/canonym/iri/CharClasses", name := "isIprivate", desc := "(I)Z" } : Jvm.MethodName) prog_8_method_11_code (1 : Nat) (Option.some Jvm.ClassFile.FieldType.boolean)).before args0 about1 = true := code_word (m := ⟨2, 1⟩) (meth := k2m1) (c := k2c1) (by decide +kernel) rfl rfl rfl (by decide +kernel)
set_option maxRecDepth 65536 in
theorem w_c2 : (Jvm.Cond.code ({ cls := "com/example/canonym/canonym/iri/CharClasses", name := "inRange", desc := "(III)Z" } : Jvm.MethodName) prog_8_method_18_code (3 : Nat) (Option.some Jvm.ClassFile.FieldType.boolean)).before args0 about1 = true := code_word (m := ⟨2, 2⟩) (meth := k2m2) (c := k2c2) (by decide +kernel) rfl rfl rfl (by decide +kernel)
set_option maxRecDepth 65536 in
theorem w_c3 : (Jvm.Cond.code ({ cls := "com/example/canonym/canonym/iri/CharClassesIsIprivatePinLaw", name := "expected", desc := "(I)Z" } : Jvm.MethodName) method_3_code (3 : Nat) (Option.some Jvm.ClassFile.FieldType.boolean)).before args0 about1 = true := code_word (m := ⟨1, 2⟩) (meth := k1m2) (c := k1c2) (by decide +kernel) rfl rfl rfl (by decide +kernel)
def codes1 : List Jvm.Cond := [Jvm.Cond.code x code maxLocals ret, Jvm.Cond.code ({ cls := "com/example/canonym/canonym/iri/CharClasses", name := "isIprivate", desc := "(I)Z" } : Jvm.MethodName) prog_8_method_11_code (1 : Nat) (Option.some Jvm.ClassFile.FieldType.boolean), Jvm.Cond.code ({ cls := "com/example/canonym/canonym/iri/CharClasses", name := "inRange", desc := "(III)Z" } : Jvm.MethodName) prog_8_method_18_code (3 : Nat) (Option.some Jvm.ClassFile.FieldType.boolean), Jvm.Cond.code ({ cls := "com/example/canonym/canonym/iri/CharClassesIsIprivatePinLaw", name := "expected", desc := "(I)Z" } : Jvm.MethodName) method_3_code (3 : Nat) (Option.some Jvm.ClassFile.FieldType.boolean)]
set_option maxRecDepth 65536 in
theorem codes_eq : words1.filter isCode = codes1 := rfl
theorem w_codes : ∀ c ∈ words1.filter isCode, c.before args0 about1 = true := by
  rw [codes_eq]
  intro c hc
  simp only [codes1, List.mem_cons, List.not_mem_nil, or_false] at hc
  rcases hc with rfl | rfl | rfl | rfl
  · exact w_c0
  · exact w_c1
  · exact w_c2
  · exact w_c3
set_option maxRecDepth 65536 in
theorem w_t1 : (words1.take 24).all (fun c => isCode c || c.before args0 about1) = true := by decide +kernel
set_option maxRecDepth 65536 in
theorem w_t2 : (words1.drop 24).all (fun c => isCode c || c.before args0 about1) = true := by decide +kernel
theorem w_tables : (allAtoms (Jvm.Cond.code x code maxLocals ret :: tables_1)).before args0 about1 = true := by
  rw [allAtoms_all]
  show words1.all (fun c => c.before args0 about1) = true
  refine all_split ?_ w_codes
  rw [← List.take_append_drop 24 words1, List.all_append, w_t1, w_t2]
  rfl
set_option maxRecDepth 65536 in
theorem w_case : (Jvm.Cond.and given_1 narrow_1).before args0 about1 = true := by decide +kernel
theorem w_applies : (headSpec (Jvm.Cond.code x code maxLocals ret :: tables_1) room_1).applies x e0.platform about1 = true :=
  (Spec.applies_iff w_frames).mpr ⟨w_running, w_runnable, w_alone, w_named, w_hears, w_ripe, w_room, w_tables⟩
theorem atStart : AtStart classFile x code maxLocals ret World_1 tables_1 room_1 Calls_1 rest_1 Pre_1 launch0 p0 e0 about1 theMethod args0 below0 :=
  ⟨lists_1, trivial, launch0.admits_env _ _ _, launch0.least_env, fairChoices_fair.cas, fairChoices_fair.clock, w_frames, w_args, w_heap, w_applies, trivial, trivial, w_case⟩
end start1
theorem witness_1 : WitnessClaimed_1 := ⟨start1.p0, start1.e0, start1.about1, start1.theMethod, start1.args0, start1.below0, start1.atStart⟩
end Jvm.Pilot.@@N@@
