import JvmDerived
import JvmDerived.Pilot.@@N@@Statement
import JvmDerived.Pilot.@@N@@Code
set_option linter.unusedVariables false
set_option linter.unusedSimpArgs false
namespace Jvm.RoadKit
open Sem ClassFile Op Lib Jvm.Stand Jvm.Free Jvm.LawKit
section New
variable {p : Program} {l : Launch} {e : Env} {R : Room} {s : State} {m : MethodId} {args : Array Value} {below : List Frame} {meth : Method} {c : Code} {T : State} {locs : List Loc} {cells slots : Nat}
theorem retI (X : Stand p l e R s m args below meth c T locs cells slots) (hx : p.tables.exec = Jvm.exec) {pc : Nat} {Ls : Array Slot} {z : Int32} {rest : List Value} (hret : meth.sig.returnType = some .int) (hd : decode c.code pc = .ok (.ireturn, 1)) {fs : List Frame}
    (hl : ∀ (f : JFrame) (acts : List Action), f.method = m → f.locked = none → f.entered = [] → (doReturn e (T.setTop f) acts (some (.int z))).1 = T.setFrames fs) : Steps p.tables e below (T.setTop (mkF m pc Ls (.int z :: rest))) (T.setFrames fs) := by
  have hm' : T.vm.method? m = some meth := X.method'
  have hn : narrow .int (.int z) = .int z := rfl
  show Steps p.tables e below (T.setTop { method := m, pc := pc, locals := Ls, stack := _ :: rest, locked := none }) _
  jvm_step X.here [X.here.top, hx, hd, hm', hret, hn]
  first | (intro acts; rw [hl _ acts rfl rfl rfl]) | rw [hl _ _ rfl rfl rfl]
  exact Steps.refl _
/-- the run from G on comes to an end that Q speaks of -/
def Go (p : Program) (e : Env) (below : List Frame) (s : State) (Q : Option Value → Heap → List Loc → Prop) (ck sk : Nat) (G : State) : Prop :=
  ∃ s₂ o, Steps p.tables e below G s₂ ∧ s₂.status = .running ∧ Ended s₂ below o ∧ ∃ v L, o = .returned v ∧ Q v s₂.heap L ∧ FrameEnd s o s₂ L ck sk
theorem Go.of {Q : Option Value → Heap → List Loc → Prop} {ck sk : Nat} {G G' : State} (h : ∀ t, Steps p.tables e below G' t → Steps p.tables e below G t) (k : Go p e below s Q ck sk G') : Go p e below s Q ck sk G := by
  obtain ⟨s₂, o, h1, r⟩ := k
  exact ⟨s₂, o, h _ h1, r⟩
theorem Go.ret (X : Stand p l e R s m args below meth c T locs cells slots) {Q : Option Value → Heap → List Loc → Prop} {ck sk : Nat} {G : State} (v : Option Value) (hv : meth.sig.returnType = none → v = none) (hlk : meth.locks = false) (hq : Q v T.heap locs) (hc : cells ≤ ck) (hs : slots ≤ sk)
    (st : ∀ fs, (∀ (f : JFrame) (acts : List Action), f.method = m → f.locked = none → f.entered = [] → (doReturn e (T.setTop f) acts v).1 = T.setFrames fs) → Steps p.tables e below G (T.setFrames fs)) : Go p e below s Q ck sk G := by
  obtain ⟨fs, hr, hrun, hended, hW, hsame⟩ := X.leave hv hlk
  exact ⟨_, _, st fs hr, hrun, hended, v, locs, rfl, hq, ⟨_, rfl⟩, hW, hsame.mono hc hs⟩
/-- what it returns, that it wrote nothing old, and that the heap is as it was -/
def QP (val : Option Value) (h0 : Heap) (n0 : Nat) (v : Option Value) (h : Heap) (L : List Loc) : Prop := v = val ∧ Fr n0 L ∧ h = h0
/-- what it returns, and that it wrote nothing old -/
def QL (val : Option Value) (n0 : Nat) (v : Option Value) (h : Heap) (L : List Loc) : Prop := v = val ∧ Fr n0 L
theorem lremM {g : JFrame} {target : State} (X : Stand p l e R s m args below meth c T locs cells slots) (hx : p.tables.exec = Jvm.exec) (hg : g.method = m) {x y : Int64} {rest : List Value} (hd : decode c.code g.pc = .ok (.lrem, 1)) (hs : g.stack = .long y :: .long x :: rest) (hy : y ≠ 0)
    (hr : Steps p.tables e below (T.setTop { g with pc := g.pc + 1, stack := .long (x % y) :: rest }) target) : Steps p.tables e below (T.setTop g) target := by
  have q : x - x / y * y = x % y := lrem_mod x y
  exact XS.lrem X.here hx hg hd hs hy (by rw [q]; exact hr)
end New
end Jvm.RoadKit
namespace Jvm.Pilot.@@N@@
open Jvm Jvm.ClassFile Sem Op Lib Jvm.Free Jvm.Stand Jvm.LawKit Jvm.RoadKit Bundle Jvm.Pilot.@@N@@.Jvm.D
theorem own_pn0 : plainName "java/lang/Record" = true := by first | (simp [plainName, overriddenIn]; done) | decide +kernel
theorem d2_0 : decode jdk_30_method_1_code 0 = .ok (.aload_n 0, 1) := by decide +kernel
theorem d2_1 : decode jdk_30_method_1_code 1 = .ok (.invokespecial 1, 3) := by decide +kernel
theorem d2_4 : decode jdk_30_method_1_code 4 = .ok (.return_, 1) := by decide +kernel
theorem ef_2 (m : MethodId) (a0 : Addr) : entryFrame m #[(.ref a0)] 1 = mkF m 0 #[.val (.ref a0)] [] := by first | (simp [entryFrame, mkF, argsToLocals, Value.category]; done) | rfl
set_option maxRecDepth 65536 in
set_option maxHeartbeats 40000000 in
theorem rm2 (l : Launch) (Z : State) (az : Array Value) (hw : ∀ d ∈ tables_1, d.before az Z = true) (ws : List Jvm.Cond) (a0 : Addr)  (h0 : Heap) (n0 : Nat) (Z0 : n0 ≤ h0.size) :
    MetFree l (⟨"java/lang/Record", "<init>", "()V"⟩ : MethodName) (head1 (Jvm.Cond.code (⟨"java/lang/Record", "<init>", "()V"⟩ : MethodName) jdk_30_method_1_code 1 none :: ws) ({ frames := 1, cells := 0, slots := 0, locals := 12 } : Room)) (fun a U => a = #[(.ref a0)] ∧ Z.Warmed39 U.vm ∧ U.heap = h0) (fun _ _ _ _ _ => True) (fun _ U o U' => ∃ v L, o = .returned v ∧ (QP none h0 n0) v U'.heap L ∧ FrameEnd U o U' L ({ frames := 1, cells := 0, slots := 0, locals := 12 } : Room).cells ({ frames := 1, cells := 0, slots := 0, locals := 12 } : Room).slots) := by
  refine MetFree.of_bodySF (plainFor_of_name own_pn0) hisR ?_
  intro p e s m args below meth c s₁ Bd hml0 hP hK
  obtain ⟨rfl, hZ, hh⟩ := hP
  have hx := Bd.exec
  have hby := Bd.bytes
  have hml : c.maxLocals = 1 := hml0
  have hown : s.vm.findClass "java/lang/Record" = some m.cls := findClass_of_methodNamed Bd.named
  have hnm := (name_of_methodNamed Bd.named Bd.method).1
  have hlk : meth.locks = false := BodyLoose.notSynchronized Bd
  have X0 : Stand p l e ({ frames := 1, cells := 0, slots := 0, locals := 12 } : Room) s m #[(.ref a0)] below meth c s₁ [] 0 0 := Stand.of_body Bd
  have e0 : s₁.heap = h0 := by rw [← hh, Bd.state]; rfl
  have N0 := Fr.nil n0
  show Go p e below s (QP none h0 n0) ({ frames := 1, cells := 0, slots := 0, locals := 12 } : Room).cells ({ frames := 1, cells := 0, slots := 0, locals := 12 } : Room).slots (s₁.setTop (entryFrame m #[(.ref a0)] 1))
  refine Go.of (fun t k => castTop (ef_2 m a0) k) ?_
  show Go p e below s _ _ _ (s₁.setTop (mkF m 0 #[.val (.ref a0)] []))
  refine Go.of (fun t k => XS.aloadN X0.here hx rfl (hb hby d2_0) rfl rfl k) ?_
  show Go p e below s _ _ _ (s₁.setTop (mkF m 1 #[.val (.ref a0)] [(.ref a0)]))
  obtain ⟨T1, X1, e1, st1⟩ := initO X0 hx hZ hown (hw _ (List.mem_of_getElem? (i := 13) rfl)) (hw _ (List.mem_of_getElem? (i := 14) rfl)) (hw _ (List.mem_of_getElem? (i := 15) rfl)) e0 (g := (mkF m 1 #[.val (.ref a0)] [(.ref a0)])) rfl (by rw [hml]; rfl) rfl (hb hby d2_1) (by decide) (W := 0) (by show 2 * 0 + _ ≤ _; exact Nat.le_of_eq rfl) (by decide)
  refine Go.of st1 ?_
  show Go p e below s _ _ _ (T1.setTop (mkF m 4 #[.val (.ref a0)] []))
  exact Go.ret X1 none (fun _ => rfl) hlk ⟨rfl, N0, e1⟩ (by decide) (by decide) (fun fs hr => (X1.returnOut hx Bd.returns (hb hby d2_4) hr))
theorem own_pd0 : parseMethodDescriptor "()V" = some ⟨[], none⟩ := by decide +kernel
theorem own_pn1 : plainName "com/example/tidewall/tidewall/Address" = true := by first | (simp [plainName, overriddenIn]; done) | decide +kernel
theorem d1_0 : decode prog_1_method_1_code 0 = .ok (.aload_n 0, 1) := by decide +kernel
theorem d1_1 : decode prog_1_method_1_code 1 = .ok (.invokespecial 1, 3) := by decide +kernel
theorem d1_4 : decode prog_1_method_1_code 4 = .ok (.aload_n 0, 1) := by decide +kernel
theorem d1_5 : decode prog_1_method_1_code 5 = .ok (.lload_n 1, 1) := by decide +kernel
theorem d1_6 : decode prog_1_method_1_code 6 = .ok (.putfield 7, 3) := by decide +kernel
theorem d1_9 : decode prog_1_method_1_code 9 = .ok (.aload_n 0, 1) := by decide +kernel
theorem d1_10 : decode prog_1_method_1_code 10 = .ok (.lload_n 3, 1) := by decide +kernel
theorem d1_11 : decode prog_1_method_1_code 11 = .ok (.putfield 13, 3) := by decide +kernel
theorem d1_14 : decode prog_1_method_1_code 14 = .ok (.return_, 1) := by decide +kernel
theorem ef_1 (m : MethodId) (a0 : Addr) (q1 : Int64) (q2 : Int64) : entryFrame m #[(.ref a0), (.long q1), (.long q2)] 5 = mkF m 0 #[.val (.ref a0), .val (.long q1), .second, .val (.long q2), .second] [] := by first | (simp [entryFrame, mkF, argsToLocals, Value.category]; done) | rfl
def Q1 (Z : State) (a0 : Addr) (q1 : Int64) (q2 : Int64) (u_high_a0 : Value) (u_low_a0 : Value) (h0 : Heap) (n0 : Nat) (v : Option Value) (h : Heap) (L : List Loc) : Prop := v = none ∧ Fr n0 L ∧ Keep h0 h [a0] ∧ Exa Z h a0 "com/example/tidewall/tidewall/Address" ∧ Fld Z h a0 "com/example/tidewall/tidewall/Address" "high" "J" (.long q1) ∧ Fld Z h a0 "com/example/tidewall/tidewall/Address" "low" "J" (.long q2)
set_option maxRecDepth 65536 in
set_option maxHeartbeats 40000000 in
theorem rm1 (l : Launch) (Z : State) (az : Array Value) (hw : ∀ d ∈ tables_1, d.before az Z = true) (ws : List Jvm.Cond) (a0 : Addr) (q1 : Int64) (q2 : Int64) (u_high_a0 : Value) (u_low_a0 : Value) (h0 : Heap) (n0 : Nat) (Z0 : n0 ≤ h0.size) (E_a0 : Exa Z h0 a0 "com/example/tidewall/tidewall/Address") (Fp_high_a0 : Fld Z h0 a0 "com/example/tidewall/tidewall/Address" "high" "J" u_high_a0) (Fp_low_a0 : Fld Z h0 a0 "com/example/tidewall/tidewall/Address" "low" "J" u_low_a0) (g_a0 : n0 ≤ a0) :
    MetFree l (⟨"com/example/tidewall/tidewall/Address", "<init>", "(JJ)V"⟩ : MethodName) (head1 (Jvm.Cond.code (⟨"com/example/tidewall/tidewall/Address", "<init>", "(JJ)V"⟩ : MethodName) prog_1_method_1_code 5 none :: ws) ({ frames := 2, cells := 0, slots := 0, locals := 24 } : Room)) (fun a U => a = #[(.ref a0), (.long q1), (.long q2)] ∧ Z.Warmed39 U.vm ∧ U.heap = h0) (fun _ _ _ _ _ => True) (fun _ U o U' => ∃ v L, o = .returned v ∧ (Q1 Z a0 q1 q2 u_high_a0 u_low_a0 h0 n0) v U'.heap L ∧ FrameEnd U o U' L ({ frames := 2, cells := 0, slots := 0, locals := 24 } : Room).cells ({ frames := 2, cells := 0, slots := 0, locals := 24 } : Room).slots) := by
  refine MetFree.of_bodySF (plainFor_of_name own_pn1) hisR ?_
  intro p e s m args below meth c s₁ Bd hml0 hP hK
  obtain ⟨rfl, hZ, hh⟩ := hP
  have hx := Bd.exec
  have hby := Bd.bytes
  have hml : c.maxLocals = 5 := hml0
  have hown : s.vm.findClass "com/example/tidewall/tidewall/Address" = some m.cls := findClass_of_methodNamed Bd.named
  have hnm := (name_of_methodNamed Bd.named Bd.method).1
  have hlk : meth.locks = false := BodyLoose.notSynchronized Bd
  have X0 : Stand p l e ({ frames := 2, cells := 0, slots := 0, locals := 24 } : Room) s m #[(.ref a0), (.long q1), (.long q2)] below meth c s₁ [] 0 0 := Stand.of_body Bd
  have e0 : s₁.heap = h0 := by rw [← hh, Bd.state]; rfl
  have N0 := Fr.nil n0
  show Go p e below s (Q1 Z a0 q1 q2 u_high_a0 u_low_a0 h0 n0) ({ frames := 2, cells := 0, slots := 0, locals := 24 } : Room).cells ({ frames := 2, cells := 0, slots := 0, locals := 24 } : Room).slots (s₁.setTop (entryFrame m #[(.ref a0), (.long q1), (.long q2)] 5))
  refine Go.of (fun t k => castTop (ef_1 m a0 q1 q2) k) ?_
  show Go p e below s _ _ _ (s₁.setTop (mkF m 0 #[.val (.ref a0), .val (.long q1), .second, .val (.long q2), .second] []))
  refine Go.of (fun t k => XS.aloadN X0.here hx rfl (hb hby d1_0) rfl rfl k) ?_
  show Go p e below s _ _ _ (s₁.setTop (mkF m 1 #[.val (.ref a0), .val (.long q1), .second, .val (.long q2), .second] [(.ref a0)]))
  obtain ⟨_, _, ⟨T1, L1, k1, n1⟩, -, X1, ⟨Lc1, hQ1, l1, y1, z1⟩, st1⟩ := X0.specialBack hx (y := (⟨"java/lang/Record", "<init>", "()V"⟩ : MethodName)) rfl hown (mvT hZ (hw _ (List.mem_of_getElem? (i := 8) rfl))) (mvT hZ (hw _ (List.mem_of_getElem? (i := 9) rfl))) (mvT hZ (hw _ (List.mem_of_getElem? (i := 12) rfl))) (by decide) (backOf (W := 0) (rm2 l Z az hw [] a0  h0 n0 Z0 ) hZ (hw _ (List.mem_of_getElem? (i := 12) rfl)) (hw _ (List.mem_of_getElem? (i := 11) rfl)) (by decide) (by decide)) (g := (mkF m 1 #[.val (.ref a0), .val (.long q1), .second, .val (.long q2), .second] [(.ref a0)])) rfl (by rw [hml]; rfl) (Steps.refl _) (a := a0) (argsL := []) (rest := []) (lenOf own_pd0 rfl) rfl (by show 2 * 0 + _ ≤ _; exact Nat.le_of_eq rfl) (hb hby d1_1) (fun _ _ => ⟨rfl, e0, (by decide : 0 + 0 ≤ _), (by decide : 0 + 0 ≤ _)⟩)
  dsimp only [Pt.U, Pt.locs, Pt.cells, Pt.slots] at X1 l1 y1 z1 st1 hQ1
  subst l1 y1 z1
  obtain ⟨rfl, N1q, e1⟩ := hQ1
  have N1 := Fr.app N0 N1q
  refine Go.of (fun t k => st1.trans k) ?_
  show Go p e below s _ _ _ (T1.setTop (mkF m 4 #[.val (.ref a0), .val (.long q1), .second, .val (.long q2), .second] []))
  refine Go.of (fun t k => XS.aloadN X1.here hx rfl (hb hby d1_4) rfl rfl k) ?_
  show Go p e below s _ _ _ (T1.setTop (mkF m 5 #[.val (.ref a0), .val (.long q1), .second, .val (.long q2), .second] [(.ref a0)]))
  refine Go.of (fun t k => XS.lloadN X1.here hx rfl (hb hby d1_5) rfl k) ?_
  show Go p e below s _ _ _ (T1.setTop (mkF m 6 #[.val (.ref a0), .val (.long q1), .second, .val (.long q2), .second] [(.long q1), (.ref a0)]))
  obtain ⟨T2, h2, X2, e2, W2, st2⟩ := putF X1 hx hZ hown (host := "") (Or.inl (hw _ (List.mem_of_getElem? (i := 16) rfl))) Via.refl e1 Fp_high_a0 E_a0 (Or.inr ⟨(hw _ (List.mem_of_getElem? (i := 17) rfl)), rfl, hnm⟩) (hw _ (List.mem_of_getElem? (i := 3) rfl)) (ty := .long) (by decide) rfl rfl (g := (mkF m 6 #[.val (.ref a0), .val (.long q1), .second, .val (.long q2), .second] [(.long q1), (.ref a0)])) rfl rfl (hb hby d1_6)
  have f3 := Fp_high_a0.same W2
  have f4 := E_a0.wr W2
  have f5 := Fp_low_a0.other W2 (Or.inr (slot_ne (Or.inr (hw _ (List.mem_of_getElem? (i := 19) rfl))) (Or.inr (hw _ (List.mem_of_getElem? (i := 17) rfl))) (by decide) (t := .long) (t' := .long) (by decide) (by decide)))
  have N2 := Fr.snoc X2 N1 g_a0
  have K2 : Keep h0 h2 [a0] := Keep.wr (Keep.refl h0 [a0]) W2 (Or.inl (List.mem_of_getElem? (i := 0) rfl))
  refine Go.of st2 ?_
  show Go p e below s _ _ _ (T2.setTop (mkF m 9 #[.val (.ref a0), .val (.long q1), .second, .val (.long q2), .second] []))
  refine Go.of (fun t k => XS.aloadN X2.here hx rfl (hb hby d1_9) rfl rfl k) ?_
  show Go p e below s _ _ _ (T2.setTop (mkF m 10 #[.val (.ref a0), .val (.long q1), .second, .val (.long q2), .second] [(.ref a0)]))
  refine Go.of (fun t k => XS.lloadN X2.here hx rfl (hb hby d1_10) rfl k) ?_
  show Go p e below s _ _ _ (T2.setTop (mkF m 11 #[.val (.ref a0), .val (.long q1), .second, .val (.long q2), .second] [(.long q2), (.ref a0)]))
  obtain ⟨T6, h6, X6, e6, W6, st6⟩ := putF X2 hx hZ hown (host := "") (Or.inl (hw _ (List.mem_of_getElem? (i := 18) rfl))) Via.refl e2 f5 f4 (Or.inr ⟨(hw _ (List.mem_of_getElem? (i := 19) rfl)), rfl, hnm⟩) (hw _ (List.mem_of_getElem? (i := 3) rfl)) (ty := .long) (by decide) rfl rfl (g := (mkF m 11 #[.val (.ref a0), .val (.long q1), .second, .val (.long q2), .second] [(.long q2), (.ref a0)])) rfl rfl (hb hby d1_11)
  have f7 := f5.same W6
  have f8 := f4.wr W6
  have f9 := f3.other W6 (Or.inr (slot_ne (Or.inr (hw _ (List.mem_of_getElem? (i := 17) rfl))) (Or.inr (hw _ (List.mem_of_getElem? (i := 19) rfl))) (by decide) (t := .long) (t' := .long) (by decide) (by decide)))
  have N6 := Fr.snoc X6 N2 g_a0
  have K6 : Keep h0 h6 [a0] := Keep.wr K2 W6 (Or.inl (List.mem_of_getElem? (i := 0) rfl))
  refine Go.of st6 ?_
  show Go p e below s _ _ _ (T6.setTop (mkF m 14 #[.val (.ref a0), .val (.long q1), .second, .val (.long q2), .second] []))
  exact Go.ret X6 none (fun _ => rfl) hlk (by rw [e6]; exact ⟨rfl, N6, K6, f8, f9, f7⟩) (by decide) (by decide) (fun fs hr => (X6.returnOut hx Bd.returns (hb hby d1_14) hr))
theorem d4_0 : decode prog_1_method_4_code 0 = .ok (.aload_n 0, 1) := by decide +kernel
theorem d4_1 : decode prog_1_method_4_code 1 = .ok (.getfield 7, 3) := by decide +kernel
theorem d4_4 : decode prog_1_method_4_code 4 = .ok (.lconst 0, 1) := by decide +kernel
theorem d4_5 : decode prog_1_method_4_code 5 = .ok (.lcmp, 1) := by decide +kernel
theorem d4_6 : decode prog_1_method_4_code 6 = .ok (.ifCond .ne 22, 3) := by decide +kernel
theorem d4_9 : decode prog_1_method_4_code 9 = .ok (.aload_n 0, 1) := by decide +kernel
theorem d4_10 : decode prog_1_method_4_code 10 = .ok (.getfield 13, 3) := by decide +kernel
theorem d4_13 : decode prog_1_method_4_code 13 = .ok (.ldc2_w 76, 3) := by decide +kernel
theorem d4_16 : decode prog_1_method_4_code 16 = .ok (.land, 1) := by decide +kernel
theorem d4_17 : decode prog_1_method_4_code 17 = .ok (.ldc2_w 60, 3) := by decide +kernel
theorem d4_20 : decode prog_1_method_4_code 20 = .ok (.lcmp, 1) := by decide +kernel
theorem d4_21 : decode prog_1_method_4_code 21 = .ok (.ifCond .ne 7, 3) := by decide +kernel
theorem d4_24 : decode prog_1_method_4_code 24 = .ok (.iconst 1, 1) := by decide +kernel
theorem d4_25 : decode prog_1_method_4_code 25 = .ok (.goto 4, 3) := by decide +kernel
theorem d4_28 : decode prog_1_method_4_code 28 = .ok (.iconst 0, 1) := by decide +kernel
theorem d4_29 : decode prog_1_method_4_code 29 = .ok (.ireturn, 1) := by decide +kernel
theorem ef_4 (m : MethodId) (a0 : Addr) : entryFrame m #[(.ref a0)] 1 = mkF m 0 #[.val (.ref a0)] [] := by first | (simp [entryFrame, mkF, argsToLocals, Value.category]; done) | rfl
def F4 (u_high_a0 : Int64) (u_low_a0 : Int64) : Int32 := (if u_high_a0 = (0 : Int64) then (if (u_low_a0 &&& (-4294967296 : Int64)) = (281470681743360 : Int64) then (1 : Int32) else (0 : Int32)) else (0 : Int32))
set_option maxRecDepth 65536 in
set_option maxHeartbeats 40000000 in
theorem rm4 (l : Launch) (Z : State) (az : Array Value) (hw : ∀ d ∈ tables_1, d.before az Z = true) (ws : List Jvm.Cond) (a0 : Addr) (u_high_a0 : Int64) (u_low_a0 : Int64) (h0 : Heap) (n0 : Nat) (Z0 : n0 ≤ h0.size) (Fp_high_a0 : Fld Z h0 a0 "com/example/tidewall/tidewall/Address" "high" "J" (.long u_high_a0)) (Fp_low_a0 : Fld Z h0 a0 "com/example/tidewall/tidewall/Address" "low" "J" (.long u_low_a0)) :
    MetFree l (⟨"com/example/tidewall/tidewall/Address", "isIpv4", "()Z"⟩ : MethodName) (head1 (Jvm.Cond.code (⟨"com/example/tidewall/tidewall/Address", "isIpv4", "()Z"⟩ : MethodName) prog_1_method_4_code 1 (some .boolean) :: ws) ({ frames := 0, cells := 0, slots := 0, locals := 0 } : Room)) (fun a U => a = #[(.ref a0)] ∧ Z.Warmed39 U.vm ∧ U.heap = h0) (fun _ _ _ _ _ => True) (fun _ U o U' => ∃ v L, o = .returned v ∧ (QP (some (.int (F4 u_high_a0 u_low_a0))) h0 n0) v U'.heap L ∧ FrameEnd U o U' L ({ frames := 0, cells := 0, slots := 0, locals := 0 } : Room).cells ({ frames := 0, cells := 0, slots := 0, locals := 0 } : Room).slots) := by
  refine MetFree.of_bodySF (plainFor_of_name own_pn1) hisR ?_
  intro p e s m args below meth c s₁ Bd hml0 hP hK
  obtain ⟨rfl, hZ, hh⟩ := hP
  have hx := Bd.exec
  have hby := Bd.bytes
  have hml : c.maxLocals = 1 := hml0
  have hown : s.vm.findClass "com/example/tidewall/tidewall/Address" = some m.cls := findClass_of_methodNamed Bd.named
  have hnm := (name_of_methodNamed Bd.named Bd.method).1
  have hlk : meth.locks = false := BodyLoose.notSynchronized Bd
  have X0 : Stand p l e ({ frames := 0, cells := 0, slots := 0, locals := 0 } : Room) s m #[(.ref a0)] below meth c s₁ [] 0 0 := Stand.of_body Bd
  have e0 : s₁.heap = h0 := by rw [← hh, Bd.state]; rfl
  have N0 := Fr.nil n0
  show Go p e below s (QP (some (.int (F4 u_high_a0 u_low_a0))) h0 n0) ({ frames := 0, cells := 0, slots := 0, locals := 0 } : Room).cells ({ frames := 0, cells := 0, slots := 0, locals := 0 } : Room).slots (s₁.setTop (entryFrame m #[(.ref a0)] 1))
  refine Go.of (fun t k => castTop (ef_4 m a0) k) ?_
  show Go p e below s _ _ _ (s₁.setTop (mkF m 0 #[.val (.ref a0)] []))
  unfold F4
  refine Go.of (fun t k => XS.aloadN X0.here hx rfl (hb hby d4_0) rfl rfl k) ?_
  show Go p e below s _ _ _ (s₁.setTop (mkF m 1 #[.val (.ref a0)] [(.ref a0)]))
  obtain ⟨T1, X1, e1, st1⟩ := getF X0 hx hZ hown (host := "") (Or.inl (hw _ (List.mem_of_getElem? (i := 16) rfl))) Via.refl e0 Fp_high_a0 (g := (mkF m 1 #[.val (.ref a0)] [(.ref a0)])) rfl rfl (hb hby d4_1)
  refine Go.of st1 ?_
  show Go p e below s _ _ _ (T1.setTop (mkF m 4 #[.val (.ref a0)] [(.long u_high_a0)]))
  refine Go.of (fun t k => XS.lconst X1.here hx rfl (hb hby d4_4) k) ?_
  show Go p e below s _ _ _ (T1.setTop (mkF m 5 #[.val (.ref a0)] [(.long (0 : Int64)), (.long u_high_a0)]))
  refine Go.of (fun t k => XS.lcmp X1.here hx rfl (hb hby d4_5) rfl k) ?_
  show Go p e below s _ _ _ (T1.setTop (mkF m 6 #[.val (.ref a0)] [(.int (lcmpW u_high_a0 (0 : Int64)))]))
  by_cases hc6_2 : u_high_a0 = (0 : Int64)
  · rewrite [if_pos hc6_2]
    refine Go.of (fun t k => XS.ifNo X1.here hx rfl (hb hby d4_6) rfl ((if0 _ _).trans (teq ((lw_eq u_high_a0 (0 : Int64)).mpr hc6_2)).2) k) ?_
    show Go p e below s _ _ _ (T1.setTop (mkF m 9 #[.val (.ref a0)] []))
    refine Go.of (fun t k => XS.aloadN X1.here hx rfl (hb hby d4_9) rfl rfl k) ?_
    show Go p e below s _ _ _ (T1.setTop (mkF m 10 #[.val (.ref a0)] [(.ref a0)]))
    obtain ⟨T3, X3, e3, st3⟩ := getF X1 hx hZ hown (host := "") (Or.inl (hw _ (List.mem_of_getElem? (i := 18) rfl))) Via.refl e1 Fp_low_a0 (g := (mkF m 10 #[.val (.ref a0)] [(.ref a0)])) rfl rfl (hb hby d4_10)
    refine Go.of st3 ?_
    show Go p e below s _ _ _ (T3.setTop (mkF m 13 #[.val (.ref a0)] [(.long u_low_a0)]))
    refine Go.of (X3.ldc2Long hx hown (mvT hZ (hw _ (List.mem_of_getElem? (i := 26) rfl))) (g := (mkF m 13 #[.val (.ref a0)] [(.long u_low_a0)])) rfl (hb hby d4_13)) ?_
    show Go p e below s _ _ _ (T3.setTop (mkF m 16 #[.val (.ref a0)] [(.long (-4294967296 : Int64)), (.long u_low_a0)]))
    refine Go.of (fun t k => XS.land X3.here hx rfl (hb hby d4_16) rfl k) ?_
    show Go p e below s _ _ _ (T3.setTop (mkF m 17 #[.val (.ref a0)] [(.long (u_low_a0 &&& (-4294967296 : Int64)))]))
    refine Go.of (X3.ldc2Long hx hown (mvT hZ (hw _ (List.mem_of_getElem? (i := 27) rfl))) (g := (mkF m 17 #[.val (.ref a0)] [(.long (u_low_a0 &&& (-4294967296 : Int64)))])) rfl (hb hby d4_17)) ?_
    show Go p e below s _ _ _ (T3.setTop (mkF m 20 #[.val (.ref a0)] [(.long (281470681743360 : Int64)), (.long (u_low_a0 &&& (-4294967296 : Int64)))]))
    refine Go.of (fun t k => XS.lcmp X3.here hx rfl (hb hby d4_20) rfl k) ?_
    show Go p e below s _ _ _ (T3.setTop (mkF m 21 #[.val (.ref a0)] [(.int (lcmpW (u_low_a0 &&& (-4294967296 : Int64)) (281470681743360 : Int64)))]))
    by_cases hc21_4 : (u_low_a0 &&& (-4294967296 : Int64)) = (281470681743360 : Int64)
    · rewrite [if_pos hc21_4]
      refine Go.of (fun t k => XS.ifNo X3.here hx rfl (hb hby d4_21) rfl ((if0 _ _).trans (teq ((lw_eq (u_low_a0 &&& (-4294967296 : Int64)) (281470681743360 : Int64)).mpr hc21_4)).2) k) ?_
      show Go p e below s _ _ _ (T3.setTop (mkF m 24 #[.val (.ref a0)] []))
      refine Go.of (fun t k => XS.iconst X3.here hx rfl (hb hby d4_24) k) ?_
      show Go p e below s _ _ _ (T3.setTop (mkF m 25 #[.val (.ref a0)] [(.int (1 : Int32))]))
      refine Go.of (fun t k => XS.goto X3.here hx rfl (pc0 := 25) (pc' := 29) rfl (hb hby d4_25) (by decide) (by decide) k) ?_
      show Go p e below s _ _ _ (T3.setTop (mkF m 29 #[.val (.ref a0)] [(.int (1 : Int32))]))
      exact Go.ret X3 (some (.int (1 : Int32))) (fun h => by rw [Bd.returns] at h; cases h) hlk ⟨rfl, N0, e3⟩ (by decide) (by decide) (fun fs hr => (retN X3 hx (t := .boolean) Bd.returns (by simp) (hb hby d4_29) hr))
    · rewrite [if_neg hc21_4]
      refine Go.of (fun t k => XS.ifYes X3.here hx rfl (pc0 := 21) (pc' := 28) rfl (hb hby d4_21) rfl ((if0 _ _).trans (feq (mt (lw_eq (u_low_a0 &&& (-4294967296 : Int64)) (281470681743360 : Int64)).mp hc21_4)).2) (by decide) (by decide) k) ?_
      show Go p e below s _ _ _ (T3.setTop (mkF m 28 #[.val (.ref a0)] []))
      refine Go.of (fun t k => XS.iconst X3.here hx rfl (hb hby d4_28) k) ?_
      show Go p e below s _ _ _ (T3.setTop (mkF m 29 #[.val (.ref a0)] [(.int (0 : Int32))]))
      exact Go.ret X3 (some (.int (0 : Int32))) (fun h => by rw [Bd.returns] at h; cases h) hlk ⟨rfl, N0, e3⟩ (by decide) (by decide) (fun fs hr => (retN X3 hx (t := .boolean) Bd.returns (by simp) (hb hby d4_29) hr))
  · rewrite [if_neg hc6_2]
    refine Go.of (fun t k => XS.ifYes X1.here hx rfl (pc0 := 6) (pc' := 28) rfl (hb hby d4_6) rfl ((if0 _ _).trans (feq (mt (lw_eq u_high_a0 (0 : Int64)).mp hc6_2)).2) (by decide) (by decide) k) ?_
    show Go p e below s _ _ _ (T1.setTop (mkF m 28 #[.val (.ref a0)] []))
    refine Go.of (fun t k => XS.iconst X1.here hx rfl (hb hby d4_28) k) ?_
    show Go p e below s _ _ _ (T1.setTop (mkF m 29 #[.val (.ref a0)] [(.int (0 : Int32))]))
    exact Go.ret X1 (some (.int (0 : Int32))) (fun h => by rw [Bd.returns] at h; cases h) hlk ⟨rfl, N0, e1⟩ (by decide) (by decide) (fun fs hr => (retN X1 hx (t := .boolean) Bd.returns (by simp) (hb hby d4_29) hr))
theorem own_pd1 : parseMethodDescriptor "(JJ)V" = some ⟨[.long, .long], none⟩ := by decide +kernel
theorem own_pd2 : parseMethodDescriptor "()Z" = some ⟨[], some .boolean⟩ := by decide +kernel
theorem own_pn2 : plainName "com/example/tidewall/tidewall/AddressIsIpv4PinLaw" = true := by first | (simp [plainName, overriddenIn]; done) | decide +kernel
theorem ef_0 (m : MethodId) (q0 : Int64) (q1 : Int64) (p2 : Int32) (p3 : Int32) : entryFrame m #[(.long q0), (.long q1), (.int p2), (.int p3)] maxLocals = mkF m 0 #[.val (.long q0), .second, .val (.long q1), .second, .val (.int p2), .val (.int p3), .unset, .unset, .unset, .unset, .unset, .unset, .unset, .unset, .unset] [] := by first | (simp [entryFrame, mkF, argsToLocals, Value.category, maxLocals]; done) | rfl
def F0_124 (w0_12 : Int64) (v11_87 : Int64) (w0_124 : Int32) : Int32 := (if (F4 w0_12 v11_87) = w0_124 then (1 : Int32) else (0 : Int32))
def F0_123 (w0_12 : Int64) (v11_87 : Int64) : Int32 := (F0_124 w0_12 v11_87 (0 : Int32))
def F0_87 (w0_12 : Int64) (v11_87 : Int64) : Int32 := (if w0_12 = (0 : Int64) then (if ((v11_87.toUInt64 >>> ((32 : Int32) &&& 0x3f).toInt64.toUInt64).toInt64) = (65535 : Int64) then (F0_124 w0_12 v11_87 (1 : Int32)) else (F0_123 w0_12 v11_87)) else (F0_123 w0_12 v11_87))
def F0_12 (q1 : Int64) (p2 : Int32) (p3 : Int32) (w0_12 : Int64) : Int32 := (if (p2 &&& (3 : Int32)) = (0 : Int32) then (F0_87 w0_12 q1) else (if (p2 &&& (3 : Int32)) = (1 : Int32) then (F0_87 w0_12 ((281470681743360 : Int64) ||| (q1 &&& (4294967295 : Int64)))) else (if (p2 &&& (3 : Int32)) = (2 : Int32) then (F0_87 w0_12 (((281470681743360 : Int64) ||| (q1 &&& (4294967295 : Int64))) ^^^ ((1 : Int64) <<< ((p3 &&& (63 : Int32)) &&& 0x3f).toInt64))) else (F0_87 w0_12 (((281470681743360 : Int64) ||| (q1 &&& (4294967295 : Int64))) ^^^ ((p3.toInt64) <<< ((32 : Int32) &&& 0x3f).toInt64))))))
def F0 (q0 : Int64) (q1 : Int64) (p2 : Int32) (p3 : Int32) : Int32 := (if (p2 &&& (4 : Int32)) = (0 : Int32) then (F0_12 q1 p2 p3 (0 : Int64)) else (F0_12 q1 p2 p3 q0))
set_option maxRecDepth 65536 in
set_option maxHeartbeats 40000000 in
theorem rm0 (l : Launch) (Z : State) (az : Array Value) (hw : ∀ d ∈ tables_1, d.before az Z = true) (ws : List Jvm.Cond) (q0 : Int64) (q1 : Int64) (p2 : Int32) (p3 : Int32)  (h0 : Heap) (n0 : Nat) (Z0 : n0 ≤ h0.size) :
    MetFree l x (head1 (Jvm.Cond.code x code maxLocals ret :: ws) room_1) (fun a U => a = #[(.long q0), (.long q1), (.int p2), (.int p3)] ∧ Z.Warmed39 U.vm ∧ U.heap = h0) (fun _ _ _ _ _ => True) (fun _ U o U' => ∃ v L, o = .returned v ∧ (QL (some (.int (F0 q0 q1 p2 p3))) n0) v U'.heap L ∧ FrameEnd U o U' L room_1.cells room_1.slots) := by
  refine MetFree.of_bodySF (plainFor_of_name own_pn2) hisR ?_
  intro p e s m args below meth c s₁ Bd hml0 hP hK
  obtain ⟨rfl, hZ, hh⟩ := hP
  have hx := Bd.exec
  have hby := Bd.bytes
  have hml : c.maxLocals = 15 := hml0
  have hown : s.vm.findClass "com/example/tidewall/tidewall/AddressIsIpv4PinLaw" = some m.cls := findClass_of_methodNamed Bd.named
  have hnm := (name_of_methodNamed Bd.named Bd.method).1
  have hlk : meth.locks = false := BodyLoose.notSynchronized Bd
  have X0 : Stand p l e room_1 s m #[(.long q0), (.long q1), (.int p2), (.int p3)] below meth c s₁ [] 0 0 := Stand.of_body Bd
  have e0 : s₁.heap = h0 := by rw [← hh, Bd.state]; rfl
  have N0 := Fr.nil n0
  show Go p e below s (QL (some (.int (F0 q0 q1 p2 p3))) n0) room_1.cells room_1.slots (s₁.setTop (entryFrame m #[(.long q0), (.long q1), (.int p2), (.int p3)] maxLocals))
  refine Go.of (fun t k => castTop (ef_0 m q0 q1 p2 p3) k) ?_
  show Go p e below s _ _ _ (s₁.setTop (mkF m 0 #[.val (.long q0), .second, .val (.long q1), .second, .val (.int p2), .val (.int p3), .unset, .unset, .unset, .unset, .unset, .unset, .unset, .unset, .unset] []))
  unfold F0
  refine Go.of (fun t k => XS.iload X0.here hx rfl (hb hby at_0) rfl k) ?_
  show Go p e below s _ _ _ (s₁.setTop (mkF m 2 #[.val (.long q0), .second, .val (.long q1), .second, .val (.int p2), .val (.int p3), .unset, .unset, .unset, .unset, .unset, .unset, .unset, .unset, .unset] [(.int p2)]))
  refine Go.of (fun t k => XS.iconst X0.here hx rfl (hb hby at_2) k) ?_
  show Go p e below s _ _ _ (s₁.setTop (mkF m 3 #[.val (.long q0), .second, .val (.long q1), .second, .val (.int p2), .val (.int p3), .unset, .unset, .unset, .unset, .unset, .unset, .unset, .unset, .unset] [(.int (4 : Int32)), (.int p2)]))
  refine Go.of (fun t k => XS.iand X0.here hx rfl (hb hby at_3) rfl k) ?_
  show Go p e below s _ _ _ (s₁.setTop (mkF m 4 #[.val (.long q0), .second, .val (.long q1), .second, .val (.int p2), .val (.int p3), .unset, .unset, .unset, .unset, .unset, .unset, .unset, .unset, .unset] [(.int (p2 &&& (4 : Int32)))]))
  have jn12 : ∀ (w0_12 : Int64) (T_12 : State) (l_12 : List Loc) (X_12 : Stand p l e room_1 s m #[(.long q0), (.long q1), (.int p2), (.int p3)] below meth c T_12 l_12 0 0) (e_12 : T_12.heap = h0) (N_12 : Fr n0 l_12), Go p e below s (QL (some (.int (F0_12 q1 p2 p3 w0_12))) n0) room_1.cells room_1.slots (T_12.setTop (mkF m 12 #[.val (.long q0), .second, .val (.long q1), .second, .val (.int p2), .val (.int p3), .unset, .unset, .unset, .unset, .unset, .unset, .unset, .unset, .unset] [(.long w0_12)])) := by
    intro w0_12 T_12 l_12 X_12 e_12 N_12
    unfold F0_12
    refine Go.of (fun t k => XS.lstore X_12.here hx rfl (hb hby at_12) rfl (l' := #[.val (.long q0), .second, .val (.long q1), .second, .val (.int p2), .val (.int p3), .val (.long w0_12), .second, .unset, .unset, .unset, .unset, .unset, .unset, .unset]) rfl k) ?_
    show Go p e below s _ _ _ (T_12.setTop (mkF m 14 #[.val (.long q0), .second, .val (.long q1), .second, .val (.int p2), .val (.int p3), .val (.long w0_12), .second, .unset, .unset, .unset, .unset, .unset, .unset, .unset] []))
    refine Go.of (X_12.ldc2Long hx hown (mvT hZ (hw _ (List.mem_of_getElem? (i := 0) rfl))) (g := (mkF m 14 #[.val (.long q0), .second, .val (.long q1), .second, .val (.int p2), .val (.int p3), .val (.long w0_12), .second, .unset, .unset, .unset, .unset, .unset, .unset, .unset] [])) rfl (hb hby at_14)) ?_
    show Go p e below s _ _ _ (T_12.setTop (mkF m 17 #[.val (.long q0), .second, .val (.long q1), .second, .val (.int p2), .val (.int p3), .val (.long w0_12), .second, .unset, .unset, .unset, .unset, .unset, .unset, .unset] [(.long (281470681743360 : Int64))]))
    refine Go.of (fun t k => XS.lloadN X_12.here hx rfl (hb hby at_17) rfl k) ?_
    show Go p e below s _ _ _ (T_12.setTop (mkF m 18 #[.val (.long q0), .second, .val (.long q1), .second, .val (.int p2), .val (.int p3), .val (.long w0_12), .second, .unset, .unset, .unset, .unset, .unset, .unset, .unset] [(.long q1), (.long (281470681743360 : Int64))]))
    refine Go.of (X_12.ldc2Long hx hown (mvT hZ (hw _ (List.mem_of_getElem? (i := 1) rfl))) (g := (mkF m 18 #[.val (.long q0), .second, .val (.long q1), .second, .val (.int p2), .val (.int p3), .val (.long w0_12), .second, .unset, .unset, .unset, .unset, .unset, .unset, .unset] [(.long q1), (.long (281470681743360 : Int64))])) rfl (hb hby at_18)) ?_
    show Go p e below s _ _ _ (T_12.setTop (mkF m 21 #[.val (.long q0), .second, .val (.long q1), .second, .val (.int p2), .val (.int p3), .val (.long w0_12), .second, .unset, .unset, .unset, .unset, .unset, .unset, .unset] [(.long (4294967295 : Int64)), (.long q1), (.long (281470681743360 : Int64))]))
    refine Go.of (fun t k => XS.land X_12.here hx rfl (hb hby at_21) rfl k) ?_
    show Go p e below s _ _ _ (T_12.setTop (mkF m 22 #[.val (.long q0), .second, .val (.long q1), .second, .val (.int p2), .val (.int p3), .val (.long w0_12), .second, .unset, .unset, .unset, .unset, .unset, .unset, .unset] [(.long (q1 &&& (4294967295 : Int64))), (.long (281470681743360 : Int64))]))
    refine Go.of (fun t k => XS.lor X_12.here hx rfl (hb hby at_22) rfl k) ?_
    show Go p e below s _ _ _ (T_12.setTop (mkF m 23 #[.val (.long q0), .second, .val (.long q1), .second, .val (.int p2), .val (.int p3), .val (.long w0_12), .second, .unset, .unset, .unset, .unset, .unset, .unset, .unset] [(.long ((281470681743360 : Int64) ||| (q1 &&& (4294967295 : Int64))))]))
    refine Go.of (fun t k => XS.lstore X_12.here hx rfl (hb hby at_23) rfl (l' := #[.val (.long q0), .second, .val (.long q1), .second, .val (.int p2), .val (.int p3), .val (.long w0_12), .second, .val (.long ((281470681743360 : Int64) ||| (q1 &&& (4294967295 : Int64)))), .second, .unset, .unset, .unset, .unset, .unset]) rfl k) ?_
    show Go p e below s _ _ _ (T_12.setTop (mkF m 25 #[.val (.long q0), .second, .val (.long q1), .second, .val (.int p2), .val (.int p3), .val (.long w0_12), .second, .val (.long ((281470681743360 : Int64) ||| (q1 &&& (4294967295 : Int64)))), .second, .unset, .unset, .unset, .unset, .unset] []))
    refine Go.of (fun t k => XS.iload X_12.here hx rfl (hb hby at_25) rfl k) ?_
    show Go p e below s _ _ _ (T_12.setTop (mkF m 27 #[.val (.long q0), .second, .val (.long q1), .second, .val (.int p2), .val (.int p3), .val (.long w0_12), .second, .val (.long ((281470681743360 : Int64) ||| (q1 &&& (4294967295 : Int64)))), .second, .unset, .unset, .unset, .unset, .unset] [(.int p2)]))
    refine Go.of (fun t k => XS.iconst X_12.here hx rfl (hb hby at_27) k) ?_
    show Go p e below s _ _ _ (T_12.setTop (mkF m 28 #[.val (.long q0), .second, .val (.long q1), .second, .val (.int p2), .val (.int p3), .val (.long w0_12), .second, .val (.long ((281470681743360 : Int64) ||| (q1 &&& (4294967295 : Int64)))), .second, .unset, .unset, .unset, .unset, .unset] [(.int (3 : Int32)), (.int p2)]))
    refine Go.of (fun t k => XS.iand X_12.here hx rfl (hb hby at_28) rfl k) ?_
    show Go p e below s _ _ _ (T_12.setTop (mkF m 29 #[.val (.long q0), .second, .val (.long q1), .second, .val (.int p2), .val (.int p3), .val (.long w0_12), .second, .val (.long ((281470681743360 : Int64) ||| (q1 &&& (4294967295 : Int64)))), .second, .unset, .unset, .unset, .unset, .unset] [(.int (p2 &&& (3 : Int32)))]))
    refine Go.of (fun t k => XS.istore X_12.here hx rfl (hb hby at_29) rfl (l' := #[.val (.long q0), .second, .val (.long q1), .second, .val (.int p2), .val (.int p3), .val (.long w0_12), .second, .val (.long ((281470681743360 : Int64) ||| (q1 &&& (4294967295 : Int64)))), .second, .val (.int (p2 &&& (3 : Int32))), .unset, .unset, .unset, .unset]) rfl k) ?_
    show Go p e below s _ _ _ (T_12.setTop (mkF m 31 #[.val (.long q0), .second, .val (.long q1), .second, .val (.int p2), .val (.int p3), .val (.long w0_12), .second, .val (.long ((281470681743360 : Int64) ||| (q1 &&& (4294967295 : Int64)))), .second, .val (.int (p2 &&& (3 : Int32))), .unset, .unset, .unset, .unset] []))
    refine Go.of (fun t k => XS.iload X_12.here hx rfl (hb hby at_31) rfl k) ?_
    show Go p e below s _ _ _ (T_12.setTop (mkF m 33 #[.val (.long q0), .second, .val (.long q1), .second, .val (.int p2), .val (.int p3), .val (.long w0_12), .second, .val (.long ((281470681743360 : Int64) ||| (q1 &&& (4294967295 : Int64)))), .second, .val (.int (p2 &&& (3 : Int32))), .unset, .unset, .unset, .unset] [(.int (p2 &&& (3 : Int32)))]))
    have jn87 : ∀ (v11_87 : Int64) (T_87 : State) (l_87 : List Loc) (X_87 : Stand p l e room_1 s m #[(.long q0), (.long q1), (.int p2), (.int p3)] below meth c T_87 l_87 0 0) (e_87 : T_87.heap = h0) (N_87 : Fr n0 l_87), Go p e below s (QL (some (.int (F0_87 w0_12 v11_87))) n0) room_1.cells room_1.slots (T_87.setTop (mkF m 87 #[.val (.long q0), .second, .val (.long q1), .second, .val (.int p2), .val (.int p3), .val (.long w0_12), .second, .val (.long ((281470681743360 : Int64) ||| (q1 &&& (4294967295 : Int64)))), .second, .val (.int (p2 &&& (3 : Int32))), .val (.long v11_87), .second, .unset, .unset] [])) := by
      intro v11_87 T_87 l_87 X_87 e_87 N_87
      unfold F0_87
      obtain ⟨T1, h1, X1, e1, E1, A1, D1, -, st1⟩ := newO X_87 hx hZ hown (hw _ (List.mem_of_getElem? (i := 2) rfl)) (hw _ (List.mem_of_getElem? (i := 3) rfl)) (hw _ (List.mem_of_getElem? (i := 4) rfl)) e_87 (g := (mkF m 87 #[.val (.long q0), .second, .val (.long q1), .second, .val (.int p2), .val (.int p3), .val (.long w0_12), .second, .val (.long ((281470681743360 : Int64) ||| (q1 &&& (4294967295 : Int64)))), .second, .val (.int (p2 &&& (3 : Int32))), .val (.long v11_87), .second, .unset, .unset] [])) rfl (hb hby at_87) (by decide) (by decide)
      obtain ⟨b1, ga1⟩ : ∃ z, z = h0.size := ⟨_, rfl⟩
      rw [← ga1] at A1 D1 st1
      have g_b1 : n0 ≤ b1 := Nat.le_trans Z0 (Nat.le_of_eq ga1.symm)
      have sz_b1 : h0.size ≤ b1 := Nat.le_trans (Keep.refl h0 []).1 (Nat.le_of_eq ga1.symm)
      have f2 : Fld Z h1 b1 "com/example/tidewall/tidewall/Address" "high" "J" (.long (0 : Int64)) := D1 (Or.inr (hw _ (List.mem_of_getElem? (i := 17) rfl))) (ty := .long) (by decide)
      have f3 : Fld Z h1 b1 "com/example/tidewall/tidewall/Address" "low" "J" (.long (0 : Int64)) := D1 (Or.inr (hw _ (List.mem_of_getElem? (i := 19) rfl))) (ty := .long) (by decide)
      have K1 : Keep h0 h1 [] := Keep.ext (Keep.refl h0 []) E1
      refine Go.of st1 ?_
      show Go p e below s _ _ _ (T1.setTop (mkF m 90 #[.val (.long q0), .second, .val (.long q1), .second, .val (.int p2), .val (.int p3), .val (.long w0_12), .second, .val (.long ((281470681743360 : Int64) ||| (q1 &&& (4294967295 : Int64)))), .second, .val (.int (p2 &&& (3 : Int32))), .val (.long v11_87), .second, .unset, .unset] [(.ref b1)]))
      refine Go.of (fun t k => XS.dup X1.here hx rfl (hb hby at_90) rfl rfl k) ?_
      show Go p e below s _ _ _ (T1.setTop (mkF m 91 #[.val (.long q0), .second, .val (.long q1), .second, .val (.int p2), .val (.int p3), .val (.long w0_12), .second, .val (.long ((281470681743360 : Int64) ||| (q1 &&& (4294967295 : Int64)))), .second, .val (.int (p2 &&& (3 : Int32))), .val (.long v11_87), .second, .unset, .unset] [(.ref b1), (.ref b1)]))
      refine Go.of (fun t k => XS.lload X1.here hx rfl (hb hby at_91) rfl k) ?_
      show Go p e below s _ _ _ (T1.setTop (mkF m 93 #[.val (.long q0), .second, .val (.long q1), .second, .val (.int p2), .val (.int p3), .val (.long w0_12), .second, .val (.long ((281470681743360 : Int64) ||| (q1 &&& (4294967295 : Int64)))), .second, .val (.int (p2 &&& (3 : Int32))), .val (.long v11_87), .second, .unset, .unset] [(.long w0_12), (.ref b1), (.ref b1)]))
      refine Go.of (fun t k => XS.lload X1.here hx rfl (hb hby at_93) rfl k) ?_
      show Go p e below s _ _ _ (T1.setTop (mkF m 95 #[.val (.long q0), .second, .val (.long q1), .second, .val (.int p2), .val (.int p3), .val (.long w0_12), .second, .val (.long ((281470681743360 : Int64) ||| (q1 &&& (4294967295 : Int64)))), .second, .val (.int (p2 &&& (3 : Int32))), .val (.long v11_87), .second, .unset, .unset] [(.long v11_87), (.long w0_12), (.ref b1), (.ref b1)]))
      obtain ⟨_, _, ⟨T4, L4, k4, n4⟩, -, X4, ⟨Lc4, hQ4, l4, y4, z4⟩, st4⟩ := X1.specialBack hx (y := (⟨"com/example/tidewall/tidewall/Address", "<init>", "(JJ)V"⟩ : MethodName)) rfl hown (mvT hZ (hw _ (List.mem_of_getElem? (i := 5) rfl))) (mvT hZ (hw _ (List.mem_of_getElem? (i := 6) rfl))) (mvT hZ (hw _ (List.mem_of_getElem? (i := 7) rfl))) (by decide) (backOf (W := 1) (rm1 l Z az hw [] b1 w0_12 v11_87 (.long (0 : Int64)) (.long (0 : Int64)) h1 n0 (Nat.le_trans Z0 K1.1) A1 f2 f3 g_b1) hZ (hw _ (List.mem_of_getElem? (i := 7) rfl)) (hw _ (List.mem_of_getElem? (i := 4) rfl)) (by decide) (by decide)) (g := (mkF m 95 #[.val (.long q0), .second, .val (.long q1), .second, .val (.int p2), .val (.int p3), .val (.long w0_12), .second, .val (.long ((281470681743360 : Int64) ||| (q1 &&& (4294967295 : Int64)))), .second, .val (.int (p2 &&& (3 : Int32))), .val (.long v11_87), .second, .unset, .unset] [(.long v11_87), (.long w0_12), (.ref b1), (.ref b1)])) rfl (by rw [hml]; rfl) (Steps.refl _) (a := b1) (argsL := [(.long w0_12), (.long v11_87)]) (rest := [(.ref b1)]) (lenOf own_pd1 rfl) rfl (by show 2 * 0 + _ ≤ _; exact Nat.le_of_eq rfl) (hb hby at_95) (fun _ _ => ⟨rfl, e1, (by decide : 1 + 0 ≤ _), (by decide : 2 + 0 ≤ _)⟩)
      dsimp only [Pt.U, Pt.locs, Pt.cells, Pt.slots] at X4 l4 y4 z4 st4 hQ4
      subst l4 y4 z4
      obtain ⟨rfl, N4q, Kq4, f5, f6, f7⟩ := hQ4
      have N4 := Fr.app N_87 N4q
      have K4 : Keep h0 T4.heap [] := Keep.trans K1 Kq4 (allS (Or.inr sz_b1) all0)
      refine Go.of (fun t k => st4.trans k) ?_
      show Go p e below s _ _ _ (T4.setTop (mkF m 98 #[.val (.long q0), .second, .val (.long q1), .second, .val (.int p2), .val (.int p3), .val (.long w0_12), .second, .val (.long ((281470681743360 : Int64) ||| (q1 &&& (4294967295 : Int64)))), .second, .val (.int (p2 &&& (3 : Int32))), .val (.long v11_87), .second, .unset, .unset] [(.ref b1)]))
      refine Go.of (fun t k => XS.astore X4.here hx rfl (hb hby at_98) rfl rfl (l' := #[.val (.long q0), .second, .val (.long q1), .second, .val (.int p2), .val (.int p3), .val (.long w0_12), .second, .val (.long ((281470681743360 : Int64) ||| (q1 &&& (4294967295 : Int64)))), .second, .val (.int (p2 &&& (3 : Int32))), .val (.long v11_87), .second, .val (.ref b1), .unset]) rfl k) ?_
      show Go p e below s _ _ _ (T4.setTop (mkF m 100 #[.val (.long q0), .second, .val (.long q1), .second, .val (.int p2), .val (.int p3), .val (.long w0_12), .second, .val (.long ((281470681743360 : Int64) ||| (q1 &&& (4294967295 : Int64)))), .second, .val (.int (p2 &&& (3 : Int32))), .val (.long v11_87), .second, .val (.ref b1), .unset] []))
      refine Go.of (fun t k => XS.lload X4.here hx rfl (hb hby at_100) rfl k) ?_
      show Go p e below s _ _ _ (T4.setTop (mkF m 102 #[.val (.long q0), .second, .val (.long q1), .second, .val (.int p2), .val (.int p3), .val (.long w0_12), .second, .val (.long ((281470681743360 : Int64) ||| (q1 &&& (4294967295 : Int64)))), .second, .val (.int (p2 &&& (3 : Int32))), .val (.long v11_87), .second, .val (.ref b1), .unset] [(.long w0_12)]))
      refine Go.of (fun t k => XS.lconst X4.here hx rfl (hb hby at_102) k) ?_
      show Go p e below s _ _ _ (T4.setTop (mkF m 103 #[.val (.long q0), .second, .val (.long q1), .second, .val (.int p2), .val (.int p3), .val (.long w0_12), .second, .val (.long ((281470681743360 : Int64) ||| (q1 &&& (4294967295 : Int64)))), .second, .val (.int (p2 &&& (3 : Int32))), .val (.long v11_87), .second, .val (.ref b1), .unset] [(.long (0 : Int64)), (.long w0_12)]))
      refine Go.of (fun t k => XS.lcmp X4.here hx rfl (hb hby at_103) rfl k) ?_
      show Go p e below s _ _ _ (T4.setTop (mkF m 104 #[.val (.long q0), .second, .val (.long q1), .second, .val (.int p2), .val (.int p3), .val (.long w0_12), .second, .val (.long ((281470681743360 : Int64) ||| (q1 &&& (4294967295 : Int64)))), .second, .val (.int (p2 &&& (3 : Int32))), .val (.long v11_87), .second, .val (.ref b1), .unset] [(.int (lcmpW w0_12 (0 : Int64)))]))
      have jn124 : ∀ (w0_124 : Int32) (T_124 : State) (l_124 : List Loc) (X_124 : Stand p l e room_1 s m #[(.long q0), (.long q1), (.int p2), (.int p3)] below meth c T_124 l_124 1 2) (e_124 : T_124.heap = T4.heap) (N_124 : Fr n0 l_124), Go p e below s (QL (some (.int (F0_124 w0_12 v11_87 w0_124))) n0) room_1.cells room_1.slots (T_124.setTop (mkF m 124 #[.val (.long q0), .second, .val (.long q1), .second, .val (.int p2), .val (.int p3), .val (.long w0_12), .second, .val (.long ((281470681743360 : Int64) ||| (q1 &&& (4294967295 : Int64)))), .second, .val (.int (p2 &&& (3 : Int32))), .val (.long v11_87), .second, .val (.ref b1), .unset] [(.int w0_124)])) := by
        intro w0_124 T_124 l_124 X_124 e_124 N_124
        unfold F0_124
        refine Go.of (fun t k => XS.istore X_124.here hx rfl (hb hby at_124) rfl (l' := #[.val (.long q0), .second, .val (.long q1), .second, .val (.int p2), .val (.int p3), .val (.long w0_12), .second, .val (.long ((281470681743360 : Int64) ||| (q1 &&& (4294967295 : Int64)))), .second, .val (.int (p2 &&& (3 : Int32))), .val (.long v11_87), .second, .val (.ref b1), .val (.int w0_124)]) rfl k) ?_
        show Go p e below s _ _ _ (T_124.setTop (mkF m 126 #[.val (.long q0), .second, .val (.long q1), .second, .val (.int p2), .val (.int p3), .val (.long w0_12), .second, .val (.long ((281470681743360 : Int64) ||| (q1 &&& (4294967295 : Int64)))), .second, .val (.int (p2 &&& (3 : Int32))), .val (.long v11_87), .second, .val (.ref b1), .val (.int w0_124)] []))
        refine Go.of (fun t k => XS.aload X_124.here hx rfl (hb hby at_126) rfl rfl k) ?_
        show Go p e below s _ _ _ (T_124.setTop (mkF m 128 #[.val (.long q0), .second, .val (.long q1), .second, .val (.int p2), .val (.int p3), .val (.long w0_12), .second, .val (.long ((281470681743360 : Int64) ||| (q1 &&& (4294967295 : Int64)))), .second, .val (.int (p2 &&& (3 : Int32))), .val (.long v11_87), .second, .val (.ref b1), .val (.int w0_124)] [(.ref b1)]))
        obtain ⟨cq8, kq8, q8a, q8b, q8c⟩ := isOf hZ e_124 f5
        obtain ⟨_, _, ⟨T8, L8, k8, n8⟩, -, X8, ⟨Lc8, hQ8, l8, y8, z8⟩, st8⟩ := X_124.virtualBack hx (y := (⟨"com/example/tidewall/tidewall/Address", "isIpv4", "()Z"⟩ : MethodName)) (z := (⟨"com/example/tidewall/tidewall/Address", "isIpv4", "()Z"⟩ : MethodName)) hown (mvT hZ (hw _ (List.mem_of_getElem? (i := 21) rfl))) (mvT hZ (hw _ (List.mem_of_getElem? (i := 22) rfl))) (notFace_of_selects (args := #[]) (mvT hZ (hw _ (List.mem_of_getElem? (i := 24) rfl)))) (mvT hZ (hw _ (List.mem_of_getElem? (i := 24) rfl))) (mvT hZ (hw _ (List.mem_of_getElem? (i := 23) rfl))) (by decide) (backOf (W := 0) (rm4 l Z az hw [] b1 w0_12 v11_87 T4.heap n0 (Nat.le_trans Z0 K4.1) f6 f7) hZ (hw _ (List.mem_of_getElem? (i := 25) rfl)) (hw _ (List.mem_of_getElem? (i := 4) rfl)) (by decide) (by decide)) q8a q8c (g := (mkF m 128 #[.val (.long q0), .second, .val (.long q1), .second, .val (.int p2), .val (.int p3), .val (.long w0_12), .second, .val (.long ((281470681743360 : Int64) ||| (q1 &&& (4294967295 : Int64)))), .second, .val (.int (p2 &&& (3 : Int32))), .val (.long v11_87), .second, .val (.ref b1), .val (.int w0_124)] [(.ref b1)])) rfl (by rw [hml]; rfl) (Steps.refl _) (argsL := []) (rest := []) (lenOf own_pd2 rfl) rfl (by show 2 * 0 + _ ≤ _; exact Nat.le_of_eq rfl) (hb hby at_128) (fun _ _ => ⟨rfl, e_124, (by decide : 1 + 0 ≤ _), (by decide : 2 + 0 ≤ _)⟩)
        dsimp only [Pt.U, Pt.locs, Pt.cells, Pt.slots] at X8 l8 y8 z8 st8 hQ8
        subst l8 y8 z8
        obtain ⟨rfl, N8q, e8⟩ := hQ8
        have N8 := Fr.app N_124 N8q
        refine Go.of (fun t k => st8.trans k) ?_
        show Go p e below s _ _ _ (T8.setTop (mkF m 131 #[.val (.long q0), .second, .val (.long q1), .second, .val (.int p2), .val (.int p3), .val (.long w0_12), .second, .val (.long ((281470681743360 : Int64) ||| (q1 &&& (4294967295 : Int64)))), .second, .val (.int (p2 &&& (3 : Int32))), .val (.long v11_87), .second, .val (.ref b1), .val (.int w0_124)] [(.int (F4 w0_12 v11_87))]))
        refine Go.of (fun t k => XS.iload X8.here hx rfl (hb hby at_131) rfl k) ?_
        show Go p e below s _ _ _ (T8.setTop (mkF m 133 #[.val (.long q0), .second, .val (.long q1), .second, .val (.int p2), .val (.int p3), .val (.long w0_12), .second, .val (.long ((281470681743360 : Int64) ||| (q1 &&& (4294967295 : Int64)))), .second, .val (.int (p2 &&& (3 : Int32))), .val (.long v11_87), .second, .val (.ref b1), .val (.int w0_124)] [(.int w0_124), (.int (F4 w0_12 v11_87))]))
        by_cases hc133_9 : (F4 w0_12 v11_87) = w0_124
        · rewrite [if_pos hc133_9]
          refine Go.of (fun t k => XS.icmpNo X8.here hx rfl (hb hby at_133) rfl (teq hc133_9).2 k) ?_
          show Go p e below s _ _ _ (T8.setTop (mkF m 136 #[.val (.long q0), .second, .val (.long q1), .second, .val (.int p2), .val (.int p3), .val (.long w0_12), .second, .val (.long ((281470681743360 : Int64) ||| (q1 &&& (4294967295 : Int64)))), .second, .val (.int (p2 &&& (3 : Int32))), .val (.long v11_87), .second, .val (.ref b1), .val (.int w0_124)] []))
          refine Go.of (fun t k => XS.iconst X8.here hx rfl (hb hby at_136) k) ?_
          show Go p e below s _ _ _ (T8.setTop (mkF m 137 #[.val (.long q0), .second, .val (.long q1), .second, .val (.int p2), .val (.int p3), .val (.long w0_12), .second, .val (.long ((281470681743360 : Int64) ||| (q1 &&& (4294967295 : Int64)))), .second, .val (.int (p2 &&& (3 : Int32))), .val (.long v11_87), .second, .val (.ref b1), .val (.int w0_124)] [(.int (1 : Int32))]))
          refine Go.of (fun t k => XS.goto X8.here hx rfl (pc0 := 137) (pc' := 141) rfl (hb hby at_137) (by decide) (by decide) k) ?_
          show Go p e below s _ _ _ (T8.setTop (mkF m 141 #[.val (.long q0), .second, .val (.long q1), .second, .val (.int p2), .val (.int p3), .val (.long w0_12), .second, .val (.long ((281470681743360 : Int64) ||| (q1 &&& (4294967295 : Int64)))), .second, .val (.int (p2 &&& (3 : Int32))), .val (.long v11_87), .second, .val (.ref b1), .val (.int w0_124)] [(.int (1 : Int32))]))
          exact Go.ret X8 (some (.int (1 : Int32))) (fun h => by rw [Bd.returns] at h; cases h) hlk ⟨rfl, N8⟩ (by decide) (by decide) (fun fs hr => (retN X8 hx (t := .boolean) Bd.returns (by simp) (hb hby at_141) hr))
        · rewrite [if_neg hc133_9]
          refine Go.of (fun t k => XS.icmpYes X8.here hx rfl (pc0 := 133) (pc' := 140) rfl (hb hby at_133) rfl (feq hc133_9).2 (by decide) (by decide) k) ?_
          show Go p e below s _ _ _ (T8.setTop (mkF m 140 #[.val (.long q0), .second, .val (.long q1), .second, .val (.int p2), .val (.int p3), .val (.long w0_12), .second, .val (.long ((281470681743360 : Int64) ||| (q1 &&& (4294967295 : Int64)))), .second, .val (.int (p2 &&& (3 : Int32))), .val (.long v11_87), .second, .val (.ref b1), .val (.int w0_124)] []))
          refine Go.of (fun t k => XS.iconst X8.here hx rfl (hb hby at_140) k) ?_
          show Go p e below s _ _ _ (T8.setTop (mkF m 141 #[.val (.long q0), .second, .val (.long q1), .second, .val (.int p2), .val (.int p3), .val (.long w0_12), .second, .val (.long ((281470681743360 : Int64) ||| (q1 &&& (4294967295 : Int64)))), .second, .val (.int (p2 &&& (3 : Int32))), .val (.long v11_87), .second, .val (.ref b1), .val (.int w0_124)] [(.int (0 : Int32))]))
          exact Go.ret X8 (some (.int (0 : Int32))) (fun h => by rw [Bd.returns] at h; cases h) hlk ⟨rfl, N8⟩ (by decide) (by decide) (fun fs hr => (retN X8 hx (t := .boolean) Bd.returns (by simp) (hb hby at_141) hr))
      have jn123 : ∀ (T_123 : State) (l_123 : List Loc) (X_123 : Stand p l e room_1 s m #[(.long q0), (.long q1), (.int p2), (.int p3)] below meth c T_123 l_123 1 2) (e_123 : T_123.heap = T4.heap) (N_123 : Fr n0 l_123), Go p e below s (QL (some (.int (F0_123 w0_12 v11_87))) n0) room_1.cells room_1.slots (T_123.setTop (mkF m 123 #[.val (.long q0), .second, .val (.long q1), .second, .val (.int p2), .val (.int p3), .val (.long w0_12), .second, .val (.long ((281470681743360 : Int64) ||| (q1 &&& (4294967295 : Int64)))), .second, .val (.int (p2 &&& (3 : Int32))), .val (.long v11_87), .second, .val (.ref b1), .unset] [])) := by
        intro T_123 l_123 X_123 e_123 N_123
        unfold F0_123
        refine Go.of (fun t k => XS.iconst X_123.here hx rfl (hb hby at_123) k) ?_
        show Go p e below s _ _ _ (T_123.setTop (mkF m 124 #[.val (.long q0), .second, .val (.long q1), .second, .val (.int p2), .val (.int p3), .val (.long w0_12), .second, .val (.long ((281470681743360 : Int64) ||| (q1 &&& (4294967295 : Int64)))), .second, .val (.int (p2 &&& (3 : Int32))), .val (.long v11_87), .second, .val (.ref b1), .unset] [(.int (0 : Int32))]))
        exact jn124 (0 : Int32)  T_123 _ X_123 e_123 N_123  
      by_cases hc104_10 : w0_12 = (0 : Int64)
      · rewrite [if_pos hc104_10]
        refine Go.of (fun t k => XS.ifNo X4.here hx rfl (hb hby at_104) rfl ((if0 _ _).trans (teq ((lw_eq w0_12 (0 : Int64)).mpr hc104_10)).2) k) ?_
        show Go p e below s _ _ _ (T4.setTop (mkF m 107 #[.val (.long q0), .second, .val (.long q1), .second, .val (.int p2), .val (.int p3), .val (.long w0_12), .second, .val (.long ((281470681743360 : Int64) ||| (q1 &&& (4294967295 : Int64)))), .second, .val (.int (p2 &&& (3 : Int32))), .val (.long v11_87), .second, .val (.ref b1), .unset] []))
        refine Go.of (fun t k => XS.lload X4.here hx rfl (hb hby at_107) rfl k) ?_
        show Go p e below s _ _ _ (T4.setTop (mkF m 109 #[.val (.long q0), .second, .val (.long q1), .second, .val (.int p2), .val (.int p3), .val (.long w0_12), .second, .val (.long ((281470681743360 : Int64) ||| (q1 &&& (4294967295 : Int64)))), .second, .val (.int (p2 &&& (3 : Int32))), .val (.long v11_87), .second, .val (.ref b1), .unset] [(.long v11_87)]))
        refine Go.of (fun t k => XS.bipush X4.here hx rfl (hb hby at_109) k) ?_
        show Go p e below s _ _ _ (T4.setTop (mkF m 111 #[.val (.long q0), .second, .val (.long q1), .second, .val (.int p2), .val (.int p3), .val (.long w0_12), .second, .val (.long ((281470681743360 : Int64) ||| (q1 &&& (4294967295 : Int64)))), .second, .val (.int (p2 &&& (3 : Int32))), .val (.long v11_87), .second, .val (.ref b1), .unset] [(.int (32 : Int32)), (.long v11_87)]))
        refine Go.of (fun t k => XS.lushr X4.here hx rfl (hb hby at_111) rfl k) ?_
        show Go p e below s _ _ _ (T4.setTop (mkF m 112 #[.val (.long q0), .second, .val (.long q1), .second, .val (.int p2), .val (.int p3), .val (.long w0_12), .second, .val (.long ((281470681743360 : Int64) ||| (q1 &&& (4294967295 : Int64)))), .second, .val (.int (p2 &&& (3 : Int32))), .val (.long v11_87), .second, .val (.ref b1), .unset] [(.long ((v11_87.toUInt64 >>> ((32 : Int32) &&& 0x3f).toInt64.toUInt64).toInt64))]))
        refine Go.of (X4.ldc2Long hx hown (mvT hZ (hw _ (List.mem_of_getElem? (i := 20) rfl))) (g := (mkF m 112 #[.val (.long q0), .second, .val (.long q1), .second, .val (.int p2), .val (.int p3), .val (.long w0_12), .second, .val (.long ((281470681743360 : Int64) ||| (q1 &&& (4294967295 : Int64)))), .second, .val (.int (p2 &&& (3 : Int32))), .val (.long v11_87), .second, .val (.ref b1), .unset] [(.long ((v11_87.toUInt64 >>> ((32 : Int32) &&& 0x3f).toInt64.toUInt64).toInt64))])) rfl (hb hby at_112)) ?_
        show Go p e below s _ _ _ (T4.setTop (mkF m 115 #[.val (.long q0), .second, .val (.long q1), .second, .val (.int p2), .val (.int p3), .val (.long w0_12), .second, .val (.long ((281470681743360 : Int64) ||| (q1 &&& (4294967295 : Int64)))), .second, .val (.int (p2 &&& (3 : Int32))), .val (.long v11_87), .second, .val (.ref b1), .unset] [(.long (65535 : Int64)), (.long ((v11_87.toUInt64 >>> ((32 : Int32) &&& 0x3f).toInt64.toUInt64).toInt64))]))
        refine Go.of (fun t k => XS.lcmp X4.here hx rfl (hb hby at_115) rfl k) ?_
        show Go p e below s _ _ _ (T4.setTop (mkF m 116 #[.val (.long q0), .second, .val (.long q1), .second, .val (.int p2), .val (.int p3), .val (.long w0_12), .second, .val (.long ((281470681743360 : Int64) ||| (q1 &&& (4294967295 : Int64)))), .second, .val (.int (p2 &&& (3 : Int32))), .val (.long v11_87), .second, .val (.ref b1), .unset] [(.int (lcmpW ((v11_87.toUInt64 >>> ((32 : Int32) &&& 0x3f).toInt64.toUInt64).toInt64) (65535 : Int64)))]))
        by_cases hc116_11 : ((v11_87.toUInt64 >>> ((32 : Int32) &&& 0x3f).toInt64.toUInt64).toInt64) = (65535 : Int64)
        · rewrite [if_pos hc116_11]
          refine Go.of (fun t k => XS.ifNo X4.here hx rfl (hb hby at_116) rfl ((if0 _ _).trans (teq ((lw_eq ((v11_87.toUInt64 >>> ((32 : Int32) &&& 0x3f).toInt64.toUInt64).toInt64) (65535 : Int64)).mpr hc116_11)).2) k) ?_
          show Go p e below s _ _ _ (T4.setTop (mkF m 119 #[.val (.long q0), .second, .val (.long q1), .second, .val (.int p2), .val (.int p3), .val (.long w0_12), .second, .val (.long ((281470681743360 : Int64) ||| (q1 &&& (4294967295 : Int64)))), .second, .val (.int (p2 &&& (3 : Int32))), .val (.long v11_87), .second, .val (.ref b1), .unset] []))
          refine Go.of (fun t k => XS.iconst X4.here hx rfl (hb hby at_119) k) ?_
          show Go p e below s _ _ _ (T4.setTop (mkF m 120 #[.val (.long q0), .second, .val (.long q1), .second, .val (.int p2), .val (.int p3), .val (.long w0_12), .second, .val (.long ((281470681743360 : Int64) ||| (q1 &&& (4294967295 : Int64)))), .second, .val (.int (p2 &&& (3 : Int32))), .val (.long v11_87), .second, .val (.ref b1), .unset] [(.int (1 : Int32))]))
          refine Go.of (fun t k => XS.goto X4.here hx rfl (pc0 := 120) (pc' := 124) rfl (hb hby at_120) (by decide) (by decide) k) ?_
          show Go p e below s _ _ _ (T4.setTop (mkF m 124 #[.val (.long q0), .second, .val (.long q1), .second, .val (.int p2), .val (.int p3), .val (.long w0_12), .second, .val (.long ((281470681743360 : Int64) ||| (q1 &&& (4294967295 : Int64)))), .second, .val (.int (p2 &&& (3 : Int32))), .val (.long v11_87), .second, .val (.ref b1), .unset] [(.int (1 : Int32))]))
          exact jn124 (1 : Int32)  T4 _ X4 rfl N4  
        · rewrite [if_neg hc116_11]
          refine Go.of (fun t k => XS.ifYes X4.here hx rfl (pc0 := 116) (pc' := 123) rfl (hb hby at_116) rfl ((if0 _ _).trans (feq (mt (lw_eq ((v11_87.toUInt64 >>> ((32 : Int32) &&& 0x3f).toInt64.toUInt64).toInt64) (65535 : Int64)).mp hc116_11)).2) (by decide) (by decide) k) ?_
          show Go p e below s _ _ _ (T4.setTop (mkF m 123 #[.val (.long q0), .second, .val (.long q1), .second, .val (.int p2), .val (.int p3), .val (.long w0_12), .second, .val (.long ((281470681743360 : Int64) ||| (q1 &&& (4294967295 : Int64)))), .second, .val (.int (p2 &&& (3 : Int32))), .val (.long v11_87), .second, .val (.ref b1), .unset] []))
          exact jn123   T4 _ X4 rfl N4  
      · rewrite [if_neg hc104_10]
        refine Go.of (fun t k => XS.ifYes X4.here hx rfl (pc0 := 104) (pc' := 123) rfl (hb hby at_104) rfl ((if0 _ _).trans (feq (mt (lw_eq w0_12 (0 : Int64)).mp hc104_10)).2) (by decide) (by decide) k) ?_
        show Go p e below s _ _ _ (T4.setTop (mkF m 123 #[.val (.long q0), .second, .val (.long q1), .second, .val (.int p2), .val (.int p3), .val (.long w0_12), .second, .val (.long ((281470681743360 : Int64) ||| (q1 &&& (4294967295 : Int64)))), .second, .val (.int (p2 &&& (3 : Int32))), .val (.long v11_87), .second, .val (.ref b1), .unset] []))
        exact jn123   T4 _ X4 rfl N4  
    by_cases hc33_12 : (p2 &&& (3 : Int32)) = (0 : Int32)
    · rewrite [if_pos hc33_12]
      refine Go.of (fun t k => XS.ifNo X_12.here hx rfl (hb hby at_33) rfl ((if0 _ _).trans (teq hc33_12).2) k) ?_
      show Go p e below s _ _ _ (T_12.setTop (mkF m 36 #[.val (.long q0), .second, .val (.long q1), .second, .val (.int p2), .val (.int p3), .val (.long w0_12), .second, .val (.long ((281470681743360 : Int64) ||| (q1 &&& (4294967295 : Int64)))), .second, .val (.int (p2 &&& (3 : Int32))), .unset, .unset, .unset, .unset] []))
      refine Go.of (fun t k => XS.lloadN X_12.here hx rfl (hb hby at_36) rfl k) ?_
      show Go p e below s _ _ _ (T_12.setTop (mkF m 37 #[.val (.long q0), .second, .val (.long q1), .second, .val (.int p2), .val (.int p3), .val (.long w0_12), .second, .val (.long ((281470681743360 : Int64) ||| (q1 &&& (4294967295 : Int64)))), .second, .val (.int (p2 &&& (3 : Int32))), .unset, .unset, .unset, .unset] [(.long q1)]))
      refine Go.of (fun t k => XS.lstore X_12.here hx rfl (hb hby at_37) rfl (l' := #[.val (.long q0), .second, .val (.long q1), .second, .val (.int p2), .val (.int p3), .val (.long w0_12), .second, .val (.long ((281470681743360 : Int64) ||| (q1 &&& (4294967295 : Int64)))), .second, .val (.int (p2 &&& (3 : Int32))), .val (.long q1), .second, .unset, .unset]) rfl k) ?_
      show Go p e below s _ _ _ (T_12.setTop (mkF m 39 #[.val (.long q0), .second, .val (.long q1), .second, .val (.int p2), .val (.int p3), .val (.long w0_12), .second, .val (.long ((281470681743360 : Int64) ||| (q1 &&& (4294967295 : Int64)))), .second, .val (.int (p2 &&& (3 : Int32))), .val (.long q1), .second, .unset, .unset] []))
      refine Go.of (fun t k => XS.goto X_12.here hx rfl (pc0 := 39) (pc' := 87) rfl (hb hby at_39) (by decide) (by decide) k) ?_
      show Go p e below s _ _ _ (T_12.setTop (mkF m 87 #[.val (.long q0), .second, .val (.long q1), .second, .val (.int p2), .val (.int p3), .val (.long w0_12), .second, .val (.long ((281470681743360 : Int64) ||| (q1 &&& (4294967295 : Int64)))), .second, .val (.int (p2 &&& (3 : Int32))), .val (.long q1), .second, .unset, .unset] []))
      exact jn87 q1  T_12 _ X_12 e_12 N_12  
    · rewrite [if_neg hc33_12]
      refine Go.of (fun t k => XS.ifYes X_12.here hx rfl (pc0 := 33) (pc' := 42) rfl (hb hby at_33) rfl ((if0 _ _).trans (feq hc33_12).2) (by decide) (by decide) k) ?_
      show Go p e below s _ _ _ (T_12.setTop (mkF m 42 #[.val (.long q0), .second, .val (.long q1), .second, .val (.int p2), .val (.int p3), .val (.long w0_12), .second, .val (.long ((281470681743360 : Int64) ||| (q1 &&& (4294967295 : Int64)))), .second, .val (.int (p2 &&& (3 : Int32))), .unset, .unset, .unset, .unset] []))
      refine Go.of (fun t k => XS.iload X_12.here hx rfl (hb hby at_42) rfl k) ?_
      show Go p e below s _ _ _ (T_12.setTop (mkF m 44 #[.val (.long q0), .second, .val (.long q1), .second, .val (.int p2), .val (.int p3), .val (.long w0_12), .second, .val (.long ((281470681743360 : Int64) ||| (q1 &&& (4294967295 : Int64)))), .second, .val (.int (p2 &&& (3 : Int32))), .unset, .unset, .unset, .unset] [(.int (p2 &&& (3 : Int32)))]))
      refine Go.of (fun t k => XS.iconst X_12.here hx rfl (hb hby at_44) k) ?_
      show Go p e below s _ _ _ (T_12.setTop (mkF m 45 #[.val (.long q0), .second, .val (.long q1), .second, .val (.int p2), .val (.int p3), .val (.long w0_12), .second, .val (.long ((281470681743360 : Int64) ||| (q1 &&& (4294967295 : Int64)))), .second, .val (.int (p2 &&& (3 : Int32))), .unset, .unset, .unset, .unset] [(.int (1 : Int32)), (.int (p2 &&& (3 : Int32)))]))
      by_cases hc45_13 : (p2 &&& (3 : Int32)) = (1 : Int32)
      · rewrite [if_pos hc45_13]
        refine Go.of (fun t k => XS.icmpNo X_12.here hx rfl (hb hby at_45) rfl (teq hc45_13).2 k) ?_
        show Go p e below s _ _ _ (T_12.setTop (mkF m 48 #[.val (.long q0), .second, .val (.long q1), .second, .val (.int p2), .val (.int p3), .val (.long w0_12), .second, .val (.long ((281470681743360 : Int64) ||| (q1 &&& (4294967295 : Int64)))), .second, .val (.int (p2 &&& (3 : Int32))), .unset, .unset, .unset, .unset] []))
        refine Go.of (fun t k => XS.lload X_12.here hx rfl (hb hby at_48) rfl k) ?_
        show Go p e below s _ _ _ (T_12.setTop (mkF m 50 #[.val (.long q0), .second, .val (.long q1), .second, .val (.int p2), .val (.int p3), .val (.long w0_12), .second, .val (.long ((281470681743360 : Int64) ||| (q1 &&& (4294967295 : Int64)))), .second, .val (.int (p2 &&& (3 : Int32))), .unset, .unset, .unset, .unset] [(.long ((281470681743360 : Int64) ||| (q1 &&& (4294967295 : Int64))))]))
        refine Go.of (fun t k => XS.lstore X_12.here hx rfl (hb hby at_50) rfl (l' := #[.val (.long q0), .second, .val (.long q1), .second, .val (.int p2), .val (.int p3), .val (.long w0_12), .second, .val (.long ((281470681743360 : Int64) ||| (q1 &&& (4294967295 : Int64)))), .second, .val (.int (p2 &&& (3 : Int32))), .val (.long ((281470681743360 : Int64) ||| (q1 &&& (4294967295 : Int64)))), .second, .unset, .unset]) rfl k) ?_
        show Go p e below s _ _ _ (T_12.setTop (mkF m 52 #[.val (.long q0), .second, .val (.long q1), .second, .val (.int p2), .val (.int p3), .val (.long w0_12), .second, .val (.long ((281470681743360 : Int64) ||| (q1 &&& (4294967295 : Int64)))), .second, .val (.int (p2 &&& (3 : Int32))), .val (.long ((281470681743360 : Int64) ||| (q1 &&& (4294967295 : Int64)))), .second, .unset, .unset] []))
        refine Go.of (fun t k => XS.goto X_12.here hx rfl (pc0 := 52) (pc' := 87) rfl (hb hby at_52) (by decide) (by decide) k) ?_
        show Go p e below s _ _ _ (T_12.setTop (mkF m 87 #[.val (.long q0), .second, .val (.long q1), .second, .val (.int p2), .val (.int p3), .val (.long w0_12), .second, .val (.long ((281470681743360 : Int64) ||| (q1 &&& (4294967295 : Int64)))), .second, .val (.int (p2 &&& (3 : Int32))), .val (.long ((281470681743360 : Int64) ||| (q1 &&& (4294967295 : Int64)))), .second, .unset, .unset] []))
        exact jn87 ((281470681743360 : Int64) ||| (q1 &&& (4294967295 : Int64)))  T_12 _ X_12 e_12 N_12  
      · rewrite [if_neg hc45_13]
        refine Go.of (fun t k => XS.icmpYes X_12.here hx rfl (pc0 := 45) (pc' := 55) rfl (hb hby at_45) rfl (feq hc45_13).2 (by decide) (by decide) k) ?_
        show Go p e below s _ _ _ (T_12.setTop (mkF m 55 #[.val (.long q0), .second, .val (.long q1), .second, .val (.int p2), .val (.int p3), .val (.long w0_12), .second, .val (.long ((281470681743360 : Int64) ||| (q1 &&& (4294967295 : Int64)))), .second, .val (.int (p2 &&& (3 : Int32))), .unset, .unset, .unset, .unset] []))
        refine Go.of (fun t k => XS.iload X_12.here hx rfl (hb hby at_55) rfl k) ?_
        show Go p e below s _ _ _ (T_12.setTop (mkF m 57 #[.val (.long q0), .second, .val (.long q1), .second, .val (.int p2), .val (.int p3), .val (.long w0_12), .second, .val (.long ((281470681743360 : Int64) ||| (q1 &&& (4294967295 : Int64)))), .second, .val (.int (p2 &&& (3 : Int32))), .unset, .unset, .unset, .unset] [(.int (p2 &&& (3 : Int32)))]))
        refine Go.of (fun t k => XS.iconst X_12.here hx rfl (hb hby at_57) k) ?_
        show Go p e below s _ _ _ (T_12.setTop (mkF m 58 #[.val (.long q0), .second, .val (.long q1), .second, .val (.int p2), .val (.int p3), .val (.long w0_12), .second, .val (.long ((281470681743360 : Int64) ||| (q1 &&& (4294967295 : Int64)))), .second, .val (.int (p2 &&& (3 : Int32))), .unset, .unset, .unset, .unset] [(.int (2 : Int32)), (.int (p2 &&& (3 : Int32)))]))
        by_cases hc58_14 : (p2 &&& (3 : Int32)) = (2 : Int32)
        · rewrite [if_pos hc58_14]
          refine Go.of (fun t k => XS.icmpNo X_12.here hx rfl (hb hby at_58) rfl (teq hc58_14).2 k) ?_
          show Go p e below s _ _ _ (T_12.setTop (mkF m 61 #[.val (.long q0), .second, .val (.long q1), .second, .val (.int p2), .val (.int p3), .val (.long w0_12), .second, .val (.long ((281470681743360 : Int64) ||| (q1 &&& (4294967295 : Int64)))), .second, .val (.int (p2 &&& (3 : Int32))), .unset, .unset, .unset, .unset] []))
          refine Go.of (fun t k => XS.lload X_12.here hx rfl (hb hby at_61) rfl k) ?_
          show Go p e below s _ _ _ (T_12.setTop (mkF m 63 #[.val (.long q0), .second, .val (.long q1), .second, .val (.int p2), .val (.int p3), .val (.long w0_12), .second, .val (.long ((281470681743360 : Int64) ||| (q1 &&& (4294967295 : Int64)))), .second, .val (.int (p2 &&& (3 : Int32))), .unset, .unset, .unset, .unset] [(.long ((281470681743360 : Int64) ||| (q1 &&& (4294967295 : Int64))))]))
          refine Go.of (fun t k => XS.lconst X_12.here hx rfl (hb hby at_63) k) ?_
          show Go p e below s _ _ _ (T_12.setTop (mkF m 64 #[.val (.long q0), .second, .val (.long q1), .second, .val (.int p2), .val (.int p3), .val (.long w0_12), .second, .val (.long ((281470681743360 : Int64) ||| (q1 &&& (4294967295 : Int64)))), .second, .val (.int (p2 &&& (3 : Int32))), .unset, .unset, .unset, .unset] [(.long (1 : Int64)), (.long ((281470681743360 : Int64) ||| (q1 &&& (4294967295 : Int64))))]))
          refine Go.of (fun t k => XS.iload X_12.here hx rfl (hb hby at_64) rfl k) ?_
          show Go p e below s _ _ _ (T_12.setTop (mkF m 66 #[.val (.long q0), .second, .val (.long q1), .second, .val (.int p2), .val (.int p3), .val (.long w0_12), .second, .val (.long ((281470681743360 : Int64) ||| (q1 &&& (4294967295 : Int64)))), .second, .val (.int (p2 &&& (3 : Int32))), .unset, .unset, .unset, .unset] [(.int p3), (.long (1 : Int64)), (.long ((281470681743360 : Int64) ||| (q1 &&& (4294967295 : Int64))))]))
          refine Go.of (fun t k => XS.bipush X_12.here hx rfl (hb hby at_66) k) ?_
          show Go p e below s _ _ _ (T_12.setTop (mkF m 68 #[.val (.long q0), .second, .val (.long q1), .second, .val (.int p2), .val (.int p3), .val (.long w0_12), .second, .val (.long ((281470681743360 : Int64) ||| (q1 &&& (4294967295 : Int64)))), .second, .val (.int (p2 &&& (3 : Int32))), .unset, .unset, .unset, .unset] [(.int (63 : Int32)), (.int p3), (.long (1 : Int64)), (.long ((281470681743360 : Int64) ||| (q1 &&& (4294967295 : Int64))))]))
          refine Go.of (fun t k => XS.iand X_12.here hx rfl (hb hby at_68) rfl k) ?_
          show Go p e below s _ _ _ (T_12.setTop (mkF m 69 #[.val (.long q0), .second, .val (.long q1), .second, .val (.int p2), .val (.int p3), .val (.long w0_12), .second, .val (.long ((281470681743360 : Int64) ||| (q1 &&& (4294967295 : Int64)))), .second, .val (.int (p2 &&& (3 : Int32))), .unset, .unset, .unset, .unset] [(.int (p3 &&& (63 : Int32))), (.long (1 : Int64)), (.long ((281470681743360 : Int64) ||| (q1 &&& (4294967295 : Int64))))]))
          refine Go.of (fun t k => XS.lshl X_12.here hx rfl (hb hby at_69) rfl k) ?_
          show Go p e below s _ _ _ (T_12.setTop (mkF m 70 #[.val (.long q0), .second, .val (.long q1), .second, .val (.int p2), .val (.int p3), .val (.long w0_12), .second, .val (.long ((281470681743360 : Int64) ||| (q1 &&& (4294967295 : Int64)))), .second, .val (.int (p2 &&& (3 : Int32))), .unset, .unset, .unset, .unset] [(.long ((1 : Int64) <<< ((p3 &&& (63 : Int32)) &&& 0x3f).toInt64)), (.long ((281470681743360 : Int64) ||| (q1 &&& (4294967295 : Int64))))]))
          refine Go.of (fun t k => XS.lxor X_12.here hx rfl (hb hby at_70) rfl k) ?_
          show Go p e below s _ _ _ (T_12.setTop (mkF m 71 #[.val (.long q0), .second, .val (.long q1), .second, .val (.int p2), .val (.int p3), .val (.long w0_12), .second, .val (.long ((281470681743360 : Int64) ||| (q1 &&& (4294967295 : Int64)))), .second, .val (.int (p2 &&& (3 : Int32))), .unset, .unset, .unset, .unset] [(.long (((281470681743360 : Int64) ||| (q1 &&& (4294967295 : Int64))) ^^^ ((1 : Int64) <<< ((p3 &&& (63 : Int32)) &&& 0x3f).toInt64)))]))
          refine Go.of (fun t k => XS.lstore X_12.here hx rfl (hb hby at_71) rfl (l' := #[.val (.long q0), .second, .val (.long q1), .second, .val (.int p2), .val (.int p3), .val (.long w0_12), .second, .val (.long ((281470681743360 : Int64) ||| (q1 &&& (4294967295 : Int64)))), .second, .val (.int (p2 &&& (3 : Int32))), .val (.long (((281470681743360 : Int64) ||| (q1 &&& (4294967295 : Int64))) ^^^ ((1 : Int64) <<< ((p3 &&& (63 : Int32)) &&& 0x3f).toInt64))), .second, .unset, .unset]) rfl k) ?_
          show Go p e below s _ _ _ (T_12.setTop (mkF m 73 #[.val (.long q0), .second, .val (.long q1), .second, .val (.int p2), .val (.int p3), .val (.long w0_12), .second, .val (.long ((281470681743360 : Int64) ||| (q1 &&& (4294967295 : Int64)))), .second, .val (.int (p2 &&& (3 : Int32))), .val (.long (((281470681743360 : Int64) ||| (q1 &&& (4294967295 : Int64))) ^^^ ((1 : Int64) <<< ((p3 &&& (63 : Int32)) &&& 0x3f).toInt64))), .second, .unset, .unset] []))
          refine Go.of (fun t k => XS.goto X_12.here hx rfl (pc0 := 73) (pc' := 87) rfl (hb hby at_73) (by decide) (by decide) k) ?_
          show Go p e below s _ _ _ (T_12.setTop (mkF m 87 #[.val (.long q0), .second, .val (.long q1), .second, .val (.int p2), .val (.int p3), .val (.long w0_12), .second, .val (.long ((281470681743360 : Int64) ||| (q1 &&& (4294967295 : Int64)))), .second, .val (.int (p2 &&& (3 : Int32))), .val (.long (((281470681743360 : Int64) ||| (q1 &&& (4294967295 : Int64))) ^^^ ((1 : Int64) <<< ((p3 &&& (63 : Int32)) &&& 0x3f).toInt64))), .second, .unset, .unset] []))
          exact jn87 (((281470681743360 : Int64) ||| (q1 &&& (4294967295 : Int64))) ^^^ ((1 : Int64) <<< ((p3 &&& (63 : Int32)) &&& 0x3f).toInt64))  T_12 _ X_12 e_12 N_12  
        · rewrite [if_neg hc58_14]
          refine Go.of (fun t k => XS.icmpYes X_12.here hx rfl (pc0 := 58) (pc' := 76) rfl (hb hby at_58) rfl (feq hc58_14).2 (by decide) (by decide) k) ?_
          show Go p e below s _ _ _ (T_12.setTop (mkF m 76 #[.val (.long q0), .second, .val (.long q1), .second, .val (.int p2), .val (.int p3), .val (.long w0_12), .second, .val (.long ((281470681743360 : Int64) ||| (q1 &&& (4294967295 : Int64)))), .second, .val (.int (p2 &&& (3 : Int32))), .unset, .unset, .unset, .unset] []))
          refine Go.of (fun t k => XS.lload X_12.here hx rfl (hb hby at_76) rfl k) ?_
          show Go p e below s _ _ _ (T_12.setTop (mkF m 78 #[.val (.long q0), .second, .val (.long q1), .second, .val (.int p2), .val (.int p3), .val (.long w0_12), .second, .val (.long ((281470681743360 : Int64) ||| (q1 &&& (4294967295 : Int64)))), .second, .val (.int (p2 &&& (3 : Int32))), .unset, .unset, .unset, .unset] [(.long ((281470681743360 : Int64) ||| (q1 &&& (4294967295 : Int64))))]))
          refine Go.of (fun t k => XS.iload X_12.here hx rfl (hb hby at_78) rfl k) ?_
          show Go p e below s _ _ _ (T_12.setTop (mkF m 80 #[.val (.long q0), .second, .val (.long q1), .second, .val (.int p2), .val (.int p3), .val (.long w0_12), .second, .val (.long ((281470681743360 : Int64) ||| (q1 &&& (4294967295 : Int64)))), .second, .val (.int (p2 &&& (3 : Int32))), .unset, .unset, .unset, .unset] [(.int p3), (.long ((281470681743360 : Int64) ||| (q1 &&& (4294967295 : Int64))))]))
          refine Go.of (fun t k => XS.i2l X_12.here hx rfl (hb hby at_80) rfl k) ?_
          show Go p e below s _ _ _ (T_12.setTop (mkF m 81 #[.val (.long q0), .second, .val (.long q1), .second, .val (.int p2), .val (.int p3), .val (.long w0_12), .second, .val (.long ((281470681743360 : Int64) ||| (q1 &&& (4294967295 : Int64)))), .second, .val (.int (p2 &&& (3 : Int32))), .unset, .unset, .unset, .unset] [(.long (p3.toInt64)), (.long ((281470681743360 : Int64) ||| (q1 &&& (4294967295 : Int64))))]))
          refine Go.of (fun t k => XS.bipush X_12.here hx rfl (hb hby at_81) k) ?_
          show Go p e below s _ _ _ (T_12.setTop (mkF m 83 #[.val (.long q0), .second, .val (.long q1), .second, .val (.int p2), .val (.int p3), .val (.long w0_12), .second, .val (.long ((281470681743360 : Int64) ||| (q1 &&& (4294967295 : Int64)))), .second, .val (.int (p2 &&& (3 : Int32))), .unset, .unset, .unset, .unset] [(.int (32 : Int32)), (.long (p3.toInt64)), (.long ((281470681743360 : Int64) ||| (q1 &&& (4294967295 : Int64))))]))
          refine Go.of (fun t k => XS.lshl X_12.here hx rfl (hb hby at_83) rfl k) ?_
          show Go p e below s _ _ _ (T_12.setTop (mkF m 84 #[.val (.long q0), .second, .val (.long q1), .second, .val (.int p2), .val (.int p3), .val (.long w0_12), .second, .val (.long ((281470681743360 : Int64) ||| (q1 &&& (4294967295 : Int64)))), .second, .val (.int (p2 &&& (3 : Int32))), .unset, .unset, .unset, .unset] [(.long ((p3.toInt64) <<< ((32 : Int32) &&& 0x3f).toInt64)), (.long ((281470681743360 : Int64) ||| (q1 &&& (4294967295 : Int64))))]))
          refine Go.of (fun t k => XS.lxor X_12.here hx rfl (hb hby at_84) rfl k) ?_
          show Go p e below s _ _ _ (T_12.setTop (mkF m 85 #[.val (.long q0), .second, .val (.long q1), .second, .val (.int p2), .val (.int p3), .val (.long w0_12), .second, .val (.long ((281470681743360 : Int64) ||| (q1 &&& (4294967295 : Int64)))), .second, .val (.int (p2 &&& (3 : Int32))), .unset, .unset, .unset, .unset] [(.long (((281470681743360 : Int64) ||| (q1 &&& (4294967295 : Int64))) ^^^ ((p3.toInt64) <<< ((32 : Int32) &&& 0x3f).toInt64)))]))
          refine Go.of (fun t k => XS.lstore X_12.here hx rfl (hb hby at_85) rfl (l' := #[.val (.long q0), .second, .val (.long q1), .second, .val (.int p2), .val (.int p3), .val (.long w0_12), .second, .val (.long ((281470681743360 : Int64) ||| (q1 &&& (4294967295 : Int64)))), .second, .val (.int (p2 &&& (3 : Int32))), .val (.long (((281470681743360 : Int64) ||| (q1 &&& (4294967295 : Int64))) ^^^ ((p3.toInt64) <<< ((32 : Int32) &&& 0x3f).toInt64))), .second, .unset, .unset]) rfl k) ?_
          show Go p e below s _ _ _ (T_12.setTop (mkF m 87 #[.val (.long q0), .second, .val (.long q1), .second, .val (.int p2), .val (.int p3), .val (.long w0_12), .second, .val (.long ((281470681743360 : Int64) ||| (q1 &&& (4294967295 : Int64)))), .second, .val (.int (p2 &&& (3 : Int32))), .val (.long (((281470681743360 : Int64) ||| (q1 &&& (4294967295 : Int64))) ^^^ ((p3.toInt64) <<< ((32 : Int32) &&& 0x3f).toInt64))), .second, .unset, .unset] []))
          exact jn87 (((281470681743360 : Int64) ||| (q1 &&& (4294967295 : Int64))) ^^^ ((p3.toInt64) <<< ((32 : Int32) &&& 0x3f).toInt64))  T_12 _ X_12 e_12 N_12  
  by_cases hc4_15 : (p2 &&& (4 : Int32)) = (0 : Int32)
  · rewrite [if_pos hc4_15]
    refine Go.of (fun t k => XS.ifYes X0.here hx rfl (pc0 := 4) (pc' := 11) rfl (hb hby at_4) rfl ((if0 _ _).trans (teq hc4_15).1) (by decide) (by decide) k) ?_
    show Go p e below s _ _ _ (s₁.setTop (mkF m 11 #[.val (.long q0), .second, .val (.long q1), .second, .val (.int p2), .val (.int p3), .unset, .unset, .unset, .unset, .unset, .unset, .unset, .unset, .unset] []))
    refine Go.of (fun t k => XS.lconst X0.here hx rfl (hb hby at_11) k) ?_
    show Go p e below s _ _ _ (s₁.setTop (mkF m 12 #[.val (.long q0), .second, .val (.long q1), .second, .val (.int p2), .val (.int p3), .unset, .unset, .unset, .unset, .unset, .unset, .unset, .unset, .unset] [(.long (0 : Int64))]))
    exact jn12 (0 : Int64)  s₁ _ X0 e0 N0  
  · rewrite [if_neg hc4_15]
    refine Go.of (fun t k => XS.ifNo X0.here hx rfl (hb hby at_4) rfl ((if0 _ _).trans (feq hc4_15).1) k) ?_
    show Go p e below s _ _ _ (s₁.setTop (mkF m 7 #[.val (.long q0), .second, .val (.long q1), .second, .val (.int p2), .val (.int p3), .unset, .unset, .unset, .unset, .unset, .unset, .unset, .unset, .unset] []))
    refine Go.of (fun t k => XS.lloadN X0.here hx rfl (hb hby at_7) rfl k) ?_
    show Go p e below s _ _ _ (s₁.setTop (mkF m 8 #[.val (.long q0), .second, .val (.long q1), .second, .val (.int p2), .val (.int p3), .unset, .unset, .unset, .unset, .unset, .unset, .unset, .unset, .unset] [(.long q0)]))
    refine Go.of (fun t k => XS.goto X0.here hx rfl (pc0 := 8) (pc' := 12) rfl (hb hby at_8) (by decide) (by decide) k) ?_
    show Go p e below s _ _ _ (s₁.setTop (mkF m 12 #[.val (.long q0), .second, .val (.long q1), .second, .val (.int p2), .val (.int p3), .unset, .unset, .unset, .unset, .unset, .unset, .unset, .unset, .unset] [(.long q0)]))
    exact jn12 q0  s₁ _ X0 e0 N0  
theorem own_hi : ∀ i : Fin 64, (0xFFFFFFFF00000000#64).getLsbD i.val = decide (32 ≤ i.val) := by decide +kernel
theorem own_and (x : BitVec 64) : x &&& 0xFFFFFFFF00000000#64 = (x >>> 32) <<< 32 := by
  apply BitVec.eq_of_getLsbD_eq
  intro i hi
  have h := own_hi ⟨i, hi⟩
  simp only at h
  rw [BitVec.getLsbD_and, h, BitVec.getLsbD_shiftLeft, BitVec.getLsbD_ushiftRight]
  by_cases k : 32 ≤ i
  · simp [k, hi, show ¬ i < 32 by omega, show 32 + (i - 32) = i by omega]
  · simp [k, show i < 32 by omega]
theorem own_key (l : Int64) : ((l.toUInt64 >>> ((32 : Int32) &&& 0x3f).toInt64.toUInt64).toInt64) = (65535 : Int64) ↔ (l &&& (-4294967296 : Int64)) = (281470681743360 : Int64) := by
  have e1 : ((l.toUInt64 >>> ((32 : Int32) &&& 0x3f).toInt64.toUInt64).toInt64).toBitVec = l.toBitVec >>> 32 := rfl
  have e2 : (l &&& (-4294967296 : Int64)).toBitVec = (l.toBitVec >>> 32) <<< 32 := (show l.toBitVec &&& 0xFFFFFFFF00000000#64 = _ from own_and _)
  rw [← Int64.toBitVec_inj, ← Int64.toBitVec_inj, e1, e2]
  have e3 : (65535 : Int64).toBitVec = 65535#64 := rfl
  have e4 : (281470681743360 : Int64).toBitVec = 281470681743360#64 := rfl
  rw [e3, e4]
  generalize l.toBitVec = x
  have hx := x.isLt
  rw [← BitVec.toNat_inj, ← BitVec.toNat_inj, BitVec.toNat_shiftLeft, BitVec.toNat_ushiftRight, Nat.shiftRight_eq_div_pow, Nat.shiftLeft_eq]
  simp only [BitVec.toNat_ofNat]
  omega
theorem own_87 (h l : Int64) : F0_87 h l = 1 := by
  unfold F0_87 F0_123 F0_124 F4
  simp only [own_key]
  by_cases h1 : h = 0
  · by_cases h2 : (l &&& (-4294967296 : Int64)) = (281470681743360 : Int64) <;> simp [h1, h2]
  · simp [h1]
theorem own_law (a b : Int64) (c d : Int32) : F0 a b c d = 1 := by
  unfold F0 F0_12
  repeat' split
  all_goals exact own_87 _ _
set_option maxRecDepth 65536 in
set_option maxHeartbeats 40000000 in
theorem comes_1 {Post : Tables → Env → Array Value → State → Outcome → State → Prop} (hpost : ∀ tb e args s v u, (limb_1_1.after args s (.returned v) u = true ∧ limb_1_2.after args s (.returned v) u = true ∧ True) → FrameEnd s (.returned v) u (Jvm.fieldLocs frame_1_writes args s ++ Jvm.arrayLocs frame_1_arrays args s ++ Jvm.staticLocs frame_1_statics s) 16 128 → Post tb e args s (.returned v) u) :
    ArmFor flags0 classFile x code maxLocals ret World_1 tables_1 room_1 Calls_1 rest_1 Pre_1 Post := by
  intro l hfl _ _ p e ha hc hk s m args below hf hA hF happ hP
  obtain ⟨hcalls, hrest, hpre⟩ := hP
  obtain ⟨-, -, -, hnamed, -, -, -, hat⟩ := (Spec.applies_iff hf).mp happ
  obtain ⟨hg, hn⟩ := and_e (Cond.before_iff.mp (show (Jvm.Cond.and given_1 narrow_1).before args s = true from hpre))
  obtain ⟨g0, g1⟩ := and_e hg
  obtain ⟨a0, g2⟩ := and_e g1
  obtain ⟨a1, g3⟩ := and_e g2
  obtain ⟨a2, g4⟩ := and_e g3
  have a3 := g4
  obtain ⟨w0, w1, w2, w3, rfl⟩ : ∃ w0 w1 w2 w3 : Value, args = #[w0, w1, w2, w3] := by
    have hs : args.size = 4 := by simpa [Cond.value, given_1] using g0
    obtain ⟨L⟩ := args
    match L, hs with
    | [w0, w1, w2, w3], _ => exact ⟨w0, w1, w2, w3, rfl⟩
  have hw := fun d (hd : d ∈ tables_1) => atoms_spec (ws := Jvm.Cond.code x code maxLocals ret :: tables_1) hat d (List.mem_cons_of_mem _ hd)
  obtain ⟨i0, ei0⟩ := isL_v a0
  obtain rfl : w0 = (.long i0) := Option.some.inj ei0
  obtain ⟨i1, ei1⟩ := isL_v a1
  obtain rfl : w1 = (.long i1) := Option.some.inj ei1
  obtain ⟨i2, ei2⟩ := is_v a2
  obtain rfl : w2 = (.int i2) := Option.some.inj ei2
  obtain ⟨i3, ei3⟩ := is_v a3
  obtain rfl : w3 = (.int i3) := Option.some.inj ei3
  obtain ⟨n, o, h1, h2, h3, _, L, rfl, ⟨rfl, N⟩, hq⟩ := rm0 l s _ hw tables_1 i0 i1 i2 i3 s.heap s.heap.size (Nat.le_refl _) p e ha hc hk s m _ below hf ((Spec.applies_iff_loose hf).mp happ).1 ⟨rfl, State.Warmed39.refl s, rfl⟩ trivial
  have hone : (F0 i0 i1 i2 i3) = 1 := own_law i0 i1 i2 i3
  refine ⟨n, _, h1, h2, h3, hpost _ _ _ _ _ _ ⟨Cond.after_iff.mpr rfl, Cond.after_iff.mpr (eq_i res_at (Term.int_eval (1)) (by rw [hone])), trivial⟩ ⟨hq.1, hq.2.1, (hq.2.2.sift fun y hy => Or.inr (N y hy)).mono (by decide) (by decide)⟩⟩
theorem main_1_1 : Claimed_1_1 := comes_1 fun _ _ _ _ _ _ h hF => ⟨h.1, hF⟩
theorem main_1_2 : Claimed_1_2 := comes_1 fun _ _ _ _ _ _ h hF => ⟨h.2.1, hF⟩
end Jvm.Pilot.@@N@@
namespace Jvm.Pilot.@@N@@
open Jvm Jvm.ClassFile Sem Op Lib Jvm.Free Jvm.Stand Jvm.Pilot.@@N@@.Jvm.D
/-! MADE BY PROGRAM (witnessworld.py) out of the Statement's table words and the real class files: 11 classes; the members and pool entries that the words name. The judged class is class 1, her method 1. -/
namespace start1
open Jvm.ClassFile
def u (s : String) : CpInfo := .utf8 (stringToUtf16 s)
/-- a pool by its gaps: so many unusable entries, then the entry; so many at the end -/
def gap : Nat → List CpInfo → List CpInfo
  | 0, r => r
  | n + 1, r => .unusable :: gap n r
def poolList (es : List (Nat × CpInfo)) (last : Nat) : List CpInfo := es.foldr (fun e r => gap e.1 (e.2 :: r)) (gap last [])
def pool (es : List (Nat × CpInfo)) (last : Nat) : Array CpInfo := ⟨poolList es last⟩
def fileOf (pool : Array CpInfo) (this : Nat) (attrs : Array Attribute := #[]) (ms : Array MethodInfo := #[]) (fl : Nat := 33) (sup : Nat := 0) (ifs : Array Nat := #[]) (fds : Array FieldInfo := #[]) : ClassFile where
  minorVersion := 0
  majorVersion := 65
  constantPool := pool
  accessFlags := fl
  thisClass := this
  superClass := sup
  interfaces := ifs
  fields := fds
  methods := ms
  attributes := attrs
def plain (name : String) (sup : Option ClassId) : Class where
  name := name
  kind := .ordinary
  loader := none
  accessFlags := 33
  super := sup
  interfaces := #[]
  cf := none
  fields := #[]
  methods := #[]
  instanceTypes := #[]
  staticTypes := #[]
  resolved := #[]
  callSites := []
  init := .initialized
  statics := none
  mirror := none

def pool0 : Array CpInfo := pool [(5, u "<init>"), (0, u "()V"), (1, .class_ 10), (1, u "java/lang/Object")] 113

def k0c0 : Code := { maxStack := 0, maxLocals := 1, code := object_method_1_code, exceptionTable := #[], attributes := #[] }
def k0m0 : Method := { name := "<init>", desc := "()V", sig := { parameters := [], returnType := none }, accessFlags := 1, code := some k0c0 }
/-- java/lang/Object -/
def k0 : Class := { plain "java/lang/Object" none with
  accessFlags := 33
  interfaces := #[]
  cf := some (fileOf pool0 8 #[] #[{ accessFlags := 1, nameIndex := 5, descriptorIndex := 6, attributes := #[] }] 33 0 #[] #[])
  fields := #[]
  methods := #[k0m0]
  instanceTypes := #[]
  staticTypes := #[]
  resolved := Array.replicate 124 none
  statics := none }

def pool1 : Array CpInfo := pool [(2, .class_ 4), (1, u "java/lang/Object"), (0, u "<init>"), (0, u "()V"), (0, .long 281470681743360), (1, .long 4294967295), (1, .class_ 12), (0, u "com/example/tidewall/tidewall/Address"), (0, .methodref 11 14), (0, .nameAndType 5 15), (0, u "(JJ)V"), (0, .long 65535), (1, .methodref 11 19), (0, .nameAndType 20 21), (0, u "isIpv4"), (0, u "()Z"), (0, .class_ 23), (0, u "com/example/tidewall/tidewall/AddressIsIpv4PinLaw"), (2, u "law"), (0, u "(JJII)Z")] 3

def k1m0 : Method := { name := "<init>", desc := "()V", sig := { parameters := [], returnType := none }, accessFlags := 1, code := none }
def k1c1 : Code := { maxStack := 6, maxLocals := 15, code := code, exceptionTable := #[], attributes := #[] }
def k1m1 : Method := { name := "law", desc := "(JJII)Z", sig := { parameters := [.long, .long, .int, .int], returnType := some .boolean }, accessFlags := 9, code := some k1c1 }
/-- com/example/tidewall/tidewall/AddressIsIpv4PinLaw -/
def k1 : Class := { plain "com/example/tidewall/tidewall/AddressIsIpv4PinLaw" (some 0) with
  accessFlags := 49
  interfaces := #[]
  cf := some (fileOf pool1 22 #[] #[{ accessFlags := 1, nameIndex := 5, descriptorIndex := 6, attributes := #[] }, { accessFlags := 9, nameIndex := 26, descriptorIndex := 27, attributes := #[] }] 49 2 #[] #[])
  fields := #[]
  methods := #[k1m0, k1m1]
  instanceTypes := #[]
  staticTypes := #[]
  resolved := Array.replicate 31 none
  statics := none }

def pool2 : Array CpInfo := pool [(1, .methodref 2 3), (0, .class_ 4), (0, .nameAndType 5 6), (0, u "java/lang/Object"), (0, u "<init>"), (0, u "()V"), (0, .class_ 8), (0, u "java/lang/Record")] 13

def k2c0 : Code := { maxStack := 1, maxLocals := 1, code := jdk_30_method_1_code, exceptionTable := #[], attributes := #[] }
def k2m0 : Method := { name := "<init>", desc := "()V", sig := { parameters := [], returnType := none }, accessFlags := 4, code := some k2c0 }
/-- java/lang/Record -/
def k2 : Class := { plain "java/lang/Record" (some 0) with
  accessFlags := 1057
  interfaces := #[]
  cf := some (fileOf pool2 7 #[] #[{ accessFlags := 4, nameIndex := 5, descriptorIndex := 6, attributes := #[] }] 1057 2 #[] #[])
  fields := #[]
  methods := #[k2m0]
  instanceTypes := #[]
  staticTypes := #[]
  resolved := Array.replicate 22 none
  statics := none }

def pool3 : Array CpInfo := pool [(1, .class_ 2), (0, u "java/lang/Comparable"), (0, .class_ 4), (0, u "java/lang/Object")] 7

/-- java/lang/Comparable -/
def k3 : Class := { plain "java/lang/Comparable" (some 0) with
  accessFlags := 1537
  interfaces := #[]
  cf := some (fileOf pool3 1 #[] #[] 1537 3 #[] #[])
  fields := #[]
  methods := #[]
  instanceTypes := #[]
  staticTypes := #[]
  resolved := Array.replicate 12 none
  statics := none }

def pool4 : Array CpInfo := pool [(1, .methodref 2 3), (0, .class_ 4), (0, .nameAndType 5 6), (0, u "java/lang/Record"), (0, u "<init>"), (0, u "()V"), (0, .fieldref 8 9), (0, .class_ 10), (0, .nameAndType 11 12), (0, u "com/example/tidewall/tidewall/Address"), (0, u "high"), (0, u "J"), (0, .fieldref 8 14), (0, .nameAndType 15 12), (0, u "low"), (44, .long 281470681743360), (10, u "(JJ)V"), (4, .long 18446744069414584320), (3, u "isIpv4"), (0, u "()Z"), (37, .class_ 120), (0, u "java/lang/Comparable"), (0, u "BITS"), (0, u "I"), (2, u "IPV4_MAPPED"), (0, u "IPV4_BITS")] 39

def k4c0 : Code := { maxStack := 3, maxLocals := 5, code := prog_1_method_1_code, exceptionTable := #[], attributes := #[] }
def k4m0 : Method := { name := "<init>", desc := "(JJ)V", sig := { parameters := [.long, .long], returnType := none }, accessFlags := 0, code := some k4c0 }
def k4c1 : Code := { maxStack := 4, maxLocals := 1, code := prog_1_method_4_code, exceptionTable := #[], attributes := #[] }
def k4m1 : Method := { name := "isIpv4", desc := "()Z", sig := { parameters := [], returnType := some .boolean }, accessFlags := 0, code := some k4c1 }
/-- com/example/tidewall/tidewall/Address -/
def k4 : Class := { plain "com/example/tidewall/tidewall/Address" (some 2) with
  accessFlags := 48
  interfaces := #[3]
  cf := some (fileOf pool4 8 #[] #[{ accessFlags := 0, nameIndex := 5, descriptorIndex := 71, attributes := #[] }, { accessFlags := 0, nameIndex := 80, descriptorIndex := 81, attributes := #[] }] 48 2 #[119] #[{ accessFlags := 18, nameIndex := 11, descriptorIndex := 12, attributes := #[] }, { accessFlags := 18, nameIndex := 15, descriptorIndex := 12, attributes := #[] }, { accessFlags := 24, nameIndex := 121, descriptorIndex := 122, attributes := #[] }, { accessFlags := 26, nameIndex := 125, descriptorIndex := 12, attributes := #[] }, { accessFlags := 26, nameIndex := 126, descriptorIndex := 12, attributes := #[] }])
  fields := #[{ name := "high", type := .long, accessFlags := 18, slot := 0, constantValue := 0 }, { name := "low", type := .long, accessFlags := 18, slot := 1, constantValue := 0 }, { name := "BITS", type := .int, accessFlags := 24, slot := 0, constantValue := 0 }, { name := "IPV4_MAPPED", type := .long, accessFlags := 26, slot := 1, constantValue := 0 }, { name := "IPV4_BITS", type := .long, accessFlags := 26, slot := 2, constantValue := 0 }]
  methods := #[k4m0, k4m1]
  instanceTypes := #[.long, .long]
  staticTypes := #[.int, .long, .long]
  resolved := Array.replicate 166 none
  statics := none }

def pool5 : Array CpInfo := pool [(1, u "java/lang/Cloneable"), (0, .class_ 1), (0, u "java/lang/Object"), (0, .class_ 3)] 3

/-- java/lang/Cloneable -/
def k5 : Class := { plain "java/lang/Cloneable" (some 0) with
  accessFlags := 1537
  interfaces := #[]
  cf := some (fileOf pool5 2 #[] #[] 1537 4 #[] #[])
  fields := #[]
  methods := #[]
  instanceTypes := #[]
  staticTypes := #[]
  resolved := Array.replicate 8 none
  statics := none }

def pool6 : Array CpInfo := pool [(1, u "java/io/Serializable"), (0, .class_ 1), (0, u "java/lang/Object"), (0, .class_ 3)] 3

/-- java/io/Serializable -/
def k6 : Class := { plain "java/io/Serializable" (some 0) with
  accessFlags := 1537
  interfaces := #[]
  cf := some (fileOf pool6 2 #[] #[] 1537 4 #[] #[])
  fields := #[]
  methods := #[]
  instanceTypes := #[]
  staticTypes := #[]
  resolved := Array.replicate 8 none
  statics := none }

/-- the primitive byte -/
def k7 : Class := { plain "byte" none with kind := .primitive 'B', accessFlags := 0x411 }
/-- [B -/
def k8 : Class := { plain "[B" (some 0) with kind := .array 7 .byte, interfaces := #[5, 6], accessFlags := 1041 }

/-- the primitive int -/
def k9 : Class := { plain "int" none with kind := .primitive 'I', accessFlags := 0x411 }
/-- [I -/
def k10 : Class := { plain "[I" (some 0) with kind := .array 9 .int, interfaces := #[5, 6], accessFlags := 1041 }

def heap : Heap := #[]
def classes : Array Class := #[k0, k1, k2, k3, k4, k5, k6, k7, k8, k9, k10]
def interned : List (Array UInt16 × Addr) := []
def slotsUsed : Nat := 0
def theMethod : MethodId := ⟨1, 1⟩
def args0 : Array Value := #[.long 5, .long 6, .int 7, .int 8]
def aboutOver (below : List Frame) : State where
  vm := { classes := classes, interned := interned.toArray }
  heap := heap
  slotsUsed := slotsUsed
  threads := #[{ frames := .invoking theMethod args0 :: below }]
def below0 : List Frame := [.native { method := ⟨0, 0⟩, args := #[] }]
def about1 : State := aboutOver below0
def p0 : Program := .bare "" "" ""
def e0 : Env := launch0.env 0 0 0
theorem w_frames : about1.frames = Frame.invoking theMethod args0 :: below0 := rfl
set_option maxRecDepth 65536 in
theorem w_args : argsFit about1.vm theMethod args0 = true := by decide +kernel
set_option maxRecDepth 65536 in
theorem w_heap : heapFits about1 = true := by decide +kernel
set_option maxRecDepth 65536 in
theorem w_runnable : about1.curStatus? = some .runnable := by decide +kernel
set_option maxRecDepth 65536 in
theorem w_alone : about1.alone = true := by decide +kernel
set_option maxRecDepth 65536 in
theorem w_named : about1.methodNamed? x = some theMethod := by decide +kernel
set_option maxRecDepth 65536 in
theorem w_hears : about1.hears theMethod below0 = true := by decide +kernel
set_option maxRecDepth 65536 in
theorem w_ripe : about1.ripe theMethod args0 below0 = true := by decide +kernel
theorem w_running : about1.status = .running := rfl
set_option maxRecDepth 65536 in
theorem w_room : about1.hasRoom e0.platform room_1 = true :=
  launch0.hasRoom_least _ room_1 (by decide +kernel) (by decide +kernel) (by decide +kernel) (by decide +kernel) (by decide +kernel) (by decide +kernel)
theorem allAtoms_all (ts : List Jvm.Cond) (a : Array Jvm.Value) (st : Jvm.State) : (allAtoms ts).before a st = ts.all (fun c => c.before a st) := by
  induction ts with
  | nil => rfl
  | cons c t ih =>
    show (Jvm.Cond.and c (allAtoms t)).before a st = _
    rw [Jvm.Cond.before_and, ih, List.all_cons]
def words1 : List Jvm.Cond := Jvm.Cond.code x code maxLocals ret :: tables_1
/-- a 'code' word, met by the world's own term for the bytes: nothing is compared byte by byte -/
theorem code_word {y : MethodName} {bytes : ByteArray} {mx : Nat} {rt : Option FieldType} {a : Array Value} {s : State} {m : MethodId} {meth : Method} {c : Code} (h1 : s.methodNamed? y = some m) (h2 : s.vm.method? m = some meth) (h3 : meth.code = some c) (h4 : c.code = bytes)
    (h5 : (c.maxLocals == mx && c.exceptionTable.isEmpty && decide (c.maxStack ≤ mostOperands) && decide (meth.sig.returnType = rt) && !meth.locks && decide (parseMethodDescriptor y.desc = some meth.sig)) = true) : (Jvm.Cond.code y bytes mx rt).before a s = true := by
  simp only [Bool.and_eq_true, beq_iff_eq, Bool.not_eq_true', decide_eq_true_eq] at h5
  obtain ⟨⟨⟨⟨⟨g1, g2⟩, g3⟩, g4⟩, g5⟩, g6⟩ := h5
  simp [Cond.before, Cond.holds, Cond.value, h1, h2, h3, h4, g1, g2, g3, g4, g5, g6]
def isCode : Jvm.Cond → Bool
  | .code _ _ _ _ => true
  | _ => false
theorem all_split {L : List Jvm.Cond} {P : Jvm.Cond → Bool} (h1 : L.all (fun c => isCode c || P c) = true) (h2 : ∀ c ∈ L.filter isCode, P c = true) : L.all P = true := by
  refine List.all_eq_true.mpr fun c hc => ?_
  have h := List.all_eq_true.mp h1 c hc
  rcases Bool.eq_false_or_eq_true (isCode c) with hi | hi
  · exact h2 c (List.mem_filter.mpr ⟨hc, hi⟩)
  · simpa [hi] using h
set_option maxRecDepth 65536 in
theorem w_c0 : (Jvm.Cond.code x code maxLocals ret).before args0 about1 = true := code_word (m := ⟨1, 1⟩) (meth := k1m1) (c := k1c1) (by decide +kernel) rfl rfl rfl (by decide +kernel)
set_option maxRecDepth 65536 in
theorem w_c1 : (Jvm.Cond.code ({ cls := "com/example/tidewall/tidewall/Address", name := "<init>", desc := "(JJ)V" } : Jvm.MethodName) prog_1_method_1_code (5 : Nat) (Option.none : Option Jvm.ClassFile.FieldType)).before args0 about1 = true := code_word (m := ⟨4, 0⟩) (meth := k4m0) (c := k4c0) (by decide +kernel) rfl rfl rfl (by decide +kernel)
set_option maxRecDepth 65536 in
theorem w_c2 : (Jvm.Cond.code ({ cls := "java/lang/Record", name := "<init>", desc := "()V" } : Jvm.MethodName) jdk_30_method_1_code (1 : Nat) (Option.none : Option Jvm.ClassFile.FieldType)).before args0 about1 = true := code_word (m := ⟨2, 0⟩) (meth := k2m0) (c := k2c0) (by decide +kernel) rfl rfl rfl (by decide +kernel)
set_option maxRecDepth 65536 in
theorem w_c3 : (Jvm.Cond.code ({ cls := "java/lang/Object", name := "<init>", desc := "()V" } : Jvm.MethodName) object_method_1_code (1 : Nat) (Option.none : Option Jvm.ClassFile.FieldType)).before args0 about1 = true := code_word (m := ⟨0, 0⟩) (meth := k0m0) (c := k0c0) (by decide +kernel) rfl rfl rfl (by decide +kernel)
set_option maxRecDepth 65536 in
theorem w_c4 : (Jvm.Cond.code ({ cls := "com/example/tidewall/tidewall/Address", name := "isIpv4", desc := "()Z" } : Jvm.MethodName) prog_1_method_4_code (1 : Nat) (Option.some Jvm.ClassFile.FieldType.boolean)).before args0 about1 = true := code_word (m := ⟨4, 1⟩) (meth := k4m1) (c := k4c1) (by decide +kernel) rfl rfl rfl (by decide +kernel)
def codes1 : List Jvm.Cond := [Jvm.Cond.code x code maxLocals ret, Jvm.Cond.code ({ cls := "com/example/tidewall/tidewall/Address", name := "<init>", desc := "(JJ)V" } : Jvm.MethodName) prog_1_method_1_code (5 : Nat) (Option.none : Option Jvm.ClassFile.FieldType), Jvm.Cond.code ({ cls := "java/lang/Record", name := "<init>", desc := "()V" } : Jvm.MethodName) jdk_30_method_1_code (1 : Nat) (Option.none : Option Jvm.ClassFile.FieldType), Jvm.Cond.code ({ cls := "java/lang/Object", name := "<init>", desc := "()V" } : Jvm.MethodName) object_method_1_code (1 : Nat) (Option.none : Option Jvm.ClassFile.FieldType), Jvm.Cond.code ({ cls := "com/example/tidewall/tidewall/Address", name := "isIpv4", desc := "()Z" } : Jvm.MethodName) prog_1_method_4_code (1 : Nat) (Option.some Jvm.ClassFile.FieldType.boolean)]
set_option maxRecDepth 65536 in
theorem codes_eq : words1.filter isCode = codes1 := rfl
theorem w_codes : ∀ c ∈ words1.filter isCode, c.before args0 about1 = true := by
  rw [codes_eq]
  intro c hc
  simp only [codes1, List.mem_cons, List.not_mem_nil, or_false] at hc
  rcases hc with rfl | rfl | rfl | rfl | rfl
  · exact w_c0
  · exact w_c1
  · exact w_c2
  · exact w_c3
  · exact w_c4
set_option maxRecDepth 65536 in
theorem w_t1 : (words1.take 24).all (fun c => isCode c || c.before args0 about1) = true := by decide +kernel
set_option maxRecDepth 65536 in
theorem w_t2 : (words1.drop 24).all (fun c => isCode c || c.before args0 about1) = true := by decide +kernel
theorem w_tables : (allAtoms (Jvm.Cond.code x code maxLocals ret :: tables_1)).before args0 about1 = true := by
  rw [allAtoms_all]
  show words1.all (fun c => c.before args0 about1) = true
  refine all_split ?_ w_codes
  rw [← List.take_append_drop 24 words1, List.all_append, w_t1, w_t2]
  rfl
set_option maxRecDepth 65536 in
theorem w_case : (Jvm.Cond.and given_1 narrow_1).before args0 about1 = true := by decide +kernel
theorem w_applies : (headSpec (Jvm.Cond.code x code maxLocals ret :: tables_1) room_1).applies x e0.platform about1 = true :=
  (Spec.applies_iff w_frames).mpr ⟨w_running, w_runnable, w_alone, w_named, w_hears, w_ripe, w_room, w_tables⟩
theorem atStart : AtStart classFile x code maxLocals ret World_1 tables_1 room_1 Calls_1 rest_1 Pre_1 launch0 p0 e0 about1 theMethod args0 below0 :=
  ⟨lists_1, trivial, launch0.admits_env _ _ _, launch0.least_env, fairChoices_fair.cas, fairChoices_fair.clock, w_frames, w_args, w_heap, w_applies, trivial, trivial, w_case⟩
end start1
theorem witness_1 : WitnessClaimed_1 := ⟨start1.p0, start1.e0, start1.about1, start1.theMethod, start1.args0, start1.below0, start1.atStart⟩
end Jvm.Pilot.@@N@@
