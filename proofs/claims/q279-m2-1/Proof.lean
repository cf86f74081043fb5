import JvmDerived
import JvmDerived.Pilot.@@N@@Statement
import JvmDerived.Pilot.@@N@@Code
set_option linter.unusedVariables false
set_option linter.unusedSimpArgs false
namespace Jvm.RoadKit
open Sem ClassFile Op Lib Jvm.Stand Jvm.Free Jvm.LawKit
section New
variable {p : Program} {l : Launch} {e : Env} {R : Room} {s : State} {m : MethodId} {args : Array Value} {below : List Frame} {meth : Method} {c : Code} {T : State} {locs : List Loc} {cells slots : Nat}
theorem retI (X : Stand p l e R s m args below meth c T locs cells slots) (hx : p.tables.exec = Jvm.exec) {pc : Nat} {Ls : Array Slot} {z : Int32} {rest : List Value} (hret : meth.sig.returnType = some .int) (hd : decode c.code pc = .ok (.ireturn, 1)) {fs : List Frame}
    (hl : ∀ (f : JFrame) (acts : List Action), f.method = m → f.locked = none → f.entered = [] → (doReturn e (T.setTop f) acts (some (.int z))).1 = T.setFrames fs) : Steps p.tables e below (T.setTop (mkF m pc Ls (.int z :: rest))) (T.setFrames fs) := by
  have hm' : T.vm.method? m = some meth := X.method'
  have hn : narrow .int (.int z) = .int z := rfl
  show Steps p.tables e below (T.setTop { method := m, pc := pc, locals := Ls, stack := _ :: rest, locked := none }) _
  jvm_step X.here [X.here.top, hx, hd, hm', hret, hn]
  first | (intro acts; rw [hl _ acts rfl rfl rfl]) | rw [hl _ _ rfl rfl rfl]
  exact Steps.refl _
/-- the run from G on comes to an end that Q speaks of -/
def Go (p : Program) (e : Env) (below : List Frame) (s : State) (Q : Option Value → Heap → List Loc → Prop) (ck sk : Nat) (G : State) : Prop :=
  ∃ s₂ o, Steps p.tables e below G s₂ ∧ s₂.status = .running ∧ Ended s₂ below o ∧ ∃ v L, o = .returned v ∧ Q v s₂.heap L ∧ FrameEnd s o s₂ L ck sk
theorem Go.of {Q : Option Value → Heap → List Loc → Prop} {ck sk : Nat} {G G' : State} (h : ∀ t, Steps p.tables e below G' t → Steps p.tables e below G t) (k : Go p e below s Q ck sk G') : Go p e below s Q ck sk G := by
  obtain ⟨s₂, o, h1, r⟩ := k
  exact ⟨s₂, o, h _ h1, r⟩
theorem Go.ret (X : Stand p l e R s m args below meth c T locs cells slots) {Q : Option Value → Heap → List Loc → Prop} {ck sk : Nat} {G : State} (v : Option Value) (hv : meth.sig.returnType = none → v = none) (hlk : meth.locks = false) (hq : Q v T.heap locs) (hc : cells ≤ ck) (hs : slots ≤ sk)
    (st : ∀ fs, (∀ (f : JFrame) (acts : List Action), f.method = m → f.locked = none → f.entered = [] → (doReturn e (T.setTop f) acts v).1 = T.setFrames fs) → Steps p.tables e below G (T.setFrames fs)) : Go p e below s Q ck sk G := by
  obtain ⟨fs, hr, hrun, hended, hW, hsame⟩ := X.leave hv hlk
  exact ⟨_, _, st fs hr, hrun, hended, v, locs, rfl, hq, ⟨_, rfl⟩, hW, hsame.mono hc hs⟩
/-- what it returns, that it wrote nothing old, and that the heap is as it was -/
def QP (val : Option Value) (h0 : Heap) (n0 : Nat) (v : Option Value) (h : Heap) (L : List Loc) : Prop := v = val ∧ Fr n0 L ∧ h = h0
/-- what it returns, and that it wrote nothing old -/
def QL (val : Option Value) (n0 : Nat) (v : Option Value) (h : Heap) (L : List Loc) : Prop := v = val ∧ Fr n0 L
theorem lremM {g : JFrame} {target : State} (X : Stand p l e R s m args below meth c T locs cells slots) (hx : p.tables.exec = Jvm.exec) (hg : g.method = m) {x y : Int64} {rest : List Value} (hd : decode c.code g.pc = .ok (.lrem, 1)) (hs : g.stack = .long y :: .long x :: rest) (hy : y ≠ 0)
    (hr : Steps p.tables e below (T.setTop { g with pc := g.pc + 1, stack := .long (x % y) :: rest }) target) : Steps p.tables e below (T.setTop g) target := by
  have q : x - x / y * y = x % y := lrem_mod x y
  exact XS.lrem X.here hx hg hd hs hy (by rw [q]; exact hr)
end New
end Jvm.RoadKit
namespace Jvm.Pilot.@@N@@
open Jvm Jvm.ClassFile Sem Op Lib Jvm.Free Jvm.Stand Jvm.LawKit Jvm.RoadKit Bundle Jvm.Pilot.@@N@@.Jvm.D
theorem own_pn0 : plainName "java/lang/Record" = true := by first | (simp [plainName, overriddenIn]; done) | decide +kernel
theorem d2_0 : decode jdk_30_method_1_code 0 = .ok (.aload_n 0, 1) := by decide +kernel
theorem d2_1 : decode jdk_30_method_1_code 1 = .ok (.invokespecial 1, 3) := by decide +kernel
theorem d2_4 : decode jdk_30_method_1_code 4 = .ok (.return_, 1) := by decide +kernel
theorem ef_2 (m : MethodId) (a0 : Addr) : entryFrame m #[(.ref a0)] 1 = mkF m 0 #[.val (.ref a0)] [] := by first | (simp [entryFrame, mkF, argsToLocals, Value.category]; done) | rfl
set_option maxRecDepth 65536 in
set_option maxHeartbeats 40000000 in
theorem rm2 (l : Launch) (Z : State) (az : Array Value) (hw : ∀ d ∈ tables_1, d.before az Z = true) (ws : List Jvm.Cond) (a0 : Addr)  (h0 : Heap) (n0 : Nat) (Z0 : n0 ≤ h0.size) :
    MetFree l (⟨"java/lang/Record", "<init>", "()V"⟩ : MethodName) (head1 (Jvm.Cond.code (⟨"java/lang/Record", "<init>", "()V"⟩ : MethodName) jdk_30_method_1_code 1 none :: ws) ({ frames := 1, cells := 0, slots := 0, locals := 12 } : Room)) (fun a U => a = #[(.ref a0)] ∧ Z.Warmed39 U.vm ∧ U.heap = h0) (fun _ _ _ _ _ => True) (fun _ U o U' => ∃ v L, o = .returned v ∧ (QP none h0 n0) v U'.heap L ∧ FrameEnd U o U' L ({ frames := 1, cells := 0, slots := 0, locals := 12 } : Room).cells ({ frames := 1, cells := 0, slots := 0, locals := 12 } : Room).slots) := by
  refine MetFree.of_bodySF (plainFor_of_name own_pn0) hisR ?_
  intro p e s m args below meth c s₁ Bd hml0 hP hK
  obtain ⟨rfl, hZ, hh⟩ := hP
  have hx := Bd.exec
  have hby := Bd.bytes
  have hml : c.maxLocals = 1 := hml0
  have hown : s.vm.findClass "java/lang/Record" = some m.cls := findClass_of_methodNamed Bd.named
  have hnm := (name_of_methodNamed Bd.named Bd.method).1
  have hlk : meth.locks = false := BodyLoose.notSynchronized Bd
  have X0 : Stand p l e ({ frames := 1, cells := 0, slots := 0, locals := 12 } : Room) s m #[(.ref a0)] below meth c s₁ [] 0 0 := Stand.of_body Bd
  have e0 : s₁.heap = h0 := by rw [← hh, Bd.state]; rfl
  have N0 := Fr.nil n0
  show Go p e below s (QP none h0 n0) ({ frames := 1, cells := 0, slots := 0, locals := 12 } : Room).cells ({ frames := 1, cells := 0, slots := 0, locals := 12 } : Room).slots (s₁.setTop (entryFrame m #[(.ref a0)] 1))
  refine Go.of (fun t k => castTop (ef_2 m a0) k) ?_
  show Go p e below s _ _ _ (s₁.setTop (mkF m 0 #[.val (.ref a0)] []))
  refine Go.of (fun t k => XS.aloadN X0.here hx rfl (hb hby d2_0) rfl rfl k) ?_
  show Go p e below s _ _ _ (s₁.setTop (mkF m 1 #[.val (.ref a0)] [(.ref a0)]))
  obtain ⟨T1, X1, e1, st1⟩ := initO X0 hx hZ hown (hw _ (List.mem_of_getElem? (i := 12) rfl)) (hw _ (List.mem_of_getElem? (i := 13) rfl)) (hw _ (List.mem_of_getElem? (i := 14) rfl)) e0 (g := (mkF m 1 #[.val (.ref a0)] [(.ref a0)])) rfl (by rw [hml]; rfl) rfl (hb hby d2_1) (by decide) (W := 0) (by show 2 * 0 + _ ≤ _; exact Nat.le_of_eq rfl) (by decide)
  refine Go.of st1 ?_
  show Go p e below s _ _ _ (T1.setTop (mkF m 4 #[.val (.ref a0)] []))
  exact Go.ret X1 none (fun _ => rfl) hlk ⟨rfl, N0, e1⟩ (by decide) (by decide) (fun fs hr => (X1.returnOut hx Bd.returns (hb hby d2_4) hr))
theorem own_pd0 : parseMethodDescriptor "()V" = some ⟨[], none⟩ := by decide +kernel
theorem own_pn1 : plainName "com/example/prorata/prorata/Quotient" = true := by first | (simp [plainName, overriddenIn]; done) | decide +kernel
theorem d1_0 : decode prog_60_method_1_code 0 = .ok (.aload_n 0, 1) := by decide +kernel
theorem d1_1 : decode prog_60_method_1_code 1 = .ok (.invokespecial 1, 3) := by decide +kernel
theorem d1_4 : decode prog_60_method_1_code 4 = .ok (.aload_n 0, 1) := by decide +kernel
theorem d1_5 : decode prog_60_method_1_code 5 = .ok (.lload_n 1, 1) := by decide +kernel
theorem d1_6 : decode prog_60_method_1_code 6 = .ok (.putfield 7, 3) := by decide +kernel
theorem d1_9 : decode prog_60_method_1_code 9 = .ok (.aload_n 0, 1) := by decide +kernel
theorem d1_10 : decode prog_60_method_1_code 10 = .ok (.lload_n 3, 1) := by decide +kernel
theorem d1_11 : decode prog_60_method_1_code 11 = .ok (.putfield 13, 3) := by decide +kernel
theorem d1_14 : decode prog_60_method_1_code 14 = .ok (.aload_n 0, 1) := by decide +kernel
theorem d1_15 : decode prog_60_method_1_code 15 = .ok (.lload 5, 2) := by decide +kernel
theorem d1_17 : decode prog_60_method_1_code 17 = .ok (.putfield 16, 3) := by decide +kernel
theorem d1_20 : decode prog_60_method_1_code 20 = .ok (.return_, 1) := by decide +kernel
theorem ef_1 (m : MethodId) (a0 : Addr) (q1 : Int64) (q2 : Int64) (q3 : Int64) : entryFrame m #[(.ref a0), (.long q1), (.long q2), (.long q3)] 7 = mkF m 0 #[.val (.ref a0), .val (.long q1), .second, .val (.long q2), .second, .val (.long q3), .second] [] := by first | (simp [entryFrame, mkF, argsToLocals, Value.category]; done) | rfl
def Q1 (Z : State) (a0 : Addr) (q1 : Int64) (q2 : Int64) (q3 : Int64) (u_floor_a0 : Value) (u_remainder_a0 : Value) (u_divisor_a0 : Value) (h0 : Heap) (n0 : Nat) (v : Option Value) (h : Heap) (L : List Loc) : Prop := v = none ∧ Fr n0 L ∧ Keep h0 h [a0] ∧ Exa Z h a0 "com/example/prorata/prorata/Quotient" ∧ Fld Z h a0 "com/example/prorata/prorata/Quotient" "floor" "J" (.long q1) ∧ Fld Z h a0 "com/example/prorata/prorata/Quotient" "remainder" "J" (.long q2) ∧ Fld Z h a0 "com/example/prorata/prorata/Quotient" "divisor" "J" (.long q3)
set_option maxRecDepth 65536 in
set_option maxHeartbeats 40000000 in
theorem rm1 (l : Launch) (Z : State) (az : Array Value) (hw : ∀ d ∈ tables_1, d.before az Z = true) (ws : List Jvm.Cond) (a0 : Addr) (q1 : Int64) (q2 : Int64) (q3 : Int64) (u_floor_a0 : Value) (u_remainder_a0 : Value) (u_divisor_a0 : Value) (h0 : Heap) (n0 : Nat) (Z0 : n0 ≤ h0.size) (E_a0 : Exa Z h0 a0 "com/example/prorata/prorata/Quotient") (Fp_floor_a0 : Fld Z h0 a0 "com/example/prorata/prorata/Quotient" "floor" "J" u_floor_a0) (Fp_remainder_a0 : Fld Z h0 a0 "com/example/prorata/prorata/Quotient" "remainder" "J" u_remainder_a0) (Fp_divisor_a0 : Fld Z h0 a0 "com/example/prorata/prorata/Quotient" "divisor" "J" u_divisor_a0) (g_a0 : n0 ≤ a0) :
    MetFree l (⟨"com/example/prorata/prorata/Quotient", "<init>", "(JJJ)V"⟩ : MethodName) (head1 (Jvm.Cond.code (⟨"com/example/prorata/prorata/Quotient", "<init>", "(JJJ)V"⟩ : MethodName) prog_60_method_1_code 7 none :: ws) ({ frames := 2, cells := 0, slots := 0, locals := 24 } : Room)) (fun a U => a = #[(.ref a0), (.long q1), (.long q2), (.long q3)] ∧ Z.Warmed39 U.vm ∧ U.heap = h0) (fun _ _ _ _ _ => True) (fun _ U o U' => ∃ v L, o = .returned v ∧ (Q1 Z a0 q1 q2 q3 u_floor_a0 u_remainder_a0 u_divisor_a0 h0 n0) v U'.heap L ∧ FrameEnd U o U' L ({ frames := 2, cells := 0, slots := 0, locals := 24 } : Room).cells ({ frames := 2, cells := 0, slots := 0, locals := 24 } : Room).slots) := by
  refine MetFree.of_bodySF (plainFor_of_name own_pn1) hisR ?_
  intro p e s m args below meth c s₁ Bd hml0 hP hK
  obtain ⟨rfl, hZ, hh⟩ := hP
  have hx := Bd.exec
  have hby := Bd.bytes
  have hml : c.maxLocals = 7 := hml0
  have hown : s.vm.findClass "com/example/prorata/prorata/Quotient" = some m.cls := findClass_of_methodNamed Bd.named
  have hnm := (name_of_methodNamed Bd.named Bd.method).1
  have hlk : meth.locks = false := BodyLoose.notSynchronized Bd
  have X0 : Stand p l e ({ frames := 2, cells := 0, slots := 0, locals := 24 } : Room) s m #[(.ref a0), (.long q1), (.long q2), (.long q3)] below meth c s₁ [] 0 0 := Stand.of_body Bd
  have e0 : s₁.heap = h0 := by rw [← hh, Bd.state]; rfl
  have N0 := Fr.nil n0
  show Go p e below s (Q1 Z a0 q1 q2 q3 u_floor_a0 u_remainder_a0 u_divisor_a0 h0 n0) ({ frames := 2, cells := 0, slots := 0, locals := 24 } : Room).cells ({ frames := 2, cells := 0, slots := 0, locals := 24 } : Room).slots (s₁.setTop (entryFrame m #[(.ref a0), (.long q1), (.long q2), (.long q3)] 7))
  refine Go.of (fun t k => castTop (ef_1 m a0 q1 q2 q3) k) ?_
  show Go p e below s _ _ _ (s₁.setTop (mkF m 0 #[.val (.ref a0), .val (.long q1), .second, .val (.long q2), .second, .val (.long q3), .second] []))
  refine Go.of (fun t k => XS.aloadN X0.here hx rfl (hb hby d1_0) rfl rfl k) ?_
  show Go p e below s _ _ _ (s₁.setTop (mkF m 1 #[.val (.ref a0), .val (.long q1), .second, .val (.long q2), .second, .val (.long q3), .second] [(.ref a0)]))
  obtain ⟨_, _, ⟨T1, L1, k1, n1⟩, -, X1, ⟨Lc1, hQ1, l1, y1, z1⟩, st1⟩ := X0.specialBack hx (y := (⟨"java/lang/Record", "<init>", "()V"⟩ : MethodName)) rfl hown (mvT hZ (hw _ (List.mem_of_getElem? (i := 7) rfl))) (mvT hZ (hw _ (List.mem_of_getElem? (i := 8) rfl))) (mvT hZ (hw _ (List.mem_of_getElem? (i := 11) rfl))) (by decide) (backOf (W := 0) (rm2 l Z az hw [] a0  h0 n0 Z0 ) hZ (hw _ (List.mem_of_getElem? (i := 11) rfl)) (hw _ (List.mem_of_getElem? (i := 10) rfl)) (by decide) (by decide)) (g := (mkF m 1 #[.val (.ref a0), .val (.long q1), .second, .val (.long q2), .second, .val (.long q3), .second] [(.ref a0)])) rfl (by rw [hml]; rfl) (Steps.refl _) (a := a0) (argsL := []) (rest := []) (lenOf own_pd0 rfl) rfl (by show 2 * 0 + _ ≤ _; exact Nat.le_of_eq rfl) (hb hby d1_1) (fun _ _ => ⟨rfl, e0, (by decide : 0 + 0 ≤ _), (by decide : 0 + 0 ≤ _)⟩)
  dsimp only [Pt.U, Pt.locs, Pt.cells, Pt.slots] at X1 l1 y1 z1 st1 hQ1
  subst l1 y1 z1
  obtain ⟨rfl, N1q, e1⟩ := hQ1
  have N1 := Fr.app N0 N1q
  refine Go.of (fun t k => st1.trans k) ?_
  show Go p e below s _ _ _ (T1.setTop (mkF m 4 #[.val (.ref a0), .val (.long q1), .second, .val (.long q2), .second, .val (.long q3), .second] []))
  refine Go.of (fun t k => XS.aloadN X1.here hx rfl (hb hby d1_4) rfl rfl k) ?_
  show Go p e below s _ _ _ (T1.setTop (mkF m 5 #[.val (.ref a0), .val (.long q1), .second, .val (.long q2), .second, .val (.long q3), .second] [(.ref a0)]))
  refine Go.of (fun t k => XS.lloadN X1.here hx rfl (hb hby d1_5) rfl k) ?_
  show Go p e below s _ _ _ (T1.setTop (mkF m 6 #[.val (.ref a0), .val (.long q1), .second, .val (.long q2), .second, .val (.long q3), .second] [(.long q1), (.ref a0)]))
  obtain ⟨T2, h2, X2, e2, W2, st2⟩ := putF X1 hx hZ hown (host := "") (Or.inl (hw _ (List.mem_of_getElem? (i := 15) rfl))) Via.refl e1 Fp_floor_a0 E_a0 (Or.inr ⟨(hw _ (List.mem_of_getElem? (i := 16) rfl)), rfl, hnm⟩) (hw _ (List.mem_of_getElem? (i := 2) rfl)) (ty := .long) (by decide) rfl rfl (g := (mkF m 6 #[.val (.ref a0), .val (.long q1), .second, .val (.long q2), .second, .val (.long q3), .second] [(.long q1), (.ref a0)])) rfl rfl (hb hby d1_6)
  have f3 := Fp_floor_a0.same W2
  have f4 := E_a0.wr W2
  have f5 := Fp_remainder_a0.other W2 (Or.inr (slot_ne (Or.inr (hw _ (List.mem_of_getElem? (i := 18) rfl))) (Or.inr (hw _ (List.mem_of_getElem? (i := 16) rfl))) (by decide) (t := .long) (t' := .long) (by decide) (by decide)))
  have f6 := Fp_divisor_a0.other W2 (Or.inr (slot_ne (Or.inr (hw _ (List.mem_of_getElem? (i := 20) rfl))) (Or.inr (hw _ (List.mem_of_getElem? (i := 16) rfl))) (by decide) (t := .long) (t' := .long) (by decide) (by decide)))
  have N2 := Fr.snoc X2 N1 g_a0
  have K2 : Keep h0 h2 [a0] := Keep.wr (Keep.refl h0 [a0]) W2 (Or.inl (List.mem_of_getElem? (i := 0) rfl))
  refine Go.of st2 ?_
  show Go p e below s _ _ _ (T2.setTop (mkF m 9 #[.val (.ref a0), .val (.long q1), .second, .val (.long q2), .second, .val (.long q3), .second] []))
  refine Go.of (fun t k => XS.aloadN X2.here hx rfl (hb hby d1_9) rfl rfl k) ?_
  show Go p e below s _ _ _ (T2.setTop (mkF m 10 #[.val (.ref a0), .val (.long q1), .second, .val (.long q2), .second, .val (.long q3), .second] [(.ref a0)]))
  refine Go.of (fun t k => XS.lloadN X2.here hx rfl (hb hby d1_10) rfl k) ?_
  show Go p e below s _ _ _ (T2.setTop (mkF m 11 #[.val (.ref a0), .val (.long q1), .second, .val (.long q2), .second, .val (.long q3), .second] [(.long q2), (.ref a0)]))
  obtain ⟨T7, h7, X7, e7, W7, st7⟩ := putF X2 hx hZ hown (host := "") (Or.inl (hw _ (List.mem_of_getElem? (i := 17) rfl))) Via.refl e2 f5 f4 (Or.inr ⟨(hw _ (List.mem_of_getElem? (i := 18) rfl)), rfl, hnm⟩) (hw _ (List.mem_of_getElem? (i := 2) rfl)) (ty := .long) (by decide) rfl rfl (g := (mkF m 11 #[.val (.ref a0), .val (.long q1), .second, .val (.long q2), .second, .val (.long q3), .second] [(.long q2), (.ref a0)])) rfl rfl (hb hby d1_11)
  have f8 := f5.same W7
  have f9 := f4.wr W7
  have f10 := f3.other W7 (Or.inr (slot_ne (Or.inr (hw _ (List.mem_of_getElem? (i := 16) rfl))) (Or.inr (hw _ (List.mem_of_getElem? (i := 18) rfl))) (by decide) (t := .long) (t' := .long) (by decide) (by decide)))
  have f11 := f6.other W7 (Or.inr (slot_ne (Or.inr (hw _ (List.mem_of_getElem? (i := 20) rfl))) (Or.inr (hw _ (List.mem_of_getElem? (i := 18) rfl))) (by decide) (t := .long) (t' := .long) (by decide) (by decide)))
  have N7 := Fr.snoc X7 N2 g_a0
  have K7 : Keep h0 h7 [a0] := Keep.wr K2 W7 (Or.inl (List.mem_of_getElem? (i := 0) rfl))
  refine Go.of st7 ?_
  show Go p e below s _ _ _ (T7.setTop (mkF m 14 #[.val (.ref a0), .val (.long q1), .second, .val (.long q2), .second, .val (.long q3), .second] []))
  refine Go.of (fun t k => XS.aloadN X7.here hx rfl (hb hby d1_14) rfl rfl k) ?_
  show Go p e below s _ _ _ (T7.setTop (mkF m 15 #[.val (.ref a0), .val (.long q1), .second, .val (.long q2), .second, .val (.long q3), .second] [(.ref a0)]))
  refine Go.of (fun t k => XS.lload X7.here hx rfl (hb hby d1_15) rfl k) ?_
  show Go p e below s _ _ _ (T7.setTop (mkF m 17 #[.val (.ref a0), .val (.long q1), .second, .val (.long q2), .second, .val (.long q3), .second] [(.long q3), (.ref a0)]))
  obtain ⟨T12, h12, X12, e12, W12, st12⟩ := putF X7 hx hZ hown (host := "") (Or.inl (hw _ (List.mem_of_getElem? (i := 19) rfl))) Via.refl e7 f11 f9 (Or.inr ⟨(hw _ (List.mem_of_getElem? (i := 20) rfl)), rfl, hnm⟩) (hw _ (List.mem_of_getElem? (i := 2) rfl)) (ty := .long) (by decide) rfl rfl (g := (mkF m 17 #[.val (.ref a0), .val (.long q1), .second, .val (.long q2), .second, .val (.long q3), .second] [(.long q3), (.ref a0)])) rfl rfl (hb hby d1_17)
  have f13 := f11.same W12
  have f14 := f9.wr W12
  have f15 := f10.other W12 (Or.inr (slot_ne (Or.inr (hw _ (List.mem_of_getElem? (i := 16) rfl))) (Or.inr (hw _ (List.mem_of_getElem? (i := 20) rfl))) (by decide) (t := .long) (t' := .long) (by decide) (by decide)))
  have f16 := f8.other W12 (Or.inr (slot_ne (Or.inr (hw _ (List.mem_of_getElem? (i := 18) rfl))) (Or.inr (hw _ (List.mem_of_getElem? (i := 20) rfl))) (by decide) (t := .long) (t' := .long) (by decide) (by decide)))
  have N12 := Fr.snoc X12 N7 g_a0
  have K12 : Keep h0 h12 [a0] := Keep.wr K7 W12 (Or.inl (List.mem_of_getElem? (i := 0) rfl))
  refine Go.of st12 ?_
  show Go p e below s _ _ _ (T12.setTop (mkF m 20 #[.val (.ref a0), .val (.long q1), .second, .val (.long q2), .second, .val (.long q3), .second] []))
  exact Go.ret X12 none (fun _ => rfl) hlk (by rw [e12]; exact ⟨rfl, N12, K12, f14, f15, f16, f13⟩) (by decide) (by decide) (fun fs hr => (X12.returnOut hx Bd.returns (hb hby d1_20) hr))
theorem d4_0 : decode prog_60_method_6_code 0 = .ok (.aload_n 0, 1) := by decide +kernel
theorem d4_1 : decode prog_60_method_6_code 1 = .ok (.getfield 13, 3) := by decide +kernel
theorem d4_4 : decode prog_60_method_6_code 4 = .ok (.aload_n 0, 1) := by decide +kernel
theorem d4_5 : decode prog_60_method_6_code 5 = .ok (.getfield 16, 3) := by decide +kernel
theorem d4_8 : decode prog_60_method_6_code 8 = .ok (.aload_n 0, 1) := by decide +kernel
theorem d4_9 : decode prog_60_method_6_code 9 = .ok (.getfield 13, 3) := by decide +kernel
theorem d4_12 : decode prog_60_method_6_code 12 = .ok (.lsub, 1) := by decide +kernel
theorem d4_13 : decode prog_60_method_6_code 13 = .ok (.lcmp, 1) := by decide +kernel
theorem d4_14 : decode prog_60_method_6_code 14 = .ok (.ifCond .lt 12, 3) := by decide +kernel
theorem d4_17 : decode prog_60_method_6_code 17 = .ok (.aload_n 0, 1) := by decide +kernel
theorem d4_18 : decode prog_60_method_6_code 18 = .ok (.getfield 7, 3) := by decide +kernel
theorem d4_21 : decode prog_60_method_6_code 21 = .ok (.lconst 1, 1) := by decide +kernel
theorem d4_22 : decode prog_60_method_6_code 22 = .ok (.ladd, 1) := by decide +kernel
theorem d4_23 : decode prog_60_method_6_code 23 = .ok (.goto 7, 3) := by decide +kernel
theorem d4_26 : decode prog_60_method_6_code 26 = .ok (.aload_n 0, 1) := by decide +kernel
theorem d4_27 : decode prog_60_method_6_code 27 = .ok (.getfield 7, 3) := by decide +kernel
theorem d4_30 : decode prog_60_method_6_code 30 = .ok (.lreturn, 1) := by decide +kernel
theorem ef_4 (m : MethodId) (a0 : Addr) : entryFrame m #[(.ref a0)] 1 = mkF m 0 #[.val (.ref a0)] [] := by first | (simp [entryFrame, mkF, argsToLocals, Value.category]; done) | rfl
def F4 (u_floor_a0 : Int64) (u_remainder_a0 : Int64) (u_divisor_a0 : Int64) : Int64 := (if u_remainder_a0 < (u_divisor_a0 - u_remainder_a0) then u_floor_a0 else (u_floor_a0 + (1 : Int64)))
set_option maxRecDepth 65536 in
set_option maxHeartbeats 40000000 in
theorem rm4 (l : Launch) (Z : State) (az : Array Value) (hw : ∀ d ∈ tables_1, d.before az Z = true) (ws : List Jvm.Cond) (a0 : Addr) (u_floor_a0 : Int64) (u_remainder_a0 : Int64) (u_divisor_a0 : Int64) (h0 : Heap) (n0 : Nat) (Z0 : n0 ≤ h0.size) (Fp_floor_a0 : Fld Z h0 a0 "com/example/prorata/prorata/Quotient" "floor" "J" (.long u_floor_a0)) (Fp_remainder_a0 : Fld Z h0 a0 "com/example/prorata/prorata/Quotient" "remainder" "J" (.long u_remainder_a0)) (Fp_divisor_a0 : Fld Z h0 a0 "com/example/prorata/prorata/Quotient" "divisor" "J" (.long u_divisor_a0)) :
    MetFree l (⟨"com/example/prorata/prorata/Quotient", "roundedHalfUp", "()J"⟩ : MethodName) (head1 (Jvm.Cond.code (⟨"com/example/prorata/prorata/Quotient", "roundedHalfUp", "()J"⟩ : MethodName) prog_60_method_6_code 1 (some .long) :: ws) ({ frames := 0, cells := 0, slots := 0, locals := 0 } : Room)) (fun a U => a = #[(.ref a0)] ∧ Z.Warmed39 U.vm ∧ U.heap = h0) (fun _ _ _ _ _ => True) (fun _ U o U' => ∃ v L, o = .returned v ∧ (QP (some (.long (F4 u_floor_a0 u_remainder_a0 u_divisor_a0))) h0 n0) v U'.heap L ∧ FrameEnd U o U' L ({ frames := 0, cells := 0, slots := 0, locals := 0 } : Room).cells ({ frames := 0, cells := 0, slots := 0, locals := 0 } : Room).slots) := by
  refine MetFree.of_bodySF (plainFor_of_name own_pn1) hisR ?_
  intro p e s m args below meth c s₁ Bd hml0 hP hK
  obtain ⟨rfl, hZ, hh⟩ := hP
  have hx := Bd.exec
  have hby := Bd.bytes
  have hml : c.maxLocals = 1 := hml0
  have hown : s.vm.findClass "com/example/prorata/prorata/Quotient" = some m.cls := findClass_of_methodNamed Bd.named
  have hnm := (name_of_methodNamed Bd.named Bd.method).1
  have hlk : meth.locks = false := BodyLoose.notSynchronized Bd
  have X0 : Stand p l e ({ frames := 0, cells := 0, slots := 0, locals := 0 } : Room) s m #[(.ref a0)] below meth c s₁ [] 0 0 := Stand.of_body Bd
  have e0 : s₁.heap = h0 := by rw [← hh, Bd.state]; rfl
  have N0 := Fr.nil n0
  show Go p e below s (QP (some (.long (F4 u_floor_a0 u_remainder_a0 u_divisor_a0))) h0 n0) ({ frames := 0, cells := 0, slots := 0, locals := 0 } : Room).cells ({ frames := 0, cells := 0, slots := 0, locals := 0 } : Room).slots (s₁.setTop (entryFrame m #[(.ref a0)] 1))
  refine Go.of (fun t k => castTop (ef_4 m a0) k) ?_
  show Go p e below s _ _ _ (s₁.setTop (mkF m 0 #[.val (.ref a0)] []))
  unfold F4
  refine Go.of (fun t k => XS.aloadN X0.here hx rfl (hb hby d4_0) rfl rfl k) ?_
  show Go p e below s _ _ _ (s₁.setTop (mkF m 1 #[.val (.ref a0)] [(.ref a0)]))
  obtain ⟨T1, X1, e1, st1⟩ := getF X0 hx hZ hown (host := "") (Or.inl (hw _ (List.mem_of_getElem? (i := 17) rfl))) Via.refl e0 Fp_remainder_a0 (g := (mkF m 1 #[.val (.ref a0)] [(.ref a0)])) rfl rfl (hb hby d4_1)
  refine Go.of st1 ?_
  show Go p e below s _ _ _ (T1.setTop (mkF m 4 #[.val (.ref a0)] [(.long u_remainder_a0)]))
  refine Go.of (fun t k => XS.aloadN X1.here hx rfl (hb hby d4_4) rfl rfl k) ?_
  show Go p e below s _ _ _ (T1.setTop (mkF m 5 #[.val (.ref a0)] [(.ref a0), (.long u_remainder_a0)]))
  obtain ⟨T2, X2, e2, st2⟩ := getF X1 hx hZ hown (host := "") (Or.inl (hw _ (List.mem_of_getElem? (i := 19) rfl))) Via.refl e1 Fp_divisor_a0 (g := (mkF m 5 #[.val (.ref a0)] [(.ref a0), (.long u_remainder_a0)])) rfl rfl (hb hby d4_5)
  refine Go.of st2 ?_
  show Go p e below s _ _ _ (T2.setTop (mkF m 8 #[.val (.ref a0)] [(.long u_divisor_a0), (.long u_remainder_a0)]))
  refine Go.of (fun t k => XS.aloadN X2.here hx rfl (hb hby d4_8) rfl rfl k) ?_
  show Go p e below s _ _ _ (T2.setTop (mkF m 9 #[.val (.ref a0)] [(.ref a0), (.long u_divisor_a0), (.long u_remainder_a0)]))
  obtain ⟨T3, X3, e3, st3⟩ := getF X2 hx hZ hown (host := "") (Or.inl (hw _ (List.mem_of_getElem? (i := 17) rfl))) Via.refl e2 Fp_remainder_a0 (g := (mkF m 9 #[.val (.ref a0)] [(.ref a0), (.long u_divisor_a0), (.long u_remainder_a0)])) rfl rfl (hb hby d4_9)
  refine Go.of st3 ?_
  show Go p e below s _ _ _ (T3.setTop (mkF m 12 #[.val (.ref a0)] [(.long u_remainder_a0), (.long u_divisor_a0), (.long u_remainder_a0)]))
  refine Go.of (fun t k => XS.lsub X3.here hx rfl (hb hby d4_12) rfl k) ?_
  show Go p e below s _ _ _ (T3.setTop (mkF m 13 #[.val (.ref a0)] [(.long (u_divisor_a0 - u_remainder_a0)), (.long u_remainder_a0)]))
  refine Go.of (fun t k => XS.lcmp X3.here hx rfl (hb hby d4_13) rfl k) ?_
  show Go p e below s _ _ _ (T3.setTop (mkF m 14 #[.val (.ref a0)] [(.int (lcmpW u_remainder_a0 (u_divisor_a0 - u_remainder_a0)))]))
  by_cases hc14_4 : u_remainder_a0 < (u_divisor_a0 - u_remainder_a0)
  · rewrite [if_pos hc14_4]
    refine Go.of (fun t k => XS.ifYes X3.here hx rfl (pc0 := 14) (pc' := 26) rfl (hb hby d4_14) rfl ((if0 _ _).trans (tlt ((lw_lt u_remainder_a0 (u_divisor_a0 - u_remainder_a0)).mpr hc14_4)).1) (by decide) (by decide) k) ?_
    show Go p e below s _ _ _ (T3.setTop (mkF m 26 #[.val (.ref a0)] []))
    refine Go.of (fun t k => XS.aloadN X3.here hx rfl (hb hby d4_26) rfl rfl k) ?_
    show Go p e below s _ _ _ (T3.setTop (mkF m 27 #[.val (.ref a0)] [(.ref a0)]))
    obtain ⟨T5, X5, e5, st5⟩ := getF X3 hx hZ hown (host := "") (Or.inl (hw _ (List.mem_of_getElem? (i := 15) rfl))) Via.refl e3 Fp_floor_a0 (g := (mkF m 27 #[.val (.ref a0)] [(.ref a0)])) rfl rfl (hb hby d4_27)
    refine Go.of st5 ?_
    show Go p e below s _ _ _ (T5.setTop (mkF m 30 #[.val (.ref a0)] [(.long u_floor_a0)]))
    exact Go.ret X5 (some (.long u_floor_a0)) (fun h => by rw [Bd.returns] at h; cases h) hlk ⟨rfl, N0, e5⟩ (by decide) (by decide) (fun fs hr => (retOut X5 hx Bd.returns rfl (Or.inr (Or.inl ⟨rfl, rfl, _, rfl⟩)) (hb hby d4_30) hr))
  · rewrite [if_neg hc14_4]
    refine Go.of (fun t k => XS.ifNo X3.here hx rfl (hb hby d4_14) rfl ((if0 _ _).trans (flt (mt (lw_lt u_remainder_a0 (u_divisor_a0 - u_remainder_a0)).mp hc14_4)).1) k) ?_
    show Go p e below s _ _ _ (T3.setTop (mkF m 17 #[.val (.ref a0)] []))
    refine Go.of (fun t k => XS.aloadN X3.here hx rfl (hb hby d4_17) rfl rfl k) ?_
    show Go p e below s _ _ _ (T3.setTop (mkF m 18 #[.val (.ref a0)] [(.ref a0)]))
    obtain ⟨T6, X6, e6, st6⟩ := getF X3 hx hZ hown (host := "") (Or.inl (hw _ (List.mem_of_getElem? (i := 15) rfl))) Via.refl e3 Fp_floor_a0 (g := (mkF m 18 #[.val (.ref a0)] [(.ref a0)])) rfl rfl (hb hby d4_18)
    refine Go.of st6 ?_
    show Go p e below s _ _ _ (T6.setTop (mkF m 21 #[.val (.ref a0)] [(.long u_floor_a0)]))
    refine Go.of (fun t k => XS.lconst X6.here hx rfl (hb hby d4_21) k) ?_
    show Go p e below s _ _ _ (T6.setTop (mkF m 22 #[.val (.ref a0)] [(.long (1 : Int64)), (.long u_floor_a0)]))
    refine Go.of (fun t k => XS.ladd X6.here hx rfl (hb hby d4_22) rfl k) ?_
    show Go p e below s _ _ _ (T6.setTop (mkF m 23 #[.val (.ref a0)] [(.long (u_floor_a0 + (1 : Int64)))]))
    refine Go.of (fun t k => XS.goto X6.here hx rfl (pc0 := 23) (pc' := 30) rfl (hb hby d4_23) (by decide) (by decide) k) ?_
    show Go p e below s _ _ _ (T6.setTop (mkF m 30 #[.val (.ref a0)] [(.long (u_floor_a0 + (1 : Int64)))]))
    exact Go.ret X6 (some (.long (u_floor_a0 + (1 : Int64)))) (fun h => by rw [Bd.returns] at h; cases h) hlk ⟨rfl, N0, e6⟩ (by decide) (by decide) (fun fs hr => (retOut X6 hx Bd.returns rfl (Or.inr (Or.inl ⟨rfl, rfl, _, rfl⟩)) (hb hby d4_30) hr))
theorem own_pd1 : parseMethodDescriptor "(JJJ)V" = some ⟨[.long, .long, .long], none⟩ := by decide +kernel
theorem own_pd2 : parseMethodDescriptor "()J" = some ⟨[], some .long⟩ := by decide +kernel
theorem own_pn2 : plainName "com/example/prorata/prorata/QuotientRoundedHalfUpPinLaw" = true := by first | (simp [plainName, overriddenIn]; done) | decide +kernel
theorem ef_0 (m : MethodId) (q0 : Int64) (q1 : Int64) (q2 : Int64) (p3 : Int32) : entryFrame m #[(.long q0), (.long q1), (.long q2), (.int p3)] maxLocals = mkF m 0 #[.val (.long q0), .second, .val (.long q1), .second, .val (.long q2), .second, .val (.int p3), .unset, .unset, .unset, .unset, .unset, .unset, .unset, .unset, .unset, .unset, .unset, .unset, .unset, .unset] [] := by first | (simp [entryFrame, mkF, argsToLocals, Value.category, maxLocals]; done) | rfl
def F0_139 (q0 : Int64) (v7_17 : Int64) (v9_70 : Int64) (w0_139 : Int64) : Int32 := (if (F4 (q0 &&& (9223372036854775807 : Int64)) v9_70 v7_17) = w0_139 then (1 : Int32) else (0 : Int32))
def F0_123 (q0 : Int64) (v7_17 : Int64) (v9_70 : Int64) (w0_123 : Int32) : Int32 := (if w0_123 = (0 : Int32) then (F0_139 q0 v7_17 v9_70 (q0 &&& (9223372036854775807 : Int64))) else (F0_139 q0 v7_17 v9_70 ((q0 &&& (9223372036854775807 : Int64)) + (1 : Int64))))
def F0_70 (q0 : Int64) (v7_17 : Int64) (v9_70 : Int64) : Int32 := (if v9_70 < (v7_17 - (v7_17 / (2 : Int64))) then (F0_123 q0 v7_17 v9_70 (0 : Int32)) else (F0_123 q0 v7_17 v9_70 (1 : Int32)))
def F0_139a (q0 : Int64) (v7_17 : Int64) (v9_70a : Int64) (w0_139a : Int64) : Int32 := (if (F4 (q0 &&& (9223372036854775807 : Int64)) v9_70a v7_17) = w0_139a then (1 : Int32) else (0 : Int32))
def F0_123a (q0 : Int64) (v7_17 : Int64) (v9_70a : Int64) (w0_123a : Int32) : Int32 := (if w0_123a = (0 : Int32) then (F0_139a q0 v7_17 v9_70a (q0 &&& (9223372036854775807 : Int64))) else (F0_139a q0 v7_17 v9_70a ((q0 &&& (9223372036854775807 : Int64)) + (1 : Int64))))
def F0_70a (q0 : Int64) (v7_17 : Int64) (v9_70a : Int64) : Int32 := (if v9_70a < (v7_17 - (v7_17 / (2 : Int64))) then (F0_123a q0 v7_17 v9_70a (0 : Int32)) else (F0_123a q0 v7_17 v9_70a (1 : Int32)))
def F0_17 (q0 : Int64) (q2 : Int64) (p3 : Int32) (v7_17 : Int64) : Int32 := (if (p3 &&& (4 : Int32)) = (0 : Int32) then (F0_70a q0 v7_17 ((q2 &&& (9223372036854775807 : Int64)) % v7_17)) else (if (((v7_17 / (2 : Int64)) - (1 : Int64)) + ((p3 &&& (3 : Int32)).toInt64)) < (0 : Int64) then (F0_70 q0 v7_17 ((q2 &&& (9223372036854775807 : Int64)) % v7_17)) else (if (((v7_17 / (2 : Int64)) - (1 : Int64)) + ((p3 &&& (3 : Int32)).toInt64)) < v7_17 then (F0_70 q0 v7_17 (((v7_17 / (2 : Int64)) - (1 : Int64)) + ((p3 &&& (3 : Int32)).toInt64))) else (F0_70 q0 v7_17 ((q2 &&& (9223372036854775807 : Int64)) % v7_17)))))
def F0 (q0 : Int64) (q1 : Int64) (q2 : Int64) (p3 : Int32) : Int32 := (if (q1 &&& (9223372036854775807 : Int64)) = (0 : Int64) then (F0_17 q0 q2 p3 (1 : Int64)) else (F0_17 q0 q2 p3 (q1 &&& (9223372036854775807 : Int64))))
set_option maxRecDepth 65536 in
set_option maxHeartbeats 40000000 in
theorem rm0 (l : Launch) (Z : State) (az : Array Value) (hw : ∀ d ∈ tables_1, d.before az Z = true) (ws : List Jvm.Cond) (q0 : Int64) (q1 : Int64) (q2 : Int64) (p3 : Int32)  (h0 : Heap) (n0 : Nat) (Z0 : n0 ≤ h0.size) :
    MetFree l x (head1 (Jvm.Cond.code x code maxLocals ret :: ws) room_1) (fun a U => a = #[(.long q0), (.long q1), (.long q2), (.int p3)] ∧ Z.Warmed39 U.vm ∧ U.heap = h0) (fun _ _ _ _ _ => True) (fun _ U o U' => ∃ v L, o = .returned v ∧ (QL (some (.int (F0 q0 q1 q2 p3))) n0) v U'.heap L ∧ FrameEnd U o U' L room_1.cells room_1.slots) := by
  refine MetFree.of_bodySF (plainFor_of_name own_pn2) hisR ?_
  intro p e s m args below meth c s₁ Bd hml0 hP hK
  obtain ⟨rfl, hZ, hh⟩ := hP
  have hx := Bd.exec
  have hby := Bd.bytes
  have hml : c.maxLocals = 21 := hml0
  have hown : s.vm.findClass "com/example/prorata/prorata/QuotientRoundedHalfUpPinLaw" = some m.cls := findClass_of_methodNamed Bd.named
  have hnm := (name_of_methodNamed Bd.named Bd.method).1
  have hlk : meth.locks = false := BodyLoose.notSynchronized Bd
  have X0 : Stand p l e room_1 s m #[(.long q0), (.long q1), (.long q2), (.int p3)] below meth c s₁ [] 0 0 := Stand.of_body Bd
  have e0 : s₁.heap = h0 := by rw [← hh, Bd.state]; rfl
  have N0 := Fr.nil n0
  show Go p e below s (QL (some (.int (F0 q0 q1 q2 p3))) n0) room_1.cells room_1.slots (s₁.setTop (entryFrame m #[(.long q0), (.long q1), (.long q2), (.int p3)] maxLocals))
  refine Go.of (fun t k => castTop (ef_0 m q0 q1 q2 p3) k) ?_
  show Go p e below s _ _ _ (s₁.setTop (mkF m 0 #[.val (.long q0), .second, .val (.long q1), .second, .val (.long q2), .second, .val (.int p3), .unset, .unset, .unset, .unset, .unset, .unset, .unset, .unset, .unset, .unset, .unset, .unset, .unset, .unset] []))
  unfold F0
  refine Go.of (fun t k => XS.lloadN X0.here hx rfl (hb hby at_0) rfl k) ?_
  show Go p e below s _ _ _ (s₁.setTop (mkF m 1 #[.val (.long q0), .second, .val (.long q1), .second, .val (.long q2), .second, .val (.int p3), .unset, .unset, .unset, .unset, .unset, .unset, .unset, .unset, .unset, .unset, .unset, .unset, .unset, .unset] [(.long q1)]))
  refine Go.of (X0.ldc2Long hx hown (mvT hZ (hw _ (List.mem_of_getElem? (i := 0) rfl))) (g := (mkF m 1 #[.val (.long q0), .second, .val (.long q1), .second, .val (.long q2), .second, .val (.int p3), .unset, .unset, .unset, .unset, .unset, .unset, .unset, .unset, .unset, .unset, .unset, .unset, .unset, .unset] [(.long q1)])) rfl (hb hby at_1)) ?_
  show Go p e below s _ _ _ (s₁.setTop (mkF m 4 #[.val (.long q0), .second, .val (.long q1), .second, .val (.long q2), .second, .val (.int p3), .unset, .unset, .unset, .unset, .unset, .unset, .unset, .unset, .unset, .unset, .unset, .unset, .unset, .unset] [(.long (9223372036854775807 : Int64)), (.long q1)]))
  refine Go.of (fun t k => XS.land X0.here hx rfl (hb hby at_4) rfl k) ?_
  show Go p e below s _ _ _ (s₁.setTop (mkF m 5 #[.val (.long q0), .second, .val (.long q1), .second, .val (.long q2), .second, .val (.int p3), .unset, .unset, .unset, .unset, .unset, .unset, .unset, .unset, .unset, .unset, .unset, .unset, .unset, .unset] [(.long (q1 &&& (9223372036854775807 : Int64)))]))
  refine Go.of (fun t k => XS.lstore X0.here hx rfl (hb hby at_5) rfl (l' := #[.val (.long q0), .second, .val (.long q1), .second, .val (.long q2), .second, .val (.int p3), .val (.long (q1 &&& (9223372036854775807 : Int64))), .second, .unset, .unset, .unset, .unset, .unset, .unset, .unset, .unset, .unset, .unset, .unset, .unset]) rfl k) ?_
  show Go p e below s _ _ _ (s₁.setTop (mkF m 7 #[.val (.long q0), .second, .val (.long q1), .second, .val (.long q2), .second, .val (.int p3), .val (.long (q1 &&& (9223372036854775807 : Int64))), .second, .unset, .unset, .unset, .unset, .unset, .unset, .unset, .unset, .unset, .unset, .unset, .unset] []))
  refine Go.of (fun t k => XS.lload X0.here hx rfl (hb hby at_7) rfl k) ?_
  show Go p e below s _ _ _ (s₁.setTop (mkF m 9 #[.val (.long q0), .second, .val (.long q1), .second, .val (.long q2), .second, .val (.int p3), .val (.long (q1 &&& (9223372036854775807 : Int64))), .second, .unset, .unset, .unset, .unset, .unset, .unset, .unset, .unset, .unset, .unset, .unset, .unset] [(.long (q1 &&& (9223372036854775807 : Int64)))]))
  refine Go.of (fun t k => XS.lconst X0.here hx rfl (hb hby at_9) k) ?_
  show Go p e below s _ _ _ (s₁.setTop (mkF m 10 #[.val (.long q0), .second, .val (.long q1), .second, .val (.long q2), .second, .val (.int p3), .val (.long (q1 &&& (9223372036854775807 : Int64))), .second, .unset, .unset, .unset, .unset, .unset, .unset, .unset, .unset, .unset, .unset, .unset, .unset] [(.long (0 : Int64)), (.long (q1 &&& (9223372036854775807 : Int64)))]))
  refine Go.of (fun t k => XS.lcmp X0.here hx rfl (hb hby at_10) rfl k) ?_
  show Go p e below s _ _ _ (s₁.setTop (mkF m 11 #[.val (.long q0), .second, .val (.long q1), .second, .val (.long q2), .second, .val (.int p3), .val (.long (q1 &&& (9223372036854775807 : Int64))), .second, .unset, .unset, .unset, .unset, .unset, .unset, .unset, .unset, .unset, .unset, .unset, .unset] [(.int (lcmpW (q1 &&& (9223372036854775807 : Int64)) (0 : Int64)))]))
  have jn17 : ∀ (v7_17 : Int64) (T_17 : State) (l_17 : List Loc) (X_17 : Stand p l e room_1 s m #[(.long q0), (.long q1), (.long q2), (.int p3)] below meth c T_17 l_17 0 0) (e_17 : T_17.heap = h0) (N_17 : Fr n0 l_17) (hnz_17 : ¬ (v7_17 = (0 : Int64))), Go p e below s (QL (some (.int (F0_17 q0 q2 p3 v7_17))) n0) room_1.cells room_1.slots (T_17.setTop (mkF m 17 #[.val (.long q0), .second, .val (.long q1), .second, .val (.long q2), .second, .val (.int p3), .val (.long v7_17), .second, .unset, .unset, .unset, .unset, .unset, .unset, .unset, .unset, .unset, .unset, .unset, .unset] [])) := by
    intro v7_17 T_17 l_17 X_17 e_17 N_17 hnz_17
    unfold F0_17
    refine Go.of (fun t k => XS.lload X_17.here hx rfl (hb hby at_17) rfl k) ?_
    show Go p e below s _ _ _ (T_17.setTop (mkF m 19 #[.val (.long q0), .second, .val (.long q1), .second, .val (.long q2), .second, .val (.int p3), .val (.long v7_17), .second, .unset, .unset, .unset, .unset, .unset, .unset, .unset, .unset, .unset, .unset, .unset, .unset] [(.long q2)]))
    refine Go.of (X_17.ldc2Long hx hown (mvT hZ (hw _ (List.mem_of_getElem? (i := 0) rfl))) (g := (mkF m 19 #[.val (.long q0), .second, .val (.long q1), .second, .val (.long q2), .second, .val (.int p3), .val (.long v7_17), .second, .unset, .unset, .unset, .unset, .unset, .unset, .unset, .unset, .unset, .unset, .unset, .unset] [(.long q2)])) rfl (hb hby at_19)) ?_
    show Go p e below s _ _ _ (T_17.setTop (mkF m 22 #[.val (.long q0), .second, .val (.long q1), .second, .val (.long q2), .second, .val (.int p3), .val (.long v7_17), .second, .unset, .unset, .unset, .unset, .unset, .unset, .unset, .unset, .unset, .unset, .unset, .unset] [(.long (9223372036854775807 : Int64)), (.long q2)]))
    refine Go.of (fun t k => XS.land X_17.here hx rfl (hb hby at_22) rfl k) ?_
    show Go p e below s _ _ _ (T_17.setTop (mkF m 23 #[.val (.long q0), .second, .val (.long q1), .second, .val (.long q2), .second, .val (.int p3), .val (.long v7_17), .second, .unset, .unset, .unset, .unset, .unset, .unset, .unset, .unset, .unset, .unset, .unset, .unset] [(.long (q2 &&& (9223372036854775807 : Int64)))]))
    refine Go.of (fun t k => XS.lload X_17.here hx rfl (hb hby at_23) rfl k) ?_
    show Go p e below s _ _ _ (T_17.setTop (mkF m 25 #[.val (.long q0), .second, .val (.long q1), .second, .val (.long q2), .second, .val (.int p3), .val (.long v7_17), .second, .unset, .unset, .unset, .unset, .unset, .unset, .unset, .unset, .unset, .unset, .unset, .unset] [(.long v7_17), (.long (q2 &&& (9223372036854775807 : Int64)))]))
    refine Go.of (fun t k => lremM X_17 hx rfl (hb hby at_25) rfl hnz_17 k) ?_
    show Go p e below s _ _ _ (T_17.setTop (mkF m 26 #[.val (.long q0), .second, .val (.long q1), .second, .val (.long q2), .second, .val (.int p3), .val (.long v7_17), .second, .unset, .unset, .unset, .unset, .unset, .unset, .unset, .unset, .unset, .unset, .unset, .unset] [(.long ((q2 &&& (9223372036854775807 : Int64)) % v7_17))]))
    refine Go.of (fun t k => XS.lstore X_17.here hx rfl (hb hby at_26) rfl (l' := #[.val (.long q0), .second, .val (.long q1), .second, .val (.long q2), .second, .val (.int p3), .val (.long v7_17), .second, .val (.long ((q2 &&& (9223372036854775807 : Int64)) % v7_17)), .second, .unset, .unset, .unset, .unset, .unset, .unset, .unset, .unset, .unset, .unset]) rfl k) ?_
    show Go p e below s _ _ _ (T_17.setTop (mkF m 28 #[.val (.long q0), .second, .val (.long q1), .second, .val (.long q2), .second, .val (.int p3), .val (.long v7_17), .second, .val (.long ((q2 &&& (9223372036854775807 : Int64)) % v7_17)), .second, .unset, .unset, .unset, .unset, .unset, .unset, .unset, .unset, .unset, .unset] []))
    refine Go.of (fun t k => XS.iload X_17.here hx rfl (hb hby at_28) rfl k) ?_
    show Go p e below s _ _ _ (T_17.setTop (mkF m 30 #[.val (.long q0), .second, .val (.long q1), .second, .val (.long q2), .second, .val (.int p3), .val (.long v7_17), .second, .val (.long ((q2 &&& (9223372036854775807 : Int64)) % v7_17)), .second, .unset, .unset, .unset, .unset, .unset, .unset, .unset, .unset, .unset, .unset] [(.int p3)]))
    refine Go.of (fun t k => XS.iconst X_17.here hx rfl (hb hby at_30) k) ?_
    show Go p e below s _ _ _ (T_17.setTop (mkF m 31 #[.val (.long q0), .second, .val (.long q1), .second, .val (.long q2), .second, .val (.int p3), .val (.long v7_17), .second, .val (.long ((q2 &&& (9223372036854775807 : Int64)) % v7_17)), .second, .unset, .unset, .unset, .unset, .unset, .unset, .unset, .unset, .unset, .unset] [(.int (4 : Int32)), (.int p3)]))
    refine Go.of (fun t k => XS.iand X_17.here hx rfl (hb hby at_31) rfl k) ?_
    show Go p e below s _ _ _ (T_17.setTop (mkF m 32 #[.val (.long q0), .second, .val (.long q1), .second, .val (.long q2), .second, .val (.int p3), .val (.long v7_17), .second, .val (.long ((q2 &&& (9223372036854775807 : Int64)) % v7_17)), .second, .unset, .unset, .unset, .unset, .unset, .unset, .unset, .unset, .unset, .unset] [(.int (p3 &&& (4 : Int32)))]))
    have jn70 : ∀ (v9_70 : Int64) (v11_70 : Int64) (T_70 : State) (l_70 : List Loc) (X_70 : Stand p l e room_1 s m #[(.long q0), (.long q1), (.long q2), (.int p3)] below meth c T_70 l_70 0 0) (e_70 : T_70.heap = h0) (N_70 : Fr n0 l_70), Go p e below s (QL (some (.int (F0_70 q0 v7_17 v9_70))) n0) room_1.cells room_1.slots (T_70.setTop (mkF m 70 #[.val (.long q0), .second, .val (.long q1), .second, .val (.long q2), .second, .val (.int p3), .val (.long v7_17), .second, .val (.long v9_70), .second, .val (.long v11_70), .second, .unset, .unset, .unset, .unset, .unset, .unset, .unset, .unset] [])) := by
      intro v9_70 v11_70 T_70 l_70 X_70 e_70 N_70
      unfold F0_70
      refine Go.of (fun t k => XS.lloadN X_70.here hx rfl (hb hby at_70) rfl k) ?_
      show Go p e below s _ _ _ (T_70.setTop (mkF m 71 #[.val (.long q0), .second, .val (.long q1), .second, .val (.long q2), .second, .val (.int p3), .val (.long v7_17), .second, .val (.long v9_70), .second, .val (.long v11_70), .second, .unset, .unset, .unset, .unset, .unset, .unset, .unset, .unset] [(.long q0)]))
      refine Go.of (X_70.ldc2Long hx hown (mvT hZ (hw _ (List.mem_of_getElem? (i := 0) rfl))) (g := (mkF m 71 #[.val (.long q0), .second, .val (.long q1), .second, .val (.long q2), .second, .val (.int p3), .val (.long v7_17), .second, .val (.long v9_70), .second, .val (.long v11_70), .second, .unset, .unset, .unset, .unset, .unset, .unset, .unset, .unset] [(.long q0)])) rfl (hb hby at_71)) ?_
      show Go p e below s _ _ _ (T_70.setTop (mkF m 74 #[.val (.long q0), .second, .val (.long q1), .second, .val (.long q2), .second, .val (.int p3), .val (.long v7_17), .second, .val (.long v9_70), .second, .val (.long v11_70), .second, .unset, .unset, .unset, .unset, .unset, .unset, .unset, .unset] [(.long (9223372036854775807 : Int64)), (.long q0)]))
      refine Go.of (fun t k => XS.land X_70.here hx rfl (hb hby at_74) rfl k) ?_
      show Go p e below s _ _ _ (T_70.setTop (mkF m 75 #[.val (.long q0), .second, .val (.long q1), .second, .val (.long q2), .second, .val (.int p3), .val (.long v7_17), .second, .val (.long v9_70), .second, .val (.long v11_70), .second, .unset, .unset, .unset, .unset, .unset, .unset, .unset, .unset] [(.long (q0 &&& (9223372036854775807 : Int64)))]))
      refine Go.of (fun t k => XS.lstore X_70.here hx rfl (hb hby at_75) rfl (l' := #[.val (.long q0), .second, .val (.long q1), .second, .val (.long q2), .second, .val (.int p3), .val (.long v7_17), .second, .val (.long v9_70), .second, .val (.long (q0 &&& (9223372036854775807 : Int64))), .second, .unset, .unset, .unset, .unset, .unset, .unset, .unset, .unset]) rfl k) ?_
      show Go p e below s _ _ _ (T_70.setTop (mkF m 77 #[.val (.long q0), .second, .val (.long q1), .second, .val (.long q2), .second, .val (.int p3), .val (.long v7_17), .second, .val (.long v9_70), .second, .val (.long (q0 &&& (9223372036854775807 : Int64))), .second, .unset, .unset, .unset, .unset, .unset, .unset, .unset, .unset] []))
      obtain ⟨T1, h1, X1, e1, E1, A1, D1, -, st1⟩ := newO X_70 hx hZ hown (hw _ (List.mem_of_getElem? (i := 1) rfl)) (hw _ (List.mem_of_getElem? (i := 2) rfl)) (hw _ (List.mem_of_getElem? (i := 3) rfl)) e_70 (g := (mkF m 77 #[.val (.long q0), .second, .val (.long q1), .second, .val (.long q2), .second, .val (.int p3), .val (.long v7_17), .second, .val (.long v9_70), .second, .val (.long (q0 &&& (9223372036854775807 : Int64))), .second, .unset, .unset, .unset, .unset, .unset, .unset, .unset, .unset] [])) rfl (hb hby at_77) (by decide) (by decide)
      obtain ⟨b1, ga1⟩ : ∃ z, z = h0.size := ⟨_, rfl⟩
      rw [← ga1] at A1 D1 st1
      have g_b1 : n0 ≤ b1 := Nat.le_trans Z0 (Nat.le_of_eq ga1.symm)
      have sz_b1 : h0.size ≤ b1 := Nat.le_trans (Keep.refl h0 []).1 (Nat.le_of_eq ga1.symm)
      have f2 : Fld Z h1 b1 "com/example/prorata/prorata/Quotient" "floor" "J" (.long (0 : Int64)) := D1 (Or.inr (hw _ (List.mem_of_getElem? (i := 16) rfl))) (ty := .long) (by decide)
      have f3 : Fld Z h1 b1 "com/example/prorata/prorata/Quotient" "remainder" "J" (.long (0 : Int64)) := D1 (Or.inr (hw _ (List.mem_of_getElem? (i := 18) rfl))) (ty := .long) (by decide)
      have f4 : Fld Z h1 b1 "com/example/prorata/prorata/Quotient" "divisor" "J" (.long (0 : Int64)) := D1 (Or.inr (hw _ (List.mem_of_getElem? (i := 20) rfl))) (ty := .long) (by decide)
      have K1 : Keep h0 h1 [] := Keep.ext (Keep.refl h0 []) E1
      refine Go.of st1 ?_
      show Go p e below s _ _ _ (T1.setTop (mkF m 80 #[.val (.long q0), .second, .val (.long q1), .second, .val (.long q2), .second, .val (.int p3), .val (.long v7_17), .second, .val (.long v9_70), .second, .val (.long (q0 &&& (9223372036854775807 : Int64))), .second, .unset, .unset, .unset, .unset, .unset, .unset, .unset, .unset] [(.ref b1)]))
      refine Go.of (fun t k => XS.dup X1.here hx rfl (hb hby at_80) rfl rfl k) ?_
      show Go p e below s _ _ _ (T1.setTop (mkF m 81 #[.val (.long q0), .second, .val (.long q1), .second, .val (.long q2), .second, .val (.int p3), .val (.long v7_17), .second, .val (.long v9_70), .second, .val (.long (q0 &&& (9223372036854775807 : Int64))), .second, .unset, .unset, .unset, .unset, .unset, .unset, .unset, .unset] [(.ref b1), (.ref b1)]))
      refine Go.of (fun t k => XS.lload X1.here hx rfl (hb hby at_81) rfl k) ?_
      show Go p e below s _ _ _ (T1.setTop (mkF m 83 #[.val (.long q0), .second, .val (.long q1), .second, .val (.long q2), .second, .val (.int p3), .val (.long v7_17), .second, .val (.long v9_70), .second, .val (.long (q0 &&& (9223372036854775807 : Int64))), .second, .unset, .unset, .unset, .unset, .unset, .unset, .unset, .unset] [(.long (q0 &&& (9223372036854775807 : Int64))), (.ref b1), (.ref b1)]))
      refine Go.of (fun t k => XS.lload X1.here hx rfl (hb hby at_83) rfl k) ?_
      show Go p e below s _ _ _ (T1.setTop (mkF m 85 #[.val (.long q0), .second, .val (.long q1), .second, .val (.long q2), .second, .val (.int p3), .val (.long v7_17), .second, .val (.long v9_70), .second, .val (.long (q0 &&& (9223372036854775807 : Int64))), .second, .unset, .unset, .unset, .unset, .unset, .unset, .unset, .unset] [(.long v9_70), (.long (q0 &&& (9223372036854775807 : Int64))), (.ref b1), (.ref b1)]))
      refine Go.of (fun t k => XS.lload X1.here hx rfl (hb hby at_85) rfl k) ?_
      show Go p e below s _ _ _ (T1.setTop (mkF m 87 #[.val (.long q0), .second, .val (.long q1), .second, .val (.long q2), .second, .val (.int p3), .val (.long v7_17), .second, .val (.long v9_70), .second, .val (.long (q0 &&& (9223372036854775807 : Int64))), .second, .unset, .unset, .unset, .unset, .unset, .unset, .unset, .unset] [(.long v7_17), (.long v9_70), (.long (q0 &&& (9223372036854775807 : Int64))), (.ref b1), (.ref b1)]))
      obtain ⟨_, _, ⟨T5, L5, k5, n5⟩, -, X5, ⟨Lc5, hQ5, l5, y5, z5⟩, st5⟩ := X1.specialBack hx (y := (⟨"com/example/prorata/prorata/Quotient", "<init>", "(JJJ)V"⟩ : MethodName)) rfl hown (mvT hZ (hw _ (List.mem_of_getElem? (i := 4) rfl))) (mvT hZ (hw _ (List.mem_of_getElem? (i := 5) rfl))) (mvT hZ (hw _ (List.mem_of_getElem? (i := 6) rfl))) (by decide) (backOf (W := 1) (rm1 l Z az hw [] b1 (q0 &&& (9223372036854775807 : Int64)) v9_70 v7_17 (.long (0 : Int64)) (.long (0 : Int64)) (.long (0 : Int64)) h1 n0 (Nat.le_trans Z0 K1.1) A1 f2 f3 f4 g_b1) hZ (hw _ (List.mem_of_getElem? (i := 6) rfl)) (hw _ (List.mem_of_getElem? (i := 3) rfl)) (by decide) (by decide)) (g := (mkF m 87 #[.val (.long q0), .second, .val (.long q1), .second, .val (.long q2), .second, .val (.int p3), .val (.long v7_17), .second, .val (.long v9_70), .second, .val (.long (q0 &&& (9223372036854775807 : Int64))), .second, .unset, .unset, .unset, .unset, .unset, .unset, .unset, .unset] [(.long v7_17), (.long v9_70), (.long (q0 &&& (9223372036854775807 : Int64))), (.ref b1), (.ref b1)])) rfl (by rw [hml]; rfl) (Steps.refl _) (a := b1) (argsL := [(.long (q0 &&& (9223372036854775807 : Int64))), (.long v9_70), (.long v7_17)]) (rest := [(.ref b1)]) (lenOf own_pd1 rfl) rfl (by show 2 * 0 + _ ≤ _; exact Nat.le_of_eq rfl) (hb hby at_87) (fun _ _ => ⟨rfl, e1, (by decide : 1 + 0 ≤ _), (by decide : 3 + 0 ≤ _)⟩)
      dsimp only [Pt.U, Pt.locs, Pt.cells, Pt.slots] at X5 l5 y5 z5 st5 hQ5
      subst l5 y5 z5
      obtain ⟨rfl, N5q, Kq5, f6, f7, f8, f9⟩ := hQ5
      have N5 := Fr.app N_70 N5q
      have K5 : Keep h0 T5.heap [] := Keep.trans K1 Kq5 (allS (Or.inr sz_b1) all0)
      refine Go.of (fun t k => st5.trans k) ?_
      show Go p e below s _ _ _ (T5.setTop (mkF m 90 #[.val (.long q0), .second, .val (.long q1), .second, .val (.long q2), .second, .val (.int p3), .val (.long v7_17), .second, .val (.long v9_70), .second, .val (.long (q0 &&& (9223372036854775807 : Int64))), .second, .unset, .unset, .unset, .unset, .unset, .unset, .unset, .unset] [(.ref b1)]))
      refine Go.of (fun t k => XS.astore X5.here hx rfl (hb hby at_90) rfl rfl (l' := #[.val (.long q0), .second, .val (.long q1), .second, .val (.long q2), .second, .val (.int p3), .val (.long v7_17), .second, .val (.long v9_70), .second, .val (.long (q0 &&& (9223372036854775807 : Int64))), .second, .val (.ref b1), .unset, .unset, .unset, .unset, .unset, .unset, .unset]) rfl k) ?_
      show Go p e below s _ _ _ (T5.setTop (mkF m 92 #[.val (.long q0), .second, .val (.long q1), .second, .val (.long q2), .second, .val (.int p3), .val (.long v7_17), .second, .val (.long v9_70), .second, .val (.long (q0 &&& (9223372036854775807 : Int64))), .second, .val (.ref b1), .unset, .unset, .unset, .unset, .unset, .unset, .unset] []))
      refine Go.of (fun t k => XS.aload X5.here hx rfl (hb hby at_92) rfl rfl k) ?_
      show Go p e below s _ _ _ (T5.setTop (mkF m 94 #[.val (.long q0), .second, .val (.long q1), .second, .val (.long q2), .second, .val (.int p3), .val (.long v7_17), .second, .val (.long v9_70), .second, .val (.long (q0 &&& (9223372036854775807 : Int64))), .second, .val (.ref b1), .unset, .unset, .unset, .unset, .unset, .unset, .unset] [(.ref b1)]))
      obtain ⟨cq10, kq10, q10a, q10b, q10c⟩ := isOf hZ rfl f6
      obtain ⟨_, _, ⟨T10, L10, k10, n10⟩, -, X10, ⟨Lc10, hQ10, l10, y10, z10⟩, st10⟩ := X5.virtualBack hx (y := (⟨"com/example/prorata/prorata/Quotient", "roundedHalfUp", "()J"⟩ : MethodName)) (z := (⟨"com/example/prorata/prorata/Quotient", "roundedHalfUp", "()J"⟩ : MethodName)) hown (mvT hZ (hw _ (List.mem_of_getElem? (i := 21) rfl))) (mvT hZ (hw _ (List.mem_of_getElem? (i := 22) rfl))) (notFace_of_selects (args := #[]) (mvT hZ (hw _ (List.mem_of_getElem? (i := 24) rfl)))) (mvT hZ (hw _ (List.mem_of_getElem? (i := 24) rfl))) (mvT hZ (hw _ (List.mem_of_getElem? (i := 23) rfl))) (by decide) (backOf (W := 0) (rm4 l Z az hw [] b1 (q0 &&& (9223372036854775807 : Int64)) v9_70 v7_17 T5.heap n0 (Nat.le_trans Z0 K5.1) f7 f8 f9) hZ (hw _ (List.mem_of_getElem? (i := 25) rfl)) (hw _ (List.mem_of_getElem? (i := 3) rfl)) (by decide) (by decide)) q10a q10c (g := (mkF m 94 #[.val (.long q0), .second, .val (.long q1), .second, .val (.long q2), .second, .val (.int p3), .val (.long v7_17), .second, .val (.long v9_70), .second, .val (.long (q0 &&& (9223372036854775807 : Int64))), .second, .val (.ref b1), .unset, .unset, .unset, .unset, .unset, .unset, .unset] [(.ref b1)])) rfl (by rw [hml]; rfl) (Steps.refl _) (argsL := []) (rest := []) (lenOf own_pd2 rfl) rfl (by show 2 * 0 + _ ≤ _; exact Nat.le_of_eq rfl) (hb hby at_94) (fun _ _ => ⟨rfl, rfl, (by decide : 1 + 0 ≤ _), (by decide : 3 + 0 ≤ _)⟩)
      dsimp only [Pt.U, Pt.locs, Pt.cells, Pt.slots] at X10 l10 y10 z10 st10 hQ10
      subst l10 y10 z10
      obtain ⟨rfl, N10q, e10⟩ := hQ10
      have N10 := Fr.app N5 N10q
      refine Go.of (fun t k => st10.trans k) ?_
      show Go p e below s _ _ _ (T10.setTop (mkF m 97 #[.val (.long q0), .second, .val (.long q1), .second, .val (.long q2), .second, .val (.int p3), .val (.long v7_17), .second, .val (.long v9_70), .second, .val (.long (q0 &&& (9223372036854775807 : Int64))), .second, .val (.ref b1), .unset, .unset, .unset, .unset, .unset, .unset, .unset] [(.long (F4 (q0 &&& (9223372036854775807 : Int64)) v9_70 v7_17))]))
      refine Go.of (fun t k => XS.lstore X10.here hx rfl (hb hby at_97) rfl (l' := #[.val (.long q0), .second, .val (.long q1), .second, .val (.long q2), .second, .val (.int p3), .val (.long v7_17), .second, .val (.long v9_70), .second, .val (.long (q0 &&& (9223372036854775807 : Int64))), .second, .val (.ref b1), .val (.long (F4 (q0 &&& (9223372036854775807 : Int64)) v9_70 v7_17)), .second, .unset, .unset, .unset, .unset, .unset]) rfl k) ?_
      show Go p e below s _ _ _ (T10.setTop (mkF m 99 #[.val (.long q0), .second, .val (.long q1), .second, .val (.long q2), .second, .val (.int p3), .val (.long v7_17), .second, .val (.long v9_70), .second, .val (.long (q0 &&& (9223372036854775807 : Int64))), .second, .val (.ref b1), .val (.long (F4 (q0 &&& (9223372036854775807 : Int64)) v9_70 v7_17)), .second, .unset, .unset, .unset, .unset, .unset] []))
      refine Go.of (fun t k => XS.lload X10.here hx rfl (hb hby at_99) rfl k) ?_
      show Go p e below s _ _ _ (T10.setTop (mkF m 101 #[.val (.long q0), .second, .val (.long q1), .second, .val (.long q2), .second, .val (.int p3), .val (.long v7_17), .second, .val (.long v9_70), .second, .val (.long (q0 &&& (9223372036854775807 : Int64))), .second, .val (.ref b1), .val (.long (F4 (q0 &&& (9223372036854775807 : Int64)) v9_70 v7_17)), .second, .unset, .unset, .unset, .unset, .unset] [(.long v7_17)]))
      refine Go.of (fun t k => XS.lload X10.here hx rfl (hb hby at_101) rfl k) ?_
      show Go p e below s _ _ _ (T10.setTop (mkF m 103 #[.val (.long q0), .second, .val (.long q1), .second, .val (.long q2), .second, .val (.int p3), .val (.long v7_17), .second, .val (.long v9_70), .second, .val (.long (q0 &&& (9223372036854775807 : Int64))), .second, .val (.ref b1), .val (.long (F4 (q0 &&& (9223372036854775807 : Int64)) v9_70 v7_17)), .second, .unset, .unset, .unset, .unset, .unset] [(.long v7_17), (.long v7_17)]))
      refine Go.of (X10.ldc2Long hx hown (mvT hZ (hw _ (List.mem_of_getElem? (i := 26) rfl))) (g := (mkF m 103 #[.val (.long q0), .second, .val (.long q1), .second, .val (.long q2), .second, .val (.int p3), .val (.long v7_17), .second, .val (.long v9_70), .second, .val (.long (q0 &&& (9223372036854775807 : Int64))), .second, .val (.ref b1), .val (.long (F4 (q0 &&& (9223372036854775807 : Int64)) v9_70 v7_17)), .second, .unset, .unset, .unset, .unset, .unset] [(.long v7_17), (.long v7_17)])) rfl (hb hby at_103)) ?_
      show Go p e below s _ _ _ (T10.setTop (mkF m 106 #[.val (.long q0), .second, .val (.long q1), .second, .val (.long q2), .second, .val (.int p3), .val (.long v7_17), .second, .val (.long v9_70), .second, .val (.long (q0 &&& (9223372036854775807 : Int64))), .second, .val (.ref b1), .val (.long (F4 (q0 &&& (9223372036854775807 : Int64)) v9_70 v7_17)), .second, .unset, .unset, .unset, .unset, .unset] [(.long (2 : Int64)), (.long v7_17), (.long v7_17)]))
      refine Go.of (fun t k => XS.ldiv X10.here hx rfl (hb hby at_106) rfl (by decide) k) ?_
      show Go p e below s _ _ _ (T10.setTop (mkF m 107 #[.val (.long q0), .second, .val (.long q1), .second, .val (.long q2), .second, .val (.int p3), .val (.long v7_17), .second, .val (.long v9_70), .second, .val (.long (q0 &&& (9223372036854775807 : Int64))), .second, .val (.ref b1), .val (.long (F4 (q0 &&& (9223372036854775807 : Int64)) v9_70 v7_17)), .second, .unset, .unset, .unset, .unset, .unset] [(.long (v7_17 / (2 : Int64))), (.long v7_17)]))
      refine Go.of (fun t k => XS.lsub X10.here hx rfl (hb hby at_107) rfl k) ?_
      show Go p e below s _ _ _ (T10.setTop (mkF m 108 #[.val (.long q0), .second, .val (.long q1), .second, .val (.long q2), .second, .val (.int p3), .val (.long v7_17), .second, .val (.long v9_70), .second, .val (.long (q0 &&& (9223372036854775807 : Int64))), .second, .val (.ref b1), .val (.long (F4 (q0 &&& (9223372036854775807 : Int64)) v9_70 v7_17)), .second, .unset, .unset, .unset, .unset, .unset] [(.long (v7_17 - (v7_17 / (2 : Int64))))]))
      refine Go.of (fun t k => XS.lstore X10.here hx rfl (hb hby at_108) rfl (l' := #[.val (.long q0), .second, .val (.long q1), .second, .val (.long q2), .second, .val (.int p3), .val (.long v7_17), .second, .val (.long v9_70), .second, .val (.long (q0 &&& (9223372036854775807 : Int64))), .second, .val (.ref b1), .val (.long (F4 (q0 &&& (9223372036854775807 : Int64)) v9_70 v7_17)), .second, .val (.long (v7_17 - (v7_17 / (2 : Int64)))), .second, .unset, .unset, .unset]) rfl k) ?_
      show Go p e below s _ _ _ (T10.setTop (mkF m 110 #[.val (.long q0), .second, .val (.long q1), .second, .val (.long q2), .second, .val (.int p3), .val (.long v7_17), .second, .val (.long v9_70), .second, .val (.long (q0 &&& (9223372036854775807 : Int64))), .second, .val (.ref b1), .val (.long (F4 (q0 &&& (9223372036854775807 : Int64)) v9_70 v7_17)), .second, .val (.long (v7_17 - (v7_17 / (2 : Int64)))), .second, .unset, .unset, .unset] []))
      refine Go.of (fun t k => XS.lload X10.here hx rfl (hb hby at_110) rfl k) ?_
      show Go p e below s _ _ _ (T10.setTop (mkF m 112 #[.val (.long q0), .second, .val (.long q1), .second, .val (.long q2), .second, .val (.int p3), .val (.long v7_17), .second, .val (.long v9_70), .second, .val (.long (q0 &&& (9223372036854775807 : Int64))), .second, .val (.ref b1), .val (.long (F4 (q0 &&& (9223372036854775807 : Int64)) v9_70 v7_17)), .second, .val (.long (v7_17 - (v7_17 / (2 : Int64)))), .second, .unset, .unset, .unset] [(.long v9_70)]))
      refine Go.of (fun t k => XS.lload X10.here hx rfl (hb hby at_112) rfl k) ?_
      show Go p e below s _ _ _ (T10.setTop (mkF m 114 #[.val (.long q0), .second, .val (.long q1), .second, .val (.long q2), .second, .val (.int p3), .val (.long v7_17), .second, .val (.long v9_70), .second, .val (.long (q0 &&& (9223372036854775807 : Int64))), .second, .val (.ref b1), .val (.long (F4 (q0 &&& (9223372036854775807 : Int64)) v9_70 v7_17)), .second, .val (.long (v7_17 - (v7_17 / (2 : Int64)))), .second, .unset, .unset, .unset] [(.long (v7_17 - (v7_17 / (2 : Int64)))), (.long v9_70)]))
      refine Go.of (fun t k => XS.lcmp X10.here hx rfl (hb hby at_114) rfl k) ?_
      show Go p e below s _ _ _ (T10.setTop (mkF m 115 #[.val (.long q0), .second, .val (.long q1), .second, .val (.long q2), .second, .val (.int p3), .val (.long v7_17), .second, .val (.long v9_70), .second, .val (.long (q0 &&& (9223372036854775807 : Int64))), .second, .val (.ref b1), .val (.long (F4 (q0 &&& (9223372036854775807 : Int64)) v9_70 v7_17)), .second, .val (.long (v7_17 - (v7_17 / (2 : Int64)))), .second, .unset, .unset, .unset] [(.int (lcmpW v9_70 (v7_17 - (v7_17 / (2 : Int64)))))]))
      have jn123 : ∀ (w0_123 : Int32) (T_123 : State) (l_123 : List Loc) (X_123 : Stand p l e room_1 s m #[(.long q0), (.long q1), (.long q2), (.int p3)] below meth c T_123 l_123 1 3) (e_123 : T_123.heap = T5.heap) (N_123 : Fr n0 l_123), Go p e below s (QL (some (.int (F0_123 q0 v7_17 v9_70 w0_123))) n0) room_1.cells room_1.slots (T_123.setTop (mkF m 123 #[.val (.long q0), .second, .val (.long q1), .second, .val (.long q2), .second, .val (.int p3), .val (.long v7_17), .second, .val (.long v9_70), .second, .val (.long (q0 &&& (9223372036854775807 : Int64))), .second, .val (.ref b1), .val (.long (F4 (q0 &&& (9223372036854775807 : Int64)) v9_70 v7_17)), .second, .val (.long (v7_17 - (v7_17 / (2 : Int64)))), .second, .unset, .unset, .unset] [(.int w0_123)])) := by
        intro w0_123 T_123 l_123 X_123 e_123 N_123
        unfold F0_123
        refine Go.of (fun t k => XS.istore X_123.here hx rfl (hb hby at_123) rfl (l' := #[.val (.long q0), .second, .val (.long q1), .second, .val (.long q2), .second, .val (.int p3), .val (.long v7_17), .second, .val (.long v9_70), .second, .val (.long (q0 &&& (9223372036854775807 : Int64))), .second, .val (.ref b1), .val (.long (F4 (q0 &&& (9223372036854775807 : Int64)) v9_70 v7_17)), .second, .val (.long (v7_17 - (v7_17 / (2 : Int64)))), .second, .val (.int w0_123), .unset, .unset]) rfl k) ?_
        show Go p e below s _ _ _ (T_123.setTop (mkF m 125 #[.val (.long q0), .second, .val (.long q1), .second, .val (.long q2), .second, .val (.int p3), .val (.long v7_17), .second, .val (.long v9_70), .second, .val (.long (q0 &&& (9223372036854775807 : Int64))), .second, .val (.ref b1), .val (.long (F4 (q0 &&& (9223372036854775807 : Int64)) v9_70 v7_17)), .second, .val (.long (v7_17 - (v7_17 / (2 : Int64)))), .second, .val (.int w0_123), .unset, .unset] []))
        refine Go.of (fun t k => XS.iload X_123.here hx rfl (hb hby at_125) rfl k) ?_
        show Go p e below s _ _ _ (T_123.setTop (mkF m 127 #[.val (.long q0), .second, .val (.long q1), .second, .val (.long q2), .second, .val (.int p3), .val (.long v7_17), .second, .val (.long v9_70), .second, .val (.long (q0 &&& (9223372036854775807 : Int64))), .second, .val (.ref b1), .val (.long (F4 (q0 &&& (9223372036854775807 : Int64)) v9_70 v7_17)), .second, .val (.long (v7_17 - (v7_17 / (2 : Int64)))), .second, .val (.int w0_123), .unset, .unset] [(.int w0_123)]))
        have jn139 : ∀ (w0_139 : Int64) (T_139 : State) (l_139 : List Loc) (X_139 : Stand p l e room_1 s m #[(.long q0), (.long q1), (.long q2), (.int p3)] below meth c T_139 l_139 1 3) (e_139 : T_139.heap = T5.heap) (N_139 : Fr n0 l_139), Go p e below s (QL (some (.int (F0_139 q0 v7_17 v9_70 w0_139))) n0) room_1.cells room_1.slots (T_139.setTop (mkF m 139 #[.val (.long q0), .second, .val (.long q1), .second, .val (.long q2), .second, .val (.int p3), .val (.long v7_17), .second, .val (.long v9_70), .second, .val (.long (q0 &&& (9223372036854775807 : Int64))), .second, .val (.ref b1), .val (.long (F4 (q0 &&& (9223372036854775807 : Int64)) v9_70 v7_17)), .second, .val (.long (v7_17 - (v7_17 / (2 : Int64)))), .second, .val (.int w0_123), .unset, .unset] [(.long w0_139)])) := by
          intro w0_139 T_139 l_139 X_139 e_139 N_139
          unfold F0_139
          refine Go.of (fun t k => XS.lstore X_139.here hx rfl (hb hby at_139) rfl (l' := #[.val (.long q0), .second, .val (.long q1), .second, .val (.long q2), .second, .val (.int p3), .val (.long v7_17), .second, .val (.long v9_70), .second, .val (.long (q0 &&& (9223372036854775807 : Int64))), .second, .val (.ref b1), .val (.long (F4 (q0 &&& (9223372036854775807 : Int64)) v9_70 v7_17)), .second, .val (.long (v7_17 - (v7_17 / (2 : Int64)))), .second, .val (.int w0_123), .val (.long w0_139), .second]) rfl k) ?_
          show Go p e below s _ _ _ (T_139.setTop (mkF m 141 #[.val (.long q0), .second, .val (.long q1), .second, .val (.long q2), .second, .val (.int p3), .val (.long v7_17), .second, .val (.long v9_70), .second, .val (.long (q0 &&& (9223372036854775807 : Int64))), .second, .val (.ref b1), .val (.long (F4 (q0 &&& (9223372036854775807 : Int64)) v9_70 v7_17)), .second, .val (.long (v7_17 - (v7_17 / (2 : Int64)))), .second, .val (.int w0_123), .val (.long w0_139), .second] []))
          refine Go.of (fun t k => XS.lload X_139.here hx rfl (hb hby at_141) rfl k) ?_
          show Go p e below s _ _ _ (T_139.setTop (mkF m 143 #[.val (.long q0), .second, .val (.long q1), .second, .val (.long q2), .second, .val (.int p3), .val (.long v7_17), .second, .val (.long v9_70), .second, .val (.long (q0 &&& (9223372036854775807 : Int64))), .second, .val (.ref b1), .val (.long (F4 (q0 &&& (9223372036854775807 : Int64)) v9_70 v7_17)), .second, .val (.long (v7_17 - (v7_17 / (2 : Int64)))), .second, .val (.int w0_123), .val (.long w0_139), .second] [(.long (F4 (q0 &&& (9223372036854775807 : Int64)) v9_70 v7_17))]))
          refine Go.of (fun t k => XS.lload X_139.here hx rfl (hb hby at_143) rfl k) ?_
          show Go p e below s _ _ _ (T_139.setTop (mkF m 145 #[.val (.long q0), .second, .val (.long q1), .second, .val (.long q2), .second, .val (.int p3), .val (.long v7_17), .second, .val (.long v9_70), .second, .val (.long (q0 &&& (9223372036854775807 : Int64))), .second, .val (.ref b1), .val (.long (F4 (q0 &&& (9223372036854775807 : Int64)) v9_70 v7_17)), .second, .val (.long (v7_17 - (v7_17 / (2 : Int64)))), .second, .val (.int w0_123), .val (.long w0_139), .second] [(.long w0_139), (.long (F4 (q0 &&& (9223372036854775807 : Int64)) v9_70 v7_17))]))
          refine Go.of (fun t k => XS.lcmp X_139.here hx rfl (hb hby at_145) rfl k) ?_
          show Go p e below s _ _ _ (T_139.setTop (mkF m 146 #[.val (.long q0), .second, .val (.long q1), .second, .val (.long q2), .second, .val (.int p3), .val (.long v7_17), .second, .val (.long v9_70), .second, .val (.long (q0 &&& (9223372036854775807 : Int64))), .second, .val (.ref b1), .val (.long (F4 (q0 &&& (9223372036854775807 : Int64)) v9_70 v7_17)), .second, .val (.long (v7_17 - (v7_17 / (2 : Int64)))), .second, .val (.int w0_123), .val (.long w0_139), .second] [(.int (lcmpW (F4 (q0 &&& (9223372036854775807 : Int64)) v9_70 v7_17) w0_139))]))
          by_cases hc146_11 : (F4 (q0 &&& (9223372036854775807 : Int64)) v9_70 v7_17) = w0_139
          · rewrite [if_pos hc146_11]
            refine Go.of (fun t k => XS.ifNo X_139.here hx rfl (hb hby at_146) rfl ((if0 _ _).trans (teq ((lw_eq (F4 (q0 &&& (9223372036854775807 : Int64)) v9_70 v7_17) w0_139).mpr hc146_11)).2) k) ?_
            show Go p e below s _ _ _ (T_139.setTop (mkF m 149 #[.val (.long q0), .second, .val (.long q1), .second, .val (.long q2), .second, .val (.int p3), .val (.long v7_17), .second, .val (.long v9_70), .second, .val (.long (q0 &&& (9223372036854775807 : Int64))), .second, .val (.ref b1), .val (.long (F4 (q0 &&& (9223372036854775807 : Int64)) v9_70 v7_17)), .second, .val (.long (v7_17 - (v7_17 / (2 : Int64)))), .second, .val (.int w0_123), .val (.long w0_139), .second] []))
            refine Go.of (fun t k => XS.iconst X_139.here hx rfl (hb hby at_149) k) ?_
            show Go p e below s _ _ _ (T_139.setTop (mkF m 150 #[.val (.long q0), .second, .val (.long q1), .second, .val (.long q2), .second, .val (.int p3), .val (.long v7_17), .second, .val (.long v9_70), .second, .val (.long (q0 &&& (9223372036854775807 : Int64))), .second, .val (.ref b1), .val (.long (F4 (q0 &&& (9223372036854775807 : Int64)) v9_70 v7_17)), .second, .val (.long (v7_17 - (v7_17 / (2 : Int64)))), .second, .val (.int w0_123), .val (.long w0_139), .second] [(.int (1 : Int32))]))
            refine Go.of (fun t k => XS.goto X_139.here hx rfl (pc0 := 150) (pc' := 154) rfl (hb hby at_150) (by decide) (by decide) k) ?_
            show Go p e below s _ _ _ (T_139.setTop (mkF m 154 #[.val (.long q0), .second, .val (.long q1), .second, .val (.long q2), .second, .val (.int p3), .val (.long v7_17), .second, .val (.long v9_70), .second, .val (.long (q0 &&& (9223372036854775807 : Int64))), .second, .val (.ref b1), .val (.long (F4 (q0 &&& (9223372036854775807 : Int64)) v9_70 v7_17)), .second, .val (.long (v7_17 - (v7_17 / (2 : Int64)))), .second, .val (.int w0_123), .val (.long w0_139), .second] [(.int (1 : Int32))]))
            exact Go.ret X_139 (some (.int (1 : Int32))) (fun h => by rw [Bd.returns] at h; cases h) hlk ⟨rfl, N_139⟩ (by decide) (by decide) (fun fs hr => (retN X_139 hx (t := .boolean) Bd.returns (by simp) (hb hby at_154) hr))
          · rewrite [if_neg hc146_11]
            refine Go.of (fun t k => XS.ifYes X_139.here hx rfl (pc0 := 146) (pc' := 153) rfl (hb hby at_146) rfl ((if0 _ _).trans (feq (mt (lw_eq (F4 (q0 &&& (9223372036854775807 : Int64)) v9_70 v7_17) w0_139).mp hc146_11)).2) (by decide) (by decide) k) ?_
            show Go p e below s _ _ _ (T_139.setTop (mkF m 153 #[.val (.long q0), .second, .val (.long q1), .second, .val (.long q2), .second, .val (.int p3), .val (.long v7_17), .second, .val (.long v9_70), .second, .val (.long (q0 &&& (9223372036854775807 : Int64))), .second, .val (.ref b1), .val (.long (F4 (q0 &&& (9223372036854775807 : Int64)) v9_70 v7_17)), .second, .val (.long (v7_17 - (v7_17 / (2 : Int64)))), .second, .val (.int w0_123), .val (.long w0_139), .second] []))
            refine Go.of (fun t k => XS.iconst X_139.here hx rfl (hb hby at_153) k) ?_
            show Go p e below s _ _ _ (T_139.setTop (mkF m 154 #[.val (.long q0), .second, .val (.long q1), .second, .val (.long q2), .second, .val (.int p3), .val (.long v7_17), .second, .val (.long v9_70), .second, .val (.long (q0 &&& (9223372036854775807 : Int64))), .second, .val (.ref b1), .val (.long (F4 (q0 &&& (9223372036854775807 : Int64)) v9_70 v7_17)), .second, .val (.long (v7_17 - (v7_17 / (2 : Int64)))), .second, .val (.int w0_123), .val (.long w0_139), .second] [(.int (0 : Int32))]))
            exact Go.ret X_139 (some (.int (0 : Int32))) (fun h => by rw [Bd.returns] at h; cases h) hlk ⟨rfl, N_139⟩ (by decide) (by decide) (fun fs hr => (retN X_139 hx (t := .boolean) Bd.returns (by simp) (hb hby at_154) hr))
        by_cases hc127_12 : w0_123 = (0 : Int32)
        · rewrite [if_pos hc127_12]
          refine Go.of (fun t k => XS.ifYes X_123.here hx rfl (pc0 := 127) (pc' := 137) rfl (hb hby at_127) rfl ((if0 _ _).trans (teq hc127_12).1) (by decide) (by decide) k) ?_
          show Go p e below s _ _ _ (T_123.setTop (mkF m 137 #[.val (.long q0), .second, .val (.long q1), .second, .val (.long q2), .second, .val (.int p3), .val (.long v7_17), .second, .val (.long v9_70), .second, .val (.long (q0 &&& (9223372036854775807 : Int64))), .second, .val (.ref b1), .val (.long (F4 (q0 &&& (9223372036854775807 : Int64)) v9_70 v7_17)), .second, .val (.long (v7_17 - (v7_17 / (2 : Int64)))), .second, .val (.int w0_123), .unset, .unset] []))
          refine Go.of (fun t k => XS.lload X_123.here hx rfl (hb hby at_137) rfl k) ?_
          show Go p e below s _ _ _ (T_123.setTop (mkF m 139 #[.val (.long q0), .second, .val (.long q1), .second, .val (.long q2), .second, .val (.int p3), .val (.long v7_17), .second, .val (.long v9_70), .second, .val (.long (q0 &&& (9223372036854775807 : Int64))), .second, .val (.ref b1), .val (.long (F4 (q0 &&& (9223372036854775807 : Int64)) v9_70 v7_17)), .second, .val (.long (v7_17 - (v7_17 / (2 : Int64)))), .second, .val (.int w0_123), .unset, .unset] [(.long (q0 &&& (9223372036854775807 : Int64)))]))
          exact jn139 (q0 &&& (9223372036854775807 : Int64))  T_123 _ X_123 e_123 N_123  
        · rewrite [if_neg hc127_12]
          refine Go.of (fun t k => XS.ifNo X_123.here hx rfl (hb hby at_127) rfl ((if0 _ _).trans (feq hc127_12).1) k) ?_
          show Go p e below s _ _ _ (T_123.setTop (mkF m 130 #[.val (.long q0), .second, .val (.long q1), .second, .val (.long q2), .second, .val (.int p3), .val (.long v7_17), .second, .val (.long v9_70), .second, .val (.long (q0 &&& (9223372036854775807 : Int64))), .second, .val (.ref b1), .val (.long (F4 (q0 &&& (9223372036854775807 : Int64)) v9_70 v7_17)), .second, .val (.long (v7_17 - (v7_17 / (2 : Int64)))), .second, .val (.int w0_123), .unset, .unset] []))
          refine Go.of (fun t k => XS.lload X_123.here hx rfl (hb hby at_130) rfl k) ?_
          show Go p e below s _ _ _ (T_123.setTop (mkF m 132 #[.val (.long q0), .second, .val (.long q1), .second, .val (.long q2), .second, .val (.int p3), .val (.long v7_17), .second, .val (.long v9_70), .second, .val (.long (q0 &&& (9223372036854775807 : Int64))), .second, .val (.ref b1), .val (.long (F4 (q0 &&& (9223372036854775807 : Int64)) v9_70 v7_17)), .second, .val (.long (v7_17 - (v7_17 / (2 : Int64)))), .second, .val (.int w0_123), .unset, .unset] [(.long (q0 &&& (9223372036854775807 : Int64)))]))
          refine Go.of (fun t k => XS.lconst X_123.here hx rfl (hb hby at_132) k) ?_
          show Go p e below s _ _ _ (T_123.setTop (mkF m 133 #[.val (.long q0), .second, .val (.long q1), .second, .val (.long q2), .second, .val (.int p3), .val (.long v7_17), .second, .val (.long v9_70), .second, .val (.long (q0 &&& (9223372036854775807 : Int64))), .second, .val (.ref b1), .val (.long (F4 (q0 &&& (9223372036854775807 : Int64)) v9_70 v7_17)), .second, .val (.long (v7_17 - (v7_17 / (2 : Int64)))), .second, .val (.int w0_123), .unset, .unset] [(.long (1 : Int64)), (.long (q0 &&& (9223372036854775807 : Int64)))]))
          refine Go.of (fun t k => XS.ladd X_123.here hx rfl (hb hby at_133) rfl k) ?_
          show Go p e below s _ _ _ (T_123.setTop (mkF m 134 #[.val (.long q0), .second, .val (.long q1), .second, .val (.long q2), .second, .val (.int p3), .val (.long v7_17), .second, .val (.long v9_70), .second, .val (.long (q0 &&& (9223372036854775807 : Int64))), .second, .val (.ref b1), .val (.long (F4 (q0 &&& (9223372036854775807 : Int64)) v9_70 v7_17)), .second, .val (.long (v7_17 - (v7_17 / (2 : Int64)))), .second, .val (.int w0_123), .unset, .unset] [(.long ((q0 &&& (9223372036854775807 : Int64)) + (1 : Int64)))]))
          refine Go.of (fun t k => XS.goto X_123.here hx rfl (pc0 := 134) (pc' := 139) rfl (hb hby at_134) (by decide) (by decide) k) ?_
          show Go p e below s _ _ _ (T_123.setTop (mkF m 139 #[.val (.long q0), .second, .val (.long q1), .second, .val (.long q2), .second, .val (.int p3), .val (.long v7_17), .second, .val (.long v9_70), .second, .val (.long (q0 &&& (9223372036854775807 : Int64))), .second, .val (.ref b1), .val (.long (F4 (q0 &&& (9223372036854775807 : Int64)) v9_70 v7_17)), .second, .val (.long (v7_17 - (v7_17 / (2 : Int64)))), .second, .val (.int w0_123), .unset, .unset] [(.long ((q0 &&& (9223372036854775807 : Int64)) + (1 : Int64)))]))
          exact jn139 ((q0 &&& (9223372036854775807 : Int64)) + (1 : Int64))  T_123 _ X_123 e_123 N_123  
      by_cases hc115_13 : v9_70 < (v7_17 - (v7_17 / (2 : Int64)))
      · rewrite [if_pos hc115_13]
        refine Go.of (fun t k => XS.ifYes X10.here hx rfl (pc0 := 115) (pc' := 122) rfl (hb hby at_115) rfl ((if0 _ _).trans (tlt ((lw_lt v9_70 (v7_17 - (v7_17 / (2 : Int64)))).mpr hc115_13)).1) (by decide) (by decide) k) ?_
        show Go p e below s _ _ _ (T10.setTop (mkF m 122 #[.val (.long q0), .second, .val (.long q1), .second, .val (.long q2), .second, .val (.int p3), .val (.long v7_17), .second, .val (.long v9_70), .second, .val (.long (q0 &&& (9223372036854775807 : Int64))), .second, .val (.ref b1), .val (.long (F4 (q0 &&& (9223372036854775807 : Int64)) v9_70 v7_17)), .second, .val (.long (v7_17 - (v7_17 / (2 : Int64)))), .second, .unset, .unset, .unset] []))
        refine Go.of (fun t k => XS.iconst X10.here hx rfl (hb hby at_122) k) ?_
        show Go p e below s _ _ _ (T10.setTop (mkF m 123 #[.val (.long q0), .second, .val (.long q1), .second, .val (.long q2), .second, .val (.int p3), .val (.long v7_17), .second, .val (.long v9_70), .second, .val (.long (q0 &&& (9223372036854775807 : Int64))), .second, .val (.ref b1), .val (.long (F4 (q0 &&& (9223372036854775807 : Int64)) v9_70 v7_17)), .second, .val (.long (v7_17 - (v7_17 / (2 : Int64)))), .second, .unset, .unset, .unset] [(.int (0 : Int32))]))
        exact jn123 (0 : Int32)  T10 _ X10 e10 N10  
      · rewrite [if_neg hc115_13]
        refine Go.of (fun t k => XS.ifNo X10.here hx rfl (hb hby at_115) rfl ((if0 _ _).trans (flt (mt (lw_lt v9_70 (v7_17 - (v7_17 / (2 : Int64)))).mp hc115_13)).1) k) ?_
        show Go p e below s _ _ _ (T10.setTop (mkF m 118 #[.val (.long q0), .second, .val (.long q1), .second, .val (.long q2), .second, .val (.int p3), .val (.long v7_17), .second, .val (.long v9_70), .second, .val (.long (q0 &&& (9223372036854775807 : Int64))), .second, .val (.ref b1), .val (.long (F4 (q0 &&& (9223372036854775807 : Int64)) v9_70 v7_17)), .second, .val (.long (v7_17 - (v7_17 / (2 : Int64)))), .second, .unset, .unset, .unset] []))
        refine Go.of (fun t k => XS.iconst X10.here hx rfl (hb hby at_118) k) ?_
        show Go p e below s _ _ _ (T10.setTop (mkF m 119 #[.val (.long q0), .second, .val (.long q1), .second, .val (.long q2), .second, .val (.int p3), .val (.long v7_17), .second, .val (.long v9_70), .second, .val (.long (q0 &&& (9223372036854775807 : Int64))), .second, .val (.ref b1), .val (.long (F4 (q0 &&& (9223372036854775807 : Int64)) v9_70 v7_17)), .second, .val (.long (v7_17 - (v7_17 / (2 : Int64)))), .second, .unset, .unset, .unset] [(.int (1 : Int32))]))
        refine Go.of (fun t k => XS.goto X10.here hx rfl (pc0 := 119) (pc' := 123) rfl (hb hby at_119) (by decide) (by decide) k) ?_
        show Go p e below s _ _ _ (T10.setTop (mkF m 123 #[.val (.long q0), .second, .val (.long q1), .second, .val (.long q2), .second, .val (.int p3), .val (.long v7_17), .second, .val (.long v9_70), .second, .val (.long (q0 &&& (9223372036854775807 : Int64))), .second, .val (.ref b1), .val (.long (F4 (q0 &&& (9223372036854775807 : Int64)) v9_70 v7_17)), .second, .val (.long (v7_17 - (v7_17 / (2 : Int64)))), .second, .unset, .unset, .unset] [(.int (1 : Int32))]))
        exact jn123 (1 : Int32)  T10 _ X10 e10 N10  
    have jn70a : ∀ (v9_70a : Int64) (T_70a : State) (l_70a : List Loc) (X_70a : Stand p l e room_1 s m #[(.long q0), (.long q1), (.long q2), (.int p3)] below meth c T_70a l_70a 0 0) (e_70a : T_70a.heap = h0) (N_70a : Fr n0 l_70a), Go p e below s (QL (some (.int (F0_70a q0 v7_17 v9_70a))) n0) room_1.cells room_1.slots (T_70a.setTop (mkF m 70 #[.val (.long q0), .second, .val (.long q1), .second, .val (.long q2), .second, .val (.int p3), .val (.long v7_17), .second, .val (.long v9_70a), .second, .unset, .unset, .unset, .unset, .unset, .unset, .unset, .unset, .unset, .unset] [])) := by
      intro v9_70a T_70a l_70a X_70a e_70a N_70a
      unfold F0_70a
      refine Go.of (fun t k => XS.lloadN X_70a.here hx rfl (hb hby at_70) rfl k) ?_
      show Go p e below s _ _ _ (T_70a.setTop (mkF m 71 #[.val (.long q0), .second, .val (.long q1), .second, .val (.long q2), .second, .val (.int p3), .val (.long v7_17), .second, .val (.long v9_70a), .second, .unset, .unset, .unset, .unset, .unset, .unset, .unset, .unset, .unset, .unset] [(.long q0)]))
      refine Go.of (X_70a.ldc2Long hx hown (mvT hZ (hw _ (List.mem_of_getElem? (i := 0) rfl))) (g := (mkF m 71 #[.val (.long q0), .second, .val (.long q1), .second, .val (.long q2), .second, .val (.int p3), .val (.long v7_17), .second, .val (.long v9_70a), .second, .unset, .unset, .unset, .unset, .unset, .unset, .unset, .unset, .unset, .unset] [(.long q0)])) rfl (hb hby at_71)) ?_
      show Go p e below s _ _ _ (T_70a.setTop (mkF m 74 #[.val (.long q0), .second, .val (.long q1), .second, .val (.long q2), .second, .val (.int p3), .val (.long v7_17), .second, .val (.long v9_70a), .second, .unset, .unset, .unset, .unset, .unset, .unset, .unset, .unset, .unset, .unset] [(.long (9223372036854775807 : Int64)), (.long q0)]))
      refine Go.of (fun t k => XS.land X_70a.here hx rfl (hb hby at_74) rfl k) ?_
      show Go p e below s _ _ _ (T_70a.setTop (mkF m 75 #[.val (.long q0), .second, .val (.long q1), .second, .val (.long q2), .second, .val (.int p3), .val (.long v7_17), .second, .val (.long v9_70a), .second, .unset, .unset, .unset, .unset, .unset, .unset, .unset, .unset, .unset, .unset] [(.long (q0 &&& (9223372036854775807 : Int64)))]))
      refine Go.of (fun t k => XS.lstore X_70a.here hx rfl (hb hby at_75) rfl (l' := #[.val (.long q0), .second, .val (.long q1), .second, .val (.long q2), .second, .val (.int p3), .val (.long v7_17), .second, .val (.long v9_70a), .second, .val (.long (q0 &&& (9223372036854775807 : Int64))), .second, .unset, .unset, .unset, .unset, .unset, .unset, .unset, .unset]) rfl k) ?_
      show Go p e below s _ _ _ (T_70a.setTop (mkF m 77 #[.val (.long q0), .second, .val (.long q1), .second, .val (.long q2), .second, .val (.int p3), .val (.long v7_17), .second, .val (.long v9_70a), .second, .val (.long (q0 &&& (9223372036854775807 : Int64))), .second, .unset, .unset, .unset, .unset, .unset, .unset, .unset, .unset] []))
      obtain ⟨T14, h14, X14, e14, E14, A14, D14, -, st14⟩ := newO X_70a hx hZ hown (hw _ (List.mem_of_getElem? (i := 1) rfl)) (hw _ (List.mem_of_getElem? (i := 2) rfl)) (hw _ (List.mem_of_getElem? (i := 3) rfl)) e_70a (g := (mkF m 77 #[.val (.long q0), .second, .val (.long q1), .second, .val (.long q2), .second, .val (.int p3), .val (.long v7_17), .second, .val (.long v9_70a), .second, .val (.long (q0 &&& (9223372036854775807 : Int64))), .second, .unset, .unset, .unset, .unset, .unset, .unset, .unset, .unset] [])) rfl (hb hby at_77) (by decide) (by decide)
      obtain ⟨b14, ga14⟩ : ∃ z, z = h0.size := ⟨_, rfl⟩
      rw [← ga14] at A14 D14 st14
      have g_b14 : n0 ≤ b14 := Nat.le_trans Z0 (Nat.le_of_eq ga14.symm)
      have sz_b14 : h0.size ≤ b14 := Nat.le_trans (Keep.refl h0 []).1 (Nat.le_of_eq ga14.symm)
      have f15 : Fld Z h14 b14 "com/example/prorata/prorata/Quotient" "floor" "J" (.long (0 : Int64)) := D14 (Or.inr (hw _ (List.mem_of_getElem? (i := 16) rfl))) (ty := .long) (by decide)
      have f16 : Fld Z h14 b14 "com/example/prorata/prorata/Quotient" "remainder" "J" (.long (0 : Int64)) := D14 (Or.inr (hw _ (List.mem_of_getElem? (i := 18) rfl))) (ty := .long) (by decide)
      have f17 : Fld Z h14 b14 "com/example/prorata/prorata/Quotient" "divisor" "J" (.long (0 : Int64)) := D14 (Or.inr (hw _ (List.mem_of_getElem? (i := 20) rfl))) (ty := .long) (by decide)
      have K14 : Keep h0 h14 [] := Keep.ext (Keep.refl h0 []) E14
      refine Go.of st14 ?_
      show Go p e below s _ _ _ (T14.setTop (mkF m 80 #[.val (.long q0), .second, .val (.long q1), .second, .val (.long q2), .second, .val (.int p3), .val (.long v7_17), .second, .val (.long v9_70a), .second, .val (.long (q0 &&& (9223372036854775807 : Int64))), .second, .unset, .unset, .unset, .unset, .unset, .unset, .unset, .unset] [(.ref b14)]))
      refine Go.of (fun t k => XS.dup X14.here hx rfl (hb hby at_80) rfl rfl k) ?_
      show Go p e below s _ _ _ (T14.setTop (mkF m 81 #[.val (.long q0), .second, .val (.long q1), .second, .val (.long q2), .second, .val (.int p3), .val (.long v7_17), .second, .val (.long v9_70a), .second, .val (.long (q0 &&& (9223372036854775807 : Int64))), .second, .unset, .unset, .unset, .unset, .unset, .unset, .unset, .unset] [(.ref b14), (.ref b14)]))
      refine Go.of (fun t k => XS.lload X14.here hx rfl (hb hby at_81) rfl k) ?_
      show Go p e below s _ _ _ (T14.setTop (mkF m 83 #[.val (.long q0), .second, .val (.long q1), .second, .val (.long q2), .second, .val (.int p3), .val (.long v7_17), .second, .val (.long v9_70a), .second, .val (.long (q0 &&& (9223372036854775807 : Int64))), .second, .unset, .unset, .unset, .unset, .unset, .unset, .unset, .unset] [(.long (q0 &&& (9223372036854775807 : Int64))), (.ref b14), (.ref b14)]))
      refine Go.of (fun t k => XS.lload X14.here hx rfl (hb hby at_83) rfl k) ?_
      show Go p e below s _ _ _ (T14.setTop (mkF m 85 #[.val (.long q0), .second, .val (.long q1), .second, .val (.long q2), .second, .val (.int p3), .val (.long v7_17), .second, .val (.long v9_70a), .second, .val (.long (q0 &&& (9223372036854775807 : Int64))), .second, .unset, .unset, .unset, .unset, .unset, .unset, .unset, .unset] [(.long v9_70a), (.long (q0 &&& (9223372036854775807 : Int64))), (.ref b14), (.ref b14)]))
      refine Go.of (fun t k => XS.lload X14.here hx rfl (hb hby at_85) rfl k) ?_
      show Go p e below s _ _ _ (T14.setTop (mkF m 87 #[.val (.long q0), .second, .val (.long q1), .second, .val (.long q2), .second, .val (.int p3), .val (.long v7_17), .second, .val (.long v9_70a), .second, .val (.long (q0 &&& (9223372036854775807 : Int64))), .second, .unset, .unset, .unset, .unset, .unset, .unset, .unset, .unset] [(.long v7_17), (.long v9_70a), (.long (q0 &&& (9223372036854775807 : Int64))), (.ref b14), (.ref b14)]))
      obtain ⟨_, _, ⟨T18, L18, k18, n18⟩, -, X18, ⟨Lc18, hQ18, l18, y18, z18⟩, st18⟩ := X14.specialBack hx (y := (⟨"com/example/prorata/prorata/Quotient", "<init>", "(JJJ)V"⟩ : MethodName)) rfl hown (mvT hZ (hw _ (List.mem_of_getElem? (i := 4) rfl))) (mvT hZ (hw _ (List.mem_of_getElem? (i := 5) rfl))) (mvT hZ (hw _ (List.mem_of_getElem? (i := 6) rfl))) (by decide) (backOf (W := 1) (rm1 l Z az hw [] b14 (q0 &&& (9223372036854775807 : Int64)) v9_70a v7_17 (.long (0 : Int64)) (.long (0 : Int64)) (.long (0 : Int64)) h14 n0 (Nat.le_trans Z0 K14.1) A14 f15 f16 f17 g_b14) hZ (hw _ (List.mem_of_getElem? (i := 6) rfl)) (hw _ (List.mem_of_getElem? (i := 3) rfl)) (by decide) (by decide)) (g := (mkF m 87 #[.val (.long q0), .second, .val (.long q1), .second, .val (.long q2), .second, .val (.int p3), .val (.long v7_17), .second, .val (.long v9_70a), .second, .val (.long (q0 &&& (9223372036854775807 : Int64))), .second, .unset, .unset, .unset, .unset, .unset, .unset, .unset, .unset] [(.long v7_17), (.long v9_70a), (.long (q0 &&& (9223372036854775807 : Int64))), (.ref b14), (.ref b14)])) rfl (by rw [hml]; rfl) (Steps.refl _) (a := b14) (argsL := [(.long (q0 &&& (9223372036854775807 : Int64))), (.long v9_70a), (.long v7_17)]) (rest := [(.ref b14)]) (lenOf own_pd1 rfl) rfl (by show 2 * 0 + _ ≤ _; exact Nat.le_of_eq rfl) (hb hby at_87) (fun _ _ => ⟨rfl, e14, (by decide : 1 + 0 ≤ _), (by decide : 3 + 0 ≤ _)⟩)
      dsimp only [Pt.U, Pt.locs, Pt.cells, Pt.slots] at X18 l18 y18 z18 st18 hQ18
      subst l18 y18 z18
      obtain ⟨rfl, N18q, Kq18, f19, f20, f21, f22⟩ := hQ18
      have N18 := Fr.app N_70a N18q
      have K18 : Keep h0 T18.heap [] := Keep.trans K14 Kq18 (allS (Or.inr sz_b14) all0)
      refine Go.of (fun t k => st18.trans k) ?_
      show Go p e below s _ _ _ (T18.setTop (mkF m 90 #[.val (.long q0), .second, .val (.long q1), .second, .val (.long q2), .second, .val (.int p3), .val (.long v7_17), .second, .val (.long v9_70a), .second, .val (.long (q0 &&& (9223372036854775807 : Int64))), .second, .unset, .unset, .unset, .unset, .unset, .unset, .unset, .unset] [(.ref b14)]))
      refine Go.of (fun t k => XS.astore X18.here hx rfl (hb hby at_90) rfl rfl (l' := #[.val (.long q0), .second, .val (.long q1), .second, .val (.long q2), .second, .val (.int p3), .val (.long v7_17), .second, .val (.long v9_70a), .second, .val (.long (q0 &&& (9223372036854775807 : Int64))), .second, .val (.ref b14), .unset, .unset, .unset, .unset, .unset, .unset, .unset]) rfl k) ?_
      show Go p e below s _ _ _ (T18.setTop (mkF m 92 #[.val (.long q0), .second, .val (.long q1), .second, .val (.long q2), .second, .val (.int p3), .val (.long v7_17), .second, .val (.long v9_70a), .second, .val (.long (q0 &&& (9223372036854775807 : Int64))), .second, .val (.ref b14), .unset, .unset, .unset, .unset, .unset, .unset, .unset] []))
      refine Go.of (fun t k => XS.aload X18.here hx rfl (hb hby at_92) rfl rfl k) ?_
      show Go p e below s _ _ _ (T18.setTop (mkF m 94 #[.val (.long q0), .second, .val (.long q1), .second, .val (.long q2), .second, .val (.int p3), .val (.long v7_17), .second, .val (.long v9_70a), .second, .val (.long (q0 &&& (9223372036854775807 : Int64))), .second, .val (.ref b14), .unset, .unset, .unset, .unset, .unset, .unset, .unset] [(.ref b14)]))
      obtain ⟨cq23, kq23, q23a, q23b, q23c⟩ := isOf hZ rfl f19
      obtain ⟨_, _, ⟨T23, L23, k23, n23⟩, -, X23, ⟨Lc23, hQ23, l23, y23, z23⟩, st23⟩ := X18.virtualBack hx (y := (⟨"com/example/prorata/prorata/Quotient", "roundedHalfUp", "()J"⟩ : MethodName)) (z := (⟨"com/example/prorata/prorata/Quotient", "roundedHalfUp", "()J"⟩ : MethodName)) hown (mvT hZ (hw _ (List.mem_of_getElem? (i := 21) rfl))) (mvT hZ (hw _ (List.mem_of_getElem? (i := 22) rfl))) (notFace_of_selects (args := #[]) (mvT hZ (hw _ (List.mem_of_getElem? (i := 24) rfl)))) (mvT hZ (hw _ (List.mem_of_getElem? (i := 24) rfl))) (mvT hZ (hw _ (List.mem_of_getElem? (i := 23) rfl))) (by decide) (backOf (W := 0) (rm4 l Z az hw [] b14 (q0 &&& (9223372036854775807 : Int64)) v9_70a v7_17 T18.heap n0 (Nat.le_trans Z0 K18.1) f20 f21 f22) hZ (hw _ (List.mem_of_getElem? (i := 25) rfl)) (hw _ (List.mem_of_getElem? (i := 3) rfl)) (by decide) (by decide)) q23a q23c (g := (mkF m 94 #[.val (.long q0), .second, .val (.long q1), .second, .val (.long q2), .second, .val (.int p3), .val (.long v7_17), .second, .val (.long v9_70a), .second, .val (.long (q0 &&& (9223372036854775807 : Int64))), .second, .val (.ref b14), .unset, .unset, .unset, .unset, .unset, .unset, .unset] [(.ref b14)])) rfl (by rw [hml]; rfl) (Steps.refl _) (argsL := []) (rest := []) (lenOf own_pd2 rfl) rfl (by show 2 * 0 + _ ≤ _; exact Nat.le_of_eq rfl) (hb hby at_94) (fun _ _ => ⟨rfl, rfl, (by decide : 1 + 0 ≤ _), (by decide : 3 + 0 ≤ _)⟩)
      dsimp only [Pt.U, Pt.locs, Pt.cells, Pt.slots] at X23 l23 y23 z23 st23 hQ23
      subst l23 y23 z23
      obtain ⟨rfl, N23q, e23⟩ := hQ23
      have N23 := Fr.app N18 N23q
      refine Go.of (fun t k => st23.trans k) ?_
      show Go p e below s _ _ _ (T23.setTop (mkF m 97 #[.val (.long q0), .second, .val (.long q1), .second, .val (.long q2), .second, .val (.int p3), .val (.long v7_17), .second, .val (.long v9_70a), .second, .val (.long (q0 &&& (9223372036854775807 : Int64))), .second, .val (.ref b14), .unset, .unset, .unset, .unset, .unset, .unset, .unset] [(.long (F4 (q0 &&& (9223372036854775807 : Int64)) v9_70a v7_17))]))
      refine Go.of (fun t k => XS.lstore X23.here hx rfl (hb hby at_97) rfl (l' := #[.val (.long q0), .second, .val (.long q1), .second, .val (.long q2), .second, .val (.int p3), .val (.long v7_17), .second, .val (.long v9_70a), .second, .val (.long (q0 &&& (9223372036854775807 : Int64))), .second, .val (.ref b14), .val (.long (F4 (q0 &&& (9223372036854775807 : Int64)) v9_70a v7_17)), .second, .unset, .unset, .unset, .unset, .unset]) rfl k) ?_
      show Go p e below s _ _ _ (T23.setTop (mkF m 99 #[.val (.long q0), .second, .val (.long q1), .second, .val (.long q2), .second, .val (.int p3), .val (.long v7_17), .second, .val (.long v9_70a), .second, .val (.long (q0 &&& (9223372036854775807 : Int64))), .second, .val (.ref b14), .val (.long (F4 (q0 &&& (9223372036854775807 : Int64)) v9_70a v7_17)), .second, .unset, .unset, .unset, .unset, .unset] []))
      refine Go.of (fun t k => XS.lload X23.here hx rfl (hb hby at_99) rfl k) ?_
      show Go p e below s _ _ _ (T23.setTop (mkF m 101 #[.val (.long q0), .second, .val (.long q1), .second, .val (.long q2), .second, .val (.int p3), .val (.long v7_17), .second, .val (.long v9_70a), .second, .val (.long (q0 &&& (9223372036854775807 : Int64))), .second, .val (.ref b14), .val (.long (F4 (q0 &&& (9223372036854775807 : Int64)) v9_70a v7_17)), .second, .unset, .unset, .unset, .unset, .unset] [(.long v7_17)]))
      refine Go.of (fun t k => XS.lload X23.here hx rfl (hb hby at_101) rfl k) ?_
      show Go p e below s _ _ _ (T23.setTop (mkF m 103 #[.val (.long q0), .second, .val (.long q1), .second, .val (.long q2), .second, .val (.int p3), .val (.long v7_17), .second, .val (.long v9_70a), .second, .val (.long (q0 &&& (9223372036854775807 : Int64))), .second, .val (.ref b14), .val (.long (F4 (q0 &&& (9223372036854775807 : Int64)) v9_70a v7_17)), .second, .unset, .unset, .unset, .unset, .unset] [(.long v7_17), (.long v7_17)]))
      refine Go.of (X23.ldc2Long hx hown (mvT hZ (hw _ (List.mem_of_getElem? (i := 26) rfl))) (g := (mkF m 103 #[.val (.long q0), .second, .val (.long q1), .second, .val (.long q2), .second, .val (.int p3), .val (.long v7_17), .second, .val (.long v9_70a), .second, .val (.long (q0 &&& (9223372036854775807 : Int64))), .second, .val (.ref b14), .val (.long (F4 (q0 &&& (9223372036854775807 : Int64)) v9_70a v7_17)), .second, .unset, .unset, .unset, .unset, .unset] [(.long v7_17), (.long v7_17)])) rfl (hb hby at_103)) ?_
      show Go p e below s _ _ _ (T23.setTop (mkF m 106 #[.val (.long q0), .second, .val (.long q1), .second, .val (.long q2), .second, .val (.int p3), .val (.long v7_17), .second, .val (.long v9_70a), .second, .val (.long (q0 &&& (9223372036854775807 : Int64))), .second, .val (.ref b14), .val (.long (F4 (q0 &&& (9223372036854775807 : Int64)) v9_70a v7_17)), .second, .unset, .unset, .unset, .unset, .unset] [(.long (2 : Int64)), (.long v7_17), (.long v7_17)]))
      refine Go.of (fun t k => XS.ldiv X23.here hx rfl (hb hby at_106) rfl (by decide) k) ?_
      show Go p e below s _ _ _ (T23.setTop (mkF m 107 #[.val (.long q0), .second, .val (.long q1), .second, .val (.long q2), .second, .val (.int p3), .val (.long v7_17), .second, .val (.long v9_70a), .second, .val (.long (q0 &&& (9223372036854775807 : Int64))), .second, .val (.ref b14), .val (.long (F4 (q0 &&& (9223372036854775807 : Int64)) v9_70a v7_17)), .second, .unset, .unset, .unset, .unset, .unset] [(.long (v7_17 / (2 : Int64))), (.long v7_17)]))
      refine Go.of (fun t k => XS.lsub X23.here hx rfl (hb hby at_107) rfl k) ?_
      show Go p e below s _ _ _ (T23.setTop (mkF m 108 #[.val (.long q0), .second, .val (.long q1), .second, .val (.long q2), .second, .val (.int p3), .val (.long v7_17), .second, .val (.long v9_70a), .second, .val (.long (q0 &&& (9223372036854775807 : Int64))), .second, .val (.ref b14), .val (.long (F4 (q0 &&& (9223372036854775807 : Int64)) v9_70a v7_17)), .second, .unset, .unset, .unset, .unset, .unset] [(.long (v7_17 - (v7_17 / (2 : Int64))))]))
      refine Go.of (fun t k => XS.lstore X23.here hx rfl (hb hby at_108) rfl (l' := #[.val (.long q0), .second, .val (.long q1), .second, .val (.long q2), .second, .val (.int p3), .val (.long v7_17), .second, .val (.long v9_70a), .second, .val (.long (q0 &&& (9223372036854775807 : Int64))), .second, .val (.ref b14), .val (.long (F4 (q0 &&& (9223372036854775807 : Int64)) v9_70a v7_17)), .second, .val (.long (v7_17 - (v7_17 / (2 : Int64)))), .second, .unset, .unset, .unset]) rfl k) ?_
      show Go p e below s _ _ _ (T23.setTop (mkF m 110 #[.val (.long q0), .second, .val (.long q1), .second, .val (.long q2), .second, .val (.int p3), .val (.long v7_17), .second, .val (.long v9_70a), .second, .val (.long (q0 &&& (9223372036854775807 : Int64))), .second, .val (.ref b14), .val (.long (F4 (q0 &&& (9223372036854775807 : Int64)) v9_70a v7_17)), .second, .val (.long (v7_17 - (v7_17 / (2 : Int64)))), .second, .unset, .unset, .unset] []))
      refine Go.of (fun t k => XS.lload X23.here hx rfl (hb hby at_110) rfl k) ?_
      show Go p e below s _ _ _ (T23.setTop (mkF m 112 #[.val (.long q0), .second, .val (.long q1), .second, .val (.long q2), .second, .val (.int p3), .val (.long v7_17), .second, .val (.long v9_70a), .second, .val (.long (q0 &&& (9223372036854775807 : Int64))), .second, .val (.ref b14), .val (.long (F4 (q0 &&& (9223372036854775807 : Int64)) v9_70a v7_17)), .second, .val (.long (v7_17 - (v7_17 / (2 : Int64)))), .second, .unset, .unset, .unset] [(.long v9_70a)]))
      refine Go.of (fun t k => XS.lload X23.here hx rfl (hb hby at_112) rfl k) ?_
      show Go p e below s _ _ _ (T23.setTop (mkF m 114 #[.val (.long q0), .second, .val (.long q1), .second, .val (.long q2), .second, .val (.int p3), .val (.long v7_17), .second, .val (.long v9_70a), .second, .val (.long (q0 &&& (9223372036854775807 : Int64))), .second, .val (.ref b14), .val (.long (F4 (q0 &&& (9223372036854775807 : Int64)) v9_70a v7_17)), .second, .val (.long (v7_17 - (v7_17 / (2 : Int64)))), .second, .unset, .unset, .unset] [(.long (v7_17 - (v7_17 / (2 : Int64)))), (.long v9_70a)]))
      refine Go.of (fun t k => XS.lcmp X23.here hx rfl (hb hby at_114) rfl k) ?_
      show Go p e below s _ _ _ (T23.setTop (mkF m 115 #[.val (.long q0), .second, .val (.long q1), .second, .val (.long q2), .second, .val (.int p3), .val (.long v7_17), .second, .val (.long v9_70a), .second, .val (.long (q0 &&& (9223372036854775807 : Int64))), .second, .val (.ref b14), .val (.long (F4 (q0 &&& (9223372036854775807 : Int64)) v9_70a v7_17)), .second, .val (.long (v7_17 - (v7_17 / (2 : Int64)))), .second, .unset, .unset, .unset] [(.int (lcmpW v9_70a (v7_17 - (v7_17 / (2 : Int64)))))]))
      have jn123a : ∀ (w0_123a : Int32) (T_123a : State) (l_123a : List Loc) (X_123a : Stand p l e room_1 s m #[(.long q0), (.long q1), (.long q2), (.int p3)] below meth c T_123a l_123a 1 3) (e_123a : T_123a.heap = T18.heap) (N_123a : Fr n0 l_123a), Go p e below s (QL (some (.int (F0_123a q0 v7_17 v9_70a w0_123a))) n0) room_1.cells room_1.slots (T_123a.setTop (mkF m 123 #[.val (.long q0), .second, .val (.long q1), .second, .val (.long q2), .second, .val (.int p3), .val (.long v7_17), .second, .val (.long v9_70a), .second, .val (.long (q0 &&& (9223372036854775807 : Int64))), .second, .val (.ref b14), .val (.long (F4 (q0 &&& (9223372036854775807 : Int64)) v9_70a v7_17)), .second, .val (.long (v7_17 - (v7_17 / (2 : Int64)))), .second, .unset, .unset, .unset] [(.int w0_123a)])) := by
        intro w0_123a T_123a l_123a X_123a e_123a N_123a
        unfold F0_123a
        refine Go.of (fun t k => XS.istore X_123a.here hx rfl (hb hby at_123) rfl (l' := #[.val (.long q0), .second, .val (.long q1), .second, .val (.long q2), .second, .val (.int p3), .val (.long v7_17), .second, .val (.long v9_70a), .second, .val (.long (q0 &&& (9223372036854775807 : Int64))), .second, .val (.ref b14), .val (.long (F4 (q0 &&& (9223372036854775807 : Int64)) v9_70a v7_17)), .second, .val (.long (v7_17 - (v7_17 / (2 : Int64)))), .second, .val (.int w0_123a), .unset, .unset]) rfl k) ?_
        show Go p e below s _ _ _ (T_123a.setTop (mkF m 125 #[.val (.long q0), .second, .val (.long q1), .second, .val (.long q2), .second, .val (.int p3), .val (.long v7_17), .second, .val (.long v9_70a), .second, .val (.long (q0 &&& (9223372036854775807 : Int64))), .second, .val (.ref b14), .val (.long (F4 (q0 &&& (9223372036854775807 : Int64)) v9_70a v7_17)), .second, .val (.long (v7_17 - (v7_17 / (2 : Int64)))), .second, .val (.int w0_123a), .unset, .unset] []))
        refine Go.of (fun t k => XS.iload X_123a.here hx rfl (hb hby at_125) rfl k) ?_
        show Go p e below s _ _ _ (T_123a.setTop (mkF m 127 #[.val (.long q0), .second, .val (.long q1), .second, .val (.long q2), .second, .val (.int p3), .val (.long v7_17), .second, .val (.long v9_70a), .second, .val (.long (q0 &&& (9223372036854775807 : Int64))), .second, .val (.ref b14), .val (.long (F4 (q0 &&& (9223372036854775807 : Int64)) v9_70a v7_17)), .second, .val (.long (v7_17 - (v7_17 / (2 : Int64)))), .second, .val (.int w0_123a), .unset, .unset] [(.int w0_123a)]))
        have jn139a : ∀ (w0_139a : Int64) (T_139a : State) (l_139a : List Loc) (X_139a : Stand p l e room_1 s m #[(.long q0), (.long q1), (.long q2), (.int p3)] below meth c T_139a l_139a 1 3) (e_139a : T_139a.heap = T18.heap) (N_139a : Fr n0 l_139a), Go p e below s (QL (some (.int (F0_139a q0 v7_17 v9_70a w0_139a))) n0) room_1.cells room_1.slots (T_139a.setTop (mkF m 139 #[.val (.long q0), .second, .val (.long q1), .second, .val (.long q2), .second, .val (.int p3), .val (.long v7_17), .second, .val (.long v9_70a), .second, .val (.long (q0 &&& (9223372036854775807 : Int64))), .second, .val (.ref b14), .val (.long (F4 (q0 &&& (9223372036854775807 : Int64)) v9_70a v7_17)), .second, .val (.long (v7_17 - (v7_17 / (2 : Int64)))), .second, .val (.int w0_123a), .unset, .unset] [(.long w0_139a)])) := by
          intro w0_139a T_139a l_139a X_139a e_139a N_139a
          unfold F0_139a
          refine Go.of (fun t k => XS.lstore X_139a.here hx rfl (hb hby at_139) rfl (l' := #[.val (.long q0), .second, .val (.long q1), .second, .val (.long q2), .second, .val (.int p3), .val (.long v7_17), .second, .val (.long v9_70a), .second, .val (.long (q0 &&& (9223372036854775807 : Int64))), .second, .val (.ref b14), .val (.long (F4 (q0 &&& (9223372036854775807 : Int64)) v9_70a v7_17)), .second, .val (.long (v7_17 - (v7_17 / (2 : Int64)))), .second, .val (.int w0_123a), .val (.long w0_139a), .second]) rfl k) ?_
          show Go p e below s _ _ _ (T_139a.setTop (mkF m 141 #[.val (.long q0), .second, .val (.long q1), .second, .val (.long q2), .second, .val (.int p3), .val (.long v7_17), .second, .val (.long v9_70a), .second, .val (.long (q0 &&& (9223372036854775807 : Int64))), .second, .val (.ref b14), .val (.long (F4 (q0 &&& (9223372036854775807 : Int64)) v9_70a v7_17)), .second, .val (.long (v7_17 - (v7_17 / (2 : Int64)))), .second, .val (.int w0_123a), .val (.long w0_139a), .second] []))
          refine Go.of (fun t k => XS.lload X_139a.here hx rfl (hb hby at_141) rfl k) ?_
          show Go p e below s _ _ _ (T_139a.setTop (mkF m 143 #[.val (.long q0), .second, .val (.long q1), .second, .val (.long q2), .second, .val (.int p3), .val (.long v7_17), .second, .val (.long v9_70a), .second, .val (.long (q0 &&& (9223372036854775807 : Int64))), .second, .val (.ref b14), .val (.long (F4 (q0 &&& (9223372036854775807 : Int64)) v9_70a v7_17)), .second, .val (.long (v7_17 - (v7_17 / (2 : Int64)))), .second, .val (.int w0_123a), .val (.long w0_139a), .second] [(.long (F4 (q0 &&& (9223372036854775807 : Int64)) v9_70a v7_17))]))
          refine Go.of (fun t k => XS.lload X_139a.here hx rfl (hb hby at_143) rfl k) ?_
          show Go p e below s _ _ _ (T_139a.setTop (mkF m 145 #[.val (.long q0), .second, .val (.long q1), .second, .val (.long q2), .second, .val (.int p3), .val (.long v7_17), .second, .val (.long v9_70a), .second, .val (.long (q0 &&& (9223372036854775807 : Int64))), .second, .val (.ref b14), .val (.long (F4 (q0 &&& (9223372036854775807 : Int64)) v9_70a v7_17)), .second, .val (.long (v7_17 - (v7_17 / (2 : Int64)))), .second, .val (.int w0_123a), .val (.long w0_139a), .second] [(.long w0_139a), (.long (F4 (q0 &&& (9223372036854775807 : Int64)) v9_70a v7_17))]))
          refine Go.of (fun t k => XS.lcmp X_139a.here hx rfl (hb hby at_145) rfl k) ?_
          show Go p e below s _ _ _ (T_139a.setTop (mkF m 146 #[.val (.long q0), .second, .val (.long q1), .second, .val (.long q2), .second, .val (.int p3), .val (.long v7_17), .second, .val (.long v9_70a), .second, .val (.long (q0 &&& (9223372036854775807 : Int64))), .second, .val (.ref b14), .val (.long (F4 (q0 &&& (9223372036854775807 : Int64)) v9_70a v7_17)), .second, .val (.long (v7_17 - (v7_17 / (2 : Int64)))), .second, .val (.int w0_123a), .val (.long w0_139a), .second] [(.int (lcmpW (F4 (q0 &&& (9223372036854775807 : Int64)) v9_70a v7_17) w0_139a))]))
          by_cases hc146_24 : (F4 (q0 &&& (9223372036854775807 : Int64)) v9_70a v7_17) = w0_139a
          · rewrite [if_pos hc146_24]
            refine Go.of (fun t k => XS.ifNo X_139a.here hx rfl (hb hby at_146) rfl ((if0 _ _).trans (teq ((lw_eq (F4 (q0 &&& (9223372036854775807 : Int64)) v9_70a v7_17) w0_139a).mpr hc146_24)).2) k) ?_
            show Go p e below s _ _ _ (T_139a.setTop (mkF m 149 #[.val (.long q0), .second, .val (.long q1), .second, .val (.long q2), .second, .val (.int p3), .val (.long v7_17), .second, .val (.long v9_70a), .second, .val (.long (q0 &&& (9223372036854775807 : Int64))), .second, .val (.ref b14), .val (.long (F4 (q0 &&& (9223372036854775807 : Int64)) v9_70a v7_17)), .second, .val (.long (v7_17 - (v7_17 / (2 : Int64)))), .second, .val (.int w0_123a), .val (.long w0_139a), .second] []))
            refine Go.of (fun t k => XS.iconst X_139a.here hx rfl (hb hby at_149) k) ?_
            show Go p e below s _ _ _ (T_139a.setTop (mkF m 150 #[.val (.long q0), .second, .val (.long q1), .second, .val (.long q2), .second, .val (.int p3), .val (.long v7_17), .second, .val (.long v9_70a), .second, .val (.long (q0 &&& (9223372036854775807 : Int64))), .second, .val (.ref b14), .val (.long (F4 (q0 &&& (9223372036854775807 : Int64)) v9_70a v7_17)), .second, .val (.long (v7_17 - (v7_17 / (2 : Int64)))), .second, .val (.int w0_123a), .val (.long w0_139a), .second] [(.int (1 : Int32))]))
            refine Go.of (fun t k => XS.goto X_139a.here hx rfl (pc0 := 150) (pc' := 154) rfl (hb hby at_150) (by decide) (by decide) k) ?_
            show Go p e below s _ _ _ (T_139a.setTop (mkF m 154 #[.val (.long q0), .second, .val (.long q1), .second, .val (.long q2), .second, .val (.int p3), .val (.long v7_17), .second, .val (.long v9_70a), .second, .val (.long (q0 &&& (9223372036854775807 : Int64))), .second, .val (.ref b14), .val (.long (F4 (q0 &&& (9223372036854775807 : Int64)) v9_70a v7_17)), .second, .val (.long (v7_17 - (v7_17 / (2 : Int64)))), .second, .val (.int w0_123a), .val (.long w0_139a), .second] [(.int (1 : Int32))]))
            exact Go.ret X_139a (some (.int (1 : Int32))) (fun h => by rw [Bd.returns] at h; cases h) hlk ⟨rfl, N_139a⟩ (by decide) (by decide) (fun fs hr => (retN X_139a hx (t := .boolean) Bd.returns (by simp) (hb hby at_154) hr))
          · rewrite [if_neg hc146_24]
            refine Go.of (fun t k => XS.ifYes X_139a.here hx rfl (pc0 := 146) (pc' := 153) rfl (hb hby at_146) rfl ((if0 _ _).trans (feq (mt (lw_eq (F4 (q0 &&& (9223372036854775807 : Int64)) v9_70a v7_17) w0_139a).mp hc146_24)).2) (by decide) (by decide) k) ?_
            show Go p e below s _ _ _ (T_139a.setTop (mkF m 153 #[.val (.long q0), .second, .val (.long q1), .second, .val (.long q2), .second, .val (.int p3), .val (.long v7_17), .second, .val (.long v9_70a), .second, .val (.long (q0 &&& (9223372036854775807 : Int64))), .second, .val (.ref b14), .val (.long (F4 (q0 &&& (9223372036854775807 : Int64)) v9_70a v7_17)), .second, .val (.long (v7_17 - (v7_17 / (2 : Int64)))), .second, .val (.int w0_123a), .val (.long w0_139a), .second] []))
            refine Go.of (fun t k => XS.iconst X_139a.here hx rfl (hb hby at_153) k) ?_
            show Go p e below s _ _ _ (T_139a.setTop (mkF m 154 #[.val (.long q0), .second, .val (.long q1), .second, .val (.long q2), .second, .val (.int p3), .val (.long v7_17), .second, .val (.long v9_70a), .second, .val (.long (q0 &&& (9223372036854775807 : Int64))), .second, .val (.ref b14), .val (.long (F4 (q0 &&& (9223372036854775807 : Int64)) v9_70a v7_17)), .second, .val (.long (v7_17 - (v7_17 / (2 : Int64)))), .second, .val (.int w0_123a), .val (.long w0_139a), .second] [(.int (0 : Int32))]))
            exact Go.ret X_139a (some (.int (0 : Int32))) (fun h => by rw [Bd.returns] at h; cases h) hlk ⟨rfl, N_139a⟩ (by decide) (by decide) (fun fs hr => (retN X_139a hx (t := .boolean) Bd.returns (by simp) (hb hby at_154) hr))
        by_cases hc127_25 : w0_123a = (0 : Int32)
        · rewrite [if_pos hc127_25]
          refine Go.of (fun t k => XS.ifYes X_123a.here hx rfl (pc0 := 127) (pc' := 137) rfl (hb hby at_127) rfl ((if0 _ _).trans (teq hc127_25).1) (by decide) (by decide) k) ?_
          show Go p e below s _ _ _ (T_123a.setTop (mkF m 137 #[.val (.long q0), .second, .val (.long q1), .second, .val (.long q2), .second, .val (.int p3), .val (.long v7_17), .second, .val (.long v9_70a), .second, .val (.long (q0 &&& (9223372036854775807 : Int64))), .second, .val (.ref b14), .val (.long (F4 (q0 &&& (9223372036854775807 : Int64)) v9_70a v7_17)), .second, .val (.long (v7_17 - (v7_17 / (2 : Int64)))), .second, .val (.int w0_123a), .unset, .unset] []))
          refine Go.of (fun t k => XS.lload X_123a.here hx rfl (hb hby at_137) rfl k) ?_
          show Go p e below s _ _ _ (T_123a.setTop (mkF m 139 #[.val (.long q0), .second, .val (.long q1), .second, .val (.long q2), .second, .val (.int p3), .val (.long v7_17), .second, .val (.long v9_70a), .second, .val (.long (q0 &&& (9223372036854775807 : Int64))), .second, .val (.ref b14), .val (.long (F4 (q0 &&& (9223372036854775807 : Int64)) v9_70a v7_17)), .second, .val (.long (v7_17 - (v7_17 / (2 : Int64)))), .second, .val (.int w0_123a), .unset, .unset] [(.long (q0 &&& (9223372036854775807 : Int64)))]))
          exact jn139a (q0 &&& (9223372036854775807 : Int64))  T_123a _ X_123a e_123a N_123a  
        · rewrite [if_neg hc127_25]
          refine Go.of (fun t k => XS.ifNo X_123a.here hx rfl (hb hby at_127) rfl ((if0 _ _).trans (feq hc127_25).1) k) ?_
          show Go p e below s _ _ _ (T_123a.setTop (mkF m 130 #[.val (.long q0), .second, .val (.long q1), .second, .val (.long q2), .second, .val (.int p3), .val (.long v7_17), .second, .val (.long v9_70a), .second, .val (.long (q0 &&& (9223372036854775807 : Int64))), .second, .val (.ref b14), .val (.long (F4 (q0 &&& (9223372036854775807 : Int64)) v9_70a v7_17)), .second, .val (.long (v7_17 - (v7_17 / (2 : Int64)))), .second, .val (.int w0_123a), .unset, .unset] []))
          refine Go.of (fun t k => XS.lload X_123a.here hx rfl (hb hby at_130) rfl k) ?_
          show Go p e below s _ _ _ (T_123a.setTop (mkF m 132 #[.val (.long q0), .second, .val (.long q1), .second, .val (.long q2), .second, .val (.int p3), .val (.long v7_17), .second, .val (.long v9_70a), .second, .val (.long (q0 &&& (9223372036854775807 : Int64))), .second, .val (.ref b14), .val (.long (F4 (q0 &&& (9223372036854775807 : Int64)) v9_70a v7_17)), .second, .val (.long (v7_17 - (v7_17 / (2 : Int64)))), .second, .val (.int w0_123a), .unset, .unset] [(.long (q0 &&& (9223372036854775807 : Int64)))]))
          refine Go.of (fun t k => XS.lconst X_123a.here hx rfl (hb hby at_132) k) ?_
          show Go p e below s _ _ _ (T_123a.setTop (mkF m 133 #[.val (.long q0), .second, .val (.long q1), .second, .val (.long q2), .second, .val (.int p3), .val (.long v7_17), .second, .val (.long v9_70a), .second, .val (.long (q0 &&& (9223372036854775807 : Int64))), .second, .val (.ref b14), .val (.long (F4 (q0 &&& (9223372036854775807 : Int64)) v9_70a v7_17)), .second, .val (.long (v7_17 - (v7_17 / (2 : Int64)))), .second, .val (.int w0_123a), .unset, .unset] [(.long (1 : Int64)), (.long (q0 &&& (9223372036854775807 : Int64)))]))
          refine Go.of (fun t k => XS.ladd X_123a.here hx rfl (hb hby at_133) rfl k) ?_
          show Go p e below s _ _ _ (T_123a.setTop (mkF m 134 #[.val (.long q0), .second, .val (.long q1), .second, .val (.long q2), .second, .val (.int p3), .val (.long v7_17), .second, .val (.long v9_70a), .second, .val (.long (q0 &&& (9223372036854775807 : Int64))), .second, .val (.ref b14), .val (.long (F4 (q0 &&& (9223372036854775807 : Int64)) v9_70a v7_17)), .second, .val (.long (v7_17 - (v7_17 / (2 : Int64)))), .second, .val (.int w0_123a), .unset, .unset] [(.long ((q0 &&& (9223372036854775807 : Int64)) + (1 : Int64)))]))
          refine Go.of (fun t k => XS.goto X_123a.here hx rfl (pc0 := 134) (pc' := 139) rfl (hb hby at_134) (by decide) (by decide) k) ?_
          show Go p e below s _ _ _ (T_123a.setTop (mkF m 139 #[.val (.long q0), .second, .val (.long q1), .second, .val (.long q2), .second, .val (.int p3), .val (.long v7_17), .second, .val (.long v9_70a), .second, .val (.long (q0 &&& (9223372036854775807 : Int64))), .second, .val (.ref b14), .val (.long (F4 (q0 &&& (9223372036854775807 : Int64)) v9_70a v7_17)), .second, .val (.long (v7_17 - (v7_17 / (2 : Int64)))), .second, .val (.int w0_123a), .unset, .unset] [(.long ((q0 &&& (9223372036854775807 : Int64)) + (1 : Int64)))]))
          exact jn139a ((q0 &&& (9223372036854775807 : Int64)) + (1 : Int64))  T_123a _ X_123a e_123a N_123a  
      by_cases hc115_26 : v9_70a < (v7_17 - (v7_17 / (2 : Int64)))
      · rewrite [if_pos hc115_26]
        refine Go.of (fun t k => XS.ifYes X23.here hx rfl (pc0 := 115) (pc' := 122) rfl (hb hby at_115) rfl ((if0 _ _).trans (tlt ((lw_lt v9_70a (v7_17 - (v7_17 / (2 : Int64)))).mpr hc115_26)).1) (by decide) (by decide) k) ?_
        show Go p e below s _ _ _ (T23.setTop (mkF m 122 #[.val (.long q0), .second, .val (.long q1), .second, .val (.long q2), .second, .val (.int p3), .val (.long v7_17), .second, .val (.long v9_70a), .second, .val (.long (q0 &&& (9223372036854775807 : Int64))), .second, .val (.ref b14), .val (.long (F4 (q0 &&& (9223372036854775807 : Int64)) v9_70a v7_17)), .second, .val (.long (v7_17 - (v7_17 / (2 : Int64)))), .second, .unset, .unset, .unset] []))
        refine Go.of (fun t k => XS.iconst X23.here hx rfl (hb hby at_122) k) ?_
        show Go p e below s _ _ _ (T23.setTop (mkF m 123 #[.val (.long q0), .second, .val (.long q1), .second, .val (.long q2), .second, .val (.int p3), .val (.long v7_17), .second, .val (.long v9_70a), .second, .val (.long (q0 &&& (9223372036854775807 : Int64))), .second, .val (.ref b14), .val (.long (F4 (q0 &&& (9223372036854775807 : Int64)) v9_70a v7_17)), .second, .val (.long (v7_17 - (v7_17 / (2 : Int64)))), .second, .unset, .unset, .unset] [(.int (0 : Int32))]))
        exact jn123a (0 : Int32)  T23 _ X23 e23 N23  
      · rewrite [if_neg hc115_26]
        refine Go.of (fun t k => XS.ifNo X23.here hx rfl (hb hby at_115) rfl ((if0 _ _).trans (flt (mt (lw_lt v9_70a (v7_17 - (v7_17 / (2 : Int64)))).mp hc115_26)).1) k) ?_
        show Go p e below s _ _ _ (T23.setTop (mkF m 118 #[.val (.long q0), .second, .val (.long q1), .second, .val (.long q2), .second, .val (.int p3), .val (.long v7_17), .second, .val (.long v9_70a), .second, .val (.long (q0 &&& (9223372036854775807 : Int64))), .second, .val (.ref b14), .val (.long (F4 (q0 &&& (9223372036854775807 : Int64)) v9_70a v7_17)), .second, .val (.long (v7_17 - (v7_17 / (2 : Int64)))), .second, .unset, .unset, .unset] []))
        refine Go.of (fun t k => XS.iconst X23.here hx rfl (hb hby at_118) k) ?_
        show Go p e below s _ _ _ (T23.setTop (mkF m 119 #[.val (.long q0), .second, .val (.long q1), .second, .val (.long q2), .second, .val (.int p3), .val (.long v7_17), .second, .val (.long v9_70a), .second, .val (.long (q0 &&& (9223372036854775807 : Int64))), .second, .val (.ref b14), .val (.long (F4 (q0 &&& (9223372036854775807 : Int64)) v9_70a v7_17)), .second, .val (.long (v7_17 - (v7_17 / (2 : Int64)))), .second, .unset, .unset, .unset] [(.int (1 : Int32))]))
        refine Go.of (fun t k => XS.goto X23.here hx rfl (pc0 := 119) (pc' := 123) rfl (hb hby at_119) (by decide) (by decide) k) ?_
        show Go p e below s _ _ _ (T23.setTop (mkF m 123 #[.val (.long q0), .second, .val (.long q1), .second, .val (.long q2), .second, .val (.int p3), .val (.long v7_17), .second, .val (.long v9_70a), .second, .val (.long (q0 &&& (9223372036854775807 : Int64))), .second, .val (.ref b14), .val (.long (F4 (q0 &&& (9223372036854775807 : Int64)) v9_70a v7_17)), .second, .val (.long (v7_17 - (v7_17 / (2 : Int64)))), .second, .unset, .unset, .unset] [(.int (1 : Int32))]))
        exact jn123a (1 : Int32)  T23 _ X23 e23 N23  
    by_cases hc32_27 : (p3 &&& (4 : Int32)) = (0 : Int32)
    · rewrite [if_pos hc32_27]
      refine Go.of (fun t k => XS.ifYes X_17.here hx rfl (pc0 := 32) (pc' := 70) rfl (hb hby at_32) rfl ((if0 _ _).trans (teq hc32_27).1) (by decide) (by decide) k) ?_
      show Go p e below s _ _ _ (T_17.setTop (mkF m 70 #[.val (.long q0), .second, .val (.long q1), .second, .val (.long q2), .second, .val (.int p3), .val (.long v7_17), .second, .val (.long ((q2 &&& (9223372036854775807 : Int64)) % v7_17)), .second, .unset, .unset, .unset, .unset, .unset, .unset, .unset, .unset, .unset, .unset] []))
      exact jn70a ((q2 &&& (9223372036854775807 : Int64)) % v7_17)  T_17 _ X_17 e_17 N_17  
    · rewrite [if_neg hc32_27]
      refine Go.of (fun t k => XS.ifNo X_17.here hx rfl (hb hby at_32) rfl ((if0 _ _).trans (feq hc32_27).1) k) ?_
      show Go p e below s _ _ _ (T_17.setTop (mkF m 35 #[.val (.long q0), .second, .val (.long q1), .second, .val (.long q2), .second, .val (.int p3), .val (.long v7_17), .second, .val (.long ((q2 &&& (9223372036854775807 : Int64)) % v7_17)), .second, .unset, .unset, .unset, .unset, .unset, .unset, .unset, .unset, .unset, .unset] []))
      refine Go.of (fun t k => XS.lload X_17.here hx rfl (hb hby at_35) rfl k) ?_
      show Go p e below s _ _ _ (T_17.setTop (mkF m 37 #[.val (.long q0), .second, .val (.long q1), .second, .val (.long q2), .second, .val (.int p3), .val (.long v7_17), .second, .val (.long ((q2 &&& (9223372036854775807 : Int64)) % v7_17)), .second, .unset, .unset, .unset, .unset, .unset, .unset, .unset, .unset, .unset, .unset] [(.long v7_17)]))
      refine Go.of (X_17.ldc2Long hx hown (mvT hZ (hw _ (List.mem_of_getElem? (i := 26) rfl))) (g := (mkF m 37 #[.val (.long q0), .second, .val (.long q1), .second, .val (.long q2), .second, .val (.int p3), .val (.long v7_17), .second, .val (.long ((q2 &&& (9223372036854775807 : Int64)) % v7_17)), .second, .unset, .unset, .unset, .unset, .unset, .unset, .unset, .unset, .unset, .unset] [(.long v7_17)])) rfl (hb hby at_37)) ?_
      show Go p e below s _ _ _ (T_17.setTop (mkF m 40 #[.val (.long q0), .second, .val (.long q1), .second, .val (.long q2), .second, .val (.int p3), .val (.long v7_17), .second, .val (.long ((q2 &&& (9223372036854775807 : Int64)) % v7_17)), .second, .unset, .unset, .unset, .unset, .unset, .unset, .unset, .unset, .unset, .unset] [(.long (2 : Int64)), (.long v7_17)]))
      refine Go.of (fun t k => XS.ldiv X_17.here hx rfl (hb hby at_40) rfl (by decide) k) ?_
      show Go p e below s _ _ _ (T_17.setTop (mkF m 41 #[.val (.long q0), .second, .val (.long q1), .second, .val (.long q2), .second, .val (.int p3), .val (.long v7_17), .second, .val (.long ((q2 &&& (9223372036854775807 : Int64)) % v7_17)), .second, .unset, .unset, .unset, .unset, .unset, .unset, .unset, .unset, .unset, .unset] [(.long (v7_17 / (2 : Int64)))]))
      refine Go.of (fun t k => XS.lconst X_17.here hx rfl (hb hby at_41) k) ?_
      show Go p e below s _ _ _ (T_17.setTop (mkF m 42 #[.val (.long q0), .second, .val (.long q1), .second, .val (.long q2), .second, .val (.int p3), .val (.long v7_17), .second, .val (.long ((q2 &&& (9223372036854775807 : Int64)) % v7_17)), .second, .unset, .unset, .unset, .unset, .unset, .unset, .unset, .unset, .unset, .unset] [(.long (1 : Int64)), (.long (v7_17 / (2 : Int64)))]))
      refine Go.of (fun t k => XS.lsub X_17.here hx rfl (hb hby at_42) rfl k) ?_
      show Go p e below s _ _ _ (T_17.setTop (mkF m 43 #[.val (.long q0), .second, .val (.long q1), .second, .val (.long q2), .second, .val (.int p3), .val (.long v7_17), .second, .val (.long ((q2 &&& (9223372036854775807 : Int64)) % v7_17)), .second, .unset, .unset, .unset, .unset, .unset, .unset, .unset, .unset, .unset, .unset] [(.long ((v7_17 / (2 : Int64)) - (1 : Int64)))]))
      refine Go.of (fun t k => XS.iload X_17.here hx rfl (hb hby at_43) rfl k) ?_
      show Go p e below s _ _ _ (T_17.setTop (mkF m 45 #[.val (.long q0), .second, .val (.long q1), .second, .val (.long q2), .second, .val (.int p3), .val (.long v7_17), .second, .val (.long ((q2 &&& (9223372036854775807 : Int64)) % v7_17)), .second, .unset, .unset, .unset, .unset, .unset, .unset, .unset, .unset, .unset, .unset] [(.int p3), (.long ((v7_17 / (2 : Int64)) - (1 : Int64)))]))
      refine Go.of (fun t k => XS.iconst X_17.here hx rfl (hb hby at_45) k) ?_
      show Go p e below s _ _ _ (T_17.setTop (mkF m 46 #[.val (.long q0), .second, .val (.long q1), .second, .val (.long q2), .second, .val (.int p3), .val (.long v7_17), .second, .val (.long ((q2 &&& (9223372036854775807 : Int64)) % v7_17)), .second, .unset, .unset, .unset, .unset, .unset, .unset, .unset, .unset, .unset, .unset] [(.int (3 : Int32)), (.int p3), (.long ((v7_17 / (2 : Int64)) - (1 : Int64)))]))
      refine Go.of (fun t k => XS.iand X_17.here hx rfl (hb hby at_46) rfl k) ?_
      show Go p e below s _ _ _ (T_17.setTop (mkF m 47 #[.val (.long q0), .second, .val (.long q1), .second, .val (.long q2), .second, .val (.int p3), .val (.long v7_17), .second, .val (.long ((q2 &&& (9223372036854775807 : Int64)) % v7_17)), .second, .unset, .unset, .unset, .unset, .unset, .unset, .unset, .unset, .unset, .unset] [(.int (p3 &&& (3 : Int32))), (.long ((v7_17 / (2 : Int64)) - (1 : Int64)))]))
      refine Go.of (fun t k => XS.i2l X_17.here hx rfl (hb hby at_47) rfl k) ?_
      show Go p e below s _ _ _ (T_17.setTop (mkF m 48 #[.val (.long q0), .second, .val (.long q1), .second, .val (.long q2), .second, .val (.int p3), .val (.long v7_17), .second, .val (.long ((q2 &&& (9223372036854775807 : Int64)) % v7_17)), .second, .unset, .unset, .unset, .unset, .unset, .unset, .unset, .unset, .unset, .unset] [(.long ((p3 &&& (3 : Int32)).toInt64)), (.long ((v7_17 / (2 : Int64)) - (1 : Int64)))]))
      refine Go.of (fun t k => XS.ladd X_17.here hx rfl (hb hby at_48) rfl k) ?_
      show Go p e below s _ _ _ (T_17.setTop (mkF m 49 #[.val (.long q0), .second, .val (.long q1), .second, .val (.long q2), .second, .val (.int p3), .val (.long v7_17), .second, .val (.long ((q2 &&& (9223372036854775807 : Int64)) % v7_17)), .second, .unset, .unset, .unset, .unset, .unset, .unset, .unset, .unset, .unset, .unset] [(.long (((v7_17 / (2 : Int64)) - (1 : Int64)) + ((p3 &&& (3 : Int32)).toInt64)))]))
      refine Go.of (fun t k => XS.lstore X_17.here hx rfl (hb hby at_49) rfl (l' := #[.val (.long q0), .second, .val (.long q1), .second, .val (.long q2), .second, .val (.int p3), .val (.long v7_17), .second, .val (.long ((q2 &&& (9223372036854775807 : Int64)) % v7_17)), .second, .val (.long (((v7_17 / (2 : Int64)) - (1 : Int64)) + ((p3 &&& (3 : Int32)).toInt64))), .second, .unset, .unset, .unset, .unset, .unset, .unset, .unset, .unset]) rfl k) ?_
      show Go p e below s _ _ _ (T_17.setTop (mkF m 51 #[.val (.long q0), .second, .val (.long q1), .second, .val (.long q2), .second, .val (.int p3), .val (.long v7_17), .second, .val (.long ((q2 &&& (9223372036854775807 : Int64)) % v7_17)), .second, .val (.long (((v7_17 / (2 : Int64)) - (1 : Int64)) + ((p3 &&& (3 : Int32)).toInt64))), .second, .unset, .unset, .unset, .unset, .unset, .unset, .unset, .unset] []))
      refine Go.of (fun t k => XS.lload X_17.here hx rfl (hb hby at_51) rfl k) ?_
      show Go p e below s _ _ _ (T_17.setTop (mkF m 53 #[.val (.long q0), .second, .val (.long q1), .second, .val (.long q2), .second, .val (.int p3), .val (.long v7_17), .second, .val (.long ((q2 &&& (9223372036854775807 : Int64)) % v7_17)), .second, .val (.long (((v7_17 / (2 : Int64)) - (1 : Int64)) + ((p3 &&& (3 : Int32)).toInt64))), .second, .unset, .unset, .unset, .unset, .unset, .unset, .unset, .unset] [(.long (((v7_17 / (2 : Int64)) - (1 : Int64)) + ((p3 &&& (3 : Int32)).toInt64)))]))
      refine Go.of (fun t k => XS.lconst X_17.here hx rfl (hb hby at_53) k) ?_
      show Go p e below s _ _ _ (T_17.setTop (mkF m 54 #[.val (.long q0), .second, .val (.long q1), .second, .val (.long q2), .second, .val (.int p3), .val (.long v7_17), .second, .val (.long ((q2 &&& (9223372036854775807 : Int64)) % v7_17)), .second, .val (.long (((v7_17 / (2 : Int64)) - (1 : Int64)) + ((p3 &&& (3 : Int32)).toInt64))), .second, .unset, .unset, .unset, .unset, .unset, .unset, .unset, .unset] [(.long (0 : Int64)), (.long (((v7_17 / (2 : Int64)) - (1 : Int64)) + ((p3 &&& (3 : Int32)).toInt64)))]))
      refine Go.of (fun t k => XS.lcmp X_17.here hx rfl (hb hby at_54) rfl k) ?_
      show Go p e below s _ _ _ (T_17.setTop (mkF m 55 #[.val (.long q0), .second, .val (.long q1), .second, .val (.long q2), .second, .val (.int p3), .val (.long v7_17), .second, .val (.long ((q2 &&& (9223372036854775807 : Int64)) % v7_17)), .second, .val (.long (((v7_17 / (2 : Int64)) - (1 : Int64)) + ((p3 &&& (3 : Int32)).toInt64))), .second, .unset, .unset, .unset, .unset, .unset, .unset, .unset, .unset] [(.int (lcmpW (((v7_17 / (2 : Int64)) - (1 : Int64)) + ((p3 &&& (3 : Int32)).toInt64)) (0 : Int64)))]))
      by_cases hc55_28 : (((v7_17 / (2 : Int64)) - (1 : Int64)) + ((p3 &&& (3 : Int32)).toInt64)) < (0 : Int64)
      · rewrite [if_pos hc55_28]
        refine Go.of (fun t k => XS.ifYes X_17.here hx rfl (pc0 := 55) (pc' := 70) rfl (hb hby at_55) rfl ((if0 _ _).trans (tlt ((lw_lt (((v7_17 / (2 : Int64)) - (1 : Int64)) + ((p3 &&& (3 : Int32)).toInt64)) (0 : Int64)).mpr hc55_28)).1) (by decide) (by decide) k) ?_
        show Go p e below s _ _ _ (T_17.setTop (mkF m 70 #[.val (.long q0), .second, .val (.long q1), .second, .val (.long q2), .second, .val (.int p3), .val (.long v7_17), .second, .val (.long ((q2 &&& (9223372036854775807 : Int64)) % v7_17)), .second, .val (.long (((v7_17 / (2 : Int64)) - (1 : Int64)) + ((p3 &&& (3 : Int32)).toInt64))), .second, .unset, .unset, .unset, .unset, .unset, .unset, .unset, .unset] []))
        exact jn70 ((q2 &&& (9223372036854775807 : Int64)) % v7_17) (((v7_17 / (2 : Int64)) - (1 : Int64)) + ((p3 &&& (3 : Int32)).toInt64))  T_17 _ X_17 e_17 N_17  
      · rewrite [if_neg hc55_28]
        refine Go.of (fun t k => XS.ifNo X_17.here hx rfl (hb hby at_55) rfl ((if0 _ _).trans (flt (mt (lw_lt (((v7_17 / (2 : Int64)) - (1 : Int64)) + ((p3 &&& (3 : Int32)).toInt64)) (0 : Int64)).mp hc55_28)).1) k) ?_
        show Go p e below s _ _ _ (T_17.setTop (mkF m 58 #[.val (.long q0), .second, .val (.long q1), .second, .val (.long q2), .second, .val (.int p3), .val (.long v7_17), .second, .val (.long ((q2 &&& (9223372036854775807 : Int64)) % v7_17)), .second, .val (.long (((v7_17 / (2 : Int64)) - (1 : Int64)) + ((p3 &&& (3 : Int32)).toInt64))), .second, .unset, .unset, .unset, .unset, .unset, .unset, .unset, .unset] []))
        refine Go.of (fun t k => XS.lload X_17.here hx rfl (hb hby at_58) rfl k) ?_
        show Go p e below s _ _ _ (T_17.setTop (mkF m 60 #[.val (.long q0), .second, .val (.long q1), .second, .val (.long q2), .second, .val (.int p3), .val (.long v7_17), .second, .val (.long ((q2 &&& (9223372036854775807 : Int64)) % v7_17)), .second, .val (.long (((v7_17 / (2 : Int64)) - (1 : Int64)) + ((p3 &&& (3 : Int32)).toInt64))), .second, .unset, .unset, .unset, .unset, .unset, .unset, .unset, .unset] [(.long (((v7_17 / (2 : Int64)) - (1 : Int64)) + ((p3 &&& (3 : Int32)).toInt64)))]))
        refine Go.of (fun t k => XS.lload X_17.here hx rfl (hb hby at_60) rfl k) ?_
        show Go p e below s _ _ _ (T_17.setTop (mkF m 62 #[.val (.long q0), .second, .val (.long q1), .second, .val (.long q2), .second, .val (.int p3), .val (.long v7_17), .second, .val (.long ((q2 &&& (9223372036854775807 : Int64)) % v7_17)), .second, .val (.long (((v7_17 / (2 : Int64)) - (1 : Int64)) + ((p3 &&& (3 : Int32)).toInt64))), .second, .unset, .unset, .unset, .unset, .unset, .unset, .unset, .unset] [(.long v7_17), (.long (((v7_17 / (2 : Int64)) - (1 : Int64)) + ((p3 &&& (3 : Int32)).toInt64)))]))
        refine Go.of (fun t k => XS.lcmp X_17.here hx rfl (hb hby at_62) rfl k) ?_
        show Go p e below s _ _ _ (T_17.setTop (mkF m 63 #[.val (.long q0), .second, .val (.long q1), .second, .val (.long q2), .second, .val (.int p3), .val (.long v7_17), .second, .val (.long ((q2 &&& (9223372036854775807 : Int64)) % v7_17)), .second, .val (.long (((v7_17 / (2 : Int64)) - (1 : Int64)) + ((p3 &&& (3 : Int32)).toInt64))), .second, .unset, .unset, .unset, .unset, .unset, .unset, .unset, .unset] [(.int (lcmpW (((v7_17 / (2 : Int64)) - (1 : Int64)) + ((p3 &&& (3 : Int32)).toInt64)) v7_17))]))
        by_cases hc63_29 : (((v7_17 / (2 : Int64)) - (1 : Int64)) + ((p3 &&& (3 : Int32)).toInt64)) < v7_17
        · rewrite [if_pos hc63_29]
          refine Go.of (fun t k => XS.ifNo X_17.here hx rfl (hb hby at_63) rfl ((if0 _ _).trans (tlt ((lw_lt (((v7_17 / (2 : Int64)) - (1 : Int64)) + ((p3 &&& (3 : Int32)).toInt64)) v7_17).mpr hc63_29)).2.1) k) ?_
          show Go p e below s _ _ _ (T_17.setTop (mkF m 66 #[.val (.long q0), .second, .val (.long q1), .second, .val (.long q2), .second, .val (.int p3), .val (.long v7_17), .second, .val (.long ((q2 &&& (9223372036854775807 : Int64)) % v7_17)), .second, .val (.long (((v7_17 / (2 : Int64)) - (1 : Int64)) + ((p3 &&& (3 : Int32)).toInt64))), .second, .unset, .unset, .unset, .unset, .unset, .unset, .unset, .unset] []))
          refine Go.of (fun t k => XS.lload X_17.here hx rfl (hb hby at_66) rfl k) ?_
          show Go p e below s _ _ _ (T_17.setTop (mkF m 68 #[.val (.long q0), .second, .val (.long q1), .second, .val (.long q2), .second, .val (.int p3), .val (.long v7_17), .second, .val (.long ((q2 &&& (9223372036854775807 : Int64)) % v7_17)), .second, .val (.long (((v7_17 / (2 : Int64)) - (1 : Int64)) + ((p3 &&& (3 : Int32)).toInt64))), .second, .unset, .unset, .unset, .unset, .unset, .unset, .unset, .unset] [(.long (((v7_17 / (2 : Int64)) - (1 : Int64)) + ((p3 &&& (3 : Int32)).toInt64)))]))
          refine Go.of (fun t k => XS.lstore X_17.here hx rfl (hb hby at_68) rfl (l' := #[.val (.long q0), .second, .val (.long q1), .second, .val (.long q2), .second, .val (.int p3), .val (.long v7_17), .second, .val (.long (((v7_17 / (2 : Int64)) - (1 : Int64)) + ((p3 &&& (3 : Int32)).toInt64))), .second, .val (.long (((v7_17 / (2 : Int64)) - (1 : Int64)) + ((p3 &&& (3 : Int32)).toInt64))), .second, .unset, .unset, .unset, .unset, .unset, .unset, .unset, .unset]) rfl k) ?_
          show Go p e below s _ _ _ (T_17.setTop (mkF m 70 #[.val (.long q0), .second, .val (.long q1), .second, .val (.long q2), .second, .val (.int p3), .val (.long v7_17), .second, .val (.long (((v7_17 / (2 : Int64)) - (1 : Int64)) + ((p3 &&& (3 : Int32)).toInt64))), .second, .val (.long (((v7_17 / (2 : Int64)) - (1 : Int64)) + ((p3 &&& (3 : Int32)).toInt64))), .second, .unset, .unset, .unset, .unset, .unset, .unset, .unset, .unset] []))
          exact jn70 (((v7_17 / (2 : Int64)) - (1 : Int64)) + ((p3 &&& (3 : Int32)).toInt64)) (((v7_17 / (2 : Int64)) - (1 : Int64)) + ((p3 &&& (3 : Int32)).toInt64))  T_17 _ X_17 e_17 N_17  
        · rewrite [if_neg hc63_29]
          refine Go.of (fun t k => XS.ifYes X_17.here hx rfl (pc0 := 63) (pc' := 70) rfl (hb hby at_63) rfl ((if0 _ _).trans (flt (mt (lw_lt (((v7_17 / (2 : Int64)) - (1 : Int64)) + ((p3 &&& (3 : Int32)).toInt64)) v7_17).mp hc63_29)).2.1) (by decide) (by decide) k) ?_
          show Go p e below s _ _ _ (T_17.setTop (mkF m 70 #[.val (.long q0), .second, .val (.long q1), .second, .val (.long q2), .second, .val (.int p3), .val (.long v7_17), .second, .val (.long ((q2 &&& (9223372036854775807 : Int64)) % v7_17)), .second, .val (.long (((v7_17 / (2 : Int64)) - (1 : Int64)) + ((p3 &&& (3 : Int32)).toInt64))), .second, .unset, .unset, .unset, .unset, .unset, .unset, .unset, .unset] []))
          exact jn70 ((q2 &&& (9223372036854775807 : Int64)) % v7_17) (((v7_17 / (2 : Int64)) - (1 : Int64)) + ((p3 &&& (3 : Int32)).toInt64))  T_17 _ X_17 e_17 N_17  
  by_cases hc11_30 : (q1 &&& (9223372036854775807 : Int64)) = (0 : Int64)
  · rewrite [if_pos hc11_30]
    refine Go.of (fun t k => XS.ifNo X0.here hx rfl (hb hby at_11) rfl ((if0 _ _).trans (teq ((lw_eq (q1 &&& (9223372036854775807 : Int64)) (0 : Int64)).mpr hc11_30)).2) k) ?_
    show Go p e below s _ _ _ (s₁.setTop (mkF m 14 #[.val (.long q0), .second, .val (.long q1), .second, .val (.long q2), .second, .val (.int p3), .val (.long (q1 &&& (9223372036854775807 : Int64))), .second, .unset, .unset, .unset, .unset, .unset, .unset, .unset, .unset, .unset, .unset, .unset, .unset] []))
    refine Go.of (fun t k => XS.lconst X0.here hx rfl (hb hby at_14) k) ?_
    show Go p e below s _ _ _ (s₁.setTop (mkF m 15 #[.val (.long q0), .second, .val (.long q1), .second, .val (.long q2), .second, .val (.int p3), .val (.long (q1 &&& (9223372036854775807 : Int64))), .second, .unset, .unset, .unset, .unset, .unset, .unset, .unset, .unset, .unset, .unset, .unset, .unset] [(.long (1 : Int64))]))
    refine Go.of (fun t k => XS.lstore X0.here hx rfl (hb hby at_15) rfl (l' := #[.val (.long q0), .second, .val (.long q1), .second, .val (.long q2), .second, .val (.int p3), .val (.long (1 : Int64)), .second, .unset, .unset, .unset, .unset, .unset, .unset, .unset, .unset, .unset, .unset, .unset, .unset]) rfl k) ?_
    show Go p e below s _ _ _ (s₁.setTop (mkF m 17 #[.val (.long q0), .second, .val (.long q1), .second, .val (.long q2), .second, .val (.int p3), .val (.long (1 : Int64)), .second, .unset, .unset, .unset, .unset, .unset, .unset, .unset, .unset, .unset, .unset, .unset, .unset] []))
    exact jn17 (1 : Int64)  s₁ _ X0 e0 N0  (by first | decide | assumption)
  · rewrite [if_neg hc11_30]
    refine Go.of (fun t k => XS.ifYes X0.here hx rfl (pc0 := 11) (pc' := 17) rfl (hb hby at_11) rfl ((if0 _ _).trans (feq (mt (lw_eq (q1 &&& (9223372036854775807 : Int64)) (0 : Int64)).mp hc11_30)).2) (by decide) (by decide) k) ?_
    show Go p e below s _ _ _ (s₁.setTop (mkF m 17 #[.val (.long q0), .second, .val (.long q1), .second, .val (.long q2), .second, .val (.int p3), .val (.long (q1 &&& (9223372036854775807 : Int64))), .second, .unset, .unset, .unset, .unset, .unset, .unset, .unset, .unset, .unset, .unset, .unset, .unset] []))
    exact jn17 (q1 &&& (9223372036854775807 : Int64))  s₁ _ X0 e0 N0  (by first | decide | assumption)
theorem own_M (x : Int64) : 0 ≤ (x &&& (9223372036854775807 : Int64)).toInt := by
  have m := c_maskL x 9223372036854775807 63 (by decide) (by decide)
  omega
theorem own_core (f d r : Int64) (hd : 0 ≤ r.toInt ∧ r.toInt < d.toInt) : (F4 f r d = if r < d - d / (2 : Int64) then f else f + 1) := by
  have e2 : (2 : Int64).toInt = 2 := by decide
  have q := (c_ldiv d 2 2 e2 (by decide)).1 (by omega)
  have s1 := c_lsub d (d / 2)
  have s2 := c_lsub d r
  have t1 := rng64 (d - d / 2)
  have t2 := rng64 (d - r)
  have t3 := rng64 d
  unfold F4
  simp only [Int64.lt_iff_toInt_lt]
  by_cases h : r.toInt < (d - r).toInt
  · rw [if_pos h, if_pos (by omega)]
  · rw [if_neg h, if_neg (by omega)]
theorem own_70 (q d r : Int64) (h : 0 ≤ r.toInt ∧ r.toInt < d.toInt) : F0_70 q d r = 1 := by
  unfold F0_70 F0_123 F0_139
  rw [own_core _ d r h]
  by_cases k : r < d - d / (2 : Int64) <;> simp [k]
theorem own_70a (q d r : Int64) (h : 0 ≤ r.toInt ∧ r.toInt < d.toInt) : F0_70a q d r = 1 := own_70 q d r h
theorem own_17 (q0 q2 : Int64) (p3 : Int32) (d : Int64) (hd : 1 ≤ d.toInt) : F0_17 q0 q2 p3 d = 1 := by
  have hm : 0 ≤ ((q2 &&& (9223372036854775807 : Int64)) % d).toInt ∧ ((q2 &&& (9223372036854775807 : Int64)) % d).toInt < d.toInt := by
    rw [Int64.toInt_mod, (tr _ _).1 (own_M q2)]
    exact ⟨Int.emod_nonneg _ (by omega), Int.emod_lt_of_pos _ (by omega)⟩
  have e0 : (0 : Int64).toInt = 0 := by decide
  unfold F0_17
  split
  · exact own_70a _ _ _ hm
  · split
    · exact own_70 _ _ _ hm
    · split
      · rename_i h1 h2
        rw [Int64.lt_iff_toInt_lt] at h1 h2
        exact own_70 _ _ _ ⟨by omega, h2⟩
      · exact own_70 _ _ _ hm
theorem own_law (a b c : Int64) (d : Int32) : F0 a b c d = 1 := by
  unfold F0
  split
  · exact own_17 _ _ _ _ (by decide)
  · rename_i h
    refine own_17 _ _ _ _ ?_
    rw [← Int64.toInt_inj] at h
    have e0 : (0 : Int64).toInt = 0 := by decide
    have m := own_M b
    omega
set_option maxRecDepth 65536 in
set_option maxHeartbeats 40000000 in
theorem comes_1 {Post : Tables → Env → Array Value → State → Outcome → State → Prop} (hpost : ∀ tb e args s v u, (limb_1_1.after args s (.returned v) u = true ∧ limb_1_2.after args s (.returned v) u = true ∧ True) → FrameEnd s (.returned v) u (Jvm.fieldLocs frame_1_writes args s ++ Jvm.arrayLocs frame_1_arrays args s ++ Jvm.staticLocs frame_1_statics s) 16 128 → Post tb e args s (.returned v) u) :
    ArmFor flags0 classFile x code maxLocals ret World_1 tables_1 room_1 Calls_1 rest_1 Pre_1 Post := by
  intro l hfl _ _ p e ha hc hk s m args below hf hA hF happ hP
  obtain ⟨hcalls, hrest, hpre⟩ := hP
  obtain ⟨-, -, -, hnamed, -, -, -, hat⟩ := (Spec.applies_iff hf).mp happ
  obtain ⟨hg, hn⟩ := and_e (Cond.before_iff.mp (show (Jvm.Cond.and given_1 narrow_1).before args s = true from hpre))
  obtain ⟨g0, g1⟩ := and_e hg
  obtain ⟨a0, g2⟩ := and_e g1
  obtain ⟨a1, g3⟩ := and_e g2
  obtain ⟨a2, g4⟩ := and_e g3
  have a3 := g4
  obtain ⟨w0, w1, w2, w3, rfl⟩ : ∃ w0 w1 w2 w3 : Value, args = #[w0, w1, w2, w3] := by
    have hs : args.size = 4 := by simpa [Cond.value, given_1] using g0
    obtain ⟨L⟩ := args
    match L, hs with
    | [w0, w1, w2, w3], _ => exact ⟨w0, w1, w2, w3, rfl⟩
  have hw := fun d (hd : d ∈ tables_1) => atoms_spec (ws := Jvm.Cond.code x code maxLocals ret :: tables_1) hat d (List.mem_cons_of_mem _ hd)
  obtain ⟨i0, ei0⟩ := isL_v a0
  obtain rfl : w0 = (.long i0) := Option.some.inj ei0
  obtain ⟨i1, ei1⟩ := isL_v a1
  obtain rfl : w1 = (.long i1) := Option.some.inj ei1
  obtain ⟨i2, ei2⟩ := isL_v a2
  obtain rfl : w2 = (.long i2) := Option.some.inj ei2
  obtain ⟨i3, ei3⟩ := is_v a3
  obtain rfl : w3 = (.int i3) := Option.some.inj ei3
  obtain ⟨n, o, h1, h2, h3, _, L, rfl, ⟨rfl, N⟩, hq⟩ := rm0 l s _ hw tables_1 i0 i1 i2 i3 s.heap s.heap.size (Nat.le_refl _) p e ha hc hk s m _ below hf ((Spec.applies_iff_loose hf).mp happ).1 ⟨rfl, State.Warmed39.refl s, rfl⟩ trivial
  have hone : (F0 i0 i1 i2 i3) = 1 := own_law i0 i1 i2 i3
  refine ⟨n, _, h1, h2, h3, hpost _ _ _ _ _ _ ⟨Cond.after_iff.mpr rfl, Cond.after_iff.mpr (eq_i res_at (Term.int_eval (1)) (by rw [hone])), trivial⟩ ⟨hq.1, hq.2.1, (hq.2.2.sift fun y hy => Or.inr (N y hy)).mono (by decide) (by decide)⟩⟩
theorem main_1_1 : Claimed_1_1 := comes_1 fun _ _ _ _ _ _ h hF => ⟨h.1, hF⟩
theorem main_1_2 : Claimed_1_2 := comes_1 fun _ _ _ _ _ _ h hF => ⟨h.2.1, hF⟩
end Jvm.Pilot.@@N@@
namespace Jvm.Pilot.@@N@@
open Jvm Jvm.ClassFile Sem Op Lib Jvm.Free Jvm.Stand Jvm.Pilot.@@N@@.Jvm.D
/-! MADE BY PROGRAM (witnessworld.py) out of the Statement's table words and the real class files: 10 classes; the members and pool entries that the words name. The judged class is class 1, her method 1. -/
namespace start1
open Jvm.ClassFile
def u (s : String) : CpInfo := .utf8 (stringToUtf16 s)
/-- a pool by its gaps: so many unusable entries, then the entry; so many at the end -/
def gap : Nat → List CpInfo → List CpInfo
  | 0, r => r
  | n + 1, r => .unusable :: gap n r
def poolList (es : List (Nat × CpInfo)) (last : Nat) : List CpInfo := es.foldr (fun e r => gap e.1 (e.2 :: r)) (gap last [])
def pool (es : List (Nat × CpInfo)) (last : Nat) : Array CpInfo := ⟨poolList es last⟩
def fileOf (pool : Array CpInfo) (this : Nat) (attrs : Array Attribute := #[]) (ms : Array MethodInfo := #[]) (fl : Nat := 33) (sup : Nat := 0) (ifs : Array Nat := #[]) (fds : Array FieldInfo := #[]) : ClassFile where
  minorVersion := 0
  majorVersion := 65
  constantPool := pool
  accessFlags := fl
  thisClass := this
  superClass := sup
  interfaces := ifs
  fields := fds
  methods := ms
  attributes := attrs
def plain (name : String) (sup : Option ClassId) : Class where
  name := name
  kind := .ordinary
  loader := none
  accessFlags := 33
  super := sup
  interfaces := #[]
  cf := none
  fields := #[]
  methods := #[]
  instanceTypes := #[]
  staticTypes := #[]
  resolved := #[]
  callSites := []
  init := .initialized
  statics := none
  mirror := none

def pool0 : Array CpInfo := pool [(5, u "<init>"), (0, u "()V"), (1, .class_ 10), (1, u "java/lang/Object")] 113

def k0c0 : Code := { maxStack := 0, maxLocals := 1, code := object_method_1_code, exceptionTable := #[], attributes := #[] }
def k0m0 : Method := { name := "<init>", desc := "()V", sig := { parameters := [], returnType := none }, accessFlags := 1, code := some k0c0 }
/-- java/lang/Object -/
def k0 : Class := { plain "java/lang/Object" none with
  accessFlags := 33
  interfaces := #[]
  cf := some (fileOf pool0 8 #[] #[{ accessFlags := 1, nameIndex := 5, descriptorIndex := 6, attributes := #[] }] 33 0 #[] #[])
  fields := #[]
  methods := #[k0m0]
  instanceTypes := #[]
  staticTypes := #[]
  resolved := Array.replicate 124 none
  statics := none }

def pool1 : Array CpInfo := pool [(2, .class_ 4), (1, u "java/lang/Object"), (0, u "<init>"), (0, u "()V"), (2, .long 9223372036854775807), (1, .long 2), (1, .class_ 14), (0, u "com/example/prorata/prorata/Quotient"), (0, .methodref 13 16), (0, .nameAndType 5 17), (0, u "(JJJ)V"), (0, .methodref 13 19), (0, .nameAndType 20 21), (0, u "roundedHalfUp"), (0, u "()J"), (0, .class_ 23), (0, u "com/example/prorata/prorata/QuotientRoundedHalfUpPinLaw"), (2, u "law"), (0, u "(JJJI)Z")] 3

def k1m0 : Method := { name := "<init>", desc := "()V", sig := { parameters := [], returnType := none }, accessFlags := 2, code := none }
def k1c1 : Code := { maxStack := 8, maxLocals := 21, code := code, exceptionTable := #[], attributes := #[] }
def k1m1 : Method := { name := "law", desc := "(JJJI)Z", sig := { parameters := [.long, .long, .long, .int], returnType := some .boolean }, accessFlags := 9, code := some k1c1 }
/-- com/example/prorata/prorata/QuotientRoundedHalfUpPinLaw -/
def k1 : Class := { plain "com/example/prorata/prorata/QuotientRoundedHalfUpPinLaw" (some 0) with
  accessFlags := 49
  interfaces := #[]
  cf := some (fileOf pool1 22 #[] #[{ accessFlags := 2, nameIndex := 5, descriptorIndex := 6, attributes := #[] }, { accessFlags := 9, nameIndex := 26, descriptorIndex := 27, attributes := #[] }] 49 2 #[] #[])
  fields := #[]
  methods := #[k1m0, k1m1]
  instanceTypes := #[]
  staticTypes := #[]
  resolved := Array.replicate 31 none
  statics := none }

def pool2 : Array CpInfo := pool [(1, .methodref 2 3), (0, .class_ 4), (0, .nameAndType 5 6), (0, u "java/lang/Object"), (0, u "<init>"), (0, u "()V"), (0, .class_ 8), (0, u "java/lang/Record")] 13

def k2c0 : Code := { maxStack := 1, maxLocals := 1, code := jdk_30_method_1_code, exceptionTable := #[], attributes := #[] }
def k2m0 : Method := { name := "<init>", desc := "()V", sig := { parameters := [], returnType := none }, accessFlags := 4, code := some k2c0 }
/-- java/lang/Record -/
def k2 : Class := { plain "java/lang/Record" (some 0) with
  accessFlags := 1057
  interfaces := #[]
  cf := some (fileOf pool2 7 #[] #[{ accessFlags := 4, nameIndex := 5, descriptorIndex := 6, attributes := #[] }] 1057 2 #[] #[])
  fields := #[]
  methods := #[k2m0]
  instanceTypes := #[]
  staticTypes := #[]
  resolved := Array.replicate 22 none
  statics := none }

def pool3 : Array CpInfo := pool [(1, .methodref 2 3), (0, .class_ 4), (0, .nameAndType 5 6), (0, u "java/lang/Record"), (0, u "<init>"), (0, u "()V"), (0, .fieldref 8 9), (0, .class_ 10), (0, .nameAndType 11 12), (0, u "com/example/prorata/prorata/Quotient"), (0, u "floor"), (0, u "J"), (0, .fieldref 8 14), (0, .nameAndType 15 12), (0, u "remainder"), (0, .fieldref 8 17), (0, .nameAndType 18 12), (0, u "divisor"), (6, u "(JJJ)V"), (17, u "()J"), (29, u "roundedHalfUp")] 25

def k3c0 : Code := { maxStack := 3, maxLocals := 7, code := prog_60_method_1_code, exceptionTable := #[], attributes := #[] }
def k3m0 : Method := { name := "<init>", desc := "(JJJ)V", sig := { parameters := [.long, .long, .long], returnType := none }, accessFlags := 0, code := some k3c0 }
def k3c1 : Code := { maxStack := 6, maxLocals := 1, code := prog_60_method_6_code, exceptionTable := #[], attributes := #[] }
def k3m1 : Method := { name := "roundedHalfUp", desc := "()J", sig := { parameters := [], returnType := some .long }, accessFlags := 0, code := some k3c1 }
/-- com/example/prorata/prorata/Quotient -/
def k3 : Class := { plain "com/example/prorata/prorata/Quotient" (some 2) with
  accessFlags := 48
  interfaces := #[]
  cf := some (fileOf pool3 8 #[] #[{ accessFlags := 0, nameIndex := 5, descriptorIndex := 25, attributes := #[] }, { accessFlags := 0, nameIndex := 73, descriptorIndex := 43, attributes := #[] }] 48 2 #[] #[{ accessFlags := 18, nameIndex := 11, descriptorIndex := 12, attributes := #[] }, { accessFlags := 18, nameIndex := 15, descriptorIndex := 12, attributes := #[] }, { accessFlags := 18, nameIndex := 18, descriptorIndex := 12, attributes := #[] }])
  fields := #[{ name := "floor", type := .long, accessFlags := 18, slot := 0, constantValue := 0 }, { name := "remainder", type := .long, accessFlags := 18, slot := 1, constantValue := 0 }, { name := "divisor", type := .long, accessFlags := 18, slot := 2, constantValue := 0 }]
  methods := #[k3m0, k3m1]
  instanceTypes := #[.long, .long, .long]
  staticTypes := #[]
  resolved := Array.replicate 99 none
  statics := none }

def pool4 : Array CpInfo := pool [(1, u "java/lang/Cloneable"), (0, .class_ 1), (0, u "java/lang/Object"), (0, .class_ 3)] 3

/-- java/lang/Cloneable -/
def k4 : Class := { plain "java/lang/Cloneable" (some 0) with
  accessFlags := 1537
  interfaces := #[]
  cf := some (fileOf pool4 2 #[] #[] 1537 4 #[] #[])
  fields := #[]
  methods := #[]
  instanceTypes := #[]
  staticTypes := #[]
  resolved := Array.replicate 8 none
  statics := none }

def pool5 : Array CpInfo := pool [(1, u "java/io/Serializable"), (0, .class_ 1), (0, u "java/lang/Object"), (0, .class_ 3)] 3

/-- java/io/Serializable -/
def k5 : Class := { plain "java/io/Serializable" (some 0) with
  accessFlags := 1537
  interfaces := #[]
  cf := some (fileOf pool5 2 #[] #[] 1537 4 #[] #[])
  fields := #[]
  methods := #[]
  instanceTypes := #[]
  staticTypes := #[]
  resolved := Array.replicate 8 none
  statics := none }

/-- the primitive byte -/
def k6 : Class := { plain "byte" none with kind := .primitive 'B', accessFlags := 0x411 }
/-- [B -/
def k7 : Class := { plain "[B" (some 0) with kind := .array 6 .byte, interfaces := #[4, 5], accessFlags := 1041 }

/-- the primitive int -/
def k8 : Class := { plain "int" none with kind := .primitive 'I', accessFlags := 0x411 }
/-- [I -/
def k9 : Class := { plain "[I" (some 0) with kind := .array 8 .int, interfaces := #[4, 5], accessFlags := 1041 }

def heap : Heap := #[]
def classes : Array Class := #[k0, k1, k2, k3, k4, k5, k6, k7, k8, k9]
def interned : List (Array UInt16 × Addr) := []
def slotsUsed : Nat := 0
def theMethod : MethodId := ⟨1, 1⟩
def args0 : Array Value := #[.long 5, .long 6, .long 7, .int 8]
def aboutOver (below : List Frame) : State where
  vm := { classes := classes, interned := interned.toArray }
  heap := heap
  slotsUsed := slotsUsed
  threads := #[{ frames := .invoking theMethod args0 :: below }]
def below0 : List Frame := [.native { method := ⟨0, 0⟩, args := #[] }]
def about1 : State := aboutOver below0
def p0 : Program := .bare "" "" ""
def e0 : Env := launch0.env 0 0 0
theorem w_frames : about1.frames = Frame.invoking theMethod args0 :: below0 := rfl
set_option maxRecDepth 65536 in
theorem w_args : argsFit about1.vm theMethod args0 = true := by decide +kernel
set_option maxRecDepth 65536 in
theorem w_heap : heapFits about1 = true := by decide +kernel
set_option maxRecDepth 65536 in
theorem w_runnable : about1.curStatus? = some .runnable := by decide +kernel
set_option maxRecDepth 65536 in
theorem w_alone : about1.alone = true := by decide +kernel
set_option maxRecDepth 65536 in
theorem w_named : about1.methodNamed? x = some theMethod := by decide +kernel
set_option maxRecDepth 65536 in
theorem w_hears : about1.hears theMethod below0 = true := by decide +kernel
set_option maxRecDepth 65536 in
theorem w_ripe : about1.ripe theMethod args0 below0 = true := by decide +kernel
theorem w_running : about1.status = .running := rfl
set_option maxRecDepth 65536 in
theorem w_room : about1.hasRoom e0.platform room_1 = true :=
  launch0.hasRoom_least _ room_1 (by decide +kernel) (by decide +kernel) (by decide +kernel) (by decide +kernel) (by decide +kernel) (by decide +kernel)
theorem allAtoms_all (ts : List Jvm.Cond) (a : Array Jvm.Value) (st : Jvm.State) : (allAtoms ts).before a st = ts.all (fun c => c.before a st) := by
  induction ts with
  | nil => rfl
  | cons c t ih =>
    show (Jvm.Cond.and c (allAtoms t)).before a st = _
    rw [Jvm.Cond.before_and, ih, List.all_cons]
def words1 : List Jvm.Cond := Jvm.Cond.code x code maxLocals ret :: tables_1
/-- a 'code' word, met by the world's own term for the bytes: nothing is compared byte by byte -/
theorem code_word {y : MethodName} {bytes : ByteArray} {mx : Nat} {rt : Option FieldType} {a : Array Value} {s : State} {m : MethodId} {meth : Method} {c : Code} (h1 : s.methodNamed? y = some m) (h2 : s.vm.method? m = some meth) (h3 : meth.code = some c) (h4 : c.code = bytes)
    (h5 : (c.maxLocals == mx && c.exceptionTable.isEmpty && decide (c.maxStack ≤ mostOperands) && decide (meth.sig.returnType = rt) && !meth.locks && decide (parseMethodDescriptor y.desc = some meth.sig)) = true) : (Jvm.Cond.code y bytes mx rt).before a s = true := by
  simp only [Bool.and_eq_true, beq_iff_eq, Bool.not_eq_true', decide_eq_true_eq] at h5
  obtain ⟨⟨⟨⟨⟨g1, g2⟩, g3⟩, g4⟩, g5⟩, g6⟩ := h5
  simp [Cond.before, Cond.holds, Cond.value, h1, h2, h3, h4, g1, g2, g3, g4, g5, g6]
def isCode : Jvm.Cond → Bool
  | .code _ _ _ _ => true
  | _ => false
theorem all_split {L : List Jvm.Cond} {P : Jvm.Cond → Bool} (h1 : L.all (fun c => isCode c || P c) = true) (h2 : ∀ c ∈ L.filter isCode, P c = true) : L.all P = true := by
  refine List.all_eq_true.mpr fun c hc => ?_
  have h := List.all_eq_true.mp h1 c hc
  rcases Bool.eq_false_or_eq_true (isCode c) with hi | hi
  · exact h2 c (List.mem_filter.mpr ⟨hc, hi⟩)
  · simpa [hi] using h
set_option maxRecDepth 65536 in
theorem w_c0 : (Jvm.Cond.code x code maxLocals ret).before args0 about1 = true := code_word (m := ⟨1, 1⟩) (meth := k1m1) (c := k1c1) (by decide +kernel) rfl rfl rfl (by decide +kernel)
set_option maxRecDepth 65536 in
theorem w_c1 : (Jvm.Cond.code ({ cls := "com/example/prorata/prorata/Quotient", name := "<init>", desc := "(JJJ)V" } : Jvm.MethodName) prog_60_method_1_code (7 : Nat) (Option.none : Option Jvm.ClassFile.FieldType)).before args0 about1 = true := code_word (m := ⟨3, 0⟩) (meth := k3m0) (c := k3c0) (by decide +kernel) rfl rfl rfl (by decide +kernel)
set_option maxRecDepth 65536 in
theorem w_c2 : (Jvm.Cond.code ({ cls := "java/lang/Record", name := "<init>", desc := "()V" } : Jvm.MethodName) jdk_30_method_1_code (1 : Nat) (Option.none : Option Jvm.ClassFile.FieldType)).before args0 about1 = true := code_word (m := ⟨2, 0⟩) (meth := k2m0) (c := k2c0) (by decide +kernel) rfl rfl rfl (by decide +kernel)
set_option maxRecDepth 65536 in
theorem w_c3 : (Jvm.Cond.code ({ cls := "java/lang/Object", name := "<init>", desc := "()V" } : Jvm.MethodName) object_method_1_code (1 : Nat) (Option.none : Option Jvm.ClassFile.FieldType)).before args0 about1 = true := code_word (m := ⟨0, 0⟩) (meth := k0m0) (c := k0c0) (by decide +kernel) rfl rfl rfl (by decide +kernel)
set_option maxRecDepth 65536 in
theorem w_c4 : (Jvm.Cond.code ({ cls := "com/example/prorata/prorata/Quotient", name := "roundedHalfUp", desc := "()J" } : Jvm.MethodName) prog_60_method_6_code (1 : Nat) (Option.some Jvm.ClassFile.FieldType.long)).before args0 about1 = true := code_word (m := ⟨3, 1⟩) (meth := k3m1) (c := k3c1) (by decide +kernel) rfl rfl rfl (by decide +kernel)
def codes1 : List Jvm.Cond := [Jvm.Cond.code x code maxLocals ret, Jvm.Cond.code ({ cls := "com/example/prorata/prorata/Quotient", name := "<init>", desc := "(JJJ)V" } : Jvm.MethodName) prog_60_method_1_code (7 : Nat) (Option.none : Option Jvm.ClassFile.FieldType), Jvm.Cond.code ({ cls := "java/lang/Record", name := "<init>", desc := "()V" } : Jvm.MethodName) jdk_30_method_1_code (1 : Nat) (Option.none : Option Jvm.ClassFile.FieldType), Jvm.Cond.code ({ cls := "java/lang/Object", name := "<init>", desc := "()V" } : Jvm.MethodName) object_method_1_code (1 : Nat) (Option.none : Option Jvm.ClassFile.FieldType), Jvm.Cond.code ({ cls := "com/example/prorata/prorata/Quotient", name := "roundedHalfUp", desc := "()J" } : Jvm.MethodName) prog_60_method_6_code (1 : Nat) (Option.some Jvm.ClassFile.FieldType.long)]
set_option maxRecDepth 65536 in
theorem codes_eq : words1.filter isCode = codes1 := rfl
theorem w_codes : ∀ c ∈ words1.filter isCode, c.before args0 about1 = true := by
  rw [codes_eq]
  intro c hc
  simp only [codes1, List.mem_cons, List.not_mem_nil, or_false] at hc
  rcases hc with rfl | rfl | rfl | rfl | rfl
  · exact w_c0
  · exact w_c1
  · exact w_c2
  · exact w_c3
  · exact w_c4
set_option maxRecDepth 65536 in
theorem w_t1 : (words1.take 24).all (fun c => isCode c || c.before args0 about1) = true := by decide +kernel
set_option maxRecDepth 65536 in
theorem w_t2 : (words1.drop 24).all (fun c => isCode c || c.before args0 about1) = true := by decide +kernel
theorem w_tables : (allAtoms (Jvm.Cond.code x code maxLocals ret :: tables_1)).before args0 about1 = true := by
  rw [allAtoms_all]
  show words1.all (fun c => c.before args0 about1) = true
  refine all_split ?_ w_codes
  rw [← List.take_append_drop 24 words1, List.all_append, w_t1, w_t2]
  rfl
set_option maxRecDepth 65536 in
theorem w_case : (Jvm.Cond.and given_1 narrow_1).before args0 about1 = true := by decide +kernel
theorem w_applies : (headSpec (Jvm.Cond.code x code maxLocals ret :: tables_1) room_1).applies x e0.platform about1 = true :=
  (Spec.applies_iff w_frames).mpr ⟨w_running, w_runnable, w_alone, w_named, w_hears, w_ripe, w_room, w_tables⟩
theorem atStart : AtStart classFile x code maxLocals ret World_1 tables_1 room_1 Calls_1 rest_1 Pre_1 launch0 p0 e0 about1 theMethod args0 below0 :=
  ⟨lists_1, trivial, launch0.admits_env _ _ _, launch0.least_env, fairChoices_fair.cas, fairChoices_fair.clock, w_frames, w_args, w_heap, w_applies, trivial, trivial, w_case⟩
end start1
theorem witness_1 : WitnessClaimed_1 := ⟨start1.p0, start1.e0, start1.about1, start1.theMethod, start1.args0, start1.below0, start1.atStart⟩
end Jvm.Pilot.@@N@@
