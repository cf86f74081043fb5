import JvmDerived
import JvmDerived.Pilot.@@N@@Statement
import JvmDerived.Pilot.@@N@@Code
set_option linter.unusedVariables false
set_option linter.unusedSimpArgs false
namespace Jvm.RoadKit
open Sem ClassFile Op Lib Jvm.Stand Jvm.Free Jvm.LawKit
section New
variable {p : Program} {l : Launch} {e : Env} {R : Room} {s : State} {m : MethodId} {args : Array Value} {below : List Frame} {meth : Method} {c : Code} {T : State} {locs : List Loc} {cells slots : Nat}
theorem retI (X : Stand p l e R s m args below meth c T locs cells slots) (hx : p.tables.exec = Jvm.exec) {pc : Nat} {Ls : Array Slot} {z : Int32} {rest : List Value} (hret : meth.sig.returnType = some .int) (hd : decode c.code pc = .ok (.ireturn, 1)) {fs : List Frame}
    (hl : ∀ (f : JFrame) (acts : List Action), f.method = m → f.locked = none → f.entered = [] → (doReturn e (T.setTop f) acts (some (.int z))).1 = T.setFrames fs) : Steps p.tables e below (T.setTop (mkF m pc Ls (.int z :: rest))) (T.setFrames fs) := by
  have hm' : T.vm.method? m = some meth := X.method'
  have hn : narrow .int (.int z) = .int z := rfl
  show Steps p.tables e below (T.setTop { method := m, pc := pc, locals := Ls, stack := _ :: rest, locked := none }) _
  jvm_step X.here [X.here.top, hx, hd, hm', hret, hn]
  first | (intro acts; rw [hl _ acts rfl rfl rfl]) | rw [hl _ _ rfl rfl rfl]
  exact Steps.refl _
/-- the run from G on comes to an end that Q speaks of -/
def Go (p : Program) (e : Env) (below : List Frame) (s : State) (Q : Option Value → Heap → List Loc → Prop) (ck sk : Nat) (G : State) : Prop :=
  ∃ s₂ o, Steps p.tables e below G s₂ ∧ s₂.status = .running ∧ Ended s₂ below o ∧ ∃ v L, o = .returned v ∧ Q v s₂.heap L ∧ FrameEnd s o s₂ L ck sk
theorem Go.of {Q : Option Value → Heap → List Loc → Prop} {ck sk : Nat} {G G' : State} (h : ∀ t, Steps p.tables e below G' t → Steps p.tables e below G t) (k : Go p e below s Q ck sk G') : Go p e below s Q ck sk G := by
  obtain ⟨s₂, o, h1, r⟩ := k
  exact ⟨s₂, o, h _ h1, r⟩
theorem Go.ret (X : Stand p l e R s m args below meth c T locs cells slots) {Q : Option Value → Heap → List Loc → Prop} {ck sk : Nat} {G : State} (v : Option Value) (hv : meth.sig.returnType = none → v = none) (hlk : meth.locks = false) (hq : Q v T.heap locs) (hc : cells ≤ ck) (hs : slots ≤ sk)
    (st : ∀ fs, (∀ (f : JFrame) (acts : List Action), f.method = m → f.locked = none → f.entered = [] → (doReturn e (T.setTop f) acts v).1 = T.setFrames fs) → Steps p.tables e below G (T.setFrames fs)) : Go p e below s Q ck sk G := by
  obtain ⟨fs, hr, hrun, hended, hW, hsame⟩ := X.leave hv hlk
  exact ⟨_, _, st fs hr, hrun, hended, v, locs, rfl, hq, ⟨_, rfl⟩, hW, hsame.mono hc hs⟩
/-- what it returns, that it wrote nothing old, and that the heap is as it was -/
def QP (val : Option Value) (h0 : Heap) (n0 : Nat) (v : Option Value) (h : Heap) (L : List Loc) : Prop := v = val ∧ Fr n0 L ∧ h = h0
/-- what it returns, and that it wrote nothing old -/
def QL (val : Option Value) (n0 : Nat) (v : Option Value) (h : Heap) (L : List Loc) : Prop := v = val ∧ Fr n0 L
theorem lremM {g : JFrame} {target : State} (X : Stand p l e R s m args below meth c T locs cells slots) (hx : p.tables.exec = Jvm.exec) (hg : g.method = m) {x y : Int64} {rest : List Value} (hd : decode c.code g.pc = .ok (.lrem, 1)) (hs : g.stack = .long y :: .long x :: rest) (hy : y ≠ 0)
    (hr : Steps p.tables e below (T.setTop { g with pc := g.pc + 1, stack := .long (x % y) :: rest }) target) : Steps p.tables e below (T.setTop g) target := by
  have q : x - x / y * y = x % y := lrem_mod x y
  exact XS.lrem X.here hx hg hd hs hy (by rw [q]; exact hr)
end New
end Jvm.RoadKit
namespace Jvm.Pilot.@@N@@
open Jvm Jvm.ClassFile Sem Op Lib Jvm.Free Jvm.Stand Jvm.LawKit Jvm.RoadKit Bundle Jvm.Pilot.@@N@@.Jvm.D
theorem own_pn0 : plainName "java/lang/Record" = true := by first | (simp [plainName, overriddenIn]; done) | decide +kernel
theorem d2_0 : decode jdk_30_method_1_code 0 = .ok (.aload_n 0, 1) := by decide +kernel
theorem d2_1 : decode jdk_30_method_1_code 1 = .ok (.invokespecial 1, 3) := by decide +kernel
theorem d2_4 : decode jdk_30_method_1_code 4 = .ok (.return_, 1) := by decide +kernel
theorem ef_2 (m : MethodId) (a0 : Addr) : entryFrame m #[(.ref a0)] 1 = mkF m 0 #[.val (.ref a0)] [] := by first | (simp [entryFrame, mkF, argsToLocals, Value.category]; done) | rfl
set_option maxRecDepth 65536 in
set_option maxHeartbeats 40000000 in
theorem rm2 (l : Launch) (Z : State) (az : Array Value) (hw : ∀ d ∈ tables_1, d.before az Z = true) (ws : List Jvm.Cond) (a0 : Addr)  (h0 : Heap) (n0 : Nat) (Z0 : n0 ≤ h0.size) :
    MetFree l (⟨"java/lang/Record", "<init>", "()V"⟩ : MethodName) (head1 (Jvm.Cond.code (⟨"java/lang/Record", "<init>", "()V"⟩ : MethodName) jdk_30_method_1_code 1 none :: ws) ({ frames := 1, cells := 0, slots := 0, locals := 12 } : Room)) (fun a U => a = #[(.ref a0)] ∧ Z.Warmed39 U.vm ∧ U.heap = h0) (fun _ _ _ _ _ => True) (fun _ U o U' => ∃ v L, o = .returned v ∧ (QP none h0 n0) v U'.heap L ∧ FrameEnd U o U' L ({ frames := 1, cells := 0, slots := 0, locals := 12 } : Room).cells ({ frames := 1, cells := 0, slots := 0, locals := 12 } : Room).slots) := by
  refine MetFree.of_bodySF (plainFor_of_name own_pn0) hisR ?_
  intro p e s m args below meth c s₁ Bd hml0 hP hK
  obtain ⟨rfl, hZ, hh⟩ := hP
  have hx := Bd.exec
  have hby := Bd.bytes
  have hml : c.maxLocals = 1 := hml0
  have hown : s.vm.findClass "java/lang/Record" = some m.cls := findClass_of_methodNamed Bd.named
  have hnm := (name_of_methodNamed Bd.named Bd.method).1
  have hlk : meth.locks = false := BodyLoose.notSynchronized Bd
  have X0 : Stand p l e ({ frames := 1, cells := 0, slots := 0, locals := 12 } : Room) s m #[(.ref a0)] below meth c s₁ [] 0 0 := Stand.of_body Bd
  have e0 : s₁.heap = h0 := by rw [← hh, Bd.state]; rfl
  have N0 := Fr.nil n0
  show Go p e below s (QP none h0 n0) ({ frames := 1, cells := 0, slots := 0, locals := 12 } : Room).cells ({ frames := 1, cells := 0, slots := 0, locals := 12 } : Room).slots (s₁.setTop (entryFrame m #[(.ref a0)] 1))
  refine Go.of (fun t k => castTop (ef_2 m a0) k) ?_
  show Go p e below s _ _ _ (s₁.setTop (mkF m 0 #[.val (.ref a0)] []))
  refine Go.of (fun t k => XS.aloadN X0.here hx rfl (hb hby d2_0) rfl rfl k) ?_
  show Go p e below s _ _ _ (s₁.setTop (mkF m 1 #[.val (.ref a0)] [(.ref a0)]))
  obtain ⟨T1, X1, e1, st1⟩ := initO X0 hx hZ hown (hw _ (List.mem_of_getElem? (i := 12) rfl)) (hw _ (List.mem_of_getElem? (i := 13) rfl)) (hw _ (List.mem_of_getElem? (i := 14) rfl)) e0 (g := (mkF m 1 #[.val (.ref a0)] [(.ref a0)])) rfl (by rw [hml]; rfl) rfl (hb hby d2_1) (by decide) (W := 0) (by show 2 * 0 + _ ≤ _; exact Nat.le_of_eq rfl) (by decide)
  refine Go.of st1 ?_
  show Go p e below s _ _ _ (T1.setTop (mkF m 4 #[.val (.ref a0)] []))
  exact Go.ret X1 none (fun _ => rfl) hlk ⟨rfl, N0, e1⟩ (by decide) (by decide) (fun fs hr => (X1.returnOut hx Bd.returns (hb hby d2_4) hr))
theorem own_pd0 : parseMethodDescriptor "()V" = some ⟨[], none⟩ := by decide +kernel
theorem own_pn1 : plainName "com/example/tidewall/tidewall/Address" = true := by first | (simp [plainName, overriddenIn]; done) | decide +kernel
theorem d1_0 : decode prog_1_method_1_code 0 = .ok (.aload_n 0, 1) := by decide +kernel
theorem d1_1 : decode prog_1_method_1_code 1 = .ok (.invokespecial 1, 3) := by decide +kernel
theorem d1_4 : decode prog_1_method_1_code 4 = .ok (.aload_n 0, 1) := by decide +kernel
theorem d1_5 : decode prog_1_method_1_code 5 = .ok (.lload_n 1, 1) := by decide +kernel
theorem d1_6 : decode prog_1_method_1_code 6 = .ok (.putfield 7, 3) := by decide +kernel
theorem d1_9 : decode prog_1_method_1_code 9 = .ok (.aload_n 0, 1) := by decide +kernel
theorem d1_10 : decode prog_1_method_1_code 10 = .ok (.lload_n 3, 1) := by decide +kernel
theorem d1_11 : decode prog_1_method_1_code 11 = .ok (.putfield 13, 3) := by decide +kernel
theorem d1_14 : decode prog_1_method_1_code 14 = .ok (.return_, 1) := by decide +kernel
theorem ef_1 (m : MethodId) (a0 : Addr) (q1 : Int64) (q2 : Int64) : entryFrame m #[(.ref a0), (.long q1), (.long q2)] 5 = mkF m 0 #[.val (.ref a0), .val (.long q1), .second, .val (.long q2), .second] [] := by first | (simp [entryFrame, mkF, argsToLocals, Value.category]; done) | rfl
def Q1 (Z : State) (a0 : Addr) (q1 : Int64) (q2 : Int64) (u_high_a0 : Value) (u_low_a0 : Value) (h0 : Heap) (n0 : Nat) (v : Option Value) (h : Heap) (L : List Loc) : Prop := v = none ∧ Fr n0 L ∧ Keep h0 h [a0] ∧ Exa Z h a0 "com/example/tidewall/tidewall/Address" ∧ Fld Z h a0 "com/example/tidewall/tidewall/Address" "high" "J" (.long q1) ∧ Fld Z h a0 "com/example/tidewall/tidewall/Address" "low" "J" (.long q2)
set_option maxRecDepth 65536 in
set_option maxHeartbeats 40000000 in
theorem rm1 (l : Launch) (Z : State) (az : Array Value) (hw : ∀ d ∈ tables_1, d.before az Z = true) (ws : List Jvm.Cond) (a0 : Addr) (q1 : Int64) (q2 : Int64) (u_high_a0 : Value) (u_low_a0 : Value) (h0 : Heap) (n0 : Nat) (Z0 : n0 ≤ h0.size) (E_a0 : Exa Z h0 a0 "com/example/tidewall/tidewall/Address") (Fp_high_a0 : Fld Z h0 a0 "com/example/tidewall/tidewall/Address" "high" "J" u_high_a0) (Fp_low_a0 : Fld Z h0 a0 "com/example/tidewall/tidewall/Address" "low" "J" u_low_a0) (g_a0 : n0 ≤ a0) :
    MetFree l (⟨"com/example/tidewall/tidewall/Address", "<init>", "(JJ)V"⟩ : MethodName) (head1 (Jvm.Cond.code (⟨"com/example/tidewall/tidewall/Address", "<init>", "(JJ)V"⟩ : MethodName) prog_1_method_1_code 5 none :: ws) ({ frames := 2, cells := 0, slots := 0, locals := 24 } : Room)) (fun a U => a = #[(.ref a0), (.long q1), (.long q2)] ∧ Z.Warmed39 U.vm ∧ U.heap = h0) (fun _ _ _ _ _ => True) (fun _ U o U' => ∃ v L, o = .returned v ∧ (Q1 Z a0 q1 q2 u_high_a0 u_low_a0 h0 n0) v U'.heap L ∧ FrameEnd U o U' L ({ frames := 2, cells := 0, slots := 0, locals := 24 } : Room).cells ({ frames := 2, cells := 0, slots := 0, locals := 24 } : Room).slots) := by
  refine MetFree.of_bodySF (plainFor_of_name own_pn1) hisR ?_
  intro p e s m args below meth c s₁ Bd hml0 hP hK
  obtain ⟨rfl, hZ, hh⟩ := hP
  have hx := Bd.exec
  have hby := Bd.bytes
  have hml : c.maxLocals = 5 := hml0
  have hown : s.vm.findClass "com/example/tidewall/tidewall/Address" = some m.cls := findClass_of_methodNamed Bd.named
  have hnm := (name_of_methodNamed Bd.named Bd.method).1
  have hlk : meth.locks = false := BodyLoose.notSynchronized Bd
  have X0 : Stand p l e ({ frames := 2, cells := 0, slots := 0, locals := 24 } : Room) s m #[(.ref a0), (.long q1), (.long q2)] below meth c s₁ [] 0 0 := Stand.of_body Bd
  have e0 : s₁.heap = h0 := by rw [← hh, Bd.state]; rfl
  have N0 := Fr.nil n0
  show Go p e below s (Q1 Z a0 q1 q2 u_high_a0 u_low_a0 h0 n0) ({ frames := 2, cells := 0, slots := 0, locals := 24 } : Room).cells ({ frames := 2, cells := 0, slots := 0, locals := 24 } : Room).slots (s₁.setTop (entryFrame m #[(.ref a0), (.long q1), (.long q2)] 5))
  refine Go.of (fun t k => castTop (ef_1 m a0 q1 q2) k) ?_
  show Go p e below s _ _ _ (s₁.setTop (mkF m 0 #[.val (.ref a0), .val (.long q1), .second, .val (.long q2), .second] []))
  refine Go.of (fun t k => XS.aloadN X0.here hx rfl (hb hby d1_0) rfl rfl k) ?_
  show Go p e below s _ _ _ (s₁.setTop (mkF m 1 #[.val (.ref a0), .val (.long q1), .second, .val (.long q2), .second] [(.ref a0)]))
  obtain ⟨_, _, ⟨T1, L1, k1, n1⟩, -, X1, ⟨Lc1, hQ1, l1, y1, z1⟩, st1⟩ := X0.specialBack hx (y := (⟨"java/lang/Record", "<init>", "()V"⟩ : MethodName)) rfl hown (mvT hZ (hw _ (List.mem_of_getElem? (i := 7) rfl))) (mvT hZ (hw _ (List.mem_of_getElem? (i := 8) rfl))) (mvT hZ (hw _ (List.mem_of_getElem? (i := 11) rfl))) (by decide) (backOf (W := 0) (rm2 l Z az hw [] a0  h0 n0 Z0 ) hZ (hw _ (List.mem_of_getElem? (i := 11) rfl)) (hw _ (List.mem_of_getElem? (i := 10) rfl)) (by decide) (by decide)) (g := (mkF m 1 #[.val (.ref a0), .val (.long q1), .second, .val (.long q2), .second] [(.ref a0)])) rfl (by rw [hml]; rfl) (Steps.refl _) (a := a0) (argsL := []) (rest := []) (lenOf own_pd0 rfl) rfl (by show 2 * 0 + _ ≤ _; exact Nat.le_of_eq rfl) (hb hby d1_1) (fun _ _ => ⟨rfl, e0, (by decide : 0 + 0 ≤ _), (by decide : 0 + 0 ≤ _)⟩)
  dsimp only [Pt.U, Pt.locs, Pt.cells, Pt.slots] at X1 l1 y1 z1 st1 hQ1
  subst l1 y1 z1
  obtain ⟨rfl, N1q, e1⟩ := hQ1
  have N1 := Fr.app N0 N1q
  refine Go.of (fun t k => st1.trans k) ?_
  show Go p e below s _ _ _ (T1.setTop (mkF m 4 #[.val (.ref a0), .val (.long q1), .second, .val (.long q2), .second] []))
  refine Go.of (fun t k => XS.aloadN X1.here hx rfl (hb hby d1_4) rfl rfl k) ?_
  show Go p e below s _ _ _ (T1.setTop (mkF m 5 #[.val (.ref a0), .val (.long q1), .second, .val (.long q2), .second] [(.ref a0)]))
  refine Go.of (fun t k => XS.lloadN X1.here hx rfl (hb hby d1_5) rfl k) ?_
  show Go p e below s _ _ _ (T1.setTop (mkF m 6 #[.val (.ref a0), .val (.long q1), .second, .val (.long q2), .second] [(.long q1), (.ref a0)]))
  obtain ⟨T2, h2, X2, e2, W2, st2⟩ := putF X1 hx hZ hown (host := "") (Or.inl (hw _ (List.mem_of_getElem? (i := 15) rfl))) Via.refl e1 Fp_high_a0 E_a0 (Or.inr ⟨(hw _ (List.mem_of_getElem? (i := 16) rfl)), rfl, hnm⟩) (hw _ (List.mem_of_getElem? (i := 2) rfl)) (ty := .long) (by decide) rfl rfl (g := (mkF m 6 #[.val (.ref a0), .val (.long q1), .second, .val (.long q2), .second] [(.long q1), (.ref a0)])) rfl rfl (hb hby d1_6)
  have f3 := Fp_high_a0.same W2
  have f4 := E_a0.wr W2
  have f5 := Fp_low_a0.other W2 (Or.inr (slot_ne (Or.inr (hw _ (List.mem_of_getElem? (i := 18) rfl))) (Or.inr (hw _ (List.mem_of_getElem? (i := 16) rfl))) (by decide) (t := .long) (t' := .long) (by decide) (by decide)))
  have N2 := Fr.snoc X2 N1 g_a0
  have K2 : Keep h0 h2 [a0] := Keep.wr (Keep.refl h0 [a0]) W2 (Or.inl (List.mem_of_getElem? (i := 0) rfl))
  refine Go.of st2 ?_
  show Go p e below s _ _ _ (T2.setTop (mkF m 9 #[.val (.ref a0), .val (.long q1), .second, .val (.long q2), .second] []))
  refine Go.of (fun t k => XS.aloadN X2.here hx rfl (hb hby d1_9) rfl rfl k) ?_
  show Go p e below s _ _ _ (T2.setTop (mkF m 10 #[.val (.ref a0), .val (.long q1), .second, .val (.long q2), .second] [(.ref a0)]))
  refine Go.of (fun t k => XS.lloadN X2.here hx rfl (hb hby d1_10) rfl k) ?_
  show Go p e below s _ _ _ (T2.setTop (mkF m 11 #[.val (.ref a0), .val (.long q1), .second, .val (.long q2), .second] [(.long q2), (.ref a0)]))
  obtain ⟨T6, h6, X6, e6, W6, st6⟩ := putF X2 hx hZ hown (host := "") (Or.inl (hw _ (List.mem_of_getElem? (i := 17) rfl))) Via.refl e2 f5 f4 (Or.inr ⟨(hw _ (List.mem_of_getElem? (i := 18) rfl)), rfl, hnm⟩) (hw _ (List.mem_of_getElem? (i := 2) rfl)) (ty := .long) (by decide) rfl rfl (g := (mkF m 11 #[.val (.ref a0), .val (.long q1), .second, .val (.long q2), .second] [(.long q2), (.ref a0)])) rfl rfl (hb hby d1_11)
  have f7 := f5.same W6
  have f8 := f4.wr W6
  have f9 := f3.other W6 (Or.inr (slot_ne (Or.inr (hw _ (List.mem_of_getElem? (i := 16) rfl))) (Or.inr (hw _ (List.mem_of_getElem? (i := 18) rfl))) (by decide) (t := .long) (t' := .long) (by decide) (by decide)))
  have N6 := Fr.snoc X6 N2 g_a0
  have K6 : Keep h0 h6 [a0] := Keep.wr K2 W6 (Or.inl (List.mem_of_getElem? (i := 0) rfl))
  refine Go.of st6 ?_
  show Go p e below s _ _ _ (T6.setTop (mkF m 14 #[.val (.ref a0), .val (.long q1), .second, .val (.long q2), .second] []))
  exact Go.ret X6 none (fun _ => rfl) hlk (by rw [e6]; exact ⟨rfl, N6, K6, f8, f9, f7⟩) (by decide) (by decide) (fun fs hr => (X6.returnOut hx Bd.returns (hb hby d1_14) hr))
theorem d5_0 : decode jdk_29_method_69_code 0 = .ok (.iload_n 0, 1) := by decide +kernel
theorem d5_1 : decode jdk_29_method_69_code 1 = .ok (.iload_n 1, 1) := by decide +kernel
theorem d5_2 : decode jdk_29_method_69_code 2 = .ok (.if_icmp .gt 7, 3) := by decide +kernel
theorem d5_5 : decode jdk_29_method_69_code 5 = .ok (.iload_n 0, 1) := by decide +kernel
theorem d5_6 : decode jdk_29_method_69_code 6 = .ok (.goto 4, 3) := by decide +kernel
theorem d5_9 : decode jdk_29_method_69_code 9 = .ok (.iload_n 1, 1) := by decide +kernel
theorem d5_10 : decode jdk_29_method_69_code 10 = .ok (.ireturn, 1) := by decide +kernel
theorem ef_5 (m : MethodId) (p0 : Int32) (p1 : Int32) : entryFrame m #[(.int p0), (.int p1)] 2 = mkF m 0 #[.val (.int p0), .val (.int p1)] [] := by first | (simp [entryFrame, mkF, argsToLocals, Value.category]; done) | rfl
def F5 (p0 : Int32) (p1 : Int32) : Int32 := (if p1 < p0 then p1 else p0)
set_option maxRecDepth 65536 in
set_option maxHeartbeats 40000000 in
theorem rm5 (l : Launch) (Z : State) (az : Array Value) (hw : ∀ d ∈ tables_1, d.before az Z = true) (ws : List Jvm.Cond) (p0 : Int32) (p1 : Int32)  (h0 : Heap) (n0 : Nat) (Z0 : n0 ≤ h0.size) :
    MetFree l (⟨"java/lang/Math", "min", "(II)I"⟩ : MethodName) (head1 (Jvm.Cond.code (⟨"java/lang/Math", "min", "(II)I"⟩ : MethodName) jdk_29_method_69_code 2 (some .int) :: ws) ({ frames := 0, cells := 0, slots := 0, locals := 0 } : Room)) (fun a U => a = #[(.int p0), (.int p1)] ∧ Z.Warmed39 U.vm ∧ U.heap = h0) (fun _ _ _ _ _ => True) (fun _ U o U' => ∃ v L, o = .returned v ∧ (QP (some (.int (F5 p0 p1))) h0 n0) v U'.heap L ∧ FrameEnd U o U' L ({ frames := 0, cells := 0, slots := 0, locals := 0 } : Room).cells ({ frames := 0, cells := 0, slots := 0, locals := 0 } : Room).slots) := by
  refine MetFree.of_bodySF (Jvm.Free.JP.mathPlain rfl (by decide +kernel)) hisR ?_
  intro p e s m args below meth c s₁ Bd hml0 hP hK
  obtain ⟨rfl, hZ, hh⟩ := hP
  have hx := Bd.exec
  have hby := Bd.bytes
  have hml : c.maxLocals = 2 := hml0
  have hown : s.vm.findClass "java/lang/Math" = some m.cls := findClass_of_methodNamed Bd.named
  have hnm := (name_of_methodNamed Bd.named Bd.method).1
  have hlk : meth.locks = false := BodyLoose.notSynchronized Bd
  have X0 : Stand p l e ({ frames := 0, cells := 0, slots := 0, locals := 0 } : Room) s m #[(.int p0), (.int p1)] below meth c s₁ [] 0 0 := Stand.of_body Bd
  have e0 : s₁.heap = h0 := by rw [← hh, Bd.state]; rfl
  have N0 := Fr.nil n0
  show Go p e below s (QP (some (.int (F5 p0 p1))) h0 n0) ({ frames := 0, cells := 0, slots := 0, locals := 0 } : Room).cells ({ frames := 0, cells := 0, slots := 0, locals := 0 } : Room).slots (s₁.setTop (entryFrame m #[(.int p0), (.int p1)] 2))
  refine Go.of (fun t k => castTop (ef_5 m p0 p1) k) ?_
  show Go p e below s _ _ _ (s₁.setTop (mkF m 0 #[.val (.int p0), .val (.int p1)] []))
  unfold F5
  refine Go.of (fun t k => XS.iloadN X0.here hx rfl (hb hby d5_0) rfl k) ?_
  show Go p e below s _ _ _ (s₁.setTop (mkF m 1 #[.val (.int p0), .val (.int p1)] [(.int p0)]))
  refine Go.of (fun t k => XS.iloadN X0.here hx rfl (hb hby d5_1) rfl k) ?_
  show Go p e below s _ _ _ (s₁.setTop (mkF m 2 #[.val (.int p0), .val (.int p1)] [(.int p1), (.int p0)]))
  by_cases hc2_1 : p1 < p0
  · rewrite [if_pos hc2_1]
    refine Go.of (fun t k => XS.icmpYes X0.here hx rfl (pc0 := 2) (pc' := 9) rfl (hb hby d5_2) rfl (tlt hc2_1).2.2.1 (by decide) (by decide) k) ?_
    show Go p e below s _ _ _ (s₁.setTop (mkF m 9 #[.val (.int p0), .val (.int p1)] []))
    refine Go.of (fun t k => XS.iloadN X0.here hx rfl (hb hby d5_9) rfl k) ?_
    show Go p e below s _ _ _ (s₁.setTop (mkF m 10 #[.val (.int p0), .val (.int p1)] [(.int p1)]))
    exact Go.ret X0 (some (.int p1)) (fun h => by rw [Bd.returns] at h; cases h) hlk ⟨rfl, N0, e0⟩ (by decide) (by decide) (fun fs hr => (retI X0 hx Bd.returns (hb hby d5_10) hr))
  · rewrite [if_neg hc2_1]
    refine Go.of (fun t k => XS.icmpNo X0.here hx rfl (hb hby d5_2) rfl (flt hc2_1).2.2.1 k) ?_
    show Go p e below s _ _ _ (s₁.setTop (mkF m 5 #[.val (.int p0), .val (.int p1)] []))
    refine Go.of (fun t k => XS.iloadN X0.here hx rfl (hb hby d5_5) rfl k) ?_
    show Go p e below s _ _ _ (s₁.setTop (mkF m 6 #[.val (.int p0), .val (.int p1)] [(.int p0)]))
    refine Go.of (fun t k => XS.goto X0.here hx rfl (pc0 := 6) (pc' := 10) rfl (hb hby d5_6) (by decide) (by decide) k) ?_
    show Go p e below s _ _ _ (s₁.setTop (mkF m 10 #[.val (.int p0), .val (.int p1)] [(.int p0)]))
    exact Go.ret X0 (some (.int p0)) (fun h => by rw [Bd.returns] at h; cases h) hlk ⟨rfl, N0, e0⟩ (by decide) (by decide) (fun fs hr => (retI X0 hx Bd.returns (hb hby d5_10) hr))
theorem d6_0 : decode prog_1_method_7_code 0 = .ok (.iload_n 0, 1) := by decide +kernel
theorem d6_1 : decode prog_1_method_7_code 1 = .ok (.ifCond .ne 7, 3) := by decide +kernel
theorem d6_4 : decode prog_1_method_7_code 4 = .ok (.lconst 0, 1) := by decide +kernel
theorem d6_5 : decode prog_1_method_7_code 5 = .ok (.goto 11, 3) := by decide +kernel
theorem d6_8 : decode prog_1_method_7_code 8 = .ok (.ldc2_w 98, 3) := by decide +kernel
theorem d6_11 : decode prog_1_method_7_code 11 = .ok (.bipush 64, 2) := by decide +kernel
theorem d6_13 : decode prog_1_method_7_code 13 = .ok (.iload_n 0, 1) := by decide +kernel
theorem d6_14 : decode prog_1_method_7_code 14 = .ok (.isub, 1) := by decide +kernel
theorem d6_15 : decode prog_1_method_7_code 15 = .ok (.lshl, 1) := by decide +kernel
theorem d6_16 : decode prog_1_method_7_code 16 = .ok (.lreturn, 1) := by decide +kernel
theorem ef_6 (m : MethodId) (p0 : Int32) : entryFrame m #[(.int p0)] 1 = mkF m 0 #[.val (.int p0)] [] := by first | (simp [entryFrame, mkF, argsToLocals, Value.category]; done) | rfl
def F6 (p0 : Int32) : Int64 := (if p0 = (0 : Int32) then (0 : Int64) else ((-1 : Int64) <<< (((64 : Int32) - p0) &&& 0x3f).toInt64))
set_option maxRecDepth 65536 in
set_option maxHeartbeats 40000000 in
theorem rm6 (l : Launch) (Z : State) (az : Array Value) (hw : ∀ d ∈ tables_1, d.before az Z = true) (ws : List Jvm.Cond) (p0 : Int32)  (h0 : Heap) (n0 : Nat) (Z0 : n0 ≤ h0.size) :
    MetFree l (⟨"com/example/tidewall/tidewall/Address", "firstBits", "(I)J"⟩ : MethodName) (head1 (Jvm.Cond.code (⟨"com/example/tidewall/tidewall/Address", "firstBits", "(I)J"⟩ : MethodName) prog_1_method_7_code 1 (some .long) :: ws) ({ frames := 0, cells := 0, slots := 0, locals := 0 } : Room)) (fun a U => a = #[(.int p0)] ∧ Z.Warmed39 U.vm ∧ U.heap = h0) (fun _ _ _ _ _ => True) (fun _ U o U' => ∃ v L, o = .returned v ∧ (QP (some (.long (F6 p0))) h0 n0) v U'.heap L ∧ FrameEnd U o U' L ({ frames := 0, cells := 0, slots := 0, locals := 0 } : Room).cells ({ frames := 0, cells := 0, slots := 0, locals := 0 } : Room).slots) := by
  refine MetFree.of_bodySF (plainFor_of_name own_pn1) hisR ?_
  intro p e s m args below meth c s₁ Bd hml0 hP hK
  obtain ⟨rfl, hZ, hh⟩ := hP
  have hx := Bd.exec
  have hby := Bd.bytes
  have hml : c.maxLocals = 1 := hml0
  have hown : s.vm.findClass "com/example/tidewall/tidewall/Address" = some m.cls := findClass_of_methodNamed Bd.named
  have hnm := (name_of_methodNamed Bd.named Bd.method).1
  have hlk : meth.locks = false := BodyLoose.notSynchronized Bd
  have X0 : Stand p l e ({ frames := 0, cells := 0, slots := 0, locals := 0 } : Room) s m #[(.int p0)] below meth c s₁ [] 0 0 := Stand.of_body Bd
  have e0 : s₁.heap = h0 := by rw [← hh, Bd.state]; rfl
  have N0 := Fr.nil n0
  show Go p e below s (QP (some (.long (F6 p0))) h0 n0) ({ frames := 0, cells := 0, slots := 0, locals := 0 } : Room).cells ({ frames := 0, cells := 0, slots := 0, locals := 0 } : Room).slots (s₁.setTop (entryFrame m #[(.int p0)] 1))
  refine Go.of (fun t k => castTop (ef_6 m p0) k) ?_
  show Go p e below s _ _ _ (s₁.setTop (mkF m 0 #[.val (.int p0)] []))
  unfold F6
  refine Go.of (fun t k => XS.iloadN X0.here hx rfl (hb hby d6_0) rfl k) ?_
  show Go p e below s _ _ _ (s₁.setTop (mkF m 1 #[.val (.int p0)] [(.int p0)]))
  by_cases hc1_1 : p0 = (0 : Int32)
  · rewrite [if_pos hc1_1]
    refine Go.of (fun t k => XS.ifNo X0.here hx rfl (hb hby d6_1) rfl ((if0 _ _).trans (teq hc1_1).2) k) ?_
    show Go p e below s _ _ _ (s₁.setTop (mkF m 4 #[.val (.int p0)] []))
    refine Go.of (fun t k => XS.lconst X0.here hx rfl (hb hby d6_4) k) ?_
    show Go p e below s _ _ _ (s₁.setTop (mkF m 5 #[.val (.int p0)] [(.long (0 : Int64))]))
    refine Go.of (fun t k => XS.goto X0.here hx rfl (pc0 := 5) (pc' := 16) rfl (hb hby d6_5) (by decide) (by decide) k) ?_
    show Go p e below s _ _ _ (s₁.setTop (mkF m 16 #[.val (.int p0)] [(.long (0 : Int64))]))
    exact Go.ret X0 (some (.long (0 : Int64))) (fun h => by rw [Bd.returns] at h; cases h) hlk ⟨rfl, N0, e0⟩ (by decide) (by decide) (fun fs hr => (retOut X0 hx Bd.returns rfl (Or.inr (Or.inl ⟨rfl, rfl, _, rfl⟩)) (hb hby d6_16) hr))
  · rewrite [if_neg hc1_1]
    refine Go.of (fun t k => XS.ifYes X0.here hx rfl (pc0 := 1) (pc' := 8) rfl (hb hby d6_1) rfl ((if0 _ _).trans (feq hc1_1).2) (by decide) (by decide) k) ?_
    show Go p e below s _ _ _ (s₁.setTop (mkF m 8 #[.val (.int p0)] []))
    refine Go.of (X0.ldc2Long hx hown (mvT hZ (hw _ (List.mem_of_getElem? (i := 53) rfl))) (g := (mkF m 8 #[.val (.int p0)] [])) rfl (hb hby d6_8)) ?_
    show Go p e below s _ _ _ (s₁.setTop (mkF m 11 #[.val (.int p0)] [(.long (-1 : Int64))]))
    refine Go.of (fun t k => XS.bipush X0.here hx rfl (hb hby d6_11) k) ?_
    show Go p e below s _ _ _ (s₁.setTop (mkF m 13 #[.val (.int p0)] [(.int (64 : Int32)), (.long (-1 : Int64))]))
    refine Go.of (fun t k => XS.iloadN X0.here hx rfl (hb hby d6_13) rfl k) ?_
    show Go p e below s _ _ _ (s₁.setTop (mkF m 14 #[.val (.int p0)] [(.int p0), (.int (64 : Int32)), (.long (-1 : Int64))]))
    refine Go.of (fun t k => XS.isub X0.here hx rfl (hb hby d6_14) rfl k) ?_
    show Go p e below s _ _ _ (s₁.setTop (mkF m 15 #[.val (.int p0)] [(.int ((64 : Int32) - p0)), (.long (-1 : Int64))]))
    refine Go.of (fun t k => XS.lshl X0.here hx rfl (hb hby d6_15) rfl k) ?_
    show Go p e below s _ _ _ (s₁.setTop (mkF m 16 #[.val (.int p0)] [(.long ((-1 : Int64) <<< (((64 : Int32) - p0) &&& 0x3f).toInt64))]))
    exact Go.ret X0 (some (.long ((-1 : Int64) <<< (((64 : Int32) - p0) &&& 0x3f).toInt64))) (fun h => by rw [Bd.returns] at h; cases h) hlk ⟨rfl, N0, e0⟩ (by decide) (by decide) (fun fs hr => (retOut X0 hx Bd.returns rfl (Or.inr (Or.inl ⟨rfl, rfl, _, rfl⟩)) (hb hby d6_16) hr))
theorem d7_0 : decode jdk_29_method_65_code 0 = .ok (.iload_n 0, 1) := by decide +kernel
theorem d7_1 : decode jdk_29_method_65_code 1 = .ok (.iload_n 1, 1) := by decide +kernel
theorem d7_2 : decode jdk_29_method_65_code 2 = .ok (.if_icmp .lt 7, 3) := by decide +kernel
theorem d7_5 : decode jdk_29_method_65_code 5 = .ok (.iload_n 0, 1) := by decide +kernel
theorem d7_6 : decode jdk_29_method_65_code 6 = .ok (.goto 4, 3) := by decide +kernel
theorem d7_9 : decode jdk_29_method_65_code 9 = .ok (.iload_n 1, 1) := by decide +kernel
theorem d7_10 : decode jdk_29_method_65_code 10 = .ok (.ireturn, 1) := by decide +kernel
theorem ef_7 (m : MethodId) (p0 : Int32) (p1 : Int32) : entryFrame m #[(.int p0), (.int p1)] 2 = mkF m 0 #[.val (.int p0), .val (.int p1)] [] := by first | (simp [entryFrame, mkF, argsToLocals, Value.category]; done) | rfl
def F7 (p0 : Int32) (p1 : Int32) : Int32 := (if p0 < p1 then p1 else p0)
set_option maxRecDepth 65536 in
set_option maxHeartbeats 40000000 in
theorem rm7 (l : Launch) (Z : State) (az : Array Value) (hw : ∀ d ∈ tables_1, d.before az Z = true) (ws : List Jvm.Cond) (p0 : Int32) (p1 : Int32)  (h0 : Heap) (n0 : Nat) (Z0 : n0 ≤ h0.size) :
    MetFree l (⟨"java/lang/Math", "max", "(II)I"⟩ : MethodName) (head1 (Jvm.Cond.code (⟨"java/lang/Math", "max", "(II)I"⟩ : MethodName) jdk_29_method_65_code 2 (some .int) :: ws) ({ frames := 0, cells := 0, slots := 0, locals := 0 } : Room)) (fun a U => a = #[(.int p0), (.int p1)] ∧ Z.Warmed39 U.vm ∧ U.heap = h0) (fun _ _ _ _ _ => True) (fun _ U o U' => ∃ v L, o = .returned v ∧ (QP (some (.int (F7 p0 p1))) h0 n0) v U'.heap L ∧ FrameEnd U o U' L ({ frames := 0, cells := 0, slots := 0, locals := 0 } : Room).cells ({ frames := 0, cells := 0, slots := 0, locals := 0 } : Room).slots) := by
  refine MetFree.of_bodySF (Jvm.Free.JP.mathPlain rfl (by decide +kernel)) hisR ?_
  intro p e s m args below meth c s₁ Bd hml0 hP hK
  obtain ⟨rfl, hZ, hh⟩ := hP
  have hx := Bd.exec
  have hby := Bd.bytes
  have hml : c.maxLocals = 2 := hml0
  have hown : s.vm.findClass "java/lang/Math" = some m.cls := findClass_of_methodNamed Bd.named
  have hnm := (name_of_methodNamed Bd.named Bd.method).1
  have hlk : meth.locks = false := BodyLoose.notSynchronized Bd
  have X0 : Stand p l e ({ frames := 0, cells := 0, slots := 0, locals := 0 } : Room) s m #[(.int p0), (.int p1)] below meth c s₁ [] 0 0 := Stand.of_body Bd
  have e0 : s₁.heap = h0 := by rw [← hh, Bd.state]; rfl
  have N0 := Fr.nil n0
  show Go p e below s (QP (some (.int (F7 p0 p1))) h0 n0) ({ frames := 0, cells := 0, slots := 0, locals := 0 } : Room).cells ({ frames := 0, cells := 0, slots := 0, locals := 0 } : Room).slots (s₁.setTop (entryFrame m #[(.int p0), (.int p1)] 2))
  refine Go.of (fun t k => castTop (ef_7 m p0 p1) k) ?_
  show Go p e below s _ _ _ (s₁.setTop (mkF m 0 #[.val (.int p0), .val (.int p1)] []))
  unfold F7
  refine Go.of (fun t k => XS.iloadN X0.here hx rfl (hb hby d7_0) rfl k) ?_
  show Go p e below s _ _ _ (s₁.setTop (mkF m 1 #[.val (.int p0), .val (.int p1)] [(.int p0)]))
  refine Go.of (fun t k => XS.iloadN X0.here hx rfl (hb hby d7_1) rfl k) ?_
  show Go p e below s _ _ _ (s₁.setTop (mkF m 2 #[.val (.int p0), .val (.int p1)] [(.int p1), (.int p0)]))
  by_cases hc2_1 : p0 < p1
  · rewrite [if_pos hc2_1]
    refine Go.of (fun t k => XS.icmpYes X0.here hx rfl (pc0 := 2) (pc' := 9) rfl (hb hby d7_2) rfl (tlt hc2_1).1 (by decide) (by decide) k) ?_
    show Go p e below s _ _ _ (s₁.setTop (mkF m 9 #[.val (.int p0), .val (.int p1)] []))
    refine Go.of (fun t k => XS.iloadN X0.here hx rfl (hb hby d7_9) rfl k) ?_
    show Go p e below s _ _ _ (s₁.setTop (mkF m 10 #[.val (.int p0), .val (.int p1)] [(.int p1)]))
    exact Go.ret X0 (some (.int p1)) (fun h => by rw [Bd.returns] at h; cases h) hlk ⟨rfl, N0, e0⟩ (by decide) (by decide) (fun fs hr => (retI X0 hx Bd.returns (hb hby d7_10) hr))
  · rewrite [if_neg hc2_1]
    refine Go.of (fun t k => XS.icmpNo X0.here hx rfl (hb hby d7_2) rfl (flt hc2_1).1 k) ?_
    show Go p e below s _ _ _ (s₁.setTop (mkF m 5 #[.val (.int p0), .val (.int p1)] []))
    refine Go.of (fun t k => XS.iloadN X0.here hx rfl (hb hby d7_5) rfl k) ?_
    show Go p e below s _ _ _ (s₁.setTop (mkF m 6 #[.val (.int p0), .val (.int p1)] [(.int p0)]))
    refine Go.of (fun t k => XS.goto X0.here hx rfl (pc0 := 6) (pc' := 10) rfl (hb hby d7_6) (by decide) (by decide) k) ?_
    show Go p e below s _ _ _ (s₁.setTop (mkF m 10 #[.val (.int p0), .val (.int p1)] [(.int p0)]))
    exact Go.ret X0 (some (.int p0)) (fun h => by rw [Bd.returns] at h; cases h) hlk ⟨rfl, N0, e0⟩ (by decide) (by decide) (fun fs hr => (retI X0 hx Bd.returns (hb hby d7_10) hr))
theorem own_pn2 : plainName "com/example/tidewall/tidewall/AddressPrefixPinLaw" = true := by first | (simp [plainName, overriddenIn]; done) | decide +kernel
theorem d9_0 : decode method_2_code 0 = .ok (.iload_n 2, 1) := by decide +kernel
theorem d9_1 : decode method_2_code 1 = .ok (.bipush 64, 2) := by decide +kernel
theorem d9_3 : decode method_2_code 3 = .ok (.if_icmp .lt 5, 3) := by decide +kernel
theorem d9_6 : decode method_2_code 6 = .ok (.lload_n 0, 1) := by decide +kernel
theorem d9_7 : decode method_2_code 7 = .ok (.lreturn, 1) := by decide +kernel
theorem d9_8 : decode method_2_code 8 = .ok (.iload_n 2, 1) := by decide +kernel
theorem d9_9 : decode method_2_code 9 = .ok (.ifCond .ne 5, 3) := by decide +kernel
theorem d9_12 : decode method_2_code 12 = .ok (.lconst 0, 1) := by decide +kernel
theorem d9_13 : decode method_2_code 13 = .ok (.lreturn, 1) := by decide +kernel
theorem d9_14 : decode method_2_code 14 = .ok (.bipush 64, 2) := by decide +kernel
theorem d9_16 : decode method_2_code 16 = .ok (.iload_n 2, 1) := by decide +kernel
theorem d9_17 : decode method_2_code 17 = .ok (.isub, 1) := by decide +kernel
theorem d9_18 : decode method_2_code 18 = .ok (.istore_n 3, 1) := by decide +kernel
theorem d9_19 : decode method_2_code 19 = .ok (.lload_n 0, 1) := by decide +kernel
theorem d9_20 : decode method_2_code 20 = .ok (.iload_n 3, 1) := by decide +kernel
theorem d9_21 : decode method_2_code 21 = .ok (.lushr, 1) := by decide +kernel
theorem d9_22 : decode method_2_code 22 = .ok (.iload_n 3, 1) := by decide +kernel
theorem d9_23 : decode method_2_code 23 = .ok (.lshl, 1) := by decide +kernel
theorem d9_24 : decode method_2_code 24 = .ok (.lreturn, 1) := by decide +kernel
theorem ef_9 (m : MethodId) (q0 : Int64) (p1 : Int32) : entryFrame m #[(.long q0), (.int p1)] 4 = mkF m 0 #[.val (.long q0), .second, .val (.int p1), .unset] [] := by first | (simp [entryFrame, mkF, argsToLocals, Value.category]; done) | rfl
def F9 (q0 : Int64) (p1 : Int32) : Int64 := (if p1 < (64 : Int32) then (if p1 = (0 : Int32) then (0 : Int64) else (((q0.toUInt64 >>> (((64 : Int32) - p1) &&& 0x3f).toInt64.toUInt64).toInt64) <<< (((64 : Int32) - p1) &&& 0x3f).toInt64)) else q0)
set_option maxRecDepth 65536 in
set_option maxHeartbeats 40000000 in
theorem rm9 (l : Launch) (Z : State) (az : Array Value) (hw : ∀ d ∈ tables_1, d.before az Z = true) (ws : List Jvm.Cond) (q0 : Int64) (p1 : Int32)  (h0 : Heap) (n0 : Nat) (Z0 : n0 ≤ h0.size) :
    MetFree l (⟨"com/example/tidewall/tidewall/AddressPrefixPinLaw", "expectedHigh", "(JI)J"⟩ : MethodName) (head1 (Jvm.Cond.code (⟨"com/example/tidewall/tidewall/AddressPrefixPinLaw", "expectedHigh", "(JI)J"⟩ : MethodName) method_2_code 4 (some .long) :: ws) ({ frames := 0, cells := 0, slots := 0, locals := 0 } : Room)) (fun a U => a = #[(.long q0), (.int p1)] ∧ Z.Warmed39 U.vm ∧ U.heap = h0) (fun _ _ _ _ _ => True) (fun _ U o U' => ∃ v L, o = .returned v ∧ (QP (some (.long (F9 q0 p1))) h0 n0) v U'.heap L ∧ FrameEnd U o U' L ({ frames := 0, cells := 0, slots := 0, locals := 0 } : Room).cells ({ frames := 0, cells := 0, slots := 0, locals := 0 } : Room).slots) := by
  refine MetFree.of_bodySF (plainFor_of_name own_pn2) hisR ?_
  intro p e s m args below meth c s₁ Bd hml0 hP hK
  obtain ⟨rfl, hZ, hh⟩ := hP
  have hx := Bd.exec
  have hby := Bd.bytes
  have hml : c.maxLocals = 4 := hml0
  have hown : s.vm.findClass "com/example/tidewall/tidewall/AddressPrefixPinLaw" = some m.cls := findClass_of_methodNamed Bd.named
  have hnm := (name_of_methodNamed Bd.named Bd.method).1
  have hlk : meth.locks = false := BodyLoose.notSynchronized Bd
  have X0 : Stand p l e ({ frames := 0, cells := 0, slots := 0, locals := 0 } : Room) s m #[(.long q0), (.int p1)] below meth c s₁ [] 0 0 := Stand.of_body Bd
  have e0 : s₁.heap = h0 := by rw [← hh, Bd.state]; rfl
  have N0 := Fr.nil n0
  show Go p e below s (QP (some (.long (F9 q0 p1))) h0 n0) ({ frames := 0, cells := 0, slots := 0, locals := 0 } : Room).cells ({ frames := 0, cells := 0, slots := 0, locals := 0 } : Room).slots (s₁.setTop (entryFrame m #[(.long q0), (.int p1)] 4))
  refine Go.of (fun t k => castTop (ef_9 m q0 p1) k) ?_
  show Go p e below s _ _ _ (s₁.setTop (mkF m 0 #[.val (.long q0), .second, .val (.int p1), .unset] []))
  unfold F9
  refine Go.of (fun t k => XS.iloadN X0.here hx rfl (hb hby d9_0) rfl k) ?_
  show Go p e below s _ _ _ (s₁.setTop (mkF m 1 #[.val (.long q0), .second, .val (.int p1), .unset] [(.int p1)]))
  refine Go.of (fun t k => XS.bipush X0.here hx rfl (hb hby d9_1) k) ?_
  show Go p e below s _ _ _ (s₁.setTop (mkF m 3 #[.val (.long q0), .second, .val (.int p1), .unset] [(.int (64 : Int32)), (.int p1)]))
  by_cases hc3_1 : p1 < (64 : Int32)
  · rewrite [if_pos hc3_1]
    refine Go.of (fun t k => XS.icmpYes X0.here hx rfl (pc0 := 3) (pc' := 8) rfl (hb hby d9_3) rfl (tlt hc3_1).1 (by decide) (by decide) k) ?_
    show Go p e below s _ _ _ (s₁.setTop (mkF m 8 #[.val (.long q0), .second, .val (.int p1), .unset] []))
    refine Go.of (fun t k => XS.iloadN X0.here hx rfl (hb hby d9_8) rfl k) ?_
    show Go p e below s _ _ _ (s₁.setTop (mkF m 9 #[.val (.long q0), .second, .val (.int p1), .unset] [(.int p1)]))
    by_cases hc9_2 : p1 = (0 : Int32)
    · rewrite [if_pos hc9_2]
      refine Go.of (fun t k => XS.ifNo X0.here hx rfl (hb hby d9_9) rfl ((if0 _ _).trans (teq hc9_2).2) k) ?_
      show Go p e below s _ _ _ (s₁.setTop (mkF m 12 #[.val (.long q0), .second, .val (.int p1), .unset] []))
      refine Go.of (fun t k => XS.lconst X0.here hx rfl (hb hby d9_12) k) ?_
      show Go p e below s _ _ _ (s₁.setTop (mkF m 13 #[.val (.long q0), .second, .val (.int p1), .unset] [(.long (0 : Int64))]))
      exact Go.ret X0 (some (.long (0 : Int64))) (fun h => by rw [Bd.returns] at h; cases h) hlk ⟨rfl, N0, e0⟩ (by decide) (by decide) (fun fs hr => (retOut X0 hx Bd.returns rfl (Or.inr (Or.inl ⟨rfl, rfl, _, rfl⟩)) (hb hby d9_13) hr))
    · rewrite [if_neg hc9_2]
      refine Go.of (fun t k => XS.ifYes X0.here hx rfl (pc0 := 9) (pc' := 14) rfl (hb hby d9_9) rfl ((if0 _ _).trans (feq hc9_2).2) (by decide) (by decide) k) ?_
      show Go p e below s _ _ _ (s₁.setTop (mkF m 14 #[.val (.long q0), .second, .val (.int p1), .unset] []))
      refine Go.of (fun t k => XS.bipush X0.here hx rfl (hb hby d9_14) k) ?_
      show Go p e below s _ _ _ (s₁.setTop (mkF m 16 #[.val (.long q0), .second, .val (.int p1), .unset] [(.int (64 : Int32))]))
      refine Go.of (fun t k => XS.iloadN X0.here hx rfl (hb hby d9_16) rfl k) ?_
      show Go p e below s _ _ _ (s₁.setTop (mkF m 17 #[.val (.long q0), .second, .val (.int p1), .unset] [(.int p1), (.int (64 : Int32))]))
      refine Go.of (fun t k => XS.isub X0.here hx rfl (hb hby d9_17) rfl k) ?_
      show Go p e below s _ _ _ (s₁.setTop (mkF m 18 #[.val (.long q0), .second, .val (.int p1), .unset] [(.int ((64 : Int32) - p1))]))
      refine Go.of (fun t k => XS.istoreN X0.here hx rfl (hb hby d9_18) rfl (l' := #[.val (.long q0), .second, .val (.int p1), .val (.int ((64 : Int32) - p1))]) rfl k) ?_
      show Go p e below s _ _ _ (s₁.setTop (mkF m 19 #[.val (.long q0), .second, .val (.int p1), .val (.int ((64 : Int32) - p1))] []))
      refine Go.of (fun t k => XS.lloadN X0.here hx rfl (hb hby d9_19) rfl k) ?_
      show Go p e below s _ _ _ (s₁.setTop (mkF m 20 #[.val (.long q0), .second, .val (.int p1), .val (.int ((64 : Int32) - p1))] [(.long q0)]))
      refine Go.of (fun t k => XS.iloadN X0.here hx rfl (hb hby d9_20) rfl k) ?_
      show Go p e below s _ _ _ (s₁.setTop (mkF m 21 #[.val (.long q0), .second, .val (.int p1), .val (.int ((64 : Int32) - p1))] [(.int ((64 : Int32) - p1)), (.long q0)]))
      refine Go.of (fun t k => XS.lushr X0.here hx rfl (hb hby d9_21) rfl k) ?_
      show Go p e below s _ _ _ (s₁.setTop (mkF m 22 #[.val (.long q0), .second, .val (.int p1), .val (.int ((64 : Int32) - p1))] [(.long ((q0.toUInt64 >>> (((64 : Int32) - p1) &&& 0x3f).toInt64.toUInt64).toInt64))]))
      refine Go.of (fun t k => XS.iloadN X0.here hx rfl (hb hby d9_22) rfl k) ?_
      show Go p e below s _ _ _ (s₁.setTop (mkF m 23 #[.val (.long q0), .second, .val (.int p1), .val (.int ((64 : Int32) - p1))] [(.int ((64 : Int32) - p1)), (.long ((q0.toUInt64 >>> (((64 : Int32) - p1) &&& 0x3f).toInt64.toUInt64).toInt64))]))
      refine Go.of (fun t k => XS.lshl X0.here hx rfl (hb hby d9_23) rfl k) ?_
      show Go p e below s _ _ _ (s₁.setTop (mkF m 24 #[.val (.long q0), .second, .val (.int p1), .val (.int ((64 : Int32) - p1))] [(.long (((q0.toUInt64 >>> (((64 : Int32) - p1) &&& 0x3f).toInt64.toUInt64).toInt64) <<< (((64 : Int32) - p1) &&& 0x3f).toInt64))]))
      exact Go.ret X0 (some (.long (((q0.toUInt64 >>> (((64 : Int32) - p1) &&& 0x3f).toInt64.toUInt64).toInt64) <<< (((64 : Int32) - p1) &&& 0x3f).toInt64))) (fun h => by rw [Bd.returns] at h; cases h) hlk ⟨rfl, N0, e0⟩ (by decide) (by decide) (fun fs hr => (retOut X0 hx Bd.returns rfl (Or.inr (Or.inl ⟨rfl, rfl, _, rfl⟩)) (hb hby d9_24) hr))
  · rewrite [if_neg hc3_1]
    refine Go.of (fun t k => XS.icmpNo X0.here hx rfl (hb hby d9_3) rfl (flt hc3_1).1 k) ?_
    show Go p e below s _ _ _ (s₁.setTop (mkF m 6 #[.val (.long q0), .second, .val (.int p1), .unset] []))
    refine Go.of (fun t k => XS.lloadN X0.here hx rfl (hb hby d9_6) rfl k) ?_
    show Go p e below s _ _ _ (s₁.setTop (mkF m 7 #[.val (.long q0), .second, .val (.int p1), .unset] [(.long q0)]))
    exact Go.ret X0 (some (.long q0)) (fun h => by rw [Bd.returns] at h; cases h) hlk ⟨rfl, N0, e0⟩ (by decide) (by decide) (fun fs hr => (retOut X0 hx Bd.returns rfl (Or.inr (Or.inl ⟨rfl, rfl, _, rfl⟩)) (hb hby d9_7) hr))
theorem d11_0 : decode method_3_code 0 = .ok (.iload_n 2, 1) := by decide +kernel
theorem d11_1 : decode method_3_code 1 = .ok (.bipush 64, 2) := by decide +kernel
theorem d11_3 : decode method_3_code 3 = .ok (.if_icmp .gt 5, 3) := by decide +kernel
theorem d11_6 : decode method_3_code 6 = .ok (.lconst 0, 1) := by decide +kernel
theorem d11_7 : decode method_3_code 7 = .ok (.lreturn, 1) := by decide +kernel
theorem d11_8 : decode method_3_code 8 = .ok (.iload_n 2, 1) := by decide +kernel
theorem d11_9 : decode method_3_code 9 = .ok (.sipush 128, 3) := by decide +kernel
theorem d11_12 : decode method_3_code 12 = .ok (.if_icmp .ne 5, 3) := by decide +kernel
theorem d11_15 : decode method_3_code 15 = .ok (.lload_n 0, 1) := by decide +kernel
theorem d11_16 : decode method_3_code 16 = .ok (.lreturn, 1) := by decide +kernel
theorem d11_17 : decode method_3_code 17 = .ok (.sipush 128, 3) := by decide +kernel
theorem d11_20 : decode method_3_code 20 = .ok (.iload_n 2, 1) := by decide +kernel
theorem d11_21 : decode method_3_code 21 = .ok (.isub, 1) := by decide +kernel
theorem d11_22 : decode method_3_code 22 = .ok (.istore_n 3, 1) := by decide +kernel
theorem d11_23 : decode method_3_code 23 = .ok (.lload_n 0, 1) := by decide +kernel
theorem d11_24 : decode method_3_code 24 = .ok (.iload_n 3, 1) := by decide +kernel
theorem d11_25 : decode method_3_code 25 = .ok (.lushr, 1) := by decide +kernel
theorem d11_26 : decode method_3_code 26 = .ok (.iload_n 3, 1) := by decide +kernel
theorem d11_27 : decode method_3_code 27 = .ok (.lshl, 1) := by decide +kernel
theorem d11_28 : decode method_3_code 28 = .ok (.lreturn, 1) := by decide +kernel
theorem ef_11 (m : MethodId) (q0 : Int64) (p1 : Int32) : entryFrame m #[(.long q0), (.int p1)] 4 = mkF m 0 #[.val (.long q0), .second, .val (.int p1), .unset] [] := by first | (simp [entryFrame, mkF, argsToLocals, Value.category]; done) | rfl
def F11 (q0 : Int64) (p1 : Int32) : Int64 := (if (64 : Int32) < p1 then (if p1 = (128 : Int32) then q0 else (((q0.toUInt64 >>> (((128 : Int32) - p1) &&& 0x3f).toInt64.toUInt64).toInt64) <<< (((128 : Int32) - p1) &&& 0x3f).toInt64)) else (0 : Int64))
set_option maxRecDepth 65536 in
set_option maxHeartbeats 40000000 in
theorem rm11 (l : Launch) (Z : State) (az : Array Value) (hw : ∀ d ∈ tables_1, d.before az Z = true) (ws : List Jvm.Cond) (q0 : Int64) (p1 : Int32)  (h0 : Heap) (n0 : Nat) (Z0 : n0 ≤ h0.size) :
    MetFree l (⟨"com/example/tidewall/tidewall/AddressPrefixPinLaw", "expectedLow", "(JI)J"⟩ : MethodName) (head1 (Jvm.Cond.code (⟨"com/example/tidewall/tidewall/AddressPrefixPinLaw", "expectedLow", "(JI)J"⟩ : MethodName) method_3_code 4 (some .long) :: ws) ({ frames := 0, cells := 0, slots := 0, locals := 0 } : Room)) (fun a U => a = #[(.long q0), (.int p1)] ∧ Z.Warmed39 U.vm ∧ U.heap = h0) (fun _ _ _ _ _ => True) (fun _ U o U' => ∃ v L, o = .returned v ∧ (QP (some (.long (F11 q0 p1))) h0 n0) v U'.heap L ∧ FrameEnd U o U' L ({ frames := 0, cells := 0, slots := 0, locals := 0 } : Room).cells ({ frames := 0, cells := 0, slots := 0, locals := 0 } : Room).slots) := by
  refine MetFree.of_bodySF (plainFor_of_name own_pn2) hisR ?_
  intro p e s m args below meth c s₁ Bd hml0 hP hK
  obtain ⟨rfl, hZ, hh⟩ := hP
  have hx := Bd.exec
  have hby := Bd.bytes
  have hml : c.maxLocals = 4 := hml0
  have hown : s.vm.findClass "com/example/tidewall/tidewall/AddressPrefixPinLaw" = some m.cls := findClass_of_methodNamed Bd.named
  have hnm := (name_of_methodNamed Bd.named Bd.method).1
  have hlk : meth.locks = false := BodyLoose.notSynchronized Bd
  have X0 : Stand p l e ({ frames := 0, cells := 0, slots := 0, locals := 0 } : Room) s m #[(.long q0), (.int p1)] below meth c s₁ [] 0 0 := Stand.of_body Bd
  have e0 : s₁.heap = h0 := by rw [← hh, Bd.state]; rfl
  have N0 := Fr.nil n0
  show Go p e below s (QP (some (.long (F11 q0 p1))) h0 n0) ({ frames := 0, cells := 0, slots := 0, locals := 0 } : Room).cells ({ frames := 0, cells := 0, slots := 0, locals := 0 } : Room).slots (s₁.setTop (entryFrame m #[(.long q0), (.int p1)] 4))
  refine Go.of (fun t k => castTop (ef_11 m q0 p1) k) ?_
  show Go p e below s _ _ _ (s₁.setTop (mkF m 0 #[.val (.long q0), .second, .val (.int p1), .unset] []))
  unfold F11
  refine Go.of (fun t k => XS.iloadN X0.here hx rfl (hb hby d11_0) rfl k) ?_
  show Go p e below s _ _ _ (s₁.setTop (mkF m 1 #[.val (.long q0), .second, .val (.int p1), .unset] [(.int p1)]))
  refine Go.of (fun t k => XS.bipush X0.here hx rfl (hb hby d11_1) k) ?_
  show Go p e below s _ _ _ (s₁.setTop (mkF m 3 #[.val (.long q0), .second, .val (.int p1), .unset] [(.int (64 : Int32)), (.int p1)]))
  by_cases hc3_1 : (64 : Int32) < p1
  · rewrite [if_pos hc3_1]
    refine Go.of (fun t k => XS.icmpYes X0.here hx rfl (pc0 := 3) (pc' := 8) rfl (hb hby d11_3) rfl (tlt hc3_1).2.2.1 (by decide) (by decide) k) ?_
    show Go p e below s _ _ _ (s₁.setTop (mkF m 8 #[.val (.long q0), .second, .val (.int p1), .unset] []))
    refine Go.of (fun t k => XS.iloadN X0.here hx rfl (hb hby d11_8) rfl k) ?_
    show Go p e below s _ _ _ (s₁.setTop (mkF m 9 #[.val (.long q0), .second, .val (.int p1), .unset] [(.int p1)]))
    refine Go.of (fun t k => XS.sipush X0.here hx rfl (hb hby d11_9) k) ?_
    show Go p e below s _ _ _ (s₁.setTop (mkF m 12 #[.val (.long q0), .second, .val (.int p1), .unset] [(.int (128 : Int32)), (.int p1)]))
    by_cases hc12_2 : p1 = (128 : Int32)
    · rewrite [if_pos hc12_2]
      refine Go.of (fun t k => XS.icmpNo X0.here hx rfl (hb hby d11_12) rfl (teq hc12_2).2 k) ?_
      show Go p e below s _ _ _ (s₁.setTop (mkF m 15 #[.val (.long q0), .second, .val (.int p1), .unset] []))
      refine Go.of (fun t k => XS.lloadN X0.here hx rfl (hb hby d11_15) rfl k) ?_
      show Go p e below s _ _ _ (s₁.setTop (mkF m 16 #[.val (.long q0), .second, .val (.int p1), .unset] [(.long q0)]))
      exact Go.ret X0 (some (.long q0)) (fun h => by rw [Bd.returns] at h; cases h) hlk ⟨rfl, N0, e0⟩ (by decide) (by decide) (fun fs hr => (retOut X0 hx Bd.returns rfl (Or.inr (Or.inl ⟨rfl, rfl, _, rfl⟩)) (hb hby d11_16) hr))
    · rewrite [if_neg hc12_2]
      refine Go.of (fun t k => XS.icmpYes X0.here hx rfl (pc0 := 12) (pc' := 17) rfl (hb hby d11_12) rfl (feq hc12_2).2 (by decide) (by decide) k) ?_
      show Go p e below s _ _ _ (s₁.setTop (mkF m 17 #[.val (.long q0), .second, .val (.int p1), .unset] []))
      refine Go.of (fun t k => XS.sipush X0.here hx rfl (hb hby d11_17) k) ?_
      show Go p e below s _ _ _ (s₁.setTop (mkF m 20 #[.val (.long q0), .second, .val (.int p1), .unset] [(.int (128 : Int32))]))
      refine Go.of (fun t k => XS.iloadN X0.here hx rfl (hb hby d11_20) rfl k) ?_
      show Go p e below s _ _ _ (s₁.setTop (mkF m 21 #[.val (.long q0), .second, .val (.int p1), .unset] [(.int p1), (.int (128 : Int32))]))
      refine Go.of (fun t k => XS.isub X0.here hx rfl (hb hby d11_21) rfl k) ?_
      show Go p e below s _ _ _ (s₁.setTop (mkF m 22 #[.val (.long q0), .second, .val (.int p1), .unset] [(.int ((128 : Int32) - p1))]))
      refine Go.of (fun t k => XS.istoreN X0.here hx rfl (hb hby d11_22) rfl (l' := #[.val (.long q0), .second, .val (.int p1), .val (.int ((128 : Int32) - p1))]) rfl k) ?_
      show Go p e below s _ _ _ (s₁.setTop (mkF m 23 #[.val (.long q0), .second, .val (.int p1), .val (.int ((128 : Int32) - p1))] []))
      refine Go.of (fun t k => XS.lloadN X0.here hx rfl (hb hby d11_23) rfl k) ?_
      show Go p e below s _ _ _ (s₁.setTop (mkF m 24 #[.val (.long q0), .second, .val (.int p1), .val (.int ((128 : Int32) - p1))] [(.long q0)]))
      refine Go.of (fun t k => XS.iloadN X0.here hx rfl (hb hby d11_24) rfl k) ?_
      show Go p e below s _ _ _ (s₁.setTop (mkF m 25 #[.val (.long q0), .second, .val (.int p1), .val (.int ((128 : Int32) - p1))] [(.int ((128 : Int32) - p1)), (.long q0)]))
      refine Go.of (fun t k => XS.lushr X0.here hx rfl (hb hby d11_25) rfl k) ?_
      show Go p e below s _ _ _ (s₁.setTop (mkF m 26 #[.val (.long q0), .second, .val (.int p1), .val (.int ((128 : Int32) - p1))] [(.long ((q0.toUInt64 >>> (((128 : Int32) - p1) &&& 0x3f).toInt64.toUInt64).toInt64))]))
      refine Go.of (fun t k => XS.iloadN X0.here hx rfl (hb hby d11_26) rfl k) ?_
      show Go p e below s _ _ _ (s₁.setTop (mkF m 27 #[.val (.long q0), .second, .val (.int p1), .val (.int ((128 : Int32) - p1))] [(.int ((128 : Int32) - p1)), (.long ((q0.toUInt64 >>> (((128 : Int32) - p1) &&& 0x3f).toInt64.toUInt64).toInt64))]))
      refine Go.of (fun t k => XS.lshl X0.here hx rfl (hb hby d11_27) rfl k) ?_
      show Go p e below s _ _ _ (s₁.setTop (mkF m 28 #[.val (.long q0), .second, .val (.int p1), .val (.int ((128 : Int32) - p1))] [(.long (((q0.toUInt64 >>> (((128 : Int32) - p1) &&& 0x3f).toInt64.toUInt64).toInt64) <<< (((128 : Int32) - p1) &&& 0x3f).toInt64))]))
      exact Go.ret X0 (some (.long (((q0.toUInt64 >>> (((128 : Int32) - p1) &&& 0x3f).toInt64.toUInt64).toInt64) <<< (((128 : Int32) - p1) &&& 0x3f).toInt64))) (fun h => by rw [Bd.returns] at h; cases h) hlk ⟨rfl, N0, e0⟩ (by decide) (by decide) (fun fs hr => (retOut X0 hx Bd.returns rfl (Or.inr (Or.inl ⟨rfl, rfl, _, rfl⟩)) (hb hby d11_28) hr))
  · rewrite [if_neg hc3_1]
    refine Go.of (fun t k => XS.icmpNo X0.here hx rfl (hb hby d11_3) rfl (flt hc3_1).2.2.1 k) ?_
    show Go p e below s _ _ _ (s₁.setTop (mkF m 6 #[.val (.long q0), .second, .val (.int p1), .unset] []))
    refine Go.of (fun t k => XS.lconst X0.here hx rfl (hb hby d11_6) k) ?_
    show Go p e below s _ _ _ (s₁.setTop (mkF m 7 #[.val (.long q0), .second, .val (.int p1), .unset] [(.long (0 : Int64))]))
    exact Go.ret X0 (some (.long (0 : Int64))) (fun h => by rw [Bd.returns] at h; cases h) hlk ⟨rfl, N0, e0⟩ (by decide) (by decide) (fun fs hr => (retOut X0 hx Bd.returns rfl (Or.inr (Or.inl ⟨rfl, rfl, _, rfl⟩)) (hb hby d11_7) hr))
theorem own_pd1 : parseMethodDescriptor "(II)I" = some ⟨[.int, .int], some .int⟩ := by decide +kernel
theorem own_pd2 : parseMethodDescriptor "(I)J" = some ⟨[.int], some .long⟩ := by decide +kernel
theorem own_pd3 : parseMethodDescriptor "(JJ)V" = some ⟨[.long, .long], none⟩ := by decide +kernel
theorem d4_0 : decode prog_1_method_6_code 0 = .ok (.new 8, 3) := by decide +kernel
theorem d4_3 : decode prog_1_method_6_code 3 = .ok (.dup, 1) := by decide +kernel
theorem d4_4 : decode prog_1_method_6_code 4 = .ok (.aload_n 0, 1) := by decide +kernel
theorem d4_5 : decode prog_1_method_6_code 5 = .ok (.getfield 7, 3) := by decide +kernel
theorem d4_8 : decode prog_1_method_6_code 8 = .ok (.iload_n 1, 1) := by decide +kernel
theorem d4_9 : decode prog_1_method_6_code 9 = .ok (.bipush 64, 2) := by decide +kernel
theorem d4_11 : decode prog_1_method_6_code 11 = .ok (.invokestatic 86, 3) := by decide +kernel
theorem d4_14 : decode prog_1_method_6_code 14 = .ok (.invokestatic 92, 3) := by decide +kernel
theorem d4_17 : decode prog_1_method_6_code 17 = .ok (.land, 1) := by decide +kernel
theorem d4_18 : decode prog_1_method_6_code 18 = .ok (.aload_n 0, 1) := by decide +kernel
theorem d4_19 : decode prog_1_method_6_code 19 = .ok (.getfield 13, 3) := by decide +kernel
theorem d4_22 : decode prog_1_method_6_code 22 = .ok (.iload_n 1, 1) := by decide +kernel
theorem d4_23 : decode prog_1_method_6_code 23 = .ok (.bipush 64, 2) := by decide +kernel
theorem d4_25 : decode prog_1_method_6_code 25 = .ok (.isub, 1) := by decide +kernel
theorem d4_26 : decode prog_1_method_6_code 26 = .ok (.iconst 0, 1) := by decide +kernel
theorem d4_27 : decode prog_1_method_6_code 27 = .ok (.invokestatic 95, 3) := by decide +kernel
theorem d4_30 : decode prog_1_method_6_code 30 = .ok (.invokestatic 92, 3) := by decide +kernel
theorem d4_33 : decode prog_1_method_6_code 33 = .ok (.land, 1) := by decide +kernel
theorem d4_34 : decode prog_1_method_6_code 34 = .ok (.invokespecial 69, 3) := by decide +kernel
theorem d4_37 : decode prog_1_method_6_code 37 = .ok (.areturn, 1) := by decide +kernel
theorem ef_4 (m : MethodId) (a0 : Addr) (p1 : Int32) : entryFrame m #[(.ref a0), (.int p1)] 2 = mkF m 0 #[.val (.ref a0), .val (.int p1)] [] := by first | (simp [entryFrame, mkF, argsToLocals, Value.category]; done) | rfl
def Q4 (Z : State) (a0 : Addr) (p1 : Int32) (u_high_a0 : Int64) (u_low_a0 : Int64) (h0 : Heap) (n0 : Nat) (v : Option Value) (h : Heap) (L : List Loc) : Prop := ∃ b : Addr, v = some (.ref b) ∧ n0 ≤ b ∧ h0.size ≤ b ∧ Fr n0 L ∧ Keep h0 h [] ∧ Exa Z h b "com/example/tidewall/tidewall/Address" ∧ Fld Z h b "com/example/tidewall/tidewall/Address" "high" "J" (.long (u_high_a0 &&& (F6 (F5 p1 (64 : Int32))))) ∧ Fld Z h b "com/example/tidewall/tidewall/Address" "low" "J" (.long (u_low_a0 &&& (F6 (F7 (p1 - (64 : Int32)) (0 : Int32)))))
set_option maxRecDepth 65536 in
set_option maxHeartbeats 40000000 in
theorem rm4 (l : Launch) (Z : State) (az : Array Value) (hw : ∀ d ∈ tables_1, d.before az Z = true) (ws : List Jvm.Cond) (a0 : Addr) (p1 : Int32) (u_high_a0 : Int64) (u_low_a0 : Int64) (h0 : Heap) (n0 : Nat) (Z0 : n0 ≤ h0.size) (Fp_high_a0 : Fld Z h0 a0 "com/example/tidewall/tidewall/Address" "high" "J" (.long u_high_a0)) (Fp_low_a0 : Fld Z h0 a0 "com/example/tidewall/tidewall/Address" "low" "J" (.long u_low_a0)) :
    MetFree l (⟨"com/example/tidewall/tidewall/Address", "prefix", "(I)Lcom/example/tidewall/tidewall/Address;"⟩ : MethodName) (head1 (Jvm.Cond.code (⟨"com/example/tidewall/tidewall/Address", "prefix", "(I)Lcom/example/tidewall/tidewall/Address;"⟩ : MethodName) prog_1_method_6_code 2 (some (.object "com/example/tidewall/tidewall/Address")) :: ws) ({ frames := 3, cells := 1, slots := 2, locals := 41 } : Room)) (fun a U => a = #[(.ref a0), (.int p1)] ∧ Z.Warmed39 U.vm ∧ U.heap = h0) (fun _ _ _ _ _ => True) (fun _ U o U' => ∃ v L, o = .returned v ∧ (Q4 Z a0 p1 u_high_a0 u_low_a0 h0 n0) v U'.heap L ∧ FrameEnd U o U' L ({ frames := 3, cells := 1, slots := 2, locals := 41 } : Room).cells ({ frames := 3, cells := 1, slots := 2, locals := 41 } : Room).slots) := by
  refine MetFree.of_bodySF (plainFor_of_name own_pn1) hisR ?_
  intro p e s m args below meth c s₁ Bd hml0 hP hK
  obtain ⟨rfl, hZ, hh⟩ := hP
  have hx := Bd.exec
  have hby := Bd.bytes
  have hml : c.maxLocals = 2 := hml0
  have hown : s.vm.findClass "com/example/tidewall/tidewall/Address" = some m.cls := findClass_of_methodNamed Bd.named
  have hnm := (name_of_methodNamed Bd.named Bd.method).1
  have hlk : meth.locks = false := BodyLoose.notSynchronized Bd
  have X0 : Stand p l e ({ frames := 3, cells := 1, slots := 2, locals := 41 } : Room) s m #[(.ref a0), (.int p1)] below meth c s₁ [] 0 0 := Stand.of_body Bd
  have e0 : s₁.heap = h0 := by rw [← hh, Bd.state]; rfl
  have N0 := Fr.nil n0
  show Go p e below s (Q4 Z a0 p1 u_high_a0 u_low_a0 h0 n0) ({ frames := 3, cells := 1, slots := 2, locals := 41 } : Room).cells ({ frames := 3, cells := 1, slots := 2, locals := 41 } : Room).slots (s₁.setTop (entryFrame m #[(.ref a0), (.int p1)] 2))
  refine Go.of (fun t k => castTop (ef_4 m a0 p1) k) ?_
  show Go p e below s _ _ _ (s₁.setTop (mkF m 0 #[.val (.ref a0), .val (.int p1)] []))
  obtain ⟨T1, h1, X1, e1, E1, A1, D1, -, st1⟩ := newO X0 hx hZ hown (hw _ (List.mem_of_getElem? (i := 24) rfl)) (hw _ (List.mem_of_getElem? (i := 2) rfl)) (hw _ (List.mem_of_getElem? (i := 3) rfl)) e0 (g := (mkF m 0 #[.val (.ref a0), .val (.int p1)] [])) rfl (hb hby d4_0) (by decide) (by decide)
  obtain ⟨b1, ga1⟩ : ∃ z, z = h0.size := ⟨_, rfl⟩
  rw [← ga1] at A1 D1 st1
  have g_b1 : n0 ≤ b1 := Nat.le_trans Z0 (Nat.le_of_eq ga1.symm)
  have sz_b1 : h0.size ≤ b1 := Nat.le_trans (Keep.refl h0 []).1 (Nat.le_of_eq ga1.symm)
  have ne2 : a0 ≠ b1 := Nat.ne_of_lt (Nat.lt_of_lt_of_le Fp_high_a0.lt (Nat.le_of_eq ga1.symm))
  have f3 := Fp_high_a0.ext E1
  have f4 := Fp_low_a0.ext E1
  have f5 : Fld Z h1 b1 "com/example/tidewall/tidewall/Address" "high" "J" (.long (0 : Int64)) := D1 (Or.inr (hw _ (List.mem_of_getElem? (i := 16) rfl))) (ty := .long) (by decide)
  have f6 : Fld Z h1 b1 "com/example/tidewall/tidewall/Address" "low" "J" (.long (0 : Int64)) := D1 (Or.inr (hw _ (List.mem_of_getElem? (i := 18) rfl))) (ty := .long) (by decide)
  have K1 : Keep h0 h1 [] := Keep.ext (Keep.refl h0 []) E1
  refine Go.of st1 ?_
  show Go p e below s _ _ _ (T1.setTop (mkF m 3 #[.val (.ref a0), .val (.int p1)] [(.ref b1)]))
  refine Go.of (fun t k => XS.dup X1.here hx rfl (hb hby d4_3) rfl rfl k) ?_
  show Go p e below s _ _ _ (T1.setTop (mkF m 4 #[.val (.ref a0), .val (.int p1)] [(.ref b1), (.ref b1)]))
  refine Go.of (fun t k => XS.aloadN X1.here hx rfl (hb hby d4_4) rfl rfl k) ?_
  show Go p e below s _ _ _ (T1.setTop (mkF m 5 #[.val (.ref a0), .val (.int p1)] [(.ref a0), (.ref b1), (.ref b1)]))
  obtain ⟨T7, X7, e7, st7⟩ := getF X1 hx hZ hown (host := "") (Or.inl (hw _ (List.mem_of_getElem? (i := 15) rfl))) Via.refl e1 f3 (g := (mkF m 5 #[.val (.ref a0), .val (.int p1)] [(.ref a0), (.ref b1), (.ref b1)])) rfl rfl (hb hby d4_5)
  refine Go.of st7 ?_
  show Go p e below s _ _ _ (T7.setTop (mkF m 8 #[.val (.ref a0), .val (.int p1)] [(.long u_high_a0), (.ref b1), (.ref b1)]))
  refine Go.of (fun t k => XS.iloadN X7.here hx rfl (hb hby d4_8) rfl k) ?_
  show Go p e below s _ _ _ (T7.setTop (mkF m 9 #[.val (.ref a0), .val (.int p1)] [(.int p1), (.long u_high_a0), (.ref b1), (.ref b1)]))
  refine Go.of (fun t k => XS.bipush X7.here hx rfl (hb hby d4_9) k) ?_
  show Go p e below s _ _ _ (T7.setTop (mkF m 11 #[.val (.ref a0), .val (.int p1)] [(.int (64 : Int32)), (.int p1), (.long u_high_a0), (.ref b1), (.ref b1)]))
  obtain ⟨_, _, ⟨T8, L8, k8, n8⟩, -, X8, ⟨Lc8, hQ8, l8, y8, z8⟩, st8⟩ := Jvm.LawKit.callS X7 hx (y := (⟨"java/lang/Math", "min", "(II)I"⟩ : MethodName)) hown (mvT hZ (hw _ (List.mem_of_getElem? (i := 25) rfl))) (mvT hZ (hw _ (List.mem_of_getElem? (i := 26) rfl))) (mvT hZ (hw _ (List.mem_of_getElem? (i := 27) rfl))) (mvT hZ (hw _ (List.mem_of_getElem? (i := 28) rfl))) (by decide) (backOf (W := 4) (rm5 l Z az hw [] p1 (64 : Int32) h1 n0 (Nat.le_trans Z0 K1.1)) hZ (hw _ (List.mem_of_getElem? (i := 28) rfl)) (hw _ (List.mem_of_getElem? (i := 27) rfl)) (by decide) (by decide)) (g := (mkF m 11 #[.val (.ref a0), .val (.int p1)] [(.int (64 : Int32)), (.int p1), (.long u_high_a0), (.ref b1), (.ref b1)])) rfl (by rw [hml]; rfl) (argsL := [(.int p1), (.int (64 : Int32))]) (rest := [(.long u_high_a0), (.ref b1), (.ref b1)]) (lenOf own_pd1 rfl) rfl (by show 2 * 0 + _ ≤ _; exact Nat.le_of_eq rfl) (hb hby d4_11) (fun _ _ => ⟨rfl, e7, (by decide : 1 + 0 ≤ _), (by decide : 2 + 0 ≤ _)⟩)
  dsimp only [Pt.U, Pt.locs, Pt.cells, Pt.slots] at X8 l8 y8 z8 st8 hQ8
  subst l8 y8 z8
  obtain ⟨rfl, N8q, e8⟩ := hQ8
  have N8 := Fr.app N0 N8q
  refine Go.of st8 ?_
  show Go p e below s _ _ _ (T8.setTop (mkF m 14 #[.val (.ref a0), .val (.int p1)] [(.int (F5 p1 (64 : Int32))), (.long u_high_a0), (.ref b1), (.ref b1)]))
  obtain ⟨_, _, ⟨T9, L9, k9, n9⟩, -, X9, ⟨Lc9, hQ9, l9, y9, z9⟩, st9⟩ := Jvm.LawKit.callS X8 hx (y := (⟨"com/example/tidewall/tidewall/Address", "firstBits", "(I)J"⟩ : MethodName)) hown (mvT hZ (hw _ (List.mem_of_getElem? (i := 29) rfl))) (mvT hZ (hw _ (List.mem_of_getElem? (i := 30) rfl))) (mvT hZ (hw _ (List.mem_of_getElem? (i := 3) rfl))) (mvT hZ (hw _ (List.mem_of_getElem? (i := 31) rfl))) (by decide) (backOf (W := 4) (rm6 l Z az hw [] (F5 p1 (64 : Int32)) h1 n0 (Nat.le_trans Z0 K1.1)) hZ (hw _ (List.mem_of_getElem? (i := 31) rfl)) (hw _ (List.mem_of_getElem? (i := 3) rfl)) (by decide) (by decide)) (g := (mkF m 14 #[.val (.ref a0), .val (.int p1)] [(.int (F5 p1 (64 : Int32))), (.long u_high_a0), (.ref b1), (.ref b1)])) rfl (by rw [hml]; rfl) (argsL := [(.int (F5 p1 (64 : Int32)))]) (rest := [(.long u_high_a0), (.ref b1), (.ref b1)]) (lenOf own_pd2 rfl) rfl (by show 2 * 0 + _ ≤ _; exact Nat.le_of_eq rfl) (hb hby d4_14) (fun _ _ => ⟨rfl, e8, (by decide : 1 + 0 ≤ _), (by decide : 2 + 0 ≤ _)⟩)
  dsimp only [Pt.U, Pt.locs, Pt.cells, Pt.slots] at X9 l9 y9 z9 st9 hQ9
  subst l9 y9 z9
  obtain ⟨rfl, N9q, e9⟩ := hQ9
  have N9 := Fr.app N8 N9q
  refine Go.of st9 ?_
  show Go p e below s _ _ _ (T9.setTop (mkF m 17 #[.val (.ref a0), .val (.int p1)] [(.long (F6 (F5 p1 (64 : Int32)))), (.long u_high_a0), (.ref b1), (.ref b1)]))
  refine Go.of (fun t k => XS.land X9.here hx rfl (hb hby d4_17) rfl k) ?_
  show Go p e below s _ _ _ (T9.setTop (mkF m 18 #[.val (.ref a0), .val (.int p1)] [(.long (u_high_a0 &&& (F6 (F5 p1 (64 : Int32))))), (.ref b1), (.ref b1)]))
  refine Go.of (fun t k => XS.aloadN X9.here hx rfl (hb hby d4_18) rfl rfl k) ?_
  show Go p e below s _ _ _ (T9.setTop (mkF m 19 #[.val (.ref a0), .val (.int p1)] [(.ref a0), (.long (u_high_a0 &&& (F6 (F5 p1 (64 : Int32))))), (.ref b1), (.ref b1)]))
  obtain ⟨T10, X10, e10, st10⟩ := getF X9 hx hZ hown (host := "") (Or.inl (hw _ (List.mem_of_getElem? (i := 17) rfl))) Via.refl e9 f4 (g := (mkF m 19 #[.val (.ref a0), .val (.int p1)] [(.ref a0), (.long (u_high_a0 &&& (F6 (F5 p1 (64 : Int32))))), (.ref b1), (.ref b1)])) rfl rfl (hb hby d4_19)
  refine Go.of st10 ?_
  show Go p e below s _ _ _ (T10.setTop (mkF m 22 #[.val (.ref a0), .val (.int p1)] [(.long u_low_a0), (.long (u_high_a0 &&& (F6 (F5 p1 (64 : Int32))))), (.ref b1), (.ref b1)]))
  refine Go.of (fun t k => XS.iloadN X10.here hx rfl (hb hby d4_22) rfl k) ?_
  show Go p e below s _ _ _ (T10.setTop (mkF m 23 #[.val (.ref a0), .val (.int p1)] [(.int p1), (.long u_low_a0), (.long (u_high_a0 &&& (F6 (F5 p1 (64 : Int32))))), (.ref b1), (.ref b1)]))
  refine Go.of (fun t k => XS.bipush X10.here hx rfl (hb hby d4_23) k) ?_
  show Go p e below s _ _ _ (T10.setTop (mkF m 25 #[.val (.ref a0), .val (.int p1)] [(.int (64 : Int32)), (.int p1), (.long u_low_a0), (.long (u_high_a0 &&& (F6 (F5 p1 (64 : Int32))))), (.ref b1), (.ref b1)]))
  refine Go.of (fun t k => XS.isub X10.here hx rfl (hb hby d4_25) rfl k) ?_
  show Go p e below s _ _ _ (T10.setTop (mkF m 26 #[.val (.ref a0), .val (.int p1)] [(.int (p1 - (64 : Int32))), (.long u_low_a0), (.long (u_high_a0 &&& (F6 (F5 p1 (64 : Int32))))), (.ref b1), (.ref b1)]))
  refine Go.of (fun t k => XS.iconst X10.here hx rfl (hb hby d4_26) k) ?_
  show Go p e below s _ _ _ (T10.setTop (mkF m 27 #[.val (.ref a0), .val (.int p1)] [(.int (0 : Int32)), (.int (p1 - (64 : Int32))), (.long u_low_a0), (.long (u_high_a0 &&& (F6 (F5 p1 (64 : Int32))))), (.ref b1), (.ref b1)]))
  obtain ⟨_, _, ⟨T11, L11, k11, n11⟩, -, X11, ⟨Lc11, hQ11, l11, y11, z11⟩, st11⟩ := Jvm.LawKit.callS X10 hx (y := (⟨"java/lang/Math", "max", "(II)I"⟩ : MethodName)) hown (mvT hZ (hw _ (List.mem_of_getElem? (i := 32) rfl))) (mvT hZ (hw _ (List.mem_of_getElem? (i := 33) rfl))) (mvT hZ (hw _ (List.mem_of_getElem? (i := 27) rfl))) (mvT hZ (hw _ (List.mem_of_getElem? (i := 34) rfl))) (by decide) (backOf (W := 6) (rm7 l Z az hw [] (p1 - (64 : Int32)) (0 : Int32) h1 n0 (Nat.le_trans Z0 K1.1)) hZ (hw _ (List.mem_of_getElem? (i := 34) rfl)) (hw _ (List.mem_of_getElem? (i := 27) rfl)) (by decide) (by decide)) (g := (mkF m 27 #[.val (.ref a0), .val (.int p1)] [(.int (0 : Int32)), (.int (p1 - (64 : Int32))), (.long u_low_a0), (.long (u_high_a0 &&& (F6 (F5 p1 (64 : Int32))))), (.ref b1), (.ref b1)])) rfl (by rw [hml]; rfl) (argsL := [(.int (p1 - (64 : Int32))), (.int (0 : Int32))]) (rest := [(.long u_low_a0), (.long (u_high_a0 &&& (F6 (F5 p1 (64 : Int32))))), (.ref b1), (.ref b1)]) (lenOf own_pd1 rfl) rfl (by show 2 * 0 + _ ≤ _; exact Nat.le_of_eq rfl) (hb hby d4_27) (fun _ _ => ⟨rfl, e10, (by decide : 1 + 0 ≤ _), (by decide : 2 + 0 ≤ _)⟩)
  dsimp only [Pt.U, Pt.locs, Pt.cells, Pt.slots] at X11 l11 y11 z11 st11 hQ11
  subst l11 y11 z11
  obtain ⟨rfl, N11q, e11⟩ := hQ11
  have N11 := Fr.app N9 N11q
  refine Go.of st11 ?_
  show Go p e below s _ _ _ (T11.setTop (mkF m 30 #[.val (.ref a0), .val (.int p1)] [(.int (F7 (p1 - (64 : Int32)) (0 : Int32))), (.long u_low_a0), (.long (u_high_a0 &&& (F6 (F5 p1 (64 : Int32))))), (.ref b1), (.ref b1)]))
  obtain ⟨_, _, ⟨T12, L12, k12, n12⟩, -, X12, ⟨Lc12, hQ12, l12, y12, z12⟩, st12⟩ := Jvm.LawKit.callS X11 hx (y := (⟨"com/example/tidewall/tidewall/Address", "firstBits", "(I)J"⟩ : MethodName)) hown (mvT hZ (hw _ (List.mem_of_getElem? (i := 29) rfl))) (mvT hZ (hw _ (List.mem_of_getElem? (i := 30) rfl))) (mvT hZ (hw _ (List.mem_of_getElem? (i := 3) rfl))) (mvT hZ (hw _ (List.mem_of_getElem? (i := 31) rfl))) (by decide) (backOf (W := 6) (rm6 l Z az hw [] (F7 (p1 - (64 : Int32)) (0 : Int32)) h1 n0 (Nat.le_trans Z0 K1.1)) hZ (hw _ (List.mem_of_getElem? (i := 31) rfl)) (hw _ (List.mem_of_getElem? (i := 3) rfl)) (by decide) (by decide)) (g := (mkF m 30 #[.val (.ref a0), .val (.int p1)] [(.int (F7 (p1 - (64 : Int32)) (0 : Int32))), (.long u_low_a0), (.long (u_high_a0 &&& (F6 (F5 p1 (64 : Int32))))), (.ref b1), (.ref b1)])) rfl (by rw [hml]; rfl) (argsL := [(.int (F7 (p1 - (64 : Int32)) (0 : Int32)))]) (rest := [(.long u_low_a0), (.long (u_high_a0 &&& (F6 (F5 p1 (64 : Int32))))), (.ref b1), (.ref b1)]) (lenOf own_pd2 rfl) rfl (by show 2 * 0 + _ ≤ _; exact Nat.le_of_eq rfl) (hb hby d4_30) (fun _ _ => ⟨rfl, e11, (by decide : 1 + 0 ≤ _), (by decide : 2 + 0 ≤ _)⟩)
  dsimp only [Pt.U, Pt.locs, Pt.cells, Pt.slots] at X12 l12 y12 z12 st12 hQ12
  subst l12 y12 z12
  obtain ⟨rfl, N12q, e12⟩ := hQ12
  have N12 := Fr.app N11 N12q
  refine Go.of st12 ?_
  show Go p e below s _ _ _ (T12.setTop (mkF m 33 #[.val (.ref a0), .val (.int p1)] [(.long (F6 (F7 (p1 - (64 : Int32)) (0 : Int32)))), (.long u_low_a0), (.long (u_high_a0 &&& (F6 (F5 p1 (64 : Int32))))), (.ref b1), (.ref b1)]))
  refine Go.of (fun t k => XS.land X12.here hx rfl (hb hby d4_33) rfl k) ?_
  show Go p e below s _ _ _ (T12.setTop (mkF m 34 #[.val (.ref a0), .val (.int p1)] [(.long (u_low_a0 &&& (F6 (F7 (p1 - (64 : Int32)) (0 : Int32))))), (.long (u_high_a0 &&& (F6 (F5 p1 (64 : Int32))))), (.ref b1), (.ref b1)]))
  obtain ⟨_, _, ⟨T13, L13, k13, n13⟩, -, X13, ⟨Lc13, hQ13, l13, y13, z13⟩, st13⟩ := X12.specialBack hx (y := (⟨"com/example/tidewall/tidewall/Address", "<init>", "(JJ)V"⟩ : MethodName)) rfl hown (mvT hZ (hw _ (List.mem_of_getElem? (i := 35) rfl))) (mvT hZ (hw _ (List.mem_of_getElem? (i := 5) rfl))) (mvT hZ (hw _ (List.mem_of_getElem? (i := 6) rfl))) (by decide) (backOf (W := 1) (rm1 l Z az hw [] b1 (u_high_a0 &&& (F6 (F5 p1 (64 : Int32)))) (u_low_a0 &&& (F6 (F7 (p1 - (64 : Int32)) (0 : Int32)))) (.long (0 : Int64)) (.long (0 : Int64)) h1 n0 (Nat.le_trans Z0 K1.1) A1 f5 f6 g_b1) hZ (hw _ (List.mem_of_getElem? (i := 6) rfl)) (hw _ (List.mem_of_getElem? (i := 3) rfl)) (by decide) (by decide)) (g := (mkF m 34 #[.val (.ref a0), .val (.int p1)] [(.long (u_low_a0 &&& (F6 (F7 (p1 - (64 : Int32)) (0 : Int32))))), (.long (u_high_a0 &&& (F6 (F5 p1 (64 : Int32))))), (.ref b1), (.ref b1)])) rfl (by rw [hml]; rfl) (Steps.refl _) (a := b1) (argsL := [(.long (u_high_a0 &&& (F6 (F5 p1 (64 : Int32))))), (.long (u_low_a0 &&& (F6 (F7 (p1 - (64 : Int32)) (0 : Int32)))))]) (rest := [(.ref b1)]) (lenOf own_pd3 rfl) rfl (by show 2 * 0 + _ ≤ _; exact Nat.le_of_eq rfl) (hb hby d4_34) (fun _ _ => ⟨rfl, e12, (by decide : 1 + 0 ≤ _), (by decide : 2 + 0 ≤ _)⟩)
  dsimp only [Pt.U, Pt.locs, Pt.cells, Pt.slots] at X13 l13 y13 z13 st13 hQ13
  subst l13 y13 z13
  obtain ⟨rfl, N13q, Kq13, f14, f15, f16⟩ := hQ13
  have N13 := Fr.app N12 N13q
  have f17 := f3.keep Kq13 (ninS ne2 nin0)
  have f18 := f4.keep Kq13 (ninS ne2 nin0)
  have K13 : Keep h0 T13.heap [] := Keep.trans K1 Kq13 (allS (Or.inr sz_b1) all0)
  refine Go.of (fun t k => st13.trans k) ?_
  show Go p e below s _ _ _ (T13.setTop (mkF m 37 #[.val (.ref a0), .val (.int p1)] [(.ref b1)]))
  exact Go.ret X13 (some (.ref b1)) (fun h => by rw [Bd.returns] at h; cases h) hlk ⟨b1, rfl, g_b1, sz_b1, N13, K13, f14, f15, f16⟩ (by decide) (by decide) (fun fs hr => (retOut X13 hx Bd.returns rfl (Or.inr (Or.inr (Or.inr (Or.inr ⟨rfl, rfl, rfl⟩)))) (hb hby d4_37) hr))
theorem d8_0 : decode prog_1_method_12_code 0 = .ok (.aload_n 0, 1) := by decide +kernel
theorem d8_1 : decode prog_1_method_12_code 1 = .ok (.getfield 7, 3) := by decide +kernel
theorem d8_4 : decode prog_1_method_12_code 4 = .ok (.lreturn, 1) := by decide +kernel
theorem ef_8 (m : MethodId) (a0 : Addr) : entryFrame m #[(.ref a0)] 1 = mkF m 0 #[.val (.ref a0)] [] := by first | (simp [entryFrame, mkF, argsToLocals, Value.category]; done) | rfl
def F8 (u_high_a0 : Int64) : Int64 := u_high_a0
set_option maxRecDepth 65536 in
set_option maxHeartbeats 40000000 in
theorem rm8 (l : Launch) (Z : State) (az : Array Value) (hw : ∀ d ∈ tables_1, d.before az Z = true) (ws : List Jvm.Cond) (a0 : Addr) (u_high_a0 : Int64) (h0 : Heap) (n0 : Nat) (Z0 : n0 ≤ h0.size) (Fp_high_a0 : Fld Z h0 a0 "com/example/tidewall/tidewall/Address" "high" "J" (.long u_high_a0)) :
    MetFree l (⟨"com/example/tidewall/tidewall/Address", "high", "()J"⟩ : MethodName) (head1 (Jvm.Cond.code (⟨"com/example/tidewall/tidewall/Address", "high", "()J"⟩ : MethodName) prog_1_method_12_code 1 (some .long) :: ws) ({ frames := 0, cells := 0, slots := 0, locals := 0 } : Room)) (fun a U => a = #[(.ref a0)] ∧ Z.Warmed39 U.vm ∧ U.heap = h0) (fun _ _ _ _ _ => True) (fun _ U o U' => ∃ v L, o = .returned v ∧ (QP (some (.long (F8 u_high_a0))) h0 n0) v U'.heap L ∧ FrameEnd U o U' L ({ frames := 0, cells := 0, slots := 0, locals := 0 } : Room).cells ({ frames := 0, cells := 0, slots := 0, locals := 0 } : Room).slots) := by
  refine MetFree.of_bodySF (plainFor_of_name own_pn1) hisR ?_
  intro p e s m args below meth c s₁ Bd hml0 hP hK
  obtain ⟨rfl, hZ, hh⟩ := hP
  have hx := Bd.exec
  have hby := Bd.bytes
  have hml : c.maxLocals = 1 := hml0
  have hown : s.vm.findClass "com/example/tidewall/tidewall/Address" = some m.cls := findClass_of_methodNamed Bd.named
  have hnm := (name_of_methodNamed Bd.named Bd.method).1
  have hlk : meth.locks = false := BodyLoose.notSynchronized Bd
  have X0 : Stand p l e ({ frames := 0, cells := 0, slots := 0, locals := 0 } : Room) s m #[(.ref a0)] below meth c s₁ [] 0 0 := Stand.of_body Bd
  have e0 : s₁.heap = h0 := by rw [← hh, Bd.state]; rfl
  have N0 := Fr.nil n0
  show Go p e below s (QP (some (.long (F8 u_high_a0))) h0 n0) ({ frames := 0, cells := 0, slots := 0, locals := 0 } : Room).cells ({ frames := 0, cells := 0, slots := 0, locals := 0 } : Room).slots (s₁.setTop (entryFrame m #[(.ref a0)] 1))
  refine Go.of (fun t k => castTop (ef_8 m a0) k) ?_
  show Go p e below s _ _ _ (s₁.setTop (mkF m 0 #[.val (.ref a0)] []))
  unfold F8
  refine Go.of (fun t k => XS.aloadN X0.here hx rfl (hb hby d8_0) rfl rfl k) ?_
  show Go p e below s _ _ _ (s₁.setTop (mkF m 1 #[.val (.ref a0)] [(.ref a0)]))
  obtain ⟨T1, X1, e1, st1⟩ := getF X0 hx hZ hown (host := "") (Or.inl (hw _ (List.mem_of_getElem? (i := 15) rfl))) Via.refl e0 Fp_high_a0 (g := (mkF m 1 #[.val (.ref a0)] [(.ref a0)])) rfl rfl (hb hby d8_1)
  refine Go.of st1 ?_
  show Go p e below s _ _ _ (T1.setTop (mkF m 4 #[.val (.ref a0)] [(.long u_high_a0)]))
  exact Go.ret X1 (some (.long u_high_a0)) (fun h => by rw [Bd.returns] at h; cases h) hlk ⟨rfl, N0, e1⟩ (by decide) (by decide) (fun fs hr => (retOut X1 hx Bd.returns rfl (Or.inr (Or.inl ⟨rfl, rfl, _, rfl⟩)) (hb hby d8_4) hr))
theorem d10_0 : decode prog_1_method_13_code 0 = .ok (.aload_n 0, 1) := by decide +kernel
theorem d10_1 : decode prog_1_method_13_code 1 = .ok (.getfield 13, 3) := by decide +kernel
theorem d10_4 : decode prog_1_method_13_code 4 = .ok (.lreturn, 1) := by decide +kernel
theorem ef_10 (m : MethodId) (a0 : Addr) : entryFrame m #[(.ref a0)] 1 = mkF m 0 #[.val (.ref a0)] [] := by first | (simp [entryFrame, mkF, argsToLocals, Value.category]; done) | rfl
def F10 (u_low_a0 : Int64) : Int64 := u_low_a0
set_option maxRecDepth 65536 in
set_option maxHeartbeats 40000000 in
theorem rm10 (l : Launch) (Z : State) (az : Array Value) (hw : ∀ d ∈ tables_1, d.before az Z = true) (ws : List Jvm.Cond) (a0 : Addr) (u_low_a0 : Int64) (h0 : Heap) (n0 : Nat) (Z0 : n0 ≤ h0.size) (Fp_low_a0 : Fld Z h0 a0 "com/example/tidewall/tidewall/Address" "low" "J" (.long u_low_a0)) :
    MetFree l (⟨"com/example/tidewall/tidewall/Address", "low", "()J"⟩ : MethodName) (head1 (Jvm.Cond.code (⟨"com/example/tidewall/tidewall/Address", "low", "()J"⟩ : MethodName) prog_1_method_13_code 1 (some .long) :: ws) ({ frames := 0, cells := 0, slots := 0, locals := 0 } : Room)) (fun a U => a = #[(.ref a0)] ∧ Z.Warmed39 U.vm ∧ U.heap = h0) (fun _ _ _ _ _ => True) (fun _ U o U' => ∃ v L, o = .returned v ∧ (QP (some (.long (F10 u_low_a0))) h0 n0) v U'.heap L ∧ FrameEnd U o U' L ({ frames := 0, cells := 0, slots := 0, locals := 0 } : Room).cells ({ frames := 0, cells := 0, slots := 0, locals := 0 } : Room).slots) := by
  refine MetFree.of_bodySF (plainFor_of_name own_pn1) hisR ?_
  intro p e s m args below meth c s₁ Bd hml0 hP hK
  obtain ⟨rfl, hZ, hh⟩ := hP
  have hx := Bd.exec
  have hby := Bd.bytes
  have hml : c.maxLocals = 1 := hml0
  have hown : s.vm.findClass "com/example/tidewall/tidewall/Address" = some m.cls := findClass_of_methodNamed Bd.named
  have hnm := (name_of_methodNamed Bd.named Bd.method).1
  have hlk : meth.locks = false := BodyLoose.notSynchronized Bd
  have X0 : Stand p l e ({ frames := 0, cells := 0, slots := 0, locals := 0 } : Room) s m #[(.ref a0)] below meth c s₁ [] 0 0 := Stand.of_body Bd
  have e0 : s₁.heap = h0 := by rw [← hh, Bd.state]; rfl
  have N0 := Fr.nil n0
  show Go p e below s (QP (some (.long (F10 u_low_a0))) h0 n0) ({ frames := 0, cells := 0, slots := 0, locals := 0 } : Room).cells ({ frames := 0, cells := 0, slots := 0, locals := 0 } : Room).slots (s₁.setTop (entryFrame m #[(.ref a0)] 1))
  refine Go.of (fun t k => castTop (ef_10 m a0) k) ?_
  show Go p e below s _ _ _ (s₁.setTop (mkF m 0 #[.val (.ref a0)] []))
  unfold F10
  refine Go.of (fun t k => XS.aloadN X0.here hx rfl (hb hby d10_0) rfl rfl k) ?_
  show Go p e below s _ _ _ (s₁.setTop (mkF m 1 #[.val (.ref a0)] [(.ref a0)]))
  obtain ⟨T1, X1, e1, st1⟩ := getF X0 hx hZ hown (host := "") (Or.inl (hw _ (List.mem_of_getElem? (i := 17) rfl))) Via.refl e0 Fp_low_a0 (g := (mkF m 1 #[.val (.ref a0)] [(.ref a0)])) rfl rfl (hb hby d10_1)
  refine Go.of st1 ?_
  show Go p e below s _ _ _ (T1.setTop (mkF m 4 #[.val (.ref a0)] [(.long u_low_a0)]))
  exact Go.ret X1 (some (.long u_low_a0)) (fun h => by rw [Bd.returns] at h; cases h) hlk ⟨rfl, N0, e1⟩ (by decide) (by decide) (fun fs hr => (retOut X1 hx Bd.returns rfl (Or.inr (Or.inl ⟨rfl, rfl, _, rfl⟩)) (hb hby d10_4) hr))
theorem own_pd4 : parseMethodDescriptor "(I)Lcom/example/tidewall/tidewall/Address;" = some ⟨[.int], some (.object "com/example/tidewall/tidewall/Address")⟩ := by decide +kernel
theorem own_pd5 : parseMethodDescriptor "()J" = some ⟨[], some .long⟩ := by decide +kernel
theorem own_pd6 : parseMethodDescriptor "(JI)J" = some ⟨[.long, .int], some .long⟩ := by decide +kernel
theorem ef_0 (m : MethodId) (q0 : Int64) (q1 : Int64) (p2 : Int32) : entryFrame m #[(.long q0), (.long q1), (.int p2)] maxLocals = mkF m 0 #[.val (.long q0), .second, .val (.long q1), .second, .val (.int p2), .unset, .unset, .unset] [] := by first | (simp [entryFrame, mkF, argsToLocals, Value.category, maxLocals]; done) | rfl
def F0 (q0 : Int64) (q1 : Int64) (p2 : Int32) : Int32 := (if (F8 (q0 &&& (F6 (F5 ((p2 &&& (2147483647 : Int32)) % (129 : Int32)) (64 : Int32))))) = (F9 q0 ((p2 &&& (2147483647 : Int32)) % (129 : Int32))) then (if (F10 (q1 &&& (F6 (F7 (((p2 &&& (2147483647 : Int32)) % (129 : Int32)) - (64 : Int32)) (0 : Int32))))) = (F11 q1 ((p2 &&& (2147483647 : Int32)) % (129 : Int32))) then (1 : Int32) else (0 : Int32)) else (0 : Int32))
set_option maxRecDepth 65536 in
set_option maxHeartbeats 40000000 in
theorem rm0 (l : Launch) (Z : State) (az : Array Value) (hw : ∀ d ∈ tables_1, d.before az Z = true) (ws : List Jvm.Cond) (q0 : Int64) (q1 : Int64) (p2 : Int32)  (h0 : Heap) (n0 : Nat) (Z0 : n0 ≤ h0.size) :
    MetFree l x (head1 (Jvm.Cond.code x code maxLocals ret :: ws) room_1) (fun a U => a = #[(.long q0), (.long q1), (.int p2)] ∧ Z.Warmed39 U.vm ∧ U.heap = h0) (fun _ _ _ _ _ => True) (fun _ U o U' => ∃ v L, o = .returned v ∧ (QL (some (.int (F0 q0 q1 p2))) n0) v U'.heap L ∧ FrameEnd U o U' L room_1.cells room_1.slots) := by
  refine MetFree.of_bodySF (plainFor_of_name own_pn2) hisR ?_
  intro p e s m args below meth c s₁ Bd hml0 hP hK
  obtain ⟨rfl, hZ, hh⟩ := hP
  have hx := Bd.exec
  have hby := Bd.bytes
  have hml : c.maxLocals = 8 := hml0
  have hown : s.vm.findClass "com/example/tidewall/tidewall/AddressPrefixPinLaw" = some m.cls := findClass_of_methodNamed Bd.named
  have hnm := (name_of_methodNamed Bd.named Bd.method).1
  have hlk : meth.locks = false := BodyLoose.notSynchronized Bd
  have X0 : Stand p l e room_1 s m #[(.long q0), (.long q1), (.int p2)] below meth c s₁ [] 0 0 := Stand.of_body Bd
  have e0 : s₁.heap = h0 := by rw [← hh, Bd.state]; rfl
  have N0 := Fr.nil n0
  show Go p e below s (QL (some (.int (F0 q0 q1 p2))) n0) room_1.cells room_1.slots (s₁.setTop (entryFrame m #[(.long q0), (.long q1), (.int p2)] maxLocals))
  refine Go.of (fun t k => castTop (ef_0 m q0 q1 p2) k) ?_
  show Go p e below s _ _ _ (s₁.setTop (mkF m 0 #[.val (.long q0), .second, .val (.long q1), .second, .val (.int p2), .unset, .unset, .unset] []))
  unfold F0
  refine Go.of (fun t k => XS.iload X0.here hx rfl (hb hby at_0) rfl k) ?_
  show Go p e below s _ _ _ (s₁.setTop (mkF m 2 #[.val (.long q0), .second, .val (.long q1), .second, .val (.int p2), .unset, .unset, .unset] [(.int p2)]))
  refine Go.of (X0.ldcInt hx hown (mvT hZ (hw _ (List.mem_of_getElem? (i := 0) rfl))) (g := (mkF m 2 #[.val (.long q0), .second, .val (.long q1), .second, .val (.int p2), .unset, .unset, .unset] [(.int p2)])) rfl (hb hby at_2)) ?_
  show Go p e below s _ _ _ (s₁.setTop (mkF m 4 #[.val (.long q0), .second, .val (.long q1), .second, .val (.int p2), .unset, .unset, .unset] [(.int (2147483647 : Int32)), (.int p2)]))
  refine Go.of (fun t k => XS.iand X0.here hx rfl (hb hby at_4) rfl k) ?_
  show Go p e below s _ _ _ (s₁.setTop (mkF m 5 #[.val (.long q0), .second, .val (.long q1), .second, .val (.int p2), .unset, .unset, .unset] [(.int (p2 &&& (2147483647 : Int32)))]))
  refine Go.of (fun t k => XS.sipush X0.here hx rfl (hb hby at_5) k) ?_
  show Go p e below s _ _ _ (s₁.setTop (mkF m 8 #[.val (.long q0), .second, .val (.long q1), .second, .val (.int p2), .unset, .unset, .unset] [(.int (129 : Int32)), (.int (p2 &&& (2147483647 : Int32)))]))
  refine Go.of (fun t k => iremM X0 hx rfl (hb hby at_8) rfl (by decide) k) ?_
  show Go p e below s _ _ _ (s₁.setTop (mkF m 9 #[.val (.long q0), .second, .val (.long q1), .second, .val (.int p2), .unset, .unset, .unset] [(.int ((p2 &&& (2147483647 : Int32)) % (129 : Int32)))]))
  refine Go.of (fun t k => XS.istore X0.here hx rfl (hb hby at_9) rfl (l' := #[.val (.long q0), .second, .val (.long q1), .second, .val (.int p2), .val (.int ((p2 &&& (2147483647 : Int32)) % (129 : Int32))), .unset, .unset]) rfl k) ?_
  show Go p e below s _ _ _ (s₁.setTop (mkF m 11 #[.val (.long q0), .second, .val (.long q1), .second, .val (.int p2), .val (.int ((p2 &&& (2147483647 : Int32)) % (129 : Int32))), .unset, .unset] []))
  obtain ⟨T1, h1, X1, e1, E1, A1, D1, -, st1⟩ := newO X0 hx hZ hown (hw _ (List.mem_of_getElem? (i := 1) rfl)) (hw _ (List.mem_of_getElem? (i := 2) rfl)) (hw _ (List.mem_of_getElem? (i := 3) rfl)) e0 (g := (mkF m 11 #[.val (.long q0), .second, .val (.long q1), .second, .val (.int p2), .val (.int ((p2 &&& (2147483647 : Int32)) % (129 : Int32))), .unset, .unset] [])) rfl (hb hby at_11) (by decide) (by decide)
  obtain ⟨b1, ga1⟩ : ∃ z, z = h0.size := ⟨_, rfl⟩
  rw [← ga1] at A1 D1 st1
  have g_b1 : n0 ≤ b1 := Nat.le_trans Z0 (Nat.le_of_eq ga1.symm)
  have sz_b1 : h0.size ≤ b1 := Nat.le_trans (Keep.refl h0 []).1 (Nat.le_of_eq ga1.symm)
  have f2 : Fld Z h1 b1 "com/example/tidewall/tidewall/Address" "high" "J" (.long (0 : Int64)) := D1 (Or.inr (hw _ (List.mem_of_getElem? (i := 16) rfl))) (ty := .long) (by decide)
  have f3 : Fld Z h1 b1 "com/example/tidewall/tidewall/Address" "low" "J" (.long (0 : Int64)) := D1 (Or.inr (hw _ (List.mem_of_getElem? (i := 18) rfl))) (ty := .long) (by decide)
  have K1 : Keep h0 h1 [] := Keep.ext (Keep.refl h0 []) E1
  refine Go.of st1 ?_
  show Go p e below s _ _ _ (T1.setTop (mkF m 14 #[.val (.long q0), .second, .val (.long q1), .second, .val (.int p2), .val (.int ((p2 &&& (2147483647 : Int32)) % (129 : Int32))), .unset, .unset] [(.ref b1)]))
  refine Go.of (fun t k => XS.dup X1.here hx rfl (hb hby at_14) rfl rfl k) ?_
  show Go p e below s _ _ _ (T1.setTop (mkF m 15 #[.val (.long q0), .second, .val (.long q1), .second, .val (.int p2), .val (.int ((p2 &&& (2147483647 : Int32)) % (129 : Int32))), .unset, .unset] [(.ref b1), (.ref b1)]))
  refine Go.of (fun t k => XS.lloadN X1.here hx rfl (hb hby at_15) rfl k) ?_
  show Go p e below s _ _ _ (T1.setTop (mkF m 16 #[.val (.long q0), .second, .val (.long q1), .second, .val (.int p2), .val (.int ((p2 &&& (2147483647 : Int32)) % (129 : Int32))), .unset, .unset] [(.long q0), (.ref b1), (.ref b1)]))
  refine Go.of (fun t k => XS.lloadN X1.here hx rfl (hb hby at_16) rfl k) ?_
  show Go p e below s _ _ _ (T1.setTop (mkF m 17 #[.val (.long q0), .second, .val (.long q1), .second, .val (.int p2), .val (.int ((p2 &&& (2147483647 : Int32)) % (129 : Int32))), .unset, .unset] [(.long q1), (.long q0), (.ref b1), (.ref b1)]))
  obtain ⟨_, _, ⟨T4, L4, k4, n4⟩, -, X4, ⟨Lc4, hQ4, l4, y4, z4⟩, st4⟩ := X1.specialBack hx (y := (⟨"com/example/tidewall/tidewall/Address", "<init>", "(JJ)V"⟩ : MethodName)) rfl hown (mvT hZ (hw _ (List.mem_of_getElem? (i := 4) rfl))) (mvT hZ (hw _ (List.mem_of_getElem? (i := 5) rfl))) (mvT hZ (hw _ (List.mem_of_getElem? (i := 6) rfl))) (by decide) (backOf (W := 1) (rm1 l Z az hw [] b1 q0 q1 (.long (0 : Int64)) (.long (0 : Int64)) h1 n0 (Nat.le_trans Z0 K1.1) A1 f2 f3 g_b1) hZ (hw _ (List.mem_of_getElem? (i := 6) rfl)) (hw _ (List.mem_of_getElem? (i := 3) rfl)) (by decide) (by decide)) (g := (mkF m 17 #[.val (.long q0), .second, .val (.long q1), .second, .val (.int p2), .val (.int ((p2 &&& (2147483647 : Int32)) % (129 : Int32))), .unset, .unset] [(.long q1), (.long q0), (.ref b1), (.ref b1)])) rfl (by rw [hml]; rfl) (Steps.refl _) (a := b1) (argsL := [(.long q0), (.long q1)]) (rest := [(.ref b1)]) (lenOf own_pd3 rfl) rfl (by show 2 * 0 + _ ≤ _; exact Nat.le_of_eq rfl) (hb hby at_17) (fun _ _ => ⟨rfl, e1, (by decide : 1 + 0 ≤ _), (by decide : 2 + 0 ≤ _)⟩)
  dsimp only [Pt.U, Pt.locs, Pt.cells, Pt.slots] at X4 l4 y4 z4 st4 hQ4
  subst l4 y4 z4
  obtain ⟨rfl, N4q, Kq4, f5, f6, f7⟩ := hQ4
  have N4 := Fr.app N0 N4q
  have K4 : Keep h0 T4.heap [] := Keep.trans K1 Kq4 (allS (Or.inr sz_b1) all0)
  refine Go.of (fun t k => st4.trans k) ?_
  show Go p e below s _ _ _ (T4.setTop (mkF m 20 #[.val (.long q0), .second, .val (.long q1), .second, .val (.int p2), .val (.int ((p2 &&& (2147483647 : Int32)) % (129 : Int32))), .unset, .unset] [(.ref b1)]))
  refine Go.of (fun t k => XS.astore X4.here hx rfl (hb hby at_20) rfl rfl (l' := #[.val (.long q0), .second, .val (.long q1), .second, .val (.int p2), .val (.int ((p2 &&& (2147483647 : Int32)) % (129 : Int32))), .val (.ref b1), .unset]) rfl k) ?_
  show Go p e below s _ _ _ (T4.setTop (mkF m 22 #[.val (.long q0), .second, .val (.long q1), .second, .val (.int p2), .val (.int ((p2 &&& (2147483647 : Int32)) % (129 : Int32))), .val (.ref b1), .unset] []))
  refine Go.of (fun t k => XS.aload X4.here hx rfl (hb hby at_22) rfl rfl k) ?_
  show Go p e below s _ _ _ (T4.setTop (mkF m 24 #[.val (.long q0), .second, .val (.long q1), .second, .val (.int p2), .val (.int ((p2 &&& (2147483647 : Int32)) % (129 : Int32))), .val (.ref b1), .unset] [(.ref b1)]))
  refine Go.of (fun t k => XS.iload X4.here hx rfl (hb hby at_24) rfl k) ?_
  show Go p e below s _ _ _ (T4.setTop (mkF m 26 #[.val (.long q0), .second, .val (.long q1), .second, .val (.int p2), .val (.int ((p2 &&& (2147483647 : Int32)) % (129 : Int32))), .val (.ref b1), .unset] [(.int ((p2 &&& (2147483647 : Int32)) % (129 : Int32))), (.ref b1)]))
  obtain ⟨cq8, kq8, q8a, q8b, q8c⟩ := isOf hZ rfl f5
  obtain ⟨_, _, ⟨T8, L8, k8, n8⟩, -, X8, ⟨Lc8, hQ8, l8, y8, z8⟩, st8⟩ := X4.virtualBack hx (y := (⟨"com/example/tidewall/tidewall/Address", "prefix", "(I)Lcom/example/tidewall/tidewall/Address;"⟩ : MethodName)) (z := (⟨"com/example/tidewall/tidewall/Address", "prefix", "(I)Lcom/example/tidewall/tidewall/Address;"⟩ : MethodName)) hown (mvT hZ (hw _ (List.mem_of_getElem? (i := 19) rfl))) (mvT hZ (hw _ (List.mem_of_getElem? (i := 20) rfl))) (notFace_of_selects (args := #[]) (mvT hZ (hw _ (List.mem_of_getElem? (i := 22) rfl)))) (mvT hZ (hw _ (List.mem_of_getElem? (i := 22) rfl))) (mvT hZ (hw _ (List.mem_of_getElem? (i := 21) rfl))) (by decide) (backOf (W := 0) (rm4 l Z az hw [] b1 ((p2 &&& (2147483647 : Int32)) % (129 : Int32)) q0 q1 T4.heap n0 (Nat.le_trans Z0 K4.1) f6 f7) hZ (hw _ (List.mem_of_getElem? (i := 23) rfl)) (hw _ (List.mem_of_getElem? (i := 3) rfl)) (by decide) (by decide)) q8a q8c (g := (mkF m 26 #[.val (.long q0), .second, .val (.long q1), .second, .val (.int p2), .val (.int ((p2 &&& (2147483647 : Int32)) % (129 : Int32))), .val (.ref b1), .unset] [(.int ((p2 &&& (2147483647 : Int32)) % (129 : Int32))), (.ref b1)])) rfl (by rw [hml]; rfl) (Steps.refl _) (argsL := [(.int ((p2 &&& (2147483647 : Int32)) % (129 : Int32)))]) (rest := []) (lenOf own_pd4 rfl) rfl (by show 2 * 0 + _ ≤ _; exact Nat.le_of_eq rfl) (hb hby at_26) (fun _ _ => ⟨rfl, rfl, (by decide : 1 + 1 ≤ _), (by decide : 2 + 2 ≤ _)⟩)
  dsimp only [Pt.U, Pt.locs, Pt.cells, Pt.slots] at X8 l8 y8 z8 st8 hQ8
  subst l8 y8 z8
  obtain ⟨b9, rfl, g_b9, szqb9, N8q, Kq8, f10, f11, f12⟩ := hQ8
  have N8 := Fr.app N4 N8q
  have sz_b9 : h0.size ≤ b9 := Nat.le_trans K4.1 szqb9
  have ne13 : b1 ≠ b9 := Nat.ne_of_lt (Nat.lt_of_lt_of_le f5.lt szqb9)
  have f14 := f5.keep Kq8
  have f15 := f6.keep Kq8 nin0
  have f16 := f7.keep Kq8 nin0
  have K8 : Keep h0 T8.heap [] := Keep.trans K4 Kq8 all0
  refine Go.of (fun t k => st8.trans k) ?_
  show Go p e below s _ _ _ (T8.setTop (mkF m 29 #[.val (.long q0), .second, .val (.long q1), .second, .val (.int p2), .val (.int ((p2 &&& (2147483647 : Int32)) % (129 : Int32))), .val (.ref b1), .unset] [(.ref b9)]))
  refine Go.of (fun t k => XS.astore X8.here hx rfl (hb hby at_29) rfl rfl (l' := #[.val (.long q0), .second, .val (.long q1), .second, .val (.int p2), .val (.int ((p2 &&& (2147483647 : Int32)) % (129 : Int32))), .val (.ref b1), .val (.ref b9)]) rfl k) ?_
  show Go p e below s _ _ _ (T8.setTop (mkF m 31 #[.val (.long q0), .second, .val (.long q1), .second, .val (.int p2), .val (.int ((p2 &&& (2147483647 : Int32)) % (129 : Int32))), .val (.ref b1), .val (.ref b9)] []))
  refine Go.of (fun t k => XS.aload X8.here hx rfl (hb hby at_31) rfl rfl k) ?_
  show Go p e below s _ _ _ (T8.setTop (mkF m 33 #[.val (.long q0), .second, .val (.long q1), .second, .val (.int p2), .val (.int ((p2 &&& (2147483647 : Int32)) % (129 : Int32))), .val (.ref b1), .val (.ref b9)] [(.ref b9)]))
  obtain ⟨cq17, kq17, q17a, q17b, q17c⟩ := isOf hZ rfl f10
  obtain ⟨_, _, ⟨T17, L17, k17, n17⟩, -, X17, ⟨Lc17, hQ17, l17, y17, z17⟩, st17⟩ := X8.virtualBack hx (y := (⟨"com/example/tidewall/tidewall/Address", "high", "()J"⟩ : MethodName)) (z := (⟨"com/example/tidewall/tidewall/Address", "high", "()J"⟩ : MethodName)) hown (mvT hZ (hw _ (List.mem_of_getElem? (i := 36) rfl))) (mvT hZ (hw _ (List.mem_of_getElem? (i := 37) rfl))) (notFace_of_selects (args := #[]) (mvT hZ (hw _ (List.mem_of_getElem? (i := 39) rfl)))) (mvT hZ (hw _ (List.mem_of_getElem? (i := 39) rfl))) (mvT hZ (hw _ (List.mem_of_getElem? (i := 38) rfl))) (by decide) (backOf (W := 0) (rm8 l Z az hw [] b9 (q0 &&& (F6 (F5 ((p2 &&& (2147483647 : Int32)) % (129 : Int32)) (64 : Int32)))) T8.heap n0 (Nat.le_trans Z0 K8.1) f11) hZ (hw _ (List.mem_of_getElem? (i := 40) rfl)) (hw _ (List.mem_of_getElem? (i := 3) rfl)) (by decide) (by decide)) q17a q17c (g := (mkF m 33 #[.val (.long q0), .second, .val (.long q1), .second, .val (.int p2), .val (.int ((p2 &&& (2147483647 : Int32)) % (129 : Int32))), .val (.ref b1), .val (.ref b9)] [(.ref b9)])) rfl (by rw [hml]; rfl) (Steps.refl _) (argsL := []) (rest := []) (lenOf own_pd5 rfl) rfl (by show 2 * 0 + _ ≤ _; exact Nat.le_of_eq rfl) (hb hby at_33) (fun _ _ => ⟨rfl, rfl, (by decide : 2 + 0 ≤ _), (by decide : 4 + 0 ≤ _)⟩)
  dsimp only [Pt.U, Pt.locs, Pt.cells, Pt.slots] at X17 l17 y17 z17 st17 hQ17
  subst l17 y17 z17
  obtain ⟨rfl, N17q, e17⟩ := hQ17
  have N17 := Fr.app N8 N17q
  refine Go.of (fun t k => st17.trans k) ?_
  show Go p e below s _ _ _ (T17.setTop (mkF m 36 #[.val (.long q0), .second, .val (.long q1), .second, .val (.int p2), .val (.int ((p2 &&& (2147483647 : Int32)) % (129 : Int32))), .val (.ref b1), .val (.ref b9)] [(.long (F8 (q0 &&& (F6 (F5 ((p2 &&& (2147483647 : Int32)) % (129 : Int32)) (64 : Int32))))))]))
  refine Go.of (fun t k => XS.lloadN X17.here hx rfl (hb hby at_36) rfl k) ?_
  show Go p e below s _ _ _ (T17.setTop (mkF m 37 #[.val (.long q0), .second, .val (.long q1), .second, .val (.int p2), .val (.int ((p2 &&& (2147483647 : Int32)) % (129 : Int32))), .val (.ref b1), .val (.ref b9)] [(.long q0), (.long (F8 (q0 &&& (F6 (F5 ((p2 &&& (2147483647 : Int32)) % (129 : Int32)) (64 : Int32))))))]))
  refine Go.of (fun t k => XS.iload X17.here hx rfl (hb hby at_37) rfl k) ?_
  show Go p e below s _ _ _ (T17.setTop (mkF m 39 #[.val (.long q0), .second, .val (.long q1), .second, .val (.int p2), .val (.int ((p2 &&& (2147483647 : Int32)) % (129 : Int32))), .val (.ref b1), .val (.ref b9)] [(.int ((p2 &&& (2147483647 : Int32)) % (129 : Int32))), (.long q0), (.long (F8 (q0 &&& (F6 (F5 ((p2 &&& (2147483647 : Int32)) % (129 : Int32)) (64 : Int32))))))]))
  obtain ⟨_, _, ⟨T18, L18, k18, n18⟩, -, X18, ⟨Lc18, hQ18, l18, y18, z18⟩, st18⟩ := Jvm.LawKit.callS X17 hx (y := (⟨"com/example/tidewall/tidewall/AddressPrefixPinLaw", "expectedHigh", "(JI)J"⟩ : MethodName)) hown (mvT hZ (hw _ (List.mem_of_getElem? (i := 41) rfl))) (mvT hZ (hw _ (List.mem_of_getElem? (i := 42) rfl))) (mvT hZ (hw _ (List.mem_of_getElem? (i := 43) rfl))) (mvT hZ (hw _ (List.mem_of_getElem? (i := 44) rfl))) (by decide) (backOf (W := 2) (rm9 l Z az hw [] q0 ((p2 &&& (2147483647 : Int32)) % (129 : Int32)) T8.heap n0 (Nat.le_trans Z0 K8.1)) hZ (hw _ (List.mem_of_getElem? (i := 44) rfl)) (hw _ (List.mem_of_getElem? (i := 43) rfl)) (by decide) (by decide)) (g := (mkF m 39 #[.val (.long q0), .second, .val (.long q1), .second, .val (.int p2), .val (.int ((p2 &&& (2147483647 : Int32)) % (129 : Int32))), .val (.ref b1), .val (.ref b9)] [(.int ((p2 &&& (2147483647 : Int32)) % (129 : Int32))), (.long q0), (.long (F8 (q0 &&& (F6 (F5 ((p2 &&& (2147483647 : Int32)) % (129 : Int32)) (64 : Int32))))))])) rfl (by rw [hml]; rfl) (argsL := [(.long q0), (.int ((p2 &&& (2147483647 : Int32)) % (129 : Int32)))]) (rest := [(.long (F8 (q0 &&& (F6 (F5 ((p2 &&& (2147483647 : Int32)) % (129 : Int32)) (64 : Int32))))))]) (lenOf own_pd6 rfl) rfl (by show 2 * 0 + _ ≤ _; exact Nat.le_of_eq rfl) (hb hby at_39) (fun _ _ => ⟨rfl, e17, (by decide : 2 + 0 ≤ _), (by decide : 4 + 0 ≤ _)⟩)
  dsimp only [Pt.U, Pt.locs, Pt.cells, Pt.slots] at X18 l18 y18 z18 st18 hQ18
  subst l18 y18 z18
  obtain ⟨rfl, N18q, e18⟩ := hQ18
  have N18 := Fr.app N17 N18q
  refine Go.of st18 ?_
  show Go p e below s _ _ _ (T18.setTop (mkF m 42 #[.val (.long q0), .second, .val (.long q1), .second, .val (.int p2), .val (.int ((p2 &&& (2147483647 : Int32)) % (129 : Int32))), .val (.ref b1), .val (.ref b9)] [(.long (F9 q0 ((p2 &&& (2147483647 : Int32)) % (129 : Int32)))), (.long (F8 (q0 &&& (F6 (F5 ((p2 &&& (2147483647 : Int32)) % (129 : Int32)) (64 : Int32))))))]))
  refine Go.of (fun t k => XS.lcmp X18.here hx rfl (hb hby at_42) rfl k) ?_
  show Go p e below s _ _ _ (T18.setTop (mkF m 43 #[.val (.long q0), .second, .val (.long q1), .second, .val (.int p2), .val (.int ((p2 &&& (2147483647 : Int32)) % (129 : Int32))), .val (.ref b1), .val (.ref b9)] [(.int (lcmpW (F8 (q0 &&& (F6 (F5 ((p2 &&& (2147483647 : Int32)) % (129 : Int32)) (64 : Int32))))) (F9 q0 ((p2 &&& (2147483647 : Int32)) % (129 : Int32)))))]))
  by_cases hc43_19 : (F8 (q0 &&& (F6 (F5 ((p2 &&& (2147483647 : Int32)) % (129 : Int32)) (64 : Int32))))) = (F9 q0 ((p2 &&& (2147483647 : Int32)) % (129 : Int32)))
  · rewrite [if_pos hc43_19]
    refine Go.of (fun t k => XS.ifNo X18.here hx rfl (hb hby at_43) rfl ((if0 _ _).trans (teq ((lw_eq (F8 (q0 &&& (F6 (F5 ((p2 &&& (2147483647 : Int32)) % (129 : Int32)) (64 : Int32))))) (F9 q0 ((p2 &&& (2147483647 : Int32)) % (129 : Int32)))).mpr hc43_19)).2) k) ?_
    show Go p e below s _ _ _ (T18.setTop (mkF m 46 #[.val (.long q0), .second, .val (.long q1), .second, .val (.int p2), .val (.int ((p2 &&& (2147483647 : Int32)) % (129 : Int32))), .val (.ref b1), .val (.ref b9)] []))
    refine Go.of (fun t k => XS.aload X18.here hx rfl (hb hby at_46) rfl rfl k) ?_
    show Go p e below s _ _ _ (T18.setTop (mkF m 48 #[.val (.long q0), .second, .val (.long q1), .second, .val (.int p2), .val (.int ((p2 &&& (2147483647 : Int32)) % (129 : Int32))), .val (.ref b1), .val (.ref b9)] [(.ref b9)]))
    obtain ⟨cq20, kq20, q20a, q20b, q20c⟩ := isOf hZ e18 f10
    obtain ⟨_, _, ⟨T20, L20, k20, n20⟩, -, X20, ⟨Lc20, hQ20, l20, y20, z20⟩, st20⟩ := X18.virtualBack hx (y := (⟨"com/example/tidewall/tidewall/Address", "low", "()J"⟩ : MethodName)) (z := (⟨"com/example/tidewall/tidewall/Address", "low", "()J"⟩ : MethodName)) hown (mvT hZ (hw _ (List.mem_of_getElem? (i := 45) rfl))) (mvT hZ (hw _ (List.mem_of_getElem? (i := 46) rfl))) (notFace_of_selects (args := #[]) (mvT hZ (hw _ (List.mem_of_getElem? (i := 48) rfl)))) (mvT hZ (hw _ (List.mem_of_getElem? (i := 48) rfl))) (mvT hZ (hw _ (List.mem_of_getElem? (i := 47) rfl))) (by decide) (backOf (W := 0) (rm10 l Z az hw [] b9 (q1 &&& (F6 (F7 (((p2 &&& (2147483647 : Int32)) % (129 : Int32)) - (64 : Int32)) (0 : Int32)))) T8.heap n0 (Nat.le_trans Z0 K8.1) f12) hZ (hw _ (List.mem_of_getElem? (i := 49) rfl)) (hw _ (List.mem_of_getElem? (i := 3) rfl)) (by decide) (by decide)) q20a q20c (g := (mkF m 48 #[.val (.long q0), .second, .val (.long q1), .second, .val (.int p2), .val (.int ((p2 &&& (2147483647 : Int32)) % (129 : Int32))), .val (.ref b1), .val (.ref b9)] [(.ref b9)])) rfl (by rw [hml]; rfl) (Steps.refl _) (argsL := []) (rest := []) (lenOf own_pd5 rfl) rfl (by show 2 * 0 + _ ≤ _; exact Nat.le_of_eq rfl) (hb hby at_48) (fun _ _ => ⟨rfl, e18, (by decide : 2 + 0 ≤ _), (by decide : 4 + 0 ≤ _)⟩)
    dsimp only [Pt.U, Pt.locs, Pt.cells, Pt.slots] at X20 l20 y20 z20 st20 hQ20
    subst l20 y20 z20
    obtain ⟨rfl, N20q, e20⟩ := hQ20
    have N20 := Fr.app N18 N20q
    refine Go.of (fun t k => st20.trans k) ?_
    show Go p e below s _ _ _ (T20.setTop (mkF m 51 #[.val (.long q0), .second, .val (.long q1), .second, .val (.int p2), .val (.int ((p2 &&& (2147483647 : Int32)) % (129 : Int32))), .val (.ref b1), .val (.ref b9)] [(.long (F10 (q1 &&& (F6 (F7 (((p2 &&& (2147483647 : Int32)) % (129 : Int32)) - (64 : Int32)) (0 : Int32))))))]))
    refine Go.of (fun t k => XS.lloadN X20.here hx rfl (hb hby at_51) rfl k) ?_
    show Go p e below s _ _ _ (T20.setTop (mkF m 52 #[.val (.long q0), .second, .val (.long q1), .second, .val (.int p2), .val (.int ((p2 &&& (2147483647 : Int32)) % (129 : Int32))), .val (.ref b1), .val (.ref b9)] [(.long q1), (.long (F10 (q1 &&& (F6 (F7 (((p2 &&& (2147483647 : Int32)) % (129 : Int32)) - (64 : Int32)) (0 : Int32))))))]))
    refine Go.of (fun t k => XS.iload X20.here hx rfl (hb hby at_52) rfl k) ?_
    show Go p e below s _ _ _ (T20.setTop (mkF m 54 #[.val (.long q0), .second, .val (.long q1), .second, .val (.int p2), .val (.int ((p2 &&& (2147483647 : Int32)) % (129 : Int32))), .val (.ref b1), .val (.ref b9)] [(.int ((p2 &&& (2147483647 : Int32)) % (129 : Int32))), (.long q1), (.long (F10 (q1 &&& (F6 (F7 (((p2 &&& (2147483647 : Int32)) % (129 : Int32)) - (64 : Int32)) (0 : Int32))))))]))
    obtain ⟨_, _, ⟨T21, L21, k21, n21⟩, -, X21, ⟨Lc21, hQ21, l21, y21, z21⟩, st21⟩ := Jvm.LawKit.callS X20 hx (y := (⟨"com/example/tidewall/tidewall/AddressPrefixPinLaw", "expectedLow", "(JI)J"⟩ : MethodName)) hown (mvT hZ (hw _ (List.mem_of_getElem? (i := 50) rfl))) (mvT hZ (hw _ (List.mem_of_getElem? (i := 51) rfl))) (mvT hZ (hw _ (List.mem_of_getElem? (i := 43) rfl))) (mvT hZ (hw _ (List.mem_of_getElem? (i := 52) rfl))) (by decide) (backOf (W := 2) (rm11 l Z az hw [] q1 ((p2 &&& (2147483647 : Int32)) % (129 : Int32)) T8.heap n0 (Nat.le_trans Z0 K8.1)) hZ (hw _ (List.mem_of_getElem? (i := 52) rfl)) (hw _ (List.mem_of_getElem? (i := 43) rfl)) (by decide) (by decide)) (g := (mkF m 54 #[.val (.long q0), .second, .val (.long q1), .second, .val (.int p2), .val (.int ((p2 &&& (2147483647 : Int32)) % (129 : Int32))), .val (.ref b1), .val (.ref b9)] [(.int ((p2 &&& (2147483647 : Int32)) % (129 : Int32))), (.long q1), (.long (F10 (q1 &&& (F6 (F7 (((p2 &&& (2147483647 : Int32)) % (129 : Int32)) - (64 : Int32)) (0 : Int32))))))])) rfl (by rw [hml]; rfl) (argsL := [(.long q1), (.int ((p2 &&& (2147483647 : Int32)) % (129 : Int32)))]) (rest := [(.long (F10 (q1 &&& (F6 (F7 (((p2 &&& (2147483647 : Int32)) % (129 : Int32)) - (64 : Int32)) (0 : Int32))))))]) (lenOf own_pd6 rfl) rfl (by show 2 * 0 + _ ≤ _; exact Nat.le_of_eq rfl) (hb hby at_54) (fun _ _ => ⟨rfl, e20, (by decide : 2 + 0 ≤ _), (by decide : 4 + 0 ≤ _)⟩)
    dsimp only [Pt.U, Pt.locs, Pt.cells, Pt.slots] at X21 l21 y21 z21 st21 hQ21
    subst l21 y21 z21
    obtain ⟨rfl, N21q, e21⟩ := hQ21
    have N21 := Fr.app N20 N21q
    refine Go.of st21 ?_
    show Go p e below s _ _ _ (T21.setTop (mkF m 57 #[.val (.long q0), .second, .val (.long q1), .second, .val (.int p2), .val (.int ((p2 &&& (2147483647 : Int32)) % (129 : Int32))), .val (.ref b1), .val (.ref b9)] [(.long (F11 q1 ((p2 &&& (2147483647 : Int32)) % (129 : Int32)))), (.long (F10 (q1 &&& (F6 (F7 (((p2 &&& (2147483647 : Int32)) % (129 : Int32)) - (64 : Int32)) (0 : Int32))))))]))
    refine Go.of (fun t k => XS.lcmp X21.here hx rfl (hb hby at_57) rfl k) ?_
    show Go p e below s _ _ _ (T21.setTop (mkF m 58 #[.val (.long q0), .second, .val (.long q1), .second, .val (.int p2), .val (.int ((p2 &&& (2147483647 : Int32)) % (129 : Int32))), .val (.ref b1), .val (.ref b9)] [(.int (lcmpW (F10 (q1 &&& (F6 (F7 (((p2 &&& (2147483647 : Int32)) % (129 : Int32)) - (64 : Int32)) (0 : Int32))))) (F11 q1 ((p2 &&& (2147483647 : Int32)) % (129 : Int32)))))]))
    by_cases hc58_22 : (F10 (q1 &&& (F6 (F7 (((p2 &&& (2147483647 : Int32)) % (129 : Int32)) - (64 : Int32)) (0 : Int32))))) = (F11 q1 ((p2 &&& (2147483647 : Int32)) % (129 : Int32)))
    · rewrite [if_pos hc58_22]
      refine Go.of (fun t k => XS.ifNo X21.here hx rfl (hb hby at_58) rfl ((if0 _ _).trans (teq ((lw_eq (F10 (q1 &&& (F6 (F7 (((p2 &&& (2147483647 : Int32)) % (129 : Int32)) - (64 : Int32)) (0 : Int32))))) (F11 q1 ((p2 &&& (2147483647 : Int32)) % (129 : Int32)))).mpr hc58_22)).2) k) ?_
      show Go p e below s _ _ _ (T21.setTop (mkF m 61 #[.val (.long q0), .second, .val (.long q1), .second, .val (.int p2), .val (.int ((p2 &&& (2147483647 : Int32)) % (129 : Int32))), .val (.ref b1), .val (.ref b9)] []))
      refine Go.of (fun t k => XS.iconst X21.here hx rfl (hb hby at_61) k) ?_
      show Go p e below s _ _ _ (T21.setTop (mkF m 62 #[.val (.long q0), .second, .val (.long q1), .second, .val (.int p2), .val (.int ((p2 &&& (2147483647 : Int32)) % (129 : Int32))), .val (.ref b1), .val (.ref b9)] [(.int (1 : Int32))]))
      refine Go.of (fun t k => XS.goto X21.here hx rfl (pc0 := 62) (pc' := 66) rfl (hb hby at_62) (by decide) (by decide) k) ?_
      show Go p e below s _ _ _ (T21.setTop (mkF m 66 #[.val (.long q0), .second, .val (.long q1), .second, .val (.int p2), .val (.int ((p2 &&& (2147483647 : Int32)) % (129 : Int32))), .val (.ref b1), .val (.ref b9)] [(.int (1 : Int32))]))
      exact Go.ret X21 (some (.int (1 : Int32))) (fun h => by rw [Bd.returns] at h; cases h) hlk ⟨rfl, N21⟩ (by decide) (by decide) (fun fs hr => (retN X21 hx (t := .boolean) Bd.returns (by simp) (hb hby at_66) hr))
    · rewrite [if_neg hc58_22]
      refine Go.of (fun t k => XS.ifYes X21.here hx rfl (pc0 := 58) (pc' := 65) rfl (hb hby at_58) rfl ((if0 _ _).trans (feq (mt (lw_eq (F10 (q1 &&& (F6 (F7 (((p2 &&& (2147483647 : Int32)) % (129 : Int32)) - (64 : Int32)) (0 : Int32))))) (F11 q1 ((p2 &&& (2147483647 : Int32)) % (129 : Int32)))).mp hc58_22)).2) (by decide) (by decide) k) ?_
      show Go p e below s _ _ _ (T21.setTop (mkF m 65 #[.val (.long q0), .second, .val (.long q1), .second, .val (.int p2), .val (.int ((p2 &&& (2147483647 : Int32)) % (129 : Int32))), .val (.ref b1), .val (.ref b9)] []))
      refine Go.of (fun t k => XS.iconst X21.here hx rfl (hb hby at_65) k) ?_
      show Go p e below s _ _ _ (T21.setTop (mkF m 66 #[.val (.long q0), .second, .val (.long q1), .second, .val (.int p2), .val (.int ((p2 &&& (2147483647 : Int32)) % (129 : Int32))), .val (.ref b1), .val (.ref b9)] [(.int (0 : Int32))]))
      exact Go.ret X21 (some (.int (0 : Int32))) (fun h => by rw [Bd.returns] at h; cases h) hlk ⟨rfl, N21⟩ (by decide) (by decide) (fun fs hr => (retN X21 hx (t := .boolean) Bd.returns (by simp) (hb hby at_66) hr))
  · rewrite [if_neg hc43_19]
    refine Go.of (fun t k => XS.ifYes X18.here hx rfl (pc0 := 43) (pc' := 65) rfl (hb hby at_43) rfl ((if0 _ _).trans (feq (mt (lw_eq (F8 (q0 &&& (F6 (F5 ((p2 &&& (2147483647 : Int32)) % (129 : Int32)) (64 : Int32))))) (F9 q0 ((p2 &&& (2147483647 : Int32)) % (129 : Int32)))).mp hc43_19)).2) (by decide) (by decide) k) ?_
    show Go p e below s _ _ _ (T18.setTop (mkF m 65 #[.val (.long q0), .second, .val (.long q1), .second, .val (.int p2), .val (.int ((p2 &&& (2147483647 : Int32)) % (129 : Int32))), .val (.ref b1), .val (.ref b9)] []))
    refine Go.of (fun t k => XS.iconst X18.here hx rfl (hb hby at_65) k) ?_
    show Go p e below s _ _ _ (T18.setTop (mkF m 66 #[.val (.long q0), .second, .val (.long q1), .second, .val (.int p2), .val (.int ((p2 &&& (2147483647 : Int32)) % (129 : Int32))), .val (.ref b1), .val (.ref b9)] [(.int (0 : Int32))]))
    exact Go.ret X18 (some (.int (0 : Int32))) (fun h => by rw [Bd.returns] at h; cases h) hlk ⟨rfl, N18⟩ (by decide) (by decide) (fun fs hr => (retN X18 hx (t := .boolean) Bd.returns (by simp) (hb hby at_66) hr))
theorem own_shl (x : Int64) (q : Int32) (k : Nat) (hk : q.toBitVec.toNat % 64 = k) : (x <<< (q &&& 0x3f).toInt64).toBitVec = x.toBitVec <<< k := by
  show x.toBitVec <<< ((q &&& 0x3f).toInt64.toBitVec.smod 64) = _
  rw [BitVec.shiftLeft_eq', (sm64 q k hk).1, smod64 k (sm64 q k hk).2]
theorem own_ushr (x : Int64) (q : Int32) (k : Nat) (hk : q.toBitVec.toNat % 64 = k) : ((x.toUInt64 >>> (q &&& 0x3f).toInt64.toUInt64).toInt64).toBitVec = x.toBitVec >>> k := by
  show x.toBitVec >>> ((q &&& 0x3f).toInt64.toBitVec % 64) = _
  have h := (sm64 q k hk).2
  rw [BitVec.ushiftRight_eq', (sm64 q k hk).1, BitVec.toNat_umod, BitVec.toNat_ofNat]
  congr 1
  show k % 2 ^ 64 % 64 = k
  omega
theorem own_mask (x : BitVec 64) (k : Nat) : x &&& (0xFFFFFFFFFFFFFFFF#64 <<< k) = (x >>> k) <<< k := by
  have e : ∀ i : Fin 64, (0xFFFFFFFFFFFFFFFF#64).getLsbD i.val = true := by decide +kernel
  apply BitVec.eq_of_getLsbD_eq
  intro i hi
  rw [BitVec.getLsbD_and, BitVec.getLsbD_shiftLeft, BitVec.getLsbD_shiftLeft, BitVec.getLsbD_ushiftRight]
  by_cases h : i < k
  · simp [h]
  · have q := e ⟨i - k, by omega⟩
    simp only at q
    simp [h, hi, q, show k + (i - k) = i by omega]
theorem own_ms (x : Int64) (q : Int32) : x &&& ((-1 : Int64) <<< (q &&& 0x3f).toInt64) = (((x.toUInt64 >>> (q &&& 0x3f).toInt64.toUInt64).toInt64) <<< (q &&& 0x3f).toInt64) := by
  rw [← Int64.toBitVec_inj, own_shl _ q _ rfl, own_ushr _ q _ rfl]
  show x.toBitVec &&& ((-1 : Int64) <<< (q &&& 0x3f).toInt64).toBitVec = _
  rw [own_shl _ q _ rfl]
  exact own_mask _ _
theorem own_e0 : (0 : Int32).toInt = 0 := by decide
theorem own_e64 : (64 : Int32).toInt = 64 := by decide
theorem own_e128 : (128 : Int32).toInt = 128 := by decide
theorem own_hi (x : Int64) (n : Int32) (h : 0 ≤ n.toInt ∧ n.toInt ≤ 128) : x &&& (F6 (F5 n (64 : Int32))) = F9 x n := by
  unfold F5 F6 F9
  simp only [Int32.lt_iff_toInt_lt, own_e64]
  by_cases h1 : 64 < n.toInt
  · rw [if_pos h1, if_neg (by decide), if_neg (show ¬ n.toInt < 64 by omega)]
    have e : ((-1 : Int64) <<< (((64 : Int32) - 64) &&& 0x3f).toInt64) = -1 := by decide
    rw [e]; exact Int64.and_neg_one
  · rw [if_neg h1]
    by_cases h2 : n.toInt < 64
    · rw [if_pos h2]
      by_cases h3 : n = 0
      · rw [if_pos h3, if_pos h3]; exact Int64.and_zero
      · rw [if_neg h3, if_neg h3]; exact own_ms _ _
    · have h4 : n = 64 := Int32.toInt_inj.mp (by rw [own_e64]; omega)
      subst h4
      rw [if_neg (by decide), if_neg h2]
      have e : ((-1 : Int64) <<< (((64 : Int32) - 64) &&& 0x3f).toInt64) = -1 := by decide
      rw [e]; exact Int64.and_neg_one
theorem own_lo (x : Int64) (n : Int32) (h : 0 ≤ n.toInt ∧ n.toInt ≤ 128) : x &&& (F6 (F7 (n - (64 : Int32)) (0 : Int32))) = F11 x n := by
  have s := c_isub n 64
  have t := rng32 (n - 64)
  have e64 := own_e64
  unfold F7 F6 F11
  simp only [Int32.lt_iff_toInt_lt, own_e64, own_e0]
  by_cases h1 : (n - 64).toInt < 0
  · rw [if_pos h1, if_pos rfl, if_neg (show ¬ 64 < n.toInt by omega)]; exact Int64.and_zero
  · rw [if_neg h1]
    by_cases h2 : n - 64 = 0
    · have q : (n - 64).toInt = 0 := by rw [h2]; rfl
      rw [if_pos h2, if_neg (show ¬ 64 < n.toInt by omega)]; exact Int64.and_zero
    · have q : ¬ (n - 64).toInt = 0 := fun z => h2 (Int32.toInt_inj.mp (by rw [z]; rfl))
      rw [if_neg h2, if_pos (show 64 < n.toInt by omega)]
      have e : (64 : Int32) - (n - 64) = 128 - n := by
        apply Int32.toInt_inj.mp
        have s1 := c_isub 64 (n - 64)
        have s2 := c_isub 128 n
        have t1 := rng32 (64 - (n - 64))
        have t2 := rng32 (128 - n)
        have e128 := own_e128
        omega
      rw [e]
      by_cases h3 : n = 128
      · subst h3
        rw [if_pos rfl]
        have e : ((-1 : Int64) <<< (((128 : Int32) - 128) &&& 0x3f).toInt64) = -1 := by decide
        rw [e]; exact Int64.and_neg_one
      · rw [if_neg h3]; exact own_ms _ _
theorem own_law (a b : Int64) (c : Int32) : F0 a b c = 1 := by
  have m := c_mask c 2147483647 31 (by decide) (by decide)
  have e : (129 : Int32).toInt = 129 := by decide
  have r := (c_irem (c &&& 2147483647) 129 129 e).1 (by omega)
  have h : 0 ≤ ((c &&& 2147483647) % 129).toInt ∧ ((c &&& 2147483647) % 129).toInt ≤ 128 := by omega
  unfold F0 F8 F10
  rw [if_pos (own_hi a _ h), if_pos (own_lo b _ h)]
set_option maxRecDepth 65536 in
set_option maxHeartbeats 40000000 in
theorem comes_1 {Post : Tables → Env → Array Value → State → Outcome → State → Prop} (hpost : ∀ tb e args s v u, (limb_1_1.after args s (.returned v) u = true ∧ limb_1_2.after args s (.returned v) u = true ∧ True) → FrameEnd s (.returned v) u (Jvm.fieldLocs frame_1_writes args s ++ Jvm.arrayLocs frame_1_arrays args s ++ Jvm.staticLocs frame_1_statics s) 16 128 → Post tb e args s (.returned v) u) :
    ArmFor flags0 classFile x code maxLocals ret World_1 tables_1 room_1 Calls_1 rest_1 Pre_1 Post := by
  intro l hfl _ _ p e ha hc hk s m args below hf hA hF happ hP
  obtain ⟨hcalls, hrest, hpre⟩ := hP
  obtain ⟨-, -, -, hnamed, -, -, -, hat⟩ := (Spec.applies_iff hf).mp happ
  obtain ⟨hg, hn⟩ := and_e (Cond.before_iff.mp (show (Jvm.Cond.and given_1 narrow_1).before args s = true from hpre))
  obtain ⟨g0, g1⟩ := and_e hg
  obtain ⟨a0, g2⟩ := and_e g1
  obtain ⟨a1, g3⟩ := and_e g2
  have a2 := g3
  obtain ⟨w0, w1, w2, rfl⟩ : ∃ w0 w1 w2 : Value, args = #[w0, w1, w2] := by
    have hs : args.size = 3 := by simpa [Cond.value, given_1] using g0
    obtain ⟨L⟩ := args
    match L, hs with
    | [w0, w1, w2], _ => exact ⟨w0, w1, w2, rfl⟩
  have hw := fun d (hd : d ∈ tables_1) => atoms_spec (ws := Jvm.Cond.code x code maxLocals ret :: tables_1) hat d (List.mem_cons_of_mem _ hd)
  obtain ⟨i0, ei0⟩ := isL_v a0
  obtain rfl : w0 = (.long i0) := Option.some.inj ei0
  obtain ⟨i1, ei1⟩ := isL_v a1
  obtain rfl : w1 = (.long i1) := Option.some.inj ei1
  obtain ⟨i2, ei2⟩ := is_v a2
  obtain rfl : w2 = (.int i2) := Option.some.inj ei2
  obtain ⟨n, o, h1, h2, h3, _, L, rfl, ⟨rfl, N⟩, hq⟩ := rm0 l s _ hw tables_1 i0 i1 i2 s.heap s.heap.size (Nat.le_refl _) p e ha hc hk s m _ below hf ((Spec.applies_iff_loose hf).mp happ).1 ⟨rfl, State.Warmed39.refl s, rfl⟩ trivial
  have hone : (F0 i0 i1 i2) = 1 := own_law i0 i1 i2
  refine ⟨n, _, h1, h2, h3, hpost _ _ _ _ _ _ ⟨Cond.after_iff.mpr rfl, Cond.after_iff.mpr (eq_i res_at (Term.int_eval (1)) (by rw [hone])), trivial⟩ ⟨hq.1, hq.2.1, (hq.2.2.sift fun y hy => Or.inr (N y hy)).mono (by decide) (by decide)⟩⟩
theorem main_1_1 : Claimed_1_1 := comes_1 fun _ _ _ _ _ _ h hF => ⟨h.1, hF⟩
theorem main_1_2 : Claimed_1_2 := comes_1 fun _ _ _ _ _ _ h hF => ⟨h.2.1, hF⟩
end Jvm.Pilot.@@N@@
namespace Jvm.Pilot.@@N@@
open Jvm Jvm.ClassFile Sem Op Lib Jvm.Free Jvm.Stand Jvm.Pilot.@@N@@.Jvm.D
/-! MADE BY PROGRAM (witnessworld.py) out of the Statement's table words and the real class files: 12 classes; the members and pool entries that the words name. The judged class is class 1, her method 3. -/
namespace start1
open Jvm.ClassFile
def u (s : String) : CpInfo := .utf8 (stringToUtf16 s)
/-- a pool by its gaps: so many unusable entries, then the entry; so many at the end -/
def gap : Nat → List CpInfo → List CpInfo
  | 0, r => r
  | n + 1, r => .unusable :: gap n r
def poolList (es : List (Nat × CpInfo)) (last : Nat) : List CpInfo := es.foldr (fun e r => gap e.1 (e.2 :: r)) (gap last [])
def pool (es : List (Nat × CpInfo)) (last : Nat) : Array CpInfo := ⟨poolList es last⟩
def fileOf (pool : Array CpInfo) (this : Nat) (attrs : Array Attribute := #[]) (ms : Array MethodInfo := #[]) (fl : Nat := 33) (sup : Nat := 0) (ifs : Array Nat := #[]) (fds : Array FieldInfo := #[]) : ClassFile where
  minorVersion := 0
  majorVersion := 65
  constantPool := pool
  accessFlags := fl
  thisClass := this
  superClass := sup
  interfaces := ifs
  fields := fds
  methods := ms
  attributes := attrs
def plain (name : String) (sup : Option ClassId) : Class where
  name := name
  kind := .ordinary
  loader := none
  accessFlags := 33
  super := sup
  interfaces := #[]
  cf := none
  fields := #[]
  methods := #[]
  instanceTypes := #[]
  staticTypes := #[]
  resolved := #[]
  callSites := []
  init := .initialized
  statics := none
  mirror := none

def pool0 : Array CpInfo := pool [(5, u "<init>"), (0, u "()V"), (1, .class_ 10), (1, u "java/lang/Object")] 113

def k0c0 : Code := { maxStack := 0, maxLocals := 1, code := object_method_1_code, exceptionTable := #[], attributes := #[] }
def k0m0 : Method := { name := "<init>", desc := "()V", sig := { parameters := [], returnType := none }, accessFlags := 1, code := some k0c0 }
/-- java/lang/Object -/
def k0 : Class := { plain "java/lang/Object" none with
  accessFlags := 33
  interfaces := #[]
  cf := some (fileOf pool0 8 #[] #[{ accessFlags := 1, nameIndex := 5, descriptorIndex := 6, attributes := #[] }] 33 0 #[] #[])
  fields := #[]
  methods := #[k0m0]
  instanceTypes := #[]
  staticTypes := #[]
  resolved := Array.replicate 124 none
  statics := none }

def pool1 : Array CpInfo := pool [(2, .class_ 4), (1, u "java/lang/Object"), (0, u "<init>"), (0, u "()V"), (0, .integer 2147483647), (0, .class_ 9), (0, u "com/example/tidewall/tidewall/Address"), (0, .methodref 8 11), (0, .nameAndType 5 12), (0, u "(JJ)V"), (0, .methodref 8 14), (0, .nameAndType 15 16), (0, u "prefix"), (0, u "(I)Lcom/example/tidewall/tidewall/Address;"), (0, .methodref 8 18), (0, .nameAndType 19 20), (0, u "high"), (0, u "()J"), (0, .methodref 22 23), (0, .class_ 24), (0, .nameAndType 25 26), (0, u "com/example/tidewall/tidewall/AddressPrefixPinLaw"), (0, u "expectedHigh"), (0, u "(JI)J"), (0, .methodref 8 28), (0, .nameAndType 29 20), (0, u "low"), (0, .methodref 22 31), (0, .nameAndType 32 26), (0, u "expectedLow"), (3, u "law"), (0, u "(JJI)Z")] 2

def k1m0 : Method := { name := "<init>", desc := "()V", sig := { parameters := [], returnType := none }, accessFlags := 1, code := none }
def k1c1 : Code := { maxStack := 3, maxLocals := 4, code := method_2_code, exceptionTable := #[], attributes := #[] }
def k1m1 : Method := { name := "expectedHigh", desc := "(JI)J", sig := { parameters := [.long, .int], returnType := some .long }, accessFlags := 10, code := some k1c1 }
def k1c2 : Code := { maxStack := 3, maxLocals := 4, code := method_3_code, exceptionTable := #[], attributes := #[] }
def k1m2 : Method := { name := "expectedLow", desc := "(JI)J", sig := { parameters := [.long, .int], returnType := some .long }, accessFlags := 10, code := some k1c2 }
def k1c3 : Code := { maxStack := 6, maxLocals := 8, code := code, exceptionTable := #[], attributes := #[] }
def k1m3 : Method := { name := "law", desc := "(JJI)Z", sig := { parameters := [.long, .long, .int], returnType := some .boolean }, accessFlags := 9, code := some k1c3 }
/-- com/example/tidewall/tidewall/AddressPrefixPinLaw -/
def k1 : Class := { plain "com/example/tidewall/tidewall/AddressPrefixPinLaw" (some 0) with
  accessFlags := 49
  interfaces := #[]
  cf := some (fileOf pool1 22 #[] #[{ accessFlags := 1, nameIndex := 5, descriptorIndex := 6, attributes := #[] }, { accessFlags := 10, nameIndex := 25, descriptorIndex := 26, attributes := #[] }, { accessFlags := 10, nameIndex := 32, descriptorIndex := 26, attributes := #[] }, { accessFlags := 9, nameIndex := 36, descriptorIndex := 37, attributes := #[] }] 49 2 #[] #[])
  fields := #[]
  methods := #[k1m0, k1m1, k1m2, k1m3]
  instanceTypes := #[]
  staticTypes := #[]
  resolved := Array.replicate 40 none
  statics := none }

def pool2 : Array CpInfo := pool [(1, .methodref 2 3), (0, .class_ 4), (0, .nameAndType 5 6), (0, u "java/lang/Object"), (0, u "<init>"), (0, u "()V"), (0, .class_ 8), (0, u "java/lang/Record")] 13

def k2c0 : Code := { maxStack := 1, maxLocals := 1, code := jdk_30_method_1_code, exceptionTable := #[], attributes := #[] }
def k2m0 : Method := { name := "<init>", desc := "()V", sig := { parameters := [], returnType := none }, accessFlags := 4, code := some k2c0 }
/-- java/lang/Record -/
def k2 : Class := { plain "java/lang/Record" (some 0) with
  accessFlags := 1057
  interfaces := #[]
  cf := some (fileOf pool2 7 #[] #[{ accessFlags := 4, nameIndex := 5, descriptorIndex := 6, attributes := #[] }] 1057 2 #[] #[])
  fields := #[]
  methods := #[k2m0]
  instanceTypes := #[]
  staticTypes := #[]
  resolved := Array.replicate 22 none
  statics := none }

def pool3 : Array CpInfo := pool [(1, .class_ 2), (0, u "java/lang/Comparable"), (0, .class_ 4), (0, u "java/lang/Object")] 7

/-- java/lang/Comparable -/
def k3 : Class := { plain "java/lang/Comparable" (some 0) with
  accessFlags := 1537
  interfaces := #[]
  cf := some (fileOf pool3 1 #[] #[] 1537 3 #[] #[])
  fields := #[]
  methods := #[]
  instanceTypes := #[]
  staticTypes := #[]
  resolved := Array.replicate 12 none
  statics := none }

def pool4 : Array CpInfo := pool [(1, .methodref 2 3), (0, .class_ 4), (0, .nameAndType 5 6), (0, u "java/lang/Record"), (0, u "<init>"), (0, u "()V"), (0, .fieldref 8 9), (0, .class_ 10), (0, .nameAndType 11 12), (0, u "com/example/tidewall/tidewall/Address"), (0, u "high"), (0, u "J"), (0, .fieldref 8 14), (0, .nameAndType 15 12), (0, u "low"), (52, u "(I)J"), (0, .methodref 8 70), (0, .nameAndType 5 71), (0, u "(JJ)V"), (3, u "()J"), (8, u "prefix"), (0, u "(I)Lcom/example/tidewall/tidewall/Address;"), (0, .methodref 87 88), (0, .class_ 89), (0, .nameAndType 90 91), (0, u "java/lang/Math"), (0, u "min"), (0, u "(II)I"), (0, .methodref 8 93), (0, .nameAndType 94 68), (0, u "firstBits"), (0, .methodref 87 96), (0, .nameAndType 97 91), (0, u "max"), (0, .long 18446744073709551615), (20, .class_ 120), (0, u "java/lang/Comparable"), (0, u "BITS"), (0, u "I"), (2, u "IPV4_MAPPED"), (0, u "IPV4_BITS")] 39

def k4c0 : Code := { maxStack := 3, maxLocals := 5, code := prog_1_method_1_code, exceptionTable := #[], attributes := #[] }
def k4m0 : Method := { name := "<init>", desc := "(JJ)V", sig := { parameters := [.long, .long], returnType := none }, accessFlags := 0, code := some k4c0 }
def k4c1 : Code := { maxStack := 8, maxLocals := 2, code := prog_1_method_6_code, exceptionTable := #[], attributes := #[] }
def k4m1 : Method := { name := "prefix", desc := "(I)Lcom/example/tidewall/tidewall/Address;", sig := { parameters := [.int], returnType := some (.object "com/example/tidewall/tidewall/Address") }, accessFlags := 0, code := some k4c1 }
def k4c2 : Code := { maxStack := 4, maxLocals := 1, code := prog_1_method_7_code, exceptionTable := #[], attributes := #[] }
def k4m2 : Method := { name := "firstBits", desc := "(I)J", sig := { parameters := [.int], returnType := some .long }, accessFlags := 10, code := some k4c2 }
def k4c3 : Code := { maxStack := 2, maxLocals := 1, code := prog_1_method_12_code, exceptionTable := #[], attributes := #[] }
def k4m3 : Method := { name := "high", desc := "()J", sig := { parameters := [], returnType := some .long }, accessFlags := 1, code := some k4c3 }
def k4c4 : Code := { maxStack := 2, maxLocals := 1, code := prog_1_method_13_code, exceptionTable := #[], attributes := #[] }
def k4m4 : Method := { name := "low", desc := "()J", sig := { parameters := [], returnType := some .long }, accessFlags := 1, code := some k4c4 }
/-- com/example/tidewall/tidewall/Address -/
def k4 : Class := { plain "com/example/tidewall/tidewall/Address" (some 2) with
  accessFlags := 48
  interfaces := #[3]
  cf := some (fileOf pool4 8 #[] #[{ accessFlags := 0, nameIndex := 5, descriptorIndex := 71, attributes := #[] }, { accessFlags := 0, nameIndex := 84, descriptorIndex := 85, attributes := #[] }, { accessFlags := 10, nameIndex := 94, descriptorIndex := 68, attributes := #[] }, { accessFlags := 1, nameIndex := 11, descriptorIndex := 75, attributes := #[] }, { accessFlags := 1, nameIndex := 15, descriptorIndex := 75, attributes := #[] }] 48 2 #[119] #[{ accessFlags := 18, nameIndex := 11, descriptorIndex := 12, attributes := #[] }, { accessFlags := 18, nameIndex := 15, descriptorIndex := 12, attributes := #[] }, { accessFlags := 24, nameIndex := 121, descriptorIndex := 122, attributes := #[] }, { accessFlags := 26, nameIndex := 125, descriptorIndex := 12, attributes := #[] }, { accessFlags := 26, nameIndex := 126, descriptorIndex := 12, attributes := #[] }])
  fields := #[{ name := "high", type := .long, accessFlags := 18, slot := 0, constantValue := 0 }, { name := "low", type := .long, accessFlags := 18, slot := 1, constantValue := 0 }, { name := "BITS", type := .int, accessFlags := 24, slot := 0, constantValue := 0 }, { name := "IPV4_MAPPED", type := .long, accessFlags := 26, slot := 1, constantValue := 0 }, { name := "IPV4_BITS", type := .long, accessFlags := 26, slot := 2, constantValue := 0 }]
  methods := #[k4m0, k4m1, k4m2, k4m3, k4m4]
  instanceTypes := #[.long, .long]
  staticTypes := #[.int, .long, .long]
  resolved := Array.replicate 166 none
  statics := none }

def pool5 : Array CpInfo := pool [(1, .class_ 2), (0, u "java/lang/Math"), (1, .class_ 6), (1, u "java/lang/Object"), (0, u "<init>"), (0, u "()V"), (89, .class_ 100), (1, u "java/lang/Math$RandomNumberGeneratorHolder"), (71, u "negativeZeroFloatBits"), (0, u "J"), (2, u "negativeZeroDoubleBits"), (21, u "max"), (2, u "min"), (43, u "$assertionsDisabled"), (0, u "Z"), (88, u "(II)I"), (2, u "twoToTheDoubleScaleDown"), (0, u "D"), (4, u "twoToTheDoubleScaleUp"), (9, u "E"), (3, u "PI"), (2, u "TAU"), (2, u "DEGREES_TO_RADIANS"), (0, u "RADIANS_TO_DEGREES")] 94

def k5m0 : Method := { name := "<init>", desc := "()V", sig := { parameters := [], returnType := none }, accessFlags := 2, code := none }
def k5c1 : Code := { maxStack := 2, maxLocals := 2, code := jdk_29_method_65_code, exceptionTable := #[], attributes := #[] }
def k5m1 : Method := { name := "max", desc := "(II)I", sig := { parameters := [.int, .int], returnType := some .int }, accessFlags := 9, code := some k5c1 }
def k5c2 : Code := { maxStack := 2, maxLocals := 2, code := jdk_29_method_69_code, exceptionTable := #[], attributes := #[] }
def k5m2 : Method := { name := "min", desc := "(II)I", sig := { parameters := [.int, .int], returnType := some .int }, accessFlags := 9, code := some k5c2 }
/-- java/lang/Math -/
def k5 : Class := { plain "java/lang/Math" (some 0) with
  accessFlags := 49
  interfaces := #[]
  cf := some (fileOf pool5 1 #[.nestMembers #[98]] #[{ accessFlags := 2, nameIndex := 7, descriptorIndex := 8, attributes := #[] }, { accessFlags := 9, nameIndex := 198, descriptorIndex := 335, attributes := #[] }, { accessFlags := 9, nameIndex := 201, descriptorIndex := 335, attributes := #[] }] 49 4 #[] #[{ accessFlags := 25, nameIndex := 354, descriptorIndex := 339, attributes := #[] }, { accessFlags := 25, nameIndex := 358, descriptorIndex := 339, attributes := #[] }, { accessFlags := 25, nameIndex := 361, descriptorIndex := 339, attributes := #[] }, { accessFlags := 26, nameIndex := 364, descriptorIndex := 339, attributes := #[] }, { accessFlags := 26, nameIndex := 365, descriptorIndex := 339, attributes := #[] }, { accessFlags := 26, nameIndex := 172, descriptorIndex := 173, attributes := #[] }, { accessFlags := 26, nameIndex := 176, descriptorIndex := 173, attributes := #[] }, { accessFlags := 8, nameIndex := 344, descriptorIndex := 339, attributes := #[] }, { accessFlags := 8, nameIndex := 338, descriptorIndex := 339, attributes := #[] }, { accessFlags := 4120, nameIndex := 245, descriptorIndex := 246, attributes := #[] }])
  fields := #[{ name := "E", type := .double, accessFlags := 25, slot := 0, constantValue := 0 }, { name := "PI", type := .double, accessFlags := 25, slot := 1, constantValue := 0 }, { name := "TAU", type := .double, accessFlags := 25, slot := 2, constantValue := 0 }, { name := "DEGREES_TO_RADIANS", type := .double, accessFlags := 26, slot := 3, constantValue := 0 }, { name := "RADIANS_TO_DEGREES", type := .double, accessFlags := 26, slot := 4, constantValue := 0 }, { name := "negativeZeroFloatBits", type := .long, accessFlags := 26, slot := 5, constantValue := 0 }, { name := "negativeZeroDoubleBits", type := .long, accessFlags := 26, slot := 6, constantValue := 0 }, { name := "twoToTheDoubleScaleUp", type := .double, accessFlags := 8, slot := 7, constantValue := 0 }, { name := "twoToTheDoubleScaleDown", type := .double, accessFlags := 8, slot := 8, constantValue := 0 }, { name := "$assertionsDisabled", type := .boolean, accessFlags := 4120, slot := 9, constantValue := 0 }]
  methods := #[k5m0, k5m1, k5m2]
  instanceTypes := #[]
  staticTypes := #[.double, .double, .double, .double, .double, .long, .long, .double, .double, .boolean]
  resolved := Array.replicate 460 none
  statics := none }

def pool6 : Array CpInfo := pool [(1, u "java/lang/Cloneable"), (0, .class_ 1), (0, u "java/lang/Object"), (0, .class_ 3)] 3

/-- java/lang/Cloneable -/
def k6 : Class := { plain "java/lang/Cloneable" (some 0) with
  accessFlags := 1537
  interfaces := #[]
  cf := some (fileOf pool6 2 #[] #[] 1537 4 #[] #[])
  fields := #[]
  methods := #[]
  instanceTypes := #[]
  staticTypes := #[]
  resolved := Array.replicate 8 none
  statics := none }

def pool7 : Array CpInfo := pool [(1, u "java/io/Serializable"), (0, .class_ 1), (0, u "java/lang/Object"), (0, .class_ 3)] 3

/-- java/io/Serializable -/
def k7 : Class := { plain "java/io/Serializable" (some 0) with
  accessFlags := 1537
  interfaces := #[]
  cf := some (fileOf pool7 2 #[] #[] 1537 4 #[] #[])
  fields := #[]
  methods := #[]
  instanceTypes := #[]
  staticTypes := #[]
  resolved := Array.replicate 8 none
  statics := none }

/-- the primitive byte -/
def k8 : Class := { plain "byte" none with kind := .primitive 'B', accessFlags := 0x411 }
/-- [B -/
def k9 : Class := { plain "[B" (some 0) with kind := .array 8 .byte, interfaces := #[6, 7], accessFlags := 1041 }

/-- the primitive int -/
def k10 : Class := { plain "int" none with kind := .primitive 'I', accessFlags := 0x411 }
/-- [I -/
def k11 : Class := { plain "[I" (some 0) with kind := .array 10 .int, interfaces := #[6, 7], accessFlags := 1041 }

def heap : Heap := #[]
def classes : Array Class := #[k0, k1, k2, k3, k4, k5, k6, k7, k8, k9, k10, k11]
def interned : List (Array UInt16 × Addr) := []
def slotsUsed : Nat := 0
def theMethod : MethodId := ⟨1, 3⟩
def args0 : Array Value := #[.long 5, .long 6, .int 7]
def aboutOver (below : List Frame) : State where
  vm := { classes := classes, interned := interned.toArray }
  heap := heap
  slotsUsed := slotsUsed
  threads := #[{ frames := .invoking theMethod args0 :: below }]
def below0 : List Frame := [.native { method := ⟨0, 0⟩, args := #[] }]
def about1 : State := aboutOver below0
def p0 : Program := .bare "" "" ""
def e0 : Env := launch0.env 0 0 0
theorem w_frames : about1.frames = Frame.invoking theMethod args0 :: below0 := rfl
set_option maxRecDepth 65536 in
theorem w_args : argsFit about1.vm theMethod args0 = true := by decide +kernel
set_option maxRecDepth 65536 in
theorem w_heap : heapFits about1 = true := by decide +kernel
set_option maxRecDepth 65536 in
theorem w_runnable : about1.curStatus? = some .runnable := by decide +kernel
set_option maxRecDepth 65536 in
theorem w_alone : about1.alone = true := by decide +kernel
set_option maxRecDepth 65536 in
theorem w_named : about1.methodNamed? x = some theMethod := by decide +kernel
set_option maxRecDepth 65536 in
theorem w_hears : about1.hears theMethod below0 = true := by decide +kernel
set_option maxRecDepth 65536 in
theorem w_ripe : about1.ripe theMethod args0 below0 = true := by decide +kernel
theorem w_running : about1.status = .running := rfl
set_option maxRecDepth 65536 in
theorem w_room : about1.hasRoom e0.platform room_1 = true :=
  launch0.hasRoom_least _ room_1 (by decide +kernel) (by decide +kernel) (by decide +kernel) (by decide +kernel) (by decide +kernel) (by decide +kernel)
theorem allAtoms_all (ts : List Jvm.Cond) (a : Array Jvm.Value) (st : Jvm.State) : (allAtoms ts).before a st = ts.all (fun c => c.before a st) := by
  induction ts with
  | nil => rfl
  | cons c t ih =>
    show (Jvm.Cond.and c (allAtoms t)).before a st = _
    rw [Jvm.Cond.before_and, ih, List.all_cons]
def words1 : List Jvm.Cond := Jvm.Cond.code x code maxLocals ret :: tables_1
/-- a 'code' word, met by the world's own term for the bytes: nothing is compared byte by byte -/
theorem code_word {y : MethodName} {bytes : ByteArray} {mx : Nat} {rt : Option FieldType} {a : Array Value} {s : State} {m : MethodId} {meth : Method} {c : Code} (h1 : s.methodNamed? y = some m) (h2 : s.vm.method? m = some meth) (h3 : meth.code = some c) (h4 : c.code = bytes)
    (h5 : (c.maxLocals == mx && c.exceptionTable.isEmpty && decide (c.maxStack ≤ mostOperands) && decide (meth.sig.returnType = rt) && !meth.locks && decide (parseMethodDescriptor y.desc = some meth.sig)) = true) : (Jvm.Cond.code y bytes mx rt).before a s = true := by
  simp only [Bool.and_eq_true, beq_iff_eq, Bool.not_eq_true', decide_eq_true_eq] at h5
  obtain ⟨⟨⟨⟨⟨g1, g2⟩, g3⟩, g4⟩, g5⟩, g6⟩ := h5
  simp [Cond.before, Cond.holds, Cond.value, h1, h2, h3, h4, g1, g2, g3, g4, g5, g6]
def isCode : Jvm.Cond → Bool
  | .code _ _ _ _ => true
  | _ => false
theorem all_split {L : List Jvm.Cond} {P : Jvm.Cond → Bool} (h1 : L.all (fun c => isCode c || P c) = true) (h2 : ∀ c ∈ L.filter isCode, P c = true) : L.all P = true := by
  refine List.all_eq_true.mpr fun c hc => ?_
  have h := List.all_eq_true.mp h1 c hc
  rcases Bool.eq_false_or_eq_true (isCode c) with hi | hi
  · exact h2 c (List.mem_filter.mpr ⟨hc, hi⟩)
  · simpa [hi] using h
set_option maxRecDepth 65536 in
theorem w_c0 : (Jvm.Cond.code x code maxLocals ret).before args0 about1 = true := code_word (m := ⟨1, 3⟩) (meth := k1m3) (c := k1c3) (by decide +kernel) rfl rfl rfl (by decide +kernel)
set_option maxRecDepth 65536 in
theorem w_c1 : (Jvm.Cond.code ({ cls := "com/example/tidewall/tidewall/Address", name := "<init>", desc := "(JJ)V" } : Jvm.MethodName) prog_1_method_1_code (5 : Nat) (Option.none : Option Jvm.ClassFile.FieldType)).before args0 about1 = true := code_word (m := ⟨4, 0⟩) (meth := k4m0) (c := k4c0) (by decide +kernel) rfl rfl rfl (by decide +kernel)
set_option maxRecDepth 65536 in
theorem w_c2 : (Jvm.Cond.code ({ cls := "java/lang/Record", name := "<init>", desc := "()V" } : Jvm.MethodName) jdk_30_method_1_code (1 : Nat) (Option.none : Option Jvm.ClassFile.FieldType)).before args0 about1 = true := code_word (m := ⟨2, 0⟩) (meth := k2m0) (c := k2c0) (by decide +kernel) rfl rfl rfl (by decide +kernel)
set_option maxRecDepth 65536 in
theorem w_c3 : (Jvm.Cond.code ({ cls := "java/lang/Object", name := "<init>", desc := "()V" } : Jvm.MethodName) object_method_1_code (1 : Nat) (Option.none : Option Jvm.ClassFile.FieldType)).before args0 about1 = true := code_word (m := ⟨0, 0⟩) (meth := k0m0) (c := k0c0) (by decide +kernel) rfl rfl rfl (by decide +kernel)
set_option maxRecDepth 65536 in
theorem w_c4 : (Jvm.Cond.code ({ cls := "com/example/tidewall/tidewall/Address", name := "prefix", desc := "(I)Lcom/example/tidewall/tidewall/Address;" } : Jvm.MethodName) prog_1_method_6_code (2 : Nat) (Option.some (Jvm.ClassFile.FieldType.object "com/example/tidewall/tidewall/Address"))).before args0 about1 = true := code_word (m := ⟨4, 1⟩) (meth := k4m1) (c := k4c1) (by decide +kernel) rfl rfl rfl (by decide +kernel)
set_option maxRecDepth 65536 in
theorem w_c5 : (Jvm.Cond.code ({ cls := "java/lang/Math", name := "min", desc := "(II)I" } : Jvm.MethodName) jdk_29_method_69_code (2 : Nat) (Option.some Jvm.ClassFile.FieldType.int)).before args0 about1 = true := code_word (m := ⟨5, 2⟩) (meth := k5m2) (c := k5c2) (by decide +kernel) rfl rfl rfl (by decide +kernel)
set_option maxRecDepth 65536 in
theorem w_c6 : (Jvm.Cond.code ({ cls := "com/example/tidewall/tidewall/Address", name := "firstBits", desc := "(I)J" } : Jvm.MethodName) prog_1_method_7_code (1 : Nat) (Option.some Jvm.ClassFile.FieldType.long)).before args0 about1 = true := code_word (m := ⟨4, 2⟩) (meth := k4m2) (c := k4c2) (by decide +kernel) rfl rfl rfl (by decide +kernel)
set_option maxRecDepth 65536 in
theorem w_c7 : (Jvm.Cond.code ({ cls := "java/lang/Math", name := "max", desc := "(II)I" } : Jvm.MethodName) jdk_29_method_65_code (2 : Nat) (Option.some Jvm.ClassFile.FieldType.int)).before args0 about1 = true := code_word (m := ⟨5, 1⟩) (meth := k5m1) (c := k5c1) (by decide +kernel) rfl rfl rfl (by decide +kernel)
set_option maxRecDepth 65536 in
theorem w_c8 : (Jvm.Cond.code ({ cls := "com/example/tidewall/tidewall/Address", name := "high", desc := "()J" } : Jvm.MethodName) prog_1_method_12_code (1 : Nat) (Option.some Jvm.ClassFile.FieldType.long)).before args0 about1 = true := code_word (m := ⟨4, 3⟩) (meth := k4m3) (c := k4c3) (by decide +kernel) rfl rfl rfl (by decide +kernel)
set_option maxRecDepth 65536 in
theorem w_c9 : (Jvm.Cond.code ({ cls := "com/example/tidewall/tidewall/AddressPrefixPinLaw", name := "expectedHigh", desc := "(JI)J" } : Jvm.MethodName) method_2_code (4 : Nat) (Option.some Jvm.ClassFile.FieldType.long)).before args0 about1 = true := code_word (m := ⟨1, 1⟩) (meth := k1m1) (c := k1c1) (by decide +kernel) rfl rfl rfl (by decide +kernel)
set_option maxRecDepth 65536 in
theorem w_c10 : (Jvm.Cond.code ({ cls := "com/example/tidewall/tidewall/Address", name := "low", desc := "()J" } : Jvm.MethodName) prog_1_method_13_code (1 : Nat) (Option.some Jvm.ClassFile.FieldType.long)).before args0 about1 = true := code_word (m := ⟨4, 4⟩) (meth := k4m4) (c := k4c4) (by decide +kernel) rfl rfl rfl (by decide +kernel)
set_option maxRecDepth 65536 in
theorem w_c11 : (Jvm.Cond.code ({ cls := "com/example/tidewall/tidewall/AddressPrefixPinLaw", name := "expectedLow", desc := "(JI)J" } : Jvm.MethodName) method_3_code (4 : Nat) (Option.some Jvm.ClassFile.FieldType.long)).before args0 about1 = true := code_word (m := ⟨1, 2⟩) (meth := k1m2) (c := k1c2) (by decide +kernel) rfl rfl rfl (by decide +kernel)
def codes1 : List Jvm.Cond := [Jvm.Cond.code x code maxLocals ret, Jvm.Cond.code ({ cls := "com/example/tidewall/tidewall/Address", name := "<init>", desc := "(JJ)V" } : Jvm.MethodName) prog_1_method_1_code (5 : Nat) (Option.none : Option Jvm.ClassFile.FieldType), Jvm.Cond.code ({ cls := "java/lang/Record", name := "<init>", desc := "()V" } : Jvm.MethodName) jdk_30_method_1_code (1 : Nat) (Option.none : Option Jvm.ClassFile.FieldType), Jvm.Cond.code ({ cls := "java/lang/Object", name := "<init>", desc := "()V" } : Jvm.MethodName) object_method_1_code (1 : Nat) (Option.none : Option Jvm.ClassFile.FieldType), Jvm.Cond.code ({ cls := "com/example/tidewall/tidewall/Address", name := "prefix", desc := "(I)Lcom/example/tidewall/tidewall/Address;" } : Jvm.MethodName) prog_1_method_6_code (2 : Nat) (Option.some (Jvm.ClassFile.FieldType.object "com/example/tidewall/tidewall/Address")), Jvm.Cond.code ({ cls := "java/lang/Math", name := "min", desc := "(II)I" } : Jvm.MethodName) jdk_29_method_69_code (2 : Nat) (Option.some Jvm.ClassFile.FieldType.int), Jvm.Cond.code ({ cls := "com/example/tidewall/tidewall/Address", name := "firstBits", desc := "(I)J" } : Jvm.MethodName) prog_1_method_7_code (1 : Nat) (Option.some Jvm.ClassFile.FieldType.long), Jvm.Cond.code ({ cls := "java/lang/Math", name := "max", desc := "(II)I" } : Jvm.MethodName) jdk_29_method_65_code (2 : Nat) (Option.some Jvm.ClassFile.FieldType.int), Jvm.Cond.code ({ cls := "com/example/tidewall/tidewall/Address", name := "high", desc := "()J" } : Jvm.MethodName) prog_1_method_12_code (1 : Nat) (Option.some Jvm.ClassFile.FieldType.long), Jvm.Cond.code ({ cls := "com/example/tidewall/tidewall/AddressPrefixPinLaw", name := "expectedHigh", desc := "(JI)J" } : Jvm.MethodName) method_2_code (4 : Nat) (Option.some Jvm.ClassFile.FieldType.long), Jvm.Cond.code ({ cls := "com/example/tidewall/tidewall/Address", name := "low", desc := "()J" } : Jvm.MethodName) prog_1_method_13_code (1 : Nat) (Option.some Jvm.ClassFile.FieldType.long), Jvm.Cond.code ({ cls := "com/example/tidewall/tidewall/AddressPrefixPinLaw", name := "expectedLow", desc := "(JI)J" } : Jvm.MethodName) method_3_code (4 : Nat) (Option.some Jvm.ClassFile.FieldType.long)]
set_option maxRecDepth 65536 in
theorem codes_eq : words1.filter isCode = codes1 := rfl
theorem w_codes : ∀ c ∈ words1.filter isCode, c.before args0 about1 = true := by
  rw [codes_eq]
  intro c hc
  simp only [codes1, List.mem_cons, List.not_mem_nil, or_false] at hc
  rcases hc with rfl | rfl | rfl | rfl | rfl | rfl | rfl | rfl | rfl | rfl | rfl | rfl
  · exact w_c0
  · exact w_c1
  · exact w_c2
  · exact w_c3
  · exact w_c4
  · exact w_c5
  · exact w_c6
  · exact w_c7
  · exact w_c8
  · exact w_c9
  · exact w_c10
  · exact w_c11
set_option maxRecDepth 65536 in
theorem w_t1 : (words1.take 24).all (fun c => isCode c || c.before args0 about1) = true := by decide +kernel
set_option maxRecDepth 65536 in
theorem w_t2 : ((words1.drop 24).take 24).all (fun c => isCode c || c.before args0 about1) = true := by decide +kernel
set_option maxRecDepth 65536 in
theorem w_t3 : ((words1.drop 24).drop 24).all (fun c => isCode c || c.before args0 about1) = true := by decide +kernel
theorem w_tables : (allAtoms (Jvm.Cond.code x code maxLocals ret :: tables_1)).before args0 about1 = true := by
  rw [allAtoms_all]
  show words1.all (fun c => c.before args0 about1) = true
  refine all_split ?_ w_codes
  rw [← List.take_append_drop 24 words1, List.all_append, w_t1, ← List.take_append_drop 24 (words1.drop 24), List.all_append, w_t2, w_t3]
  rfl
set_option maxRecDepth 65536 in
theorem w_case : (Jvm.Cond.and given_1 narrow_1).before args0 about1 = true := by decide +kernel
theorem w_applies : (headSpec (Jvm.Cond.code x code maxLocals ret :: tables_1) room_1).applies x e0.platform about1 = true :=
  (Spec.applies_iff w_frames).mpr ⟨w_running, w_runnable, w_alone, w_named, w_hears, w_ripe, w_room, w_tables⟩
theorem atStart : AtStart classFile x code maxLocals ret World_1 tables_1 room_1 Calls_1 rest_1 Pre_1 launch0 p0 e0 about1 theMethod args0 below0 :=
  ⟨lists_1, trivial, launch0.admits_env _ _ _, launch0.least_env, fairChoices_fair.cas, fairChoices_fair.clock, w_frames, w_args, w_heap, w_applies, trivial, trivial, w_case⟩
end start1
theorem witness_1 : WitnessClaimed_1 := ⟨start1.p0, start1.e0, start1.about1, start1.theMethod, start1.args0, start1.below0, start1.atStart⟩
end Jvm.Pilot.@@N@@
