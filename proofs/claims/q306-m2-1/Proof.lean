import JvmDerived
import JvmDerived.Pilot.@@N@@Statement
import JvmDerived.Pilot.@@N@@Code
set_option linter.unusedVariables false
set_option linter.unusedSimpArgs false
namespace Jvm.RoadKit
open Sem ClassFile Op Lib Jvm.Stand Jvm.Free Jvm.LawKit
section New
variable {p : Program} {l : Launch} {e : Env} {R : Room} {s : State} {m : MethodId} {args : Array Value} {below : List Frame} {meth : Method} {c : Code} {T : State} {locs : List Loc} {cells slots : Nat}
theorem retI (X : Stand p l e R s m args below meth c T locs cells slots) (hx : p.tables.exec = Jvm.exec) {pc : Nat} {Ls : Array Slot} {z : Int32} {rest : List Value} (hret : meth.sig.returnType = some .int) (hd : decode c.code pc = .ok (.ireturn, 1)) {fs : List Frame}
    (hl : ∀ (f : JFrame) (acts : List Action), f.method = m → f.locked = none → f.entered = [] → (doReturn e (T.setTop f) acts (some (.int z))).1 = T.setFrames fs) : Steps p.tables e below (T.setTop (mkF m pc Ls (.int z :: rest))) (T.setFrames fs) := by
  have hm' : T.vm.method? m = some meth := X.method'
  have hn : narrow .int (.int z) = .int z := rfl
  show Steps p.tables e below (T.setTop { method := m, pc := pc, locals := Ls, stack := _ :: rest, locked := none }) _
  jvm_step X.here [X.here.top, hx, hd, hm', hret, hn]
  first | (intro acts; rw [hl _ acts rfl rfl rfl]) | rw [hl _ _ rfl rfl rfl]
  exact Steps.refl _
/-- the run from G on comes to an end that Q speaks of -/
def Go (p : Program) (e : Env) (below : List Frame) (s : State) (Q : Option Value → Heap → List Loc → Prop) (ck sk : Nat) (G : State) : Prop :=
  ∃ s₂ o, Steps p.tables e below G s₂ ∧ s₂.status = .running ∧ Ended s₂ below o ∧ ∃ v L, o = .returned v ∧ Q v s₂.heap L ∧ FrameEnd s o s₂ L ck sk
theorem Go.of {Q : Option Value → Heap → List Loc → Prop} {ck sk : Nat} {G G' : State} (h : ∀ t, Steps p.tables e below G' t → Steps p.tables e below G t) (k : Go p e below s Q ck sk G') : Go p e below s Q ck sk G := by
  obtain ⟨s₂, o, h1, r⟩ := k
  exact ⟨s₂, o, h _ h1, r⟩
theorem Go.ret (X : Stand p l e R s m args below meth c T locs cells slots) {Q : Option Value → Heap → List Loc → Prop} {ck sk : Nat} {G : State} (v : Option Value) (hv : meth.sig.returnType = none → v = none) (hlk : meth.locks = false) (hq : Q v T.heap locs) (hc : cells ≤ ck) (hs : slots ≤ sk)
    (st : ∀ fs, (∀ (f : JFrame) (acts : List Action), f.method = m → f.locked = none → f.entered = [] → (doReturn e (T.setTop f) acts v).1 = T.setFrames fs) → Steps p.tables e below G (T.setFrames fs)) : Go p e below s Q ck sk G := by
  obtain ⟨fs, hr, hrun, hended, hW, hsame⟩ := X.leave hv hlk
  exact ⟨_, _, st fs hr, hrun, hended, v, locs, rfl, hq, ⟨_, rfl⟩, hW, hsame.mono hc hs⟩
/-- what it returns, that it wrote nothing old, and that the heap is as it was -/
def QP (val : Option Value) (h0 : Heap) (n0 : Nat) (v : Option Value) (h : Heap) (L : List Loc) : Prop := v = val ∧ Fr n0 L ∧ h = h0
/-- what it returns, and that it wrote nothing old -/
def QL (val : Option Value) (n0 : Nat) (v : Option Value) (h : Heap) (L : List Loc) : Prop := v = val ∧ Fr n0 L
theorem lremM {g : JFrame} {target : State} (X : Stand p l e R s m args below meth c T locs cells slots) (hx : p.tables.exec = Jvm.exec) (hg : g.method = m) {x y : Int64} {rest : List Value} (hd : decode c.code g.pc = .ok (.lrem, 1)) (hs : g.stack = .long y :: .long x :: rest) (hy : y ≠ 0)
    (hr : Steps p.tables e below (T.setTop { g with pc := g.pc + 1, stack := .long (x % y) :: rest }) target) : Steps p.tables e below (T.setTop g) target := by
  have q : x - x / y * y = x % y := lrem_mod x y
  exact XS.lrem X.here hx hg hd hs hy (by rw [q]; exact hr)
end New
end Jvm.RoadKit
namespace Jvm.Pilot.@@N@@
open Jvm Jvm.ClassFile Sem Op Lib Jvm.Free Jvm.Stand Jvm.LawKit Jvm.RoadKit Bundle Jvm.Pilot.@@N@@.Jvm.D
theorem own_pn0 : plainName "java/lang/Record" = true := by first | (simp [plainName, overriddenIn]; done) | decide +kernel
theorem d2_0 : decode jdk_30_method_1_code 0 = .ok (.aload_n 0, 1) := by decide +kernel
theorem d2_1 : decode jdk_30_method_1_code 1 = .ok (.invokespecial 1, 3) := by decide +kernel
theorem d2_4 : decode jdk_30_method_1_code 4 = .ok (.return_, 1) := by decide +kernel
theorem ef_2 (m : MethodId) (a0 : Addr) : entryFrame m #[(.ref a0)] 1 = mkF m 0 #[.val (.ref a0)] [] := by first | (simp [entryFrame, mkF, argsToLocals, Value.category]; done) | rfl
set_option maxRecDepth 65536 in
set_option maxHeartbeats 40000000 in
theorem rm2 (l : Launch) (Z : State) (az : Array Value) (hw : ∀ d ∈ tables_1, d.before az Z = true) (ws : List Jvm.Cond) (a0 : Addr)  (h0 : Heap) (n0 : Nat) (Z0 : n0 ≤ h0.size) :
    MetFree l (⟨"java/lang/Record", "<init>", "()V"⟩ : MethodName) (head1 (Jvm.Cond.code (⟨"java/lang/Record", "<init>", "()V"⟩ : MethodName) jdk_30_method_1_code 1 none :: ws) ({ frames := 1, cells := 0, slots := 0, locals := 12 } : Room)) (fun a U => a = #[(.ref a0)] ∧ Z.Warmed39 U.vm ∧ U.heap = h0) (fun _ _ _ _ _ => True) (fun _ U o U' => ∃ v L, o = .returned v ∧ (QP none h0 n0) v U'.heap L ∧ FrameEnd U o U' L ({ frames := 1, cells := 0, slots := 0, locals := 12 } : Room).cells ({ frames := 1, cells := 0, slots := 0, locals := 12 } : Room).slots) := by
  refine MetFree.of_bodySF (plainFor_of_name own_pn0) hisR ?_
  intro p e s m args below meth c s₁ Bd hml0 hP hK
  obtain ⟨rfl, hZ, hh⟩ := hP
  have hx := Bd.exec
  have hby := Bd.bytes
  have hml : c.maxLocals = 1 := hml0
  have hown : s.vm.findClass "java/lang/Record" = some m.cls := findClass_of_methodNamed Bd.named
  have hnm := (name_of_methodNamed Bd.named Bd.method).1
  have hlk : meth.locks = false := BodyLoose.notSynchronized Bd
  have X0 : Stand p l e ({ frames := 1, cells := 0, slots := 0, locals := 12 } : Room) s m #[(.ref a0)] below meth c s₁ [] 0 0 := Stand.of_body Bd
  have e0 : s₁.heap = h0 := by rw [← hh, Bd.state]; rfl
  have N0 := Fr.nil n0
  show Go p e below s (QP none h0 n0) ({ frames := 1, cells := 0, slots := 0, locals := 12 } : Room).cells ({ frames := 1, cells := 0, slots := 0, locals := 12 } : Room).slots (s₁.setTop (entryFrame m #[(.ref a0)] 1))
  refine Go.of (fun t k => castTop (ef_2 m a0) k) ?_
  show Go p e below s _ _ _ (s₁.setTop (mkF m 0 #[.val (.ref a0)] []))
  refine Go.of (fun t k => XS.aloadN X0.here hx rfl (hb hby d2_0) rfl rfl k) ?_
  show Go p e below s _ _ _ (s₁.setTop (mkF m 1 #[.val (.ref a0)] [(.ref a0)]))
  obtain ⟨T1, X1, e1, st1⟩ := initO X0 hx hZ hown (hw _ (List.mem_of_getElem? (i := 11) rfl)) (hw _ (List.mem_of_getElem? (i := 12) rfl)) (hw _ (List.mem_of_getElem? (i := 13) rfl)) e0 (g := (mkF m 1 #[.val (.ref a0)] [(.ref a0)])) rfl (by rw [hml]; rfl) rfl (hb hby d2_1) (by decide) (W := 0) (by show 2 * 0 + _ ≤ _; exact Nat.le_of_eq rfl) (by decide)
  refine Go.of st1 ?_
  show Go p e below s _ _ _ (T1.setTop (mkF m 4 #[.val (.ref a0)] []))
  exact Go.ret X1 none (fun _ => rfl) hlk ⟨rfl, N0, e1⟩ (by decide) (by decide) (fun fs hr => (X1.returnOut hx Bd.returns (hb hby d2_4) hr))
theorem own_pd0 : parseMethodDescriptor "()V" = some ⟨[], none⟩ := by decide +kernel
theorem own_pn1 : plainName "com/example/tidewall/tidewall/Address" = true := by first | (simp [plainName, overriddenIn]; done) | decide +kernel
theorem d1_0 : decode prog_1_method_1_code 0 = .ok (.aload_n 0, 1) := by decide +kernel
theorem d1_1 : decode prog_1_method_1_code 1 = .ok (.invokespecial 1, 3) := by decide +kernel
theorem d1_4 : decode prog_1_method_1_code 4 = .ok (.aload_n 0, 1) := by decide +kernel
theorem d1_5 : decode prog_1_method_1_code 5 = .ok (.lload_n 1, 1) := by decide +kernel
theorem d1_6 : decode prog_1_method_1_code 6 = .ok (.putfield 7, 3) := by decide +kernel
theorem d1_9 : decode prog_1_method_1_code 9 = .ok (.aload_n 0, 1) := by decide +kernel
theorem d1_10 : decode prog_1_method_1_code 10 = .ok (.lload_n 3, 1) := by decide +kernel
theorem d1_11 : decode prog_1_method_1_code 11 = .ok (.putfield 13, 3) := by decide +kernel
theorem d1_14 : decode prog_1_method_1_code 14 = .ok (.return_, 1) := by decide +kernel
theorem ef_1 (m : MethodId) (a0 : Addr) (q1 : Int64) (q2 : Int64) : entryFrame m #[(.ref a0), (.long q1), (.long q2)] 5 = mkF m 0 #[.val (.ref a0), .val (.long q1), .second, .val (.long q2), .second] [] := by first | (simp [entryFrame, mkF, argsToLocals, Value.category]; done) | rfl
def Q1 (Z : State) (a0 : Addr) (q1 : Int64) (q2 : Int64) (u_high_a0 : Value) (u_low_a0 : Value) (h0 : Heap) (n0 : Nat) (v : Option Value) (h : Heap) (L : List Loc) : Prop := v = none ∧ Fr n0 L ∧ Keep h0 h [a0] ∧ Exa Z h a0 "com/example/tidewall/tidewall/Address" ∧ Fld Z h a0 "com/example/tidewall/tidewall/Address" "high" "J" (.long q1) ∧ Fld Z h a0 "com/example/tidewall/tidewall/Address" "low" "J" (.long q2)
set_option maxRecDepth 65536 in
set_option maxHeartbeats 40000000 in
theorem rm1 (l : Launch) (Z : State) (az : Array Value) (hw : ∀ d ∈ tables_1, d.before az Z = true) (ws : List Jvm.Cond) (a0 : Addr) (q1 : Int64) (q2 : Int64) (u_high_a0 : Value) (u_low_a0 : Value) (h0 : Heap) (n0 : Nat) (Z0 : n0 ≤ h0.size) (E_a0 : Exa Z h0 a0 "com/example/tidewall/tidewall/Address") (Fp_high_a0 : Fld Z h0 a0 "com/example/tidewall/tidewall/Address" "high" "J" u_high_a0) (Fp_low_a0 : Fld Z h0 a0 "com/example/tidewall/tidewall/Address" "low" "J" u_low_a0) (g_a0 : n0 ≤ a0) :
    MetFree l (⟨"com/example/tidewall/tidewall/Address", "<init>", "(JJ)V"⟩ : MethodName) (head1 (Jvm.Cond.code (⟨"com/example/tidewall/tidewall/Address", "<init>", "(JJ)V"⟩ : MethodName) prog_1_method_1_code 5 none :: ws) ({ frames := 2, cells := 0, slots := 0, locals := 24 } : Room)) (fun a U => a = #[(.ref a0), (.long q1), (.long q2)] ∧ Z.Warmed39 U.vm ∧ U.heap = h0) (fun _ _ _ _ _ => True) (fun _ U o U' => ∃ v L, o = .returned v ∧ (Q1 Z a0 q1 q2 u_high_a0 u_low_a0 h0 n0) v U'.heap L ∧ FrameEnd U o U' L ({ frames := 2, cells := 0, slots := 0, locals := 24 } : Room).cells ({ frames := 2, cells := 0, slots := 0, locals := 24 } : Room).slots) := by
  refine MetFree.of_bodySF (plainFor_of_name own_pn1) hisR ?_
  intro p e s m args below meth c s₁ Bd hml0 hP hK
  obtain ⟨rfl, hZ, hh⟩ := hP
  have hx := Bd.exec
  have hby := Bd.bytes
  have hml : c.maxLocals = 5 := hml0
  have hown : s.vm.findClass "com/example/tidewall/tidewall/Address" = some m.cls := findClass_of_methodNamed Bd.named
  have hnm := (name_of_methodNamed Bd.named Bd.method).1
  have hlk : meth.locks = false := BodyLoose.notSynchronized Bd
  have X0 : Stand p l e ({ frames := 2, cells := 0, slots := 0, locals := 24 } : Room) s m #[(.ref a0), (.long q1), (.long q2)] below meth c s₁ [] 0 0 := Stand.of_body Bd
  have e0 : s₁.heap = h0 := by rw [← hh, Bd.state]; rfl
  have N0 := Fr.nil n0
  show Go p e below s (Q1 Z a0 q1 q2 u_high_a0 u_low_a0 h0 n0) ({ frames := 2, cells := 0, slots := 0, locals := 24 } : Room).cells ({ frames := 2, cells := 0, slots := 0, locals := 24 } : Room).slots (s₁.setTop (entryFrame m #[(.ref a0), (.long q1), (.long q2)] 5))
  refine Go.of (fun t k => castTop (ef_1 m a0 q1 q2) k) ?_
  show Go p e below s _ _ _ (s₁.setTop (mkF m 0 #[.val (.ref a0), .val (.long q1), .second, .val (.long q2), .second] []))
  refine Go.of (fun t k => XS.aloadN X0.here hx rfl (hb hby d1_0) rfl rfl k) ?_
  show Go p e below s _ _ _ (s₁.setTop (mkF m 1 #[.val (.ref a0), .val (.long q1), .second, .val (.long q2), .second] [(.ref a0)]))
  obtain ⟨_, _, ⟨T1, L1, k1, n1⟩, -, X1, ⟨Lc1, hQ1, l1, y1, z1⟩, st1⟩ := X0.specialBack hx (y := (⟨"java/lang/Record", "<init>", "()V"⟩ : MethodName)) rfl hown (mvT hZ (hw _ (List.mem_of_getElem? (i := 6) rfl))) (mvT hZ (hw _ (List.mem_of_getElem? (i := 7) rfl))) (mvT hZ (hw _ (List.mem_of_getElem? (i := 10) rfl))) (by decide) (backOf (W := 0) (rm2 l Z az hw [] a0  h0 n0 Z0 ) hZ (hw _ (List.mem_of_getElem? (i := 10) rfl)) (hw _ (List.mem_of_getElem? (i := 9) rfl)) (by decide) (by decide)) (g := (mkF m 1 #[.val (.ref a0), .val (.long q1), .second, .val (.long q2), .second] [(.ref a0)])) rfl (by rw [hml]; rfl) (Steps.refl _) (a := a0) (argsL := []) (rest := []) (lenOf own_pd0 rfl) rfl (by show 2 * 0 + _ ≤ _; exact Nat.le_of_eq rfl) (hb hby d1_1) (fun _ _ => ⟨rfl, e0, (by decide : 0 + 0 ≤ _), (by decide : 0 + 0 ≤ _)⟩)
  dsimp only [Pt.U, Pt.locs, Pt.cells, Pt.slots] at X1 l1 y1 z1 st1 hQ1
  subst l1 y1 z1
  obtain ⟨rfl, N1q, e1⟩ := hQ1
  have N1 := Fr.app N0 N1q
  refine Go.of (fun t k => st1.trans k) ?_
  show Go p e below s _ _ _ (T1.setTop (mkF m 4 #[.val (.ref a0), .val (.long q1), .second, .val (.long q2), .second] []))
  refine Go.of (fun t k => XS.aloadN X1.here hx rfl (hb hby d1_4) rfl rfl k) ?_
  show Go p e below s _ _ _ (T1.setTop (mkF m 5 #[.val (.ref a0), .val (.long q1), .second, .val (.long q2), .second] [(.ref a0)]))
  refine Go.of (fun t k => XS.lloadN X1.here hx rfl (hb hby d1_5) rfl k) ?_
  show Go p e below s _ _ _ (T1.setTop (mkF m 6 #[.val (.ref a0), .val (.long q1), .second, .val (.long q2), .second] [(.long q1), (.ref a0)]))
  obtain ⟨T2, h2, X2, e2, W2, st2⟩ := putF X1 hx hZ hown (host := "") (Or.inl (hw _ (List.mem_of_getElem? (i := 14) rfl))) Via.refl e1 Fp_high_a0 E_a0 (Or.inr ⟨(hw _ (List.mem_of_getElem? (i := 15) rfl)), rfl, hnm⟩) (hw _ (List.mem_of_getElem? (i := 1) rfl)) (ty := .long) (by decide) rfl rfl (g := (mkF m 6 #[.val (.ref a0), .val (.long q1), .second, .val (.long q2), .second] [(.long q1), (.ref a0)])) rfl rfl (hb hby d1_6)
  have f3 := Fp_high_a0.same W2
  have f4 := E_a0.wr W2
  have f5 := Fp_low_a0.other W2 (Or.inr (slot_ne (Or.inr (hw _ (List.mem_of_getElem? (i := 17) rfl))) (Or.inr (hw _ (List.mem_of_getElem? (i := 15) rfl))) (by decide) (t := .long) (t' := .long) (by decide) (by decide)))
  have N2 := Fr.snoc X2 N1 g_a0
  have K2 : Keep h0 h2 [a0] := Keep.wr (Keep.refl h0 [a0]) W2 (Or.inl (List.mem_of_getElem? (i := 0) rfl))
  refine Go.of st2 ?_
  show Go p e below s _ _ _ (T2.setTop (mkF m 9 #[.val (.ref a0), .val (.long q1), .second, .val (.long q2), .second] []))
  refine Go.of (fun t k => XS.aloadN X2.here hx rfl (hb hby d1_9) rfl rfl k) ?_
  show Go p e below s _ _ _ (T2.setTop (mkF m 10 #[.val (.ref a0), .val (.long q1), .second, .val (.long q2), .second] [(.ref a0)]))
  refine Go.of (fun t k => XS.lloadN X2.here hx rfl (hb hby d1_10) rfl k) ?_
  show Go p e below s _ _ _ (T2.setTop (mkF m 11 #[.val (.ref a0), .val (.long q1), .second, .val (.long q2), .second] [(.long q2), (.ref a0)]))
  obtain ⟨T6, h6, X6, e6, W6, st6⟩ := putF X2 hx hZ hown (host := "") (Or.inl (hw _ (List.mem_of_getElem? (i := 16) rfl))) Via.refl e2 f5 f4 (Or.inr ⟨(hw _ (List.mem_of_getElem? (i := 17) rfl)), rfl, hnm⟩) (hw _ (List.mem_of_getElem? (i := 1) rfl)) (ty := .long) (by decide) rfl rfl (g := (mkF m 11 #[.val (.ref a0), .val (.long q1), .second, .val (.long q2), .second] [(.long q2), (.ref a0)])) rfl rfl (hb hby d1_11)
  have f7 := f5.same W6
  have f8 := f4.wr W6
  have f9 := f3.other W6 (Or.inr (slot_ne (Or.inr (hw _ (List.mem_of_getElem? (i := 15) rfl))) (Or.inr (hw _ (List.mem_of_getElem? (i := 17) rfl))) (by decide) (t := .long) (t' := .long) (by decide) (by decide)))
  have N6 := Fr.snoc X6 N2 g_a0
  have K6 : Keep h0 h6 [a0] := Keep.wr K2 W6 (Or.inl (List.mem_of_getElem? (i := 0) rfl))
  refine Go.of st6 ?_
  show Go p e below s _ _ _ (T6.setTop (mkF m 14 #[.val (.ref a0), .val (.long q1), .second, .val (.long q2), .second] []))
  exact Go.ret X6 none (fun _ => rfl) hlk (by rw [e6]; exact ⟨rfl, N6, K6, f8, f9, f7⟩) (by decide) (by decide) (fun fs hr => (X6.returnOut hx Bd.returns (hb hby d1_14) hr))
theorem own_pn2 : plainName "com/example/tidewall/tidewall/AddressCompareToPinLaw" = true := by first | (simp [plainName, overriddenIn]; done) | decide +kernel
theorem d5_0 : decode method_4_code 0 = .ok (.lload_n 0, 1) := by decide +kernel
theorem d5_1 : decode method_4_code 1 = .ok (.ldc2_w 30, 3) := by decide +kernel
theorem d5_4 : decode method_4_code 4 = .ok (.lxor, 1) := by decide +kernel
theorem d5_5 : decode method_4_code 5 = .ok (.lstore 4, 2) := by decide +kernel
theorem d5_7 : decode method_4_code 7 = .ok (.lload_n 2, 1) := by decide +kernel
theorem d5_8 : decode method_4_code 8 = .ok (.ldc2_w 30, 3) := by decide +kernel
theorem d5_11 : decode method_4_code 11 = .ok (.lxor, 1) := by decide +kernel
theorem d5_12 : decode method_4_code 12 = .ok (.lstore 6, 2) := by decide +kernel
theorem d5_14 : decode method_4_code 14 = .ok (.lload 4, 2) := by decide +kernel
theorem d5_16 : decode method_4_code 16 = .ok (.lload 6, 2) := by decide +kernel
theorem d5_18 : decode method_4_code 18 = .ok (.lcmp, 1) := by decide +kernel
theorem d5_19 : decode method_4_code 19 = .ok (.ifCond .ge 5, 3) := by decide +kernel
theorem d5_22 : decode method_4_code 22 = .ok (.iconst (-1), 1) := by decide +kernel
theorem d5_23 : decode method_4_code 23 = .ok (.ireturn, 1) := by decide +kernel
theorem d5_24 : decode method_4_code 24 = .ok (.lload 4, 2) := by decide +kernel
theorem d5_26 : decode method_4_code 26 = .ok (.lload 6, 2) := by decide +kernel
theorem d5_28 : decode method_4_code 28 = .ok (.lcmp, 1) := by decide +kernel
theorem d5_29 : decode method_4_code 29 = .ok (.ifCond .le 5, 3) := by decide +kernel
theorem d5_32 : decode method_4_code 32 = .ok (.iconst 1, 1) := by decide +kernel
theorem d5_33 : decode method_4_code 33 = .ok (.ireturn, 1) := by decide +kernel
theorem d5_34 : decode method_4_code 34 = .ok (.iconst 0, 1) := by decide +kernel
theorem d5_35 : decode method_4_code 35 = .ok (.ireturn, 1) := by decide +kernel
theorem ef_5 (m : MethodId) (q0 : Int64) (q1 : Int64) : entryFrame m #[(.long q0), (.long q1)] 8 = mkF m 0 #[.val (.long q0), .second, .val (.long q1), .second, .unset, .unset, .unset, .unset] [] := by first | (simp [entryFrame, mkF, argsToLocals, Value.category]; done) | rfl
def F5 (q0 : Int64) (q1 : Int64) : Int32 := (if (q0 ^^^ (-9223372036854775808 : Int64)) < (q1 ^^^ (-9223372036854775808 : Int64)) then (-1 : Int32) else (if (q1 ^^^ (-9223372036854775808 : Int64)) < (q0 ^^^ (-9223372036854775808 : Int64)) then (1 : Int32) else (0 : Int32)))
set_option maxRecDepth 65536 in
set_option maxHeartbeats 40000000 in
theorem rm5 (l : Launch) (Z : State) (az : Array Value) (hw : ∀ d ∈ tables_1, d.before az Z = true) (ws : List Jvm.Cond) (q0 : Int64) (q1 : Int64)  (h0 : Heap) (n0 : Nat) (Z0 : n0 ≤ h0.size) :
    MetFree l (⟨"com/example/tidewall/tidewall/AddressCompareToPinLaw", "unsignedSign", "(JJ)I"⟩ : MethodName) (head1 (Jvm.Cond.code (⟨"com/example/tidewall/tidewall/AddressCompareToPinLaw", "unsignedSign", "(JJ)I"⟩ : MethodName) method_4_code 8 (some .int) :: ws) ({ frames := 0, cells := 0, slots := 0, locals := 0 } : Room)) (fun a U => a = #[(.long q0), (.long q1)] ∧ Z.Warmed39 U.vm ∧ U.heap = h0) (fun _ _ _ _ _ => True) (fun _ U o U' => ∃ v L, o = .returned v ∧ (QP (some (.int (F5 q0 q1))) h0 n0) v U'.heap L ∧ FrameEnd U o U' L ({ frames := 0, cells := 0, slots := 0, locals := 0 } : Room).cells ({ frames := 0, cells := 0, slots := 0, locals := 0 } : Room).slots) := by
  refine MetFree.of_bodySF (plainFor_of_name own_pn2) hisR ?_
  intro p e s m args below meth c s₁ Bd hml0 hP hK
  obtain ⟨rfl, hZ, hh⟩ := hP
  have hx := Bd.exec
  have hby := Bd.bytes
  have hml : c.maxLocals = 8 := hml0
  have hown : s.vm.findClass "com/example/tidewall/tidewall/AddressCompareToPinLaw" = some m.cls := findClass_of_methodNamed Bd.named
  have hnm := (name_of_methodNamed Bd.named Bd.method).1
  have hlk : meth.locks = false := BodyLoose.notSynchronized Bd
  have X0 : Stand p l e ({ frames := 0, cells := 0, slots := 0, locals := 0 } : Room) s m #[(.long q0), (.long q1)] below meth c s₁ [] 0 0 := Stand.of_body Bd
  have e0 : s₁.heap = h0 := by rw [← hh, Bd.state]; rfl
  have N0 := Fr.nil n0
  show Go p e below s (QP (some (.int (F5 q0 q1))) h0 n0) ({ frames := 0, cells := 0, slots := 0, locals := 0 } : Room).cells ({ frames := 0, cells := 0, slots := 0, locals := 0 } : Room).slots (s₁.setTop (entryFrame m #[(.long q0), (.long q1)] 8))
  refine Go.of (fun t k => castTop (ef_5 m q0 q1) k) ?_
  show Go p e below s _ _ _ (s₁.setTop (mkF m 0 #[.val (.long q0), .second, .val (.long q1), .second, .unset, .unset, .unset, .unset] []))
  unfold F5
  refine Go.of (fun t k => XS.lloadN X0.here hx rfl (hb hby d5_0) rfl k) ?_
  show Go p e below s _ _ _ (s₁.setTop (mkF m 1 #[.val (.long q0), .second, .val (.long q1), .second, .unset, .unset, .unset, .unset] [(.long q0)]))
  refine Go.of (X0.ldc2Long hx hown (mvT hZ (hw _ (List.mem_of_getElem? (i := 25) rfl))) (g := (mkF m 1 #[.val (.long q0), .second, .val (.long q1), .second, .unset, .unset, .unset, .unset] [(.long q0)])) rfl (hb hby d5_1)) ?_
  show Go p e below s _ _ _ (s₁.setTop (mkF m 4 #[.val (.long q0), .second, .val (.long q1), .second, .unset, .unset, .unset, .unset] [(.long (-9223372036854775808 : Int64)), (.long q0)]))
  refine Go.of (fun t k => XS.lxor X0.here hx rfl (hb hby d5_4) rfl k) ?_
  show Go p e below s _ _ _ (s₁.setTop (mkF m 5 #[.val (.long q0), .second, .val (.long q1), .second, .unset, .unset, .unset, .unset] [(.long (q0 ^^^ (-9223372036854775808 : Int64)))]))
  refine Go.of (fun t k => XS.lstore X0.here hx rfl (hb hby d5_5) rfl (l' := #[.val (.long q0), .second, .val (.long q1), .second, .val (.long (q0 ^^^ (-9223372036854775808 : Int64))), .second, .unset, .unset]) rfl k) ?_
  show Go p e below s _ _ _ (s₁.setTop (mkF m 7 #[.val (.long q0), .second, .val (.long q1), .second, .val (.long (q0 ^^^ (-9223372036854775808 : Int64))), .second, .unset, .unset] []))
  refine Go.of (fun t k => XS.lloadN X0.here hx rfl (hb hby d5_7) rfl k) ?_
  show Go p e below s _ _ _ (s₁.setTop (mkF m 8 #[.val (.long q0), .second, .val (.long q1), .second, .val (.long (q0 ^^^ (-9223372036854775808 : Int64))), .second, .unset, .unset] [(.long q1)]))
  refine Go.of (X0.ldc2Long hx hown (mvT hZ (hw _ (List.mem_of_getElem? (i := 25) rfl))) (g := (mkF m 8 #[.val (.long q0), .second, .val (.long q1), .second, .val (.long (q0 ^^^ (-9223372036854775808 : Int64))), .second, .unset, .unset] [(.long q1)])) rfl (hb hby d5_8)) ?_
  show Go p e below s _ _ _ (s₁.setTop (mkF m 11 #[.val (.long q0), .second, .val (.long q1), .second, .val (.long (q0 ^^^ (-9223372036854775808 : Int64))), .second, .unset, .unset] [(.long (-9223372036854775808 : Int64)), (.long q1)]))
  refine Go.of (fun t k => XS.lxor X0.here hx rfl (hb hby d5_11) rfl k) ?_
  show Go p e below s _ _ _ (s₁.setTop (mkF m 12 #[.val (.long q0), .second, .val (.long q1), .second, .val (.long (q0 ^^^ (-9223372036854775808 : Int64))), .second, .unset, .unset] [(.long (q1 ^^^ (-9223372036854775808 : Int64)))]))
  refine Go.of (fun t k => XS.lstore X0.here hx rfl (hb hby d5_12) rfl (l' := #[.val (.long q0), .second, .val (.long q1), .second, .val (.long (q0 ^^^ (-9223372036854775808 : Int64))), .second, .val (.long (q1 ^^^ (-9223372036854775808 : Int64))), .second]) rfl k) ?_
  show Go p e below s _ _ _ (s₁.setTop (mkF m 14 #[.val (.long q0), .second, .val (.long q1), .second, .val (.long (q0 ^^^ (-9223372036854775808 : Int64))), .second, .val (.long (q1 ^^^ (-9223372036854775808 : Int64))), .second] []))
  refine Go.of (fun t k => XS.lload X0.here hx rfl (hb hby d5_14) rfl k) ?_
  show Go p e below s _ _ _ (s₁.setTop (mkF m 16 #[.val (.long q0), .second, .val (.long q1), .second, .val (.long (q0 ^^^ (-9223372036854775808 : Int64))), .second, .val (.long (q1 ^^^ (-9223372036854775808 : Int64))), .second] [(.long (q0 ^^^ (-9223372036854775808 : Int64)))]))
  refine Go.of (fun t k => XS.lload X0.here hx rfl (hb hby d5_16) rfl k) ?_
  show Go p e below s _ _ _ (s₁.setTop (mkF m 18 #[.val (.long q0), .second, .val (.long q1), .second, .val (.long (q0 ^^^ (-9223372036854775808 : Int64))), .second, .val (.long (q1 ^^^ (-9223372036854775808 : Int64))), .second] [(.long (q1 ^^^ (-9223372036854775808 : Int64))), (.long (q0 ^^^ (-9223372036854775808 : Int64)))]))
  refine Go.of (fun t k => XS.lcmp X0.here hx rfl (hb hby d5_18) rfl k) ?_
  show Go p e below s _ _ _ (s₁.setTop (mkF m 19 #[.val (.long q0), .second, .val (.long q1), .second, .val (.long (q0 ^^^ (-9223372036854775808 : Int64))), .second, .val (.long (q1 ^^^ (-9223372036854775808 : Int64))), .second] [(.int (lcmpW (q0 ^^^ (-9223372036854775808 : Int64)) (q1 ^^^ (-9223372036854775808 : Int64))))]))
  by_cases hc19_1 : (q0 ^^^ (-9223372036854775808 : Int64)) < (q1 ^^^ (-9223372036854775808 : Int64))
  · rewrite [if_pos hc19_1]
    refine Go.of (fun t k => XS.ifNo X0.here hx rfl (hb hby d5_19) rfl ((if0 _ _).trans (tlt ((lw_lt (q0 ^^^ (-9223372036854775808 : Int64)) (q1 ^^^ (-9223372036854775808 : Int64))).mpr hc19_1)).2.1) k) ?_
    show Go p e below s _ _ _ (s₁.setTop (mkF m 22 #[.val (.long q0), .second, .val (.long q1), .second, .val (.long (q0 ^^^ (-9223372036854775808 : Int64))), .second, .val (.long (q1 ^^^ (-9223372036854775808 : Int64))), .second] []))
    refine Go.of (fun t k => XS.iconst X0.here hx rfl (hb hby d5_22) k) ?_
    show Go p e below s _ _ _ (s₁.setTop (mkF m 23 #[.val (.long q0), .second, .val (.long q1), .second, .val (.long (q0 ^^^ (-9223372036854775808 : Int64))), .second, .val (.long (q1 ^^^ (-9223372036854775808 : Int64))), .second] [(.int (-1 : Int32))]))
    exact Go.ret X0 (some (.int (-1 : Int32))) (fun h => by rw [Bd.returns] at h; cases h) hlk ⟨rfl, N0, e0⟩ (by decide) (by decide) (fun fs hr => (retI X0 hx Bd.returns (hb hby d5_23) hr))
  · rewrite [if_neg hc19_1]
    refine Go.of (fun t k => XS.ifYes X0.here hx rfl (pc0 := 19) (pc' := 24) rfl (hb hby d5_19) rfl ((if0 _ _).trans (flt (mt (lw_lt (q0 ^^^ (-9223372036854775808 : Int64)) (q1 ^^^ (-9223372036854775808 : Int64))).mp hc19_1)).2.1) (by decide) (by decide) k) ?_
    show Go p e below s _ _ _ (s₁.setTop (mkF m 24 #[.val (.long q0), .second, .val (.long q1), .second, .val (.long (q0 ^^^ (-9223372036854775808 : Int64))), .second, .val (.long (q1 ^^^ (-9223372036854775808 : Int64))), .second] []))
    refine Go.of (fun t k => XS.lload X0.here hx rfl (hb hby d5_24) rfl k) ?_
    show Go p e below s _ _ _ (s₁.setTop (mkF m 26 #[.val (.long q0), .second, .val (.long q1), .second, .val (.long (q0 ^^^ (-9223372036854775808 : Int64))), .second, .val (.long (q1 ^^^ (-9223372036854775808 : Int64))), .second] [(.long (q0 ^^^ (-9223372036854775808 : Int64)))]))
    refine Go.of (fun t k => XS.lload X0.here hx rfl (hb hby d5_26) rfl k) ?_
    show Go p e below s _ _ _ (s₁.setTop (mkF m 28 #[.val (.long q0), .second, .val (.long q1), .second, .val (.long (q0 ^^^ (-9223372036854775808 : Int64))), .second, .val (.long (q1 ^^^ (-9223372036854775808 : Int64))), .second] [(.long (q1 ^^^ (-9223372036854775808 : Int64))), (.long (q0 ^^^ (-9223372036854775808 : Int64)))]))
    refine Go.of (fun t k => XS.lcmp X0.here hx rfl (hb hby d5_28) rfl k) ?_
    show Go p e below s _ _ _ (s₁.setTop (mkF m 29 #[.val (.long q0), .second, .val (.long q1), .second, .val (.long (q0 ^^^ (-9223372036854775808 : Int64))), .second, .val (.long (q1 ^^^ (-9223372036854775808 : Int64))), .second] [(.int (lcmpW (q0 ^^^ (-9223372036854775808 : Int64)) (q1 ^^^ (-9223372036854775808 : Int64))))]))
    by_cases hc29_2 : (q1 ^^^ (-9223372036854775808 : Int64)) < (q0 ^^^ (-9223372036854775808 : Int64))
    · rewrite [if_pos hc29_2]
      refine Go.of (fun t k => XS.ifNo X0.here hx rfl (hb hby d5_29) rfl ((if0 _ _).trans (tlt ((lw_gt (q0 ^^^ (-9223372036854775808 : Int64)) (q1 ^^^ (-9223372036854775808 : Int64))).mpr hc29_2)).2.2.2) k) ?_
      show Go p e below s _ _ _ (s₁.setTop (mkF m 32 #[.val (.long q0), .second, .val (.long q1), .second, .val (.long (q0 ^^^ (-9223372036854775808 : Int64))), .second, .val (.long (q1 ^^^ (-9223372036854775808 : Int64))), .second] []))
      refine Go.of (fun t k => XS.iconst X0.here hx rfl (hb hby d5_32) k) ?_
      show Go p e below s _ _ _ (s₁.setTop (mkF m 33 #[.val (.long q0), .second, .val (.long q1), .second, .val (.long (q0 ^^^ (-9223372036854775808 : Int64))), .second, .val (.long (q1 ^^^ (-9223372036854775808 : Int64))), .second] [(.int (1 : Int32))]))
      exact Go.ret X0 (some (.int (1 : Int32))) (fun h => by rw [Bd.returns] at h; cases h) hlk ⟨rfl, N0, e0⟩ (by decide) (by decide) (fun fs hr => (retI X0 hx Bd.returns (hb hby d5_33) hr))
    · rewrite [if_neg hc29_2]
      refine Go.of (fun t k => XS.ifYes X0.here hx rfl (pc0 := 29) (pc' := 34) rfl (hb hby d5_29) rfl ((if0 _ _).trans (flt (mt (lw_gt (q0 ^^^ (-9223372036854775808 : Int64)) (q1 ^^^ (-9223372036854775808 : Int64))).mp hc29_2)).2.2.2) (by decide) (by decide) k) ?_
      show Go p e below s _ _ _ (s₁.setTop (mkF m 34 #[.val (.long q0), .second, .val (.long q1), .second, .val (.long (q0 ^^^ (-9223372036854775808 : Int64))), .second, .val (.long (q1 ^^^ (-9223372036854775808 : Int64))), .second] []))
      refine Go.of (fun t k => XS.iconst X0.here hx rfl (hb hby d5_34) k) ?_
      show Go p e below s _ _ _ (s₁.setTop (mkF m 35 #[.val (.long q0), .second, .val (.long q1), .second, .val (.long (q0 ^^^ (-9223372036854775808 : Int64))), .second, .val (.long (q1 ^^^ (-9223372036854775808 : Int64))), .second] [(.int (0 : Int32))]))
      exact Go.ret X0 (some (.int (0 : Int32))) (fun h => by rw [Bd.returns] at h; cases h) hlk ⟨rfl, N0, e0⟩ (by decide) (by decide) (fun fs hr => (retI X0 hx Bd.returns (hb hby d5_35) hr))
theorem own_pd1 : parseMethodDescriptor "(JJ)I" = some ⟨[.long, .long], some .int⟩ := by decide +kernel
theorem d4_0 : decode method_3_code 0 = .ok (.lload_n 0, 1) := by decide +kernel
theorem d4_1 : decode method_3_code 1 = .ok (.lload 4, 2) := by decide +kernel
theorem d4_3 : decode method_3_code 3 = .ok (.invokestatic 26, 3) := by decide +kernel
theorem d4_6 : decode method_3_code 6 = .ok (.istore 8, 2) := by decide +kernel
theorem d4_8 : decode method_3_code 8 = .ok (.iload 8, 2) := by decide +kernel
theorem d4_10 : decode method_3_code 10 = .ok (.ifCond .eq 6, 3) := by decide +kernel
theorem d4_13 : decode method_3_code 13 = .ok (.iload 8, 2) := by decide +kernel
theorem d4_15 : decode method_3_code 15 = .ok (.ireturn, 1) := by decide +kernel
theorem d4_16 : decode method_3_code 16 = .ok (.lload_n 2, 1) := by decide +kernel
theorem d4_17 : decode method_3_code 17 = .ok (.lload 6, 2) := by decide +kernel
theorem d4_19 : decode method_3_code 19 = .ok (.invokestatic 26, 3) := by decide +kernel
theorem d4_22 : decode method_3_code 22 = .ok (.ireturn, 1) := by decide +kernel
theorem ef_4 (m : MethodId) (q0 : Int64) (q1 : Int64) (q2 : Int64) (q3 : Int64) : entryFrame m #[(.long q0), (.long q1), (.long q2), (.long q3)] 9 = mkF m 0 #[.val (.long q0), .second, .val (.long q1), .second, .val (.long q2), .second, .val (.long q3), .second, .unset] [] := by first | (simp [entryFrame, mkF, argsToLocals, Value.category]; done) | rfl
def F4 (q0 : Int64) (q1 : Int64) (q2 : Int64) (q3 : Int64) : Int32 := (if (F5 q0 q2) = (0 : Int32) then (F5 q1 q3) else (F5 q0 q2))
set_option maxRecDepth 65536 in
set_option maxHeartbeats 40000000 in
theorem rm4 (l : Launch) (Z : State) (az : Array Value) (hw : ∀ d ∈ tables_1, d.before az Z = true) (ws : List Jvm.Cond) (q0 : Int64) (q1 : Int64) (q2 : Int64) (q3 : Int64)  (h0 : Heap) (n0 : Nat) (Z0 : n0 ≤ h0.size) :
    MetFree l (⟨"com/example/tidewall/tidewall/AddressCompareToPinLaw", "expectedSign", "(JJJJ)I"⟩ : MethodName) (head1 (Jvm.Cond.code (⟨"com/example/tidewall/tidewall/AddressCompareToPinLaw", "expectedSign", "(JJJJ)I"⟩ : MethodName) method_3_code 9 (some .int) :: ws) ({ frames := 1, cells := 0, slots := 0, locals := 19 } : Room)) (fun a U => a = #[(.long q0), (.long q1), (.long q2), (.long q3)] ∧ Z.Warmed39 U.vm ∧ U.heap = h0) (fun _ _ _ _ _ => True) (fun _ U o U' => ∃ v L, o = .returned v ∧ (QP (some (.int (F4 q0 q1 q2 q3))) h0 n0) v U'.heap L ∧ FrameEnd U o U' L ({ frames := 1, cells := 0, slots := 0, locals := 19 } : Room).cells ({ frames := 1, cells := 0, slots := 0, locals := 19 } : Room).slots) := by
  refine MetFree.of_bodySF (plainFor_of_name own_pn2) hisR ?_
  intro p e s m args below meth c s₁ Bd hml0 hP hK
  obtain ⟨rfl, hZ, hh⟩ := hP
  have hx := Bd.exec
  have hby := Bd.bytes
  have hml : c.maxLocals = 9 := hml0
  have hown : s.vm.findClass "com/example/tidewall/tidewall/AddressCompareToPinLaw" = some m.cls := findClass_of_methodNamed Bd.named
  have hnm := (name_of_methodNamed Bd.named Bd.method).1
  have hlk : meth.locks = false := BodyLoose.notSynchronized Bd
  have X0 : Stand p l e ({ frames := 1, cells := 0, slots := 0, locals := 19 } : Room) s m #[(.long q0), (.long q1), (.long q2), (.long q3)] below meth c s₁ [] 0 0 := Stand.of_body Bd
  have e0 : s₁.heap = h0 := by rw [← hh, Bd.state]; rfl
  have N0 := Fr.nil n0
  show Go p e below s (QP (some (.int (F4 q0 q1 q2 q3))) h0 n0) ({ frames := 1, cells := 0, slots := 0, locals := 19 } : Room).cells ({ frames := 1, cells := 0, slots := 0, locals := 19 } : Room).slots (s₁.setTop (entryFrame m #[(.long q0), (.long q1), (.long q2), (.long q3)] 9))
  refine Go.of (fun t k => castTop (ef_4 m q0 q1 q2 q3) k) ?_
  show Go p e below s _ _ _ (s₁.setTop (mkF m 0 #[.val (.long q0), .second, .val (.long q1), .second, .val (.long q2), .second, .val (.long q3), .second, .unset] []))
  unfold F4
  refine Go.of (fun t k => XS.lloadN X0.here hx rfl (hb hby d4_0) rfl k) ?_
  show Go p e below s _ _ _ (s₁.setTop (mkF m 1 #[.val (.long q0), .second, .val (.long q1), .second, .val (.long q2), .second, .val (.long q3), .second, .unset] [(.long q0)]))
  refine Go.of (fun t k => XS.lload X0.here hx rfl (hb hby d4_1) rfl k) ?_
  show Go p e below s _ _ _ (s₁.setTop (mkF m 3 #[.val (.long q0), .second, .val (.long q1), .second, .val (.long q2), .second, .val (.long q3), .second, .unset] [(.long q2), (.long q0)]))
  obtain ⟨_, _, ⟨T1, L1, k1, n1⟩, -, X1, ⟨Lc1, hQ1, l1, y1, z1⟩, st1⟩ := Jvm.LawKit.callS X0 hx (y := (⟨"com/example/tidewall/tidewall/AddressCompareToPinLaw", "unsignedSign", "(JJ)I"⟩ : MethodName)) hown (mvT hZ (hw _ (List.mem_of_getElem? (i := 22) rfl))) (mvT hZ (hw _ (List.mem_of_getElem? (i := 23) rfl))) (mvT hZ (hw _ (List.mem_of_getElem? (i := 20) rfl))) (mvT hZ (hw _ (List.mem_of_getElem? (i := 24) rfl))) (by decide) (backOf (W := 0) (rm5 l Z az hw [] q0 q2 h0 n0 Z0) hZ (hw _ (List.mem_of_getElem? (i := 24) rfl)) (hw _ (List.mem_of_getElem? (i := 20) rfl)) (by decide) (by decide)) (g := (mkF m 3 #[.val (.long q0), .second, .val (.long q1), .second, .val (.long q2), .second, .val (.long q3), .second, .unset] [(.long q2), (.long q0)])) rfl (by rw [hml]; rfl) (argsL := [(.long q0), (.long q2)]) (rest := []) (lenOf own_pd1 rfl) rfl (by show 2 * 0 + _ ≤ _; exact Nat.le_of_eq rfl) (hb hby d4_3) (fun _ _ => ⟨rfl, e0, (by decide : 0 + 0 ≤ _), (by decide : 0 + 0 ≤ _)⟩)
  dsimp only [Pt.U, Pt.locs, Pt.cells, Pt.slots] at X1 l1 y1 z1 st1 hQ1
  subst l1 y1 z1
  obtain ⟨rfl, N1q, e1⟩ := hQ1
  have N1 := Fr.app N0 N1q
  refine Go.of st1 ?_
  show Go p e below s _ _ _ (T1.setTop (mkF m 6 #[.val (.long q0), .second, .val (.long q1), .second, .val (.long q2), .second, .val (.long q3), .second, .unset] [(.int (F5 q0 q2))]))
  refine Go.of (fun t k => XS.istore X1.here hx rfl (hb hby d4_6) rfl (l' := #[.val (.long q0), .second, .val (.long q1), .second, .val (.long q2), .second, .val (.long q3), .second, .val (.int (F5 q0 q2))]) rfl k) ?_
  show Go p e below s _ _ _ (T1.setTop (mkF m 8 #[.val (.long q0), .second, .val (.long q1), .second, .val (.long q2), .second, .val (.long q3), .second, .val (.int (F5 q0 q2))] []))
  refine Go.of (fun t k => XS.iload X1.here hx rfl (hb hby d4_8) rfl k) ?_
  show Go p e below s _ _ _ (T1.setTop (mkF m 10 #[.val (.long q0), .second, .val (.long q1), .second, .val (.long q2), .second, .val (.long q3), .second, .val (.int (F5 q0 q2))] [(.int (F5 q0 q2))]))
  by_cases hc10_2 : (F5 q0 q2) = (0 : Int32)
  · rewrite [if_pos hc10_2]
    refine Go.of (fun t k => XS.ifYes X1.here hx rfl (pc0 := 10) (pc' := 16) rfl (hb hby d4_10) rfl ((if0 _ _).trans (teq hc10_2).1) (by decide) (by decide) k) ?_
    show Go p e below s _ _ _ (T1.setTop (mkF m 16 #[.val (.long q0), .second, .val (.long q1), .second, .val (.long q2), .second, .val (.long q3), .second, .val (.int (F5 q0 q2))] []))
    refine Go.of (fun t k => XS.lloadN X1.here hx rfl (hb hby d4_16) rfl k) ?_
    show Go p e below s _ _ _ (T1.setTop (mkF m 17 #[.val (.long q0), .second, .val (.long q1), .second, .val (.long q2), .second, .val (.long q3), .second, .val (.int (F5 q0 q2))] [(.long q1)]))
    refine Go.of (fun t k => XS.lload X1.here hx rfl (hb hby d4_17) rfl k) ?_
    show Go p e below s _ _ _ (T1.setTop (mkF m 19 #[.val (.long q0), .second, .val (.long q1), .second, .val (.long q2), .second, .val (.long q3), .second, .val (.int (F5 q0 q2))] [(.long q3), (.long q1)]))
    obtain ⟨_, _, ⟨T3, L3, k3, n3⟩, -, X3, ⟨Lc3, hQ3, l3, y3, z3⟩, st3⟩ := Jvm.LawKit.callS X1 hx (y := (⟨"com/example/tidewall/tidewall/AddressCompareToPinLaw", "unsignedSign", "(JJ)I"⟩ : MethodName)) hown (mvT hZ (hw _ (List.mem_of_getElem? (i := 22) rfl))) (mvT hZ (hw _ (List.mem_of_getElem? (i := 23) rfl))) (mvT hZ (hw _ (List.mem_of_getElem? (i := 20) rfl))) (mvT hZ (hw _ (List.mem_of_getElem? (i := 24) rfl))) (by decide) (backOf (W := 0) (rm5 l Z az hw [] q1 q3 h0 n0 Z0) hZ (hw _ (List.mem_of_getElem? (i := 24) rfl)) (hw _ (List.mem_of_getElem? (i := 20) rfl)) (by decide) (by decide)) (g := (mkF m 19 #[.val (.long q0), .second, .val (.long q1), .second, .val (.long q2), .second, .val (.long q3), .second, .val (.int (F5 q0 q2))] [(.long q3), (.long q1)])) rfl (by rw [hml]; rfl) (argsL := [(.long q1), (.long q3)]) (rest := []) (lenOf own_pd1 rfl) rfl (by show 2 * 0 + _ ≤ _; exact Nat.le_of_eq rfl) (hb hby d4_19) (fun _ _ => ⟨rfl, e1, (by decide : 0 + 0 ≤ _), (by decide : 0 + 0 ≤ _)⟩)
    dsimp only [Pt.U, Pt.locs, Pt.cells, Pt.slots] at X3 l3 y3 z3 st3 hQ3
    subst l3 y3 z3
    obtain ⟨rfl, N3q, e3⟩ := hQ3
    have N3 := Fr.app N1 N3q
    refine Go.of st3 ?_
    show Go p e below s _ _ _ (T3.setTop (mkF m 22 #[.val (.long q0), .second, .val (.long q1), .second, .val (.long q2), .second, .val (.long q3), .second, .val (.int (F5 q0 q2))] [(.int (F5 q1 q3))]))
    exact Go.ret X3 (some (.int (F5 q1 q3))) (fun h => by rw [Bd.returns] at h; cases h) hlk ⟨rfl, N3, e3⟩ (by decide) (by decide) (fun fs hr => (retI X3 hx Bd.returns (hb hby d4_22) hr))
  · rewrite [if_neg hc10_2]
    refine Go.of (fun t k => XS.ifNo X1.here hx rfl (hb hby d4_10) rfl ((if0 _ _).trans (feq hc10_2).1) k) ?_
    show Go p e below s _ _ _ (T1.setTop (mkF m 13 #[.val (.long q0), .second, .val (.long q1), .second, .val (.long q2), .second, .val (.long q3), .second, .val (.int (F5 q0 q2))] []))
    refine Go.of (fun t k => XS.iload X1.here hx rfl (hb hby d4_13) rfl k) ?_
    show Go p e below s _ _ _ (T1.setTop (mkF m 15 #[.val (.long q0), .second, .val (.long q1), .second, .val (.long q2), .second, .val (.long q3), .second, .val (.int (F5 q0 q2))] [(.int (F5 q0 q2))]))
    exact Go.ret X1 (some (.int (F5 q0 q2))) (fun h => by rw [Bd.returns] at h; cases h) hlk ⟨rfl, N1, e1⟩ (by decide) (by decide) (fun fs hr => (retI X1 hx Bd.returns (hb hby d4_15) hr))
theorem own_pn3 : plainName "java/lang/Long" = true := by first | (simp [plainName, overriddenIn]; done) | decide +kernel
theorem d8_0 : decode jdk_35_method_42_code 0 = .ok (.lload_n 0, 1) := by decide +kernel
theorem d8_1 : decode jdk_35_method_42_code 1 = .ok (.lload_n 2, 1) := by decide +kernel
theorem d8_2 : decode jdk_35_method_42_code 2 = .ok (.lcmp, 1) := by decide +kernel
theorem d8_3 : decode jdk_35_method_42_code 3 = .ok (.ifCond .ge 7, 3) := by decide +kernel
theorem d8_6 : decode jdk_35_method_42_code 6 = .ok (.iconst (-1), 1) := by decide +kernel
theorem d8_7 : decode jdk_35_method_42_code 7 = .ok (.goto 14, 3) := by decide +kernel
theorem d8_10 : decode jdk_35_method_42_code 10 = .ok (.lload_n 0, 1) := by decide +kernel
theorem d8_11 : decode jdk_35_method_42_code 11 = .ok (.lload_n 2, 1) := by decide +kernel
theorem d8_12 : decode jdk_35_method_42_code 12 = .ok (.lcmp, 1) := by decide +kernel
theorem d8_13 : decode jdk_35_method_42_code 13 = .ok (.ifCond .ne 7, 3) := by decide +kernel
theorem d8_16 : decode jdk_35_method_42_code 16 = .ok (.iconst 0, 1) := by decide +kernel
theorem d8_17 : decode jdk_35_method_42_code 17 = .ok (.goto 4, 3) := by decide +kernel
theorem d8_20 : decode jdk_35_method_42_code 20 = .ok (.iconst 1, 1) := by decide +kernel
theorem d8_21 : decode jdk_35_method_42_code 21 = .ok (.ireturn, 1) := by decide +kernel
theorem ef_8 (m : MethodId) (q0 : Int64) (q1 : Int64) : entryFrame m #[(.long q0), (.long q1)] 4 = mkF m 0 #[.val (.long q0), .second, .val (.long q1), .second] [] := by first | (simp [entryFrame, mkF, argsToLocals, Value.category]; done) | rfl
def F8 (q0 : Int64) (q1 : Int64) : Int32 := (if q0 < q1 then (-1 : Int32) else (if q0 = q1 then (0 : Int32) else (1 : Int32)))
set_option maxRecDepth 65536 in
set_option maxHeartbeats 40000000 in
theorem rm8 (l : Launch) (Z : State) (az : Array Value) (hw : ∀ d ∈ tables_1, d.before az Z = true) (ws : List Jvm.Cond) (q0 : Int64) (q1 : Int64)  (h0 : Heap) (n0 : Nat) (Z0 : n0 ≤ h0.size) :
    MetFree l (⟨"java/lang/Long", "compare", "(JJ)I"⟩ : MethodName) (head1 (Jvm.Cond.code (⟨"java/lang/Long", "compare", "(JJ)I"⟩ : MethodName) jdk_35_method_42_code 4 (some .int) :: ws) ({ frames := 0, cells := 0, slots := 0, locals := 0 } : Room)) (fun a U => a = #[(.long q0), (.long q1)] ∧ Z.Warmed39 U.vm ∧ U.heap = h0) (fun _ _ _ _ _ => True) (fun _ U o U' => ∃ v L, o = .returned v ∧ (QP (some (.int (F8 q0 q1))) h0 n0) v U'.heap L ∧ FrameEnd U o U' L ({ frames := 0, cells := 0, slots := 0, locals := 0 } : Room).cells ({ frames := 0, cells := 0, slots := 0, locals := 0 } : Room).slots) := by
  refine MetFree.of_bodySF (plainFor_of_name own_pn3) hisR ?_
  intro p e s m args below meth c s₁ Bd hml0 hP hK
  obtain ⟨rfl, hZ, hh⟩ := hP
  have hx := Bd.exec
  have hby := Bd.bytes
  have hml : c.maxLocals = 4 := hml0
  have hown : s.vm.findClass "java/lang/Long" = some m.cls := findClass_of_methodNamed Bd.named
  have hnm := (name_of_methodNamed Bd.named Bd.method).1
  have hlk : meth.locks = false := BodyLoose.notSynchronized Bd
  have X0 : Stand p l e ({ frames := 0, cells := 0, slots := 0, locals := 0 } : Room) s m #[(.long q0), (.long q1)] below meth c s₁ [] 0 0 := Stand.of_body Bd
  have e0 : s₁.heap = h0 := by rw [← hh, Bd.state]; rfl
  have N0 := Fr.nil n0
  show Go p e below s (QP (some (.int (F8 q0 q1))) h0 n0) ({ frames := 0, cells := 0, slots := 0, locals := 0 } : Room).cells ({ frames := 0, cells := 0, slots := 0, locals := 0 } : Room).slots (s₁.setTop (entryFrame m #[(.long q0), (.long q1)] 4))
  refine Go.of (fun t k => castTop (ef_8 m q0 q1) k) ?_
  show Go p e below s _ _ _ (s₁.setTop (mkF m 0 #[.val (.long q0), .second, .val (.long q1), .second] []))
  unfold F8
  refine Go.of (fun t k => XS.lloadN X0.here hx rfl (hb hby d8_0) rfl k) ?_
  show Go p e below s _ _ _ (s₁.setTop (mkF m 1 #[.val (.long q0), .second, .val (.long q1), .second] [(.long q0)]))
  refine Go.of (fun t k => XS.lloadN X0.here hx rfl (hb hby d8_1) rfl k) ?_
  show Go p e below s _ _ _ (s₁.setTop (mkF m 2 #[.val (.long q0), .second, .val (.long q1), .second] [(.long q1), (.long q0)]))
  refine Go.of (fun t k => XS.lcmp X0.here hx rfl (hb hby d8_2) rfl k) ?_
  show Go p e below s _ _ _ (s₁.setTop (mkF m 3 #[.val (.long q0), .second, .val (.long q1), .second] [(.int (lcmpW q0 q1))]))
  by_cases hc3_1 : q0 < q1
  · rewrite [if_pos hc3_1]
    refine Go.of (fun t k => XS.ifNo X0.here hx rfl (hb hby d8_3) rfl ((if0 _ _).trans (tlt ((lw_lt q0 q1).mpr hc3_1)).2.1) k) ?_
    show Go p e below s _ _ _ (s₁.setTop (mkF m 6 #[.val (.long q0), .second, .val (.long q1), .second] []))
    refine Go.of (fun t k => XS.iconst X0.here hx rfl (hb hby d8_6) k) ?_
    show Go p e below s _ _ _ (s₁.setTop (mkF m 7 #[.val (.long q0), .second, .val (.long q1), .second] [(.int (-1 : Int32))]))
    refine Go.of (fun t k => XS.goto X0.here hx rfl (pc0 := 7) (pc' := 21) rfl (hb hby d8_7) (by decide) (by decide) k) ?_
    show Go p e below s _ _ _ (s₁.setTop (mkF m 21 #[.val (.long q0), .second, .val (.long q1), .second] [(.int (-1 : Int32))]))
    exact Go.ret X0 (some (.int (-1 : Int32))) (fun h => by rw [Bd.returns] at h; cases h) hlk ⟨rfl, N0, e0⟩ (by decide) (by decide) (fun fs hr => (retI X0 hx Bd.returns (hb hby d8_21) hr))
  · rewrite [if_neg hc3_1]
    refine Go.of (fun t k => XS.ifYes X0.here hx rfl (pc0 := 3) (pc' := 10) rfl (hb hby d8_3) rfl ((if0 _ _).trans (flt (mt (lw_lt q0 q1).mp hc3_1)).2.1) (by decide) (by decide) k) ?_
    show Go p e below s _ _ _ (s₁.setTop (mkF m 10 #[.val (.long q0), .second, .val (.long q1), .second] []))
    refine Go.of (fun t k => XS.lloadN X0.here hx rfl (hb hby d8_10) rfl k) ?_
    show Go p e below s _ _ _ (s₁.setTop (mkF m 11 #[.val (.long q0), .second, .val (.long q1), .second] [(.long q0)]))
    refine Go.of (fun t k => XS.lloadN X0.here hx rfl (hb hby d8_11) rfl k) ?_
    show Go p e below s _ _ _ (s₁.setTop (mkF m 12 #[.val (.long q0), .second, .val (.long q1), .second] [(.long q1), (.long q0)]))
    refine Go.of (fun t k => XS.lcmp X0.here hx rfl (hb hby d8_12) rfl k) ?_
    show Go p e below s _ _ _ (s₁.setTop (mkF m 13 #[.val (.long q0), .second, .val (.long q1), .second] [(.int (lcmpW q0 q1))]))
    by_cases hc13_2 : q0 = q1
    · rewrite [if_pos hc13_2]
      refine Go.of (fun t k => XS.ifNo X0.here hx rfl (hb hby d8_13) rfl ((if0 _ _).trans (teq ((lw_eq q0 q1).mpr hc13_2)).2) k) ?_
      show Go p e below s _ _ _ (s₁.setTop (mkF m 16 #[.val (.long q0), .second, .val (.long q1), .second] []))
      refine Go.of (fun t k => XS.iconst X0.here hx rfl (hb hby d8_16) k) ?_
      show Go p e below s _ _ _ (s₁.setTop (mkF m 17 #[.val (.long q0), .second, .val (.long q1), .second] [(.int (0 : Int32))]))
      refine Go.of (fun t k => XS.goto X0.here hx rfl (pc0 := 17) (pc' := 21) rfl (hb hby d8_17) (by decide) (by decide) k) ?_
      show Go p e below s _ _ _ (s₁.setTop (mkF m 21 #[.val (.long q0), .second, .val (.long q1), .second] [(.int (0 : Int32))]))
      exact Go.ret X0 (some (.int (0 : Int32))) (fun h => by rw [Bd.returns] at h; cases h) hlk ⟨rfl, N0, e0⟩ (by decide) (by decide) (fun fs hr => (retI X0 hx Bd.returns (hb hby d8_21) hr))
    · rewrite [if_neg hc13_2]
      refine Go.of (fun t k => XS.ifYes X0.here hx rfl (pc0 := 13) (pc' := 20) rfl (hb hby d8_13) rfl ((if0 _ _).trans (feq (mt (lw_eq q0 q1).mp hc13_2)).2) (by decide) (by decide) k) ?_
      show Go p e below s _ _ _ (s₁.setTop (mkF m 20 #[.val (.long q0), .second, .val (.long q1), .second] []))
      refine Go.of (fun t k => XS.iconst X0.here hx rfl (hb hby d8_20) k) ?_
      show Go p e below s _ _ _ (s₁.setTop (mkF m 21 #[.val (.long q0), .second, .val (.long q1), .second] [(.int (1 : Int32))]))
      exact Go.ret X0 (some (.int (1 : Int32))) (fun h => by rw [Bd.returns] at h; cases h) hlk ⟨rfl, N0, e0⟩ (by decide) (by decide) (fun fs hr => (retI X0 hx Bd.returns (hb hby d8_21) hr))
theorem d7_0 : decode jdk_35_method_43_code 0 = .ok (.lload_n 0, 1) := by decide +kernel
theorem d7_1 : decode jdk_35_method_43_code 1 = .ok (.ldc2_w 168, 3) := by decide +kernel
theorem d7_4 : decode jdk_35_method_43_code 4 = .ok (.ladd, 1) := by decide +kernel
theorem d7_5 : decode jdk_35_method_43_code 5 = .ok (.lload_n 2, 1) := by decide +kernel
theorem d7_6 : decode jdk_35_method_43_code 6 = .ok (.ldc2_w 168, 3) := by decide +kernel
theorem d7_9 : decode jdk_35_method_43_code 9 = .ok (.ladd, 1) := by decide +kernel
theorem d7_10 : decode jdk_35_method_43_code 10 = .ok (.invokestatic 302, 3) := by decide +kernel
theorem d7_13 : decode jdk_35_method_43_code 13 = .ok (.ireturn, 1) := by decide +kernel
theorem ef_7 (m : MethodId) (q0 : Int64) (q1 : Int64) : entryFrame m #[(.long q0), (.long q1)] 4 = mkF m 0 #[.val (.long q0), .second, .val (.long q1), .second] [] := by first | (simp [entryFrame, mkF, argsToLocals, Value.category]; done) | rfl
def F7 (q0 : Int64) (q1 : Int64) : Int32 := (F8 (q0 + (-9223372036854775808 : Int64)) (q1 + (-9223372036854775808 : Int64)))
set_option maxRecDepth 65536 in
set_option maxHeartbeats 40000000 in
theorem rm7 (l : Launch) (Z : State) (az : Array Value) (hw : ∀ d ∈ tables_1, d.before az Z = true) (ws : List Jvm.Cond) (q0 : Int64) (q1 : Int64)  (h0 : Heap) (n0 : Nat) (Z0 : n0 ≤ h0.size) :
    MetFree l (⟨"java/lang/Long", "compareUnsigned", "(JJ)I"⟩ : MethodName) (head1 (Jvm.Cond.code (⟨"java/lang/Long", "compareUnsigned", "(JJ)I"⟩ : MethodName) jdk_35_method_43_code 4 (some .int) :: ws) ({ frames := 1, cells := 0, slots := 0, locals := 15 } : Room)) (fun a U => a = #[(.long q0), (.long q1)] ∧ Z.Warmed39 U.vm ∧ U.heap = h0) (fun _ _ _ _ _ => True) (fun _ U o U' => ∃ v L, o = .returned v ∧ (QP (some (.int (F7 q0 q1))) h0 n0) v U'.heap L ∧ FrameEnd U o U' L ({ frames := 1, cells := 0, slots := 0, locals := 15 } : Room).cells ({ frames := 1, cells := 0, slots := 0, locals := 15 } : Room).slots) := by
  refine MetFree.of_bodySF (plainFor_of_name own_pn3) hisR ?_
  intro p e s m args below meth c s₁ Bd hml0 hP hK
  obtain ⟨rfl, hZ, hh⟩ := hP
  have hx := Bd.exec
  have hby := Bd.bytes
  have hml : c.maxLocals = 4 := hml0
  have hown : s.vm.findClass "java/lang/Long" = some m.cls := findClass_of_methodNamed Bd.named
  have hnm := (name_of_methodNamed Bd.named Bd.method).1
  have hlk : meth.locks = false := BodyLoose.notSynchronized Bd
  have X0 : Stand p l e ({ frames := 1, cells := 0, slots := 0, locals := 15 } : Room) s m #[(.long q0), (.long q1)] below meth c s₁ [] 0 0 := Stand.of_body Bd
  have e0 : s₁.heap = h0 := by rw [← hh, Bd.state]; rfl
  have N0 := Fr.nil n0
  show Go p e below s (QP (some (.int (F7 q0 q1))) h0 n0) ({ frames := 1, cells := 0, slots := 0, locals := 15 } : Room).cells ({ frames := 1, cells := 0, slots := 0, locals := 15 } : Room).slots (s₁.setTop (entryFrame m #[(.long q0), (.long q1)] 4))
  refine Go.of (fun t k => castTop (ef_7 m q0 q1) k) ?_
  show Go p e below s _ _ _ (s₁.setTop (mkF m 0 #[.val (.long q0), .second, .val (.long q1), .second] []))
  unfold F7
  refine Go.of (fun t k => XS.lloadN X0.here hx rfl (hb hby d7_0) rfl k) ?_
  show Go p e below s _ _ _ (s₁.setTop (mkF m 1 #[.val (.long q0), .second, .val (.long q1), .second] [(.long q0)]))
  refine Go.of (X0.ldc2Long hx hown (mvT hZ (hw _ (List.mem_of_getElem? (i := 35) rfl))) (g := (mkF m 1 #[.val (.long q0), .second, .val (.long q1), .second] [(.long q0)])) rfl (hb hby d7_1)) ?_
  show Go p e below s _ _ _ (s₁.setTop (mkF m 4 #[.val (.long q0), .second, .val (.long q1), .second] [(.long (-9223372036854775808 : Int64)), (.long q0)]))
  refine Go.of (fun t k => XS.ladd X0.here hx rfl (hb hby d7_4) rfl k) ?_
  show Go p e below s _ _ _ (s₁.setTop (mkF m 5 #[.val (.long q0), .second, .val (.long q1), .second] [(.long (q0 + (-9223372036854775808 : Int64)))]))
  refine Go.of (fun t k => XS.lloadN X0.here hx rfl (hb hby d7_5) rfl k) ?_
  show Go p e below s _ _ _ (s₁.setTop (mkF m 6 #[.val (.long q0), .second, .val (.long q1), .second] [(.long q1), (.long (q0 + (-9223372036854775808 : Int64)))]))
  refine Go.of (X0.ldc2Long hx hown (mvT hZ (hw _ (List.mem_of_getElem? (i := 35) rfl))) (g := (mkF m 6 #[.val (.long q0), .second, .val (.long q1), .second] [(.long q1), (.long (q0 + (-9223372036854775808 : Int64)))])) rfl (hb hby d7_6)) ?_
  show Go p e below s _ _ _ (s₁.setTop (mkF m 9 #[.val (.long q0), .second, .val (.long q1), .second] [(.long (-9223372036854775808 : Int64)), (.long q1), (.long (q0 + (-9223372036854775808 : Int64)))]))
  refine Go.of (fun t k => XS.ladd X0.here hx rfl (hb hby d7_9) rfl k) ?_
  show Go p e below s _ _ _ (s₁.setTop (mkF m 10 #[.val (.long q0), .second, .val (.long q1), .second] [(.long (q1 + (-9223372036854775808 : Int64))), (.long (q0 + (-9223372036854775808 : Int64)))]))
  obtain ⟨_, _, ⟨T1, L1, k1, n1⟩, -, X1, ⟨Lc1, hQ1, l1, y1, z1⟩, st1⟩ := Jvm.LawKit.callS X0 hx (y := (⟨"java/lang/Long", "compare", "(JJ)I"⟩ : MethodName)) hown (mvT hZ (hw _ (List.mem_of_getElem? (i := 36) rfl))) (mvT hZ (hw _ (List.mem_of_getElem? (i := 37) rfl))) (mvT hZ (hw _ (List.mem_of_getElem? (i := 33) rfl))) (mvT hZ (hw _ (List.mem_of_getElem? (i := 38) rfl))) (by decide) (backOf (W := 0) (rm8 l Z az hw [] (q0 + (-9223372036854775808 : Int64)) (q1 + (-9223372036854775808 : Int64)) h0 n0 Z0) hZ (hw _ (List.mem_of_getElem? (i := 38) rfl)) (hw _ (List.mem_of_getElem? (i := 33) rfl)) (by decide) (by decide)) (g := (mkF m 10 #[.val (.long q0), .second, .val (.long q1), .second] [(.long (q1 + (-9223372036854775808 : Int64))), (.long (q0 + (-9223372036854775808 : Int64)))])) rfl (by rw [hml]; rfl) (argsL := [(.long (q0 + (-9223372036854775808 : Int64))), (.long (q1 + (-9223372036854775808 : Int64)))]) (rest := []) (lenOf own_pd1 rfl) rfl (by show 2 * 0 + _ ≤ _; exact Nat.le_of_eq rfl) (hb hby d7_10) (fun _ _ => ⟨rfl, e0, (by decide : 0 + 0 ≤ _), (by decide : 0 + 0 ≤ _)⟩)
  dsimp only [Pt.U, Pt.locs, Pt.cells, Pt.slots] at X1 l1 y1 z1 st1 hQ1
  subst l1 y1 z1
  obtain ⟨rfl, N1q, e1⟩ := hQ1
  have N1 := Fr.app N0 N1q
  refine Go.of st1 ?_
  show Go p e below s _ _ _ (T1.setTop (mkF m 13 #[.val (.long q0), .second, .val (.long q1), .second] [(.int (F8 (q0 + (-9223372036854775808 : Int64)) (q1 + (-9223372036854775808 : Int64))))]))
  exact Go.ret X1 (some (.int (F8 (q0 + (-9223372036854775808 : Int64)) (q1 + (-9223372036854775808 : Int64))))) (fun h => by rw [Bd.returns] at h; cases h) hlk ⟨rfl, N1, e1⟩ (by decide) (by decide) (fun fs hr => (retI X1 hx Bd.returns (hb hby d7_13) hr))
theorem d9_0 : decode method_5_code 0 = .ok (.iload_n 0, 1) := by decide +kernel
theorem d9_1 : decode method_5_code 1 = .ok (.ifCond .ge 5, 3) := by decide +kernel
theorem d9_4 : decode method_5_code 4 = .ok (.iconst (-1), 1) := by decide +kernel
theorem d9_5 : decode method_5_code 5 = .ok (.ireturn, 1) := by decide +kernel
theorem d9_6 : decode method_5_code 6 = .ok (.iload_n 0, 1) := by decide +kernel
theorem d9_7 : decode method_5_code 7 = .ok (.ifCond .le 5, 3) := by decide +kernel
theorem d9_10 : decode method_5_code 10 = .ok (.iconst 1, 1) := by decide +kernel
theorem d9_11 : decode method_5_code 11 = .ok (.ireturn, 1) := by decide +kernel
theorem d9_12 : decode method_5_code 12 = .ok (.iconst 0, 1) := by decide +kernel
theorem d9_13 : decode method_5_code 13 = .ok (.ireturn, 1) := by decide +kernel
theorem ef_9 (m : MethodId) (p0 : Int32) : entryFrame m #[(.int p0)] 1 = mkF m 0 #[.val (.int p0)] [] := by first | (simp [entryFrame, mkF, argsToLocals, Value.category]; done) | rfl
def F9 (p0 : Int32) : Int32 := (if p0 < (0 : Int32) then (-1 : Int32) else (if (0 : Int32) < p0 then (1 : Int32) else (0 : Int32)))
set_option maxRecDepth 65536 in
set_option maxHeartbeats 40000000 in
theorem rm9 (l : Launch) (Z : State) (az : Array Value) (hw : ∀ d ∈ tables_1, d.before az Z = true) (ws : List Jvm.Cond) (p0 : Int32)  (h0 : Heap) (n0 : Nat) (Z0 : n0 ≤ h0.size) :
    MetFree l (⟨"com/example/tidewall/tidewall/AddressCompareToPinLaw", "sign", "(I)I"⟩ : MethodName) (head1 (Jvm.Cond.code (⟨"com/example/tidewall/tidewall/AddressCompareToPinLaw", "sign", "(I)I"⟩ : MethodName) method_5_code 1 (some .int) :: ws) ({ frames := 0, cells := 0, slots := 0, locals := 0 } : Room)) (fun a U => a = #[(.int p0)] ∧ Z.Warmed39 U.vm ∧ U.heap = h0) (fun _ _ _ _ _ => True) (fun _ U o U' => ∃ v L, o = .returned v ∧ (QP (some (.int (F9 p0))) h0 n0) v U'.heap L ∧ FrameEnd U o U' L ({ frames := 0, cells := 0, slots := 0, locals := 0 } : Room).cells ({ frames := 0, cells := 0, slots := 0, locals := 0 } : Room).slots) := by
  refine MetFree.of_bodySF (plainFor_of_name own_pn2) hisR ?_
  intro p e s m args below meth c s₁ Bd hml0 hP hK
  obtain ⟨rfl, hZ, hh⟩ := hP
  have hx := Bd.exec
  have hby := Bd.bytes
  have hml : c.maxLocals = 1 := hml0
  have hown : s.vm.findClass "com/example/tidewall/tidewall/AddressCompareToPinLaw" = some m.cls := findClass_of_methodNamed Bd.named
  have hnm := (name_of_methodNamed Bd.named Bd.method).1
  have hlk : meth.locks = false := BodyLoose.notSynchronized Bd
  have X0 : Stand p l e ({ frames := 0, cells := 0, slots := 0, locals := 0 } : Room) s m #[(.int p0)] below meth c s₁ [] 0 0 := Stand.of_body Bd
  have e0 : s₁.heap = h0 := by rw [← hh, Bd.state]; rfl
  have N0 := Fr.nil n0
  show Go p e below s (QP (some (.int (F9 p0))) h0 n0) ({ frames := 0, cells := 0, slots := 0, locals := 0 } : Room).cells ({ frames := 0, cells := 0, slots := 0, locals := 0 } : Room).slots (s₁.setTop (entryFrame m #[(.int p0)] 1))
  refine Go.of (fun t k => castTop (ef_9 m p0) k) ?_
  show Go p e below s _ _ _ (s₁.setTop (mkF m 0 #[.val (.int p0)] []))
  unfold F9
  refine Go.of (fun t k => XS.iloadN X0.here hx rfl (hb hby d9_0) rfl k) ?_
  show Go p e below s _ _ _ (s₁.setTop (mkF m 1 #[.val (.int p0)] [(.int p0)]))
  by_cases hc1_1 : p0 < (0 : Int32)
  · rewrite [if_pos hc1_1]
    refine Go.of (fun t k => XS.ifNo X0.here hx rfl (hb hby d9_1) rfl ((if0 _ _).trans (tlt hc1_1).2.1) k) ?_
    show Go p e below s _ _ _ (s₁.setTop (mkF m 4 #[.val (.int p0)] []))
    refine Go.of (fun t k => XS.iconst X0.here hx rfl (hb hby d9_4) k) ?_
    show Go p e below s _ _ _ (s₁.setTop (mkF m 5 #[.val (.int p0)] [(.int (-1 : Int32))]))
    exact Go.ret X0 (some (.int (-1 : Int32))) (fun h => by rw [Bd.returns] at h; cases h) hlk ⟨rfl, N0, e0⟩ (by decide) (by decide) (fun fs hr => (retI X0 hx Bd.returns (hb hby d9_5) hr))
  · rewrite [if_neg hc1_1]
    refine Go.of (fun t k => XS.ifYes X0.here hx rfl (pc0 := 1) (pc' := 6) rfl (hb hby d9_1) rfl ((if0 _ _).trans (flt hc1_1).2.1) (by decide) (by decide) k) ?_
    show Go p e below s _ _ _ (s₁.setTop (mkF m 6 #[.val (.int p0)] []))
    refine Go.of (fun t k => XS.iloadN X0.here hx rfl (hb hby d9_6) rfl k) ?_
    show Go p e below s _ _ _ (s₁.setTop (mkF m 7 #[.val (.int p0)] [(.int p0)]))
    by_cases hc7_2 : (0 : Int32) < p0
    · rewrite [if_pos hc7_2]
      refine Go.of (fun t k => XS.ifNo X0.here hx rfl (hb hby d9_7) rfl ((if0 _ _).trans (tlt hc7_2).2.2.2) k) ?_
      show Go p e below s _ _ _ (s₁.setTop (mkF m 10 #[.val (.int p0)] []))
      refine Go.of (fun t k => XS.iconst X0.here hx rfl (hb hby d9_10) k) ?_
      show Go p e below s _ _ _ (s₁.setTop (mkF m 11 #[.val (.int p0)] [(.int (1 : Int32))]))
      exact Go.ret X0 (some (.int (1 : Int32))) (fun h => by rw [Bd.returns] at h; cases h) hlk ⟨rfl, N0, e0⟩ (by decide) (by decide) (fun fs hr => (retI X0 hx Bd.returns (hb hby d9_11) hr))
    · rewrite [if_neg hc7_2]
      refine Go.of (fun t k => XS.ifYes X0.here hx rfl (pc0 := 7) (pc' := 12) rfl (hb hby d9_7) rfl ((if0 _ _).trans (flt hc7_2).2.2.2) (by decide) (by decide) k) ?_
      show Go p e below s _ _ _ (s₁.setTop (mkF m 12 #[.val (.int p0)] []))
      refine Go.of (fun t k => XS.iconst X0.here hx rfl (hb hby d9_12) k) ?_
      show Go p e below s _ _ _ (s₁.setTop (mkF m 13 #[.val (.int p0)] [(.int (0 : Int32))]))
      exact Go.ret X0 (some (.int (0 : Int32))) (fun h => by rw [Bd.returns] at h; cases h) hlk ⟨rfl, N0, e0⟩ (by decide) (by decide) (fun fs hr => (retI X0 hx Bd.returns (hb hby d9_13) hr))
theorem d6_0 : decode prog_1_method_8_code 0 = .ok (.aload_n 0, 1) := by decide +kernel
theorem d6_1 : decode prog_1_method_8_code 1 = .ok (.getfield 7, 3) := by decide +kernel
theorem d6_4 : decode prog_1_method_8_code 4 = .ok (.aload_n 1, 1) := by decide +kernel
theorem d6_5 : decode prog_1_method_8_code 5 = .ok (.getfield 7, 3) := by decide +kernel
theorem d6_8 : decode prog_1_method_8_code 8 = .ok (.invokestatic 100, 3) := by decide +kernel
theorem d6_11 : decode prog_1_method_8_code 11 = .ok (.istore_n 2, 1) := by decide +kernel
theorem d6_12 : decode prog_1_method_8_code 12 = .ok (.iload_n 2, 1) := by decide +kernel
theorem d6_13 : decode prog_1_method_8_code 13 = .ok (.ifCond .eq 7, 3) := by decide +kernel
theorem d6_16 : decode prog_1_method_8_code 16 = .ok (.iload_n 2, 1) := by decide +kernel
theorem d6_17 : decode prog_1_method_8_code 17 = .ok (.goto 14, 3) := by decide +kernel
theorem d6_20 : decode prog_1_method_8_code 20 = .ok (.aload_n 0, 1) := by decide +kernel
theorem d6_21 : decode prog_1_method_8_code 21 = .ok (.getfield 13, 3) := by decide +kernel
theorem d6_24 : decode prog_1_method_8_code 24 = .ok (.aload_n 1, 1) := by decide +kernel
theorem d6_25 : decode prog_1_method_8_code 25 = .ok (.getfield 13, 3) := by decide +kernel
theorem d6_28 : decode prog_1_method_8_code 28 = .ok (.invokestatic 100, 3) := by decide +kernel
theorem d6_31 : decode prog_1_method_8_code 31 = .ok (.ireturn, 1) := by decide +kernel
theorem ef_6 (m : MethodId) (a0 : Addr) (a1 : Addr) : entryFrame m #[(.ref a0), (.ref a1)] 3 = mkF m 0 #[.val (.ref a0), .val (.ref a1), .unset] [] := by first | (simp [entryFrame, mkF, argsToLocals, Value.category]; done) | rfl
def F6 (u_high_a0 : Int64) (u_low_a0 : Int64) (u_high_a1 : Int64) (u_low_a1 : Int64) : Int32 := (if (F7 u_high_a0 u_high_a1) = (0 : Int32) then (F7 u_low_a0 u_low_a1) else (F7 u_high_a0 u_high_a1))
set_option maxRecDepth 65536 in
set_option maxHeartbeats 40000000 in
theorem rm6 (l : Launch) (Z : State) (az : Array Value) (hw : ∀ d ∈ tables_1, d.before az Z = true) (ws : List Jvm.Cond) (a0 : Addr) (a1 : Addr) (u_high_a0 : Int64) (u_low_a0 : Int64) (u_high_a1 : Int64) (u_low_a1 : Int64) (h0 : Heap) (n0 : Nat) (Z0 : n0 ≤ h0.size) (Fp_high_a0 : Fld Z h0 a0 "com/example/tidewall/tidewall/Address" "high" "J" (.long u_high_a0)) (Fp_low_a0 : Fld Z h0 a0 "com/example/tidewall/tidewall/Address" "low" "J" (.long u_low_a0)) (Fp_high_a1 : Fld Z h0 a1 "com/example/tidewall/tidewall/Address" "high" "J" (.long u_high_a1)) (Fp_low_a1 : Fld Z h0 a1 "com/example/tidewall/tidewall/Address" "low" "J" (.long u_low_a1)) :
    MetFree l (⟨"com/example/tidewall/tidewall/Address", "compareTo", "(Lcom/example/tidewall/tidewall/Address;)I"⟩ : MethodName) (head1 (Jvm.Cond.code (⟨"com/example/tidewall/tidewall/Address", "compareTo", "(Lcom/example/tidewall/tidewall/Address;)I"⟩ : MethodName) prog_1_method_8_code 3 (some .int) :: ws) ({ frames := 2, cells := 0, slots := 0, locals := 30 } : Room)) (fun a U => a = #[(.ref a0), (.ref a1)] ∧ Z.Warmed39 U.vm ∧ U.heap = h0) (fun _ _ _ _ _ => True) (fun _ U o U' => ∃ v L, o = .returned v ∧ (QP (some (.int (F6 u_high_a0 u_low_a0 u_high_a1 u_low_a1))) h0 n0) v U'.heap L ∧ FrameEnd U o U' L ({ frames := 2, cells := 0, slots := 0, locals := 30 } : Room).cells ({ frames := 2, cells := 0, slots := 0, locals := 30 } : Room).slots) := by
  refine MetFree.of_bodySF (plainFor_of_name own_pn1) hisR ?_
  intro p e s m args below meth c s₁ Bd hml0 hP hK
  obtain ⟨rfl, hZ, hh⟩ := hP
  have hx := Bd.exec
  have hby := Bd.bytes
  have hml : c.maxLocals = 3 := hml0
  have hown : s.vm.findClass "com/example/tidewall/tidewall/Address" = some m.cls := findClass_of_methodNamed Bd.named
  have hnm := (name_of_methodNamed Bd.named Bd.method).1
  have hlk : meth.locks = false := BodyLoose.notSynchronized Bd
  have X0 : Stand p l e ({ frames := 2, cells := 0, slots := 0, locals := 30 } : Room) s m #[(.ref a0), (.ref a1)] below meth c s₁ [] 0 0 := Stand.of_body Bd
  have e0 : s₁.heap = h0 := by rw [← hh, Bd.state]; rfl
  have N0 := Fr.nil n0
  show Go p e below s (QP (some (.int (F6 u_high_a0 u_low_a0 u_high_a1 u_low_a1))) h0 n0) ({ frames := 2, cells := 0, slots := 0, locals := 30 } : Room).cells ({ frames := 2, cells := 0, slots := 0, locals := 30 } : Room).slots (s₁.setTop (entryFrame m #[(.ref a0), (.ref a1)] 3))
  refine Go.of (fun t k => castTop (ef_6 m a0 a1) k) ?_
  show Go p e below s _ _ _ (s₁.setTop (mkF m 0 #[.val (.ref a0), .val (.ref a1), .unset] []))
  unfold F6
  refine Go.of (fun t k => XS.aloadN X0.here hx rfl (hb hby d6_0) rfl rfl k) ?_
  show Go p e below s _ _ _ (s₁.setTop (mkF m 1 #[.val (.ref a0), .val (.ref a1), .unset] [(.ref a0)]))
  obtain ⟨T1, X1, e1, st1⟩ := getF X0 hx hZ hown (host := "") (Or.inl (hw _ (List.mem_of_getElem? (i := 14) rfl))) Via.refl e0 Fp_high_a0 (g := (mkF m 1 #[.val (.ref a0), .val (.ref a1), .unset] [(.ref a0)])) rfl rfl (hb hby d6_1)
  refine Go.of st1 ?_
  show Go p e below s _ _ _ (T1.setTop (mkF m 4 #[.val (.ref a0), .val (.ref a1), .unset] [(.long u_high_a0)]))
  refine Go.of (fun t k => XS.aloadN X1.here hx rfl (hb hby d6_4) rfl rfl k) ?_
  show Go p e below s _ _ _ (T1.setTop (mkF m 5 #[.val (.ref a0), .val (.ref a1), .unset] [(.ref a1), (.long u_high_a0)]))
  obtain ⟨T2, X2, e2, st2⟩ := getF X1 hx hZ hown (host := "") (Or.inl (hw _ (List.mem_of_getElem? (i := 14) rfl))) Via.refl e1 Fp_high_a1 (g := (mkF m 5 #[.val (.ref a0), .val (.ref a1), .unset] [(.ref a1), (.long u_high_a0)])) rfl rfl (hb hby d6_5)
  refine Go.of st2 ?_
  show Go p e below s _ _ _ (T2.setTop (mkF m 8 #[.val (.ref a0), .val (.ref a1), .unset] [(.long u_high_a1), (.long u_high_a0)]))
  obtain ⟨_, _, ⟨T3, L3, k3, n3⟩, -, X3, ⟨Lc3, hQ3, l3, y3, z3⟩, st3⟩ := Jvm.LawKit.callS X2 hx (y := (⟨"java/lang/Long", "compareUnsigned", "(JJ)I"⟩ : MethodName)) hown (mvT hZ (hw _ (List.mem_of_getElem? (i := 31) rfl))) (mvT hZ (hw _ (List.mem_of_getElem? (i := 32) rfl))) (mvT hZ (hw _ (List.mem_of_getElem? (i := 33) rfl))) (mvT hZ (hw _ (List.mem_of_getElem? (i := 34) rfl))) (by decide) (backOf (W := 0) (rm7 l Z az hw [] u_high_a0 u_high_a1 h0 n0 Z0) hZ (hw _ (List.mem_of_getElem? (i := 34) rfl)) (hw _ (List.mem_of_getElem? (i := 33) rfl)) (by decide) (by decide)) (g := (mkF m 8 #[.val (.ref a0), .val (.ref a1), .unset] [(.long u_high_a1), (.long u_high_a0)])) rfl (by rw [hml]; rfl) (argsL := [(.long u_high_a0), (.long u_high_a1)]) (rest := []) (lenOf own_pd1 rfl) rfl (by show 2 * 0 + _ ≤ _; exact Nat.le_of_eq rfl) (hb hby d6_8) (fun _ _ => ⟨rfl, e2, (by decide : 0 + 0 ≤ _), (by decide : 0 + 0 ≤ _)⟩)
  dsimp only [Pt.U, Pt.locs, Pt.cells, Pt.slots] at X3 l3 y3 z3 st3 hQ3
  subst l3 y3 z3
  obtain ⟨rfl, N3q, e3⟩ := hQ3
  have N3 := Fr.app N0 N3q
  refine Go.of st3 ?_
  show Go p e below s _ _ _ (T3.setTop (mkF m 11 #[.val (.ref a0), .val (.ref a1), .unset] [(.int (F7 u_high_a0 u_high_a1))]))
  refine Go.of (fun t k => XS.istoreN X3.here hx rfl (hb hby d6_11) rfl (l' := #[.val (.ref a0), .val (.ref a1), .val (.int (F7 u_high_a0 u_high_a1))]) rfl k) ?_
  show Go p e below s _ _ _ (T3.setTop (mkF m 12 #[.val (.ref a0), .val (.ref a1), .val (.int (F7 u_high_a0 u_high_a1))] []))
  refine Go.of (fun t k => XS.iloadN X3.here hx rfl (hb hby d6_12) rfl k) ?_
  show Go p e below s _ _ _ (T3.setTop (mkF m 13 #[.val (.ref a0), .val (.ref a1), .val (.int (F7 u_high_a0 u_high_a1))] [(.int (F7 u_high_a0 u_high_a1))]))
  by_cases hc13_4 : (F7 u_high_a0 u_high_a1) = (0 : Int32)
  · rewrite [if_pos hc13_4]
    refine Go.of (fun t k => XS.ifYes X3.here hx rfl (pc0 := 13) (pc' := 20) rfl (hb hby d6_13) rfl ((if0 _ _).trans (teq hc13_4).1) (by decide) (by decide) k) ?_
    show Go p e below s _ _ _ (T3.setTop (mkF m 20 #[.val (.ref a0), .val (.ref a1), .val (.int (F7 u_high_a0 u_high_a1))] []))
    refine Go.of (fun t k => XS.aloadN X3.here hx rfl (hb hby d6_20) rfl rfl k) ?_
    show Go p e below s _ _ _ (T3.setTop (mkF m 21 #[.val (.ref a0), .val (.ref a1), .val (.int (F7 u_high_a0 u_high_a1))] [(.ref a0)]))
    obtain ⟨T5, X5, e5, st5⟩ := getF X3 hx hZ hown (host := "") (Or.inl (hw _ (List.mem_of_getElem? (i := 16) rfl))) Via.refl e3 Fp_low_a0 (g := (mkF m 21 #[.val (.ref a0), .val (.ref a1), .val (.int (F7 u_high_a0 u_high_a1))] [(.ref a0)])) rfl rfl (hb hby d6_21)
    refine Go.of st5 ?_
    show Go p e below s _ _ _ (T5.setTop (mkF m 24 #[.val (.ref a0), .val (.ref a1), .val (.int (F7 u_high_a0 u_high_a1))] [(.long u_low_a0)]))
    refine Go.of (fun t k => XS.aloadN X5.here hx rfl (hb hby d6_24) rfl rfl k) ?_
    show Go p e below s _ _ _ (T5.setTop (mkF m 25 #[.val (.ref a0), .val (.ref a1), .val (.int (F7 u_high_a0 u_high_a1))] [(.ref a1), (.long u_low_a0)]))
    obtain ⟨T6, X6, e6, st6⟩ := getF X5 hx hZ hown (host := "") (Or.inl (hw _ (List.mem_of_getElem? (i := 16) rfl))) Via.refl e5 Fp_low_a1 (g := (mkF m 25 #[.val (.ref a0), .val (.ref a1), .val (.int (F7 u_high_a0 u_high_a1))] [(.ref a1), (.long u_low_a0)])) rfl rfl (hb hby d6_25)
    refine Go.of st6 ?_
    show Go p e below s _ _ _ (T6.setTop (mkF m 28 #[.val (.ref a0), .val (.ref a1), .val (.int (F7 u_high_a0 u_high_a1))] [(.long u_low_a1), (.long u_low_a0)]))
    obtain ⟨_, _, ⟨T7, L7, k7, n7⟩, -, X7, ⟨Lc7, hQ7, l7, y7, z7⟩, st7⟩ := Jvm.LawKit.callS X6 hx (y := (⟨"java/lang/Long", "compareUnsigned", "(JJ)I"⟩ : MethodName)) hown (mvT hZ (hw _ (List.mem_of_getElem? (i := 31) rfl))) (mvT hZ (hw _ (List.mem_of_getElem? (i := 32) rfl))) (mvT hZ (hw _ (List.mem_of_getElem? (i := 33) rfl))) (mvT hZ (hw _ (List.mem_of_getElem? (i := 34) rfl))) (by decide) (backOf (W := 0) (rm7 l Z az hw [] u_low_a0 u_low_a1 h0 n0 Z0) hZ (hw _ (List.mem_of_getElem? (i := 34) rfl)) (hw _ (List.mem_of_getElem? (i := 33) rfl)) (by decide) (by decide)) (g := (mkF m 28 #[.val (.ref a0), .val (.ref a1), .val (.int (F7 u_high_a0 u_high_a1))] [(.long u_low_a1), (.long u_low_a0)])) rfl (by rw [hml]; rfl) (argsL := [(.long u_low_a0), (.long u_low_a1)]) (rest := []) (lenOf own_pd1 rfl) rfl (by show 2 * 0 + _ ≤ _; exact Nat.le_of_eq rfl) (hb hby d6_28) (fun _ _ => ⟨rfl, e6, (by decide : 0 + 0 ≤ _), (by decide : 0 + 0 ≤ _)⟩)
    dsimp only [Pt.U, Pt.locs, Pt.cells, Pt.slots] at X7 l7 y7 z7 st7 hQ7
    subst l7 y7 z7
    obtain ⟨rfl, N7q, e7⟩ := hQ7
    have N7 := Fr.app N3 N7q
    refine Go.of st7 ?_
    show Go p e below s _ _ _ (T7.setTop (mkF m 31 #[.val (.ref a0), .val (.ref a1), .val (.int (F7 u_high_a0 u_high_a1))] [(.int (F7 u_low_a0 u_low_a1))]))
    exact Go.ret X7 (some (.int (F7 u_low_a0 u_low_a1))) (fun h => by rw [Bd.returns] at h; cases h) hlk ⟨rfl, N7, e7⟩ (by decide) (by decide) (fun fs hr => (retI X7 hx Bd.returns (hb hby d6_31) hr))
  · rewrite [if_neg hc13_4]
    refine Go.of (fun t k => XS.ifNo X3.here hx rfl (hb hby d6_13) rfl ((if0 _ _).trans (feq hc13_4).1) k) ?_
    show Go p e below s _ _ _ (T3.setTop (mkF m 16 #[.val (.ref a0), .val (.ref a1), .val (.int (F7 u_high_a0 u_high_a1))] []))
    refine Go.of (fun t k => XS.iloadN X3.here hx rfl (hb hby d6_16) rfl k) ?_
    show Go p e below s _ _ _ (T3.setTop (mkF m 17 #[.val (.ref a0), .val (.ref a1), .val (.int (F7 u_high_a0 u_high_a1))] [(.int (F7 u_high_a0 u_high_a1))]))
    refine Go.of (fun t k => XS.goto X3.here hx rfl (pc0 := 17) (pc' := 31) rfl (hb hby d6_17) (by decide) (by decide) k) ?_
    show Go p e below s _ _ _ (T3.setTop (mkF m 31 #[.val (.ref a0), .val (.ref a1), .val (.int (F7 u_high_a0 u_high_a1))] [(.int (F7 u_high_a0 u_high_a1))]))
    exact Go.ret X3 (some (.int (F7 u_high_a0 u_high_a1))) (fun h => by rw [Bd.returns] at h; cases h) hlk ⟨rfl, N3, e3⟩ (by decide) (by decide) (fun fs hr => (retI X3 hx Bd.returns (hb hby d6_31) hr))
theorem own_pd2 : parseMethodDescriptor "(JJ)V" = some ⟨[.long, .long], none⟩ := by decide +kernel
theorem own_pd3 : parseMethodDescriptor "(JJJJ)I" = some ⟨[.long, .long, .long, .long], some .int⟩ := by decide +kernel
theorem own_pd4 : parseMethodDescriptor "(Lcom/example/tidewall/tidewall/Address;)I" = some ⟨[(.object "com/example/tidewall/tidewall/Address")], some .int⟩ := by decide +kernel
theorem own_pd5 : parseMethodDescriptor "(I)I" = some ⟨[.int], some .int⟩ := by decide +kernel
theorem ef_0 (m : MethodId) (q0 : Int64) (q1 : Int64) (q2 : Int64) (q3 : Int64) (p4 : Int32) : entryFrame m #[(.long q0), (.long q1), (.long q2), (.long q3), (.int p4)] maxLocals = mkF m 0 #[.val (.long q0), .second, .val (.long q1), .second, .val (.long q2), .second, .val (.long q3), .second, .val (.int p4), .unset, .unset, .unset, .unset, .unset, .unset, .unset, .unset, .unset] [] := by first | (simp [entryFrame, mkF, argsToLocals, Value.category, maxLocals]; done) | rfl
def F0_28 (q0 : Int64) (q1 : Int64) (w0_13 : Int64) (w0_28 : Int64) : Int32 := (if (F9 (F6 q0 q1 w0_13 w0_28)) = (F4 q0 q1 w0_13 w0_28) then (if (F9 (F6 w0_13 w0_28 q0 q1)) = (-(F4 q0 q1 w0_13 w0_28)) then (1 : Int32) else (0 : Int32)) else (0 : Int32))
def F0_13 (q0 : Int64) (q1 : Int64) (q3 : Int64) (p4 : Int32) (w0_13 : Int64) : Int32 := (if (p4 &&& (2 : Int32)) = (0 : Int32) then (F0_28 q0 q1 w0_13 q3) else (F0_28 q0 q1 w0_13 q1))
def F0 (q0 : Int64) (q1 : Int64) (q2 : Int64) (q3 : Int64) (p4 : Int32) : Int32 := (if (p4 &&& (1 : Int32)) = (0 : Int32) then (F0_13 q0 q1 q3 p4 q2) else (F0_13 q0 q1 q3 p4 q0))
set_option maxRecDepth 65536 in
set_option maxHeartbeats 40000000 in
theorem rm0 (l : Launch) (Z : State) (az : Array Value) (hw : ∀ d ∈ tables_1, d.before az Z = true) (ws : List Jvm.Cond) (q0 : Int64) (q1 : Int64) (q2 : Int64) (q3 : Int64) (p4 : Int32)  (h0 : Heap) (n0 : Nat) (Z0 : n0 ≤ h0.size) :
    MetFree l x (head1 (Jvm.Cond.code x code maxLocals ret :: ws) room_1) (fun a U => a = #[(.long q0), (.long q1), (.long q2), (.long q3), (.int p4)] ∧ Z.Warmed39 U.vm ∧ U.heap = h0) (fun _ _ _ _ _ => True) (fun _ U o U' => ∃ v L, o = .returned v ∧ (QL (some (.int (F0 q0 q1 q2 q3 p4))) n0) v U'.heap L ∧ FrameEnd U o U' L room_1.cells room_1.slots) := by
  refine MetFree.of_bodySF (plainFor_of_name own_pn2) hisR ?_
  intro p e s m args below meth c s₁ Bd hml0 hP hK
  obtain ⟨rfl, hZ, hh⟩ := hP
  have hx := Bd.exec
  have hby := Bd.bytes
  have hml : c.maxLocals = 18 := hml0
  have hown : s.vm.findClass "com/example/tidewall/tidewall/AddressCompareToPinLaw" = some m.cls := findClass_of_methodNamed Bd.named
  have hnm := (name_of_methodNamed Bd.named Bd.method).1
  have hlk : meth.locks = false := BodyLoose.notSynchronized Bd
  have X0 : Stand p l e room_1 s m #[(.long q0), (.long q1), (.long q2), (.long q3), (.int p4)] below meth c s₁ [] 0 0 := Stand.of_body Bd
  have e0 : s₁.heap = h0 := by rw [← hh, Bd.state]; rfl
  have N0 := Fr.nil n0
  show Go p e below s (QL (some (.int (F0 q0 q1 q2 q3 p4))) n0) room_1.cells room_1.slots (s₁.setTop (entryFrame m #[(.long q0), (.long q1), (.long q2), (.long q3), (.int p4)] maxLocals))
  refine Go.of (fun t k => castTop (ef_0 m q0 q1 q2 q3 p4) k) ?_
  show Go p e below s _ _ _ (s₁.setTop (mkF m 0 #[.val (.long q0), .second, .val (.long q1), .second, .val (.long q2), .second, .val (.long q3), .second, .val (.int p4), .unset, .unset, .unset, .unset, .unset, .unset, .unset, .unset, .unset] []))
  unfold F0
  refine Go.of (fun t k => XS.iload X0.here hx rfl (hb hby at_0) rfl k) ?_
  show Go p e below s _ _ _ (s₁.setTop (mkF m 2 #[.val (.long q0), .second, .val (.long q1), .second, .val (.long q2), .second, .val (.long q3), .second, .val (.int p4), .unset, .unset, .unset, .unset, .unset, .unset, .unset, .unset, .unset] [(.int p4)]))
  refine Go.of (fun t k => XS.iconst X0.here hx rfl (hb hby at_2) k) ?_
  show Go p e below s _ _ _ (s₁.setTop (mkF m 3 #[.val (.long q0), .second, .val (.long q1), .second, .val (.long q2), .second, .val (.long q3), .second, .val (.int p4), .unset, .unset, .unset, .unset, .unset, .unset, .unset, .unset, .unset] [(.int (1 : Int32)), (.int p4)]))
  refine Go.of (fun t k => XS.iand X0.here hx rfl (hb hby at_3) rfl k) ?_
  show Go p e below s _ _ _ (s₁.setTop (mkF m 4 #[.val (.long q0), .second, .val (.long q1), .second, .val (.long q2), .second, .val (.long q3), .second, .val (.int p4), .unset, .unset, .unset, .unset, .unset, .unset, .unset, .unset, .unset] [(.int (p4 &&& (1 : Int32)))]))
  have jn13 : ∀ (w0_13 : Int64) (T_13 : State) (l_13 : List Loc) (X_13 : Stand p l e room_1 s m #[(.long q0), (.long q1), (.long q2), (.long q3), (.int p4)] below meth c T_13 l_13 0 0) (e_13 : T_13.heap = h0) (N_13 : Fr n0 l_13), Go p e below s (QL (some (.int (F0_13 q0 q1 q3 p4 w0_13))) n0) room_1.cells room_1.slots (T_13.setTop (mkF m 13 #[.val (.long q0), .second, .val (.long q1), .second, .val (.long q2), .second, .val (.long q3), .second, .val (.int p4), .unset, .unset, .unset, .unset, .unset, .unset, .unset, .unset, .unset] [(.long w0_13)])) := by
    intro w0_13 T_13 l_13 X_13 e_13 N_13
    unfold F0_13
    refine Go.of (fun t k => XS.lstore X_13.here hx rfl (hb hby at_13) rfl (l' := #[.val (.long q0), .second, .val (.long q1), .second, .val (.long q2), .second, .val (.long q3), .second, .val (.int p4), .val (.long w0_13), .second, .unset, .unset, .unset, .unset, .unset, .unset, .unset]) rfl k) ?_
    show Go p e below s _ _ _ (T_13.setTop (mkF m 15 #[.val (.long q0), .second, .val (.long q1), .second, .val (.long q2), .second, .val (.long q3), .second, .val (.int p4), .val (.long w0_13), .second, .unset, .unset, .unset, .unset, .unset, .unset, .unset] []))
    refine Go.of (fun t k => XS.iload X_13.here hx rfl (hb hby at_15) rfl k) ?_
    show Go p e below s _ _ _ (T_13.setTop (mkF m 17 #[.val (.long q0), .second, .val (.long q1), .second, .val (.long q2), .second, .val (.long q3), .second, .val (.int p4), .val (.long w0_13), .second, .unset, .unset, .unset, .unset, .unset, .unset, .unset] [(.int p4)]))
    refine Go.of (fun t k => XS.iconst X_13.here hx rfl (hb hby at_17) k) ?_
    show Go p e below s _ _ _ (T_13.setTop (mkF m 18 #[.val (.long q0), .second, .val (.long q1), .second, .val (.long q2), .second, .val (.long q3), .second, .val (.int p4), .val (.long w0_13), .second, .unset, .unset, .unset, .unset, .unset, .unset, .unset] [(.int (2 : Int32)), (.int p4)]))
    refine Go.of (fun t k => XS.iand X_13.here hx rfl (hb hby at_18) rfl k) ?_
    show Go p e below s _ _ _ (T_13.setTop (mkF m 19 #[.val (.long q0), .second, .val (.long q1), .second, .val (.long q2), .second, .val (.long q3), .second, .val (.int p4), .val (.long w0_13), .second, .unset, .unset, .unset, .unset, .unset, .unset, .unset] [(.int (p4 &&& (2 : Int32)))]))
    have jn28 : ∀ (w0_28 : Int64) (T_28 : State) (l_28 : List Loc) (X_28 : Stand p l e room_1 s m #[(.long q0), (.long q1), (.long q2), (.long q3), (.int p4)] below meth c T_28 l_28 0 0) (e_28 : T_28.heap = h0) (N_28 : Fr n0 l_28), Go p e below s (QL (some (.int (F0_28 q0 q1 w0_13 w0_28))) n0) room_1.cells room_1.slots (T_28.setTop (mkF m 28 #[.val (.long q0), .second, .val (.long q1), .second, .val (.long q2), .second, .val (.long q3), .second, .val (.int p4), .val (.long w0_13), .second, .unset, .unset, .unset, .unset, .unset, .unset, .unset] [(.long w0_28)])) := by
      intro w0_28 T_28 l_28 X_28 e_28 N_28
      unfold F0_28
      refine Go.of (fun t k => XS.lstore X_28.here hx rfl (hb hby at_28) rfl (l' := #[.val (.long q0), .second, .val (.long q1), .second, .val (.long q2), .second, .val (.long q3), .second, .val (.int p4), .val (.long w0_13), .second, .val (.long w0_28), .second, .unset, .unset, .unset, .unset, .unset]) rfl k) ?_
      show Go p e below s _ _ _ (T_28.setTop (mkF m 30 #[.val (.long q0), .second, .val (.long q1), .second, .val (.long q2), .second, .val (.long q3), .second, .val (.int p4), .val (.long w0_13), .second, .val (.long w0_28), .second, .unset, .unset, .unset, .unset, .unset] []))
      obtain ⟨T1, h1, X1, e1, E1, A1, D1, -, st1⟩ := newO X_28 hx hZ hown (hw _ (List.mem_of_getElem? (i := 0) rfl)) (hw _ (List.mem_of_getElem? (i := 1) rfl)) (hw _ (List.mem_of_getElem? (i := 2) rfl)) e_28 (g := (mkF m 30 #[.val (.long q0), .second, .val (.long q1), .second, .val (.long q2), .second, .val (.long q3), .second, .val (.int p4), .val (.long w0_13), .second, .val (.long w0_28), .second, .unset, .unset, .unset, .unset, .unset] [])) rfl (hb hby at_30) (by decide) (by decide)
      obtain ⟨b1, ga1⟩ : ∃ z, z = h0.size := ⟨_, rfl⟩
      rw [← ga1] at A1 D1 st1
      have g_b1 : n0 ≤ b1 := Nat.le_trans Z0 (Nat.le_of_eq ga1.symm)
      have sz_b1 : h0.size ≤ b1 := Nat.le_trans (Keep.refl h0 []).1 (Nat.le_of_eq ga1.symm)
      have f2 : Fld Z h1 b1 "com/example/tidewall/tidewall/Address" "high" "J" (.long (0 : Int64)) := D1 (Or.inr (hw _ (List.mem_of_getElem? (i := 15) rfl))) (ty := .long) (by decide)
      have f3 : Fld Z h1 b1 "com/example/tidewall/tidewall/Address" "low" "J" (.long (0 : Int64)) := D1 (Or.inr (hw _ (List.mem_of_getElem? (i := 17) rfl))) (ty := .long) (by decide)
      have K1 : Keep h0 h1 [] := Keep.ext (Keep.refl h0 []) E1
      refine Go.of st1 ?_
      show Go p e below s _ _ _ (T1.setTop (mkF m 33 #[.val (.long q0), .second, .val (.long q1), .second, .val (.long q2), .second, .val (.long q3), .second, .val (.int p4), .val (.long w0_13), .second, .val (.long w0_28), .second, .unset, .unset, .unset, .unset, .unset] [(.ref b1)]))
      refine Go.of (fun t k => XS.dup X1.here hx rfl (hb hby at_33) rfl rfl k) ?_
      show Go p e below s _ _ _ (T1.setTop (mkF m 34 #[.val (.long q0), .second, .val (.long q1), .second, .val (.long q2), .second, .val (.long q3), .second, .val (.int p4), .val (.long w0_13), .second, .val (.long w0_28), .second, .unset, .unset, .unset, .unset, .unset] [(.ref b1), (.ref b1)]))
      refine Go.of (fun t k => XS.lloadN X1.here hx rfl (hb hby at_34) rfl k) ?_
      show Go p e below s _ _ _ (T1.setTop (mkF m 35 #[.val (.long q0), .second, .val (.long q1), .second, .val (.long q2), .second, .val (.long q3), .second, .val (.int p4), .val (.long w0_13), .second, .val (.long w0_28), .second, .unset, .unset, .unset, .unset, .unset] [(.long q0), (.ref b1), (.ref b1)]))
      refine Go.of (fun t k => XS.lloadN X1.here hx rfl (hb hby at_35) rfl k) ?_
      show Go p e below s _ _ _ (T1.setTop (mkF m 36 #[.val (.long q0), .second, .val (.long q1), .second, .val (.long q2), .second, .val (.long q3), .second, .val (.int p4), .val (.long w0_13), .second, .val (.long w0_28), .second, .unset, .unset, .unset, .unset, .unset] [(.long q1), (.long q0), (.ref b1), (.ref b1)]))
      obtain ⟨_, _, ⟨T4, L4, k4, n4⟩, -, X4, ⟨Lc4, hQ4, l4, y4, z4⟩, st4⟩ := X1.specialBack hx (y := (⟨"com/example/tidewall/tidewall/Address", "<init>", "(JJ)V"⟩ : MethodName)) rfl hown (mvT hZ (hw _ (List.mem_of_getElem? (i := 3) rfl))) (mvT hZ (hw _ (List.mem_of_getElem? (i := 4) rfl))) (mvT hZ (hw _ (List.mem_of_getElem? (i := 5) rfl))) (by decide) (backOf (W := 1) (rm1 l Z az hw [] b1 q0 q1 (.long (0 : Int64)) (.long (0 : Int64)) h1 n0 (Nat.le_trans Z0 K1.1) A1 f2 f3 g_b1) hZ (hw _ (List.mem_of_getElem? (i := 5) rfl)) (hw _ (List.mem_of_getElem? (i := 2) rfl)) (by decide) (by decide)) (g := (mkF m 36 #[.val (.long q0), .second, .val (.long q1), .second, .val (.long q2), .second, .val (.long q3), .second, .val (.int p4), .val (.long w0_13), .second, .val (.long w0_28), .second, .unset, .unset, .unset, .unset, .unset] [(.long q1), (.long q0), (.ref b1), (.ref b1)])) rfl (by rw [hml]; rfl) (Steps.refl _) (a := b1) (argsL := [(.long q0), (.long q1)]) (rest := [(.ref b1)]) (lenOf own_pd2 rfl) rfl (by show 2 * 0 + _ ≤ _; exact Nat.le_of_eq rfl) (hb hby at_36) (fun _ _ => ⟨rfl, e1, (by decide : 1 + 0 ≤ _), (by decide : 2 + 0 ≤ _)⟩)
      dsimp only [Pt.U, Pt.locs, Pt.cells, Pt.slots] at X4 l4 y4 z4 st4 hQ4
      subst l4 y4 z4
      obtain ⟨rfl, N4q, Kq4, f5, f6, f7⟩ := hQ4
      have N4 := Fr.app N_28 N4q
      have K4 : Keep h0 T4.heap [] := Keep.trans K1 Kq4 (allS (Or.inr sz_b1) all0)
      refine Go.of (fun t k => st4.trans k) ?_
      show Go p e below s _ _ _ (T4.setTop (mkF m 39 #[.val (.long q0), .second, .val (.long q1), .second, .val (.long q2), .second, .val (.long q3), .second, .val (.int p4), .val (.long w0_13), .second, .val (.long w0_28), .second, .unset, .unset, .unset, .unset, .unset] [(.ref b1)]))
      refine Go.of (fun t k => XS.astore X4.here hx rfl (hb hby at_39) rfl rfl (l' := #[.val (.long q0), .second, .val (.long q1), .second, .val (.long q2), .second, .val (.long q3), .second, .val (.int p4), .val (.long w0_13), .second, .val (.long w0_28), .second, .val (.ref b1), .unset, .unset, .unset, .unset]) rfl k) ?_
      show Go p e below s _ _ _ (T4.setTop (mkF m 41 #[.val (.long q0), .second, .val (.long q1), .second, .val (.long q2), .second, .val (.long q3), .second, .val (.int p4), .val (.long w0_13), .second, .val (.long w0_28), .second, .val (.ref b1), .unset, .unset, .unset, .unset] []))
      obtain ⟨T8, h8, X8, e8, E8, A8, D8, -, st8⟩ := newO X4 hx hZ hown (hw _ (List.mem_of_getElem? (i := 0) rfl)) (hw _ (List.mem_of_getElem? (i := 1) rfl)) (hw _ (List.mem_of_getElem? (i := 2) rfl)) rfl (g := (mkF m 41 #[.val (.long q0), .second, .val (.long q1), .second, .val (.long q2), .second, .val (.long q3), .second, .val (.int p4), .val (.long w0_13), .second, .val (.long w0_28), .second, .val (.ref b1), .unset, .unset, .unset, .unset] [])) rfl (hb hby at_41) (by decide) (by decide)
      obtain ⟨b8, ga8⟩ : ∃ z, z = T4.heap.size := ⟨_, rfl⟩
      rw [← ga8] at A8 D8 st8
      have g_b8 : n0 ≤ b8 := Nat.le_trans (Nat.le_trans Z0 K4.1) (Nat.le_of_eq ga8.symm)
      have sz_b8 : h0.size ≤ b8 := Nat.le_trans K4.1 (Nat.le_of_eq ga8.symm)
      have ne9 : b1 ≠ b8 := Nat.ne_of_lt (Nat.lt_of_lt_of_le f5.lt (Nat.le_of_eq ga8.symm))
      have f10 := f5.ext E8
      have f11 := f6.ext E8
      have f12 := f7.ext E8
      have f13 : Fld Z h8 b8 "com/example/tidewall/tidewall/Address" "high" "J" (.long (0 : Int64)) := D8 (Or.inr (hw _ (List.mem_of_getElem? (i := 15) rfl))) (ty := .long) (by decide)
      have f14 : Fld Z h8 b8 "com/example/tidewall/tidewall/Address" "low" "J" (.long (0 : Int64)) := D8 (Or.inr (hw _ (List.mem_of_getElem? (i := 17) rfl))) (ty := .long) (by decide)
      have K8 : Keep h0 h8 [] := Keep.ext K4 E8
      refine Go.of st8 ?_
      show Go p e below s _ _ _ (T8.setTop (mkF m 44 #[.val (.long q0), .second, .val (.long q1), .second, .val (.long q2), .second, .val (.long q3), .second, .val (.int p4), .val (.long w0_13), .second, .val (.long w0_28), .second, .val (.ref b1), .unset, .unset, .unset, .unset] [(.ref b8)]))
      refine Go.of (fun t k => XS.dup X8.here hx rfl (hb hby at_44) rfl rfl k) ?_
      show Go p e below s _ _ _ (T8.setTop (mkF m 45 #[.val (.long q0), .second, .val (.long q1), .second, .val (.long q2), .second, .val (.long q3), .second, .val (.int p4), .val (.long w0_13), .second, .val (.long w0_28), .second, .val (.ref b1), .unset, .unset, .unset, .unset] [(.ref b8), (.ref b8)]))
      refine Go.of (fun t k => XS.lload X8.here hx rfl (hb hby at_45) rfl k) ?_
      show Go p e below s _ _ _ (T8.setTop (mkF m 47 #[.val (.long q0), .second, .val (.long q1), .second, .val (.long q2), .second, .val (.long q3), .second, .val (.int p4), .val (.long w0_13), .second, .val (.long w0_28), .second, .val (.ref b1), .unset, .unset, .unset, .unset] [(.long w0_13), (.ref b8), (.ref b8)]))
      refine Go.of (fun t k => XS.lload X8.here hx rfl (hb hby at_47) rfl k) ?_
      show Go p e below s _ _ _ (T8.setTop (mkF m 49 #[.val (.long q0), .second, .val (.long q1), .second, .val (.long q2), .second, .val (.long q3), .second, .val (.int p4), .val (.long w0_13), .second, .val (.long w0_28), .second, .val (.ref b1), .unset, .unset, .unset, .unset] [(.long w0_28), (.long w0_13), (.ref b8), (.ref b8)]))
      obtain ⟨_, _, ⟨T15, L15, k15, n15⟩, -, X15, ⟨Lc15, hQ15, l15, y15, z15⟩, st15⟩ := X8.specialBack hx (y := (⟨"com/example/tidewall/tidewall/Address", "<init>", "(JJ)V"⟩ : MethodName)) rfl hown (mvT hZ (hw _ (List.mem_of_getElem? (i := 3) rfl))) (mvT hZ (hw _ (List.mem_of_getElem? (i := 4) rfl))) (mvT hZ (hw _ (List.mem_of_getElem? (i := 5) rfl))) (by decide) (backOf (W := 1) (rm1 l Z az hw [] b8 w0_13 w0_28 (.long (0 : Int64)) (.long (0 : Int64)) h8 n0 (Nat.le_trans Z0 K8.1) A8 f13 f14 g_b8) hZ (hw _ (List.mem_of_getElem? (i := 5) rfl)) (hw _ (List.mem_of_getElem? (i := 2) rfl)) (by decide) (by decide)) (g := (mkF m 49 #[.val (.long q0), .second, .val (.long q1), .second, .val (.long q2), .second, .val (.long q3), .second, .val (.int p4), .val (.long w0_13), .second, .val (.long w0_28), .second, .val (.ref b1), .unset, .unset, .unset, .unset] [(.long w0_28), (.long w0_13), (.ref b8), (.ref b8)])) rfl (by rw [hml]; rfl) (Steps.refl _) (a := b8) (argsL := [(.long w0_13), (.long w0_28)]) (rest := [(.ref b8)]) (lenOf own_pd2 rfl) rfl (by show 2 * 0 + _ ≤ _; exact Nat.le_of_eq rfl) (hb hby at_49) (fun _ _ => ⟨rfl, e8, (by decide : 2 + 0 ≤ _), (by decide : 4 + 0 ≤ _)⟩)
      dsimp only [Pt.U, Pt.locs, Pt.cells, Pt.slots] at X15 l15 y15 z15 st15 hQ15
      subst l15 y15 z15
      obtain ⟨rfl, N15q, Kq15, f16, f17, f18⟩ := hQ15
      have N15 := Fr.app N4 N15q
      have f19 := f10.keep Kq15
      have f20 := f11.keep Kq15 (ninS ne9 nin0)
      have f21 := f12.keep Kq15 (ninS ne9 nin0)
      have K15 : Keep h0 T15.heap [] := Keep.trans K8 Kq15 (allS (Or.inr sz_b8) all0)
      refine Go.of (fun t k => st15.trans k) ?_
      show Go p e below s _ _ _ (T15.setTop (mkF m 52 #[.val (.long q0), .second, .val (.long q1), .second, .val (.long q2), .second, .val (.long q3), .second, .val (.int p4), .val (.long w0_13), .second, .val (.long w0_28), .second, .val (.ref b1), .unset, .unset, .unset, .unset] [(.ref b8)]))
      refine Go.of (fun t k => XS.astore X15.here hx rfl (hb hby at_52) rfl rfl (l' := #[.val (.long q0), .second, .val (.long q1), .second, .val (.long q2), .second, .val (.long q3), .second, .val (.int p4), .val (.long w0_13), .second, .val (.long w0_28), .second, .val (.ref b1), .val (.ref b8), .unset, .unset, .unset]) rfl k) ?_
      show Go p e below s _ _ _ (T15.setTop (mkF m 54 #[.val (.long q0), .second, .val (.long q1), .second, .val (.long q2), .second, .val (.long q3), .second, .val (.int p4), .val (.long w0_13), .second, .val (.long w0_28), .second, .val (.ref b1), .val (.ref b8), .unset, .unset, .unset] []))
      refine Go.of (fun t k => XS.lloadN X15.here hx rfl (hb hby at_54) rfl k) ?_
      show Go p e below s _ _ _ (T15.setTop (mkF m 55 #[.val (.long q0), .second, .val (.long q1), .second, .val (.long q2), .second, .val (.long q3), .second, .val (.int p4), .val (.long w0_13), .second, .val (.long w0_28), .second, .val (.ref b1), .val (.ref b8), .unset, .unset, .unset] [(.long q0)]))
      refine Go.of (fun t k => XS.lloadN X15.here hx rfl (hb hby at_55) rfl k) ?_
      show Go p e below s _ _ _ (T15.setTop (mkF m 56 #[.val (.long q0), .second, .val (.long q1), .second, .val (.long q2), .second, .val (.long q3), .second, .val (.int p4), .val (.long w0_13), .second, .val (.long w0_28), .second, .val (.ref b1), .val (.ref b8), .unset, .unset, .unset] [(.long q1), (.long q0)]))
      refine Go.of (fun t k => XS.lload X15.here hx rfl (hb hby at_56) rfl k) ?_
      show Go p e below s _ _ _ (T15.setTop (mkF m 58 #[.val (.long q0), .second, .val (.long q1), .second, .val (.long q2), .second, .val (.long q3), .second, .val (.int p4), .val (.long w0_13), .second, .val (.long w0_28), .second, .val (.ref b1), .val (.ref b8), .unset, .unset, .unset] [(.long w0_13), (.long q1), (.long q0)]))
      refine Go.of (fun t k => XS.lload X15.here hx rfl (hb hby at_58) rfl k) ?_
      show Go p e below s _ _ _ (T15.setTop (mkF m 60 #[.val (.long q0), .second, .val (.long q1), .second, .val (.long q2), .second, .val (.long q3), .second, .val (.int p4), .val (.long w0_13), .second, .val (.long w0_28), .second, .val (.ref b1), .val (.ref b8), .unset, .unset, .unset] [(.long w0_28), (.long w0_13), (.long q1), (.long q0)]))
      obtain ⟨_, _, ⟨T22, L22, k22, n22⟩, -, X22, ⟨Lc22, hQ22, l22, y22, z22⟩, st22⟩ := Jvm.LawKit.callS X15 hx (y := (⟨"com/example/tidewall/tidewall/AddressCompareToPinLaw", "expectedSign", "(JJJJ)I"⟩ : MethodName)) hown (mvT hZ (hw _ (List.mem_of_getElem? (i := 18) rfl))) (mvT hZ (hw _ (List.mem_of_getElem? (i := 19) rfl))) (mvT hZ (hw _ (List.mem_of_getElem? (i := 20) rfl))) (mvT hZ (hw _ (List.mem_of_getElem? (i := 21) rfl))) (by decide) (backOf (W := 0) (rm4 l Z az hw [] q0 q1 w0_13 w0_28 T15.heap n0 (Nat.le_trans Z0 K15.1)) hZ (hw _ (List.mem_of_getElem? (i := 21) rfl)) (hw _ (List.mem_of_getElem? (i := 20) rfl)) (by decide) (by decide)) (g := (mkF m 60 #[.val (.long q0), .second, .val (.long q1), .second, .val (.long q2), .second, .val (.long q3), .second, .val (.int p4), .val (.long w0_13), .second, .val (.long w0_28), .second, .val (.ref b1), .val (.ref b8), .unset, .unset, .unset] [(.long w0_28), (.long w0_13), (.long q1), (.long q0)])) rfl (by rw [hml]; rfl) (argsL := [(.long q0), (.long q1), (.long w0_13), (.long w0_28)]) (rest := []) (lenOf own_pd3 rfl) rfl (by show 2 * 0 + _ ≤ _; exact Nat.le_of_eq rfl) (hb hby at_60) (fun _ _ => ⟨rfl, rfl, (by decide : 2 + 0 ≤ _), (by decide : 4 + 0 ≤ _)⟩)
      dsimp only [Pt.U, Pt.locs, Pt.cells, Pt.slots] at X22 l22 y22 z22 st22 hQ22
      subst l22 y22 z22
      obtain ⟨rfl, N22q, e22⟩ := hQ22
      have N22 := Fr.app N15 N22q
      refine Go.of st22 ?_
      show Go p e below s _ _ _ (T22.setTop (mkF m 63 #[.val (.long q0), .second, .val (.long q1), .second, .val (.long q2), .second, .val (.long q3), .second, .val (.int p4), .val (.long w0_13), .second, .val (.long w0_28), .second, .val (.ref b1), .val (.ref b8), .unset, .unset, .unset] [(.int (F4 q0 q1 w0_13 w0_28))]))
      refine Go.of (fun t k => XS.istore X22.here hx rfl (hb hby at_63) rfl (l' := #[.val (.long q0), .second, .val (.long q1), .second, .val (.long q2), .second, .val (.long q3), .second, .val (.int p4), .val (.long w0_13), .second, .val (.long w0_28), .second, .val (.ref b1), .val (.ref b8), .val (.int (F4 q0 q1 w0_13 w0_28)), .unset, .unset]) rfl k) ?_
      show Go p e below s _ _ _ (T22.setTop (mkF m 65 #[.val (.long q0), .second, .val (.long q1), .second, .val (.long q2), .second, .val (.long q3), .second, .val (.int p4), .val (.long w0_13), .second, .val (.long w0_28), .second, .val (.ref b1), .val (.ref b8), .val (.int (F4 q0 q1 w0_13 w0_28)), .unset, .unset] []))
      refine Go.of (fun t k => XS.aload X22.here hx rfl (hb hby at_65) rfl rfl k) ?_
      show Go p e below s _ _ _ (T22.setTop (mkF m 67 #[.val (.long q0), .second, .val (.long q1), .second, .val (.long q2), .second, .val (.long q3), .second, .val (.int p4), .val (.long w0_13), .second, .val (.long w0_28), .second, .val (.ref b1), .val (.ref b8), .val (.int (F4 q0 q1 w0_13 w0_28)), .unset, .unset] [(.ref b1)]))
      refine Go.of (fun t k => XS.aload X22.here hx rfl (hb hby at_67) rfl rfl k) ?_
      show Go p e below s _ _ _ (T22.setTop (mkF m 69 #[.val (.long q0), .second, .val (.long q1), .second, .val (.long q2), .second, .val (.long q3), .second, .val (.int p4), .val (.long w0_13), .second, .val (.long w0_28), .second, .val (.ref b1), .val (.ref b8), .val (.int (F4 q0 q1 w0_13 w0_28)), .unset, .unset] [(.ref b8), (.ref b1)]))
      obtain ⟨cq23, kq23, q23a, q23b, q23c⟩ := isOf hZ e22 f19
      obtain ⟨_, _, ⟨T23, L23, k23, n23⟩, -, X23, ⟨Lc23, hQ23, l23, y23, z23⟩, st23⟩ := X22.virtualBack hx (y := (⟨"com/example/tidewall/tidewall/Address", "compareTo", "(Lcom/example/tidewall/tidewall/Address;)I"⟩ : MethodName)) (z := (⟨"com/example/tidewall/tidewall/Address", "compareTo", "(Lcom/example/tidewall/tidewall/Address;)I"⟩ : MethodName)) hown (mvT hZ (hw _ (List.mem_of_getElem? (i := 26) rfl))) (mvT hZ (hw _ (List.mem_of_getElem? (i := 27) rfl))) (notFace_of_selects (args := #[]) (mvT hZ (hw _ (List.mem_of_getElem? (i := 29) rfl)))) (mvT hZ (hw _ (List.mem_of_getElem? (i := 29) rfl))) (mvT hZ (hw _ (List.mem_of_getElem? (i := 28) rfl))) (by decide) (backOf (W := 0) (rm6 l Z az hw [] b1 b8 q0 q1 w0_13 w0_28 T15.heap n0 (Nat.le_trans Z0 K15.1) f20 f21 f17 f18) hZ (hw _ (List.mem_of_getElem? (i := 30) rfl)) (hw _ (List.mem_of_getElem? (i := 2) rfl)) (by decide) (by decide)) q23a q23c (g := (mkF m 69 #[.val (.long q0), .second, .val (.long q1), .second, .val (.long q2), .second, .val (.long q3), .second, .val (.int p4), .val (.long w0_13), .second, .val (.long w0_28), .second, .val (.ref b1), .val (.ref b8), .val (.int (F4 q0 q1 w0_13 w0_28)), .unset, .unset] [(.ref b8), (.ref b1)])) rfl (by rw [hml]; rfl) (Steps.refl _) (argsL := [(.ref b8)]) (rest := []) (lenOf own_pd4 rfl) rfl (by show 2 * 0 + _ ≤ _; exact Nat.le_of_eq rfl) (hb hby at_69) (fun _ _ => ⟨rfl, e22, (by decide : 2 + 0 ≤ _), (by decide : 4 + 0 ≤ _)⟩)
      dsimp only [Pt.U, Pt.locs, Pt.cells, Pt.slots] at X23 l23 y23 z23 st23 hQ23
      subst l23 y23 z23
      obtain ⟨rfl, N23q, e23⟩ := hQ23
      have N23 := Fr.app N22 N23q
      refine Go.of (fun t k => st23.trans k) ?_
      show Go p e below s _ _ _ (T23.setTop (mkF m 72 #[.val (.long q0), .second, .val (.long q1), .second, .val (.long q2), .second, .val (.long q3), .second, .val (.int p4), .val (.long w0_13), .second, .val (.long w0_28), .second, .val (.ref b1), .val (.ref b8), .val (.int (F4 q0 q1 w0_13 w0_28)), .unset, .unset] [(.int (F6 q0 q1 w0_13 w0_28))]))
      refine Go.of (fun t k => XS.istore X23.here hx rfl (hb hby at_72) rfl (l' := #[.val (.long q0), .second, .val (.long q1), .second, .val (.long q2), .second, .val (.long q3), .second, .val (.int p4), .val (.long w0_13), .second, .val (.long w0_28), .second, .val (.ref b1), .val (.ref b8), .val (.int (F4 q0 q1 w0_13 w0_28)), .val (.int (F6 q0 q1 w0_13 w0_28)), .unset]) rfl k) ?_
      show Go p e below s _ _ _ (T23.setTop (mkF m 74 #[.val (.long q0), .second, .val (.long q1), .second, .val (.long q2), .second, .val (.long q3), .second, .val (.int p4), .val (.long w0_13), .second, .val (.long w0_28), .second, .val (.ref b1), .val (.ref b8), .val (.int (F4 q0 q1 w0_13 w0_28)), .val (.int (F6 q0 q1 w0_13 w0_28)), .unset] []))
      refine Go.of (fun t k => XS.aload X23.here hx rfl (hb hby at_74) rfl rfl k) ?_
      show Go p e below s _ _ _ (T23.setTop (mkF m 76 #[.val (.long q0), .second, .val (.long q1), .second, .val (.long q2), .second, .val (.long q3), .second, .val (.int p4), .val (.long w0_13), .second, .val (.long w0_28), .second, .val (.ref b1), .val (.ref b8), .val (.int (F4 q0 q1 w0_13 w0_28)), .val (.int (F6 q0 q1 w0_13 w0_28)), .unset] [(.ref b8)]))
      refine Go.of (fun t k => XS.aload X23.here hx rfl (hb hby at_76) rfl rfl k) ?_
      show Go p e below s _ _ _ (T23.setTop (mkF m 78 #[.val (.long q0), .second, .val (.long q1), .second, .val (.long q2), .second, .val (.long q3), .second, .val (.int p4), .val (.long w0_13), .second, .val (.long w0_28), .second, .val (.ref b1), .val (.ref b8), .val (.int (F4 q0 q1 w0_13 w0_28)), .val (.int (F6 q0 q1 w0_13 w0_28)), .unset] [(.ref b1), (.ref b8)]))
      obtain ⟨cq24, kq24, q24a, q24b, q24c⟩ := isOf hZ e23 f16
      obtain ⟨_, _, ⟨T24, L24, k24, n24⟩, -, X24, ⟨Lc24, hQ24, l24, y24, z24⟩, st24⟩ := X23.virtualBack hx (y := (⟨"com/example/tidewall/tidewall/Address", "compareTo", "(Lcom/example/tidewall/tidewall/Address;)I"⟩ : MethodName)) (z := (⟨"com/example/tidewall/tidewall/Address", "compareTo", "(Lcom/example/tidewall/tidewall/Address;)I"⟩ : MethodName)) hown (mvT hZ (hw _ (List.mem_of_getElem? (i := 26) rfl))) (mvT hZ (hw _ (List.mem_of_getElem? (i := 27) rfl))) (notFace_of_selects (args := #[]) (mvT hZ (hw _ (List.mem_of_getElem? (i := 29) rfl)))) (mvT hZ (hw _ (List.mem_of_getElem? (i := 29) rfl))) (mvT hZ (hw _ (List.mem_of_getElem? (i := 28) rfl))) (by decide) (backOf (W := 0) (rm6 l Z az hw [] b8 b1 w0_13 w0_28 q0 q1 T15.heap n0 (Nat.le_trans Z0 K15.1) f17 f18 f20 f21) hZ (hw _ (List.mem_of_getElem? (i := 30) rfl)) (hw _ (List.mem_of_getElem? (i := 2) rfl)) (by decide) (by decide)) q24a q24c (g := (mkF m 78 #[.val (.long q0), .second, .val (.long q1), .second, .val (.long q2), .second, .val (.long q3), .second, .val (.int p4), .val (.long w0_13), .second, .val (.long w0_28), .second, .val (.ref b1), .val (.ref b8), .val (.int (F4 q0 q1 w0_13 w0_28)), .val (.int (F6 q0 q1 w0_13 w0_28)), .unset] [(.ref b1), (.ref b8)])) rfl (by rw [hml]; rfl) (Steps.refl _) (argsL := [(.ref b1)]) (rest := []) (lenOf own_pd4 rfl) rfl (by show 2 * 0 + _ ≤ _; exact Nat.le_of_eq rfl) (hb hby at_78) (fun _ _ => ⟨rfl, e23, (by decide : 2 + 0 ≤ _), (by decide : 4 + 0 ≤ _)⟩)
      dsimp only [Pt.U, Pt.locs, Pt.cells, Pt.slots] at X24 l24 y24 z24 st24 hQ24
      subst l24 y24 z24
      obtain ⟨rfl, N24q, e24⟩ := hQ24
      have N24 := Fr.app N23 N24q
      refine Go.of (fun t k => st24.trans k) ?_
      show Go p e below s _ _ _ (T24.setTop (mkF m 81 #[.val (.long q0), .second, .val (.long q1), .second, .val (.long q2), .second, .val (.long q3), .second, .val (.int p4), .val (.long w0_13), .second, .val (.long w0_28), .second, .val (.ref b1), .val (.ref b8), .val (.int (F4 q0 q1 w0_13 w0_28)), .val (.int (F6 q0 q1 w0_13 w0_28)), .unset] [(.int (F6 w0_13 w0_28 q0 q1))]))
      refine Go.of (fun t k => XS.istore X24.here hx rfl (hb hby at_81) rfl (l' := #[.val (.long q0), .second, .val (.long q1), .second, .val (.long q2), .second, .val (.long q3), .second, .val (.int p4), .val (.long w0_13), .second, .val (.long w0_28), .second, .val (.ref b1), .val (.ref b8), .val (.int (F4 q0 q1 w0_13 w0_28)), .val (.int (F6 q0 q1 w0_13 w0_28)), .val (.int (F6 w0_13 w0_28 q0 q1))]) rfl k) ?_
      show Go p e below s _ _ _ (T24.setTop (mkF m 83 #[.val (.long q0), .second, .val (.long q1), .second, .val (.long q2), .second, .val (.long q3), .second, .val (.int p4), .val (.long w0_13), .second, .val (.long w0_28), .second, .val (.ref b1), .val (.ref b8), .val (.int (F4 q0 q1 w0_13 w0_28)), .val (.int (F6 q0 q1 w0_13 w0_28)), .val (.int (F6 w0_13 w0_28 q0 q1))] []))
      refine Go.of (fun t k => XS.iload X24.here hx rfl (hb hby at_83) rfl k) ?_
      show Go p e below s _ _ _ (T24.setTop (mkF m 85 #[.val (.long q0), .second, .val (.long q1), .second, .val (.long q2), .second, .val (.long q3), .second, .val (.int p4), .val (.long w0_13), .second, .val (.long w0_28), .second, .val (.ref b1), .val (.ref b8), .val (.int (F4 q0 q1 w0_13 w0_28)), .val (.int (F6 q0 q1 w0_13 w0_28)), .val (.int (F6 w0_13 w0_28 q0 q1))] [(.int (F6 q0 q1 w0_13 w0_28))]))
      obtain ⟨_, _, ⟨T25, L25, k25, n25⟩, -, X25, ⟨Lc25, hQ25, l25, y25, z25⟩, st25⟩ := Jvm.LawKit.callS X24 hx (y := (⟨"com/example/tidewall/tidewall/AddressCompareToPinLaw", "sign", "(I)I"⟩ : MethodName)) hown (mvT hZ (hw _ (List.mem_of_getElem? (i := 39) rfl))) (mvT hZ (hw _ (List.mem_of_getElem? (i := 40) rfl))) (mvT hZ (hw _ (List.mem_of_getElem? (i := 20) rfl))) (mvT hZ (hw _ (List.mem_of_getElem? (i := 41) rfl))) (by decide) (backOf (W := 0) (rm9 l Z az hw [] (F6 q0 q1 w0_13 w0_28) T15.heap n0 (Nat.le_trans Z0 K15.1)) hZ (hw _ (List.mem_of_getElem? (i := 41) rfl)) (hw _ (List.mem_of_getElem? (i := 20) rfl)) (by decide) (by decide)) (g := (mkF m 85 #[.val (.long q0), .second, .val (.long q1), .second, .val (.long q2), .second, .val (.long q3), .second, .val (.int p4), .val (.long w0_13), .second, .val (.long w0_28), .second, .val (.ref b1), .val (.ref b8), .val (.int (F4 q0 q1 w0_13 w0_28)), .val (.int (F6 q0 q1 w0_13 w0_28)), .val (.int (F6 w0_13 w0_28 q0 q1))] [(.int (F6 q0 q1 w0_13 w0_28))])) rfl (by rw [hml]; rfl) (argsL := [(.int (F6 q0 q1 w0_13 w0_28))]) (rest := []) (lenOf own_pd5 rfl) rfl (by show 2 * 0 + _ ≤ _; exact Nat.le_of_eq rfl) (hb hby at_85) (fun _ _ => ⟨rfl, e24, (by decide : 2 + 0 ≤ _), (by decide : 4 + 0 ≤ _)⟩)
      dsimp only [Pt.U, Pt.locs, Pt.cells, Pt.slots] at X25 l25 y25 z25 st25 hQ25
      subst l25 y25 z25
      obtain ⟨rfl, N25q, e25⟩ := hQ25
      have N25 := Fr.app N24 N25q
      refine Go.of st25 ?_
      show Go p e below s _ _ _ (T25.setTop (mkF m 88 #[.val (.long q0), .second, .val (.long q1), .second, .val (.long q2), .second, .val (.long q3), .second, .val (.int p4), .val (.long w0_13), .second, .val (.long w0_28), .second, .val (.ref b1), .val (.ref b8), .val (.int (F4 q0 q1 w0_13 w0_28)), .val (.int (F6 q0 q1 w0_13 w0_28)), .val (.int (F6 w0_13 w0_28 q0 q1))] [(.int (F9 (F6 q0 q1 w0_13 w0_28)))]))
      refine Go.of (fun t k => XS.iload X25.here hx rfl (hb hby at_88) rfl k) ?_
      show Go p e below s _ _ _ (T25.setTop (mkF m 90 #[.val (.long q0), .second, .val (.long q1), .second, .val (.long q2), .second, .val (.long q3), .second, .val (.int p4), .val (.long w0_13), .second, .val (.long w0_28), .second, .val (.ref b1), .val (.ref b8), .val (.int (F4 q0 q1 w0_13 w0_28)), .val (.int (F6 q0 q1 w0_13 w0_28)), .val (.int (F6 w0_13 w0_28 q0 q1))] [(.int (F4 q0 q1 w0_13 w0_28)), (.int (F9 (F6 q0 q1 w0_13 w0_28)))]))
      by_cases hc90_26 : (F9 (F6 q0 q1 w0_13 w0_28)) = (F4 q0 q1 w0_13 w0_28)
      · rewrite [if_pos hc90_26]
        refine Go.of (fun t k => XS.icmpNo X25.here hx rfl (hb hby at_90) rfl (teq hc90_26).2 k) ?_
        show Go p e below s _ _ _ (T25.setTop (mkF m 93 #[.val (.long q0), .second, .val (.long q1), .second, .val (.long q2), .second, .val (.long q3), .second, .val (.int p4), .val (.long w0_13), .second, .val (.long w0_28), .second, .val (.ref b1), .val (.ref b8), .val (.int (F4 q0 q1 w0_13 w0_28)), .val (.int (F6 q0 q1 w0_13 w0_28)), .val (.int (F6 w0_13 w0_28 q0 q1))] []))
        refine Go.of (fun t k => XS.iload X25.here hx rfl (hb hby at_93) rfl k) ?_
        show Go p e below s _ _ _ (T25.setTop (mkF m 95 #[.val (.long q0), .second, .val (.long q1), .second, .val (.long q2), .second, .val (.long q3), .second, .val (.int p4), .val (.long w0_13), .second, .val (.long w0_28), .second, .val (.ref b1), .val (.ref b8), .val (.int (F4 q0 q1 w0_13 w0_28)), .val (.int (F6 q0 q1 w0_13 w0_28)), .val (.int (F6 w0_13 w0_28 q0 q1))] [(.int (F6 w0_13 w0_28 q0 q1))]))
        obtain ⟨_, _, ⟨T27, L27, k27, n27⟩, -, X27, ⟨Lc27, hQ27, l27, y27, z27⟩, st27⟩ := Jvm.LawKit.callS X25 hx (y := (⟨"com/example/tidewall/tidewall/AddressCompareToPinLaw", "sign", "(I)I"⟩ : MethodName)) hown (mvT hZ (hw _ (List.mem_of_getElem? (i := 39) rfl))) (mvT hZ (hw _ (List.mem_of_getElem? (i := 40) rfl))) (mvT hZ (hw _ (List.mem_of_getElem? (i := 20) rfl))) (mvT hZ (hw _ (List.mem_of_getElem? (i := 41) rfl))) (by decide) (backOf (W := 0) (rm9 l Z az hw [] (F6 w0_13 w0_28 q0 q1) T15.heap n0 (Nat.le_trans Z0 K15.1)) hZ (hw _ (List.mem_of_getElem? (i := 41) rfl)) (hw _ (List.mem_of_getElem? (i := 20) rfl)) (by decide) (by decide)) (g := (mkF m 95 #[.val (.long q0), .second, .val (.long q1), .second, .val (.long q2), .second, .val (.long q3), .second, .val (.int p4), .val (.long w0_13), .second, .val (.long w0_28), .second, .val (.ref b1), .val (.ref b8), .val (.int (F4 q0 q1 w0_13 w0_28)), .val (.int (F6 q0 q1 w0_13 w0_28)), .val (.int (F6 w0_13 w0_28 q0 q1))] [(.int (F6 w0_13 w0_28 q0 q1))])) rfl (by rw [hml]; rfl) (argsL := [(.int (F6 w0_13 w0_28 q0 q1))]) (rest := []) (lenOf own_pd5 rfl) rfl (by show 2 * 0 + _ ≤ _; exact Nat.le_of_eq rfl) (hb hby at_95) (fun _ _ => ⟨rfl, e25, (by decide : 2 + 0 ≤ _), (by decide : 4 + 0 ≤ _)⟩)
        dsimp only [Pt.U, Pt.locs, Pt.cells, Pt.slots] at X27 l27 y27 z27 st27 hQ27
        subst l27 y27 z27
        obtain ⟨rfl, N27q, e27⟩ := hQ27
        have N27 := Fr.app N25 N27q
        refine Go.of st27 ?_
        show Go p e below s _ _ _ (T27.setTop (mkF m 98 #[.val (.long q0), .second, .val (.long q1), .second, .val (.long q2), .second, .val (.long q3), .second, .val (.int p4), .val (.long w0_13), .second, .val (.long w0_28), .second, .val (.ref b1), .val (.ref b8), .val (.int (F4 q0 q1 w0_13 w0_28)), .val (.int (F6 q0 q1 w0_13 w0_28)), .val (.int (F6 w0_13 w0_28 q0 q1))] [(.int (F9 (F6 w0_13 w0_28 q0 q1)))]))
        refine Go.of (fun t k => XS.iload X27.here hx rfl (hb hby at_98) rfl k) ?_
        show Go p e below s _ _ _ (T27.setTop (mkF m 100 #[.val (.long q0), .second, .val (.long q1), .second, .val (.long q2), .second, .val (.long q3), .second, .val (.int p4), .val (.long w0_13), .second, .val (.long w0_28), .second, .val (.ref b1), .val (.ref b8), .val (.int (F4 q0 q1 w0_13 w0_28)), .val (.int (F6 q0 q1 w0_13 w0_28)), .val (.int (F6 w0_13 w0_28 q0 q1))] [(.int (F4 q0 q1 w0_13 w0_28)), (.int (F9 (F6 w0_13 w0_28 q0 q1)))]))
        refine Go.of (fun t k => XS.ineg X27.here hx rfl (hb hby at_100) rfl k) ?_
        show Go p e below s _ _ _ (T27.setTop (mkF m 101 #[.val (.long q0), .second, .val (.long q1), .second, .val (.long q2), .second, .val (.long q3), .second, .val (.int p4), .val (.long w0_13), .second, .val (.long w0_28), .second, .val (.ref b1), .val (.ref b8), .val (.int (F4 q0 q1 w0_13 w0_28)), .val (.int (F6 q0 q1 w0_13 w0_28)), .val (.int (F6 w0_13 w0_28 q0 q1))] [(.int (-(F4 q0 q1 w0_13 w0_28))), (.int (F9 (F6 w0_13 w0_28 q0 q1)))]))
        by_cases hc101_28 : (F9 (F6 w0_13 w0_28 q0 q1)) = (-(F4 q0 q1 w0_13 w0_28))
        · rewrite [if_pos hc101_28]
          refine Go.of (fun t k => XS.icmpNo X27.here hx rfl (hb hby at_101) rfl (teq hc101_28).2 k) ?_
          show Go p e below s _ _ _ (T27.setTop (mkF m 104 #[.val (.long q0), .second, .val (.long q1), .second, .val (.long q2), .second, .val (.long q3), .second, .val (.int p4), .val (.long w0_13), .second, .val (.long w0_28), .second, .val (.ref b1), .val (.ref b8), .val (.int (F4 q0 q1 w0_13 w0_28)), .val (.int (F6 q0 q1 w0_13 w0_28)), .val (.int (F6 w0_13 w0_28 q0 q1))] []))
          refine Go.of (fun t k => XS.iconst X27.here hx rfl (hb hby at_104) k) ?_
          show Go p e below s _ _ _ (T27.setTop (mkF m 105 #[.val (.long q0), .second, .val (.long q1), .second, .val (.long q2), .second, .val (.long q3), .second, .val (.int p4), .val (.long w0_13), .second, .val (.long w0_28), .second, .val (.ref b1), .val (.ref b8), .val (.int (F4 q0 q1 w0_13 w0_28)), .val (.int (F6 q0 q1 w0_13 w0_28)), .val (.int (F6 w0_13 w0_28 q0 q1))] [(.int (1 : Int32))]))
          refine Go.of (fun t k => XS.goto X27.here hx rfl (pc0 := 105) (pc' := 109) rfl (hb hby at_105) (by decide) (by decide) k) ?_
          show Go p e below s _ _ _ (T27.setTop (mkF m 109 #[.val (.long q0), .second, .val (.long q1), .second, .val (.long q2), .second, .val (.long q3), .second, .val (.int p4), .val (.long w0_13), .second, .val (.long w0_28), .second, .val (.ref b1), .val (.ref b8), .val (.int (F4 q0 q1 w0_13 w0_28)), .val (.int (F6 q0 q1 w0_13 w0_28)), .val (.int (F6 w0_13 w0_28 q0 q1))] [(.int (1 : Int32))]))
          exact Go.ret X27 (some (.int (1 : Int32))) (fun h => by rw [Bd.returns] at h; cases h) hlk ⟨rfl, N27⟩ (by decide) (by decide) (fun fs hr => (retN X27 hx (t := .boolean) Bd.returns (by simp) (hb hby at_109) hr))
        · rewrite [if_neg hc101_28]
          refine Go.of (fun t k => XS.icmpYes X27.here hx rfl (pc0 := 101) (pc' := 108) rfl (hb hby at_101) rfl (feq hc101_28).2 (by decide) (by decide) k) ?_
          show Go p e below s _ _ _ (T27.setTop (mkF m 108 #[.val (.long q0), .second, .val (.long q1), .second, .val (.long q2), .second, .val (.long q3), .second, .val (.int p4), .val (.long w0_13), .second, .val (.long w0_28), .second, .val (.ref b1), .val (.ref b8), .val (.int (F4 q0 q1 w0_13 w0_28)), .val (.int (F6 q0 q1 w0_13 w0_28)), .val (.int (F6 w0_13 w0_28 q0 q1))] []))
          refine Go.of (fun t k => XS.iconst X27.here hx rfl (hb hby at_108) k) ?_
          show Go p e below s _ _ _ (T27.setTop (mkF m 109 #[.val (.long q0), .second, .val (.long q1), .second, .val (.long q2), .second, .val (.long q3), .second, .val (.int p4), .val (.long w0_13), .second, .val (.long w0_28), .second, .val (.ref b1), .val (.ref b8), .val (.int (F4 q0 q1 w0_13 w0_28)), .val (.int (F6 q0 q1 w0_13 w0_28)), .val (.int (F6 w0_13 w0_28 q0 q1))] [(.int (0 : Int32))]))
          exact Go.ret X27 (some (.int (0 : Int32))) (fun h => by rw [Bd.returns] at h; cases h) hlk ⟨rfl, N27⟩ (by decide) (by decide) (fun fs hr => (retN X27 hx (t := .boolean) Bd.returns (by simp) (hb hby at_109) hr))
      · rewrite [if_neg hc90_26]
        refine Go.of (fun t k => XS.icmpYes X25.here hx rfl (pc0 := 90) (pc' := 108) rfl (hb hby at_90) rfl (feq hc90_26).2 (by decide) (by decide) k) ?_
        show Go p e below s _ _ _ (T25.setTop (mkF m 108 #[.val (.long q0), .second, .val (.long q1), .second, .val (.long q2), .second, .val (.long q3), .second, .val (.int p4), .val (.long w0_13), .second, .val (.long w0_28), .second, .val (.ref b1), .val (.ref b8), .val (.int (F4 q0 q1 w0_13 w0_28)), .val (.int (F6 q0 q1 w0_13 w0_28)), .val (.int (F6 w0_13 w0_28 q0 q1))] []))
        refine Go.of (fun t k => XS.iconst X25.here hx rfl (hb hby at_108) k) ?_
        show Go p e below s _ _ _ (T25.setTop (mkF m 109 #[.val (.long q0), .second, .val (.long q1), .second, .val (.long q2), .second, .val (.long q3), .second, .val (.int p4), .val (.long w0_13), .second, .val (.long w0_28), .second, .val (.ref b1), .val (.ref b8), .val (.int (F4 q0 q1 w0_13 w0_28)), .val (.int (F6 q0 q1 w0_13 w0_28)), .val (.int (F6 w0_13 w0_28 q0 q1))] [(.int (0 : Int32))]))
        exact Go.ret X25 (some (.int (0 : Int32))) (fun h => by rw [Bd.returns] at h; cases h) hlk ⟨rfl, N25⟩ (by decide) (by decide) (fun fs hr => (retN X25 hx (t := .boolean) Bd.returns (by simp) (hb hby at_109) hr))
    by_cases hc19_29 : (p4 &&& (2 : Int32)) = (0 : Int32)
    · rewrite [if_pos hc19_29]
      refine Go.of (fun t k => XS.ifYes X_13.here hx rfl (pc0 := 19) (pc' := 26) rfl (hb hby at_19) rfl ((if0 _ _).trans (teq hc19_29).1) (by decide) (by decide) k) ?_
      show Go p e below s _ _ _ (T_13.setTop (mkF m 26 #[.val (.long q0), .second, .val (.long q1), .second, .val (.long q2), .second, .val (.long q3), .second, .val (.int p4), .val (.long w0_13), .second, .unset, .unset, .unset, .unset, .unset, .unset, .unset] []))
      refine Go.of (fun t k => XS.lload X_13.here hx rfl (hb hby at_26) rfl k) ?_
      show Go p e below s _ _ _ (T_13.setTop (mkF m 28 #[.val (.long q0), .second, .val (.long q1), .second, .val (.long q2), .second, .val (.long q3), .second, .val (.int p4), .val (.long w0_13), .second, .unset, .unset, .unset, .unset, .unset, .unset, .unset] [(.long q3)]))
      exact jn28 q3  T_13 _ X_13 e_13 N_13  
    · rewrite [if_neg hc19_29]
      refine Go.of (fun t k => XS.ifNo X_13.here hx rfl (hb hby at_19) rfl ((if0 _ _).trans (feq hc19_29).1) k) ?_
      show Go p e below s _ _ _ (T_13.setTop (mkF m 22 #[.val (.long q0), .second, .val (.long q1), .second, .val (.long q2), .second, .val (.long q3), .second, .val (.int p4), .val (.long w0_13), .second, .unset, .unset, .unset, .unset, .unset, .unset, .unset] []))
      refine Go.of (fun t k => XS.lloadN X_13.here hx rfl (hb hby at_22) rfl k) ?_
      show Go p e below s _ _ _ (T_13.setTop (mkF m 23 #[.val (.long q0), .second, .val (.long q1), .second, .val (.long q2), .second, .val (.long q3), .second, .val (.int p4), .val (.long w0_13), .second, .unset, .unset, .unset, .unset, .unset, .unset, .unset] [(.long q1)]))
      refine Go.of (fun t k => XS.goto X_13.here hx rfl (pc0 := 23) (pc' := 28) rfl (hb hby at_23) (by decide) (by decide) k) ?_
      show Go p e below s _ _ _ (T_13.setTop (mkF m 28 #[.val (.long q0), .second, .val (.long q1), .second, .val (.long q2), .second, .val (.long q3), .second, .val (.int p4), .val (.long w0_13), .second, .unset, .unset, .unset, .unset, .unset, .unset, .unset] [(.long q1)]))
      exact jn28 q1  T_13 _ X_13 e_13 N_13  
  by_cases hc4_30 : (p4 &&& (1 : Int32)) = (0 : Int32)
  · rewrite [if_pos hc4_30]
    refine Go.of (fun t k => XS.ifYes X0.here hx rfl (pc0 := 4) (pc' := 11) rfl (hb hby at_4) rfl ((if0 _ _).trans (teq hc4_30).1) (by decide) (by decide) k) ?_
    show Go p e below s _ _ _ (s₁.setTop (mkF m 11 #[.val (.long q0), .second, .val (.long q1), .second, .val (.long q2), .second, .val (.long q3), .second, .val (.int p4), .unset, .unset, .unset, .unset, .unset, .unset, .unset, .unset, .unset] []))
    refine Go.of (fun t k => XS.lload X0.here hx rfl (hb hby at_11) rfl k) ?_
    show Go p e below s _ _ _ (s₁.setTop (mkF m 13 #[.val (.long q0), .second, .val (.long q1), .second, .val (.long q2), .second, .val (.long q3), .second, .val (.int p4), .unset, .unset, .unset, .unset, .unset, .unset, .unset, .unset, .unset] [(.long q2)]))
    exact jn13 q2  s₁ _ X0 e0 N0  
  · rewrite [if_neg hc4_30]
    refine Go.of (fun t k => XS.ifNo X0.here hx rfl (hb hby at_4) rfl ((if0 _ _).trans (feq hc4_30).1) k) ?_
    show Go p e below s _ _ _ (s₁.setTop (mkF m 7 #[.val (.long q0), .second, .val (.long q1), .second, .val (.long q2), .second, .val (.long q3), .second, .val (.int p4), .unset, .unset, .unset, .unset, .unset, .unset, .unset, .unset, .unset] []))
    refine Go.of (fun t k => XS.lloadN X0.here hx rfl (hb hby at_7) rfl k) ?_
    show Go p e below s _ _ _ (s₁.setTop (mkF m 8 #[.val (.long q0), .second, .val (.long q1), .second, .val (.long q2), .second, .val (.long q3), .second, .val (.int p4), .unset, .unset, .unset, .unset, .unset, .unset, .unset, .unset, .unset] [(.long q0)]))
    refine Go.of (fun t k => XS.goto X0.here hx rfl (pc0 := 8) (pc' := 13) rfl (hb hby at_8) (by decide) (by decide) k) ?_
    show Go p e below s _ _ _ (s₁.setTop (mkF m 13 #[.val (.long q0), .second, .val (.long q1), .second, .val (.long q2), .second, .val (.long q3), .second, .val (.int p4), .unset, .unset, .unset, .unset, .unset, .unset, .unset, .unset, .unset] [(.long q0)]))
    exact jn13 q0  s₁ _ X0 e0 N0  
theorem own_b63 : ∀ i : Fin 64, (0x8000000000000000#64).getLsbD i.val = decide (i.val = 63) := by decide +kernel
theorem own_low (x : BitVec 64) (h : x.getLsbD 63 = false) : x ^^^ 0x8000000000000000#64 = x + 0x8000000000000000#64 := by
  have h0 : x &&& 0x8000000000000000#64 = 0#64 := by
    apply BitVec.eq_of_getLsbD_eq
    intro i hi
    have q := own_b63 ⟨i, hi⟩
    simp only at q
    rw [BitVec.getLsbD_and, q]
    by_cases k : i = 63
    · subst k; simpa using h
    · simp [k]
  rw [BitVec.add_eq_or_of_and_eq_zero _ _ h0]
  apply BitVec.eq_of_getLsbD_eq
  intro i hi
  have q := own_b63 ⟨i, hi⟩
  simp only at q
  rw [BitVec.getLsbD_xor, BitVec.getLsbD_or, q]
  by_cases k : i = 63
  · subst k; simpa using h
  · simp [k]
theorem own_flip (x : BitVec 64) : x ^^^ 0x8000000000000000#64 = x + 0x8000000000000000#64 := by
  by_cases h : x.getLsbD 63 = false
  · exact own_low x h
  · have h1 : x.getLsbD 63 = true := by simpa using h
    have q := own_b63 ⟨63, by decide⟩
    simp only at q
    have h2 : (x ^^^ 0x8000000000000000#64).getLsbD 63 = false := by rw [BitVec.getLsbD_xor, q, h1]; rfl
    have h3 := own_low _ h2
    rw [BitVec.xor_assoc, BitVec.xor_self, BitVec.xor_zero] at h3
    have h4 : (0x8000000000000000#64) + 0x8000000000000000#64 = 0#64 := by decide
    calc x ^^^ 0x8000000000000000#64 = (x ^^^ 0x8000000000000000#64) + (0x8000000000000000#64 + 0x8000000000000000#64) := by rw [h4, BitVec.add_zero]
      _ = x + 0x8000000000000000#64 := by rw [← BitVec.add_assoc, ← h3]
theorem own_x (x : Int64) : x ^^^ (-9223372036854775808 : Int64) = x + (-9223372036854775808 : Int64) := by
  rw [← Int64.toBitVec_inj]
  exact own_flip x.toBitVec
theorem own_tri (x y : Int64) : F8 x y = if x < y then (-1 : Int32) else if y < x then 1 else 0 := by
  unfold F8
  simp only [Int64.lt_iff_toInt_lt, ← Int64.toInt_inj]
  by_cases h1 : x.toInt < y.toInt
  · simp [h1]
  · by_cases h2 : y.toInt < x.toInt
    · rw [if_neg h1, if_neg h1, if_pos h2, if_neg (by omega)]
    · rw [if_neg h1, if_neg h1, if_neg h2, if_pos (by omega)]
theorem own_57 (x y : Int64) : F7 x y = F5 x y := by
  unfold F7 F5
  rw [own_tri, own_x, own_x]
theorem own_46 (a b c d : Int64) : F6 a b c d = F4 a b c d := by
  unfold F6 F4
  rw [own_57, own_57]
theorem own_r5 (x y : Int64) : (F5 x y = -1 ∧ F5 y x = 1) ∨ (F5 x y = 0 ∧ F5 y x = 0) ∨ (F5 x y = 1 ∧ F5 y x = -1) := by
  unfold F5
  simp only [Int64.lt_iff_toInt_lt]
  by_cases h1 : (x ^^^ (-9223372036854775808 : Int64)).toInt < (y ^^^ (-9223372036854775808 : Int64)).toInt
  · left; simp [h1, show ¬ (y ^^^ (-9223372036854775808 : Int64)).toInt < (x ^^^ (-9223372036854775808 : Int64)).toInt by omega]
  · by_cases h2 : (y ^^^ (-9223372036854775808 : Int64)).toInt < (x ^^^ (-9223372036854775808 : Int64)).toInt
    · right; right; simp [h1, h2]
    · right; left; simp [h1, h2]
theorem own_r4 (a b c d : Int64) : (F4 a b c d = -1 ∧ F4 c d a b = 1) ∨ (F4 a b c d = 0 ∧ F4 c d a b = 0) ∨ (F4 a b c d = 1 ∧ F4 c d a b = -1) := by
  unfold F4
  rcases own_r5 a c with ⟨h1, h2⟩ | ⟨h1, h2⟩ | ⟨h1, h2⟩
  · left; rw [h1, h2, if_neg (by decide), if_neg (by decide)]; exact ⟨rfl, rfl⟩
  · rw [h1, h2, if_pos rfl, if_pos rfl]; exact own_r5 b d
  · right; right; rw [h1, h2, if_neg (by decide), if_neg (by decide)]; exact ⟨rfl, rfl⟩
theorem own_28 (a b c d : Int64) : F0_28 a b c d = 1 := by
  unfold F0_28 F9
  rw [own_46, own_46]
  rcases own_r4 a b c d with ⟨h1, h2⟩ | ⟨h1, h2⟩ | ⟨h1, h2⟩ <;> rw [h1, h2] <;> decide
theorem own_law (a b c d : Int64) (e : Int32) : F0 a b c d e = 1 := by
  unfold F0 F0_13
  repeat' split
  all_goals exact own_28 _ _ _ _
set_option maxRecDepth 65536 in
set_option maxHeartbeats 40000000 in
theorem comes_1 {Post : Tables → Env → Array Value → State → Outcome → State → Prop} (hpost : ∀ tb e args s v u, (limb_1_1.after args s (.returned v) u = true ∧ limb_1_2.after args s (.returned v) u = true ∧ True) → FrameEnd s (.returned v) u (Jvm.fieldLocs frame_1_writes args s ++ Jvm.arrayLocs frame_1_arrays args s ++ Jvm.staticLocs frame_1_statics s) 16 128 → Post tb e args s (.returned v) u) :
    ArmFor flags0 classFile x code maxLocals ret World_1 tables_1 room_1 Calls_1 rest_1 Pre_1 Post := by
  intro l hfl _ _ p e ha hc hk s m args below hf hA hF happ hP
  obtain ⟨hcalls, hrest, hpre⟩ := hP
  obtain ⟨-, -, -, hnamed, -, -, -, hat⟩ := (Spec.applies_iff hf).mp happ
  obtain ⟨hg, hn⟩ := and_e (Cond.before_iff.mp (show (Jvm.Cond.and given_1 narrow_1).before args s = true from hpre))
  obtain ⟨g0, g1⟩ := and_e hg
  obtain ⟨a0, g2⟩ := and_e g1
  obtain ⟨a1, g3⟩ := and_e g2
  obtain ⟨a2, g4⟩ := and_e g3
  obtain ⟨a3, g5⟩ := and_e g4
  have a4 := g5
  obtain ⟨w0, w1, w2, w3, w4, rfl⟩ : ∃ w0 w1 w2 w3 w4 : Value, args = #[w0, w1, w2, w3, w4] := by
    have hs : args.size = 5 := by simpa [Cond.value, given_1] using g0
    obtain ⟨L⟩ := args
    match L, hs with
    | [w0, w1, w2, w3, w4], _ => exact ⟨w0, w1, w2, w3, w4, rfl⟩
  have hw := fun d (hd : d ∈ tables_1) => atoms_spec (ws := Jvm.Cond.code x code maxLocals ret :: tables_1) hat d (List.mem_cons_of_mem _ hd)
  obtain ⟨i0, ei0⟩ := isL_v a0
  obtain rfl : w0 = (.long i0) := Option.some.inj ei0
  obtain ⟨i1, ei1⟩ := isL_v a1
  obtain rfl : w1 = (.long i1) := Option.some.inj ei1
  obtain ⟨i2, ei2⟩ := isL_v a2
  obtain rfl : w2 = (.long i2) := Option.some.inj ei2
  obtain ⟨i3, ei3⟩ := isL_v a3
  obtain rfl : w3 = (.long i3) := Option.some.inj ei3
  obtain ⟨i4, ei4⟩ := is_v a4
  obtain rfl : w4 = (.int i4) := Option.some.inj ei4
  obtain ⟨n, o, h1, h2, h3, _, L, rfl, ⟨rfl, N⟩, hq⟩ := rm0 l s _ hw tables_1 i0 i1 i2 i3 i4 s.heap s.heap.size (Nat.le_refl _) p e ha hc hk s m _ below hf ((Spec.applies_iff_loose hf).mp happ).1 ⟨rfl, State.Warmed39.refl s, rfl⟩ trivial
  have hone : (F0 i0 i1 i2 i3 i4) = 1 := own_law i0 i1 i2 i3 i4
  refine ⟨n, _, h1, h2, h3, hpost _ _ _ _ _ _ ⟨Cond.after_iff.mpr rfl, Cond.after_iff.mpr (eq_i res_at (Term.int_eval (1)) (by rw [hone])), trivial⟩ ⟨hq.1, hq.2.1, (hq.2.2.sift fun y hy => Or.inr (N y hy)).mono (by decide) (by decide)⟩⟩
theorem main_1_1 : Claimed_1_1 := comes_1 fun _ _ _ _ _ _ h hF => ⟨h.1, hF⟩
theorem main_1_2 : Claimed_1_2 := comes_1 fun _ _ _ _ _ _ h hF => ⟨h.2.1, hF⟩
end Jvm.Pilot.@@N@@
namespace Jvm.Pilot.@@N@@
open Jvm Jvm.ClassFile Sem Op Lib Jvm.Free Jvm.Stand Jvm.Pilot.@@N@@.Jvm.D
/-! MADE BY PROGRAM (witnessworld.py) out of the Statement's table words and the real class files: 15 classes; the members and pool entries that the words name. The judged class is class 1, her method 1. -/
namespace start1
open Jvm.ClassFile
def u (s : String) : CpInfo := .utf8 (stringToUtf16 s)
/-- a pool by its gaps: so many unusable entries, then the entry; so many at the end -/
def gap : Nat → List CpInfo → List CpInfo
  | 0, r => r
  | n + 1, r => .unusable :: gap n r
def poolList (es : List (Nat × CpInfo)) (last : Nat) : List CpInfo := es.foldr (fun e r => gap e.1 (e.2 :: r)) (gap last [])
def pool (es : List (Nat × CpInfo)) (last : Nat) : Array CpInfo := ⟨poolList es last⟩
def fileOf (pool : Array CpInfo) (this : Nat) (attrs : Array Attribute := #[]) (ms : Array MethodInfo := #[]) (fl : Nat := 33) (sup : Nat := 0) (ifs : Array Nat := #[]) (fds : Array FieldInfo := #[]) : ClassFile where
  minorVersion := 0
  majorVersion := 65
  constantPool := pool
  accessFlags := fl
  thisClass := this
  superClass := sup
  interfaces := ifs
  fields := fds
  methods := ms
  attributes := attrs
def plain (name : String) (sup : Option ClassId) : Class where
  name := name
  kind := .ordinary
  loader := none
  accessFlags := 33
  super := sup
  interfaces := #[]
  cf := none
  fields := #[]
  methods := #[]
  instanceTypes := #[]
  staticTypes := #[]
  resolved := #[]
  callSites := []
  init := .initialized
  statics := none
  mirror := none

def pool0 : Array CpInfo := pool [(5, u "<init>"), (0, u "()V"), (1, .class_ 10), (1, u "java/lang/Object")] 113

def k0c0 : Code := { maxStack := 0, maxLocals := 1, code := object_method_1_code, exceptionTable := #[], attributes := #[] }
def k0m0 : Method := { name := "<init>", desc := "()V", sig := { parameters := [], returnType := none }, accessFlags := 1, code := some k0c0 }
/-- java/lang/Object -/
def k0 : Class := { plain "java/lang/Object" none with
  accessFlags := 33
  interfaces := #[]
  cf := some (fileOf pool0 8 #[] #[{ accessFlags := 1, nameIndex := 5, descriptorIndex := 6, attributes := #[] }] 33 0 #[] #[])
  fields := #[]
  methods := #[k0m0]
  instanceTypes := #[]
  staticTypes := #[]
  resolved := Array.replicate 124 none
  statics := none }

def pool1 : Array CpInfo := pool [(2, .class_ 4), (1, u "java/lang/Object"), (0, u "<init>"), (0, u "()V"), (0, .class_ 8), (0, u "com/example/tidewall/tidewall/Address"), (0, .methodref 7 10), (0, .nameAndType 5 11), (0, u "(JJ)V"), (0, .methodref 13 14), (0, .class_ 15), (0, .nameAndType 16 17), (0, u "com/example/tidewall/tidewall/AddressCompareToPinLaw"), (0, u "expectedSign"), (0, u "(JJJJ)I"), (0, .methodref 7 19), (0, .nameAndType 20 21), (0, u "compareTo"), (0, u "(Lcom/example/tidewall/tidewall/Address;)I"), (0, .methodref 13 23), (0, .nameAndType 24 25), (0, u "sign"), (0, u "(I)I"), (0, .methodref 13 27), (0, .nameAndType 28 29), (0, u "unsignedSign"), (0, u "(JJ)I"), (0, .long 9223372036854775808), (3, u "law"), (0, u "(JJJJI)Z")] 3

def k1m0 : Method := { name := "<init>", desc := "()V", sig := { parameters := [], returnType := none }, accessFlags := 1, code := none }
def k1c1 : Code := { maxStack := 8, maxLocals := 18, code := code, exceptionTable := #[], attributes := #[] }
def k1m1 : Method := { name := "law", desc := "(JJJJI)Z", sig := { parameters := [.long, .long, .long, .long, .int], returnType := some .boolean }, accessFlags := 9, code := some k1c1 }
def k1c2 : Code := { maxStack := 4, maxLocals := 9, code := method_3_code, exceptionTable := #[], attributes := #[] }
def k1m2 : Method := { name := "expectedSign", desc := "(JJJJ)I", sig := { parameters := [.long, .long, .long, .long], returnType := some .int }, accessFlags := 10, code := some k1c2 }
def k1c3 : Code := { maxStack := 4, maxLocals := 8, code := method_4_code, exceptionTable := #[], attributes := #[] }
def k1m3 : Method := { name := "unsignedSign", desc := "(JJ)I", sig := { parameters := [.long, .long], returnType := some .int }, accessFlags := 10, code := some k1c3 }
def k1c4 : Code := { maxStack := 1, maxLocals := 1, code := method_5_code, exceptionTable := #[], attributes := #[] }
def k1m4 : Method := { name := "sign", desc := "(I)I", sig := { parameters := [.int], returnType := some .int }, accessFlags := 10, code := some k1c4 }
/-- com/example/tidewall/tidewall/AddressCompareToPinLaw -/
def k1 : Class := { plain "com/example/tidewall/tidewall/AddressCompareToPinLaw" (some 0) with
  accessFlags := 49
  interfaces := #[]
  cf := some (fileOf pool1 13 #[] #[{ accessFlags := 1, nameIndex := 5, descriptorIndex := 6, attributes := #[] }, { accessFlags := 9, nameIndex := 34, descriptorIndex := 35, attributes := #[] }, { accessFlags := 10, nameIndex := 16, descriptorIndex := 17, attributes := #[] }, { accessFlags := 10, nameIndex := 28, descriptorIndex := 29, attributes := #[] }, { accessFlags := 10, nameIndex := 24, descriptorIndex := 25, attributes := #[] }] 49 2 #[] #[])
  fields := #[]
  methods := #[k1m0, k1m1, k1m2, k1m3, k1m4]
  instanceTypes := #[]
  staticTypes := #[]
  resolved := Array.replicate 39 none
  statics := none }

def pool2 : Array CpInfo := pool [(1, .methodref 2 3), (0, .class_ 4), (0, .nameAndType 5 6), (0, u "java/lang/Object"), (0, u "<init>"), (0, u "()V"), (0, .class_ 8), (0, u "java/lang/Record")] 13

def k2c0 : Code := { maxStack := 1, maxLocals := 1, code := jdk_30_method_1_code, exceptionTable := #[], attributes := #[] }
def k2m0 : Method := { name := "<init>", desc := "()V", sig := { parameters := [], returnType := none }, accessFlags := 4, code := some k2c0 }
/-- java/lang/Record -/
def k2 : Class := { plain "java/lang/Record" (some 0) with
  accessFlags := 1057
  interfaces := #[]
  cf := some (fileOf pool2 7 #[] #[{ accessFlags := 4, nameIndex := 5, descriptorIndex := 6, attributes := #[] }] 1057 2 #[] #[])
  fields := #[]
  methods := #[k2m0]
  instanceTypes := #[]
  staticTypes := #[]
  resolved := Array.replicate 22 none
  statics := none }

def pool3 : Array CpInfo := pool [(1, .class_ 2), (0, u "java/lang/Comparable"), (0, .class_ 4), (0, u "java/lang/Object")] 7

/-- java/lang/Comparable -/
def k3 : Class := { plain "java/lang/Comparable" (some 0) with
  accessFlags := 1537
  interfaces := #[]
  cf := some (fileOf pool3 1 #[] #[] 1537 3 #[] #[])
  fields := #[]
  methods := #[]
  instanceTypes := #[]
  staticTypes := #[]
  resolved := Array.replicate 12 none
  statics := none }

def pool4 : Array CpInfo := pool [(1, .methodref 2 3), (0, .class_ 4), (0, .nameAndType 5 6), (0, u "java/lang/Record"), (0, u "<init>"), (0, u "()V"), (0, .fieldref 8 9), (0, .class_ 10), (0, .nameAndType 11 12), (0, u "com/example/tidewall/tidewall/Address"), (0, u "high"), (0, u "J"), (0, .fieldref 8 14), (0, .nameAndType 15 12), (0, u "low"), (0, .class_ 17), (0, u "java/lang/Long"), (53, u "(JJ)V"), (28, .methodref 16 101), (0, .nameAndType 102 103), (0, u "compareUnsigned"), (0, u "(JJ)I"), (2, u "compareTo"), (0, u "(Lcom/example/tidewall/tidewall/Address;)I"), (11, .class_ 120), (0, u "java/lang/Comparable"), (0, u "BITS"), (0, u "I"), (2, u "IPV4_MAPPED"), (0, u "IPV4_BITS")] 39

def k4c0 : Code := { maxStack := 3, maxLocals := 5, code := prog_1_method_1_code, exceptionTable := #[], attributes := #[] }
def k4m0 : Method := { name := "<init>", desc := "(JJ)V", sig := { parameters := [.long, .long], returnType := none }, accessFlags := 0, code := some k4c0 }
def k4c1 : Code := { maxStack := 4, maxLocals := 3, code := prog_1_method_8_code, exceptionTable := #[], attributes := #[] }
def k4m1 : Method := { name := "compareTo", desc := "(Lcom/example/tidewall/tidewall/Address;)I", sig := { parameters := [(.object "com/example/tidewall/tidewall/Address")], returnType := some .int }, accessFlags := 1, code := some k4c1 }
/-- com/example/tidewall/tidewall/Address -/
def k4 : Class := { plain "com/example/tidewall/tidewall/Address" (some 2) with
  accessFlags := 48
  interfaces := #[3]
  cf := some (fileOf pool4 8 #[] #[{ accessFlags := 0, nameIndex := 5, descriptorIndex := 71, attributes := #[] }, { accessFlags := 1, nameIndex := 106, descriptorIndex := 107, attributes := #[] }] 48 2 #[119] #[{ accessFlags := 18, nameIndex := 11, descriptorIndex := 12, attributes := #[] }, { accessFlags := 18, nameIndex := 15, descriptorIndex := 12, attributes := #[] }, { accessFlags := 24, nameIndex := 121, descriptorIndex := 122, attributes := #[] }, { accessFlags := 26, nameIndex := 125, descriptorIndex := 12, attributes := #[] }, { accessFlags := 26, nameIndex := 126, descriptorIndex := 12, attributes := #[] }])
  fields := #[{ name := "high", type := .long, accessFlags := 18, slot := 0, constantValue := 0 }, { name := "low", type := .long, accessFlags := 18, slot := 1, constantValue := 0 }, { name := "BITS", type := .int, accessFlags := 24, slot := 0, constantValue := 0 }, { name := "IPV4_MAPPED", type := .long, accessFlags := 26, slot := 1, constantValue := 0 }, { name := "IPV4_BITS", type := .long, accessFlags := 26, slot := 2, constantValue := 0 }]
  methods := #[k4m0, k4m1]
  instanceTypes := #[.long, .long]
  staticTypes := #[.int, .long, .long]
  resolved := Array.replicate 166 none
  statics := none }

def pool5 : Array CpInfo := pool [(1, .class_ 2), (0, u "java/io/Serializable"), (0, .class_ 4), (0, u "java/lang/Object")] 2

/-- java/io/Serializable -/
def k5 : Class := { plain "java/io/Serializable" (some 0) with
  accessFlags := 1537
  interfaces := #[]
  cf := some (fileOf pool5 1 #[] #[] 1537 3 #[] #[])
  fields := #[]
  methods := #[]
  instanceTypes := #[]
  staticTypes := #[]
  resolved := Array.replicate 7 none
  statics := none }

def pool6 : Array CpInfo := pool [(2, .class_ 4), (1, u "java/lang/Object"), (0, u "<init>"), (0, u "()V"), (1, .class_ 10), (1, u "java/lang/Number"), (2, .class_ 14), (0, u "java/io/Serializable"), (0, u "serialVersionUID"), (0, u "J")] 20

def k6m0 : Method := { name := "<init>", desc := "()V", sig := { parameters := [], returnType := none }, accessFlags := 1, code := none }
/-- java/lang/Number -/
def k6 : Class := { plain "java/lang/Number" (some 0) with
  accessFlags := 1057
  interfaces := #[5]
  cf := some (fileOf pool6 8 #[] #[{ accessFlags := 1, nameIndex := 5, descriptorIndex := 6, attributes := #[] }] 1057 2 #[13] #[{ accessFlags := 26, nameIndex := 15, descriptorIndex := 16, attributes := #[] }])
  fields := #[{ name := "serialVersionUID", type := .long, accessFlags := 26, slot := 0, constantValue := 0 }]
  methods := #[k6m0]
  instanceTypes := #[]
  staticTypes := #[.long]
  resolved := Array.replicate 37 none
  statics := none }

def pool7 : Array CpInfo := pool [(1, .class_ 2), (0, u "java/lang/constant/Constable"), (0, .class_ 4), (0, u "java/lang/Object")] 6

/-- java/lang/constant/Constable -/
def k7 : Class := { plain "java/lang/constant/Constable" (some 0) with
  accessFlags := 1537
  interfaces := #[]
  cf := some (fileOf pool7 1 #[] #[] 1537 3 #[] #[])
  fields := #[]
  methods := #[]
  instanceTypes := #[]
  staticTypes := #[]
  resolved := Array.replicate 11 none
  statics := none }

def pool8 : Array CpInfo := pool [(1, .class_ 2), (0, u "java/lang/constant/ConstantDesc"), (0, .class_ 4), (0, u "java/lang/Object")] 32

/-- java/lang/constant/ConstantDesc -/
def k8 : Class := { plain "java/lang/constant/ConstantDesc" (some 0) with
  accessFlags := 1537
  interfaces := #[]
  cf := some (fileOf pool8 1 #[] #[] 1537 3 #[] #[])
  fields := #[]
  methods := #[]
  instanceTypes := #[]
  staticTypes := #[]
  resolved := Array.replicate 37 none
  statics := none }

def pool9 : Array CpInfo := pool [(1, .class_ 2), (0, u "java/lang/Long"), (165, .long 9223372036854775808), (66, .class_ 237), (1, u "java/lang/Long$LongCache"), (33, .class_ 272), (0, u "java/lang/Number"), (2, u "value"), (0, u "J"), (25, .methodref 1 303), (0, .nameAndType 304 305), (0, u "compare"), (0, u "(JJ)I"), (55, u "TYPE"), (0, u "Ljava/lang/Class;"), (0, .class_ 364), (0, u "java/lang/Comparable"), (0, .class_ 366), (0, u "java/lang/constant/Constable"), (0, .class_ 368), (0, u "java/lang/constant/ConstantDesc"), (0, u "MIN_VALUE"), (1, u "MAX_VALUE"), (4, u "SIZE"), (0, u "I"), (1, u "BYTES"), (1, u "serialVersionUID"), (87, u "compareUnsigned")] 54

def k9c0 : Code := { maxStack := 4, maxLocals := 4, code := jdk_35_method_42_code, exceptionTable := #[], attributes := #[] }
def k9m0 : Method := { name := "compare", desc := "(JJ)I", sig := { parameters := [.long, .long], returnType := some .int }, accessFlags := 9, code := some k9c0 }
def k9c1 : Code := { maxStack := 6, maxLocals := 4, code := jdk_35_method_43_code, exceptionTable := #[], attributes := #[] }
def k9m1 : Method := { name := "compareUnsigned", desc := "(JJ)I", sig := { parameters := [.long, .long], returnType := some .int }, accessFlags := 9, code := some k9c1 }
/-- java/lang/Long -/
def k9 : Class := { plain "java/lang/Long" (some 6) with
  accessFlags := 49
  interfaces := #[3, 7, 8]
  cf := some (fileOf pool9 1 #[.nestMembers #[235]] #[{ accessFlags := 9, nameIndex := 304, descriptorIndex := 305, attributes := #[] }, { accessFlags := 9, nameIndex := 469, descriptorIndex := 305, attributes := #[] }] 49 271 #[363, 365, 367] #[{ accessFlags := 25, nameIndex := 369, descriptorIndex := 276, attributes := #[] }, { accessFlags := 25, nameIndex := 371, descriptorIndex := 276, attributes := #[] }, { accessFlags := 25, nameIndex := 361, descriptorIndex := 362, attributes := #[] }, { accessFlags := 18, nameIndex := 275, descriptorIndex := 276, attributes := #[] }, { accessFlags := 25, nameIndex := 376, descriptorIndex := 377, attributes := #[] }, { accessFlags := 25, nameIndex := 379, descriptorIndex := 377, attributes := #[] }, { accessFlags := 26, nameIndex := 381, descriptorIndex := 276, attributes := #[] }])
  fields := #[{ name := "MIN_VALUE", type := .long, accessFlags := 25, slot := 0, constantValue := 0 }, { name := "MAX_VALUE", type := .long, accessFlags := 25, slot := 1, constantValue := 0 }, { name := "TYPE", type := (.object "java/lang/Class"), accessFlags := 25, slot := 2, constantValue := 0 }, { name := "value", type := .long, accessFlags := 18, slot := 0, constantValue := 0 }, { name := "SIZE", type := .int, accessFlags := 25, slot := 3, constantValue := 0 }, { name := "BYTES", type := .int, accessFlags := 25, slot := 4, constantValue := 0 }, { name := "serialVersionUID", type := .long, accessFlags := 26, slot := 5, constantValue := 0 }]
  methods := #[k9m0, k9m1]
  instanceTypes := #[.long]
  staticTypes := #[.long, .long, (.object "java/lang/Class"), .int, .int, .long]
  resolved := Array.replicate 524 none
  statics := none }

def pool10 : Array CpInfo := pool [(1, u "java/lang/Cloneable"), (0, .class_ 1), (0, u "java/lang/Object"), (0, .class_ 3)] 3

/-- java/lang/Cloneable -/
def k10 : Class := { plain "java/lang/Cloneable" (some 0) with
  accessFlags := 1537
  interfaces := #[]
  cf := some (fileOf pool10 2 #[] #[] 1537 4 #[] #[])
  fields := #[]
  methods := #[]
  instanceTypes := #[]
  staticTypes := #[]
  resolved := Array.replicate 8 none
  statics := none }

/-- the primitive byte -/
def k11 : Class := { plain "byte" none with kind := .primitive 'B', accessFlags := 0x411 }
/-- [B -/
def k12 : Class := { plain "[B" (some 0) with kind := .array 11 .byte, interfaces := #[10, 5], accessFlags := 1041 }

/-- the primitive int -/
def k13 : Class := { plain "int" none with kind := .primitive 'I', accessFlags := 0x411 }
/-- [I -/
def k14 : Class := { plain "[I" (some 0) with kind := .array 13 .int, interfaces := #[10, 5], accessFlags := 1041 }

def heap : Heap := #[]
def classes : Array Class := #[k0, k1, k2, k3, k4, k5, k6, k7, k8, k9, k10, k11, k12, k13, k14]
def interned : List (Array UInt16 × Addr) := []
def slotsUsed : Nat := 0
def theMethod : MethodId := ⟨1, 1⟩
def args0 : Array Value := #[.long 5, .long 6, .long 7, .long 8, .int 9]
def aboutOver (below : List Frame) : State where
  vm := { classes := classes, interned := interned.toArray }
  heap := heap
  slotsUsed := slotsUsed
  threads := #[{ frames := .invoking theMethod args0 :: below }]
def below0 : List Frame := [.native { method := ⟨0, 0⟩, args := #[] }]
def about1 : State := aboutOver below0
def p0 : Program := .bare "" "" ""
def e0 : Env := launch0.env 0 0 0
theorem w_frames : about1.frames = Frame.invoking theMethod args0 :: below0 := rfl
set_option maxRecDepth 65536 in
theorem w_args : argsFit about1.vm theMethod args0 = true := by decide +kernel
set_option maxRecDepth 65536 in
theorem w_heap : heapFits about1 = true := by decide +kernel
set_option maxRecDepth 65536 in
theorem w_runnable : about1.curStatus? = some .runnable := by decide +kernel
set_option maxRecDepth 65536 in
theorem w_alone : about1.alone = true := by decide +kernel
set_option maxRecDepth 65536 in
theorem w_named : about1.methodNamed? x = some theMethod := by decide +kernel
set_option maxRecDepth 65536 in
theorem w_hears : about1.hears theMethod below0 = true := by decide +kernel
set_option maxRecDepth 65536 in
theorem w_ripe : about1.ripe theMethod args0 below0 = true := by decide +kernel
theorem w_running : about1.status = .running := rfl
set_option maxRecDepth 65536 in
theorem w_room : about1.hasRoom e0.platform room_1 = true :=
  launch0.hasRoom_least _ room_1 (by decide +kernel) (by decide +kernel) (by decide +kernel) (by decide +kernel) (by decide +kernel) (by decide +kernel)
theorem allAtoms_all (ts : List Jvm.Cond) (a : Array Jvm.Value) (st : Jvm.State) : (allAtoms ts).before a st = ts.all (fun c => c.before a st) := by
  induction ts with
  | nil => rfl
  | cons c t ih =>
    show (Jvm.Cond.and c (allAtoms t)).before a st = _
    rw [Jvm.Cond.before_and, ih, List.all_cons]
def words1 : List Jvm.Cond := Jvm.Cond.code x code maxLocals ret :: tables_1
/-- a 'code' word, met by the world's own term for the bytes: nothing is compared byte by byte -/
theorem code_word {y : MethodName} {bytes : ByteArray} {mx : Nat} {rt : Option FieldType} {a : Array Value} {s : State} {m : MethodId} {meth : Method} {c : Code} (h1 : s.methodNamed? y = some m) (h2 : s.vm.method? m = some meth) (h3 : meth.code = some c) (h4 : c.code = bytes)
    (h5 : (c.maxLocals == mx && c.exceptionTable.isEmpty && decide (c.maxStack ≤ mostOperands) && decide (meth.sig.returnType = rt) && !meth.locks && decide (parseMethodDescriptor y.desc = some meth.sig)) = true) : (Jvm.Cond.code y bytes mx rt).before a s = true := by
  simp only [Bool.and_eq_true, beq_iff_eq, Bool.not_eq_true', decide_eq_true_eq] at h5
  obtain ⟨⟨⟨⟨⟨g1, g2⟩, g3⟩, g4⟩, g5⟩, g6⟩ := h5
  simp [Cond.before, Cond.holds, Cond.value, h1, h2, h3, h4, g1, g2, g3, g4, g5, g6]
def isCode : Jvm.Cond → Bool
  | .code _ _ _ _ => true
  | _ => false
theorem all_split {L : List Jvm.Cond} {P : Jvm.Cond → Bool} (h1 : L.all (fun c => isCode c || P c) = true) (h2 : ∀ c ∈ L.filter isCode, P c = true) : L.all P = true := by
  refine List.all_eq_true.mpr fun c hc => ?_
  have h := List.all_eq_true.mp h1 c hc
  rcases Bool.eq_false_or_eq_true (isCode c) with hi | hi
  · exact h2 c (List.mem_filter.mpr ⟨hc, hi⟩)
  · simpa [hi] using h
set_option maxRecDepth 65536 in
theorem w_c0 : (Jvm.Cond.code x code maxLocals ret).before args0 about1 = true := code_word (m := ⟨1, 1⟩) (meth := k1m1) (c := k1c1) (by decide +kernel) rfl rfl rfl (by decide +kernel)
set_option maxRecDepth 65536 in
theorem w_c1 : (Jvm.Cond.code ({ cls := "com/example/tidewall/tidewall/Address", name := "<init>", desc := "(JJ)V" } : Jvm.MethodName) prog_1_method_1_code (5 : Nat) (Option.none : Option Jvm.ClassFile.FieldType)).before args0 about1 = true := code_word (m := ⟨4, 0⟩) (meth := k4m0) (c := k4c0) (by decide +kernel) rfl rfl rfl (by decide +kernel)
set_option maxRecDepth 65536 in
theorem w_c2 : (Jvm.Cond.code ({ cls := "java/lang/Record", name := "<init>", desc := "()V" } : Jvm.MethodName) jdk_30_method_1_code (1 : Nat) (Option.none : Option Jvm.ClassFile.FieldType)).before args0 about1 = true := code_word (m := ⟨2, 0⟩) (meth := k2m0) (c := k2c0) (by decide +kernel) rfl rfl rfl (by decide +kernel)
set_option maxRecDepth 65536 in
theorem w_c3 : (Jvm.Cond.code ({ cls := "java/lang/Object", name := "<init>", desc := "()V" } : Jvm.MethodName) object_method_1_code (1 : Nat) (Option.none : Option Jvm.ClassFile.FieldType)).before args0 about1 = true := code_word (m := ⟨0, 0⟩) (meth := k0m0) (c := k0c0) (by decide +kernel) rfl rfl rfl (by decide +kernel)
set_option maxRecDepth 65536 in
theorem w_c4 : (Jvm.Cond.code ({ cls := "com/example/tidewall/tidewall/AddressCompareToPinLaw", name := "expectedSign", desc := "(JJJJ)I" } : Jvm.MethodName) method_3_code (9 : Nat) (Option.some Jvm.ClassFile.FieldType.int)).before args0 about1 = true := code_word (m := ⟨1, 2⟩) (meth := k1m2) (c := k1c2) (by decide +kernel) rfl rfl rfl (by decide +kernel)
set_option maxRecDepth 65536 in
theorem w_c5 : (Jvm.Cond.code ({ cls := "com/example/tidewall/tidewall/AddressCompareToPinLaw", name := "unsignedSign", desc := "(JJ)I" } : Jvm.MethodName) method_4_code (8 : Nat) (Option.some Jvm.ClassFile.FieldType.int)).before args0 about1 = true := code_word (m := ⟨1, 3⟩) (meth := k1m3) (c := k1c3) (by decide +kernel) rfl rfl rfl (by decide +kernel)
set_option maxRecDepth 65536 in
theorem w_c6 : (Jvm.Cond.code ({ cls := "com/example/tidewall/tidewall/Address", name := "compareTo", desc := "(Lcom/example/tidewall/tidewall/Address;)I" } : Jvm.MethodName) prog_1_method_8_code (3 : Nat) (Option.some Jvm.ClassFile.FieldType.int)).before args0 about1 = true := code_word (m := ⟨4, 1⟩) (meth := k4m1) (c := k4c1) (by decide +kernel) rfl rfl rfl (by decide +kernel)
set_option maxRecDepth 65536 in
theorem w_c7 : (Jvm.Cond.code ({ cls := "java/lang/Long", name := "compareUnsigned", desc := "(JJ)I" } : Jvm.MethodName) jdk_35_method_43_code (4 : Nat) (Option.some Jvm.ClassFile.FieldType.int)).before args0 about1 = true := code_word (m := ⟨9, 1⟩) (meth := k9m1) (c := k9c1) (by decide +kernel) rfl rfl rfl (by decide +kernel)
set_option maxRecDepth 65536 in
theorem w_c8 : (Jvm.Cond.code ({ cls := "java/lang/Long", name := "compare", desc := "(JJ)I" } : Jvm.MethodName) jdk_35_method_42_code (4 : Nat) (Option.some Jvm.ClassFile.FieldType.int)).before args0 about1 = true := code_word (m := ⟨9, 0⟩) (meth := k9m0) (c := k9c0) (by decide +kernel) rfl rfl rfl (by decide +kernel)
set_option maxRecDepth 65536 in
theorem w_c9 : (Jvm.Cond.code ({ cls := "com/example/tidewall/tidewall/AddressCompareToPinLaw", name := "sign", desc := "(I)I" } : Jvm.MethodName) method_5_code (1 : Nat) (Option.some Jvm.ClassFile.FieldType.int)).before args0 about1 = true := code_word (m := ⟨1, 4⟩) (meth := k1m4) (c := k1c4) (by decide +kernel) rfl rfl rfl (by decide +kernel)
def codes1 : List Jvm.Cond := [Jvm.Cond.code x code maxLocals ret, Jvm.Cond.code ({ cls := "com/example/tidewall/tidewall/Address", name := "<init>", desc := "(JJ)V" } : Jvm.MethodName) prog_1_method_1_code (5 : Nat) (Option.none : Option Jvm.ClassFile.FieldType), Jvm.Cond.code ({ cls := "java/lang/Record", name := "<init>", desc := "()V" } : Jvm.MethodName) jdk_30_method_1_code (1 : Nat) (Option.none : Option Jvm.ClassFile.FieldType), Jvm.Cond.code ({ cls := "java/lang/Object", name := "<init>", desc := "()V" } : Jvm.MethodName) object_method_1_code (1 : Nat) (Option.none : Option Jvm.ClassFile.FieldType), Jvm.Cond.code ({ cls := "com/example/tidewall/tidewall/AddressCompareToPinLaw", name := "expectedSign", desc := "(JJJJ)I" } : Jvm.MethodName) method_3_code (9 : Nat) (Option.some Jvm.ClassFile.FieldType.int), Jvm.Cond.code ({ cls := "com/example/tidewall/tidewall/AddressCompareToPinLaw", name := "unsignedSign", desc := "(JJ)I" } : Jvm.MethodName) method_4_code (8 : Nat) (Option.some Jvm.ClassFile.FieldType.int), Jvm.Cond.code ({ cls := "com/example/tidewall/tidewall/Address", name := "compareTo", desc := "(Lcom/example/tidewall/tidewall/Address;)I" } : Jvm.MethodName) prog_1_method_8_code (3 : Nat) (Option.some Jvm.ClassFile.FieldType.int), Jvm.Cond.code ({ cls := "java/lang/Long", name := "compareUnsigned", desc := "(JJ)I" } : Jvm.MethodName) jdk_35_method_43_code (4 : Nat) (Option.some Jvm.ClassFile.FieldType.int), Jvm.Cond.code ({ cls := "java/lang/Long", name := "compare", desc := "(JJ)I" } : Jvm.MethodName) jdk_35_method_42_code (4 : Nat) (Option.some Jvm.ClassFile.FieldType.int), Jvm.Cond.code ({ cls := "com/example/tidewall/tidewall/AddressCompareToPinLaw", name := "sign", desc := "(I)I" } : Jvm.MethodName) method_5_code (1 : Nat) (Option.some Jvm.ClassFile.FieldType.int)]
set_option maxRecDepth 65536 in
theorem codes_eq : words1.filter isCode = codes1 := rfl
theorem w_codes : ∀ c ∈ words1.filter isCode, c.before args0 about1 = true := by
  rw [codes_eq]
  intro c hc
  simp only [codes1, List.mem_cons, List.not_mem_nil, or_false] at hc
  rcases hc with rfl | rfl | rfl | rfl | rfl | rfl | rfl | rfl | rfl | rfl
  · exact w_c0
  · exact w_c1
  · exact w_c2
  · exact w_c3
  · exact w_c4
  · exact w_c5
  · exact w_c6
  · exact w_c7
  · exact w_c8
  · exact w_c9
set_option maxRecDepth 65536 in
theorem w_t1 : (words1.take 24).all (fun c => isCode c || c.before args0 about1) = true := by decide +kernel
set_option maxRecDepth 65536 in
theorem w_t2 : (words1.drop 24).all (fun c => isCode c || c.before args0 about1) = true := by decide +kernel
theorem w_tables : (allAtoms (Jvm.Cond.code x code maxLocals ret :: tables_1)).before args0 about1 = true := by
  rw [allAtoms_all]
  show words1.all (fun c => c.before args0 about1) = true
  refine all_split ?_ w_codes
  rw [← List.take_append_drop 24 words1, List.all_append, w_t1, w_t2]
  rfl
set_option maxRecDepth 65536 in
theorem w_case : (Jvm.Cond.and given_1 narrow_1).before args0 about1 = true := by decide +kernel
theorem w_applies : (headSpec (Jvm.Cond.code x code maxLocals ret :: tables_1) room_1).applies x e0.platform about1 = true :=
  (Spec.applies_iff w_frames).mpr ⟨w_running, w_runnable, w_alone, w_named, w_hears, w_ripe, w_room, w_tables⟩
theorem atStart : AtStart classFile x code maxLocals ret World_1 tables_1 room_1 Calls_1 rest_1 Pre_1 launch0 p0 e0 about1 theMethod args0 below0 :=
  ⟨lists_1, trivial, launch0.admits_env _ _ _, launch0.least_env, fairChoices_fair.cas, fairChoices_fair.clock, w_frames, w_args, w_heap, w_applies, trivial, trivial, w_case⟩
end start1
theorem witness_1 : WitnessClaimed_1 := ⟨start1.p0, start1.e0, start1.about1, start1.theMethod, start1.args0, start1.below0, start1.atStart⟩
end Jvm.Pilot.@@N@@
