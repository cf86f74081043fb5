import JvmDerived
import JvmDerived.Pilot.@@N@@Statement
import JvmDerived.Pilot.@@N@@Code
set_option linter.unusedVariables false
set_option linter.unusedSimpArgs false
namespace Jvm.RoadKit
open Sem ClassFile Op Lib Jvm.Stand Jvm.Free Jvm.LawKit
section New
variable {p : Program} {l : Launch} {e : Env} {R : Room} {s : State} {m : MethodId} {args : Array Value} {below : List Frame} {meth : Method} {c : Code} {T : State} {locs : List Loc} {cells slots : Nat}
theorem retI (X : Stand p l e R s m args below meth c T locs cells slots) (hx : p.tables.exec = Jvm.exec) {pc : Nat} {Ls : Array Slot} {z : Int32} {rest : List Value} (hret : meth.sig.returnType = some .int) (hd : decode c.code pc = .ok (.ireturn, 1)) {fs : List Frame}
    (hl : ∀ (f : JFrame) (acts : List Action), f.method = m → f.locked = none → f.entered = [] → (doReturn e (T.setTop f) acts (some (.int z))).1 = T.setFrames fs) : Steps p.tables e below (T.setTop (mkF m pc Ls (.int z :: rest))) (T.setFrames fs) := by
  have hm' : T.vm.method? m = some meth := X.method'
  have hn : narrow .int (.int z) = .int z := rfl
  show Steps p.tables e below (T.setTop { method := m, pc := pc, locals := Ls, stack := _ :: rest, locked := none }) _
  jvm_step X.here [X.here.top, hx, hd, hm', hret, hn]
  first | (intro acts; rw [hl _ acts rfl rfl rfl]) | rw [hl _ _ rfl rfl rfl]
  exact Steps.refl _
/-- the run from G on comes to an end that Q speaks of -/
def Go (p : Program) (e : Env) (below : List Frame) (s : State) (Q : Option Value → Heap → List Loc → Prop) (ck sk : Nat) (G : State) : Prop :=
  ∃ s₂ o, Steps p.tables e below G s₂ ∧ s₂.status = .running ∧ Ended s₂ below o ∧ ∃ v L, o = .returned v ∧ Q v s₂.heap L ∧ FrameEnd s o s₂ L ck sk
theorem Go.of {Q : Option Value → Heap → List Loc → Prop} {ck sk : Nat} {G G' : State} (h : ∀ t, Steps p.tables e below G' t → Steps p.tables e below G t) (k : Go p e below s Q ck sk G') : Go p e below s Q ck sk G := by
  obtain ⟨s₂, o, h1, r⟩ := k
  exact ⟨s₂, o, h _ h1, r⟩
theorem Go.ret (X : Stand p l e R s m args below meth c T locs cells slots) {Q : Option Value → Heap → List Loc → Prop} {ck sk : Nat} {G : State} (v : Option Value) (hv : meth.sig.returnType = none → v = none) (hlk : meth.locks = false) (hq : Q v T.heap locs) (hc : cells ≤ ck) (hs : slots ≤ sk)
    (st : ∀ fs, (∀ (f : JFrame) (acts : List Action), f.method = m → f.locked = none → f.entered = [] → (doReturn e (T.setTop f) acts v).1 = T.setFrames fs) → Steps p.tables e below G (T.setFrames fs)) : Go p e below s Q ck sk G := by
  obtain ⟨fs, hr, hrun, hended, hW, hsame⟩ := X.leave hv hlk
  exact ⟨_, _, st fs hr, hrun, hended, v, locs, rfl, hq, ⟨_, rfl⟩, hW, hsame.mono hc hs⟩
/-- what it returns, that it wrote nothing old, and that the heap is as it was -/
def QP (val : Option Value) (h0 : Heap) (n0 : Nat) (v : Option Value) (h : Heap) (L : List Loc) : Prop := v = val ∧ Fr n0 L ∧ h = h0
/-- what it returns, and that it wrote nothing old -/
def QL (val : Option Value) (n0 : Nat) (v : Option Value) (h : Heap) (L : List Loc) : Prop := v = val ∧ Fr n0 L
theorem lremM {g : JFrame} {target : State} (X : Stand p l e R s m args below meth c T locs cells slots) (hx : p.tables.exec = Jvm.exec) (hg : g.method = m) {x y : Int64} {rest : List Value} (hd : decode c.code g.pc = .ok (.lrem, 1)) (hs : g.stack = .long y :: .long x :: rest) (hy : y ≠ 0)
    (hr : Steps p.tables e below (T.setTop { g with pc := g.pc + 1, stack := .long (x % y) :: rest }) target) : Steps p.tables e below (T.setTop g) target := by
  have q : x - x / y * y = x % y := lrem_mod x y
  exact XS.lrem X.here hx hg hd hs hy (by rw [q]; exact hr)
end New
end Jvm.RoadKit
namespace Jvm.Pilot.@@N@@
open Jvm Jvm.ClassFile Sem Op Lib Jvm.Free Jvm.Stand Jvm.LawKit Jvm.RoadKit Bundle Jvm.Pilot.@@N@@.Jvm.D
theorem own_pn0 : plainName "com/example/canonym/canonym/iri/PercentEncoding" = true := by first | (simp [plainName, overriddenIn]; done) | decide +kernel
theorem d1_0 : decode prog_19_method_12_code 0 = .ok (.iload_n 0, 1) := by decide +kernel
theorem d1_1 : decode prog_19_method_12_code 1 = .ok (.sipush 128, 3) := by decide +kernel
theorem d1_4 : decode prog_19_method_12_code 4 = .ok (.if_icmp .ge 8, 3) := by decide +kernel
theorem d1_7 : decode prog_19_method_12_code 7 = .ok (.iconst 1, 1) := by decide +kernel
theorem d1_8 : decode prog_19_method_12_code 8 = .ok (.istore_n 1, 1) := by decide +kernel
theorem d1_9 : decode prog_19_method_12_code 9 = .ok (.goto 28, 3) := by decide +kernel
theorem d1_12 : decode prog_19_method_12_code 12 = .ok (.iload_n 0, 1) := by decide +kernel
theorem d1_13 : decode prog_19_method_12_code 13 = .ok (.sipush 2048, 3) := by decide +kernel
theorem d1_16 : decode prog_19_method_12_code 16 = .ok (.if_icmp .ge 8, 3) := by decide +kernel
theorem d1_19 : decode prog_19_method_12_code 19 = .ok (.iconst 2, 1) := by decide +kernel
theorem d1_20 : decode prog_19_method_12_code 20 = .ok (.istore_n 1, 1) := by decide +kernel
theorem d1_21 : decode prog_19_method_12_code 21 = .ok (.goto 16, 3) := by decide +kernel
theorem d1_24 : decode prog_19_method_12_code 24 = .ok (.iload_n 0, 1) := by decide +kernel
theorem d1_25 : decode prog_19_method_12_code 25 = .ok (.ldc 119, 2) := by decide +kernel
theorem d1_27 : decode prog_19_method_12_code 27 = .ok (.if_icmp .ge 8, 3) := by decide +kernel
theorem d1_30 : decode prog_19_method_12_code 30 = .ok (.iconst 3, 1) := by decide +kernel
theorem d1_31 : decode prog_19_method_12_code 31 = .ok (.istore_n 1, 1) := by decide +kernel
theorem d1_32 : decode prog_19_method_12_code 32 = .ok (.goto 5, 3) := by decide +kernel
theorem d1_35 : decode prog_19_method_12_code 35 = .ok (.iconst 4, 1) := by decide +kernel
theorem d1_36 : decode prog_19_method_12_code 36 = .ok (.istore_n 1, 1) := by decide +kernel
theorem d1_37 : decode prog_19_method_12_code 37 = .ok (.iload_n 1, 1) := by decide +kernel
theorem d1_38 : decode prog_19_method_12_code 38 = .ok (.ireturn, 1) := by decide +kernel
theorem ef_1 (m : MethodId) (p0 : Int32) : entryFrame m #[(.int p0)] 2 = mkF m 0 #[.val (.int p0), .unset] [] := by first | (simp [entryFrame, mkF, argsToLocals, Value.category]; done) | rfl
def F1 (p0 : Int32) : Int32 := (if p0 < (128 : Int32) then (1 : Int32) else (if p0 < (2048 : Int32) then (2 : Int32) else (if p0 < (65536 : Int32) then (3 : Int32) else (4 : Int32))))
set_option maxRecDepth 65536 in
set_option maxHeartbeats 40000000 in
theorem rm1 (l : Launch) (Z : State) (az : Array Value) (hw : ∀ d ∈ tables_1, d.before az Z = true) (ws : List Jvm.Cond) (p0 : Int32)  (h0 : Heap) (n0 : Nat) (Z0 : n0 ≤ h0.size) :
    MetFree l (⟨"com/example/canonym/canonym/iri/PercentEncoding", "utf8Length", "(I)I"⟩ : MethodName) (head1 (Jvm.Cond.code (⟨"com/example/canonym/canonym/iri/PercentEncoding", "utf8Length", "(I)I"⟩ : MethodName) prog_19_method_12_code 2 (some .int) :: ws) ({ frames := 0, cells := 0, slots := 0, locals := 0 } : Room)) (fun a U => a = #[(.int p0)] ∧ Z.Warmed39 U.vm ∧ U.heap = h0) (fun _ _ _ _ _ => True) (fun _ U o U' => ∃ v L, o = .returned v ∧ (QP (some (.int (F1 p0))) h0 n0) v U'.heap L ∧ FrameEnd U o U' L ({ frames := 0, cells := 0, slots := 0, locals := 0 } : Room).cells ({ frames := 0, cells := 0, slots := 0, locals := 0 } : Room).slots) := by
  refine MetFree.of_bodySF (plainFor_of_name own_pn0) hisR ?_
  intro p e s m args below meth c s₁ Bd hml0 hP hK
  obtain ⟨rfl, hZ, hh⟩ := hP
  have hx := Bd.exec
  have hby := Bd.bytes
  have hml : c.maxLocals = 2 := hml0
  have hown : s.vm.findClass "com/example/canonym/canonym/iri/PercentEncoding" = some m.cls := findClass_of_methodNamed Bd.named
  have hnm := (name_of_methodNamed Bd.named Bd.method).1
  have hlk : meth.locks = false := BodyLoose.notSynchronized Bd
  have X0 : Stand p l e ({ frames := 0, cells := 0, slots := 0, locals := 0 } : Room) s m #[(.int p0)] below meth c s₁ [] 0 0 := Stand.of_body Bd
  have e0 : s₁.heap = h0 := by rw [← hh, Bd.state]; rfl
  have N0 := Fr.nil n0
  show Go p e below s (QP (some (.int (F1 p0))) h0 n0) ({ frames := 0, cells := 0, slots := 0, locals := 0 } : Room).cells ({ frames := 0, cells := 0, slots := 0, locals := 0 } : Room).slots (s₁.setTop (entryFrame m #[(.int p0)] 2))
  refine Go.of (fun t k => castTop (ef_1 m p0) k) ?_
  show Go p e below s _ _ _ (s₁.setTop (mkF m 0 #[.val (.int p0), .unset] []))
  unfold F1
  refine Go.of (fun t k => XS.iloadN X0.here hx rfl (hb hby d1_0) rfl k) ?_
  show Go p e below s _ _ _ (s₁.setTop (mkF m 1 #[.val (.int p0), .unset] [(.int p0)]))
  refine Go.of (fun t k => XS.sipush X0.here hx rfl (hb hby d1_1) k) ?_
  show Go p e below s _ _ _ (s₁.setTop (mkF m 4 #[.val (.int p0), .unset] [(.int (128 : Int32)), (.int p0)]))
  by_cases hc4_1 : p0 < (128 : Int32)
  · rewrite [if_pos hc4_1]
    refine Go.of (fun t k => XS.icmpNo X0.here hx rfl (hb hby d1_4) rfl (tlt hc4_1).2.1 k) ?_
    show Go p e below s _ _ _ (s₁.setTop (mkF m 7 #[.val (.int p0), .unset] []))
    refine Go.of (fun t k => XS.iconst X0.here hx rfl (hb hby d1_7) k) ?_
    show Go p e below s _ _ _ (s₁.setTop (mkF m 8 #[.val (.int p0), .unset] [(.int (1 : Int32))]))
    refine Go.of (fun t k => XS.istoreN X0.here hx rfl (hb hby d1_8) rfl (l' := #[.val (.int p0), .val (.int (1 : Int32))]) rfl k) ?_
    show Go p e below s _ _ _ (s₁.setTop (mkF m 9 #[.val (.int p0), .val (.int (1 : Int32))] []))
    refine Go.of (fun t k => XS.goto X0.here hx rfl (pc0 := 9) (pc' := 37) rfl (hb hby d1_9) (by decide) (by decide) k) ?_
    show Go p e below s _ _ _ (s₁.setTop (mkF m 37 #[.val (.int p0), .val (.int (1 : Int32))] []))
    refine Go.of (fun t k => XS.iloadN X0.here hx rfl (hb hby d1_37) rfl k) ?_
    show Go p e below s _ _ _ (s₁.setTop (mkF m 38 #[.val (.int p0), .val (.int (1 : Int32))] [(.int (1 : Int32))]))
    exact Go.ret X0 (some (.int (1 : Int32))) (fun h => by rw [Bd.returns] at h; cases h) hlk ⟨rfl, N0, e0⟩ (by decide) (by decide) (fun fs hr => (retI X0 hx Bd.returns (hb hby d1_38) hr))
  · rewrite [if_neg hc4_1]
    refine Go.of (fun t k => XS.icmpYes X0.here hx rfl (pc0 := 4) (pc' := 12) rfl (hb hby d1_4) rfl (flt hc4_1).2.1 (by decide) (by decide) k) ?_
    show Go p e below s _ _ _ (s₁.setTop (mkF m 12 #[.val (.int p0), .unset] []))
    refine Go.of (fun t k => XS.iloadN X0.here hx rfl (hb hby d1_12) rfl k) ?_
    show Go p e below s _ _ _ (s₁.setTop (mkF m 13 #[.val (.int p0), .unset] [(.int p0)]))
    refine Go.of (fun t k => XS.sipush X0.here hx rfl (hb hby d1_13) k) ?_
    show Go p e below s _ _ _ (s₁.setTop (mkF m 16 #[.val (.int p0), .unset] [(.int (2048 : Int32)), (.int p0)]))
    by_cases hc16_2 : p0 < (2048 : Int32)
    · rewrite [if_pos hc16_2]
      refine Go.of (fun t k => XS.icmpNo X0.here hx rfl (hb hby d1_16) rfl (tlt hc16_2).2.1 k) ?_
      show Go p e below s _ _ _ (s₁.setTop (mkF m 19 #[.val (.int p0), .unset] []))
      refine Go.of (fun t k => XS.iconst X0.here hx rfl (hb hby d1_19) k) ?_
      show Go p e below s _ _ _ (s₁.setTop (mkF m 20 #[.val (.int p0), .unset] [(.int (2 : Int32))]))
      refine Go.of (fun t k => XS.istoreN X0.here hx rfl (hb hby d1_20) rfl (l' := #[.val (.int p0), .val (.int (2 : Int32))]) rfl k) ?_
      show Go p e below s _ _ _ (s₁.setTop (mkF m 21 #[.val (.int p0), .val (.int (2 : Int32))] []))
      refine Go.of (fun t k => XS.goto X0.here hx rfl (pc0 := 21) (pc' := 37) rfl (hb hby d1_21) (by decide) (by decide) k) ?_
      show Go p e below s _ _ _ (s₁.setTop (mkF m 37 #[.val (.int p0), .val (.int (2 : Int32))] []))
      refine Go.of (fun t k => XS.iloadN X0.here hx rfl (hb hby d1_37) rfl k) ?_
      show Go p e below s _ _ _ (s₁.setTop (mkF m 38 #[.val (.int p0), .val (.int (2 : Int32))] [(.int (2 : Int32))]))
      exact Go.ret X0 (some (.int (2 : Int32))) (fun h => by rw [Bd.returns] at h; cases h) hlk ⟨rfl, N0, e0⟩ (by decide) (by decide) (fun fs hr => (retI X0 hx Bd.returns (hb hby d1_38) hr))
    · rewrite [if_neg hc16_2]
      refine Go.of (fun t k => XS.icmpYes X0.here hx rfl (pc0 := 16) (pc' := 24) rfl (hb hby d1_16) rfl (flt hc16_2).2.1 (by decide) (by decide) k) ?_
      show Go p e below s _ _ _ (s₁.setTop (mkF m 24 #[.val (.int p0), .unset] []))
      refine Go.of (fun t k => XS.iloadN X0.here hx rfl (hb hby d1_24) rfl k) ?_
      show Go p e below s _ _ _ (s₁.setTop (mkF m 25 #[.val (.int p0), .unset] [(.int p0)]))
      refine Go.of (X0.ldcInt hx hown (mvT hZ (hw _ (List.mem_of_getElem? (i := 6) rfl))) (g := (mkF m 25 #[.val (.int p0), .unset] [(.int p0)])) rfl (hb hby d1_25)) ?_
      show Go p e below s _ _ _ (s₁.setTop (mkF m 27 #[.val (.int p0), .unset] [(.int (65536 : Int32)), (.int p0)]))
      by_cases hc27_3 : p0 < (65536 : Int32)
      · rewrite [if_pos hc27_3]
        refine Go.of (fun t k => XS.icmpNo X0.here hx rfl (hb hby d1_27) rfl (tlt hc27_3).2.1 k) ?_
        show Go p e below s _ _ _ (s₁.setTop (mkF m 30 #[.val (.int p0), .unset] []))
        refine Go.of (fun t k => XS.iconst X0.here hx rfl (hb hby d1_30) k) ?_
        show Go p e below s _ _ _ (s₁.setTop (mkF m 31 #[.val (.int p0), .unset] [(.int (3 : Int32))]))
        refine Go.of (fun t k => XS.istoreN X0.here hx rfl (hb hby d1_31) rfl (l' := #[.val (.int p0), .val (.int (3 : Int32))]) rfl k) ?_
        show Go p e below s _ _ _ (s₁.setTop (mkF m 32 #[.val (.int p0), .val (.int (3 : Int32))] []))
        refine Go.of (fun t k => XS.goto X0.here hx rfl (pc0 := 32) (pc' := 37) rfl (hb hby d1_32) (by decide) (by decide) k) ?_
        show Go p e below s _ _ _ (s₁.setTop (mkF m 37 #[.val (.int p0), .val (.int (3 : Int32))] []))
        refine Go.of (fun t k => XS.iloadN X0.here hx rfl (hb hby d1_37) rfl k) ?_
        show Go p e below s _ _ _ (s₁.setTop (mkF m 38 #[.val (.int p0), .val (.int (3 : Int32))] [(.int (3 : Int32))]))
        exact Go.ret X0 (some (.int (3 : Int32))) (fun h => by rw [Bd.returns] at h; cases h) hlk ⟨rfl, N0, e0⟩ (by decide) (by decide) (fun fs hr => (retI X0 hx Bd.returns (hb hby d1_38) hr))
      · rewrite [if_neg hc27_3]
        refine Go.of (fun t k => XS.icmpYes X0.here hx rfl (pc0 := 27) (pc' := 35) rfl (hb hby d1_27) rfl (flt hc27_3).2.1 (by decide) (by decide) k) ?_
        show Go p e below s _ _ _ (s₁.setTop (mkF m 35 #[.val (.int p0), .unset] []))
        refine Go.of (fun t k => XS.iconst X0.here hx rfl (hb hby d1_35) k) ?_
        show Go p e below s _ _ _ (s₁.setTop (mkF m 36 #[.val (.int p0), .unset] [(.int (4 : Int32))]))
        refine Go.of (fun t k => XS.istoreN X0.here hx rfl (hb hby d1_36) rfl (l' := #[.val (.int p0), .val (.int (4 : Int32))]) rfl k) ?_
        show Go p e below s _ _ _ (s₁.setTop (mkF m 37 #[.val (.int p0), .val (.int (4 : Int32))] []))
        refine Go.of (fun t k => XS.iloadN X0.here hx rfl (hb hby d1_37) rfl k) ?_
        show Go p e below s _ _ _ (s₁.setTop (mkF m 38 #[.val (.int p0), .val (.int (4 : Int32))] [(.int (4 : Int32))]))
        exact Go.ret X0 (some (.int (4 : Int32))) (fun h => by rw [Bd.returns] at h; cases h) hlk ⟨rfl, N0, e0⟩ (by decide) (by decide) (fun fs hr => (retI X0 hx Bd.returns (hb hby d1_38) hr))
theorem own_pd0 : parseMethodDescriptor "(I)I" = some ⟨[.int], some .int⟩ := by decide +kernel
theorem own_pn1 : plainName "com/example/canonym/canonym/iri/PercentEncodingUtf8LengthPinLaw" = true := by first | (simp [plainName, overriddenIn]; done) | decide +kernel
theorem ef_0 (m : MethodId) (p0 : Int32) : entryFrame m #[(.int p0)] maxLocals = mkF m 0 #[.val (.int p0), .unset, .unset] [] := by first | (simp [entryFrame, mkF, argsToLocals, Value.category, maxLocals]; done) | rfl
def F0_46 (p0 : Int32) (v2_46 : Int32) : Int32 := (if (F1 ((p0 &&& (2147483647 : Int32)) % (1114112 : Int32))) = v2_46 then (1 : Int32) else (0 : Int32))
def F0 (p0 : Int32) : Int32 := (if ((((p0 &&& (2147483647 : Int32)) % (1114112 : Int32)).toUInt32 >>> ((7 : Int32) &&& 31).toUInt32).toInt32) = (0 : Int32) then (F0_46 p0 (1 : Int32)) else (if ((((p0 &&& (2147483647 : Int32)) % (1114112 : Int32)).toUInt32 >>> ((11 : Int32) &&& 31).toUInt32).toInt32) = (0 : Int32) then (F0_46 p0 (2 : Int32)) else (if ((((p0 &&& (2147483647 : Int32)) % (1114112 : Int32)).toUInt32 >>> ((16 : Int32) &&& 31).toUInt32).toInt32) = (0 : Int32) then (F0_46 p0 (3 : Int32)) else (F0_46 p0 (4 : Int32)))))
set_option maxRecDepth 65536 in
set_option maxHeartbeats 40000000 in
theorem rm0 (l : Launch) (Z : State) (az : Array Value) (hw : ∀ d ∈ tables_1, d.before az Z = true) (ws : List Jvm.Cond) (p0 : Int32)  (h0 : Heap) (n0 : Nat) (Z0 : n0 ≤ h0.size) :
    MetFree l x (head1 (Jvm.Cond.code x code maxLocals ret :: ws) room_1) (fun a U => a = #[(.int p0)] ∧ Z.Warmed39 U.vm ∧ U.heap = h0) (fun _ _ _ _ _ => True) (fun _ U o U' => ∃ v L, o = .returned v ∧ (QL (some (.int (F0 p0))) n0) v U'.heap L ∧ FrameEnd U o U' L room_1.cells room_1.slots) := by
  refine MetFree.of_bodySF (plainFor_of_name own_pn1) hisR ?_
  intro p e s m args below meth c s₁ Bd hml0 hP hK
  obtain ⟨rfl, hZ, hh⟩ := hP
  have hx := Bd.exec
  have hby := Bd.bytes
  have hml : c.maxLocals = 3 := hml0
  have hown : s.vm.findClass "com/example/canonym/canonym/iri/PercentEncodingUtf8LengthPinLaw" = some m.cls := findClass_of_methodNamed Bd.named
  have hnm := (name_of_methodNamed Bd.named Bd.method).1
  have hlk : meth.locks = false := BodyLoose.notSynchronized Bd
  have X0 : Stand p l e room_1 s m #[(.int p0)] below meth c s₁ [] 0 0 := Stand.of_body Bd
  have e0 : s₁.heap = h0 := by rw [← hh, Bd.state]; rfl
  have N0 := Fr.nil n0
  show Go p e below s (QL (some (.int (F0 p0))) n0) room_1.cells room_1.slots (s₁.setTop (entryFrame m #[(.int p0)] maxLocals))
  refine Go.of (fun t k => castTop (ef_0 m p0) k) ?_
  show Go p e below s _ _ _ (s₁.setTop (mkF m 0 #[.val (.int p0), .unset, .unset] []))
  unfold F0
  refine Go.of (fun t k => XS.iloadN X0.here hx rfl (hb hby at_0) rfl k) ?_
  show Go p e below s _ _ _ (s₁.setTop (mkF m 1 #[.val (.int p0), .unset, .unset] [(.int p0)]))
  refine Go.of (X0.ldcInt hx hown (mvT hZ (hw _ (List.mem_of_getElem? (i := 0) rfl))) (g := (mkF m 1 #[.val (.int p0), .unset, .unset] [(.int p0)])) rfl (hb hby at_1)) ?_
  show Go p e below s _ _ _ (s₁.setTop (mkF m 3 #[.val (.int p0), .unset, .unset] [(.int (2147483647 : Int32)), (.int p0)]))
  refine Go.of (fun t k => XS.iand X0.here hx rfl (hb hby at_3) rfl k) ?_
  show Go p e below s _ _ _ (s₁.setTop (mkF m 4 #[.val (.int p0), .unset, .unset] [(.int (p0 &&& (2147483647 : Int32)))]))
  refine Go.of (X0.ldcInt hx hown (mvT hZ (hw _ (List.mem_of_getElem? (i := 1) rfl))) (g := (mkF m 4 #[.val (.int p0), .unset, .unset] [(.int (p0 &&& (2147483647 : Int32)))])) rfl (hb hby at_4)) ?_
  show Go p e below s _ _ _ (s₁.setTop (mkF m 6 #[.val (.int p0), .unset, .unset] [(.int (1114112 : Int32)), (.int (p0 &&& (2147483647 : Int32)))]))
  refine Go.of (fun t k => iremM X0 hx rfl (hb hby at_6) rfl (by decide) k) ?_
  show Go p e below s _ _ _ (s₁.setTop (mkF m 7 #[.val (.int p0), .unset, .unset] [(.int ((p0 &&& (2147483647 : Int32)) % (1114112 : Int32)))]))
  refine Go.of (fun t k => XS.istoreN X0.here hx rfl (hb hby at_7) rfl (l' := #[.val (.int p0), .val (.int ((p0 &&& (2147483647 : Int32)) % (1114112 : Int32))), .unset]) rfl k) ?_
  show Go p e below s _ _ _ (s₁.setTop (mkF m 8 #[.val (.int p0), .val (.int ((p0 &&& (2147483647 : Int32)) % (1114112 : Int32))), .unset] []))
  refine Go.of (fun t k => XS.iloadN X0.here hx rfl (hb hby at_8) rfl k) ?_
  show Go p e below s _ _ _ (s₁.setTop (mkF m 9 #[.val (.int p0), .val (.int ((p0 &&& (2147483647 : Int32)) % (1114112 : Int32))), .unset] [(.int ((p0 &&& (2147483647 : Int32)) % (1114112 : Int32)))]))
  refine Go.of (fun t k => XS.bipush X0.here hx rfl (hb hby at_9) k) ?_
  show Go p e below s _ _ _ (s₁.setTop (mkF m 11 #[.val (.int p0), .val (.int ((p0 &&& (2147483647 : Int32)) % (1114112 : Int32))), .unset] [(.int (7 : Int32)), (.int ((p0 &&& (2147483647 : Int32)) % (1114112 : Int32)))]))
  refine Go.of (fun t k => XS.iushr X0.here hx rfl (hb hby at_11) rfl k) ?_
  show Go p e below s _ _ _ (s₁.setTop (mkF m 12 #[.val (.int p0), .val (.int ((p0 &&& (2147483647 : Int32)) % (1114112 : Int32))), .unset] [(.int ((((p0 &&& (2147483647 : Int32)) % (1114112 : Int32)).toUInt32 >>> ((7 : Int32) &&& 31).toUInt32).toInt32))]))
  have jn46 : ∀ (v2_46 : Int32) (T_46 : State) (l_46 : List Loc) (X_46 : Stand p l e room_1 s m #[(.int p0)] below meth c T_46 l_46 0 0) (e_46 : T_46.heap = h0) (N_46 : Fr n0 l_46), Go p e below s (QL (some (.int (F0_46 p0 v2_46))) n0) room_1.cells room_1.slots (T_46.setTop (mkF m 46 #[.val (.int p0), .val (.int ((p0 &&& (2147483647 : Int32)) % (1114112 : Int32))), .val (.int v2_46)] [])) := by
    intro v2_46 T_46 l_46 X_46 e_46 N_46
    unfold F0_46
    refine Go.of (fun t k => XS.iloadN X_46.here hx rfl (hb hby at_46) rfl k) ?_
    show Go p e below s _ _ _ (T_46.setTop (mkF m 47 #[.val (.int p0), .val (.int ((p0 &&& (2147483647 : Int32)) % (1114112 : Int32))), .val (.int v2_46)] [(.int ((p0 &&& (2147483647 : Int32)) % (1114112 : Int32)))]))
    obtain ⟨_, _, ⟨T1, L1, k1, n1⟩, -, X1, ⟨Lc1, hQ1, l1, y1, z1⟩, st1⟩ := Jvm.LawKit.callS X_46 hx (y := (⟨"com/example/canonym/canonym/iri/PercentEncoding", "utf8Length", "(I)I"⟩ : MethodName)) hown (mvT hZ (hw _ (List.mem_of_getElem? (i := 2) rfl))) (mvT hZ (hw _ (List.mem_of_getElem? (i := 3) rfl))) (mvT hZ (hw _ (List.mem_of_getElem? (i := 4) rfl))) (mvT hZ (hw _ (List.mem_of_getElem? (i := 5) rfl))) (by decide) (backOf (W := 0) (rm1 l Z az hw [] ((p0 &&& (2147483647 : Int32)) % (1114112 : Int32)) h0 n0 Z0) hZ (hw _ (List.mem_of_getElem? (i := 5) rfl)) (hw _ (List.mem_of_getElem? (i := 4) rfl)) (by decide) (by decide)) (g := (mkF m 47 #[.val (.int p0), .val (.int ((p0 &&& (2147483647 : Int32)) % (1114112 : Int32))), .val (.int v2_46)] [(.int ((p0 &&& (2147483647 : Int32)) % (1114112 : Int32)))])) rfl (by rw [hml]; rfl) (argsL := [(.int ((p0 &&& (2147483647 : Int32)) % (1114112 : Int32)))]) (rest := []) (lenOf own_pd0 rfl) rfl (by show 2 * 0 + _ ≤ _; exact Nat.le_of_eq rfl) (hb hby at_47) (fun _ _ => ⟨rfl, e_46, (by decide : 0 + 0 ≤ _), (by decide : 0 + 0 ≤ _)⟩)
    dsimp only [Pt.U, Pt.locs, Pt.cells, Pt.slots] at X1 l1 y1 z1 st1 hQ1
    subst l1 y1 z1
    obtain ⟨rfl, N1q, e1⟩ := hQ1
    have N1 := Fr.app N_46 N1q
    refine Go.of st1 ?_
    show Go p e below s _ _ _ (T1.setTop (mkF m 50 #[.val (.int p0), .val (.int ((p0 &&& (2147483647 : Int32)) % (1114112 : Int32))), .val (.int v2_46)] [(.int (F1 ((p0 &&& (2147483647 : Int32)) % (1114112 : Int32))))]))
    refine Go.of (fun t k => XS.iloadN X1.here hx rfl (hb hby at_50) rfl k) ?_
    show Go p e below s _ _ _ (T1.setTop (mkF m 51 #[.val (.int p0), .val (.int ((p0 &&& (2147483647 : Int32)) % (1114112 : Int32))), .val (.int v2_46)] [(.int v2_46), (.int (F1 ((p0 &&& (2147483647 : Int32)) % (1114112 : Int32))))]))
    by_cases hc51_2 : (F1 ((p0 &&& (2147483647 : Int32)) % (1114112 : Int32))) = v2_46
    · rewrite [if_pos hc51_2]
      refine Go.of (fun t k => XS.icmpNo X1.here hx rfl (hb hby at_51) rfl (teq hc51_2).2 k) ?_
      show Go p e below s _ _ _ (T1.setTop (mkF m 54 #[.val (.int p0), .val (.int ((p0 &&& (2147483647 : Int32)) % (1114112 : Int32))), .val (.int v2_46)] []))
      refine Go.of (fun t k => XS.iconst X1.here hx rfl (hb hby at_54) k) ?_
      show Go p e below s _ _ _ (T1.setTop (mkF m 55 #[.val (.int p0), .val (.int ((p0 &&& (2147483647 : Int32)) % (1114112 : Int32))), .val (.int v2_46)] [(.int (1 : Int32))]))
      refine Go.of (fun t k => XS.goto X1.here hx rfl (pc0 := 55) (pc' := 59) rfl (hb hby at_55) (by decide) (by decide) k) ?_
      show Go p e below s _ _ _ (T1.setTop (mkF m 59 #[.val (.int p0), .val (.int ((p0 &&& (2147483647 : Int32)) % (1114112 : Int32))), .val (.int v2_46)] [(.int (1 : Int32))]))
      exact Go.ret X1 (some (.int (1 : Int32))) (fun h => by rw [Bd.returns] at h; cases h) hlk ⟨rfl, N1⟩ (by decide) (by decide) (fun fs hr => (retN X1 hx (t := .boolean) Bd.returns (by simp) (hb hby at_59) hr))
    · rewrite [if_neg hc51_2]
      refine Go.of (fun t k => XS.icmpYes X1.here hx rfl (pc0 := 51) (pc' := 58) rfl (hb hby at_51) rfl (feq hc51_2).2 (by decide) (by decide) k) ?_
      show Go p e below s _ _ _ (T1.setTop (mkF m 58 #[.val (.int p0), .val (.int ((p0 &&& (2147483647 : Int32)) % (1114112 : Int32))), .val (.int v2_46)] []))
      refine Go.of (fun t k => XS.iconst X1.here hx rfl (hb hby at_58) k) ?_
      show Go p e below s _ _ _ (T1.setTop (mkF m 59 #[.val (.int p0), .val (.int ((p0 &&& (2147483647 : Int32)) % (1114112 : Int32))), .val (.int v2_46)] [(.int (0 : Int32))]))
      exact Go.ret X1 (some (.int (0 : Int32))) (fun h => by rw [Bd.returns] at h; cases h) hlk ⟨rfl, N1⟩ (by decide) (by decide) (fun fs hr => (retN X1 hx (t := .boolean) Bd.returns (by simp) (hb hby at_59) hr))
  by_cases hc12_3 : ((((p0 &&& (2147483647 : Int32)) % (1114112 : Int32)).toUInt32 >>> ((7 : Int32) &&& 31).toUInt32).toInt32) = (0 : Int32)
  · rewrite [if_pos hc12_3]
    refine Go.of (fun t k => XS.ifNo X0.here hx rfl (hb hby at_12) rfl ((if0 _ _).trans (teq hc12_3).2) k) ?_
    show Go p e below s _ _ _ (s₁.setTop (mkF m 15 #[.val (.int p0), .val (.int ((p0 &&& (2147483647 : Int32)) % (1114112 : Int32))), .unset] []))
    refine Go.of (fun t k => XS.iconst X0.here hx rfl (hb hby at_15) k) ?_
    show Go p e below s _ _ _ (s₁.setTop (mkF m 16 #[.val (.int p0), .val (.int ((p0 &&& (2147483647 : Int32)) % (1114112 : Int32))), .unset] [(.int (1 : Int32))]))
    refine Go.of (fun t k => XS.istoreN X0.here hx rfl (hb hby at_16) rfl (l' := #[.val (.int p0), .val (.int ((p0 &&& (2147483647 : Int32)) % (1114112 : Int32))), .val (.int (1 : Int32))]) rfl k) ?_
    show Go p e below s _ _ _ (s₁.setTop (mkF m 17 #[.val (.int p0), .val (.int ((p0 &&& (2147483647 : Int32)) % (1114112 : Int32))), .val (.int (1 : Int32))] []))
    refine Go.of (fun t k => XS.goto X0.here hx rfl (pc0 := 17) (pc' := 46) rfl (hb hby at_17) (by decide) (by decide) k) ?_
    show Go p e below s _ _ _ (s₁.setTop (mkF m 46 #[.val (.int p0), .val (.int ((p0 &&& (2147483647 : Int32)) % (1114112 : Int32))), .val (.int (1 : Int32))] []))
    exact jn46 (1 : Int32)  s₁ _ X0 e0 N0  
  · rewrite [if_neg hc12_3]
    refine Go.of (fun t k => XS.ifYes X0.here hx rfl (pc0 := 12) (pc' := 20) rfl (hb hby at_12) rfl ((if0 _ _).trans (feq hc12_3).2) (by decide) (by decide) k) ?_
    show Go p e below s _ _ _ (s₁.setTop (mkF m 20 #[.val (.int p0), .val (.int ((p0 &&& (2147483647 : Int32)) % (1114112 : Int32))), .unset] []))
    refine Go.of (fun t k => XS.iloadN X0.here hx rfl (hb hby at_20) rfl k) ?_
    show Go p e below s _ _ _ (s₁.setTop (mkF m 21 #[.val (.int p0), .val (.int ((p0 &&& (2147483647 : Int32)) % (1114112 : Int32))), .unset] [(.int ((p0 &&& (2147483647 : Int32)) % (1114112 : Int32)))]))
    refine Go.of (fun t k => XS.bipush X0.here hx rfl (hb hby at_21) k) ?_
    show Go p e below s _ _ _ (s₁.setTop (mkF m 23 #[.val (.int p0), .val (.int ((p0 &&& (2147483647 : Int32)) % (1114112 : Int32))), .unset] [(.int (11 : Int32)), (.int ((p0 &&& (2147483647 : Int32)) % (1114112 : Int32)))]))
    refine Go.of (fun t k => XS.iushr X0.here hx rfl (hb hby at_23) rfl k) ?_
    show Go p e below s _ _ _ (s₁.setTop (mkF m 24 #[.val (.int p0), .val (.int ((p0 &&& (2147483647 : Int32)) % (1114112 : Int32))), .unset] [(.int ((((p0 &&& (2147483647 : Int32)) % (1114112 : Int32)).toUInt32 >>> ((11 : Int32) &&& 31).toUInt32).toInt32))]))
    by_cases hc24_4 : ((((p0 &&& (2147483647 : Int32)) % (1114112 : Int32)).toUInt32 >>> ((11 : Int32) &&& 31).toUInt32).toInt32) = (0 : Int32)
    · rewrite [if_pos hc24_4]
      refine Go.of (fun t k => XS.ifNo X0.here hx rfl (hb hby at_24) rfl ((if0 _ _).trans (teq hc24_4).2) k) ?_
      show Go p e below s _ _ _ (s₁.setTop (mkF m 27 #[.val (.int p0), .val (.int ((p0 &&& (2147483647 : Int32)) % (1114112 : Int32))), .unset] []))
      refine Go.of (fun t k => XS.iconst X0.here hx rfl (hb hby at_27) k) ?_
      show Go p e below s _ _ _ (s₁.setTop (mkF m 28 #[.val (.int p0), .val (.int ((p0 &&& (2147483647 : Int32)) % (1114112 : Int32))), .unset] [(.int (2 : Int32))]))
      refine Go.of (fun t k => XS.istoreN X0.here hx rfl (hb hby at_28) rfl (l' := #[.val (.int p0), .val (.int ((p0 &&& (2147483647 : Int32)) % (1114112 : Int32))), .val (.int (2 : Int32))]) rfl k) ?_
      show Go p e below s _ _ _ (s₁.setTop (mkF m 29 #[.val (.int p0), .val (.int ((p0 &&& (2147483647 : Int32)) % (1114112 : Int32))), .val (.int (2 : Int32))] []))
      refine Go.of (fun t k => XS.goto X0.here hx rfl (pc0 := 29) (pc' := 46) rfl (hb hby at_29) (by decide) (by decide) k) ?_
      show Go p e below s _ _ _ (s₁.setTop (mkF m 46 #[.val (.int p0), .val (.int ((p0 &&& (2147483647 : Int32)) % (1114112 : Int32))), .val (.int (2 : Int32))] []))
      exact jn46 (2 : Int32)  s₁ _ X0 e0 N0  
    · rewrite [if_neg hc24_4]
      refine Go.of (fun t k => XS.ifYes X0.here hx rfl (pc0 := 24) (pc' := 32) rfl (hb hby at_24) rfl ((if0 _ _).trans (feq hc24_4).2) (by decide) (by decide) k) ?_
      show Go p e below s _ _ _ (s₁.setTop (mkF m 32 #[.val (.int p0), .val (.int ((p0 &&& (2147483647 : Int32)) % (1114112 : Int32))), .unset] []))
      refine Go.of (fun t k => XS.iloadN X0.here hx rfl (hb hby at_32) rfl k) ?_
      show Go p e below s _ _ _ (s₁.setTop (mkF m 33 #[.val (.int p0), .val (.int ((p0 &&& (2147483647 : Int32)) % (1114112 : Int32))), .unset] [(.int ((p0 &&& (2147483647 : Int32)) % (1114112 : Int32)))]))
      refine Go.of (fun t k => XS.bipush X0.here hx rfl (hb hby at_33) k) ?_
      show Go p e below s _ _ _ (s₁.setTop (mkF m 35 #[.val (.int p0), .val (.int ((p0 &&& (2147483647 : Int32)) % (1114112 : Int32))), .unset] [(.int (16 : Int32)), (.int ((p0 &&& (2147483647 : Int32)) % (1114112 : Int32)))]))
      refine Go.of (fun t k => XS.iushr X0.here hx rfl (hb hby at_35) rfl k) ?_
      show Go p e below s _ _ _ (s₁.setTop (mkF m 36 #[.val (.int p0), .val (.int ((p0 &&& (2147483647 : Int32)) % (1114112 : Int32))), .unset] [(.int ((((p0 &&& (2147483647 : Int32)) % (1114112 : Int32)).toUInt32 >>> ((16 : Int32) &&& 31).toUInt32).toInt32))]))
      by_cases hc36_5 : ((((p0 &&& (2147483647 : Int32)) % (1114112 : Int32)).toUInt32 >>> ((16 : Int32) &&& 31).toUInt32).toInt32) = (0 : Int32)
      · rewrite [if_pos hc36_5]
        refine Go.of (fun t k => XS.ifNo X0.here hx rfl (hb hby at_36) rfl ((if0 _ _).trans (teq hc36_5).2) k) ?_
        show Go p e below s _ _ _ (s₁.setTop (mkF m 39 #[.val (.int p0), .val (.int ((p0 &&& (2147483647 : Int32)) % (1114112 : Int32))), .unset] []))
        refine Go.of (fun t k => XS.iconst X0.here hx rfl (hb hby at_39) k) ?_
        show Go p e below s _ _ _ (s₁.setTop (mkF m 40 #[.val (.int p0), .val (.int ((p0 &&& (2147483647 : Int32)) % (1114112 : Int32))), .unset] [(.int (3 : Int32))]))
        refine Go.of (fun t k => XS.istoreN X0.here hx rfl (hb hby at_40) rfl (l' := #[.val (.int p0), .val (.int ((p0 &&& (2147483647 : Int32)) % (1114112 : Int32))), .val (.int (3 : Int32))]) rfl k) ?_
        show Go p e below s _ _ _ (s₁.setTop (mkF m 41 #[.val (.int p0), .val (.int ((p0 &&& (2147483647 : Int32)) % (1114112 : Int32))), .val (.int (3 : Int32))] []))
        refine Go.of (fun t k => XS.goto X0.here hx rfl (pc0 := 41) (pc' := 46) rfl (hb hby at_41) (by decide) (by decide) k) ?_
        show Go p e below s _ _ _ (s₁.setTop (mkF m 46 #[.val (.int p0), .val (.int ((p0 &&& (2147483647 : Int32)) % (1114112 : Int32))), .val (.int (3 : Int32))] []))
        exact jn46 (3 : Int32)  s₁ _ X0 e0 N0  
      · rewrite [if_neg hc36_5]
        refine Go.of (fun t k => XS.ifYes X0.here hx rfl (pc0 := 36) (pc' := 44) rfl (hb hby at_36) rfl ((if0 _ _).trans (feq hc36_5).2) (by decide) (by decide) k) ?_
        show Go p e below s _ _ _ (s₁.setTop (mkF m 44 #[.val (.int p0), .val (.int ((p0 &&& (2147483647 : Int32)) % (1114112 : Int32))), .unset] []))
        refine Go.of (fun t k => XS.iconst X0.here hx rfl (hb hby at_44) k) ?_
        show Go p e below s _ _ _ (s₁.setTop (mkF m 45 #[.val (.int p0), .val (.int ((p0 &&& (2147483647 : Int32)) % (1114112 : Int32))), .unset] [(.int (4 : Int32))]))
        refine Go.of (fun t k => XS.istoreN X0.here hx rfl (hb hby at_45) rfl (l' := #[.val (.int p0), .val (.int ((p0 &&& (2147483647 : Int32)) % (1114112 : Int32))), .val (.int (4 : Int32))]) rfl k) ?_
        show Go p e below s _ _ _ (s₁.setTop (mkF m 46 #[.val (.int p0), .val (.int ((p0 &&& (2147483647 : Int32)) % (1114112 : Int32))), .val (.int (4 : Int32))] []))
        exact jn46 (4 : Int32)  s₁ _ X0 e0 N0  
theorem own_core (c : Int32) (hc : 0 ≤ c.toInt ∧ c.toInt < 1114112) : (if ((c.toUInt32 >>> ((7 : Int32) &&& 31).toUInt32).toInt32) = (0 : Int32) then (if F1 c = (1 : Int32) then (1 : Int32) else 0) else (if ((c.toUInt32 >>> ((11 : Int32) &&& 31).toUInt32).toInt32) = (0 : Int32) then (if F1 c = (2 : Int32) then (1 : Int32) else 0) else (if ((c.toUInt32 >>> ((16 : Int32) &&& 31).toUInt32).toInt32) = (0 : Int32) then (if F1 c = (3 : Int32) then (1 : Int32) else 0) else (if F1 c = (4 : Int32) then (1 : Int32) else 0)))) = 1 := by
  have u7 := c_iushr c 7 7 (by decide) (by decide)
  have u11 := c_iushr c 11 11 (by decide) (by decide)
  have u16 := c_iushr c 16 16 (by decide) (by decide)
  have e0 : (0 : Int32).toInt = 0 := by decide
  have e1 : (128 : Int32).toInt = 128 := by decide
  have e2 : (2048 : Int32).toInt = 2048 := by decide
  have e3 : (65536 : Int32).toInt = 65536 := by decide
  generalize ((c.toUInt32 >>> ((7 : Int32) &&& 31).toUInt32).toInt32) = a7 at *
  generalize ((c.toUInt32 >>> ((11 : Int32) &&& 31).toUInt32).toInt32) = a11 at *
  generalize ((c.toUInt32 >>> ((16 : Int32) &&& 31).toUInt32).toInt32) = a16 at *
  unfold F1
  have k7 : a7 = 0 ↔ c.toInt < 128 := by rw [← Int32.toInt_inj, e0, u7]; omega
  have k11 : a11 = 0 ↔ c.toInt < 2048 := by rw [← Int32.toInt_inj, e0, u11]; omega
  have k16 : a16 = 0 ↔ c.toInt < 65536 := by rw [← Int32.toInt_inj, e0, u16]; omega
  simp only [k7, k11, k16, Int32.lt_iff_toInt_lt, e1, e2, e3]
  by_cases h1 : c.toInt < 128
  · simp [h1]
  · by_cases h2 : c.toInt < 2048
    · simp [h1, h2]
    · by_cases h3 : c.toInt < 65536 <;> simp [h1, h2, h3]
theorem own_law (a : Int32) : F0 a = 1 := by
  have m := c_mask a 2147483647 31 (by decide) (by decide)
  have e : (1114112 : Int32).toInt = 1114112 := by decide
  have r := (c_irem (a &&& 2147483647) 1114112 1114112 e).1 (by omega)
  exact own_core ((a &&& 2147483647) % 1114112) (by omega)
set_option maxRecDepth 65536 in
set_option maxHeartbeats 40000000 in
theorem comes_1 {Post : Tables → Env → Array Value → State → Outcome → State → Prop} (hpost : ∀ tb e args s v u, (limb_1_1.after args s (.returned v) u = true ∧ limb_1_2.after args s (.returned v) u = true ∧ True) → FrameEnd s (.returned v) u (Jvm.fieldLocs frame_1_writes args s ++ Jvm.arrayLocs frame_1_arrays args s ++ Jvm.staticLocs frame_1_statics s) 0 0 → Post tb e args s (.returned v) u) :
    ArmFor flags0 classFile x code maxLocals ret World_1 tables_1 room_1 Calls_1 rest_1 Pre_1 Post := by
  intro l hfl _ _ p e ha hc hk s m args below hf hA hF happ hP
  obtain ⟨hcalls, hrest, hpre⟩ := hP
  obtain ⟨-, -, -, hnamed, -, -, -, hat⟩ := (Spec.applies_iff hf).mp happ
  obtain ⟨hg, hn⟩ := and_e (Cond.before_iff.mp (show (Jvm.Cond.and given_1 narrow_1).before args s = true from hpre))
  obtain ⟨g0, g1⟩ := and_e hg
  have a0 := g1
  obtain ⟨w0, rfl⟩ : ∃ w0 : Value, args = #[w0] := by
    have hs : args.size = 1 := by simpa [Cond.value, given_1] using g0
    obtain ⟨L⟩ := args
    match L, hs with
    | [w0], _ => exact ⟨w0, rfl⟩
  have hw := fun d (hd : d ∈ tables_1) => atoms_spec (ws := Jvm.Cond.code x code maxLocals ret :: tables_1) hat d (List.mem_cons_of_mem _ hd)
  obtain ⟨i0, ei0⟩ := is_v a0
  obtain rfl : w0 = (.int i0) := Option.some.inj ei0
  obtain ⟨n, o, h1, h2, h3, _, L, rfl, ⟨rfl, N⟩, hq⟩ := rm0 l s _ hw tables_1 i0 s.heap s.heap.size (Nat.le_refl _) p e ha hc hk s m _ below hf ((Spec.applies_iff_loose hf).mp happ).1 ⟨rfl, State.Warmed39.refl s, rfl⟩ trivial
  have hone : (F0 i0) = 1 := own_law i0
  refine ⟨n, _, h1, h2, h3, hpost _ _ _ _ _ _ ⟨Cond.after_iff.mpr rfl, Cond.after_iff.mpr (eq_i res_at (Term.int_eval (1)) (by rw [hone])), trivial⟩ ⟨hq.1, hq.2.1, (hq.2.2.sift fun y hy => Or.inr (N y hy)).mono (by decide) (by decide)⟩⟩
theorem main_1_1 : Claimed_1_1 := comes_1 fun _ _ _ _ _ _ h hF => ⟨h.1, hF⟩
theorem main_1_2 : Claimed_1_2 := comes_1 fun _ _ _ _ _ _ h hF => ⟨h.2.1, hF⟩
end Jvm.Pilot.@@N@@
namespace Jvm.Pilot.@@N@@
open Jvm Jvm.ClassFile Sem Op Lib Jvm.Free Jvm.Stand Jvm.Pilot.@@N@@.Jvm.D
/-! MADE BY PROGRAM (witnessworld.py) out of the Statement's table words and the real class files: 9 classes; the members and pool entries that the words name. The judged class is class 1, her method 1. -/
namespace start1
open Jvm.ClassFile
def u (s : String) : CpInfo := .utf8 (stringToUtf16 s)
/-- a pool by its gaps: so many unusable entries, then the entry; so many at the end -/
def gap : Nat → List CpInfo → List CpInfo
  | 0, r => r
  | n + 1, r => .unusable :: gap n r
def poolList (es : List (Nat × CpInfo)) (last : Nat) : List CpInfo := es.foldr (fun e r => gap e.1 (e.2 :: r)) (gap last [])
def pool (es : List (Nat × CpInfo)) (last : Nat) : Array CpInfo := ⟨poolList es last⟩
def fileOf (pool : Array CpInfo) (this : Nat) (attrs : Array Attribute := #[]) (ms : Array MethodInfo := #[]) (fl : Nat := 33) (sup : Nat := 0) (ifs : Array Nat := #[]) (fds : Array FieldInfo := #[]) : ClassFile where
  minorVersion := 0
  majorVersion := 65
  constantPool := pool
  accessFlags := fl
  thisClass := this
  superClass := sup
  interfaces := ifs
  fields := fds
  methods := ms
  attributes := attrs
def plain (name : String) (sup : Option ClassId) : Class where
  name := name
  kind := .ordinary
  loader := none
  accessFlags := 33
  super := sup
  interfaces := #[]
  cf := none
  fields := #[]
  methods := #[]
  instanceTypes := #[]
  staticTypes := #[]
  resolved := #[]
  callSites := []
  init := .initialized
  statics := none
  mirror := none

def pool0 : Array CpInfo := pool [(5, u "<init>"), (0, u "()V"), (1, .class_ 10), (1, u "java/lang/Object")] 113

def k0m0 : Method := { name := "<init>", desc := "()V", sig := { parameters := [], returnType := none }, accessFlags := 1, code := none }
/-- java/lang/Object -/
def k0 : Class := { plain "java/lang/Object" none with
  accessFlags := 33
  interfaces := #[]
  cf := some (fileOf pool0 8 #[] #[{ accessFlags := 1, nameIndex := 5, descriptorIndex := 6, attributes := #[] }] 33 0 #[] #[])
  fields := #[]
  methods := #[k0m0]
  instanceTypes := #[]
  staticTypes := #[]
  resolved := Array.replicate 124 none
  statics := none }

def pool1 : Array CpInfo := pool [(2, .class_ 4), (1, u "java/lang/Object"), (0, u "<init>"), (0, u "()V"), (0, .integer 2147483647), (0, .integer 1114112), (0, .methodref 10 11), (0, .class_ 12), (0, .nameAndType 13 14), (0, u "com/example/canonym/canonym/iri/PercentEncoding"), (0, u "utf8Length"), (0, u "(I)I"), (0, .class_ 16), (0, u "com/example/canonym/canonym/iri/PercentEncodingUtf8LengthPinLaw"), (2, u "law"), (0, u "(I)Z")] 3

def k1m0 : Method := { name := "<init>", desc := "()V", sig := { parameters := [], returnType := none }, accessFlags := 2, code := none }
def k1c1 : Code := { maxStack := 2, maxLocals := 3, code := code, exceptionTable := #[], attributes := #[] }
def k1m1 : Method := { name := "law", desc := "(I)Z", sig := { parameters := [.int], returnType := some .boolean }, accessFlags := 9, code := some k1c1 }
/-- com/example/canonym/canonym/iri/PercentEncodingUtf8LengthPinLaw -/
def k1 : Class := { plain "com/example/canonym/canonym/iri/PercentEncodingUtf8LengthPinLaw" (some 0) with
  accessFlags := 49
  interfaces := #[]
  cf := some (fileOf pool1 15 #[] #[{ accessFlags := 2, nameIndex := 5, descriptorIndex := 6, attributes := #[] }, { accessFlags := 9, nameIndex := 19, descriptorIndex := 20, attributes := #[] }] 49 2 #[] #[])
  fields := #[]
  methods := #[k1m0, k1m1]
  instanceTypes := #[]
  staticTypes := #[]
  resolved := Array.replicate 24 none
  statics := none }

def pool2 : Array CpInfo := pool [(2, .class_ 4), (1, u "java/lang/Object"), (0, u "<init>"), (0, u "()V"), (5, u "(I)I"), (10, .class_ 25), (1, u "com/example/canonym/canonym/iri/PercentEncoding"), (26, u "NOT_IN_URI"), (0, u "Ljava/util/function/IntPredicate;"), (6, u "LEIRI_ONLY_IN_QUERY"), (2, u "LEIRI_ONLY"), (36, u "utf8Length"), (18, .integer 65536), (11, u "HEX_DIGITS"), (0, u "[C")] 67

def k2m0 : Method := { name := "<init>", desc := "()V", sig := { parameters := [], returnType := none }, accessFlags := 2, code := none }
def k2c1 : Code := { maxStack := 2, maxLocals := 2, code := prog_19_method_12_code, exceptionTable := #[], attributes := #[] }
def k2m1 : Method := { name := "utf8Length", desc := "(I)I", sig := { parameters := [.int], returnType := some .int }, accessFlags := 8, code := some k2c1 }
/-- com/example/canonym/canonym/iri/PercentEncoding -/
def k2 : Class := { plain "com/example/canonym/canonym/iri/PercentEncoding" (some 0) with
  accessFlags := 49
  interfaces := #[]
  cf := some (fileOf pool2 23 #[] #[{ accessFlags := 2, nameIndex := 5, descriptorIndex := 6, attributes := #[] }, { accessFlags := 8, nameIndex := 100, descriptorIndex := 12, attributes := #[] }] 49 2 #[] #[{ accessFlags := 26, nameIndex := 131, descriptorIndex := 132, attributes := #[] }, { accessFlags := 26, nameIndex := 52, descriptorIndex := 53, attributes := #[] }, { accessFlags := 26, nameIndex := 63, descriptorIndex := 53, attributes := #[] }, { accessFlags := 26, nameIndex := 60, descriptorIndex := 53, attributes := #[] }])
  fields := #[{ name := "HEX_DIGITS", type := (.array .char), accessFlags := 26, slot := 0, constantValue := 0 }, { name := "NOT_IN_URI", type := (.object "java/util/function/IntPredicate"), accessFlags := 26, slot := 1, constantValue := 0 }, { name := "LEIRI_ONLY", type := (.object "java/util/function/IntPredicate"), accessFlags := 26, slot := 2, constantValue := 0 }, { name := "LEIRI_ONLY_IN_QUERY", type := (.object "java/util/function/IntPredicate"), accessFlags := 26, slot := 3, constantValue := 0 }]
  methods := #[k2m0, k2m1]
  instanceTypes := #[]
  staticTypes := #[(.array .char), (.object "java/util/function/IntPredicate"), (.object "java/util/function/IntPredicate"), (.object "java/util/function/IntPredicate")]
  resolved := Array.replicate 200 none
  statics := none }

def pool3 : Array CpInfo := pool [(1, u "java/lang/Cloneable"), (0, .class_ 1), (0, u "java/lang/Object"), (0, .class_ 3)] 3

/-- java/lang/Cloneable -/
def k3 : Class := { plain "java/lang/Cloneable" (some 0) with
  accessFlags := 1537
  interfaces := #[]
  cf := some (fileOf pool3 2 #[] #[] 1537 4 #[] #[])
  fields := #[]
  methods := #[]
  instanceTypes := #[]
  staticTypes := #[]
  resolved := Array.replicate 8 none
  statics := none }

def pool4 : Array CpInfo := pool [(1, u "java/io/Serializable"), (0, .class_ 1), (0, u "java/lang/Object"), (0, .class_ 3)] 3

/-- java/io/Serializable -/
def k4 : Class := { plain "java/io/Serializable" (some 0) with
  accessFlags := 1537
  interfaces := #[]
  cf := some (fileOf pool4 2 #[] #[] 1537 4 #[] #[])
  fields := #[]
  methods := #[]
  instanceTypes := #[]
  staticTypes := #[]
  resolved := Array.replicate 8 none
  statics := none }

/-- the primitive byte -/
def k5 : Class := { plain "byte" none with kind := .primitive 'B', accessFlags := 0x411 }
/-- [B -/
def k6 : Class := { plain "[B" (some 0) with kind := .array 5 .byte, interfaces := #[3, 4], accessFlags := 1041 }

/-- the primitive int -/
def k7 : Class := { plain "int" none with kind := .primitive 'I', accessFlags := 0x411 }
/-- [I -/
def k8 : Class := { plain "[I" (some 0) with kind := .array 7 .int, interfaces := #[3, 4], accessFlags := 1041 }

def heap : Heap := #[]
def classes : Array Class := #[k0, k1, k2, k3, k4, k5, k6, k7, k8]
def interned : List (Array UInt16 × Addr) := []
def slotsUsed : Nat := 0
def theMethod : MethodId := ⟨1, 1⟩
def args0 : Array Value := #[.int 5]
def aboutOver (below : List Frame) : State where
  vm := { classes := classes, interned := interned.toArray }
  heap := heap
  slotsUsed := slotsUsed
  threads := #[{ frames := .invoking theMethod args0 :: below }]
def below0 : List Frame := [.native { method := ⟨0, 0⟩, args := #[] }]
def about1 : State := aboutOver below0
def p0 : Program := .bare "" "" ""
def e0 : Env := launch0.env 0 0 0
theorem w_frames : about1.frames = Frame.invoking theMethod args0 :: below0 := rfl
set_option maxRecDepth 65536 in
theorem w_args : argsFit about1.vm theMethod args0 = true := by decide +kernel
set_option maxRecDepth 65536 in
theorem w_heap : heapFits about1 = true := by decide +kernel
set_option maxRecDepth 65536 in
theorem w_runnable : about1.curStatus? = some .runnable := by decide +kernel
set_option maxRecDepth 65536 in
theorem w_alone : about1.alone = true := by decide +kernel
set_option maxRecDepth 65536 in
theorem w_named : about1.methodNamed? x = some theMethod := by decide +kernel
set_option maxRecDepth 65536 in
theorem w_hears : about1.hears theMethod below0 = true := by decide +kernel
set_option maxRecDepth 65536 in
theorem w_ripe : about1.ripe theMethod args0 below0 = true := by decide +kernel
theorem w_running : about1.status = .running := rfl
set_option maxRecDepth 65536 in
theorem w_room : about1.hasRoom e0.platform room_1 = true :=
  launch0.hasRoom_least _ room_1 (by decide +kernel) (by decide +kernel) (by decide +kernel) (by decide +kernel) (by decide +kernel) (by decide +kernel)
theorem allAtoms_all (ts : List Jvm.Cond) (a : Array Jvm.Value) (st : Jvm.State) : (allAtoms ts).before a st = ts.all (fun c => c.before a st) := by
  induction ts with
  | nil => rfl
  | cons c t ih =>
    show (Jvm.Cond.and c (allAtoms t)).before a st = _
    rw [Jvm.Cond.before_and, ih, List.all_cons]
def words1 : List Jvm.Cond := Jvm.Cond.code x code maxLocals ret :: tables_1
/-- a 'code' word, met by the world's own term for the bytes: nothing is compared byte by byte -/
theorem code_word {y : MethodName} {bytes : ByteArray} {mx : Nat} {rt : Option FieldType} {a : Array Value} {s : State} {m : MethodId} {meth : Method} {c : Code} (h1 : s.methodNamed? y = some m) (h2 : s.vm.method? m = some meth) (h3 : meth.code = some c) (h4 : c.code = bytes)
    (h5 : (c.maxLocals == mx && c.exceptionTable.isEmpty && decide (c.maxStack ≤ mostOperands) && decide (meth.sig.returnType = rt) && !meth.locks && decide (parseMethodDescriptor y.desc = some meth.sig)) = true) : (Jvm.Cond.code y bytes mx rt).before a s = true := by
  simp only [Bool.and_eq_true, beq_iff_eq, Bool.not_eq_true', decide_eq_true_eq] at h5
  obtain ⟨⟨⟨⟨⟨g1, g2⟩, g3⟩, g4⟩, g5⟩, g6⟩ := h5
  simp [Cond.before, Cond.holds, Cond.value, h1, h2, h3, h4, g1, g2, g3, g4, g5, g6]
def isCode : Jvm.Cond → Bool
  | .code _ _ _ _ => true
  | _ => false
theorem all_split {L : List Jvm.Cond} {P : Jvm.Cond → Bool} (h1 : L.all (fun c => isCode c || P c) = true) (h2 : ∀ c ∈ L.filter isCode, P c = true) : L.all P = true := by
  refine List.all_eq_true.mpr fun c hc => ?_
  have h := List.all_eq_true.mp h1 c hc
  rcases Bool.eq_false_or_eq_true (isCode c) with hi | hi
  · exact h2 c (List.mem_filter.mpr ⟨hc, hi⟩)
  · simpa [hi] using h
set_option maxRecDepth 65536 in
theorem w_c0 : (Jvm.Cond.code x code maxLocals ret).before args0 about1 = true := code_word (m := ⟨1, 1⟩) (meth := k1m1) (c := k1c1) (by decide +kernel) rfl rfl rfl (by decide +kernel)
set_option maxRecDepth 65536 in
theorem w_c1 : (Jvm.Cond.code ({ cls := "com/example/canonym/canonym/iri/PercentEncoding", name := "utf8Length", desc := "(I)I" } : Jvm.MethodName) prog_19_method_12_code (2 : Nat) (Option.some Jvm.ClassFile.FieldType.int)).before args0 about1 = true := code_word (m := ⟨2, 1⟩) (meth := k2m1) (c := k2c1) (by decide +kernel) rfl rfl rfl (by decide +kernel)
def codes1 : List Jvm.Cond := [Jvm.Cond.code x code maxLocals ret, Jvm.Cond.code ({ cls := "com/example/canonym/canonym/iri/PercentEncoding", name := "utf8Length", desc := "(I)I" } : Jvm.MethodName) prog_19_method_12_code (2 : Nat) (Option.some Jvm.ClassFile.FieldType.int)]
set_option maxRecDepth 65536 in
theorem codes_eq : words1.filter isCode = codes1 := rfl
theorem w_codes : ∀ c ∈ words1.filter isCode, c.before args0 about1 = true := by
  rw [codes_eq]
  intro c hc
  simp only [codes1, List.mem_cons, List.not_mem_nil, or_false] at hc
  rcases hc with rfl | rfl
  · exact w_c0
  · exact w_c1
set_option maxRecDepth 65536 in
theorem w_t1 : words1.all (fun c => isCode c || c.before args0 about1) = true := by decide +kernel
theorem w_tables : (allAtoms (Jvm.Cond.code x code maxLocals ret :: tables_1)).before args0 about1 = true := by
  rw [allAtoms_all]
  show words1.all (fun c => c.before args0 about1) = true
  refine all_split ?_ w_codes
  rw [w_t1]
set_option maxRecDepth 65536 in
theorem w_case : (Jvm.Cond.and given_1 narrow_1).before args0 about1 = true := by decide +kernel
theorem w_applies : (headSpec (Jvm.Cond.code x code maxLocals ret :: tables_1) room_1).applies x e0.platform about1 = true :=
  (Spec.applies_iff w_frames).mpr ⟨w_running, w_runnable, w_alone, w_named, w_hears, w_ripe, w_room, w_tables⟩
theorem atStart : AtStart classFile x code maxLocals ret World_1 tables_1 room_1 Calls_1 rest_1 Pre_1 launch0 p0 e0 about1 theMethod args0 below0 :=
  ⟨lists_1, trivial, launch0.admits_env _ _ _, launch0.least_env, fairChoices_fair.cas, fairChoices_fair.clock, w_frames, w_args, w_heap, w_applies, trivial, trivial, w_case⟩
end start1
theorem witness_1 : WitnessClaimed_1 := ⟨start1.p0, start1.e0, start1.about1, start1.theMethod, start1.args0, start1.below0, start1.atStart⟩
end Jvm.Pilot.@@N@@
