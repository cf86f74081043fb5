import JvmDerived
import JvmDerived.Pilot.@@N@@Statement
import JvmDerived.Pilot.@@N@@Code
set_option linter.unusedVariables false
set_option linter.unusedSimpArgs false
namespace Jvm.RoadKit
open Sem ClassFile Op Lib Jvm.Stand Jvm.Free Jvm.LawKit
section New
variable {p : Program} {l : Launch} {e : Env} {R : Room} {s : State} {m : MethodId} {args : Array Value} {below : List Frame} {meth : Method} {c : Code} {T : State} {locs : List Loc} {cells slots : Nat}
theorem retI (X : Stand p l e R s m args below meth c T locs cells slots) (hx : p.tables.exec = Jvm.exec) {pc : Nat} {Ls : Array Slot} {z : Int32} {rest : List Value} (hret : meth.sig.returnType = some .int) (hd : decode c.code pc = .ok (.ireturn, 1)) {fs : List Frame}
    (hl : ∀ (f : JFrame) (acts : List Action), f.method = m → f.locked = none → f.entered = [] → (doReturn e (T.setTop f) acts (some (.int z))).1 = T.setFrames fs) : Steps p.tables e below (T.setTop (mkF m pc Ls (.int z :: rest))) (T.setFrames fs) := by
  have hm' : T.vm.method? m = some meth := X.method'
  have hn : narrow .int (.int z) = .int z := rfl
  show Steps p.tables e below (T.setTop { method := m, pc := pc, locals := Ls, stack := _ :: rest, locked := none }) _
  jvm_step X.here [X.here.top, hx, hd, hm', hret, hn]
  first | (intro acts; rw [hl _ acts rfl rfl rfl]) | rw [hl _ _ rfl rfl rfl]
  exact Steps.refl _
/-- the run from G on comes to an end that Q speaks of -/
def Go (p : Program) (e : Env) (below : List Frame) (s : State) (Q : Option Value → Heap → List Loc → Prop) (ck sk : Nat) (G : State) : Prop :=
  ∃ s₂ o, Steps p.tables e below G s₂ ∧ s₂.status = .running ∧ Ended s₂ below o ∧ ∃ v L, o = .returned v ∧ Q v s₂.heap L ∧ FrameEnd s o s₂ L ck sk
theorem Go.of {Q : Option Value → Heap → List Loc → Prop} {ck sk : Nat} {G G' : State} (h : ∀ t, Steps p.tables e below G' t → Steps p.tables e below G t) (k : Go p e below s Q ck sk G') : Go p e below s Q ck sk G := by
  obtain ⟨s₂, o, h1, r⟩ := k
  exact ⟨s₂, o, h _ h1, r⟩
theorem Go.ret (X : Stand p l e R s m args below meth c T locs cells slots) {Q : Option Value → Heap → List Loc → Prop} {ck sk : Nat} {G : State} (v : Option Value) (hv : meth.sig.returnType = none → v = none) (hlk : meth.locks = false) (hq : Q v T.heap locs) (hc : cells ≤ ck) (hs : slots ≤ sk)
    (st : ∀ fs, (∀ (f : JFrame) (acts : List Action), f.method = m → f.locked = none → f.entered = [] → (doReturn e (T.setTop f) acts v).1 = T.setFrames fs) → Steps p.tables e below G (T.setFrames fs)) : Go p e below s Q ck sk G := by
  obtain ⟨fs, hr, hrun, hended, hW, hsame⟩ := X.leave hv hlk
  exact ⟨_, _, st fs hr, hrun, hended, v, locs, rfl, hq, ⟨_, rfl⟩, hW, hsame.mono hc hs⟩
/-- what it returns, that it wrote nothing old, and that the heap is as it was -/
def QP (val : Option Value) (h0 : Heap) (n0 : Nat) (v : Option Value) (h : Heap) (L : List Loc) : Prop := v = val ∧ Fr n0 L ∧ h = h0
/-- what it returns, and that it wrote nothing old -/
def QL (val : Option Value) (n0 : Nat) (v : Option Value) (h : Heap) (L : List Loc) : Prop := v = val ∧ Fr n0 L
theorem lremM {g : JFrame} {target : State} (X : Stand p l e R s m args below meth c T locs cells slots) (hx : p.tables.exec = Jvm.exec) (hg : g.method = m) {x y : Int64} {rest : List Value} (hd : decode c.code g.pc = .ok (.lrem, 1)) (hs : g.stack = .long y :: .long x :: rest) (hy : y ≠ 0)
    (hr : Steps p.tables e below (T.setTop { g with pc := g.pc + 1, stack := .long (x % y) :: rest }) target) : Steps p.tables e below (T.setTop g) target := by
  have q : x - x / y * y = x % y := lrem_mod x y
  exact XS.lrem X.here hx hg hd hs hy (by rw [q]; exact hr)
end New
end Jvm.RoadKit
namespace Jvm.Pilot.@@N@@
open Jvm Jvm.ClassFile Sem Op Lib Jvm.Free Jvm.Stand Jvm.LawKit Jvm.RoadKit Bundle Jvm.Pilot.@@N@@.Jvm.D
theorem own_pn0 : plainName "com/example/tallyfold/tallyfold/BytesBytesOfPinLaw" = true := by first | (simp [plainName, overriddenIn]; done) | decide +kernel
theorem d1_0 : decode method_3_code 0 = .ok (.iload_n 3, 1) := by decide +kernel
theorem d1_1 : decode method_3_code 1 = .ok (.bipush 8, 2) := by decide +kernel
theorem d1_3 : decode method_3_code 3 = .ok (.iand, 1) := by decide +kernel
theorem d1_4 : decode method_3_code 4 = .ok (.ifCond .ne 5, 3) := by decide +kernel
theorem d1_7 : decode method_3_code 7 = .ok (.lload_n 0, 1) := by decide +kernel
theorem d1_8 : decode method_3_code 8 = .ok (.lreturn, 1) := by decide +kernel
theorem d1_9 : decode method_3_code 9 = .ok (.bipush 8, 2) := by decide +kernel
theorem d1_11 : decode method_3_code 11 = .ok (.iload_n 3, 1) := by decide +kernel
theorem d1_12 : decode method_3_code 12 = .ok (.bipush 7, 2) := by decide +kernel
theorem d1_14 : decode method_3_code 14 = .ok (.iand, 1) := by decide +kernel
theorem d1_15 : decode method_3_code 15 = .ok (.imul, 1) := by decide +kernel
theorem d1_16 : decode method_3_code 16 = .ok (.istore 4, 2) := by decide +kernel
theorem d1_18 : decode method_3_code 18 = .ok (.lload_n 0, 1) := by decide +kernel
theorem d1_19 : decode method_3_code 19 = .ok (.ldc2_w 33, 3) := by decide +kernel
theorem d1_22 : decode method_3_code 22 = .ok (.iload 4, 2) := by decide +kernel
theorem d1_24 : decode method_3_code 24 = .ok (.lshl, 1) := by decide +kernel
theorem d1_25 : decode method_3_code 25 = .ok (.ldc2_w 21, 3) := by decide +kernel
theorem d1_28 : decode method_3_code 28 = .ok (.lxor, 1) := by decide +kernel
theorem d1_29 : decode method_3_code 29 = .ok (.land, 1) := by decide +kernel
theorem d1_30 : decode method_3_code 30 = .ok (.iload_n 2, 1) := by decide +kernel
theorem d1_31 : decode method_3_code 31 = .ok (.i2l, 1) := by decide +kernel
theorem d1_32 : decode method_3_code 32 = .ok (.ldc2_w 33, 3) := by decide +kernel
theorem d1_35 : decode method_3_code 35 = .ok (.land, 1) := by decide +kernel
theorem d1_36 : decode method_3_code 36 = .ok (.iload 4, 2) := by decide +kernel
theorem d1_38 : decode method_3_code 38 = .ok (.lshl, 1) := by decide +kernel
theorem d1_39 : decode method_3_code 39 = .ok (.lor, 1) := by decide +kernel
theorem d1_40 : decode method_3_code 40 = .ok (.lreturn, 1) := by decide +kernel
theorem ef_1 (m : MethodId) (q0 : Int64) (p1 : Int32) (p2 : Int32) : entryFrame m #[(.long q0), (.int p1), (.int p2)] 5 = mkF m 0 #[.val (.long q0), .second, .val (.int p1), .val (.int p2), .unset] [] := by first | (simp [entryFrame, mkF, argsToLocals, Value.category]; done) | rfl
def F1 (q0 : Int64) (p1 : Int32) (p2 : Int32) : Int64 := (if (p2 &&& (8 : Int32)) = (0 : Int32) then q0 else ((q0 &&& (((255 : Int64) <<< (((8 : Int32) * (p2 &&& (7 : Int32))) &&& 0x3f).toInt64) ^^^ (-1 : Int64))) ||| (((p1.toInt64) &&& (255 : Int64)) <<< (((8 : Int32) * (p2 &&& (7 : Int32))) &&& 0x3f).toInt64)))
set_option maxRecDepth 65536 in
set_option maxHeartbeats 40000000 in
theorem rm1 (l : Launch) (Z : State) (az : Array Value) (hw : ∀ d ∈ tables_1, d.before az Z = true) (ws : List Jvm.Cond) (q0 : Int64) (p1 : Int32) (p2 : Int32)  (h0 : Heap) (n0 : Nat) (Z0 : n0 ≤ h0.size) :
    MetFree l (⟨"com/example/tallyfold/tallyfold/BytesBytesOfPinLaw", "plant", "(JBI)J"⟩ : MethodName) (head1 (Jvm.Cond.code (⟨"com/example/tallyfold/tallyfold/BytesBytesOfPinLaw", "plant", "(JBI)J"⟩ : MethodName) method_3_code 5 (some .long) :: ws) ({ frames := 0, cells := 0, slots := 0, locals := 0 } : Room)) (fun a U => a = #[(.long q0), (.int p1), (.int p2)] ∧ Z.Warmed39 U.vm ∧ U.heap = h0) (fun _ _ _ _ _ => True) (fun _ U o U' => ∃ v L, o = .returned v ∧ (QP (some (.long (F1 q0 p1 p2))) h0 n0) v U'.heap L ∧ FrameEnd U o U' L ({ frames := 0, cells := 0, slots := 0, locals := 0 } : Room).cells ({ frames := 0, cells := 0, slots := 0, locals := 0 } : Room).slots) := by
  refine MetFree.of_bodySF (plainFor_of_name own_pn0) hisR ?_
  intro p e s m args below meth c s₁ Bd hml0 hP hK
  obtain ⟨rfl, hZ, hh⟩ := hP
  have hx := Bd.exec
  have hby := Bd.bytes
  have hml : c.maxLocals = 5 := hml0
  have hown : s.vm.findClass "com/example/tallyfold/tallyfold/BytesBytesOfPinLaw" = some m.cls := findClass_of_methodNamed Bd.named
  have hnm := (name_of_methodNamed Bd.named Bd.method).1
  have hlk : meth.locks = false := BodyLoose.notSynchronized Bd
  have X0 : Stand p l e ({ frames := 0, cells := 0, slots := 0, locals := 0 } : Room) s m #[(.long q0), (.int p1), (.int p2)] below meth c s₁ [] 0 0 := Stand.of_body Bd
  have e0 : s₁.heap = h0 := by rw [← hh, Bd.state]; rfl
  have N0 := Fr.nil n0
  show Go p e below s (QP (some (.long (F1 q0 p1 p2))) h0 n0) ({ frames := 0, cells := 0, slots := 0, locals := 0 } : Room).cells ({ frames := 0, cells := 0, slots := 0, locals := 0 } : Room).slots (s₁.setTop (entryFrame m #[(.long q0), (.int p1), (.int p2)] 5))
  refine Go.of (fun t k => castTop (ef_1 m q0 p1 p2) k) ?_
  show Go p e below s _ _ _ (s₁.setTop (mkF m 0 #[.val (.long q0), .second, .val (.int p1), .val (.int p2), .unset] []))
  unfold F1
  refine Go.of (fun t k => XS.iloadN X0.here hx rfl (hb hby d1_0) rfl k) ?_
  show Go p e below s _ _ _ (s₁.setTop (mkF m 1 #[.val (.long q0), .second, .val (.int p1), .val (.int p2), .unset] [(.int p2)]))
  refine Go.of (fun t k => XS.bipush X0.here hx rfl (hb hby d1_1) k) ?_
  show Go p e below s _ _ _ (s₁.setTop (mkF m 3 #[.val (.long q0), .second, .val (.int p1), .val (.int p2), .unset] [(.int (8 : Int32)), (.int p2)]))
  refine Go.of (fun t k => XS.iand X0.here hx rfl (hb hby d1_3) rfl k) ?_
  show Go p e below s _ _ _ (s₁.setTop (mkF m 4 #[.val (.long q0), .second, .val (.int p1), .val (.int p2), .unset] [(.int (p2 &&& (8 : Int32)))]))
  by_cases hc4_1 : (p2 &&& (8 : Int32)) = (0 : Int32)
  · rewrite [if_pos hc4_1]
    refine Go.of (fun t k => XS.ifNo X0.here hx rfl (hb hby d1_4) rfl ((if0 _ _).trans (teq hc4_1).2) k) ?_
    show Go p e below s _ _ _ (s₁.setTop (mkF m 7 #[.val (.long q0), .second, .val (.int p1), .val (.int p2), .unset] []))
    refine Go.of (fun t k => XS.lloadN X0.here hx rfl (hb hby d1_7) rfl k) ?_
    show Go p e below s _ _ _ (s₁.setTop (mkF m 8 #[.val (.long q0), .second, .val (.int p1), .val (.int p2), .unset] [(.long q0)]))
    exact Go.ret X0 (some (.long q0)) (fun h => by rw [Bd.returns] at h; cases h) hlk ⟨rfl, N0, e0⟩ (by decide) (by decide) (fun fs hr => (retOut X0 hx Bd.returns rfl (Or.inr (Or.inl ⟨rfl, rfl, _, rfl⟩)) (hb hby d1_8) hr))
  · rewrite [if_neg hc4_1]
    refine Go.of (fun t k => XS.ifYes X0.here hx rfl (pc0 := 4) (pc' := 9) rfl (hb hby d1_4) rfl ((if0 _ _).trans (feq hc4_1).2) (by decide) (by decide) k) ?_
    show Go p e below s _ _ _ (s₁.setTop (mkF m 9 #[.val (.long q0), .second, .val (.int p1), .val (.int p2), .unset] []))
    refine Go.of (fun t k => XS.bipush X0.here hx rfl (hb hby d1_9) k) ?_
    show Go p e below s _ _ _ (s₁.setTop (mkF m 11 #[.val (.long q0), .second, .val (.int p1), .val (.int p2), .unset] [(.int (8 : Int32))]))
    refine Go.of (fun t k => XS.iloadN X0.here hx rfl (hb hby d1_11) rfl k) ?_
    show Go p e below s _ _ _ (s₁.setTop (mkF m 12 #[.val (.long q0), .second, .val (.int p1), .val (.int p2), .unset] [(.int p2), (.int (8 : Int32))]))
    refine Go.of (fun t k => XS.bipush X0.here hx rfl (hb hby d1_12) k) ?_
    show Go p e below s _ _ _ (s₁.setTop (mkF m 14 #[.val (.long q0), .second, .val (.int p1), .val (.int p2), .unset] [(.int (7 : Int32)), (.int p2), (.int (8 : Int32))]))
    refine Go.of (fun t k => XS.iand X0.here hx rfl (hb hby d1_14) rfl k) ?_
    show Go p e below s _ _ _ (s₁.setTop (mkF m 15 #[.val (.long q0), .second, .val (.int p1), .val (.int p2), .unset] [(.int (p2 &&& (7 : Int32))), (.int (8 : Int32))]))
    refine Go.of (fun t k => XS.imul X0.here hx rfl (hb hby d1_15) rfl k) ?_
    show Go p e below s _ _ _ (s₁.setTop (mkF m 16 #[.val (.long q0), .second, .val (.int p1), .val (.int p2), .unset] [(.int ((8 : Int32) * (p2 &&& (7 : Int32))))]))
    refine Go.of (fun t k => XS.istore X0.here hx rfl (hb hby d1_16) rfl (l' := #[.val (.long q0), .second, .val (.int p1), .val (.int p2), .val (.int ((8 : Int32) * (p2 &&& (7 : Int32))))]) rfl k) ?_
    show Go p e below s _ _ _ (s₁.setTop (mkF m 18 #[.val (.long q0), .second, .val (.int p1), .val (.int p2), .val (.int ((8 : Int32) * (p2 &&& (7 : Int32))))] []))
    refine Go.of (fun t k => XS.lloadN X0.here hx rfl (hb hby d1_18) rfl k) ?_
    show Go p e below s _ _ _ (s₁.setTop (mkF m 19 #[.val (.long q0), .second, .val (.int p1), .val (.int p2), .val (.int ((8 : Int32) * (p2 &&& (7 : Int32))))] [(.long q0)]))
    refine Go.of (X0.ldc2Long hx hown (mvT hZ (hw _ (List.mem_of_getElem? (i := 22) rfl))) (g := (mkF m 19 #[.val (.long q0), .second, .val (.int p1), .val (.int p2), .val (.int ((8 : Int32) * (p2 &&& (7 : Int32))))] [(.long q0)])) rfl (hb hby d1_19)) ?_
    show Go p e below s _ _ _ (s₁.setTop (mkF m 22 #[.val (.long q0), .second, .val (.int p1), .val (.int p2), .val (.int ((8 : Int32) * (p2 &&& (7 : Int32))))] [(.long (255 : Int64)), (.long q0)]))
    refine Go.of (fun t k => XS.iload X0.here hx rfl (hb hby d1_22) rfl k) ?_
    show Go p e below s _ _ _ (s₁.setTop (mkF m 24 #[.val (.long q0), .second, .val (.int p1), .val (.int p2), .val (.int ((8 : Int32) * (p2 &&& (7 : Int32))))] [(.int ((8 : Int32) * (p2 &&& (7 : Int32)))), (.long (255 : Int64)), (.long q0)]))
    refine Go.of (fun t k => XS.lshl X0.here hx rfl (hb hby d1_24) rfl k) ?_
    show Go p e below s _ _ _ (s₁.setTop (mkF m 25 #[.val (.long q0), .second, .val (.int p1), .val (.int p2), .val (.int ((8 : Int32) * (p2 &&& (7 : Int32))))] [(.long ((255 : Int64) <<< (((8 : Int32) * (p2 &&& (7 : Int32))) &&& 0x3f).toInt64)), (.long q0)]))
    refine Go.of (X0.ldc2Long hx hown (mvT hZ (hw _ (List.mem_of_getElem? (i := 12) rfl))) (g := (mkF m 25 #[.val (.long q0), .second, .val (.int p1), .val (.int p2), .val (.int ((8 : Int32) * (p2 &&& (7 : Int32))))] [(.long ((255 : Int64) <<< (((8 : Int32) * (p2 &&& (7 : Int32))) &&& 0x3f).toInt64)), (.long q0)])) rfl (hb hby d1_25)) ?_
    show Go p e below s _ _ _ (s₁.setTop (mkF m 28 #[.val (.long q0), .second, .val (.int p1), .val (.int p2), .val (.int ((8 : Int32) * (p2 &&& (7 : Int32))))] [(.long (-1 : Int64)), (.long ((255 : Int64) <<< (((8 : Int32) * (p2 &&& (7 : Int32))) &&& 0x3f).toInt64)), (.long q0)]))
    refine Go.of (fun t k => XS.lxor X0.here hx rfl (hb hby d1_28) rfl k) ?_
    show Go p e below s _ _ _ (s₁.setTop (mkF m 29 #[.val (.long q0), .second, .val (.int p1), .val (.int p2), .val (.int ((8 : Int32) * (p2 &&& (7 : Int32))))] [(.long (((255 : Int64) <<< (((8 : Int32) * (p2 &&& (7 : Int32))) &&& 0x3f).toInt64) ^^^ (-1 : Int64))), (.long q0)]))
    refine Go.of (fun t k => XS.land X0.here hx rfl (hb hby d1_29) rfl k) ?_
    show Go p e below s _ _ _ (s₁.setTop (mkF m 30 #[.val (.long q0), .second, .val (.int p1), .val (.int p2), .val (.int ((8 : Int32) * (p2 &&& (7 : Int32))))] [(.long (q0 &&& (((255 : Int64) <<< (((8 : Int32) * (p2 &&& (7 : Int32))) &&& 0x3f).toInt64) ^^^ (-1 : Int64))))]))
    refine Go.of (fun t k => XS.iloadN X0.here hx rfl (hb hby d1_30) rfl k) ?_
    show Go p e below s _ _ _ (s₁.setTop (mkF m 31 #[.val (.long q0), .second, .val (.int p1), .val (.int p2), .val (.int ((8 : Int32) * (p2 &&& (7 : Int32))))] [(.int p1), (.long (q0 &&& (((255 : Int64) <<< (((8 : Int32) * (p2 &&& (7 : Int32))) &&& 0x3f).toInt64) ^^^ (-1 : Int64))))]))
    refine Go.of (fun t k => XS.i2l X0.here hx rfl (hb hby d1_31) rfl k) ?_
    show Go p e below s _ _ _ (s₁.setTop (mkF m 32 #[.val (.long q0), .second, .val (.int p1), .val (.int p2), .val (.int ((8 : Int32) * (p2 &&& (7 : Int32))))] [(.long (p1.toInt64)), (.long (q0 &&& (((255 : Int64) <<< (((8 : Int32) * (p2 &&& (7 : Int32))) &&& 0x3f).toInt64) ^^^ (-1 : Int64))))]))
    refine Go.of (X0.ldc2Long hx hown (mvT hZ (hw _ (List.mem_of_getElem? (i := 22) rfl))) (g := (mkF m 32 #[.val (.long q0), .second, .val (.int p1), .val (.int p2), .val (.int ((8 : Int32) * (p2 &&& (7 : Int32))))] [(.long (p1.toInt64)), (.long (q0 &&& (((255 : Int64) <<< (((8 : Int32) * (p2 &&& (7 : Int32))) &&& 0x3f).toInt64) ^^^ (-1 : Int64))))])) rfl (hb hby d1_32)) ?_
    show Go p e below s _ _ _ (s₁.setTop (mkF m 35 #[.val (.long q0), .second, .val (.int p1), .val (.int p2), .val (.int ((8 : Int32) * (p2 &&& (7 : Int32))))] [(.long (255 : Int64)), (.long (p1.toInt64)), (.long (q0 &&& (((255 : Int64) <<< (((8 : Int32) * (p2 &&& (7 : Int32))) &&& 0x3f).toInt64) ^^^ (-1 : Int64))))]))
    refine Go.of (fun t k => XS.land X0.here hx rfl (hb hby d1_35) rfl k) ?_
    show Go p e below s _ _ _ (s₁.setTop (mkF m 36 #[.val (.long q0), .second, .val (.int p1), .val (.int p2), .val (.int ((8 : Int32) * (p2 &&& (7 : Int32))))] [(.long ((p1.toInt64) &&& (255 : Int64))), (.long (q0 &&& (((255 : Int64) <<< (((8 : Int32) * (p2 &&& (7 : Int32))) &&& 0x3f).toInt64) ^^^ (-1 : Int64))))]))
    refine Go.of (fun t k => XS.iload X0.here hx rfl (hb hby d1_36) rfl k) ?_
    show Go p e below s _ _ _ (s₁.setTop (mkF m 38 #[.val (.long q0), .second, .val (.int p1), .val (.int p2), .val (.int ((8 : Int32) * (p2 &&& (7 : Int32))))] [(.int ((8 : Int32) * (p2 &&& (7 : Int32)))), (.long ((p1.toInt64) &&& (255 : Int64))), (.long (q0 &&& (((255 : Int64) <<< (((8 : Int32) * (p2 &&& (7 : Int32))) &&& 0x3f).toInt64) ^^^ (-1 : Int64))))]))
    refine Go.of (fun t k => XS.lshl X0.here hx rfl (hb hby d1_38) rfl k) ?_
    show Go p e below s _ _ _ (s₁.setTop (mkF m 39 #[.val (.long q0), .second, .val (.int p1), .val (.int p2), .val (.int ((8 : Int32) * (p2 &&& (7 : Int32))))] [(.long (((p1.toInt64) &&& (255 : Int64)) <<< (((8 : Int32) * (p2 &&& (7 : Int32))) &&& 0x3f).toInt64)), (.long (q0 &&& (((255 : Int64) <<< (((8 : Int32) * (p2 &&& (7 : Int32))) &&& 0x3f).toInt64) ^^^ (-1 : Int64))))]))
    refine Go.of (fun t k => XS.lor X0.here hx rfl (hb hby d1_39) rfl k) ?_
    show Go p e below s _ _ _ (s₁.setTop (mkF m 40 #[.val (.long q0), .second, .val (.int p1), .val (.int p2), .val (.int ((8 : Int32) * (p2 &&& (7 : Int32))))] [(.long ((q0 &&& (((255 : Int64) <<< (((8 : Int32) * (p2 &&& (7 : Int32))) &&& 0x3f).toInt64) ^^^ (-1 : Int64))) ||| (((p1.toInt64) &&& (255 : Int64)) <<< (((8 : Int32) * (p2 &&& (7 : Int32))) &&& 0x3f).toInt64)))]))
    exact Go.ret X0 (some (.long ((q0 &&& (((255 : Int64) <<< (((8 : Int32) * (p2 &&& (7 : Int32))) &&& 0x3f).toInt64) ^^^ (-1 : Int64))) ||| (((p1.toInt64) &&& (255 : Int64)) <<< (((8 : Int32) * (p2 &&& (7 : Int32))) &&& 0x3f).toInt64)))) (fun h => by rw [Bd.returns] at h; cases h) hlk ⟨rfl, N0, e0⟩ (by decide) (by decide) (fun fs hr => (retOut X0 hx Bd.returns rfl (Or.inr (Or.inl ⟨rfl, rfl, _, rfl⟩)) (hb hby d1_40) hr))
theorem own_pn1 : plainName "com/example/tallyfold/tallyfold/Bytes" = true := by first | (simp [plainName, overriddenIn]; done) | decide +kernel
theorem d2_0 : decode prog_1_method_15_code 0 = .ok (.lload_n 0, 1) := by decide +kernel
theorem d2_1 : decode prog_1_method_15_code 1 = .ok (.ldc2_w 55, 3) := by decide +kernel
theorem d2_4 : decode prog_1_method_15_code 4 = .ok (.iload_n 2, 1) := by decide +kernel
theorem d2_5 : decode prog_1_method_15_code 5 = .ok (.sipush 255, 3) := by decide +kernel
theorem d2_8 : decode prog_1_method_15_code 8 = .ok (.iand, 1) := by decide +kernel
theorem d2_9 : decode prog_1_method_15_code 9 = .ok (.i2l, 1) := by decide +kernel
theorem d2_10 : decode prog_1_method_15_code 10 = .ok (.lmul, 1) := by decide +kernel
theorem d2_11 : decode prog_1_method_15_code 11 = .ok (.lxor, 1) := by decide +kernel
theorem d2_12 : decode prog_1_method_15_code 12 = .ok (.lstore_n 3, 1) := by decide +kernel
theorem d2_13 : decode prog_1_method_15_code 13 = .ok (.lload_n 3, 1) := by decide +kernel
theorem d2_14 : decode prog_1_method_15_code 14 = .ok (.ldc2_w 55, 3) := by decide +kernel
theorem d2_17 : decode prog_1_method_15_code 17 = .ok (.lsub, 1) := by decide +kernel
theorem d2_18 : decode prog_1_method_15_code 18 = .ok (.lload_n 3, 1) := by decide +kernel
theorem d2_19 : decode prog_1_method_15_code 19 = .ok (.ldc2_w 57, 3) := by decide +kernel
theorem d2_22 : decode prog_1_method_15_code 22 = .ok (.lxor, 1) := by decide +kernel
theorem d2_23 : decode prog_1_method_15_code 23 = .ok (.land, 1) := by decide +kernel
theorem d2_24 : decode prog_1_method_15_code 24 = .ok (.ldc2_w 59, 3) := by decide +kernel
theorem d2_27 : decode prog_1_method_15_code 27 = .ok (.land, 1) := by decide +kernel
theorem d2_28 : decode prog_1_method_15_code 28 = .ok (.lreturn, 1) := by decide +kernel
theorem ef_2 (m : MethodId) (q0 : Int64) (p1 : Int32) : entryFrame m #[(.long q0), (.int p1)] 5 = mkF m 0 #[.val (.long q0), .second, .val (.int p1), .unset, .unset] [] := by first | (simp [entryFrame, mkF, argsToLocals, Value.category]; done) | rfl
def F2 (q0 : Int64) (p1 : Int32) : Int64 := ((((q0 ^^^ ((72340172838076673 : Int64) * ((p1 &&& (255 : Int32)).toInt64))) - (72340172838076673 : Int64)) &&& ((q0 ^^^ ((72340172838076673 : Int64) * ((p1 &&& (255 : Int32)).toInt64))) ^^^ (-1 : Int64))) &&& (-9187201950435737472 : Int64))
set_option maxRecDepth 65536 in
set_option maxHeartbeats 40000000 in
theorem rm2 (l : Launch) (Z : State) (az : Array Value) (hw : ∀ d ∈ tables_1, d.before az Z = true) (ws : List Jvm.Cond) (q0 : Int64) (p1 : Int32)  (h0 : Heap) (n0 : Nat) (Z0 : n0 ≤ h0.size) :
    MetFree l (⟨"com/example/tallyfold/tallyfold/Bytes", "bytesOf", "(JB)J"⟩ : MethodName) (head1 (Jvm.Cond.code (⟨"com/example/tallyfold/tallyfold/Bytes", "bytesOf", "(JB)J"⟩ : MethodName) prog_1_method_15_code 5 (some .long) :: ws) ({ frames := 0, cells := 0, slots := 0, locals := 0 } : Room)) (fun a U => a = #[(.long q0), (.int p1)] ∧ Z.Warmed39 U.vm ∧ U.heap = h0) (fun _ _ _ _ _ => True) (fun _ U o U' => ∃ v L, o = .returned v ∧ (QP (some (.long (F2 q0 p1))) h0 n0) v U'.heap L ∧ FrameEnd U o U' L ({ frames := 0, cells := 0, slots := 0, locals := 0 } : Room).cells ({ frames := 0, cells := 0, slots := 0, locals := 0 } : Room).slots) := by
  refine MetFree.of_bodySF (plainFor_of_name own_pn1) hisR ?_
  intro p e s m args below meth c s₁ Bd hml0 hP hK
  obtain ⟨rfl, hZ, hh⟩ := hP
  have hx := Bd.exec
  have hby := Bd.bytes
  have hml : c.maxLocals = 5 := hml0
  have hown : s.vm.findClass "com/example/tallyfold/tallyfold/Bytes" = some m.cls := findClass_of_methodNamed Bd.named
  have hnm := (name_of_methodNamed Bd.named Bd.method).1
  have hlk : meth.locks = false := BodyLoose.notSynchronized Bd
  have X0 : Stand p l e ({ frames := 0, cells := 0, slots := 0, locals := 0 } : Room) s m #[(.long q0), (.int p1)] below meth c s₁ [] 0 0 := Stand.of_body Bd
  have e0 : s₁.heap = h0 := by rw [← hh, Bd.state]; rfl
  have N0 := Fr.nil n0
  show Go p e below s (QP (some (.long (F2 q0 p1))) h0 n0) ({ frames := 0, cells := 0, slots := 0, locals := 0 } : Room).cells ({ frames := 0, cells := 0, slots := 0, locals := 0 } : Room).slots (s₁.setTop (entryFrame m #[(.long q0), (.int p1)] 5))
  refine Go.of (fun t k => castTop (ef_2 m q0 p1) k) ?_
  show Go p e below s _ _ _ (s₁.setTop (mkF m 0 #[.val (.long q0), .second, .val (.int p1), .unset, .unset] []))
  unfold F2
  refine Go.of (fun t k => XS.lloadN X0.here hx rfl (hb hby d2_0) rfl k) ?_
  show Go p e below s _ _ _ (s₁.setTop (mkF m 1 #[.val (.long q0), .second, .val (.int p1), .unset, .unset] [(.long q0)]))
  refine Go.of (X0.ldc2Long hx hown (mvT hZ (hw _ (List.mem_of_getElem? (i := 8) rfl))) (g := (mkF m 1 #[.val (.long q0), .second, .val (.int p1), .unset, .unset] [(.long q0)])) rfl (hb hby d2_1)) ?_
  show Go p e below s _ _ _ (s₁.setTop (mkF m 4 #[.val (.long q0), .second, .val (.int p1), .unset, .unset] [(.long (72340172838076673 : Int64)), (.long q0)]))
  refine Go.of (fun t k => XS.iloadN X0.here hx rfl (hb hby d2_4) rfl k) ?_
  show Go p e below s _ _ _ (s₁.setTop (mkF m 5 #[.val (.long q0), .second, .val (.int p1), .unset, .unset] [(.int p1), (.long (72340172838076673 : Int64)), (.long q0)]))
  refine Go.of (fun t k => XS.sipush X0.here hx rfl (hb hby d2_5) k) ?_
  show Go p e below s _ _ _ (s₁.setTop (mkF m 8 #[.val (.long q0), .second, .val (.int p1), .unset, .unset] [(.int (255 : Int32)), (.int p1), (.long (72340172838076673 : Int64)), (.long q0)]))
  refine Go.of (fun t k => XS.iand X0.here hx rfl (hb hby d2_8) rfl k) ?_
  show Go p e below s _ _ _ (s₁.setTop (mkF m 9 #[.val (.long q0), .second, .val (.int p1), .unset, .unset] [(.int (p1 &&& (255 : Int32))), (.long (72340172838076673 : Int64)), (.long q0)]))
  refine Go.of (fun t k => XS.i2l X0.here hx rfl (hb hby d2_9) rfl k) ?_
  show Go p e below s _ _ _ (s₁.setTop (mkF m 10 #[.val (.long q0), .second, .val (.int p1), .unset, .unset] [(.long ((p1 &&& (255 : Int32)).toInt64)), (.long (72340172838076673 : Int64)), (.long q0)]))
  refine Go.of (fun t k => XS.lmul X0.here hx rfl (hb hby d2_10) rfl k) ?_
  show Go p e below s _ _ _ (s₁.setTop (mkF m 11 #[.val (.long q0), .second, .val (.int p1), .unset, .unset] [(.long ((72340172838076673 : Int64) * ((p1 &&& (255 : Int32)).toInt64))), (.long q0)]))
  refine Go.of (fun t k => XS.lxor X0.here hx rfl (hb hby d2_11) rfl k) ?_
  show Go p e below s _ _ _ (s₁.setTop (mkF m 12 #[.val (.long q0), .second, .val (.int p1), .unset, .unset] [(.long (q0 ^^^ ((72340172838076673 : Int64) * ((p1 &&& (255 : Int32)).toInt64))))]))
  refine Go.of (fun t k => XS.lstoreN X0.here hx rfl (hb hby d2_12) rfl (l' := #[.val (.long q0), .second, .val (.int p1), .val (.long (q0 ^^^ ((72340172838076673 : Int64) * ((p1 &&& (255 : Int32)).toInt64)))), .second]) rfl k) ?_
  show Go p e below s _ _ _ (s₁.setTop (mkF m 13 #[.val (.long q0), .second, .val (.int p1), .val (.long (q0 ^^^ ((72340172838076673 : Int64) * ((p1 &&& (255 : Int32)).toInt64)))), .second] []))
  refine Go.of (fun t k => XS.lloadN X0.here hx rfl (hb hby d2_13) rfl k) ?_
  show Go p e below s _ _ _ (s₁.setTop (mkF m 14 #[.val (.long q0), .second, .val (.int p1), .val (.long (q0 ^^^ ((72340172838076673 : Int64) * ((p1 &&& (255 : Int32)).toInt64)))), .second] [(.long (q0 ^^^ ((72340172838076673 : Int64) * ((p1 &&& (255 : Int32)).toInt64))))]))
  refine Go.of (X0.ldc2Long hx hown (mvT hZ (hw _ (List.mem_of_getElem? (i := 8) rfl))) (g := (mkF m 14 #[.val (.long q0), .second, .val (.int p1), .val (.long (q0 ^^^ ((72340172838076673 : Int64) * ((p1 &&& (255 : Int32)).toInt64)))), .second] [(.long (q0 ^^^ ((72340172838076673 : Int64) * ((p1 &&& (255 : Int32)).toInt64))))])) rfl (hb hby d2_14)) ?_
  show Go p e below s _ _ _ (s₁.setTop (mkF m 17 #[.val (.long q0), .second, .val (.int p1), .val (.long (q0 ^^^ ((72340172838076673 : Int64) * ((p1 &&& (255 : Int32)).toInt64)))), .second] [(.long (72340172838076673 : Int64)), (.long (q0 ^^^ ((72340172838076673 : Int64) * ((p1 &&& (255 : Int32)).toInt64))))]))
  refine Go.of (fun t k => XS.lsub X0.here hx rfl (hb hby d2_17) rfl k) ?_
  show Go p e below s _ _ _ (s₁.setTop (mkF m 18 #[.val (.long q0), .second, .val (.int p1), .val (.long (q0 ^^^ ((72340172838076673 : Int64) * ((p1 &&& (255 : Int32)).toInt64)))), .second] [(.long ((q0 ^^^ ((72340172838076673 : Int64) * ((p1 &&& (255 : Int32)).toInt64))) - (72340172838076673 : Int64)))]))
  refine Go.of (fun t k => XS.lloadN X0.here hx rfl (hb hby d2_18) rfl k) ?_
  show Go p e below s _ _ _ (s₁.setTop (mkF m 19 #[.val (.long q0), .second, .val (.int p1), .val (.long (q0 ^^^ ((72340172838076673 : Int64) * ((p1 &&& (255 : Int32)).toInt64)))), .second] [(.long (q0 ^^^ ((72340172838076673 : Int64) * ((p1 &&& (255 : Int32)).toInt64)))), (.long ((q0 ^^^ ((72340172838076673 : Int64) * ((p1 &&& (255 : Int32)).toInt64))) - (72340172838076673 : Int64)))]))
  refine Go.of (X0.ldc2Long hx hown (mvT hZ (hw _ (List.mem_of_getElem? (i := 9) rfl))) (g := (mkF m 19 #[.val (.long q0), .second, .val (.int p1), .val (.long (q0 ^^^ ((72340172838076673 : Int64) * ((p1 &&& (255 : Int32)).toInt64)))), .second] [(.long (q0 ^^^ ((72340172838076673 : Int64) * ((p1 &&& (255 : Int32)).toInt64)))), (.long ((q0 ^^^ ((72340172838076673 : Int64) * ((p1 &&& (255 : Int32)).toInt64))) - (72340172838076673 : Int64)))])) rfl (hb hby d2_19)) ?_
  show Go p e below s _ _ _ (s₁.setTop (mkF m 22 #[.val (.long q0), .second, .val (.int p1), .val (.long (q0 ^^^ ((72340172838076673 : Int64) * ((p1 &&& (255 : Int32)).toInt64)))), .second] [(.long (-1 : Int64)), (.long (q0 ^^^ ((72340172838076673 : Int64) * ((p1 &&& (255 : Int32)).toInt64)))), (.long ((q0 ^^^ ((72340172838076673 : Int64) * ((p1 &&& (255 : Int32)).toInt64))) - (72340172838076673 : Int64)))]))
  refine Go.of (fun t k => XS.lxor X0.here hx rfl (hb hby d2_22) rfl k) ?_
  show Go p e below s _ _ _ (s₁.setTop (mkF m 23 #[.val (.long q0), .second, .val (.int p1), .val (.long (q0 ^^^ ((72340172838076673 : Int64) * ((p1 &&& (255 : Int32)).toInt64)))), .second] [(.long ((q0 ^^^ ((72340172838076673 : Int64) * ((p1 &&& (255 : Int32)).toInt64))) ^^^ (-1 : Int64))), (.long ((q0 ^^^ ((72340172838076673 : Int64) * ((p1 &&& (255 : Int32)).toInt64))) - (72340172838076673 : Int64)))]))
  refine Go.of (fun t k => XS.land X0.here hx rfl (hb hby d2_23) rfl k) ?_
  show Go p e below s _ _ _ (s₁.setTop (mkF m 24 #[.val (.long q0), .second, .val (.int p1), .val (.long (q0 ^^^ ((72340172838076673 : Int64) * ((p1 &&& (255 : Int32)).toInt64)))), .second] [(.long (((q0 ^^^ ((72340172838076673 : Int64) * ((p1 &&& (255 : Int32)).toInt64))) - (72340172838076673 : Int64)) &&& ((q0 ^^^ ((72340172838076673 : Int64) * ((p1 &&& (255 : Int32)).toInt64))) ^^^ (-1 : Int64))))]))
  refine Go.of (X0.ldc2Long hx hown (mvT hZ (hw _ (List.mem_of_getElem? (i := 10) rfl))) (g := (mkF m 24 #[.val (.long q0), .second, .val (.int p1), .val (.long (q0 ^^^ ((72340172838076673 : Int64) * ((p1 &&& (255 : Int32)).toInt64)))), .second] [(.long (((q0 ^^^ ((72340172838076673 : Int64) * ((p1 &&& (255 : Int32)).toInt64))) - (72340172838076673 : Int64)) &&& ((q0 ^^^ ((72340172838076673 : Int64) * ((p1 &&& (255 : Int32)).toInt64))) ^^^ (-1 : Int64))))])) rfl (hb hby d2_24)) ?_
  show Go p e below s _ _ _ (s₁.setTop (mkF m 27 #[.val (.long q0), .second, .val (.int p1), .val (.long (q0 ^^^ ((72340172838076673 : Int64) * ((p1 &&& (255 : Int32)).toInt64)))), .second] [(.long (-9187201950435737472 : Int64)), (.long (((q0 ^^^ ((72340172838076673 : Int64) * ((p1 &&& (255 : Int32)).toInt64))) - (72340172838076673 : Int64)) &&& ((q0 ^^^ ((72340172838076673 : Int64) * ((p1 &&& (255 : Int32)).toInt64))) ^^^ (-1 : Int64))))]))
  refine Go.of (fun t k => XS.land X0.here hx rfl (hb hby d2_27) rfl k) ?_
  show Go p e below s _ _ _ (s₁.setTop (mkF m 28 #[.val (.long q0), .second, .val (.int p1), .val (.long (q0 ^^^ ((72340172838076673 : Int64) * ((p1 &&& (255 : Int32)).toInt64)))), .second] [(.long ((((q0 ^^^ ((72340172838076673 : Int64) * ((p1 &&& (255 : Int32)).toInt64))) - (72340172838076673 : Int64)) &&& ((q0 ^^^ ((72340172838076673 : Int64) * ((p1 &&& (255 : Int32)).toInt64))) ^^^ (-1 : Int64))) &&& (-9187201950435737472 : Int64)))]))
  exact Go.ret X0 (some (.long ((((q0 ^^^ ((72340172838076673 : Int64) * ((p1 &&& (255 : Int32)).toInt64))) - (72340172838076673 : Int64)) &&& ((q0 ^^^ ((72340172838076673 : Int64) * ((p1 &&& (255 : Int32)).toInt64))) ^^^ (-1 : Int64))) &&& (-9187201950435737472 : Int64)))) (fun h => by rw [Bd.returns] at h; cases h) hlk ⟨rfl, N0, e0⟩ (by decide) (by decide) (fun fs hr => (retOut X0 hx Bd.returns rfl (Or.inr (Or.inl ⟨rfl, rfl, _, rfl⟩)) (hb hby d2_28) hr))
theorem d4_0 : decode method_4_code 0 = .ok (.lload_n 0, 1) := by decide +kernel
theorem d4_1 : decode method_4_code 1 = .ok (.bipush 8, 2) := by decide +kernel
theorem d4_3 : decode method_4_code 3 = .ok (.iload_n 3, 1) := by decide +kernel
theorem d4_4 : decode method_4_code 4 = .ok (.imul, 1) := by decide +kernel
theorem d4_5 : decode method_4_code 5 = .ok (.lushr, 1) := by decide +kernel
theorem d4_6 : decode method_4_code 6 = .ok (.l2i, 1) := by decide +kernel
theorem d4_7 : decode method_4_code 7 = .ok (.i2b, 1) := by decide +kernel
theorem d4_8 : decode method_4_code 8 = .ok (.iload_n 2, 1) := by decide +kernel
theorem d4_9 : decode method_4_code 9 = .ok (.if_icmp .ne 7, 3) := by decide +kernel
theorem d4_12 : decode method_4_code 12 = .ok (.iconst 1, 1) := by decide +kernel
theorem d4_13 : decode method_4_code 13 = .ok (.goto 4, 3) := by decide +kernel
theorem d4_16 : decode method_4_code 16 = .ok (.iconst 0, 1) := by decide +kernel
theorem d4_17 : decode method_4_code 17 = .ok (.ireturn, 1) := by decide +kernel
theorem ef_4 (m : MethodId) (q0 : Int64) (p1 : Int32) (p2 : Int32) : entryFrame m #[(.long q0), (.int p1), (.int p2)] 4 = mkF m 0 #[.val (.long q0), .second, .val (.int p1), .val (.int p2)] [] := by first | (simp [entryFrame, mkF, argsToLocals, Value.category]; done) | rfl
def F4 (q0 : Int64) (p1 : Int32) (p2 : Int32) : Int32 := (if ((((q0.toUInt64 >>> (((8 : Int32) * p2) &&& 0x3f).toInt64.toUInt64).toInt64).toInt32).toInt8.toInt32) = p1 then (1 : Int32) else (0 : Int32))
set_option maxRecDepth 65536 in
set_option maxHeartbeats 40000000 in
theorem rm4 (l : Launch) (Z : State) (az : Array Value) (hw : ∀ d ∈ tables_1, d.before az Z = true) (ws : List Jvm.Cond) (q0 : Int64) (p1 : Int32) (p2 : Int32)  (h0 : Heap) (n0 : Nat) (Z0 : n0 ≤ h0.size) :
    MetFree l (⟨"com/example/tallyfold/tallyfold/BytesBytesOfPinLaw", "is", "(JBI)Z"⟩ : MethodName) (head1 (Jvm.Cond.code (⟨"com/example/tallyfold/tallyfold/BytesBytesOfPinLaw", "is", "(JBI)Z"⟩ : MethodName) method_4_code 4 (some .boolean) :: ws) ({ frames := 0, cells := 0, slots := 0, locals := 0 } : Room)) (fun a U => a = #[(.long q0), (.int p1), (.int p2)] ∧ Z.Warmed39 U.vm ∧ U.heap = h0) (fun _ _ _ _ _ => True) (fun _ U o U' => ∃ v L, o = .returned v ∧ (QP (some (.int (F4 q0 p1 p2))) h0 n0) v U'.heap L ∧ FrameEnd U o U' L ({ frames := 0, cells := 0, slots := 0, locals := 0 } : Room).cells ({ frames := 0, cells := 0, slots := 0, locals := 0 } : Room).slots) := by
  refine MetFree.of_bodySF (plainFor_of_name own_pn0) hisR ?_
  intro p e s m args below meth c s₁ Bd hml0 hP hK
  obtain ⟨rfl, hZ, hh⟩ := hP
  have hx := Bd.exec
  have hby := Bd.bytes
  have hml : c.maxLocals = 4 := hml0
  have hown : s.vm.findClass "com/example/tallyfold/tallyfold/BytesBytesOfPinLaw" = some m.cls := findClass_of_methodNamed Bd.named
  have hnm := (name_of_methodNamed Bd.named Bd.method).1
  have hlk : meth.locks = false := BodyLoose.notSynchronized Bd
  have X0 : Stand p l e ({ frames := 0, cells := 0, slots := 0, locals := 0 } : Room) s m #[(.long q0), (.int p1), (.int p2)] below meth c s₁ [] 0 0 := Stand.of_body Bd
  have e0 : s₁.heap = h0 := by rw [← hh, Bd.state]; rfl
  have N0 := Fr.nil n0
  show Go p e below s (QP (some (.int (F4 q0 p1 p2))) h0 n0) ({ frames := 0, cells := 0, slots := 0, locals := 0 } : Room).cells ({ frames := 0, cells := 0, slots := 0, locals := 0 } : Room).slots (s₁.setTop (entryFrame m #[(.long q0), (.int p1), (.int p2)] 4))
  refine Go.of (fun t k => castTop (ef_4 m q0 p1 p2) k) ?_
  show Go p e below s _ _ _ (s₁.setTop (mkF m 0 #[.val (.long q0), .second, .val (.int p1), .val (.int p2)] []))
  unfold F4
  refine Go.of (fun t k => XS.lloadN X0.here hx rfl (hb hby d4_0) rfl k) ?_
  show Go p e below s _ _ _ (s₁.setTop (mkF m 1 #[.val (.long q0), .second, .val (.int p1), .val (.int p2)] [(.long q0)]))
  refine Go.of (fun t k => XS.bipush X0.here hx rfl (hb hby d4_1) k) ?_
  show Go p e below s _ _ _ (s₁.setTop (mkF m 3 #[.val (.long q0), .second, .val (.int p1), .val (.int p2)] [(.int (8 : Int32)), (.long q0)]))
  refine Go.of (fun t k => XS.iloadN X0.here hx rfl (hb hby d4_3) rfl k) ?_
  show Go p e below s _ _ _ (s₁.setTop (mkF m 4 #[.val (.long q0), .second, .val (.int p1), .val (.int p2)] [(.int p2), (.int (8 : Int32)), (.long q0)]))
  refine Go.of (fun t k => XS.imul X0.here hx rfl (hb hby d4_4) rfl k) ?_
  show Go p e below s _ _ _ (s₁.setTop (mkF m 5 #[.val (.long q0), .second, .val (.int p1), .val (.int p2)] [(.int ((8 : Int32) * p2)), (.long q0)]))
  refine Go.of (fun t k => XS.lushr X0.here hx rfl (hb hby d4_5) rfl k) ?_
  show Go p e below s _ _ _ (s₁.setTop (mkF m 6 #[.val (.long q0), .second, .val (.int p1), .val (.int p2)] [(.long ((q0.toUInt64 >>> (((8 : Int32) * p2) &&& 0x3f).toInt64.toUInt64).toInt64))]))
  refine Go.of (fun t k => XS.l2i X0.here hx rfl (hb hby d4_6) rfl k) ?_
  show Go p e below s _ _ _ (s₁.setTop (mkF m 7 #[.val (.long q0), .second, .val (.int p1), .val (.int p2)] [(.int (((q0.toUInt64 >>> (((8 : Int32) * p2) &&& 0x3f).toInt64.toUInt64).toInt64).toInt32))]))
  refine Go.of (fun t k => XS.i2b X0.here hx rfl (hb hby d4_7) rfl k) ?_
  show Go p e below s _ _ _ (s₁.setTop (mkF m 8 #[.val (.long q0), .second, .val (.int p1), .val (.int p2)] [(.int ((((q0.toUInt64 >>> (((8 : Int32) * p2) &&& 0x3f).toInt64.toUInt64).toInt64).toInt32).toInt8.toInt32))]))
  refine Go.of (fun t k => XS.iloadN X0.here hx rfl (hb hby d4_8) rfl k) ?_
  show Go p e below s _ _ _ (s₁.setTop (mkF m 9 #[.val (.long q0), .second, .val (.int p1), .val (.int p2)] [(.int p1), (.int ((((q0.toUInt64 >>> (((8 : Int32) * p2) &&& 0x3f).toInt64.toUInt64).toInt64).toInt32).toInt8.toInt32))]))
  by_cases hc9_1 : ((((q0.toUInt64 >>> (((8 : Int32) * p2) &&& 0x3f).toInt64.toUInt64).toInt64).toInt32).toInt8.toInt32) = p1
  · rewrite [if_pos hc9_1]
    refine Go.of (fun t k => XS.icmpNo X0.here hx rfl (hb hby d4_9) rfl (teq hc9_1).2 k) ?_
    show Go p e below s _ _ _ (s₁.setTop (mkF m 12 #[.val (.long q0), .second, .val (.int p1), .val (.int p2)] []))
    refine Go.of (fun t k => XS.iconst X0.here hx rfl (hb hby d4_12) k) ?_
    show Go p e below s _ _ _ (s₁.setTop (mkF m 13 #[.val (.long q0), .second, .val (.int p1), .val (.int p2)] [(.int (1 : Int32))]))
    refine Go.of (fun t k => XS.goto X0.here hx rfl (pc0 := 13) (pc' := 17) rfl (hb hby d4_13) (by decide) (by decide) k) ?_
    show Go p e below s _ _ _ (s₁.setTop (mkF m 17 #[.val (.long q0), .second, .val (.int p1), .val (.int p2)] [(.int (1 : Int32))]))
    exact Go.ret X0 (some (.int (1 : Int32))) (fun h => by rw [Bd.returns] at h; cases h) hlk ⟨rfl, N0, e0⟩ (by decide) (by decide) (fun fs hr => (retN X0 hx (t := .boolean) Bd.returns (by simp) (hb hby d4_17) hr))
  · rewrite [if_neg hc9_1]
    refine Go.of (fun t k => XS.icmpYes X0.here hx rfl (pc0 := 9) (pc' := 16) rfl (hb hby d4_9) rfl (feq hc9_1).2 (by decide) (by decide) k) ?_
    show Go p e below s _ _ _ (s₁.setTop (mkF m 16 #[.val (.long q0), .second, .val (.int p1), .val (.int p2)] []))
    refine Go.of (fun t k => XS.iconst X0.here hx rfl (hb hby d4_16) k) ?_
    show Go p e below s _ _ _ (s₁.setTop (mkF m 17 #[.val (.long q0), .second, .val (.int p1), .val (.int p2)] [(.int (0 : Int32))]))
    exact Go.ret X0 (some (.int (0 : Int32))) (fun h => by rw [Bd.returns] at h; cases h) hlk ⟨rfl, N0, e0⟩ (by decide) (by decide) (fun fs hr => (retN X0 hx (t := .boolean) Bd.returns (by simp) (hb hby d4_17) hr))
theorem own_pd0 : parseMethodDescriptor "(JBI)Z" = some ⟨[.long, .byte, .int], some .boolean⟩ := by decide +kernel
theorem d3_0 : decode method_5_code 0 = .ok (.lload_n 0, 1) := by decide +kernel
theorem d3_1 : decode method_5_code 1 = .ok (.iload 4, 2) := by decide +kernel
theorem d3_3 : decode method_5_code 3 = .ok (.iload 5, 2) := by decide +kernel
theorem d3_5 : decode method_5_code 5 = .ok (.invokestatic 35, 3) := by decide +kernel
theorem d3_8 : decode method_5_code 8 = .ok (.ifCond .eq 20, 3) := by decide +kernel
theorem d3_11 : decode method_5_code 11 = .ok (.lload_n 2, 1) := by decide +kernel
theorem d3_12 : decode method_5_code 12 = .ok (.bipush 8, 2) := by decide +kernel
theorem d3_14 : decode method_5_code 14 = .ok (.iload 5, 2) := by decide +kernel
theorem d3_16 : decode method_5_code 16 = .ok (.imul, 1) := by decide +kernel
theorem d3_17 : decode method_5_code 17 = .ok (.bipush 7, 2) := by decide +kernel
theorem d3_19 : decode method_5_code 19 = .ok (.iadd, 1) := by decide +kernel
theorem d3_20 : decode method_5_code 20 = .ok (.lushr, 1) := by decide +kernel
theorem d3_21 : decode method_5_code 21 = .ok (.lconst 1, 1) := by decide +kernel
theorem d3_22 : decode method_5_code 22 = .ok (.land, 1) := by decide +kernel
theorem d3_23 : decode method_5_code 23 = .ok (.lconst 1, 1) := by decide +kernel
theorem d3_24 : decode method_5_code 24 = .ok (.lcmp, 1) := by decide +kernel
theorem d3_25 : decode method_5_code 25 = .ok (.ifCond .ne 7, 3) := by decide +kernel
theorem d3_28 : decode method_5_code 28 = .ok (.iconst 1, 1) := by decide +kernel
theorem d3_29 : decode method_5_code 29 = .ok (.goto 4, 3) := by decide +kernel
theorem d3_32 : decode method_5_code 32 = .ok (.iconst 0, 1) := by decide +kernel
theorem d3_33 : decode method_5_code 33 = .ok (.ireturn, 1) := by decide +kernel
theorem ef_3 (m : MethodId) (q0 : Int64) (q1 : Int64) (p2 : Int32) (p3 : Int32) : entryFrame m #[(.long q0), (.long q1), (.int p2), (.int p3)] 6 = mkF m 0 #[.val (.long q0), .second, .val (.long q1), .second, .val (.int p2), .val (.int p3)] [] := by first | (simp [entryFrame, mkF, argsToLocals, Value.category]; done) | rfl
def F3 (q0 : Int64) (q1 : Int64) (p2 : Int32) (p3 : Int32) : Int32 := (if (F4 q0 p2 p3) = (0 : Int32) then (1 : Int32) else (if (((q1.toUInt64 >>> ((((8 : Int32) * p3) + (7 : Int32)) &&& 0x3f).toInt64.toUInt64).toInt64) &&& (1 : Int64)) = (1 : Int64) then (1 : Int32) else (0 : Int32)))
set_option maxRecDepth 65536 in
set_option maxHeartbeats 40000000 in
theorem rm3 (l : Launch) (Z : State) (az : Array Value) (hw : ∀ d ∈ tables_1, d.before az Z = true) (ws : List Jvm.Cond) (q0 : Int64) (q1 : Int64) (p2 : Int32) (p3 : Int32)  (h0 : Heap) (n0 : Nat) (Z0 : n0 ≤ h0.size) :
    MetFree l (⟨"com/example/tallyfold/tallyfold/BytesBytesOfPinLaw", "covers", "(JJBI)Z"⟩ : MethodName) (head1 (Jvm.Cond.code (⟨"com/example/tallyfold/tallyfold/BytesBytesOfPinLaw", "covers", "(JJBI)Z"⟩ : MethodName) method_5_code 6 (some .boolean) :: ws) ({ frames := 1, cells := 0, slots := 0, locals := 15 } : Room)) (fun a U => a = #[(.long q0), (.long q1), (.int p2), (.int p3)] ∧ Z.Warmed39 U.vm ∧ U.heap = h0) (fun _ _ _ _ _ => True) (fun _ U o U' => ∃ v L, o = .returned v ∧ (QP (some (.int (F3 q0 q1 p2 p3))) h0 n0) v U'.heap L ∧ FrameEnd U o U' L ({ frames := 1, cells := 0, slots := 0, locals := 15 } : Room).cells ({ frames := 1, cells := 0, slots := 0, locals := 15 } : Room).slots) := by
  refine MetFree.of_bodySF (plainFor_of_name own_pn0) hisR ?_
  intro p e s m args below meth c s₁ Bd hml0 hP hK
  obtain ⟨rfl, hZ, hh⟩ := hP
  have hx := Bd.exec
  have hby := Bd.bytes
  have hml : c.maxLocals = 6 := hml0
  have hown : s.vm.findClass "com/example/tallyfold/tallyfold/BytesBytesOfPinLaw" = some m.cls := findClass_of_methodNamed Bd.named
  have hnm := (name_of_methodNamed Bd.named Bd.method).1
  have hlk : meth.locks = false := BodyLoose.notSynchronized Bd
  have X0 : Stand p l e ({ frames := 1, cells := 0, slots := 0, locals := 15 } : Room) s m #[(.long q0), (.long q1), (.int p2), (.int p3)] below meth c s₁ [] 0 0 := Stand.of_body Bd
  have e0 : s₁.heap = h0 := by rw [← hh, Bd.state]; rfl
  have N0 := Fr.nil n0
  show Go p e below s (QP (some (.int (F3 q0 q1 p2 p3))) h0 n0) ({ frames := 1, cells := 0, slots := 0, locals := 15 } : Room).cells ({ frames := 1, cells := 0, slots := 0, locals := 15 } : Room).slots (s₁.setTop (entryFrame m #[(.long q0), (.long q1), (.int p2), (.int p3)] 6))
  refine Go.of (fun t k => castTop (ef_3 m q0 q1 p2 p3) k) ?_
  show Go p e below s _ _ _ (s₁.setTop (mkF m 0 #[.val (.long q0), .second, .val (.long q1), .second, .val (.int p2), .val (.int p3)] []))
  unfold F3
  refine Go.of (fun t k => XS.lloadN X0.here hx rfl (hb hby d3_0) rfl k) ?_
  show Go p e below s _ _ _ (s₁.setTop (mkF m 1 #[.val (.long q0), .second, .val (.long q1), .second, .val (.int p2), .val (.int p3)] [(.long q0)]))
  refine Go.of (fun t k => XS.iload X0.here hx rfl (hb hby d3_1) rfl k) ?_
  show Go p e below s _ _ _ (s₁.setTop (mkF m 3 #[.val (.long q0), .second, .val (.long q1), .second, .val (.int p2), .val (.int p3)] [(.int p2), (.long q0)]))
  refine Go.of (fun t k => XS.iload X0.here hx rfl (hb hby d3_3) rfl k) ?_
  show Go p e below s _ _ _ (s₁.setTop (mkF m 5 #[.val (.long q0), .second, .val (.long q1), .second, .val (.int p2), .val (.int p3)] [(.int p3), (.int p2), (.long q0)]))
  obtain ⟨_, _, ⟨T1, L1, k1, n1⟩, -, X1, ⟨Lc1, hQ1, l1, y1, z1⟩, st1⟩ := Jvm.LawKit.callS X0 hx (y := (⟨"com/example/tallyfold/tallyfold/BytesBytesOfPinLaw", "is", "(JBI)Z"⟩ : MethodName)) hown (mvT hZ (hw _ (List.mem_of_getElem? (i := 16) rfl))) (mvT hZ (hw _ (List.mem_of_getElem? (i := 17) rfl))) (mvT hZ (hw _ (List.mem_of_getElem? (i := 2) rfl))) (mvT hZ (hw _ (List.mem_of_getElem? (i := 18) rfl))) (by decide) (backOf (W := 0) (rm4 l Z az hw [] q0 p2 p3 h0 n0 Z0) hZ (hw _ (List.mem_of_getElem? (i := 18) rfl)) (hw _ (List.mem_of_getElem? (i := 2) rfl)) (by decide) (by decide)) (g := (mkF m 5 #[.val (.long q0), .second, .val (.long q1), .second, .val (.int p2), .val (.int p3)] [(.int p3), (.int p2), (.long q0)])) rfl (by rw [hml]; rfl) (argsL := [(.long q0), (.int p2), (.int p3)]) (rest := []) (lenOf own_pd0 rfl) rfl (by show 2 * 0 + _ ≤ _; exact Nat.le_of_eq rfl) (hb hby d3_5) (fun _ _ => ⟨rfl, e0, (by decide : 0 + 0 ≤ _), (by decide : 0 + 0 ≤ _)⟩)
  dsimp only [Pt.U, Pt.locs, Pt.cells, Pt.slots] at X1 l1 y1 z1 st1 hQ1
  subst l1 y1 z1
  obtain ⟨rfl, N1q, e1⟩ := hQ1
  have N1 := Fr.app N0 N1q
  refine Go.of st1 ?_
  show Go p e below s _ _ _ (T1.setTop (mkF m 8 #[.val (.long q0), .second, .val (.long q1), .second, .val (.int p2), .val (.int p3)] [(.int (F4 q0 p2 p3))]))
  by_cases hc8_2 : (F4 q0 p2 p3) = (0 : Int32)
  · rewrite [if_pos hc8_2]
    refine Go.of (fun t k => XS.ifYes X1.here hx rfl (pc0 := 8) (pc' := 28) rfl (hb hby d3_8) rfl ((if0 _ _).trans (teq hc8_2).1) (by decide) (by decide) k) ?_
    show Go p e below s _ _ _ (T1.setTop (mkF m 28 #[.val (.long q0), .second, .val (.long q1), .second, .val (.int p2), .val (.int p3)] []))
    refine Go.of (fun t k => XS.iconst X1.here hx rfl (hb hby d3_28) k) ?_
    show Go p e below s _ _ _ (T1.setTop (mkF m 29 #[.val (.long q0), .second, .val (.long q1), .second, .val (.int p2), .val (.int p3)] [(.int (1 : Int32))]))
    refine Go.of (fun t k => XS.goto X1.here hx rfl (pc0 := 29) (pc' := 33) rfl (hb hby d3_29) (by decide) (by decide) k) ?_
    show Go p e below s _ _ _ (T1.setTop (mkF m 33 #[.val (.long q0), .second, .val (.long q1), .second, .val (.int p2), .val (.int p3)] [(.int (1 : Int32))]))
    exact Go.ret X1 (some (.int (1 : Int32))) (fun h => by rw [Bd.returns] at h; cases h) hlk ⟨rfl, N1, e1⟩ (by decide) (by decide) (fun fs hr => (retN X1 hx (t := .boolean) Bd.returns (by simp) (hb hby d3_33) hr))
  · rewrite [if_neg hc8_2]
    refine Go.of (fun t k => XS.ifNo X1.here hx rfl (hb hby d3_8) rfl ((if0 _ _).trans (feq hc8_2).1) k) ?_
    show Go p e below s _ _ _ (T1.setTop (mkF m 11 #[.val (.long q0), .second, .val (.long q1), .second, .val (.int p2), .val (.int p3)] []))
    refine Go.of (fun t k => XS.lloadN X1.here hx rfl (hb hby d3_11) rfl k) ?_
    show Go p e below s _ _ _ (T1.setTop (mkF m 12 #[.val (.long q0), .second, .val (.long q1), .second, .val (.int p2), .val (.int p3)] [(.long q1)]))
    refine Go.of (fun t k => XS.bipush X1.here hx rfl (hb hby d3_12) k) ?_
    show Go p e below s _ _ _ (T1.setTop (mkF m 14 #[.val (.long q0), .second, .val (.long q1), .second, .val (.int p2), .val (.int p3)] [(.int (8 : Int32)), (.long q1)]))
    refine Go.of (fun t k => XS.iload X1.here hx rfl (hb hby d3_14) rfl k) ?_
    show Go p e below s _ _ _ (T1.setTop (mkF m 16 #[.val (.long q0), .second, .val (.long q1), .second, .val (.int p2), .val (.int p3)] [(.int p3), (.int (8 : Int32)), (.long q1)]))
    refine Go.of (fun t k => XS.imul X1.here hx rfl (hb hby d3_16) rfl k) ?_
    show Go p e below s _ _ _ (T1.setTop (mkF m 17 #[.val (.long q0), .second, .val (.long q1), .second, .val (.int p2), .val (.int p3)] [(.int ((8 : Int32) * p3)), (.long q1)]))
    refine Go.of (fun t k => XS.bipush X1.here hx rfl (hb hby d3_17) k) ?_
    show Go p e below s _ _ _ (T1.setTop (mkF m 19 #[.val (.long q0), .second, .val (.long q1), .second, .val (.int p2), .val (.int p3)] [(.int (7 : Int32)), (.int ((8 : Int32) * p3)), (.long q1)]))
    refine Go.of (fun t k => XS.iadd X1.here hx rfl (hb hby d3_19) rfl k) ?_
    show Go p e below s _ _ _ (T1.setTop (mkF m 20 #[.val (.long q0), .second, .val (.long q1), .second, .val (.int p2), .val (.int p3)] [(.int (((8 : Int32) * p3) + (7 : Int32))), (.long q1)]))
    refine Go.of (fun t k => XS.lushr X1.here hx rfl (hb hby d3_20) rfl k) ?_
    show Go p e below s _ _ _ (T1.setTop (mkF m 21 #[.val (.long q0), .second, .val (.long q1), .second, .val (.int p2), .val (.int p3)] [(.long ((q1.toUInt64 >>> ((((8 : Int32) * p3) + (7 : Int32)) &&& 0x3f).toInt64.toUInt64).toInt64))]))
    refine Go.of (fun t k => XS.lconst X1.here hx rfl (hb hby d3_21) k) ?_
    show Go p e below s _ _ _ (T1.setTop (mkF m 22 #[.val (.long q0), .second, .val (.long q1), .second, .val (.int p2), .val (.int p3)] [(.long (1 : Int64)), (.long ((q1.toUInt64 >>> ((((8 : Int32) * p3) + (7 : Int32)) &&& 0x3f).toInt64.toUInt64).toInt64))]))
    refine Go.of (fun t k => XS.land X1.here hx rfl (hb hby d3_22) rfl k) ?_
    show Go p e below s _ _ _ (T1.setTop (mkF m 23 #[.val (.long q0), .second, .val (.long q1), .second, .val (.int p2), .val (.int p3)] [(.long (((q1.toUInt64 >>> ((((8 : Int32) * p3) + (7 : Int32)) &&& 0x3f).toInt64.toUInt64).toInt64) &&& (1 : Int64)))]))
    refine Go.of (fun t k => XS.lconst X1.here hx rfl (hb hby d3_23) k) ?_
    show Go p e below s _ _ _ (T1.setTop (mkF m 24 #[.val (.long q0), .second, .val (.long q1), .second, .val (.int p2), .val (.int p3)] [(.long (1 : Int64)), (.long (((q1.toUInt64 >>> ((((8 : Int32) * p3) + (7 : Int32)) &&& 0x3f).toInt64.toUInt64).toInt64) &&& (1 : Int64)))]))
    refine Go.of (fun t k => XS.lcmp X1.here hx rfl (hb hby d3_24) rfl k) ?_
    show Go p e below s _ _ _ (T1.setTop (mkF m 25 #[.val (.long q0), .second, .val (.long q1), .second, .val (.int p2), .val (.int p3)] [(.int (lcmpW (((q1.toUInt64 >>> ((((8 : Int32) * p3) + (7 : Int32)) &&& 0x3f).toInt64.toUInt64).toInt64) &&& (1 : Int64)) (1 : Int64)))]))
    by_cases hc25_3 : (((q1.toUInt64 >>> ((((8 : Int32) * p3) + (7 : Int32)) &&& 0x3f).toInt64.toUInt64).toInt64) &&& (1 : Int64)) = (1 : Int64)
    · rewrite [if_pos hc25_3]
      refine Go.of (fun t k => XS.ifNo X1.here hx rfl (hb hby d3_25) rfl ((if0 _ _).trans (teq ((lw_eq (((q1.toUInt64 >>> ((((8 : Int32) * p3) + (7 : Int32)) &&& 0x3f).toInt64.toUInt64).toInt64) &&& (1 : Int64)) (1 : Int64)).mpr hc25_3)).2) k) ?_
      show Go p e below s _ _ _ (T1.setTop (mkF m 28 #[.val (.long q0), .second, .val (.long q1), .second, .val (.int p2), .val (.int p3)] []))
      refine Go.of (fun t k => XS.iconst X1.here hx rfl (hb hby d3_28) k) ?_
      show Go p e below s _ _ _ (T1.setTop (mkF m 29 #[.val (.long q0), .second, .val (.long q1), .second, .val (.int p2), .val (.int p3)] [(.int (1 : Int32))]))
      refine Go.of (fun t k => XS.goto X1.here hx rfl (pc0 := 29) (pc' := 33) rfl (hb hby d3_29) (by decide) (by decide) k) ?_
      show Go p e below s _ _ _ (T1.setTop (mkF m 33 #[.val (.long q0), .second, .val (.long q1), .second, .val (.int p2), .val (.int p3)] [(.int (1 : Int32))]))
      exact Go.ret X1 (some (.int (1 : Int32))) (fun h => by rw [Bd.returns] at h; cases h) hlk ⟨rfl, N1, e1⟩ (by decide) (by decide) (fun fs hr => (retN X1 hx (t := .boolean) Bd.returns (by simp) (hb hby d3_33) hr))
    · rewrite [if_neg hc25_3]
      refine Go.of (fun t k => XS.ifYes X1.here hx rfl (pc0 := 25) (pc' := 32) rfl (hb hby d3_25) rfl ((if0 _ _).trans (feq (mt (lw_eq (((q1.toUInt64 >>> ((((8 : Int32) * p3) + (7 : Int32)) &&& 0x3f).toInt64.toUInt64).toInt64) &&& (1 : Int64)) (1 : Int64)).mp hc25_3)).2) (by decide) (by decide) k) ?_
      show Go p e below s _ _ _ (T1.setTop (mkF m 32 #[.val (.long q0), .second, .val (.long q1), .second, .val (.int p2), .val (.int p3)] []))
      refine Go.of (fun t k => XS.iconst X1.here hx rfl (hb hby d3_32) k) ?_
      show Go p e below s _ _ _ (T1.setTop (mkF m 33 #[.val (.long q0), .second, .val (.long q1), .second, .val (.int p2), .val (.int p3)] [(.int (0 : Int32))]))
      exact Go.ret X1 (some (.int (0 : Int32))) (fun h => by rw [Bd.returns] at h; cases h) hlk ⟨rfl, N1, e1⟩ (by decide) (by decide) (fun fs hr => (retN X1 hx (t := .boolean) Bd.returns (by simp) (hb hby d3_33) hr))
theorem d5_0 : decode method_6_code 0 = .ok (.lload_n 0, 1) := by decide +kernel
theorem d5_1 : decode method_6_code 1 = .ok (.iload_n 2, 1) := by decide +kernel
theorem d5_2 : decode method_6_code 2 = .ok (.iconst 0, 1) := by decide +kernel
theorem d5_3 : decode method_6_code 3 = .ok (.invokestatic 35, 3) := by decide +kernel
theorem d5_6 : decode method_6_code 6 = .ok (.ifCond .eq 5, 3) := by decide +kernel
theorem d5_9 : decode method_6_code 9 = .ok (.iconst 0, 1) := by decide +kernel
theorem d5_10 : decode method_6_code 10 = .ok (.ireturn, 1) := by decide +kernel
theorem d5_11 : decode method_6_code 11 = .ok (.lload_n 0, 1) := by decide +kernel
theorem d5_12 : decode method_6_code 12 = .ok (.iload_n 2, 1) := by decide +kernel
theorem d5_13 : decode method_6_code 13 = .ok (.iconst 1, 1) := by decide +kernel
theorem d5_14 : decode method_6_code 14 = .ok (.invokestatic 35, 3) := by decide +kernel
theorem d5_17 : decode method_6_code 17 = .ok (.ifCond .eq 5, 3) := by decide +kernel
theorem d5_20 : decode method_6_code 20 = .ok (.iconst 1, 1) := by decide +kernel
theorem d5_21 : decode method_6_code 21 = .ok (.ireturn, 1) := by decide +kernel
theorem d5_22 : decode method_6_code 22 = .ok (.lload_n 0, 1) := by decide +kernel
theorem d5_23 : decode method_6_code 23 = .ok (.iload_n 2, 1) := by decide +kernel
theorem d5_24 : decode method_6_code 24 = .ok (.iconst 2, 1) := by decide +kernel
theorem d5_25 : decode method_6_code 25 = .ok (.invokestatic 35, 3) := by decide +kernel
theorem d5_28 : decode method_6_code 28 = .ok (.ifCond .eq 5, 3) := by decide +kernel
theorem d5_31 : decode method_6_code 31 = .ok (.iconst 2, 1) := by decide +kernel
theorem d5_32 : decode method_6_code 32 = .ok (.ireturn, 1) := by decide +kernel
theorem d5_33 : decode method_6_code 33 = .ok (.lload_n 0, 1) := by decide +kernel
theorem d5_34 : decode method_6_code 34 = .ok (.iload_n 2, 1) := by decide +kernel
theorem d5_35 : decode method_6_code 35 = .ok (.iconst 3, 1) := by decide +kernel
theorem d5_36 : decode method_6_code 36 = .ok (.invokestatic 35, 3) := by decide +kernel
theorem d5_39 : decode method_6_code 39 = .ok (.ifCond .eq 5, 3) := by decide +kernel
theorem d5_42 : decode method_6_code 42 = .ok (.iconst 3, 1) := by decide +kernel
theorem d5_43 : decode method_6_code 43 = .ok (.ireturn, 1) := by decide +kernel
theorem d5_44 : decode method_6_code 44 = .ok (.lload_n 0, 1) := by decide +kernel
theorem d5_45 : decode method_6_code 45 = .ok (.iload_n 2, 1) := by decide +kernel
theorem d5_46 : decode method_6_code 46 = .ok (.iconst 4, 1) := by decide +kernel
theorem d5_47 : decode method_6_code 47 = .ok (.invokestatic 35, 3) := by decide +kernel
theorem d5_50 : decode method_6_code 50 = .ok (.ifCond .eq 5, 3) := by decide +kernel
theorem d5_53 : decode method_6_code 53 = .ok (.iconst 4, 1) := by decide +kernel
theorem d5_54 : decode method_6_code 54 = .ok (.ireturn, 1) := by decide +kernel
theorem d5_55 : decode method_6_code 55 = .ok (.lload_n 0, 1) := by decide +kernel
theorem d5_56 : decode method_6_code 56 = .ok (.iload_n 2, 1) := by decide +kernel
theorem d5_57 : decode method_6_code 57 = .ok (.iconst 5, 1) := by decide +kernel
theorem d5_58 : decode method_6_code 58 = .ok (.invokestatic 35, 3) := by decide +kernel
theorem d5_61 : decode method_6_code 61 = .ok (.ifCond .eq 5, 3) := by decide +kernel
theorem d5_64 : decode method_6_code 64 = .ok (.iconst 5, 1) := by decide +kernel
theorem d5_65 : decode method_6_code 65 = .ok (.ireturn, 1) := by decide +kernel
theorem d5_66 : decode method_6_code 66 = .ok (.lload_n 0, 1) := by decide +kernel
theorem d5_67 : decode method_6_code 67 = .ok (.iload_n 2, 1) := by decide +kernel
theorem d5_68 : decode method_6_code 68 = .ok (.bipush 6, 2) := by decide +kernel
theorem d5_70 : decode method_6_code 70 = .ok (.invokestatic 35, 3) := by decide +kernel
theorem d5_73 : decode method_6_code 73 = .ok (.ifCond .eq 6, 3) := by decide +kernel
theorem d5_76 : decode method_6_code 76 = .ok (.bipush 6, 2) := by decide +kernel
theorem d5_78 : decode method_6_code 78 = .ok (.ireturn, 1) := by decide +kernel
theorem d5_79 : decode method_6_code 79 = .ok (.lload_n 0, 1) := by decide +kernel
theorem d5_80 : decode method_6_code 80 = .ok (.iload_n 2, 1) := by decide +kernel
theorem d5_81 : decode method_6_code 81 = .ok (.bipush 7, 2) := by decide +kernel
theorem d5_83 : decode method_6_code 83 = .ok (.invokestatic 35, 3) := by decide +kernel
theorem d5_86 : decode method_6_code 86 = .ok (.ifCond .eq 6, 3) := by decide +kernel
theorem d5_89 : decode method_6_code 89 = .ok (.bipush 7, 2) := by decide +kernel
theorem d5_91 : decode method_6_code 91 = .ok (.ireturn, 1) := by decide +kernel
theorem d5_92 : decode method_6_code 92 = .ok (.iconst (-1), 1) := by decide +kernel
theorem d5_93 : decode method_6_code 93 = .ok (.ireturn, 1) := by decide +kernel
theorem ef_5 (m : MethodId) (q0 : Int64) (p1 : Int32) : entryFrame m #[(.long q0), (.int p1)] 3 = mkF m 0 #[.val (.long q0), .second, .val (.int p1)] [] := by first | (simp [entryFrame, mkF, argsToLocals, Value.category]; done) | rfl
def F5 (q0 : Int64) (p1 : Int32) : Int32 := (if (F4 q0 p1 (0 : Int32)) = (0 : Int32) then (if (F4 q0 p1 (1 : Int32)) = (0 : Int32) then (if (F4 q0 p1 (2 : Int32)) = (0 : Int32) then (if (F4 q0 p1 (3 : Int32)) = (0 : Int32) then (if (F4 q0 p1 (4 : Int32)) = (0 : Int32) then (if (F4 q0 p1 (5 : Int32)) = (0 : Int32) then (if (F4 q0 p1 (6 : Int32)) = (0 : Int32) then (if (F4 q0 p1 (7 : Int32)) = (0 : Int32) then (-1 : Int32) else (7 : Int32)) else (6 : Int32)) else (5 : Int32)) else (4 : Int32)) else (3 : Int32)) else (2 : Int32)) else (1 : Int32)) else (0 : Int32))
set_option maxRecDepth 65536 in
set_option maxHeartbeats 40000000 in
theorem rm5 (l : Launch) (Z : State) (az : Array Value) (hw : ∀ d ∈ tables_1, d.before az Z = true) (ws : List Jvm.Cond) (q0 : Int64) (p1 : Int32)  (h0 : Heap) (n0 : Nat) (Z0 : n0 ≤ h0.size) :
    MetFree l (⟨"com/example/tallyfold/tallyfold/BytesBytesOfPinLaw", "first", "(JB)I"⟩ : MethodName) (head1 (Jvm.Cond.code (⟨"com/example/tallyfold/tallyfold/BytesBytesOfPinLaw", "first", "(JB)I"⟩ : MethodName) method_6_code 3 (some .int) :: ws) ({ frames := 1, cells := 0, slots := 0, locals := 15 } : Room)) (fun a U => a = #[(.long q0), (.int p1)] ∧ Z.Warmed39 U.vm ∧ U.heap = h0) (fun _ _ _ _ _ => True) (fun _ U o U' => ∃ v L, o = .returned v ∧ (QP (some (.int (F5 q0 p1))) h0 n0) v U'.heap L ∧ FrameEnd U o U' L ({ frames := 1, cells := 0, slots := 0, locals := 15 } : Room).cells ({ frames := 1, cells := 0, slots := 0, locals := 15 } : Room).slots) := by
  refine MetFree.of_bodySF (plainFor_of_name own_pn0) hisR ?_
  intro p e s m args below meth c s₁ Bd hml0 hP hK
  obtain ⟨rfl, hZ, hh⟩ := hP
  have hx := Bd.exec
  have hby := Bd.bytes
  have hml : c.maxLocals = 3 := hml0
  have hown : s.vm.findClass "com/example/tallyfold/tallyfold/BytesBytesOfPinLaw" = some m.cls := findClass_of_methodNamed Bd.named
  have hnm := (name_of_methodNamed Bd.named Bd.method).1
  have hlk : meth.locks = false := BodyLoose.notSynchronized Bd
  have X0 : Stand p l e ({ frames := 1, cells := 0, slots := 0, locals := 15 } : Room) s m #[(.long q0), (.int p1)] below meth c s₁ [] 0 0 := Stand.of_body Bd
  have e0 : s₁.heap = h0 := by rw [← hh, Bd.state]; rfl
  have N0 := Fr.nil n0
  show Go p e below s (QP (some (.int (F5 q0 p1))) h0 n0) ({ frames := 1, cells := 0, slots := 0, locals := 15 } : Room).cells ({ frames := 1, cells := 0, slots := 0, locals := 15 } : Room).slots (s₁.setTop (entryFrame m #[(.long q0), (.int p1)] 3))
  refine Go.of (fun t k => castTop (ef_5 m q0 p1) k) ?_
  show Go p e below s _ _ _ (s₁.setTop (mkF m 0 #[.val (.long q0), .second, .val (.int p1)] []))
  unfold F5
  refine Go.of (fun t k => XS.lloadN X0.here hx rfl (hb hby d5_0) rfl k) ?_
  show Go p e below s _ _ _ (s₁.setTop (mkF m 1 #[.val (.long q0), .second, .val (.int p1)] [(.long q0)]))
  refine Go.of (fun t k => XS.iloadN X0.here hx rfl (hb hby d5_1) rfl k) ?_
  show Go p e below s _ _ _ (s₁.setTop (mkF m 2 #[.val (.long q0), .second, .val (.int p1)] [(.int p1), (.long q0)]))
  refine Go.of (fun t k => XS.iconst X0.here hx rfl (hb hby d5_2) k) ?_
  show Go p e below s _ _ _ (s₁.setTop (mkF m 3 #[.val (.long q0), .second, .val (.int p1)] [(.int (0 : Int32)), (.int p1), (.long q0)]))
  obtain ⟨_, _, ⟨T1, L1, k1, n1⟩, -, X1, ⟨Lc1, hQ1, l1, y1, z1⟩, st1⟩ := Jvm.LawKit.callS X0 hx (y := (⟨"com/example/tallyfold/tallyfold/BytesBytesOfPinLaw", "is", "(JBI)Z"⟩ : MethodName)) hown (mvT hZ (hw _ (List.mem_of_getElem? (i := 16) rfl))) (mvT hZ (hw _ (List.mem_of_getElem? (i := 17) rfl))) (mvT hZ (hw _ (List.mem_of_getElem? (i := 2) rfl))) (mvT hZ (hw _ (List.mem_of_getElem? (i := 18) rfl))) (by decide) (backOf (W := 0) (rm4 l Z az hw [] q0 p1 (0 : Int32) h0 n0 Z0) hZ (hw _ (List.mem_of_getElem? (i := 18) rfl)) (hw _ (List.mem_of_getElem? (i := 2) rfl)) (by decide) (by decide)) (g := (mkF m 3 #[.val (.long q0), .second, .val (.int p1)] [(.int (0 : Int32)), (.int p1), (.long q0)])) rfl (by rw [hml]; rfl) (argsL := [(.long q0), (.int p1), (.int (0 : Int32))]) (rest := []) (lenOf own_pd0 rfl) rfl (by show 2 * 0 + _ ≤ _; exact Nat.le_of_eq rfl) (hb hby d5_3) (fun _ _ => ⟨rfl, e0, (by decide : 0 + 0 ≤ _), (by decide : 0 + 0 ≤ _)⟩)
  dsimp only [Pt.U, Pt.locs, Pt.cells, Pt.slots] at X1 l1 y1 z1 st1 hQ1
  subst l1 y1 z1
  obtain ⟨rfl, N1q, e1⟩ := hQ1
  have N1 := Fr.app N0 N1q
  refine Go.of st1 ?_
  show Go p e below s _ _ _ (T1.setTop (mkF m 6 #[.val (.long q0), .second, .val (.int p1)] [(.int (F4 q0 p1 (0 : Int32)))]))
  by_cases hc6_2 : (F4 q0 p1 (0 : Int32)) = (0 : Int32)
  · rewrite [if_pos hc6_2]
    refine Go.of (fun t k => XS.ifYes X1.here hx rfl (pc0 := 6) (pc' := 11) rfl (hb hby d5_6) rfl ((if0 _ _).trans (teq hc6_2).1) (by decide) (by decide) k) ?_
    show Go p e below s _ _ _ (T1.setTop (mkF m 11 #[.val (.long q0), .second, .val (.int p1)] []))
    refine Go.of (fun t k => XS.lloadN X1.here hx rfl (hb hby d5_11) rfl k) ?_
    show Go p e below s _ _ _ (T1.setTop (mkF m 12 #[.val (.long q0), .second, .val (.int p1)] [(.long q0)]))
    refine Go.of (fun t k => XS.iloadN X1.here hx rfl (hb hby d5_12) rfl k) ?_
    show Go p e below s _ _ _ (T1.setTop (mkF m 13 #[.val (.long q0), .second, .val (.int p1)] [(.int p1), (.long q0)]))
    refine Go.of (fun t k => XS.iconst X1.here hx rfl (hb hby d5_13) k) ?_
    show Go p e below s _ _ _ (T1.setTop (mkF m 14 #[.val (.long q0), .second, .val (.int p1)] [(.int (1 : Int32)), (.int p1), (.long q0)]))
    obtain ⟨_, _, ⟨T3, L3, k3, n3⟩, -, X3, ⟨Lc3, hQ3, l3, y3, z3⟩, st3⟩ := Jvm.LawKit.callS X1 hx (y := (⟨"com/example/tallyfold/tallyfold/BytesBytesOfPinLaw", "is", "(JBI)Z"⟩ : MethodName)) hown (mvT hZ (hw _ (List.mem_of_getElem? (i := 16) rfl))) (mvT hZ (hw _ (List.mem_of_getElem? (i := 17) rfl))) (mvT hZ (hw _ (List.mem_of_getElem? (i := 2) rfl))) (mvT hZ (hw _ (List.mem_of_getElem? (i := 18) rfl))) (by decide) (backOf (W := 0) (rm4 l Z az hw [] q0 p1 (1 : Int32) h0 n0 Z0) hZ (hw _ (List.mem_of_getElem? (i := 18) rfl)) (hw _ (List.mem_of_getElem? (i := 2) rfl)) (by decide) (by decide)) (g := (mkF m 14 #[.val (.long q0), .second, .val (.int p1)] [(.int (1 : Int32)), (.int p1), (.long q0)])) rfl (by rw [hml]; rfl) (argsL := [(.long q0), (.int p1), (.int (1 : Int32))]) (rest := []) (lenOf own_pd0 rfl) rfl (by show 2 * 0 + _ ≤ _; exact Nat.le_of_eq rfl) (hb hby d5_14) (fun _ _ => ⟨rfl, e1, (by decide : 0 + 0 ≤ _), (by decide : 0 + 0 ≤ _)⟩)
    dsimp only [Pt.U, Pt.locs, Pt.cells, Pt.slots] at X3 l3 y3 z3 st3 hQ3
    subst l3 y3 z3
    obtain ⟨rfl, N3q, e3⟩ := hQ3
    have N3 := Fr.app N1 N3q
    refine Go.of st3 ?_
    show Go p e below s _ _ _ (T3.setTop (mkF m 17 #[.val (.long q0), .second, .val (.int p1)] [(.int (F4 q0 p1 (1 : Int32)))]))
    by_cases hc17_4 : (F4 q0 p1 (1 : Int32)) = (0 : Int32)
    · rewrite [if_pos hc17_4]
      refine Go.of (fun t k => XS.ifYes X3.here hx rfl (pc0 := 17) (pc' := 22) rfl (hb hby d5_17) rfl ((if0 _ _).trans (teq hc17_4).1) (by decide) (by decide) k) ?_
      show Go p e below s _ _ _ (T3.setTop (mkF m 22 #[.val (.long q0), .second, .val (.int p1)] []))
      refine Go.of (fun t k => XS.lloadN X3.here hx rfl (hb hby d5_22) rfl k) ?_
      show Go p e below s _ _ _ (T3.setTop (mkF m 23 #[.val (.long q0), .second, .val (.int p1)] [(.long q0)]))
      refine Go.of (fun t k => XS.iloadN X3.here hx rfl (hb hby d5_23) rfl k) ?_
      show Go p e below s _ _ _ (T3.setTop (mkF m 24 #[.val (.long q0), .second, .val (.int p1)] [(.int p1), (.long q0)]))
      refine Go.of (fun t k => XS.iconst X3.here hx rfl (hb hby d5_24) k) ?_
      show Go p e below s _ _ _ (T3.setTop (mkF m 25 #[.val (.long q0), .second, .val (.int p1)] [(.int (2 : Int32)), (.int p1), (.long q0)]))
      obtain ⟨_, _, ⟨T5, L5, k5, n5⟩, -, X5, ⟨Lc5, hQ5, l5, y5, z5⟩, st5⟩ := Jvm.LawKit.callS X3 hx (y := (⟨"com/example/tallyfold/tallyfold/BytesBytesOfPinLaw", "is", "(JBI)Z"⟩ : MethodName)) hown (mvT hZ (hw _ (List.mem_of_getElem? (i := 16) rfl))) (mvT hZ (hw _ (List.mem_of_getElem? (i := 17) rfl))) (mvT hZ (hw _ (List.mem_of_getElem? (i := 2) rfl))) (mvT hZ (hw _ (List.mem_of_getElem? (i := 18) rfl))) (by decide) (backOf (W := 0) (rm4 l Z az hw [] q0 p1 (2 : Int32) h0 n0 Z0) hZ (hw _ (List.mem_of_getElem? (i := 18) rfl)) (hw _ (List.mem_of_getElem? (i := 2) rfl)) (by decide) (by decide)) (g := (mkF m 25 #[.val (.long q0), .second, .val (.int p1)] [(.int (2 : Int32)), (.int p1), (.long q0)])) rfl (by rw [hml]; rfl) (argsL := [(.long q0), (.int p1), (.int (2 : Int32))]) (rest := []) (lenOf own_pd0 rfl) rfl (by show 2 * 0 + _ ≤ _; exact Nat.le_of_eq rfl) (hb hby d5_25) (fun _ _ => ⟨rfl, e3, (by decide : 0 + 0 ≤ _), (by decide : 0 + 0 ≤ _)⟩)
      dsimp only [Pt.U, Pt.locs, Pt.cells, Pt.slots] at X5 l5 y5 z5 st5 hQ5
      subst l5 y5 z5
      obtain ⟨rfl, N5q, e5⟩ := hQ5
      have N5 := Fr.app N3 N5q
      refine Go.of st5 ?_
      show Go p e below s _ _ _ (T5.setTop (mkF m 28 #[.val (.long q0), .second, .val (.int p1)] [(.int (F4 q0 p1 (2 : Int32)))]))
      by_cases hc28_6 : (F4 q0 p1 (2 : Int32)) = (0 : Int32)
      · rewrite [if_pos hc28_6]
        refine Go.of (fun t k => XS.ifYes X5.here hx rfl (pc0 := 28) (pc' := 33) rfl (hb hby d5_28) rfl ((if0 _ _).trans (teq hc28_6).1) (by decide) (by decide) k) ?_
        show Go p e below s _ _ _ (T5.setTop (mkF m 33 #[.val (.long q0), .second, .val (.int p1)] []))
        refine Go.of (fun t k => XS.lloadN X5.here hx rfl (hb hby d5_33) rfl k) ?_
        show Go p e below s _ _ _ (T5.setTop (mkF m 34 #[.val (.long q0), .second, .val (.int p1)] [(.long q0)]))
        refine Go.of (fun t k => XS.iloadN X5.here hx rfl (hb hby d5_34) rfl k) ?_
        show Go p e below s _ _ _ (T5.setTop (mkF m 35 #[.val (.long q0), .second, .val (.int p1)] [(.int p1), (.long q0)]))
        refine Go.of (fun t k => XS.iconst X5.here hx rfl (hb hby d5_35) k) ?_
        show Go p e below s _ _ _ (T5.setTop (mkF m 36 #[.val (.long q0), .second, .val (.int p1)] [(.int (3 : Int32)), (.int p1), (.long q0)]))
        obtain ⟨_, _, ⟨T7, L7, k7, n7⟩, -, X7, ⟨Lc7, hQ7, l7, y7, z7⟩, st7⟩ := Jvm.LawKit.callS X5 hx (y := (⟨"com/example/tallyfold/tallyfold/BytesBytesOfPinLaw", "is", "(JBI)Z"⟩ : MethodName)) hown (mvT hZ (hw _ (List.mem_of_getElem? (i := 16) rfl))) (mvT hZ (hw _ (List.mem_of_getElem? (i := 17) rfl))) (mvT hZ (hw _ (List.mem_of_getElem? (i := 2) rfl))) (mvT hZ (hw _ (List.mem_of_getElem? (i := 18) rfl))) (by decide) (backOf (W := 0) (rm4 l Z az hw [] q0 p1 (3 : Int32) h0 n0 Z0) hZ (hw _ (List.mem_of_getElem? (i := 18) rfl)) (hw _ (List.mem_of_getElem? (i := 2) rfl)) (by decide) (by decide)) (g := (mkF m 36 #[.val (.long q0), .second, .val (.int p1)] [(.int (3 : Int32)), (.int p1), (.long q0)])) rfl (by rw [hml]; rfl) (argsL := [(.long q0), (.int p1), (.int (3 : Int32))]) (rest := []) (lenOf own_pd0 rfl) rfl (by show 2 * 0 + _ ≤ _; exact Nat.le_of_eq rfl) (hb hby d5_36) (fun _ _ => ⟨rfl, e5, (by decide : 0 + 0 ≤ _), (by decide : 0 + 0 ≤ _)⟩)
        dsimp only [Pt.U, Pt.locs, Pt.cells, Pt.slots] at X7 l7 y7 z7 st7 hQ7
        subst l7 y7 z7
        obtain ⟨rfl, N7q, e7⟩ := hQ7
        have N7 := Fr.app N5 N7q
        refine Go.of st7 ?_
        show Go p e below s _ _ _ (T7.setTop (mkF m 39 #[.val (.long q0), .second, .val (.int p1)] [(.int (F4 q0 p1 (3 : Int32)))]))
        by_cases hc39_8 : (F4 q0 p1 (3 : Int32)) = (0 : Int32)
        · rewrite [if_pos hc39_8]
          refine Go.of (fun t k => XS.ifYes X7.here hx rfl (pc0 := 39) (pc' := 44) rfl (hb hby d5_39) rfl ((if0 _ _).trans (teq hc39_8).1) (by decide) (by decide) k) ?_
          show Go p e below s _ _ _ (T7.setTop (mkF m 44 #[.val (.long q0), .second, .val (.int p1)] []))
          refine Go.of (fun t k => XS.lloadN X7.here hx rfl (hb hby d5_44) rfl k) ?_
          show Go p e below s _ _ _ (T7.setTop (mkF m 45 #[.val (.long q0), .second, .val (.int p1)] [(.long q0)]))
          refine Go.of (fun t k => XS.iloadN X7.here hx rfl (hb hby d5_45) rfl k) ?_
          show Go p e below s _ _ _ (T7.setTop (mkF m 46 #[.val (.long q0), .second, .val (.int p1)] [(.int p1), (.long q0)]))
          refine Go.of (fun t k => XS.iconst X7.here hx rfl (hb hby d5_46) k) ?_
          show Go p e below s _ _ _ (T7.setTop (mkF m 47 #[.val (.long q0), .second, .val (.int p1)] [(.int (4 : Int32)), (.int p1), (.long q0)]))
          obtain ⟨_, _, ⟨T9, L9, k9, n9⟩, -, X9, ⟨Lc9, hQ9, l9, y9, z9⟩, st9⟩ := Jvm.LawKit.callS X7 hx (y := (⟨"com/example/tallyfold/tallyfold/BytesBytesOfPinLaw", "is", "(JBI)Z"⟩ : MethodName)) hown (mvT hZ (hw _ (List.mem_of_getElem? (i := 16) rfl))) (mvT hZ (hw _ (List.mem_of_getElem? (i := 17) rfl))) (mvT hZ (hw _ (List.mem_of_getElem? (i := 2) rfl))) (mvT hZ (hw _ (List.mem_of_getElem? (i := 18) rfl))) (by decide) (backOf (W := 0) (rm4 l Z az hw [] q0 p1 (4 : Int32) h0 n0 Z0) hZ (hw _ (List.mem_of_getElem? (i := 18) rfl)) (hw _ (List.mem_of_getElem? (i := 2) rfl)) (by decide) (by decide)) (g := (mkF m 47 #[.val (.long q0), .second, .val (.int p1)] [(.int (4 : Int32)), (.int p1), (.long q0)])) rfl (by rw [hml]; rfl) (argsL := [(.long q0), (.int p1), (.int (4 : Int32))]) (rest := []) (lenOf own_pd0 rfl) rfl (by show 2 * 0 + _ ≤ _; exact Nat.le_of_eq rfl) (hb hby d5_47) (fun _ _ => ⟨rfl, e7, (by decide : 0 + 0 ≤ _), (by decide : 0 + 0 ≤ _)⟩)
          dsimp only [Pt.U, Pt.locs, Pt.cells, Pt.slots] at X9 l9 y9 z9 st9 hQ9
          subst l9 y9 z9
          obtain ⟨rfl, N9q, e9⟩ := hQ9
          have N9 := Fr.app N7 N9q
          refine Go.of st9 ?_
          show Go p e below s _ _ _ (T9.setTop (mkF m 50 #[.val (.long q0), .second, .val (.int p1)] [(.int (F4 q0 p1 (4 : Int32)))]))
          by_cases hc50_10 : (F4 q0 p1 (4 : Int32)) = (0 : Int32)
          · rewrite [if_pos hc50_10]
            refine Go.of (fun t k => XS.ifYes X9.here hx rfl (pc0 := 50) (pc' := 55) rfl (hb hby d5_50) rfl ((if0 _ _).trans (teq hc50_10).1) (by decide) (by decide) k) ?_
            show Go p e below s _ _ _ (T9.setTop (mkF m 55 #[.val (.long q0), .second, .val (.int p1)] []))
            refine Go.of (fun t k => XS.lloadN X9.here hx rfl (hb hby d5_55) rfl k) ?_
            show Go p e below s _ _ _ (T9.setTop (mkF m 56 #[.val (.long q0), .second, .val (.int p1)] [(.long q0)]))
            refine Go.of (fun t k => XS.iloadN X9.here hx rfl (hb hby d5_56) rfl k) ?_
            show Go p e below s _ _ _ (T9.setTop (mkF m 57 #[.val (.long q0), .second, .val (.int p1)] [(.int p1), (.long q0)]))
            refine Go.of (fun t k => XS.iconst X9.here hx rfl (hb hby d5_57) k) ?_
            show Go p e below s _ _ _ (T9.setTop (mkF m 58 #[.val (.long q0), .second, .val (.int p1)] [(.int (5 : Int32)), (.int p1), (.long q0)]))
            obtain ⟨_, _, ⟨T11, L11, k11, n11⟩, -, X11, ⟨Lc11, hQ11, l11, y11, z11⟩, st11⟩ := Jvm.LawKit.callS X9 hx (y := (⟨"com/example/tallyfold/tallyfold/BytesBytesOfPinLaw", "is", "(JBI)Z"⟩ : MethodName)) hown (mvT hZ (hw _ (List.mem_of_getElem? (i := 16) rfl))) (mvT hZ (hw _ (List.mem_of_getElem? (i := 17) rfl))) (mvT hZ (hw _ (List.mem_of_getElem? (i := 2) rfl))) (mvT hZ (hw _ (List.mem_of_getElem? (i := 18) rfl))) (by decide) (backOf (W := 0) (rm4 l Z az hw [] q0 p1 (5 : Int32) h0 n0 Z0) hZ (hw _ (List.mem_of_getElem? (i := 18) rfl)) (hw _ (List.mem_of_getElem? (i := 2) rfl)) (by decide) (by decide)) (g := (mkF m 58 #[.val (.long q0), .second, .val (.int p1)] [(.int (5 : Int32)), (.int p1), (.long q0)])) rfl (by rw [hml]; rfl) (argsL := [(.long q0), (.int p1), (.int (5 : Int32))]) (rest := []) (lenOf own_pd0 rfl) rfl (by show 2 * 0 + _ ≤ _; exact Nat.le_of_eq rfl) (hb hby d5_58) (fun _ _ => ⟨rfl, e9, (by decide : 0 + 0 ≤ _), (by decide : 0 + 0 ≤ _)⟩)
            dsimp only [Pt.U, Pt.locs, Pt.cells, Pt.slots] at X11 l11 y11 z11 st11 hQ11
            subst l11 y11 z11
            obtain ⟨rfl, N11q, e11⟩ := hQ11
            have N11 := Fr.app N9 N11q
            refine Go.of st11 ?_
            show Go p e below s _ _ _ (T11.setTop (mkF m 61 #[.val (.long q0), .second, .val (.int p1)] [(.int (F4 q0 p1 (5 : Int32)))]))
            by_cases hc61_12 : (F4 q0 p1 (5 : Int32)) = (0 : Int32)
            · rewrite [if_pos hc61_12]
              refine Go.of (fun t k => XS.ifYes X11.here hx rfl (pc0 := 61) (pc' := 66) rfl (hb hby d5_61) rfl ((if0 _ _).trans (teq hc61_12).1) (by decide) (by decide) k) ?_
              show Go p e below s _ _ _ (T11.setTop (mkF m 66 #[.val (.long q0), .second, .val (.int p1)] []))
              refine Go.of (fun t k => XS.lloadN X11.here hx rfl (hb hby d5_66) rfl k) ?_
              show Go p e below s _ _ _ (T11.setTop (mkF m 67 #[.val (.long q0), .second, .val (.int p1)] [(.long q0)]))
              refine Go.of (fun t k => XS.iloadN X11.here hx rfl (hb hby d5_67) rfl k) ?_
              show Go p e below s _ _ _ (T11.setTop (mkF m 68 #[.val (.long q0), .second, .val (.int p1)] [(.int p1), (.long q0)]))
              refine Go.of (fun t k => XS.bipush X11.here hx rfl (hb hby d5_68) k) ?_
              show Go p e below s _ _ _ (T11.setTop (mkF m 70 #[.val (.long q0), .second, .val (.int p1)] [(.int (6 : Int32)), (.int p1), (.long q0)]))
              obtain ⟨_, _, ⟨T13, L13, k13, n13⟩, -, X13, ⟨Lc13, hQ13, l13, y13, z13⟩, st13⟩ := Jvm.LawKit.callS X11 hx (y := (⟨"com/example/tallyfold/tallyfold/BytesBytesOfPinLaw", "is", "(JBI)Z"⟩ : MethodName)) hown (mvT hZ (hw _ (List.mem_of_getElem? (i := 16) rfl))) (mvT hZ (hw _ (List.mem_of_getElem? (i := 17) rfl))) (mvT hZ (hw _ (List.mem_of_getElem? (i := 2) rfl))) (mvT hZ (hw _ (List.mem_of_getElem? (i := 18) rfl))) (by decide) (backOf (W := 0) (rm4 l Z az hw [] q0 p1 (6 : Int32) h0 n0 Z0) hZ (hw _ (List.mem_of_getElem? (i := 18) rfl)) (hw _ (List.mem_of_getElem? (i := 2) rfl)) (by decide) (by decide)) (g := (mkF m 70 #[.val (.long q0), .second, .val (.int p1)] [(.int (6 : Int32)), (.int p1), (.long q0)])) rfl (by rw [hml]; rfl) (argsL := [(.long q0), (.int p1), (.int (6 : Int32))]) (rest := []) (lenOf own_pd0 rfl) rfl (by show 2 * 0 + _ ≤ _; exact Nat.le_of_eq rfl) (hb hby d5_70) (fun _ _ => ⟨rfl, e11, (by decide : 0 + 0 ≤ _), (by decide : 0 + 0 ≤ _)⟩)
              dsimp only [Pt.U, Pt.locs, Pt.cells, Pt.slots] at X13 l13 y13 z13 st13 hQ13
              subst l13 y13 z13
              obtain ⟨rfl, N13q, e13⟩ := hQ13
              have N13 := Fr.app N11 N13q
              refine Go.of st13 ?_
              show Go p e below s _ _ _ (T13.setTop (mkF m 73 #[.val (.long q0), .second, .val (.int p1)] [(.int (F4 q0 p1 (6 : Int32)))]))
              by_cases hc73_14 : (F4 q0 p1 (6 : Int32)) = (0 : Int32)
              · rewrite [if_pos hc73_14]
                refine Go.of (fun t k => XS.ifYes X13.here hx rfl (pc0 := 73) (pc' := 79) rfl (hb hby d5_73) rfl ((if0 _ _).trans (teq hc73_14).1) (by decide) (by decide) k) ?_
                show Go p e below s _ _ _ (T13.setTop (mkF m 79 #[.val (.long q0), .second, .val (.int p1)] []))
                refine Go.of (fun t k => XS.lloadN X13.here hx rfl (hb hby d5_79) rfl k) ?_
                show Go p e below s _ _ _ (T13.setTop (mkF m 80 #[.val (.long q0), .second, .val (.int p1)] [(.long q0)]))
                refine Go.of (fun t k => XS.iloadN X13.here hx rfl (hb hby d5_80) rfl k) ?_
                show Go p e below s _ _ _ (T13.setTop (mkF m 81 #[.val (.long q0), .second, .val (.int p1)] [(.int p1), (.long q0)]))
                refine Go.of (fun t k => XS.bipush X13.here hx rfl (hb hby d5_81) k) ?_
                show Go p e below s _ _ _ (T13.setTop (mkF m 83 #[.val (.long q0), .second, .val (.int p1)] [(.int (7 : Int32)), (.int p1), (.long q0)]))
                obtain ⟨_, _, ⟨T15, L15, k15, n15⟩, -, X15, ⟨Lc15, hQ15, l15, y15, z15⟩, st15⟩ := Jvm.LawKit.callS X13 hx (y := (⟨"com/example/tallyfold/tallyfold/BytesBytesOfPinLaw", "is", "(JBI)Z"⟩ : MethodName)) hown (mvT hZ (hw _ (List.mem_of_getElem? (i := 16) rfl))) (mvT hZ (hw _ (List.mem_of_getElem? (i := 17) rfl))) (mvT hZ (hw _ (List.mem_of_getElem? (i := 2) rfl))) (mvT hZ (hw _ (List.mem_of_getElem? (i := 18) rfl))) (by decide) (backOf (W := 0) (rm4 l Z az hw [] q0 p1 (7 : Int32) h0 n0 Z0) hZ (hw _ (List.mem_of_getElem? (i := 18) rfl)) (hw _ (List.mem_of_getElem? (i := 2) rfl)) (by decide) (by decide)) (g := (mkF m 83 #[.val (.long q0), .second, .val (.int p1)] [(.int (7 : Int32)), (.int p1), (.long q0)])) rfl (by rw [hml]; rfl) (argsL := [(.long q0), (.int p1), (.int (7 : Int32))]) (rest := []) (lenOf own_pd0 rfl) rfl (by show 2 * 0 + _ ≤ _; exact Nat.le_of_eq rfl) (hb hby d5_83) (fun _ _ => ⟨rfl, e13, (by decide : 0 + 0 ≤ _), (by decide : 0 + 0 ≤ _)⟩)
                dsimp only [Pt.U, Pt.locs, Pt.cells, Pt.slots] at X15 l15 y15 z15 st15 hQ15
                subst l15 y15 z15
                obtain ⟨rfl, N15q, e15⟩ := hQ15
                have N15 := Fr.app N13 N15q
                refine Go.of st15 ?_
                show Go p e below s _ _ _ (T15.setTop (mkF m 86 #[.val (.long q0), .second, .val (.int p1)] [(.int (F4 q0 p1 (7 : Int32)))]))
                by_cases hc86_16 : (F4 q0 p1 (7 : Int32)) = (0 : Int32)
                · rewrite [if_pos hc86_16]
                  refine Go.of (fun t k => XS.ifYes X15.here hx rfl (pc0 := 86) (pc' := 92) rfl (hb hby d5_86) rfl ((if0 _ _).trans (teq hc86_16).1) (by decide) (by decide) k) ?_
                  show Go p e below s _ _ _ (T15.setTop (mkF m 92 #[.val (.long q0), .second, .val (.int p1)] []))
                  refine Go.of (fun t k => XS.iconst X15.here hx rfl (hb hby d5_92) k) ?_
                  show Go p e below s _ _ _ (T15.setTop (mkF m 93 #[.val (.long q0), .second, .val (.int p1)] [(.int (-1 : Int32))]))
                  exact Go.ret X15 (some (.int (-1 : Int32))) (fun h => by rw [Bd.returns] at h; cases h) hlk ⟨rfl, N15, e15⟩ (by decide) (by decide) (fun fs hr => (retI X15 hx Bd.returns (hb hby d5_93) hr))
                · rewrite [if_neg hc86_16]
                  refine Go.of (fun t k => XS.ifNo X15.here hx rfl (hb hby d5_86) rfl ((if0 _ _).trans (feq hc86_16).1) k) ?_
                  show Go p e below s _ _ _ (T15.setTop (mkF m 89 #[.val (.long q0), .second, .val (.int p1)] []))
                  refine Go.of (fun t k => XS.bipush X15.here hx rfl (hb hby d5_89) k) ?_
                  show Go p e below s _ _ _ (T15.setTop (mkF m 91 #[.val (.long q0), .second, .val (.int p1)] [(.int (7 : Int32))]))
                  exact Go.ret X15 (some (.int (7 : Int32))) (fun h => by rw [Bd.returns] at h; cases h) hlk ⟨rfl, N15, e15⟩ (by decide) (by decide) (fun fs hr => (retI X15 hx Bd.returns (hb hby d5_91) hr))
              · rewrite [if_neg hc73_14]
                refine Go.of (fun t k => XS.ifNo X13.here hx rfl (hb hby d5_73) rfl ((if0 _ _).trans (feq hc73_14).1) k) ?_
                show Go p e below s _ _ _ (T13.setTop (mkF m 76 #[.val (.long q0), .second, .val (.int p1)] []))
                refine Go.of (fun t k => XS.bipush X13.here hx rfl (hb hby d5_76) k) ?_
                show Go p e below s _ _ _ (T13.setTop (mkF m 78 #[.val (.long q0), .second, .val (.int p1)] [(.int (6 : Int32))]))
                exact Go.ret X13 (some (.int (6 : Int32))) (fun h => by rw [Bd.returns] at h; cases h) hlk ⟨rfl, N13, e13⟩ (by decide) (by decide) (fun fs hr => (retI X13 hx Bd.returns (hb hby d5_78) hr))
            · rewrite [if_neg hc61_12]
              refine Go.of (fun t k => XS.ifNo X11.here hx rfl (hb hby d5_61) rfl ((if0 _ _).trans (feq hc61_12).1) k) ?_
              show Go p e below s _ _ _ (T11.setTop (mkF m 64 #[.val (.long q0), .second, .val (.int p1)] []))
              refine Go.of (fun t k => XS.iconst X11.here hx rfl (hb hby d5_64) k) ?_
              show Go p e below s _ _ _ (T11.setTop (mkF m 65 #[.val (.long q0), .second, .val (.int p1)] [(.int (5 : Int32))]))
              exact Go.ret X11 (some (.int (5 : Int32))) (fun h => by rw [Bd.returns] at h; cases h) hlk ⟨rfl, N11, e11⟩ (by decide) (by decide) (fun fs hr => (retI X11 hx Bd.returns (hb hby d5_65) hr))
          · rewrite [if_neg hc50_10]
            refine Go.of (fun t k => XS.ifNo X9.here hx rfl (hb hby d5_50) rfl ((if0 _ _).trans (feq hc50_10).1) k) ?_
            show Go p e below s _ _ _ (T9.setTop (mkF m 53 #[.val (.long q0), .second, .val (.int p1)] []))
            refine Go.of (fun t k => XS.iconst X9.here hx rfl (hb hby d5_53) k) ?_
            show Go p e below s _ _ _ (T9.setTop (mkF m 54 #[.val (.long q0), .second, .val (.int p1)] [(.int (4 : Int32))]))
            exact Go.ret X9 (some (.int (4 : Int32))) (fun h => by rw [Bd.returns] at h; cases h) hlk ⟨rfl, N9, e9⟩ (by decide) (by decide) (fun fs hr => (retI X9 hx Bd.returns (hb hby d5_54) hr))
        · rewrite [if_neg hc39_8]
          refine Go.of (fun t k => XS.ifNo X7.here hx rfl (hb hby d5_39) rfl ((if0 _ _).trans (feq hc39_8).1) k) ?_
          show Go p e below s _ _ _ (T7.setTop (mkF m 42 #[.val (.long q0), .second, .val (.int p1)] []))
          refine Go.of (fun t k => XS.iconst X7.here hx rfl (hb hby d5_42) k) ?_
          show Go p e below s _ _ _ (T7.setTop (mkF m 43 #[.val (.long q0), .second, .val (.int p1)] [(.int (3 : Int32))]))
          exact Go.ret X7 (some (.int (3 : Int32))) (fun h => by rw [Bd.returns] at h; cases h) hlk ⟨rfl, N7, e7⟩ (by decide) (by decide) (fun fs hr => (retI X7 hx Bd.returns (hb hby d5_43) hr))
      · rewrite [if_neg hc28_6]
        refine Go.of (fun t k => XS.ifNo X5.here hx rfl (hb hby d5_28) rfl ((if0 _ _).trans (feq hc28_6).1) k) ?_
        show Go p e below s _ _ _ (T5.setTop (mkF m 31 #[.val (.long q0), .second, .val (.int p1)] []))
        refine Go.of (fun t k => XS.iconst X5.here hx rfl (hb hby d5_31) k) ?_
        show Go p e below s _ _ _ (T5.setTop (mkF m 32 #[.val (.long q0), .second, .val (.int p1)] [(.int (2 : Int32))]))
        exact Go.ret X5 (some (.int (2 : Int32))) (fun h => by rw [Bd.returns] at h; cases h) hlk ⟨rfl, N5, e5⟩ (by decide) (by decide) (fun fs hr => (retI X5 hx Bd.returns (hb hby d5_32) hr))
    · rewrite [if_neg hc17_4]
      refine Go.of (fun t k => XS.ifNo X3.here hx rfl (hb hby d5_17) rfl ((if0 _ _).trans (feq hc17_4).1) k) ?_
      show Go p e below s _ _ _ (T3.setTop (mkF m 20 #[.val (.long q0), .second, .val (.int p1)] []))
      refine Go.of (fun t k => XS.iconst X3.here hx rfl (hb hby d5_20) k) ?_
      show Go p e below s _ _ _ (T3.setTop (mkF m 21 #[.val (.long q0), .second, .val (.int p1)] [(.int (1 : Int32))]))
      exact Go.ret X3 (some (.int (1 : Int32))) (fun h => by rw [Bd.returns] at h; cases h) hlk ⟨rfl, N3, e3⟩ (by decide) (by decide) (fun fs hr => (retI X3 hx Bd.returns (hb hby d5_21) hr))
  · rewrite [if_neg hc6_2]
    refine Go.of (fun t k => XS.ifNo X1.here hx rfl (hb hby d5_6) rfl ((if0 _ _).trans (feq hc6_2).1) k) ?_
    show Go p e below s _ _ _ (T1.setTop (mkF m 9 #[.val (.long q0), .second, .val (.int p1)] []))
    refine Go.of (fun t k => XS.iconst X1.here hx rfl (hb hby d5_9) k) ?_
    show Go p e below s _ _ _ (T1.setTop (mkF m 10 #[.val (.long q0), .second, .val (.int p1)] [(.int (0 : Int32))]))
    exact Go.ret X1 (some (.int (0 : Int32))) (fun h => by rw [Bd.returns] at h; cases h) hlk ⟨rfl, N1, e1⟩ (by decide) (by decide) (fun fs hr => (retI X1 hx Bd.returns (hb hby d5_10) hr))
theorem own_pd1 : parseMethodDescriptor "(JBI)J" = some ⟨[.long, .byte, .int], some .long⟩ := by decide +kernel
theorem own_pd2 : parseMethodDescriptor "(JB)J" = some ⟨[.long, .byte], some .long⟩ := by decide +kernel
theorem own_pd3 : parseMethodDescriptor "(JJBI)Z" = some ⟨[.long, .long, .byte, .int], some .boolean⟩ := by decide +kernel
theorem own_pd4 : parseMethodDescriptor "(JB)I" = some ⟨[.long, .byte], some .int⟩ := by decide +kernel
theorem ef_0 (m : MethodId) (q0 : Int64) (p1 : Int32) (p2 : Int32) (p3 : Int32) : entryFrame m #[(.long q0), (.int p1), (.int p2), (.int p3)] maxLocals = mkF m 0 #[.val (.long q0), .second, .val (.int p1), .val (.int p2), .val (.int p3), .unset, .unset, .unset, .unset, .unset, .unset, .unset, .unset, .unset, .unset, .unset] [] := by first | (simp [entryFrame, mkF, argsToLocals, Value.category, maxLocals]; done) | rfl
def F0_226 (v5_24c : Int32) (v6_24c : Int64) (w0_226 : Int64) : Int32 := (if ((F2 v6_24c v5_24c) &&& w0_226) = ((128 : Int64) <<< (((8 : Int32) * (F5 v6_24c v5_24c)) &&& 0x3f).toInt64) then (1 : Int32) else (0 : Int32))
def F0_165 (v5_24c : Int32) (v6_24c : Int64) (w0_165 : Int32) : Int32 := (if w0_165 = (0 : Int32) then (0 : Int32) else (if (F5 v6_24c v5_24c) < (0 : Int32) then (if (F2 v6_24c v5_24c) = (0 : Int64) then (1 : Int32) else (0 : Int32)) else (if (F5 v6_24c v5_24c) = (7 : Int32) then (F0_226 v5_24c v6_24c (-1 : Int64)) else (F0_226 v5_24c v6_24c (((1 : Int64) <<< ((((8 : Int32) * (F5 v6_24c v5_24c)) + (8 : Int32)) &&& 0x3f).toInt64) - (1 : Int64))))))
def F0_164 (v5_24c : Int32) (v6_24c : Int64) : Int32 := (F0_165 v5_24c v6_24c (0 : Int32))
def F0_24c (v5_24c : Int32) (v6_24c : Int64) : Int32 := (if ((F2 v6_24c v5_24c) &&& ((-9187201950435737472 : Int64) ^^^ (-1 : Int64))) = (0 : Int64) then (if (F3 v6_24c (F2 v6_24c v5_24c) v5_24c (0 : Int32)) = (0 : Int32) then (F0_164 v5_24c v6_24c) else (if (F3 v6_24c (F2 v6_24c v5_24c) v5_24c (1 : Int32)) = (0 : Int32) then (F0_164 v5_24c v6_24c) else (if (F3 v6_24c (F2 v6_24c v5_24c) v5_24c (2 : Int32)) = (0 : Int32) then (F0_164 v5_24c v6_24c) else (if (F3 v6_24c (F2 v6_24c v5_24c) v5_24c (3 : Int32)) = (0 : Int32) then (F0_164 v5_24c v6_24c) else (if (F3 v6_24c (F2 v6_24c v5_24c) v5_24c (4 : Int32)) = (0 : Int32) then (F0_164 v5_24c v6_24c) else (if (F3 v6_24c (F2 v6_24c v5_24c) v5_24c (5 : Int32)) = (0 : Int32) then (F0_164 v5_24c v6_24c) else (if (F3 v6_24c (F2 v6_24c v5_24c) v5_24c (6 : Int32)) = (0 : Int32) then (F0_164 v5_24c v6_24c) else (if (F3 v6_24c (F2 v6_24c v5_24c) v5_24c (7 : Int32)) = (0 : Int32) then (F0_164 v5_24c v6_24c) else (F0_165 v5_24c v6_24c (1 : Int32)))))))))) else (0 : Int32))
def F0 (q0 : Int64) (p1 : Int32) (p2 : Int32) (p3 : Int32) : Int32 := (F0_24c (p1.toInt8.toInt32) (F1 (F1 q0 (p1.toInt8.toInt32) p2) (p1.toInt8.toInt32) p3))
set_option maxRecDepth 65536 in
set_option maxHeartbeats 40000000 in
theorem rm0 (l : Launch) (Z : State) (az : Array Value) (hw : ∀ d ∈ tables_1, d.before az Z = true) (ws : List Jvm.Cond) (q0 : Int64) (p1 : Int32) (p2 : Int32) (p3 : Int32)  (h0 : Heap) (n0 : Nat) (Z0 : n0 ≤ h0.size) :
    MetFree l x (head1 (Jvm.Cond.code x code maxLocals ret :: ws) room_1) (fun a U => a = #[(.long q0), (.int p1), (.int p2), (.int p3)] ∧ Z.Warmed39 U.vm ∧ U.heap = h0) (fun _ _ _ _ _ => True) (fun _ U o U' => ∃ v L, o = .returned v ∧ (QL (some (.int (F0 q0 p1 p2 p3))) n0) v U'.heap L ∧ FrameEnd U o U' L room_1.cells room_1.slots) := by
  refine MetFree.of_bodySF (plainFor_of_name own_pn0) hisR ?_
  intro p e s m args below meth c s₁ Bd hml0 hP hK
  obtain ⟨rfl, hZ, hh⟩ := hP
  have hx := Bd.exec
  have hby := Bd.bytes
  have hml : c.maxLocals = 16 := hml0
  have hown : s.vm.findClass "com/example/tallyfold/tallyfold/BytesBytesOfPinLaw" = some m.cls := findClass_of_methodNamed Bd.named
  have hnm := (name_of_methodNamed Bd.named Bd.method).1
  have hlk : meth.locks = false := BodyLoose.notSynchronized Bd
  have X0 : Stand p l e room_1 s m #[(.long q0), (.int p1), (.int p2), (.int p3)] below meth c s₁ [] 0 0 := Stand.of_body Bd
  have e0 : s₁.heap = h0 := by rw [← hh, Bd.state]; rfl
  have N0 := Fr.nil n0
  show Go p e below s (QL (some (.int (F0 q0 p1 p2 p3))) n0) room_1.cells room_1.slots (s₁.setTop (entryFrame m #[(.long q0), (.int p1), (.int p2), (.int p3)] maxLocals))
  refine Go.of (fun t k => castTop (ef_0 m q0 p1 p2 p3) k) ?_
  show Go p e below s _ _ _ (s₁.setTop (mkF m 0 #[.val (.long q0), .second, .val (.int p1), .val (.int p2), .val (.int p3), .unset, .unset, .unset, .unset, .unset, .unset, .unset, .unset, .unset, .unset, .unset] []))
  unfold F0
  refine Go.of (fun t k => XS.iloadN X0.here hx rfl (hb hby at_0) rfl k) ?_
  show Go p e below s _ _ _ (s₁.setTop (mkF m 1 #[.val (.long q0), .second, .val (.int p1), .val (.int p2), .val (.int p3), .unset, .unset, .unset, .unset, .unset, .unset, .unset, .unset, .unset, .unset, .unset] [(.int p1)]))
  refine Go.of (fun t k => XS.i2b X0.here hx rfl (hb hby at_1) rfl k) ?_
  show Go p e below s _ _ _ (s₁.setTop (mkF m 2 #[.val (.long q0), .second, .val (.int p1), .val (.int p2), .val (.int p3), .unset, .unset, .unset, .unset, .unset, .unset, .unset, .unset, .unset, .unset, .unset] [(.int (p1.toInt8.toInt32))]))
  refine Go.of (fun t k => XS.istore X0.here hx rfl (hb hby at_2) rfl (l' := #[.val (.long q0), .second, .val (.int p1), .val (.int p2), .val (.int p3), .val (.int (p1.toInt8.toInt32)), .unset, .unset, .unset, .unset, .unset, .unset, .unset, .unset, .unset, .unset]) rfl k) ?_
  show Go p e below s _ _ _ (s₁.setTop (mkF m 4 #[.val (.long q0), .second, .val (.int p1), .val (.int p2), .val (.int p3), .val (.int (p1.toInt8.toInt32)), .unset, .unset, .unset, .unset, .unset, .unset, .unset, .unset, .unset, .unset] []))
  refine Go.of (fun t k => XS.lloadN X0.here hx rfl (hb hby at_4) rfl k) ?_
  show Go p e below s _ _ _ (s₁.setTop (mkF m 5 #[.val (.long q0), .second, .val (.int p1), .val (.int p2), .val (.int p3), .val (.int (p1.toInt8.toInt32)), .unset, .unset, .unset, .unset, .unset, .unset, .unset, .unset, .unset, .unset] [(.long q0)]))
  refine Go.of (fun t k => XS.iload X0.here hx rfl (hb hby at_5) rfl k) ?_
  show Go p e below s _ _ _ (s₁.setTop (mkF m 7 #[.val (.long q0), .second, .val (.int p1), .val (.int p2), .val (.int p3), .val (.int (p1.toInt8.toInt32)), .unset, .unset, .unset, .unset, .unset, .unset, .unset, .unset, .unset, .unset] [(.int (p1.toInt8.toInt32)), (.long q0)]))
  refine Go.of (fun t k => XS.iloadN X0.here hx rfl (hb hby at_7) rfl k) ?_
  show Go p e below s _ _ _ (s₁.setTop (mkF m 8 #[.val (.long q0), .second, .val (.int p1), .val (.int p2), .val (.int p3), .val (.int (p1.toInt8.toInt32)), .unset, .unset, .unset, .unset, .unset, .unset, .unset, .unset, .unset, .unset] [(.int p2), (.int (p1.toInt8.toInt32)), (.long q0)]))
  obtain ⟨_, _, ⟨T1, L1, k1, n1⟩, -, X1, ⟨Lc1, hQ1, l1, y1, z1⟩, st1⟩ := Jvm.LawKit.callS X0 hx (y := (⟨"com/example/tallyfold/tallyfold/BytesBytesOfPinLaw", "plant", "(JBI)J"⟩ : MethodName)) hown (mvT hZ (hw _ (List.mem_of_getElem? (i := 0) rfl))) (mvT hZ (hw _ (List.mem_of_getElem? (i := 1) rfl))) (mvT hZ (hw _ (List.mem_of_getElem? (i := 2) rfl))) (mvT hZ (hw _ (List.mem_of_getElem? (i := 3) rfl))) (by decide) (backOf (W := 0) (rm1 l Z az hw [] q0 (p1.toInt8.toInt32) p2 h0 n0 Z0) hZ (hw _ (List.mem_of_getElem? (i := 3) rfl)) (hw _ (List.mem_of_getElem? (i := 2) rfl)) (by decide) (by decide)) (g := (mkF m 8 #[.val (.long q0), .second, .val (.int p1), .val (.int p2), .val (.int p3), .val (.int (p1.toInt8.toInt32)), .unset, .unset, .unset, .unset, .unset, .unset, .unset, .unset, .unset, .unset] [(.int p2), (.int (p1.toInt8.toInt32)), (.long q0)])) rfl (by rw [hml]; rfl) (argsL := [(.long q0), (.int (p1.toInt8.toInt32)), (.int p2)]) (rest := []) (lenOf own_pd1 rfl) rfl (by show 2 * 0 + _ ≤ _; exact Nat.le_of_eq rfl) (hb hby at_8) (fun _ _ => ⟨rfl, e0, (by decide : 0 + 0 ≤ _), (by decide : 0 + 0 ≤ _)⟩)
  dsimp only [Pt.U, Pt.locs, Pt.cells, Pt.slots] at X1 l1 y1 z1 st1 hQ1
  subst l1 y1 z1
  obtain ⟨rfl, N1q, e1⟩ := hQ1
  have N1 := Fr.app N0 N1q
  refine Go.of st1 ?_
  show Go p e below s _ _ _ (T1.setTop (mkF m 11 #[.val (.long q0), .second, .val (.int p1), .val (.int p2), .val (.int p3), .val (.int (p1.toInt8.toInt32)), .unset, .unset, .unset, .unset, .unset, .unset, .unset, .unset, .unset, .unset] [(.long (F1 q0 (p1.toInt8.toInt32) p2))]))
  refine Go.of (fun t k => XS.lstore X1.here hx rfl (hb hby at_11) rfl (l' := #[.val (.long q0), .second, .val (.int p1), .val (.int p2), .val (.int p3), .val (.int (p1.toInt8.toInt32)), .val (.long (F1 q0 (p1.toInt8.toInt32) p2)), .second, .unset, .unset, .unset, .unset, .unset, .unset, .unset, .unset]) rfl k) ?_
  show Go p e below s _ _ _ (T1.setTop (mkF m 13 #[.val (.long q0), .second, .val (.int p1), .val (.int p2), .val (.int p3), .val (.int (p1.toInt8.toInt32)), .val (.long (F1 q0 (p1.toInt8.toInt32) p2)), .second, .unset, .unset, .unset, .unset, .unset, .unset, .unset, .unset] []))
  refine Go.of (fun t k => XS.lload X1.here hx rfl (hb hby at_13) rfl k) ?_
  show Go p e below s _ _ _ (T1.setTop (mkF m 15 #[.val (.long q0), .second, .val (.int p1), .val (.int p2), .val (.int p3), .val (.int (p1.toInt8.toInt32)), .val (.long (F1 q0 (p1.toInt8.toInt32) p2)), .second, .unset, .unset, .unset, .unset, .unset, .unset, .unset, .unset] [(.long (F1 q0 (p1.toInt8.toInt32) p2))]))
  refine Go.of (fun t k => XS.iload X1.here hx rfl (hb hby at_15) rfl k) ?_
  show Go p e below s _ _ _ (T1.setTop (mkF m 17 #[.val (.long q0), .second, .val (.int p1), .val (.int p2), .val (.int p3), .val (.int (p1.toInt8.toInt32)), .val (.long (F1 q0 (p1.toInt8.toInt32) p2)), .second, .unset, .unset, .unset, .unset, .unset, .unset, .unset, .unset] [(.int (p1.toInt8.toInt32)), (.long (F1 q0 (p1.toInt8.toInt32) p2))]))
  refine Go.of (fun t k => XS.iload X1.here hx rfl (hb hby at_17) rfl k) ?_
  show Go p e below s _ _ _ (T1.setTop (mkF m 19 #[.val (.long q0), .second, .val (.int p1), .val (.int p2), .val (.int p3), .val (.int (p1.toInt8.toInt32)), .val (.long (F1 q0 (p1.toInt8.toInt32) p2)), .second, .unset, .unset, .unset, .unset, .unset, .unset, .unset, .unset] [(.int p3), (.int (p1.toInt8.toInt32)), (.long (F1 q0 (p1.toInt8.toInt32) p2))]))
  obtain ⟨_, _, ⟨T2, L2, k2, n2⟩, -, X2, ⟨Lc2, hQ2, l2, y2, z2⟩, st2⟩ := Jvm.LawKit.callS X1 hx (y := (⟨"com/example/tallyfold/tallyfold/BytesBytesOfPinLaw", "plant", "(JBI)J"⟩ : MethodName)) hown (mvT hZ (hw _ (List.mem_of_getElem? (i := 0) rfl))) (mvT hZ (hw _ (List.mem_of_getElem? (i := 1) rfl))) (mvT hZ (hw _ (List.mem_of_getElem? (i := 2) rfl))) (mvT hZ (hw _ (List.mem_of_getElem? (i := 3) rfl))) (by decide) (backOf (W := 0) (rm1 l Z az hw [] (F1 q0 (p1.toInt8.toInt32) p2) (p1.toInt8.toInt32) p3 h0 n0 Z0) hZ (hw _ (List.mem_of_getElem? (i := 3) rfl)) (hw _ (List.mem_of_getElem? (i := 2) rfl)) (by decide) (by decide)) (g := (mkF m 19 #[.val (.long q0), .second, .val (.int p1), .val (.int p2), .val (.int p3), .val (.int (p1.toInt8.toInt32)), .val (.long (F1 q0 (p1.toInt8.toInt32) p2)), .second, .unset, .unset, .unset, .unset, .unset, .unset, .unset, .unset] [(.int p3), (.int (p1.toInt8.toInt32)), (.long (F1 q0 (p1.toInt8.toInt32) p2))])) rfl (by rw [hml]; rfl) (argsL := [(.long (F1 q0 (p1.toInt8.toInt32) p2)), (.int (p1.toInt8.toInt32)), (.int p3)]) (rest := []) (lenOf own_pd1 rfl) rfl (by show 2 * 0 + _ ≤ _; exact Nat.le_of_eq rfl) (hb hby at_19) (fun _ _ => ⟨rfl, e1, (by decide : 0 + 0 ≤ _), (by decide : 0 + 0 ≤ _)⟩)
  dsimp only [Pt.U, Pt.locs, Pt.cells, Pt.slots] at X2 l2 y2 z2 st2 hQ2
  subst l2 y2 z2
  obtain ⟨rfl, N2q, e2⟩ := hQ2
  have N2 := Fr.app N1 N2q
  refine Go.of st2 ?_
  show Go p e below s _ _ _ (T2.setTop (mkF m 22 #[.val (.long q0), .second, .val (.int p1), .val (.int p2), .val (.int p3), .val (.int (p1.toInt8.toInt32)), .val (.long (F1 q0 (p1.toInt8.toInt32) p2)), .second, .unset, .unset, .unset, .unset, .unset, .unset, .unset, .unset] [(.long (F1 (F1 q0 (p1.toInt8.toInt32) p2) (p1.toInt8.toInt32) p3))]))
  refine Go.of (fun t k => XS.lstore X2.here hx rfl (hb hby at_22) rfl (l' := #[.val (.long q0), .second, .val (.int p1), .val (.int p2), .val (.int p3), .val (.int (p1.toInt8.toInt32)), .val (.long (F1 (F1 q0 (p1.toInt8.toInt32) p2) (p1.toInt8.toInt32) p3)), .second, .unset, .unset, .unset, .unset, .unset, .unset, .unset, .unset]) rfl k) ?_
  show Go p e below s _ _ _ (T2.setTop (mkF m 24 #[.val (.long q0), .second, .val (.int p1), .val (.int p2), .val (.int p3), .val (.int (p1.toInt8.toInt32)), .val (.long (F1 (F1 q0 (p1.toInt8.toInt32) p2) (p1.toInt8.toInt32) p3)), .second, .unset, .unset, .unset, .unset, .unset, .unset, .unset, .unset] []))
  have jn24c : ∀ (v5_24c : Int32) (v6_24c : Int64) , Go p e below s (QL (some (.int (F0_24c v5_24c v6_24c))) n0) room_1.cells room_1.slots (T2.setTop (mkF m 24 #[.val (.long q0), .second, .val (.int p1), .val (.int p2), .val (.int p3), .val (.int v5_24c), .val (.long v6_24c), .second, .unset, .unset, .unset, .unset, .unset, .unset, .unset, .unset] [])) := by
    intro v5_24c v6_24c
    unfold F0_24c
    refine Go.of (fun t k => XS.lload X2.here hx rfl (hb hby at_24) rfl k) ?_
    show Go p e below s _ _ _ (T2.setTop (mkF m 26 #[.val (.long q0), .second, .val (.int p1), .val (.int p2), .val (.int p3), .val (.int v5_24c), .val (.long v6_24c), .second, .unset, .unset, .unset, .unset, .unset, .unset, .unset, .unset] [(.long v6_24c)]))
    refine Go.of (fun t k => XS.iload X2.here hx rfl (hb hby at_26) rfl k) ?_
    show Go p e below s _ _ _ (T2.setTop (mkF m 28 #[.val (.long q0), .second, .val (.int p1), .val (.int p2), .val (.int p3), .val (.int v5_24c), .val (.long v6_24c), .second, .unset, .unset, .unset, .unset, .unset, .unset, .unset, .unset] [(.int v5_24c), (.long v6_24c)]))
    obtain ⟨_, _, ⟨T3, L3, k3, n3⟩, -, X3, ⟨Lc3, hQ3, l3, y3, z3⟩, st3⟩ := Jvm.LawKit.callS X2 hx (y := (⟨"com/example/tallyfold/tallyfold/Bytes", "bytesOf", "(JB)J"⟩ : MethodName)) hown (mvT hZ (hw _ (List.mem_of_getElem? (i := 4) rfl))) (mvT hZ (hw _ (List.mem_of_getElem? (i := 5) rfl))) (mvT hZ (hw _ (List.mem_of_getElem? (i := 6) rfl))) (mvT hZ (hw _ (List.mem_of_getElem? (i := 7) rfl))) (by decide) (backOf (W := 0) (rm2 l Z az hw [] v6_24c v5_24c h0 n0 Z0) hZ (hw _ (List.mem_of_getElem? (i := 7) rfl)) (hw _ (List.mem_of_getElem? (i := 6) rfl)) (by decide) (by decide)) (g := (mkF m 28 #[.val (.long q0), .second, .val (.int p1), .val (.int p2), .val (.int p3), .val (.int v5_24c), .val (.long v6_24c), .second, .unset, .unset, .unset, .unset, .unset, .unset, .unset, .unset] [(.int v5_24c), (.long v6_24c)])) rfl (by rw [hml]; rfl) (argsL := [(.long v6_24c), (.int v5_24c)]) (rest := []) (lenOf own_pd2 rfl) rfl (by show 2 * 0 + _ ≤ _; exact Nat.le_of_eq rfl) (hb hby at_28) (fun _ _ => ⟨rfl, e2, (by decide : 0 + 0 ≤ _), (by decide : 0 + 0 ≤ _)⟩)
    dsimp only [Pt.U, Pt.locs, Pt.cells, Pt.slots] at X3 l3 y3 z3 st3 hQ3
    subst l3 y3 z3
    obtain ⟨rfl, N3q, e3⟩ := hQ3
    have N3 := Fr.app N2 N3q
    refine Go.of st3 ?_
    show Go p e below s _ _ _ (T3.setTop (mkF m 31 #[.val (.long q0), .second, .val (.int p1), .val (.int p2), .val (.int p3), .val (.int v5_24c), .val (.long v6_24c), .second, .unset, .unset, .unset, .unset, .unset, .unset, .unset, .unset] [(.long (F2 v6_24c v5_24c))]))
    refine Go.of (fun t k => XS.lstore X3.here hx rfl (hb hby at_31) rfl (l' := #[.val (.long q0), .second, .val (.int p1), .val (.int p2), .val (.int p3), .val (.int v5_24c), .val (.long v6_24c), .second, .val (.long (F2 v6_24c v5_24c)), .second, .unset, .unset, .unset, .unset, .unset, .unset]) rfl k) ?_
    show Go p e below s _ _ _ (T3.setTop (mkF m 33 #[.val (.long q0), .second, .val (.int p1), .val (.int p2), .val (.int p3), .val (.int v5_24c), .val (.long v6_24c), .second, .val (.long (F2 v6_24c v5_24c)), .second, .unset, .unset, .unset, .unset, .unset, .unset] []))
    refine Go.of (X3.ldc2Long hx hown (mvT hZ (hw _ (List.mem_of_getElem? (i := 11) rfl))) (g := (mkF m 33 #[.val (.long q0), .second, .val (.int p1), .val (.int p2), .val (.int p3), .val (.int v5_24c), .val (.long v6_24c), .second, .val (.long (F2 v6_24c v5_24c)), .second, .unset, .unset, .unset, .unset, .unset, .unset] [])) rfl (hb hby at_33)) ?_
    show Go p e below s _ _ _ (T3.setTop (mkF m 36 #[.val (.long q0), .second, .val (.int p1), .val (.int p2), .val (.int p3), .val (.int v5_24c), .val (.long v6_24c), .second, .val (.long (F2 v6_24c v5_24c)), .second, .unset, .unset, .unset, .unset, .unset, .unset] [(.long (-9187201950435737472 : Int64))]))
    refine Go.of (fun t k => XS.lstore X3.here hx rfl (hb hby at_36) rfl (l' := #[.val (.long q0), .second, .val (.int p1), .val (.int p2), .val (.int p3), .val (.int v5_24c), .val (.long v6_24c), .second, .val (.long (F2 v6_24c v5_24c)), .second, .val (.long (-9187201950435737472 : Int64)), .second, .unset, .unset, .unset, .unset]) rfl k) ?_
    show Go p e below s _ _ _ (T3.setTop (mkF m 38 #[.val (.long q0), .second, .val (.int p1), .val (.int p2), .val (.int p3), .val (.int v5_24c), .val (.long v6_24c), .second, .val (.long (F2 v6_24c v5_24c)), .second, .val (.long (-9187201950435737472 : Int64)), .second, .unset, .unset, .unset, .unset] []))
    refine Go.of (fun t k => XS.lload X3.here hx rfl (hb hby at_38) rfl k) ?_
    show Go p e below s _ _ _ (T3.setTop (mkF m 40 #[.val (.long q0), .second, .val (.int p1), .val (.int p2), .val (.int p3), .val (.int v5_24c), .val (.long v6_24c), .second, .val (.long (F2 v6_24c v5_24c)), .second, .val (.long (-9187201950435737472 : Int64)), .second, .unset, .unset, .unset, .unset] [(.long (F2 v6_24c v5_24c))]))
    refine Go.of (fun t k => XS.lload X3.here hx rfl (hb hby at_40) rfl k) ?_
    show Go p e below s _ _ _ (T3.setTop (mkF m 42 #[.val (.long q0), .second, .val (.int p1), .val (.int p2), .val (.int p3), .val (.int v5_24c), .val (.long v6_24c), .second, .val (.long (F2 v6_24c v5_24c)), .second, .val (.long (-9187201950435737472 : Int64)), .second, .unset, .unset, .unset, .unset] [(.long (-9187201950435737472 : Int64)), (.long (F2 v6_24c v5_24c))]))
    refine Go.of (X3.ldc2Long hx hown (mvT hZ (hw _ (List.mem_of_getElem? (i := 12) rfl))) (g := (mkF m 42 #[.val (.long q0), .second, .val (.int p1), .val (.int p2), .val (.int p3), .val (.int v5_24c), .val (.long v6_24c), .second, .val (.long (F2 v6_24c v5_24c)), .second, .val (.long (-9187201950435737472 : Int64)), .second, .unset, .unset, .unset, .unset] [(.long (-9187201950435737472 : Int64)), (.long (F2 v6_24c v5_24c))])) rfl (hb hby at_42)) ?_
    show Go p e below s _ _ _ (T3.setTop (mkF m 45 #[.val (.long q0), .second, .val (.int p1), .val (.int p2), .val (.int p3), .val (.int v5_24c), .val (.long v6_24c), .second, .val (.long (F2 v6_24c v5_24c)), .second, .val (.long (-9187201950435737472 : Int64)), .second, .unset, .unset, .unset, .unset] [(.long (-1 : Int64)), (.long (-9187201950435737472 : Int64)), (.long (F2 v6_24c v5_24c))]))
    refine Go.of (fun t k => XS.lxor X3.here hx rfl (hb hby at_45) rfl k) ?_
    show Go p e below s _ _ _ (T3.setTop (mkF m 46 #[.val (.long q0), .second, .val (.int p1), .val (.int p2), .val (.int p3), .val (.int v5_24c), .val (.long v6_24c), .second, .val (.long (F2 v6_24c v5_24c)), .second, .val (.long (-9187201950435737472 : Int64)), .second, .unset, .unset, .unset, .unset] [(.long ((-9187201950435737472 : Int64) ^^^ (-1 : Int64))), (.long (F2 v6_24c v5_24c))]))
    refine Go.of (fun t k => XS.land X3.here hx rfl (hb hby at_46) rfl k) ?_
    show Go p e below s _ _ _ (T3.setTop (mkF m 47 #[.val (.long q0), .second, .val (.int p1), .val (.int p2), .val (.int p3), .val (.int v5_24c), .val (.long v6_24c), .second, .val (.long (F2 v6_24c v5_24c)), .second, .val (.long (-9187201950435737472 : Int64)), .second, .unset, .unset, .unset, .unset] [(.long ((F2 v6_24c v5_24c) &&& ((-9187201950435737472 : Int64) ^^^ (-1 : Int64))))]))
    refine Go.of (fun t k => XS.lconst X3.here hx rfl (hb hby at_47) k) ?_
    show Go p e below s _ _ _ (T3.setTop (mkF m 48 #[.val (.long q0), .second, .val (.int p1), .val (.int p2), .val (.int p3), .val (.int v5_24c), .val (.long v6_24c), .second, .val (.long (F2 v6_24c v5_24c)), .second, .val (.long (-9187201950435737472 : Int64)), .second, .unset, .unset, .unset, .unset] [(.long (0 : Int64)), (.long ((F2 v6_24c v5_24c) &&& ((-9187201950435737472 : Int64) ^^^ (-1 : Int64))))]))
    refine Go.of (fun t k => XS.lcmp X3.here hx rfl (hb hby at_48) rfl k) ?_
    show Go p e below s _ _ _ (T3.setTop (mkF m 49 #[.val (.long q0), .second, .val (.int p1), .val (.int p2), .val (.int p3), .val (.int v5_24c), .val (.long v6_24c), .second, .val (.long (F2 v6_24c v5_24c)), .second, .val (.long (-9187201950435737472 : Int64)), .second, .unset, .unset, .unset, .unset] [(.int (lcmpW ((F2 v6_24c v5_24c) &&& ((-9187201950435737472 : Int64) ^^^ (-1 : Int64))) (0 : Int64)))]))
    by_cases hc49_4 : ((F2 v6_24c v5_24c) &&& ((-9187201950435737472 : Int64) ^^^ (-1 : Int64))) = (0 : Int64)
    · rewrite [if_pos hc49_4]
      refine Go.of (fun t k => XS.ifYes X3.here hx rfl (pc0 := 49) (pc' := 54) rfl (hb hby at_49) rfl ((if0 _ _).trans (teq ((lw_eq ((F2 v6_24c v5_24c) &&& ((-9187201950435737472 : Int64) ^^^ (-1 : Int64))) (0 : Int64)).mpr hc49_4)).1) (by decide) (by decide) k) ?_
      show Go p e below s _ _ _ (T3.setTop (mkF m 54 #[.val (.long q0), .second, .val (.int p1), .val (.int p2), .val (.int p3), .val (.int v5_24c), .val (.long v6_24c), .second, .val (.long (F2 v6_24c v5_24c)), .second, .val (.long (-9187201950435737472 : Int64)), .second, .unset, .unset, .unset, .unset] []))
      refine Go.of (fun t k => XS.lload X3.here hx rfl (hb hby at_54) rfl k) ?_
      show Go p e below s _ _ _ (T3.setTop (mkF m 56 #[.val (.long q0), .second, .val (.int p1), .val (.int p2), .val (.int p3), .val (.int v5_24c), .val (.long v6_24c), .second, .val (.long (F2 v6_24c v5_24c)), .second, .val (.long (-9187201950435737472 : Int64)), .second, .unset, .unset, .unset, .unset] [(.long v6_24c)]))
      refine Go.of (fun t k => XS.lload X3.here hx rfl (hb hby at_56) rfl k) ?_
      show Go p e below s _ _ _ (T3.setTop (mkF m 58 #[.val (.long q0), .second, .val (.int p1), .val (.int p2), .val (.int p3), .val (.int v5_24c), .val (.long v6_24c), .second, .val (.long (F2 v6_24c v5_24c)), .second, .val (.long (-9187201950435737472 : Int64)), .second, .unset, .unset, .unset, .unset] [(.long (F2 v6_24c v5_24c)), (.long v6_24c)]))
      refine Go.of (fun t k => XS.iload X3.here hx rfl (hb hby at_58) rfl k) ?_
      show Go p e below s _ _ _ (T3.setTop (mkF m 60 #[.val (.long q0), .second, .val (.int p1), .val (.int p2), .val (.int p3), .val (.int v5_24c), .val (.long v6_24c), .second, .val (.long (F2 v6_24c v5_24c)), .second, .val (.long (-9187201950435737472 : Int64)), .second, .unset, .unset, .unset, .unset] [(.int v5_24c), (.long (F2 v6_24c v5_24c)), (.long v6_24c)]))
      refine Go.of (fun t k => XS.iconst X3.here hx rfl (hb hby at_60) k) ?_
      show Go p e below s _ _ _ (T3.setTop (mkF m 61 #[.val (.long q0), .second, .val (.int p1), .val (.int p2), .val (.int p3), .val (.int v5_24c), .val (.long v6_24c), .second, .val (.long (F2 v6_24c v5_24c)), .second, .val (.long (-9187201950435737472 : Int64)), .second, .unset, .unset, .unset, .unset] [(.int (0 : Int32)), (.int v5_24c), (.long (F2 v6_24c v5_24c)), (.long v6_24c)]))
      obtain ⟨_, _, ⟨T5, L5, k5, n5⟩, -, X5, ⟨Lc5, hQ5, l5, y5, z5⟩, st5⟩ := Jvm.LawKit.callS X3 hx (y := (⟨"com/example/tallyfold/tallyfold/BytesBytesOfPinLaw", "covers", "(JJBI)Z"⟩ : MethodName)) hown (mvT hZ (hw _ (List.mem_of_getElem? (i := 13) rfl))) (mvT hZ (hw _ (List.mem_of_getElem? (i := 14) rfl))) (mvT hZ (hw _ (List.mem_of_getElem? (i := 2) rfl))) (mvT hZ (hw _ (List.mem_of_getElem? (i := 15) rfl))) (by decide) (backOf (W := 0) (rm3 l Z az hw [] v6_24c (F2 v6_24c v5_24c) v5_24c (0 : Int32) h0 n0 Z0) hZ (hw _ (List.mem_of_getElem? (i := 15) rfl)) (hw _ (List.mem_of_getElem? (i := 2) rfl)) (by decide) (by decide)) (g := (mkF m 61 #[.val (.long q0), .second, .val (.int p1), .val (.int p2), .val (.int p3), .val (.int v5_24c), .val (.long v6_24c), .second, .val (.long (F2 v6_24c v5_24c)), .second, .val (.long (-9187201950435737472 : Int64)), .second, .unset, .unset, .unset, .unset] [(.int (0 : Int32)), (.int v5_24c), (.long (F2 v6_24c v5_24c)), (.long v6_24c)])) rfl (by rw [hml]; rfl) (argsL := [(.long v6_24c), (.long (F2 v6_24c v5_24c)), (.int v5_24c), (.int (0 : Int32))]) (rest := []) (lenOf own_pd3 rfl) rfl (by show 2 * 0 + _ ≤ _; exact Nat.le_of_eq rfl) (hb hby at_61) (fun _ _ => ⟨rfl, e3, (by decide : 0 + 0 ≤ _), (by decide : 0 + 0 ≤ _)⟩)
      dsimp only [Pt.U, Pt.locs, Pt.cells, Pt.slots] at X5 l5 y5 z5 st5 hQ5
      subst l5 y5 z5
      obtain ⟨rfl, N5q, e5⟩ := hQ5
      have N5 := Fr.app N3 N5q
      refine Go.of st5 ?_
      show Go p e below s _ _ _ (T5.setTop (mkF m 64 #[.val (.long q0), .second, .val (.int p1), .val (.int p2), .val (.int p3), .val (.int v5_24c), .val (.long v6_24c), .second, .val (.long (F2 v6_24c v5_24c)), .second, .val (.long (-9187201950435737472 : Int64)), .second, .unset, .unset, .unset, .unset] [(.int (F3 v6_24c (F2 v6_24c v5_24c) v5_24c (0 : Int32)))]))
      have jn165 : ∀ (w0_165 : Int32) (T_165 : State) (l_165 : List Loc) (X_165 : Stand p l e room_1 s m #[(.long q0), (.int p1), (.int p2), (.int p3)] below meth c T_165 l_165 0 0) (e_165 : T_165.heap = h0) (N_165 : Fr n0 l_165), Go p e below s (QL (some (.int (F0_165 v5_24c v6_24c w0_165))) n0) room_1.cells room_1.slots (T_165.setTop (mkF m 165 #[.val (.long q0), .second, .val (.int p1), .val (.int p2), .val (.int p3), .val (.int v5_24c), .val (.long v6_24c), .second, .val (.long (F2 v6_24c v5_24c)), .second, .val (.long (-9187201950435737472 : Int64)), .second, .unset, .unset, .unset, .unset] [(.int w0_165)])) := by
        intro w0_165 T_165 l_165 X_165 e_165 N_165
        unfold F0_165
        refine Go.of (fun t k => XS.istore X_165.here hx rfl (hb hby at_165) rfl (l' := #[.val (.long q0), .second, .val (.int p1), .val (.int p2), .val (.int p3), .val (.int v5_24c), .val (.long v6_24c), .second, .val (.long (F2 v6_24c v5_24c)), .second, .val (.long (-9187201950435737472 : Int64)), .second, .val (.int w0_165), .unset, .unset, .unset]) rfl k) ?_
        show Go p e below s _ _ _ (T_165.setTop (mkF m 167 #[.val (.long q0), .second, .val (.int p1), .val (.int p2), .val (.int p3), .val (.int v5_24c), .val (.long v6_24c), .second, .val (.long (F2 v6_24c v5_24c)), .second, .val (.long (-9187201950435737472 : Int64)), .second, .val (.int w0_165), .unset, .unset, .unset] []))
        refine Go.of (fun t k => XS.iload X_165.here hx rfl (hb hby at_167) rfl k) ?_
        show Go p e below s _ _ _ (T_165.setTop (mkF m 169 #[.val (.long q0), .second, .val (.int p1), .val (.int p2), .val (.int p3), .val (.int v5_24c), .val (.long v6_24c), .second, .val (.long (F2 v6_24c v5_24c)), .second, .val (.long (-9187201950435737472 : Int64)), .second, .val (.int w0_165), .unset, .unset, .unset] [(.int w0_165)]))
        by_cases hc169_6 : w0_165 = (0 : Int32)
        · rewrite [if_pos hc169_6]
          refine Go.of (fun t k => XS.ifNo X_165.here hx rfl (hb hby at_169) rfl ((if0 _ _).trans (teq hc169_6).2) k) ?_
          show Go p e below s _ _ _ (T_165.setTop (mkF m 172 #[.val (.long q0), .second, .val (.int p1), .val (.int p2), .val (.int p3), .val (.int v5_24c), .val (.long v6_24c), .second, .val (.long (F2 v6_24c v5_24c)), .second, .val (.long (-9187201950435737472 : Int64)), .second, .val (.int w0_165), .unset, .unset, .unset] []))
          refine Go.of (fun t k => XS.iconst X_165.here hx rfl (hb hby at_172) k) ?_
          show Go p e below s _ _ _ (T_165.setTop (mkF m 173 #[.val (.long q0), .second, .val (.int p1), .val (.int p2), .val (.int p3), .val (.int v5_24c), .val (.long v6_24c), .second, .val (.long (F2 v6_24c v5_24c)), .second, .val (.long (-9187201950435737472 : Int64)), .second, .val (.int w0_165), .unset, .unset, .unset] [(.int (0 : Int32))]))
          exact Go.ret X_165 (some (.int (0 : Int32))) (fun h => by rw [Bd.returns] at h; cases h) hlk ⟨rfl, N_165⟩ (by decide) (by decide) (fun fs hr => (retN X_165 hx (t := .boolean) Bd.returns (by simp) (hb hby at_173) hr))
        · rewrite [if_neg hc169_6]
          refine Go.of (fun t k => XS.ifYes X_165.here hx rfl (pc0 := 169) (pc' := 174) rfl (hb hby at_169) rfl ((if0 _ _).trans (feq hc169_6).2) (by decide) (by decide) k) ?_
          show Go p e below s _ _ _ (T_165.setTop (mkF m 174 #[.val (.long q0), .second, .val (.int p1), .val (.int p2), .val (.int p3), .val (.int v5_24c), .val (.long v6_24c), .second, .val (.long (F2 v6_24c v5_24c)), .second, .val (.long (-9187201950435737472 : Int64)), .second, .val (.int w0_165), .unset, .unset, .unset] []))
          refine Go.of (fun t k => XS.lload X_165.here hx rfl (hb hby at_174) rfl k) ?_
          show Go p e below s _ _ _ (T_165.setTop (mkF m 176 #[.val (.long q0), .second, .val (.int p1), .val (.int p2), .val (.int p3), .val (.int v5_24c), .val (.long v6_24c), .second, .val (.long (F2 v6_24c v5_24c)), .second, .val (.long (-9187201950435737472 : Int64)), .second, .val (.int w0_165), .unset, .unset, .unset] [(.long v6_24c)]))
          refine Go.of (fun t k => XS.iload X_165.here hx rfl (hb hby at_176) rfl k) ?_
          show Go p e below s _ _ _ (T_165.setTop (mkF m 178 #[.val (.long q0), .second, .val (.int p1), .val (.int p2), .val (.int p3), .val (.int v5_24c), .val (.long v6_24c), .second, .val (.long (F2 v6_24c v5_24c)), .second, .val (.long (-9187201950435737472 : Int64)), .second, .val (.int w0_165), .unset, .unset, .unset] [(.int v5_24c), (.long v6_24c)]))
          obtain ⟨_, _, ⟨T7, L7, k7, n7⟩, -, X7, ⟨Lc7, hQ7, l7, y7, z7⟩, st7⟩ := Jvm.LawKit.callS X_165 hx (y := (⟨"com/example/tallyfold/tallyfold/BytesBytesOfPinLaw", "first", "(JB)I"⟩ : MethodName)) hown (mvT hZ (hw _ (List.mem_of_getElem? (i := 19) rfl))) (mvT hZ (hw _ (List.mem_of_getElem? (i := 20) rfl))) (mvT hZ (hw _ (List.mem_of_getElem? (i := 2) rfl))) (mvT hZ (hw _ (List.mem_of_getElem? (i := 21) rfl))) (by decide) (backOf (W := 0) (rm5 l Z az hw [] v6_24c v5_24c h0 n0 Z0) hZ (hw _ (List.mem_of_getElem? (i := 21) rfl)) (hw _ (List.mem_of_getElem? (i := 2) rfl)) (by decide) (by decide)) (g := (mkF m 178 #[.val (.long q0), .second, .val (.int p1), .val (.int p2), .val (.int p3), .val (.int v5_24c), .val (.long v6_24c), .second, .val (.long (F2 v6_24c v5_24c)), .second, .val (.long (-9187201950435737472 : Int64)), .second, .val (.int w0_165), .unset, .unset, .unset] [(.int v5_24c), (.long v6_24c)])) rfl (by rw [hml]; rfl) (argsL := [(.long v6_24c), (.int v5_24c)]) (rest := []) (lenOf own_pd4 rfl) rfl (by show 2 * 0 + _ ≤ _; exact Nat.le_of_eq rfl) (hb hby at_178) (fun _ _ => ⟨rfl, e_165, (by decide : 0 + 0 ≤ _), (by decide : 0 + 0 ≤ _)⟩)
          dsimp only [Pt.U, Pt.locs, Pt.cells, Pt.slots] at X7 l7 y7 z7 st7 hQ7
          subst l7 y7 z7
          obtain ⟨rfl, N7q, e7⟩ := hQ7
          have N7 := Fr.app N_165 N7q
          refine Go.of st7 ?_
          show Go p e below s _ _ _ (T7.setTop (mkF m 181 #[.val (.long q0), .second, .val (.int p1), .val (.int p2), .val (.int p3), .val (.int v5_24c), .val (.long v6_24c), .second, .val (.long (F2 v6_24c v5_24c)), .second, .val (.long (-9187201950435737472 : Int64)), .second, .val (.int w0_165), .unset, .unset, .unset] [(.int (F5 v6_24c v5_24c))]))
          refine Go.of (fun t k => XS.istore X7.here hx rfl (hb hby at_181) rfl (l' := #[.val (.long q0), .second, .val (.int p1), .val (.int p2), .val (.int p3), .val (.int v5_24c), .val (.long v6_24c), .second, .val (.long (F2 v6_24c v5_24c)), .second, .val (.long (-9187201950435737472 : Int64)), .second, .val (.int w0_165), .val (.int (F5 v6_24c v5_24c)), .unset, .unset]) rfl k) ?_
          show Go p e below s _ _ _ (T7.setTop (mkF m 183 #[.val (.long q0), .second, .val (.int p1), .val (.int p2), .val (.int p3), .val (.int v5_24c), .val (.long v6_24c), .second, .val (.long (F2 v6_24c v5_24c)), .second, .val (.long (-9187201950435737472 : Int64)), .second, .val (.int w0_165), .val (.int (F5 v6_24c v5_24c)), .unset, .unset] []))
          refine Go.of (fun t k => XS.iload X7.here hx rfl (hb hby at_183) rfl k) ?_
          show Go p e below s _ _ _ (T7.setTop (mkF m 185 #[.val (.long q0), .second, .val (.int p1), .val (.int p2), .val (.int p3), .val (.int v5_24c), .val (.long v6_24c), .second, .val (.long (F2 v6_24c v5_24c)), .second, .val (.long (-9187201950435737472 : Int64)), .second, .val (.int w0_165), .val (.int (F5 v6_24c v5_24c)), .unset, .unset] [(.int (F5 v6_24c v5_24c))]))
          by_cases hc185_8 : (F5 v6_24c v5_24c) < (0 : Int32)
          · rewrite [if_pos hc185_8]
            refine Go.of (fun t k => XS.ifNo X7.here hx rfl (hb hby at_185) rfl ((if0 _ _).trans (tlt hc185_8).2.1) k) ?_
            show Go p e below s _ _ _ (T7.setTop (mkF m 188 #[.val (.long q0), .second, .val (.int p1), .val (.int p2), .val (.int p3), .val (.int v5_24c), .val (.long v6_24c), .second, .val (.long (F2 v6_24c v5_24c)), .second, .val (.long (-9187201950435737472 : Int64)), .second, .val (.int w0_165), .val (.int (F5 v6_24c v5_24c)), .unset, .unset] []))
            refine Go.of (fun t k => XS.lload X7.here hx rfl (hb hby at_188) rfl k) ?_
            show Go p e below s _ _ _ (T7.setTop (mkF m 190 #[.val (.long q0), .second, .val (.int p1), .val (.int p2), .val (.int p3), .val (.int v5_24c), .val (.long v6_24c), .second, .val (.long (F2 v6_24c v5_24c)), .second, .val (.long (-9187201950435737472 : Int64)), .second, .val (.int w0_165), .val (.int (F5 v6_24c v5_24c)), .unset, .unset] [(.long (F2 v6_24c v5_24c))]))
            refine Go.of (fun t k => XS.lconst X7.here hx rfl (hb hby at_190) k) ?_
            show Go p e below s _ _ _ (T7.setTop (mkF m 191 #[.val (.long q0), .second, .val (.int p1), .val (.int p2), .val (.int p3), .val (.int v5_24c), .val (.long v6_24c), .second, .val (.long (F2 v6_24c v5_24c)), .second, .val (.long (-9187201950435737472 : Int64)), .second, .val (.int w0_165), .val (.int (F5 v6_24c v5_24c)), .unset, .unset] [(.long (0 : Int64)), (.long (F2 v6_24c v5_24c))]))
            refine Go.of (fun t k => XS.lcmp X7.here hx rfl (hb hby at_191) rfl k) ?_
            show Go p e below s _ _ _ (T7.setTop (mkF m 192 #[.val (.long q0), .second, .val (.int p1), .val (.int p2), .val (.int p3), .val (.int v5_24c), .val (.long v6_24c), .second, .val (.long (F2 v6_24c v5_24c)), .second, .val (.long (-9187201950435737472 : Int64)), .second, .val (.int w0_165), .val (.int (F5 v6_24c v5_24c)), .unset, .unset] [(.int (lcmpW (F2 v6_24c v5_24c) (0 : Int64)))]))
            by_cases hc192_9 : (F2 v6_24c v5_24c) = (0 : Int64)
            · rewrite [if_pos hc192_9]
              refine Go.of (fun t k => XS.ifNo X7.here hx rfl (hb hby at_192) rfl ((if0 _ _).trans (teq ((lw_eq (F2 v6_24c v5_24c) (0 : Int64)).mpr hc192_9)).2) k) ?_
              show Go p e below s _ _ _ (T7.setTop (mkF m 195 #[.val (.long q0), .second, .val (.int p1), .val (.int p2), .val (.int p3), .val (.int v5_24c), .val (.long v6_24c), .second, .val (.long (F2 v6_24c v5_24c)), .second, .val (.long (-9187201950435737472 : Int64)), .second, .val (.int w0_165), .val (.int (F5 v6_24c v5_24c)), .unset, .unset] []))
              refine Go.of (fun t k => XS.iconst X7.here hx rfl (hb hby at_195) k) ?_
              show Go p e below s _ _ _ (T7.setTop (mkF m 196 #[.val (.long q0), .second, .val (.int p1), .val (.int p2), .val (.int p3), .val (.int v5_24c), .val (.long v6_24c), .second, .val (.long (F2 v6_24c v5_24c)), .second, .val (.long (-9187201950435737472 : Int64)), .second, .val (.int w0_165), .val (.int (F5 v6_24c v5_24c)), .unset, .unset] [(.int (1 : Int32))]))
              refine Go.of (fun t k => XS.goto X7.here hx rfl (pc0 := 196) (pc' := 200) rfl (hb hby at_196) (by decide) (by decide) k) ?_
              show Go p e below s _ _ _ (T7.setTop (mkF m 200 #[.val (.long q0), .second, .val (.int p1), .val (.int p2), .val (.int p3), .val (.int v5_24c), .val (.long v6_24c), .second, .val (.long (F2 v6_24c v5_24c)), .second, .val (.long (-9187201950435737472 : Int64)), .second, .val (.int w0_165), .val (.int (F5 v6_24c v5_24c)), .unset, .unset] [(.int (1 : Int32))]))
              exact Go.ret X7 (some (.int (1 : Int32))) (fun h => by rw [Bd.returns] at h; cases h) hlk ⟨rfl, N7⟩ (by decide) (by decide) (fun fs hr => (retN X7 hx (t := .boolean) Bd.returns (by simp) (hb hby at_200) hr))
            · rewrite [if_neg hc192_9]
              refine Go.of (fun t k => XS.ifYes X7.here hx rfl (pc0 := 192) (pc' := 199) rfl (hb hby at_192) rfl ((if0 _ _).trans (feq (mt (lw_eq (F2 v6_24c v5_24c) (0 : Int64)).mp hc192_9)).2) (by decide) (by decide) k) ?_
              show Go p e below s _ _ _ (T7.setTop (mkF m 199 #[.val (.long q0), .second, .val (.int p1), .val (.int p2), .val (.int p3), .val (.int v5_24c), .val (.long v6_24c), .second, .val (.long (F2 v6_24c v5_24c)), .second, .val (.long (-9187201950435737472 : Int64)), .second, .val (.int w0_165), .val (.int (F5 v6_24c v5_24c)), .unset, .unset] []))
              refine Go.of (fun t k => XS.iconst X7.here hx rfl (hb hby at_199) k) ?_
              show Go p e below s _ _ _ (T7.setTop (mkF m 200 #[.val (.long q0), .second, .val (.int p1), .val (.int p2), .val (.int p3), .val (.int v5_24c), .val (.long v6_24c), .second, .val (.long (F2 v6_24c v5_24c)), .second, .val (.long (-9187201950435737472 : Int64)), .second, .val (.int w0_165), .val (.int (F5 v6_24c v5_24c)), .unset, .unset] [(.int (0 : Int32))]))
              exact Go.ret X7 (some (.int (0 : Int32))) (fun h => by rw [Bd.returns] at h; cases h) hlk ⟨rfl, N7⟩ (by decide) (by decide) (fun fs hr => (retN X7 hx (t := .boolean) Bd.returns (by simp) (hb hby at_200) hr))
          · rewrite [if_neg hc185_8]
            refine Go.of (fun t k => XS.ifYes X7.here hx rfl (pc0 := 185) (pc' := 201) rfl (hb hby at_185) rfl ((if0 _ _).trans (flt hc185_8).2.1) (by decide) (by decide) k) ?_
            show Go p e below s _ _ _ (T7.setTop (mkF m 201 #[.val (.long q0), .second, .val (.int p1), .val (.int p2), .val (.int p3), .val (.int v5_24c), .val (.long v6_24c), .second, .val (.long (F2 v6_24c v5_24c)), .second, .val (.long (-9187201950435737472 : Int64)), .second, .val (.int w0_165), .val (.int (F5 v6_24c v5_24c)), .unset, .unset] []))
            refine Go.of (fun t k => XS.iload X7.here hx rfl (hb hby at_201) rfl k) ?_
            show Go p e below s _ _ _ (T7.setTop (mkF m 203 #[.val (.long q0), .second, .val (.int p1), .val (.int p2), .val (.int p3), .val (.int v5_24c), .val (.long v6_24c), .second, .val (.long (F2 v6_24c v5_24c)), .second, .val (.long (-9187201950435737472 : Int64)), .second, .val (.int w0_165), .val (.int (F5 v6_24c v5_24c)), .unset, .unset] [(.int (F5 v6_24c v5_24c))]))
            refine Go.of (fun t k => XS.bipush X7.here hx rfl (hb hby at_203) k) ?_
            show Go p e below s _ _ _ (T7.setTop (mkF m 205 #[.val (.long q0), .second, .val (.int p1), .val (.int p2), .val (.int p3), .val (.int v5_24c), .val (.long v6_24c), .second, .val (.long (F2 v6_24c v5_24c)), .second, .val (.long (-9187201950435737472 : Int64)), .second, .val (.int w0_165), .val (.int (F5 v6_24c v5_24c)), .unset, .unset] [(.int (7 : Int32)), (.int (F5 v6_24c v5_24c))]))
            have jn226 : ∀ (w0_226 : Int64) (T_226 : State) (l_226 : List Loc) (X_226 : Stand p l e room_1 s m #[(.long q0), (.int p1), (.int p2), (.int p3)] below meth c T_226 l_226 0 0) (e_226 : T_226.heap = h0) (N_226 : Fr n0 l_226), Go p e below s (QL (some (.int (F0_226 v5_24c v6_24c w0_226))) n0) room_1.cells room_1.slots (T_226.setTop (mkF m 226 #[.val (.long q0), .second, .val (.int p1), .val (.int p2), .val (.int p3), .val (.int v5_24c), .val (.long v6_24c), .second, .val (.long (F2 v6_24c v5_24c)), .second, .val (.long (-9187201950435737472 : Int64)), .second, .val (.int w0_165), .val (.int (F5 v6_24c v5_24c)), .unset, .unset] [(.long w0_226)])) := by
              intro w0_226 T_226 l_226 X_226 e_226 N_226
              unfold F0_226
              refine Go.of (fun t k => XS.lstore X_226.here hx rfl (hb hby at_226) rfl (l' := #[.val (.long q0), .second, .val (.int p1), .val (.int p2), .val (.int p3), .val (.int v5_24c), .val (.long v6_24c), .second, .val (.long (F2 v6_24c v5_24c)), .second, .val (.long (-9187201950435737472 : Int64)), .second, .val (.int w0_165), .val (.int (F5 v6_24c v5_24c)), .val (.long w0_226), .second]) rfl k) ?_
              show Go p e below s _ _ _ (T_226.setTop (mkF m 228 #[.val (.long q0), .second, .val (.int p1), .val (.int p2), .val (.int p3), .val (.int v5_24c), .val (.long v6_24c), .second, .val (.long (F2 v6_24c v5_24c)), .second, .val (.long (-9187201950435737472 : Int64)), .second, .val (.int w0_165), .val (.int (F5 v6_24c v5_24c)), .val (.long w0_226), .second] []))
              refine Go.of (fun t k => XS.lload X_226.here hx rfl (hb hby at_228) rfl k) ?_
              show Go p e below s _ _ _ (T_226.setTop (mkF m 230 #[.val (.long q0), .second, .val (.int p1), .val (.int p2), .val (.int p3), .val (.int v5_24c), .val (.long v6_24c), .second, .val (.long (F2 v6_24c v5_24c)), .second, .val (.long (-9187201950435737472 : Int64)), .second, .val (.int w0_165), .val (.int (F5 v6_24c v5_24c)), .val (.long w0_226), .second] [(.long (F2 v6_24c v5_24c))]))
              refine Go.of (fun t k => XS.lload X_226.here hx rfl (hb hby at_230) rfl k) ?_
              show Go p e below s _ _ _ (T_226.setTop (mkF m 232 #[.val (.long q0), .second, .val (.int p1), .val (.int p2), .val (.int p3), .val (.int v5_24c), .val (.long v6_24c), .second, .val (.long (F2 v6_24c v5_24c)), .second, .val (.long (-9187201950435737472 : Int64)), .second, .val (.int w0_165), .val (.int (F5 v6_24c v5_24c)), .val (.long w0_226), .second] [(.long w0_226), (.long (F2 v6_24c v5_24c))]))
              refine Go.of (fun t k => XS.land X_226.here hx rfl (hb hby at_232) rfl k) ?_
              show Go p e below s _ _ _ (T_226.setTop (mkF m 233 #[.val (.long q0), .second, .val (.int p1), .val (.int p2), .val (.int p3), .val (.int v5_24c), .val (.long v6_24c), .second, .val (.long (F2 v6_24c v5_24c)), .second, .val (.long (-9187201950435737472 : Int64)), .second, .val (.int w0_165), .val (.int (F5 v6_24c v5_24c)), .val (.long w0_226), .second] [(.long ((F2 v6_24c v5_24c) &&& w0_226))]))
              refine Go.of (X_226.ldc2Long hx hown (mvT hZ (hw _ (List.mem_of_getElem? (i := 23) rfl))) (g := (mkF m 233 #[.val (.long q0), .second, .val (.int p1), .val (.int p2), .val (.int p3), .val (.int v5_24c), .val (.long v6_24c), .second, .val (.long (F2 v6_24c v5_24c)), .second, .val (.long (-9187201950435737472 : Int64)), .second, .val (.int w0_165), .val (.int (F5 v6_24c v5_24c)), .val (.long w0_226), .second] [(.long ((F2 v6_24c v5_24c) &&& w0_226))])) rfl (hb hby at_233)) ?_
              show Go p e below s _ _ _ (T_226.setTop (mkF m 236 #[.val (.long q0), .second, .val (.int p1), .val (.int p2), .val (.int p3), .val (.int v5_24c), .val (.long v6_24c), .second, .val (.long (F2 v6_24c v5_24c)), .second, .val (.long (-9187201950435737472 : Int64)), .second, .val (.int w0_165), .val (.int (F5 v6_24c v5_24c)), .val (.long w0_226), .second] [(.long (128 : Int64)), (.long ((F2 v6_24c v5_24c) &&& w0_226))]))
              refine Go.of (fun t k => XS.bipush X_226.here hx rfl (hb hby at_236) k) ?_
              show Go p e below s _ _ _ (T_226.setTop (mkF m 238 #[.val (.long q0), .second, .val (.int p1), .val (.int p2), .val (.int p3), .val (.int v5_24c), .val (.long v6_24c), .second, .val (.long (F2 v6_24c v5_24c)), .second, .val (.long (-9187201950435737472 : Int64)), .second, .val (.int w0_165), .val (.int (F5 v6_24c v5_24c)), .val (.long w0_226), .second] [(.int (8 : Int32)), (.long (128 : Int64)), (.long ((F2 v6_24c v5_24c) &&& w0_226))]))
              refine Go.of (fun t k => XS.iload X_226.here hx rfl (hb hby at_238) rfl k) ?_
              show Go p e below s _ _ _ (T_226.setTop (mkF m 240 #[.val (.long q0), .second, .val (.int p1), .val (.int p2), .val (.int p3), .val (.int v5_24c), .val (.long v6_24c), .second, .val (.long (F2 v6_24c v5_24c)), .second, .val (.long (-9187201950435737472 : Int64)), .second, .val (.int w0_165), .val (.int (F5 v6_24c v5_24c)), .val (.long w0_226), .second] [(.int (F5 v6_24c v5_24c)), (.int (8 : Int32)), (.long (128 : Int64)), (.long ((F2 v6_24c v5_24c) &&& w0_226))]))
              refine Go.of (fun t k => XS.imul X_226.here hx rfl (hb hby at_240) rfl k) ?_
              show Go p e below s _ _ _ (T_226.setTop (mkF m 241 #[.val (.long q0), .second, .val (.int p1), .val (.int p2), .val (.int p3), .val (.int v5_24c), .val (.long v6_24c), .second, .val (.long (F2 v6_24c v5_24c)), .second, .val (.long (-9187201950435737472 : Int64)), .second, .val (.int w0_165), .val (.int (F5 v6_24c v5_24c)), .val (.long w0_226), .second] [(.int ((8 : Int32) * (F5 v6_24c v5_24c))), (.long (128 : Int64)), (.long ((F2 v6_24c v5_24c) &&& w0_226))]))
              refine Go.of (fun t k => XS.lshl X_226.here hx rfl (hb hby at_241) rfl k) ?_
              show Go p e below s _ _ _ (T_226.setTop (mkF m 242 #[.val (.long q0), .second, .val (.int p1), .val (.int p2), .val (.int p3), .val (.int v5_24c), .val (.long v6_24c), .second, .val (.long (F2 v6_24c v5_24c)), .second, .val (.long (-9187201950435737472 : Int64)), .second, .val (.int w0_165), .val (.int (F5 v6_24c v5_24c)), .val (.long w0_226), .second] [(.long ((128 : Int64) <<< (((8 : Int32) * (F5 v6_24c v5_24c)) &&& 0x3f).toInt64)), (.long ((F2 v6_24c v5_24c) &&& w0_226))]))
              refine Go.of (fun t k => XS.lcmp X_226.here hx rfl (hb hby at_242) rfl k) ?_
              show Go p e below s _ _ _ (T_226.setTop (mkF m 243 #[.val (.long q0), .second, .val (.int p1), .val (.int p2), .val (.int p3), .val (.int v5_24c), .val (.long v6_24c), .second, .val (.long (F2 v6_24c v5_24c)), .second, .val (.long (-9187201950435737472 : Int64)), .second, .val (.int w0_165), .val (.int (F5 v6_24c v5_24c)), .val (.long w0_226), .second] [(.int (lcmpW ((F2 v6_24c v5_24c) &&& w0_226) ((128 : Int64) <<< (((8 : Int32) * (F5 v6_24c v5_24c)) &&& 0x3f).toInt64)))]))
              by_cases hc243_10 : ((F2 v6_24c v5_24c) &&& w0_226) = ((128 : Int64) <<< (((8 : Int32) * (F5 v6_24c v5_24c)) &&& 0x3f).toInt64)
              · rewrite [if_pos hc243_10]
                refine Go.of (fun t k => XS.ifNo X_226.here hx rfl (hb hby at_243) rfl ((if0 _ _).trans (teq ((lw_eq ((F2 v6_24c v5_24c) &&& w0_226) ((128 : Int64) <<< (((8 : Int32) * (F5 v6_24c v5_24c)) &&& 0x3f).toInt64)).mpr hc243_10)).2) k) ?_
                show Go p e below s _ _ _ (T_226.setTop (mkF m 246 #[.val (.long q0), .second, .val (.int p1), .val (.int p2), .val (.int p3), .val (.int v5_24c), .val (.long v6_24c), .second, .val (.long (F2 v6_24c v5_24c)), .second, .val (.long (-9187201950435737472 : Int64)), .second, .val (.int w0_165), .val (.int (F5 v6_24c v5_24c)), .val (.long w0_226), .second] []))
                refine Go.of (fun t k => XS.iconst X_226.here hx rfl (hb hby at_246) k) ?_
                show Go p e below s _ _ _ (T_226.setTop (mkF m 247 #[.val (.long q0), .second, .val (.int p1), .val (.int p2), .val (.int p3), .val (.int v5_24c), .val (.long v6_24c), .second, .val (.long (F2 v6_24c v5_24c)), .second, .val (.long (-9187201950435737472 : Int64)), .second, .val (.int w0_165), .val (.int (F5 v6_24c v5_24c)), .val (.long w0_226), .second] [(.int (1 : Int32))]))
                refine Go.of (fun t k => XS.goto X_226.here hx rfl (pc0 := 247) (pc' := 251) rfl (hb hby at_247) (by decide) (by decide) k) ?_
                show Go p e below s _ _ _ (T_226.setTop (mkF m 251 #[.val (.long q0), .second, .val (.int p1), .val (.int p2), .val (.int p3), .val (.int v5_24c), .val (.long v6_24c), .second, .val (.long (F2 v6_24c v5_24c)), .second, .val (.long (-9187201950435737472 : Int64)), .second, .val (.int w0_165), .val (.int (F5 v6_24c v5_24c)), .val (.long w0_226), .second] [(.int (1 : Int32))]))
                exact Go.ret X_226 (some (.int (1 : Int32))) (fun h => by rw [Bd.returns] at h; cases h) hlk ⟨rfl, N_226⟩ (by decide) (by decide) (fun fs hr => (retN X_226 hx (t := .boolean) Bd.returns (by simp) (hb hby at_251) hr))
              · rewrite [if_neg hc243_10]
                refine Go.of (fun t k => XS.ifYes X_226.here hx rfl (pc0 := 243) (pc' := 250) rfl (hb hby at_243) rfl ((if0 _ _).trans (feq (mt (lw_eq ((F2 v6_24c v5_24c) &&& w0_226) ((128 : Int64) <<< (((8 : Int32) * (F5 v6_24c v5_24c)) &&& 0x3f).toInt64)).mp hc243_10)).2) (by decide) (by decide) k) ?_
                show Go p e below s _ _ _ (T_226.setTop (mkF m 250 #[.val (.long q0), .second, .val (.int p1), .val (.int p2), .val (.int p3), .val (.int v5_24c), .val (.long v6_24c), .second, .val (.long (F2 v6_24c v5_24c)), .second, .val (.long (-9187201950435737472 : Int64)), .second, .val (.int w0_165), .val (.int (F5 v6_24c v5_24c)), .val (.long w0_226), .second] []))
                refine Go.of (fun t k => XS.iconst X_226.here hx rfl (hb hby at_250) k) ?_
                show Go p e below s _ _ _ (T_226.setTop (mkF m 251 #[.val (.long q0), .second, .val (.int p1), .val (.int p2), .val (.int p3), .val (.int v5_24c), .val (.long v6_24c), .second, .val (.long (F2 v6_24c v5_24c)), .second, .val (.long (-9187201950435737472 : Int64)), .second, .val (.int w0_165), .val (.int (F5 v6_24c v5_24c)), .val (.long w0_226), .second] [(.int (0 : Int32))]))
                exact Go.ret X_226 (some (.int (0 : Int32))) (fun h => by rw [Bd.returns] at h; cases h) hlk ⟨rfl, N_226⟩ (by decide) (by decide) (fun fs hr => (retN X_226 hx (t := .boolean) Bd.returns (by simp) (hb hby at_251) hr))
            by_cases hc205_11 : (F5 v6_24c v5_24c) = (7 : Int32)
            · rewrite [if_pos hc205_11]
              refine Go.of (fun t k => XS.icmpNo X7.here hx rfl (hb hby at_205) rfl (teq hc205_11).2 k) ?_
              show Go p e below s _ _ _ (T7.setTop (mkF m 208 #[.val (.long q0), .second, .val (.int p1), .val (.int p2), .val (.int p3), .val (.int v5_24c), .val (.long v6_24c), .second, .val (.long (F2 v6_24c v5_24c)), .second, .val (.long (-9187201950435737472 : Int64)), .second, .val (.int w0_165), .val (.int (F5 v6_24c v5_24c)), .unset, .unset] []))
              refine Go.of (X7.ldc2Long hx hown (mvT hZ (hw _ (List.mem_of_getElem? (i := 12) rfl))) (g := (mkF m 208 #[.val (.long q0), .second, .val (.int p1), .val (.int p2), .val (.int p3), .val (.int v5_24c), .val (.long v6_24c), .second, .val (.long (F2 v6_24c v5_24c)), .second, .val (.long (-9187201950435737472 : Int64)), .second, .val (.int w0_165), .val (.int (F5 v6_24c v5_24c)), .unset, .unset] [])) rfl (hb hby at_208)) ?_
              show Go p e below s _ _ _ (T7.setTop (mkF m 211 #[.val (.long q0), .second, .val (.int p1), .val (.int p2), .val (.int p3), .val (.int v5_24c), .val (.long v6_24c), .second, .val (.long (F2 v6_24c v5_24c)), .second, .val (.long (-9187201950435737472 : Int64)), .second, .val (.int w0_165), .val (.int (F5 v6_24c v5_24c)), .unset, .unset] [(.long (-1 : Int64))]))
              refine Go.of (fun t k => XS.goto X7.here hx rfl (pc0 := 211) (pc' := 226) rfl (hb hby at_211) (by decide) (by decide) k) ?_
              show Go p e below s _ _ _ (T7.setTop (mkF m 226 #[.val (.long q0), .second, .val (.int p1), .val (.int p2), .val (.int p3), .val (.int v5_24c), .val (.long v6_24c), .second, .val (.long (F2 v6_24c v5_24c)), .second, .val (.long (-9187201950435737472 : Int64)), .second, .val (.int w0_165), .val (.int (F5 v6_24c v5_24c)), .unset, .unset] [(.long (-1 : Int64))]))
              exact jn226 (-1 : Int64)  T7 _ X7 e7 N7  
            · rewrite [if_neg hc205_11]
              refine Go.of (fun t k => XS.icmpYes X7.here hx rfl (pc0 := 205) (pc' := 214) rfl (hb hby at_205) rfl (feq hc205_11).2 (by decide) (by decide) k) ?_
              show Go p e below s _ _ _ (T7.setTop (mkF m 214 #[.val (.long q0), .second, .val (.int p1), .val (.int p2), .val (.int p3), .val (.int v5_24c), .val (.long v6_24c), .second, .val (.long (F2 v6_24c v5_24c)), .second, .val (.long (-9187201950435737472 : Int64)), .second, .val (.int w0_165), .val (.int (F5 v6_24c v5_24c)), .unset, .unset] []))
              refine Go.of (fun t k => XS.lconst X7.here hx rfl (hb hby at_214) k) ?_
              show Go p e below s _ _ _ (T7.setTop (mkF m 215 #[.val (.long q0), .second, .val (.int p1), .val (.int p2), .val (.int p3), .val (.int v5_24c), .val (.long v6_24c), .second, .val (.long (F2 v6_24c v5_24c)), .second, .val (.long (-9187201950435737472 : Int64)), .second, .val (.int w0_165), .val (.int (F5 v6_24c v5_24c)), .unset, .unset] [(.long (1 : Int64))]))
              refine Go.of (fun t k => XS.bipush X7.here hx rfl (hb hby at_215) k) ?_
              show Go p e below s _ _ _ (T7.setTop (mkF m 217 #[.val (.long q0), .second, .val (.int p1), .val (.int p2), .val (.int p3), .val (.int v5_24c), .val (.long v6_24c), .second, .val (.long (F2 v6_24c v5_24c)), .second, .val (.long (-9187201950435737472 : Int64)), .second, .val (.int w0_165), .val (.int (F5 v6_24c v5_24c)), .unset, .unset] [(.int (8 : Int32)), (.long (1 : Int64))]))
              refine Go.of (fun t k => XS.iload X7.here hx rfl (hb hby at_217) rfl k) ?_
              show Go p e below s _ _ _ (T7.setTop (mkF m 219 #[.val (.long q0), .second, .val (.int p1), .val (.int p2), .val (.int p3), .val (.int v5_24c), .val (.long v6_24c), .second, .val (.long (F2 v6_24c v5_24c)), .second, .val (.long (-9187201950435737472 : Int64)), .second, .val (.int w0_165), .val (.int (F5 v6_24c v5_24c)), .unset, .unset] [(.int (F5 v6_24c v5_24c)), (.int (8 : Int32)), (.long (1 : Int64))]))
              refine Go.of (fun t k => XS.imul X7.here hx rfl (hb hby at_219) rfl k) ?_
              show Go p e below s _ _ _ (T7.setTop (mkF m 220 #[.val (.long q0), .second, .val (.int p1), .val (.int p2), .val (.int p3), .val (.int v5_24c), .val (.long v6_24c), .second, .val (.long (F2 v6_24c v5_24c)), .second, .val (.long (-9187201950435737472 : Int64)), .second, .val (.int w0_165), .val (.int (F5 v6_24c v5_24c)), .unset, .unset] [(.int ((8 : Int32) * (F5 v6_24c v5_24c))), (.long (1 : Int64))]))
              refine Go.of (fun t k => XS.bipush X7.here hx rfl (hb hby at_220) k) ?_
              show Go p e below s _ _ _ (T7.setTop (mkF m 222 #[.val (.long q0), .second, .val (.int p1), .val (.int p2), .val (.int p3), .val (.int v5_24c), .val (.long v6_24c), .second, .val (.long (F2 v6_24c v5_24c)), .second, .val (.long (-9187201950435737472 : Int64)), .second, .val (.int w0_165), .val (.int (F5 v6_24c v5_24c)), .unset, .unset] [(.int (8 : Int32)), (.int ((8 : Int32) * (F5 v6_24c v5_24c))), (.long (1 : Int64))]))
              refine Go.of (fun t k => XS.iadd X7.here hx rfl (hb hby at_222) rfl k) ?_
              show Go p e below s _ _ _ (T7.setTop (mkF m 223 #[.val (.long q0), .second, .val (.int p1), .val (.int p2), .val (.int p3), .val (.int v5_24c), .val (.long v6_24c), .second, .val (.long (F2 v6_24c v5_24c)), .second, .val (.long (-9187201950435737472 : Int64)), .second, .val (.int w0_165), .val (.int (F5 v6_24c v5_24c)), .unset, .unset] [(.int (((8 : Int32) * (F5 v6_24c v5_24c)) + (8 : Int32))), (.long (1 : Int64))]))
              refine Go.of (fun t k => XS.lshl X7.here hx rfl (hb hby at_223) rfl k) ?_
              show Go p e below s _ _ _ (T7.setTop (mkF m 224 #[.val (.long q0), .second, .val (.int p1), .val (.int p2), .val (.int p3), .val (.int v5_24c), .val (.long v6_24c), .second, .val (.long (F2 v6_24c v5_24c)), .second, .val (.long (-9187201950435737472 : Int64)), .second, .val (.int w0_165), .val (.int (F5 v6_24c v5_24c)), .unset, .unset] [(.long ((1 : Int64) <<< ((((8 : Int32) * (F5 v6_24c v5_24c)) + (8 : Int32)) &&& 0x3f).toInt64))]))
              refine Go.of (fun t k => XS.lconst X7.here hx rfl (hb hby at_224) k) ?_
              show Go p e below s _ _ _ (T7.setTop (mkF m 225 #[.val (.long q0), .second, .val (.int p1), .val (.int p2), .val (.int p3), .val (.int v5_24c), .val (.long v6_24c), .second, .val (.long (F2 v6_24c v5_24c)), .second, .val (.long (-9187201950435737472 : Int64)), .second, .val (.int w0_165), .val (.int (F5 v6_24c v5_24c)), .unset, .unset] [(.long (1 : Int64)), (.long ((1 : Int64) <<< ((((8 : Int32) * (F5 v6_24c v5_24c)) + (8 : Int32)) &&& 0x3f).toInt64))]))
              refine Go.of (fun t k => XS.lsub X7.here hx rfl (hb hby at_225) rfl k) ?_
              show Go p e below s _ _ _ (T7.setTop (mkF m 226 #[.val (.long q0), .second, .val (.int p1), .val (.int p2), .val (.int p3), .val (.int v5_24c), .val (.long v6_24c), .second, .val (.long (F2 v6_24c v5_24c)), .second, .val (.long (-9187201950435737472 : Int64)), .second, .val (.int w0_165), .val (.int (F5 v6_24c v5_24c)), .unset, .unset] [(.long (((1 : Int64) <<< ((((8 : Int32) * (F5 v6_24c v5_24c)) + (8 : Int32)) &&& 0x3f).toInt64) - (1 : Int64)))]))
              exact jn226 (((1 : Int64) <<< ((((8 : Int32) * (F5 v6_24c v5_24c)) + (8 : Int32)) &&& 0x3f).toInt64) - (1 : Int64))  T7 _ X7 e7 N7  
      have jn164 : ∀ (T_164 : State) (l_164 : List Loc) (X_164 : Stand p l e room_1 s m #[(.long q0), (.int p1), (.int p2), (.int p3)] below meth c T_164 l_164 0 0) (e_164 : T_164.heap = h0) (N_164 : Fr n0 l_164), Go p e below s (QL (some (.int (F0_164 v5_24c v6_24c))) n0) room_1.cells room_1.slots (T_164.setTop (mkF m 164 #[.val (.long q0), .second, .val (.int p1), .val (.int p2), .val (.int p3), .val (.int v5_24c), .val (.long v6_24c), .second, .val (.long (F2 v6_24c v5_24c)), .second, .val (.long (-9187201950435737472 : Int64)), .second, .unset, .unset, .unset, .unset] [])) := by
        intro T_164 l_164 X_164 e_164 N_164
        unfold F0_164
        refine Go.of (fun t k => XS.iconst X_164.here hx rfl (hb hby at_164) k) ?_
        show Go p e below s _ _ _ (T_164.setTop (mkF m 165 #[.val (.long q0), .second, .val (.int p1), .val (.int p2), .val (.int p3), .val (.int v5_24c), .val (.long v6_24c), .second, .val (.long (F2 v6_24c v5_24c)), .second, .val (.long (-9187201950435737472 : Int64)), .second, .unset, .unset, .unset, .unset] [(.int (0 : Int32))]))
        exact jn165 (0 : Int32)  T_164 _ X_164 e_164 N_164  
      by_cases hc64_12 : (F3 v6_24c (F2 v6_24c v5_24c) v5_24c (0 : Int32)) = (0 : Int32)
      · rewrite [if_pos hc64_12]
        refine Go.of (fun t k => XS.ifYes X5.here hx rfl (pc0 := 64) (pc' := 164) rfl (hb hby at_64) rfl ((if0 _ _).trans (teq hc64_12).1) (by decide) (by decide) k) ?_
        show Go p e below s _ _ _ (T5.setTop (mkF m 164 #[.val (.long q0), .second, .val (.int p1), .val (.int p2), .val (.int p3), .val (.int v5_24c), .val (.long v6_24c), .second, .val (.long (F2 v6_24c v5_24c)), .second, .val (.long (-9187201950435737472 : Int64)), .second, .unset, .unset, .unset, .unset] []))
        exact jn164   T5 _ X5 e5 N5  
      · rewrite [if_neg hc64_12]
        refine Go.of (fun t k => XS.ifNo X5.here hx rfl (hb hby at_64) rfl ((if0 _ _).trans (feq hc64_12).1) k) ?_
        show Go p e below s _ _ _ (T5.setTop (mkF m 67 #[.val (.long q0), .second, .val (.int p1), .val (.int p2), .val (.int p3), .val (.int v5_24c), .val (.long v6_24c), .second, .val (.long (F2 v6_24c v5_24c)), .second, .val (.long (-9187201950435737472 : Int64)), .second, .unset, .unset, .unset, .unset] []))
        refine Go.of (fun t k => XS.lload X5.here hx rfl (hb hby at_67) rfl k) ?_
        show Go p e below s _ _ _ (T5.setTop (mkF m 69 #[.val (.long q0), .second, .val (.int p1), .val (.int p2), .val (.int p3), .val (.int v5_24c), .val (.long v6_24c), .second, .val (.long (F2 v6_24c v5_24c)), .second, .val (.long (-9187201950435737472 : Int64)), .second, .unset, .unset, .unset, .unset] [(.long v6_24c)]))
        refine Go.of (fun t k => XS.lload X5.here hx rfl (hb hby at_69) rfl k) ?_
        show Go p e below s _ _ _ (T5.setTop (mkF m 71 #[.val (.long q0), .second, .val (.int p1), .val (.int p2), .val (.int p3), .val (.int v5_24c), .val (.long v6_24c), .second, .val (.long (F2 v6_24c v5_24c)), .second, .val (.long (-9187201950435737472 : Int64)), .second, .unset, .unset, .unset, .unset] [(.long (F2 v6_24c v5_24c)), (.long v6_24c)]))
        refine Go.of (fun t k => XS.iload X5.here hx rfl (hb hby at_71) rfl k) ?_
        show Go p e below s _ _ _ (T5.setTop (mkF m 73 #[.val (.long q0), .second, .val (.int p1), .val (.int p2), .val (.int p3), .val (.int v5_24c), .val (.long v6_24c), .second, .val (.long (F2 v6_24c v5_24c)), .second, .val (.long (-9187201950435737472 : Int64)), .second, .unset, .unset, .unset, .unset] [(.int v5_24c), (.long (F2 v6_24c v5_24c)), (.long v6_24c)]))
        refine Go.of (fun t k => XS.iconst X5.here hx rfl (hb hby at_73) k) ?_
        show Go p e below s _ _ _ (T5.setTop (mkF m 74 #[.val (.long q0), .second, .val (.int p1), .val (.int p2), .val (.int p3), .val (.int v5_24c), .val (.long v6_24c), .second, .val (.long (F2 v6_24c v5_24c)), .second, .val (.long (-9187201950435737472 : Int64)), .second, .unset, .unset, .unset, .unset] [(.int (1 : Int32)), (.int v5_24c), (.long (F2 v6_24c v5_24c)), (.long v6_24c)]))
        obtain ⟨_, _, ⟨T13, L13, k13, n13⟩, -, X13, ⟨Lc13, hQ13, l13, y13, z13⟩, st13⟩ := Jvm.LawKit.callS X5 hx (y := (⟨"com/example/tallyfold/tallyfold/BytesBytesOfPinLaw", "covers", "(JJBI)Z"⟩ : MethodName)) hown (mvT hZ (hw _ (List.mem_of_getElem? (i := 13) rfl))) (mvT hZ (hw _ (List.mem_of_getElem? (i := 14) rfl))) (mvT hZ (hw _ (List.mem_of_getElem? (i := 2) rfl))) (mvT hZ (hw _ (List.mem_of_getElem? (i := 15) rfl))) (by decide) (backOf (W := 0) (rm3 l Z az hw [] v6_24c (F2 v6_24c v5_24c) v5_24c (1 : Int32) h0 n0 Z0) hZ (hw _ (List.mem_of_getElem? (i := 15) rfl)) (hw _ (List.mem_of_getElem? (i := 2) rfl)) (by decide) (by decide)) (g := (mkF m 74 #[.val (.long q0), .second, .val (.int p1), .val (.int p2), .val (.int p3), .val (.int v5_24c), .val (.long v6_24c), .second, .val (.long (F2 v6_24c v5_24c)), .second, .val (.long (-9187201950435737472 : Int64)), .second, .unset, .unset, .unset, .unset] [(.int (1 : Int32)), (.int v5_24c), (.long (F2 v6_24c v5_24c)), (.long v6_24c)])) rfl (by rw [hml]; rfl) (argsL := [(.long v6_24c), (.long (F2 v6_24c v5_24c)), (.int v5_24c), (.int (1 : Int32))]) (rest := []) (lenOf own_pd3 rfl) rfl (by show 2 * 0 + _ ≤ _; exact Nat.le_of_eq rfl) (hb hby at_74) (fun _ _ => ⟨rfl, e5, (by decide : 0 + 0 ≤ _), (by decide : 0 + 0 ≤ _)⟩)
        dsimp only [Pt.U, Pt.locs, Pt.cells, Pt.slots] at X13 l13 y13 z13 st13 hQ13
        subst l13 y13 z13
        obtain ⟨rfl, N13q, e13⟩ := hQ13
        have N13 := Fr.app N5 N13q
        refine Go.of st13 ?_
        show Go p e below s _ _ _ (T13.setTop (mkF m 77 #[.val (.long q0), .second, .val (.int p1), .val (.int p2), .val (.int p3), .val (.int v5_24c), .val (.long v6_24c), .second, .val (.long (F2 v6_24c v5_24c)), .second, .val (.long (-9187201950435737472 : Int64)), .second, .unset, .unset, .unset, .unset] [(.int (F3 v6_24c (F2 v6_24c v5_24c) v5_24c (1 : Int32)))]))
        by_cases hc77_14 : (F3 v6_24c (F2 v6_24c v5_24c) v5_24c (1 : Int32)) = (0 : Int32)
        · rewrite [if_pos hc77_14]
          refine Go.of (fun t k => XS.ifYes X13.here hx rfl (pc0 := 77) (pc' := 164) rfl (hb hby at_77) rfl ((if0 _ _).trans (teq hc77_14).1) (by decide) (by decide) k) ?_
          show Go p e below s _ _ _ (T13.setTop (mkF m 164 #[.val (.long q0), .second, .val (.int p1), .val (.int p2), .val (.int p3), .val (.int v5_24c), .val (.long v6_24c), .second, .val (.long (F2 v6_24c v5_24c)), .second, .val (.long (-9187201950435737472 : Int64)), .second, .unset, .unset, .unset, .unset] []))
          exact jn164   T13 _ X13 e13 N13  
        · rewrite [if_neg hc77_14]
          refine Go.of (fun t k => XS.ifNo X13.here hx rfl (hb hby at_77) rfl ((if0 _ _).trans (feq hc77_14).1) k) ?_
          show Go p e below s _ _ _ (T13.setTop (mkF m 80 #[.val (.long q0), .second, .val (.int p1), .val (.int p2), .val (.int p3), .val (.int v5_24c), .val (.long v6_24c), .second, .val (.long (F2 v6_24c v5_24c)), .second, .val (.long (-9187201950435737472 : Int64)), .second, .unset, .unset, .unset, .unset] []))
          refine Go.of (fun t k => XS.lload X13.here hx rfl (hb hby at_80) rfl k) ?_
          show Go p e below s _ _ _ (T13.setTop (mkF m 82 #[.val (.long q0), .second, .val (.int p1), .val (.int p2), .val (.int p3), .val (.int v5_24c), .val (.long v6_24c), .second, .val (.long (F2 v6_24c v5_24c)), .second, .val (.long (-9187201950435737472 : Int64)), .second, .unset, .unset, .unset, .unset] [(.long v6_24c)]))
          refine Go.of (fun t k => XS.lload X13.here hx rfl (hb hby at_82) rfl k) ?_
          show Go p e below s _ _ _ (T13.setTop (mkF m 84 #[.val (.long q0), .second, .val (.int p1), .val (.int p2), .val (.int p3), .val (.int v5_24c), .val (.long v6_24c), .second, .val (.long (F2 v6_24c v5_24c)), .second, .val (.long (-9187201950435737472 : Int64)), .second, .unset, .unset, .unset, .unset] [(.long (F2 v6_24c v5_24c)), (.long v6_24c)]))
          refine Go.of (fun t k => XS.iload X13.here hx rfl (hb hby at_84) rfl k) ?_
          show Go p e below s _ _ _ (T13.setTop (mkF m 86 #[.val (.long q0), .second, .val (.int p1), .val (.int p2), .val (.int p3), .val (.int v5_24c), .val (.long v6_24c), .second, .val (.long (F2 v6_24c v5_24c)), .second, .val (.long (-9187201950435737472 : Int64)), .second, .unset, .unset, .unset, .unset] [(.int v5_24c), (.long (F2 v6_24c v5_24c)), (.long v6_24c)]))
          refine Go.of (fun t k => XS.iconst X13.here hx rfl (hb hby at_86) k) ?_
          show Go p e below s _ _ _ (T13.setTop (mkF m 87 #[.val (.long q0), .second, .val (.int p1), .val (.int p2), .val (.int p3), .val (.int v5_24c), .val (.long v6_24c), .second, .val (.long (F2 v6_24c v5_24c)), .second, .val (.long (-9187201950435737472 : Int64)), .second, .unset, .unset, .unset, .unset] [(.int (2 : Int32)), (.int v5_24c), (.long (F2 v6_24c v5_24c)), (.long v6_24c)]))
          obtain ⟨_, _, ⟨T15, L15, k15, n15⟩, -, X15, ⟨Lc15, hQ15, l15, y15, z15⟩, st15⟩ := Jvm.LawKit.callS X13 hx (y := (⟨"com/example/tallyfold/tallyfold/BytesBytesOfPinLaw", "covers", "(JJBI)Z"⟩ : MethodName)) hown (mvT hZ (hw _ (List.mem_of_getElem? (i := 13) rfl))) (mvT hZ (hw _ (List.mem_of_getElem? (i := 14) rfl))) (mvT hZ (hw _ (List.mem_of_getElem? (i := 2) rfl))) (mvT hZ (hw _ (List.mem_of_getElem? (i := 15) rfl))) (by decide) (backOf (W := 0) (rm3 l Z az hw [] v6_24c (F2 v6_24c v5_24c) v5_24c (2 : Int32) h0 n0 Z0) hZ (hw _ (List.mem_of_getElem? (i := 15) rfl)) (hw _ (List.mem_of_getElem? (i := 2) rfl)) (by decide) (by decide)) (g := (mkF m 87 #[.val (.long q0), .second, .val (.int p1), .val (.int p2), .val (.int p3), .val (.int v5_24c), .val (.long v6_24c), .second, .val (.long (F2 v6_24c v5_24c)), .second, .val (.long (-9187201950435737472 : Int64)), .second, .unset, .unset, .unset, .unset] [(.int (2 : Int32)), (.int v5_24c), (.long (F2 v6_24c v5_24c)), (.long v6_24c)])) rfl (by rw [hml]; rfl) (argsL := [(.long v6_24c), (.long (F2 v6_24c v5_24c)), (.int v5_24c), (.int (2 : Int32))]) (rest := []) (lenOf own_pd3 rfl) rfl (by show 2 * 0 + _ ≤ _; exact Nat.le_of_eq rfl) (hb hby at_87) (fun _ _ => ⟨rfl, e13, (by decide : 0 + 0 ≤ _), (by decide : 0 + 0 ≤ _)⟩)
          dsimp only [Pt.U, Pt.locs, Pt.cells, Pt.slots] at X15 l15 y15 z15 st15 hQ15
          subst l15 y15 z15
          obtain ⟨rfl, N15q, e15⟩ := hQ15
          have N15 := Fr.app N13 N15q
          refine Go.of st15 ?_
          show Go p e below s _ _ _ (T15.setTop (mkF m 90 #[.val (.long q0), .second, .val (.int p1), .val (.int p2), .val (.int p3), .val (.int v5_24c), .val (.long v6_24c), .second, .val (.long (F2 v6_24c v5_24c)), .second, .val (.long (-9187201950435737472 : Int64)), .second, .unset, .unset, .unset, .unset] [(.int (F3 v6_24c (F2 v6_24c v5_24c) v5_24c (2 : Int32)))]))
          by_cases hc90_16 : (F3 v6_24c (F2 v6_24c v5_24c) v5_24c (2 : Int32)) = (0 : Int32)
          · rewrite [if_pos hc90_16]
            refine Go.of (fun t k => XS.ifYes X15.here hx rfl (pc0 := 90) (pc' := 164) rfl (hb hby at_90) rfl ((if0 _ _).trans (teq hc90_16).1) (by decide) (by decide) k) ?_
            show Go p e below s _ _ _ (T15.setTop (mkF m 164 #[.val (.long q0), .second, .val (.int p1), .val (.int p2), .val (.int p3), .val (.int v5_24c), .val (.long v6_24c), .second, .val (.long (F2 v6_24c v5_24c)), .second, .val (.long (-9187201950435737472 : Int64)), .second, .unset, .unset, .unset, .unset] []))
            exact jn164   T15 _ X15 e15 N15  
          · rewrite [if_neg hc90_16]
            refine Go.of (fun t k => XS.ifNo X15.here hx rfl (hb hby at_90) rfl ((if0 _ _).trans (feq hc90_16).1) k) ?_
            show Go p e below s _ _ _ (T15.setTop (mkF m 93 #[.val (.long q0), .second, .val (.int p1), .val (.int p2), .val (.int p3), .val (.int v5_24c), .val (.long v6_24c), .second, .val (.long (F2 v6_24c v5_24c)), .second, .val (.long (-9187201950435737472 : Int64)), .second, .unset, .unset, .unset, .unset] []))
            refine Go.of (fun t k => XS.lload X15.here hx rfl (hb hby at_93) rfl k) ?_
            show Go p e below s _ _ _ (T15.setTop (mkF m 95 #[.val (.long q0), .second, .val (.int p1), .val (.int p2), .val (.int p3), .val (.int v5_24c), .val (.long v6_24c), .second, .val (.long (F2 v6_24c v5_24c)), .second, .val (.long (-9187201950435737472 : Int64)), .second, .unset, .unset, .unset, .unset] [(.long v6_24c)]))
            refine Go.of (fun t k => XS.lload X15.here hx rfl (hb hby at_95) rfl k) ?_
            show Go p e below s _ _ _ (T15.setTop (mkF m 97 #[.val (.long q0), .second, .val (.int p1), .val (.int p2), .val (.int p3), .val (.int v5_24c), .val (.long v6_24c), .second, .val (.long (F2 v6_24c v5_24c)), .second, .val (.long (-9187201950435737472 : Int64)), .second, .unset, .unset, .unset, .unset] [(.long (F2 v6_24c v5_24c)), (.long v6_24c)]))
            refine Go.of (fun t k => XS.iload X15.here hx rfl (hb hby at_97) rfl k) ?_
            show Go p e below s _ _ _ (T15.setTop (mkF m 99 #[.val (.long q0), .second, .val (.int p1), .val (.int p2), .val (.int p3), .val (.int v5_24c), .val (.long v6_24c), .second, .val (.long (F2 v6_24c v5_24c)), .second, .val (.long (-9187201950435737472 : Int64)), .second, .unset, .unset, .unset, .unset] [(.int v5_24c), (.long (F2 v6_24c v5_24c)), (.long v6_24c)]))
            refine Go.of (fun t k => XS.iconst X15.here hx rfl (hb hby at_99) k) ?_
            show Go p e below s _ _ _ (T15.setTop (mkF m 100 #[.val (.long q0), .second, .val (.int p1), .val (.int p2), .val (.int p3), .val (.int v5_24c), .val (.long v6_24c), .second, .val (.long (F2 v6_24c v5_24c)), .second, .val (.long (-9187201950435737472 : Int64)), .second, .unset, .unset, .unset, .unset] [(.int (3 : Int32)), (.int v5_24c), (.long (F2 v6_24c v5_24c)), (.long v6_24c)]))
            obtain ⟨_, _, ⟨T17, L17, k17, n17⟩, -, X17, ⟨Lc17, hQ17, l17, y17, z17⟩, st17⟩ := Jvm.LawKit.callS X15 hx (y := (⟨"com/example/tallyfold/tallyfold/BytesBytesOfPinLaw", "covers", "(JJBI)Z"⟩ : MethodName)) hown (mvT hZ (hw _ (List.mem_of_getElem? (i := 13) rfl))) (mvT hZ (hw _ (List.mem_of_getElem? (i := 14) rfl))) (mvT hZ (hw _ (List.mem_of_getElem? (i := 2) rfl))) (mvT hZ (hw _ (List.mem_of_getElem? (i := 15) rfl))) (by decide) (backOf (W := 0) (rm3 l Z az hw [] v6_24c (F2 v6_24c v5_24c) v5_24c (3 : Int32) h0 n0 Z0) hZ (hw _ (List.mem_of_getElem? (i := 15) rfl)) (hw _ (List.mem_of_getElem? (i := 2) rfl)) (by decide) (by decide)) (g := (mkF m 100 #[.val (.long q0), .second, .val (.int p1), .val (.int p2), .val (.int p3), .val (.int v5_24c), .val (.long v6_24c), .second, .val (.long (F2 v6_24c v5_24c)), .second, .val (.long (-9187201950435737472 : Int64)), .second, .unset, .unset, .unset, .unset] [(.int (3 : Int32)), (.int v5_24c), (.long (F2 v6_24c v5_24c)), (.long v6_24c)])) rfl (by rw [hml]; rfl) (argsL := [(.long v6_24c), (.long (F2 v6_24c v5_24c)), (.int v5_24c), (.int (3 : Int32))]) (rest := []) (lenOf own_pd3 rfl) rfl (by show 2 * 0 + _ ≤ _; exact Nat.le_of_eq rfl) (hb hby at_100) (fun _ _ => ⟨rfl, e15, (by decide : 0 + 0 ≤ _), (by decide : 0 + 0 ≤ _)⟩)
            dsimp only [Pt.U, Pt.locs, Pt.cells, Pt.slots] at X17 l17 y17 z17 st17 hQ17
            subst l17 y17 z17
            obtain ⟨rfl, N17q, e17⟩ := hQ17
            have N17 := Fr.app N15 N17q
            refine Go.of st17 ?_
            show Go p e below s _ _ _ (T17.setTop (mkF m 103 #[.val (.long q0), .second, .val (.int p1), .val (.int p2), .val (.int p3), .val (.int v5_24c), .val (.long v6_24c), .second, .val (.long (F2 v6_24c v5_24c)), .second, .val (.long (-9187201950435737472 : Int64)), .second, .unset, .unset, .unset, .unset] [(.int (F3 v6_24c (F2 v6_24c v5_24c) v5_24c (3 : Int32)))]))
            by_cases hc103_18 : (F3 v6_24c (F2 v6_24c v5_24c) v5_24c (3 : Int32)) = (0 : Int32)
            · rewrite [if_pos hc103_18]
              refine Go.of (fun t k => XS.ifYes X17.here hx rfl (pc0 := 103) (pc' := 164) rfl (hb hby at_103) rfl ((if0 _ _).trans (teq hc103_18).1) (by decide) (by decide) k) ?_
              show Go p e below s _ _ _ (T17.setTop (mkF m 164 #[.val (.long q0), .second, .val (.int p1), .val (.int p2), .val (.int p3), .val (.int v5_24c), .val (.long v6_24c), .second, .val (.long (F2 v6_24c v5_24c)), .second, .val (.long (-9187201950435737472 : Int64)), .second, .unset, .unset, .unset, .unset] []))
              exact jn164   T17 _ X17 e17 N17  
            · rewrite [if_neg hc103_18]
              refine Go.of (fun t k => XS.ifNo X17.here hx rfl (hb hby at_103) rfl ((if0 _ _).trans (feq hc103_18).1) k) ?_
              show Go p e below s _ _ _ (T17.setTop (mkF m 106 #[.val (.long q0), .second, .val (.int p1), .val (.int p2), .val (.int p3), .val (.int v5_24c), .val (.long v6_24c), .second, .val (.long (F2 v6_24c v5_24c)), .second, .val (.long (-9187201950435737472 : Int64)), .second, .unset, .unset, .unset, .unset] []))
              refine Go.of (fun t k => XS.lload X17.here hx rfl (hb hby at_106) rfl k) ?_
              show Go p e below s _ _ _ (T17.setTop (mkF m 108 #[.val (.long q0), .second, .val (.int p1), .val (.int p2), .val (.int p3), .val (.int v5_24c), .val (.long v6_24c), .second, .val (.long (F2 v6_24c v5_24c)), .second, .val (.long (-9187201950435737472 : Int64)), .second, .unset, .unset, .unset, .unset] [(.long v6_24c)]))
              refine Go.of (fun t k => XS.lload X17.here hx rfl (hb hby at_108) rfl k) ?_
              show Go p e below s _ _ _ (T17.setTop (mkF m 110 #[.val (.long q0), .second, .val (.int p1), .val (.int p2), .val (.int p3), .val (.int v5_24c), .val (.long v6_24c), .second, .val (.long (F2 v6_24c v5_24c)), .second, .val (.long (-9187201950435737472 : Int64)), .second, .unset, .unset, .unset, .unset] [(.long (F2 v6_24c v5_24c)), (.long v6_24c)]))
              refine Go.of (fun t k => XS.iload X17.here hx rfl (hb hby at_110) rfl k) ?_
              show Go p e below s _ _ _ (T17.setTop (mkF m 112 #[.val (.long q0), .second, .val (.int p1), .val (.int p2), .val (.int p3), .val (.int v5_24c), .val (.long v6_24c), .second, .val (.long (F2 v6_24c v5_24c)), .second, .val (.long (-9187201950435737472 : Int64)), .second, .unset, .unset, .unset, .unset] [(.int v5_24c), (.long (F2 v6_24c v5_24c)), (.long v6_24c)]))
              refine Go.of (fun t k => XS.iconst X17.here hx rfl (hb hby at_112) k) ?_
              show Go p e below s _ _ _ (T17.setTop (mkF m 113 #[.val (.long q0), .second, .val (.int p1), .val (.int p2), .val (.int p3), .val (.int v5_24c), .val (.long v6_24c), .second, .val (.long (F2 v6_24c v5_24c)), .second, .val (.long (-9187201950435737472 : Int64)), .second, .unset, .unset, .unset, .unset] [(.int (4 : Int32)), (.int v5_24c), (.long (F2 v6_24c v5_24c)), (.long v6_24c)]))
              obtain ⟨_, _, ⟨T19, L19, k19, n19⟩, -, X19, ⟨Lc19, hQ19, l19, y19, z19⟩, st19⟩ := Jvm.LawKit.callS X17 hx (y := (⟨"com/example/tallyfold/tallyfold/BytesBytesOfPinLaw", "covers", "(JJBI)Z"⟩ : MethodName)) hown (mvT hZ (hw _ (List.mem_of_getElem? (i := 13) rfl))) (mvT hZ (hw _ (List.mem_of_getElem? (i := 14) rfl))) (mvT hZ (hw _ (List.mem_of_getElem? (i := 2) rfl))) (mvT hZ (hw _ (List.mem_of_getElem? (i := 15) rfl))) (by decide) (backOf (W := 0) (rm3 l Z az hw [] v6_24c (F2 v6_24c v5_24c) v5_24c (4 : Int32) h0 n0 Z0) hZ (hw _ (List.mem_of_getElem? (i := 15) rfl)) (hw _ (List.mem_of_getElem? (i := 2) rfl)) (by decide) (by decide)) (g := (mkF m 113 #[.val (.long q0), .second, .val (.int p1), .val (.int p2), .val (.int p3), .val (.int v5_24c), .val (.long v6_24c), .second, .val (.long (F2 v6_24c v5_24c)), .second, .val (.long (-9187201950435737472 : Int64)), .second, .unset, .unset, .unset, .unset] [(.int (4 : Int32)), (.int v5_24c), (.long (F2 v6_24c v5_24c)), (.long v6_24c)])) rfl (by rw [hml]; rfl) (argsL := [(.long v6_24c), (.long (F2 v6_24c v5_24c)), (.int v5_24c), (.int (4 : Int32))]) (rest := []) (lenOf own_pd3 rfl) rfl (by show 2 * 0 + _ ≤ _; exact Nat.le_of_eq rfl) (hb hby at_113) (fun _ _ => ⟨rfl, e17, (by decide : 0 + 0 ≤ _), (by decide : 0 + 0 ≤ _)⟩)
              dsimp only [Pt.U, Pt.locs, Pt.cells, Pt.slots] at X19 l19 y19 z19 st19 hQ19
              subst l19 y19 z19
              obtain ⟨rfl, N19q, e19⟩ := hQ19
              have N19 := Fr.app N17 N19q
              refine Go.of st19 ?_
              show Go p e below s _ _ _ (T19.setTop (mkF m 116 #[.val (.long q0), .second, .val (.int p1), .val (.int p2), .val (.int p3), .val (.int v5_24c), .val (.long v6_24c), .second, .val (.long (F2 v6_24c v5_24c)), .second, .val (.long (-9187201950435737472 : Int64)), .second, .unset, .unset, .unset, .unset] [(.int (F3 v6_24c (F2 v6_24c v5_24c) v5_24c (4 : Int32)))]))
              by_cases hc116_20 : (F3 v6_24c (F2 v6_24c v5_24c) v5_24c (4 : Int32)) = (0 : Int32)
              · rewrite [if_pos hc116_20]
                refine Go.of (fun t k => XS.ifYes X19.here hx rfl (pc0 := 116) (pc' := 164) rfl (hb hby at_116) rfl ((if0 _ _).trans (teq hc116_20).1) (by decide) (by decide) k) ?_
                show Go p e below s _ _ _ (T19.setTop (mkF m 164 #[.val (.long q0), .second, .val (.int p1), .val (.int p2), .val (.int p3), .val (.int v5_24c), .val (.long v6_24c), .second, .val (.long (F2 v6_24c v5_24c)), .second, .val (.long (-9187201950435737472 : Int64)), .second, .unset, .unset, .unset, .unset] []))
                exact jn164   T19 _ X19 e19 N19  
              · rewrite [if_neg hc116_20]
                refine Go.of (fun t k => XS.ifNo X19.here hx rfl (hb hby at_116) rfl ((if0 _ _).trans (feq hc116_20).1) k) ?_
                show Go p e below s _ _ _ (T19.setTop (mkF m 119 #[.val (.long q0), .second, .val (.int p1), .val (.int p2), .val (.int p3), .val (.int v5_24c), .val (.long v6_24c), .second, .val (.long (F2 v6_24c v5_24c)), .second, .val (.long (-9187201950435737472 : Int64)), .second, .unset, .unset, .unset, .unset] []))
                refine Go.of (fun t k => XS.lload X19.here hx rfl (hb hby at_119) rfl k) ?_
                show Go p e below s _ _ _ (T19.setTop (mkF m 121 #[.val (.long q0), .second, .val (.int p1), .val (.int p2), .val (.int p3), .val (.int v5_24c), .val (.long v6_24c), .second, .val (.long (F2 v6_24c v5_24c)), .second, .val (.long (-9187201950435737472 : Int64)), .second, .unset, .unset, .unset, .unset] [(.long v6_24c)]))
                refine Go.of (fun t k => XS.lload X19.here hx rfl (hb hby at_121) rfl k) ?_
                show Go p e below s _ _ _ (T19.setTop (mkF m 123 #[.val (.long q0), .second, .val (.int p1), .val (.int p2), .val (.int p3), .val (.int v5_24c), .val (.long v6_24c), .second, .val (.long (F2 v6_24c v5_24c)), .second, .val (.long (-9187201950435737472 : Int64)), .second, .unset, .unset, .unset, .unset] [(.long (F2 v6_24c v5_24c)), (.long v6_24c)]))
                refine Go.of (fun t k => XS.iload X19.here hx rfl (hb hby at_123) rfl k) ?_
                show Go p e below s _ _ _ (T19.setTop (mkF m 125 #[.val (.long q0), .second, .val (.int p1), .val (.int p2), .val (.int p3), .val (.int v5_24c), .val (.long v6_24c), .second, .val (.long (F2 v6_24c v5_24c)), .second, .val (.long (-9187201950435737472 : Int64)), .second, .unset, .unset, .unset, .unset] [(.int v5_24c), (.long (F2 v6_24c v5_24c)), (.long v6_24c)]))
                refine Go.of (fun t k => XS.iconst X19.here hx rfl (hb hby at_125) k) ?_
                show Go p e below s _ _ _ (T19.setTop (mkF m 126 #[.val (.long q0), .second, .val (.int p1), .val (.int p2), .val (.int p3), .val (.int v5_24c), .val (.long v6_24c), .second, .val (.long (F2 v6_24c v5_24c)), .second, .val (.long (-9187201950435737472 : Int64)), .second, .unset, .unset, .unset, .unset] [(.int (5 : Int32)), (.int v5_24c), (.long (F2 v6_24c v5_24c)), (.long v6_24c)]))
                obtain ⟨_, _, ⟨T21, L21, k21, n21⟩, -, X21, ⟨Lc21, hQ21, l21, y21, z21⟩, st21⟩ := Jvm.LawKit.callS X19 hx (y := (⟨"com/example/tallyfold/tallyfold/BytesBytesOfPinLaw", "covers", "(JJBI)Z"⟩ : MethodName)) hown (mvT hZ (hw _ (List.mem_of_getElem? (i := 13) rfl))) (mvT hZ (hw _ (List.mem_of_getElem? (i := 14) rfl))) (mvT hZ (hw _ (List.mem_of_getElem? (i := 2) rfl))) (mvT hZ (hw _ (List.mem_of_getElem? (i := 15) rfl))) (by decide) (backOf (W := 0) (rm3 l Z az hw [] v6_24c (F2 v6_24c v5_24c) v5_24c (5 : Int32) h0 n0 Z0) hZ (hw _ (List.mem_of_getElem? (i := 15) rfl)) (hw _ (List.mem_of_getElem? (i := 2) rfl)) (by decide) (by decide)) (g := (mkF m 126 #[.val (.long q0), .second, .val (.int p1), .val (.int p2), .val (.int p3), .val (.int v5_24c), .val (.long v6_24c), .second, .val (.long (F2 v6_24c v5_24c)), .second, .val (.long (-9187201950435737472 : Int64)), .second, .unset, .unset, .unset, .unset] [(.int (5 : Int32)), (.int v5_24c), (.long (F2 v6_24c v5_24c)), (.long v6_24c)])) rfl (by rw [hml]; rfl) (argsL := [(.long v6_24c), (.long (F2 v6_24c v5_24c)), (.int v5_24c), (.int (5 : Int32))]) (rest := []) (lenOf own_pd3 rfl) rfl (by show 2 * 0 + _ ≤ _; exact Nat.le_of_eq rfl) (hb hby at_126) (fun _ _ => ⟨rfl, e19, (by decide : 0 + 0 ≤ _), (by decide : 0 + 0 ≤ _)⟩)
                dsimp only [Pt.U, Pt.locs, Pt.cells, Pt.slots] at X21 l21 y21 z21 st21 hQ21
                subst l21 y21 z21
                obtain ⟨rfl, N21q, e21⟩ := hQ21
                have N21 := Fr.app N19 N21q
                refine Go.of st21 ?_
                show Go p e below s _ _ _ (T21.setTop (mkF m 129 #[.val (.long q0), .second, .val (.int p1), .val (.int p2), .val (.int p3), .val (.int v5_24c), .val (.long v6_24c), .second, .val (.long (F2 v6_24c v5_24c)), .second, .val (.long (-9187201950435737472 : Int64)), .second, .unset, .unset, .unset, .unset] [(.int (F3 v6_24c (F2 v6_24c v5_24c) v5_24c (5 : Int32)))]))
                by_cases hc129_22 : (F3 v6_24c (F2 v6_24c v5_24c) v5_24c (5 : Int32)) = (0 : Int32)
                · rewrite [if_pos hc129_22]
                  refine Go.of (fun t k => XS.ifYes X21.here hx rfl (pc0 := 129) (pc' := 164) rfl (hb hby at_129) rfl ((if0 _ _).trans (teq hc129_22).1) (by decide) (by decide) k) ?_
                  show Go p e below s _ _ _ (T21.setTop (mkF m 164 #[.val (.long q0), .second, .val (.int p1), .val (.int p2), .val (.int p3), .val (.int v5_24c), .val (.long v6_24c), .second, .val (.long (F2 v6_24c v5_24c)), .second, .val (.long (-9187201950435737472 : Int64)), .second, .unset, .unset, .unset, .unset] []))
                  exact jn164   T21 _ X21 e21 N21  
                · rewrite [if_neg hc129_22]
                  refine Go.of (fun t k => XS.ifNo X21.here hx rfl (hb hby at_129) rfl ((if0 _ _).trans (feq hc129_22).1) k) ?_
                  show Go p e below s _ _ _ (T21.setTop (mkF m 132 #[.val (.long q0), .second, .val (.int p1), .val (.int p2), .val (.int p3), .val (.int v5_24c), .val (.long v6_24c), .second, .val (.long (F2 v6_24c v5_24c)), .second, .val (.long (-9187201950435737472 : Int64)), .second, .unset, .unset, .unset, .unset] []))
                  refine Go.of (fun t k => XS.lload X21.here hx rfl (hb hby at_132) rfl k) ?_
                  show Go p e below s _ _ _ (T21.setTop (mkF m 134 #[.val (.long q0), .second, .val (.int p1), .val (.int p2), .val (.int p3), .val (.int v5_24c), .val (.long v6_24c), .second, .val (.long (F2 v6_24c v5_24c)), .second, .val (.long (-9187201950435737472 : Int64)), .second, .unset, .unset, .unset, .unset] [(.long v6_24c)]))
                  refine Go.of (fun t k => XS.lload X21.here hx rfl (hb hby at_134) rfl k) ?_
                  show Go p e below s _ _ _ (T21.setTop (mkF m 136 #[.val (.long q0), .second, .val (.int p1), .val (.int p2), .val (.int p3), .val (.int v5_24c), .val (.long v6_24c), .second, .val (.long (F2 v6_24c v5_24c)), .second, .val (.long (-9187201950435737472 : Int64)), .second, .unset, .unset, .unset, .unset] [(.long (F2 v6_24c v5_24c)), (.long v6_24c)]))
                  refine Go.of (fun t k => XS.iload X21.here hx rfl (hb hby at_136) rfl k) ?_
                  show Go p e below s _ _ _ (T21.setTop (mkF m 138 #[.val (.long q0), .second, .val (.int p1), .val (.int p2), .val (.int p3), .val (.int v5_24c), .val (.long v6_24c), .second, .val (.long (F2 v6_24c v5_24c)), .second, .val (.long (-9187201950435737472 : Int64)), .second, .unset, .unset, .unset, .unset] [(.int v5_24c), (.long (F2 v6_24c v5_24c)), (.long v6_24c)]))
                  refine Go.of (fun t k => XS.bipush X21.here hx rfl (hb hby at_138) k) ?_
                  show Go p e below s _ _ _ (T21.setTop (mkF m 140 #[.val (.long q0), .second, .val (.int p1), .val (.int p2), .val (.int p3), .val (.int v5_24c), .val (.long v6_24c), .second, .val (.long (F2 v6_24c v5_24c)), .second, .val (.long (-9187201950435737472 : Int64)), .second, .unset, .unset, .unset, .unset] [(.int (6 : Int32)), (.int v5_24c), (.long (F2 v6_24c v5_24c)), (.long v6_24c)]))
                  obtain ⟨_, _, ⟨T23, L23, k23, n23⟩, -, X23, ⟨Lc23, hQ23, l23, y23, z23⟩, st23⟩ := Jvm.LawKit.callS X21 hx (y := (⟨"com/example/tallyfold/tallyfold/BytesBytesOfPinLaw", "covers", "(JJBI)Z"⟩ : MethodName)) hown (mvT hZ (hw _ (List.mem_of_getElem? (i := 13) rfl))) (mvT hZ (hw _ (List.mem_of_getElem? (i := 14) rfl))) (mvT hZ (hw _ (List.mem_of_getElem? (i := 2) rfl))) (mvT hZ (hw _ (List.mem_of_getElem? (i := 15) rfl))) (by decide) (backOf (W := 0) (rm3 l Z az hw [] v6_24c (F2 v6_24c v5_24c) v5_24c (6 : Int32) h0 n0 Z0) hZ (hw _ (List.mem_of_getElem? (i := 15) rfl)) (hw _ (List.mem_of_getElem? (i := 2) rfl)) (by decide) (by decide)) (g := (mkF m 140 #[.val (.long q0), .second, .val (.int p1), .val (.int p2), .val (.int p3), .val (.int v5_24c), .val (.long v6_24c), .second, .val (.long (F2 v6_24c v5_24c)), .second, .val (.long (-9187201950435737472 : Int64)), .second, .unset, .unset, .unset, .unset] [(.int (6 : Int32)), (.int v5_24c), (.long (F2 v6_24c v5_24c)), (.long v6_24c)])) rfl (by rw [hml]; rfl) (argsL := [(.long v6_24c), (.long (F2 v6_24c v5_24c)), (.int v5_24c), (.int (6 : Int32))]) (rest := []) (lenOf own_pd3 rfl) rfl (by show 2 * 0 + _ ≤ _; exact Nat.le_of_eq rfl) (hb hby at_140) (fun _ _ => ⟨rfl, e21, (by decide : 0 + 0 ≤ _), (by decide : 0 + 0 ≤ _)⟩)
                  dsimp only [Pt.U, Pt.locs, Pt.cells, Pt.slots] at X23 l23 y23 z23 st23 hQ23
                  subst l23 y23 z23
                  obtain ⟨rfl, N23q, e23⟩ := hQ23
                  have N23 := Fr.app N21 N23q
                  refine Go.of st23 ?_
                  show Go p e below s _ _ _ (T23.setTop (mkF m 143 #[.val (.long q0), .second, .val (.int p1), .val (.int p2), .val (.int p3), .val (.int v5_24c), .val (.long v6_24c), .second, .val (.long (F2 v6_24c v5_24c)), .second, .val (.long (-9187201950435737472 : Int64)), .second, .unset, .unset, .unset, .unset] [(.int (F3 v6_24c (F2 v6_24c v5_24c) v5_24c (6 : Int32)))]))
                  by_cases hc143_24 : (F3 v6_24c (F2 v6_24c v5_24c) v5_24c (6 : Int32)) = (0 : Int32)
                  · rewrite [if_pos hc143_24]
                    refine Go.of (fun t k => XS.ifYes X23.here hx rfl (pc0 := 143) (pc' := 164) rfl (hb hby at_143) rfl ((if0 _ _).trans (teq hc143_24).1) (by decide) (by decide) k) ?_
                    show Go p e below s _ _ _ (T23.setTop (mkF m 164 #[.val (.long q0), .second, .val (.int p1), .val (.int p2), .val (.int p3), .val (.int v5_24c), .val (.long v6_24c), .second, .val (.long (F2 v6_24c v5_24c)), .second, .val (.long (-9187201950435737472 : Int64)), .second, .unset, .unset, .unset, .unset] []))
                    exact jn164   T23 _ X23 e23 N23  
                  · rewrite [if_neg hc143_24]
                    refine Go.of (fun t k => XS.ifNo X23.here hx rfl (hb hby at_143) rfl ((if0 _ _).trans (feq hc143_24).1) k) ?_
                    show Go p e below s _ _ _ (T23.setTop (mkF m 146 #[.val (.long q0), .second, .val (.int p1), .val (.int p2), .val (.int p3), .val (.int v5_24c), .val (.long v6_24c), .second, .val (.long (F2 v6_24c v5_24c)), .second, .val (.long (-9187201950435737472 : Int64)), .second, .unset, .unset, .unset, .unset] []))
                    refine Go.of (fun t k => XS.lload X23.here hx rfl (hb hby at_146) rfl k) ?_
                    show Go p e below s _ _ _ (T23.setTop (mkF m 148 #[.val (.long q0), .second, .val (.int p1), .val (.int p2), .val (.int p3), .val (.int v5_24c), .val (.long v6_24c), .second, .val (.long (F2 v6_24c v5_24c)), .second, .val (.long (-9187201950435737472 : Int64)), .second, .unset, .unset, .unset, .unset] [(.long v6_24c)]))
                    refine Go.of (fun t k => XS.lload X23.here hx rfl (hb hby at_148) rfl k) ?_
                    show Go p e below s _ _ _ (T23.setTop (mkF m 150 #[.val (.long q0), .second, .val (.int p1), .val (.int p2), .val (.int p3), .val (.int v5_24c), .val (.long v6_24c), .second, .val (.long (F2 v6_24c v5_24c)), .second, .val (.long (-9187201950435737472 : Int64)), .second, .unset, .unset, .unset, .unset] [(.long (F2 v6_24c v5_24c)), (.long v6_24c)]))
                    refine Go.of (fun t k => XS.iload X23.here hx rfl (hb hby at_150) rfl k) ?_
                    show Go p e below s _ _ _ (T23.setTop (mkF m 152 #[.val (.long q0), .second, .val (.int p1), .val (.int p2), .val (.int p3), .val (.int v5_24c), .val (.long v6_24c), .second, .val (.long (F2 v6_24c v5_24c)), .second, .val (.long (-9187201950435737472 : Int64)), .second, .unset, .unset, .unset, .unset] [(.int v5_24c), (.long (F2 v6_24c v5_24c)), (.long v6_24c)]))
                    refine Go.of (fun t k => XS.bipush X23.here hx rfl (hb hby at_152) k) ?_
                    show Go p e below s _ _ _ (T23.setTop (mkF m 154 #[.val (.long q0), .second, .val (.int p1), .val (.int p2), .val (.int p3), .val (.int v5_24c), .val (.long v6_24c), .second, .val (.long (F2 v6_24c v5_24c)), .second, .val (.long (-9187201950435737472 : Int64)), .second, .unset, .unset, .unset, .unset] [(.int (7 : Int32)), (.int v5_24c), (.long (F2 v6_24c v5_24c)), (.long v6_24c)]))
                    obtain ⟨_, _, ⟨T25, L25, k25, n25⟩, -, X25, ⟨Lc25, hQ25, l25, y25, z25⟩, st25⟩ := Jvm.LawKit.callS X23 hx (y := (⟨"com/example/tallyfold/tallyfold/BytesBytesOfPinLaw", "covers", "(JJBI)Z"⟩ : MethodName)) hown (mvT hZ (hw _ (List.mem_of_getElem? (i := 13) rfl))) (mvT hZ (hw _ (List.mem_of_getElem? (i := 14) rfl))) (mvT hZ (hw _ (List.mem_of_getElem? (i := 2) rfl))) (mvT hZ (hw _ (List.mem_of_getElem? (i := 15) rfl))) (by decide) (backOf (W := 0) (rm3 l Z az hw [] v6_24c (F2 v6_24c v5_24c) v5_24c (7 : Int32) h0 n0 Z0) hZ (hw _ (List.mem_of_getElem? (i := 15) rfl)) (hw _ (List.mem_of_getElem? (i := 2) rfl)) (by decide) (by decide)) (g := (mkF m 154 #[.val (.long q0), .second, .val (.int p1), .val (.int p2), .val (.int p3), .val (.int v5_24c), .val (.long v6_24c), .second, .val (.long (F2 v6_24c v5_24c)), .second, .val (.long (-9187201950435737472 : Int64)), .second, .unset, .unset, .unset, .unset] [(.int (7 : Int32)), (.int v5_24c), (.long (F2 v6_24c v5_24c)), (.long v6_24c)])) rfl (by rw [hml]; rfl) (argsL := [(.long v6_24c), (.long (F2 v6_24c v5_24c)), (.int v5_24c), (.int (7 : Int32))]) (rest := []) (lenOf own_pd3 rfl) rfl (by show 2 * 0 + _ ≤ _; exact Nat.le_of_eq rfl) (hb hby at_154) (fun _ _ => ⟨rfl, e23, (by decide : 0 + 0 ≤ _), (by decide : 0 + 0 ≤ _)⟩)
                    dsimp only [Pt.U, Pt.locs, Pt.cells, Pt.slots] at X25 l25 y25 z25 st25 hQ25
                    subst l25 y25 z25
                    obtain ⟨rfl, N25q, e25⟩ := hQ25
                    have N25 := Fr.app N23 N25q
                    refine Go.of st25 ?_
                    show Go p e below s _ _ _ (T25.setTop (mkF m 157 #[.val (.long q0), .second, .val (.int p1), .val (.int p2), .val (.int p3), .val (.int v5_24c), .val (.long v6_24c), .second, .val (.long (F2 v6_24c v5_24c)), .second, .val (.long (-9187201950435737472 : Int64)), .second, .unset, .unset, .unset, .unset] [(.int (F3 v6_24c (F2 v6_24c v5_24c) v5_24c (7 : Int32)))]))
                    by_cases hc157_26 : (F3 v6_24c (F2 v6_24c v5_24c) v5_24c (7 : Int32)) = (0 : Int32)
                    · rewrite [if_pos hc157_26]
                      refine Go.of (fun t k => XS.ifYes X25.here hx rfl (pc0 := 157) (pc' := 164) rfl (hb hby at_157) rfl ((if0 _ _).trans (teq hc157_26).1) (by decide) (by decide) k) ?_
                      show Go p e below s _ _ _ (T25.setTop (mkF m 164 #[.val (.long q0), .second, .val (.int p1), .val (.int p2), .val (.int p3), .val (.int v5_24c), .val (.long v6_24c), .second, .val (.long (F2 v6_24c v5_24c)), .second, .val (.long (-9187201950435737472 : Int64)), .second, .unset, .unset, .unset, .unset] []))
                      exact jn164   T25 _ X25 e25 N25  
                    · rewrite [if_neg hc157_26]
                      refine Go.of (fun t k => XS.ifNo X25.here hx rfl (hb hby at_157) rfl ((if0 _ _).trans (feq hc157_26).1) k) ?_
                      show Go p e below s _ _ _ (T25.setTop (mkF m 160 #[.val (.long q0), .second, .val (.int p1), .val (.int p2), .val (.int p3), .val (.int v5_24c), .val (.long v6_24c), .second, .val (.long (F2 v6_24c v5_24c)), .second, .val (.long (-9187201950435737472 : Int64)), .second, .unset, .unset, .unset, .unset] []))
                      refine Go.of (fun t k => XS.iconst X25.here hx rfl (hb hby at_160) k) ?_
                      show Go p e below s _ _ _ (T25.setTop (mkF m 161 #[.val (.long q0), .second, .val (.int p1), .val (.int p2), .val (.int p3), .val (.int v5_24c), .val (.long v6_24c), .second, .val (.long (F2 v6_24c v5_24c)), .second, .val (.long (-9187201950435737472 : Int64)), .second, .unset, .unset, .unset, .unset] [(.int (1 : Int32))]))
                      refine Go.of (fun t k => XS.goto X25.here hx rfl (pc0 := 161) (pc' := 165) rfl (hb hby at_161) (by decide) (by decide) k) ?_
                      show Go p e below s _ _ _ (T25.setTop (mkF m 165 #[.val (.long q0), .second, .val (.int p1), .val (.int p2), .val (.int p3), .val (.int v5_24c), .val (.long v6_24c), .second, .val (.long (F2 v6_24c v5_24c)), .second, .val (.long (-9187201950435737472 : Int64)), .second, .unset, .unset, .unset, .unset] [(.int (1 : Int32))]))
                      exact jn165 (1 : Int32)  T25 _ X25 e25 N25  
    · rewrite [if_neg hc49_4]
      refine Go.of (fun t k => XS.ifNo X3.here hx rfl (hb hby at_49) rfl ((if0 _ _).trans (feq (mt (lw_eq ((F2 v6_24c v5_24c) &&& ((-9187201950435737472 : Int64) ^^^ (-1 : Int64))) (0 : Int64)).mp hc49_4)).1) k) ?_
      show Go p e below s _ _ _ (T3.setTop (mkF m 52 #[.val (.long q0), .second, .val (.int p1), .val (.int p2), .val (.int p3), .val (.int v5_24c), .val (.long v6_24c), .second, .val (.long (F2 v6_24c v5_24c)), .second, .val (.long (-9187201950435737472 : Int64)), .second, .unset, .unset, .unset, .unset] []))
      refine Go.of (fun t k => XS.iconst X3.here hx rfl (hb hby at_52) k) ?_
      show Go p e below s _ _ _ (T3.setTop (mkF m 53 #[.val (.long q0), .second, .val (.int p1), .val (.int p2), .val (.int p3), .val (.int v5_24c), .val (.long v6_24c), .second, .val (.long (F2 v6_24c v5_24c)), .second, .val (.long (-9187201950435737472 : Int64)), .second, .unset, .unset, .unset, .unset] [(.int (0 : Int32))]))
      exact Go.ret X3 (some (.int (0 : Int32))) (fun h => by rw [Bd.returns] at h; cases h) hlk ⟨rfl, N3⟩ (by decide) (by decide) (fun fs hr => (retN X3 hx (t := .boolean) Bd.returns (by simp) (hb hby at_53) hr))
  exact jn24c (p1.toInt8.toInt32) (F1 (F1 q0 (p1.toInt8.toInt32) p2) (p1.toInt8.toInt32) p3) 
theorem own_n1_0 (N : Nat) (h : N < 18446744073709551616) (z : N / 1 % 256 = 0) : (18446744073709551616 - 72340172838076673 + N) % 18446744073709551616 / 128 % 2 = 1 ∧ N / 128 % 2 = 0 := by omega
theorem own_n2_0 (N : Nat) (h : N < 18446744073709551616) (z0 : ¬ N / 1 % 256 = 0) : ¬ ((18446744073709551616 - 72340172838076673 + N) % 18446744073709551616 / 128 % 2 = 1 ∧ N / 128 % 2 = 0) := by omega
theorem own_n1_1 (N : Nat) (h : N < 18446744073709551616) (z : N / 256 % 256 = 0) : (18446744073709551616 - 72340172838076673 + N) % 18446744073709551616 / 32768 % 2 = 1 ∧ N / 32768 % 2 = 0 := by omega
theorem own_n2_1 (N : Nat) (h : N < 18446744073709551616) (z0 : ¬ N / 1 % 256 = 0) (z1 : ¬ N / 256 % 256 = 0) : ¬ ((18446744073709551616 - 72340172838076673 + N) % 18446744073709551616 / 32768 % 2 = 1 ∧ N / 32768 % 2 = 0) := by omega
theorem own_n1_2 (N : Nat) (h : N < 18446744073709551616) (z : N / 65536 % 256 = 0) : (18446744073709551616 - 72340172838076673 + N) % 18446744073709551616 / 8388608 % 2 = 1 ∧ N / 8388608 % 2 = 0 := by omega
theorem own_n2_2 (N : Nat) (h : N < 18446744073709551616) (z0 : ¬ N / 1 % 256 = 0) (z1 : ¬ N / 256 % 256 = 0) (z2 : ¬ N / 65536 % 256 = 0) : ¬ ((18446744073709551616 - 72340172838076673 + N) % 18446744073709551616 / 8388608 % 2 = 1 ∧ N / 8388608 % 2 = 0) := by omega
theorem own_n1_3 (N : Nat) (h : N < 18446744073709551616) (z : N / 16777216 % 256 = 0) : (18446744073709551616 - 72340172838076673 + N) % 18446744073709551616 / 2147483648 % 2 = 1 ∧ N / 2147483648 % 2 = 0 := by omega
theorem own_n2_3 (N : Nat) (h : N < 18446744073709551616) (z0 : ¬ N / 1 % 256 = 0) (z1 : ¬ N / 256 % 256 = 0) (z2 : ¬ N / 65536 % 256 = 0) (z3 : ¬ N / 16777216 % 256 = 0) : ¬ ((18446744073709551616 - 72340172838076673 + N) % 18446744073709551616 / 2147483648 % 2 = 1 ∧ N / 2147483648 % 2 = 0) := by omega
theorem own_n1_4 (N : Nat) (h : N < 18446744073709551616) (z : N / 4294967296 % 256 = 0) : (18446744073709551616 - 72340172838076673 + N) % 18446744073709551616 / 549755813888 % 2 = 1 ∧ N / 549755813888 % 2 = 0 := by omega
theorem own_n2_4 (N : Nat) (h : N < 18446744073709551616) (z0 : ¬ N / 1 % 256 = 0) (z1 : ¬ N / 256 % 256 = 0) (z2 : ¬ N / 65536 % 256 = 0) (z3 : ¬ N / 16777216 % 256 = 0) (z4 : ¬ N / 4294967296 % 256 = 0) : ¬ ((18446744073709551616 - 72340172838076673 + N) % 18446744073709551616 / 549755813888 % 2 = 1 ∧ N / 549755813888 % 2 = 0) := by omega
theorem own_n1_5 (N : Nat) (h : N < 18446744073709551616) (z : N / 1099511627776 % 256 = 0) : (18446744073709551616 - 72340172838076673 + N) % 18446744073709551616 / 140737488355328 % 2 = 1 ∧ N / 140737488355328 % 2 = 0 := by omega
theorem own_n2_5 (N : Nat) (h : N < 18446744073709551616) (z0 : ¬ N / 1 % 256 = 0) (z1 : ¬ N / 256 % 256 = 0) (z2 : ¬ N / 65536 % 256 = 0) (z3 : ¬ N / 16777216 % 256 = 0) (z4 : ¬ N / 4294967296 % 256 = 0) (z5 : ¬ N / 1099511627776 % 256 = 0) : ¬ ((18446744073709551616 - 72340172838076673 + N) % 18446744073709551616 / 140737488355328 % 2 = 1 ∧ N / 140737488355328 % 2 = 0) := by omega
theorem own_n1_6 (N : Nat) (h : N < 18446744073709551616) (z : N / 281474976710656 % 256 = 0) : (18446744073709551616 - 72340172838076673 + N) % 18446744073709551616 / 36028797018963968 % 2 = 1 ∧ N / 36028797018963968 % 2 = 0 := by omega
theorem own_n2_6 (N : Nat) (h : N < 18446744073709551616) (z0 : ¬ N / 1 % 256 = 0) (z1 : ¬ N / 256 % 256 = 0) (z2 : ¬ N / 65536 % 256 = 0) (z3 : ¬ N / 16777216 % 256 = 0) (z4 : ¬ N / 4294967296 % 256 = 0) (z5 : ¬ N / 1099511627776 % 256 = 0) (z6 : ¬ N / 281474976710656 % 256 = 0) : ¬ ((18446744073709551616 - 72340172838076673 + N) % 18446744073709551616 / 36028797018963968 % 2 = 1 ∧ N / 36028797018963968 % 2 = 0) := by omega
theorem own_n1_7 (N : Nat) (h : N < 18446744073709551616) (z : N / 72057594037927936 % 256 = 0) : (18446744073709551616 - 72340172838076673 + N) % 18446744073709551616 / 9223372036854775808 % 2 = 1 ∧ N / 9223372036854775808 % 2 = 0 := by omega
theorem own_n2_7 (N : Nat) (h : N < 18446744073709551616) (z0 : ¬ N / 1 % 256 = 0) (z1 : ¬ N / 256 % 256 = 0) (z2 : ¬ N / 65536 % 256 = 0) (z3 : ¬ N / 16777216 % 256 = 0) (z4 : ¬ N / 4294967296 % 256 = 0) (z5 : ¬ N / 1099511627776 % 256 = 0) (z6 : ¬ N / 281474976710656 % 256 = 0) (z7 : ¬ N / 72057594037927936 % 256 = 0) : ¬ ((18446744073709551616 - 72340172838076673 + N) % 18446744073709551616 / 9223372036854775808 % 2 = 1 ∧ N / 9223372036854775808 % 2 = 0) := by omega
def own_y (x : Int64) (b : Int32) : Int64 := x ^^^ ((72340172838076673 : Int64) * ((b &&& (255 : Int32)).toInt64))
def own_Y (x : Int64) (b : Int32) : Nat := (own_y x b).toBitVec.toNat
theorem own_Ylt (x : Int64) (b : Int32) : own_Y x b < 18446744073709551616 := (own_y x b).toBitVec.isLt
theorem own_X (x : Int64) : (x.toBitVec.toNat : Int) = x.toInt % 18446744073709551616 := by
  have h := x.toBitVec.isLt
  show (x.toBitVec.toNat : Int) = x.toBitVec.toInt % 18446744073709551616
  rw [BitVec.toInt_eq_toNat_cond]
  split <;> omega
theorem own_W (b : Int32) : ∃ β : Nat, β < 256 ∧ (b &&& (255 : Int32)).toInt = (β : Int) ∧ ((72340172838076673 : Int64) * ((b &&& (255 : Int32)).toInt64)).toBitVec.toNat = 72340172838076673 * β := by
  have m := c_mask b 255 8 (by decide) (by decide)
  have e := c_i2l (b &&& 255)
  have t := own_X ((b &&& 255).toInt64)
  refine ⟨(b &&& 255).toInt64.toBitVec.toNat, by omega, by omega, ?_⟩
  show ((72340172838076673 : Int64).toBitVec * ((b &&& 255).toInt64).toBitVec).toNat = _
  rw [BitVec.toNat_mul]
  show (72340172838076673 * _) % 18446744073709551616 = _
  exact Nat.mod_eq_of_lt (by omega)
theorem own_x0 (u v : Nat) : u ^^^ v = 0 ↔ u = v := by
  constructor
  · intro h
    have e : u = (u ^^^ v) ^^^ v := by rw [Nat.xor_assoc, Nat.xor_self, Nat.xor_zero]
    rw [e, h, Nat.zero_xor]
  · rintro rfl
    exact Nat.xor_self _
theorem own_byte (x : Int64) (b : Int32) (β : Nat) (hW : ((72340172838076673 : Int64) * ((b &&& (255 : Int32)).toInt64)).toBitVec.toNat = 72340172838076673 * β) (k : Nat) (hk : 72340172838076673 * β / 2 ^ k % 2 ^ 8 = β) : own_Y x b / 2 ^ k % 2 ^ 8 = 0 ↔ x.toBitVec.toNat / 2 ^ k % 2 ^ 8 = β := by
  have e : own_Y x b = x.toBitVec.toNat ^^^ (72340172838076673 * β) := by
    rw [← hW]
    show (x.toBitVec ^^^ _).toNat = _
    rw [BitVec.toNat_xor]
  rw [e, Nat.xor_div_two_pow, Nat.xor_mod_two_pow, hk, own_x0]
theorem own_ushr (x : Int64) (q : Int32) (k : Nat) (hk : q.toBitVec.toNat % 64 = k) : ((x.toUInt64 >>> (q &&& 0x3f).toInt64.toUInt64).toInt64).toBitVec = x.toBitVec >>> k := by
  show x.toBitVec >>> ((q &&& 0x3f).toInt64.toBitVec % 64) = _
  have h := (sm64 q k hk).2
  rw [BitVec.ushiftRight_eq', (sm64 q k hk).1, BitVec.toNat_umod, BitVec.toNat_ofNat]
  congr 1
  show k % 2 ^ 64 % 64 = k
  omega
theorem own_sh (x : Int64) (q : Int32) (k : Nat) (hk : q.toBitVec.toNat % 64 = k) : ((((x.toUInt64 >>> (q &&& 0x3f).toInt64.toUInt64).toInt64)).toInt % 18446744073709551616) = ((x.toBitVec.toNat / 2 ^ k : Nat) : Int) := by
  rw [← own_X, own_ushr x q k hk, BitVec.toNat_ushiftRight, Nat.shiftRight_eq_div_pow]
theorem own_F4_0 (x : Int64) (p : Int32) : F4 x (p.toInt8.toInt32) (0 : Int32) = 0 ↔ ¬ (own_Y x (p.toInt8.toInt32) / 1 % 256 = 0) := by
  obtain ⟨β, h1, h2, h3⟩ := own_W (p.toInt8.toInt32)
  have m := c_mask (p.toInt8.toInt32) 255 8 (by decide) (by decide)
  have z := c_i2b p
  have hs := own_sh x ((8 : Int32) * (0 : Int32)) 0 (by decide)
  have rep : ∀ b : Fin 256, 72340172838076673 * b.val / 2 ^ 0 % 2 ^ 8 = b.val := by decide +kernel
  have key := own_byte x (p.toInt8.toInt32) β h3 0 (rep ⟨β, h1⟩)
  unfold F4
  generalize ((x.toUInt64 >>> (((8 : Int32) * (0 : Int32)) &&& 0x3f).toInt64.toUInt64).toInt64) = A at *
  have v := c_l2i A
  have w := c_i2b A.toInt32
  have hx := x.toBitVec.isLt
  have e : A.toInt32.toInt8.toInt32 = (p.toInt8.toInt32) ↔ x.toBitVec.toNat / 2 ^ 0 % 2 ^ 8 = β := by
    rw [← Int32.toInt_inj]
    generalize x.toBitVec.toNat = X at *
    omega
  rw [← key] at e
  by_cases hh : A.toInt32.toInt8.toInt32 = (p.toInt8.toInt32)
  · rw [if_pos hh]
    exact ⟨fun q => absurd q (by decide), fun q => absurd (e.mp hh) q⟩
  · rw [if_neg hh]
    exact ⟨fun _ q => hh (e.mpr q), fun _ => rfl⟩
theorem own_F4_1 (x : Int64) (p : Int32) : F4 x (p.toInt8.toInt32) (1 : Int32) = 0 ↔ ¬ (own_Y x (p.toInt8.toInt32) / 256 % 256 = 0) := by
  obtain ⟨β, h1, h2, h3⟩ := own_W (p.toInt8.toInt32)
  have m := c_mask (p.toInt8.toInt32) 255 8 (by decide) (by decide)
  have z := c_i2b p
  have hs := own_sh x ((8 : Int32) * (1 : Int32)) 8 (by decide)
  have rep : ∀ b : Fin 256, 72340172838076673 * b.val / 2 ^ 8 % 2 ^ 8 = b.val := by decide +kernel
  have key := own_byte x (p.toInt8.toInt32) β h3 8 (rep ⟨β, h1⟩)
  unfold F4
  generalize ((x.toUInt64 >>> (((8 : Int32) * (1 : Int32)) &&& 0x3f).toInt64.toUInt64).toInt64) = A at *
  have v := c_l2i A
  have w := c_i2b A.toInt32
  have hx := x.toBitVec.isLt
  have e : A.toInt32.toInt8.toInt32 = (p.toInt8.toInt32) ↔ x.toBitVec.toNat / 2 ^ 8 % 2 ^ 8 = β := by
    rw [← Int32.toInt_inj]
    generalize x.toBitVec.toNat = X at *
    omega
  rw [← key] at e
  by_cases hh : A.toInt32.toInt8.toInt32 = (p.toInt8.toInt32)
  · rw [if_pos hh]
    exact ⟨fun q => absurd q (by decide), fun q => absurd (e.mp hh) q⟩
  · rw [if_neg hh]
    exact ⟨fun _ q => hh (e.mpr q), fun _ => rfl⟩
theorem own_F4_2 (x : Int64) (p : Int32) : F4 x (p.toInt8.toInt32) (2 : Int32) = 0 ↔ ¬ (own_Y x (p.toInt8.toInt32) / 65536 % 256 = 0) := by
  obtain ⟨β, h1, h2, h3⟩ := own_W (p.toInt8.toInt32)
  have m := c_mask (p.toInt8.toInt32) 255 8 (by decide) (by decide)
  have z := c_i2b p
  have hs := own_sh x ((8 : Int32) * (2 : Int32)) 16 (by decide)
  have rep : ∀ b : Fin 256, 72340172838076673 * b.val / 2 ^ 16 % 2 ^ 8 = b.val := by decide +kernel
  have key := own_byte x (p.toInt8.toInt32) β h3 16 (rep ⟨β, h1⟩)
  unfold F4
  generalize ((x.toUInt64 >>> (((8 : Int32) * (2 : Int32)) &&& 0x3f).toInt64.toUInt64).toInt64) = A at *
  have v := c_l2i A
  have w := c_i2b A.toInt32
  have hx := x.toBitVec.isLt
  have e : A.toInt32.toInt8.toInt32 = (p.toInt8.toInt32) ↔ x.toBitVec.toNat / 2 ^ 16 % 2 ^ 8 = β := by
    rw [← Int32.toInt_inj]
    generalize x.toBitVec.toNat = X at *
    omega
  rw [← key] at e
  by_cases hh : A.toInt32.toInt8.toInt32 = (p.toInt8.toInt32)
  · rw [if_pos hh]
    exact ⟨fun q => absurd q (by decide), fun q => absurd (e.mp hh) q⟩
  · rw [if_neg hh]
    exact ⟨fun _ q => hh (e.mpr q), fun _ => rfl⟩
theorem own_F4_3 (x : Int64) (p : Int32) : F4 x (p.toInt8.toInt32) (3 : Int32) = 0 ↔ ¬ (own_Y x (p.toInt8.toInt32) / 16777216 % 256 = 0) := by
  obtain ⟨β, h1, h2, h3⟩ := own_W (p.toInt8.toInt32)
  have m := c_mask (p.toInt8.toInt32) 255 8 (by decide) (by decide)
  have z := c_i2b p
  have hs := own_sh x ((8 : Int32) * (3 : Int32)) 24 (by decide)
  have rep : ∀ b : Fin 256, 72340172838076673 * b.val / 2 ^ 24 % 2 ^ 8 = b.val := by decide +kernel
  have key := own_byte x (p.toInt8.toInt32) β h3 24 (rep ⟨β, h1⟩)
  unfold F4
  generalize ((x.toUInt64 >>> (((8 : Int32) * (3 : Int32)) &&& 0x3f).toInt64.toUInt64).toInt64) = A at *
  have v := c_l2i A
  have w := c_i2b A.toInt32
  have hx := x.toBitVec.isLt
  have e : A.toInt32.toInt8.toInt32 = (p.toInt8.toInt32) ↔ x.toBitVec.toNat / 2 ^ 24 % 2 ^ 8 = β := by
    rw [← Int32.toInt_inj]
    generalize x.toBitVec.toNat = X at *
    omega
  rw [← key] at e
  by_cases hh : A.toInt32.toInt8.toInt32 = (p.toInt8.toInt32)
  · rw [if_pos hh]
    exact ⟨fun q => absurd q (by decide), fun q => absurd (e.mp hh) q⟩
  · rw [if_neg hh]
    exact ⟨fun _ q => hh (e.mpr q), fun _ => rfl⟩
theorem own_F4_4 (x : Int64) (p : Int32) : F4 x (p.toInt8.toInt32) (4 : Int32) = 0 ↔ ¬ (own_Y x (p.toInt8.toInt32) / 4294967296 % 256 = 0) := by
  obtain ⟨β, h1, h2, h3⟩ := own_W (p.toInt8.toInt32)
  have m := c_mask (p.toInt8.toInt32) 255 8 (by decide) (by decide)
  have z := c_i2b p
  have hs := own_sh x ((8 : Int32) * (4 : Int32)) 32 (by decide)
  have rep : ∀ b : Fin 256, 72340172838076673 * b.val / 2 ^ 32 % 2 ^ 8 = b.val := by decide +kernel
  have key := own_byte x (p.toInt8.toInt32) β h3 32 (rep ⟨β, h1⟩)
  unfold F4
  generalize ((x.toUInt64 >>> (((8 : Int32) * (4 : Int32)) &&& 0x3f).toInt64.toUInt64).toInt64) = A at *
  have v := c_l2i A
  have w := c_i2b A.toInt32
  have hx := x.toBitVec.isLt
  have e : A.toInt32.toInt8.toInt32 = (p.toInt8.toInt32) ↔ x.toBitVec.toNat / 2 ^ 32 % 2 ^ 8 = β := by
    rw [← Int32.toInt_inj]
    generalize x.toBitVec.toNat = X at *
    omega
  rw [← key] at e
  by_cases hh : A.toInt32.toInt8.toInt32 = (p.toInt8.toInt32)
  · rw [if_pos hh]
    exact ⟨fun q => absurd q (by decide), fun q => absurd (e.mp hh) q⟩
  · rw [if_neg hh]
    exact ⟨fun _ q => hh (e.mpr q), fun _ => rfl⟩
theorem own_F4_5 (x : Int64) (p : Int32) : F4 x (p.toInt8.toInt32) (5 : Int32) = 0 ↔ ¬ (own_Y x (p.toInt8.toInt32) / 1099511627776 % 256 = 0) := by
  obtain ⟨β, h1, h2, h3⟩ := own_W (p.toInt8.toInt32)
  have m := c_mask (p.toInt8.toInt32) 255 8 (by decide) (by decide)
  have z := c_i2b p
  have hs := own_sh x ((8 : Int32) * (5 : Int32)) 40 (by decide)
  have rep : ∀ b : Fin 256, 72340172838076673 * b.val / 2 ^ 40 % 2 ^ 8 = b.val := by decide +kernel
  have key := own_byte x (p.toInt8.toInt32) β h3 40 (rep ⟨β, h1⟩)
  unfold F4
  generalize ((x.toUInt64 >>> (((8 : Int32) * (5 : Int32)) &&& 0x3f).toInt64.toUInt64).toInt64) = A at *
  have v := c_l2i A
  have w := c_i2b A.toInt32
  have hx := x.toBitVec.isLt
  have e : A.toInt32.toInt8.toInt32 = (p.toInt8.toInt32) ↔ x.toBitVec.toNat / 2 ^ 40 % 2 ^ 8 = β := by
    rw [← Int32.toInt_inj]
    generalize x.toBitVec.toNat = X at *
    omega
  rw [← key] at e
  by_cases hh : A.toInt32.toInt8.toInt32 = (p.toInt8.toInt32)
  · rw [if_pos hh]
    exact ⟨fun q => absurd q (by decide), fun q => absurd (e.mp hh) q⟩
  · rw [if_neg hh]
    exact ⟨fun _ q => hh (e.mpr q), fun _ => rfl⟩
theorem own_F4_6 (x : Int64) (p : Int32) : F4 x (p.toInt8.toInt32) (6 : Int32) = 0 ↔ ¬ (own_Y x (p.toInt8.toInt32) / 281474976710656 % 256 = 0) := by
  obtain ⟨β, h1, h2, h3⟩ := own_W (p.toInt8.toInt32)
  have m := c_mask (p.toInt8.toInt32) 255 8 (by decide) (by decide)
  have z := c_i2b p
  have hs := own_sh x ((8 : Int32) * (6 : Int32)) 48 (by decide)
  have rep : ∀ b : Fin 256, 72340172838076673 * b.val / 2 ^ 48 % 2 ^ 8 = b.val := by decide +kernel
  have key := own_byte x (p.toInt8.toInt32) β h3 48 (rep ⟨β, h1⟩)
  unfold F4
  generalize ((x.toUInt64 >>> (((8 : Int32) * (6 : Int32)) &&& 0x3f).toInt64.toUInt64).toInt64) = A at *
  have v := c_l2i A
  have w := c_i2b A.toInt32
  have hx := x.toBitVec.isLt
  have e : A.toInt32.toInt8.toInt32 = (p.toInt8.toInt32) ↔ x.toBitVec.toNat / 2 ^ 48 % 2 ^ 8 = β := by
    rw [← Int32.toInt_inj]
    generalize x.toBitVec.toNat = X at *
    omega
  rw [← key] at e
  by_cases hh : A.toInt32.toInt8.toInt32 = (p.toInt8.toInt32)
  · rw [if_pos hh]
    exact ⟨fun q => absurd q (by decide), fun q => absurd (e.mp hh) q⟩
  · rw [if_neg hh]
    exact ⟨fun _ q => hh (e.mpr q), fun _ => rfl⟩
theorem own_F4_7 (x : Int64) (p : Int32) : F4 x (p.toInt8.toInt32) (7 : Int32) = 0 ↔ ¬ (own_Y x (p.toInt8.toInt32) / 72057594037927936 % 256 = 0) := by
  obtain ⟨β, h1, h2, h3⟩ := own_W (p.toInt8.toInt32)
  have m := c_mask (p.toInt8.toInt32) 255 8 (by decide) (by decide)
  have z := c_i2b p
  have hs := own_sh x ((8 : Int32) * (7 : Int32)) 56 (by decide)
  have rep : ∀ b : Fin 256, 72340172838076673 * b.val / 2 ^ 56 % 2 ^ 8 = b.val := by decide +kernel
  have key := own_byte x (p.toInt8.toInt32) β h3 56 (rep ⟨β, h1⟩)
  unfold F4
  generalize ((x.toUInt64 >>> (((8 : Int32) * (7 : Int32)) &&& 0x3f).toInt64.toUInt64).toInt64) = A at *
  have v := c_l2i A
  have w := c_i2b A.toInt32
  have hx := x.toBitVec.isLt
  have e : A.toInt32.toInt8.toInt32 = (p.toInt8.toInt32) ↔ x.toBitVec.toNat / 2 ^ 56 % 2 ^ 8 = β := by
    rw [← Int32.toInt_inj]
    generalize x.toBitVec.toNat = X at *
    omega
  rw [← key] at e
  by_cases hh : A.toInt32.toInt8.toInt32 = (p.toInt8.toInt32)
  · rw [if_pos hh]
    exact ⟨fun q => absurd q (by decide), fun q => absurd (e.mp hh) q⟩
  · rw [if_neg hh]
    exact ⟨fun _ q => hh (e.mpr q), fun _ => rfl⟩
theorem own_R (x : Int64) (b : Int32) : (F2 x b).toBitVec = (((own_y x b).toBitVec - 72340172838076673#64) &&& ((own_y x b).toBitVec ^^^ 0xFFFFFFFFFFFFFFFF#64)) &&& 0x8080808080808080#64 := rfl
theorem own_H : ∀ k : Fin 64, (0x8080808080808080#64).getLsbD k.val = decide (k.val % 8 = 7) := by decide +kernel
theorem own_ones : ∀ k : Fin 64, (0xFFFFFFFFFFFFFFFF#64).getLsbD k.val = true := by decide +kernel
theorem own_bit (x : Int64) (b : Int32) (k : Nat) (hk : k < 64) : (F2 x b).toBitVec.getLsbD k = ((decide ((18446744073709551616 - 72340172838076673 + own_Y x b) % 18446744073709551616 / 2 ^ k % 2 = 1) && !decide (own_Y x b / 2 ^ k % 2 = 1)) && decide (k % 8 = 7)) := by
  have h1 := own_H ⟨k, hk⟩
  have h2 := own_ones ⟨k, hk⟩
  simp only at h1 h2
  have h3 : ((own_y x b).toBitVec - 72340172838076673#64).getLsbD k = decide ((18446744073709551616 - 72340172838076673 + own_Y x b) % 18446744073709551616 / 2 ^ k % 2 = 1) := by
    show Nat.testBit _ _ = _
    rw [BitVec.toNat_sub, Nat.testBit_eq_decide_div_mod_eq]
    rfl
  have h4 : (own_y x b).toBitVec.getLsbD k = decide (own_Y x b / 2 ^ k % 2 = 1) := by
    show Nat.testBit _ _ = _
    rw [Nat.testBit_eq_decide_div_mod_eq]
    rfl
  rw [own_R, BitVec.getLsbD_and, BitVec.getLsbD_and, BitVec.getLsbD_xor, h1, h2, h3, h4, Bool.xor_true]
theorem own_off (x : Int64) (b : Int32) (k : Nat) (hk : k < 64) (h : ¬ k % 8 = 7) : (F2 x b).toBitVec.getLsbD k = false := by
  rw [own_bit x b k hk, decide_eq_false h, Bool.and_false]
theorem own_msk (x : Int64) (b : Int32) : (F2 x b &&& ((-9187201950435737472 : Int64) ^^^ (-1 : Int64))) = (0 : Int64) := by
  have e : ((-9187201950435737472 : Int64) ^^^ (-1 : Int64)) = (9187201950435737471 : Int64) := by decide
  have hl : ∀ k : Fin 64, (0x7F7F7F7F7F7F7F7F#64).getLsbD k.val = decide (¬ k.val % 8 = 7) := by decide +kernel
  rw [e, ← Int64.toBitVec_inj]
  show (F2 x b).toBitVec &&& 0x7F7F7F7F7F7F7F7F#64 = 0#64
  apply BitVec.eq_of_getLsbD_eq
  intro k hk
  have q := hl ⟨k, hk⟩
  simp only at q
  rw [BitVec.getLsbD_and, q]
  by_cases h : k % 8 = 7
  · simp [h]
  · rw [own_off x b k hk h]; simp
theorem own_t_0 (x : Int64) (b : Int32) (z : own_Y x b / 1 % 256 = 0) : (F2 x b).toBitVec.getLsbD 7 = true := by
  have h := own_n1_0 _ (own_Ylt x b) z
  rw [own_bit x b 7 (by decide), decide_eq_true h.1, decide_eq_false (show ¬ own_Y x b / 2 ^ 7 % 2 = 1 by omega)]
  rfl
theorem own_f_0 (x : Int64) (b : Int32) (z0 : ¬ own_Y x b / 1 % 256 = 0) : (F2 x b).toBitVec.getLsbD 7 = false := by
  have h := own_n2_0 _ (own_Ylt x b) z0
  rw [own_bit x b 7 (by decide)]
  by_cases h1 : (18446744073709551616 - 72340172838076673 + own_Y x b) % 18446744073709551616 / 2 ^ 7 % 2 = 1
  · rw [decide_eq_true (show own_Y x b / 2 ^ 7 % 2 = 1 by omega)]; simp
  · rw [decide_eq_false h1]; simp
theorem own_cov_0 (x : Int64) (p : Int32) : F3 x (F2 x (p.toInt8.toInt32)) (p.toInt8.toInt32) (0 : Int32) = 1 := by
  unfold F3
  by_cases h : F4 x (p.toInt8.toInt32) (0 : Int32) = 0
  · rw [if_pos h]
  · rw [if_neg h]
    have z : own_Y x (p.toInt8.toInt32) / 1 % 256 = 0 := by
      by_cases c : own_Y x (p.toInt8.toInt32) / 1 % 256 = 0
      · exact c
      · exact absurd ((own_F4_0 x p).mpr c) h
    have t := own_t_0 x _ z
    have hs := own_sh (F2 x (p.toInt8.toInt32)) (((8 : Int32) * (0 : Int32)) + (7 : Int32)) 7 (by decide)
    have tt : (F2 x (p.toInt8.toInt32)).toBitVec.toNat / 2 ^ 7 % 2 = 1 := by
      have : Nat.testBit (F2 x (p.toInt8.toInt32)).toBitVec.toNat 7 = true := t
      rw [Nat.testBit_eq_decide_div_mod_eq] at this
      exact of_decide_eq_true this
    generalize (((F2 x (p.toInt8.toInt32)).toUInt64 >>> ((((8 : Int32) * (0 : Int32)) + (7 : Int32)) &&& 0x3f).toInt64.toUInt64).toInt64) = A at *
    have m := c_maskL A 1 1 (by decide) (by decide)
    rw [if_pos]
    rw [← Int64.toInt_inj]
    have e1 : (1 : Int64).toInt = 1 := by decide
    generalize (F2 x (p.toInt8.toInt32)).toBitVec.toNat / 2 ^ 7 = V at *
    omega
theorem own_t_1 (x : Int64) (b : Int32) (z : own_Y x b / 256 % 256 = 0) : (F2 x b).toBitVec.getLsbD 15 = true := by
  have h := own_n1_1 _ (own_Ylt x b) z
  rw [own_bit x b 15 (by decide), decide_eq_true h.1, decide_eq_false (show ¬ own_Y x b / 2 ^ 15 % 2 = 1 by omega)]
  rfl
theorem own_f_1 (x : Int64) (b : Int32) (z0 : ¬ own_Y x b / 1 % 256 = 0) (z1 : ¬ own_Y x b / 256 % 256 = 0) : (F2 x b).toBitVec.getLsbD 15 = false := by
  have h := own_n2_1 _ (own_Ylt x b) z0 z1
  rw [own_bit x b 15 (by decide)]
  by_cases h1 : (18446744073709551616 - 72340172838076673 + own_Y x b) % 18446744073709551616 / 2 ^ 15 % 2 = 1
  · rw [decide_eq_true (show own_Y x b / 2 ^ 15 % 2 = 1 by omega)]; simp
  · rw [decide_eq_false h1]; simp
theorem own_cov_1 (x : Int64) (p : Int32) : F3 x (F2 x (p.toInt8.toInt32)) (p.toInt8.toInt32) (1 : Int32) = 1 := by
  unfold F3
  by_cases h : F4 x (p.toInt8.toInt32) (1 : Int32) = 0
  · rw [if_pos h]
  · rw [if_neg h]
    have z : own_Y x (p.toInt8.toInt32) / 256 % 256 = 0 := by
      by_cases c : own_Y x (p.toInt8.toInt32) / 256 % 256 = 0
      · exact c
      · exact absurd ((own_F4_1 x p).mpr c) h
    have t := own_t_1 x _ z
    have hs := own_sh (F2 x (p.toInt8.toInt32)) (((8 : Int32) * (1 : Int32)) + (7 : Int32)) 15 (by decide)
    have tt : (F2 x (p.toInt8.toInt32)).toBitVec.toNat / 2 ^ 15 % 2 = 1 := by
      have : Nat.testBit (F2 x (p.toInt8.toInt32)).toBitVec.toNat 15 = true := t
      rw [Nat.testBit_eq_decide_div_mod_eq] at this
      exact of_decide_eq_true this
    generalize (((F2 x (p.toInt8.toInt32)).toUInt64 >>> ((((8 : Int32) * (1 : Int32)) + (7 : Int32)) &&& 0x3f).toInt64.toUInt64).toInt64) = A at *
    have m := c_maskL A 1 1 (by decide) (by decide)
    rw [if_pos]
    rw [← Int64.toInt_inj]
    have e1 : (1 : Int64).toInt = 1 := by decide
    generalize (F2 x (p.toInt8.toInt32)).toBitVec.toNat / 2 ^ 15 = V at *
    omega
theorem own_t_2 (x : Int64) (b : Int32) (z : own_Y x b / 65536 % 256 = 0) : (F2 x b).toBitVec.getLsbD 23 = true := by
  have h := own_n1_2 _ (own_Ylt x b) z
  rw [own_bit x b 23 (by decide), decide_eq_true h.1, decide_eq_false (show ¬ own_Y x b / 2 ^ 23 % 2 = 1 by omega)]
  rfl
theorem own_f_2 (x : Int64) (b : Int32) (z0 : ¬ own_Y x b / 1 % 256 = 0) (z1 : ¬ own_Y x b / 256 % 256 = 0) (z2 : ¬ own_Y x b / 65536 % 256 = 0) : (F2 x b).toBitVec.getLsbD 23 = false := by
  have h := own_n2_2 _ (own_Ylt x b) z0 z1 z2
  rw [own_bit x b 23 (by decide)]
  by_cases h1 : (18446744073709551616 - 72340172838076673 + own_Y x b) % 18446744073709551616 / 2 ^ 23 % 2 = 1
  · rw [decide_eq_true (show own_Y x b / 2 ^ 23 % 2 = 1 by omega)]; simp
  · rw [decide_eq_false h1]; simp
theorem own_cov_2 (x : Int64) (p : Int32) : F3 x (F2 x (p.toInt8.toInt32)) (p.toInt8.toInt32) (2 : Int32) = 1 := by
  unfold F3
  by_cases h : F4 x (p.toInt8.toInt32) (2 : Int32) = 0
  · rw [if_pos h]
  · rw [if_neg h]
    have z : own_Y x (p.toInt8.toInt32) / 65536 % 256 = 0 := by
      by_cases c : own_Y x (p.toInt8.toInt32) / 65536 % 256 = 0
      · exact c
      · exact absurd ((own_F4_2 x p).mpr c) h
    have t := own_t_2 x _ z
    have hs := own_sh (F2 x (p.toInt8.toInt32)) (((8 : Int32) * (2 : Int32)) + (7 : Int32)) 23 (by decide)
    have tt : (F2 x (p.toInt8.toInt32)).toBitVec.toNat / 2 ^ 23 % 2 = 1 := by
      have : Nat.testBit (F2 x (p.toInt8.toInt32)).toBitVec.toNat 23 = true := t
      rw [Nat.testBit_eq_decide_div_mod_eq] at this
      exact of_decide_eq_true this
    generalize (((F2 x (p.toInt8.toInt32)).toUInt64 >>> ((((8 : Int32) * (2 : Int32)) + (7 : Int32)) &&& 0x3f).toInt64.toUInt64).toInt64) = A at *
    have m := c_maskL A 1 1 (by decide) (by decide)
    rw [if_pos]
    rw [← Int64.toInt_inj]
    have e1 : (1 : Int64).toInt = 1 := by decide
    generalize (F2 x (p.toInt8.toInt32)).toBitVec.toNat / 2 ^ 23 = V at *
    omega
theorem own_t_3 (x : Int64) (b : Int32) (z : own_Y x b / 16777216 % 256 = 0) : (F2 x b).toBitVec.getLsbD 31 = true := by
  have h := own_n1_3 _ (own_Ylt x b) z
  rw [own_bit x b 31 (by decide), decide_eq_true h.1, decide_eq_false (show ¬ own_Y x b / 2 ^ 31 % 2 = 1 by omega)]
  rfl
theorem own_f_3 (x : Int64) (b : Int32) (z0 : ¬ own_Y x b / 1 % 256 = 0) (z1 : ¬ own_Y x b / 256 % 256 = 0) (z2 : ¬ own_Y x b / 65536 % 256 = 0) (z3 : ¬ own_Y x b / 16777216 % 256 = 0) : (F2 x b).toBitVec.getLsbD 31 = false := by
  have h := own_n2_3 _ (own_Ylt x b) z0 z1 z2 z3
  rw [own_bit x b 31 (by decide)]
  by_cases h1 : (18446744073709551616 - 72340172838076673 + own_Y x b) % 18446744073709551616 / 2 ^ 31 % 2 = 1
  · rw [decide_eq_true (show own_Y x b / 2 ^ 31 % 2 = 1 by omega)]; simp
  · rw [decide_eq_false h1]; simp
theorem own_cov_3 (x : Int64) (p : Int32) : F3 x (F2 x (p.toInt8.toInt32)) (p.toInt8.toInt32) (3 : Int32) = 1 := by
  unfold F3
  by_cases h : F4 x (p.toInt8.toInt32) (3 : Int32) = 0
  · rw [if_pos h]
  · rw [if_neg h]
    have z : own_Y x (p.toInt8.toInt32) / 16777216 % 256 = 0 := by
      by_cases c : own_Y x (p.toInt8.toInt32) / 16777216 % 256 = 0
      · exact c
      · exact absurd ((own_F4_3 x p).mpr c) h
    have t := own_t_3 x _ z
    have hs := own_sh (F2 x (p.toInt8.toInt32)) (((8 : Int32) * (3 : Int32)) + (7 : Int32)) 31 (by decide)
    have tt : (F2 x (p.toInt8.toInt32)).toBitVec.toNat / 2 ^ 31 % 2 = 1 := by
      have : Nat.testBit (F2 x (p.toInt8.toInt32)).toBitVec.toNat 31 = true := t
      rw [Nat.testBit_eq_decide_div_mod_eq] at this
      exact of_decide_eq_true this
    generalize (((F2 x (p.toInt8.toInt32)).toUInt64 >>> ((((8 : Int32) * (3 : Int32)) + (7 : Int32)) &&& 0x3f).toInt64.toUInt64).toInt64) = A at *
    have m := c_maskL A 1 1 (by decide) (by decide)
    rw [if_pos]
    rw [← Int64.toInt_inj]
    have e1 : (1 : Int64).toInt = 1 := by decide
    generalize (F2 x (p.toInt8.toInt32)).toBitVec.toNat / 2 ^ 31 = V at *
    omega
theorem own_t_4 (x : Int64) (b : Int32) (z : own_Y x b / 4294967296 % 256 = 0) : (F2 x b).toBitVec.getLsbD 39 = true := by
  have h := own_n1_4 _ (own_Ylt x b) z
  rw [own_bit x b 39 (by decide), decide_eq_true h.1, decide_eq_false (show ¬ own_Y x b / 2 ^ 39 % 2 = 1 by omega)]
  rfl
theorem own_f_4 (x : Int64) (b : Int32) (z0 : ¬ own_Y x b / 1 % 256 = 0) (z1 : ¬ own_Y x b / 256 % 256 = 0) (z2 : ¬ own_Y x b / 65536 % 256 = 0) (z3 : ¬ own_Y x b / 16777216 % 256 = 0) (z4 : ¬ own_Y x b / 4294967296 % 256 = 0) : (F2 x b).toBitVec.getLsbD 39 = false := by
  have h := own_n2_4 _ (own_Ylt x b) z0 z1 z2 z3 z4
  rw [own_bit x b 39 (by decide)]
  by_cases h1 : (18446744073709551616 - 72340172838076673 + own_Y x b) % 18446744073709551616 / 2 ^ 39 % 2 = 1
  · rw [decide_eq_true (show own_Y x b / 2 ^ 39 % 2 = 1 by omega)]; simp
  · rw [decide_eq_false h1]; simp
theorem own_cov_4 (x : Int64) (p : Int32) : F3 x (F2 x (p.toInt8.toInt32)) (p.toInt8.toInt32) (4 : Int32) = 1 := by
  unfold F3
  by_cases h : F4 x (p.toInt8.toInt32) (4 : Int32) = 0
  · rw [if_pos h]
  · rw [if_neg h]
    have z : own_Y x (p.toInt8.toInt32) / 4294967296 % 256 = 0 := by
      by_cases c : own_Y x (p.toInt8.toInt32) / 4294967296 % 256 = 0
      · exact c
      · exact absurd ((own_F4_4 x p).mpr c) h
    have t := own_t_4 x _ z
    have hs := own_sh (F2 x (p.toInt8.toInt32)) (((8 : Int32) * (4 : Int32)) + (7 : Int32)) 39 (by decide)
    have tt : (F2 x (p.toInt8.toInt32)).toBitVec.toNat / 2 ^ 39 % 2 = 1 := by
      have : Nat.testBit (F2 x (p.toInt8.toInt32)).toBitVec.toNat 39 = true := t
      rw [Nat.testBit_eq_decide_div_mod_eq] at this
      exact of_decide_eq_true this
    generalize (((F2 x (p.toInt8.toInt32)).toUInt64 >>> ((((8 : Int32) * (4 : Int32)) + (7 : Int32)) &&& 0x3f).toInt64.toUInt64).toInt64) = A at *
    have m := c_maskL A 1 1 (by decide) (by decide)
    rw [if_pos]
    rw [← Int64.toInt_inj]
    have e1 : (1 : Int64).toInt = 1 := by decide
    generalize (F2 x (p.toInt8.toInt32)).toBitVec.toNat / 2 ^ 39 = V at *
    omega
theorem own_t_5 (x : Int64) (b : Int32) (z : own_Y x b / 1099511627776 % 256 = 0) : (F2 x b).toBitVec.getLsbD 47 = true := by
  have h := own_n1_5 _ (own_Ylt x b) z
  rw [own_bit x b 47 (by decide), decide_eq_true h.1, decide_eq_false (show ¬ own_Y x b / 2 ^ 47 % 2 = 1 by omega)]
  rfl
theorem own_f_5 (x : Int64) (b : Int32) (z0 : ¬ own_Y x b / 1 % 256 = 0) (z1 : ¬ own_Y x b / 256 % 256 = 0) (z2 : ¬ own_Y x b / 65536 % 256 = 0) (z3 : ¬ own_Y x b / 16777216 % 256 = 0) (z4 : ¬ own_Y x b / 4294967296 % 256 = 0) (z5 : ¬ own_Y x b / 1099511627776 % 256 = 0) : (F2 x b).toBitVec.getLsbD 47 = false := by
  have h := own_n2_5 _ (own_Ylt x b) z0 z1 z2 z3 z4 z5
  rw [own_bit x b 47 (by decide)]
  by_cases h1 : (18446744073709551616 - 72340172838076673 + own_Y x b) % 18446744073709551616 / 2 ^ 47 % 2 = 1
  · rw [decide_eq_true (show own_Y x b / 2 ^ 47 % 2 = 1 by omega)]; simp
  · rw [decide_eq_false h1]; simp
theorem own_cov_5 (x : Int64) (p : Int32) : F3 x (F2 x (p.toInt8.toInt32)) (p.toInt8.toInt32) (5 : Int32) = 1 := by
  unfold F3
  by_cases h : F4 x (p.toInt8.toInt32) (5 : Int32) = 0
  · rw [if_pos h]
  · rw [if_neg h]
    have z : own_Y x (p.toInt8.toInt32) / 1099511627776 % 256 = 0 := by
      by_cases c : own_Y x (p.toInt8.toInt32) / 1099511627776 % 256 = 0
      · exact c
      · exact absurd ((own_F4_5 x p).mpr c) h
    have t := own_t_5 x _ z
    have hs := own_sh (F2 x (p.toInt8.toInt32)) (((8 : Int32) * (5 : Int32)) + (7 : Int32)) 47 (by decide)
    have tt : (F2 x (p.toInt8.toInt32)).toBitVec.toNat / 2 ^ 47 % 2 = 1 := by
      have : Nat.testBit (F2 x (p.toInt8.toInt32)).toBitVec.toNat 47 = true := t
      rw [Nat.testBit_eq_decide_div_mod_eq] at this
      exact of_decide_eq_true this
    generalize (((F2 x (p.toInt8.toInt32)).toUInt64 >>> ((((8 : Int32) * (5 : Int32)) + (7 : Int32)) &&& 0x3f).toInt64.toUInt64).toInt64) = A at *
    have m := c_maskL A 1 1 (by decide) (by decide)
    rw [if_pos]
    rw [← Int64.toInt_inj]
    have e1 : (1 : Int64).toInt = 1 := by decide
    generalize (F2 x (p.toInt8.toInt32)).toBitVec.toNat / 2 ^ 47 = V at *
    omega
theorem own_t_6 (x : Int64) (b : Int32) (z : own_Y x b / 281474976710656 % 256 = 0) : (F2 x b).toBitVec.getLsbD 55 = true := by
  have h := own_n1_6 _ (own_Ylt x b) z
  rw [own_bit x b 55 (by decide), decide_eq_true h.1, decide_eq_false (show ¬ own_Y x b / 2 ^ 55 % 2 = 1 by omega)]
  rfl
theorem own_f_6 (x : Int64) (b : Int32) (z0 : ¬ own_Y x b / 1 % 256 = 0) (z1 : ¬ own_Y x b / 256 % 256 = 0) (z2 : ¬ own_Y x b / 65536 % 256 = 0) (z3 : ¬ own_Y x b / 16777216 % 256 = 0) (z4 : ¬ own_Y x b / 4294967296 % 256 = 0) (z5 : ¬ own_Y x b / 1099511627776 % 256 = 0) (z6 : ¬ own_Y x b / 281474976710656 % 256 = 0) : (F2 x b).toBitVec.getLsbD 55 = false := by
  have h := own_n2_6 _ (own_Ylt x b) z0 z1 z2 z3 z4 z5 z6
  rw [own_bit x b 55 (by decide)]
  by_cases h1 : (18446744073709551616 - 72340172838076673 + own_Y x b) % 18446744073709551616 / 2 ^ 55 % 2 = 1
  · rw [decide_eq_true (show own_Y x b / 2 ^ 55 % 2 = 1 by omega)]; simp
  · rw [decide_eq_false h1]; simp
theorem own_cov_6 (x : Int64) (p : Int32) : F3 x (F2 x (p.toInt8.toInt32)) (p.toInt8.toInt32) (6 : Int32) = 1 := by
  unfold F3
  by_cases h : F4 x (p.toInt8.toInt32) (6 : Int32) = 0
  · rw [if_pos h]
  · rw [if_neg h]
    have z : own_Y x (p.toInt8.toInt32) / 281474976710656 % 256 = 0 := by
      by_cases c : own_Y x (p.toInt8.toInt32) / 281474976710656 % 256 = 0
      · exact c
      · exact absurd ((own_F4_6 x p).mpr c) h
    have t := own_t_6 x _ z
    have hs := own_sh (F2 x (p.toInt8.toInt32)) (((8 : Int32) * (6 : Int32)) + (7 : Int32)) 55 (by decide)
    have tt : (F2 x (p.toInt8.toInt32)).toBitVec.toNat / 2 ^ 55 % 2 = 1 := by
      have : Nat.testBit (F2 x (p.toInt8.toInt32)).toBitVec.toNat 55 = true := t
      rw [Nat.testBit_eq_decide_div_mod_eq] at this
      exact of_decide_eq_true this
    generalize (((F2 x (p.toInt8.toInt32)).toUInt64 >>> ((((8 : Int32) * (6 : Int32)) + (7 : Int32)) &&& 0x3f).toInt64.toUInt64).toInt64) = A at *
    have m := c_maskL A 1 1 (by decide) (by decide)
    rw [if_pos]
    rw [← Int64.toInt_inj]
    have e1 : (1 : Int64).toInt = 1 := by decide
    generalize (F2 x (p.toInt8.toInt32)).toBitVec.toNat / 2 ^ 55 = V at *
    omega
theorem own_t_7 (x : Int64) (b : Int32) (z : own_Y x b / 72057594037927936 % 256 = 0) : (F2 x b).toBitVec.getLsbD 63 = true := by
  have h := own_n1_7 _ (own_Ylt x b) z
  rw [own_bit x b 63 (by decide), decide_eq_true h.1, decide_eq_false (show ¬ own_Y x b / 2 ^ 63 % 2 = 1 by omega)]
  rfl
theorem own_f_7 (x : Int64) (b : Int32) (z0 : ¬ own_Y x b / 1 % 256 = 0) (z1 : ¬ own_Y x b / 256 % 256 = 0) (z2 : ¬ own_Y x b / 65536 % 256 = 0) (z3 : ¬ own_Y x b / 16777216 % 256 = 0) (z4 : ¬ own_Y x b / 4294967296 % 256 = 0) (z5 : ¬ own_Y x b / 1099511627776 % 256 = 0) (z6 : ¬ own_Y x b / 281474976710656 % 256 = 0) (z7 : ¬ own_Y x b / 72057594037927936 % 256 = 0) : (F2 x b).toBitVec.getLsbD 63 = false := by
  have h := own_n2_7 _ (own_Ylt x b) z0 z1 z2 z3 z4 z5 z6 z7
  rw [own_bit x b 63 (by decide)]
  by_cases h1 : (18446744073709551616 - 72340172838076673 + own_Y x b) % 18446744073709551616 / 2 ^ 63 % 2 = 1
  · rw [decide_eq_true (show own_Y x b / 2 ^ 63 % 2 = 1 by omega)]; simp
  · rw [decide_eq_false h1]; simp
theorem own_cov_7 (x : Int64) (p : Int32) : F3 x (F2 x (p.toInt8.toInt32)) (p.toInt8.toInt32) (7 : Int32) = 1 := by
  unfold F3
  by_cases h : F4 x (p.toInt8.toInt32) (7 : Int32) = 0
  · rw [if_pos h]
  · rw [if_neg h]
    have z : own_Y x (p.toInt8.toInt32) / 72057594037927936 % 256 = 0 := by
      by_cases c : own_Y x (p.toInt8.toInt32) / 72057594037927936 % 256 = 0
      · exact c
      · exact absurd ((own_F4_7 x p).mpr c) h
    have t := own_t_7 x _ z
    have hs := own_sh (F2 x (p.toInt8.toInt32)) (((8 : Int32) * (7 : Int32)) + (7 : Int32)) 63 (by decide)
    have tt : (F2 x (p.toInt8.toInt32)).toBitVec.toNat / 2 ^ 63 % 2 = 1 := by
      have : Nat.testBit (F2 x (p.toInt8.toInt32)).toBitVec.toNat 63 = true := t
      rw [Nat.testBit_eq_decide_div_mod_eq] at this
      exact of_decide_eq_true this
    generalize (((F2 x (p.toInt8.toInt32)).toUInt64 >>> ((((8 : Int32) * (7 : Int32)) + (7 : Int32)) &&& 0x3f).toInt64.toUInt64).toInt64) = A at *
    have m := c_maskL A 1 1 (by decide) (by decide)
    rw [if_pos]
    rw [← Int64.toInt_inj]
    have e1 : (1 : Int64).toInt = 1 := by decide
    generalize (F2 x (p.toInt8.toInt32)).toBitVec.toNat / 2 ^ 63 = V at *
    omega
theorem own_low_0 (x : Int64) (b : Int32)  (z0 : own_Y x b / 1 % 256 = 0) : (F2 x b &&& (((1 : Int64) <<< ((((8 : Int32) * (0 : Int32)) + (8 : Int32)) &&& 0x3f).toInt64) - (1 : Int64))) = ((128 : Int64) <<< (((8 : Int32) * (0 : Int32)) &&& 0x3f).toInt64) := by
  have e1 : (((1 : Int64) <<< ((((8 : Int32) * (0 : Int32)) + (8 : Int32)) &&& 0x3f).toInt64) - (1 : Int64)) = (255 : Int64) := by decide
  have e2 : ((128 : Int64) <<< (((8 : Int32) * (0 : Int32)) &&& 0x3f).toInt64) = (128 : Int64) := by decide
  have hl : ∀ k : Fin 64, (0xff#64).getLsbD k.val = decide (k.val < 8) := by decide +kernel
  have ht : ∀ k : Fin 64, (0x80#64).getLsbD k.val = decide (k.val = 7) := by decide +kernel
  rw [e1, e2, ← Int64.toBitVec_inj]
  show (F2 x b).toBitVec &&& 0xff#64 = 0x80#64
  apply BitVec.eq_of_getLsbD_eq
  intro k hk
  have q := hl ⟨k, hk⟩
  have r := ht ⟨k, hk⟩
  simp only at q r
  rw [BitVec.getLsbD_and, q, r]
  have c : ¬ k % 8 = 7 ∨ k = 7 ∨ k = 15 ∨ k = 23 ∨ k = 31 ∨ k = 39 ∨ k = 47 ∨ k = 55 ∨ k = 63 := by omega
  rcases c with c | rfl | rfl | rfl | rfl | rfl | rfl | rfl | rfl
  · rw [own_off x b k hk c, decide_eq_false (show ¬ k = 7 by omega)]; rfl
  · rw [own_t_0 x b z0]; rfl
  · rw [decide_eq_false (show ¬ 15 < 8 by decide)]; simp
  · rw [decide_eq_false (show ¬ 23 < 8 by decide)]; simp
  · rw [decide_eq_false (show ¬ 31 < 8 by decide)]; simp
  · rw [decide_eq_false (show ¬ 39 < 8 by decide)]; simp
  · rw [decide_eq_false (show ¬ 47 < 8 by decide)]; simp
  · rw [decide_eq_false (show ¬ 55 < 8 by decide)]; simp
  · rw [decide_eq_false (show ¬ 63 < 8 by decide)]; simp
theorem own_low_1 (x : Int64) (b : Int32) (z0 : ¬ own_Y x b / 1 % 256 = 0) (z1 : own_Y x b / 256 % 256 = 0) : (F2 x b &&& (((1 : Int64) <<< ((((8 : Int32) * (1 : Int32)) + (8 : Int32)) &&& 0x3f).toInt64) - (1 : Int64))) = ((128 : Int64) <<< (((8 : Int32) * (1 : Int32)) &&& 0x3f).toInt64) := by
  have e1 : (((1 : Int64) <<< ((((8 : Int32) * (1 : Int32)) + (8 : Int32)) &&& 0x3f).toInt64) - (1 : Int64)) = (65535 : Int64) := by decide
  have e2 : ((128 : Int64) <<< (((8 : Int32) * (1 : Int32)) &&& 0x3f).toInt64) = (32768 : Int64) := by decide
  have hl : ∀ k : Fin 64, (0xffff#64).getLsbD k.val = decide (k.val < 16) := by decide +kernel
  have ht : ∀ k : Fin 64, (0x8000#64).getLsbD k.val = decide (k.val = 15) := by decide +kernel
  rw [e1, e2, ← Int64.toBitVec_inj]
  show (F2 x b).toBitVec &&& 0xffff#64 = 0x8000#64
  apply BitVec.eq_of_getLsbD_eq
  intro k hk
  have q := hl ⟨k, hk⟩
  have r := ht ⟨k, hk⟩
  simp only at q r
  rw [BitVec.getLsbD_and, q, r]
  have c : ¬ k % 8 = 7 ∨ k = 7 ∨ k = 15 ∨ k = 23 ∨ k = 31 ∨ k = 39 ∨ k = 47 ∨ k = 55 ∨ k = 63 := by omega
  rcases c with c | rfl | rfl | rfl | rfl | rfl | rfl | rfl | rfl
  · rw [own_off x b k hk c, decide_eq_false (show ¬ k = 15 by omega)]; rfl
  · rw [own_f_0 x b z0]; rfl
  · rw [own_t_1 x b z1]; rfl
  · rw [decide_eq_false (show ¬ 23 < 16 by decide)]; simp
  · rw [decide_eq_false (show ¬ 31 < 16 by decide)]; simp
  · rw [decide_eq_false (show ¬ 39 < 16 by decide)]; simp
  · rw [decide_eq_false (show ¬ 47 < 16 by decide)]; simp
  · rw [decide_eq_false (show ¬ 55 < 16 by decide)]; simp
  · rw [decide_eq_false (show ¬ 63 < 16 by decide)]; simp
theorem own_low_2 (x : Int64) (b : Int32) (z0 : ¬ own_Y x b / 1 % 256 = 0) (z1 : ¬ own_Y x b / 256 % 256 = 0) (z2 : own_Y x b / 65536 % 256 = 0) : (F2 x b &&& (((1 : Int64) <<< ((((8 : Int32) * (2 : Int32)) + (8 : Int32)) &&& 0x3f).toInt64) - (1 : Int64))) = ((128 : Int64) <<< (((8 : Int32) * (2 : Int32)) &&& 0x3f).toInt64) := by
  have e1 : (((1 : Int64) <<< ((((8 : Int32) * (2 : Int32)) + (8 : Int32)) &&& 0x3f).toInt64) - (1 : Int64)) = (16777215 : Int64) := by decide
  have e2 : ((128 : Int64) <<< (((8 : Int32) * (2 : Int32)) &&& 0x3f).toInt64) = (8388608 : Int64) := by decide
  have hl : ∀ k : Fin 64, (0xffffff#64).getLsbD k.val = decide (k.val < 24) := by decide +kernel
  have ht : ∀ k : Fin 64, (0x800000#64).getLsbD k.val = decide (k.val = 23) := by decide +kernel
  rw [e1, e2, ← Int64.toBitVec_inj]
  show (F2 x b).toBitVec &&& 0xffffff#64 = 0x800000#64
  apply BitVec.eq_of_getLsbD_eq
  intro k hk
  have q := hl ⟨k, hk⟩
  have r := ht ⟨k, hk⟩
  simp only at q r
  rw [BitVec.getLsbD_and, q, r]
  have c : ¬ k % 8 = 7 ∨ k = 7 ∨ k = 15 ∨ k = 23 ∨ k = 31 ∨ k = 39 ∨ k = 47 ∨ k = 55 ∨ k = 63 := by omega
  rcases c with c | rfl | rfl | rfl | rfl | rfl | rfl | rfl | rfl
  · rw [own_off x b k hk c, decide_eq_false (show ¬ k = 23 by omega)]; rfl
  · rw [own_f_0 x b z0]; rfl
  · rw [own_f_1 x b z0 z1]; rfl
  · rw [own_t_2 x b z2]; rfl
  · rw [decide_eq_false (show ¬ 31 < 24 by decide)]; simp
  · rw [decide_eq_false (show ¬ 39 < 24 by decide)]; simp
  · rw [decide_eq_false (show ¬ 47 < 24 by decide)]; simp
  · rw [decide_eq_false (show ¬ 55 < 24 by decide)]; simp
  · rw [decide_eq_false (show ¬ 63 < 24 by decide)]; simp
theorem own_low_3 (x : Int64) (b : Int32) (z0 : ¬ own_Y x b / 1 % 256 = 0) (z1 : ¬ own_Y x b / 256 % 256 = 0) (z2 : ¬ own_Y x b / 65536 % 256 = 0) (z3 : own_Y x b / 16777216 % 256 = 0) : (F2 x b &&& (((1 : Int64) <<< ((((8 : Int32) * (3 : Int32)) + (8 : Int32)) &&& 0x3f).toInt64) - (1 : Int64))) = ((128 : Int64) <<< (((8 : Int32) * (3 : Int32)) &&& 0x3f).toInt64) := by
  have e1 : (((1 : Int64) <<< ((((8 : Int32) * (3 : Int32)) + (8 : Int32)) &&& 0x3f).toInt64) - (1 : Int64)) = (4294967295 : Int64) := by decide
  have e2 : ((128 : Int64) <<< (((8 : Int32) * (3 : Int32)) &&& 0x3f).toInt64) = (2147483648 : Int64) := by decide
  have hl : ∀ k : Fin 64, (0xffffffff#64).getLsbD k.val = decide (k.val < 32) := by decide +kernel
  have ht : ∀ k : Fin 64, (0x80000000#64).getLsbD k.val = decide (k.val = 31) := by decide +kernel
  rw [e1, e2, ← Int64.toBitVec_inj]
  show (F2 x b).toBitVec &&& 0xffffffff#64 = 0x80000000#64
  apply BitVec.eq_of_getLsbD_eq
  intro k hk
  have q := hl ⟨k, hk⟩
  have r := ht ⟨k, hk⟩
  simp only at q r
  rw [BitVec.getLsbD_and, q, r]
  have c : ¬ k % 8 = 7 ∨ k = 7 ∨ k = 15 ∨ k = 23 ∨ k = 31 ∨ k = 39 ∨ k = 47 ∨ k = 55 ∨ k = 63 := by omega
  rcases c with c | rfl | rfl | rfl | rfl | rfl | rfl | rfl | rfl
  · rw [own_off x b k hk c, decide_eq_false (show ¬ k = 31 by omega)]; rfl
  · rw [own_f_0 x b z0]; rfl
  · rw [own_f_1 x b z0 z1]; rfl
  · rw [own_f_2 x b z0 z1 z2]; rfl
  · rw [own_t_3 x b z3]; rfl
  · rw [decide_eq_false (show ¬ 39 < 32 by decide)]; simp
  · rw [decide_eq_false (show ¬ 47 < 32 by decide)]; simp
  · rw [decide_eq_false (show ¬ 55 < 32 by decide)]; simp
  · rw [decide_eq_false (show ¬ 63 < 32 by decide)]; simp
theorem own_low_4 (x : Int64) (b : Int32) (z0 : ¬ own_Y x b / 1 % 256 = 0) (z1 : ¬ own_Y x b / 256 % 256 = 0) (z2 : ¬ own_Y x b / 65536 % 256 = 0) (z3 : ¬ own_Y x b / 16777216 % 256 = 0) (z4 : own_Y x b / 4294967296 % 256 = 0) : (F2 x b &&& (((1 : Int64) <<< ((((8 : Int32) * (4 : Int32)) + (8 : Int32)) &&& 0x3f).toInt64) - (1 : Int64))) = ((128 : Int64) <<< (((8 : Int32) * (4 : Int32)) &&& 0x3f).toInt64) := by
  have e1 : (((1 : Int64) <<< ((((8 : Int32) * (4 : Int32)) + (8 : Int32)) &&& 0x3f).toInt64) - (1 : Int64)) = (1099511627775 : Int64) := by decide
  have e2 : ((128 : Int64) <<< (((8 : Int32) * (4 : Int32)) &&& 0x3f).toInt64) = (549755813888 : Int64) := by decide
  have hl : ∀ k : Fin 64, (0xffffffffff#64).getLsbD k.val = decide (k.val < 40) := by decide +kernel
  have ht : ∀ k : Fin 64, (0x8000000000#64).getLsbD k.val = decide (k.val = 39) := by decide +kernel
  rw [e1, e2, ← Int64.toBitVec_inj]
  show (F2 x b).toBitVec &&& 0xffffffffff#64 = 0x8000000000#64
  apply BitVec.eq_of_getLsbD_eq
  intro k hk
  have q := hl ⟨k, hk⟩
  have r := ht ⟨k, hk⟩
  simp only at q r
  rw [BitVec.getLsbD_and, q, r]
  have c : ¬ k % 8 = 7 ∨ k = 7 ∨ k = 15 ∨ k = 23 ∨ k = 31 ∨ k = 39 ∨ k = 47 ∨ k = 55 ∨ k = 63 := by omega
  rcases c with c | rfl | rfl | rfl | rfl | rfl | rfl | rfl | rfl
  · rw [own_off x b k hk c, decide_eq_false (show ¬ k = 39 by omega)]; rfl
  · rw [own_f_0 x b z0]; rfl
  · rw [own_f_1 x b z0 z1]; rfl
  · rw [own_f_2 x b z0 z1 z2]; rfl
  · rw [own_f_3 x b z0 z1 z2 z3]; rfl
  · rw [own_t_4 x b z4]; rfl
  · rw [decide_eq_false (show ¬ 47 < 40 by decide)]; simp
  · rw [decide_eq_false (show ¬ 55 < 40 by decide)]; simp
  · rw [decide_eq_false (show ¬ 63 < 40 by decide)]; simp
theorem own_low_5 (x : Int64) (b : Int32) (z0 : ¬ own_Y x b / 1 % 256 = 0) (z1 : ¬ own_Y x b / 256 % 256 = 0) (z2 : ¬ own_Y x b / 65536 % 256 = 0) (z3 : ¬ own_Y x b / 16777216 % 256 = 0) (z4 : ¬ own_Y x b / 4294967296 % 256 = 0) (z5 : own_Y x b / 1099511627776 % 256 = 0) : (F2 x b &&& (((1 : Int64) <<< ((((8 : Int32) * (5 : Int32)) + (8 : Int32)) &&& 0x3f).toInt64) - (1 : Int64))) = ((128 : Int64) <<< (((8 : Int32) * (5 : Int32)) &&& 0x3f).toInt64) := by
  have e1 : (((1 : Int64) <<< ((((8 : Int32) * (5 : Int32)) + (8 : Int32)) &&& 0x3f).toInt64) - (1 : Int64)) = (281474976710655 : Int64) := by decide
  have e2 : ((128 : Int64) <<< (((8 : Int32) * (5 : Int32)) &&& 0x3f).toInt64) = (140737488355328 : Int64) := by decide
  have hl : ∀ k : Fin 64, (0xffffffffffff#64).getLsbD k.val = decide (k.val < 48) := by decide +kernel
  have ht : ∀ k : Fin 64, (0x800000000000#64).getLsbD k.val = decide (k.val = 47) := by decide +kernel
  rw [e1, e2, ← Int64.toBitVec_inj]
  show (F2 x b).toBitVec &&& 0xffffffffffff#64 = 0x800000000000#64
  apply BitVec.eq_of_getLsbD_eq
  intro k hk
  have q := hl ⟨k, hk⟩
  have r := ht ⟨k, hk⟩
  simp only at q r
  rw [BitVec.getLsbD_and, q, r]
  have c : ¬ k % 8 = 7 ∨ k = 7 ∨ k = 15 ∨ k = 23 ∨ k = 31 ∨ k = 39 ∨ k = 47 ∨ k = 55 ∨ k = 63 := by omega
  rcases c with c | rfl | rfl | rfl | rfl | rfl | rfl | rfl | rfl
  · rw [own_off x b k hk c, decide_eq_false (show ¬ k = 47 by omega)]; rfl
  · rw [own_f_0 x b z0]; rfl
  · rw [own_f_1 x b z0 z1]; rfl
  · rw [own_f_2 x b z0 z1 z2]; rfl
  · rw [own_f_3 x b z0 z1 z2 z3]; rfl
  · rw [own_f_4 x b z0 z1 z2 z3 z4]; rfl
  · rw [own_t_5 x b z5]; rfl
  · rw [decide_eq_false (show ¬ 55 < 48 by decide)]; simp
  · rw [decide_eq_false (show ¬ 63 < 48 by decide)]; simp
theorem own_low_6 (x : Int64) (b : Int32) (z0 : ¬ own_Y x b / 1 % 256 = 0) (z1 : ¬ own_Y x b / 256 % 256 = 0) (z2 : ¬ own_Y x b / 65536 % 256 = 0) (z3 : ¬ own_Y x b / 16777216 % 256 = 0) (z4 : ¬ own_Y x b / 4294967296 % 256 = 0) (z5 : ¬ own_Y x b / 1099511627776 % 256 = 0) (z6 : own_Y x b / 281474976710656 % 256 = 0) : (F2 x b &&& (((1 : Int64) <<< ((((8 : Int32) * (6 : Int32)) + (8 : Int32)) &&& 0x3f).toInt64) - (1 : Int64))) = ((128 : Int64) <<< (((8 : Int32) * (6 : Int32)) &&& 0x3f).toInt64) := by
  have e1 : (((1 : Int64) <<< ((((8 : Int32) * (6 : Int32)) + (8 : Int32)) &&& 0x3f).toInt64) - (1 : Int64)) = (72057594037927935 : Int64) := by decide
  have e2 : ((128 : Int64) <<< (((8 : Int32) * (6 : Int32)) &&& 0x3f).toInt64) = (36028797018963968 : Int64) := by decide
  have hl : ∀ k : Fin 64, (0xffffffffffffff#64).getLsbD k.val = decide (k.val < 56) := by decide +kernel
  have ht : ∀ k : Fin 64, (0x80000000000000#64).getLsbD k.val = decide (k.val = 55) := by decide +kernel
  rw [e1, e2, ← Int64.toBitVec_inj]
  show (F2 x b).toBitVec &&& 0xffffffffffffff#64 = 0x80000000000000#64
  apply BitVec.eq_of_getLsbD_eq
  intro k hk
  have q := hl ⟨k, hk⟩
  have r := ht ⟨k, hk⟩
  simp only at q r
  rw [BitVec.getLsbD_and, q, r]
  have c : ¬ k % 8 = 7 ∨ k = 7 ∨ k = 15 ∨ k = 23 ∨ k = 31 ∨ k = 39 ∨ k = 47 ∨ k = 55 ∨ k = 63 := by omega
  rcases c with c | rfl | rfl | rfl | rfl | rfl | rfl | rfl | rfl
  · rw [own_off x b k hk c, decide_eq_false (show ¬ k = 55 by omega)]; rfl
  · rw [own_f_0 x b z0]; rfl
  · rw [own_f_1 x b z0 z1]; rfl
  · rw [own_f_2 x b z0 z1 z2]; rfl
  · rw [own_f_3 x b z0 z1 z2 z3]; rfl
  · rw [own_f_4 x b z0 z1 z2 z3 z4]; rfl
  · rw [own_f_5 x b z0 z1 z2 z3 z4 z5]; rfl
  · rw [own_t_6 x b z6]; rfl
  · rw [decide_eq_false (show ¬ 63 < 56 by decide)]; simp
theorem own_low_7 (x : Int64) (b : Int32) (z0 : ¬ own_Y x b / 1 % 256 = 0) (z1 : ¬ own_Y x b / 256 % 256 = 0) (z2 : ¬ own_Y x b / 65536 % 256 = 0) (z3 : ¬ own_Y x b / 16777216 % 256 = 0) (z4 : ¬ own_Y x b / 4294967296 % 256 = 0) (z5 : ¬ own_Y x b / 1099511627776 % 256 = 0) (z6 : ¬ own_Y x b / 281474976710656 % 256 = 0) (z7 : own_Y x b / 72057594037927936 % 256 = 0) : (F2 x b &&& (-1 : Int64)) = ((128 : Int64) <<< (((8 : Int32) * (7 : Int32)) &&& 0x3f).toInt64) := by
  have e1 : (-1 : Int64) = (-1 : Int64) := by decide
  have e2 : ((128 : Int64) <<< (((8 : Int32) * (7 : Int32)) &&& 0x3f).toInt64) = (-9223372036854775808 : Int64) := by decide
  have hl : ∀ k : Fin 64, (0xffffffffffffffff#64).getLsbD k.val = decide (k.val < 64) := by decide +kernel
  have ht : ∀ k : Fin 64, (0x8000000000000000#64).getLsbD k.val = decide (k.val = 63) := by decide +kernel
  rw [e1, e2, ← Int64.toBitVec_inj]
  show (F2 x b).toBitVec &&& 0xffffffffffffffff#64 = 0x8000000000000000#64
  apply BitVec.eq_of_getLsbD_eq
  intro k hk
  have q := hl ⟨k, hk⟩
  have r := ht ⟨k, hk⟩
  simp only at q r
  rw [BitVec.getLsbD_and, q, r]
  have c : ¬ k % 8 = 7 ∨ k = 7 ∨ k = 15 ∨ k = 23 ∨ k = 31 ∨ k = 39 ∨ k = 47 ∨ k = 55 ∨ k = 63 := by omega
  rcases c with c | rfl | rfl | rfl | rfl | rfl | rfl | rfl | rfl
  · rw [own_off x b k hk c, decide_eq_false (show ¬ k = 63 by omega)]; rfl
  · rw [own_f_0 x b z0]; rfl
  · rw [own_f_1 x b z0 z1]; rfl
  · rw [own_f_2 x b z0 z1 z2]; rfl
  · rw [own_f_3 x b z0 z1 z2 z3]; rfl
  · rw [own_f_4 x b z0 z1 z2 z3 z4]; rfl
  · rw [own_f_5 x b z0 z1 z2 z3 z4 z5]; rfl
  · rw [own_f_6 x b z0 z1 z2 z3 z4 z5 z6]; rfl
  · rw [own_t_7 x b z7]; rfl
theorem own_none (x : Int64) (b : Int32) (z0 : ¬ own_Y x b / 1 % 256 = 0) (z1 : ¬ own_Y x b / 256 % 256 = 0) (z2 : ¬ own_Y x b / 65536 % 256 = 0) (z3 : ¬ own_Y x b / 16777216 % 256 = 0) (z4 : ¬ own_Y x b / 4294967296 % 256 = 0) (z5 : ¬ own_Y x b / 1099511627776 % 256 = 0) (z6 : ¬ own_Y x b / 281474976710656 % 256 = 0) (z7 : ¬ own_Y x b / 72057594037927936 % 256 = 0) : F2 x b = 0 := by
  rw [← Int64.toBitVec_inj]
  show (F2 x b).toBitVec = 0#64
  apply BitVec.eq_of_getLsbD_eq
  intro k hk
  have c : ¬ k % 8 = 7 ∨ k = 7 ∨ k = 15 ∨ k = 23 ∨ k = 31 ∨ k = 39 ∨ k = 47 ∨ k = 55 ∨ k = 63 := by omega
  rcases c with c | rfl | rfl | rfl | rfl | rfl | rfl | rfl | rfl
  · rw [own_off x b k hk c]; simp
  · rw [own_f_0 x b z0]; rfl
  · rw [own_f_1 x b z0 z1]; rfl
  · rw [own_f_2 x b z0 z1 z2]; rfl
  · rw [own_f_3 x b z0 z1 z2 z3]; rfl
  · rw [own_f_4 x b z0 z1 z2 z3 z4]; rfl
  · rw [own_f_5 x b z0 z1 z2 z3 z4 z5]; rfl
  · rw [own_f_6 x b z0 z1 z2 z3 z4 z5 z6]; rfl
  · rw [own_f_7 x b z0 z1 z2 z3 z4 z5 z6 z7]; rfl
theorem own_24 (x : Int64) (p : Int32) : F0_24c (p.toInt8.toInt32) x = 1 := by
  unfold F0_24c
  rw [if_pos (own_msk x _)]
  rw [own_cov_0, if_neg (show ¬ (1 : Int32) = 0 by decide), own_cov_1, if_neg (show ¬ (1 : Int32) = 0 by decide), own_cov_2, if_neg (show ¬ (1 : Int32) = 0 by decide), own_cov_3, if_neg (show ¬ (1 : Int32) = 0 by decide), own_cov_4, if_neg (show ¬ (1 : Int32) = 0 by decide), own_cov_5, if_neg (show ¬ (1 : Int32) = 0 by decide), own_cov_6, if_neg (show ¬ (1 : Int32) = 0 by decide), own_cov_7, if_neg (show ¬ (1 : Int32) = 0 by decide)]
  unfold F0_165
  rw [if_neg (show ¬ (1 : Int32) = 0 by decide)]
  by_cases h0 : F4 x (p.toInt8.toInt32) (0 : Int32) = 0
  · have z0 := (own_F4_0 x p).mp h0
    by_cases h1 : F4 x (p.toInt8.toInt32) (1 : Int32) = 0
    · have z1 := (own_F4_1 x p).mp h1
      by_cases h2 : F4 x (p.toInt8.toInt32) (2 : Int32) = 0
      · have z2 := (own_F4_2 x p).mp h2
        by_cases h3 : F4 x (p.toInt8.toInt32) (3 : Int32) = 0
        · have z3 := (own_F4_3 x p).mp h3
          by_cases h4 : F4 x (p.toInt8.toInt32) (4 : Int32) = 0
          · have z4 := (own_F4_4 x p).mp h4
            by_cases h5 : F4 x (p.toInt8.toInt32) (5 : Int32) = 0
            · have z5 := (own_F4_5 x p).mp h5
              by_cases h6 : F4 x (p.toInt8.toInt32) (6 : Int32) = 0
              · have z6 := (own_F4_6 x p).mp h6
                by_cases h7 : F4 x (p.toInt8.toInt32) (7 : Int32) = 0
                · have z7 := (own_F4_7 x p).mp h7
                  have e : F5 x (p.toInt8.toInt32) = (-1 : Int32) := by unfold F5; rw [if_pos h0, if_pos h1, if_pos h2, if_pos h3, if_pos h4, if_pos h5, if_pos h6, if_pos h7]
                  rw [e, if_pos (show (-1 : Int32) < 0 by decide), if_pos (own_none x _ z0 z1 z2 z3 z4 z5 z6 z7)]
                · have z7 : own_Y x (p.toInt8.toInt32) / 72057594037927936 % 256 = 0 := by
                    by_cases c : own_Y x (p.toInt8.toInt32) / 72057594037927936 % 256 = 0
                    · exact c
                    · exact absurd ((own_F4_7 x p).mpr c) h7
                  have e : F5 x (p.toInt8.toInt32) = (7 : Int32) := by unfold F5; rw [if_pos h0, if_pos h1, if_pos h2, if_pos h3, if_pos h4, if_pos h5, if_pos h6, if_neg h7]
                  unfold F0_226
                  rw [e, if_neg (show ¬ (7 : Int32) < 0 by decide), if_pos rfl, if_pos (own_low_7 x _ z0 z1 z2 z3 z4 z5 z6 z7)]
              · have z6 : own_Y x (p.toInt8.toInt32) / 281474976710656 % 256 = 0 := by
                  by_cases c : own_Y x (p.toInt8.toInt32) / 281474976710656 % 256 = 0
                  · exact c
                  · exact absurd ((own_F4_6 x p).mpr c) h6
                have e : F5 x (p.toInt8.toInt32) = (6 : Int32) := by unfold F5; rw [if_pos h0, if_pos h1, if_pos h2, if_pos h3, if_pos h4, if_pos h5, if_neg h6]
                unfold F0_226
                rw [e, if_neg (show ¬ (6 : Int32) < 0 by decide), if_neg (show ¬ (6 : Int32) = 7 by decide), if_pos (own_low_6 x _ z0 z1 z2 z3 z4 z5 z6)]
            · have z5 : own_Y x (p.toInt8.toInt32) / 1099511627776 % 256 = 0 := by
                by_cases c : own_Y x (p.toInt8.toInt32) / 1099511627776 % 256 = 0
                · exact c
                · exact absurd ((own_F4_5 x p).mpr c) h5
              have e : F5 x (p.toInt8.toInt32) = (5 : Int32) := by unfold F5; rw [if_pos h0, if_pos h1, if_pos h2, if_pos h3, if_pos h4, if_neg h5]
              unfold F0_226
              rw [e, if_neg (show ¬ (5 : Int32) < 0 by decide), if_neg (show ¬ (5 : Int32) = 7 by decide), if_pos (own_low_5 x _ z0 z1 z2 z3 z4 z5)]
          · have z4 : own_Y x (p.toInt8.toInt32) / 4294967296 % 256 = 0 := by
              by_cases c : own_Y x (p.toInt8.toInt32) / 4294967296 % 256 = 0
              · exact c
              · exact absurd ((own_F4_4 x p).mpr c) h4
            have e : F5 x (p.toInt8.toInt32) = (4 : Int32) := by unfold F5; rw [if_pos h0, if_pos h1, if_pos h2, if_pos h3, if_neg h4]
            unfold F0_226
            rw [e, if_neg (show ¬ (4 : Int32) < 0 by decide), if_neg (show ¬ (4 : Int32) = 7 by decide), if_pos (own_low_4 x _ z0 z1 z2 z3 z4)]
        · have z3 : own_Y x (p.toInt8.toInt32) / 16777216 % 256 = 0 := by
            by_cases c : own_Y x (p.toInt8.toInt32) / 16777216 % 256 = 0
            · exact c
            · exact absurd ((own_F4_3 x p).mpr c) h3
          have e : F5 x (p.toInt8.toInt32) = (3 : Int32) := by unfold F5; rw [if_pos h0, if_pos h1, if_pos h2, if_neg h3]
          unfold F0_226
          rw [e, if_neg (show ¬ (3 : Int32) < 0 by decide), if_neg (show ¬ (3 : Int32) = 7 by decide), if_pos (own_low_3 x _ z0 z1 z2 z3)]
      · have z2 : own_Y x (p.toInt8.toInt32) / 65536 % 256 = 0 := by
          by_cases c : own_Y x (p.toInt8.toInt32) / 65536 % 256 = 0
          · exact c
          · exact absurd ((own_F4_2 x p).mpr c) h2
        have e : F5 x (p.toInt8.toInt32) = (2 : Int32) := by unfold F5; rw [if_pos h0, if_pos h1, if_neg h2]
        unfold F0_226
        rw [e, if_neg (show ¬ (2 : Int32) < 0 by decide), if_neg (show ¬ (2 : Int32) = 7 by decide), if_pos (own_low_2 x _ z0 z1 z2)]
    · have z1 : own_Y x (p.toInt8.toInt32) / 256 % 256 = 0 := by
        by_cases c : own_Y x (p.toInt8.toInt32) / 256 % 256 = 0
        · exact c
        · exact absurd ((own_F4_1 x p).mpr c) h1
      have e : F5 x (p.toInt8.toInt32) = (1 : Int32) := by unfold F5; rw [if_pos h0, if_neg h1]
      unfold F0_226
      rw [e, if_neg (show ¬ (1 : Int32) < 0 by decide), if_neg (show ¬ (1 : Int32) = 7 by decide), if_pos (own_low_1 x _ z0 z1)]
  · have z0 : own_Y x (p.toInt8.toInt32) / 1 % 256 = 0 := by
      by_cases c : own_Y x (p.toInt8.toInt32) / 1 % 256 = 0
      · exact c
      · exact absurd ((own_F4_0 x p).mpr c) h0
    have e : F5 x (p.toInt8.toInt32) = (0 : Int32) := by unfold F5; rw [if_neg h0]
    unfold F0_226
    rw [e, if_neg (show ¬ (0 : Int32) < 0 by decide), if_neg (show ¬ (0 : Int32) = 7 by decide), if_pos (own_low_0 x _ z0)]
theorem own_law (a : Int64) (b c d : Int32) : F0 a b c d = 1 := own_24 _ b
set_option maxRecDepth 65536 in
set_option maxHeartbeats 40000000 in
theorem comes_1 {Post : Tables → Env → Array Value → State → Outcome → State → Prop} (hpost : ∀ tb e args s v u, (limb_1_1.after args s (.returned v) u = true ∧ limb_1_2.after args s (.returned v) u = true ∧ True) → FrameEnd s (.returned v) u (Jvm.fieldLocs frame_1_writes args s ++ Jvm.arrayLocs frame_1_arrays args s ++ Jvm.staticLocs frame_1_statics s) 0 0 → Post tb e args s (.returned v) u) :
    ArmFor flags0 classFile x code maxLocals ret World_1 tables_1 room_1 Calls_1 rest_1 Pre_1 Post := by
  intro l hfl _ _ p e ha hc hk s m args below hf hA hF happ hP
  obtain ⟨hcalls, hrest, hpre⟩ := hP
  obtain ⟨-, -, -, hnamed, -, -, -, hat⟩ := (Spec.applies_iff hf).mp happ
  obtain ⟨hg, hn⟩ := and_e (Cond.before_iff.mp (show (Jvm.Cond.and given_1 narrow_1).before args s = true from hpre))
  obtain ⟨g0, g1⟩ := and_e hg
  obtain ⟨a0, g2⟩ := and_e g1
  obtain ⟨a1, g3⟩ := and_e g2
  obtain ⟨a2, g4⟩ := and_e g3
  have a3 := g4
  obtain ⟨w0, w1, w2, w3, rfl⟩ : ∃ w0 w1 w2 w3 : Value, args = #[w0, w1, w2, w3] := by
    have hs : args.size = 4 := by simpa [Cond.value, given_1] using g0
    obtain ⟨L⟩ := args
    match L, hs with
    | [w0, w1, w2, w3], _ => exact ⟨w0, w1, w2, w3, rfl⟩
  have hw := fun d (hd : d ∈ tables_1) => atoms_spec (ws := Jvm.Cond.code x code maxLocals ret :: tables_1) hat d (List.mem_cons_of_mem _ hd)
  obtain ⟨i0, ei0⟩ := isL_v a0
  obtain rfl : w0 = (.long i0) := Option.some.inj ei0
  obtain ⟨i1, ei1⟩ := is_v a1
  obtain rfl : w1 = (.int i1) := Option.some.inj ei1
  obtain ⟨i2, ei2⟩ := is_v a2
  obtain rfl : w2 = (.int i2) := Option.some.inj ei2
  obtain ⟨i3, ei3⟩ := is_v a3
  obtain rfl : w3 = (.int i3) := Option.some.inj ei3
  obtain ⟨n, o, h1, h2, h3, _, L, rfl, ⟨rfl, N⟩, hq⟩ := rm0 l s _ hw tables_1 i0 i1 i2 i3 s.heap s.heap.size (Nat.le_refl _) p e ha hc hk s m _ below hf ((Spec.applies_iff_loose hf).mp happ).1 ⟨rfl, State.Warmed39.refl s, rfl⟩ trivial
  have hone : (F0 i0 i1 i2 i3) = 1 := own_law i0 i1 i2 i3
  refine ⟨n, _, h1, h2, h3, hpost _ _ _ _ _ _ ⟨Cond.after_iff.mpr rfl, Cond.after_iff.mpr (eq_i res_at (Term.int_eval (1)) (by rw [hone])), trivial⟩ ⟨hq.1, hq.2.1, (hq.2.2.sift fun y hy => Or.inr (N y hy)).mono (by decide) (by decide)⟩⟩
theorem main_1_1 : Claimed_1_1 := comes_1 fun _ _ _ _ _ _ h hF => ⟨h.1, hF⟩
theorem main_1_2 : Claimed_1_2 := comes_1 fun _ _ _ _ _ _ h hF => ⟨h.2.1, hF⟩
end Jvm.Pilot.@@N@@
namespace Jvm.Pilot.@@N@@
open Jvm Jvm.ClassFile Sem Op Lib Jvm.Free Jvm.Stand Jvm.Pilot.@@N@@.Jvm.D
/-! MADE BY PROGRAM (witnessworld.py) out of the Statement's table words and the real class files: 9 classes; the members and pool entries that the words name. The judged class is class 1, her method 1. -/
namespace start1
open Jvm.ClassFile
def u (s : String) : CpInfo := .utf8 (stringToUtf16 s)
/-- a pool by its gaps: so many unusable entries, then the entry; so many at the end -/
def gap : Nat → List CpInfo → List CpInfo
  | 0, r => r
  | n + 1, r => .unusable :: gap n r
def poolList (es : List (Nat × CpInfo)) (last : Nat) : List CpInfo := es.foldr (fun e r => gap e.1 (e.2 :: r)) (gap last [])
def pool (es : List (Nat × CpInfo)) (last : Nat) : Array CpInfo := ⟨poolList es last⟩
def fileOf (pool : Array CpInfo) (this : Nat) (attrs : Array Attribute := #[]) (ms : Array MethodInfo := #[]) (fl : Nat := 33) (sup : Nat := 0) (ifs : Array Nat := #[]) (fds : Array FieldInfo := #[]) : ClassFile where
  minorVersion := 0
  majorVersion := 65
  constantPool := pool
  accessFlags := fl
  thisClass := this
  superClass := sup
  interfaces := ifs
  fields := fds
  methods := ms
  attributes := attrs
def plain (name : String) (sup : Option ClassId) : Class where
  name := name
  kind := .ordinary
  loader := none
  accessFlags := 33
  super := sup
  interfaces := #[]
  cf := none
  fields := #[]
  methods := #[]
  instanceTypes := #[]
  staticTypes := #[]
  resolved := #[]
  callSites := []
  init := .initialized
  statics := none
  mirror := none

def pool0 : Array CpInfo := pool [(5, u "<init>"), (0, u "()V"), (1, .class_ 10), (1, u "java/lang/Object")] 113

def k0m0 : Method := { name := "<init>", desc := "()V", sig := { parameters := [], returnType := none }, accessFlags := 1, code := none }
/-- java/lang/Object -/
def k0 : Class := { plain "java/lang/Object" none with
  accessFlags := 33
  interfaces := #[]
  cf := some (fileOf pool0 8 #[] #[{ accessFlags := 1, nameIndex := 5, descriptorIndex := 6, attributes := #[] }] 33 0 #[] #[])
  fields := #[]
  methods := #[k0m0]
  instanceTypes := #[]
  staticTypes := #[]
  resolved := Array.replicate 124 none
  statics := none }

def pool1 : Array CpInfo := pool [(2, .class_ 4), (1, u "java/lang/Object"), (0, u "<init>"), (0, u "()V"), (0, .methodref 8 9), (0, .class_ 10), (0, .nameAndType 11 12), (0, u "com/example/tallyfold/tallyfold/BytesBytesOfPinLaw"), (0, u "plant"), (0, u "(JBI)J"), (0, .methodref 14 15), (0, .class_ 16), (0, .nameAndType 17 18), (0, u "com/example/tallyfold/tallyfold/Bytes"), (0, u "bytesOf"), (0, u "(JB)J"), (0, .long 9259542123273814144), (1, .long 18446744073709551615), (1, .methodref 8 24), (0, .nameAndType 25 26), (0, u "covers"), (0, u "(JJBI)Z"), (0, .methodref 8 28), (0, .nameAndType 29 30), (0, u "first"), (0, u "(JB)I"), (0, .long 128), (1, .long 255), (1, .methodref 8 36), (0, .nameAndType 37 38), (0, u "is"), (0, u "(JBI)Z"), (2, u "law"), (0, u "(JIII)Z")] 3

def k1m0 : Method := { name := "<init>", desc := "()V", sig := { parameters := [], returnType := none }, accessFlags := 1, code := none }
def k1c1 : Code := { maxStack := 6, maxLocals := 16, code := code, exceptionTable := #[], attributes := #[] }
def k1m1 : Method := { name := "law", desc := "(JIII)Z", sig := { parameters := [.long, .int, .int, .int], returnType := some .boolean }, accessFlags := 9, code := some k1c1 }
def k1c2 : Code := { maxStack := 6, maxLocals := 5, code := method_3_code, exceptionTable := #[], attributes := #[] }
def k1m2 : Method := { name := "plant", desc := "(JBI)J", sig := { parameters := [.long, .byte, .int], returnType := some .long }, accessFlags := 10, code := some k1c2 }
def k1c3 : Code := { maxStack := 4, maxLocals := 4, code := method_4_code, exceptionTable := #[], attributes := #[] }
def k1m3 : Method := { name := "is", desc := "(JBI)Z", sig := { parameters := [.long, .byte, .int], returnType := some .boolean }, accessFlags := 10, code := some k1c3 }
def k1c4 : Code := { maxStack := 4, maxLocals := 6, code := method_5_code, exceptionTable := #[], attributes := #[] }
def k1m4 : Method := { name := "covers", desc := "(JJBI)Z", sig := { parameters := [.long, .long, .byte, .int], returnType := some .boolean }, accessFlags := 10, code := some k1c4 }
def k1c5 : Code := { maxStack := 4, maxLocals := 3, code := method_6_code, exceptionTable := #[], attributes := #[] }
def k1m5 : Method := { name := "first", desc := "(JB)I", sig := { parameters := [.long, .byte], returnType := some .int }, accessFlags := 10, code := some k1c5 }
/-- com/example/tallyfold/tallyfold/BytesBytesOfPinLaw -/
def k1 : Class := { plain "com/example/tallyfold/tallyfold/BytesBytesOfPinLaw" (some 0) with
  accessFlags := 49
  interfaces := #[]
  cf := some (fileOf pool1 8 #[] #[{ accessFlags := 1, nameIndex := 5, descriptorIndex := 6, attributes := #[] }, { accessFlags := 9, nameIndex := 41, descriptorIndex := 42, attributes := #[] }, { accessFlags := 10, nameIndex := 11, descriptorIndex := 12, attributes := #[] }, { accessFlags := 10, nameIndex := 37, descriptorIndex := 38, attributes := #[] }, { accessFlags := 10, nameIndex := 25, descriptorIndex := 26, attributes := #[] }, { accessFlags := 10, nameIndex := 29, descriptorIndex := 30, attributes := #[] }] 49 2 #[] #[])
  fields := #[]
  methods := #[k1m0, k1m1, k1m2, k1m3, k1m4, k1m5]
  instanceTypes := #[]
  staticTypes := #[]
  resolved := Array.replicate 46 none
  statics := none }

def pool2 : Array CpInfo := pool [(2, .class_ 4), (1, u "java/lang/Object"), (0, u "<init>"), (0, u "()V"), (1, .class_ 10), (1, u "com/example/tallyfold/tallyfold/Bytes"), (0, u "array"), (0, u "[B"), (2, u "start"), (0, u "I"), (2, u "end"), (24, u "LONGS"), (0, u "Ljava/lang/invoke/VarHandle;"), (9, .long 72340172838076673), (1, .long 18446744073709551615), (1, .long 9259542123273814144), (33, u "LOW_BITS"), (0, u "J"), (1, u "HIGH_BITS"), (17, u "bytesOf"), (0, u "(JB)J")] 12

def k2m0 : Method := { name := "<init>", desc := "()V", sig := { parameters := [], returnType := none }, accessFlags := 0, code := none }
def k2c1 : Code := { maxStack := 6, maxLocals := 5, code := prog_1_method_15_code, exceptionTable := #[], attributes := #[] }
def k2m1 : Method := { name := "bytesOf", desc := "(JB)J", sig := { parameters := [.long, .byte], returnType := some .long }, accessFlags := 8, code := some k2c1 }
/-- com/example/tallyfold/tallyfold/Bytes -/
def k2 : Class := { plain "com/example/tallyfold/tallyfold/Bytes" (some 0) with
  accessFlags := 48
  interfaces := #[]
  cf := some (fileOf pool2 8 #[] #[{ accessFlags := 0, nameIndex := 5, descriptorIndex := 6, attributes := #[] }, { accessFlags := 8, nameIndex := 114, descriptorIndex := 115, attributes := #[] }] 48 2 #[] #[{ accessFlags := 26, nameIndex := 44, descriptorIndex := 45, attributes := #[] }, { accessFlags := 26, nameIndex := 93, descriptorIndex := 94, attributes := #[] }, { accessFlags := 26, nameIndex := 96, descriptorIndex := 94, attributes := #[] }, { accessFlags := 2, nameIndex := 11, descriptorIndex := 12, attributes := #[] }, { accessFlags := 2, nameIndex := 15, descriptorIndex := 16, attributes := #[] }, { accessFlags := 2, nameIndex := 19, descriptorIndex := 16, attributes := #[] }])
  fields := #[{ name := "LONGS", type := (.object "java/lang/invoke/VarHandle"), accessFlags := 26, slot := 0, constantValue := 0 }, { name := "LOW_BITS", type := .long, accessFlags := 26, slot := 1, constantValue := 0 }, { name := "HIGH_BITS", type := .long, accessFlags := 26, slot := 2, constantValue := 0 }, { name := "array", type := (.array .byte), accessFlags := 2, slot := 0, constantValue := 0 }, { name := "start", type := .int, accessFlags := 2, slot := 1, constantValue := 0 }, { name := "end", type := .int, accessFlags := 2, slot := 2, constantValue := 0 }]
  methods := #[k2m0, k2m1]
  instanceTypes := #[(.array .byte), .int, .int]
  staticTypes := #[(.object "java/lang/invoke/VarHandle"), .long, .long]
  resolved := Array.replicate 128 none
  statics := none }

def pool3 : Array CpInfo := pool [(1, u "java/lang/Cloneable"), (0, .class_ 1), (0, u "java/lang/Object"), (0, .class_ 3)] 3

/-- java/lang/Cloneable -/
def k3 : Class := { plain "java/lang/Cloneable" (some 0) with
  accessFlags := 1537
  interfaces := #[]
  cf := some (fileOf pool3 2 #[] #[] 1537 4 #[] #[])
  fields := #[]
  methods := #[]
  instanceTypes := #[]
  staticTypes := #[]
  resolved := Array.replicate 8 none
  statics := none }

def pool4 : Array CpInfo := pool [(1, u "java/io/Serializable"), (0, .class_ 1), (0, u "java/lang/Object"), (0, .class_ 3)] 3

/-- java/io/Serializable -/
def k4 : Class := { plain "java/io/Serializable" (some 0) with
  accessFlags := 1537
  interfaces := #[]
  cf := some (fileOf pool4 2 #[] #[] 1537 4 #[] #[])
  fields := #[]
  methods := #[]
  instanceTypes := #[]
  staticTypes := #[]
  resolved := Array.replicate 8 none
  statics := none }

/-- the primitive byte -/
def k5 : Class := { plain "byte" none with kind := .primitive 'B', accessFlags := 0x411 }
/-- [B -/
def k6 : Class := { plain "[B" (some 0) with kind := .array 5 .byte, interfaces := #[3, 4], accessFlags := 1041 }

/-- the primitive int -/
def k7 : Class := { plain "int" none with kind := .primitive 'I', accessFlags := 0x411 }
/-- [I -/
def k8 : Class := { plain "[I" (some 0) with kind := .array 7 .int, interfaces := #[3, 4], accessFlags := 1041 }

def heap : Heap := #[]
def classes : Array Class := #[k0, k1, k2, k3, k4, k5, k6, k7, k8]
def interned : List (Array UInt16 × Addr) := []
def slotsUsed : Nat := 0
def theMethod : MethodId := ⟨1, 1⟩
def args0 : Array Value := #[.long 5, .int 6, .int 7, .int 8]
def aboutOver (below : List Frame) : State where
  vm := { classes := classes, interned := interned.toArray }
  heap := heap
  slotsUsed := slotsUsed
  threads := #[{ frames := .invoking theMethod args0 :: below }]
def below0 : List Frame := [.native { method := ⟨0, 0⟩, args := #[] }]
def about1 : State := aboutOver below0
def p0 : Program := .bare "" "" ""
def e0 : Env := launch0.env 0 0 0
theorem w_frames : about1.frames = Frame.invoking theMethod args0 :: below0 := rfl
set_option maxRecDepth 65536 in
theorem w_args : argsFit about1.vm theMethod args0 = true := by decide +kernel
set_option maxRecDepth 65536 in
theorem w_heap : heapFits about1 = true := by decide +kernel
set_option maxRecDepth 65536 in
theorem w_runnable : about1.curStatus? = some .runnable := by decide +kernel
set_option maxRecDepth 65536 in
theorem w_alone : about1.alone = true := by decide +kernel
set_option maxRecDepth 65536 in
theorem w_named : about1.methodNamed? x = some theMethod := by decide +kernel
set_option maxRecDepth 65536 in
theorem w_hears : about1.hears theMethod below0 = true := by decide +kernel
set_option maxRecDepth 65536 in
theorem w_ripe : about1.ripe theMethod args0 below0 = true := by decide +kernel
theorem w_running : about1.status = .running := rfl
set_option maxRecDepth 65536 in
theorem w_room : about1.hasRoom e0.platform room_1 = true :=
  launch0.hasRoom_least _ room_1 (by decide +kernel) (by decide +kernel) (by decide +kernel) (by decide +kernel) (by decide +kernel) (by decide +kernel)
theorem allAtoms_all (ts : List Jvm.Cond) (a : Array Jvm.Value) (st : Jvm.State) : (allAtoms ts).before a st = ts.all (fun c => c.before a st) := by
  induction ts with
  | nil => rfl
  | cons c t ih =>
    show (Jvm.Cond.and c (allAtoms t)).before a st = _
    rw [Jvm.Cond.before_and, ih, List.all_cons]
def words1 : List Jvm.Cond := Jvm.Cond.code x code maxLocals ret :: tables_1
/-- a 'code' word, met by the world's own term for the bytes: nothing is compared byte by byte -/
theorem code_word {y : MethodName} {bytes : ByteArray} {mx : Nat} {rt : Option FieldType} {a : Array Value} {s : State} {m : MethodId} {meth : Method} {c : Code} (h1 : s.methodNamed? y = some m) (h2 : s.vm.method? m = some meth) (h3 : meth.code = some c) (h4 : c.code = bytes)
    (h5 : (c.maxLocals == mx && c.exceptionTable.isEmpty && decide (c.maxStack ≤ mostOperands) && decide (meth.sig.returnType = rt) && !meth.locks && decide (parseMethodDescriptor y.desc = some meth.sig)) = true) : (Jvm.Cond.code y bytes mx rt).before a s = true := by
  simp only [Bool.and_eq_true, beq_iff_eq, Bool.not_eq_true', decide_eq_true_eq] at h5
  obtain ⟨⟨⟨⟨⟨g1, g2⟩, g3⟩, g4⟩, g5⟩, g6⟩ := h5
  simp [Cond.before, Cond.holds, Cond.value, h1, h2, h3, h4, g1, g2, g3, g4, g5, g6]
def isCode : Jvm.Cond → Bool
  | .code _ _ _ _ => true
  | _ => false
theorem all_split {L : List Jvm.Cond} {P : Jvm.Cond → Bool} (h1 : L.all (fun c => isCode c || P c) = true) (h2 : ∀ c ∈ L.filter isCode, P c = true) : L.all P = true := by
  refine List.all_eq_true.mpr fun c hc => ?_
  have h := List.all_eq_true.mp h1 c hc
  rcases Bool.eq_false_or_eq_true (isCode c) with hi | hi
  · exact h2 c (List.mem_filter.mpr ⟨hc, hi⟩)
  · simpa [hi] using h
set_option maxRecDepth 65536 in
theorem w_c0 : (Jvm.Cond.code x code maxLocals ret).before args0 about1 = true := code_word (m := ⟨1, 1⟩) (meth := k1m1) (c := k1c1) (by decide +kernel) rfl rfl rfl (by decide +kernel)
set_option maxRecDepth 65536 in
theorem w_c1 : (Jvm.Cond.code ({ cls := "com/example/tallyfold/tallyfold/BytesBytesOfPinLaw", name := "plant", desc := "(JBI)J" } : Jvm.MethodName) method_3_code (5 : Nat) (Option.some Jvm.ClassFile.FieldType.long)).before args0 about1 = true := code_word (m := ⟨1, 2⟩) (meth := k1m2) (c := k1c2) (by decide +kernel) rfl rfl rfl (by decide +kernel)
set_option maxRecDepth 65536 in
theorem w_c2 : (Jvm.Cond.code ({ cls := "com/example/tallyfold/tallyfold/Bytes", name := "bytesOf", desc := "(JB)J" } : Jvm.MethodName) prog_1_method_15_code (5 : Nat) (Option.some Jvm.ClassFile.FieldType.long)).before args0 about1 = true := code_word (m := ⟨2, 1⟩) (meth := k2m1) (c := k2c1) (by decide +kernel) rfl rfl rfl (by decide +kernel)
set_option maxRecDepth 65536 in
theorem w_c3 : (Jvm.Cond.code ({ cls := "com/example/tallyfold/tallyfold/BytesBytesOfPinLaw", name := "covers", desc := "(JJBI)Z" } : Jvm.MethodName) method_5_code (6 : Nat) (Option.some Jvm.ClassFile.FieldType.boolean)).before args0 about1 = true := code_word (m := ⟨1, 4⟩) (meth := k1m4) (c := k1c4) (by decide +kernel) rfl rfl rfl (by decide +kernel)
set_option maxRecDepth 65536 in
theorem w_c4 : (Jvm.Cond.code ({ cls := "com/example/tallyfold/tallyfold/BytesBytesOfPinLaw", name := "is", desc := "(JBI)Z" } : Jvm.MethodName) method_4_code (4 : Nat) (Option.some Jvm.ClassFile.FieldType.boolean)).before args0 about1 = true := code_word (m := ⟨1, 3⟩) (meth := k1m3) (c := k1c3) (by decide +kernel) rfl rfl rfl (by decide +kernel)
set_option maxRecDepth 65536 in
theorem w_c5 : (Jvm.Cond.code ({ cls := "com/example/tallyfold/tallyfold/BytesBytesOfPinLaw", name := "first", desc := "(JB)I" } : Jvm.MethodName) method_6_code (3 : Nat) (Option.some Jvm.ClassFile.FieldType.int)).before args0 about1 = true := code_word (m := ⟨1, 5⟩) (meth := k1m5) (c := k1c5) (by decide +kernel) rfl rfl rfl (by decide +kernel)
def codes1 : List Jvm.Cond := [Jvm.Cond.code x code maxLocals ret, Jvm.Cond.code ({ cls := "com/example/tallyfold/tallyfold/BytesBytesOfPinLaw", name := "plant", desc := "(JBI)J" } : Jvm.MethodName) method_3_code (5 : Nat) (Option.some Jvm.ClassFile.FieldType.long), Jvm.Cond.code ({ cls := "com/example/tallyfold/tallyfold/Bytes", name := "bytesOf", desc := "(JB)J" } : Jvm.MethodName) prog_1_method_15_code (5 : Nat) (Option.some Jvm.ClassFile.FieldType.long), Jvm.Cond.code ({ cls := "com/example/tallyfold/tallyfold/BytesBytesOfPinLaw", name := "covers", desc := "(JJBI)Z" } : Jvm.MethodName) method_5_code (6 : Nat) (Option.some Jvm.ClassFile.FieldType.boolean), Jvm.Cond.code ({ cls := "com/example/tallyfold/tallyfold/BytesBytesOfPinLaw", name := "is", desc := "(JBI)Z" } : Jvm.MethodName) method_4_code (4 : Nat) (Option.some Jvm.ClassFile.FieldType.boolean), Jvm.Cond.code ({ cls := "com/example/tallyfold/tallyfold/BytesBytesOfPinLaw", name := "first", desc := "(JB)I" } : Jvm.MethodName) method_6_code (3 : Nat) (Option.some Jvm.ClassFile.FieldType.int)]
set_option maxRecDepth 65536 in
theorem codes_eq : words1.filter isCode = codes1 := rfl
theorem w_codes : ∀ c ∈ words1.filter isCode, c.before args0 about1 = true := by
  rw [codes_eq]
  intro c hc
  simp only [codes1, List.mem_cons, List.not_mem_nil, or_false] at hc
  rcases hc with rfl | rfl | rfl | rfl | rfl | rfl
  · exact w_c0
  · exact w_c1
  · exact w_c2
  · exact w_c3
  · exact w_c4
  · exact w_c5
set_option maxRecDepth 65536 in
theorem w_t1 : (words1.take 24).all (fun c => isCode c || c.before args0 about1) = true := by decide +kernel
set_option maxRecDepth 65536 in
theorem w_t2 : (words1.drop 24).all (fun c => isCode c || c.before args0 about1) = true := by decide +kernel
theorem w_tables : (allAtoms (Jvm.Cond.code x code maxLocals ret :: tables_1)).before args0 about1 = true := by
  rw [allAtoms_all]
  show words1.all (fun c => c.before args0 about1) = true
  refine all_split ?_ w_codes
  rw [← List.take_append_drop 24 words1, List.all_append, w_t1, w_t2]
  rfl
set_option maxRecDepth 65536 in
theorem w_case : (Jvm.Cond.and given_1 narrow_1).before args0 about1 = true := by decide +kernel
theorem w_applies : (headSpec (Jvm.Cond.code x code maxLocals ret :: tables_1) room_1).applies x e0.platform about1 = true :=
  (Spec.applies_iff w_frames).mpr ⟨w_running, w_runnable, w_alone, w_named, w_hears, w_ripe, w_room, w_tables⟩
theorem atStart : AtStart classFile x code maxLocals ret World_1 tables_1 room_1 Calls_1 rest_1 Pre_1 launch0 p0 e0 about1 theMethod args0 below0 :=
  ⟨lists_1, trivial, launch0.admits_env _ _ _, launch0.least_env, fairChoices_fair.cas, fairChoices_fair.clock, w_frames, w_args, w_heap, w_applies, trivial, trivial, w_case⟩
end start1
theorem witness_1 : WitnessClaimed_1 := ⟨start1.p0, start1.e0, start1.about1, start1.theMethod, start1.args0, start1.below0, start1.atStart⟩
end Jvm.Pilot.@@N@@
