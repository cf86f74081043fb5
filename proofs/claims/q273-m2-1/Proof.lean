import JvmDerived
import JvmDerived.Pilot.@@N@@Statement
import JvmDerived.Pilot.@@N@@Code
set_option linter.unusedVariables false
set_option linter.unusedSimpArgs false
namespace Jvm.RoadKit
open Sem ClassFile Op Lib Jvm.Stand Jvm.Free Jvm.LawKit
section New
variable {p : Program} {l : Launch} {e : Env} {R : Room} {s : State} {m : MethodId} {args : Array Value} {below : List Frame} {meth : Method} {c : Code} {T : State} {locs : List Loc} {cells slots : Nat}
theorem retI (X : Stand p l e R s m args below meth c T locs cells slots) (hx : p.tables.exec = Jvm.exec) {pc : Nat} {Ls : Array Slot} {z : Int32} {rest : List Value} (hret : meth.sig.returnType = some .int) (hd : decode c.code pc = .ok (.ireturn, 1)) {fs : List Frame}
    (hl : ∀ (f : JFrame) (acts : List Action), f.method = m → f.locked = none → f.entered = [] → (doReturn e (T.setTop f) acts (some (.int z))).1 = T.setFrames fs) : Steps p.tables e below (T.setTop (mkF m pc Ls (.int z :: rest))) (T.setFrames fs) := by
  have hm' : T.vm.method? m = some meth := X.method'
  have hn : narrow .int (.int z) = .int z := rfl
  show Steps p.tables e below (T.setTop { method := m, pc := pc, locals := Ls, stack := _ :: rest, locked := none }) _
  jvm_step X.here [X.here.top, hx, hd, hm', hret, hn]
  first | (intro acts; rw [hl _ acts rfl rfl rfl]) | rw [hl _ _ rfl rfl rfl]
  exact Steps.refl _
/-- the run from G on comes to an end that Q speaks of -/
def Go (p : Program) (e : Env) (below : List Frame) (s : State) (Q : Option Value → Heap → List Loc → Prop) (ck sk : Nat) (G : State) : Prop :=
  ∃ s₂ o, Steps p.tables e below G s₂ ∧ s₂.status = .running ∧ Ended s₂ below o ∧ ∃ v L, o = .returned v ∧ Q v s₂.heap L ∧ FrameEnd s o s₂ L ck sk
theorem Go.of {Q : Option Value → Heap → List Loc → Prop} {ck sk : Nat} {G G' : State} (h : ∀ t, Steps p.tables e below G' t → Steps p.tables e below G t) (k : Go p e below s Q ck sk G') : Go p e below s Q ck sk G := by
  obtain ⟨s₂, o, h1, r⟩ := k
  exact ⟨s₂, o, h _ h1, r⟩
theorem Go.ret (X : Stand p l e R s m args below meth c T locs cells slots) {Q : Option Value → Heap → List Loc → Prop} {ck sk : Nat} {G : State} (v : Option Value) (hv : meth.sig.returnType = none → v = none) (hlk : meth.locks = false) (hq : Q v T.heap locs) (hc : cells ≤ ck) (hs : slots ≤ sk)
    (st : ∀ fs, (∀ (f : JFrame) (acts : List Action), f.method = m → f.locked = none → f.entered = [] → (doReturn e (T.setTop f) acts v).1 = T.setFrames fs) → Steps p.tables e below G (T.setFrames fs)) : Go p e below s Q ck sk G := by
  obtain ⟨fs, hr, hrun, hended, hW, hsame⟩ := X.leave hv hlk
  exact ⟨_, _, st fs hr, hrun, hended, v, locs, rfl, hq, ⟨_, rfl⟩, hW, hsame.mono hc hs⟩
/-- what it returns, that it wrote nothing old, and that the heap is as it was -/
def QP (val : Option Value) (h0 : Heap) (n0 : Nat) (v : Option Value) (h : Heap) (L : List Loc) : Prop := v = val ∧ Fr n0 L ∧ h = h0
/-- what it returns, and that it wrote nothing old -/
def QL (val : Option Value) (n0 : Nat) (v : Option Value) (h : Heap) (L : List Loc) : Prop := v = val ∧ Fr n0 L
theorem lremM {g : JFrame} {target : State} (X : Stand p l e R s m args below meth c T locs cells slots) (hx : p.tables.exec = Jvm.exec) (hg : g.method = m) {x y : Int64} {rest : List Value} (hd : decode c.code g.pc = .ok (.lrem, 1)) (hs : g.stack = .long y :: .long x :: rest) (hy : y ≠ 0)
    (hr : Steps p.tables e below (T.setTop { g with pc := g.pc + 1, stack := .long (x % y) :: rest }) target) : Steps p.tables e below (T.setTop g) target := by
  have q : x - x / y * y = x % y := lrem_mod x y
  exact XS.lrem X.here hx hg hd hs hy (by rw [q]; exact hr)
end New
end Jvm.RoadKit
namespace Jvm.Pilot.@@N@@
open Jvm Jvm.ClassFile Sem Op Lib Jvm.Free Jvm.Stand Jvm.LawKit Jvm.RoadKit Bundle Jvm.Pilot.@@N@@.Jvm.D
theorem own_pn0 : plainName "com/example/susurrus/susurrus/XmlDecoder" = true := by first | (simp [plainName, overriddenIn]; done) | decide +kernel
theorem d1_0 : decode prog_155_method_21_code 0 = .ok (.iload_n 0, 1) := by decide +kernel
theorem d1_1 : decode prog_155_method_21_code 1 = .ok (.bipush 32, 2) := by decide +kernel
theorem d1_3 : decode prog_155_method_21_code 3 = .ok (.if_icmp .ge 30, 3) := by decide +kernel
theorem d1_6 : decode prog_155_method_21_code 6 = .ok (.iload_n 0, 1) := by decide +kernel
theorem d1_7 : decode prog_155_method_21_code 7 = .ok (.bipush 9, 2) := by decide +kernel
theorem d1_9 : decode prog_155_method_21_code 9 = .ok (.if_icmp .eq 15, 3) := by decide +kernel
theorem d1_12 : decode prog_155_method_21_code 12 = .ok (.iload_n 0, 1) := by decide +kernel
theorem d1_13 : decode prog_155_method_21_code 13 = .ok (.bipush 10, 2) := by decide +kernel
theorem d1_15 : decode prog_155_method_21_code 15 = .ok (.if_icmp .eq 9, 3) := by decide +kernel
theorem d1_18 : decode prog_155_method_21_code 18 = .ok (.iload_n 0, 1) := by decide +kernel
theorem d1_19 : decode prog_155_method_21_code 19 = .ok (.bipush 13, 2) := by decide +kernel
theorem d1_21 : decode prog_155_method_21_code 21 = .ok (.if_icmp .ne 7, 3) := by decide +kernel
theorem d1_24 : decode prog_155_method_21_code 24 = .ok (.iconst 1, 1) := by decide +kernel
theorem d1_25 : decode prog_155_method_21_code 25 = .ok (.goto 4, 3) := by decide +kernel
theorem d1_28 : decode prog_155_method_21_code 28 = .ok (.iconst 0, 1) := by decide +kernel
theorem d1_29 : decode prog_155_method_21_code 29 = .ok (.istore_n 2, 1) := by decide +kernel
theorem d1_30 : decode prog_155_method_21_code 30 = .ok (.goto 63, 3) := by decide +kernel
theorem d1_33 : decode prog_155_method_21_code 33 = .ok (.iload_n 0, 1) := by decide +kernel
theorem d1_34 : decode prog_155_method_21_code 34 = .ok (.bipush 127, 2) := by decide +kernel
theorem d1_36 : decode prog_155_method_21_code 36 = .ok (.if_icmp .lt 30, 3) := by decide +kernel
theorem d1_39 : decode prog_155_method_21_code 39 = .ok (.iload_n 0, 1) := by decide +kernel
theorem d1_40 : decode prog_155_method_21_code 40 = .ok (.sipush 159, 3) := by decide +kernel
theorem d1_43 : decode prog_155_method_21_code 43 = .ok (.if_icmp .gt 23, 3) := by decide +kernel
theorem d1_46 : decode prog_155_method_21_code 46 = .ok (.iload_n 1, 1) := by decide +kernel
theorem d1_47 : decode prog_155_method_21_code 47 = .ok (.ifCond .eq 10, 3) := by decide +kernel
theorem d1_50 : decode prog_155_method_21_code 50 = .ok (.iload_n 0, 1) := by decide +kernel
theorem d1_51 : decode prog_155_method_21_code 51 = .ok (.sipush 133, 3) := by decide +kernel
theorem d1_54 : decode prog_155_method_21_code 54 = .ok (.if_icmp .ne 7, 3) := by decide +kernel
theorem d1_57 : decode prog_155_method_21_code 57 = .ok (.iconst 1, 1) := by decide +kernel
theorem d1_58 : decode prog_155_method_21_code 58 = .ok (.goto 4, 3) := by decide +kernel
theorem d1_61 : decode prog_155_method_21_code 61 = .ok (.iconst 0, 1) := by decide +kernel
theorem d1_62 : decode prog_155_method_21_code 62 = .ok (.istore_n 2, 1) := by decide +kernel
theorem d1_63 : decode prog_155_method_21_code 63 = .ok (.goto 30, 3) := by decide +kernel
theorem d1_66 : decode prog_155_method_21_code 66 = .ok (.iload_n 0, 1) := by decide +kernel
theorem d1_67 : decode prog_155_method_21_code 67 = .ok (.ldc_w 433, 3) := by decide +kernel
theorem d1_70 : decode prog_155_method_21_code 70 = .ok (.if_icmp .le 17, 3) := by decide +kernel
theorem d1_73 : decode prog_155_method_21_code 73 = .ok (.iload_n 0, 1) := by decide +kernel
theorem d1_74 : decode prog_155_method_21_code 74 = .ok (.ldc_w 434, 3) := by decide +kernel
theorem d1_77 : decode prog_155_method_21_code 77 = .ok (.if_icmp .lt 14, 3) := by decide +kernel
theorem d1_80 : decode prog_155_method_21_code 80 = .ok (.iload_n 0, 1) := by decide +kernel
theorem d1_81 : decode prog_155_method_21_code 81 = .ok (.ldc_w 435, 3) := by decide +kernel
theorem d1_84 : decode prog_155_method_21_code 84 = .ok (.if_icmp .gt 7, 3) := by decide +kernel
theorem d1_87 : decode prog_155_method_21_code 87 = .ok (.iconst 1, 1) := by decide +kernel
theorem d1_88 : decode prog_155_method_21_code 88 = .ok (.goto 4, 3) := by decide +kernel
theorem d1_91 : decode prog_155_method_21_code 91 = .ok (.iconst 0, 1) := by decide +kernel
theorem d1_92 : decode prog_155_method_21_code 92 = .ok (.istore_n 2, 1) := by decide +kernel
theorem d1_93 : decode prog_155_method_21_code 93 = .ok (.iload_n 2, 1) := by decide +kernel
theorem d1_94 : decode prog_155_method_21_code 94 = .ok (.ireturn, 1) := by decide +kernel
theorem ef_1 (m : MethodId) (p0 : Int32) (p1 : Int32) : entryFrame m #[(.int p0), (.int p1)] 3 = mkF m 0 #[.val (.int p0), .val (.int p1), .unset] [] := by first | (simp [entryFrame, mkF, argsToLocals, Value.category]; done) | rfl
def F1_29 (w0_29 : Int32) : Int32 := (nar .boolean w0_29)
def F1_24  : Int32 := (F1_29 (1 : Int32))
def F1_92 (w0_92 : Int32) : Int32 := (nar .boolean w0_92)
def F1_87  : Int32 := (F1_92 (1 : Int32))
def F1_91  : Int32 := (F1_92 (0 : Int32))
def F1_66 (p0 : Int32) : Int32 := (if (55295 : Int32) < p0 then (if p0 < (57344 : Int32) then F1_91 else (if (65533 : Int32) < p0 then F1_91 else F1_87)) else F1_87)
def F1_62 (w0_62 : Int32) : Int32 := (nar .boolean w0_62)
def F1_57  : Int32 := (F1_62 (1 : Int32))
def F1 (p0 : Int32) (p1 : Int32) : Int32 := (if p0 < (32 : Int32) then (if p0 = (9 : Int32) then F1_24 else (if p0 = (10 : Int32) then F1_24 else (if p0 = (13 : Int32) then F1_24 else (F1_29 (0 : Int32))))) else (if p0 < (127 : Int32) then (F1_66 p0) else (if (159 : Int32) < p0 then (F1_66 p0) else (if p1 = (0 : Int32) then F1_57 else (if p0 = (133 : Int32) then F1_57 else (F1_62 (0 : Int32)))))))
set_option maxRecDepth 65536 in
set_option maxHeartbeats 40000000 in
theorem rm1 (l : Launch) (Z : State) (az : Array Value) (hw : ∀ d ∈ tables_1, d.before az Z = true) (ws : List Jvm.Cond) (p0 : Int32) (p1 : Int32)  (h0 : Heap) (n0 : Nat) (Z0 : n0 ≤ h0.size) :
    MetFree l (⟨"com/example/susurrus/susurrus/XmlDecoder", "isAllowed", "(IZ)Z"⟩ : MethodName) (head1 (Jvm.Cond.code (⟨"com/example/susurrus/susurrus/XmlDecoder", "isAllowed", "(IZ)Z"⟩ : MethodName) prog_155_method_21_code 3 (some .boolean) :: ws) ({ frames := 0, cells := 0, slots := 0, locals := 0 } : Room)) (fun a U => a = #[(.int p0), (.int p1)] ∧ Z.Warmed39 U.vm ∧ U.heap = h0) (fun _ _ _ _ _ => True) (fun _ U o U' => ∃ v L, o = .returned v ∧ (QP (some (.int (F1 p0 p1))) h0 n0) v U'.heap L ∧ FrameEnd U o U' L ({ frames := 0, cells := 0, slots := 0, locals := 0 } : Room).cells ({ frames := 0, cells := 0, slots := 0, locals := 0 } : Room).slots) := by
  refine MetFree.of_bodySF (plainFor_of_name own_pn0) hisR ?_
  intro p e s m args below meth c s₁ Bd hml0 hP hK
  obtain ⟨rfl, hZ, hh⟩ := hP
  have hx := Bd.exec
  have hby := Bd.bytes
  have hml : c.maxLocals = 3 := hml0
  have hown : s.vm.findClass "com/example/susurrus/susurrus/XmlDecoder" = some m.cls := findClass_of_methodNamed Bd.named
  have hnm := (name_of_methodNamed Bd.named Bd.method).1
  have hlk : meth.locks = false := BodyLoose.notSynchronized Bd
  have X0 : Stand p l e ({ frames := 0, cells := 0, slots := 0, locals := 0 } : Room) s m #[(.int p0), (.int p1)] below meth c s₁ [] 0 0 := Stand.of_body Bd
  have e0 : s₁.heap = h0 := by rw [← hh, Bd.state]; rfl
  have N0 := Fr.nil n0
  show Go p e below s (QP (some (.int (F1 p0 p1))) h0 n0) ({ frames := 0, cells := 0, slots := 0, locals := 0 } : Room).cells ({ frames := 0, cells := 0, slots := 0, locals := 0 } : Room).slots (s₁.setTop (entryFrame m #[(.int p0), (.int p1)] 3))
  refine Go.of (fun t k => castTop (ef_1 m p0 p1) k) ?_
  show Go p e below s _ _ _ (s₁.setTop (mkF m 0 #[.val (.int p0), .val (.int p1), .unset] []))
  unfold F1
  refine Go.of (fun t k => XS.iloadN X0.here hx rfl (hb hby d1_0) rfl k) ?_
  show Go p e below s _ _ _ (s₁.setTop (mkF m 1 #[.val (.int p0), .val (.int p1), .unset] [(.int p0)]))
  refine Go.of (fun t k => XS.bipush X0.here hx rfl (hb hby d1_1) k) ?_
  show Go p e below s _ _ _ (s₁.setTop (mkF m 3 #[.val (.int p0), .val (.int p1), .unset] [(.int (32 : Int32)), (.int p0)]))
  by_cases hc3_1 : p0 < (32 : Int32)
  · rewrite [if_pos hc3_1]
    refine Go.of (fun t k => XS.icmpNo X0.here hx rfl (hb hby d1_3) rfl (tlt hc3_1).2.1 k) ?_
    show Go p e below s _ _ _ (s₁.setTop (mkF m 6 #[.val (.int p0), .val (.int p1), .unset] []))
    refine Go.of (fun t k => XS.iloadN X0.here hx rfl (hb hby d1_6) rfl k) ?_
    show Go p e below s _ _ _ (s₁.setTop (mkF m 7 #[.val (.int p0), .val (.int p1), .unset] [(.int p0)]))
    refine Go.of (fun t k => XS.bipush X0.here hx rfl (hb hby d1_7) k) ?_
    show Go p e below s _ _ _ (s₁.setTop (mkF m 9 #[.val (.int p0), .val (.int p1), .unset] [(.int (9 : Int32)), (.int p0)]))
    have jn29 : ∀ (w0_29 : Int32) (T_29 : State) (l_29 : List Loc) (X_29 : Stand p l e ({ frames := 0, cells := 0, slots := 0, locals := 0 } : Room) s m #[(.int p0), (.int p1)] below meth c T_29 l_29 0 0) (e_29 : T_29.heap = h0) (N_29 : Fr n0 l_29), Go p e below s (QP (some (.int (F1_29 w0_29))) h0 n0) ({ frames := 0, cells := 0, slots := 0, locals := 0 } : Room).cells ({ frames := 0, cells := 0, slots := 0, locals := 0 } : Room).slots (T_29.setTop (mkF m 29 #[.val (.int p0), .val (.int p1), .unset] [(.int w0_29)])) := by
      intro w0_29 T_29 l_29 X_29 e_29 N_29
      unfold F1_29
      refine Go.of (fun t k => XS.istoreN X_29.here hx rfl (hb hby d1_29) rfl (l' := #[.val (.int p0), .val (.int p1), .val (.int w0_29)]) rfl k) ?_
      show Go p e below s _ _ _ (T_29.setTop (mkF m 30 #[.val (.int p0), .val (.int p1), .val (.int w0_29)] []))
      refine Go.of (fun t k => XS.goto X_29.here hx rfl (pc0 := 30) (pc' := 93) rfl (hb hby d1_30) (by decide) (by decide) k) ?_
      show Go p e below s _ _ _ (T_29.setTop (mkF m 93 #[.val (.int p0), .val (.int p1), .val (.int w0_29)] []))
      refine Go.of (fun t k => XS.iloadN X_29.here hx rfl (hb hby d1_93) rfl k) ?_
      show Go p e below s _ _ _ (T_29.setTop (mkF m 94 #[.val (.int p0), .val (.int p1), .val (.int w0_29)] [(.int w0_29)]))
      exact Go.ret X_29 (some (.int (nar .boolean w0_29))) (fun h => by rw [Bd.returns] at h; cases h) hlk ⟨rfl, N_29, e_29⟩ (by decide) (by decide) (fun fs hr => (retN X_29 hx (t := .boolean) Bd.returns (by simp) (hb hby d1_94) hr))
    have jn24 : ∀ (T_24 : State) (l_24 : List Loc) (X_24 : Stand p l e ({ frames := 0, cells := 0, slots := 0, locals := 0 } : Room) s m #[(.int p0), (.int p1)] below meth c T_24 l_24 0 0) (e_24 : T_24.heap = h0) (N_24 : Fr n0 l_24), Go p e below s (QP (some (.int F1_24)) h0 n0) ({ frames := 0, cells := 0, slots := 0, locals := 0 } : Room).cells ({ frames := 0, cells := 0, slots := 0, locals := 0 } : Room).slots (T_24.setTop (mkF m 24 #[.val (.int p0), .val (.int p1), .unset] [])) := by
      intro T_24 l_24 X_24 e_24 N_24
      unfold F1_24
      refine Go.of (fun t k => XS.iconst X_24.here hx rfl (hb hby d1_24) k) ?_
      show Go p e below s _ _ _ (T_24.setTop (mkF m 25 #[.val (.int p0), .val (.int p1), .unset] [(.int (1 : Int32))]))
      refine Go.of (fun t k => XS.goto X_24.here hx rfl (pc0 := 25) (pc' := 29) rfl (hb hby d1_25) (by decide) (by decide) k) ?_
      show Go p e below s _ _ _ (T_24.setTop (mkF m 29 #[.val (.int p0), .val (.int p1), .unset] [(.int (1 : Int32))]))
      exact jn29 (1 : Int32)  T_24 _ X_24 e_24 N_24  
    by_cases hc9_2 : p0 = (9 : Int32)
    · rewrite [if_pos hc9_2]
      refine Go.of (fun t k => XS.icmpYes X0.here hx rfl (pc0 := 9) (pc' := 24) rfl (hb hby d1_9) rfl (teq hc9_2).1 (by decide) (by decide) k) ?_
      show Go p e below s _ _ _ (s₁.setTop (mkF m 24 #[.val (.int p0), .val (.int p1), .unset] []))
      exact jn24   s₁ _ X0 e0 N0  
    · rewrite [if_neg hc9_2]
      refine Go.of (fun t k => XS.icmpNo X0.here hx rfl (hb hby d1_9) rfl (feq hc9_2).1 k) ?_
      show Go p e below s _ _ _ (s₁.setTop (mkF m 12 #[.val (.int p0), .val (.int p1), .unset] []))
      refine Go.of (fun t k => XS.iloadN X0.here hx rfl (hb hby d1_12) rfl k) ?_
      show Go p e below s _ _ _ (s₁.setTop (mkF m 13 #[.val (.int p0), .val (.int p1), .unset] [(.int p0)]))
      refine Go.of (fun t k => XS.bipush X0.here hx rfl (hb hby d1_13) k) ?_
      show Go p e below s _ _ _ (s₁.setTop (mkF m 15 #[.val (.int p0), .val (.int p1), .unset] [(.int (10 : Int32)), (.int p0)]))
      by_cases hc15_3 : p0 = (10 : Int32)
      · rewrite [if_pos hc15_3]
        refine Go.of (fun t k => XS.icmpYes X0.here hx rfl (pc0 := 15) (pc' := 24) rfl (hb hby d1_15) rfl (teq hc15_3).1 (by decide) (by decide) k) ?_
        show Go p e below s _ _ _ (s₁.setTop (mkF m 24 #[.val (.int p0), .val (.int p1), .unset] []))
        exact jn24   s₁ _ X0 e0 N0  
      · rewrite [if_neg hc15_3]
        refine Go.of (fun t k => XS.icmpNo X0.here hx rfl (hb hby d1_15) rfl (feq hc15_3).1 k) ?_
        show Go p e below s _ _ _ (s₁.setTop (mkF m 18 #[.val (.int p0), .val (.int p1), .unset] []))
        refine Go.of (fun t k => XS.iloadN X0.here hx rfl (hb hby d1_18) rfl k) ?_
        show Go p e below s _ _ _ (s₁.setTop (mkF m 19 #[.val (.int p0), .val (.int p1), .unset] [(.int p0)]))
        refine Go.of (fun t k => XS.bipush X0.here hx rfl (hb hby d1_19) k) ?_
        show Go p e below s _ _ _ (s₁.setTop (mkF m 21 #[.val (.int p0), .val (.int p1), .unset] [(.int (13 : Int32)), (.int p0)]))
        by_cases hc21_4 : p0 = (13 : Int32)
        · rewrite [if_pos hc21_4]
          refine Go.of (fun t k => XS.icmpNo X0.here hx rfl (hb hby d1_21) rfl (teq hc21_4).2 k) ?_
          show Go p e below s _ _ _ (s₁.setTop (mkF m 24 #[.val (.int p0), .val (.int p1), .unset] []))
          exact jn24   s₁ _ X0 e0 N0  
        · rewrite [if_neg hc21_4]
          refine Go.of (fun t k => XS.icmpYes X0.here hx rfl (pc0 := 21) (pc' := 28) rfl (hb hby d1_21) rfl (feq hc21_4).2 (by decide) (by decide) k) ?_
          show Go p e below s _ _ _ (s₁.setTop (mkF m 28 #[.val (.int p0), .val (.int p1), .unset] []))
          refine Go.of (fun t k => XS.iconst X0.here hx rfl (hb hby d1_28) k) ?_
          show Go p e below s _ _ _ (s₁.setTop (mkF m 29 #[.val (.int p0), .val (.int p1), .unset] [(.int (0 : Int32))]))
          exact jn29 (0 : Int32)  s₁ _ X0 e0 N0  
  · rewrite [if_neg hc3_1]
    refine Go.of (fun t k => XS.icmpYes X0.here hx rfl (pc0 := 3) (pc' := 33) rfl (hb hby d1_3) rfl (flt hc3_1).2.1 (by decide) (by decide) k) ?_
    show Go p e below s _ _ _ (s₁.setTop (mkF m 33 #[.val (.int p0), .val (.int p1), .unset] []))
    refine Go.of (fun t k => XS.iloadN X0.here hx rfl (hb hby d1_33) rfl k) ?_
    show Go p e below s _ _ _ (s₁.setTop (mkF m 34 #[.val (.int p0), .val (.int p1), .unset] [(.int p0)]))
    refine Go.of (fun t k => XS.bipush X0.here hx rfl (hb hby d1_34) k) ?_
    show Go p e below s _ _ _ (s₁.setTop (mkF m 36 #[.val (.int p0), .val (.int p1), .unset] [(.int (127 : Int32)), (.int p0)]))
    have jn66 : ∀ (T_66 : State) (l_66 : List Loc) (X_66 : Stand p l e ({ frames := 0, cells := 0, slots := 0, locals := 0 } : Room) s m #[(.int p0), (.int p1)] below meth c T_66 l_66 0 0) (e_66 : T_66.heap = h0) (N_66 : Fr n0 l_66), Go p e below s (QP (some (.int (F1_66 p0))) h0 n0) ({ frames := 0, cells := 0, slots := 0, locals := 0 } : Room).cells ({ frames := 0, cells := 0, slots := 0, locals := 0 } : Room).slots (T_66.setTop (mkF m 66 #[.val (.int p0), .val (.int p1), .unset] [])) := by
      intro T_66 l_66 X_66 e_66 N_66
      unfold F1_66
      refine Go.of (fun t k => XS.iloadN X_66.here hx rfl (hb hby d1_66) rfl k) ?_
      show Go p e below s _ _ _ (T_66.setTop (mkF m 67 #[.val (.int p0), .val (.int p1), .unset] [(.int p0)]))
      refine Go.of (X_66.ldcwInt hx hown (mvT hZ (hw _ (List.mem_of_getElem? (i := 11) rfl))) (g := (mkF m 67 #[.val (.int p0), .val (.int p1), .unset] [(.int p0)])) rfl (hb hby d1_67)) ?_
      show Go p e below s _ _ _ (T_66.setTop (mkF m 70 #[.val (.int p0), .val (.int p1), .unset] [(.int (55295 : Int32)), (.int p0)]))
      have jn92 : ∀ (w0_92 : Int32) (T_92 : State) (l_92 : List Loc) (X_92 : Stand p l e ({ frames := 0, cells := 0, slots := 0, locals := 0 } : Room) s m #[(.int p0), (.int p1)] below meth c T_92 l_92 0 0) (e_92 : T_92.heap = h0) (N_92 : Fr n0 l_92), Go p e below s (QP (some (.int (F1_92 w0_92))) h0 n0) ({ frames := 0, cells := 0, slots := 0, locals := 0 } : Room).cells ({ frames := 0, cells := 0, slots := 0, locals := 0 } : Room).slots (T_92.setTop (mkF m 92 #[.val (.int p0), .val (.int p1), .unset] [(.int w0_92)])) := by
        intro w0_92 T_92 l_92 X_92 e_92 N_92
        unfold F1_92
        refine Go.of (fun t k => XS.istoreN X_92.here hx rfl (hb hby d1_92) rfl (l' := #[.val (.int p0), .val (.int p1), .val (.int w0_92)]) rfl k) ?_
        show Go p e below s _ _ _ (T_92.setTop (mkF m 93 #[.val (.int p0), .val (.int p1), .val (.int w0_92)] []))
        refine Go.of (fun t k => XS.iloadN X_92.here hx rfl (hb hby d1_93) rfl k) ?_
        show Go p e below s _ _ _ (T_92.setTop (mkF m 94 #[.val (.int p0), .val (.int p1), .val (.int w0_92)] [(.int w0_92)]))
        exact Go.ret X_92 (some (.int (nar .boolean w0_92))) (fun h => by rw [Bd.returns] at h; cases h) hlk ⟨rfl, N_92, e_92⟩ (by decide) (by decide) (fun fs hr => (retN X_92 hx (t := .boolean) Bd.returns (by simp) (hb hby d1_94) hr))
      have jn87 : ∀ (T_87 : State) (l_87 : List Loc) (X_87 : Stand p l e ({ frames := 0, cells := 0, slots := 0, locals := 0 } : Room) s m #[(.int p0), (.int p1)] below meth c T_87 l_87 0 0) (e_87 : T_87.heap = h0) (N_87 : Fr n0 l_87), Go p e below s (QP (some (.int F1_87)) h0 n0) ({ frames := 0, cells := 0, slots := 0, locals := 0 } : Room).cells ({ frames := 0, cells := 0, slots := 0, locals := 0 } : Room).slots (T_87.setTop (mkF m 87 #[.val (.int p0), .val (.int p1), .unset] [])) := by
        intro T_87 l_87 X_87 e_87 N_87
        unfold F1_87
        refine Go.of (fun t k => XS.iconst X_87.here hx rfl (hb hby d1_87) k) ?_
        show Go p e below s _ _ _ (T_87.setTop (mkF m 88 #[.val (.int p0), .val (.int p1), .unset] [(.int (1 : Int32))]))
        refine Go.of (fun t k => XS.goto X_87.here hx rfl (pc0 := 88) (pc' := 92) rfl (hb hby d1_88) (by decide) (by decide) k) ?_
        show Go p e below s _ _ _ (T_87.setTop (mkF m 92 #[.val (.int p0), .val (.int p1), .unset] [(.int (1 : Int32))]))
        exact jn92 (1 : Int32)  T_87 _ X_87 e_87 N_87  
      by_cases hc70_5 : (55295 : Int32) < p0
      · rewrite [if_pos hc70_5]
        refine Go.of (fun t k => XS.icmpNo X_66.here hx rfl (hb hby d1_70) rfl (tlt hc70_5).2.2.2 k) ?_
        show Go p e below s _ _ _ (T_66.setTop (mkF m 73 #[.val (.int p0), .val (.int p1), .unset] []))
        refine Go.of (fun t k => XS.iloadN X_66.here hx rfl (hb hby d1_73) rfl k) ?_
        show Go p e below s _ _ _ (T_66.setTop (mkF m 74 #[.val (.int p0), .val (.int p1), .unset] [(.int p0)]))
        refine Go.of (X_66.ldcwInt hx hown (mvT hZ (hw _ (List.mem_of_getElem? (i := 14) rfl))) (g := (mkF m 74 #[.val (.int p0), .val (.int p1), .unset] [(.int p0)])) rfl (hb hby d1_74)) ?_
        show Go p e below s _ _ _ (T_66.setTop (mkF m 77 #[.val (.int p0), .val (.int p1), .unset] [(.int (57344 : Int32)), (.int p0)]))
        have jn91 : ∀ (T_91 : State) (l_91 : List Loc) (X_91 : Stand p l e ({ frames := 0, cells := 0, slots := 0, locals := 0 } : Room) s m #[(.int p0), (.int p1)] below meth c T_91 l_91 0 0) (e_91 : T_91.heap = h0) (N_91 : Fr n0 l_91), Go p e below s (QP (some (.int F1_91)) h0 n0) ({ frames := 0, cells := 0, slots := 0, locals := 0 } : Room).cells ({ frames := 0, cells := 0, slots := 0, locals := 0 } : Room).slots (T_91.setTop (mkF m 91 #[.val (.int p0), .val (.int p1), .unset] [])) := by
          intro T_91 l_91 X_91 e_91 N_91
          unfold F1_91
          refine Go.of (fun t k => XS.iconst X_91.here hx rfl (hb hby d1_91) k) ?_
          show Go p e below s _ _ _ (T_91.setTop (mkF m 92 #[.val (.int p0), .val (.int p1), .unset] [(.int (0 : Int32))]))
          exact jn92 (0 : Int32)  T_91 _ X_91 e_91 N_91  
        by_cases hc77_6 : p0 < (57344 : Int32)
        · rewrite [if_pos hc77_6]
          refine Go.of (fun t k => XS.icmpYes X_66.here hx rfl (pc0 := 77) (pc' := 91) rfl (hb hby d1_77) rfl (tlt hc77_6).1 (by decide) (by decide) k) ?_
          show Go p e below s _ _ _ (T_66.setTop (mkF m 91 #[.val (.int p0), .val (.int p1), .unset] []))
          exact jn91   T_66 _ X_66 e_66 N_66  
        · rewrite [if_neg hc77_6]
          refine Go.of (fun t k => XS.icmpNo X_66.here hx rfl (hb hby d1_77) rfl (flt hc77_6).1 k) ?_
          show Go p e below s _ _ _ (T_66.setTop (mkF m 80 #[.val (.int p0), .val (.int p1), .unset] []))
          refine Go.of (fun t k => XS.iloadN X_66.here hx rfl (hb hby d1_80) rfl k) ?_
          show Go p e below s _ _ _ (T_66.setTop (mkF m 81 #[.val (.int p0), .val (.int p1), .unset] [(.int p0)]))
          refine Go.of (X_66.ldcwInt hx hown (mvT hZ (hw _ (List.mem_of_getElem? (i := 15) rfl))) (g := (mkF m 81 #[.val (.int p0), .val (.int p1), .unset] [(.int p0)])) rfl (hb hby d1_81)) ?_
          show Go p e below s _ _ _ (T_66.setTop (mkF m 84 #[.val (.int p0), .val (.int p1), .unset] [(.int (65533 : Int32)), (.int p0)]))
          by_cases hc84_7 : (65533 : Int32) < p0
          · rewrite [if_pos hc84_7]
            refine Go.of (fun t k => XS.icmpYes X_66.here hx rfl (pc0 := 84) (pc' := 91) rfl (hb hby d1_84) rfl (tlt hc84_7).2.2.1 (by decide) (by decide) k) ?_
            show Go p e below s _ _ _ (T_66.setTop (mkF m 91 #[.val (.int p0), .val (.int p1), .unset] []))
            exact jn91   T_66 _ X_66 e_66 N_66  
          · rewrite [if_neg hc84_7]
            refine Go.of (fun t k => XS.icmpNo X_66.here hx rfl (hb hby d1_84) rfl (flt hc84_7).2.2.1 k) ?_
            show Go p e below s _ _ _ (T_66.setTop (mkF m 87 #[.val (.int p0), .val (.int p1), .unset] []))
            exact jn87   T_66 _ X_66 e_66 N_66  
      · rewrite [if_neg hc70_5]
        refine Go.of (fun t k => XS.icmpYes X_66.here hx rfl (pc0 := 70) (pc' := 87) rfl (hb hby d1_70) rfl (flt hc70_5).2.2.2 (by decide) (by decide) k) ?_
        show Go p e below s _ _ _ (T_66.setTop (mkF m 87 #[.val (.int p0), .val (.int p1), .unset] []))
        exact jn87   T_66 _ X_66 e_66 N_66  
    by_cases hc36_8 : p0 < (127 : Int32)
    · rewrite [if_pos hc36_8]
      refine Go.of (fun t k => XS.icmpYes X0.here hx rfl (pc0 := 36) (pc' := 66) rfl (hb hby d1_36) rfl (tlt hc36_8).1 (by decide) (by decide) k) ?_
      show Go p e below s _ _ _ (s₁.setTop (mkF m 66 #[.val (.int p0), .val (.int p1), .unset] []))
      exact jn66   s₁ _ X0 e0 N0  
    · rewrite [if_neg hc36_8]
      refine Go.of (fun t k => XS.icmpNo X0.here hx rfl (hb hby d1_36) rfl (flt hc36_8).1 k) ?_
      show Go p e below s _ _ _ (s₁.setTop (mkF m 39 #[.val (.int p0), .val (.int p1), .unset] []))
      refine Go.of (fun t k => XS.iloadN X0.here hx rfl (hb hby d1_39) rfl k) ?_
      show Go p e below s _ _ _ (s₁.setTop (mkF m 40 #[.val (.int p0), .val (.int p1), .unset] [(.int p0)]))
      refine Go.of (fun t k => XS.sipush X0.here hx rfl (hb hby d1_40) k) ?_
      show Go p e below s _ _ _ (s₁.setTop (mkF m 43 #[.val (.int p0), .val (.int p1), .unset] [(.int (159 : Int32)), (.int p0)]))
      by_cases hc43_9 : (159 : Int32) < p0
      · rewrite [if_pos hc43_9]
        refine Go.of (fun t k => XS.icmpYes X0.here hx rfl (pc0 := 43) (pc' := 66) rfl (hb hby d1_43) rfl (tlt hc43_9).2.2.1 (by decide) (by decide) k) ?_
        show Go p e below s _ _ _ (s₁.setTop (mkF m 66 #[.val (.int p0), .val (.int p1), .unset] []))
        exact jn66   s₁ _ X0 e0 N0  
      · rewrite [if_neg hc43_9]
        refine Go.of (fun t k => XS.icmpNo X0.here hx rfl (hb hby d1_43) rfl (flt hc43_9).2.2.1 k) ?_
        show Go p e below s _ _ _ (s₁.setTop (mkF m 46 #[.val (.int p0), .val (.int p1), .unset] []))
        refine Go.of (fun t k => XS.iloadN X0.here hx rfl (hb hby d1_46) rfl k) ?_
        show Go p e below s _ _ _ (s₁.setTop (mkF m 47 #[.val (.int p0), .val (.int p1), .unset] [(.int p1)]))
        have jn62 : ∀ (w0_62 : Int32) (T_62 : State) (l_62 : List Loc) (X_62 : Stand p l e ({ frames := 0, cells := 0, slots := 0, locals := 0 } : Room) s m #[(.int p0), (.int p1)] below meth c T_62 l_62 0 0) (e_62 : T_62.heap = h0) (N_62 : Fr n0 l_62), Go p e below s (QP (some (.int (F1_62 w0_62))) h0 n0) ({ frames := 0, cells := 0, slots := 0, locals := 0 } : Room).cells ({ frames := 0, cells := 0, slots := 0, locals := 0 } : Room).slots (T_62.setTop (mkF m 62 #[.val (.int p0), .val (.int p1), .unset] [(.int w0_62)])) := by
          intro w0_62 T_62 l_62 X_62 e_62 N_62
          unfold F1_62
          refine Go.of (fun t k => XS.istoreN X_62.here hx rfl (hb hby d1_62) rfl (l' := #[.val (.int p0), .val (.int p1), .val (.int w0_62)]) rfl k) ?_
          show Go p e below s _ _ _ (T_62.setTop (mkF m 63 #[.val (.int p0), .val (.int p1), .val (.int w0_62)] []))
          refine Go.of (fun t k => XS.goto X_62.here hx rfl (pc0 := 63) (pc' := 93) rfl (hb hby d1_63) (by decide) (by decide) k) ?_
          show Go p e below s _ _ _ (T_62.setTop (mkF m 93 #[.val (.int p0), .val (.int p1), .val (.int w0_62)] []))
          refine Go.of (fun t k => XS.iloadN X_62.here hx rfl (hb hby d1_93) rfl k) ?_
          show Go p e below s _ _ _ (T_62.setTop (mkF m 94 #[.val (.int p0), .val (.int p1), .val (.int w0_62)] [(.int w0_62)]))
          exact Go.ret X_62 (some (.int (nar .boolean w0_62))) (fun h => by rw [Bd.returns] at h; cases h) hlk ⟨rfl, N_62, e_62⟩ (by decide) (by decide) (fun fs hr => (retN X_62 hx (t := .boolean) Bd.returns (by simp) (hb hby d1_94) hr))
        have jn57 : ∀ (T_57 : State) (l_57 : List Loc) (X_57 : Stand p l e ({ frames := 0, cells := 0, slots := 0, locals := 0 } : Room) s m #[(.int p0), (.int p1)] below meth c T_57 l_57 0 0) (e_57 : T_57.heap = h0) (N_57 : Fr n0 l_57), Go p e below s (QP (some (.int F1_57)) h0 n0) ({ frames := 0, cells := 0, slots := 0, locals := 0 } : Room).cells ({ frames := 0, cells := 0, slots := 0, locals := 0 } : Room).slots (T_57.setTop (mkF m 57 #[.val (.int p0), .val (.int p1), .unset] [])) := by
          intro T_57 l_57 X_57 e_57 N_57
          unfold F1_57
          refine Go.of (fun t k => XS.iconst X_57.here hx rfl (hb hby d1_57) k) ?_
          show Go p e below s _ _ _ (T_57.setTop (mkF m 58 #[.val (.int p0), .val (.int p1), .unset] [(.int (1 : Int32))]))
          refine Go.of (fun t k => XS.goto X_57.here hx rfl (pc0 := 58) (pc' := 62) rfl (hb hby d1_58) (by decide) (by decide) k) ?_
          show Go p e below s _ _ _ (T_57.setTop (mkF m 62 #[.val (.int p0), .val (.int p1), .unset] [(.int (1 : Int32))]))
          exact jn62 (1 : Int32)  T_57 _ X_57 e_57 N_57  
        by_cases hc47_10 : p1 = (0 : Int32)
        · rewrite [if_pos hc47_10]
          refine Go.of (fun t k => XS.ifYes X0.here hx rfl (pc0 := 47) (pc' := 57) rfl (hb hby d1_47) rfl ((if0 _ _).trans (teq hc47_10).1) (by decide) (by decide) k) ?_
          show Go p e below s _ _ _ (s₁.setTop (mkF m 57 #[.val (.int p0), .val (.int p1), .unset] []))
          exact jn57   s₁ _ X0 e0 N0  
        · rewrite [if_neg hc47_10]
          refine Go.of (fun t k => XS.ifNo X0.here hx rfl (hb hby d1_47) rfl ((if0 _ _).trans (feq hc47_10).1) k) ?_
          show Go p e below s _ _ _ (s₁.setTop (mkF m 50 #[.val (.int p0), .val (.int p1), .unset] []))
          refine Go.of (fun t k => XS.iloadN X0.here hx rfl (hb hby d1_50) rfl k) ?_
          show Go p e below s _ _ _ (s₁.setTop (mkF m 51 #[.val (.int p0), .val (.int p1), .unset] [(.int p0)]))
          refine Go.of (fun t k => XS.sipush X0.here hx rfl (hb hby d1_51) k) ?_
          show Go p e below s _ _ _ (s₁.setTop (mkF m 54 #[.val (.int p0), .val (.int p1), .unset] [(.int (133 : Int32)), (.int p0)]))
          by_cases hc54_11 : p0 = (133 : Int32)
          · rewrite [if_pos hc54_11]
            refine Go.of (fun t k => XS.icmpNo X0.here hx rfl (hb hby d1_54) rfl (teq hc54_11).2 k) ?_
            show Go p e below s _ _ _ (s₁.setTop (mkF m 57 #[.val (.int p0), .val (.int p1), .unset] []))
            exact jn57   s₁ _ X0 e0 N0  
          · rewrite [if_neg hc54_11]
            refine Go.of (fun t k => XS.icmpYes X0.here hx rfl (pc0 := 54) (pc' := 61) rfl (hb hby d1_54) rfl (feq hc54_11).2 (by decide) (by decide) k) ?_
            show Go p e below s _ _ _ (s₁.setTop (mkF m 61 #[.val (.int p0), .val (.int p1), .unset] []))
            refine Go.of (fun t k => XS.iconst X0.here hx rfl (hb hby d1_61) k) ?_
            show Go p e below s _ _ _ (s₁.setTop (mkF m 62 #[.val (.int p0), .val (.int p1), .unset] [(.int (0 : Int32))]))
            exact jn62 (0 : Int32)  s₁ _ X0 e0 N0  
theorem own_pn1 : plainName "com/example/susurrus/susurrus/XmlDecoderIsAllowedPinLaw" = true := by first | (simp [plainName, overriddenIn]; done) | decide +kernel
theorem d2_0 : decode method_2_code 0 = .ok (.iload_n 0, 1) := by decide +kernel
theorem d2_1 : decode method_2_code 1 = .ok (.bipush 9, 2) := by decide +kernel
theorem d2_3 : decode method_2_code 3 = .ok (.if_icmp .eq 15, 3) := by decide +kernel
theorem d2_6 : decode method_2_code 6 = .ok (.iload_n 0, 1) := by decide +kernel
theorem d2_7 : decode method_2_code 7 = .ok (.bipush 10, 2) := by decide +kernel
theorem d2_9 : decode method_2_code 9 = .ok (.if_icmp .eq 9, 3) := by decide +kernel
theorem d2_12 : decode method_2_code 12 = .ok (.iload_n 0, 1) := by decide +kernel
theorem d2_13 : decode method_2_code 13 = .ok (.bipush 13, 2) := by decide +kernel
theorem d2_15 : decode method_2_code 15 = .ok (.if_icmp .ne 7, 3) := by decide +kernel
theorem d2_18 : decode method_2_code 18 = .ok (.iconst 1, 1) := by decide +kernel
theorem d2_19 : decode method_2_code 19 = .ok (.goto 4, 3) := by decide +kernel
theorem d2_22 : decode method_2_code 22 = .ok (.iconst 0, 1) := by decide +kernel
theorem d2_23 : decode method_2_code 23 = .ok (.istore_n 2, 1) := by decide +kernel
theorem d2_24 : decode method_2_code 24 = .ok (.iload_n 0, 1) := by decide +kernel
theorem d2_25 : decode method_2_code 25 = .ok (.ldc 7, 2) := by decide +kernel
theorem d2_27 : decode method_2_code 27 = .ok (.if_icmp .lt 13, 3) := by decide +kernel
theorem d2_30 : decode method_2_code 30 = .ok (.iload_n 0, 1) := by decide +kernel
theorem d2_31 : decode method_2_code 31 = .ok (.ldc 8, 2) := by decide +kernel
theorem d2_33 : decode method_2_code 33 = .ok (.if_icmp .gt 7, 3) := by decide +kernel
theorem d2_36 : decode method_2_code 36 = .ok (.iconst 1, 1) := by decide +kernel
theorem d2_37 : decode method_2_code 37 = .ok (.goto 4, 3) := by decide +kernel
theorem d2_40 : decode method_2_code 40 = .ok (.iconst 0, 1) := by decide +kernel
theorem d2_41 : decode method_2_code 41 = .ok (.istore_n 3, 1) := by decide +kernel
theorem d2_42 : decode method_2_code 42 = .ok (.iload_n 1, 1) := by decide +kernel
theorem d2_43 : decode method_2_code 43 = .ok (.ifCond .eq 49, 3) := by decide +kernel
theorem d2_46 : decode method_2_code 46 = .ok (.iload_n 2, 1) := by decide +kernel
theorem d2_47 : decode method_2_code 47 = .ok (.ifCond .ne 39, 3) := by decide +kernel
theorem d2_50 : decode method_2_code 50 = .ok (.iload_n 0, 1) := by decide +kernel
theorem d2_51 : decode method_2_code 51 = .ok (.bipush 32, 2) := by decide +kernel
theorem d2_53 : decode method_2_code 53 = .ok (.if_icmp .lt 9, 3) := by decide +kernel
theorem d2_56 : decode method_2_code 56 = .ok (.iload_n 0, 1) := by decide +kernel
theorem d2_57 : decode method_2_code 57 = .ok (.bipush 126, 2) := by decide +kernel
theorem d2_59 : decode method_2_code 59 = .ok (.if_icmp .le 27, 3) := by decide +kernel
theorem d2_62 : decode method_2_code 62 = .ok (.iload_n 0, 1) := by decide +kernel
theorem d2_63 : decode method_2_code 63 = .ok (.sipush 133, 3) := by decide +kernel
theorem d2_66 : decode method_2_code 66 = .ok (.if_icmp .eq 20, 3) := by decide +kernel
theorem d2_69 : decode method_2_code 69 = .ok (.iload_n 0, 1) := by decide +kernel
theorem d2_70 : decode method_2_code 70 = .ok (.sipush 160, 3) := by decide +kernel
theorem d2_73 : decode method_2_code 73 = .ok (.if_icmp .lt 9, 3) := by decide +kernel
theorem d2_76 : decode method_2_code 76 = .ok (.iload_n 0, 1) := by decide +kernel
theorem d2_77 : decode method_2_code 77 = .ok (.ldc 9, 2) := by decide +kernel
theorem d2_79 : decode method_2_code 79 = .ok (.if_icmp .le 7, 3) := by decide +kernel
theorem d2_82 : decode method_2_code 82 = .ok (.iload_n 3, 1) := by decide +kernel
theorem d2_83 : decode method_2_code 83 = .ok (.ifCond .eq 7, 3) := by decide +kernel
theorem d2_86 : decode method_2_code 86 = .ok (.iconst 1, 1) := by decide +kernel
theorem d2_87 : decode method_2_code 87 = .ok (.goto 4, 3) := by decide +kernel
theorem d2_90 : decode method_2_code 90 = .ok (.iconst 0, 1) := by decide +kernel
theorem d2_91 : decode method_2_code 91 = .ok (.ireturn, 1) := by decide +kernel
theorem d2_92 : decode method_2_code 92 = .ok (.iload_n 2, 1) := by decide +kernel
theorem d2_93 : decode method_2_code 93 = .ok (.ifCond .ne 19, 3) := by decide +kernel
theorem d2_96 : decode method_2_code 96 = .ok (.iload_n 0, 1) := by decide +kernel
theorem d2_97 : decode method_2_code 97 = .ok (.bipush 32, 2) := by decide +kernel
theorem d2_99 : decode method_2_code 99 = .ok (.if_icmp .lt 9, 3) := by decide +kernel
theorem d2_102 : decode method_2_code 102 = .ok (.iload_n 0, 1) := by decide +kernel
theorem d2_103 : decode method_2_code 103 = .ok (.ldc 9, 2) := by decide +kernel
theorem d2_105 : decode method_2_code 105 = .ok (.if_icmp .le 7, 3) := by decide +kernel
theorem d2_108 : decode method_2_code 108 = .ok (.iload_n 3, 1) := by decide +kernel
theorem d2_109 : decode method_2_code 109 = .ok (.ifCond .eq 7, 3) := by decide +kernel
theorem d2_112 : decode method_2_code 112 = .ok (.iconst 1, 1) := by decide +kernel
theorem d2_113 : decode method_2_code 113 = .ok (.goto 4, 3) := by decide +kernel
theorem d2_116 : decode method_2_code 116 = .ok (.iconst 0, 1) := by decide +kernel
theorem d2_117 : decode method_2_code 117 = .ok (.ireturn, 1) := by decide +kernel
theorem ef_2 (m : MethodId) (p0 : Int32) (p1 : Int32) : entryFrame m #[(.int p0), (.int p1)] 4 = mkF m 0 #[.val (.int p0), .val (.int p1), .unset, .unset] [] := by first | (simp [entryFrame, mkF, argsToLocals, Value.category]; done) | rfl
def F2_108 (w0_41 : Int32) : Int32 := (if w0_41 = (0 : Int32) then (0 : Int32) else (1 : Int32))
def F2_82 (w0_41 : Int32) : Int32 := (if w0_41 = (0 : Int32) then (0 : Int32) else (1 : Int32))
def F2_62 (p0 : Int32) (w0_41 : Int32) : Int32 := (if p0 = (133 : Int32) then (1 : Int32) else (if p0 < (160 : Int32) then (F2_82 w0_41) else (if (55295 : Int32) < p0 then (F2_82 w0_41) else (1 : Int32))))
def F2_41 (p0 : Int32) (p1 : Int32) (w0_23 : Int32) (w0_41 : Int32) : Int32 := (if p1 = (0 : Int32) then (if w0_23 = (0 : Int32) then (if p0 < (32 : Int32) then (F2_108 w0_41) else (if (55295 : Int32) < p0 then (F2_108 w0_41) else (1 : Int32))) else (1 : Int32)) else (if w0_23 = (0 : Int32) then (if p0 < (32 : Int32) then (F2_62 p0 w0_41) else (if (126 : Int32) < p0 then (F2_62 p0 w0_41) else (1 : Int32))) else (1 : Int32)))
def F2_40 (p0 : Int32) (p1 : Int32) (w0_23 : Int32) : Int32 := (F2_41 p0 p1 w0_23 (0 : Int32))
def F2_23 (p0 : Int32) (p1 : Int32) (w0_23 : Int32) : Int32 := (if p0 < (57344 : Int32) then (F2_40 p0 p1 w0_23) else (if (65533 : Int32) < p0 then (F2_40 p0 p1 w0_23) else (F2_41 p0 p1 w0_23 (1 : Int32))))
def F2_18 (p0 : Int32) (p1 : Int32) : Int32 := (F2_23 p0 p1 (1 : Int32))
def F2 (p0 : Int32) (p1 : Int32) : Int32 := (if p0 = (9 : Int32) then (F2_18 p0 p1) else (if p0 = (10 : Int32) then (F2_18 p0 p1) else (if p0 = (13 : Int32) then (F2_18 p0 p1) else (F2_23 p0 p1 (0 : Int32)))))
set_option maxRecDepth 65536 in
set_option maxHeartbeats 40000000 in
theorem rm2 (l : Launch) (Z : State) (az : Array Value) (hw : ∀ d ∈ tables_1, d.before az Z = true) (ws : List Jvm.Cond) (p0 : Int32) (p1 : Int32)  (h0 : Heap) (n0 : Nat) (Z0 : n0 ≤ h0.size) :
    MetFree l (⟨"com/example/susurrus/susurrus/XmlDecoderIsAllowedPinLaw", "expected", "(IZ)Z"⟩ : MethodName) (head1 (Jvm.Cond.code (⟨"com/example/susurrus/susurrus/XmlDecoderIsAllowedPinLaw", "expected", "(IZ)Z"⟩ : MethodName) method_2_code 4 (some .boolean) :: ws) ({ frames := 0, cells := 0, slots := 0, locals := 0 } : Room)) (fun a U => a = #[(.int p0), (.int p1)] ∧ Z.Warmed39 U.vm ∧ U.heap = h0) (fun _ _ _ _ _ => True) (fun _ U o U' => ∃ v L, o = .returned v ∧ (QP (some (.int (F2 p0 p1))) h0 n0) v U'.heap L ∧ FrameEnd U o U' L ({ frames := 0, cells := 0, slots := 0, locals := 0 } : Room).cells ({ frames := 0, cells := 0, slots := 0, locals := 0 } : Room).slots) := by
  refine MetFree.of_bodySF (plainFor_of_name own_pn1) hisR ?_
  intro p e s m args below meth c s₁ Bd hml0 hP hK
  obtain ⟨rfl, hZ, hh⟩ := hP
  have hx := Bd.exec
  have hby := Bd.bytes
  have hml : c.maxLocals = 4 := hml0
  have hown : s.vm.findClass "com/example/susurrus/susurrus/XmlDecoderIsAllowedPinLaw" = some m.cls := findClass_of_methodNamed Bd.named
  have hnm := (name_of_methodNamed Bd.named Bd.method).1
  have hlk : meth.locks = false := BodyLoose.notSynchronized Bd
  have X0 : Stand p l e ({ frames := 0, cells := 0, slots := 0, locals := 0 } : Room) s m #[(.int p0), (.int p1)] below meth c s₁ [] 0 0 := Stand.of_body Bd
  have e0 : s₁.heap = h0 := by rw [← hh, Bd.state]; rfl
  have N0 := Fr.nil n0
  show Go p e below s (QP (some (.int (F2 p0 p1))) h0 n0) ({ frames := 0, cells := 0, slots := 0, locals := 0 } : Room).cells ({ frames := 0, cells := 0, slots := 0, locals := 0 } : Room).slots (s₁.setTop (entryFrame m #[(.int p0), (.int p1)] 4))
  refine Go.of (fun t k => castTop (ef_2 m p0 p1) k) ?_
  show Go p e below s _ _ _ (s₁.setTop (mkF m 0 #[.val (.int p0), .val (.int p1), .unset, .unset] []))
  unfold F2
  refine Go.of (fun t k => XS.iloadN X0.here hx rfl (hb hby d2_0) rfl k) ?_
  show Go p e below s _ _ _ (s₁.setTop (mkF m 1 #[.val (.int p0), .val (.int p1), .unset, .unset] [(.int p0)]))
  refine Go.of (fun t k => XS.bipush X0.here hx rfl (hb hby d2_1) k) ?_
  show Go p e below s _ _ _ (s₁.setTop (mkF m 3 #[.val (.int p0), .val (.int p1), .unset, .unset] [(.int (9 : Int32)), (.int p0)]))
  have jn23 : ∀ (w0_23 : Int32) (T_23 : State) (l_23 : List Loc) (X_23 : Stand p l e ({ frames := 0, cells := 0, slots := 0, locals := 0 } : Room) s m #[(.int p0), (.int p1)] below meth c T_23 l_23 0 0) (e_23 : T_23.heap = h0) (N_23 : Fr n0 l_23), Go p e below s (QP (some (.int (F2_23 p0 p1 w0_23))) h0 n0) ({ frames := 0, cells := 0, slots := 0, locals := 0 } : Room).cells ({ frames := 0, cells := 0, slots := 0, locals := 0 } : Room).slots (T_23.setTop (mkF m 23 #[.val (.int p0), .val (.int p1), .unset, .unset] [(.int w0_23)])) := by
    intro w0_23 T_23 l_23 X_23 e_23 N_23
    unfold F2_23
    refine Go.of (fun t k => XS.istoreN X_23.here hx rfl (hb hby d2_23) rfl (l' := #[.val (.int p0), .val (.int p1), .val (.int w0_23), .unset]) rfl k) ?_
    show Go p e below s _ _ _ (T_23.setTop (mkF m 24 #[.val (.int p0), .val (.int p1), .val (.int w0_23), .unset] []))
    refine Go.of (fun t k => XS.iloadN X_23.here hx rfl (hb hby d2_24) rfl k) ?_
    show Go p e below s _ _ _ (T_23.setTop (mkF m 25 #[.val (.int p0), .val (.int p1), .val (.int w0_23), .unset] [(.int p0)]))
    refine Go.of (X_23.ldcInt hx hown (mvT hZ (hw _ (List.mem_of_getElem? (i := 10) rfl))) (g := (mkF m 25 #[.val (.int p0), .val (.int p1), .val (.int w0_23), .unset] [(.int p0)])) rfl (hb hby d2_25)) ?_
    show Go p e below s _ _ _ (T_23.setTop (mkF m 27 #[.val (.int p0), .val (.int p1), .val (.int w0_23), .unset] [(.int (57344 : Int32)), (.int p0)]))
    have jn41 : ∀ (w0_41 : Int32) (T_41 : State) (l_41 : List Loc) (X_41 : Stand p l e ({ frames := 0, cells := 0, slots := 0, locals := 0 } : Room) s m #[(.int p0), (.int p1)] below meth c T_41 l_41 0 0) (e_41 : T_41.heap = h0) (N_41 : Fr n0 l_41), Go p e below s (QP (some (.int (F2_41 p0 p1 w0_23 w0_41))) h0 n0) ({ frames := 0, cells := 0, slots := 0, locals := 0 } : Room).cells ({ frames := 0, cells := 0, slots := 0, locals := 0 } : Room).slots (T_41.setTop (mkF m 41 #[.val (.int p0), .val (.int p1), .val (.int w0_23), .unset] [(.int w0_41)])) := by
      intro w0_41 T_41 l_41 X_41 e_41 N_41
      unfold F2_41
      refine Go.of (fun t k => XS.istoreN X_41.here hx rfl (hb hby d2_41) rfl (l' := #[.val (.int p0), .val (.int p1), .val (.int w0_23), .val (.int w0_41)]) rfl k) ?_
      show Go p e below s _ _ _ (T_41.setTop (mkF m 42 #[.val (.int p0), .val (.int p1), .val (.int w0_23), .val (.int w0_41)] []))
      refine Go.of (fun t k => XS.iloadN X_41.here hx rfl (hb hby d2_42) rfl k) ?_
      show Go p e below s _ _ _ (T_41.setTop (mkF m 43 #[.val (.int p0), .val (.int p1), .val (.int w0_23), .val (.int w0_41)] [(.int p1)]))
      by_cases hc43_1 : p1 = (0 : Int32)
      · rewrite [if_pos hc43_1]
        refine Go.of (fun t k => XS.ifYes X_41.here hx rfl (pc0 := 43) (pc' := 92) rfl (hb hby d2_43) rfl ((if0 _ _).trans (teq hc43_1).1) (by decide) (by decide) k) ?_
        show Go p e below s _ _ _ (T_41.setTop (mkF m 92 #[.val (.int p0), .val (.int p1), .val (.int w0_23), .val (.int w0_41)] []))
        refine Go.of (fun t k => XS.iloadN X_41.here hx rfl (hb hby d2_92) rfl k) ?_
        show Go p e below s _ _ _ (T_41.setTop (mkF m 93 #[.val (.int p0), .val (.int p1), .val (.int w0_23), .val (.int w0_41)] [(.int w0_23)]))
        by_cases hc93_2 : w0_23 = (0 : Int32)
        · rewrite [if_pos hc93_2]
          refine Go.of (fun t k => XS.ifNo X_41.here hx rfl (hb hby d2_93) rfl ((if0 _ _).trans (teq hc93_2).2) k) ?_
          show Go p e below s _ _ _ (T_41.setTop (mkF m 96 #[.val (.int p0), .val (.int p1), .val (.int w0_23), .val (.int w0_41)] []))
          refine Go.of (fun t k => XS.iloadN X_41.here hx rfl (hb hby d2_96) rfl k) ?_
          show Go p e below s _ _ _ (T_41.setTop (mkF m 97 #[.val (.int p0), .val (.int p1), .val (.int w0_23), .val (.int w0_41)] [(.int p0)]))
          refine Go.of (fun t k => XS.bipush X_41.here hx rfl (hb hby d2_97) k) ?_
          show Go p e below s _ _ _ (T_41.setTop (mkF m 99 #[.val (.int p0), .val (.int p1), .val (.int w0_23), .val (.int w0_41)] [(.int (32 : Int32)), (.int p0)]))
          have jn108 : ∀ (T_108 : State) (l_108 : List Loc) (X_108 : Stand p l e ({ frames := 0, cells := 0, slots := 0, locals := 0 } : Room) s m #[(.int p0), (.int p1)] below meth c T_108 l_108 0 0) (e_108 : T_108.heap = h0) (N_108 : Fr n0 l_108), Go p e below s (QP (some (.int (F2_108 w0_41))) h0 n0) ({ frames := 0, cells := 0, slots := 0, locals := 0 } : Room).cells ({ frames := 0, cells := 0, slots := 0, locals := 0 } : Room).slots (T_108.setTop (mkF m 108 #[.val (.int p0), .val (.int p1), .val (.int w0_23), .val (.int w0_41)] [])) := by
            intro T_108 l_108 X_108 e_108 N_108
            unfold F2_108
            refine Go.of (fun t k => XS.iloadN X_108.here hx rfl (hb hby d2_108) rfl k) ?_
            show Go p e below s _ _ _ (T_108.setTop (mkF m 109 #[.val (.int p0), .val (.int p1), .val (.int w0_23), .val (.int w0_41)] [(.int w0_41)]))
            by_cases hc109_3 : w0_41 = (0 : Int32)
            · rewrite [if_pos hc109_3]
              refine Go.of (fun t k => XS.ifYes X_108.here hx rfl (pc0 := 109) (pc' := 116) rfl (hb hby d2_109) rfl ((if0 _ _).trans (teq hc109_3).1) (by decide) (by decide) k) ?_
              show Go p e below s _ _ _ (T_108.setTop (mkF m 116 #[.val (.int p0), .val (.int p1), .val (.int w0_23), .val (.int w0_41)] []))
              refine Go.of (fun t k => XS.iconst X_108.here hx rfl (hb hby d2_116) k) ?_
              show Go p e below s _ _ _ (T_108.setTop (mkF m 117 #[.val (.int p0), .val (.int p1), .val (.int w0_23), .val (.int w0_41)] [(.int (0 : Int32))]))
              exact Go.ret X_108 (some (.int (0 : Int32))) (fun h => by rw [Bd.returns] at h; cases h) hlk ⟨rfl, N_108, e_108⟩ (by decide) (by decide) (fun fs hr => (retN X_108 hx (t := .boolean) Bd.returns (by simp) (hb hby d2_117) hr))
            · rewrite [if_neg hc109_3]
              refine Go.of (fun t k => XS.ifNo X_108.here hx rfl (hb hby d2_109) rfl ((if0 _ _).trans (feq hc109_3).1) k) ?_
              show Go p e below s _ _ _ (T_108.setTop (mkF m 112 #[.val (.int p0), .val (.int p1), .val (.int w0_23), .val (.int w0_41)] []))
              refine Go.of (fun t k => XS.iconst X_108.here hx rfl (hb hby d2_112) k) ?_
              show Go p e below s _ _ _ (T_108.setTop (mkF m 113 #[.val (.int p0), .val (.int p1), .val (.int w0_23), .val (.int w0_41)] [(.int (1 : Int32))]))
              refine Go.of (fun t k => XS.goto X_108.here hx rfl (pc0 := 113) (pc' := 117) rfl (hb hby d2_113) (by decide) (by decide) k) ?_
              show Go p e below s _ _ _ (T_108.setTop (mkF m 117 #[.val (.int p0), .val (.int p1), .val (.int w0_23), .val (.int w0_41)] [(.int (1 : Int32))]))
              exact Go.ret X_108 (some (.int (1 : Int32))) (fun h => by rw [Bd.returns] at h; cases h) hlk ⟨rfl, N_108, e_108⟩ (by decide) (by decide) (fun fs hr => (retN X_108 hx (t := .boolean) Bd.returns (by simp) (hb hby d2_117) hr))
          by_cases hc99_4 : p0 < (32 : Int32)
          · rewrite [if_pos hc99_4]
            refine Go.of (fun t k => XS.icmpYes X_41.here hx rfl (pc0 := 99) (pc' := 108) rfl (hb hby d2_99) rfl (tlt hc99_4).1 (by decide) (by decide) k) ?_
            show Go p e below s _ _ _ (T_41.setTop (mkF m 108 #[.val (.int p0), .val (.int p1), .val (.int w0_23), .val (.int w0_41)] []))
            exact jn108   T_41 _ X_41 e_41 N_41  
          · rewrite [if_neg hc99_4]
            refine Go.of (fun t k => XS.icmpNo X_41.here hx rfl (hb hby d2_99) rfl (flt hc99_4).1 k) ?_
            show Go p e below s _ _ _ (T_41.setTop (mkF m 102 #[.val (.int p0), .val (.int p1), .val (.int w0_23), .val (.int w0_41)] []))
            refine Go.of (fun t k => XS.iloadN X_41.here hx rfl (hb hby d2_102) rfl k) ?_
            show Go p e below s _ _ _ (T_41.setTop (mkF m 103 #[.val (.int p0), .val (.int p1), .val (.int w0_23), .val (.int w0_41)] [(.int p0)]))
            refine Go.of (X_41.ldcInt hx hown (mvT hZ (hw _ (List.mem_of_getElem? (i := 12) rfl))) (g := (mkF m 103 #[.val (.int p0), .val (.int p1), .val (.int w0_23), .val (.int w0_41)] [(.int p0)])) rfl (hb hby d2_103)) ?_
            show Go p e below s _ _ _ (T_41.setTop (mkF m 105 #[.val (.int p0), .val (.int p1), .val (.int w0_23), .val (.int w0_41)] [(.int (55295 : Int32)), (.int p0)]))
            by_cases hc105_5 : (55295 : Int32) < p0
            · rewrite [if_pos hc105_5]
              refine Go.of (fun t k => XS.icmpNo X_41.here hx rfl (hb hby d2_105) rfl (tlt hc105_5).2.2.2 k) ?_
              show Go p e below s _ _ _ (T_41.setTop (mkF m 108 #[.val (.int p0), .val (.int p1), .val (.int w0_23), .val (.int w0_41)] []))
              exact jn108   T_41 _ X_41 e_41 N_41  
            · rewrite [if_neg hc105_5]
              refine Go.of (fun t k => XS.icmpYes X_41.here hx rfl (pc0 := 105) (pc' := 112) rfl (hb hby d2_105) rfl (flt hc105_5).2.2.2 (by decide) (by decide) k) ?_
              show Go p e below s _ _ _ (T_41.setTop (mkF m 112 #[.val (.int p0), .val (.int p1), .val (.int w0_23), .val (.int w0_41)] []))
              refine Go.of (fun t k => XS.iconst X_41.here hx rfl (hb hby d2_112) k) ?_
              show Go p e below s _ _ _ (T_41.setTop (mkF m 113 #[.val (.int p0), .val (.int p1), .val (.int w0_23), .val (.int w0_41)] [(.int (1 : Int32))]))
              refine Go.of (fun t k => XS.goto X_41.here hx rfl (pc0 := 113) (pc' := 117) rfl (hb hby d2_113) (by decide) (by decide) k) ?_
              show Go p e below s _ _ _ (T_41.setTop (mkF m 117 #[.val (.int p0), .val (.int p1), .val (.int w0_23), .val (.int w0_41)] [(.int (1 : Int32))]))
              exact Go.ret X_41 (some (.int (1 : Int32))) (fun h => by rw [Bd.returns] at h; cases h) hlk ⟨rfl, N_41, e_41⟩ (by decide) (by decide) (fun fs hr => (retN X_41 hx (t := .boolean) Bd.returns (by simp) (hb hby d2_117) hr))
        · rewrite [if_neg hc93_2]
          refine Go.of (fun t k => XS.ifYes X_41.here hx rfl (pc0 := 93) (pc' := 112) rfl (hb hby d2_93) rfl ((if0 _ _).trans (feq hc93_2).2) (by decide) (by decide) k) ?_
          show Go p e below s _ _ _ (T_41.setTop (mkF m 112 #[.val (.int p0), .val (.int p1), .val (.int w0_23), .val (.int w0_41)] []))
          refine Go.of (fun t k => XS.iconst X_41.here hx rfl (hb hby d2_112) k) ?_
          show Go p e below s _ _ _ (T_41.setTop (mkF m 113 #[.val (.int p0), .val (.int p1), .val (.int w0_23), .val (.int w0_41)] [(.int (1 : Int32))]))
          refine Go.of (fun t k => XS.goto X_41.here hx rfl (pc0 := 113) (pc' := 117) rfl (hb hby d2_113) (by decide) (by decide) k) ?_
          show Go p e below s _ _ _ (T_41.setTop (mkF m 117 #[.val (.int p0), .val (.int p1), .val (.int w0_23), .val (.int w0_41)] [(.int (1 : Int32))]))
          exact Go.ret X_41 (some (.int (1 : Int32))) (fun h => by rw [Bd.returns] at h; cases h) hlk ⟨rfl, N_41, e_41⟩ (by decide) (by decide) (fun fs hr => (retN X_41 hx (t := .boolean) Bd.returns (by simp) (hb hby d2_117) hr))
      · rewrite [if_neg hc43_1]
        refine Go.of (fun t k => XS.ifNo X_41.here hx rfl (hb hby d2_43) rfl ((if0 _ _).trans (feq hc43_1).1) k) ?_
        show Go p e below s _ _ _ (T_41.setTop (mkF m 46 #[.val (.int p0), .val (.int p1), .val (.int w0_23), .val (.int w0_41)] []))
        refine Go.of (fun t k => XS.iloadN X_41.here hx rfl (hb hby d2_46) rfl k) ?_
        show Go p e below s _ _ _ (T_41.setTop (mkF m 47 #[.val (.int p0), .val (.int p1), .val (.int w0_23), .val (.int w0_41)] [(.int w0_23)]))
        by_cases hc47_6 : w0_23 = (0 : Int32)
        · rewrite [if_pos hc47_6]
          refine Go.of (fun t k => XS.ifNo X_41.here hx rfl (hb hby d2_47) rfl ((if0 _ _).trans (teq hc47_6).2) k) ?_
          show Go p e below s _ _ _ (T_41.setTop (mkF m 50 #[.val (.int p0), .val (.int p1), .val (.int w0_23), .val (.int w0_41)] []))
          refine Go.of (fun t k => XS.iloadN X_41.here hx rfl (hb hby d2_50) rfl k) ?_
          show Go p e below s _ _ _ (T_41.setTop (mkF m 51 #[.val (.int p0), .val (.int p1), .val (.int w0_23), .val (.int w0_41)] [(.int p0)]))
          refine Go.of (fun t k => XS.bipush X_41.here hx rfl (hb hby d2_51) k) ?_
          show Go p e below s _ _ _ (T_41.setTop (mkF m 53 #[.val (.int p0), .val (.int p1), .val (.int w0_23), .val (.int w0_41)] [(.int (32 : Int32)), (.int p0)]))
          have jn62 : ∀ (T_62 : State) (l_62 : List Loc) (X_62 : Stand p l e ({ frames := 0, cells := 0, slots := 0, locals := 0 } : Room) s m #[(.int p0), (.int p1)] below meth c T_62 l_62 0 0) (e_62 : T_62.heap = h0) (N_62 : Fr n0 l_62), Go p e below s (QP (some (.int (F2_62 p0 w0_41))) h0 n0) ({ frames := 0, cells := 0, slots := 0, locals := 0 } : Room).cells ({ frames := 0, cells := 0, slots := 0, locals := 0 } : Room).slots (T_62.setTop (mkF m 62 #[.val (.int p0), .val (.int p1), .val (.int w0_23), .val (.int w0_41)] [])) := by
            intro T_62 l_62 X_62 e_62 N_62
            unfold F2_62
            refine Go.of (fun t k => XS.iloadN X_62.here hx rfl (hb hby d2_62) rfl k) ?_
            show Go p e below s _ _ _ (T_62.setTop (mkF m 63 #[.val (.int p0), .val (.int p1), .val (.int w0_23), .val (.int w0_41)] [(.int p0)]))
            refine Go.of (fun t k => XS.sipush X_62.here hx rfl (hb hby d2_63) k) ?_
            show Go p e below s _ _ _ (T_62.setTop (mkF m 66 #[.val (.int p0), .val (.int p1), .val (.int w0_23), .val (.int w0_41)] [(.int (133 : Int32)), (.int p0)]))
            by_cases hc66_7 : p0 = (133 : Int32)
            · rewrite [if_pos hc66_7]
              refine Go.of (fun t k => XS.icmpYes X_62.here hx rfl (pc0 := 66) (pc' := 86) rfl (hb hby d2_66) rfl (teq hc66_7).1 (by decide) (by decide) k) ?_
              show Go p e below s _ _ _ (T_62.setTop (mkF m 86 #[.val (.int p0), .val (.int p1), .val (.int w0_23), .val (.int w0_41)] []))
              refine Go.of (fun t k => XS.iconst X_62.here hx rfl (hb hby d2_86) k) ?_
              show Go p e below s _ _ _ (T_62.setTop (mkF m 87 #[.val (.int p0), .val (.int p1), .val (.int w0_23), .val (.int w0_41)] [(.int (1 : Int32))]))
              refine Go.of (fun t k => XS.goto X_62.here hx rfl (pc0 := 87) (pc' := 91) rfl (hb hby d2_87) (by decide) (by decide) k) ?_
              show Go p e below s _ _ _ (T_62.setTop (mkF m 91 #[.val (.int p0), .val (.int p1), .val (.int w0_23), .val (.int w0_41)] [(.int (1 : Int32))]))
              exact Go.ret X_62 (some (.int (1 : Int32))) (fun h => by rw [Bd.returns] at h; cases h) hlk ⟨rfl, N_62, e_62⟩ (by decide) (by decide) (fun fs hr => (retN X_62 hx (t := .boolean) Bd.returns (by simp) (hb hby d2_91) hr))
            · rewrite [if_neg hc66_7]
              refine Go.of (fun t k => XS.icmpNo X_62.here hx rfl (hb hby d2_66) rfl (feq hc66_7).1 k) ?_
              show Go p e below s _ _ _ (T_62.setTop (mkF m 69 #[.val (.int p0), .val (.int p1), .val (.int w0_23), .val (.int w0_41)] []))
              refine Go.of (fun t k => XS.iloadN X_62.here hx rfl (hb hby d2_69) rfl k) ?_
              show Go p e below s _ _ _ (T_62.setTop (mkF m 70 #[.val (.int p0), .val (.int p1), .val (.int w0_23), .val (.int w0_41)] [(.int p0)]))
              refine Go.of (fun t k => XS.sipush X_62.here hx rfl (hb hby d2_70) k) ?_
              show Go p e below s _ _ _ (T_62.setTop (mkF m 73 #[.val (.int p0), .val (.int p1), .val (.int w0_23), .val (.int w0_41)] [(.int (160 : Int32)), (.int p0)]))
              have jn82 : ∀ (T_82 : State) (l_82 : List Loc) (X_82 : Stand p l e ({ frames := 0, cells := 0, slots := 0, locals := 0 } : Room) s m #[(.int p0), (.int p1)] below meth c T_82 l_82 0 0) (e_82 : T_82.heap = h0) (N_82 : Fr n0 l_82), Go p e below s (QP (some (.int (F2_82 w0_41))) h0 n0) ({ frames := 0, cells := 0, slots := 0, locals := 0 } : Room).cells ({ frames := 0, cells := 0, slots := 0, locals := 0 } : Room).slots (T_82.setTop (mkF m 82 #[.val (.int p0), .val (.int p1), .val (.int w0_23), .val (.int w0_41)] [])) := by
                intro T_82 l_82 X_82 e_82 N_82
                unfold F2_82
                refine Go.of (fun t k => XS.iloadN X_82.here hx rfl (hb hby d2_82) rfl k) ?_
                show Go p e below s _ _ _ (T_82.setTop (mkF m 83 #[.val (.int p0), .val (.int p1), .val (.int w0_23), .val (.int w0_41)] [(.int w0_41)]))
                by_cases hc83_8 : w0_41 = (0 : Int32)
                · rewrite [if_pos hc83_8]
                  refine Go.of (fun t k => XS.ifYes X_82.here hx rfl (pc0 := 83) (pc' := 90) rfl (hb hby d2_83) rfl ((if0 _ _).trans (teq hc83_8).1) (by decide) (by decide) k) ?_
                  show Go p e below s _ _ _ (T_82.setTop (mkF m 90 #[.val (.int p0), .val (.int p1), .val (.int w0_23), .val (.int w0_41)] []))
                  refine Go.of (fun t k => XS.iconst X_82.here hx rfl (hb hby d2_90) k) ?_
                  show Go p e below s _ _ _ (T_82.setTop (mkF m 91 #[.val (.int p0), .val (.int p1), .val (.int w0_23), .val (.int w0_41)] [(.int (0 : Int32))]))
                  exact Go.ret X_82 (some (.int (0 : Int32))) (fun h => by rw [Bd.returns] at h; cases h) hlk ⟨rfl, N_82, e_82⟩ (by decide) (by decide) (fun fs hr => (retN X_82 hx (t := .boolean) Bd.returns (by simp) (hb hby d2_91) hr))
                · rewrite [if_neg hc83_8]
                  refine Go.of (fun t k => XS.ifNo X_82.here hx rfl (hb hby d2_83) rfl ((if0 _ _).trans (feq hc83_8).1) k) ?_
                  show Go p e below s _ _ _ (T_82.setTop (mkF m 86 #[.val (.int p0), .val (.int p1), .val (.int w0_23), .val (.int w0_41)] []))
                  refine Go.of (fun t k => XS.iconst X_82.here hx rfl (hb hby d2_86) k) ?_
                  show Go p e below s _ _ _ (T_82.setTop (mkF m 87 #[.val (.int p0), .val (.int p1), .val (.int w0_23), .val (.int w0_41)] [(.int (1 : Int32))]))
                  refine Go.of (fun t k => XS.goto X_82.here hx rfl (pc0 := 87) (pc' := 91) rfl (hb hby d2_87) (by decide) (by decide) k) ?_
                  show Go p e below s _ _ _ (T_82.setTop (mkF m 91 #[.val (.int p0), .val (.int p1), .val (.int w0_23), .val (.int w0_41)] [(.int (1 : Int32))]))
                  exact Go.ret X_82 (some (.int (1 : Int32))) (fun h => by rw [Bd.returns] at h; cases h) hlk ⟨rfl, N_82, e_82⟩ (by decide) (by decide) (fun fs hr => (retN X_82 hx (t := .boolean) Bd.returns (by simp) (hb hby d2_91) hr))
              by_cases hc73_9 : p0 < (160 : Int32)
              · rewrite [if_pos hc73_9]
                refine Go.of (fun t k => XS.icmpYes X_62.here hx rfl (pc0 := 73) (pc' := 82) rfl (hb hby d2_73) rfl (tlt hc73_9).1 (by decide) (by decide) k) ?_
                show Go p e below s _ _ _ (T_62.setTop (mkF m 82 #[.val (.int p0), .val (.int p1), .val (.int w0_23), .val (.int w0_41)] []))
                exact jn82   T_62 _ X_62 e_62 N_62  
              · rewrite [if_neg hc73_9]
                refine Go.of (fun t k => XS.icmpNo X_62.here hx rfl (hb hby d2_73) rfl (flt hc73_9).1 k) ?_
                show Go p e below s _ _ _ (T_62.setTop (mkF m 76 #[.val (.int p0), .val (.int p1), .val (.int w0_23), .val (.int w0_41)] []))
                refine Go.of (fun t k => XS.iloadN X_62.here hx rfl (hb hby d2_76) rfl k) ?_
                show Go p e below s _ _ _ (T_62.setTop (mkF m 77 #[.val (.int p0), .val (.int p1), .val (.int w0_23), .val (.int w0_41)] [(.int p0)]))
                refine Go.of (X_62.ldcInt hx hown (mvT hZ (hw _ (List.mem_of_getElem? (i := 12) rfl))) (g := (mkF m 77 #[.val (.int p0), .val (.int p1), .val (.int w0_23), .val (.int w0_41)] [(.int p0)])) rfl (hb hby d2_77)) ?_
                show Go p e below s _ _ _ (T_62.setTop (mkF m 79 #[.val (.int p0), .val (.int p1), .val (.int w0_23), .val (.int w0_41)] [(.int (55295 : Int32)), (.int p0)]))
                by_cases hc79_10 : (55295 : Int32) < p0
                · rewrite [if_pos hc79_10]
                  refine Go.of (fun t k => XS.icmpNo X_62.here hx rfl (hb hby d2_79) rfl (tlt hc79_10).2.2.2 k) ?_
                  show Go p e below s _ _ _ (T_62.setTop (mkF m 82 #[.val (.int p0), .val (.int p1), .val (.int w0_23), .val (.int w0_41)] []))
                  exact jn82   T_62 _ X_62 e_62 N_62  
                · rewrite [if_neg hc79_10]
                  refine Go.of (fun t k => XS.icmpYes X_62.here hx rfl (pc0 := 79) (pc' := 86) rfl (hb hby d2_79) rfl (flt hc79_10).2.2.2 (by decide) (by decide) k) ?_
                  show Go p e below s _ _ _ (T_62.setTop (mkF m 86 #[.val (.int p0), .val (.int p1), .val (.int w0_23), .val (.int w0_41)] []))
                  refine Go.of (fun t k => XS.iconst X_62.here hx rfl (hb hby d2_86) k) ?_
                  show Go p e below s _ _ _ (T_62.setTop (mkF m 87 #[.val (.int p0), .val (.int p1), .val (.int w0_23), .val (.int w0_41)] [(.int (1 : Int32))]))
                  refine Go.of (fun t k => XS.goto X_62.here hx rfl (pc0 := 87) (pc' := 91) rfl (hb hby d2_87) (by decide) (by decide) k) ?_
                  show Go p e below s _ _ _ (T_62.setTop (mkF m 91 #[.val (.int p0), .val (.int p1), .val (.int w0_23), .val (.int w0_41)] [(.int (1 : Int32))]))
                  exact Go.ret X_62 (some (.int (1 : Int32))) (fun h => by rw [Bd.returns] at h; cases h) hlk ⟨rfl, N_62, e_62⟩ (by decide) (by decide) (fun fs hr => (retN X_62 hx (t := .boolean) Bd.returns (by simp) (hb hby d2_91) hr))
          by_cases hc53_11 : p0 < (32 : Int32)
          · rewrite [if_pos hc53_11]
            refine Go.of (fun t k => XS.icmpYes X_41.here hx rfl (pc0 := 53) (pc' := 62) rfl (hb hby d2_53) rfl (tlt hc53_11).1 (by decide) (by decide) k) ?_
            show Go p e below s _ _ _ (T_41.setTop (mkF m 62 #[.val (.int p0), .val (.int p1), .val (.int w0_23), .val (.int w0_41)] []))
            exact jn62   T_41 _ X_41 e_41 N_41  
          · rewrite [if_neg hc53_11]
            refine Go.of (fun t k => XS.icmpNo X_41.here hx rfl (hb hby d2_53) rfl (flt hc53_11).1 k) ?_
            show Go p e below s _ _ _ (T_41.setTop (mkF m 56 #[.val (.int p0), .val (.int p1), .val (.int w0_23), .val (.int w0_41)] []))
            refine Go.of (fun t k => XS.iloadN X_41.here hx rfl (hb hby d2_56) rfl k) ?_
            show Go p e below s _ _ _ (T_41.setTop (mkF m 57 #[.val (.int p0), .val (.int p1), .val (.int w0_23), .val (.int w0_41)] [(.int p0)]))
            refine Go.of (fun t k => XS.bipush X_41.here hx rfl (hb hby d2_57) k) ?_
            show Go p e below s _ _ _ (T_41.setTop (mkF m 59 #[.val (.int p0), .val (.int p1), .val (.int w0_23), .val (.int w0_41)] [(.int (126 : Int32)), (.int p0)]))
            by_cases hc59_12 : (126 : Int32) < p0
            · rewrite [if_pos hc59_12]
              refine Go.of (fun t k => XS.icmpNo X_41.here hx rfl (hb hby d2_59) rfl (tlt hc59_12).2.2.2 k) ?_
              show Go p e below s _ _ _ (T_41.setTop (mkF m 62 #[.val (.int p0), .val (.int p1), .val (.int w0_23), .val (.int w0_41)] []))
              exact jn62   T_41 _ X_41 e_41 N_41  
            · rewrite [if_neg hc59_12]
              refine Go.of (fun t k => XS.icmpYes X_41.here hx rfl (pc0 := 59) (pc' := 86) rfl (hb hby d2_59) rfl (flt hc59_12).2.2.2 (by decide) (by decide) k) ?_
              show Go p e below s _ _ _ (T_41.setTop (mkF m 86 #[.val (.int p0), .val (.int p1), .val (.int w0_23), .val (.int w0_41)] []))
              refine Go.of (fun t k => XS.iconst X_41.here hx rfl (hb hby d2_86) k) ?_
              show Go p e below s _ _ _ (T_41.setTop (mkF m 87 #[.val (.int p0), .val (.int p1), .val (.int w0_23), .val (.int w0_41)] [(.int (1 : Int32))]))
              refine Go.of (fun t k => XS.goto X_41.here hx rfl (pc0 := 87) (pc' := 91) rfl (hb hby d2_87) (by decide) (by decide) k) ?_
              show Go p e below s _ _ _ (T_41.setTop (mkF m 91 #[.val (.int p0), .val (.int p1), .val (.int w0_23), .val (.int w0_41)] [(.int (1 : Int32))]))
              exact Go.ret X_41 (some (.int (1 : Int32))) (fun h => by rw [Bd.returns] at h; cases h) hlk ⟨rfl, N_41, e_41⟩ (by decide) (by decide) (fun fs hr => (retN X_41 hx (t := .boolean) Bd.returns (by simp) (hb hby d2_91) hr))
        · rewrite [if_neg hc47_6]
          refine Go.of (fun t k => XS.ifYes X_41.here hx rfl (pc0 := 47) (pc' := 86) rfl (hb hby d2_47) rfl ((if0 _ _).trans (feq hc47_6).2) (by decide) (by decide) k) ?_
          show Go p e below s _ _ _ (T_41.setTop (mkF m 86 #[.val (.int p0), .val (.int p1), .val (.int w0_23), .val (.int w0_41)] []))
          refine Go.of (fun t k => XS.iconst X_41.here hx rfl (hb hby d2_86) k) ?_
          show Go p e below s _ _ _ (T_41.setTop (mkF m 87 #[.val (.int p0), .val (.int p1), .val (.int w0_23), .val (.int w0_41)] [(.int (1 : Int32))]))
          refine Go.of (fun t k => XS.goto X_41.here hx rfl (pc0 := 87) (pc' := 91) rfl (hb hby d2_87) (by decide) (by decide) k) ?_
          show Go p e below s _ _ _ (T_41.setTop (mkF m 91 #[.val (.int p0), .val (.int p1), .val (.int w0_23), .val (.int w0_41)] [(.int (1 : Int32))]))
          exact Go.ret X_41 (some (.int (1 : Int32))) (fun h => by rw [Bd.returns] at h; cases h) hlk ⟨rfl, N_41, e_41⟩ (by decide) (by decide) (fun fs hr => (retN X_41 hx (t := .boolean) Bd.returns (by simp) (hb hby d2_91) hr))
    have jn40 : ∀ (T_40 : State) (l_40 : List Loc) (X_40 : Stand p l e ({ frames := 0, cells := 0, slots := 0, locals := 0 } : Room) s m #[(.int p0), (.int p1)] below meth c T_40 l_40 0 0) (e_40 : T_40.heap = h0) (N_40 : Fr n0 l_40), Go p e below s (QP (some (.int (F2_40 p0 p1 w0_23))) h0 n0) ({ frames := 0, cells := 0, slots := 0, locals := 0 } : Room).cells ({ frames := 0, cells := 0, slots := 0, locals := 0 } : Room).slots (T_40.setTop (mkF m 40 #[.val (.int p0), .val (.int p1), .val (.int w0_23), .unset] [])) := by
      intro T_40 l_40 X_40 e_40 N_40
      unfold F2_40
      refine Go.of (fun t k => XS.iconst X_40.here hx rfl (hb hby d2_40) k) ?_
      show Go p e below s _ _ _ (T_40.setTop (mkF m 41 #[.val (.int p0), .val (.int p1), .val (.int w0_23), .unset] [(.int (0 : Int32))]))
      exact jn41 (0 : Int32)  T_40 _ X_40 e_40 N_40  
    by_cases hc27_13 : p0 < (57344 : Int32)
    · rewrite [if_pos hc27_13]
      refine Go.of (fun t k => XS.icmpYes X_23.here hx rfl (pc0 := 27) (pc' := 40) rfl (hb hby d2_27) rfl (tlt hc27_13).1 (by decide) (by decide) k) ?_
      show Go p e below s _ _ _ (T_23.setTop (mkF m 40 #[.val (.int p0), .val (.int p1), .val (.int w0_23), .unset] []))
      exact jn40   T_23 _ X_23 e_23 N_23  
    · rewrite [if_neg hc27_13]
      refine Go.of (fun t k => XS.icmpNo X_23.here hx rfl (hb hby d2_27) rfl (flt hc27_13).1 k) ?_
      show Go p e below s _ _ _ (T_23.setTop (mkF m 30 #[.val (.int p0), .val (.int p1), .val (.int w0_23), .unset] []))
      refine Go.of (fun t k => XS.iloadN X_23.here hx rfl (hb hby d2_30) rfl k) ?_
      show Go p e below s _ _ _ (T_23.setTop (mkF m 31 #[.val (.int p0), .val (.int p1), .val (.int w0_23), .unset] [(.int p0)]))
      refine Go.of (X_23.ldcInt hx hown (mvT hZ (hw _ (List.mem_of_getElem? (i := 16) rfl))) (g := (mkF m 31 #[.val (.int p0), .val (.int p1), .val (.int w0_23), .unset] [(.int p0)])) rfl (hb hby d2_31)) ?_
      show Go p e below s _ _ _ (T_23.setTop (mkF m 33 #[.val (.int p0), .val (.int p1), .val (.int w0_23), .unset] [(.int (65533 : Int32)), (.int p0)]))
      by_cases hc33_14 : (65533 : Int32) < p0
      · rewrite [if_pos hc33_14]
        refine Go.of (fun t k => XS.icmpYes X_23.here hx rfl (pc0 := 33) (pc' := 40) rfl (hb hby d2_33) rfl (tlt hc33_14).2.2.1 (by decide) (by decide) k) ?_
        show Go p e below s _ _ _ (T_23.setTop (mkF m 40 #[.val (.int p0), .val (.int p1), .val (.int w0_23), .unset] []))
        exact jn40   T_23 _ X_23 e_23 N_23  
      · rewrite [if_neg hc33_14]
        refine Go.of (fun t k => XS.icmpNo X_23.here hx rfl (hb hby d2_33) rfl (flt hc33_14).2.2.1 k) ?_
        show Go p e below s _ _ _ (T_23.setTop (mkF m 36 #[.val (.int p0), .val (.int p1), .val (.int w0_23), .unset] []))
        refine Go.of (fun t k => XS.iconst X_23.here hx rfl (hb hby d2_36) k) ?_
        show Go p e below s _ _ _ (T_23.setTop (mkF m 37 #[.val (.int p0), .val (.int p1), .val (.int w0_23), .unset] [(.int (1 : Int32))]))
        refine Go.of (fun t k => XS.goto X_23.here hx rfl (pc0 := 37) (pc' := 41) rfl (hb hby d2_37) (by decide) (by decide) k) ?_
        show Go p e below s _ _ _ (T_23.setTop (mkF m 41 #[.val (.int p0), .val (.int p1), .val (.int w0_23), .unset] [(.int (1 : Int32))]))
        exact jn41 (1 : Int32)  T_23 _ X_23 e_23 N_23  
  have jn18 : ∀ (T_18 : State) (l_18 : List Loc) (X_18 : Stand p l e ({ frames := 0, cells := 0, slots := 0, locals := 0 } : Room) s m #[(.int p0), (.int p1)] below meth c T_18 l_18 0 0) (e_18 : T_18.heap = h0) (N_18 : Fr n0 l_18), Go p e below s (QP (some (.int (F2_18 p0 p1))) h0 n0) ({ frames := 0, cells := 0, slots := 0, locals := 0 } : Room).cells ({ frames := 0, cells := 0, slots := 0, locals := 0 } : Room).slots (T_18.setTop (mkF m 18 #[.val (.int p0), .val (.int p1), .unset, .unset] [])) := by
    intro T_18 l_18 X_18 e_18 N_18
    unfold F2_18
    refine Go.of (fun t k => XS.iconst X_18.here hx rfl (hb hby d2_18) k) ?_
    show Go p e below s _ _ _ (T_18.setTop (mkF m 19 #[.val (.int p0), .val (.int p1), .unset, .unset] [(.int (1 : Int32))]))
    refine Go.of (fun t k => XS.goto X_18.here hx rfl (pc0 := 19) (pc' := 23) rfl (hb hby d2_19) (by decide) (by decide) k) ?_
    show Go p e below s _ _ _ (T_18.setTop (mkF m 23 #[.val (.int p0), .val (.int p1), .unset, .unset] [(.int (1 : Int32))]))
    exact jn23 (1 : Int32)  T_18 _ X_18 e_18 N_18  
  by_cases hc3_15 : p0 = (9 : Int32)
  · rewrite [if_pos hc3_15]
    refine Go.of (fun t k => XS.icmpYes X0.here hx rfl (pc0 := 3) (pc' := 18) rfl (hb hby d2_3) rfl (teq hc3_15).1 (by decide) (by decide) k) ?_
    show Go p e below s _ _ _ (s₁.setTop (mkF m 18 #[.val (.int p0), .val (.int p1), .unset, .unset] []))
    exact jn18   s₁ _ X0 e0 N0  
  · rewrite [if_neg hc3_15]
    refine Go.of (fun t k => XS.icmpNo X0.here hx rfl (hb hby d2_3) rfl (feq hc3_15).1 k) ?_
    show Go p e below s _ _ _ (s₁.setTop (mkF m 6 #[.val (.int p0), .val (.int p1), .unset, .unset] []))
    refine Go.of (fun t k => XS.iloadN X0.here hx rfl (hb hby d2_6) rfl k) ?_
    show Go p e below s _ _ _ (s₁.setTop (mkF m 7 #[.val (.int p0), .val (.int p1), .unset, .unset] [(.int p0)]))
    refine Go.of (fun t k => XS.bipush X0.here hx rfl (hb hby d2_7) k) ?_
    show Go p e below s _ _ _ (s₁.setTop (mkF m 9 #[.val (.int p0), .val (.int p1), .unset, .unset] [(.int (10 : Int32)), (.int p0)]))
    by_cases hc9_16 : p0 = (10 : Int32)
    · rewrite [if_pos hc9_16]
      refine Go.of (fun t k => XS.icmpYes X0.here hx rfl (pc0 := 9) (pc' := 18) rfl (hb hby d2_9) rfl (teq hc9_16).1 (by decide) (by decide) k) ?_
      show Go p e below s _ _ _ (s₁.setTop (mkF m 18 #[.val (.int p0), .val (.int p1), .unset, .unset] []))
      exact jn18   s₁ _ X0 e0 N0  
    · rewrite [if_neg hc9_16]
      refine Go.of (fun t k => XS.icmpNo X0.here hx rfl (hb hby d2_9) rfl (feq hc9_16).1 k) ?_
      show Go p e below s _ _ _ (s₁.setTop (mkF m 12 #[.val (.int p0), .val (.int p1), .unset, .unset] []))
      refine Go.of (fun t k => XS.iloadN X0.here hx rfl (hb hby d2_12) rfl k) ?_
      show Go p e below s _ _ _ (s₁.setTop (mkF m 13 #[.val (.int p0), .val (.int p1), .unset, .unset] [(.int p0)]))
      refine Go.of (fun t k => XS.bipush X0.here hx rfl (hb hby d2_13) k) ?_
      show Go p e below s _ _ _ (s₁.setTop (mkF m 15 #[.val (.int p0), .val (.int p1), .unset, .unset] [(.int (13 : Int32)), (.int p0)]))
      by_cases hc15_17 : p0 = (13 : Int32)
      · rewrite [if_pos hc15_17]
        refine Go.of (fun t k => XS.icmpNo X0.here hx rfl (hb hby d2_15) rfl (teq hc15_17).2 k) ?_
        show Go p e below s _ _ _ (s₁.setTop (mkF m 18 #[.val (.int p0), .val (.int p1), .unset, .unset] []))
        exact jn18   s₁ _ X0 e0 N0  
      · rewrite [if_neg hc15_17]
        refine Go.of (fun t k => XS.icmpYes X0.here hx rfl (pc0 := 15) (pc' := 22) rfl (hb hby d2_15) rfl (feq hc15_17).2 (by decide) (by decide) k) ?_
        show Go p e below s _ _ _ (s₁.setTop (mkF m 22 #[.val (.int p0), .val (.int p1), .unset, .unset] []))
        refine Go.of (fun t k => XS.iconst X0.here hx rfl (hb hby d2_22) k) ?_
        show Go p e below s _ _ _ (s₁.setTop (mkF m 23 #[.val (.int p0), .val (.int p1), .unset, .unset] [(.int (0 : Int32))]))
        exact jn23 (0 : Int32)  s₁ _ X0 e0 N0  
theorem own_pd0 : parseMethodDescriptor "(IZ)Z" = some ⟨[.int, .boolean], some .boolean⟩ := by decide +kernel
theorem ef_0 (m : MethodId) (p0 : Int32) (p1 : Int32) : entryFrame m #[(.int p0), (.int p1)] maxLocals = mkF m 0 #[.val (.int p0), .val (.int p1), .unset, .unset] [] := by first | (simp [entryFrame, mkF, argsToLocals, Value.category, maxLocals]; done) | rfl
def F0_31 (p0 : Int32) (w0_16 : Int32) : Int32 := (if (F1 (p0 &&& (65535 : Int32)) w0_16) = (F2 (p0 &&& (65535 : Int32)) w0_16) then (1 : Int32) else (0 : Int32))
def F0_16 (p0 : Int32) (w0_16 : Int32) : Int32 := (if (p0 &&& (65535 : Int32)) < (55296 : Int32) then (F0_31 p0 w0_16) else (if (57343 : Int32) < (p0 &&& (65535 : Int32)) then (F0_31 p0 w0_16) else (1 : Int32)))
def F0 (p0 : Int32) (p1 : Int32) : Int32 := (if (p1 &&& (1 : Int32)) = (0 : Int32) then (F0_16 p0 (0 : Int32)) else (F0_16 p0 (1 : Int32)))
set_option maxRecDepth 65536 in
set_option maxHeartbeats 40000000 in
theorem rm0 (l : Launch) (Z : State) (az : Array Value) (hw : ∀ d ∈ tables_1, d.before az Z = true) (ws : List Jvm.Cond) (p0 : Int32) (p1 : Int32)  (h0 : Heap) (n0 : Nat) (Z0 : n0 ≤ h0.size) :
    MetFree l x (head1 (Jvm.Cond.code x code maxLocals ret :: ws) room_1) (fun a U => a = #[(.int p0), (.int p1)] ∧ Z.Warmed39 U.vm ∧ U.heap = h0) (fun _ _ _ _ _ => True) (fun _ U o U' => ∃ v L, o = .returned v ∧ (QL (some (.int (F0 p0 p1))) n0) v U'.heap L ∧ FrameEnd U o U' L room_1.cells room_1.slots) := by
  refine MetFree.of_bodySF (plainFor_of_name own_pn1) hisR ?_
  intro p e s m args below meth c s₁ Bd hml0 hP hK
  obtain ⟨rfl, hZ, hh⟩ := hP
  have hx := Bd.exec
  have hby := Bd.bytes
  have hml : c.maxLocals = 4 := hml0
  have hown : s.vm.findClass "com/example/susurrus/susurrus/XmlDecoderIsAllowedPinLaw" = some m.cls := findClass_of_methodNamed Bd.named
  have hnm := (name_of_methodNamed Bd.named Bd.method).1
  have hlk : meth.locks = false := BodyLoose.notSynchronized Bd
  have X0 : Stand p l e room_1 s m #[(.int p0), (.int p1)] below meth c s₁ [] 0 0 := Stand.of_body Bd
  have e0 : s₁.heap = h0 := by rw [← hh, Bd.state]; rfl
  have N0 := Fr.nil n0
  show Go p e below s (QL (some (.int (F0 p0 p1))) n0) room_1.cells room_1.slots (s₁.setTop (entryFrame m #[(.int p0), (.int p1)] maxLocals))
  refine Go.of (fun t k => castTop (ef_0 m p0 p1) k) ?_
  show Go p e below s _ _ _ (s₁.setTop (mkF m 0 #[.val (.int p0), .val (.int p1), .unset, .unset] []))
  unfold F0
  refine Go.of (fun t k => XS.iloadN X0.here hx rfl (hb hby at_0) rfl k) ?_
  show Go p e below s _ _ _ (s₁.setTop (mkF m 1 #[.val (.int p0), .val (.int p1), .unset, .unset] [(.int p0)]))
  refine Go.of (X0.ldcInt hx hown (mvT hZ (hw _ (List.mem_of_getElem? (i := 0) rfl))) (g := (mkF m 1 #[.val (.int p0), .val (.int p1), .unset, .unset] [(.int p0)])) rfl (hb hby at_1)) ?_
  show Go p e below s _ _ _ (s₁.setTop (mkF m 3 #[.val (.int p0), .val (.int p1), .unset, .unset] [(.int (65535 : Int32)), (.int p0)]))
  refine Go.of (fun t k => XS.iand X0.here hx rfl (hb hby at_3) rfl k) ?_
  show Go p e below s _ _ _ (s₁.setTop (mkF m 4 #[.val (.int p0), .val (.int p1), .unset, .unset] [(.int (p0 &&& (65535 : Int32)))]))
  refine Go.of (fun t k => XS.istoreN X0.here hx rfl (hb hby at_4) rfl (l' := #[.val (.int p0), .val (.int p1), .val (.int (p0 &&& (65535 : Int32))), .unset]) rfl k) ?_
  show Go p e below s _ _ _ (s₁.setTop (mkF m 5 #[.val (.int p0), .val (.int p1), .val (.int (p0 &&& (65535 : Int32))), .unset] []))
  refine Go.of (fun t k => XS.iloadN X0.here hx rfl (hb hby at_5) rfl k) ?_
  show Go p e below s _ _ _ (s₁.setTop (mkF m 6 #[.val (.int p0), .val (.int p1), .val (.int (p0 &&& (65535 : Int32))), .unset] [(.int p1)]))
  refine Go.of (fun t k => XS.iconst X0.here hx rfl (hb hby at_6) k) ?_
  show Go p e below s _ _ _ (s₁.setTop (mkF m 7 #[.val (.int p0), .val (.int p1), .val (.int (p0 &&& (65535 : Int32))), .unset] [(.int (1 : Int32)), (.int p1)]))
  refine Go.of (fun t k => XS.iand X0.here hx rfl (hb hby at_7) rfl k) ?_
  show Go p e below s _ _ _ (s₁.setTop (mkF m 8 #[.val (.int p0), .val (.int p1), .val (.int (p0 &&& (65535 : Int32))), .unset] [(.int (p1 &&& (1 : Int32)))]))
  have jn16 : ∀ (w0_16 : Int32) (T_16 : State) (l_16 : List Loc) (X_16 : Stand p l e room_1 s m #[(.int p0), (.int p1)] below meth c T_16 l_16 0 0) (e_16 : T_16.heap = h0) (N_16 : Fr n0 l_16), Go p e below s (QL (some (.int (F0_16 p0 w0_16))) n0) room_1.cells room_1.slots (T_16.setTop (mkF m 16 #[.val (.int p0), .val (.int p1), .val (.int (p0 &&& (65535 : Int32))), .unset] [(.int w0_16)])) := by
    intro w0_16 T_16 l_16 X_16 e_16 N_16
    unfold F0_16
    refine Go.of (fun t k => XS.istoreN X_16.here hx rfl (hb hby at_16) rfl (l' := #[.val (.int p0), .val (.int p1), .val (.int (p0 &&& (65535 : Int32))), .val (.int w0_16)]) rfl k) ?_
    show Go p e below s _ _ _ (T_16.setTop (mkF m 17 #[.val (.int p0), .val (.int p1), .val (.int (p0 &&& (65535 : Int32))), .val (.int w0_16)] []))
    refine Go.of (fun t k => XS.iloadN X_16.here hx rfl (hb hby at_17) rfl k) ?_
    show Go p e below s _ _ _ (T_16.setTop (mkF m 18 #[.val (.int p0), .val (.int p1), .val (.int (p0 &&& (65535 : Int32))), .val (.int w0_16)] [(.int (p0 &&& (65535 : Int32)))]))
    refine Go.of (X_16.ldcInt hx hown (mvT hZ (hw _ (List.mem_of_getElem? (i := 1) rfl))) (g := (mkF m 18 #[.val (.int p0), .val (.int p1), .val (.int (p0 &&& (65535 : Int32))), .val (.int w0_16)] [(.int (p0 &&& (65535 : Int32)))])) rfl (hb hby at_18)) ?_
    show Go p e below s _ _ _ (T_16.setTop (mkF m 20 #[.val (.int p0), .val (.int p1), .val (.int (p0 &&& (65535 : Int32))), .val (.int w0_16)] [(.int (55296 : Int32)), (.int (p0 &&& (65535 : Int32)))]))
    have jn31 : ∀ (T_31 : State) (l_31 : List Loc) (X_31 : Stand p l e room_1 s m #[(.int p0), (.int p1)] below meth c T_31 l_31 0 0) (e_31 : T_31.heap = h0) (N_31 : Fr n0 l_31), Go p e below s (QL (some (.int (F0_31 p0 w0_16))) n0) room_1.cells room_1.slots (T_31.setTop (mkF m 31 #[.val (.int p0), .val (.int p1), .val (.int (p0 &&& (65535 : Int32))), .val (.int w0_16)] [])) := by
      intro T_31 l_31 X_31 e_31 N_31
      unfold F0_31
      refine Go.of (fun t k => XS.iloadN X_31.here hx rfl (hb hby at_31) rfl k) ?_
      show Go p e below s _ _ _ (T_31.setTop (mkF m 32 #[.val (.int p0), .val (.int p1), .val (.int (p0 &&& (65535 : Int32))), .val (.int w0_16)] [(.int (p0 &&& (65535 : Int32)))]))
      refine Go.of (fun t k => XS.iloadN X_31.here hx rfl (hb hby at_32) rfl k) ?_
      show Go p e below s _ _ _ (T_31.setTop (mkF m 33 #[.val (.int p0), .val (.int p1), .val (.int (p0 &&& (65535 : Int32))), .val (.int w0_16)] [(.int w0_16), (.int (p0 &&& (65535 : Int32)))]))
      obtain ⟨_, _, ⟨T1, L1, k1, n1⟩, -, X1, ⟨Lc1, hQ1, l1, y1, z1⟩, st1⟩ := Jvm.LawKit.callS X_31 hx (y := (⟨"com/example/susurrus/susurrus/XmlDecoder", "isAllowed", "(IZ)Z"⟩ : MethodName)) hown (mvT hZ (hw _ (List.mem_of_getElem? (i := 2) rfl))) (mvT hZ (hw _ (List.mem_of_getElem? (i := 3) rfl))) (mvT hZ (hw _ (List.mem_of_getElem? (i := 4) rfl))) (mvT hZ (hw _ (List.mem_of_getElem? (i := 5) rfl))) (by decide) (backOf (W := 0) (rm1 l Z az hw [] (p0 &&& (65535 : Int32)) w0_16 h0 n0 Z0) hZ (hw _ (List.mem_of_getElem? (i := 5) rfl)) (hw _ (List.mem_of_getElem? (i := 4) rfl)) (by decide) (by decide)) (g := (mkF m 33 #[.val (.int p0), .val (.int p1), .val (.int (p0 &&& (65535 : Int32))), .val (.int w0_16)] [(.int w0_16), (.int (p0 &&& (65535 : Int32)))])) rfl (by rw [hml]; rfl) (argsL := [(.int (p0 &&& (65535 : Int32))), (.int w0_16)]) (rest := []) (lenOf own_pd0 rfl) rfl (by show 2 * 0 + _ ≤ _; exact Nat.le_of_eq rfl) (hb hby at_33) (fun _ _ => ⟨rfl, e_31, (by decide : 0 + 0 ≤ _), (by decide : 0 + 0 ≤ _)⟩)
      dsimp only [Pt.U, Pt.locs, Pt.cells, Pt.slots] at X1 l1 y1 z1 st1 hQ1
      subst l1 y1 z1
      obtain ⟨rfl, N1q, e1⟩ := hQ1
      have N1 := Fr.app N_31 N1q
      refine Go.of st1 ?_
      show Go p e below s _ _ _ (T1.setTop (mkF m 36 #[.val (.int p0), .val (.int p1), .val (.int (p0 &&& (65535 : Int32))), .val (.int w0_16)] [(.int (F1 (p0 &&& (65535 : Int32)) w0_16))]))
      refine Go.of (fun t k => XS.iloadN X1.here hx rfl (hb hby at_36) rfl k) ?_
      show Go p e below s _ _ _ (T1.setTop (mkF m 37 #[.val (.int p0), .val (.int p1), .val (.int (p0 &&& (65535 : Int32))), .val (.int w0_16)] [(.int (p0 &&& (65535 : Int32))), (.int (F1 (p0 &&& (65535 : Int32)) w0_16))]))
      refine Go.of (fun t k => XS.iloadN X1.here hx rfl (hb hby at_37) rfl k) ?_
      show Go p e below s _ _ _ (T1.setTop (mkF m 38 #[.val (.int p0), .val (.int p1), .val (.int (p0 &&& (65535 : Int32))), .val (.int w0_16)] [(.int w0_16), (.int (p0 &&& (65535 : Int32))), (.int (F1 (p0 &&& (65535 : Int32)) w0_16))]))
      obtain ⟨_, _, ⟨T2, L2, k2, n2⟩, -, X2, ⟨Lc2, hQ2, l2, y2, z2⟩, st2⟩ := Jvm.LawKit.callS X1 hx (y := (⟨"com/example/susurrus/susurrus/XmlDecoderIsAllowedPinLaw", "expected", "(IZ)Z"⟩ : MethodName)) hown (mvT hZ (hw _ (List.mem_of_getElem? (i := 6) rfl))) (mvT hZ (hw _ (List.mem_of_getElem? (i := 7) rfl))) (mvT hZ (hw _ (List.mem_of_getElem? (i := 8) rfl))) (mvT hZ (hw _ (List.mem_of_getElem? (i := 9) rfl))) (by decide) (backOf (W := 1) (rm2 l Z az hw [] (p0 &&& (65535 : Int32)) w0_16 h0 n0 Z0) hZ (hw _ (List.mem_of_getElem? (i := 9) rfl)) (hw _ (List.mem_of_getElem? (i := 8) rfl)) (by decide) (by decide)) (g := (mkF m 38 #[.val (.int p0), .val (.int p1), .val (.int (p0 &&& (65535 : Int32))), .val (.int w0_16)] [(.int w0_16), (.int (p0 &&& (65535 : Int32))), (.int (F1 (p0 &&& (65535 : Int32)) w0_16))])) rfl (by rw [hml]; rfl) (argsL := [(.int (p0 &&& (65535 : Int32))), (.int w0_16)]) (rest := [(.int (F1 (p0 &&& (65535 : Int32)) w0_16))]) (lenOf own_pd0 rfl) rfl (by show 2 * 0 + _ ≤ _; exact Nat.le_of_eq rfl) (hb hby at_38) (fun _ _ => ⟨rfl, e1, (by decide : 0 + 0 ≤ _), (by decide : 0 + 0 ≤ _)⟩)
      dsimp only [Pt.U, Pt.locs, Pt.cells, Pt.slots] at X2 l2 y2 z2 st2 hQ2
      subst l2 y2 z2
      obtain ⟨rfl, N2q, e2⟩ := hQ2
      have N2 := Fr.app N1 N2q
      refine Go.of st2 ?_
      show Go p e below s _ _ _ (T2.setTop (mkF m 41 #[.val (.int p0), .val (.int p1), .val (.int (p0 &&& (65535 : Int32))), .val (.int w0_16)] [(.int (F2 (p0 &&& (65535 : Int32)) w0_16)), (.int (F1 (p0 &&& (65535 : Int32)) w0_16))]))
      by_cases hc41_3 : (F1 (p0 &&& (65535 : Int32)) w0_16) = (F2 (p0 &&& (65535 : Int32)) w0_16)
      · rewrite [if_pos hc41_3]
        refine Go.of (fun t k => XS.icmpNo X2.here hx rfl (hb hby at_41) rfl (teq hc41_3).2 k) ?_
        show Go p e below s _ _ _ (T2.setTop (mkF m 44 #[.val (.int p0), .val (.int p1), .val (.int (p0 &&& (65535 : Int32))), .val (.int w0_16)] []))
        refine Go.of (fun t k => XS.iconst X2.here hx rfl (hb hby at_44) k) ?_
        show Go p e below s _ _ _ (T2.setTop (mkF m 45 #[.val (.int p0), .val (.int p1), .val (.int (p0 &&& (65535 : Int32))), .val (.int w0_16)] [(.int (1 : Int32))]))
        refine Go.of (fun t k => XS.goto X2.here hx rfl (pc0 := 45) (pc' := 49) rfl (hb hby at_45) (by decide) (by decide) k) ?_
        show Go p e below s _ _ _ (T2.setTop (mkF m 49 #[.val (.int p0), .val (.int p1), .val (.int (p0 &&& (65535 : Int32))), .val (.int w0_16)] [(.int (1 : Int32))]))
        exact Go.ret X2 (some (.int (1 : Int32))) (fun h => by rw [Bd.returns] at h; cases h) hlk ⟨rfl, N2⟩ (by decide) (by decide) (fun fs hr => (retN X2 hx (t := .boolean) Bd.returns (by simp) (hb hby at_49) hr))
      · rewrite [if_neg hc41_3]
        refine Go.of (fun t k => XS.icmpYes X2.here hx rfl (pc0 := 41) (pc' := 48) rfl (hb hby at_41) rfl (feq hc41_3).2 (by decide) (by decide) k) ?_
        show Go p e below s _ _ _ (T2.setTop (mkF m 48 #[.val (.int p0), .val (.int p1), .val (.int (p0 &&& (65535 : Int32))), .val (.int w0_16)] []))
        refine Go.of (fun t k => XS.iconst X2.here hx rfl (hb hby at_48) k) ?_
        show Go p e below s _ _ _ (T2.setTop (mkF m 49 #[.val (.int p0), .val (.int p1), .val (.int (p0 &&& (65535 : Int32))), .val (.int w0_16)] [(.int (0 : Int32))]))
        exact Go.ret X2 (some (.int (0 : Int32))) (fun h => by rw [Bd.returns] at h; cases h) hlk ⟨rfl, N2⟩ (by decide) (by decide) (fun fs hr => (retN X2 hx (t := .boolean) Bd.returns (by simp) (hb hby at_49) hr))
    by_cases hc20_4 : (p0 &&& (65535 : Int32)) < (55296 : Int32)
    · rewrite [if_pos hc20_4]
      refine Go.of (fun t k => XS.icmpYes X_16.here hx rfl (pc0 := 20) (pc' := 31) rfl (hb hby at_20) rfl (tlt hc20_4).1 (by decide) (by decide) k) ?_
      show Go p e below s _ _ _ (T_16.setTop (mkF m 31 #[.val (.int p0), .val (.int p1), .val (.int (p0 &&& (65535 : Int32))), .val (.int w0_16)] []))
      exact jn31   T_16 _ X_16 e_16 N_16  
    · rewrite [if_neg hc20_4]
      refine Go.of (fun t k => XS.icmpNo X_16.here hx rfl (hb hby at_20) rfl (flt hc20_4).1 k) ?_
      show Go p e below s _ _ _ (T_16.setTop (mkF m 23 #[.val (.int p0), .val (.int p1), .val (.int (p0 &&& (65535 : Int32))), .val (.int w0_16)] []))
      refine Go.of (fun t k => XS.iloadN X_16.here hx rfl (hb hby at_23) rfl k) ?_
      show Go p e below s _ _ _ (T_16.setTop (mkF m 24 #[.val (.int p0), .val (.int p1), .val (.int (p0 &&& (65535 : Int32))), .val (.int w0_16)] [(.int (p0 &&& (65535 : Int32)))]))
      refine Go.of (X_16.ldcInt hx hown (mvT hZ (hw _ (List.mem_of_getElem? (i := 13) rfl))) (g := (mkF m 24 #[.val (.int p0), .val (.int p1), .val (.int (p0 &&& (65535 : Int32))), .val (.int w0_16)] [(.int (p0 &&& (65535 : Int32)))])) rfl (hb hby at_24)) ?_
      show Go p e below s _ _ _ (T_16.setTop (mkF m 26 #[.val (.int p0), .val (.int p1), .val (.int (p0 &&& (65535 : Int32))), .val (.int w0_16)] [(.int (57343 : Int32)), (.int (p0 &&& (65535 : Int32)))]))
      by_cases hc26_5 : (57343 : Int32) < (p0 &&& (65535 : Int32))
      · rewrite [if_pos hc26_5]
        refine Go.of (fun t k => XS.icmpYes X_16.here hx rfl (pc0 := 26) (pc' := 31) rfl (hb hby at_26) rfl (tlt hc26_5).2.2.1 (by decide) (by decide) k) ?_
        show Go p e below s _ _ _ (T_16.setTop (mkF m 31 #[.val (.int p0), .val (.int p1), .val (.int (p0 &&& (65535 : Int32))), .val (.int w0_16)] []))
        exact jn31   T_16 _ X_16 e_16 N_16  
      · rewrite [if_neg hc26_5]
        refine Go.of (fun t k => XS.icmpNo X_16.here hx rfl (hb hby at_26) rfl (flt hc26_5).2.2.1 k) ?_
        show Go p e below s _ _ _ (T_16.setTop (mkF m 29 #[.val (.int p0), .val (.int p1), .val (.int (p0 &&& (65535 : Int32))), .val (.int w0_16)] []))
        refine Go.of (fun t k => XS.iconst X_16.here hx rfl (hb hby at_29) k) ?_
        show Go p e below s _ _ _ (T_16.setTop (mkF m 30 #[.val (.int p0), .val (.int p1), .val (.int (p0 &&& (65535 : Int32))), .val (.int w0_16)] [(.int (1 : Int32))]))
        exact Go.ret X_16 (some (.int (1 : Int32))) (fun h => by rw [Bd.returns] at h; cases h) hlk ⟨rfl, N_16⟩ (by decide) (by decide) (fun fs hr => (retN X_16 hx (t := .boolean) Bd.returns (by simp) (hb hby at_30) hr))
  by_cases hc8_6 : (p1 &&& (1 : Int32)) = (0 : Int32)
  · rewrite [if_pos hc8_6]
    refine Go.of (fun t k => XS.ifYes X0.here hx rfl (pc0 := 8) (pc' := 15) rfl (hb hby at_8) rfl ((if0 _ _).trans (teq hc8_6).1) (by decide) (by decide) k) ?_
    show Go p e below s _ _ _ (s₁.setTop (mkF m 15 #[.val (.int p0), .val (.int p1), .val (.int (p0 &&& (65535 : Int32))), .unset] []))
    refine Go.of (fun t k => XS.iconst X0.here hx rfl (hb hby at_15) k) ?_
    show Go p e below s _ _ _ (s₁.setTop (mkF m 16 #[.val (.int p0), .val (.int p1), .val (.int (p0 &&& (65535 : Int32))), .unset] [(.int (0 : Int32))]))
    exact jn16 (0 : Int32)  s₁ _ X0 e0 N0  
  · rewrite [if_neg hc8_6]
    refine Go.of (fun t k => XS.ifNo X0.here hx rfl (hb hby at_8) rfl ((if0 _ _).trans (feq hc8_6).1) k) ?_
    show Go p e below s _ _ _ (s₁.setTop (mkF m 11 #[.val (.int p0), .val (.int p1), .val (.int (p0 &&& (65535 : Int32))), .unset] []))
    refine Go.of (fun t k => XS.iconst X0.here hx rfl (hb hby at_11) k) ?_
    show Go p e below s _ _ _ (s₁.setTop (mkF m 12 #[.val (.int p0), .val (.int p1), .val (.int (p0 &&& (65535 : Int32))), .unset] [(.int (1 : Int32))]))
    refine Go.of (fun t k => XS.goto X0.here hx rfl (pc0 := 12) (pc' := 16) rfl (hb hby at_12) (by decide) (by decide) k) ?_
    show Go p e below s _ _ _ (s₁.setTop (mkF m 16 #[.val (.int p0), .val (.int p1), .val (.int (p0 &&& (65535 : Int32))), .unset] [(.int (1 : Int32))]))
    exact jn16 (1 : Int32)  s₁ _ X0 e0 N0  
set_option maxHeartbeats 8000000 in
theorem own_core (c w : Int32) (hc : 0 ≤ c.toInt ∧ c.toInt < 65536) (hs : c.toInt < 55296 ∨ 57343 < c.toInt) (hw : w = 0 ∨ w = 1) : F1 c w = F2 c w := by
  have e0 : (0 : Int32).toInt = 0 := by decide
  have e9 : (9 : Int32).toInt = 9 := by decide
  have e10 : (10 : Int32).toInt = 10 := by decide
  have e13 : (13 : Int32).toInt = 13 := by decide
  have e32 : (32 : Int32).toInt = 32 := by decide
  have e126 : (126 : Int32).toInt = 126 := by decide
  have e127 : (127 : Int32).toInt = 127 := by decide
  have e133 : (133 : Int32).toInt = 133 := by decide
  have e159 : (159 : Int32).toInt = 159 := by decide
  have e160 : (160 : Int32).toInt = 160 := by decide
  have e55295 : (55295 : Int32).toInt = 55295 := by decide
  have e55296 : (55296 : Int32).toInt = 55296 := by decide
  have e57343 : (57343 : Int32).toInt = 57343 := by decide
  have e57344 : (57344 : Int32).toInt = 57344 := by decide
  have e65533 : (65533 : Int32).toInt = 65533 := by decide
  have o10 : ¬ ((1 : Int32) = 0) := by decide
  have b1 : nar .boolean (1 : Int32) = 1 := by decide
  have b0 : nar .boolean (0 : Int32) = 0 := by decide
  have k9 : c = 9 ↔ c.toInt = 9 := by rw [← Int32.toInt_inj, e9]
  have k10 : c = 10 ↔ c.toInt = 10 := by rw [← Int32.toInt_inj, e10]
  have k13 : c = 13 ↔ c.toInt = 13 := by rw [← Int32.toInt_inj, e13]
  have k133 : c = 133 ↔ c.toInt = 133 := by rw [← Int32.toInt_inj, e133]
  rcases hw with rfl | rfl
  all_goals
    simp only [F1, F1_29, F1_24, F1_92, F1_87, F1_91, F1_66, F1_62, F1_57, k9, k10, k13, k133, o10, b0, b1, Int32.lt_iff_toInt_lt, if_true, if_false, e0, e9, e10, e13, e32, e126, e127, e133, e159, e160, e55295, e55296, e57343, e57344, e65533]
    repeat' split
    all_goals first
      | (exfalso; omega)
      | (simp only [F2, F2_108, F2_82, F2_62, F2_41, F2_40, F2_23, F2_18, k9, k10, k13, k133, o10, Int32.lt_iff_toInt_lt, if_true, if_false, e0, e9, e10, e13, e32, e126, e127, e133, e159, e160, e55295, e55296, e57343, e57344, e65533]; simp (disch := omega) only [if_pos, if_neg, ite_self])
theorem own_16 (a w : Int32) (hw : w = 0 ∨ w = 1) : F0_16 a w = 1 := by
  have l := c_mask a 65535 16 (by decide) (by decide)
  have e55296 : (55296 : Int32).toInt = 55296 := by decide
  have e57343 : (57343 : Int32).toInt = 57343 := by decide
  unfold F0_16 F0_31
  simp only [Int32.lt_iff_toInt_lt, e55296, e57343]
  split
  · rw [if_pos (own_core _ _ (by omega) (by omega) hw)]
  · split
    · rw [if_pos (own_core _ _ (by omega) (by omega) hw)]
    · rfl
theorem own_law (a b : Int32) : F0 a b = 1 := by
  unfold F0
  split
  · exact own_16 _ _ (Or.inl rfl)
  · exact own_16 _ _ (Or.inr rfl)
set_option maxRecDepth 65536 in
set_option maxHeartbeats 40000000 in
theorem comes_1 {Post : Tables → Env → Array Value → State → Outcome → State → Prop} (hpost : ∀ tb e args s v u, (limb_1_1.after args s (.returned v) u = true ∧ limb_1_2.after args s (.returned v) u = true ∧ True) → FrameEnd s (.returned v) u (Jvm.fieldLocs frame_1_writes args s ++ Jvm.arrayLocs frame_1_arrays args s ++ Jvm.staticLocs frame_1_statics s) 0 0 → Post tb e args s (.returned v) u) :
    ArmFor flags0 classFile x code maxLocals ret World_1 tables_1 room_1 Calls_1 rest_1 Pre_1 Post := by
  intro l hfl _ _ p e ha hc hk s m args below hf hA hF happ hP
  obtain ⟨hcalls, hrest, hpre⟩ := hP
  obtain ⟨-, -, -, hnamed, -, -, -, hat⟩ := (Spec.applies_iff hf).mp happ
  obtain ⟨hg, hn⟩ := and_e (Cond.before_iff.mp (show (Jvm.Cond.and given_1 narrow_1).before args s = true from hpre))
  obtain ⟨g0, g1⟩ := and_e hg
  obtain ⟨a0, g2⟩ := and_e g1
  have a1 := g2
  obtain ⟨w0, w1, rfl⟩ : ∃ w0 w1 : Value, args = #[w0, w1] := by
    have hs : args.size = 2 := by simpa [Cond.value, given_1] using g0
    obtain ⟨L⟩ := args
    match L, hs with
    | [w0, w1], _ => exact ⟨w0, w1, rfl⟩
  have hw := fun d (hd : d ∈ tables_1) => atoms_spec (ws := Jvm.Cond.code x code maxLocals ret :: tables_1) hat d (List.mem_cons_of_mem _ hd)
  obtain ⟨i0, ei0⟩ := is_v a0
  obtain rfl : w0 = (.int i0) := Option.some.inj ei0
  obtain ⟨i1, ei1⟩ := is_v a1
  obtain rfl : w1 = (.int i1) := Option.some.inj ei1
  obtain ⟨n, o, h1, h2, h3, _, L, rfl, ⟨rfl, N⟩, hq⟩ := rm0 l s _ hw tables_1 i0 i1 s.heap s.heap.size (Nat.le_refl _) p e ha hc hk s m _ below hf ((Spec.applies_iff_loose hf).mp happ).1 ⟨rfl, State.Warmed39.refl s, rfl⟩ trivial
  have hone : (F0 i0 i1) = 1 := own_law i0 i1
  refine ⟨n, _, h1, h2, h3, hpost _ _ _ _ _ _ ⟨Cond.after_iff.mpr rfl, Cond.after_iff.mpr (eq_i res_at (Term.int_eval (1)) (by rw [hone])), trivial⟩ ⟨hq.1, hq.2.1, (hq.2.2.sift fun y hy => Or.inr (N y hy)).mono (by decide) (by decide)⟩⟩
theorem main_1_1 : Claimed_1_1 := comes_1 fun _ _ _ _ _ _ h hF => ⟨h.1, hF⟩
theorem main_1_2 : Claimed_1_2 := comes_1 fun _ _ _ _ _ _ h hF => ⟨h.2.1, hF⟩
end Jvm.Pilot.@@N@@
namespace Jvm.Pilot.@@N@@
open Jvm Jvm.ClassFile Sem Op Lib Jvm.Free Jvm.Stand Jvm.Pilot.@@N@@.Jvm.D
/-! MADE BY PROGRAM (witnessworld.py) out of the Statement's table words and the real class files: 9 classes; the members and pool entries that the words name. The judged class is class 1, her method 2. -/
namespace start1
open Jvm.ClassFile
def u (s : String) : CpInfo := .utf8 (stringToUtf16 s)
/-- a pool by its gaps: so many unusable entries, then the entry; so many at the end -/
def gap : Nat → List CpInfo → List CpInfo
  | 0, r => r
  | n + 1, r => .unusable :: gap n r
def poolList (es : List (Nat × CpInfo)) (last : Nat) : List CpInfo := es.foldr (fun e r => gap e.1 (e.2 :: r)) (gap last [])
def pool (es : List (Nat × CpInfo)) (last : Nat) : Array CpInfo := ⟨poolList es last⟩
def fileOf (pool : Array CpInfo) (this : Nat) (attrs : Array Attribute := #[]) (ms : Array MethodInfo := #[]) (fl : Nat := 33) (sup : Nat := 0) (ifs : Array Nat := #[]) (fds : Array FieldInfo := #[]) : ClassFile where
  minorVersion := 0
  majorVersion := 65
  constantPool := pool
  accessFlags := fl
  thisClass := this
  superClass := sup
  interfaces := ifs
  fields := fds
  methods := ms
  attributes := attrs
def plain (name : String) (sup : Option ClassId) : Class where
  name := name
  kind := .ordinary
  loader := none
  accessFlags := 33
  super := sup
  interfaces := #[]
  cf := none
  fields := #[]
  methods := #[]
  instanceTypes := #[]
  staticTypes := #[]
  resolved := #[]
  callSites := []
  init := .initialized
  statics := none
  mirror := none

def pool0 : Array CpInfo := pool [(5, u "<init>"), (0, u "()V"), (1, .class_ 10), (1, u "java/lang/Object")] 113

def k0m0 : Method := { name := "<init>", desc := "()V", sig := { parameters := [], returnType := none }, accessFlags := 1, code := none }
/-- java/lang/Object -/
def k0 : Class := { plain "java/lang/Object" none with
  accessFlags := 33
  interfaces := #[]
  cf := some (fileOf pool0 8 #[] #[{ accessFlags := 1, nameIndex := 5, descriptorIndex := 6, attributes := #[] }] 33 0 #[] #[])
  fields := #[]
  methods := #[k0m0]
  instanceTypes := #[]
  staticTypes := #[]
  resolved := Array.replicate 124 none
  statics := none }

def pool1 : Array CpInfo := pool [(2, .class_ 4), (1, u "java/lang/Object"), (0, u "<init>"), (0, u "()V"), (0, .integer 57344), (0, .integer 65533), (0, .integer 55295), (0, .integer 65535), (0, .integer 55296), (0, .integer 57343), (0, .methodref 14 15), (0, .class_ 16), (0, .nameAndType 17 18), (0, u "com/example/susurrus/susurrus/XmlDecoder"), (0, u "isAllowed"), (0, u "(IZ)Z"), (0, .methodref 20 21), (0, .class_ 22), (0, .nameAndType 23 18), (0, u "com/example/susurrus/susurrus/XmlDecoderIsAllowedPinLaw"), (0, u "expected"), (3, u "law"), (0, u "(II)Z")] 2

def k1m0 : Method := { name := "<init>", desc := "()V", sig := { parameters := [], returnType := none }, accessFlags := 2, code := none }
def k1c1 : Code := { maxStack := 2, maxLocals := 4, code := method_2_code, exceptionTable := #[], attributes := #[] }
def k1m1 : Method := { name := "expected", desc := "(IZ)Z", sig := { parameters := [.int, .boolean], returnType := some .boolean }, accessFlags := 10, code := some k1c1 }
def k1c2 : Code := { maxStack := 3, maxLocals := 4, code := code, exceptionTable := #[], attributes := #[] }
def k1m2 : Method := { name := "law", desc := "(II)Z", sig := { parameters := [.int, .int], returnType := some .boolean }, accessFlags := 9, code := some k1c2 }
/-- com/example/susurrus/susurrus/XmlDecoderIsAllowedPinLaw -/
def k1 : Class := { plain "com/example/susurrus/susurrus/XmlDecoderIsAllowedPinLaw" (some 0) with
  accessFlags := 49
  interfaces := #[]
  cf := some (fileOf pool1 20 #[] #[{ accessFlags := 2, nameIndex := 5, descriptorIndex := 6, attributes := #[] }, { accessFlags := 10, nameIndex := 23, descriptorIndex := 18, attributes := #[] }, { accessFlags := 9, nameIndex := 27, descriptorIndex := 28, attributes := #[] }] 49 2 #[] #[])
  fields := #[]
  methods := #[k1m0, k1m1, k1m2]
  instanceTypes := #[]
  staticTypes := #[]
  resolved := Array.replicate 31 none
  statics := none }

def pool2 : Array CpInfo := pool [(2, .class_ 4), (1, u "java/lang/Object"), (2, .class_ 8), (0, u "com/example/susurrus/susurrus/XmlDecoder"), (12, u "bytes"), (0, u "Ljava/nio/ByteBuffer;"), (2, u "chars"), (0, u "[C"), (2, u "line"), (0, u "I"), (2, u "column"), (2, u "in"), (0, u "Ljava/io/InputStream;"), (18, u "decoder"), (0, u "Ljava/nio/charset/CharsetDecoder;"), (55, u "end"), (2, u "xml11"), (0, u "Z"), (2, u "standalone"), (2, u "problem"), (0, u "Ljava/lang/String;"), (2, u "start"), (75, u "marked"), (0, .class_ 205), (0, u "com/example/susurrus/susurrus/XmlDecoder$Declaration"), (140, u "endOfBytes"), (18, u "flushed"), (59, u "isAllowed"), (0, u "(IZ)Z"), (6, .integer 55295), (0, .integer 57344), (0, .integer 65533), (8, u "SIZE"), (2, u "DECLARATION")] 43

def k2c0 : Code := { maxStack := 2, maxLocals := 3, code := prog_155_method_21_code, exceptionTable := #[], attributes := #[] }
def k2m0 : Method := { name := "isAllowed", desc := "(IZ)Z", sig := { parameters := [.int, .boolean], returnType := some .boolean }, accessFlags := 8, code := some k2c0 }
/-- com/example/susurrus/susurrus/XmlDecoder -/
def k2 : Class := { plain "com/example/susurrus/susurrus/XmlDecoder" (some 0) with
  accessFlags := 48
  interfaces := #[]
  cf := some (fileOf pool2 7 #[.nestMembers #[204]] #[{ accessFlags := 8, nameIndex := 425, descriptorIndex := 426, attributes := #[] }] 48 2 #[] #[{ accessFlags := 26, nameIndex := 444, descriptorIndex := 30, attributes := #[] }, { accessFlags := 26, nameIndex := 447, descriptorIndex := 124, attributes := #[] }, { accessFlags := 18, nameIndex := 36, descriptorIndex := 37, attributes := #[] }, { accessFlags := 18, nameIndex := 21, descriptorIndex := 22, attributes := #[] }, { accessFlags := 2, nameIndex := 346, descriptorIndex := 117, attributes := #[] }, { accessFlags := 2, nameIndex := 365, descriptorIndex := 117, attributes := #[] }, { accessFlags := 2, nameIndex := 203, descriptorIndex := 117, attributes := #[] }, { accessFlags := 2, nameIndex := 56, descriptorIndex := 57, attributes := #[] }, { accessFlags := 18, nameIndex := 25, descriptorIndex := 26, attributes := #[] }, { accessFlags := 2, nameIndex := 127, descriptorIndex := 30, attributes := #[] }, { accessFlags := 2, nameIndex := 113, descriptorIndex := 30, attributes := #[] }, { accessFlags := 2, nameIndex := 123, descriptorIndex := 124, attributes := #[] }, { accessFlags := 2, nameIndex := 116, descriptorIndex := 117, attributes := #[] }, { accessFlags := 2, nameIndex := 120, descriptorIndex := 117, attributes := #[] }, { accessFlags := 2, nameIndex := 29, descriptorIndex := 30, attributes := #[] }, { accessFlags := 2, nameIndex := 33, descriptorIndex := 30, attributes := #[] }])
  fields := #[{ name := "SIZE", type := .int, accessFlags := 26, slot := 0, constantValue := 0 }, { name := "DECLARATION", type := (.object "java/lang/String"), accessFlags := 26, slot := 1, constantValue := 0 }, { name := "in", type := (.object "java/io/InputStream"), accessFlags := 18, slot := 0, constantValue := 0 }, { name := "bytes", type := (.object "java/nio/ByteBuffer"), accessFlags := 18, slot := 1, constantValue := 0 }, { name := "endOfBytes", type := .boolean, accessFlags := 2, slot := 2, constantValue := 0 }, { name := "flushed", type := .boolean, accessFlags := 2, slot := 3, constantValue := 0 }, { name := "marked", type := .boolean, accessFlags := 2, slot := 4, constantValue := 0 }, { name := "decoder", type := (.object "java/nio/charset/CharsetDecoder"), accessFlags := 2, slot := 5, constantValue := 0 }, { name := "chars", type := (.array .char), accessFlags := 18, slot := 6, constantValue := 0 }, { name := "start", type := .int, accessFlags := 2, slot := 7, constantValue := 0 }, { name := "end", type := .int, accessFlags := 2, slot := 8, constantValue := 0 }, { name := "problem", type := (.object "java/lang/String"), accessFlags := 2, slot := 9, constantValue := 0 }, { name := "xml11", type := .boolean, accessFlags := 2, slot := 10, constantValue := 0 }, { name := "standalone", type := .boolean, accessFlags := 2, slot := 11, constantValue := 0 }, { name := "line", type := .int, accessFlags := 2, slot := 12, constantValue := 0 }, { name := "column", type := .int, accessFlags := 2, slot := 13, constantValue := 0 }]
  methods := #[k2m0]
  instanceTypes := #[(.object "java/io/InputStream"), (.object "java/nio/ByteBuffer"), .boolean, .boolean, .boolean, (.object "java/nio/charset/CharsetDecoder"), (.array .char), .int, .int, (.object "java/lang/String"), .boolean, .boolean, .int, .int]
  staticTypes := #[.int, (.object "java/lang/String")]
  resolved := Array.replicate 491 none
  statics := none }

def pool3 : Array CpInfo := pool [(1, u "java/lang/Cloneable"), (0, .class_ 1), (0, u "java/lang/Object"), (0, .class_ 3)] 3

/-- java/lang/Cloneable -/
def k3 : Class := { plain "java/lang/Cloneable" (some 0) with
  accessFlags := 1537
  interfaces := #[]
  cf := some (fileOf pool3 2 #[] #[] 1537 4 #[] #[])
  fields := #[]
  methods := #[]
  instanceTypes := #[]
  staticTypes := #[]
  resolved := Array.replicate 8 none
  statics := none }

def pool4 : Array CpInfo := pool [(1, u "java/io/Serializable"), (0, .class_ 1), (0, u "java/lang/Object"), (0, .class_ 3)] 3

/-- java/io/Serializable -/
def k4 : Class := { plain "java/io/Serializable" (some 0) with
  accessFlags := 1537
  interfaces := #[]
  cf := some (fileOf pool4 2 #[] #[] 1537 4 #[] #[])
  fields := #[]
  methods := #[]
  instanceTypes := #[]
  staticTypes := #[]
  resolved := Array.replicate 8 none
  statics := none }

/-- the primitive byte -/
def k5 : Class := { plain "byte" none with kind := .primitive 'B', accessFlags := 0x411 }
/-- [B -/
def k6 : Class := { plain "[B" (some 0) with kind := .array 5 .byte, interfaces := #[3, 4], accessFlags := 1041 }

/-- the primitive int -/
def k7 : Class := { plain "int" none with kind := .primitive 'I', accessFlags := 0x411 }
/-- [I -/
def k8 : Class := { plain "[I" (some 0) with kind := .array 7 .int, interfaces := #[3, 4], accessFlags := 1041 }

def heap : Heap := #[]
def classes : Array Class := #[k0, k1, k2, k3, k4, k5, k6, k7, k8]
def interned : List (Array UInt16 × Addr) := []
def slotsUsed : Nat := 0
def theMethod : MethodId := ⟨1, 2⟩
def args0 : Array Value := #[.int 5, .int 6]
def aboutOver (below : List Frame) : State where
  vm := { classes := classes, interned := interned.toArray }
  heap := heap
  slotsUsed := slotsUsed
  threads := #[{ frames := .invoking theMethod args0 :: below }]
def below0 : List Frame := [.native { method := ⟨0, 0⟩, args := #[] }]
def about1 : State := aboutOver below0
def p0 : Program := .bare "" "" ""
def e0 : Env := launch0.env 0 0 0
theorem w_frames : about1.frames = Frame.invoking theMethod args0 :: below0 := rfl
set_option maxRecDepth 65536 in
theorem w_args : argsFit about1.vm theMethod args0 = true := by decide +kernel
set_option maxRecDepth 65536 in
theorem w_heap : heapFits about1 = true := by decide +kernel
set_option maxRecDepth 65536 in
theorem w_runnable : about1.curStatus? = some .runnable := by decide +kernel
set_option maxRecDepth 65536 in
theorem w_alone : about1.alone = true := by decide +kernel
set_option maxRecDepth 65536 in
theorem w_named : about1.methodNamed? x = some theMethod := by decide +kernel
set_option maxRecDepth 65536 in
theorem w_hears : about1.hears theMethod below0 = true := by decide +kernel
set_option maxRecDepth 65536 in
theorem w_ripe : about1.ripe theMethod args0 below0 = true := by decide +kernel
theorem w_running : about1.status = .running := rfl
set_option maxRecDepth 65536 in
theorem w_room : about1.hasRoom e0.platform room_1 = true :=
  launch0.hasRoom_least _ room_1 (by decide +kernel) (by decide +kernel) (by decide +kernel) (by decide +kernel) (by decide +kernel) (by decide +kernel)
theorem allAtoms_all (ts : List Jvm.Cond) (a : Array Jvm.Value) (st : Jvm.State) : (allAtoms ts).before a st = ts.all (fun c => c.before a st) := by
  induction ts with
  | nil => rfl
  | cons c t ih =>
    show (Jvm.Cond.and c (allAtoms t)).before a st = _
    rw [Jvm.Cond.before_and, ih, List.all_cons]
def words1 : List Jvm.Cond := Jvm.Cond.code x code maxLocals ret :: tables_1
/-- a 'code' word, met by the world's own term for the bytes: nothing is compared byte by byte -/
theorem code_word {y : MethodName} {bytes : ByteArray} {mx : Nat} {rt : Option FieldType} {a : Array Value} {s : State} {m : MethodId} {meth : Method} {c : Code} (h1 : s.methodNamed? y = some m) (h2 : s.vm.method? m = some meth) (h3 : meth.code = some c) (h4 : c.code = bytes)
    (h5 : (c.maxLocals == mx && c.exceptionTable.isEmpty && decide (c.maxStack ≤ mostOperands) && decide (meth.sig.returnType = rt) && !meth.locks && decide (parseMethodDescriptor y.desc = some meth.sig)) = true) : (Jvm.Cond.code y bytes mx rt).before a s = true := by
  simp only [Bool.and_eq_true, beq_iff_eq, Bool.not_eq_true', decide_eq_true_eq] at h5
  obtain ⟨⟨⟨⟨⟨g1, g2⟩, g3⟩, g4⟩, g5⟩, g6⟩ := h5
  simp [Cond.before, Cond.holds, Cond.value, h1, h2, h3, h4, g1, g2, g3, g4, g5, g6]
def isCode : Jvm.Cond → Bool
  | .code _ _ _ _ => true
  | _ => false
theorem all_split {L : List Jvm.Cond} {P : Jvm.Cond → Bool} (h1 : L.all (fun c => isCode c || P c) = true) (h2 : ∀ c ∈ L.filter isCode, P c = true) : L.all P = true := by
  refine List.all_eq_true.mpr fun c hc => ?_
  have h := List.all_eq_true.mp h1 c hc
  rcases Bool.eq_false_or_eq_true (isCode c) with hi | hi
  · exact h2 c (List.mem_filter.mpr ⟨hc, hi⟩)
  · simpa [hi] using h
set_option maxRecDepth 65536 in
theorem w_c0 : (Jvm.Cond.code x code maxLocals ret).before args0 about1 = true := code_word (m := ⟨1, 2⟩) (meth := k1m2) (c := k1c2) (by decide +kernel) rfl rfl rfl (by decide +kernel)
set_option maxRecDepth 65536 in
theorem w_c1 : (Jvm.Cond.code ({ cls := "com/example/susurrus/susurrus/XmlDecoder", name := "isAllowed", desc := "(IZ)Z" } : Jvm.MethodName) prog_155_method_21_code (3 : Nat) (Option.some Jvm.ClassFile.FieldType.boolean)).before args0 about1 = true := code_word (m := ⟨2, 0⟩) (meth := k2m0) (c := k2c0) (by decide +kernel) rfl rfl rfl (by decide +kernel)
set_option maxRecDepth 65536 in
theorem w_c2 : (Jvm.Cond.code ({ cls := "com/example/susurrus/susurrus/XmlDecoderIsAllowedPinLaw", name := "expected", desc := "(IZ)Z" } : Jvm.MethodName) method_2_code (4 : Nat) (Option.some Jvm.ClassFile.FieldType.boolean)).before args0 about1 = true := code_word (m := ⟨1, 1⟩) (meth := k1m1) (c := k1c1) (by decide +kernel) rfl rfl rfl (by decide +kernel)
def codes1 : List Jvm.Cond := [Jvm.Cond.code x code maxLocals ret, Jvm.Cond.code ({ cls := "com/example/susurrus/susurrus/XmlDecoder", name := "isAllowed", desc := "(IZ)Z" } : Jvm.MethodName) prog_155_method_21_code (3 : Nat) (Option.some Jvm.ClassFile.FieldType.boolean), Jvm.Cond.code ({ cls := "com/example/susurrus/susurrus/XmlDecoderIsAllowedPinLaw", name := "expected", desc := "(IZ)Z" } : Jvm.MethodName) method_2_code (4 : Nat) (Option.some Jvm.ClassFile.FieldType.boolean)]
set_option maxRecDepth 65536 in
theorem codes_eq : words1.filter isCode = codes1 := rfl
theorem w_codes : ∀ c ∈ words1.filter isCode, c.before args0 about1 = true := by
  rw [codes_eq]
  intro c hc
  simp only [codes1, List.mem_cons, List.not_mem_nil, or_false] at hc
  rcases hc with rfl | rfl | rfl
  · exact w_c0
  · exact w_c1
  · exact w_c2
set_option maxRecDepth 65536 in
theorem w_t1 : words1.all (fun c => isCode c || c.before args0 about1) = true := by decide +kernel
theorem w_tables : (allAtoms (Jvm.Cond.code x code maxLocals ret :: tables_1)).before args0 about1 = true := by
  rw [allAtoms_all]
  show words1.all (fun c => c.before args0 about1) = true
  refine all_split ?_ w_codes
  rw [w_t1]
set_option maxRecDepth 65536 in
theorem w_case : (Jvm.Cond.and given_1 narrow_1).before args0 about1 = true := by decide +kernel
theorem w_applies : (headSpec (Jvm.Cond.code x code maxLocals ret :: tables_1) room_1).applies x e0.platform about1 = true :=
  (Spec.applies_iff w_frames).mpr ⟨w_running, w_runnable, w_alone, w_named, w_hears, w_ripe, w_room, w_tables⟩
theorem atStart : AtStart classFile x code maxLocals ret World_1 tables_1 room_1 Calls_1 rest_1 Pre_1 launch0 p0 e0 about1 theMethod args0 below0 :=
  ⟨lists_1, trivial, launch0.admits_env _ _ _, launch0.least_env, fairChoices_fair.cas, fairChoices_fair.clock, w_frames, w_args, w_heap, w_applies, trivial, trivial, w_case⟩
end start1
theorem witness_1 : WitnessClaimed_1 := ⟨start1.p0, start1.e0, start1.about1, start1.theMethod, start1.args0, start1.below0, start1.atStart⟩
end Jvm.Pilot.@@N@@
