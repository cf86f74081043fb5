import JvmDerived
import JvmDerived.Pilot.@@N@@Statement
import JvmDerived.Pilot.@@N@@Code
set_option linter.unusedVariables false
set_option linter.unusedSimpArgs false
namespace Jvm.RoadKit
open Sem ClassFile Op Lib Jvm.Stand Jvm.Free Jvm.LawKit
section New
variable {p : Program} {l : Launch} {e : Env} {R : Room} {s : State} {m : MethodId} {args : Array Value} {below : List Frame} {meth : Method} {c : Code} {T : State} {locs : List Loc} {cells slots : Nat}
theorem retI (X : Stand p l e R s m args below meth c T locs cells slots) (hx : p.tables.exec = Jvm.exec) {pc : Nat} {Ls : Array Slot} {z : Int32} {rest : List Value} (hret : meth.sig.returnType = some .int) (hd : decode c.code pc = .ok (.ireturn, 1)) {fs : List Frame}
    (hl : ∀ (f : JFrame) (acts : List Action), f.method = m → f.locked = none → f.entered = [] → (doReturn e (T.setTop f) acts (some (.int z))).1 = T.setFrames fs) : Steps p.tables e below (T.setTop (mkF m pc Ls (.int z :: rest))) (T.setFrames fs) := by
  have hm' : T.vm.method? m = some meth := X.method'
  have hn : narrow .int (.int z) = .int z := rfl
  show Steps p.tables e below (T.setTop { method := m, pc := pc, locals := Ls, stack := _ :: rest, locked := none }) _
  jvm_step X.here [X.here.top, hx, hd, hm', hret, hn]
  first | (intro acts; rw [hl _ acts rfl rfl rfl]) | rw [hl _ _ rfl rfl rfl]
  exact Steps.refl _
/-- the run from G on comes to an end that Q speaks of -/
def Go (p : Program) (e : Env) (below : List Frame) (s : State) (Q : Option Value → Heap → List Loc → Prop) (ck sk : Nat) (G : State) : Prop :=
  ∃ s₂ o, Steps p.tables e below G s₂ ∧ s₂.status = .running ∧ Ended s₂ below o ∧ ∃ v L, o = .returned v ∧ Q v s₂.heap L ∧ FrameEnd s o s₂ L ck sk
theorem Go.of {Q : Option Value → Heap → List Loc → Prop} {ck sk : Nat} {G G' : State} (h : ∀ t, Steps p.tables e below G' t → Steps p.tables e below G t) (k : Go p e below s Q ck sk G') : Go p e below s Q ck sk G := by
  obtain ⟨s₂, o, h1, r⟩ := k
  exact ⟨s₂, o, h _ h1, r⟩
theorem Go.ret (X : Stand p l e R s m args below meth c T locs cells slots) {Q : Option Value → Heap → List Loc → Prop} {ck sk : Nat} {G : State} (v : Option Value) (hv : meth.sig.returnType = none → v = none) (hlk : meth.locks = false) (hq : Q v T.heap locs) (hc : cells ≤ ck) (hs : slots ≤ sk)
    (st : ∀ fs, (∀ (f : JFrame) (acts : List Action), f.method = m → f.locked = none → f.entered = [] → (doReturn e (T.setTop f) acts v).1 = T.setFrames fs) → Steps p.tables e below G (T.setFrames fs)) : Go p e below s Q ck sk G := by
  obtain ⟨fs, hr, hrun, hended, hW, hsame⟩ := X.leave hv hlk
  exact ⟨_, _, st fs hr, hrun, hended, v, locs, rfl, hq, ⟨_, rfl⟩, hW, hsame.mono hc hs⟩
/-- what it returns, that it wrote nothing old, and that the heap is as it was -/
def QP (val : Option Value) (h0 : Heap) (n0 : Nat) (v : Option Value) (h : Heap) (L : List Loc) : Prop := v = val ∧ Fr n0 L ∧ h = h0
/-- what it returns, and that it wrote nothing old -/
def QL (val : Option Value) (n0 : Nat) (v : Option Value) (h : Heap) (L : List Loc) : Prop := v = val ∧ Fr n0 L
theorem lremM {g : JFrame} {target : State} (X : Stand p l e R s m args below meth c T locs cells slots) (hx : p.tables.exec = Jvm.exec) (hg : g.method = m) {x y : Int64} {rest : List Value} (hd : decode c.code g.pc = .ok (.lrem, 1)) (hs : g.stack = .long y :: .long x :: rest) (hy : y ≠ 0)
    (hr : Steps p.tables e below (T.setTop { g with pc := g.pc + 1, stack := .long (x % y) :: rest }) target) : Steps p.tables e below (T.setTop g) target := by
  have q : x - x / y * y = x % y := lrem_mod x y
  exact XS.lrem X.here hx hg hd hs hy (by rw [q]; exact hr)
end New
end Jvm.RoadKit
namespace Jvm.Pilot.@@N@@
open Jvm Jvm.ClassFile Sem Op Lib Jvm.Free Jvm.Stand Jvm.LawKit Jvm.RoadKit Bundle Jvm.Pilot.@@N@@.Jvm.D
theorem own_pn0 : plainName "com/example/susurrus/susurrus/XmlNames" = true := by first | (simp [plainName, overriddenIn]; done) | decide +kernel
theorem d1_0 : decode prog_161_method_3_code 0 = .ok (.iload_n 0, 1) := by decide +kernel
theorem d1_1 : decode prog_161_method_3_code 1 = .ok (.bipush 65, 2) := by decide +kernel
theorem d1_3 : decode prog_161_method_3_code 3 = .ok (.if_icmp .lt 9, 3) := by decide +kernel
theorem d1_6 : decode prog_161_method_3_code 6 = .ok (.iload_n 0, 1) := by decide +kernel
theorem d1_7 : decode prog_161_method_3_code 7 = .ok (.bipush 90, 2) := by decide +kernel
theorem d1_9 : decode prog_161_method_3_code 9 = .ok (.if_icmp .le 182, 3) := by decide +kernel
theorem d1_12 : decode prog_161_method_3_code 12 = .ok (.iload_n 0, 1) := by decide +kernel
theorem d1_13 : decode prog_161_method_3_code 13 = .ok (.bipush 95, 2) := by decide +kernel
theorem d1_15 : decode prog_161_method_3_code 15 = .ok (.if_icmp .eq 176, 3) := by decide +kernel
theorem d1_18 : decode prog_161_method_3_code 18 = .ok (.iload_n 0, 1) := by decide +kernel
theorem d1_19 : decode prog_161_method_3_code 19 = .ok (.bipush 97, 2) := by decide +kernel
theorem d1_21 : decode prog_161_method_3_code 21 = .ok (.if_icmp .lt 9, 3) := by decide +kernel
theorem d1_24 : decode prog_161_method_3_code 24 = .ok (.iload_n 0, 1) := by decide +kernel
theorem d1_25 : decode prog_161_method_3_code 25 = .ok (.bipush 122, 2) := by decide +kernel
theorem d1_27 : decode prog_161_method_3_code 27 = .ok (.if_icmp .le 164, 3) := by decide +kernel
theorem d1_30 : decode prog_161_method_3_code 30 = .ok (.iload_n 0, 1) := by decide +kernel
theorem d1_31 : decode prog_161_method_3_code 31 = .ok (.sipush 192, 3) := by decide +kernel
theorem d1_34 : decode prog_161_method_3_code 34 = .ok (.if_icmp .lt 10, 3) := by decide +kernel
theorem d1_37 : decode prog_161_method_3_code 37 = .ok (.iload_n 0, 1) := by decide +kernel
theorem d1_38 : decode prog_161_method_3_code 38 = .ok (.sipush 214, 3) := by decide +kernel
theorem d1_41 : decode prog_161_method_3_code 41 = .ok (.if_icmp .le 150, 3) := by decide +kernel
theorem d1_44 : decode prog_161_method_3_code 44 = .ok (.iload_n 0, 1) := by decide +kernel
theorem d1_45 : decode prog_161_method_3_code 45 = .ok (.sipush 216, 3) := by decide +kernel
theorem d1_48 : decode prog_161_method_3_code 48 = .ok (.if_icmp .lt 10, 3) := by decide +kernel
theorem d1_51 : decode prog_161_method_3_code 51 = .ok (.iload_n 0, 1) := by decide +kernel
theorem d1_52 : decode prog_161_method_3_code 52 = .ok (.sipush 246, 3) := by decide +kernel
theorem d1_55 : decode prog_161_method_3_code 55 = .ok (.if_icmp .le 136, 3) := by decide +kernel
theorem d1_58 : decode prog_161_method_3_code 58 = .ok (.iload_n 0, 1) := by decide +kernel
theorem d1_59 : decode prog_161_method_3_code 59 = .ok (.sipush 248, 3) := by decide +kernel
theorem d1_62 : decode prog_161_method_3_code 62 = .ok (.if_icmp .lt 10, 3) := by decide +kernel
theorem d1_65 : decode prog_161_method_3_code 65 = .ok (.iload_n 0, 1) := by decide +kernel
theorem d1_66 : decode prog_161_method_3_code 66 = .ok (.sipush 767, 3) := by decide +kernel
theorem d1_69 : decode prog_161_method_3_code 69 = .ok (.if_icmp .le 122, 3) := by decide +kernel
theorem d1_72 : decode prog_161_method_3_code 72 = .ok (.iload_n 0, 1) := by decide +kernel
theorem d1_73 : decode prog_161_method_3_code 73 = .ok (.sipush 880, 3) := by decide +kernel
theorem d1_76 : decode prog_161_method_3_code 76 = .ok (.if_icmp .lt 10, 3) := by decide +kernel
theorem d1_79 : decode prog_161_method_3_code 79 = .ok (.iload_n 0, 1) := by decide +kernel
theorem d1_80 : decode prog_161_method_3_code 80 = .ok (.sipush 893, 3) := by decide +kernel
theorem d1_83 : decode prog_161_method_3_code 83 = .ok (.if_icmp .le 108, 3) := by decide +kernel
theorem d1_86 : decode prog_161_method_3_code 86 = .ok (.iload_n 0, 1) := by decide +kernel
theorem d1_87 : decode prog_161_method_3_code 87 = .ok (.sipush 895, 3) := by decide +kernel
theorem d1_90 : decode prog_161_method_3_code 90 = .ok (.if_icmp .lt 10, 3) := by decide +kernel
theorem d1_93 : decode prog_161_method_3_code 93 = .ok (.iload_n 0, 1) := by decide +kernel
theorem d1_94 : decode prog_161_method_3_code 94 = .ok (.sipush 8191, 3) := by decide +kernel
theorem d1_97 : decode prog_161_method_3_code 97 = .ok (.if_icmp .le 94, 3) := by decide +kernel
theorem d1_100 : decode prog_161_method_3_code 100 = .ok (.iload_n 0, 1) := by decide +kernel
theorem d1_101 : decode prog_161_method_3_code 101 = .ok (.sipush 8204, 3) := by decide +kernel
theorem d1_104 : decode prog_161_method_3_code 104 = .ok (.if_icmp .lt 10, 3) := by decide +kernel
theorem d1_107 : decode prog_161_method_3_code 107 = .ok (.iload_n 0, 1) := by decide +kernel
theorem d1_108 : decode prog_161_method_3_code 108 = .ok (.sipush 8205, 3) := by decide +kernel
theorem d1_111 : decode prog_161_method_3_code 111 = .ok (.if_icmp .le 80, 3) := by decide +kernel
theorem d1_114 : decode prog_161_method_3_code 114 = .ok (.iload_n 0, 1) := by decide +kernel
theorem d1_115 : decode prog_161_method_3_code 115 = .ok (.sipush 8304, 3) := by decide +kernel
theorem d1_118 : decode prog_161_method_3_code 118 = .ok (.if_icmp .lt 10, 3) := by decide +kernel
theorem d1_121 : decode prog_161_method_3_code 121 = .ok (.iload_n 0, 1) := by decide +kernel
theorem d1_122 : decode prog_161_method_3_code 122 = .ok (.sipush 8591, 3) := by decide +kernel
theorem d1_125 : decode prog_161_method_3_code 125 = .ok (.if_icmp .le 66, 3) := by decide +kernel
theorem d1_128 : decode prog_161_method_3_code 128 = .ok (.iload_n 0, 1) := by decide +kernel
theorem d1_129 : decode prog_161_method_3_code 129 = .ok (.sipush 11264, 3) := by decide +kernel
theorem d1_132 : decode prog_161_method_3_code 132 = .ok (.if_icmp .lt 10, 3) := by decide +kernel
theorem d1_135 : decode prog_161_method_3_code 135 = .ok (.iload_n 0, 1) := by decide +kernel
theorem d1_136 : decode prog_161_method_3_code 136 = .ok (.sipush 12271, 3) := by decide +kernel
theorem d1_139 : decode prog_161_method_3_code 139 = .ok (.if_icmp .le 52, 3) := by decide +kernel
theorem d1_142 : decode prog_161_method_3_code 142 = .ok (.iload_n 0, 1) := by decide +kernel
theorem d1_143 : decode prog_161_method_3_code 143 = .ok (.sipush 12289, 3) := by decide +kernel
theorem d1_146 : decode prog_161_method_3_code 146 = .ok (.if_icmp .lt 9, 3) := by decide +kernel
theorem d1_149 : decode prog_161_method_3_code 149 = .ok (.iload_n 0, 1) := by decide +kernel
theorem d1_150 : decode prog_161_method_3_code 150 = .ok (.ldc 34, 2) := by decide +kernel
theorem d1_152 : decode prog_161_method_3_code 152 = .ok (.if_icmp .le 39, 3) := by decide +kernel
theorem d1_155 : decode prog_161_method_3_code 155 = .ok (.iload_n 0, 1) := by decide +kernel
theorem d1_156 : decode prog_161_method_3_code 156 = .ok (.ldc 35, 2) := by decide +kernel
theorem d1_158 : decode prog_161_method_3_code 158 = .ok (.if_icmp .lt 9, 3) := by decide +kernel
theorem d1_161 : decode prog_161_method_3_code 161 = .ok (.iload_n 0, 1) := by decide +kernel
theorem d1_162 : decode prog_161_method_3_code 162 = .ok (.ldc 36, 2) := by decide +kernel
theorem d1_164 : decode prog_161_method_3_code 164 = .ok (.if_icmp .le 27, 3) := by decide +kernel
theorem d1_167 : decode prog_161_method_3_code 167 = .ok (.iload_n 0, 1) := by decide +kernel
theorem d1_168 : decode prog_161_method_3_code 168 = .ok (.ldc 37, 2) := by decide +kernel
theorem d1_170 : decode prog_161_method_3_code 170 = .ok (.if_icmp .lt 9, 3) := by decide +kernel
theorem d1_173 : decode prog_161_method_3_code 173 = .ok (.iload_n 0, 1) := by decide +kernel
theorem d1_174 : decode prog_161_method_3_code 174 = .ok (.ldc 38, 2) := by decide +kernel
theorem d1_176 : decode prog_161_method_3_code 176 = .ok (.if_icmp .le 15, 3) := by decide +kernel
theorem d1_179 : decode prog_161_method_3_code 179 = .ok (.iload_n 0, 1) := by decide +kernel
theorem d1_180 : decode prog_161_method_3_code 180 = .ok (.ldc 39, 2) := by decide +kernel
theorem d1_182 : decode prog_161_method_3_code 182 = .ok (.if_icmp .lt 13, 3) := by decide +kernel
theorem d1_185 : decode prog_161_method_3_code 185 = .ok (.iload_n 0, 1) := by decide +kernel
theorem d1_186 : decode prog_161_method_3_code 186 = .ok (.ldc 40, 2) := by decide +kernel
theorem d1_188 : decode prog_161_method_3_code 188 = .ok (.if_icmp .gt 7, 3) := by decide +kernel
theorem d1_191 : decode prog_161_method_3_code 191 = .ok (.iconst 1, 1) := by decide +kernel
theorem d1_192 : decode prog_161_method_3_code 192 = .ok (.goto 4, 3) := by decide +kernel
theorem d1_195 : decode prog_161_method_3_code 195 = .ok (.iconst 0, 1) := by decide +kernel
theorem d1_196 : decode prog_161_method_3_code 196 = .ok (.ireturn, 1) := by decide +kernel
theorem ef_1 (m : MethodId) (p0 : Int32) : entryFrame m #[(.int p0)] 1 = mkF m 0 #[.val (.int p0)] [] := by first | (simp [entryFrame, mkF, argsToLocals, Value.category]; done) | rfl
def F1_179 (p0 : Int32) : Int32 := (if p0 < (65536 : Int32) then (0 : Int32) else (if (983039 : Int32) < p0 then (0 : Int32) else (1 : Int32)))
def F1_167 (p0 : Int32) : Int32 := (if p0 < (65008 : Int32) then (F1_179 p0) else (if (65533 : Int32) < p0 then (F1_179 p0) else (1 : Int32)))
def F1_155 (p0 : Int32) : Int32 := (if p0 < (63744 : Int32) then (F1_167 p0) else (if (64975 : Int32) < p0 then (F1_167 p0) else (1 : Int32)))
def F1_142 (p0 : Int32) : Int32 := (if p0 < (12289 : Int32) then (F1_155 p0) else (if (55295 : Int32) < p0 then (F1_155 p0) else (1 : Int32)))
def F1_128 (p0 : Int32) : Int32 := (if p0 < (11264 : Int32) then (F1_142 p0) else (if (12271 : Int32) < p0 then (F1_142 p0) else (1 : Int32)))
def F1_114 (p0 : Int32) : Int32 := (if p0 < (8304 : Int32) then (F1_128 p0) else (if (8591 : Int32) < p0 then (F1_128 p0) else (1 : Int32)))
def F1_100 (p0 : Int32) : Int32 := (if p0 < (8204 : Int32) then (F1_114 p0) else (if (8205 : Int32) < p0 then (F1_114 p0) else (1 : Int32)))
def F1_86 (p0 : Int32) : Int32 := (if p0 < (895 : Int32) then (F1_100 p0) else (if (8191 : Int32) < p0 then (F1_100 p0) else (1 : Int32)))
def F1_72 (p0 : Int32) : Int32 := (if p0 < (880 : Int32) then (F1_86 p0) else (if (893 : Int32) < p0 then (F1_86 p0) else (1 : Int32)))
def F1_58 (p0 : Int32) : Int32 := (if p0 < (248 : Int32) then (F1_72 p0) else (if (767 : Int32) < p0 then (F1_72 p0) else (1 : Int32)))
def F1_44 (p0 : Int32) : Int32 := (if p0 < (216 : Int32) then (F1_58 p0) else (if (246 : Int32) < p0 then (F1_58 p0) else (1 : Int32)))
def F1_30 (p0 : Int32) : Int32 := (if p0 < (192 : Int32) then (F1_44 p0) else (if (214 : Int32) < p0 then (F1_44 p0) else (1 : Int32)))
def F1_12 (p0 : Int32) : Int32 := (if p0 = (95 : Int32) then (1 : Int32) else (if p0 < (97 : Int32) then (F1_30 p0) else (if (122 : Int32) < p0 then (F1_30 p0) else (1 : Int32))))
def F1 (p0 : Int32) : Int32 := (if p0 < (65 : Int32) then (F1_12 p0) else (if (90 : Int32) < p0 then (F1_12 p0) else (1 : Int32)))
set_option maxRecDepth 65536 in
set_option maxHeartbeats 40000000 in
theorem rm1 (l : Launch) (Z : State) (az : Array Value) (hw : ∀ d ∈ tables_1, d.before az Z = true) (ws : List Jvm.Cond) (p0 : Int32)  (h0 : Heap) (n0 : Nat) (Z0 : n0 ≤ h0.size) :
    MetFree l (⟨"com/example/susurrus/susurrus/XmlNames", "isNameStart", "(I)Z"⟩ : MethodName) (head1 (Jvm.Cond.code (⟨"com/example/susurrus/susurrus/XmlNames", "isNameStart", "(I)Z"⟩ : MethodName) prog_161_method_3_code 1 (some .boolean) :: ws) ({ frames := 0, cells := 0, slots := 0, locals := 0 } : Room)) (fun a U => a = #[(.int p0)] ∧ Z.Warmed39 U.vm ∧ U.heap = h0) (fun _ _ _ _ _ => True) (fun _ U o U' => ∃ v L, o = .returned v ∧ (QP (some (.int (F1 p0))) h0 n0) v U'.heap L ∧ FrameEnd U o U' L ({ frames := 0, cells := 0, slots := 0, locals := 0 } : Room).cells ({ frames := 0, cells := 0, slots := 0, locals := 0 } : Room).slots) := by
  refine MetFree.of_bodySF (plainFor_of_name own_pn0) hisR ?_
  intro p e s m args below meth c s₁ Bd hml0 hP hK
  obtain ⟨rfl, hZ, hh⟩ := hP
  have hx := Bd.exec
  have hby := Bd.bytes
  have hml : c.maxLocals = 1 := hml0
  have hown : s.vm.findClass "com/example/susurrus/susurrus/XmlNames" = some m.cls := findClass_of_methodNamed Bd.named
  have hnm := (name_of_methodNamed Bd.named Bd.method).1
  have hlk : meth.locks = false := BodyLoose.notSynchronized Bd
  have X0 : Stand p l e ({ frames := 0, cells := 0, slots := 0, locals := 0 } : Room) s m #[(.int p0)] below meth c s₁ [] 0 0 := Stand.of_body Bd
  have e0 : s₁.heap = h0 := by rw [← hh, Bd.state]; rfl
  have N0 := Fr.nil n0
  show Go p e below s (QP (some (.int (F1 p0))) h0 n0) ({ frames := 0, cells := 0, slots := 0, locals := 0 } : Room).cells ({ frames := 0, cells := 0, slots := 0, locals := 0 } : Room).slots (s₁.setTop (entryFrame m #[(.int p0)] 1))
  refine Go.of (fun t k => castTop (ef_1 m p0) k) ?_
  show Go p e below s _ _ _ (s₁.setTop (mkF m 0 #[.val (.int p0)] []))
  unfold F1
  refine Go.of (fun t k => XS.iloadN X0.here hx rfl (hb hby d1_0) rfl k) ?_
  show Go p e below s _ _ _ (s₁.setTop (mkF m 1 #[.val (.int p0)] [(.int p0)]))
  refine Go.of (fun t k => XS.bipush X0.here hx rfl (hb hby d1_1) k) ?_
  show Go p e below s _ _ _ (s₁.setTop (mkF m 3 #[.val (.int p0)] [(.int (65 : Int32)), (.int p0)]))
  have jn12 : ∀ (T_12 : State) (l_12 : List Loc) (X_12 : Stand p l e ({ frames := 0, cells := 0, slots := 0, locals := 0 } : Room) s m #[(.int p0)] below meth c T_12 l_12 0 0) (e_12 : T_12.heap = h0) (N_12 : Fr n0 l_12), Go p e below s (QP (some (.int (F1_12 p0))) h0 n0) ({ frames := 0, cells := 0, slots := 0, locals := 0 } : Room).cells ({ frames := 0, cells := 0, slots := 0, locals := 0 } : Room).slots (T_12.setTop (mkF m 12 #[.val (.int p0)] [])) := by
    intro T_12 l_12 X_12 e_12 N_12
    unfold F1_12
    refine Go.of (fun t k => XS.iloadN X_12.here hx rfl (hb hby d1_12) rfl k) ?_
    show Go p e below s _ _ _ (T_12.setTop (mkF m 13 #[.val (.int p0)] [(.int p0)]))
    refine Go.of (fun t k => XS.bipush X_12.here hx rfl (hb hby d1_13) k) ?_
    show Go p e below s _ _ _ (T_12.setTop (mkF m 15 #[.val (.int p0)] [(.int (95 : Int32)), (.int p0)]))
    by_cases hc15_1 : p0 = (95 : Int32)
    · rewrite [if_pos hc15_1]
      refine Go.of (fun t k => XS.icmpYes X_12.here hx rfl (pc0 := 15) (pc' := 191) rfl (hb hby d1_15) rfl (teq hc15_1).1 (by decide) (by decide) k) ?_
      show Go p e below s _ _ _ (T_12.setTop (mkF m 191 #[.val (.int p0)] []))
      refine Go.of (fun t k => XS.iconst X_12.here hx rfl (hb hby d1_191) k) ?_
      show Go p e below s _ _ _ (T_12.setTop (mkF m 192 #[.val (.int p0)] [(.int (1 : Int32))]))
      refine Go.of (fun t k => XS.goto X_12.here hx rfl (pc0 := 192) (pc' := 196) rfl (hb hby d1_192) (by decide) (by decide) k) ?_
      show Go p e below s _ _ _ (T_12.setTop (mkF m 196 #[.val (.int p0)] [(.int (1 : Int32))]))
      exact Go.ret X_12 (some (.int (1 : Int32))) (fun h => by rw [Bd.returns] at h; cases h) hlk ⟨rfl, N_12, e_12⟩ (by decide) (by decide) (fun fs hr => (retN X_12 hx (t := .boolean) Bd.returns (by simp) (hb hby d1_196) hr))
    · rewrite [if_neg hc15_1]
      refine Go.of (fun t k => XS.icmpNo X_12.here hx rfl (hb hby d1_15) rfl (feq hc15_1).1 k) ?_
      show Go p e below s _ _ _ (T_12.setTop (mkF m 18 #[.val (.int p0)] []))
      refine Go.of (fun t k => XS.iloadN X_12.here hx rfl (hb hby d1_18) rfl k) ?_
      show Go p e below s _ _ _ (T_12.setTop (mkF m 19 #[.val (.int p0)] [(.int p0)]))
      refine Go.of (fun t k => XS.bipush X_12.here hx rfl (hb hby d1_19) k) ?_
      show Go p e below s _ _ _ (T_12.setTop (mkF m 21 #[.val (.int p0)] [(.int (97 : Int32)), (.int p0)]))
      have jn30 : ∀ (T_30 : State) (l_30 : List Loc) (X_30 : Stand p l e ({ frames := 0, cells := 0, slots := 0, locals := 0 } : Room) s m #[(.int p0)] below meth c T_30 l_30 0 0) (e_30 : T_30.heap = h0) (N_30 : Fr n0 l_30), Go p e below s (QP (some (.int (F1_30 p0))) h0 n0) ({ frames := 0, cells := 0, slots := 0, locals := 0 } : Room).cells ({ frames := 0, cells := 0, slots := 0, locals := 0 } : Room).slots (T_30.setTop (mkF m 30 #[.val (.int p0)] [])) := by
        intro T_30 l_30 X_30 e_30 N_30
        unfold F1_30
        refine Go.of (fun t k => XS.iloadN X_30.here hx rfl (hb hby d1_30) rfl k) ?_
        show Go p e below s _ _ _ (T_30.setTop (mkF m 31 #[.val (.int p0)] [(.int p0)]))
        refine Go.of (fun t k => XS.sipush X_30.here hx rfl (hb hby d1_31) k) ?_
        show Go p e below s _ _ _ (T_30.setTop (mkF m 34 #[.val (.int p0)] [(.int (192 : Int32)), (.int p0)]))
        have jn44 : ∀ (T_44 : State) (l_44 : List Loc) (X_44 : Stand p l e ({ frames := 0, cells := 0, slots := 0, locals := 0 } : Room) s m #[(.int p0)] below meth c T_44 l_44 0 0) (e_44 : T_44.heap = h0) (N_44 : Fr n0 l_44), Go p e below s (QP (some (.int (F1_44 p0))) h0 n0) ({ frames := 0, cells := 0, slots := 0, locals := 0 } : Room).cells ({ frames := 0, cells := 0, slots := 0, locals := 0 } : Room).slots (T_44.setTop (mkF m 44 #[.val (.int p0)] [])) := by
          intro T_44 l_44 X_44 e_44 N_44
          unfold F1_44
          refine Go.of (fun t k => XS.iloadN X_44.here hx rfl (hb hby d1_44) rfl k) ?_
          show Go p e below s _ _ _ (T_44.setTop (mkF m 45 #[.val (.int p0)] [(.int p0)]))
          refine Go.of (fun t k => XS.sipush X_44.here hx rfl (hb hby d1_45) k) ?_
          show Go p e below s _ _ _ (T_44.setTop (mkF m 48 #[.val (.int p0)] [(.int (216 : Int32)), (.int p0)]))
          have jn58 : ∀ (T_58 : State) (l_58 : List Loc) (X_58 : Stand p l e ({ frames := 0, cells := 0, slots := 0, locals := 0 } : Room) s m #[(.int p0)] below meth c T_58 l_58 0 0) (e_58 : T_58.heap = h0) (N_58 : Fr n0 l_58), Go p e below s (QP (some (.int (F1_58 p0))) h0 n0) ({ frames := 0, cells := 0, slots := 0, locals := 0 } : Room).cells ({ frames := 0, cells := 0, slots := 0, locals := 0 } : Room).slots (T_58.setTop (mkF m 58 #[.val (.int p0)] [])) := by
            intro T_58 l_58 X_58 e_58 N_58
            unfold F1_58
            refine Go.of (fun t k => XS.iloadN X_58.here hx rfl (hb hby d1_58) rfl k) ?_
            show Go p e below s _ _ _ (T_58.setTop (mkF m 59 #[.val (.int p0)] [(.int p0)]))
            refine Go.of (fun t k => XS.sipush X_58.here hx rfl (hb hby d1_59) k) ?_
            show Go p e below s _ _ _ (T_58.setTop (mkF m 62 #[.val (.int p0)] [(.int (248 : Int32)), (.int p0)]))
            have jn72 : ∀ (T_72 : State) (l_72 : List Loc) (X_72 : Stand p l e ({ frames := 0, cells := 0, slots := 0, locals := 0 } : Room) s m #[(.int p0)] below meth c T_72 l_72 0 0) (e_72 : T_72.heap = h0) (N_72 : Fr n0 l_72), Go p e below s (QP (some (.int (F1_72 p0))) h0 n0) ({ frames := 0, cells := 0, slots := 0, locals := 0 } : Room).cells ({ frames := 0, cells := 0, slots := 0, locals := 0 } : Room).slots (T_72.setTop (mkF m 72 #[.val (.int p0)] [])) := by
              intro T_72 l_72 X_72 e_72 N_72
              unfold F1_72
              refine Go.of (fun t k => XS.iloadN X_72.here hx rfl (hb hby d1_72) rfl k) ?_
              show Go p e below s _ _ _ (T_72.setTop (mkF m 73 #[.val (.int p0)] [(.int p0)]))
              refine Go.of (fun t k => XS.sipush X_72.here hx rfl (hb hby d1_73) k) ?_
              show Go p e below s _ _ _ (T_72.setTop (mkF m 76 #[.val (.int p0)] [(.int (880 : Int32)), (.int p0)]))
              have jn86 : ∀ (T_86 : State) (l_86 : List Loc) (X_86 : Stand p l e ({ frames := 0, cells := 0, slots := 0, locals := 0 } : Room) s m #[(.int p0)] below meth c T_86 l_86 0 0) (e_86 : T_86.heap = h0) (N_86 : Fr n0 l_86), Go p e below s (QP (some (.int (F1_86 p0))) h0 n0) ({ frames := 0, cells := 0, slots := 0, locals := 0 } : Room).cells ({ frames := 0, cells := 0, slots := 0, locals := 0 } : Room).slots (T_86.setTop (mkF m 86 #[.val (.int p0)] [])) := by
                intro T_86 l_86 X_86 e_86 N_86
                unfold F1_86
                refine Go.of (fun t k => XS.iloadN X_86.here hx rfl (hb hby d1_86) rfl k) ?_
                show Go p e below s _ _ _ (T_86.setTop (mkF m 87 #[.val (.int p0)] [(.int p0)]))
                refine Go.of (fun t k => XS.sipush X_86.here hx rfl (hb hby d1_87) k) ?_
                show Go p e below s _ _ _ (T_86.setTop (mkF m 90 #[.val (.int p0)] [(.int (895 : Int32)), (.int p0)]))
                have jn100 : ∀ (T_100 : State) (l_100 : List Loc) (X_100 : Stand p l e ({ frames := 0, cells := 0, slots := 0, locals := 0 } : Room) s m #[(.int p0)] below meth c T_100 l_100 0 0) (e_100 : T_100.heap = h0) (N_100 : Fr n0 l_100), Go p e below s (QP (some (.int (F1_100 p0))) h0 n0) ({ frames := 0, cells := 0, slots := 0, locals := 0 } : Room).cells ({ frames := 0, cells := 0, slots := 0, locals := 0 } : Room).slots (T_100.setTop (mkF m 100 #[.val (.int p0)] [])) := by
                  intro T_100 l_100 X_100 e_100 N_100
                  unfold F1_100
                  refine Go.of (fun t k => XS.iloadN X_100.here hx rfl (hb hby d1_100) rfl k) ?_
                  show Go p e below s _ _ _ (T_100.setTop (mkF m 101 #[.val (.int p0)] [(.int p0)]))
                  refine Go.of (fun t k => XS.sipush X_100.here hx rfl (hb hby d1_101) k) ?_
                  show Go p e below s _ _ _ (T_100.setTop (mkF m 104 #[.val (.int p0)] [(.int (8204 : Int32)), (.int p0)]))
                  have jn114 : ∀ (T_114 : State) (l_114 : List Loc) (X_114 : Stand p l e ({ frames := 0, cells := 0, slots := 0, locals := 0 } : Room) s m #[(.int p0)] below meth c T_114 l_114 0 0) (e_114 : T_114.heap = h0) (N_114 : Fr n0 l_114), Go p e below s (QP (some (.int (F1_114 p0))) h0 n0) ({ frames := 0, cells := 0, slots := 0, locals := 0 } : Room).cells ({ frames := 0, cells := 0, slots := 0, locals := 0 } : Room).slots (T_114.setTop (mkF m 114 #[.val (.int p0)] [])) := by
                    intro T_114 l_114 X_114 e_114 N_114
                    unfold F1_114
                    refine Go.of (fun t k => XS.iloadN X_114.here hx rfl (hb hby d1_114) rfl k) ?_
                    show Go p e below s _ _ _ (T_114.setTop (mkF m 115 #[.val (.int p0)] [(.int p0)]))
                    refine Go.of (fun t k => XS.sipush X_114.here hx rfl (hb hby d1_115) k) ?_
                    show Go p e below s _ _ _ (T_114.setTop (mkF m 118 #[.val (.int p0)] [(.int (8304 : Int32)), (.int p0)]))
                    have jn128 : ∀ (T_128 : State) (l_128 : List Loc) (X_128 : Stand p l e ({ frames := 0, cells := 0, slots := 0, locals := 0 } : Room) s m #[(.int p0)] below meth c T_128 l_128 0 0) (e_128 : T_128.heap = h0) (N_128 : Fr n0 l_128), Go p e below s (QP (some (.int (F1_128 p0))) h0 n0) ({ frames := 0, cells := 0, slots := 0, locals := 0 } : Room).cells ({ frames := 0, cells := 0, slots := 0, locals := 0 } : Room).slots (T_128.setTop (mkF m 128 #[.val (.int p0)] [])) := by
                      intro T_128 l_128 X_128 e_128 N_128
                      unfold F1_128
                      refine Go.of (fun t k => XS.iloadN X_128.here hx rfl (hb hby d1_128) rfl k) ?_
                      show Go p e below s _ _ _ (T_128.setTop (mkF m 129 #[.val (.int p0)] [(.int p0)]))
                      refine Go.of (fun t k => XS.sipush X_128.here hx rfl (hb hby d1_129) k) ?_
                      show Go p e below s _ _ _ (T_128.setTop (mkF m 132 #[.val (.int p0)] [(.int (11264 : Int32)), (.int p0)]))
                      have jn142 : ∀ (T_142 : State) (l_142 : List Loc) (X_142 : Stand p l e ({ frames := 0, cells := 0, slots := 0, locals := 0 } : Room) s m #[(.int p0)] below meth c T_142 l_142 0 0) (e_142 : T_142.heap = h0) (N_142 : Fr n0 l_142), Go p e below s (QP (some (.int (F1_142 p0))) h0 n0) ({ frames := 0, cells := 0, slots := 0, locals := 0 } : Room).cells ({ frames := 0, cells := 0, slots := 0, locals := 0 } : Room).slots (T_142.setTop (mkF m 142 #[.val (.int p0)] [])) := by
                        intro T_142 l_142 X_142 e_142 N_142
                        unfold F1_142
                        refine Go.of (fun t k => XS.iloadN X_142.here hx rfl (hb hby d1_142) rfl k) ?_
                        show Go p e below s _ _ _ (T_142.setTop (mkF m 143 #[.val (.int p0)] [(.int p0)]))
                        refine Go.of (fun t k => XS.sipush X_142.here hx rfl (hb hby d1_143) k) ?_
                        show Go p e below s _ _ _ (T_142.setTop (mkF m 146 #[.val (.int p0)] [(.int (12289 : Int32)), (.int p0)]))
                        have jn155 : ∀ (T_155 : State) (l_155 : List Loc) (X_155 : Stand p l e ({ frames := 0, cells := 0, slots := 0, locals := 0 } : Room) s m #[(.int p0)] below meth c T_155 l_155 0 0) (e_155 : T_155.heap = h0) (N_155 : Fr n0 l_155), Go p e below s (QP (some (.int (F1_155 p0))) h0 n0) ({ frames := 0, cells := 0, slots := 0, locals := 0 } : Room).cells ({ frames := 0, cells := 0, slots := 0, locals := 0 } : Room).slots (T_155.setTop (mkF m 155 #[.val (.int p0)] [])) := by
                          intro T_155 l_155 X_155 e_155 N_155
                          unfold F1_155
                          refine Go.of (fun t k => XS.iloadN X_155.here hx rfl (hb hby d1_155) rfl k) ?_
                          show Go p e below s _ _ _ (T_155.setTop (mkF m 156 #[.val (.int p0)] [(.int p0)]))
                          refine Go.of (X_155.ldcInt hx hown (mvT hZ (hw _ (List.mem_of_getElem? (i := 39) rfl))) (g := (mkF m 156 #[.val (.int p0)] [(.int p0)])) rfl (hb hby d1_156)) ?_
                          show Go p e below s _ _ _ (T_155.setTop (mkF m 158 #[.val (.int p0)] [(.int (63744 : Int32)), (.int p0)]))
                          have jn167 : ∀ (T_167 : State) (l_167 : List Loc) (X_167 : Stand p l e ({ frames := 0, cells := 0, slots := 0, locals := 0 } : Room) s m #[(.int p0)] below meth c T_167 l_167 0 0) (e_167 : T_167.heap = h0) (N_167 : Fr n0 l_167), Go p e below s (QP (some (.int (F1_167 p0))) h0 n0) ({ frames := 0, cells := 0, slots := 0, locals := 0 } : Room).cells ({ frames := 0, cells := 0, slots := 0, locals := 0 } : Room).slots (T_167.setTop (mkF m 167 #[.val (.int p0)] [])) := by
                            intro T_167 l_167 X_167 e_167 N_167
                            unfold F1_167
                            refine Go.of (fun t k => XS.iloadN X_167.here hx rfl (hb hby d1_167) rfl k) ?_
                            show Go p e below s _ _ _ (T_167.setTop (mkF m 168 #[.val (.int p0)] [(.int p0)]))
                            refine Go.of (X_167.ldcInt hx hown (mvT hZ (hw _ (List.mem_of_getElem? (i := 40) rfl))) (g := (mkF m 168 #[.val (.int p0)] [(.int p0)])) rfl (hb hby d1_168)) ?_
                            show Go p e below s _ _ _ (T_167.setTop (mkF m 170 #[.val (.int p0)] [(.int (65008 : Int32)), (.int p0)]))
                            have jn179 : ∀ (T_179 : State) (l_179 : List Loc) (X_179 : Stand p l e ({ frames := 0, cells := 0, slots := 0, locals := 0 } : Room) s m #[(.int p0)] below meth c T_179 l_179 0 0) (e_179 : T_179.heap = h0) (N_179 : Fr n0 l_179), Go p e below s (QP (some (.int (F1_179 p0))) h0 n0) ({ frames := 0, cells := 0, slots := 0, locals := 0 } : Room).cells ({ frames := 0, cells := 0, slots := 0, locals := 0 } : Room).slots (T_179.setTop (mkF m 179 #[.val (.int p0)] [])) := by
                              intro T_179 l_179 X_179 e_179 N_179
                              unfold F1_179
                              refine Go.of (fun t k => XS.iloadN X_179.here hx rfl (hb hby d1_179) rfl k) ?_
                              show Go p e below s _ _ _ (T_179.setTop (mkF m 180 #[.val (.int p0)] [(.int p0)]))
                              refine Go.of (X_179.ldcInt hx hown (mvT hZ (hw _ (List.mem_of_getElem? (i := 41) rfl))) (g := (mkF m 180 #[.val (.int p0)] [(.int p0)])) rfl (hb hby d1_180)) ?_
                              show Go p e below s _ _ _ (T_179.setTop (mkF m 182 #[.val (.int p0)] [(.int (65536 : Int32)), (.int p0)]))
                              by_cases hc182_2 : p0 < (65536 : Int32)
                              · rewrite [if_pos hc182_2]
                                refine Go.of (fun t k => XS.icmpYes X_179.here hx rfl (pc0 := 182) (pc' := 195) rfl (hb hby d1_182) rfl (tlt hc182_2).1 (by decide) (by decide) k) ?_
                                show Go p e below s _ _ _ (T_179.setTop (mkF m 195 #[.val (.int p0)] []))
                                refine Go.of (fun t k => XS.iconst X_179.here hx rfl (hb hby d1_195) k) ?_
                                show Go p e below s _ _ _ (T_179.setTop (mkF m 196 #[.val (.int p0)] [(.int (0 : Int32))]))
                                exact Go.ret X_179 (some (.int (0 : Int32))) (fun h => by rw [Bd.returns] at h; cases h) hlk ⟨rfl, N_179, e_179⟩ (by decide) (by decide) (fun fs hr => (retN X_179 hx (t := .boolean) Bd.returns (by simp) (hb hby d1_196) hr))
                              · rewrite [if_neg hc182_2]
                                refine Go.of (fun t k => XS.icmpNo X_179.here hx rfl (hb hby d1_182) rfl (flt hc182_2).1 k) ?_
                                show Go p e below s _ _ _ (T_179.setTop (mkF m 185 #[.val (.int p0)] []))
                                refine Go.of (fun t k => XS.iloadN X_179.here hx rfl (hb hby d1_185) rfl k) ?_
                                show Go p e below s _ _ _ (T_179.setTop (mkF m 186 #[.val (.int p0)] [(.int p0)]))
                                refine Go.of (X_179.ldcInt hx hown (mvT hZ (hw _ (List.mem_of_getElem? (i := 45) rfl))) (g := (mkF m 186 #[.val (.int p0)] [(.int p0)])) rfl (hb hby d1_186)) ?_
                                show Go p e below s _ _ _ (T_179.setTop (mkF m 188 #[.val (.int p0)] [(.int (983039 : Int32)), (.int p0)]))
                                by_cases hc188_3 : (983039 : Int32) < p0
                                · rewrite [if_pos hc188_3]
                                  refine Go.of (fun t k => XS.icmpYes X_179.here hx rfl (pc0 := 188) (pc' := 195) rfl (hb hby d1_188) rfl (tlt hc188_3).2.2.1 (by decide) (by decide) k) ?_
                                  show Go p e below s _ _ _ (T_179.setTop (mkF m 195 #[.val (.int p0)] []))
                                  refine Go.of (fun t k => XS.iconst X_179.here hx rfl (hb hby d1_195) k) ?_
                                  show Go p e below s _ _ _ (T_179.setTop (mkF m 196 #[.val (.int p0)] [(.int (0 : Int32))]))
                                  exact Go.ret X_179 (some (.int (0 : Int32))) (fun h => by rw [Bd.returns] at h; cases h) hlk ⟨rfl, N_179, e_179⟩ (by decide) (by decide) (fun fs hr => (retN X_179 hx (t := .boolean) Bd.returns (by simp) (hb hby d1_196) hr))
                                · rewrite [if_neg hc188_3]
                                  refine Go.of (fun t k => XS.icmpNo X_179.here hx rfl (hb hby d1_188) rfl (flt hc188_3).2.2.1 k) ?_
                                  show Go p e below s _ _ _ (T_179.setTop (mkF m 191 #[.val (.int p0)] []))
                                  refine Go.of (fun t k => XS.iconst X_179.here hx rfl (hb hby d1_191) k) ?_
                                  show Go p e below s _ _ _ (T_179.setTop (mkF m 192 #[.val (.int p0)] [(.int (1 : Int32))]))
                                  refine Go.of (fun t k => XS.goto X_179.here hx rfl (pc0 := 192) (pc' := 196) rfl (hb hby d1_192) (by decide) (by decide) k) ?_
                                  show Go p e below s _ _ _ (T_179.setTop (mkF m 196 #[.val (.int p0)] [(.int (1 : Int32))]))
                                  exact Go.ret X_179 (some (.int (1 : Int32))) (fun h => by rw [Bd.returns] at h; cases h) hlk ⟨rfl, N_179, e_179⟩ (by decide) (by decide) (fun fs hr => (retN X_179 hx (t := .boolean) Bd.returns (by simp) (hb hby d1_196) hr))
                            by_cases hc170_4 : p0 < (65008 : Int32)
                            · rewrite [if_pos hc170_4]
                              refine Go.of (fun t k => XS.icmpYes X_167.here hx rfl (pc0 := 170) (pc' := 179) rfl (hb hby d1_170) rfl (tlt hc170_4).1 (by decide) (by decide) k) ?_
                              show Go p e below s _ _ _ (T_167.setTop (mkF m 179 #[.val (.int p0)] []))
                              exact jn179   T_167 _ X_167 e_167 N_167  
                            · rewrite [if_neg hc170_4]
                              refine Go.of (fun t k => XS.icmpNo X_167.here hx rfl (hb hby d1_170) rfl (flt hc170_4).1 k) ?_
                              show Go p e below s _ _ _ (T_167.setTop (mkF m 173 #[.val (.int p0)] []))
                              refine Go.of (fun t k => XS.iloadN X_167.here hx rfl (hb hby d1_173) rfl k) ?_
                              show Go p e below s _ _ _ (T_167.setTop (mkF m 174 #[.val (.int p0)] [(.int p0)]))
                              refine Go.of (X_167.ldcInt hx hown (mvT hZ (hw _ (List.mem_of_getElem? (i := 44) rfl))) (g := (mkF m 174 #[.val (.int p0)] [(.int p0)])) rfl (hb hby d1_174)) ?_
                              show Go p e below s _ _ _ (T_167.setTop (mkF m 176 #[.val (.int p0)] [(.int (65533 : Int32)), (.int p0)]))
                              by_cases hc176_5 : (65533 : Int32) < p0
                              · rewrite [if_pos hc176_5]
                                refine Go.of (fun t k => XS.icmpNo X_167.here hx rfl (hb hby d1_176) rfl (tlt hc176_5).2.2.2 k) ?_
                                show Go p e below s _ _ _ (T_167.setTop (mkF m 179 #[.val (.int p0)] []))
                                exact jn179   T_167 _ X_167 e_167 N_167  
                              · rewrite [if_neg hc176_5]
                                refine Go.of (fun t k => XS.icmpYes X_167.here hx rfl (pc0 := 176) (pc' := 191) rfl (hb hby d1_176) rfl (flt hc176_5).2.2.2 (by decide) (by decide) k) ?_
                                show Go p e below s _ _ _ (T_167.setTop (mkF m 191 #[.val (.int p0)] []))
                                refine Go.of (fun t k => XS.iconst X_167.here hx rfl (hb hby d1_191) k) ?_
                                show Go p e below s _ _ _ (T_167.setTop (mkF m 192 #[.val (.int p0)] [(.int (1 : Int32))]))
                                refine Go.of (fun t k => XS.goto X_167.here hx rfl (pc0 := 192) (pc' := 196) rfl (hb hby d1_192) (by decide) (by decide) k) ?_
                                show Go p e below s _ _ _ (T_167.setTop (mkF m 196 #[.val (.int p0)] [(.int (1 : Int32))]))
                                exact Go.ret X_167 (some (.int (1 : Int32))) (fun h => by rw [Bd.returns] at h; cases h) hlk ⟨rfl, N_167, e_167⟩ (by decide) (by decide) (fun fs hr => (retN X_167 hx (t := .boolean) Bd.returns (by simp) (hb hby d1_196) hr))
                          by_cases hc158_6 : p0 < (63744 : Int32)
                          · rewrite [if_pos hc158_6]
                            refine Go.of (fun t k => XS.icmpYes X_155.here hx rfl (pc0 := 158) (pc' := 167) rfl (hb hby d1_158) rfl (tlt hc158_6).1 (by decide) (by decide) k) ?_
                            show Go p e below s _ _ _ (T_155.setTop (mkF m 167 #[.val (.int p0)] []))
                            exact jn167   T_155 _ X_155 e_155 N_155  
                          · rewrite [if_neg hc158_6]
                            refine Go.of (fun t k => XS.icmpNo X_155.here hx rfl (hb hby d1_158) rfl (flt hc158_6).1 k) ?_
                            show Go p e below s _ _ _ (T_155.setTop (mkF m 161 #[.val (.int p0)] []))
                            refine Go.of (fun t k => XS.iloadN X_155.here hx rfl (hb hby d1_161) rfl k) ?_
                            show Go p e below s _ _ _ (T_155.setTop (mkF m 162 #[.val (.int p0)] [(.int p0)]))
                            refine Go.of (X_155.ldcInt hx hown (mvT hZ (hw _ (List.mem_of_getElem? (i := 43) rfl))) (g := (mkF m 162 #[.val (.int p0)] [(.int p0)])) rfl (hb hby d1_162)) ?_
                            show Go p e below s _ _ _ (T_155.setTop (mkF m 164 #[.val (.int p0)] [(.int (64975 : Int32)), (.int p0)]))
                            by_cases hc164_7 : (64975 : Int32) < p0
                            · rewrite [if_pos hc164_7]
                              refine Go.of (fun t k => XS.icmpNo X_155.here hx rfl (hb hby d1_164) rfl (tlt hc164_7).2.2.2 k) ?_
                              show Go p e below s _ _ _ (T_155.setTop (mkF m 167 #[.val (.int p0)] []))
                              exact jn167   T_155 _ X_155 e_155 N_155  
                            · rewrite [if_neg hc164_7]
                              refine Go.of (fun t k => XS.icmpYes X_155.here hx rfl (pc0 := 164) (pc' := 191) rfl (hb hby d1_164) rfl (flt hc164_7).2.2.2 (by decide) (by decide) k) ?_
                              show Go p e below s _ _ _ (T_155.setTop (mkF m 191 #[.val (.int p0)] []))
                              refine Go.of (fun t k => XS.iconst X_155.here hx rfl (hb hby d1_191) k) ?_
                              show Go p e below s _ _ _ (T_155.setTop (mkF m 192 #[.val (.int p0)] [(.int (1 : Int32))]))
                              refine Go.of (fun t k => XS.goto X_155.here hx rfl (pc0 := 192) (pc' := 196) rfl (hb hby d1_192) (by decide) (by decide) k) ?_
                              show Go p e below s _ _ _ (T_155.setTop (mkF m 196 #[.val (.int p0)] [(.int (1 : Int32))]))
                              exact Go.ret X_155 (some (.int (1 : Int32))) (fun h => by rw [Bd.returns] at h; cases h) hlk ⟨rfl, N_155, e_155⟩ (by decide) (by decide) (fun fs hr => (retN X_155 hx (t := .boolean) Bd.returns (by simp) (hb hby d1_196) hr))
                        by_cases hc146_8 : p0 < (12289 : Int32)
                        · rewrite [if_pos hc146_8]
                          refine Go.of (fun t k => XS.icmpYes X_142.here hx rfl (pc0 := 146) (pc' := 155) rfl (hb hby d1_146) rfl (tlt hc146_8).1 (by decide) (by decide) k) ?_
                          show Go p e below s _ _ _ (T_142.setTop (mkF m 155 #[.val (.int p0)] []))
                          exact jn155   T_142 _ X_142 e_142 N_142  
                        · rewrite [if_neg hc146_8]
                          refine Go.of (fun t k => XS.icmpNo X_142.here hx rfl (hb hby d1_146) rfl (flt hc146_8).1 k) ?_
                          show Go p e below s _ _ _ (T_142.setTop (mkF m 149 #[.val (.int p0)] []))
                          refine Go.of (fun t k => XS.iloadN X_142.here hx rfl (hb hby d1_149) rfl k) ?_
                          show Go p e below s _ _ _ (T_142.setTop (mkF m 150 #[.val (.int p0)] [(.int p0)]))
                          refine Go.of (X_142.ldcInt hx hown (mvT hZ (hw _ (List.mem_of_getElem? (i := 42) rfl))) (g := (mkF m 150 #[.val (.int p0)] [(.int p0)])) rfl (hb hby d1_150)) ?_
                          show Go p e below s _ _ _ (T_142.setTop (mkF m 152 #[.val (.int p0)] [(.int (55295 : Int32)), (.int p0)]))
                          by_cases hc152_9 : (55295 : Int32) < p0
                          · rewrite [if_pos hc152_9]
                            refine Go.of (fun t k => XS.icmpNo X_142.here hx rfl (hb hby d1_152) rfl (tlt hc152_9).2.2.2 k) ?_
                            show Go p e below s _ _ _ (T_142.setTop (mkF m 155 #[.val (.int p0)] []))
                            exact jn155   T_142 _ X_142 e_142 N_142  
                          · rewrite [if_neg hc152_9]
                            refine Go.of (fun t k => XS.icmpYes X_142.here hx rfl (pc0 := 152) (pc' := 191) rfl (hb hby d1_152) rfl (flt hc152_9).2.2.2 (by decide) (by decide) k) ?_
                            show Go p e below s _ _ _ (T_142.setTop (mkF m 191 #[.val (.int p0)] []))
                            refine Go.of (fun t k => XS.iconst X_142.here hx rfl (hb hby d1_191) k) ?_
                            show Go p e below s _ _ _ (T_142.setTop (mkF m 192 #[.val (.int p0)] [(.int (1 : Int32))]))
                            refine Go.of (fun t k => XS.goto X_142.here hx rfl (pc0 := 192) (pc' := 196) rfl (hb hby d1_192) (by decide) (by decide) k) ?_
                            show Go p e below s _ _ _ (T_142.setTop (mkF m 196 #[.val (.int p0)] [(.int (1 : Int32))]))
                            exact Go.ret X_142 (some (.int (1 : Int32))) (fun h => by rw [Bd.returns] at h; cases h) hlk ⟨rfl, N_142, e_142⟩ (by decide) (by decide) (fun fs hr => (retN X_142 hx (t := .boolean) Bd.returns (by simp) (hb hby d1_196) hr))
                      by_cases hc132_10 : p0 < (11264 : Int32)
                      · rewrite [if_pos hc132_10]
                        refine Go.of (fun t k => XS.icmpYes X_128.here hx rfl (pc0 := 132) (pc' := 142) rfl (hb hby d1_132) rfl (tlt hc132_10).1 (by decide) (by decide) k) ?_
                        show Go p e below s _ _ _ (T_128.setTop (mkF m 142 #[.val (.int p0)] []))
                        exact jn142   T_128 _ X_128 e_128 N_128  
                      · rewrite [if_neg hc132_10]
                        refine Go.of (fun t k => XS.icmpNo X_128.here hx rfl (hb hby d1_132) rfl (flt hc132_10).1 k) ?_
                        show Go p e below s _ _ _ (T_128.setTop (mkF m 135 #[.val (.int p0)] []))
                        refine Go.of (fun t k => XS.iloadN X_128.here hx rfl (hb hby d1_135) rfl k) ?_
                        show Go p e below s _ _ _ (T_128.setTop (mkF m 136 #[.val (.int p0)] [(.int p0)]))
                        refine Go.of (fun t k => XS.sipush X_128.here hx rfl (hb hby d1_136) k) ?_
                        show Go p e below s _ _ _ (T_128.setTop (mkF m 139 #[.val (.int p0)] [(.int (12271 : Int32)), (.int p0)]))
                        by_cases hc139_11 : (12271 : Int32) < p0
                        · rewrite [if_pos hc139_11]
                          refine Go.of (fun t k => XS.icmpNo X_128.here hx rfl (hb hby d1_139) rfl (tlt hc139_11).2.2.2 k) ?_
                          show Go p e below s _ _ _ (T_128.setTop (mkF m 142 #[.val (.int p0)] []))
                          exact jn142   T_128 _ X_128 e_128 N_128  
                        · rewrite [if_neg hc139_11]
                          refine Go.of (fun t k => XS.icmpYes X_128.here hx rfl (pc0 := 139) (pc' := 191) rfl (hb hby d1_139) rfl (flt hc139_11).2.2.2 (by decide) (by decide) k) ?_
                          show Go p e below s _ _ _ (T_128.setTop (mkF m 191 #[.val (.int p0)] []))
                          refine Go.of (fun t k => XS.iconst X_128.here hx rfl (hb hby d1_191) k) ?_
                          show Go p e below s _ _ _ (T_128.setTop (mkF m 192 #[.val (.int p0)] [(.int (1 : Int32))]))
                          refine Go.of (fun t k => XS.goto X_128.here hx rfl (pc0 := 192) (pc' := 196) rfl (hb hby d1_192) (by decide) (by decide) k) ?_
                          show Go p e below s _ _ _ (T_128.setTop (mkF m 196 #[.val (.int p0)] [(.int (1 : Int32))]))
                          exact Go.ret X_128 (some (.int (1 : Int32))) (fun h => by rw [Bd.returns] at h; cases h) hlk ⟨rfl, N_128, e_128⟩ (by decide) (by decide) (fun fs hr => (retN X_128 hx (t := .boolean) Bd.returns (by simp) (hb hby d1_196) hr))
                    by_cases hc118_12 : p0 < (8304 : Int32)
                    · rewrite [if_pos hc118_12]
                      refine Go.of (fun t k => XS.icmpYes X_114.here hx rfl (pc0 := 118) (pc' := 128) rfl (hb hby d1_118) rfl (tlt hc118_12).1 (by decide) (by decide) k) ?_
                      show Go p e below s _ _ _ (T_114.setTop (mkF m 128 #[.val (.int p0)] []))
                      exact jn128   T_114 _ X_114 e_114 N_114  
                    · rewrite [if_neg hc118_12]
                      refine Go.of (fun t k => XS.icmpNo X_114.here hx rfl (hb hby d1_118) rfl (flt hc118_12).1 k) ?_
                      show Go p e below s _ _ _ (T_114.setTop (mkF m 121 #[.val (.int p0)] []))
                      refine Go.of (fun t k => XS.iloadN X_114.here hx rfl (hb hby d1_121) rfl k) ?_
                      show Go p e below s _ _ _ (T_114.setTop (mkF m 122 #[.val (.int p0)] [(.int p0)]))
                      refine Go.of (fun t k => XS.sipush X_114.here hx rfl (hb hby d1_122) k) ?_
                      show Go p e below s _ _ _ (T_114.setTop (mkF m 125 #[.val (.int p0)] [(.int (8591 : Int32)), (.int p0)]))
                      by_cases hc125_13 : (8591 : Int32) < p0
                      · rewrite [if_pos hc125_13]
                        refine Go.of (fun t k => XS.icmpNo X_114.here hx rfl (hb hby d1_125) rfl (tlt hc125_13).2.2.2 k) ?_
                        show Go p e below s _ _ _ (T_114.setTop (mkF m 128 #[.val (.int p0)] []))
                        exact jn128   T_114 _ X_114 e_114 N_114  
                      · rewrite [if_neg hc125_13]
                        refine Go.of (fun t k => XS.icmpYes X_114.here hx rfl (pc0 := 125) (pc' := 191) rfl (hb hby d1_125) rfl (flt hc125_13).2.2.2 (by decide) (by decide) k) ?_
                        show Go p e below s _ _ _ (T_114.setTop (mkF m 191 #[.val (.int p0)] []))
                        refine Go.of (fun t k => XS.iconst X_114.here hx rfl (hb hby d1_191) k) ?_
                        show Go p e below s _ _ _ (T_114.setTop (mkF m 192 #[.val (.int p0)] [(.int (1 : Int32))]))
                        refine Go.of (fun t k => XS.goto X_114.here hx rfl (pc0 := 192) (pc' := 196) rfl (hb hby d1_192) (by decide) (by decide) k) ?_
                        show Go p e below s _ _ _ (T_114.setTop (mkF m 196 #[.val (.int p0)] [(.int (1 : Int32))]))
                        exact Go.ret X_114 (some (.int (1 : Int32))) (fun h => by rw [Bd.returns] at h; cases h) hlk ⟨rfl, N_114, e_114⟩ (by decide) (by decide) (fun fs hr => (retN X_114 hx (t := .boolean) Bd.returns (by simp) (hb hby d1_196) hr))
                  by_cases hc104_14 : p0 < (8204 : Int32)
                  · rewrite [if_pos hc104_14]
                    refine Go.of (fun t k => XS.icmpYes X_100.here hx rfl (pc0 := 104) (pc' := 114) rfl (hb hby d1_104) rfl (tlt hc104_14).1 (by decide) (by decide) k) ?_
                    show Go p e below s _ _ _ (T_100.setTop (mkF m 114 #[.val (.int p0)] []))
                    exact jn114   T_100 _ X_100 e_100 N_100  
                  · rewrite [if_neg hc104_14]
                    refine Go.of (fun t k => XS.icmpNo X_100.here hx rfl (hb hby d1_104) rfl (flt hc104_14).1 k) ?_
                    show Go p e below s _ _ _ (T_100.setTop (mkF m 107 #[.val (.int p0)] []))
                    refine Go.of (fun t k => XS.iloadN X_100.here hx rfl (hb hby d1_107) rfl k) ?_
                    show Go p e below s _ _ _ (T_100.setTop (mkF m 108 #[.val (.int p0)] [(.int p0)]))
                    refine Go.of (fun t k => XS.sipush X_100.here hx rfl (hb hby d1_108) k) ?_
                    show Go p e below s _ _ _ (T_100.setTop (mkF m 111 #[.val (.int p0)] [(.int (8205 : Int32)), (.int p0)]))
                    by_cases hc111_15 : (8205 : Int32) < p0
                    · rewrite [if_pos hc111_15]
                      refine Go.of (fun t k => XS.icmpNo X_100.here hx rfl (hb hby d1_111) rfl (tlt hc111_15).2.2.2 k) ?_
                      show Go p e below s _ _ _ (T_100.setTop (mkF m 114 #[.val (.int p0)] []))
                      exact jn114   T_100 _ X_100 e_100 N_100  
                    · rewrite [if_neg hc111_15]
                      refine Go.of (fun t k => XS.icmpYes X_100.here hx rfl (pc0 := 111) (pc' := 191) rfl (hb hby d1_111) rfl (flt hc111_15).2.2.2 (by decide) (by decide) k) ?_
                      show Go p e below s _ _ _ (T_100.setTop (mkF m 191 #[.val (.int p0)] []))
                      refine Go.of (fun t k => XS.iconst X_100.here hx rfl (hb hby d1_191) k) ?_
                      show Go p e below s _ _ _ (T_100.setTop (mkF m 192 #[.val (.int p0)] [(.int (1 : Int32))]))
                      refine Go.of (fun t k => XS.goto X_100.here hx rfl (pc0 := 192) (pc' := 196) rfl (hb hby d1_192) (by decide) (by decide) k) ?_
                      show Go p e below s _ _ _ (T_100.setTop (mkF m 196 #[.val (.int p0)] [(.int (1 : Int32))]))
                      exact Go.ret X_100 (some (.int (1 : Int32))) (fun h => by rw [Bd.returns] at h; cases h) hlk ⟨rfl, N_100, e_100⟩ (by decide) (by decide) (fun fs hr => (retN X_100 hx (t := .boolean) Bd.returns (by simp) (hb hby d1_196) hr))
                by_cases hc90_16 : p0 < (895 : Int32)
                · rewrite [if_pos hc90_16]
                  refine Go.of (fun t k => XS.icmpYes X_86.here hx rfl (pc0 := 90) (pc' := 100) rfl (hb hby d1_90) rfl (tlt hc90_16).1 (by decide) (by decide) k) ?_
                  show Go p e below s _ _ _ (T_86.setTop (mkF m 100 #[.val (.int p0)] []))
                  exact jn100   T_86 _ X_86 e_86 N_86  
                · rewrite [if_neg hc90_16]
                  refine Go.of (fun t k => XS.icmpNo X_86.here hx rfl (hb hby d1_90) rfl (flt hc90_16).1 k) ?_
                  show Go p e below s _ _ _ (T_86.setTop (mkF m 93 #[.val (.int p0)] []))
                  refine Go.of (fun t k => XS.iloadN X_86.here hx rfl (hb hby d1_93) rfl k) ?_
                  show Go p e below s _ _ _ (T_86.setTop (mkF m 94 #[.val (.int p0)] [(.int p0)]))
                  refine Go.of (fun t k => XS.sipush X_86.here hx rfl (hb hby d1_94) k) ?_
                  show Go p e below s _ _ _ (T_86.setTop (mkF m 97 #[.val (.int p0)] [(.int (8191 : Int32)), (.int p0)]))
                  by_cases hc97_17 : (8191 : Int32) < p0
                  · rewrite [if_pos hc97_17]
                    refine Go.of (fun t k => XS.icmpNo X_86.here hx rfl (hb hby d1_97) rfl (tlt hc97_17).2.2.2 k) ?_
                    show Go p e below s _ _ _ (T_86.setTop (mkF m 100 #[.val (.int p0)] []))
                    exact jn100   T_86 _ X_86 e_86 N_86  
                  · rewrite [if_neg hc97_17]
                    refine Go.of (fun t k => XS.icmpYes X_86.here hx rfl (pc0 := 97) (pc' := 191) rfl (hb hby d1_97) rfl (flt hc97_17).2.2.2 (by decide) (by decide) k) ?_
                    show Go p e below s _ _ _ (T_86.setTop (mkF m 191 #[.val (.int p0)] []))
                    refine Go.of (fun t k => XS.iconst X_86.here hx rfl (hb hby d1_191) k) ?_
                    show Go p e below s _ _ _ (T_86.setTop (mkF m 192 #[.val (.int p0)] [(.int (1 : Int32))]))
                    refine Go.of (fun t k => XS.goto X_86.here hx rfl (pc0 := 192) (pc' := 196) rfl (hb hby d1_192) (by decide) (by decide) k) ?_
                    show Go p e below s _ _ _ (T_86.setTop (mkF m 196 #[.val (.int p0)] [(.int (1 : Int32))]))
                    exact Go.ret X_86 (some (.int (1 : Int32))) (fun h => by rw [Bd.returns] at h; cases h) hlk ⟨rfl, N_86, e_86⟩ (by decide) (by decide) (fun fs hr => (retN X_86 hx (t := .boolean) Bd.returns (by simp) (hb hby d1_196) hr))
              by_cases hc76_18 : p0 < (880 : Int32)
              · rewrite [if_pos hc76_18]
                refine Go.of (fun t k => XS.icmpYes X_72.here hx rfl (pc0 := 76) (pc' := 86) rfl (hb hby d1_76) rfl (tlt hc76_18).1 (by decide) (by decide) k) ?_
                show Go p e below s _ _ _ (T_72.setTop (mkF m 86 #[.val (.int p0)] []))
                exact jn86   T_72 _ X_72 e_72 N_72  
              · rewrite [if_neg hc76_18]
                refine Go.of (fun t k => XS.icmpNo X_72.here hx rfl (hb hby d1_76) rfl (flt hc76_18).1 k) ?_
                show Go p e below s _ _ _ (T_72.setTop (mkF m 79 #[.val (.int p0)] []))
                refine Go.of (fun t k => XS.iloadN X_72.here hx rfl (hb hby d1_79) rfl k) ?_
                show Go p e below s _ _ _ (T_72.setTop (mkF m 80 #[.val (.int p0)] [(.int p0)]))
                refine Go.of (fun t k => XS.sipush X_72.here hx rfl (hb hby d1_80) k) ?_
                show Go p e below s _ _ _ (T_72.setTop (mkF m 83 #[.val (.int p0)] [(.int (893 : Int32)), (.int p0)]))
                by_cases hc83_19 : (893 : Int32) < p0
                · rewrite [if_pos hc83_19]
                  refine Go.of (fun t k => XS.icmpNo X_72.here hx rfl (hb hby d1_83) rfl (tlt hc83_19).2.2.2 k) ?_
                  show Go p e below s _ _ _ (T_72.setTop (mkF m 86 #[.val (.int p0)] []))
                  exact jn86   T_72 _ X_72 e_72 N_72  
                · rewrite [if_neg hc83_19]
                  refine Go.of (fun t k => XS.icmpYes X_72.here hx rfl (pc0 := 83) (pc' := 191) rfl (hb hby d1_83) rfl (flt hc83_19).2.2.2 (by decide) (by decide) k) ?_
                  show Go p e below s _ _ _ (T_72.setTop (mkF m 191 #[.val (.int p0)] []))
                  refine Go.of (fun t k => XS.iconst X_72.here hx rfl (hb hby d1_191) k) ?_
                  show Go p e below s _ _ _ (T_72.setTop (mkF m 192 #[.val (.int p0)] [(.int (1 : Int32))]))
                  refine Go.of (fun t k => XS.goto X_72.here hx rfl (pc0 := 192) (pc' := 196) rfl (hb hby d1_192) (by decide) (by decide) k) ?_
                  show Go p e below s _ _ _ (T_72.setTop (mkF m 196 #[.val (.int p0)] [(.int (1 : Int32))]))
                  exact Go.ret X_72 (some (.int (1 : Int32))) (fun h => by rw [Bd.returns] at h; cases h) hlk ⟨rfl, N_72, e_72⟩ (by decide) (by decide) (fun fs hr => (retN X_72 hx (t := .boolean) Bd.returns (by simp) (hb hby d1_196) hr))
            by_cases hc62_20 : p0 < (248 : Int32)
            · rewrite [if_pos hc62_20]
              refine Go.of (fun t k => XS.icmpYes X_58.here hx rfl (pc0 := 62) (pc' := 72) rfl (hb hby d1_62) rfl (tlt hc62_20).1 (by decide) (by decide) k) ?_
              show Go p e below s _ _ _ (T_58.setTop (mkF m 72 #[.val (.int p0)] []))
              exact jn72   T_58 _ X_58 e_58 N_58  
            · rewrite [if_neg hc62_20]
              refine Go.of (fun t k => XS.icmpNo X_58.here hx rfl (hb hby d1_62) rfl (flt hc62_20).1 k) ?_
              show Go p e below s _ _ _ (T_58.setTop (mkF m 65 #[.val (.int p0)] []))
              refine Go.of (fun t k => XS.iloadN X_58.here hx rfl (hb hby d1_65) rfl k) ?_
              show Go p e below s _ _ _ (T_58.setTop (mkF m 66 #[.val (.int p0)] [(.int p0)]))
              refine Go.of (fun t k => XS.sipush X_58.here hx rfl (hb hby d1_66) k) ?_
              show Go p e below s _ _ _ (T_58.setTop (mkF m 69 #[.val (.int p0)] [(.int (767 : Int32)), (.int p0)]))
              by_cases hc69_21 : (767 : Int32) < p0
              · rewrite [if_pos hc69_21]
                refine Go.of (fun t k => XS.icmpNo X_58.here hx rfl (hb hby d1_69) rfl (tlt hc69_21).2.2.2 k) ?_
                show Go p e below s _ _ _ (T_58.setTop (mkF m 72 #[.val (.int p0)] []))
                exact jn72   T_58 _ X_58 e_58 N_58  
              · rewrite [if_neg hc69_21]
                refine Go.of (fun t k => XS.icmpYes X_58.here hx rfl (pc0 := 69) (pc' := 191) rfl (hb hby d1_69) rfl (flt hc69_21).2.2.2 (by decide) (by decide) k) ?_
                show Go p e below s _ _ _ (T_58.setTop (mkF m 191 #[.val (.int p0)] []))
                refine Go.of (fun t k => XS.iconst X_58.here hx rfl (hb hby d1_191) k) ?_
                show Go p e below s _ _ _ (T_58.setTop (mkF m 192 #[.val (.int p0)] [(.int (1 : Int32))]))
                refine Go.of (fun t k => XS.goto X_58.here hx rfl (pc0 := 192) (pc' := 196) rfl (hb hby d1_192) (by decide) (by decide) k) ?_
                show Go p e below s _ _ _ (T_58.setTop (mkF m 196 #[.val (.int p0)] [(.int (1 : Int32))]))
                exact Go.ret X_58 (some (.int (1 : Int32))) (fun h => by rw [Bd.returns] at h; cases h) hlk ⟨rfl, N_58, e_58⟩ (by decide) (by decide) (fun fs hr => (retN X_58 hx (t := .boolean) Bd.returns (by simp) (hb hby d1_196) hr))
          by_cases hc48_22 : p0 < (216 : Int32)
          · rewrite [if_pos hc48_22]
            refine Go.of (fun t k => XS.icmpYes X_44.here hx rfl (pc0 := 48) (pc' := 58) rfl (hb hby d1_48) rfl (tlt hc48_22).1 (by decide) (by decide) k) ?_
            show Go p e below s _ _ _ (T_44.setTop (mkF m 58 #[.val (.int p0)] []))
            exact jn58   T_44 _ X_44 e_44 N_44  
          · rewrite [if_neg hc48_22]
            refine Go.of (fun t k => XS.icmpNo X_44.here hx rfl (hb hby d1_48) rfl (flt hc48_22).1 k) ?_
            show Go p e below s _ _ _ (T_44.setTop (mkF m 51 #[.val (.int p0)] []))
            refine Go.of (fun t k => XS.iloadN X_44.here hx rfl (hb hby d1_51) rfl k) ?_
            show Go p e below s _ _ _ (T_44.setTop (mkF m 52 #[.val (.int p0)] [(.int p0)]))
            refine Go.of (fun t k => XS.sipush X_44.here hx rfl (hb hby d1_52) k) ?_
            show Go p e below s _ _ _ (T_44.setTop (mkF m 55 #[.val (.int p0)] [(.int (246 : Int32)), (.int p0)]))
            by_cases hc55_23 : (246 : Int32) < p0
            · rewrite [if_pos hc55_23]
              refine Go.of (fun t k => XS.icmpNo X_44.here hx rfl (hb hby d1_55) rfl (tlt hc55_23).2.2.2 k) ?_
              show Go p e below s _ _ _ (T_44.setTop (mkF m 58 #[.val (.int p0)] []))
              exact jn58   T_44 _ X_44 e_44 N_44  
            · rewrite [if_neg hc55_23]
              refine Go.of (fun t k => XS.icmpYes X_44.here hx rfl (pc0 := 55) (pc' := 191) rfl (hb hby d1_55) rfl (flt hc55_23).2.2.2 (by decide) (by decide) k) ?_
              show Go p e below s _ _ _ (T_44.setTop (mkF m 191 #[.val (.int p0)] []))
              refine Go.of (fun t k => XS.iconst X_44.here hx rfl (hb hby d1_191) k) ?_
              show Go p e below s _ _ _ (T_44.setTop (mkF m 192 #[.val (.int p0)] [(.int (1 : Int32))]))
              refine Go.of (fun t k => XS.goto X_44.here hx rfl (pc0 := 192) (pc' := 196) rfl (hb hby d1_192) (by decide) (by decide) k) ?_
              show Go p e below s _ _ _ (T_44.setTop (mkF m 196 #[.val (.int p0)] [(.int (1 : Int32))]))
              exact Go.ret X_44 (some (.int (1 : Int32))) (fun h => by rw [Bd.returns] at h; cases h) hlk ⟨rfl, N_44, e_44⟩ (by decide) (by decide) (fun fs hr => (retN X_44 hx (t := .boolean) Bd.returns (by simp) (hb hby d1_196) hr))
        by_cases hc34_24 : p0 < (192 : Int32)
        · rewrite [if_pos hc34_24]
          refine Go.of (fun t k => XS.icmpYes X_30.here hx rfl (pc0 := 34) (pc' := 44) rfl (hb hby d1_34) rfl (tlt hc34_24).1 (by decide) (by decide) k) ?_
          show Go p e below s _ _ _ (T_30.setTop (mkF m 44 #[.val (.int p0)] []))
          exact jn44   T_30 _ X_30 e_30 N_30  
        · rewrite [if_neg hc34_24]
          refine Go.of (fun t k => XS.icmpNo X_30.here hx rfl (hb hby d1_34) rfl (flt hc34_24).1 k) ?_
          show Go p e below s _ _ _ (T_30.setTop (mkF m 37 #[.val (.int p0)] []))
          refine Go.of (fun t k => XS.iloadN X_30.here hx rfl (hb hby d1_37) rfl k) ?_
          show Go p e below s _ _ _ (T_30.setTop (mkF m 38 #[.val (.int p0)] [(.int p0)]))
          refine Go.of (fun t k => XS.sipush X_30.here hx rfl (hb hby d1_38) k) ?_
          show Go p e below s _ _ _ (T_30.setTop (mkF m 41 #[.val (.int p0)] [(.int (214 : Int32)), (.int p0)]))
          by_cases hc41_25 : (214 : Int32) < p0
          · rewrite [if_pos hc41_25]
            refine Go.of (fun t k => XS.icmpNo X_30.here hx rfl (hb hby d1_41) rfl (tlt hc41_25).2.2.2 k) ?_
            show Go p e below s _ _ _ (T_30.setTop (mkF m 44 #[.val (.int p0)] []))
            exact jn44   T_30 _ X_30 e_30 N_30  
          · rewrite [if_neg hc41_25]
            refine Go.of (fun t k => XS.icmpYes X_30.here hx rfl (pc0 := 41) (pc' := 191) rfl (hb hby d1_41) rfl (flt hc41_25).2.2.2 (by decide) (by decide) k) ?_
            show Go p e below s _ _ _ (T_30.setTop (mkF m 191 #[.val (.int p0)] []))
            refine Go.of (fun t k => XS.iconst X_30.here hx rfl (hb hby d1_191) k) ?_
            show Go p e below s _ _ _ (T_30.setTop (mkF m 192 #[.val (.int p0)] [(.int (1 : Int32))]))
            refine Go.of (fun t k => XS.goto X_30.here hx rfl (pc0 := 192) (pc' := 196) rfl (hb hby d1_192) (by decide) (by decide) k) ?_
            show Go p e below s _ _ _ (T_30.setTop (mkF m 196 #[.val (.int p0)] [(.int (1 : Int32))]))
            exact Go.ret X_30 (some (.int (1 : Int32))) (fun h => by rw [Bd.returns] at h; cases h) hlk ⟨rfl, N_30, e_30⟩ (by decide) (by decide) (fun fs hr => (retN X_30 hx (t := .boolean) Bd.returns (by simp) (hb hby d1_196) hr))
      by_cases hc21_26 : p0 < (97 : Int32)
      · rewrite [if_pos hc21_26]
        refine Go.of (fun t k => XS.icmpYes X_12.here hx rfl (pc0 := 21) (pc' := 30) rfl (hb hby d1_21) rfl (tlt hc21_26).1 (by decide) (by decide) k) ?_
        show Go p e below s _ _ _ (T_12.setTop (mkF m 30 #[.val (.int p0)] []))
        exact jn30   T_12 _ X_12 e_12 N_12  
      · rewrite [if_neg hc21_26]
        refine Go.of (fun t k => XS.icmpNo X_12.here hx rfl (hb hby d1_21) rfl (flt hc21_26).1 k) ?_
        show Go p e below s _ _ _ (T_12.setTop (mkF m 24 #[.val (.int p0)] []))
        refine Go.of (fun t k => XS.iloadN X_12.here hx rfl (hb hby d1_24) rfl k) ?_
        show Go p e below s _ _ _ (T_12.setTop (mkF m 25 #[.val (.int p0)] [(.int p0)]))
        refine Go.of (fun t k => XS.bipush X_12.here hx rfl (hb hby d1_25) k) ?_
        show Go p e below s _ _ _ (T_12.setTop (mkF m 27 #[.val (.int p0)] [(.int (122 : Int32)), (.int p0)]))
        by_cases hc27_27 : (122 : Int32) < p0
        · rewrite [if_pos hc27_27]
          refine Go.of (fun t k => XS.icmpNo X_12.here hx rfl (hb hby d1_27) rfl (tlt hc27_27).2.2.2 k) ?_
          show Go p e below s _ _ _ (T_12.setTop (mkF m 30 #[.val (.int p0)] []))
          exact jn30   T_12 _ X_12 e_12 N_12  
        · rewrite [if_neg hc27_27]
          refine Go.of (fun t k => XS.icmpYes X_12.here hx rfl (pc0 := 27) (pc' := 191) rfl (hb hby d1_27) rfl (flt hc27_27).2.2.2 (by decide) (by decide) k) ?_
          show Go p e below s _ _ _ (T_12.setTop (mkF m 191 #[.val (.int p0)] []))
          refine Go.of (fun t k => XS.iconst X_12.here hx rfl (hb hby d1_191) k) ?_
          show Go p e below s _ _ _ (T_12.setTop (mkF m 192 #[.val (.int p0)] [(.int (1 : Int32))]))
          refine Go.of (fun t k => XS.goto X_12.here hx rfl (pc0 := 192) (pc' := 196) rfl (hb hby d1_192) (by decide) (by decide) k) ?_
          show Go p e below s _ _ _ (T_12.setTop (mkF m 196 #[.val (.int p0)] [(.int (1 : Int32))]))
          exact Go.ret X_12 (some (.int (1 : Int32))) (fun h => by rw [Bd.returns] at h; cases h) hlk ⟨rfl, N_12, e_12⟩ (by decide) (by decide) (fun fs hr => (retN X_12 hx (t := .boolean) Bd.returns (by simp) (hb hby d1_196) hr))
  by_cases hc3_28 : p0 < (65 : Int32)
  · rewrite [if_pos hc3_28]
    refine Go.of (fun t k => XS.icmpYes X0.here hx rfl (pc0 := 3) (pc' := 12) rfl (hb hby d1_3) rfl (tlt hc3_28).1 (by decide) (by decide) k) ?_
    show Go p e below s _ _ _ (s₁.setTop (mkF m 12 #[.val (.int p0)] []))
    exact jn12   s₁ _ X0 e0 N0  
  · rewrite [if_neg hc3_28]
    refine Go.of (fun t k => XS.icmpNo X0.here hx rfl (hb hby d1_3) rfl (flt hc3_28).1 k) ?_
    show Go p e below s _ _ _ (s₁.setTop (mkF m 6 #[.val (.int p0)] []))
    refine Go.of (fun t k => XS.iloadN X0.here hx rfl (hb hby d1_6) rfl k) ?_
    show Go p e below s _ _ _ (s₁.setTop (mkF m 7 #[.val (.int p0)] [(.int p0)]))
    refine Go.of (fun t k => XS.bipush X0.here hx rfl (hb hby d1_7) k) ?_
    show Go p e below s _ _ _ (s₁.setTop (mkF m 9 #[.val (.int p0)] [(.int (90 : Int32)), (.int p0)]))
    by_cases hc9_29 : (90 : Int32) < p0
    · rewrite [if_pos hc9_29]
      refine Go.of (fun t k => XS.icmpNo X0.here hx rfl (hb hby d1_9) rfl (tlt hc9_29).2.2.2 k) ?_
      show Go p e below s _ _ _ (s₁.setTop (mkF m 12 #[.val (.int p0)] []))
      exact jn12   s₁ _ X0 e0 N0  
    · rewrite [if_neg hc9_29]
      refine Go.of (fun t k => XS.icmpYes X0.here hx rfl (pc0 := 9) (pc' := 191) rfl (hb hby d1_9) rfl (flt hc9_29).2.2.2 (by decide) (by decide) k) ?_
      show Go p e below s _ _ _ (s₁.setTop (mkF m 191 #[.val (.int p0)] []))
      refine Go.of (fun t k => XS.iconst X0.here hx rfl (hb hby d1_191) k) ?_
      show Go p e below s _ _ _ (s₁.setTop (mkF m 192 #[.val (.int p0)] [(.int (1 : Int32))]))
      refine Go.of (fun t k => XS.goto X0.here hx rfl (pc0 := 192) (pc' := 196) rfl (hb hby d1_192) (by decide) (by decide) k) ?_
      show Go p e below s _ _ _ (s₁.setTop (mkF m 196 #[.val (.int p0)] [(.int (1 : Int32))]))
      exact Go.ret X0 (some (.int (1 : Int32))) (fun h => by rw [Bd.returns] at h; cases h) hlk ⟨rfl, N0, e0⟩ (by decide) (by decide) (fun fs hr => (retN X0 hx (t := .boolean) Bd.returns (by simp) (hb hby d1_196) hr))
def own_L : List Int64 := [(-2147483648 : Int64), (65 : Int64), (91 : Int64), (95 : Int64), (96 : Int64), (97 : Int64), (123 : Int64), (192 : Int64), (215 : Int64), (216 : Int64), (247 : Int64), (248 : Int64), (768 : Int64), (880 : Int64), (894 : Int64), (895 : Int64), (8192 : Int64), (8204 : Int64), (8206 : Int64), (8304 : Int64), (8592 : Int64), (11264 : Int64), (12272 : Int64), (12289 : Int64), (55296 : Int64), (63744 : Int64), (64976 : Int64), (65008 : Int64), (65534 : Int64), (65536 : Int64), (983040 : Int64), (2147483648 : Int64)]
def own_tab (k : Int32) : Int64 := own_L.getD k.toNatClampNeg 0
theorem own_getD : ∀ (L : List Int64) (i : Nat), (L.map Value.long).getD i (.long (0 : Int64)) = .long (L.getD i 0)
  | [], i => by simp
  | a :: L, 0 => by simp
  | a :: L, i + 1 => by simpa using own_getD L i
theorem own_hk (a : Int32) : ¬ ((a &&& (2147483647 : Int32)) % (31 : Int32) < 0) ∧ (a &&& (2147483647 : Int32)) % (31 : Int32) < 31 := by
  have m := c_mask a 2147483647 31 (by decide) (by decide)
  have r := (c_irem (a &&& 2147483647) 31 31 rfl).1 (by omega)
  rw [Int32.lt_iff_toInt_lt, Int32.lt_iff_toInt_lt, r]
  have e0 : (0 : Int32).toInt = 0 := by decide
  have e1 : (31 : Int32).toInt = 31 := by decide
  omega
theorem own_lt {k : Int32} (h : ¬ (k < 0) ∧ k < 31) : k < 32 := by
  rw [Int32.lt_iff_toInt_lt, Int32.lt_iff_toInt_lt] at h
  rw [Int32.lt_iff_toInt_lt]
  have e0 : (0 : Int32).toInt = 0 := by decide
  have e1 : (31 : Int32).toInt = 31 := by decide
  have e2 : (32 : Int32).toInt = 32 := by decide
  omega
theorem own_succ {k : Int32} (h : ¬ (k < 0) ∧ k < 31) : (k + (1 : Int32)).toInt = k.toInt + 1 := by
  have q := c_iadd k 1
  have r := rng32 (k + 1)
  rw [Int32.lt_iff_toInt_lt, Int32.lt_iff_toInt_lt] at h
  have e0 : (0 : Int32).toInt = 0 := by decide
  have e1 : (31 : Int32).toInt = 31 := by decide
  have e2 : (1 : Int32).toInt = 1 := by decide
  omega
theorem own_k0 {k : Int32} (h : ¬ (k < 0) ∧ k < 31) : ¬ (k + (1 : Int32) < 0) := by
  have q := own_succ h
  rw [Int32.lt_iff_toInt_lt, Int32.lt_iff_toInt_lt] at h
  rw [Int32.lt_iff_toInt_lt, q]
  have e0 : (0 : Int32).toInt = 0 := by decide
  omega
theorem own_k1 {k : Int32} (h : ¬ (k < 0) ∧ k < 31) : k + (1 : Int32) < 32 := by
  have q := own_succ h
  rw [Int32.lt_iff_toInt_lt, Int32.lt_iff_toInt_lt] at h
  rw [Int32.lt_iff_toInt_lt, q]
  have e1 : (31 : Int32).toInt = 31 := by decide
  have e2 : (32 : Int32).toInt = 32 := by decide
  omega
theorem own_cases {k : Int32} (h : ¬ (k < 0) ∧ k < 31) : ∃ i : Fin 31, k = Int32.ofNat i.val := by
  rw [Int32.lt_iff_toInt_lt, Int32.lt_iff_toInt_lt] at h
  have e0 : (0 : Int32).toInt = 0 := by decide
  have e1 : (31 : Int32).toInt = 31 := by decide
  refine ⟨⟨k.toInt.toNat, by omega⟩, ?_⟩
  apply Int32.toInt_inj.mp
  rw [Int32.toInt_ofNat_of_lt (by show k.toInt.toNat < 2 ^ 31; omega)]
  show k.toInt = (k.toInt.toNat : Int)
  omega
theorem own_pos {k : Int32} (h : ¬ (k < 0) ∧ k < 31) : own_tab (k + (1 : Int32)) - own_tab k ≠ 0 := by
  obtain ⟨i, rfl⟩ := own_cases h
  have : ∀ i : Fin 31, own_tab (Int32.ofNat i.val + (1 : Int32)) - own_tab (Int32.ofNat i.val) ≠ 0 := by decide +kernel
  exact this i
theorem own_pd0 : parseMethodDescriptor "(I)Z" = some ⟨[.int], some .boolean⟩ := by decide +kernel
theorem own_pn1 : plainName "com/example/susurrus/susurrus/XmlNamesIsNameStartPinLaw" = true := by first | (simp [plainName, overriddenIn]; done) | decide +kernel
theorem ef_0 (m : MethodId) (p0 : Int32) (p1 : Int32) (q2 : Int64) : entryFrame m #[(.int p0), (.int p1), (.long q2)] maxLocals = mkF m 0 #[.val (.int p0), .val (.int p1), .val (.long q2), .second, .unset, .unset, .unset, .unset, .unset, .unset, .unset, .unset, .unset, .unset, .unset] [] := by first | (simp [entryFrame, mkF, argsToLocals, Value.category, maxLocals]; done) | rfl
def F0_314 (v5_233c : Int32) (v11_293 : Int64) (w0_314 : Int32) : Int32 := (if (F1 (((own_tab v5_233c) + v11_293).toInt32)) = w0_314 then (1 : Int32) else (0 : Int32))
def F0_293 (v5_233c : Int32) (v11_293 : Int64) : Int32 := (if (v5_233c &&& (1 : Int32)) = (1 : Int32) then (F0_314 v5_233c v11_293 (1 : Int32)) else (F0_314 v5_233c v11_293 (0 : Int32)))
def F0_233c (p1 : Int32) (q2 : Int64) (v5_233c : Int32) : Int32 := (if (p1 &&& (3 : Int32)) = (0 : Int32) then (F0_293 v5_233c (0 : Int64)) else (if (p1 &&& (3 : Int32)) = (1 : Int32) then (F0_293 v5_233c (((own_tab (v5_233c + (1 : Int32))) - (own_tab v5_233c)) - (1 : Int64))) else (F0_293 v5_233c ((q2 &&& (9223372036854775807 : Int64)) % ((own_tab (v5_233c + (1 : Int32))) - (own_tab v5_233c))))))
def F0 (p0 : Int32) (p1 : Int32) (q2 : Int64) : Int32 := (F0_233c p1 q2 ((p0 &&& (2147483647 : Int32)) % (31 : Int32)))
set_option maxRecDepth 65536 in
set_option maxHeartbeats 40000000 in
theorem rm0 (l : Launch) (Z : State) (az : Array Value) (hw : ∀ d ∈ tables_1, d.before az Z = true) (ws : List Jvm.Cond) (p0 : Int32) (p1 : Int32) (q2 : Int64)  (h0 : Heap) (n0 : Nat) (Z0 : n0 ≤ h0.size) :
    MetFree l x (head1 (Jvm.Cond.code x code maxLocals ret :: ws) room_1) (fun a U => a = #[(.int p0), (.int p1), (.long q2)] ∧ Z.Warmed39 U.vm ∧ U.heap = h0) (fun _ _ _ _ _ => True) (fun _ U o U' => ∃ v L, o = .returned v ∧ (QL (some (.int (F0 p0 p1 q2))) n0) v U'.heap L ∧ FrameEnd U o U' L room_1.cells room_1.slots) := by
  refine MetFree.of_bodySF (plainFor_of_name own_pn1) hisR ?_
  intro p e s m args below meth c s₁ Bd hml0 hP hK
  obtain ⟨rfl, hZ, hh⟩ := hP
  have hx := Bd.exec
  have hby := Bd.bytes
  have hml : c.maxLocals = 15 := hml0
  have hown : s.vm.findClass "com/example/susurrus/susurrus/XmlNamesIsNameStartPinLaw" = some m.cls := findClass_of_methodNamed Bd.named
  have hnm := (name_of_methodNamed Bd.named Bd.method).1
  have hlk : meth.locks = false := BodyLoose.notSynchronized Bd
  have X0 : Stand p l e room_1 s m #[(.int p0), (.int p1), (.long q2)] below meth c s₁ [] 0 0 := Stand.of_body Bd
  have e0 : s₁.heap = h0 := by rw [← hh, Bd.state]; rfl
  have N0 := Fr.nil n0
  show Go p e below s (QL (some (.int (F0 p0 p1 q2))) n0) room_1.cells room_1.slots (s₁.setTop (entryFrame m #[(.int p0), (.int p1), (.long q2)] maxLocals))
  refine Go.of (fun t k => castTop (ef_0 m p0 p1 q2) k) ?_
  show Go p e below s _ _ _ (s₁.setTop (mkF m 0 #[.val (.int p0), .val (.int p1), .val (.long q2), .second, .unset, .unset, .unset, .unset, .unset, .unset, .unset, .unset, .unset, .unset, .unset] []))
  unfold F0
  refine Go.of (fun t k => XS.bipush X0.here hx rfl (hb hby at_0) k) ?_
  show Go p e below s _ _ _ (s₁.setTop (mkF m 2 #[.val (.int p0), .val (.int p1), .val (.long q2), .second, .unset, .unset, .unset, .unset, .unset, .unset, .unset, .unset, .unset, .unset, .unset] [(.int (32 : Int32))]))
  obtain ⟨T1, h1, k1, X1, e1, E1, A1, st1⟩ := newP X0 hx hZ (hw _ (List.mem_of_getElem? (i := 0) rfl)) e0 (g := (mkF m 2 #[.val (.int p0), .val (.int p1), .val (.long q2), .second, .unset, .unset, .unset, .unset, .unset, .unset, .unset, .unset, .unset, .unset, .unset] [(.int (32 : Int32))])) rfl (hb hby at_2) rfl (by decide) (cap := 32) (by decide) (by decide) (by decide) (by decide)
  obtain ⟨b1, ga1⟩ : ∃ z, z = h0.size := ⟨_, rfl⟩
  rw [← ga1] at A1 st1
  have g_b1 : n0 ≤ b1 := Nat.le_trans Z0 (Nat.le_of_eq ga1.symm)
  have sz_b1 : h0.size ≤ b1 := Nat.le_trans (Keep.refl h0 []).1 (Nat.le_of_eq ga1.symm)
  have f2 : Arv Z h1 b1 k1 .long (32 : Int32) [(.long (0 : Int64)), (.long (0 : Int64)), (.long (0 : Int64)), (.long (0 : Int64)), (.long (0 : Int64)), (.long (0 : Int64)), (.long (0 : Int64)), (.long (0 : Int64)), (.long (0 : Int64)), (.long (0 : Int64)), (.long (0 : Int64)), (.long (0 : Int64)), (.long (0 : Int64)), (.long (0 : Int64)), (.long (0 : Int64)), (.long (0 : Int64)), (.long (0 : Int64)), (.long (0 : Int64)), (.long (0 : Int64)), (.long (0 : Int64)), (.long (0 : Int64)), (.long (0 : Int64)), (.long (0 : Int64)), (.long (0 : Int64)), (.long (0 : Int64)), (.long (0 : Int64)), (.long (0 : Int64)), (.long (0 : Int64)), (.long (0 : Int64)), (.long (0 : Int64)), (.long (0 : Int64)), (.long (0 : Int64))] (.long (0 : Int64)) := (Arv.new A1 (by decide)).pad (pad_rep [] (.long (0 : Int64)) 32)
  have K1 : Keep h0 h1 [] := Keep.ext (Keep.refl h0 []) E1
  refine Go.of st1 ?_
  show Go p e below s _ _ _ (T1.setTop (mkF m 4 #[.val (.int p0), .val (.int p1), .val (.long q2), .second, .unset, .unset, .unset, .unset, .unset, .unset, .unset, .unset, .unset, .unset, .unset] [(.ref b1)]))
  refine Go.of (fun t k => XS.dup X1.here hx rfl (hb hby at_4) rfl rfl k) ?_
  show Go p e below s _ _ _ (T1.setTop (mkF m 5 #[.val (.int p0), .val (.int p1), .val (.long q2), .second, .unset, .unset, .unset, .unset, .unset, .unset, .unset, .unset, .unset, .unset, .unset] [(.ref b1), (.ref b1)]))
  refine Go.of (fun t k => XS.iconst X1.here hx rfl (hb hby at_5) k) ?_
  show Go p e below s _ _ _ (T1.setTop (mkF m 6 #[.val (.int p0), .val (.int p1), .val (.long q2), .second, .unset, .unset, .unset, .unset, .unset, .unset, .unset, .unset, .unset, .unset, .unset] [(.int (0 : Int32)), (.ref b1), (.ref b1)]))
  refine Go.of (X1.ldc2Long hx hown (mvT hZ (hw _ (List.mem_of_getElem? (i := 1) rfl))) (g := (mkF m 6 #[.val (.int p0), .val (.int p1), .val (.long q2), .second, .unset, .unset, .unset, .unset, .unset, .unset, .unset, .unset, .unset, .unset, .unset] [(.int (0 : Int32)), (.ref b1), (.ref b1)])) rfl (hb hby at_6)) ?_
  show Go p e below s _ _ _ (T1.setTop (mkF m 9 #[.val (.int p0), .val (.int p1), .val (.long q2), .second, .unset, .unset, .unset, .unset, .unset, .unset, .unset, .unset, .unset, .unset, .unset] [(.long (-2147483648 : Int64)), (.int (0 : Int32)), (.ref b1), (.ref b1)]))
  obtain ⟨cl3, Ar3, q3, S3, M3, H3, G3⟩ := id f2
  have hin3 : ¬ ((0 : Int32) < 0 ∨ cl3.slots.size ≤ ((0 : Int32)).toNatClampNeg) := (inb_of S3 ⟨by decide, by decide⟩)
  obtain ⟨T3, h3, X3, e3, W3, st3⟩ := stJ X1 hx hZ e1 Ar3 (j := (0 : Int32)) hin3 (g := (mkF m 9 #[.val (.int p0), .val (.int p1), .val (.long q2), .second, .unset, .unset, .unset, .unset, .unset, .unset, .unset, .unset, .unset, .unset, .unset] [(.long (-2147483648 : Int64)), (.int (0 : Int32)), (.ref b1), (.ref b1)])) rfl rfl (hb hby at_9)
  have f4 : Arv Z h3 b1 k1 .long (32 : Int32) [(.long (-2147483648 : Int64)), (.long (0 : Int64)), (.long (0 : Int64)), (.long (0 : Int64)), (.long (0 : Int64)), (.long (0 : Int64)), (.long (0 : Int64)), (.long (0 : Int64)), (.long (0 : Int64)), (.long (0 : Int64)), (.long (0 : Int64)), (.long (0 : Int64)), (.long (0 : Int64)), (.long (0 : Int64)), (.long (0 : Int64)), (.long (0 : Int64)), (.long (0 : Int64)), (.long (0 : Int64)), (.long (0 : Int64)), (.long (0 : Int64)), (.long (0 : Int64)), (.long (0 : Int64)), (.long (0 : Int64)), (.long (0 : Int64)), (.long (0 : Int64)), (.long (0 : Int64)), (.long (0 : Int64)), (.long (0 : Int64)), (.long (0 : Int64)), (.long (0 : Int64)), (.long (0 : Int64)), (.long (0 : Int64))] (.long (0 : Int64)) := Arv.set Ar3 q3 S3 M3 H3 G3 rfl W3 0 rfl (Nat.le_of_ble_eq_true rfl)
  have N3 := Fr.snoc X3 N0 g_b1
  have K3 : Keep h0 h3 [] := Keep.wr K1 W3 (Or.inr sz_b1)
  refine Go.of st3 ?_
  show Go p e below s _ _ _ (T3.setTop (mkF m 10 #[.val (.int p0), .val (.int p1), .val (.long q2), .second, .unset, .unset, .unset, .unset, .unset, .unset, .unset, .unset, .unset, .unset, .unset] [(.ref b1)]))
  refine Go.of (fun t k => XS.dup X3.here hx rfl (hb hby at_10) rfl rfl k) ?_
  show Go p e below s _ _ _ (T3.setTop (mkF m 11 #[.val (.int p0), .val (.int p1), .val (.long q2), .second, .unset, .unset, .unset, .unset, .unset, .unset, .unset, .unset, .unset, .unset, .unset] [(.ref b1), (.ref b1)]))
  refine Go.of (fun t k => XS.iconst X3.here hx rfl (hb hby at_11) k) ?_
  show Go p e below s _ _ _ (T3.setTop (mkF m 12 #[.val (.int p0), .val (.int p1), .val (.long q2), .second, .unset, .unset, .unset, .unset, .unset, .unset, .unset, .unset, .unset, .unset, .unset] [(.int (1 : Int32)), (.ref b1), (.ref b1)]))
  refine Go.of (X3.ldc2Long hx hown (mvT hZ (hw _ (List.mem_of_getElem? (i := 2) rfl))) (g := (mkF m 12 #[.val (.int p0), .val (.int p1), .val (.long q2), .second, .unset, .unset, .unset, .unset, .unset, .unset, .unset, .unset, .unset, .unset, .unset] [(.int (1 : Int32)), (.ref b1), (.ref b1)])) rfl (hb hby at_12)) ?_
  show Go p e below s _ _ _ (T3.setTop (mkF m 15 #[.val (.int p0), .val (.int p1), .val (.long q2), .second, .unset, .unset, .unset, .unset, .unset, .unset, .unset, .unset, .unset, .unset, .unset] [(.long (65 : Int64)), (.int (1 : Int32)), (.ref b1), (.ref b1)]))
  obtain ⟨cl5, Ar5, q5, S5, M5, H5, G5⟩ := id f4
  have hin5 : ¬ ((1 : Int32) < 0 ∨ cl5.slots.size ≤ ((1 : Int32)).toNatClampNeg) := (inb_of S5 ⟨by decide, by decide⟩)
  obtain ⟨T5, h5, X5, e5, W5, st5⟩ := stJ X3 hx hZ e3 Ar5 (j := (1 : Int32)) hin5 (g := (mkF m 15 #[.val (.int p0), .val (.int p1), .val (.long q2), .second, .unset, .unset, .unset, .unset, .unset, .unset, .unset, .unset, .unset, .unset, .unset] [(.long (65 : Int64)), (.int (1 : Int32)), (.ref b1), (.ref b1)])) rfl rfl (hb hby at_15)
  have f6 : Arv Z h5 b1 k1 .long (32 : Int32) [(.long (-2147483648 : Int64)), (.long (65 : Int64)), (.long (0 : Int64)), (.long (0 : Int64)), (.long (0 : Int64)), (.long (0 : Int64)), (.long (0 : Int64)), (.long (0 : Int64)), (.long (0 : Int64)), (.long (0 : Int64)), (.long (0 : Int64)), (.long (0 : Int64)), (.long (0 : Int64)), (.long (0 : Int64)), (.long (0 : Int64)), (.long (0 : Int64)), (.long (0 : Int64)), (.long (0 : Int64)), (.long (0 : Int64)), (.long (0 : Int64)), (.long (0 : Int64)), (.long (0 : Int64)), (.long (0 : Int64)), (.long (0 : Int64)), (.long (0 : Int64)), (.long (0 : Int64)), (.long (0 : Int64)), (.long (0 : Int64)), (.long (0 : Int64)), (.long (0 : Int64)), (.long (0 : Int64)), (.long (0 : Int64))] (.long (0 : Int64)) := Arv.set Ar5 q5 S5 M5 H5 G5 rfl W5 1 rfl (Nat.le_of_ble_eq_true rfl)
  have N5 := Fr.snoc X5 N3 g_b1
  have K5 : Keep h0 h5 [] := Keep.wr K3 W5 (Or.inr sz_b1)
  refine Go.of st5 ?_
  show Go p e below s _ _ _ (T5.setTop (mkF m 16 #[.val (.int p0), .val (.int p1), .val (.long q2), .second, .unset, .unset, .unset, .unset, .unset, .unset, .unset, .unset, .unset, .unset, .unset] [(.ref b1)]))
  refine Go.of (fun t k => XS.dup X5.here hx rfl (hb hby at_16) rfl rfl k) ?_
  show Go p e below s _ _ _ (T5.setTop (mkF m 17 #[.val (.int p0), .val (.int p1), .val (.long q2), .second, .unset, .unset, .unset, .unset, .unset, .unset, .unset, .unset, .unset, .unset, .unset] [(.ref b1), (.ref b1)]))
  refine Go.of (fun t k => XS.iconst X5.here hx rfl (hb hby at_17) k) ?_
  show Go p e below s _ _ _ (T5.setTop (mkF m 18 #[.val (.int p0), .val (.int p1), .val (.long q2), .second, .unset, .unset, .unset, .unset, .unset, .unset, .unset, .unset, .unset, .unset, .unset] [(.int (2 : Int32)), (.ref b1), (.ref b1)]))
  refine Go.of (X5.ldc2Long hx hown (mvT hZ (hw _ (List.mem_of_getElem? (i := 3) rfl))) (g := (mkF m 18 #[.val (.int p0), .val (.int p1), .val (.long q2), .second, .unset, .unset, .unset, .unset, .unset, .unset, .unset, .unset, .unset, .unset, .unset] [(.int (2 : Int32)), (.ref b1), (.ref b1)])) rfl (hb hby at_18)) ?_
  show Go p e below s _ _ _ (T5.setTop (mkF m 21 #[.val (.int p0), .val (.int p1), .val (.long q2), .second, .unset, .unset, .unset, .unset, .unset, .unset, .unset, .unset, .unset, .unset, .unset] [(.long (91 : Int64)), (.int (2 : Int32)), (.ref b1), (.ref b1)]))
  obtain ⟨cl7, Ar7, q7, S7, M7, H7, G7⟩ := id f6
  have hin7 : ¬ ((2 : Int32) < 0 ∨ cl7.slots.size ≤ ((2 : Int32)).toNatClampNeg) := (inb_of S7 ⟨by decide, by decide⟩)
  obtain ⟨T7, h7, X7, e7, W7, st7⟩ := stJ X5 hx hZ e5 Ar7 (j := (2 : Int32)) hin7 (g := (mkF m 21 #[.val (.int p0), .val (.int p1), .val (.long q2), .second, .unset, .unset, .unset, .unset, .unset, .unset, .unset, .unset, .unset, .unset, .unset] [(.long (91 : Int64)), (.int (2 : Int32)), (.ref b1), (.ref b1)])) rfl rfl (hb hby at_21)
  have f8 : Arv Z h7 b1 k1 .long (32 : Int32) [(.long (-2147483648 : Int64)), (.long (65 : Int64)), (.long (91 : Int64)), (.long (0 : Int64)), (.long (0 : Int64)), (.long (0 : Int64)), (.long (0 : Int64)), (.long (0 : Int64)), (.long (0 : Int64)), (.long (0 : Int64)), (.long (0 : Int64)), (.long (0 : Int64)), (.long (0 : Int64)), (.long (0 : Int64)), (.long (0 : Int64)), (.long (0 : Int64)), (.long (0 : Int64)), (.long (0 : Int64)), (.long (0 : Int64)), (.long (0 : Int64)), (.long (0 : Int64)), (.long (0 : Int64)), (.long (0 : Int64)), (.long (0 : Int64)), (.long (0 : Int64)), (.long (0 : Int64)), (.long (0 : Int64)), (.long (0 : Int64)), (.long (0 : Int64)), (.long (0 : Int64)), (.long (0 : Int64)), (.long (0 : Int64))] (.long (0 : Int64)) := Arv.set Ar7 q7 S7 M7 H7 G7 rfl W7 2 rfl (Nat.le_of_ble_eq_true rfl)
  have N7 := Fr.snoc X7 N5 g_b1
  have K7 : Keep h0 h7 [] := Keep.wr K5 W7 (Or.inr sz_b1)
  refine Go.of st7 ?_
  show Go p e below s _ _ _ (T7.setTop (mkF m 22 #[.val (.int p0), .val (.int p1), .val (.long q2), .second, .unset, .unset, .unset, .unset, .unset, .unset, .unset, .unset, .unset, .unset, .unset] [(.ref b1)]))
  refine Go.of (fun t k => XS.dup X7.here hx rfl (hb hby at_22) rfl rfl k) ?_
  show Go p e below s _ _ _ (T7.setTop (mkF m 23 #[.val (.int p0), .val (.int p1), .val (.long q2), .second, .unset, .unset, .unset, .unset, .unset, .unset, .unset, .unset, .unset, .unset, .unset] [(.ref b1), (.ref b1)]))
  refine Go.of (fun t k => XS.iconst X7.here hx rfl (hb hby at_23) k) ?_
  show Go p e below s _ _ _ (T7.setTop (mkF m 24 #[.val (.int p0), .val (.int p1), .val (.long q2), .second, .unset, .unset, .unset, .unset, .unset, .unset, .unset, .unset, .unset, .unset, .unset] [(.int (3 : Int32)), (.ref b1), (.ref b1)]))
  refine Go.of (X7.ldc2Long hx hown (mvT hZ (hw _ (List.mem_of_getElem? (i := 4) rfl))) (g := (mkF m 24 #[.val (.int p0), .val (.int p1), .val (.long q2), .second, .unset, .unset, .unset, .unset, .unset, .unset, .unset, .unset, .unset, .unset, .unset] [(.int (3 : Int32)), (.ref b1), (.ref b1)])) rfl (hb hby at_24)) ?_
  show Go p e below s _ _ _ (T7.setTop (mkF m 27 #[.val (.int p0), .val (.int p1), .val (.long q2), .second, .unset, .unset, .unset, .unset, .unset, .unset, .unset, .unset, .unset, .unset, .unset] [(.long (95 : Int64)), (.int (3 : Int32)), (.ref b1), (.ref b1)]))
  obtain ⟨cl9, Ar9, q9, S9, M9, H9, G9⟩ := id f8
  have hin9 : ¬ ((3 : Int32) < 0 ∨ cl9.slots.size ≤ ((3 : Int32)).toNatClampNeg) := (inb_of S9 ⟨by decide, by decide⟩)
  obtain ⟨T9, h9, X9, e9, W9, st9⟩ := stJ X7 hx hZ e7 Ar9 (j := (3 : Int32)) hin9 (g := (mkF m 27 #[.val (.int p0), .val (.int p1), .val (.long q2), .second, .unset, .unset, .unset, .unset, .unset, .unset, .unset, .unset, .unset, .unset, .unset] [(.long (95 : Int64)), (.int (3 : Int32)), (.ref b1), (.ref b1)])) rfl rfl (hb hby at_27)
  have f10 : Arv Z h9 b1 k1 .long (32 : Int32) [(.long (-2147483648 : Int64)), (.long (65 : Int64)), (.long (91 : Int64)), (.long (95 : Int64)), (.long (0 : Int64)), (.long (0 : Int64)), (.long (0 : Int64)), (.long (0 : Int64)), (.long (0 : Int64)), (.long (0 : Int64)), (.long (0 : Int64)), (.long (0 : Int64)), (.long (0 : Int64)), (.long (0 : Int64)), (.long (0 : Int64)), (.long (0 : Int64)), (.long (0 : Int64)), (.long (0 : Int64)), (.long (0 : Int64)), (.long (0 : Int64)), (.long (0 : Int64)), (.long (0 : Int64)), (.long (0 : Int64)), (.long (0 : Int64)), (.long (0 : Int64)), (.long (0 : Int64)), (.long (0 : Int64)), (.long (0 : Int64)), (.long (0 : Int64)), (.long (0 : Int64)), (.long (0 : Int64)), (.long (0 : Int64))] (.long (0 : Int64)) := Arv.set Ar9 q9 S9 M9 H9 G9 rfl W9 3 rfl (Nat.le_of_ble_eq_true rfl)
  have N9 := Fr.snoc X9 N7 g_b1
  have K9 : Keep h0 h9 [] := Keep.wr K7 W9 (Or.inr sz_b1)
  refine Go.of st9 ?_
  show Go p e below s _ _ _ (T9.setTop (mkF m 28 #[.val (.int p0), .val (.int p1), .val (.long q2), .second, .unset, .unset, .unset, .unset, .unset, .unset, .unset, .unset, .unset, .unset, .unset] [(.ref b1)]))
  refine Go.of (fun t k => XS.dup X9.here hx rfl (hb hby at_28) rfl rfl k) ?_
  show Go p e below s _ _ _ (T9.setTop (mkF m 29 #[.val (.int p0), .val (.int p1), .val (.long q2), .second, .unset, .unset, .unset, .unset, .unset, .unset, .unset, .unset, .unset, .unset, .unset] [(.ref b1), (.ref b1)]))
  refine Go.of (fun t k => XS.iconst X9.here hx rfl (hb hby at_29) k) ?_
  show Go p e below s _ _ _ (T9.setTop (mkF m 30 #[.val (.int p0), .val (.int p1), .val (.long q2), .second, .unset, .unset, .unset, .unset, .unset, .unset, .unset, .unset, .unset, .unset, .unset] [(.int (4 : Int32)), (.ref b1), (.ref b1)]))
  refine Go.of (X9.ldc2Long hx hown (mvT hZ (hw _ (List.mem_of_getElem? (i := 5) rfl))) (g := (mkF m 30 #[.val (.int p0), .val (.int p1), .val (.long q2), .second, .unset, .unset, .unset, .unset, .unset, .unset, .unset, .unset, .unset, .unset, .unset] [(.int (4 : Int32)), (.ref b1), (.ref b1)])) rfl (hb hby at_30)) ?_
  show Go p e below s _ _ _ (T9.setTop (mkF m 33 #[.val (.int p0), .val (.int p1), .val (.long q2), .second, .unset, .unset, .unset, .unset, .unset, .unset, .unset, .unset, .unset, .unset, .unset] [(.long (96 : Int64)), (.int (4 : Int32)), (.ref b1), (.ref b1)]))
  obtain ⟨cl11, Ar11, q11, S11, M11, H11, G11⟩ := id f10
  have hin11 : ¬ ((4 : Int32) < 0 ∨ cl11.slots.size ≤ ((4 : Int32)).toNatClampNeg) := (inb_of S11 ⟨by decide, by decide⟩)
  obtain ⟨T11, h11, X11, e11, W11, st11⟩ := stJ X9 hx hZ e9 Ar11 (j := (4 : Int32)) hin11 (g := (mkF m 33 #[.val (.int p0), .val (.int p1), .val (.long q2), .second, .unset, .unset, .unset, .unset, .unset, .unset, .unset, .unset, .unset, .unset, .unset] [(.long (96 : Int64)), (.int (4 : Int32)), (.ref b1), (.ref b1)])) rfl rfl (hb hby at_33)
  have f12 : Arv Z h11 b1 k1 .long (32 : Int32) [(.long (-2147483648 : Int64)), (.long (65 : Int64)), (.long (91 : Int64)), (.long (95 : Int64)), (.long (96 : Int64)), (.long (0 : Int64)), (.long (0 : Int64)), (.long (0 : Int64)), (.long (0 : Int64)), (.long (0 : Int64)), (.long (0 : Int64)), (.long (0 : Int64)), (.long (0 : Int64)), (.long (0 : Int64)), (.long (0 : Int64)), (.long (0 : Int64)), (.long (0 : Int64)), (.long (0 : Int64)), (.long (0 : Int64)), (.long (0 : Int64)), (.long (0 : Int64)), (.long (0 : Int64)), (.long (0 : Int64)), (.long (0 : Int64)), (.long (0 : Int64)), (.long (0 : Int64)), (.long (0 : Int64)), (.long (0 : Int64)), (.long (0 : Int64)), (.long (0 : Int64)), (.long (0 : Int64)), (.long (0 : Int64))] (.long (0 : Int64)) := Arv.set Ar11 q11 S11 M11 H11 G11 rfl W11 4 rfl (Nat.le_of_ble_eq_true rfl)
  have N11 := Fr.snoc X11 N9 g_b1
  have K11 : Keep h0 h11 [] := Keep.wr K9 W11 (Or.inr sz_b1)
  refine Go.of st11 ?_
  show Go p e below s _ _ _ (T11.setTop (mkF m 34 #[.val (.int p0), .val (.int p1), .val (.long q2), .second, .unset, .unset, .unset, .unset, .unset, .unset, .unset, .unset, .unset, .unset, .unset] [(.ref b1)]))
  refine Go.of (fun t k => XS.dup X11.here hx rfl (hb hby at_34) rfl rfl k) ?_
  show Go p e below s _ _ _ (T11.setTop (mkF m 35 #[.val (.int p0), .val (.int p1), .val (.long q2), .second, .unset, .unset, .unset, .unset, .unset, .unset, .unset, .unset, .unset, .unset, .unset] [(.ref b1), (.ref b1)]))
  refine Go.of (fun t k => XS.iconst X11.here hx rfl (hb hby at_35) k) ?_
  show Go p e below s _ _ _ (T11.setTop (mkF m 36 #[.val (.int p0), .val (.int p1), .val (.long q2), .second, .unset, .unset, .unset, .unset, .unset, .unset, .unset, .unset, .unset, .unset, .unset] [(.int (5 : Int32)), (.ref b1), (.ref b1)]))
  refine Go.of (X11.ldc2Long hx hown (mvT hZ (hw _ (List.mem_of_getElem? (i := 6) rfl))) (g := (mkF m 36 #[.val (.int p0), .val (.int p1), .val (.long q2), .second, .unset, .unset, .unset, .unset, .unset, .unset, .unset, .unset, .unset, .unset, .unset] [(.int (5 : Int32)), (.ref b1), (.ref b1)])) rfl (hb hby at_36)) ?_
  show Go p e below s _ _ _ (T11.setTop (mkF m 39 #[.val (.int p0), .val (.int p1), .val (.long q2), .second, .unset, .unset, .unset, .unset, .unset, .unset, .unset, .unset, .unset, .unset, .unset] [(.long (97 : Int64)), (.int (5 : Int32)), (.ref b1), (.ref b1)]))
  obtain ⟨cl13, Ar13, q13, S13, M13, H13, G13⟩ := id f12
  have hin13 : ¬ ((5 : Int32) < 0 ∨ cl13.slots.size ≤ ((5 : Int32)).toNatClampNeg) := (inb_of S13 ⟨by decide, by decide⟩)
  obtain ⟨T13, h13, X13, e13, W13, st13⟩ := stJ X11 hx hZ e11 Ar13 (j := (5 : Int32)) hin13 (g := (mkF m 39 #[.val (.int p0), .val (.int p1), .val (.long q2), .second, .unset, .unset, .unset, .unset, .unset, .unset, .unset, .unset, .unset, .unset, .unset] [(.long (97 : Int64)), (.int (5 : Int32)), (.ref b1), (.ref b1)])) rfl rfl (hb hby at_39)
  have f14 : Arv Z h13 b1 k1 .long (32 : Int32) [(.long (-2147483648 : Int64)), (.long (65 : Int64)), (.long (91 : Int64)), (.long (95 : Int64)), (.long (96 : Int64)), (.long (97 : Int64)), (.long (0 : Int64)), (.long (0 : Int64)), (.long (0 : Int64)), (.long (0 : Int64)), (.long (0 : Int64)), (.long (0 : Int64)), (.long (0 : Int64)), (.long (0 : Int64)), (.long (0 : Int64)), (.long (0 : Int64)), (.long (0 : Int64)), (.long (0 : Int64)), (.long (0 : Int64)), (.long (0 : Int64)), (.long (0 : Int64)), (.long (0 : Int64)), (.long (0 : Int64)), (.long (0 : Int64)), (.long (0 : Int64)), (.long (0 : Int64)), (.long (0 : Int64)), (.long (0 : Int64)), (.long (0 : Int64)), (.long (0 : Int64)), (.long (0 : Int64)), (.long (0 : Int64))] (.long (0 : Int64)) := Arv.set Ar13 q13 S13 M13 H13 G13 rfl W13 5 rfl (Nat.le_of_ble_eq_true rfl)
  have N13 := Fr.snoc X13 N11 g_b1
  have K13 : Keep h0 h13 [] := Keep.wr K11 W13 (Or.inr sz_b1)
  refine Go.of st13 ?_
  show Go p e below s _ _ _ (T13.setTop (mkF m 40 #[.val (.int p0), .val (.int p1), .val (.long q2), .second, .unset, .unset, .unset, .unset, .unset, .unset, .unset, .unset, .unset, .unset, .unset] [(.ref b1)]))
  refine Go.of (fun t k => XS.dup X13.here hx rfl (hb hby at_40) rfl rfl k) ?_
  show Go p e below s _ _ _ (T13.setTop (mkF m 41 #[.val (.int p0), .val (.int p1), .val (.long q2), .second, .unset, .unset, .unset, .unset, .unset, .unset, .unset, .unset, .unset, .unset, .unset] [(.ref b1), (.ref b1)]))
  refine Go.of (fun t k => XS.bipush X13.here hx rfl (hb hby at_41) k) ?_
  show Go p e below s _ _ _ (T13.setTop (mkF m 43 #[.val (.int p0), .val (.int p1), .val (.long q2), .second, .unset, .unset, .unset, .unset, .unset, .unset, .unset, .unset, .unset, .unset, .unset] [(.int (6 : Int32)), (.ref b1), (.ref b1)]))
  refine Go.of (X13.ldc2Long hx hown (mvT hZ (hw _ (List.mem_of_getElem? (i := 7) rfl))) (g := (mkF m 43 #[.val (.int p0), .val (.int p1), .val (.long q2), .second, .unset, .unset, .unset, .unset, .unset, .unset, .unset, .unset, .unset, .unset, .unset] [(.int (6 : Int32)), (.ref b1), (.ref b1)])) rfl (hb hby at_43)) ?_
  show Go p e below s _ _ _ (T13.setTop (mkF m 46 #[.val (.int p0), .val (.int p1), .val (.long q2), .second, .unset, .unset, .unset, .unset, .unset, .unset, .unset, .unset, .unset, .unset, .unset] [(.long (123 : Int64)), (.int (6 : Int32)), (.ref b1), (.ref b1)]))
  obtain ⟨cl15, Ar15, q15, S15, M15, H15, G15⟩ := id f14
  have hin15 : ¬ ((6 : Int32) < 0 ∨ cl15.slots.size ≤ ((6 : Int32)).toNatClampNeg) := (inb_of S15 ⟨by decide, by decide⟩)
  obtain ⟨T15, h15, X15, e15, W15, st15⟩ := stJ X13 hx hZ e13 Ar15 (j := (6 : Int32)) hin15 (g := (mkF m 46 #[.val (.int p0), .val (.int p1), .val (.long q2), .second, .unset, .unset, .unset, .unset, .unset, .unset, .unset, .unset, .unset, .unset, .unset] [(.long (123 : Int64)), (.int (6 : Int32)), (.ref b1), (.ref b1)])) rfl rfl (hb hby at_46)
  have f16 : Arv Z h15 b1 k1 .long (32 : Int32) [(.long (-2147483648 : Int64)), (.long (65 : Int64)), (.long (91 : Int64)), (.long (95 : Int64)), (.long (96 : Int64)), (.long (97 : Int64)), (.long (123 : Int64)), (.long (0 : Int64)), (.long (0 : Int64)), (.long (0 : Int64)), (.long (0 : Int64)), (.long (0 : Int64)), (.long (0 : Int64)), (.long (0 : Int64)), (.long (0 : Int64)), (.long (0 : Int64)), (.long (0 : Int64)), (.long (0 : Int64)), (.long (0 : Int64)), (.long (0 : Int64)), (.long (0 : Int64)), (.long (0 : Int64)), (.long (0 : Int64)), (.long (0 : Int64)), (.long (0 : Int64)), (.long (0 : Int64)), (.long (0 : Int64)), (.long (0 : Int64)), (.long (0 : Int64)), (.long (0 : Int64)), (.long (0 : Int64)), (.long (0 : Int64))] (.long (0 : Int64)) := Arv.set Ar15 q15 S15 M15 H15 G15 rfl W15 6 rfl (Nat.le_of_ble_eq_true rfl)
  have N15 := Fr.snoc X15 N13 g_b1
  have K15 : Keep h0 h15 [] := Keep.wr K13 W15 (Or.inr sz_b1)
  refine Go.of st15 ?_
  show Go p e below s _ _ _ (T15.setTop (mkF m 47 #[.val (.int p0), .val (.int p1), .val (.long q2), .second, .unset, .unset, .unset, .unset, .unset, .unset, .unset, .unset, .unset, .unset, .unset] [(.ref b1)]))
  refine Go.of (fun t k => XS.dup X15.here hx rfl (hb hby at_47) rfl rfl k) ?_
  show Go p e below s _ _ _ (T15.setTop (mkF m 48 #[.val (.int p0), .val (.int p1), .val (.long q2), .second, .unset, .unset, .unset, .unset, .unset, .unset, .unset, .unset, .unset, .unset, .unset] [(.ref b1), (.ref b1)]))
  refine Go.of (fun t k => XS.bipush X15.here hx rfl (hb hby at_48) k) ?_
  show Go p e below s _ _ _ (T15.setTop (mkF m 50 #[.val (.int p0), .val (.int p1), .val (.long q2), .second, .unset, .unset, .unset, .unset, .unset, .unset, .unset, .unset, .unset, .unset, .unset] [(.int (7 : Int32)), (.ref b1), (.ref b1)]))
  refine Go.of (X15.ldc2Long hx hown (mvT hZ (hw _ (List.mem_of_getElem? (i := 8) rfl))) (g := (mkF m 50 #[.val (.int p0), .val (.int p1), .val (.long q2), .second, .unset, .unset, .unset, .unset, .unset, .unset, .unset, .unset, .unset, .unset, .unset] [(.int (7 : Int32)), (.ref b1), (.ref b1)])) rfl (hb hby at_50)) ?_
  show Go p e below s _ _ _ (T15.setTop (mkF m 53 #[.val (.int p0), .val (.int p1), .val (.long q2), .second, .unset, .unset, .unset, .unset, .unset, .unset, .unset, .unset, .unset, .unset, .unset] [(.long (192 : Int64)), (.int (7 : Int32)), (.ref b1), (.ref b1)]))
  obtain ⟨cl17, Ar17, q17, S17, M17, H17, G17⟩ := id f16
  have hin17 : ¬ ((7 : Int32) < 0 ∨ cl17.slots.size ≤ ((7 : Int32)).toNatClampNeg) := (inb_of S17 ⟨by decide, by decide⟩)
  obtain ⟨T17, h17, X17, e17, W17, st17⟩ := stJ X15 hx hZ e15 Ar17 (j := (7 : Int32)) hin17 (g := (mkF m 53 #[.val (.int p0), .val (.int p1), .val (.long q2), .second, .unset, .unset, .unset, .unset, .unset, .unset, .unset, .unset, .unset, .unset, .unset] [(.long (192 : Int64)), (.int (7 : Int32)), (.ref b1), (.ref b1)])) rfl rfl (hb hby at_53)
  have f18 : Arv Z h17 b1 k1 .long (32 : Int32) [(.long (-2147483648 : Int64)), (.long (65 : Int64)), (.long (91 : Int64)), (.long (95 : Int64)), (.long (96 : Int64)), (.long (97 : Int64)), (.long (123 : Int64)), (.long (192 : Int64)), (.long (0 : Int64)), (.long (0 : Int64)), (.long (0 : Int64)), (.long (0 : Int64)), (.long (0 : Int64)), (.long (0 : Int64)), (.long (0 : Int64)), (.long (0 : Int64)), (.long (0 : Int64)), (.long (0 : Int64)), (.long (0 : Int64)), (.long (0 : Int64)), (.long (0 : Int64)), (.long (0 : Int64)), (.long (0 : Int64)), (.long (0 : Int64)), (.long (0 : Int64)), (.long (0 : Int64)), (.long (0 : Int64)), (.long (0 : Int64)), (.long (0 : Int64)), (.long (0 : Int64)), (.long (0 : Int64)), (.long (0 : Int64))] (.long (0 : Int64)) := Arv.set Ar17 q17 S17 M17 H17 G17 rfl W17 7 rfl (Nat.le_of_ble_eq_true rfl)
  have N17 := Fr.snoc X17 N15 g_b1
  have K17 : Keep h0 h17 [] := Keep.wr K15 W17 (Or.inr sz_b1)
  refine Go.of st17 ?_
  show Go p e below s _ _ _ (T17.setTop (mkF m 54 #[.val (.int p0), .val (.int p1), .val (.long q2), .second, .unset, .unset, .unset, .unset, .unset, .unset, .unset, .unset, .unset, .unset, .unset] [(.ref b1)]))
  refine Go.of (fun t k => XS.dup X17.here hx rfl (hb hby at_54) rfl rfl k) ?_
  show Go p e below s _ _ _ (T17.setTop (mkF m 55 #[.val (.int p0), .val (.int p1), .val (.long q2), .second, .unset, .unset, .unset, .unset, .unset, .unset, .unset, .unset, .unset, .unset, .unset] [(.ref b1), (.ref b1)]))
  refine Go.of (fun t k => XS.bipush X17.here hx rfl (hb hby at_55) k) ?_
  show Go p e below s _ _ _ (T17.setTop (mkF m 57 #[.val (.int p0), .val (.int p1), .val (.long q2), .second, .unset, .unset, .unset, .unset, .unset, .unset, .unset, .unset, .unset, .unset, .unset] [(.int (8 : Int32)), (.ref b1), (.ref b1)]))
  refine Go.of (X17.ldc2Long hx hown (mvT hZ (hw _ (List.mem_of_getElem? (i := 9) rfl))) (g := (mkF m 57 #[.val (.int p0), .val (.int p1), .val (.long q2), .second, .unset, .unset, .unset, .unset, .unset, .unset, .unset, .unset, .unset, .unset, .unset] [(.int (8 : Int32)), (.ref b1), (.ref b1)])) rfl (hb hby at_57)) ?_
  show Go p e below s _ _ _ (T17.setTop (mkF m 60 #[.val (.int p0), .val (.int p1), .val (.long q2), .second, .unset, .unset, .unset, .unset, .unset, .unset, .unset, .unset, .unset, .unset, .unset] [(.long (215 : Int64)), (.int (8 : Int32)), (.ref b1), (.ref b1)]))
  obtain ⟨cl19, Ar19, q19, S19, M19, H19, G19⟩ := id f18
  have hin19 : ¬ ((8 : Int32) < 0 ∨ cl19.slots.size ≤ ((8 : Int32)).toNatClampNeg) := (inb_of S19 ⟨by decide, by decide⟩)
  obtain ⟨T19, h19, X19, e19, W19, st19⟩ := stJ X17 hx hZ e17 Ar19 (j := (8 : Int32)) hin19 (g := (mkF m 60 #[.val (.int p0), .val (.int p1), .val (.long q2), .second, .unset, .unset, .unset, .unset, .unset, .unset, .unset, .unset, .unset, .unset, .unset] [(.long (215 : Int64)), (.int (8 : Int32)), (.ref b1), (.ref b1)])) rfl rfl (hb hby at_60)
  have f20 : Arv Z h19 b1 k1 .long (32 : Int32) [(.long (-2147483648 : Int64)), (.long (65 : Int64)), (.long (91 : Int64)), (.long (95 : Int64)), (.long (96 : Int64)), (.long (97 : Int64)), (.long (123 : Int64)), (.long (192 : Int64)), (.long (215 : Int64)), (.long (0 : Int64)), (.long (0 : Int64)), (.long (0 : Int64)), (.long (0 : Int64)), (.long (0 : Int64)), (.long (0 : Int64)), (.long (0 : Int64)), (.long (0 : Int64)), (.long (0 : Int64)), (.long (0 : Int64)), (.long (0 : Int64)), (.long (0 : Int64)), (.long (0 : Int64)), (.long (0 : Int64)), (.long (0 : Int64)), (.long (0 : Int64)), (.long (0 : Int64)), (.long (0 : Int64)), (.long (0 : Int64)), (.long (0 : Int64)), (.long (0 : Int64)), (.long (0 : Int64)), (.long (0 : Int64))] (.long (0 : Int64)) := Arv.set Ar19 q19 S19 M19 H19 G19 rfl W19 8 rfl (Nat.le_of_ble_eq_true rfl)
  have N19 := Fr.snoc X19 N17 g_b1
  have K19 : Keep h0 h19 [] := Keep.wr K17 W19 (Or.inr sz_b1)
  refine Go.of st19 ?_
  show Go p e below s _ _ _ (T19.setTop (mkF m 61 #[.val (.int p0), .val (.int p1), .val (.long q2), .second, .unset, .unset, .unset, .unset, .unset, .unset, .unset, .unset, .unset, .unset, .unset] [(.ref b1)]))
  refine Go.of (fun t k => XS.dup X19.here hx rfl (hb hby at_61) rfl rfl k) ?_
  show Go p e below s _ _ _ (T19.setTop (mkF m 62 #[.val (.int p0), .val (.int p1), .val (.long q2), .second, .unset, .unset, .unset, .unset, .unset, .unset, .unset, .unset, .unset, .unset, .unset] [(.ref b1), (.ref b1)]))
  refine Go.of (fun t k => XS.bipush X19.here hx rfl (hb hby at_62) k) ?_
  show Go p e below s _ _ _ (T19.setTop (mkF m 64 #[.val (.int p0), .val (.int p1), .val (.long q2), .second, .unset, .unset, .unset, .unset, .unset, .unset, .unset, .unset, .unset, .unset, .unset] [(.int (9 : Int32)), (.ref b1), (.ref b1)]))
  refine Go.of (X19.ldc2Long hx hown (mvT hZ (hw _ (List.mem_of_getElem? (i := 10) rfl))) (g := (mkF m 64 #[.val (.int p0), .val (.int p1), .val (.long q2), .second, .unset, .unset, .unset, .unset, .unset, .unset, .unset, .unset, .unset, .unset, .unset] [(.int (9 : Int32)), (.ref b1), (.ref b1)])) rfl (hb hby at_64)) ?_
  show Go p e below s _ _ _ (T19.setTop (mkF m 67 #[.val (.int p0), .val (.int p1), .val (.long q2), .second, .unset, .unset, .unset, .unset, .unset, .unset, .unset, .unset, .unset, .unset, .unset] [(.long (216 : Int64)), (.int (9 : Int32)), (.ref b1), (.ref b1)]))
  obtain ⟨cl21, Ar21, q21, S21, M21, H21, G21⟩ := id f20
  have hin21 : ¬ ((9 : Int32) < 0 ∨ cl21.slots.size ≤ ((9 : Int32)).toNatClampNeg) := (inb_of S21 ⟨by decide, by decide⟩)
  obtain ⟨T21, h21, X21, e21, W21, st21⟩ := stJ X19 hx hZ e19 Ar21 (j := (9 : Int32)) hin21 (g := (mkF m 67 #[.val (.int p0), .val (.int p1), .val (.long q2), .second, .unset, .unset, .unset, .unset, .unset, .unset, .unset, .unset, .unset, .unset, .unset] [(.long (216 : Int64)), (.int (9 : Int32)), (.ref b1), (.ref b1)])) rfl rfl (hb hby at_67)
  have f22 : Arv Z h21 b1 k1 .long (32 : Int32) [(.long (-2147483648 : Int64)), (.long (65 : Int64)), (.long (91 : Int64)), (.long (95 : Int64)), (.long (96 : Int64)), (.long (97 : Int64)), (.long (123 : Int64)), (.long (192 : Int64)), (.long (215 : Int64)), (.long (216 : Int64)), (.long (0 : Int64)), (.long (0 : Int64)), (.long (0 : Int64)), (.long (0 : Int64)), (.long (0 : Int64)), (.long (0 : Int64)), (.long (0 : Int64)), (.long (0 : Int64)), (.long (0 : Int64)), (.long (0 : Int64)), (.long (0 : Int64)), (.long (0 : Int64)), (.long (0 : Int64)), (.long (0 : Int64)), (.long (0 : Int64)), (.long (0 : Int64)), (.long (0 : Int64)), (.long (0 : Int64)), (.long (0 : Int64)), (.long (0 : Int64)), (.long (0 : Int64)), (.long (0 : Int64))] (.long (0 : Int64)) := Arv.set Ar21 q21 S21 M21 H21 G21 rfl W21 9 rfl (Nat.le_of_ble_eq_true rfl)
  have N21 := Fr.snoc X21 N19 g_b1
  have K21 : Keep h0 h21 [] := Keep.wr K19 W21 (Or.inr sz_b1)
  refine Go.of st21 ?_
  show Go p e below s _ _ _ (T21.setTop (mkF m 68 #[.val (.int p0), .val (.int p1), .val (.long q2), .second, .unset, .unset, .unset, .unset, .unset, .unset, .unset, .unset, .unset, .unset, .unset] [(.ref b1)]))
  refine Go.of (fun t k => XS.dup X21.here hx rfl (hb hby at_68) rfl rfl k) ?_
  show Go p e below s _ _ _ (T21.setTop (mkF m 69 #[.val (.int p0), .val (.int p1), .val (.long q2), .second, .unset, .unset, .unset, .unset, .unset, .unset, .unset, .unset, .unset, .unset, .unset] [(.ref b1), (.ref b1)]))
  refine Go.of (fun t k => XS.bipush X21.here hx rfl (hb hby at_69) k) ?_
  show Go p e below s _ _ _ (T21.setTop (mkF m 71 #[.val (.int p0), .val (.int p1), .val (.long q2), .second, .unset, .unset, .unset, .unset, .unset, .unset, .unset, .unset, .unset, .unset, .unset] [(.int (10 : Int32)), (.ref b1), (.ref b1)]))
  refine Go.of (X21.ldc2Long hx hown (mvT hZ (hw _ (List.mem_of_getElem? (i := 11) rfl))) (g := (mkF m 71 #[.val (.int p0), .val (.int p1), .val (.long q2), .second, .unset, .unset, .unset, .unset, .unset, .unset, .unset, .unset, .unset, .unset, .unset] [(.int (10 : Int32)), (.ref b1), (.ref b1)])) rfl (hb hby at_71)) ?_
  show Go p e below s _ _ _ (T21.setTop (mkF m 74 #[.val (.int p0), .val (.int p1), .val (.long q2), .second, .unset, .unset, .unset, .unset, .unset, .unset, .unset, .unset, .unset, .unset, .unset] [(.long (247 : Int64)), (.int (10 : Int32)), (.ref b1), (.ref b1)]))
  obtain ⟨cl23, Ar23, q23, S23, M23, H23, G23⟩ := id f22
  have hin23 : ¬ ((10 : Int32) < 0 ∨ cl23.slots.size ≤ ((10 : Int32)).toNatClampNeg) := (inb_of S23 ⟨by decide, by decide⟩)
  obtain ⟨T23, h23, X23, e23, W23, st23⟩ := stJ X21 hx hZ e21 Ar23 (j := (10 : Int32)) hin23 (g := (mkF m 74 #[.val (.int p0), .val (.int p1), .val (.long q2), .second, .unset, .unset, .unset, .unset, .unset, .unset, .unset, .unset, .unset, .unset, .unset] [(.long (247 : Int64)), (.int (10 : Int32)), (.ref b1), (.ref b1)])) rfl rfl (hb hby at_74)
  have f24 : Arv Z h23 b1 k1 .long (32 : Int32) [(.long (-2147483648 : Int64)), (.long (65 : Int64)), (.long (91 : Int64)), (.long (95 : Int64)), (.long (96 : Int64)), (.long (97 : Int64)), (.long (123 : Int64)), (.long (192 : Int64)), (.long (215 : Int64)), (.long (216 : Int64)), (.long (247 : Int64)), (.long (0 : Int64)), (.long (0 : Int64)), (.long (0 : Int64)), (.long (0 : Int64)), (.long (0 : Int64)), (.long (0 : Int64)), (.long (0 : Int64)), (.long (0 : Int64)), (.long (0 : Int64)), (.long (0 : Int64)), (.long (0 : Int64)), (.long (0 : Int64)), (.long (0 : Int64)), (.long (0 : Int64)), (.long (0 : Int64)), (.long (0 : Int64)), (.long (0 : Int64)), (.long (0 : Int64)), (.long (0 : Int64)), (.long (0 : Int64)), (.long (0 : Int64))] (.long (0 : Int64)) := Arv.set Ar23 q23 S23 M23 H23 G23 rfl W23 10 rfl (Nat.le_of_ble_eq_true rfl)
  have N23 := Fr.snoc X23 N21 g_b1
  have K23 : Keep h0 h23 [] := Keep.wr K21 W23 (Or.inr sz_b1)
  refine Go.of st23 ?_
  show Go p e below s _ _ _ (T23.setTop (mkF m 75 #[.val (.int p0), .val (.int p1), .val (.long q2), .second, .unset, .unset, .unset, .unset, .unset, .unset, .unset, .unset, .unset, .unset, .unset] [(.ref b1)]))
  refine Go.of (fun t k => XS.dup X23.here hx rfl (hb hby at_75) rfl rfl k) ?_
  show Go p e below s _ _ _ (T23.setTop (mkF m 76 #[.val (.int p0), .val (.int p1), .val (.long q2), .second, .unset, .unset, .unset, .unset, .unset, .unset, .unset, .unset, .unset, .unset, .unset] [(.ref b1), (.ref b1)]))
  refine Go.of (fun t k => XS.bipush X23.here hx rfl (hb hby at_76) k) ?_
  show Go p e below s _ _ _ (T23.setTop (mkF m 78 #[.val (.int p0), .val (.int p1), .val (.long q2), .second, .unset, .unset, .unset, .unset, .unset, .unset, .unset, .unset, .unset, .unset, .unset] [(.int (11 : Int32)), (.ref b1), (.ref b1)]))
  refine Go.of (X23.ldc2Long hx hown (mvT hZ (hw _ (List.mem_of_getElem? (i := 12) rfl))) (g := (mkF m 78 #[.val (.int p0), .val (.int p1), .val (.long q2), .second, .unset, .unset, .unset, .unset, .unset, .unset, .unset, .unset, .unset, .unset, .unset] [(.int (11 : Int32)), (.ref b1), (.ref b1)])) rfl (hb hby at_78)) ?_
  show Go p e below s _ _ _ (T23.setTop (mkF m 81 #[.val (.int p0), .val (.int p1), .val (.long q2), .second, .unset, .unset, .unset, .unset, .unset, .unset, .unset, .unset, .unset, .unset, .unset] [(.long (248 : Int64)), (.int (11 : Int32)), (.ref b1), (.ref b1)]))
  obtain ⟨cl25, Ar25, q25, S25, M25, H25, G25⟩ := id f24
  have hin25 : ¬ ((11 : Int32) < 0 ∨ cl25.slots.size ≤ ((11 : Int32)).toNatClampNeg) := (inb_of S25 ⟨by decide, by decide⟩)
  obtain ⟨T25, h25, X25, e25, W25, st25⟩ := stJ X23 hx hZ e23 Ar25 (j := (11 : Int32)) hin25 (g := (mkF m 81 #[.val (.int p0), .val (.int p1), .val (.long q2), .second, .unset, .unset, .unset, .unset, .unset, .unset, .unset, .unset, .unset, .unset, .unset] [(.long (248 : Int64)), (.int (11 : Int32)), (.ref b1), (.ref b1)])) rfl rfl (hb hby at_81)
  have f26 : Arv Z h25 b1 k1 .long (32 : Int32) [(.long (-2147483648 : Int64)), (.long (65 : Int64)), (.long (91 : Int64)), (.long (95 : Int64)), (.long (96 : Int64)), (.long (97 : Int64)), (.long (123 : Int64)), (.long (192 : Int64)), (.long (215 : Int64)), (.long (216 : Int64)), (.long (247 : Int64)), (.long (248 : Int64)), (.long (0 : Int64)), (.long (0 : Int64)), (.long (0 : Int64)), (.long (0 : Int64)), (.long (0 : Int64)), (.long (0 : Int64)), (.long (0 : Int64)), (.long (0 : Int64)), (.long (0 : Int64)), (.long (0 : Int64)), (.long (0 : Int64)), (.long (0 : Int64)), (.long (0 : Int64)), (.long (0 : Int64)), (.long (0 : Int64)), (.long (0 : Int64)), (.long (0 : Int64)), (.long (0 : Int64)), (.long (0 : Int64)), (.long (0 : Int64))] (.long (0 : Int64)) := Arv.set Ar25 q25 S25 M25 H25 G25 rfl W25 11 rfl (Nat.le_of_ble_eq_true rfl)
  have N25 := Fr.snoc X25 N23 g_b1
  have K25 : Keep h0 h25 [] := Keep.wr K23 W25 (Or.inr sz_b1)
  refine Go.of st25 ?_
  show Go p e below s _ _ _ (T25.setTop (mkF m 82 #[.val (.int p0), .val (.int p1), .val (.long q2), .second, .unset, .unset, .unset, .unset, .unset, .unset, .unset, .unset, .unset, .unset, .unset] [(.ref b1)]))
  refine Go.of (fun t k => XS.dup X25.here hx rfl (hb hby at_82) rfl rfl k) ?_
  show Go p e below s _ _ _ (T25.setTop (mkF m 83 #[.val (.int p0), .val (.int p1), .val (.long q2), .second, .unset, .unset, .unset, .unset, .unset, .unset, .unset, .unset, .unset, .unset, .unset] [(.ref b1), (.ref b1)]))
  refine Go.of (fun t k => XS.bipush X25.here hx rfl (hb hby at_83) k) ?_
  show Go p e below s _ _ _ (T25.setTop (mkF m 85 #[.val (.int p0), .val (.int p1), .val (.long q2), .second, .unset, .unset, .unset, .unset, .unset, .unset, .unset, .unset, .unset, .unset, .unset] [(.int (12 : Int32)), (.ref b1), (.ref b1)]))
  refine Go.of (X25.ldc2Long hx hown (mvT hZ (hw _ (List.mem_of_getElem? (i := 13) rfl))) (g := (mkF m 85 #[.val (.int p0), .val (.int p1), .val (.long q2), .second, .unset, .unset, .unset, .unset, .unset, .unset, .unset, .unset, .unset, .unset, .unset] [(.int (12 : Int32)), (.ref b1), (.ref b1)])) rfl (hb hby at_85)) ?_
  show Go p e below s _ _ _ (T25.setTop (mkF m 88 #[.val (.int p0), .val (.int p1), .val (.long q2), .second, .unset, .unset, .unset, .unset, .unset, .unset, .unset, .unset, .unset, .unset, .unset] [(.long (768 : Int64)), (.int (12 : Int32)), (.ref b1), (.ref b1)]))
  obtain ⟨cl27, Ar27, q27, S27, M27, H27, G27⟩ := id f26
  have hin27 : ¬ ((12 : Int32) < 0 ∨ cl27.slots.size ≤ ((12 : Int32)).toNatClampNeg) := (inb_of S27 ⟨by decide, by decide⟩)
  obtain ⟨T27, h27, X27, e27, W27, st27⟩ := stJ X25 hx hZ e25 Ar27 (j := (12 : Int32)) hin27 (g := (mkF m 88 #[.val (.int p0), .val (.int p1), .val (.long q2), .second, .unset, .unset, .unset, .unset, .unset, .unset, .unset, .unset, .unset, .unset, .unset] [(.long (768 : Int64)), (.int (12 : Int32)), (.ref b1), (.ref b1)])) rfl rfl (hb hby at_88)
  have f28 : Arv Z h27 b1 k1 .long (32 : Int32) [(.long (-2147483648 : Int64)), (.long (65 : Int64)), (.long (91 : Int64)), (.long (95 : Int64)), (.long (96 : Int64)), (.long (97 : Int64)), (.long (123 : Int64)), (.long (192 : Int64)), (.long (215 : Int64)), (.long (216 : Int64)), (.long (247 : Int64)), (.long (248 : Int64)), (.long (768 : Int64)), (.long (0 : Int64)), (.long (0 : Int64)), (.long (0 : Int64)), (.long (0 : Int64)), (.long (0 : Int64)), (.long (0 : Int64)), (.long (0 : Int64)), (.long (0 : Int64)), (.long (0 : Int64)), (.long (0 : Int64)), (.long (0 : Int64)), (.long (0 : Int64)), (.long (0 : Int64)), (.long (0 : Int64)), (.long (0 : Int64)), (.long (0 : Int64)), (.long (0 : Int64)), (.long (0 : Int64)), (.long (0 : Int64))] (.long (0 : Int64)) := Arv.set Ar27 q27 S27 M27 H27 G27 rfl W27 12 rfl (Nat.le_of_ble_eq_true rfl)
  have N27 := Fr.snoc X27 N25 g_b1
  have K27 : Keep h0 h27 [] := Keep.wr K25 W27 (Or.inr sz_b1)
  refine Go.of st27 ?_
  show Go p e below s _ _ _ (T27.setTop (mkF m 89 #[.val (.int p0), .val (.int p1), .val (.long q2), .second, .unset, .unset, .unset, .unset, .unset, .unset, .unset, .unset, .unset, .unset, .unset] [(.ref b1)]))
  refine Go.of (fun t k => XS.dup X27.here hx rfl (hb hby at_89) rfl rfl k) ?_
  show Go p e below s _ _ _ (T27.setTop (mkF m 90 #[.val (.int p0), .val (.int p1), .val (.long q2), .second, .unset, .unset, .unset, .unset, .unset, .unset, .unset, .unset, .unset, .unset, .unset] [(.ref b1), (.ref b1)]))
  refine Go.of (fun t k => XS.bipush X27.here hx rfl (hb hby at_90) k) ?_
  show Go p e below s _ _ _ (T27.setTop (mkF m 92 #[.val (.int p0), .val (.int p1), .val (.long q2), .second, .unset, .unset, .unset, .unset, .unset, .unset, .unset, .unset, .unset, .unset, .unset] [(.int (13 : Int32)), (.ref b1), (.ref b1)]))
  refine Go.of (X27.ldc2Long hx hown (mvT hZ (hw _ (List.mem_of_getElem? (i := 14) rfl))) (g := (mkF m 92 #[.val (.int p0), .val (.int p1), .val (.long q2), .second, .unset, .unset, .unset, .unset, .unset, .unset, .unset, .unset, .unset, .unset, .unset] [(.int (13 : Int32)), (.ref b1), (.ref b1)])) rfl (hb hby at_92)) ?_
  show Go p e below s _ _ _ (T27.setTop (mkF m 95 #[.val (.int p0), .val (.int p1), .val (.long q2), .second, .unset, .unset, .unset, .unset, .unset, .unset, .unset, .unset, .unset, .unset, .unset] [(.long (880 : Int64)), (.int (13 : Int32)), (.ref b1), (.ref b1)]))
  obtain ⟨cl29, Ar29, q29, S29, M29, H29, G29⟩ := id f28
  have hin29 : ¬ ((13 : Int32) < 0 ∨ cl29.slots.size ≤ ((13 : Int32)).toNatClampNeg) := (inb_of S29 ⟨by decide, by decide⟩)
  obtain ⟨T29, h29, X29, e29, W29, st29⟩ := stJ X27 hx hZ e27 Ar29 (j := (13 : Int32)) hin29 (g := (mkF m 95 #[.val (.int p0), .val (.int p1), .val (.long q2), .second, .unset, .unset, .unset, .unset, .unset, .unset, .unset, .unset, .unset, .unset, .unset] [(.long (880 : Int64)), (.int (13 : Int32)), (.ref b1), (.ref b1)])) rfl rfl (hb hby at_95)
  have f30 : Arv Z h29 b1 k1 .long (32 : Int32) [(.long (-2147483648 : Int64)), (.long (65 : Int64)), (.long (91 : Int64)), (.long (95 : Int64)), (.long (96 : Int64)), (.long (97 : Int64)), (.long (123 : Int64)), (.long (192 : Int64)), (.long (215 : Int64)), (.long (216 : Int64)), (.long (247 : Int64)), (.long (248 : Int64)), (.long (768 : Int64)), (.long (880 : Int64)), (.long (0 : Int64)), (.long (0 : Int64)), (.long (0 : Int64)), (.long (0 : Int64)), (.long (0 : Int64)), (.long (0 : Int64)), (.long (0 : Int64)), (.long (0 : Int64)), (.long (0 : Int64)), (.long (0 : Int64)), (.long (0 : Int64)), (.long (0 : Int64)), (.long (0 : Int64)), (.long (0 : Int64)), (.long (0 : Int64)), (.long (0 : Int64)), (.long (0 : Int64)), (.long (0 : Int64))] (.long (0 : Int64)) := Arv.set Ar29 q29 S29 M29 H29 G29 rfl W29 13 rfl (Nat.le_of_ble_eq_true rfl)
  have N29 := Fr.snoc X29 N27 g_b1
  have K29 : Keep h0 h29 [] := Keep.wr K27 W29 (Or.inr sz_b1)
  refine Go.of st29 ?_
  show Go p e below s _ _ _ (T29.setTop (mkF m 96 #[.val (.int p0), .val (.int p1), .val (.long q2), .second, .unset, .unset, .unset, .unset, .unset, .unset, .unset, .unset, .unset, .unset, .unset] [(.ref b1)]))
  refine Go.of (fun t k => XS.dup X29.here hx rfl (hb hby at_96) rfl rfl k) ?_
  show Go p e below s _ _ _ (T29.setTop (mkF m 97 #[.val (.int p0), .val (.int p1), .val (.long q2), .second, .unset, .unset, .unset, .unset, .unset, .unset, .unset, .unset, .unset, .unset, .unset] [(.ref b1), (.ref b1)]))
  refine Go.of (fun t k => XS.bipush X29.here hx rfl (hb hby at_97) k) ?_
  show Go p e below s _ _ _ (T29.setTop (mkF m 99 #[.val (.int p0), .val (.int p1), .val (.long q2), .second, .unset, .unset, .unset, .unset, .unset, .unset, .unset, .unset, .unset, .unset, .unset] [(.int (14 : Int32)), (.ref b1), (.ref b1)]))
  refine Go.of (X29.ldc2Long hx hown (mvT hZ (hw _ (List.mem_of_getElem? (i := 15) rfl))) (g := (mkF m 99 #[.val (.int p0), .val (.int p1), .val (.long q2), .second, .unset, .unset, .unset, .unset, .unset, .unset, .unset, .unset, .unset, .unset, .unset] [(.int (14 : Int32)), (.ref b1), (.ref b1)])) rfl (hb hby at_99)) ?_
  show Go p e below s _ _ _ (T29.setTop (mkF m 102 #[.val (.int p0), .val (.int p1), .val (.long q2), .second, .unset, .unset, .unset, .unset, .unset, .unset, .unset, .unset, .unset, .unset, .unset] [(.long (894 : Int64)), (.int (14 : Int32)), (.ref b1), (.ref b1)]))
  obtain ⟨cl31, Ar31, q31, S31, M31, H31, G31⟩ := id f30
  have hin31 : ¬ ((14 : Int32) < 0 ∨ cl31.slots.size ≤ ((14 : Int32)).toNatClampNeg) := (inb_of S31 ⟨by decide, by decide⟩)
  obtain ⟨T31, h31, X31, e31, W31, st31⟩ := stJ X29 hx hZ e29 Ar31 (j := (14 : Int32)) hin31 (g := (mkF m 102 #[.val (.int p0), .val (.int p1), .val (.long q2), .second, .unset, .unset, .unset, .unset, .unset, .unset, .unset, .unset, .unset, .unset, .unset] [(.long (894 : Int64)), (.int (14 : Int32)), (.ref b1), (.ref b1)])) rfl rfl (hb hby at_102)
  have f32 : Arv Z h31 b1 k1 .long (32 : Int32) [(.long (-2147483648 : Int64)), (.long (65 : Int64)), (.long (91 : Int64)), (.long (95 : Int64)), (.long (96 : Int64)), (.long (97 : Int64)), (.long (123 : Int64)), (.long (192 : Int64)), (.long (215 : Int64)), (.long (216 : Int64)), (.long (247 : Int64)), (.long (248 : Int64)), (.long (768 : Int64)), (.long (880 : Int64)), (.long (894 : Int64)), (.long (0 : Int64)), (.long (0 : Int64)), (.long (0 : Int64)), (.long (0 : Int64)), (.long (0 : Int64)), (.long (0 : Int64)), (.long (0 : Int64)), (.long (0 : Int64)), (.long (0 : Int64)), (.long (0 : Int64)), (.long (0 : Int64)), (.long (0 : Int64)), (.long (0 : Int64)), (.long (0 : Int64)), (.long (0 : Int64)), (.long (0 : Int64)), (.long (0 : Int64))] (.long (0 : Int64)) := Arv.set Ar31 q31 S31 M31 H31 G31 rfl W31 14 rfl (Nat.le_of_ble_eq_true rfl)
  have N31 := Fr.snoc X31 N29 g_b1
  have K31 : Keep h0 h31 [] := Keep.wr K29 W31 (Or.inr sz_b1)
  refine Go.of st31 ?_
  show Go p e below s _ _ _ (T31.setTop (mkF m 103 #[.val (.int p0), .val (.int p1), .val (.long q2), .second, .unset, .unset, .unset, .unset, .unset, .unset, .unset, .unset, .unset, .unset, .unset] [(.ref b1)]))
  refine Go.of (fun t k => XS.dup X31.here hx rfl (hb hby at_103) rfl rfl k) ?_
  show Go p e below s _ _ _ (T31.setTop (mkF m 104 #[.val (.int p0), .val (.int p1), .val (.long q2), .second, .unset, .unset, .unset, .unset, .unset, .unset, .unset, .unset, .unset, .unset, .unset] [(.ref b1), (.ref b1)]))
  refine Go.of (fun t k => XS.bipush X31.here hx rfl (hb hby at_104) k) ?_
  show Go p e below s _ _ _ (T31.setTop (mkF m 106 #[.val (.int p0), .val (.int p1), .val (.long q2), .second, .unset, .unset, .unset, .unset, .unset, .unset, .unset, .unset, .unset, .unset, .unset] [(.int (15 : Int32)), (.ref b1), (.ref b1)]))
  refine Go.of (X31.ldc2Long hx hown (mvT hZ (hw _ (List.mem_of_getElem? (i := 16) rfl))) (g := (mkF m 106 #[.val (.int p0), .val (.int p1), .val (.long q2), .second, .unset, .unset, .unset, .unset, .unset, .unset, .unset, .unset, .unset, .unset, .unset] [(.int (15 : Int32)), (.ref b1), (.ref b1)])) rfl (hb hby at_106)) ?_
  show Go p e below s _ _ _ (T31.setTop (mkF m 109 #[.val (.int p0), .val (.int p1), .val (.long q2), .second, .unset, .unset, .unset, .unset, .unset, .unset, .unset, .unset, .unset, .unset, .unset] [(.long (895 : Int64)), (.int (15 : Int32)), (.ref b1), (.ref b1)]))
  obtain ⟨cl33, Ar33, q33, S33, M33, H33, G33⟩ := id f32
  have hin33 : ¬ ((15 : Int32) < 0 ∨ cl33.slots.size ≤ ((15 : Int32)).toNatClampNeg) := (inb_of S33 ⟨by decide, by decide⟩)
  obtain ⟨T33, h33, X33, e33, W33, st33⟩ := stJ X31 hx hZ e31 Ar33 (j := (15 : Int32)) hin33 (g := (mkF m 109 #[.val (.int p0), .val (.int p1), .val (.long q2), .second, .unset, .unset, .unset, .unset, .unset, .unset, .unset, .unset, .unset, .unset, .unset] [(.long (895 : Int64)), (.int (15 : Int32)), (.ref b1), (.ref b1)])) rfl rfl (hb hby at_109)
  have f34 : Arv Z h33 b1 k1 .long (32 : Int32) [(.long (-2147483648 : Int64)), (.long (65 : Int64)), (.long (91 : Int64)), (.long (95 : Int64)), (.long (96 : Int64)), (.long (97 : Int64)), (.long (123 : Int64)), (.long (192 : Int64)), (.long (215 : Int64)), (.long (216 : Int64)), (.long (247 : Int64)), (.long (248 : Int64)), (.long (768 : Int64)), (.long (880 : Int64)), (.long (894 : Int64)), (.long (895 : Int64)), (.long (0 : Int64)), (.long (0 : Int64)), (.long (0 : Int64)), (.long (0 : Int64)), (.long (0 : Int64)), (.long (0 : Int64)), (.long (0 : Int64)), (.long (0 : Int64)), (.long (0 : Int64)), (.long (0 : Int64)), (.long (0 : Int64)), (.long (0 : Int64)), (.long (0 : Int64)), (.long (0 : Int64)), (.long (0 : Int64)), (.long (0 : Int64))] (.long (0 : Int64)) := Arv.set Ar33 q33 S33 M33 H33 G33 rfl W33 15 rfl (Nat.le_of_ble_eq_true rfl)
  have N33 := Fr.snoc X33 N31 g_b1
  have K33 : Keep h0 h33 [] := Keep.wr K31 W33 (Or.inr sz_b1)
  refine Go.of st33 ?_
  show Go p e below s _ _ _ (T33.setTop (mkF m 110 #[.val (.int p0), .val (.int p1), .val (.long q2), .second, .unset, .unset, .unset, .unset, .unset, .unset, .unset, .unset, .unset, .unset, .unset] [(.ref b1)]))
  refine Go.of (fun t k => XS.dup X33.here hx rfl (hb hby at_110) rfl rfl k) ?_
  show Go p e below s _ _ _ (T33.setTop (mkF m 111 #[.val (.int p0), .val (.int p1), .val (.long q2), .second, .unset, .unset, .unset, .unset, .unset, .unset, .unset, .unset, .unset, .unset, .unset] [(.ref b1), (.ref b1)]))
  refine Go.of (fun t k => XS.bipush X33.here hx rfl (hb hby at_111) k) ?_
  show Go p e below s _ _ _ (T33.setTop (mkF m 113 #[.val (.int p0), .val (.int p1), .val (.long q2), .second, .unset, .unset, .unset, .unset, .unset, .unset, .unset, .unset, .unset, .unset, .unset] [(.int (16 : Int32)), (.ref b1), (.ref b1)]))
  refine Go.of (X33.ldc2Long hx hown (mvT hZ (hw _ (List.mem_of_getElem? (i := 17) rfl))) (g := (mkF m 113 #[.val (.int p0), .val (.int p1), .val (.long q2), .second, .unset, .unset, .unset, .unset, .unset, .unset, .unset, .unset, .unset, .unset, .unset] [(.int (16 : Int32)), (.ref b1), (.ref b1)])) rfl (hb hby at_113)) ?_
  show Go p e below s _ _ _ (T33.setTop (mkF m 116 #[.val (.int p0), .val (.int p1), .val (.long q2), .second, .unset, .unset, .unset, .unset, .unset, .unset, .unset, .unset, .unset, .unset, .unset] [(.long (8192 : Int64)), (.int (16 : Int32)), (.ref b1), (.ref b1)]))
  obtain ⟨cl35, Ar35, q35, S35, M35, H35, G35⟩ := id f34
  have hin35 : ¬ ((16 : Int32) < 0 ∨ cl35.slots.size ≤ ((16 : Int32)).toNatClampNeg) := (inb_of S35 ⟨by decide, by decide⟩)
  obtain ⟨T35, h35, X35, e35, W35, st35⟩ := stJ X33 hx hZ e33 Ar35 (j := (16 : Int32)) hin35 (g := (mkF m 116 #[.val (.int p0), .val (.int p1), .val (.long q2), .second, .unset, .unset, .unset, .unset, .unset, .unset, .unset, .unset, .unset, .unset, .unset] [(.long (8192 : Int64)), (.int (16 : Int32)), (.ref b1), (.ref b1)])) rfl rfl (hb hby at_116)
  have f36 : Arv Z h35 b1 k1 .long (32 : Int32) [(.long (-2147483648 : Int64)), (.long (65 : Int64)), (.long (91 : Int64)), (.long (95 : Int64)), (.long (96 : Int64)), (.long (97 : Int64)), (.long (123 : Int64)), (.long (192 : Int64)), (.long (215 : Int64)), (.long (216 : Int64)), (.long (247 : Int64)), (.long (248 : Int64)), (.long (768 : Int64)), (.long (880 : Int64)), (.long (894 : Int64)), (.long (895 : Int64)), (.long (8192 : Int64)), (.long (0 : Int64)), (.long (0 : Int64)), (.long (0 : Int64)), (.long (0 : Int64)), (.long (0 : Int64)), (.long (0 : Int64)), (.long (0 : Int64)), (.long (0 : Int64)), (.long (0 : Int64)), (.long (0 : Int64)), (.long (0 : Int64)), (.long (0 : Int64)), (.long (0 : Int64)), (.long (0 : Int64)), (.long (0 : Int64))] (.long (0 : Int64)) := Arv.set Ar35 q35 S35 M35 H35 G35 rfl W35 16 rfl (Nat.le_of_ble_eq_true rfl)
  have N35 := Fr.snoc X35 N33 g_b1
  have K35 : Keep h0 h35 [] := Keep.wr K33 W35 (Or.inr sz_b1)
  refine Go.of st35 ?_
  show Go p e below s _ _ _ (T35.setTop (mkF m 117 #[.val (.int p0), .val (.int p1), .val (.long q2), .second, .unset, .unset, .unset, .unset, .unset, .unset, .unset, .unset, .unset, .unset, .unset] [(.ref b1)]))
  refine Go.of (fun t k => XS.dup X35.here hx rfl (hb hby at_117) rfl rfl k) ?_
  show Go p e below s _ _ _ (T35.setTop (mkF m 118 #[.val (.int p0), .val (.int p1), .val (.long q2), .second, .unset, .unset, .unset, .unset, .unset, .unset, .unset, .unset, .unset, .unset, .unset] [(.ref b1), (.ref b1)]))
  refine Go.of (fun t k => XS.bipush X35.here hx rfl (hb hby at_118) k) ?_
  show Go p e below s _ _ _ (T35.setTop (mkF m 120 #[.val (.int p0), .val (.int p1), .val (.long q2), .second, .unset, .unset, .unset, .unset, .unset, .unset, .unset, .unset, .unset, .unset, .unset] [(.int (17 : Int32)), (.ref b1), (.ref b1)]))
  refine Go.of (X35.ldc2Long hx hown (mvT hZ (hw _ (List.mem_of_getElem? (i := 18) rfl))) (g := (mkF m 120 #[.val (.int p0), .val (.int p1), .val (.long q2), .second, .unset, .unset, .unset, .unset, .unset, .unset, .unset, .unset, .unset, .unset, .unset] [(.int (17 : Int32)), (.ref b1), (.ref b1)])) rfl (hb hby at_120)) ?_
  show Go p e below s _ _ _ (T35.setTop (mkF m 123 #[.val (.int p0), .val (.int p1), .val (.long q2), .second, .unset, .unset, .unset, .unset, .unset, .unset, .unset, .unset, .unset, .unset, .unset] [(.long (8204 : Int64)), (.int (17 : Int32)), (.ref b1), (.ref b1)]))
  obtain ⟨cl37, Ar37, q37, S37, M37, H37, G37⟩ := id f36
  have hin37 : ¬ ((17 : Int32) < 0 ∨ cl37.slots.size ≤ ((17 : Int32)).toNatClampNeg) := (inb_of S37 ⟨by decide, by decide⟩)
  obtain ⟨T37, h37, X37, e37, W37, st37⟩ := stJ X35 hx hZ e35 Ar37 (j := (17 : Int32)) hin37 (g := (mkF m 123 #[.val (.int p0), .val (.int p1), .val (.long q2), .second, .unset, .unset, .unset, .unset, .unset, .unset, .unset, .unset, .unset, .unset, .unset] [(.long (8204 : Int64)), (.int (17 : Int32)), (.ref b1), (.ref b1)])) rfl rfl (hb hby at_123)
  have f38 : Arv Z h37 b1 k1 .long (32 : Int32) [(.long (-2147483648 : Int64)), (.long (65 : Int64)), (.long (91 : Int64)), (.long (95 : Int64)), (.long (96 : Int64)), (.long (97 : Int64)), (.long (123 : Int64)), (.long (192 : Int64)), (.long (215 : Int64)), (.long (216 : Int64)), (.long (247 : Int64)), (.long (248 : Int64)), (.long (768 : Int64)), (.long (880 : Int64)), (.long (894 : Int64)), (.long (895 : Int64)), (.long (8192 : Int64)), (.long (8204 : Int64)), (.long (0 : Int64)), (.long (0 : Int64)), (.long (0 : Int64)), (.long (0 : Int64)), (.long (0 : Int64)), (.long (0 : Int64)), (.long (0 : Int64)), (.long (0 : Int64)), (.long (0 : Int64)), (.long (0 : Int64)), (.long (0 : Int64)), (.long (0 : Int64)), (.long (0 : Int64)), (.long (0 : Int64))] (.long (0 : Int64)) := Arv.set Ar37 q37 S37 M37 H37 G37 rfl W37 17 rfl (Nat.le_of_ble_eq_true rfl)
  have N37 := Fr.snoc X37 N35 g_b1
  have K37 : Keep h0 h37 [] := Keep.wr K35 W37 (Or.inr sz_b1)
  refine Go.of st37 ?_
  show Go p e below s _ _ _ (T37.setTop (mkF m 124 #[.val (.int p0), .val (.int p1), .val (.long q2), .second, .unset, .unset, .unset, .unset, .unset, .unset, .unset, .unset, .unset, .unset, .unset] [(.ref b1)]))
  refine Go.of (fun t k => XS.dup X37.here hx rfl (hb hby at_124) rfl rfl k) ?_
  show Go p e below s _ _ _ (T37.setTop (mkF m 125 #[.val (.int p0), .val (.int p1), .val (.long q2), .second, .unset, .unset, .unset, .unset, .unset, .unset, .unset, .unset, .unset, .unset, .unset] [(.ref b1), (.ref b1)]))
  refine Go.of (fun t k => XS.bipush X37.here hx rfl (hb hby at_125) k) ?_
  show Go p e below s _ _ _ (T37.setTop (mkF m 127 #[.val (.int p0), .val (.int p1), .val (.long q2), .second, .unset, .unset, .unset, .unset, .unset, .unset, .unset, .unset, .unset, .unset, .unset] [(.int (18 : Int32)), (.ref b1), (.ref b1)]))
  refine Go.of (X37.ldc2Long hx hown (mvT hZ (hw _ (List.mem_of_getElem? (i := 19) rfl))) (g := (mkF m 127 #[.val (.int p0), .val (.int p1), .val (.long q2), .second, .unset, .unset, .unset, .unset, .unset, .unset, .unset, .unset, .unset, .unset, .unset] [(.int (18 : Int32)), (.ref b1), (.ref b1)])) rfl (hb hby at_127)) ?_
  show Go p e below s _ _ _ (T37.setTop (mkF m 130 #[.val (.int p0), .val (.int p1), .val (.long q2), .second, .unset, .unset, .unset, .unset, .unset, .unset, .unset, .unset, .unset, .unset, .unset] [(.long (8206 : Int64)), (.int (18 : Int32)), (.ref b1), (.ref b1)]))
  obtain ⟨cl39, Ar39, q39, S39, M39, H39, G39⟩ := id f38
  have hin39 : ¬ ((18 : Int32) < 0 ∨ cl39.slots.size ≤ ((18 : Int32)).toNatClampNeg) := (inb_of S39 ⟨by decide, by decide⟩)
  obtain ⟨T39, h39, X39, e39, W39, st39⟩ := stJ X37 hx hZ e37 Ar39 (j := (18 : Int32)) hin39 (g := (mkF m 130 #[.val (.int p0), .val (.int p1), .val (.long q2), .second, .unset, .unset, .unset, .unset, .unset, .unset, .unset, .unset, .unset, .unset, .unset] [(.long (8206 : Int64)), (.int (18 : Int32)), (.ref b1), (.ref b1)])) rfl rfl (hb hby at_130)
  have f40 : Arv Z h39 b1 k1 .long (32 : Int32) [(.long (-2147483648 : Int64)), (.long (65 : Int64)), (.long (91 : Int64)), (.long (95 : Int64)), (.long (96 : Int64)), (.long (97 : Int64)), (.long (123 : Int64)), (.long (192 : Int64)), (.long (215 : Int64)), (.long (216 : Int64)), (.long (247 : Int64)), (.long (248 : Int64)), (.long (768 : Int64)), (.long (880 : Int64)), (.long (894 : Int64)), (.long (895 : Int64)), (.long (8192 : Int64)), (.long (8204 : Int64)), (.long (8206 : Int64)), (.long (0 : Int64)), (.long (0 : Int64)), (.long (0 : Int64)), (.long (0 : Int64)), (.long (0 : Int64)), (.long (0 : Int64)), (.long (0 : Int64)), (.long (0 : Int64)), (.long (0 : Int64)), (.long (0 : Int64)), (.long (0 : Int64)), (.long (0 : Int64)), (.long (0 : Int64))] (.long (0 : Int64)) := Arv.set Ar39 q39 S39 M39 H39 G39 rfl W39 18 rfl (Nat.le_of_ble_eq_true rfl)
  have N39 := Fr.snoc X39 N37 g_b1
  have K39 : Keep h0 h39 [] := Keep.wr K37 W39 (Or.inr sz_b1)
  refine Go.of st39 ?_
  show Go p e below s _ _ _ (T39.setTop (mkF m 131 #[.val (.int p0), .val (.int p1), .val (.long q2), .second, .unset, .unset, .unset, .unset, .unset, .unset, .unset, .unset, .unset, .unset, .unset] [(.ref b1)]))
  refine Go.of (fun t k => XS.dup X39.here hx rfl (hb hby at_131) rfl rfl k) ?_
  show Go p e below s _ _ _ (T39.setTop (mkF m 132 #[.val (.int p0), .val (.int p1), .val (.long q2), .second, .unset, .unset, .unset, .unset, .unset, .unset, .unset, .unset, .unset, .unset, .unset] [(.ref b1), (.ref b1)]))
  refine Go.of (fun t k => XS.bipush X39.here hx rfl (hb hby at_132) k) ?_
  show Go p e below s _ _ _ (T39.setTop (mkF m 134 #[.val (.int p0), .val (.int p1), .val (.long q2), .second, .unset, .unset, .unset, .unset, .unset, .unset, .unset, .unset, .unset, .unset, .unset] [(.int (19 : Int32)), (.ref b1), (.ref b1)]))
  refine Go.of (X39.ldc2Long hx hown (mvT hZ (hw _ (List.mem_of_getElem? (i := 20) rfl))) (g := (mkF m 134 #[.val (.int p0), .val (.int p1), .val (.long q2), .second, .unset, .unset, .unset, .unset, .unset, .unset, .unset, .unset, .unset, .unset, .unset] [(.int (19 : Int32)), (.ref b1), (.ref b1)])) rfl (hb hby at_134)) ?_
  show Go p e below s _ _ _ (T39.setTop (mkF m 137 #[.val (.int p0), .val (.int p1), .val (.long q2), .second, .unset, .unset, .unset, .unset, .unset, .unset, .unset, .unset, .unset, .unset, .unset] [(.long (8304 : Int64)), (.int (19 : Int32)), (.ref b1), (.ref b1)]))
  obtain ⟨cl41, Ar41, q41, S41, M41, H41, G41⟩ := id f40
  have hin41 : ¬ ((19 : Int32) < 0 ∨ cl41.slots.size ≤ ((19 : Int32)).toNatClampNeg) := (inb_of S41 ⟨by decide, by decide⟩)
  obtain ⟨T41, h41, X41, e41, W41, st41⟩ := stJ X39 hx hZ e39 Ar41 (j := (19 : Int32)) hin41 (g := (mkF m 137 #[.val (.int p0), .val (.int p1), .val (.long q2), .second, .unset, .unset, .unset, .unset, .unset, .unset, .unset, .unset, .unset, .unset, .unset] [(.long (8304 : Int64)), (.int (19 : Int32)), (.ref b1), (.ref b1)])) rfl rfl (hb hby at_137)
  have f42 : Arv Z h41 b1 k1 .long (32 : Int32) [(.long (-2147483648 : Int64)), (.long (65 : Int64)), (.long (91 : Int64)), (.long (95 : Int64)), (.long (96 : Int64)), (.long (97 : Int64)), (.long (123 : Int64)), (.long (192 : Int64)), (.long (215 : Int64)), (.long (216 : Int64)), (.long (247 : Int64)), (.long (248 : Int64)), (.long (768 : Int64)), (.long (880 : Int64)), (.long (894 : Int64)), (.long (895 : Int64)), (.long (8192 : Int64)), (.long (8204 : Int64)), (.long (8206 : Int64)), (.long (8304 : Int64)), (.long (0 : Int64)), (.long (0 : Int64)), (.long (0 : Int64)), (.long (0 : Int64)), (.long (0 : Int64)), (.long (0 : Int64)), (.long (0 : Int64)), (.long (0 : Int64)), (.long (0 : Int64)), (.long (0 : Int64)), (.long (0 : Int64)), (.long (0 : Int64))] (.long (0 : Int64)) := Arv.set Ar41 q41 S41 M41 H41 G41 rfl W41 19 rfl (Nat.le_of_ble_eq_true rfl)
  have N41 := Fr.snoc X41 N39 g_b1
  have K41 : Keep h0 h41 [] := Keep.wr K39 W41 (Or.inr sz_b1)
  refine Go.of st41 ?_
  show Go p e below s _ _ _ (T41.setTop (mkF m 138 #[.val (.int p0), .val (.int p1), .val (.long q2), .second, .unset, .unset, .unset, .unset, .unset, .unset, .unset, .unset, .unset, .unset, .unset] [(.ref b1)]))
  refine Go.of (fun t k => XS.dup X41.here hx rfl (hb hby at_138) rfl rfl k) ?_
  show Go p e below s _ _ _ (T41.setTop (mkF m 139 #[.val (.int p0), .val (.int p1), .val (.long q2), .second, .unset, .unset, .unset, .unset, .unset, .unset, .unset, .unset, .unset, .unset, .unset] [(.ref b1), (.ref b1)]))
  refine Go.of (fun t k => XS.bipush X41.here hx rfl (hb hby at_139) k) ?_
  show Go p e below s _ _ _ (T41.setTop (mkF m 141 #[.val (.int p0), .val (.int p1), .val (.long q2), .second, .unset, .unset, .unset, .unset, .unset, .unset, .unset, .unset, .unset, .unset, .unset] [(.int (20 : Int32)), (.ref b1), (.ref b1)]))
  refine Go.of (X41.ldc2Long hx hown (mvT hZ (hw _ (List.mem_of_getElem? (i := 21) rfl))) (g := (mkF m 141 #[.val (.int p0), .val (.int p1), .val (.long q2), .second, .unset, .unset, .unset, .unset, .unset, .unset, .unset, .unset, .unset, .unset, .unset] [(.int (20 : Int32)), (.ref b1), (.ref b1)])) rfl (hb hby at_141)) ?_
  show Go p e below s _ _ _ (T41.setTop (mkF m 144 #[.val (.int p0), .val (.int p1), .val (.long q2), .second, .unset, .unset, .unset, .unset, .unset, .unset, .unset, .unset, .unset, .unset, .unset] [(.long (8592 : Int64)), (.int (20 : Int32)), (.ref b1), (.ref b1)]))
  obtain ⟨cl43, Ar43, q43, S43, M43, H43, G43⟩ := id f42
  have hin43 : ¬ ((20 : Int32) < 0 ∨ cl43.slots.size ≤ ((20 : Int32)).toNatClampNeg) := (inb_of S43 ⟨by decide, by decide⟩)
  obtain ⟨T43, h43, X43, e43, W43, st43⟩ := stJ X41 hx hZ e41 Ar43 (j := (20 : Int32)) hin43 (g := (mkF m 144 #[.val (.int p0), .val (.int p1), .val (.long q2), .second, .unset, .unset, .unset, .unset, .unset, .unset, .unset, .unset, .unset, .unset, .unset] [(.long (8592 : Int64)), (.int (20 : Int32)), (.ref b1), (.ref b1)])) rfl rfl (hb hby at_144)
  have f44 : Arv Z h43 b1 k1 .long (32 : Int32) [(.long (-2147483648 : Int64)), (.long (65 : Int64)), (.long (91 : Int64)), (.long (95 : Int64)), (.long (96 : Int64)), (.long (97 : Int64)), (.long (123 : Int64)), (.long (192 : Int64)), (.long (215 : Int64)), (.long (216 : Int64)), (.long (247 : Int64)), (.long (248 : Int64)), (.long (768 : Int64)), (.long (880 : Int64)), (.long (894 : Int64)), (.long (895 : Int64)), (.long (8192 : Int64)), (.long (8204 : Int64)), (.long (8206 : Int64)), (.long (8304 : Int64)), (.long (8592 : Int64)), (.long (0 : Int64)), (.long (0 : Int64)), (.long (0 : Int64)), (.long (0 : Int64)), (.long (0 : Int64)), (.long (0 : Int64)), (.long (0 : Int64)), (.long (0 : Int64)), (.long (0 : Int64)), (.long (0 : Int64)), (.long (0 : Int64))] (.long (0 : Int64)) := Arv.set Ar43 q43 S43 M43 H43 G43 rfl W43 20 rfl (Nat.le_of_ble_eq_true rfl)
  have N43 := Fr.snoc X43 N41 g_b1
  have K43 : Keep h0 h43 [] := Keep.wr K41 W43 (Or.inr sz_b1)
  refine Go.of st43 ?_
  show Go p e below s _ _ _ (T43.setTop (mkF m 145 #[.val (.int p0), .val (.int p1), .val (.long q2), .second, .unset, .unset, .unset, .unset, .unset, .unset, .unset, .unset, .unset, .unset, .unset] [(.ref b1)]))
  refine Go.of (fun t k => XS.dup X43.here hx rfl (hb hby at_145) rfl rfl k) ?_
  show Go p e below s _ _ _ (T43.setTop (mkF m 146 #[.val (.int p0), .val (.int p1), .val (.long q2), .second, .unset, .unset, .unset, .unset, .unset, .unset, .unset, .unset, .unset, .unset, .unset] [(.ref b1), (.ref b1)]))
  refine Go.of (fun t k => XS.bipush X43.here hx rfl (hb hby at_146) k) ?_
  show Go p e below s _ _ _ (T43.setTop (mkF m 148 #[.val (.int p0), .val (.int p1), .val (.long q2), .second, .unset, .unset, .unset, .unset, .unset, .unset, .unset, .unset, .unset, .unset, .unset] [(.int (21 : Int32)), (.ref b1), (.ref b1)]))
  refine Go.of (X43.ldc2Long hx hown (mvT hZ (hw _ (List.mem_of_getElem? (i := 22) rfl))) (g := (mkF m 148 #[.val (.int p0), .val (.int p1), .val (.long q2), .second, .unset, .unset, .unset, .unset, .unset, .unset, .unset, .unset, .unset, .unset, .unset] [(.int (21 : Int32)), (.ref b1), (.ref b1)])) rfl (hb hby at_148)) ?_
  show Go p e below s _ _ _ (T43.setTop (mkF m 151 #[.val (.int p0), .val (.int p1), .val (.long q2), .second, .unset, .unset, .unset, .unset, .unset, .unset, .unset, .unset, .unset, .unset, .unset] [(.long (11264 : Int64)), (.int (21 : Int32)), (.ref b1), (.ref b1)]))
  obtain ⟨cl45, Ar45, q45, S45, M45, H45, G45⟩ := id f44
  have hin45 : ¬ ((21 : Int32) < 0 ∨ cl45.slots.size ≤ ((21 : Int32)).toNatClampNeg) := (inb_of S45 ⟨by decide, by decide⟩)
  obtain ⟨T45, h45, X45, e45, W45, st45⟩ := stJ X43 hx hZ e43 Ar45 (j := (21 : Int32)) hin45 (g := (mkF m 151 #[.val (.int p0), .val (.int p1), .val (.long q2), .second, .unset, .unset, .unset, .unset, .unset, .unset, .unset, .unset, .unset, .unset, .unset] [(.long (11264 : Int64)), (.int (21 : Int32)), (.ref b1), (.ref b1)])) rfl rfl (hb hby at_151)
  have f46 : Arv Z h45 b1 k1 .long (32 : Int32) [(.long (-2147483648 : Int64)), (.long (65 : Int64)), (.long (91 : Int64)), (.long (95 : Int64)), (.long (96 : Int64)), (.long (97 : Int64)), (.long (123 : Int64)), (.long (192 : Int64)), (.long (215 : Int64)), (.long (216 : Int64)), (.long (247 : Int64)), (.long (248 : Int64)), (.long (768 : Int64)), (.long (880 : Int64)), (.long (894 : Int64)), (.long (895 : Int64)), (.long (8192 : Int64)), (.long (8204 : Int64)), (.long (8206 : Int64)), (.long (8304 : Int64)), (.long (8592 : Int64)), (.long (11264 : Int64)), (.long (0 : Int64)), (.long (0 : Int64)), (.long (0 : Int64)), (.long (0 : Int64)), (.long (0 : Int64)), (.long (0 : Int64)), (.long (0 : Int64)), (.long (0 : Int64)), (.long (0 : Int64)), (.long (0 : Int64))] (.long (0 : Int64)) := Arv.set Ar45 q45 S45 M45 H45 G45 rfl W45 21 rfl (Nat.le_of_ble_eq_true rfl)
  have N45 := Fr.snoc X45 N43 g_b1
  have K45 : Keep h0 h45 [] := Keep.wr K43 W45 (Or.inr sz_b1)
  refine Go.of st45 ?_
  show Go p e below s _ _ _ (T45.setTop (mkF m 152 #[.val (.int p0), .val (.int p1), .val (.long q2), .second, .unset, .unset, .unset, .unset, .unset, .unset, .unset, .unset, .unset, .unset, .unset] [(.ref b1)]))
  refine Go.of (fun t k => XS.dup X45.here hx rfl (hb hby at_152) rfl rfl k) ?_
  show Go p e below s _ _ _ (T45.setTop (mkF m 153 #[.val (.int p0), .val (.int p1), .val (.long q2), .second, .unset, .unset, .unset, .unset, .unset, .unset, .unset, .unset, .unset, .unset, .unset] [(.ref b1), (.ref b1)]))
  refine Go.of (fun t k => XS.bipush X45.here hx rfl (hb hby at_153) k) ?_
  show Go p e below s _ _ _ (T45.setTop (mkF m 155 #[.val (.int p0), .val (.int p1), .val (.long q2), .second, .unset, .unset, .unset, .unset, .unset, .unset, .unset, .unset, .unset, .unset, .unset] [(.int (22 : Int32)), (.ref b1), (.ref b1)]))
  refine Go.of (X45.ldc2Long hx hown (mvT hZ (hw _ (List.mem_of_getElem? (i := 23) rfl))) (g := (mkF m 155 #[.val (.int p0), .val (.int p1), .val (.long q2), .second, .unset, .unset, .unset, .unset, .unset, .unset, .unset, .unset, .unset, .unset, .unset] [(.int (22 : Int32)), (.ref b1), (.ref b1)])) rfl (hb hby at_155)) ?_
  show Go p e below s _ _ _ (T45.setTop (mkF m 158 #[.val (.int p0), .val (.int p1), .val (.long q2), .second, .unset, .unset, .unset, .unset, .unset, .unset, .unset, .unset, .unset, .unset, .unset] [(.long (12272 : Int64)), (.int (22 : Int32)), (.ref b1), (.ref b1)]))
  obtain ⟨cl47, Ar47, q47, S47, M47, H47, G47⟩ := id f46
  have hin47 : ¬ ((22 : Int32) < 0 ∨ cl47.slots.size ≤ ((22 : Int32)).toNatClampNeg) := (inb_of S47 ⟨by decide, by decide⟩)
  obtain ⟨T47, h47, X47, e47, W47, st47⟩ := stJ X45 hx hZ e45 Ar47 (j := (22 : Int32)) hin47 (g := (mkF m 158 #[.val (.int p0), .val (.int p1), .val (.long q2), .second, .unset, .unset, .unset, .unset, .unset, .unset, .unset, .unset, .unset, .unset, .unset] [(.long (12272 : Int64)), (.int (22 : Int32)), (.ref b1), (.ref b1)])) rfl rfl (hb hby at_158)
  have f48 : Arv Z h47 b1 k1 .long (32 : Int32) [(.long (-2147483648 : Int64)), (.long (65 : Int64)), (.long (91 : Int64)), (.long (95 : Int64)), (.long (96 : Int64)), (.long (97 : Int64)), (.long (123 : Int64)), (.long (192 : Int64)), (.long (215 : Int64)), (.long (216 : Int64)), (.long (247 : Int64)), (.long (248 : Int64)), (.long (768 : Int64)), (.long (880 : Int64)), (.long (894 : Int64)), (.long (895 : Int64)), (.long (8192 : Int64)), (.long (8204 : Int64)), (.long (8206 : Int64)), (.long (8304 : Int64)), (.long (8592 : Int64)), (.long (11264 : Int64)), (.long (12272 : Int64)), (.long (0 : Int64)), (.long (0 : Int64)), (.long (0 : Int64)), (.long (0 : Int64)), (.long (0 : Int64)), (.long (0 : Int64)), (.long (0 : Int64)), (.long (0 : Int64)), (.long (0 : Int64))] (.long (0 : Int64)) := Arv.set Ar47 q47 S47 M47 H47 G47 rfl W47 22 rfl (Nat.le_of_ble_eq_true rfl)
  have N47 := Fr.snoc X47 N45 g_b1
  have K47 : Keep h0 h47 [] := Keep.wr K45 W47 (Or.inr sz_b1)
  refine Go.of st47 ?_
  show Go p e below s _ _ _ (T47.setTop (mkF m 159 #[.val (.int p0), .val (.int p1), .val (.long q2), .second, .unset, .unset, .unset, .unset, .unset, .unset, .unset, .unset, .unset, .unset, .unset] [(.ref b1)]))
  refine Go.of (fun t k => XS.dup X47.here hx rfl (hb hby at_159) rfl rfl k) ?_
  show Go p e below s _ _ _ (T47.setTop (mkF m 160 #[.val (.int p0), .val (.int p1), .val (.long q2), .second, .unset, .unset, .unset, .unset, .unset, .unset, .unset, .unset, .unset, .unset, .unset] [(.ref b1), (.ref b1)]))
  refine Go.of (fun t k => XS.bipush X47.here hx rfl (hb hby at_160) k) ?_
  show Go p e below s _ _ _ (T47.setTop (mkF m 162 #[.val (.int p0), .val (.int p1), .val (.long q2), .second, .unset, .unset, .unset, .unset, .unset, .unset, .unset, .unset, .unset, .unset, .unset] [(.int (23 : Int32)), (.ref b1), (.ref b1)]))
  refine Go.of (X47.ldc2Long hx hown (mvT hZ (hw _ (List.mem_of_getElem? (i := 24) rfl))) (g := (mkF m 162 #[.val (.int p0), .val (.int p1), .val (.long q2), .second, .unset, .unset, .unset, .unset, .unset, .unset, .unset, .unset, .unset, .unset, .unset] [(.int (23 : Int32)), (.ref b1), (.ref b1)])) rfl (hb hby at_162)) ?_
  show Go p e below s _ _ _ (T47.setTop (mkF m 165 #[.val (.int p0), .val (.int p1), .val (.long q2), .second, .unset, .unset, .unset, .unset, .unset, .unset, .unset, .unset, .unset, .unset, .unset] [(.long (12289 : Int64)), (.int (23 : Int32)), (.ref b1), (.ref b1)]))
  obtain ⟨cl49, Ar49, q49, S49, M49, H49, G49⟩ := id f48
  have hin49 : ¬ ((23 : Int32) < 0 ∨ cl49.slots.size ≤ ((23 : Int32)).toNatClampNeg) := (inb_of S49 ⟨by decide, by decide⟩)
  obtain ⟨T49, h49, X49, e49, W49, st49⟩ := stJ X47 hx hZ e47 Ar49 (j := (23 : Int32)) hin49 (g := (mkF m 165 #[.val (.int p0), .val (.int p1), .val (.long q2), .second, .unset, .unset, .unset, .unset, .unset, .unset, .unset, .unset, .unset, .unset, .unset] [(.long (12289 : Int64)), (.int (23 : Int32)), (.ref b1), (.ref b1)])) rfl rfl (hb hby at_165)
  have f50 : Arv Z h49 b1 k1 .long (32 : Int32) [(.long (-2147483648 : Int64)), (.long (65 : Int64)), (.long (91 : Int64)), (.long (95 : Int64)), (.long (96 : Int64)), (.long (97 : Int64)), (.long (123 : Int64)), (.long (192 : Int64)), (.long (215 : Int64)), (.long (216 : Int64)), (.long (247 : Int64)), (.long (248 : Int64)), (.long (768 : Int64)), (.long (880 : Int64)), (.long (894 : Int64)), (.long (895 : Int64)), (.long (8192 : Int64)), (.long (8204 : Int64)), (.long (8206 : Int64)), (.long (8304 : Int64)), (.long (8592 : Int64)), (.long (11264 : Int64)), (.long (12272 : Int64)), (.long (12289 : Int64)), (.long (0 : Int64)), (.long (0 : Int64)), (.long (0 : Int64)), (.long (0 : Int64)), (.long (0 : Int64)), (.long (0 : Int64)), (.long (0 : Int64)), (.long (0 : Int64))] (.long (0 : Int64)) := Arv.set Ar49 q49 S49 M49 H49 G49 rfl W49 23 rfl (Nat.le_of_ble_eq_true rfl)
  have N49 := Fr.snoc X49 N47 g_b1
  have K49 : Keep h0 h49 [] := Keep.wr K47 W49 (Or.inr sz_b1)
  refine Go.of st49 ?_
  show Go p e below s _ _ _ (T49.setTop (mkF m 166 #[.val (.int p0), .val (.int p1), .val (.long q2), .second, .unset, .unset, .unset, .unset, .unset, .unset, .unset, .unset, .unset, .unset, .unset] [(.ref b1)]))
  refine Go.of (fun t k => XS.dup X49.here hx rfl (hb hby at_166) rfl rfl k) ?_
  show Go p e below s _ _ _ (T49.setTop (mkF m 167 #[.val (.int p0), .val (.int p1), .val (.long q2), .second, .unset, .unset, .unset, .unset, .unset, .unset, .unset, .unset, .unset, .unset, .unset] [(.ref b1), (.ref b1)]))
  refine Go.of (fun t k => XS.bipush X49.here hx rfl (hb hby at_167) k) ?_
  show Go p e below s _ _ _ (T49.setTop (mkF m 169 #[.val (.int p0), .val (.int p1), .val (.long q2), .second, .unset, .unset, .unset, .unset, .unset, .unset, .unset, .unset, .unset, .unset, .unset] [(.int (24 : Int32)), (.ref b1), (.ref b1)]))
  refine Go.of (X49.ldc2Long hx hown (mvT hZ (hw _ (List.mem_of_getElem? (i := 25) rfl))) (g := (mkF m 169 #[.val (.int p0), .val (.int p1), .val (.long q2), .second, .unset, .unset, .unset, .unset, .unset, .unset, .unset, .unset, .unset, .unset, .unset] [(.int (24 : Int32)), (.ref b1), (.ref b1)])) rfl (hb hby at_169)) ?_
  show Go p e below s _ _ _ (T49.setTop (mkF m 172 #[.val (.int p0), .val (.int p1), .val (.long q2), .second, .unset, .unset, .unset, .unset, .unset, .unset, .unset, .unset, .unset, .unset, .unset] [(.long (55296 : Int64)), (.int (24 : Int32)), (.ref b1), (.ref b1)]))
  obtain ⟨cl51, Ar51, q51, S51, M51, H51, G51⟩ := id f50
  have hin51 : ¬ ((24 : Int32) < 0 ∨ cl51.slots.size ≤ ((24 : Int32)).toNatClampNeg) := (inb_of S51 ⟨by decide, by decide⟩)
  obtain ⟨T51, h51, X51, e51, W51, st51⟩ := stJ X49 hx hZ e49 Ar51 (j := (24 : Int32)) hin51 (g := (mkF m 172 #[.val (.int p0), .val (.int p1), .val (.long q2), .second, .unset, .unset, .unset, .unset, .unset, .unset, .unset, .unset, .unset, .unset, .unset] [(.long (55296 : Int64)), (.int (24 : Int32)), (.ref b1), (.ref b1)])) rfl rfl (hb hby at_172)
  have f52 : Arv Z h51 b1 k1 .long (32 : Int32) [(.long (-2147483648 : Int64)), (.long (65 : Int64)), (.long (91 : Int64)), (.long (95 : Int64)), (.long (96 : Int64)), (.long (97 : Int64)), (.long (123 : Int64)), (.long (192 : Int64)), (.long (215 : Int64)), (.long (216 : Int64)), (.long (247 : Int64)), (.long (248 : Int64)), (.long (768 : Int64)), (.long (880 : Int64)), (.long (894 : Int64)), (.long (895 : Int64)), (.long (8192 : Int64)), (.long (8204 : Int64)), (.long (8206 : Int64)), (.long (8304 : Int64)), (.long (8592 : Int64)), (.long (11264 : Int64)), (.long (12272 : Int64)), (.long (12289 : Int64)), (.long (55296 : Int64)), (.long (0 : Int64)), (.long (0 : Int64)), (.long (0 : Int64)), (.long (0 : Int64)), (.long (0 : Int64)), (.long (0 : Int64)), (.long (0 : Int64))] (.long (0 : Int64)) := Arv.set Ar51 q51 S51 M51 H51 G51 rfl W51 24 rfl (Nat.le_of_ble_eq_true rfl)
  have N51 := Fr.snoc X51 N49 g_b1
  have K51 : Keep h0 h51 [] := Keep.wr K49 W51 (Or.inr sz_b1)
  refine Go.of st51 ?_
  show Go p e below s _ _ _ (T51.setTop (mkF m 173 #[.val (.int p0), .val (.int p1), .val (.long q2), .second, .unset, .unset, .unset, .unset, .unset, .unset, .unset, .unset, .unset, .unset, .unset] [(.ref b1)]))
  refine Go.of (fun t k => XS.dup X51.here hx rfl (hb hby at_173) rfl rfl k) ?_
  show Go p e below s _ _ _ (T51.setTop (mkF m 174 #[.val (.int p0), .val (.int p1), .val (.long q2), .second, .unset, .unset, .unset, .unset, .unset, .unset, .unset, .unset, .unset, .unset, .unset] [(.ref b1), (.ref b1)]))
  refine Go.of (fun t k => XS.bipush X51.here hx rfl (hb hby at_174) k) ?_
  show Go p e below s _ _ _ (T51.setTop (mkF m 176 #[.val (.int p0), .val (.int p1), .val (.long q2), .second, .unset, .unset, .unset, .unset, .unset, .unset, .unset, .unset, .unset, .unset, .unset] [(.int (25 : Int32)), (.ref b1), (.ref b1)]))
  refine Go.of (X51.ldc2Long hx hown (mvT hZ (hw _ (List.mem_of_getElem? (i := 26) rfl))) (g := (mkF m 176 #[.val (.int p0), .val (.int p1), .val (.long q2), .second, .unset, .unset, .unset, .unset, .unset, .unset, .unset, .unset, .unset, .unset, .unset] [(.int (25 : Int32)), (.ref b1), (.ref b1)])) rfl (hb hby at_176)) ?_
  show Go p e below s _ _ _ (T51.setTop (mkF m 179 #[.val (.int p0), .val (.int p1), .val (.long q2), .second, .unset, .unset, .unset, .unset, .unset, .unset, .unset, .unset, .unset, .unset, .unset] [(.long (63744 : Int64)), (.int (25 : Int32)), (.ref b1), (.ref b1)]))
  obtain ⟨cl53, Ar53, q53, S53, M53, H53, G53⟩ := id f52
  have hin53 : ¬ ((25 : Int32) < 0 ∨ cl53.slots.size ≤ ((25 : Int32)).toNatClampNeg) := (inb_of S53 ⟨by decide, by decide⟩)
  obtain ⟨T53, h53, X53, e53, W53, st53⟩ := stJ X51 hx hZ e51 Ar53 (j := (25 : Int32)) hin53 (g := (mkF m 179 #[.val (.int p0), .val (.int p1), .val (.long q2), .second, .unset, .unset, .unset, .unset, .unset, .unset, .unset, .unset, .unset, .unset, .unset] [(.long (63744 : Int64)), (.int (25 : Int32)), (.ref b1), (.ref b1)])) rfl rfl (hb hby at_179)
  have f54 : Arv Z h53 b1 k1 .long (32 : Int32) [(.long (-2147483648 : Int64)), (.long (65 : Int64)), (.long (91 : Int64)), (.long (95 : Int64)), (.long (96 : Int64)), (.long (97 : Int64)), (.long (123 : Int64)), (.long (192 : Int64)), (.long (215 : Int64)), (.long (216 : Int64)), (.long (247 : Int64)), (.long (248 : Int64)), (.long (768 : Int64)), (.long (880 : Int64)), (.long (894 : Int64)), (.long (895 : Int64)), (.long (8192 : Int64)), (.long (8204 : Int64)), (.long (8206 : Int64)), (.long (8304 : Int64)), (.long (8592 : Int64)), (.long (11264 : Int64)), (.long (12272 : Int64)), (.long (12289 : Int64)), (.long (55296 : Int64)), (.long (63744 : Int64)), (.long (0 : Int64)), (.long (0 : Int64)), (.long (0 : Int64)), (.long (0 : Int64)), (.long (0 : Int64)), (.long (0 : Int64))] (.long (0 : Int64)) := Arv.set Ar53 q53 S53 M53 H53 G53 rfl W53 25 rfl (Nat.le_of_ble_eq_true rfl)
  have N53 := Fr.snoc X53 N51 g_b1
  have K53 : Keep h0 h53 [] := Keep.wr K51 W53 (Or.inr sz_b1)
  refine Go.of st53 ?_
  show Go p e below s _ _ _ (T53.setTop (mkF m 180 #[.val (.int p0), .val (.int p1), .val (.long q2), .second, .unset, .unset, .unset, .unset, .unset, .unset, .unset, .unset, .unset, .unset, .unset] [(.ref b1)]))
  refine Go.of (fun t k => XS.dup X53.here hx rfl (hb hby at_180) rfl rfl k) ?_
  show Go p e below s _ _ _ (T53.setTop (mkF m 181 #[.val (.int p0), .val (.int p1), .val (.long q2), .second, .unset, .unset, .unset, .unset, .unset, .unset, .unset, .unset, .unset, .unset, .unset] [(.ref b1), (.ref b1)]))
  refine Go.of (fun t k => XS.bipush X53.here hx rfl (hb hby at_181) k) ?_
  show Go p e below s _ _ _ (T53.setTop (mkF m 183 #[.val (.int p0), .val (.int p1), .val (.long q2), .second, .unset, .unset, .unset, .unset, .unset, .unset, .unset, .unset, .unset, .unset, .unset] [(.int (26 : Int32)), (.ref b1), (.ref b1)]))
  refine Go.of (X53.ldc2Long hx hown (mvT hZ (hw _ (List.mem_of_getElem? (i := 27) rfl))) (g := (mkF m 183 #[.val (.int p0), .val (.int p1), .val (.long q2), .second, .unset, .unset, .unset, .unset, .unset, .unset, .unset, .unset, .unset, .unset, .unset] [(.int (26 : Int32)), (.ref b1), (.ref b1)])) rfl (hb hby at_183)) ?_
  show Go p e below s _ _ _ (T53.setTop (mkF m 186 #[.val (.int p0), .val (.int p1), .val (.long q2), .second, .unset, .unset, .unset, .unset, .unset, .unset, .unset, .unset, .unset, .unset, .unset] [(.long (64976 : Int64)), (.int (26 : Int32)), (.ref b1), (.ref b1)]))
  obtain ⟨cl55, Ar55, q55, S55, M55, H55, G55⟩ := id f54
  have hin55 : ¬ ((26 : Int32) < 0 ∨ cl55.slots.size ≤ ((26 : Int32)).toNatClampNeg) := (inb_of S55 ⟨by decide, by decide⟩)
  obtain ⟨T55, h55, X55, e55, W55, st55⟩ := stJ X53 hx hZ e53 Ar55 (j := (26 : Int32)) hin55 (g := (mkF m 186 #[.val (.int p0), .val (.int p1), .val (.long q2), .second, .unset, .unset, .unset, .unset, .unset, .unset, .unset, .unset, .unset, .unset, .unset] [(.long (64976 : Int64)), (.int (26 : Int32)), (.ref b1), (.ref b1)])) rfl rfl (hb hby at_186)
  have f56 : Arv Z h55 b1 k1 .long (32 : Int32) [(.long (-2147483648 : Int64)), (.long (65 : Int64)), (.long (91 : Int64)), (.long (95 : Int64)), (.long (96 : Int64)), (.long (97 : Int64)), (.long (123 : Int64)), (.long (192 : Int64)), (.long (215 : Int64)), (.long (216 : Int64)), (.long (247 : Int64)), (.long (248 : Int64)), (.long (768 : Int64)), (.long (880 : Int64)), (.long (894 : Int64)), (.long (895 : Int64)), (.long (8192 : Int64)), (.long (8204 : Int64)), (.long (8206 : Int64)), (.long (8304 : Int64)), (.long (8592 : Int64)), (.long (11264 : Int64)), (.long (12272 : Int64)), (.long (12289 : Int64)), (.long (55296 : Int64)), (.long (63744 : Int64)), (.long (64976 : Int64)), (.long (0 : Int64)), (.long (0 : Int64)), (.long (0 : Int64)), (.long (0 : Int64)), (.long (0 : Int64))] (.long (0 : Int64)) := Arv.set Ar55 q55 S55 M55 H55 G55 rfl W55 26 rfl (Nat.le_of_ble_eq_true rfl)
  have N55 := Fr.snoc X55 N53 g_b1
  have K55 : Keep h0 h55 [] := Keep.wr K53 W55 (Or.inr sz_b1)
  refine Go.of st55 ?_
  show Go p e below s _ _ _ (T55.setTop (mkF m 187 #[.val (.int p0), .val (.int p1), .val (.long q2), .second, .unset, .unset, .unset, .unset, .unset, .unset, .unset, .unset, .unset, .unset, .unset] [(.ref b1)]))
  refine Go.of (fun t k => XS.dup X55.here hx rfl (hb hby at_187) rfl rfl k) ?_
  show Go p e below s _ _ _ (T55.setTop (mkF m 188 #[.val (.int p0), .val (.int p1), .val (.long q2), .second, .unset, .unset, .unset, .unset, .unset, .unset, .unset, .unset, .unset, .unset, .unset] [(.ref b1), (.ref b1)]))
  refine Go.of (fun t k => XS.bipush X55.here hx rfl (hb hby at_188) k) ?_
  show Go p e below s _ _ _ (T55.setTop (mkF m 190 #[.val (.int p0), .val (.int p1), .val (.long q2), .second, .unset, .unset, .unset, .unset, .unset, .unset, .unset, .unset, .unset, .unset, .unset] [(.int (27 : Int32)), (.ref b1), (.ref b1)]))
  refine Go.of (X55.ldc2Long hx hown (mvT hZ (hw _ (List.mem_of_getElem? (i := 28) rfl))) (g := (mkF m 190 #[.val (.int p0), .val (.int p1), .val (.long q2), .second, .unset, .unset, .unset, .unset, .unset, .unset, .unset, .unset, .unset, .unset, .unset] [(.int (27 : Int32)), (.ref b1), (.ref b1)])) rfl (hb hby at_190)) ?_
  show Go p e below s _ _ _ (T55.setTop (mkF m 193 #[.val (.int p0), .val (.int p1), .val (.long q2), .second, .unset, .unset, .unset, .unset, .unset, .unset, .unset, .unset, .unset, .unset, .unset] [(.long (65008 : Int64)), (.int (27 : Int32)), (.ref b1), (.ref b1)]))
  obtain ⟨cl57, Ar57, q57, S57, M57, H57, G57⟩ := id f56
  have hin57 : ¬ ((27 : Int32) < 0 ∨ cl57.slots.size ≤ ((27 : Int32)).toNatClampNeg) := (inb_of S57 ⟨by decide, by decide⟩)
  obtain ⟨T57, h57, X57, e57, W57, st57⟩ := stJ X55 hx hZ e55 Ar57 (j := (27 : Int32)) hin57 (g := (mkF m 193 #[.val (.int p0), .val (.int p1), .val (.long q2), .second, .unset, .unset, .unset, .unset, .unset, .unset, .unset, .unset, .unset, .unset, .unset] [(.long (65008 : Int64)), (.int (27 : Int32)), (.ref b1), (.ref b1)])) rfl rfl (hb hby at_193)
  have f58 : Arv Z h57 b1 k1 .long (32 : Int32) [(.long (-2147483648 : Int64)), (.long (65 : Int64)), (.long (91 : Int64)), (.long (95 : Int64)), (.long (96 : Int64)), (.long (97 : Int64)), (.long (123 : Int64)), (.long (192 : Int64)), (.long (215 : Int64)), (.long (216 : Int64)), (.long (247 : Int64)), (.long (248 : Int64)), (.long (768 : Int64)), (.long (880 : Int64)), (.long (894 : Int64)), (.long (895 : Int64)), (.long (8192 : Int64)), (.long (8204 : Int64)), (.long (8206 : Int64)), (.long (8304 : Int64)), (.long (8592 : Int64)), (.long (11264 : Int64)), (.long (12272 : Int64)), (.long (12289 : Int64)), (.long (55296 : Int64)), (.long (63744 : Int64)), (.long (64976 : Int64)), (.long (65008 : Int64)), (.long (0 : Int64)), (.long (0 : Int64)), (.long (0 : Int64)), (.long (0 : Int64))] (.long (0 : Int64)) := Arv.set Ar57 q57 S57 M57 H57 G57 rfl W57 27 rfl (Nat.le_of_ble_eq_true rfl)
  have N57 := Fr.snoc X57 N55 g_b1
  have K57 : Keep h0 h57 [] := Keep.wr K55 W57 (Or.inr sz_b1)
  refine Go.of st57 ?_
  show Go p e below s _ _ _ (T57.setTop (mkF m 194 #[.val (.int p0), .val (.int p1), .val (.long q2), .second, .unset, .unset, .unset, .unset, .unset, .unset, .unset, .unset, .unset, .unset, .unset] [(.ref b1)]))
  refine Go.of (fun t k => XS.dup X57.here hx rfl (hb hby at_194) rfl rfl k) ?_
  show Go p e below s _ _ _ (T57.setTop (mkF m 195 #[.val (.int p0), .val (.int p1), .val (.long q2), .second, .unset, .unset, .unset, .unset, .unset, .unset, .unset, .unset, .unset, .unset, .unset] [(.ref b1), (.ref b1)]))
  refine Go.of (fun t k => XS.bipush X57.here hx rfl (hb hby at_195) k) ?_
  show Go p e below s _ _ _ (T57.setTop (mkF m 197 #[.val (.int p0), .val (.int p1), .val (.long q2), .second, .unset, .unset, .unset, .unset, .unset, .unset, .unset, .unset, .unset, .unset, .unset] [(.int (28 : Int32)), (.ref b1), (.ref b1)]))
  refine Go.of (X57.ldc2Long hx hown (mvT hZ (hw _ (List.mem_of_getElem? (i := 29) rfl))) (g := (mkF m 197 #[.val (.int p0), .val (.int p1), .val (.long q2), .second, .unset, .unset, .unset, .unset, .unset, .unset, .unset, .unset, .unset, .unset, .unset] [(.int (28 : Int32)), (.ref b1), (.ref b1)])) rfl (hb hby at_197)) ?_
  show Go p e below s _ _ _ (T57.setTop (mkF m 200 #[.val (.int p0), .val (.int p1), .val (.long q2), .second, .unset, .unset, .unset, .unset, .unset, .unset, .unset, .unset, .unset, .unset, .unset] [(.long (65534 : Int64)), (.int (28 : Int32)), (.ref b1), (.ref b1)]))
  obtain ⟨cl59, Ar59, q59, S59, M59, H59, G59⟩ := id f58
  have hin59 : ¬ ((28 : Int32) < 0 ∨ cl59.slots.size ≤ ((28 : Int32)).toNatClampNeg) := (inb_of S59 ⟨by decide, by decide⟩)
  obtain ⟨T59, h59, X59, e59, W59, st59⟩ := stJ X57 hx hZ e57 Ar59 (j := (28 : Int32)) hin59 (g := (mkF m 200 #[.val (.int p0), .val (.int p1), .val (.long q2), .second, .unset, .unset, .unset, .unset, .unset, .unset, .unset, .unset, .unset, .unset, .unset] [(.long (65534 : Int64)), (.int (28 : Int32)), (.ref b1), (.ref b1)])) rfl rfl (hb hby at_200)
  have f60 : Arv Z h59 b1 k1 .long (32 : Int32) [(.long (-2147483648 : Int64)), (.long (65 : Int64)), (.long (91 : Int64)), (.long (95 : Int64)), (.long (96 : Int64)), (.long (97 : Int64)), (.long (123 : Int64)), (.long (192 : Int64)), (.long (215 : Int64)), (.long (216 : Int64)), (.long (247 : Int64)), (.long (248 : Int64)), (.long (768 : Int64)), (.long (880 : Int64)), (.long (894 : Int64)), (.long (895 : Int64)), (.long (8192 : Int64)), (.long (8204 : Int64)), (.long (8206 : Int64)), (.long (8304 : Int64)), (.long (8592 : Int64)), (.long (11264 : Int64)), (.long (12272 : Int64)), (.long (12289 : Int64)), (.long (55296 : Int64)), (.long (63744 : Int64)), (.long (64976 : Int64)), (.long (65008 : Int64)), (.long (65534 : Int64)), (.long (0 : Int64)), (.long (0 : Int64)), (.long (0 : Int64))] (.long (0 : Int64)) := Arv.set Ar59 q59 S59 M59 H59 G59 rfl W59 28 rfl (Nat.le_of_ble_eq_true rfl)
  have N59 := Fr.snoc X59 N57 g_b1
  have K59 : Keep h0 h59 [] := Keep.wr K57 W59 (Or.inr sz_b1)
  refine Go.of st59 ?_
  show Go p e below s _ _ _ (T59.setTop (mkF m 201 #[.val (.int p0), .val (.int p1), .val (.long q2), .second, .unset, .unset, .unset, .unset, .unset, .unset, .unset, .unset, .unset, .unset, .unset] [(.ref b1)]))
  refine Go.of (fun t k => XS.dup X59.here hx rfl (hb hby at_201) rfl rfl k) ?_
  show Go p e below s _ _ _ (T59.setTop (mkF m 202 #[.val (.int p0), .val (.int p1), .val (.long q2), .second, .unset, .unset, .unset, .unset, .unset, .unset, .unset, .unset, .unset, .unset, .unset] [(.ref b1), (.ref b1)]))
  refine Go.of (fun t k => XS.bipush X59.here hx rfl (hb hby at_202) k) ?_
  show Go p e below s _ _ _ (T59.setTop (mkF m 204 #[.val (.int p0), .val (.int p1), .val (.long q2), .second, .unset, .unset, .unset, .unset, .unset, .unset, .unset, .unset, .unset, .unset, .unset] [(.int (29 : Int32)), (.ref b1), (.ref b1)]))
  refine Go.of (X59.ldc2Long hx hown (mvT hZ (hw _ (List.mem_of_getElem? (i := 30) rfl))) (g := (mkF m 204 #[.val (.int p0), .val (.int p1), .val (.long q2), .second, .unset, .unset, .unset, .unset, .unset, .unset, .unset, .unset, .unset, .unset, .unset] [(.int (29 : Int32)), (.ref b1), (.ref b1)])) rfl (hb hby at_204)) ?_
  show Go p e below s _ _ _ (T59.setTop (mkF m 207 #[.val (.int p0), .val (.int p1), .val (.long q2), .second, .unset, .unset, .unset, .unset, .unset, .unset, .unset, .unset, .unset, .unset, .unset] [(.long (65536 : Int64)), (.int (29 : Int32)), (.ref b1), (.ref b1)]))
  obtain ⟨cl61, Ar61, q61, S61, M61, H61, G61⟩ := id f60
  have hin61 : ¬ ((29 : Int32) < 0 ∨ cl61.slots.size ≤ ((29 : Int32)).toNatClampNeg) := (inb_of S61 ⟨by decide, by decide⟩)
  obtain ⟨T61, h61, X61, e61, W61, st61⟩ := stJ X59 hx hZ e59 Ar61 (j := (29 : Int32)) hin61 (g := (mkF m 207 #[.val (.int p0), .val (.int p1), .val (.long q2), .second, .unset, .unset, .unset, .unset, .unset, .unset, .unset, .unset, .unset, .unset, .unset] [(.long (65536 : Int64)), (.int (29 : Int32)), (.ref b1), (.ref b1)])) rfl rfl (hb hby at_207)
  have f62 : Arv Z h61 b1 k1 .long (32 : Int32) [(.long (-2147483648 : Int64)), (.long (65 : Int64)), (.long (91 : Int64)), (.long (95 : Int64)), (.long (96 : Int64)), (.long (97 : Int64)), (.long (123 : Int64)), (.long (192 : Int64)), (.long (215 : Int64)), (.long (216 : Int64)), (.long (247 : Int64)), (.long (248 : Int64)), (.long (768 : Int64)), (.long (880 : Int64)), (.long (894 : Int64)), (.long (895 : Int64)), (.long (8192 : Int64)), (.long (8204 : Int64)), (.long (8206 : Int64)), (.long (8304 : Int64)), (.long (8592 : Int64)), (.long (11264 : Int64)), (.long (12272 : Int64)), (.long (12289 : Int64)), (.long (55296 : Int64)), (.long (63744 : Int64)), (.long (64976 : Int64)), (.long (65008 : Int64)), (.long (65534 : Int64)), (.long (65536 : Int64)), (.long (0 : Int64)), (.long (0 : Int64))] (.long (0 : Int64)) := Arv.set Ar61 q61 S61 M61 H61 G61 rfl W61 29 rfl (Nat.le_of_ble_eq_true rfl)
  have N61 := Fr.snoc X61 N59 g_b1
  have K61 : Keep h0 h61 [] := Keep.wr K59 W61 (Or.inr sz_b1)
  refine Go.of st61 ?_
  show Go p e below s _ _ _ (T61.setTop (mkF m 208 #[.val (.int p0), .val (.int p1), .val (.long q2), .second, .unset, .unset, .unset, .unset, .unset, .unset, .unset, .unset, .unset, .unset, .unset] [(.ref b1)]))
  refine Go.of (fun t k => XS.dup X61.here hx rfl (hb hby at_208) rfl rfl k) ?_
  show Go p e below s _ _ _ (T61.setTop (mkF m 209 #[.val (.int p0), .val (.int p1), .val (.long q2), .second, .unset, .unset, .unset, .unset, .unset, .unset, .unset, .unset, .unset, .unset, .unset] [(.ref b1), (.ref b1)]))
  refine Go.of (fun t k => XS.bipush X61.here hx rfl (hb hby at_209) k) ?_
  show Go p e below s _ _ _ (T61.setTop (mkF m 211 #[.val (.int p0), .val (.int p1), .val (.long q2), .second, .unset, .unset, .unset, .unset, .unset, .unset, .unset, .unset, .unset, .unset, .unset] [(.int (30 : Int32)), (.ref b1), (.ref b1)]))
  refine Go.of (X61.ldc2Long hx hown (mvT hZ (hw _ (List.mem_of_getElem? (i := 31) rfl))) (g := (mkF m 211 #[.val (.int p0), .val (.int p1), .val (.long q2), .second, .unset, .unset, .unset, .unset, .unset, .unset, .unset, .unset, .unset, .unset, .unset] [(.int (30 : Int32)), (.ref b1), (.ref b1)])) rfl (hb hby at_211)) ?_
  show Go p e below s _ _ _ (T61.setTop (mkF m 214 #[.val (.int p0), .val (.int p1), .val (.long q2), .second, .unset, .unset, .unset, .unset, .unset, .unset, .unset, .unset, .unset, .unset, .unset] [(.long (983040 : Int64)), (.int (30 : Int32)), (.ref b1), (.ref b1)]))
  obtain ⟨cl63, Ar63, q63, S63, M63, H63, G63⟩ := id f62
  have hin63 : ¬ ((30 : Int32) < 0 ∨ cl63.slots.size ≤ ((30 : Int32)).toNatClampNeg) := (inb_of S63 ⟨by decide, by decide⟩)
  obtain ⟨T63, h63, X63, e63, W63, st63⟩ := stJ X61 hx hZ e61 Ar63 (j := (30 : Int32)) hin63 (g := (mkF m 214 #[.val (.int p0), .val (.int p1), .val (.long q2), .second, .unset, .unset, .unset, .unset, .unset, .unset, .unset, .unset, .unset, .unset, .unset] [(.long (983040 : Int64)), (.int (30 : Int32)), (.ref b1), (.ref b1)])) rfl rfl (hb hby at_214)
  have f64 : Arv Z h63 b1 k1 .long (32 : Int32) [(.long (-2147483648 : Int64)), (.long (65 : Int64)), (.long (91 : Int64)), (.long (95 : Int64)), (.long (96 : Int64)), (.long (97 : Int64)), (.long (123 : Int64)), (.long (192 : Int64)), (.long (215 : Int64)), (.long (216 : Int64)), (.long (247 : Int64)), (.long (248 : Int64)), (.long (768 : Int64)), (.long (880 : Int64)), (.long (894 : Int64)), (.long (895 : Int64)), (.long (8192 : Int64)), (.long (8204 : Int64)), (.long (8206 : Int64)), (.long (8304 : Int64)), (.long (8592 : Int64)), (.long (11264 : Int64)), (.long (12272 : Int64)), (.long (12289 : Int64)), (.long (55296 : Int64)), (.long (63744 : Int64)), (.long (64976 : Int64)), (.long (65008 : Int64)), (.long (65534 : Int64)), (.long (65536 : Int64)), (.long (983040 : Int64)), (.long (0 : Int64))] (.long (0 : Int64)) := Arv.set Ar63 q63 S63 M63 H63 G63 rfl W63 30 rfl (Nat.le_of_ble_eq_true rfl)
  have N63 := Fr.snoc X63 N61 g_b1
  have K63 : Keep h0 h63 [] := Keep.wr K61 W63 (Or.inr sz_b1)
  refine Go.of st63 ?_
  show Go p e below s _ _ _ (T63.setTop (mkF m 215 #[.val (.int p0), .val (.int p1), .val (.long q2), .second, .unset, .unset, .unset, .unset, .unset, .unset, .unset, .unset, .unset, .unset, .unset] [(.ref b1)]))
  refine Go.of (fun t k => XS.dup X63.here hx rfl (hb hby at_215) rfl rfl k) ?_
  show Go p e below s _ _ _ (T63.setTop (mkF m 216 #[.val (.int p0), .val (.int p1), .val (.long q2), .second, .unset, .unset, .unset, .unset, .unset, .unset, .unset, .unset, .unset, .unset, .unset] [(.ref b1), (.ref b1)]))
  refine Go.of (fun t k => XS.bipush X63.here hx rfl (hb hby at_216) k) ?_
  show Go p e below s _ _ _ (T63.setTop (mkF m 218 #[.val (.int p0), .val (.int p1), .val (.long q2), .second, .unset, .unset, .unset, .unset, .unset, .unset, .unset, .unset, .unset, .unset, .unset] [(.int (31 : Int32)), (.ref b1), (.ref b1)]))
  refine Go.of (X63.ldc2Long hx hown (mvT hZ (hw _ (List.mem_of_getElem? (i := 32) rfl))) (g := (mkF m 218 #[.val (.int p0), .val (.int p1), .val (.long q2), .second, .unset, .unset, .unset, .unset, .unset, .unset, .unset, .unset, .unset, .unset, .unset] [(.int (31 : Int32)), (.ref b1), (.ref b1)])) rfl (hb hby at_218)) ?_
  show Go p e below s _ _ _ (T63.setTop (mkF m 221 #[.val (.int p0), .val (.int p1), .val (.long q2), .second, .unset, .unset, .unset, .unset, .unset, .unset, .unset, .unset, .unset, .unset, .unset] [(.long (2147483648 : Int64)), (.int (31 : Int32)), (.ref b1), (.ref b1)]))
  obtain ⟨cl65, Ar65, q65, S65, M65, H65, G65⟩ := id f64
  have hin65 : ¬ ((31 : Int32) < 0 ∨ cl65.slots.size ≤ ((31 : Int32)).toNatClampNeg) := (inb_of S65 ⟨by decide, by decide⟩)
  obtain ⟨T65, h65, X65, e65, W65, st65⟩ := stJ X63 hx hZ e63 Ar65 (j := (31 : Int32)) hin65 (g := (mkF m 221 #[.val (.int p0), .val (.int p1), .val (.long q2), .second, .unset, .unset, .unset, .unset, .unset, .unset, .unset, .unset, .unset, .unset, .unset] [(.long (2147483648 : Int64)), (.int (31 : Int32)), (.ref b1), (.ref b1)])) rfl rfl (hb hby at_221)
  have f66 : Arv Z h65 b1 k1 .long (32 : Int32) [(.long (-2147483648 : Int64)), (.long (65 : Int64)), (.long (91 : Int64)), (.long (95 : Int64)), (.long (96 : Int64)), (.long (97 : Int64)), (.long (123 : Int64)), (.long (192 : Int64)), (.long (215 : Int64)), (.long (216 : Int64)), (.long (247 : Int64)), (.long (248 : Int64)), (.long (768 : Int64)), (.long (880 : Int64)), (.long (894 : Int64)), (.long (895 : Int64)), (.long (8192 : Int64)), (.long (8204 : Int64)), (.long (8206 : Int64)), (.long (8304 : Int64)), (.long (8592 : Int64)), (.long (11264 : Int64)), (.long (12272 : Int64)), (.long (12289 : Int64)), (.long (55296 : Int64)), (.long (63744 : Int64)), (.long (64976 : Int64)), (.long (65008 : Int64)), (.long (65534 : Int64)), (.long (65536 : Int64)), (.long (983040 : Int64)), (.long (2147483648 : Int64))] (.long (0 : Int64)) := Arv.set Ar65 q65 S65 M65 H65 G65 rfl W65 31 rfl (Nat.le_of_ble_eq_true rfl)
  have N65 := Fr.snoc X65 N63 g_b1
  have K65 : Keep h0 h65 [] := Keep.wr K63 W65 (Or.inr sz_b1)
  refine Go.of st65 ?_
  show Go p e below s _ _ _ (T65.setTop (mkF m 222 #[.val (.int p0), .val (.int p1), .val (.long q2), .second, .unset, .unset, .unset, .unset, .unset, .unset, .unset, .unset, .unset, .unset, .unset] [(.ref b1)]))
  refine Go.of (fun t k => XS.astore X65.here hx rfl (hb hby at_222) rfl rfl (l' := #[.val (.int p0), .val (.int p1), .val (.long q2), .second, .val (.ref b1), .unset, .unset, .unset, .unset, .unset, .unset, .unset, .unset, .unset, .unset]) rfl k) ?_
  show Go p e below s _ _ _ (T65.setTop (mkF m 224 #[.val (.int p0), .val (.int p1), .val (.long q2), .second, .val (.ref b1), .unset, .unset, .unset, .unset, .unset, .unset, .unset, .unset, .unset, .unset] []))
  refine Go.of (fun t k => XS.iloadN X65.here hx rfl (hb hby at_224) rfl k) ?_
  show Go p e below s _ _ _ (T65.setTop (mkF m 225 #[.val (.int p0), .val (.int p1), .val (.long q2), .second, .val (.ref b1), .unset, .unset, .unset, .unset, .unset, .unset, .unset, .unset, .unset, .unset] [(.int p0)]))
  refine Go.of (X65.ldcInt hx hown (mvT hZ (hw _ (List.mem_of_getElem? (i := 33) rfl))) (g := (mkF m 225 #[.val (.int p0), .val (.int p1), .val (.long q2), .second, .val (.ref b1), .unset, .unset, .unset, .unset, .unset, .unset, .unset, .unset, .unset, .unset] [(.int p0)])) rfl (hb hby at_225)) ?_
  show Go p e below s _ _ _ (T65.setTop (mkF m 227 #[.val (.int p0), .val (.int p1), .val (.long q2), .second, .val (.ref b1), .unset, .unset, .unset, .unset, .unset, .unset, .unset, .unset, .unset, .unset] [(.int (2147483647 : Int32)), (.int p0)]))
  refine Go.of (fun t k => XS.iand X65.here hx rfl (hb hby at_227) rfl k) ?_
  show Go p e below s _ _ _ (T65.setTop (mkF m 228 #[.val (.int p0), .val (.int p1), .val (.long q2), .second, .val (.ref b1), .unset, .unset, .unset, .unset, .unset, .unset, .unset, .unset, .unset, .unset] [(.int (p0 &&& (2147483647 : Int32)))]))
  refine Go.of (fun t k => XS.bipush X65.here hx rfl (hb hby at_228) k) ?_
  show Go p e below s _ _ _ (T65.setTop (mkF m 230 #[.val (.int p0), .val (.int p1), .val (.long q2), .second, .val (.ref b1), .unset, .unset, .unset, .unset, .unset, .unset, .unset, .unset, .unset, .unset] [(.int (31 : Int32)), (.int (p0 &&& (2147483647 : Int32)))]))
  refine Go.of (fun t k => iremM X65 hx rfl (hb hby at_230) rfl (by decide) k) ?_
  show Go p e below s _ _ _ (T65.setTop (mkF m 231 #[.val (.int p0), .val (.int p1), .val (.long q2), .second, .val (.ref b1), .unset, .unset, .unset, .unset, .unset, .unset, .unset, .unset, .unset, .unset] [(.int ((p0 &&& (2147483647 : Int32)) % (31 : Int32)))]))
  refine Go.of (fun t k => XS.istore X65.here hx rfl (hb hby at_231) rfl (l' := #[.val (.int p0), .val (.int p1), .val (.long q2), .second, .val (.ref b1), .val (.int ((p0 &&& (2147483647 : Int32)) % (31 : Int32))), .unset, .unset, .unset, .unset, .unset, .unset, .unset, .unset, .unset]) rfl k) ?_
  show Go p e below s _ _ _ (T65.setTop (mkF m 233 #[.val (.int p0), .val (.int p1), .val (.long q2), .second, .val (.ref b1), .val (.int ((p0 &&& (2147483647 : Int32)) % (31 : Int32))), .unset, .unset, .unset, .unset, .unset, .unset, .unset, .unset, .unset] []))
  have jn233c : ∀ (v5_233c : Int32) (hk_233c : ¬ (v5_233c < 0) ∧ v5_233c < 31), Go p e below s (QL (some (.int (F0_233c p1 q2 v5_233c))) n0) room_1.cells room_1.slots (T65.setTop (mkF m 233 #[.val (.int p0), .val (.int p1), .val (.long q2), .second, .val (.ref b1), .val (.int v5_233c), .unset, .unset, .unset, .unset, .unset, .unset, .unset, .unset, .unset] [])) := by
    intro v5_233c hk_233c
    unfold F0_233c
    refine Go.of (fun t k => XS.aload X65.here hx rfl (hb hby at_233) rfl rfl k) ?_
    show Go p e below s _ _ _ (T65.setTop (mkF m 235 #[.val (.int p0), .val (.int p1), .val (.long q2), .second, .val (.ref b1), .val (.int v5_233c), .unset, .unset, .unset, .unset, .unset, .unset, .unset, .unset, .unset] [(.ref b1)]))
    refine Go.of (fun t k => XS.iload X65.here hx rfl (hb hby at_235) rfl k) ?_
    show Go p e below s _ _ _ (T65.setTop (mkF m 237 #[.val (.int p0), .val (.int p1), .val (.long q2), .second, .val (.ref b1), .val (.int v5_233c), .unset, .unset, .unset, .unset, .unset, .unset, .unset, .unset, .unset] [(.int v5_233c), (.ref b1)]))
    obtain ⟨cl67, Ar67, q67, S67, M67, H67, G67⟩ := id f66
    have hin67 : ¬ (v5_233c < 0 ∨ cl67.slots.size ≤ (v5_233c).toNatClampNeg) := (inb_of S67 ⟨hk_233c.1, own_lt hk_233c⟩)
    refine Go.of (X65.laload hx (j := v5_233c) (v := (.long (own_tab v5_233c))) (by rw [e65]; exact Ar67.1) (State.isArrayOf_alike hZ.alike Ar67.2.1) Ar67.2.2 hin67 (Has.at H67 hin67 (own_getD own_L _)) (g := (mkF m 237 #[.val (.int p0), .val (.int p1), .val (.long q2), .second, .val (.ref b1), .val (.int v5_233c), .unset, .unset, .unset, .unset, .unset, .unset, .unset, .unset, .unset] [(.int v5_233c), (.ref b1)])) rfl rfl (hb hby at_237)) ?_
    show Go p e below s _ _ _ (T65.setTop (mkF m 238 #[.val (.int p0), .val (.int p1), .val (.long q2), .second, .val (.ref b1), .val (.int v5_233c), .unset, .unset, .unset, .unset, .unset, .unset, .unset, .unset, .unset] [(.long (own_tab v5_233c))]))
    refine Go.of (fun t k => XS.lstore X65.here hx rfl (hb hby at_238) rfl (l' := #[.val (.int p0), .val (.int p1), .val (.long q2), .second, .val (.ref b1), .val (.int v5_233c), .val (.long (own_tab v5_233c)), .second, .unset, .unset, .unset, .unset, .unset, .unset, .unset]) rfl k) ?_
    show Go p e below s _ _ _ (T65.setTop (mkF m 240 #[.val (.int p0), .val (.int p1), .val (.long q2), .second, .val (.ref b1), .val (.int v5_233c), .val (.long (own_tab v5_233c)), .second, .unset, .unset, .unset, .unset, .unset, .unset, .unset] []))
    refine Go.of (fun t k => XS.aload X65.here hx rfl (hb hby at_240) rfl rfl k) ?_
    show Go p e below s _ _ _ (T65.setTop (mkF m 242 #[.val (.int p0), .val (.int p1), .val (.long q2), .second, .val (.ref b1), .val (.int v5_233c), .val (.long (own_tab v5_233c)), .second, .unset, .unset, .unset, .unset, .unset, .unset, .unset] [(.ref b1)]))
    refine Go.of (fun t k => XS.iload X65.here hx rfl (hb hby at_242) rfl k) ?_
    show Go p e below s _ _ _ (T65.setTop (mkF m 244 #[.val (.int p0), .val (.int p1), .val (.long q2), .second, .val (.ref b1), .val (.int v5_233c), .val (.long (own_tab v5_233c)), .second, .unset, .unset, .unset, .unset, .unset, .unset, .unset] [(.int v5_233c), (.ref b1)]))
    refine Go.of (fun t k => XS.iconst X65.here hx rfl (hb hby at_244) k) ?_
    show Go p e below s _ _ _ (T65.setTop (mkF m 245 #[.val (.int p0), .val (.int p1), .val (.long q2), .second, .val (.ref b1), .val (.int v5_233c), .val (.long (own_tab v5_233c)), .second, .unset, .unset, .unset, .unset, .unset, .unset, .unset] [(.int (1 : Int32)), (.int v5_233c), (.ref b1)]))
    refine Go.of (fun t k => XS.iadd X65.here hx rfl (hb hby at_245) rfl k) ?_
    show Go p e below s _ _ _ (T65.setTop (mkF m 246 #[.val (.int p0), .val (.int p1), .val (.long q2), .second, .val (.ref b1), .val (.int v5_233c), .val (.long (own_tab v5_233c)), .second, .unset, .unset, .unset, .unset, .unset, .unset, .unset] [(.int (v5_233c + (1 : Int32))), (.ref b1)]))
    obtain ⟨cl68, Ar68, q68, S68, M68, H68, G68⟩ := id f66
    have hin68 : ¬ ((v5_233c + (1 : Int32)) < 0 ∨ cl68.slots.size ≤ ((v5_233c + (1 : Int32))).toNatClampNeg) := (inb_of S68 ⟨own_k0 hk_233c, own_k1 hk_233c⟩)
    refine Go.of (X65.laload hx (j := (v5_233c + (1 : Int32))) (v := (.long (own_tab (v5_233c + (1 : Int32))))) (by rw [e65]; exact Ar68.1) (State.isArrayOf_alike hZ.alike Ar68.2.1) Ar68.2.2 hin68 (Has.at H68 hin68 (own_getD own_L _)) (g := (mkF m 246 #[.val (.int p0), .val (.int p1), .val (.long q2), .second, .val (.ref b1), .val (.int v5_233c), .val (.long (own_tab v5_233c)), .second, .unset, .unset, .unset, .unset, .unset, .unset, .unset] [(.int (v5_233c + (1 : Int32))), (.ref b1)])) rfl rfl (hb hby at_246)) ?_
    show Go p e below s _ _ _ (T65.setTop (mkF m 247 #[.val (.int p0), .val (.int p1), .val (.long q2), .second, .val (.ref b1), .val (.int v5_233c), .val (.long (own_tab v5_233c)), .second, .unset, .unset, .unset, .unset, .unset, .unset, .unset] [(.long (own_tab (v5_233c + (1 : Int32))))]))
    refine Go.of (fun t k => XS.lload X65.here hx rfl (hb hby at_247) rfl k) ?_
    show Go p e below s _ _ _ (T65.setTop (mkF m 249 #[.val (.int p0), .val (.int p1), .val (.long q2), .second, .val (.ref b1), .val (.int v5_233c), .val (.long (own_tab v5_233c)), .second, .unset, .unset, .unset, .unset, .unset, .unset, .unset] [(.long (own_tab v5_233c)), (.long (own_tab (v5_233c + (1 : Int32))))]))
    refine Go.of (fun t k => XS.lsub X65.here hx rfl (hb hby at_249) rfl k) ?_
    show Go p e below s _ _ _ (T65.setTop (mkF m 250 #[.val (.int p0), .val (.int p1), .val (.long q2), .second, .val (.ref b1), .val (.int v5_233c), .val (.long (own_tab v5_233c)), .second, .unset, .unset, .unset, .unset, .unset, .unset, .unset] [(.long ((own_tab (v5_233c + (1 : Int32))) - (own_tab v5_233c)))]))
    refine Go.of (fun t k => XS.lstore X65.here hx rfl (hb hby at_250) rfl (l' := #[.val (.int p0), .val (.int p1), .val (.long q2), .second, .val (.ref b1), .val (.int v5_233c), .val (.long (own_tab v5_233c)), .second, .val (.long ((own_tab (v5_233c + (1 : Int32))) - (own_tab v5_233c))), .second, .unset, .unset, .unset, .unset, .unset]) rfl k) ?_
    show Go p e below s _ _ _ (T65.setTop (mkF m 252 #[.val (.int p0), .val (.int p1), .val (.long q2), .second, .val (.ref b1), .val (.int v5_233c), .val (.long (own_tab v5_233c)), .second, .val (.long ((own_tab (v5_233c + (1 : Int32))) - (own_tab v5_233c))), .second, .unset, .unset, .unset, .unset, .unset] []))
    refine Go.of (fun t k => XS.iloadN X65.here hx rfl (hb hby at_252) rfl k) ?_
    show Go p e below s _ _ _ (T65.setTop (mkF m 253 #[.val (.int p0), .val (.int p1), .val (.long q2), .second, .val (.ref b1), .val (.int v5_233c), .val (.long (own_tab v5_233c)), .second, .val (.long ((own_tab (v5_233c + (1 : Int32))) - (own_tab v5_233c))), .second, .unset, .unset, .unset, .unset, .unset] [(.int p1)]))
    refine Go.of (fun t k => XS.iconst X65.here hx rfl (hb hby at_253) k) ?_
    show Go p e below s _ _ _ (T65.setTop (mkF m 254 #[.val (.int p0), .val (.int p1), .val (.long q2), .second, .val (.ref b1), .val (.int v5_233c), .val (.long (own_tab v5_233c)), .second, .val (.long ((own_tab (v5_233c + (1 : Int32))) - (own_tab v5_233c))), .second, .unset, .unset, .unset, .unset, .unset] [(.int (3 : Int32)), (.int p1)]))
    refine Go.of (fun t k => XS.iand X65.here hx rfl (hb hby at_254) rfl k) ?_
    show Go p e below s _ _ _ (T65.setTop (mkF m 255 #[.val (.int p0), .val (.int p1), .val (.long q2), .second, .val (.ref b1), .val (.int v5_233c), .val (.long (own_tab v5_233c)), .second, .val (.long ((own_tab (v5_233c + (1 : Int32))) - (own_tab v5_233c))), .second, .unset, .unset, .unset, .unset, .unset] [(.int (p1 &&& (3 : Int32)))]))
    refine Go.of (fun t k => XS.istore X65.here hx rfl (hb hby at_255) rfl (l' := #[.val (.int p0), .val (.int p1), .val (.long q2), .second, .val (.ref b1), .val (.int v5_233c), .val (.long (own_tab v5_233c)), .second, .val (.long ((own_tab (v5_233c + (1 : Int32))) - (own_tab v5_233c))), .second, .val (.int (p1 &&& (3 : Int32))), .unset, .unset, .unset, .unset]) rfl k) ?_
    show Go p e below s _ _ _ (T65.setTop (mkF m 257 #[.val (.int p0), .val (.int p1), .val (.long q2), .second, .val (.ref b1), .val (.int v5_233c), .val (.long (own_tab v5_233c)), .second, .val (.long ((own_tab (v5_233c + (1 : Int32))) - (own_tab v5_233c))), .second, .val (.int (p1 &&& (3 : Int32))), .unset, .unset, .unset, .unset] []))
    refine Go.of (fun t k => XS.iload X65.here hx rfl (hb hby at_257) rfl k) ?_
    show Go p e below s _ _ _ (T65.setTop (mkF m 259 #[.val (.int p0), .val (.int p1), .val (.long q2), .second, .val (.ref b1), .val (.int v5_233c), .val (.long (own_tab v5_233c)), .second, .val (.long ((own_tab (v5_233c + (1 : Int32))) - (own_tab v5_233c))), .second, .val (.int (p1 &&& (3 : Int32))), .unset, .unset, .unset, .unset] [(.int (p1 &&& (3 : Int32)))]))
    have jn293 : ∀ (v11_293 : Int64) (T_293 : State) (l_293 : List Loc) (X_293 : Stand p l e room_1 s m #[(.int p0), (.int p1), (.long q2)] below meth c T_293 l_293 1 32) (e_293 : T_293.heap = h65) (N_293 : Fr n0 l_293), Go p e below s (QL (some (.int (F0_293 v5_233c v11_293))) n0) room_1.cells room_1.slots (T_293.setTop (mkF m 293 #[.val (.int p0), .val (.int p1), .val (.long q2), .second, .val (.ref b1), .val (.int v5_233c), .val (.long (own_tab v5_233c)), .second, .val (.long ((own_tab (v5_233c + (1 : Int32))) - (own_tab v5_233c))), .second, .val (.int (p1 &&& (3 : Int32))), .val (.long v11_293), .second, .unset, .unset] [])) := by
      intro v11_293 T_293 l_293 X_293 e_293 N_293
      unfold F0_293
      refine Go.of (fun t k => XS.lload X_293.here hx rfl (hb hby at_293) rfl k) ?_
      show Go p e below s _ _ _ (T_293.setTop (mkF m 295 #[.val (.int p0), .val (.int p1), .val (.long q2), .second, .val (.ref b1), .val (.int v5_233c), .val (.long (own_tab v5_233c)), .second, .val (.long ((own_tab (v5_233c + (1 : Int32))) - (own_tab v5_233c))), .second, .val (.int (p1 &&& (3 : Int32))), .val (.long v11_293), .second, .unset, .unset] [(.long (own_tab v5_233c))]))
      refine Go.of (fun t k => XS.lload X_293.here hx rfl (hb hby at_295) rfl k) ?_
      show Go p e below s _ _ _ (T_293.setTop (mkF m 297 #[.val (.int p0), .val (.int p1), .val (.long q2), .second, .val (.ref b1), .val (.int v5_233c), .val (.long (own_tab v5_233c)), .second, .val (.long ((own_tab (v5_233c + (1 : Int32))) - (own_tab v5_233c))), .second, .val (.int (p1 &&& (3 : Int32))), .val (.long v11_293), .second, .unset, .unset] [(.long v11_293), (.long (own_tab v5_233c))]))
      refine Go.of (fun t k => XS.ladd X_293.here hx rfl (hb hby at_297) rfl k) ?_
      show Go p e below s _ _ _ (T_293.setTop (mkF m 298 #[.val (.int p0), .val (.int p1), .val (.long q2), .second, .val (.ref b1), .val (.int v5_233c), .val (.long (own_tab v5_233c)), .second, .val (.long ((own_tab (v5_233c + (1 : Int32))) - (own_tab v5_233c))), .second, .val (.int (p1 &&& (3 : Int32))), .val (.long v11_293), .second, .unset, .unset] [(.long ((own_tab v5_233c) + v11_293))]))
      refine Go.of (fun t k => XS.l2i X_293.here hx rfl (hb hby at_298) rfl k) ?_
      show Go p e below s _ _ _ (T_293.setTop (mkF m 299 #[.val (.int p0), .val (.int p1), .val (.long q2), .second, .val (.ref b1), .val (.int v5_233c), .val (.long (own_tab v5_233c)), .second, .val (.long ((own_tab (v5_233c + (1 : Int32))) - (own_tab v5_233c))), .second, .val (.int (p1 &&& (3 : Int32))), .val (.long v11_293), .second, .unset, .unset] [(.int (((own_tab v5_233c) + v11_293).toInt32))]))
      refine Go.of (fun t k => XS.istore X_293.here hx rfl (hb hby at_299) rfl (l' := #[.val (.int p0), .val (.int p1), .val (.long q2), .second, .val (.ref b1), .val (.int v5_233c), .val (.long (own_tab v5_233c)), .second, .val (.long ((own_tab (v5_233c + (1 : Int32))) - (own_tab v5_233c))), .second, .val (.int (p1 &&& (3 : Int32))), .val (.long v11_293), .second, .val (.int (((own_tab v5_233c) + v11_293).toInt32)), .unset]) rfl k) ?_
      show Go p e below s _ _ _ (T_293.setTop (mkF m 301 #[.val (.int p0), .val (.int p1), .val (.long q2), .second, .val (.ref b1), .val (.int v5_233c), .val (.long (own_tab v5_233c)), .second, .val (.long ((own_tab (v5_233c + (1 : Int32))) - (own_tab v5_233c))), .second, .val (.int (p1 &&& (3 : Int32))), .val (.long v11_293), .second, .val (.int (((own_tab v5_233c) + v11_293).toInt32)), .unset] []))
      refine Go.of (fun t k => XS.iload X_293.here hx rfl (hb hby at_301) rfl k) ?_
      show Go p e below s _ _ _ (T_293.setTop (mkF m 303 #[.val (.int p0), .val (.int p1), .val (.long q2), .second, .val (.ref b1), .val (.int v5_233c), .val (.long (own_tab v5_233c)), .second, .val (.long ((own_tab (v5_233c + (1 : Int32))) - (own_tab v5_233c))), .second, .val (.int (p1 &&& (3 : Int32))), .val (.long v11_293), .second, .val (.int (((own_tab v5_233c) + v11_293).toInt32)), .unset] [(.int v5_233c)]))
      refine Go.of (fun t k => XS.iconst X_293.here hx rfl (hb hby at_303) k) ?_
      show Go p e below s _ _ _ (T_293.setTop (mkF m 304 #[.val (.int p0), .val (.int p1), .val (.long q2), .second, .val (.ref b1), .val (.int v5_233c), .val (.long (own_tab v5_233c)), .second, .val (.long ((own_tab (v5_233c + (1 : Int32))) - (own_tab v5_233c))), .second, .val (.int (p1 &&& (3 : Int32))), .val (.long v11_293), .second, .val (.int (((own_tab v5_233c) + v11_293).toInt32)), .unset] [(.int (1 : Int32)), (.int v5_233c)]))
      refine Go.of (fun t k => XS.iand X_293.here hx rfl (hb hby at_304) rfl k) ?_
      show Go p e below s _ _ _ (T_293.setTop (mkF m 305 #[.val (.int p0), .val (.int p1), .val (.long q2), .second, .val (.ref b1), .val (.int v5_233c), .val (.long (own_tab v5_233c)), .second, .val (.long ((own_tab (v5_233c + (1 : Int32))) - (own_tab v5_233c))), .second, .val (.int (p1 &&& (3 : Int32))), .val (.long v11_293), .second, .val (.int (((own_tab v5_233c) + v11_293).toInt32)), .unset] [(.int (v5_233c &&& (1 : Int32)))]))
      refine Go.of (fun t k => XS.iconst X_293.here hx rfl (hb hby at_305) k) ?_
      show Go p e below s _ _ _ (T_293.setTop (mkF m 306 #[.val (.int p0), .val (.int p1), .val (.long q2), .second, .val (.ref b1), .val (.int v5_233c), .val (.long (own_tab v5_233c)), .second, .val (.long ((own_tab (v5_233c + (1 : Int32))) - (own_tab v5_233c))), .second, .val (.int (p1 &&& (3 : Int32))), .val (.long v11_293), .second, .val (.int (((own_tab v5_233c) + v11_293).toInt32)), .unset] [(.int (1 : Int32)), (.int (v5_233c &&& (1 : Int32)))]))
      have jn314 : ∀ (w0_314 : Int32) (T_314 : State) (l_314 : List Loc) (X_314 : Stand p l e room_1 s m #[(.int p0), (.int p1), (.long q2)] below meth c T_314 l_314 1 32) (e_314 : T_314.heap = h65) (N_314 : Fr n0 l_314), Go p e below s (QL (some (.int (F0_314 v5_233c v11_293 w0_314))) n0) room_1.cells room_1.slots (T_314.setTop (mkF m 314 #[.val (.int p0), .val (.int p1), .val (.long q2), .second, .val (.ref b1), .val (.int v5_233c), .val (.long (own_tab v5_233c)), .second, .val (.long ((own_tab (v5_233c + (1 : Int32))) - (own_tab v5_233c))), .second, .val (.int (p1 &&& (3 : Int32))), .val (.long v11_293), .second, .val (.int (((own_tab v5_233c) + v11_293).toInt32)), .unset] [(.int w0_314)])) := by
        intro w0_314 T_314 l_314 X_314 e_314 N_314
        unfold F0_314
        refine Go.of (fun t k => XS.istore X_314.here hx rfl (hb hby at_314) rfl (l' := #[.val (.int p0), .val (.int p1), .val (.long q2), .second, .val (.ref b1), .val (.int v5_233c), .val (.long (own_tab v5_233c)), .second, .val (.long ((own_tab (v5_233c + (1 : Int32))) - (own_tab v5_233c))), .second, .val (.int (p1 &&& (3 : Int32))), .val (.long v11_293), .second, .val (.int (((own_tab v5_233c) + v11_293).toInt32)), .val (.int w0_314)]) rfl k) ?_
        show Go p e below s _ _ _ (T_314.setTop (mkF m 316 #[.val (.int p0), .val (.int p1), .val (.long q2), .second, .val (.ref b1), .val (.int v5_233c), .val (.long (own_tab v5_233c)), .second, .val (.long ((own_tab (v5_233c + (1 : Int32))) - (own_tab v5_233c))), .second, .val (.int (p1 &&& (3 : Int32))), .val (.long v11_293), .second, .val (.int (((own_tab v5_233c) + v11_293).toInt32)), .val (.int w0_314)] []))
        refine Go.of (fun t k => XS.iload X_314.here hx rfl (hb hby at_316) rfl k) ?_
        show Go p e below s _ _ _ (T_314.setTop (mkF m 318 #[.val (.int p0), .val (.int p1), .val (.long q2), .second, .val (.ref b1), .val (.int v5_233c), .val (.long (own_tab v5_233c)), .second, .val (.long ((own_tab (v5_233c + (1 : Int32))) - (own_tab v5_233c))), .second, .val (.int (p1 &&& (3 : Int32))), .val (.long v11_293), .second, .val (.int (((own_tab v5_233c) + v11_293).toInt32)), .val (.int w0_314)] [(.int (((own_tab v5_233c) + v11_293).toInt32))]))
        obtain ⟨_, _, ⟨T69, L69, k69, n69⟩, -, X69, ⟨Lc69, hQ69, l69, y69, z69⟩, st69⟩ := Jvm.LawKit.callS X_314 hx (y := (⟨"com/example/susurrus/susurrus/XmlNames", "isNameStart", "(I)Z"⟩ : MethodName)) hown (mvT hZ (hw _ (List.mem_of_getElem? (i := 35) rfl))) (mvT hZ (hw _ (List.mem_of_getElem? (i := 36) rfl))) (mvT hZ (hw _ (List.mem_of_getElem? (i := 37) rfl))) (mvT hZ (hw _ (List.mem_of_getElem? (i := 38) rfl))) (by decide) (backOf (W := 0) (rm1 l Z az hw [] (((own_tab v5_233c) + v11_293).toInt32) h65 n0 (Nat.le_trans Z0 K65.1)) hZ (hw _ (List.mem_of_getElem? (i := 38) rfl)) (hw _ (List.mem_of_getElem? (i := 37) rfl)) (by decide) (by decide)) (g := (mkF m 318 #[.val (.int p0), .val (.int p1), .val (.long q2), .second, .val (.ref b1), .val (.int v5_233c), .val (.long (own_tab v5_233c)), .second, .val (.long ((own_tab (v5_233c + (1 : Int32))) - (own_tab v5_233c))), .second, .val (.int (p1 &&& (3 : Int32))), .val (.long v11_293), .second, .val (.int (((own_tab v5_233c) + v11_293).toInt32)), .val (.int w0_314)] [(.int (((own_tab v5_233c) + v11_293).toInt32))])) rfl (by rw [hml]; rfl) (argsL := [(.int (((own_tab v5_233c) + v11_293).toInt32))]) (rest := []) (lenOf own_pd0 rfl) rfl (by show 2 * 0 + _ ≤ _; exact Nat.le_of_eq rfl) (hb hby at_318) (fun _ _ => ⟨rfl, e_314, (by decide : 1 + 0 ≤ _), (by decide : 32 + 0 ≤ _)⟩)
        dsimp only [Pt.U, Pt.locs, Pt.cells, Pt.slots] at X69 l69 y69 z69 st69 hQ69
        subst l69 y69 z69
        obtain ⟨rfl, N69q, e69⟩ := hQ69
        have N69 := Fr.app N_314 N69q
        refine Go.of st69 ?_
        show Go p e below s _ _ _ (T69.setTop (mkF m 321 #[.val (.int p0), .val (.int p1), .val (.long q2), .second, .val (.ref b1), .val (.int v5_233c), .val (.long (own_tab v5_233c)), .second, .val (.long ((own_tab (v5_233c + (1 : Int32))) - (own_tab v5_233c))), .second, .val (.int (p1 &&& (3 : Int32))), .val (.long v11_293), .second, .val (.int (((own_tab v5_233c) + v11_293).toInt32)), .val (.int w0_314)] [(.int (F1 (((own_tab v5_233c) + v11_293).toInt32)))]))
        refine Go.of (fun t k => XS.iload X69.here hx rfl (hb hby at_321) rfl k) ?_
        show Go p e below s _ _ _ (T69.setTop (mkF m 323 #[.val (.int p0), .val (.int p1), .val (.long q2), .second, .val (.ref b1), .val (.int v5_233c), .val (.long (own_tab v5_233c)), .second, .val (.long ((own_tab (v5_233c + (1 : Int32))) - (own_tab v5_233c))), .second, .val (.int (p1 &&& (3 : Int32))), .val (.long v11_293), .second, .val (.int (((own_tab v5_233c) + v11_293).toInt32)), .val (.int w0_314)] [(.int w0_314), (.int (F1 (((own_tab v5_233c) + v11_293).toInt32)))]))
        by_cases hc323_70 : (F1 (((own_tab v5_233c) + v11_293).toInt32)) = w0_314
        · rewrite [if_pos hc323_70]
          refine Go.of (fun t k => XS.icmpNo X69.here hx rfl (hb hby at_323) rfl (teq hc323_70).2 k) ?_
          show Go p e below s _ _ _ (T69.setTop (mkF m 326 #[.val (.int p0), .val (.int p1), .val (.long q2), .second, .val (.ref b1), .val (.int v5_233c), .val (.long (own_tab v5_233c)), .second, .val (.long ((own_tab (v5_233c + (1 : Int32))) - (own_tab v5_233c))), .second, .val (.int (p1 &&& (3 : Int32))), .val (.long v11_293), .second, .val (.int (((own_tab v5_233c) + v11_293).toInt32)), .val (.int w0_314)] []))
          refine Go.of (fun t k => XS.iconst X69.here hx rfl (hb hby at_326) k) ?_
          show Go p e below s _ _ _ (T69.setTop (mkF m 327 #[.val (.int p0), .val (.int p1), .val (.long q2), .second, .val (.ref b1), .val (.int v5_233c), .val (.long (own_tab v5_233c)), .second, .val (.long ((own_tab (v5_233c + (1 : Int32))) - (own_tab v5_233c))), .second, .val (.int (p1 &&& (3 : Int32))), .val (.long v11_293), .second, .val (.int (((own_tab v5_233c) + v11_293).toInt32)), .val (.int w0_314)] [(.int (1 : Int32))]))
          refine Go.of (fun t k => XS.goto X69.here hx rfl (pc0 := 327) (pc' := 331) rfl (hb hby at_327) (by decide) (by decide) k) ?_
          show Go p e below s _ _ _ (T69.setTop (mkF m 331 #[.val (.int p0), .val (.int p1), .val (.long q2), .second, .val (.ref b1), .val (.int v5_233c), .val (.long (own_tab v5_233c)), .second, .val (.long ((own_tab (v5_233c + (1 : Int32))) - (own_tab v5_233c))), .second, .val (.int (p1 &&& (3 : Int32))), .val (.long v11_293), .second, .val (.int (((own_tab v5_233c) + v11_293).toInt32)), .val (.int w0_314)] [(.int (1 : Int32))]))
          exact Go.ret X69 (some (.int (1 : Int32))) (fun h => by rw [Bd.returns] at h; cases h) hlk ⟨rfl, N69⟩ (by decide) (by decide) (fun fs hr => (retN X69 hx (t := .boolean) Bd.returns (by simp) (hb hby at_331) hr))
        · rewrite [if_neg hc323_70]
          refine Go.of (fun t k => XS.icmpYes X69.here hx rfl (pc0 := 323) (pc' := 330) rfl (hb hby at_323) rfl (feq hc323_70).2 (by decide) (by decide) k) ?_
          show Go p e below s _ _ _ (T69.setTop (mkF m 330 #[.val (.int p0), .val (.int p1), .val (.long q2), .second, .val (.ref b1), .val (.int v5_233c), .val (.long (own_tab v5_233c)), .second, .val (.long ((own_tab (v5_233c + (1 : Int32))) - (own_tab v5_233c))), .second, .val (.int (p1 &&& (3 : Int32))), .val (.long v11_293), .second, .val (.int (((own_tab v5_233c) + v11_293).toInt32)), .val (.int w0_314)] []))
          refine Go.of (fun t k => XS.iconst X69.here hx rfl (hb hby at_330) k) ?_
          show Go p e below s _ _ _ (T69.setTop (mkF m 331 #[.val (.int p0), .val (.int p1), .val (.long q2), .second, .val (.ref b1), .val (.int v5_233c), .val (.long (own_tab v5_233c)), .second, .val (.long ((own_tab (v5_233c + (1 : Int32))) - (own_tab v5_233c))), .second, .val (.int (p1 &&& (3 : Int32))), .val (.long v11_293), .second, .val (.int (((own_tab v5_233c) + v11_293).toInt32)), .val (.int w0_314)] [(.int (0 : Int32))]))
          exact Go.ret X69 (some (.int (0 : Int32))) (fun h => by rw [Bd.returns] at h; cases h) hlk ⟨rfl, N69⟩ (by decide) (by decide) (fun fs hr => (retN X69 hx (t := .boolean) Bd.returns (by simp) (hb hby at_331) hr))
      by_cases hc306_71 : (v5_233c &&& (1 : Int32)) = (1 : Int32)
      · rewrite [if_pos hc306_71]
        refine Go.of (fun t k => XS.icmpNo X_293.here hx rfl (hb hby at_306) rfl (teq hc306_71).2 k) ?_
        show Go p e below s _ _ _ (T_293.setTop (mkF m 309 #[.val (.int p0), .val (.int p1), .val (.long q2), .second, .val (.ref b1), .val (.int v5_233c), .val (.long (own_tab v5_233c)), .second, .val (.long ((own_tab (v5_233c + (1 : Int32))) - (own_tab v5_233c))), .second, .val (.int (p1 &&& (3 : Int32))), .val (.long v11_293), .second, .val (.int (((own_tab v5_233c) + v11_293).toInt32)), .unset] []))
        refine Go.of (fun t k => XS.iconst X_293.here hx rfl (hb hby at_309) k) ?_
        show Go p e below s _ _ _ (T_293.setTop (mkF m 310 #[.val (.int p0), .val (.int p1), .val (.long q2), .second, .val (.ref b1), .val (.int v5_233c), .val (.long (own_tab v5_233c)), .second, .val (.long ((own_tab (v5_233c + (1 : Int32))) - (own_tab v5_233c))), .second, .val (.int (p1 &&& (3 : Int32))), .val (.long v11_293), .second, .val (.int (((own_tab v5_233c) + v11_293).toInt32)), .unset] [(.int (1 : Int32))]))
        refine Go.of (fun t k => XS.goto X_293.here hx rfl (pc0 := 310) (pc' := 314) rfl (hb hby at_310) (by decide) (by decide) k) ?_
        show Go p e below s _ _ _ (T_293.setTop (mkF m 314 #[.val (.int p0), .val (.int p1), .val (.long q2), .second, .val (.ref b1), .val (.int v5_233c), .val (.long (own_tab v5_233c)), .second, .val (.long ((own_tab (v5_233c + (1 : Int32))) - (own_tab v5_233c))), .second, .val (.int (p1 &&& (3 : Int32))), .val (.long v11_293), .second, .val (.int (((own_tab v5_233c) + v11_293).toInt32)), .unset] [(.int (1 : Int32))]))
        exact jn314 (1 : Int32)  T_293 _ X_293 e_293 N_293  
      · rewrite [if_neg hc306_71]
        refine Go.of (fun t k => XS.icmpYes X_293.here hx rfl (pc0 := 306) (pc' := 313) rfl (hb hby at_306) rfl (feq hc306_71).2 (by decide) (by decide) k) ?_
        show Go p e below s _ _ _ (T_293.setTop (mkF m 313 #[.val (.int p0), .val (.int p1), .val (.long q2), .second, .val (.ref b1), .val (.int v5_233c), .val (.long (own_tab v5_233c)), .second, .val (.long ((own_tab (v5_233c + (1 : Int32))) - (own_tab v5_233c))), .second, .val (.int (p1 &&& (3 : Int32))), .val (.long v11_293), .second, .val (.int (((own_tab v5_233c) + v11_293).toInt32)), .unset] []))
        refine Go.of (fun t k => XS.iconst X_293.here hx rfl (hb hby at_313) k) ?_
        show Go p e below s _ _ _ (T_293.setTop (mkF m 314 #[.val (.int p0), .val (.int p1), .val (.long q2), .second, .val (.ref b1), .val (.int v5_233c), .val (.long (own_tab v5_233c)), .second, .val (.long ((own_tab (v5_233c + (1 : Int32))) - (own_tab v5_233c))), .second, .val (.int (p1 &&& (3 : Int32))), .val (.long v11_293), .second, .val (.int (((own_tab v5_233c) + v11_293).toInt32)), .unset] [(.int (0 : Int32))]))
        exact jn314 (0 : Int32)  T_293 _ X_293 e_293 N_293  
    by_cases hc259_72 : (p1 &&& (3 : Int32)) = (0 : Int32)
    · rewrite [if_pos hc259_72]
      refine Go.of (fun t k => XS.ifNo X65.here hx rfl (hb hby at_259) rfl ((if0 _ _).trans (teq hc259_72).2) k) ?_
      show Go p e below s _ _ _ (T65.setTop (mkF m 262 #[.val (.int p0), .val (.int p1), .val (.long q2), .second, .val (.ref b1), .val (.int v5_233c), .val (.long (own_tab v5_233c)), .second, .val (.long ((own_tab (v5_233c + (1 : Int32))) - (own_tab v5_233c))), .second, .val (.int (p1 &&& (3 : Int32))), .unset, .unset, .unset, .unset] []))
      refine Go.of (fun t k => XS.lconst X65.here hx rfl (hb hby at_262) k) ?_
      show Go p e below s _ _ _ (T65.setTop (mkF m 263 #[.val (.int p0), .val (.int p1), .val (.long q2), .second, .val (.ref b1), .val (.int v5_233c), .val (.long (own_tab v5_233c)), .second, .val (.long ((own_tab (v5_233c + (1 : Int32))) - (own_tab v5_233c))), .second, .val (.int (p1 &&& (3 : Int32))), .unset, .unset, .unset, .unset] [(.long (0 : Int64))]))
      refine Go.of (fun t k => XS.lstore X65.here hx rfl (hb hby at_263) rfl (l' := #[.val (.int p0), .val (.int p1), .val (.long q2), .second, .val (.ref b1), .val (.int v5_233c), .val (.long (own_tab v5_233c)), .second, .val (.long ((own_tab (v5_233c + (1 : Int32))) - (own_tab v5_233c))), .second, .val (.int (p1 &&& (3 : Int32))), .val (.long (0 : Int64)), .second, .unset, .unset]) rfl k) ?_
      show Go p e below s _ _ _ (T65.setTop (mkF m 265 #[.val (.int p0), .val (.int p1), .val (.long q2), .second, .val (.ref b1), .val (.int v5_233c), .val (.long (own_tab v5_233c)), .second, .val (.long ((own_tab (v5_233c + (1 : Int32))) - (own_tab v5_233c))), .second, .val (.int (p1 &&& (3 : Int32))), .val (.long (0 : Int64)), .second, .unset, .unset] []))
      refine Go.of (fun t k => XS.goto X65.here hx rfl (pc0 := 265) (pc' := 293) rfl (hb hby at_265) (by decide) (by decide) k) ?_
      show Go p e below s _ _ _ (T65.setTop (mkF m 293 #[.val (.int p0), .val (.int p1), .val (.long q2), .second, .val (.ref b1), .val (.int v5_233c), .val (.long (own_tab v5_233c)), .second, .val (.long ((own_tab (v5_233c + (1 : Int32))) - (own_tab v5_233c))), .second, .val (.int (p1 &&& (3 : Int32))), .val (.long (0 : Int64)), .second, .unset, .unset] []))
      exact jn293 (0 : Int64)  T65 _ X65 e65 N65  
    · rewrite [if_neg hc259_72]
      refine Go.of (fun t k => XS.ifYes X65.here hx rfl (pc0 := 259) (pc' := 268) rfl (hb hby at_259) rfl ((if0 _ _).trans (feq hc259_72).2) (by decide) (by decide) k) ?_
      show Go p e below s _ _ _ (T65.setTop (mkF m 268 #[.val (.int p0), .val (.int p1), .val (.long q2), .second, .val (.ref b1), .val (.int v5_233c), .val (.long (own_tab v5_233c)), .second, .val (.long ((own_tab (v5_233c + (1 : Int32))) - (own_tab v5_233c))), .second, .val (.int (p1 &&& (3 : Int32))), .unset, .unset, .unset, .unset] []))
      refine Go.of (fun t k => XS.iload X65.here hx rfl (hb hby at_268) rfl k) ?_
      show Go p e below s _ _ _ (T65.setTop (mkF m 270 #[.val (.int p0), .val (.int p1), .val (.long q2), .second, .val (.ref b1), .val (.int v5_233c), .val (.long (own_tab v5_233c)), .second, .val (.long ((own_tab (v5_233c + (1 : Int32))) - (own_tab v5_233c))), .second, .val (.int (p1 &&& (3 : Int32))), .unset, .unset, .unset, .unset] [(.int (p1 &&& (3 : Int32)))]))
      refine Go.of (fun t k => XS.iconst X65.here hx rfl (hb hby at_270) k) ?_
      show Go p e below s _ _ _ (T65.setTop (mkF m 271 #[.val (.int p0), .val (.int p1), .val (.long q2), .second, .val (.ref b1), .val (.int v5_233c), .val (.long (own_tab v5_233c)), .second, .val (.long ((own_tab (v5_233c + (1 : Int32))) - (own_tab v5_233c))), .second, .val (.int (p1 &&& (3 : Int32))), .unset, .unset, .unset, .unset] [(.int (1 : Int32)), (.int (p1 &&& (3 : Int32)))]))
      by_cases hc271_73 : (p1 &&& (3 : Int32)) = (1 : Int32)
      · rewrite [if_pos hc271_73]
        refine Go.of (fun t k => XS.icmpNo X65.here hx rfl (hb hby at_271) rfl (teq hc271_73).2 k) ?_
        show Go p e below s _ _ _ (T65.setTop (mkF m 274 #[.val (.int p0), .val (.int p1), .val (.long q2), .second, .val (.ref b1), .val (.int v5_233c), .val (.long (own_tab v5_233c)), .second, .val (.long ((own_tab (v5_233c + (1 : Int32))) - (own_tab v5_233c))), .second, .val (.int (p1 &&& (3 : Int32))), .unset, .unset, .unset, .unset] []))
        refine Go.of (fun t k => XS.lload X65.here hx rfl (hb hby at_274) rfl k) ?_
        show Go p e below s _ _ _ (T65.setTop (mkF m 276 #[.val (.int p0), .val (.int p1), .val (.long q2), .second, .val (.ref b1), .val (.int v5_233c), .val (.long (own_tab v5_233c)), .second, .val (.long ((own_tab (v5_233c + (1 : Int32))) - (own_tab v5_233c))), .second, .val (.int (p1 &&& (3 : Int32))), .unset, .unset, .unset, .unset] [(.long ((own_tab (v5_233c + (1 : Int32))) - (own_tab v5_233c)))]))
        refine Go.of (fun t k => XS.lconst X65.here hx rfl (hb hby at_276) k) ?_
        show Go p e below s _ _ _ (T65.setTop (mkF m 277 #[.val (.int p0), .val (.int p1), .val (.long q2), .second, .val (.ref b1), .val (.int v5_233c), .val (.long (own_tab v5_233c)), .second, .val (.long ((own_tab (v5_233c + (1 : Int32))) - (own_tab v5_233c))), .second, .val (.int (p1 &&& (3 : Int32))), .unset, .unset, .unset, .unset] [(.long (1 : Int64)), (.long ((own_tab (v5_233c + (1 : Int32))) - (own_tab v5_233c)))]))
        refine Go.of (fun t k => XS.lsub X65.here hx rfl (hb hby at_277) rfl k) ?_
        show Go p e below s _ _ _ (T65.setTop (mkF m 278 #[.val (.int p0), .val (.int p1), .val (.long q2), .second, .val (.ref b1), .val (.int v5_233c), .val (.long (own_tab v5_233c)), .second, .val (.long ((own_tab (v5_233c + (1 : Int32))) - (own_tab v5_233c))), .second, .val (.int (p1 &&& (3 : Int32))), .unset, .unset, .unset, .unset] [(.long (((own_tab (v5_233c + (1 : Int32))) - (own_tab v5_233c)) - (1 : Int64)))]))
        refine Go.of (fun t k => XS.lstore X65.here hx rfl (hb hby at_278) rfl (l' := #[.val (.int p0), .val (.int p1), .val (.long q2), .second, .val (.ref b1), .val (.int v5_233c), .val (.long (own_tab v5_233c)), .second, .val (.long ((own_tab (v5_233c + (1 : Int32))) - (own_tab v5_233c))), .second, .val (.int (p1 &&& (3 : Int32))), .val (.long (((own_tab (v5_233c + (1 : Int32))) - (own_tab v5_233c)) - (1 : Int64))), .second, .unset, .unset]) rfl k) ?_
        show Go p e below s _ _ _ (T65.setTop (mkF m 280 #[.val (.int p0), .val (.int p1), .val (.long q2), .second, .val (.ref b1), .val (.int v5_233c), .val (.long (own_tab v5_233c)), .second, .val (.long ((own_tab (v5_233c + (1 : Int32))) - (own_tab v5_233c))), .second, .val (.int (p1 &&& (3 : Int32))), .val (.long (((own_tab (v5_233c + (1 : Int32))) - (own_tab v5_233c)) - (1 : Int64))), .second, .unset, .unset] []))
        refine Go.of (fun t k => XS.goto X65.here hx rfl (pc0 := 280) (pc' := 293) rfl (hb hby at_280) (by decide) (by decide) k) ?_
        show Go p e below s _ _ _ (T65.setTop (mkF m 293 #[.val (.int p0), .val (.int p1), .val (.long q2), .second, .val (.ref b1), .val (.int v5_233c), .val (.long (own_tab v5_233c)), .second, .val (.long ((own_tab (v5_233c + (1 : Int32))) - (own_tab v5_233c))), .second, .val (.int (p1 &&& (3 : Int32))), .val (.long (((own_tab (v5_233c + (1 : Int32))) - (own_tab v5_233c)) - (1 : Int64))), .second, .unset, .unset] []))
        exact jn293 (((own_tab (v5_233c + (1 : Int32))) - (own_tab v5_233c)) - (1 : Int64))  T65 _ X65 e65 N65  
      · rewrite [if_neg hc271_73]
        refine Go.of (fun t k => XS.icmpYes X65.here hx rfl (pc0 := 271) (pc' := 283) rfl (hb hby at_271) rfl (feq hc271_73).2 (by decide) (by decide) k) ?_
        show Go p e below s _ _ _ (T65.setTop (mkF m 283 #[.val (.int p0), .val (.int p1), .val (.long q2), .second, .val (.ref b1), .val (.int v5_233c), .val (.long (own_tab v5_233c)), .second, .val (.long ((own_tab (v5_233c + (1 : Int32))) - (own_tab v5_233c))), .second, .val (.int (p1 &&& (3 : Int32))), .unset, .unset, .unset, .unset] []))
        refine Go.of (fun t k => XS.lloadN X65.here hx rfl (hb hby at_283) rfl k) ?_
        show Go p e below s _ _ _ (T65.setTop (mkF m 284 #[.val (.int p0), .val (.int p1), .val (.long q2), .second, .val (.ref b1), .val (.int v5_233c), .val (.long (own_tab v5_233c)), .second, .val (.long ((own_tab (v5_233c + (1 : Int32))) - (own_tab v5_233c))), .second, .val (.int (p1 &&& (3 : Int32))), .unset, .unset, .unset, .unset] [(.long q2)]))
        refine Go.of (X65.ldc2Long hx hown (mvT hZ (hw _ (List.mem_of_getElem? (i := 34) rfl))) (g := (mkF m 284 #[.val (.int p0), .val (.int p1), .val (.long q2), .second, .val (.ref b1), .val (.int v5_233c), .val (.long (own_tab v5_233c)), .second, .val (.long ((own_tab (v5_233c + (1 : Int32))) - (own_tab v5_233c))), .second, .val (.int (p1 &&& (3 : Int32))), .unset, .unset, .unset, .unset] [(.long q2)])) rfl (hb hby at_284)) ?_
        show Go p e below s _ _ _ (T65.setTop (mkF m 287 #[.val (.int p0), .val (.int p1), .val (.long q2), .second, .val (.ref b1), .val (.int v5_233c), .val (.long (own_tab v5_233c)), .second, .val (.long ((own_tab (v5_233c + (1 : Int32))) - (own_tab v5_233c))), .second, .val (.int (p1 &&& (3 : Int32))), .unset, .unset, .unset, .unset] [(.long (9223372036854775807 : Int64)), (.long q2)]))
        refine Go.of (fun t k => XS.land X65.here hx rfl (hb hby at_287) rfl k) ?_
        show Go p e below s _ _ _ (T65.setTop (mkF m 288 #[.val (.int p0), .val (.int p1), .val (.long q2), .second, .val (.ref b1), .val (.int v5_233c), .val (.long (own_tab v5_233c)), .second, .val (.long ((own_tab (v5_233c + (1 : Int32))) - (own_tab v5_233c))), .second, .val (.int (p1 &&& (3 : Int32))), .unset, .unset, .unset, .unset] [(.long (q2 &&& (9223372036854775807 : Int64)))]))
        refine Go.of (fun t k => XS.lload X65.here hx rfl (hb hby at_288) rfl k) ?_
        show Go p e below s _ _ _ (T65.setTop (mkF m 290 #[.val (.int p0), .val (.int p1), .val (.long q2), .second, .val (.ref b1), .val (.int v5_233c), .val (.long (own_tab v5_233c)), .second, .val (.long ((own_tab (v5_233c + (1 : Int32))) - (own_tab v5_233c))), .second, .val (.int (p1 &&& (3 : Int32))), .unset, .unset, .unset, .unset] [(.long ((own_tab (v5_233c + (1 : Int32))) - (own_tab v5_233c))), (.long (q2 &&& (9223372036854775807 : Int64)))]))
        refine Go.of (fun t k => lremM X65 hx rfl (hb hby at_290) rfl (own_pos hk_233c) k) ?_
        show Go p e below s _ _ _ (T65.setTop (mkF m 291 #[.val (.int p0), .val (.int p1), .val (.long q2), .second, .val (.ref b1), .val (.int v5_233c), .val (.long (own_tab v5_233c)), .second, .val (.long ((own_tab (v5_233c + (1 : Int32))) - (own_tab v5_233c))), .second, .val (.int (p1 &&& (3 : Int32))), .unset, .unset, .unset, .unset] [(.long ((q2 &&& (9223372036854775807 : Int64)) % ((own_tab (v5_233c + (1 : Int32))) - (own_tab v5_233c))))]))
        refine Go.of (fun t k => XS.lstore X65.here hx rfl (hb hby at_291) rfl (l' := #[.val (.int p0), .val (.int p1), .val (.long q2), .second, .val (.ref b1), .val (.int v5_233c), .val (.long (own_tab v5_233c)), .second, .val (.long ((own_tab (v5_233c + (1 : Int32))) - (own_tab v5_233c))), .second, .val (.int (p1 &&& (3 : Int32))), .val (.long ((q2 &&& (9223372036854775807 : Int64)) % ((own_tab (v5_233c + (1 : Int32))) - (own_tab v5_233c)))), .second, .unset, .unset]) rfl k) ?_
        show Go p e below s _ _ _ (T65.setTop (mkF m 293 #[.val (.int p0), .val (.int p1), .val (.long q2), .second, .val (.ref b1), .val (.int v5_233c), .val (.long (own_tab v5_233c)), .second, .val (.long ((own_tab (v5_233c + (1 : Int32))) - (own_tab v5_233c))), .second, .val (.int (p1 &&& (3 : Int32))), .val (.long ((q2 &&& (9223372036854775807 : Int64)) % ((own_tab (v5_233c + (1 : Int32))) - (own_tab v5_233c)))), .second, .unset, .unset] []))
        exact jn293 ((q2 &&& (9223372036854775807 : Int64)) % ((own_tab (v5_233c + (1 : Int32))) - (own_tab v5_233c)))  T65 _ X65 e65 N65  
  exact jn233c ((p0 &&& (2147483647 : Int32)) % (31 : Int32)) (own_hk p0)
theorem own_if (c a b : Int32) (x : Int32) : (if c < a then x else (if b < c then x else (1 : Int32))) = if a.toInt ≤ c.toInt ∧ c.toInt ≤ b.toInt then 1 else x := by
  simp only [Int32.lt_iff_toInt_lt]
  by_cases h1 : c.toInt < a.toInt
  · rw [if_pos h1, if_neg (by omega)]
  · rw [if_neg h1]
    by_cases h2 : b.toInt < c.toInt
    · rw [if_pos h2, if_neg (by omega)]
    · rw [if_neg h2, if_pos (by omega)]
theorem own_gF1 (c : Int32) : F1 c = if (65 : Int32).toInt ≤ c.toInt ∧ c.toInt ≤ (90 : Int32).toInt then 1 else F1_12 c := own_if c 65 90 _
theorem own_gF1_30 (c : Int32) : F1_30 c = if (192 : Int32).toInt ≤ c.toInt ∧ c.toInt ≤ (214 : Int32).toInt then 1 else F1_44 c := own_if c 192 214 _
theorem own_gF1_44 (c : Int32) : F1_44 c = if (216 : Int32).toInt ≤ c.toInt ∧ c.toInt ≤ (246 : Int32).toInt then 1 else F1_58 c := own_if c 216 246 _
theorem own_gF1_58 (c : Int32) : F1_58 c = if (248 : Int32).toInt ≤ c.toInt ∧ c.toInt ≤ (767 : Int32).toInt then 1 else F1_72 c := own_if c 248 767 _
theorem own_gF1_72 (c : Int32) : F1_72 c = if (880 : Int32).toInt ≤ c.toInt ∧ c.toInt ≤ (893 : Int32).toInt then 1 else F1_86 c := own_if c 880 893 _
theorem own_gF1_86 (c : Int32) : F1_86 c = if (895 : Int32).toInt ≤ c.toInt ∧ c.toInt ≤ (8191 : Int32).toInt then 1 else F1_100 c := own_if c 895 8191 _
theorem own_gF1_100 (c : Int32) : F1_100 c = if (8204 : Int32).toInt ≤ c.toInt ∧ c.toInt ≤ (8205 : Int32).toInt then 1 else F1_114 c := own_if c 8204 8205 _
theorem own_gF1_114 (c : Int32) : F1_114 c = if (8304 : Int32).toInt ≤ c.toInt ∧ c.toInt ≤ (8591 : Int32).toInt then 1 else F1_128 c := own_if c 8304 8591 _
theorem own_gF1_128 (c : Int32) : F1_128 c = if (11264 : Int32).toInt ≤ c.toInt ∧ c.toInt ≤ (12271 : Int32).toInt then 1 else F1_142 c := own_if c 11264 12271 _
theorem own_gF1_142 (c : Int32) : F1_142 c = if (12289 : Int32).toInt ≤ c.toInt ∧ c.toInt ≤ (55295 : Int32).toInt then 1 else F1_155 c := own_if c 12289 55295 _
theorem own_gF1_155 (c : Int32) : F1_155 c = if (63744 : Int32).toInt ≤ c.toInt ∧ c.toInt ≤ (64975 : Int32).toInt then 1 else F1_167 c := own_if c 63744 64975 _
theorem own_gF1_167 (c : Int32) : F1_167 c = if (65008 : Int32).toInt ≤ c.toInt ∧ c.toInt ≤ (65533 : Int32).toInt then 1 else F1_179 c := own_if c 65008 65533 _
theorem own_gF1_12 (c : Int32) : F1_12 c = if c.toInt = (95 : Int32).toInt then 1 else if (97 : Int32).toInt ≤ c.toInt ∧ c.toInt ≤ (122 : Int32).toInt then 1 else F1_30 c := by
  unfold F1_12
  rw [own_if]
  simp only [Int32.toInt_inj]
theorem own_gF1_179 (c : Int32) : F1_179 c = if (65536 : Int32).toInt ≤ c.toInt ∧ c.toInt ≤ (983039 : Int32).toInt then 1 else 0 := own_if c 65536 983039 0
theorem own_e65 : (65 : Int32).toInt = 65 := by decide
theorem own_e90 : (90 : Int32).toInt = 90 := by decide
theorem own_e95 : (95 : Int32).toInt = 95 := by decide
theorem own_e97 : (97 : Int32).toInt = 97 := by decide
theorem own_e122 : (122 : Int32).toInt = 122 := by decide
theorem own_e192 : (192 : Int32).toInt = 192 := by decide
theorem own_e214 : (214 : Int32).toInt = 214 := by decide
theorem own_e216 : (216 : Int32).toInt = 216 := by decide
theorem own_e246 : (246 : Int32).toInt = 246 := by decide
theorem own_e248 : (248 : Int32).toInt = 248 := by decide
theorem own_e767 : (767 : Int32).toInt = 767 := by decide
theorem own_e880 : (880 : Int32).toInt = 880 := by decide
theorem own_e893 : (893 : Int32).toInt = 893 := by decide
theorem own_e895 : (895 : Int32).toInt = 895 := by decide
theorem own_e8191 : (8191 : Int32).toInt = 8191 := by decide
theorem own_e8204 : (8204 : Int32).toInt = 8204 := by decide
theorem own_e8205 : (8205 : Int32).toInt = 8205 := by decide
theorem own_e8304 : (8304 : Int32).toInt = 8304 := by decide
theorem own_e8591 : (8591 : Int32).toInt = 8591 := by decide
theorem own_e11264 : (11264 : Int32).toInt = 11264 := by decide
theorem own_e12271 : (12271 : Int32).toInt = 12271 := by decide
theorem own_e12289 : (12289 : Int32).toInt = 12289 := by decide
theorem own_e55295 : (55295 : Int32).toInt = 55295 := by decide
theorem own_e63744 : (63744 : Int32).toInt = 63744 := by decide
theorem own_e64975 : (64975 : Int32).toInt = 64975 := by decide
theorem own_e65008 : (65008 : Int32).toInt = 65008 := by decide
theorem own_e65533 : (65533 : Int32).toInt = 65533 := by decide
theorem own_e65536 : (65536 : Int32).toInt = 65536 := by decide
theorem own_e983039 : (983039 : Int32).toInt = 983039 := by decide
theorem own_F (c : Int32) : F1 c = if 65 ≤ c.toInt ∧ c.toInt ≤ 90 then 1 else if c.toInt = 95 then 1 else if 97 ≤ c.toInt ∧ c.toInt ≤ 122 then 1 else if 192 ≤ c.toInt ∧ c.toInt ≤ 214 then 1 else if 216 ≤ c.toInt ∧ c.toInt ≤ 246 then 1 else if 248 ≤ c.toInt ∧ c.toInt ≤ 767 then 1 else if 880 ≤ c.toInt ∧ c.toInt ≤ 893 then 1 else if 895 ≤ c.toInt ∧ c.toInt ≤ 8191 then 1 else if 8204 ≤ c.toInt ∧ c.toInt ≤ 8205 then 1 else if 8304 ≤ c.toInt ∧ c.toInt ≤ 8591 then 1 else if 11264 ≤ c.toInt ∧ c.toInt ≤ 12271 then 1 else if 12289 ≤ c.toInt ∧ c.toInt ≤ 55295 then 1 else if 63744 ≤ c.toInt ∧ c.toInt ≤ 64975 then 1 else if 65008 ≤ c.toInt ∧ c.toInt ≤ 65533 then 1 else if 65536 ≤ c.toInt ∧ c.toInt ≤ 983039 then 1 else 0 := by
  rw [own_gF1, own_gF1_12, own_gF1_30, own_gF1_44, own_gF1_58, own_gF1_72, own_gF1_86, own_gF1_100, own_gF1_114, own_gF1_128, own_gF1_142, own_gF1_155, own_gF1_167, own_gF1_179]
  simp only [own_e65, own_e90, own_e95, own_e97, own_e122, own_e192, own_e214, own_e216, own_e246, own_e248, own_e767, own_e880, own_e893, own_e895, own_e8191, own_e8204, own_e8205, own_e8304, own_e8591, own_e11264, own_e12271, own_e12289, own_e55295, own_e63744, own_e64975, own_e65008, own_e65533, own_e65536, own_e983039]
theorem own_s0 (c : Int32) (h : -2147483648 ≤ c.toInt ∧ c.toInt < 65) : F1 c = 0 := by
  rw [own_F]
  simp (disch := omega) only [if_pos, if_neg]
theorem own_s1 (c : Int32) (h : 65 ≤ c.toInt ∧ c.toInt < 91) : F1 c = 1 := by
  rw [own_F]
  simp (disch := omega) only [if_pos, if_neg]
theorem own_s2 (c : Int32) (h : 91 ≤ c.toInt ∧ c.toInt < 95) : F1 c = 0 := by
  rw [own_F]
  simp (disch := omega) only [if_pos, if_neg]
theorem own_s3 (c : Int32) (h : 95 ≤ c.toInt ∧ c.toInt < 96) : F1 c = 1 := by
  rw [own_F]
  simp (disch := omega) only [if_pos, if_neg]
theorem own_s4 (c : Int32) (h : 96 ≤ c.toInt ∧ c.toInt < 97) : F1 c = 0 := by
  rw [own_F]
  simp (disch := omega) only [if_pos, if_neg]
theorem own_s5 (c : Int32) (h : 97 ≤ c.toInt ∧ c.toInt < 123) : F1 c = 1 := by
  rw [own_F]
  simp (disch := omega) only [if_pos, if_neg]
theorem own_s6 (c : Int32) (h : 123 ≤ c.toInt ∧ c.toInt < 192) : F1 c = 0 := by
  rw [own_F]
  simp (disch := omega) only [if_pos, if_neg]
theorem own_s7 (c : Int32) (h : 192 ≤ c.toInt ∧ c.toInt < 215) : F1 c = 1 := by
  rw [own_F]
  simp (disch := omega) only [if_pos, if_neg]
theorem own_s8 (c : Int32) (h : 215 ≤ c.toInt ∧ c.toInt < 216) : F1 c = 0 := by
  rw [own_F]
  simp (disch := omega) only [if_pos, if_neg]
theorem own_s9 (c : Int32) (h : 216 ≤ c.toInt ∧ c.toInt < 247) : F1 c = 1 := by
  rw [own_F]
  simp (disch := omega) only [if_pos, if_neg]
theorem own_s10 (c : Int32) (h : 247 ≤ c.toInt ∧ c.toInt < 248) : F1 c = 0 := by
  rw [own_F]
  simp (disch := omega) only [if_pos, if_neg]
theorem own_s11 (c : Int32) (h : 248 ≤ c.toInt ∧ c.toInt < 768) : F1 c = 1 := by
  rw [own_F]
  simp (disch := omega) only [if_pos, if_neg]
theorem own_s12 (c : Int32) (h : 768 ≤ c.toInt ∧ c.toInt < 880) : F1 c = 0 := by
  rw [own_F]
  simp (disch := omega) only [if_pos, if_neg]
theorem own_s13 (c : Int32) (h : 880 ≤ c.toInt ∧ c.toInt < 894) : F1 c = 1 := by
  rw [own_F]
  simp (disch := omega) only [if_pos, if_neg]
theorem own_s14 (c : Int32) (h : 894 ≤ c.toInt ∧ c.toInt < 895) : F1 c = 0 := by
  rw [own_F]
  simp (disch := omega) only [if_pos, if_neg]
theorem own_s15 (c : Int32) (h : 895 ≤ c.toInt ∧ c.toInt < 8192) : F1 c = 1 := by
  rw [own_F]
  simp (disch := omega) only [if_pos, if_neg]
theorem own_s16 (c : Int32) (h : 8192 ≤ c.toInt ∧ c.toInt < 8204) : F1 c = 0 := by
  rw [own_F]
  simp (disch := omega) only [if_pos, if_neg]
theorem own_s17 (c : Int32) (h : 8204 ≤ c.toInt ∧ c.toInt < 8206) : F1 c = 1 := by
  rw [own_F]
  simp (disch := omega) only [if_pos, if_neg]
theorem own_s18 (c : Int32) (h : 8206 ≤ c.toInt ∧ c.toInt < 8304) : F1 c = 0 := by
  rw [own_F]
  simp (disch := omega) only [if_pos, if_neg]
theorem own_s19 (c : Int32) (h : 8304 ≤ c.toInt ∧ c.toInt < 8592) : F1 c = 1 := by
  rw [own_F]
  simp (disch := omega) only [if_pos, if_neg]
theorem own_s20 (c : Int32) (h : 8592 ≤ c.toInt ∧ c.toInt < 11264) : F1 c = 0 := by
  rw [own_F]
  simp (disch := omega) only [if_pos, if_neg]
theorem own_s21 (c : Int32) (h : 11264 ≤ c.toInt ∧ c.toInt < 12272) : F1 c = 1 := by
  rw [own_F]
  simp (disch := omega) only [if_pos, if_neg]
theorem own_s22 (c : Int32) (h : 12272 ≤ c.toInt ∧ c.toInt < 12289) : F1 c = 0 := by
  rw [own_F]
  simp (disch := omega) only [if_pos, if_neg]
theorem own_s23 (c : Int32) (h : 12289 ≤ c.toInt ∧ c.toInt < 55296) : F1 c = 1 := by
  rw [own_F]
  simp (disch := omega) only [if_pos, if_neg]
theorem own_s24 (c : Int32) (h : 55296 ≤ c.toInt ∧ c.toInt < 63744) : F1 c = 0 := by
  rw [own_F]
  simp (disch := omega) only [if_pos, if_neg]
theorem own_s25 (c : Int32) (h : 63744 ≤ c.toInt ∧ c.toInt < 64976) : F1 c = 1 := by
  rw [own_F]
  simp (disch := omega) only [if_pos, if_neg]
theorem own_s26 (c : Int32) (h : 64976 ≤ c.toInt ∧ c.toInt < 65008) : F1 c = 0 := by
  rw [own_F]
  simp (disch := omega) only [if_pos, if_neg]
theorem own_s27 (c : Int32) (h : 65008 ≤ c.toInt ∧ c.toInt < 65534) : F1 c = 1 := by
  rw [own_F]
  simp (disch := omega) only [if_pos, if_neg]
theorem own_s28 (c : Int32) (h : 65534 ≤ c.toInt ∧ c.toInt < 65536) : F1 c = 0 := by
  rw [own_F]
  simp (disch := omega) only [if_pos, if_neg]
theorem own_s29 (c : Int32) (h : 65536 ≤ c.toInt ∧ c.toInt < 983040) : F1 c = 1 := by
  rw [own_F]
  simp (disch := omega) only [if_pos, if_neg]
theorem own_s30 (c : Int32) (h : 983040 ≤ c.toInt ∧ c.toInt < 2147483648) : F1 c = 0 := by
  rw [own_F]
  simp (disch := omega) only [if_pos, if_neg]
theorem own_293 (k : Int32) (hk : ¬ (k < 0) ∧ k < 31) (off : Int64) (ho : 0 ≤ off.toInt ∧ off.toInt < (own_tab (k + (1 : Int32)) - own_tab k).toInt) : F0_293 k off = 1 := by
  obtain ⟨⟨i, hi⟩, rfl⟩ := own_cases hk
  dsimp only at ho ⊢
  unfold F0_293 F0_314
  have s := c_ladd (own_tab (Int32.ofNat i)) off
  have t := rng64 (own_tab (Int32.ofNat i) + off)
  have u := c_l2i (own_tab (Int32.ofNat i) + off)
  have v := rng32 (own_tab (Int32.ofNat i) + off).toInt32
  have hs : i = 0 ∨ i = 1 ∨ i = 2 ∨ i = 3 ∨ i = 4 ∨ i = 5 ∨ i = 6 ∨ i = 7 ∨ i = 8 ∨ i = 9 ∨ i = 10 ∨ i = 11 ∨ i = 12 ∨ i = 13 ∨ i = 14 ∨ i = 15 ∨ i = 16 ∨ i = 17 ∨ i = 18 ∨ i = 19 ∨ i = 20 ∨ i = 21 ∨ i = 22 ∨ i = 23 ∨ i = 24 ∨ i = 25 ∨ i = 26 ∨ i = 27 ∨ i = 28 ∨ i = 29 ∨ i = 30 := by omega
  rcases hs with rfl | rfl | rfl | rfl | rfl | rfl | rfl | rfl | rfl | rfl | rfl | rfl | rfl | rfl | rfl | rfl | rfl | rfl | rfl | rfl | rfl | rfl | rfl | rfl | rfl | rfl | rfl | rfl | rfl | rfl | rfl
  · have e1 : (own_tab (Int32.ofNat 0)).toInt = -2147483648 := by decide +kernel
    have e2 : (own_tab (Int32.ofNat 0 + (1 : Int32)) - own_tab (Int32.ofNat 0)).toInt = 2147483713 := by decide +kernel
    have e3 : ¬ ((Int32.ofNat 0 &&& (1 : Int32)) = (1 : Int32)) := by decide
    rw [own_s0 _ (by omega), if_neg e3, if_pos rfl]
  · have e1 : (own_tab (Int32.ofNat 1)).toInt = 65 := by decide +kernel
    have e2 : (own_tab (Int32.ofNat 1 + (1 : Int32)) - own_tab (Int32.ofNat 1)).toInt = 26 := by decide +kernel
    have e3 : ((Int32.ofNat 1 &&& (1 : Int32)) = (1 : Int32)) := by decide
    rw [own_s1 _ (by omega), if_pos e3, if_pos rfl]
  · have e1 : (own_tab (Int32.ofNat 2)).toInt = 91 := by decide +kernel
    have e2 : (own_tab (Int32.ofNat 2 + (1 : Int32)) - own_tab (Int32.ofNat 2)).toInt = 4 := by decide +kernel
    have e3 : ¬ ((Int32.ofNat 2 &&& (1 : Int32)) = (1 : Int32)) := by decide
    rw [own_s2 _ (by omega), if_neg e3, if_pos rfl]
  · have e1 : (own_tab (Int32.ofNat 3)).toInt = 95 := by decide +kernel
    have e2 : (own_tab (Int32.ofNat 3 + (1 : Int32)) - own_tab (Int32.ofNat 3)).toInt = 1 := by decide +kernel
    have e3 : ((Int32.ofNat 3 &&& (1 : Int32)) = (1 : Int32)) := by decide
    rw [own_s3 _ (by omega), if_pos e3, if_pos rfl]
  · have e1 : (own_tab (Int32.ofNat 4)).toInt = 96 := by decide +kernel
    have e2 : (own_tab (Int32.ofNat 4 + (1 : Int32)) - own_tab (Int32.ofNat 4)).toInt = 1 := by decide +kernel
    have e3 : ¬ ((Int32.ofNat 4 &&& (1 : Int32)) = (1 : Int32)) := by decide
    rw [own_s4 _ (by omega), if_neg e3, if_pos rfl]
  · have e1 : (own_tab (Int32.ofNat 5)).toInt = 97 := by decide +kernel
    have e2 : (own_tab (Int32.ofNat 5 + (1 : Int32)) - own_tab (Int32.ofNat 5)).toInt = 26 := by decide +kernel
    have e3 : ((Int32.ofNat 5 &&& (1 : Int32)) = (1 : Int32)) := by decide
    rw [own_s5 _ (by omega), if_pos e3, if_pos rfl]
  · have e1 : (own_tab (Int32.ofNat 6)).toInt = 123 := by decide +kernel
    have e2 : (own_tab (Int32.ofNat 6 + (1 : Int32)) - own_tab (Int32.ofNat 6)).toInt = 69 := by decide +kernel
    have e3 : ¬ ((Int32.ofNat 6 &&& (1 : Int32)) = (1 : Int32)) := by decide
    rw [own_s6 _ (by omega), if_neg e3, if_pos rfl]
  · have e1 : (own_tab (Int32.ofNat 7)).toInt = 192 := by decide +kernel
    have e2 : (own_tab (Int32.ofNat 7 + (1 : Int32)) - own_tab (Int32.ofNat 7)).toInt = 23 := by decide +kernel
    have e3 : ((Int32.ofNat 7 &&& (1 : Int32)) = (1 : Int32)) := by decide
    rw [own_s7 _ (by omega), if_pos e3, if_pos rfl]
  · have e1 : (own_tab (Int32.ofNat 8)).toInt = 215 := by decide +kernel
    have e2 : (own_tab (Int32.ofNat 8 + (1 : Int32)) - own_tab (Int32.ofNat 8)).toInt = 1 := by decide +kernel
    have e3 : ¬ ((Int32.ofNat 8 &&& (1 : Int32)) = (1 : Int32)) := by decide
    rw [own_s8 _ (by omega), if_neg e3, if_pos rfl]
  · have e1 : (own_tab (Int32.ofNat 9)).toInt = 216 := by decide +kernel
    have e2 : (own_tab (Int32.ofNat 9 + (1 : Int32)) - own_tab (Int32.ofNat 9)).toInt = 31 := by decide +kernel
    have e3 : ((Int32.ofNat 9 &&& (1 : Int32)) = (1 : Int32)) := by decide
    rw [own_s9 _ (by omega), if_pos e3, if_pos rfl]
  · have e1 : (own_tab (Int32.ofNat 10)).toInt = 247 := by decide +kernel
    have e2 : (own_tab (Int32.ofNat 10 + (1 : Int32)) - own_tab (Int32.ofNat 10)).toInt = 1 := by decide +kernel
    have e3 : ¬ ((Int32.ofNat 10 &&& (1 : Int32)) = (1 : Int32)) := by decide
    rw [own_s10 _ (by omega), if_neg e3, if_pos rfl]
  · have e1 : (own_tab (Int32.ofNat 11)).toInt = 248 := by decide +kernel
    have e2 : (own_tab (Int32.ofNat 11 + (1 : Int32)) - own_tab (Int32.ofNat 11)).toInt = 520 := by decide +kernel
    have e3 : ((Int32.ofNat 11 &&& (1 : Int32)) = (1 : Int32)) := by decide
    rw [own_s11 _ (by omega), if_pos e3, if_pos rfl]
  · have e1 : (own_tab (Int32.ofNat 12)).toInt = 768 := by decide +kernel
    have e2 : (own_tab (Int32.ofNat 12 + (1 : Int32)) - own_tab (Int32.ofNat 12)).toInt = 112 := by decide +kernel
    have e3 : ¬ ((Int32.ofNat 12 &&& (1 : Int32)) = (1 : Int32)) := by decide
    rw [own_s12 _ (by omega), if_neg e3, if_pos rfl]
  · have e1 : (own_tab (Int32.ofNat 13)).toInt = 880 := by decide +kernel
    have e2 : (own_tab (Int32.ofNat 13 + (1 : Int32)) - own_tab (Int32.ofNat 13)).toInt = 14 := by decide +kernel
    have e3 : ((Int32.ofNat 13 &&& (1 : Int32)) = (1 : Int32)) := by decide
    rw [own_s13 _ (by omega), if_pos e3, if_pos rfl]
  · have e1 : (own_tab (Int32.ofNat 14)).toInt = 894 := by decide +kernel
    have e2 : (own_tab (Int32.ofNat 14 + (1 : Int32)) - own_tab (Int32.ofNat 14)).toInt = 1 := by decide +kernel
    have e3 : ¬ ((Int32.ofNat 14 &&& (1 : Int32)) = (1 : Int32)) := by decide
    rw [own_s14 _ (by omega), if_neg e3, if_pos rfl]
  · have e1 : (own_tab (Int32.ofNat 15)).toInt = 895 := by decide +kernel
    have e2 : (own_tab (Int32.ofNat 15 + (1 : Int32)) - own_tab (Int32.ofNat 15)).toInt = 7297 := by decide +kernel
    have e3 : ((Int32.ofNat 15 &&& (1 : Int32)) = (1 : Int32)) := by decide
    rw [own_s15 _ (by omega), if_pos e3, if_pos rfl]
  · have e1 : (own_tab (Int32.ofNat 16)).toInt = 8192 := by decide +kernel
    have e2 : (own_tab (Int32.ofNat 16 + (1 : Int32)) - own_tab (Int32.ofNat 16)).toInt = 12 := by decide +kernel
    have e3 : ¬ ((Int32.ofNat 16 &&& (1 : Int32)) = (1 : Int32)) := by decide
    rw [own_s16 _ (by omega), if_neg e3, if_pos rfl]
  · have e1 : (own_tab (Int32.ofNat 17)).toInt = 8204 := by decide +kernel
    have e2 : (own_tab (Int32.ofNat 17 + (1 : Int32)) - own_tab (Int32.ofNat 17)).toInt = 2 := by decide +kernel
    have e3 : ((Int32.ofNat 17 &&& (1 : Int32)) = (1 : Int32)) := by decide
    rw [own_s17 _ (by omega), if_pos e3, if_pos rfl]
  · have e1 : (own_tab (Int32.ofNat 18)).toInt = 8206 := by decide +kernel
    have e2 : (own_tab (Int32.ofNat 18 + (1 : Int32)) - own_tab (Int32.ofNat 18)).toInt = 98 := by decide +kernel
    have e3 : ¬ ((Int32.ofNat 18 &&& (1 : Int32)) = (1 : Int32)) := by decide
    rw [own_s18 _ (by omega), if_neg e3, if_pos rfl]
  · have e1 : (own_tab (Int32.ofNat 19)).toInt = 8304 := by decide +kernel
    have e2 : (own_tab (Int32.ofNat 19 + (1 : Int32)) - own_tab (Int32.ofNat 19)).toInt = 288 := by decide +kernel
    have e3 : ((Int32.ofNat 19 &&& (1 : Int32)) = (1 : Int32)) := by decide
    rw [own_s19 _ (by omega), if_pos e3, if_pos rfl]
  · have e1 : (own_tab (Int32.ofNat 20)).toInt = 8592 := by decide +kernel
    have e2 : (own_tab (Int32.ofNat 20 + (1 : Int32)) - own_tab (Int32.ofNat 20)).toInt = 2672 := by decide +kernel
    have e3 : ¬ ((Int32.ofNat 20 &&& (1 : Int32)) = (1 : Int32)) := by decide
    rw [own_s20 _ (by omega), if_neg e3, if_pos rfl]
  · have e1 : (own_tab (Int32.ofNat 21)).toInt = 11264 := by decide +kernel
    have e2 : (own_tab (Int32.ofNat 21 + (1 : Int32)) - own_tab (Int32.ofNat 21)).toInt = 1008 := by decide +kernel
    have e3 : ((Int32.ofNat 21 &&& (1 : Int32)) = (1 : Int32)) := by decide
    rw [own_s21 _ (by omega), if_pos e3, if_pos rfl]
  · have e1 : (own_tab (Int32.ofNat 22)).toInt = 12272 := by decide +kernel
    have e2 : (own_tab (Int32.ofNat 22 + (1 : Int32)) - own_tab (Int32.ofNat 22)).toInt = 17 := by decide +kernel
    have e3 : ¬ ((Int32.ofNat 22 &&& (1 : Int32)) = (1 : Int32)) := by decide
    rw [own_s22 _ (by omega), if_neg e3, if_pos rfl]
  · have e1 : (own_tab (Int32.ofNat 23)).toInt = 12289 := by decide +kernel
    have e2 : (own_tab (Int32.ofNat 23 + (1 : Int32)) - own_tab (Int32.ofNat 23)).toInt = 43007 := by decide +kernel
    have e3 : ((Int32.ofNat 23 &&& (1 : Int32)) = (1 : Int32)) := by decide
    rw [own_s23 _ (by omega), if_pos e3, if_pos rfl]
  · have e1 : (own_tab (Int32.ofNat 24)).toInt = 55296 := by decide +kernel
    have e2 : (own_tab (Int32.ofNat 24 + (1 : Int32)) - own_tab (Int32.ofNat 24)).toInt = 8448 := by decide +kernel
    have e3 : ¬ ((Int32.ofNat 24 &&& (1 : Int32)) = (1 : Int32)) := by decide
    rw [own_s24 _ (by omega), if_neg e3, if_pos rfl]
  · have e1 : (own_tab (Int32.ofNat 25)).toInt = 63744 := by decide +kernel
    have e2 : (own_tab (Int32.ofNat 25 + (1 : Int32)) - own_tab (Int32.ofNat 25)).toInt = 1232 := by decide +kernel
    have e3 : ((Int32.ofNat 25 &&& (1 : Int32)) = (1 : Int32)) := by decide
    rw [own_s25 _ (by omega), if_pos e3, if_pos rfl]
  · have e1 : (own_tab (Int32.ofNat 26)).toInt = 64976 := by decide +kernel
    have e2 : (own_tab (Int32.ofNat 26 + (1 : Int32)) - own_tab (Int32.ofNat 26)).toInt = 32 := by decide +kernel
    have e3 : ¬ ((Int32.ofNat 26 &&& (1 : Int32)) = (1 : Int32)) := by decide
    rw [own_s26 _ (by omega), if_neg e3, if_pos rfl]
  · have e1 : (own_tab (Int32.ofNat 27)).toInt = 65008 := by decide +kernel
    have e2 : (own_tab (Int32.ofNat 27 + (1 : Int32)) - own_tab (Int32.ofNat 27)).toInt = 526 := by decide +kernel
    have e3 : ((Int32.ofNat 27 &&& (1 : Int32)) = (1 : Int32)) := by decide
    rw [own_s27 _ (by omega), if_pos e3, if_pos rfl]
  · have e1 : (own_tab (Int32.ofNat 28)).toInt = 65534 := by decide +kernel
    have e2 : (own_tab (Int32.ofNat 28 + (1 : Int32)) - own_tab (Int32.ofNat 28)).toInt = 2 := by decide +kernel
    have e3 : ¬ ((Int32.ofNat 28 &&& (1 : Int32)) = (1 : Int32)) := by decide
    rw [own_s28 _ (by omega), if_neg e3, if_pos rfl]
  · have e1 : (own_tab (Int32.ofNat 29)).toInt = 65536 := by decide +kernel
    have e2 : (own_tab (Int32.ofNat 29 + (1 : Int32)) - own_tab (Int32.ofNat 29)).toInt = 917504 := by decide +kernel
    have e3 : ((Int32.ofNat 29 &&& (1 : Int32)) = (1 : Int32)) := by decide
    rw [own_s29 _ (by omega), if_pos e3, if_pos rfl]
  · have e1 : (own_tab (Int32.ofNat 30)).toInt = 983040 := by decide +kernel
    have e2 : (own_tab (Int32.ofNat 30 + (1 : Int32)) - own_tab (Int32.ofNat 30)).toInt = 2146500608 := by decide +kernel
    have e3 : ¬ ((Int32.ofNat 30 &&& (1 : Int32)) = (1 : Int32)) := by decide
    rw [own_s30 _ (by omega), if_neg e3, if_pos rfl]
theorem own_law (a b : Int32) (c : Int64) : F0 a b c = 1 := by
  have hk := own_hk a
  unfold F0 F0_233c
  generalize (a &&& (2147483647 : Int32)) % (31 : Int32) = k at *
  have hp : 0 < (own_tab (k + (1 : Int32)) - own_tab k).toInt := by
    obtain ⟨i, rfl⟩ := own_cases hk
    have : ∀ i : Fin 31, 0 < (own_tab (Int32.ofNat i.val + (1 : Int32)) - own_tab (Int32.ofNat i.val)).toInt := by decide +kernel
    exact this i
  have e0 : (0 : Int64).toInt = 0 := by decide
  have e1 : (1 : Int64).toInt = 1 := by decide
  split
  · exact own_293 k hk _ (by omega)
  · split
    · refine own_293 k hk _ ?_
      have s := c_lsub (own_tab (k + (1 : Int32)) - own_tab k) 1
      have t := rng64 (own_tab (k + (1 : Int32)) - own_tab k - 1)
      have u := rng64 (own_tab (k + (1 : Int32)) - own_tab k)
      omega
    · refine own_293 k hk _ ?_
      have m := c_maskL c 9223372036854775807 63 (by decide) (by decide)
      rw [Int64.toInt_mod, (tr _ _).1 (by omega)]
      exact ⟨Int.emod_nonneg _ (by omega), Int.emod_lt_of_pos _ hp⟩
set_option maxRecDepth 65536 in
set_option maxHeartbeats 40000000 in
theorem comes_1 {Post : Tables → Env → Array Value → State → Outcome → State → Prop} (hpost : ∀ tb e args s v u, (limb_1_1.after args s (.returned v) u = true ∧ limb_1_2.after args s (.returned v) u = true ∧ True) → FrameEnd s (.returned v) u (Jvm.fieldLocs frame_1_writes args s ++ Jvm.arrayLocs frame_1_arrays args s ++ Jvm.staticLocs frame_1_statics s) 16 128 → Post tb e args s (.returned v) u) :
    ArmFor flags0 classFile x code maxLocals ret World_1 tables_1 room_1 Calls_1 rest_1 Pre_1 Post := by
  intro l hfl _ _ p e ha hc hk s m args below hf hA hF happ hP
  obtain ⟨hcalls, hrest, hpre⟩ := hP
  obtain ⟨-, -, -, hnamed, -, -, -, hat⟩ := (Spec.applies_iff hf).mp happ
  obtain ⟨hg, hn⟩ := and_e (Cond.before_iff.mp (show (Jvm.Cond.and given_1 narrow_1).before args s = true from hpre))
  obtain ⟨g0, g1⟩ := and_e hg
  obtain ⟨a0, g2⟩ := and_e g1
  obtain ⟨a1, g3⟩ := and_e g2
  have a2 := g3
  obtain ⟨w0, w1, w2, rfl⟩ : ∃ w0 w1 w2 : Value, args = #[w0, w1, w2] := by
    have hs : args.size = 3 := by simpa [Cond.value, given_1] using g0
    obtain ⟨L⟩ := args
    match L, hs with
    | [w0, w1, w2], _ => exact ⟨w0, w1, w2, rfl⟩
  have hw := fun d (hd : d ∈ tables_1) => atoms_spec (ws := Jvm.Cond.code x code maxLocals ret :: tables_1) hat d (List.mem_cons_of_mem _ hd)
  obtain ⟨i0, ei0⟩ := is_v a0
  obtain rfl : w0 = (.int i0) := Option.some.inj ei0
  obtain ⟨i1, ei1⟩ := is_v a1
  obtain rfl : w1 = (.int i1) := Option.some.inj ei1
  obtain ⟨i2, ei2⟩ := isL_v a2
  obtain rfl : w2 = (.long i2) := Option.some.inj ei2
  obtain ⟨n, o, h1, h2, h3, _, L, rfl, ⟨rfl, N⟩, hq⟩ := rm0 l s _ hw tables_1 i0 i1 i2 s.heap s.heap.size (Nat.le_refl _) p e ha hc hk s m _ below hf ((Spec.applies_iff_loose hf).mp happ).1 ⟨rfl, State.Warmed39.refl s, rfl⟩ trivial
  have hone : (F0 i0 i1 i2) = 1 := own_law i0 i1 i2
  refine ⟨n, _, h1, h2, h3, hpost _ _ _ _ _ _ ⟨Cond.after_iff.mpr rfl, Cond.after_iff.mpr (eq_i res_at (Term.int_eval (1)) (by rw [hone])), trivial⟩ ⟨hq.1, hq.2.1, (hq.2.2.sift fun y hy => Or.inr (N y hy)).mono (by decide) (by decide)⟩⟩
theorem main_1_1 : Claimed_1_1 := comes_1 fun _ _ _ _ _ _ h hF => ⟨h.1, hF⟩
theorem main_1_2 : Claimed_1_2 := comes_1 fun _ _ _ _ _ _ h hF => ⟨h.2.1, hF⟩
end Jvm.Pilot.@@N@@
namespace Jvm.Pilot.@@N@@
open Jvm Jvm.ClassFile Sem Op Lib Jvm.Free Jvm.Stand Jvm.Pilot.@@N@@.Jvm.D
/-! MADE BY PROGRAM (witnessworld.py) out of the Statement's table words and the real class files: 11 classes; the members and pool entries that the words name. The judged class is class 1, her method 1. -/
namespace start1
open Jvm.ClassFile
def u (s : String) : CpInfo := .utf8 (stringToUtf16 s)
/-- a pool by its gaps: so many unusable entries, then the entry; so many at the end -/
def gap : Nat → List CpInfo → List CpInfo
  | 0, r => r
  | n + 1, r => .unusable :: gap n r
def poolList (es : List (Nat × CpInfo)) (last : Nat) : List CpInfo := es.foldr (fun e r => gap e.1 (e.2 :: r)) (gap last [])
def pool (es : List (Nat × CpInfo)) (last : Nat) : Array CpInfo := ⟨poolList es last⟩
def fileOf (pool : Array CpInfo) (this : Nat) (attrs : Array Attribute := #[]) (ms : Array MethodInfo := #[]) (fl : Nat := 33) (sup : Nat := 0) (ifs : Array Nat := #[]) (fds : Array FieldInfo := #[]) : ClassFile where
  minorVersion := 0
  majorVersion := 65
  constantPool := pool
  accessFlags := fl
  thisClass := this
  superClass := sup
  interfaces := ifs
  fields := fds
  methods := ms
  attributes := attrs
def plain (name : String) (sup : Option ClassId) : Class where
  name := name
  kind := .ordinary
  loader := none
  accessFlags := 33
  super := sup
  interfaces := #[]
  cf := none
  fields := #[]
  methods := #[]
  instanceTypes := #[]
  staticTypes := #[]
  resolved := #[]
  callSites := []
  init := .initialized
  statics := none
  mirror := none

def pool0 : Array CpInfo := pool [(5, u "<init>"), (0, u "()V"), (1, .class_ 10), (1, u "java/lang/Object")] 113

def k0m0 : Method := { name := "<init>", desc := "()V", sig := { parameters := [], returnType := none }, accessFlags := 1, code := none }
/-- java/lang/Object -/
def k0 : Class := { plain "java/lang/Object" none with
  accessFlags := 33
  interfaces := #[]
  cf := some (fileOf pool0 8 #[] #[{ accessFlags := 1, nameIndex := 5, descriptorIndex := 6, attributes := #[] }] 33 0 #[] #[])
  fields := #[]
  methods := #[k0m0]
  instanceTypes := #[]
  staticTypes := #[]
  resolved := Array.replicate 124 none
  statics := none }

def pool1 : Array CpInfo := pool [(2, .class_ 4), (1, u "java/lang/Object"), (0, u "<init>"), (0, u "()V"), (0, .long 18446744071562067968), (1, .long 65), (1, .long 91), (1, .long 95), (1, .long 96), (1, .long 97), (1, .long 123), (1, .long 192), (1, .long 215), (1, .long 216), (1, .long 247), (1, .long 248), (1, .long 768), (1, .long 880), (1, .long 894), (1, .long 895), (1, .long 8192), (1, .long 8204), (1, .long 8206), (1, .long 8304), (1, .long 8592), (1, .long 11264), (1, .long 12272), (1, .long 12289), (1, .long 55296), (1, .long 63744), (1, .long 64976), (1, .long 65008), (1, .long 65534), (1, .long 65536), (1, .long 983040), (1, .long 2147483648), (1, .integer 2147483647), (0, .long 9223372036854775807), (1, .methodref 75 76), (0, .class_ 77), (0, .nameAndType 78 79), (0, u "com/example/susurrus/susurrus/XmlNames"), (0, u "isNameStart"), (0, u "(I)Z"), (0, .class_ 81), (0, u "com/example/susurrus/susurrus/XmlNamesIsNameStartPinLaw"), (2, u "law"), (0, u "(IIJ)Z")] 5

def k1m0 : Method := { name := "<init>", desc := "()V", sig := { parameters := [], returnType := none }, accessFlags := 2, code := none }
def k1c1 : Code := { maxStack := 5, maxLocals := 15, code := code, exceptionTable := #[], attributes := #[] }
def k1m1 : Method := { name := "law", desc := "(IIJ)Z", sig := { parameters := [.int, .int, .long], returnType := some .boolean }, accessFlags := 9, code := some k1c1 }
/-- com/example/susurrus/susurrus/XmlNamesIsNameStartPinLaw -/
def k1 : Class := { plain "com/example/susurrus/susurrus/XmlNamesIsNameStartPinLaw" (some 0) with
  accessFlags := 49
  interfaces := #[]
  cf := some (fileOf pool1 80 #[] #[{ accessFlags := 2, nameIndex := 5, descriptorIndex := 6, attributes := #[] }, { accessFlags := 9, nameIndex := 84, descriptorIndex := 85, attributes := #[] }] 49 2 #[] #[])
  fields := #[]
  methods := #[k1m0, k1m1]
  instanceTypes := #[]
  staticTypes := #[]
  resolved := Array.replicate 91 none
  statics := none }

def pool2 : Array CpInfo := pool [(2, .class_ 4), (1, u "java/lang/Object"), (0, u "<init>"), (0, u "()V"), (15, .class_ 24), (1, u "com/example/susurrus/susurrus/XmlNames"), (0, u "isNameStart"), (0, u "(I)Z"), (7, .integer 55295), (0, .integer 63744), (0, .integer 64975), (0, .integer 65008), (0, .integer 65533), (0, .integer 65536), (0, .integer 983039)] 7

def k2m0 : Method := { name := "<init>", desc := "()V", sig := { parameters := [], returnType := none }, accessFlags := 2, code := none }
def k2c1 : Code := { maxStack := 2, maxLocals := 1, code := prog_161_method_3_code, exceptionTable := #[], attributes := #[] }
def k2m1 : Method := { name := "isNameStart", desc := "(I)Z", sig := { parameters := [.int], returnType := some .boolean }, accessFlags := 8, code := some k2c1 }
/-- com/example/susurrus/susurrus/XmlNames -/
def k2 : Class := { plain "com/example/susurrus/susurrus/XmlNames" (some 0) with
  accessFlags := 48
  interfaces := #[]
  cf := some (fileOf pool2 22 #[] #[{ accessFlags := 2, nameIndex := 5, descriptorIndex := 6, attributes := #[] }, { accessFlags := 8, nameIndex := 25, descriptorIndex := 26, attributes := #[] }] 48 2 #[] #[])
  fields := #[]
  methods := #[k2m0, k2m1]
  instanceTypes := #[]
  staticTypes := #[]
  resolved := Array.replicate 48 none
  statics := none }

def pool3 : Array CpInfo := pool [(1, u "java/lang/Cloneable"), (0, .class_ 1), (0, u "java/lang/Object"), (0, .class_ 3)] 3

/-- java/lang/Cloneable -/
def k3 : Class := { plain "java/lang/Cloneable" (some 0) with
  accessFlags := 1537
  interfaces := #[]
  cf := some (fileOf pool3 2 #[] #[] 1537 4 #[] #[])
  fields := #[]
  methods := #[]
  instanceTypes := #[]
  staticTypes := #[]
  resolved := Array.replicate 8 none
  statics := none }

def pool4 : Array CpInfo := pool [(1, u "java/io/Serializable"), (0, .class_ 1), (0, u "java/lang/Object"), (0, .class_ 3)] 3

/-- java/io/Serializable -/
def k4 : Class := { plain "java/io/Serializable" (some 0) with
  accessFlags := 1537
  interfaces := #[]
  cf := some (fileOf pool4 2 #[] #[] 1537 4 #[] #[])
  fields := #[]
  methods := #[]
  instanceTypes := #[]
  staticTypes := #[]
  resolved := Array.replicate 8 none
  statics := none }

/-- the primitive byte -/
def k5 : Class := { plain "byte" none with kind := .primitive 'B', accessFlags := 0x411 }
/-- [B -/
def k6 : Class := { plain "[B" (some 0) with kind := .array 5 .byte, interfaces := #[3, 4], accessFlags := 1041 }

/-- the primitive int -/
def k7 : Class := { plain "int" none with kind := .primitive 'I', accessFlags := 0x411 }
/-- [I -/
def k8 : Class := { plain "[I" (some 0) with kind := .array 7 .int, interfaces := #[3, 4], accessFlags := 1041 }

/-- the primitive long -/
def k9 : Class := { plain "long" none with kind := .primitive 'J', accessFlags := 0x411 }
/-- [J -/
def k10 : Class := { plain "[J" (some 0) with kind := .array 9 .long, interfaces := #[3, 4], accessFlags := 1041 }

def heap : Heap := #[]
def classes : Array Class := #[k0, k1, k2, k3, k4, k5, k6, k7, k8, k9, k10]
def interned : List (Array UInt16 × Addr) := []
def slotsUsed : Nat := 0
def theMethod : MethodId := ⟨1, 1⟩
def args0 : Array Value := #[.int 5, .int 6, .long 7]
def aboutOver (below : List Frame) : State where
  vm := { classes := classes, interned := interned.toArray }
  heap := heap
  slotsUsed := slotsUsed
  threads := #[{ frames := .invoking theMethod args0 :: below }]
def below0 : List Frame := [.native { method := ⟨0, 0⟩, args := #[] }]
def about1 : State := aboutOver below0
def p0 : Program := .bare "" "" ""
def e0 : Env := launch0.env 0 0 0
theorem w_frames : about1.frames = Frame.invoking theMethod args0 :: below0 := rfl
set_option maxRecDepth 65536 in
theorem w_args : argsFit about1.vm theMethod args0 = true := by decide +kernel
set_option maxRecDepth 65536 in
theorem w_heap : heapFits about1 = true := by decide +kernel
set_option maxRecDepth 65536 in
theorem w_runnable : about1.curStatus? = some .runnable := by decide +kernel
set_option maxRecDepth 65536 in
theorem w_alone : about1.alone = true := by decide +kernel
set_option maxRecDepth 65536 in
theorem w_named : about1.methodNamed? x = some theMethod := by decide +kernel
set_option maxRecDepth 65536 in
theorem w_hears : about1.hears theMethod below0 = true := by decide +kernel
set_option maxRecDepth 65536 in
theorem w_ripe : about1.ripe theMethod args0 below0 = true := by decide +kernel
theorem w_running : about1.status = .running := rfl
set_option maxRecDepth 65536 in
theorem w_room : about1.hasRoom e0.platform room_1 = true :=
  launch0.hasRoom_least _ room_1 (by decide +kernel) (by decide +kernel) (by decide +kernel) (by decide +kernel) (by decide +kernel) (by decide +kernel)
theorem allAtoms_all (ts : List Jvm.Cond) (a : Array Jvm.Value) (st : Jvm.State) : (allAtoms ts).before a st = ts.all (fun c => c.before a st) := by
  induction ts with
  | nil => rfl
  | cons c t ih =>
    show (Jvm.Cond.and c (allAtoms t)).before a st = _
    rw [Jvm.Cond.before_and, ih, List.all_cons]
def words1 : List Jvm.Cond := Jvm.Cond.code x code maxLocals ret :: tables_1
/-- a 'code' word, met by the world's own term for the bytes: nothing is compared byte by byte -/
theorem code_word {y : MethodName} {bytes : ByteArray} {mx : Nat} {rt : Option FieldType} {a : Array Value} {s : State} {m : MethodId} {meth : Method} {c : Code} (h1 : s.methodNamed? y = some m) (h2 : s.vm.method? m = some meth) (h3 : meth.code = some c) (h4 : c.code = bytes)
    (h5 : (c.maxLocals == mx && c.exceptionTable.isEmpty && decide (c.maxStack ≤ mostOperands) && decide (meth.sig.returnType = rt) && !meth.locks && decide (parseMethodDescriptor y.desc = some meth.sig)) = true) : (Jvm.Cond.code y bytes mx rt).before a s = true := by
  simp only [Bool.and_eq_true, beq_iff_eq, Bool.not_eq_true', decide_eq_true_eq] at h5
  obtain ⟨⟨⟨⟨⟨g1, g2⟩, g3⟩, g4⟩, g5⟩, g6⟩ := h5
  simp [Cond.before, Cond.holds, Cond.value, h1, h2, h3, h4, g1, g2, g3, g4, g5, g6]
def isCode : Jvm.Cond → Bool
  | .code _ _ _ _ => true
  | _ => false
theorem all_split {L : List Jvm.Cond} {P : Jvm.Cond → Bool} (h1 : L.all (fun c => isCode c || P c) = true) (h2 : ∀ c ∈ L.filter isCode, P c = true) : L.all P = true := by
  refine List.all_eq_true.mpr fun c hc => ?_
  have h := List.all_eq_true.mp h1 c hc
  rcases Bool.eq_false_or_eq_true (isCode c) with hi | hi
  · exact h2 c (List.mem_filter.mpr ⟨hc, hi⟩)
  · simpa [hi] using h
set_option maxRecDepth 65536 in
theorem w_c0 : (Jvm.Cond.code x code maxLocals ret).before args0 about1 = true := code_word (m := ⟨1, 1⟩) (meth := k1m1) (c := k1c1) (by decide +kernel) rfl rfl rfl (by decide +kernel)
set_option maxRecDepth 65536 in
theorem w_c1 : (Jvm.Cond.code ({ cls := "com/example/susurrus/susurrus/XmlNames", name := "isNameStart", desc := "(I)Z" } : Jvm.MethodName) prog_161_method_3_code (1 : Nat) (Option.some Jvm.ClassFile.FieldType.boolean)).before args0 about1 = true := code_word (m := ⟨2, 1⟩) (meth := k2m1) (c := k2c1) (by decide +kernel) rfl rfl rfl (by decide +kernel)
def codes1 : List Jvm.Cond := [Jvm.Cond.code x code maxLocals ret, Jvm.Cond.code ({ cls := "com/example/susurrus/susurrus/XmlNames", name := "isNameStart", desc := "(I)Z" } : Jvm.MethodName) prog_161_method_3_code (1 : Nat) (Option.some Jvm.ClassFile.FieldType.boolean)]
set_option maxRecDepth 65536 in
theorem codes_eq : words1.filter isCode = codes1 := rfl
theorem w_codes : ∀ c ∈ words1.filter isCode, c.before args0 about1 = true := by
  rw [codes_eq]
  intro c hc
  simp only [codes1, List.mem_cons, List.not_mem_nil, or_false] at hc
  rcases hc with rfl | rfl
  · exact w_c0
  · exact w_c1
set_option maxRecDepth 65536 in
theorem w_t1 : (words1.take 24).all (fun c => isCode c || c.before args0 about1) = true := by decide +kernel
set_option maxRecDepth 65536 in
theorem w_t2 : (words1.drop 24).all (fun c => isCode c || c.before args0 about1) = true := by decide +kernel
theorem w_tables : (allAtoms (Jvm.Cond.code x code maxLocals ret :: tables_1)).before args0 about1 = true := by
  rw [allAtoms_all]
  show words1.all (fun c => c.before args0 about1) = true
  refine all_split ?_ w_codes
  rw [← List.take_append_drop 24 words1, List.all_append, w_t1, w_t2]
  rfl
set_option maxRecDepth 65536 in
theorem w_case : (Jvm.Cond.and given_1 narrow_1).before args0 about1 = true := by decide +kernel
theorem w_applies : (headSpec (Jvm.Cond.code x code maxLocals ret :: tables_1) room_1).applies x e0.platform about1 = true :=
  (Spec.applies_iff w_frames).mpr ⟨w_running, w_runnable, w_alone, w_named, w_hears, w_ripe, w_room, w_tables⟩
theorem atStart : AtStart classFile x code maxLocals ret World_1 tables_1 room_1 Calls_1 rest_1 Pre_1 launch0 p0 e0 about1 theMethod args0 below0 :=
  ⟨lists_1, trivial, launch0.admits_env _ _ _, launch0.least_env, fairChoices_fair.cas, fairChoices_fair.clock, w_frames, w_args, w_heap, w_applies, trivial, trivial, w_case⟩
end start1
theorem witness_1 : WitnessClaimed_1 := ⟨start1.p0, start1.e0, start1.about1, start1.theMethod, start1.args0, start1.below0, start1.atStart⟩
end Jvm.Pilot.@@N@@
