import JvmDerived
import JvmDerived.Pilot.@@N@@Statement
import JvmDerived.Pilot.@@N@@Code
set_option linter.unusedVariables false
set_option linter.unusedSimpArgs false
namespace Jvm.RoadKit
open Sem ClassFile Op Lib Jvm.Stand Jvm.Free Jvm.LawKit
section New
variable {p : Program} {l : Launch} {e : Env} {R : Room} {s : State} {m : MethodId} {args : Array Value} {below : List Frame} {meth : Method} {c : Code} {T : State} {locs : List Loc} {cells slots : Nat}
theorem retI (X : Stand p l e R s m args below meth c T locs cells slots) (hx : p.tables.exec = Jvm.exec) {pc : Nat} {Ls : Array Slot} {z : Int32} {rest : List Value} (hret : meth.sig.returnType = some .int) (hd : decode c.code pc = .ok (.ireturn, 1)) {fs : List Frame}
    (hl : ∀ (f : JFrame) (acts : List Action), f.method = m → f.locked = none → f.entered = [] → (doReturn e (T.setTop f) acts (some (.int z))).1 = T.setFrames fs) : Steps p.tables e below (T.setTop (mkF m pc Ls (.int z :: rest))) (T.setFrames fs) := by
  have hm' : T.vm.method? m = some meth := X.method'
  have hn : narrow .int (.int z) = .int z := rfl
  show Steps p.tables e below (T.setTop { method := m, pc := pc, locals := Ls, stack := _ :: rest, locked := none }) _
  jvm_step X.here [X.here.top, hx, hd, hm', hret, hn]
  first | (intro acts; rw [hl _ acts rfl rfl rfl]) | rw [hl _ _ rfl rfl rfl]
  exact Steps.refl _
/-- the run from G on comes to an end that Q speaks of -/
def Go (p : Program) (e : Env) (below : List Frame) (s : State) (Q : Option Value → Heap → List Loc → Prop) (ck sk : Nat) (G : State) : Prop :=
  ∃ s₂ o, Steps p.tables e below G s₂ ∧ s₂.status = .running ∧ Ended s₂ below o ∧ ∃ v L, o = .returned v ∧ Q v s₂.heap L ∧ FrameEnd s o s₂ L ck sk
theorem Go.of {Q : Option Value → Heap → List Loc → Prop} {ck sk : Nat} {G G' : State} (h : ∀ t, Steps p.tables e below G' t → Steps p.tables e below G t) (k : Go p e below s Q ck sk G') : Go p e below s Q ck sk G := by
  obtain ⟨s₂, o, h1, r⟩ := k
  exact ⟨s₂, o, h _ h1, r⟩
theorem Go.ret (X : Stand p l e R s m args below meth c T locs cells slots) {Q : Option Value → Heap → List Loc → Prop} {ck sk : Nat} {G : State} (v : Option Value) (hv : meth.sig.returnType = none → v = none) (hlk : meth.locks = false) (hq : Q v T.heap locs) (hc : cells ≤ ck) (hs : slots ≤ sk)
    (st : ∀ fs, (∀ (f : JFrame) (acts : List Action), f.method = m → f.locked = none → f.entered = [] → (doReturn e (T.setTop f) acts v).1 = T.setFrames fs) → Steps p.tables e below G (T.setFrames fs)) : Go p e below s Q ck sk G := by
  obtain ⟨fs, hr, hrun, hended, hW, hsame⟩ := X.leave hv hlk
  exact ⟨_, _, st fs hr, hrun, hended, v, locs, rfl, hq, ⟨_, rfl⟩, hW, hsame.mono hc hs⟩
/-- what it returns, that it wrote nothing old, and that the heap is as it was -/
def QP (val : Option Value) (h0 : Heap) (n0 : Nat) (v : Option Value) (h : Heap) (L : List Loc) : Prop := v = val ∧ Fr n0 L ∧ h = h0
/-- what it returns, and that it wrote nothing old -/
def QL (val : Option Value) (n0 : Nat) (v : Option Value) (h : Heap) (L : List Loc) : Prop := v = val ∧ Fr n0 L
theorem lremM {g : JFrame} {target : State} (X : Stand p l e R s m args below meth c T locs cells slots) (hx : p.tables.exec = Jvm.exec) (hg : g.method = m) {x y : Int64} {rest : List Value} (hd : decode c.code g.pc = .ok (.lrem, 1)) (hs : g.stack = .long y :: .long x :: rest) (hy : y ≠ 0)
    (hr : Steps p.tables e below (T.setTop { g with pc := g.pc + 1, stack := .long (x % y) :: rest }) target) : Steps p.tables e below (T.setTop g) target := by
  have q : x - x / y * y = x % y := lrem_mod x y
  exact XS.lrem X.here hx hg hd hs hy (by rw [q]; exact hr)
end New
end Jvm.RoadKit
namespace Jvm.Pilot.@@N@@
open Jvm Jvm.ClassFile Sem Op Lib Jvm.Free Jvm.Stand Jvm.LawKit Jvm.RoadKit Bundle Jvm.Pilot.@@N@@.Jvm.D
theorem own_getDI : ∀ (L : List Int32) (i : Nat), (L.map Value.int).getD i (.int (0 : Int32)) = .int (L.getD i 0)
  | [], i => by simp
  | a :: L, 0 => by simp
  | a :: L, i + 1 => by simpa using own_getDI L i
theorem own_getDL : ∀ (L : List Int64) (i : Nat), (L.map Value.long).getD i (.long (0 : Int64)) = .long (L.getD i 0)
  | [], i => by simp
  | a :: L, 0 => by simp
  | a :: L, i + 1 => by simpa using own_getDL L i
theorem d1_0 : decode jdk_29_method_69_code 0 = .ok (.iload_n 0, 1) := by decide +kernel
theorem d1_1 : decode jdk_29_method_69_code 1 = .ok (.iload_n 1, 1) := by decide +kernel
theorem d1_2 : decode jdk_29_method_69_code 2 = .ok (.if_icmp .gt 7, 3) := by decide +kernel
theorem d1_5 : decode jdk_29_method_69_code 5 = .ok (.iload_n 0, 1) := by decide +kernel
theorem d1_6 : decode jdk_29_method_69_code 6 = .ok (.goto 4, 3) := by decide +kernel
theorem d1_9 : decode jdk_29_method_69_code 9 = .ok (.iload_n 1, 1) := by decide +kernel
theorem d1_10 : decode jdk_29_method_69_code 10 = .ok (.ireturn, 1) := by decide +kernel
theorem ef_1 (m : MethodId) (p0 : Int32) (p1 : Int32) : entryFrame m #[(.int p0), (.int p1)] 2 = mkF m 0 #[.val (.int p0), .val (.int p1)] [] := by first | (simp [entryFrame, mkF, argsToLocals, Value.category]; done) | rfl
def F1 (p0 : Int32) (p1 : Int32) : Int32 := (if p1 < p0 then p1 else p0)
set_option maxRecDepth 65536 in
set_option maxHeartbeats 40000000 in
theorem rm1 (l : Launch) (Z : State) (az : Array Value) (hw : ∀ d ∈ tables_1, d.before az Z = true) (ws : List Jvm.Cond) (p0 : Int32) (p1 : Int32)  (h0 : Heap) (n0 : Nat) (Z0 : n0 ≤ h0.size) :
    MetFree l (⟨"java/lang/Math", "min", "(II)I"⟩ : MethodName) (head1 (Jvm.Cond.code (⟨"java/lang/Math", "min", "(II)I"⟩ : MethodName) jdk_29_method_69_code 2 (some .int) :: ws) ({ frames := 0, cells := 0, slots := 0, locals := 0 } : Room)) (fun a U => a = #[(.int p0), (.int p1)] ∧ Z.Warmed39 U.vm ∧ U.heap = h0) (fun _ _ _ _ _ => True) (fun _ U o U' => ∃ v L, o = .returned v ∧ (QP (some (.int (F1 p0 p1))) h0 n0) v U'.heap L ∧ FrameEnd U o U' L ({ frames := 0, cells := 0, slots := 0, locals := 0 } : Room).cells ({ frames := 0, cells := 0, slots := 0, locals := 0 } : Room).slots) := by
  refine MetFree.of_bodySF (Jvm.Free.JP.mathPlain rfl (by decide +kernel)) hisR ?_
  intro p e s m args below meth c s₁ Bd hml0 hP hK
  obtain ⟨rfl, hZ, hh⟩ := hP
  have hx := Bd.exec
  have hby := Bd.bytes
  have hml : c.maxLocals = 2 := hml0
  have hown : s.vm.findClass "java/lang/Math" = some m.cls := findClass_of_methodNamed Bd.named
  have hnm := (name_of_methodNamed Bd.named Bd.method).1
  have hlk : meth.locks = false := BodyLoose.notSynchronized Bd
  have X0 : Stand p l e ({ frames := 0, cells := 0, slots := 0, locals := 0 } : Room) s m #[(.int p0), (.int p1)] below meth c s₁ [] 0 0 := Stand.of_body Bd
  have e0 : s₁.heap = h0 := by rw [← hh, Bd.state]; rfl
  have N0 := Fr.nil n0
  show Go p e below s (QP (some (.int (F1 p0 p1))) h0 n0) ({ frames := 0, cells := 0, slots := 0, locals := 0 } : Room).cells ({ frames := 0, cells := 0, slots := 0, locals := 0 } : Room).slots (s₁.setTop (entryFrame m #[(.int p0), (.int p1)] 2))
  refine Go.of (fun t k => castTop (ef_1 m p0 p1) k) ?_
  show Go p e below s _ _ _ (s₁.setTop (mkF m 0 #[.val (.int p0), .val (.int p1)] []))
  unfold F1
  refine Go.of (fun t k => XS.iloadN X0.here hx rfl (hb hby d1_0) rfl k) ?_
  show Go p e below s _ _ _ (s₁.setTop (mkF m 1 #[.val (.int p0), .val (.int p1)] [(.int p0)]))
  refine Go.of (fun t k => XS.iloadN X0.here hx rfl (hb hby d1_1) rfl k) ?_
  show Go p e below s _ _ _ (s₁.setTop (mkF m 2 #[.val (.int p0), .val (.int p1)] [(.int p1), (.int p0)]))
  by_cases hc2_1 : p1 < p0
  · rewrite [if_pos hc2_1]
    refine Go.of (fun t k => XS.icmpYes X0.here hx rfl (pc0 := 2) (pc' := 9) rfl (hb hby d1_2) rfl (tlt hc2_1).2.2.1 (by decide) (by decide) k) ?_
    show Go p e below s _ _ _ (s₁.setTop (mkF m 9 #[.val (.int p0), .val (.int p1)] []))
    refine Go.of (fun t k => XS.iloadN X0.here hx rfl (hb hby d1_9) rfl k) ?_
    show Go p e below s _ _ _ (s₁.setTop (mkF m 10 #[.val (.int p0), .val (.int p1)] [(.int p1)]))
    exact Go.ret X0 (some (.int p1)) (fun h => by rw [Bd.returns] at h; cases h) hlk ⟨rfl, N0, e0⟩ (by decide) (by decide) (fun fs hr => (retI X0 hx Bd.returns (hb hby d1_10) hr))
  · rewrite [if_neg hc2_1]
    refine Go.of (fun t k => XS.icmpNo X0.here hx rfl (hb hby d1_2) rfl (flt hc2_1).2.2.1 k) ?_
    show Go p e below s _ _ _ (s₁.setTop (mkF m 5 #[.val (.int p0), .val (.int p1)] []))
    refine Go.of (fun t k => XS.iloadN X0.here hx rfl (hb hby d1_5) rfl k) ?_
    show Go p e below s _ _ _ (s₁.setTop (mkF m 6 #[.val (.int p0), .val (.int p1)] [(.int p0)]))
    refine Go.of (fun t k => XS.goto X0.here hx rfl (pc0 := 6) (pc' := 10) rfl (hb hby d1_6) (by decide) (by decide) k) ?_
    show Go p e below s _ _ _ (s₁.setTop (mkF m 10 #[.val (.int p0), .val (.int p1)] [(.int p0)]))
    exact Go.ret X0 (some (.int p0)) (fun h => by rw [Bd.returns] at h; cases h) hlk ⟨rfl, N0, e0⟩ (by decide) (by decide) (fun fs hr => (retI X0 hx Bd.returns (hb hby d1_10) hr))
theorem own_sel {s : State} {args : Array Value} {y : MethodName} {n : Nat} (wi : (Cond.instantiable y.cls n).before #[] s = true) (hp : s.PrivateAt y) (hinst : (Cond.instanceMethod y).before args s = true) (hy : y.cls ≠ "java/lang/invoke/MethodHandle" ∧ y.cls ≠ "java/lang/invoke/VarHandle") : (Cond.selects y.cls y y).before args s = true := by
  obtain ⟨c, k, h1, h2, -, h4, -⟩ := Cond.instantiable_spec wi
  exact Jvm.Stand.selects_self_of_private h1 h2 (by simpa using (Bool.or_eq_false_iff.mp h4).1) hp hinst hy
def own_move (A L : List Int32) (sp dp nn : Nat) : List Int32 := L.take dp ++ (List.range nn).map (fun i => A.getD (sp + i) 0) ++ L.drop (dp + nn)
theorem own_mv (A L : List Int32) (sp dp nn : Nat) : (own_move A L sp dp nn).map Value.int = (L.map Value.int).take dp ++ (List.range nn).map (fun i => (A.map Value.int).getD (sp + i) (.int (0 : Int32))) ++ (L.map Value.int).drop (dp + nn) := by
  unfold own_move
  simp only [List.map_append, List.map_take, List.map_drop, List.map_map, own_getDI]
  rfl
theorem own_mvlen (A L : List Int32) (sp dp nn : Nat) (h : dp + nn ≤ L.length) : (own_move A L sp dp nn).length = L.length := by
  unfold own_move
  simp only [List.length_append, List.length_take, List.length_map, List.length_range, List.length_drop]
  omega
def own_Z8 : List Int32 := [(0 : Int32), (0 : Int32), (0 : Int32), (0 : Int32), (0 : Int32), (0 : Int32), (0 : Int32), (0 : Int32)]
theorem own_z : (0 : Int32).toInt = 0 := by decide
theorem own_nn {a : Int32} (h : 0 ≤ a.toInt) : ¬ (a < 0) := by rw [Int32.lt_iff_toInt_lt, own_z]; omega
theorem own_min {n p : Int32} (h : 0 ≤ n.toInt ∧ n.toInt < p.toInt ∧ p.toInt ≤ 8) : F1 n p = n := by
  unfold F1
  rw [if_neg]
  rw [Int32.lt_iff_toInt_lt]; omega
theorem own_cne {n p : Int32} (h : 0 ≤ n.toInt ∧ n.toInt < p.toInt ∧ p.toInt ≤ 8) : ¬ (p = n) := fun e => by rw [e] at h; omega
theorem own_c0 {n p : Int32} (h : 0 ≤ n.toInt ∧ n.toInt < p.toInt ∧ p.toInt ≤ 8) : ¬ (p < 0) := own_nn (by omega)
theorem own_c8 {n p : Int32} (h : 0 ≤ n.toInt ∧ n.toInt < p.toInt ∧ p.toInt ≤ 8) : p.toNatClampNeg ≤ 8 := by have := nat_of (own_c0 h); omega
theorem own_m3 {n p : Int32} (h : 0 ≤ n.toInt ∧ n.toInt < p.toInt ∧ p.toInt ≤ 8) : ¬ (F1 n p < 0) := by rw [own_min h]; exact own_nn h.1
theorem own_m4 {n p : Int32} (h : 0 ≤ n.toInt ∧ n.toInt < p.toInt ∧ p.toInt ≤ 8) : (0 : Int32).toNatClampNeg + (F1 n p).toNatClampNeg ≤ n.toNatClampNeg := by
  rw [own_min h]; have : (0 : Int32).toNatClampNeg = 0 := by decide
  omega
theorem own_m5 {n p : Int32} (h : 0 ≤ n.toInt ∧ n.toInt < p.toInt ∧ p.toInt ≤ 8) : (0 : Int32).toNatClampNeg + (F1 n p).toNatClampNeg ≤ p.toNatClampNeg := by
  rw [own_min h]; have : (0 : Int32).toNatClampNeg = 0 := by decide
  have a := nat_of (own_c0 h); have b := nat_of (own_nn h.1)
  omega
theorem own_m8 {n p : Int32} (h : 0 ≤ n.toInt ∧ n.toInt < p.toInt ∧ p.toInt ≤ 8) : (0 : Int32).toNatClampNeg + (F1 n p).toNatClampNeg ≤ 8 := Nat.le_trans (own_m5 h) (own_c8 h)
theorem own_len8 (A : List Int32) (n p : Int32) (h : 0 ≤ n.toInt ∧ n.toInt < p.toInt ∧ p.toInt ≤ 8) : (own_move A [(0 : Int32), (0 : Int32), (0 : Int32), (0 : Int32), (0 : Int32), (0 : Int32), (0 : Int32), (0 : Int32)] ((0 : Int32)).toNatClampNeg ((0 : Int32)).toNatClampNeg ((F1 n p)).toNatClampNeg).length = 8 := own_mvlen _ _ _ _ _ (own_m8 h)
theorem own_put {A : List Int32} {n p : Int32} {k : Nat} (h : 0 ≤ n.toInt ∧ n.toInt < p.toInt ∧ p.toInt ≤ 8) (hk : k < 8) : k < (own_move A [(0 : Int32), (0 : Int32), (0 : Int32), (0 : Int32), (0 : Int32), (0 : Int32), (0 : Int32), (0 : Int32)] ((0 : Int32)).toNatClampNeg ((0 : Int32)).toNatClampNeg ((F1 n p)).toNatClampNeg).length := by rw [own_len8 A n p h]; exact hk
theorem own_cpl {A : List Int32} {n p : Int32} {k : Nat} (h : 0 ≤ n.toInt ∧ n.toInt < p.toInt ∧ p.toInt ≤ 8) (hk : k ≤ 8) : k ≤ (own_move A [(0 : Int32), (0 : Int32), (0 : Int32), (0 : Int32), (0 : Int32), (0 : Int32), (0 : Int32), (0 : Int32)] ((0 : Int32)).toNatClampNeg ((0 : Int32)).toNatClampNeg ((F1 n p)).toNatClampNeg).length := by rw [own_len8 A n p h]; exact hk
theorem own_atl {A : List Int32} {n p : Int32} {sp dp nn k : Nat} (h : 0 ≤ n.toInt ∧ n.toInt < p.toInt ∧ p.toInt ≤ 8) (hd : dp + nn ≤ 8) (hk : k < 8) : k < (own_move (own_move A [(0 : Int32), (0 : Int32), (0 : Int32), (0 : Int32), (0 : Int32), (0 : Int32), (0 : Int32), (0 : Int32)] ((0 : Int32)).toNatClampNeg ((0 : Int32)).toNatClampNeg ((F1 n p)).toNatClampNeg) (own_move A [(0 : Int32), (0 : Int32), (0 : Int32), (0 : Int32), (0 : Int32), (0 : Int32), (0 : Int32), (0 : Int32)] ((0 : Int32)).toNatClampNeg ((0 : Int32)).toNatClampNeg ((F1 n p)).toNatClampNeg) sp dp nn).length := by
  rw [own_mvlen _ _ _ _ _ (by rw [own_len8 A n p h]; exact hd), own_len8 A n p h]; exact hk
theorem own_lt8 {L : List Int32} {k : Nat} (h : L.length = 8) (hk : k < 8) : k < L.length := by rw [h]; exact hk
theorem own_e1 : (1 : Int32).toInt = 1 := by decide
theorem own_fin {i s e n : Int32} (hI : s.toInt ≤ i.toInt ∧ i.toInt ≤ e.toInt) (h : 0 ≤ s.toInt ∧ s.toInt ≤ e.toInt ∧ e.toInt ≤ n.toInt ∧ e.toInt - s.toInt ≤ 3) (hc : i < e) : ¬ (i < 0) ∧ i < n := by
  rw [Int32.lt_iff_toInt_lt] at hc
  rw [Int32.lt_iff_toInt_lt, Int32.lt_iff_toInt_lt, own_z]; omega
theorem own_ffi {s e n : Int32} (h : 0 ≤ s.toInt ∧ s.toInt ≤ e.toInt ∧ e.toInt ≤ n.toInt ∧ e.toInt - s.toInt ≤ 3) : (s.toInt ≤ s.toInt ∧ s.toInt ≤ e.toInt) ∧ (e.toInt - s.toInt).toNat < 4 := by omega
theorem own_fst {i s e n : Int32} {f : Nat} (hI : (s.toInt ≤ i.toInt ∧ i.toInt ≤ e.toInt) ∧ (e.toInt - i.toInt).toNat < f + 1) (h : 0 ≤ s.toInt ∧ s.toInt ≤ e.toInt ∧ e.toInt ≤ n.toInt ∧ e.toInt - s.toInt ≤ 3) (hc : i < e) : (s.toInt ≤ (i + (1 : Int32)).toInt ∧ (i + (1 : Int32)).toInt ≤ e.toInt) ∧ (e.toInt - (i + (1 : Int32)).toInt).toNat < f := by
  have q := c_iadd i 1
  have r := rng32 (i + 1)
  have r2 := rng32 e
  have z := own_e1
  rw [Int32.lt_iff_toInt_lt] at hc
  omega
theorem own_23 {a : Int32} (h : a < (2 : Int32)) : a < (3 : Int32) := by
  rw [Int32.lt_iff_toInt_lt] at h ⊢
  have e2 : (2 : Int32).toInt = 2 := by decide
  have e3 : (3 : Int32).toInt = 3 := by decide
  omega
theorem own_hr (p : Int32) : (1 : Int32) + (p &&& (3 : Int32)) = 1 ∨ (1 : Int32) + (p &&& (3 : Int32)) = 2 ∨ (1 : Int32) + (p &&& (3 : Int32)) = 3 ∨ (1 : Int32) + (p &&& (3 : Int32)) = 4 := by
  have m := c_mask p 3 2 (by decide) (by decide)
  have a := c_iadd 1 (p &&& 3)
  have r := rng32 (1 + (p &&& 3))
  have e1 := own_e1
  have e2 : (2 : Int32).toInt = 2 := by decide
  have e3 : (3 : Int32).toInt = 3 := by decide
  have e4 : (4 : Int32).toInt = 4 := by decide
  simp only [← Int32.toInt_inj, e1, e2, e3, e4]
  omega
theorem own_last {v : Int32} (h : v = 1 ∨ v = 2 ∨ v = 3 ∨ v = 4) (h1 : ¬ v = (1 : Int32)) (h2 : ¬ v = (2 : Int32)) (h3 : ¬ v = (3 : Int32)) : v = (4 : Int32) := by
  rcases h with h | h | h | h
  · exact absurd h h1
  · exact absurd h h2
  · exact absurd h h3
  · exact h
theorem d6_0 : decode jdk_29_method_66_code 0 = .ok (.lload_n 0, 1) := by decide +kernel
theorem d6_1 : decode jdk_29_method_66_code 1 = .ok (.lload_n 2, 1) := by decide +kernel
theorem d6_2 : decode jdk_29_method_66_code 2 = .ok (.lcmp, 1) := by decide +kernel
theorem d6_3 : decode jdk_29_method_66_code 3 = .ok (.ifCond .lt 7, 3) := by decide +kernel
theorem d6_6 : decode jdk_29_method_66_code 6 = .ok (.lload_n 0, 1) := by decide +kernel
theorem d6_7 : decode jdk_29_method_66_code 7 = .ok (.goto 4, 3) := by decide +kernel
theorem d6_10 : decode jdk_29_method_66_code 10 = .ok (.lload_n 2, 1) := by decide +kernel
theorem d6_11 : decode jdk_29_method_66_code 11 = .ok (.lreturn, 1) := by decide +kernel
theorem ef_6 (m : MethodId) (q0 : Int64) (q1 : Int64) : entryFrame m #[(.long q0), (.long q1)] 4 = mkF m 0 #[.val (.long q0), .second, .val (.long q1), .second] [] := by first | (simp [entryFrame, mkF, argsToLocals, Value.category]; done) | rfl
def F6 (q0 : Int64) (q1 : Int64) : Int64 := (if q0 < q1 then q1 else q0)
set_option maxRecDepth 65536 in
set_option maxHeartbeats 40000000 in
theorem rm6 (l : Launch) (Z : State) (az : Array Value) (hw : ∀ d ∈ tables_1, d.before az Z = true) (ws : List Jvm.Cond) (q0 : Int64) (q1 : Int64)  (h0 : Heap) (n0 : Nat) (Z0 : n0 ≤ h0.size) :
    MetFree l (⟨"java/lang/Math", "max", "(JJ)J"⟩ : MethodName) (head1 (Jvm.Cond.code (⟨"java/lang/Math", "max", "(JJ)J"⟩ : MethodName) jdk_29_method_66_code 4 (some .long) :: ws) ({ frames := 0, cells := 0, slots := 0, locals := 0 } : Room)) (fun a U => a = #[(.long q0), (.long q1)] ∧ Z.Warmed39 U.vm ∧ U.heap = h0) (fun _ _ _ _ _ => True) (fun _ U o U' => ∃ v L, o = .returned v ∧ (QP (some (.long (F6 q0 q1))) h0 n0) v U'.heap L ∧ FrameEnd U o U' L ({ frames := 0, cells := 0, slots := 0, locals := 0 } : Room).cells ({ frames := 0, cells := 0, slots := 0, locals := 0 } : Room).slots) := by
  refine MetFree.of_bodySF (Jvm.Free.JP.mathPlain rfl (by decide +kernel)) hisR ?_
  intro p e s m args below meth c s₁ Bd hml0 hP hK
  obtain ⟨rfl, hZ, hh⟩ := hP
  have hx := Bd.exec
  have hby := Bd.bytes
  have hml : c.maxLocals = 4 := hml0
  have hown : s.vm.findClass "java/lang/Math" = some m.cls := findClass_of_methodNamed Bd.named
  have hnm := (name_of_methodNamed Bd.named Bd.method).1
  have hlk : meth.locks = false := BodyLoose.notSynchronized Bd
  have X0 : Stand p l e ({ frames := 0, cells := 0, slots := 0, locals := 0 } : Room) s m #[(.long q0), (.long q1)] below meth c s₁ [] 0 0 := Stand.of_body Bd
  have e0 : s₁.heap = h0 := by rw [← hh, Bd.state]; rfl
  have N0 := Fr.nil n0
  show Go p e below s (QP (some (.long (F6 q0 q1))) h0 n0) ({ frames := 0, cells := 0, slots := 0, locals := 0 } : Room).cells ({ frames := 0, cells := 0, slots := 0, locals := 0 } : Room).slots (s₁.setTop (entryFrame m #[(.long q0), (.long q1)] 4))
  refine Go.of (fun t k => castTop (ef_6 m q0 q1) k) ?_
  show Go p e below s _ _ _ (s₁.setTop (mkF m 0 #[.val (.long q0), .second, .val (.long q1), .second] []))
  unfold F6
  refine Go.of (fun t k => XS.lloadN X0.here hx rfl (hb hby d6_0) rfl k) ?_
  show Go p e below s _ _ _ (s₁.setTop (mkF m 1 #[.val (.long q0), .second, .val (.long q1), .second] [(.long q0)]))
  refine Go.of (fun t k => XS.lloadN X0.here hx rfl (hb hby d6_1) rfl k) ?_
  show Go p e below s _ _ _ (s₁.setTop (mkF m 2 #[.val (.long q0), .second, .val (.long q1), .second] [(.long q1), (.long q0)]))
  refine Go.of (fun t k => XS.lcmp X0.here hx rfl (hb hby d6_2) rfl k) ?_
  show Go p e below s _ _ _ (s₁.setTop (mkF m 3 #[.val (.long q0), .second, .val (.long q1), .second] [(.int (lcmpW q0 q1))]))
  by_cases hc3_1 : q0 < q1
  · rewrite [if_pos hc3_1]
    refine Go.of (fun t k => XS.ifYes X0.here hx rfl (pc0 := 3) (pc' := 10) rfl (hb hby d6_3) rfl ((if0 _ _).trans (tlt ((lw_lt q0 q1).mpr hc3_1)).1) (by decide) (by decide) k) ?_
    show Go p e below s _ _ _ (s₁.setTop (mkF m 10 #[.val (.long q0), .second, .val (.long q1), .second] []))
    refine Go.of (fun t k => XS.lloadN X0.here hx rfl (hb hby d6_10) rfl k) ?_
    show Go p e below s _ _ _ (s₁.setTop (mkF m 11 #[.val (.long q0), .second, .val (.long q1), .second] [(.long q1)]))
    exact Go.ret X0 (some (.long q1)) (fun h => by rw [Bd.returns] at h; cases h) hlk ⟨rfl, N0, e0⟩ (by decide) (by decide) (fun fs hr => (retOut X0 hx Bd.returns rfl (Or.inr (Or.inl ⟨rfl, rfl, _, rfl⟩)) (hb hby d6_11) hr))
  · rewrite [if_neg hc3_1]
    refine Go.of (fun t k => XS.ifNo X0.here hx rfl (hb hby d6_3) rfl ((if0 _ _).trans (flt (mt (lw_lt q0 q1).mp hc3_1)).1) k) ?_
    show Go p e below s _ _ _ (s₁.setTop (mkF m 6 #[.val (.long q0), .second, .val (.long q1), .second] []))
    refine Go.of (fun t k => XS.lloadN X0.here hx rfl (hb hby d6_6) rfl k) ?_
    show Go p e below s _ _ _ (s₁.setTop (mkF m 7 #[.val (.long q0), .second, .val (.long q1), .second] [(.long q0)]))
    refine Go.of (fun t k => XS.goto X0.here hx rfl (pc0 := 7) (pc' := 11) rfl (hb hby d6_7) (by decide) (by decide) k) ?_
    show Go p e below s _ _ _ (s₁.setTop (mkF m 11 #[.val (.long q0), .second, .val (.long q1), .second] [(.long q0)]))
    exact Go.ret X0 (some (.long q0)) (fun h => by rw [Bd.returns] at h; cases h) hlk ⟨rfl, N0, e0⟩ (by decide) (by decide) (fun fs hr => (retOut X0 hx Bd.returns rfl (Or.inr (Or.inl ⟨rfl, rfl, _, rfl⟩)) (hb hby d6_11) hr))
theorem d7_0 : decode jdk_29_method_70_code 0 = .ok (.lload_n 0, 1) := by decide +kernel
theorem d7_1 : decode jdk_29_method_70_code 1 = .ok (.lload_n 2, 1) := by decide +kernel
theorem d7_2 : decode jdk_29_method_70_code 2 = .ok (.lcmp, 1) := by decide +kernel
theorem d7_3 : decode jdk_29_method_70_code 3 = .ok (.ifCond .gt 7, 3) := by decide +kernel
theorem d7_6 : decode jdk_29_method_70_code 6 = .ok (.lload_n 0, 1) := by decide +kernel
theorem d7_7 : decode jdk_29_method_70_code 7 = .ok (.goto 4, 3) := by decide +kernel
theorem d7_10 : decode jdk_29_method_70_code 10 = .ok (.lload_n 2, 1) := by decide +kernel
theorem d7_11 : decode jdk_29_method_70_code 11 = .ok (.lreturn, 1) := by decide +kernel
theorem ef_7 (m : MethodId) (q0 : Int64) (q1 : Int64) : entryFrame m #[(.long q0), (.long q1)] 4 = mkF m 0 #[.val (.long q0), .second, .val (.long q1), .second] [] := by first | (simp [entryFrame, mkF, argsToLocals, Value.category]; done) | rfl
def F7 (q0 : Int64) (q1 : Int64) : Int64 := (if q1 < q0 then q1 else q0)
set_option maxRecDepth 65536 in
set_option maxHeartbeats 40000000 in
theorem rm7 (l : Launch) (Z : State) (az : Array Value) (hw : ∀ d ∈ tables_1, d.before az Z = true) (ws : List Jvm.Cond) (q0 : Int64) (q1 : Int64)  (h0 : Heap) (n0 : Nat) (Z0 : n0 ≤ h0.size) :
    MetFree l (⟨"java/lang/Math", "min", "(JJ)J"⟩ : MethodName) (head1 (Jvm.Cond.code (⟨"java/lang/Math", "min", "(JJ)J"⟩ : MethodName) jdk_29_method_70_code 4 (some .long) :: ws) ({ frames := 0, cells := 0, slots := 0, locals := 0 } : Room)) (fun a U => a = #[(.long q0), (.long q1)] ∧ Z.Warmed39 U.vm ∧ U.heap = h0) (fun _ _ _ _ _ => True) (fun _ U o U' => ∃ v L, o = .returned v ∧ (QP (some (.long (F7 q0 q1))) h0 n0) v U'.heap L ∧ FrameEnd U o U' L ({ frames := 0, cells := 0, slots := 0, locals := 0 } : Room).cells ({ frames := 0, cells := 0, slots := 0, locals := 0 } : Room).slots) := by
  refine MetFree.of_bodySF (Jvm.Free.JP.mathPlain rfl (by decide +kernel)) hisR ?_
  intro p e s m args below meth c s₁ Bd hml0 hP hK
  obtain ⟨rfl, hZ, hh⟩ := hP
  have hx := Bd.exec
  have hby := Bd.bytes
  have hml : c.maxLocals = 4 := hml0
  have hown : s.vm.findClass "java/lang/Math" = some m.cls := findClass_of_methodNamed Bd.named
  have hnm := (name_of_methodNamed Bd.named Bd.method).1
  have hlk : meth.locks = false := BodyLoose.notSynchronized Bd
  have X0 : Stand p l e ({ frames := 0, cells := 0, slots := 0, locals := 0 } : Room) s m #[(.long q0), (.long q1)] below meth c s₁ [] 0 0 := Stand.of_body Bd
  have e0 : s₁.heap = h0 := by rw [← hh, Bd.state]; rfl
  have N0 := Fr.nil n0
  show Go p e below s (QP (some (.long (F7 q0 q1))) h0 n0) ({ frames := 0, cells := 0, slots := 0, locals := 0 } : Room).cells ({ frames := 0, cells := 0, slots := 0, locals := 0 } : Room).slots (s₁.setTop (entryFrame m #[(.long q0), (.long q1)] 4))
  refine Go.of (fun t k => castTop (ef_7 m q0 q1) k) ?_
  show Go p e below s _ _ _ (s₁.setTop (mkF m 0 #[.val (.long q0), .second, .val (.long q1), .second] []))
  unfold F7
  refine Go.of (fun t k => XS.lloadN X0.here hx rfl (hb hby d7_0) rfl k) ?_
  show Go p e below s _ _ _ (s₁.setTop (mkF m 1 #[.val (.long q0), .second, .val (.long q1), .second] [(.long q0)]))
  refine Go.of (fun t k => XS.lloadN X0.here hx rfl (hb hby d7_1) rfl k) ?_
  show Go p e below s _ _ _ (s₁.setTop (mkF m 2 #[.val (.long q0), .second, .val (.long q1), .second] [(.long q1), (.long q0)]))
  refine Go.of (fun t k => XS.lcmp X0.here hx rfl (hb hby d7_2) rfl k) ?_
  show Go p e below s _ _ _ (s₁.setTop (mkF m 3 #[.val (.long q0), .second, .val (.long q1), .second] [(.int (lcmpW q0 q1))]))
  by_cases hc3_1 : q1 < q0
  · rewrite [if_pos hc3_1]
    refine Go.of (fun t k => XS.ifYes X0.here hx rfl (pc0 := 3) (pc' := 10) rfl (hb hby d7_3) rfl ((if0 _ _).trans (tlt ((lw_gt q0 q1).mpr hc3_1)).2.2.1) (by decide) (by decide) k) ?_
    show Go p e below s _ _ _ (s₁.setTop (mkF m 10 #[.val (.long q0), .second, .val (.long q1), .second] []))
    refine Go.of (fun t k => XS.lloadN X0.here hx rfl (hb hby d7_10) rfl k) ?_
    show Go p e below s _ _ _ (s₁.setTop (mkF m 11 #[.val (.long q0), .second, .val (.long q1), .second] [(.long q1)]))
    exact Go.ret X0 (some (.long q1)) (fun h => by rw [Bd.returns] at h; cases h) hlk ⟨rfl, N0, e0⟩ (by decide) (by decide) (fun fs hr => (retOut X0 hx Bd.returns rfl (Or.inr (Or.inl ⟨rfl, rfl, _, rfl⟩)) (hb hby d7_11) hr))
  · rewrite [if_neg hc3_1]
    refine Go.of (fun t k => XS.ifNo X0.here hx rfl (hb hby d7_3) rfl ((if0 _ _).trans (flt (mt (lw_gt q0 q1).mp hc3_1)).2.2.1) k) ?_
    show Go p e below s _ _ _ (s₁.setTop (mkF m 6 #[.val (.long q0), .second, .val (.long q1), .second] []))
    refine Go.of (fun t k => XS.lloadN X0.here hx rfl (hb hby d7_6) rfl k) ?_
    show Go p e below s _ _ _ (s₁.setTop (mkF m 7 #[.val (.long q0), .second, .val (.long q1), .second] [(.long q0)]))
    refine Go.of (fun t k => XS.goto X0.here hx rfl (pc0 := 7) (pc' := 11) rfl (hb hby d7_7) (by decide) (by decide) k) ?_
    show Go p e below s _ _ _ (s₁.setTop (mkF m 11 #[.val (.long q0), .second, .val (.long q1), .second] [(.long q0)]))
    exact Go.ret X0 (some (.long q0)) (fun h => by rw [Bd.returns] at h; cases h) hlk ⟨rfl, N0, e0⟩ (by decide) (by decide) (fun fs hr => (retOut X0 hx Bd.returns rfl (Or.inr (Or.inl ⟨rfl, rfl, _, rfl⟩)) (hb hby d7_11) hr))
def own_K (Z : State) (h : Heap) (n0 : Nat) (a xu xg xd xt xr xc : Addr) (kxu kxg kxd kxt kxr kxc : ClassId) (N : Int32) (Lxu Lxg Lxd Lxt Lxr Lxc : List Int32) (w : Int32) : Prop := Exa Z h a "com/example/susurrus/susurrus/KnownUnits" ∧ Fld Z h a "com/example/susurrus/susurrus/KnownUnits" "units" "[I" (.ref xu) ∧ Fld Z h a "com/example/susurrus/susurrus/KnownUnits" "aggregates" "[I" (.ref xg) ∧ Fld Z h a "com/example/susurrus/susurrus/KnownUnits" "senders" "[I" (.ref xd) ∧ Fld Z h a "com/example/susurrus/susurrus/KnownUnits" "starts" "[I" (.ref xt) ∧ Fld Z h a "com/example/susurrus/susurrus/KnownUnits" "rooms" "[I" (.ref xr) ∧ Fld Z h a "com/example/susurrus/susurrus/KnownUnits" "counts" "[I" (.ref xc) ∧ Fld Z h a "com/example/susurrus/susurrus/KnownUnits" "used" "I" (.int w) ∧ Arv Z h xu kxu .int N (Lxu.map Value.int) (.int (0 : Int32)) ∧ Arv Z h xg kxg .int N (Lxg.map Value.int) (.int (0 : Int32)) ∧ Arv Z h xd kxd .int N (Lxd.map Value.int) (.int (0 : Int32)) ∧ Arv Z h xt kxt .int (2 : Int32) (Lxt.map Value.int) (.int (0 : Int32)) ∧ Arv Z h xr kxr .int (2 : Int32) (Lxr.map Value.int) (.int (0 : Int32)) ∧ Arv Z h xc kxc .int (2 : Int32) (Lxc.map Value.int) (.int (0 : Int32)) ∧ n0 ≤ a ∧ n0 ≤ xu ∧ n0 ≤ xg ∧ n0 ≤ xd ∧ n0 ≤ xt ∧ n0 ≤ xr ∧ n0 ≤ xc ∧ n0 ≤ h.size ∧ a ≠ xu ∧ a ≠ xg ∧ a ≠ xd ∧ a ≠ xt ∧ a ≠ xr ∧ a ≠ xc ∧ xu ≠ xg ∧ xu ≠ xd ∧ xu ≠ xt ∧ xu ≠ xr ∧ xu ≠ xc ∧ xg ≠ xd ∧ xg ≠ xt ∧ xg ≠ xr ∧ xg ≠ xc ∧ xd ≠ xt ∧ xd ≠ xr ∧ xd ≠ xc ∧ xt ≠ xr ∧ xt ≠ xc ∧ xr ≠ xc
theorem own_pd0 : parseMethodDescriptor "(II)I" = some ⟨[.int, .int], some .int⟩ := by decide +kernel
theorem own_pn0 : plainName "java/util/Arrays" = true := by first | (simp [plainName, overriddenIn]; done) | decide +kernel
theorem d8_0 : decode jdk_65_method_123_code 0 = .ok (.iload_n 1, 1) := by decide +kernel
theorem d8_1 : decode jdk_65_method_123_code 1 = .ok (.aload_n 0, 1) := by decide +kernel
theorem d8_2 : decode jdk_65_method_123_code 2 = .ok (.arraylength, 1) := by decide +kernel
theorem d8_3 : decode jdk_65_method_123_code 3 = .ok (.if_icmp .ne 11, 3) := by decide +kernel
theorem d8_14 : decode jdk_65_method_123_code 14 = .ok (.iload_n 1, 1) := by decide +kernel
theorem d8_15 : decode jdk_65_method_123_code 15 = .ok (.newarray .int, 2) := by decide +kernel
theorem d8_17 : decode jdk_65_method_123_code 17 = .ok (.astore_n 2, 1) := by decide +kernel
theorem d8_18 : decode jdk_65_method_123_code 18 = .ok (.aload_n 0, 1) := by decide +kernel
theorem d8_19 : decode jdk_65_method_123_code 19 = .ok (.iconst 0, 1) := by decide +kernel
theorem d8_20 : decode jdk_65_method_123_code 20 = .ok (.aload_n 2, 1) := by decide +kernel
theorem d8_21 : decode jdk_65_method_123_code 21 = .ok (.iconst 0, 1) := by decide +kernel
theorem d8_22 : decode jdk_65_method_123_code 22 = .ok (.aload_n 0, 1) := by decide +kernel
theorem d8_23 : decode jdk_65_method_123_code 23 = .ok (.arraylength, 1) := by decide +kernel
theorem d8_24 : decode jdk_65_method_123_code 24 = .ok (.iload_n 1, 1) := by decide +kernel
theorem d8_25 : decode jdk_65_method_123_code 25 = .ok (.invokestatic 304, 3) := by decide +kernel
theorem d8_28 : decode jdk_65_method_123_code 28 = .ok (.invokestatic 150, 3) := by decide +kernel
theorem d8_31 : decode jdk_65_method_123_code 31 = .ok (.aload_n 2, 1) := by decide +kernel
theorem d8_32 : decode jdk_65_method_123_code 32 = .ok (.areturn, 1) := by decide +kernel
theorem ef_8 (m : MethodId) (a0 : Addr) (p1 : Int32) : entryFrame m #[(.ref a0), (.int p1)] 3 = mkF m 0 #[.val (.ref a0), .val (.int p1), .unset] [] := by first | (simp [entryFrame, mkF, argsToLocals, Value.category]; done) | rfl
def Q8 (Z : State) (p1 N : Int32) (LL : List Int32) (h0 : Heap) (n0 : Nat) (v : Option Value) (h : Heap) (Lo : List Loc) : Prop := ∃ (b : Addr) (kb : ClassId), v = some (.ref b) ∧ n0 ≤ b ∧ h0.size ≤ b ∧ Fr n0 Lo ∧ Keep h0 h [] ∧ Arv Z h b kb .int p1 ((own_move LL [(0 : Int32), (0 : Int32), (0 : Int32), (0 : Int32), (0 : Int32), (0 : Int32), (0 : Int32), (0 : Int32)] ((0 : Int32)).toNatClampNeg ((0 : Int32)).toNatClampNeg ((F1 N p1)).toNatClampNeg).map Value.int) (.int (0 : Int32))
set_option maxRecDepth 65536 in
set_option maxHeartbeats 40000000 in
theorem rm8 (l : Launch) (Z : State) (az : Array Value) (hw : ∀ d ∈ tables_1, d.before az Z = true) (ws : List Jvm.Cond) (a0 : Addr) (p1 : Int32) (k : ClassId) (N : Int32) (LL : List Int32) (h0 : Heap) (n0 : Nat) (Z0 : n0 ≤ h0.size) (V_a0 : Arv Z h0 a0 k .int N (LL.map Value.int) (.int (0 : Int32))) (hcp : 0 ≤ N.toInt ∧ N.toInt < p1.toInt ∧ p1.toInt ≤ 8) :
    MetFree l (⟨"java/util/Arrays", "copyOf", "([II)[I"⟩ : MethodName) (head1 (Jvm.Cond.code (⟨"java/util/Arrays", "copyOf", "([II)[I"⟩ : MethodName) jdk_65_method_123_code 3 (some (.array .int)) :: ws) ({ frames := 1, cells := 1, slots := 8, locals := 18 } : Room)) (fun a U => a = #[(.ref a0), (.int p1)] ∧ Z.Warmed39 U.vm ∧ U.heap = h0) (fun _ _ _ _ _ => True) (fun _ U o U' => ∃ v L, o = .returned v ∧ (Q8 Z p1 N LL h0 n0) v U'.heap L ∧ FrameEnd U o U' L ({ frames := 1, cells := 1, slots := 8, locals := 18 } : Room).cells ({ frames := 1, cells := 1, slots := 8, locals := 18 } : Room).slots) := by
  refine MetFree.of_bodySF (plainFor_of_name own_pn0) hisR ?_
  intro p e s m args below meth c s₁ Bd hml0 hP hK
  obtain ⟨rfl, hZ, hh⟩ := hP
  have hx := Bd.exec
  have hby := Bd.bytes
  have hml : c.maxLocals = 3 := hml0
  have hown : s.vm.findClass "java/util/Arrays" = some m.cls := findClass_of_methodNamed Bd.named
  have hnm := (name_of_methodNamed Bd.named Bd.method).1
  have hlk : meth.locks = false := BodyLoose.notSynchronized Bd
  have X0 : Stand p l e ({ frames := 1, cells := 1, slots := 8, locals := 18 } : Room) s m #[(.ref a0), (.int p1)] below meth c s₁ [] 0 0 := Stand.of_body Bd
  have e0 : s₁.heap = h0 := by rw [← hh, Bd.state]; rfl
  have N0 := Fr.nil n0
  show Go p e below s (Q8 Z p1 N LL h0 n0) ({ frames := 1, cells := 1, slots := 8, locals := 18 } : Room).cells ({ frames := 1, cells := 1, slots := 8, locals := 18 } : Room).slots (s₁.setTop (entryFrame m #[(.ref a0), (.int p1)] 3))
  refine Go.of (fun t k => castTop (ef_8 m a0 p1) k) ?_
  show Go p e below s _ _ _ (s₁.setTop (mkF m 0 #[.val (.ref a0), .val (.int p1), .unset] []))
  refine Go.of (fun t k => XS.iloadN X0.here hx rfl (hb hby d8_0) rfl k) ?_
  show Go p e below s _ _ _ (s₁.setTop (mkF m 1 #[.val (.ref a0), .val (.int p1), .unset] [(.int p1)]))
  refine Go.of (fun t k => XS.aloadN X0.here hx rfl (hb hby d8_1) rfl rfl k) ?_
  show Go p e below s _ _ _ (s₁.setTop (mkF m 2 #[.val (.ref a0), .val (.int p1), .unset] [(.ref a0), (.int p1)]))
  obtain ⟨cl1, Ar1, q1, S1, M1, H1, G1⟩ := id V_a0
  refine Go.of (X0.arraylength hx (by rw [e0]; exact Ar1.1) (State.isArrayOf_alike hZ.alike Ar1.2.1) (g := (mkF m 2 #[.val (.ref a0), .val (.int p1), .unset] [(.ref a0), (.int p1)])) rfl rfl (hb hby d8_2)) ?_
  rw [len_of S1 M1]
  show Go p e below s _ _ _ (s₁.setTop (mkF m 3 #[.val (.ref a0), .val (.int p1), .unset] [(.int N), (.int p1)]))
  refine Go.of (fun t k => XS.icmpYes X0.here hx rfl (pc0 := 3) (pc' := 14) rfl (hb hby d8_3) rfl (feq (own_cne hcp)).2 (by decide) (by decide) k) ?_
  show Go p e below s _ _ _ (s₁.setTop (mkF m 14 #[.val (.ref a0), .val (.int p1), .unset] []))
  refine Go.of (fun t k => XS.iloadN X0.here hx rfl (hb hby d8_14) rfl k) ?_
  show Go p e below s _ _ _ (s₁.setTop (mkF m 15 #[.val (.ref a0), .val (.int p1), .unset] [(.int p1)]))
  obtain ⟨T2, h2, k2, X2, e2, E2, A2, st2⟩ := newP X0 hx hZ (hw _ (List.mem_of_getElem? (i := 13) rfl)) e0 (g := (mkF m 15 #[.val (.ref a0), .val (.int p1), .unset] [(.int p1)])) rfl (hb hby d8_15) rfl (own_c0 hcp) (cap := 8) (own_c8 hcp) (by decide) (by decide) (by decide)
  obtain ⟨b2, ga2⟩ : ∃ z, z = h0.size := ⟨_, rfl⟩
  rw [← ga2] at A2 st2
  have g_b2 : n0 ≤ b2 := Nat.le_trans Z0 (Nat.le_of_eq ga2.symm)
  have sz_b2 : h0.size ≤ b2 := Nat.le_trans (Keep.refl h0 []).1 (Nat.le_of_eq ga2.symm)
  have ne3 : a0 ≠ b2 := Nat.ne_of_lt (Nat.lt_of_lt_of_le V_a0.lt (Nat.le_of_eq ga2.symm))
  have f4 := V_a0.ext E2
  have f5 : Arv Z h2 b2 k2 .int p1 ([(0 : Int32), (0 : Int32), (0 : Int32), (0 : Int32), (0 : Int32), (0 : Int32), (0 : Int32), (0 : Int32)].map Value.int) (.int (0 : Int32)) := (Arv.new A2 (own_c0 hcp)).pad (pad_rep [] (.int (0 : Int32)) 8)
  have K2 : Keep h0 h2 [] := Keep.ext (Keep.refl h0 []) E2
  refine Go.of st2 ?_
  show Go p e below s _ _ _ (T2.setTop (mkF m 17 #[.val (.ref a0), .val (.int p1), .unset] [(.ref b2)]))
  refine Go.of (fun t k => XS.astoreN X2.here hx rfl (hb hby d8_17) rfl rfl (l' := #[.val (.ref a0), .val (.int p1), .val (.ref b2)]) rfl k) ?_
  show Go p e below s _ _ _ (T2.setTop (mkF m 18 #[.val (.ref a0), .val (.int p1), .val (.ref b2)] []))
  refine Go.of (fun t k => XS.aloadN X2.here hx rfl (hb hby d8_18) rfl rfl k) ?_
  show Go p e below s _ _ _ (T2.setTop (mkF m 19 #[.val (.ref a0), .val (.int p1), .val (.ref b2)] [(.ref a0)]))
  refine Go.of (fun t k => XS.iconst X2.here hx rfl (hb hby d8_19) k) ?_
  show Go p e below s _ _ _ (T2.setTop (mkF m 20 #[.val (.ref a0), .val (.int p1), .val (.ref b2)] [(.int (0 : Int32)), (.ref a0)]))
  refine Go.of (fun t k => XS.aloadN X2.here hx rfl (hb hby d8_20) rfl rfl k) ?_
  show Go p e below s _ _ _ (T2.setTop (mkF m 21 #[.val (.ref a0), .val (.int p1), .val (.ref b2)] [(.ref b2), (.int (0 : Int32)), (.ref a0)]))
  refine Go.of (fun t k => XS.iconst X2.here hx rfl (hb hby d8_21) k) ?_
  show Go p e below s _ _ _ (T2.setTop (mkF m 22 #[.val (.ref a0), .val (.int p1), .val (.ref b2)] [(.int (0 : Int32)), (.ref b2), (.int (0 : Int32)), (.ref a0)]))
  refine Go.of (fun t k => XS.aloadN X2.here hx rfl (hb hby d8_22) rfl rfl k) ?_
  show Go p e below s _ _ _ (T2.setTop (mkF m 23 #[.val (.ref a0), .val (.int p1), .val (.ref b2)] [(.ref a0), (.int (0 : Int32)), (.ref b2), (.int (0 : Int32)), (.ref a0)]))
  obtain ⟨cl6, Ar6, q6, S6, M6, H6, G6⟩ := id f4
  refine Go.of (X2.arraylength hx (by rw [e2]; exact Ar6.1) (State.isArrayOf_alike hZ.alike Ar6.2.1) (g := (mkF m 23 #[.val (.ref a0), .val (.int p1), .val (.ref b2)] [(.ref a0), (.int (0 : Int32)), (.ref b2), (.int (0 : Int32)), (.ref a0)])) rfl rfl (hb hby d8_23)) ?_
  rw [len_of S6 M6]
  show Go p e below s _ _ _ (T2.setTop (mkF m 24 #[.val (.ref a0), .val (.int p1), .val (.ref b2)] [(.int N), (.int (0 : Int32)), (.ref b2), (.int (0 : Int32)), (.ref a0)]))
  refine Go.of (fun t k => XS.iloadN X2.here hx rfl (hb hby d8_24) rfl k) ?_
  show Go p e below s _ _ _ (T2.setTop (mkF m 25 #[.val (.ref a0), .val (.int p1), .val (.ref b2)] [(.int p1), (.int N), (.int (0 : Int32)), (.ref b2), (.int (0 : Int32)), (.ref a0)]))
  obtain ⟨_, _, ⟨T7, L7, k7, n7⟩, -, X7, ⟨Lc7, hQ7, l7, y7, z7⟩, st7⟩ := Jvm.LawKit.callS X2 hx (y := (⟨"java/lang/Math", "min", "(II)I"⟩ : MethodName)) hown (mvT hZ (hw _ (List.mem_of_getElem? (i := 49) rfl))) (mvT hZ (hw _ (List.mem_of_getElem? (i := 1) rfl))) (mvT hZ (hw _ (List.mem_of_getElem? (i := 2) rfl))) (mvT hZ (hw _ (List.mem_of_getElem? (i := 3) rfl))) (by decide) (backOf (W := 4) (rm1 l Z az hw [] N p1 h2 n0 (Nat.le_trans Z0 K2.1)) hZ (hw _ (List.mem_of_getElem? (i := 3) rfl)) (hw _ (List.mem_of_getElem? (i := 2) rfl)) (by decide) (by decide)) (g := (mkF m 25 #[.val (.ref a0), .val (.int p1), .val (.ref b2)] [(.int p1), (.int N), (.int (0 : Int32)), (.ref b2), (.int (0 : Int32)), (.ref a0)])) rfl (by rw [hml]; rfl) (argsL := [(.int N), (.int p1)]) (rest := [(.int (0 : Int32)), (.ref b2), (.int (0 : Int32)), (.ref a0)]) (lenOf own_pd0 rfl) rfl (by show 2 * 0 + _ ≤ _; exact Nat.le_of_eq rfl) (hb hby d8_25) (fun _ _ => ⟨rfl, e2, (by decide : 1 + 0 ≤ _), (by decide : 8 + 0 ≤ _)⟩)
  dsimp only [Pt.U, Pt.locs, Pt.cells, Pt.slots] at X7 l7 y7 z7 st7 hQ7
  subst l7 y7 z7
  obtain ⟨rfl, N7q, e7⟩ := hQ7
  have N7 := Fr.app N0 N7q
  refine Go.of st7 ?_
  show Go p e below s _ _ _ (T7.setTop (mkF m 28 #[.val (.ref a0), .val (.int p1), .val (.ref b2)] [(.int (F1 N p1)), (.int (0 : Int32)), (.ref b2), (.int (0 : Int32)), (.ref a0)]))
  obtain ⟨T8, h8, L8, X8, e8, N8, Kq8, Vq8, st8⟩ := cpA X7 hx hZ hown (hw _ (List.mem_of_getElem? (i := 50) rfl)) (hw _ (List.mem_of_getElem? (i := 53) rfl)) (hw _ (List.mem_of_getElem? (i := 51) rfl)) (hw _ (List.mem_of_getElem? (i := 52) rfl)) e7 f4 f5 (Or.inl ⟨rfl, rfl⟩) (by decide) (by decide) (own_m3 hcp) (own_m4 hcp) (own_m5 hcp) rfl (by rw [List.length_map]; exact (own_m8 hcp)) N7 g_b2 (g := (mkF m 28 #[.val (.ref a0), .val (.int p1), .val (.ref b2)] [(.int (F1 N p1)), (.int (0 : Int32)), (.ref b2), (.int (0 : Int32)), (.ref a0)])) rfl (by rw [hml]; rfl) rfl (hb hby d8_28) (by decide) (W := 0) (by show 2 * 0 + _ ≤ _; exact Nat.le_of_eq rfl) (by decide)
  have f9 : Arv Z h8 b2 k2 .int p1 ((own_move LL [(0 : Int32), (0 : Int32), (0 : Int32), (0 : Int32), (0 : Int32), (0 : Int32), (0 : Int32), (0 : Int32)] ((0 : Int32)).toNatClampNeg ((0 : Int32)).toNatClampNeg ((F1 N p1)).toNatClampNeg).map Value.int) (.int (0 : Int32)) := by rw [own_mv]; exact Vq8
  have f10 := f4.keep Kq8 (ninS ne3 nin0)
  have K8 : Keep h0 h8 [] := Keep.trans K2 Kq8 (allS (Or.inr sz_b2) all0)
  refine Go.of st8 ?_
  show Go p e below s _ _ _ (T8.setTop (mkF m 31 #[.val (.ref a0), .val (.int p1), .val (.ref b2)] []))
  refine Go.of (fun t k => XS.aloadN X8.here hx rfl (hb hby d8_31) rfl rfl k) ?_
  show Go p e below s _ _ _ (T8.setTop (mkF m 32 #[.val (.ref a0), .val (.int p1), .val (.ref b2)] [(.ref b2)]))
  exact Go.ret X8 (some (.ref b2)) (fun h => by rw [Bd.returns] at h; cases h) hlk (by rw [e8]; exact ⟨b2, k2, rfl, g_b2, sz_b2, N8, K8, f9⟩) (by decide) (by decide) (fun fs hr => (retOut X8 hx Bd.returns rfl (Or.inr (Or.inr (Or.inr (Or.inr ⟨rfl, rfl, rfl⟩)))) (hb hby d8_32) hr))
theorem own_pd1 : parseMethodDescriptor "(JJ)J" = some ⟨[.long, .long], some .long⟩ := by decide +kernel
theorem own_pd2 : parseMethodDescriptor "([II)[I" = some ⟨[(.array .int), .int], some (.array .int)⟩ := by decide +kernel
theorem own_pn1 : plainName "com/example/susurrus/susurrus/KnownUnits" = true := by first | (simp [plainName, overriddenIn]; done) | decide +kernel
theorem d5_0 : decode prog_34_method_13_code 0 = .ok (.aload_n 0, 1) := by decide +kernel
theorem d5_1 : decode prog_34_method_13_code 1 = .ok (.getfield 28, 3) := by decide +kernel
theorem d5_4 : decode prog_34_method_13_code 4 = .ok (.i2l, 1) := by decide +kernel
theorem d5_5 : decode prog_34_method_13_code 5 = .ok (.lload_n 1, 1) := by decide +kernel
theorem d5_6 : decode prog_34_method_13_code 6 = .ok (.ladd, 1) := by decide +kernel
theorem d5_7 : decode prog_34_method_13_code 7 = .ok (.lstore_n 3, 1) := by decide +kernel
theorem d5_8 : decode prog_34_method_13_code 8 = .ok (.lload_n 3, 1) := by decide +kernel
theorem d5_9 : decode prog_34_method_13_code 9 = .ok (.aload_n 0, 1) := by decide +kernel
theorem d5_10 : decode prog_34_method_13_code 10 = .ok (.getfield 7, 3) := by decide +kernel
theorem d5_13 : decode prog_34_method_13_code 13 = .ok (.arraylength, 1) := by decide +kernel
theorem d5_14 : decode prog_34_method_13_code 14 = .ok (.i2l, 1) := by decide +kernel
theorem d5_15 : decode prog_34_method_13_code 15 = .ok (.lcmp, 1) := by decide +kernel
theorem d5_16 : decode prog_34_method_13_code 16 = .ok (.ifCond .gt 4, 3) := by decide +kernel
theorem d5_20 : decode prog_34_method_13_code 20 = .ok (.lload_n 3, 1) := by decide +kernel
theorem d5_21 : decode prog_34_method_13_code 21 = .ok (.ldc2_w 58, 3) := by decide +kernel
theorem d5_24 : decode prog_34_method_13_code 24 = .ok (.lcmp, 1) := by decide +kernel
theorem d5_25 : decode prog_34_method_13_code 25 = .ok (.ifCond .le 13, 3) := by decide +kernel
theorem d5_38 : decode prog_34_method_13_code 38 = .ok (.ldc2_w 58, 3) := by decide +kernel
theorem d5_41 : decode prog_34_method_13_code 41 = .ok (.lload_n 3, 1) := by decide +kernel
theorem d5_42 : decode prog_34_method_13_code 42 = .ok (.ldc2_w 67, 3) := by decide +kernel
theorem d5_45 : decode prog_34_method_13_code 45 = .ok (.aload_n 0, 1) := by decide +kernel
theorem d5_46 : decode prog_34_method_13_code 46 = .ok (.getfield 7, 3) := by decide +kernel
theorem d5_49 : decode prog_34_method_13_code 49 = .ok (.arraylength, 1) := by decide +kernel
theorem d5_50 : decode prog_34_method_13_code 50 = .ok (.i2l, 1) := by decide +kernel
theorem d5_51 : decode prog_34_method_13_code 51 = .ok (.lmul, 1) := by decide +kernel
theorem d5_52 : decode prog_34_method_13_code 52 = .ok (.invokestatic 69, 3) := by decide +kernel
theorem d5_55 : decode prog_34_method_13_code 55 = .ok (.invokestatic 75, 3) := by decide +kernel
theorem d5_58 : decode prog_34_method_13_code 58 = .ok (.l2i, 1) := by decide +kernel
theorem d5_59 : decode prog_34_method_13_code 59 = .ok (.istore 5, 2) := by decide +kernel
theorem d5_61 : decode prog_34_method_13_code 61 = .ok (.aload_n 0, 1) := by decide +kernel
theorem d5_62 : decode prog_34_method_13_code 62 = .ok (.aload_n 0, 1) := by decide +kernel
theorem d5_63 : decode prog_34_method_13_code 63 = .ok (.getfield 7, 3) := by decide +kernel
theorem d5_66 : decode prog_34_method_13_code 66 = .ok (.iload 5, 2) := by decide +kernel
theorem d5_68 : decode prog_34_method_13_code 68 = .ok (.invokestatic 78, 3) := by decide +kernel
theorem d5_71 : decode prog_34_method_13_code 71 = .ok (.putfield 7, 3) := by decide +kernel
theorem d5_74 : decode prog_34_method_13_code 74 = .ok (.aload_n 0, 1) := by decide +kernel
theorem d5_75 : decode prog_34_method_13_code 75 = .ok (.aload_n 0, 1) := by decide +kernel
theorem d5_76 : decode prog_34_method_13_code 76 = .ok (.getfield 13, 3) := by decide +kernel
theorem d5_79 : decode prog_34_method_13_code 79 = .ok (.iload 5, 2) := by decide +kernel
theorem d5_81 : decode prog_34_method_13_code 81 = .ok (.invokestatic 78, 3) := by decide +kernel
theorem d5_84 : decode prog_34_method_13_code 84 = .ok (.putfield 13, 3) := by decide +kernel
theorem d5_87 : decode prog_34_method_13_code 87 = .ok (.aload_n 0, 1) := by decide +kernel
theorem d5_88 : decode prog_34_method_13_code 88 = .ok (.aload_n 0, 1) := by decide +kernel
theorem d5_89 : decode prog_34_method_13_code 89 = .ok (.getfield 16, 3) := by decide +kernel
theorem d5_92 : decode prog_34_method_13_code 92 = .ok (.iload 5, 2) := by decide +kernel
theorem d5_94 : decode prog_34_method_13_code 94 = .ok (.invokestatic 78, 3) := by decide +kernel
theorem d5_97 : decode prog_34_method_13_code 97 = .ok (.putfield 16, 3) := by decide +kernel
theorem d5_100 : decode prog_34_method_13_code 100 = .ok (.return_, 1) := by decide +kernel
theorem ef_5 (m : MethodId) (a0 : Addr) (q1 : Int64) : entryFrame m #[(.ref a0), (.long q1)] 6 = mkF m 0 #[.val (.ref a0), .val (.long q1), .second, .unset, .unset, .unset] [] := by first | (simp [entryFrame, mkF, argsToLocals, Value.category]; done) | rfl
def Q5 (Z : State) (a0 : Addr) (q1 : Int64) (xu xg xd xt xr xc : Addr) (kxu kxg kxd kxt kxr kxc : ClassId) (N : Int32) (Lxu Lxg Lxd Lxt Lxr Lxc : List Int32) (w : Int32) (h0 : Heap) (n0 : Nat) (v : Option Value) (h : Heap) (Lo : List Loc) : Prop := v = none ∧ Fr n0 Lo ∧ ∃ (u' g' d' : Addr) (ku' kg' kd' : ClassId), own_K Z h n0 a0 u' g' d' xt xr xc ku' kg' kd' kxt kxr kxc ((F7 (2147483639 : Int64) (F6 ((w.toInt64) + q1) ((2 : Int64) * (N.toInt64)))).toInt32) (own_move Lxu [(0 : Int32), (0 : Int32), (0 : Int32), (0 : Int32), (0 : Int32), (0 : Int32), (0 : Int32), (0 : Int32)] ((0 : Int32)).toNatClampNeg ((0 : Int32)).toNatClampNeg ((F1 N ((F7 (2147483639 : Int64) (F6 ((w.toInt64) + q1) ((2 : Int64) * (N.toInt64)))).toInt32))).toNatClampNeg) (own_move Lxg [(0 : Int32), (0 : Int32), (0 : Int32), (0 : Int32), (0 : Int32), (0 : Int32), (0 : Int32), (0 : Int32)] ((0 : Int32)).toNatClampNeg ((0 : Int32)).toNatClampNeg ((F1 N ((F7 (2147483639 : Int64) (F6 ((w.toInt64) + q1) ((2 : Int64) * (N.toInt64)))).toInt32))).toNatClampNeg) (own_move Lxd [(0 : Int32), (0 : Int32), (0 : Int32), (0 : Int32), (0 : Int32), (0 : Int32), (0 : Int32), (0 : Int32)] ((0 : Int32)).toNatClampNeg ((0 : Int32)).toNatClampNeg ((F1 N ((F7 (2147483639 : Int64) (F6 ((w.toInt64) + q1) ((2 : Int64) * (N.toInt64)))).toInt32))).toNatClampNeg) Lxt Lxr Lxc w
set_option maxRecDepth 65536 in
set_option maxHeartbeats 40000000 in
theorem rm5 (l : Launch) (Z : State) (az : Array Value) (hw : ∀ d ∈ tables_1, d.before az Z = true) (ws : List Jvm.Cond) (a0 : Addr) (q1 : Int64) (xu xg xd xt xr xc : Addr) (kxu kxg kxd kxt kxr kxc : ClassId) (N : Int32) (Lxu Lxg Lxd Lxt Lxr Lxc : List Int32) (w : Int32) (h0 : Heap) (n0 : Nat) (Z0 : n0 ≤ h0.size) (hKU : own_K Z h0 n0 a0 xu xg xd xt xr xc kxu kxg kxd kxt kxr kxc N Lxu Lxg Lxd Lxt Lxr Lxc w) (hmk : ((N.toInt64) < ((w.toInt64) + q1)) ∧ (¬ ((2147483639 : Int64) < ((w.toInt64) + q1))) ∧ (0 ≤ N.toInt ∧ N.toInt < ((F7 (2147483639 : Int64) (F6 ((w.toInt64) + q1) ((2 : Int64) * (N.toInt64)))).toInt32).toInt ∧ ((F7 (2147483639 : Int64) (F6 ((w.toInt64) + q1) ((2 : Int64) * (N.toInt64)))).toInt32).toInt ≤ 8)) :
    MetFree l (⟨"com/example/susurrus/susurrus/KnownUnits", "makeRoom", "(J)V"⟩ : MethodName) (head1 (Jvm.Cond.code (⟨"com/example/susurrus/susurrus/KnownUnits", "makeRoom", "(J)V"⟩ : MethodName) prog_34_method_13_code 6 none :: ws) ({ frames := 2, cells := 3, slots := 24, locals := 33 } : Room)) (fun a U => a = #[(.ref a0), (.long q1)] ∧ Z.Warmed39 U.vm ∧ U.heap = h0) (fun _ _ _ _ _ => True) (fun _ U o U' => ∃ v L, o = .returned v ∧ (Q5 Z a0 q1 xu xg xd xt xr xc kxu kxg kxd kxt kxr kxc N Lxu Lxg Lxd Lxt Lxr Lxc w h0 n0) v U'.heap L ∧ FrameEnd U o U' L ({ frames := 2, cells := 3, slots := 24, locals := 33 } : Room).cells ({ frames := 2, cells := 3, slots := 24, locals := 33 } : Room).slots) := by
  refine MetFree.of_bodySF (plainFor_of_name own_pn1) hisR ?_
  intro p e s m args below meth c s₁ Bd hml0 hP hK
  obtain ⟨rfl, hZ, hh⟩ := hP
  have hx := Bd.exec
  have hby := Bd.bytes
  have hml : c.maxLocals = 6 := hml0
  have hown : s.vm.findClass "com/example/susurrus/susurrus/KnownUnits" = some m.cls := findClass_of_methodNamed Bd.named
  have hnm := (name_of_methodNamed Bd.named Bd.method).1
  have hlk : meth.locks = false := BodyLoose.notSynchronized Bd
  have X0 : Stand p l e ({ frames := 2, cells := 3, slots := 24, locals := 33 } : Room) s m #[(.ref a0), (.long q1)] below meth c s₁ [] 0 0 := Stand.of_body Bd
  have e0 : s₁.heap = h0 := by rw [← hh, Bd.state]; rfl
  have N0 := Fr.nil n0
  obtain ⟨E_1, Ff0_1, Ff1_1, Ff2_1, Ff3_1, Ff4_1, Ff5_1, Ff6_1, Vv0_1, Vv1_1, Vv2_1, Vv3_1, Vv4_1, Vv5_1, g_a0, g_xu, g_xg, g_xd, g_xt, g_xr, g_xc, Zk1, ne_0_1_1, ne_0_2_1, ne_0_3_1, ne_0_4_1, ne_0_5_1, ne_0_6_1, ne_1_2_1, ne_1_3_1, ne_1_4_1, ne_1_5_1, ne_1_6_1, ne_2_3_1, ne_2_4_1, ne_2_5_1, ne_2_6_1, ne_3_4_1, ne_3_5_1, ne_3_6_1, ne_4_5_1, ne_4_6_1, ne_5_6_1⟩ := id hKU
  show Go p e below s (Q5 Z a0 q1 xu xg xd xt xr xc kxu kxg kxd kxt kxr kxc N Lxu Lxg Lxd Lxt Lxr Lxc w h0 n0) ({ frames := 2, cells := 3, slots := 24, locals := 33 } : Room).cells ({ frames := 2, cells := 3, slots := 24, locals := 33 } : Room).slots (s₁.setTop (entryFrame m #[(.ref a0), (.long q1)] 6))
  refine Go.of (fun t k => castTop (ef_5 m a0 q1) k) ?_
  show Go p e below s _ _ _ (s₁.setTop (mkF m 0 #[.val (.ref a0), .val (.long q1), .second, .unset, .unset, .unset] []))
  refine Go.of (fun t k => XS.aloadN X0.here hx rfl (hb hby d5_0) rfl rfl k) ?_
  show Go p e below s _ _ _ (s₁.setTop (mkF m 1 #[.val (.ref a0), .val (.long q1), .second, .unset, .unset, .unset] [(.ref a0)]))
  obtain ⟨T2, X2, e2, st2⟩ := getF X0 hx hZ hown (host := "") (Or.inl (hw _ (List.mem_of_getElem? (i := 35) rfl))) Via.refl e0 Ff6_1 (g := (mkF m 1 #[.val (.ref a0), .val (.long q1), .second, .unset, .unset, .unset] [(.ref a0)])) rfl rfl (hb hby d5_1)
  refine Go.of st2 ?_
  show Go p e below s _ _ _ (T2.setTop (mkF m 4 #[.val (.ref a0), .val (.long q1), .second, .unset, .unset, .unset] [(.int w)]))
  refine Go.of (fun t k => XS.i2l X2.here hx rfl (hb hby d5_4) rfl k) ?_
  show Go p e below s _ _ _ (T2.setTop (mkF m 5 #[.val (.ref a0), .val (.long q1), .second, .unset, .unset, .unset] [(.long (w.toInt64))]))
  refine Go.of (fun t k => XS.lloadN X2.here hx rfl (hb hby d5_5) rfl k) ?_
  show Go p e below s _ _ _ (T2.setTop (mkF m 6 #[.val (.ref a0), .val (.long q1), .second, .unset, .unset, .unset] [(.long q1), (.long (w.toInt64))]))
  refine Go.of (fun t k => XS.ladd X2.here hx rfl (hb hby d5_6) rfl k) ?_
  show Go p e below s _ _ _ (T2.setTop (mkF m 7 #[.val (.ref a0), .val (.long q1), .second, .unset, .unset, .unset] [(.long ((w.toInt64) + q1))]))
  refine Go.of (fun t k => XS.lstoreN X2.here hx rfl (hb hby d5_7) rfl (l' := #[.val (.ref a0), .val (.long q1), .second, .val (.long ((w.toInt64) + q1)), .second, .unset]) rfl k) ?_
  show Go p e below s _ _ _ (T2.setTop (mkF m 8 #[.val (.ref a0), .val (.long q1), .second, .val (.long ((w.toInt64) + q1)), .second, .unset] []))
  refine Go.of (fun t k => XS.lloadN X2.here hx rfl (hb hby d5_8) rfl k) ?_
  show Go p e below s _ _ _ (T2.setTop (mkF m 9 #[.val (.ref a0), .val (.long q1), .second, .val (.long ((w.toInt64) + q1)), .second, .unset] [(.long ((w.toInt64) + q1))]))
  refine Go.of (fun t k => XS.aloadN X2.here hx rfl (hb hby d5_9) rfl rfl k) ?_
  show Go p e below s _ _ _ (T2.setTop (mkF m 10 #[.val (.ref a0), .val (.long q1), .second, .val (.long ((w.toInt64) + q1)), .second, .unset] [(.ref a0), (.long ((w.toInt64) + q1))]))
  obtain ⟨T3, X3, e3, st3⟩ := getF X2 hx hZ hown (host := "") (Or.inl (hw _ (List.mem_of_getElem? (i := 14) rfl))) Via.refl e2 Ff0_1 (g := (mkF m 10 #[.val (.ref a0), .val (.long q1), .second, .val (.long ((w.toInt64) + q1)), .second, .unset] [(.ref a0), (.long ((w.toInt64) + q1))])) rfl rfl (hb hby d5_10)
  refine Go.of st3 ?_
  show Go p e below s _ _ _ (T3.setTop (mkF m 13 #[.val (.ref a0), .val (.long q1), .second, .val (.long ((w.toInt64) + q1)), .second, .unset] [(.ref xu), (.long ((w.toInt64) + q1))]))
  obtain ⟨cl4, Ar4, q4, S4, M4, H4, G4⟩ := id Vv0_1
  refine Go.of (X3.arraylength hx (by rw [e3]; exact Ar4.1) (State.isArrayOf_alike hZ.alike Ar4.2.1) (g := (mkF m 13 #[.val (.ref a0), .val (.long q1), .second, .val (.long ((w.toInt64) + q1)), .second, .unset] [(.ref xu), (.long ((w.toInt64) + q1))])) rfl rfl (hb hby d5_13)) ?_
  rw [len_of S4 M4]
  show Go p e below s _ _ _ (T3.setTop (mkF m 14 #[.val (.ref a0), .val (.long q1), .second, .val (.long ((w.toInt64) + q1)), .second, .unset] [(.int N), (.long ((w.toInt64) + q1))]))
  refine Go.of (fun t k => XS.i2l X3.here hx rfl (hb hby d5_14) rfl k) ?_
  show Go p e below s _ _ _ (T3.setTop (mkF m 15 #[.val (.ref a0), .val (.long q1), .second, .val (.long ((w.toInt64) + q1)), .second, .unset] [(.long (N.toInt64)), (.long ((w.toInt64) + q1))]))
  refine Go.of (fun t k => XS.lcmp X3.here hx rfl (hb hby d5_15) rfl k) ?_
  show Go p e below s _ _ _ (T3.setTop (mkF m 16 #[.val (.ref a0), .val (.long q1), .second, .val (.long ((w.toInt64) + q1)), .second, .unset] [(.int (lcmpW ((w.toInt64) + q1) (N.toInt64)))]))
  refine Go.of (fun t k => XS.ifYes X3.here hx rfl (pc0 := 16) (pc' := 20) rfl (hb hby d5_16) rfl ((if0 _ _).trans (tlt ((lw_gt ((w.toInt64) + q1) (N.toInt64)).mpr hmk.1)).2.2.1) (by decide) (by decide) k) ?_
  show Go p e below s _ _ _ (T3.setTop (mkF m 20 #[.val (.ref a0), .val (.long q1), .second, .val (.long ((w.toInt64) + q1)), .second, .unset] []))
  refine Go.of (fun t k => XS.lloadN X3.here hx rfl (hb hby d5_20) rfl k) ?_
  show Go p e below s _ _ _ (T3.setTop (mkF m 21 #[.val (.ref a0), .val (.long q1), .second, .val (.long ((w.toInt64) + q1)), .second, .unset] [(.long ((w.toInt64) + q1))]))
  refine Go.of (X3.ldc2Long hx hown (mvT hZ (hw _ (List.mem_of_getElem? (i := 37) rfl))) (g := (mkF m 21 #[.val (.ref a0), .val (.long q1), .second, .val (.long ((w.toInt64) + q1)), .second, .unset] [(.long ((w.toInt64) + q1))])) rfl (hb hby d5_21)) ?_
  show Go p e below s _ _ _ (T3.setTop (mkF m 24 #[.val (.ref a0), .val (.long q1), .second, .val (.long ((w.toInt64) + q1)), .second, .unset] [(.long (2147483639 : Int64)), (.long ((w.toInt64) + q1))]))
  refine Go.of (fun t k => XS.lcmp X3.here hx rfl (hb hby d5_24) rfl k) ?_
  show Go p e below s _ _ _ (T3.setTop (mkF m 25 #[.val (.ref a0), .val (.long q1), .second, .val (.long ((w.toInt64) + q1)), .second, .unset] [(.int (lcmpW ((w.toInt64) + q1) (2147483639 : Int64)))]))
  refine Go.of (fun t k => XS.ifYes X3.here hx rfl (pc0 := 25) (pc' := 38) rfl (hb hby d5_25) rfl ((if0 _ _).trans (flt (mt (lw_gt ((w.toInt64) + q1) (2147483639 : Int64)).mp hmk.2.1)).2.2.2) (by decide) (by decide) k) ?_
  show Go p e below s _ _ _ (T3.setTop (mkF m 38 #[.val (.ref a0), .val (.long q1), .second, .val (.long ((w.toInt64) + q1)), .second, .unset] []))
  refine Go.of (X3.ldc2Long hx hown (mvT hZ (hw _ (List.mem_of_getElem? (i := 37) rfl))) (g := (mkF m 38 #[.val (.ref a0), .val (.long q1), .second, .val (.long ((w.toInt64) + q1)), .second, .unset] [])) rfl (hb hby d5_38)) ?_
  show Go p e below s _ _ _ (T3.setTop (mkF m 41 #[.val (.ref a0), .val (.long q1), .second, .val (.long ((w.toInt64) + q1)), .second, .unset] [(.long (2147483639 : Int64))]))
  refine Go.of (fun t k => XS.lloadN X3.here hx rfl (hb hby d5_41) rfl k) ?_
  show Go p e below s _ _ _ (T3.setTop (mkF m 42 #[.val (.ref a0), .val (.long q1), .second, .val (.long ((w.toInt64) + q1)), .second, .unset] [(.long ((w.toInt64) + q1)), (.long (2147483639 : Int64))]))
  refine Go.of (X3.ldc2Long hx hown (mvT hZ (hw _ (List.mem_of_getElem? (i := 38) rfl))) (g := (mkF m 42 #[.val (.ref a0), .val (.long q1), .second, .val (.long ((w.toInt64) + q1)), .second, .unset] [(.long ((w.toInt64) + q1)), (.long (2147483639 : Int64))])) rfl (hb hby d5_42)) ?_
  show Go p e below s _ _ _ (T3.setTop (mkF m 45 #[.val (.ref a0), .val (.long q1), .second, .val (.long ((w.toInt64) + q1)), .second, .unset] [(.long (2 : Int64)), (.long ((w.toInt64) + q1)), (.long (2147483639 : Int64))]))
  refine Go.of (fun t k => XS.aloadN X3.here hx rfl (hb hby d5_45) rfl rfl k) ?_
  show Go p e below s _ _ _ (T3.setTop (mkF m 46 #[.val (.ref a0), .val (.long q1), .second, .val (.long ((w.toInt64) + q1)), .second, .unset] [(.ref a0), (.long (2 : Int64)), (.long ((w.toInt64) + q1)), (.long (2147483639 : Int64))]))
  obtain ⟨T5, X5, e5, st5⟩ := getF X3 hx hZ hown (host := "") (Or.inl (hw _ (List.mem_of_getElem? (i := 14) rfl))) Via.refl e3 Ff0_1 (g := (mkF m 46 #[.val (.ref a0), .val (.long q1), .second, .val (.long ((w.toInt64) + q1)), .second, .unset] [(.ref a0), (.long (2 : Int64)), (.long ((w.toInt64) + q1)), (.long (2147483639 : Int64))])) rfl rfl (hb hby d5_46)
  refine Go.of st5 ?_
  show Go p e below s _ _ _ (T5.setTop (mkF m 49 #[.val (.ref a0), .val (.long q1), .second, .val (.long ((w.toInt64) + q1)), .second, .unset] [(.ref xu), (.long (2 : Int64)), (.long ((w.toInt64) + q1)), (.long (2147483639 : Int64))]))
  obtain ⟨cl6, Ar6, q6, S6, M6, H6, G6⟩ := id Vv0_1
  refine Go.of (X5.arraylength hx (by rw [e5]; exact Ar6.1) (State.isArrayOf_alike hZ.alike Ar6.2.1) (g := (mkF m 49 #[.val (.ref a0), .val (.long q1), .second, .val (.long ((w.toInt64) + q1)), .second, .unset] [(.ref xu), (.long (2 : Int64)), (.long ((w.toInt64) + q1)), (.long (2147483639 : Int64))])) rfl rfl (hb hby d5_49)) ?_
  rw [len_of S6 M6]
  show Go p e below s _ _ _ (T5.setTop (mkF m 50 #[.val (.ref a0), .val (.long q1), .second, .val (.long ((w.toInt64) + q1)), .second, .unset] [(.int N), (.long (2 : Int64)), (.long ((w.toInt64) + q1)), (.long (2147483639 : Int64))]))
  refine Go.of (fun t k => XS.i2l X5.here hx rfl (hb hby d5_50) rfl k) ?_
  show Go p e below s _ _ _ (T5.setTop (mkF m 51 #[.val (.ref a0), .val (.long q1), .second, .val (.long ((w.toInt64) + q1)), .second, .unset] [(.long (N.toInt64)), (.long (2 : Int64)), (.long ((w.toInt64) + q1)), (.long (2147483639 : Int64))]))
  refine Go.of (fun t k => XS.lmul X5.here hx rfl (hb hby d5_51) rfl k) ?_
  show Go p e below s _ _ _ (T5.setTop (mkF m 52 #[.val (.ref a0), .val (.long q1), .second, .val (.long ((w.toInt64) + q1)), .second, .unset] [(.long ((2 : Int64) * (N.toInt64))), (.long ((w.toInt64) + q1)), (.long (2147483639 : Int64))]))
  obtain ⟨_, _, ⟨T7, L7, k7, n7⟩, -, X7, ⟨Lc7, hQ7, l7, y7, z7⟩, st7⟩ := Jvm.LawKit.callS X5 hx (y := (⟨"java/lang/Math", "max", "(JJ)J"⟩ : MethodName)) hown (mvT hZ (hw _ (List.mem_of_getElem? (i := 39) rfl))) (mvT hZ (hw _ (List.mem_of_getElem? (i := 40) rfl))) (mvT hZ (hw _ (List.mem_of_getElem? (i := 2) rfl))) (mvT hZ (hw _ (List.mem_of_getElem? (i := 41) rfl))) (by decide) (backOf (W := 2) (rm6 l Z az hw [] ((w.toInt64) + q1) ((2 : Int64) * (N.toInt64)) h0 n0 Zk1) hZ (hw _ (List.mem_of_getElem? (i := 41) rfl)) (hw _ (List.mem_of_getElem? (i := 2) rfl)) (by decide) (by decide)) (g := (mkF m 52 #[.val (.ref a0), .val (.long q1), .second, .val (.long ((w.toInt64) + q1)), .second, .unset] [(.long ((2 : Int64) * (N.toInt64))), (.long ((w.toInt64) + q1)), (.long (2147483639 : Int64))])) rfl (by rw [hml]; rfl) (argsL := [(.long ((w.toInt64) + q1)), (.long ((2 : Int64) * (N.toInt64)))]) (rest := [(.long (2147483639 : Int64))]) (lenOf own_pd1 rfl) rfl (by show 2 * 0 + _ ≤ _; exact Nat.le_of_eq rfl) (hb hby d5_52) (fun _ _ => ⟨rfl, e5, (by decide : 0 + 0 ≤ _), (by decide : 0 + 0 ≤ _)⟩)
  dsimp only [Pt.U, Pt.locs, Pt.cells, Pt.slots] at X7 l7 y7 z7 st7 hQ7
  subst l7 y7 z7
  obtain ⟨rfl, N7q, e7⟩ := hQ7
  have N7 := Fr.app N0 N7q
  refine Go.of st7 ?_
  show Go p e below s _ _ _ (T7.setTop (mkF m 55 #[.val (.ref a0), .val (.long q1), .second, .val (.long ((w.toInt64) + q1)), .second, .unset] [(.long (F6 ((w.toInt64) + q1) ((2 : Int64) * (N.toInt64)))), (.long (2147483639 : Int64))]))
  obtain ⟨_, _, ⟨T8, L8, k8, n8⟩, -, X8, ⟨Lc8, hQ8, l8, y8, z8⟩, st8⟩ := Jvm.LawKit.callS X7 hx (y := (⟨"java/lang/Math", "min", "(JJ)J"⟩ : MethodName)) hown (mvT hZ (hw _ (List.mem_of_getElem? (i := 42) rfl))) (mvT hZ (hw _ (List.mem_of_getElem? (i := 43) rfl))) (mvT hZ (hw _ (List.mem_of_getElem? (i := 2) rfl))) (mvT hZ (hw _ (List.mem_of_getElem? (i := 44) rfl))) (by decide) (backOf (W := 0) (rm7 l Z az hw [] (2147483639 : Int64) (F6 ((w.toInt64) + q1) ((2 : Int64) * (N.toInt64))) h0 n0 Zk1) hZ (hw _ (List.mem_of_getElem? (i := 44) rfl)) (hw _ (List.mem_of_getElem? (i := 2) rfl)) (by decide) (by decide)) (g := (mkF m 55 #[.val (.ref a0), .val (.long q1), .second, .val (.long ((w.toInt64) + q1)), .second, .unset] [(.long (F6 ((w.toInt64) + q1) ((2 : Int64) * (N.toInt64)))), (.long (2147483639 : Int64))])) rfl (by rw [hml]; rfl) (argsL := [(.long (2147483639 : Int64)), (.long (F6 ((w.toInt64) + q1) ((2 : Int64) * (N.toInt64))))]) (rest := []) (lenOf own_pd1 rfl) rfl (by show 2 * 0 + _ ≤ _; exact Nat.le_of_eq rfl) (hb hby d5_55) (fun _ _ => ⟨rfl, e7, (by decide : 0 + 0 ≤ _), (by decide : 0 + 0 ≤ _)⟩)
  dsimp only [Pt.U, Pt.locs, Pt.cells, Pt.slots] at X8 l8 y8 z8 st8 hQ8
  subst l8 y8 z8
  obtain ⟨rfl, N8q, e8⟩ := hQ8
  have N8 := Fr.app N7 N8q
  refine Go.of st8 ?_
  show Go p e below s _ _ _ (T8.setTop (mkF m 58 #[.val (.ref a0), .val (.long q1), .second, .val (.long ((w.toInt64) + q1)), .second, .unset] [(.long (F7 (2147483639 : Int64) (F6 ((w.toInt64) + q1) ((2 : Int64) * (N.toInt64)))))]))
  refine Go.of (fun t k => XS.l2i X8.here hx rfl (hb hby d5_58) rfl k) ?_
  show Go p e below s _ _ _ (T8.setTop (mkF m 59 #[.val (.ref a0), .val (.long q1), .second, .val (.long ((w.toInt64) + q1)), .second, .unset] [(.int ((F7 (2147483639 : Int64) (F6 ((w.toInt64) + q1) ((2 : Int64) * (N.toInt64)))).toInt32))]))
  refine Go.of (fun t k => XS.istore X8.here hx rfl (hb hby d5_59) rfl (l' := #[.val (.ref a0), .val (.long q1), .second, .val (.long ((w.toInt64) + q1)), .second, .val (.int ((F7 (2147483639 : Int64) (F6 ((w.toInt64) + q1) ((2 : Int64) * (N.toInt64)))).toInt32))]) rfl k) ?_
  show Go p e below s _ _ _ (T8.setTop (mkF m 61 #[.val (.ref a0), .val (.long q1), .second, .val (.long ((w.toInt64) + q1)), .second, .val (.int ((F7 (2147483639 : Int64) (F6 ((w.toInt64) + q1) ((2 : Int64) * (N.toInt64)))).toInt32))] []))
  refine Go.of (fun t k => XS.aloadN X8.here hx rfl (hb hby d5_61) rfl rfl k) ?_
  show Go p e below s _ _ _ (T8.setTop (mkF m 62 #[.val (.ref a0), .val (.long q1), .second, .val (.long ((w.toInt64) + q1)), .second, .val (.int ((F7 (2147483639 : Int64) (F6 ((w.toInt64) + q1) ((2 : Int64) * (N.toInt64)))).toInt32))] [(.ref a0)]))
  refine Go.of (fun t k => XS.aloadN X8.here hx rfl (hb hby d5_62) rfl rfl k) ?_
  show Go p e below s _ _ _ (T8.setTop (mkF m 63 #[.val (.ref a0), .val (.long q1), .second, .val (.long ((w.toInt64) + q1)), .second, .val (.int ((F7 (2147483639 : Int64) (F6 ((w.toInt64) + q1) ((2 : Int64) * (N.toInt64)))).toInt32))] [(.ref a0), (.ref a0)]))
  obtain ⟨T9, X9, e9, st9⟩ := getF X8 hx hZ hown (host := "") (Or.inl (hw _ (List.mem_of_getElem? (i := 14) rfl))) Via.refl e8 Ff0_1 (g := (mkF m 63 #[.val (.ref a0), .val (.long q1), .second, .val (.long ((w.toInt64) + q1)), .second, .val (.int ((F7 (2147483639 : Int64) (F6 ((w.toInt64) + q1) ((2 : Int64) * (N.toInt64)))).toInt32))] [(.ref a0), (.ref a0)])) rfl rfl (hb hby d5_63)
  refine Go.of st9 ?_
  show Go p e below s _ _ _ (T9.setTop (mkF m 66 #[.val (.ref a0), .val (.long q1), .second, .val (.long ((w.toInt64) + q1)), .second, .val (.int ((F7 (2147483639 : Int64) (F6 ((w.toInt64) + q1) ((2 : Int64) * (N.toInt64)))).toInt32))] [(.ref xu), (.ref a0)]))
  refine Go.of (fun t k => XS.iload X9.here hx rfl (hb hby d5_66) rfl k) ?_
  show Go p e below s _ _ _ (T9.setTop (mkF m 68 #[.val (.ref a0), .val (.long q1), .second, .val (.long ((w.toInt64) + q1)), .second, .val (.int ((F7 (2147483639 : Int64) (F6 ((w.toInt64) + q1) ((2 : Int64) * (N.toInt64)))).toInt32))] [(.int ((F7 (2147483639 : Int64) (F6 ((w.toInt64) + q1) ((2 : Int64) * (N.toInt64)))).toInt32)), (.ref xu), (.ref a0)]))
  obtain ⟨_, _, ⟨T10, L10, k10, n10⟩, -, X10, ⟨Lc10, hQ10, l10, y10, z10⟩, st10⟩ := Jvm.LawKit.callS X9 hx (y := (⟨"java/util/Arrays", "copyOf", "([II)[I"⟩ : MethodName)) hown (mvT hZ (hw _ (List.mem_of_getElem? (i := 45) rfl))) (mvT hZ (hw _ (List.mem_of_getElem? (i := 46) rfl))) (mvT hZ (hw _ (List.mem_of_getElem? (i := 47) rfl))) (mvT hZ (hw _ (List.mem_of_getElem? (i := 48) rfl))) (by decide) (backOf (W := 1) (rm8 l Z az hw [] xu ((F7 (2147483639 : Int64) (F6 ((w.toInt64) + q1) ((2 : Int64) * (N.toInt64)))).toInt32) kxu N Lxu h0 n0 Zk1 Vv0_1 hmk.2.2) hZ (hw _ (List.mem_of_getElem? (i := 48) rfl)) (hw _ (List.mem_of_getElem? (i := 47) rfl)) (by decide) (by decide)) (g := (mkF m 68 #[.val (.ref a0), .val (.long q1), .second, .val (.long ((w.toInt64) + q1)), .second, .val (.int ((F7 (2147483639 : Int64) (F6 ((w.toInt64) + q1) ((2 : Int64) * (N.toInt64)))).toInt32))] [(.int ((F7 (2147483639 : Int64) (F6 ((w.toInt64) + q1) ((2 : Int64) * (N.toInt64)))).toInt32)), (.ref xu), (.ref a0)])) rfl (by rw [hml]; rfl) (argsL := [(.ref xu), (.int ((F7 (2147483639 : Int64) (F6 ((w.toInt64) + q1) ((2 : Int64) * (N.toInt64)))).toInt32))]) (rest := [(.ref a0)]) (lenOf own_pd2 rfl) rfl (by show 2 * 0 + _ ≤ _; exact Nat.le_of_eq rfl) (hb hby d5_68) (fun _ _ => ⟨rfl, e9, (by decide : 0 + 1 ≤ _), (by decide : 0 + 8 ≤ _)⟩)
  dsimp only [Pt.U, Pt.locs, Pt.cells, Pt.slots] at X10 l10 y10 z10 st10 hQ10
  subst l10 y10 z10
  obtain ⟨b11, k_b11, rfl, g_b11, szqb11, N10q, Kq10, f12⟩ := hQ10
  have N10 := Fr.app N8 N10q
  have ne13 : a0 ≠ b11 := Nat.ne_of_lt (Nat.lt_of_lt_of_le E_1.lt szqb11)
  have ne14 : xu ≠ b11 := Nat.ne_of_lt (Nat.lt_of_lt_of_le Vv0_1.lt szqb11)
  have ne15 : xg ≠ b11 := Nat.ne_of_lt (Nat.lt_of_lt_of_le Vv1_1.lt szqb11)
  have ne16 : xd ≠ b11 := Nat.ne_of_lt (Nat.lt_of_lt_of_le Vv2_1.lt szqb11)
  have ne17 : xt ≠ b11 := Nat.ne_of_lt (Nat.lt_of_lt_of_le Vv3_1.lt szqb11)
  have ne18 : xr ≠ b11 := Nat.ne_of_lt (Nat.lt_of_lt_of_le Vv4_1.lt szqb11)
  have ne19 : xc ≠ b11 := Nat.ne_of_lt (Nat.lt_of_lt_of_le Vv5_1.lt szqb11)
  have f20 := E_1.keep Kq10
  have f21 := Ff0_1.keep Kq10 nin0
  have f22 := Ff1_1.keep Kq10 nin0
  have f23 := Ff2_1.keep Kq10 nin0
  have f24 := Ff3_1.keep Kq10 nin0
  have f25 := Ff4_1.keep Kq10 nin0
  have f26 := Ff5_1.keep Kq10 nin0
  have f27 := Ff6_1.keep Kq10 nin0
  have f28 := Vv0_1.keep Kq10 nin0
  have f29 := Vv1_1.keep Kq10 nin0
  have f30 := Vv2_1.keep Kq10 nin0
  have f31 := Vv3_1.keep Kq10 nin0
  have f32 := Vv4_1.keep Kq10 nin0
  have f33 := Vv5_1.keep Kq10 nin0
  have Zz10 := Nat.le_trans Zk1 Kq10.1
  refine Go.of st10 ?_
  show Go p e below s _ _ _ (T10.setTop (mkF m 71 #[.val (.ref a0), .val (.long q1), .second, .val (.long ((w.toInt64) + q1)), .second, .val (.int ((F7 (2147483639 : Int64) (F6 ((w.toInt64) + q1) ((2 : Int64) * (N.toInt64)))).toInt32))] [(.ref b11), (.ref a0)]))
  obtain ⟨T34, h34, X34, e34, W34, st34⟩ := putF X10 hx hZ hown (host := "") (Or.inl (hw _ (List.mem_of_getElem? (i := 14) rfl))) Via.refl rfl f21 f20 (Or.inl (hw _ (List.mem_of_getElem? (i := 15) rfl))) (hw _ (List.mem_of_getElem? (i := 5) rfl)) (ty := (.array .int)) (by decide) rfl rfl (g := (mkF m 71 #[.val (.ref a0), .val (.long q1), .second, .val (.long ((w.toInt64) + q1)), .second, .val (.int ((F7 (2147483639 : Int64) (F6 ((w.toInt64) + q1) ((2 : Int64) * (N.toInt64)))).toInt32))] [(.ref b11), (.ref a0)])) rfl rfl (hb hby d5_71)
  have f35 := f21.same W34
  have f36 := f20.wr W34
  have f37 := f22.other W34 (Or.inr (slot_ne (Or.inl (hw _ (List.mem_of_getElem? (i := 17) rfl))) (Or.inl (hw _ (List.mem_of_getElem? (i := 15) rfl))) (by decide) (t := (.array .int)) (t' := (.array .int)) (by decide) (by decide)))
  have f38 := f23.other W34 (Or.inr (slot_ne (Or.inl (hw _ (List.mem_of_getElem? (i := 19) rfl))) (Or.inl (hw _ (List.mem_of_getElem? (i := 15) rfl))) (by decide) (t := (.array .int)) (t' := (.array .int)) (by decide) (by decide)))
  have f39 := f24.other W34 (Or.inr (slot_ne (Or.inr (hw _ (List.mem_of_getElem? (i := 21) rfl))) (Or.inl (hw _ (List.mem_of_getElem? (i := 15) rfl))) (by decide) (t := (.array .int)) (t' := (.array .int)) (by decide) (by decide)))
  have f40 := f25.other W34 (Or.inr (slot_ne (Or.inr (hw _ (List.mem_of_getElem? (i := 23) rfl))) (Or.inl (hw _ (List.mem_of_getElem? (i := 15) rfl))) (by decide) (t := (.array .int)) (t' := (.array .int)) (by decide) (by decide)))
  have f41 := f26.other W34 (Or.inr (slot_ne (Or.inr (hw _ (List.mem_of_getElem? (i := 25) rfl))) (Or.inl (hw _ (List.mem_of_getElem? (i := 15) rfl))) (by decide) (t := (.array .int)) (t' := (.array .int)) (by decide) (by decide)))
  have f42 := f27.other W34 (Or.inr (slot_ne (Or.inl (hw _ (List.mem_of_getElem? (i := 36) rfl))) (Or.inl (hw _ (List.mem_of_getElem? (i := 15) rfl))) (by decide) (t := .int) (t' := (.array .int)) (by decide) (by decide)))
  have f43 := f28.other W34 (Ne.symm ne_0_1_1)
  have f44 := f29.other W34 (Ne.symm ne_0_2_1)
  have f45 := f30.other W34 (Ne.symm ne_0_3_1)
  have f46 := f31.other W34 (Ne.symm ne_0_4_1)
  have f47 := f32.other W34 (Ne.symm ne_0_5_1)
  have f48 := f33.other W34 (Ne.symm ne_0_6_1)
  have f49 := f12.other W34 (Ne.symm ne13)
  have N34 := Fr.snoc X34 N10 g_a0
  have Zz34 := Nat.le_trans Zz10 (Nat.le_of_eq (Wr.size W34).symm)
  refine Go.of st34 ?_
  show Go p e below s _ _ _ (T34.setTop (mkF m 74 #[.val (.ref a0), .val (.long q1), .second, .val (.long ((w.toInt64) + q1)), .second, .val (.int ((F7 (2147483639 : Int64) (F6 ((w.toInt64) + q1) ((2 : Int64) * (N.toInt64)))).toInt32))] []))
  refine Go.of (fun t k => XS.aloadN X34.here hx rfl (hb hby d5_74) rfl rfl k) ?_
  show Go p e below s _ _ _ (T34.setTop (mkF m 75 #[.val (.ref a0), .val (.long q1), .second, .val (.long ((w.toInt64) + q1)), .second, .val (.int ((F7 (2147483639 : Int64) (F6 ((w.toInt64) + q1) ((2 : Int64) * (N.toInt64)))).toInt32))] [(.ref a0)]))
  refine Go.of (fun t k => XS.aloadN X34.here hx rfl (hb hby d5_75) rfl rfl k) ?_
  show Go p e below s _ _ _ (T34.setTop (mkF m 76 #[.val (.ref a0), .val (.long q1), .second, .val (.long ((w.toInt64) + q1)), .second, .val (.int ((F7 (2147483639 : Int64) (F6 ((w.toInt64) + q1) ((2 : Int64) * (N.toInt64)))).toInt32))] [(.ref a0), (.ref a0)]))
  obtain ⟨T50, X50, e50, st50⟩ := getF X34 hx hZ hown (host := "") (Or.inl (hw _ (List.mem_of_getElem? (i := 16) rfl))) Via.refl e34 f37 (g := (mkF m 76 #[.val (.ref a0), .val (.long q1), .second, .val (.long ((w.toInt64) + q1)), .second, .val (.int ((F7 (2147483639 : Int64) (F6 ((w.toInt64) + q1) ((2 : Int64) * (N.toInt64)))).toInt32))] [(.ref a0), (.ref a0)])) rfl rfl (hb hby d5_76)
  refine Go.of st50 ?_
  show Go p e below s _ _ _ (T50.setTop (mkF m 79 #[.val (.ref a0), .val (.long q1), .second, .val (.long ((w.toInt64) + q1)), .second, .val (.int ((F7 (2147483639 : Int64) (F6 ((w.toInt64) + q1) ((2 : Int64) * (N.toInt64)))).toInt32))] [(.ref xg), (.ref a0)]))
  refine Go.of (fun t k => XS.iload X50.here hx rfl (hb hby d5_79) rfl k) ?_
  show Go p e below s _ _ _ (T50.setTop (mkF m 81 #[.val (.ref a0), .val (.long q1), .second, .val (.long ((w.toInt64) + q1)), .second, .val (.int ((F7 (2147483639 : Int64) (F6 ((w.toInt64) + q1) ((2 : Int64) * (N.toInt64)))).toInt32))] [(.int ((F7 (2147483639 : Int64) (F6 ((w.toInt64) + q1) ((2 : Int64) * (N.toInt64)))).toInt32)), (.ref xg), (.ref a0)]))
  obtain ⟨_, _, ⟨T51, L51, k51, n51⟩, -, X51, ⟨Lc51, hQ51, l51, y51, z51⟩, st51⟩ := Jvm.LawKit.callS X50 hx (y := (⟨"java/util/Arrays", "copyOf", "([II)[I"⟩ : MethodName)) hown (mvT hZ (hw _ (List.mem_of_getElem? (i := 45) rfl))) (mvT hZ (hw _ (List.mem_of_getElem? (i := 46) rfl))) (mvT hZ (hw _ (List.mem_of_getElem? (i := 47) rfl))) (mvT hZ (hw _ (List.mem_of_getElem? (i := 48) rfl))) (by decide) (backOf (W := 1) (rm8 l Z az hw [] xg ((F7 (2147483639 : Int64) (F6 ((w.toInt64) + q1) ((2 : Int64) * (N.toInt64)))).toInt32) kxg N Lxg h34 n0 Zz34 f44 hmk.2.2) hZ (hw _ (List.mem_of_getElem? (i := 48) rfl)) (hw _ (List.mem_of_getElem? (i := 47) rfl)) (by decide) (by decide)) (g := (mkF m 81 #[.val (.ref a0), .val (.long q1), .second, .val (.long ((w.toInt64) + q1)), .second, .val (.int ((F7 (2147483639 : Int64) (F6 ((w.toInt64) + q1) ((2 : Int64) * (N.toInt64)))).toInt32))] [(.int ((F7 (2147483639 : Int64) (F6 ((w.toInt64) + q1) ((2 : Int64) * (N.toInt64)))).toInt32)), (.ref xg), (.ref a0)])) rfl (by rw [hml]; rfl) (argsL := [(.ref xg), (.int ((F7 (2147483639 : Int64) (F6 ((w.toInt64) + q1) ((2 : Int64) * (N.toInt64)))).toInt32))]) (rest := [(.ref a0)]) (lenOf own_pd2 rfl) rfl (by show 2 * 0 + _ ≤ _; exact Nat.le_of_eq rfl) (hb hby d5_81) (fun _ _ => ⟨rfl, e50, (by decide : 1 + 1 ≤ _), (by decide : 8 + 8 ≤ _)⟩)
  dsimp only [Pt.U, Pt.locs, Pt.cells, Pt.slots] at X51 l51 y51 z51 st51 hQ51
  subst l51 y51 z51
  obtain ⟨b52, k_b52, rfl, g_b52, szqb52, N51q, Kq51, f53⟩ := hQ51
  have N51 := Fr.app N34 N51q
  have ne54 : a0 ≠ b52 := Nat.ne_of_lt (Nat.lt_of_lt_of_le f36.lt szqb52)
  have ne55 : xu ≠ b52 := Nat.ne_of_lt (Nat.lt_of_lt_of_le f43.lt szqb52)
  have ne56 : xg ≠ b52 := Nat.ne_of_lt (Nat.lt_of_lt_of_le f44.lt szqb52)
  have ne57 : xd ≠ b52 := Nat.ne_of_lt (Nat.lt_of_lt_of_le f45.lt szqb52)
  have ne58 : xt ≠ b52 := Nat.ne_of_lt (Nat.lt_of_lt_of_le f46.lt szqb52)
  have ne59 : xr ≠ b52 := Nat.ne_of_lt (Nat.lt_of_lt_of_le f47.lt szqb52)
  have ne60 : xc ≠ b52 := Nat.ne_of_lt (Nat.lt_of_lt_of_le f48.lt szqb52)
  have ne61 : b11 ≠ b52 := Nat.ne_of_lt (Nat.lt_of_lt_of_le f49.lt szqb52)
  have f62 := f36.keep Kq51
  have f63 := f35.keep Kq51 nin0
  have f64 := f37.keep Kq51 nin0
  have f65 := f38.keep Kq51 nin0
  have f66 := f39.keep Kq51 nin0
  have f67 := f40.keep Kq51 nin0
  have f68 := f41.keep Kq51 nin0
  have f69 := f42.keep Kq51 nin0
  have f70 := f43.keep Kq51 nin0
  have f71 := f44.keep Kq51 nin0
  have f72 := f45.keep Kq51 nin0
  have f73 := f46.keep Kq51 nin0
  have f74 := f47.keep Kq51 nin0
  have f75 := f48.keep Kq51 nin0
  have f76 := f49.keep Kq51 nin0
  have Zz51 := Nat.le_trans Zz34 Kq51.1
  refine Go.of st51 ?_
  show Go p e below s _ _ _ (T51.setTop (mkF m 84 #[.val (.ref a0), .val (.long q1), .second, .val (.long ((w.toInt64) + q1)), .second, .val (.int ((F7 (2147483639 : Int64) (F6 ((w.toInt64) + q1) ((2 : Int64) * (N.toInt64)))).toInt32))] [(.ref b52), (.ref a0)]))
  obtain ⟨T77, h77, X77, e77, W77, st77⟩ := putF X51 hx hZ hown (host := "") (Or.inl (hw _ (List.mem_of_getElem? (i := 16) rfl))) Via.refl rfl f64 f62 (Or.inl (hw _ (List.mem_of_getElem? (i := 17) rfl))) (hw _ (List.mem_of_getElem? (i := 5) rfl)) (ty := (.array .int)) (by decide) rfl rfl (g := (mkF m 84 #[.val (.ref a0), .val (.long q1), .second, .val (.long ((w.toInt64) + q1)), .second, .val (.int ((F7 (2147483639 : Int64) (F6 ((w.toInt64) + q1) ((2 : Int64) * (N.toInt64)))).toInt32))] [(.ref b52), (.ref a0)])) rfl rfl (hb hby d5_84)
  have f78 := f64.same W77
  have f79 := f62.wr W77
  have f80 := f63.other W77 (Or.inr (slot_ne (Or.inl (hw _ (List.mem_of_getElem? (i := 15) rfl))) (Or.inl (hw _ (List.mem_of_getElem? (i := 17) rfl))) (by decide) (t := (.array .int)) (t' := (.array .int)) (by decide) (by decide)))
  have f81 := f65.other W77 (Or.inr (slot_ne (Or.inl (hw _ (List.mem_of_getElem? (i := 19) rfl))) (Or.inl (hw _ (List.mem_of_getElem? (i := 17) rfl))) (by decide) (t := (.array .int)) (t' := (.array .int)) (by decide) (by decide)))
  have f82 := f66.other W77 (Or.inr (slot_ne (Or.inr (hw _ (List.mem_of_getElem? (i := 21) rfl))) (Or.inl (hw _ (List.mem_of_getElem? (i := 17) rfl))) (by decide) (t := (.array .int)) (t' := (.array .int)) (by decide) (by decide)))
  have f83 := f67.other W77 (Or.inr (slot_ne (Or.inr (hw _ (List.mem_of_getElem? (i := 23) rfl))) (Or.inl (hw _ (List.mem_of_getElem? (i := 17) rfl))) (by decide) (t := (.array .int)) (t' := (.array .int)) (by decide) (by decide)))
  have f84 := f68.other W77 (Or.inr (slot_ne (Or.inr (hw _ (List.mem_of_getElem? (i := 25) rfl))) (Or.inl (hw _ (List.mem_of_getElem? (i := 17) rfl))) (by decide) (t := (.array .int)) (t' := (.array .int)) (by decide) (by decide)))
  have f85 := f69.other W77 (Or.inr (slot_ne (Or.inl (hw _ (List.mem_of_getElem? (i := 36) rfl))) (Or.inl (hw _ (List.mem_of_getElem? (i := 17) rfl))) (by decide) (t := .int) (t' := (.array .int)) (by decide) (by decide)))
  have f86 := f70.other W77 (Ne.symm ne_0_1_1)
  have f87 := f71.other W77 (Ne.symm ne_0_2_1)
  have f88 := f72.other W77 (Ne.symm ne_0_3_1)
  have f89 := f73.other W77 (Ne.symm ne_0_4_1)
  have f90 := f74.other W77 (Ne.symm ne_0_5_1)
  have f91 := f75.other W77 (Ne.symm ne_0_6_1)
  have f92 := f76.other W77 (Ne.symm ne13)
  have f93 := f53.other W77 (Ne.symm ne54)
  have N77 := Fr.snoc X77 N51 g_a0
  have Zz77 := Nat.le_trans Zz51 (Nat.le_of_eq (Wr.size W77).symm)
  refine Go.of st77 ?_
  show Go p e below s _ _ _ (T77.setTop (mkF m 87 #[.val (.ref a0), .val (.long q1), .second, .val (.long ((w.toInt64) + q1)), .second, .val (.int ((F7 (2147483639 : Int64) (F6 ((w.toInt64) + q1) ((2 : Int64) * (N.toInt64)))).toInt32))] []))
  refine Go.of (fun t k => XS.aloadN X77.here hx rfl (hb hby d5_87) rfl rfl k) ?_
  show Go p e below s _ _ _ (T77.setTop (mkF m 88 #[.val (.ref a0), .val (.long q1), .second, .val (.long ((w.toInt64) + q1)), .second, .val (.int ((F7 (2147483639 : Int64) (F6 ((w.toInt64) + q1) ((2 : Int64) * (N.toInt64)))).toInt32))] [(.ref a0)]))
  refine Go.of (fun t k => XS.aloadN X77.here hx rfl (hb hby d5_88) rfl rfl k) ?_
  show Go p e below s _ _ _ (T77.setTop (mkF m 89 #[.val (.ref a0), .val (.long q1), .second, .val (.long ((w.toInt64) + q1)), .second, .val (.int ((F7 (2147483639 : Int64) (F6 ((w.toInt64) + q1) ((2 : Int64) * (N.toInt64)))).toInt32))] [(.ref a0), (.ref a0)]))
  obtain ⟨T94, X94, e94, st94⟩ := getF X77 hx hZ hown (host := "") (Or.inl (hw _ (List.mem_of_getElem? (i := 18) rfl))) Via.refl e77 f81 (g := (mkF m 89 #[.val (.ref a0), .val (.long q1), .second, .val (.long ((w.toInt64) + q1)), .second, .val (.int ((F7 (2147483639 : Int64) (F6 ((w.toInt64) + q1) ((2 : Int64) * (N.toInt64)))).toInt32))] [(.ref a0), (.ref a0)])) rfl rfl (hb hby d5_89)
  refine Go.of st94 ?_
  show Go p e below s _ _ _ (T94.setTop (mkF m 92 #[.val (.ref a0), .val (.long q1), .second, .val (.long ((w.toInt64) + q1)), .second, .val (.int ((F7 (2147483639 : Int64) (F6 ((w.toInt64) + q1) ((2 : Int64) * (N.toInt64)))).toInt32))] [(.ref xd), (.ref a0)]))
  refine Go.of (fun t k => XS.iload X94.here hx rfl (hb hby d5_92) rfl k) ?_
  show Go p e below s _ _ _ (T94.setTop (mkF m 94 #[.val (.ref a0), .val (.long q1), .second, .val (.long ((w.toInt64) + q1)), .second, .val (.int ((F7 (2147483639 : Int64) (F6 ((w.toInt64) + q1) ((2 : Int64) * (N.toInt64)))).toInt32))] [(.int ((F7 (2147483639 : Int64) (F6 ((w.toInt64) + q1) ((2 : Int64) * (N.toInt64)))).toInt32)), (.ref xd), (.ref a0)]))
  obtain ⟨_, _, ⟨T95, L95, k95, n95⟩, -, X95, ⟨Lc95, hQ95, l95, y95, z95⟩, st95⟩ := Jvm.LawKit.callS X94 hx (y := (⟨"java/util/Arrays", "copyOf", "([II)[I"⟩ : MethodName)) hown (mvT hZ (hw _ (List.mem_of_getElem? (i := 45) rfl))) (mvT hZ (hw _ (List.mem_of_getElem? (i := 46) rfl))) (mvT hZ (hw _ (List.mem_of_getElem? (i := 47) rfl))) (mvT hZ (hw _ (List.mem_of_getElem? (i := 48) rfl))) (by decide) (backOf (W := 1) (rm8 l Z az hw [] xd ((F7 (2147483639 : Int64) (F6 ((w.toInt64) + q1) ((2 : Int64) * (N.toInt64)))).toInt32) kxd N Lxd h77 n0 Zz77 f88 hmk.2.2) hZ (hw _ (List.mem_of_getElem? (i := 48) rfl)) (hw _ (List.mem_of_getElem? (i := 47) rfl)) (by decide) (by decide)) (g := (mkF m 94 #[.val (.ref a0), .val (.long q1), .second, .val (.long ((w.toInt64) + q1)), .second, .val (.int ((F7 (2147483639 : Int64) (F6 ((w.toInt64) + q1) ((2 : Int64) * (N.toInt64)))).toInt32))] [(.int ((F7 (2147483639 : Int64) (F6 ((w.toInt64) + q1) ((2 : Int64) * (N.toInt64)))).toInt32)), (.ref xd), (.ref a0)])) rfl (by rw [hml]; rfl) (argsL := [(.ref xd), (.int ((F7 (2147483639 : Int64) (F6 ((w.toInt64) + q1) ((2 : Int64) * (N.toInt64)))).toInt32))]) (rest := [(.ref a0)]) (lenOf own_pd2 rfl) rfl (by show 2 * 0 + _ ≤ _; exact Nat.le_of_eq rfl) (hb hby d5_94) (fun _ _ => ⟨rfl, e94, (by decide : 2 + 1 ≤ _), (by decide : 16 + 8 ≤ _)⟩)
  dsimp only [Pt.U, Pt.locs, Pt.cells, Pt.slots] at X95 l95 y95 z95 st95 hQ95
  subst l95 y95 z95
  obtain ⟨b96, k_b96, rfl, g_b96, szqb96, N95q, Kq95, f97⟩ := hQ95
  have N95 := Fr.app N77 N95q
  have ne98 : a0 ≠ b96 := Nat.ne_of_lt (Nat.lt_of_lt_of_le f79.lt szqb96)
  have ne99 : xu ≠ b96 := Nat.ne_of_lt (Nat.lt_of_lt_of_le f86.lt szqb96)
  have ne100 : xg ≠ b96 := Nat.ne_of_lt (Nat.lt_of_lt_of_le f87.lt szqb96)
  have ne101 : xd ≠ b96 := Nat.ne_of_lt (Nat.lt_of_lt_of_le f88.lt szqb96)
  have ne102 : xt ≠ b96 := Nat.ne_of_lt (Nat.lt_of_lt_of_le f89.lt szqb96)
  have ne103 : xr ≠ b96 := Nat.ne_of_lt (Nat.lt_of_lt_of_le f90.lt szqb96)
  have ne104 : xc ≠ b96 := Nat.ne_of_lt (Nat.lt_of_lt_of_le f91.lt szqb96)
  have ne105 : b11 ≠ b96 := Nat.ne_of_lt (Nat.lt_of_lt_of_le f92.lt szqb96)
  have ne106 : b52 ≠ b96 := Nat.ne_of_lt (Nat.lt_of_lt_of_le f93.lt szqb96)
  have f107 := f79.keep Kq95
  have f108 := f80.keep Kq95 nin0
  have f109 := f78.keep Kq95 nin0
  have f110 := f81.keep Kq95 nin0
  have f111 := f82.keep Kq95 nin0
  have f112 := f83.keep Kq95 nin0
  have f113 := f84.keep Kq95 nin0
  have f114 := f85.keep Kq95 nin0
  have f115 := f86.keep Kq95 nin0
  have f116 := f87.keep Kq95 nin0
  have f117 := f88.keep Kq95 nin0
  have f118 := f89.keep Kq95 nin0
  have f119 := f90.keep Kq95 nin0
  have f120 := f91.keep Kq95 nin0
  have f121 := f92.keep Kq95 nin0
  have f122 := f93.keep Kq95 nin0
  have Zz95 := Nat.le_trans Zz77 Kq95.1
  refine Go.of st95 ?_
  show Go p e below s _ _ _ (T95.setTop (mkF m 97 #[.val (.ref a0), .val (.long q1), .second, .val (.long ((w.toInt64) + q1)), .second, .val (.int ((F7 (2147483639 : Int64) (F6 ((w.toInt64) + q1) ((2 : Int64) * (N.toInt64)))).toInt32))] [(.ref b96), (.ref a0)]))
  obtain ⟨T123, h123, X123, e123, W123, st123⟩ := putF X95 hx hZ hown (host := "") (Or.inl (hw _ (List.mem_of_getElem? (i := 18) rfl))) Via.refl rfl f110 f107 (Or.inl (hw _ (List.mem_of_getElem? (i := 19) rfl))) (hw _ (List.mem_of_getElem? (i := 5) rfl)) (ty := (.array .int)) (by decide) rfl rfl (g := (mkF m 97 #[.val (.ref a0), .val (.long q1), .second, .val (.long ((w.toInt64) + q1)), .second, .val (.int ((F7 (2147483639 : Int64) (F6 ((w.toInt64) + q1) ((2 : Int64) * (N.toInt64)))).toInt32))] [(.ref b96), (.ref a0)])) rfl rfl (hb hby d5_97)
  have f124 := f110.same W123
  have f125 := f107.wr W123
  have f126 := f108.other W123 (Or.inr (slot_ne (Or.inl (hw _ (List.mem_of_getElem? (i := 15) rfl))) (Or.inl (hw _ (List.mem_of_getElem? (i := 19) rfl))) (by decide) (t := (.array .int)) (t' := (.array .int)) (by decide) (by decide)))
  have f127 := f109.other W123 (Or.inr (slot_ne (Or.inl (hw _ (List.mem_of_getElem? (i := 17) rfl))) (Or.inl (hw _ (List.mem_of_getElem? (i := 19) rfl))) (by decide) (t := (.array .int)) (t' := (.array .int)) (by decide) (by decide)))
  have f128 := f111.other W123 (Or.inr (slot_ne (Or.inr (hw _ (List.mem_of_getElem? (i := 21) rfl))) (Or.inl (hw _ (List.mem_of_getElem? (i := 19) rfl))) (by decide) (t := (.array .int)) (t' := (.array .int)) (by decide) (by decide)))
  have f129 := f112.other W123 (Or.inr (slot_ne (Or.inr (hw _ (List.mem_of_getElem? (i := 23) rfl))) (Or.inl (hw _ (List.mem_of_getElem? (i := 19) rfl))) (by decide) (t := (.array .int)) (t' := (.array .int)) (by decide) (by decide)))
  have f130 := f113.other W123 (Or.inr (slot_ne (Or.inr (hw _ (List.mem_of_getElem? (i := 25) rfl))) (Or.inl (hw _ (List.mem_of_getElem? (i := 19) rfl))) (by decide) (t := (.array .int)) (t' := (.array .int)) (by decide) (by decide)))
  have f131 := f114.other W123 (Or.inr (slot_ne (Or.inl (hw _ (List.mem_of_getElem? (i := 36) rfl))) (Or.inl (hw _ (List.mem_of_getElem? (i := 19) rfl))) (by decide) (t := .int) (t' := (.array .int)) (by decide) (by decide)))
  have f132 := f115.other W123 (Ne.symm ne_0_1_1)
  have f133 := f116.other W123 (Ne.symm ne_0_2_1)
  have f134 := f117.other W123 (Ne.symm ne_0_3_1)
  have f135 := f118.other W123 (Ne.symm ne_0_4_1)
  have f136 := f119.other W123 (Ne.symm ne_0_5_1)
  have f137 := f120.other W123 (Ne.symm ne_0_6_1)
  have f138 := f121.other W123 (Ne.symm ne13)
  have f139 := f122.other W123 (Ne.symm ne54)
  have f140 := f97.other W123 (Ne.symm ne98)
  have N123 := Fr.snoc X123 N95 g_a0
  have Zz123 := Nat.le_trans Zz95 (Nat.le_of_eq (Wr.size W123).symm)
  refine Go.of st123 ?_
  show Go p e below s _ _ _ (T123.setTop (mkF m 100 #[.val (.ref a0), .val (.long q1), .second, .val (.long ((w.toInt64) + q1)), .second, .val (.int ((F7 (2147483639 : Int64) (F6 ((w.toInt64) + q1) ((2 : Int64) * (N.toInt64)))).toInt32))] []))
  exact Go.ret X123 none (fun _ => rfl) hlk (by rw [e123]; exact ⟨rfl, N123, b11, b52, b96, k_b11, k_b52, k_b96, ⟨f125, f126, f127, f124, f128, f129, f130, f131, f138, f139, f140, f135, f136, f137, g_a0, g_b11, g_b52, g_b96, g_xt, g_xr, g_xc, Zz123, ne13, ne54, ne98, ne_0_4_1, ne_0_5_1, ne_0_6_1, ne61, ne105, (Ne.symm ne17), (Ne.symm ne18), (Ne.symm ne19), ne106, (Ne.symm ne58), (Ne.symm ne59), (Ne.symm ne60), (Ne.symm ne102), (Ne.symm ne103), (Ne.symm ne104), ne_4_5_1, ne_4_6_1, ne_5_6_1⟩⟩) (by decide) (by decide) (fun fs hr => (X123.returnOut hx Bd.returns (hb hby d5_100) hr))
theorem own_pd3 : parseMethodDescriptor "(J)V" = some ⟨[.long], none⟩ := by decide +kernel
theorem d4_0 : decode prog_34_method_3_code 0 = .ok (.aload_n 0, 1) := by decide +kernel
theorem d4_1 : decode prog_34_method_3_code 1 = .ok (.iload 4, 2) := by decide +kernel
theorem d4_3 : decode prog_34_method_3_code 3 = .ok (.i2l, 1) := by decide +kernel
theorem d4_4 : decode prog_34_method_3_code 4 = .ok (.invokevirtual 32, 3) := by decide +kernel
theorem d4_7 : decode prog_34_method_3_code 7 = .ok (.aload_n 0, 1) := by decide +kernel
theorem d4_8 : decode prog_34_method_3_code 8 = .ok (.getfield 19, 3) := by decide +kernel
theorem d4_11 : decode prog_34_method_3_code 11 = .ok (.iload_n 1, 1) := by decide +kernel
theorem d4_12 : decode prog_34_method_3_code 12 = .ok (.aload_n 0, 1) := by decide +kernel
theorem d4_13 : decode prog_34_method_3_code 13 = .ok (.getfield 28, 3) := by decide +kernel
theorem d4_16 : decode prog_34_method_3_code 16 = .ok (.iastore, 1) := by decide +kernel
theorem d4_17 : decode prog_34_method_3_code 17 = .ok (.aload_n 0, 1) := by decide +kernel
theorem d4_18 : decode prog_34_method_3_code 18 = .ok (.getfield 22, 3) := by decide +kernel
theorem d4_21 : decode prog_34_method_3_code 21 = .ok (.iload_n 1, 1) := by decide +kernel
theorem d4_22 : decode prog_34_method_3_code 22 = .ok (.iload 4, 2) := by decide +kernel
theorem d4_24 : decode prog_34_method_3_code 24 = .ok (.iastore, 1) := by decide +kernel
theorem d4_25 : decode prog_34_method_3_code 25 = .ok (.aload_n 0, 1) := by decide +kernel
theorem d4_26 : decode prog_34_method_3_code 26 = .ok (.getfield 25, 3) := by decide +kernel
theorem d4_29 : decode prog_34_method_3_code 29 = .ok (.iload_n 1, 1) := by decide +kernel
theorem d4_30 : decode prog_34_method_3_code 30 = .ok (.iconst 1, 1) := by decide +kernel
theorem d4_31 : decode prog_34_method_3_code 31 = .ok (.iastore, 1) := by decide +kernel
theorem d4_32 : decode prog_34_method_3_code 32 = .ok (.aload_n 0, 1) := by decide +kernel
theorem d4_33 : decode prog_34_method_3_code 33 = .ok (.getfield 7, 3) := by decide +kernel
theorem d4_36 : decode prog_34_method_3_code 36 = .ok (.aload_n 0, 1) := by decide +kernel
theorem d4_37 : decode prog_34_method_3_code 37 = .ok (.getfield 28, 3) := by decide +kernel
theorem d4_40 : decode prog_34_method_3_code 40 = .ok (.iload_n 2, 1) := by decide +kernel
theorem d4_41 : decode prog_34_method_3_code 41 = .ok (.iastore, 1) := by decide +kernel
theorem d4_42 : decode prog_34_method_3_code 42 = .ok (.aload_n 0, 1) := by decide +kernel
theorem d4_43 : decode prog_34_method_3_code 43 = .ok (.getfield 13, 3) := by decide +kernel
theorem d4_46 : decode prog_34_method_3_code 46 = .ok (.aload_n 0, 1) := by decide +kernel
theorem d4_47 : decode prog_34_method_3_code 47 = .ok (.getfield 28, 3) := by decide +kernel
theorem d4_50 : decode prog_34_method_3_code 50 = .ok (.iload_n 3, 1) := by decide +kernel
theorem d4_51 : decode prog_34_method_3_code 51 = .ok (.iastore, 1) := by decide +kernel
theorem d4_52 : decode prog_34_method_3_code 52 = .ok (.aload_n 0, 1) := by decide +kernel
theorem d4_53 : decode prog_34_method_3_code 53 = .ok (.getfield 16, 3) := by decide +kernel
theorem d4_56 : decode prog_34_method_3_code 56 = .ok (.aload_n 0, 1) := by decide +kernel
theorem d4_57 : decode prog_34_method_3_code 57 = .ok (.getfield 28, 3) := by decide +kernel
theorem d4_60 : decode prog_34_method_3_code 60 = .ok (.iconst (-1), 1) := by decide +kernel
theorem d4_61 : decode prog_34_method_3_code 61 = .ok (.iastore, 1) := by decide +kernel
theorem d4_62 : decode prog_34_method_3_code 62 = .ok (.aload_n 0, 1) := by decide +kernel
theorem d4_63 : decode prog_34_method_3_code 63 = .ok (.dup, 1) := by decide +kernel
theorem d4_64 : decode prog_34_method_3_code 64 = .ok (.getfield 28, 3) := by decide +kernel
theorem d4_67 : decode prog_34_method_3_code 67 = .ok (.iload 4, 2) := by decide +kernel
theorem d4_69 : decode prog_34_method_3_code 69 = .ok (.iadd, 1) := by decide +kernel
theorem d4_70 : decode prog_34_method_3_code 70 = .ok (.putfield 28, 3) := by decide +kernel
theorem d4_73 : decode prog_34_method_3_code 73 = .ok (.return_, 1) := by decide +kernel
theorem ef_4 (m : MethodId) (a0 : Addr) (p1 : Int32) (p2 : Int32) (p3 : Int32) (p4 : Int32) : entryFrame m #[(.ref a0), (.int p1), (.int p2), (.int p3), (.int p4)] 5 = mkF m 0 #[.val (.ref a0), .val (.int p1), .val (.int p2), .val (.int p3), .val (.int p4)] [] := by first | (simp [entryFrame, mkF, argsToLocals, Value.category]; done) | rfl
def Q4 (Z : State) (a0 : Addr) (p1 : Int32) (p2 : Int32) (p3 : Int32) (p4 : Int32) (xu xg xd xt xr xc : Addr) (kxu kxg kxd kxt kxr kxc : ClassId) (N : Int32) (Lxu Lxg Lxd Lxt Lxr Lxc : List Int32) (w : Int32) (h0 : Heap) (n0 : Nat) (v : Option Value) (h : Heap) (Lo : List Loc) : Prop := v = none ∧ Fr n0 Lo ∧ ∃ (u' g' d' : Addr) (ku' kg' kd' : ClassId), own_K Z h n0 a0 u' g' d' xt xr xc ku' kg' kd' kxt kxr kxc ((F7 (2147483639 : Int64) (F6 ((w.toInt64) + (p4.toInt64)) ((2 : Int64) * (N.toInt64)))).toInt32) ((own_move Lxu [(0 : Int32), (0 : Int32), (0 : Int32), (0 : Int32), (0 : Int32), (0 : Int32), (0 : Int32), (0 : Int32)] ((0 : Int32)).toNatClampNeg ((0 : Int32)).toNatClampNeg ((F1 N ((F7 (2147483639 : Int64) (F6 ((w.toInt64) + (p4.toInt64)) ((2 : Int64) * (N.toInt64)))).toInt32))).toNatClampNeg).set (w).toNatClampNeg p2) ((own_move Lxg [(0 : Int32), (0 : Int32), (0 : Int32), (0 : Int32), (0 : Int32), (0 : Int32), (0 : Int32), (0 : Int32)] ((0 : Int32)).toNatClampNeg ((0 : Int32)).toNatClampNeg ((F1 N ((F7 (2147483639 : Int64) (F6 ((w.toInt64) + (p4.toInt64)) ((2 : Int64) * (N.toInt64)))).toInt32))).toNatClampNeg).set (w).toNatClampNeg p3) ((own_move Lxd [(0 : Int32), (0 : Int32), (0 : Int32), (0 : Int32), (0 : Int32), (0 : Int32), (0 : Int32), (0 : Int32)] ((0 : Int32)).toNatClampNeg ((0 : Int32)).toNatClampNeg ((F1 N ((F7 (2147483639 : Int64) (F6 ((w.toInt64) + (p4.toInt64)) ((2 : Int64) * (N.toInt64)))).toInt32))).toNatClampNeg).set (w).toNatClampNeg (-1 : Int32)) (Lxt.set (p1).toNatClampNeg w) (Lxr.set (p1).toNatClampNeg p4) (Lxc.set (p1).toNatClampNeg (1 : Int32)) (w + p4)
set_option maxRecDepth 65536 in
set_option maxHeartbeats 40000000 in
theorem rm4 (l : Launch) (Z : State) (az : Array Value) (hw : ∀ d ∈ tables_1, d.before az Z = true) (ws : List Jvm.Cond) (a0 : Addr) (p1 : Int32) (p2 : Int32) (p3 : Int32) (p4 : Int32) (xu xg xd xt xr xc : Addr) (kxu kxg kxd kxt kxr kxc : ClassId) (N : Int32) (Lxu Lxg Lxd Lxt Lxr Lxc : List Int32) (w : Int32) (h0 : Heap) (n0 : Nat) (Z0 : n0 ≤ h0.size) (hKU : own_K Z h0 n0 a0 xu xg xd xt xr xc kxu kxg kxd kxt kxr kxc N Lxu Lxg Lxd Lxt Lxr Lxc w) (hmk : ((N.toInt64) < ((w.toInt64) + (p4.toInt64))) ∧ (¬ ((2147483639 : Int64) < ((w.toInt64) + (p4.toInt64)))) ∧ (0 ≤ N.toInt ∧ N.toInt < ((F7 (2147483639 : Int64) (F6 ((w.toInt64) + (p4.toInt64)) ((2 : Int64) * (N.toInt64)))).toInt32).toInt ∧ ((F7 (2147483639 : Int64) (F6 ((w.toInt64) + (p4.toInt64)) ((2 : Int64) * (N.toInt64)))).toInt32).toInt ≤ 8)) (hmem : ¬ (p1 < 0) ∧ p1 < (2 : Int32)) (hl3 : p1.toNatClampNeg < Lxt.length ∧ p1.toNatClampNeg < Lxr.length ∧ p1.toNatClampNeg < Lxc.length) (hus : (¬ (w < 0) ∧ w < ((F7 (2147483639 : Int64) (F6 ((w.toInt64) + (p4.toInt64)) ((2 : Int64) * (N.toInt64)))).toInt32)) ∧ w.toNatClampNeg < 8) :
    MetFree l (⟨"com/example/susurrus/susurrus/KnownUnits", "start", "(IIII)V"⟩ : MethodName) (head1 (Jvm.Cond.code (⟨"com/example/susurrus/susurrus/KnownUnits", "start", "(IIII)V"⟩ : MethodName) prog_34_method_3_code 5 none :: ws) ({ frames := 3, cells := 3, slots := 24, locals := 50 } : Room)) (fun a U => a = #[(.ref a0), (.int p1), (.int p2), (.int p3), (.int p4)] ∧ Z.Warmed39 U.vm ∧ U.heap = h0) (fun _ _ _ _ _ => True) (fun _ U o U' => ∃ v L, o = .returned v ∧ (Q4 Z a0 p1 p2 p3 p4 xu xg xd xt xr xc kxu kxg kxd kxt kxr kxc N Lxu Lxg Lxd Lxt Lxr Lxc w h0 n0) v U'.heap L ∧ FrameEnd U o U' L ({ frames := 3, cells := 3, slots := 24, locals := 50 } : Room).cells ({ frames := 3, cells := 3, slots := 24, locals := 50 } : Room).slots) := by
  refine MetFree.of_bodySF (plainFor_of_name own_pn1) hisR ?_
  intro p e s m args below meth c s₁ Bd hml0 hP hK
  obtain ⟨rfl, hZ, hh⟩ := hP
  have hx := Bd.exec
  have hby := Bd.bytes
  have hml : c.maxLocals = 5 := hml0
  have hown : s.vm.findClass "com/example/susurrus/susurrus/KnownUnits" = some m.cls := findClass_of_methodNamed Bd.named
  have hnm := (name_of_methodNamed Bd.named Bd.method).1
  have hlk : meth.locks = false := BodyLoose.notSynchronized Bd
  have X0 : Stand p l e ({ frames := 3, cells := 3, slots := 24, locals := 50 } : Room) s m #[(.ref a0), (.int p1), (.int p2), (.int p3), (.int p4)] below meth c s₁ [] 0 0 := Stand.of_body Bd
  have e0 : s₁.heap = h0 := by rw [← hh, Bd.state]; rfl
  have N0 := Fr.nil n0
  obtain ⟨E_1, Ff0_1, Ff1_1, Ff2_1, Ff3_1, Ff4_1, Ff5_1, Ff6_1, Vv0_1, Vv1_1, Vv2_1, Vv3_1, Vv4_1, Vv5_1, g_a0, g_xu, g_xg, g_xd, g_xt, g_xr, g_xc, Zk1, ne_0_1_1, ne_0_2_1, ne_0_3_1, ne_0_4_1, ne_0_5_1, ne_0_6_1, ne_1_2_1, ne_1_3_1, ne_1_4_1, ne_1_5_1, ne_1_6_1, ne_2_3_1, ne_2_4_1, ne_2_5_1, ne_2_6_1, ne_3_4_1, ne_3_5_1, ne_3_6_1, ne_4_5_1, ne_4_6_1, ne_5_6_1⟩ := id hKU
  show Go p e below s (Q4 Z a0 p1 p2 p3 p4 xu xg xd xt xr xc kxu kxg kxd kxt kxr kxc N Lxu Lxg Lxd Lxt Lxr Lxc w h0 n0) ({ frames := 3, cells := 3, slots := 24, locals := 50 } : Room).cells ({ frames := 3, cells := 3, slots := 24, locals := 50 } : Room).slots (s₁.setTop (entryFrame m #[(.ref a0), (.int p1), (.int p2), (.int p3), (.int p4)] 5))
  refine Go.of (fun t k => castTop (ef_4 m a0 p1 p2 p3 p4) k) ?_
  show Go p e below s _ _ _ (s₁.setTop (mkF m 0 #[.val (.ref a0), .val (.int p1), .val (.int p2), .val (.int p3), .val (.int p4)] []))
  refine Go.of (fun t k => XS.aloadN X0.here hx rfl (hb hby d4_0) rfl rfl k) ?_
  show Go p e below s _ _ _ (s₁.setTop (mkF m 1 #[.val (.ref a0), .val (.int p1), .val (.int p2), .val (.int p3), .val (.int p4)] [(.ref a0)]))
  refine Go.of (fun t k => XS.iload X0.here hx rfl (hb hby d4_1) rfl k) ?_
  show Go p e below s _ _ _ (s₁.setTop (mkF m 3 #[.val (.ref a0), .val (.int p1), .val (.int p2), .val (.int p3), .val (.int p4)] [(.int p4), (.ref a0)]))
  refine Go.of (fun t k => XS.i2l X0.here hx rfl (hb hby d4_3) rfl k) ?_
  show Go p e below s _ _ _ (s₁.setTop (mkF m 4 #[.val (.ref a0), .val (.int p1), .val (.int p2), .val (.int p3), .val (.int p4)] [(.long (p4.toInt64)), (.ref a0)]))
  obtain ⟨cq2, q2, q2'⟩ := E_1.cell
  obtain ⟨_, _, ⟨T2, L2, k2, n2⟩, -, X2, ⟨Lc2, hQ2, l2, y2, z2⟩, st2⟩ := X0.privateBack hx (y := (⟨"com/example/susurrus/susurrus/KnownUnits", "makeRoom", "(J)V"⟩ : MethodName)) hown (mvT hZ (hw _ (List.mem_of_getElem? (i := 31) rfl))) (mvT hZ (hw _ (List.mem_of_getElem? (i := 32) rfl))) (own_sel (y := (⟨"com/example/susurrus/susurrus/KnownUnits", "makeRoom", "(J)V"⟩ : MethodName)) (mvT (args := #[]) hZ (hw _ (List.mem_of_getElem? (i := 5) rfl))) (Cond.privateMethod_at (mvP hZ (hw _ (List.mem_of_getElem? (i := 33) rfl)) (args := #[]))) (mvT hZ (hw _ (List.mem_of_getElem? (i := 32) rfl))) (by decide)) (Cond.privateMethod_at (mvP hZ (hw _ (List.mem_of_getElem? (i := 33) rfl)) (args := #[]))) (mvT hZ (hw _ (List.mem_of_getElem? (i := 34) rfl))) (by decide) (backOf (W := 0) (rm5 l Z az hw [] a0 (p4.toInt64) xu xg xd xt xr xc kxu kxg kxd kxt kxr kxc N Lxu Lxg Lxd Lxt Lxr Lxc w h0 n0 Zk1 ⟨E_1, Ff0_1, Ff1_1, Ff2_1, Ff3_1, Ff4_1, Ff5_1, Ff6_1, Vv0_1, Vv1_1, Vv2_1, Vv3_1, Vv4_1, Vv5_1, g_a0, g_xu, g_xg, g_xd, g_xt, g_xr, g_xc, Zk1, ne_0_1_1, ne_0_2_1, ne_0_3_1, ne_0_4_1, ne_0_5_1, ne_0_6_1, ne_1_2_1, ne_1_3_1, ne_1_4_1, ne_1_5_1, ne_1_6_1, ne_2_3_1, ne_2_4_1, ne_2_5_1, ne_2_6_1, ne_3_4_1, ne_3_5_1, ne_3_6_1, ne_4_5_1, ne_4_6_1, ne_5_6_1⟩ (hmk)) hZ (hw _ (List.mem_of_getElem? (i := 34) rfl)) (hw _ (List.mem_of_getElem? (i := 6) rfl)) (by decide) (by decide)) (g := (mkF m 4 #[.val (.ref a0), .val (.int p1), .val (.int p2), .val (.int p3), .val (.int p4)] [(.long (p4.toInt64)), (.ref a0)])) rfl (by rw [hml]; rfl) (Steps.refl _) (a := a0) (by rw [e0]; exact q2) q2' (argsL := [(.long (p4.toInt64))]) (rest := []) (lenOf own_pd3 rfl) rfl (by show 2 * 0 + _ ≤ _; exact Nat.le_of_eq rfl) (hb hby d4_4) (fun _ _ => ⟨rfl, e0, (by decide : 0 + 3 ≤ _), (by decide : 0 + 24 ≤ _)⟩)
  dsimp only [Pt.U, Pt.locs, Pt.cells, Pt.slots] at X2 l2 y2 z2 st2 hQ2
  subst l2 y2 z2
  obtain ⟨rfl, N2q, bu3, bg3, bd3, ku3, kg3, kd3, hK3⟩ := hQ2
  have N2 := Fr.app N0 N2q
  obtain ⟨E_4, Ff0_4, Ff1_4, Ff2_4, Ff3_4, Ff4_4, Ff5_4, Ff6_4, Vv0_4, Vv1_4, Vv2_4, Vv3_4, Vv4_4, Vv5_4, g_a0, g_bu3, g_bg3, g_bd3, g_xt, g_xr, g_xc, Zk4, ne_0_1_4, ne_0_2_4, ne_0_3_4, ne_0_4_4, ne_0_5_4, ne_0_6_4, ne_1_2_4, ne_1_3_4, ne_1_4_4, ne_1_5_4, ne_1_6_4, ne_2_3_4, ne_2_4_4, ne_2_5_4, ne_2_6_4, ne_3_4_4, ne_3_5_4, ne_3_6_4, ne_4_5_4, ne_4_6_4, ne_5_6_4⟩ := id hK3
  refine Go.of (fun t k => st2.trans k) ?_
  show Go p e below s _ _ _ (T2.setTop (mkF m 7 #[.val (.ref a0), .val (.int p1), .val (.int p2), .val (.int p3), .val (.int p4)] []))
  refine Go.of (fun t k => XS.aloadN X2.here hx rfl (hb hby d4_7) rfl rfl k) ?_
  show Go p e below s _ _ _ (T2.setTop (mkF m 8 #[.val (.ref a0), .val (.int p1), .val (.int p2), .val (.int p3), .val (.int p4)] [(.ref a0)]))
  obtain ⟨T5, X5, e5, st5⟩ := getF X2 hx hZ hown (host := "") (Or.inl (hw _ (List.mem_of_getElem? (i := 20) rfl))) Via.refl rfl Ff3_4 (g := (mkF m 8 #[.val (.ref a0), .val (.int p1), .val (.int p2), .val (.int p3), .val (.int p4)] [(.ref a0)])) rfl rfl (hb hby d4_8)
  refine Go.of st5 ?_
  show Go p e below s _ _ _ (T5.setTop (mkF m 11 #[.val (.ref a0), .val (.int p1), .val (.int p2), .val (.int p3), .val (.int p4)] [(.ref xt)]))
  refine Go.of (fun t k => XS.iloadN X5.here hx rfl (hb hby d4_11) rfl k) ?_
  show Go p e below s _ _ _ (T5.setTop (mkF m 12 #[.val (.ref a0), .val (.int p1), .val (.int p2), .val (.int p3), .val (.int p4)] [(.int p1), (.ref xt)]))
  refine Go.of (fun t k => XS.aloadN X5.here hx rfl (hb hby d4_12) rfl rfl k) ?_
  show Go p e below s _ _ _ (T5.setTop (mkF m 13 #[.val (.ref a0), .val (.int p1), .val (.int p2), .val (.int p3), .val (.int p4)] [(.ref a0), (.int p1), (.ref xt)]))
  obtain ⟨T6, X6, e6, st6⟩ := getF X5 hx hZ hown (host := "") (Or.inl (hw _ (List.mem_of_getElem? (i := 35) rfl))) Via.refl e5 Ff6_4 (g := (mkF m 13 #[.val (.ref a0), .val (.int p1), .val (.int p2), .val (.int p3), .val (.int p4)] [(.ref a0), (.int p1), (.ref xt)])) rfl rfl (hb hby d4_13)
  refine Go.of st6 ?_
  show Go p e below s _ _ _ (T6.setTop (mkF m 16 #[.val (.ref a0), .val (.int p1), .val (.int p2), .val (.int p3), .val (.int p4)] [(.int w), (.int p1), (.ref xt)]))
  obtain ⟨cl7, Ar7, q7, S7, M7, H7, G7⟩ := id Vv3_4
  have hin7 : ¬ (p1 < 0 ∨ cl7.slots.size ≤ (p1).toNatClampNeg) := (inb_of S7 hmem)
  obtain ⟨T7, h7, X7, e7, W7, st7⟩ := stI X6 hx hZ e6 Ar7 (j := p1) hin7 (g := (mkF m 16 #[.val (.ref a0), .val (.int p1), .val (.int p2), .val (.int p3), .val (.int p4)] [(.int w), (.int p1), (.ref xt)])) rfl rfl (hb hby d4_16)
  have f8 : Arv Z h7 xt kxt .int (2 : Int32) ((Lxt.set (p1).toNatClampNeg w).map Value.int) (.int (0 : Int32)) := by rw [List.map_set]; exact Arv.set Ar7 q7 S7 M7 H7 G7 rfl W7 _ rfl (by rw [List.length_map]; exact hl3.1)
  have f9 := E_4.wr W7
  have f10 := Ff0_4.other W7 (Or.inl ne_0_4_4)
  have f11 := Ff1_4.other W7 (Or.inl ne_0_4_4)
  have f12 := Ff2_4.other W7 (Or.inl ne_0_4_4)
  have f13 := Ff3_4.other W7 (Or.inl ne_0_4_4)
  have f14 := Ff4_4.other W7 (Or.inl ne_0_4_4)
  have f15 := Ff5_4.other W7 (Or.inl ne_0_4_4)
  have f16 := Ff6_4.other W7 (Or.inl ne_0_4_4)
  have f17 := Vv0_4.other W7 ne_1_4_4
  have f18 := Vv1_4.other W7 ne_2_4_4
  have f19 := Vv2_4.other W7 ne_3_4_4
  have f20 := Vv4_4.other W7 (Ne.symm ne_4_5_4)
  have f21 := Vv5_4.other W7 (Ne.symm ne_4_6_4)
  have N7 := Fr.snoc X7 N2 g_xt
  have Zz7 := Nat.le_trans Zk4 (Nat.le_of_eq (Wr.size W7).symm)
  refine Go.of st7 ?_
  show Go p e below s _ _ _ (T7.setTop (mkF m 17 #[.val (.ref a0), .val (.int p1), .val (.int p2), .val (.int p3), .val (.int p4)] []))
  refine Go.of (fun t k => XS.aloadN X7.here hx rfl (hb hby d4_17) rfl rfl k) ?_
  show Go p e below s _ _ _ (T7.setTop (mkF m 18 #[.val (.ref a0), .val (.int p1), .val (.int p2), .val (.int p3), .val (.int p4)] [(.ref a0)]))
  obtain ⟨T22, X22, e22, st22⟩ := getF X7 hx hZ hown (host := "") (Or.inl (hw _ (List.mem_of_getElem? (i := 22) rfl))) Via.refl e7 f14 (g := (mkF m 18 #[.val (.ref a0), .val (.int p1), .val (.int p2), .val (.int p3), .val (.int p4)] [(.ref a0)])) rfl rfl (hb hby d4_18)
  refine Go.of st22 ?_
  show Go p e below s _ _ _ (T22.setTop (mkF m 21 #[.val (.ref a0), .val (.int p1), .val (.int p2), .val (.int p3), .val (.int p4)] [(.ref xr)]))
  refine Go.of (fun t k => XS.iloadN X22.here hx rfl (hb hby d4_21) rfl k) ?_
  show Go p e below s _ _ _ (T22.setTop (mkF m 22 #[.val (.ref a0), .val (.int p1), .val (.int p2), .val (.int p3), .val (.int p4)] [(.int p1), (.ref xr)]))
  refine Go.of (fun t k => XS.iload X22.here hx rfl (hb hby d4_22) rfl k) ?_
  show Go p e below s _ _ _ (T22.setTop (mkF m 24 #[.val (.ref a0), .val (.int p1), .val (.int p2), .val (.int p3), .val (.int p4)] [(.int p4), (.int p1), (.ref xr)]))
  obtain ⟨cl23, Ar23, q23, S23, M23, H23, G23⟩ := id f20
  have hin23 : ¬ (p1 < 0 ∨ cl23.slots.size ≤ (p1).toNatClampNeg) := (inb_of S23 hmem)
  obtain ⟨T23, h23, X23, e23, W23, st23⟩ := stI X22 hx hZ e22 Ar23 (j := p1) hin23 (g := (mkF m 24 #[.val (.ref a0), .val (.int p1), .val (.int p2), .val (.int p3), .val (.int p4)] [(.int p4), (.int p1), (.ref xr)])) rfl rfl (hb hby d4_24)
  have f24 : Arv Z h23 xr kxr .int (2 : Int32) ((Lxr.set (p1).toNatClampNeg p4).map Value.int) (.int (0 : Int32)) := by rw [List.map_set]; exact Arv.set Ar23 q23 S23 M23 H23 G23 rfl W23 _ rfl (by rw [List.length_map]; exact hl3.2.1)
  have f25 := f9.wr W23
  have f26 := f10.other W23 (Or.inl ne_0_5_4)
  have f27 := f11.other W23 (Or.inl ne_0_5_4)
  have f28 := f12.other W23 (Or.inl ne_0_5_4)
  have f29 := f13.other W23 (Or.inl ne_0_5_4)
  have f30 := f14.other W23 (Or.inl ne_0_5_4)
  have f31 := f15.other W23 (Or.inl ne_0_5_4)
  have f32 := f16.other W23 (Or.inl ne_0_5_4)
  have f33 := f17.other W23 ne_1_5_4
  have f34 := f18.other W23 ne_2_5_4
  have f35 := f19.other W23 ne_3_5_4
  have f36 := f8.other W23 ne_4_5_4
  have f37 := f21.other W23 (Ne.symm ne_5_6_4)
  have N23 := Fr.snoc X23 N7 g_xr
  have Zz23 := Nat.le_trans Zz7 (Nat.le_of_eq (Wr.size W23).symm)
  refine Go.of st23 ?_
  show Go p e below s _ _ _ (T23.setTop (mkF m 25 #[.val (.ref a0), .val (.int p1), .val (.int p2), .val (.int p3), .val (.int p4)] []))
  refine Go.of (fun t k => XS.aloadN X23.here hx rfl (hb hby d4_25) rfl rfl k) ?_
  show Go p e below s _ _ _ (T23.setTop (mkF m 26 #[.val (.ref a0), .val (.int p1), .val (.int p2), .val (.int p3), .val (.int p4)] [(.ref a0)]))
  obtain ⟨T38, X38, e38, st38⟩ := getF X23 hx hZ hown (host := "") (Or.inl (hw _ (List.mem_of_getElem? (i := 24) rfl))) Via.refl e23 f31 (g := (mkF m 26 #[.val (.ref a0), .val (.int p1), .val (.int p2), .val (.int p3), .val (.int p4)] [(.ref a0)])) rfl rfl (hb hby d4_26)
  refine Go.of st38 ?_
  show Go p e below s _ _ _ (T38.setTop (mkF m 29 #[.val (.ref a0), .val (.int p1), .val (.int p2), .val (.int p3), .val (.int p4)] [(.ref xc)]))
  refine Go.of (fun t k => XS.iloadN X38.here hx rfl (hb hby d4_29) rfl k) ?_
  show Go p e below s _ _ _ (T38.setTop (mkF m 30 #[.val (.ref a0), .val (.int p1), .val (.int p2), .val (.int p3), .val (.int p4)] [(.int p1), (.ref xc)]))
  refine Go.of (fun t k => XS.iconst X38.here hx rfl (hb hby d4_30) k) ?_
  show Go p e below s _ _ _ (T38.setTop (mkF m 31 #[.val (.ref a0), .val (.int p1), .val (.int p2), .val (.int p3), .val (.int p4)] [(.int (1 : Int32)), (.int p1), (.ref xc)]))
  obtain ⟨cl39, Ar39, q39, S39, M39, H39, G39⟩ := id f37
  have hin39 : ¬ (p1 < 0 ∨ cl39.slots.size ≤ (p1).toNatClampNeg) := (inb_of S39 hmem)
  obtain ⟨T39, h39, X39, e39, W39, st39⟩ := stI X38 hx hZ e38 Ar39 (j := p1) hin39 (g := (mkF m 31 #[.val (.ref a0), .val (.int p1), .val (.int p2), .val (.int p3), .val (.int p4)] [(.int (1 : Int32)), (.int p1), (.ref xc)])) rfl rfl (hb hby d4_31)
  have f40 : Arv Z h39 xc kxc .int (2 : Int32) ((Lxc.set (p1).toNatClampNeg (1 : Int32)).map Value.int) (.int (0 : Int32)) := by rw [List.map_set]; exact Arv.set Ar39 q39 S39 M39 H39 G39 rfl W39 _ rfl (by rw [List.length_map]; exact hl3.2.2)
  have f41 := f25.wr W39
  have f42 := f26.other W39 (Or.inl ne_0_6_4)
  have f43 := f27.other W39 (Or.inl ne_0_6_4)
  have f44 := f28.other W39 (Or.inl ne_0_6_4)
  have f45 := f29.other W39 (Or.inl ne_0_6_4)
  have f46 := f30.other W39 (Or.inl ne_0_6_4)
  have f47 := f31.other W39 (Or.inl ne_0_6_4)
  have f48 := f32.other W39 (Or.inl ne_0_6_4)
  have f49 := f33.other W39 ne_1_6_4
  have f50 := f34.other W39 ne_2_6_4
  have f51 := f35.other W39 ne_3_6_4
  have f52 := f36.other W39 ne_4_6_4
  have f53 := f24.other W39 ne_5_6_4
  have N39 := Fr.snoc X39 N23 g_xc
  have Zz39 := Nat.le_trans Zz23 (Nat.le_of_eq (Wr.size W39).symm)
  refine Go.of st39 ?_
  show Go p e below s _ _ _ (T39.setTop (mkF m 32 #[.val (.ref a0), .val (.int p1), .val (.int p2), .val (.int p3), .val (.int p4)] []))
  refine Go.of (fun t k => XS.aloadN X39.here hx rfl (hb hby d4_32) rfl rfl k) ?_
  show Go p e below s _ _ _ (T39.setTop (mkF m 33 #[.val (.ref a0), .val (.int p1), .val (.int p2), .val (.int p3), .val (.int p4)] [(.ref a0)]))
  obtain ⟨T54, X54, e54, st54⟩ := getF X39 hx hZ hown (host := "") (Or.inl (hw _ (List.mem_of_getElem? (i := 14) rfl))) Via.refl e39 f42 (g := (mkF m 33 #[.val (.ref a0), .val (.int p1), .val (.int p2), .val (.int p3), .val (.int p4)] [(.ref a0)])) rfl rfl (hb hby d4_33)
  refine Go.of st54 ?_
  show Go p e below s _ _ _ (T54.setTop (mkF m 36 #[.val (.ref a0), .val (.int p1), .val (.int p2), .val (.int p3), .val (.int p4)] [(.ref bu3)]))
  refine Go.of (fun t k => XS.aloadN X54.here hx rfl (hb hby d4_36) rfl rfl k) ?_
  show Go p e below s _ _ _ (T54.setTop (mkF m 37 #[.val (.ref a0), .val (.int p1), .val (.int p2), .val (.int p3), .val (.int p4)] [(.ref a0), (.ref bu3)]))
  obtain ⟨T55, X55, e55, st55⟩ := getF X54 hx hZ hown (host := "") (Or.inl (hw _ (List.mem_of_getElem? (i := 35) rfl))) Via.refl e54 f48 (g := (mkF m 37 #[.val (.ref a0), .val (.int p1), .val (.int p2), .val (.int p3), .val (.int p4)] [(.ref a0), (.ref bu3)])) rfl rfl (hb hby d4_37)
  refine Go.of st55 ?_
  show Go p e below s _ _ _ (T55.setTop (mkF m 40 #[.val (.ref a0), .val (.int p1), .val (.int p2), .val (.int p3), .val (.int p4)] [(.int w), (.ref bu3)]))
  refine Go.of (fun t k => XS.iloadN X55.here hx rfl (hb hby d4_40) rfl k) ?_
  show Go p e below s _ _ _ (T55.setTop (mkF m 41 #[.val (.ref a0), .val (.int p1), .val (.int p2), .val (.int p3), .val (.int p4)] [(.int p2), (.int w), (.ref bu3)]))
  obtain ⟨cl56, Ar56, q56, S56, M56, H56, G56⟩ := id f49
  have hin56 : ¬ (w < 0 ∨ cl56.slots.size ≤ (w).toNatClampNeg) := (inb_of S56 hus.1)
  obtain ⟨T56, h56, X56, e56, W56, st56⟩ := stI X55 hx hZ e55 Ar56 (j := w) hin56 (g := (mkF m 41 #[.val (.ref a0), .val (.int p1), .val (.int p2), .val (.int p3), .val (.int p4)] [(.int p2), (.int w), (.ref bu3)])) rfl rfl (hb hby d4_41)
  have f57 : Arv Z h56 bu3 ku3 .int ((F7 (2147483639 : Int64) (F6 ((w.toInt64) + (p4.toInt64)) ((2 : Int64) * (N.toInt64)))).toInt32) (((own_move Lxu [(0 : Int32), (0 : Int32), (0 : Int32), (0 : Int32), (0 : Int32), (0 : Int32), (0 : Int32), (0 : Int32)] ((0 : Int32)).toNatClampNeg ((0 : Int32)).toNatClampNeg ((F1 N ((F7 (2147483639 : Int64) (F6 ((w.toInt64) + (p4.toInt64)) ((2 : Int64) * (N.toInt64)))).toInt32))).toNatClampNeg).set (w).toNatClampNeg p2).map Value.int) (.int (0 : Int32)) := by rw [List.map_set]; exact Arv.set Ar56 q56 S56 M56 H56 G56 rfl W56 _ rfl (by rw [List.length_map]; exact (own_put hmk.2.2 hus.2))
  have f58 := f41.wr W56
  have f59 := f42.other W56 (Or.inl ne_0_1_4)
  have f60 := f43.other W56 (Or.inl ne_0_1_4)
  have f61 := f44.other W56 (Or.inl ne_0_1_4)
  have f62 := f45.other W56 (Or.inl ne_0_1_4)
  have f63 := f46.other W56 (Or.inl ne_0_1_4)
  have f64 := f47.other W56 (Or.inl ne_0_1_4)
  have f65 := f48.other W56 (Or.inl ne_0_1_4)
  have f66 := f50.other W56 (Ne.symm ne_1_2_4)
  have f67 := f51.other W56 (Ne.symm ne_1_3_4)
  have f68 := f52.other W56 (Ne.symm ne_1_4_4)
  have f69 := f53.other W56 (Ne.symm ne_1_5_4)
  have f70 := f40.other W56 (Ne.symm ne_1_6_4)
  have N56 := Fr.snoc X56 N39 g_bu3
  have Zz56 := Nat.le_trans Zz39 (Nat.le_of_eq (Wr.size W56).symm)
  refine Go.of st56 ?_
  show Go p e below s _ _ _ (T56.setTop (mkF m 42 #[.val (.ref a0), .val (.int p1), .val (.int p2), .val (.int p3), .val (.int p4)] []))
  refine Go.of (fun t k => XS.aloadN X56.here hx rfl (hb hby d4_42) rfl rfl k) ?_
  show Go p e below s _ _ _ (T56.setTop (mkF m 43 #[.val (.ref a0), .val (.int p1), .val (.int p2), .val (.int p3), .val (.int p4)] [(.ref a0)]))
  obtain ⟨T71, X71, e71, st71⟩ := getF X56 hx hZ hown (host := "") (Or.inl (hw _ (List.mem_of_getElem? (i := 16) rfl))) Via.refl e56 f60 (g := (mkF m 43 #[.val (.ref a0), .val (.int p1), .val (.int p2), .val (.int p3), .val (.int p4)] [(.ref a0)])) rfl rfl (hb hby d4_43)
  refine Go.of st71 ?_
  show Go p e below s _ _ _ (T71.setTop (mkF m 46 #[.val (.ref a0), .val (.int p1), .val (.int p2), .val (.int p3), .val (.int p4)] [(.ref bg3)]))
  refine Go.of (fun t k => XS.aloadN X71.here hx rfl (hb hby d4_46) rfl rfl k) ?_
  show Go p e below s _ _ _ (T71.setTop (mkF m 47 #[.val (.ref a0), .val (.int p1), .val (.int p2), .val (.int p3), .val (.int p4)] [(.ref a0), (.ref bg3)]))
  obtain ⟨T72, X72, e72, st72⟩ := getF X71 hx hZ hown (host := "") (Or.inl (hw _ (List.mem_of_getElem? (i := 35) rfl))) Via.refl e71 f65 (g := (mkF m 47 #[.val (.ref a0), .val (.int p1), .val (.int p2), .val (.int p3), .val (.int p4)] [(.ref a0), (.ref bg3)])) rfl rfl (hb hby d4_47)
  refine Go.of st72 ?_
  show Go p e below s _ _ _ (T72.setTop (mkF m 50 #[.val (.ref a0), .val (.int p1), .val (.int p2), .val (.int p3), .val (.int p4)] [(.int w), (.ref bg3)]))
  refine Go.of (fun t k => XS.iloadN X72.here hx rfl (hb hby d4_50) rfl k) ?_
  show Go p e below s _ _ _ (T72.setTop (mkF m 51 #[.val (.ref a0), .val (.int p1), .val (.int p2), .val (.int p3), .val (.int p4)] [(.int p3), (.int w), (.ref bg3)]))
  obtain ⟨cl73, Ar73, q73, S73, M73, H73, G73⟩ := id f66
  have hin73 : ¬ (w < 0 ∨ cl73.slots.size ≤ (w).toNatClampNeg) := (inb_of S73 hus.1)
  obtain ⟨T73, h73, X73, e73, W73, st73⟩ := stI X72 hx hZ e72 Ar73 (j := w) hin73 (g := (mkF m 51 #[.val (.ref a0), .val (.int p1), .val (.int p2), .val (.int p3), .val (.int p4)] [(.int p3), (.int w), (.ref bg3)])) rfl rfl (hb hby d4_51)
  have f74 : Arv Z h73 bg3 kg3 .int ((F7 (2147483639 : Int64) (F6 ((w.toInt64) + (p4.toInt64)) ((2 : Int64) * (N.toInt64)))).toInt32) (((own_move Lxg [(0 : Int32), (0 : Int32), (0 : Int32), (0 : Int32), (0 : Int32), (0 : Int32), (0 : Int32), (0 : Int32)] ((0 : Int32)).toNatClampNeg ((0 : Int32)).toNatClampNeg ((F1 N ((F7 (2147483639 : Int64) (F6 ((w.toInt64) + (p4.toInt64)) ((2 : Int64) * (N.toInt64)))).toInt32))).toNatClampNeg).set (w).toNatClampNeg p3).map Value.int) (.int (0 : Int32)) := by rw [List.map_set]; exact Arv.set Ar73 q73 S73 M73 H73 G73 rfl W73 _ rfl (by rw [List.length_map]; exact (own_put hmk.2.2 hus.2))
  have f75 := f58.wr W73
  have f76 := f59.other W73 (Or.inl ne_0_2_4)
  have f77 := f60.other W73 (Or.inl ne_0_2_4)
  have f78 := f61.other W73 (Or.inl ne_0_2_4)
  have f79 := f62.other W73 (Or.inl ne_0_2_4)
  have f80 := f63.other W73 (Or.inl ne_0_2_4)
  have f81 := f64.other W73 (Or.inl ne_0_2_4)
  have f82 := f65.other W73 (Or.inl ne_0_2_4)
  have f83 := f57.other W73 ne_1_2_4
  have f84 := f67.other W73 (Ne.symm ne_2_3_4)
  have f85 := f68.other W73 (Ne.symm ne_2_4_4)
  have f86 := f69.other W73 (Ne.symm ne_2_5_4)
  have f87 := f70.other W73 (Ne.symm ne_2_6_4)
  have N73 := Fr.snoc X73 N56 g_bg3
  have Zz73 := Nat.le_trans Zz56 (Nat.le_of_eq (Wr.size W73).symm)
  refine Go.of st73 ?_
  show Go p e below s _ _ _ (T73.setTop (mkF m 52 #[.val (.ref a0), .val (.int p1), .val (.int p2), .val (.int p3), .val (.int p4)] []))
  refine Go.of (fun t k => XS.aloadN X73.here hx rfl (hb hby d4_52) rfl rfl k) ?_
  show Go p e below s _ _ _ (T73.setTop (mkF m 53 #[.val (.ref a0), .val (.int p1), .val (.int p2), .val (.int p3), .val (.int p4)] [(.ref a0)]))
  obtain ⟨T88, X88, e88, st88⟩ := getF X73 hx hZ hown (host := "") (Or.inl (hw _ (List.mem_of_getElem? (i := 18) rfl))) Via.refl e73 f78 (g := (mkF m 53 #[.val (.ref a0), .val (.int p1), .val (.int p2), .val (.int p3), .val (.int p4)] [(.ref a0)])) rfl rfl (hb hby d4_53)
  refine Go.of st88 ?_
  show Go p e below s _ _ _ (T88.setTop (mkF m 56 #[.val (.ref a0), .val (.int p1), .val (.int p2), .val (.int p3), .val (.int p4)] [(.ref bd3)]))
  refine Go.of (fun t k => XS.aloadN X88.here hx rfl (hb hby d4_56) rfl rfl k) ?_
  show Go p e below s _ _ _ (T88.setTop (mkF m 57 #[.val (.ref a0), .val (.int p1), .val (.int p2), .val (.int p3), .val (.int p4)] [(.ref a0), (.ref bd3)]))
  obtain ⟨T89, X89, e89, st89⟩ := getF X88 hx hZ hown (host := "") (Or.inl (hw _ (List.mem_of_getElem? (i := 35) rfl))) Via.refl e88 f82 (g := (mkF m 57 #[.val (.ref a0), .val (.int p1), .val (.int p2), .val (.int p3), .val (.int p4)] [(.ref a0), (.ref bd3)])) rfl rfl (hb hby d4_57)
  refine Go.of st89 ?_
  show Go p e below s _ _ _ (T89.setTop (mkF m 60 #[.val (.ref a0), .val (.int p1), .val (.int p2), .val (.int p3), .val (.int p4)] [(.int w), (.ref bd3)]))
  refine Go.of (fun t k => XS.iconst X89.here hx rfl (hb hby d4_60) k) ?_
  show Go p e below s _ _ _ (T89.setTop (mkF m 61 #[.val (.ref a0), .val (.int p1), .val (.int p2), .val (.int p3), .val (.int p4)] [(.int (-1 : Int32)), (.int w), (.ref bd3)]))
  obtain ⟨cl90, Ar90, q90, S90, M90, H90, G90⟩ := id f84
  have hin90 : ¬ (w < 0 ∨ cl90.slots.size ≤ (w).toNatClampNeg) := (inb_of S90 hus.1)
  obtain ⟨T90, h90, X90, e90, W90, st90⟩ := stI X89 hx hZ e89 Ar90 (j := w) hin90 (g := (mkF m 61 #[.val (.ref a0), .val (.int p1), .val (.int p2), .val (.int p3), .val (.int p4)] [(.int (-1 : Int32)), (.int w), (.ref bd3)])) rfl rfl (hb hby d4_61)
  have f91 : Arv Z h90 bd3 kd3 .int ((F7 (2147483639 : Int64) (F6 ((w.toInt64) + (p4.toInt64)) ((2 : Int64) * (N.toInt64)))).toInt32) (((own_move Lxd [(0 : Int32), (0 : Int32), (0 : Int32), (0 : Int32), (0 : Int32), (0 : Int32), (0 : Int32), (0 : Int32)] ((0 : Int32)).toNatClampNeg ((0 : Int32)).toNatClampNeg ((F1 N ((F7 (2147483639 : Int64) (F6 ((w.toInt64) + (p4.toInt64)) ((2 : Int64) * (N.toInt64)))).toInt32))).toNatClampNeg).set (w).toNatClampNeg (-1 : Int32)).map Value.int) (.int (0 : Int32)) := by rw [List.map_set]; exact Arv.set Ar90 q90 S90 M90 H90 G90 rfl W90 _ rfl (by rw [List.length_map]; exact (own_put hmk.2.2 hus.2))
  have f92 := f75.wr W90
  have f93 := f76.other W90 (Or.inl ne_0_3_4)
  have f94 := f77.other W90 (Or.inl ne_0_3_4)
  have f95 := f78.other W90 (Or.inl ne_0_3_4)
  have f96 := f79.other W90 (Or.inl ne_0_3_4)
  have f97 := f80.other W90 (Or.inl ne_0_3_4)
  have f98 := f81.other W90 (Or.inl ne_0_3_4)
  have f99 := f82.other W90 (Or.inl ne_0_3_4)
  have f100 := f83.other W90 ne_1_3_4
  have f101 := f74.other W90 ne_2_3_4
  have f102 := f85.other W90 (Ne.symm ne_3_4_4)
  have f103 := f86.other W90 (Ne.symm ne_3_5_4)
  have f104 := f87.other W90 (Ne.symm ne_3_6_4)
  have N90 := Fr.snoc X90 N73 g_bd3
  have Zz90 := Nat.le_trans Zz73 (Nat.le_of_eq (Wr.size W90).symm)
  refine Go.of st90 ?_
  show Go p e below s _ _ _ (T90.setTop (mkF m 62 #[.val (.ref a0), .val (.int p1), .val (.int p2), .val (.int p3), .val (.int p4)] []))
  refine Go.of (fun t k => XS.aloadN X90.here hx rfl (hb hby d4_62) rfl rfl k) ?_
  show Go p e below s _ _ _ (T90.setTop (mkF m 63 #[.val (.ref a0), .val (.int p1), .val (.int p2), .val (.int p3), .val (.int p4)] [(.ref a0)]))
  refine Go.of (fun t k => XS.dup X90.here hx rfl (hb hby d4_63) rfl rfl k) ?_
  show Go p e below s _ _ _ (T90.setTop (mkF m 64 #[.val (.ref a0), .val (.int p1), .val (.int p2), .val (.int p3), .val (.int p4)] [(.ref a0), (.ref a0)]))
  obtain ⟨T105, X105, e105, st105⟩ := getF X90 hx hZ hown (host := "") (Or.inl (hw _ (List.mem_of_getElem? (i := 35) rfl))) Via.refl e90 f99 (g := (mkF m 64 #[.val (.ref a0), .val (.int p1), .val (.int p2), .val (.int p3), .val (.int p4)] [(.ref a0), (.ref a0)])) rfl rfl (hb hby d4_64)
  refine Go.of st105 ?_
  show Go p e below s _ _ _ (T105.setTop (mkF m 67 #[.val (.ref a0), .val (.int p1), .val (.int p2), .val (.int p3), .val (.int p4)] [(.int w), (.ref a0)]))
  refine Go.of (fun t k => XS.iload X105.here hx rfl (hb hby d4_67) rfl k) ?_
  show Go p e below s _ _ _ (T105.setTop (mkF m 69 #[.val (.ref a0), .val (.int p1), .val (.int p2), .val (.int p3), .val (.int p4)] [(.int p4), (.int w), (.ref a0)]))
  refine Go.of (fun t k => XS.iadd X105.here hx rfl (hb hby d4_69) rfl k) ?_
  show Go p e below s _ _ _ (T105.setTop (mkF m 70 #[.val (.ref a0), .val (.int p1), .val (.int p2), .val (.int p3), .val (.int p4)] [(.int (w + p4)), (.ref a0)]))
  obtain ⟨T106, h106, X106, e106, W106, st106⟩ := putF X105 hx hZ hown (host := "") (Or.inl (hw _ (List.mem_of_getElem? (i := 35) rfl))) Via.refl e105 f99 f92 (Or.inl (hw _ (List.mem_of_getElem? (i := 36) rfl))) (hw _ (List.mem_of_getElem? (i := 5) rfl)) (ty := .int) (by decide) rfl rfl (g := (mkF m 70 #[.val (.ref a0), .val (.int p1), .val (.int p2), .val (.int p3), .val (.int p4)] [(.int (w + p4)), (.ref a0)])) rfl rfl (hb hby d4_70)
  have f107 := f99.same W106
  have f108 := f92.wr W106
  have f109 := f93.other W106 (Or.inr (slot_ne (Or.inl (hw _ (List.mem_of_getElem? (i := 15) rfl))) (Or.inl (hw _ (List.mem_of_getElem? (i := 36) rfl))) (by decide) (t := (.array .int)) (t' := .int) (by decide) (by decide)))
  have f110 := f94.other W106 (Or.inr (slot_ne (Or.inl (hw _ (List.mem_of_getElem? (i := 17) rfl))) (Or.inl (hw _ (List.mem_of_getElem? (i := 36) rfl))) (by decide) (t := (.array .int)) (t' := .int) (by decide) (by decide)))
  have f111 := f95.other W106 (Or.inr (slot_ne (Or.inl (hw _ (List.mem_of_getElem? (i := 19) rfl))) (Or.inl (hw _ (List.mem_of_getElem? (i := 36) rfl))) (by decide) (t := (.array .int)) (t' := .int) (by decide) (by decide)))
  have f112 := f96.other W106 (Or.inr (slot_ne (Or.inr (hw _ (List.mem_of_getElem? (i := 21) rfl))) (Or.inl (hw _ (List.mem_of_getElem? (i := 36) rfl))) (by decide) (t := (.array .int)) (t' := .int) (by decide) (by decide)))
  have f113 := f97.other W106 (Or.inr (slot_ne (Or.inr (hw _ (List.mem_of_getElem? (i := 23) rfl))) (Or.inl (hw _ (List.mem_of_getElem? (i := 36) rfl))) (by decide) (t := (.array .int)) (t' := .int) (by decide) (by decide)))
  have f114 := f98.other W106 (Or.inr (slot_ne (Or.inr (hw _ (List.mem_of_getElem? (i := 25) rfl))) (Or.inl (hw _ (List.mem_of_getElem? (i := 36) rfl))) (by decide) (t := (.array .int)) (t' := .int) (by decide) (by decide)))
  have f115 := f100.other W106 (Ne.symm ne_0_1_4)
  have f116 := f101.other W106 (Ne.symm ne_0_2_4)
  have f117 := f91.other W106 (Ne.symm ne_0_3_4)
  have f118 := f102.other W106 (Ne.symm ne_0_4_4)
  have f119 := f103.other W106 (Ne.symm ne_0_5_4)
  have f120 := f104.other W106 (Ne.symm ne_0_6_4)
  have N106 := Fr.snoc X106 N90 g_a0
  have Zz106 := Nat.le_trans Zz90 (Nat.le_of_eq (Wr.size W106).symm)
  refine Go.of st106 ?_
  show Go p e below s _ _ _ (T106.setTop (mkF m 73 #[.val (.ref a0), .val (.int p1), .val (.int p2), .val (.int p3), .val (.int p4)] []))
  exact Go.ret X106 none (fun _ => rfl) hlk (by rw [e106]; exact ⟨rfl, N106, bu3, bg3, bd3, ku3, kg3, kd3, ⟨f108, f109, f110, f111, f112, f113, f114, f107, f115, f116, f117, f118, f119, f120, g_a0, g_bu3, g_bg3, g_bd3, g_xt, g_xr, g_xc, Zz106, ne_0_1_4, ne_0_2_4, ne_0_3_4, ne_0_4_4, ne_0_5_4, ne_0_6_4, ne_1_2_4, ne_1_3_4, ne_1_4_4, ne_1_5_4, ne_1_6_4, ne_2_3_4, ne_2_4_4, ne_2_5_4, ne_2_6_4, ne_3_4_4, ne_3_5_4, ne_3_6_4, ne_4_5_4, ne_4_6_4, ne_5_6_4⟩⟩) (by decide) (by decide) (fun fs hr => (X106.returnOut hx Bd.returns (hb hby d4_73) hr))
theorem d11_0 : decode prog_34_method_12_code 0 = .ok (.aload_n 0, 1) := by decide +kernel
theorem d11_1 : decode prog_34_method_12_code 1 = .ok (.iload_n 2, 1) := by decide +kernel
theorem d11_2 : decode prog_34_method_12_code 2 = .ok (.i2l, 1) := by decide +kernel
theorem d11_3 : decode prog_34_method_12_code 3 = .ok (.invokevirtual 32, 3) := by decide +kernel
theorem d11_6 : decode prog_34_method_12_code 6 = .ok (.aload_n 0, 1) := by decide +kernel
theorem d11_7 : decode prog_34_method_12_code 7 = .ok (.getfield 7, 3) := by decide +kernel
theorem d11_10 : decode prog_34_method_12_code 10 = .ok (.aload_n 0, 1) := by decide +kernel
theorem d11_11 : decode prog_34_method_12_code 11 = .ok (.getfield 19, 3) := by decide +kernel
theorem d11_14 : decode prog_34_method_12_code 14 = .ok (.iload_n 1, 1) := by decide +kernel
theorem d11_15 : decode prog_34_method_12_code 15 = .ok (.iaload, 1) := by decide +kernel
theorem d11_16 : decode prog_34_method_12_code 16 = .ok (.aload_n 0, 1) := by decide +kernel
theorem d11_17 : decode prog_34_method_12_code 17 = .ok (.getfield 7, 3) := by decide +kernel
theorem d11_20 : decode prog_34_method_12_code 20 = .ok (.aload_n 0, 1) := by decide +kernel
theorem d11_21 : decode prog_34_method_12_code 21 = .ok (.getfield 28, 3) := by decide +kernel
theorem d11_24 : decode prog_34_method_12_code 24 = .ok (.aload_n 0, 1) := by decide +kernel
theorem d11_25 : decode prog_34_method_12_code 25 = .ok (.getfield 25, 3) := by decide +kernel
theorem d11_28 : decode prog_34_method_12_code 28 = .ok (.iload_n 1, 1) := by decide +kernel
theorem d11_29 : decode prog_34_method_12_code 29 = .ok (.iaload, 1) := by decide +kernel
theorem d11_30 : decode prog_34_method_12_code 30 = .ok (.invokestatic 52, 3) := by decide +kernel
theorem d11_33 : decode prog_34_method_12_code 33 = .ok (.aload_n 0, 1) := by decide +kernel
theorem d11_34 : decode prog_34_method_12_code 34 = .ok (.getfield 13, 3) := by decide +kernel
theorem d11_37 : decode prog_34_method_12_code 37 = .ok (.aload_n 0, 1) := by decide +kernel
theorem d11_38 : decode prog_34_method_12_code 38 = .ok (.getfield 19, 3) := by decide +kernel
theorem d11_41 : decode prog_34_method_12_code 41 = .ok (.iload_n 1, 1) := by decide +kernel
theorem d11_42 : decode prog_34_method_12_code 42 = .ok (.iaload, 1) := by decide +kernel
theorem d11_43 : decode prog_34_method_12_code 43 = .ok (.aload_n 0, 1) := by decide +kernel
theorem d11_44 : decode prog_34_method_12_code 44 = .ok (.getfield 13, 3) := by decide +kernel
theorem d11_47 : decode prog_34_method_12_code 47 = .ok (.aload_n 0, 1) := by decide +kernel
theorem d11_48 : decode prog_34_method_12_code 48 = .ok (.getfield 28, 3) := by decide +kernel
theorem d11_51 : decode prog_34_method_12_code 51 = .ok (.aload_n 0, 1) := by decide +kernel
theorem d11_52 : decode prog_34_method_12_code 52 = .ok (.getfield 25, 3) := by decide +kernel
theorem d11_55 : decode prog_34_method_12_code 55 = .ok (.iload_n 1, 1) := by decide +kernel
theorem d11_56 : decode prog_34_method_12_code 56 = .ok (.iaload, 1) := by decide +kernel
theorem d11_57 : decode prog_34_method_12_code 57 = .ok (.invokestatic 52, 3) := by decide +kernel
theorem d11_60 : decode prog_34_method_12_code 60 = .ok (.aload_n 0, 1) := by decide +kernel
theorem d11_61 : decode prog_34_method_12_code 61 = .ok (.getfield 16, 3) := by decide +kernel
theorem d11_64 : decode prog_34_method_12_code 64 = .ok (.aload_n 0, 1) := by decide +kernel
theorem d11_65 : decode prog_34_method_12_code 65 = .ok (.getfield 19, 3) := by decide +kernel
theorem d11_68 : decode prog_34_method_12_code 68 = .ok (.iload_n 1, 1) := by decide +kernel
theorem d11_69 : decode prog_34_method_12_code 69 = .ok (.iaload, 1) := by decide +kernel
theorem d11_70 : decode prog_34_method_12_code 70 = .ok (.aload_n 0, 1) := by decide +kernel
theorem d11_71 : decode prog_34_method_12_code 71 = .ok (.getfield 16, 3) := by decide +kernel
theorem d11_74 : decode prog_34_method_12_code 74 = .ok (.aload_n 0, 1) := by decide +kernel
theorem d11_75 : decode prog_34_method_12_code 75 = .ok (.getfield 28, 3) := by decide +kernel
theorem d11_78 : decode prog_34_method_12_code 78 = .ok (.aload_n 0, 1) := by decide +kernel
theorem d11_79 : decode prog_34_method_12_code 79 = .ok (.getfield 25, 3) := by decide +kernel
theorem d11_82 : decode prog_34_method_12_code 82 = .ok (.iload_n 1, 1) := by decide +kernel
theorem d11_83 : decode prog_34_method_12_code 83 = .ok (.iaload, 1) := by decide +kernel
theorem d11_84 : decode prog_34_method_12_code 84 = .ok (.invokestatic 52, 3) := by decide +kernel
theorem d11_87 : decode prog_34_method_12_code 87 = .ok (.aload_n 0, 1) := by decide +kernel
theorem d11_88 : decode prog_34_method_12_code 88 = .ok (.getfield 19, 3) := by decide +kernel
theorem d11_91 : decode prog_34_method_12_code 91 = .ok (.iload_n 1, 1) := by decide +kernel
theorem d11_92 : decode prog_34_method_12_code 92 = .ok (.aload_n 0, 1) := by decide +kernel
theorem d11_93 : decode prog_34_method_12_code 93 = .ok (.getfield 28, 3) := by decide +kernel
theorem d11_96 : decode prog_34_method_12_code 96 = .ok (.iastore, 1) := by decide +kernel
theorem d11_97 : decode prog_34_method_12_code 97 = .ok (.aload_n 0, 1) := by decide +kernel
theorem d11_98 : decode prog_34_method_12_code 98 = .ok (.getfield 22, 3) := by decide +kernel
theorem d11_101 : decode prog_34_method_12_code 101 = .ok (.iload_n 1, 1) := by decide +kernel
theorem d11_102 : decode prog_34_method_12_code 102 = .ok (.iload_n 2, 1) := by decide +kernel
theorem d11_103 : decode prog_34_method_12_code 103 = .ok (.iastore, 1) := by decide +kernel
theorem d11_104 : decode prog_34_method_12_code 104 = .ok (.aload_n 0, 1) := by decide +kernel
theorem d11_105 : decode prog_34_method_12_code 105 = .ok (.dup, 1) := by decide +kernel
theorem d11_106 : decode prog_34_method_12_code 106 = .ok (.getfield 28, 3) := by decide +kernel
theorem d11_109 : decode prog_34_method_12_code 109 = .ok (.iload_n 2, 1) := by decide +kernel
theorem d11_110 : decode prog_34_method_12_code 110 = .ok (.iadd, 1) := by decide +kernel
theorem d11_111 : decode prog_34_method_12_code 111 = .ok (.putfield 28, 3) := by decide +kernel
theorem d11_114 : decode prog_34_method_12_code 114 = .ok (.return_, 1) := by decide +kernel
theorem ef_11 (m : MethodId) (a0 : Addr) (p1 : Int32) (p2 : Int32) : entryFrame m #[(.ref a0), (.int p1), (.int p2)] 3 = mkF m 0 #[.val (.ref a0), .val (.int p1), .val (.int p2)] [] := by first | (simp [entryFrame, mkF, argsToLocals, Value.category]; done) | rfl
def Q11 (Z : State) (a0 : Addr) (p1 : Int32) (p2 : Int32) (xu xg xd xt xr xc : Addr) (kxu kxg kxd kxt kxr kxc : ClassId) (N : Int32) (Lxu Lxg Lxd Lxt Lxr Lxc : List Int32) (w : Int32) (h0 : Heap) (n0 : Nat) (v : Option Value) (h : Heap) (Lo : List Loc) : Prop := v = none ∧ Fr n0 Lo ∧ ∃ (u' g' d' : Addr) (ku' kg' kd' : ClassId), own_K Z h n0 a0 u' g' d' xt xr xc ku' kg' kd' kxt kxr kxc ((F7 (2147483639 : Int64) (F6 ((w.toInt64) + (p2.toInt64)) ((2 : Int64) * (N.toInt64)))).toInt32) (own_move (own_move Lxu [(0 : Int32), (0 : Int32), (0 : Int32), (0 : Int32), (0 : Int32), (0 : Int32), (0 : Int32), (0 : Int32)] ((0 : Int32)).toNatClampNeg ((0 : Int32)).toNatClampNeg ((F1 N ((F7 (2147483639 : Int64) (F6 ((w.toInt64) + (p2.toInt64)) ((2 : Int64) * (N.toInt64)))).toInt32))).toNatClampNeg) (own_move Lxu [(0 : Int32), (0 : Int32), (0 : Int32), (0 : Int32), (0 : Int32), (0 : Int32), (0 : Int32), (0 : Int32)] ((0 : Int32)).toNatClampNeg ((0 : Int32)).toNatClampNeg ((F1 N ((F7 (2147483639 : Int64) (F6 ((w.toInt64) + (p2.toInt64)) ((2 : Int64) * (N.toInt64)))).toInt32))).toNatClampNeg) ((Lxt.getD (p1).toNatClampNeg 0)).toNatClampNeg (w).toNatClampNeg ((Lxc.getD (p1).toNatClampNeg 0)).toNatClampNeg) (own_move (own_move Lxg [(0 : Int32), (0 : Int32), (0 : Int32), (0 : Int32), (0 : Int32), (0 : Int32), (0 : Int32), (0 : Int32)] ((0 : Int32)).toNatClampNeg ((0 : Int32)).toNatClampNeg ((F1 N ((F7 (2147483639 : Int64) (F6 ((w.toInt64) + (p2.toInt64)) ((2 : Int64) * (N.toInt64)))).toInt32))).toNatClampNeg) (own_move Lxg [(0 : Int32), (0 : Int32), (0 : Int32), (0 : Int32), (0 : Int32), (0 : Int32), (0 : Int32), (0 : Int32)] ((0 : Int32)).toNatClampNeg ((0 : Int32)).toNatClampNeg ((F1 N ((F7 (2147483639 : Int64) (F6 ((w.toInt64) + (p2.toInt64)) ((2 : Int64) * (N.toInt64)))).toInt32))).toNatClampNeg) ((Lxt.getD (p1).toNatClampNeg 0)).toNatClampNeg (w).toNatClampNeg ((Lxc.getD (p1).toNatClampNeg 0)).toNatClampNeg) (own_move (own_move Lxd [(0 : Int32), (0 : Int32), (0 : Int32), (0 : Int32), (0 : Int32), (0 : Int32), (0 : Int32), (0 : Int32)] ((0 : Int32)).toNatClampNeg ((0 : Int32)).toNatClampNeg ((F1 N ((F7 (2147483639 : Int64) (F6 ((w.toInt64) + (p2.toInt64)) ((2 : Int64) * (N.toInt64)))).toInt32))).toNatClampNeg) (own_move Lxd [(0 : Int32), (0 : Int32), (0 : Int32), (0 : Int32), (0 : Int32), (0 : Int32), (0 : Int32), (0 : Int32)] ((0 : Int32)).toNatClampNeg ((0 : Int32)).toNatClampNeg ((F1 N ((F7 (2147483639 : Int64) (F6 ((w.toInt64) + (p2.toInt64)) ((2 : Int64) * (N.toInt64)))).toInt32))).toNatClampNeg) ((Lxt.getD (p1).toNatClampNeg 0)).toNatClampNeg (w).toNatClampNeg ((Lxc.getD (p1).toNatClampNeg 0)).toNatClampNeg) (Lxt.set (p1).toNatClampNeg w) (Lxr.set (p1).toNatClampNeg p2) Lxc (w + p2)
set_option maxRecDepth 65536 in
set_option maxHeartbeats 40000000 in
theorem rm11 (l : Launch) (Z : State) (az : Array Value) (hw : ∀ d ∈ tables_1, d.before az Z = true) (ws : List Jvm.Cond) (a0 : Addr) (p1 : Int32) (p2 : Int32) (xu xg xd xt xr xc : Addr) (kxu kxg kxd kxt kxr kxc : ClassId) (N : Int32) (Lxu Lxg Lxd Lxt Lxr Lxc : List Int32) (w : Int32) (h0 : Heap) (n0 : Nat) (Z0 : n0 ≤ h0.size) (hKU : own_K Z h0 n0 a0 xu xg xd xt xr xc kxu kxg kxd kxt kxr kxc N Lxu Lxg Lxd Lxt Lxr Lxc w) (hmk : ((N.toInt64) < ((w.toInt64) + (p2.toInt64))) ∧ (¬ ((2147483639 : Int64) < ((w.toInt64) + (p2.toInt64)))) ∧ (0 ≤ N.toInt ∧ N.toInt < ((F7 (2147483639 : Int64) (F6 ((w.toInt64) + (p2.toInt64)) ((2 : Int64) * (N.toInt64)))).toInt32).toInt ∧ ((F7 (2147483639 : Int64) (F6 ((w.toInt64) + (p2.toInt64)) ((2 : Int64) * (N.toInt64)))).toInt32).toInt ≤ 8)) (hmem : ¬ (p1 < 0) ∧ p1 < (2 : Int32)) (hl3 : p1.toNatClampNeg < Lxt.length ∧ p1.toNatClampNeg < Lxr.length ∧ p1.toNatClampNeg < Lxc.length) (hcy : (¬ ((Lxt.getD (p1).toNatClampNeg 0) < 0) ∧ ¬ (w < 0) ∧ ¬ ((Lxc.getD (p1).toNatClampNeg 0) < 0)) ∧ (Lxt.getD (p1).toNatClampNeg 0).toNatClampNeg + (Lxc.getD (p1).toNatClampNeg 0).toNatClampNeg ≤ ((F7 (2147483639 : Int64) (F6 ((w.toInt64) + (p2.toInt64)) ((2 : Int64) * (N.toInt64)))).toInt32).toNatClampNeg ∧ w.toNatClampNeg + (Lxc.getD (p1).toNatClampNeg 0).toNatClampNeg ≤ ((F7 (2147483639 : Int64) (F6 ((w.toInt64) + (p2.toInt64)) ((2 : Int64) * (N.toInt64)))).toInt32).toNatClampNeg ∧ w.toNatClampNeg + (Lxc.getD (p1).toNatClampNeg 0).toNatClampNeg ≤ 8) :
    MetFree l (⟨"com/example/susurrus/susurrus/KnownUnits", "moveToEnd", "(II)V"⟩ : MethodName) (head1 (Jvm.Cond.code (⟨"com/example/susurrus/susurrus/KnownUnits", "moveToEnd", "(II)V"⟩ : MethodName) prog_34_method_12_code 3 none :: ws) ({ frames := 3, cells := 3, slots := 24, locals := 50 } : Room)) (fun a U => a = #[(.ref a0), (.int p1), (.int p2)] ∧ Z.Warmed39 U.vm ∧ U.heap = h0) (fun _ _ _ _ _ => True) (fun _ U o U' => ∃ v L, o = .returned v ∧ (Q11 Z a0 p1 p2 xu xg xd xt xr xc kxu kxg kxd kxt kxr kxc N Lxu Lxg Lxd Lxt Lxr Lxc w h0 n0) v U'.heap L ∧ FrameEnd U o U' L ({ frames := 3, cells := 3, slots := 24, locals := 50 } : Room).cells ({ frames := 3, cells := 3, slots := 24, locals := 50 } : Room).slots) := by
  refine MetFree.of_bodySF (plainFor_of_name own_pn1) hisR ?_
  intro p e s m args below meth c s₁ Bd hml0 hP hK
  obtain ⟨rfl, hZ, hh⟩ := hP
  have hx := Bd.exec
  have hby := Bd.bytes
  have hml : c.maxLocals = 3 := hml0
  have hown : s.vm.findClass "com/example/susurrus/susurrus/KnownUnits" = some m.cls := findClass_of_methodNamed Bd.named
  have hnm := (name_of_methodNamed Bd.named Bd.method).1
  have hlk : meth.locks = false := BodyLoose.notSynchronized Bd
  have X0 : Stand p l e ({ frames := 3, cells := 3, slots := 24, locals := 50 } : Room) s m #[(.ref a0), (.int p1), (.int p2)] below meth c s₁ [] 0 0 := Stand.of_body Bd
  have e0 : s₁.heap = h0 := by rw [← hh, Bd.state]; rfl
  have N0 := Fr.nil n0
  obtain ⟨E_1, Ff0_1, Ff1_1, Ff2_1, Ff3_1, Ff4_1, Ff5_1, Ff6_1, Vv0_1, Vv1_1, Vv2_1, Vv3_1, Vv4_1, Vv5_1, g_a0, g_xu, g_xg, g_xd, g_xt, g_xr, g_xc, Zk1, ne_0_1_1, ne_0_2_1, ne_0_3_1, ne_0_4_1, ne_0_5_1, ne_0_6_1, ne_1_2_1, ne_1_3_1, ne_1_4_1, ne_1_5_1, ne_1_6_1, ne_2_3_1, ne_2_4_1, ne_2_5_1, ne_2_6_1, ne_3_4_1, ne_3_5_1, ne_3_6_1, ne_4_5_1, ne_4_6_1, ne_5_6_1⟩ := id hKU
  show Go p e below s (Q11 Z a0 p1 p2 xu xg xd xt xr xc kxu kxg kxd kxt kxr kxc N Lxu Lxg Lxd Lxt Lxr Lxc w h0 n0) ({ frames := 3, cells := 3, slots := 24, locals := 50 } : Room).cells ({ frames := 3, cells := 3, slots := 24, locals := 50 } : Room).slots (s₁.setTop (entryFrame m #[(.ref a0), (.int p1), (.int p2)] 3))
  refine Go.of (fun t k => castTop (ef_11 m a0 p1 p2) k) ?_
  show Go p e below s _ _ _ (s₁.setTop (mkF m 0 #[.val (.ref a0), .val (.int p1), .val (.int p2)] []))
  refine Go.of (fun t k => XS.aloadN X0.here hx rfl (hb hby d11_0) rfl rfl k) ?_
  show Go p e below s _ _ _ (s₁.setTop (mkF m 1 #[.val (.ref a0), .val (.int p1), .val (.int p2)] [(.ref a0)]))
  refine Go.of (fun t k => XS.iloadN X0.here hx rfl (hb hby d11_1) rfl k) ?_
  show Go p e below s _ _ _ (s₁.setTop (mkF m 2 #[.val (.ref a0), .val (.int p1), .val (.int p2)] [(.int p2), (.ref a0)]))
  refine Go.of (fun t k => XS.i2l X0.here hx rfl (hb hby d11_2) rfl k) ?_
  show Go p e below s _ _ _ (s₁.setTop (mkF m 3 #[.val (.ref a0), .val (.int p1), .val (.int p2)] [(.long (p2.toInt64)), (.ref a0)]))
  obtain ⟨cq2, q2, q2'⟩ := E_1.cell
  obtain ⟨_, _, ⟨T2, L2, k2, n2⟩, -, X2, ⟨Lc2, hQ2, l2, y2, z2⟩, st2⟩ := X0.privateBack hx (y := (⟨"com/example/susurrus/susurrus/KnownUnits", "makeRoom", "(J)V"⟩ : MethodName)) hown (mvT hZ (hw _ (List.mem_of_getElem? (i := 31) rfl))) (mvT hZ (hw _ (List.mem_of_getElem? (i := 32) rfl))) (own_sel (y := (⟨"com/example/susurrus/susurrus/KnownUnits", "makeRoom", "(J)V"⟩ : MethodName)) (mvT (args := #[]) hZ (hw _ (List.mem_of_getElem? (i := 5) rfl))) (Cond.privateMethod_at (mvP hZ (hw _ (List.mem_of_getElem? (i := 33) rfl)) (args := #[]))) (mvT hZ (hw _ (List.mem_of_getElem? (i := 32) rfl))) (by decide)) (Cond.privateMethod_at (mvP hZ (hw _ (List.mem_of_getElem? (i := 33) rfl)) (args := #[]))) (mvT hZ (hw _ (List.mem_of_getElem? (i := 34) rfl))) (by decide) (backOf (W := 0) (rm5 l Z az hw [] a0 (p2.toInt64) xu xg xd xt xr xc kxu kxg kxd kxt kxr kxc N Lxu Lxg Lxd Lxt Lxr Lxc w h0 n0 Zk1 ⟨E_1, Ff0_1, Ff1_1, Ff2_1, Ff3_1, Ff4_1, Ff5_1, Ff6_1, Vv0_1, Vv1_1, Vv2_1, Vv3_1, Vv4_1, Vv5_1, g_a0, g_xu, g_xg, g_xd, g_xt, g_xr, g_xc, Zk1, ne_0_1_1, ne_0_2_1, ne_0_3_1, ne_0_4_1, ne_0_5_1, ne_0_6_1, ne_1_2_1, ne_1_3_1, ne_1_4_1, ne_1_5_1, ne_1_6_1, ne_2_3_1, ne_2_4_1, ne_2_5_1, ne_2_6_1, ne_3_4_1, ne_3_5_1, ne_3_6_1, ne_4_5_1, ne_4_6_1, ne_5_6_1⟩ (hmk)) hZ (hw _ (List.mem_of_getElem? (i := 34) rfl)) (hw _ (List.mem_of_getElem? (i := 6) rfl)) (by decide) (by decide)) (g := (mkF m 3 #[.val (.ref a0), .val (.int p1), .val (.int p2)] [(.long (p2.toInt64)), (.ref a0)])) rfl (by rw [hml]; rfl) (Steps.refl _) (a := a0) (by rw [e0]; exact q2) q2' (argsL := [(.long (p2.toInt64))]) (rest := []) (lenOf own_pd3 rfl) rfl (by show 2 * 0 + _ ≤ _; exact Nat.le_of_eq rfl) (hb hby d11_3) (fun _ _ => ⟨rfl, e0, (by decide : 0 + 3 ≤ _), (by decide : 0 + 24 ≤ _)⟩)
  dsimp only [Pt.U, Pt.locs, Pt.cells, Pt.slots] at X2 l2 y2 z2 st2 hQ2
  subst l2 y2 z2
  obtain ⟨rfl, N2q, bu3, bg3, bd3, ku3, kg3, kd3, hK3⟩ := hQ2
  have N2 := Fr.app N0 N2q
  obtain ⟨E_4, Ff0_4, Ff1_4, Ff2_4, Ff3_4, Ff4_4, Ff5_4, Ff6_4, Vv0_4, Vv1_4, Vv2_4, Vv3_4, Vv4_4, Vv5_4, g_a0, g_bu3, g_bg3, g_bd3, g_xt, g_xr, g_xc, Zk4, ne_0_1_4, ne_0_2_4, ne_0_3_4, ne_0_4_4, ne_0_5_4, ne_0_6_4, ne_1_2_4, ne_1_3_4, ne_1_4_4, ne_1_5_4, ne_1_6_4, ne_2_3_4, ne_2_4_4, ne_2_5_4, ne_2_6_4, ne_3_4_4, ne_3_5_4, ne_3_6_4, ne_4_5_4, ne_4_6_4, ne_5_6_4⟩ := id hK3
  refine Go.of (fun t k => st2.trans k) ?_
  show Go p e below s _ _ _ (T2.setTop (mkF m 6 #[.val (.ref a0), .val (.int p1), .val (.int p2)] []))
  refine Go.of (fun t k => XS.aloadN X2.here hx rfl (hb hby d11_6) rfl rfl k) ?_
  show Go p e below s _ _ _ (T2.setTop (mkF m 7 #[.val (.ref a0), .val (.int p1), .val (.int p2)] [(.ref a0)]))
  obtain ⟨T5, X5, e5, st5⟩ := getF X2 hx hZ hown (host := "") (Or.inl (hw _ (List.mem_of_getElem? (i := 14) rfl))) Via.refl rfl Ff0_4 (g := (mkF m 7 #[.val (.ref a0), .val (.int p1), .val (.int p2)] [(.ref a0)])) rfl rfl (hb hby d11_7)
  refine Go.of st5 ?_
  show Go p e below s _ _ _ (T5.setTop (mkF m 10 #[.val (.ref a0), .val (.int p1), .val (.int p2)] [(.ref bu3)]))
  refine Go.of (fun t k => XS.aloadN X5.here hx rfl (hb hby d11_10) rfl rfl k) ?_
  show Go p e below s _ _ _ (T5.setTop (mkF m 11 #[.val (.ref a0), .val (.int p1), .val (.int p2)] [(.ref a0), (.ref bu3)]))
  obtain ⟨T6, X6, e6, st6⟩ := getF X5 hx hZ hown (host := "") (Or.inl (hw _ (List.mem_of_getElem? (i := 20) rfl))) Via.refl e5 Ff3_4 (g := (mkF m 11 #[.val (.ref a0), .val (.int p1), .val (.int p2)] [(.ref a0), (.ref bu3)])) rfl rfl (hb hby d11_11)
  refine Go.of st6 ?_
  show Go p e below s _ _ _ (T6.setTop (mkF m 14 #[.val (.ref a0), .val (.int p1), .val (.int p2)] [(.ref xt), (.ref bu3)]))
  refine Go.of (fun t k => XS.iloadN X6.here hx rfl (hb hby d11_14) rfl k) ?_
  show Go p e below s _ _ _ (T6.setTop (mkF m 15 #[.val (.ref a0), .val (.int p1), .val (.int p2)] [(.int p1), (.ref xt), (.ref bu3)]))
  obtain ⟨cl7, Ar7, q7, S7, M7, H7, G7⟩ := id Vv3_4
  have hin7 : ¬ (p1 < 0 ∨ cl7.slots.size ≤ (p1).toNatClampNeg) := (inb_of S7 hmem)
  refine Go.of (X6.iaload hx (j := p1) (v := (.int (Lxt.getD (p1).toNatClampNeg 0))) (by rw [e6]; exact Ar7.1) (State.isArrayOf_alike hZ.alike Ar7.2.1) Ar7.2.2 hin7 (Has.at H7 hin7 (own_getDI Lxt _)) (g := (mkF m 15 #[.val (.ref a0), .val (.int p1), .val (.int p2)] [(.int p1), (.ref xt), (.ref bu3)])) rfl rfl (hb hby d11_15)) ?_
  show Go p e below s _ _ _ (T6.setTop (mkF m 16 #[.val (.ref a0), .val (.int p1), .val (.int p2)] [(.int (Lxt.getD (p1).toNatClampNeg 0)), (.ref bu3)]))
  refine Go.of (fun t k => XS.aloadN X6.here hx rfl (hb hby d11_16) rfl rfl k) ?_
  show Go p e below s _ _ _ (T6.setTop (mkF m 17 #[.val (.ref a0), .val (.int p1), .val (.int p2)] [(.ref a0), (.int (Lxt.getD (p1).toNatClampNeg 0)), (.ref bu3)]))
  obtain ⟨T8, X8, e8, st8⟩ := getF X6 hx hZ hown (host := "") (Or.inl (hw _ (List.mem_of_getElem? (i := 14) rfl))) Via.refl e6 Ff0_4 (g := (mkF m 17 #[.val (.ref a0), .val (.int p1), .val (.int p2)] [(.ref a0), (.int (Lxt.getD (p1).toNatClampNeg 0)), (.ref bu3)])) rfl rfl (hb hby d11_17)
  refine Go.of st8 ?_
  show Go p e below s _ _ _ (T8.setTop (mkF m 20 #[.val (.ref a0), .val (.int p1), .val (.int p2)] [(.ref bu3), (.int (Lxt.getD (p1).toNatClampNeg 0)), (.ref bu3)]))
  refine Go.of (fun t k => XS.aloadN X8.here hx rfl (hb hby d11_20) rfl rfl k) ?_
  show Go p e below s _ _ _ (T8.setTop (mkF m 21 #[.val (.ref a0), .val (.int p1), .val (.int p2)] [(.ref a0), (.ref bu3), (.int (Lxt.getD (p1).toNatClampNeg 0)), (.ref bu3)]))
  obtain ⟨T9, X9, e9, st9⟩ := getF X8 hx hZ hown (host := "") (Or.inl (hw _ (List.mem_of_getElem? (i := 35) rfl))) Via.refl e8 Ff6_4 (g := (mkF m 21 #[.val (.ref a0), .val (.int p1), .val (.int p2)] [(.ref a0), (.ref bu3), (.int (Lxt.getD (p1).toNatClampNeg 0)), (.ref bu3)])) rfl rfl (hb hby d11_21)
  refine Go.of st9 ?_
  show Go p e below s _ _ _ (T9.setTop (mkF m 24 #[.val (.ref a0), .val (.int p1), .val (.int p2)] [(.int w), (.ref bu3), (.int (Lxt.getD (p1).toNatClampNeg 0)), (.ref bu3)]))
  refine Go.of (fun t k => XS.aloadN X9.here hx rfl (hb hby d11_24) rfl rfl k) ?_
  show Go p e below s _ _ _ (T9.setTop (mkF m 25 #[.val (.ref a0), .val (.int p1), .val (.int p2)] [(.ref a0), (.int w), (.ref bu3), (.int (Lxt.getD (p1).toNatClampNeg 0)), (.ref bu3)]))
  obtain ⟨T10, X10, e10, st10⟩ := getF X9 hx hZ hown (host := "") (Or.inl (hw _ (List.mem_of_getElem? (i := 24) rfl))) Via.refl e9 Ff5_4 (g := (mkF m 25 #[.val (.ref a0), .val (.int p1), .val (.int p2)] [(.ref a0), (.int w), (.ref bu3), (.int (Lxt.getD (p1).toNatClampNeg 0)), (.ref bu3)])) rfl rfl (hb hby d11_25)
  refine Go.of st10 ?_
  show Go p e below s _ _ _ (T10.setTop (mkF m 28 #[.val (.ref a0), .val (.int p1), .val (.int p2)] [(.ref xc), (.int w), (.ref bu3), (.int (Lxt.getD (p1).toNatClampNeg 0)), (.ref bu3)]))
  refine Go.of (fun t k => XS.iloadN X10.here hx rfl (hb hby d11_28) rfl k) ?_
  show Go p e below s _ _ _ (T10.setTop (mkF m 29 #[.val (.ref a0), .val (.int p1), .val (.int p2)] [(.int p1), (.ref xc), (.int w), (.ref bu3), (.int (Lxt.getD (p1).toNatClampNeg 0)), (.ref bu3)]))
  obtain ⟨cl11, Ar11, q11, S11, M11, H11, G11⟩ := id Vv5_4
  have hin11 : ¬ (p1 < 0 ∨ cl11.slots.size ≤ (p1).toNatClampNeg) := (inb_of S11 hmem)
  refine Go.of (X10.iaload hx (j := p1) (v := (.int (Lxc.getD (p1).toNatClampNeg 0))) (by rw [e10]; exact Ar11.1) (State.isArrayOf_alike hZ.alike Ar11.2.1) Ar11.2.2 hin11 (Has.at H11 hin11 (own_getDI Lxc _)) (g := (mkF m 29 #[.val (.ref a0), .val (.int p1), .val (.int p2)] [(.int p1), (.ref xc), (.int w), (.ref bu3), (.int (Lxt.getD (p1).toNatClampNeg 0)), (.ref bu3)])) rfl rfl (hb hby d11_29)) ?_
  show Go p e below s _ _ _ (T10.setTop (mkF m 30 #[.val (.ref a0), .val (.int p1), .val (.int p2)] [(.int (Lxc.getD (p1).toNatClampNeg 0)), (.int w), (.ref bu3), (.int (Lxt.getD (p1).toNatClampNeg 0)), (.ref bu3)]))
  obtain ⟨T12, h12, L12, X12, e12, N12, Kq12, Vq12, st12⟩ := cpA X10 hx hZ hown (hw _ (List.mem_of_getElem? (i := 68) rfl)) (hw _ (List.mem_of_getElem? (i := 53) rfl)) (hw _ (List.mem_of_getElem? (i := 51) rfl)) (hw _ (List.mem_of_getElem? (i := 52) rfl)) e10 Vv0_4 Vv0_4 (Or.inl ⟨rfl, rfl⟩) hcy.1.1 hcy.1.2.1 hcy.1.2.2 hcy.2.1 hcy.2.2.1 rfl (by rw [List.length_map]; exact (own_cpl hmk.2.2 hcy.2.2.2)) N2 g_bu3 (g := (mkF m 30 #[.val (.ref a0), .val (.int p1), .val (.int p2)] [(.int (Lxc.getD (p1).toNatClampNeg 0)), (.int w), (.ref bu3), (.int (Lxt.getD (p1).toNatClampNeg 0)), (.ref bu3)])) rfl (by rw [hml]; rfl) rfl (hb hby d11_30) (by decide) (W := 0) (by show 2 * 0 + _ ≤ _; exact Nat.le_of_eq rfl) (by decide)
  have f13 : Arv Z h12 bu3 ku3 .int ((F7 (2147483639 : Int64) (F6 ((w.toInt64) + (p2.toInt64)) ((2 : Int64) * (N.toInt64)))).toInt32) ((own_move (own_move Lxu [(0 : Int32), (0 : Int32), (0 : Int32), (0 : Int32), (0 : Int32), (0 : Int32), (0 : Int32), (0 : Int32)] ((0 : Int32)).toNatClampNeg ((0 : Int32)).toNatClampNeg ((F1 N ((F7 (2147483639 : Int64) (F6 ((w.toInt64) + (p2.toInt64)) ((2 : Int64) * (N.toInt64)))).toInt32))).toNatClampNeg) (own_move Lxu [(0 : Int32), (0 : Int32), (0 : Int32), (0 : Int32), (0 : Int32), (0 : Int32), (0 : Int32), (0 : Int32)] ((0 : Int32)).toNatClampNeg ((0 : Int32)).toNatClampNeg ((F1 N ((F7 (2147483639 : Int64) (F6 ((w.toInt64) + (p2.toInt64)) ((2 : Int64) * (N.toInt64)))).toInt32))).toNatClampNeg) ((Lxt.getD (p1).toNatClampNeg 0)).toNatClampNeg (w).toNatClampNeg ((Lxc.getD (p1).toNatClampNeg 0)).toNatClampNeg).map Value.int) (.int (0 : Int32)) := by rw [own_mv]; exact Vq12
  have f14 := E_4.keep Kq12
  have f15 := Ff0_4.keep Kq12 (ninS ne_0_1_4 nin0)
  have f16 := Ff1_4.keep Kq12 (ninS ne_0_1_4 nin0)
  have f17 := Ff2_4.keep Kq12 (ninS ne_0_1_4 nin0)
  have f18 := Ff3_4.keep Kq12 (ninS ne_0_1_4 nin0)
  have f19 := Ff4_4.keep Kq12 (ninS ne_0_1_4 nin0)
  have f20 := Ff5_4.keep Kq12 (ninS ne_0_1_4 nin0)
  have f21 := Ff6_4.keep Kq12 (ninS ne_0_1_4 nin0)
  have f22 := Vv1_4.keep Kq12 (ninS (Ne.symm ne_1_2_4) nin0)
  have f23 := Vv2_4.keep Kq12 (ninS (Ne.symm ne_1_3_4) nin0)
  have f24 := Vv3_4.keep Kq12 (ninS (Ne.symm ne_1_4_4) nin0)
  have f25 := Vv4_4.keep Kq12 (ninS (Ne.symm ne_1_5_4) nin0)
  have f26 := Vv5_4.keep Kq12 (ninS (Ne.symm ne_1_6_4) nin0)
  have Zz12 := Nat.le_trans Zk4 Kq12.1
  refine Go.of st12 ?_
  show Go p e below s _ _ _ (T12.setTop (mkF m 33 #[.val (.ref a0), .val (.int p1), .val (.int p2)] []))
  refine Go.of (fun t k => XS.aloadN X12.here hx rfl (hb hby d11_33) rfl rfl k) ?_
  show Go p e below s _ _ _ (T12.setTop (mkF m 34 #[.val (.ref a0), .val (.int p1), .val (.int p2)] [(.ref a0)]))
  obtain ⟨T27, X27, e27, st27⟩ := getF X12 hx hZ hown (host := "") (Or.inl (hw _ (List.mem_of_getElem? (i := 16) rfl))) Via.refl e12 f16 (g := (mkF m 34 #[.val (.ref a0), .val (.int p1), .val (.int p2)] [(.ref a0)])) rfl rfl (hb hby d11_34)
  refine Go.of st27 ?_
  show Go p e below s _ _ _ (T27.setTop (mkF m 37 #[.val (.ref a0), .val (.int p1), .val (.int p2)] [(.ref bg3)]))
  refine Go.of (fun t k => XS.aloadN X27.here hx rfl (hb hby d11_37) rfl rfl k) ?_
  show Go p e below s _ _ _ (T27.setTop (mkF m 38 #[.val (.ref a0), .val (.int p1), .val (.int p2)] [(.ref a0), (.ref bg3)]))
  obtain ⟨T28, X28, e28, st28⟩ := getF X27 hx hZ hown (host := "") (Or.inl (hw _ (List.mem_of_getElem? (i := 20) rfl))) Via.refl e27 f18 (g := (mkF m 38 #[.val (.ref a0), .val (.int p1), .val (.int p2)] [(.ref a0), (.ref bg3)])) rfl rfl (hb hby d11_38)
  refine Go.of st28 ?_
  show Go p e below s _ _ _ (T28.setTop (mkF m 41 #[.val (.ref a0), .val (.int p1), .val (.int p2)] [(.ref xt), (.ref bg3)]))
  refine Go.of (fun t k => XS.iloadN X28.here hx rfl (hb hby d11_41) rfl k) ?_
  show Go p e below s _ _ _ (T28.setTop (mkF m 42 #[.val (.ref a0), .val (.int p1), .val (.int p2)] [(.int p1), (.ref xt), (.ref bg3)]))
  obtain ⟨cl29, Ar29, q29, S29, M29, H29, G29⟩ := id f24
  have hin29 : ¬ (p1 < 0 ∨ cl29.slots.size ≤ (p1).toNatClampNeg) := (inb_of S29 hmem)
  refine Go.of (X28.iaload hx (j := p1) (v := (.int (Lxt.getD (p1).toNatClampNeg 0))) (by rw [e28]; exact Ar29.1) (State.isArrayOf_alike hZ.alike Ar29.2.1) Ar29.2.2 hin29 (Has.at H29 hin29 (own_getDI Lxt _)) (g := (mkF m 42 #[.val (.ref a0), .val (.int p1), .val (.int p2)] [(.int p1), (.ref xt), (.ref bg3)])) rfl rfl (hb hby d11_42)) ?_
  show Go p e below s _ _ _ (T28.setTop (mkF m 43 #[.val (.ref a0), .val (.int p1), .val (.int p2)] [(.int (Lxt.getD (p1).toNatClampNeg 0)), (.ref bg3)]))
  refine Go.of (fun t k => XS.aloadN X28.here hx rfl (hb hby d11_43) rfl rfl k) ?_
  show Go p e below s _ _ _ (T28.setTop (mkF m 44 #[.val (.ref a0), .val (.int p1), .val (.int p2)] [(.ref a0), (.int (Lxt.getD (p1).toNatClampNeg 0)), (.ref bg3)]))
  obtain ⟨T30, X30, e30, st30⟩ := getF X28 hx hZ hown (host := "") (Or.inl (hw _ (List.mem_of_getElem? (i := 16) rfl))) Via.refl e28 f16 (g := (mkF m 44 #[.val (.ref a0), .val (.int p1), .val (.int p2)] [(.ref a0), (.int (Lxt.getD (p1).toNatClampNeg 0)), (.ref bg3)])) rfl rfl (hb hby d11_44)
  refine Go.of st30 ?_
  show Go p e below s _ _ _ (T30.setTop (mkF m 47 #[.val (.ref a0), .val (.int p1), .val (.int p2)] [(.ref bg3), (.int (Lxt.getD (p1).toNatClampNeg 0)), (.ref bg3)]))
  refine Go.of (fun t k => XS.aloadN X30.here hx rfl (hb hby d11_47) rfl rfl k) ?_
  show Go p e below s _ _ _ (T30.setTop (mkF m 48 #[.val (.ref a0), .val (.int p1), .val (.int p2)] [(.ref a0), (.ref bg3), (.int (Lxt.getD (p1).toNatClampNeg 0)), (.ref bg3)]))
  obtain ⟨T31, X31, e31, st31⟩ := getF X30 hx hZ hown (host := "") (Or.inl (hw _ (List.mem_of_getElem? (i := 35) rfl))) Via.refl e30 f21 (g := (mkF m 48 #[.val (.ref a0), .val (.int p1), .val (.int p2)] [(.ref a0), (.ref bg3), (.int (Lxt.getD (p1).toNatClampNeg 0)), (.ref bg3)])) rfl rfl (hb hby d11_48)
  refine Go.of st31 ?_
  show Go p e below s _ _ _ (T31.setTop (mkF m 51 #[.val (.ref a0), .val (.int p1), .val (.int p2)] [(.int w), (.ref bg3), (.int (Lxt.getD (p1).toNatClampNeg 0)), (.ref bg3)]))
  refine Go.of (fun t k => XS.aloadN X31.here hx rfl (hb hby d11_51) rfl rfl k) ?_
  show Go p e below s _ _ _ (T31.setTop (mkF m 52 #[.val (.ref a0), .val (.int p1), .val (.int p2)] [(.ref a0), (.int w), (.ref bg3), (.int (Lxt.getD (p1).toNatClampNeg 0)), (.ref bg3)]))
  obtain ⟨T32, X32, e32, st32⟩ := getF X31 hx hZ hown (host := "") (Or.inl (hw _ (List.mem_of_getElem? (i := 24) rfl))) Via.refl e31 f20 (g := (mkF m 52 #[.val (.ref a0), .val (.int p1), .val (.int p2)] [(.ref a0), (.int w), (.ref bg3), (.int (Lxt.getD (p1).toNatClampNeg 0)), (.ref bg3)])) rfl rfl (hb hby d11_52)
  refine Go.of st32 ?_
  show Go p e below s _ _ _ (T32.setTop (mkF m 55 #[.val (.ref a0), .val (.int p1), .val (.int p2)] [(.ref xc), (.int w), (.ref bg3), (.int (Lxt.getD (p1).toNatClampNeg 0)), (.ref bg3)]))
  refine Go.of (fun t k => XS.iloadN X32.here hx rfl (hb hby d11_55) rfl k) ?_
  show Go p e below s _ _ _ (T32.setTop (mkF m 56 #[.val (.ref a0), .val (.int p1), .val (.int p2)] [(.int p1), (.ref xc), (.int w), (.ref bg3), (.int (Lxt.getD (p1).toNatClampNeg 0)), (.ref bg3)]))
  obtain ⟨cl33, Ar33, q33, S33, M33, H33, G33⟩ := id f26
  have hin33 : ¬ (p1 < 0 ∨ cl33.slots.size ≤ (p1).toNatClampNeg) := (inb_of S33 hmem)
  refine Go.of (X32.iaload hx (j := p1) (v := (.int (Lxc.getD (p1).toNatClampNeg 0))) (by rw [e32]; exact Ar33.1) (State.isArrayOf_alike hZ.alike Ar33.2.1) Ar33.2.2 hin33 (Has.at H33 hin33 (own_getDI Lxc _)) (g := (mkF m 56 #[.val (.ref a0), .val (.int p1), .val (.int p2)] [(.int p1), (.ref xc), (.int w), (.ref bg3), (.int (Lxt.getD (p1).toNatClampNeg 0)), (.ref bg3)])) rfl rfl (hb hby d11_56)) ?_
  show Go p e below s _ _ _ (T32.setTop (mkF m 57 #[.val (.ref a0), .val (.int p1), .val (.int p2)] [(.int (Lxc.getD (p1).toNatClampNeg 0)), (.int w), (.ref bg3), (.int (Lxt.getD (p1).toNatClampNeg 0)), (.ref bg3)]))
  obtain ⟨T34, h34, L34, X34, e34, N34, Kq34, Vq34, st34⟩ := cpA X32 hx hZ hown (hw _ (List.mem_of_getElem? (i := 68) rfl)) (hw _ (List.mem_of_getElem? (i := 53) rfl)) (hw _ (List.mem_of_getElem? (i := 51) rfl)) (hw _ (List.mem_of_getElem? (i := 52) rfl)) e32 f22 f22 (Or.inl ⟨rfl, rfl⟩) hcy.1.1 hcy.1.2.1 hcy.1.2.2 hcy.2.1 hcy.2.2.1 rfl (by rw [List.length_map]; exact (own_cpl hmk.2.2 hcy.2.2.2)) N12 g_bg3 (g := (mkF m 57 #[.val (.ref a0), .val (.int p1), .val (.int p2)] [(.int (Lxc.getD (p1).toNatClampNeg 0)), (.int w), (.ref bg3), (.int (Lxt.getD (p1).toNatClampNeg 0)), (.ref bg3)])) rfl (by rw [hml]; rfl) rfl (hb hby d11_57) (by decide) (W := 0) (by show 2 * 0 + _ ≤ _; exact Nat.le_of_eq rfl) (by decide)
  have f35 : Arv Z h34 bg3 kg3 .int ((F7 (2147483639 : Int64) (F6 ((w.toInt64) + (p2.toInt64)) ((2 : Int64) * (N.toInt64)))).toInt32) ((own_move (own_move Lxg [(0 : Int32), (0 : Int32), (0 : Int32), (0 : Int32), (0 : Int32), (0 : Int32), (0 : Int32), (0 : Int32)] ((0 : Int32)).toNatClampNeg ((0 : Int32)).toNatClampNeg ((F1 N ((F7 (2147483639 : Int64) (F6 ((w.toInt64) + (p2.toInt64)) ((2 : Int64) * (N.toInt64)))).toInt32))).toNatClampNeg) (own_move Lxg [(0 : Int32), (0 : Int32), (0 : Int32), (0 : Int32), (0 : Int32), (0 : Int32), (0 : Int32), (0 : Int32)] ((0 : Int32)).toNatClampNeg ((0 : Int32)).toNatClampNeg ((F1 N ((F7 (2147483639 : Int64) (F6 ((w.toInt64) + (p2.toInt64)) ((2 : Int64) * (N.toInt64)))).toInt32))).toNatClampNeg) ((Lxt.getD (p1).toNatClampNeg 0)).toNatClampNeg (w).toNatClampNeg ((Lxc.getD (p1).toNatClampNeg 0)).toNatClampNeg).map Value.int) (.int (0 : Int32)) := by rw [own_mv]; exact Vq34
  have f36 := f14.keep Kq34
  have f37 := f15.keep Kq34 (ninS ne_0_2_4 nin0)
  have f38 := f16.keep Kq34 (ninS ne_0_2_4 nin0)
  have f39 := f17.keep Kq34 (ninS ne_0_2_4 nin0)
  have f40 := f18.keep Kq34 (ninS ne_0_2_4 nin0)
  have f41 := f19.keep Kq34 (ninS ne_0_2_4 nin0)
  have f42 := f20.keep Kq34 (ninS ne_0_2_4 nin0)
  have f43 := f21.keep Kq34 (ninS ne_0_2_4 nin0)
  have f44 := f13.keep Kq34 (ninS ne_1_2_4 nin0)
  have f45 := f23.keep Kq34 (ninS (Ne.symm ne_2_3_4) nin0)
  have f46 := f24.keep Kq34 (ninS (Ne.symm ne_2_4_4) nin0)
  have f47 := f25.keep Kq34 (ninS (Ne.symm ne_2_5_4) nin0)
  have f48 := f26.keep Kq34 (ninS (Ne.symm ne_2_6_4) nin0)
  have Zz34 := Nat.le_trans Zz12 Kq34.1
  refine Go.of st34 ?_
  show Go p e below s _ _ _ (T34.setTop (mkF m 60 #[.val (.ref a0), .val (.int p1), .val (.int p2)] []))
  refine Go.of (fun t k => XS.aloadN X34.here hx rfl (hb hby d11_60) rfl rfl k) ?_
  show Go p e below s _ _ _ (T34.setTop (mkF m 61 #[.val (.ref a0), .val (.int p1), .val (.int p2)] [(.ref a0)]))
  obtain ⟨T49, X49, e49, st49⟩ := getF X34 hx hZ hown (host := "") (Or.inl (hw _ (List.mem_of_getElem? (i := 18) rfl))) Via.refl e34 f39 (g := (mkF m 61 #[.val (.ref a0), .val (.int p1), .val (.int p2)] [(.ref a0)])) rfl rfl (hb hby d11_61)
  refine Go.of st49 ?_
  show Go p e below s _ _ _ (T49.setTop (mkF m 64 #[.val (.ref a0), .val (.int p1), .val (.int p2)] [(.ref bd3)]))
  refine Go.of (fun t k => XS.aloadN X49.here hx rfl (hb hby d11_64) rfl rfl k) ?_
  show Go p e below s _ _ _ (T49.setTop (mkF m 65 #[.val (.ref a0), .val (.int p1), .val (.int p2)] [(.ref a0), (.ref bd3)]))
  obtain ⟨T50, X50, e50, st50⟩ := getF X49 hx hZ hown (host := "") (Or.inl (hw _ (List.mem_of_getElem? (i := 20) rfl))) Via.refl e49 f40 (g := (mkF m 65 #[.val (.ref a0), .val (.int p1), .val (.int p2)] [(.ref a0), (.ref bd3)])) rfl rfl (hb hby d11_65)
  refine Go.of st50 ?_
  show Go p e below s _ _ _ (T50.setTop (mkF m 68 #[.val (.ref a0), .val (.int p1), .val (.int p2)] [(.ref xt), (.ref bd3)]))
  refine Go.of (fun t k => XS.iloadN X50.here hx rfl (hb hby d11_68) rfl k) ?_
  show Go p e below s _ _ _ (T50.setTop (mkF m 69 #[.val (.ref a0), .val (.int p1), .val (.int p2)] [(.int p1), (.ref xt), (.ref bd3)]))
  obtain ⟨cl51, Ar51, q51, S51, M51, H51, G51⟩ := id f46
  have hin51 : ¬ (p1 < 0 ∨ cl51.slots.size ≤ (p1).toNatClampNeg) := (inb_of S51 hmem)
  refine Go.of (X50.iaload hx (j := p1) (v := (.int (Lxt.getD (p1).toNatClampNeg 0))) (by rw [e50]; exact Ar51.1) (State.isArrayOf_alike hZ.alike Ar51.2.1) Ar51.2.2 hin51 (Has.at H51 hin51 (own_getDI Lxt _)) (g := (mkF m 69 #[.val (.ref a0), .val (.int p1), .val (.int p2)] [(.int p1), (.ref xt), (.ref bd3)])) rfl rfl (hb hby d11_69)) ?_
  show Go p e below s _ _ _ (T50.setTop (mkF m 70 #[.val (.ref a0), .val (.int p1), .val (.int p2)] [(.int (Lxt.getD (p1).toNatClampNeg 0)), (.ref bd3)]))
  refine Go.of (fun t k => XS.aloadN X50.here hx rfl (hb hby d11_70) rfl rfl k) ?_
  show Go p e below s _ _ _ (T50.setTop (mkF m 71 #[.val (.ref a0), .val (.int p1), .val (.int p2)] [(.ref a0), (.int (Lxt.getD (p1).toNatClampNeg 0)), (.ref bd3)]))
  obtain ⟨T52, X52, e52, st52⟩ := getF X50 hx hZ hown (host := "") (Or.inl (hw _ (List.mem_of_getElem? (i := 18) rfl))) Via.refl e50 f39 (g := (mkF m 71 #[.val (.ref a0), .val (.int p1), .val (.int p2)] [(.ref a0), (.int (Lxt.getD (p1).toNatClampNeg 0)), (.ref bd3)])) rfl rfl (hb hby d11_71)
  refine Go.of st52 ?_
  show Go p e below s _ _ _ (T52.setTop (mkF m 74 #[.val (.ref a0), .val (.int p1), .val (.int p2)] [(.ref bd3), (.int (Lxt.getD (p1).toNatClampNeg 0)), (.ref bd3)]))
  refine Go.of (fun t k => XS.aloadN X52.here hx rfl (hb hby d11_74) rfl rfl k) ?_
  show Go p e below s _ _ _ (T52.setTop (mkF m 75 #[.val (.ref a0), .val (.int p1), .val (.int p2)] [(.ref a0), (.ref bd3), (.int (Lxt.getD (p1).toNatClampNeg 0)), (.ref bd3)]))
  obtain ⟨T53, X53, e53, st53⟩ := getF X52 hx hZ hown (host := "") (Or.inl (hw _ (List.mem_of_getElem? (i := 35) rfl))) Via.refl e52 f43 (g := (mkF m 75 #[.val (.ref a0), .val (.int p1), .val (.int p2)] [(.ref a0), (.ref bd3), (.int (Lxt.getD (p1).toNatClampNeg 0)), (.ref bd3)])) rfl rfl (hb hby d11_75)
  refine Go.of st53 ?_
  show Go p e below s _ _ _ (T53.setTop (mkF m 78 #[.val (.ref a0), .val (.int p1), .val (.int p2)] [(.int w), (.ref bd3), (.int (Lxt.getD (p1).toNatClampNeg 0)), (.ref bd3)]))
  refine Go.of (fun t k => XS.aloadN X53.here hx rfl (hb hby d11_78) rfl rfl k) ?_
  show Go p e below s _ _ _ (T53.setTop (mkF m 79 #[.val (.ref a0), .val (.int p1), .val (.int p2)] [(.ref a0), (.int w), (.ref bd3), (.int (Lxt.getD (p1).toNatClampNeg 0)), (.ref bd3)]))
  obtain ⟨T54, X54, e54, st54⟩ := getF X53 hx hZ hown (host := "") (Or.inl (hw _ (List.mem_of_getElem? (i := 24) rfl))) Via.refl e53 f42 (g := (mkF m 79 #[.val (.ref a0), .val (.int p1), .val (.int p2)] [(.ref a0), (.int w), (.ref bd3), (.int (Lxt.getD (p1).toNatClampNeg 0)), (.ref bd3)])) rfl rfl (hb hby d11_79)
  refine Go.of st54 ?_
  show Go p e below s _ _ _ (T54.setTop (mkF m 82 #[.val (.ref a0), .val (.int p1), .val (.int p2)] [(.ref xc), (.int w), (.ref bd3), (.int (Lxt.getD (p1).toNatClampNeg 0)), (.ref bd3)]))
  refine Go.of (fun t k => XS.iloadN X54.here hx rfl (hb hby d11_82) rfl k) ?_
  show Go p e below s _ _ _ (T54.setTop (mkF m 83 #[.val (.ref a0), .val (.int p1), .val (.int p2)] [(.int p1), (.ref xc), (.int w), (.ref bd3), (.int (Lxt.getD (p1).toNatClampNeg 0)), (.ref bd3)]))
  obtain ⟨cl55, Ar55, q55, S55, M55, H55, G55⟩ := id f48
  have hin55 : ¬ (p1 < 0 ∨ cl55.slots.size ≤ (p1).toNatClampNeg) := (inb_of S55 hmem)
  refine Go.of (X54.iaload hx (j := p1) (v := (.int (Lxc.getD (p1).toNatClampNeg 0))) (by rw [e54]; exact Ar55.1) (State.isArrayOf_alike hZ.alike Ar55.2.1) Ar55.2.2 hin55 (Has.at H55 hin55 (own_getDI Lxc _)) (g := (mkF m 83 #[.val (.ref a0), .val (.int p1), .val (.int p2)] [(.int p1), (.ref xc), (.int w), (.ref bd3), (.int (Lxt.getD (p1).toNatClampNeg 0)), (.ref bd3)])) rfl rfl (hb hby d11_83)) ?_
  show Go p e below s _ _ _ (T54.setTop (mkF m 84 #[.val (.ref a0), .val (.int p1), .val (.int p2)] [(.int (Lxc.getD (p1).toNatClampNeg 0)), (.int w), (.ref bd3), (.int (Lxt.getD (p1).toNatClampNeg 0)), (.ref bd3)]))
  obtain ⟨T56, h56, L56, X56, e56, N56, Kq56, Vq56, st56⟩ := cpA X54 hx hZ hown (hw _ (List.mem_of_getElem? (i := 68) rfl)) (hw _ (List.mem_of_getElem? (i := 53) rfl)) (hw _ (List.mem_of_getElem? (i := 51) rfl)) (hw _ (List.mem_of_getElem? (i := 52) rfl)) e54 f45 f45 (Or.inl ⟨rfl, rfl⟩) hcy.1.1 hcy.1.2.1 hcy.1.2.2 hcy.2.1 hcy.2.2.1 rfl (by rw [List.length_map]; exact (own_cpl hmk.2.2 hcy.2.2.2)) N34 g_bd3 (g := (mkF m 84 #[.val (.ref a0), .val (.int p1), .val (.int p2)] [(.int (Lxc.getD (p1).toNatClampNeg 0)), (.int w), (.ref bd3), (.int (Lxt.getD (p1).toNatClampNeg 0)), (.ref bd3)])) rfl (by rw [hml]; rfl) rfl (hb hby d11_84) (by decide) (W := 0) (by show 2 * 0 + _ ≤ _; exact Nat.le_of_eq rfl) (by decide)
  have f57 : Arv Z h56 bd3 kd3 .int ((F7 (2147483639 : Int64) (F6 ((w.toInt64) + (p2.toInt64)) ((2 : Int64) * (N.toInt64)))).toInt32) ((own_move (own_move Lxd [(0 : Int32), (0 : Int32), (0 : Int32), (0 : Int32), (0 : Int32), (0 : Int32), (0 : Int32), (0 : Int32)] ((0 : Int32)).toNatClampNeg ((0 : Int32)).toNatClampNeg ((F1 N ((F7 (2147483639 : Int64) (F6 ((w.toInt64) + (p2.toInt64)) ((2 : Int64) * (N.toInt64)))).toInt32))).toNatClampNeg) (own_move Lxd [(0 : Int32), (0 : Int32), (0 : Int32), (0 : Int32), (0 : Int32), (0 : Int32), (0 : Int32), (0 : Int32)] ((0 : Int32)).toNatClampNeg ((0 : Int32)).toNatClampNeg ((F1 N ((F7 (2147483639 : Int64) (F6 ((w.toInt64) + (p2.toInt64)) ((2 : Int64) * (N.toInt64)))).toInt32))).toNatClampNeg) ((Lxt.getD (p1).toNatClampNeg 0)).toNatClampNeg (w).toNatClampNeg ((Lxc.getD (p1).toNatClampNeg 0)).toNatClampNeg).map Value.int) (.int (0 : Int32)) := by rw [own_mv]; exact Vq56
  have f58 := f36.keep Kq56
  have f59 := f37.keep Kq56 (ninS ne_0_3_4 nin0)
  have f60 := f38.keep Kq56 (ninS ne_0_3_4 nin0)
  have f61 := f39.keep Kq56 (ninS ne_0_3_4 nin0)
  have f62 := f40.keep Kq56 (ninS ne_0_3_4 nin0)
  have f63 := f41.keep Kq56 (ninS ne_0_3_4 nin0)
  have f64 := f42.keep Kq56 (ninS ne_0_3_4 nin0)
  have f65 := f43.keep Kq56 (ninS ne_0_3_4 nin0)
  have f66 := f44.keep Kq56 (ninS ne_1_3_4 nin0)
  have f67 := f35.keep Kq56 (ninS ne_2_3_4 nin0)
  have f68 := f46.keep Kq56 (ninS (Ne.symm ne_3_4_4) nin0)
  have f69 := f47.keep Kq56 (ninS (Ne.symm ne_3_5_4) nin0)
  have f70 := f48.keep Kq56 (ninS (Ne.symm ne_3_6_4) nin0)
  have Zz56 := Nat.le_trans Zz34 Kq56.1
  refine Go.of st56 ?_
  show Go p e below s _ _ _ (T56.setTop (mkF m 87 #[.val (.ref a0), .val (.int p1), .val (.int p2)] []))
  refine Go.of (fun t k => XS.aloadN X56.here hx rfl (hb hby d11_87) rfl rfl k) ?_
  show Go p e below s _ _ _ (T56.setTop (mkF m 88 #[.val (.ref a0), .val (.int p1), .val (.int p2)] [(.ref a0)]))
  obtain ⟨T71, X71, e71, st71⟩ := getF X56 hx hZ hown (host := "") (Or.inl (hw _ (List.mem_of_getElem? (i := 20) rfl))) Via.refl e56 f62 (g := (mkF m 88 #[.val (.ref a0), .val (.int p1), .val (.int p2)] [(.ref a0)])) rfl rfl (hb hby d11_88)
  refine Go.of st71 ?_
  show Go p e below s _ _ _ (T71.setTop (mkF m 91 #[.val (.ref a0), .val (.int p1), .val (.int p2)] [(.ref xt)]))
  refine Go.of (fun t k => XS.iloadN X71.here hx rfl (hb hby d11_91) rfl k) ?_
  show Go p e below s _ _ _ (T71.setTop (mkF m 92 #[.val (.ref a0), .val (.int p1), .val (.int p2)] [(.int p1), (.ref xt)]))
  refine Go.of (fun t k => XS.aloadN X71.here hx rfl (hb hby d11_92) rfl rfl k) ?_
  show Go p e below s _ _ _ (T71.setTop (mkF m 93 #[.val (.ref a0), .val (.int p1), .val (.int p2)] [(.ref a0), (.int p1), (.ref xt)]))
  obtain ⟨T72, X72, e72, st72⟩ := getF X71 hx hZ hown (host := "") (Or.inl (hw _ (List.mem_of_getElem? (i := 35) rfl))) Via.refl e71 f65 (g := (mkF m 93 #[.val (.ref a0), .val (.int p1), .val (.int p2)] [(.ref a0), (.int p1), (.ref xt)])) rfl rfl (hb hby d11_93)
  refine Go.of st72 ?_
  show Go p e below s _ _ _ (T72.setTop (mkF m 96 #[.val (.ref a0), .val (.int p1), .val (.int p2)] [(.int w), (.int p1), (.ref xt)]))
  obtain ⟨cl73, Ar73, q73, S73, M73, H73, G73⟩ := id f68
  have hin73 : ¬ (p1 < 0 ∨ cl73.slots.size ≤ (p1).toNatClampNeg) := (inb_of S73 hmem)
  obtain ⟨T73, h73, X73, e73, W73, st73⟩ := stI X72 hx hZ e72 Ar73 (j := p1) hin73 (g := (mkF m 96 #[.val (.ref a0), .val (.int p1), .val (.int p2)] [(.int w), (.int p1), (.ref xt)])) rfl rfl (hb hby d11_96)
  have f74 : Arv Z h73 xt kxt .int (2 : Int32) ((Lxt.set (p1).toNatClampNeg w).map Value.int) (.int (0 : Int32)) := by rw [List.map_set]; exact Arv.set Ar73 q73 S73 M73 H73 G73 rfl W73 _ rfl (by rw [List.length_map]; exact hl3.1)
  have f75 := f58.wr W73
  have f76 := f59.other W73 (Or.inl ne_0_4_4)
  have f77 := f60.other W73 (Or.inl ne_0_4_4)
  have f78 := f61.other W73 (Or.inl ne_0_4_4)
  have f79 := f62.other W73 (Or.inl ne_0_4_4)
  have f80 := f63.other W73 (Or.inl ne_0_4_4)
  have f81 := f64.other W73 (Or.inl ne_0_4_4)
  have f82 := f65.other W73 (Or.inl ne_0_4_4)
  have f83 := f66.other W73 ne_1_4_4
  have f84 := f67.other W73 ne_2_4_4
  have f85 := f57.other W73 ne_3_4_4
  have f86 := f69.other W73 (Ne.symm ne_4_5_4)
  have f87 := f70.other W73 (Ne.symm ne_4_6_4)
  have N73 := Fr.snoc X73 N56 g_xt
  have Zz73 := Nat.le_trans Zz56 (Nat.le_of_eq (Wr.size W73).symm)
  refine Go.of st73 ?_
  show Go p e below s _ _ _ (T73.setTop (mkF m 97 #[.val (.ref a0), .val (.int p1), .val (.int p2)] []))
  refine Go.of (fun t k => XS.aloadN X73.here hx rfl (hb hby d11_97) rfl rfl k) ?_
  show Go p e below s _ _ _ (T73.setTop (mkF m 98 #[.val (.ref a0), .val (.int p1), .val (.int p2)] [(.ref a0)]))
  obtain ⟨T88, X88, e88, st88⟩ := getF X73 hx hZ hown (host := "") (Or.inl (hw _ (List.mem_of_getElem? (i := 22) rfl))) Via.refl e73 f80 (g := (mkF m 98 #[.val (.ref a0), .val (.int p1), .val (.int p2)] [(.ref a0)])) rfl rfl (hb hby d11_98)
  refine Go.of st88 ?_
  show Go p e below s _ _ _ (T88.setTop (mkF m 101 #[.val (.ref a0), .val (.int p1), .val (.int p2)] [(.ref xr)]))
  refine Go.of (fun t k => XS.iloadN X88.here hx rfl (hb hby d11_101) rfl k) ?_
  show Go p e below s _ _ _ (T88.setTop (mkF m 102 #[.val (.ref a0), .val (.int p1), .val (.int p2)] [(.int p1), (.ref xr)]))
  refine Go.of (fun t k => XS.iloadN X88.here hx rfl (hb hby d11_102) rfl k) ?_
  show Go p e below s _ _ _ (T88.setTop (mkF m 103 #[.val (.ref a0), .val (.int p1), .val (.int p2)] [(.int p2), (.int p1), (.ref xr)]))
  obtain ⟨cl89, Ar89, q89, S89, M89, H89, G89⟩ := id f86
  have hin89 : ¬ (p1 < 0 ∨ cl89.slots.size ≤ (p1).toNatClampNeg) := (inb_of S89 hmem)
  obtain ⟨T89, h89, X89, e89, W89, st89⟩ := stI X88 hx hZ e88 Ar89 (j := p1) hin89 (g := (mkF m 103 #[.val (.ref a0), .val (.int p1), .val (.int p2)] [(.int p2), (.int p1), (.ref xr)])) rfl rfl (hb hby d11_103)
  have f90 : Arv Z h89 xr kxr .int (2 : Int32) ((Lxr.set (p1).toNatClampNeg p2).map Value.int) (.int (0 : Int32)) := by rw [List.map_set]; exact Arv.set Ar89 q89 S89 M89 H89 G89 rfl W89 _ rfl (by rw [List.length_map]; exact hl3.2.1)
  have f91 := f75.wr W89
  have f92 := f76.other W89 (Or.inl ne_0_5_4)
  have f93 := f77.other W89 (Or.inl ne_0_5_4)
  have f94 := f78.other W89 (Or.inl ne_0_5_4)
  have f95 := f79.other W89 (Or.inl ne_0_5_4)
  have f96 := f80.other W89 (Or.inl ne_0_5_4)
  have f97 := f81.other W89 (Or.inl ne_0_5_4)
  have f98 := f82.other W89 (Or.inl ne_0_5_4)
  have f99 := f83.other W89 ne_1_5_4
  have f100 := f84.other W89 ne_2_5_4
  have f101 := f85.other W89 ne_3_5_4
  have f102 := f74.other W89 ne_4_5_4
  have f103 := f87.other W89 (Ne.symm ne_5_6_4)
  have N89 := Fr.snoc X89 N73 g_xr
  have Zz89 := Nat.le_trans Zz73 (Nat.le_of_eq (Wr.size W89).symm)
  refine Go.of st89 ?_
  show Go p e below s _ _ _ (T89.setTop (mkF m 104 #[.val (.ref a0), .val (.int p1), .val (.int p2)] []))
  refine Go.of (fun t k => XS.aloadN X89.here hx rfl (hb hby d11_104) rfl rfl k) ?_
  show Go p e below s _ _ _ (T89.setTop (mkF m 105 #[.val (.ref a0), .val (.int p1), .val (.int p2)] [(.ref a0)]))
  refine Go.of (fun t k => XS.dup X89.here hx rfl (hb hby d11_105) rfl rfl k) ?_
  show Go p e below s _ _ _ (T89.setTop (mkF m 106 #[.val (.ref a0), .val (.int p1), .val (.int p2)] [(.ref a0), (.ref a0)]))
  obtain ⟨T104, X104, e104, st104⟩ := getF X89 hx hZ hown (host := "") (Or.inl (hw _ (List.mem_of_getElem? (i := 35) rfl))) Via.refl e89 f98 (g := (mkF m 106 #[.val (.ref a0), .val (.int p1), .val (.int p2)] [(.ref a0), (.ref a0)])) rfl rfl (hb hby d11_106)
  refine Go.of st104 ?_
  show Go p e below s _ _ _ (T104.setTop (mkF m 109 #[.val (.ref a0), .val (.int p1), .val (.int p2)] [(.int w), (.ref a0)]))
  refine Go.of (fun t k => XS.iloadN X104.here hx rfl (hb hby d11_109) rfl k) ?_
  show Go p e below s _ _ _ (T104.setTop (mkF m 110 #[.val (.ref a0), .val (.int p1), .val (.int p2)] [(.int p2), (.int w), (.ref a0)]))
  refine Go.of (fun t k => XS.iadd X104.here hx rfl (hb hby d11_110) rfl k) ?_
  show Go p e below s _ _ _ (T104.setTop (mkF m 111 #[.val (.ref a0), .val (.int p1), .val (.int p2)] [(.int (w + p2)), (.ref a0)]))
  obtain ⟨T105, h105, X105, e105, W105, st105⟩ := putF X104 hx hZ hown (host := "") (Or.inl (hw _ (List.mem_of_getElem? (i := 35) rfl))) Via.refl e104 f98 f91 (Or.inl (hw _ (List.mem_of_getElem? (i := 36) rfl))) (hw _ (List.mem_of_getElem? (i := 5) rfl)) (ty := .int) (by decide) rfl rfl (g := (mkF m 111 #[.val (.ref a0), .val (.int p1), .val (.int p2)] [(.int (w + p2)), (.ref a0)])) rfl rfl (hb hby d11_111)
  have f106 := f98.same W105
  have f107 := f91.wr W105
  have f108 := f92.other W105 (Or.inr (slot_ne (Or.inl (hw _ (List.mem_of_getElem? (i := 15) rfl))) (Or.inl (hw _ (List.mem_of_getElem? (i := 36) rfl))) (by decide) (t := (.array .int)) (t' := .int) (by decide) (by decide)))
  have f109 := f93.other W105 (Or.inr (slot_ne (Or.inl (hw _ (List.mem_of_getElem? (i := 17) rfl))) (Or.inl (hw _ (List.mem_of_getElem? (i := 36) rfl))) (by decide) (t := (.array .int)) (t' := .int) (by decide) (by decide)))
  have f110 := f94.other W105 (Or.inr (slot_ne (Or.inl (hw _ (List.mem_of_getElem? (i := 19) rfl))) (Or.inl (hw _ (List.mem_of_getElem? (i := 36) rfl))) (by decide) (t := (.array .int)) (t' := .int) (by decide) (by decide)))
  have f111 := f95.other W105 (Or.inr (slot_ne (Or.inr (hw _ (List.mem_of_getElem? (i := 21) rfl))) (Or.inl (hw _ (List.mem_of_getElem? (i := 36) rfl))) (by decide) (t := (.array .int)) (t' := .int) (by decide) (by decide)))
  have f112 := f96.other W105 (Or.inr (slot_ne (Or.inr (hw _ (List.mem_of_getElem? (i := 23) rfl))) (Or.inl (hw _ (List.mem_of_getElem? (i := 36) rfl))) (by decide) (t := (.array .int)) (t' := .int) (by decide) (by decide)))
  have f113 := f97.other W105 (Or.inr (slot_ne (Or.inr (hw _ (List.mem_of_getElem? (i := 25) rfl))) (Or.inl (hw _ (List.mem_of_getElem? (i := 36) rfl))) (by decide) (t := (.array .int)) (t' := .int) (by decide) (by decide)))
  have f114 := f99.other W105 (Ne.symm ne_0_1_4)
  have f115 := f100.other W105 (Ne.symm ne_0_2_4)
  have f116 := f101.other W105 (Ne.symm ne_0_3_4)
  have f117 := f102.other W105 (Ne.symm ne_0_4_4)
  have f118 := f90.other W105 (Ne.symm ne_0_5_4)
  have f119 := f103.other W105 (Ne.symm ne_0_6_4)
  have N105 := Fr.snoc X105 N89 g_a0
  have Zz105 := Nat.le_trans Zz89 (Nat.le_of_eq (Wr.size W105).symm)
  refine Go.of st105 ?_
  show Go p e below s _ _ _ (T105.setTop (mkF m 114 #[.val (.ref a0), .val (.int p1), .val (.int p2)] []))
  exact Go.ret X105 none (fun _ => rfl) hlk (by rw [e105]; exact ⟨rfl, N105, bu3, bg3, bd3, ku3, kg3, kd3, ⟨f107, f108, f109, f110, f111, f112, f113, f106, f114, f115, f116, f117, f118, f119, g_a0, g_bu3, g_bg3, g_bd3, g_xt, g_xr, g_xc, Zz105, ne_0_1_4, ne_0_2_4, ne_0_3_4, ne_0_4_4, ne_0_5_4, ne_0_6_4, ne_1_2_4, ne_1_3_4, ne_1_4_4, ne_1_5_4, ne_1_6_4, ne_2_3_4, ne_2_4_4, ne_2_5_4, ne_2_6_4, ne_3_4_4, ne_3_5_4, ne_3_6_4, ne_4_5_4, ne_4_6_4, ne_5_6_4⟩⟩) (by decide) (by decide) (fun fs hr => (X105.returnOut hx Bd.returns (hb hby d11_114) hr))
theorem own_pd4 : parseMethodDescriptor "(II)V" = some ⟨[.int, .int], none⟩ := by decide +kernel
theorem d10_0 : decode prog_34_method_9_code 0 = .ok (.iload_n 2, 1) := by decide +kernel
theorem d10_1 : decode prog_34_method_9_code 1 = .ok (.aload_n 0, 1) := by decide +kernel
theorem d10_2 : decode prog_34_method_9_code 2 = .ok (.getfield 25, 3) := by decide +kernel
theorem d10_5 : decode prog_34_method_9_code 5 = .ok (.iload_n 1, 1) := by decide +kernel
theorem d10_6 : decode prog_34_method_9_code 6 = .ok (.iaload, 1) := by decide +kernel
theorem d10_7 : decode prog_34_method_9_code 7 = .ok (.if_icmp .ne 41, 3) := by decide +kernel
theorem d10_10 : decode prog_34_method_9_code 10 = .ok (.aload_n 0, 1) := by decide +kernel
theorem d10_11 : decode prog_34_method_9_code 11 = .ok (.getfield 25, 3) := by decide +kernel
theorem d10_14 : decode prog_34_method_9_code 14 = .ok (.iload_n 1, 1) := by decide +kernel
theorem d10_15 : decode prog_34_method_9_code 15 = .ok (.iaload, 1) := by decide +kernel
theorem d10_16 : decode prog_34_method_9_code 16 = .ok (.aload_n 0, 1) := by decide +kernel
theorem d10_17 : decode prog_34_method_9_code 17 = .ok (.getfield 22, 3) := by decide +kernel
theorem d10_20 : decode prog_34_method_9_code 20 = .ok (.iload_n 1, 1) := by decide +kernel
theorem d10_21 : decode prog_34_method_9_code 21 = .ok (.iaload, 1) := by decide +kernel
theorem d10_22 : decode prog_34_method_9_code 22 = .ok (.if_icmp .ne 16, 3) := by decide +kernel
theorem d10_25 : decode prog_34_method_9_code 25 = .ok (.aload_n 0, 1) := by decide +kernel
theorem d10_26 : decode prog_34_method_9_code 26 = .ok (.iload_n 1, 1) := by decide +kernel
theorem d10_27 : decode prog_34_method_9_code 27 = .ok (.iconst 2, 1) := by decide +kernel
theorem d10_28 : decode prog_34_method_9_code 28 = .ok (.aload_n 0, 1) := by decide +kernel
theorem d10_29 : decode prog_34_method_9_code 29 = .ok (.getfield 22, 3) := by decide +kernel
theorem d10_32 : decode prog_34_method_9_code 32 = .ok (.iload_n 1, 1) := by decide +kernel
theorem d10_33 : decode prog_34_method_9_code 33 = .ok (.iaload, 1) := by decide +kernel
theorem d10_34 : decode prog_34_method_9_code 34 = .ok (.imul, 1) := by decide +kernel
theorem d10_35 : decode prog_34_method_9_code 35 = .ok (.invokevirtual 36, 3) := by decide +kernel
theorem d10_38 : decode prog_34_method_9_code 38 = .ok (.aload_n 0, 1) := by decide +kernel
theorem d10_39 : decode prog_34_method_9_code 39 = .ok (.getfield 25, 3) := by decide +kernel
theorem d10_42 : decode prog_34_method_9_code 42 = .ok (.iload_n 1, 1) := by decide +kernel
theorem d10_43 : decode prog_34_method_9_code 43 = .ok (.dup2, 1) := by decide +kernel
theorem d10_44 : decode prog_34_method_9_code 44 = .ok (.iaload, 1) := by decide +kernel
theorem d10_45 : decode prog_34_method_9_code 45 = .ok (.iconst 1, 1) := by decide +kernel
theorem d10_46 : decode prog_34_method_9_code 46 = .ok (.iadd, 1) := by decide +kernel
theorem d10_47 : decode prog_34_method_9_code 47 = .ok (.iastore, 1) := by decide +kernel
theorem d10_48 : decode prog_34_method_9_code 48 = .ok (.aload_n 0, 1) := by decide +kernel
theorem d10_49 : decode prog_34_method_9_code 49 = .ok (.getfield 19, 3) := by decide +kernel
theorem d10_52 : decode prog_34_method_9_code 52 = .ok (.iload_n 1, 1) := by decide +kernel
theorem d10_53 : decode prog_34_method_9_code 53 = .ok (.iaload, 1) := by decide +kernel
theorem d10_54 : decode prog_34_method_9_code 54 = .ok (.iload_n 2, 1) := by decide +kernel
theorem d10_55 : decode prog_34_method_9_code 55 = .ok (.iadd, 1) := by decide +kernel
theorem d10_56 : decode prog_34_method_9_code 56 = .ok (.istore 6, 2) := by decide +kernel
theorem d10_58 : decode prog_34_method_9_code 58 = .ok (.aload_n 0, 1) := by decide +kernel
theorem d10_59 : decode prog_34_method_9_code 59 = .ok (.getfield 7, 3) := by decide +kernel
theorem d10_62 : decode prog_34_method_9_code 62 = .ok (.iload 6, 2) := by decide +kernel
theorem d10_64 : decode prog_34_method_9_code 64 = .ok (.iload_n 3, 1) := by decide +kernel
theorem d10_65 : decode prog_34_method_9_code 65 = .ok (.iastore, 1) := by decide +kernel
theorem d10_66 : decode prog_34_method_9_code 66 = .ok (.aload_n 0, 1) := by decide +kernel
theorem d10_67 : decode prog_34_method_9_code 67 = .ok (.getfield 13, 3) := by decide +kernel
theorem d10_70 : decode prog_34_method_9_code 70 = .ok (.iload 6, 2) := by decide +kernel
theorem d10_72 : decode prog_34_method_9_code 72 = .ok (.iload 4, 2) := by decide +kernel
theorem d10_74 : decode prog_34_method_9_code 74 = .ok (.iastore, 1) := by decide +kernel
theorem d10_75 : decode prog_34_method_9_code 75 = .ok (.aload_n 0, 1) := by decide +kernel
theorem d10_76 : decode prog_34_method_9_code 76 = .ok (.getfield 16, 3) := by decide +kernel
theorem d10_79 : decode prog_34_method_9_code 79 = .ok (.iload 6, 2) := by decide +kernel
theorem d10_81 : decode prog_34_method_9_code 81 = .ok (.iload 5, 2) := by decide +kernel
theorem d10_83 : decode prog_34_method_9_code 83 = .ok (.iastore, 1) := by decide +kernel
theorem d10_84 : decode prog_34_method_9_code 84 = .ok (.return_, 1) := by decide +kernel
theorem ef_10A (m : MethodId) (a0 : Addr) (p1 : Int32) (p2 : Int32) (p3 : Int32) (p4 : Int32) (p5 : Int32) : entryFrame m #[(.ref a0), (.int p1), (.int p2), (.int p3), (.int p4), (.int p5)] 7 = mkF m 0 #[.val (.ref a0), .val (.int p1), .val (.int p2), .val (.int p3), .val (.int p4), .val (.int p5), .unset] [] := by first | (simp [entryFrame, mkF, argsToLocals, Value.category]; done) | rfl
def Q10A (Z : State) (a0 : Addr) (p1 : Int32) (p2 : Int32) (p3 : Int32) (p4 : Int32) (p5 : Int32) (xu xg xd xt xr xc : Addr) (kxu kxg kxd kxt kxr kxc : ClassId) (N : Int32) (Lxu Lxg Lxd Lxt Lxr Lxc : List Int32) (w : Int32) (h0 : Heap) (n0 : Nat) (v : Option Value) (h : Heap) (Lo : List Loc) : Prop := v = none ∧ Fr n0 Lo ∧ ∃ (u' g' d' : Addr) (ku' kg' kd' : ClassId), own_K Z h n0 a0 u' g' d' xt xr xc ku' kg' kd' kxt kxr kxc ((F7 (2147483639 : Int64) (F6 ((w.toInt64) + (((2 : Int32) * (Lxr.getD (p1).toNatClampNeg 0)).toInt64)) ((2 : Int64) * (N.toInt64)))).toInt32) ((own_move (own_move Lxu [(0 : Int32), (0 : Int32), (0 : Int32), (0 : Int32), (0 : Int32), (0 : Int32), (0 : Int32), (0 : Int32)] ((0 : Int32)).toNatClampNeg ((0 : Int32)).toNatClampNeg ((F1 N ((F7 (2147483639 : Int64) (F6 ((w.toInt64) + (((2 : Int32) * (Lxr.getD (p1).toNatClampNeg 0)).toInt64)) ((2 : Int64) * (N.toInt64)))).toInt32))).toNatClampNeg) (own_move Lxu [(0 : Int32), (0 : Int32), (0 : Int32), (0 : Int32), (0 : Int32), (0 : Int32), (0 : Int32), (0 : Int32)] ((0 : Int32)).toNatClampNeg ((0 : Int32)).toNatClampNeg ((F1 N ((F7 (2147483639 : Int64) (F6 ((w.toInt64) + (((2 : Int32) * (Lxr.getD (p1).toNatClampNeg 0)).toInt64)) ((2 : Int64) * (N.toInt64)))).toInt32))).toNatClampNeg) ((Lxt.getD (p1).toNatClampNeg 0)).toNatClampNeg (w).toNatClampNeg ((Lxc.getD (p1).toNatClampNeg 0)).toNatClampNeg).set ((((Lxt.set (p1).toNatClampNeg w).getD (p1).toNatClampNeg 0) + p2)).toNatClampNeg p3) ((own_move (own_move Lxg [(0 : Int32), (0 : Int32), (0 : Int32), (0 : Int32), (0 : Int32), (0 : Int32), (0 : Int32), (0 : Int32)] ((0 : Int32)).toNatClampNeg ((0 : Int32)).toNatClampNeg ((F1 N ((F7 (2147483639 : Int64) (F6 ((w.toInt64) + (((2 : Int32) * (Lxr.getD (p1).toNatClampNeg 0)).toInt64)) ((2 : Int64) * (N.toInt64)))).toInt32))).toNatClampNeg) (own_move Lxg [(0 : Int32), (0 : Int32), (0 : Int32), (0 : Int32), (0 : Int32), (0 : Int32), (0 : Int32), (0 : Int32)] ((0 : Int32)).toNatClampNeg ((0 : Int32)).toNatClampNeg ((F1 N ((F7 (2147483639 : Int64) (F6 ((w.toInt64) + (((2 : Int32) * (Lxr.getD (p1).toNatClampNeg 0)).toInt64)) ((2 : Int64) * (N.toInt64)))).toInt32))).toNatClampNeg) ((Lxt.getD (p1).toNatClampNeg 0)).toNatClampNeg (w).toNatClampNeg ((Lxc.getD (p1).toNatClampNeg 0)).toNatClampNeg).set ((((Lxt.set (p1).toNatClampNeg w).getD (p1).toNatClampNeg 0) + p2)).toNatClampNeg p4) ((own_move (own_move Lxd [(0 : Int32), (0 : Int32), (0 : Int32), (0 : Int32), (0 : Int32), (0 : Int32), (0 : Int32), (0 : Int32)] ((0 : Int32)).toNatClampNeg ((0 : Int32)).toNatClampNeg ((F1 N ((F7 (2147483639 : Int64) (F6 ((w.toInt64) + (((2 : Int32) * (Lxr.getD (p1).toNatClampNeg 0)).toInt64)) ((2 : Int64) * (N.toInt64)))).toInt32))).toNatClampNeg) (own_move Lxd [(0 : Int32), (0 : Int32), (0 : Int32), (0 : Int32), (0 : Int32), (0 : Int32), (0 : Int32), (0 : Int32)] ((0 : Int32)).toNatClampNeg ((0 : Int32)).toNatClampNeg ((F1 N ((F7 (2147483639 : Int64) (F6 ((w.toInt64) + (((2 : Int32) * (Lxr.getD (p1).toNatClampNeg 0)).toInt64)) ((2 : Int64) * (N.toInt64)))).toInt32))).toNatClampNeg) ((Lxt.getD (p1).toNatClampNeg 0)).toNatClampNeg (w).toNatClampNeg ((Lxc.getD (p1).toNatClampNeg 0)).toNatClampNeg).set ((((Lxt.set (p1).toNatClampNeg w).getD (p1).toNatClampNeg 0) + p2)).toNatClampNeg p5) (Lxt.set (p1).toNatClampNeg w) (Lxr.set (p1).toNatClampNeg ((2 : Int32) * (Lxr.getD (p1).toNatClampNeg 0))) (Lxc.set (p1).toNatClampNeg ((Lxc.getD (p1).toNatClampNeg 0) + (1 : Int32))) (w + ((2 : Int32) * (Lxr.getD (p1).toNatClampNeg 0)))
set_option maxRecDepth 65536 in
set_option maxHeartbeats 40000000 in
theorem rm10A (l : Launch) (Z : State) (az : Array Value) (hw : ∀ d ∈ tables_1, d.before az Z = true) (ws : List Jvm.Cond) (a0 : Addr) (p1 : Int32) (p2 : Int32) (p3 : Int32) (p4 : Int32) (p5 : Int32) (xu xg xd xt xr xc : Addr) (kxu kxg kxd kxt kxr kxc : ClassId) (N : Int32) (Lxu Lxg Lxd Lxt Lxr Lxc : List Int32) (w : Int32) (h0 : Heap) (n0 : Nat) (Z0 : n0 ≤ h0.size) (hKU : own_K Z h0 n0 a0 xu xg xd xt xr xc kxu kxg kxd kxt kxr kxc N Lxu Lxg Lxd Lxt Lxr Lxc w) (hmk : ((N.toInt64) < ((w.toInt64) + (((2 : Int32) * (Lxr.getD (p1).toNatClampNeg 0)).toInt64))) ∧ (¬ ((2147483639 : Int64) < ((w.toInt64) + (((2 : Int32) * (Lxr.getD (p1).toNatClampNeg 0)).toInt64)))) ∧ (0 ≤ N.toInt ∧ N.toInt < ((F7 (2147483639 : Int64) (F6 ((w.toInt64) + (((2 : Int32) * (Lxr.getD (p1).toNatClampNeg 0)).toInt64)) ((2 : Int64) * (N.toInt64)))).toInt32).toInt ∧ ((F7 (2147483639 : Int64) (F6 ((w.toInt64) + (((2 : Int32) * (Lxr.getD (p1).toNatClampNeg 0)).toInt64)) ((2 : Int64) * (N.toInt64)))).toInt32).toInt ≤ 8)) (hmem : ¬ (p1 < 0) ∧ p1 < (2 : Int32)) (hl3 : p1.toNatClampNeg < Lxt.length ∧ p1.toNatClampNeg < Lxr.length ∧ p1.toNatClampNeg < Lxc.length) (hcy : (¬ ((Lxt.getD (p1).toNatClampNeg 0) < 0) ∧ ¬ (w < 0) ∧ ¬ ((Lxc.getD (p1).toNatClampNeg 0) < 0)) ∧ (Lxt.getD (p1).toNatClampNeg 0).toNatClampNeg + (Lxc.getD (p1).toNatClampNeg 0).toNatClampNeg ≤ ((F7 (2147483639 : Int64) (F6 ((w.toInt64) + (((2 : Int32) * (Lxr.getD (p1).toNatClampNeg 0)).toInt64)) ((2 : Int64) * (N.toInt64)))).toInt32).toNatClampNeg ∧ w.toNatClampNeg + (Lxc.getD (p1).toNatClampNeg 0).toNatClampNeg ≤ ((F7 (2147483639 : Int64) (F6 ((w.toInt64) + (((2 : Int32) * (Lxr.getD (p1).toNatClampNeg 0)).toInt64)) ((2 : Int64) * (N.toInt64)))).toInt32).toNatClampNeg ∧ w.toNatClampNeg + (Lxc.getD (p1).toNatClampNeg 0).toNatClampNeg ≤ 8) (hix : p2 = (Lxc.getD (p1).toNatClampNeg 0)) (heq : (Lxc.getD (p1).toNatClampNeg 0) = (Lxr.getD (p1).toNatClampNeg 0)) (hl4 : p1.toNatClampNeg < (Lxt.set (p1).toNatClampNeg w).length) (hat : (¬ ((((Lxt.set (p1).toNatClampNeg w).getD (p1).toNatClampNeg 0) + p2) < 0) ∧ (((Lxt.set (p1).toNatClampNeg w).getD (p1).toNatClampNeg 0) + p2) < ((F7 (2147483639 : Int64) (F6 ((w.toInt64) + (((2 : Int32) * (Lxr.getD (p1).toNatClampNeg 0)).toInt64)) ((2 : Int64) * (N.toInt64)))).toInt32)) ∧ (((Lxt.set (p1).toNatClampNeg w).getD (p1).toNatClampNeg 0) + p2).toNatClampNeg < 8) :
    MetFree l (⟨"com/example/susurrus/susurrus/KnownUnits", "keep", "(IIIII)V"⟩ : MethodName) (head1 (Jvm.Cond.code (⟨"com/example/susurrus/susurrus/KnownUnits", "keep", "(IIIII)V"⟩ : MethodName) prog_34_method_9_code 7 none :: ws) ({ frames := 4, cells := 3, slots := 24, locals := 64 } : Room)) (fun a U => a = #[(.ref a0), (.int p1), (.int p2), (.int p3), (.int p4), (.int p5)] ∧ Z.Warmed39 U.vm ∧ U.heap = h0) (fun _ _ _ _ _ => True) (fun _ U o U' => ∃ v L, o = .returned v ∧ (Q10A Z a0 p1 p2 p3 p4 p5 xu xg xd xt xr xc kxu kxg kxd kxt kxr kxc N Lxu Lxg Lxd Lxt Lxr Lxc w h0 n0) v U'.heap L ∧ FrameEnd U o U' L ({ frames := 4, cells := 3, slots := 24, locals := 64 } : Room).cells ({ frames := 4, cells := 3, slots := 24, locals := 64 } : Room).slots) := by
  refine MetFree.of_bodySF (plainFor_of_name own_pn1) hisR ?_
  intro p e s m args below meth c s₁ Bd hml0 hP hK
  obtain ⟨rfl, hZ, hh⟩ := hP
  have hx := Bd.exec
  have hby := Bd.bytes
  have hml : c.maxLocals = 7 := hml0
  have hown : s.vm.findClass "com/example/susurrus/susurrus/KnownUnits" = some m.cls := findClass_of_methodNamed Bd.named
  have hnm := (name_of_methodNamed Bd.named Bd.method).1
  have hlk : meth.locks = false := BodyLoose.notSynchronized Bd
  have X0 : Stand p l e ({ frames := 4, cells := 3, slots := 24, locals := 64 } : Room) s m #[(.ref a0), (.int p1), (.int p2), (.int p3), (.int p4), (.int p5)] below meth c s₁ [] 0 0 := Stand.of_body Bd
  have e0 : s₁.heap = h0 := by rw [← hh, Bd.state]; rfl
  have N0 := Fr.nil n0
  obtain ⟨E_1, Ff0_1, Ff1_1, Ff2_1, Ff3_1, Ff4_1, Ff5_1, Ff6_1, Vv0_1, Vv1_1, Vv2_1, Vv3_1, Vv4_1, Vv5_1, g_a0, g_xu, g_xg, g_xd, g_xt, g_xr, g_xc, Zk1, ne_0_1_1, ne_0_2_1, ne_0_3_1, ne_0_4_1, ne_0_5_1, ne_0_6_1, ne_1_2_1, ne_1_3_1, ne_1_4_1, ne_1_5_1, ne_1_6_1, ne_2_3_1, ne_2_4_1, ne_2_5_1, ne_2_6_1, ne_3_4_1, ne_3_5_1, ne_3_6_1, ne_4_5_1, ne_4_6_1, ne_5_6_1⟩ := id hKU
  show Go p e below s (Q10A Z a0 p1 p2 p3 p4 p5 xu xg xd xt xr xc kxu kxg kxd kxt kxr kxc N Lxu Lxg Lxd Lxt Lxr Lxc w h0 n0) ({ frames := 4, cells := 3, slots := 24, locals := 64 } : Room).cells ({ frames := 4, cells := 3, slots := 24, locals := 64 } : Room).slots (s₁.setTop (entryFrame m #[(.ref a0), (.int p1), (.int p2), (.int p3), (.int p4), (.int p5)] 7))
  refine Go.of (fun t k => castTop (ef_10A m a0 p1 p2 p3 p4 p5) k) ?_
  show Go p e below s _ _ _ (s₁.setTop (mkF m 0 #[.val (.ref a0), .val (.int p1), .val (.int p2), .val (.int p3), .val (.int p4), .val (.int p5), .unset] []))
  refine Go.of (fun t k => XS.iloadN X0.here hx rfl (hb hby d10_0) rfl k) ?_
  show Go p e below s _ _ _ (s₁.setTop (mkF m 1 #[.val (.ref a0), .val (.int p1), .val (.int p2), .val (.int p3), .val (.int p4), .val (.int p5), .unset] [(.int p2)]))
  refine Go.of (fun t k => XS.aloadN X0.here hx rfl (hb hby d10_1) rfl rfl k) ?_
  show Go p e below s _ _ _ (s₁.setTop (mkF m 2 #[.val (.ref a0), .val (.int p1), .val (.int p2), .val (.int p3), .val (.int p4), .val (.int p5), .unset] [(.ref a0), (.int p2)]))
  obtain ⟨T2, X2, e2, st2⟩ := getF X0 hx hZ hown (host := "") (Or.inl (hw _ (List.mem_of_getElem? (i := 24) rfl))) Via.refl e0 Ff5_1 (g := (mkF m 2 #[.val (.ref a0), .val (.int p1), .val (.int p2), .val (.int p3), .val (.int p4), .val (.int p5), .unset] [(.ref a0), (.int p2)])) rfl rfl (hb hby d10_2)
  refine Go.of st2 ?_
  show Go p e below s _ _ _ (T2.setTop (mkF m 5 #[.val (.ref a0), .val (.int p1), .val (.int p2), .val (.int p3), .val (.int p4), .val (.int p5), .unset] [(.ref xc), (.int p2)]))
  refine Go.of (fun t k => XS.iloadN X2.here hx rfl (hb hby d10_5) rfl k) ?_
  show Go p e below s _ _ _ (T2.setTop (mkF m 6 #[.val (.ref a0), .val (.int p1), .val (.int p2), .val (.int p3), .val (.int p4), .val (.int p5), .unset] [(.int p1), (.ref xc), (.int p2)]))
  obtain ⟨cl3, Ar3, q3, S3, M3, H3, G3⟩ := id Vv5_1
  have hin3 : ¬ (p1 < 0 ∨ cl3.slots.size ≤ (p1).toNatClampNeg) := (inb_of S3 hmem)
  refine Go.of (X2.iaload hx (j := p1) (v := (.int (Lxc.getD (p1).toNatClampNeg 0))) (by rw [e2]; exact Ar3.1) (State.isArrayOf_alike hZ.alike Ar3.2.1) Ar3.2.2 hin3 (Has.at H3 hin3 (own_getDI Lxc _)) (g := (mkF m 6 #[.val (.ref a0), .val (.int p1), .val (.int p2), .val (.int p3), .val (.int p4), .val (.int p5), .unset] [(.int p1), (.ref xc), (.int p2)])) rfl rfl (hb hby d10_6)) ?_
  show Go p e below s _ _ _ (T2.setTop (mkF m 7 #[.val (.ref a0), .val (.int p1), .val (.int p2), .val (.int p3), .val (.int p4), .val (.int p5), .unset] [(.int (Lxc.getD (p1).toNatClampNeg 0)), (.int p2)]))
  refine Go.of (fun t k => XS.icmpNo X2.here hx rfl (hb hby d10_7) rfl (teq hix).2 k) ?_
  show Go p e below s _ _ _ (T2.setTop (mkF m 10 #[.val (.ref a0), .val (.int p1), .val (.int p2), .val (.int p3), .val (.int p4), .val (.int p5), .unset] []))
  refine Go.of (fun t k => XS.aloadN X2.here hx rfl (hb hby d10_10) rfl rfl k) ?_
  show Go p e below s _ _ _ (T2.setTop (mkF m 11 #[.val (.ref a0), .val (.int p1), .val (.int p2), .val (.int p3), .val (.int p4), .val (.int p5), .unset] [(.ref a0)]))
  obtain ⟨T4, X4, e4, st4⟩ := getF X2 hx hZ hown (host := "") (Or.inl (hw _ (List.mem_of_getElem? (i := 24) rfl))) Via.refl e2 Ff5_1 (g := (mkF m 11 #[.val (.ref a0), .val (.int p1), .val (.int p2), .val (.int p3), .val (.int p4), .val (.int p5), .unset] [(.ref a0)])) rfl rfl (hb hby d10_11)
  refine Go.of st4 ?_
  show Go p e below s _ _ _ (T4.setTop (mkF m 14 #[.val (.ref a0), .val (.int p1), .val (.int p2), .val (.int p3), .val (.int p4), .val (.int p5), .unset] [(.ref xc)]))
  refine Go.of (fun t k => XS.iloadN X4.here hx rfl (hb hby d10_14) rfl k) ?_
  show Go p e below s _ _ _ (T4.setTop (mkF m 15 #[.val (.ref a0), .val (.int p1), .val (.int p2), .val (.int p3), .val (.int p4), .val (.int p5), .unset] [(.int p1), (.ref xc)]))
  obtain ⟨cl5, Ar5, q5, S5, M5, H5, G5⟩ := id Vv5_1
  have hin5 : ¬ (p1 < 0 ∨ cl5.slots.size ≤ (p1).toNatClampNeg) := (inb_of S5 hmem)
  refine Go.of (X4.iaload hx (j := p1) (v := (.int (Lxc.getD (p1).toNatClampNeg 0))) (by rw [e4]; exact Ar5.1) (State.isArrayOf_alike hZ.alike Ar5.2.1) Ar5.2.2 hin5 (Has.at H5 hin5 (own_getDI Lxc _)) (g := (mkF m 15 #[.val (.ref a0), .val (.int p1), .val (.int p2), .val (.int p3), .val (.int p4), .val (.int p5), .unset] [(.int p1), (.ref xc)])) rfl rfl (hb hby d10_15)) ?_
  show Go p e below s _ _ _ (T4.setTop (mkF m 16 #[.val (.ref a0), .val (.int p1), .val (.int p2), .val (.int p3), .val (.int p4), .val (.int p5), .unset] [(.int (Lxc.getD (p1).toNatClampNeg 0))]))
  refine Go.of (fun t k => XS.aloadN X4.here hx rfl (hb hby d10_16) rfl rfl k) ?_
  show Go p e below s _ _ _ (T4.setTop (mkF m 17 #[.val (.ref a0), .val (.int p1), .val (.int p2), .val (.int p3), .val (.int p4), .val (.int p5), .unset] [(.ref a0), (.int (Lxc.getD (p1).toNatClampNeg 0))]))
  obtain ⟨T6, X6, e6, st6⟩ := getF X4 hx hZ hown (host := "") (Or.inl (hw _ (List.mem_of_getElem? (i := 22) rfl))) Via.refl e4 Ff4_1 (g := (mkF m 17 #[.val (.ref a0), .val (.int p1), .val (.int p2), .val (.int p3), .val (.int p4), .val (.int p5), .unset] [(.ref a0), (.int (Lxc.getD (p1).toNatClampNeg 0))])) rfl rfl (hb hby d10_17)
  refine Go.of st6 ?_
  show Go p e below s _ _ _ (T6.setTop (mkF m 20 #[.val (.ref a0), .val (.int p1), .val (.int p2), .val (.int p3), .val (.int p4), .val (.int p5), .unset] [(.ref xr), (.int (Lxc.getD (p1).toNatClampNeg 0))]))
  refine Go.of (fun t k => XS.iloadN X6.here hx rfl (hb hby d10_20) rfl k) ?_
  show Go p e below s _ _ _ (T6.setTop (mkF m 21 #[.val (.ref a0), .val (.int p1), .val (.int p2), .val (.int p3), .val (.int p4), .val (.int p5), .unset] [(.int p1), (.ref xr), (.int (Lxc.getD (p1).toNatClampNeg 0))]))
  obtain ⟨cl7, Ar7, q7, S7, M7, H7, G7⟩ := id Vv4_1
  have hin7 : ¬ (p1 < 0 ∨ cl7.slots.size ≤ (p1).toNatClampNeg) := (inb_of S7 hmem)
  refine Go.of (X6.iaload hx (j := p1) (v := (.int (Lxr.getD (p1).toNatClampNeg 0))) (by rw [e6]; exact Ar7.1) (State.isArrayOf_alike hZ.alike Ar7.2.1) Ar7.2.2 hin7 (Has.at H7 hin7 (own_getDI Lxr _)) (g := (mkF m 21 #[.val (.ref a0), .val (.int p1), .val (.int p2), .val (.int p3), .val (.int p4), .val (.int p5), .unset] [(.int p1), (.ref xr), (.int (Lxc.getD (p1).toNatClampNeg 0))])) rfl rfl (hb hby d10_21)) ?_
  show Go p e below s _ _ _ (T6.setTop (mkF m 22 #[.val (.ref a0), .val (.int p1), .val (.int p2), .val (.int p3), .val (.int p4), .val (.int p5), .unset] [(.int (Lxr.getD (p1).toNatClampNeg 0)), (.int (Lxc.getD (p1).toNatClampNeg 0))]))
  refine Go.of (fun t k => XS.icmpNo X6.here hx rfl (hb hby d10_22) rfl (teq heq).2 k) ?_
  show Go p e below s _ _ _ (T6.setTop (mkF m 25 #[.val (.ref a0), .val (.int p1), .val (.int p2), .val (.int p3), .val (.int p4), .val (.int p5), .unset] []))
  refine Go.of (fun t k => XS.aloadN X6.here hx rfl (hb hby d10_25) rfl rfl k) ?_
  show Go p e below s _ _ _ (T6.setTop (mkF m 26 #[.val (.ref a0), .val (.int p1), .val (.int p2), .val (.int p3), .val (.int p4), .val (.int p5), .unset] [(.ref a0)]))
  refine Go.of (fun t k => XS.iloadN X6.here hx rfl (hb hby d10_26) rfl k) ?_
  show Go p e below s _ _ _ (T6.setTop (mkF m 27 #[.val (.ref a0), .val (.int p1), .val (.int p2), .val (.int p3), .val (.int p4), .val (.int p5), .unset] [(.int p1), (.ref a0)]))
  refine Go.of (fun t k => XS.iconst X6.here hx rfl (hb hby d10_27) k) ?_
  show Go p e below s _ _ _ (T6.setTop (mkF m 28 #[.val (.ref a0), .val (.int p1), .val (.int p2), .val (.int p3), .val (.int p4), .val (.int p5), .unset] [(.int (2 : Int32)), (.int p1), (.ref a0)]))
  refine Go.of (fun t k => XS.aloadN X6.here hx rfl (hb hby d10_28) rfl rfl k) ?_
  show Go p e below s _ _ _ (T6.setTop (mkF m 29 #[.val (.ref a0), .val (.int p1), .val (.int p2), .val (.int p3), .val (.int p4), .val (.int p5), .unset] [(.ref a0), (.int (2 : Int32)), (.int p1), (.ref a0)]))
  obtain ⟨T8, X8, e8, st8⟩ := getF X6 hx hZ hown (host := "") (Or.inl (hw _ (List.mem_of_getElem? (i := 22) rfl))) Via.refl e6 Ff4_1 (g := (mkF m 29 #[.val (.ref a0), .val (.int p1), .val (.int p2), .val (.int p3), .val (.int p4), .val (.int p5), .unset] [(.ref a0), (.int (2 : Int32)), (.int p1), (.ref a0)])) rfl rfl (hb hby d10_29)
  refine Go.of st8 ?_
  show Go p e below s _ _ _ (T8.setTop (mkF m 32 #[.val (.ref a0), .val (.int p1), .val (.int p2), .val (.int p3), .val (.int p4), .val (.int p5), .unset] [(.ref xr), (.int (2 : Int32)), (.int p1), (.ref a0)]))
  refine Go.of (fun t k => XS.iloadN X8.here hx rfl (hb hby d10_32) rfl k) ?_
  show Go p e below s _ _ _ (T8.setTop (mkF m 33 #[.val (.ref a0), .val (.int p1), .val (.int p2), .val (.int p3), .val (.int p4), .val (.int p5), .unset] [(.int p1), (.ref xr), (.int (2 : Int32)), (.int p1), (.ref a0)]))
  obtain ⟨cl9, Ar9, q9, S9, M9, H9, G9⟩ := id Vv4_1
  have hin9 : ¬ (p1 < 0 ∨ cl9.slots.size ≤ (p1).toNatClampNeg) := (inb_of S9 hmem)
  refine Go.of (X8.iaload hx (j := p1) (v := (.int (Lxr.getD (p1).toNatClampNeg 0))) (by rw [e8]; exact Ar9.1) (State.isArrayOf_alike hZ.alike Ar9.2.1) Ar9.2.2 hin9 (Has.at H9 hin9 (own_getDI Lxr _)) (g := (mkF m 33 #[.val (.ref a0), .val (.int p1), .val (.int p2), .val (.int p3), .val (.int p4), .val (.int p5), .unset] [(.int p1), (.ref xr), (.int (2 : Int32)), (.int p1), (.ref a0)])) rfl rfl (hb hby d10_33)) ?_
  show Go p e below s _ _ _ (T8.setTop (mkF m 34 #[.val (.ref a0), .val (.int p1), .val (.int p2), .val (.int p3), .val (.int p4), .val (.int p5), .unset] [(.int (Lxr.getD (p1).toNatClampNeg 0)), (.int (2 : Int32)), (.int p1), (.ref a0)]))
  refine Go.of (fun t k => XS.imul X8.here hx rfl (hb hby d10_34) rfl k) ?_
  show Go p e below s _ _ _ (T8.setTop (mkF m 35 #[.val (.ref a0), .val (.int p1), .val (.int p2), .val (.int p3), .val (.int p4), .val (.int p5), .unset] [(.int ((2 : Int32) * (Lxr.getD (p1).toNatClampNeg 0))), (.int p1), (.ref a0)]))
  obtain ⟨cq10, q10, q10'⟩ := E_1.cell
  obtain ⟨_, _, ⟨T10, L10, k10, n10⟩, -, X10, ⟨Lc10, hQ10, l10, y10, z10⟩, st10⟩ := X8.privateBack hx (y := (⟨"com/example/susurrus/susurrus/KnownUnits", "moveToEnd", "(II)V"⟩ : MethodName)) hown (mvT hZ (hw _ (List.mem_of_getElem? (i := 64) rfl))) (mvT hZ (hw _ (List.mem_of_getElem? (i := 65) rfl))) (own_sel (y := (⟨"com/example/susurrus/susurrus/KnownUnits", "moveToEnd", "(II)V"⟩ : MethodName)) (mvT (args := #[]) hZ (hw _ (List.mem_of_getElem? (i := 5) rfl))) (Cond.privateMethod_at (mvP hZ (hw _ (List.mem_of_getElem? (i := 66) rfl)) (args := #[]))) (mvT hZ (hw _ (List.mem_of_getElem? (i := 65) rfl))) (by decide)) (Cond.privateMethod_at (mvP hZ (hw _ (List.mem_of_getElem? (i := 66) rfl)) (args := #[]))) (mvT hZ (hw _ (List.mem_of_getElem? (i := 67) rfl))) (by decide) (backOf (W := 0) (rm11 l Z az hw [] a0 p1 ((2 : Int32) * (Lxr.getD (p1).toNatClampNeg 0)) xu xg xd xt xr xc kxu kxg kxd kxt kxr kxc N Lxu Lxg Lxd Lxt Lxr Lxc w h0 n0 Zk1 ⟨E_1, Ff0_1, Ff1_1, Ff2_1, Ff3_1, Ff4_1, Ff5_1, Ff6_1, Vv0_1, Vv1_1, Vv2_1, Vv3_1, Vv4_1, Vv5_1, g_a0, g_xu, g_xg, g_xd, g_xt, g_xr, g_xc, Zk1, ne_0_1_1, ne_0_2_1, ne_0_3_1, ne_0_4_1, ne_0_5_1, ne_0_6_1, ne_1_2_1, ne_1_3_1, ne_1_4_1, ne_1_5_1, ne_1_6_1, ne_2_3_1, ne_2_4_1, ne_2_5_1, ne_2_6_1, ne_3_4_1, ne_3_5_1, ne_3_6_1, ne_4_5_1, ne_4_6_1, ne_5_6_1⟩ (hmk) (hmem) (hl3) (hcy)) hZ (hw _ (List.mem_of_getElem? (i := 67) rfl)) (hw _ (List.mem_of_getElem? (i := 6) rfl)) (by decide) (by decide)) (g := (mkF m 35 #[.val (.ref a0), .val (.int p1), .val (.int p2), .val (.int p3), .val (.int p4), .val (.int p5), .unset] [(.int ((2 : Int32) * (Lxr.getD (p1).toNatClampNeg 0))), (.int p1), (.ref a0)])) rfl (by rw [hml]; rfl) (Steps.refl _) (a := a0) (by rw [e8]; exact q10) q10' (argsL := [(.int p1), (.int ((2 : Int32) * (Lxr.getD (p1).toNatClampNeg 0)))]) (rest := []) (lenOf own_pd4 rfl) rfl (by show 2 * 0 + _ ≤ _; exact Nat.le_of_eq rfl) (hb hby d10_35) (fun _ _ => ⟨rfl, e8, (by decide : 0 + 3 ≤ _), (by decide : 0 + 24 ≤ _)⟩)
  dsimp only [Pt.U, Pt.locs, Pt.cells, Pt.slots] at X10 l10 y10 z10 st10 hQ10
  subst l10 y10 z10
  obtain ⟨rfl, N10q, bu11, bg11, bd11, ku11, kg11, kd11, hK11⟩ := hQ10
  have N10 := Fr.app N0 N10q
  obtain ⟨E_12, Ff0_12, Ff1_12, Ff2_12, Ff3_12, Ff4_12, Ff5_12, Ff6_12, Vv0_12, Vv1_12, Vv2_12, Vv3_12, Vv4_12, Vv5_12, g_a0, g_bu11, g_bg11, g_bd11, g_xt, g_xr, g_xc, Zk12, ne_0_1_12, ne_0_2_12, ne_0_3_12, ne_0_4_12, ne_0_5_12, ne_0_6_12, ne_1_2_12, ne_1_3_12, ne_1_4_12, ne_1_5_12, ne_1_6_12, ne_2_3_12, ne_2_4_12, ne_2_5_12, ne_2_6_12, ne_3_4_12, ne_3_5_12, ne_3_6_12, ne_4_5_12, ne_4_6_12, ne_5_6_12⟩ := id hK11
  refine Go.of (fun t k => st10.trans k) ?_
  show Go p e below s _ _ _ (T10.setTop (mkF m 38 #[.val (.ref a0), .val (.int p1), .val (.int p2), .val (.int p3), .val (.int p4), .val (.int p5), .unset] []))
  refine Go.of (fun t k => XS.aloadN X10.here hx rfl (hb hby d10_38) rfl rfl k) ?_
  show Go p e below s _ _ _ (T10.setTop (mkF m 39 #[.val (.ref a0), .val (.int p1), .val (.int p2), .val (.int p3), .val (.int p4), .val (.int p5), .unset] [(.ref a0)]))
  obtain ⟨T13, X13, e13, st13⟩ := getF X10 hx hZ hown (host := "") (Or.inl (hw _ (List.mem_of_getElem? (i := 24) rfl))) Via.refl rfl Ff5_12 (g := (mkF m 39 #[.val (.ref a0), .val (.int p1), .val (.int p2), .val (.int p3), .val (.int p4), .val (.int p5), .unset] [(.ref a0)])) rfl rfl (hb hby d10_39)
  refine Go.of st13 ?_
  show Go p e below s _ _ _ (T13.setTop (mkF m 42 #[.val (.ref a0), .val (.int p1), .val (.int p2), .val (.int p3), .val (.int p4), .val (.int p5), .unset] [(.ref xc)]))
  refine Go.of (fun t k => XS.iloadN X13.here hx rfl (hb hby d10_42) rfl k) ?_
  show Go p e below s _ _ _ (T13.setTop (mkF m 43 #[.val (.ref a0), .val (.int p1), .val (.int p2), .val (.int p3), .val (.int p4), .val (.int p5), .unset] [(.int p1), (.ref xc)]))
  refine Go.of (fun t k => Jvm.Free.XT.dup2 X13.here hx rfl (hb hby d10_43) rfl rfl rfl k) ?_
  show Go p e below s _ _ _ (T13.setTop (mkF m 44 #[.val (.ref a0), .val (.int p1), .val (.int p2), .val (.int p3), .val (.int p4), .val (.int p5), .unset] [(.int p1), (.ref xc), (.int p1), (.ref xc)]))
  obtain ⟨cl14, Ar14, q14, S14, M14, H14, G14⟩ := id Vv5_12
  have hin14 : ¬ (p1 < 0 ∨ cl14.slots.size ≤ (p1).toNatClampNeg) := (inb_of S14 hmem)
  refine Go.of (X13.iaload hx (j := p1) (v := (.int (Lxc.getD (p1).toNatClampNeg 0))) (by rw [e13]; exact Ar14.1) (State.isArrayOf_alike hZ.alike Ar14.2.1) Ar14.2.2 hin14 (Has.at H14 hin14 (own_getDI Lxc _)) (g := (mkF m 44 #[.val (.ref a0), .val (.int p1), .val (.int p2), .val (.int p3), .val (.int p4), .val (.int p5), .unset] [(.int p1), (.ref xc), (.int p1), (.ref xc)])) rfl rfl (hb hby d10_44)) ?_
  show Go p e below s _ _ _ (T13.setTop (mkF m 45 #[.val (.ref a0), .val (.int p1), .val (.int p2), .val (.int p3), .val (.int p4), .val (.int p5), .unset] [(.int (Lxc.getD (p1).toNatClampNeg 0)), (.int p1), (.ref xc)]))
  refine Go.of (fun t k => XS.iconst X13.here hx rfl (hb hby d10_45) k) ?_
  show Go p e below s _ _ _ (T13.setTop (mkF m 46 #[.val (.ref a0), .val (.int p1), .val (.int p2), .val (.int p3), .val (.int p4), .val (.int p5), .unset] [(.int (1 : Int32)), (.int (Lxc.getD (p1).toNatClampNeg 0)), (.int p1), (.ref xc)]))
  refine Go.of (fun t k => XS.iadd X13.here hx rfl (hb hby d10_46) rfl k) ?_
  show Go p e below s _ _ _ (T13.setTop (mkF m 47 #[.val (.ref a0), .val (.int p1), .val (.int p2), .val (.int p3), .val (.int p4), .val (.int p5), .unset] [(.int ((Lxc.getD (p1).toNatClampNeg 0) + (1 : Int32))), (.int p1), (.ref xc)]))
  obtain ⟨cl15, Ar15, q15, S15, M15, H15, G15⟩ := id Vv5_12
  have hin15 : ¬ (p1 < 0 ∨ cl15.slots.size ≤ (p1).toNatClampNeg) := (inb_of S15 hmem)
  obtain ⟨T15, h15, X15, e15, W15, st15⟩ := stI X13 hx hZ e13 Ar15 (j := p1) hin15 (g := (mkF m 47 #[.val (.ref a0), .val (.int p1), .val (.int p2), .val (.int p3), .val (.int p4), .val (.int p5), .unset] [(.int ((Lxc.getD (p1).toNatClampNeg 0) + (1 : Int32))), (.int p1), (.ref xc)])) rfl rfl (hb hby d10_47)
  have f16 : Arv Z h15 xc kxc .int (2 : Int32) ((Lxc.set (p1).toNatClampNeg ((Lxc.getD (p1).toNatClampNeg 0) + (1 : Int32))).map Value.int) (.int (0 : Int32)) := by rw [List.map_set]; exact Arv.set Ar15 q15 S15 M15 H15 G15 rfl W15 _ rfl (by rw [List.length_map]; exact hl3.2.2)
  have f17 := E_12.wr W15
  have f18 := Ff0_12.other W15 (Or.inl ne_0_6_12)
  have f19 := Ff1_12.other W15 (Or.inl ne_0_6_12)
  have f20 := Ff2_12.other W15 (Or.inl ne_0_6_12)
  have f21 := Ff3_12.other W15 (Or.inl ne_0_6_12)
  have f22 := Ff4_12.other W15 (Or.inl ne_0_6_12)
  have f23 := Ff5_12.other W15 (Or.inl ne_0_6_12)
  have f24 := Ff6_12.other W15 (Or.inl ne_0_6_12)
  have f25 := Vv0_12.other W15 ne_1_6_12
  have f26 := Vv1_12.other W15 ne_2_6_12
  have f27 := Vv2_12.other W15 ne_3_6_12
  have f28 := Vv3_12.other W15 ne_4_6_12
  have f29 := Vv4_12.other W15 ne_5_6_12
  have N15 := Fr.snoc X15 N10 g_xc
  have Zz15 := Nat.le_trans Zk12 (Nat.le_of_eq (Wr.size W15).symm)
  refine Go.of st15 ?_
  show Go p e below s _ _ _ (T15.setTop (mkF m 48 #[.val (.ref a0), .val (.int p1), .val (.int p2), .val (.int p3), .val (.int p4), .val (.int p5), .unset] []))
  refine Go.of (fun t k => XS.aloadN X15.here hx rfl (hb hby d10_48) rfl rfl k) ?_
  show Go p e below s _ _ _ (T15.setTop (mkF m 49 #[.val (.ref a0), .val (.int p1), .val (.int p2), .val (.int p3), .val (.int p4), .val (.int p5), .unset] [(.ref a0)]))
  obtain ⟨T30, X30, e30, st30⟩ := getF X15 hx hZ hown (host := "") (Or.inl (hw _ (List.mem_of_getElem? (i := 20) rfl))) Via.refl e15 f21 (g := (mkF m 49 #[.val (.ref a0), .val (.int p1), .val (.int p2), .val (.int p3), .val (.int p4), .val (.int p5), .unset] [(.ref a0)])) rfl rfl (hb hby d10_49)
  refine Go.of st30 ?_
  show Go p e below s _ _ _ (T30.setTop (mkF m 52 #[.val (.ref a0), .val (.int p1), .val (.int p2), .val (.int p3), .val (.int p4), .val (.int p5), .unset] [(.ref xt)]))
  refine Go.of (fun t k => XS.iloadN X30.here hx rfl (hb hby d10_52) rfl k) ?_
  show Go p e below s _ _ _ (T30.setTop (mkF m 53 #[.val (.ref a0), .val (.int p1), .val (.int p2), .val (.int p3), .val (.int p4), .val (.int p5), .unset] [(.int p1), (.ref xt)]))
  obtain ⟨cl31, Ar31, q31, S31, M31, H31, G31⟩ := id f28
  have hin31 : ¬ (p1 < 0 ∨ cl31.slots.size ≤ (p1).toNatClampNeg) := (inb_of S31 hmem)
  refine Go.of (X30.iaload hx (j := p1) (v := (.int ((Lxt.set (p1).toNatClampNeg w).getD (p1).toNatClampNeg 0))) (by rw [e30]; exact Ar31.1) (State.isArrayOf_alike hZ.alike Ar31.2.1) Ar31.2.2 hin31 (Has.at H31 hin31 (own_getDI (Lxt.set (p1).toNatClampNeg w) _)) (g := (mkF m 53 #[.val (.ref a0), .val (.int p1), .val (.int p2), .val (.int p3), .val (.int p4), .val (.int p5), .unset] [(.int p1), (.ref xt)])) rfl rfl (hb hby d10_53)) ?_
  show Go p e below s _ _ _ (T30.setTop (mkF m 54 #[.val (.ref a0), .val (.int p1), .val (.int p2), .val (.int p3), .val (.int p4), .val (.int p5), .unset] [(.int ((Lxt.set (p1).toNatClampNeg w).getD (p1).toNatClampNeg 0))]))
  refine Go.of (fun t k => XS.iloadN X30.here hx rfl (hb hby d10_54) rfl k) ?_
  show Go p e below s _ _ _ (T30.setTop (mkF m 55 #[.val (.ref a0), .val (.int p1), .val (.int p2), .val (.int p3), .val (.int p4), .val (.int p5), .unset] [(.int p2), (.int ((Lxt.set (p1).toNatClampNeg w).getD (p1).toNatClampNeg 0))]))
  refine Go.of (fun t k => XS.iadd X30.here hx rfl (hb hby d10_55) rfl k) ?_
  show Go p e below s _ _ _ (T30.setTop (mkF m 56 #[.val (.ref a0), .val (.int p1), .val (.int p2), .val (.int p3), .val (.int p4), .val (.int p5), .unset] [(.int (((Lxt.set (p1).toNatClampNeg w).getD (p1).toNatClampNeg 0) + p2))]))
  refine Go.of (fun t k => XS.istore X30.here hx rfl (hb hby d10_56) rfl (l' := #[.val (.ref a0), .val (.int p1), .val (.int p2), .val (.int p3), .val (.int p4), .val (.int p5), .val (.int (((Lxt.set (p1).toNatClampNeg w).getD (p1).toNatClampNeg 0) + p2))]) rfl k) ?_
  show Go p e below s _ _ _ (T30.setTop (mkF m 58 #[.val (.ref a0), .val (.int p1), .val (.int p2), .val (.int p3), .val (.int p4), .val (.int p5), .val (.int (((Lxt.set (p1).toNatClampNeg w).getD (p1).toNatClampNeg 0) + p2))] []))
  refine Go.of (fun t k => XS.aloadN X30.here hx rfl (hb hby d10_58) rfl rfl k) ?_
  show Go p e below s _ _ _ (T30.setTop (mkF m 59 #[.val (.ref a0), .val (.int p1), .val (.int p2), .val (.int p3), .val (.int p4), .val (.int p5), .val (.int (((Lxt.set (p1).toNatClampNeg w).getD (p1).toNatClampNeg 0) + p2))] [(.ref a0)]))
  obtain ⟨T32, X32, e32, st32⟩ := getF X30 hx hZ hown (host := "") (Or.inl (hw _ (List.mem_of_getElem? (i := 14) rfl))) Via.refl e30 f18 (g := (mkF m 59 #[.val (.ref a0), .val (.int p1), .val (.int p2), .val (.int p3), .val (.int p4), .val (.int p5), .val (.int (((Lxt.set (p1).toNatClampNeg w).getD (p1).toNatClampNeg 0) + p2))] [(.ref a0)])) rfl rfl (hb hby d10_59)
  refine Go.of st32 ?_
  show Go p e below s _ _ _ (T32.setTop (mkF m 62 #[.val (.ref a0), .val (.int p1), .val (.int p2), .val (.int p3), .val (.int p4), .val (.int p5), .val (.int (((Lxt.set (p1).toNatClampNeg w).getD (p1).toNatClampNeg 0) + p2))] [(.ref bu11)]))
  refine Go.of (fun t k => XS.iload X32.here hx rfl (hb hby d10_62) rfl k) ?_
  show Go p e below s _ _ _ (T32.setTop (mkF m 64 #[.val (.ref a0), .val (.int p1), .val (.int p2), .val (.int p3), .val (.int p4), .val (.int p5), .val (.int (((Lxt.set (p1).toNatClampNeg w).getD (p1).toNatClampNeg 0) + p2))] [(.int (((Lxt.set (p1).toNatClampNeg w).getD (p1).toNatClampNeg 0) + p2)), (.ref bu11)]))
  refine Go.of (fun t k => XS.iloadN X32.here hx rfl (hb hby d10_64) rfl k) ?_
  show Go p e below s _ _ _ (T32.setTop (mkF m 65 #[.val (.ref a0), .val (.int p1), .val (.int p2), .val (.int p3), .val (.int p4), .val (.int p5), .val (.int (((Lxt.set (p1).toNatClampNeg w).getD (p1).toNatClampNeg 0) + p2))] [(.int p3), (.int (((Lxt.set (p1).toNatClampNeg w).getD (p1).toNatClampNeg 0) + p2)), (.ref bu11)]))
  obtain ⟨cl33, Ar33, q33, S33, M33, H33, G33⟩ := id f25
  have hin33 : ¬ ((((Lxt.set (p1).toNatClampNeg w).getD (p1).toNatClampNeg 0) + p2) < 0 ∨ cl33.slots.size ≤ ((((Lxt.set (p1).toNatClampNeg w).getD (p1).toNatClampNeg 0) + p2)).toNatClampNeg) := (inb_of S33 hat.1)
  obtain ⟨T33, h33, X33, e33, W33, st33⟩ := stI X32 hx hZ e32 Ar33 (j := (((Lxt.set (p1).toNatClampNeg w).getD (p1).toNatClampNeg 0) + p2)) hin33 (g := (mkF m 65 #[.val (.ref a0), .val (.int p1), .val (.int p2), .val (.int p3), .val (.int p4), .val (.int p5), .val (.int (((Lxt.set (p1).toNatClampNeg w).getD (p1).toNatClampNeg 0) + p2))] [(.int p3), (.int (((Lxt.set (p1).toNatClampNeg w).getD (p1).toNatClampNeg 0) + p2)), (.ref bu11)])) rfl rfl (hb hby d10_65)
  have f34 : Arv Z h33 bu11 ku11 .int ((F7 (2147483639 : Int64) (F6 ((w.toInt64) + (((2 : Int32) * (Lxr.getD (p1).toNatClampNeg 0)).toInt64)) ((2 : Int64) * (N.toInt64)))).toInt32) (((own_move (own_move Lxu [(0 : Int32), (0 : Int32), (0 : Int32), (0 : Int32), (0 : Int32), (0 : Int32), (0 : Int32), (0 : Int32)] ((0 : Int32)).toNatClampNeg ((0 : Int32)).toNatClampNeg ((F1 N ((F7 (2147483639 : Int64) (F6 ((w.toInt64) + (((2 : Int32) * (Lxr.getD (p1).toNatClampNeg 0)).toInt64)) ((2 : Int64) * (N.toInt64)))).toInt32))).toNatClampNeg) (own_move Lxu [(0 : Int32), (0 : Int32), (0 : Int32), (0 : Int32), (0 : Int32), (0 : Int32), (0 : Int32), (0 : Int32)] ((0 : Int32)).toNatClampNeg ((0 : Int32)).toNatClampNeg ((F1 N ((F7 (2147483639 : Int64) (F6 ((w.toInt64) + (((2 : Int32) * (Lxr.getD (p1).toNatClampNeg 0)).toInt64)) ((2 : Int64) * (N.toInt64)))).toInt32))).toNatClampNeg) ((Lxt.getD (p1).toNatClampNeg 0)).toNatClampNeg (w).toNatClampNeg ((Lxc.getD (p1).toNatClampNeg 0)).toNatClampNeg).set ((((Lxt.set (p1).toNatClampNeg w).getD (p1).toNatClampNeg 0) + p2)).toNatClampNeg p3).map Value.int) (.int (0 : Int32)) := by rw [List.map_set]; exact Arv.set Ar33 q33 S33 M33 H33 G33 rfl W33 _ rfl (by rw [List.length_map]; exact (own_atl hmk.2.2 hcy.2.2.2 hat.2))
  have f35 := f17.wr W33
  have f36 := f18.other W33 (Or.inl ne_0_1_12)
  have f37 := f19.other W33 (Or.inl ne_0_1_12)
  have f38 := f20.other W33 (Or.inl ne_0_1_12)
  have f39 := f21.other W33 (Or.inl ne_0_1_12)
  have f40 := f22.other W33 (Or.inl ne_0_1_12)
  have f41 := f23.other W33 (Or.inl ne_0_1_12)
  have f42 := f24.other W33 (Or.inl ne_0_1_12)
  have f43 := f26.other W33 (Ne.symm ne_1_2_12)
  have f44 := f27.other W33 (Ne.symm ne_1_3_12)
  have f45 := f28.other W33 (Ne.symm ne_1_4_12)
  have f46 := f29.other W33 (Ne.symm ne_1_5_12)
  have f47 := f16.other W33 (Ne.symm ne_1_6_12)
  have N33 := Fr.snoc X33 N15 g_bu11
  have Zz33 := Nat.le_trans Zz15 (Nat.le_of_eq (Wr.size W33).symm)
  refine Go.of st33 ?_
  show Go p e below s _ _ _ (T33.setTop (mkF m 66 #[.val (.ref a0), .val (.int p1), .val (.int p2), .val (.int p3), .val (.int p4), .val (.int p5), .val (.int (((Lxt.set (p1).toNatClampNeg w).getD (p1).toNatClampNeg 0) + p2))] []))
  refine Go.of (fun t k => XS.aloadN X33.here hx rfl (hb hby d10_66) rfl rfl k) ?_
  show Go p e below s _ _ _ (T33.setTop (mkF m 67 #[.val (.ref a0), .val (.int p1), .val (.int p2), .val (.int p3), .val (.int p4), .val (.int p5), .val (.int (((Lxt.set (p1).toNatClampNeg w).getD (p1).toNatClampNeg 0) + p2))] [(.ref a0)]))
  obtain ⟨T48, X48, e48, st48⟩ := getF X33 hx hZ hown (host := "") (Or.inl (hw _ (List.mem_of_getElem? (i := 16) rfl))) Via.refl e33 f37 (g := (mkF m 67 #[.val (.ref a0), .val (.int p1), .val (.int p2), .val (.int p3), .val (.int p4), .val (.int p5), .val (.int (((Lxt.set (p1).toNatClampNeg w).getD (p1).toNatClampNeg 0) + p2))] [(.ref a0)])) rfl rfl (hb hby d10_67)
  refine Go.of st48 ?_
  show Go p e below s _ _ _ (T48.setTop (mkF m 70 #[.val (.ref a0), .val (.int p1), .val (.int p2), .val (.int p3), .val (.int p4), .val (.int p5), .val (.int (((Lxt.set (p1).toNatClampNeg w).getD (p1).toNatClampNeg 0) + p2))] [(.ref bg11)]))
  refine Go.of (fun t k => XS.iload X48.here hx rfl (hb hby d10_70) rfl k) ?_
  show Go p e below s _ _ _ (T48.setTop (mkF m 72 #[.val (.ref a0), .val (.int p1), .val (.int p2), .val (.int p3), .val (.int p4), .val (.int p5), .val (.int (((Lxt.set (p1).toNatClampNeg w).getD (p1).toNatClampNeg 0) + p2))] [(.int (((Lxt.set (p1).toNatClampNeg w).getD (p1).toNatClampNeg 0) + p2)), (.ref bg11)]))
  refine Go.of (fun t k => XS.iload X48.here hx rfl (hb hby d10_72) rfl k) ?_
  show Go p e below s _ _ _ (T48.setTop (mkF m 74 #[.val (.ref a0), .val (.int p1), .val (.int p2), .val (.int p3), .val (.int p4), .val (.int p5), .val (.int (((Lxt.set (p1).toNatClampNeg w).getD (p1).toNatClampNeg 0) + p2))] [(.int p4), (.int (((Lxt.set (p1).toNatClampNeg w).getD (p1).toNatClampNeg 0) + p2)), (.ref bg11)]))
  obtain ⟨cl49, Ar49, q49, S49, M49, H49, G49⟩ := id f43
  have hin49 : ¬ ((((Lxt.set (p1).toNatClampNeg w).getD (p1).toNatClampNeg 0) + p2) < 0 ∨ cl49.slots.size ≤ ((((Lxt.set (p1).toNatClampNeg w).getD (p1).toNatClampNeg 0) + p2)).toNatClampNeg) := (inb_of S49 hat.1)
  obtain ⟨T49, h49, X49, e49, W49, st49⟩ := stI X48 hx hZ e48 Ar49 (j := (((Lxt.set (p1).toNatClampNeg w).getD (p1).toNatClampNeg 0) + p2)) hin49 (g := (mkF m 74 #[.val (.ref a0), .val (.int p1), .val (.int p2), .val (.int p3), .val (.int p4), .val (.int p5), .val (.int (((Lxt.set (p1).toNatClampNeg w).getD (p1).toNatClampNeg 0) + p2))] [(.int p4), (.int (((Lxt.set (p1).toNatClampNeg w).getD (p1).toNatClampNeg 0) + p2)), (.ref bg11)])) rfl rfl (hb hby d10_74)
  have f50 : Arv Z h49 bg11 kg11 .int ((F7 (2147483639 : Int64) (F6 ((w.toInt64) + (((2 : Int32) * (Lxr.getD (p1).toNatClampNeg 0)).toInt64)) ((2 : Int64) * (N.toInt64)))).toInt32) (((own_move (own_move Lxg [(0 : Int32), (0 : Int32), (0 : Int32), (0 : Int32), (0 : Int32), (0 : Int32), (0 : Int32), (0 : Int32)] ((0 : Int32)).toNatClampNeg ((0 : Int32)).toNatClampNeg ((F1 N ((F7 (2147483639 : Int64) (F6 ((w.toInt64) + (((2 : Int32) * (Lxr.getD (p1).toNatClampNeg 0)).toInt64)) ((2 : Int64) * (N.toInt64)))).toInt32))).toNatClampNeg) (own_move Lxg [(0 : Int32), (0 : Int32), (0 : Int32), (0 : Int32), (0 : Int32), (0 : Int32), (0 : Int32), (0 : Int32)] ((0 : Int32)).toNatClampNeg ((0 : Int32)).toNatClampNeg ((F1 N ((F7 (2147483639 : Int64) (F6 ((w.toInt64) + (((2 : Int32) * (Lxr.getD (p1).toNatClampNeg 0)).toInt64)) ((2 : Int64) * (N.toInt64)))).toInt32))).toNatClampNeg) ((Lxt.getD (p1).toNatClampNeg 0)).toNatClampNeg (w).toNatClampNeg ((Lxc.getD (p1).toNatClampNeg 0)).toNatClampNeg).set ((((Lxt.set (p1).toNatClampNeg w).getD (p1).toNatClampNeg 0) + p2)).toNatClampNeg p4).map Value.int) (.int (0 : Int32)) := by rw [List.map_set]; exact Arv.set Ar49 q49 S49 M49 H49 G49 rfl W49 _ rfl (by rw [List.length_map]; exact (own_atl hmk.2.2 hcy.2.2.2 hat.2))
  have f51 := f35.wr W49
  have f52 := f36.other W49 (Or.inl ne_0_2_12)
  have f53 := f37.other W49 (Or.inl ne_0_2_12)
  have f54 := f38.other W49 (Or.inl ne_0_2_12)
  have f55 := f39.other W49 (Or.inl ne_0_2_12)
  have f56 := f40.other W49 (Or.inl ne_0_2_12)
  have f57 := f41.other W49 (Or.inl ne_0_2_12)
  have f58 := f42.other W49 (Or.inl ne_0_2_12)
  have f59 := f34.other W49 ne_1_2_12
  have f60 := f44.other W49 (Ne.symm ne_2_3_12)
  have f61 := f45.other W49 (Ne.symm ne_2_4_12)
  have f62 := f46.other W49 (Ne.symm ne_2_5_12)
  have f63 := f47.other W49 (Ne.symm ne_2_6_12)
  have N49 := Fr.snoc X49 N33 g_bg11
  have Zz49 := Nat.le_trans Zz33 (Nat.le_of_eq (Wr.size W49).symm)
  refine Go.of st49 ?_
  show Go p e below s _ _ _ (T49.setTop (mkF m 75 #[.val (.ref a0), .val (.int p1), .val (.int p2), .val (.int p3), .val (.int p4), .val (.int p5), .val (.int (((Lxt.set (p1).toNatClampNeg w).getD (p1).toNatClampNeg 0) + p2))] []))
  refine Go.of (fun t k => XS.aloadN X49.here hx rfl (hb hby d10_75) rfl rfl k) ?_
  show Go p e below s _ _ _ (T49.setTop (mkF m 76 #[.val (.ref a0), .val (.int p1), .val (.int p2), .val (.int p3), .val (.int p4), .val (.int p5), .val (.int (((Lxt.set (p1).toNatClampNeg w).getD (p1).toNatClampNeg 0) + p2))] [(.ref a0)]))
  obtain ⟨T64, X64, e64, st64⟩ := getF X49 hx hZ hown (host := "") (Or.inl (hw _ (List.mem_of_getElem? (i := 18) rfl))) Via.refl e49 f54 (g := (mkF m 76 #[.val (.ref a0), .val (.int p1), .val (.int p2), .val (.int p3), .val (.int p4), .val (.int p5), .val (.int (((Lxt.set (p1).toNatClampNeg w).getD (p1).toNatClampNeg 0) + p2))] [(.ref a0)])) rfl rfl (hb hby d10_76)
  refine Go.of st64 ?_
  show Go p e below s _ _ _ (T64.setTop (mkF m 79 #[.val (.ref a0), .val (.int p1), .val (.int p2), .val (.int p3), .val (.int p4), .val (.int p5), .val (.int (((Lxt.set (p1).toNatClampNeg w).getD (p1).toNatClampNeg 0) + p2))] [(.ref bd11)]))
  refine Go.of (fun t k => XS.iload X64.here hx rfl (hb hby d10_79) rfl k) ?_
  show Go p e below s _ _ _ (T64.setTop (mkF m 81 #[.val (.ref a0), .val (.int p1), .val (.int p2), .val (.int p3), .val (.int p4), .val (.int p5), .val (.int (((Lxt.set (p1).toNatClampNeg w).getD (p1).toNatClampNeg 0) + p2))] [(.int (((Lxt.set (p1).toNatClampNeg w).getD (p1).toNatClampNeg 0) + p2)), (.ref bd11)]))
  refine Go.of (fun t k => XS.iload X64.here hx rfl (hb hby d10_81) rfl k) ?_
  show Go p e below s _ _ _ (T64.setTop (mkF m 83 #[.val (.ref a0), .val (.int p1), .val (.int p2), .val (.int p3), .val (.int p4), .val (.int p5), .val (.int (((Lxt.set (p1).toNatClampNeg w).getD (p1).toNatClampNeg 0) + p2))] [(.int p5), (.int (((Lxt.set (p1).toNatClampNeg w).getD (p1).toNatClampNeg 0) + p2)), (.ref bd11)]))
  obtain ⟨cl65, Ar65, q65, S65, M65, H65, G65⟩ := id f60
  have hin65 : ¬ ((((Lxt.set (p1).toNatClampNeg w).getD (p1).toNatClampNeg 0) + p2) < 0 ∨ cl65.slots.size ≤ ((((Lxt.set (p1).toNatClampNeg w).getD (p1).toNatClampNeg 0) + p2)).toNatClampNeg) := (inb_of S65 hat.1)
  obtain ⟨T65, h65, X65, e65, W65, st65⟩ := stI X64 hx hZ e64 Ar65 (j := (((Lxt.set (p1).toNatClampNeg w).getD (p1).toNatClampNeg 0) + p2)) hin65 (g := (mkF m 83 #[.val (.ref a0), .val (.int p1), .val (.int p2), .val (.int p3), .val (.int p4), .val (.int p5), .val (.int (((Lxt.set (p1).toNatClampNeg w).getD (p1).toNatClampNeg 0) + p2))] [(.int p5), (.int (((Lxt.set (p1).toNatClampNeg w).getD (p1).toNatClampNeg 0) + p2)), (.ref bd11)])) rfl rfl (hb hby d10_83)
  have f66 : Arv Z h65 bd11 kd11 .int ((F7 (2147483639 : Int64) (F6 ((w.toInt64) + (((2 : Int32) * (Lxr.getD (p1).toNatClampNeg 0)).toInt64)) ((2 : Int64) * (N.toInt64)))).toInt32) (((own_move (own_move Lxd [(0 : Int32), (0 : Int32), (0 : Int32), (0 : Int32), (0 : Int32), (0 : Int32), (0 : Int32), (0 : Int32)] ((0 : Int32)).toNatClampNeg ((0 : Int32)).toNatClampNeg ((F1 N ((F7 (2147483639 : Int64) (F6 ((w.toInt64) + (((2 : Int32) * (Lxr.getD (p1).toNatClampNeg 0)).toInt64)) ((2 : Int64) * (N.toInt64)))).toInt32))).toNatClampNeg) (own_move Lxd [(0 : Int32), (0 : Int32), (0 : Int32), (0 : Int32), (0 : Int32), (0 : Int32), (0 : Int32), (0 : Int32)] ((0 : Int32)).toNatClampNeg ((0 : Int32)).toNatClampNeg ((F1 N ((F7 (2147483639 : Int64) (F6 ((w.toInt64) + (((2 : Int32) * (Lxr.getD (p1).toNatClampNeg 0)).toInt64)) ((2 : Int64) * (N.toInt64)))).toInt32))).toNatClampNeg) ((Lxt.getD (p1).toNatClampNeg 0)).toNatClampNeg (w).toNatClampNeg ((Lxc.getD (p1).toNatClampNeg 0)).toNatClampNeg).set ((((Lxt.set (p1).toNatClampNeg w).getD (p1).toNatClampNeg 0) + p2)).toNatClampNeg p5).map Value.int) (.int (0 : Int32)) := by rw [List.map_set]; exact Arv.set Ar65 q65 S65 M65 H65 G65 rfl W65 _ rfl (by rw [List.length_map]; exact (own_atl hmk.2.2 hcy.2.2.2 hat.2))
  have f67 := f51.wr W65
  have f68 := f52.other W65 (Or.inl ne_0_3_12)
  have f69 := f53.other W65 (Or.inl ne_0_3_12)
  have f70 := f54.other W65 (Or.inl ne_0_3_12)
  have f71 := f55.other W65 (Or.inl ne_0_3_12)
  have f72 := f56.other W65 (Or.inl ne_0_3_12)
  have f73 := f57.other W65 (Or.inl ne_0_3_12)
  have f74 := f58.other W65 (Or.inl ne_0_3_12)
  have f75 := f59.other W65 ne_1_3_12
  have f76 := f50.other W65 ne_2_3_12
  have f77 := f61.other W65 (Ne.symm ne_3_4_12)
  have f78 := f62.other W65 (Ne.symm ne_3_5_12)
  have f79 := f63.other W65 (Ne.symm ne_3_6_12)
  have N65 := Fr.snoc X65 N49 g_bd11
  have Zz65 := Nat.le_trans Zz49 (Nat.le_of_eq (Wr.size W65).symm)
  refine Go.of st65 ?_
  show Go p e below s _ _ _ (T65.setTop (mkF m 84 #[.val (.ref a0), .val (.int p1), .val (.int p2), .val (.int p3), .val (.int p4), .val (.int p5), .val (.int (((Lxt.set (p1).toNatClampNeg w).getD (p1).toNatClampNeg 0) + p2))] []))
  exact Go.ret X65 none (fun _ => rfl) hlk (by rw [e65]; exact ⟨rfl, N65, bu11, bg11, bd11, ku11, kg11, kd11, ⟨f67, f68, f69, f70, f71, f72, f73, f74, f75, f76, f66, f77, f78, f79, g_a0, g_bu11, g_bg11, g_bd11, g_xt, g_xr, g_xc, Zz65, ne_0_1_12, ne_0_2_12, ne_0_3_12, ne_0_4_12, ne_0_5_12, ne_0_6_12, ne_1_2_12, ne_1_3_12, ne_1_4_12, ne_1_5_12, ne_1_6_12, ne_2_3_12, ne_2_4_12, ne_2_5_12, ne_2_6_12, ne_3_4_12, ne_3_5_12, ne_3_6_12, ne_4_5_12, ne_4_6_12, ne_5_6_12⟩⟩) (by decide) (by decide) (fun fs hr => (X65.returnOut hx Bd.returns (hb hby d10_84) hr))
theorem ef_10B (m : MethodId) (a0 : Addr) (p1 : Int32) (p2 : Int32) (p3 : Int32) (p4 : Int32) (p5 : Int32) : entryFrame m #[(.ref a0), (.int p1), (.int p2), (.int p3), (.int p4), (.int p5)] 7 = mkF m 0 #[.val (.ref a0), .val (.int p1), .val (.int p2), .val (.int p3), .val (.int p4), .val (.int p5), .unset] [] := by first | (simp [entryFrame, mkF, argsToLocals, Value.category]; done) | rfl
def Q10B (Z : State) (a0 : Addr) (p1 : Int32) (p2 : Int32) (p3 : Int32) (p4 : Int32) (p5 : Int32) (xu xg xd xt xr xc : Addr) (kxu kxg kxd kxt kxr kxc : ClassId) (N : Int32) (Lxu Lxg Lxd Lxt Lxr Lxc : List Int32) (w : Int32) (h0 : Heap) (n0 : Nat) (v : Option Value) (h : Heap) (Lo : List Loc) : Prop := v = none ∧ Fr n0 Lo ∧ ∃ (u' g' d' : Addr) (ku' kg' kd' : ClassId), own_K Z h n0 a0 u' g' d' xt xr xc ku' kg' kd' kxt kxr kxc N (Lxu.set (((Lxt.getD (p1).toNatClampNeg 0) + p2)).toNatClampNeg p3) (Lxg.set (((Lxt.getD (p1).toNatClampNeg 0) + p2)).toNatClampNeg p4) (Lxd.set (((Lxt.getD (p1).toNatClampNeg 0) + p2)).toNatClampNeg p5) Lxt Lxr (Lxc.set (p1).toNatClampNeg ((Lxc.getD (p1).toNatClampNeg 0) + (1 : Int32))) w
set_option maxRecDepth 65536 in
set_option maxHeartbeats 40000000 in
theorem rm10B (l : Launch) (Z : State) (az : Array Value) (hw : ∀ d ∈ tables_1, d.before az Z = true) (ws : List Jvm.Cond) (a0 : Addr) (p1 : Int32) (p2 : Int32) (p3 : Int32) (p4 : Int32) (p5 : Int32) (xu xg xd xt xr xc : Addr) (kxu kxg kxd kxt kxr kxc : ClassId) (N : Int32) (Lxu Lxg Lxd Lxt Lxr Lxc : List Int32) (w : Int32) (h0 : Heap) (n0 : Nat) (Z0 : n0 ≤ h0.size) (hKU : own_K Z h0 n0 a0 xu xg xd xt xr xc kxu kxg kxd kxt kxr kxc N Lxu Lxg Lxd Lxt Lxr Lxc w) (hmem : ¬ (p1 < 0) ∧ p1 < (2 : Int32)) (hl3 : p1.toNatClampNeg < Lxt.length ∧ p1.toNatClampNeg < Lxr.length ∧ p1.toNatClampNeg < Lxc.length) (hix : p2 = (Lxc.getD (p1).toNatClampNeg 0)) (hne : ¬ ((Lxc.getD (p1).toNatClampNeg 0) = (Lxr.getD (p1).toNatClampNeg 0))) (hat : (¬ (((Lxt.getD (p1).toNatClampNeg 0) + p2) < 0) ∧ ((Lxt.getD (p1).toNatClampNeg 0) + p2) < N) ∧ ((Lxt.getD (p1).toNatClampNeg 0) + p2).toNatClampNeg < 8) (hl8 : Lxu.length = 8 ∧ Lxg.length = 8 ∧ Lxd.length = 8) :
    MetFree l (⟨"com/example/susurrus/susurrus/KnownUnits", "keep", "(IIIII)V"⟩ : MethodName) (head1 (Jvm.Cond.code (⟨"com/example/susurrus/susurrus/KnownUnits", "keep", "(IIIII)V"⟩ : MethodName) prog_34_method_9_code 7 none :: ws) ({ frames := 0, cells := 0, slots := 0, locals := 0 } : Room)) (fun a U => a = #[(.ref a0), (.int p1), (.int p2), (.int p3), (.int p4), (.int p5)] ∧ Z.Warmed39 U.vm ∧ U.heap = h0) (fun _ _ _ _ _ => True) (fun _ U o U' => ∃ v L, o = .returned v ∧ (Q10B Z a0 p1 p2 p3 p4 p5 xu xg xd xt xr xc kxu kxg kxd kxt kxr kxc N Lxu Lxg Lxd Lxt Lxr Lxc w h0 n0) v U'.heap L ∧ FrameEnd U o U' L ({ frames := 0, cells := 0, slots := 0, locals := 0 } : Room).cells ({ frames := 0, cells := 0, slots := 0, locals := 0 } : Room).slots) := by
  refine MetFree.of_bodySF (plainFor_of_name own_pn1) hisR ?_
  intro p e s m args below meth c s₁ Bd hml0 hP hK
  obtain ⟨rfl, hZ, hh⟩ := hP
  have hx := Bd.exec
  have hby := Bd.bytes
  have hml : c.maxLocals = 7 := hml0
  have hown : s.vm.findClass "com/example/susurrus/susurrus/KnownUnits" = some m.cls := findClass_of_methodNamed Bd.named
  have hnm := (name_of_methodNamed Bd.named Bd.method).1
  have hlk : meth.locks = false := BodyLoose.notSynchronized Bd
  have X0 : Stand p l e ({ frames := 0, cells := 0, slots := 0, locals := 0 } : Room) s m #[(.ref a0), (.int p1), (.int p2), (.int p3), (.int p4), (.int p5)] below meth c s₁ [] 0 0 := Stand.of_body Bd
  have e0 : s₁.heap = h0 := by rw [← hh, Bd.state]; rfl
  have N0 := Fr.nil n0
  obtain ⟨E_1, Ff0_1, Ff1_1, Ff2_1, Ff3_1, Ff4_1, Ff5_1, Ff6_1, Vv0_1, Vv1_1, Vv2_1, Vv3_1, Vv4_1, Vv5_1, g_a0, g_xu, g_xg, g_xd, g_xt, g_xr, g_xc, Zk1, ne_0_1_1, ne_0_2_1, ne_0_3_1, ne_0_4_1, ne_0_5_1, ne_0_6_1, ne_1_2_1, ne_1_3_1, ne_1_4_1, ne_1_5_1, ne_1_6_1, ne_2_3_1, ne_2_4_1, ne_2_5_1, ne_2_6_1, ne_3_4_1, ne_3_5_1, ne_3_6_1, ne_4_5_1, ne_4_6_1, ne_5_6_1⟩ := id hKU
  show Go p e below s (Q10B Z a0 p1 p2 p3 p4 p5 xu xg xd xt xr xc kxu kxg kxd kxt kxr kxc N Lxu Lxg Lxd Lxt Lxr Lxc w h0 n0) ({ frames := 0, cells := 0, slots := 0, locals := 0 } : Room).cells ({ frames := 0, cells := 0, slots := 0, locals := 0 } : Room).slots (s₁.setTop (entryFrame m #[(.ref a0), (.int p1), (.int p2), (.int p3), (.int p4), (.int p5)] 7))
  refine Go.of (fun t k => castTop (ef_10B m a0 p1 p2 p3 p4 p5) k) ?_
  show Go p e below s _ _ _ (s₁.setTop (mkF m 0 #[.val (.ref a0), .val (.int p1), .val (.int p2), .val (.int p3), .val (.int p4), .val (.int p5), .unset] []))
  refine Go.of (fun t k => XS.iloadN X0.here hx rfl (hb hby d10_0) rfl k) ?_
  show Go p e below s _ _ _ (s₁.setTop (mkF m 1 #[.val (.ref a0), .val (.int p1), .val (.int p2), .val (.int p3), .val (.int p4), .val (.int p5), .unset] [(.int p2)]))
  refine Go.of (fun t k => XS.aloadN X0.here hx rfl (hb hby d10_1) rfl rfl k) ?_
  show Go p e below s _ _ _ (s₁.setTop (mkF m 2 #[.val (.ref a0), .val (.int p1), .val (.int p2), .val (.int p3), .val (.int p4), .val (.int p5), .unset] [(.ref a0), (.int p2)]))
  obtain ⟨T2, X2, e2, st2⟩ := getF X0 hx hZ hown (host := "") (Or.inl (hw _ (List.mem_of_getElem? (i := 24) rfl))) Via.refl e0 Ff5_1 (g := (mkF m 2 #[.val (.ref a0), .val (.int p1), .val (.int p2), .val (.int p3), .val (.int p4), .val (.int p5), .unset] [(.ref a0), (.int p2)])) rfl rfl (hb hby d10_2)
  refine Go.of st2 ?_
  show Go p e below s _ _ _ (T2.setTop (mkF m 5 #[.val (.ref a0), .val (.int p1), .val (.int p2), .val (.int p3), .val (.int p4), .val (.int p5), .unset] [(.ref xc), (.int p2)]))
  refine Go.of (fun t k => XS.iloadN X2.here hx rfl (hb hby d10_5) rfl k) ?_
  show Go p e below s _ _ _ (T2.setTop (mkF m 6 #[.val (.ref a0), .val (.int p1), .val (.int p2), .val (.int p3), .val (.int p4), .val (.int p5), .unset] [(.int p1), (.ref xc), (.int p2)]))
  obtain ⟨cl3, Ar3, q3, S3, M3, H3, G3⟩ := id Vv5_1
  have hin3 : ¬ (p1 < 0 ∨ cl3.slots.size ≤ (p1).toNatClampNeg) := (inb_of S3 hmem)
  refine Go.of (X2.iaload hx (j := p1) (v := (.int (Lxc.getD (p1).toNatClampNeg 0))) (by rw [e2]; exact Ar3.1) (State.isArrayOf_alike hZ.alike Ar3.2.1) Ar3.2.2 hin3 (Has.at H3 hin3 (own_getDI Lxc _)) (g := (mkF m 6 #[.val (.ref a0), .val (.int p1), .val (.int p2), .val (.int p3), .val (.int p4), .val (.int p5), .unset] [(.int p1), (.ref xc), (.int p2)])) rfl rfl (hb hby d10_6)) ?_
  show Go p e below s _ _ _ (T2.setTop (mkF m 7 #[.val (.ref a0), .val (.int p1), .val (.int p2), .val (.int p3), .val (.int p4), .val (.int p5), .unset] [(.int (Lxc.getD (p1).toNatClampNeg 0)), (.int p2)]))
  refine Go.of (fun t k => XS.icmpNo X2.here hx rfl (hb hby d10_7) rfl (teq hix).2 k) ?_
  show Go p e below s _ _ _ (T2.setTop (mkF m 10 #[.val (.ref a0), .val (.int p1), .val (.int p2), .val (.int p3), .val (.int p4), .val (.int p5), .unset] []))
  refine Go.of (fun t k => XS.aloadN X2.here hx rfl (hb hby d10_10) rfl rfl k) ?_
  show Go p e below s _ _ _ (T2.setTop (mkF m 11 #[.val (.ref a0), .val (.int p1), .val (.int p2), .val (.int p3), .val (.int p4), .val (.int p5), .unset] [(.ref a0)]))
  obtain ⟨T4, X4, e4, st4⟩ := getF X2 hx hZ hown (host := "") (Or.inl (hw _ (List.mem_of_getElem? (i := 24) rfl))) Via.refl e2 Ff5_1 (g := (mkF m 11 #[.val (.ref a0), .val (.int p1), .val (.int p2), .val (.int p3), .val (.int p4), .val (.int p5), .unset] [(.ref a0)])) rfl rfl (hb hby d10_11)
  refine Go.of st4 ?_
  show Go p e below s _ _ _ (T4.setTop (mkF m 14 #[.val (.ref a0), .val (.int p1), .val (.int p2), .val (.int p3), .val (.int p4), .val (.int p5), .unset] [(.ref xc)]))
  refine Go.of (fun t k => XS.iloadN X4.here hx rfl (hb hby d10_14) rfl k) ?_
  show Go p e below s _ _ _ (T4.setTop (mkF m 15 #[.val (.ref a0), .val (.int p1), .val (.int p2), .val (.int p3), .val (.int p4), .val (.int p5), .unset] [(.int p1), (.ref xc)]))
  obtain ⟨cl5, Ar5, q5, S5, M5, H5, G5⟩ := id Vv5_1
  have hin5 : ¬ (p1 < 0 ∨ cl5.slots.size ≤ (p1).toNatClampNeg) := (inb_of S5 hmem)
  refine Go.of (X4.iaload hx (j := p1) (v := (.int (Lxc.getD (p1).toNatClampNeg 0))) (by rw [e4]; exact Ar5.1) (State.isArrayOf_alike hZ.alike Ar5.2.1) Ar5.2.2 hin5 (Has.at H5 hin5 (own_getDI Lxc _)) (g := (mkF m 15 #[.val (.ref a0), .val (.int p1), .val (.int p2), .val (.int p3), .val (.int p4), .val (.int p5), .unset] [(.int p1), (.ref xc)])) rfl rfl (hb hby d10_15)) ?_
  show Go p e below s _ _ _ (T4.setTop (mkF m 16 #[.val (.ref a0), .val (.int p1), .val (.int p2), .val (.int p3), .val (.int p4), .val (.int p5), .unset] [(.int (Lxc.getD (p1).toNatClampNeg 0))]))
  refine Go.of (fun t k => XS.aloadN X4.here hx rfl (hb hby d10_16) rfl rfl k) ?_
  show Go p e below s _ _ _ (T4.setTop (mkF m 17 #[.val (.ref a0), .val (.int p1), .val (.int p2), .val (.int p3), .val (.int p4), .val (.int p5), .unset] [(.ref a0), (.int (Lxc.getD (p1).toNatClampNeg 0))]))
  obtain ⟨T6, X6, e6, st6⟩ := getF X4 hx hZ hown (host := "") (Or.inl (hw _ (List.mem_of_getElem? (i := 22) rfl))) Via.refl e4 Ff4_1 (g := (mkF m 17 #[.val (.ref a0), .val (.int p1), .val (.int p2), .val (.int p3), .val (.int p4), .val (.int p5), .unset] [(.ref a0), (.int (Lxc.getD (p1).toNatClampNeg 0))])) rfl rfl (hb hby d10_17)
  refine Go.of st6 ?_
  show Go p e below s _ _ _ (T6.setTop (mkF m 20 #[.val (.ref a0), .val (.int p1), .val (.int p2), .val (.int p3), .val (.int p4), .val (.int p5), .unset] [(.ref xr), (.int (Lxc.getD (p1).toNatClampNeg 0))]))
  refine Go.of (fun t k => XS.iloadN X6.here hx rfl (hb hby d10_20) rfl k) ?_
  show Go p e below s _ _ _ (T6.setTop (mkF m 21 #[.val (.ref a0), .val (.int p1), .val (.int p2), .val (.int p3), .val (.int p4), .val (.int p5), .unset] [(.int p1), (.ref xr), (.int (Lxc.getD (p1).toNatClampNeg 0))]))
  obtain ⟨cl7, Ar7, q7, S7, M7, H7, G7⟩ := id Vv4_1
  have hin7 : ¬ (p1 < 0 ∨ cl7.slots.size ≤ (p1).toNatClampNeg) := (inb_of S7 hmem)
  refine Go.of (X6.iaload hx (j := p1) (v := (.int (Lxr.getD (p1).toNatClampNeg 0))) (by rw [e6]; exact Ar7.1) (State.isArrayOf_alike hZ.alike Ar7.2.1) Ar7.2.2 hin7 (Has.at H7 hin7 (own_getDI Lxr _)) (g := (mkF m 21 #[.val (.ref a0), .val (.int p1), .val (.int p2), .val (.int p3), .val (.int p4), .val (.int p5), .unset] [(.int p1), (.ref xr), (.int (Lxc.getD (p1).toNatClampNeg 0))])) rfl rfl (hb hby d10_21)) ?_
  show Go p e below s _ _ _ (T6.setTop (mkF m 22 #[.val (.ref a0), .val (.int p1), .val (.int p2), .val (.int p3), .val (.int p4), .val (.int p5), .unset] [(.int (Lxr.getD (p1).toNatClampNeg 0)), (.int (Lxc.getD (p1).toNatClampNeg 0))]))
  refine Go.of (fun t k => XS.icmpYes X6.here hx rfl (pc0 := 22) (pc' := 38) rfl (hb hby d10_22) rfl (feq hne).2 (by decide) (by decide) k) ?_
  show Go p e below s _ _ _ (T6.setTop (mkF m 38 #[.val (.ref a0), .val (.int p1), .val (.int p2), .val (.int p3), .val (.int p4), .val (.int p5), .unset] []))
  refine Go.of (fun t k => XS.aloadN X6.here hx rfl (hb hby d10_38) rfl rfl k) ?_
  show Go p e below s _ _ _ (T6.setTop (mkF m 39 #[.val (.ref a0), .val (.int p1), .val (.int p2), .val (.int p3), .val (.int p4), .val (.int p5), .unset] [(.ref a0)]))
  obtain ⟨T8, X8, e8, st8⟩ := getF X6 hx hZ hown (host := "") (Or.inl (hw _ (List.mem_of_getElem? (i := 24) rfl))) Via.refl e6 Ff5_1 (g := (mkF m 39 #[.val (.ref a0), .val (.int p1), .val (.int p2), .val (.int p3), .val (.int p4), .val (.int p5), .unset] [(.ref a0)])) rfl rfl (hb hby d10_39)
  refine Go.of st8 ?_
  show Go p e below s _ _ _ (T8.setTop (mkF m 42 #[.val (.ref a0), .val (.int p1), .val (.int p2), .val (.int p3), .val (.int p4), .val (.int p5), .unset] [(.ref xc)]))
  refine Go.of (fun t k => XS.iloadN X8.here hx rfl (hb hby d10_42) rfl k) ?_
  show Go p e below s _ _ _ (T8.setTop (mkF m 43 #[.val (.ref a0), .val (.int p1), .val (.int p2), .val (.int p3), .val (.int p4), .val (.int p5), .unset] [(.int p1), (.ref xc)]))
  refine Go.of (fun t k => Jvm.Free.XT.dup2 X8.here hx rfl (hb hby d10_43) rfl rfl rfl k) ?_
  show Go p e below s _ _ _ (T8.setTop (mkF m 44 #[.val (.ref a0), .val (.int p1), .val (.int p2), .val (.int p3), .val (.int p4), .val (.int p5), .unset] [(.int p1), (.ref xc), (.int p1), (.ref xc)]))
  obtain ⟨cl9, Ar9, q9, S9, M9, H9, G9⟩ := id Vv5_1
  have hin9 : ¬ (p1 < 0 ∨ cl9.slots.size ≤ (p1).toNatClampNeg) := (inb_of S9 hmem)
  refine Go.of (X8.iaload hx (j := p1) (v := (.int (Lxc.getD (p1).toNatClampNeg 0))) (by rw [e8]; exact Ar9.1) (State.isArrayOf_alike hZ.alike Ar9.2.1) Ar9.2.2 hin9 (Has.at H9 hin9 (own_getDI Lxc _)) (g := (mkF m 44 #[.val (.ref a0), .val (.int p1), .val (.int p2), .val (.int p3), .val (.int p4), .val (.int p5), .unset] [(.int p1), (.ref xc), (.int p1), (.ref xc)])) rfl rfl (hb hby d10_44)) ?_
  show Go p e below s _ _ _ (T8.setTop (mkF m 45 #[.val (.ref a0), .val (.int p1), .val (.int p2), .val (.int p3), .val (.int p4), .val (.int p5), .unset] [(.int (Lxc.getD (p1).toNatClampNeg 0)), (.int p1), (.ref xc)]))
  refine Go.of (fun t k => XS.iconst X8.here hx rfl (hb hby d10_45) k) ?_
  show Go p e below s _ _ _ (T8.setTop (mkF m 46 #[.val (.ref a0), .val (.int p1), .val (.int p2), .val (.int p3), .val (.int p4), .val (.int p5), .unset] [(.int (1 : Int32)), (.int (Lxc.getD (p1).toNatClampNeg 0)), (.int p1), (.ref xc)]))
  refine Go.of (fun t k => XS.iadd X8.here hx rfl (hb hby d10_46) rfl k) ?_
  show Go p e below s _ _ _ (T8.setTop (mkF m 47 #[.val (.ref a0), .val (.int p1), .val (.int p2), .val (.int p3), .val (.int p4), .val (.int p5), .unset] [(.int ((Lxc.getD (p1).toNatClampNeg 0) + (1 : Int32))), (.int p1), (.ref xc)]))
  obtain ⟨cl10, Ar10, q10, S10, M10, H10, G10⟩ := id Vv5_1
  have hin10 : ¬ (p1 < 0 ∨ cl10.slots.size ≤ (p1).toNatClampNeg) := (inb_of S10 hmem)
  obtain ⟨T10, h10, X10, e10, W10, st10⟩ := stI X8 hx hZ e8 Ar10 (j := p1) hin10 (g := (mkF m 47 #[.val (.ref a0), .val (.int p1), .val (.int p2), .val (.int p3), .val (.int p4), .val (.int p5), .unset] [(.int ((Lxc.getD (p1).toNatClampNeg 0) + (1 : Int32))), (.int p1), (.ref xc)])) rfl rfl (hb hby d10_47)
  have f11 : Arv Z h10 xc kxc .int (2 : Int32) ((Lxc.set (p1).toNatClampNeg ((Lxc.getD (p1).toNatClampNeg 0) + (1 : Int32))).map Value.int) (.int (0 : Int32)) := by rw [List.map_set]; exact Arv.set Ar10 q10 S10 M10 H10 G10 rfl W10 _ rfl (by rw [List.length_map]; exact hl3.2.2)
  have f12 := E_1.wr W10
  have f13 := Ff0_1.other W10 (Or.inl ne_0_6_1)
  have f14 := Ff1_1.other W10 (Or.inl ne_0_6_1)
  have f15 := Ff2_1.other W10 (Or.inl ne_0_6_1)
  have f16 := Ff3_1.other W10 (Or.inl ne_0_6_1)
  have f17 := Ff4_1.other W10 (Or.inl ne_0_6_1)
  have f18 := Ff5_1.other W10 (Or.inl ne_0_6_1)
  have f19 := Ff6_1.other W10 (Or.inl ne_0_6_1)
  have f20 := Vv0_1.other W10 ne_1_6_1
  have f21 := Vv1_1.other W10 ne_2_6_1
  have f22 := Vv2_1.other W10 ne_3_6_1
  have f23 := Vv3_1.other W10 ne_4_6_1
  have f24 := Vv4_1.other W10 ne_5_6_1
  have N10 := Fr.snoc X10 N0 g_xc
  have Zz10 := Nat.le_trans Zk1 (Nat.le_of_eq (Wr.size W10).symm)
  refine Go.of st10 ?_
  show Go p e below s _ _ _ (T10.setTop (mkF m 48 #[.val (.ref a0), .val (.int p1), .val (.int p2), .val (.int p3), .val (.int p4), .val (.int p5), .unset] []))
  refine Go.of (fun t k => XS.aloadN X10.here hx rfl (hb hby d10_48) rfl rfl k) ?_
  show Go p e below s _ _ _ (T10.setTop (mkF m 49 #[.val (.ref a0), .val (.int p1), .val (.int p2), .val (.int p3), .val (.int p4), .val (.int p5), .unset] [(.ref a0)]))
  obtain ⟨T25, X25, e25, st25⟩ := getF X10 hx hZ hown (host := "") (Or.inl (hw _ (List.mem_of_getElem? (i := 20) rfl))) Via.refl e10 f16 (g := (mkF m 49 #[.val (.ref a0), .val (.int p1), .val (.int p2), .val (.int p3), .val (.int p4), .val (.int p5), .unset] [(.ref a0)])) rfl rfl (hb hby d10_49)
  refine Go.of st25 ?_
  show Go p e below s _ _ _ (T25.setTop (mkF m 52 #[.val (.ref a0), .val (.int p1), .val (.int p2), .val (.int p3), .val (.int p4), .val (.int p5), .unset] [(.ref xt)]))
  refine Go.of (fun t k => XS.iloadN X25.here hx rfl (hb hby d10_52) rfl k) ?_
  show Go p e below s _ _ _ (T25.setTop (mkF m 53 #[.val (.ref a0), .val (.int p1), .val (.int p2), .val (.int p3), .val (.int p4), .val (.int p5), .unset] [(.int p1), (.ref xt)]))
  obtain ⟨cl26, Ar26, q26, S26, M26, H26, G26⟩ := id f23
  have hin26 : ¬ (p1 < 0 ∨ cl26.slots.size ≤ (p1).toNatClampNeg) := (inb_of S26 hmem)
  refine Go.of (X25.iaload hx (j := p1) (v := (.int (Lxt.getD (p1).toNatClampNeg 0))) (by rw [e25]; exact Ar26.1) (State.isArrayOf_alike hZ.alike Ar26.2.1) Ar26.2.2 hin26 (Has.at H26 hin26 (own_getDI Lxt _)) (g := (mkF m 53 #[.val (.ref a0), .val (.int p1), .val (.int p2), .val (.int p3), .val (.int p4), .val (.int p5), .unset] [(.int p1), (.ref xt)])) rfl rfl (hb hby d10_53)) ?_
  show Go p e below s _ _ _ (T25.setTop (mkF m 54 #[.val (.ref a0), .val (.int p1), .val (.int p2), .val (.int p3), .val (.int p4), .val (.int p5), .unset] [(.int (Lxt.getD (p1).toNatClampNeg 0))]))
  refine Go.of (fun t k => XS.iloadN X25.here hx rfl (hb hby d10_54) rfl k) ?_
  show Go p e below s _ _ _ (T25.setTop (mkF m 55 #[.val (.ref a0), .val (.int p1), .val (.int p2), .val (.int p3), .val (.int p4), .val (.int p5), .unset] [(.int p2), (.int (Lxt.getD (p1).toNatClampNeg 0))]))
  refine Go.of (fun t k => XS.iadd X25.here hx rfl (hb hby d10_55) rfl k) ?_
  show Go p e below s _ _ _ (T25.setTop (mkF m 56 #[.val (.ref a0), .val (.int p1), .val (.int p2), .val (.int p3), .val (.int p4), .val (.int p5), .unset] [(.int ((Lxt.getD (p1).toNatClampNeg 0) + p2))]))
  refine Go.of (fun t k => XS.istore X25.here hx rfl (hb hby d10_56) rfl (l' := #[.val (.ref a0), .val (.int p1), .val (.int p2), .val (.int p3), .val (.int p4), .val (.int p5), .val (.int ((Lxt.getD (p1).toNatClampNeg 0) + p2))]) rfl k) ?_
  show Go p e below s _ _ _ (T25.setTop (mkF m 58 #[.val (.ref a0), .val (.int p1), .val (.int p2), .val (.int p3), .val (.int p4), .val (.int p5), .val (.int ((Lxt.getD (p1).toNatClampNeg 0) + p2))] []))
  refine Go.of (fun t k => XS.aloadN X25.here hx rfl (hb hby d10_58) rfl rfl k) ?_
  show Go p e below s _ _ _ (T25.setTop (mkF m 59 #[.val (.ref a0), .val (.int p1), .val (.int p2), .val (.int p3), .val (.int p4), .val (.int p5), .val (.int ((Lxt.getD (p1).toNatClampNeg 0) + p2))] [(.ref a0)]))
  obtain ⟨T27, X27, e27, st27⟩ := getF X25 hx hZ hown (host := "") (Or.inl (hw _ (List.mem_of_getElem? (i := 14) rfl))) Via.refl e25 f13 (g := (mkF m 59 #[.val (.ref a0), .val (.int p1), .val (.int p2), .val (.int p3), .val (.int p4), .val (.int p5), .val (.int ((Lxt.getD (p1).toNatClampNeg 0) + p2))] [(.ref a0)])) rfl rfl (hb hby d10_59)
  refine Go.of st27 ?_
  show Go p e below s _ _ _ (T27.setTop (mkF m 62 #[.val (.ref a0), .val (.int p1), .val (.int p2), .val (.int p3), .val (.int p4), .val (.int p5), .val (.int ((Lxt.getD (p1).toNatClampNeg 0) + p2))] [(.ref xu)]))
  refine Go.of (fun t k => XS.iload X27.here hx rfl (hb hby d10_62) rfl k) ?_
  show Go p e below s _ _ _ (T27.setTop (mkF m 64 #[.val (.ref a0), .val (.int p1), .val (.int p2), .val (.int p3), .val (.int p4), .val (.int p5), .val (.int ((Lxt.getD (p1).toNatClampNeg 0) + p2))] [(.int ((Lxt.getD (p1).toNatClampNeg 0) + p2)), (.ref xu)]))
  refine Go.of (fun t k => XS.iloadN X27.here hx rfl (hb hby d10_64) rfl k) ?_
  show Go p e below s _ _ _ (T27.setTop (mkF m 65 #[.val (.ref a0), .val (.int p1), .val (.int p2), .val (.int p3), .val (.int p4), .val (.int p5), .val (.int ((Lxt.getD (p1).toNatClampNeg 0) + p2))] [(.int p3), (.int ((Lxt.getD (p1).toNatClampNeg 0) + p2)), (.ref xu)]))
  obtain ⟨cl28, Ar28, q28, S28, M28, H28, G28⟩ := id f20
  have hin28 : ¬ (((Lxt.getD (p1).toNatClampNeg 0) + p2) < 0 ∨ cl28.slots.size ≤ (((Lxt.getD (p1).toNatClampNeg 0) + p2)).toNatClampNeg) := (inb_of S28 hat.1)
  obtain ⟨T28, h28, X28, e28, W28, st28⟩ := stI X27 hx hZ e27 Ar28 (j := ((Lxt.getD (p1).toNatClampNeg 0) + p2)) hin28 (g := (mkF m 65 #[.val (.ref a0), .val (.int p1), .val (.int p2), .val (.int p3), .val (.int p4), .val (.int p5), .val (.int ((Lxt.getD (p1).toNatClampNeg 0) + p2))] [(.int p3), (.int ((Lxt.getD (p1).toNatClampNeg 0) + p2)), (.ref xu)])) rfl rfl (hb hby d10_65)
  have f29 : Arv Z h28 xu kxu .int N ((Lxu.set (((Lxt.getD (p1).toNatClampNeg 0) + p2)).toNatClampNeg p3).map Value.int) (.int (0 : Int32)) := by rw [List.map_set]; exact Arv.set Ar28 q28 S28 M28 H28 G28 rfl W28 _ rfl (by rw [List.length_map]; exact (own_lt8 hl8.1 hat.2))
  have f30 := f12.wr W28
  have f31 := f13.other W28 (Or.inl ne_0_1_1)
  have f32 := f14.other W28 (Or.inl ne_0_1_1)
  have f33 := f15.other W28 (Or.inl ne_0_1_1)
  have f34 := f16.other W28 (Or.inl ne_0_1_1)
  have f35 := f17.other W28 (Or.inl ne_0_1_1)
  have f36 := f18.other W28 (Or.inl ne_0_1_1)
  have f37 := f19.other W28 (Or.inl ne_0_1_1)
  have f38 := f21.other W28 (Ne.symm ne_1_2_1)
  have f39 := f22.other W28 (Ne.symm ne_1_3_1)
  have f40 := f23.other W28 (Ne.symm ne_1_4_1)
  have f41 := f24.other W28 (Ne.symm ne_1_5_1)
  have f42 := f11.other W28 (Ne.symm ne_1_6_1)
  have N28 := Fr.snoc X28 N10 g_xu
  have Zz28 := Nat.le_trans Zz10 (Nat.le_of_eq (Wr.size W28).symm)
  refine Go.of st28 ?_
  show Go p e below s _ _ _ (T28.setTop (mkF m 66 #[.val (.ref a0), .val (.int p1), .val (.int p2), .val (.int p3), .val (.int p4), .val (.int p5), .val (.int ((Lxt.getD (p1).toNatClampNeg 0) + p2))] []))
  refine Go.of (fun t k => XS.aloadN X28.here hx rfl (hb hby d10_66) rfl rfl k) ?_
  show Go p e below s _ _ _ (T28.setTop (mkF m 67 #[.val (.ref a0), .val (.int p1), .val (.int p2), .val (.int p3), .val (.int p4), .val (.int p5), .val (.int ((Lxt.getD (p1).toNatClampNeg 0) + p2))] [(.ref a0)]))
  obtain ⟨T43, X43, e43, st43⟩ := getF X28 hx hZ hown (host := "") (Or.inl (hw _ (List.mem_of_getElem? (i := 16) rfl))) Via.refl e28 f32 (g := (mkF m 67 #[.val (.ref a0), .val (.int p1), .val (.int p2), .val (.int p3), .val (.int p4), .val (.int p5), .val (.int ((Lxt.getD (p1).toNatClampNeg 0) + p2))] [(.ref a0)])) rfl rfl (hb hby d10_67)
  refine Go.of st43 ?_
  show Go p e below s _ _ _ (T43.setTop (mkF m 70 #[.val (.ref a0), .val (.int p1), .val (.int p2), .val (.int p3), .val (.int p4), .val (.int p5), .val (.int ((Lxt.getD (p1).toNatClampNeg 0) + p2))] [(.ref xg)]))
  refine Go.of (fun t k => XS.iload X43.here hx rfl (hb hby d10_70) rfl k) ?_
  show Go p e below s _ _ _ (T43.setTop (mkF m 72 #[.val (.ref a0), .val (.int p1), .val (.int p2), .val (.int p3), .val (.int p4), .val (.int p5), .val (.int ((Lxt.getD (p1).toNatClampNeg 0) + p2))] [(.int ((Lxt.getD (p1).toNatClampNeg 0) + p2)), (.ref xg)]))
  refine Go.of (fun t k => XS.iload X43.here hx rfl (hb hby d10_72) rfl k) ?_
  show Go p e below s _ _ _ (T43.setTop (mkF m 74 #[.val (.ref a0), .val (.int p1), .val (.int p2), .val (.int p3), .val (.int p4), .val (.int p5), .val (.int ((Lxt.getD (p1).toNatClampNeg 0) + p2))] [(.int p4), (.int ((Lxt.getD (p1).toNatClampNeg 0) + p2)), (.ref xg)]))
  obtain ⟨cl44, Ar44, q44, S44, M44, H44, G44⟩ := id f38
  have hin44 : ¬ (((Lxt.getD (p1).toNatClampNeg 0) + p2) < 0 ∨ cl44.slots.size ≤ (((Lxt.getD (p1).toNatClampNeg 0) + p2)).toNatClampNeg) := (inb_of S44 hat.1)
  obtain ⟨T44, h44, X44, e44, W44, st44⟩ := stI X43 hx hZ e43 Ar44 (j := ((Lxt.getD (p1).toNatClampNeg 0) + p2)) hin44 (g := (mkF m 74 #[.val (.ref a0), .val (.int p1), .val (.int p2), .val (.int p3), .val (.int p4), .val (.int p5), .val (.int ((Lxt.getD (p1).toNatClampNeg 0) + p2))] [(.int p4), (.int ((Lxt.getD (p1).toNatClampNeg 0) + p2)), (.ref xg)])) rfl rfl (hb hby d10_74)
  have f45 : Arv Z h44 xg kxg .int N ((Lxg.set (((Lxt.getD (p1).toNatClampNeg 0) + p2)).toNatClampNeg p4).map Value.int) (.int (0 : Int32)) := by rw [List.map_set]; exact Arv.set Ar44 q44 S44 M44 H44 G44 rfl W44 _ rfl (by rw [List.length_map]; exact (own_lt8 hl8.2.1 hat.2))
  have f46 := f30.wr W44
  have f47 := f31.other W44 (Or.inl ne_0_2_1)
  have f48 := f32.other W44 (Or.inl ne_0_2_1)
  have f49 := f33.other W44 (Or.inl ne_0_2_1)
  have f50 := f34.other W44 (Or.inl ne_0_2_1)
  have f51 := f35.other W44 (Or.inl ne_0_2_1)
  have f52 := f36.other W44 (Or.inl ne_0_2_1)
  have f53 := f37.other W44 (Or.inl ne_0_2_1)
  have f54 := f29.other W44 ne_1_2_1
  have f55 := f39.other W44 (Ne.symm ne_2_3_1)
  have f56 := f40.other W44 (Ne.symm ne_2_4_1)
  have f57 := f41.other W44 (Ne.symm ne_2_5_1)
  have f58 := f42.other W44 (Ne.symm ne_2_6_1)
  have N44 := Fr.snoc X44 N28 g_xg
  have Zz44 := Nat.le_trans Zz28 (Nat.le_of_eq (Wr.size W44).symm)
  refine Go.of st44 ?_
  show Go p e below s _ _ _ (T44.setTop (mkF m 75 #[.val (.ref a0), .val (.int p1), .val (.int p2), .val (.int p3), .val (.int p4), .val (.int p5), .val (.int ((Lxt.getD (p1).toNatClampNeg 0) + p2))] []))
  refine Go.of (fun t k => XS.aloadN X44.here hx rfl (hb hby d10_75) rfl rfl k) ?_
  show Go p e below s _ _ _ (T44.setTop (mkF m 76 #[.val (.ref a0), .val (.int p1), .val (.int p2), .val (.int p3), .val (.int p4), .val (.int p5), .val (.int ((Lxt.getD (p1).toNatClampNeg 0) + p2))] [(.ref a0)]))
  obtain ⟨T59, X59, e59, st59⟩ := getF X44 hx hZ hown (host := "") (Or.inl (hw _ (List.mem_of_getElem? (i := 18) rfl))) Via.refl e44 f49 (g := (mkF m 76 #[.val (.ref a0), .val (.int p1), .val (.int p2), .val (.int p3), .val (.int p4), .val (.int p5), .val (.int ((Lxt.getD (p1).toNatClampNeg 0) + p2))] [(.ref a0)])) rfl rfl (hb hby d10_76)
  refine Go.of st59 ?_
  show Go p e below s _ _ _ (T59.setTop (mkF m 79 #[.val (.ref a0), .val (.int p1), .val (.int p2), .val (.int p3), .val (.int p4), .val (.int p5), .val (.int ((Lxt.getD (p1).toNatClampNeg 0) + p2))] [(.ref xd)]))
  refine Go.of (fun t k => XS.iload X59.here hx rfl (hb hby d10_79) rfl k) ?_
  show Go p e below s _ _ _ (T59.setTop (mkF m 81 #[.val (.ref a0), .val (.int p1), .val (.int p2), .val (.int p3), .val (.int p4), .val (.int p5), .val (.int ((Lxt.getD (p1).toNatClampNeg 0) + p2))] [(.int ((Lxt.getD (p1).toNatClampNeg 0) + p2)), (.ref xd)]))
  refine Go.of (fun t k => XS.iload X59.here hx rfl (hb hby d10_81) rfl k) ?_
  show Go p e below s _ _ _ (T59.setTop (mkF m 83 #[.val (.ref a0), .val (.int p1), .val (.int p2), .val (.int p3), .val (.int p4), .val (.int p5), .val (.int ((Lxt.getD (p1).toNatClampNeg 0) + p2))] [(.int p5), (.int ((Lxt.getD (p1).toNatClampNeg 0) + p2)), (.ref xd)]))
  obtain ⟨cl60, Ar60, q60, S60, M60, H60, G60⟩ := id f55
  have hin60 : ¬ (((Lxt.getD (p1).toNatClampNeg 0) + p2) < 0 ∨ cl60.slots.size ≤ (((Lxt.getD (p1).toNatClampNeg 0) + p2)).toNatClampNeg) := (inb_of S60 hat.1)
  obtain ⟨T60, h60, X60, e60, W60, st60⟩ := stI X59 hx hZ e59 Ar60 (j := ((Lxt.getD (p1).toNatClampNeg 0) + p2)) hin60 (g := (mkF m 83 #[.val (.ref a0), .val (.int p1), .val (.int p2), .val (.int p3), .val (.int p4), .val (.int p5), .val (.int ((Lxt.getD (p1).toNatClampNeg 0) + p2))] [(.int p5), (.int ((Lxt.getD (p1).toNatClampNeg 0) + p2)), (.ref xd)])) rfl rfl (hb hby d10_83)
  have f61 : Arv Z h60 xd kxd .int N ((Lxd.set (((Lxt.getD (p1).toNatClampNeg 0) + p2)).toNatClampNeg p5).map Value.int) (.int (0 : Int32)) := by rw [List.map_set]; exact Arv.set Ar60 q60 S60 M60 H60 G60 rfl W60 _ rfl (by rw [List.length_map]; exact (own_lt8 hl8.2.2 hat.2))
  have f62 := f46.wr W60
  have f63 := f47.other W60 (Or.inl ne_0_3_1)
  have f64 := f48.other W60 (Or.inl ne_0_3_1)
  have f65 := f49.other W60 (Or.inl ne_0_3_1)
  have f66 := f50.other W60 (Or.inl ne_0_3_1)
  have f67 := f51.other W60 (Or.inl ne_0_3_1)
  have f68 := f52.other W60 (Or.inl ne_0_3_1)
  have f69 := f53.other W60 (Or.inl ne_0_3_1)
  have f70 := f54.other W60 ne_1_3_1
  have f71 := f45.other W60 ne_2_3_1
  have f72 := f56.other W60 (Ne.symm ne_3_4_1)
  have f73 := f57.other W60 (Ne.symm ne_3_5_1)
  have f74 := f58.other W60 (Ne.symm ne_3_6_1)
  have N60 := Fr.snoc X60 N44 g_xd
  have Zz60 := Nat.le_trans Zz44 (Nat.le_of_eq (Wr.size W60).symm)
  refine Go.of st60 ?_
  show Go p e below s _ _ _ (T60.setTop (mkF m 84 #[.val (.ref a0), .val (.int p1), .val (.int p2), .val (.int p3), .val (.int p4), .val (.int p5), .val (.int ((Lxt.getD (p1).toNatClampNeg 0) + p2))] []))
  exact Go.ret X60 none (fun _ => rfl) hlk (by rw [e60]; exact ⟨rfl, N60, xu, xg, xd, kxu, kxg, kxd, ⟨f62, f63, f64, f65, f66, f67, f68, f69, f70, f71, f61, f72, f73, f74, g_a0, g_xu, g_xg, g_xd, g_xt, g_xr, g_xc, Zz60, ne_0_1_1, ne_0_2_1, ne_0_3_1, ne_0_4_1, ne_0_5_1, ne_0_6_1, ne_1_2_1, ne_1_3_1, ne_1_4_1, ne_1_5_1, ne_1_6_1, ne_2_3_1, ne_2_4_1, ne_2_5_1, ne_2_6_1, ne_3_4_1, ne_3_5_1, ne_3_6_1, ne_4_5_1, ne_4_6_1, ne_5_6_1⟩⟩) (by decide) (by decide) (fun fs hr => (X60.returnOut hx Bd.returns (hb hby d10_84) hr))
theorem d9_0 : decode prog_34_method_7_code 0 = .ok (.aload_n 0, 1) := by decide +kernel
theorem d9_1 : decode prog_34_method_7_code 1 = .ok (.getfield 19, 3) := by decide +kernel
theorem d9_4 : decode prog_34_method_7_code 4 = .ok (.iload_n 1, 1) := by decide +kernel
theorem d9_5 : decode prog_34_method_7_code 5 = .ok (.iaload, 1) := by decide +kernel
theorem d9_6 : decode prog_34_method_7_code 6 = .ok (.istore_n 3, 1) := by decide +kernel
theorem d9_7 : decode prog_34_method_7_code 7 = .ok (.iload_n 3, 1) := by decide +kernel
theorem d9_8 : decode prog_34_method_7_code 8 = .ok (.aload_n 0, 1) := by decide +kernel
theorem d9_9 : decode prog_34_method_7_code 9 = .ok (.getfield 25, 3) := by decide +kernel
theorem d9_12 : decode prog_34_method_7_code 12 = .ok (.iload_n 1, 1) := by decide +kernel
theorem d9_13 : decode prog_34_method_7_code 13 = .ok (.iaload, 1) := by decide +kernel
theorem d9_14 : decode prog_34_method_7_code 14 = .ok (.iadd, 1) := by decide +kernel
theorem d9_15 : decode prog_34_method_7_code 15 = .ok (.istore 4, 2) := by decide +kernel
theorem d9_17 : decode prog_34_method_7_code 17 = .ok (.iload_n 3, 1) := by decide +kernel
theorem d9_18 : decode prog_34_method_7_code 18 = .ok (.istore 5, 2) := by decide +kernel
theorem d9_20 : decode prog_34_method_7_code 20 = .ok (.iload 5, 2) := by decide +kernel
theorem d9_22 : decode prog_34_method_7_code 22 = .ok (.iload 4, 2) := by decide +kernel
theorem d9_24 : decode prog_34_method_7_code 24 = .ok (.if_icmp .ge 20, 3) := by decide +kernel
theorem d9_27 : decode prog_34_method_7_code 27 = .ok (.aload_n 0, 1) := by decide +kernel
theorem d9_28 : decode prog_34_method_7_code 28 = .ok (.getfield 7, 3) := by decide +kernel
theorem d9_31 : decode prog_34_method_7_code 31 = .ok (.iload 5, 2) := by decide +kernel
theorem d9_33 : decode prog_34_method_7_code 33 = .ok (.iaload, 1) := by decide +kernel
theorem d9_34 : decode prog_34_method_7_code 34 = .ok (.iload_n 2, 1) := by decide +kernel
theorem d9_35 : decode prog_34_method_7_code 35 = .ok (.if_icmp .eq 9, 3) := by decide +kernel
theorem d9_38 : decode prog_34_method_7_code 38 = .ok (.iinc 5 1, 3) := by decide +kernel
theorem d9_41 : decode prog_34_method_7_code 41 = .ok (.goto (-21), 3) := by decide +kernel
theorem d9_44 : decode prog_34_method_7_code 44 = .ok (.iload 5, 2) := by decide +kernel
theorem d9_46 : decode prog_34_method_7_code 46 = .ok (.iload_n 3, 1) := by decide +kernel
theorem d9_47 : decode prog_34_method_7_code 47 = .ok (.isub, 1) := by decide +kernel
theorem d9_48 : decode prog_34_method_7_code 48 = .ok (.ireturn, 1) := by decide +kernel
theorem ef_9 (m : MethodId) (a0 : Addr) (p1 : Int32) (p2 : Int32) : entryFrame m #[(.ref a0), (.int p1), (.int p2)] 6 = mkF m 0 #[.val (.ref a0), .val (.int p1), .val (.int p2), .unset, .unset, .unset] [] := by first | (simp [entryFrame, mkF, argsToLocals, Value.category]; done) | rfl
def F9_20 (p1 : Int32) (p2 : Int32) (Lxu : List Int32) (Lxt : List Int32) (Lxc : List Int32) : Nat → Int32 → Int32
  | 0, _ => 0
  | nn + 1, v5_20 => (if v5_20 < ((Lxt.getD (p1).toNatClampNeg 0) + (Lxc.getD (p1).toNatClampNeg 0)) then (if (Lxu.getD (v5_20).toNatClampNeg 0) = p2 then (v5_20 - (Lxt.getD (p1).toNatClampNeg 0)) else (F9_20 p1 p2 Lxu Lxt Lxc nn (v5_20 + (1 : Int32)))) else (v5_20 - (Lxt.getD (p1).toNatClampNeg 0)))
def F9 (p1 : Int32) (p2 : Int32) (Lxu : List Int32) (Lxt : List Int32) (Lxc : List Int32) : Int32 := (F9_20 p1 p2 Lxu Lxt Lxc 4 (Lxt.getD (p1).toNatClampNeg 0))
set_option maxRecDepth 65536 in
set_option maxHeartbeats 40000000 in
theorem rm9 (l : Launch) (Z : State) (az : Array Value) (hw : ∀ d ∈ tables_1, d.before az Z = true) (ws : List Jvm.Cond) (a0 : Addr) (p1 : Int32) (p2 : Int32) (xu xg xd xt xr xc : Addr) (kxu kxg kxd kxt kxr kxc : ClassId) (N : Int32) (Lxu Lxg Lxd Lxt Lxr Lxc : List Int32) (w : Int32) (h0 : Heap) (n0 : Nat) (Z0 : n0 ≤ h0.size) (hKU : own_K Z h0 n0 a0 xu xg xd xt xr xc kxu kxg kxd kxt kxr kxc N Lxu Lxg Lxd Lxt Lxr Lxc w) (hmem : ¬ (p1 < 0) ∧ p1 < (2 : Int32)) (hff : 0 ≤ (Lxt.getD (p1).toNatClampNeg 0).toInt ∧ (Lxt.getD (p1).toNatClampNeg 0).toInt ≤ ((Lxt.getD (p1).toNatClampNeg 0) + (Lxc.getD (p1).toNatClampNeg 0)).toInt ∧ ((Lxt.getD (p1).toNatClampNeg 0) + (Lxc.getD (p1).toNatClampNeg 0)).toInt ≤ N.toInt ∧ ((Lxt.getD (p1).toNatClampNeg 0) + (Lxc.getD (p1).toNatClampNeg 0)).toInt - (Lxt.getD (p1).toNatClampNeg 0).toInt ≤ 3) :
    MetFree l (⟨"com/example/susurrus/susurrus/KnownUnits", "find", "(II)I"⟩ : MethodName) (head1 (Jvm.Cond.code (⟨"com/example/susurrus/susurrus/KnownUnits", "find", "(II)I"⟩ : MethodName) prog_34_method_7_code 6 (some .int) :: ws) ({ frames := 0, cells := 0, slots := 0, locals := 0 } : Room)) (fun a U => a = #[(.ref a0), (.int p1), (.int p2)] ∧ Z.Warmed39 U.vm ∧ U.heap = h0) (fun _ _ _ _ _ => True) (fun _ U o U' => ∃ v L, o = .returned v ∧ (QP (some (.int (F9 p1 p2 Lxu Lxt Lxc))) h0 n0) v U'.heap L ∧ FrameEnd U o U' L ({ frames := 0, cells := 0, slots := 0, locals := 0 } : Room).cells ({ frames := 0, cells := 0, slots := 0, locals := 0 } : Room).slots) := by
  refine MetFree.of_bodySF (plainFor_of_name own_pn1) hisR ?_
  intro p e s m args below meth c s₁ Bd hml0 hP hK
  obtain ⟨rfl, hZ, hh⟩ := hP
  have hx := Bd.exec
  have hby := Bd.bytes
  have hml : c.maxLocals = 6 := hml0
  have hown : s.vm.findClass "com/example/susurrus/susurrus/KnownUnits" = some m.cls := findClass_of_methodNamed Bd.named
  have hnm := (name_of_methodNamed Bd.named Bd.method).1
  have hlk : meth.locks = false := BodyLoose.notSynchronized Bd
  have X0 : Stand p l e ({ frames := 0, cells := 0, slots := 0, locals := 0 } : Room) s m #[(.ref a0), (.int p1), (.int p2)] below meth c s₁ [] 0 0 := Stand.of_body Bd
  have e0 : s₁.heap = h0 := by rw [← hh, Bd.state]; rfl
  have N0 := Fr.nil n0
  obtain ⟨E_1, Ff0_1, Ff1_1, Ff2_1, Ff3_1, Ff4_1, Ff5_1, Ff6_1, Vv0_1, Vv1_1, Vv2_1, Vv3_1, Vv4_1, Vv5_1, g_a0, g_xu, g_xg, g_xd, g_xt, g_xr, g_xc, Zk1, ne_0_1_1, ne_0_2_1, ne_0_3_1, ne_0_4_1, ne_0_5_1, ne_0_6_1, ne_1_2_1, ne_1_3_1, ne_1_4_1, ne_1_5_1, ne_1_6_1, ne_2_3_1, ne_2_4_1, ne_2_5_1, ne_2_6_1, ne_3_4_1, ne_3_5_1, ne_3_6_1, ne_4_5_1, ne_4_6_1, ne_5_6_1⟩ := id hKU
  show Go p e below s (QP (some (.int (F9 p1 p2 Lxu Lxt Lxc))) h0 n0) ({ frames := 0, cells := 0, slots := 0, locals := 0 } : Room).cells ({ frames := 0, cells := 0, slots := 0, locals := 0 } : Room).slots (s₁.setTop (entryFrame m #[(.ref a0), (.int p1), (.int p2)] 6))
  refine Go.of (fun t k => castTop (ef_9 m a0 p1 p2) k) ?_
  show Go p e below s _ _ _ (s₁.setTop (mkF m 0 #[.val (.ref a0), .val (.int p1), .val (.int p2), .unset, .unset, .unset] []))
  unfold F9
  refine Go.of (fun t k => XS.aloadN X0.here hx rfl (hb hby d9_0) rfl rfl k) ?_
  show Go p e below s _ _ _ (s₁.setTop (mkF m 1 #[.val (.ref a0), .val (.int p1), .val (.int p2), .unset, .unset, .unset] [(.ref a0)]))
  obtain ⟨T2, X2, e2, st2⟩ := getF X0 hx hZ hown (host := "") (Or.inl (hw _ (List.mem_of_getElem? (i := 20) rfl))) Via.refl e0 Ff3_1 (g := (mkF m 1 #[.val (.ref a0), .val (.int p1), .val (.int p2), .unset, .unset, .unset] [(.ref a0)])) rfl rfl (hb hby d9_1)
  refine Go.of st2 ?_
  show Go p e below s _ _ _ (T2.setTop (mkF m 4 #[.val (.ref a0), .val (.int p1), .val (.int p2), .unset, .unset, .unset] [(.ref xt)]))
  refine Go.of (fun t k => XS.iloadN X2.here hx rfl (hb hby d9_4) rfl k) ?_
  show Go p e below s _ _ _ (T2.setTop (mkF m 5 #[.val (.ref a0), .val (.int p1), .val (.int p2), .unset, .unset, .unset] [(.int p1), (.ref xt)]))
  obtain ⟨cl3, Ar3, q3, S3, M3, H3, G3⟩ := id Vv3_1
  have hin3 : ¬ (p1 < 0 ∨ cl3.slots.size ≤ (p1).toNatClampNeg) := (inb_of S3 hmem)
  refine Go.of (X2.iaload hx (j := p1) (v := (.int (Lxt.getD (p1).toNatClampNeg 0))) (by rw [e2]; exact Ar3.1) (State.isArrayOf_alike hZ.alike Ar3.2.1) Ar3.2.2 hin3 (Has.at H3 hin3 (own_getDI Lxt _)) (g := (mkF m 5 #[.val (.ref a0), .val (.int p1), .val (.int p2), .unset, .unset, .unset] [(.int p1), (.ref xt)])) rfl rfl (hb hby d9_5)) ?_
  show Go p e below s _ _ _ (T2.setTop (mkF m 6 #[.val (.ref a0), .val (.int p1), .val (.int p2), .unset, .unset, .unset] [(.int (Lxt.getD (p1).toNatClampNeg 0))]))
  refine Go.of (fun t k => XS.istoreN X2.here hx rfl (hb hby d9_6) rfl (l' := #[.val (.ref a0), .val (.int p1), .val (.int p2), .val (.int (Lxt.getD (p1).toNatClampNeg 0)), .unset, .unset]) rfl k) ?_
  show Go p e below s _ _ _ (T2.setTop (mkF m 7 #[.val (.ref a0), .val (.int p1), .val (.int p2), .val (.int (Lxt.getD (p1).toNatClampNeg 0)), .unset, .unset] []))
  refine Go.of (fun t k => XS.iloadN X2.here hx rfl (hb hby d9_7) rfl k) ?_
  show Go p e below s _ _ _ (T2.setTop (mkF m 8 #[.val (.ref a0), .val (.int p1), .val (.int p2), .val (.int (Lxt.getD (p1).toNatClampNeg 0)), .unset, .unset] [(.int (Lxt.getD (p1).toNatClampNeg 0))]))
  refine Go.of (fun t k => XS.aloadN X2.here hx rfl (hb hby d9_8) rfl rfl k) ?_
  show Go p e below s _ _ _ (T2.setTop (mkF m 9 #[.val (.ref a0), .val (.int p1), .val (.int p2), .val (.int (Lxt.getD (p1).toNatClampNeg 0)), .unset, .unset] [(.ref a0), (.int (Lxt.getD (p1).toNatClampNeg 0))]))
  obtain ⟨T4, X4, e4, st4⟩ := getF X2 hx hZ hown (host := "") (Or.inl (hw _ (List.mem_of_getElem? (i := 24) rfl))) Via.refl e2 Ff5_1 (g := (mkF m 9 #[.val (.ref a0), .val (.int p1), .val (.int p2), .val (.int (Lxt.getD (p1).toNatClampNeg 0)), .unset, .unset] [(.ref a0), (.int (Lxt.getD (p1).toNatClampNeg 0))])) rfl rfl (hb hby d9_9)
  refine Go.of st4 ?_
  show Go p e below s _ _ _ (T4.setTop (mkF m 12 #[.val (.ref a0), .val (.int p1), .val (.int p2), .val (.int (Lxt.getD (p1).toNatClampNeg 0)), .unset, .unset] [(.ref xc), (.int (Lxt.getD (p1).toNatClampNeg 0))]))
  refine Go.of (fun t k => XS.iloadN X4.here hx rfl (hb hby d9_12) rfl k) ?_
  show Go p e below s _ _ _ (T4.setTop (mkF m 13 #[.val (.ref a0), .val (.int p1), .val (.int p2), .val (.int (Lxt.getD (p1).toNatClampNeg 0)), .unset, .unset] [(.int p1), (.ref xc), (.int (Lxt.getD (p1).toNatClampNeg 0))]))
  obtain ⟨cl5, Ar5, q5, S5, M5, H5, G5⟩ := id Vv5_1
  have hin5 : ¬ (p1 < 0 ∨ cl5.slots.size ≤ (p1).toNatClampNeg) := (inb_of S5 hmem)
  refine Go.of (X4.iaload hx (j := p1) (v := (.int (Lxc.getD (p1).toNatClampNeg 0))) (by rw [e4]; exact Ar5.1) (State.isArrayOf_alike hZ.alike Ar5.2.1) Ar5.2.2 hin5 (Has.at H5 hin5 (own_getDI Lxc _)) (g := (mkF m 13 #[.val (.ref a0), .val (.int p1), .val (.int p2), .val (.int (Lxt.getD (p1).toNatClampNeg 0)), .unset, .unset] [(.int p1), (.ref xc), (.int (Lxt.getD (p1).toNatClampNeg 0))])) rfl rfl (hb hby d9_13)) ?_
  show Go p e below s _ _ _ (T4.setTop (mkF m 14 #[.val (.ref a0), .val (.int p1), .val (.int p2), .val (.int (Lxt.getD (p1).toNatClampNeg 0)), .unset, .unset] [(.int (Lxc.getD (p1).toNatClampNeg 0)), (.int (Lxt.getD (p1).toNatClampNeg 0))]))
  refine Go.of (fun t k => XS.iadd X4.here hx rfl (hb hby d9_14) rfl k) ?_
  show Go p e below s _ _ _ (T4.setTop (mkF m 15 #[.val (.ref a0), .val (.int p1), .val (.int p2), .val (.int (Lxt.getD (p1).toNatClampNeg 0)), .unset, .unset] [(.int ((Lxt.getD (p1).toNatClampNeg 0) + (Lxc.getD (p1).toNatClampNeg 0)))]))
  refine Go.of (fun t k => XS.istore X4.here hx rfl (hb hby d9_15) rfl (l' := #[.val (.ref a0), .val (.int p1), .val (.int p2), .val (.int (Lxt.getD (p1).toNatClampNeg 0)), .val (.int ((Lxt.getD (p1).toNatClampNeg 0) + (Lxc.getD (p1).toNatClampNeg 0))), .unset]) rfl k) ?_
  show Go p e below s _ _ _ (T4.setTop (mkF m 17 #[.val (.ref a0), .val (.int p1), .val (.int p2), .val (.int (Lxt.getD (p1).toNatClampNeg 0)), .val (.int ((Lxt.getD (p1).toNatClampNeg 0) + (Lxc.getD (p1).toNatClampNeg 0))), .unset] []))
  refine Go.of (fun t k => XS.iloadN X4.here hx rfl (hb hby d9_17) rfl k) ?_
  show Go p e below s _ _ _ (T4.setTop (mkF m 18 #[.val (.ref a0), .val (.int p1), .val (.int p2), .val (.int (Lxt.getD (p1).toNatClampNeg 0)), .val (.int ((Lxt.getD (p1).toNatClampNeg 0) + (Lxc.getD (p1).toNatClampNeg 0))), .unset] [(.int (Lxt.getD (p1).toNatClampNeg 0))]))
  refine Go.of (fun t k => XS.istore X4.here hx rfl (hb hby d9_18) rfl (l' := #[.val (.ref a0), .val (.int p1), .val (.int p2), .val (.int (Lxt.getD (p1).toNatClampNeg 0)), .val (.int ((Lxt.getD (p1).toNatClampNeg 0) + (Lxc.getD (p1).toNatClampNeg 0))), .val (.int (Lxt.getD (p1).toNatClampNeg 0))]) rfl k) ?_
  show Go p e below s _ _ _ (T4.setTop (mkF m 20 #[.val (.ref a0), .val (.int p1), .val (.int p2), .val (.int (Lxt.getD (p1).toNatClampNeg 0)), .val (.int ((Lxt.getD (p1).toNatClampNeg 0) + (Lxc.getD (p1).toNatClampNeg 0))), .val (.int (Lxt.getD (p1).toNatClampNeg 0))] []))
  have jn20 : ∀ (nn : Nat), ∀ (v5_20 : Int32) (T_20 : State) (l_20 : List Loc) (X_20 : Stand p l e ({ frames := 0, cells := 0, slots := 0, locals := 0 } : Room) s m #[(.ref a0), (.int p1), (.int p2)] below meth c T_20 l_20 0 0) (e_20 : T_20.heap = h0) (N_20 : Fr n0 l_20) (hI_20 : ((Lxt.getD (p1).toNatClampNeg 0).toInt ≤ v5_20.toInt ∧ v5_20.toInt ≤ ((Lxt.getD (p1).toNatClampNeg 0) + (Lxc.getD (p1).toNatClampNeg 0)).toInt) ∧ (((Lxt.getD (p1).toNatClampNeg 0) + (Lxc.getD (p1).toNatClampNeg 0)).toInt - v5_20.toInt).toNat < nn), Go p e below s (QP (some (.int (F9_20 p1 p2 Lxu Lxt Lxc nn v5_20))) h0 n0) ({ frames := 0, cells := 0, slots := 0, locals := 0 } : Room).cells ({ frames := 0, cells := 0, slots := 0, locals := 0 } : Room).slots (T_20.setTop (mkF m 20 #[.val (.ref a0), .val (.int p1), .val (.int p2), .val (.int (Lxt.getD (p1).toNatClampNeg 0)), .val (.int ((Lxt.getD (p1).toNatClampNeg 0) + (Lxc.getD (p1).toNatClampNeg 0))), .val (.int v5_20)] [])) := by
    intro nn
    induction nn with
    | zero =>
      intro v5_20 T_20 l_20 X_20 e_20 N_20 hI_20
      exact absurd hI_20.2 (Nat.not_lt_zero _)
    | succ nn ih =>
      intro v5_20 T_20 l_20 X_20 e_20 N_20 hI_20
      rewrite [F9_20]
      refine Go.of (fun t k => XS.iload X_20.here hx rfl (hb hby d9_20) rfl k) ?_
      show Go p e below s _ _ _ (T_20.setTop (mkF m 22 #[.val (.ref a0), .val (.int p1), .val (.int p2), .val (.int (Lxt.getD (p1).toNatClampNeg 0)), .val (.int ((Lxt.getD (p1).toNatClampNeg 0) + (Lxc.getD (p1).toNatClampNeg 0))), .val (.int v5_20)] [(.int v5_20)]))
      refine Go.of (fun t k => XS.iload X_20.here hx rfl (hb hby d9_22) rfl k) ?_
      show Go p e below s _ _ _ (T_20.setTop (mkF m 24 #[.val (.ref a0), .val (.int p1), .val (.int p2), .val (.int (Lxt.getD (p1).toNatClampNeg 0)), .val (.int ((Lxt.getD (p1).toNatClampNeg 0) + (Lxc.getD (p1).toNatClampNeg 0))), .val (.int v5_20)] [(.int ((Lxt.getD (p1).toNatClampNeg 0) + (Lxc.getD (p1).toNatClampNeg 0))), (.int v5_20)]))
      by_cases hc24_6 : v5_20 < ((Lxt.getD (p1).toNatClampNeg 0) + (Lxc.getD (p1).toNatClampNeg 0))
      · rewrite [if_pos hc24_6]
        refine Go.of (fun t k => XS.icmpNo X_20.here hx rfl (hb hby d9_24) rfl (tlt hc24_6).2.1 k) ?_
        show Go p e below s _ _ _ (T_20.setTop (mkF m 27 #[.val (.ref a0), .val (.int p1), .val (.int p2), .val (.int (Lxt.getD (p1).toNatClampNeg 0)), .val (.int ((Lxt.getD (p1).toNatClampNeg 0) + (Lxc.getD (p1).toNatClampNeg 0))), .val (.int v5_20)] []))
        refine Go.of (fun t k => XS.aloadN X_20.here hx rfl (hb hby d9_27) rfl rfl k) ?_
        show Go p e below s _ _ _ (T_20.setTop (mkF m 28 #[.val (.ref a0), .val (.int p1), .val (.int p2), .val (.int (Lxt.getD (p1).toNatClampNeg 0)), .val (.int ((Lxt.getD (p1).toNatClampNeg 0) + (Lxc.getD (p1).toNatClampNeg 0))), .val (.int v5_20)] [(.ref a0)]))
        obtain ⟨T7, X7, e7, st7⟩ := getF X_20 hx hZ hown (host := "") (Or.inl (hw _ (List.mem_of_getElem? (i := 14) rfl))) Via.refl e_20 Ff0_1 (g := (mkF m 28 #[.val (.ref a0), .val (.int p1), .val (.int p2), .val (.int (Lxt.getD (p1).toNatClampNeg 0)), .val (.int ((Lxt.getD (p1).toNatClampNeg 0) + (Lxc.getD (p1).toNatClampNeg 0))), .val (.int v5_20)] [(.ref a0)])) rfl rfl (hb hby d9_28)
        refine Go.of st7 ?_
        show Go p e below s _ _ _ (T7.setTop (mkF m 31 #[.val (.ref a0), .val (.int p1), .val (.int p2), .val (.int (Lxt.getD (p1).toNatClampNeg 0)), .val (.int ((Lxt.getD (p1).toNatClampNeg 0) + (Lxc.getD (p1).toNatClampNeg 0))), .val (.int v5_20)] [(.ref xu)]))
        refine Go.of (fun t k => XS.iload X7.here hx rfl (hb hby d9_31) rfl k) ?_
        show Go p e below s _ _ _ (T7.setTop (mkF m 33 #[.val (.ref a0), .val (.int p1), .val (.int p2), .val (.int (Lxt.getD (p1).toNatClampNeg 0)), .val (.int ((Lxt.getD (p1).toNatClampNeg 0) + (Lxc.getD (p1).toNatClampNeg 0))), .val (.int v5_20)] [(.int v5_20), (.ref xu)]))
        obtain ⟨cl8, Ar8, q8, S8, M8, H8, G8⟩ := id Vv0_1
        have hin8 : ¬ (v5_20 < 0 ∨ cl8.slots.size ≤ (v5_20).toNatClampNeg) := (inb_of S8 (own_fin hI_20.1 hff hc24_6))
        refine Go.of (X7.iaload hx (j := v5_20) (v := (.int (Lxu.getD (v5_20).toNatClampNeg 0))) (by rw [e7]; exact Ar8.1) (State.isArrayOf_alike hZ.alike Ar8.2.1) Ar8.2.2 hin8 (Has.at H8 hin8 (own_getDI Lxu _)) (g := (mkF m 33 #[.val (.ref a0), .val (.int p1), .val (.int p2), .val (.int (Lxt.getD (p1).toNatClampNeg 0)), .val (.int ((Lxt.getD (p1).toNatClampNeg 0) + (Lxc.getD (p1).toNatClampNeg 0))), .val (.int v5_20)] [(.int v5_20), (.ref xu)])) rfl rfl (hb hby d9_33)) ?_
        show Go p e below s _ _ _ (T7.setTop (mkF m 34 #[.val (.ref a0), .val (.int p1), .val (.int p2), .val (.int (Lxt.getD (p1).toNatClampNeg 0)), .val (.int ((Lxt.getD (p1).toNatClampNeg 0) + (Lxc.getD (p1).toNatClampNeg 0))), .val (.int v5_20)] [(.int (Lxu.getD (v5_20).toNatClampNeg 0))]))
        refine Go.of (fun t k => XS.iloadN X7.here hx rfl (hb hby d9_34) rfl k) ?_
        show Go p e below s _ _ _ (T7.setTop (mkF m 35 #[.val (.ref a0), .val (.int p1), .val (.int p2), .val (.int (Lxt.getD (p1).toNatClampNeg 0)), .val (.int ((Lxt.getD (p1).toNatClampNeg 0) + (Lxc.getD (p1).toNatClampNeg 0))), .val (.int v5_20)] [(.int p2), (.int (Lxu.getD (v5_20).toNatClampNeg 0))]))
        by_cases hc35_9 : (Lxu.getD (v5_20).toNatClampNeg 0) = p2
        · rewrite [if_pos hc35_9]
          refine Go.of (fun t k => XS.icmpYes X7.here hx rfl (pc0 := 35) (pc' := 44) rfl (hb hby d9_35) rfl (teq hc35_9).1 (by decide) (by decide) k) ?_
          show Go p e below s _ _ _ (T7.setTop (mkF m 44 #[.val (.ref a0), .val (.int p1), .val (.int p2), .val (.int (Lxt.getD (p1).toNatClampNeg 0)), .val (.int ((Lxt.getD (p1).toNatClampNeg 0) + (Lxc.getD (p1).toNatClampNeg 0))), .val (.int v5_20)] []))
          refine Go.of (fun t k => XS.iload X7.here hx rfl (hb hby d9_44) rfl k) ?_
          show Go p e below s _ _ _ (T7.setTop (mkF m 46 #[.val (.ref a0), .val (.int p1), .val (.int p2), .val (.int (Lxt.getD (p1).toNatClampNeg 0)), .val (.int ((Lxt.getD (p1).toNatClampNeg 0) + (Lxc.getD (p1).toNatClampNeg 0))), .val (.int v5_20)] [(.int v5_20)]))
          refine Go.of (fun t k => XS.iloadN X7.here hx rfl (hb hby d9_46) rfl k) ?_
          show Go p e below s _ _ _ (T7.setTop (mkF m 47 #[.val (.ref a0), .val (.int p1), .val (.int p2), .val (.int (Lxt.getD (p1).toNatClampNeg 0)), .val (.int ((Lxt.getD (p1).toNatClampNeg 0) + (Lxc.getD (p1).toNatClampNeg 0))), .val (.int v5_20)] [(.int (Lxt.getD (p1).toNatClampNeg 0)), (.int v5_20)]))
          refine Go.of (fun t k => XS.isub X7.here hx rfl (hb hby d9_47) rfl k) ?_
          show Go p e below s _ _ _ (T7.setTop (mkF m 48 #[.val (.ref a0), .val (.int p1), .val (.int p2), .val (.int (Lxt.getD (p1).toNatClampNeg 0)), .val (.int ((Lxt.getD (p1).toNatClampNeg 0) + (Lxc.getD (p1).toNatClampNeg 0))), .val (.int v5_20)] [(.int (v5_20 - (Lxt.getD (p1).toNatClampNeg 0)))]))
          exact Go.ret X7 (some (.int (v5_20 - (Lxt.getD (p1).toNatClampNeg 0)))) (fun h => by rw [Bd.returns] at h; cases h) hlk ⟨rfl, N_20, e7⟩ (by decide) (by decide) (fun fs hr => (retI X7 hx Bd.returns (hb hby d9_48) hr))
        · rewrite [if_neg hc35_9]
          refine Go.of (fun t k => XS.icmpNo X7.here hx rfl (hb hby d9_35) rfl (feq hc35_9).1 k) ?_
          show Go p e below s _ _ _ (T7.setTop (mkF m 38 #[.val (.ref a0), .val (.int p1), .val (.int p2), .val (.int (Lxt.getD (p1).toNatClampNeg 0)), .val (.int ((Lxt.getD (p1).toNatClampNeg 0) + (Lxc.getD (p1).toNatClampNeg 0))), .val (.int v5_20)] []))
          refine Go.of (fun t k => XS.iinc X7.here hx rfl (hb hby d9_38) rfl (l' := #[.val (.ref a0), .val (.int p1), .val (.int p2), .val (.int (Lxt.getD (p1).toNatClampNeg 0)), .val (.int ((Lxt.getD (p1).toNatClampNeg 0) + (Lxc.getD (p1).toNatClampNeg 0))), .val (.int (v5_20 + (1 : Int32)))]) rfl k) ?_
          show Go p e below s _ _ _ (T7.setTop (mkF m 41 #[.val (.ref a0), .val (.int p1), .val (.int p2), .val (.int (Lxt.getD (p1).toNatClampNeg 0)), .val (.int ((Lxt.getD (p1).toNatClampNeg 0) + (Lxc.getD (p1).toNatClampNeg 0))), .val (.int (v5_20 + (1 : Int32)))] []))
          refine Go.of (fun t k => XS.goto X7.here hx rfl (pc0 := 41) (pc' := 20) rfl (hb hby d9_41) (by decide) (by decide) k) ?_
          show Go p e below s _ _ _ (T7.setTop (mkF m 20 #[.val (.ref a0), .val (.int p1), .val (.int p2), .val (.int (Lxt.getD (p1).toNatClampNeg 0)), .val (.int ((Lxt.getD (p1).toNatClampNeg 0) + (Lxc.getD (p1).toNatClampNeg 0))), .val (.int (v5_20 + (1 : Int32)))] []))
          exact ih (v5_20 + (1 : Int32)) T7 _ X7 e7 N_20 (own_fst hI_20 hff hc24_6)
      · rewrite [if_neg hc24_6]
        refine Go.of (fun t k => XS.icmpYes X_20.here hx rfl (pc0 := 24) (pc' := 44) rfl (hb hby d9_24) rfl (flt hc24_6).2.1 (by decide) (by decide) k) ?_
        show Go p e below s _ _ _ (T_20.setTop (mkF m 44 #[.val (.ref a0), .val (.int p1), .val (.int p2), .val (.int (Lxt.getD (p1).toNatClampNeg 0)), .val (.int ((Lxt.getD (p1).toNatClampNeg 0) + (Lxc.getD (p1).toNatClampNeg 0))), .val (.int v5_20)] []))
        refine Go.of (fun t k => XS.iload X_20.here hx rfl (hb hby d9_44) rfl k) ?_
        show Go p e below s _ _ _ (T_20.setTop (mkF m 46 #[.val (.ref a0), .val (.int p1), .val (.int p2), .val (.int (Lxt.getD (p1).toNatClampNeg 0)), .val (.int ((Lxt.getD (p1).toNatClampNeg 0) + (Lxc.getD (p1).toNatClampNeg 0))), .val (.int v5_20)] [(.int v5_20)]))
        refine Go.of (fun t k => XS.iloadN X_20.here hx rfl (hb hby d9_46) rfl k) ?_
        show Go p e below s _ _ _ (T_20.setTop (mkF m 47 #[.val (.ref a0), .val (.int p1), .val (.int p2), .val (.int (Lxt.getD (p1).toNatClampNeg 0)), .val (.int ((Lxt.getD (p1).toNatClampNeg 0) + (Lxc.getD (p1).toNatClampNeg 0))), .val (.int v5_20)] [(.int (Lxt.getD (p1).toNatClampNeg 0)), (.int v5_20)]))
        refine Go.of (fun t k => XS.isub X_20.here hx rfl (hb hby d9_47) rfl k) ?_
        show Go p e below s _ _ _ (T_20.setTop (mkF m 48 #[.val (.ref a0), .val (.int p1), .val (.int p2), .val (.int (Lxt.getD (p1).toNatClampNeg 0)), .val (.int ((Lxt.getD (p1).toNatClampNeg 0) + (Lxc.getD (p1).toNatClampNeg 0))), .val (.int v5_20)] [(.int (v5_20 - (Lxt.getD (p1).toNatClampNeg 0)))]))
        exact Go.ret X_20 (some (.int (v5_20 - (Lxt.getD (p1).toNatClampNeg 0)))) (fun h => by rw [Bd.returns] at h; cases h) hlk ⟨rfl, N_20, e_20⟩ (by decide) (by decide) (fun fs hr => (retI X_20 hx Bd.returns (hb hby d9_48) hr))
  exact jn20 4 (Lxt.getD (p1).toNatClampNeg 0) T4 _ X4 e4 N0 (own_ffi hff)
theorem d2_0 : decode prog_34_method_1_code 0 = .ok (.aload_n 0, 1) := by decide +kernel
theorem d2_1 : decode prog_34_method_1_code 1 = .ok (.invokespecial 1, 3) := by decide +kernel
theorem d2_4 : decode prog_34_method_1_code 4 = .ok (.aload_n 0, 1) := by decide +kernel
theorem d2_5 : decode prog_34_method_1_code 5 = .ok (.iconst 0, 1) := by decide +kernel
theorem d2_6 : decode prog_34_method_1_code 6 = .ok (.newarray .int, 2) := by decide +kernel
theorem d2_8 : decode prog_34_method_1_code 8 = .ok (.putfield 7, 3) := by decide +kernel
theorem d2_11 : decode prog_34_method_1_code 11 = .ok (.aload_n 0, 1) := by decide +kernel
theorem d2_12 : decode prog_34_method_1_code 12 = .ok (.iconst 0, 1) := by decide +kernel
theorem d2_13 : decode prog_34_method_1_code 13 = .ok (.newarray .int, 2) := by decide +kernel
theorem d2_15 : decode prog_34_method_1_code 15 = .ok (.putfield 13, 3) := by decide +kernel
theorem d2_18 : decode prog_34_method_1_code 18 = .ok (.aload_n 0, 1) := by decide +kernel
theorem d2_19 : decode prog_34_method_1_code 19 = .ok (.iconst 0, 1) := by decide +kernel
theorem d2_20 : decode prog_34_method_1_code 20 = .ok (.newarray .int, 2) := by decide +kernel
theorem d2_22 : decode prog_34_method_1_code 22 = .ok (.putfield 16, 3) := by decide +kernel
theorem d2_25 : decode prog_34_method_1_code 25 = .ok (.aload_n 0, 1) := by decide +kernel
theorem d2_26 : decode prog_34_method_1_code 26 = .ok (.iload_n 1, 1) := by decide +kernel
theorem d2_27 : decode prog_34_method_1_code 27 = .ok (.newarray .int, 2) := by decide +kernel
theorem d2_29 : decode prog_34_method_1_code 29 = .ok (.putfield 19, 3) := by decide +kernel
theorem d2_32 : decode prog_34_method_1_code 32 = .ok (.aload_n 0, 1) := by decide +kernel
theorem d2_33 : decode prog_34_method_1_code 33 = .ok (.iload_n 1, 1) := by decide +kernel
theorem d2_34 : decode prog_34_method_1_code 34 = .ok (.newarray .int, 2) := by decide +kernel
theorem d2_36 : decode prog_34_method_1_code 36 = .ok (.putfield 22, 3) := by decide +kernel
theorem d2_39 : decode prog_34_method_1_code 39 = .ok (.aload_n 0, 1) := by decide +kernel
theorem d2_40 : decode prog_34_method_1_code 40 = .ok (.iload_n 1, 1) := by decide +kernel
theorem d2_41 : decode prog_34_method_1_code 41 = .ok (.newarray .int, 2) := by decide +kernel
theorem d2_43 : decode prog_34_method_1_code 43 = .ok (.putfield 25, 3) := by decide +kernel
theorem d2_46 : decode prog_34_method_1_code 46 = .ok (.return_, 1) := by decide +kernel
theorem ef_2 (m : MethodId) (a0 : Addr) : entryFrame m #[(.ref a0), (.int (2 : Int32))] 2 = mkF m 0 #[.val (.ref a0), .val (.int (2 : Int32))] [] := by first | (simp [entryFrame, mkF, argsToLocals, Value.category]; done) | rfl
def Q2 (Z : State) (a0 : Addr) (h0 : Heap) (n0 : Nat) (v : Option Value) (h : Heap) (Lo : List Loc) : Prop := v = none ∧ Fr n0 Lo ∧ ∃ (xu xg xd xt xr xc : Addr) (kxu kxg kxd kxt kxr kxc : ClassId), own_K Z h n0 a0 xu xg xd xt xr xc kxu kxg kxd kxt kxr kxc (0 : Int32) ([] : List Int32) ([] : List Int32) ([] : List Int32) [(0 : Int32), (0 : Int32)] [(0 : Int32), (0 : Int32)] [(0 : Int32), (0 : Int32)] (0 : Int32)
set_option maxRecDepth 65536 in
set_option maxHeartbeats 40000000 in
theorem rm2 (l : Launch) (Z : State) (az : Array Value) (hw : ∀ d ∈ tables_1, d.before az Z = true) (ws : List Jvm.Cond) (a0 : Addr)  (h0 : Heap) (n0 : Nat) (Z0 : n0 ≤ h0.size) (E_a0 : Exa Z h0 a0 "com/example/susurrus/susurrus/KnownUnits") (Fp_units : Fld Z h0 a0 "com/example/susurrus/susurrus/KnownUnits" "units" "[I" .null) (Fp_aggregates : Fld Z h0 a0 "com/example/susurrus/susurrus/KnownUnits" "aggregates" "[I" .null) (Fp_senders : Fld Z h0 a0 "com/example/susurrus/susurrus/KnownUnits" "senders" "[I" .null) (Fp_starts : Fld Z h0 a0 "com/example/susurrus/susurrus/KnownUnits" "starts" "[I" .null) (Fp_rooms : Fld Z h0 a0 "com/example/susurrus/susurrus/KnownUnits" "rooms" "[I" .null) (Fp_counts : Fld Z h0 a0 "com/example/susurrus/susurrus/KnownUnits" "counts" "[I" .null) (Fp_used : Fld Z h0 a0 "com/example/susurrus/susurrus/KnownUnits" "used" "I" (.int (0 : Int32))) (g_a0 : n0 ≤ a0) :
    MetFree l (⟨"com/example/susurrus/susurrus/KnownUnits", "<init>", "(I)V"⟩ : MethodName) (head1 (Jvm.Cond.code (⟨"com/example/susurrus/susurrus/KnownUnits", "<init>", "(I)V"⟩ : MethodName) prog_34_method_1_code 2 none :: ws) ({ frames := 1, cells := 6, slots := 6, locals := 12 } : Room)) (fun a U => a = #[(.ref a0), (.int (2 : Int32))] ∧ Z.Warmed39 U.vm ∧ U.heap = h0) (fun _ _ _ _ _ => True) (fun _ U o U' => ∃ v L, o = .returned v ∧ (Q2 Z a0 h0 n0) v U'.heap L ∧ FrameEnd U o U' L ({ frames := 1, cells := 6, slots := 6, locals := 12 } : Room).cells ({ frames := 1, cells := 6, slots := 6, locals := 12 } : Room).slots) := by
  refine MetFree.of_bodySF (plainFor_of_name own_pn1) hisR ?_
  intro p e s m args below meth c s₁ Bd hml0 hP hK
  obtain ⟨rfl, hZ, hh⟩ := hP
  have hx := Bd.exec
  have hby := Bd.bytes
  have hml : c.maxLocals = 2 := hml0
  have hown : s.vm.findClass "com/example/susurrus/susurrus/KnownUnits" = some m.cls := findClass_of_methodNamed Bd.named
  have hnm := (name_of_methodNamed Bd.named Bd.method).1
  have hlk : meth.locks = false := BodyLoose.notSynchronized Bd
  have X0 : Stand p l e ({ frames := 1, cells := 6, slots := 6, locals := 12 } : Room) s m #[(.ref a0), (.int (2 : Int32))] below meth c s₁ [] 0 0 := Stand.of_body Bd
  have e0 : s₁.heap = h0 := by rw [← hh, Bd.state]; rfl
  have N0 := Fr.nil n0
  show Go p e below s (Q2 Z a0 h0 n0) ({ frames := 1, cells := 6, slots := 6, locals := 12 } : Room).cells ({ frames := 1, cells := 6, slots := 6, locals := 12 } : Room).slots (s₁.setTop (entryFrame m #[(.ref a0), (.int (2 : Int32))] 2))
  refine Go.of (fun t k => castTop (ef_2 m a0) k) ?_
  show Go p e below s _ _ _ (s₁.setTop (mkF m 0 #[.val (.ref a0), .val (.int (2 : Int32))] []))
  refine Go.of (fun t k => XS.aloadN X0.here hx rfl (hb hby d2_0) rfl rfl k) ?_
  show Go p e below s _ _ _ (s₁.setTop (mkF m 1 #[.val (.ref a0), .val (.int (2 : Int32))] [(.ref a0)]))
  obtain ⟨T1, X1, e1, st1⟩ := initO X0 hx hZ hown (hw _ (List.mem_of_getElem? (i := 10) rfl)) (hw _ (List.mem_of_getElem? (i := 11) rfl)) (hw _ (List.mem_of_getElem? (i := 12) rfl)) e0 (g := (mkF m 1 #[.val (.ref a0), .val (.int (2 : Int32))] [(.ref a0)])) rfl (by rw [hml]; rfl) rfl (hb hby d2_1) (by decide) (W := 0) (by show 2 * 0 + _ ≤ _; exact Nat.le_of_eq rfl) (by decide)
  refine Go.of st1 ?_
  show Go p e below s _ _ _ (T1.setTop (mkF m 4 #[.val (.ref a0), .val (.int (2 : Int32))] []))
  refine Go.of (fun t k => XS.aloadN X1.here hx rfl (hb hby d2_4) rfl rfl k) ?_
  show Go p e below s _ _ _ (T1.setTop (mkF m 5 #[.val (.ref a0), .val (.int (2 : Int32))] [(.ref a0)]))
  refine Go.of (fun t k => XS.iconst X1.here hx rfl (hb hby d2_5) k) ?_
  show Go p e below s _ _ _ (T1.setTop (mkF m 6 #[.val (.ref a0), .val (.int (2 : Int32))] [(.int (0 : Int32)), (.ref a0)]))
  obtain ⟨T2, h2, k2, X2, e2, E2, A2, st2⟩ := newP X1 hx hZ (hw _ (List.mem_of_getElem? (i := 13) rfl)) e1 (g := (mkF m 6 #[.val (.ref a0), .val (.int (2 : Int32))] [(.int (0 : Int32)), (.ref a0)])) rfl (hb hby d2_6) rfl (by decide) (cap := 0) (by decide) (by decide) (by decide) (by decide)
  obtain ⟨b2, ga2⟩ : ∃ z, z = h0.size := ⟨_, rfl⟩
  rw [← ga2] at A2 st2
  have g_b2 : n0 ≤ b2 := Nat.le_trans Z0 (Nat.le_of_eq ga2.symm)
  have ne3 : a0 ≠ b2 := Nat.ne_of_lt (Nat.lt_of_lt_of_le E_a0.lt (Nat.le_of_eq ga2.symm))
  have f4 := E_a0.ext E2
  have f5 := Fp_units.ext E2
  have f6 := Fp_aggregates.ext E2
  have f7 := Fp_senders.ext E2
  have f8 := Fp_starts.ext E2
  have f9 := Fp_rooms.ext E2
  have f10 := Fp_counts.ext E2
  have f11 := Fp_used.ext E2
  have f12 : Arv Z h2 b2 k2 .int (0 : Int32) [] (.int (0 : Int32)) := Arv.new A2 (by decide)
  have Zz2 := Nat.le_trans Z0 E2.1
  refine Go.of st2 ?_
  show Go p e below s _ _ _ (T2.setTop (mkF m 8 #[.val (.ref a0), .val (.int (2 : Int32))] [(.ref b2), (.ref a0)]))
  obtain ⟨T13, h13, X13, e13, W13, st13⟩ := putF X2 hx hZ hown (host := "") (Or.inl (hw _ (List.mem_of_getElem? (i := 14) rfl))) Via.refl e2 f5 f4 (Or.inl (hw _ (List.mem_of_getElem? (i := 15) rfl))) (hw _ (List.mem_of_getElem? (i := 5) rfl)) (ty := (.array .int)) (by decide) rfl rfl (g := (mkF m 8 #[.val (.ref a0), .val (.int (2 : Int32))] [(.ref b2), (.ref a0)])) rfl rfl (hb hby d2_8)
  have f14 := f5.same W13
  have f15 := f4.wr W13
  have f16 := f6.other W13 (Or.inr (slot_ne (Or.inl (hw _ (List.mem_of_getElem? (i := 17) rfl))) (Or.inl (hw _ (List.mem_of_getElem? (i := 15) rfl))) (by decide) (t := (.array .int)) (t' := (.array .int)) (by decide) (by decide)))
  have f17 := f7.other W13 (Or.inr (slot_ne (Or.inl (hw _ (List.mem_of_getElem? (i := 19) rfl))) (Or.inl (hw _ (List.mem_of_getElem? (i := 15) rfl))) (by decide) (t := (.array .int)) (t' := (.array .int)) (by decide) (by decide)))
  have f18 := f8.other W13 (Or.inr (slot_ne (Or.inr (hw _ (List.mem_of_getElem? (i := 21) rfl))) (Or.inl (hw _ (List.mem_of_getElem? (i := 15) rfl))) (by decide) (t := (.array .int)) (t' := (.array .int)) (by decide) (by decide)))
  have f19 := f9.other W13 (Or.inr (slot_ne (Or.inr (hw _ (List.mem_of_getElem? (i := 23) rfl))) (Or.inl (hw _ (List.mem_of_getElem? (i := 15) rfl))) (by decide) (t := (.array .int)) (t' := (.array .int)) (by decide) (by decide)))
  have f20 := f10.other W13 (Or.inr (slot_ne (Or.inr (hw _ (List.mem_of_getElem? (i := 25) rfl))) (Or.inl (hw _ (List.mem_of_getElem? (i := 15) rfl))) (by decide) (t := (.array .int)) (t' := (.array .int)) (by decide) (by decide)))
  have f21 := f11.other W13 (Or.inr (slot_ne (Or.inl (hw _ (List.mem_of_getElem? (i := 36) rfl))) (Or.inl (hw _ (List.mem_of_getElem? (i := 15) rfl))) (by decide) (t := .int) (t' := (.array .int)) (by decide) (by decide)))
  have f22 := f12.other W13 (Ne.symm ne3)
  have N13 := Fr.snoc X13 N0 g_a0
  have Zz13 := Nat.le_trans Zz2 (Nat.le_of_eq (Wr.size W13).symm)
  refine Go.of st13 ?_
  show Go p e below s _ _ _ (T13.setTop (mkF m 11 #[.val (.ref a0), .val (.int (2 : Int32))] []))
  refine Go.of (fun t k => XS.aloadN X13.here hx rfl (hb hby d2_11) rfl rfl k) ?_
  show Go p e below s _ _ _ (T13.setTop (mkF m 12 #[.val (.ref a0), .val (.int (2 : Int32))] [(.ref a0)]))
  refine Go.of (fun t k => XS.iconst X13.here hx rfl (hb hby d2_12) k) ?_
  show Go p e below s _ _ _ (T13.setTop (mkF m 13 #[.val (.ref a0), .val (.int (2 : Int32))] [(.int (0 : Int32)), (.ref a0)]))
  obtain ⟨T23, h23, k23, X23, e23, E23, A23, st23⟩ := newP X13 hx hZ (hw _ (List.mem_of_getElem? (i := 13) rfl)) e13 (g := (mkF m 13 #[.val (.ref a0), .val (.int (2 : Int32))] [(.int (0 : Int32)), (.ref a0)])) rfl (hb hby d2_13) rfl (by decide) (cap := 0) (by decide) (by decide) (by decide) (by decide)
  obtain ⟨b23, ga23⟩ : ∃ z, z = h13.size := ⟨_, rfl⟩
  rw [← ga23] at A23 st23
  have g_b23 : n0 ≤ b23 := Nat.le_trans Zz13 (Nat.le_of_eq ga23.symm)
  have ne24 : a0 ≠ b23 := Nat.ne_of_lt (Nat.lt_of_lt_of_le f15.lt (Nat.le_of_eq ga23.symm))
  have ne25 : b2 ≠ b23 := Nat.ne_of_lt (Nat.lt_of_lt_of_le f22.lt (Nat.le_of_eq ga23.symm))
  have f26 := f15.ext E23
  have f27 := f14.ext E23
  have f28 := f16.ext E23
  have f29 := f17.ext E23
  have f30 := f18.ext E23
  have f31 := f19.ext E23
  have f32 := f20.ext E23
  have f33 := f21.ext E23
  have f34 := f22.ext E23
  have f35 : Arv Z h23 b23 k23 .int (0 : Int32) [] (.int (0 : Int32)) := Arv.new A23 (by decide)
  have Zz23 := Nat.le_trans Zz13 E23.1
  refine Go.of st23 ?_
  show Go p e below s _ _ _ (T23.setTop (mkF m 15 #[.val (.ref a0), .val (.int (2 : Int32))] [(.ref b23), (.ref a0)]))
  obtain ⟨T36, h36, X36, e36, W36, st36⟩ := putF X23 hx hZ hown (host := "") (Or.inl (hw _ (List.mem_of_getElem? (i := 16) rfl))) Via.refl e23 f28 f26 (Or.inl (hw _ (List.mem_of_getElem? (i := 17) rfl))) (hw _ (List.mem_of_getElem? (i := 5) rfl)) (ty := (.array .int)) (by decide) rfl rfl (g := (mkF m 15 #[.val (.ref a0), .val (.int (2 : Int32))] [(.ref b23), (.ref a0)])) rfl rfl (hb hby d2_15)
  have f37 := f28.same W36
  have f38 := f26.wr W36
  have f39 := f27.other W36 (Or.inr (slot_ne (Or.inl (hw _ (List.mem_of_getElem? (i := 15) rfl))) (Or.inl (hw _ (List.mem_of_getElem? (i := 17) rfl))) (by decide) (t := (.array .int)) (t' := (.array .int)) (by decide) (by decide)))
  have f40 := f29.other W36 (Or.inr (slot_ne (Or.inl (hw _ (List.mem_of_getElem? (i := 19) rfl))) (Or.inl (hw _ (List.mem_of_getElem? (i := 17) rfl))) (by decide) (t := (.array .int)) (t' := (.array .int)) (by decide) (by decide)))
  have f41 := f30.other W36 (Or.inr (slot_ne (Or.inr (hw _ (List.mem_of_getElem? (i := 21) rfl))) (Or.inl (hw _ (List.mem_of_getElem? (i := 17) rfl))) (by decide) (t := (.array .int)) (t' := (.array .int)) (by decide) (by decide)))
  have f42 := f31.other W36 (Or.inr (slot_ne (Or.inr (hw _ (List.mem_of_getElem? (i := 23) rfl))) (Or.inl (hw _ (List.mem_of_getElem? (i := 17) rfl))) (by decide) (t := (.array .int)) (t' := (.array .int)) (by decide) (by decide)))
  have f43 := f32.other W36 (Or.inr (slot_ne (Or.inr (hw _ (List.mem_of_getElem? (i := 25) rfl))) (Or.inl (hw _ (List.mem_of_getElem? (i := 17) rfl))) (by decide) (t := (.array .int)) (t' := (.array .int)) (by decide) (by decide)))
  have f44 := f33.other W36 (Or.inr (slot_ne (Or.inl (hw _ (List.mem_of_getElem? (i := 36) rfl))) (Or.inl (hw _ (List.mem_of_getElem? (i := 17) rfl))) (by decide) (t := .int) (t' := (.array .int)) (by decide) (by decide)))
  have f45 := f34.other W36 (Ne.symm ne3)
  have f46 := f35.other W36 (Ne.symm ne24)
  have N36 := Fr.snoc X36 N13 g_a0
  have Zz36 := Nat.le_trans Zz23 (Nat.le_of_eq (Wr.size W36).symm)
  refine Go.of st36 ?_
  show Go p e below s _ _ _ (T36.setTop (mkF m 18 #[.val (.ref a0), .val (.int (2 : Int32))] []))
  refine Go.of (fun t k => XS.aloadN X36.here hx rfl (hb hby d2_18) rfl rfl k) ?_
  show Go p e below s _ _ _ (T36.setTop (mkF m 19 #[.val (.ref a0), .val (.int (2 : Int32))] [(.ref a0)]))
  refine Go.of (fun t k => XS.iconst X36.here hx rfl (hb hby d2_19) k) ?_
  show Go p e below s _ _ _ (T36.setTop (mkF m 20 #[.val (.ref a0), .val (.int (2 : Int32))] [(.int (0 : Int32)), (.ref a0)]))
  obtain ⟨T47, h47, k47, X47, e47, E47, A47, st47⟩ := newP X36 hx hZ (hw _ (List.mem_of_getElem? (i := 13) rfl)) e36 (g := (mkF m 20 #[.val (.ref a0), .val (.int (2 : Int32))] [(.int (0 : Int32)), (.ref a0)])) rfl (hb hby d2_20) rfl (by decide) (cap := 0) (by decide) (by decide) (by decide) (by decide)
  obtain ⟨b47, ga47⟩ : ∃ z, z = h36.size := ⟨_, rfl⟩
  rw [← ga47] at A47 st47
  have g_b47 : n0 ≤ b47 := Nat.le_trans Zz36 (Nat.le_of_eq ga47.symm)
  have ne48 : a0 ≠ b47 := Nat.ne_of_lt (Nat.lt_of_lt_of_le f38.lt (Nat.le_of_eq ga47.symm))
  have ne49 : b2 ≠ b47 := Nat.ne_of_lt (Nat.lt_of_lt_of_le f45.lt (Nat.le_of_eq ga47.symm))
  have ne50 : b23 ≠ b47 := Nat.ne_of_lt (Nat.lt_of_lt_of_le f46.lt (Nat.le_of_eq ga47.symm))
  have f51 := f38.ext E47
  have f52 := f39.ext E47
  have f53 := f37.ext E47
  have f54 := f40.ext E47
  have f55 := f41.ext E47
  have f56 := f42.ext E47
  have f57 := f43.ext E47
  have f58 := f44.ext E47
  have f59 := f45.ext E47
  have f60 := f46.ext E47
  have f61 : Arv Z h47 b47 k47 .int (0 : Int32) [] (.int (0 : Int32)) := Arv.new A47 (by decide)
  have Zz47 := Nat.le_trans Zz36 E47.1
  refine Go.of st47 ?_
  show Go p e below s _ _ _ (T47.setTop (mkF m 22 #[.val (.ref a0), .val (.int (2 : Int32))] [(.ref b47), (.ref a0)]))
  obtain ⟨T62, h62, X62, e62, W62, st62⟩ := putF X47 hx hZ hown (host := "") (Or.inl (hw _ (List.mem_of_getElem? (i := 18) rfl))) Via.refl e47 f54 f51 (Or.inl (hw _ (List.mem_of_getElem? (i := 19) rfl))) (hw _ (List.mem_of_getElem? (i := 5) rfl)) (ty := (.array .int)) (by decide) rfl rfl (g := (mkF m 22 #[.val (.ref a0), .val (.int (2 : Int32))] [(.ref b47), (.ref a0)])) rfl rfl (hb hby d2_22)
  have f63 := f54.same W62
  have f64 := f51.wr W62
  have f65 := f52.other W62 (Or.inr (slot_ne (Or.inl (hw _ (List.mem_of_getElem? (i := 15) rfl))) (Or.inl (hw _ (List.mem_of_getElem? (i := 19) rfl))) (by decide) (t := (.array .int)) (t' := (.array .int)) (by decide) (by decide)))
  have f66 := f53.other W62 (Or.inr (slot_ne (Or.inl (hw _ (List.mem_of_getElem? (i := 17) rfl))) (Or.inl (hw _ (List.mem_of_getElem? (i := 19) rfl))) (by decide) (t := (.array .int)) (t' := (.array .int)) (by decide) (by decide)))
  have f67 := f55.other W62 (Or.inr (slot_ne (Or.inr (hw _ (List.mem_of_getElem? (i := 21) rfl))) (Or.inl (hw _ (List.mem_of_getElem? (i := 19) rfl))) (by decide) (t := (.array .int)) (t' := (.array .int)) (by decide) (by decide)))
  have f68 := f56.other W62 (Or.inr (slot_ne (Or.inr (hw _ (List.mem_of_getElem? (i := 23) rfl))) (Or.inl (hw _ (List.mem_of_getElem? (i := 19) rfl))) (by decide) (t := (.array .int)) (t' := (.array .int)) (by decide) (by decide)))
  have f69 := f57.other W62 (Or.inr (slot_ne (Or.inr (hw _ (List.mem_of_getElem? (i := 25) rfl))) (Or.inl (hw _ (List.mem_of_getElem? (i := 19) rfl))) (by decide) (t := (.array .int)) (t' := (.array .int)) (by decide) (by decide)))
  have f70 := f58.other W62 (Or.inr (slot_ne (Or.inl (hw _ (List.mem_of_getElem? (i := 36) rfl))) (Or.inl (hw _ (List.mem_of_getElem? (i := 19) rfl))) (by decide) (t := .int) (t' := (.array .int)) (by decide) (by decide)))
  have f71 := f59.other W62 (Ne.symm ne3)
  have f72 := f60.other W62 (Ne.symm ne24)
  have f73 := f61.other W62 (Ne.symm ne48)
  have N62 := Fr.snoc X62 N36 g_a0
  have Zz62 := Nat.le_trans Zz47 (Nat.le_of_eq (Wr.size W62).symm)
  refine Go.of st62 ?_
  show Go p e below s _ _ _ (T62.setTop (mkF m 25 #[.val (.ref a0), .val (.int (2 : Int32))] []))
  refine Go.of (fun t k => XS.aloadN X62.here hx rfl (hb hby d2_25) rfl rfl k) ?_
  show Go p e below s _ _ _ (T62.setTop (mkF m 26 #[.val (.ref a0), .val (.int (2 : Int32))] [(.ref a0)]))
  refine Go.of (fun t k => XS.iloadN X62.here hx rfl (hb hby d2_26) rfl k) ?_
  show Go p e below s _ _ _ (T62.setTop (mkF m 27 #[.val (.ref a0), .val (.int (2 : Int32))] [(.int (2 : Int32)), (.ref a0)]))
  obtain ⟨T74, h74, k74, X74, e74, E74, A74, st74⟩ := newP X62 hx hZ (hw _ (List.mem_of_getElem? (i := 13) rfl)) e62 (g := (mkF m 27 #[.val (.ref a0), .val (.int (2 : Int32))] [(.int (2 : Int32)), (.ref a0)])) rfl (hb hby d2_27) rfl (by decide) (cap := 2) (by decide) (by decide) (by decide) (by decide)
  obtain ⟨b74, ga74⟩ : ∃ z, z = h62.size := ⟨_, rfl⟩
  rw [← ga74] at A74 st74
  have g_b74 : n0 ≤ b74 := Nat.le_trans Zz62 (Nat.le_of_eq ga74.symm)
  have ne75 : a0 ≠ b74 := Nat.ne_of_lt (Nat.lt_of_lt_of_le f64.lt (Nat.le_of_eq ga74.symm))
  have ne76 : b2 ≠ b74 := Nat.ne_of_lt (Nat.lt_of_lt_of_le f71.lt (Nat.le_of_eq ga74.symm))
  have ne77 : b23 ≠ b74 := Nat.ne_of_lt (Nat.lt_of_lt_of_le f72.lt (Nat.le_of_eq ga74.symm))
  have ne78 : b47 ≠ b74 := Nat.ne_of_lt (Nat.lt_of_lt_of_le f73.lt (Nat.le_of_eq ga74.symm))
  have f79 := f64.ext E74
  have f80 := f65.ext E74
  have f81 := f66.ext E74
  have f82 := f63.ext E74
  have f83 := f67.ext E74
  have f84 := f68.ext E74
  have f85 := f69.ext E74
  have f86 := f70.ext E74
  have f87 := f71.ext E74
  have f88 := f72.ext E74
  have f89 := f73.ext E74
  have f90 : Arv Z h74 b74 k74 .int (2 : Int32) [(.int (0 : Int32)), (.int (0 : Int32))] (.int (0 : Int32)) := (Arv.new A74 (by decide)).pad (pad_rep [] (.int (0 : Int32)) 2)
  have Zz74 := Nat.le_trans Zz62 E74.1
  refine Go.of st74 ?_
  show Go p e below s _ _ _ (T74.setTop (mkF m 29 #[.val (.ref a0), .val (.int (2 : Int32))] [(.ref b74), (.ref a0)]))
  obtain ⟨T91, h91, X91, e91, W91, st91⟩ := putF X74 hx hZ hown (host := "") (Or.inl (hw _ (List.mem_of_getElem? (i := 20) rfl))) Via.refl e74 f83 f79 (Or.inr ⟨(hw _ (List.mem_of_getElem? (i := 21) rfl)), rfl, hnm⟩) (hw _ (List.mem_of_getElem? (i := 5) rfl)) (ty := (.array .int)) (by decide) rfl rfl (g := (mkF m 29 #[.val (.ref a0), .val (.int (2 : Int32))] [(.ref b74), (.ref a0)])) rfl rfl (hb hby d2_29)
  have f92 := f83.same W91
  have f93 := f79.wr W91
  have f94 := f80.other W91 (Or.inr (slot_ne (Or.inl (hw _ (List.mem_of_getElem? (i := 15) rfl))) (Or.inr (hw _ (List.mem_of_getElem? (i := 21) rfl))) (by decide) (t := (.array .int)) (t' := (.array .int)) (by decide) (by decide)))
  have f95 := f81.other W91 (Or.inr (slot_ne (Or.inl (hw _ (List.mem_of_getElem? (i := 17) rfl))) (Or.inr (hw _ (List.mem_of_getElem? (i := 21) rfl))) (by decide) (t := (.array .int)) (t' := (.array .int)) (by decide) (by decide)))
  have f96 := f82.other W91 (Or.inr (slot_ne (Or.inl (hw _ (List.mem_of_getElem? (i := 19) rfl))) (Or.inr (hw _ (List.mem_of_getElem? (i := 21) rfl))) (by decide) (t := (.array .int)) (t' := (.array .int)) (by decide) (by decide)))
  have f97 := f84.other W91 (Or.inr (slot_ne (Or.inr (hw _ (List.mem_of_getElem? (i := 23) rfl))) (Or.inr (hw _ (List.mem_of_getElem? (i := 21) rfl))) (by decide) (t := (.array .int)) (t' := (.array .int)) (by decide) (by decide)))
  have f98 := f85.other W91 (Or.inr (slot_ne (Or.inr (hw _ (List.mem_of_getElem? (i := 25) rfl))) (Or.inr (hw _ (List.mem_of_getElem? (i := 21) rfl))) (by decide) (t := (.array .int)) (t' := (.array .int)) (by decide) (by decide)))
  have f99 := f86.other W91 (Or.inr (slot_ne (Or.inl (hw _ (List.mem_of_getElem? (i := 36) rfl))) (Or.inr (hw _ (List.mem_of_getElem? (i := 21) rfl))) (by decide) (t := .int) (t' := (.array .int)) (by decide) (by decide)))
  have f100 := f87.other W91 (Ne.symm ne3)
  have f101 := f88.other W91 (Ne.symm ne24)
  have f102 := f89.other W91 (Ne.symm ne48)
  have f103 := f90.other W91 (Ne.symm ne75)
  have N91 := Fr.snoc X91 N62 g_a0
  have Zz91 := Nat.le_trans Zz74 (Nat.le_of_eq (Wr.size W91).symm)
  refine Go.of st91 ?_
  show Go p e below s _ _ _ (T91.setTop (mkF m 32 #[.val (.ref a0), .val (.int (2 : Int32))] []))
  refine Go.of (fun t k => XS.aloadN X91.here hx rfl (hb hby d2_32) rfl rfl k) ?_
  show Go p e below s _ _ _ (T91.setTop (mkF m 33 #[.val (.ref a0), .val (.int (2 : Int32))] [(.ref a0)]))
  refine Go.of (fun t k => XS.iloadN X91.here hx rfl (hb hby d2_33) rfl k) ?_
  show Go p e below s _ _ _ (T91.setTop (mkF m 34 #[.val (.ref a0), .val (.int (2 : Int32))] [(.int (2 : Int32)), (.ref a0)]))
  obtain ⟨T104, h104, k104, X104, e104, E104, A104, st104⟩ := newP X91 hx hZ (hw _ (List.mem_of_getElem? (i := 13) rfl)) e91 (g := (mkF m 34 #[.val (.ref a0), .val (.int (2 : Int32))] [(.int (2 : Int32)), (.ref a0)])) rfl (hb hby d2_34) rfl (by decide) (cap := 2) (by decide) (by decide) (by decide) (by decide)
  obtain ⟨b104, ga104⟩ : ∃ z, z = h91.size := ⟨_, rfl⟩
  rw [← ga104] at A104 st104
  have g_b104 : n0 ≤ b104 := Nat.le_trans Zz91 (Nat.le_of_eq ga104.symm)
  have ne105 : a0 ≠ b104 := Nat.ne_of_lt (Nat.lt_of_lt_of_le f93.lt (Nat.le_of_eq ga104.symm))
  have ne106 : b2 ≠ b104 := Nat.ne_of_lt (Nat.lt_of_lt_of_le f100.lt (Nat.le_of_eq ga104.symm))
  have ne107 : b23 ≠ b104 := Nat.ne_of_lt (Nat.lt_of_lt_of_le f101.lt (Nat.le_of_eq ga104.symm))
  have ne108 : b47 ≠ b104 := Nat.ne_of_lt (Nat.lt_of_lt_of_le f102.lt (Nat.le_of_eq ga104.symm))
  have ne109 : b74 ≠ b104 := Nat.ne_of_lt (Nat.lt_of_lt_of_le f103.lt (Nat.le_of_eq ga104.symm))
  have f110 := f93.ext E104
  have f111 := f94.ext E104
  have f112 := f95.ext E104
  have f113 := f96.ext E104
  have f114 := f92.ext E104
  have f115 := f97.ext E104
  have f116 := f98.ext E104
  have f117 := f99.ext E104
  have f118 := f100.ext E104
  have f119 := f101.ext E104
  have f120 := f102.ext E104
  have f121 := f103.ext E104
  have f122 : Arv Z h104 b104 k104 .int (2 : Int32) [(.int (0 : Int32)), (.int (0 : Int32))] (.int (0 : Int32)) := (Arv.new A104 (by decide)).pad (pad_rep [] (.int (0 : Int32)) 2)
  have Zz104 := Nat.le_trans Zz91 E104.1
  refine Go.of st104 ?_
  show Go p e below s _ _ _ (T104.setTop (mkF m 36 #[.val (.ref a0), .val (.int (2 : Int32))] [(.ref b104), (.ref a0)]))
  obtain ⟨T123, h123, X123, e123, W123, st123⟩ := putF X104 hx hZ hown (host := "") (Or.inl (hw _ (List.mem_of_getElem? (i := 22) rfl))) Via.refl e104 f115 f110 (Or.inr ⟨(hw _ (List.mem_of_getElem? (i := 23) rfl)), rfl, hnm⟩) (hw _ (List.mem_of_getElem? (i := 5) rfl)) (ty := (.array .int)) (by decide) rfl rfl (g := (mkF m 36 #[.val (.ref a0), .val (.int (2 : Int32))] [(.ref b104), (.ref a0)])) rfl rfl (hb hby d2_36)
  have f124 := f115.same W123
  have f125 := f110.wr W123
  have f126 := f111.other W123 (Or.inr (slot_ne (Or.inl (hw _ (List.mem_of_getElem? (i := 15) rfl))) (Or.inr (hw _ (List.mem_of_getElem? (i := 23) rfl))) (by decide) (t := (.array .int)) (t' := (.array .int)) (by decide) (by decide)))
  have f127 := f112.other W123 (Or.inr (slot_ne (Or.inl (hw _ (List.mem_of_getElem? (i := 17) rfl))) (Or.inr (hw _ (List.mem_of_getElem? (i := 23) rfl))) (by decide) (t := (.array .int)) (t' := (.array .int)) (by decide) (by decide)))
  have f128 := f113.other W123 (Or.inr (slot_ne (Or.inl (hw _ (List.mem_of_getElem? (i := 19) rfl))) (Or.inr (hw _ (List.mem_of_getElem? (i := 23) rfl))) (by decide) (t := (.array .int)) (t' := (.array .int)) (by decide) (by decide)))
  have f129 := f114.other W123 (Or.inr (slot_ne (Or.inr (hw _ (List.mem_of_getElem? (i := 21) rfl))) (Or.inr (hw _ (List.mem_of_getElem? (i := 23) rfl))) (by decide) (t := (.array .int)) (t' := (.array .int)) (by decide) (by decide)))
  have f130 := f116.other W123 (Or.inr (slot_ne (Or.inr (hw _ (List.mem_of_getElem? (i := 25) rfl))) (Or.inr (hw _ (List.mem_of_getElem? (i := 23) rfl))) (by decide) (t := (.array .int)) (t' := (.array .int)) (by decide) (by decide)))
  have f131 := f117.other W123 (Or.inr (slot_ne (Or.inl (hw _ (List.mem_of_getElem? (i := 36) rfl))) (Or.inr (hw _ (List.mem_of_getElem? (i := 23) rfl))) (by decide) (t := .int) (t' := (.array .int)) (by decide) (by decide)))
  have f132 := f118.other W123 (Ne.symm ne3)
  have f133 := f119.other W123 (Ne.symm ne24)
  have f134 := f120.other W123 (Ne.symm ne48)
  have f135 := f121.other W123 (Ne.symm ne75)
  have f136 := f122.other W123 (Ne.symm ne105)
  have N123 := Fr.snoc X123 N91 g_a0
  have Zz123 := Nat.le_trans Zz104 (Nat.le_of_eq (Wr.size W123).symm)
  refine Go.of st123 ?_
  show Go p e below s _ _ _ (T123.setTop (mkF m 39 #[.val (.ref a0), .val (.int (2 : Int32))] []))
  refine Go.of (fun t k => XS.aloadN X123.here hx rfl (hb hby d2_39) rfl rfl k) ?_
  show Go p e below s _ _ _ (T123.setTop (mkF m 40 #[.val (.ref a0), .val (.int (2 : Int32))] [(.ref a0)]))
  refine Go.of (fun t k => XS.iloadN X123.here hx rfl (hb hby d2_40) rfl k) ?_
  show Go p e below s _ _ _ (T123.setTop (mkF m 41 #[.val (.ref a0), .val (.int (2 : Int32))] [(.int (2 : Int32)), (.ref a0)]))
  obtain ⟨T137, h137, k137, X137, e137, E137, A137, st137⟩ := newP X123 hx hZ (hw _ (List.mem_of_getElem? (i := 13) rfl)) e123 (g := (mkF m 41 #[.val (.ref a0), .val (.int (2 : Int32))] [(.int (2 : Int32)), (.ref a0)])) rfl (hb hby d2_41) rfl (by decide) (cap := 2) (by decide) (by decide) (by decide) (by decide)
  obtain ⟨b137, ga137⟩ : ∃ z, z = h123.size := ⟨_, rfl⟩
  rw [← ga137] at A137 st137
  have g_b137 : n0 ≤ b137 := Nat.le_trans Zz123 (Nat.le_of_eq ga137.symm)
  have ne138 : a0 ≠ b137 := Nat.ne_of_lt (Nat.lt_of_lt_of_le f125.lt (Nat.le_of_eq ga137.symm))
  have ne139 : b2 ≠ b137 := Nat.ne_of_lt (Nat.lt_of_lt_of_le f132.lt (Nat.le_of_eq ga137.symm))
  have ne140 : b23 ≠ b137 := Nat.ne_of_lt (Nat.lt_of_lt_of_le f133.lt (Nat.le_of_eq ga137.symm))
  have ne141 : b47 ≠ b137 := Nat.ne_of_lt (Nat.lt_of_lt_of_le f134.lt (Nat.le_of_eq ga137.symm))
  have ne142 : b74 ≠ b137 := Nat.ne_of_lt (Nat.lt_of_lt_of_le f135.lt (Nat.le_of_eq ga137.symm))
  have ne143 : b104 ≠ b137 := Nat.ne_of_lt (Nat.lt_of_lt_of_le f136.lt (Nat.le_of_eq ga137.symm))
  have f144 := f125.ext E137
  have f145 := f126.ext E137
  have f146 := f127.ext E137
  have f147 := f128.ext E137
  have f148 := f129.ext E137
  have f149 := f124.ext E137
  have f150 := f130.ext E137
  have f151 := f131.ext E137
  have f152 := f132.ext E137
  have f153 := f133.ext E137
  have f154 := f134.ext E137
  have f155 := f135.ext E137
  have f156 := f136.ext E137
  have f157 : Arv Z h137 b137 k137 .int (2 : Int32) [(.int (0 : Int32)), (.int (0 : Int32))] (.int (0 : Int32)) := (Arv.new A137 (by decide)).pad (pad_rep [] (.int (0 : Int32)) 2)
  have Zz137 := Nat.le_trans Zz123 E137.1
  refine Go.of st137 ?_
  show Go p e below s _ _ _ (T137.setTop (mkF m 43 #[.val (.ref a0), .val (.int (2 : Int32))] [(.ref b137), (.ref a0)]))
  obtain ⟨T158, h158, X158, e158, W158, st158⟩ := putF X137 hx hZ hown (host := "") (Or.inl (hw _ (List.mem_of_getElem? (i := 24) rfl))) Via.refl e137 f150 f144 (Or.inr ⟨(hw _ (List.mem_of_getElem? (i := 25) rfl)), rfl, hnm⟩) (hw _ (List.mem_of_getElem? (i := 5) rfl)) (ty := (.array .int)) (by decide) rfl rfl (g := (mkF m 43 #[.val (.ref a0), .val (.int (2 : Int32))] [(.ref b137), (.ref a0)])) rfl rfl (hb hby d2_43)
  have f159 := f150.same W158
  have f160 := f144.wr W158
  have f161 := f145.other W158 (Or.inr (slot_ne (Or.inl (hw _ (List.mem_of_getElem? (i := 15) rfl))) (Or.inr (hw _ (List.mem_of_getElem? (i := 25) rfl))) (by decide) (t := (.array .int)) (t' := (.array .int)) (by decide) (by decide)))
  have f162 := f146.other W158 (Or.inr (slot_ne (Or.inl (hw _ (List.mem_of_getElem? (i := 17) rfl))) (Or.inr (hw _ (List.mem_of_getElem? (i := 25) rfl))) (by decide) (t := (.array .int)) (t' := (.array .int)) (by decide) (by decide)))
  have f163 := f147.other W158 (Or.inr (slot_ne (Or.inl (hw _ (List.mem_of_getElem? (i := 19) rfl))) (Or.inr (hw _ (List.mem_of_getElem? (i := 25) rfl))) (by decide) (t := (.array .int)) (t' := (.array .int)) (by decide) (by decide)))
  have f164 := f148.other W158 (Or.inr (slot_ne (Or.inr (hw _ (List.mem_of_getElem? (i := 21) rfl))) (Or.inr (hw _ (List.mem_of_getElem? (i := 25) rfl))) (by decide) (t := (.array .int)) (t' := (.array .int)) (by decide) (by decide)))
  have f165 := f149.other W158 (Or.inr (slot_ne (Or.inr (hw _ (List.mem_of_getElem? (i := 23) rfl))) (Or.inr (hw _ (List.mem_of_getElem? (i := 25) rfl))) (by decide) (t := (.array .int)) (t' := (.array .int)) (by decide) (by decide)))
  have f166 := f151.other W158 (Or.inr (slot_ne (Or.inl (hw _ (List.mem_of_getElem? (i := 36) rfl))) (Or.inr (hw _ (List.mem_of_getElem? (i := 25) rfl))) (by decide) (t := .int) (t' := (.array .int)) (by decide) (by decide)))
  have f167 := f152.other W158 (Ne.symm ne3)
  have f168 := f153.other W158 (Ne.symm ne24)
  have f169 := f154.other W158 (Ne.symm ne48)
  have f170 := f155.other W158 (Ne.symm ne75)
  have f171 := f156.other W158 (Ne.symm ne105)
  have f172 := f157.other W158 (Ne.symm ne138)
  have N158 := Fr.snoc X158 N123 g_a0
  have Zz158 := Nat.le_trans Zz137 (Nat.le_of_eq (Wr.size W158).symm)
  refine Go.of st158 ?_
  show Go p e below s _ _ _ (T158.setTop (mkF m 46 #[.val (.ref a0), .val (.int (2 : Int32))] []))
  exact Go.ret X158 none (fun _ => rfl) hlk (by rw [e158]; exact ⟨rfl, N158, b2, b23, b47, b74, b104, b137, k2, k23, k47, k74, k104, k137, ⟨f160, f161, f162, f163, f164, f165, f159, f166, f167, f168, f169, f170, f171, f172, g_a0, g_b2, g_b23, g_b47, g_b74, g_b104, g_b137, Zz158, ne3, ne24, ne48, ne75, ne105, ne138, ne25, ne49, ne76, ne106, ne139, ne50, ne77, ne107, ne140, ne78, ne108, ne141, ne109, ne142, ne143⟩⟩) (by decide) (by decide) (fun fs hr => (X158.returnOut hx Bd.returns (hb hby d2_46) hr))
theorem own_pd5 : parseMethodDescriptor "(I)V" = some ⟨[.int], none⟩ := by decide +kernel
theorem own_pd6 : parseMethodDescriptor "(IIII)V" = some ⟨[.int, .int, .int, .int], none⟩ := by decide +kernel
theorem own_pd7 : parseMethodDescriptor "(IIIII)V" = some ⟨[.int, .int, .int, .int, .int], none⟩ := by decide +kernel
theorem own_pn2 : plainName "com/example/susurrus/susurrus/KnownUnitsFindPinLaw" = true := by first | (simp [plainName, overriddenIn]; done) | decide +kernel
theorem ef_0 (m : MethodId) (p0 : Int32) (p1 : Int32) (p2 : Int32) (p3 : Int32) (p4 : Int32) : entryFrame m #[(.int p0), (.int p1), (.int p2), (.int p3), (.int p4)] maxLocals = mkF m 0 #[.val (.int p0), .val (.int p1), .val (.int p2), .val (.int p3), .val (.int p4), .unset, .unset, .unset, .unset, .unset, .unset, .unset, .unset, .unset, .unset, .unset] [] := by first | (simp [entryFrame, mkF, argsToLocals, Value.category, maxLocals]; done) | rfl
def F0_235 (p0 : Int32) (w0_112 : Int32) (v15_235 : Int32) : Int32 := (if (F9 (0 : Int32) w0_112 [p0, w0_112, (0 : Int32), (0 : Int32), (0 : Int32), (0 : Int32), (0 : Int32), (0 : Int32)] [(0 : Int32), (1 : Int32)] [(1 : Int32), (1 : Int32)]) = v15_235 then (1 : Int32) else (0 : Int32))
def F0_225 (p0 : Int32) (w0_112 : Int32) (v15_225 : Int32) : Int32 := (if p0 = w0_112 then (F0_235 p0 w0_112 (0 : Int32)) else (F0_235 p0 w0_112 v15_225))
def F0_209 (p0 : Int32) (w0_112 : Int32) (v15_209 : Int32) : Int32 := (F0_225 p0 w0_112 v15_209)
def F0_235a (p0 : Int32) (w0_53 : Int32) (w0_112 : Int32) (v15_235a : Int32) : Int32 := (if (F9 (0 : Int32) w0_112 [p0, w0_112, p0, w0_53, (0 : Int32), (0 : Int32), (0 : Int32), (0 : Int32)] [(2 : Int32), (1 : Int32)] [(2 : Int32), (1 : Int32)]) = v15_235a then (1 : Int32) else (0 : Int32))
def F0_225a (p0 : Int32) (w0_53 : Int32) (w0_112 : Int32) (v15_225a : Int32) : Int32 := (if p0 = w0_112 then (F0_235a p0 w0_53 w0_112 (0 : Int32)) else (F0_235a p0 w0_53 w0_112 v15_225a))
def F0_209a (p0 : Int32) (w0_53 : Int32) (w0_112 : Int32) (v15_209a : Int32) : Int32 := (if w0_53 = w0_112 then (F0_225a p0 w0_53 w0_112 (1 : Int32)) else (F0_225a p0 w0_53 w0_112 v15_209a))
def F0_235b (p0 : Int32) (w0_53 : Int32) (w0_77 : Int32) (w0_112 : Int32) (v15_235b : Int32) : Int32 := (if (F9 (0 : Int32) w0_112 [p0, w0_112, p0, w0_53, p0, w0_53, w0_77, (0 : Int32)] [(4 : Int32), (1 : Int32)] [(3 : Int32), (1 : Int32)]) = v15_235b then (1 : Int32) else (0 : Int32))
def F0_225b (p0 : Int32) (w0_53 : Int32) (w0_77 : Int32) (w0_112 : Int32) (v15_225b : Int32) : Int32 := (if p0 = w0_112 then (F0_235b p0 w0_53 w0_77 w0_112 (0 : Int32)) else (F0_235b p0 w0_53 w0_77 w0_112 v15_225b))
def F0_209b (p0 : Int32) (w0_53 : Int32) (w0_77 : Int32) (w0_112 : Int32) (v15_209b : Int32) : Int32 := (if w0_53 = w0_112 then (F0_225b p0 w0_53 w0_77 w0_112 (1 : Int32)) else (F0_225b p0 w0_53 w0_77 w0_112 v15_209b))
def F0_235c (p0 : Int32) (w0_112 : Int32) (v15_235c : Int32) : Int32 := (if (F9 (0 : Int32) w0_112 [p0, (0 : Int32), w0_112, (0 : Int32), (0 : Int32), (0 : Int32), (0 : Int32), (0 : Int32)] [(0 : Int32), (2 : Int32)] [(1 : Int32), (1 : Int32)]) = v15_235c then (1 : Int32) else (0 : Int32))
def F0_225c (p0 : Int32) (w0_112 : Int32) (v15_225c : Int32) : Int32 := (if p0 = w0_112 then (F0_235c p0 w0_112 (0 : Int32)) else (F0_235c p0 w0_112 v15_225c))
def F0_209c (p0 : Int32) (w0_112 : Int32) (v15_209c : Int32) : Int32 := (F0_225c p0 w0_112 v15_209c)
def F0_235d (p0 : Int32) (w0_53 : Int32) (w0_112 : Int32) (v15_235d : Int32) : Int32 := (if (F9 (0 : Int32) w0_112 [p0, w0_53, w0_112, (0 : Int32), (0 : Int32), (0 : Int32), (0 : Int32), (0 : Int32)] [(0 : Int32), (2 : Int32)] [(2 : Int32), (1 : Int32)]) = v15_235d then (1 : Int32) else (0 : Int32))
def F0_225d (p0 : Int32) (w0_53 : Int32) (w0_112 : Int32) (v15_225d : Int32) : Int32 := (if p0 = w0_112 then (F0_235d p0 w0_53 w0_112 (0 : Int32)) else (F0_235d p0 w0_53 w0_112 v15_225d))
def F0_209d (p0 : Int32) (w0_53 : Int32) (w0_112 : Int32) (v15_209d : Int32) : Int32 := (if w0_53 = w0_112 then (F0_225d p0 w0_53 w0_112 (1 : Int32)) else (F0_225d p0 w0_53 w0_112 v15_209d))
def F0_235e (p0 : Int32) (w0_53 : Int32) (w0_77 : Int32) (w0_112 : Int32) (v15_235e : Int32) : Int32 := (if (F9 (0 : Int32) w0_112 [p0, w0_53, w0_112, p0, w0_53, w0_77, (0 : Int32), (0 : Int32)] [(3 : Int32), (2 : Int32)] [(3 : Int32), (1 : Int32)]) = v15_235e then (1 : Int32) else (0 : Int32))
def F0_225e (p0 : Int32) (w0_53 : Int32) (w0_77 : Int32) (w0_112 : Int32) (v15_225e : Int32) : Int32 := (if p0 = w0_112 then (F0_235e p0 w0_53 w0_77 w0_112 (0 : Int32)) else (F0_235e p0 w0_53 w0_77 w0_112 v15_225e))
def F0_209e (p0 : Int32) (w0_53 : Int32) (w0_77 : Int32) (w0_112 : Int32) (v15_209e : Int32) : Int32 := (if w0_53 = w0_112 then (F0_225e p0 w0_53 w0_77 w0_112 (1 : Int32)) else (F0_225e p0 w0_53 w0_77 w0_112 v15_209e))
def F0_235f (p0 : Int32) (w0_112 : Int32) (v15_235f : Int32) : Int32 := (if (F9 (0 : Int32) w0_112 [p0, (0 : Int32), (0 : Int32), w0_112, (0 : Int32), (0 : Int32), (0 : Int32), (0 : Int32)] [(0 : Int32), (3 : Int32)] [(1 : Int32), (1 : Int32)]) = v15_235f then (1 : Int32) else (0 : Int32))
def F0_225f (p0 : Int32) (w0_112 : Int32) (v15_225f : Int32) : Int32 := (if p0 = w0_112 then (F0_235f p0 w0_112 (0 : Int32)) else (F0_235f p0 w0_112 v15_225f))
def F0_209f (p0 : Int32) (w0_112 : Int32) (v15_209f : Int32) : Int32 := (F0_225f p0 w0_112 v15_209f)
def F0_235g (p0 : Int32) (w0_53 : Int32) (w0_112 : Int32) (v15_235g : Int32) : Int32 := (if (F9 (0 : Int32) w0_112 [p0, w0_53, (0 : Int32), w0_112, (0 : Int32), (0 : Int32), (0 : Int32), (0 : Int32)] [(0 : Int32), (3 : Int32)] [(2 : Int32), (1 : Int32)]) = v15_235g then (1 : Int32) else (0 : Int32))
def F0_225g (p0 : Int32) (w0_53 : Int32) (w0_112 : Int32) (v15_225g : Int32) : Int32 := (if p0 = w0_112 then (F0_235g p0 w0_53 w0_112 (0 : Int32)) else (F0_235g p0 w0_53 w0_112 v15_225g))
def F0_209g (p0 : Int32) (w0_53 : Int32) (w0_112 : Int32) (v15_209g : Int32) : Int32 := (if w0_53 = w0_112 then (F0_225g p0 w0_53 w0_112 (1 : Int32)) else (F0_225g p0 w0_53 w0_112 v15_209g))
def F0_235h (p0 : Int32) (w0_53 : Int32) (w0_77 : Int32) (w0_112 : Int32) (v15_235h : Int32) : Int32 := (if (F9 (0 : Int32) w0_112 [p0, w0_53, w0_77, w0_112, (0 : Int32), (0 : Int32), (0 : Int32), (0 : Int32)] [(0 : Int32), (3 : Int32)] [(3 : Int32), (1 : Int32)]) = v15_235h then (1 : Int32) else (0 : Int32))
def F0_225h (p0 : Int32) (w0_53 : Int32) (w0_77 : Int32) (w0_112 : Int32) (v15_225h : Int32) : Int32 := (if p0 = w0_112 then (F0_235h p0 w0_53 w0_77 w0_112 (0 : Int32)) else (F0_235h p0 w0_53 w0_77 w0_112 v15_225h))
def F0_209h (p0 : Int32) (w0_53 : Int32) (w0_77 : Int32) (w0_112 : Int32) (v15_209h : Int32) : Int32 := (if w0_53 = w0_112 then (F0_225h p0 w0_53 w0_77 w0_112 (1 : Int32)) else (F0_225h p0 w0_53 w0_77 w0_112 v15_209h))
def F0_235i (p0 : Int32) (w0_112 : Int32) (v15_235i : Int32) : Int32 := (if (F9 (0 : Int32) w0_112 [p0, (0 : Int32), (0 : Int32), (0 : Int32), w0_112, (0 : Int32), (0 : Int32), (0 : Int32)] [(0 : Int32), (4 : Int32)] [(1 : Int32), (1 : Int32)]) = v15_235i then (1 : Int32) else (0 : Int32))
def F0_225i (p0 : Int32) (w0_112 : Int32) (v15_225i : Int32) : Int32 := (if p0 = w0_112 then (F0_235i p0 w0_112 (0 : Int32)) else (F0_235i p0 w0_112 v15_225i))
def F0_209i (p0 : Int32) (w0_112 : Int32) (v15_209i : Int32) : Int32 := (F0_225i p0 w0_112 v15_209i)
def F0_235j (p0 : Int32) (w0_53 : Int32) (w0_112 : Int32) (v15_235j : Int32) : Int32 := (if (F9 (0 : Int32) w0_112 [p0, w0_53, (0 : Int32), (0 : Int32), w0_112, (0 : Int32), (0 : Int32), (0 : Int32)] [(0 : Int32), (4 : Int32)] [(2 : Int32), (1 : Int32)]) = v15_235j then (1 : Int32) else (0 : Int32))
def F0_225j (p0 : Int32) (w0_53 : Int32) (w0_112 : Int32) (v15_225j : Int32) : Int32 := (if p0 = w0_112 then (F0_235j p0 w0_53 w0_112 (0 : Int32)) else (F0_235j p0 w0_53 w0_112 v15_225j))
def F0_209j (p0 : Int32) (w0_53 : Int32) (w0_112 : Int32) (v15_209j : Int32) : Int32 := (if w0_53 = w0_112 then (F0_225j p0 w0_53 w0_112 (1 : Int32)) else (F0_225j p0 w0_53 w0_112 v15_209j))
def F0_235k (p0 : Int32) (w0_53 : Int32) (w0_77 : Int32) (w0_112 : Int32) (v15_235k : Int32) : Int32 := (if (F9 (0 : Int32) w0_112 [p0, w0_53, w0_77, (0 : Int32), w0_112, (0 : Int32), (0 : Int32), (0 : Int32)] [(0 : Int32), (4 : Int32)] [(3 : Int32), (1 : Int32)]) = v15_235k then (1 : Int32) else (0 : Int32))
def F0_225k (p0 : Int32) (w0_53 : Int32) (w0_77 : Int32) (w0_112 : Int32) (v15_225k : Int32) : Int32 := (if p0 = w0_112 then (F0_235k p0 w0_53 w0_77 w0_112 (0 : Int32)) else (F0_235k p0 w0_53 w0_77 w0_112 v15_225k))
def F0_209k (p0 : Int32) (w0_53 : Int32) (w0_77 : Int32) (w0_112 : Int32) (v15_209k : Int32) : Int32 := (if w0_53 = w0_112 then (F0_225k p0 w0_53 w0_77 w0_112 (1 : Int32)) else (F0_225k p0 w0_53 w0_77 w0_112 v15_209k))
def F0_112 (p0 : Int32) (v5_8c : Int32) (v6_22c : Int32) (w0_53 : Int32) (w0_77 : Int32) (w0_112 : Int32) : Int32 := (if v5_8c = (1 : Int32) then (if v6_22c < (2 : Int32) then (F0_209 p0 w0_112 v6_22c) else (if v6_22c < (3 : Int32) then (F0_209a p0 w0_53 w0_112 v6_22c) else (if w0_77 = w0_112 then (F0_209b p0 w0_53 w0_77 w0_112 (2 : Int32)) else (F0_209b p0 w0_53 w0_77 w0_112 v6_22c)))) else (if v5_8c = (2 : Int32) then (if v6_22c < (2 : Int32) then (F0_209c p0 w0_112 v6_22c) else (if v6_22c < (3 : Int32) then (F0_209d p0 w0_53 w0_112 v6_22c) else (if w0_77 = w0_112 then (F0_209e p0 w0_53 w0_77 w0_112 (2 : Int32)) else (F0_209e p0 w0_53 w0_77 w0_112 v6_22c)))) else (if v5_8c = (3 : Int32) then (if v6_22c < (2 : Int32) then (F0_209f p0 w0_112 v6_22c) else (if v6_22c < (3 : Int32) then (F0_209g p0 w0_53 w0_112 v6_22c) else (if w0_77 = w0_112 then (F0_209h p0 w0_53 w0_77 w0_112 (2 : Int32)) else (F0_209h p0 w0_53 w0_77 w0_112 v6_22c)))) else (if v6_22c < (2 : Int32) then (F0_209i p0 w0_112 v6_22c) else (if v6_22c < (3 : Int32) then (F0_209j p0 w0_53 w0_112 v6_22c) else (if w0_77 = w0_112 then (F0_209k p0 w0_53 w0_77 w0_112 (2 : Int32)) else (F0_209k p0 w0_53 w0_77 w0_112 v6_22c)))))))
def F0_77 (p0 : Int32) (p3 : Int32) (p4 : Int32) (v5_8c : Int32) (v6_22c : Int32) (w0_53 : Int32) (w0_77 : Int32) : Int32 := (if (((p4.toUInt32 >>> ((6 : Int32) &&& 31).toUInt32).toInt32) &&& (3 : Int32)) = (0 : Int32) then (F0_112 p0 v5_8c v6_22c w0_53 w0_77 p0) else (if (((p4.toUInt32 >>> ((6 : Int32) &&& 31).toUInt32).toInt32) &&& (3 : Int32)) = (1 : Int32) then (F0_112 p0 v5_8c v6_22c w0_53 w0_77 w0_53) else (if (((p4.toUInt32 >>> ((6 : Int32) &&& 31).toUInt32).toInt32) &&& (3 : Int32)) = (2 : Int32) then (F0_112 p0 v5_8c v6_22c w0_53 w0_77 w0_77) else (F0_112 p0 v5_8c v6_22c w0_53 w0_77 p3))))
def F0_53 (p0 : Int32) (p2 : Int32) (p3 : Int32) (p4 : Int32) (v5_8c : Int32) (v6_22c : Int32) (w0_53 : Int32) : Int32 := (if (((p4.toUInt32 >>> ((4 : Int32) &&& 31).toUInt32).toInt32) &&& (3 : Int32)) = (2 : Int32) then (F0_77 p0 p3 p4 v5_8c v6_22c w0_53 p0) else (if (((p4.toUInt32 >>> ((4 : Int32) &&& 31).toUInt32).toInt32) &&& (3 : Int32)) = (3 : Int32) then (F0_77 p0 p3 p4 v5_8c v6_22c w0_53 w0_53) else (F0_77 p0 p3 p4 v5_8c v6_22c w0_53 p2)))
def F0_22c (p0 : Int32) (p1 : Int32) (p2 : Int32) (p3 : Int32) (p4 : Int32) (v5_8c : Int32) (v6_22c : Int32) : Int32 := (if (((p4.toUInt32 >>> ((4 : Int32) &&& 31).toUInt32).toInt32) &&& (3 : Int32)) = (1 : Int32) then (F0_53 p0 p2 p3 p4 v5_8c v6_22c p0) else (F0_53 p0 p2 p3 p4 v5_8c v6_22c p1))
def F0_8c (p0 : Int32) (p1 : Int32) (p2 : Int32) (p3 : Int32) (p4 : Int32) (v5_8c : Int32) : Int32 := (F0_22c p0 p1 p2 p3 p4 v5_8c ((1 : Int32) + (F1 (2 : Int32) (((p4.toUInt32 >>> ((2 : Int32) &&& 31).toUInt32).toInt32) &&& (3 : Int32)))))
def F0 (p0 : Int32) (p1 : Int32) (p2 : Int32) (p3 : Int32) (p4 : Int32) : Int32 := (F0_8c p0 p1 p2 p3 p4 ((1 : Int32) + (p4 &&& (3 : Int32))))
set_option maxRecDepth 65536 in
set_option maxHeartbeats 40000000 in
theorem rm0 (l : Launch) (Z : State) (az : Array Value) (hw : ∀ d ∈ tables_1, d.before az Z = true) (ws : List Jvm.Cond) (p0 : Int32) (p1 : Int32) (p2 : Int32) (p3 : Int32) (p4 : Int32)  (h0 : Heap) (n0 : Nat) (Z0 : n0 ≤ h0.size) :
    MetFree l x (head1 (Jvm.Cond.code x code maxLocals ret :: ws) room_1) (fun a U => a = #[(.int p0), (.int p1), (.int p2), (.int p3), (.int p4)] ∧ Z.Warmed39 U.vm ∧ U.heap = h0) (fun _ _ _ _ _ => True) (fun _ U o U' => ∃ v L, o = .returned v ∧ (QL (some (.int (F0 p0 p1 p2 p3 p4))) n0) v U'.heap L ∧ FrameEnd U o U' L room_1.cells room_1.slots) := by
  refine MetFree.of_bodySF (plainFor_of_name own_pn2) hisR ?_
  intro p e s m args below meth c s₁ Bd hml0 hP hK
  obtain ⟨rfl, hZ, hh⟩ := hP
  have hx := Bd.exec
  have hby := Bd.bytes
  have hml : c.maxLocals = 16 := hml0
  have hown : s.vm.findClass "com/example/susurrus/susurrus/KnownUnitsFindPinLaw" = some m.cls := findClass_of_methodNamed Bd.named
  have hnm := (name_of_methodNamed Bd.named Bd.method).1
  have hlk : meth.locks = false := BodyLoose.notSynchronized Bd
  have X0 : Stand p l e room_1 s m #[(.int p0), (.int p1), (.int p2), (.int p3), (.int p4)] below meth c s₁ [] 0 0 := Stand.of_body Bd
  have e0 : s₁.heap = h0 := by rw [← hh, Bd.state]; rfl
  have N0 := Fr.nil n0
  show Go p e below s (QL (some (.int (F0 p0 p1 p2 p3 p4))) n0) room_1.cells room_1.slots (s₁.setTop (entryFrame m #[(.int p0), (.int p1), (.int p2), (.int p3), (.int p4)] maxLocals))
  refine Go.of (fun t k => castTop (ef_0 m p0 p1 p2 p3 p4) k) ?_
  show Go p e below s _ _ _ (s₁.setTop (mkF m 0 #[.val (.int p0), .val (.int p1), .val (.int p2), .val (.int p3), .val (.int p4), .unset, .unset, .unset, .unset, .unset, .unset, .unset, .unset, .unset, .unset, .unset] []))
  unfold F0
  refine Go.of (fun t k => XS.iconst X0.here hx rfl (hb hby at_0) k) ?_
  refine Go.of (fun t k => XS.iload X0.here hx rfl (hb hby at_1) rfl k) ?_
  refine Go.of (fun t k => XS.iconst X0.here hx rfl (hb hby at_3) k) ?_
  show Go p e below s _ _ _ (s₁.setTop (mkF m 4 #[.val (.int p0), .val (.int p1), .val (.int p2), .val (.int p3), .val (.int p4), .unset, .unset, .unset, .unset, .unset, .unset, .unset, .unset, .unset, .unset, .unset] [(.int (3 : Int32)), (.int p4), (.int (1 : Int32))]))
  refine Go.of (fun t k => XS.iand X0.here hx rfl (hb hby at_4) rfl k) ?_
  show Go p e below s _ _ _ (s₁.setTop (mkF m 5 #[.val (.int p0), .val (.int p1), .val (.int p2), .val (.int p3), .val (.int p4), .unset, .unset, .unset, .unset, .unset, .unset, .unset, .unset, .unset, .unset, .unset] [(.int (p4 &&& (3 : Int32))), (.int (1 : Int32))]))
  refine Go.of (fun t k => XS.iadd X0.here hx rfl (hb hby at_5) rfl k) ?_
  show Go p e below s _ _ _ (s₁.setTop (mkF m 6 #[.val (.int p0), .val (.int p1), .val (.int p2), .val (.int p3), .val (.int p4), .unset, .unset, .unset, .unset, .unset, .unset, .unset, .unset, .unset, .unset, .unset] [(.int ((1 : Int32) + (p4 &&& (3 : Int32))))]))
  refine Go.of (fun t k => XS.istore X0.here hx rfl (hb hby at_6) rfl (l' := #[.val (.int p0), .val (.int p1), .val (.int p2), .val (.int p3), .val (.int p4), .val (.int ((1 : Int32) + (p4 &&& (3 : Int32)))), .unset, .unset, .unset, .unset, .unset, .unset, .unset, .unset, .unset, .unset]) rfl k) ?_
  show Go p e below s _ _ _ (s₁.setTop (mkF m 8 #[.val (.int p0), .val (.int p1), .val (.int p2), .val (.int p3), .val (.int p4), .val (.int ((1 : Int32) + (p4 &&& (3 : Int32)))), .unset, .unset, .unset, .unset, .unset, .unset, .unset, .unset, .unset, .unset] []))
  have jn8c : ∀ (v5_8c : Int32) (hr_8c : v5_8c = 1 ∨ v5_8c = 2 ∨ v5_8c = 3 ∨ v5_8c = 4), Go p e below s (QL (some (.int (F0_8c p0 p1 p2 p3 p4 v5_8c))) n0) room_1.cells room_1.slots (s₁.setTop (mkF m 8 #[.val (.int p0), .val (.int p1), .val (.int p2), .val (.int p3), .val (.int p4), .val (.int v5_8c), .unset, .unset, .unset, .unset, .unset, .unset, .unset, .unset, .unset, .unset] [])) := by
    intro v5_8c hr_8c
    unfold F0_8c
    refine Go.of (fun t k => XS.iconst X0.here hx rfl (hb hby at_8) k) ?_
    refine Go.of (fun t k => XS.iconst X0.here hx rfl (hb hby at_9) k) ?_
    refine Go.of (fun t k => XS.iload X0.here hx rfl (hb hby at_10) rfl k) ?_
    refine Go.of (fun t k => XS.iconst X0.here hx rfl (hb hby at_12) k) ?_
    show Go p e below s _ _ _ (s₁.setTop (mkF m 13 #[.val (.int p0), .val (.int p1), .val (.int p2), .val (.int p3), .val (.int p4), .val (.int v5_8c), .unset, .unset, .unset, .unset, .unset, .unset, .unset, .unset, .unset, .unset] [(.int (2 : Int32)), (.int p4), (.int (2 : Int32)), (.int (1 : Int32))]))
    refine Go.of (fun t k => XS.iushr X0.here hx rfl (hb hby at_13) rfl k) ?_
    show Go p e below s _ _ _ (s₁.setTop (mkF m 14 #[.val (.int p0), .val (.int p1), .val (.int p2), .val (.int p3), .val (.int p4), .val (.int v5_8c), .unset, .unset, .unset, .unset, .unset, .unset, .unset, .unset, .unset, .unset] [(.int ((p4.toUInt32 >>> ((2 : Int32) &&& 31).toUInt32).toInt32)), (.int (2 : Int32)), (.int (1 : Int32))]))
    refine Go.of (fun t k => XS.iconst X0.here hx rfl (hb hby at_14) k) ?_
    show Go p e below s _ _ _ (s₁.setTop (mkF m 15 #[.val (.int p0), .val (.int p1), .val (.int p2), .val (.int p3), .val (.int p4), .val (.int v5_8c), .unset, .unset, .unset, .unset, .unset, .unset, .unset, .unset, .unset, .unset] [(.int (3 : Int32)), (.int ((p4.toUInt32 >>> ((2 : Int32) &&& 31).toUInt32).toInt32)), (.int (2 : Int32)), (.int (1 : Int32))]))
    refine Go.of (fun t k => XS.iand X0.here hx rfl (hb hby at_15) rfl k) ?_
    show Go p e below s _ _ _ (s₁.setTop (mkF m 16 #[.val (.int p0), .val (.int p1), .val (.int p2), .val (.int p3), .val (.int p4), .val (.int v5_8c), .unset, .unset, .unset, .unset, .unset, .unset, .unset, .unset, .unset, .unset] [(.int (((p4.toUInt32 >>> ((2 : Int32) &&& 31).toUInt32).toInt32) &&& (3 : Int32))), (.int (2 : Int32)), (.int (1 : Int32))]))
    obtain ⟨_, _, ⟨T1, L1, k1, n1⟩, -, X1, ⟨Lc1, hQ1, l1, y1, z1⟩, st1⟩ := Jvm.LawKit.callS X0 hx (y := (⟨"java/lang/Math", "min", "(II)I"⟩ : MethodName)) hown (mvT hZ (hw _ (List.mem_of_getElem? (i := 0) rfl))) (mvT hZ (hw _ (List.mem_of_getElem? (i := 1) rfl))) (mvT hZ (hw _ (List.mem_of_getElem? (i := 2) rfl))) (mvT hZ (hw _ (List.mem_of_getElem? (i := 3) rfl))) (by decide) (backOf (W := 1) (rm1 l Z az hw [] (2 : Int32) (((p4.toUInt32 >>> ((2 : Int32) &&& 31).toUInt32).toInt32) &&& (3 : Int32)) h0 n0 Z0) hZ (hw _ (List.mem_of_getElem? (i := 3) rfl)) (hw _ (List.mem_of_getElem? (i := 2) rfl)) (by decide) (by decide)) (g := (mkF m 16 #[.val (.int p0), .val (.int p1), .val (.int p2), .val (.int p3), .val (.int p4), .val (.int v5_8c), .unset, .unset, .unset, .unset, .unset, .unset, .unset, .unset, .unset, .unset] [(.int (((p4.toUInt32 >>> ((2 : Int32) &&& 31).toUInt32).toInt32) &&& (3 : Int32))), (.int (2 : Int32)), (.int (1 : Int32))])) rfl (by rw [hml]; rfl) (argsL := [(.int (2 : Int32)), (.int (((p4.toUInt32 >>> ((2 : Int32) &&& 31).toUInt32).toInt32) &&& (3 : Int32)))]) (rest := [(.int (1 : Int32))]) (lenOf own_pd0 rfl) rfl (by show 2 * 0 + _ ≤ _; exact Nat.le_of_eq rfl) (hb hby at_16) (fun _ _ => ⟨rfl, e0, (by decide : 0 + 0 ≤ _), (by decide : 0 + 0 ≤ _)⟩)
    dsimp only [Pt.U, Pt.locs, Pt.cells, Pt.slots] at X1 l1 y1 z1 st1 hQ1
    subst l1 y1 z1
    obtain ⟨rfl, N1q, e1⟩ := hQ1
    have N1 := Fr.app N0 N1q
    refine Go.of st1 ?_
    show Go p e below s _ _ _ (T1.setTop (mkF m 19 #[.val (.int p0), .val (.int p1), .val (.int p2), .val (.int p3), .val (.int p4), .val (.int v5_8c), .unset, .unset, .unset, .unset, .unset, .unset, .unset, .unset, .unset, .unset] [(.int (F1 (2 : Int32) (((p4.toUInt32 >>> ((2 : Int32) &&& 31).toUInt32).toInt32) &&& (3 : Int32)))), (.int (1 : Int32))]))
    refine Go.of (fun t k => XS.iadd X1.here hx rfl (hb hby at_19) rfl k) ?_
    show Go p e below s _ _ _ (T1.setTop (mkF m 20 #[.val (.int p0), .val (.int p1), .val (.int p2), .val (.int p3), .val (.int p4), .val (.int v5_8c), .unset, .unset, .unset, .unset, .unset, .unset, .unset, .unset, .unset, .unset] [(.int ((1 : Int32) + (F1 (2 : Int32) (((p4.toUInt32 >>> ((2 : Int32) &&& 31).toUInt32).toInt32) &&& (3 : Int32)))))]))
    refine Go.of (fun t k => XS.istore X1.here hx rfl (hb hby at_20) rfl (l' := #[.val (.int p0), .val (.int p1), .val (.int p2), .val (.int p3), .val (.int p4), .val (.int v5_8c), .val (.int ((1 : Int32) + (F1 (2 : Int32) (((p4.toUInt32 >>> ((2 : Int32) &&& 31).toUInt32).toInt32) &&& (3 : Int32))))), .unset, .unset, .unset, .unset, .unset, .unset, .unset, .unset, .unset]) rfl k) ?_
    show Go p e below s _ _ _ (T1.setTop (mkF m 22 #[.val (.int p0), .val (.int p1), .val (.int p2), .val (.int p3), .val (.int p4), .val (.int v5_8c), .val (.int ((1 : Int32) + (F1 (2 : Int32) (((p4.toUInt32 >>> ((2 : Int32) &&& 31).toUInt32).toInt32) &&& (3 : Int32))))), .unset, .unset, .unset, .unset, .unset, .unset, .unset, .unset, .unset] []))
    have jn22c : ∀ (v6_22c : Int32) , Go p e below s (QL (some (.int (F0_22c p0 p1 p2 p3 p4 v5_8c v6_22c))) n0) room_1.cells room_1.slots (T1.setTop (mkF m 22 #[.val (.int p0), .val (.int p1), .val (.int p2), .val (.int p3), .val (.int p4), .val (.int v5_8c), .val (.int v6_22c), .unset, .unset, .unset, .unset, .unset, .unset, .unset, .unset, .unset] [])) := by
      intro v6_22c
      unfold F0_22c
      refine Go.of (fun t k => XS.iload X1.here hx rfl (hb hby at_22) rfl k) ?_
      refine Go.of (fun t k => XS.iconst X1.here hx rfl (hb hby at_24) k) ?_
      show Go p e below s _ _ _ (T1.setTop (mkF m 25 #[.val (.int p0), .val (.int p1), .val (.int p2), .val (.int p3), .val (.int p4), .val (.int v5_8c), .val (.int v6_22c), .unset, .unset, .unset, .unset, .unset, .unset, .unset, .unset, .unset] [(.int (4 : Int32)), (.int p4)]))
      refine Go.of (fun t k => XS.iushr X1.here hx rfl (hb hby at_25) rfl k) ?_
      show Go p e below s _ _ _ (T1.setTop (mkF m 26 #[.val (.int p0), .val (.int p1), .val (.int p2), .val (.int p3), .val (.int p4), .val (.int v5_8c), .val (.int v6_22c), .unset, .unset, .unset, .unset, .unset, .unset, .unset, .unset, .unset] [(.int ((p4.toUInt32 >>> ((4 : Int32) &&& 31).toUInt32).toInt32))]))
      refine Go.of (fun t k => XS.iconst X1.here hx rfl (hb hby at_26) k) ?_
      show Go p e below s _ _ _ (T1.setTop (mkF m 27 #[.val (.int p0), .val (.int p1), .val (.int p2), .val (.int p3), .val (.int p4), .val (.int v5_8c), .val (.int v6_22c), .unset, .unset, .unset, .unset, .unset, .unset, .unset, .unset, .unset] [(.int (3 : Int32)), (.int ((p4.toUInt32 >>> ((4 : Int32) &&& 31).toUInt32).toInt32))]))
      refine Go.of (fun t k => XS.iand X1.here hx rfl (hb hby at_27) rfl k) ?_
      show Go p e below s _ _ _ (T1.setTop (mkF m 28 #[.val (.int p0), .val (.int p1), .val (.int p2), .val (.int p3), .val (.int p4), .val (.int v5_8c), .val (.int v6_22c), .unset, .unset, .unset, .unset, .unset, .unset, .unset, .unset, .unset] [(.int (((p4.toUInt32 >>> ((4 : Int32) &&& 31).toUInt32).toInt32) &&& (3 : Int32)))]))
      refine Go.of (fun t k => XS.istore X1.here hx rfl (hb hby at_28) rfl (l' := #[.val (.int p0), .val (.int p1), .val (.int p2), .val (.int p3), .val (.int p4), .val (.int v5_8c), .val (.int v6_22c), .val (.int (((p4.toUInt32 >>> ((4 : Int32) &&& 31).toUInt32).toInt32) &&& (3 : Int32))), .unset, .unset, .unset, .unset, .unset, .unset, .unset, .unset]) rfl k) ?_
      refine Go.of (fun t k => XS.iload X1.here hx rfl (hb hby at_30) rfl k) ?_
      refine Go.of (fun t k => XS.bipush X1.here hx rfl (hb hby at_32) k) ?_
      show Go p e below s _ _ _ (T1.setTop (mkF m 34 #[.val (.int p0), .val (.int p1), .val (.int p2), .val (.int p3), .val (.int p4), .val (.int v5_8c), .val (.int v6_22c), .val (.int (((p4.toUInt32 >>> ((4 : Int32) &&& 31).toUInt32).toInt32) &&& (3 : Int32))), .unset, .unset, .unset, .unset, .unset, .unset, .unset, .unset] [(.int (6 : Int32)), (.int p4)]))
      refine Go.of (fun t k => XS.iushr X1.here hx rfl (hb hby at_34) rfl k) ?_
      show Go p e below s _ _ _ (T1.setTop (mkF m 35 #[.val (.int p0), .val (.int p1), .val (.int p2), .val (.int p3), .val (.int p4), .val (.int v5_8c), .val (.int v6_22c), .val (.int (((p4.toUInt32 >>> ((4 : Int32) &&& 31).toUInt32).toInt32) &&& (3 : Int32))), .unset, .unset, .unset, .unset, .unset, .unset, .unset, .unset] [(.int ((p4.toUInt32 >>> ((6 : Int32) &&& 31).toUInt32).toInt32))]))
      refine Go.of (fun t k => XS.iconst X1.here hx rfl (hb hby at_35) k) ?_
      show Go p e below s _ _ _ (T1.setTop (mkF m 36 #[.val (.int p0), .val (.int p1), .val (.int p2), .val (.int p3), .val (.int p4), .val (.int v5_8c), .val (.int v6_22c), .val (.int (((p4.toUInt32 >>> ((4 : Int32) &&& 31).toUInt32).toInt32) &&& (3 : Int32))), .unset, .unset, .unset, .unset, .unset, .unset, .unset, .unset] [(.int (3 : Int32)), (.int ((p4.toUInt32 >>> ((6 : Int32) &&& 31).toUInt32).toInt32))]))
      refine Go.of (fun t k => XS.iand X1.here hx rfl (hb hby at_36) rfl k) ?_
      show Go p e below s _ _ _ (T1.setTop (mkF m 37 #[.val (.int p0), .val (.int p1), .val (.int p2), .val (.int p3), .val (.int p4), .val (.int v5_8c), .val (.int v6_22c), .val (.int (((p4.toUInt32 >>> ((4 : Int32) &&& 31).toUInt32).toInt32) &&& (3 : Int32))), .unset, .unset, .unset, .unset, .unset, .unset, .unset, .unset] [(.int (((p4.toUInt32 >>> ((6 : Int32) &&& 31).toUInt32).toInt32) &&& (3 : Int32)))]))
      refine Go.of (fun t k => XS.istore X1.here hx rfl (hb hby at_37) rfl (l' := #[.val (.int p0), .val (.int p1), .val (.int p2), .val (.int p3), .val (.int p4), .val (.int v5_8c), .val (.int v6_22c), .val (.int (((p4.toUInt32 >>> ((4 : Int32) &&& 31).toUInt32).toInt32) &&& (3 : Int32))), .val (.int (((p4.toUInt32 >>> ((6 : Int32) &&& 31).toUInt32).toInt32) &&& (3 : Int32))), .unset, .unset, .unset, .unset, .unset, .unset, .unset]) rfl k) ?_
      refine Go.of (fun t k => XS.iloadN X1.here hx rfl (hb hby at_39) rfl k) ?_
      refine Go.of (fun t k => XS.istore X1.here hx rfl (hb hby at_40) rfl (l' := #[.val (.int p0), .val (.int p1), .val (.int p2), .val (.int p3), .val (.int p4), .val (.int v5_8c), .val (.int v6_22c), .val (.int (((p4.toUInt32 >>> ((4 : Int32) &&& 31).toUInt32).toInt32) &&& (3 : Int32))), .val (.int (((p4.toUInt32 >>> ((6 : Int32) &&& 31).toUInt32).toInt32) &&& (3 : Int32))), .val (.int p0), .unset, .unset, .unset, .unset, .unset, .unset]) rfl k) ?_
      refine Go.of (fun t k => XS.iload X1.here hx rfl (hb hby at_42) rfl k) ?_
      refine Go.of (fun t k => XS.iconst X1.here hx rfl (hb hby at_44) k) ?_
      show Go p e below s _ _ _ (T1.setTop (mkF m 45 #[.val (.int p0), .val (.int p1), .val (.int p2), .val (.int p3), .val (.int p4), .val (.int v5_8c), .val (.int v6_22c), .val (.int (((p4.toUInt32 >>> ((4 : Int32) &&& 31).toUInt32).toInt32) &&& (3 : Int32))), .val (.int (((p4.toUInt32 >>> ((6 : Int32) &&& 31).toUInt32).toInt32) &&& (3 : Int32))), .val (.int p0), .unset, .unset, .unset, .unset, .unset, .unset] [(.int (1 : Int32)), (.int (((p4.toUInt32 >>> ((4 : Int32) &&& 31).toUInt32).toInt32) &&& (3 : Int32)))]))
      have jn53 : ∀ (w0_53 : Int32) (T_53 : State) (l_53 : List Loc) (X_53 : Stand p l e room_1 s m #[(.int p0), (.int p1), (.int p2), (.int p3), (.int p4)] below meth c T_53 l_53 0 0) (e_53 : T_53.heap = h0) (N_53 : Fr n0 l_53), Go p e below s (QL (some (.int (F0_53 p0 p2 p3 p4 v5_8c v6_22c w0_53))) n0) room_1.cells room_1.slots (T_53.setTop (mkF m 53 #[.val (.int p0), .val (.int p1), .val (.int p2), .val (.int p3), .val (.int p4), .val (.int v5_8c), .val (.int v6_22c), .val (.int (((p4.toUInt32 >>> ((4 : Int32) &&& 31).toUInt32).toInt32) &&& (3 : Int32))), .val (.int (((p4.toUInt32 >>> ((6 : Int32) &&& 31).toUInt32).toInt32) &&& (3 : Int32))), .val (.int p0), .unset, .unset, .unset, .unset, .unset, .unset] [(.int w0_53)])) := by
        intro w0_53 T_53 l_53 X_53 e_53 N_53
        unfold F0_53
        refine Go.of (fun t k => XS.istore X_53.here hx rfl (hb hby at_53) rfl (l' := #[.val (.int p0), .val (.int p1), .val (.int p2), .val (.int p3), .val (.int p4), .val (.int v5_8c), .val (.int v6_22c), .val (.int (((p4.toUInt32 >>> ((4 : Int32) &&& 31).toUInt32).toInt32) &&& (3 : Int32))), .val (.int (((p4.toUInt32 >>> ((6 : Int32) &&& 31).toUInt32).toInt32) &&& (3 : Int32))), .val (.int p0), .val (.int w0_53), .unset, .unset, .unset, .unset, .unset]) rfl k) ?_
        refine Go.of (fun t k => XS.iload X_53.here hx rfl (hb hby at_55) rfl k) ?_
        refine Go.of (fun t k => XS.iconst X_53.here hx rfl (hb hby at_57) k) ?_
        show Go p e below s _ _ _ (T_53.setTop (mkF m 58 #[.val (.int p0), .val (.int p1), .val (.int p2), .val (.int p3), .val (.int p4), .val (.int v5_8c), .val (.int v6_22c), .val (.int (((p4.toUInt32 >>> ((4 : Int32) &&& 31).toUInt32).toInt32) &&& (3 : Int32))), .val (.int (((p4.toUInt32 >>> ((6 : Int32) &&& 31).toUInt32).toInt32) &&& (3 : Int32))), .val (.int p0), .val (.int w0_53), .unset, .unset, .unset, .unset, .unset] [(.int (2 : Int32)), (.int (((p4.toUInt32 >>> ((4 : Int32) &&& 31).toUInt32).toInt32) &&& (3 : Int32)))]))
        have jn77 : ∀ (w0_77 : Int32) (T_77 : State) (l_77 : List Loc) (X_77 : Stand p l e room_1 s m #[(.int p0), (.int p1), (.int p2), (.int p3), (.int p4)] below meth c T_77 l_77 0 0) (e_77 : T_77.heap = h0) (N_77 : Fr n0 l_77), Go p e below s (QL (some (.int (F0_77 p0 p3 p4 v5_8c v6_22c w0_53 w0_77))) n0) room_1.cells room_1.slots (T_77.setTop (mkF m 77 #[.val (.int p0), .val (.int p1), .val (.int p2), .val (.int p3), .val (.int p4), .val (.int v5_8c), .val (.int v6_22c), .val (.int (((p4.toUInt32 >>> ((4 : Int32) &&& 31).toUInt32).toInt32) &&& (3 : Int32))), .val (.int (((p4.toUInt32 >>> ((6 : Int32) &&& 31).toUInt32).toInt32) &&& (3 : Int32))), .val (.int p0), .val (.int w0_53), .unset, .unset, .unset, .unset, .unset] [(.int w0_77)])) := by
          intro w0_77 T_77 l_77 X_77 e_77 N_77
          unfold F0_77
          refine Go.of (fun t k => XS.istore X_77.here hx rfl (hb hby at_77) rfl (l' := #[.val (.int p0), .val (.int p1), .val (.int p2), .val (.int p3), .val (.int p4), .val (.int v5_8c), .val (.int v6_22c), .val (.int (((p4.toUInt32 >>> ((4 : Int32) &&& 31).toUInt32).toInt32) &&& (3 : Int32))), .val (.int (((p4.toUInt32 >>> ((6 : Int32) &&& 31).toUInt32).toInt32) &&& (3 : Int32))), .val (.int p0), .val (.int w0_53), .val (.int w0_77), .unset, .unset, .unset, .unset]) rfl k) ?_
          refine Go.of (fun t k => XS.iload X_77.here hx rfl (hb hby at_79) rfl k) ?_
          show Go p e below s _ _ _ (T_77.setTop (mkF m 81 #[.val (.int p0), .val (.int p1), .val (.int p2), .val (.int p3), .val (.int p4), .val (.int v5_8c), .val (.int v6_22c), .val (.int (((p4.toUInt32 >>> ((4 : Int32) &&& 31).toUInt32).toInt32) &&& (3 : Int32))), .val (.int (((p4.toUInt32 >>> ((6 : Int32) &&& 31).toUInt32).toInt32) &&& (3 : Int32))), .val (.int p0), .val (.int w0_53), .val (.int w0_77), .unset, .unset, .unset, .unset] [(.int (((p4.toUInt32 >>> ((6 : Int32) &&& 31).toUInt32).toInt32) &&& (3 : Int32)))]))
          have jn112 : ∀ (w0_112 : Int32) (T_112 : State) (l_112 : List Loc) (X_112 : Stand p l e room_1 s m #[(.int p0), (.int p1), (.int p2), (.int p3), (.int p4)] below meth c T_112 l_112 0 0) (e_112 : T_112.heap = h0) (N_112 : Fr n0 l_112), Go p e below s (QL (some (.int (F0_112 p0 v5_8c v6_22c w0_53 w0_77 w0_112))) n0) room_1.cells room_1.slots (T_112.setTop (mkF m 112 #[.val (.int p0), .val (.int p1), .val (.int p2), .val (.int p3), .val (.int p4), .val (.int v5_8c), .val (.int v6_22c), .val (.int (((p4.toUInt32 >>> ((4 : Int32) &&& 31).toUInt32).toInt32) &&& (3 : Int32))), .val (.int (((p4.toUInt32 >>> ((6 : Int32) &&& 31).toUInt32).toInt32) &&& (3 : Int32))), .val (.int p0), .val (.int w0_53), .val (.int w0_77), .unset, .unset, .unset, .unset] [(.int w0_112)])) := by
            intro w0_112 T_112 l_112 X_112 e_112 N_112
            unfold F0_112
            refine Go.of (fun t k => XS.istore X_112.here hx rfl (hb hby at_112) rfl (l' := #[.val (.int p0), .val (.int p1), .val (.int p2), .val (.int p3), .val (.int p4), .val (.int v5_8c), .val (.int v6_22c), .val (.int (((p4.toUInt32 >>> ((4 : Int32) &&& 31).toUInt32).toInt32) &&& (3 : Int32))), .val (.int (((p4.toUInt32 >>> ((6 : Int32) &&& 31).toUInt32).toInt32) &&& (3 : Int32))), .val (.int p0), .val (.int w0_53), .val (.int w0_77), .val (.int w0_112), .unset, .unset, .unset]) rfl k) ?_
            show Go p e below s _ _ _ (T_112.setTop (mkF m 114 #[.val (.int p0), .val (.int p1), .val (.int p2), .val (.int p3), .val (.int p4), .val (.int v5_8c), .val (.int v6_22c), .val (.int (((p4.toUInt32 >>> ((4 : Int32) &&& 31).toUInt32).toInt32) &&& (3 : Int32))), .val (.int (((p4.toUInt32 >>> ((6 : Int32) &&& 31).toUInt32).toInt32) &&& (3 : Int32))), .val (.int p0), .val (.int w0_53), .val (.int w0_77), .val (.int w0_112), .unset, .unset, .unset] []))
            by_cases hs114_1 : v5_8c = (1 : Int32)
            · rewrite [if_pos hs114_1]
              subst hs114_1
              obtain ⟨T2, h2, X2, e2, E2, A2, D2, -, st2⟩ := newO X_112 hx hZ hown (hw _ (List.mem_of_getElem? (i := 4) rfl)) (hw _ (List.mem_of_getElem? (i := 5) rfl)) (hw _ (List.mem_of_getElem? (i := 6) rfl)) e_112 (g := (mkF m 114 #[.val (.int p0), .val (.int p1), .val (.int p2), .val (.int p3), .val (.int p4), .val (.int (1 : Int32)), .val (.int v6_22c), .val (.int (((p4.toUInt32 >>> ((4 : Int32) &&& 31).toUInt32).toInt32) &&& (3 : Int32))), .val (.int (((p4.toUInt32 >>> ((6 : Int32) &&& 31).toUInt32).toInt32) &&& (3 : Int32))), .val (.int p0), .val (.int w0_53), .val (.int w0_77), .val (.int w0_112), .unset, .unset, .unset] [])) rfl (hb hby at_114) (by decide) (by decide)
              obtain ⟨b2, ga2⟩ : ∃ z, z = h0.size := ⟨_, rfl⟩
              rw [← ga2] at A2 D2 st2
              have g_b2 : n0 ≤ b2 := Nat.le_trans Z0 (Nat.le_of_eq ga2.symm)
              have f3 : Fld Z h2 b2 "com/example/susurrus/susurrus/KnownUnits" "units" "[I" .null := D2 (Or.inl (hw _ (List.mem_of_getElem? (i := 15) rfl))) (ty := (.array .int)) (by decide)
              have f4 : Fld Z h2 b2 "com/example/susurrus/susurrus/KnownUnits" "aggregates" "[I" .null := D2 (Or.inl (hw _ (List.mem_of_getElem? (i := 17) rfl))) (ty := (.array .int)) (by decide)
              have f5 : Fld Z h2 b2 "com/example/susurrus/susurrus/KnownUnits" "senders" "[I" .null := D2 (Or.inl (hw _ (List.mem_of_getElem? (i := 19) rfl))) (ty := (.array .int)) (by decide)
              have f6 : Fld Z h2 b2 "com/example/susurrus/susurrus/KnownUnits" "starts" "[I" .null := D2 (Or.inr (hw _ (List.mem_of_getElem? (i := 21) rfl))) (ty := (.array .int)) (by decide)
              have f7 : Fld Z h2 b2 "com/example/susurrus/susurrus/KnownUnits" "rooms" "[I" .null := D2 (Or.inr (hw _ (List.mem_of_getElem? (i := 23) rfl))) (ty := (.array .int)) (by decide)
              have f8 : Fld Z h2 b2 "com/example/susurrus/susurrus/KnownUnits" "counts" "[I" .null := D2 (Or.inr (hw _ (List.mem_of_getElem? (i := 25) rfl))) (ty := (.array .int)) (by decide)
              have f9 : Fld Z h2 b2 "com/example/susurrus/susurrus/KnownUnits" "used" "I" (.int (0 : Int32)) := D2 (Or.inl (hw _ (List.mem_of_getElem? (i := 36) rfl))) (ty := .int) (by decide)
              have Zz2 := Nat.le_trans Z0 E2.1
              refine Go.of st2 ?_
              show Go p e below s _ _ _ (T2.setTop (mkF m 117 #[.val (.int p0), .val (.int p1), .val (.int p2), .val (.int p3), .val (.int p4), .val (.int (1 : Int32)), .val (.int v6_22c), .val (.int (((p4.toUInt32 >>> ((4 : Int32) &&& 31).toUInt32).toInt32) &&& (3 : Int32))), .val (.int (((p4.toUInt32 >>> ((6 : Int32) &&& 31).toUInt32).toInt32) &&& (3 : Int32))), .val (.int p0), .val (.int w0_53), .val (.int w0_77), .val (.int w0_112), .unset, .unset, .unset] [(.ref b2)]))
              refine Go.of (fun t k => XS.dup X2.here hx rfl (hb hby at_117) rfl rfl k) ?_
              refine Go.of (fun t k => XS.iconst X2.here hx rfl (hb hby at_118) k) ?_
              show Go p e below s _ _ _ (T2.setTop (mkF m 119 #[.val (.int p0), .val (.int p1), .val (.int p2), .val (.int p3), .val (.int p4), .val (.int (1 : Int32)), .val (.int v6_22c), .val (.int (((p4.toUInt32 >>> ((4 : Int32) &&& 31).toUInt32).toInt32) &&& (3 : Int32))), .val (.int (((p4.toUInt32 >>> ((6 : Int32) &&& 31).toUInt32).toInt32) &&& (3 : Int32))), .val (.int p0), .val (.int w0_53), .val (.int w0_77), .val (.int w0_112), .unset, .unset, .unset] [(.int (2 : Int32)), (.ref b2), (.ref b2)]))
              obtain ⟨_, _, ⟨T10, L10, k10, n10⟩, -, X10, ⟨Lc10, hQ10, l10, y10, z10⟩, st10⟩ := X2.specialBack hx (y := (⟨"com/example/susurrus/susurrus/KnownUnits", "<init>", "(I)V"⟩ : MethodName)) rfl hown (mvT hZ (hw _ (List.mem_of_getElem? (i := 7) rfl))) (mvT hZ (hw _ (List.mem_of_getElem? (i := 8) rfl))) (mvT hZ (hw _ (List.mem_of_getElem? (i := 9) rfl))) (by decide) (backOf (W := 1) (rm2 l Z az hw [] b2 h2 n0 Zz2 A2 f3 f4 f5 f6 f7 f8 f9 g_b2) hZ (hw _ (List.mem_of_getElem? (i := 9) rfl)) (hw _ (List.mem_of_getElem? (i := 6) rfl)) (by decide) (by decide)) (g := (mkF m 119 #[.val (.int p0), .val (.int p1), .val (.int p2), .val (.int p3), .val (.int p4), .val (.int (1 : Int32)), .val (.int v6_22c), .val (.int (((p4.toUInt32 >>> ((4 : Int32) &&& 31).toUInt32).toInt32) &&& (3 : Int32))), .val (.int (((p4.toUInt32 >>> ((6 : Int32) &&& 31).toUInt32).toInt32) &&& (3 : Int32))), .val (.int p0), .val (.int w0_53), .val (.int w0_77), .val (.int w0_112), .unset, .unset, .unset] [(.int (2 : Int32)), (.ref b2), (.ref b2)])) rfl (by rw [hml]; rfl) (Steps.refl _) (a := b2) (argsL := [(.int (2 : Int32))]) (rest := [(.ref b2)]) (lenOf own_pd5 rfl) rfl (by show 2 * 0 + _ ≤ _; exact Nat.le_of_eq rfl) (hb hby at_119) (fun _ _ => ⟨rfl, e2, (by decide : 1 + 6 ≤ _), (by decide : 7 + 6 ≤ _)⟩)
              dsimp only [Pt.U, Pt.locs, Pt.cells, Pt.slots] at X10 l10 y10 z10 st10 hQ10
              subst l10 y10 z10
              obtain ⟨rfl, N10q, xu11, xg11, xd11, xt11, xr11, xc11, kxu11, kxg11, kxd11, kxt11, kxr11, kxc11, hK11⟩ := hQ10
              have N10 := Fr.app N_112 N10q
              obtain ⟨E_12, Ff0_12, Ff1_12, Ff2_12, Ff3_12, Ff4_12, Ff5_12, Ff6_12, Vv0_12, Vv1_12, Vv2_12, Vv3_12, Vv4_12, Vv5_12, g_b2, g_xu11, g_xg11, g_xd11, g_xt11, g_xr11, g_xc11, Zk12, ne_0_1_12, ne_0_2_12, ne_0_3_12, ne_0_4_12, ne_0_5_12, ne_0_6_12, ne_1_2_12, ne_1_3_12, ne_1_4_12, ne_1_5_12, ne_1_6_12, ne_2_3_12, ne_2_4_12, ne_2_5_12, ne_2_6_12, ne_3_4_12, ne_3_5_12, ne_3_6_12, ne_4_5_12, ne_4_6_12, ne_5_6_12⟩ := id hK11
              refine Go.of (fun t k => st10.trans k) ?_
              show Go p e below s _ _ _ (T10.setTop (mkF m 122 #[.val (.int p0), .val (.int p1), .val (.int p2), .val (.int p3), .val (.int p4), .val (.int (1 : Int32)), .val (.int v6_22c), .val (.int (((p4.toUInt32 >>> ((4 : Int32) &&& 31).toUInt32).toInt32) &&& (3 : Int32))), .val (.int (((p4.toUInt32 >>> ((6 : Int32) &&& 31).toUInt32).toInt32) &&& (3 : Int32))), .val (.int p0), .val (.int w0_53), .val (.int w0_77), .val (.int w0_112), .unset, .unset, .unset] [(.ref b2)]))
              refine Go.of (fun t k => XS.astore X10.here hx rfl (hb hby at_122) rfl rfl (l' := #[.val (.int p0), .val (.int p1), .val (.int p2), .val (.int p3), .val (.int p4), .val (.int (1 : Int32)), .val (.int v6_22c), .val (.int (((p4.toUInt32 >>> ((4 : Int32) &&& 31).toUInt32).toInt32) &&& (3 : Int32))), .val (.int (((p4.toUInt32 >>> ((6 : Int32) &&& 31).toUInt32).toInt32) &&& (3 : Int32))), .val (.int p0), .val (.int w0_53), .val (.int w0_77), .val (.int w0_112), .val (.ref b2), .unset, .unset]) rfl k) ?_
              refine Go.of (fun t k => XS.aload X10.here hx rfl (hb hby at_124) rfl rfl k) ?_
              refine Go.of (fun t k => XS.iconst X10.here hx rfl (hb hby at_126) k) ?_
              refine Go.of (fun t k => XS.iload X10.here hx rfl (hb hby at_127) rfl k) ?_
              refine Go.of (fun t k => XS.iconst X10.here hx rfl (hb hby at_129) k) ?_
              refine Go.of (fun t k => XS.iload X10.here hx rfl (hb hby at_130) rfl k) ?_
              show Go p e below s _ _ _ (T10.setTop (mkF m 132 #[.val (.int p0), .val (.int p1), .val (.int p2), .val (.int p3), .val (.int p4), .val (.int (1 : Int32)), .val (.int v6_22c), .val (.int (((p4.toUInt32 >>> ((4 : Int32) &&& 31).toUInt32).toInt32) &&& (3 : Int32))), .val (.int (((p4.toUInt32 >>> ((6 : Int32) &&& 31).toUInt32).toInt32) &&& (3 : Int32))), .val (.int p0), .val (.int w0_53), .val (.int w0_77), .val (.int w0_112), .val (.ref b2), .unset, .unset] [(.int (1 : Int32)), (.int (0 : Int32)), (.int p0), (.int (0 : Int32)), (.ref b2)]))
              obtain ⟨cq13, kq13, q13a, q13b, q13c⟩ := isOf hZ rfl E_12
              obtain ⟨_, _, ⟨T13, L13, k13, n13⟩, -, X13, ⟨Lc13, hQ13, l13, y13, z13⟩, st13⟩ := X10.virtualBack hx (y := (⟨"com/example/susurrus/susurrus/KnownUnits", "start", "(IIII)V"⟩ : MethodName)) (z := (⟨"com/example/susurrus/susurrus/KnownUnits", "start", "(IIII)V"⟩ : MethodName)) hown (mvT hZ (hw _ (List.mem_of_getElem? (i := 26) rfl))) (mvT hZ (hw _ (List.mem_of_getElem? (i := 27) rfl))) (notFace_of_selects (args := #[]) (mvT hZ (hw _ (List.mem_of_getElem? (i := 29) rfl)))) (mvT hZ (hw _ (List.mem_of_getElem? (i := 29) rfl))) (mvT hZ (hw _ (List.mem_of_getElem? (i := 28) rfl))) (by decide) (backOf (W := 0) (rm4 l Z az hw [] b2 (0 : Int32) p0 (0 : Int32) (1 : Int32) xu11 xg11 xd11 xt11 xr11 xc11 kxu11 kxg11 kxd11 kxt11 kxr11 kxc11 (0 : Int32) ([] : List Int32) ([] : List Int32) ([] : List Int32) [(0 : Int32), (0 : Int32)] [(0 : Int32), (0 : Int32)] [(0 : Int32), (0 : Int32)] (0 : Int32) T10.heap n0 Zk12 ⟨E_12, Ff0_12, Ff1_12, Ff2_12, Ff3_12, Ff4_12, Ff5_12, Ff6_12, Vv0_12, Vv1_12, Vv2_12, Vv3_12, Vv4_12, Vv5_12, g_b2, g_xu11, g_xg11, g_xd11, g_xt11, g_xr11, g_xc11, Zk12, ne_0_1_12, ne_0_2_12, ne_0_3_12, ne_0_4_12, ne_0_5_12, ne_0_6_12, ne_1_2_12, ne_1_3_12, ne_1_4_12, ne_1_5_12, ne_1_6_12, ne_2_3_12, ne_2_4_12, ne_2_5_12, ne_2_6_12, ne_3_4_12, ne_3_5_12, ne_3_6_12, ne_4_5_12, ne_4_6_12, ne_5_6_12⟩ (by decide) (by decide) (by decide) (by decide)) hZ (hw _ (List.mem_of_getElem? (i := 30) rfl)) (hw _ (List.mem_of_getElem? (i := 6) rfl)) (by decide) (by decide)) q13a q13c (g := (mkF m 132 #[.val (.int p0), .val (.int p1), .val (.int p2), .val (.int p3), .val (.int p4), .val (.int (1 : Int32)), .val (.int v6_22c), .val (.int (((p4.toUInt32 >>> ((4 : Int32) &&& 31).toUInt32).toInt32) &&& (3 : Int32))), .val (.int (((p4.toUInt32 >>> ((6 : Int32) &&& 31).toUInt32).toInt32) &&& (3 : Int32))), .val (.int p0), .val (.int w0_53), .val (.int w0_77), .val (.int w0_112), .val (.ref b2), .unset, .unset] [(.int (1 : Int32)), (.int (0 : Int32)), (.int p0), (.int (0 : Int32)), (.ref b2)])) rfl (by rw [hml]; rfl) (Steps.refl _) (argsL := [(.int (0 : Int32)), (.int p0), (.int (0 : Int32)), (.int (1 : Int32))]) (rest := []) (lenOf own_pd6 rfl) rfl (by show 2 * 0 + _ ≤ _; exact Nat.le_of_eq rfl) (hb hby at_132) (fun _ _ => ⟨rfl, rfl, (by decide : 7 + 3 ≤ _), (by decide : 13 + 24 ≤ _)⟩)
              dsimp only [Pt.U, Pt.locs, Pt.cells, Pt.slots] at X13 l13 y13 z13 st13 hQ13
              subst l13 y13 z13
              obtain ⟨rfl, N13q, bu14, bg14, bd14, ku14, kg14, kd14, hK14⟩ := hQ13
              have N13 := Fr.app N10 N13q
              have hS14 : own_K Z T13.heap n0 b2 bu14 bg14 bd14 xt11 xr11 xc11 ku14 kg14 kd14 kxt11 kxr11 kxc11 (1 : Int32) [p0, (0 : Int32), (0 : Int32), (0 : Int32), (0 : Int32), (0 : Int32), (0 : Int32), (0 : Int32)] [(0 : Int32), (0 : Int32), (0 : Int32), (0 : Int32), (0 : Int32), (0 : Int32), (0 : Int32), (0 : Int32)] [(-1 : Int32), (0 : Int32), (0 : Int32), (0 : Int32), (0 : Int32), (0 : Int32), (0 : Int32), (0 : Int32)] [(0 : Int32), (0 : Int32)] [(1 : Int32), (0 : Int32)] [(1 : Int32), (0 : Int32)] (1 : Int32) := hK14
              obtain ⟨E_15, Ff0_15, Ff1_15, Ff2_15, Ff3_15, Ff4_15, Ff5_15, Ff6_15, Vv0_15, Vv1_15, Vv2_15, Vv3_15, Vv4_15, Vv5_15, g_b2, g_bu14, g_bg14, g_bd14, g_xt11, g_xr11, g_xc11, Zk15, ne_0_1_15, ne_0_2_15, ne_0_3_15, ne_0_4_15, ne_0_5_15, ne_0_6_15, ne_1_2_15, ne_1_3_15, ne_1_4_15, ne_1_5_15, ne_1_6_15, ne_2_3_15, ne_2_4_15, ne_2_5_15, ne_2_6_15, ne_3_4_15, ne_3_5_15, ne_3_6_15, ne_4_5_15, ne_4_6_15, ne_5_6_15⟩ := id hS14
              refine Go.of (fun t k => st13.trans k) ?_
              show Go p e below s _ _ _ (T13.setTop (mkF m 135 #[.val (.int p0), .val (.int p1), .val (.int p2), .val (.int p3), .val (.int p4), .val (.int (1 : Int32)), .val (.int v6_22c), .val (.int (((p4.toUInt32 >>> ((4 : Int32) &&& 31).toUInt32).toInt32) &&& (3 : Int32))), .val (.int (((p4.toUInt32 >>> ((6 : Int32) &&& 31).toUInt32).toInt32) &&& (3 : Int32))), .val (.int p0), .val (.int w0_53), .val (.int w0_77), .val (.int w0_112), .val (.ref b2), .unset, .unset] []))
              refine Go.of (fun t k => XS.aload X13.here hx rfl (hb hby at_135) rfl rfl k) ?_
              refine Go.of (fun t k => XS.iconst X13.here hx rfl (hb hby at_137) k) ?_
              refine Go.of (fun t k => XS.iload X13.here hx rfl (hb hby at_138) rfl k) ?_
              refine Go.of (fun t k => XS.iconst X13.here hx rfl (hb hby at_140) k) ?_
              refine Go.of (fun t k => XS.iconst X13.here hx rfl (hb hby at_141) k) ?_
              show Go p e below s _ _ _ (T13.setTop (mkF m 142 #[.val (.int p0), .val (.int p1), .val (.int p2), .val (.int p3), .val (.int p4), .val (.int (1 : Int32)), .val (.int v6_22c), .val (.int (((p4.toUInt32 >>> ((4 : Int32) &&& 31).toUInt32).toInt32) &&& (3 : Int32))), .val (.int (((p4.toUInt32 >>> ((6 : Int32) &&& 31).toUInt32).toInt32) &&& (3 : Int32))), .val (.int p0), .val (.int w0_53), .val (.int w0_77), .val (.int w0_112), .val (.ref b2), .unset, .unset] [(.int (1 : Int32)), (.int (0 : Int32)), (.int w0_112), (.int (1 : Int32)), (.ref b2)]))
              obtain ⟨cq16, kq16, q16a, q16b, q16c⟩ := isOf hZ rfl E_15
              obtain ⟨_, _, ⟨T16, L16, k16, n16⟩, -, X16, ⟨Lc16, hQ16, l16, y16, z16⟩, st16⟩ := X13.virtualBack hx (y := (⟨"com/example/susurrus/susurrus/KnownUnits", "start", "(IIII)V"⟩ : MethodName)) (z := (⟨"com/example/susurrus/susurrus/KnownUnits", "start", "(IIII)V"⟩ : MethodName)) hown (mvT hZ (hw _ (List.mem_of_getElem? (i := 26) rfl))) (mvT hZ (hw _ (List.mem_of_getElem? (i := 27) rfl))) (notFace_of_selects (args := #[]) (mvT hZ (hw _ (List.mem_of_getElem? (i := 29) rfl)))) (mvT hZ (hw _ (List.mem_of_getElem? (i := 29) rfl))) (mvT hZ (hw _ (List.mem_of_getElem? (i := 28) rfl))) (by decide) (backOf (W := 0) (rm4 l Z az hw [] b2 (1 : Int32) w0_112 (0 : Int32) (1 : Int32) bu14 bg14 bd14 xt11 xr11 xc11 ku14 kg14 kd14 kxt11 kxr11 kxc11 (1 : Int32) [p0, (0 : Int32), (0 : Int32), (0 : Int32), (0 : Int32), (0 : Int32), (0 : Int32), (0 : Int32)] [(0 : Int32), (0 : Int32), (0 : Int32), (0 : Int32), (0 : Int32), (0 : Int32), (0 : Int32), (0 : Int32)] [(-1 : Int32), (0 : Int32), (0 : Int32), (0 : Int32), (0 : Int32), (0 : Int32), (0 : Int32), (0 : Int32)] [(0 : Int32), (0 : Int32)] [(1 : Int32), (0 : Int32)] [(1 : Int32), (0 : Int32)] (1 : Int32) T13.heap n0 Zk15 ⟨E_15, Ff0_15, Ff1_15, Ff2_15, Ff3_15, Ff4_15, Ff5_15, Ff6_15, Vv0_15, Vv1_15, Vv2_15, Vv3_15, Vv4_15, Vv5_15, g_b2, g_bu14, g_bg14, g_bd14, g_xt11, g_xr11, g_xc11, Zk15, ne_0_1_15, ne_0_2_15, ne_0_3_15, ne_0_4_15, ne_0_5_15, ne_0_6_15, ne_1_2_15, ne_1_3_15, ne_1_4_15, ne_1_5_15, ne_1_6_15, ne_2_3_15, ne_2_4_15, ne_2_5_15, ne_2_6_15, ne_3_4_15, ne_3_5_15, ne_3_6_15, ne_4_5_15, ne_4_6_15, ne_5_6_15⟩ (by decide) (by decide) (by decide) (by decide)) hZ (hw _ (List.mem_of_getElem? (i := 30) rfl)) (hw _ (List.mem_of_getElem? (i := 6) rfl)) (by decide) (by decide)) q16a q16c (g := (mkF m 142 #[.val (.int p0), .val (.int p1), .val (.int p2), .val (.int p3), .val (.int p4), .val (.int (1 : Int32)), .val (.int v6_22c), .val (.int (((p4.toUInt32 >>> ((4 : Int32) &&& 31).toUInt32).toInt32) &&& (3 : Int32))), .val (.int (((p4.toUInt32 >>> ((6 : Int32) &&& 31).toUInt32).toInt32) &&& (3 : Int32))), .val (.int p0), .val (.int w0_53), .val (.int w0_77), .val (.int w0_112), .val (.ref b2), .unset, .unset] [(.int (1 : Int32)), (.int (0 : Int32)), (.int w0_112), (.int (1 : Int32)), (.ref b2)])) rfl (by rw [hml]; rfl) (Steps.refl _) (argsL := [(.int (1 : Int32)), (.int w0_112), (.int (0 : Int32)), (.int (1 : Int32))]) (rest := []) (lenOf own_pd6 rfl) rfl (by show 2 * 0 + _ ≤ _; exact Nat.le_of_eq rfl) (hb hby at_142) (fun _ _ => ⟨rfl, rfl, (by decide : 10 + 3 ≤ _), (by decide : 37 + 24 ≤ _)⟩)
              dsimp only [Pt.U, Pt.locs, Pt.cells, Pt.slots] at X16 l16 y16 z16 st16 hQ16
              subst l16 y16 z16
              obtain ⟨rfl, N16q, bu17, bg17, bd17, ku17, kg17, kd17, hK17⟩ := hQ16
              have N16 := Fr.app N13 N16q
              have hS17 : own_K Z T16.heap n0 b2 bu17 bg17 bd17 xt11 xr11 xc11 ku17 kg17 kd17 kxt11 kxr11 kxc11 (2 : Int32) [p0, w0_112, (0 : Int32), (0 : Int32), (0 : Int32), (0 : Int32), (0 : Int32), (0 : Int32)] [(0 : Int32), (0 : Int32), (0 : Int32), (0 : Int32), (0 : Int32), (0 : Int32), (0 : Int32), (0 : Int32)] [(-1 : Int32), (-1 : Int32), (0 : Int32), (0 : Int32), (0 : Int32), (0 : Int32), (0 : Int32), (0 : Int32)] [(0 : Int32), (1 : Int32)] [(1 : Int32), (1 : Int32)] [(1 : Int32), (1 : Int32)] (2 : Int32) := hK17
              obtain ⟨E_18, Ff0_18, Ff1_18, Ff2_18, Ff3_18, Ff4_18, Ff5_18, Ff6_18, Vv0_18, Vv1_18, Vv2_18, Vv3_18, Vv4_18, Vv5_18, g_b2, g_bu17, g_bg17, g_bd17, g_xt11, g_xr11, g_xc11, Zk18, ne_0_1_18, ne_0_2_18, ne_0_3_18, ne_0_4_18, ne_0_5_18, ne_0_6_18, ne_1_2_18, ne_1_3_18, ne_1_4_18, ne_1_5_18, ne_1_6_18, ne_2_3_18, ne_2_4_18, ne_2_5_18, ne_2_6_18, ne_3_4_18, ne_3_5_18, ne_3_6_18, ne_4_5_18, ne_4_6_18, ne_5_6_18⟩ := id hS17
              refine Go.of (fun t k => st16.trans k) ?_
              show Go p e below s _ _ _ (T16.setTop (mkF m 145 #[.val (.int p0), .val (.int p1), .val (.int p2), .val (.int p3), .val (.int p4), .val (.int (1 : Int32)), .val (.int v6_22c), .val (.int (((p4.toUInt32 >>> ((4 : Int32) &&& 31).toUInt32).toInt32) &&& (3 : Int32))), .val (.int (((p4.toUInt32 >>> ((6 : Int32) &&& 31).toUInt32).toInt32) &&& (3 : Int32))), .val (.int p0), .val (.int w0_53), .val (.int w0_77), .val (.int w0_112), .val (.ref b2), .unset, .unset] []))
              refine Go.of (fun t k => XS.iload X16.here hx rfl (hb hby at_145) rfl k) ?_
              refine Go.of (fun t k => XS.iconst X16.here hx rfl (hb hby at_147) k) ?_
              show Go p e below s _ _ _ (T16.setTop (mkF m 148 #[.val (.int p0), .val (.int p1), .val (.int p2), .val (.int p3), .val (.int p4), .val (.int (1 : Int32)), .val (.int v6_22c), .val (.int (((p4.toUInt32 >>> ((4 : Int32) &&& 31).toUInt32).toInt32) &&& (3 : Int32))), .val (.int (((p4.toUInt32 >>> ((6 : Int32) &&& 31).toUInt32).toInt32) &&& (3 : Int32))), .val (.int p0), .val (.int w0_53), .val (.int w0_77), .val (.int w0_112), .val (.ref b2), .unset, .unset] [(.int (2 : Int32)), (.int v6_22c)]))
              by_cases hc148_19 : v6_22c < (2 : Int32)
              · rewrite [if_pos hc148_19]
                refine Go.of (fun t k => XS.icmpYes X16.here hx rfl (pc0 := 148) (pc' := 162) rfl (hb hby at_148) rfl (tlt hc148_19).1 (by decide) (by decide) k) ?_
                show Go p e below s _ _ _ (T16.setTop (mkF m 162 #[.val (.int p0), .val (.int p1), .val (.int p2), .val (.int p3), .val (.int p4), .val (.int (1 : Int32)), .val (.int v6_22c), .val (.int (((p4.toUInt32 >>> ((4 : Int32) &&& 31).toUInt32).toInt32) &&& (3 : Int32))), .val (.int (((p4.toUInt32 >>> ((6 : Int32) &&& 31).toUInt32).toInt32) &&& (3 : Int32))), .val (.int p0), .val (.int w0_53), .val (.int w0_77), .val (.int w0_112), .val (.ref b2), .unset, .unset] []))
                refine Go.of (fun t k => XS.iload X16.here hx rfl (hb hby at_162) rfl k) ?_
                refine Go.of (fun t k => XS.iconst X16.here hx rfl (hb hby at_164) k) ?_
                show Go p e below s _ _ _ (T16.setTop (mkF m 165 #[.val (.int p0), .val (.int p1), .val (.int p2), .val (.int p3), .val (.int p4), .val (.int (1 : Int32)), .val (.int v6_22c), .val (.int (((p4.toUInt32 >>> ((4 : Int32) &&& 31).toUInt32).toInt32) &&& (3 : Int32))), .val (.int (((p4.toUInt32 >>> ((6 : Int32) &&& 31).toUInt32).toInt32) &&& (3 : Int32))), .val (.int p0), .val (.int w0_53), .val (.int w0_77), .val (.int w0_112), .val (.ref b2), .unset, .unset] [(.int (3 : Int32)), (.int v6_22c)]))
                have hf165_20 : v6_22c < (3 : Int32) := own_23 hc148_19
                refine Go.of (fun t k => XS.icmpYes X16.here hx rfl (pc0 := 165) (pc' := 179) rfl (hb hby at_165) rfl (tlt hf165_20).1 (by decide) (by decide) k) ?_
                show Go p e below s _ _ _ (T16.setTop (mkF m 179 #[.val (.int p0), .val (.int p1), .val (.int p2), .val (.int p3), .val (.int p4), .val (.int (1 : Int32)), .val (.int v6_22c), .val (.int (((p4.toUInt32 >>> ((4 : Int32) &&& 31).toUInt32).toInt32) &&& (3 : Int32))), .val (.int (((p4.toUInt32 >>> ((6 : Int32) &&& 31).toUInt32).toInt32) &&& (3 : Int32))), .val (.int p0), .val (.int w0_53), .val (.int w0_77), .val (.int w0_112), .val (.ref b2), .unset, .unset] []))
                refine Go.of (fun t k => XS.aload X16.here hx rfl (hb hby at_179) rfl rfl k) ?_
                refine Go.of (fun t k => XS.iconst X16.here hx rfl (hb hby at_181) k) ?_
                refine Go.of (fun t k => XS.iload X16.here hx rfl (hb hby at_182) rfl k) ?_
                show Go p e below s _ _ _ (T16.setTop (mkF m 184 #[.val (.int p0), .val (.int p1), .val (.int p2), .val (.int p3), .val (.int p4), .val (.int (1 : Int32)), .val (.int v6_22c), .val (.int (((p4.toUInt32 >>> ((4 : Int32) &&& 31).toUInt32).toInt32) &&& (3 : Int32))), .val (.int (((p4.toUInt32 >>> ((6 : Int32) &&& 31).toUInt32).toInt32) &&& (3 : Int32))), .val (.int p0), .val (.int w0_53), .val (.int w0_77), .val (.int w0_112), .val (.ref b2), .unset, .unset] [(.int w0_112), (.int (0 : Int32)), (.ref b2)]))
                obtain ⟨cq21, kq21, q21a, q21b, q21c⟩ := isOf hZ rfl E_18
                obtain ⟨_, _, ⟨T21, L21, k21, n21⟩, -, X21, ⟨Lc21, hQ21, l21, y21, z21⟩, st21⟩ := X16.virtualBack hx (y := (⟨"com/example/susurrus/susurrus/KnownUnits", "find", "(II)I"⟩ : MethodName)) (z := (⟨"com/example/susurrus/susurrus/KnownUnits", "find", "(II)I"⟩ : MethodName)) hown (mvT hZ (hw _ (List.mem_of_getElem? (i := 54) rfl))) (mvT hZ (hw _ (List.mem_of_getElem? (i := 55) rfl))) (notFace_of_selects (args := #[]) (mvT hZ (hw _ (List.mem_of_getElem? (i := 57) rfl)))) (mvT hZ (hw _ (List.mem_of_getElem? (i := 57) rfl))) (mvT hZ (hw _ (List.mem_of_getElem? (i := 56) rfl))) (by decide) (backOf (W := 0) (rm9 l Z az hw [] b2 (0 : Int32) w0_112 bu17 bg17 bd17 xt11 xr11 xc11 ku17 kg17 kd17 kxt11 kxr11 kxc11 (2 : Int32) [p0, w0_112, (0 : Int32), (0 : Int32), (0 : Int32), (0 : Int32), (0 : Int32), (0 : Int32)] [(0 : Int32), (0 : Int32), (0 : Int32), (0 : Int32), (0 : Int32), (0 : Int32), (0 : Int32), (0 : Int32)] [(-1 : Int32), (-1 : Int32), (0 : Int32), (0 : Int32), (0 : Int32), (0 : Int32), (0 : Int32), (0 : Int32)] [(0 : Int32), (1 : Int32)] [(1 : Int32), (1 : Int32)] [(1 : Int32), (1 : Int32)] (2 : Int32) T16.heap n0 Zk18 ⟨E_18, Ff0_18, Ff1_18, Ff2_18, Ff3_18, Ff4_18, Ff5_18, Ff6_18, Vv0_18, Vv1_18, Vv2_18, Vv3_18, Vv4_18, Vv5_18, g_b2, g_bu17, g_bg17, g_bd17, g_xt11, g_xr11, g_xc11, Zk18, ne_0_1_18, ne_0_2_18, ne_0_3_18, ne_0_4_18, ne_0_5_18, ne_0_6_18, ne_1_2_18, ne_1_3_18, ne_1_4_18, ne_1_5_18, ne_1_6_18, ne_2_3_18, ne_2_4_18, ne_2_5_18, ne_2_6_18, ne_3_4_18, ne_3_5_18, ne_3_6_18, ne_4_5_18, ne_4_6_18, ne_5_6_18⟩ (by decide) (by decide)) hZ (hw _ (List.mem_of_getElem? (i := 58) rfl)) (hw _ (List.mem_of_getElem? (i := 6) rfl)) (by decide) (by decide)) q21a q21c (g := (mkF m 184 #[.val (.int p0), .val (.int p1), .val (.int p2), .val (.int p3), .val (.int p4), .val (.int (1 : Int32)), .val (.int v6_22c), .val (.int (((p4.toUInt32 >>> ((4 : Int32) &&& 31).toUInt32).toInt32) &&& (3 : Int32))), .val (.int (((p4.toUInt32 >>> ((6 : Int32) &&& 31).toUInt32).toInt32) &&& (3 : Int32))), .val (.int p0), .val (.int w0_53), .val (.int w0_77), .val (.int w0_112), .val (.ref b2), .unset, .unset] [(.int w0_112), (.int (0 : Int32)), (.ref b2)])) rfl (by rw [hml]; rfl) (Steps.refl _) (argsL := [(.int (0 : Int32)), (.int w0_112)]) (rest := []) (lenOf own_pd0 rfl) rfl (by show 2 * 0 + _ ≤ _; exact Nat.le_of_eq rfl) (hb hby at_184) (fun _ _ => ⟨rfl, rfl, (by decide : 13 + 0 ≤ _), (by decide : 61 + 0 ≤ _)⟩)
                dsimp only [Pt.U, Pt.locs, Pt.cells, Pt.slots] at X21 l21 y21 z21 st21 hQ21
                subst l21 y21 z21
                obtain ⟨rfl, N21q, e21⟩ := hQ21
                have N21 := Fr.app N16 N21q
                refine Go.of (fun t k => st21.trans k) ?_
                show Go p e below s _ _ _ (T21.setTop (mkF m 187 #[.val (.int p0), .val (.int p1), .val (.int p2), .val (.int p3), .val (.int p4), .val (.int (1 : Int32)), .val (.int v6_22c), .val (.int (((p4.toUInt32 >>> ((4 : Int32) &&& 31).toUInt32).toInt32) &&& (3 : Int32))), .val (.int (((p4.toUInt32 >>> ((6 : Int32) &&& 31).toUInt32).toInt32) &&& (3 : Int32))), .val (.int p0), .val (.int w0_53), .val (.int w0_77), .val (.int w0_112), .val (.ref b2), .unset, .unset] [(.int (F9 (0 : Int32) w0_112 [p0, w0_112, (0 : Int32), (0 : Int32), (0 : Int32), (0 : Int32), (0 : Int32), (0 : Int32)] [(0 : Int32), (1 : Int32)] [(1 : Int32), (1 : Int32)]))]))
                refine Go.of (fun t k => XS.istore X21.here hx rfl (hb hby at_187) rfl (l' := #[.val (.int p0), .val (.int p1), .val (.int p2), .val (.int p3), .val (.int p4), .val (.int (1 : Int32)), .val (.int v6_22c), .val (.int (((p4.toUInt32 >>> ((4 : Int32) &&& 31).toUInt32).toInt32) &&& (3 : Int32))), .val (.int (((p4.toUInt32 >>> ((6 : Int32) &&& 31).toUInt32).toInt32) &&& (3 : Int32))), .val (.int p0), .val (.int w0_53), .val (.int w0_77), .val (.int w0_112), .val (.ref b2), .val (.int (F9 (0 : Int32) w0_112 [p0, w0_112, (0 : Int32), (0 : Int32), (0 : Int32), (0 : Int32), (0 : Int32), (0 : Int32)] [(0 : Int32), (1 : Int32)] [(1 : Int32), (1 : Int32)])), .unset]) rfl k) ?_
                refine Go.of (fun t k => XS.iload X21.here hx rfl (hb hby at_189) rfl k) ?_
                refine Go.of (fun t k => XS.istore X21.here hx rfl (hb hby at_191) rfl (l' := #[.val (.int p0), .val (.int p1), .val (.int p2), .val (.int p3), .val (.int p4), .val (.int (1 : Int32)), .val (.int v6_22c), .val (.int (((p4.toUInt32 >>> ((4 : Int32) &&& 31).toUInt32).toInt32) &&& (3 : Int32))), .val (.int (((p4.toUInt32 >>> ((6 : Int32) &&& 31).toUInt32).toInt32) &&& (3 : Int32))), .val (.int p0), .val (.int w0_53), .val (.int w0_77), .val (.int w0_112), .val (.ref b2), .val (.int (F9 (0 : Int32) w0_112 [p0, w0_112, (0 : Int32), (0 : Int32), (0 : Int32), (0 : Int32), (0 : Int32), (0 : Int32)] [(0 : Int32), (1 : Int32)] [(1 : Int32), (1 : Int32)])), .val (.int v6_22c)]) rfl k) ?_
                refine Go.of (fun t k => XS.iload X21.here hx rfl (hb hby at_193) rfl k) ?_
                refine Go.of (fun t k => XS.iconst X21.here hx rfl (hb hby at_195) k) ?_
                show Go p e below s _ _ _ (T21.setTop (mkF m 196 #[.val (.int p0), .val (.int p1), .val (.int p2), .val (.int p3), .val (.int p4), .val (.int (1 : Int32)), .val (.int v6_22c), .val (.int (((p4.toUInt32 >>> ((4 : Int32) &&& 31).toUInt32).toInt32) &&& (3 : Int32))), .val (.int (((p4.toUInt32 >>> ((6 : Int32) &&& 31).toUInt32).toInt32) &&& (3 : Int32))), .val (.int p0), .val (.int w0_53), .val (.int w0_77), .val (.int w0_112), .val (.ref b2), .val (.int (F9 (0 : Int32) w0_112 [p0, w0_112, (0 : Int32), (0 : Int32), (0 : Int32), (0 : Int32), (0 : Int32), (0 : Int32)] [(0 : Int32), (1 : Int32)] [(1 : Int32), (1 : Int32)])), .val (.int v6_22c)] [(.int (3 : Int32)), (.int v6_22c)]))
                have jn209 : ∀ (v15_209 : Int32) (T_209 : State) (l_209 : List Loc) (X_209 : Stand p l e room_1 s m #[(.int p0), (.int p1), (.int p2), (.int p3), (.int p4)] below meth c T_209 l_209 13 61) (e_209 : T_209.heap = T16.heap) (N_209 : Fr n0 l_209), Go p e below s (QL (some (.int (F0_209 p0 w0_112 v15_209))) n0) room_1.cells room_1.slots (T_209.setTop (mkF m 209 #[.val (.int p0), .val (.int p1), .val (.int p2), .val (.int p3), .val (.int p4), .val (.int (1 : Int32)), .val (.int v6_22c), .val (.int (((p4.toUInt32 >>> ((4 : Int32) &&& 31).toUInt32).toInt32) &&& (3 : Int32))), .val (.int (((p4.toUInt32 >>> ((6 : Int32) &&& 31).toUInt32).toInt32) &&& (3 : Int32))), .val (.int p0), .val (.int w0_53), .val (.int w0_77), .val (.int w0_112), .val (.ref b2), .val (.int (F9 (0 : Int32) w0_112 [p0, w0_112, (0 : Int32), (0 : Int32), (0 : Int32), (0 : Int32), (0 : Int32), (0 : Int32)] [(0 : Int32), (1 : Int32)] [(1 : Int32), (1 : Int32)])), .val (.int v15_209)] [])) := by
                  intro v15_209 T_209 l_209 X_209 e_209 N_209
                  unfold F0_209
                  refine Go.of (fun t k => XS.iload X_209.here hx rfl (hb hby at_209) rfl k) ?_
                  refine Go.of (fun t k => XS.iconst X_209.here hx rfl (hb hby at_211) k) ?_
                  show Go p e below s _ _ _ (T_209.setTop (mkF m 212 #[.val (.int p0), .val (.int p1), .val (.int p2), .val (.int p3), .val (.int p4), .val (.int (1 : Int32)), .val (.int v6_22c), .val (.int (((p4.toUInt32 >>> ((4 : Int32) &&& 31).toUInt32).toInt32) &&& (3 : Int32))), .val (.int (((p4.toUInt32 >>> ((6 : Int32) &&& 31).toUInt32).toInt32) &&& (3 : Int32))), .val (.int p0), .val (.int w0_53), .val (.int w0_77), .val (.int w0_112), .val (.ref b2), .val (.int (F9 (0 : Int32) w0_112 [p0, w0_112, (0 : Int32), (0 : Int32), (0 : Int32), (0 : Int32), (0 : Int32), (0 : Int32)] [(0 : Int32), (1 : Int32)] [(1 : Int32), (1 : Int32)])), .val (.int v15_209)] [(.int (2 : Int32)), (.int v6_22c)]))
                  have jn225 : ∀ (v15_225 : Int32) (T_225 : State) (l_225 : List Loc) (X_225 : Stand p l e room_1 s m #[(.int p0), (.int p1), (.int p2), (.int p3), (.int p4)] below meth c T_225 l_225 13 61) (e_225 : T_225.heap = T16.heap) (N_225 : Fr n0 l_225), Go p e below s (QL (some (.int (F0_225 p0 w0_112 v15_225))) n0) room_1.cells room_1.slots (T_225.setTop (mkF m 225 #[.val (.int p0), .val (.int p1), .val (.int p2), .val (.int p3), .val (.int p4), .val (.int (1 : Int32)), .val (.int v6_22c), .val (.int (((p4.toUInt32 >>> ((4 : Int32) &&& 31).toUInt32).toInt32) &&& (3 : Int32))), .val (.int (((p4.toUInt32 >>> ((6 : Int32) &&& 31).toUInt32).toInt32) &&& (3 : Int32))), .val (.int p0), .val (.int w0_53), .val (.int w0_77), .val (.int w0_112), .val (.ref b2), .val (.int (F9 (0 : Int32) w0_112 [p0, w0_112, (0 : Int32), (0 : Int32), (0 : Int32), (0 : Int32), (0 : Int32), (0 : Int32)] [(0 : Int32), (1 : Int32)] [(1 : Int32), (1 : Int32)])), .val (.int v15_225)] [])) := by
                    intro v15_225 T_225 l_225 X_225 e_225 N_225
                    unfold F0_225
                    refine Go.of (fun t k => XS.iload X_225.here hx rfl (hb hby at_225) rfl k) ?_
                    refine Go.of (fun t k => XS.iload X_225.here hx rfl (hb hby at_227) rfl k) ?_
                    show Go p e below s _ _ _ (T_225.setTop (mkF m 229 #[.val (.int p0), .val (.int p1), .val (.int p2), .val (.int p3), .val (.int p4), .val (.int (1 : Int32)), .val (.int v6_22c), .val (.int (((p4.toUInt32 >>> ((4 : Int32) &&& 31).toUInt32).toInt32) &&& (3 : Int32))), .val (.int (((p4.toUInt32 >>> ((6 : Int32) &&& 31).toUInt32).toInt32) &&& (3 : Int32))), .val (.int p0), .val (.int w0_53), .val (.int w0_77), .val (.int w0_112), .val (.ref b2), .val (.int (F9 (0 : Int32) w0_112 [p0, w0_112, (0 : Int32), (0 : Int32), (0 : Int32), (0 : Int32), (0 : Int32), (0 : Int32)] [(0 : Int32), (1 : Int32)] [(1 : Int32), (1 : Int32)])), .val (.int v15_225)] [(.int w0_112), (.int p0)]))
                    have jn235 : ∀ (v15_235 : Int32) (T_235 : State) (l_235 : List Loc) (X_235 : Stand p l e room_1 s m #[(.int p0), (.int p1), (.int p2), (.int p3), (.int p4)] below meth c T_235 l_235 13 61) (e_235 : T_235.heap = T16.heap) (N_235 : Fr n0 l_235), Go p e below s (QL (some (.int (F0_235 p0 w0_112 v15_235))) n0) room_1.cells room_1.slots (T_235.setTop (mkF m 235 #[.val (.int p0), .val (.int p1), .val (.int p2), .val (.int p3), .val (.int p4), .val (.int (1 : Int32)), .val (.int v6_22c), .val (.int (((p4.toUInt32 >>> ((4 : Int32) &&& 31).toUInt32).toInt32) &&& (3 : Int32))), .val (.int (((p4.toUInt32 >>> ((6 : Int32) &&& 31).toUInt32).toInt32) &&& (3 : Int32))), .val (.int p0), .val (.int w0_53), .val (.int w0_77), .val (.int w0_112), .val (.ref b2), .val (.int (F9 (0 : Int32) w0_112 [p0, w0_112, (0 : Int32), (0 : Int32), (0 : Int32), (0 : Int32), (0 : Int32), (0 : Int32)] [(0 : Int32), (1 : Int32)] [(1 : Int32), (1 : Int32)])), .val (.int v15_235)] [])) := by
                      intro v15_235 T_235 l_235 X_235 e_235 N_235
                      unfold F0_235
                      refine Go.of (fun t k => XS.iload X_235.here hx rfl (hb hby at_235) rfl k) ?_
                      refine Go.of (fun t k => XS.iload X_235.here hx rfl (hb hby at_237) rfl k) ?_
                      show Go p e below s _ _ _ (T_235.setTop (mkF m 239 #[.val (.int p0), .val (.int p1), .val (.int p2), .val (.int p3), .val (.int p4), .val (.int (1 : Int32)), .val (.int v6_22c), .val (.int (((p4.toUInt32 >>> ((4 : Int32) &&& 31).toUInt32).toInt32) &&& (3 : Int32))), .val (.int (((p4.toUInt32 >>> ((6 : Int32) &&& 31).toUInt32).toInt32) &&& (3 : Int32))), .val (.int p0), .val (.int w0_53), .val (.int w0_77), .val (.int w0_112), .val (.ref b2), .val (.int (F9 (0 : Int32) w0_112 [p0, w0_112, (0 : Int32), (0 : Int32), (0 : Int32), (0 : Int32), (0 : Int32), (0 : Int32)] [(0 : Int32), (1 : Int32)] [(1 : Int32), (1 : Int32)])), .val (.int v15_235)] [(.int v15_235), (.int (F9 (0 : Int32) w0_112 [p0, w0_112, (0 : Int32), (0 : Int32), (0 : Int32), (0 : Int32), (0 : Int32), (0 : Int32)] [(0 : Int32), (1 : Int32)] [(1 : Int32), (1 : Int32)]))]))
                      by_cases hc239_22 : (F9 (0 : Int32) w0_112 [p0, w0_112, (0 : Int32), (0 : Int32), (0 : Int32), (0 : Int32), (0 : Int32), (0 : Int32)] [(0 : Int32), (1 : Int32)] [(1 : Int32), (1 : Int32)]) = v15_235
                      · rewrite [if_pos hc239_22]
                        refine Go.of (fun t k => XS.icmpNo X_235.here hx rfl (hb hby at_239) rfl (teq hc239_22).2 k) ?_
                        show Go p e below s _ _ _ (T_235.setTop (mkF m 242 #[.val (.int p0), .val (.int p1), .val (.int p2), .val (.int p3), .val (.int p4), .val (.int (1 : Int32)), .val (.int v6_22c), .val (.int (((p4.toUInt32 >>> ((4 : Int32) &&& 31).toUInt32).toInt32) &&& (3 : Int32))), .val (.int (((p4.toUInt32 >>> ((6 : Int32) &&& 31).toUInt32).toInt32) &&& (3 : Int32))), .val (.int p0), .val (.int w0_53), .val (.int w0_77), .val (.int w0_112), .val (.ref b2), .val (.int (F9 (0 : Int32) w0_112 [p0, w0_112, (0 : Int32), (0 : Int32), (0 : Int32), (0 : Int32), (0 : Int32), (0 : Int32)] [(0 : Int32), (1 : Int32)] [(1 : Int32), (1 : Int32)])), .val (.int v15_235)] []))
                        refine Go.of (fun t k => XS.iconst X_235.here hx rfl (hb hby at_242) k) ?_
                        refine Go.of (fun t k => XS.goto X_235.here hx rfl (pc0 := 243) (pc' := 247) rfl (hb hby at_243) (by decide) (by decide) k) ?_
                        show Go p e below s _ _ _ (T_235.setTop (mkF m 247 #[.val (.int p0), .val (.int p1), .val (.int p2), .val (.int p3), .val (.int p4), .val (.int (1 : Int32)), .val (.int v6_22c), .val (.int (((p4.toUInt32 >>> ((4 : Int32) &&& 31).toUInt32).toInt32) &&& (3 : Int32))), .val (.int (((p4.toUInt32 >>> ((6 : Int32) &&& 31).toUInt32).toInt32) &&& (3 : Int32))), .val (.int p0), .val (.int w0_53), .val (.int w0_77), .val (.int w0_112), .val (.ref b2), .val (.int (F9 (0 : Int32) w0_112 [p0, w0_112, (0 : Int32), (0 : Int32), (0 : Int32), (0 : Int32), (0 : Int32), (0 : Int32)] [(0 : Int32), (1 : Int32)] [(1 : Int32), (1 : Int32)])), .val (.int v15_235)] [(.int (1 : Int32))]))
                        exact Go.ret X_235 (some (.int (1 : Int32))) (fun h => by rw [Bd.returns] at h; cases h) hlk ⟨rfl, N_235⟩ (by decide) (by decide) (fun fs hr => (retN X_235 hx (t := .boolean) Bd.returns (by simp) (hb hby at_247) hr))
                      · rewrite [if_neg hc239_22]
                        refine Go.of (fun t k => XS.icmpYes X_235.here hx rfl (pc0 := 239) (pc' := 246) rfl (hb hby at_239) rfl (feq hc239_22).2 (by decide) (by decide) k) ?_
                        show Go p e below s _ _ _ (T_235.setTop (mkF m 246 #[.val (.int p0), .val (.int p1), .val (.int p2), .val (.int p3), .val (.int p4), .val (.int (1 : Int32)), .val (.int v6_22c), .val (.int (((p4.toUInt32 >>> ((4 : Int32) &&& 31).toUInt32).toInt32) &&& (3 : Int32))), .val (.int (((p4.toUInt32 >>> ((6 : Int32) &&& 31).toUInt32).toInt32) &&& (3 : Int32))), .val (.int p0), .val (.int w0_53), .val (.int w0_77), .val (.int w0_112), .val (.ref b2), .val (.int (F9 (0 : Int32) w0_112 [p0, w0_112, (0 : Int32), (0 : Int32), (0 : Int32), (0 : Int32), (0 : Int32), (0 : Int32)] [(0 : Int32), (1 : Int32)] [(1 : Int32), (1 : Int32)])), .val (.int v15_235)] []))
                        refine Go.of (fun t k => XS.iconst X_235.here hx rfl (hb hby at_246) k) ?_
                        show Go p e below s _ _ _ (T_235.setTop (mkF m 247 #[.val (.int p0), .val (.int p1), .val (.int p2), .val (.int p3), .val (.int p4), .val (.int (1 : Int32)), .val (.int v6_22c), .val (.int (((p4.toUInt32 >>> ((4 : Int32) &&& 31).toUInt32).toInt32) &&& (3 : Int32))), .val (.int (((p4.toUInt32 >>> ((6 : Int32) &&& 31).toUInt32).toInt32) &&& (3 : Int32))), .val (.int p0), .val (.int w0_53), .val (.int w0_77), .val (.int w0_112), .val (.ref b2), .val (.int (F9 (0 : Int32) w0_112 [p0, w0_112, (0 : Int32), (0 : Int32), (0 : Int32), (0 : Int32), (0 : Int32), (0 : Int32)] [(0 : Int32), (1 : Int32)] [(1 : Int32), (1 : Int32)])), .val (.int v15_235)] [(.int (0 : Int32))]))
                        exact Go.ret X_235 (some (.int (0 : Int32))) (fun h => by rw [Bd.returns] at h; cases h) hlk ⟨rfl, N_235⟩ (by decide) (by decide) (fun fs hr => (retN X_235 hx (t := .boolean) Bd.returns (by simp) (hb hby at_247) hr))
                    by_cases hc229_23 : p0 = w0_112
                    · rewrite [if_pos hc229_23]
                      refine Go.of (fun t k => XS.icmpNo X_225.here hx rfl (hb hby at_229) rfl (teq hc229_23).2 k) ?_
                      show Go p e below s _ _ _ (T_225.setTop (mkF m 232 #[.val (.int p0), .val (.int p1), .val (.int p2), .val (.int p3), .val (.int p4), .val (.int (1 : Int32)), .val (.int v6_22c), .val (.int (((p4.toUInt32 >>> ((4 : Int32) &&& 31).toUInt32).toInt32) &&& (3 : Int32))), .val (.int (((p4.toUInt32 >>> ((6 : Int32) &&& 31).toUInt32).toInt32) &&& (3 : Int32))), .val (.int p0), .val (.int w0_53), .val (.int w0_77), .val (.int w0_112), .val (.ref b2), .val (.int (F9 (0 : Int32) w0_112 [p0, w0_112, (0 : Int32), (0 : Int32), (0 : Int32), (0 : Int32), (0 : Int32), (0 : Int32)] [(0 : Int32), (1 : Int32)] [(1 : Int32), (1 : Int32)])), .val (.int v15_225)] []))
                      refine Go.of (fun t k => XS.iconst X_225.here hx rfl (hb hby at_232) k) ?_
                      refine Go.of (fun t k => XS.istore X_225.here hx rfl (hb hby at_233) rfl (l' := #[.val (.int p0), .val (.int p1), .val (.int p2), .val (.int p3), .val (.int p4), .val (.int (1 : Int32)), .val (.int v6_22c), .val (.int (((p4.toUInt32 >>> ((4 : Int32) &&& 31).toUInt32).toInt32) &&& (3 : Int32))), .val (.int (((p4.toUInt32 >>> ((6 : Int32) &&& 31).toUInt32).toInt32) &&& (3 : Int32))), .val (.int p0), .val (.int w0_53), .val (.int w0_77), .val (.int w0_112), .val (.ref b2), .val (.int (F9 (0 : Int32) w0_112 [p0, w0_112, (0 : Int32), (0 : Int32), (0 : Int32), (0 : Int32), (0 : Int32), (0 : Int32)] [(0 : Int32), (1 : Int32)] [(1 : Int32), (1 : Int32)])), .val (.int (0 : Int32))]) rfl k) ?_
                      show Go p e below s _ _ _ (T_225.setTop (mkF m 235 #[.val (.int p0), .val (.int p1), .val (.int p2), .val (.int p3), .val (.int p4), .val (.int (1 : Int32)), .val (.int v6_22c), .val (.int (((p4.toUInt32 >>> ((4 : Int32) &&& 31).toUInt32).toInt32) &&& (3 : Int32))), .val (.int (((p4.toUInt32 >>> ((6 : Int32) &&& 31).toUInt32).toInt32) &&& (3 : Int32))), .val (.int p0), .val (.int w0_53), .val (.int w0_77), .val (.int w0_112), .val (.ref b2), .val (.int (F9 (0 : Int32) w0_112 [p0, w0_112, (0 : Int32), (0 : Int32), (0 : Int32), (0 : Int32), (0 : Int32), (0 : Int32)] [(0 : Int32), (1 : Int32)] [(1 : Int32), (1 : Int32)])), .val (.int (0 : Int32))] []))
                      exact jn235 (0 : Int32)  T_225 _ X_225 e_225 N_225  
                    · rewrite [if_neg hc229_23]
                      refine Go.of (fun t k => XS.icmpYes X_225.here hx rfl (pc0 := 229) (pc' := 235) rfl (hb hby at_229) rfl (feq hc229_23).2 (by decide) (by decide) k) ?_
                      show Go p e below s _ _ _ (T_225.setTop (mkF m 235 #[.val (.int p0), .val (.int p1), .val (.int p2), .val (.int p3), .val (.int p4), .val (.int (1 : Int32)), .val (.int v6_22c), .val (.int (((p4.toUInt32 >>> ((4 : Int32) &&& 31).toUInt32).toInt32) &&& (3 : Int32))), .val (.int (((p4.toUInt32 >>> ((6 : Int32) &&& 31).toUInt32).toInt32) &&& (3 : Int32))), .val (.int p0), .val (.int w0_53), .val (.int w0_77), .val (.int w0_112), .val (.ref b2), .val (.int (F9 (0 : Int32) w0_112 [p0, w0_112, (0 : Int32), (0 : Int32), (0 : Int32), (0 : Int32), (0 : Int32), (0 : Int32)] [(0 : Int32), (1 : Int32)] [(1 : Int32), (1 : Int32)])), .val (.int v15_225)] []))
                      exact jn235 v15_225  T_225 _ X_225 e_225 N_225  
                  refine Go.of (fun t k => XS.icmpYes X_209.here hx rfl (pc0 := 212) (pc' := 225) rfl (hb hby at_212) rfl (tlt hc148_19).1 (by decide) (by decide) k) ?_
                  show Go p e below s _ _ _ (T_209.setTop (mkF m 225 #[.val (.int p0), .val (.int p1), .val (.int p2), .val (.int p3), .val (.int p4), .val (.int (1 : Int32)), .val (.int v6_22c), .val (.int (((p4.toUInt32 >>> ((4 : Int32) &&& 31).toUInt32).toInt32) &&& (3 : Int32))), .val (.int (((p4.toUInt32 >>> ((6 : Int32) &&& 31).toUInt32).toInt32) &&& (3 : Int32))), .val (.int p0), .val (.int w0_53), .val (.int w0_77), .val (.int w0_112), .val (.ref b2), .val (.int (F9 (0 : Int32) w0_112 [p0, w0_112, (0 : Int32), (0 : Int32), (0 : Int32), (0 : Int32), (0 : Int32), (0 : Int32)] [(0 : Int32), (1 : Int32)] [(1 : Int32), (1 : Int32)])), .val (.int v15_209)] []))
                  exact jn225 v15_209  T_209 _ X_209 e_209 N_209  
                refine Go.of (fun t k => XS.icmpYes X21.here hx rfl (pc0 := 196) (pc' := 209) rfl (hb hby at_196) rfl (tlt hf165_20).1 (by decide) (by decide) k) ?_
                show Go p e below s _ _ _ (T21.setTop (mkF m 209 #[.val (.int p0), .val (.int p1), .val (.int p2), .val (.int p3), .val (.int p4), .val (.int (1 : Int32)), .val (.int v6_22c), .val (.int (((p4.toUInt32 >>> ((4 : Int32) &&& 31).toUInt32).toInt32) &&& (3 : Int32))), .val (.int (((p4.toUInt32 >>> ((6 : Int32) &&& 31).toUInt32).toInt32) &&& (3 : Int32))), .val (.int p0), .val (.int w0_53), .val (.int w0_77), .val (.int w0_112), .val (.ref b2), .val (.int (F9 (0 : Int32) w0_112 [p0, w0_112, (0 : Int32), (0 : Int32), (0 : Int32), (0 : Int32), (0 : Int32), (0 : Int32)] [(0 : Int32), (1 : Int32)] [(1 : Int32), (1 : Int32)])), .val (.int v6_22c)] []))
                exact jn209 v6_22c  T21 _ X21 e21 N21  
              · rewrite [if_neg hc148_19]
                refine Go.of (fun t k => XS.icmpNo X16.here hx rfl (hb hby at_148) rfl (flt hc148_19).1 k) ?_
                show Go p e below s _ _ _ (T16.setTop (mkF m 151 #[.val (.int p0), .val (.int p1), .val (.int p2), .val (.int p3), .val (.int p4), .val (.int (1 : Int32)), .val (.int v6_22c), .val (.int (((p4.toUInt32 >>> ((4 : Int32) &&& 31).toUInt32).toInt32) &&& (3 : Int32))), .val (.int (((p4.toUInt32 >>> ((6 : Int32) &&& 31).toUInt32).toInt32) &&& (3 : Int32))), .val (.int p0), .val (.int w0_53), .val (.int w0_77), .val (.int w0_112), .val (.ref b2), .unset, .unset] []))
                refine Go.of (fun t k => XS.aload X16.here hx rfl (hb hby at_151) rfl rfl k) ?_
                refine Go.of (fun t k => XS.iconst X16.here hx rfl (hb hby at_153) k) ?_
                refine Go.of (fun t k => XS.iconst X16.here hx rfl (hb hby at_154) k) ?_
                refine Go.of (fun t k => XS.iload X16.here hx rfl (hb hby at_155) rfl k) ?_
                refine Go.of (fun t k => XS.iconst X16.here hx rfl (hb hby at_157) k) ?_
                refine Go.of (fun t k => XS.iconst X16.here hx rfl (hb hby at_158) k) ?_
                show Go p e below s _ _ _ (T16.setTop (mkF m 159 #[.val (.int p0), .val (.int p1), .val (.int p2), .val (.int p3), .val (.int p4), .val (.int (1 : Int32)), .val (.int v6_22c), .val (.int (((p4.toUInt32 >>> ((4 : Int32) &&& 31).toUInt32).toInt32) &&& (3 : Int32))), .val (.int (((p4.toUInt32 >>> ((6 : Int32) &&& 31).toUInt32).toInt32) &&& (3 : Int32))), .val (.int p0), .val (.int w0_53), .val (.int w0_77), .val (.int w0_112), .val (.ref b2), .unset, .unset] [(.int (0 : Int32)), (.int (0 : Int32)), (.int w0_53), (.int (1 : Int32)), (.int (0 : Int32)), (.ref b2)]))
                obtain ⟨cq24, kq24, q24a, q24b, q24c⟩ := isOf hZ rfl E_18
                obtain ⟨_, _, ⟨T24, L24, k24, n24⟩, -, X24, ⟨Lc24, hQ24, l24, y24, z24⟩, st24⟩ := X16.virtualBack hx (y := (⟨"com/example/susurrus/susurrus/KnownUnits", "keep", "(IIIII)V"⟩ : MethodName)) (z := (⟨"com/example/susurrus/susurrus/KnownUnits", "keep", "(IIIII)V"⟩ : MethodName)) hown (mvT hZ (hw _ (List.mem_of_getElem? (i := 59) rfl))) (mvT hZ (hw _ (List.mem_of_getElem? (i := 60) rfl))) (notFace_of_selects (args := #[]) (mvT hZ (hw _ (List.mem_of_getElem? (i := 62) rfl)))) (mvT hZ (hw _ (List.mem_of_getElem? (i := 62) rfl))) (mvT hZ (hw _ (List.mem_of_getElem? (i := 61) rfl))) (by decide) (backOf (W := 0) (rm10A l Z az hw [] b2 (0 : Int32) (1 : Int32) w0_53 (0 : Int32) (0 : Int32) bu17 bg17 bd17 xt11 xr11 xc11 ku17 kg17 kd17 kxt11 kxr11 kxc11 (2 : Int32) [p0, w0_112, (0 : Int32), (0 : Int32), (0 : Int32), (0 : Int32), (0 : Int32), (0 : Int32)] [(0 : Int32), (0 : Int32), (0 : Int32), (0 : Int32), (0 : Int32), (0 : Int32), (0 : Int32), (0 : Int32)] [(-1 : Int32), (-1 : Int32), (0 : Int32), (0 : Int32), (0 : Int32), (0 : Int32), (0 : Int32), (0 : Int32)] [(0 : Int32), (1 : Int32)] [(1 : Int32), (1 : Int32)] [(1 : Int32), (1 : Int32)] (2 : Int32) T16.heap n0 Zk18 ⟨E_18, Ff0_18, Ff1_18, Ff2_18, Ff3_18, Ff4_18, Ff5_18, Ff6_18, Vv0_18, Vv1_18, Vv2_18, Vv3_18, Vv4_18, Vv5_18, g_b2, g_bu17, g_bg17, g_bd17, g_xt11, g_xr11, g_xc11, Zk18, ne_0_1_18, ne_0_2_18, ne_0_3_18, ne_0_4_18, ne_0_5_18, ne_0_6_18, ne_1_2_18, ne_1_3_18, ne_1_4_18, ne_1_5_18, ne_1_6_18, ne_2_3_18, ne_2_4_18, ne_2_5_18, ne_2_6_18, ne_3_4_18, ne_3_5_18, ne_3_6_18, ne_4_5_18, ne_4_6_18, ne_5_6_18⟩ (by decide) (by decide) (by decide) (by decide) (by decide) (by decide) (by decide) (by decide)) hZ (hw _ (List.mem_of_getElem? (i := 63) rfl)) (hw _ (List.mem_of_getElem? (i := 6) rfl)) (by decide) (by decide)) q24a q24c (g := (mkF m 159 #[.val (.int p0), .val (.int p1), .val (.int p2), .val (.int p3), .val (.int p4), .val (.int (1 : Int32)), .val (.int v6_22c), .val (.int (((p4.toUInt32 >>> ((4 : Int32) &&& 31).toUInt32).toInt32) &&& (3 : Int32))), .val (.int (((p4.toUInt32 >>> ((6 : Int32) &&& 31).toUInt32).toInt32) &&& (3 : Int32))), .val (.int p0), .val (.int w0_53), .val (.int w0_77), .val (.int w0_112), .val (.ref b2), .unset, .unset] [(.int (0 : Int32)), (.int (0 : Int32)), (.int w0_53), (.int (1 : Int32)), (.int (0 : Int32)), (.ref b2)])) rfl (by rw [hml]; rfl) (Steps.refl _) (argsL := [(.int (0 : Int32)), (.int (1 : Int32)), (.int w0_53), (.int (0 : Int32)), (.int (0 : Int32))]) (rest := []) (lenOf own_pd7 rfl) rfl (by show 2 * 0 + _ ≤ _; exact Nat.le_of_eq rfl) (hb hby at_159) (fun _ _ => ⟨rfl, rfl, (by decide : 13 + 3 ≤ _), (by decide : 61 + 24 ≤ _)⟩)
                dsimp only [Pt.U, Pt.locs, Pt.cells, Pt.slots] at X24 l24 y24 z24 st24 hQ24
                subst l24 y24 z24
                obtain ⟨rfl, N24q, bu25, bg25, bd25, ku25, kg25, kd25, hK25⟩ := hQ24
                have N24 := Fr.app N16 N24q
                have hS25 : own_K Z T24.heap n0 b2 bu25 bg25 bd25 xt11 xr11 xc11 ku25 kg25 kd25 kxt11 kxr11 kxc11 (4 : Int32) [p0, w0_112, p0, w0_53, (0 : Int32), (0 : Int32), (0 : Int32), (0 : Int32)] [(0 : Int32), (0 : Int32), (0 : Int32), (0 : Int32), (0 : Int32), (0 : Int32), (0 : Int32), (0 : Int32)] [(-1 : Int32), (-1 : Int32), (-1 : Int32), (0 : Int32), (0 : Int32), (0 : Int32), (0 : Int32), (0 : Int32)] [(2 : Int32), (1 : Int32)] [(2 : Int32), (1 : Int32)] [(2 : Int32), (1 : Int32)] (4 : Int32) := hK25
                obtain ⟨E_26, Ff0_26, Ff1_26, Ff2_26, Ff3_26, Ff4_26, Ff5_26, Ff6_26, Vv0_26, Vv1_26, Vv2_26, Vv3_26, Vv4_26, Vv5_26, g_b2, g_bu25, g_bg25, g_bd25, g_xt11, g_xr11, g_xc11, Zk26, ne_0_1_26, ne_0_2_26, ne_0_3_26, ne_0_4_26, ne_0_5_26, ne_0_6_26, ne_1_2_26, ne_1_3_26, ne_1_4_26, ne_1_5_26, ne_1_6_26, ne_2_3_26, ne_2_4_26, ne_2_5_26, ne_2_6_26, ne_3_4_26, ne_3_5_26, ne_3_6_26, ne_4_5_26, ne_4_6_26, ne_5_6_26⟩ := id hS25
                refine Go.of (fun t k => st24.trans k) ?_
                show Go p e below s _ _ _ (T24.setTop (mkF m 162 #[.val (.int p0), .val (.int p1), .val (.int p2), .val (.int p3), .val (.int p4), .val (.int (1 : Int32)), .val (.int v6_22c), .val (.int (((p4.toUInt32 >>> ((4 : Int32) &&& 31).toUInt32).toInt32) &&& (3 : Int32))), .val (.int (((p4.toUInt32 >>> ((6 : Int32) &&& 31).toUInt32).toInt32) &&& (3 : Int32))), .val (.int p0), .val (.int w0_53), .val (.int w0_77), .val (.int w0_112), .val (.ref b2), .unset, .unset] []))
                refine Go.of (fun t k => XS.iload X24.here hx rfl (hb hby at_162) rfl k) ?_
                refine Go.of (fun t k => XS.iconst X24.here hx rfl (hb hby at_164) k) ?_
                show Go p e below s _ _ _ (T24.setTop (mkF m 165 #[.val (.int p0), .val (.int p1), .val (.int p2), .val (.int p3), .val (.int p4), .val (.int (1 : Int32)), .val (.int v6_22c), .val (.int (((p4.toUInt32 >>> ((4 : Int32) &&& 31).toUInt32).toInt32) &&& (3 : Int32))), .val (.int (((p4.toUInt32 >>> ((6 : Int32) &&& 31).toUInt32).toInt32) &&& (3 : Int32))), .val (.int p0), .val (.int w0_53), .val (.int w0_77), .val (.int w0_112), .val (.ref b2), .unset, .unset] [(.int (3 : Int32)), (.int v6_22c)]))
                by_cases hc165_27 : v6_22c < (3 : Int32)
                · rewrite [if_pos hc165_27]
                  refine Go.of (fun t k => XS.icmpYes X24.here hx rfl (pc0 := 165) (pc' := 179) rfl (hb hby at_165) rfl (tlt hc165_27).1 (by decide) (by decide) k) ?_
                  show Go p e below s _ _ _ (T24.setTop (mkF m 179 #[.val (.int p0), .val (.int p1), .val (.int p2), .val (.int p3), .val (.int p4), .val (.int (1 : Int32)), .val (.int v6_22c), .val (.int (((p4.toUInt32 >>> ((4 : Int32) &&& 31).toUInt32).toInt32) &&& (3 : Int32))), .val (.int (((p4.toUInt32 >>> ((6 : Int32) &&& 31).toUInt32).toInt32) &&& (3 : Int32))), .val (.int p0), .val (.int w0_53), .val (.int w0_77), .val (.int w0_112), .val (.ref b2), .unset, .unset] []))
                  refine Go.of (fun t k => XS.aload X24.here hx rfl (hb hby at_179) rfl rfl k) ?_
                  refine Go.of (fun t k => XS.iconst X24.here hx rfl (hb hby at_181) k) ?_
                  refine Go.of (fun t k => XS.iload X24.here hx rfl (hb hby at_182) rfl k) ?_
                  show Go p e below s _ _ _ (T24.setTop (mkF m 184 #[.val (.int p0), .val (.int p1), .val (.int p2), .val (.int p3), .val (.int p4), .val (.int (1 : Int32)), .val (.int v6_22c), .val (.int (((p4.toUInt32 >>> ((4 : Int32) &&& 31).toUInt32).toInt32) &&& (3 : Int32))), .val (.int (((p4.toUInt32 >>> ((6 : Int32) &&& 31).toUInt32).toInt32) &&& (3 : Int32))), .val (.int p0), .val (.int w0_53), .val (.int w0_77), .val (.int w0_112), .val (.ref b2), .unset, .unset] [(.int w0_112), (.int (0 : Int32)), (.ref b2)]))
                  obtain ⟨cq28, kq28, q28a, q28b, q28c⟩ := isOf hZ rfl E_26
                  obtain ⟨_, _, ⟨T28, L28, k28, n28⟩, -, X28, ⟨Lc28, hQ28, l28, y28, z28⟩, st28⟩ := X24.virtualBack hx (y := (⟨"com/example/susurrus/susurrus/KnownUnits", "find", "(II)I"⟩ : MethodName)) (z := (⟨"com/example/susurrus/susurrus/KnownUnits", "find", "(II)I"⟩ : MethodName)) hown (mvT hZ (hw _ (List.mem_of_getElem? (i := 54) rfl))) (mvT hZ (hw _ (List.mem_of_getElem? (i := 55) rfl))) (notFace_of_selects (args := #[]) (mvT hZ (hw _ (List.mem_of_getElem? (i := 57) rfl)))) (mvT hZ (hw _ (List.mem_of_getElem? (i := 57) rfl))) (mvT hZ (hw _ (List.mem_of_getElem? (i := 56) rfl))) (by decide) (backOf (W := 0) (rm9 l Z az hw [] b2 (0 : Int32) w0_112 bu25 bg25 bd25 xt11 xr11 xc11 ku25 kg25 kd25 kxt11 kxr11 kxc11 (4 : Int32) [p0, w0_112, p0, w0_53, (0 : Int32), (0 : Int32), (0 : Int32), (0 : Int32)] [(0 : Int32), (0 : Int32), (0 : Int32), (0 : Int32), (0 : Int32), (0 : Int32), (0 : Int32), (0 : Int32)] [(-1 : Int32), (-1 : Int32), (-1 : Int32), (0 : Int32), (0 : Int32), (0 : Int32), (0 : Int32), (0 : Int32)] [(2 : Int32), (1 : Int32)] [(2 : Int32), (1 : Int32)] [(2 : Int32), (1 : Int32)] (4 : Int32) T24.heap n0 Zk26 ⟨E_26, Ff0_26, Ff1_26, Ff2_26, Ff3_26, Ff4_26, Ff5_26, Ff6_26, Vv0_26, Vv1_26, Vv2_26, Vv3_26, Vv4_26, Vv5_26, g_b2, g_bu25, g_bg25, g_bd25, g_xt11, g_xr11, g_xc11, Zk26, ne_0_1_26, ne_0_2_26, ne_0_3_26, ne_0_4_26, ne_0_5_26, ne_0_6_26, ne_1_2_26, ne_1_3_26, ne_1_4_26, ne_1_5_26, ne_1_6_26, ne_2_3_26, ne_2_4_26, ne_2_5_26, ne_2_6_26, ne_3_4_26, ne_3_5_26, ne_3_6_26, ne_4_5_26, ne_4_6_26, ne_5_6_26⟩ (by decide) (by decide)) hZ (hw _ (List.mem_of_getElem? (i := 58) rfl)) (hw _ (List.mem_of_getElem? (i := 6) rfl)) (by decide) (by decide)) q28a q28c (g := (mkF m 184 #[.val (.int p0), .val (.int p1), .val (.int p2), .val (.int p3), .val (.int p4), .val (.int (1 : Int32)), .val (.int v6_22c), .val (.int (((p4.toUInt32 >>> ((4 : Int32) &&& 31).toUInt32).toInt32) &&& (3 : Int32))), .val (.int (((p4.toUInt32 >>> ((6 : Int32) &&& 31).toUInt32).toInt32) &&& (3 : Int32))), .val (.int p0), .val (.int w0_53), .val (.int w0_77), .val (.int w0_112), .val (.ref b2), .unset, .unset] [(.int w0_112), (.int (0 : Int32)), (.ref b2)])) rfl (by rw [hml]; rfl) (Steps.refl _) (argsL := [(.int (0 : Int32)), (.int w0_112)]) (rest := []) (lenOf own_pd0 rfl) rfl (by show 2 * 0 + _ ≤ _; exact Nat.le_of_eq rfl) (hb hby at_184) (fun _ _ => ⟨rfl, rfl, (by decide : 16 + 0 ≤ _), (by decide : 85 + 0 ≤ _)⟩)
                  dsimp only [Pt.U, Pt.locs, Pt.cells, Pt.slots] at X28 l28 y28 z28 st28 hQ28
                  subst l28 y28 z28
                  obtain ⟨rfl, N28q, e28⟩ := hQ28
                  have N28 := Fr.app N24 N28q
                  refine Go.of (fun t k => st28.trans k) ?_
                  show Go p e below s _ _ _ (T28.setTop (mkF m 187 #[.val (.int p0), .val (.int p1), .val (.int p2), .val (.int p3), .val (.int p4), .val (.int (1 : Int32)), .val (.int v6_22c), .val (.int (((p4.toUInt32 >>> ((4 : Int32) &&& 31).toUInt32).toInt32) &&& (3 : Int32))), .val (.int (((p4.toUInt32 >>> ((6 : Int32) &&& 31).toUInt32).toInt32) &&& (3 : Int32))), .val (.int p0), .val (.int w0_53), .val (.int w0_77), .val (.int w0_112), .val (.ref b2), .unset, .unset] [(.int (F9 (0 : Int32) w0_112 [p0, w0_112, p0, w0_53, (0 : Int32), (0 : Int32), (0 : Int32), (0 : Int32)] [(2 : Int32), (1 : Int32)] [(2 : Int32), (1 : Int32)]))]))
                  refine Go.of (fun t k => XS.istore X28.here hx rfl (hb hby at_187) rfl (l' := #[.val (.int p0), .val (.int p1), .val (.int p2), .val (.int p3), .val (.int p4), .val (.int (1 : Int32)), .val (.int v6_22c), .val (.int (((p4.toUInt32 >>> ((4 : Int32) &&& 31).toUInt32).toInt32) &&& (3 : Int32))), .val (.int (((p4.toUInt32 >>> ((6 : Int32) &&& 31).toUInt32).toInt32) &&& (3 : Int32))), .val (.int p0), .val (.int w0_53), .val (.int w0_77), .val (.int w0_112), .val (.ref b2), .val (.int (F9 (0 : Int32) w0_112 [p0, w0_112, p0, w0_53, (0 : Int32), (0 : Int32), (0 : Int32), (0 : Int32)] [(2 : Int32), (1 : Int32)] [(2 : Int32), (1 : Int32)])), .unset]) rfl k) ?_
                  refine Go.of (fun t k => XS.iload X28.here hx rfl (hb hby at_189) rfl k) ?_
                  refine Go.of (fun t k => XS.istore X28.here hx rfl (hb hby at_191) rfl (l' := #[.val (.int p0), .val (.int p1), .val (.int p2), .val (.int p3), .val (.int p4), .val (.int (1 : Int32)), .val (.int v6_22c), .val (.int (((p4.toUInt32 >>> ((4 : Int32) &&& 31).toUInt32).toInt32) &&& (3 : Int32))), .val (.int (((p4.toUInt32 >>> ((6 : Int32) &&& 31).toUInt32).toInt32) &&& (3 : Int32))), .val (.int p0), .val (.int w0_53), .val (.int w0_77), .val (.int w0_112), .val (.ref b2), .val (.int (F9 (0 : Int32) w0_112 [p0, w0_112, p0, w0_53, (0 : Int32), (0 : Int32), (0 : Int32), (0 : Int32)] [(2 : Int32), (1 : Int32)] [(2 : Int32), (1 : Int32)])), .val (.int v6_22c)]) rfl k) ?_
                  refine Go.of (fun t k => XS.iload X28.here hx rfl (hb hby at_193) rfl k) ?_
                  refine Go.of (fun t k => XS.iconst X28.here hx rfl (hb hby at_195) k) ?_
                  show Go p e below s _ _ _ (T28.setTop (mkF m 196 #[.val (.int p0), .val (.int p1), .val (.int p2), .val (.int p3), .val (.int p4), .val (.int (1 : Int32)), .val (.int v6_22c), .val (.int (((p4.toUInt32 >>> ((4 : Int32) &&& 31).toUInt32).toInt32) &&& (3 : Int32))), .val (.int (((p4.toUInt32 >>> ((6 : Int32) &&& 31).toUInt32).toInt32) &&& (3 : Int32))), .val (.int p0), .val (.int w0_53), .val (.int w0_77), .val (.int w0_112), .val (.ref b2), .val (.int (F9 (0 : Int32) w0_112 [p0, w0_112, p0, w0_53, (0 : Int32), (0 : Int32), (0 : Int32), (0 : Int32)] [(2 : Int32), (1 : Int32)] [(2 : Int32), (1 : Int32)])), .val (.int v6_22c)] [(.int (3 : Int32)), (.int v6_22c)]))
                  have jn209a : ∀ (v15_209a : Int32) (T_209a : State) (l_209a : List Loc) (X_209a : Stand p l e room_1 s m #[(.int p0), (.int p1), (.int p2), (.int p3), (.int p4)] below meth c T_209a l_209a 16 85) (e_209a : T_209a.heap = T24.heap) (N_209a : Fr n0 l_209a), Go p e below s (QL (some (.int (F0_209a p0 w0_53 w0_112 v15_209a))) n0) room_1.cells room_1.slots (T_209a.setTop (mkF m 209 #[.val (.int p0), .val (.int p1), .val (.int p2), .val (.int p3), .val (.int p4), .val (.int (1 : Int32)), .val (.int v6_22c), .val (.int (((p4.toUInt32 >>> ((4 : Int32) &&& 31).toUInt32).toInt32) &&& (3 : Int32))), .val (.int (((p4.toUInt32 >>> ((6 : Int32) &&& 31).toUInt32).toInt32) &&& (3 : Int32))), .val (.int p0), .val (.int w0_53), .val (.int w0_77), .val (.int w0_112), .val (.ref b2), .val (.int (F9 (0 : Int32) w0_112 [p0, w0_112, p0, w0_53, (0 : Int32), (0 : Int32), (0 : Int32), (0 : Int32)] [(2 : Int32), (1 : Int32)] [(2 : Int32), (1 : Int32)])), .val (.int v15_209a)] [])) := by
                    intro v15_209a T_209a l_209a X_209a e_209a N_209a
                    unfold F0_209a
                    refine Go.of (fun t k => XS.iload X_209a.here hx rfl (hb hby at_209) rfl k) ?_
                    refine Go.of (fun t k => XS.iconst X_209a.here hx rfl (hb hby at_211) k) ?_
                    show Go p e below s _ _ _ (T_209a.setTop (mkF m 212 #[.val (.int p0), .val (.int p1), .val (.int p2), .val (.int p3), .val (.int p4), .val (.int (1 : Int32)), .val (.int v6_22c), .val (.int (((p4.toUInt32 >>> ((4 : Int32) &&& 31).toUInt32).toInt32) &&& (3 : Int32))), .val (.int (((p4.toUInt32 >>> ((6 : Int32) &&& 31).toUInt32).toInt32) &&& (3 : Int32))), .val (.int p0), .val (.int w0_53), .val (.int w0_77), .val (.int w0_112), .val (.ref b2), .val (.int (F9 (0 : Int32) w0_112 [p0, w0_112, p0, w0_53, (0 : Int32), (0 : Int32), (0 : Int32), (0 : Int32)] [(2 : Int32), (1 : Int32)] [(2 : Int32), (1 : Int32)])), .val (.int v15_209a)] [(.int (2 : Int32)), (.int v6_22c)]))
                    have jn225a : ∀ (v15_225a : Int32) (T_225a : State) (l_225a : List Loc) (X_225a : Stand p l e room_1 s m #[(.int p0), (.int p1), (.int p2), (.int p3), (.int p4)] below meth c T_225a l_225a 16 85) (e_225a : T_225a.heap = T24.heap) (N_225a : Fr n0 l_225a), Go p e below s (QL (some (.int (F0_225a p0 w0_53 w0_112 v15_225a))) n0) room_1.cells room_1.slots (T_225a.setTop (mkF m 225 #[.val (.int p0), .val (.int p1), .val (.int p2), .val (.int p3), .val (.int p4), .val (.int (1 : Int32)), .val (.int v6_22c), .val (.int (((p4.toUInt32 >>> ((4 : Int32) &&& 31).toUInt32).toInt32) &&& (3 : Int32))), .val (.int (((p4.toUInt32 >>> ((6 : Int32) &&& 31).toUInt32).toInt32) &&& (3 : Int32))), .val (.int p0), .val (.int w0_53), .val (.int w0_77), .val (.int w0_112), .val (.ref b2), .val (.int (F9 (0 : Int32) w0_112 [p0, w0_112, p0, w0_53, (0 : Int32), (0 : Int32), (0 : Int32), (0 : Int32)] [(2 : Int32), (1 : Int32)] [(2 : Int32), (1 : Int32)])), .val (.int v15_225a)] [])) := by
                      intro v15_225a T_225a l_225a X_225a e_225a N_225a
                      unfold F0_225a
                      refine Go.of (fun t k => XS.iload X_225a.here hx rfl (hb hby at_225) rfl k) ?_
                      refine Go.of (fun t k => XS.iload X_225a.here hx rfl (hb hby at_227) rfl k) ?_
                      show Go p e below s _ _ _ (T_225a.setTop (mkF m 229 #[.val (.int p0), .val (.int p1), .val (.int p2), .val (.int p3), .val (.int p4), .val (.int (1 : Int32)), .val (.int v6_22c), .val (.int (((p4.toUInt32 >>> ((4 : Int32) &&& 31).toUInt32).toInt32) &&& (3 : Int32))), .val (.int (((p4.toUInt32 >>> ((6 : Int32) &&& 31).toUInt32).toInt32) &&& (3 : Int32))), .val (.int p0), .val (.int w0_53), .val (.int w0_77), .val (.int w0_112), .val (.ref b2), .val (.int (F9 (0 : Int32) w0_112 [p0, w0_112, p0, w0_53, (0 : Int32), (0 : Int32), (0 : Int32), (0 : Int32)] [(2 : Int32), (1 : Int32)] [(2 : Int32), (1 : Int32)])), .val (.int v15_225a)] [(.int w0_112), (.int p0)]))
                      have jn235a : ∀ (v15_235a : Int32) (T_235a : State) (l_235a : List Loc) (X_235a : Stand p l e room_1 s m #[(.int p0), (.int p1), (.int p2), (.int p3), (.int p4)] below meth c T_235a l_235a 16 85) (e_235a : T_235a.heap = T24.heap) (N_235a : Fr n0 l_235a), Go p e below s (QL (some (.int (F0_235a p0 w0_53 w0_112 v15_235a))) n0) room_1.cells room_1.slots (T_235a.setTop (mkF m 235 #[.val (.int p0), .val (.int p1), .val (.int p2), .val (.int p3), .val (.int p4), .val (.int (1 : Int32)), .val (.int v6_22c), .val (.int (((p4.toUInt32 >>> ((4 : Int32) &&& 31).toUInt32).toInt32) &&& (3 : Int32))), .val (.int (((p4.toUInt32 >>> ((6 : Int32) &&& 31).toUInt32).toInt32) &&& (3 : Int32))), .val (.int p0), .val (.int w0_53), .val (.int w0_77), .val (.int w0_112), .val (.ref b2), .val (.int (F9 (0 : Int32) w0_112 [p0, w0_112, p0, w0_53, (0 : Int32), (0 : Int32), (0 : Int32), (0 : Int32)] [(2 : Int32), (1 : Int32)] [(2 : Int32), (1 : Int32)])), .val (.int v15_235a)] [])) := by
                        intro v15_235a T_235a l_235a X_235a e_235a N_235a
                        unfold F0_235a
                        refine Go.of (fun t k => XS.iload X_235a.here hx rfl (hb hby at_235) rfl k) ?_
                        refine Go.of (fun t k => XS.iload X_235a.here hx rfl (hb hby at_237) rfl k) ?_
                        show Go p e below s _ _ _ (T_235a.setTop (mkF m 239 #[.val (.int p0), .val (.int p1), .val (.int p2), .val (.int p3), .val (.int p4), .val (.int (1 : Int32)), .val (.int v6_22c), .val (.int (((p4.toUInt32 >>> ((4 : Int32) &&& 31).toUInt32).toInt32) &&& (3 : Int32))), .val (.int (((p4.toUInt32 >>> ((6 : Int32) &&& 31).toUInt32).toInt32) &&& (3 : Int32))), .val (.int p0), .val (.int w0_53), .val (.int w0_77), .val (.int w0_112), .val (.ref b2), .val (.int (F9 (0 : Int32) w0_112 [p0, w0_112, p0, w0_53, (0 : Int32), (0 : Int32), (0 : Int32), (0 : Int32)] [(2 : Int32), (1 : Int32)] [(2 : Int32), (1 : Int32)])), .val (.int v15_235a)] [(.int v15_235a), (.int (F9 (0 : Int32) w0_112 [p0, w0_112, p0, w0_53, (0 : Int32), (0 : Int32), (0 : Int32), (0 : Int32)] [(2 : Int32), (1 : Int32)] [(2 : Int32), (1 : Int32)]))]))
                        by_cases hc239_29 : (F9 (0 : Int32) w0_112 [p0, w0_112, p0, w0_53, (0 : Int32), (0 : Int32), (0 : Int32), (0 : Int32)] [(2 : Int32), (1 : Int32)] [(2 : Int32), (1 : Int32)]) = v15_235a
                        · rewrite [if_pos hc239_29]
                          refine Go.of (fun t k => XS.icmpNo X_235a.here hx rfl (hb hby at_239) rfl (teq hc239_29).2 k) ?_
                          show Go p e below s _ _ _ (T_235a.setTop (mkF m 242 #[.val (.int p0), .val (.int p1), .val (.int p2), .val (.int p3), .val (.int p4), .val (.int (1 : Int32)), .val (.int v6_22c), .val (.int (((p4.toUInt32 >>> ((4 : Int32) &&& 31).toUInt32).toInt32) &&& (3 : Int32))), .val (.int (((p4.toUInt32 >>> ((6 : Int32) &&& 31).toUInt32).toInt32) &&& (3 : Int32))), .val (.int p0), .val (.int w0_53), .val (.int w0_77), .val (.int w0_112), .val (.ref b2), .val (.int (F9 (0 : Int32) w0_112 [p0, w0_112, p0, w0_53, (0 : Int32), (0 : Int32), (0 : Int32), (0 : Int32)] [(2 : Int32), (1 : Int32)] [(2 : Int32), (1 : Int32)])), .val (.int v15_235a)] []))
                          refine Go.of (fun t k => XS.iconst X_235a.here hx rfl (hb hby at_242) k) ?_
                          refine Go.of (fun t k => XS.goto X_235a.here hx rfl (pc0 := 243) (pc' := 247) rfl (hb hby at_243) (by decide) (by decide) k) ?_
                          show Go p e below s _ _ _ (T_235a.setTop (mkF m 247 #[.val (.int p0), .val (.int p1), .val (.int p2), .val (.int p3), .val (.int p4), .val (.int (1 : Int32)), .val (.int v6_22c), .val (.int (((p4.toUInt32 >>> ((4 : Int32) &&& 31).toUInt32).toInt32) &&& (3 : Int32))), .val (.int (((p4.toUInt32 >>> ((6 : Int32) &&& 31).toUInt32).toInt32) &&& (3 : Int32))), .val (.int p0), .val (.int w0_53), .val (.int w0_77), .val (.int w0_112), .val (.ref b2), .val (.int (F9 (0 : Int32) w0_112 [p0, w0_112, p0, w0_53, (0 : Int32), (0 : Int32), (0 : Int32), (0 : Int32)] [(2 : Int32), (1 : Int32)] [(2 : Int32), (1 : Int32)])), .val (.int v15_235a)] [(.int (1 : Int32))]))
                          exact Go.ret X_235a (some (.int (1 : Int32))) (fun h => by rw [Bd.returns] at h; cases h) hlk ⟨rfl, N_235a⟩ (by decide) (by decide) (fun fs hr => (retN X_235a hx (t := .boolean) Bd.returns (by simp) (hb hby at_247) hr))
                        · rewrite [if_neg hc239_29]
                          refine Go.of (fun t k => XS.icmpYes X_235a.here hx rfl (pc0 := 239) (pc' := 246) rfl (hb hby at_239) rfl (feq hc239_29).2 (by decide) (by decide) k) ?_
                          show Go p e below s _ _ _ (T_235a.setTop (mkF m 246 #[.val (.int p0), .val (.int p1), .val (.int p2), .val (.int p3), .val (.int p4), .val (.int (1 : Int32)), .val (.int v6_22c), .val (.int (((p4.toUInt32 >>> ((4 : Int32) &&& 31).toUInt32).toInt32) &&& (3 : Int32))), .val (.int (((p4.toUInt32 >>> ((6 : Int32) &&& 31).toUInt32).toInt32) &&& (3 : Int32))), .val (.int p0), .val (.int w0_53), .val (.int w0_77), .val (.int w0_112), .val (.ref b2), .val (.int (F9 (0 : Int32) w0_112 [p0, w0_112, p0, w0_53, (0 : Int32), (0 : Int32), (0 : Int32), (0 : Int32)] [(2 : Int32), (1 : Int32)] [(2 : Int32), (1 : Int32)])), .val (.int v15_235a)] []))
                          refine Go.of (fun t k => XS.iconst X_235a.here hx rfl (hb hby at_246) k) ?_
                          show Go p e below s _ _ _ (T_235a.setTop (mkF m 247 #[.val (.int p0), .val (.int p1), .val (.int p2), .val (.int p3), .val (.int p4), .val (.int (1 : Int32)), .val (.int v6_22c), .val (.int (((p4.toUInt32 >>> ((4 : Int32) &&& 31).toUInt32).toInt32) &&& (3 : Int32))), .val (.int (((p4.toUInt32 >>> ((6 : Int32) &&& 31).toUInt32).toInt32) &&& (3 : Int32))), .val (.int p0), .val (.int w0_53), .val (.int w0_77), .val (.int w0_112), .val (.ref b2), .val (.int (F9 (0 : Int32) w0_112 [p0, w0_112, p0, w0_53, (0 : Int32), (0 : Int32), (0 : Int32), (0 : Int32)] [(2 : Int32), (1 : Int32)] [(2 : Int32), (1 : Int32)])), .val (.int v15_235a)] [(.int (0 : Int32))]))
                          exact Go.ret X_235a (some (.int (0 : Int32))) (fun h => by rw [Bd.returns] at h; cases h) hlk ⟨rfl, N_235a⟩ (by decide) (by decide) (fun fs hr => (retN X_235a hx (t := .boolean) Bd.returns (by simp) (hb hby at_247) hr))
                      by_cases hc229_30 : p0 = w0_112
                      · rewrite [if_pos hc229_30]
                        refine Go.of (fun t k => XS.icmpNo X_225a.here hx rfl (hb hby at_229) rfl (teq hc229_30).2 k) ?_
                        show Go p e below s _ _ _ (T_225a.setTop (mkF m 232 #[.val (.int p0), .val (.int p1), .val (.int p2), .val (.int p3), .val (.int p4), .val (.int (1 : Int32)), .val (.int v6_22c), .val (.int (((p4.toUInt32 >>> ((4 : Int32) &&& 31).toUInt32).toInt32) &&& (3 : Int32))), .val (.int (((p4.toUInt32 >>> ((6 : Int32) &&& 31).toUInt32).toInt32) &&& (3 : Int32))), .val (.int p0), .val (.int w0_53), .val (.int w0_77), .val (.int w0_112), .val (.ref b2), .val (.int (F9 (0 : Int32) w0_112 [p0, w0_112, p0, w0_53, (0 : Int32), (0 : Int32), (0 : Int32), (0 : Int32)] [(2 : Int32), (1 : Int32)] [(2 : Int32), (1 : Int32)])), .val (.int v15_225a)] []))
                        refine Go.of (fun t k => XS.iconst X_225a.here hx rfl (hb hby at_232) k) ?_
                        refine Go.of (fun t k => XS.istore X_225a.here hx rfl (hb hby at_233) rfl (l' := #[.val (.int p0), .val (.int p1), .val (.int p2), .val (.int p3), .val (.int p4), .val (.int (1 : Int32)), .val (.int v6_22c), .val (.int (((p4.toUInt32 >>> ((4 : Int32) &&& 31).toUInt32).toInt32) &&& (3 : Int32))), .val (.int (((p4.toUInt32 >>> ((6 : Int32) &&& 31).toUInt32).toInt32) &&& (3 : Int32))), .val (.int p0), .val (.int w0_53), .val (.int w0_77), .val (.int w0_112), .val (.ref b2), .val (.int (F9 (0 : Int32) w0_112 [p0, w0_112, p0, w0_53, (0 : Int32), (0 : Int32), (0 : Int32), (0 : Int32)] [(2 : Int32), (1 : Int32)] [(2 : Int32), (1 : Int32)])), .val (.int (0 : Int32))]) rfl k) ?_
                        show Go p e below s _ _ _ (T_225a.setTop (mkF m 235 #[.val (.int p0), .val (.int p1), .val (.int p2), .val (.int p3), .val (.int p4), .val (.int (1 : Int32)), .val (.int v6_22c), .val (.int (((p4.toUInt32 >>> ((4 : Int32) &&& 31).toUInt32).toInt32) &&& (3 : Int32))), .val (.int (((p4.toUInt32 >>> ((6 : Int32) &&& 31).toUInt32).toInt32) &&& (3 : Int32))), .val (.int p0), .val (.int w0_53), .val (.int w0_77), .val (.int w0_112), .val (.ref b2), .val (.int (F9 (0 : Int32) w0_112 [p0, w0_112, p0, w0_53, (0 : Int32), (0 : Int32), (0 : Int32), (0 : Int32)] [(2 : Int32), (1 : Int32)] [(2 : Int32), (1 : Int32)])), .val (.int (0 : Int32))] []))
                        exact jn235a (0 : Int32)  T_225a _ X_225a e_225a N_225a  
                      · rewrite [if_neg hc229_30]
                        refine Go.of (fun t k => XS.icmpYes X_225a.here hx rfl (pc0 := 229) (pc' := 235) rfl (hb hby at_229) rfl (feq hc229_30).2 (by decide) (by decide) k) ?_
                        show Go p e below s _ _ _ (T_225a.setTop (mkF m 235 #[.val (.int p0), .val (.int p1), .val (.int p2), .val (.int p3), .val (.int p4), .val (.int (1 : Int32)), .val (.int v6_22c), .val (.int (((p4.toUInt32 >>> ((4 : Int32) &&& 31).toUInt32).toInt32) &&& (3 : Int32))), .val (.int (((p4.toUInt32 >>> ((6 : Int32) &&& 31).toUInt32).toInt32) &&& (3 : Int32))), .val (.int p0), .val (.int w0_53), .val (.int w0_77), .val (.int w0_112), .val (.ref b2), .val (.int (F9 (0 : Int32) w0_112 [p0, w0_112, p0, w0_53, (0 : Int32), (0 : Int32), (0 : Int32), (0 : Int32)] [(2 : Int32), (1 : Int32)] [(2 : Int32), (1 : Int32)])), .val (.int v15_225a)] []))
                        exact jn235a v15_225a  T_225a _ X_225a e_225a N_225a  
                    refine Go.of (fun t k => XS.icmpNo X_209a.here hx rfl (hb hby at_212) rfl (flt hc148_19).1 k) ?_
                    show Go p e below s _ _ _ (T_209a.setTop (mkF m 215 #[.val (.int p0), .val (.int p1), .val (.int p2), .val (.int p3), .val (.int p4), .val (.int (1 : Int32)), .val (.int v6_22c), .val (.int (((p4.toUInt32 >>> ((4 : Int32) &&& 31).toUInt32).toInt32) &&& (3 : Int32))), .val (.int (((p4.toUInt32 >>> ((6 : Int32) &&& 31).toUInt32).toInt32) &&& (3 : Int32))), .val (.int p0), .val (.int w0_53), .val (.int w0_77), .val (.int w0_112), .val (.ref b2), .val (.int (F9 (0 : Int32) w0_112 [p0, w0_112, p0, w0_53, (0 : Int32), (0 : Int32), (0 : Int32), (0 : Int32)] [(2 : Int32), (1 : Int32)] [(2 : Int32), (1 : Int32)])), .val (.int v15_209a)] []))
                    refine Go.of (fun t k => XS.iload X_209a.here hx rfl (hb hby at_215) rfl k) ?_
                    refine Go.of (fun t k => XS.iload X_209a.here hx rfl (hb hby at_217) rfl k) ?_
                    show Go p e below s _ _ _ (T_209a.setTop (mkF m 219 #[.val (.int p0), .val (.int p1), .val (.int p2), .val (.int p3), .val (.int p4), .val (.int (1 : Int32)), .val (.int v6_22c), .val (.int (((p4.toUInt32 >>> ((4 : Int32) &&& 31).toUInt32).toInt32) &&& (3 : Int32))), .val (.int (((p4.toUInt32 >>> ((6 : Int32) &&& 31).toUInt32).toInt32) &&& (3 : Int32))), .val (.int p0), .val (.int w0_53), .val (.int w0_77), .val (.int w0_112), .val (.ref b2), .val (.int (F9 (0 : Int32) w0_112 [p0, w0_112, p0, w0_53, (0 : Int32), (0 : Int32), (0 : Int32), (0 : Int32)] [(2 : Int32), (1 : Int32)] [(2 : Int32), (1 : Int32)])), .val (.int v15_209a)] [(.int w0_112), (.int w0_53)]))
                    by_cases hc219_31 : w0_53 = w0_112
                    · rewrite [if_pos hc219_31]
                      refine Go.of (fun t k => XS.icmpNo X_209a.here hx rfl (hb hby at_219) rfl (teq hc219_31).2 k) ?_
                      show Go p e below s _ _ _ (T_209a.setTop (mkF m 222 #[.val (.int p0), .val (.int p1), .val (.int p2), .val (.int p3), .val (.int p4), .val (.int (1 : Int32)), .val (.int v6_22c), .val (.int (((p4.toUInt32 >>> ((4 : Int32) &&& 31).toUInt32).toInt32) &&& (3 : Int32))), .val (.int (((p4.toUInt32 >>> ((6 : Int32) &&& 31).toUInt32).toInt32) &&& (3 : Int32))), .val (.int p0), .val (.int w0_53), .val (.int w0_77), .val (.int w0_112), .val (.ref b2), .val (.int (F9 (0 : Int32) w0_112 [p0, w0_112, p0, w0_53, (0 : Int32), (0 : Int32), (0 : Int32), (0 : Int32)] [(2 : Int32), (1 : Int32)] [(2 : Int32), (1 : Int32)])), .val (.int v15_209a)] []))
                      refine Go.of (fun t k => XS.iconst X_209a.here hx rfl (hb hby at_222) k) ?_
                      refine Go.of (fun t k => XS.istore X_209a.here hx rfl (hb hby at_223) rfl (l' := #[.val (.int p0), .val (.int p1), .val (.int p2), .val (.int p3), .val (.int p4), .val (.int (1 : Int32)), .val (.int v6_22c), .val (.int (((p4.toUInt32 >>> ((4 : Int32) &&& 31).toUInt32).toInt32) &&& (3 : Int32))), .val (.int (((p4.toUInt32 >>> ((6 : Int32) &&& 31).toUInt32).toInt32) &&& (3 : Int32))), .val (.int p0), .val (.int w0_53), .val (.int w0_77), .val (.int w0_112), .val (.ref b2), .val (.int (F9 (0 : Int32) w0_112 [p0, w0_112, p0, w0_53, (0 : Int32), (0 : Int32), (0 : Int32), (0 : Int32)] [(2 : Int32), (1 : Int32)] [(2 : Int32), (1 : Int32)])), .val (.int (1 : Int32))]) rfl k) ?_
                      show Go p e below s _ _ _ (T_209a.setTop (mkF m 225 #[.val (.int p0), .val (.int p1), .val (.int p2), .val (.int p3), .val (.int p4), .val (.int (1 : Int32)), .val (.int v6_22c), .val (.int (((p4.toUInt32 >>> ((4 : Int32) &&& 31).toUInt32).toInt32) &&& (3 : Int32))), .val (.int (((p4.toUInt32 >>> ((6 : Int32) &&& 31).toUInt32).toInt32) &&& (3 : Int32))), .val (.int p0), .val (.int w0_53), .val (.int w0_77), .val (.int w0_112), .val (.ref b2), .val (.int (F9 (0 : Int32) w0_112 [p0, w0_112, p0, w0_53, (0 : Int32), (0 : Int32), (0 : Int32), (0 : Int32)] [(2 : Int32), (1 : Int32)] [(2 : Int32), (1 : Int32)])), .val (.int (1 : Int32))] []))
                      exact jn225a (1 : Int32)  T_209a _ X_209a e_209a N_209a  
                    · rewrite [if_neg hc219_31]
                      refine Go.of (fun t k => XS.icmpYes X_209a.here hx rfl (pc0 := 219) (pc' := 225) rfl (hb hby at_219) rfl (feq hc219_31).2 (by decide) (by decide) k) ?_
                      show Go p e below s _ _ _ (T_209a.setTop (mkF m 225 #[.val (.int p0), .val (.int p1), .val (.int p2), .val (.int p3), .val (.int p4), .val (.int (1 : Int32)), .val (.int v6_22c), .val (.int (((p4.toUInt32 >>> ((4 : Int32) &&& 31).toUInt32).toInt32) &&& (3 : Int32))), .val (.int (((p4.toUInt32 >>> ((6 : Int32) &&& 31).toUInt32).toInt32) &&& (3 : Int32))), .val (.int p0), .val (.int w0_53), .val (.int w0_77), .val (.int w0_112), .val (.ref b2), .val (.int (F9 (0 : Int32) w0_112 [p0, w0_112, p0, w0_53, (0 : Int32), (0 : Int32), (0 : Int32), (0 : Int32)] [(2 : Int32), (1 : Int32)] [(2 : Int32), (1 : Int32)])), .val (.int v15_209a)] []))
                      exact jn225a v15_209a  T_209a _ X_209a e_209a N_209a  
                  refine Go.of (fun t k => XS.icmpYes X28.here hx rfl (pc0 := 196) (pc' := 209) rfl (hb hby at_196) rfl (tlt hc165_27).1 (by decide) (by decide) k) ?_
                  show Go p e below s _ _ _ (T28.setTop (mkF m 209 #[.val (.int p0), .val (.int p1), .val (.int p2), .val (.int p3), .val (.int p4), .val (.int (1 : Int32)), .val (.int v6_22c), .val (.int (((p4.toUInt32 >>> ((4 : Int32) &&& 31).toUInt32).toInt32) &&& (3 : Int32))), .val (.int (((p4.toUInt32 >>> ((6 : Int32) &&& 31).toUInt32).toInt32) &&& (3 : Int32))), .val (.int p0), .val (.int w0_53), .val (.int w0_77), .val (.int w0_112), .val (.ref b2), .val (.int (F9 (0 : Int32) w0_112 [p0, w0_112, p0, w0_53, (0 : Int32), (0 : Int32), (0 : Int32), (0 : Int32)] [(2 : Int32), (1 : Int32)] [(2 : Int32), (1 : Int32)])), .val (.int v6_22c)] []))
                  exact jn209a v6_22c  T28 _ X28 e28 N28  
                · rewrite [if_neg hc165_27]
                  refine Go.of (fun t k => XS.icmpNo X24.here hx rfl (hb hby at_165) rfl (flt hc165_27).1 k) ?_
                  show Go p e below s _ _ _ (T24.setTop (mkF m 168 #[.val (.int p0), .val (.int p1), .val (.int p2), .val (.int p3), .val (.int p4), .val (.int (1 : Int32)), .val (.int v6_22c), .val (.int (((p4.toUInt32 >>> ((4 : Int32) &&& 31).toUInt32).toInt32) &&& (3 : Int32))), .val (.int (((p4.toUInt32 >>> ((6 : Int32) &&& 31).toUInt32).toInt32) &&& (3 : Int32))), .val (.int p0), .val (.int w0_53), .val (.int w0_77), .val (.int w0_112), .val (.ref b2), .unset, .unset] []))
                  refine Go.of (fun t k => XS.aload X24.here hx rfl (hb hby at_168) rfl rfl k) ?_
                  refine Go.of (fun t k => XS.iconst X24.here hx rfl (hb hby at_170) k) ?_
                  refine Go.of (fun t k => XS.iconst X24.here hx rfl (hb hby at_171) k) ?_
                  refine Go.of (fun t k => XS.iload X24.here hx rfl (hb hby at_172) rfl k) ?_
                  refine Go.of (fun t k => XS.iconst X24.here hx rfl (hb hby at_174) k) ?_
                  refine Go.of (fun t k => XS.iconst X24.here hx rfl (hb hby at_175) k) ?_
                  show Go p e below s _ _ _ (T24.setTop (mkF m 176 #[.val (.int p0), .val (.int p1), .val (.int p2), .val (.int p3), .val (.int p4), .val (.int (1 : Int32)), .val (.int v6_22c), .val (.int (((p4.toUInt32 >>> ((4 : Int32) &&& 31).toUInt32).toInt32) &&& (3 : Int32))), .val (.int (((p4.toUInt32 >>> ((6 : Int32) &&& 31).toUInt32).toInt32) &&& (3 : Int32))), .val (.int p0), .val (.int w0_53), .val (.int w0_77), .val (.int w0_112), .val (.ref b2), .unset, .unset] [(.int (1 : Int32)), (.int (0 : Int32)), (.int w0_77), (.int (2 : Int32)), (.int (0 : Int32)), (.ref b2)]))
                  obtain ⟨cq32, kq32, q32a, q32b, q32c⟩ := isOf hZ rfl E_26
                  obtain ⟨_, _, ⟨T32, L32, k32, n32⟩, -, X32, ⟨Lc32, hQ32, l32, y32, z32⟩, st32⟩ := X24.virtualBack hx (y := (⟨"com/example/susurrus/susurrus/KnownUnits", "keep", "(IIIII)V"⟩ : MethodName)) (z := (⟨"com/example/susurrus/susurrus/KnownUnits", "keep", "(IIIII)V"⟩ : MethodName)) hown (mvT hZ (hw _ (List.mem_of_getElem? (i := 59) rfl))) (mvT hZ (hw _ (List.mem_of_getElem? (i := 60) rfl))) (notFace_of_selects (args := #[]) (mvT hZ (hw _ (List.mem_of_getElem? (i := 62) rfl)))) (mvT hZ (hw _ (List.mem_of_getElem? (i := 62) rfl))) (mvT hZ (hw _ (List.mem_of_getElem? (i := 61) rfl))) (by decide) (backOf (W := 0) (rm10A l Z az hw [] b2 (0 : Int32) (2 : Int32) w0_77 (0 : Int32) (1 : Int32) bu25 bg25 bd25 xt11 xr11 xc11 ku25 kg25 kd25 kxt11 kxr11 kxc11 (4 : Int32) [p0, w0_112, p0, w0_53, (0 : Int32), (0 : Int32), (0 : Int32), (0 : Int32)] [(0 : Int32), (0 : Int32), (0 : Int32), (0 : Int32), (0 : Int32), (0 : Int32), (0 : Int32), (0 : Int32)] [(-1 : Int32), (-1 : Int32), (-1 : Int32), (0 : Int32), (0 : Int32), (0 : Int32), (0 : Int32), (0 : Int32)] [(2 : Int32), (1 : Int32)] [(2 : Int32), (1 : Int32)] [(2 : Int32), (1 : Int32)] (4 : Int32) T24.heap n0 Zk26 ⟨E_26, Ff0_26, Ff1_26, Ff2_26, Ff3_26, Ff4_26, Ff5_26, Ff6_26, Vv0_26, Vv1_26, Vv2_26, Vv3_26, Vv4_26, Vv5_26, g_b2, g_bu25, g_bg25, g_bd25, g_xt11, g_xr11, g_xc11, Zk26, ne_0_1_26, ne_0_2_26, ne_0_3_26, ne_0_4_26, ne_0_5_26, ne_0_6_26, ne_1_2_26, ne_1_3_26, ne_1_4_26, ne_1_5_26, ne_1_6_26, ne_2_3_26, ne_2_4_26, ne_2_5_26, ne_2_6_26, ne_3_4_26, ne_3_5_26, ne_3_6_26, ne_4_5_26, ne_4_6_26, ne_5_6_26⟩ (by decide) (by decide) (by decide) (by decide) (by decide) (by decide) (by decide) (by decide)) hZ (hw _ (List.mem_of_getElem? (i := 63) rfl)) (hw _ (List.mem_of_getElem? (i := 6) rfl)) (by decide) (by decide)) q32a q32c (g := (mkF m 176 #[.val (.int p0), .val (.int p1), .val (.int p2), .val (.int p3), .val (.int p4), .val (.int (1 : Int32)), .val (.int v6_22c), .val (.int (((p4.toUInt32 >>> ((4 : Int32) &&& 31).toUInt32).toInt32) &&& (3 : Int32))), .val (.int (((p4.toUInt32 >>> ((6 : Int32) &&& 31).toUInt32).toInt32) &&& (3 : Int32))), .val (.int p0), .val (.int w0_53), .val (.int w0_77), .val (.int w0_112), .val (.ref b2), .unset, .unset] [(.int (1 : Int32)), (.int (0 : Int32)), (.int w0_77), (.int (2 : Int32)), (.int (0 : Int32)), (.ref b2)])) rfl (by rw [hml]; rfl) (Steps.refl _) (argsL := [(.int (0 : Int32)), (.int (2 : Int32)), (.int w0_77), (.int (0 : Int32)), (.int (1 : Int32))]) (rest := []) (lenOf own_pd7 rfl) rfl (by show 2 * 0 + _ ≤ _; exact Nat.le_of_eq rfl) (hb hby at_176) (fun _ _ => ⟨rfl, rfl, (by decide : 16 + 3 ≤ _), (by decide : 85 + 24 ≤ _)⟩)
                  dsimp only [Pt.U, Pt.locs, Pt.cells, Pt.slots] at X32 l32 y32 z32 st32 hQ32
                  subst l32 y32 z32
                  obtain ⟨rfl, N32q, bu33, bg33, bd33, ku33, kg33, kd33, hK33⟩ := hQ32
                  have N32 := Fr.app N24 N32q
                  have hS33 : own_K Z T32.heap n0 b2 bu33 bg33 bd33 xt11 xr11 xc11 ku33 kg33 kd33 kxt11 kxr11 kxc11 (8 : Int32) [p0, w0_112, p0, w0_53, p0, w0_53, w0_77, (0 : Int32)] [(0 : Int32), (0 : Int32), (0 : Int32), (0 : Int32), (0 : Int32), (0 : Int32), (0 : Int32), (0 : Int32)] [(-1 : Int32), (-1 : Int32), (-1 : Int32), (0 : Int32), (-1 : Int32), (0 : Int32), (1 : Int32), (0 : Int32)] [(4 : Int32), (1 : Int32)] [(4 : Int32), (1 : Int32)] [(3 : Int32), (1 : Int32)] (8 : Int32) := hK33
                  obtain ⟨E_34, Ff0_34, Ff1_34, Ff2_34, Ff3_34, Ff4_34, Ff5_34, Ff6_34, Vv0_34, Vv1_34, Vv2_34, Vv3_34, Vv4_34, Vv5_34, g_b2, g_bu33, g_bg33, g_bd33, g_xt11, g_xr11, g_xc11, Zk34, ne_0_1_34, ne_0_2_34, ne_0_3_34, ne_0_4_34, ne_0_5_34, ne_0_6_34, ne_1_2_34, ne_1_3_34, ne_1_4_34, ne_1_5_34, ne_1_6_34, ne_2_3_34, ne_2_4_34, ne_2_5_34, ne_2_6_34, ne_3_4_34, ne_3_5_34, ne_3_6_34, ne_4_5_34, ne_4_6_34, ne_5_6_34⟩ := id hS33
                  refine Go.of (fun t k => st32.trans k) ?_
                  show Go p e below s _ _ _ (T32.setTop (mkF m 179 #[.val (.int p0), .val (.int p1), .val (.int p2), .val (.int p3), .val (.int p4), .val (.int (1 : Int32)), .val (.int v6_22c), .val (.int (((p4.toUInt32 >>> ((4 : Int32) &&& 31).toUInt32).toInt32) &&& (3 : Int32))), .val (.int (((p4.toUInt32 >>> ((6 : Int32) &&& 31).toUInt32).toInt32) &&& (3 : Int32))), .val (.int p0), .val (.int w0_53), .val (.int w0_77), .val (.int w0_112), .val (.ref b2), .unset, .unset] []))
                  refine Go.of (fun t k => XS.aload X32.here hx rfl (hb hby at_179) rfl rfl k) ?_
                  refine Go.of (fun t k => XS.iconst X32.here hx rfl (hb hby at_181) k) ?_
                  refine Go.of (fun t k => XS.iload X32.here hx rfl (hb hby at_182) rfl k) ?_
                  show Go p e below s _ _ _ (T32.setTop (mkF m 184 #[.val (.int p0), .val (.int p1), .val (.int p2), .val (.int p3), .val (.int p4), .val (.int (1 : Int32)), .val (.int v6_22c), .val (.int (((p4.toUInt32 >>> ((4 : Int32) &&& 31).toUInt32).toInt32) &&& (3 : Int32))), .val (.int (((p4.toUInt32 >>> ((6 : Int32) &&& 31).toUInt32).toInt32) &&& (3 : Int32))), .val (.int p0), .val (.int w0_53), .val (.int w0_77), .val (.int w0_112), .val (.ref b2), .unset, .unset] [(.int w0_112), (.int (0 : Int32)), (.ref b2)]))
                  obtain ⟨cq35, kq35, q35a, q35b, q35c⟩ := isOf hZ rfl E_34
                  obtain ⟨_, _, ⟨T35, L35, k35, n35⟩, -, X35, ⟨Lc35, hQ35, l35, y35, z35⟩, st35⟩ := X32.virtualBack hx (y := (⟨"com/example/susurrus/susurrus/KnownUnits", "find", "(II)I"⟩ : MethodName)) (z := (⟨"com/example/susurrus/susurrus/KnownUnits", "find", "(II)I"⟩ : MethodName)) hown (mvT hZ (hw _ (List.mem_of_getElem? (i := 54) rfl))) (mvT hZ (hw _ (List.mem_of_getElem? (i := 55) rfl))) (notFace_of_selects (args := #[]) (mvT hZ (hw _ (List.mem_of_getElem? (i := 57) rfl)))) (mvT hZ (hw _ (List.mem_of_getElem? (i := 57) rfl))) (mvT hZ (hw _ (List.mem_of_getElem? (i := 56) rfl))) (by decide) (backOf (W := 0) (rm9 l Z az hw [] b2 (0 : Int32) w0_112 bu33 bg33 bd33 xt11 xr11 xc11 ku33 kg33 kd33 kxt11 kxr11 kxc11 (8 : Int32) [p0, w0_112, p0, w0_53, p0, w0_53, w0_77, (0 : Int32)] [(0 : Int32), (0 : Int32), (0 : Int32), (0 : Int32), (0 : Int32), (0 : Int32), (0 : Int32), (0 : Int32)] [(-1 : Int32), (-1 : Int32), (-1 : Int32), (0 : Int32), (-1 : Int32), (0 : Int32), (1 : Int32), (0 : Int32)] [(4 : Int32), (1 : Int32)] [(4 : Int32), (1 : Int32)] [(3 : Int32), (1 : Int32)] (8 : Int32) T32.heap n0 Zk34 ⟨E_34, Ff0_34, Ff1_34, Ff2_34, Ff3_34, Ff4_34, Ff5_34, Ff6_34, Vv0_34, Vv1_34, Vv2_34, Vv3_34, Vv4_34, Vv5_34, g_b2, g_bu33, g_bg33, g_bd33, g_xt11, g_xr11, g_xc11, Zk34, ne_0_1_34, ne_0_2_34, ne_0_3_34, ne_0_4_34, ne_0_5_34, ne_0_6_34, ne_1_2_34, ne_1_3_34, ne_1_4_34, ne_1_5_34, ne_1_6_34, ne_2_3_34, ne_2_4_34, ne_2_5_34, ne_2_6_34, ne_3_4_34, ne_3_5_34, ne_3_6_34, ne_4_5_34, ne_4_6_34, ne_5_6_34⟩ (by decide) (by decide)) hZ (hw _ (List.mem_of_getElem? (i := 58) rfl)) (hw _ (List.mem_of_getElem? (i := 6) rfl)) (by decide) (by decide)) q35a q35c (g := (mkF m 184 #[.val (.int p0), .val (.int p1), .val (.int p2), .val (.int p3), .val (.int p4), .val (.int (1 : Int32)), .val (.int v6_22c), .val (.int (((p4.toUInt32 >>> ((4 : Int32) &&& 31).toUInt32).toInt32) &&& (3 : Int32))), .val (.int (((p4.toUInt32 >>> ((6 : Int32) &&& 31).toUInt32).toInt32) &&& (3 : Int32))), .val (.int p0), .val (.int w0_53), .val (.int w0_77), .val (.int w0_112), .val (.ref b2), .unset, .unset] [(.int w0_112), (.int (0 : Int32)), (.ref b2)])) rfl (by rw [hml]; rfl) (Steps.refl _) (argsL := [(.int (0 : Int32)), (.int w0_112)]) (rest := []) (lenOf own_pd0 rfl) rfl (by show 2 * 0 + _ ≤ _; exact Nat.le_of_eq rfl) (hb hby at_184) (fun _ _ => ⟨rfl, rfl, (by decide : 19 + 0 ≤ _), (by decide : 109 + 0 ≤ _)⟩)
                  dsimp only [Pt.U, Pt.locs, Pt.cells, Pt.slots] at X35 l35 y35 z35 st35 hQ35
                  subst l35 y35 z35
                  obtain ⟨rfl, N35q, e35⟩ := hQ35
                  have N35 := Fr.app N32 N35q
                  refine Go.of (fun t k => st35.trans k) ?_
                  show Go p e below s _ _ _ (T35.setTop (mkF m 187 #[.val (.int p0), .val (.int p1), .val (.int p2), .val (.int p3), .val (.int p4), .val (.int (1 : Int32)), .val (.int v6_22c), .val (.int (((p4.toUInt32 >>> ((4 : Int32) &&& 31).toUInt32).toInt32) &&& (3 : Int32))), .val (.int (((p4.toUInt32 >>> ((6 : Int32) &&& 31).toUInt32).toInt32) &&& (3 : Int32))), .val (.int p0), .val (.int w0_53), .val (.int w0_77), .val (.int w0_112), .val (.ref b2), .unset, .unset] [(.int (F9 (0 : Int32) w0_112 [p0, w0_112, p0, w0_53, p0, w0_53, w0_77, (0 : Int32)] [(4 : Int32), (1 : Int32)] [(3 : Int32), (1 : Int32)]))]))
                  refine Go.of (fun t k => XS.istore X35.here hx rfl (hb hby at_187) rfl (l' := #[.val (.int p0), .val (.int p1), .val (.int p2), .val (.int p3), .val (.int p4), .val (.int (1 : Int32)), .val (.int v6_22c), .val (.int (((p4.toUInt32 >>> ((4 : Int32) &&& 31).toUInt32).toInt32) &&& (3 : Int32))), .val (.int (((p4.toUInt32 >>> ((6 : Int32) &&& 31).toUInt32).toInt32) &&& (3 : Int32))), .val (.int p0), .val (.int w0_53), .val (.int w0_77), .val (.int w0_112), .val (.ref b2), .val (.int (F9 (0 : Int32) w0_112 [p0, w0_112, p0, w0_53, p0, w0_53, w0_77, (0 : Int32)] [(4 : Int32), (1 : Int32)] [(3 : Int32), (1 : Int32)])), .unset]) rfl k) ?_
                  refine Go.of (fun t k => XS.iload X35.here hx rfl (hb hby at_189) rfl k) ?_
                  refine Go.of (fun t k => XS.istore X35.here hx rfl (hb hby at_191) rfl (l' := #[.val (.int p0), .val (.int p1), .val (.int p2), .val (.int p3), .val (.int p4), .val (.int (1 : Int32)), .val (.int v6_22c), .val (.int (((p4.toUInt32 >>> ((4 : Int32) &&& 31).toUInt32).toInt32) &&& (3 : Int32))), .val (.int (((p4.toUInt32 >>> ((6 : Int32) &&& 31).toUInt32).toInt32) &&& (3 : Int32))), .val (.int p0), .val (.int w0_53), .val (.int w0_77), .val (.int w0_112), .val (.ref b2), .val (.int (F9 (0 : Int32) w0_112 [p0, w0_112, p0, w0_53, p0, w0_53, w0_77, (0 : Int32)] [(4 : Int32), (1 : Int32)] [(3 : Int32), (1 : Int32)])), .val (.int v6_22c)]) rfl k) ?_
                  refine Go.of (fun t k => XS.iload X35.here hx rfl (hb hby at_193) rfl k) ?_
                  refine Go.of (fun t k => XS.iconst X35.here hx rfl (hb hby at_195) k) ?_
                  show Go p e below s _ _ _ (T35.setTop (mkF m 196 #[.val (.int p0), .val (.int p1), .val (.int p2), .val (.int p3), .val (.int p4), .val (.int (1 : Int32)), .val (.int v6_22c), .val (.int (((p4.toUInt32 >>> ((4 : Int32) &&& 31).toUInt32).toInt32) &&& (3 : Int32))), .val (.int (((p4.toUInt32 >>> ((6 : Int32) &&& 31).toUInt32).toInt32) &&& (3 : Int32))), .val (.int p0), .val (.int w0_53), .val (.int w0_77), .val (.int w0_112), .val (.ref b2), .val (.int (F9 (0 : Int32) w0_112 [p0, w0_112, p0, w0_53, p0, w0_53, w0_77, (0 : Int32)] [(4 : Int32), (1 : Int32)] [(3 : Int32), (1 : Int32)])), .val (.int v6_22c)] [(.int (3 : Int32)), (.int v6_22c)]))
                  have jn209b : ∀ (v15_209b : Int32) (T_209b : State) (l_209b : List Loc) (X_209b : Stand p l e room_1 s m #[(.int p0), (.int p1), (.int p2), (.int p3), (.int p4)] below meth c T_209b l_209b 19 109) (e_209b : T_209b.heap = T32.heap) (N_209b : Fr n0 l_209b), Go p e below s (QL (some (.int (F0_209b p0 w0_53 w0_77 w0_112 v15_209b))) n0) room_1.cells room_1.slots (T_209b.setTop (mkF m 209 #[.val (.int p0), .val (.int p1), .val (.int p2), .val (.int p3), .val (.int p4), .val (.int (1 : Int32)), .val (.int v6_22c), .val (.int (((p4.toUInt32 >>> ((4 : Int32) &&& 31).toUInt32).toInt32) &&& (3 : Int32))), .val (.int (((p4.toUInt32 >>> ((6 : Int32) &&& 31).toUInt32).toInt32) &&& (3 : Int32))), .val (.int p0), .val (.int w0_53), .val (.int w0_77), .val (.int w0_112), .val (.ref b2), .val (.int (F9 (0 : Int32) w0_112 [p0, w0_112, p0, w0_53, p0, w0_53, w0_77, (0 : Int32)] [(4 : Int32), (1 : Int32)] [(3 : Int32), (1 : Int32)])), .val (.int v15_209b)] [])) := by
                    intro v15_209b T_209b l_209b X_209b e_209b N_209b
                    unfold F0_209b
                    refine Go.of (fun t k => XS.iload X_209b.here hx rfl (hb hby at_209) rfl k) ?_
                    refine Go.of (fun t k => XS.iconst X_209b.here hx rfl (hb hby at_211) k) ?_
                    show Go p e below s _ _ _ (T_209b.setTop (mkF m 212 #[.val (.int p0), .val (.int p1), .val (.int p2), .val (.int p3), .val (.int p4), .val (.int (1 : Int32)), .val (.int v6_22c), .val (.int (((p4.toUInt32 >>> ((4 : Int32) &&& 31).toUInt32).toInt32) &&& (3 : Int32))), .val (.int (((p4.toUInt32 >>> ((6 : Int32) &&& 31).toUInt32).toInt32) &&& (3 : Int32))), .val (.int p0), .val (.int w0_53), .val (.int w0_77), .val (.int w0_112), .val (.ref b2), .val (.int (F9 (0 : Int32) w0_112 [p0, w0_112, p0, w0_53, p0, w0_53, w0_77, (0 : Int32)] [(4 : Int32), (1 : Int32)] [(3 : Int32), (1 : Int32)])), .val (.int v15_209b)] [(.int (2 : Int32)), (.int v6_22c)]))
                    have jn225b : ∀ (v15_225b : Int32) (T_225b : State) (l_225b : List Loc) (X_225b : Stand p l e room_1 s m #[(.int p0), (.int p1), (.int p2), (.int p3), (.int p4)] below meth c T_225b l_225b 19 109) (e_225b : T_225b.heap = T32.heap) (N_225b : Fr n0 l_225b), Go p e below s (QL (some (.int (F0_225b p0 w0_53 w0_77 w0_112 v15_225b))) n0) room_1.cells room_1.slots (T_225b.setTop (mkF m 225 #[.val (.int p0), .val (.int p1), .val (.int p2), .val (.int p3), .val (.int p4), .val (.int (1 : Int32)), .val (.int v6_22c), .val (.int (((p4.toUInt32 >>> ((4 : Int32) &&& 31).toUInt32).toInt32) &&& (3 : Int32))), .val (.int (((p4.toUInt32 >>> ((6 : Int32) &&& 31).toUInt32).toInt32) &&& (3 : Int32))), .val (.int p0), .val (.int w0_53), .val (.int w0_77), .val (.int w0_112), .val (.ref b2), .val (.int (F9 (0 : Int32) w0_112 [p0, w0_112, p0, w0_53, p0, w0_53, w0_77, (0 : Int32)] [(4 : Int32), (1 : Int32)] [(3 : Int32), (1 : Int32)])), .val (.int v15_225b)] [])) := by
                      intro v15_225b T_225b l_225b X_225b e_225b N_225b
                      unfold F0_225b
                      refine Go.of (fun t k => XS.iload X_225b.here hx rfl (hb hby at_225) rfl k) ?_
                      refine Go.of (fun t k => XS.iload X_225b.here hx rfl (hb hby at_227) rfl k) ?_
                      show Go p e below s _ _ _ (T_225b.setTop (mkF m 229 #[.val (.int p0), .val (.int p1), .val (.int p2), .val (.int p3), .val (.int p4), .val (.int (1 : Int32)), .val (.int v6_22c), .val (.int (((p4.toUInt32 >>> ((4 : Int32) &&& 31).toUInt32).toInt32) &&& (3 : Int32))), .val (.int (((p4.toUInt32 >>> ((6 : Int32) &&& 31).toUInt32).toInt32) &&& (3 : Int32))), .val (.int p0), .val (.int w0_53), .val (.int w0_77), .val (.int w0_112), .val (.ref b2), .val (.int (F9 (0 : Int32) w0_112 [p0, w0_112, p0, w0_53, p0, w0_53, w0_77, (0 : Int32)] [(4 : Int32), (1 : Int32)] [(3 : Int32), (1 : Int32)])), .val (.int v15_225b)] [(.int w0_112), (.int p0)]))
                      have jn235b : ∀ (v15_235b : Int32) (T_235b : State) (l_235b : List Loc) (X_235b : Stand p l e room_1 s m #[(.int p0), (.int p1), (.int p2), (.int p3), (.int p4)] below meth c T_235b l_235b 19 109) (e_235b : T_235b.heap = T32.heap) (N_235b : Fr n0 l_235b), Go p e below s (QL (some (.int (F0_235b p0 w0_53 w0_77 w0_112 v15_235b))) n0) room_1.cells room_1.slots (T_235b.setTop (mkF m 235 #[.val (.int p0), .val (.int p1), .val (.int p2), .val (.int p3), .val (.int p4), .val (.int (1 : Int32)), .val (.int v6_22c), .val (.int (((p4.toUInt32 >>> ((4 : Int32) &&& 31).toUInt32).toInt32) &&& (3 : Int32))), .val (.int (((p4.toUInt32 >>> ((6 : Int32) &&& 31).toUInt32).toInt32) &&& (3 : Int32))), .val (.int p0), .val (.int w0_53), .val (.int w0_77), .val (.int w0_112), .val (.ref b2), .val (.int (F9 (0 : Int32) w0_112 [p0, w0_112, p0, w0_53, p0, w0_53, w0_77, (0 : Int32)] [(4 : Int32), (1 : Int32)] [(3 : Int32), (1 : Int32)])), .val (.int v15_235b)] [])) := by
                        intro v15_235b T_235b l_235b X_235b e_235b N_235b
                        unfold F0_235b
                        refine Go.of (fun t k => XS.iload X_235b.here hx rfl (hb hby at_235) rfl k) ?_
                        refine Go.of (fun t k => XS.iload X_235b.here hx rfl (hb hby at_237) rfl k) ?_
                        show Go p e below s _ _ _ (T_235b.setTop (mkF m 239 #[.val (.int p0), .val (.int p1), .val (.int p2), .val (.int p3), .val (.int p4), .val (.int (1 : Int32)), .val (.int v6_22c), .val (.int (((p4.toUInt32 >>> ((4 : Int32) &&& 31).toUInt32).toInt32) &&& (3 : Int32))), .val (.int (((p4.toUInt32 >>> ((6 : Int32) &&& 31).toUInt32).toInt32) &&& (3 : Int32))), .val (.int p0), .val (.int w0_53), .val (.int w0_77), .val (.int w0_112), .val (.ref b2), .val (.int (F9 (0 : Int32) w0_112 [p0, w0_112, p0, w0_53, p0, w0_53, w0_77, (0 : Int32)] [(4 : Int32), (1 : Int32)] [(3 : Int32), (1 : Int32)])), .val (.int v15_235b)] [(.int v15_235b), (.int (F9 (0 : Int32) w0_112 [p0, w0_112, p0, w0_53, p0, w0_53, w0_77, (0 : Int32)] [(4 : Int32), (1 : Int32)] [(3 : Int32), (1 : Int32)]))]))
                        by_cases hc239_36 : (F9 (0 : Int32) w0_112 [p0, w0_112, p0, w0_53, p0, w0_53, w0_77, (0 : Int32)] [(4 : Int32), (1 : Int32)] [(3 : Int32), (1 : Int32)]) = v15_235b
                        · rewrite [if_pos hc239_36]
                          refine Go.of (fun t k => XS.icmpNo X_235b.here hx rfl (hb hby at_239) rfl (teq hc239_36).2 k) ?_
                          show Go p e below s _ _ _ (T_235b.setTop (mkF m 242 #[.val (.int p0), .val (.int p1), .val (.int p2), .val (.int p3), .val (.int p4), .val (.int (1 : Int32)), .val (.int v6_22c), .val (.int (((p4.toUInt32 >>> ((4 : Int32) &&& 31).toUInt32).toInt32) &&& (3 : Int32))), .val (.int (((p4.toUInt32 >>> ((6 : Int32) &&& 31).toUInt32).toInt32) &&& (3 : Int32))), .val (.int p0), .val (.int w0_53), .val (.int w0_77), .val (.int w0_112), .val (.ref b2), .val (.int (F9 (0 : Int32) w0_112 [p0, w0_112, p0, w0_53, p0, w0_53, w0_77, (0 : Int32)] [(4 : Int32), (1 : Int32)] [(3 : Int32), (1 : Int32)])), .val (.int v15_235b)] []))
                          refine Go.of (fun t k => XS.iconst X_235b.here hx rfl (hb hby at_242) k) ?_
                          refine Go.of (fun t k => XS.goto X_235b.here hx rfl (pc0 := 243) (pc' := 247) rfl (hb hby at_243) (by decide) (by decide) k) ?_
                          show Go p e below s _ _ _ (T_235b.setTop (mkF m 247 #[.val (.int p0), .val (.int p1), .val (.int p2), .val (.int p3), .val (.int p4), .val (.int (1 : Int32)), .val (.int v6_22c), .val (.int (((p4.toUInt32 >>> ((4 : Int32) &&& 31).toUInt32).toInt32) &&& (3 : Int32))), .val (.int (((p4.toUInt32 >>> ((6 : Int32) &&& 31).toUInt32).toInt32) &&& (3 : Int32))), .val (.int p0), .val (.int w0_53), .val (.int w0_77), .val (.int w0_112), .val (.ref b2), .val (.int (F9 (0 : Int32) w0_112 [p0, w0_112, p0, w0_53, p0, w0_53, w0_77, (0 : Int32)] [(4 : Int32), (1 : Int32)] [(3 : Int32), (1 : Int32)])), .val (.int v15_235b)] [(.int (1 : Int32))]))
                          exact Go.ret X_235b (some (.int (1 : Int32))) (fun h => by rw [Bd.returns] at h; cases h) hlk ⟨rfl, N_235b⟩ (by decide) (by decide) (fun fs hr => (retN X_235b hx (t := .boolean) Bd.returns (by simp) (hb hby at_247) hr))
                        · rewrite [if_neg hc239_36]
                          refine Go.of (fun t k => XS.icmpYes X_235b.here hx rfl (pc0 := 239) (pc' := 246) rfl (hb hby at_239) rfl (feq hc239_36).2 (by decide) (by decide) k) ?_
                          show Go p e below s _ _ _ (T_235b.setTop (mkF m 246 #[.val (.int p0), .val (.int p1), .val (.int p2), .val (.int p3), .val (.int p4), .val (.int (1 : Int32)), .val (.int v6_22c), .val (.int (((p4.toUInt32 >>> ((4 : Int32) &&& 31).toUInt32).toInt32) &&& (3 : Int32))), .val (.int (((p4.toUInt32 >>> ((6 : Int32) &&& 31).toUInt32).toInt32) &&& (3 : Int32))), .val (.int p0), .val (.int w0_53), .val (.int w0_77), .val (.int w0_112), .val (.ref b2), .val (.int (F9 (0 : Int32) w0_112 [p0, w0_112, p0, w0_53, p0, w0_53, w0_77, (0 : Int32)] [(4 : Int32), (1 : Int32)] [(3 : Int32), (1 : Int32)])), .val (.int v15_235b)] []))
                          refine Go.of (fun t k => XS.iconst X_235b.here hx rfl (hb hby at_246) k) ?_
                          show Go p e below s _ _ _ (T_235b.setTop (mkF m 247 #[.val (.int p0), .val (.int p1), .val (.int p2), .val (.int p3), .val (.int p4), .val (.int (1 : Int32)), .val (.int v6_22c), .val (.int (((p4.toUInt32 >>> ((4 : Int32) &&& 31).toUInt32).toInt32) &&& (3 : Int32))), .val (.int (((p4.toUInt32 >>> ((6 : Int32) &&& 31).toUInt32).toInt32) &&& (3 : Int32))), .val (.int p0), .val (.int w0_53), .val (.int w0_77), .val (.int w0_112), .val (.ref b2), .val (.int (F9 (0 : Int32) w0_112 [p0, w0_112, p0, w0_53, p0, w0_53, w0_77, (0 : Int32)] [(4 : Int32), (1 : Int32)] [(3 : Int32), (1 : Int32)])), .val (.int v15_235b)] [(.int (0 : Int32))]))
                          exact Go.ret X_235b (some (.int (0 : Int32))) (fun h => by rw [Bd.returns] at h; cases h) hlk ⟨rfl, N_235b⟩ (by decide) (by decide) (fun fs hr => (retN X_235b hx (t := .boolean) Bd.returns (by simp) (hb hby at_247) hr))
                      by_cases hc229_37 : p0 = w0_112
                      · rewrite [if_pos hc229_37]
                        refine Go.of (fun t k => XS.icmpNo X_225b.here hx rfl (hb hby at_229) rfl (teq hc229_37).2 k) ?_
                        show Go p e below s _ _ _ (T_225b.setTop (mkF m 232 #[.val (.int p0), .val (.int p1), .val (.int p2), .val (.int p3), .val (.int p4), .val (.int (1 : Int32)), .val (.int v6_22c), .val (.int (((p4.toUInt32 >>> ((4 : Int32) &&& 31).toUInt32).toInt32) &&& (3 : Int32))), .val (.int (((p4.toUInt32 >>> ((6 : Int32) &&& 31).toUInt32).toInt32) &&& (3 : Int32))), .val (.int p0), .val (.int w0_53), .val (.int w0_77), .val (.int w0_112), .val (.ref b2), .val (.int (F9 (0 : Int32) w0_112 [p0, w0_112, p0, w0_53, p0, w0_53, w0_77, (0 : Int32)] [(4 : Int32), (1 : Int32)] [(3 : Int32), (1 : Int32)])), .val (.int v15_225b)] []))
                        refine Go.of (fun t k => XS.iconst X_225b.here hx rfl (hb hby at_232) k) ?_
                        refine Go.of (fun t k => XS.istore X_225b.here hx rfl (hb hby at_233) rfl (l' := #[.val (.int p0), .val (.int p1), .val (.int p2), .val (.int p3), .val (.int p4), .val (.int (1 : Int32)), .val (.int v6_22c), .val (.int (((p4.toUInt32 >>> ((4 : Int32) &&& 31).toUInt32).toInt32) &&& (3 : Int32))), .val (.int (((p4.toUInt32 >>> ((6 : Int32) &&& 31).toUInt32).toInt32) &&& (3 : Int32))), .val (.int p0), .val (.int w0_53), .val (.int w0_77), .val (.int w0_112), .val (.ref b2), .val (.int (F9 (0 : Int32) w0_112 [p0, w0_112, p0, w0_53, p0, w0_53, w0_77, (0 : Int32)] [(4 : Int32), (1 : Int32)] [(3 : Int32), (1 : Int32)])), .val (.int (0 : Int32))]) rfl k) ?_
                        show Go p e below s _ _ _ (T_225b.setTop (mkF m 235 #[.val (.int p0), .val (.int p1), .val (.int p2), .val (.int p3), .val (.int p4), .val (.int (1 : Int32)), .val (.int v6_22c), .val (.int (((p4.toUInt32 >>> ((4 : Int32) &&& 31).toUInt32).toInt32) &&& (3 : Int32))), .val (.int (((p4.toUInt32 >>> ((6 : Int32) &&& 31).toUInt32).toInt32) &&& (3 : Int32))), .val (.int p0), .val (.int w0_53), .val (.int w0_77), .val (.int w0_112), .val (.ref b2), .val (.int (F9 (0 : Int32) w0_112 [p0, w0_112, p0, w0_53, p0, w0_53, w0_77, (0 : Int32)] [(4 : Int32), (1 : Int32)] [(3 : Int32), (1 : Int32)])), .val (.int (0 : Int32))] []))
                        exact jn235b (0 : Int32)  T_225b _ X_225b e_225b N_225b  
                      · rewrite [if_neg hc229_37]
                        refine Go.of (fun t k => XS.icmpYes X_225b.here hx rfl (pc0 := 229) (pc' := 235) rfl (hb hby at_229) rfl (feq hc229_37).2 (by decide) (by decide) k) ?_
                        show Go p e below s _ _ _ (T_225b.setTop (mkF m 235 #[.val (.int p0), .val (.int p1), .val (.int p2), .val (.int p3), .val (.int p4), .val (.int (1 : Int32)), .val (.int v6_22c), .val (.int (((p4.toUInt32 >>> ((4 : Int32) &&& 31).toUInt32).toInt32) &&& (3 : Int32))), .val (.int (((p4.toUInt32 >>> ((6 : Int32) &&& 31).toUInt32).toInt32) &&& (3 : Int32))), .val (.int p0), .val (.int w0_53), .val (.int w0_77), .val (.int w0_112), .val (.ref b2), .val (.int (F9 (0 : Int32) w0_112 [p0, w0_112, p0, w0_53, p0, w0_53, w0_77, (0 : Int32)] [(4 : Int32), (1 : Int32)] [(3 : Int32), (1 : Int32)])), .val (.int v15_225b)] []))
                        exact jn235b v15_225b  T_225b _ X_225b e_225b N_225b  
                    refine Go.of (fun t k => XS.icmpNo X_209b.here hx rfl (hb hby at_212) rfl (flt hc148_19).1 k) ?_
                    show Go p e below s _ _ _ (T_209b.setTop (mkF m 215 #[.val (.int p0), .val (.int p1), .val (.int p2), .val (.int p3), .val (.int p4), .val (.int (1 : Int32)), .val (.int v6_22c), .val (.int (((p4.toUInt32 >>> ((4 : Int32) &&& 31).toUInt32).toInt32) &&& (3 : Int32))), .val (.int (((p4.toUInt32 >>> ((6 : Int32) &&& 31).toUInt32).toInt32) &&& (3 : Int32))), .val (.int p0), .val (.int w0_53), .val (.int w0_77), .val (.int w0_112), .val (.ref b2), .val (.int (F9 (0 : Int32) w0_112 [p0, w0_112, p0, w0_53, p0, w0_53, w0_77, (0 : Int32)] [(4 : Int32), (1 : Int32)] [(3 : Int32), (1 : Int32)])), .val (.int v15_209b)] []))
                    refine Go.of (fun t k => XS.iload X_209b.here hx rfl (hb hby at_215) rfl k) ?_
                    refine Go.of (fun t k => XS.iload X_209b.here hx rfl (hb hby at_217) rfl k) ?_
                    show Go p e below s _ _ _ (T_209b.setTop (mkF m 219 #[.val (.int p0), .val (.int p1), .val (.int p2), .val (.int p3), .val (.int p4), .val (.int (1 : Int32)), .val (.int v6_22c), .val (.int (((p4.toUInt32 >>> ((4 : Int32) &&& 31).toUInt32).toInt32) &&& (3 : Int32))), .val (.int (((p4.toUInt32 >>> ((6 : Int32) &&& 31).toUInt32).toInt32) &&& (3 : Int32))), .val (.int p0), .val (.int w0_53), .val (.int w0_77), .val (.int w0_112), .val (.ref b2), .val (.int (F9 (0 : Int32) w0_112 [p0, w0_112, p0, w0_53, p0, w0_53, w0_77, (0 : Int32)] [(4 : Int32), (1 : Int32)] [(3 : Int32), (1 : Int32)])), .val (.int v15_209b)] [(.int w0_112), (.int w0_53)]))
                    by_cases hc219_38 : w0_53 = w0_112
                    · rewrite [if_pos hc219_38]
                      refine Go.of (fun t k => XS.icmpNo X_209b.here hx rfl (hb hby at_219) rfl (teq hc219_38).2 k) ?_
                      show Go p e below s _ _ _ (T_209b.setTop (mkF m 222 #[.val (.int p0), .val (.int p1), .val (.int p2), .val (.int p3), .val (.int p4), .val (.int (1 : Int32)), .val (.int v6_22c), .val (.int (((p4.toUInt32 >>> ((4 : Int32) &&& 31).toUInt32).toInt32) &&& (3 : Int32))), .val (.int (((p4.toUInt32 >>> ((6 : Int32) &&& 31).toUInt32).toInt32) &&& (3 : Int32))), .val (.int p0), .val (.int w0_53), .val (.int w0_77), .val (.int w0_112), .val (.ref b2), .val (.int (F9 (0 : Int32) w0_112 [p0, w0_112, p0, w0_53, p0, w0_53, w0_77, (0 : Int32)] [(4 : Int32), (1 : Int32)] [(3 : Int32), (1 : Int32)])), .val (.int v15_209b)] []))
                      refine Go.of (fun t k => XS.iconst X_209b.here hx rfl (hb hby at_222) k) ?_
                      refine Go.of (fun t k => XS.istore X_209b.here hx rfl (hb hby at_223) rfl (l' := #[.val (.int p0), .val (.int p1), .val (.int p2), .val (.int p3), .val (.int p4), .val (.int (1 : Int32)), .val (.int v6_22c), .val (.int (((p4.toUInt32 >>> ((4 : Int32) &&& 31).toUInt32).toInt32) &&& (3 : Int32))), .val (.int (((p4.toUInt32 >>> ((6 : Int32) &&& 31).toUInt32).toInt32) &&& (3 : Int32))), .val (.int p0), .val (.int w0_53), .val (.int w0_77), .val (.int w0_112), .val (.ref b2), .val (.int (F9 (0 : Int32) w0_112 [p0, w0_112, p0, w0_53, p0, w0_53, w0_77, (0 : Int32)] [(4 : Int32), (1 : Int32)] [(3 : Int32), (1 : Int32)])), .val (.int (1 : Int32))]) rfl k) ?_
                      show Go p e below s _ _ _ (T_209b.setTop (mkF m 225 #[.val (.int p0), .val (.int p1), .val (.int p2), .val (.int p3), .val (.int p4), .val (.int (1 : Int32)), .val (.int v6_22c), .val (.int (((p4.toUInt32 >>> ((4 : Int32) &&& 31).toUInt32).toInt32) &&& (3 : Int32))), .val (.int (((p4.toUInt32 >>> ((6 : Int32) &&& 31).toUInt32).toInt32) &&& (3 : Int32))), .val (.int p0), .val (.int w0_53), .val (.int w0_77), .val (.int w0_112), .val (.ref b2), .val (.int (F9 (0 : Int32) w0_112 [p0, w0_112, p0, w0_53, p0, w0_53, w0_77, (0 : Int32)] [(4 : Int32), (1 : Int32)] [(3 : Int32), (1 : Int32)])), .val (.int (1 : Int32))] []))
                      exact jn225b (1 : Int32)  T_209b _ X_209b e_209b N_209b  
                    · rewrite [if_neg hc219_38]
                      refine Go.of (fun t k => XS.icmpYes X_209b.here hx rfl (pc0 := 219) (pc' := 225) rfl (hb hby at_219) rfl (feq hc219_38).2 (by decide) (by decide) k) ?_
                      show Go p e below s _ _ _ (T_209b.setTop (mkF m 225 #[.val (.int p0), .val (.int p1), .val (.int p2), .val (.int p3), .val (.int p4), .val (.int (1 : Int32)), .val (.int v6_22c), .val (.int (((p4.toUInt32 >>> ((4 : Int32) &&& 31).toUInt32).toInt32) &&& (3 : Int32))), .val (.int (((p4.toUInt32 >>> ((6 : Int32) &&& 31).toUInt32).toInt32) &&& (3 : Int32))), .val (.int p0), .val (.int w0_53), .val (.int w0_77), .val (.int w0_112), .val (.ref b2), .val (.int (F9 (0 : Int32) w0_112 [p0, w0_112, p0, w0_53, p0, w0_53, w0_77, (0 : Int32)] [(4 : Int32), (1 : Int32)] [(3 : Int32), (1 : Int32)])), .val (.int v15_209b)] []))
                      exact jn225b v15_209b  T_209b _ X_209b e_209b N_209b  
                  refine Go.of (fun t k => XS.icmpNo X35.here hx rfl (hb hby at_196) rfl (flt hc165_27).1 k) ?_
                  show Go p e below s _ _ _ (T35.setTop (mkF m 199 #[.val (.int p0), .val (.int p1), .val (.int p2), .val (.int p3), .val (.int p4), .val (.int (1 : Int32)), .val (.int v6_22c), .val (.int (((p4.toUInt32 >>> ((4 : Int32) &&& 31).toUInt32).toInt32) &&& (3 : Int32))), .val (.int (((p4.toUInt32 >>> ((6 : Int32) &&& 31).toUInt32).toInt32) &&& (3 : Int32))), .val (.int p0), .val (.int w0_53), .val (.int w0_77), .val (.int w0_112), .val (.ref b2), .val (.int (F9 (0 : Int32) w0_112 [p0, w0_112, p0, w0_53, p0, w0_53, w0_77, (0 : Int32)] [(4 : Int32), (1 : Int32)] [(3 : Int32), (1 : Int32)])), .val (.int v6_22c)] []))
                  refine Go.of (fun t k => XS.iload X35.here hx rfl (hb hby at_199) rfl k) ?_
                  refine Go.of (fun t k => XS.iload X35.here hx rfl (hb hby at_201) rfl k) ?_
                  show Go p e below s _ _ _ (T35.setTop (mkF m 203 #[.val (.int p0), .val (.int p1), .val (.int p2), .val (.int p3), .val (.int p4), .val (.int (1 : Int32)), .val (.int v6_22c), .val (.int (((p4.toUInt32 >>> ((4 : Int32) &&& 31).toUInt32).toInt32) &&& (3 : Int32))), .val (.int (((p4.toUInt32 >>> ((6 : Int32) &&& 31).toUInt32).toInt32) &&& (3 : Int32))), .val (.int p0), .val (.int w0_53), .val (.int w0_77), .val (.int w0_112), .val (.ref b2), .val (.int (F9 (0 : Int32) w0_112 [p0, w0_112, p0, w0_53, p0, w0_53, w0_77, (0 : Int32)] [(4 : Int32), (1 : Int32)] [(3 : Int32), (1 : Int32)])), .val (.int v6_22c)] [(.int w0_112), (.int w0_77)]))
                  by_cases hc203_39 : w0_77 = w0_112
                  · rewrite [if_pos hc203_39]
                    refine Go.of (fun t k => XS.icmpNo X35.here hx rfl (hb hby at_203) rfl (teq hc203_39).2 k) ?_
                    show Go p e below s _ _ _ (T35.setTop (mkF m 206 #[.val (.int p0), .val (.int p1), .val (.int p2), .val (.int p3), .val (.int p4), .val (.int (1 : Int32)), .val (.int v6_22c), .val (.int (((p4.toUInt32 >>> ((4 : Int32) &&& 31).toUInt32).toInt32) &&& (3 : Int32))), .val (.int (((p4.toUInt32 >>> ((6 : Int32) &&& 31).toUInt32).toInt32) &&& (3 : Int32))), .val (.int p0), .val (.int w0_53), .val (.int w0_77), .val (.int w0_112), .val (.ref b2), .val (.int (F9 (0 : Int32) w0_112 [p0, w0_112, p0, w0_53, p0, w0_53, w0_77, (0 : Int32)] [(4 : Int32), (1 : Int32)] [(3 : Int32), (1 : Int32)])), .val (.int v6_22c)] []))
                    refine Go.of (fun t k => XS.iconst X35.here hx rfl (hb hby at_206) k) ?_
                    refine Go.of (fun t k => XS.istore X35.here hx rfl (hb hby at_207) rfl (l' := #[.val (.int p0), .val (.int p1), .val (.int p2), .val (.int p3), .val (.int p4), .val (.int (1 : Int32)), .val (.int v6_22c), .val (.int (((p4.toUInt32 >>> ((4 : Int32) &&& 31).toUInt32).toInt32) &&& (3 : Int32))), .val (.int (((p4.toUInt32 >>> ((6 : Int32) &&& 31).toUInt32).toInt32) &&& (3 : Int32))), .val (.int p0), .val (.int w0_53), .val (.int w0_77), .val (.int w0_112), .val (.ref b2), .val (.int (F9 (0 : Int32) w0_112 [p0, w0_112, p0, w0_53, p0, w0_53, w0_77, (0 : Int32)] [(4 : Int32), (1 : Int32)] [(3 : Int32), (1 : Int32)])), .val (.int (2 : Int32))]) rfl k) ?_
                    show Go p e below s _ _ _ (T35.setTop (mkF m 209 #[.val (.int p0), .val (.int p1), .val (.int p2), .val (.int p3), .val (.int p4), .val (.int (1 : Int32)), .val (.int v6_22c), .val (.int (((p4.toUInt32 >>> ((4 : Int32) &&& 31).toUInt32).toInt32) &&& (3 : Int32))), .val (.int (((p4.toUInt32 >>> ((6 : Int32) &&& 31).toUInt32).toInt32) &&& (3 : Int32))), .val (.int p0), .val (.int w0_53), .val (.int w0_77), .val (.int w0_112), .val (.ref b2), .val (.int (F9 (0 : Int32) w0_112 [p0, w0_112, p0, w0_53, p0, w0_53, w0_77, (0 : Int32)] [(4 : Int32), (1 : Int32)] [(3 : Int32), (1 : Int32)])), .val (.int (2 : Int32))] []))
                    exact jn209b (2 : Int32)  T35 _ X35 e35 N35  
                  · rewrite [if_neg hc203_39]
                    refine Go.of (fun t k => XS.icmpYes X35.here hx rfl (pc0 := 203) (pc' := 209) rfl (hb hby at_203) rfl (feq hc203_39).2 (by decide) (by decide) k) ?_
                    show Go p e below s _ _ _ (T35.setTop (mkF m 209 #[.val (.int p0), .val (.int p1), .val (.int p2), .val (.int p3), .val (.int p4), .val (.int (1 : Int32)), .val (.int v6_22c), .val (.int (((p4.toUInt32 >>> ((4 : Int32) &&& 31).toUInt32).toInt32) &&& (3 : Int32))), .val (.int (((p4.toUInt32 >>> ((6 : Int32) &&& 31).toUInt32).toInt32) &&& (3 : Int32))), .val (.int p0), .val (.int w0_53), .val (.int w0_77), .val (.int w0_112), .val (.ref b2), .val (.int (F9 (0 : Int32) w0_112 [p0, w0_112, p0, w0_53, p0, w0_53, w0_77, (0 : Int32)] [(4 : Int32), (1 : Int32)] [(3 : Int32), (1 : Int32)])), .val (.int v6_22c)] []))
                    exact jn209b v6_22c  T35 _ X35 e35 N35  
            · rewrite [if_neg hs114_1]
              by_cases hs114_2 : v5_8c = (2 : Int32)
              · rewrite [if_pos hs114_2]
                subst hs114_2
                obtain ⟨T40, h40, X40, e40, E40, A40, D40, -, st40⟩ := newO X_112 hx hZ hown (hw _ (List.mem_of_getElem? (i := 4) rfl)) (hw _ (List.mem_of_getElem? (i := 5) rfl)) (hw _ (List.mem_of_getElem? (i := 6) rfl)) e_112 (g := (mkF m 114 #[.val (.int p0), .val (.int p1), .val (.int p2), .val (.int p3), .val (.int p4), .val (.int (2 : Int32)), .val (.int v6_22c), .val (.int (((p4.toUInt32 >>> ((4 : Int32) &&& 31).toUInt32).toInt32) &&& (3 : Int32))), .val (.int (((p4.toUInt32 >>> ((6 : Int32) &&& 31).toUInt32).toInt32) &&& (3 : Int32))), .val (.int p0), .val (.int w0_53), .val (.int w0_77), .val (.int w0_112), .unset, .unset, .unset] [])) rfl (hb hby at_114) (by decide) (by decide)
                obtain ⟨b40, ga40⟩ : ∃ z, z = h0.size := ⟨_, rfl⟩
                rw [← ga40] at A40 D40 st40
                have g_b40 : n0 ≤ b40 := Nat.le_trans Z0 (Nat.le_of_eq ga40.symm)
                have f41 : Fld Z h40 b40 "com/example/susurrus/susurrus/KnownUnits" "units" "[I" .null := D40 (Or.inl (hw _ (List.mem_of_getElem? (i := 15) rfl))) (ty := (.array .int)) (by decide)
                have f42 : Fld Z h40 b40 "com/example/susurrus/susurrus/KnownUnits" "aggregates" "[I" .null := D40 (Or.inl (hw _ (List.mem_of_getElem? (i := 17) rfl))) (ty := (.array .int)) (by decide)
                have f43 : Fld Z h40 b40 "com/example/susurrus/susurrus/KnownUnits" "senders" "[I" .null := D40 (Or.inl (hw _ (List.mem_of_getElem? (i := 19) rfl))) (ty := (.array .int)) (by decide)
                have f44 : Fld Z h40 b40 "com/example/susurrus/susurrus/KnownUnits" "starts" "[I" .null := D40 (Or.inr (hw _ (List.mem_of_getElem? (i := 21) rfl))) (ty := (.array .int)) (by decide)
                have f45 : Fld Z h40 b40 "com/example/susurrus/susurrus/KnownUnits" "rooms" "[I" .null := D40 (Or.inr (hw _ (List.mem_of_getElem? (i := 23) rfl))) (ty := (.array .int)) (by decide)
                have f46 : Fld Z h40 b40 "com/example/susurrus/susurrus/KnownUnits" "counts" "[I" .null := D40 (Or.inr (hw _ (List.mem_of_getElem? (i := 25) rfl))) (ty := (.array .int)) (by decide)
                have f47 : Fld Z h40 b40 "com/example/susurrus/susurrus/KnownUnits" "used" "I" (.int (0 : Int32)) := D40 (Or.inl (hw _ (List.mem_of_getElem? (i := 36) rfl))) (ty := .int) (by decide)
                have Zz40 := Nat.le_trans Z0 E40.1
                refine Go.of st40 ?_
                show Go p e below s _ _ _ (T40.setTop (mkF m 117 #[.val (.int p0), .val (.int p1), .val (.int p2), .val (.int p3), .val (.int p4), .val (.int (2 : Int32)), .val (.int v6_22c), .val (.int (((p4.toUInt32 >>> ((4 : Int32) &&& 31).toUInt32).toInt32) &&& (3 : Int32))), .val (.int (((p4.toUInt32 >>> ((6 : Int32) &&& 31).toUInt32).toInt32) &&& (3 : Int32))), .val (.int p0), .val (.int w0_53), .val (.int w0_77), .val (.int w0_112), .unset, .unset, .unset] [(.ref b40)]))
                refine Go.of (fun t k => XS.dup X40.here hx rfl (hb hby at_117) rfl rfl k) ?_
                refine Go.of (fun t k => XS.iconst X40.here hx rfl (hb hby at_118) k) ?_
                show Go p e below s _ _ _ (T40.setTop (mkF m 119 #[.val (.int p0), .val (.int p1), .val (.int p2), .val (.int p3), .val (.int p4), .val (.int (2 : Int32)), .val (.int v6_22c), .val (.int (((p4.toUInt32 >>> ((4 : Int32) &&& 31).toUInt32).toInt32) &&& (3 : Int32))), .val (.int (((p4.toUInt32 >>> ((6 : Int32) &&& 31).toUInt32).toInt32) &&& (3 : Int32))), .val (.int p0), .val (.int w0_53), .val (.int w0_77), .val (.int w0_112), .unset, .unset, .unset] [(.int (2 : Int32)), (.ref b40), (.ref b40)]))
                obtain ⟨_, _, ⟨T48, L48, k48, n48⟩, -, X48, ⟨Lc48, hQ48, l48, y48, z48⟩, st48⟩ := X40.specialBack hx (y := (⟨"com/example/susurrus/susurrus/KnownUnits", "<init>", "(I)V"⟩ : MethodName)) rfl hown (mvT hZ (hw _ (List.mem_of_getElem? (i := 7) rfl))) (mvT hZ (hw _ (List.mem_of_getElem? (i := 8) rfl))) (mvT hZ (hw _ (List.mem_of_getElem? (i := 9) rfl))) (by decide) (backOf (W := 1) (rm2 l Z az hw [] b40 h40 n0 Zz40 A40 f41 f42 f43 f44 f45 f46 f47 g_b40) hZ (hw _ (List.mem_of_getElem? (i := 9) rfl)) (hw _ (List.mem_of_getElem? (i := 6) rfl)) (by decide) (by decide)) (g := (mkF m 119 #[.val (.int p0), .val (.int p1), .val (.int p2), .val (.int p3), .val (.int p4), .val (.int (2 : Int32)), .val (.int v6_22c), .val (.int (((p4.toUInt32 >>> ((4 : Int32) &&& 31).toUInt32).toInt32) &&& (3 : Int32))), .val (.int (((p4.toUInt32 >>> ((6 : Int32) &&& 31).toUInt32).toInt32) &&& (3 : Int32))), .val (.int p0), .val (.int w0_53), .val (.int w0_77), .val (.int w0_112), .unset, .unset, .unset] [(.int (2 : Int32)), (.ref b40), (.ref b40)])) rfl (by rw [hml]; rfl) (Steps.refl _) (a := b40) (argsL := [(.int (2 : Int32))]) (rest := [(.ref b40)]) (lenOf own_pd5 rfl) rfl (by show 2 * 0 + _ ≤ _; exact Nat.le_of_eq rfl) (hb hby at_119) (fun _ _ => ⟨rfl, e40, (by decide : 1 + 6 ≤ _), (by decide : 7 + 6 ≤ _)⟩)
                dsimp only [Pt.U, Pt.locs, Pt.cells, Pt.slots] at X48 l48 y48 z48 st48 hQ48
                subst l48 y48 z48
                obtain ⟨rfl, N48q, xu49, xg49, xd49, xt49, xr49, xc49, kxu49, kxg49, kxd49, kxt49, kxr49, kxc49, hK49⟩ := hQ48
                have N48 := Fr.app N_112 N48q
                obtain ⟨E_50, Ff0_50, Ff1_50, Ff2_50, Ff3_50, Ff4_50, Ff5_50, Ff6_50, Vv0_50, Vv1_50, Vv2_50, Vv3_50, Vv4_50, Vv5_50, g_b40, g_xu49, g_xg49, g_xd49, g_xt49, g_xr49, g_xc49, Zk50, ne_0_1_50, ne_0_2_50, ne_0_3_50, ne_0_4_50, ne_0_5_50, ne_0_6_50, ne_1_2_50, ne_1_3_50, ne_1_4_50, ne_1_5_50, ne_1_6_50, ne_2_3_50, ne_2_4_50, ne_2_5_50, ne_2_6_50, ne_3_4_50, ne_3_5_50, ne_3_6_50, ne_4_5_50, ne_4_6_50, ne_5_6_50⟩ := id hK49
                refine Go.of (fun t k => st48.trans k) ?_
                show Go p e below s _ _ _ (T48.setTop (mkF m 122 #[.val (.int p0), .val (.int p1), .val (.int p2), .val (.int p3), .val (.int p4), .val (.int (2 : Int32)), .val (.int v6_22c), .val (.int (((p4.toUInt32 >>> ((4 : Int32) &&& 31).toUInt32).toInt32) &&& (3 : Int32))), .val (.int (((p4.toUInt32 >>> ((6 : Int32) &&& 31).toUInt32).toInt32) &&& (3 : Int32))), .val (.int p0), .val (.int w0_53), .val (.int w0_77), .val (.int w0_112), .unset, .unset, .unset] [(.ref b40)]))
                refine Go.of (fun t k => XS.astore X48.here hx rfl (hb hby at_122) rfl rfl (l' := #[.val (.int p0), .val (.int p1), .val (.int p2), .val (.int p3), .val (.int p4), .val (.int (2 : Int32)), .val (.int v6_22c), .val (.int (((p4.toUInt32 >>> ((4 : Int32) &&& 31).toUInt32).toInt32) &&& (3 : Int32))), .val (.int (((p4.toUInt32 >>> ((6 : Int32) &&& 31).toUInt32).toInt32) &&& (3 : Int32))), .val (.int p0), .val (.int w0_53), .val (.int w0_77), .val (.int w0_112), .val (.ref b40), .unset, .unset]) rfl k) ?_
                refine Go.of (fun t k => XS.aload X48.here hx rfl (hb hby at_124) rfl rfl k) ?_
                refine Go.of (fun t k => XS.iconst X48.here hx rfl (hb hby at_126) k) ?_
                refine Go.of (fun t k => XS.iload X48.here hx rfl (hb hby at_127) rfl k) ?_
                refine Go.of (fun t k => XS.iconst X48.here hx rfl (hb hby at_129) k) ?_
                refine Go.of (fun t k => XS.iload X48.here hx rfl (hb hby at_130) rfl k) ?_
                show Go p e below s _ _ _ (T48.setTop (mkF m 132 #[.val (.int p0), .val (.int p1), .val (.int p2), .val (.int p3), .val (.int p4), .val (.int (2 : Int32)), .val (.int v6_22c), .val (.int (((p4.toUInt32 >>> ((4 : Int32) &&& 31).toUInt32).toInt32) &&& (3 : Int32))), .val (.int (((p4.toUInt32 >>> ((6 : Int32) &&& 31).toUInt32).toInt32) &&& (3 : Int32))), .val (.int p0), .val (.int w0_53), .val (.int w0_77), .val (.int w0_112), .val (.ref b40), .unset, .unset] [(.int (2 : Int32)), (.int (0 : Int32)), (.int p0), (.int (0 : Int32)), (.ref b40)]))
                obtain ⟨cq51, kq51, q51a, q51b, q51c⟩ := isOf hZ rfl E_50
                obtain ⟨_, _, ⟨T51, L51, k51, n51⟩, -, X51, ⟨Lc51, hQ51, l51, y51, z51⟩, st51⟩ := X48.virtualBack hx (y := (⟨"com/example/susurrus/susurrus/KnownUnits", "start", "(IIII)V"⟩ : MethodName)) (z := (⟨"com/example/susurrus/susurrus/KnownUnits", "start", "(IIII)V"⟩ : MethodName)) hown (mvT hZ (hw _ (List.mem_of_getElem? (i := 26) rfl))) (mvT hZ (hw _ (List.mem_of_getElem? (i := 27) rfl))) (notFace_of_selects (args := #[]) (mvT hZ (hw _ (List.mem_of_getElem? (i := 29) rfl)))) (mvT hZ (hw _ (List.mem_of_getElem? (i := 29) rfl))) (mvT hZ (hw _ (List.mem_of_getElem? (i := 28) rfl))) (by decide) (backOf (W := 0) (rm4 l Z az hw [] b40 (0 : Int32) p0 (0 : Int32) (2 : Int32) xu49 xg49 xd49 xt49 xr49 xc49 kxu49 kxg49 kxd49 kxt49 kxr49 kxc49 (0 : Int32) ([] : List Int32) ([] : List Int32) ([] : List Int32) [(0 : Int32), (0 : Int32)] [(0 : Int32), (0 : Int32)] [(0 : Int32), (0 : Int32)] (0 : Int32) T48.heap n0 Zk50 ⟨E_50, Ff0_50, Ff1_50, Ff2_50, Ff3_50, Ff4_50, Ff5_50, Ff6_50, Vv0_50, Vv1_50, Vv2_50, Vv3_50, Vv4_50, Vv5_50, g_b40, g_xu49, g_xg49, g_xd49, g_xt49, g_xr49, g_xc49, Zk50, ne_0_1_50, ne_0_2_50, ne_0_3_50, ne_0_4_50, ne_0_5_50, ne_0_6_50, ne_1_2_50, ne_1_3_50, ne_1_4_50, ne_1_5_50, ne_1_6_50, ne_2_3_50, ne_2_4_50, ne_2_5_50, ne_2_6_50, ne_3_4_50, ne_3_5_50, ne_3_6_50, ne_4_5_50, ne_4_6_50, ne_5_6_50⟩ (by decide) (by decide) (by decide) (by decide)) hZ (hw _ (List.mem_of_getElem? (i := 30) rfl)) (hw _ (List.mem_of_getElem? (i := 6) rfl)) (by decide) (by decide)) q51a q51c (g := (mkF m 132 #[.val (.int p0), .val (.int p1), .val (.int p2), .val (.int p3), .val (.int p4), .val (.int (2 : Int32)), .val (.int v6_22c), .val (.int (((p4.toUInt32 >>> ((4 : Int32) &&& 31).toUInt32).toInt32) &&& (3 : Int32))), .val (.int (((p4.toUInt32 >>> ((6 : Int32) &&& 31).toUInt32).toInt32) &&& (3 : Int32))), .val (.int p0), .val (.int w0_53), .val (.int w0_77), .val (.int w0_112), .val (.ref b40), .unset, .unset] [(.int (2 : Int32)), (.int (0 : Int32)), (.int p0), (.int (0 : Int32)), (.ref b40)])) rfl (by rw [hml]; rfl) (Steps.refl _) (argsL := [(.int (0 : Int32)), (.int p0), (.int (0 : Int32)), (.int (2 : Int32))]) (rest := []) (lenOf own_pd6 rfl) rfl (by show 2 * 0 + _ ≤ _; exact Nat.le_of_eq rfl) (hb hby at_132) (fun _ _ => ⟨rfl, rfl, (by decide : 7 + 3 ≤ _), (by decide : 13 + 24 ≤ _)⟩)
                dsimp only [Pt.U, Pt.locs, Pt.cells, Pt.slots] at X51 l51 y51 z51 st51 hQ51
                subst l51 y51 z51
                obtain ⟨rfl, N51q, bu52, bg52, bd52, ku52, kg52, kd52, hK52⟩ := hQ51
                have N51 := Fr.app N48 N51q
                have hS52 : own_K Z T51.heap n0 b40 bu52 bg52 bd52 xt49 xr49 xc49 ku52 kg52 kd52 kxt49 kxr49 kxc49 (2 : Int32) [p0, (0 : Int32), (0 : Int32), (0 : Int32), (0 : Int32), (0 : Int32), (0 : Int32), (0 : Int32)] [(0 : Int32), (0 : Int32), (0 : Int32), (0 : Int32), (0 : Int32), (0 : Int32), (0 : Int32), (0 : Int32)] [(-1 : Int32), (0 : Int32), (0 : Int32), (0 : Int32), (0 : Int32), (0 : Int32), (0 : Int32), (0 : Int32)] [(0 : Int32), (0 : Int32)] [(2 : Int32), (0 : Int32)] [(1 : Int32), (0 : Int32)] (2 : Int32) := hK52
                obtain ⟨E_53, Ff0_53, Ff1_53, Ff2_53, Ff3_53, Ff4_53, Ff5_53, Ff6_53, Vv0_53, Vv1_53, Vv2_53, Vv3_53, Vv4_53, Vv5_53, g_b40, g_bu52, g_bg52, g_bd52, g_xt49, g_xr49, g_xc49, Zk53, ne_0_1_53, ne_0_2_53, ne_0_3_53, ne_0_4_53, ne_0_5_53, ne_0_6_53, ne_1_2_53, ne_1_3_53, ne_1_4_53, ne_1_5_53, ne_1_6_53, ne_2_3_53, ne_2_4_53, ne_2_5_53, ne_2_6_53, ne_3_4_53, ne_3_5_53, ne_3_6_53, ne_4_5_53, ne_4_6_53, ne_5_6_53⟩ := id hS52
                refine Go.of (fun t k => st51.trans k) ?_
                show Go p e below s _ _ _ (T51.setTop (mkF m 135 #[.val (.int p0), .val (.int p1), .val (.int p2), .val (.int p3), .val (.int p4), .val (.int (2 : Int32)), .val (.int v6_22c), .val (.int (((p4.toUInt32 >>> ((4 : Int32) &&& 31).toUInt32).toInt32) &&& (3 : Int32))), .val (.int (((p4.toUInt32 >>> ((6 : Int32) &&& 31).toUInt32).toInt32) &&& (3 : Int32))), .val (.int p0), .val (.int w0_53), .val (.int w0_77), .val (.int w0_112), .val (.ref b40), .unset, .unset] []))
                refine Go.of (fun t k => XS.aload X51.here hx rfl (hb hby at_135) rfl rfl k) ?_
                refine Go.of (fun t k => XS.iconst X51.here hx rfl (hb hby at_137) k) ?_
                refine Go.of (fun t k => XS.iload X51.here hx rfl (hb hby at_138) rfl k) ?_
                refine Go.of (fun t k => XS.iconst X51.here hx rfl (hb hby at_140) k) ?_
                refine Go.of (fun t k => XS.iconst X51.here hx rfl (hb hby at_141) k) ?_
                show Go p e below s _ _ _ (T51.setTop (mkF m 142 #[.val (.int p0), .val (.int p1), .val (.int p2), .val (.int p3), .val (.int p4), .val (.int (2 : Int32)), .val (.int v6_22c), .val (.int (((p4.toUInt32 >>> ((4 : Int32) &&& 31).toUInt32).toInt32) &&& (3 : Int32))), .val (.int (((p4.toUInt32 >>> ((6 : Int32) &&& 31).toUInt32).toInt32) &&& (3 : Int32))), .val (.int p0), .val (.int w0_53), .val (.int w0_77), .val (.int w0_112), .val (.ref b40), .unset, .unset] [(.int (1 : Int32)), (.int (0 : Int32)), (.int w0_112), (.int (1 : Int32)), (.ref b40)]))
                obtain ⟨cq54, kq54, q54a, q54b, q54c⟩ := isOf hZ rfl E_53
                obtain ⟨_, _, ⟨T54, L54, k54, n54⟩, -, X54, ⟨Lc54, hQ54, l54, y54, z54⟩, st54⟩ := X51.virtualBack hx (y := (⟨"com/example/susurrus/susurrus/KnownUnits", "start", "(IIII)V"⟩ : MethodName)) (z := (⟨"com/example/susurrus/susurrus/KnownUnits", "start", "(IIII)V"⟩ : MethodName)) hown (mvT hZ (hw _ (List.mem_of_getElem? (i := 26) rfl))) (mvT hZ (hw _ (List.mem_of_getElem? (i := 27) rfl))) (notFace_of_selects (args := #[]) (mvT hZ (hw _ (List.mem_of_getElem? (i := 29) rfl)))) (mvT hZ (hw _ (List.mem_of_getElem? (i := 29) rfl))) (mvT hZ (hw _ (List.mem_of_getElem? (i := 28) rfl))) (by decide) (backOf (W := 0) (rm4 l Z az hw [] b40 (1 : Int32) w0_112 (0 : Int32) (1 : Int32) bu52 bg52 bd52 xt49 xr49 xc49 ku52 kg52 kd52 kxt49 kxr49 kxc49 (2 : Int32) [p0, (0 : Int32), (0 : Int32), (0 : Int32), (0 : Int32), (0 : Int32), (0 : Int32), (0 : Int32)] [(0 : Int32), (0 : Int32), (0 : Int32), (0 : Int32), (0 : Int32), (0 : Int32), (0 : Int32), (0 : Int32)] [(-1 : Int32), (0 : Int32), (0 : Int32), (0 : Int32), (0 : Int32), (0 : Int32), (0 : Int32), (0 : Int32)] [(0 : Int32), (0 : Int32)] [(2 : Int32), (0 : Int32)] [(1 : Int32), (0 : Int32)] (2 : Int32) T51.heap n0 Zk53 ⟨E_53, Ff0_53, Ff1_53, Ff2_53, Ff3_53, Ff4_53, Ff5_53, Ff6_53, Vv0_53, Vv1_53, Vv2_53, Vv3_53, Vv4_53, Vv5_53, g_b40, g_bu52, g_bg52, g_bd52, g_xt49, g_xr49, g_xc49, Zk53, ne_0_1_53, ne_0_2_53, ne_0_3_53, ne_0_4_53, ne_0_5_53, ne_0_6_53, ne_1_2_53, ne_1_3_53, ne_1_4_53, ne_1_5_53, ne_1_6_53, ne_2_3_53, ne_2_4_53, ne_2_5_53, ne_2_6_53, ne_3_4_53, ne_3_5_53, ne_3_6_53, ne_4_5_53, ne_4_6_53, ne_5_6_53⟩ (by decide) (by decide) (by decide) (by decide)) hZ (hw _ (List.mem_of_getElem? (i := 30) rfl)) (hw _ (List.mem_of_getElem? (i := 6) rfl)) (by decide) (by decide)) q54a q54c (g := (mkF m 142 #[.val (.int p0), .val (.int p1), .val (.int p2), .val (.int p3), .val (.int p4), .val (.int (2 : Int32)), .val (.int v6_22c), .val (.int (((p4.toUInt32 >>> ((4 : Int32) &&& 31).toUInt32).toInt32) &&& (3 : Int32))), .val (.int (((p4.toUInt32 >>> ((6 : Int32) &&& 31).toUInt32).toInt32) &&& (3 : Int32))), .val (.int p0), .val (.int w0_53), .val (.int w0_77), .val (.int w0_112), .val (.ref b40), .unset, .unset] [(.int (1 : Int32)), (.int (0 : Int32)), (.int w0_112), (.int (1 : Int32)), (.ref b40)])) rfl (by rw [hml]; rfl) (Steps.refl _) (argsL := [(.int (1 : Int32)), (.int w0_112), (.int (0 : Int32)), (.int (1 : Int32))]) (rest := []) (lenOf own_pd6 rfl) rfl (by show 2 * 0 + _ ≤ _; exact Nat.le_of_eq rfl) (hb hby at_142) (fun _ _ => ⟨rfl, rfl, (by decide : 10 + 3 ≤ _), (by decide : 37 + 24 ≤ _)⟩)
                dsimp only [Pt.U, Pt.locs, Pt.cells, Pt.slots] at X54 l54 y54 z54 st54 hQ54
                subst l54 y54 z54
                obtain ⟨rfl, N54q, bu55, bg55, bd55, ku55, kg55, kd55, hK55⟩ := hQ54
                have N54 := Fr.app N51 N54q
                have hS55 : own_K Z T54.heap n0 b40 bu55 bg55 bd55 xt49 xr49 xc49 ku55 kg55 kd55 kxt49 kxr49 kxc49 (4 : Int32) [p0, (0 : Int32), w0_112, (0 : Int32), (0 : Int32), (0 : Int32), (0 : Int32), (0 : Int32)] [(0 : Int32), (0 : Int32), (0 : Int32), (0 : Int32), (0 : Int32), (0 : Int32), (0 : Int32), (0 : Int32)] [(-1 : Int32), (0 : Int32), (-1 : Int32), (0 : Int32), (0 : Int32), (0 : Int32), (0 : Int32), (0 : Int32)] [(0 : Int32), (2 : Int32)] [(2 : Int32), (1 : Int32)] [(1 : Int32), (1 : Int32)] (3 : Int32) := hK55
                obtain ⟨E_56, Ff0_56, Ff1_56, Ff2_56, Ff3_56, Ff4_56, Ff5_56, Ff6_56, Vv0_56, Vv1_56, Vv2_56, Vv3_56, Vv4_56, Vv5_56, g_b40, g_bu55, g_bg55, g_bd55, g_xt49, g_xr49, g_xc49, Zk56, ne_0_1_56, ne_0_2_56, ne_0_3_56, ne_0_4_56, ne_0_5_56, ne_0_6_56, ne_1_2_56, ne_1_3_56, ne_1_4_56, ne_1_5_56, ne_1_6_56, ne_2_3_56, ne_2_4_56, ne_2_5_56, ne_2_6_56, ne_3_4_56, ne_3_5_56, ne_3_6_56, ne_4_5_56, ne_4_6_56, ne_5_6_56⟩ := id hS55
                refine Go.of (fun t k => st54.trans k) ?_
                show Go p e below s _ _ _ (T54.setTop (mkF m 145 #[.val (.int p0), .val (.int p1), .val (.int p2), .val (.int p3), .val (.int p4), .val (.int (2 : Int32)), .val (.int v6_22c), .val (.int (((p4.toUInt32 >>> ((4 : Int32) &&& 31).toUInt32).toInt32) &&& (3 : Int32))), .val (.int (((p4.toUInt32 >>> ((6 : Int32) &&& 31).toUInt32).toInt32) &&& (3 : Int32))), .val (.int p0), .val (.int w0_53), .val (.int w0_77), .val (.int w0_112), .val (.ref b40), .unset, .unset] []))
                refine Go.of (fun t k => XS.iload X54.here hx rfl (hb hby at_145) rfl k) ?_
                refine Go.of (fun t k => XS.iconst X54.here hx rfl (hb hby at_147) k) ?_
                show Go p e below s _ _ _ (T54.setTop (mkF m 148 #[.val (.int p0), .val (.int p1), .val (.int p2), .val (.int p3), .val (.int p4), .val (.int (2 : Int32)), .val (.int v6_22c), .val (.int (((p4.toUInt32 >>> ((4 : Int32) &&& 31).toUInt32).toInt32) &&& (3 : Int32))), .val (.int (((p4.toUInt32 >>> ((6 : Int32) &&& 31).toUInt32).toInt32) &&& (3 : Int32))), .val (.int p0), .val (.int w0_53), .val (.int w0_77), .val (.int w0_112), .val (.ref b40), .unset, .unset] [(.int (2 : Int32)), (.int v6_22c)]))
                by_cases hc148_57 : v6_22c < (2 : Int32)
                · rewrite [if_pos hc148_57]
                  refine Go.of (fun t k => XS.icmpYes X54.here hx rfl (pc0 := 148) (pc' := 162) rfl (hb hby at_148) rfl (tlt hc148_57).1 (by decide) (by decide) k) ?_
                  show Go p e below s _ _ _ (T54.setTop (mkF m 162 #[.val (.int p0), .val (.int p1), .val (.int p2), .val (.int p3), .val (.int p4), .val (.int (2 : Int32)), .val (.int v6_22c), .val (.int (((p4.toUInt32 >>> ((4 : Int32) &&& 31).toUInt32).toInt32) &&& (3 : Int32))), .val (.int (((p4.toUInt32 >>> ((6 : Int32) &&& 31).toUInt32).toInt32) &&& (3 : Int32))), .val (.int p0), .val (.int w0_53), .val (.int w0_77), .val (.int w0_112), .val (.ref b40), .unset, .unset] []))
                  refine Go.of (fun t k => XS.iload X54.here hx rfl (hb hby at_162) rfl k) ?_
                  refine Go.of (fun t k => XS.iconst X54.here hx rfl (hb hby at_164) k) ?_
                  show Go p e below s _ _ _ (T54.setTop (mkF m 165 #[.val (.int p0), .val (.int p1), .val (.int p2), .val (.int p3), .val (.int p4), .val (.int (2 : Int32)), .val (.int v6_22c), .val (.int (((p4.toUInt32 >>> ((4 : Int32) &&& 31).toUInt32).toInt32) &&& (3 : Int32))), .val (.int (((p4.toUInt32 >>> ((6 : Int32) &&& 31).toUInt32).toInt32) &&& (3 : Int32))), .val (.int p0), .val (.int w0_53), .val (.int w0_77), .val (.int w0_112), .val (.ref b40), .unset, .unset] [(.int (3 : Int32)), (.int v6_22c)]))
                  have hf165_58 : v6_22c < (3 : Int32) := own_23 hc148_57
                  refine Go.of (fun t k => XS.icmpYes X54.here hx rfl (pc0 := 165) (pc' := 179) rfl (hb hby at_165) rfl (tlt hf165_58).1 (by decide) (by decide) k) ?_
                  show Go p e below s _ _ _ (T54.setTop (mkF m 179 #[.val (.int p0), .val (.int p1), .val (.int p2), .val (.int p3), .val (.int p4), .val (.int (2 : Int32)), .val (.int v6_22c), .val (.int (((p4.toUInt32 >>> ((4 : Int32) &&& 31).toUInt32).toInt32) &&& (3 : Int32))), .val (.int (((p4.toUInt32 >>> ((6 : Int32) &&& 31).toUInt32).toInt32) &&& (3 : Int32))), .val (.int p0), .val (.int w0_53), .val (.int w0_77), .val (.int w0_112), .val (.ref b40), .unset, .unset] []))
                  refine Go.of (fun t k => XS.aload X54.here hx rfl (hb hby at_179) rfl rfl k) ?_
                  refine Go.of (fun t k => XS.iconst X54.here hx rfl (hb hby at_181) k) ?_
                  refine Go.of (fun t k => XS.iload X54.here hx rfl (hb hby at_182) rfl k) ?_
                  show Go p e below s _ _ _ (T54.setTop (mkF m 184 #[.val (.int p0), .val (.int p1), .val (.int p2), .val (.int p3), .val (.int p4), .val (.int (2 : Int32)), .val (.int v6_22c), .val (.int (((p4.toUInt32 >>> ((4 : Int32) &&& 31).toUInt32).toInt32) &&& (3 : Int32))), .val (.int (((p4.toUInt32 >>> ((6 : Int32) &&& 31).toUInt32).toInt32) &&& (3 : Int32))), .val (.int p0), .val (.int w0_53), .val (.int w0_77), .val (.int w0_112), .val (.ref b40), .unset, .unset] [(.int w0_112), (.int (0 : Int32)), (.ref b40)]))
                  obtain ⟨cq59, kq59, q59a, q59b, q59c⟩ := isOf hZ rfl E_56
                  obtain ⟨_, _, ⟨T59, L59, k59, n59⟩, -, X59, ⟨Lc59, hQ59, l59, y59, z59⟩, st59⟩ := X54.virtualBack hx (y := (⟨"com/example/susurrus/susurrus/KnownUnits", "find", "(II)I"⟩ : MethodName)) (z := (⟨"com/example/susurrus/susurrus/KnownUnits", "find", "(II)I"⟩ : MethodName)) hown (mvT hZ (hw _ (List.mem_of_getElem? (i := 54) rfl))) (mvT hZ (hw _ (List.mem_of_getElem? (i := 55) rfl))) (notFace_of_selects (args := #[]) (mvT hZ (hw _ (List.mem_of_getElem? (i := 57) rfl)))) (mvT hZ (hw _ (List.mem_of_getElem? (i := 57) rfl))) (mvT hZ (hw _ (List.mem_of_getElem? (i := 56) rfl))) (by decide) (backOf (W := 0) (rm9 l Z az hw [] b40 (0 : Int32) w0_112 bu55 bg55 bd55 xt49 xr49 xc49 ku55 kg55 kd55 kxt49 kxr49 kxc49 (4 : Int32) [p0, (0 : Int32), w0_112, (0 : Int32), (0 : Int32), (0 : Int32), (0 : Int32), (0 : Int32)] [(0 : Int32), (0 : Int32), (0 : Int32), (0 : Int32), (0 : Int32), (0 : Int32), (0 : Int32), (0 : Int32)] [(-1 : Int32), (0 : Int32), (-1 : Int32), (0 : Int32), (0 : Int32), (0 : Int32), (0 : Int32), (0 : Int32)] [(0 : Int32), (2 : Int32)] [(2 : Int32), (1 : Int32)] [(1 : Int32), (1 : Int32)] (3 : Int32) T54.heap n0 Zk56 ⟨E_56, Ff0_56, Ff1_56, Ff2_56, Ff3_56, Ff4_56, Ff5_56, Ff6_56, Vv0_56, Vv1_56, Vv2_56, Vv3_56, Vv4_56, Vv5_56, g_b40, g_bu55, g_bg55, g_bd55, g_xt49, g_xr49, g_xc49, Zk56, ne_0_1_56, ne_0_2_56, ne_0_3_56, ne_0_4_56, ne_0_5_56, ne_0_6_56, ne_1_2_56, ne_1_3_56, ne_1_4_56, ne_1_5_56, ne_1_6_56, ne_2_3_56, ne_2_4_56, ne_2_5_56, ne_2_6_56, ne_3_4_56, ne_3_5_56, ne_3_6_56, ne_4_5_56, ne_4_6_56, ne_5_6_56⟩ (by decide) (by decide)) hZ (hw _ (List.mem_of_getElem? (i := 58) rfl)) (hw _ (List.mem_of_getElem? (i := 6) rfl)) (by decide) (by decide)) q59a q59c (g := (mkF m 184 #[.val (.int p0), .val (.int p1), .val (.int p2), .val (.int p3), .val (.int p4), .val (.int (2 : Int32)), .val (.int v6_22c), .val (.int (((p4.toUInt32 >>> ((4 : Int32) &&& 31).toUInt32).toInt32) &&& (3 : Int32))), .val (.int (((p4.toUInt32 >>> ((6 : Int32) &&& 31).toUInt32).toInt32) &&& (3 : Int32))), .val (.int p0), .val (.int w0_53), .val (.int w0_77), .val (.int w0_112), .val (.ref b40), .unset, .unset] [(.int w0_112), (.int (0 : Int32)), (.ref b40)])) rfl (by rw [hml]; rfl) (Steps.refl _) (argsL := [(.int (0 : Int32)), (.int w0_112)]) (rest := []) (lenOf own_pd0 rfl) rfl (by show 2 * 0 + _ ≤ _; exact Nat.le_of_eq rfl) (hb hby at_184) (fun _ _ => ⟨rfl, rfl, (by decide : 13 + 0 ≤ _), (by decide : 61 + 0 ≤ _)⟩)
                  dsimp only [Pt.U, Pt.locs, Pt.cells, Pt.slots] at X59 l59 y59 z59 st59 hQ59
                  subst l59 y59 z59
                  obtain ⟨rfl, N59q, e59⟩ := hQ59
                  have N59 := Fr.app N54 N59q
                  refine Go.of (fun t k => st59.trans k) ?_
                  show Go p e below s _ _ _ (T59.setTop (mkF m 187 #[.val (.int p0), .val (.int p1), .val (.int p2), .val (.int p3), .val (.int p4), .val (.int (2 : Int32)), .val (.int v6_22c), .val (.int (((p4.toUInt32 >>> ((4 : Int32) &&& 31).toUInt32).toInt32) &&& (3 : Int32))), .val (.int (((p4.toUInt32 >>> ((6 : Int32) &&& 31).toUInt32).toInt32) &&& (3 : Int32))), .val (.int p0), .val (.int w0_53), .val (.int w0_77), .val (.int w0_112), .val (.ref b40), .unset, .unset] [(.int (F9 (0 : Int32) w0_112 [p0, (0 : Int32), w0_112, (0 : Int32), (0 : Int32), (0 : Int32), (0 : Int32), (0 : Int32)] [(0 : Int32), (2 : Int32)] [(1 : Int32), (1 : Int32)]))]))
                  refine Go.of (fun t k => XS.istore X59.here hx rfl (hb hby at_187) rfl (l' := #[.val (.int p0), .val (.int p1), .val (.int p2), .val (.int p3), .val (.int p4), .val (.int (2 : Int32)), .val (.int v6_22c), .val (.int (((p4.toUInt32 >>> ((4 : Int32) &&& 31).toUInt32).toInt32) &&& (3 : Int32))), .val (.int (((p4.toUInt32 >>> ((6 : Int32) &&& 31).toUInt32).toInt32) &&& (3 : Int32))), .val (.int p0), .val (.int w0_53), .val (.int w0_77), .val (.int w0_112), .val (.ref b40), .val (.int (F9 (0 : Int32) w0_112 [p0, (0 : Int32), w0_112, (0 : Int32), (0 : Int32), (0 : Int32), (0 : Int32), (0 : Int32)] [(0 : Int32), (2 : Int32)] [(1 : Int32), (1 : Int32)])), .unset]) rfl k) ?_
                  refine Go.of (fun t k => XS.iload X59.here hx rfl (hb hby at_189) rfl k) ?_
                  refine Go.of (fun t k => XS.istore X59.here hx rfl (hb hby at_191) rfl (l' := #[.val (.int p0), .val (.int p1), .val (.int p2), .val (.int p3), .val (.int p4), .val (.int (2 : Int32)), .val (.int v6_22c), .val (.int (((p4.toUInt32 >>> ((4 : Int32) &&& 31).toUInt32).toInt32) &&& (3 : Int32))), .val (.int (((p4.toUInt32 >>> ((6 : Int32) &&& 31).toUInt32).toInt32) &&& (3 : Int32))), .val (.int p0), .val (.int w0_53), .val (.int w0_77), .val (.int w0_112), .val (.ref b40), .val (.int (F9 (0 : Int32) w0_112 [p0, (0 : Int32), w0_112, (0 : Int32), (0 : Int32), (0 : Int32), (0 : Int32), (0 : Int32)] [(0 : Int32), (2 : Int32)] [(1 : Int32), (1 : Int32)])), .val (.int v6_22c)]) rfl k) ?_
                  refine Go.of (fun t k => XS.iload X59.here hx rfl (hb hby at_193) rfl k) ?_
                  refine Go.of (fun t k => XS.iconst X59.here hx rfl (hb hby at_195) k) ?_
                  show Go p e below s _ _ _ (T59.setTop (mkF m 196 #[.val (.int p0), .val (.int p1), .val (.int p2), .val (.int p3), .val (.int p4), .val (.int (2 : Int32)), .val (.int v6_22c), .val (.int (((p4.toUInt32 >>> ((4 : Int32) &&& 31).toUInt32).toInt32) &&& (3 : Int32))), .val (.int (((p4.toUInt32 >>> ((6 : Int32) &&& 31).toUInt32).toInt32) &&& (3 : Int32))), .val (.int p0), .val (.int w0_53), .val (.int w0_77), .val (.int w0_112), .val (.ref b40), .val (.int (F9 (0 : Int32) w0_112 [p0, (0 : Int32), w0_112, (0 : Int32), (0 : Int32), (0 : Int32), (0 : Int32), (0 : Int32)] [(0 : Int32), (2 : Int32)] [(1 : Int32), (1 : Int32)])), .val (.int v6_22c)] [(.int (3 : Int32)), (.int v6_22c)]))
                  have jn209c : ∀ (v15_209c : Int32) (T_209c : State) (l_209c : List Loc) (X_209c : Stand p l e room_1 s m #[(.int p0), (.int p1), (.int p2), (.int p3), (.int p4)] below meth c T_209c l_209c 13 61) (e_209c : T_209c.heap = T54.heap) (N_209c : Fr n0 l_209c), Go p e below s (QL (some (.int (F0_209c p0 w0_112 v15_209c))) n0) room_1.cells room_1.slots (T_209c.setTop (mkF m 209 #[.val (.int p0), .val (.int p1), .val (.int p2), .val (.int p3), .val (.int p4), .val (.int (2 : Int32)), .val (.int v6_22c), .val (.int (((p4.toUInt32 >>> ((4 : Int32) &&& 31).toUInt32).toInt32) &&& (3 : Int32))), .val (.int (((p4.toUInt32 >>> ((6 : Int32) &&& 31).toUInt32).toInt32) &&& (3 : Int32))), .val (.int p0), .val (.int w0_53), .val (.int w0_77), .val (.int w0_112), .val (.ref b40), .val (.int (F9 (0 : Int32) w0_112 [p0, (0 : Int32), w0_112, (0 : Int32), (0 : Int32), (0 : Int32), (0 : Int32), (0 : Int32)] [(0 : Int32), (2 : Int32)] [(1 : Int32), (1 : Int32)])), .val (.int v15_209c)] [])) := by
                    intro v15_209c T_209c l_209c X_209c e_209c N_209c
                    unfold F0_209c
                    refine Go.of (fun t k => XS.iload X_209c.here hx rfl (hb hby at_209) rfl k) ?_
                    refine Go.of (fun t k => XS.iconst X_209c.here hx rfl (hb hby at_211) k) ?_
                    show Go p e below s _ _ _ (T_209c.setTop (mkF m 212 #[.val (.int p0), .val (.int p1), .val (.int p2), .val (.int p3), .val (.int p4), .val (.int (2 : Int32)), .val (.int v6_22c), .val (.int (((p4.toUInt32 >>> ((4 : Int32) &&& 31).toUInt32).toInt32) &&& (3 : Int32))), .val (.int (((p4.toUInt32 >>> ((6 : Int32) &&& 31).toUInt32).toInt32) &&& (3 : Int32))), .val (.int p0), .val (.int w0_53), .val (.int w0_77), .val (.int w0_112), .val (.ref b40), .val (.int (F9 (0 : Int32) w0_112 [p0, (0 : Int32), w0_112, (0 : Int32), (0 : Int32), (0 : Int32), (0 : Int32), (0 : Int32)] [(0 : Int32), (2 : Int32)] [(1 : Int32), (1 : Int32)])), .val (.int v15_209c)] [(.int (2 : Int32)), (.int v6_22c)]))
                    have jn225c : ∀ (v15_225c : Int32) (T_225c : State) (l_225c : List Loc) (X_225c : Stand p l e room_1 s m #[(.int p0), (.int p1), (.int p2), (.int p3), (.int p4)] below meth c T_225c l_225c 13 61) (e_225c : T_225c.heap = T54.heap) (N_225c : Fr n0 l_225c), Go p e below s (QL (some (.int (F0_225c p0 w0_112 v15_225c))) n0) room_1.cells room_1.slots (T_225c.setTop (mkF m 225 #[.val (.int p0), .val (.int p1), .val (.int p2), .val (.int p3), .val (.int p4), .val (.int (2 : Int32)), .val (.int v6_22c), .val (.int (((p4.toUInt32 >>> ((4 : Int32) &&& 31).toUInt32).toInt32) &&& (3 : Int32))), .val (.int (((p4.toUInt32 >>> ((6 : Int32) &&& 31).toUInt32).toInt32) &&& (3 : Int32))), .val (.int p0), .val (.int w0_53), .val (.int w0_77), .val (.int w0_112), .val (.ref b40), .val (.int (F9 (0 : Int32) w0_112 [p0, (0 : Int32), w0_112, (0 : Int32), (0 : Int32), (0 : Int32), (0 : Int32), (0 : Int32)] [(0 : Int32), (2 : Int32)] [(1 : Int32), (1 : Int32)])), .val (.int v15_225c)] [])) := by
                      intro v15_225c T_225c l_225c X_225c e_225c N_225c
                      unfold F0_225c
                      refine Go.of (fun t k => XS.iload X_225c.here hx rfl (hb hby at_225) rfl k) ?_
                      refine Go.of (fun t k => XS.iload X_225c.here hx rfl (hb hby at_227) rfl k) ?_
                      show Go p e below s _ _ _ (T_225c.setTop (mkF m 229 #[.val (.int p0), .val (.int p1), .val (.int p2), .val (.int p3), .val (.int p4), .val (.int (2 : Int32)), .val (.int v6_22c), .val (.int (((p4.toUInt32 >>> ((4 : Int32) &&& 31).toUInt32).toInt32) &&& (3 : Int32))), .val (.int (((p4.toUInt32 >>> ((6 : Int32) &&& 31).toUInt32).toInt32) &&& (3 : Int32))), .val (.int p0), .val (.int w0_53), .val (.int w0_77), .val (.int w0_112), .val (.ref b40), .val (.int (F9 (0 : Int32) w0_112 [p0, (0 : Int32), w0_112, (0 : Int32), (0 : Int32), (0 : Int32), (0 : Int32), (0 : Int32)] [(0 : Int32), (2 : Int32)] [(1 : Int32), (1 : Int32)])), .val (.int v15_225c)] [(.int w0_112), (.int p0)]))
                      have jn235c : ∀ (v15_235c : Int32) (T_235c : State) (l_235c : List Loc) (X_235c : Stand p l e room_1 s m #[(.int p0), (.int p1), (.int p2), (.int p3), (.int p4)] below meth c T_235c l_235c 13 61) (e_235c : T_235c.heap = T54.heap) (N_235c : Fr n0 l_235c), Go p e below s (QL (some (.int (F0_235c p0 w0_112 v15_235c))) n0) room_1.cells room_1.slots (T_235c.setTop (mkF m 235 #[.val (.int p0), .val (.int p1), .val (.int p2), .val (.int p3), .val (.int p4), .val (.int (2 : Int32)), .val (.int v6_22c), .val (.int (((p4.toUInt32 >>> ((4 : Int32) &&& 31).toUInt32).toInt32) &&& (3 : Int32))), .val (.int (((p4.toUInt32 >>> ((6 : Int32) &&& 31).toUInt32).toInt32) &&& (3 : Int32))), .val (.int p0), .val (.int w0_53), .val (.int w0_77), .val (.int w0_112), .val (.ref b40), .val (.int (F9 (0 : Int32) w0_112 [p0, (0 : Int32), w0_112, (0 : Int32), (0 : Int32), (0 : Int32), (0 : Int32), (0 : Int32)] [(0 : Int32), (2 : Int32)] [(1 : Int32), (1 : Int32)])), .val (.int v15_235c)] [])) := by
                        intro v15_235c T_235c l_235c X_235c e_235c N_235c
                        unfold F0_235c
                        refine Go.of (fun t k => XS.iload X_235c.here hx rfl (hb hby at_235) rfl k) ?_
                        refine Go.of (fun t k => XS.iload X_235c.here hx rfl (hb hby at_237) rfl k) ?_
                        show Go p e below s _ _ _ (T_235c.setTop (mkF m 239 #[.val (.int p0), .val (.int p1), .val (.int p2), .val (.int p3), .val (.int p4), .val (.int (2 : Int32)), .val (.int v6_22c), .val (.int (((p4.toUInt32 >>> ((4 : Int32) &&& 31).toUInt32).toInt32) &&& (3 : Int32))), .val (.int (((p4.toUInt32 >>> ((6 : Int32) &&& 31).toUInt32).toInt32) &&& (3 : Int32))), .val (.int p0), .val (.int w0_53), .val (.int w0_77), .val (.int w0_112), .val (.ref b40), .val (.int (F9 (0 : Int32) w0_112 [p0, (0 : Int32), w0_112, (0 : Int32), (0 : Int32), (0 : Int32), (0 : Int32), (0 : Int32)] [(0 : Int32), (2 : Int32)] [(1 : Int32), (1 : Int32)])), .val (.int v15_235c)] [(.int v15_235c), (.int (F9 (0 : Int32) w0_112 [p0, (0 : Int32), w0_112, (0 : Int32), (0 : Int32), (0 : Int32), (0 : Int32), (0 : Int32)] [(0 : Int32), (2 : Int32)] [(1 : Int32), (1 : Int32)]))]))
                        by_cases hc239_60 : (F9 (0 : Int32) w0_112 [p0, (0 : Int32), w0_112, (0 : Int32), (0 : Int32), (0 : Int32), (0 : Int32), (0 : Int32)] [(0 : Int32), (2 : Int32)] [(1 : Int32), (1 : Int32)]) = v15_235c
                        · rewrite [if_pos hc239_60]
                          refine Go.of (fun t k => XS.icmpNo X_235c.here hx rfl (hb hby at_239) rfl (teq hc239_60).2 k) ?_
                          show Go p e below s _ _ _ (T_235c.setTop (mkF m 242 #[.val (.int p0), .val (.int p1), .val (.int p2), .val (.int p3), .val (.int p4), .val (.int (2 : Int32)), .val (.int v6_22c), .val (.int (((p4.toUInt32 >>> ((4 : Int32) &&& 31).toUInt32).toInt32) &&& (3 : Int32))), .val (.int (((p4.toUInt32 >>> ((6 : Int32) &&& 31).toUInt32).toInt32) &&& (3 : Int32))), .val (.int p0), .val (.int w0_53), .val (.int w0_77), .val (.int w0_112), .val (.ref b40), .val (.int (F9 (0 : Int32) w0_112 [p0, (0 : Int32), w0_112, (0 : Int32), (0 : Int32), (0 : Int32), (0 : Int32), (0 : Int32)] [(0 : Int32), (2 : Int32)] [(1 : Int32), (1 : Int32)])), .val (.int v15_235c)] []))
                          refine Go.of (fun t k => XS.iconst X_235c.here hx rfl (hb hby at_242) k) ?_
                          refine Go.of (fun t k => XS.goto X_235c.here hx rfl (pc0 := 243) (pc' := 247) rfl (hb hby at_243) (by decide) (by decide) k) ?_
                          show Go p e below s _ _ _ (T_235c.setTop (mkF m 247 #[.val (.int p0), .val (.int p1), .val (.int p2), .val (.int p3), .val (.int p4), .val (.int (2 : Int32)), .val (.int v6_22c), .val (.int (((p4.toUInt32 >>> ((4 : Int32) &&& 31).toUInt32).toInt32) &&& (3 : Int32))), .val (.int (((p4.toUInt32 >>> ((6 : Int32) &&& 31).toUInt32).toInt32) &&& (3 : Int32))), .val (.int p0), .val (.int w0_53), .val (.int w0_77), .val (.int w0_112), .val (.ref b40), .val (.int (F9 (0 : Int32) w0_112 [p0, (0 : Int32), w0_112, (0 : Int32), (0 : Int32), (0 : Int32), (0 : Int32), (0 : Int32)] [(0 : Int32), (2 : Int32)] [(1 : Int32), (1 : Int32)])), .val (.int v15_235c)] [(.int (1 : Int32))]))
                          exact Go.ret X_235c (some (.int (1 : Int32))) (fun h => by rw [Bd.returns] at h; cases h) hlk ⟨rfl, N_235c⟩ (by decide) (by decide) (fun fs hr => (retN X_235c hx (t := .boolean) Bd.returns (by simp) (hb hby at_247) hr))
                        · rewrite [if_neg hc239_60]
                          refine Go.of (fun t k => XS.icmpYes X_235c.here hx rfl (pc0 := 239) (pc' := 246) rfl (hb hby at_239) rfl (feq hc239_60).2 (by decide) (by decide) k) ?_
                          show Go p e below s _ _ _ (T_235c.setTop (mkF m 246 #[.val (.int p0), .val (.int p1), .val (.int p2), .val (.int p3), .val (.int p4), .val (.int (2 : Int32)), .val (.int v6_22c), .val (.int (((p4.toUInt32 >>> ((4 : Int32) &&& 31).toUInt32).toInt32) &&& (3 : Int32))), .val (.int (((p4.toUInt32 >>> ((6 : Int32) &&& 31).toUInt32).toInt32) &&& (3 : Int32))), .val (.int p0), .val (.int w0_53), .val (.int w0_77), .val (.int w0_112), .val (.ref b40), .val (.int (F9 (0 : Int32) w0_112 [p0, (0 : Int32), w0_112, (0 : Int32), (0 : Int32), (0 : Int32), (0 : Int32), (0 : Int32)] [(0 : Int32), (2 : Int32)] [(1 : Int32), (1 : Int32)])), .val (.int v15_235c)] []))
                          refine Go.of (fun t k => XS.iconst X_235c.here hx rfl (hb hby at_246) k) ?_
                          show Go p e below s _ _ _ (T_235c.setTop (mkF m 247 #[.val (.int p0), .val (.int p1), .val (.int p2), .val (.int p3), .val (.int p4), .val (.int (2 : Int32)), .val (.int v6_22c), .val (.int (((p4.toUInt32 >>> ((4 : Int32) &&& 31).toUInt32).toInt32) &&& (3 : Int32))), .val (.int (((p4.toUInt32 >>> ((6 : Int32) &&& 31).toUInt32).toInt32) &&& (3 : Int32))), .val (.int p0), .val (.int w0_53), .val (.int w0_77), .val (.int w0_112), .val (.ref b40), .val (.int (F9 (0 : Int32) w0_112 [p0, (0 : Int32), w0_112, (0 : Int32), (0 : Int32), (0 : Int32), (0 : Int32), (0 : Int32)] [(0 : Int32), (2 : Int32)] [(1 : Int32), (1 : Int32)])), .val (.int v15_235c)] [(.int (0 : Int32))]))
                          exact Go.ret X_235c (some (.int (0 : Int32))) (fun h => by rw [Bd.returns] at h; cases h) hlk ⟨rfl, N_235c⟩ (by decide) (by decide) (fun fs hr => (retN X_235c hx (t := .boolean) Bd.returns (by simp) (hb hby at_247) hr))
                      by_cases hc229_61 : p0 = w0_112
                      · rewrite [if_pos hc229_61]
                        refine Go.of (fun t k => XS.icmpNo X_225c.here hx rfl (hb hby at_229) rfl (teq hc229_61).2 k) ?_
                        show Go p e below s _ _ _ (T_225c.setTop (mkF m 232 #[.val (.int p0), .val (.int p1), .val (.int p2), .val (.int p3), .val (.int p4), .val (.int (2 : Int32)), .val (.int v6_22c), .val (.int (((p4.toUInt32 >>> ((4 : Int32) &&& 31).toUInt32).toInt32) &&& (3 : Int32))), .val (.int (((p4.toUInt32 >>> ((6 : Int32) &&& 31).toUInt32).toInt32) &&& (3 : Int32))), .val (.int p0), .val (.int w0_53), .val (.int w0_77), .val (.int w0_112), .val (.ref b40), .val (.int (F9 (0 : Int32) w0_112 [p0, (0 : Int32), w0_112, (0 : Int32), (0 : Int32), (0 : Int32), (0 : Int32), (0 : Int32)] [(0 : Int32), (2 : Int32)] [(1 : Int32), (1 : Int32)])), .val (.int v15_225c)] []))
                        refine Go.of (fun t k => XS.iconst X_225c.here hx rfl (hb hby at_232) k) ?_
                        refine Go.of (fun t k => XS.istore X_225c.here hx rfl (hb hby at_233) rfl (l' := #[.val (.int p0), .val (.int p1), .val (.int p2), .val (.int p3), .val (.int p4), .val (.int (2 : Int32)), .val (.int v6_22c), .val (.int (((p4.toUInt32 >>> ((4 : Int32) &&& 31).toUInt32).toInt32) &&& (3 : Int32))), .val (.int (((p4.toUInt32 >>> ((6 : Int32) &&& 31).toUInt32).toInt32) &&& (3 : Int32))), .val (.int p0), .val (.int w0_53), .val (.int w0_77), .val (.int w0_112), .val (.ref b40), .val (.int (F9 (0 : Int32) w0_112 [p0, (0 : Int32), w0_112, (0 : Int32), (0 : Int32), (0 : Int32), (0 : Int32), (0 : Int32)] [(0 : Int32), (2 : Int32)] [(1 : Int32), (1 : Int32)])), .val (.int (0 : Int32))]) rfl k) ?_
                        show Go p e below s _ _ _ (T_225c.setTop (mkF m 235 #[.val (.int p0), .val (.int p1), .val (.int p2), .val (.int p3), .val (.int p4), .val (.int (2 : Int32)), .val (.int v6_22c), .val (.int (((p4.toUInt32 >>> ((4 : Int32) &&& 31).toUInt32).toInt32) &&& (3 : Int32))), .val (.int (((p4.toUInt32 >>> ((6 : Int32) &&& 31).toUInt32).toInt32) &&& (3 : Int32))), .val (.int p0), .val (.int w0_53), .val (.int w0_77), .val (.int w0_112), .val (.ref b40), .val (.int (F9 (0 : Int32) w0_112 [p0, (0 : Int32), w0_112, (0 : Int32), (0 : Int32), (0 : Int32), (0 : Int32), (0 : Int32)] [(0 : Int32), (2 : Int32)] [(1 : Int32), (1 : Int32)])), .val (.int (0 : Int32))] []))
                        exact jn235c (0 : Int32)  T_225c _ X_225c e_225c N_225c  
                      · rewrite [if_neg hc229_61]
                        refine Go.of (fun t k => XS.icmpYes X_225c.here hx rfl (pc0 := 229) (pc' := 235) rfl (hb hby at_229) rfl (feq hc229_61).2 (by decide) (by decide) k) ?_
                        show Go p e below s _ _ _ (T_225c.setTop (mkF m 235 #[.val (.int p0), .val (.int p1), .val (.int p2), .val (.int p3), .val (.int p4), .val (.int (2 : Int32)), .val (.int v6_22c), .val (.int (((p4.toUInt32 >>> ((4 : Int32) &&& 31).toUInt32).toInt32) &&& (3 : Int32))), .val (.int (((p4.toUInt32 >>> ((6 : Int32) &&& 31).toUInt32).toInt32) &&& (3 : Int32))), .val (.int p0), .val (.int w0_53), .val (.int w0_77), .val (.int w0_112), .val (.ref b40), .val (.int (F9 (0 : Int32) w0_112 [p0, (0 : Int32), w0_112, (0 : Int32), (0 : Int32), (0 : Int32), (0 : Int32), (0 : Int32)] [(0 : Int32), (2 : Int32)] [(1 : Int32), (1 : Int32)])), .val (.int v15_225c)] []))
                        exact jn235c v15_225c  T_225c _ X_225c e_225c N_225c  
                    refine Go.of (fun t k => XS.icmpYes X_209c.here hx rfl (pc0 := 212) (pc' := 225) rfl (hb hby at_212) rfl (tlt hc148_57).1 (by decide) (by decide) k) ?_
                    show Go p e below s _ _ _ (T_209c.setTop (mkF m 225 #[.val (.int p0), .val (.int p1), .val (.int p2), .val (.int p3), .val (.int p4), .val (.int (2 : Int32)), .val (.int v6_22c), .val (.int (((p4.toUInt32 >>> ((4 : Int32) &&& 31).toUInt32).toInt32) &&& (3 : Int32))), .val (.int (((p4.toUInt32 >>> ((6 : Int32) &&& 31).toUInt32).toInt32) &&& (3 : Int32))), .val (.int p0), .val (.int w0_53), .val (.int w0_77), .val (.int w0_112), .val (.ref b40), .val (.int (F9 (0 : Int32) w0_112 [p0, (0 : Int32), w0_112, (0 : Int32), (0 : Int32), (0 : Int32), (0 : Int32), (0 : Int32)] [(0 : Int32), (2 : Int32)] [(1 : Int32), (1 : Int32)])), .val (.int v15_209c)] []))
                    exact jn225c v15_209c  T_209c _ X_209c e_209c N_209c  
                  refine Go.of (fun t k => XS.icmpYes X59.here hx rfl (pc0 := 196) (pc' := 209) rfl (hb hby at_196) rfl (tlt hf165_58).1 (by decide) (by decide) k) ?_
                  show Go p e below s _ _ _ (T59.setTop (mkF m 209 #[.val (.int p0), .val (.int p1), .val (.int p2), .val (.int p3), .val (.int p4), .val (.int (2 : Int32)), .val (.int v6_22c), .val (.int (((p4.toUInt32 >>> ((4 : Int32) &&& 31).toUInt32).toInt32) &&& (3 : Int32))), .val (.int (((p4.toUInt32 >>> ((6 : Int32) &&& 31).toUInt32).toInt32) &&& (3 : Int32))), .val (.int p0), .val (.int w0_53), .val (.int w0_77), .val (.int w0_112), .val (.ref b40), .val (.int (F9 (0 : Int32) w0_112 [p0, (0 : Int32), w0_112, (0 : Int32), (0 : Int32), (0 : Int32), (0 : Int32), (0 : Int32)] [(0 : Int32), (2 : Int32)] [(1 : Int32), (1 : Int32)])), .val (.int v6_22c)] []))
                  exact jn209c v6_22c  T59 _ X59 e59 N59  
                · rewrite [if_neg hc148_57]
                  refine Go.of (fun t k => XS.icmpNo X54.here hx rfl (hb hby at_148) rfl (flt hc148_57).1 k) ?_
                  show Go p e below s _ _ _ (T54.setTop (mkF m 151 #[.val (.int p0), .val (.int p1), .val (.int p2), .val (.int p3), .val (.int p4), .val (.int (2 : Int32)), .val (.int v6_22c), .val (.int (((p4.toUInt32 >>> ((4 : Int32) &&& 31).toUInt32).toInt32) &&& (3 : Int32))), .val (.int (((p4.toUInt32 >>> ((6 : Int32) &&& 31).toUInt32).toInt32) &&& (3 : Int32))), .val (.int p0), .val (.int w0_53), .val (.int w0_77), .val (.int w0_112), .val (.ref b40), .unset, .unset] []))
                  refine Go.of (fun t k => XS.aload X54.here hx rfl (hb hby at_151) rfl rfl k) ?_
                  refine Go.of (fun t k => XS.iconst X54.here hx rfl (hb hby at_153) k) ?_
                  refine Go.of (fun t k => XS.iconst X54.here hx rfl (hb hby at_154) k) ?_
                  refine Go.of (fun t k => XS.iload X54.here hx rfl (hb hby at_155) rfl k) ?_
                  refine Go.of (fun t k => XS.iconst X54.here hx rfl (hb hby at_157) k) ?_
                  refine Go.of (fun t k => XS.iconst X54.here hx rfl (hb hby at_158) k) ?_
                  show Go p e below s _ _ _ (T54.setTop (mkF m 159 #[.val (.int p0), .val (.int p1), .val (.int p2), .val (.int p3), .val (.int p4), .val (.int (2 : Int32)), .val (.int v6_22c), .val (.int (((p4.toUInt32 >>> ((4 : Int32) &&& 31).toUInt32).toInt32) &&& (3 : Int32))), .val (.int (((p4.toUInt32 >>> ((6 : Int32) &&& 31).toUInt32).toInt32) &&& (3 : Int32))), .val (.int p0), .val (.int w0_53), .val (.int w0_77), .val (.int w0_112), .val (.ref b40), .unset, .unset] [(.int (0 : Int32)), (.int (0 : Int32)), (.int w0_53), (.int (1 : Int32)), (.int (0 : Int32)), (.ref b40)]))
                  obtain ⟨cq62, kq62, q62a, q62b, q62c⟩ := isOf hZ rfl E_56
                  obtain ⟨_, _, ⟨T62, L62, k62, n62⟩, -, X62, ⟨Lc62, hQ62, l62, y62, z62⟩, st62⟩ := X54.virtualBack hx (y := (⟨"com/example/susurrus/susurrus/KnownUnits", "keep", "(IIIII)V"⟩ : MethodName)) (z := (⟨"com/example/susurrus/susurrus/KnownUnits", "keep", "(IIIII)V"⟩ : MethodName)) hown (mvT hZ (hw _ (List.mem_of_getElem? (i := 59) rfl))) (mvT hZ (hw _ (List.mem_of_getElem? (i := 60) rfl))) (notFace_of_selects (args := #[]) (mvT hZ (hw _ (List.mem_of_getElem? (i := 62) rfl)))) (mvT hZ (hw _ (List.mem_of_getElem? (i := 62) rfl))) (mvT hZ (hw _ (List.mem_of_getElem? (i := 61) rfl))) (by decide) (backOf (W := 0) (rm10B l Z az hw [] b40 (0 : Int32) (1 : Int32) w0_53 (0 : Int32) (0 : Int32) bu55 bg55 bd55 xt49 xr49 xc49 ku55 kg55 kd55 kxt49 kxr49 kxc49 (4 : Int32) [p0, (0 : Int32), w0_112, (0 : Int32), (0 : Int32), (0 : Int32), (0 : Int32), (0 : Int32)] [(0 : Int32), (0 : Int32), (0 : Int32), (0 : Int32), (0 : Int32), (0 : Int32), (0 : Int32), (0 : Int32)] [(-1 : Int32), (0 : Int32), (-1 : Int32), (0 : Int32), (0 : Int32), (0 : Int32), (0 : Int32), (0 : Int32)] [(0 : Int32), (2 : Int32)] [(2 : Int32), (1 : Int32)] [(1 : Int32), (1 : Int32)] (3 : Int32) T54.heap n0 Zk56 ⟨E_56, Ff0_56, Ff1_56, Ff2_56, Ff3_56, Ff4_56, Ff5_56, Ff6_56, Vv0_56, Vv1_56, Vv2_56, Vv3_56, Vv4_56, Vv5_56, g_b40, g_bu55, g_bg55, g_bd55, g_xt49, g_xr49, g_xc49, Zk56, ne_0_1_56, ne_0_2_56, ne_0_3_56, ne_0_4_56, ne_0_5_56, ne_0_6_56, ne_1_2_56, ne_1_3_56, ne_1_4_56, ne_1_5_56, ne_1_6_56, ne_2_3_56, ne_2_4_56, ne_2_5_56, ne_2_6_56, ne_3_4_56, ne_3_5_56, ne_3_6_56, ne_4_5_56, ne_4_6_56, ne_5_6_56⟩ (by decide) (by decide) (by decide) (by decide) (by decide) (⟨rfl, rfl, rfl⟩)) hZ (hw _ (List.mem_of_getElem? (i := 63) rfl)) (hw _ (List.mem_of_getElem? (i := 6) rfl)) (by decide) (by decide)) q62a q62c (g := (mkF m 159 #[.val (.int p0), .val (.int p1), .val (.int p2), .val (.int p3), .val (.int p4), .val (.int (2 : Int32)), .val (.int v6_22c), .val (.int (((p4.toUInt32 >>> ((4 : Int32) &&& 31).toUInt32).toInt32) &&& (3 : Int32))), .val (.int (((p4.toUInt32 >>> ((6 : Int32) &&& 31).toUInt32).toInt32) &&& (3 : Int32))), .val (.int p0), .val (.int w0_53), .val (.int w0_77), .val (.int w0_112), .val (.ref b40), .unset, .unset] [(.int (0 : Int32)), (.int (0 : Int32)), (.int w0_53), (.int (1 : Int32)), (.int (0 : Int32)), (.ref b40)])) rfl (by rw [hml]; rfl) (Steps.refl _) (argsL := [(.int (0 : Int32)), (.int (1 : Int32)), (.int w0_53), (.int (0 : Int32)), (.int (0 : Int32))]) (rest := []) (lenOf own_pd7 rfl) rfl (by show 2 * 0 + _ ≤ _; exact Nat.le_of_eq rfl) (hb hby at_159) (fun _ _ => ⟨rfl, rfl, (by decide : 13 + 0 ≤ _), (by decide : 61 + 0 ≤ _)⟩)
                  dsimp only [Pt.U, Pt.locs, Pt.cells, Pt.slots] at X62 l62 y62 z62 st62 hQ62
                  subst l62 y62 z62
                  obtain ⟨rfl, N62q, bu63, bg63, bd63, ku63, kg63, kd63, hK63⟩ := hQ62
                  have N62 := Fr.app N54 N62q
                  have hS63 : own_K Z T62.heap n0 b40 bu63 bg63 bd63 xt49 xr49 xc49 ku63 kg63 kd63 kxt49 kxr49 kxc49 (4 : Int32) [p0, w0_53, w0_112, (0 : Int32), (0 : Int32), (0 : Int32), (0 : Int32), (0 : Int32)] [(0 : Int32), (0 : Int32), (0 : Int32), (0 : Int32), (0 : Int32), (0 : Int32), (0 : Int32), (0 : Int32)] [(-1 : Int32), (0 : Int32), (-1 : Int32), (0 : Int32), (0 : Int32), (0 : Int32), (0 : Int32), (0 : Int32)] [(0 : Int32), (2 : Int32)] [(2 : Int32), (1 : Int32)] [(2 : Int32), (1 : Int32)] (3 : Int32) := hK63
                  obtain ⟨E_64, Ff0_64, Ff1_64, Ff2_64, Ff3_64, Ff4_64, Ff5_64, Ff6_64, Vv0_64, Vv1_64, Vv2_64, Vv3_64, Vv4_64, Vv5_64, g_b40, g_bu63, g_bg63, g_bd63, g_xt49, g_xr49, g_xc49, Zk64, ne_0_1_64, ne_0_2_64, ne_0_3_64, ne_0_4_64, ne_0_5_64, ne_0_6_64, ne_1_2_64, ne_1_3_64, ne_1_4_64, ne_1_5_64, ne_1_6_64, ne_2_3_64, ne_2_4_64, ne_2_5_64, ne_2_6_64, ne_3_4_64, ne_3_5_64, ne_3_6_64, ne_4_5_64, ne_4_6_64, ne_5_6_64⟩ := id hS63
                  refine Go.of (fun t k => st62.trans k) ?_
                  show Go p e below s _ _ _ (T62.setTop (mkF m 162 #[.val (.int p0), .val (.int p1), .val (.int p2), .val (.int p3), .val (.int p4), .val (.int (2 : Int32)), .val (.int v6_22c), .val (.int (((p4.toUInt32 >>> ((4 : Int32) &&& 31).toUInt32).toInt32) &&& (3 : Int32))), .val (.int (((p4.toUInt32 >>> ((6 : Int32) &&& 31).toUInt32).toInt32) &&& (3 : Int32))), .val (.int p0), .val (.int w0_53), .val (.int w0_77), .val (.int w0_112), .val (.ref b40), .unset, .unset] []))
                  refine Go.of (fun t k => XS.iload X62.here hx rfl (hb hby at_162) rfl k) ?_
                  refine Go.of (fun t k => XS.iconst X62.here hx rfl (hb hby at_164) k) ?_
                  show Go p e below s _ _ _ (T62.setTop (mkF m 165 #[.val (.int p0), .val (.int p1), .val (.int p2), .val (.int p3), .val (.int p4), .val (.int (2 : Int32)), .val (.int v6_22c), .val (.int (((p4.toUInt32 >>> ((4 : Int32) &&& 31).toUInt32).toInt32) &&& (3 : Int32))), .val (.int (((p4.toUInt32 >>> ((6 : Int32) &&& 31).toUInt32).toInt32) &&& (3 : Int32))), .val (.int p0), .val (.int w0_53), .val (.int w0_77), .val (.int w0_112), .val (.ref b40), .unset, .unset] [(.int (3 : Int32)), (.int v6_22c)]))
                  by_cases hc165_65 : v6_22c < (3 : Int32)
                  · rewrite [if_pos hc165_65]
                    refine Go.of (fun t k => XS.icmpYes X62.here hx rfl (pc0 := 165) (pc' := 179) rfl (hb hby at_165) rfl (tlt hc165_65).1 (by decide) (by decide) k) ?_
                    show Go p e below s _ _ _ (T62.setTop (mkF m 179 #[.val (.int p0), .val (.int p1), .val (.int p2), .val (.int p3), .val (.int p4), .val (.int (2 : Int32)), .val (.int v6_22c), .val (.int (((p4.toUInt32 >>> ((4 : Int32) &&& 31).toUInt32).toInt32) &&& (3 : Int32))), .val (.int (((p4.toUInt32 >>> ((6 : Int32) &&& 31).toUInt32).toInt32) &&& (3 : Int32))), .val (.int p0), .val (.int w0_53), .val (.int w0_77), .val (.int w0_112), .val (.ref b40), .unset, .unset] []))
                    refine Go.of (fun t k => XS.aload X62.here hx rfl (hb hby at_179) rfl rfl k) ?_
                    refine Go.of (fun t k => XS.iconst X62.here hx rfl (hb hby at_181) k) ?_
                    refine Go.of (fun t k => XS.iload X62.here hx rfl (hb hby at_182) rfl k) ?_
                    show Go p e below s _ _ _ (T62.setTop (mkF m 184 #[.val (.int p0), .val (.int p1), .val (.int p2), .val (.int p3), .val (.int p4), .val (.int (2 : Int32)), .val (.int v6_22c), .val (.int (((p4.toUInt32 >>> ((4 : Int32) &&& 31).toUInt32).toInt32) &&& (3 : Int32))), .val (.int (((p4.toUInt32 >>> ((6 : Int32) &&& 31).toUInt32).toInt32) &&& (3 : Int32))), .val (.int p0), .val (.int w0_53), .val (.int w0_77), .val (.int w0_112), .val (.ref b40), .unset, .unset] [(.int w0_112), (.int (0 : Int32)), (.ref b40)]))
                    obtain ⟨cq66, kq66, q66a, q66b, q66c⟩ := isOf hZ rfl E_64
                    obtain ⟨_, _, ⟨T66, L66, k66, n66⟩, -, X66, ⟨Lc66, hQ66, l66, y66, z66⟩, st66⟩ := X62.virtualBack hx (y := (⟨"com/example/susurrus/susurrus/KnownUnits", "find", "(II)I"⟩ : MethodName)) (z := (⟨"com/example/susurrus/susurrus/KnownUnits", "find", "(II)I"⟩ : MethodName)) hown (mvT hZ (hw _ (List.mem_of_getElem? (i := 54) rfl))) (mvT hZ (hw _ (List.mem_of_getElem? (i := 55) rfl))) (notFace_of_selects (args := #[]) (mvT hZ (hw _ (List.mem_of_getElem? (i := 57) rfl)))) (mvT hZ (hw _ (List.mem_of_getElem? (i := 57) rfl))) (mvT hZ (hw _ (List.mem_of_getElem? (i := 56) rfl))) (by decide) (backOf (W := 0) (rm9 l Z az hw [] b40 (0 : Int32) w0_112 bu63 bg63 bd63 xt49 xr49 xc49 ku63 kg63 kd63 kxt49 kxr49 kxc49 (4 : Int32) [p0, w0_53, w0_112, (0 : Int32), (0 : Int32), (0 : Int32), (0 : Int32), (0 : Int32)] [(0 : Int32), (0 : Int32), (0 : Int32), (0 : Int32), (0 : Int32), (0 : Int32), (0 : Int32), (0 : Int32)] [(-1 : Int32), (0 : Int32), (-1 : Int32), (0 : Int32), (0 : Int32), (0 : Int32), (0 : Int32), (0 : Int32)] [(0 : Int32), (2 : Int32)] [(2 : Int32), (1 : Int32)] [(2 : Int32), (1 : Int32)] (3 : Int32) T62.heap n0 Zk64 ⟨E_64, Ff0_64, Ff1_64, Ff2_64, Ff3_64, Ff4_64, Ff5_64, Ff6_64, Vv0_64, Vv1_64, Vv2_64, Vv3_64, Vv4_64, Vv5_64, g_b40, g_bu63, g_bg63, g_bd63, g_xt49, g_xr49, g_xc49, Zk64, ne_0_1_64, ne_0_2_64, ne_0_3_64, ne_0_4_64, ne_0_5_64, ne_0_6_64, ne_1_2_64, ne_1_3_64, ne_1_4_64, ne_1_5_64, ne_1_6_64, ne_2_3_64, ne_2_4_64, ne_2_5_64, ne_2_6_64, ne_3_4_64, ne_3_5_64, ne_3_6_64, ne_4_5_64, ne_4_6_64, ne_5_6_64⟩ (by decide) (by decide)) hZ (hw _ (List.mem_of_getElem? (i := 58) rfl)) (hw _ (List.mem_of_getElem? (i := 6) rfl)) (by decide) (by decide)) q66a q66c (g := (mkF m 184 #[.val (.int p0), .val (.int p1), .val (.int p2), .val (.int p3), .val (.int p4), .val (.int (2 : Int32)), .val (.int v6_22c), .val (.int (((p4.toUInt32 >>> ((4 : Int32) &&& 31).toUInt32).toInt32) &&& (3 : Int32))), .val (.int (((p4.toUInt32 >>> ((6 : Int32) &&& 31).toUInt32).toInt32) &&& (3 : Int32))), .val (.int p0), .val (.int w0_53), .val (.int w0_77), .val (.int w0_112), .val (.ref b40), .unset, .unset] [(.int w0_112), (.int (0 : Int32)), (.ref b40)])) rfl (by rw [hml]; rfl) (Steps.refl _) (argsL := [(.int (0 : Int32)), (.int w0_112)]) (rest := []) (lenOf own_pd0 rfl) rfl (by show 2 * 0 + _ ≤ _; exact Nat.le_of_eq rfl) (hb hby at_184) (fun _ _ => ⟨rfl, rfl, (by decide : 13 + 0 ≤ _), (by decide : 61 + 0 ≤ _)⟩)
                    dsimp only [Pt.U, Pt.locs, Pt.cells, Pt.slots] at X66 l66 y66 z66 st66 hQ66
                    subst l66 y66 z66
                    obtain ⟨rfl, N66q, e66⟩ := hQ66
                    have N66 := Fr.app N62 N66q
                    refine Go.of (fun t k => st66.trans k) ?_
                    show Go p e below s _ _ _ (T66.setTop (mkF m 187 #[.val (.int p0), .val (.int p1), .val (.int p2), .val (.int p3), .val (.int p4), .val (.int (2 : Int32)), .val (.int v6_22c), .val (.int (((p4.toUInt32 >>> ((4 : Int32) &&& 31).toUInt32).toInt32) &&& (3 : Int32))), .val (.int (((p4.toUInt32 >>> ((6 : Int32) &&& 31).toUInt32).toInt32) &&& (3 : Int32))), .val (.int p0), .val (.int w0_53), .val (.int w0_77), .val (.int w0_112), .val (.ref b40), .unset, .unset] [(.int (F9 (0 : Int32) w0_112 [p0, w0_53, w0_112, (0 : Int32), (0 : Int32), (0 : Int32), (0 : Int32), (0 : Int32)] [(0 : Int32), (2 : Int32)] [(2 : Int32), (1 : Int32)]))]))
                    refine Go.of (fun t k => XS.istore X66.here hx rfl (hb hby at_187) rfl (l' := #[.val (.int p0), .val (.int p1), .val (.int p2), .val (.int p3), .val (.int p4), .val (.int (2 : Int32)), .val (.int v6_22c), .val (.int (((p4.toUInt32 >>> ((4 : Int32) &&& 31).toUInt32).toInt32) &&& (3 : Int32))), .val (.int (((p4.toUInt32 >>> ((6 : Int32) &&& 31).toUInt32).toInt32) &&& (3 : Int32))), .val (.int p0), .val (.int w0_53), .val (.int w0_77), .val (.int w0_112), .val (.ref b40), .val (.int (F9 (0 : Int32) w0_112 [p0, w0_53, w0_112, (0 : Int32), (0 : Int32), (0 : Int32), (0 : Int32), (0 : Int32)] [(0 : Int32), (2 : Int32)] [(2 : Int32), (1 : Int32)])), .unset]) rfl k) ?_
                    refine Go.of (fun t k => XS.iload X66.here hx rfl (hb hby at_189) rfl k) ?_
                    refine Go.of (fun t k => XS.istore X66.here hx rfl (hb hby at_191) rfl (l' := #[.val (.int p0), .val (.int p1), .val (.int p2), .val (.int p3), .val (.int p4), .val (.int (2 : Int32)), .val (.int v6_22c), .val (.int (((p4.toUInt32 >>> ((4 : Int32) &&& 31).toUInt32).toInt32) &&& (3 : Int32))), .val (.int (((p4.toUInt32 >>> ((6 : Int32) &&& 31).toUInt32).toInt32) &&& (3 : Int32))), .val (.int p0), .val (.int w0_53), .val (.int w0_77), .val (.int w0_112), .val (.ref b40), .val (.int (F9 (0 : Int32) w0_112 [p0, w0_53, w0_112, (0 : Int32), (0 : Int32), (0 : Int32), (0 : Int32), (0 : Int32)] [(0 : Int32), (2 : Int32)] [(2 : Int32), (1 : Int32)])), .val (.int v6_22c)]) rfl k) ?_
                    refine Go.of (fun t k => XS.iload X66.here hx rfl (hb hby at_193) rfl k) ?_
                    refine Go.of (fun t k => XS.iconst X66.here hx rfl (hb hby at_195) k) ?_
                    show Go p e below s _ _ _ (T66.setTop (mkF m 196 #[.val (.int p0), .val (.int p1), .val (.int p2), .val (.int p3), .val (.int p4), .val (.int (2 : Int32)), .val (.int v6_22c), .val (.int (((p4.toUInt32 >>> ((4 : Int32) &&& 31).toUInt32).toInt32) &&& (3 : Int32))), .val (.int (((p4.toUInt32 >>> ((6 : Int32) &&& 31).toUInt32).toInt32) &&& (3 : Int32))), .val (.int p0), .val (.int w0_53), .val (.int w0_77), .val (.int w0_112), .val (.ref b40), .val (.int (F9 (0 : Int32) w0_112 [p0, w0_53, w0_112, (0 : Int32), (0 : Int32), (0 : Int32), (0 : Int32), (0 : Int32)] [(0 : Int32), (2 : Int32)] [(2 : Int32), (1 : Int32)])), .val (.int v6_22c)] [(.int (3 : Int32)), (.int v6_22c)]))
                    have jn209d : ∀ (v15_209d : Int32) (T_209d : State) (l_209d : List Loc) (X_209d : Stand p l e room_1 s m #[(.int p0), (.int p1), (.int p2), (.int p3), (.int p4)] below meth c T_209d l_209d 13 61) (e_209d : T_209d.heap = T62.heap) (N_209d : Fr n0 l_209d), Go p e below s (QL (some (.int (F0_209d p0 w0_53 w0_112 v15_209d))) n0) room_1.cells room_1.slots (T_209d.setTop (mkF m 209 #[.val (.int p0), .val (.int p1), .val (.int p2), .val (.int p3), .val (.int p4), .val (.int (2 : Int32)), .val (.int v6_22c), .val (.int (((p4.toUInt32 >>> ((4 : Int32) &&& 31).toUInt32).toInt32) &&& (3 : Int32))), .val (.int (((p4.toUInt32 >>> ((6 : Int32) &&& 31).toUInt32).toInt32) &&& (3 : Int32))), .val (.int p0), .val (.int w0_53), .val (.int w0_77), .val (.int w0_112), .val (.ref b40), .val (.int (F9 (0 : Int32) w0_112 [p0, w0_53, w0_112, (0 : Int32), (0 : Int32), (0 : Int32), (0 : Int32), (0 : Int32)] [(0 : Int32), (2 : Int32)] [(2 : Int32), (1 : Int32)])), .val (.int v15_209d)] [])) := by
                      intro v15_209d T_209d l_209d X_209d e_209d N_209d
                      unfold F0_209d
                      refine Go.of (fun t k => XS.iload X_209d.here hx rfl (hb hby at_209) rfl k) ?_
                      refine Go.of (fun t k => XS.iconst X_209d.here hx rfl (hb hby at_211) k) ?_
                      show Go p e below s _ _ _ (T_209d.setTop (mkF m 212 #[.val (.int p0), .val (.int p1), .val (.int p2), .val (.int p3), .val (.int p4), .val (.int (2 : Int32)), .val (.int v6_22c), .val (.int (((p4.toUInt32 >>> ((4 : Int32) &&& 31).toUInt32).toInt32) &&& (3 : Int32))), .val (.int (((p4.toUInt32 >>> ((6 : Int32) &&& 31).toUInt32).toInt32) &&& (3 : Int32))), .val (.int p0), .val (.int w0_53), .val (.int w0_77), .val (.int w0_112), .val (.ref b40), .val (.int (F9 (0 : Int32) w0_112 [p0, w0_53, w0_112, (0 : Int32), (0 : Int32), (0 : Int32), (0 : Int32), (0 : Int32)] [(0 : Int32), (2 : Int32)] [(2 : Int32), (1 : Int32)])), .val (.int v15_209d)] [(.int (2 : Int32)), (.int v6_22c)]))
                      have jn225d : ∀ (v15_225d : Int32) (T_225d : State) (l_225d : List Loc) (X_225d : Stand p l e room_1 s m #[(.int p0), (.int p1), (.int p2), (.int p3), (.int p4)] below meth c T_225d l_225d 13 61) (e_225d : T_225d.heap = T62.heap) (N_225d : Fr n0 l_225d), Go p e below s (QL (some (.int (F0_225d p0 w0_53 w0_112 v15_225d))) n0) room_1.cells room_1.slots (T_225d.setTop (mkF m 225 #[.val (.int p0), .val (.int p1), .val (.int p2), .val (.int p3), .val (.int p4), .val (.int (2 : Int32)), .val (.int v6_22c), .val (.int (((p4.toUInt32 >>> ((4 : Int32) &&& 31).toUInt32).toInt32) &&& (3 : Int32))), .val (.int (((p4.toUInt32 >>> ((6 : Int32) &&& 31).toUInt32).toInt32) &&& (3 : Int32))), .val (.int p0), .val (.int w0_53), .val (.int w0_77), .val (.int w0_112), .val (.ref b40), .val (.int (F9 (0 : Int32) w0_112 [p0, w0_53, w0_112, (0 : Int32), (0 : Int32), (0 : Int32), (0 : Int32), (0 : Int32)] [(0 : Int32), (2 : Int32)] [(2 : Int32), (1 : Int32)])), .val (.int v15_225d)] [])) := by
                        intro v15_225d T_225d l_225d X_225d e_225d N_225d
                        unfold F0_225d
                        refine Go.of (fun t k => XS.iload X_225d.here hx rfl (hb hby at_225) rfl k) ?_
                        refine Go.of (fun t k => XS.iload X_225d.here hx rfl (hb hby at_227) rfl k) ?_
                        show Go p e below s _ _ _ (T_225d.setTop (mkF m 229 #[.val (.int p0), .val (.int p1), .val (.int p2), .val (.int p3), .val (.int p4), .val (.int (2 : Int32)), .val (.int v6_22c), .val (.int (((p4.toUInt32 >>> ((4 : Int32) &&& 31).toUInt32).toInt32) &&& (3 : Int32))), .val (.int (((p4.toUInt32 >>> ((6 : Int32) &&& 31).toUInt32).toInt32) &&& (3 : Int32))), .val (.int p0), .val (.int w0_53), .val (.int w0_77), .val (.int w0_112), .val (.ref b40), .val (.int (F9 (0 : Int32) w0_112 [p0, w0_53, w0_112, (0 : Int32), (0 : Int32), (0 : Int32), (0 : Int32), (0 : Int32)] [(0 : Int32), (2 : Int32)] [(2 : Int32), (1 : Int32)])), .val (.int v15_225d)] [(.int w0_112), (.int p0)]))
                        have jn235d : ∀ (v15_235d : Int32) (T_235d : State) (l_235d : List Loc) (X_235d : Stand p l e room_1 s m #[(.int p0), (.int p1), (.int p2), (.int p3), (.int p4)] below meth c T_235d l_235d 13 61) (e_235d : T_235d.heap = T62.heap) (N_235d : Fr n0 l_235d), Go p e below s (QL (some (.int (F0_235d p0 w0_53 w0_112 v15_235d))) n0) room_1.cells room_1.slots (T_235d.setTop (mkF m 235 #[.val (.int p0), .val (.int p1), .val (.int p2), .val (.int p3), .val (.int p4), .val (.int (2 : Int32)), .val (.int v6_22c), .val (.int (((p4.toUInt32 >>> ((4 : Int32) &&& 31).toUInt32).toInt32) &&& (3 : Int32))), .val (.int (((p4.toUInt32 >>> ((6 : Int32) &&& 31).toUInt32).toInt32) &&& (3 : Int32))), .val (.int p0), .val (.int w0_53), .val (.int w0_77), .val (.int w0_112), .val (.ref b40), .val (.int (F9 (0 : Int32) w0_112 [p0, w0_53, w0_112, (0 : Int32), (0 : Int32), (0 : Int32), (0 : Int32), (0 : Int32)] [(0 : Int32), (2 : Int32)] [(2 : Int32), (1 : Int32)])), .val (.int v15_235d)] [])) := by
                          intro v15_235d T_235d l_235d X_235d e_235d N_235d
                          unfold F0_235d
                          refine Go.of (fun t k => XS.iload X_235d.here hx rfl (hb hby at_235) rfl k) ?_
                          refine Go.of (fun t k => XS.iload X_235d.here hx rfl (hb hby at_237) rfl k) ?_
                          show Go p e below s _ _ _ (T_235d.setTop (mkF m 239 #[.val (.int p0), .val (.int p1), .val (.int p2), .val (.int p3), .val (.int p4), .val (.int (2 : Int32)), .val (.int v6_22c), .val (.int (((p4.toUInt32 >>> ((4 : Int32) &&& 31).toUInt32).toInt32) &&& (3 : Int32))), .val (.int (((p4.toUInt32 >>> ((6 : Int32) &&& 31).toUInt32).toInt32) &&& (3 : Int32))), .val (.int p0), .val (.int w0_53), .val (.int w0_77), .val (.int w0_112), .val (.ref b40), .val (.int (F9 (0 : Int32) w0_112 [p0, w0_53, w0_112, (0 : Int32), (0 : Int32), (0 : Int32), (0 : Int32), (0 : Int32)] [(0 : Int32), (2 : Int32)] [(2 : Int32), (1 : Int32)])), .val (.int v15_235d)] [(.int v15_235d), (.int (F9 (0 : Int32) w0_112 [p0, w0_53, w0_112, (0 : Int32), (0 : Int32), (0 : Int32), (0 : Int32), (0 : Int32)] [(0 : Int32), (2 : Int32)] [(2 : Int32), (1 : Int32)]))]))
                          by_cases hc239_67 : (F9 (0 : Int32) w0_112 [p0, w0_53, w0_112, (0 : Int32), (0 : Int32), (0 : Int32), (0 : Int32), (0 : Int32)] [(0 : Int32), (2 : Int32)] [(2 : Int32), (1 : Int32)]) = v15_235d
                          · rewrite [if_pos hc239_67]
                            refine Go.of (fun t k => XS.icmpNo X_235d.here hx rfl (hb hby at_239) rfl (teq hc239_67).2 k) ?_
                            show Go p e below s _ _ _ (T_235d.setTop (mkF m 242 #[.val (.int p0), .val (.int p1), .val (.int p2), .val (.int p3), .val (.int p4), .val (.int (2 : Int32)), .val (.int v6_22c), .val (.int (((p4.toUInt32 >>> ((4 : Int32) &&& 31).toUInt32).toInt32) &&& (3 : Int32))), .val (.int (((p4.toUInt32 >>> ((6 : Int32) &&& 31).toUInt32).toInt32) &&& (3 : Int32))), .val (.int p0), .val (.int w0_53), .val (.int w0_77), .val (.int w0_112), .val (.ref b40), .val (.int (F9 (0 : Int32) w0_112 [p0, w0_53, w0_112, (0 : Int32), (0 : Int32), (0 : Int32), (0 : Int32), (0 : Int32)] [(0 : Int32), (2 : Int32)] [(2 : Int32), (1 : Int32)])), .val (.int v15_235d)] []))
                            refine Go.of (fun t k => XS.iconst X_235d.here hx rfl (hb hby at_242) k) ?_
                            refine Go.of (fun t k => XS.goto X_235d.here hx rfl (pc0 := 243) (pc' := 247) rfl (hb hby at_243) (by decide) (by decide) k) ?_
                            show Go p e below s _ _ _ (T_235d.setTop (mkF m 247 #[.val (.int p0), .val (.int p1), .val (.int p2), .val (.int p3), .val (.int p4), .val (.int (2 : Int32)), .val (.int v6_22c), .val (.int (((p4.toUInt32 >>> ((4 : Int32) &&& 31).toUInt32).toInt32) &&& (3 : Int32))), .val (.int (((p4.toUInt32 >>> ((6 : Int32) &&& 31).toUInt32).toInt32) &&& (3 : Int32))), .val (.int p0), .val (.int w0_53), .val (.int w0_77), .val (.int w0_112), .val (.ref b40), .val (.int (F9 (0 : Int32) w0_112 [p0, w0_53, w0_112, (0 : Int32), (0 : Int32), (0 : Int32), (0 : Int32), (0 : Int32)] [(0 : Int32), (2 : Int32)] [(2 : Int32), (1 : Int32)])), .val (.int v15_235d)] [(.int (1 : Int32))]))
                            exact Go.ret X_235d (some (.int (1 : Int32))) (fun h => by rw [Bd.returns] at h; cases h) hlk ⟨rfl, N_235d⟩ (by decide) (by decide) (fun fs hr => (retN X_235d hx (t := .boolean) Bd.returns (by simp) (hb hby at_247) hr))
                          · rewrite [if_neg hc239_67]
                            refine Go.of (fun t k => XS.icmpYes X_235d.here hx rfl (pc0 := 239) (pc' := 246) rfl (hb hby at_239) rfl (feq hc239_67).2 (by decide) (by decide) k) ?_
                            show Go p e below s _ _ _ (T_235d.setTop (mkF m 246 #[.val (.int p0), .val (.int p1), .val (.int p2), .val (.int p3), .val (.int p4), .val (.int (2 : Int32)), .val (.int v6_22c), .val (.int (((p4.toUInt32 >>> ((4 : Int32) &&& 31).toUInt32).toInt32) &&& (3 : Int32))), .val (.int (((p4.toUInt32 >>> ((6 : Int32) &&& 31).toUInt32).toInt32) &&& (3 : Int32))), .val (.int p0), .val (.int w0_53), .val (.int w0_77), .val (.int w0_112), .val (.ref b40), .val (.int (F9 (0 : Int32) w0_112 [p0, w0_53, w0_112, (0 : Int32), (0 : Int32), (0 : Int32), (0 : Int32), (0 : Int32)] [(0 : Int32), (2 : Int32)] [(2 : Int32), (1 : Int32)])), .val (.int v15_235d)] []))
                            refine Go.of (fun t k => XS.iconst X_235d.here hx rfl (hb hby at_246) k) ?_
                            show Go p e below s _ _ _ (T_235d.setTop (mkF m 247 #[.val (.int p0), .val (.int p1), .val (.int p2), .val (.int p3), .val (.int p4), .val (.int (2 : Int32)), .val (.int v6_22c), .val (.int (((p4.toUInt32 >>> ((4 : Int32) &&& 31).toUInt32).toInt32) &&& (3 : Int32))), .val (.int (((p4.toUInt32 >>> ((6 : Int32) &&& 31).toUInt32).toInt32) &&& (3 : Int32))), .val (.int p0), .val (.int w0_53), .val (.int w0_77), .val (.int w0_112), .val (.ref b40), .val (.int (F9 (0 : Int32) w0_112 [p0, w0_53, w0_112, (0 : Int32), (0 : Int32), (0 : Int32), (0 : Int32), (0 : Int32)] [(0 : Int32), (2 : Int32)] [(2 : Int32), (1 : Int32)])), .val (.int v15_235d)] [(.int (0 : Int32))]))
                            exact Go.ret X_235d (some (.int (0 : Int32))) (fun h => by rw [Bd.returns] at h; cases h) hlk ⟨rfl, N_235d⟩ (by decide) (by decide) (fun fs hr => (retN X_235d hx (t := .boolean) Bd.returns (by simp) (hb hby at_247) hr))
                        by_cases hc229_68 : p0 = w0_112
                        · rewrite [if_pos hc229_68]
                          refine Go.of (fun t k => XS.icmpNo X_225d.here hx rfl (hb hby at_229) rfl (teq hc229_68).2 k) ?_
                          show Go p e below s _ _ _ (T_225d.setTop (mkF m 232 #[.val (.int p0), .val (.int p1), .val (.int p2), .val (.int p3), .val (.int p4), .val (.int (2 : Int32)), .val (.int v6_22c), .val (.int (((p4.toUInt32 >>> ((4 : Int32) &&& 31).toUInt32).toInt32) &&& (3 : Int32))), .val (.int (((p4.toUInt32 >>> ((6 : Int32) &&& 31).toUInt32).toInt32) &&& (3 : Int32))), .val (.int p0), .val (.int w0_53), .val (.int w0_77), .val (.int w0_112), .val (.ref b40), .val (.int (F9 (0 : Int32) w0_112 [p0, w0_53, w0_112, (0 : Int32), (0 : Int32), (0 : Int32), (0 : Int32), (0 : Int32)] [(0 : Int32), (2 : Int32)] [(2 : Int32), (1 : Int32)])), .val (.int v15_225d)] []))
                          refine Go.of (fun t k => XS.iconst X_225d.here hx rfl (hb hby at_232) k) ?_
                          refine Go.of (fun t k => XS.istore X_225d.here hx rfl (hb hby at_233) rfl (l' := #[.val (.int p0), .val (.int p1), .val (.int p2), .val (.int p3), .val (.int p4), .val (.int (2 : Int32)), .val (.int v6_22c), .val (.int (((p4.toUInt32 >>> ((4 : Int32) &&& 31).toUInt32).toInt32) &&& (3 : Int32))), .val (.int (((p4.toUInt32 >>> ((6 : Int32) &&& 31).toUInt32).toInt32) &&& (3 : Int32))), .val (.int p0), .val (.int w0_53), .val (.int w0_77), .val (.int w0_112), .val (.ref b40), .val (.int (F9 (0 : Int32) w0_112 [p0, w0_53, w0_112, (0 : Int32), (0 : Int32), (0 : Int32), (0 : Int32), (0 : Int32)] [(0 : Int32), (2 : Int32)] [(2 : Int32), (1 : Int32)])), .val (.int (0 : Int32))]) rfl k) ?_
                          show Go p e below s _ _ _ (T_225d.setTop (mkF m 235 #[.val (.int p0), .val (.int p1), .val (.int p2), .val (.int p3), .val (.int p4), .val (.int (2 : Int32)), .val (.int v6_22c), .val (.int (((p4.toUInt32 >>> ((4 : Int32) &&& 31).toUInt32).toInt32) &&& (3 : Int32))), .val (.int (((p4.toUInt32 >>> ((6 : Int32) &&& 31).toUInt32).toInt32) &&& (3 : Int32))), .val (.int p0), .val (.int w0_53), .val (.int w0_77), .val (.int w0_112), .val (.ref b40), .val (.int (F9 (0 : Int32) w0_112 [p0, w0_53, w0_112, (0 : Int32), (0 : Int32), (0 : Int32), (0 : Int32), (0 : Int32)] [(0 : Int32), (2 : Int32)] [(2 : Int32), (1 : Int32)])), .val (.int (0 : Int32))] []))
                          exact jn235d (0 : Int32)  T_225d _ X_225d e_225d N_225d  
                        · rewrite [if_neg hc229_68]
                          refine Go.of (fun t k => XS.icmpYes X_225d.here hx rfl (pc0 := 229) (pc' := 235) rfl (hb hby at_229) rfl (feq hc229_68).2 (by decide) (by decide) k) ?_
                          show Go p e below s _ _ _ (T_225d.setTop (mkF m 235 #[.val (.int p0), .val (.int p1), .val (.int p2), .val (.int p3), .val (.int p4), .val (.int (2 : Int32)), .val (.int v6_22c), .val (.int (((p4.toUInt32 >>> ((4 : Int32) &&& 31).toUInt32).toInt32) &&& (3 : Int32))), .val (.int (((p4.toUInt32 >>> ((6 : Int32) &&& 31).toUInt32).toInt32) &&& (3 : Int32))), .val (.int p0), .val (.int w0_53), .val (.int w0_77), .val (.int w0_112), .val (.ref b40), .val (.int (F9 (0 : Int32) w0_112 [p0, w0_53, w0_112, (0 : Int32), (0 : Int32), (0 : Int32), (0 : Int32), (0 : Int32)] [(0 : Int32), (2 : Int32)] [(2 : Int32), (1 : Int32)])), .val (.int v15_225d)] []))
                          exact jn235d v15_225d  T_225d _ X_225d e_225d N_225d  
                      refine Go.of (fun t k => XS.icmpNo X_209d.here hx rfl (hb hby at_212) rfl (flt hc148_57).1 k) ?_
                      show Go p e below s _ _ _ (T_209d.setTop (mkF m 215 #[.val (.int p0), .val (.int p1), .val (.int p2), .val (.int p3), .val (.int p4), .val (.int (2 : Int32)), .val (.int v6_22c), .val (.int (((p4.toUInt32 >>> ((4 : Int32) &&& 31).toUInt32).toInt32) &&& (3 : Int32))), .val (.int (((p4.toUInt32 >>> ((6 : Int32) &&& 31).toUInt32).toInt32) &&& (3 : Int32))), .val (.int p0), .val (.int w0_53), .val (.int w0_77), .val (.int w0_112), .val (.ref b40), .val (.int (F9 (0 : Int32) w0_112 [p0, w0_53, w0_112, (0 : Int32), (0 : Int32), (0 : Int32), (0 : Int32), (0 : Int32)] [(0 : Int32), (2 : Int32)] [(2 : Int32), (1 : Int32)])), .val (.int v15_209d)] []))
                      refine Go.of (fun t k => XS.iload X_209d.here hx rfl (hb hby at_215) rfl k) ?_
                      refine Go.of (fun t k => XS.iload X_209d.here hx rfl (hb hby at_217) rfl k) ?_
                      show Go p e below s _ _ _ (T_209d.setTop (mkF m 219 #[.val (.int p0), .val (.int p1), .val (.int p2), .val (.int p3), .val (.int p4), .val (.int (2 : Int32)), .val (.int v6_22c), .val (.int (((p4.toUInt32 >>> ((4 : Int32) &&& 31).toUInt32).toInt32) &&& (3 : Int32))), .val (.int (((p4.toUInt32 >>> ((6 : Int32) &&& 31).toUInt32).toInt32) &&& (3 : Int32))), .val (.int p0), .val (.int w0_53), .val (.int w0_77), .val (.int w0_112), .val (.ref b40), .val (.int (F9 (0 : Int32) w0_112 [p0, w0_53, w0_112, (0 : Int32), (0 : Int32), (0 : Int32), (0 : Int32), (0 : Int32)] [(0 : Int32), (2 : Int32)] [(2 : Int32), (1 : Int32)])), .val (.int v15_209d)] [(.int w0_112), (.int w0_53)]))
                      by_cases hc219_69 : w0_53 = w0_112
                      · rewrite [if_pos hc219_69]
                        refine Go.of (fun t k => XS.icmpNo X_209d.here hx rfl (hb hby at_219) rfl (teq hc219_69).2 k) ?_
                        show Go p e below s _ _ _ (T_209d.setTop (mkF m 222 #[.val (.int p0), .val (.int p1), .val (.int p2), .val (.int p3), .val (.int p4), .val (.int (2 : Int32)), .val (.int v6_22c), .val (.int (((p4.toUInt32 >>> ((4 : Int32) &&& 31).toUInt32).toInt32) &&& (3 : Int32))), .val (.int (((p4.toUInt32 >>> ((6 : Int32) &&& 31).toUInt32).toInt32) &&& (3 : Int32))), .val (.int p0), .val (.int w0_53), .val (.int w0_77), .val (.int w0_112), .val (.ref b40), .val (.int (F9 (0 : Int32) w0_112 [p0, w0_53, w0_112, (0 : Int32), (0 : Int32), (0 : Int32), (0 : Int32), (0 : Int32)] [(0 : Int32), (2 : Int32)] [(2 : Int32), (1 : Int32)])), .val (.int v15_209d)] []))
                        refine Go.of (fun t k => XS.iconst X_209d.here hx rfl (hb hby at_222) k) ?_
                        refine Go.of (fun t k => XS.istore X_209d.here hx rfl (hb hby at_223) rfl (l' := #[.val (.int p0), .val (.int p1), .val (.int p2), .val (.int p3), .val (.int p4), .val (.int (2 : Int32)), .val (.int v6_22c), .val (.int (((p4.toUInt32 >>> ((4 : Int32) &&& 31).toUInt32).toInt32) &&& (3 : Int32))), .val (.int (((p4.toUInt32 >>> ((6 : Int32) &&& 31).toUInt32).toInt32) &&& (3 : Int32))), .val (.int p0), .val (.int w0_53), .val (.int w0_77), .val (.int w0_112), .val (.ref b40), .val (.int (F9 (0 : Int32) w0_112 [p0, w0_53, w0_112, (0 : Int32), (0 : Int32), (0 : Int32), (0 : Int32), (0 : Int32)] [(0 : Int32), (2 : Int32)] [(2 : Int32), (1 : Int32)])), .val (.int (1 : Int32))]) rfl k) ?_
                        show Go p e below s _ _ _ (T_209d.setTop (mkF m 225 #[.val (.int p0), .val (.int p1), .val (.int p2), .val (.int p3), .val (.int p4), .val (.int (2 : Int32)), .val (.int v6_22c), .val (.int (((p4.toUInt32 >>> ((4 : Int32) &&& 31).toUInt32).toInt32) &&& (3 : Int32))), .val (.int (((p4.toUInt32 >>> ((6 : Int32) &&& 31).toUInt32).toInt32) &&& (3 : Int32))), .val (.int p0), .val (.int w0_53), .val (.int w0_77), .val (.int w0_112), .val (.ref b40), .val (.int (F9 (0 : Int32) w0_112 [p0, w0_53, w0_112, (0 : Int32), (0 : Int32), (0 : Int32), (0 : Int32), (0 : Int32)] [(0 : Int32), (2 : Int32)] [(2 : Int32), (1 : Int32)])), .val (.int (1 : Int32))] []))
                        exact jn225d (1 : Int32)  T_209d _ X_209d e_209d N_209d  
                      · rewrite [if_neg hc219_69]
                        refine Go.of (fun t k => XS.icmpYes X_209d.here hx rfl (pc0 := 219) (pc' := 225) rfl (hb hby at_219) rfl (feq hc219_69).2 (by decide) (by decide) k) ?_
                        show Go p e below s _ _ _ (T_209d.setTop (mkF m 225 #[.val (.int p0), .val (.int p1), .val (.int p2), .val (.int p3), .val (.int p4), .val (.int (2 : Int32)), .val (.int v6_22c), .val (.int (((p4.toUInt32 >>> ((4 : Int32) &&& 31).toUInt32).toInt32) &&& (3 : Int32))), .val (.int (((p4.toUInt32 >>> ((6 : Int32) &&& 31).toUInt32).toInt32) &&& (3 : Int32))), .val (.int p0), .val (.int w0_53), .val (.int w0_77), .val (.int w0_112), .val (.ref b40), .val (.int (F9 (0 : Int32) w0_112 [p0, w0_53, w0_112, (0 : Int32), (0 : Int32), (0 : Int32), (0 : Int32), (0 : Int32)] [(0 : Int32), (2 : Int32)] [(2 : Int32), (1 : Int32)])), .val (.int v15_209d)] []))
                        exact jn225d v15_209d  T_209d _ X_209d e_209d N_209d  
                    refine Go.of (fun t k => XS.icmpYes X66.here hx rfl (pc0 := 196) (pc' := 209) rfl (hb hby at_196) rfl (tlt hc165_65).1 (by decide) (by decide) k) ?_
                    show Go p e below s _ _ _ (T66.setTop (mkF m 209 #[.val (.int p0), .val (.int p1), .val (.int p2), .val (.int p3), .val (.int p4), .val (.int (2 : Int32)), .val (.int v6_22c), .val (.int (((p4.toUInt32 >>> ((4 : Int32) &&& 31).toUInt32).toInt32) &&& (3 : Int32))), .val (.int (((p4.toUInt32 >>> ((6 : Int32) &&& 31).toUInt32).toInt32) &&& (3 : Int32))), .val (.int p0), .val (.int w0_53), .val (.int w0_77), .val (.int w0_112), .val (.ref b40), .val (.int (F9 (0 : Int32) w0_112 [p0, w0_53, w0_112, (0 : Int32), (0 : Int32), (0 : Int32), (0 : Int32), (0 : Int32)] [(0 : Int32), (2 : Int32)] [(2 : Int32), (1 : Int32)])), .val (.int v6_22c)] []))
                    exact jn209d v6_22c  T66 _ X66 e66 N66  
                  · rewrite [if_neg hc165_65]
                    refine Go.of (fun t k => XS.icmpNo X62.here hx rfl (hb hby at_165) rfl (flt hc165_65).1 k) ?_
                    show Go p e below s _ _ _ (T62.setTop (mkF m 168 #[.val (.int p0), .val (.int p1), .val (.int p2), .val (.int p3), .val (.int p4), .val (.int (2 : Int32)), .val (.int v6_22c), .val (.int (((p4.toUInt32 >>> ((4 : Int32) &&& 31).toUInt32).toInt32) &&& (3 : Int32))), .val (.int (((p4.toUInt32 >>> ((6 : Int32) &&& 31).toUInt32).toInt32) &&& (3 : Int32))), .val (.int p0), .val (.int w0_53), .val (.int w0_77), .val (.int w0_112), .val (.ref b40), .unset, .unset] []))
                    refine Go.of (fun t k => XS.aload X62.here hx rfl (hb hby at_168) rfl rfl k) ?_
                    refine Go.of (fun t k => XS.iconst X62.here hx rfl (hb hby at_170) k) ?_
                    refine Go.of (fun t k => XS.iconst X62.here hx rfl (hb hby at_171) k) ?_
                    refine Go.of (fun t k => XS.iload X62.here hx rfl (hb hby at_172) rfl k) ?_
                    refine Go.of (fun t k => XS.iconst X62.here hx rfl (hb hby at_174) k) ?_
                    refine Go.of (fun t k => XS.iconst X62.here hx rfl (hb hby at_175) k) ?_
                    show Go p e below s _ _ _ (T62.setTop (mkF m 176 #[.val (.int p0), .val (.int p1), .val (.int p2), .val (.int p3), .val (.int p4), .val (.int (2 : Int32)), .val (.int v6_22c), .val (.int (((p4.toUInt32 >>> ((4 : Int32) &&& 31).toUInt32).toInt32) &&& (3 : Int32))), .val (.int (((p4.toUInt32 >>> ((6 : Int32) &&& 31).toUInt32).toInt32) &&& (3 : Int32))), .val (.int p0), .val (.int w0_53), .val (.int w0_77), .val (.int w0_112), .val (.ref b40), .unset, .unset] [(.int (1 : Int32)), (.int (0 : Int32)), (.int w0_77), (.int (2 : Int32)), (.int (0 : Int32)), (.ref b40)]))
                    obtain ⟨cq70, kq70, q70a, q70b, q70c⟩ := isOf hZ rfl E_64
                    obtain ⟨_, _, ⟨T70, L70, k70, n70⟩, -, X70, ⟨Lc70, hQ70, l70, y70, z70⟩, st70⟩ := X62.virtualBack hx (y := (⟨"com/example/susurrus/susurrus/KnownUnits", "keep", "(IIIII)V"⟩ : MethodName)) (z := (⟨"com/example/susurrus/susurrus/KnownUnits", "keep", "(IIIII)V"⟩ : MethodName)) hown (mvT hZ (hw _ (List.mem_of_getElem? (i := 59) rfl))) (mvT hZ (hw _ (List.mem_of_getElem? (i := 60) rfl))) (notFace_of_selects (args := #[]) (mvT hZ (hw _ (List.mem_of_getElem? (i := 62) rfl)))) (mvT hZ (hw _ (List.mem_of_getElem? (i := 62) rfl))) (mvT hZ (hw _ (List.mem_of_getElem? (i := 61) rfl))) (by decide) (backOf (W := 0) (rm10A l Z az hw [] b40 (0 : Int32) (2 : Int32) w0_77 (0 : Int32) (1 : Int32) bu63 bg63 bd63 xt49 xr49 xc49 ku63 kg63 kd63 kxt49 kxr49 kxc49 (4 : Int32) [p0, w0_53, w0_112, (0 : Int32), (0 : Int32), (0 : Int32), (0 : Int32), (0 : Int32)] [(0 : Int32), (0 : Int32), (0 : Int32), (0 : Int32), (0 : Int32), (0 : Int32), (0 : Int32), (0 : Int32)] [(-1 : Int32), (0 : Int32), (-1 : Int32), (0 : Int32), (0 : Int32), (0 : Int32), (0 : Int32), (0 : Int32)] [(0 : Int32), (2 : Int32)] [(2 : Int32), (1 : Int32)] [(2 : Int32), (1 : Int32)] (3 : Int32) T62.heap n0 Zk64 ⟨E_64, Ff0_64, Ff1_64, Ff2_64, Ff3_64, Ff4_64, Ff5_64, Ff6_64, Vv0_64, Vv1_64, Vv2_64, Vv3_64, Vv4_64, Vv5_64, g_b40, g_bu63, g_bg63, g_bd63, g_xt49, g_xr49, g_xc49, Zk64, ne_0_1_64, ne_0_2_64, ne_0_3_64, ne_0_4_64, ne_0_5_64, ne_0_6_64, ne_1_2_64, ne_1_3_64, ne_1_4_64, ne_1_5_64, ne_1_6_64, ne_2_3_64, ne_2_4_64, ne_2_5_64, ne_2_6_64, ne_3_4_64, ne_3_5_64, ne_3_6_64, ne_4_5_64, ne_4_6_64, ne_5_6_64⟩ (by decide) (by decide) (by decide) (by decide) (by decide) (by decide) (by decide) (by decide)) hZ (hw _ (List.mem_of_getElem? (i := 63) rfl)) (hw _ (List.mem_of_getElem? (i := 6) rfl)) (by decide) (by decide)) q70a q70c (g := (mkF m 176 #[.val (.int p0), .val (.int p1), .val (.int p2), .val (.int p3), .val (.int p4), .val (.int (2 : Int32)), .val (.int v6_22c), .val (.int (((p4.toUInt32 >>> ((4 : Int32) &&& 31).toUInt32).toInt32) &&& (3 : Int32))), .val (.int (((p4.toUInt32 >>> ((6 : Int32) &&& 31).toUInt32).toInt32) &&& (3 : Int32))), .val (.int p0), .val (.int w0_53), .val (.int w0_77), .val (.int w0_112), .val (.ref b40), .unset, .unset] [(.int (1 : Int32)), (.int (0 : Int32)), (.int w0_77), (.int (2 : Int32)), (.int (0 : Int32)), (.ref b40)])) rfl (by rw [hml]; rfl) (Steps.refl _) (argsL := [(.int (0 : Int32)), (.int (2 : Int32)), (.int w0_77), (.int (0 : Int32)), (.int (1 : Int32))]) (rest := []) (lenOf own_pd7 rfl) rfl (by show 2 * 0 + _ ≤ _; exact Nat.le_of_eq rfl) (hb hby at_176) (fun _ _ => ⟨rfl, rfl, (by decide : 13 + 3 ≤ _), (by decide : 61 + 24 ≤ _)⟩)
                    dsimp only [Pt.U, Pt.locs, Pt.cells, Pt.slots] at X70 l70 y70 z70 st70 hQ70
                    subst l70 y70 z70
                    obtain ⟨rfl, N70q, bu71, bg71, bd71, ku71, kg71, kd71, hK71⟩ := hQ70
                    have N70 := Fr.app N62 N70q
                    have hS71 : own_K Z T70.heap n0 b40 bu71 bg71 bd71 xt49 xr49 xc49 ku71 kg71 kd71 kxt49 kxr49 kxc49 (8 : Int32) [p0, w0_53, w0_112, p0, w0_53, w0_77, (0 : Int32), (0 : Int32)] [(0 : Int32), (0 : Int32), (0 : Int32), (0 : Int32), (0 : Int32), (0 : Int32), (0 : Int32), (0 : Int32)] [(-1 : Int32), (0 : Int32), (-1 : Int32), (-1 : Int32), (0 : Int32), (1 : Int32), (0 : Int32), (0 : Int32)] [(3 : Int32), (2 : Int32)] [(4 : Int32), (1 : Int32)] [(3 : Int32), (1 : Int32)] (7 : Int32) := hK71
                    obtain ⟨E_72, Ff0_72, Ff1_72, Ff2_72, Ff3_72, Ff4_72, Ff5_72, Ff6_72, Vv0_72, Vv1_72, Vv2_72, Vv3_72, Vv4_72, Vv5_72, g_b40, g_bu71, g_bg71, g_bd71, g_xt49, g_xr49, g_xc49, Zk72, ne_0_1_72, ne_0_2_72, ne_0_3_72, ne_0_4_72, ne_0_5_72, ne_0_6_72, ne_1_2_72, ne_1_3_72, ne_1_4_72, ne_1_5_72, ne_1_6_72, ne_2_3_72, ne_2_4_72, ne_2_5_72, ne_2_6_72, ne_3_4_72, ne_3_5_72, ne_3_6_72, ne_4_5_72, ne_4_6_72, ne_5_6_72⟩ := id hS71
                    refine Go.of (fun t k => st70.trans k) ?_
                    show Go p e below s _ _ _ (T70.setTop (mkF m 179 #[.val (.int p0), .val (.int p1), .val (.int p2), .val (.int p3), .val (.int p4), .val (.int (2 : Int32)), .val (.int v6_22c), .val (.int (((p4.toUInt32 >>> ((4 : Int32) &&& 31).toUInt32).toInt32) &&& (3 : Int32))), .val (.int (((p4.toUInt32 >>> ((6 : Int32) &&& 31).toUInt32).toInt32) &&& (3 : Int32))), .val (.int p0), .val (.int w0_53), .val (.int w0_77), .val (.int w0_112), .val (.ref b40), .unset, .unset] []))
                    refine Go.of (fun t k => XS.aload X70.here hx rfl (hb hby at_179) rfl rfl k) ?_
                    refine Go.of (fun t k => XS.iconst X70.here hx rfl (hb hby at_181) k) ?_
                    refine Go.of (fun t k => XS.iload X70.here hx rfl (hb hby at_182) rfl k) ?_
                    show Go p e below s _ _ _ (T70.setTop (mkF m 184 #[.val (.int p0), .val (.int p1), .val (.int p2), .val (.int p3), .val (.int p4), .val (.int (2 : Int32)), .val (.int v6_22c), .val (.int (((p4.toUInt32 >>> ((4 : Int32) &&& 31).toUInt32).toInt32) &&& (3 : Int32))), .val (.int (((p4.toUInt32 >>> ((6 : Int32) &&& 31).toUInt32).toInt32) &&& (3 : Int32))), .val (.int p0), .val (.int w0_53), .val (.int w0_77), .val (.int w0_112), .val (.ref b40), .unset, .unset] [(.int w0_112), (.int (0 : Int32)), (.ref b40)]))
                    obtain ⟨cq73, kq73, q73a, q73b, q73c⟩ := isOf hZ rfl E_72
                    obtain ⟨_, _, ⟨T73, L73, k73, n73⟩, -, X73, ⟨Lc73, hQ73, l73, y73, z73⟩, st73⟩ := X70.virtualBack hx (y := (⟨"com/example/susurrus/susurrus/KnownUnits", "find", "(II)I"⟩ : MethodName)) (z := (⟨"com/example/susurrus/susurrus/KnownUnits", "find", "(II)I"⟩ : MethodName)) hown (mvT hZ (hw _ (List.mem_of_getElem? (i := 54) rfl))) (mvT hZ (hw _ (List.mem_of_getElem? (i := 55) rfl))) (notFace_of_selects (args := #[]) (mvT hZ (hw _ (List.mem_of_getElem? (i := 57) rfl)))) (mvT hZ (hw _ (List.mem_of_getElem? (i := 57) rfl))) (mvT hZ (hw _ (List.mem_of_getElem? (i := 56) rfl))) (by decide) (backOf (W := 0) (rm9 l Z az hw [] b40 (0 : Int32) w0_112 bu71 bg71 bd71 xt49 xr49 xc49 ku71 kg71 kd71 kxt49 kxr49 kxc49 (8 : Int32) [p0, w0_53, w0_112, p0, w0_53, w0_77, (0 : Int32), (0 : Int32)] [(0 : Int32), (0 : Int32), (0 : Int32), (0 : Int32), (0 : Int32), (0 : Int32), (0 : Int32), (0 : Int32)] [(-1 : Int32), (0 : Int32), (-1 : Int32), (-1 : Int32), (0 : Int32), (1 : Int32), (0 : Int32), (0 : Int32)] [(3 : Int32), (2 : Int32)] [(4 : Int32), (1 : Int32)] [(3 : Int32), (1 : Int32)] (7 : Int32) T70.heap n0 Zk72 ⟨E_72, Ff0_72, Ff1_72, Ff2_72, Ff3_72, Ff4_72, Ff5_72, Ff6_72, Vv0_72, Vv1_72, Vv2_72, Vv3_72, Vv4_72, Vv5_72, g_b40, g_bu71, g_bg71, g_bd71, g_xt49, g_xr49, g_xc49, Zk72, ne_0_1_72, ne_0_2_72, ne_0_3_72, ne_0_4_72, ne_0_5_72, ne_0_6_72, ne_1_2_72, ne_1_3_72, ne_1_4_72, ne_1_5_72, ne_1_6_72, ne_2_3_72, ne_2_4_72, ne_2_5_72, ne_2_6_72, ne_3_4_72, ne_3_5_72, ne_3_6_72, ne_4_5_72, ne_4_6_72, ne_5_6_72⟩ (by decide) (by decide)) hZ (hw _ (List.mem_of_getElem? (i := 58) rfl)) (hw _ (List.mem_of_getElem? (i := 6) rfl)) (by decide) (by decide)) q73a q73c (g := (mkF m 184 #[.val (.int p0), .val (.int p1), .val (.int p2), .val (.int p3), .val (.int p4), .val (.int (2 : Int32)), .val (.int v6_22c), .val (.int (((p4.toUInt32 >>> ((4 : Int32) &&& 31).toUInt32).toInt32) &&& (3 : Int32))), .val (.int (((p4.toUInt32 >>> ((6 : Int32) &&& 31).toUInt32).toInt32) &&& (3 : Int32))), .val (.int p0), .val (.int w0_53), .val (.int w0_77), .val (.int w0_112), .val (.ref b40), .unset, .unset] [(.int w0_112), (.int (0 : Int32)), (.ref b40)])) rfl (by rw [hml]; rfl) (Steps.refl _) (argsL := [(.int (0 : Int32)), (.int w0_112)]) (rest := []) (lenOf own_pd0 rfl) rfl (by show 2 * 0 + _ ≤ _; exact Nat.le_of_eq rfl) (hb hby at_184) (fun _ _ => ⟨rfl, rfl, (by decide : 16 + 0 ≤ _), (by decide : 85 + 0 ≤ _)⟩)
                    dsimp only [Pt.U, Pt.locs, Pt.cells, Pt.slots] at X73 l73 y73 z73 st73 hQ73
                    subst l73 y73 z73
                    obtain ⟨rfl, N73q, e73⟩ := hQ73
                    have N73 := Fr.app N70 N73q
                    refine Go.of (fun t k => st73.trans k) ?_
                    show Go p e below s _ _ _ (T73.setTop (mkF m 187 #[.val (.int p0), .val (.int p1), .val (.int p2), .val (.int p3), .val (.int p4), .val (.int (2 : Int32)), .val (.int v6_22c), .val (.int (((p4.toUInt32 >>> ((4 : Int32) &&& 31).toUInt32).toInt32) &&& (3 : Int32))), .val (.int (((p4.toUInt32 >>> ((6 : Int32) &&& 31).toUInt32).toInt32) &&& (3 : Int32))), .val (.int p0), .val (.int w0_53), .val (.int w0_77), .val (.int w0_112), .val (.ref b40), .unset, .unset] [(.int (F9 (0 : Int32) w0_112 [p0, w0_53, w0_112, p0, w0_53, w0_77, (0 : Int32), (0 : Int32)] [(3 : Int32), (2 : Int32)] [(3 : Int32), (1 : Int32)]))]))
                    refine Go.of (fun t k => XS.istore X73.here hx rfl (hb hby at_187) rfl (l' := #[.val (.int p0), .val (.int p1), .val (.int p2), .val (.int p3), .val (.int p4), .val (.int (2 : Int32)), .val (.int v6_22c), .val (.int (((p4.toUInt32 >>> ((4 : Int32) &&& 31).toUInt32).toInt32) &&& (3 : Int32))), .val (.int (((p4.toUInt32 >>> ((6 : Int32) &&& 31).toUInt32).toInt32) &&& (3 : Int32))), .val (.int p0), .val (.int w0_53), .val (.int w0_77), .val (.int w0_112), .val (.ref b40), .val (.int (F9 (0 : Int32) w0_112 [p0, w0_53, w0_112, p0, w0_53, w0_77, (0 : Int32), (0 : Int32)] [(3 : Int32), (2 : Int32)] [(3 : Int32), (1 : Int32)])), .unset]) rfl k) ?_
                    refine Go.of (fun t k => XS.iload X73.here hx rfl (hb hby at_189) rfl k) ?_
                    refine Go.of (fun t k => XS.istore X73.here hx rfl (hb hby at_191) rfl (l' := #[.val (.int p0), .val (.int p1), .val (.int p2), .val (.int p3), .val (.int p4), .val (.int (2 : Int32)), .val (.int v6_22c), .val (.int (((p4.toUInt32 >>> ((4 : Int32) &&& 31).toUInt32).toInt32) &&& (3 : Int32))), .val (.int (((p4.toUInt32 >>> ((6 : Int32) &&& 31).toUInt32).toInt32) &&& (3 : Int32))), .val (.int p0), .val (.int w0_53), .val (.int w0_77), .val (.int w0_112), .val (.ref b40), .val (.int (F9 (0 : Int32) w0_112 [p0, w0_53, w0_112, p0, w0_53, w0_77, (0 : Int32), (0 : Int32)] [(3 : Int32), (2 : Int32)] [(3 : Int32), (1 : Int32)])), .val (.int v6_22c)]) rfl k) ?_
                    refine Go.of (fun t k => XS.iload X73.here hx rfl (hb hby at_193) rfl k) ?_
                    refine Go.of (fun t k => XS.iconst X73.here hx rfl (hb hby at_195) k) ?_
                    show Go p e below s _ _ _ (T73.setTop (mkF m 196 #[.val (.int p0), .val (.int p1), .val (.int p2), .val (.int p3), .val (.int p4), .val (.int (2 : Int32)), .val (.int v6_22c), .val (.int (((p4.toUInt32 >>> ((4 : Int32) &&& 31).toUInt32).toInt32) &&& (3 : Int32))), .val (.int (((p4.toUInt32 >>> ((6 : Int32) &&& 31).toUInt32).toInt32) &&& (3 : Int32))), .val (.int p0), .val (.int w0_53), .val (.int w0_77), .val (.int w0_112), .val (.ref b40), .val (.int (F9 (0 : Int32) w0_112 [p0, w0_53, w0_112, p0, w0_53, w0_77, (0 : Int32), (0 : Int32)] [(3 : Int32), (2 : Int32)] [(3 : Int32), (1 : Int32)])), .val (.int v6_22c)] [(.int (3 : Int32)), (.int v6_22c)]))
                    have jn209e : ∀ (v15_209e : Int32) (T_209e : State) (l_209e : List Loc) (X_209e : Stand p l e room_1 s m #[(.int p0), (.int p1), (.int p2), (.int p3), (.int p4)] below meth c T_209e l_209e 16 85) (e_209e : T_209e.heap = T70.heap) (N_209e : Fr n0 l_209e), Go p e below s (QL (some (.int (F0_209e p0 w0_53 w0_77 w0_112 v15_209e))) n0) room_1.cells room_1.slots (T_209e.setTop (mkF m 209 #[.val (.int p0), .val (.int p1), .val (.int p2), .val (.int p3), .val (.int p4), .val (.int (2 : Int32)), .val (.int v6_22c), .val (.int (((p4.toUInt32 >>> ((4 : Int32) &&& 31).toUInt32).toInt32) &&& (3 : Int32))), .val (.int (((p4.toUInt32 >>> ((6 : Int32) &&& 31).toUInt32).toInt32) &&& (3 : Int32))), .val (.int p0), .val (.int w0_53), .val (.int w0_77), .val (.int w0_112), .val (.ref b40), .val (.int (F9 (0 : Int32) w0_112 [p0, w0_53, w0_112, p0, w0_53, w0_77, (0 : Int32), (0 : Int32)] [(3 : Int32), (2 : Int32)] [(3 : Int32), (1 : Int32)])), .val (.int v15_209e)] [])) := by
                      intro v15_209e T_209e l_209e X_209e e_209e N_209e
                      unfold F0_209e
                      refine Go.of (fun t k => XS.iload X_209e.here hx rfl (hb hby at_209) rfl k) ?_
                      refine Go.of (fun t k => XS.iconst X_209e.here hx rfl (hb hby at_211) k) ?_
                      show Go p e below s _ _ _ (T_209e.setTop (mkF m 212 #[.val (.int p0), .val (.int p1), .val (.int p2), .val (.int p3), .val (.int p4), .val (.int (2 : Int32)), .val (.int v6_22c), .val (.int (((p4.toUInt32 >>> ((4 : Int32) &&& 31).toUInt32).toInt32) &&& (3 : Int32))), .val (.int (((p4.toUInt32 >>> ((6 : Int32) &&& 31).toUInt32).toInt32) &&& (3 : Int32))), .val (.int p0), .val (.int w0_53), .val (.int w0_77), .val (.int w0_112), .val (.ref b40), .val (.int (F9 (0 : Int32) w0_112 [p0, w0_53, w0_112, p0, w0_53, w0_77, (0 : Int32), (0 : Int32)] [(3 : Int32), (2 : Int32)] [(3 : Int32), (1 : Int32)])), .val (.int v15_209e)] [(.int (2 : Int32)), (.int v6_22c)]))
                      have jn225e : ∀ (v15_225e : Int32) (T_225e : State) (l_225e : List Loc) (X_225e : Stand p l e room_1 s m #[(.int p0), (.int p1), (.int p2), (.int p3), (.int p4)] below meth c T_225e l_225e 16 85) (e_225e : T_225e.heap = T70.heap) (N_225e : Fr n0 l_225e), Go p e below s (QL (some (.int (F0_225e p0 w0_53 w0_77 w0_112 v15_225e))) n0) room_1.cells room_1.slots (T_225e.setTop (mkF m 225 #[.val (.int p0), .val (.int p1), .val (.int p2), .val (.int p3), .val (.int p4), .val (.int (2 : Int32)), .val (.int v6_22c), .val (.int (((p4.toUInt32 >>> ((4 : Int32) &&& 31).toUInt32).toInt32) &&& (3 : Int32))), .val (.int (((p4.toUInt32 >>> ((6 : Int32) &&& 31).toUInt32).toInt32) &&& (3 : Int32))), .val (.int p0), .val (.int w0_53), .val (.int w0_77), .val (.int w0_112), .val (.ref b40), .val (.int (F9 (0 : Int32) w0_112 [p0, w0_53, w0_112, p0, w0_53, w0_77, (0 : Int32), (0 : Int32)] [(3 : Int32), (2 : Int32)] [(3 : Int32), (1 : Int32)])), .val (.int v15_225e)] [])) := by
                        intro v15_225e T_225e l_225e X_225e e_225e N_225e
                        unfold F0_225e
                        refine Go.of (fun t k => XS.iload X_225e.here hx rfl (hb hby at_225) rfl k) ?_
                        refine Go.of (fun t k => XS.iload X_225e.here hx rfl (hb hby at_227) rfl k) ?_
                        show Go p e below s _ _ _ (T_225e.setTop (mkF m 229 #[.val (.int p0), .val (.int p1), .val (.int p2), .val (.int p3), .val (.int p4), .val (.int (2 : Int32)), .val (.int v6_22c), .val (.int (((p4.toUInt32 >>> ((4 : Int32) &&& 31).toUInt32).toInt32) &&& (3 : Int32))), .val (.int (((p4.toUInt32 >>> ((6 : Int32) &&& 31).toUInt32).toInt32) &&& (3 : Int32))), .val (.int p0), .val (.int w0_53), .val (.int w0_77), .val (.int w0_112), .val (.ref b40), .val (.int (F9 (0 : Int32) w0_112 [p0, w0_53, w0_112, p0, w0_53, w0_77, (0 : Int32), (0 : Int32)] [(3 : Int32), (2 : Int32)] [(3 : Int32), (1 : Int32)])), .val (.int v15_225e)] [(.int w0_112), (.int p0)]))
                        have jn235e : ∀ (v15_235e : Int32) (T_235e : State) (l_235e : List Loc) (X_235e : Stand p l e room_1 s m #[(.int p0), (.int p1), (.int p2), (.int p3), (.int p4)] below meth c T_235e l_235e 16 85) (e_235e : T_235e.heap = T70.heap) (N_235e : Fr n0 l_235e), Go p e below s (QL (some (.int (F0_235e p0 w0_53 w0_77 w0_112 v15_235e))) n0) room_1.cells room_1.slots (T_235e.setTop (mkF m 235 #[.val (.int p0), .val (.int p1), .val (.int p2), .val (.int p3), .val (.int p4), .val (.int (2 : Int32)), .val (.int v6_22c), .val (.int (((p4.toUInt32 >>> ((4 : Int32) &&& 31).toUInt32).toInt32) &&& (3 : Int32))), .val (.int (((p4.toUInt32 >>> ((6 : Int32) &&& 31).toUInt32).toInt32) &&& (3 : Int32))), .val (.int p0), .val (.int w0_53), .val (.int w0_77), .val (.int w0_112), .val (.ref b40), .val (.int (F9 (0 : Int32) w0_112 [p0, w0_53, w0_112, p0, w0_53, w0_77, (0 : Int32), (0 : Int32)] [(3 : Int32), (2 : Int32)] [(3 : Int32), (1 : Int32)])), .val (.int v15_235e)] [])) := by
                          intro v15_235e T_235e l_235e X_235e e_235e N_235e
                          unfold F0_235e
                          refine Go.of (fun t k => XS.iload X_235e.here hx rfl (hb hby at_235) rfl k) ?_
                          refine Go.of (fun t k => XS.iload X_235e.here hx rfl (hb hby at_237) rfl k) ?_
                          show Go p e below s _ _ _ (T_235e.setTop (mkF m 239 #[.val (.int p0), .val (.int p1), .val (.int p2), .val (.int p3), .val (.int p4), .val (.int (2 : Int32)), .val (.int v6_22c), .val (.int (((p4.toUInt32 >>> ((4 : Int32) &&& 31).toUInt32).toInt32) &&& (3 : Int32))), .val (.int (((p4.toUInt32 >>> ((6 : Int32) &&& 31).toUInt32).toInt32) &&& (3 : Int32))), .val (.int p0), .val (.int w0_53), .val (.int w0_77), .val (.int w0_112), .val (.ref b40), .val (.int (F9 (0 : Int32) w0_112 [p0, w0_53, w0_112, p0, w0_53, w0_77, (0 : Int32), (0 : Int32)] [(3 : Int32), (2 : Int32)] [(3 : Int32), (1 : Int32)])), .val (.int v15_235e)] [(.int v15_235e), (.int (F9 (0 : Int32) w0_112 [p0, w0_53, w0_112, p0, w0_53, w0_77, (0 : Int32), (0 : Int32)] [(3 : Int32), (2 : Int32)] [(3 : Int32), (1 : Int32)]))]))
                          by_cases hc239_74 : (F9 (0 : Int32) w0_112 [p0, w0_53, w0_112, p0, w0_53, w0_77, (0 : Int32), (0 : Int32)] [(3 : Int32), (2 : Int32)] [(3 : Int32), (1 : Int32)]) = v15_235e
                          · rewrite [if_pos hc239_74]
                            refine Go.of (fun t k => XS.icmpNo X_235e.here hx rfl (hb hby at_239) rfl (teq hc239_74).2 k) ?_
                            show Go p e below s _ _ _ (T_235e.setTop (mkF m 242 #[.val (.int p0), .val (.int p1), .val (.int p2), .val (.int p3), .val (.int p4), .val (.int (2 : Int32)), .val (.int v6_22c), .val (.int (((p4.toUInt32 >>> ((4 : Int32) &&& 31).toUInt32).toInt32) &&& (3 : Int32))), .val (.int (((p4.toUInt32 >>> ((6 : Int32) &&& 31).toUInt32).toInt32) &&& (3 : Int32))), .val (.int p0), .val (.int w0_53), .val (.int w0_77), .val (.int w0_112), .val (.ref b40), .val (.int (F9 (0 : Int32) w0_112 [p0, w0_53, w0_112, p0, w0_53, w0_77, (0 : Int32), (0 : Int32)] [(3 : Int32), (2 : Int32)] [(3 : Int32), (1 : Int32)])), .val (.int v15_235e)] []))
                            refine Go.of (fun t k => XS.iconst X_235e.here hx rfl (hb hby at_242) k) ?_
                            refine Go.of (fun t k => XS.goto X_235e.here hx rfl (pc0 := 243) (pc' := 247) rfl (hb hby at_243) (by decide) (by decide) k) ?_
                            show Go p e below s _ _ _ (T_235e.setTop (mkF m 247 #[.val (.int p0), .val (.int p1), .val (.int p2), .val (.int p3), .val (.int p4), .val (.int (2 : Int32)), .val (.int v6_22c), .val (.int (((p4.toUInt32 >>> ((4 : Int32) &&& 31).toUInt32).toInt32) &&& (3 : Int32))), .val (.int (((p4.toUInt32 >>> ((6 : Int32) &&& 31).toUInt32).toInt32) &&& (3 : Int32))), .val (.int p0), .val (.int w0_53), .val (.int w0_77), .val (.int w0_112), .val (.ref b40), .val (.int (F9 (0 : Int32) w0_112 [p0, w0_53, w0_112, p0, w0_53, w0_77, (0 : Int32), (0 : Int32)] [(3 : Int32), (2 : Int32)] [(3 : Int32), (1 : Int32)])), .val (.int v15_235e)] [(.int (1 : Int32))]))
                            exact Go.ret X_235e (some (.int (1 : Int32))) (fun h => by rw [Bd.returns] at h; cases h) hlk ⟨rfl, N_235e⟩ (by decide) (by decide) (fun fs hr => (retN X_235e hx (t := .boolean) Bd.returns (by simp) (hb hby at_247) hr))
                          · rewrite [if_neg hc239_74]
                            refine Go.of (fun t k => XS.icmpYes X_235e.here hx rfl (pc0 := 239) (pc' := 246) rfl (hb hby at_239) rfl (feq hc239_74).2 (by decide) (by decide) k) ?_
                            show Go p e below s _ _ _ (T_235e.setTop (mkF m 246 #[.val (.int p0), .val (.int p1), .val (.int p2), .val (.int p3), .val (.int p4), .val (.int (2 : Int32)), .val (.int v6_22c), .val (.int (((p4.toUInt32 >>> ((4 : Int32) &&& 31).toUInt32).toInt32) &&& (3 : Int32))), .val (.int (((p4.toUInt32 >>> ((6 : Int32) &&& 31).toUInt32).toInt32) &&& (3 : Int32))), .val (.int p0), .val (.int w0_53), .val (.int w0_77), .val (.int w0_112), .val (.ref b40), .val (.int (F9 (0 : Int32) w0_112 [p0, w0_53, w0_112, p0, w0_53, w0_77, (0 : Int32), (0 : Int32)] [(3 : Int32), (2 : Int32)] [(3 : Int32), (1 : Int32)])), .val (.int v15_235e)] []))
                            refine Go.of (fun t k => XS.iconst X_235e.here hx rfl (hb hby at_246) k) ?_
                            show Go p e below s _ _ _ (T_235e.setTop (mkF m 247 #[.val (.int p0), .val (.int p1), .val (.int p2), .val (.int p3), .val (.int p4), .val (.int (2 : Int32)), .val (.int v6_22c), .val (.int (((p4.toUInt32 >>> ((4 : Int32) &&& 31).toUInt32).toInt32) &&& (3 : Int32))), .val (.int (((p4.toUInt32 >>> ((6 : Int32) &&& 31).toUInt32).toInt32) &&& (3 : Int32))), .val (.int p0), .val (.int w0_53), .val (.int w0_77), .val (.int w0_112), .val (.ref b40), .val (.int (F9 (0 : Int32) w0_112 [p0, w0_53, w0_112, p0, w0_53, w0_77, (0 : Int32), (0 : Int32)] [(3 : Int32), (2 : Int32)] [(3 : Int32), (1 : Int32)])), .val (.int v15_235e)] [(.int (0 : Int32))]))
                            exact Go.ret X_235e (some (.int (0 : Int32))) (fun h => by rw [Bd.returns] at h; cases h) hlk ⟨rfl, N_235e⟩ (by decide) (by decide) (fun fs hr => (retN X_235e hx (t := .boolean) Bd.returns (by simp) (hb hby at_247) hr))
                        by_cases hc229_75 : p0 = w0_112
                        · rewrite [if_pos hc229_75]
                          refine Go.of (fun t k => XS.icmpNo X_225e.here hx rfl (hb hby at_229) rfl (teq hc229_75).2 k) ?_
                          show Go p e below s _ _ _ (T_225e.setTop (mkF m 232 #[.val (.int p0), .val (.int p1), .val (.int p2), .val (.int p3), .val (.int p4), .val (.int (2 : Int32)), .val (.int v6_22c), .val (.int (((p4.toUInt32 >>> ((4 : Int32) &&& 31).toUInt32).toInt32) &&& (3 : Int32))), .val (.int (((p4.toUInt32 >>> ((6 : Int32) &&& 31).toUInt32).toInt32) &&& (3 : Int32))), .val (.int p0), .val (.int w0_53), .val (.int w0_77), .val (.int w0_112), .val (.ref b40), .val (.int (F9 (0 : Int32) w0_112 [p0, w0_53, w0_112, p0, w0_53, w0_77, (0 : Int32), (0 : Int32)] [(3 : Int32), (2 : Int32)] [(3 : Int32), (1 : Int32)])), .val (.int v15_225e)] []))
                          refine Go.of (fun t k => XS.iconst X_225e.here hx rfl (hb hby at_232) k) ?_
                          refine Go.of (fun t k => XS.istore X_225e.here hx rfl (hb hby at_233) rfl (l' := #[.val (.int p0), .val (.int p1), .val (.int p2), .val (.int p3), .val (.int p4), .val (.int (2 : Int32)), .val (.int v6_22c), .val (.int (((p4.toUInt32 >>> ((4 : Int32) &&& 31).toUInt32).toInt32) &&& (3 : Int32))), .val (.int (((p4.toUInt32 >>> ((6 : Int32) &&& 31).toUInt32).toInt32) &&& (3 : Int32))), .val (.int p0), .val (.int w0_53), .val (.int w0_77), .val (.int w0_112), .val (.ref b40), .val (.int (F9 (0 : Int32) w0_112 [p0, w0_53, w0_112, p0, w0_53, w0_77, (0 : Int32), (0 : Int32)] [(3 : Int32), (2 : Int32)] [(3 : Int32), (1 : Int32)])), .val (.int (0 : Int32))]) rfl k) ?_
                          show Go p e below s _ _ _ (T_225e.setTop (mkF m 235 #[.val (.int p0), .val (.int p1), .val (.int p2), .val (.int p3), .val (.int p4), .val (.int (2 : Int32)), .val (.int v6_22c), .val (.int (((p4.toUInt32 >>> ((4 : Int32) &&& 31).toUInt32).toInt32) &&& (3 : Int32))), .val (.int (((p4.toUInt32 >>> ((6 : Int32) &&& 31).toUInt32).toInt32) &&& (3 : Int32))), .val (.int p0), .val (.int w0_53), .val (.int w0_77), .val (.int w0_112), .val (.ref b40), .val (.int (F9 (0 : Int32) w0_112 [p0, w0_53, w0_112, p0, w0_53, w0_77, (0 : Int32), (0 : Int32)] [(3 : Int32), (2 : Int32)] [(3 : Int32), (1 : Int32)])), .val (.int (0 : Int32))] []))
                          exact jn235e (0 : Int32)  T_225e _ X_225e e_225e N_225e  
                        · rewrite [if_neg hc229_75]
                          refine Go.of (fun t k => XS.icmpYes X_225e.here hx rfl (pc0 := 229) (pc' := 235) rfl (hb hby at_229) rfl (feq hc229_75).2 (by decide) (by decide) k) ?_
                          show Go p e below s _ _ _ (T_225e.setTop (mkF m 235 #[.val (.int p0), .val (.int p1), .val (.int p2), .val (.int p3), .val (.int p4), .val (.int (2 : Int32)), .val (.int v6_22c), .val (.int (((p4.toUInt32 >>> ((4 : Int32) &&& 31).toUInt32).toInt32) &&& (3 : Int32))), .val (.int (((p4.toUInt32 >>> ((6 : Int32) &&& 31).toUInt32).toInt32) &&& (3 : Int32))), .val (.int p0), .val (.int w0_53), .val (.int w0_77), .val (.int w0_112), .val (.ref b40), .val (.int (F9 (0 : Int32) w0_112 [p0, w0_53, w0_112, p0, w0_53, w0_77, (0 : Int32), (0 : Int32)] [(3 : Int32), (2 : Int32)] [(3 : Int32), (1 : Int32)])), .val (.int v15_225e)] []))
                          exact jn235e v15_225e  T_225e _ X_225e e_225e N_225e  
                      refine Go.of (fun t k => XS.icmpNo X_209e.here hx rfl (hb hby at_212) rfl (flt hc148_57).1 k) ?_
                      show Go p e below s _ _ _ (T_209e.setTop (mkF m 215 #[.val (.int p0), .val (.int p1), .val (.int p2), .val (.int p3), .val (.int p4), .val (.int (2 : Int32)), .val (.int v6_22c), .val (.int (((p4.toUInt32 >>> ((4 : Int32) &&& 31).toUInt32).toInt32) &&& (3 : Int32))), .val (.int (((p4.toUInt32 >>> ((6 : Int32) &&& 31).toUInt32).toInt32) &&& (3 : Int32))), .val (.int p0), .val (.int w0_53), .val (.int w0_77), .val (.int w0_112), .val (.ref b40), .val (.int (F9 (0 : Int32) w0_112 [p0, w0_53, w0_112, p0, w0_53, w0_77, (0 : Int32), (0 : Int32)] [(3 : Int32), (2 : Int32)] [(3 : Int32), (1 : Int32)])), .val (.int v15_209e)] []))
                      refine Go.of (fun t k => XS.iload X_209e.here hx rfl (hb hby at_215) rfl k) ?_
                      refine Go.of (fun t k => XS.iload X_209e.here hx rfl (hb hby at_217) rfl k) ?_
                      show Go p e below s _ _ _ (T_209e.setTop (mkF m 219 #[.val (.int p0), .val (.int p1), .val (.int p2), .val (.int p3), .val (.int p4), .val (.int (2 : Int32)), .val (.int v6_22c), .val (.int (((p4.toUInt32 >>> ((4 : Int32) &&& 31).toUInt32).toInt32) &&& (3 : Int32))), .val (.int (((p4.toUInt32 >>> ((6 : Int32) &&& 31).toUInt32).toInt32) &&& (3 : Int32))), .val (.int p0), .val (.int w0_53), .val (.int w0_77), .val (.int w0_112), .val (.ref b40), .val (.int (F9 (0 : Int32) w0_112 [p0, w0_53, w0_112, p0, w0_53, w0_77, (0 : Int32), (0 : Int32)] [(3 : Int32), (2 : Int32)] [(3 : Int32), (1 : Int32)])), .val (.int v15_209e)] [(.int w0_112), (.int w0_53)]))
                      by_cases hc219_76 : w0_53 = w0_112
                      · rewrite [if_pos hc219_76]
                        refine Go.of (fun t k => XS.icmpNo X_209e.here hx rfl (hb hby at_219) rfl (teq hc219_76).2 k) ?_
                        show Go p e below s _ _ _ (T_209e.setTop (mkF m 222 #[.val (.int p0), .val (.int p1), .val (.int p2), .val (.int p3), .val (.int p4), .val (.int (2 : Int32)), .val (.int v6_22c), .val (.int (((p4.toUInt32 >>> ((4 : Int32) &&& 31).toUInt32).toInt32) &&& (3 : Int32))), .val (.int (((p4.toUInt32 >>> ((6 : Int32) &&& 31).toUInt32).toInt32) &&& (3 : Int32))), .val (.int p0), .val (.int w0_53), .val (.int w0_77), .val (.int w0_112), .val (.ref b40), .val (.int (F9 (0 : Int32) w0_112 [p0, w0_53, w0_112, p0, w0_53, w0_77, (0 : Int32), (0 : Int32)] [(3 : Int32), (2 : Int32)] [(3 : Int32), (1 : Int32)])), .val (.int v15_209e)] []))
                        refine Go.of (fun t k => XS.iconst X_209e.here hx rfl (hb hby at_222) k) ?_
                        refine Go.of (fun t k => XS.istore X_209e.here hx rfl (hb hby at_223) rfl (l' := #[.val (.int p0), .val (.int p1), .val (.int p2), .val (.int p3), .val (.int p4), .val (.int (2 : Int32)), .val (.int v6_22c), .val (.int (((p4.toUInt32 >>> ((4 : Int32) &&& 31).toUInt32).toInt32) &&& (3 : Int32))), .val (.int (((p4.toUInt32 >>> ((6 : Int32) &&& 31).toUInt32).toInt32) &&& (3 : Int32))), .val (.int p0), .val (.int w0_53), .val (.int w0_77), .val (.int w0_112), .val (.ref b40), .val (.int (F9 (0 : Int32) w0_112 [p0, w0_53, w0_112, p0, w0_53, w0_77, (0 : Int32), (0 : Int32)] [(3 : Int32), (2 : Int32)] [(3 : Int32), (1 : Int32)])), .val (.int (1 : Int32))]) rfl k) ?_
                        show Go p e below s _ _ _ (T_209e.setTop (mkF m 225 #[.val (.int p0), .val (.int p1), .val (.int p2), .val (.int p3), .val (.int p4), .val (.int (2 : Int32)), .val (.int v6_22c), .val (.int (((p4.toUInt32 >>> ((4 : Int32) &&& 31).toUInt32).toInt32) &&& (3 : Int32))), .val (.int (((p4.toUInt32 >>> ((6 : Int32) &&& 31).toUInt32).toInt32) &&& (3 : Int32))), .val (.int p0), .val (.int w0_53), .val (.int w0_77), .val (.int w0_112), .val (.ref b40), .val (.int (F9 (0 : Int32) w0_112 [p0, w0_53, w0_112, p0, w0_53, w0_77, (0 : Int32), (0 : Int32)] [(3 : Int32), (2 : Int32)] [(3 : Int32), (1 : Int32)])), .val (.int (1 : Int32))] []))
                        exact jn225e (1 : Int32)  T_209e _ X_209e e_209e N_209e  
                      · rewrite [if_neg hc219_76]
                        refine Go.of (fun t k => XS.icmpYes X_209e.here hx rfl (pc0 := 219) (pc' := 225) rfl (hb hby at_219) rfl (feq hc219_76).2 (by decide) (by decide) k) ?_
                        show Go p e below s _ _ _ (T_209e.setTop (mkF m 225 #[.val (.int p0), .val (.int p1), .val (.int p2), .val (.int p3), .val (.int p4), .val (.int (2 : Int32)), .val (.int v6_22c), .val (.int (((p4.toUInt32 >>> ((4 : Int32) &&& 31).toUInt32).toInt32) &&& (3 : Int32))), .val (.int (((p4.toUInt32 >>> ((6 : Int32) &&& 31).toUInt32).toInt32) &&& (3 : Int32))), .val (.int p0), .val (.int w0_53), .val (.int w0_77), .val (.int w0_112), .val (.ref b40), .val (.int (F9 (0 : Int32) w0_112 [p0, w0_53, w0_112, p0, w0_53, w0_77, (0 : Int32), (0 : Int32)] [(3 : Int32), (2 : Int32)] [(3 : Int32), (1 : Int32)])), .val (.int v15_209e)] []))
                        exact jn225e v15_209e  T_209e _ X_209e e_209e N_209e  
                    refine Go.of (fun t k => XS.icmpNo X73.here hx rfl (hb hby at_196) rfl (flt hc165_65).1 k) ?_
                    show Go p e below s _ _ _ (T73.setTop (mkF m 199 #[.val (.int p0), .val (.int p1), .val (.int p2), .val (.int p3), .val (.int p4), .val (.int (2 : Int32)), .val (.int v6_22c), .val (.int (((p4.toUInt32 >>> ((4 : Int32) &&& 31).toUInt32).toInt32) &&& (3 : Int32))), .val (.int (((p4.toUInt32 >>> ((6 : Int32) &&& 31).toUInt32).toInt32) &&& (3 : Int32))), .val (.int p0), .val (.int w0_53), .val (.int w0_77), .val (.int w0_112), .val (.ref b40), .val (.int (F9 (0 : Int32) w0_112 [p0, w0_53, w0_112, p0, w0_53, w0_77, (0 : Int32), (0 : Int32)] [(3 : Int32), (2 : Int32)] [(3 : Int32), (1 : Int32)])), .val (.int v6_22c)] []))
                    refine Go.of (fun t k => XS.iload X73.here hx rfl (hb hby at_199) rfl k) ?_
                    refine Go.of (fun t k => XS.iload X73.here hx rfl (hb hby at_201) rfl k) ?_
                    show Go p e below s _ _ _ (T73.setTop (mkF m 203 #[.val (.int p0), .val (.int p1), .val (.int p2), .val (.int p3), .val (.int p4), .val (.int (2 : Int32)), .val (.int v6_22c), .val (.int (((p4.toUInt32 >>> ((4 : Int32) &&& 31).toUInt32).toInt32) &&& (3 : Int32))), .val (.int (((p4.toUInt32 >>> ((6 : Int32) &&& 31).toUInt32).toInt32) &&& (3 : Int32))), .val (.int p0), .val (.int w0_53), .val (.int w0_77), .val (.int w0_112), .val (.ref b40), .val (.int (F9 (0 : Int32) w0_112 [p0, w0_53, w0_112, p0, w0_53, w0_77, (0 : Int32), (0 : Int32)] [(3 : Int32), (2 : Int32)] [(3 : Int32), (1 : Int32)])), .val (.int v6_22c)] [(.int w0_112), (.int w0_77)]))
                    by_cases hc203_77 : w0_77 = w0_112
                    · rewrite [if_pos hc203_77]
                      refine Go.of (fun t k => XS.icmpNo X73.here hx rfl (hb hby at_203) rfl (teq hc203_77).2 k) ?_
                      show Go p e below s _ _ _ (T73.setTop (mkF m 206 #[.val (.int p0), .val (.int p1), .val (.int p2), .val (.int p3), .val (.int p4), .val (.int (2 : Int32)), .val (.int v6_22c), .val (.int (((p4.toUInt32 >>> ((4 : Int32) &&& 31).toUInt32).toInt32) &&& (3 : Int32))), .val (.int (((p4.toUInt32 >>> ((6 : Int32) &&& 31).toUInt32).toInt32) &&& (3 : Int32))), .val (.int p0), .val (.int w0_53), .val (.int w0_77), .val (.int w0_112), .val (.ref b40), .val (.int (F9 (0 : Int32) w0_112 [p0, w0_53, w0_112, p0, w0_53, w0_77, (0 : Int32), (0 : Int32)] [(3 : Int32), (2 : Int32)] [(3 : Int32), (1 : Int32)])), .val (.int v6_22c)] []))
                      refine Go.of (fun t k => XS.iconst X73.here hx rfl (hb hby at_206) k) ?_
                      refine Go.of (fun t k => XS.istore X73.here hx rfl (hb hby at_207) rfl (l' := #[.val (.int p0), .val (.int p1), .val (.int p2), .val (.int p3), .val (.int p4), .val (.int (2 : Int32)), .val (.int v6_22c), .val (.int (((p4.toUInt32 >>> ((4 : Int32) &&& 31).toUInt32).toInt32) &&& (3 : Int32))), .val (.int (((p4.toUInt32 >>> ((6 : Int32) &&& 31).toUInt32).toInt32) &&& (3 : Int32))), .val (.int p0), .val (.int w0_53), .val (.int w0_77), .val (.int w0_112), .val (.ref b40), .val (.int (F9 (0 : Int32) w0_112 [p0, w0_53, w0_112, p0, w0_53, w0_77, (0 : Int32), (0 : Int32)] [(3 : Int32), (2 : Int32)] [(3 : Int32), (1 : Int32)])), .val (.int (2 : Int32))]) rfl k) ?_
                      show Go p e below s _ _ _ (T73.setTop (mkF m 209 #[.val (.int p0), .val (.int p1), .val (.int p2), .val (.int p3), .val (.int p4), .val (.int (2 : Int32)), .val (.int v6_22c), .val (.int (((p4.toUInt32 >>> ((4 : Int32) &&& 31).toUInt32).toInt32) &&& (3 : Int32))), .val (.int (((p4.toUInt32 >>> ((6 : Int32) &&& 31).toUInt32).toInt32) &&& (3 : Int32))), .val (.int p0), .val (.int w0_53), .val (.int w0_77), .val (.int w0_112), .val (.ref b40), .val (.int (F9 (0 : Int32) w0_112 [p0, w0_53, w0_112, p0, w0_53, w0_77, (0 : Int32), (0 : Int32)] [(3 : Int32), (2 : Int32)] [(3 : Int32), (1 : Int32)])), .val (.int (2 : Int32))] []))
                      exact jn209e (2 : Int32)  T73 _ X73 e73 N73  
                    · rewrite [if_neg hc203_77]
                      refine Go.of (fun t k => XS.icmpYes X73.here hx rfl (pc0 := 203) (pc' := 209) rfl (hb hby at_203) rfl (feq hc203_77).2 (by decide) (by decide) k) ?_
                      show Go p e below s _ _ _ (T73.setTop (mkF m 209 #[.val (.int p0), .val (.int p1), .val (.int p2), .val (.int p3), .val (.int p4), .val (.int (2 : Int32)), .val (.int v6_22c), .val (.int (((p4.toUInt32 >>> ((4 : Int32) &&& 31).toUInt32).toInt32) &&& (3 : Int32))), .val (.int (((p4.toUInt32 >>> ((6 : Int32) &&& 31).toUInt32).toInt32) &&& (3 : Int32))), .val (.int p0), .val (.int w0_53), .val (.int w0_77), .val (.int w0_112), .val (.ref b40), .val (.int (F9 (0 : Int32) w0_112 [p0, w0_53, w0_112, p0, w0_53, w0_77, (0 : Int32), (0 : Int32)] [(3 : Int32), (2 : Int32)] [(3 : Int32), (1 : Int32)])), .val (.int v6_22c)] []))
                      exact jn209e v6_22c  T73 _ X73 e73 N73  
              · rewrite [if_neg hs114_2]
                by_cases hs114_3 : v5_8c = (3 : Int32)
                · rewrite [if_pos hs114_3]
                  subst hs114_3
                  obtain ⟨T78, h78, X78, e78, E78, A78, D78, -, st78⟩ := newO X_112 hx hZ hown (hw _ (List.mem_of_getElem? (i := 4) rfl)) (hw _ (List.mem_of_getElem? (i := 5) rfl)) (hw _ (List.mem_of_getElem? (i := 6) rfl)) e_112 (g := (mkF m 114 #[.val (.int p0), .val (.int p1), .val (.int p2), .val (.int p3), .val (.int p4), .val (.int (3 : Int32)), .val (.int v6_22c), .val (.int (((p4.toUInt32 >>> ((4 : Int32) &&& 31).toUInt32).toInt32) &&& (3 : Int32))), .val (.int (((p4.toUInt32 >>> ((6 : Int32) &&& 31).toUInt32).toInt32) &&& (3 : Int32))), .val (.int p0), .val (.int w0_53), .val (.int w0_77), .val (.int w0_112), .unset, .unset, .unset] [])) rfl (hb hby at_114) (by decide) (by decide)
                  obtain ⟨b78, ga78⟩ : ∃ z, z = h0.size := ⟨_, rfl⟩
                  rw [← ga78] at A78 D78 st78
                  have g_b78 : n0 ≤ b78 := Nat.le_trans Z0 (Nat.le_of_eq ga78.symm)
                  have f79 : Fld Z h78 b78 "com/example/susurrus/susurrus/KnownUnits" "units" "[I" .null := D78 (Or.inl (hw _ (List.mem_of_getElem? (i := 15) rfl))) (ty := (.array .int)) (by decide)
                  have f80 : Fld Z h78 b78 "com/example/susurrus/susurrus/KnownUnits" "aggregates" "[I" .null := D78 (Or.inl (hw _ (List.mem_of_getElem? (i := 17) rfl))) (ty := (.array .int)) (by decide)
                  have f81 : Fld Z h78 b78 "com/example/susurrus/susurrus/KnownUnits" "senders" "[I" .null := D78 (Or.inl (hw _ (List.mem_of_getElem? (i := 19) rfl))) (ty := (.array .int)) (by decide)
                  have f82 : Fld Z h78 b78 "com/example/susurrus/susurrus/KnownUnits" "starts" "[I" .null := D78 (Or.inr (hw _ (List.mem_of_getElem? (i := 21) rfl))) (ty := (.array .int)) (by decide)
                  have f83 : Fld Z h78 b78 "com/example/susurrus/susurrus/KnownUnits" "rooms" "[I" .null := D78 (Or.inr (hw _ (List.mem_of_getElem? (i := 23) rfl))) (ty := (.array .int)) (by decide)
                  have f84 : Fld Z h78 b78 "com/example/susurrus/susurrus/KnownUnits" "counts" "[I" .null := D78 (Or.inr (hw _ (List.mem_of_getElem? (i := 25) rfl))) (ty := (.array .int)) (by decide)
                  have f85 : Fld Z h78 b78 "com/example/susurrus/susurrus/KnownUnits" "used" "I" (.int (0 : Int32)) := D78 (Or.inl (hw _ (List.mem_of_getElem? (i := 36) rfl))) (ty := .int) (by decide)
                  have Zz78 := Nat.le_trans Z0 E78.1
                  refine Go.of st78 ?_
                  show Go p e below s _ _ _ (T78.setTop (mkF m 117 #[.val (.int p0), .val (.int p1), .val (.int p2), .val (.int p3), .val (.int p4), .val (.int (3 : Int32)), .val (.int v6_22c), .val (.int (((p4.toUInt32 >>> ((4 : Int32) &&& 31).toUInt32).toInt32) &&& (3 : Int32))), .val (.int (((p4.toUInt32 >>> ((6 : Int32) &&& 31).toUInt32).toInt32) &&& (3 : Int32))), .val (.int p0), .val (.int w0_53), .val (.int w0_77), .val (.int w0_112), .unset, .unset, .unset] [(.ref b78)]))
                  refine Go.of (fun t k => XS.dup X78.here hx rfl (hb hby at_117) rfl rfl k) ?_
                  refine Go.of (fun t k => XS.iconst X78.here hx rfl (hb hby at_118) k) ?_
                  show Go p e below s _ _ _ (T78.setTop (mkF m 119 #[.val (.int p0), .val (.int p1), .val (.int p2), .val (.int p3), .val (.int p4), .val (.int (3 : Int32)), .val (.int v6_22c), .val (.int (((p4.toUInt32 >>> ((4 : Int32) &&& 31).toUInt32).toInt32) &&& (3 : Int32))), .val (.int (((p4.toUInt32 >>> ((6 : Int32) &&& 31).toUInt32).toInt32) &&& (3 : Int32))), .val (.int p0), .val (.int w0_53), .val (.int w0_77), .val (.int w0_112), .unset, .unset, .unset] [(.int (2 : Int32)), (.ref b78), (.ref b78)]))
                  obtain ⟨_, _, ⟨T86, L86, k86, n86⟩, -, X86, ⟨Lc86, hQ86, l86, y86, z86⟩, st86⟩ := X78.specialBack hx (y := (⟨"com/example/susurrus/susurrus/KnownUnits", "<init>", "(I)V"⟩ : MethodName)) rfl hown (mvT hZ (hw _ (List.mem_of_getElem? (i := 7) rfl))) (mvT hZ (hw _ (List.mem_of_getElem? (i := 8) rfl))) (mvT hZ (hw _ (List.mem_of_getElem? (i := 9) rfl))) (by decide) (backOf (W := 1) (rm2 l Z az hw [] b78 h78 n0 Zz78 A78 f79 f80 f81 f82 f83 f84 f85 g_b78) hZ (hw _ (List.mem_of_getElem? (i := 9) rfl)) (hw _ (List.mem_of_getElem? (i := 6) rfl)) (by decide) (by decide)) (g := (mkF m 119 #[.val (.int p0), .val (.int p1), .val (.int p2), .val (.int p3), .val (.int p4), .val (.int (3 : Int32)), .val (.int v6_22c), .val (.int (((p4.toUInt32 >>> ((4 : Int32) &&& 31).toUInt32).toInt32) &&& (3 : Int32))), .val (.int (((p4.toUInt32 >>> ((6 : Int32) &&& 31).toUInt32).toInt32) &&& (3 : Int32))), .val (.int p0), .val (.int w0_53), .val (.int w0_77), .val (.int w0_112), .unset, .unset, .unset] [(.int (2 : Int32)), (.ref b78), (.ref b78)])) rfl (by rw [hml]; rfl) (Steps.refl _) (a := b78) (argsL := [(.int (2 : Int32))]) (rest := [(.ref b78)]) (lenOf own_pd5 rfl) rfl (by show 2 * 0 + _ ≤ _; exact Nat.le_of_eq rfl) (hb hby at_119) (fun _ _ => ⟨rfl, e78, (by decide : 1 + 6 ≤ _), (by decide : 7 + 6 ≤ _)⟩)
                  dsimp only [Pt.U, Pt.locs, Pt.cells, Pt.slots] at X86 l86 y86 z86 st86 hQ86
                  subst l86 y86 z86
                  obtain ⟨rfl, N86q, xu87, xg87, xd87, xt87, xr87, xc87, kxu87, kxg87, kxd87, kxt87, kxr87, kxc87, hK87⟩ := hQ86
                  have N86 := Fr.app N_112 N86q
                  obtain ⟨E_88, Ff0_88, Ff1_88, Ff2_88, Ff3_88, Ff4_88, Ff5_88, Ff6_88, Vv0_88, Vv1_88, Vv2_88, Vv3_88, Vv4_88, Vv5_88, g_b78, g_xu87, g_xg87, g_xd87, g_xt87, g_xr87, g_xc87, Zk88, ne_0_1_88, ne_0_2_88, ne_0_3_88, ne_0_4_88, ne_0_5_88, ne_0_6_88, ne_1_2_88, ne_1_3_88, ne_1_4_88, ne_1_5_88, ne_1_6_88, ne_2_3_88, ne_2_4_88, ne_2_5_88, ne_2_6_88, ne_3_4_88, ne_3_5_88, ne_3_6_88, ne_4_5_88, ne_4_6_88, ne_5_6_88⟩ := id hK87
                  refine Go.of (fun t k => st86.trans k) ?_
                  show Go p e below s _ _ _ (T86.setTop (mkF m 122 #[.val (.int p0), .val (.int p1), .val (.int p2), .val (.int p3), .val (.int p4), .val (.int (3 : Int32)), .val (.int v6_22c), .val (.int (((p4.toUInt32 >>> ((4 : Int32) &&& 31).toUInt32).toInt32) &&& (3 : Int32))), .val (.int (((p4.toUInt32 >>> ((6 : Int32) &&& 31).toUInt32).toInt32) &&& (3 : Int32))), .val (.int p0), .val (.int w0_53), .val (.int w0_77), .val (.int w0_112), .unset, .unset, .unset] [(.ref b78)]))
                  refine Go.of (fun t k => XS.astore X86.here hx rfl (hb hby at_122) rfl rfl (l' := #[.val (.int p0), .val (.int p1), .val (.int p2), .val (.int p3), .val (.int p4), .val (.int (3 : Int32)), .val (.int v6_22c), .val (.int (((p4.toUInt32 >>> ((4 : Int32) &&& 31).toUInt32).toInt32) &&& (3 : Int32))), .val (.int (((p4.toUInt32 >>> ((6 : Int32) &&& 31).toUInt32).toInt32) &&& (3 : Int32))), .val (.int p0), .val (.int w0_53), .val (.int w0_77), .val (.int w0_112), .val (.ref b78), .unset, .unset]) rfl k) ?_
                  refine Go.of (fun t k => XS.aload X86.here hx rfl (hb hby at_124) rfl rfl k) ?_
                  refine Go.of (fun t k => XS.iconst X86.here hx rfl (hb hby at_126) k) ?_
                  refine Go.of (fun t k => XS.iload X86.here hx rfl (hb hby at_127) rfl k) ?_
                  refine Go.of (fun t k => XS.iconst X86.here hx rfl (hb hby at_129) k) ?_
                  refine Go.of (fun t k => XS.iload X86.here hx rfl (hb hby at_130) rfl k) ?_
                  show Go p e below s _ _ _ (T86.setTop (mkF m 132 #[.val (.int p0), .val (.int p1), .val (.int p2), .val (.int p3), .val (.int p4), .val (.int (3 : Int32)), .val (.int v6_22c), .val (.int (((p4.toUInt32 >>> ((4 : Int32) &&& 31).toUInt32).toInt32) &&& (3 : Int32))), .val (.int (((p4.toUInt32 >>> ((6 : Int32) &&& 31).toUInt32).toInt32) &&& (3 : Int32))), .val (.int p0), .val (.int w0_53), .val (.int w0_77), .val (.int w0_112), .val (.ref b78), .unset, .unset] [(.int (3 : Int32)), (.int (0 : Int32)), (.int p0), (.int (0 : Int32)), (.ref b78)]))
                  obtain ⟨cq89, kq89, q89a, q89b, q89c⟩ := isOf hZ rfl E_88
                  obtain ⟨_, _, ⟨T89, L89, k89, n89⟩, -, X89, ⟨Lc89, hQ89, l89, y89, z89⟩, st89⟩ := X86.virtualBack hx (y := (⟨"com/example/susurrus/susurrus/KnownUnits", "start", "(IIII)V"⟩ : MethodName)) (z := (⟨"com/example/susurrus/susurrus/KnownUnits", "start", "(IIII)V"⟩ : MethodName)) hown (mvT hZ (hw _ (List.mem_of_getElem? (i := 26) rfl))) (mvT hZ (hw _ (List.mem_of_getElem? (i := 27) rfl))) (notFace_of_selects (args := #[]) (mvT hZ (hw _ (List.mem_of_getElem? (i := 29) rfl)))) (mvT hZ (hw _ (List.mem_of_getElem? (i := 29) rfl))) (mvT hZ (hw _ (List.mem_of_getElem? (i := 28) rfl))) (by decide) (backOf (W := 0) (rm4 l Z az hw [] b78 (0 : Int32) p0 (0 : Int32) (3 : Int32) xu87 xg87 xd87 xt87 xr87 xc87 kxu87 kxg87 kxd87 kxt87 kxr87 kxc87 (0 : Int32) ([] : List Int32) ([] : List Int32) ([] : List Int32) [(0 : Int32), (0 : Int32)] [(0 : Int32), (0 : Int32)] [(0 : Int32), (0 : Int32)] (0 : Int32) T86.heap n0 Zk88 ⟨E_88, Ff0_88, Ff1_88, Ff2_88, Ff3_88, Ff4_88, Ff5_88, Ff6_88, Vv0_88, Vv1_88, Vv2_88, Vv3_88, Vv4_88, Vv5_88, g_b78, g_xu87, g_xg87, g_xd87, g_xt87, g_xr87, g_xc87, Zk88, ne_0_1_88, ne_0_2_88, ne_0_3_88, ne_0_4_88, ne_0_5_88, ne_0_6_88, ne_1_2_88, ne_1_3_88, ne_1_4_88, ne_1_5_88, ne_1_6_88, ne_2_3_88, ne_2_4_88, ne_2_5_88, ne_2_6_88, ne_3_4_88, ne_3_5_88, ne_3_6_88, ne_4_5_88, ne_4_6_88, ne_5_6_88⟩ (by decide) (by decide) (by decide) (by decide)) hZ (hw _ (List.mem_of_getElem? (i := 30) rfl)) (hw _ (List.mem_of_getElem? (i := 6) rfl)) (by decide) (by decide)) q89a q89c (g := (mkF m 132 #[.val (.int p0), .val (.int p1), .val (.int p2), .val (.int p3), .val (.int p4), .val (.int (3 : Int32)), .val (.int v6_22c), .val (.int (((p4.toUInt32 >>> ((4 : Int32) &&& 31).toUInt32).toInt32) &&& (3 : Int32))), .val (.int (((p4.toUInt32 >>> ((6 : Int32) &&& 31).toUInt32).toInt32) &&& (3 : Int32))), .val (.int p0), .val (.int w0_53), .val (.int w0_77), .val (.int w0_112), .val (.ref b78), .unset, .unset] [(.int (3 : Int32)), (.int (0 : Int32)), (.int p0), (.int (0 : Int32)), (.ref b78)])) rfl (by rw [hml]; rfl) (Steps.refl _) (argsL := [(.int (0 : Int32)), (.int p0), (.int (0 : Int32)), (.int (3 : Int32))]) (rest := []) (lenOf own_pd6 rfl) rfl (by show 2 * 0 + _ ≤ _; exact Nat.le_of_eq rfl) (hb hby at_132) (fun _ _ => ⟨rfl, rfl, (by decide : 7 + 3 ≤ _), (by decide : 13 + 24 ≤ _)⟩)
                  dsimp only [Pt.U, Pt.locs, Pt.cells, Pt.slots] at X89 l89 y89 z89 st89 hQ89
                  subst l89 y89 z89
                  obtain ⟨rfl, N89q, bu90, bg90, bd90, ku90, kg90, kd90, hK90⟩ := hQ89
                  have N89 := Fr.app N86 N89q
                  have hS90 : own_K Z T89.heap n0 b78 bu90 bg90 bd90 xt87 xr87 xc87 ku90 kg90 kd90 kxt87 kxr87 kxc87 (3 : Int32) [p0, (0 : Int32), (0 : Int32), (0 : Int32), (0 : Int32), (0 : Int32), (0 : Int32), (0 : Int32)] [(0 : Int32), (0 : Int32), (0 : Int32), (0 : Int32), (0 : Int32), (0 : Int32), (0 : Int32), (0 : Int32)] [(-1 : Int32), (0 : Int32), (0 : Int32), (0 : Int32), (0 : Int32), (0 : Int32), (0 : Int32), (0 : Int32)] [(0 : Int32), (0 : Int32)] [(3 : Int32), (0 : Int32)] [(1 : Int32), (0 : Int32)] (3 : Int32) := hK90
                  obtain ⟨E_91, Ff0_91, Ff1_91, Ff2_91, Ff3_91, Ff4_91, Ff5_91, Ff6_91, Vv0_91, Vv1_91, Vv2_91, Vv3_91, Vv4_91, Vv5_91, g_b78, g_bu90, g_bg90, g_bd90, g_xt87, g_xr87, g_xc87, Zk91, ne_0_1_91, ne_0_2_91, ne_0_3_91, ne_0_4_91, ne_0_5_91, ne_0_6_91, ne_1_2_91, ne_1_3_91, ne_1_4_91, ne_1_5_91, ne_1_6_91, ne_2_3_91, ne_2_4_91, ne_2_5_91, ne_2_6_91, ne_3_4_91, ne_3_5_91, ne_3_6_91, ne_4_5_91, ne_4_6_91, ne_5_6_91⟩ := id hS90
                  refine Go.of (fun t k => st89.trans k) ?_
                  show Go p e below s _ _ _ (T89.setTop (mkF m 135 #[.val (.int p0), .val (.int p1), .val (.int p2), .val (.int p3), .val (.int p4), .val (.int (3 : Int32)), .val (.int v6_22c), .val (.int (((p4.toUInt32 >>> ((4 : Int32) &&& 31).toUInt32).toInt32) &&& (3 : Int32))), .val (.int (((p4.toUInt32 >>> ((6 : Int32) &&& 31).toUInt32).toInt32) &&& (3 : Int32))), .val (.int p0), .val (.int w0_53), .val (.int w0_77), .val (.int w0_112), .val (.ref b78), .unset, .unset] []))
                  refine Go.of (fun t k => XS.aload X89.here hx rfl (hb hby at_135) rfl rfl k) ?_
                  refine Go.of (fun t k => XS.iconst X89.here hx rfl (hb hby at_137) k) ?_
                  refine Go.of (fun t k => XS.iload X89.here hx rfl (hb hby at_138) rfl k) ?_
                  refine Go.of (fun t k => XS.iconst X89.here hx rfl (hb hby at_140) k) ?_
                  refine Go.of (fun t k => XS.iconst X89.here hx rfl (hb hby at_141) k) ?_
                  show Go p e below s _ _ _ (T89.setTop (mkF m 142 #[.val (.int p0), .val (.int p1), .val (.int p2), .val (.int p3), .val (.int p4), .val (.int (3 : Int32)), .val (.int v6_22c), .val (.int (((p4.toUInt32 >>> ((4 : Int32) &&& 31).toUInt32).toInt32) &&& (3 : Int32))), .val (.int (((p4.toUInt32 >>> ((6 : Int32) &&& 31).toUInt32).toInt32) &&& (3 : Int32))), .val (.int p0), .val (.int w0_53), .val (.int w0_77), .val (.int w0_112), .val (.ref b78), .unset, .unset] [(.int (1 : Int32)), (.int (0 : Int32)), (.int w0_112), (.int (1 : Int32)), (.ref b78)]))
                  obtain ⟨cq92, kq92, q92a, q92b, q92c⟩ := isOf hZ rfl E_91
                  obtain ⟨_, _, ⟨T92, L92, k92, n92⟩, -, X92, ⟨Lc92, hQ92, l92, y92, z92⟩, st92⟩ := X89.virtualBack hx (y := (⟨"com/example/susurrus/susurrus/KnownUnits", "start", "(IIII)V"⟩ : MethodName)) (z := (⟨"com/example/susurrus/susurrus/KnownUnits", "start", "(IIII)V"⟩ : MethodName)) hown (mvT hZ (hw _ (List.mem_of_getElem? (i := 26) rfl))) (mvT hZ (hw _ (List.mem_of_getElem? (i := 27) rfl))) (notFace_of_selects (args := #[]) (mvT hZ (hw _ (List.mem_of_getElem? (i := 29) rfl)))) (mvT hZ (hw _ (List.mem_of_getElem? (i := 29) rfl))) (mvT hZ (hw _ (List.mem_of_getElem? (i := 28) rfl))) (by decide) (backOf (W := 0) (rm4 l Z az hw [] b78 (1 : Int32) w0_112 (0 : Int32) (1 : Int32) bu90 bg90 bd90 xt87 xr87 xc87 ku90 kg90 kd90 kxt87 kxr87 kxc87 (3 : Int32) [p0, (0 : Int32), (0 : Int32), (0 : Int32), (0 : Int32), (0 : Int32), (0 : Int32), (0 : Int32)] [(0 : Int32), (0 : Int32), (0 : Int32), (0 : Int32), (0 : Int32), (0 : Int32), (0 : Int32), (0 : Int32)] [(-1 : Int32), (0 : Int32), (0 : Int32), (0 : Int32), (0 : Int32), (0 : Int32), (0 : Int32), (0 : Int32)] [(0 : Int32), (0 : Int32)] [(3 : Int32), (0 : Int32)] [(1 : Int32), (0 : Int32)] (3 : Int32) T89.heap n0 Zk91 ⟨E_91, Ff0_91, Ff1_91, Ff2_91, Ff3_91, Ff4_91, Ff5_91, Ff6_91, Vv0_91, Vv1_91, Vv2_91, Vv3_91, Vv4_91, Vv5_91, g_b78, g_bu90, g_bg90, g_bd90, g_xt87, g_xr87, g_xc87, Zk91, ne_0_1_91, ne_0_2_91, ne_0_3_91, ne_0_4_91, ne_0_5_91, ne_0_6_91, ne_1_2_91, ne_1_3_91, ne_1_4_91, ne_1_5_91, ne_1_6_91, ne_2_3_91, ne_2_4_91, ne_2_5_91, ne_2_6_91, ne_3_4_91, ne_3_5_91, ne_3_6_91, ne_4_5_91, ne_4_6_91, ne_5_6_91⟩ (by decide) (by decide) (by decide) (by decide)) hZ (hw _ (List.mem_of_getElem? (i := 30) rfl)) (hw _ (List.mem_of_getElem? (i := 6) rfl)) (by decide) (by decide)) q92a q92c (g := (mkF m 142 #[.val (.int p0), .val (.int p1), .val (.int p2), .val (.int p3), .val (.int p4), .val (.int (3 : Int32)), .val (.int v6_22c), .val (.int (((p4.toUInt32 >>> ((4 : Int32) &&& 31).toUInt32).toInt32) &&& (3 : Int32))), .val (.int (((p4.toUInt32 >>> ((6 : Int32) &&& 31).toUInt32).toInt32) &&& (3 : Int32))), .val (.int p0), .val (.int w0_53), .val (.int w0_77), .val (.int w0_112), .val (.ref b78), .unset, .unset] [(.int (1 : Int32)), (.int (0 : Int32)), (.int w0_112), (.int (1 : Int32)), (.ref b78)])) rfl (by rw [hml]; rfl) (Steps.refl _) (argsL := [(.int (1 : Int32)), (.int w0_112), (.int (0 : Int32)), (.int (1 : Int32))]) (rest := []) (lenOf own_pd6 rfl) rfl (by show 2 * 0 + _ ≤ _; exact Nat.le_of_eq rfl) (hb hby at_142) (fun _ _ => ⟨rfl, rfl, (by decide : 10 + 3 ≤ _), (by decide : 37 + 24 ≤ _)⟩)
                  dsimp only [Pt.U, Pt.locs, Pt.cells, Pt.slots] at X92 l92 y92 z92 st92 hQ92
                  subst l92 y92 z92
                  obtain ⟨rfl, N92q, bu93, bg93, bd93, ku93, kg93, kd93, hK93⟩ := hQ92
                  have N92 := Fr.app N89 N92q
                  have hS93 : own_K Z T92.heap n0 b78 bu93 bg93 bd93 xt87 xr87 xc87 ku93 kg93 kd93 kxt87 kxr87 kxc87 (6 : Int32) [p0, (0 : Int32), (0 : Int32), w0_112, (0 : Int32), (0 : Int32), (0 : Int32), (0 : Int32)] [(0 : Int32), (0 : Int32), (0 : Int32), (0 : Int32), (0 : Int32), (0 : Int32), (0 : Int32), (0 : Int32)] [(-1 : Int32), (0 : Int32), (0 : Int32), (-1 : Int32), (0 : Int32), (0 : Int32), (0 : Int32), (0 : Int32)] [(0 : Int32), (3 : Int32)] [(3 : Int32), (1 : Int32)] [(1 : Int32), (1 : Int32)] (4 : Int32) := hK93
                  obtain ⟨E_94, Ff0_94, Ff1_94, Ff2_94, Ff3_94, Ff4_94, Ff5_94, Ff6_94, Vv0_94, Vv1_94, Vv2_94, Vv3_94, Vv4_94, Vv5_94, g_b78, g_bu93, g_bg93, g_bd93, g_xt87, g_xr87, g_xc87, Zk94, ne_0_1_94, ne_0_2_94, ne_0_3_94, ne_0_4_94, ne_0_5_94, ne_0_6_94, ne_1_2_94, ne_1_3_94, ne_1_4_94, ne_1_5_94, ne_1_6_94, ne_2_3_94, ne_2_4_94, ne_2_5_94, ne_2_6_94, ne_3_4_94, ne_3_5_94, ne_3_6_94, ne_4_5_94, ne_4_6_94, ne_5_6_94⟩ := id hS93
                  refine Go.of (fun t k => st92.trans k) ?_
                  show Go p e below s _ _ _ (T92.setTop (mkF m 145 #[.val (.int p0), .val (.int p1), .val (.int p2), .val (.int p3), .val (.int p4), .val (.int (3 : Int32)), .val (.int v6_22c), .val (.int (((p4.toUInt32 >>> ((4 : Int32) &&& 31).toUInt32).toInt32) &&& (3 : Int32))), .val (.int (((p4.toUInt32 >>> ((6 : Int32) &&& 31).toUInt32).toInt32) &&& (3 : Int32))), .val (.int p0), .val (.int w0_53), .val (.int w0_77), .val (.int w0_112), .val (.ref b78), .unset, .unset] []))
                  refine Go.of (fun t k => XS.iload X92.here hx rfl (hb hby at_145) rfl k) ?_
                  refine Go.of (fun t k => XS.iconst X92.here hx rfl (hb hby at_147) k) ?_
                  show Go p e below s _ _ _ (T92.setTop (mkF m 148 #[.val (.int p0), .val (.int p1), .val (.int p2), .val (.int p3), .val (.int p4), .val (.int (3 : Int32)), .val (.int v6_22c), .val (.int (((p4.toUInt32 >>> ((4 : Int32) &&& 31).toUInt32).toInt32) &&& (3 : Int32))), .val (.int (((p4.toUInt32 >>> ((6 : Int32) &&& 31).toUInt32).toInt32) &&& (3 : Int32))), .val (.int p0), .val (.int w0_53), .val (.int w0_77), .val (.int w0_112), .val (.ref b78), .unset, .unset] [(.int (2 : Int32)), (.int v6_22c)]))
                  by_cases hc148_95 : v6_22c < (2 : Int32)
                  · rewrite [if_pos hc148_95]
                    refine Go.of (fun t k => XS.icmpYes X92.here hx rfl (pc0 := 148) (pc' := 162) rfl (hb hby at_148) rfl (tlt hc148_95).1 (by decide) (by decide) k) ?_
                    show Go p e below s _ _ _ (T92.setTop (mkF m 162 #[.val (.int p0), .val (.int p1), .val (.int p2), .val (.int p3), .val (.int p4), .val (.int (3 : Int32)), .val (.int v6_22c), .val (.int (((p4.toUInt32 >>> ((4 : Int32) &&& 31).toUInt32).toInt32) &&& (3 : Int32))), .val (.int (((p4.toUInt32 >>> ((6 : Int32) &&& 31).toUInt32).toInt32) &&& (3 : Int32))), .val (.int p0), .val (.int w0_53), .val (.int w0_77), .val (.int w0_112), .val (.ref b78), .unset, .unset] []))
                    refine Go.of (fun t k => XS.iload X92.here hx rfl (hb hby at_162) rfl k) ?_
                    refine Go.of (fun t k => XS.iconst X92.here hx rfl (hb hby at_164) k) ?_
                    show Go p e below s _ _ _ (T92.setTop (mkF m 165 #[.val (.int p0), .val (.int p1), .val (.int p2), .val (.int p3), .val (.int p4), .val (.int (3 : Int32)), .val (.int v6_22c), .val (.int (((p4.toUInt32 >>> ((4 : Int32) &&& 31).toUInt32).toInt32) &&& (3 : Int32))), .val (.int (((p4.toUInt32 >>> ((6 : Int32) &&& 31).toUInt32).toInt32) &&& (3 : Int32))), .val (.int p0), .val (.int w0_53), .val (.int w0_77), .val (.int w0_112), .val (.ref b78), .unset, .unset] [(.int (3 : Int32)), (.int v6_22c)]))
                    have hf165_96 : v6_22c < (3 : Int32) := own_23 hc148_95
                    refine Go.of (fun t k => XS.icmpYes X92.here hx rfl (pc0 := 165) (pc' := 179) rfl (hb hby at_165) rfl (tlt hf165_96).1 (by decide) (by decide) k) ?_
                    show Go p e below s _ _ _ (T92.setTop (mkF m 179 #[.val (.int p0), .val (.int p1), .val (.int p2), .val (.int p3), .val (.int p4), .val (.int (3 : Int32)), .val (.int v6_22c), .val (.int (((p4.toUInt32 >>> ((4 : Int32) &&& 31).toUInt32).toInt32) &&& (3 : Int32))), .val (.int (((p4.toUInt32 >>> ((6 : Int32) &&& 31).toUInt32).toInt32) &&& (3 : Int32))), .val (.int p0), .val (.int w0_53), .val (.int w0_77), .val (.int w0_112), .val (.ref b78), .unset, .unset] []))
                    refine Go.of (fun t k => XS.aload X92.here hx rfl (hb hby at_179) rfl rfl k) ?_
                    refine Go.of (fun t k => XS.iconst X92.here hx rfl (hb hby at_181) k) ?_
                    refine Go.of (fun t k => XS.iload X92.here hx rfl (hb hby at_182) rfl k) ?_
                    show Go p e below s _ _ _ (T92.setTop (mkF m 184 #[.val (.int p0), .val (.int p1), .val (.int p2), .val (.int p3), .val (.int p4), .val (.int (3 : Int32)), .val (.int v6_22c), .val (.int (((p4.toUInt32 >>> ((4 : Int32) &&& 31).toUInt32).toInt32) &&& (3 : Int32))), .val (.int (((p4.toUInt32 >>> ((6 : Int32) &&& 31).toUInt32).toInt32) &&& (3 : Int32))), .val (.int p0), .val (.int w0_53), .val (.int w0_77), .val (.int w0_112), .val (.ref b78), .unset, .unset] [(.int w0_112), (.int (0 : Int32)), (.ref b78)]))
                    obtain ⟨cq97, kq97, q97a, q97b, q97c⟩ := isOf hZ rfl E_94
                    obtain ⟨_, _, ⟨T97, L97, k97, n97⟩, -, X97, ⟨Lc97, hQ97, l97, y97, z97⟩, st97⟩ := X92.virtualBack hx (y := (⟨"com/example/susurrus/susurrus/KnownUnits", "find", "(II)I"⟩ : MethodName)) (z := (⟨"com/example/susurrus/susurrus/KnownUnits", "find", "(II)I"⟩ : MethodName)) hown (mvT hZ (hw _ (List.mem_of_getElem? (i := 54) rfl))) (mvT hZ (hw _ (List.mem_of_getElem? (i := 55) rfl))) (notFace_of_selects (args := #[]) (mvT hZ (hw _ (List.mem_of_getElem? (i := 57) rfl)))) (mvT hZ (hw _ (List.mem_of_getElem? (i := 57) rfl))) (mvT hZ (hw _ (List.mem_of_getElem? (i := 56) rfl))) (by decide) (backOf (W := 0) (rm9 l Z az hw [] b78 (0 : Int32) w0_112 bu93 bg93 bd93 xt87 xr87 xc87 ku93 kg93 kd93 kxt87 kxr87 kxc87 (6 : Int32) [p0, (0 : Int32), (0 : Int32), w0_112, (0 : Int32), (0 : Int32), (0 : Int32), (0 : Int32)] [(0 : Int32), (0 : Int32), (0 : Int32), (0 : Int32), (0 : Int32), (0 : Int32), (0 : Int32), (0 : Int32)] [(-1 : Int32), (0 : Int32), (0 : Int32), (-1 : Int32), (0 : Int32), (0 : Int32), (0 : Int32), (0 : Int32)] [(0 : Int32), (3 : Int32)] [(3 : Int32), (1 : Int32)] [(1 : Int32), (1 : Int32)] (4 : Int32) T92.heap n0 Zk94 ⟨E_94, Ff0_94, Ff1_94, Ff2_94, Ff3_94, Ff4_94, Ff5_94, Ff6_94, Vv0_94, Vv1_94, Vv2_94, Vv3_94, Vv4_94, Vv5_94, g_b78, g_bu93, g_bg93, g_bd93, g_xt87, g_xr87, g_xc87, Zk94, ne_0_1_94, ne_0_2_94, ne_0_3_94, ne_0_4_94, ne_0_5_94, ne_0_6_94, ne_1_2_94, ne_1_3_94, ne_1_4_94, ne_1_5_94, ne_1_6_94, ne_2_3_94, ne_2_4_94, ne_2_5_94, ne_2_6_94, ne_3_4_94, ne_3_5_94, ne_3_6_94, ne_4_5_94, ne_4_6_94, ne_5_6_94⟩ (by decide) (by decide)) hZ (hw _ (List.mem_of_getElem? (i := 58) rfl)) (hw _ (List.mem_of_getElem? (i := 6) rfl)) (by decide) (by decide)) q97a q97c (g := (mkF m 184 #[.val (.int p0), .val (.int p1), .val (.int p2), .val (.int p3), .val (.int p4), .val (.int (3 : Int32)), .val (.int v6_22c), .val (.int (((p4.toUInt32 >>> ((4 : Int32) &&& 31).toUInt32).toInt32) &&& (3 : Int32))), .val (.int (((p4.toUInt32 >>> ((6 : Int32) &&& 31).toUInt32).toInt32) &&& (3 : Int32))), .val (.int p0), .val (.int w0_53), .val (.int w0_77), .val (.int w0_112), .val (.ref b78), .unset, .unset] [(.int w0_112), (.int (0 : Int32)), (.ref b78)])) rfl (by rw [hml]; rfl) (Steps.refl _) (argsL := [(.int (0 : Int32)), (.int w0_112)]) (rest := []) (lenOf own_pd0 rfl) rfl (by show 2 * 0 + _ ≤ _; exact Nat.le_of_eq rfl) (hb hby at_184) (fun _ _ => ⟨rfl, rfl, (by decide : 13 + 0 ≤ _), (by decide : 61 + 0 ≤ _)⟩)
                    dsimp only [Pt.U, Pt.locs, Pt.cells, Pt.slots] at X97 l97 y97 z97 st97 hQ97
                    subst l97 y97 z97
                    obtain ⟨rfl, N97q, e97⟩ := hQ97
                    have N97 := Fr.app N92 N97q
                    refine Go.of (fun t k => st97.trans k) ?_
                    show Go p e below s _ _ _ (T97.setTop (mkF m 187 #[.val (.int p0), .val (.int p1), .val (.int p2), .val (.int p3), .val (.int p4), .val (.int (3 : Int32)), .val (.int v6_22c), .val (.int (((p4.toUInt32 >>> ((4 : Int32) &&& 31).toUInt32).toInt32) &&& (3 : Int32))), .val (.int (((p4.toUInt32 >>> ((6 : Int32) &&& 31).toUInt32).toInt32) &&& (3 : Int32))), .val (.int p0), .val (.int w0_53), .val (.int w0_77), .val (.int w0_112), .val (.ref b78), .unset, .unset] [(.int (F9 (0 : Int32) w0_112 [p0, (0 : Int32), (0 : Int32), w0_112, (0 : Int32), (0 : Int32), (0 : Int32), (0 : Int32)] [(0 : Int32), (3 : Int32)] [(1 : Int32), (1 : Int32)]))]))
                    refine Go.of (fun t k => XS.istore X97.here hx rfl (hb hby at_187) rfl (l' := #[.val (.int p0), .val (.int p1), .val (.int p2), .val (.int p3), .val (.int p4), .val (.int (3 : Int32)), .val (.int v6_22c), .val (.int (((p4.toUInt32 >>> ((4 : Int32) &&& 31).toUInt32).toInt32) &&& (3 : Int32))), .val (.int (((p4.toUInt32 >>> ((6 : Int32) &&& 31).toUInt32).toInt32) &&& (3 : Int32))), .val (.int p0), .val (.int w0_53), .val (.int w0_77), .val (.int w0_112), .val (.ref b78), .val (.int (F9 (0 : Int32) w0_112 [p0, (0 : Int32), (0 : Int32), w0_112, (0 : Int32), (0 : Int32), (0 : Int32), (0 : Int32)] [(0 : Int32), (3 : Int32)] [(1 : Int32), (1 : Int32)])), .unset]) rfl k) ?_
                    refine Go.of (fun t k => XS.iload X97.here hx rfl (hb hby at_189) rfl k) ?_
                    refine Go.of (fun t k => XS.istore X97.here hx rfl (hb hby at_191) rfl (l' := #[.val (.int p0), .val (.int p1), .val (.int p2), .val (.int p3), .val (.int p4), .val (.int (3 : Int32)), .val (.int v6_22c), .val (.int (((p4.toUInt32 >>> ((4 : Int32) &&& 31).toUInt32).toInt32) &&& (3 : Int32))), .val (.int (((p4.toUInt32 >>> ((6 : Int32) &&& 31).toUInt32).toInt32) &&& (3 : Int32))), .val (.int p0), .val (.int w0_53), .val (.int w0_77), .val (.int w0_112), .val (.ref b78), .val (.int (F9 (0 : Int32) w0_112 [p0, (0 : Int32), (0 : Int32), w0_112, (0 : Int32), (0 : Int32), (0 : Int32), (0 : Int32)] [(0 : Int32), (3 : Int32)] [(1 : Int32), (1 : Int32)])), .val (.int v6_22c)]) rfl k) ?_
                    refine Go.of (fun t k => XS.iload X97.here hx rfl (hb hby at_193) rfl k) ?_
                    refine Go.of (fun t k => XS.iconst X97.here hx rfl (hb hby at_195) k) ?_
                    show Go p e below s _ _ _ (T97.setTop (mkF m 196 #[.val (.int p0), .val (.int p1), .val (.int p2), .val (.int p3), .val (.int p4), .val (.int (3 : Int32)), .val (.int v6_22c), .val (.int (((p4.toUInt32 >>> ((4 : Int32) &&& 31).toUInt32).toInt32) &&& (3 : Int32))), .val (.int (((p4.toUInt32 >>> ((6 : Int32) &&& 31).toUInt32).toInt32) &&& (3 : Int32))), .val (.int p0), .val (.int w0_53), .val (.int w0_77), .val (.int w0_112), .val (.ref b78), .val (.int (F9 (0 : Int32) w0_112 [p0, (0 : Int32), (0 : Int32), w0_112, (0 : Int32), (0 : Int32), (0 : Int32), (0 : Int32)] [(0 : Int32), (3 : Int32)] [(1 : Int32), (1 : Int32)])), .val (.int v6_22c)] [(.int (3 : Int32)), (.int v6_22c)]))
                    have jn209f : ∀ (v15_209f : Int32) (T_209f : State) (l_209f : List Loc) (X_209f : Stand p l e room_1 s m #[(.int p0), (.int p1), (.int p2), (.int p3), (.int p4)] below meth c T_209f l_209f 13 61) (e_209f : T_209f.heap = T92.heap) (N_209f : Fr n0 l_209f), Go p e below s (QL (some (.int (F0_209f p0 w0_112 v15_209f))) n0) room_1.cells room_1.slots (T_209f.setTop (mkF m 209 #[.val (.int p0), .val (.int p1), .val (.int p2), .val (.int p3), .val (.int p4), .val (.int (3 : Int32)), .val (.int v6_22c), .val (.int (((p4.toUInt32 >>> ((4 : Int32) &&& 31).toUInt32).toInt32) &&& (3 : Int32))), .val (.int (((p4.toUInt32 >>> ((6 : Int32) &&& 31).toUInt32).toInt32) &&& (3 : Int32))), .val (.int p0), .val (.int w0_53), .val (.int w0_77), .val (.int w0_112), .val (.ref b78), .val (.int (F9 (0 : Int32) w0_112 [p0, (0 : Int32), (0 : Int32), w0_112, (0 : Int32), (0 : Int32), (0 : Int32), (0 : Int32)] [(0 : Int32), (3 : Int32)] [(1 : Int32), (1 : Int32)])), .val (.int v15_209f)] [])) := by
                      intro v15_209f T_209f l_209f X_209f e_209f N_209f
                      unfold F0_209f
                      refine Go.of (fun t k => XS.iload X_209f.here hx rfl (hb hby at_209) rfl k) ?_
                      refine Go.of (fun t k => XS.iconst X_209f.here hx rfl (hb hby at_211) k) ?_
                      show Go p e below s _ _ _ (T_209f.setTop (mkF m 212 #[.val (.int p0), .val (.int p1), .val (.int p2), .val (.int p3), .val (.int p4), .val (.int (3 : Int32)), .val (.int v6_22c), .val (.int (((p4.toUInt32 >>> ((4 : Int32) &&& 31).toUInt32).toInt32) &&& (3 : Int32))), .val (.int (((p4.toUInt32 >>> ((6 : Int32) &&& 31).toUInt32).toInt32) &&& (3 : Int32))), .val (.int p0), .val (.int w0_53), .val (.int w0_77), .val (.int w0_112), .val (.ref b78), .val (.int (F9 (0 : Int32) w0_112 [p0, (0 : Int32), (0 : Int32), w0_112, (0 : Int32), (0 : Int32), (0 : Int32), (0 : Int32)] [(0 : Int32), (3 : Int32)] [(1 : Int32), (1 : Int32)])), .val (.int v15_209f)] [(.int (2 : Int32)), (.int v6_22c)]))
                      have jn225f : ∀ (v15_225f : Int32) (T_225f : State) (l_225f : List Loc) (X_225f : Stand p l e room_1 s m #[(.int p0), (.int p1), (.int p2), (.int p3), (.int p4)] below meth c T_225f l_225f 13 61) (e_225f : T_225f.heap = T92.heap) (N_225f : Fr n0 l_225f), Go p e below s (QL (some (.int (F0_225f p0 w0_112 v15_225f))) n0) room_1.cells room_1.slots (T_225f.setTop (mkF m 225 #[.val (.int p0), .val (.int p1), .val (.int p2), .val (.int p3), .val (.int p4), .val (.int (3 : Int32)), .val (.int v6_22c), .val (.int (((p4.toUInt32 >>> ((4 : Int32) &&& 31).toUInt32).toInt32) &&& (3 : Int32))), .val (.int (((p4.toUInt32 >>> ((6 : Int32) &&& 31).toUInt32).toInt32) &&& (3 : Int32))), .val (.int p0), .val (.int w0_53), .val (.int w0_77), .val (.int w0_112), .val (.ref b78), .val (.int (F9 (0 : Int32) w0_112 [p0, (0 : Int32), (0 : Int32), w0_112, (0 : Int32), (0 : Int32), (0 : Int32), (0 : Int32)] [(0 : Int32), (3 : Int32)] [(1 : Int32), (1 : Int32)])), .val (.int v15_225f)] [])) := by
                        intro v15_225f T_225f l_225f X_225f e_225f N_225f
                        unfold F0_225f
                        refine Go.of (fun t k => XS.iload X_225f.here hx rfl (hb hby at_225) rfl k) ?_
                        refine Go.of (fun t k => XS.iload X_225f.here hx rfl (hb hby at_227) rfl k) ?_
                        show Go p e below s _ _ _ (T_225f.setTop (mkF m 229 #[.val (.int p0), .val (.int p1), .val (.int p2), .val (.int p3), .val (.int p4), .val (.int (3 : Int32)), .val (.int v6_22c), .val (.int (((p4.toUInt32 >>> ((4 : Int32) &&& 31).toUInt32).toInt32) &&& (3 : Int32))), .val (.int (((p4.toUInt32 >>> ((6 : Int32) &&& 31).toUInt32).toInt32) &&& (3 : Int32))), .val (.int p0), .val (.int w0_53), .val (.int w0_77), .val (.int w0_112), .val (.ref b78), .val (.int (F9 (0 : Int32) w0_112 [p0, (0 : Int32), (0 : Int32), w0_112, (0 : Int32), (0 : Int32), (0 : Int32), (0 : Int32)] [(0 : Int32), (3 : Int32)] [(1 : Int32), (1 : Int32)])), .val (.int v15_225f)] [(.int w0_112), (.int p0)]))
                        have jn235f : ∀ (v15_235f : Int32) (T_235f : State) (l_235f : List Loc) (X_235f : Stand p l e room_1 s m #[(.int p0), (.int p1), (.int p2), (.int p3), (.int p4)] below meth c T_235f l_235f 13 61) (e_235f : T_235f.heap = T92.heap) (N_235f : Fr n0 l_235f), Go p e below s (QL (some (.int (F0_235f p0 w0_112 v15_235f))) n0) room_1.cells room_1.slots (T_235f.setTop (mkF m 235 #[.val (.int p0), .val (.int p1), .val (.int p2), .val (.int p3), .val (.int p4), .val (.int (3 : Int32)), .val (.int v6_22c), .val (.int (((p4.toUInt32 >>> ((4 : Int32) &&& 31).toUInt32).toInt32) &&& (3 : Int32))), .val (.int (((p4.toUInt32 >>> ((6 : Int32) &&& 31).toUInt32).toInt32) &&& (3 : Int32))), .val (.int p0), .val (.int w0_53), .val (.int w0_77), .val (.int w0_112), .val (.ref b78), .val (.int (F9 (0 : Int32) w0_112 [p0, (0 : Int32), (0 : Int32), w0_112, (0 : Int32), (0 : Int32), (0 : Int32), (0 : Int32)] [(0 : Int32), (3 : Int32)] [(1 : Int32), (1 : Int32)])), .val (.int v15_235f)] [])) := by
                          intro v15_235f T_235f l_235f X_235f e_235f N_235f
                          unfold F0_235f
                          refine Go.of (fun t k => XS.iload X_235f.here hx rfl (hb hby at_235) rfl k) ?_
                          refine Go.of (fun t k => XS.iload X_235f.here hx rfl (hb hby at_237) rfl k) ?_
                          show Go p e below s _ _ _ (T_235f.setTop (mkF m 239 #[.val (.int p0), .val (.int p1), .val (.int p2), .val (.int p3), .val (.int p4), .val (.int (3 : Int32)), .val (.int v6_22c), .val (.int (((p4.toUInt32 >>> ((4 : Int32) &&& 31).toUInt32).toInt32) &&& (3 : Int32))), .val (.int (((p4.toUInt32 >>> ((6 : Int32) &&& 31).toUInt32).toInt32) &&& (3 : Int32))), .val (.int p0), .val (.int w0_53), .val (.int w0_77), .val (.int w0_112), .val (.ref b78), .val (.int (F9 (0 : Int32) w0_112 [p0, (0 : Int32), (0 : Int32), w0_112, (0 : Int32), (0 : Int32), (0 : Int32), (0 : Int32)] [(0 : Int32), (3 : Int32)] [(1 : Int32), (1 : Int32)])), .val (.int v15_235f)] [(.int v15_235f), (.int (F9 (0 : Int32) w0_112 [p0, (0 : Int32), (0 : Int32), w0_112, (0 : Int32), (0 : Int32), (0 : Int32), (0 : Int32)] [(0 : Int32), (3 : Int32)] [(1 : Int32), (1 : Int32)]))]))
                          by_cases hc239_98 : (F9 (0 : Int32) w0_112 [p0, (0 : Int32), (0 : Int32), w0_112, (0 : Int32), (0 : Int32), (0 : Int32), (0 : Int32)] [(0 : Int32), (3 : Int32)] [(1 : Int32), (1 : Int32)]) = v15_235f
                          · rewrite [if_pos hc239_98]
                            refine Go.of (fun t k => XS.icmpNo X_235f.here hx rfl (hb hby at_239) rfl (teq hc239_98).2 k) ?_
                            show Go p e below s _ _ _ (T_235f.setTop (mkF m 242 #[.val (.int p0), .val (.int p1), .val (.int p2), .val (.int p3), .val (.int p4), .val (.int (3 : Int32)), .val (.int v6_22c), .val (.int (((p4.toUInt32 >>> ((4 : Int32) &&& 31).toUInt32).toInt32) &&& (3 : Int32))), .val (.int (((p4.toUInt32 >>> ((6 : Int32) &&& 31).toUInt32).toInt32) &&& (3 : Int32))), .val (.int p0), .val (.int w0_53), .val (.int w0_77), .val (.int w0_112), .val (.ref b78), .val (.int (F9 (0 : Int32) w0_112 [p0, (0 : Int32), (0 : Int32), w0_112, (0 : Int32), (0 : Int32), (0 : Int32), (0 : Int32)] [(0 : Int32), (3 : Int32)] [(1 : Int32), (1 : Int32)])), .val (.int v15_235f)] []))
                            refine Go.of (fun t k => XS.iconst X_235f.here hx rfl (hb hby at_242) k) ?_
                            refine Go.of (fun t k => XS.goto X_235f.here hx rfl (pc0 := 243) (pc' := 247) rfl (hb hby at_243) (by decide) (by decide) k) ?_
                            show Go p e below s _ _ _ (T_235f.setTop (mkF m 247 #[.val (.int p0), .val (.int p1), .val (.int p2), .val (.int p3), .val (.int p4), .val (.int (3 : Int32)), .val (.int v6_22c), .val (.int (((p4.toUInt32 >>> ((4 : Int32) &&& 31).toUInt32).toInt32) &&& (3 : Int32))), .val (.int (((p4.toUInt32 >>> ((6 : Int32) &&& 31).toUInt32).toInt32) &&& (3 : Int32))), .val (.int p0), .val (.int w0_53), .val (.int w0_77), .val (.int w0_112), .val (.ref b78), .val (.int (F9 (0 : Int32) w0_112 [p0, (0 : Int32), (0 : Int32), w0_112, (0 : Int32), (0 : Int32), (0 : Int32), (0 : Int32)] [(0 : Int32), (3 : Int32)] [(1 : Int32), (1 : Int32)])), .val (.int v15_235f)] [(.int (1 : Int32))]))
                            exact Go.ret X_235f (some (.int (1 : Int32))) (fun h => by rw [Bd.returns] at h; cases h) hlk ⟨rfl, N_235f⟩ (by decide) (by decide) (fun fs hr => (retN X_235f hx (t := .boolean) Bd.returns (by simp) (hb hby at_247) hr))
                          · rewrite [if_neg hc239_98]
                            refine Go.of (fun t k => XS.icmpYes X_235f.here hx rfl (pc0 := 239) (pc' := 246) rfl (hb hby at_239) rfl (feq hc239_98).2 (by decide) (by decide) k) ?_
                            show Go p e below s _ _ _ (T_235f.setTop (mkF m 246 #[.val (.int p0), .val (.int p1), .val (.int p2), .val (.int p3), .val (.int p4), .val (.int (3 : Int32)), .val (.int v6_22c), .val (.int (((p4.toUInt32 >>> ((4 : Int32) &&& 31).toUInt32).toInt32) &&& (3 : Int32))), .val (.int (((p4.toUInt32 >>> ((6 : Int32) &&& 31).toUInt32).toInt32) &&& (3 : Int32))), .val (.int p0), .val (.int w0_53), .val (.int w0_77), .val (.int w0_112), .val (.ref b78), .val (.int (F9 (0 : Int32) w0_112 [p0, (0 : Int32), (0 : Int32), w0_112, (0 : Int32), (0 : Int32), (0 : Int32), (0 : Int32)] [(0 : Int32), (3 : Int32)] [(1 : Int32), (1 : Int32)])), .val (.int v15_235f)] []))
                            refine Go.of (fun t k => XS.iconst X_235f.here hx rfl (hb hby at_246) k) ?_
                            show Go p e below s _ _ _ (T_235f.setTop (mkF m 247 #[.val (.int p0), .val (.int p1), .val (.int p2), .val (.int p3), .val (.int p4), .val (.int (3 : Int32)), .val (.int v6_22c), .val (.int (((p4.toUInt32 >>> ((4 : Int32) &&& 31).toUInt32).toInt32) &&& (3 : Int32))), .val (.int (((p4.toUInt32 >>> ((6 : Int32) &&& 31).toUInt32).toInt32) &&& (3 : Int32))), .val (.int p0), .val (.int w0_53), .val (.int w0_77), .val (.int w0_112), .val (.ref b78), .val (.int (F9 (0 : Int32) w0_112 [p0, (0 : Int32), (0 : Int32), w0_112, (0 : Int32), (0 : Int32), (0 : Int32), (0 : Int32)] [(0 : Int32), (3 : Int32)] [(1 : Int32), (1 : Int32)])), .val (.int v15_235f)] [(.int (0 : Int32))]))
                            exact Go.ret X_235f (some (.int (0 : Int32))) (fun h => by rw [Bd.returns] at h; cases h) hlk ⟨rfl, N_235f⟩ (by decide) (by decide) (fun fs hr => (retN X_235f hx (t := .boolean) Bd.returns (by simp) (hb hby at_247) hr))
                        by_cases hc229_99 : p0 = w0_112
                        · rewrite [if_pos hc229_99]
                          refine Go.of (fun t k => XS.icmpNo X_225f.here hx rfl (hb hby at_229) rfl (teq hc229_99).2 k) ?_
                          show Go p e below s _ _ _ (T_225f.setTop (mkF m 232 #[.val (.int p0), .val (.int p1), .val (.int p2), .val (.int p3), .val (.int p4), .val (.int (3 : Int32)), .val (.int v6_22c), .val (.int (((p4.toUInt32 >>> ((4 : Int32) &&& 31).toUInt32).toInt32) &&& (3 : Int32))), .val (.int (((p4.toUInt32 >>> ((6 : Int32) &&& 31).toUInt32).toInt32) &&& (3 : Int32))), .val (.int p0), .val (.int w0_53), .val (.int w0_77), .val (.int w0_112), .val (.ref b78), .val (.int (F9 (0 : Int32) w0_112 [p0, (0 : Int32), (0 : Int32), w0_112, (0 : Int32), (0 : Int32), (0 : Int32), (0 : Int32)] [(0 : Int32), (3 : Int32)] [(1 : Int32), (1 : Int32)])), .val (.int v15_225f)] []))
                          refine Go.of (fun t k => XS.iconst X_225f.here hx rfl (hb hby at_232) k) ?_
                          refine Go.of (fun t k => XS.istore X_225f.here hx rfl (hb hby at_233) rfl (l' := #[.val (.int p0), .val (.int p1), .val (.int p2), .val (.int p3), .val (.int p4), .val (.int (3 : Int32)), .val (.int v6_22c), .val (.int (((p4.toUInt32 >>> ((4 : Int32) &&& 31).toUInt32).toInt32) &&& (3 : Int32))), .val (.int (((p4.toUInt32 >>> ((6 : Int32) &&& 31).toUInt32).toInt32) &&& (3 : Int32))), .val (.int p0), .val (.int w0_53), .val (.int w0_77), .val (.int w0_112), .val (.ref b78), .val (.int (F9 (0 : Int32) w0_112 [p0, (0 : Int32), (0 : Int32), w0_112, (0 : Int32), (0 : Int32), (0 : Int32), (0 : Int32)] [(0 : Int32), (3 : Int32)] [(1 : Int32), (1 : Int32)])), .val (.int (0 : Int32))]) rfl k) ?_
                          show Go p e below s _ _ _ (T_225f.setTop (mkF m 235 #[.val (.int p0), .val (.int p1), .val (.int p2), .val (.int p3), .val (.int p4), .val (.int (3 : Int32)), .val (.int v6_22c), .val (.int (((p4.toUInt32 >>> ((4 : Int32) &&& 31).toUInt32).toInt32) &&& (3 : Int32))), .val (.int (((p4.toUInt32 >>> ((6 : Int32) &&& 31).toUInt32).toInt32) &&& (3 : Int32))), .val (.int p0), .val (.int w0_53), .val (.int w0_77), .val (.int w0_112), .val (.ref b78), .val (.int (F9 (0 : Int32) w0_112 [p0, (0 : Int32), (0 : Int32), w0_112, (0 : Int32), (0 : Int32), (0 : Int32), (0 : Int32)] [(0 : Int32), (3 : Int32)] [(1 : Int32), (1 : Int32)])), .val (.int (0 : Int32))] []))
                          exact jn235f (0 : Int32)  T_225f _ X_225f e_225f N_225f  
                        · rewrite [if_neg hc229_99]
                          refine Go.of (fun t k => XS.icmpYes X_225f.here hx rfl (pc0 := 229) (pc' := 235) rfl (hb hby at_229) rfl (feq hc229_99).2 (by decide) (by decide) k) ?_
                          show Go p e below s _ _ _ (T_225f.setTop (mkF m 235 #[.val (.int p0), .val (.int p1), .val (.int p2), .val (.int p3), .val (.int p4), .val (.int (3 : Int32)), .val (.int v6_22c), .val (.int (((p4.toUInt32 >>> ((4 : Int32) &&& 31).toUInt32).toInt32) &&& (3 : Int32))), .val (.int (((p4.toUInt32 >>> ((6 : Int32) &&& 31).toUInt32).toInt32) &&& (3 : Int32))), .val (.int p0), .val (.int w0_53), .val (.int w0_77), .val (.int w0_112), .val (.ref b78), .val (.int (F9 (0 : Int32) w0_112 [p0, (0 : Int32), (0 : Int32), w0_112, (0 : Int32), (0 : Int32), (0 : Int32), (0 : Int32)] [(0 : Int32), (3 : Int32)] [(1 : Int32), (1 : Int32)])), .val (.int v15_225f)] []))
                          exact jn235f v15_225f  T_225f _ X_225f e_225f N_225f  
                      refine Go.of (fun t k => XS.icmpYes X_209f.here hx rfl (pc0 := 212) (pc' := 225) rfl (hb hby at_212) rfl (tlt hc148_95).1 (by decide) (by decide) k) ?_
                      show Go p e below s _ _ _ (T_209f.setTop (mkF m 225 #[.val (.int p0), .val (.int p1), .val (.int p2), .val (.int p3), .val (.int p4), .val (.int (3 : Int32)), .val (.int v6_22c), .val (.int (((p4.toUInt32 >>> ((4 : Int32) &&& 31).toUInt32).toInt32) &&& (3 : Int32))), .val (.int (((p4.toUInt32 >>> ((6 : Int32) &&& 31).toUInt32).toInt32) &&& (3 : Int32))), .val (.int p0), .val (.int w0_53), .val (.int w0_77), .val (.int w0_112), .val (.ref b78), .val (.int (F9 (0 : Int32) w0_112 [p0, (0 : Int32), (0 : Int32), w0_112, (0 : Int32), (0 : Int32), (0 : Int32), (0 : Int32)] [(0 : Int32), (3 : Int32)] [(1 : Int32), (1 : Int32)])), .val (.int v15_209f)] []))
                      exact jn225f v15_209f  T_209f _ X_209f e_209f N_209f  
                    refine Go.of (fun t k => XS.icmpYes X97.here hx rfl (pc0 := 196) (pc' := 209) rfl (hb hby at_196) rfl (tlt hf165_96).1 (by decide) (by decide) k) ?_
                    show Go p e below s _ _ _ (T97.setTop (mkF m 209 #[.val (.int p0), .val (.int p1), .val (.int p2), .val (.int p3), .val (.int p4), .val (.int (3 : Int32)), .val (.int v6_22c), .val (.int (((p4.toUInt32 >>> ((4 : Int32) &&& 31).toUInt32).toInt32) &&& (3 : Int32))), .val (.int (((p4.toUInt32 >>> ((6 : Int32) &&& 31).toUInt32).toInt32) &&& (3 : Int32))), .val (.int p0), .val (.int w0_53), .val (.int w0_77), .val (.int w0_112), .val (.ref b78), .val (.int (F9 (0 : Int32) w0_112 [p0, (0 : Int32), (0 : Int32), w0_112, (0 : Int32), (0 : Int32), (0 : Int32), (0 : Int32)] [(0 : Int32), (3 : Int32)] [(1 : Int32), (1 : Int32)])), .val (.int v6_22c)] []))
                    exact jn209f v6_22c  T97 _ X97 e97 N97  
                  · rewrite [if_neg hc148_95]
                    refine Go.of (fun t k => XS.icmpNo X92.here hx rfl (hb hby at_148) rfl (flt hc148_95).1 k) ?_
                    show Go p e below s _ _ _ (T92.setTop (mkF m 151 #[.val (.int p0), .val (.int p1), .val (.int p2), .val (.int p3), .val (.int p4), .val (.int (3 : Int32)), .val (.int v6_22c), .val (.int (((p4.toUInt32 >>> ((4 : Int32) &&& 31).toUInt32).toInt32) &&& (3 : Int32))), .val (.int (((p4.toUInt32 >>> ((6 : Int32) &&& 31).toUInt32).toInt32) &&& (3 : Int32))), .val (.int p0), .val (.int w0_53), .val (.int w0_77), .val (.int w0_112), .val (.ref b78), .unset, .unset] []))
                    refine Go.of (fun t k => XS.aload X92.here hx rfl (hb hby at_151) rfl rfl k) ?_
                    refine Go.of (fun t k => XS.iconst X92.here hx rfl (hb hby at_153) k) ?_
                    refine Go.of (fun t k => XS.iconst X92.here hx rfl (hb hby at_154) k) ?_
                    refine Go.of (fun t k => XS.iload X92.here hx rfl (hb hby at_155) rfl k) ?_
                    refine Go.of (fun t k => XS.iconst X92.here hx rfl (hb hby at_157) k) ?_
                    refine Go.of (fun t k => XS.iconst X92.here hx rfl (hb hby at_158) k) ?_
                    show Go p e below s _ _ _ (T92.setTop (mkF m 159 #[.val (.int p0), .val (.int p1), .val (.int p2), .val (.int p3), .val (.int p4), .val (.int (3 : Int32)), .val (.int v6_22c), .val (.int (((p4.toUInt32 >>> ((4 : Int32) &&& 31).toUInt32).toInt32) &&& (3 : Int32))), .val (.int (((p4.toUInt32 >>> ((6 : Int32) &&& 31).toUInt32).toInt32) &&& (3 : Int32))), .val (.int p0), .val (.int w0_53), .val (.int w0_77), .val (.int w0_112), .val (.ref b78), .unset, .unset] [(.int (0 : Int32)), (.int (0 : Int32)), (.int w0_53), (.int (1 : Int32)), (.int (0 : Int32)), (.ref b78)]))
                    obtain ⟨cq100, kq100, q100a, q100b, q100c⟩ := isOf hZ rfl E_94
                    obtain ⟨_, _, ⟨T100, L100, k100, n100⟩, -, X100, ⟨Lc100, hQ100, l100, y100, z100⟩, st100⟩ := X92.virtualBack hx (y := (⟨"com/example/susurrus/susurrus/KnownUnits", "keep", "(IIIII)V"⟩ : MethodName)) (z := (⟨"com/example/susurrus/susurrus/KnownUnits", "keep", "(IIIII)V"⟩ : MethodName)) hown (mvT hZ (hw _ (List.mem_of_getElem? (i := 59) rfl))) (mvT hZ (hw _ (List.mem_of_getElem? (i := 60) rfl))) (notFace_of_selects (args := #[]) (mvT hZ (hw _ (List.mem_of_getElem? (i := 62) rfl)))) (mvT hZ (hw _ (List.mem_of_getElem? (i := 62) rfl))) (mvT hZ (hw _ (List.mem_of_getElem? (i := 61) rfl))) (by decide) (backOf (W := 0) (rm10B l Z az hw [] b78 (0 : Int32) (1 : Int32) w0_53 (0 : Int32) (0 : Int32) bu93 bg93 bd93 xt87 xr87 xc87 ku93 kg93 kd93 kxt87 kxr87 kxc87 (6 : Int32) [p0, (0 : Int32), (0 : Int32), w0_112, (0 : Int32), (0 : Int32), (0 : Int32), (0 : Int32)] [(0 : Int32), (0 : Int32), (0 : Int32), (0 : Int32), (0 : Int32), (0 : Int32), (0 : Int32), (0 : Int32)] [(-1 : Int32), (0 : Int32), (0 : Int32), (-1 : Int32), (0 : Int32), (0 : Int32), (0 : Int32), (0 : Int32)] [(0 : Int32), (3 : Int32)] [(3 : Int32), (1 : Int32)] [(1 : Int32), (1 : Int32)] (4 : Int32) T92.heap n0 Zk94 ⟨E_94, Ff0_94, Ff1_94, Ff2_94, Ff3_94, Ff4_94, Ff5_94, Ff6_94, Vv0_94, Vv1_94, Vv2_94, Vv3_94, Vv4_94, Vv5_94, g_b78, g_bu93, g_bg93, g_bd93, g_xt87, g_xr87, g_xc87, Zk94, ne_0_1_94, ne_0_2_94, ne_0_3_94, ne_0_4_94, ne_0_5_94, ne_0_6_94, ne_1_2_94, ne_1_3_94, ne_1_4_94, ne_1_5_94, ne_1_6_94, ne_2_3_94, ne_2_4_94, ne_2_5_94, ne_2_6_94, ne_3_4_94, ne_3_5_94, ne_3_6_94, ne_4_5_94, ne_4_6_94, ne_5_6_94⟩ (by decide) (by decide) (by decide) (by decide) (by decide) (⟨rfl, rfl, rfl⟩)) hZ (hw _ (List.mem_of_getElem? (i := 63) rfl)) (hw _ (List.mem_of_getElem? (i := 6) rfl)) (by decide) (by decide)) q100a q100c (g := (mkF m 159 #[.val (.int p0), .val (.int p1), .val (.int p2), .val (.int p3), .val (.int p4), .val (.int (3 : Int32)), .val (.int v6_22c), .val (.int (((p4.toUInt32 >>> ((4 : Int32) &&& 31).toUInt32).toInt32) &&& (3 : Int32))), .val (.int (((p4.toUInt32 >>> ((6 : Int32) &&& 31).toUInt32).toInt32) &&& (3 : Int32))), .val (.int p0), .val (.int w0_53), .val (.int w0_77), .val (.int w0_112), .val (.ref b78), .unset, .unset] [(.int (0 : Int32)), (.int (0 : Int32)), (.int w0_53), (.int (1 : Int32)), (.int (0 : Int32)), (.ref b78)])) rfl (by rw [hml]; rfl) (Steps.refl _) (argsL := [(.int (0 : Int32)), (.int (1 : Int32)), (.int w0_53), (.int (0 : Int32)), (.int (0 : Int32))]) (rest := []) (lenOf own_pd7 rfl) rfl (by show 2 * 0 + _ ≤ _; exact Nat.le_of_eq rfl) (hb hby at_159) (fun _ _ => ⟨rfl, rfl, (by decide : 13 + 0 ≤ _), (by decide : 61 + 0 ≤ _)⟩)
                    dsimp only [Pt.U, Pt.locs, Pt.cells, Pt.slots] at X100 l100 y100 z100 st100 hQ100
                    subst l100 y100 z100
                    obtain ⟨rfl, N100q, bu101, bg101, bd101, ku101, kg101, kd101, hK101⟩ := hQ100
                    have N100 := Fr.app N92 N100q
                    have hS101 : own_K Z T100.heap n0 b78 bu101 bg101 bd101 xt87 xr87 xc87 ku101 kg101 kd101 kxt87 kxr87 kxc87 (6 : Int32) [p0, w0_53, (0 : Int32), w0_112, (0 : Int32), (0 : Int32), (0 : Int32), (0 : Int32)] [(0 : Int32), (0 : Int32), (0 : Int32), (0 : Int32), (0 : Int32), (0 : Int32), (0 : Int32), (0 : Int32)] [(-1 : Int32), (0 : Int32), (0 : Int32), (-1 : Int32), (0 : Int32), (0 : Int32), (0 : Int32), (0 : Int32)] [(0 : Int32), (3 : Int32)] [(3 : Int32), (1 : Int32)] [(2 : Int32), (1 : Int32)] (4 : Int32) := hK101
                    obtain ⟨E_102, Ff0_102, Ff1_102, Ff2_102, Ff3_102, Ff4_102, Ff5_102, Ff6_102, Vv0_102, Vv1_102, Vv2_102, Vv3_102, Vv4_102, Vv5_102, g_b78, g_bu101, g_bg101, g_bd101, g_xt87, g_xr87, g_xc87, Zk102, ne_0_1_102, ne_0_2_102, ne_0_3_102, ne_0_4_102, ne_0_5_102, ne_0_6_102, ne_1_2_102, ne_1_3_102, ne_1_4_102, ne_1_5_102, ne_1_6_102, ne_2_3_102, ne_2_4_102, ne_2_5_102, ne_2_6_102, ne_3_4_102, ne_3_5_102, ne_3_6_102, ne_4_5_102, ne_4_6_102, ne_5_6_102⟩ := id hS101
                    refine Go.of (fun t k => st100.trans k) ?_
                    show Go p e below s _ _ _ (T100.setTop (mkF m 162 #[.val (.int p0), .val (.int p1), .val (.int p2), .val (.int p3), .val (.int p4), .val (.int (3 : Int32)), .val (.int v6_22c), .val (.int (((p4.toUInt32 >>> ((4 : Int32) &&& 31).toUInt32).toInt32) &&& (3 : Int32))), .val (.int (((p4.toUInt32 >>> ((6 : Int32) &&& 31).toUInt32).toInt32) &&& (3 : Int32))), .val (.int p0), .val (.int w0_53), .val (.int w0_77), .val (.int w0_112), .val (.ref b78), .unset, .unset] []))
                    refine Go.of (fun t k => XS.iload X100.here hx rfl (hb hby at_162) rfl k) ?_
                    refine Go.of (fun t k => XS.iconst X100.here hx rfl (hb hby at_164) k) ?_
                    show Go p e below s _ _ _ (T100.setTop (mkF m 165 #[.val (.int p0), .val (.int p1), .val (.int p2), .val (.int p3), .val (.int p4), .val (.int (3 : Int32)), .val (.int v6_22c), .val (.int (((p4.toUInt32 >>> ((4 : Int32) &&& 31).toUInt32).toInt32) &&& (3 : Int32))), .val (.int (((p4.toUInt32 >>> ((6 : Int32) &&& 31).toUInt32).toInt32) &&& (3 : Int32))), .val (.int p0), .val (.int w0_53), .val (.int w0_77), .val (.int w0_112), .val (.ref b78), .unset, .unset] [(.int (3 : Int32)), (.int v6_22c)]))
                    by_cases hc165_103 : v6_22c < (3 : Int32)
                    · rewrite [if_pos hc165_103]
                      refine Go.of (fun t k => XS.icmpYes X100.here hx rfl (pc0 := 165) (pc' := 179) rfl (hb hby at_165) rfl (tlt hc165_103).1 (by decide) (by decide) k) ?_
                      show Go p e below s _ _ _ (T100.setTop (mkF m 179 #[.val (.int p0), .val (.int p1), .val (.int p2), .val (.int p3), .val (.int p4), .val (.int (3 : Int32)), .val (.int v6_22c), .val (.int (((p4.toUInt32 >>> ((4 : Int32) &&& 31).toUInt32).toInt32) &&& (3 : Int32))), .val (.int (((p4.toUInt32 >>> ((6 : Int32) &&& 31).toUInt32).toInt32) &&& (3 : Int32))), .val (.int p0), .val (.int w0_53), .val (.int w0_77), .val (.int w0_112), .val (.ref b78), .unset, .unset] []))
                      refine Go.of (fun t k => XS.aload X100.here hx rfl (hb hby at_179) rfl rfl k) ?_
                      refine Go.of (fun t k => XS.iconst X100.here hx rfl (hb hby at_181) k) ?_
                      refine Go.of (fun t k => XS.iload X100.here hx rfl (hb hby at_182) rfl k) ?_
                      show Go p e below s _ _ _ (T100.setTop (mkF m 184 #[.val (.int p0), .val (.int p1), .val (.int p2), .val (.int p3), .val (.int p4), .val (.int (3 : Int32)), .val (.int v6_22c), .val (.int (((p4.toUInt32 >>> ((4 : Int32) &&& 31).toUInt32).toInt32) &&& (3 : Int32))), .val (.int (((p4.toUInt32 >>> ((6 : Int32) &&& 31).toUInt32).toInt32) &&& (3 : Int32))), .val (.int p0), .val (.int w0_53), .val (.int w0_77), .val (.int w0_112), .val (.ref b78), .unset, .unset] [(.int w0_112), (.int (0 : Int32)), (.ref b78)]))
                      obtain ⟨cq104, kq104, q104a, q104b, q104c⟩ := isOf hZ rfl E_102
                      obtain ⟨_, _, ⟨T104, L104, k104, n104⟩, -, X104, ⟨Lc104, hQ104, l104, y104, z104⟩, st104⟩ := X100.virtualBack hx (y := (⟨"com/example/susurrus/susurrus/KnownUnits", "find", "(II)I"⟩ : MethodName)) (z := (⟨"com/example/susurrus/susurrus/KnownUnits", "find", "(II)I"⟩ : MethodName)) hown (mvT hZ (hw _ (List.mem_of_getElem? (i := 54) rfl))) (mvT hZ (hw _ (List.mem_of_getElem? (i := 55) rfl))) (notFace_of_selects (args := #[]) (mvT hZ (hw _ (List.mem_of_getElem? (i := 57) rfl)))) (mvT hZ (hw _ (List.mem_of_getElem? (i := 57) rfl))) (mvT hZ (hw _ (List.mem_of_getElem? (i := 56) rfl))) (by decide) (backOf (W := 0) (rm9 l Z az hw [] b78 (0 : Int32) w0_112 bu101 bg101 bd101 xt87 xr87 xc87 ku101 kg101 kd101 kxt87 kxr87 kxc87 (6 : Int32) [p0, w0_53, (0 : Int32), w0_112, (0 : Int32), (0 : Int32), (0 : Int32), (0 : Int32)] [(0 : Int32), (0 : Int32), (0 : Int32), (0 : Int32), (0 : Int32), (0 : Int32), (0 : Int32), (0 : Int32)] [(-1 : Int32), (0 : Int32), (0 : Int32), (-1 : Int32), (0 : Int32), (0 : Int32), (0 : Int32), (0 : Int32)] [(0 : Int32), (3 : Int32)] [(3 : Int32), (1 : Int32)] [(2 : Int32), (1 : Int32)] (4 : Int32) T100.heap n0 Zk102 ⟨E_102, Ff0_102, Ff1_102, Ff2_102, Ff3_102, Ff4_102, Ff5_102, Ff6_102, Vv0_102, Vv1_102, Vv2_102, Vv3_102, Vv4_102, Vv5_102, g_b78, g_bu101, g_bg101, g_bd101, g_xt87, g_xr87, g_xc87, Zk102, ne_0_1_102, ne_0_2_102, ne_0_3_102, ne_0_4_102, ne_0_5_102, ne_0_6_102, ne_1_2_102, ne_1_3_102, ne_1_4_102, ne_1_5_102, ne_1_6_102, ne_2_3_102, ne_2_4_102, ne_2_5_102, ne_2_6_102, ne_3_4_102, ne_3_5_102, ne_3_6_102, ne_4_5_102, ne_4_6_102, ne_5_6_102⟩ (by decide) (by decide)) hZ (hw _ (List.mem_of_getElem? (i := 58) rfl)) (hw _ (List.mem_of_getElem? (i := 6) rfl)) (by decide) (by decide)) q104a q104c (g := (mkF m 184 #[.val (.int p0), .val (.int p1), .val (.int p2), .val (.int p3), .val (.int p4), .val (.int (3 : Int32)), .val (.int v6_22c), .val (.int (((p4.toUInt32 >>> ((4 : Int32) &&& 31).toUInt32).toInt32) &&& (3 : Int32))), .val (.int (((p4.toUInt32 >>> ((6 : Int32) &&& 31).toUInt32).toInt32) &&& (3 : Int32))), .val (.int p0), .val (.int w0_53), .val (.int w0_77), .val (.int w0_112), .val (.ref b78), .unset, .unset] [(.int w0_112), (.int (0 : Int32)), (.ref b78)])) rfl (by rw [hml]; rfl) (Steps.refl _) (argsL := [(.int (0 : Int32)), (.int w0_112)]) (rest := []) (lenOf own_pd0 rfl) rfl (by show 2 * 0 + _ ≤ _; exact Nat.le_of_eq rfl) (hb hby at_184) (fun _ _ => ⟨rfl, rfl, (by decide : 13 + 0 ≤ _), (by decide : 61 + 0 ≤ _)⟩)
                      dsimp only [Pt.U, Pt.locs, Pt.cells, Pt.slots] at X104 l104 y104 z104 st104 hQ104
                      subst l104 y104 z104
                      obtain ⟨rfl, N104q, e104⟩ := hQ104
                      have N104 := Fr.app N100 N104q
                      refine Go.of (fun t k => st104.trans k) ?_
                      show Go p e below s _ _ _ (T104.setTop (mkF m 187 #[.val (.int p0), .val (.int p1), .val (.int p2), .val (.int p3), .val (.int p4), .val (.int (3 : Int32)), .val (.int v6_22c), .val (.int (((p4.toUInt32 >>> ((4 : Int32) &&& 31).toUInt32).toInt32) &&& (3 : Int32))), .val (.int (((p4.toUInt32 >>> ((6 : Int32) &&& 31).toUInt32).toInt32) &&& (3 : Int32))), .val (.int p0), .val (.int w0_53), .val (.int w0_77), .val (.int w0_112), .val (.ref b78), .unset, .unset] [(.int (F9 (0 : Int32) w0_112 [p0, w0_53, (0 : Int32), w0_112, (0 : Int32), (0 : Int32), (0 : Int32), (0 : Int32)] [(0 : Int32), (3 : Int32)] [(2 : Int32), (1 : Int32)]))]))
                      refine Go.of (fun t k => XS.istore X104.here hx rfl (hb hby at_187) rfl (l' := #[.val (.int p0), .val (.int p1), .val (.int p2), .val (.int p3), .val (.int p4), .val (.int (3 : Int32)), .val (.int v6_22c), .val (.int (((p4.toUInt32 >>> ((4 : Int32) &&& 31).toUInt32).toInt32) &&& (3 : Int32))), .val (.int (((p4.toUInt32 >>> ((6 : Int32) &&& 31).toUInt32).toInt32) &&& (3 : Int32))), .val (.int p0), .val (.int w0_53), .val (.int w0_77), .val (.int w0_112), .val (.ref b78), .val (.int (F9 (0 : Int32) w0_112 [p0, w0_53, (0 : Int32), w0_112, (0 : Int32), (0 : Int32), (0 : Int32), (0 : Int32)] [(0 : Int32), (3 : Int32)] [(2 : Int32), (1 : Int32)])), .unset]) rfl k) ?_
                      refine Go.of (fun t k => XS.iload X104.here hx rfl (hb hby at_189) rfl k) ?_
                      refine Go.of (fun t k => XS.istore X104.here hx rfl (hb hby at_191) rfl (l' := #[.val (.int p0), .val (.int p1), .val (.int p2), .val (.int p3), .val (.int p4), .val (.int (3 : Int32)), .val (.int v6_22c), .val (.int (((p4.toUInt32 >>> ((4 : Int32) &&& 31).toUInt32).toInt32) &&& (3 : Int32))), .val (.int (((p4.toUInt32 >>> ((6 : Int32) &&& 31).toUInt32).toInt32) &&& (3 : Int32))), .val (.int p0), .val (.int w0_53), .val (.int w0_77), .val (.int w0_112), .val (.ref b78), .val (.int (F9 (0 : Int32) w0_112 [p0, w0_53, (0 : Int32), w0_112, (0 : Int32), (0 : Int32), (0 : Int32), (0 : Int32)] [(0 : Int32), (3 : Int32)] [(2 : Int32), (1 : Int32)])), .val (.int v6_22c)]) rfl k) ?_
                      refine Go.of (fun t k => XS.iload X104.here hx rfl (hb hby at_193) rfl k) ?_
                      refine Go.of (fun t k => XS.iconst X104.here hx rfl (hb hby at_195) k) ?_
                      show Go p e below s _ _ _ (T104.setTop (mkF m 196 #[.val (.int p0), .val (.int p1), .val (.int p2), .val (.int p3), .val (.int p4), .val (.int (3 : Int32)), .val (.int v6_22c), .val (.int (((p4.toUInt32 >>> ((4 : Int32) &&& 31).toUInt32).toInt32) &&& (3 : Int32))), .val (.int (((p4.toUInt32 >>> ((6 : Int32) &&& 31).toUInt32).toInt32) &&& (3 : Int32))), .val (.int p0), .val (.int w0_53), .val (.int w0_77), .val (.int w0_112), .val (.ref b78), .val (.int (F9 (0 : Int32) w0_112 [p0, w0_53, (0 : Int32), w0_112, (0 : Int32), (0 : Int32), (0 : Int32), (0 : Int32)] [(0 : Int32), (3 : Int32)] [(2 : Int32), (1 : Int32)])), .val (.int v6_22c)] [(.int (3 : Int32)), (.int v6_22c)]))
                      have jn209g : ∀ (v15_209g : Int32) (T_209g : State) (l_209g : List Loc) (X_209g : Stand p l e room_1 s m #[(.int p0), (.int p1), (.int p2), (.int p3), (.int p4)] below meth c T_209g l_209g 13 61) (e_209g : T_209g.heap = T100.heap) (N_209g : Fr n0 l_209g), Go p e below s (QL (some (.int (F0_209g p0 w0_53 w0_112 v15_209g))) n0) room_1.cells room_1.slots (T_209g.setTop (mkF m 209 #[.val (.int p0), .val (.int p1), .val (.int p2), .val (.int p3), .val (.int p4), .val (.int (3 : Int32)), .val (.int v6_22c), .val (.int (((p4.toUInt32 >>> ((4 : Int32) &&& 31).toUInt32).toInt32) &&& (3 : Int32))), .val (.int (((p4.toUInt32 >>> ((6 : Int32) &&& 31).toUInt32).toInt32) &&& (3 : Int32))), .val (.int p0), .val (.int w0_53), .val (.int w0_77), .val (.int w0_112), .val (.ref b78), .val (.int (F9 (0 : Int32) w0_112 [p0, w0_53, (0 : Int32), w0_112, (0 : Int32), (0 : Int32), (0 : Int32), (0 : Int32)] [(0 : Int32), (3 : Int32)] [(2 : Int32), (1 : Int32)])), .val (.int v15_209g)] [])) := by
                        intro v15_209g T_209g l_209g X_209g e_209g N_209g
                        unfold F0_209g
                        refine Go.of (fun t k => XS.iload X_209g.here hx rfl (hb hby at_209) rfl k) ?_
                        refine Go.of (fun t k => XS.iconst X_209g.here hx rfl (hb hby at_211) k) ?_
                        show Go p e below s _ _ _ (T_209g.setTop (mkF m 212 #[.val (.int p0), .val (.int p1), .val (.int p2), .val (.int p3), .val (.int p4), .val (.int (3 : Int32)), .val (.int v6_22c), .val (.int (((p4.toUInt32 >>> ((4 : Int32) &&& 31).toUInt32).toInt32) &&& (3 : Int32))), .val (.int (((p4.toUInt32 >>> ((6 : Int32) &&& 31).toUInt32).toInt32) &&& (3 : Int32))), .val (.int p0), .val (.int w0_53), .val (.int w0_77), .val (.int w0_112), .val (.ref b78), .val (.int (F9 (0 : Int32) w0_112 [p0, w0_53, (0 : Int32), w0_112, (0 : Int32), (0 : Int32), (0 : Int32), (0 : Int32)] [(0 : Int32), (3 : Int32)] [(2 : Int32), (1 : Int32)])), .val (.int v15_209g)] [(.int (2 : Int32)), (.int v6_22c)]))
                        have jn225g : ∀ (v15_225g : Int32) (T_225g : State) (l_225g : List Loc) (X_225g : Stand p l e room_1 s m #[(.int p0), (.int p1), (.int p2), (.int p3), (.int p4)] below meth c T_225g l_225g 13 61) (e_225g : T_225g.heap = T100.heap) (N_225g : Fr n0 l_225g), Go p e below s (QL (some (.int (F0_225g p0 w0_53 w0_112 v15_225g))) n0) room_1.cells room_1.slots (T_225g.setTop (mkF m 225 #[.val (.int p0), .val (.int p1), .val (.int p2), .val (.int p3), .val (.int p4), .val (.int (3 : Int32)), .val (.int v6_22c), .val (.int (((p4.toUInt32 >>> ((4 : Int32) &&& 31).toUInt32).toInt32) &&& (3 : Int32))), .val (.int (((p4.toUInt32 >>> ((6 : Int32) &&& 31).toUInt32).toInt32) &&& (3 : Int32))), .val (.int p0), .val (.int w0_53), .val (.int w0_77), .val (.int w0_112), .val (.ref b78), .val (.int (F9 (0 : Int32) w0_112 [p0, w0_53, (0 : Int32), w0_112, (0 : Int32), (0 : Int32), (0 : Int32), (0 : Int32)] [(0 : Int32), (3 : Int32)] [(2 : Int32), (1 : Int32)])), .val (.int v15_225g)] [])) := by
                          intro v15_225g T_225g l_225g X_225g e_225g N_225g
                          unfold F0_225g
                          refine Go.of (fun t k => XS.iload X_225g.here hx rfl (hb hby at_225) rfl k) ?_
                          refine Go.of (fun t k => XS.iload X_225g.here hx rfl (hb hby at_227) rfl k) ?_
                          show Go p e below s _ _ _ (T_225g.setTop (mkF m 229 #[.val (.int p0), .val (.int p1), .val (.int p2), .val (.int p3), .val (.int p4), .val (.int (3 : Int32)), .val (.int v6_22c), .val (.int (((p4.toUInt32 >>> ((4 : Int32) &&& 31).toUInt32).toInt32) &&& (3 : Int32))), .val (.int (((p4.toUInt32 >>> ((6 : Int32) &&& 31).toUInt32).toInt32) &&& (3 : Int32))), .val (.int p0), .val (.int w0_53), .val (.int w0_77), .val (.int w0_112), .val (.ref b78), .val (.int (F9 (0 : Int32) w0_112 [p0, w0_53, (0 : Int32), w0_112, (0 : Int32), (0 : Int32), (0 : Int32), (0 : Int32)] [(0 : Int32), (3 : Int32)] [(2 : Int32), (1 : Int32)])), .val (.int v15_225g)] [(.int w0_112), (.int p0)]))
                          have jn235g : ∀ (v15_235g : Int32) (T_235g : State) (l_235g : List Loc) (X_235g : Stand p l e room_1 s m #[(.int p0), (.int p1), (.int p2), (.int p3), (.int p4)] below meth c T_235g l_235g 13 61) (e_235g : T_235g.heap = T100.heap) (N_235g : Fr n0 l_235g), Go p e below s (QL (some (.int (F0_235g p0 w0_53 w0_112 v15_235g))) n0) room_1.cells room_1.slots (T_235g.setTop (mkF m 235 #[.val (.int p0), .val (.int p1), .val (.int p2), .val (.int p3), .val (.int p4), .val (.int (3 : Int32)), .val (.int v6_22c), .val (.int (((p4.toUInt32 >>> ((4 : Int32) &&& 31).toUInt32).toInt32) &&& (3 : Int32))), .val (.int (((p4.toUInt32 >>> ((6 : Int32) &&& 31).toUInt32).toInt32) &&& (3 : Int32))), .val (.int p0), .val (.int w0_53), .val (.int w0_77), .val (.int w0_112), .val (.ref b78), .val (.int (F9 (0 : Int32) w0_112 [p0, w0_53, (0 : Int32), w0_112, (0 : Int32), (0 : Int32), (0 : Int32), (0 : Int32)] [(0 : Int32), (3 : Int32)] [(2 : Int32), (1 : Int32)])), .val (.int v15_235g)] [])) := by
                            intro v15_235g T_235g l_235g X_235g e_235g N_235g
                            unfold F0_235g
                            refine Go.of (fun t k => XS.iload X_235g.here hx rfl (hb hby at_235) rfl k) ?_
                            refine Go.of (fun t k => XS.iload X_235g.here hx rfl (hb hby at_237) rfl k) ?_
                            show Go p e below s _ _ _ (T_235g.setTop (mkF m 239 #[.val (.int p0), .val (.int p1), .val (.int p2), .val (.int p3), .val (.int p4), .val (.int (3 : Int32)), .val (.int v6_22c), .val (.int (((p4.toUInt32 >>> ((4 : Int32) &&& 31).toUInt32).toInt32) &&& (3 : Int32))), .val (.int (((p4.toUInt32 >>> ((6 : Int32) &&& 31).toUInt32).toInt32) &&& (3 : Int32))), .val (.int p0), .val (.int w0_53), .val (.int w0_77), .val (.int w0_112), .val (.ref b78), .val (.int (F9 (0 : Int32) w0_112 [p0, w0_53, (0 : Int32), w0_112, (0 : Int32), (0 : Int32), (0 : Int32), (0 : Int32)] [(0 : Int32), (3 : Int32)] [(2 : Int32), (1 : Int32)])), .val (.int v15_235g)] [(.int v15_235g), (.int (F9 (0 : Int32) w0_112 [p0, w0_53, (0 : Int32), w0_112, (0 : Int32), (0 : Int32), (0 : Int32), (0 : Int32)] [(0 : Int32), (3 : Int32)] [(2 : Int32), (1 : Int32)]))]))
                            by_cases hc239_105 : (F9 (0 : Int32) w0_112 [p0, w0_53, (0 : Int32), w0_112, (0 : Int32), (0 : Int32), (0 : Int32), (0 : Int32)] [(0 : Int32), (3 : Int32)] [(2 : Int32), (1 : Int32)]) = v15_235g
                            · rewrite [if_pos hc239_105]
                              refine Go.of (fun t k => XS.icmpNo X_235g.here hx rfl (hb hby at_239) rfl (teq hc239_105).2 k) ?_
                              show Go p e below s _ _ _ (T_235g.setTop (mkF m 242 #[.val (.int p0), .val (.int p1), .val (.int p2), .val (.int p3), .val (.int p4), .val (.int (3 : Int32)), .val (.int v6_22c), .val (.int (((p4.toUInt32 >>> ((4 : Int32) &&& 31).toUInt32).toInt32) &&& (3 : Int32))), .val (.int (((p4.toUInt32 >>> ((6 : Int32) &&& 31).toUInt32).toInt32) &&& (3 : Int32))), .val (.int p0), .val (.int w0_53), .val (.int w0_77), .val (.int w0_112), .val (.ref b78), .val (.int (F9 (0 : Int32) w0_112 [p0, w0_53, (0 : Int32), w0_112, (0 : Int32), (0 : Int32), (0 : Int32), (0 : Int32)] [(0 : Int32), (3 : Int32)] [(2 : Int32), (1 : Int32)])), .val (.int v15_235g)] []))
                              refine Go.of (fun t k => XS.iconst X_235g.here hx rfl (hb hby at_242) k) ?_
                              refine Go.of (fun t k => XS.goto X_235g.here hx rfl (pc0 := 243) (pc' := 247) rfl (hb hby at_243) (by decide) (by decide) k) ?_
                              show Go p e below s _ _ _ (T_235g.setTop (mkF m 247 #[.val (.int p0), .val (.int p1), .val (.int p2), .val (.int p3), .val (.int p4), .val (.int (3 : Int32)), .val (.int v6_22c), .val (.int (((p4.toUInt32 >>> ((4 : Int32) &&& 31).toUInt32).toInt32) &&& (3 : Int32))), .val (.int (((p4.toUInt32 >>> ((6 : Int32) &&& 31).toUInt32).toInt32) &&& (3 : Int32))), .val (.int p0), .val (.int w0_53), .val (.int w0_77), .val (.int w0_112), .val (.ref b78), .val (.int (F9 (0 : Int32) w0_112 [p0, w0_53, (0 : Int32), w0_112, (0 : Int32), (0 : Int32), (0 : Int32), (0 : Int32)] [(0 : Int32), (3 : Int32)] [(2 : Int32), (1 : Int32)])), .val (.int v15_235g)] [(.int (1 : Int32))]))
                              exact Go.ret X_235g (some (.int (1 : Int32))) (fun h => by rw [Bd.returns] at h; cases h) hlk ⟨rfl, N_235g⟩ (by decide) (by decide) (fun fs hr => (retN X_235g hx (t := .boolean) Bd.returns (by simp) (hb hby at_247) hr))
                            · rewrite [if_neg hc239_105]
                              refine Go.of (fun t k => XS.icmpYes X_235g.here hx rfl (pc0 := 239) (pc' := 246) rfl (hb hby at_239) rfl (feq hc239_105).2 (by decide) (by decide) k) ?_
                              show Go p e below s _ _ _ (T_235g.setTop (mkF m 246 #[.val (.int p0), .val (.int p1), .val (.int p2), .val (.int p3), .val (.int p4), .val (.int (3 : Int32)), .val (.int v6_22c), .val (.int (((p4.toUInt32 >>> ((4 : Int32) &&& 31).toUInt32).toInt32) &&& (3 : Int32))), .val (.int (((p4.toUInt32 >>> ((6 : Int32) &&& 31).toUInt32).toInt32) &&& (3 : Int32))), .val (.int p0), .val (.int w0_53), .val (.int w0_77), .val (.int w0_112), .val (.ref b78), .val (.int (F9 (0 : Int32) w0_112 [p0, w0_53, (0 : Int32), w0_112, (0 : Int32), (0 : Int32), (0 : Int32), (0 : Int32)] [(0 : Int32), (3 : Int32)] [(2 : Int32), (1 : Int32)])), .val (.int v15_235g)] []))
                              refine Go.of (fun t k => XS.iconst X_235g.here hx rfl (hb hby at_246) k) ?_
                              show Go p e below s _ _ _ (T_235g.setTop (mkF m 247 #[.val (.int p0), .val (.int p1), .val (.int p2), .val (.int p3), .val (.int p4), .val (.int (3 : Int32)), .val (.int v6_22c), .val (.int (((p4.toUInt32 >>> ((4 : Int32) &&& 31).toUInt32).toInt32) &&& (3 : Int32))), .val (.int (((p4.toUInt32 >>> ((6 : Int32) &&& 31).toUInt32).toInt32) &&& (3 : Int32))), .val (.int p0), .val (.int w0_53), .val (.int w0_77), .val (.int w0_112), .val (.ref b78), .val (.int (F9 (0 : Int32) w0_112 [p0, w0_53, (0 : Int32), w0_112, (0 : Int32), (0 : Int32), (0 : Int32), (0 : Int32)] [(0 : Int32), (3 : Int32)] [(2 : Int32), (1 : Int32)])), .val (.int v15_235g)] [(.int (0 : Int32))]))
                              exact Go.ret X_235g (some (.int (0 : Int32))) (fun h => by rw [Bd.returns] at h; cases h) hlk ⟨rfl, N_235g⟩ (by decide) (by decide) (fun fs hr => (retN X_235g hx (t := .boolean) Bd.returns (by simp) (hb hby at_247) hr))
                          by_cases hc229_106 : p0 = w0_112
                          · rewrite [if_pos hc229_106]
                            refine Go.of (fun t k => XS.icmpNo X_225g.here hx rfl (hb hby at_229) rfl (teq hc229_106).2 k) ?_
                            show Go p e below s _ _ _ (T_225g.setTop (mkF m 232 #[.val (.int p0), .val (.int p1), .val (.int p2), .val (.int p3), .val (.int p4), .val (.int (3 : Int32)), .val (.int v6_22c), .val (.int (((p4.toUInt32 >>> ((4 : Int32) &&& 31).toUInt32).toInt32) &&& (3 : Int32))), .val (.int (((p4.toUInt32 >>> ((6 : Int32) &&& 31).toUInt32).toInt32) &&& (3 : Int32))), .val (.int p0), .val (.int w0_53), .val (.int w0_77), .val (.int w0_112), .val (.ref b78), .val (.int (F9 (0 : Int32) w0_112 [p0, w0_53, (0 : Int32), w0_112, (0 : Int32), (0 : Int32), (0 : Int32), (0 : Int32)] [(0 : Int32), (3 : Int32)] [(2 : Int32), (1 : Int32)])), .val (.int v15_225g)] []))
                            refine Go.of (fun t k => XS.iconst X_225g.here hx rfl (hb hby at_232) k) ?_
                            refine Go.of (fun t k => XS.istore X_225g.here hx rfl (hb hby at_233) rfl (l' := #[.val (.int p0), .val (.int p1), .val (.int p2), .val (.int p3), .val (.int p4), .val (.int (3 : Int32)), .val (.int v6_22c), .val (.int (((p4.toUInt32 >>> ((4 : Int32) &&& 31).toUInt32).toInt32) &&& (3 : Int32))), .val (.int (((p4.toUInt32 >>> ((6 : Int32) &&& 31).toUInt32).toInt32) &&& (3 : Int32))), .val (.int p0), .val (.int w0_53), .val (.int w0_77), .val (.int w0_112), .val (.ref b78), .val (.int (F9 (0 : Int32) w0_112 [p0, w0_53, (0 : Int32), w0_112, (0 : Int32), (0 : Int32), (0 : Int32), (0 : Int32)] [(0 : Int32), (3 : Int32)] [(2 : Int32), (1 : Int32)])), .val (.int (0 : Int32))]) rfl k) ?_
                            show Go p e below s _ _ _ (T_225g.setTop (mkF m 235 #[.val (.int p0), .val (.int p1), .val (.int p2), .val (.int p3), .val (.int p4), .val (.int (3 : Int32)), .val (.int v6_22c), .val (.int (((p4.toUInt32 >>> ((4 : Int32) &&& 31).toUInt32).toInt32) &&& (3 : Int32))), .val (.int (((p4.toUInt32 >>> ((6 : Int32) &&& 31).toUInt32).toInt32) &&& (3 : Int32))), .val (.int p0), .val (.int w0_53), .val (.int w0_77), .val (.int w0_112), .val (.ref b78), .val (.int (F9 (0 : Int32) w0_112 [p0, w0_53, (0 : Int32), w0_112, (0 : Int32), (0 : Int32), (0 : Int32), (0 : Int32)] [(0 : Int32), (3 : Int32)] [(2 : Int32), (1 : Int32)])), .val (.int (0 : Int32))] []))
                            exact jn235g (0 : Int32)  T_225g _ X_225g e_225g N_225g  
                          · rewrite [if_neg hc229_106]
                            refine Go.of (fun t k => XS.icmpYes X_225g.here hx rfl (pc0 := 229) (pc' := 235) rfl (hb hby at_229) rfl (feq hc229_106).2 (by decide) (by decide) k) ?_
                            show Go p e below s _ _ _ (T_225g.setTop (mkF m 235 #[.val (.int p0), .val (.int p1), .val (.int p2), .val (.int p3), .val (.int p4), .val (.int (3 : Int32)), .val (.int v6_22c), .val (.int (((p4.toUInt32 >>> ((4 : Int32) &&& 31).toUInt32).toInt32) &&& (3 : Int32))), .val (.int (((p4.toUInt32 >>> ((6 : Int32) &&& 31).toUInt32).toInt32) &&& (3 : Int32))), .val (.int p0), .val (.int w0_53), .val (.int w0_77), .val (.int w0_112), .val (.ref b78), .val (.int (F9 (0 : Int32) w0_112 [p0, w0_53, (0 : Int32), w0_112, (0 : Int32), (0 : Int32), (0 : Int32), (0 : Int32)] [(0 : Int32), (3 : Int32)] [(2 : Int32), (1 : Int32)])), .val (.int v15_225g)] []))
                            exact jn235g v15_225g  T_225g _ X_225g e_225g N_225g  
                        refine Go.of (fun t k => XS.icmpNo X_209g.here hx rfl (hb hby at_212) rfl (flt hc148_95).1 k) ?_
                        show Go p e below s _ _ _ (T_209g.setTop (mkF m 215 #[.val (.int p0), .val (.int p1), .val (.int p2), .val (.int p3), .val (.int p4), .val (.int (3 : Int32)), .val (.int v6_22c), .val (.int (((p4.toUInt32 >>> ((4 : Int32) &&& 31).toUInt32).toInt32) &&& (3 : Int32))), .val (.int (((p4.toUInt32 >>> ((6 : Int32) &&& 31).toUInt32).toInt32) &&& (3 : Int32))), .val (.int p0), .val (.int w0_53), .val (.int w0_77), .val (.int w0_112), .val (.ref b78), .val (.int (F9 (0 : Int32) w0_112 [p0, w0_53, (0 : Int32), w0_112, (0 : Int32), (0 : Int32), (0 : Int32), (0 : Int32)] [(0 : Int32), (3 : Int32)] [(2 : Int32), (1 : Int32)])), .val (.int v15_209g)] []))
                        refine Go.of (fun t k => XS.iload X_209g.here hx rfl (hb hby at_215) rfl k) ?_
                        refine Go.of (fun t k => XS.iload X_209g.here hx rfl (hb hby at_217) rfl k) ?_
                        show Go p e below s _ _ _ (T_209g.setTop (mkF m 219 #[.val (.int p0), .val (.int p1), .val (.int p2), .val (.int p3), .val (.int p4), .val (.int (3 : Int32)), .val (.int v6_22c), .val (.int (((p4.toUInt32 >>> ((4 : Int32) &&& 31).toUInt32).toInt32) &&& (3 : Int32))), .val (.int (((p4.toUInt32 >>> ((6 : Int32) &&& 31).toUInt32).toInt32) &&& (3 : Int32))), .val (.int p0), .val (.int w0_53), .val (.int w0_77), .val (.int w0_112), .val (.ref b78), .val (.int (F9 (0 : Int32) w0_112 [p0, w0_53, (0 : Int32), w0_112, (0 : Int32), (0 : Int32), (0 : Int32), (0 : Int32)] [(0 : Int32), (3 : Int32)] [(2 : Int32), (1 : Int32)])), .val (.int v15_209g)] [(.int w0_112), (.int w0_53)]))
                        by_cases hc219_107 : w0_53 = w0_112
                        · rewrite [if_pos hc219_107]
                          refine Go.of (fun t k => XS.icmpNo X_209g.here hx rfl (hb hby at_219) rfl (teq hc219_107).2 k) ?_
                          show Go p e below s _ _ _ (T_209g.setTop (mkF m 222 #[.val (.int p0), .val (.int p1), .val (.int p2), .val (.int p3), .val (.int p4), .val (.int (3 : Int32)), .val (.int v6_22c), .val (.int (((p4.toUInt32 >>> ((4 : Int32) &&& 31).toUInt32).toInt32) &&& (3 : Int32))), .val (.int (((p4.toUInt32 >>> ((6 : Int32) &&& 31).toUInt32).toInt32) &&& (3 : Int32))), .val (.int p0), .val (.int w0_53), .val (.int w0_77), .val (.int w0_112), .val (.ref b78), .val (.int (F9 (0 : Int32) w0_112 [p0, w0_53, (0 : Int32), w0_112, (0 : Int32), (0 : Int32), (0 : Int32), (0 : Int32)] [(0 : Int32), (3 : Int32)] [(2 : Int32), (1 : Int32)])), .val (.int v15_209g)] []))
                          refine Go.of (fun t k => XS.iconst X_209g.here hx rfl (hb hby at_222) k) ?_
                          refine Go.of (fun t k => XS.istore X_209g.here hx rfl (hb hby at_223) rfl (l' := #[.val (.int p0), .val (.int p1), .val (.int p2), .val (.int p3), .val (.int p4), .val (.int (3 : Int32)), .val (.int v6_22c), .val (.int (((p4.toUInt32 >>> ((4 : Int32) &&& 31).toUInt32).toInt32) &&& (3 : Int32))), .val (.int (((p4.toUInt32 >>> ((6 : Int32) &&& 31).toUInt32).toInt32) &&& (3 : Int32))), .val (.int p0), .val (.int w0_53), .val (.int w0_77), .val (.int w0_112), .val (.ref b78), .val (.int (F9 (0 : Int32) w0_112 [p0, w0_53, (0 : Int32), w0_112, (0 : Int32), (0 : Int32), (0 : Int32), (0 : Int32)] [(0 : Int32), (3 : Int32)] [(2 : Int32), (1 : Int32)])), .val (.int (1 : Int32))]) rfl k) ?_
                          show Go p e below s _ _ _ (T_209g.setTop (mkF m 225 #[.val (.int p0), .val (.int p1), .val (.int p2), .val (.int p3), .val (.int p4), .val (.int (3 : Int32)), .val (.int v6_22c), .val (.int (((p4.toUInt32 >>> ((4 : Int32) &&& 31).toUInt32).toInt32) &&& (3 : Int32))), .val (.int (((p4.toUInt32 >>> ((6 : Int32) &&& 31).toUInt32).toInt32) &&& (3 : Int32))), .val (.int p0), .val (.int w0_53), .val (.int w0_77), .val (.int w0_112), .val (.ref b78), .val (.int (F9 (0 : Int32) w0_112 [p0, w0_53, (0 : Int32), w0_112, (0 : Int32), (0 : Int32), (0 : Int32), (0 : Int32)] [(0 : Int32), (3 : Int32)] [(2 : Int32), (1 : Int32)])), .val (.int (1 : Int32))] []))
                          exact jn225g (1 : Int32)  T_209g _ X_209g e_209g N_209g  
                        · rewrite [if_neg hc219_107]
                          refine Go.of (fun t k => XS.icmpYes X_209g.here hx rfl (pc0 := 219) (pc' := 225) rfl (hb hby at_219) rfl (feq hc219_107).2 (by decide) (by decide) k) ?_
                          show Go p e below s _ _ _ (T_209g.setTop (mkF m 225 #[.val (.int p0), .val (.int p1), .val (.int p2), .val (.int p3), .val (.int p4), .val (.int (3 : Int32)), .val (.int v6_22c), .val (.int (((p4.toUInt32 >>> ((4 : Int32) &&& 31).toUInt32).toInt32) &&& (3 : Int32))), .val (.int (((p4.toUInt32 >>> ((6 : Int32) &&& 31).toUInt32).toInt32) &&& (3 : Int32))), .val (.int p0), .val (.int w0_53), .val (.int w0_77), .val (.int w0_112), .val (.ref b78), .val (.int (F9 (0 : Int32) w0_112 [p0, w0_53, (0 : Int32), w0_112, (0 : Int32), (0 : Int32), (0 : Int32), (0 : Int32)] [(0 : Int32), (3 : Int32)] [(2 : Int32), (1 : Int32)])), .val (.int v15_209g)] []))
                          exact jn225g v15_209g  T_209g _ X_209g e_209g N_209g  
                      refine Go.of (fun t k => XS.icmpYes X104.here hx rfl (pc0 := 196) (pc' := 209) rfl (hb hby at_196) rfl (tlt hc165_103).1 (by decide) (by decide) k) ?_
                      show Go p e below s _ _ _ (T104.setTop (mkF m 209 #[.val (.int p0), .val (.int p1), .val (.int p2), .val (.int p3), .val (.int p4), .val (.int (3 : Int32)), .val (.int v6_22c), .val (.int (((p4.toUInt32 >>> ((4 : Int32) &&& 31).toUInt32).toInt32) &&& (3 : Int32))), .val (.int (((p4.toUInt32 >>> ((6 : Int32) &&& 31).toUInt32).toInt32) &&& (3 : Int32))), .val (.int p0), .val (.int w0_53), .val (.int w0_77), .val (.int w0_112), .val (.ref b78), .val (.int (F9 (0 : Int32) w0_112 [p0, w0_53, (0 : Int32), w0_112, (0 : Int32), (0 : Int32), (0 : Int32), (0 : Int32)] [(0 : Int32), (3 : Int32)] [(2 : Int32), (1 : Int32)])), .val (.int v6_22c)] []))
                      exact jn209g v6_22c  T104 _ X104 e104 N104  
                    · rewrite [if_neg hc165_103]
                      refine Go.of (fun t k => XS.icmpNo X100.here hx rfl (hb hby at_165) rfl (flt hc165_103).1 k) ?_
                      show Go p e below s _ _ _ (T100.setTop (mkF m 168 #[.val (.int p0), .val (.int p1), .val (.int p2), .val (.int p3), .val (.int p4), .val (.int (3 : Int32)), .val (.int v6_22c), .val (.int (((p4.toUInt32 >>> ((4 : Int32) &&& 31).toUInt32).toInt32) &&& (3 : Int32))), .val (.int (((p4.toUInt32 >>> ((6 : Int32) &&& 31).toUInt32).toInt32) &&& (3 : Int32))), .val (.int p0), .val (.int w0_53), .val (.int w0_77), .val (.int w0_112), .val (.ref b78), .unset, .unset] []))
                      refine Go.of (fun t k => XS.aload X100.here hx rfl (hb hby at_168) rfl rfl k) ?_
                      refine Go.of (fun t k => XS.iconst X100.here hx rfl (hb hby at_170) k) ?_
                      refine Go.of (fun t k => XS.iconst X100.here hx rfl (hb hby at_171) k) ?_
                      refine Go.of (fun t k => XS.iload X100.here hx rfl (hb hby at_172) rfl k) ?_
                      refine Go.of (fun t k => XS.iconst X100.here hx rfl (hb hby at_174) k) ?_
                      refine Go.of (fun t k => XS.iconst X100.here hx rfl (hb hby at_175) k) ?_
                      show Go p e below s _ _ _ (T100.setTop (mkF m 176 #[.val (.int p0), .val (.int p1), .val (.int p2), .val (.int p3), .val (.int p4), .val (.int (3 : Int32)), .val (.int v6_22c), .val (.int (((p4.toUInt32 >>> ((4 : Int32) &&& 31).toUInt32).toInt32) &&& (3 : Int32))), .val (.int (((p4.toUInt32 >>> ((6 : Int32) &&& 31).toUInt32).toInt32) &&& (3 : Int32))), .val (.int p0), .val (.int w0_53), .val (.int w0_77), .val (.int w0_112), .val (.ref b78), .unset, .unset] [(.int (1 : Int32)), (.int (0 : Int32)), (.int w0_77), (.int (2 : Int32)), (.int (0 : Int32)), (.ref b78)]))
                      obtain ⟨cq108, kq108, q108a, q108b, q108c⟩ := isOf hZ rfl E_102
                      obtain ⟨_, _, ⟨T108, L108, k108, n108⟩, -, X108, ⟨Lc108, hQ108, l108, y108, z108⟩, st108⟩ := X100.virtualBack hx (y := (⟨"com/example/susurrus/susurrus/KnownUnits", "keep", "(IIIII)V"⟩ : MethodName)) (z := (⟨"com/example/susurrus/susurrus/KnownUnits", "keep", "(IIIII)V"⟩ : MethodName)) hown (mvT hZ (hw _ (List.mem_of_getElem? (i := 59) rfl))) (mvT hZ (hw _ (List.mem_of_getElem? (i := 60) rfl))) (notFace_of_selects (args := #[]) (mvT hZ (hw _ (List.mem_of_getElem? (i := 62) rfl)))) (mvT hZ (hw _ (List.mem_of_getElem? (i := 62) rfl))) (mvT hZ (hw _ (List.mem_of_getElem? (i := 61) rfl))) (by decide) (backOf (W := 0) (rm10B l Z az hw [] b78 (0 : Int32) (2 : Int32) w0_77 (0 : Int32) (1 : Int32) bu101 bg101 bd101 xt87 xr87 xc87 ku101 kg101 kd101 kxt87 kxr87 kxc87 (6 : Int32) [p0, w0_53, (0 : Int32), w0_112, (0 : Int32), (0 : Int32), (0 : Int32), (0 : Int32)] [(0 : Int32), (0 : Int32), (0 : Int32), (0 : Int32), (0 : Int32), (0 : Int32), (0 : Int32), (0 : Int32)] [(-1 : Int32), (0 : Int32), (0 : Int32), (-1 : Int32), (0 : Int32), (0 : Int32), (0 : Int32), (0 : Int32)] [(0 : Int32), (3 : Int32)] [(3 : Int32), (1 : Int32)] [(2 : Int32), (1 : Int32)] (4 : Int32) T100.heap n0 Zk102 ⟨E_102, Ff0_102, Ff1_102, Ff2_102, Ff3_102, Ff4_102, Ff5_102, Ff6_102, Vv0_102, Vv1_102, Vv2_102, Vv3_102, Vv4_102, Vv5_102, g_b78, g_bu101, g_bg101, g_bd101, g_xt87, g_xr87, g_xc87, Zk102, ne_0_1_102, ne_0_2_102, ne_0_3_102, ne_0_4_102, ne_0_5_102, ne_0_6_102, ne_1_2_102, ne_1_3_102, ne_1_4_102, ne_1_5_102, ne_1_6_102, ne_2_3_102, ne_2_4_102, ne_2_5_102, ne_2_6_102, ne_3_4_102, ne_3_5_102, ne_3_6_102, ne_4_5_102, ne_4_6_102, ne_5_6_102⟩ (by decide) (by decide) (by decide) (by decide) (by decide) (⟨rfl, rfl, rfl⟩)) hZ (hw _ (List.mem_of_getElem? (i := 63) rfl)) (hw _ (List.mem_of_getElem? (i := 6) rfl)) (by decide) (by decide)) q108a q108c (g := (mkF m 176 #[.val (.int p0), .val (.int p1), .val (.int p2), .val (.int p3), .val (.int p4), .val (.int (3 : Int32)), .val (.int v6_22c), .val (.int (((p4.toUInt32 >>> ((4 : Int32) &&& 31).toUInt32).toInt32) &&& (3 : Int32))), .val (.int (((p4.toUInt32 >>> ((6 : Int32) &&& 31).toUInt32).toInt32) &&& (3 : Int32))), .val (.int p0), .val (.int w0_53), .val (.int w0_77), .val (.int w0_112), .val (.ref b78), .unset, .unset] [(.int (1 : Int32)), (.int (0 : Int32)), (.int w0_77), (.int (2 : Int32)), (.int (0 : Int32)), (.ref b78)])) rfl (by rw [hml]; rfl) (Steps.refl _) (argsL := [(.int (0 : Int32)), (.int (2 : Int32)), (.int w0_77), (.int (0 : Int32)), (.int (1 : Int32))]) (rest := []) (lenOf own_pd7 rfl) rfl (by show 2 * 0 + _ ≤ _; exact Nat.le_of_eq rfl) (hb hby at_176) (fun _ _ => ⟨rfl, rfl, (by decide : 13 + 0 ≤ _), (by decide : 61 + 0 ≤ _)⟩)
                      dsimp only [Pt.U, Pt.locs, Pt.cells, Pt.slots] at X108 l108 y108 z108 st108 hQ108
                      subst l108 y108 z108
                      obtain ⟨rfl, N108q, bu109, bg109, bd109, ku109, kg109, kd109, hK109⟩ := hQ108
                      have N108 := Fr.app N100 N108q
                      have hS109 : own_K Z T108.heap n0 b78 bu109 bg109 bd109 xt87 xr87 xc87 ku109 kg109 kd109 kxt87 kxr87 kxc87 (6 : Int32) [p0, w0_53, w0_77, w0_112, (0 : Int32), (0 : Int32), (0 : Int32), (0 : Int32)] [(0 : Int32), (0 : Int32), (0 : Int32), (0 : Int32), (0 : Int32), (0 : Int32), (0 : Int32), (0 : Int32)] [(-1 : Int32), (0 : Int32), (1 : Int32), (-1 : Int32), (0 : Int32), (0 : Int32), (0 : Int32), (0 : Int32)] [(0 : Int32), (3 : Int32)] [(3 : Int32), (1 : Int32)] [(3 : Int32), (1 : Int32)] (4 : Int32) := hK109
                      obtain ⟨E_110, Ff0_110, Ff1_110, Ff2_110, Ff3_110, Ff4_110, Ff5_110, Ff6_110, Vv0_110, Vv1_110, Vv2_110, Vv3_110, Vv4_110, Vv5_110, g_b78, g_bu109, g_bg109, g_bd109, g_xt87, g_xr87, g_xc87, Zk110, ne_0_1_110, ne_0_2_110, ne_0_3_110, ne_0_4_110, ne_0_5_110, ne_0_6_110, ne_1_2_110, ne_1_3_110, ne_1_4_110, ne_1_5_110, ne_1_6_110, ne_2_3_110, ne_2_4_110, ne_2_5_110, ne_2_6_110, ne_3_4_110, ne_3_5_110, ne_3_6_110, ne_4_5_110, ne_4_6_110, ne_5_6_110⟩ := id hS109
                      refine Go.of (fun t k => st108.trans k) ?_
                      show Go p e below s _ _ _ (T108.setTop (mkF m 179 #[.val (.int p0), .val (.int p1), .val (.int p2), .val (.int p3), .val (.int p4), .val (.int (3 : Int32)), .val (.int v6_22c), .val (.int (((p4.toUInt32 >>> ((4 : Int32) &&& 31).toUInt32).toInt32) &&& (3 : Int32))), .val (.int (((p4.toUInt32 >>> ((6 : Int32) &&& 31).toUInt32).toInt32) &&& (3 : Int32))), .val (.int p0), .val (.int w0_53), .val (.int w0_77), .val (.int w0_112), .val (.ref b78), .unset, .unset] []))
                      refine Go.of (fun t k => XS.aload X108.here hx rfl (hb hby at_179) rfl rfl k) ?_
                      refine Go.of (fun t k => XS.iconst X108.here hx rfl (hb hby at_181) k) ?_
                      refine Go.of (fun t k => XS.iload X108.here hx rfl (hb hby at_182) rfl k) ?_
                      show Go p e below s _ _ _ (T108.setTop (mkF m 184 #[.val (.int p0), .val (.int p1), .val (.int p2), .val (.int p3), .val (.int p4), .val (.int (3 : Int32)), .val (.int v6_22c), .val (.int (((p4.toUInt32 >>> ((4 : Int32) &&& 31).toUInt32).toInt32) &&& (3 : Int32))), .val (.int (((p4.toUInt32 >>> ((6 : Int32) &&& 31).toUInt32).toInt32) &&& (3 : Int32))), .val (.int p0), .val (.int w0_53), .val (.int w0_77), .val (.int w0_112), .val (.ref b78), .unset, .unset] [(.int w0_112), (.int (0 : Int32)), (.ref b78)]))
                      obtain ⟨cq111, kq111, q111a, q111b, q111c⟩ := isOf hZ rfl E_110
                      obtain ⟨_, _, ⟨T111, L111, k111, n111⟩, -, X111, ⟨Lc111, hQ111, l111, y111, z111⟩, st111⟩ := X108.virtualBack hx (y := (⟨"com/example/susurrus/susurrus/KnownUnits", "find", "(II)I"⟩ : MethodName)) (z := (⟨"com/example/susurrus/susurrus/KnownUnits", "find", "(II)I"⟩ : MethodName)) hown (mvT hZ (hw _ (List.mem_of_getElem? (i := 54) rfl))) (mvT hZ (hw _ (List.mem_of_getElem? (i := 55) rfl))) (notFace_of_selects (args := #[]) (mvT hZ (hw _ (List.mem_of_getElem? (i := 57) rfl)))) (mvT hZ (hw _ (List.mem_of_getElem? (i := 57) rfl))) (mvT hZ (hw _ (List.mem_of_getElem? (i := 56) rfl))) (by decide) (backOf (W := 0) (rm9 l Z az hw [] b78 (0 : Int32) w0_112 bu109 bg109 bd109 xt87 xr87 xc87 ku109 kg109 kd109 kxt87 kxr87 kxc87 (6 : Int32) [p0, w0_53, w0_77, w0_112, (0 : Int32), (0 : Int32), (0 : Int32), (0 : Int32)] [(0 : Int32), (0 : Int32), (0 : Int32), (0 : Int32), (0 : Int32), (0 : Int32), (0 : Int32), (0 : Int32)] [(-1 : Int32), (0 : Int32), (1 : Int32), (-1 : Int32), (0 : Int32), (0 : Int32), (0 : Int32), (0 : Int32)] [(0 : Int32), (3 : Int32)] [(3 : Int32), (1 : Int32)] [(3 : Int32), (1 : Int32)] (4 : Int32) T108.heap n0 Zk110 ⟨E_110, Ff0_110, Ff1_110, Ff2_110, Ff3_110, Ff4_110, Ff5_110, Ff6_110, Vv0_110, Vv1_110, Vv2_110, Vv3_110, Vv4_110, Vv5_110, g_b78, g_bu109, g_bg109, g_bd109, g_xt87, g_xr87, g_xc87, Zk110, ne_0_1_110, ne_0_2_110, ne_0_3_110, ne_0_4_110, ne_0_5_110, ne_0_6_110, ne_1_2_110, ne_1_3_110, ne_1_4_110, ne_1_5_110, ne_1_6_110, ne_2_3_110, ne_2_4_110, ne_2_5_110, ne_2_6_110, ne_3_4_110, ne_3_5_110, ne_3_6_110, ne_4_5_110, ne_4_6_110, ne_5_6_110⟩ (by decide) (by decide)) hZ (hw _ (List.mem_of_getElem? (i := 58) rfl)) (hw _ (List.mem_of_getElem? (i := 6) rfl)) (by decide) (by decide)) q111a q111c (g := (mkF m 184 #[.val (.int p0), .val (.int p1), .val (.int p2), .val (.int p3), .val (.int p4), .val (.int (3 : Int32)), .val (.int v6_22c), .val (.int (((p4.toUInt32 >>> ((4 : Int32) &&& 31).toUInt32).toInt32) &&& (3 : Int32))), .val (.int (((p4.toUInt32 >>> ((6 : Int32) &&& 31).toUInt32).toInt32) &&& (3 : Int32))), .val (.int p0), .val (.int w0_53), .val (.int w0_77), .val (.int w0_112), .val (.ref b78), .unset, .unset] [(.int w0_112), (.int (0 : Int32)), (.ref b78)])) rfl (by rw [hml]; rfl) (Steps.refl _) (argsL := [(.int (0 : Int32)), (.int w0_112)]) (rest := []) (lenOf own_pd0 rfl) rfl (by show 2 * 0 + _ ≤ _; exact Nat.le_of_eq rfl) (hb hby at_184) (fun _ _ => ⟨rfl, rfl, (by decide : 13 + 0 ≤ _), (by decide : 61 + 0 ≤ _)⟩)
                      dsimp only [Pt.U, Pt.locs, Pt.cells, Pt.slots] at X111 l111 y111 z111 st111 hQ111
                      subst l111 y111 z111
                      obtain ⟨rfl, N111q, e111⟩ := hQ111
                      have N111 := Fr.app N108 N111q
                      refine Go.of (fun t k => st111.trans k) ?_
                      show Go p e below s _ _ _ (T111.setTop (mkF m 187 #[.val (.int p0), .val (.int p1), .val (.int p2), .val (.int p3), .val (.int p4), .val (.int (3 : Int32)), .val (.int v6_22c), .val (.int (((p4.toUInt32 >>> ((4 : Int32) &&& 31).toUInt32).toInt32) &&& (3 : Int32))), .val (.int (((p4.toUInt32 >>> ((6 : Int32) &&& 31).toUInt32).toInt32) &&& (3 : Int32))), .val (.int p0), .val (.int w0_53), .val (.int w0_77), .val (.int w0_112), .val (.ref b78), .unset, .unset] [(.int (F9 (0 : Int32) w0_112 [p0, w0_53, w0_77, w0_112, (0 : Int32), (0 : Int32), (0 : Int32), (0 : Int32)] [(0 : Int32), (3 : Int32)] [(3 : Int32), (1 : Int32)]))]))
                      refine Go.of (fun t k => XS.istore X111.here hx rfl (hb hby at_187) rfl (l' := #[.val (.int p0), .val (.int p1), .val (.int p2), .val (.int p3), .val (.int p4), .val (.int (3 : Int32)), .val (.int v6_22c), .val (.int (((p4.toUInt32 >>> ((4 : Int32) &&& 31).toUInt32).toInt32) &&& (3 : Int32))), .val (.int (((p4.toUInt32 >>> ((6 : Int32) &&& 31).toUInt32).toInt32) &&& (3 : Int32))), .val (.int p0), .val (.int w0_53), .val (.int w0_77), .val (.int w0_112), .val (.ref b78), .val (.int (F9 (0 : Int32) w0_112 [p0, w0_53, w0_77, w0_112, (0 : Int32), (0 : Int32), (0 : Int32), (0 : Int32)] [(0 : Int32), (3 : Int32)] [(3 : Int32), (1 : Int32)])), .unset]) rfl k) ?_
                      refine Go.of (fun t k => XS.iload X111.here hx rfl (hb hby at_189) rfl k) ?_
                      refine Go.of (fun t k => XS.istore X111.here hx rfl (hb hby at_191) rfl (l' := #[.val (.int p0), .val (.int p1), .val (.int p2), .val (.int p3), .val (.int p4), .val (.int (3 : Int32)), .val (.int v6_22c), .val (.int (((p4.toUInt32 >>> ((4 : Int32) &&& 31).toUInt32).toInt32) &&& (3 : Int32))), .val (.int (((p4.toUInt32 >>> ((6 : Int32) &&& 31).toUInt32).toInt32) &&& (3 : Int32))), .val (.int p0), .val (.int w0_53), .val (.int w0_77), .val (.int w0_112), .val (.ref b78), .val (.int (F9 (0 : Int32) w0_112 [p0, w0_53, w0_77, w0_112, (0 : Int32), (0 : Int32), (0 : Int32), (0 : Int32)] [(0 : Int32), (3 : Int32)] [(3 : Int32), (1 : Int32)])), .val (.int v6_22c)]) rfl k) ?_
                      refine Go.of (fun t k => XS.iload X111.here hx rfl (hb hby at_193) rfl k) ?_
                      refine Go.of (fun t k => XS.iconst X111.here hx rfl (hb hby at_195) k) ?_
                      show Go p e below s _ _ _ (T111.setTop (mkF m 196 #[.val (.int p0), .val (.int p1), .val (.int p2), .val (.int p3), .val (.int p4), .val (.int (3 : Int32)), .val (.int v6_22c), .val (.int (((p4.toUInt32 >>> ((4 : Int32) &&& 31).toUInt32).toInt32) &&& (3 : Int32))), .val (.int (((p4.toUInt32 >>> ((6 : Int32) &&& 31).toUInt32).toInt32) &&& (3 : Int32))), .val (.int p0), .val (.int w0_53), .val (.int w0_77), .val (.int w0_112), .val (.ref b78), .val (.int (F9 (0 : Int32) w0_112 [p0, w0_53, w0_77, w0_112, (0 : Int32), (0 : Int32), (0 : Int32), (0 : Int32)] [(0 : Int32), (3 : Int32)] [(3 : Int32), (1 : Int32)])), .val (.int v6_22c)] [(.int (3 : Int32)), (.int v6_22c)]))
                      have jn209h : ∀ (v15_209h : Int32) (T_209h : State) (l_209h : List Loc) (X_209h : Stand p l e room_1 s m #[(.int p0), (.int p1), (.int p2), (.int p3), (.int p4)] below meth c T_209h l_209h 13 61) (e_209h : T_209h.heap = T108.heap) (N_209h : Fr n0 l_209h), Go p e below s (QL (some (.int (F0_209h p0 w0_53 w0_77 w0_112 v15_209h))) n0) room_1.cells room_1.slots (T_209h.setTop (mkF m 209 #[.val (.int p0), .val (.int p1), .val (.int p2), .val (.int p3), .val (.int p4), .val (.int (3 : Int32)), .val (.int v6_22c), .val (.int (((p4.toUInt32 >>> ((4 : Int32) &&& 31).toUInt32).toInt32) &&& (3 : Int32))), .val (.int (((p4.toUInt32 >>> ((6 : Int32) &&& 31).toUInt32).toInt32) &&& (3 : Int32))), .val (.int p0), .val (.int w0_53), .val (.int w0_77), .val (.int w0_112), .val (.ref b78), .val (.int (F9 (0 : Int32) w0_112 [p0, w0_53, w0_77, w0_112, (0 : Int32), (0 : Int32), (0 : Int32), (0 : Int32)] [(0 : Int32), (3 : Int32)] [(3 : Int32), (1 : Int32)])), .val (.int v15_209h)] [])) := by
                        intro v15_209h T_209h l_209h X_209h e_209h N_209h
                        unfold F0_209h
                        refine Go.of (fun t k => XS.iload X_209h.here hx rfl (hb hby at_209) rfl k) ?_
                        refine Go.of (fun t k => XS.iconst X_209h.here hx rfl (hb hby at_211) k) ?_
                        show Go p e below s _ _ _ (T_209h.setTop (mkF m 212 #[.val (.int p0), .val (.int p1), .val (.int p2), .val (.int p3), .val (.int p4), .val (.int (3 : Int32)), .val (.int v6_22c), .val (.int (((p4.toUInt32 >>> ((4 : Int32) &&& 31).toUInt32).toInt32) &&& (3 : Int32))), .val (.int (((p4.toUInt32 >>> ((6 : Int32) &&& 31).toUInt32).toInt32) &&& (3 : Int32))), .val (.int p0), .val (.int w0_53), .val (.int w0_77), .val (.int w0_112), .val (.ref b78), .val (.int (F9 (0 : Int32) w0_112 [p0, w0_53, w0_77, w0_112, (0 : Int32), (0 : Int32), (0 : Int32), (0 : Int32)] [(0 : Int32), (3 : Int32)] [(3 : Int32), (1 : Int32)])), .val (.int v15_209h)] [(.int (2 : Int32)), (.int v6_22c)]))
                        have jn225h : ∀ (v15_225h : Int32) (T_225h : State) (l_225h : List Loc) (X_225h : Stand p l e room_1 s m #[(.int p0), (.int p1), (.int p2), (.int p3), (.int p4)] below meth c T_225h l_225h 13 61) (e_225h : T_225h.heap = T108.heap) (N_225h : Fr n0 l_225h), Go p e below s (QL (some (.int (F0_225h p0 w0_53 w0_77 w0_112 v15_225h))) n0) room_1.cells room_1.slots (T_225h.setTop (mkF m 225 #[.val (.int p0), .val (.int p1), .val (.int p2), .val (.int p3), .val (.int p4), .val (.int (3 : Int32)), .val (.int v6_22c), .val (.int (((p4.toUInt32 >>> ((4 : Int32) &&& 31).toUInt32).toInt32) &&& (3 : Int32))), .val (.int (((p4.toUInt32 >>> ((6 : Int32) &&& 31).toUInt32).toInt32) &&& (3 : Int32))), .val (.int p0), .val (.int w0_53), .val (.int w0_77), .val (.int w0_112), .val (.ref b78), .val (.int (F9 (0 : Int32) w0_112 [p0, w0_53, w0_77, w0_112, (0 : Int32), (0 : Int32), (0 : Int32), (0 : Int32)] [(0 : Int32), (3 : Int32)] [(3 : Int32), (1 : Int32)])), .val (.int v15_225h)] [])) := by
                          intro v15_225h T_225h l_225h X_225h e_225h N_225h
                          unfold F0_225h
                          refine Go.of (fun t k => XS.iload X_225h.here hx rfl (hb hby at_225) rfl k) ?_
                          refine Go.of (fun t k => XS.iload X_225h.here hx rfl (hb hby at_227) rfl k) ?_
                          show Go p e below s _ _ _ (T_225h.setTop (mkF m 229 #[.val (.int p0), .val (.int p1), .val (.int p2), .val (.int p3), .val (.int p4), .val (.int (3 : Int32)), .val (.int v6_22c), .val (.int (((p4.toUInt32 >>> ((4 : Int32) &&& 31).toUInt32).toInt32) &&& (3 : Int32))), .val (.int (((p4.toUInt32 >>> ((6 : Int32) &&& 31).toUInt32).toInt32) &&& (3 : Int32))), .val (.int p0), .val (.int w0_53), .val (.int w0_77), .val (.int w0_112), .val (.ref b78), .val (.int (F9 (0 : Int32) w0_112 [p0, w0_53, w0_77, w0_112, (0 : Int32), (0 : Int32), (0 : Int32), (0 : Int32)] [(0 : Int32), (3 : Int32)] [(3 : Int32), (1 : Int32)])), .val (.int v15_225h)] [(.int w0_112), (.int p0)]))
                          have jn235h : ∀ (v15_235h : Int32) (T_235h : State) (l_235h : List Loc) (X_235h : Stand p l e room_1 s m #[(.int p0), (.int p1), (.int p2), (.int p3), (.int p4)] below meth c T_235h l_235h 13 61) (e_235h : T_235h.heap = T108.heap) (N_235h : Fr n0 l_235h), Go p e below s (QL (some (.int (F0_235h p0 w0_53 w0_77 w0_112 v15_235h))) n0) room_1.cells room_1.slots (T_235h.setTop (mkF m 235 #[.val (.int p0), .val (.int p1), .val (.int p2), .val (.int p3), .val (.int p4), .val (.int (3 : Int32)), .val (.int v6_22c), .val (.int (((p4.toUInt32 >>> ((4 : Int32) &&& 31).toUInt32).toInt32) &&& (3 : Int32))), .val (.int (((p4.toUInt32 >>> ((6 : Int32) &&& 31).toUInt32).toInt32) &&& (3 : Int32))), .val (.int p0), .val (.int w0_53), .val (.int w0_77), .val (.int w0_112), .val (.ref b78), .val (.int (F9 (0 : Int32) w0_112 [p0, w0_53, w0_77, w0_112, (0 : Int32), (0 : Int32), (0 : Int32), (0 : Int32)] [(0 : Int32), (3 : Int32)] [(3 : Int32), (1 : Int32)])), .val (.int v15_235h)] [])) := by
                            intro v15_235h T_235h l_235h X_235h e_235h N_235h
                            unfold F0_235h
                            refine Go.of (fun t k => XS.iload X_235h.here hx rfl (hb hby at_235) rfl k) ?_
                            refine Go.of (fun t k => XS.iload X_235h.here hx rfl (hb hby at_237) rfl k) ?_
                            show Go p e below s _ _ _ (T_235h.setTop (mkF m 239 #[.val (.int p0), .val (.int p1), .val (.int p2), .val (.int p3), .val (.int p4), .val (.int (3 : Int32)), .val (.int v6_22c), .val (.int (((p4.toUInt32 >>> ((4 : Int32) &&& 31).toUInt32).toInt32) &&& (3 : Int32))), .val (.int (((p4.toUInt32 >>> ((6 : Int32) &&& 31).toUInt32).toInt32) &&& (3 : Int32))), .val (.int p0), .val (.int w0_53), .val (.int w0_77), .val (.int w0_112), .val (.ref b78), .val (.int (F9 (0 : Int32) w0_112 [p0, w0_53, w0_77, w0_112, (0 : Int32), (0 : Int32), (0 : Int32), (0 : Int32)] [(0 : Int32), (3 : Int32)] [(3 : Int32), (1 : Int32)])), .val (.int v15_235h)] [(.int v15_235h), (.int (F9 (0 : Int32) w0_112 [p0, w0_53, w0_77, w0_112, (0 : Int32), (0 : Int32), (0 : Int32), (0 : Int32)] [(0 : Int32), (3 : Int32)] [(3 : Int32), (1 : Int32)]))]))
                            by_cases hc239_112 : (F9 (0 : Int32) w0_112 [p0, w0_53, w0_77, w0_112, (0 : Int32), (0 : Int32), (0 : Int32), (0 : Int32)] [(0 : Int32), (3 : Int32)] [(3 : Int32), (1 : Int32)]) = v15_235h
                            · rewrite [if_pos hc239_112]
                              refine Go.of (fun t k => XS.icmpNo X_235h.here hx rfl (hb hby at_239) rfl (teq hc239_112).2 k) ?_
                              show Go p e below s _ _ _ (T_235h.setTop (mkF m 242 #[.val (.int p0), .val (.int p1), .val (.int p2), .val (.int p3), .val (.int p4), .val (.int (3 : Int32)), .val (.int v6_22c), .val (.int (((p4.toUInt32 >>> ((4 : Int32) &&& 31).toUInt32).toInt32) &&& (3 : Int32))), .val (.int (((p4.toUInt32 >>> ((6 : Int32) &&& 31).toUInt32).toInt32) &&& (3 : Int32))), .val (.int p0), .val (.int w0_53), .val (.int w0_77), .val (.int w0_112), .val (.ref b78), .val (.int (F9 (0 : Int32) w0_112 [p0, w0_53, w0_77, w0_112, (0 : Int32), (0 : Int32), (0 : Int32), (0 : Int32)] [(0 : Int32), (3 : Int32)] [(3 : Int32), (1 : Int32)])), .val (.int v15_235h)] []))
                              refine Go.of (fun t k => XS.iconst X_235h.here hx rfl (hb hby at_242) k) ?_
                              refine Go.of (fun t k => XS.goto X_235h.here hx rfl (pc0 := 243) (pc' := 247) rfl (hb hby at_243) (by decide) (by decide) k) ?_
                              show Go p e below s _ _ _ (T_235h.setTop (mkF m 247 #[.val (.int p0), .val (.int p1), .val (.int p2), .val (.int p3), .val (.int p4), .val (.int (3 : Int32)), .val (.int v6_22c), .val (.int (((p4.toUInt32 >>> ((4 : Int32) &&& 31).toUInt32).toInt32) &&& (3 : Int32))), .val (.int (((p4.toUInt32 >>> ((6 : Int32) &&& 31).toUInt32).toInt32) &&& (3 : Int32))), .val (.int p0), .val (.int w0_53), .val (.int w0_77), .val (.int w0_112), .val (.ref b78), .val (.int (F9 (0 : Int32) w0_112 [p0, w0_53, w0_77, w0_112, (0 : Int32), (0 : Int32), (0 : Int32), (0 : Int32)] [(0 : Int32), (3 : Int32)] [(3 : Int32), (1 : Int32)])), .val (.int v15_235h)] [(.int (1 : Int32))]))
                              exact Go.ret X_235h (some (.int (1 : Int32))) (fun h => by rw [Bd.returns] at h; cases h) hlk ⟨rfl, N_235h⟩ (by decide) (by decide) (fun fs hr => (retN X_235h hx (t := .boolean) Bd.returns (by simp) (hb hby at_247) hr))
                            · rewrite [if_neg hc239_112]
                              refine Go.of (fun t k => XS.icmpYes X_235h.here hx rfl (pc0 := 239) (pc' := 246) rfl (hb hby at_239) rfl (feq hc239_112).2 (by decide) (by decide) k) ?_
                              show Go p e below s _ _ _ (T_235h.setTop (mkF m 246 #[.val (.int p0), .val (.int p1), .val (.int p2), .val (.int p3), .val (.int p4), .val (.int (3 : Int32)), .val (.int v6_22c), .val (.int (((p4.toUInt32 >>> ((4 : Int32) &&& 31).toUInt32).toInt32) &&& (3 : Int32))), .val (.int (((p4.toUInt32 >>> ((6 : Int32) &&& 31).toUInt32).toInt32) &&& (3 : Int32))), .val (.int p0), .val (.int w0_53), .val (.int w0_77), .val (.int w0_112), .val (.ref b78), .val (.int (F9 (0 : Int32) w0_112 [p0, w0_53, w0_77, w0_112, (0 : Int32), (0 : Int32), (0 : Int32), (0 : Int32)] [(0 : Int32), (3 : Int32)] [(3 : Int32), (1 : Int32)])), .val (.int v15_235h)] []))
                              refine Go.of (fun t k => XS.iconst X_235h.here hx rfl (hb hby at_246) k) ?_
                              show Go p e below s _ _ _ (T_235h.setTop (mkF m 247 #[.val (.int p0), .val (.int p1), .val (.int p2), .val (.int p3), .val (.int p4), .val (.int (3 : Int32)), .val (.int v6_22c), .val (.int (((p4.toUInt32 >>> ((4 : Int32) &&& 31).toUInt32).toInt32) &&& (3 : Int32))), .val (.int (((p4.toUInt32 >>> ((6 : Int32) &&& 31).toUInt32).toInt32) &&& (3 : Int32))), .val (.int p0), .val (.int w0_53), .val (.int w0_77), .val (.int w0_112), .val (.ref b78), .val (.int (F9 (0 : Int32) w0_112 [p0, w0_53, w0_77, w0_112, (0 : Int32), (0 : Int32), (0 : Int32), (0 : Int32)] [(0 : Int32), (3 : Int32)] [(3 : Int32), (1 : Int32)])), .val (.int v15_235h)] [(.int (0 : Int32))]))
                              exact Go.ret X_235h (some (.int (0 : Int32))) (fun h => by rw [Bd.returns] at h; cases h) hlk ⟨rfl, N_235h⟩ (by decide) (by decide) (fun fs hr => (retN X_235h hx (t := .boolean) Bd.returns (by simp) (hb hby at_247) hr))
                          by_cases hc229_113 : p0 = w0_112
                          · rewrite [if_pos hc229_113]
                            refine Go.of (fun t k => XS.icmpNo X_225h.here hx rfl (hb hby at_229) rfl (teq hc229_113).2 k) ?_
                            show Go p e below s _ _ _ (T_225h.setTop (mkF m 232 #[.val (.int p0), .val (.int p1), .val (.int p2), .val (.int p3), .val (.int p4), .val (.int (3 : Int32)), .val (.int v6_22c), .val (.int (((p4.toUInt32 >>> ((4 : Int32) &&& 31).toUInt32).toInt32) &&& (3 : Int32))), .val (.int (((p4.toUInt32 >>> ((6 : Int32) &&& 31).toUInt32).toInt32) &&& (3 : Int32))), .val (.int p0), .val (.int w0_53), .val (.int w0_77), .val (.int w0_112), .val (.ref b78), .val (.int (F9 (0 : Int32) w0_112 [p0, w0_53, w0_77, w0_112, (0 : Int32), (0 : Int32), (0 : Int32), (0 : Int32)] [(0 : Int32), (3 : Int32)] [(3 : Int32), (1 : Int32)])), .val (.int v15_225h)] []))
                            refine Go.of (fun t k => XS.iconst X_225h.here hx rfl (hb hby at_232) k) ?_
                            refine Go.of (fun t k => XS.istore X_225h.here hx rfl (hb hby at_233) rfl (l' := #[.val (.int p0), .val (.int p1), .val (.int p2), .val (.int p3), .val (.int p4), .val (.int (3 : Int32)), .val (.int v6_22c), .val (.int (((p4.toUInt32 >>> ((4 : Int32) &&& 31).toUInt32).toInt32) &&& (3 : Int32))), .val (.int (((p4.toUInt32 >>> ((6 : Int32) &&& 31).toUInt32).toInt32) &&& (3 : Int32))), .val (.int p0), .val (.int w0_53), .val (.int w0_77), .val (.int w0_112), .val (.ref b78), .val (.int (F9 (0 : Int32) w0_112 [p0, w0_53, w0_77, w0_112, (0 : Int32), (0 : Int32), (0 : Int32), (0 : Int32)] [(0 : Int32), (3 : Int32)] [(3 : Int32), (1 : Int32)])), .val (.int (0 : Int32))]) rfl k) ?_
                            show Go p e below s _ _ _ (T_225h.setTop (mkF m 235 #[.val (.int p0), .val (.int p1), .val (.int p2), .val (.int p3), .val (.int p4), .val (.int (3 : Int32)), .val (.int v6_22c), .val (.int (((p4.toUInt32 >>> ((4 : Int32) &&& 31).toUInt32).toInt32) &&& (3 : Int32))), .val (.int (((p4.toUInt32 >>> ((6 : Int32) &&& 31).toUInt32).toInt32) &&& (3 : Int32))), .val (.int p0), .val (.int w0_53), .val (.int w0_77), .val (.int w0_112), .val (.ref b78), .val (.int (F9 (0 : Int32) w0_112 [p0, w0_53, w0_77, w0_112, (0 : Int32), (0 : Int32), (0 : Int32), (0 : Int32)] [(0 : Int32), (3 : Int32)] [(3 : Int32), (1 : Int32)])), .val (.int (0 : Int32))] []))
                            exact jn235h (0 : Int32)  T_225h _ X_225h e_225h N_225h  
                          · rewrite [if_neg hc229_113]
                            refine Go.of (fun t k => XS.icmpYes X_225h.here hx rfl (pc0 := 229) (pc' := 235) rfl (hb hby at_229) rfl (feq hc229_113).2 (by decide) (by decide) k) ?_
                            show Go p e below s _ _ _ (T_225h.setTop (mkF m 235 #[.val (.int p0), .val (.int p1), .val (.int p2), .val (.int p3), .val (.int p4), .val (.int (3 : Int32)), .val (.int v6_22c), .val (.int (((p4.toUInt32 >>> ((4 : Int32) &&& 31).toUInt32).toInt32) &&& (3 : Int32))), .val (.int (((p4.toUInt32 >>> ((6 : Int32) &&& 31).toUInt32).toInt32) &&& (3 : Int32))), .val (.int p0), .val (.int w0_53), .val (.int w0_77), .val (.int w0_112), .val (.ref b78), .val (.int (F9 (0 : Int32) w0_112 [p0, w0_53, w0_77, w0_112, (0 : Int32), (0 : Int32), (0 : Int32), (0 : Int32)] [(0 : Int32), (3 : Int32)] [(3 : Int32), (1 : Int32)])), .val (.int v15_225h)] []))
                            exact jn235h v15_225h  T_225h _ X_225h e_225h N_225h  
                        refine Go.of (fun t k => XS.icmpNo X_209h.here hx rfl (hb hby at_212) rfl (flt hc148_95).1 k) ?_
                        show Go p e below s _ _ _ (T_209h.setTop (mkF m 215 #[.val (.int p0), .val (.int p1), .val (.int p2), .val (.int p3), .val (.int p4), .val (.int (3 : Int32)), .val (.int v6_22c), .val (.int (((p4.toUInt32 >>> ((4 : Int32) &&& 31).toUInt32).toInt32) &&& (3 : Int32))), .val (.int (((p4.toUInt32 >>> ((6 : Int32) &&& 31).toUInt32).toInt32) &&& (3 : Int32))), .val (.int p0), .val (.int w0_53), .val (.int w0_77), .val (.int w0_112), .val (.ref b78), .val (.int (F9 (0 : Int32) w0_112 [p0, w0_53, w0_77, w0_112, (0 : Int32), (0 : Int32), (0 : Int32), (0 : Int32)] [(0 : Int32), (3 : Int32)] [(3 : Int32), (1 : Int32)])), .val (.int v15_209h)] []))
                        refine Go.of (fun t k => XS.iload X_209h.here hx rfl (hb hby at_215) rfl k) ?_
                        refine Go.of (fun t k => XS.iload X_209h.here hx rfl (hb hby at_217) rfl k) ?_
                        show Go p e below s _ _ _ (T_209h.setTop (mkF m 219 #[.val (.int p0), .val (.int p1), .val (.int p2), .val (.int p3), .val (.int p4), .val (.int (3 : Int32)), .val (.int v6_22c), .val (.int (((p4.toUInt32 >>> ((4 : Int32) &&& 31).toUInt32).toInt32) &&& (3 : Int32))), .val (.int (((p4.toUInt32 >>> ((6 : Int32) &&& 31).toUInt32).toInt32) &&& (3 : Int32))), .val (.int p0), .val (.int w0_53), .val (.int w0_77), .val (.int w0_112), .val (.ref b78), .val (.int (F9 (0 : Int32) w0_112 [p0, w0_53, w0_77, w0_112, (0 : Int32), (0 : Int32), (0 : Int32), (0 : Int32)] [(0 : Int32), (3 : Int32)] [(3 : Int32), (1 : Int32)])), .val (.int v15_209h)] [(.int w0_112), (.int w0_53)]))
                        by_cases hc219_114 : w0_53 = w0_112
                        · rewrite [if_pos hc219_114]
                          refine Go.of (fun t k => XS.icmpNo X_209h.here hx rfl (hb hby at_219) rfl (teq hc219_114).2 k) ?_
                          show Go p e below s _ _ _ (T_209h.setTop (mkF m 222 #[.val (.int p0), .val (.int p1), .val (.int p2), .val (.int p3), .val (.int p4), .val (.int (3 : Int32)), .val (.int v6_22c), .val (.int (((p4.toUInt32 >>> ((4 : Int32) &&& 31).toUInt32).toInt32) &&& (3 : Int32))), .val (.int (((p4.toUInt32 >>> ((6 : Int32) &&& 31).toUInt32).toInt32) &&& (3 : Int32))), .val (.int p0), .val (.int w0_53), .val (.int w0_77), .val (.int w0_112), .val (.ref b78), .val (.int (F9 (0 : Int32) w0_112 [p0, w0_53, w0_77, w0_112, (0 : Int32), (0 : Int32), (0 : Int32), (0 : Int32)] [(0 : Int32), (3 : Int32)] [(3 : Int32), (1 : Int32)])), .val (.int v15_209h)] []))
                          refine Go.of (fun t k => XS.iconst X_209h.here hx rfl (hb hby at_222) k) ?_
                          refine Go.of (fun t k => XS.istore X_209h.here hx rfl (hb hby at_223) rfl (l' := #[.val (.int p0), .val (.int p1), .val (.int p2), .val (.int p3), .val (.int p4), .val (.int (3 : Int32)), .val (.int v6_22c), .val (.int (((p4.toUInt32 >>> ((4 : Int32) &&& 31).toUInt32).toInt32) &&& (3 : Int32))), .val (.int (((p4.toUInt32 >>> ((6 : Int32) &&& 31).toUInt32).toInt32) &&& (3 : Int32))), .val (.int p0), .val (.int w0_53), .val (.int w0_77), .val (.int w0_112), .val (.ref b78), .val (.int (F9 (0 : Int32) w0_112 [p0, w0_53, w0_77, w0_112, (0 : Int32), (0 : Int32), (0 : Int32), (0 : Int32)] [(0 : Int32), (3 : Int32)] [(3 : Int32), (1 : Int32)])), .val (.int (1 : Int32))]) rfl k) ?_
                          show Go p e below s _ _ _ (T_209h.setTop (mkF m 225 #[.val (.int p0), .val (.int p1), .val (.int p2), .val (.int p3), .val (.int p4), .val (.int (3 : Int32)), .val (.int v6_22c), .val (.int (((p4.toUInt32 >>> ((4 : Int32) &&& 31).toUInt32).toInt32) &&& (3 : Int32))), .val (.int (((p4.toUInt32 >>> ((6 : Int32) &&& 31).toUInt32).toInt32) &&& (3 : Int32))), .val (.int p0), .val (.int w0_53), .val (.int w0_77), .val (.int w0_112), .val (.ref b78), .val (.int (F9 (0 : Int32) w0_112 [p0, w0_53, w0_77, w0_112, (0 : Int32), (0 : Int32), (0 : Int32), (0 : Int32)] [(0 : Int32), (3 : Int32)] [(3 : Int32), (1 : Int32)])), .val (.int (1 : Int32))] []))
                          exact jn225h (1 : Int32)  T_209h _ X_209h e_209h N_209h  
                        · rewrite [if_neg hc219_114]
                          refine Go.of (fun t k => XS.icmpYes X_209h.here hx rfl (pc0 := 219) (pc' := 225) rfl (hb hby at_219) rfl (feq hc219_114).2 (by decide) (by decide) k) ?_
                          show Go p e below s _ _ _ (T_209h.setTop (mkF m 225 #[.val (.int p0), .val (.int p1), .val (.int p2), .val (.int p3), .val (.int p4), .val (.int (3 : Int32)), .val (.int v6_22c), .val (.int (((p4.toUInt32 >>> ((4 : Int32) &&& 31).toUInt32).toInt32) &&& (3 : Int32))), .val (.int (((p4.toUInt32 >>> ((6 : Int32) &&& 31).toUInt32).toInt32) &&& (3 : Int32))), .val (.int p0), .val (.int w0_53), .val (.int w0_77), .val (.int w0_112), .val (.ref b78), .val (.int (F9 (0 : Int32) w0_112 [p0, w0_53, w0_77, w0_112, (0 : Int32), (0 : Int32), (0 : Int32), (0 : Int32)] [(0 : Int32), (3 : Int32)] [(3 : Int32), (1 : Int32)])), .val (.int v15_209h)] []))
                          exact jn225h v15_209h  T_209h _ X_209h e_209h N_209h  
                      refine Go.of (fun t k => XS.icmpNo X111.here hx rfl (hb hby at_196) rfl (flt hc165_103).1 k) ?_
                      show Go p e below s _ _ _ (T111.setTop (mkF m 199 #[.val (.int p0), .val (.int p1), .val (.int p2), .val (.int p3), .val (.int p4), .val (.int (3 : Int32)), .val (.int v6_22c), .val (.int (((p4.toUInt32 >>> ((4 : Int32) &&& 31).toUInt32).toInt32) &&& (3 : Int32))), .val (.int (((p4.toUInt32 >>> ((6 : Int32) &&& 31).toUInt32).toInt32) &&& (3 : Int32))), .val (.int p0), .val (.int w0_53), .val (.int w0_77), .val (.int w0_112), .val (.ref b78), .val (.int (F9 (0 : Int32) w0_112 [p0, w0_53, w0_77, w0_112, (0 : Int32), (0 : Int32), (0 : Int32), (0 : Int32)] [(0 : Int32), (3 : Int32)] [(3 : Int32), (1 : Int32)])), .val (.int v6_22c)] []))
                      refine Go.of (fun t k => XS.iload X111.here hx rfl (hb hby at_199) rfl k) ?_
                      refine Go.of (fun t k => XS.iload X111.here hx rfl (hb hby at_201) rfl k) ?_
                      show Go p e below s _ _ _ (T111.setTop (mkF m 203 #[.val (.int p0), .val (.int p1), .val (.int p2), .val (.int p3), .val (.int p4), .val (.int (3 : Int32)), .val (.int v6_22c), .val (.int (((p4.toUInt32 >>> ((4 : Int32) &&& 31).toUInt32).toInt32) &&& (3 : Int32))), .val (.int (((p4.toUInt32 >>> ((6 : Int32) &&& 31).toUInt32).toInt32) &&& (3 : Int32))), .val (.int p0), .val (.int w0_53), .val (.int w0_77), .val (.int w0_112), .val (.ref b78), .val (.int (F9 (0 : Int32) w0_112 [p0, w0_53, w0_77, w0_112, (0 : Int32), (0 : Int32), (0 : Int32), (0 : Int32)] [(0 : Int32), (3 : Int32)] [(3 : Int32), (1 : Int32)])), .val (.int v6_22c)] [(.int w0_112), (.int w0_77)]))
                      by_cases hc203_115 : w0_77 = w0_112
                      · rewrite [if_pos hc203_115]
                        refine Go.of (fun t k => XS.icmpNo X111.here hx rfl (hb hby at_203) rfl (teq hc203_115).2 k) ?_
                        show Go p e below s _ _ _ (T111.setTop (mkF m 206 #[.val (.int p0), .val (.int p1), .val (.int p2), .val (.int p3), .val (.int p4), .val (.int (3 : Int32)), .val (.int v6_22c), .val (.int (((p4.toUInt32 >>> ((4 : Int32) &&& 31).toUInt32).toInt32) &&& (3 : Int32))), .val (.int (((p4.toUInt32 >>> ((6 : Int32) &&& 31).toUInt32).toInt32) &&& (3 : Int32))), .val (.int p0), .val (.int w0_53), .val (.int w0_77), .val (.int w0_112), .val (.ref b78), .val (.int (F9 (0 : Int32) w0_112 [p0, w0_53, w0_77, w0_112, (0 : Int32), (0 : Int32), (0 : Int32), (0 : Int32)] [(0 : Int32), (3 : Int32)] [(3 : Int32), (1 : Int32)])), .val (.int v6_22c)] []))
                        refine Go.of (fun t k => XS.iconst X111.here hx rfl (hb hby at_206) k) ?_
                        refine Go.of (fun t k => XS.istore X111.here hx rfl (hb hby at_207) rfl (l' := #[.val (.int p0), .val (.int p1), .val (.int p2), .val (.int p3), .val (.int p4), .val (.int (3 : Int32)), .val (.int v6_22c), .val (.int (((p4.toUInt32 >>> ((4 : Int32) &&& 31).toUInt32).toInt32) &&& (3 : Int32))), .val (.int (((p4.toUInt32 >>> ((6 : Int32) &&& 31).toUInt32).toInt32) &&& (3 : Int32))), .val (.int p0), .val (.int w0_53), .val (.int w0_77), .val (.int w0_112), .val (.ref b78), .val (.int (F9 (0 : Int32) w0_112 [p0, w0_53, w0_77, w0_112, (0 : Int32), (0 : Int32), (0 : Int32), (0 : Int32)] [(0 : Int32), (3 : Int32)] [(3 : Int32), (1 : Int32)])), .val (.int (2 : Int32))]) rfl k) ?_
                        show Go p e below s _ _ _ (T111.setTop (mkF m 209 #[.val (.int p0), .val (.int p1), .val (.int p2), .val (.int p3), .val (.int p4), .val (.int (3 : Int32)), .val (.int v6_22c), .val (.int (((p4.toUInt32 >>> ((4 : Int32) &&& 31).toUInt32).toInt32) &&& (3 : Int32))), .val (.int (((p4.toUInt32 >>> ((6 : Int32) &&& 31).toUInt32).toInt32) &&& (3 : Int32))), .val (.int p0), .val (.int w0_53), .val (.int w0_77), .val (.int w0_112), .val (.ref b78), .val (.int (F9 (0 : Int32) w0_112 [p0, w0_53, w0_77, w0_112, (0 : Int32), (0 : Int32), (0 : Int32), (0 : Int32)] [(0 : Int32), (3 : Int32)] [(3 : Int32), (1 : Int32)])), .val (.int (2 : Int32))] []))
                        exact jn209h (2 : Int32)  T111 _ X111 e111 N111  
                      · rewrite [if_neg hc203_115]
                        refine Go.of (fun t k => XS.icmpYes X111.here hx rfl (pc0 := 203) (pc' := 209) rfl (hb hby at_203) rfl (feq hc203_115).2 (by decide) (by decide) k) ?_
                        show Go p e below s _ _ _ (T111.setTop (mkF m 209 #[.val (.int p0), .val (.int p1), .val (.int p2), .val (.int p3), .val (.int p4), .val (.int (3 : Int32)), .val (.int v6_22c), .val (.int (((p4.toUInt32 >>> ((4 : Int32) &&& 31).toUInt32).toInt32) &&& (3 : Int32))), .val (.int (((p4.toUInt32 >>> ((6 : Int32) &&& 31).toUInt32).toInt32) &&& (3 : Int32))), .val (.int p0), .val (.int w0_53), .val (.int w0_77), .val (.int w0_112), .val (.ref b78), .val (.int (F9 (0 : Int32) w0_112 [p0, w0_53, w0_77, w0_112, (0 : Int32), (0 : Int32), (0 : Int32), (0 : Int32)] [(0 : Int32), (3 : Int32)] [(3 : Int32), (1 : Int32)])), .val (.int v6_22c)] []))
                        exact jn209h v6_22c  T111 _ X111 e111 N111  
                · rewrite [if_neg hs114_3]
                  have hs114_4 : v5_8c = (4 : Int32) := own_last hr_8c hs114_1 hs114_2 hs114_3
                  subst hs114_4
                  obtain ⟨T116, h116, X116, e116, E116, A116, D116, -, st116⟩ := newO X_112 hx hZ hown (hw _ (List.mem_of_getElem? (i := 4) rfl)) (hw _ (List.mem_of_getElem? (i := 5) rfl)) (hw _ (List.mem_of_getElem? (i := 6) rfl)) e_112 (g := (mkF m 114 #[.val (.int p0), .val (.int p1), .val (.int p2), .val (.int p3), .val (.int p4), .val (.int (4 : Int32)), .val (.int v6_22c), .val (.int (((p4.toUInt32 >>> ((4 : Int32) &&& 31).toUInt32).toInt32) &&& (3 : Int32))), .val (.int (((p4.toUInt32 >>> ((6 : Int32) &&& 31).toUInt32).toInt32) &&& (3 : Int32))), .val (.int p0), .val (.int w0_53), .val (.int w0_77), .val (.int w0_112), .unset, .unset, .unset] [])) rfl (hb hby at_114) (by decide) (by decide)
                  obtain ⟨b116, ga116⟩ : ∃ z, z = h0.size := ⟨_, rfl⟩
                  rw [← ga116] at A116 D116 st116
                  have g_b116 : n0 ≤ b116 := Nat.le_trans Z0 (Nat.le_of_eq ga116.symm)
                  have f117 : Fld Z h116 b116 "com/example/susurrus/susurrus/KnownUnits" "units" "[I" .null := D116 (Or.inl (hw _ (List.mem_of_getElem? (i := 15) rfl))) (ty := (.array .int)) (by decide)
                  have f118 : Fld Z h116 b116 "com/example/susurrus/susurrus/KnownUnits" "aggregates" "[I" .null := D116 (Or.inl (hw _ (List.mem_of_getElem? (i := 17) rfl))) (ty := (.array .int)) (by decide)
                  have f119 : Fld Z h116 b116 "com/example/susurrus/susurrus/KnownUnits" "senders" "[I" .null := D116 (Or.inl (hw _ (List.mem_of_getElem? (i := 19) rfl))) (ty := (.array .int)) (by decide)
                  have f120 : Fld Z h116 b116 "com/example/susurrus/susurrus/KnownUnits" "starts" "[I" .null := D116 (Or.inr (hw _ (List.mem_of_getElem? (i := 21) rfl))) (ty := (.array .int)) (by decide)
                  have f121 : Fld Z h116 b116 "com/example/susurrus/susurrus/KnownUnits" "rooms" "[I" .null := D116 (Or.inr (hw _ (List.mem_of_getElem? (i := 23) rfl))) (ty := (.array .int)) (by decide)
                  have f122 : Fld Z h116 b116 "com/example/susurrus/susurrus/KnownUnits" "counts" "[I" .null := D116 (Or.inr (hw _ (List.mem_of_getElem? (i := 25) rfl))) (ty := (.array .int)) (by decide)
                  have f123 : Fld Z h116 b116 "com/example/susurrus/susurrus/KnownUnits" "used" "I" (.int (0 : Int32)) := D116 (Or.inl (hw _ (List.mem_of_getElem? (i := 36) rfl))) (ty := .int) (by decide)
                  have Zz116 := Nat.le_trans Z0 E116.1
                  refine Go.of st116 ?_
                  show Go p e below s _ _ _ (T116.setTop (mkF m 117 #[.val (.int p0), .val (.int p1), .val (.int p2), .val (.int p3), .val (.int p4), .val (.int (4 : Int32)), .val (.int v6_22c), .val (.int (((p4.toUInt32 >>> ((4 : Int32) &&& 31).toUInt32).toInt32) &&& (3 : Int32))), .val (.int (((p4.toUInt32 >>> ((6 : Int32) &&& 31).toUInt32).toInt32) &&& (3 : Int32))), .val (.int p0), .val (.int w0_53), .val (.int w0_77), .val (.int w0_112), .unset, .unset, .unset] [(.ref b116)]))
                  refine Go.of (fun t k => XS.dup X116.here hx rfl (hb hby at_117) rfl rfl k) ?_
                  refine Go.of (fun t k => XS.iconst X116.here hx rfl (hb hby at_118) k) ?_
                  show Go p e below s _ _ _ (T116.setTop (mkF m 119 #[.val (.int p0), .val (.int p1), .val (.int p2), .val (.int p3), .val (.int p4), .val (.int (4 : Int32)), .val (.int v6_22c), .val (.int (((p4.toUInt32 >>> ((4 : Int32) &&& 31).toUInt32).toInt32) &&& (3 : Int32))), .val (.int (((p4.toUInt32 >>> ((6 : Int32) &&& 31).toUInt32).toInt32) &&& (3 : Int32))), .val (.int p0), .val (.int w0_53), .val (.int w0_77), .val (.int w0_112), .unset, .unset, .unset] [(.int (2 : Int32)), (.ref b116), (.ref b116)]))
                  obtain ⟨_, _, ⟨T124, L124, k124, n124⟩, -, X124, ⟨Lc124, hQ124, l124, y124, z124⟩, st124⟩ := X116.specialBack hx (y := (⟨"com/example/susurrus/susurrus/KnownUnits", "<init>", "(I)V"⟩ : MethodName)) rfl hown (mvT hZ (hw _ (List.mem_of_getElem? (i := 7) rfl))) (mvT hZ (hw _ (List.mem_of_getElem? (i := 8) rfl))) (mvT hZ (hw _ (List.mem_of_getElem? (i := 9) rfl))) (by decide) (backOf (W := 1) (rm2 l Z az hw [] b116 h116 n0 Zz116 A116 f117 f118 f119 f120 f121 f122 f123 g_b116) hZ (hw _ (List.mem_of_getElem? (i := 9) rfl)) (hw _ (List.mem_of_getElem? (i := 6) rfl)) (by decide) (by decide)) (g := (mkF m 119 #[.val (.int p0), .val (.int p1), .val (.int p2), .val (.int p3), .val (.int p4), .val (.int (4 : Int32)), .val (.int v6_22c), .val (.int (((p4.toUInt32 >>> ((4 : Int32) &&& 31).toUInt32).toInt32) &&& (3 : Int32))), .val (.int (((p4.toUInt32 >>> ((6 : Int32) &&& 31).toUInt32).toInt32) &&& (3 : Int32))), .val (.int p0), .val (.int w0_53), .val (.int w0_77), .val (.int w0_112), .unset, .unset, .unset] [(.int (2 : Int32)), (.ref b116), (.ref b116)])) rfl (by rw [hml]; rfl) (Steps.refl _) (a := b116) (argsL := [(.int (2 : Int32))]) (rest := [(.ref b116)]) (lenOf own_pd5 rfl) rfl (by show 2 * 0 + _ ≤ _; exact Nat.le_of_eq rfl) (hb hby at_119) (fun _ _ => ⟨rfl, e116, (by decide : 1 + 6 ≤ _), (by decide : 7 + 6 ≤ _)⟩)
                  dsimp only [Pt.U, Pt.locs, Pt.cells, Pt.slots] at X124 l124 y124 z124 st124 hQ124
                  subst l124 y124 z124
                  obtain ⟨rfl, N124q, xu125, xg125, xd125, xt125, xr125, xc125, kxu125, kxg125, kxd125, kxt125, kxr125, kxc125, hK125⟩ := hQ124
                  have N124 := Fr.app N_112 N124q
                  obtain ⟨E_126, Ff0_126, Ff1_126, Ff2_126, Ff3_126, Ff4_126, Ff5_126, Ff6_126, Vv0_126, Vv1_126, Vv2_126, Vv3_126, Vv4_126, Vv5_126, g_b116, g_xu125, g_xg125, g_xd125, g_xt125, g_xr125, g_xc125, Zk126, ne_0_1_126, ne_0_2_126, ne_0_3_126, ne_0_4_126, ne_0_5_126, ne_0_6_126, ne_1_2_126, ne_1_3_126, ne_1_4_126, ne_1_5_126, ne_1_6_126, ne_2_3_126, ne_2_4_126, ne_2_5_126, ne_2_6_126, ne_3_4_126, ne_3_5_126, ne_3_6_126, ne_4_5_126, ne_4_6_126, ne_5_6_126⟩ := id hK125
                  refine Go.of (fun t k => st124.trans k) ?_
                  show Go p e below s _ _ _ (T124.setTop (mkF m 122 #[.val (.int p0), .val (.int p1), .val (.int p2), .val (.int p3), .val (.int p4), .val (.int (4 : Int32)), .val (.int v6_22c), .val (.int (((p4.toUInt32 >>> ((4 : Int32) &&& 31).toUInt32).toInt32) &&& (3 : Int32))), .val (.int (((p4.toUInt32 >>> ((6 : Int32) &&& 31).toUInt32).toInt32) &&& (3 : Int32))), .val (.int p0), .val (.int w0_53), .val (.int w0_77), .val (.int w0_112), .unset, .unset, .unset] [(.ref b116)]))
                  refine Go.of (fun t k => XS.astore X124.here hx rfl (hb hby at_122) rfl rfl (l' := #[.val (.int p0), .val (.int p1), .val (.int p2), .val (.int p3), .val (.int p4), .val (.int (4 : Int32)), .val (.int v6_22c), .val (.int (((p4.toUInt32 >>> ((4 : Int32) &&& 31).toUInt32).toInt32) &&& (3 : Int32))), .val (.int (((p4.toUInt32 >>> ((6 : Int32) &&& 31).toUInt32).toInt32) &&& (3 : Int32))), .val (.int p0), .val (.int w0_53), .val (.int w0_77), .val (.int w0_112), .val (.ref b116), .unset, .unset]) rfl k) ?_
                  refine Go.of (fun t k => XS.aload X124.here hx rfl (hb hby at_124) rfl rfl k) ?_
                  refine Go.of (fun t k => XS.iconst X124.here hx rfl (hb hby at_126) k) ?_
                  refine Go.of (fun t k => XS.iload X124.here hx rfl (hb hby at_127) rfl k) ?_
                  refine Go.of (fun t k => XS.iconst X124.here hx rfl (hb hby at_129) k) ?_
                  refine Go.of (fun t k => XS.iload X124.here hx rfl (hb hby at_130) rfl k) ?_
                  show Go p e below s _ _ _ (T124.setTop (mkF m 132 #[.val (.int p0), .val (.int p1), .val (.int p2), .val (.int p3), .val (.int p4), .val (.int (4 : Int32)), .val (.int v6_22c), .val (.int (((p4.toUInt32 >>> ((4 : Int32) &&& 31).toUInt32).toInt32) &&& (3 : Int32))), .val (.int (((p4.toUInt32 >>> ((6 : Int32) &&& 31).toUInt32).toInt32) &&& (3 : Int32))), .val (.int p0), .val (.int w0_53), .val (.int w0_77), .val (.int w0_112), .val (.ref b116), .unset, .unset] [(.int (4 : Int32)), (.int (0 : Int32)), (.int p0), (.int (0 : Int32)), (.ref b116)]))
                  obtain ⟨cq127, kq127, q127a, q127b, q127c⟩ := isOf hZ rfl E_126
                  obtain ⟨_, _, ⟨T127, L127, k127, n127⟩, -, X127, ⟨Lc127, hQ127, l127, y127, z127⟩, st127⟩ := X124.virtualBack hx (y := (⟨"com/example/susurrus/susurrus/KnownUnits", "start", "(IIII)V"⟩ : MethodName)) (z := (⟨"com/example/susurrus/susurrus/KnownUnits", "start", "(IIII)V"⟩ : MethodName)) hown (mvT hZ (hw _ (List.mem_of_getElem? (i := 26) rfl))) (mvT hZ (hw _ (List.mem_of_getElem? (i := 27) rfl))) (notFace_of_selects (args := #[]) (mvT hZ (hw _ (List.mem_of_getElem? (i := 29) rfl)))) (mvT hZ (hw _ (List.mem_of_getElem? (i := 29) rfl))) (mvT hZ (hw _ (List.mem_of_getElem? (i := 28) rfl))) (by decide) (backOf (W := 0) (rm4 l Z az hw [] b116 (0 : Int32) p0 (0 : Int32) (4 : Int32) xu125 xg125 xd125 xt125 xr125 xc125 kxu125 kxg125 kxd125 kxt125 kxr125 kxc125 (0 : Int32) ([] : List Int32) ([] : List Int32) ([] : List Int32) [(0 : Int32), (0 : Int32)] [(0 : Int32), (0 : Int32)] [(0 : Int32), (0 : Int32)] (0 : Int32) T124.heap n0 Zk126 ⟨E_126, Ff0_126, Ff1_126, Ff2_126, Ff3_126, Ff4_126, Ff5_126, Ff6_126, Vv0_126, Vv1_126, Vv2_126, Vv3_126, Vv4_126, Vv5_126, g_b116, g_xu125, g_xg125, g_xd125, g_xt125, g_xr125, g_xc125, Zk126, ne_0_1_126, ne_0_2_126, ne_0_3_126, ne_0_4_126, ne_0_5_126, ne_0_6_126, ne_1_2_126, ne_1_3_126, ne_1_4_126, ne_1_5_126, ne_1_6_126, ne_2_3_126, ne_2_4_126, ne_2_5_126, ne_2_6_126, ne_3_4_126, ne_3_5_126, ne_3_6_126, ne_4_5_126, ne_4_6_126, ne_5_6_126⟩ (by decide) (by decide) (by decide) (by decide)) hZ (hw _ (List.mem_of_getElem? (i := 30) rfl)) (hw _ (List.mem_of_getElem? (i := 6) rfl)) (by decide) (by decide)) q127a q127c (g := (mkF m 132 #[.val (.int p0), .val (.int p1), .val (.int p2), .val (.int p3), .val (.int p4), .val (.int (4 : Int32)), .val (.int v6_22c), .val (.int (((p4.toUInt32 >>> ((4 : Int32) &&& 31).toUInt32).toInt32) &&& (3 : Int32))), .val (.int (((p4.toUInt32 >>> ((6 : Int32) &&& 31).toUInt32).toInt32) &&& (3 : Int32))), .val (.int p0), .val (.int w0_53), .val (.int w0_77), .val (.int w0_112), .val (.ref b116), .unset, .unset] [(.int (4 : Int32)), (.int (0 : Int32)), (.int p0), (.int (0 : Int32)), (.ref b116)])) rfl (by rw [hml]; rfl) (Steps.refl _) (argsL := [(.int (0 : Int32)), (.int p0), (.int (0 : Int32)), (.int (4 : Int32))]) (rest := []) (lenOf own_pd6 rfl) rfl (by show 2 * 0 + _ ≤ _; exact Nat.le_of_eq rfl) (hb hby at_132) (fun _ _ => ⟨rfl, rfl, (by decide : 7 + 3 ≤ _), (by decide : 13 + 24 ≤ _)⟩)
                  dsimp only [Pt.U, Pt.locs, Pt.cells, Pt.slots] at X127 l127 y127 z127 st127 hQ127
                  subst l127 y127 z127
                  obtain ⟨rfl, N127q, bu128, bg128, bd128, ku128, kg128, kd128, hK128⟩ := hQ127
                  have N127 := Fr.app N124 N127q
                  have hS128 : own_K Z T127.heap n0 b116 bu128 bg128 bd128 xt125 xr125 xc125 ku128 kg128 kd128 kxt125 kxr125 kxc125 (4 : Int32) [p0, (0 : Int32), (0 : Int32), (0 : Int32), (0 : Int32), (0 : Int32), (0 : Int32), (0 : Int32)] [(0 : Int32), (0 : Int32), (0 : Int32), (0 : Int32), (0 : Int32), (0 : Int32), (0 : Int32), (0 : Int32)] [(-1 : Int32), (0 : Int32), (0 : Int32), (0 : Int32), (0 : Int32), (0 : Int32), (0 : Int32), (0 : Int32)] [(0 : Int32), (0 : Int32)] [(4 : Int32), (0 : Int32)] [(1 : Int32), (0 : Int32)] (4 : Int32) := hK128
                  obtain ⟨E_129, Ff0_129, Ff1_129, Ff2_129, Ff3_129, Ff4_129, Ff5_129, Ff6_129, Vv0_129, Vv1_129, Vv2_129, Vv3_129, Vv4_129, Vv5_129, g_b116, g_bu128, g_bg128, g_bd128, g_xt125, g_xr125, g_xc125, Zk129, ne_0_1_129, ne_0_2_129, ne_0_3_129, ne_0_4_129, ne_0_5_129, ne_0_6_129, ne_1_2_129, ne_1_3_129, ne_1_4_129, ne_1_5_129, ne_1_6_129, ne_2_3_129, ne_2_4_129, ne_2_5_129, ne_2_6_129, ne_3_4_129, ne_3_5_129, ne_3_6_129, ne_4_5_129, ne_4_6_129, ne_5_6_129⟩ := id hS128
                  refine Go.of (fun t k => st127.trans k) ?_
                  show Go p e below s _ _ _ (T127.setTop (mkF m 135 #[.val (.int p0), .val (.int p1), .val (.int p2), .val (.int p3), .val (.int p4), .val (.int (4 : Int32)), .val (.int v6_22c), .val (.int (((p4.toUInt32 >>> ((4 : Int32) &&& 31).toUInt32).toInt32) &&& (3 : Int32))), .val (.int (((p4.toUInt32 >>> ((6 : Int32) &&& 31).toUInt32).toInt32) &&& (3 : Int32))), .val (.int p0), .val (.int w0_53), .val (.int w0_77), .val (.int w0_112), .val (.ref b116), .unset, .unset] []))
                  refine Go.of (fun t k => XS.aload X127.here hx rfl (hb hby at_135) rfl rfl k) ?_
                  refine Go.of (fun t k => XS.iconst X127.here hx rfl (hb hby at_137) k) ?_
                  refine Go.of (fun t k => XS.iload X127.here hx rfl (hb hby at_138) rfl k) ?_
                  refine Go.of (fun t k => XS.iconst X127.here hx rfl (hb hby at_140) k) ?_
                  refine Go.of (fun t k => XS.iconst X127.here hx rfl (hb hby at_141) k) ?_
                  show Go p e below s _ _ _ (T127.setTop (mkF m 142 #[.val (.int p0), .val (.int p1), .val (.int p2), .val (.int p3), .val (.int p4), .val (.int (4 : Int32)), .val (.int v6_22c), .val (.int (((p4.toUInt32 >>> ((4 : Int32) &&& 31).toUInt32).toInt32) &&& (3 : Int32))), .val (.int (((p4.toUInt32 >>> ((6 : Int32) &&& 31).toUInt32).toInt32) &&& (3 : Int32))), .val (.int p0), .val (.int w0_53), .val (.int w0_77), .val (.int w0_112), .val (.ref b116), .unset, .unset] [(.int (1 : Int32)), (.int (0 : Int32)), (.int w0_112), (.int (1 : Int32)), (.ref b116)]))
                  obtain ⟨cq130, kq130, q130a, q130b, q130c⟩ := isOf hZ rfl E_129
                  obtain ⟨_, _, ⟨T130, L130, k130, n130⟩, -, X130, ⟨Lc130, hQ130, l130, y130, z130⟩, st130⟩ := X127.virtualBack hx (y := (⟨"com/example/susurrus/susurrus/KnownUnits", "start", "(IIII)V"⟩ : MethodName)) (z := (⟨"com/example/susurrus/susurrus/KnownUnits", "start", "(IIII)V"⟩ : MethodName)) hown (mvT hZ (hw _ (List.mem_of_getElem? (i := 26) rfl))) (mvT hZ (hw _ (List.mem_of_getElem? (i := 27) rfl))) (notFace_of_selects (args := #[]) (mvT hZ (hw _ (List.mem_of_getElem? (i := 29) rfl)))) (mvT hZ (hw _ (List.mem_of_getElem? (i := 29) rfl))) (mvT hZ (hw _ (List.mem_of_getElem? (i := 28) rfl))) (by decide) (backOf (W := 0) (rm4 l Z az hw [] b116 (1 : Int32) w0_112 (0 : Int32) (1 : Int32) bu128 bg128 bd128 xt125 xr125 xc125 ku128 kg128 kd128 kxt125 kxr125 kxc125 (4 : Int32) [p0, (0 : Int32), (0 : Int32), (0 : Int32), (0 : Int32), (0 : Int32), (0 : Int32), (0 : Int32)] [(0 : Int32), (0 : Int32), (0 : Int32), (0 : Int32), (0 : Int32), (0 : Int32), (0 : Int32), (0 : Int32)] [(-1 : Int32), (0 : Int32), (0 : Int32), (0 : Int32), (0 : Int32), (0 : Int32), (0 : Int32), (0 : Int32)] [(0 : Int32), (0 : Int32)] [(4 : Int32), (0 : Int32)] [(1 : Int32), (0 : Int32)] (4 : Int32) T127.heap n0 Zk129 ⟨E_129, Ff0_129, Ff1_129, Ff2_129, Ff3_129, Ff4_129, Ff5_129, Ff6_129, Vv0_129, Vv1_129, Vv2_129, Vv3_129, Vv4_129, Vv5_129, g_b116, g_bu128, g_bg128, g_bd128, g_xt125, g_xr125, g_xc125, Zk129, ne_0_1_129, ne_0_2_129, ne_0_3_129, ne_0_4_129, ne_0_5_129, ne_0_6_129, ne_1_2_129, ne_1_3_129, ne_1_4_129, ne_1_5_129, ne_1_6_129, ne_2_3_129, ne_2_4_129, ne_2_5_129, ne_2_6_129, ne_3_4_129, ne_3_5_129, ne_3_6_129, ne_4_5_129, ne_4_6_129, ne_5_6_129⟩ (by decide) (by decide) (by decide) (by decide)) hZ (hw _ (List.mem_of_getElem? (i := 30) rfl)) (hw _ (List.mem_of_getElem? (i := 6) rfl)) (by decide) (by decide)) q130a q130c (g := (mkF m 142 #[.val (.int p0), .val (.int p1), .val (.int p2), .val (.int p3), .val (.int p4), .val (.int (4 : Int32)), .val (.int v6_22c), .val (.int (((p4.toUInt32 >>> ((4 : Int32) &&& 31).toUInt32).toInt32) &&& (3 : Int32))), .val (.int (((p4.toUInt32 >>> ((6 : Int32) &&& 31).toUInt32).toInt32) &&& (3 : Int32))), .val (.int p0), .val (.int w0_53), .val (.int w0_77), .val (.int w0_112), .val (.ref b116), .unset, .unset] [(.int (1 : Int32)), (.int (0 : Int32)), (.int w0_112), (.int (1 : Int32)), (.ref b116)])) rfl (by rw [hml]; rfl) (Steps.refl _) (argsL := [(.int (1 : Int32)), (.int w0_112), (.int (0 : Int32)), (.int (1 : Int32))]) (rest := []) (lenOf own_pd6 rfl) rfl (by show 2 * 0 + _ ≤ _; exact Nat.le_of_eq rfl) (hb hby at_142) (fun _ _ => ⟨rfl, rfl, (by decide : 10 + 3 ≤ _), (by decide : 37 + 24 ≤ _)⟩)
                  dsimp only [Pt.U, Pt.locs, Pt.cells, Pt.slots] at X130 l130 y130 z130 st130 hQ130
                  subst l130 y130 z130
                  obtain ⟨rfl, N130q, bu131, bg131, bd131, ku131, kg131, kd131, hK131⟩ := hQ130
                  have N130 := Fr.app N127 N130q
                  have hS131 : own_K Z T130.heap n0 b116 bu131 bg131 bd131 xt125 xr125 xc125 ku131 kg131 kd131 kxt125 kxr125 kxc125 (8 : Int32) [p0, (0 : Int32), (0 : Int32), (0 : Int32), w0_112, (0 : Int32), (0 : Int32), (0 : Int32)] [(0 : Int32), (0 : Int32), (0 : Int32), (0 : Int32), (0 : Int32), (0 : Int32), (0 : Int32), (0 : Int32)] [(-1 : Int32), (0 : Int32), (0 : Int32), (0 : Int32), (-1 : Int32), (0 : Int32), (0 : Int32), (0 : Int32)] [(0 : Int32), (4 : Int32)] [(4 : Int32), (1 : Int32)] [(1 : Int32), (1 : Int32)] (5 : Int32) := hK131
                  obtain ⟨E_132, Ff0_132, Ff1_132, Ff2_132, Ff3_132, Ff4_132, Ff5_132, Ff6_132, Vv0_132, Vv1_132, Vv2_132, Vv3_132, Vv4_132, Vv5_132, g_b116, g_bu131, g_bg131, g_bd131, g_xt125, g_xr125, g_xc125, Zk132, ne_0_1_132, ne_0_2_132, ne_0_3_132, ne_0_4_132, ne_0_5_132, ne_0_6_132, ne_1_2_132, ne_1_3_132, ne_1_4_132, ne_1_5_132, ne_1_6_132, ne_2_3_132, ne_2_4_132, ne_2_5_132, ne_2_6_132, ne_3_4_132, ne_3_5_132, ne_3_6_132, ne_4_5_132, ne_4_6_132, ne_5_6_132⟩ := id hS131
                  refine Go.of (fun t k => st130.trans k) ?_
                  show Go p e below s _ _ _ (T130.setTop (mkF m 145 #[.val (.int p0), .val (.int p1), .val (.int p2), .val (.int p3), .val (.int p4), .val (.int (4 : Int32)), .val (.int v6_22c), .val (.int (((p4.toUInt32 >>> ((4 : Int32) &&& 31).toUInt32).toInt32) &&& (3 : Int32))), .val (.int (((p4.toUInt32 >>> ((6 : Int32) &&& 31).toUInt32).toInt32) &&& (3 : Int32))), .val (.int p0), .val (.int w0_53), .val (.int w0_77), .val (.int w0_112), .val (.ref b116), .unset, .unset] []))
                  refine Go.of (fun t k => XS.iload X130.here hx rfl (hb hby at_145) rfl k) ?_
                  refine Go.of (fun t k => XS.iconst X130.here hx rfl (hb hby at_147) k) ?_
                  show Go p e below s _ _ _ (T130.setTop (mkF m 148 #[.val (.int p0), .val (.int p1), .val (.int p2), .val (.int p3), .val (.int p4), .val (.int (4 : Int32)), .val (.int v6_22c), .val (.int (((p4.toUInt32 >>> ((4 : Int32) &&& 31).toUInt32).toInt32) &&& (3 : Int32))), .val (.int (((p4.toUInt32 >>> ((6 : Int32) &&& 31).toUInt32).toInt32) &&& (3 : Int32))), .val (.int p0), .val (.int w0_53), .val (.int w0_77), .val (.int w0_112), .val (.ref b116), .unset, .unset] [(.int (2 : Int32)), (.int v6_22c)]))
                  by_cases hc148_133 : v6_22c < (2 : Int32)
                  · rewrite [if_pos hc148_133]
                    refine Go.of (fun t k => XS.icmpYes X130.here hx rfl (pc0 := 148) (pc' := 162) rfl (hb hby at_148) rfl (tlt hc148_133).1 (by decide) (by decide) k) ?_
                    show Go p e below s _ _ _ (T130.setTop (mkF m 162 #[.val (.int p0), .val (.int p1), .val (.int p2), .val (.int p3), .val (.int p4), .val (.int (4 : Int32)), .val (.int v6_22c), .val (.int (((p4.toUInt32 >>> ((4 : Int32) &&& 31).toUInt32).toInt32) &&& (3 : Int32))), .val (.int (((p4.toUInt32 >>> ((6 : Int32) &&& 31).toUInt32).toInt32) &&& (3 : Int32))), .val (.int p0), .val (.int w0_53), .val (.int w0_77), .val (.int w0_112), .val (.ref b116), .unset, .unset] []))
                    refine Go.of (fun t k => XS.iload X130.here hx rfl (hb hby at_162) rfl k) ?_
                    refine Go.of (fun t k => XS.iconst X130.here hx rfl (hb hby at_164) k) ?_
                    show Go p e below s _ _ _ (T130.setTop (mkF m 165 #[.val (.int p0), .val (.int p1), .val (.int p2), .val (.int p3), .val (.int p4), .val (.int (4 : Int32)), .val (.int v6_22c), .val (.int (((p4.toUInt32 >>> ((4 : Int32) &&& 31).toUInt32).toInt32) &&& (3 : Int32))), .val (.int (((p4.toUInt32 >>> ((6 : Int32) &&& 31).toUInt32).toInt32) &&& (3 : Int32))), .val (.int p0), .val (.int w0_53), .val (.int w0_77), .val (.int w0_112), .val (.ref b116), .unset, .unset] [(.int (3 : Int32)), (.int v6_22c)]))
                    have hf165_134 : v6_22c < (3 : Int32) := own_23 hc148_133
                    refine Go.of (fun t k => XS.icmpYes X130.here hx rfl (pc0 := 165) (pc' := 179) rfl (hb hby at_165) rfl (tlt hf165_134).1 (by decide) (by decide) k) ?_
                    show Go p e below s _ _ _ (T130.setTop (mkF m 179 #[.val (.int p0), .val (.int p1), .val (.int p2), .val (.int p3), .val (.int p4), .val (.int (4 : Int32)), .val (.int v6_22c), .val (.int (((p4.toUInt32 >>> ((4 : Int32) &&& 31).toUInt32).toInt32) &&& (3 : Int32))), .val (.int (((p4.toUInt32 >>> ((6 : Int32) &&& 31).toUInt32).toInt32) &&& (3 : Int32))), .val (.int p0), .val (.int w0_53), .val (.int w0_77), .val (.int w0_112), .val (.ref b116), .unset, .unset] []))
                    refine Go.of (fun t k => XS.aload X130.here hx rfl (hb hby at_179) rfl rfl k) ?_
                    refine Go.of (fun t k => XS.iconst X130.here hx rfl (hb hby at_181) k) ?_
                    refine Go.of (fun t k => XS.iload X130.here hx rfl (hb hby at_182) rfl k) ?_
                    show Go p e below s _ _ _ (T130.setTop (mkF m 184 #[.val (.int p0), .val (.int p1), .val (.int p2), .val (.int p3), .val (.int p4), .val (.int (4 : Int32)), .val (.int v6_22c), .val (.int (((p4.toUInt32 >>> ((4 : Int32) &&& 31).toUInt32).toInt32) &&& (3 : Int32))), .val (.int (((p4.toUInt32 >>> ((6 : Int32) &&& 31).toUInt32).toInt32) &&& (3 : Int32))), .val (.int p0), .val (.int w0_53), .val (.int w0_77), .val (.int w0_112), .val (.ref b116), .unset, .unset] [(.int w0_112), (.int (0 : Int32)), (.ref b116)]))
                    obtain ⟨cq135, kq135, q135a, q135b, q135c⟩ := isOf hZ rfl E_132
                    obtain ⟨_, _, ⟨T135, L135, k135, n135⟩, -, X135, ⟨Lc135, hQ135, l135, y135, z135⟩, st135⟩ := X130.virtualBack hx (y := (⟨"com/example/susurrus/susurrus/KnownUnits", "find", "(II)I"⟩ : MethodName)) (z := (⟨"com/example/susurrus/susurrus/KnownUnits", "find", "(II)I"⟩ : MethodName)) hown (mvT hZ (hw _ (List.mem_of_getElem? (i := 54) rfl))) (mvT hZ (hw _ (List.mem_of_getElem? (i := 55) rfl))) (notFace_of_selects (args := #[]) (mvT hZ (hw _ (List.mem_of_getElem? (i := 57) rfl)))) (mvT hZ (hw _ (List.mem_of_getElem? (i := 57) rfl))) (mvT hZ (hw _ (List.mem_of_getElem? (i := 56) rfl))) (by decide) (backOf (W := 0) (rm9 l Z az hw [] b116 (0 : Int32) w0_112 bu131 bg131 bd131 xt125 xr125 xc125 ku131 kg131 kd131 kxt125 kxr125 kxc125 (8 : Int32) [p0, (0 : Int32), (0 : Int32), (0 : Int32), w0_112, (0 : Int32), (0 : Int32), (0 : Int32)] [(0 : Int32), (0 : Int32), (0 : Int32), (0 : Int32), (0 : Int32), (0 : Int32), (0 : Int32), (0 : Int32)] [(-1 : Int32), (0 : Int32), (0 : Int32), (0 : Int32), (-1 : Int32), (0 : Int32), (0 : Int32), (0 : Int32)] [(0 : Int32), (4 : Int32)] [(4 : Int32), (1 : Int32)] [(1 : Int32), (1 : Int32)] (5 : Int32) T130.heap n0 Zk132 ⟨E_132, Ff0_132, Ff1_132, Ff2_132, Ff3_132, Ff4_132, Ff5_132, Ff6_132, Vv0_132, Vv1_132, Vv2_132, Vv3_132, Vv4_132, Vv5_132, g_b116, g_bu131, g_bg131, g_bd131, g_xt125, g_xr125, g_xc125, Zk132, ne_0_1_132, ne_0_2_132, ne_0_3_132, ne_0_4_132, ne_0_5_132, ne_0_6_132, ne_1_2_132, ne_1_3_132, ne_1_4_132, ne_1_5_132, ne_1_6_132, ne_2_3_132, ne_2_4_132, ne_2_5_132, ne_2_6_132, ne_3_4_132, ne_3_5_132, ne_3_6_132, ne_4_5_132, ne_4_6_132, ne_5_6_132⟩ (by decide) (by decide)) hZ (hw _ (List.mem_of_getElem? (i := 58) rfl)) (hw _ (List.mem_of_getElem? (i := 6) rfl)) (by decide) (by decide)) q135a q135c (g := (mkF m 184 #[.val (.int p0), .val (.int p1), .val (.int p2), .val (.int p3), .val (.int p4), .val (.int (4 : Int32)), .val (.int v6_22c), .val (.int (((p4.toUInt32 >>> ((4 : Int32) &&& 31).toUInt32).toInt32) &&& (3 : Int32))), .val (.int (((p4.toUInt32 >>> ((6 : Int32) &&& 31).toUInt32).toInt32) &&& (3 : Int32))), .val (.int p0), .val (.int w0_53), .val (.int w0_77), .val (.int w0_112), .val (.ref b116), .unset, .unset] [(.int w0_112), (.int (0 : Int32)), (.ref b116)])) rfl (by rw [hml]; rfl) (Steps.refl _) (argsL := [(.int (0 : Int32)), (.int w0_112)]) (rest := []) (lenOf own_pd0 rfl) rfl (by show 2 * 0 + _ ≤ _; exact Nat.le_of_eq rfl) (hb hby at_184) (fun _ _ => ⟨rfl, rfl, (by decide : 13 + 0 ≤ _), (by decide : 61 + 0 ≤ _)⟩)
                    dsimp only [Pt.U, Pt.locs, Pt.cells, Pt.slots] at X135 l135 y135 z135 st135 hQ135
                    subst l135 y135 z135
                    obtain ⟨rfl, N135q, e135⟩ := hQ135
                    have N135 := Fr.app N130 N135q
                    refine Go.of (fun t k => st135.trans k) ?_
                    show Go p e below s _ _ _ (T135.setTop (mkF m 187 #[.val (.int p0), .val (.int p1), .val (.int p2), .val (.int p3), .val (.int p4), .val (.int (4 : Int32)), .val (.int v6_22c), .val (.int (((p4.toUInt32 >>> ((4 : Int32) &&& 31).toUInt32).toInt32) &&& (3 : Int32))), .val (.int (((p4.toUInt32 >>> ((6 : Int32) &&& 31).toUInt32).toInt32) &&& (3 : Int32))), .val (.int p0), .val (.int w0_53), .val (.int w0_77), .val (.int w0_112), .val (.ref b116), .unset, .unset] [(.int (F9 (0 : Int32) w0_112 [p0, (0 : Int32), (0 : Int32), (0 : Int32), w0_112, (0 : Int32), (0 : Int32), (0 : Int32)] [(0 : Int32), (4 : Int32)] [(1 : Int32), (1 : Int32)]))]))
                    refine Go.of (fun t k => XS.istore X135.here hx rfl (hb hby at_187) rfl (l' := #[.val (.int p0), .val (.int p1), .val (.int p2), .val (.int p3), .val (.int p4), .val (.int (4 : Int32)), .val (.int v6_22c), .val (.int (((p4.toUInt32 >>> ((4 : Int32) &&& 31).toUInt32).toInt32) &&& (3 : Int32))), .val (.int (((p4.toUInt32 >>> ((6 : Int32) &&& 31).toUInt32).toInt32) &&& (3 : Int32))), .val (.int p0), .val (.int w0_53), .val (.int w0_77), .val (.int w0_112), .val (.ref b116), .val (.int (F9 (0 : Int32) w0_112 [p0, (0 : Int32), (0 : Int32), (0 : Int32), w0_112, (0 : Int32), (0 : Int32), (0 : Int32)] [(0 : Int32), (4 : Int32)] [(1 : Int32), (1 : Int32)])), .unset]) rfl k) ?_
                    refine Go.of (fun t k => XS.iload X135.here hx rfl (hb hby at_189) rfl k) ?_
                    refine Go.of (fun t k => XS.istore X135.here hx rfl (hb hby at_191) rfl (l' := #[.val (.int p0), .val (.int p1), .val (.int p2), .val (.int p3), .val (.int p4), .val (.int (4 : Int32)), .val (.int v6_22c), .val (.int (((p4.toUInt32 >>> ((4 : Int32) &&& 31).toUInt32).toInt32) &&& (3 : Int32))), .val (.int (((p4.toUInt32 >>> ((6 : Int32) &&& 31).toUInt32).toInt32) &&& (3 : Int32))), .val (.int p0), .val (.int w0_53), .val (.int w0_77), .val (.int w0_112), .val (.ref b116), .val (.int (F9 (0 : Int32) w0_112 [p0, (0 : Int32), (0 : Int32), (0 : Int32), w0_112, (0 : Int32), (0 : Int32), (0 : Int32)] [(0 : Int32), (4 : Int32)] [(1 : Int32), (1 : Int32)])), .val (.int v6_22c)]) rfl k) ?_
                    refine Go.of (fun t k => XS.iload X135.here hx rfl (hb hby at_193) rfl k) ?_
                    refine Go.of (fun t k => XS.iconst X135.here hx rfl (hb hby at_195) k) ?_
                    show Go p e below s _ _ _ (T135.setTop (mkF m 196 #[.val (.int p0), .val (.int p1), .val (.int p2), .val (.int p3), .val (.int p4), .val (.int (4 : Int32)), .val (.int v6_22c), .val (.int (((p4.toUInt32 >>> ((4 : Int32) &&& 31).toUInt32).toInt32) &&& (3 : Int32))), .val (.int (((p4.toUInt32 >>> ((6 : Int32) &&& 31).toUInt32).toInt32) &&& (3 : Int32))), .val (.int p0), .val (.int w0_53), .val (.int w0_77), .val (.int w0_112), .val (.ref b116), .val (.int (F9 (0 : Int32) w0_112 [p0, (0 : Int32), (0 : Int32), (0 : Int32), w0_112, (0 : Int32), (0 : Int32), (0 : Int32)] [(0 : Int32), (4 : Int32)] [(1 : Int32), (1 : Int32)])), .val (.int v6_22c)] [(.int (3 : Int32)), (.int v6_22c)]))
                    have jn209i : ∀ (v15_209i : Int32) (T_209i : State) (l_209i : List Loc) (X_209i : Stand p l e room_1 s m #[(.int p0), (.int p1), (.int p2), (.int p3), (.int p4)] below meth c T_209i l_209i 13 61) (e_209i : T_209i.heap = T130.heap) (N_209i : Fr n0 l_209i), Go p e below s (QL (some (.int (F0_209i p0 w0_112 v15_209i))) n0) room_1.cells room_1.slots (T_209i.setTop (mkF m 209 #[.val (.int p0), .val (.int p1), .val (.int p2), .val (.int p3), .val (.int p4), .val (.int (4 : Int32)), .val (.int v6_22c), .val (.int (((p4.toUInt32 >>> ((4 : Int32) &&& 31).toUInt32).toInt32) &&& (3 : Int32))), .val (.int (((p4.toUInt32 >>> ((6 : Int32) &&& 31).toUInt32).toInt32) &&& (3 : Int32))), .val (.int p0), .val (.int w0_53), .val (.int w0_77), .val (.int w0_112), .val (.ref b116), .val (.int (F9 (0 : Int32) w0_112 [p0, (0 : Int32), (0 : Int32), (0 : Int32), w0_112, (0 : Int32), (0 : Int32), (0 : Int32)] [(0 : Int32), (4 : Int32)] [(1 : Int32), (1 : Int32)])), .val (.int v15_209i)] [])) := by
                      intro v15_209i T_209i l_209i X_209i e_209i N_209i
                      unfold F0_209i
                      refine Go.of (fun t k => XS.iload X_209i.here hx rfl (hb hby at_209) rfl k) ?_
                      refine Go.of (fun t k => XS.iconst X_209i.here hx rfl (hb hby at_211) k) ?_
                      show Go p e below s _ _ _ (T_209i.setTop (mkF m 212 #[.val (.int p0), .val (.int p1), .val (.int p2), .val (.int p3), .val (.int p4), .val (.int (4 : Int32)), .val (.int v6_22c), .val (.int (((p4.toUInt32 >>> ((4 : Int32) &&& 31).toUInt32).toInt32) &&& (3 : Int32))), .val (.int (((p4.toUInt32 >>> ((6 : Int32) &&& 31).toUInt32).toInt32) &&& (3 : Int32))), .val (.int p0), .val (.int w0_53), .val (.int w0_77), .val (.int w0_112), .val (.ref b116), .val (.int (F9 (0 : Int32) w0_112 [p0, (0 : Int32), (0 : Int32), (0 : Int32), w0_112, (0 : Int32), (0 : Int32), (0 : Int32)] [(0 : Int32), (4 : Int32)] [(1 : Int32), (1 : Int32)])), .val (.int v15_209i)] [(.int (2 : Int32)), (.int v6_22c)]))
                      have jn225i : ∀ (v15_225i : Int32) (T_225i : State) (l_225i : List Loc) (X_225i : Stand p l e room_1 s m #[(.int p0), (.int p1), (.int p2), (.int p3), (.int p4)] below meth c T_225i l_225i 13 61) (e_225i : T_225i.heap = T130.heap) (N_225i : Fr n0 l_225i), Go p e below s (QL (some (.int (F0_225i p0 w0_112 v15_225i))) n0) room_1.cells room_1.slots (T_225i.setTop (mkF m 225 #[.val (.int p0), .val (.int p1), .val (.int p2), .val (.int p3), .val (.int p4), .val (.int (4 : Int32)), .val (.int v6_22c), .val (.int (((p4.toUInt32 >>> ((4 : Int32) &&& 31).toUInt32).toInt32) &&& (3 : Int32))), .val (.int (((p4.toUInt32 >>> ((6 : Int32) &&& 31).toUInt32).toInt32) &&& (3 : Int32))), .val (.int p0), .val (.int w0_53), .val (.int w0_77), .val (.int w0_112), .val (.ref b116), .val (.int (F9 (0 : Int32) w0_112 [p0, (0 : Int32), (0 : Int32), (0 : Int32), w0_112, (0 : Int32), (0 : Int32), (0 : Int32)] [(0 : Int32), (4 : Int32)] [(1 : Int32), (1 : Int32)])), .val (.int v15_225i)] [])) := by
                        intro v15_225i T_225i l_225i X_225i e_225i N_225i
                        unfold F0_225i
                        refine Go.of (fun t k => XS.iload X_225i.here hx rfl (hb hby at_225) rfl k) ?_
                        refine Go.of (fun t k => XS.iload X_225i.here hx rfl (hb hby at_227) rfl k) ?_
                        show Go p e below s _ _ _ (T_225i.setTop (mkF m 229 #[.val (.int p0), .val (.int p1), .val (.int p2), .val (.int p3), .val (.int p4), .val (.int (4 : Int32)), .val (.int v6_22c), .val (.int (((p4.toUInt32 >>> ((4 : Int32) &&& 31).toUInt32).toInt32) &&& (3 : Int32))), .val (.int (((p4.toUInt32 >>> ((6 : Int32) &&& 31).toUInt32).toInt32) &&& (3 : Int32))), .val (.int p0), .val (.int w0_53), .val (.int w0_77), .val (.int w0_112), .val (.ref b116), .val (.int (F9 (0 : Int32) w0_112 [p0, (0 : Int32), (0 : Int32), (0 : Int32), w0_112, (0 : Int32), (0 : Int32), (0 : Int32)] [(0 : Int32), (4 : Int32)] [(1 : Int32), (1 : Int32)])), .val (.int v15_225i)] [(.int w0_112), (.int p0)]))
                        have jn235i : ∀ (v15_235i : Int32) (T_235i : State) (l_235i : List Loc) (X_235i : Stand p l e room_1 s m #[(.int p0), (.int p1), (.int p2), (.int p3), (.int p4)] below meth c T_235i l_235i 13 61) (e_235i : T_235i.heap = T130.heap) (N_235i : Fr n0 l_235i), Go p e below s (QL (some (.int (F0_235i p0 w0_112 v15_235i))) n0) room_1.cells room_1.slots (T_235i.setTop (mkF m 235 #[.val (.int p0), .val (.int p1), .val (.int p2), .val (.int p3), .val (.int p4), .val (.int (4 : Int32)), .val (.int v6_22c), .val (.int (((p4.toUInt32 >>> ((4 : Int32) &&& 31).toUInt32).toInt32) &&& (3 : Int32))), .val (.int (((p4.toUInt32 >>> ((6 : Int32) &&& 31).toUInt32).toInt32) &&& (3 : Int32))), .val (.int p0), .val (.int w0_53), .val (.int w0_77), .val (.int w0_112), .val (.ref b116), .val (.int (F9 (0 : Int32) w0_112 [p0, (0 : Int32), (0 : Int32), (0 : Int32), w0_112, (0 : Int32), (0 : Int32), (0 : Int32)] [(0 : Int32), (4 : Int32)] [(1 : Int32), (1 : Int32)])), .val (.int v15_235i)] [])) := by
                          intro v15_235i T_235i l_235i X_235i e_235i N_235i
                          unfold F0_235i
                          refine Go.of (fun t k => XS.iload X_235i.here hx rfl (hb hby at_235) rfl k) ?_
                          refine Go.of (fun t k => XS.iload X_235i.here hx rfl (hb hby at_237) rfl k) ?_
                          show Go p e below s _ _ _ (T_235i.setTop (mkF m 239 #[.val (.int p0), .val (.int p1), .val (.int p2), .val (.int p3), .val (.int p4), .val (.int (4 : Int32)), .val (.int v6_22c), .val (.int (((p4.toUInt32 >>> ((4 : Int32) &&& 31).toUInt32).toInt32) &&& (3 : Int32))), .val (.int (((p4.toUInt32 >>> ((6 : Int32) &&& 31).toUInt32).toInt32) &&& (3 : Int32))), .val (.int p0), .val (.int w0_53), .val (.int w0_77), .val (.int w0_112), .val (.ref b116), .val (.int (F9 (0 : Int32) w0_112 [p0, (0 : Int32), (0 : Int32), (0 : Int32), w0_112, (0 : Int32), (0 : Int32), (0 : Int32)] [(0 : Int32), (4 : Int32)] [(1 : Int32), (1 : Int32)])), .val (.int v15_235i)] [(.int v15_235i), (.int (F9 (0 : Int32) w0_112 [p0, (0 : Int32), (0 : Int32), (0 : Int32), w0_112, (0 : Int32), (0 : Int32), (0 : Int32)] [(0 : Int32), (4 : Int32)] [(1 : Int32), (1 : Int32)]))]))
                          by_cases hc239_136 : (F9 (0 : Int32) w0_112 [p0, (0 : Int32), (0 : Int32), (0 : Int32), w0_112, (0 : Int32), (0 : Int32), (0 : Int32)] [(0 : Int32), (4 : Int32)] [(1 : Int32), (1 : Int32)]) = v15_235i
                          · rewrite [if_pos hc239_136]
                            refine Go.of (fun t k => XS.icmpNo X_235i.here hx rfl (hb hby at_239) rfl (teq hc239_136).2 k) ?_
                            show Go p e below s _ _ _ (T_235i.setTop (mkF m 242 #[.val (.int p0), .val (.int p1), .val (.int p2), .val (.int p3), .val (.int p4), .val (.int (4 : Int32)), .val (.int v6_22c), .val (.int (((p4.toUInt32 >>> ((4 : Int32) &&& 31).toUInt32).toInt32) &&& (3 : Int32))), .val (.int (((p4.toUInt32 >>> ((6 : Int32) &&& 31).toUInt32).toInt32) &&& (3 : Int32))), .val (.int p0), .val (.int w0_53), .val (.int w0_77), .val (.int w0_112), .val (.ref b116), .val (.int (F9 (0 : Int32) w0_112 [p0, (0 : Int32), (0 : Int32), (0 : Int32), w0_112, (0 : Int32), (0 : Int32), (0 : Int32)] [(0 : Int32), (4 : Int32)] [(1 : Int32), (1 : Int32)])), .val (.int v15_235i)] []))
                            refine Go.of (fun t k => XS.iconst X_235i.here hx rfl (hb hby at_242) k) ?_
                            refine Go.of (fun t k => XS.goto X_235i.here hx rfl (pc0 := 243) (pc' := 247) rfl (hb hby at_243) (by decide) (by decide) k) ?_
                            show Go p e below s _ _ _ (T_235i.setTop (mkF m 247 #[.val (.int p0), .val (.int p1), .val (.int p2), .val (.int p3), .val (.int p4), .val (.int (4 : Int32)), .val (.int v6_22c), .val (.int (((p4.toUInt32 >>> ((4 : Int32) &&& 31).toUInt32).toInt32) &&& (3 : Int32))), .val (.int (((p4.toUInt32 >>> ((6 : Int32) &&& 31).toUInt32).toInt32) &&& (3 : Int32))), .val (.int p0), .val (.int w0_53), .val (.int w0_77), .val (.int w0_112), .val (.ref b116), .val (.int (F9 (0 : Int32) w0_112 [p0, (0 : Int32), (0 : Int32), (0 : Int32), w0_112, (0 : Int32), (0 : Int32), (0 : Int32)] [(0 : Int32), (4 : Int32)] [(1 : Int32), (1 : Int32)])), .val (.int v15_235i)] [(.int (1 : Int32))]))
                            exact Go.ret X_235i (some (.int (1 : Int32))) (fun h => by rw [Bd.returns] at h; cases h) hlk ⟨rfl, N_235i⟩ (by decide) (by decide) (fun fs hr => (retN X_235i hx (t := .boolean) Bd.returns (by simp) (hb hby at_247) hr))
                          · rewrite [if_neg hc239_136]
                            refine Go.of (fun t k => XS.icmpYes X_235i.here hx rfl (pc0 := 239) (pc' := 246) rfl (hb hby at_239) rfl (feq hc239_136).2 (by decide) (by decide) k) ?_
                            show Go p e below s _ _ _ (T_235i.setTop (mkF m 246 #[.val (.int p0), .val (.int p1), .val (.int p2), .val (.int p3), .val (.int p4), .val (.int (4 : Int32)), .val (.int v6_22c), .val (.int (((p4.toUInt32 >>> ((4 : Int32) &&& 31).toUInt32).toInt32) &&& (3 : Int32))), .val (.int (((p4.toUInt32 >>> ((6 : Int32) &&& 31).toUInt32).toInt32) &&& (3 : Int32))), .val (.int p0), .val (.int w0_53), .val (.int w0_77), .val (.int w0_112), .val (.ref b116), .val (.int (F9 (0 : Int32) w0_112 [p0, (0 : Int32), (0 : Int32), (0 : Int32), w0_112, (0 : Int32), (0 : Int32), (0 : Int32)] [(0 : Int32), (4 : Int32)] [(1 : Int32), (1 : Int32)])), .val (.int v15_235i)] []))
                            refine Go.of (fun t k => XS.iconst X_235i.here hx rfl (hb hby at_246) k) ?_
                            show Go p e below s _ _ _ (T_235i.setTop (mkF m 247 #[.val (.int p0), .val (.int p1), .val (.int p2), .val (.int p3), .val (.int p4), .val (.int (4 : Int32)), .val (.int v6_22c), .val (.int (((p4.toUInt32 >>> ((4 : Int32) &&& 31).toUInt32).toInt32) &&& (3 : Int32))), .val (.int (((p4.toUInt32 >>> ((6 : Int32) &&& 31).toUInt32).toInt32) &&& (3 : Int32))), .val (.int p0), .val (.int w0_53), .val (.int w0_77), .val (.int w0_112), .val (.ref b116), .val (.int (F9 (0 : Int32) w0_112 [p0, (0 : Int32), (0 : Int32), (0 : Int32), w0_112, (0 : Int32), (0 : Int32), (0 : Int32)] [(0 : Int32), (4 : Int32)] [(1 : Int32), (1 : Int32)])), .val (.int v15_235i)] [(.int (0 : Int32))]))
                            exact Go.ret X_235i (some (.int (0 : Int32))) (fun h => by rw [Bd.returns] at h; cases h) hlk ⟨rfl, N_235i⟩ (by decide) (by decide) (fun fs hr => (retN X_235i hx (t := .boolean) Bd.returns (by simp) (hb hby at_247) hr))
                        by_cases hc229_137 : p0 = w0_112
                        · rewrite [if_pos hc229_137]
                          refine Go.of (fun t k => XS.icmpNo X_225i.here hx rfl (hb hby at_229) rfl (teq hc229_137).2 k) ?_
                          show Go p e below s _ _ _ (T_225i.setTop (mkF m 232 #[.val (.int p0), .val (.int p1), .val (.int p2), .val (.int p3), .val (.int p4), .val (.int (4 : Int32)), .val (.int v6_22c), .val (.int (((p4.toUInt32 >>> ((4 : Int32) &&& 31).toUInt32).toInt32) &&& (3 : Int32))), .val (.int (((p4.toUInt32 >>> ((6 : Int32) &&& 31).toUInt32).toInt32) &&& (3 : Int32))), .val (.int p0), .val (.int w0_53), .val (.int w0_77), .val (.int w0_112), .val (.ref b116), .val (.int (F9 (0 : Int32) w0_112 [p0, (0 : Int32), (0 : Int32), (0 : Int32), w0_112, (0 : Int32), (0 : Int32), (0 : Int32)] [(0 : Int32), (4 : Int32)] [(1 : Int32), (1 : Int32)])), .val (.int v15_225i)] []))
                          refine Go.of (fun t k => XS.iconst X_225i.here hx rfl (hb hby at_232) k) ?_
                          refine Go.of (fun t k => XS.istore X_225i.here hx rfl (hb hby at_233) rfl (l' := #[.val (.int p0), .val (.int p1), .val (.int p2), .val (.int p3), .val (.int p4), .val (.int (4 : Int32)), .val (.int v6_22c), .val (.int (((p4.toUInt32 >>> ((4 : Int32) &&& 31).toUInt32).toInt32) &&& (3 : Int32))), .val (.int (((p4.toUInt32 >>> ((6 : Int32) &&& 31).toUInt32).toInt32) &&& (3 : Int32))), .val (.int p0), .val (.int w0_53), .val (.int w0_77), .val (.int w0_112), .val (.ref b116), .val (.int (F9 (0 : Int32) w0_112 [p0, (0 : Int32), (0 : Int32), (0 : Int32), w0_112, (0 : Int32), (0 : Int32), (0 : Int32)] [(0 : Int32), (4 : Int32)] [(1 : Int32), (1 : Int32)])), .val (.int (0 : Int32))]) rfl k) ?_
                          show Go p e below s _ _ _ (T_225i.setTop (mkF m 235 #[.val (.int p0), .val (.int p1), .val (.int p2), .val (.int p3), .val (.int p4), .val (.int (4 : Int32)), .val (.int v6_22c), .val (.int (((p4.toUInt32 >>> ((4 : Int32) &&& 31).toUInt32).toInt32) &&& (3 : Int32))), .val (.int (((p4.toUInt32 >>> ((6 : Int32) &&& 31).toUInt32).toInt32) &&& (3 : Int32))), .val (.int p0), .val (.int w0_53), .val (.int w0_77), .val (.int w0_112), .val (.ref b116), .val (.int (F9 (0 : Int32) w0_112 [p0, (0 : Int32), (0 : Int32), (0 : Int32), w0_112, (0 : Int32), (0 : Int32), (0 : Int32)] [(0 : Int32), (4 : Int32)] [(1 : Int32), (1 : Int32)])), .val (.int (0 : Int32))] []))
                          exact jn235i (0 : Int32)  T_225i _ X_225i e_225i N_225i  
                        · rewrite [if_neg hc229_137]
                          refine Go.of (fun t k => XS.icmpYes X_225i.here hx rfl (pc0 := 229) (pc' := 235) rfl (hb hby at_229) rfl (feq hc229_137).2 (by decide) (by decide) k) ?_
                          show Go p e below s _ _ _ (T_225i.setTop (mkF m 235 #[.val (.int p0), .val (.int p1), .val (.int p2), .val (.int p3), .val (.int p4), .val (.int (4 : Int32)), .val (.int v6_22c), .val (.int (((p4.toUInt32 >>> ((4 : Int32) &&& 31).toUInt32).toInt32) &&& (3 : Int32))), .val (.int (((p4.toUInt32 >>> ((6 : Int32) &&& 31).toUInt32).toInt32) &&& (3 : Int32))), .val (.int p0), .val (.int w0_53), .val (.int w0_77), .val (.int w0_112), .val (.ref b116), .val (.int (F9 (0 : Int32) w0_112 [p0, (0 : Int32), (0 : Int32), (0 : Int32), w0_112, (0 : Int32), (0 : Int32), (0 : Int32)] [(0 : Int32), (4 : Int32)] [(1 : Int32), (1 : Int32)])), .val (.int v15_225i)] []))
                          exact jn235i v15_225i  T_225i _ X_225i e_225i N_225i  
                      refine Go.of (fun t k => XS.icmpYes X_209i.here hx rfl (pc0 := 212) (pc' := 225) rfl (hb hby at_212) rfl (tlt hc148_133).1 (by decide) (by decide) k) ?_
                      show Go p e below s _ _ _ (T_209i.setTop (mkF m 225 #[.val (.int p0), .val (.int p1), .val (.int p2), .val (.int p3), .val (.int p4), .val (.int (4 : Int32)), .val (.int v6_22c), .val (.int (((p4.toUInt32 >>> ((4 : Int32) &&& 31).toUInt32).toInt32) &&& (3 : Int32))), .val (.int (((p4.toUInt32 >>> ((6 : Int32) &&& 31).toUInt32).toInt32) &&& (3 : Int32))), .val (.int p0), .val (.int w0_53), .val (.int w0_77), .val (.int w0_112), .val (.ref b116), .val (.int (F9 (0 : Int32) w0_112 [p0, (0 : Int32), (0 : Int32), (0 : Int32), w0_112, (0 : Int32), (0 : Int32), (0 : Int32)] [(0 : Int32), (4 : Int32)] [(1 : Int32), (1 : Int32)])), .val (.int v15_209i)] []))
                      exact jn225i v15_209i  T_209i _ X_209i e_209i N_209i  
                    refine Go.of (fun t k => XS.icmpYes X135.here hx rfl (pc0 := 196) (pc' := 209) rfl (hb hby at_196) rfl (tlt hf165_134).1 (by decide) (by decide) k) ?_
                    show Go p e below s _ _ _ (T135.setTop (mkF m 209 #[.val (.int p0), .val (.int p1), .val (.int p2), .val (.int p3), .val (.int p4), .val (.int (4 : Int32)), .val (.int v6_22c), .val (.int (((p4.toUInt32 >>> ((4 : Int32) &&& 31).toUInt32).toInt32) &&& (3 : Int32))), .val (.int (((p4.toUInt32 >>> ((6 : Int32) &&& 31).toUInt32).toInt32) &&& (3 : Int32))), .val (.int p0), .val (.int w0_53), .val (.int w0_77), .val (.int w0_112), .val (.ref b116), .val (.int (F9 (0 : Int32) w0_112 [p0, (0 : Int32), (0 : Int32), (0 : Int32), w0_112, (0 : Int32), (0 : Int32), (0 : Int32)] [(0 : Int32), (4 : Int32)] [(1 : Int32), (1 : Int32)])), .val (.int v6_22c)] []))
                    exact jn209i v6_22c  T135 _ X135 e135 N135  
                  · rewrite [if_neg hc148_133]
                    refine Go.of (fun t k => XS.icmpNo X130.here hx rfl (hb hby at_148) rfl (flt hc148_133).1 k) ?_
                    show Go p e below s _ _ _ (T130.setTop (mkF m 151 #[.val (.int p0), .val (.int p1), .val (.int p2), .val (.int p3), .val (.int p4), .val (.int (4 : Int32)), .val (.int v6_22c), .val (.int (((p4.toUInt32 >>> ((4 : Int32) &&& 31).toUInt32).toInt32) &&& (3 : Int32))), .val (.int (((p4.toUInt32 >>> ((6 : Int32) &&& 31).toUInt32).toInt32) &&& (3 : Int32))), .val (.int p0), .val (.int w0_53), .val (.int w0_77), .val (.int w0_112), .val (.ref b116), .unset, .unset] []))
                    refine Go.of (fun t k => XS.aload X130.here hx rfl (hb hby at_151) rfl rfl k) ?_
                    refine Go.of (fun t k => XS.iconst X130.here hx rfl (hb hby at_153) k) ?_
                    refine Go.of (fun t k => XS.iconst X130.here hx rfl (hb hby at_154) k) ?_
                    refine Go.of (fun t k => XS.iload X130.here hx rfl (hb hby at_155) rfl k) ?_
                    refine Go.of (fun t k => XS.iconst X130.here hx rfl (hb hby at_157) k) ?_
                    refine Go.of (fun t k => XS.iconst X130.here hx rfl (hb hby at_158) k) ?_
                    show Go p e below s _ _ _ (T130.setTop (mkF m 159 #[.val (.int p0), .val (.int p1), .val (.int p2), .val (.int p3), .val (.int p4), .val (.int (4 : Int32)), .val (.int v6_22c), .val (.int (((p4.toUInt32 >>> ((4 : Int32) &&& 31).toUInt32).toInt32) &&& (3 : Int32))), .val (.int (((p4.toUInt32 >>> ((6 : Int32) &&& 31).toUInt32).toInt32) &&& (3 : Int32))), .val (.int p0), .val (.int w0_53), .val (.int w0_77), .val (.int w0_112), .val (.ref b116), .unset, .unset] [(.int (0 : Int32)), (.int (0 : Int32)), (.int w0_53), (.int (1 : Int32)), (.int (0 : Int32)), (.ref b116)]))
                    obtain ⟨cq138, kq138, q138a, q138b, q138c⟩ := isOf hZ rfl E_132
                    obtain ⟨_, _, ⟨T138, L138, k138, n138⟩, -, X138, ⟨Lc138, hQ138, l138, y138, z138⟩, st138⟩ := X130.virtualBack hx (y := (⟨"com/example/susurrus/susurrus/KnownUnits", "keep", "(IIIII)V"⟩ : MethodName)) (z := (⟨"com/example/susurrus/susurrus/KnownUnits", "keep", "(IIIII)V"⟩ : MethodName)) hown (mvT hZ (hw _ (List.mem_of_getElem? (i := 59) rfl))) (mvT hZ (hw _ (List.mem_of_getElem? (i := 60) rfl))) (notFace_of_selects (args := #[]) (mvT hZ (hw _ (List.mem_of_getElem? (i := 62) rfl)))) (mvT hZ (hw _ (List.mem_of_getElem? (i := 62) rfl))) (mvT hZ (hw _ (List.mem_of_getElem? (i := 61) rfl))) (by decide) (backOf (W := 0) (rm10B l Z az hw [] b116 (0 : Int32) (1 : Int32) w0_53 (0 : Int32) (0 : Int32) bu131 bg131 bd131 xt125 xr125 xc125 ku131 kg131 kd131 kxt125 kxr125 kxc125 (8 : Int32) [p0, (0 : Int32), (0 : Int32), (0 : Int32), w0_112, (0 : Int32), (0 : Int32), (0 : Int32)] [(0 : Int32), (0 : Int32), (0 : Int32), (0 : Int32), (0 : Int32), (0 : Int32), (0 : Int32), (0 : Int32)] [(-1 : Int32), (0 : Int32), (0 : Int32), (0 : Int32), (-1 : Int32), (0 : Int32), (0 : Int32), (0 : Int32)] [(0 : Int32), (4 : Int32)] [(4 : Int32), (1 : Int32)] [(1 : Int32), (1 : Int32)] (5 : Int32) T130.heap n0 Zk132 ⟨E_132, Ff0_132, Ff1_132, Ff2_132, Ff3_132, Ff4_132, Ff5_132, Ff6_132, Vv0_132, Vv1_132, Vv2_132, Vv3_132, Vv4_132, Vv5_132, g_b116, g_bu131, g_bg131, g_bd131, g_xt125, g_xr125, g_xc125, Zk132, ne_0_1_132, ne_0_2_132, ne_0_3_132, ne_0_4_132, ne_0_5_132, ne_0_6_132, ne_1_2_132, ne_1_3_132, ne_1_4_132, ne_1_5_132, ne_1_6_132, ne_2_3_132, ne_2_4_132, ne_2_5_132, ne_2_6_132, ne_3_4_132, ne_3_5_132, ne_3_6_132, ne_4_5_132, ne_4_6_132, ne_5_6_132⟩ (by decide) (by decide) (by decide) (by decide) (by decide) (⟨rfl, rfl, rfl⟩)) hZ (hw _ (List.mem_of_getElem? (i := 63) rfl)) (hw _ (List.mem_of_getElem? (i := 6) rfl)) (by decide) (by decide)) q138a q138c (g := (mkF m 159 #[.val (.int p0), .val (.int p1), .val (.int p2), .val (.int p3), .val (.int p4), .val (.int (4 : Int32)), .val (.int v6_22c), .val (.int (((p4.toUInt32 >>> ((4 : Int32) &&& 31).toUInt32).toInt32) &&& (3 : Int32))), .val (.int (((p4.toUInt32 >>> ((6 : Int32) &&& 31).toUInt32).toInt32) &&& (3 : Int32))), .val (.int p0), .val (.int w0_53), .val (.int w0_77), .val (.int w0_112), .val (.ref b116), .unset, .unset] [(.int (0 : Int32)), (.int (0 : Int32)), (.int w0_53), (.int (1 : Int32)), (.int (0 : Int32)), (.ref b116)])) rfl (by rw [hml]; rfl) (Steps.refl _) (argsL := [(.int (0 : Int32)), (.int (1 : Int32)), (.int w0_53), (.int (0 : Int32)), (.int (0 : Int32))]) (rest := []) (lenOf own_pd7 rfl) rfl (by show 2 * 0 + _ ≤ _; exact Nat.le_of_eq rfl) (hb hby at_159) (fun _ _ => ⟨rfl, rfl, (by decide : 13 + 0 ≤ _), (by decide : 61 + 0 ≤ _)⟩)
                    dsimp only [Pt.U, Pt.locs, Pt.cells, Pt.slots] at X138 l138 y138 z138 st138 hQ138
                    subst l138 y138 z138
                    obtain ⟨rfl, N138q, bu139, bg139, bd139, ku139, kg139, kd139, hK139⟩ := hQ138
                    have N138 := Fr.app N130 N138q
                    have hS139 : own_K Z T138.heap n0 b116 bu139 bg139 bd139 xt125 xr125 xc125 ku139 kg139 kd139 kxt125 kxr125 kxc125 (8 : Int32) [p0, w0_53, (0 : Int32), (0 : Int32), w0_112, (0 : Int32), (0 : Int32), (0 : Int32)] [(0 : Int32), (0 : Int32), (0 : Int32), (0 : Int32), (0 : Int32), (0 : Int32), (0 : Int32), (0 : Int32)] [(-1 : Int32), (0 : Int32), (0 : Int32), (0 : Int32), (-1 : Int32), (0 : Int32), (0 : Int32), (0 : Int32)] [(0 : Int32), (4 : Int32)] [(4 : Int32), (1 : Int32)] [(2 : Int32), (1 : Int32)] (5 : Int32) := hK139
                    obtain ⟨E_140, Ff0_140, Ff1_140, Ff2_140, Ff3_140, Ff4_140, Ff5_140, Ff6_140, Vv0_140, Vv1_140, Vv2_140, Vv3_140, Vv4_140, Vv5_140, g_b116, g_bu139, g_bg139, g_bd139, g_xt125, g_xr125, g_xc125, Zk140, ne_0_1_140, ne_0_2_140, ne_0_3_140, ne_0_4_140, ne_0_5_140, ne_0_6_140, ne_1_2_140, ne_1_3_140, ne_1_4_140, ne_1_5_140, ne_1_6_140, ne_2_3_140, ne_2_4_140, ne_2_5_140, ne_2_6_140, ne_3_4_140, ne_3_5_140, ne_3_6_140, ne_4_5_140, ne_4_6_140, ne_5_6_140⟩ := id hS139
                    refine Go.of (fun t k => st138.trans k) ?_
                    show Go p e below s _ _ _ (T138.setTop (mkF m 162 #[.val (.int p0), .val (.int p1), .val (.int p2), .val (.int p3), .val (.int p4), .val (.int (4 : Int32)), .val (.int v6_22c), .val (.int (((p4.toUInt32 >>> ((4 : Int32) &&& 31).toUInt32).toInt32) &&& (3 : Int32))), .val (.int (((p4.toUInt32 >>> ((6 : Int32) &&& 31).toUInt32).toInt32) &&& (3 : Int32))), .val (.int p0), .val (.int w0_53), .val (.int w0_77), .val (.int w0_112), .val (.ref b116), .unset, .unset] []))
                    refine Go.of (fun t k => XS.iload X138.here hx rfl (hb hby at_162) rfl k) ?_
                    refine Go.of (fun t k => XS.iconst X138.here hx rfl (hb hby at_164) k) ?_
                    show Go p e below s _ _ _ (T138.setTop (mkF m 165 #[.val (.int p0), .val (.int p1), .val (.int p2), .val (.int p3), .val (.int p4), .val (.int (4 : Int32)), .val (.int v6_22c), .val (.int (((p4.toUInt32 >>> ((4 : Int32) &&& 31).toUInt32).toInt32) &&& (3 : Int32))), .val (.int (((p4.toUInt32 >>> ((6 : Int32) &&& 31).toUInt32).toInt32) &&& (3 : Int32))), .val (.int p0), .val (.int w0_53), .val (.int w0_77), .val (.int w0_112), .val (.ref b116), .unset, .unset] [(.int (3 : Int32)), (.int v6_22c)]))
                    by_cases hc165_141 : v6_22c < (3 : Int32)
                    · rewrite [if_pos hc165_141]
                      refine Go.of (fun t k => XS.icmpYes X138.here hx rfl (pc0 := 165) (pc' := 179) rfl (hb hby at_165) rfl (tlt hc165_141).1 (by decide) (by decide) k) ?_
                      show Go p e below s _ _ _ (T138.setTop (mkF m 179 #[.val (.int p0), .val (.int p1), .val (.int p2), .val (.int p3), .val (.int p4), .val (.int (4 : Int32)), .val (.int v6_22c), .val (.int (((p4.toUInt32 >>> ((4 : Int32) &&& 31).toUInt32).toInt32) &&& (3 : Int32))), .val (.int (((p4.toUInt32 >>> ((6 : Int32) &&& 31).toUInt32).toInt32) &&& (3 : Int32))), .val (.int p0), .val (.int w0_53), .val (.int w0_77), .val (.int w0_112), .val (.ref b116), .unset, .unset] []))
                      refine Go.of (fun t k => XS.aload X138.here hx rfl (hb hby at_179) rfl rfl k) ?_
                      refine Go.of (fun t k => XS.iconst X138.here hx rfl (hb hby at_181) k) ?_
                      refine Go.of (fun t k => XS.iload X138.here hx rfl (hb hby at_182) rfl k) ?_
                      show Go p e below s _ _ _ (T138.setTop (mkF m 184 #[.val (.int p0), .val (.int p1), .val (.int p2), .val (.int p3), .val (.int p4), .val (.int (4 : Int32)), .val (.int v6_22c), .val (.int (((p4.toUInt32 >>> ((4 : Int32) &&& 31).toUInt32).toInt32) &&& (3 : Int32))), .val (.int (((p4.toUInt32 >>> ((6 : Int32) &&& 31).toUInt32).toInt32) &&& (3 : Int32))), .val (.int p0), .val (.int w0_53), .val (.int w0_77), .val (.int w0_112), .val (.ref b116), .unset, .unset] [(.int w0_112), (.int (0 : Int32)), (.ref b116)]))
                      obtain ⟨cq142, kq142, q142a, q142b, q142c⟩ := isOf hZ rfl E_140
                      obtain ⟨_, _, ⟨T142, L142, k142, n142⟩, -, X142, ⟨Lc142, hQ142, l142, y142, z142⟩, st142⟩ := X138.virtualBack hx (y := (⟨"com/example/susurrus/susurrus/KnownUnits", "find", "(II)I"⟩ : MethodName)) (z := (⟨"com/example/susurrus/susurrus/KnownUnits", "find", "(II)I"⟩ : MethodName)) hown (mvT hZ (hw _ (List.mem_of_getElem? (i := 54) rfl))) (mvT hZ (hw _ (List.mem_of_getElem? (i := 55) rfl))) (notFace_of_selects (args := #[]) (mvT hZ (hw _ (List.mem_of_getElem? (i := 57) rfl)))) (mvT hZ (hw _ (List.mem_of_getElem? (i := 57) rfl))) (mvT hZ (hw _ (List.mem_of_getElem? (i := 56) rfl))) (by decide) (backOf (W := 0) (rm9 l Z az hw [] b116 (0 : Int32) w0_112 bu139 bg139 bd139 xt125 xr125 xc125 ku139 kg139 kd139 kxt125 kxr125 kxc125 (8 : Int32) [p0, w0_53, (0 : Int32), (0 : Int32), w0_112, (0 : Int32), (0 : Int32), (0 : Int32)] [(0 : Int32), (0 : Int32), (0 : Int32), (0 : Int32), (0 : Int32), (0 : Int32), (0 : Int32), (0 : Int32)] [(-1 : Int32), (0 : Int32), (0 : Int32), (0 : Int32), (-1 : Int32), (0 : Int32), (0 : Int32), (0 : Int32)] [(0 : Int32), (4 : Int32)] [(4 : Int32), (1 : Int32)] [(2 : Int32), (1 : Int32)] (5 : Int32) T138.heap n0 Zk140 ⟨E_140, Ff0_140, Ff1_140, Ff2_140, Ff3_140, Ff4_140, Ff5_140, Ff6_140, Vv0_140, Vv1_140, Vv2_140, Vv3_140, Vv4_140, Vv5_140, g_b116, g_bu139, g_bg139, g_bd139, g_xt125, g_xr125, g_xc125, Zk140, ne_0_1_140, ne_0_2_140, ne_0_3_140, ne_0_4_140, ne_0_5_140, ne_0_6_140, ne_1_2_140, ne_1_3_140, ne_1_4_140, ne_1_5_140, ne_1_6_140, ne_2_3_140, ne_2_4_140, ne_2_5_140, ne_2_6_140, ne_3_4_140, ne_3_5_140, ne_3_6_140, ne_4_5_140, ne_4_6_140, ne_5_6_140⟩ (by decide) (by decide)) hZ (hw _ (List.mem_of_getElem? (i := 58) rfl)) (hw _ (List.mem_of_getElem? (i := 6) rfl)) (by decide) (by decide)) q142a q142c (g := (mkF m 184 #[.val (.int p0), .val (.int p1), .val (.int p2), .val (.int p3), .val (.int p4), .val (.int (4 : Int32)), .val (.int v6_22c), .val (.int (((p4.toUInt32 >>> ((4 : Int32) &&& 31).toUInt32).toInt32) &&& (3 : Int32))), .val (.int (((p4.toUInt32 >>> ((6 : Int32) &&& 31).toUInt32).toInt32) &&& (3 : Int32))), .val (.int p0), .val (.int w0_53), .val (.int w0_77), .val (.int w0_112), .val (.ref b116), .unset, .unset] [(.int w0_112), (.int (0 : Int32)), (.ref b116)])) rfl (by rw [hml]; rfl) (Steps.refl _) (argsL := [(.int (0 : Int32)), (.int w0_112)]) (rest := []) (lenOf own_pd0 rfl) rfl (by show 2 * 0 + _ ≤ _; exact Nat.le_of_eq rfl) (hb hby at_184) (fun _ _ => ⟨rfl, rfl, (by decide : 13 + 0 ≤ _), (by decide : 61 + 0 ≤ _)⟩)
                      dsimp only [Pt.U, Pt.locs, Pt.cells, Pt.slots] at X142 l142 y142 z142 st142 hQ142
                      subst l142 y142 z142
                      obtain ⟨rfl, N142q, e142⟩ := hQ142
                      have N142 := Fr.app N138 N142q
                      refine Go.of (fun t k => st142.trans k) ?_
                      show Go p e below s _ _ _ (T142.setTop (mkF m 187 #[.val (.int p0), .val (.int p1), .val (.int p2), .val (.int p3), .val (.int p4), .val (.int (4 : Int32)), .val (.int v6_22c), .val (.int (((p4.toUInt32 >>> ((4 : Int32) &&& 31).toUInt32).toInt32) &&& (3 : Int32))), .val (.int (((p4.toUInt32 >>> ((6 : Int32) &&& 31).toUInt32).toInt32) &&& (3 : Int32))), .val (.int p0), .val (.int w0_53), .val (.int w0_77), .val (.int w0_112), .val (.ref b116), .unset, .unset] [(.int (F9 (0 : Int32) w0_112 [p0, w0_53, (0 : Int32), (0 : Int32), w0_112, (0 : Int32), (0 : Int32), (0 : Int32)] [(0 : Int32), (4 : Int32)] [(2 : Int32), (1 : Int32)]))]))
                      refine Go.of (fun t k => XS.istore X142.here hx rfl (hb hby at_187) rfl (l' := #[.val (.int p0), .val (.int p1), .val (.int p2), .val (.int p3), .val (.int p4), .val (.int (4 : Int32)), .val (.int v6_22c), .val (.int (((p4.toUInt32 >>> ((4 : Int32) &&& 31).toUInt32).toInt32) &&& (3 : Int32))), .val (.int (((p4.toUInt32 >>> ((6 : Int32) &&& 31).toUInt32).toInt32) &&& (3 : Int32))), .val (.int p0), .val (.int w0_53), .val (.int w0_77), .val (.int w0_112), .val (.ref b116), .val (.int (F9 (0 : Int32) w0_112 [p0, w0_53, (0 : Int32), (0 : Int32), w0_112, (0 : Int32), (0 : Int32), (0 : Int32)] [(0 : Int32), (4 : Int32)] [(2 : Int32), (1 : Int32)])), .unset]) rfl k) ?_
                      refine Go.of (fun t k => XS.iload X142.here hx rfl (hb hby at_189) rfl k) ?_
                      refine Go.of (fun t k => XS.istore X142.here hx rfl (hb hby at_191) rfl (l' := #[.val (.int p0), .val (.int p1), .val (.int p2), .val (.int p3), .val (.int p4), .val (.int (4 : Int32)), .val (.int v6_22c), .val (.int (((p4.toUInt32 >>> ((4 : Int32) &&& 31).toUInt32).toInt32) &&& (3 : Int32))), .val (.int (((p4.toUInt32 >>> ((6 : Int32) &&& 31).toUInt32).toInt32) &&& (3 : Int32))), .val (.int p0), .val (.int w0_53), .val (.int w0_77), .val (.int w0_112), .val (.ref b116), .val (.int (F9 (0 : Int32) w0_112 [p0, w0_53, (0 : Int32), (0 : Int32), w0_112, (0 : Int32), (0 : Int32), (0 : Int32)] [(0 : Int32), (4 : Int32)] [(2 : Int32), (1 : Int32)])), .val (.int v6_22c)]) rfl k) ?_
                      refine Go.of (fun t k => XS.iload X142.here hx rfl (hb hby at_193) rfl k) ?_
                      refine Go.of (fun t k => XS.iconst X142.here hx rfl (hb hby at_195) k) ?_
                      show Go p e below s _ _ _ (T142.setTop (mkF m 196 #[.val (.int p0), .val (.int p1), .val (.int p2), .val (.int p3), .val (.int p4), .val (.int (4 : Int32)), .val (.int v6_22c), .val (.int (((p4.toUInt32 >>> ((4 : Int32) &&& 31).toUInt32).toInt32) &&& (3 : Int32))), .val (.int (((p4.toUInt32 >>> ((6 : Int32) &&& 31).toUInt32).toInt32) &&& (3 : Int32))), .val (.int p0), .val (.int w0_53), .val (.int w0_77), .val (.int w0_112), .val (.ref b116), .val (.int (F9 (0 : Int32) w0_112 [p0, w0_53, (0 : Int32), (0 : Int32), w0_112, (0 : Int32), (0 : Int32), (0 : Int32)] [(0 : Int32), (4 : Int32)] [(2 : Int32), (1 : Int32)])), .val (.int v6_22c)] [(.int (3 : Int32)), (.int v6_22c)]))
                      have jn209j : ∀ (v15_209j : Int32) (T_209j : State) (l_209j : List Loc) (X_209j : Stand p l e room_1 s m #[(.int p0), (.int p1), (.int p2), (.int p3), (.int p4)] below meth c T_209j l_209j 13 61) (e_209j : T_209j.heap = T138.heap) (N_209j : Fr n0 l_209j), Go p e below s (QL (some (.int (F0_209j p0 w0_53 w0_112 v15_209j))) n0) room_1.cells room_1.slots (T_209j.setTop (mkF m 209 #[.val (.int p0), .val (.int p1), .val (.int p2), .val (.int p3), .val (.int p4), .val (.int (4 : Int32)), .val (.int v6_22c), .val (.int (((p4.toUInt32 >>> ((4 : Int32) &&& 31).toUInt32).toInt32) &&& (3 : Int32))), .val (.int (((p4.toUInt32 >>> ((6 : Int32) &&& 31).toUInt32).toInt32) &&& (3 : Int32))), .val (.int p0), .val (.int w0_53), .val (.int w0_77), .val (.int w0_112), .val (.ref b116), .val (.int (F9 (0 : Int32) w0_112 [p0, w0_53, (0 : Int32), (0 : Int32), w0_112, (0 : Int32), (0 : Int32), (0 : Int32)] [(0 : Int32), (4 : Int32)] [(2 : Int32), (1 : Int32)])), .val (.int v15_209j)] [])) := by
                        intro v15_209j T_209j l_209j X_209j e_209j N_209j
                        unfold F0_209j
                        refine Go.of (fun t k => XS.iload X_209j.here hx rfl (hb hby at_209) rfl k) ?_
                        refine Go.of (fun t k => XS.iconst X_209j.here hx rfl (hb hby at_211) k) ?_
                        show Go p e below s _ _ _ (T_209j.setTop (mkF m 212 #[.val (.int p0), .val (.int p1), .val (.int p2), .val (.int p3), .val (.int p4), .val (.int (4 : Int32)), .val (.int v6_22c), .val (.int (((p4.toUInt32 >>> ((4 : Int32) &&& 31).toUInt32).toInt32) &&& (3 : Int32))), .val (.int (((p4.toUInt32 >>> ((6 : Int32) &&& 31).toUInt32).toInt32) &&& (3 : Int32))), .val (.int p0), .val (.int w0_53), .val (.int w0_77), .val (.int w0_112), .val (.ref b116), .val (.int (F9 (0 : Int32) w0_112 [p0, w0_53, (0 : Int32), (0 : Int32), w0_112, (0 : Int32), (0 : Int32), (0 : Int32)] [(0 : Int32), (4 : Int32)] [(2 : Int32), (1 : Int32)])), .val (.int v15_209j)] [(.int (2 : Int32)), (.int v6_22c)]))
                        have jn225j : ∀ (v15_225j : Int32) (T_225j : State) (l_225j : List Loc) (X_225j : Stand p l e room_1 s m #[(.int p0), (.int p1), (.int p2), (.int p3), (.int p4)] below meth c T_225j l_225j 13 61) (e_225j : T_225j.heap = T138.heap) (N_225j : Fr n0 l_225j), Go p e below s (QL (some (.int (F0_225j p0 w0_53 w0_112 v15_225j))) n0) room_1.cells room_1.slots (T_225j.setTop (mkF m 225 #[.val (.int p0), .val (.int p1), .val (.int p2), .val (.int p3), .val (.int p4), .val (.int (4 : Int32)), .val (.int v6_22c), .val (.int (((p4.toUInt32 >>> ((4 : Int32) &&& 31).toUInt32).toInt32) &&& (3 : Int32))), .val (.int (((p4.toUInt32 >>> ((6 : Int32) &&& 31).toUInt32).toInt32) &&& (3 : Int32))), .val (.int p0), .val (.int w0_53), .val (.int w0_77), .val (.int w0_112), .val (.ref b116), .val (.int (F9 (0 : Int32) w0_112 [p0, w0_53, (0 : Int32), (0 : Int32), w0_112, (0 : Int32), (0 : Int32), (0 : Int32)] [(0 : Int32), (4 : Int32)] [(2 : Int32), (1 : Int32)])), .val (.int v15_225j)] [])) := by
                          intro v15_225j T_225j l_225j X_225j e_225j N_225j
                          unfold F0_225j
                          refine Go.of (fun t k => XS.iload X_225j.here hx rfl (hb hby at_225) rfl k) ?_
                          refine Go.of (fun t k => XS.iload X_225j.here hx rfl (hb hby at_227) rfl k) ?_
                          show Go p e below s _ _ _ (T_225j.setTop (mkF m 229 #[.val (.int p0), .val (.int p1), .val (.int p2), .val (.int p3), .val (.int p4), .val (.int (4 : Int32)), .val (.int v6_22c), .val (.int (((p4.toUInt32 >>> ((4 : Int32) &&& 31).toUInt32).toInt32) &&& (3 : Int32))), .val (.int (((p4.toUInt32 >>> ((6 : Int32) &&& 31).toUInt32).toInt32) &&& (3 : Int32))), .val (.int p0), .val (.int w0_53), .val (.int w0_77), .val (.int w0_112), .val (.ref b116), .val (.int (F9 (0 : Int32) w0_112 [p0, w0_53, (0 : Int32), (0 : Int32), w0_112, (0 : Int32), (0 : Int32), (0 : Int32)] [(0 : Int32), (4 : Int32)] [(2 : Int32), (1 : Int32)])), .val (.int v15_225j)] [(.int w0_112), (.int p0)]))
                          have jn235j : ∀ (v15_235j : Int32) (T_235j : State) (l_235j : List Loc) (X_235j : Stand p l e room_1 s m #[(.int p0), (.int p1), (.int p2), (.int p3), (.int p4)] below meth c T_235j l_235j 13 61) (e_235j : T_235j.heap = T138.heap) (N_235j : Fr n0 l_235j), Go p e below s (QL (some (.int (F0_235j p0 w0_53 w0_112 v15_235j))) n0) room_1.cells room_1.slots (T_235j.setTop (mkF m 235 #[.val (.int p0), .val (.int p1), .val (.int p2), .val (.int p3), .val (.int p4), .val (.int (4 : Int32)), .val (.int v6_22c), .val (.int (((p4.toUInt32 >>> ((4 : Int32) &&& 31).toUInt32).toInt32) &&& (3 : Int32))), .val (.int (((p4.toUInt32 >>> ((6 : Int32) &&& 31).toUInt32).toInt32) &&& (3 : Int32))), .val (.int p0), .val (.int w0_53), .val (.int w0_77), .val (.int w0_112), .val (.ref b116), .val (.int (F9 (0 : Int32) w0_112 [p0, w0_53, (0 : Int32), (0 : Int32), w0_112, (0 : Int32), (0 : Int32), (0 : Int32)] [(0 : Int32), (4 : Int32)] [(2 : Int32), (1 : Int32)])), .val (.int v15_235j)] [])) := by
                            intro v15_235j T_235j l_235j X_235j e_235j N_235j
                            unfold F0_235j
                            refine Go.of (fun t k => XS.iload X_235j.here hx rfl (hb hby at_235) rfl k) ?_
                            refine Go.of (fun t k => XS.iload X_235j.here hx rfl (hb hby at_237) rfl k) ?_
                            show Go p e below s _ _ _ (T_235j.setTop (mkF m 239 #[.val (.int p0), .val (.int p1), .val (.int p2), .val (.int p3), .val (.int p4), .val (.int (4 : Int32)), .val (.int v6_22c), .val (.int (((p4.toUInt32 >>> ((4 : Int32) &&& 31).toUInt32).toInt32) &&& (3 : Int32))), .val (.int (((p4.toUInt32 >>> ((6 : Int32) &&& 31).toUInt32).toInt32) &&& (3 : Int32))), .val (.int p0), .val (.int w0_53), .val (.int w0_77), .val (.int w0_112), .val (.ref b116), .val (.int (F9 (0 : Int32) w0_112 [p0, w0_53, (0 : Int32), (0 : Int32), w0_112, (0 : Int32), (0 : Int32), (0 : Int32)] [(0 : Int32), (4 : Int32)] [(2 : Int32), (1 : Int32)])), .val (.int v15_235j)] [(.int v15_235j), (.int (F9 (0 : Int32) w0_112 [p0, w0_53, (0 : Int32), (0 : Int32), w0_112, (0 : Int32), (0 : Int32), (0 : Int32)] [(0 : Int32), (4 : Int32)] [(2 : Int32), (1 : Int32)]))]))
                            by_cases hc239_143 : (F9 (0 : Int32) w0_112 [p0, w0_53, (0 : Int32), (0 : Int32), w0_112, (0 : Int32), (0 : Int32), (0 : Int32)] [(0 : Int32), (4 : Int32)] [(2 : Int32), (1 : Int32)]) = v15_235j
                            · rewrite [if_pos hc239_143]
                              refine Go.of (fun t k => XS.icmpNo X_235j.here hx rfl (hb hby at_239) rfl (teq hc239_143).2 k) ?_
                              show Go p e below s _ _ _ (T_235j.setTop (mkF m 242 #[.val (.int p0), .val (.int p1), .val (.int p2), .val (.int p3), .val (.int p4), .val (.int (4 : Int32)), .val (.int v6_22c), .val (.int (((p4.toUInt32 >>> ((4 : Int32) &&& 31).toUInt32).toInt32) &&& (3 : Int32))), .val (.int (((p4.toUInt32 >>> ((6 : Int32) &&& 31).toUInt32).toInt32) &&& (3 : Int32))), .val (.int p0), .val (.int w0_53), .val (.int w0_77), .val (.int w0_112), .val (.ref b116), .val (.int (F9 (0 : Int32) w0_112 [p0, w0_53, (0 : Int32), (0 : Int32), w0_112, (0 : Int32), (0 : Int32), (0 : Int32)] [(0 : Int32), (4 : Int32)] [(2 : Int32), (1 : Int32)])), .val (.int v15_235j)] []))
                              refine Go.of (fun t k => XS.iconst X_235j.here hx rfl (hb hby at_242) k) ?_
                              refine Go.of (fun t k => XS.goto X_235j.here hx rfl (pc0 := 243) (pc' := 247) rfl (hb hby at_243) (by decide) (by decide) k) ?_
                              show Go p e below s _ _ _ (T_235j.setTop (mkF m 247 #[.val (.int p0), .val (.int p1), .val (.int p2), .val (.int p3), .val (.int p4), .val (.int (4 : Int32)), .val (.int v6_22c), .val (.int (((p4.toUInt32 >>> ((4 : Int32) &&& 31).toUInt32).toInt32) &&& (3 : Int32))), .val (.int (((p4.toUInt32 >>> ((6 : Int32) &&& 31).toUInt32).toInt32) &&& (3 : Int32))), .val (.int p0), .val (.int w0_53), .val (.int w0_77), .val (.int w0_112), .val (.ref b116), .val (.int (F9 (0 : Int32) w0_112 [p0, w0_53, (0 : Int32), (0 : Int32), w0_112, (0 : Int32), (0 : Int32), (0 : Int32)] [(0 : Int32), (4 : Int32)] [(2 : Int32), (1 : Int32)])), .val (.int v15_235j)] [(.int (1 : Int32))]))
                              exact Go.ret X_235j (some (.int (1 : Int32))) (fun h => by rw [Bd.returns] at h; cases h) hlk ⟨rfl, N_235j⟩ (by decide) (by decide) (fun fs hr => (retN X_235j hx (t := .boolean) Bd.returns (by simp) (hb hby at_247) hr))
                            · rewrite [if_neg hc239_143]
                              refine Go.of (fun t k => XS.icmpYes X_235j.here hx rfl (pc0 := 239) (pc' := 246) rfl (hb hby at_239) rfl (feq hc239_143).2 (by decide) (by decide) k) ?_
                              show Go p e below s _ _ _ (T_235j.setTop (mkF m 246 #[.val (.int p0), .val (.int p1), .val (.int p2), .val (.int p3), .val (.int p4), .val (.int (4 : Int32)), .val (.int v6_22c), .val (.int (((p4.toUInt32 >>> ((4 : Int32) &&& 31).toUInt32).toInt32) &&& (3 : Int32))), .val (.int (((p4.toUInt32 >>> ((6 : Int32) &&& 31).toUInt32).toInt32) &&& (3 : Int32))), .val (.int p0), .val (.int w0_53), .val (.int w0_77), .val (.int w0_112), .val (.ref b116), .val (.int (F9 (0 : Int32) w0_112 [p0, w0_53, (0 : Int32), (0 : Int32), w0_112, (0 : Int32), (0 : Int32), (0 : Int32)] [(0 : Int32), (4 : Int32)] [(2 : Int32), (1 : Int32)])), .val (.int v15_235j)] []))
                              refine Go.of (fun t k => XS.iconst X_235j.here hx rfl (hb hby at_246) k) ?_
                              show Go p e below s _ _ _ (T_235j.setTop (mkF m 247 #[.val (.int p0), .val (.int p1), .val (.int p2), .val (.int p3), .val (.int p4), .val (.int (4 : Int32)), .val (.int v6_22c), .val (.int (((p4.toUInt32 >>> ((4 : Int32) &&& 31).toUInt32).toInt32) &&& (3 : Int32))), .val (.int (((p4.toUInt32 >>> ((6 : Int32) &&& 31).toUInt32).toInt32) &&& (3 : Int32))), .val (.int p0), .val (.int w0_53), .val (.int w0_77), .val (.int w0_112), .val (.ref b116), .val (.int (F9 (0 : Int32) w0_112 [p0, w0_53, (0 : Int32), (0 : Int32), w0_112, (0 : Int32), (0 : Int32), (0 : Int32)] [(0 : Int32), (4 : Int32)] [(2 : Int32), (1 : Int32)])), .val (.int v15_235j)] [(.int (0 : Int32))]))
                              exact Go.ret X_235j (some (.int (0 : Int32))) (fun h => by rw [Bd.returns] at h; cases h) hlk ⟨rfl, N_235j⟩ (by decide) (by decide) (fun fs hr => (retN X_235j hx (t := .boolean) Bd.returns (by simp) (hb hby at_247) hr))
                          by_cases hc229_144 : p0 = w0_112
                          · rewrite [if_pos hc229_144]
                            refine Go.of (fun t k => XS.icmpNo X_225j.here hx rfl (hb hby at_229) rfl (teq hc229_144).2 k) ?_
                            show Go p e below s _ _ _ (T_225j.setTop (mkF m 232 #[.val (.int p0), .val (.int p1), .val (.int p2), .val (.int p3), .val (.int p4), .val (.int (4 : Int32)), .val (.int v6_22c), .val (.int (((p4.toUInt32 >>> ((4 : Int32) &&& 31).toUInt32).toInt32) &&& (3 : Int32))), .val (.int (((p4.toUInt32 >>> ((6 : Int32) &&& 31).toUInt32).toInt32) &&& (3 : Int32))), .val (.int p0), .val (.int w0_53), .val (.int w0_77), .val (.int w0_112), .val (.ref b116), .val (.int (F9 (0 : Int32) w0_112 [p0, w0_53, (0 : Int32), (0 : Int32), w0_112, (0 : Int32), (0 : Int32), (0 : Int32)] [(0 : Int32), (4 : Int32)] [(2 : Int32), (1 : Int32)])), .val (.int v15_225j)] []))
                            refine Go.of (fun t k => XS.iconst X_225j.here hx rfl (hb hby at_232) k) ?_
                            refine Go.of (fun t k => XS.istore X_225j.here hx rfl (hb hby at_233) rfl (l' := #[.val (.int p0), .val (.int p1), .val (.int p2), .val (.int p3), .val (.int p4), .val (.int (4 : Int32)), .val (.int v6_22c), .val (.int (((p4.toUInt32 >>> ((4 : Int32) &&& 31).toUInt32).toInt32) &&& (3 : Int32))), .val (.int (((p4.toUInt32 >>> ((6 : Int32) &&& 31).toUInt32).toInt32) &&& (3 : Int32))), .val (.int p0), .val (.int w0_53), .val (.int w0_77), .val (.int w0_112), .val (.ref b116), .val (.int (F9 (0 : Int32) w0_112 [p0, w0_53, (0 : Int32), (0 : Int32), w0_112, (0 : Int32), (0 : Int32), (0 : Int32)] [(0 : Int32), (4 : Int32)] [(2 : Int32), (1 : Int32)])), .val (.int (0 : Int32))]) rfl k) ?_
                            show Go p e below s _ _ _ (T_225j.setTop (mkF m 235 #[.val (.int p0), .val (.int p1), .val (.int p2), .val (.int p3), .val (.int p4), .val (.int (4 : Int32)), .val (.int v6_22c), .val (.int (((p4.toUInt32 >>> ((4 : Int32) &&& 31).toUInt32).toInt32) &&& (3 : Int32))), .val (.int (((p4.toUInt32 >>> ((6 : Int32) &&& 31).toUInt32).toInt32) &&& (3 : Int32))), .val (.int p0), .val (.int w0_53), .val (.int w0_77), .val (.int w0_112), .val (.ref b116), .val (.int (F9 (0 : Int32) w0_112 [p0, w0_53, (0 : Int32), (0 : Int32), w0_112, (0 : Int32), (0 : Int32), (0 : Int32)] [(0 : Int32), (4 : Int32)] [(2 : Int32), (1 : Int32)])), .val (.int (0 : Int32))] []))
                            exact jn235j (0 : Int32)  T_225j _ X_225j e_225j N_225j  
                          · rewrite [if_neg hc229_144]
                            refine Go.of (fun t k => XS.icmpYes X_225j.here hx rfl (pc0 := 229) (pc' := 235) rfl (hb hby at_229) rfl (feq hc229_144).2 (by decide) (by decide) k) ?_
                            show Go p e below s _ _ _ (T_225j.setTop (mkF m 235 #[.val (.int p0), .val (.int p1), .val (.int p2), .val (.int p3), .val (.int p4), .val (.int (4 : Int32)), .val (.int v6_22c), .val (.int (((p4.toUInt32 >>> ((4 : Int32) &&& 31).toUInt32).toInt32) &&& (3 : Int32))), .val (.int (((p4.toUInt32 >>> ((6 : Int32) &&& 31).toUInt32).toInt32) &&& (3 : Int32))), .val (.int p0), .val (.int w0_53), .val (.int w0_77), .val (.int w0_112), .val (.ref b116), .val (.int (F9 (0 : Int32) w0_112 [p0, w0_53, (0 : Int32), (0 : Int32), w0_112, (0 : Int32), (0 : Int32), (0 : Int32)] [(0 : Int32), (4 : Int32)] [(2 : Int32), (1 : Int32)])), .val (.int v15_225j)] []))
                            exact jn235j v15_225j  T_225j _ X_225j e_225j N_225j  
                        refine Go.of (fun t k => XS.icmpNo X_209j.here hx rfl (hb hby at_212) rfl (flt hc148_133).1 k) ?_
                        show Go p e below s _ _ _ (T_209j.setTop (mkF m 215 #[.val (.int p0), .val (.int p1), .val (.int p2), .val (.int p3), .val (.int p4), .val (.int (4 : Int32)), .val (.int v6_22c), .val (.int (((p4.toUInt32 >>> ((4 : Int32) &&& 31).toUInt32).toInt32) &&& (3 : Int32))), .val (.int (((p4.toUInt32 >>> ((6 : Int32) &&& 31).toUInt32).toInt32) &&& (3 : Int32))), .val (.int p0), .val (.int w0_53), .val (.int w0_77), .val (.int w0_112), .val (.ref b116), .val (.int (F9 (0 : Int32) w0_112 [p0, w0_53, (0 : Int32), (0 : Int32), w0_112, (0 : Int32), (0 : Int32), (0 : Int32)] [(0 : Int32), (4 : Int32)] [(2 : Int32), (1 : Int32)])), .val (.int v15_209j)] []))
                        refine Go.of (fun t k => XS.iload X_209j.here hx rfl (hb hby at_215) rfl k) ?_
                        refine Go.of (fun t k => XS.iload X_209j.here hx rfl (hb hby at_217) rfl k) ?_
                        show Go p e below s _ _ _ (T_209j.setTop (mkF m 219 #[.val (.int p0), .val (.int p1), .val (.int p2), .val (.int p3), .val (.int p4), .val (.int (4 : Int32)), .val (.int v6_22c), .val (.int (((p4.toUInt32 >>> ((4 : Int32) &&& 31).toUInt32).toInt32) &&& (3 : Int32))), .val (.int (((p4.toUInt32 >>> ((6 : Int32) &&& 31).toUInt32).toInt32) &&& (3 : Int32))), .val (.int p0), .val (.int w0_53), .val (.int w0_77), .val (.int w0_112), .val (.ref b116), .val (.int (F9 (0 : Int32) w0_112 [p0, w0_53, (0 : Int32), (0 : Int32), w0_112, (0 : Int32), (0 : Int32), (0 : Int32)] [(0 : Int32), (4 : Int32)] [(2 : Int32), (1 : Int32)])), .val (.int v15_209j)] [(.int w0_112), (.int w0_53)]))
                        by_cases hc219_145 : w0_53 = w0_112
                        · rewrite [if_pos hc219_145]
                          refine Go.of (fun t k => XS.icmpNo X_209j.here hx rfl (hb hby at_219) rfl (teq hc219_145).2 k) ?_
                          show Go p e below s _ _ _ (T_209j.setTop (mkF m 222 #[.val (.int p0), .val (.int p1), .val (.int p2), .val (.int p3), .val (.int p4), .val (.int (4 : Int32)), .val (.int v6_22c), .val (.int (((p4.toUInt32 >>> ((4 : Int32) &&& 31).toUInt32).toInt32) &&& (3 : Int32))), .val (.int (((p4.toUInt32 >>> ((6 : Int32) &&& 31).toUInt32).toInt32) &&& (3 : Int32))), .val (.int p0), .val (.int w0_53), .val (.int w0_77), .val (.int w0_112), .val (.ref b116), .val (.int (F9 (0 : Int32) w0_112 [p0, w0_53, (0 : Int32), (0 : Int32), w0_112, (0 : Int32), (0 : Int32), (0 : Int32)] [(0 : Int32), (4 : Int32)] [(2 : Int32), (1 : Int32)])), .val (.int v15_209j)] []))
                          refine Go.of (fun t k => XS.iconst X_209j.here hx rfl (hb hby at_222) k) ?_
                          refine Go.of (fun t k => XS.istore X_209j.here hx rfl (hb hby at_223) rfl (l' := #[.val (.int p0), .val (.int p1), .val (.int p2), .val (.int p3), .val (.int p4), .val (.int (4 : Int32)), .val (.int v6_22c), .val (.int (((p4.toUInt32 >>> ((4 : Int32) &&& 31).toUInt32).toInt32) &&& (3 : Int32))), .val (.int (((p4.toUInt32 >>> ((6 : Int32) &&& 31).toUInt32).toInt32) &&& (3 : Int32))), .val (.int p0), .val (.int w0_53), .val (.int w0_77), .val (.int w0_112), .val (.ref b116), .val (.int (F9 (0 : Int32) w0_112 [p0, w0_53, (0 : Int32), (0 : Int32), w0_112, (0 : Int32), (0 : Int32), (0 : Int32)] [(0 : Int32), (4 : Int32)] [(2 : Int32), (1 : Int32)])), .val (.int (1 : Int32))]) rfl k) ?_
                          show Go p e below s _ _ _ (T_209j.setTop (mkF m 225 #[.val (.int p0), .val (.int p1), .val (.int p2), .val (.int p3), .val (.int p4), .val (.int (4 : Int32)), .val (.int v6_22c), .val (.int (((p4.toUInt32 >>> ((4 : Int32) &&& 31).toUInt32).toInt32) &&& (3 : Int32))), .val (.int (((p4.toUInt32 >>> ((6 : Int32) &&& 31).toUInt32).toInt32) &&& (3 : Int32))), .val (.int p0), .val (.int w0_53), .val (.int w0_77), .val (.int w0_112), .val (.ref b116), .val (.int (F9 (0 : Int32) w0_112 [p0, w0_53, (0 : Int32), (0 : Int32), w0_112, (0 : Int32), (0 : Int32), (0 : Int32)] [(0 : Int32), (4 : Int32)] [(2 : Int32), (1 : Int32)])), .val (.int (1 : Int32))] []))
                          exact jn225j (1 : Int32)  T_209j _ X_209j e_209j N_209j  
                        · rewrite [if_neg hc219_145]
                          refine Go.of (fun t k => XS.icmpYes X_209j.here hx rfl (pc0 := 219) (pc' := 225) rfl (hb hby at_219) rfl (feq hc219_145).2 (by decide) (by decide) k) ?_
                          show Go p e below s _ _ _ (T_209j.setTop (mkF m 225 #[.val (.int p0), .val (.int p1), .val (.int p2), .val (.int p3), .val (.int p4), .val (.int (4 : Int32)), .val (.int v6_22c), .val (.int (((p4.toUInt32 >>> ((4 : Int32) &&& 31).toUInt32).toInt32) &&& (3 : Int32))), .val (.int (((p4.toUInt32 >>> ((6 : Int32) &&& 31).toUInt32).toInt32) &&& (3 : Int32))), .val (.int p0), .val (.int w0_53), .val (.int w0_77), .val (.int w0_112), .val (.ref b116), .val (.int (F9 (0 : Int32) w0_112 [p0, w0_53, (0 : Int32), (0 : Int32), w0_112, (0 : Int32), (0 : Int32), (0 : Int32)] [(0 : Int32), (4 : Int32)] [(2 : Int32), (1 : Int32)])), .val (.int v15_209j)] []))
                          exact jn225j v15_209j  T_209j _ X_209j e_209j N_209j  
                      refine Go.of (fun t k => XS.icmpYes X142.here hx rfl (pc0 := 196) (pc' := 209) rfl (hb hby at_196) rfl (tlt hc165_141).1 (by decide) (by decide) k) ?_
                      show Go p e below s _ _ _ (T142.setTop (mkF m 209 #[.val (.int p0), .val (.int p1), .val (.int p2), .val (.int p3), .val (.int p4), .val (.int (4 : Int32)), .val (.int v6_22c), .val (.int (((p4.toUInt32 >>> ((4 : Int32) &&& 31).toUInt32).toInt32) &&& (3 : Int32))), .val (.int (((p4.toUInt32 >>> ((6 : Int32) &&& 31).toUInt32).toInt32) &&& (3 : Int32))), .val (.int p0), .val (.int w0_53), .val (.int w0_77), .val (.int w0_112), .val (.ref b116), .val (.int (F9 (0 : Int32) w0_112 [p0, w0_53, (0 : Int32), (0 : Int32), w0_112, (0 : Int32), (0 : Int32), (0 : Int32)] [(0 : Int32), (4 : Int32)] [(2 : Int32), (1 : Int32)])), .val (.int v6_22c)] []))
                      exact jn209j v6_22c  T142 _ X142 e142 N142  
                    · rewrite [if_neg hc165_141]
                      refine Go.of (fun t k => XS.icmpNo X138.here hx rfl (hb hby at_165) rfl (flt hc165_141).1 k) ?_
                      show Go p e below s _ _ _ (T138.setTop (mkF m 168 #[.val (.int p0), .val (.int p1), .val (.int p2), .val (.int p3), .val (.int p4), .val (.int (4 : Int32)), .val (.int v6_22c), .val (.int (((p4.toUInt32 >>> ((4 : Int32) &&& 31).toUInt32).toInt32) &&& (3 : Int32))), .val (.int (((p4.toUInt32 >>> ((6 : Int32) &&& 31).toUInt32).toInt32) &&& (3 : Int32))), .val (.int p0), .val (.int w0_53), .val (.int w0_77), .val (.int w0_112), .val (.ref b116), .unset, .unset] []))
                      refine Go.of (fun t k => XS.aload X138.here hx rfl (hb hby at_168) rfl rfl k) ?_
                      refine Go.of (fun t k => XS.iconst X138.here hx rfl (hb hby at_170) k) ?_
                      refine Go.of (fun t k => XS.iconst X138.here hx rfl (hb hby at_171) k) ?_
                      refine Go.of (fun t k => XS.iload X138.here hx rfl (hb hby at_172) rfl k) ?_
                      refine Go.of (fun t k => XS.iconst X138.here hx rfl (hb hby at_174) k) ?_
                      refine Go.of (fun t k => XS.iconst X138.here hx rfl (hb hby at_175) k) ?_
                      show Go p e below s _ _ _ (T138.setTop (mkF m 176 #[.val (.int p0), .val (.int p1), .val (.int p2), .val (.int p3), .val (.int p4), .val (.int (4 : Int32)), .val (.int v6_22c), .val (.int (((p4.toUInt32 >>> ((4 : Int32) &&& 31).toUInt32).toInt32) &&& (3 : Int32))), .val (.int (((p4.toUInt32 >>> ((6 : Int32) &&& 31).toUInt32).toInt32) &&& (3 : Int32))), .val (.int p0), .val (.int w0_53), .val (.int w0_77), .val (.int w0_112), .val (.ref b116), .unset, .unset] [(.int (1 : Int32)), (.int (0 : Int32)), (.int w0_77), (.int (2 : Int32)), (.int (0 : Int32)), (.ref b116)]))
                      obtain ⟨cq146, kq146, q146a, q146b, q146c⟩ := isOf hZ rfl E_140
                      obtain ⟨_, _, ⟨T146, L146, k146, n146⟩, -, X146, ⟨Lc146, hQ146, l146, y146, z146⟩, st146⟩ := X138.virtualBack hx (y := (⟨"com/example/susurrus/susurrus/KnownUnits", "keep", "(IIIII)V"⟩ : MethodName)) (z := (⟨"com/example/susurrus/susurrus/KnownUnits", "keep", "(IIIII)V"⟩ : MethodName)) hown (mvT hZ (hw _ (List.mem_of_getElem? (i := 59) rfl))) (mvT hZ (hw _ (List.mem_of_getElem? (i := 60) rfl))) (notFace_of_selects (args := #[]) (mvT hZ (hw _ (List.mem_of_getElem? (i := 62) rfl)))) (mvT hZ (hw _ (List.mem_of_getElem? (i := 62) rfl))) (mvT hZ (hw _ (List.mem_of_getElem? (i := 61) rfl))) (by decide) (backOf (W := 0) (rm10B l Z az hw [] b116 (0 : Int32) (2 : Int32) w0_77 (0 : Int32) (1 : Int32) bu139 bg139 bd139 xt125 xr125 xc125 ku139 kg139 kd139 kxt125 kxr125 kxc125 (8 : Int32) [p0, w0_53, (0 : Int32), (0 : Int32), w0_112, (0 : Int32), (0 : Int32), (0 : Int32)] [(0 : Int32), (0 : Int32), (0 : Int32), (0 : Int32), (0 : Int32), (0 : Int32), (0 : Int32), (0 : Int32)] [(-1 : Int32), (0 : Int32), (0 : Int32), (0 : Int32), (-1 : Int32), (0 : Int32), (0 : Int32), (0 : Int32)] [(0 : Int32), (4 : Int32)] [(4 : Int32), (1 : Int32)] [(2 : Int32), (1 : Int32)] (5 : Int32) T138.heap n0 Zk140 ⟨E_140, Ff0_140, Ff1_140, Ff2_140, Ff3_140, Ff4_140, Ff5_140, Ff6_140, Vv0_140, Vv1_140, Vv2_140, Vv3_140, Vv4_140, Vv5_140, g_b116, g_bu139, g_bg139, g_bd139, g_xt125, g_xr125, g_xc125, Zk140, ne_0_1_140, ne_0_2_140, ne_0_3_140, ne_0_4_140, ne_0_5_140, ne_0_6_140, ne_1_2_140, ne_1_3_140, ne_1_4_140, ne_1_5_140, ne_1_6_140, ne_2_3_140, ne_2_4_140, ne_2_5_140, ne_2_6_140, ne_3_4_140, ne_3_5_140, ne_3_6_140, ne_4_5_140, ne_4_6_140, ne_5_6_140⟩ (by decide) (by decide) (by decide) (by decide) (by decide) (⟨rfl, rfl, rfl⟩)) hZ (hw _ (List.mem_of_getElem? (i := 63) rfl)) (hw _ (List.mem_of_getElem? (i := 6) rfl)) (by decide) (by decide)) q146a q146c (g := (mkF m 176 #[.val (.int p0), .val (.int p1), .val (.int p2), .val (.int p3), .val (.int p4), .val (.int (4 : Int32)), .val (.int v6_22c), .val (.int (((p4.toUInt32 >>> ((4 : Int32) &&& 31).toUInt32).toInt32) &&& (3 : Int32))), .val (.int (((p4.toUInt32 >>> ((6 : Int32) &&& 31).toUInt32).toInt32) &&& (3 : Int32))), .val (.int p0), .val (.int w0_53), .val (.int w0_77), .val (.int w0_112), .val (.ref b116), .unset, .unset] [(.int (1 : Int32)), (.int (0 : Int32)), (.int w0_77), (.int (2 : Int32)), (.int (0 : Int32)), (.ref b116)])) rfl (by rw [hml]; rfl) (Steps.refl _) (argsL := [(.int (0 : Int32)), (.int (2 : Int32)), (.int w0_77), (.int (0 : Int32)), (.int (1 : Int32))]) (rest := []) (lenOf own_pd7 rfl) rfl (by show 2 * 0 + _ ≤ _; exact Nat.le_of_eq rfl) (hb hby at_176) (fun _ _ => ⟨rfl, rfl, (by decide : 13 + 0 ≤ _), (by decide : 61 + 0 ≤ _)⟩)
                      dsimp only [Pt.U, Pt.locs, Pt.cells, Pt.slots] at X146 l146 y146 z146 st146 hQ146
                      subst l146 y146 z146
                      obtain ⟨rfl, N146q, bu147, bg147, bd147, ku147, kg147, kd147, hK147⟩ := hQ146
                      have N146 := Fr.app N138 N146q
                      have hS147 : own_K Z T146.heap n0 b116 bu147 bg147 bd147 xt125 xr125 xc125 ku147 kg147 kd147 kxt125 kxr125 kxc125 (8 : Int32) [p0, w0_53, w0_77, (0 : Int32), w0_112, (0 : Int32), (0 : Int32), (0 : Int32)] [(0 : Int32), (0 : Int32), (0 : Int32), (0 : Int32), (0 : Int32), (0 : Int32), (0 : Int32), (0 : Int32)] [(-1 : Int32), (0 : Int32), (1 : Int32), (0 : Int32), (-1 : Int32), (0 : Int32), (0 : Int32), (0 : Int32)] [(0 : Int32), (4 : Int32)] [(4 : Int32), (1 : Int32)] [(3 : Int32), (1 : Int32)] (5 : Int32) := hK147
                      obtain ⟨E_148, Ff0_148, Ff1_148, Ff2_148, Ff3_148, Ff4_148, Ff5_148, Ff6_148, Vv0_148, Vv1_148, Vv2_148, Vv3_148, Vv4_148, Vv5_148, g_b116, g_bu147, g_bg147, g_bd147, g_xt125, g_xr125, g_xc125, Zk148, ne_0_1_148, ne_0_2_148, ne_0_3_148, ne_0_4_148, ne_0_5_148, ne_0_6_148, ne_1_2_148, ne_1_3_148, ne_1_4_148, ne_1_5_148, ne_1_6_148, ne_2_3_148, ne_2_4_148, ne_2_5_148, ne_2_6_148, ne_3_4_148, ne_3_5_148, ne_3_6_148, ne_4_5_148, ne_4_6_148, ne_5_6_148⟩ := id hS147
                      refine Go.of (fun t k => st146.trans k) ?_
                      show Go p e below s _ _ _ (T146.setTop (mkF m 179 #[.val (.int p0), .val (.int p1), .val (.int p2), .val (.int p3), .val (.int p4), .val (.int (4 : Int32)), .val (.int v6_22c), .val (.int (((p4.toUInt32 >>> ((4 : Int32) &&& 31).toUInt32).toInt32) &&& (3 : Int32))), .val (.int (((p4.toUInt32 >>> ((6 : Int32) &&& 31).toUInt32).toInt32) &&& (3 : Int32))), .val (.int p0), .val (.int w0_53), .val (.int w0_77), .val (.int w0_112), .val (.ref b116), .unset, .unset] []))
                      refine Go.of (fun t k => XS.aload X146.here hx rfl (hb hby at_179) rfl rfl k) ?_
                      refine Go.of (fun t k => XS.iconst X146.here hx rfl (hb hby at_181) k) ?_
                      refine Go.of (fun t k => XS.iload X146.here hx rfl (hb hby at_182) rfl k) ?_
                      show Go p e below s _ _ _ (T146.setTop (mkF m 184 #[.val (.int p0), .val (.int p1), .val (.int p2), .val (.int p3), .val (.int p4), .val (.int (4 : Int32)), .val (.int v6_22c), .val (.int (((p4.toUInt32 >>> ((4 : Int32) &&& 31).toUInt32).toInt32) &&& (3 : Int32))), .val (.int (((p4.toUInt32 >>> ((6 : Int32) &&& 31).toUInt32).toInt32) &&& (3 : Int32))), .val (.int p0), .val (.int w0_53), .val (.int w0_77), .val (.int w0_112), .val (.ref b116), .unset, .unset] [(.int w0_112), (.int (0 : Int32)), (.ref b116)]))
                      obtain ⟨cq149, kq149, q149a, q149b, q149c⟩ := isOf hZ rfl E_148
                      obtain ⟨_, _, ⟨T149, L149, k149, n149⟩, -, X149, ⟨Lc149, hQ149, l149, y149, z149⟩, st149⟩ := X146.virtualBack hx (y := (⟨"com/example/susurrus/susurrus/KnownUnits", "find", "(II)I"⟩ : MethodName)) (z := (⟨"com/example/susurrus/susurrus/KnownUnits", "find", "(II)I"⟩ : MethodName)) hown (mvT hZ (hw _ (List.mem_of_getElem? (i := 54) rfl))) (mvT hZ (hw _ (List.mem_of_getElem? (i := 55) rfl))) (notFace_of_selects (args := #[]) (mvT hZ (hw _ (List.mem_of_getElem? (i := 57) rfl)))) (mvT hZ (hw _ (List.mem_of_getElem? (i := 57) rfl))) (mvT hZ (hw _ (List.mem_of_getElem? (i := 56) rfl))) (by decide) (backOf (W := 0) (rm9 l Z az hw [] b116 (0 : Int32) w0_112 bu147 bg147 bd147 xt125 xr125 xc125 ku147 kg147 kd147 kxt125 kxr125 kxc125 (8 : Int32) [p0, w0_53, w0_77, (0 : Int32), w0_112, (0 : Int32), (0 : Int32), (0 : Int32)] [(0 : Int32), (0 : Int32), (0 : Int32), (0 : Int32), (0 : Int32), (0 : Int32), (0 : Int32), (0 : Int32)] [(-1 : Int32), (0 : Int32), (1 : Int32), (0 : Int32), (-1 : Int32), (0 : Int32), (0 : Int32), (0 : Int32)] [(0 : Int32), (4 : Int32)] [(4 : Int32), (1 : Int32)] [(3 : Int32), (1 : Int32)] (5 : Int32) T146.heap n0 Zk148 ⟨E_148, Ff0_148, Ff1_148, Ff2_148, Ff3_148, Ff4_148, Ff5_148, Ff6_148, Vv0_148, Vv1_148, Vv2_148, Vv3_148, Vv4_148, Vv5_148, g_b116, g_bu147, g_bg147, g_bd147, g_xt125, g_xr125, g_xc125, Zk148, ne_0_1_148, ne_0_2_148, ne_0_3_148, ne_0_4_148, ne_0_5_148, ne_0_6_148, ne_1_2_148, ne_1_3_148, ne_1_4_148, ne_1_5_148, ne_1_6_148, ne_2_3_148, ne_2_4_148, ne_2_5_148, ne_2_6_148, ne_3_4_148, ne_3_5_148, ne_3_6_148, ne_4_5_148, ne_4_6_148, ne_5_6_148⟩ (by decide) (by decide)) hZ (hw _ (List.mem_of_getElem? (i := 58) rfl)) (hw _ (List.mem_of_getElem? (i := 6) rfl)) (by decide) (by decide)) q149a q149c (g := (mkF m 184 #[.val (.int p0), .val (.int p1), .val (.int p2), .val (.int p3), .val (.int p4), .val (.int (4 : Int32)), .val (.int v6_22c), .val (.int (((p4.toUInt32 >>> ((4 : Int32) &&& 31).toUInt32).toInt32) &&& (3 : Int32))), .val (.int (((p4.toUInt32 >>> ((6 : Int32) &&& 31).toUInt32).toInt32) &&& (3 : Int32))), .val (.int p0), .val (.int w0_53), .val (.int w0_77), .val (.int w0_112), .val (.ref b116), .unset, .unset] [(.int w0_112), (.int (0 : Int32)), (.ref b116)])) rfl (by rw [hml]; rfl) (Steps.refl _) (argsL := [(.int (0 : Int32)), (.int w0_112)]) (rest := []) (lenOf own_pd0 rfl) rfl (by show 2 * 0 + _ ≤ _; exact Nat.le_of_eq rfl) (hb hby at_184) (fun _ _ => ⟨rfl, rfl, (by decide : 13 + 0 ≤ _), (by decide : 61 + 0 ≤ _)⟩)
                      dsimp only [Pt.U, Pt.locs, Pt.cells, Pt.slots] at X149 l149 y149 z149 st149 hQ149
                      subst l149 y149 z149
                      obtain ⟨rfl, N149q, e149⟩ := hQ149
                      have N149 := Fr.app N146 N149q
                      refine Go.of (fun t k => st149.trans k) ?_
                      show Go p e below s _ _ _ (T149.setTop (mkF m 187 #[.val (.int p0), .val (.int p1), .val (.int p2), .val (.int p3), .val (.int p4), .val (.int (4 : Int32)), .val (.int v6_22c), .val (.int (((p4.toUInt32 >>> ((4 : Int32) &&& 31).toUInt32).toInt32) &&& (3 : Int32))), .val (.int (((p4.toUInt32 >>> ((6 : Int32) &&& 31).toUInt32).toInt32) &&& (3 : Int32))), .val (.int p0), .val (.int w0_53), .val (.int w0_77), .val (.int w0_112), .val (.ref b116), .unset, .unset] [(.int (F9 (0 : Int32) w0_112 [p0, w0_53, w0_77, (0 : Int32), w0_112, (0 : Int32), (0 : Int32), (0 : Int32)] [(0 : Int32), (4 : Int32)] [(3 : Int32), (1 : Int32)]))]))
                      refine Go.of (fun t k => XS.istore X149.here hx rfl (hb hby at_187) rfl (l' := #[.val (.int p0), .val (.int p1), .val (.int p2), .val (.int p3), .val (.int p4), .val (.int (4 : Int32)), .val (.int v6_22c), .val (.int (((p4.toUInt32 >>> ((4 : Int32) &&& 31).toUInt32).toInt32) &&& (3 : Int32))), .val (.int (((p4.toUInt32 >>> ((6 : Int32) &&& 31).toUInt32).toInt32) &&& (3 : Int32))), .val (.int p0), .val (.int w0_53), .val (.int w0_77), .val (.int w0_112), .val (.ref b116), .val (.int (F9 (0 : Int32) w0_112 [p0, w0_53, w0_77, (0 : Int32), w0_112, (0 : Int32), (0 : Int32), (0 : Int32)] [(0 : Int32), (4 : Int32)] [(3 : Int32), (1 : Int32)])), .unset]) rfl k) ?_
                      refine Go.of (fun t k => XS.iload X149.here hx rfl (hb hby at_189) rfl k) ?_
                      refine Go.of (fun t k => XS.istore X149.here hx rfl (hb hby at_191) rfl (l' := #[.val (.int p0), .val (.int p1), .val (.int p2), .val (.int p3), .val (.int p4), .val (.int (4 : Int32)), .val (.int v6_22c), .val (.int (((p4.toUInt32 >>> ((4 : Int32) &&& 31).toUInt32).toInt32) &&& (3 : Int32))), .val (.int (((p4.toUInt32 >>> ((6 : Int32) &&& 31).toUInt32).toInt32) &&& (3 : Int32))), .val (.int p0), .val (.int w0_53), .val (.int w0_77), .val (.int w0_112), .val (.ref b116), .val (.int (F9 (0 : Int32) w0_112 [p0, w0_53, w0_77, (0 : Int32), w0_112, (0 : Int32), (0 : Int32), (0 : Int32)] [(0 : Int32), (4 : Int32)] [(3 : Int32), (1 : Int32)])), .val (.int v6_22c)]) rfl k) ?_
                      refine Go.of (fun t k => XS.iload X149.here hx rfl (hb hby at_193) rfl k) ?_
                      refine Go.of (fun t k => XS.iconst X149.here hx rfl (hb hby at_195) k) ?_
                      show Go p e below s _ _ _ (T149.setTop (mkF m 196 #[.val (.int p0), .val (.int p1), .val (.int p2), .val (.int p3), .val (.int p4), .val (.int (4 : Int32)), .val (.int v6_22c), .val (.int (((p4.toUInt32 >>> ((4 : Int32) &&& 31).toUInt32).toInt32) &&& (3 : Int32))), .val (.int (((p4.toUInt32 >>> ((6 : Int32) &&& 31).toUInt32).toInt32) &&& (3 : Int32))), .val (.int p0), .val (.int w0_53), .val (.int w0_77), .val (.int w0_112), .val (.ref b116), .val (.int (F9 (0 : Int32) w0_112 [p0, w0_53, w0_77, (0 : Int32), w0_112, (0 : Int32), (0 : Int32), (0 : Int32)] [(0 : Int32), (4 : Int32)] [(3 : Int32), (1 : Int32)])), .val (.int v6_22c)] [(.int (3 : Int32)), (.int v6_22c)]))
                      have jn209k : ∀ (v15_209k : Int32) (T_209k : State) (l_209k : List Loc) (X_209k : Stand p l e room_1 s m #[(.int p0), (.int p1), (.int p2), (.int p3), (.int p4)] below meth c T_209k l_209k 13 61) (e_209k : T_209k.heap = T146.heap) (N_209k : Fr n0 l_209k), Go p e below s (QL (some (.int (F0_209k p0 w0_53 w0_77 w0_112 v15_209k))) n0) room_1.cells room_1.slots (T_209k.setTop (mkF m 209 #[.val (.int p0), .val (.int p1), .val (.int p2), .val (.int p3), .val (.int p4), .val (.int (4 : Int32)), .val (.int v6_22c), .val (.int (((p4.toUInt32 >>> ((4 : Int32) &&& 31).toUInt32).toInt32) &&& (3 : Int32))), .val (.int (((p4.toUInt32 >>> ((6 : Int32) &&& 31).toUInt32).toInt32) &&& (3 : Int32))), .val (.int p0), .val (.int w0_53), .val (.int w0_77), .val (.int w0_112), .val (.ref b116), .val (.int (F9 (0 : Int32) w0_112 [p0, w0_53, w0_77, (0 : Int32), w0_112, (0 : Int32), (0 : Int32), (0 : Int32)] [(0 : Int32), (4 : Int32)] [(3 : Int32), (1 : Int32)])), .val (.int v15_209k)] [])) := by
                        intro v15_209k T_209k l_209k X_209k e_209k N_209k
                        unfold F0_209k
                        refine Go.of (fun t k => XS.iload X_209k.here hx rfl (hb hby at_209) rfl k) ?_
                        refine Go.of (fun t k => XS.iconst X_209k.here hx rfl (hb hby at_211) k) ?_
                        show Go p e below s _ _ _ (T_209k.setTop (mkF m 212 #[.val (.int p0), .val (.int p1), .val (.int p2), .val (.int p3), .val (.int p4), .val (.int (4 : Int32)), .val (.int v6_22c), .val (.int (((p4.toUInt32 >>> ((4 : Int32) &&& 31).toUInt32).toInt32) &&& (3 : Int32))), .val (.int (((p4.toUInt32 >>> ((6 : Int32) &&& 31).toUInt32).toInt32) &&& (3 : Int32))), .val (.int p0), .val (.int w0_53), .val (.int w0_77), .val (.int w0_112), .val (.ref b116), .val (.int (F9 (0 : Int32) w0_112 [p0, w0_53, w0_77, (0 : Int32), w0_112, (0 : Int32), (0 : Int32), (0 : Int32)] [(0 : Int32), (4 : Int32)] [(3 : Int32), (1 : Int32)])), .val (.int v15_209k)] [(.int (2 : Int32)), (.int v6_22c)]))
                        have jn225k : ∀ (v15_225k : Int32) (T_225k : State) (l_225k : List Loc) (X_225k : Stand p l e room_1 s m #[(.int p0), (.int p1), (.int p2), (.int p3), (.int p4)] below meth c T_225k l_225k 13 61) (e_225k : T_225k.heap = T146.heap) (N_225k : Fr n0 l_225k), Go p e below s (QL (some (.int (F0_225k p0 w0_53 w0_77 w0_112 v15_225k))) n0) room_1.cells room_1.slots (T_225k.setTop (mkF m 225 #[.val (.int p0), .val (.int p1), .val (.int p2), .val (.int p3), .val (.int p4), .val (.int (4 : Int32)), .val (.int v6_22c), .val (.int (((p4.toUInt32 >>> ((4 : Int32) &&& 31).toUInt32).toInt32) &&& (3 : Int32))), .val (.int (((p4.toUInt32 >>> ((6 : Int32) &&& 31).toUInt32).toInt32) &&& (3 : Int32))), .val (.int p0), .val (.int w0_53), .val (.int w0_77), .val (.int w0_112), .val (.ref b116), .val (.int (F9 (0 : Int32) w0_112 [p0, w0_53, w0_77, (0 : Int32), w0_112, (0 : Int32), (0 : Int32), (0 : Int32)] [(0 : Int32), (4 : Int32)] [(3 : Int32), (1 : Int32)])), .val (.int v15_225k)] [])) := by
                          intro v15_225k T_225k l_225k X_225k e_225k N_225k
                          unfold F0_225k
                          refine Go.of (fun t k => XS.iload X_225k.here hx rfl (hb hby at_225) rfl k) ?_
                          refine Go.of (fun t k => XS.iload X_225k.here hx rfl (hb hby at_227) rfl k) ?_
                          show Go p e below s _ _ _ (T_225k.setTop (mkF m 229 #[.val (.int p0), .val (.int p1), .val (.int p2), .val (.int p3), .val (.int p4), .val (.int (4 : Int32)), .val (.int v6_22c), .val (.int (((p4.toUInt32 >>> ((4 : Int32) &&& 31).toUInt32).toInt32) &&& (3 : Int32))), .val (.int (((p4.toUInt32 >>> ((6 : Int32) &&& 31).toUInt32).toInt32) &&& (3 : Int32))), .val (.int p0), .val (.int w0_53), .val (.int w0_77), .val (.int w0_112), .val (.ref b116), .val (.int (F9 (0 : Int32) w0_112 [p0, w0_53, w0_77, (0 : Int32), w0_112, (0 : Int32), (0 : Int32), (0 : Int32)] [(0 : Int32), (4 : Int32)] [(3 : Int32), (1 : Int32)])), .val (.int v15_225k)] [(.int w0_112), (.int p0)]))
                          have jn235k : ∀ (v15_235k : Int32) (T_235k : State) (l_235k : List Loc) (X_235k : Stand p l e room_1 s m #[(.int p0), (.int p1), (.int p2), (.int p3), (.int p4)] below meth c T_235k l_235k 13 61) (e_235k : T_235k.heap = T146.heap) (N_235k : Fr n0 l_235k), Go p e below s (QL (some (.int (F0_235k p0 w0_53 w0_77 w0_112 v15_235k))) n0) room_1.cells room_1.slots (T_235k.setTop (mkF m 235 #[.val (.int p0), .val (.int p1), .val (.int p2), .val (.int p3), .val (.int p4), .val (.int (4 : Int32)), .val (.int v6_22c), .val (.int (((p4.toUInt32 >>> ((4 : Int32) &&& 31).toUInt32).toInt32) &&& (3 : Int32))), .val (.int (((p4.toUInt32 >>> ((6 : Int32) &&& 31).toUInt32).toInt32) &&& (3 : Int32))), .val (.int p0), .val (.int w0_53), .val (.int w0_77), .val (.int w0_112), .val (.ref b116), .val (.int (F9 (0 : Int32) w0_112 [p0, w0_53, w0_77, (0 : Int32), w0_112, (0 : Int32), (0 : Int32), (0 : Int32)] [(0 : Int32), (4 : Int32)] [(3 : Int32), (1 : Int32)])), .val (.int v15_235k)] [])) := by
                            intro v15_235k T_235k l_235k X_235k e_235k N_235k
                            unfold F0_235k
                            refine Go.of (fun t k => XS.iload X_235k.here hx rfl (hb hby at_235) rfl k) ?_
                            refine Go.of (fun t k => XS.iload X_235k.here hx rfl (hb hby at_237) rfl k) ?_
                            show Go p e below s _ _ _ (T_235k.setTop (mkF m 239 #[.val (.int p0), .val (.int p1), .val (.int p2), .val (.int p3), .val (.int p4), .val (.int (4 : Int32)), .val (.int v6_22c), .val (.int (((p4.toUInt32 >>> ((4 : Int32) &&& 31).toUInt32).toInt32) &&& (3 : Int32))), .val (.int (((p4.toUInt32 >>> ((6 : Int32) &&& 31).toUInt32).toInt32) &&& (3 : Int32))), .val (.int p0), .val (.int w0_53), .val (.int w0_77), .val (.int w0_112), .val (.ref b116), .val (.int (F9 (0 : Int32) w0_112 [p0, w0_53, w0_77, (0 : Int32), w0_112, (0 : Int32), (0 : Int32), (0 : Int32)] [(0 : Int32), (4 : Int32)] [(3 : Int32), (1 : Int32)])), .val (.int v15_235k)] [(.int v15_235k), (.int (F9 (0 : Int32) w0_112 [p0, w0_53, w0_77, (0 : Int32), w0_112, (0 : Int32), (0 : Int32), (0 : Int32)] [(0 : Int32), (4 : Int32)] [(3 : Int32), (1 : Int32)]))]))
                            by_cases hc239_150 : (F9 (0 : Int32) w0_112 [p0, w0_53, w0_77, (0 : Int32), w0_112, (0 : Int32), (0 : Int32), (0 : Int32)] [(0 : Int32), (4 : Int32)] [(3 : Int32), (1 : Int32)]) = v15_235k
                            · rewrite [if_pos hc239_150]
                              refine Go.of (fun t k => XS.icmpNo X_235k.here hx rfl (hb hby at_239) rfl (teq hc239_150).2 k) ?_
                              show Go p e below s _ _ _ (T_235k.setTop (mkF m 242 #[.val (.int p0), .val (.int p1), .val (.int p2), .val (.int p3), .val (.int p4), .val (.int (4 : Int32)), .val (.int v6_22c), .val (.int (((p4.toUInt32 >>> ((4 : Int32) &&& 31).toUInt32).toInt32) &&& (3 : Int32))), .val (.int (((p4.toUInt32 >>> ((6 : Int32) &&& 31).toUInt32).toInt32) &&& (3 : Int32))), .val (.int p0), .val (.int w0_53), .val (.int w0_77), .val (.int w0_112), .val (.ref b116), .val (.int (F9 (0 : Int32) w0_112 [p0, w0_53, w0_77, (0 : Int32), w0_112, (0 : Int32), (0 : Int32), (0 : Int32)] [(0 : Int32), (4 : Int32)] [(3 : Int32), (1 : Int32)])), .val (.int v15_235k)] []))
                              refine Go.of (fun t k => XS.iconst X_235k.here hx rfl (hb hby at_242) k) ?_
                              refine Go.of (fun t k => XS.goto X_235k.here hx rfl (pc0 := 243) (pc' := 247) rfl (hb hby at_243) (by decide) (by decide) k) ?_
                              show Go p e below s _ _ _ (T_235k.setTop (mkF m 247 #[.val (.int p0), .val (.int p1), .val (.int p2), .val (.int p3), .val (.int p4), .val (.int (4 : Int32)), .val (.int v6_22c), .val (.int (((p4.toUInt32 >>> ((4 : Int32) &&& 31).toUInt32).toInt32) &&& (3 : Int32))), .val (.int (((p4.toUInt32 >>> ((6 : Int32) &&& 31).toUInt32).toInt32) &&& (3 : Int32))), .val (.int p0), .val (.int w0_53), .val (.int w0_77), .val (.int w0_112), .val (.ref b116), .val (.int (F9 (0 : Int32) w0_112 [p0, w0_53, w0_77, (0 : Int32), w0_112, (0 : Int32), (0 : Int32), (0 : Int32)] [(0 : Int32), (4 : Int32)] [(3 : Int32), (1 : Int32)])), .val (.int v15_235k)] [(.int (1 : Int32))]))
                              exact Go.ret X_235k (some (.int (1 : Int32))) (fun h => by rw [Bd.returns] at h; cases h) hlk ⟨rfl, N_235k⟩ (by decide) (by decide) (fun fs hr => (retN X_235k hx (t := .boolean) Bd.returns (by simp) (hb hby at_247) hr))
                            · rewrite [if_neg hc239_150]
                              refine Go.of (fun t k => XS.icmpYes X_235k.here hx rfl (pc0 := 239) (pc' := 246) rfl (hb hby at_239) rfl (feq hc239_150).2 (by decide) (by decide) k) ?_
                              show Go p e below s _ _ _ (T_235k.setTop (mkF m 246 #[.val (.int p0), .val (.int p1), .val (.int p2), .val (.int p3), .val (.int p4), .val (.int (4 : Int32)), .val (.int v6_22c), .val (.int (((p4.toUInt32 >>> ((4 : Int32) &&& 31).toUInt32).toInt32) &&& (3 : Int32))), .val (.int (((p4.toUInt32 >>> ((6 : Int32) &&& 31).toUInt32).toInt32) &&& (3 : Int32))), .val (.int p0), .val (.int w0_53), .val (.int w0_77), .val (.int w0_112), .val (.ref b116), .val (.int (F9 (0 : Int32) w0_112 [p0, w0_53, w0_77, (0 : Int32), w0_112, (0 : Int32), (0 : Int32), (0 : Int32)] [(0 : Int32), (4 : Int32)] [(3 : Int32), (1 : Int32)])), .val (.int v15_235k)] []))
                              refine Go.of (fun t k => XS.iconst X_235k.here hx rfl (hb hby at_246) k) ?_
                              show Go p e below s _ _ _ (T_235k.setTop (mkF m 247 #[.val (.int p0), .val (.int p1), .val (.int p2), .val (.int p3), .val (.int p4), .val (.int (4 : Int32)), .val (.int v6_22c), .val (.int (((p4.toUInt32 >>> ((4 : Int32) &&& 31).toUInt32).toInt32) &&& (3 : Int32))), .val (.int (((p4.toUInt32 >>> ((6 : Int32) &&& 31).toUInt32).toInt32) &&& (3 : Int32))), .val (.int p0), .val (.int w0_53), .val (.int w0_77), .val (.int w0_112), .val (.ref b116), .val (.int (F9 (0 : Int32) w0_112 [p0, w0_53, w0_77, (0 : Int32), w0_112, (0 : Int32), (0 : Int32), (0 : Int32)] [(0 : Int32), (4 : Int32)] [(3 : Int32), (1 : Int32)])), .val (.int v15_235k)] [(.int (0 : Int32))]))
                              exact Go.ret X_235k (some (.int (0 : Int32))) (fun h => by rw [Bd.returns] at h; cases h) hlk ⟨rfl, N_235k⟩ (by decide) (by decide) (fun fs hr => (retN X_235k hx (t := .boolean) Bd.returns (by simp) (hb hby at_247) hr))
                          by_cases hc229_151 : p0 = w0_112
                          · rewrite [if_pos hc229_151]
                            refine Go.of (fun t k => XS.icmpNo X_225k.here hx rfl (hb hby at_229) rfl (teq hc229_151).2 k) ?_
                            show Go p e below s _ _ _ (T_225k.setTop (mkF m 232 #[.val (.int p0), .val (.int p1), .val (.int p2), .val (.int p3), .val (.int p4), .val (.int (4 : Int32)), .val (.int v6_22c), .val (.int (((p4.toUInt32 >>> ((4 : Int32) &&& 31).toUInt32).toInt32) &&& (3 : Int32))), .val (.int (((p4.toUInt32 >>> ((6 : Int32) &&& 31).toUInt32).toInt32) &&& (3 : Int32))), .val (.int p0), .val (.int w0_53), .val (.int w0_77), .val (.int w0_112), .val (.ref b116), .val (.int (F9 (0 : Int32) w0_112 [p0, w0_53, w0_77, (0 : Int32), w0_112, (0 : Int32), (0 : Int32), (0 : Int32)] [(0 : Int32), (4 : Int32)] [(3 : Int32), (1 : Int32)])), .val (.int v15_225k)] []))
                            refine Go.of (fun t k => XS.iconst X_225k.here hx rfl (hb hby at_232) k) ?_
                            refine Go.of (fun t k => XS.istore X_225k.here hx rfl (hb hby at_233) rfl (l' := #[.val (.int p0), .val (.int p1), .val (.int p2), .val (.int p3), .val (.int p4), .val (.int (4 : Int32)), .val (.int v6_22c), .val (.int (((p4.toUInt32 >>> ((4 : Int32) &&& 31).toUInt32).toInt32) &&& (3 : Int32))), .val (.int (((p4.toUInt32 >>> ((6 : Int32) &&& 31).toUInt32).toInt32) &&& (3 : Int32))), .val (.int p0), .val (.int w0_53), .val (.int w0_77), .val (.int w0_112), .val (.ref b116), .val (.int (F9 (0 : Int32) w0_112 [p0, w0_53, w0_77, (0 : Int32), w0_112, (0 : Int32), (0 : Int32), (0 : Int32)] [(0 : Int32), (4 : Int32)] [(3 : Int32), (1 : Int32)])), .val (.int (0 : Int32))]) rfl k) ?_
                            show Go p e below s _ _ _ (T_225k.setTop (mkF m 235 #[.val (.int p0), .val (.int p1), .val (.int p2), .val (.int p3), .val (.int p4), .val (.int (4 : Int32)), .val (.int v6_22c), .val (.int (((p4.toUInt32 >>> ((4 : Int32) &&& 31).toUInt32).toInt32) &&& (3 : Int32))), .val (.int (((p4.toUInt32 >>> ((6 : Int32) &&& 31).toUInt32).toInt32) &&& (3 : Int32))), .val (.int p0), .val (.int w0_53), .val (.int w0_77), .val (.int w0_112), .val (.ref b116), .val (.int (F9 (0 : Int32) w0_112 [p0, w0_53, w0_77, (0 : Int32), w0_112, (0 : Int32), (0 : Int32), (0 : Int32)] [(0 : Int32), (4 : Int32)] [(3 : Int32), (1 : Int32)])), .val (.int (0 : Int32))] []))
                            exact jn235k (0 : Int32)  T_225k _ X_225k e_225k N_225k  
                          · rewrite [if_neg hc229_151]
                            refine Go.of (fun t k => XS.icmpYes X_225k.here hx rfl (pc0 := 229) (pc' := 235) rfl (hb hby at_229) rfl (feq hc229_151).2 (by decide) (by decide) k) ?_
                            show Go p e below s _ _ _ (T_225k.setTop (mkF m 235 #[.val (.int p0), .val (.int p1), .val (.int p2), .val (.int p3), .val (.int p4), .val (.int (4 : Int32)), .val (.int v6_22c), .val (.int (((p4.toUInt32 >>> ((4 : Int32) &&& 31).toUInt32).toInt32) &&& (3 : Int32))), .val (.int (((p4.toUInt32 >>> ((6 : Int32) &&& 31).toUInt32).toInt32) &&& (3 : Int32))), .val (.int p0), .val (.int w0_53), .val (.int w0_77), .val (.int w0_112), .val (.ref b116), .val (.int (F9 (0 : Int32) w0_112 [p0, w0_53, w0_77, (0 : Int32), w0_112, (0 : Int32), (0 : Int32), (0 : Int32)] [(0 : Int32), (4 : Int32)] [(3 : Int32), (1 : Int32)])), .val (.int v15_225k)] []))
                            exact jn235k v15_225k  T_225k _ X_225k e_225k N_225k  
                        refine Go.of (fun t k => XS.icmpNo X_209k.here hx rfl (hb hby at_212) rfl (flt hc148_133).1 k) ?_
                        show Go p e below s _ _ _ (T_209k.setTop (mkF m 215 #[.val (.int p0), .val (.int p1), .val (.int p2), .val (.int p3), .val (.int p4), .val (.int (4 : Int32)), .val (.int v6_22c), .val (.int (((p4.toUInt32 >>> ((4 : Int32) &&& 31).toUInt32).toInt32) &&& (3 : Int32))), .val (.int (((p4.toUInt32 >>> ((6 : Int32) &&& 31).toUInt32).toInt32) &&& (3 : Int32))), .val (.int p0), .val (.int w0_53), .val (.int w0_77), .val (.int w0_112), .val (.ref b116), .val (.int (F9 (0 : Int32) w0_112 [p0, w0_53, w0_77, (0 : Int32), w0_112, (0 : Int32), (0 : Int32), (0 : Int32)] [(0 : Int32), (4 : Int32)] [(3 : Int32), (1 : Int32)])), .val (.int v15_209k)] []))
                        refine Go.of (fun t k => XS.iload X_209k.here hx rfl (hb hby at_215) rfl k) ?_
                        refine Go.of (fun t k => XS.iload X_209k.here hx rfl (hb hby at_217) rfl k) ?_
                        show Go p e below s _ _ _ (T_209k.setTop (mkF m 219 #[.val (.int p0), .val (.int p1), .val (.int p2), .val (.int p3), .val (.int p4), .val (.int (4 : Int32)), .val (.int v6_22c), .val (.int (((p4.toUInt32 >>> ((4 : Int32) &&& 31).toUInt32).toInt32) &&& (3 : Int32))), .val (.int (((p4.toUInt32 >>> ((6 : Int32) &&& 31).toUInt32).toInt32) &&& (3 : Int32))), .val (.int p0), .val (.int w0_53), .val (.int w0_77), .val (.int w0_112), .val (.ref b116), .val (.int (F9 (0 : Int32) w0_112 [p0, w0_53, w0_77, (0 : Int32), w0_112, (0 : Int32), (0 : Int32), (0 : Int32)] [(0 : Int32), (4 : Int32)] [(3 : Int32), (1 : Int32)])), .val (.int v15_209k)] [(.int w0_112), (.int w0_53)]))
                        by_cases hc219_152 : w0_53 = w0_112
                        · rewrite [if_pos hc219_152]
                          refine Go.of (fun t k => XS.icmpNo X_209k.here hx rfl (hb hby at_219) rfl (teq hc219_152).2 k) ?_
                          show Go p e below s _ _ _ (T_209k.setTop (mkF m 222 #[.val (.int p0), .val (.int p1), .val (.int p2), .val (.int p3), .val (.int p4), .val (.int (4 : Int32)), .val (.int v6_22c), .val (.int (((p4.toUInt32 >>> ((4 : Int32) &&& 31).toUInt32).toInt32) &&& (3 : Int32))), .val (.int (((p4.toUInt32 >>> ((6 : Int32) &&& 31).toUInt32).toInt32) &&& (3 : Int32))), .val (.int p0), .val (.int w0_53), .val (.int w0_77), .val (.int w0_112), .val (.ref b116), .val (.int (F9 (0 : Int32) w0_112 [p0, w0_53, w0_77, (0 : Int32), w0_112, (0 : Int32), (0 : Int32), (0 : Int32)] [(0 : Int32), (4 : Int32)] [(3 : Int32), (1 : Int32)])), .val (.int v15_209k)] []))
                          refine Go.of (fun t k => XS.iconst X_209k.here hx rfl (hb hby at_222) k) ?_
                          refine Go.of (fun t k => XS.istore X_209k.here hx rfl (hb hby at_223) rfl (l' := #[.val (.int p0), .val (.int p1), .val (.int p2), .val (.int p3), .val (.int p4), .val (.int (4 : Int32)), .val (.int v6_22c), .val (.int (((p4.toUInt32 >>> ((4 : Int32) &&& 31).toUInt32).toInt32) &&& (3 : Int32))), .val (.int (((p4.toUInt32 >>> ((6 : Int32) &&& 31).toUInt32).toInt32) &&& (3 : Int32))), .val (.int p0), .val (.int w0_53), .val (.int w0_77), .val (.int w0_112), .val (.ref b116), .val (.int (F9 (0 : Int32) w0_112 [p0, w0_53, w0_77, (0 : Int32), w0_112, (0 : Int32), (0 : Int32), (0 : Int32)] [(0 : Int32), (4 : Int32)] [(3 : Int32), (1 : Int32)])), .val (.int (1 : Int32))]) rfl k) ?_
                          show Go p e below s _ _ _ (T_209k.setTop (mkF m 225 #[.val (.int p0), .val (.int p1), .val (.int p2), .val (.int p3), .val (.int p4), .val (.int (4 : Int32)), .val (.int v6_22c), .val (.int (((p4.toUInt32 >>> ((4 : Int32) &&& 31).toUInt32).toInt32) &&& (3 : Int32))), .val (.int (((p4.toUInt32 >>> ((6 : Int32) &&& 31).toUInt32).toInt32) &&& (3 : Int32))), .val (.int p0), .val (.int w0_53), .val (.int w0_77), .val (.int w0_112), .val (.ref b116), .val (.int (F9 (0 : Int32) w0_112 [p0, w0_53, w0_77, (0 : Int32), w0_112, (0 : Int32), (0 : Int32), (0 : Int32)] [(0 : Int32), (4 : Int32)] [(3 : Int32), (1 : Int32)])), .val (.int (1 : Int32))] []))
                          exact jn225k (1 : Int32)  T_209k _ X_209k e_209k N_209k  
                        · rewrite [if_neg hc219_152]
                          refine Go.of (fun t k => XS.icmpYes X_209k.here hx rfl (pc0 := 219) (pc' := 225) rfl (hb hby at_219) rfl (feq hc219_152).2 (by decide) (by decide) k) ?_
                          show Go p e below s _ _ _ (T_209k.setTop (mkF m 225 #[.val (.int p0), .val (.int p1), .val (.int p2), .val (.int p3), .val (.int p4), .val (.int (4 : Int32)), .val (.int v6_22c), .val (.int (((p4.toUInt32 >>> ((4 : Int32) &&& 31).toUInt32).toInt32) &&& (3 : Int32))), .val (.int (((p4.toUInt32 >>> ((6 : Int32) &&& 31).toUInt32).toInt32) &&& (3 : Int32))), .val (.int p0), .val (.int w0_53), .val (.int w0_77), .val (.int w0_112), .val (.ref b116), .val (.int (F9 (0 : Int32) w0_112 [p0, w0_53, w0_77, (0 : Int32), w0_112, (0 : Int32), (0 : Int32), (0 : Int32)] [(0 : Int32), (4 : Int32)] [(3 : Int32), (1 : Int32)])), .val (.int v15_209k)] []))
                          exact jn225k v15_209k  T_209k _ X_209k e_209k N_209k  
                      refine Go.of (fun t k => XS.icmpNo X149.here hx rfl (hb hby at_196) rfl (flt hc165_141).1 k) ?_
                      show Go p e below s _ _ _ (T149.setTop (mkF m 199 #[.val (.int p0), .val (.int p1), .val (.int p2), .val (.int p3), .val (.int p4), .val (.int (4 : Int32)), .val (.int v6_22c), .val (.int (((p4.toUInt32 >>> ((4 : Int32) &&& 31).toUInt32).toInt32) &&& (3 : Int32))), .val (.int (((p4.toUInt32 >>> ((6 : Int32) &&& 31).toUInt32).toInt32) &&& (3 : Int32))), .val (.int p0), .val (.int w0_53), .val (.int w0_77), .val (.int w0_112), .val (.ref b116), .val (.int (F9 (0 : Int32) w0_112 [p0, w0_53, w0_77, (0 : Int32), w0_112, (0 : Int32), (0 : Int32), (0 : Int32)] [(0 : Int32), (4 : Int32)] [(3 : Int32), (1 : Int32)])), .val (.int v6_22c)] []))
                      refine Go.of (fun t k => XS.iload X149.here hx rfl (hb hby at_199) rfl k) ?_
                      refine Go.of (fun t k => XS.iload X149.here hx rfl (hb hby at_201) rfl k) ?_
                      show Go p e below s _ _ _ (T149.setTop (mkF m 203 #[.val (.int p0), .val (.int p1), .val (.int p2), .val (.int p3), .val (.int p4), .val (.int (4 : Int32)), .val (.int v6_22c), .val (.int (((p4.toUInt32 >>> ((4 : Int32) &&& 31).toUInt32).toInt32) &&& (3 : Int32))), .val (.int (((p4.toUInt32 >>> ((6 : Int32) &&& 31).toUInt32).toInt32) &&& (3 : Int32))), .val (.int p0), .val (.int w0_53), .val (.int w0_77), .val (.int w0_112), .val (.ref b116), .val (.int (F9 (0 : Int32) w0_112 [p0, w0_53, w0_77, (0 : Int32), w0_112, (0 : Int32), (0 : Int32), (0 : Int32)] [(0 : Int32), (4 : Int32)] [(3 : Int32), (1 : Int32)])), .val (.int v6_22c)] [(.int w0_112), (.int w0_77)]))
                      by_cases hc203_153 : w0_77 = w0_112
                      · rewrite [if_pos hc203_153]
                        refine Go.of (fun t k => XS.icmpNo X149.here hx rfl (hb hby at_203) rfl (teq hc203_153).2 k) ?_
                        show Go p e below s _ _ _ (T149.setTop (mkF m 206 #[.val (.int p0), .val (.int p1), .val (.int p2), .val (.int p3), .val (.int p4), .val (.int (4 : Int32)), .val (.int v6_22c), .val (.int (((p4.toUInt32 >>> ((4 : Int32) &&& 31).toUInt32).toInt32) &&& (3 : Int32))), .val (.int (((p4.toUInt32 >>> ((6 : Int32) &&& 31).toUInt32).toInt32) &&& (3 : Int32))), .val (.int p0), .val (.int w0_53), .val (.int w0_77), .val (.int w0_112), .val (.ref b116), .val (.int (F9 (0 : Int32) w0_112 [p0, w0_53, w0_77, (0 : Int32), w0_112, (0 : Int32), (0 : Int32), (0 : Int32)] [(0 : Int32), (4 : Int32)] [(3 : Int32), (1 : Int32)])), .val (.int v6_22c)] []))
                        refine Go.of (fun t k => XS.iconst X149.here hx rfl (hb hby at_206) k) ?_
                        refine Go.of (fun t k => XS.istore X149.here hx rfl (hb hby at_207) rfl (l' := #[.val (.int p0), .val (.int p1), .val (.int p2), .val (.int p3), .val (.int p4), .val (.int (4 : Int32)), .val (.int v6_22c), .val (.int (((p4.toUInt32 >>> ((4 : Int32) &&& 31).toUInt32).toInt32) &&& (3 : Int32))), .val (.int (((p4.toUInt32 >>> ((6 : Int32) &&& 31).toUInt32).toInt32) &&& (3 : Int32))), .val (.int p0), .val (.int w0_53), .val (.int w0_77), .val (.int w0_112), .val (.ref b116), .val (.int (F9 (0 : Int32) w0_112 [p0, w0_53, w0_77, (0 : Int32), w0_112, (0 : Int32), (0 : Int32), (0 : Int32)] [(0 : Int32), (4 : Int32)] [(3 : Int32), (1 : Int32)])), .val (.int (2 : Int32))]) rfl k) ?_
                        show Go p e below s _ _ _ (T149.setTop (mkF m 209 #[.val (.int p0), .val (.int p1), .val (.int p2), .val (.int p3), .val (.int p4), .val (.int (4 : Int32)), .val (.int v6_22c), .val (.int (((p4.toUInt32 >>> ((4 : Int32) &&& 31).toUInt32).toInt32) &&& (3 : Int32))), .val (.int (((p4.toUInt32 >>> ((6 : Int32) &&& 31).toUInt32).toInt32) &&& (3 : Int32))), .val (.int p0), .val (.int w0_53), .val (.int w0_77), .val (.int w0_112), .val (.ref b116), .val (.int (F9 (0 : Int32) w0_112 [p0, w0_53, w0_77, (0 : Int32), w0_112, (0 : Int32), (0 : Int32), (0 : Int32)] [(0 : Int32), (4 : Int32)] [(3 : Int32), (1 : Int32)])), .val (.int (2 : Int32))] []))
                        exact jn209k (2 : Int32)  T149 _ X149 e149 N149  
                      · rewrite [if_neg hc203_153]
                        refine Go.of (fun t k => XS.icmpYes X149.here hx rfl (pc0 := 203) (pc' := 209) rfl (hb hby at_203) rfl (feq hc203_153).2 (by decide) (by decide) k) ?_
                        show Go p e below s _ _ _ (T149.setTop (mkF m 209 #[.val (.int p0), .val (.int p1), .val (.int p2), .val (.int p3), .val (.int p4), .val (.int (4 : Int32)), .val (.int v6_22c), .val (.int (((p4.toUInt32 >>> ((4 : Int32) &&& 31).toUInt32).toInt32) &&& (3 : Int32))), .val (.int (((p4.toUInt32 >>> ((6 : Int32) &&& 31).toUInt32).toInt32) &&& (3 : Int32))), .val (.int p0), .val (.int w0_53), .val (.int w0_77), .val (.int w0_112), .val (.ref b116), .val (.int (F9 (0 : Int32) w0_112 [p0, w0_53, w0_77, (0 : Int32), w0_112, (0 : Int32), (0 : Int32), (0 : Int32)] [(0 : Int32), (4 : Int32)] [(3 : Int32), (1 : Int32)])), .val (.int v6_22c)] []))
                        exact jn209k v6_22c  T149 _ X149 e149 N149  
          by_cases hc81_154 : (((p4.toUInt32 >>> ((6 : Int32) &&& 31).toUInt32).toInt32) &&& (3 : Int32)) = (0 : Int32)
          · rewrite [if_pos hc81_154]
            refine Go.of (fun t k => XS.ifNo X_77.here hx rfl (hb hby at_81) rfl ((if0 _ _).trans (teq hc81_154).2) k) ?_
            show Go p e below s _ _ _ (T_77.setTop (mkF m 84 #[.val (.int p0), .val (.int p1), .val (.int p2), .val (.int p3), .val (.int p4), .val (.int v5_8c), .val (.int v6_22c), .val (.int (((p4.toUInt32 >>> ((4 : Int32) &&& 31).toUInt32).toInt32) &&& (3 : Int32))), .val (.int (((p4.toUInt32 >>> ((6 : Int32) &&& 31).toUInt32).toInt32) &&& (3 : Int32))), .val (.int p0), .val (.int w0_53), .val (.int w0_77), .unset, .unset, .unset, .unset] []))
            refine Go.of (fun t k => XS.iload X_77.here hx rfl (hb hby at_84) rfl k) ?_
            refine Go.of (fun t k => XS.goto X_77.here hx rfl (pc0 := 86) (pc' := 112) rfl (hb hby at_86) (by decide) (by decide) k) ?_
            show Go p e below s _ _ _ (T_77.setTop (mkF m 112 #[.val (.int p0), .val (.int p1), .val (.int p2), .val (.int p3), .val (.int p4), .val (.int v5_8c), .val (.int v6_22c), .val (.int (((p4.toUInt32 >>> ((4 : Int32) &&& 31).toUInt32).toInt32) &&& (3 : Int32))), .val (.int (((p4.toUInt32 >>> ((6 : Int32) &&& 31).toUInt32).toInt32) &&& (3 : Int32))), .val (.int p0), .val (.int w0_53), .val (.int w0_77), .unset, .unset, .unset, .unset] [(.int p0)]))
            exact jn112 p0  T_77 _ X_77 e_77 N_77  
          · rewrite [if_neg hc81_154]
            refine Go.of (fun t k => XS.ifYes X_77.here hx rfl (pc0 := 81) (pc' := 89) rfl (hb hby at_81) rfl ((if0 _ _).trans (feq hc81_154).2) (by decide) (by decide) k) ?_
            show Go p e below s _ _ _ (T_77.setTop (mkF m 89 #[.val (.int p0), .val (.int p1), .val (.int p2), .val (.int p3), .val (.int p4), .val (.int v5_8c), .val (.int v6_22c), .val (.int (((p4.toUInt32 >>> ((4 : Int32) &&& 31).toUInt32).toInt32) &&& (3 : Int32))), .val (.int (((p4.toUInt32 >>> ((6 : Int32) &&& 31).toUInt32).toInt32) &&& (3 : Int32))), .val (.int p0), .val (.int w0_53), .val (.int w0_77), .unset, .unset, .unset, .unset] []))
            refine Go.of (fun t k => XS.iload X_77.here hx rfl (hb hby at_89) rfl k) ?_
            refine Go.of (fun t k => XS.iconst X_77.here hx rfl (hb hby at_91) k) ?_
            show Go p e below s _ _ _ (T_77.setTop (mkF m 92 #[.val (.int p0), .val (.int p1), .val (.int p2), .val (.int p3), .val (.int p4), .val (.int v5_8c), .val (.int v6_22c), .val (.int (((p4.toUInt32 >>> ((4 : Int32) &&& 31).toUInt32).toInt32) &&& (3 : Int32))), .val (.int (((p4.toUInt32 >>> ((6 : Int32) &&& 31).toUInt32).toInt32) &&& (3 : Int32))), .val (.int p0), .val (.int w0_53), .val (.int w0_77), .unset, .unset, .unset, .unset] [(.int (1 : Int32)), (.int (((p4.toUInt32 >>> ((6 : Int32) &&& 31).toUInt32).toInt32) &&& (3 : Int32)))]))
            by_cases hc92_155 : (((p4.toUInt32 >>> ((6 : Int32) &&& 31).toUInt32).toInt32) &&& (3 : Int32)) = (1 : Int32)
            · rewrite [if_pos hc92_155]
              refine Go.of (fun t k => XS.icmpNo X_77.here hx rfl (hb hby at_92) rfl (teq hc92_155).2 k) ?_
              show Go p e below s _ _ _ (T_77.setTop (mkF m 95 #[.val (.int p0), .val (.int p1), .val (.int p2), .val (.int p3), .val (.int p4), .val (.int v5_8c), .val (.int v6_22c), .val (.int (((p4.toUInt32 >>> ((4 : Int32) &&& 31).toUInt32).toInt32) &&& (3 : Int32))), .val (.int (((p4.toUInt32 >>> ((6 : Int32) &&& 31).toUInt32).toInt32) &&& (3 : Int32))), .val (.int p0), .val (.int w0_53), .val (.int w0_77), .unset, .unset, .unset, .unset] []))
              refine Go.of (fun t k => XS.iload X_77.here hx rfl (hb hby at_95) rfl k) ?_
              refine Go.of (fun t k => XS.goto X_77.here hx rfl (pc0 := 97) (pc' := 112) rfl (hb hby at_97) (by decide) (by decide) k) ?_
              show Go p e below s _ _ _ (T_77.setTop (mkF m 112 #[.val (.int p0), .val (.int p1), .val (.int p2), .val (.int p3), .val (.int p4), .val (.int v5_8c), .val (.int v6_22c), .val (.int (((p4.toUInt32 >>> ((4 : Int32) &&& 31).toUInt32).toInt32) &&& (3 : Int32))), .val (.int (((p4.toUInt32 >>> ((6 : Int32) &&& 31).toUInt32).toInt32) &&& (3 : Int32))), .val (.int p0), .val (.int w0_53), .val (.int w0_77), .unset, .unset, .unset, .unset] [(.int w0_53)]))
              exact jn112 w0_53  T_77 _ X_77 e_77 N_77  
            · rewrite [if_neg hc92_155]
              refine Go.of (fun t k => XS.icmpYes X_77.here hx rfl (pc0 := 92) (pc' := 100) rfl (hb hby at_92) rfl (feq hc92_155).2 (by decide) (by decide) k) ?_
              show Go p e below s _ _ _ (T_77.setTop (mkF m 100 #[.val (.int p0), .val (.int p1), .val (.int p2), .val (.int p3), .val (.int p4), .val (.int v5_8c), .val (.int v6_22c), .val (.int (((p4.toUInt32 >>> ((4 : Int32) &&& 31).toUInt32).toInt32) &&& (3 : Int32))), .val (.int (((p4.toUInt32 >>> ((6 : Int32) &&& 31).toUInt32).toInt32) &&& (3 : Int32))), .val (.int p0), .val (.int w0_53), .val (.int w0_77), .unset, .unset, .unset, .unset] []))
              refine Go.of (fun t k => XS.iload X_77.here hx rfl (hb hby at_100) rfl k) ?_
              refine Go.of (fun t k => XS.iconst X_77.here hx rfl (hb hby at_102) k) ?_
              show Go p e below s _ _ _ (T_77.setTop (mkF m 103 #[.val (.int p0), .val (.int p1), .val (.int p2), .val (.int p3), .val (.int p4), .val (.int v5_8c), .val (.int v6_22c), .val (.int (((p4.toUInt32 >>> ((4 : Int32) &&& 31).toUInt32).toInt32) &&& (3 : Int32))), .val (.int (((p4.toUInt32 >>> ((6 : Int32) &&& 31).toUInt32).toInt32) &&& (3 : Int32))), .val (.int p0), .val (.int w0_53), .val (.int w0_77), .unset, .unset, .unset, .unset] [(.int (2 : Int32)), (.int (((p4.toUInt32 >>> ((6 : Int32) &&& 31).toUInt32).toInt32) &&& (3 : Int32)))]))
              by_cases hc103_156 : (((p4.toUInt32 >>> ((6 : Int32) &&& 31).toUInt32).toInt32) &&& (3 : Int32)) = (2 : Int32)
              · rewrite [if_pos hc103_156]
                refine Go.of (fun t k => XS.icmpNo X_77.here hx rfl (hb hby at_103) rfl (teq hc103_156).2 k) ?_
                show Go p e below s _ _ _ (T_77.setTop (mkF m 106 #[.val (.int p0), .val (.int p1), .val (.int p2), .val (.int p3), .val (.int p4), .val (.int v5_8c), .val (.int v6_22c), .val (.int (((p4.toUInt32 >>> ((4 : Int32) &&& 31).toUInt32).toInt32) &&& (3 : Int32))), .val (.int (((p4.toUInt32 >>> ((6 : Int32) &&& 31).toUInt32).toInt32) &&& (3 : Int32))), .val (.int p0), .val (.int w0_53), .val (.int w0_77), .unset, .unset, .unset, .unset] []))
                refine Go.of (fun t k => XS.iload X_77.here hx rfl (hb hby at_106) rfl k) ?_
                refine Go.of (fun t k => XS.goto X_77.here hx rfl (pc0 := 108) (pc' := 112) rfl (hb hby at_108) (by decide) (by decide) k) ?_
                show Go p e below s _ _ _ (T_77.setTop (mkF m 112 #[.val (.int p0), .val (.int p1), .val (.int p2), .val (.int p3), .val (.int p4), .val (.int v5_8c), .val (.int v6_22c), .val (.int (((p4.toUInt32 >>> ((4 : Int32) &&& 31).toUInt32).toInt32) &&& (3 : Int32))), .val (.int (((p4.toUInt32 >>> ((6 : Int32) &&& 31).toUInt32).toInt32) &&& (3 : Int32))), .val (.int p0), .val (.int w0_53), .val (.int w0_77), .unset, .unset, .unset, .unset] [(.int w0_77)]))
                exact jn112 w0_77  T_77 _ X_77 e_77 N_77  
              · rewrite [if_neg hc103_156]
                refine Go.of (fun t k => XS.icmpYes X_77.here hx rfl (pc0 := 103) (pc' := 111) rfl (hb hby at_103) rfl (feq hc103_156).2 (by decide) (by decide) k) ?_
                show Go p e below s _ _ _ (T_77.setTop (mkF m 111 #[.val (.int p0), .val (.int p1), .val (.int p2), .val (.int p3), .val (.int p4), .val (.int v5_8c), .val (.int v6_22c), .val (.int (((p4.toUInt32 >>> ((4 : Int32) &&& 31).toUInt32).toInt32) &&& (3 : Int32))), .val (.int (((p4.toUInt32 >>> ((6 : Int32) &&& 31).toUInt32).toInt32) &&& (3 : Int32))), .val (.int p0), .val (.int w0_53), .val (.int w0_77), .unset, .unset, .unset, .unset] []))
                refine Go.of (fun t k => XS.iloadN X_77.here hx rfl (hb hby at_111) rfl k) ?_
                show Go p e below s _ _ _ (T_77.setTop (mkF m 112 #[.val (.int p0), .val (.int p1), .val (.int p2), .val (.int p3), .val (.int p4), .val (.int v5_8c), .val (.int v6_22c), .val (.int (((p4.toUInt32 >>> ((4 : Int32) &&& 31).toUInt32).toInt32) &&& (3 : Int32))), .val (.int (((p4.toUInt32 >>> ((6 : Int32) &&& 31).toUInt32).toInt32) &&& (3 : Int32))), .val (.int p0), .val (.int w0_53), .val (.int w0_77), .unset, .unset, .unset, .unset] [(.int p3)]))
                exact jn112 p3  T_77 _ X_77 e_77 N_77  
        by_cases hc58_157 : (((p4.toUInt32 >>> ((4 : Int32) &&& 31).toUInt32).toInt32) &&& (3 : Int32)) = (2 : Int32)
        · rewrite [if_pos hc58_157]
          refine Go.of (fun t k => XS.icmpNo X_53.here hx rfl (hb hby at_58) rfl (teq hc58_157).2 k) ?_
          show Go p e below s _ _ _ (T_53.setTop (mkF m 61 #[.val (.int p0), .val (.int p1), .val (.int p2), .val (.int p3), .val (.int p4), .val (.int v5_8c), .val (.int v6_22c), .val (.int (((p4.toUInt32 >>> ((4 : Int32) &&& 31).toUInt32).toInt32) &&& (3 : Int32))), .val (.int (((p4.toUInt32 >>> ((6 : Int32) &&& 31).toUInt32).toInt32) &&& (3 : Int32))), .val (.int p0), .val (.int w0_53), .unset, .unset, .unset, .unset, .unset] []))
          refine Go.of (fun t k => XS.iloadN X_53.here hx rfl (hb hby at_61) rfl k) ?_
          refine Go.of (fun t k => XS.goto X_53.here hx rfl (pc0 := 62) (pc' := 77) rfl (hb hby at_62) (by decide) (by decide) k) ?_
          show Go p e below s _ _ _ (T_53.setTop (mkF m 77 #[.val (.int p0), .val (.int p1), .val (.int p2), .val (.int p3), .val (.int p4), .val (.int v5_8c), .val (.int v6_22c), .val (.int (((p4.toUInt32 >>> ((4 : Int32) &&& 31).toUInt32).toInt32) &&& (3 : Int32))), .val (.int (((p4.toUInt32 >>> ((6 : Int32) &&& 31).toUInt32).toInt32) &&& (3 : Int32))), .val (.int p0), .val (.int w0_53), .unset, .unset, .unset, .unset, .unset] [(.int p0)]))
          exact jn77 p0  T_53 _ X_53 e_53 N_53  
        · rewrite [if_neg hc58_157]
          refine Go.of (fun t k => XS.icmpYes X_53.here hx rfl (pc0 := 58) (pc' := 65) rfl (hb hby at_58) rfl (feq hc58_157).2 (by decide) (by decide) k) ?_
          show Go p e below s _ _ _ (T_53.setTop (mkF m 65 #[.val (.int p0), .val (.int p1), .val (.int p2), .val (.int p3), .val (.int p4), .val (.int v5_8c), .val (.int v6_22c), .val (.int (((p4.toUInt32 >>> ((4 : Int32) &&& 31).toUInt32).toInt32) &&& (3 : Int32))), .val (.int (((p4.toUInt32 >>> ((6 : Int32) &&& 31).toUInt32).toInt32) &&& (3 : Int32))), .val (.int p0), .val (.int w0_53), .unset, .unset, .unset, .unset, .unset] []))
          refine Go.of (fun t k => XS.iload X_53.here hx rfl (hb hby at_65) rfl k) ?_
          refine Go.of (fun t k => XS.iconst X_53.here hx rfl (hb hby at_67) k) ?_
          show Go p e below s _ _ _ (T_53.setTop (mkF m 68 #[.val (.int p0), .val (.int p1), .val (.int p2), .val (.int p3), .val (.int p4), .val (.int v5_8c), .val (.int v6_22c), .val (.int (((p4.toUInt32 >>> ((4 : Int32) &&& 31).toUInt32).toInt32) &&& (3 : Int32))), .val (.int (((p4.toUInt32 >>> ((6 : Int32) &&& 31).toUInt32).toInt32) &&& (3 : Int32))), .val (.int p0), .val (.int w0_53), .unset, .unset, .unset, .unset, .unset] [(.int (3 : Int32)), (.int (((p4.toUInt32 >>> ((4 : Int32) &&& 31).toUInt32).toInt32) &&& (3 : Int32)))]))
          by_cases hc68_158 : (((p4.toUInt32 >>> ((4 : Int32) &&& 31).toUInt32).toInt32) &&& (3 : Int32)) = (3 : Int32)
          · rewrite [if_pos hc68_158]
            refine Go.of (fun t k => XS.icmpNo X_53.here hx rfl (hb hby at_68) rfl (teq hc68_158).2 k) ?_
            show Go p e below s _ _ _ (T_53.setTop (mkF m 71 #[.val (.int p0), .val (.int p1), .val (.int p2), .val (.int p3), .val (.int p4), .val (.int v5_8c), .val (.int v6_22c), .val (.int (((p4.toUInt32 >>> ((4 : Int32) &&& 31).toUInt32).toInt32) &&& (3 : Int32))), .val (.int (((p4.toUInt32 >>> ((6 : Int32) &&& 31).toUInt32).toInt32) &&& (3 : Int32))), .val (.int p0), .val (.int w0_53), .unset, .unset, .unset, .unset, .unset] []))
            refine Go.of (fun t k => XS.iload X_53.here hx rfl (hb hby at_71) rfl k) ?_
            refine Go.of (fun t k => XS.goto X_53.here hx rfl (pc0 := 73) (pc' := 77) rfl (hb hby at_73) (by decide) (by decide) k) ?_
            show Go p e below s _ _ _ (T_53.setTop (mkF m 77 #[.val (.int p0), .val (.int p1), .val (.int p2), .val (.int p3), .val (.int p4), .val (.int v5_8c), .val (.int v6_22c), .val (.int (((p4.toUInt32 >>> ((4 : Int32) &&& 31).toUInt32).toInt32) &&& (3 : Int32))), .val (.int (((p4.toUInt32 >>> ((6 : Int32) &&& 31).toUInt32).toInt32) &&& (3 : Int32))), .val (.int p0), .val (.int w0_53), .unset, .unset, .unset, .unset, .unset] [(.int w0_53)]))
            exact jn77 w0_53  T_53 _ X_53 e_53 N_53  
          · rewrite [if_neg hc68_158]
            refine Go.of (fun t k => XS.icmpYes X_53.here hx rfl (pc0 := 68) (pc' := 76) rfl (hb hby at_68) rfl (feq hc68_158).2 (by decide) (by decide) k) ?_
            show Go p e below s _ _ _ (T_53.setTop (mkF m 76 #[.val (.int p0), .val (.int p1), .val (.int p2), .val (.int p3), .val (.int p4), .val (.int v5_8c), .val (.int v6_22c), .val (.int (((p4.toUInt32 >>> ((4 : Int32) &&& 31).toUInt32).toInt32) &&& (3 : Int32))), .val (.int (((p4.toUInt32 >>> ((6 : Int32) &&& 31).toUInt32).toInt32) &&& (3 : Int32))), .val (.int p0), .val (.int w0_53), .unset, .unset, .unset, .unset, .unset] []))
            refine Go.of (fun t k => XS.iloadN X_53.here hx rfl (hb hby at_76) rfl k) ?_
            show Go p e below s _ _ _ (T_53.setTop (mkF m 77 #[.val (.int p0), .val (.int p1), .val (.int p2), .val (.int p3), .val (.int p4), .val (.int v5_8c), .val (.int v6_22c), .val (.int (((p4.toUInt32 >>> ((4 : Int32) &&& 31).toUInt32).toInt32) &&& (3 : Int32))), .val (.int (((p4.toUInt32 >>> ((6 : Int32) &&& 31).toUInt32).toInt32) &&& (3 : Int32))), .val (.int p0), .val (.int w0_53), .unset, .unset, .unset, .unset, .unset] [(.int p2)]))
            exact jn77 p2  T_53 _ X_53 e_53 N_53  
      by_cases hc45_159 : (((p4.toUInt32 >>> ((4 : Int32) &&& 31).toUInt32).toInt32) &&& (3 : Int32)) = (1 : Int32)
      · rewrite [if_pos hc45_159]
        refine Go.of (fun t k => XS.icmpNo X1.here hx rfl (hb hby at_45) rfl (teq hc45_159).2 k) ?_
        show Go p e below s _ _ _ (T1.setTop (mkF m 48 #[.val (.int p0), .val (.int p1), .val (.int p2), .val (.int p3), .val (.int p4), .val (.int v5_8c), .val (.int v6_22c), .val (.int (((p4.toUInt32 >>> ((4 : Int32) &&& 31).toUInt32).toInt32) &&& (3 : Int32))), .val (.int (((p4.toUInt32 >>> ((6 : Int32) &&& 31).toUInt32).toInt32) &&& (3 : Int32))), .val (.int p0), .unset, .unset, .unset, .unset, .unset, .unset] []))
        refine Go.of (fun t k => XS.iloadN X1.here hx rfl (hb hby at_48) rfl k) ?_
        refine Go.of (fun t k => XS.goto X1.here hx rfl (pc0 := 49) (pc' := 53) rfl (hb hby at_49) (by decide) (by decide) k) ?_
        show Go p e below s _ _ _ (T1.setTop (mkF m 53 #[.val (.int p0), .val (.int p1), .val (.int p2), .val (.int p3), .val (.int p4), .val (.int v5_8c), .val (.int v6_22c), .val (.int (((p4.toUInt32 >>> ((4 : Int32) &&& 31).toUInt32).toInt32) &&& (3 : Int32))), .val (.int (((p4.toUInt32 >>> ((6 : Int32) &&& 31).toUInt32).toInt32) &&& (3 : Int32))), .val (.int p0), .unset, .unset, .unset, .unset, .unset, .unset] [(.int p0)]))
        exact jn53 p0  T1 _ X1 e1 N1  
      · rewrite [if_neg hc45_159]
        refine Go.of (fun t k => XS.icmpYes X1.here hx rfl (pc0 := 45) (pc' := 52) rfl (hb hby at_45) rfl (feq hc45_159).2 (by decide) (by decide) k) ?_
        show Go p e below s _ _ _ (T1.setTop (mkF m 52 #[.val (.int p0), .val (.int p1), .val (.int p2), .val (.int p3), .val (.int p4), .val (.int v5_8c), .val (.int v6_22c), .val (.int (((p4.toUInt32 >>> ((4 : Int32) &&& 31).toUInt32).toInt32) &&& (3 : Int32))), .val (.int (((p4.toUInt32 >>> ((6 : Int32) &&& 31).toUInt32).toInt32) &&& (3 : Int32))), .val (.int p0), .unset, .unset, .unset, .unset, .unset, .unset] []))
        refine Go.of (fun t k => XS.iloadN X1.here hx rfl (hb hby at_52) rfl k) ?_
        show Go p e below s _ _ _ (T1.setTop (mkF m 53 #[.val (.int p0), .val (.int p1), .val (.int p2), .val (.int p3), .val (.int p4), .val (.int v5_8c), .val (.int v6_22c), .val (.int (((p4.toUInt32 >>> ((4 : Int32) &&& 31).toUInt32).toInt32) &&& (3 : Int32))), .val (.int (((p4.toUInt32 >>> ((6 : Int32) &&& 31).toUInt32).toInt32) &&& (3 : Int32))), .val (.int p0), .unset, .unset, .unset, .unset, .unset, .unset] [(.int p1)]))
        exact jn53 p1  T1 _ X1 e1 N1  
    exact jn22c ((1 : Int32) + (F1 (2 : Int32) (((p4.toUInt32 >>> ((2 : Int32) &&& 31).toUInt32).toInt32) &&& (3 : Int32)))) 
  exact jn8c ((1 : Int32) + (p4 &&& (3 : Int32))) (own_hr p4)
theorem own_hn (p : Int32) : (1 : Int32) + (F1 (2 : Int32) (((p.toUInt32 >>> ((2 : Int32) &&& 31).toUInt32).toInt32) &&& (3 : Int32))) = 1 ∨ (1 : Int32) + (F1 (2 : Int32) (((p.toUInt32 >>> ((2 : Int32) &&& 31).toUInt32).toInt32) &&& (3 : Int32))) = 2 ∨ (1 : Int32) + (F1 (2 : Int32) (((p.toUInt32 >>> ((2 : Int32) &&& 31).toUInt32).toInt32) &&& (3 : Int32))) = 3 := by
  have m := c_mask ((p.toUInt32 >>> ((2 : Int32) &&& 31).toUInt32).toInt32) 3 2 (by decide) (by decide)
  generalize ((p.toUInt32 >>> ((2 : Int32) &&& 31).toUInt32).toInt32) &&& (3 : Int32) = x at *
  have e1 := own_e1
  have e2 : (2 : Int32).toInt = 2 := by decide
  have e3 : (3 : Int32).toInt = 3 := by decide
  have hf : 0 ≤ (F1 2 x).toInt ∧ (F1 2 x).toInt ≤ 2 := by
    unfold F1
    simp only [Int32.lt_iff_toInt_lt, e2]
    split <;> omega
  generalize F1 2 x = y at *
  have a := c_iadd 1 y
  have r := rng32 (1 + y)
  simp only [← Int32.toInt_inj, e1, e2, e3]
  omega
theorem own_l1_1 (p q : Int32) : F0_209 p q (1 : Int32) = 1 := by
  by_cases h0 : p = q <;> simp [F0_209, F0_225, F0_235, F9, F9_20, h0]
theorem own_l1_2 (p u q : Int32) : F0_209a p u q (2 : Int32) = 1 := by
  by_cases h0 : p = q <;> by_cases h1 : u = q <;> simp [F0_209a, F0_225a, F0_235a, F9, F9_20, h0, h1]
theorem own_l1_3 (p u v q : Int32) : (if v = q then F0_209b p u v q (2 : Int32) else F0_209b p u v q (3 : Int32)) = 1 := by
  by_cases h0 : p = q <;> by_cases h1 : u = q <;> by_cases h2 : v = q <;> simp [F0_209b, F0_225b, F0_235b, F9, F9_20, h0, h1, h2]
theorem own_l2_1 (p q : Int32) : F0_209c p q (1 : Int32) = 1 := by
  by_cases h0 : p = q <;> simp [F0_209c, F0_225c, F0_235c, F9, F9_20, h0]
theorem own_l2_2 (p u q : Int32) : F0_209d p u q (2 : Int32) = 1 := by
  by_cases h0 : p = q <;> by_cases h1 : u = q <;> simp [F0_209d, F0_225d, F0_235d, F9, F9_20, h0, h1]
theorem own_l2_3 (p u v q : Int32) : (if v = q then F0_209e p u v q (2 : Int32) else F0_209e p u v q (3 : Int32)) = 1 := by
  by_cases h0 : p = q <;> by_cases h1 : u = q <;> by_cases h2 : v = q <;> simp [F0_209e, F0_225e, F0_235e, F9, F9_20, h0, h1, h2]
theorem own_l3_1 (p q : Int32) : F0_209f p q (1 : Int32) = 1 := by
  by_cases h0 : p = q <;> simp [F0_209f, F0_225f, F0_235f, F9, F9_20, h0]
theorem own_l3_2 (p u q : Int32) : F0_209g p u q (2 : Int32) = 1 := by
  by_cases h0 : p = q <;> by_cases h1 : u = q <;> simp [F0_209g, F0_225g, F0_235g, F9, F9_20, h0, h1]
theorem own_l3_3 (p u v q : Int32) : (if v = q then F0_209h p u v q (2 : Int32) else F0_209h p u v q (3 : Int32)) = 1 := by
  by_cases h0 : p = q <;> by_cases h1 : u = q <;> by_cases h2 : v = q <;> simp [F0_209h, F0_225h, F0_235h, F9, F9_20, h0, h1, h2]
theorem own_l4_1 (p q : Int32) : F0_209i p q (1 : Int32) = 1 := by
  by_cases h0 : p = q <;> simp [F0_209i, F0_225i, F0_235i, F9, F9_20, h0]
theorem own_l4_2 (p u q : Int32) : F0_209j p u q (2 : Int32) = 1 := by
  by_cases h0 : p = q <;> by_cases h1 : u = q <;> simp [F0_209j, F0_225j, F0_235j, F9, F9_20, h0, h1]
theorem own_l4_3 (p u v q : Int32) : (if v = q then F0_209k p u v q (2 : Int32) else F0_209k p u v q (3 : Int32)) = 1 := by
  by_cases h0 : p = q <;> by_cases h1 : u = q <;> by_cases h2 : v = q <;> simp [F0_209k, F0_225k, F0_235k, F9, F9_20, h0, h1, h2]
theorem own_112 (p r n u v q : Int32) (hr : r = 1 ∨ r = 2 ∨ r = 3 ∨ r = 4) (hn : n = 1 ∨ n = 2 ∨ n = 3) : F0_112 p r n u v q = 1 := by
  have d21 : ¬ ((2 : Int32) = 1) := by decide
  have d31 : ¬ ((3 : Int32) = 1) := by decide
  have d32 : ¬ ((3 : Int32) = 2) := by decide
  have d41 : ¬ ((4 : Int32) = 1) := by decide
  have d42 : ¬ ((4 : Int32) = 2) := by decide
  have d43 : ¬ ((4 : Int32) = 3) := by decide
  have l12 : (1 : Int32) < 2 := by decide
  have l22 : ¬ ((2 : Int32) < 2) := by decide
  have l23 : (2 : Int32) < 3 := by decide
  have l32 : ¬ ((3 : Int32) < 2) := by decide
  have l33 : ¬ ((3 : Int32) < 3) := by decide
  unfold F0_112
  rcases hr with rfl | rfl | rfl | rfl
  · rw [if_pos rfl]
    rcases hn with rfl | rfl | rfl
    · rw [if_pos l12]; exact own_l1_1 p q
    · rw [if_neg l22, if_pos l23]; exact own_l1_2 p u q
    · rw [if_neg l32, if_neg l33]; exact own_l1_3 p u v q
  · rw [if_neg d21, if_pos rfl]
    rcases hn with rfl | rfl | rfl
    · rw [if_pos l12]; exact own_l2_1 p q
    · rw [if_neg l22, if_pos l23]; exact own_l2_2 p u q
    · rw [if_neg l32, if_neg l33]; exact own_l2_3 p u v q
  · rw [if_neg d31, if_neg d32, if_pos rfl]
    rcases hn with rfl | rfl | rfl
    · rw [if_pos l12]; exact own_l3_1 p q
    · rw [if_neg l22, if_pos l23]; exact own_l3_2 p u q
    · rw [if_neg l32, if_neg l33]; exact own_l3_3 p u v q
  · rw [if_neg d41, if_neg d42, if_neg d43]
    rcases hn with rfl | rfl | rfl
    · rw [if_pos l12]; exact own_l4_1 p q
    · rw [if_neg l22, if_pos l23]; exact own_l4_2 p u q
    · rw [if_neg l32, if_neg l33]; exact own_l4_3 p u v q
theorem own_law (a b c d e : Int32) : F0 a b c d e = 1 := by
  have hr := own_hr e
  have hn := own_hn e
  unfold F0 F0_8c F0_22c F0_53 F0_77
  repeat' split
  all_goals exact own_112 _ _ _ _ _ _ hr hn
set_option maxRecDepth 65536 in
set_option maxHeartbeats 40000000 in
theorem comes_1 {Post : Tables → Env → Array Value → State → Outcome → State → Prop} (hpost : ∀ tb e args s v u, (limb_1_1.after args s (.returned v) u = true ∧ limb_1_2.after args s (.returned v) u = true ∧ True) → FrameEnd s (.returned v) u (Jvm.fieldLocs frame_1_writes args s ++ Jvm.arrayLocs frame_1_arrays args s ++ Jvm.staticLocs frame_1_statics s) 48 192 → Post tb e args s (.returned v) u) :
    ArmFor flags0 classFile x code maxLocals ret World_1 tables_1 room_1 Calls_1 rest_1 Pre_1 Post := by
  intro l hfl _ _ p e ha hc hk s m args below hf hA hF happ hP
  obtain ⟨hcalls, hrest, hpre⟩ := hP
  obtain ⟨-, -, -, hnamed, -, -, -, hat⟩ := (Spec.applies_iff hf).mp happ
  obtain ⟨hg, hn⟩ := and_e (Cond.before_iff.mp (show (Jvm.Cond.and given_1 narrow_1).before args s = true from hpre))
  obtain ⟨g0, g1⟩ := and_e hg
  obtain ⟨a0, g2⟩ := and_e g1
  obtain ⟨a1, g3⟩ := and_e g2
  obtain ⟨a2, g4⟩ := and_e g3
  obtain ⟨a3, g5⟩ := and_e g4
  have a4 := g5
  obtain ⟨w0, w1, w2, w3, w4, rfl⟩ : ∃ w0 w1 w2 w3 w4 : Value, args = #[w0, w1, w2, w3, w4] := by
    have hs : args.size = 5 := by simpa [Cond.value, given_1] using g0
    obtain ⟨L⟩ := args
    match L, hs with
    | [w0, w1, w2, w3, w4], _ => exact ⟨w0, w1, w2, w3, w4, rfl⟩
  have hw := fun d (hd : d ∈ tables_1) => atoms_spec (ws := Jvm.Cond.code x code maxLocals ret :: tables_1) hat d (List.mem_cons_of_mem _ hd)
  obtain ⟨i0, ei0⟩ := is_v a0
  obtain rfl : w0 = (.int i0) := Option.some.inj ei0
  obtain ⟨i1, ei1⟩ := is_v a1
  obtain rfl : w1 = (.int i1) := Option.some.inj ei1
  obtain ⟨i2, ei2⟩ := is_v a2
  obtain rfl : w2 = (.int i2) := Option.some.inj ei2
  obtain ⟨i3, ei3⟩ := is_v a3
  obtain rfl : w3 = (.int i3) := Option.some.inj ei3
  obtain ⟨i4, ei4⟩ := is_v a4
  obtain rfl : w4 = (.int i4) := Option.some.inj ei4
  obtain ⟨n, o, h1, h2, h3, _, L, rfl, ⟨rfl, N⟩, hq⟩ := rm0 l s _ hw tables_1 i0 i1 i2 i3 i4 s.heap s.heap.size (Nat.le_refl _) p e ha hc hk s m _ below hf ((Spec.applies_iff_loose hf).mp happ).1 ⟨rfl, State.Warmed39.refl s, rfl⟩ trivial
  have hone : (F0 i0 i1 i2 i3 i4) = 1 := own_law i0 i1 i2 i3 i4
  refine ⟨n, _, h1, h2, h3, hpost _ _ _ _ _ _ ⟨Cond.after_iff.mpr rfl, Cond.after_iff.mpr (eq_i res_at (Term.int_eval (1)) (by rw [hone])), trivial⟩ ⟨hq.1, hq.2.1, (hq.2.2.sift fun y hy => Or.inr (N y hy)).mono (by decide) (by decide)⟩⟩
theorem main_1_1 : Claimed_1_1 := comes_1 fun _ _ _ _ _ _ h hF => ⟨h.1, hF⟩
theorem main_1_2 : Claimed_1_2 := comes_1 fun _ _ _ _ _ _ h hF => ⟨h.2.1, hF⟩
end Jvm.Pilot.@@N@@
namespace Jvm.Pilot.@@N@@
open Jvm Jvm.ClassFile Sem Op Lib Jvm.Free Jvm.Stand Jvm.Pilot.@@N@@.Jvm.D
/-! MADE BY PROGRAM (witnessworld.py) out of the Statement's table words and the real class files: 12 classes; the members and pool entries that the words name. The judged class is class 1, her method 1. -/
namespace start1
open Jvm.ClassFile
def u (s : String) : CpInfo := .utf8 (stringToUtf16 s)
/-- a pool by its gaps: so many unusable entries, then the entry; so many at the end -/
def gap : Nat → List CpInfo → List CpInfo
  | 0, r => r
  | n + 1, r => .unusable :: gap n r
def poolList (es : List (Nat × CpInfo)) (last : Nat) : List CpInfo := es.foldr (fun e r => gap e.1 (e.2 :: r)) (gap last [])
def pool (es : List (Nat × CpInfo)) (last : Nat) : Array CpInfo := ⟨poolList es last⟩
def fileOf (pool : Array CpInfo) (this : Nat) (attrs : Array Attribute := #[]) (ms : Array MethodInfo := #[]) (fl : Nat := 33) (sup : Nat := 0) (ifs : Array Nat := #[]) (fds : Array FieldInfo := #[]) : ClassFile where
  minorVersion := 0
  majorVersion := 65
  constantPool := pool
  accessFlags := fl
  thisClass := this
  superClass := sup
  interfaces := ifs
  fields := fds
  methods := ms
  attributes := attrs
def plain (name : String) (sup : Option ClassId) : Class where
  name := name
  kind := .ordinary
  loader := none
  accessFlags := 33
  super := sup
  interfaces := #[]
  cf := none
  fields := #[]
  methods := #[]
  instanceTypes := #[]
  staticTypes := #[]
  resolved := #[]
  callSites := []
  init := .initialized
  statics := none
  mirror := none

def pool0 : Array CpInfo := pool [(5, u "<init>"), (0, u "()V"), (1, .class_ 10), (1, u "java/lang/Object")] 113

def k0c0 : Code := { maxStack := 0, maxLocals := 1, code := object_method_1_code, exceptionTable := #[], attributes := #[] }
def k0m0 : Method := { name := "<init>", desc := "()V", sig := { parameters := [], returnType := none }, accessFlags := 1, code := some k0c0 }
/-- java/lang/Object -/
def k0 : Class := { plain "java/lang/Object" none with
  accessFlags := 33
  interfaces := #[]
  cf := some (fileOf pool0 8 #[] #[{ accessFlags := 1, nameIndex := 5, descriptorIndex := 6, attributes := #[] }] 33 0 #[] #[])
  fields := #[]
  methods := #[k0m0]
  instanceTypes := #[]
  staticTypes := #[]
  resolved := Array.replicate 124 none
  statics := none }

def pool1 : Array CpInfo := pool [(2, .class_ 4), (1, u "java/lang/Object"), (0, u "<init>"), (0, u "()V"), (0, .methodref 8 9), (0, .class_ 10), (0, .nameAndType 11 12), (0, u "java/lang/Math"), (0, u "min"), (0, u "(II)I"), (0, .class_ 14), (0, u "com/example/susurrus/susurrus/KnownUnits"), (0, .methodref 13 16), (0, .nameAndType 5 17), (0, u "(I)V"), (0, .methodref 13 19), (0, .nameAndType 20 21), (0, u "start"), (0, u "(IIII)V"), (0, .methodref 13 23), (0, .nameAndType 24 25), (0, u "keep"), (0, u "(IIIII)V"), (0, .methodref 13 27), (0, .nameAndType 28 12), (0, u "find"), (0, .class_ 30), (0, u "com/example/susurrus/susurrus/KnownUnitsFindPinLaw"), (2, u "law"), (0, u "(IIIII)Z")] 3

def k1m0 : Method := { name := "<init>", desc := "()V", sig := { parameters := [], returnType := none }, accessFlags := 2, code := none }
def k1c1 : Code := { maxStack := 6, maxLocals := 16, code := code, exceptionTable := #[], attributes := #[] }
def k1m1 : Method := { name := "law", desc := "(IIIII)Z", sig := { parameters := [.int, .int, .int, .int, .int], returnType := some .boolean }, accessFlags := 9, code := some k1c1 }
/-- com/example/susurrus/susurrus/KnownUnitsFindPinLaw -/
def k1 : Class := { plain "com/example/susurrus/susurrus/KnownUnitsFindPinLaw" (some 0) with
  accessFlags := 49
  interfaces := #[]
  cf := some (fileOf pool1 29 #[] #[{ accessFlags := 2, nameIndex := 5, descriptorIndex := 6, attributes := #[] }, { accessFlags := 9, nameIndex := 33, descriptorIndex := 34, attributes := #[] }] 49 2 #[] #[])
  fields := #[]
  methods := #[k1m0, k1m1]
  instanceTypes := #[]
  staticTypes := #[]
  resolved := Array.replicate 38 none
  statics := none }

def pool2 : Array CpInfo := pool [(1, .class_ 2), (0, u "java/lang/Math"), (1, .class_ 6), (1, u "java/lang/Object"), (0, u "<init>"), (0, u "()V"), (89, .class_ 100), (1, u "java/lang/Math$RandomNumberGeneratorHolder"), (20, u "(JJ)J"), (50, u "negativeZeroFloatBits"), (0, u "J"), (2, u "negativeZeroDoubleBits"), (21, u "max"), (2, u "min"), (43, u "$assertionsDisabled"), (0, u "Z"), (88, u "(II)I"), (2, u "twoToTheDoubleScaleDown"), (0, u "D"), (4, u "twoToTheDoubleScaleUp"), (9, u "E"), (3, u "PI"), (2, u "TAU"), (2, u "DEGREES_TO_RADIANS"), (0, u "RADIANS_TO_DEGREES")] 94

def k2m0 : Method := { name := "<init>", desc := "()V", sig := { parameters := [], returnType := none }, accessFlags := 2, code := none }
def k2c1 : Code := { maxStack := 4, maxLocals := 4, code := jdk_29_method_66_code, exceptionTable := #[], attributes := #[] }
def k2m1 : Method := { name := "max", desc := "(JJ)J", sig := { parameters := [.long, .long], returnType := some .long }, accessFlags := 9, code := some k2c1 }
def k2c2 : Code := { maxStack := 2, maxLocals := 2, code := jdk_29_method_69_code, exceptionTable := #[], attributes := #[] }
def k2m2 : Method := { name := "min", desc := "(II)I", sig := { parameters := [.int, .int], returnType := some .int }, accessFlags := 9, code := some k2c2 }
def k2c3 : Code := { maxStack := 4, maxLocals := 4, code := jdk_29_method_70_code, exceptionTable := #[], attributes := #[] }
def k2m3 : Method := { name := "min", desc := "(JJ)J", sig := { parameters := [.long, .long], returnType := some .long }, accessFlags := 9, code := some k2c3 }
/-- java/lang/Math -/
def k2 : Class := { plain "java/lang/Math" (some 0) with
  accessFlags := 49
  interfaces := #[]
  cf := some (fileOf pool2 1 #[.nestMembers #[98]] #[{ accessFlags := 2, nameIndex := 7, descriptorIndex := 8, attributes := #[] }, { accessFlags := 9, nameIndex := 198, descriptorIndex := 121, attributes := #[] }, { accessFlags := 9, nameIndex := 201, descriptorIndex := 335, attributes := #[] }, { accessFlags := 9, nameIndex := 201, descriptorIndex := 121, attributes := #[] }] 49 4 #[] #[{ accessFlags := 25, nameIndex := 354, descriptorIndex := 339, attributes := #[] }, { accessFlags := 25, nameIndex := 358, descriptorIndex := 339, attributes := #[] }, { accessFlags := 25, nameIndex := 361, descriptorIndex := 339, attributes := #[] }, { accessFlags := 26, nameIndex := 364, descriptorIndex := 339, attributes := #[] }, { accessFlags := 26, nameIndex := 365, descriptorIndex := 339, attributes := #[] }, { accessFlags := 26, nameIndex := 172, descriptorIndex := 173, attributes := #[] }, { accessFlags := 26, nameIndex := 176, descriptorIndex := 173, attributes := #[] }, { accessFlags := 8, nameIndex := 344, descriptorIndex := 339, attributes := #[] }, { accessFlags := 8, nameIndex := 338, descriptorIndex := 339, attributes := #[] }, { accessFlags := 4120, nameIndex := 245, descriptorIndex := 246, attributes := #[] }])
  fields := #[{ name := "E", type := .double, accessFlags := 25, slot := 0, constantValue := 0 }, { name := "PI", type := .double, accessFlags := 25, slot := 1, constantValue := 0 }, { name := "TAU", type := .double, accessFlags := 25, slot := 2, constantValue := 0 }, { name := "DEGREES_TO_RADIANS", type := .double, accessFlags := 26, slot := 3, constantValue := 0 }, { name := "RADIANS_TO_DEGREES", type := .double, accessFlags := 26, slot := 4, constantValue := 0 }, { name := "negativeZeroFloatBits", type := .long, accessFlags := 26, slot := 5, constantValue := 0 }, { name := "negativeZeroDoubleBits", type := .long, accessFlags := 26, slot := 6, constantValue := 0 }, { name := "twoToTheDoubleScaleUp", type := .double, accessFlags := 8, slot := 7, constantValue := 0 }, { name := "twoToTheDoubleScaleDown", type := .double, accessFlags := 8, slot := 8, constantValue := 0 }, { name := "$assertionsDisabled", type := .boolean, accessFlags := 4120, slot := 9, constantValue := 0 }]
  methods := #[k2m0, k2m1, k2m2, k2m3]
  instanceTypes := #[]
  staticTypes := #[.double, .double, .double, .double, .double, .long, .long, .double, .double, .boolean]
  resolved := Array.replicate 460 none
  statics := none }

def pool3 : Array CpInfo := pool [(1, .methodref 2 3), (0, .class_ 4), (0, .nameAndType 5 6), (0, u "java/lang/Object"), (0, u "<init>"), (0, u "()V"), (0, .fieldref 8 9), (0, .class_ 10), (0, .nameAndType 11 12), (0, u "com/example/susurrus/susurrus/KnownUnits"), (0, u "units"), (0, u "[I"), (0, .fieldref 8 14), (0, .nameAndType 15 12), (0, u "aggregates"), (0, .fieldref 8 17), (0, .nameAndType 18 12), (0, u "senders"), (0, .fieldref 8 20), (0, .nameAndType 21 12), (0, u "starts"), (0, .fieldref 8 23), (0, .nameAndType 24 12), (0, u "rooms"), (0, .fieldref 8 26), (0, .nameAndType 27 12), (0, u "counts"), (0, .fieldref 8 29), (0, .nameAndType 30 31), (0, u "used"), (0, u "I"), (0, .methodref 8 33), (0, .nameAndType 34 35), (0, u "makeRoom"), (0, u "(J)V"), (0, .methodref 8 37), (0, .nameAndType 38 39), (0, u "moveToEnd"), (0, u "(II)V"), (1, .class_ 43), (1, u "java/util/Arrays"), (8, .methodref 53 54), (0, .class_ 55), (0, .nameAndType 56 57), (0, u "java/lang/System"), (0, u "arraycopy"), (0, u "(Ljava/lang/Object;ILjava/lang/Object;II)V"), (0, .long 2147483639), (8, .long 2), (1, .methodref 70 71), (0, .class_ 72), (0, .nameAndType 73 74), (0, u "java/lang/Math"), (0, u "max"), (0, u "(JJ)J"), (0, .methodref 70 76), (0, .nameAndType 77 74), (0, u "min"), (0, .methodref 41 79), (0, .nameAndType 80 81), (0, u "copyOf"), (0, u "([II)[I"), (0, u "BEFORE"), (2, u "(I)V"), (3, u "start"), (0, u "(IIII)V"), (3, u "(II)I"), (1, u "find"), (3, u "keep"), (0, u "(IIIII)V")] 5

def k3c0 : Code := { maxStack := 2, maxLocals := 2, code := prog_34_method_1_code, exceptionTable := #[], attributes := #[] }
def k3m0 : Method := { name := "<init>", desc := "(I)V", sig := { parameters := [.int], returnType := none }, accessFlags := 0, code := some k3c0 }
def k3c1 : Code := { maxStack := 3, maxLocals := 5, code := prog_34_method_3_code, exceptionTable := #[], attributes := #[] }
def k3m1 : Method := { name := "start", desc := "(IIII)V", sig := { parameters := [.int, .int, .int, .int], returnType := none }, accessFlags := 0, code := some k3c1 }
def k3c2 : Code := { maxStack := 3, maxLocals := 6, code := prog_34_method_7_code, exceptionTable := #[], attributes := #[] }
def k3m2 : Method := { name := "find", desc := "(II)I", sig := { parameters := [.int, .int], returnType := some .int }, accessFlags := 0, code := some k3c2 }
def k3c3 : Code := { maxStack := 5, maxLocals := 7, code := prog_34_method_9_code, exceptionTable := #[], attributes := #[] }
def k3m3 : Method := { name := "keep", desc := "(IIIII)V", sig := { parameters := [.int, .int, .int, .int, .int], returnType := none }, accessFlags := 0, code := some k3c3 }
def k3c4 : Code := { maxStack := 6, maxLocals := 3, code := prog_34_method_12_code, exceptionTable := #[], attributes := #[] }
def k3m4 : Method := { name := "moveToEnd", desc := "(II)V", sig := { parameters := [.int, .int], returnType := none }, accessFlags := 2, code := some k3c4 }
def k3c5 : Code := { maxStack := 8, maxLocals := 6, code := prog_34_method_13_code, exceptionTable := #[], attributes := #[] }
def k3m5 : Method := { name := "makeRoom", desc := "(J)V", sig := { parameters := [.long], returnType := none }, accessFlags := 2, code := some k3c5 }
/-- com/example/susurrus/susurrus/KnownUnits -/
def k3 : Class := { plain "com/example/susurrus/susurrus/KnownUnits" (some 0) with
  accessFlags := 48
  interfaces := #[]
  cf := some (fileOf pool3 8 #[] #[{ accessFlags := 0, nameIndex := 5, descriptorIndex := 85, attributes := #[] }, { accessFlags := 0, nameIndex := 89, descriptorIndex := 90, attributes := #[] }, { accessFlags := 0, nameIndex := 96, descriptorIndex := 94, attributes := #[] }, { accessFlags := 0, nameIndex := 100, descriptorIndex := 101, attributes := #[] }, { accessFlags := 2, nameIndex := 38, descriptorIndex := 39, attributes := #[] }, { accessFlags := 2, nameIndex := 34, descriptorIndex := 35, attributes := #[] }] 48 2 #[] #[{ accessFlags := 26, nameIndex := 82, descriptorIndex := 31, attributes := #[] }, { accessFlags := 2, nameIndex := 11, descriptorIndex := 12, attributes := #[] }, { accessFlags := 2, nameIndex := 15, descriptorIndex := 12, attributes := #[] }, { accessFlags := 2, nameIndex := 18, descriptorIndex := 12, attributes := #[] }, { accessFlags := 2, nameIndex := 30, descriptorIndex := 31, attributes := #[] }, { accessFlags := 18, nameIndex := 21, descriptorIndex := 12, attributes := #[] }, { accessFlags := 18, nameIndex := 24, descriptorIndex := 12, attributes := #[] }, { accessFlags := 18, nameIndex := 27, descriptorIndex := 12, attributes := #[] }])
  fields := #[{ name := "BEFORE", type := .int, accessFlags := 26, slot := 0, constantValue := 0 }, { name := "units", type := (.array .int), accessFlags := 2, slot := 0, constantValue := 0 }, { name := "aggregates", type := (.array .int), accessFlags := 2, slot := 1, constantValue := 0 }, { name := "senders", type := (.array .int), accessFlags := 2, slot := 2, constantValue := 0 }, { name := "used", type := .int, accessFlags := 2, slot := 3, constantValue := 0 }, { name := "starts", type := (.array .int), accessFlags := 18, slot := 4, constantValue := 0 }, { name := "rooms", type := (.array .int), accessFlags := 18, slot := 5, constantValue := 0 }, { name := "counts", type := (.array .int), accessFlags := 18, slot := 6, constantValue := 0 }]
  methods := #[k3m0, k3m1, k3m2, k3m3, k3m4, k3m5]
  instanceTypes := #[(.array .int), (.array .int), (.array .int), .int, (.array .int), (.array .int), (.array .int)]
  staticTypes := #[.int]
  resolved := Array.replicate 107 none
  statics := none }

def pool4 : Array CpInfo := pool [(2, .class_ 4), (1, u "java/lang/Object"), (0, u "<init>"), (0, u "()V"), (7, .class_ 16), (1, u "java/util/Arrays"), (57, .class_ 76), (1, u "java/util/Arrays$NaturalOrder"), (36, .class_ 115), (1, u "java/util/Arrays$LegacyMergeSort"), (1, u "Z"), (32, .methodref 151 152), (0, .class_ 153), (0, .nameAndType 154 155), (0, u "java/lang/System"), (0, u "arraycopy"), (0, u "(Ljava/lang/Object;ILjava/lang/Object;II)V"), (146, u "copyOf"), (1, .methodref 305 306), (0, .class_ 307), (0, .nameAndType 308 309), (0, u "java/lang/Math"), (0, u "min"), (0, u "(II)I"), (65, .class_ 376), (0, u "java/util/Arrays$ArrayList"), (68, u "$assertionsDisabled"), (269, u "MIN_ARRAY_SORT_GRAN"), (0, u "I"), (2, u "INSERTIONSORT_THRESHOLD"), (151, u "([II)[I"), (103, .class_ 976), (0, u "java/util/Arrays$ArrayItr")] 52

def k4m0 : Method := { name := "<init>", desc := "()V", sig := { parameters := [], returnType := none }, accessFlags := 2, code := none }
def k4c1 : Code := { maxStack := 6, maxLocals := 3, code := jdk_65_method_123_code, exceptionTable := #[], attributes := #[] }
def k4m1 : Method := { name := "copyOf", desc := "([II)[I", sig := { parameters := [(.array .int), .int], returnType := some (.array .int) }, accessFlags := 9, code := some k4c1 }
/-- java/util/Arrays -/
def k4 : Class := { plain "java/util/Arrays" (some 0) with
  accessFlags := 49
  interfaces := #[]
  cf := some (fileOf pool4 14 #[.nestMembers #[975, 375, 113, 74]] #[{ accessFlags := 2, nameIndex := 5, descriptorIndex := 6, attributes := #[] }, { accessFlags := 9, nameIndex := 302, descriptorIndex := 871, attributes := #[] }] 49 2 #[] #[{ accessFlags := 26, nameIndex := 715, descriptorIndex := 716, attributes := #[] }, { accessFlags := 26, nameIndex := 719, descriptorIndex := 716, attributes := #[] }, { accessFlags := 4120, nameIndex := 445, descriptorIndex := 117, attributes := #[] }])
  fields := #[{ name := "MIN_ARRAY_SORT_GRAN", type := .int, accessFlags := 26, slot := 0, constantValue := 0 }, { name := "INSERTIONSORT_THRESHOLD", type := .int, accessFlags := 26, slot := 1, constantValue := 0 }, { name := "$assertionsDisabled", type := .boolean, accessFlags := 4120, slot := 2, constantValue := 0 }]
  methods := #[k4m0, k4m1]
  instanceTypes := #[]
  staticTypes := #[.int, .int, .boolean]
  resolved := Array.replicate 1029 none
  statics := none }

def pool5 : Array CpInfo := pool [(2, .class_ 4), (1, u "java/lang/Object"), (0, u "<init>"), (0, u "()V"), (1, .class_ 10), (1, u "java/lang/System"), (0, u "allowSecurityManager"), (0, u "I"), (16, u "cons"), (0, u "Ljava/io/Console;"), (77, .class_ 110), (1, u "java/lang/System$CallersHolder"), (43, u "initialErrStream"), (0, u "Ljava/io/PrintStream;"), (19, u "security"), (0, u "Ljava/lang/SecurityManager;"), (31, .class_ 209), (0, u "java/lang/System$1"), (7, u "props"), (0, u "Ljava/util/Properties;"), (2, u "lineSeparator"), (0, u "Ljava/lang/String;"), (96, .class_ 321), (1, u "java/lang/System$LoggerFinder"), (5, .class_ 328), (0, u "java/lang/System$Logger"), (67, u "err"), (2, u "out"), (91, u "notSupportedJnuEncoding"), (15, u "in"), (17, u "initialIn"), (0, u "Ljava/io/InputStream;"), (35, u "bootLayer"), (0, u "Ljava/lang/ModuleLayer;"), (99, .class_ 664), (0, u "java/lang/System$2"), (9, u "NEVER"), (2, u "MAYBE"), (49, u "arraycopy"), (0, u "(Ljava/lang/Object;ILjava/lang/Object;II)V"), (72, .class_ 802), (0, u "java/lang/System$Logger$Level")] 31

def k5m0 : Method := { name := "<init>", desc := "()V", sig := { parameters := [], returnType := none }, accessFlags := 2, code := none }
def k5m1 : Method := { name := "arraycopy", desc := "(Ljava/lang/Object;ILjava/lang/Object;II)V", sig := { parameters := [(.object "java/lang/Object"), .int, (.object "java/lang/Object"), .int, .int], returnType := none }, accessFlags := 265, code := none }
/-- java/lang/System -/
def k5 : Class := { plain "java/lang/System" (some 0) with
  accessFlags := 49
  interfaces := #[]
  cf := some (fileOf pool5 8 #[.nestMembers #[319, 327, 801, 108, 663, 208]] #[{ accessFlags := 2, nameIndex := 5, descriptorIndex := 6, attributes := #[] }, { accessFlags := 265, nameIndex := 727, descriptorIndex := 728, attributes := #[] }] 49 2 #[] #[{ accessFlags := 25, nameIndex := 507, descriptorIndex := 526, attributes := #[] }, { accessFlags := 25, nameIndex := 399, descriptorIndex := 155, attributes := #[] }, { accessFlags := 25, nameIndex := 396, descriptorIndex := 155, attributes := #[] }, { accessFlags := 10, nameIndex := 525, descriptorIndex := 526, attributes := #[] }, { accessFlags := 26, nameIndex := 674, descriptorIndex := 12, attributes := #[] }, { accessFlags := 26, nameIndex := 677, descriptorIndex := 12, attributes := #[] }, { accessFlags := 10, nameIndex := 11, descriptorIndex := 12, attributes := #[] }, { accessFlags := 74, nameIndex := 175, descriptorIndex := 176, attributes := #[] }, { accessFlags := 10, nameIndex := 491, descriptorIndex := 222, attributes := #[] }, { accessFlags := 74, nameIndex := 29, descriptorIndex := 30, attributes := #[] }, { accessFlags := 74, nameIndex := 154, descriptorIndex := 155, attributes := #[] }, { accessFlags := 10, nameIndex := 217, descriptorIndex := 218, attributes := #[] }, { accessFlags := 10, nameIndex := 221, descriptorIndex := 222, attributes := #[] }, { accessFlags := 8, nameIndex := 562, descriptorIndex := 563, attributes := #[] }])
  fields := #[{ name := "in", type := (.object "java/io/InputStream"), accessFlags := 25, slot := 0, constantValue := 0 }, { name := "out", type := (.object "java/io/PrintStream"), accessFlags := 25, slot := 1, constantValue := 0 }, { name := "err", type := (.object "java/io/PrintStream"), accessFlags := 25, slot := 2, constantValue := 0 }, { name := "initialIn", type := (.object "java/io/InputStream"), accessFlags := 10, slot := 3, constantValue := 0 }, { name := "NEVER", type := .int, accessFlags := 26, slot := 4, constantValue := 0 }, { name := "MAYBE", type := .int, accessFlags := 26, slot := 5, constantValue := 0 }, { name := "allowSecurityManager", type := .int, accessFlags := 10, slot := 6, constantValue := 0 }, { name := "security", type := (.object "java/lang/SecurityManager"), accessFlags := 74, slot := 7, constantValue := 0 }, { name := "notSupportedJnuEncoding", type := (.object "java/lang/String"), accessFlags := 10, slot := 8, constantValue := 0 }, { name := "cons", type := (.object "java/io/Console"), accessFlags := 74, slot := 9, constantValue := 0 }, { name := "initialErrStream", type := (.object "java/io/PrintStream"), accessFlags := 74, slot := 10, constantValue := 0 }, { name := "props", type := (.object "java/util/Properties"), accessFlags := 10, slot := 11, constantValue := 0 }, { name := "lineSeparator", type := (.object "java/lang/String"), accessFlags := 10, slot := 12, constantValue := 0 }, { name := "bootLayer", type := (.object "java/lang/ModuleLayer"), accessFlags := 8, slot := 13, constantValue := 0 }]
  methods := #[k5m0, k5m1]
  instanceTypes := #[]
  staticTypes := #[(.object "java/io/InputStream"), (.object "java/io/PrintStream"), (.object "java/io/PrintStream"), (.object "java/io/InputStream"), .int, .int, .int, (.object "java/lang/SecurityManager"), (.object "java/lang/String"), (.object "java/io/Console"), (.object "java/io/PrintStream"), (.object "java/util/Properties"), (.object "java/lang/String"), (.object "java/lang/ModuleLayer")]
  resolved := Array.replicate 834 none
  statics := none }

def pool6 : Array CpInfo := pool [(1, u "java/lang/Cloneable"), (0, .class_ 1), (0, u "java/lang/Object"), (0, .class_ 3)] 3

/-- java/lang/Cloneable -/
def k6 : Class := { plain "java/lang/Cloneable" (some 0) with
  accessFlags := 1537
  interfaces := #[]
  cf := some (fileOf pool6 2 #[] #[] 1537 4 #[] #[])
  fields := #[]
  methods := #[]
  instanceTypes := #[]
  staticTypes := #[]
  resolved := Array.replicate 8 none
  statics := none }

def pool7 : Array CpInfo := pool [(1, u "java/io/Serializable"), (0, .class_ 1), (0, u "java/lang/Object"), (0, .class_ 3)] 3

/-- java/io/Serializable -/
def k7 : Class := { plain "java/io/Serializable" (some 0) with
  accessFlags := 1537
  interfaces := #[]
  cf := some (fileOf pool7 2 #[] #[] 1537 4 #[] #[])
  fields := #[]
  methods := #[]
  instanceTypes := #[]
  staticTypes := #[]
  resolved := Array.replicate 8 none
  statics := none }

/-- the primitive byte -/
def k8 : Class := { plain "byte" none with kind := .primitive 'B', accessFlags := 0x411 }
/-- [B -/
def k9 : Class := { plain "[B" (some 0) with kind := .array 8 .byte, interfaces := #[6, 7], accessFlags := 1041 }

/-- the primitive int -/
def k10 : Class := { plain "int" none with kind := .primitive 'I', accessFlags := 0x411 }
/-- [I -/
def k11 : Class := { plain "[I" (some 0) with kind := .array 10 .int, interfaces := #[6, 7], accessFlags := 1041 }

def heap : Heap := #[]
def classes : Array Class := #[k0, k1, k2, k3, k4, k5, k6, k7, k8, k9, k10, k11]
def interned : List (Array UInt16 × Addr) := []
def slotsUsed : Nat := 0
def theMethod : MethodId := ⟨1, 1⟩
def args0 : Array Value := #[.int 5, .int 6, .int 7, .int 8, .int 9]
def aboutOver (below : List Frame) : State where
  vm := { classes := classes, interned := interned.toArray }
  heap := heap
  slotsUsed := slotsUsed
  threads := #[{ frames := .invoking theMethod args0 :: below }]
def below0 : List Frame := [.native { method := ⟨0, 0⟩, args := #[] }]
def about1 : State := aboutOver below0
def p0 : Program := .bare "" "" ""
def e0 : Env := launch0.env 0 0 0
theorem w_frames : about1.frames = Frame.invoking theMethod args0 :: below0 := rfl
set_option maxRecDepth 65536 in
theorem w_args : argsFit about1.vm theMethod args0 = true := by decide +kernel
set_option maxRecDepth 65536 in
theorem w_heap : heapFits about1 = true := by decide +kernel
set_option maxRecDepth 65536 in
theorem w_runnable : about1.curStatus? = some .runnable := by decide +kernel
set_option maxRecDepth 65536 in
theorem w_alone : about1.alone = true := by decide +kernel
set_option maxRecDepth 65536 in
theorem w_named : about1.methodNamed? x = some theMethod := by decide +kernel
set_option maxRecDepth 65536 in
theorem w_hears : about1.hears theMethod below0 = true := by decide +kernel
set_option maxRecDepth 65536 in
theorem w_ripe : about1.ripe theMethod args0 below0 = true := by decide +kernel
theorem w_running : about1.status = .running := rfl
set_option maxRecDepth 65536 in
theorem w_room : about1.hasRoom e0.platform room_1 = true :=
  launch0.hasRoom_least _ room_1 (by decide +kernel) (by decide +kernel) (by decide +kernel) (by decide +kernel) (by decide +kernel) (by decide +kernel)
theorem allAtoms_all (ts : List Jvm.Cond) (a : Array Jvm.Value) (st : Jvm.State) : (allAtoms ts).before a st = ts.all (fun c => c.before a st) := by
  induction ts with
  | nil => rfl
  | cons c t ih =>
    show (Jvm.Cond.and c (allAtoms t)).before a st = _
    rw [Jvm.Cond.before_and, ih, List.all_cons]
def words1 : List Jvm.Cond := Jvm.Cond.code x code maxLocals ret :: tables_1
/-- a 'code' word, met by the world's own term for the bytes: nothing is compared byte by byte -/
theorem code_word {y : MethodName} {bytes : ByteArray} {mx : Nat} {rt : Option FieldType} {a : Array Value} {s : State} {m : MethodId} {meth : Method} {c : Code} (h1 : s.methodNamed? y = some m) (h2 : s.vm.method? m = some meth) (h3 : meth.code = some c) (h4 : c.code = bytes)
    (h5 : (c.maxLocals == mx && c.exceptionTable.isEmpty && decide (c.maxStack ≤ mostOperands) && decide (meth.sig.returnType = rt) && !meth.locks && decide (parseMethodDescriptor y.desc = some meth.sig)) = true) : (Jvm.Cond.code y bytes mx rt).before a s = true := by
  simp only [Bool.and_eq_true, beq_iff_eq, Bool.not_eq_true', decide_eq_true_eq] at h5
  obtain ⟨⟨⟨⟨⟨g1, g2⟩, g3⟩, g4⟩, g5⟩, g6⟩ := h5
  simp [Cond.before, Cond.holds, Cond.value, h1, h2, h3, h4, g1, g2, g3, g4, g5, g6]
def isCode : Jvm.Cond → Bool
  | .code _ _ _ _ => true
  | _ => false
theorem all_split {L : List Jvm.Cond} {P : Jvm.Cond → Bool} (h1 : L.all (fun c => isCode c || P c) = true) (h2 : ∀ c ∈ L.filter isCode, P c = true) : L.all P = true := by
  refine List.all_eq_true.mpr fun c hc => ?_
  have h := List.all_eq_true.mp h1 c hc
  rcases Bool.eq_false_or_eq_true (isCode c) with hi | hi
  · exact h2 c (List.mem_filter.mpr ⟨hc, hi⟩)
  · simpa [hi] using h
set_option maxRecDepth 65536 in
theorem w_c0 : (Jvm.Cond.code x code maxLocals ret).before args0 about1 = true := code_word (m := ⟨1, 1⟩) (meth := k1m1) (c := k1c1) (by decide +kernel) rfl rfl rfl (by decide +kernel)
set_option maxRecDepth 65536 in
theorem w_c1 : (Jvm.Cond.code ({ cls := "java/lang/Math", name := "min", desc := "(II)I" } : Jvm.MethodName) jdk_29_method_69_code (2 : Nat) (Option.some Jvm.ClassFile.FieldType.int)).before args0 about1 = true := code_word (m := ⟨2, 2⟩) (meth := k2m2) (c := k2c2) (by decide +kernel) rfl rfl rfl (by decide +kernel)
set_option maxRecDepth 65536 in
theorem w_c2 : (Jvm.Cond.code ({ cls := "com/example/susurrus/susurrus/KnownUnits", name := "<init>", desc := "(I)V" } : Jvm.MethodName) prog_34_method_1_code (2 : Nat) (Option.none : Option Jvm.ClassFile.FieldType)).before args0 about1 = true := code_word (m := ⟨3, 0⟩) (meth := k3m0) (c := k3c0) (by decide +kernel) rfl rfl rfl (by decide +kernel)
set_option maxRecDepth 65536 in
theorem w_c3 : (Jvm.Cond.code ({ cls := "java/lang/Object", name := "<init>", desc := "()V" } : Jvm.MethodName) object_method_1_code (1 : Nat) (Option.none : Option Jvm.ClassFile.FieldType)).before args0 about1 = true := code_word (m := ⟨0, 0⟩) (meth := k0m0) (c := k0c0) (by decide +kernel) rfl rfl rfl (by decide +kernel)
set_option maxRecDepth 65536 in
theorem w_c4 : (Jvm.Cond.code ({ cls := "com/example/susurrus/susurrus/KnownUnits", name := "start", desc := "(IIII)V" } : Jvm.MethodName) prog_34_method_3_code (5 : Nat) (Option.none : Option Jvm.ClassFile.FieldType)).before args0 about1 = true := code_word (m := ⟨3, 1⟩) (meth := k3m1) (c := k3c1) (by decide +kernel) rfl rfl rfl (by decide +kernel)
set_option maxRecDepth 65536 in
theorem w_c5 : (Jvm.Cond.code ({ cls := "com/example/susurrus/susurrus/KnownUnits", name := "makeRoom", desc := "(J)V" } : Jvm.MethodName) prog_34_method_13_code (6 : Nat) (Option.none : Option Jvm.ClassFile.FieldType)).before args0 about1 = true := code_word (m := ⟨3, 5⟩) (meth := k3m5) (c := k3c5) (by decide +kernel) rfl rfl rfl (by decide +kernel)
set_option maxRecDepth 65536 in
theorem w_c6 : (Jvm.Cond.code ({ cls := "java/lang/Math", name := "max", desc := "(JJ)J" } : Jvm.MethodName) jdk_29_method_66_code (4 : Nat) (Option.some Jvm.ClassFile.FieldType.long)).before args0 about1 = true := code_word (m := ⟨2, 1⟩) (meth := k2m1) (c := k2c1) (by decide +kernel) rfl rfl rfl (by decide +kernel)
set_option maxRecDepth 65536 in
theorem w_c7 : (Jvm.Cond.code ({ cls := "java/lang/Math", name := "min", desc := "(JJ)J" } : Jvm.MethodName) jdk_29_method_70_code (4 : Nat) (Option.some Jvm.ClassFile.FieldType.long)).before args0 about1 = true := code_word (m := ⟨2, 3⟩) (meth := k2m3) (c := k2c3) (by decide +kernel) rfl rfl rfl (by decide +kernel)
set_option maxRecDepth 65536 in
theorem w_c8 : (Jvm.Cond.code ({ cls := "java/util/Arrays", name := "copyOf", desc := "([II)[I" } : Jvm.MethodName) jdk_65_method_123_code (3 : Nat) (Option.some (Jvm.ClassFile.FieldType.array Jvm.ClassFile.FieldType.int))).before args0 about1 = true := code_word (m := ⟨4, 1⟩) (meth := k4m1) (c := k4c1) (by decide +kernel) rfl rfl rfl (by decide +kernel)
set_option maxRecDepth 65536 in
theorem w_c9 : (Jvm.Cond.code ({ cls := "com/example/susurrus/susurrus/KnownUnits", name := "find", desc := "(II)I" } : Jvm.MethodName) prog_34_method_7_code (6 : Nat) (Option.some Jvm.ClassFile.FieldType.int)).before args0 about1 = true := code_word (m := ⟨3, 2⟩) (meth := k3m2) (c := k3c2) (by decide +kernel) rfl rfl rfl (by decide +kernel)
set_option maxRecDepth 65536 in
theorem w_c10 : (Jvm.Cond.code ({ cls := "com/example/susurrus/susurrus/KnownUnits", name := "keep", desc := "(IIIII)V" } : Jvm.MethodName) prog_34_method_9_code (7 : Nat) (Option.none : Option Jvm.ClassFile.FieldType)).before args0 about1 = true := code_word (m := ⟨3, 3⟩) (meth := k3m3) (c := k3c3) (by decide +kernel) rfl rfl rfl (by decide +kernel)
set_option maxRecDepth 65536 in
theorem w_c11 : (Jvm.Cond.code ({ cls := "com/example/susurrus/susurrus/KnownUnits", name := "moveToEnd", desc := "(II)V" } : Jvm.MethodName) prog_34_method_12_code (3 : Nat) (Option.none : Option Jvm.ClassFile.FieldType)).before args0 about1 = true := code_word (m := ⟨3, 4⟩) (meth := k3m4) (c := k3c4) (by decide +kernel) rfl rfl rfl (by decide +kernel)
def codes1 : List Jvm.Cond := [Jvm.Cond.code x code maxLocals ret, Jvm.Cond.code ({ cls := "java/lang/Math", name := "min", desc := "(II)I" } : Jvm.MethodName) jdk_29_method_69_code (2 : Nat) (Option.some Jvm.ClassFile.FieldType.int), Jvm.Cond.code ({ cls := "com/example/susurrus/susurrus/KnownUnits", name := "<init>", desc := "(I)V" } : Jvm.MethodName) prog_34_method_1_code (2 : Nat) (Option.none : Option Jvm.ClassFile.FieldType), Jvm.Cond.code ({ cls := "java/lang/Object", name := "<init>", desc := "()V" } : Jvm.MethodName) object_method_1_code (1 : Nat) (Option.none : Option Jvm.ClassFile.FieldType), Jvm.Cond.code ({ cls := "com/example/susurrus/susurrus/KnownUnits", name := "start", desc := "(IIII)V" } : Jvm.MethodName) prog_34_method_3_code (5 : Nat) (Option.none : Option Jvm.ClassFile.FieldType), Jvm.Cond.code ({ cls := "com/example/susurrus/susurrus/KnownUnits", name := "makeRoom", desc := "(J)V" } : Jvm.MethodName) prog_34_method_13_code (6 : Nat) (Option.none : Option Jvm.ClassFile.FieldType), Jvm.Cond.code ({ cls := "java/lang/Math", name := "max", desc := "(JJ)J" } : Jvm.MethodName) jdk_29_method_66_code (4 : Nat) (Option.some Jvm.ClassFile.FieldType.long), Jvm.Cond.code ({ cls := "java/lang/Math", name := "min", desc := "(JJ)J" } : Jvm.MethodName) jdk_29_method_70_code (4 : Nat) (Option.some Jvm.ClassFile.FieldType.long), Jvm.Cond.code ({ cls := "java/util/Arrays", name := "copyOf", desc := "([II)[I" } : Jvm.MethodName) jdk_65_method_123_code (3 : Nat) (Option.some (Jvm.ClassFile.FieldType.array Jvm.ClassFile.FieldType.int)), Jvm.Cond.code ({ cls := "com/example/susurrus/susurrus/KnownUnits", name := "find", desc := "(II)I" } : Jvm.MethodName) prog_34_method_7_code (6 : Nat) (Option.some Jvm.ClassFile.FieldType.int), Jvm.Cond.code ({ cls := "com/example/susurrus/susurrus/KnownUnits", name := "keep", desc := "(IIIII)V" } : Jvm.MethodName) prog_34_method_9_code (7 : Nat) (Option.none : Option Jvm.ClassFile.FieldType), Jvm.Cond.code ({ cls := "com/example/susurrus/susurrus/KnownUnits", name := "moveToEnd", desc := "(II)V" } : Jvm.MethodName) prog_34_method_12_code (3 : Nat) (Option.none : Option Jvm.ClassFile.FieldType)]
set_option maxRecDepth 65536 in
theorem codes_eq : words1.filter isCode = codes1 := rfl
theorem w_codes : ∀ c ∈ words1.filter isCode, c.before args0 about1 = true := by
  rw [codes_eq]
  intro c hc
  simp only [codes1, List.mem_cons, List.not_mem_nil, or_false] at hc
  rcases hc with rfl | rfl | rfl | rfl | rfl | rfl | rfl | rfl | rfl | rfl | rfl | rfl
  · exact w_c0
  · exact w_c1
  · exact w_c2
  · exact w_c3
  · exact w_c4
  · exact w_c5
  · exact w_c6
  · exact w_c7
  · exact w_c8
  · exact w_c9
  · exact w_c10
  · exact w_c11
set_option maxRecDepth 65536 in
theorem w_t1 : (words1.take 24).all (fun c => isCode c || c.before args0 about1) = true := by decide +kernel
set_option maxRecDepth 65536 in
theorem w_t2 : ((words1.drop 24).take 24).all (fun c => isCode c || c.before args0 about1) = true := by decide +kernel
set_option maxRecDepth 65536 in
theorem w_t3 : ((words1.drop 24).drop 24).all (fun c => isCode c || c.before args0 about1) = true := by decide +kernel
theorem w_tables : (allAtoms (Jvm.Cond.code x code maxLocals ret :: tables_1)).before args0 about1 = true := by
  rw [allAtoms_all]
  show words1.all (fun c => c.before args0 about1) = true
  refine all_split ?_ w_codes
  rw [← List.take_append_drop 24 words1, List.all_append, w_t1, ← List.take_append_drop 24 (words1.drop 24), List.all_append, w_t2, w_t3]
  rfl
set_option maxRecDepth 65536 in
theorem w_case : (Jvm.Cond.and given_1 narrow_1).before args0 about1 = true := by decide +kernel
theorem w_applies : (headSpec (Jvm.Cond.code x code maxLocals ret :: tables_1) room_1).applies x e0.platform about1 = true :=
  (Spec.applies_iff w_frames).mpr ⟨w_running, w_runnable, w_alone, w_named, w_hears, w_ripe, w_room, w_tables⟩
theorem atStart : AtStart classFile x code maxLocals ret World_1 tables_1 room_1 Calls_1 rest_1 Pre_1 launch0 p0 e0 about1 theMethod args0 below0 :=
  ⟨lists_1, trivial, launch0.admits_env _ _ _, launch0.least_env, fairChoices_fair.cas, fairChoices_fair.clock, w_frames, w_args, w_heap, w_applies, trivial, trivial, w_case⟩
end start1
theorem witness_1 : WitnessClaimed_1 := ⟨start1.p0, start1.e0, start1.about1, start1.theMethod, start1.args0, start1.below0, start1.atStart⟩
end Jvm.Pilot.@@N@@
