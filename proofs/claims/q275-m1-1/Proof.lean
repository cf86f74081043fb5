import JvmDerived
import JvmDerived.Pilot.@@N@@Statement
import JvmDerived.Pilot.@@N@@Code
set_option linter.unusedVariables false
set_option linter.unusedSimpArgs false
namespace Jvm.RoadKit
open Sem ClassFile Op Lib Jvm.Stand Jvm.Free Jvm.LawKit
section New
variable {p : Program} {l : Launch} {e : Env} {R : Room} {s : State} {m : MethodId} {args : Array Value} {below : List Frame} {meth : Method} {c : Code} {T : State} {locs : List Loc} {cells slots : Nat}
theorem retI (X : Stand p l e R s m args below meth c T locs cells slots) (hx : p.tables.exec = Jvm.exec) {pc : Nat} {Ls : Array Slot} {z : Int32} {rest : List Value} (hret : meth.sig.returnType = some .int) (hd : decode c.code pc = .ok (.ireturn, 1)) {fs : List Frame}
    (hl : ∀ (f : JFrame) (acts : List Action), f.method = m → f.locked = none → f.entered = [] → (doReturn e (T.setTop f) acts (some (.int z))).1 = T.setFrames fs) : Steps p.tables e below (T.setTop (mkF m pc Ls (.int z :: rest))) (T.setFrames fs) := by
  have hm' : T.vm.method? m = some meth := X.method'
  have hn : narrow .int (.int z) = .int z := rfl
  show Steps p.tables e below (T.setTop { method := m, pc := pc, locals := Ls, stack := _ :: rest, locked := none }) _
  jvm_step X.here [X.here.top, hx, hd, hm', hret, hn]
  first | (intro acts; rw [hl _ acts rfl rfl rfl]) | rw [hl _ _ rfl rfl rfl]
  exact Steps.refl _
/-- the run from G on comes to an end that Q speaks of -/
def Go (p : Program) (e : Env) (below : List Frame) (s : State) (Q : Option Value → Heap → List Loc → Prop) (ck sk : Nat) (G : State) : Prop :=
  ∃ s₂ o, Steps p.tables e below G s₂ ∧ s₂.status = .running ∧ Ended s₂ below o ∧ ∃ v L, o = .returned v ∧ Q v s₂.heap L ∧ FrameEnd s o s₂ L ck sk
theorem Go.of {Q : Option Value → Heap → List Loc → Prop} {ck sk : Nat} {G G' : State} (h : ∀ t, Steps p.tables e below G' t → Steps p.tables e below G t) (k : Go p e below s Q ck sk G') : Go p e below s Q ck sk G := by
  obtain ⟨s₂, o, h1, r⟩ := k
  exact ⟨s₂, o, h _ h1, r⟩
theorem Go.ret (X : Stand p l e R s m args below meth c T locs cells slots) {Q : Option Value → Heap → List Loc → Prop} {ck sk : Nat} {G : State} (v : Option Value) (hv : meth.sig.returnType = none → v = none) (hlk : meth.locks = false) (hq : Q v T.heap locs) (hc : cells ≤ ck) (hs : slots ≤ sk)
    (st : ∀ fs, (∀ (f : JFrame) (acts : List Action), f.method = m → f.locked = none → f.entered = [] → (doReturn e (T.setTop f) acts v).1 = T.setFrames fs) → Steps p.tables e below G (T.setFrames fs)) : Go p e below s Q ck sk G := by
  obtain ⟨fs, hr, hrun, hended, hW, hsame⟩ := X.leave hv hlk
  exact ⟨_, _, st fs hr, hrun, hended, v, locs, rfl, hq, ⟨_, rfl⟩, hW, hsame.mono hc hs⟩
/-- what it returns, that it wrote nothing old, and that the heap is as it was -/
def QP (val : Option Value) (h0 : Heap) (n0 : Nat) (v : Option Value) (h : Heap) (L : List Loc) : Prop := v = val ∧ Fr n0 L ∧ h = h0
/-- what it returns, and that it wrote nothing old -/
def QL (val : Option Value) (n0 : Nat) (v : Option Value) (h : Heap) (L : List Loc) : Prop := v = val ∧ Fr n0 L
theorem lremM {g : JFrame} {target : State} (X : Stand p l e R s m args below meth c T locs cells slots) (hx : p.tables.exec = Jvm.exec) (hg : g.method = m) {x y : Int64} {rest : List Value} (hd : decode c.code g.pc = .ok (.lrem, 1)) (hs : g.stack = .long y :: .long x :: rest) (hy : y ≠ 0)
    (hr : Steps p.tables e below (T.setTop { g with pc := g.pc + 1, stack := .long (x % y) :: rest }) target) : Steps p.tables e below (T.setTop g) target := by
  have q : x - x / y * y = x % y := lrem_mod x y
  exact XS.lrem X.here hx hg hd hs hy (by rw [q]; exact hr)
end New
end Jvm.RoadKit
namespace Jvm.Pilot.@@N@@
open Jvm Jvm.ClassFile Sem Op Lib Jvm.Free Jvm.Stand Jvm.LawKit Jvm.RoadKit Bundle Jvm.Pilot.@@N@@.Jvm.D
theorem own_getDI : ∀ (L : List Int32) (i : Nat), (L.map Value.int).getD i (.int (0 : Int32)) = .int (L.getD i 0)
  | [], i => by simp
  | a :: L, 0 => by simp
  | a :: L, i + 1 => by simpa using own_getDI L i
theorem own_getDL : ∀ (L : List Int64) (i : Nat), (L.map Value.long).getD i (.long (0 : Int64)) = .long (L.getD i 0)
  | [], i => by simp
  | a :: L, 0 => by simp
  | a :: L, i + 1 => by simpa using own_getDL L i
theorem own_z : (0 : Int32).toInt = 0 := by decide
theorem own_e1 : (1 : Int32).toInt = 1 := by decide
theorem own_e5 : (5 : Int32).toInt = 5 := by decide
theorem own_e6 : (6 : Int32).toInt = 6 := by decide
theorem own_in {i s n : Int32} (hI : 0 ≤ i.toInt ∧ i.toInt ≤ n.toInt) (hn : 0 ≤ s.toInt ∧ s.toInt ≤ n.toInt ∧ n.toInt ≤ 5) (hc : i < n) : ¬ (i < 0) ∧ i < (5 : Int32) := by
  rw [Int32.lt_iff_toInt_lt] at hc
  rw [Int32.lt_iff_toInt_lt, Int32.lt_iff_toInt_lt, own_z, own_e5]; omega
theorem own_inc {i s n : Int32} (hI : 0 ≤ i.toInt ∧ i.toInt ≤ n.toInt) (hn : 0 ≤ s.toInt ∧ s.toInt ≤ n.toInt ∧ n.toInt ≤ 5) : (i + (1 : Int32)).toInt = i.toInt + 1 := by
  have q := c_iadd i 1
  have r := rng32 (i + 1)
  have z := own_e1
  omega
theorem own_step {i s n : Int32} {f : Nat} (hI : (0 ≤ i.toInt ∧ i.toInt ≤ n.toInt) ∧ (n.toInt - i.toInt).toNat < f + 1) (hn : 0 ≤ s.toInt ∧ s.toInt ≤ n.toInt ∧ n.toInt ≤ 5) (hc : i < n) : (0 ≤ (i + (1 : Int32)).toInt ∧ (i + (1 : Int32)).toInt ≤ n.toInt) ∧ (n.toInt - (i + (1 : Int32)).toInt).toNat < f := by
  rw [own_inc hI.1 hn]
  rw [Int32.lt_iff_toInt_lt] at hc
  omega
theorem own_first {s n : Int32} (hn : 0 ≤ s.toInt ∧ s.toInt ≤ n.toInt ∧ n.toInt ≤ 5) : (0 ≤ s.toInt ∧ s.toInt ≤ n.toInt) ∧ (n.toInt - s.toInt).toNat < 6 := by omega
theorem own_s (p : Int32) : 0 ≤ ((p &&& (7 : Int32)) % (6 : Int32)).toInt ∧ ((p &&& (7 : Int32)) % (6 : Int32)).toInt < 6 := by
  have m := c_mask p 7 3 (by decide) (by decide)
  have r := (c_irem (p &&& 7) 6 6 rfl).1 (by omega)
  omega
theorem own_d {s : Int32} (h : 0 ≤ s.toInt ∧ s.toInt < 6) : ((6 : Int32) - s).toInt = 6 - s.toInt := by
  have q := c_isub 6 s
  have r := rng32 (6 - s)
  have z := own_e6
  omega
theorem own_nz (p : Int32) : (6 : Int32) - ((p &&& (7 : Int32)) % (6 : Int32)) ≠ 0 := fun e => by
  have d := own_d (own_s p)
  have s := own_s p
  rw [e, own_z] at d
  omega
theorem own_se (p : Int32) : 0 ≤ ((p &&& (7 : Int32)) % (6 : Int32)).toInt ∧ ((p &&& (7 : Int32)) % (6 : Int32)).toInt ≤ (((p &&& (7 : Int32)) % (6 : Int32)) + ((((p.toUInt32 >>> ((3 : Int32) &&& 31).toUInt32).toInt32) &&& (7 : Int32)) % ((6 : Int32) - ((p &&& (7 : Int32)) % (6 : Int32))))).toInt ∧ (((p &&& (7 : Int32)) % (6 : Int32)) + ((((p.toUInt32 >>> ((3 : Int32) &&& 31).toUInt32).toInt32) &&& (7 : Int32)) % ((6 : Int32) - ((p &&& (7 : Int32)) % (6 : Int32))))).toInt ≤ 5 := by
  have s := own_s p
  have d := own_d s
  generalize (p &&& (7 : Int32)) % (6 : Int32) = st at *
  have m := c_mask ((p.toUInt32 >>> ((3 : Int32) &&& 31).toUInt32).toInt32) 7 3 (by decide) (by decide)
  generalize ((p.toUInt32 >>> ((3 : Int32) &&& 31).toUInt32).toInt32) &&& (7 : Int32) = t at *
  have r := (c_iremV t (6 - st)).1 (by omega) (by omega)
  generalize t % ((6 : Int32) - st) = u at *
  have a := c_iadd st u
  have g := rng32 (st + u)
  omega
theorem own_pi (p : Int32) : ¬ ((((p.toUInt32 >>> ((1 : Int32) &&& 31).toUInt32).toInt32) &&& (7 : Int32)) % (5 : Int32) < 0) ∧ (((p.toUInt32 >>> ((1 : Int32) &&& 31).toUInt32).toInt32) &&& (7 : Int32)) % (5 : Int32) < (5 : Int32) := by
  have m := c_mask ((p.toUInt32 >>> ((1 : Int32) &&& 31).toUInt32).toInt32) 7 3 (by decide) (by decide)
  generalize ((p.toUInt32 >>> ((1 : Int32) &&& 31).toUInt32).toInt32) &&& (7 : Int32) = t at *
  have r := (c_irem t 5 5 rfl).1 (by omega)
  rw [Int32.lt_iff_toInt_lt, Int32.lt_iff_toInt_lt, own_z, own_e5]
  omega
theorem own_pn0 : plainName "com/example/tallyfold/tallyfold/Bytes" = true := by first | (simp [plainName, overriddenIn]; done) | decide +kernel
theorem d1_0 : decode prog_1_method_1_code 0 = .ok (.aload_n 0, 1) := by decide +kernel
theorem d1_1 : decode prog_1_method_1_code 1 = .ok (.invokespecial 1, 3) := by decide +kernel
theorem d1_4 : decode prog_1_method_1_code 4 = .ok (.aload_n 0, 1) := by decide +kernel
theorem d1_5 : decode prog_1_method_1_code 5 = .ok (.iconst 0, 1) := by decide +kernel
theorem d1_6 : decode prog_1_method_1_code 6 = .ok (.newarray .byte, 2) := by decide +kernel
theorem d1_8 : decode prog_1_method_1_code 8 = .ok (.putfield 7, 3) := by decide +kernel
theorem d1_11 : decode prog_1_method_1_code 11 = .ok (.return_, 1) := by decide +kernel
theorem ef_1 (m : MethodId) (a0 : Addr) : entryFrame m #[(.ref a0)] 1 = mkF m 0 #[.val (.ref a0)] [] := by first | (simp [entryFrame, mkF, argsToLocals, Value.category]; done) | rfl
def Q1 (Z : State) (a0 : Addr) (u_array_a0 : Value) (u_start_a0 : Value) (u_end_a0 : Value) (h0 : Heap) (n0 : Nat) (v : Option Value) (h : Heap) (L : List Loc) : Prop := v = none ∧ Fr n0 L ∧ Keep h0 h [a0] ∧ Exa Z h a0 "com/example/tallyfold/tallyfold/Bytes" ∧ (∃ w : Addr, h0.size ≤ w ∧ n0 ≤ w ∧ Fld Z h a0 "com/example/tallyfold/tallyfold/Bytes" "array" "[B" (.ref w)) ∧ Fld Z h a0 "com/example/tallyfold/tallyfold/Bytes" "start" "I" u_start_a0 ∧ Fld Z h a0 "com/example/tallyfold/tallyfold/Bytes" "end" "I" u_end_a0
set_option maxRecDepth 65536 in
set_option maxHeartbeats 40000000 in
theorem rm1 (l : Launch) (Z : State) (az : Array Value) (hw : ∀ d ∈ tables_1, d.before az Z = true) (ws : List Jvm.Cond) (a0 : Addr) (u_array_a0 : Value) (u_start_a0 : Value) (u_end_a0 : Value) (h0 : Heap) (n0 : Nat) (Z0 : n0 ≤ h0.size) (E_a0 : Exa Z h0 a0 "com/example/tallyfold/tallyfold/Bytes") (Fp_array_a0 : Fld Z h0 a0 "com/example/tallyfold/tallyfold/Bytes" "array" "[B" u_array_a0) (Fp_start_a0 : Fld Z h0 a0 "com/example/tallyfold/tallyfold/Bytes" "start" "I" u_start_a0) (Fp_end_a0 : Fld Z h0 a0 "com/example/tallyfold/tallyfold/Bytes" "end" "I" u_end_a0) (g_a0 : n0 ≤ a0) :
    MetFree l (⟨"com/example/tallyfold/tallyfold/Bytes", "<init>", "()V"⟩ : MethodName) (head1 (Jvm.Cond.code (⟨"com/example/tallyfold/tallyfold/Bytes", "<init>", "()V"⟩ : MethodName) prog_1_method_1_code 1 none :: ws) ({ frames := 1, cells := 1, slots := 0, locals := 12 } : Room)) (fun a U => a = #[(.ref a0)] ∧ Z.Warmed39 U.vm ∧ U.heap = h0) (fun _ _ _ _ _ => True) (fun _ U o U' => ∃ v L, o = .returned v ∧ (Q1 Z a0 u_array_a0 u_start_a0 u_end_a0 h0 n0) v U'.heap L ∧ FrameEnd U o U' L ({ frames := 1, cells := 1, slots := 0, locals := 12 } : Room).cells ({ frames := 1, cells := 1, slots := 0, locals := 12 } : Room).slots) := by
  refine MetFree.of_bodySF (plainFor_of_name own_pn0) hisR ?_
  intro p e s m args below meth c s₁ Bd hml0 hP hK
  obtain ⟨rfl, hZ, hh⟩ := hP
  have hx := Bd.exec
  have hby := Bd.bytes
  have hml : c.maxLocals = 1 := hml0
  have hown : s.vm.findClass "com/example/tallyfold/tallyfold/Bytes" = some m.cls := findClass_of_methodNamed Bd.named
  have hnm := (name_of_methodNamed Bd.named Bd.method).1
  have hlk : meth.locks = false := BodyLoose.notSynchronized Bd
  have X0 : Stand p l e ({ frames := 1, cells := 1, slots := 0, locals := 12 } : Room) s m #[(.ref a0)] below meth c s₁ [] 0 0 := Stand.of_body Bd
  have e0 : s₁.heap = h0 := by rw [← hh, Bd.state]; rfl
  have N0 := Fr.nil n0
  show Go p e below s (Q1 Z a0 u_array_a0 u_start_a0 u_end_a0 h0 n0) ({ frames := 1, cells := 1, slots := 0, locals := 12 } : Room).cells ({ frames := 1, cells := 1, slots := 0, locals := 12 } : Room).slots (s₁.setTop (entryFrame m #[(.ref a0)] 1))
  refine Go.of (fun t k => castTop (ef_1 m a0) k) ?_
  show Go p e below s _ _ _ (s₁.setTop (mkF m 0 #[.val (.ref a0)] []))
  refine Go.of (fun t k => XS.aloadN X0.here hx rfl (hb hby d1_0) rfl rfl k) ?_
  show Go p e below s _ _ _ (s₁.setTop (mkF m 1 #[.val (.ref a0)] [(.ref a0)]))
  obtain ⟨T1, X1, e1, st1⟩ := initO X0 hx hZ hown (hw _ (List.mem_of_getElem? (i := 7) rfl)) (hw _ (List.mem_of_getElem? (i := 8) rfl)) (hw _ (List.mem_of_getElem? (i := 9) rfl)) e0 (g := (mkF m 1 #[.val (.ref a0)] [(.ref a0)])) rfl (by rw [hml]; rfl) rfl (hb hby d1_1) (by decide) (W := 0) (by show 2 * 0 + _ ≤ _; exact Nat.le_of_eq rfl) (by decide)
  refine Go.of st1 ?_
  show Go p e below s _ _ _ (T1.setTop (mkF m 4 #[.val (.ref a0)] []))
  refine Go.of (fun t k => XS.aloadN X1.here hx rfl (hb hby d1_4) rfl rfl k) ?_
  show Go p e below s _ _ _ (T1.setTop (mkF m 5 #[.val (.ref a0)] [(.ref a0)]))
  refine Go.of (fun t k => XS.iconst X1.here hx rfl (hb hby d1_5) k) ?_
  show Go p e below s _ _ _ (T1.setTop (mkF m 6 #[.val (.ref a0)] [(.int (0 : Int32)), (.ref a0)]))
  obtain ⟨T2, h2, k2, X2, e2, E2, A2, st2⟩ := newP X1 hx hZ (hw _ (List.mem_of_getElem? (i := 0) rfl)) e1 (g := (mkF m 6 #[.val (.ref a0)] [(.int (0 : Int32)), (.ref a0)])) rfl (hb hby d1_6) rfl (by decide) (cap := 0) (by decide) (by decide) (by decide) (by decide)
  obtain ⟨b2, ga2⟩ : ∃ z, z = h0.size := ⟨_, rfl⟩
  rw [← ga2] at A2 st2
  have g_b2 : n0 ≤ b2 := Nat.le_trans Z0 (Nat.le_of_eq ga2.symm)
  have sz_b2 : h0.size ≤ b2 := Nat.le_trans (Keep.refl h0 [a0]).1 (Nat.le_of_eq ga2.symm)
  have ne3 : a0 ≠ b2 := Nat.ne_of_lt (Nat.lt_of_lt_of_le E_a0.lt (Nat.le_of_eq ga2.symm))
  have f4 := E_a0.ext E2
  have f5 := Fp_array_a0.ext E2
  have f6 := Fp_start_a0.ext E2
  have f7 := Fp_end_a0.ext E2
  have f8 : Arv Z h2 b2 k2 .byte (0 : Int32) [] (.int (0 : Int32)) := Arv.new A2 (by decide)
  have K2 : Keep h0 h2 [a0] := Keep.ext (Keep.refl h0 [a0]) E2
  refine Go.of st2 ?_
  show Go p e below s _ _ _ (T2.setTop (mkF m 8 #[.val (.ref a0)] [(.ref b2), (.ref a0)]))
  obtain ⟨T9, h9, X9, e9, W9, st9⟩ := putF X2 hx hZ hown (host := "") (Or.inl (hw _ (List.mem_of_getElem? (i := 10) rfl))) Via.refl e2 f5 f4 (Or.inl (hw _ (List.mem_of_getElem? (i := 11) rfl))) (hw _ (List.mem_of_getElem? (i := 2) rfl)) (ty := (.array .byte)) (by decide) rfl rfl (g := (mkF m 8 #[.val (.ref a0)] [(.ref b2), (.ref a0)])) rfl rfl (hb hby d1_8)
  have f10 := f5.same W9
  have f11 := f4.wr W9
  have f12 := f6.other W9 (Or.inr (slot_ne (Or.inl (hw _ (List.mem_of_getElem? (i := 18) rfl))) (Or.inl (hw _ (List.mem_of_getElem? (i := 11) rfl))) (by decide) (t := .int) (t' := (.array .byte)) (by decide) (by decide)))
  have f13 := f7.other W9 (Or.inr (slot_ne (Or.inl (hw _ (List.mem_of_getElem? (i := 20) rfl))) (Or.inl (hw _ (List.mem_of_getElem? (i := 11) rfl))) (by decide) (t := .int) (t' := (.array .byte)) (by decide) (by decide)))
  have f14 := f8.other W9 (Ne.symm ne3)
  have N9 := Fr.snoc X9 N0 g_a0
  have K9 : Keep h0 h9 [a0] := Keep.wr K2 W9 (Or.inl (List.mem_of_getElem? (i := 0) rfl))
  refine Go.of st9 ?_
  show Go p e below s _ _ _ (T9.setTop (mkF m 11 #[.val (.ref a0)] []))
  exact Go.ret X9 none (fun _ => rfl) hlk (by rw [e9]; exact ⟨rfl, N9, K9, f11, ⟨b2, sz_b2, g_b2, f10⟩, f12, f13⟩) (by decide) (by decide) (fun fs hr => (X9.returnOut hx Bd.returns (hb hby d1_11) hr))
theorem d3_0 : decode prog_1_method_2_code 0 = .ok (.aload_n 0, 1) := by decide +kernel
theorem d3_1 : decode prog_1_method_2_code 1 = .ok (.aload_n 1, 1) := by decide +kernel
theorem d3_2 : decode prog_1_method_2_code 2 = .ok (.putfield 7, 3) := by decide +kernel
theorem d3_5 : decode prog_1_method_2_code 5 = .ok (.aload_n 0, 1) := by decide +kernel
theorem d3_6 : decode prog_1_method_2_code 6 = .ok (.iload_n 2, 1) := by decide +kernel
theorem d3_7 : decode prog_1_method_2_code 7 = .ok (.putfield 13, 3) := by decide +kernel
theorem d3_10 : decode prog_1_method_2_code 10 = .ok (.aload_n 0, 1) := by decide +kernel
theorem d3_11 : decode prog_1_method_2_code 11 = .ok (.iload_n 3, 1) := by decide +kernel
theorem d3_12 : decode prog_1_method_2_code 12 = .ok (.putfield 17, 3) := by decide +kernel
theorem d3_15 : decode prog_1_method_2_code 15 = .ok (.return_, 1) := by decide +kernel
theorem ef_3 (m : MethodId) (a0 : Addr) (a1 : Addr) (p2 : Int32) (p3 : Int32) : entryFrame m #[(.ref a0), (.ref a1), (.int p2), (.int p3)] 4 = mkF m 0 #[.val (.ref a0), .val (.ref a1), .val (.int p2), .val (.int p3)] [] := by first | (simp [entryFrame, mkF, argsToLocals, Value.category]; done) | rfl
def Q3 (Z : State) (a0 : Addr) (a1 : Addr) (p2 : Int32) (p3 : Int32) (u_array_a0 : Value) (u_start_a0 : Value) (u_end_a0 : Value) (h0 : Heap) (n0 : Nat) (v : Option Value) (h : Heap) (L : List Loc) : Prop := v = none ∧ Fr n0 L ∧ Keep h0 h [a0] ∧ Exa Z h a0 "com/example/tallyfold/tallyfold/Bytes" ∧ Fld Z h a0 "com/example/tallyfold/tallyfold/Bytes" "array" "[B" (.ref a1) ∧ Fld Z h a0 "com/example/tallyfold/tallyfold/Bytes" "start" "I" (.int p2) ∧ Fld Z h a0 "com/example/tallyfold/tallyfold/Bytes" "end" "I" (.int p3)
set_option maxRecDepth 65536 in
set_option maxHeartbeats 40000000 in
theorem rm3 (l : Launch) (Z : State) (az : Array Value) (hw : ∀ d ∈ tables_1, d.before az Z = true) (ws : List Jvm.Cond) (a0 : Addr) (a1 : Addr) (p2 : Int32) (p3 : Int32) (u_array_a0 : Value) (u_start_a0 : Value) (u_end_a0 : Value) (h0 : Heap) (n0 : Nat) (Z0 : n0 ≤ h0.size) (E_a0 : Exa Z h0 a0 "com/example/tallyfold/tallyfold/Bytes") (Fp_array_a0 : Fld Z h0 a0 "com/example/tallyfold/tallyfold/Bytes" "array" "[B" u_array_a0) (Fp_start_a0 : Fld Z h0 a0 "com/example/tallyfold/tallyfold/Bytes" "start" "I" u_start_a0) (Fp_end_a0 : Fld Z h0 a0 "com/example/tallyfold/tallyfold/Bytes" "end" "I" u_end_a0) (g_a0 : n0 ≤ a0) :
    MetFree l (⟨"com/example/tallyfold/tallyfold/Bytes", "set", "([BII)V"⟩ : MethodName) (head1 (Jvm.Cond.code (⟨"com/example/tallyfold/tallyfold/Bytes", "set", "([BII)V"⟩ : MethodName) prog_1_method_2_code 4 none :: ws) ({ frames := 0, cells := 0, slots := 0, locals := 0 } : Room)) (fun a U => a = #[(.ref a0), (.ref a1), (.int p2), (.int p3)] ∧ Z.Warmed39 U.vm ∧ U.heap = h0) (fun _ _ _ _ _ => True) (fun _ U o U' => ∃ v L, o = .returned v ∧ (Q3 Z a0 a1 p2 p3 u_array_a0 u_start_a0 u_end_a0 h0 n0) v U'.heap L ∧ FrameEnd U o U' L ({ frames := 0, cells := 0, slots := 0, locals := 0 } : Room).cells ({ frames := 0, cells := 0, slots := 0, locals := 0 } : Room).slots) := by
  refine MetFree.of_bodySF (plainFor_of_name own_pn0) hisR ?_
  intro p e s m args below meth c s₁ Bd hml0 hP hK
  obtain ⟨rfl, hZ, hh⟩ := hP
  have hx := Bd.exec
  have hby := Bd.bytes
  have hml : c.maxLocals = 4 := hml0
  have hown : s.vm.findClass "com/example/tallyfold/tallyfold/Bytes" = some m.cls := findClass_of_methodNamed Bd.named
  have hnm := (name_of_methodNamed Bd.named Bd.method).1
  have hlk : meth.locks = false := BodyLoose.notSynchronized Bd
  have X0 : Stand p l e ({ frames := 0, cells := 0, slots := 0, locals := 0 } : Room) s m #[(.ref a0), (.ref a1), (.int p2), (.int p3)] below meth c s₁ [] 0 0 := Stand.of_body Bd
  have e0 : s₁.heap = h0 := by rw [← hh, Bd.state]; rfl
  have N0 := Fr.nil n0
  show Go p e below s (Q3 Z a0 a1 p2 p3 u_array_a0 u_start_a0 u_end_a0 h0 n0) ({ frames := 0, cells := 0, slots := 0, locals := 0 } : Room).cells ({ frames := 0, cells := 0, slots := 0, locals := 0 } : Room).slots (s₁.setTop (entryFrame m #[(.ref a0), (.ref a1), (.int p2), (.int p3)] 4))
  refine Go.of (fun t k => castTop (ef_3 m a0 a1 p2 p3) k) ?_
  show Go p e below s _ _ _ (s₁.setTop (mkF m 0 #[.val (.ref a0), .val (.ref a1), .val (.int p2), .val (.int p3)] []))
  refine Go.of (fun t k => XS.aloadN X0.here hx rfl (hb hby d3_0) rfl rfl k) ?_
  show Go p e below s _ _ _ (s₁.setTop (mkF m 1 #[.val (.ref a0), .val (.ref a1), .val (.int p2), .val (.int p3)] [(.ref a0)]))
  refine Go.of (fun t k => XS.aloadN X0.here hx rfl (hb hby d3_1) rfl rfl k) ?_
  show Go p e below s _ _ _ (s₁.setTop (mkF m 2 #[.val (.ref a0), .val (.ref a1), .val (.int p2), .val (.int p3)] [(.ref a1), (.ref a0)]))
  obtain ⟨T1, h1, X1, e1, W1, st1⟩ := putF X0 hx hZ hown (host := "") (Or.inl (hw _ (List.mem_of_getElem? (i := 10) rfl))) Via.refl e0 Fp_array_a0 E_a0 (Or.inl (hw _ (List.mem_of_getElem? (i := 11) rfl))) (hw _ (List.mem_of_getElem? (i := 2) rfl)) (ty := (.array .byte)) (by decide) rfl rfl (g := (mkF m 2 #[.val (.ref a0), .val (.ref a1), .val (.int p2), .val (.int p3)] [(.ref a1), (.ref a0)])) rfl rfl (hb hby d3_2)
  have f2 := Fp_array_a0.same W1
  have f3 := E_a0.wr W1
  have f4 := Fp_start_a0.other W1 (Or.inr (slot_ne (Or.inl (hw _ (List.mem_of_getElem? (i := 18) rfl))) (Or.inl (hw _ (List.mem_of_getElem? (i := 11) rfl))) (by decide) (t := .int) (t' := (.array .byte)) (by decide) (by decide)))
  have f5 := Fp_end_a0.other W1 (Or.inr (slot_ne (Or.inl (hw _ (List.mem_of_getElem? (i := 20) rfl))) (Or.inl (hw _ (List.mem_of_getElem? (i := 11) rfl))) (by decide) (t := .int) (t' := (.array .byte)) (by decide) (by decide)))
  have N1 := Fr.snoc X1 N0 g_a0
  have K1 : Keep h0 h1 [a0] := Keep.wr (Keep.refl h0 [a0]) W1 (Or.inl (List.mem_of_getElem? (i := 0) rfl))
  refine Go.of st1 ?_
  show Go p e below s _ _ _ (T1.setTop (mkF m 5 #[.val (.ref a0), .val (.ref a1), .val (.int p2), .val (.int p3)] []))
  refine Go.of (fun t k => XS.aloadN X1.here hx rfl (hb hby d3_5) rfl rfl k) ?_
  show Go p e below s _ _ _ (T1.setTop (mkF m 6 #[.val (.ref a0), .val (.ref a1), .val (.int p2), .val (.int p3)] [(.ref a0)]))
  refine Go.of (fun t k => XS.iloadN X1.here hx rfl (hb hby d3_6) rfl k) ?_
  show Go p e below s _ _ _ (T1.setTop (mkF m 7 #[.val (.ref a0), .val (.ref a1), .val (.int p2), .val (.int p3)] [(.int p2), (.ref a0)]))
  obtain ⟨T6, h6, X6, e6, W6, st6⟩ := putF X1 hx hZ hown (host := "") (Or.inl (hw _ (List.mem_of_getElem? (i := 17) rfl))) Via.refl e1 f4 f3 (Or.inl (hw _ (List.mem_of_getElem? (i := 18) rfl))) (hw _ (List.mem_of_getElem? (i := 2) rfl)) (ty := .int) (by decide) rfl rfl (g := (mkF m 7 #[.val (.ref a0), .val (.ref a1), .val (.int p2), .val (.int p3)] [(.int p2), (.ref a0)])) rfl rfl (hb hby d3_7)
  have f7 := f4.same W6
  have f8 := f3.wr W6
  have f9 := f2.other W6 (Or.inr (slot_ne (Or.inl (hw _ (List.mem_of_getElem? (i := 11) rfl))) (Or.inl (hw _ (List.mem_of_getElem? (i := 18) rfl))) (by decide) (t := (.array .byte)) (t' := .int) (by decide) (by decide)))
  have f10 := f5.other W6 (Or.inr (slot_ne (Or.inl (hw _ (List.mem_of_getElem? (i := 20) rfl))) (Or.inl (hw _ (List.mem_of_getElem? (i := 18) rfl))) (by decide) (t := .int) (t' := .int) (by decide) (by decide)))
  have N6 := Fr.snoc X6 N1 g_a0
  have K6 : Keep h0 h6 [a0] := Keep.wr K1 W6 (Or.inl (List.mem_of_getElem? (i := 0) rfl))
  refine Go.of st6 ?_
  show Go p e below s _ _ _ (T6.setTop (mkF m 10 #[.val (.ref a0), .val (.ref a1), .val (.int p2), .val (.int p3)] []))
  refine Go.of (fun t k => XS.aloadN X6.here hx rfl (hb hby d3_10) rfl rfl k) ?_
  show Go p e below s _ _ _ (T6.setTop (mkF m 11 #[.val (.ref a0), .val (.ref a1), .val (.int p2), .val (.int p3)] [(.ref a0)]))
  refine Go.of (fun t k => XS.iloadN X6.here hx rfl (hb hby d3_11) rfl k) ?_
  show Go p e below s _ _ _ (T6.setTop (mkF m 12 #[.val (.ref a0), .val (.ref a1), .val (.int p2), .val (.int p3)] [(.int p3), (.ref a0)]))
  obtain ⟨T11, h11, X11, e11, W11, st11⟩ := putF X6 hx hZ hown (host := "") (Or.inl (hw _ (List.mem_of_getElem? (i := 19) rfl))) Via.refl e6 f10 f8 (Or.inl (hw _ (List.mem_of_getElem? (i := 20) rfl))) (hw _ (List.mem_of_getElem? (i := 2) rfl)) (ty := .int) (by decide) rfl rfl (g := (mkF m 12 #[.val (.ref a0), .val (.ref a1), .val (.int p2), .val (.int p3)] [(.int p3), (.ref a0)])) rfl rfl (hb hby d3_12)
  have f12 := f10.same W11
  have f13 := f8.wr W11
  have f14 := f9.other W11 (Or.inr (slot_ne (Or.inl (hw _ (List.mem_of_getElem? (i := 11) rfl))) (Or.inl (hw _ (List.mem_of_getElem? (i := 20) rfl))) (by decide) (t := (.array .byte)) (t' := .int) (by decide) (by decide)))
  have f15 := f7.other W11 (Or.inr (slot_ne (Or.inl (hw _ (List.mem_of_getElem? (i := 18) rfl))) (Or.inl (hw _ (List.mem_of_getElem? (i := 20) rfl))) (by decide) (t := .int) (t' := .int) (by decide) (by decide)))
  have N11 := Fr.snoc X11 N6 g_a0
  have K11 : Keep h0 h11 [a0] := Keep.wr K6 W11 (Or.inl (List.mem_of_getElem? (i := 0) rfl))
  refine Go.of st11 ?_
  show Go p e below s _ _ _ (T11.setTop (mkF m 15 #[.val (.ref a0), .val (.ref a1), .val (.int p2), .val (.int p3)] []))
  exact Go.ret X11 none (fun _ => rfl) hlk (by rw [e11]; exact ⟨rfl, N11, K11, f13, f14, f15, f12⟩) (by decide) (by decide) (fun fs hr => (X11.returnOut hx Bd.returns (hb hby d3_15) hr))
theorem own_pn1 : plainName "com/example/tallyfold/tallyfold/BytesContainsPinLaw" = true := by first | (simp [plainName, overriddenIn]; done) | decide +kernel
theorem d4_0 : decode method_3_code 0 = .ok (.iload_n 1, 1) := by decide +kernel
theorem d4_1 : decode method_3_code 1 = .ok (.iload_n 3, 1) := by decide +kernel
theorem d4_2 : decode method_3_code 2 = .ok (.if_icmp .gt 20, 3) := by decide +kernel
theorem d4_5 : decode method_3_code 5 = .ok (.iload_n 3, 1) := by decide +kernel
theorem d4_6 : decode method_3_code 6 = .ok (.iload_n 2, 1) := by decide +kernel
theorem d4_7 : decode method_3_code 7 = .ok (.if_icmp .ge 15, 3) := by decide +kernel
theorem d4_10 : decode method_3_code 10 = .ok (.aload_n 0, 1) := by decide +kernel
theorem d4_11 : decode method_3_code 11 = .ok (.iload_n 3, 1) := by decide +kernel
theorem d4_12 : decode method_3_code 12 = .ok (.baload, 1) := by decide +kernel
theorem d4_13 : decode method_3_code 13 = .ok (.iload 4, 2) := by decide +kernel
theorem d4_15 : decode method_3_code 15 = .ok (.if_icmp .ne 7, 3) := by decide +kernel
theorem d4_18 : decode method_3_code 18 = .ok (.iconst 1, 1) := by decide +kernel
theorem d4_19 : decode method_3_code 19 = .ok (.goto 4, 3) := by decide +kernel
theorem d4_22 : decode method_3_code 22 = .ok (.iconst 0, 1) := by decide +kernel
theorem d4_23 : decode method_3_code 23 = .ok (.ireturn, 1) := by decide +kernel
theorem ef_4 (m : MethodId) (a0 : Addr) (p1 : Int32) (p2 : Int32) (p3 : Int32) (p4 : Int32) : entryFrame m #[(.ref a0), (.int p1), (.int p2), (.int p3), (.int p4)] 5 = mkF m 0 #[.val (.ref a0), .val (.int p1), .val (.int p2), .val (.int p3), .val (.int p4)] [] := by first | (simp [entryFrame, mkF, argsToLocals, Value.category]; done) | rfl
def F4 (p1 : Int32) (p2 : Int32) (p3 : Int32) (p4 : Int32) (L_a0 : List Int32) : Int32 := (if p3 < p1 then (0 : Int32) else (if p3 < p2 then (if (L_a0.getD (p3).toNatClampNeg 0) = p4 then (1 : Int32) else (0 : Int32)) else (0 : Int32)))
set_option maxRecDepth 65536 in
set_option maxHeartbeats 40000000 in
theorem rm4 (l : Launch) (Z : State) (az : Array Value) (hw : ∀ d ∈ tables_1, d.before az Z = true) (ws : List Jvm.Cond) (a0 : Addr) (p1 : Int32) (p2 : Int32) (p3 : Int32) (p4 : Int32) (k_a0 : ClassId) (L_a0 : List Int32) (h0 : Heap) (n0 : Nat) (Z0 : n0 ≤ h0.size) (V_a0 : Arv Z h0 a0 k_a0 .byte (5 : Int32) (L_a0.map Value.int) (.int (0 : Int32))) (hj : ¬ (p3 < 0) ∧ p3 < (5 : Int32)) :
    MetFree l (⟨"com/example/tallyfold/tallyfold/BytesContainsPinLaw", "hit", "([BIIIB)Z"⟩ : MethodName) (head1 (Jvm.Cond.code (⟨"com/example/tallyfold/tallyfold/BytesContainsPinLaw", "hit", "([BIIIB)Z"⟩ : MethodName) method_3_code 5 (some .boolean) :: ws) ({ frames := 0, cells := 0, slots := 0, locals := 0 } : Room)) (fun a U => a = #[(.ref a0), (.int p1), (.int p2), (.int p3), (.int p4)] ∧ Z.Warmed39 U.vm ∧ U.heap = h0) (fun _ _ _ _ _ => True) (fun _ U o U' => ∃ v L, o = .returned v ∧ (QP (some (.int (F4 p1 p2 p3 p4 L_a0))) h0 n0) v U'.heap L ∧ FrameEnd U o U' L ({ frames := 0, cells := 0, slots := 0, locals := 0 } : Room).cells ({ frames := 0, cells := 0, slots := 0, locals := 0 } : Room).slots) := by
  refine MetFree.of_bodySF (plainFor_of_name own_pn1) hisR ?_
  intro p e s m args below meth c s₁ Bd hml0 hP hK
  obtain ⟨rfl, hZ, hh⟩ := hP
  have hx := Bd.exec
  have hby := Bd.bytes
  have hml : c.maxLocals = 5 := hml0
  have hown : s.vm.findClass "com/example/tallyfold/tallyfold/BytesContainsPinLaw" = some m.cls := findClass_of_methodNamed Bd.named
  have hnm := (name_of_methodNamed Bd.named Bd.method).1
  have hlk : meth.locks = false := BodyLoose.notSynchronized Bd
  have X0 : Stand p l e ({ frames := 0, cells := 0, slots := 0, locals := 0 } : Room) s m #[(.ref a0), (.int p1), (.int p2), (.int p3), (.int p4)] below meth c s₁ [] 0 0 := Stand.of_body Bd
  have e0 : s₁.heap = h0 := by rw [← hh, Bd.state]; rfl
  have N0 := Fr.nil n0
  show Go p e below s (QP (some (.int (F4 p1 p2 p3 p4 L_a0))) h0 n0) ({ frames := 0, cells := 0, slots := 0, locals := 0 } : Room).cells ({ frames := 0, cells := 0, slots := 0, locals := 0 } : Room).slots (s₁.setTop (entryFrame m #[(.ref a0), (.int p1), (.int p2), (.int p3), (.int p4)] 5))
  refine Go.of (fun t k => castTop (ef_4 m a0 p1 p2 p3 p4) k) ?_
  show Go p e below s _ _ _ (s₁.setTop (mkF m 0 #[.val (.ref a0), .val (.int p1), .val (.int p2), .val (.int p3), .val (.int p4)] []))
  unfold F4
  refine Go.of (fun t k => XS.iloadN X0.here hx rfl (hb hby d4_0) rfl k) ?_
  show Go p e below s _ _ _ (s₁.setTop (mkF m 1 #[.val (.ref a0), .val (.int p1), .val (.int p2), .val (.int p3), .val (.int p4)] [(.int p1)]))
  refine Go.of (fun t k => XS.iloadN X0.here hx rfl (hb hby d4_1) rfl k) ?_
  show Go p e below s _ _ _ (s₁.setTop (mkF m 2 #[.val (.ref a0), .val (.int p1), .val (.int p2), .val (.int p3), .val (.int p4)] [(.int p3), (.int p1)]))
  by_cases hc2_1 : p3 < p1
  · rewrite [if_pos hc2_1]
    refine Go.of (fun t k => XS.icmpYes X0.here hx rfl (pc0 := 2) (pc' := 22) rfl (hb hby d4_2) rfl (tlt hc2_1).2.2.1 (by decide) (by decide) k) ?_
    show Go p e below s _ _ _ (s₁.setTop (mkF m 22 #[.val (.ref a0), .val (.int p1), .val (.int p2), .val (.int p3), .val (.int p4)] []))
    refine Go.of (fun t k => XS.iconst X0.here hx rfl (hb hby d4_22) k) ?_
    show Go p e below s _ _ _ (s₁.setTop (mkF m 23 #[.val (.ref a0), .val (.int p1), .val (.int p2), .val (.int p3), .val (.int p4)] [(.int (0 : Int32))]))
    exact Go.ret X0 (some (.int (0 : Int32))) (fun h => by rw [Bd.returns] at h; cases h) hlk ⟨rfl, N0, e0⟩ (by decide) (by decide) (fun fs hr => (retN X0 hx (t := .boolean) Bd.returns (by simp) (hb hby d4_23) hr))
  · rewrite [if_neg hc2_1]
    refine Go.of (fun t k => XS.icmpNo X0.here hx rfl (hb hby d4_2) rfl (flt hc2_1).2.2.1 k) ?_
    show Go p e below s _ _ _ (s₁.setTop (mkF m 5 #[.val (.ref a0), .val (.int p1), .val (.int p2), .val (.int p3), .val (.int p4)] []))
    refine Go.of (fun t k => XS.iloadN X0.here hx rfl (hb hby d4_5) rfl k) ?_
    show Go p e below s _ _ _ (s₁.setTop (mkF m 6 #[.val (.ref a0), .val (.int p1), .val (.int p2), .val (.int p3), .val (.int p4)] [(.int p3)]))
    refine Go.of (fun t k => XS.iloadN X0.here hx rfl (hb hby d4_6) rfl k) ?_
    show Go p e below s _ _ _ (s₁.setTop (mkF m 7 #[.val (.ref a0), .val (.int p1), .val (.int p2), .val (.int p3), .val (.int p4)] [(.int p2), (.int p3)]))
    by_cases hc7_2 : p3 < p2
    · rewrite [if_pos hc7_2]
      refine Go.of (fun t k => XS.icmpNo X0.here hx rfl (hb hby d4_7) rfl (tlt hc7_2).2.1 k) ?_
      show Go p e below s _ _ _ (s₁.setTop (mkF m 10 #[.val (.ref a0), .val (.int p1), .val (.int p2), .val (.int p3), .val (.int p4)] []))
      refine Go.of (fun t k => XS.aloadN X0.here hx rfl (hb hby d4_10) rfl rfl k) ?_
      show Go p e below s _ _ _ (s₁.setTop (mkF m 11 #[.val (.ref a0), .val (.int p1), .val (.int p2), .val (.int p3), .val (.int p4)] [(.ref a0)]))
      refine Go.of (fun t k => XS.iloadN X0.here hx rfl (hb hby d4_11) rfl k) ?_
      show Go p e below s _ _ _ (s₁.setTop (mkF m 12 #[.val (.ref a0), .val (.int p1), .val (.int p2), .val (.int p3), .val (.int p4)] [(.int p3), (.ref a0)]))
      obtain ⟨cl3, Ar3, q3, S3, M3, H3, G3⟩ := id V_a0
      have hin3 : ¬ (p3 < 0 ∨ cl3.slots.size ≤ (p3).toNatClampNeg) := (inb_of S3 hj)
      refine Go.of (X0.baloadBytes hx (j := p3) (v := (.int (L_a0.getD (p3).toNatClampNeg 0))) (by rw [e0]; exact Ar3.1) (State.isArrayOf_alike hZ.alike Ar3.2.1) Ar3.2.2 hin3 (Has.at H3 hin3 (own_getDI L_a0 _)) (g := (mkF m 12 #[.val (.ref a0), .val (.int p1), .val (.int p2), .val (.int p3), .val (.int p4)] [(.int p3), (.ref a0)])) rfl rfl (hb hby d4_12)) ?_
      show Go p e below s _ _ _ (s₁.setTop (mkF m 13 #[.val (.ref a0), .val (.int p1), .val (.int p2), .val (.int p3), .val (.int p4)] [(.int (L_a0.getD (p3).toNatClampNeg 0))]))
      refine Go.of (fun t k => XS.iload X0.here hx rfl (hb hby d4_13) rfl k) ?_
      show Go p e below s _ _ _ (s₁.setTop (mkF m 15 #[.val (.ref a0), .val (.int p1), .val (.int p2), .val (.int p3), .val (.int p4)] [(.int p4), (.int (L_a0.getD (p3).toNatClampNeg 0))]))
      by_cases hc15_4 : (L_a0.getD (p3).toNatClampNeg 0) = p4
      · rewrite [if_pos hc15_4]
        refine Go.of (fun t k => XS.icmpNo X0.here hx rfl (hb hby d4_15) rfl (teq hc15_4).2 k) ?_
        show Go p e below s _ _ _ (s₁.setTop (mkF m 18 #[.val (.ref a0), .val (.int p1), .val (.int p2), .val (.int p3), .val (.int p4)] []))
        refine Go.of (fun t k => XS.iconst X0.here hx rfl (hb hby d4_18) k) ?_
        show Go p e below s _ _ _ (s₁.setTop (mkF m 19 #[.val (.ref a0), .val (.int p1), .val (.int p2), .val (.int p3), .val (.int p4)] [(.int (1 : Int32))]))
        refine Go.of (fun t k => XS.goto X0.here hx rfl (pc0 := 19) (pc' := 23) rfl (hb hby d4_19) (by decide) (by decide) k) ?_
        show Go p e below s _ _ _ (s₁.setTop (mkF m 23 #[.val (.ref a0), .val (.int p1), .val (.int p2), .val (.int p3), .val (.int p4)] [(.int (1 : Int32))]))
        exact Go.ret X0 (some (.int (1 : Int32))) (fun h => by rw [Bd.returns] at h; cases h) hlk ⟨rfl, N0, e0⟩ (by decide) (by decide) (fun fs hr => (retN X0 hx (t := .boolean) Bd.returns (by simp) (hb hby d4_23) hr))
      · rewrite [if_neg hc15_4]
        refine Go.of (fun t k => XS.icmpYes X0.here hx rfl (pc0 := 15) (pc' := 22) rfl (hb hby d4_15) rfl (feq hc15_4).2 (by decide) (by decide) k) ?_
        show Go p e below s _ _ _ (s₁.setTop (mkF m 22 #[.val (.ref a0), .val (.int p1), .val (.int p2), .val (.int p3), .val (.int p4)] []))
        refine Go.of (fun t k => XS.iconst X0.here hx rfl (hb hby d4_22) k) ?_
        show Go p e below s _ _ _ (s₁.setTop (mkF m 23 #[.val (.ref a0), .val (.int p1), .val (.int p2), .val (.int p3), .val (.int p4)] [(.int (0 : Int32))]))
        exact Go.ret X0 (some (.int (0 : Int32))) (fun h => by rw [Bd.returns] at h; cases h) hlk ⟨rfl, N0, e0⟩ (by decide) (by decide) (fun fs hr => (retN X0 hx (t := .boolean) Bd.returns (by simp) (hb hby d4_23) hr))
    · rewrite [if_neg hc7_2]
      refine Go.of (fun t k => XS.icmpYes X0.here hx rfl (pc0 := 7) (pc' := 22) rfl (hb hby d4_7) rfl (flt hc7_2).2.1 (by decide) (by decide) k) ?_
      show Go p e below s _ _ _ (s₁.setTop (mkF m 22 #[.val (.ref a0), .val (.int p1), .val (.int p2), .val (.int p3), .val (.int p4)] []))
      refine Go.of (fun t k => XS.iconst X0.here hx rfl (hb hby d4_22) k) ?_
      show Go p e below s _ _ _ (s₁.setTop (mkF m 23 #[.val (.ref a0), .val (.int p1), .val (.int p2), .val (.int p3), .val (.int p4)] [(.int (0 : Int32))]))
      exact Go.ret X0 (some (.int (0 : Int32))) (fun h => by rw [Bd.returns] at h; cases h) hlk ⟨rfl, N0, e0⟩ (by decide) (by decide) (fun fs hr => (retN X0 hx (t := .boolean) Bd.returns (by simp) (hb hby d4_23) hr))
theorem d5_0 : decode prog_1_method_18_code 0 = .ok (.aload_n 0, 1) := by decide +kernel
theorem d5_1 : decode prog_1_method_18_code 1 = .ok (.getfield 13, 3) := by decide +kernel
theorem d5_4 : decode prog_1_method_18_code 4 = .ok (.istore_n 2, 1) := by decide +kernel
theorem d5_5 : decode prog_1_method_18_code 5 = .ok (.iload_n 2, 1) := by decide +kernel
theorem d5_6 : decode prog_1_method_18_code 6 = .ok (.aload_n 0, 1) := by decide +kernel
theorem d5_7 : decode prog_1_method_18_code 7 = .ok (.getfield 17, 3) := by decide +kernel
theorem d5_10 : decode prog_1_method_18_code 10 = .ok (.if_icmp .ge 21, 3) := by decide +kernel
theorem d5_13 : decode prog_1_method_18_code 13 = .ok (.aload_n 0, 1) := by decide +kernel
theorem d5_14 : decode prog_1_method_18_code 14 = .ok (.getfield 7, 3) := by decide +kernel
theorem d5_17 : decode prog_1_method_18_code 17 = .ok (.iload_n 2, 1) := by decide +kernel
theorem d5_18 : decode prog_1_method_18_code 18 = .ok (.baload, 1) := by decide +kernel
theorem d5_19 : decode prog_1_method_18_code 19 = .ok (.iload_n 1, 1) := by decide +kernel
theorem d5_20 : decode prog_1_method_18_code 20 = .ok (.if_icmp .ne 5, 3) := by decide +kernel
theorem d5_23 : decode prog_1_method_18_code 23 = .ok (.iconst 1, 1) := by decide +kernel
theorem d5_24 : decode prog_1_method_18_code 24 = .ok (.ireturn, 1) := by decide +kernel
theorem d5_25 : decode prog_1_method_18_code 25 = .ok (.iinc 2 1, 3) := by decide +kernel
theorem d5_28 : decode prog_1_method_18_code 28 = .ok (.goto (-23), 3) := by decide +kernel
theorem d5_31 : decode prog_1_method_18_code 31 = .ok (.iconst 0, 1) := by decide +kernel
theorem d5_32 : decode prog_1_method_18_code 32 = .ok (.ireturn, 1) := by decide +kernel
theorem ef_5 (m : MethodId) (a0 : Addr) (p1 : Int32) : entryFrame m #[(.ref a0), (.int p1)] 3 = mkF m 0 #[.val (.ref a0), .val (.int p1), .unset] [] := by first | (simp [entryFrame, mkF, argsToLocals, Value.category]; done) | rfl
def F5_5 (p1 : Int32) (u_end_a0 : Int32) (L_u_array_a0 : List Int32) : Nat → Int32 → Int32
  | 0, _ => 0
  | nn + 1, v2_5 => (if v2_5 < u_end_a0 then (if (L_u_array_a0.getD (v2_5).toNatClampNeg 0) = p1 then (1 : Int32) else (F5_5 p1 u_end_a0 L_u_array_a0 nn (v2_5 + (1 : Int32)))) else (0 : Int32))
def F5 (p1 : Int32) (u_start_a0 : Int32) (u_end_a0 : Int32) (L_u_array_a0 : List Int32) : Int32 := (F5_5 p1 u_end_a0 L_u_array_a0 6 u_start_a0)
set_option maxRecDepth 65536 in
set_option maxHeartbeats 40000000 in
theorem rm5 (l : Launch) (Z : State) (az : Array Value) (hw : ∀ d ∈ tables_1, d.before az Z = true) (ws : List Jvm.Cond) (a0 : Addr) (p1 : Int32) (u_array_a0 : Addr) (u_start_a0 : Int32) (u_end_a0 : Int32) (k_u_array_a0 : ClassId) (L_u_array_a0 : List Int32) (h0 : Heap) (n0 : Nat) (Z0 : n0 ≤ h0.size) (Fp_array_a0 : Fld Z h0 a0 "com/example/tallyfold/tallyfold/Bytes" "array" "[B" (.ref u_array_a0)) (Fp_start_a0 : Fld Z h0 a0 "com/example/tallyfold/tallyfold/Bytes" "start" "I" (.int u_start_a0)) (Fp_end_a0 : Fld Z h0 a0 "com/example/tallyfold/tallyfold/Bytes" "end" "I" (.int u_end_a0)) (V_u_array_a0 : Arv Z h0 u_array_a0 k_u_array_a0 .byte (5 : Int32) (L_u_array_a0.map Value.int) (.int (0 : Int32))) (hse : 0 ≤ u_start_a0.toInt ∧ u_start_a0.toInt ≤ u_end_a0.toInt ∧ u_end_a0.toInt ≤ 5) :
    MetFree l (⟨"com/example/tallyfold/tallyfold/Bytes", "contains", "(B)Z"⟩ : MethodName) (head1 (Jvm.Cond.code (⟨"com/example/tallyfold/tallyfold/Bytes", "contains", "(B)Z"⟩ : MethodName) prog_1_method_18_code 3 (some .boolean) :: ws) ({ frames := 0, cells := 0, slots := 0, locals := 0 } : Room)) (fun a U => a = #[(.ref a0), (.int p1)] ∧ Z.Warmed39 U.vm ∧ U.heap = h0) (fun _ _ _ _ _ => True) (fun _ U o U' => ∃ v L, o = .returned v ∧ (QP (some (.int (F5 p1 u_start_a0 u_end_a0 L_u_array_a0))) h0 n0) v U'.heap L ∧ FrameEnd U o U' L ({ frames := 0, cells := 0, slots := 0, locals := 0 } : Room).cells ({ frames := 0, cells := 0, slots := 0, locals := 0 } : Room).slots) := by
  refine MetFree.of_bodySF (plainFor_of_name own_pn0) hisR ?_
  intro p e s m args below meth c s₁ Bd hml0 hP hK
  obtain ⟨rfl, hZ, hh⟩ := hP
  have hx := Bd.exec
  have hby := Bd.bytes
  have hml : c.maxLocals = 3 := hml0
  have hown : s.vm.findClass "com/example/tallyfold/tallyfold/Bytes" = some m.cls := findClass_of_methodNamed Bd.named
  have hnm := (name_of_methodNamed Bd.named Bd.method).1
  have hlk : meth.locks = false := BodyLoose.notSynchronized Bd
  have X0 : Stand p l e ({ frames := 0, cells := 0, slots := 0, locals := 0 } : Room) s m #[(.ref a0), (.int p1)] below meth c s₁ [] 0 0 := Stand.of_body Bd
  have e0 : s₁.heap = h0 := by rw [← hh, Bd.state]; rfl
  have N0 := Fr.nil n0
  show Go p e below s (QP (some (.int (F5 p1 u_start_a0 u_end_a0 L_u_array_a0))) h0 n0) ({ frames := 0, cells := 0, slots := 0, locals := 0 } : Room).cells ({ frames := 0, cells := 0, slots := 0, locals := 0 } : Room).slots (s₁.setTop (entryFrame m #[(.ref a0), (.int p1)] 3))
  refine Go.of (fun t k => castTop (ef_5 m a0 p1) k) ?_
  show Go p e below s _ _ _ (s₁.setTop (mkF m 0 #[.val (.ref a0), .val (.int p1), .unset] []))
  unfold F5
  refine Go.of (fun t k => XS.aloadN X0.here hx rfl (hb hby d5_0) rfl rfl k) ?_
  show Go p e below s _ _ _ (s₁.setTop (mkF m 1 #[.val (.ref a0), .val (.int p1), .unset] [(.ref a0)]))
  obtain ⟨T1, X1, e1, st1⟩ := getF X0 hx hZ hown (host := "") (Or.inl (hw _ (List.mem_of_getElem? (i := 17) rfl))) Via.refl e0 Fp_start_a0 (g := (mkF m 1 #[.val (.ref a0), .val (.int p1), .unset] [(.ref a0)])) rfl rfl (hb hby d5_1)
  refine Go.of st1 ?_
  show Go p e below s _ _ _ (T1.setTop (mkF m 4 #[.val (.ref a0), .val (.int p1), .unset] [(.int u_start_a0)]))
  refine Go.of (fun t k => XS.istoreN X1.here hx rfl (hb hby d5_4) rfl (l' := #[.val (.ref a0), .val (.int p1), .val (.int u_start_a0)]) rfl k) ?_
  show Go p e below s _ _ _ (T1.setTop (mkF m 5 #[.val (.ref a0), .val (.int p1), .val (.int u_start_a0)] []))
  have jn5 : ∀ (nn : Nat), ∀ (v2_5 : Int32) (T_5 : State) (l_5 : List Loc) (X_5 : Stand p l e ({ frames := 0, cells := 0, slots := 0, locals := 0 } : Room) s m #[(.ref a0), (.int p1)] below meth c T_5 l_5 0 0) (e_5 : T_5.heap = h0) (N_5 : Fr n0 l_5) (hI_5 : (0 ≤ v2_5.toInt ∧ v2_5.toInt ≤ u_end_a0.toInt) ∧ (u_end_a0.toInt - v2_5.toInt).toNat < nn), Go p e below s (QP (some (.int (F5_5 p1 u_end_a0 L_u_array_a0 nn v2_5))) h0 n0) ({ frames := 0, cells := 0, slots := 0, locals := 0 } : Room).cells ({ frames := 0, cells := 0, slots := 0, locals := 0 } : Room).slots (T_5.setTop (mkF m 5 #[.val (.ref a0), .val (.int p1), .val (.int v2_5)] [])) := by
    intro nn
    induction nn with
    | zero =>
      intro v2_5 T_5 l_5 X_5 e_5 N_5 hI_5
      exact absurd hI_5.2 (Nat.not_lt_zero _)
    | succ nn ih =>
      intro v2_5 T_5 l_5 X_5 e_5 N_5 hI_5
      rewrite [F5_5]
      refine Go.of (fun t k => XS.iloadN X_5.here hx rfl (hb hby d5_5) rfl k) ?_
      show Go p e below s _ _ _ (T_5.setTop (mkF m 6 #[.val (.ref a0), .val (.int p1), .val (.int v2_5)] [(.int v2_5)]))
      refine Go.of (fun t k => XS.aloadN X_5.here hx rfl (hb hby d5_6) rfl rfl k) ?_
      show Go p e below s _ _ _ (T_5.setTop (mkF m 7 #[.val (.ref a0), .val (.int p1), .val (.int v2_5)] [(.ref a0), (.int v2_5)]))
      obtain ⟨T2, X2, e2, st2⟩ := getF X_5 hx hZ hown (host := "") (Or.inl (hw _ (List.mem_of_getElem? (i := 19) rfl))) Via.refl e_5 Fp_end_a0 (g := (mkF m 7 #[.val (.ref a0), .val (.int p1), .val (.int v2_5)] [(.ref a0), (.int v2_5)])) rfl rfl (hb hby d5_7)
      refine Go.of st2 ?_
      show Go p e below s _ _ _ (T2.setTop (mkF m 10 #[.val (.ref a0), .val (.int p1), .val (.int v2_5)] [(.int u_end_a0), (.int v2_5)]))
      by_cases hc10_3 : v2_5 < u_end_a0
      · rewrite [if_pos hc10_3]
        refine Go.of (fun t k => XS.icmpNo X2.here hx rfl (hb hby d5_10) rfl (tlt hc10_3).2.1 k) ?_
        show Go p e below s _ _ _ (T2.setTop (mkF m 13 #[.val (.ref a0), .val (.int p1), .val (.int v2_5)] []))
        refine Go.of (fun t k => XS.aloadN X2.here hx rfl (hb hby d5_13) rfl rfl k) ?_
        show Go p e below s _ _ _ (T2.setTop (mkF m 14 #[.val (.ref a0), .val (.int p1), .val (.int v2_5)] [(.ref a0)]))
        obtain ⟨T4, X4, e4, st4⟩ := getF X2 hx hZ hown (host := "") (Or.inl (hw _ (List.mem_of_getElem? (i := 10) rfl))) Via.refl e2 Fp_array_a0 (g := (mkF m 14 #[.val (.ref a0), .val (.int p1), .val (.int v2_5)] [(.ref a0)])) rfl rfl (hb hby d5_14)
        refine Go.of st4 ?_
        show Go p e below s _ _ _ (T4.setTop (mkF m 17 #[.val (.ref a0), .val (.int p1), .val (.int v2_5)] [(.ref u_array_a0)]))
        refine Go.of (fun t k => XS.iloadN X4.here hx rfl (hb hby d5_17) rfl k) ?_
        show Go p e below s _ _ _ (T4.setTop (mkF m 18 #[.val (.ref a0), .val (.int p1), .val (.int v2_5)] [(.int v2_5), (.ref u_array_a0)]))
        obtain ⟨cl5, Ar5, q5, S5, M5, H5, G5⟩ := id V_u_array_a0
        have hin5 : ¬ (v2_5 < 0 ∨ cl5.slots.size ≤ (v2_5).toNatClampNeg) := (inb_of S5 (own_in hI_5.1 hse hc10_3))
        refine Go.of (X4.baloadBytes hx (j := v2_5) (v := (.int (L_u_array_a0.getD (v2_5).toNatClampNeg 0))) (by rw [e4]; exact Ar5.1) (State.isArrayOf_alike hZ.alike Ar5.2.1) Ar5.2.2 hin5 (Has.at H5 hin5 (own_getDI L_u_array_a0 _)) (g := (mkF m 18 #[.val (.ref a0), .val (.int p1), .val (.int v2_5)] [(.int v2_5), (.ref u_array_a0)])) rfl rfl (hb hby d5_18)) ?_
        show Go p e below s _ _ _ (T4.setTop (mkF m 19 #[.val (.ref a0), .val (.int p1), .val (.int v2_5)] [(.int (L_u_array_a0.getD (v2_5).toNatClampNeg 0))]))
        refine Go.of (fun t k => XS.iloadN X4.here hx rfl (hb hby d5_19) rfl k) ?_
        show Go p e below s _ _ _ (T4.setTop (mkF m 20 #[.val (.ref a0), .val (.int p1), .val (.int v2_5)] [(.int p1), (.int (L_u_array_a0.getD (v2_5).toNatClampNeg 0))]))
        by_cases hc20_6 : (L_u_array_a0.getD (v2_5).toNatClampNeg 0) = p1
        · rewrite [if_pos hc20_6]
          refine Go.of (fun t k => XS.icmpNo X4.here hx rfl (hb hby d5_20) rfl (teq hc20_6).2 k) ?_
          show Go p e below s _ _ _ (T4.setTop (mkF m 23 #[.val (.ref a0), .val (.int p1), .val (.int v2_5)] []))
          refine Go.of (fun t k => XS.iconst X4.here hx rfl (hb hby d5_23) k) ?_
          show Go p e below s _ _ _ (T4.setTop (mkF m 24 #[.val (.ref a0), .val (.int p1), .val (.int v2_5)] [(.int (1 : Int32))]))
          exact Go.ret X4 (some (.int (1 : Int32))) (fun h => by rw [Bd.returns] at h; cases h) hlk ⟨rfl, N_5, e4⟩ (by decide) (by decide) (fun fs hr => (retN X4 hx (t := .boolean) Bd.returns (by simp) (hb hby d5_24) hr))
        · rewrite [if_neg hc20_6]
          refine Go.of (fun t k => XS.icmpYes X4.here hx rfl (pc0 := 20) (pc' := 25) rfl (hb hby d5_20) rfl (feq hc20_6).2 (by decide) (by decide) k) ?_
          show Go p e below s _ _ _ (T4.setTop (mkF m 25 #[.val (.ref a0), .val (.int p1), .val (.int v2_5)] []))
          refine Go.of (fun t k => XS.iinc X4.here hx rfl (hb hby d5_25) rfl (l' := #[.val (.ref a0), .val (.int p1), .val (.int (v2_5 + (1 : Int32)))]) rfl k) ?_
          show Go p e below s _ _ _ (T4.setTop (mkF m 28 #[.val (.ref a0), .val (.int p1), .val (.int (v2_5 + (1 : Int32)))] []))
          refine Go.of (fun t k => XS.goto X4.here hx rfl (pc0 := 28) (pc' := 5) rfl (hb hby d5_28) (by decide) (by decide) k) ?_
          show Go p e below s _ _ _ (T4.setTop (mkF m 5 #[.val (.ref a0), .val (.int p1), .val (.int (v2_5 + (1 : Int32)))] []))
          exact ih (v2_5 + (1 : Int32)) T4 _ X4 e4 N_5 (own_step hI_5 hse hc10_3)
      · rewrite [if_neg hc10_3]
        refine Go.of (fun t k => XS.icmpYes X2.here hx rfl (pc0 := 10) (pc' := 31) rfl (hb hby d5_10) rfl (flt hc10_3).2.1 (by decide) (by decide) k) ?_
        show Go p e below s _ _ _ (T2.setTop (mkF m 31 #[.val (.ref a0), .val (.int p1), .val (.int v2_5)] []))
        refine Go.of (fun t k => XS.iconst X2.here hx rfl (hb hby d5_31) k) ?_
        show Go p e below s _ _ _ (T2.setTop (mkF m 32 #[.val (.ref a0), .val (.int p1), .val (.int v2_5)] [(.int (0 : Int32))]))
        exact Go.ret X2 (some (.int (0 : Int32))) (fun h => by rw [Bd.returns] at h; cases h) hlk ⟨rfl, N_5, e2⟩ (by decide) (by decide) (fun fs hr => (retN X2 hx (t := .boolean) Bd.returns (by simp) (hb hby d5_32) hr))
  exact jn5 6 u_start_a0 T1 _ X1 e1 N0 (own_first hse)
theorem own_pd0 : parseMethodDescriptor "()V" = some ⟨[], none⟩ := by decide +kernel
theorem own_pd1 : parseMethodDescriptor "([BII)V" = some ⟨[(.array .byte), .int, .int], none⟩ := by decide +kernel
theorem own_pd2 : parseMethodDescriptor "([BIIIB)Z" = some ⟨[(.array .byte), .int, .int, .int, .byte], some .boolean⟩ := by decide +kernel
theorem own_pd3 : parseMethodDescriptor "(B)Z" = some ⟨[.byte], some .boolean⟩ := by decide +kernel
theorem ef_0 (m : MethodId) (q0 : Int64) (p1 : Int32) (p2 : Int32) : entryFrame m #[(.long q0), (.int p1), (.int p2)] maxLocals = mkF m 0 #[.val (.long q0), .second, .val (.int p1), .val (.int p2), .unset, .unset, .unset, .unset, .unset, .unset] [] := by first | (simp [entryFrame, mkF, argsToLocals, Value.category, maxLocals]; done) | rfl
def F0_206 (q0 : Int64) (v5_78c : Int32) (v6_78c : Int32) (v7_106 : Int32) (w0_206 : Int32) : Int32 := (if (F5 v7_106 v5_78c v6_78c [(nar .byte ((q0.toInt32).toInt8.toInt32)), (nar .byte ((((q0.toUInt64 >>> ((8 : Int32) &&& 0x3f).toInt64.toUInt64).toInt64).toInt32).toInt8.toInt32)), (nar .byte ((((q0.toUInt64 >>> ((16 : Int32) &&& 0x3f).toInt64.toUInt64).toInt64).toInt32).toInt8.toInt32)), (nar .byte ((((q0.toUInt64 >>> ((24 : Int32) &&& 0x3f).toInt64.toUInt64).toInt64).toInt32).toInt8.toInt32)), (nar .byte ((((q0.toUInt64 >>> ((32 : Int32) &&& 0x3f).toInt64.toUInt64).toInt64).toInt32).toInt8.toInt32))]) = w0_206 then (1 : Int32) else (0 : Int32))
def F0_201 (q0 : Int64) (v5_78c : Int32) (v6_78c : Int32) (v7_106 : Int32) : Int32 := (F0_206 q0 v5_78c v6_78c v7_106 (1 : Int32))
def F0_106 (q0 : Int64) (v5_78c : Int32) (v6_78c : Int32) (v7_106 : Int32) : Int32 := (if (F4 v5_78c v6_78c (0 : Int32) v7_106 [(nar .byte ((q0.toInt32).toInt8.toInt32)), (nar .byte ((((q0.toUInt64 >>> ((8 : Int32) &&& 0x3f).toInt64.toUInt64).toInt64).toInt32).toInt8.toInt32)), (nar .byte ((((q0.toUInt64 >>> ((16 : Int32) &&& 0x3f).toInt64.toUInt64).toInt64).toInt32).toInt8.toInt32)), (nar .byte ((((q0.toUInt64 >>> ((24 : Int32) &&& 0x3f).toInt64.toUInt64).toInt64).toInt32).toInt8.toInt32)), (nar .byte ((((q0.toUInt64 >>> ((32 : Int32) &&& 0x3f).toInt64.toUInt64).toInt64).toInt32).toInt8.toInt32))]) = (0 : Int32) then (if (F4 v5_78c v6_78c (1 : Int32) v7_106 [(nar .byte ((q0.toInt32).toInt8.toInt32)), (nar .byte ((((q0.toUInt64 >>> ((8 : Int32) &&& 0x3f).toInt64.toUInt64).toInt64).toInt32).toInt8.toInt32)), (nar .byte ((((q0.toUInt64 >>> ((16 : Int32) &&& 0x3f).toInt64.toUInt64).toInt64).toInt32).toInt8.toInt32)), (nar .byte ((((q0.toUInt64 >>> ((24 : Int32) &&& 0x3f).toInt64.toUInt64).toInt64).toInt32).toInt8.toInt32)), (nar .byte ((((q0.toUInt64 >>> ((32 : Int32) &&& 0x3f).toInt64.toUInt64).toInt64).toInt32).toInt8.toInt32))]) = (0 : Int32) then (if (F4 v5_78c v6_78c (2 : Int32) v7_106 [(nar .byte ((q0.toInt32).toInt8.toInt32)), (nar .byte ((((q0.toUInt64 >>> ((8 : Int32) &&& 0x3f).toInt64.toUInt64).toInt64).toInt32).toInt8.toInt32)), (nar .byte ((((q0.toUInt64 >>> ((16 : Int32) &&& 0x3f).toInt64.toUInt64).toInt64).toInt32).toInt8.toInt32)), (nar .byte ((((q0.toUInt64 >>> ((24 : Int32) &&& 0x3f).toInt64.toUInt64).toInt64).toInt32).toInt8.toInt32)), (nar .byte ((((q0.toUInt64 >>> ((32 : Int32) &&& 0x3f).toInt64.toUInt64).toInt64).toInt32).toInt8.toInt32))]) = (0 : Int32) then (if (F4 v5_78c v6_78c (3 : Int32) v7_106 [(nar .byte ((q0.toInt32).toInt8.toInt32)), (nar .byte ((((q0.toUInt64 >>> ((8 : Int32) &&& 0x3f).toInt64.toUInt64).toInt64).toInt32).toInt8.toInt32)), (nar .byte ((((q0.toUInt64 >>> ((16 : Int32) &&& 0x3f).toInt64.toUInt64).toInt64).toInt32).toInt8.toInt32)), (nar .byte ((((q0.toUInt64 >>> ((24 : Int32) &&& 0x3f).toInt64.toUInt64).toInt64).toInt32).toInt8.toInt32)), (nar .byte ((((q0.toUInt64 >>> ((32 : Int32) &&& 0x3f).toInt64.toUInt64).toInt64).toInt32).toInt8.toInt32))]) = (0 : Int32) then (if (F4 v5_78c v6_78c (4 : Int32) v7_106 [(nar .byte ((q0.toInt32).toInt8.toInt32)), (nar .byte ((((q0.toUInt64 >>> ((8 : Int32) &&& 0x3f).toInt64.toUInt64).toInt64).toInt32).toInt8.toInt32)), (nar .byte ((((q0.toUInt64 >>> ((16 : Int32) &&& 0x3f).toInt64.toUInt64).toInt64).toInt32).toInt8.toInt32)), (nar .byte ((((q0.toUInt64 >>> ((24 : Int32) &&& 0x3f).toInt64.toUInt64).toInt64).toInt32).toInt8.toInt32)), (nar .byte ((((q0.toUInt64 >>> ((32 : Int32) &&& 0x3f).toInt64.toUInt64).toInt64).toInt32).toInt8.toInt32))]) = (0 : Int32) then (F0_206 q0 v5_78c v6_78c v7_106 (0 : Int32)) else (F0_201 q0 v5_78c v6_78c v7_106)) else (F0_201 q0 v5_78c v6_78c v7_106)) else (F0_201 q0 v5_78c v6_78c v7_106)) else (F0_201 q0 v5_78c v6_78c v7_106)) else (F0_201 q0 v5_78c v6_78c v7_106))
def F0_78c (q0 : Int64) (p2 : Int32) (v5_78c : Int32) (v6_78c : Int32) : Int32 := (if (p2 &&& (1 : Int32)) = (0 : Int32) then (F0_106 q0 v5_78c v6_78c (((p2.toUInt32 >>> ((1 : Int32) &&& 31).toUInt32).toInt32).toInt8.toInt32)) else (F0_106 q0 v5_78c v6_78c ([(nar .byte ((q0.toInt32).toInt8.toInt32)), (nar .byte ((((q0.toUInt64 >>> ((8 : Int32) &&& 0x3f).toInt64.toUInt64).toInt64).toInt32).toInt8.toInt32)), (nar .byte ((((q0.toUInt64 >>> ((16 : Int32) &&& 0x3f).toInt64.toUInt64).toInt64).toInt32).toInt8.toInt32)), (nar .byte ((((q0.toUInt64 >>> ((24 : Int32) &&& 0x3f).toInt64.toUInt64).toInt64).toInt32).toInt8.toInt32)), (nar .byte ((((q0.toUInt64 >>> ((32 : Int32) &&& 0x3f).toInt64.toUInt64).toInt64).toInt32).toInt8.toInt32))].getD (((((p2.toUInt32 >>> ((1 : Int32) &&& 31).toUInt32).toInt32) &&& (7 : Int32)) % (5 : Int32))).toNatClampNeg 0)))
def F0 (q0 : Int64) (p1 : Int32) (p2 : Int32) : Int32 := (F0_78c q0 p2 ((p1 &&& (7 : Int32)) % (6 : Int32)) (((p1 &&& (7 : Int32)) % (6 : Int32)) + ((((p1.toUInt32 >>> ((3 : Int32) &&& 31).toUInt32).toInt32) &&& (7 : Int32)) % ((6 : Int32) - ((p1 &&& (7 : Int32)) % (6 : Int32))))))
set_option maxRecDepth 65536 in
set_option maxHeartbeats 40000000 in
theorem rm0 (l : Launch) (Z : State) (az : Array Value) (hw : ∀ d ∈ tables_1, d.before az Z = true) (ws : List Jvm.Cond) (q0 : Int64) (p1 : Int32) (p2 : Int32)  (h0 : Heap) (n0 : Nat) (Z0 : n0 ≤ h0.size) :
    MetFree l x (head1 (Jvm.Cond.code x code maxLocals ret :: ws) room_1) (fun a U => a = #[(.long q0), (.int p1), (.int p2)] ∧ Z.Warmed39 U.vm ∧ U.heap = h0) (fun _ _ _ _ _ => True) (fun _ U o U' => ∃ v L, o = .returned v ∧ (QL (some (.int (F0 q0 p1 p2))) n0) v U'.heap L ∧ FrameEnd U o U' L room_1.cells room_1.slots) := by
  refine MetFree.of_bodySF (plainFor_of_name own_pn1) hisR ?_
  intro p e s m args below meth c s₁ Bd hml0 hP hK
  obtain ⟨rfl, hZ, hh⟩ := hP
  have hx := Bd.exec
  have hby := Bd.bytes
  have hml : c.maxLocals = 10 := hml0
  have hown : s.vm.findClass "com/example/tallyfold/tallyfold/BytesContainsPinLaw" = some m.cls := findClass_of_methodNamed Bd.named
  have hnm := (name_of_methodNamed Bd.named Bd.method).1
  have hlk : meth.locks = false := BodyLoose.notSynchronized Bd
  have X0 : Stand p l e room_1 s m #[(.long q0), (.int p1), (.int p2)] below meth c s₁ [] 0 0 := Stand.of_body Bd
  have e0 : s₁.heap = h0 := by rw [← hh, Bd.state]; rfl
  have N0 := Fr.nil n0
  show Go p e below s (QL (some (.int (F0 q0 p1 p2))) n0) room_1.cells room_1.slots (s₁.setTop (entryFrame m #[(.long q0), (.int p1), (.int p2)] maxLocals))
  refine Go.of (fun t k => castTop (ef_0 m q0 p1 p2) k) ?_
  show Go p e below s _ _ _ (s₁.setTop (mkF m 0 #[.val (.long q0), .second, .val (.int p1), .val (.int p2), .unset, .unset, .unset, .unset, .unset, .unset] []))
  unfold F0
  refine Go.of (fun t k => XS.iconst X0.here hx rfl (hb hby at_0) k) ?_
  show Go p e below s _ _ _ (s₁.setTop (mkF m 1 #[.val (.long q0), .second, .val (.int p1), .val (.int p2), .unset, .unset, .unset, .unset, .unset, .unset] [(.int (5 : Int32))]))
  obtain ⟨T1, h1, k1, X1, e1, E1, A1, st1⟩ := newP X0 hx hZ (hw _ (List.mem_of_getElem? (i := 0) rfl)) e0 (g := (mkF m 1 #[.val (.long q0), .second, .val (.int p1), .val (.int p2), .unset, .unset, .unset, .unset, .unset, .unset] [(.int (5 : Int32))])) rfl (hb hby at_1) rfl (by decide) (cap := 5) (by decide) (by decide) (by decide) (by decide)
  obtain ⟨b1, ga1⟩ : ∃ z, z = h0.size := ⟨_, rfl⟩
  rw [← ga1] at A1 st1
  have g_b1 : n0 ≤ b1 := Nat.le_trans Z0 (Nat.le_of_eq ga1.symm)
  have sz_b1 : h0.size ≤ b1 := Nat.le_trans (Keep.refl h0 []).1 (Nat.le_of_eq ga1.symm)
  have f2 : Arv Z h1 b1 k1 .byte (5 : Int32) [(.int (0 : Int32)), (.int (0 : Int32)), (.int (0 : Int32)), (.int (0 : Int32)), (.int (0 : Int32))] (.int (0 : Int32)) := (Arv.new A1 (by decide)).pad (pad_rep [] (.int (0 : Int32)) 5)
  have K1 : Keep h0 h1 [] := Keep.ext (Keep.refl h0 []) E1
  refine Go.of st1 ?_
  show Go p e below s _ _ _ (T1.setTop (mkF m 3 #[.val (.long q0), .second, .val (.int p1), .val (.int p2), .unset, .unset, .unset, .unset, .unset, .unset] [(.ref b1)]))
  refine Go.of (fun t k => XS.astore X1.here hx rfl (hb hby at_3) rfl rfl (l' := #[.val (.long q0), .second, .val (.int p1), .val (.int p2), .val (.ref b1), .unset, .unset, .unset, .unset, .unset]) rfl k) ?_
  show Go p e below s _ _ _ (T1.setTop (mkF m 5 #[.val (.long q0), .second, .val (.int p1), .val (.int p2), .val (.ref b1), .unset, .unset, .unset, .unset, .unset] []))
  refine Go.of (fun t k => XS.aload X1.here hx rfl (hb hby at_5) rfl rfl k) ?_
  show Go p e below s _ _ _ (T1.setTop (mkF m 7 #[.val (.long q0), .second, .val (.int p1), .val (.int p2), .val (.ref b1), .unset, .unset, .unset, .unset, .unset] [(.ref b1)]))
  refine Go.of (fun t k => XS.iconst X1.here hx rfl (hb hby at_7) k) ?_
  show Go p e below s _ _ _ (T1.setTop (mkF m 8 #[.val (.long q0), .second, .val (.int p1), .val (.int p2), .val (.ref b1), .unset, .unset, .unset, .unset, .unset] [(.int (0 : Int32)), (.ref b1)]))
  refine Go.of (fun t k => XS.lloadN X1.here hx rfl (hb hby at_8) rfl k) ?_
  show Go p e below s _ _ _ (T1.setTop (mkF m 9 #[.val (.long q0), .second, .val (.int p1), .val (.int p2), .val (.ref b1), .unset, .unset, .unset, .unset, .unset] [(.long q0), (.int (0 : Int32)), (.ref b1)]))
  refine Go.of (fun t k => XS.l2i X1.here hx rfl (hb hby at_9) rfl k) ?_
  show Go p e below s _ _ _ (T1.setTop (mkF m 10 #[.val (.long q0), .second, .val (.int p1), .val (.int p2), .val (.ref b1), .unset, .unset, .unset, .unset, .unset] [(.int (q0.toInt32)), (.int (0 : Int32)), (.ref b1)]))
  refine Go.of (fun t k => XS.i2b X1.here hx rfl (hb hby at_10) rfl k) ?_
  show Go p e below s _ _ _ (T1.setTop (mkF m 11 #[.val (.long q0), .second, .val (.int p1), .val (.int p2), .val (.ref b1), .unset, .unset, .unset, .unset, .unset] [(.int ((q0.toInt32).toInt8.toInt32)), (.int (0 : Int32)), (.ref b1)]))
  obtain ⟨cl3, Ar3, q3, S3, M3, H3, G3⟩ := id f2
  have hin3 : ¬ ((0 : Int32) < 0 ∨ cl3.slots.size ≤ ((0 : Int32)).toNatClampNeg) := (inb_of S3 ⟨by decide, by decide⟩)
  obtain ⟨T3, h3, X3, e3, W3, st3⟩ := stB X1 hx hZ e1 Ar3 (j := (0 : Int32)) hin3 (g := (mkF m 11 #[.val (.long q0), .second, .val (.int p1), .val (.int p2), .val (.ref b1), .unset, .unset, .unset, .unset, .unset] [(.int ((q0.toInt32).toInt8.toInt32)), (.int (0 : Int32)), (.ref b1)])) rfl rfl (hb hby at_11)
  have f4 : Arv Z h3 b1 k1 .byte (5 : Int32) [(.int (nar .byte ((q0.toInt32).toInt8.toInt32))), (.int (0 : Int32)), (.int (0 : Int32)), (.int (0 : Int32)), (.int (0 : Int32))] (.int (0 : Int32)) := Arv.set Ar3 q3 S3 M3 H3 G3 (fits_nar_byte _) W3 0 rfl (Nat.le_of_ble_eq_true rfl)
  have N3 := Fr.snoc X3 N0 g_b1
  have K3 : Keep h0 h3 [] := Keep.wr K1 W3 (Or.inr sz_b1)
  refine Go.of st3 ?_
  show Go p e below s _ _ _ (T3.setTop (mkF m 12 #[.val (.long q0), .second, .val (.int p1), .val (.int p2), .val (.ref b1), .unset, .unset, .unset, .unset, .unset] []))
  refine Go.of (fun t k => XS.aload X3.here hx rfl (hb hby at_12) rfl rfl k) ?_
  show Go p e below s _ _ _ (T3.setTop (mkF m 14 #[.val (.long q0), .second, .val (.int p1), .val (.int p2), .val (.ref b1), .unset, .unset, .unset, .unset, .unset] [(.ref b1)]))
  refine Go.of (fun t k => XS.iconst X3.here hx rfl (hb hby at_14) k) ?_
  show Go p e below s _ _ _ (T3.setTop (mkF m 15 #[.val (.long q0), .second, .val (.int p1), .val (.int p2), .val (.ref b1), .unset, .unset, .unset, .unset, .unset] [(.int (1 : Int32)), (.ref b1)]))
  refine Go.of (fun t k => XS.lloadN X3.here hx rfl (hb hby at_15) rfl k) ?_
  show Go p e below s _ _ _ (T3.setTop (mkF m 16 #[.val (.long q0), .second, .val (.int p1), .val (.int p2), .val (.ref b1), .unset, .unset, .unset, .unset, .unset] [(.long q0), (.int (1 : Int32)), (.ref b1)]))
  refine Go.of (fun t k => XS.bipush X3.here hx rfl (hb hby at_16) k) ?_
  show Go p e below s _ _ _ (T3.setTop (mkF m 18 #[.val (.long q0), .second, .val (.int p1), .val (.int p2), .val (.ref b1), .unset, .unset, .unset, .unset, .unset] [(.int (8 : Int32)), (.long q0), (.int (1 : Int32)), (.ref b1)]))
  refine Go.of (fun t k => XS.lushr X3.here hx rfl (hb hby at_18) rfl k) ?_
  show Go p e below s _ _ _ (T3.setTop (mkF m 19 #[.val (.long q0), .second, .val (.int p1), .val (.int p2), .val (.ref b1), .unset, .unset, .unset, .unset, .unset] [(.long ((q0.toUInt64 >>> ((8 : Int32) &&& 0x3f).toInt64.toUInt64).toInt64)), (.int (1 : Int32)), (.ref b1)]))
  refine Go.of (fun t k => XS.l2i X3.here hx rfl (hb hby at_19) rfl k) ?_
  show Go p e below s _ _ _ (T3.setTop (mkF m 20 #[.val (.long q0), .second, .val (.int p1), .val (.int p2), .val (.ref b1), .unset, .unset, .unset, .unset, .unset] [(.int (((q0.toUInt64 >>> ((8 : Int32) &&& 0x3f).toInt64.toUInt64).toInt64).toInt32)), (.int (1 : Int32)), (.ref b1)]))
  refine Go.of (fun t k => XS.i2b X3.here hx rfl (hb hby at_20) rfl k) ?_
  show Go p e below s _ _ _ (T3.setTop (mkF m 21 #[.val (.long q0), .second, .val (.int p1), .val (.int p2), .val (.ref b1), .unset, .unset, .unset, .unset, .unset] [(.int ((((q0.toUInt64 >>> ((8 : Int32) &&& 0x3f).toInt64.toUInt64).toInt64).toInt32).toInt8.toInt32)), (.int (1 : Int32)), (.ref b1)]))
  obtain ⟨cl5, Ar5, q5, S5, M5, H5, G5⟩ := id f4
  have hin5 : ¬ ((1 : Int32) < 0 ∨ cl5.slots.size ≤ ((1 : Int32)).toNatClampNeg) := (inb_of S5 ⟨by decide, by decide⟩)
  obtain ⟨T5, h5, X5, e5, W5, st5⟩ := stB X3 hx hZ e3 Ar5 (j := (1 : Int32)) hin5 (g := (mkF m 21 #[.val (.long q0), .second, .val (.int p1), .val (.int p2), .val (.ref b1), .unset, .unset, .unset, .unset, .unset] [(.int ((((q0.toUInt64 >>> ((8 : Int32) &&& 0x3f).toInt64.toUInt64).toInt64).toInt32).toInt8.toInt32)), (.int (1 : Int32)), (.ref b1)])) rfl rfl (hb hby at_21)
  have f6 : Arv Z h5 b1 k1 .byte (5 : Int32) [(.int (nar .byte ((q0.toInt32).toInt8.toInt32))), (.int (nar .byte ((((q0.toUInt64 >>> ((8 : Int32) &&& 0x3f).toInt64.toUInt64).toInt64).toInt32).toInt8.toInt32))), (.int (0 : Int32)), (.int (0 : Int32)), (.int (0 : Int32))] (.int (0 : Int32)) := Arv.set Ar5 q5 S5 M5 H5 G5 (fits_nar_byte _) W5 1 rfl (Nat.le_of_ble_eq_true rfl)
  have N5 := Fr.snoc X5 N3 g_b1
  have K5 : Keep h0 h5 [] := Keep.wr K3 W5 (Or.inr sz_b1)
  refine Go.of st5 ?_
  show Go p e below s _ _ _ (T5.setTop (mkF m 22 #[.val (.long q0), .second, .val (.int p1), .val (.int p2), .val (.ref b1), .unset, .unset, .unset, .unset, .unset] []))
  refine Go.of (fun t k => XS.aload X5.here hx rfl (hb hby at_22) rfl rfl k) ?_
  show Go p e below s _ _ _ (T5.setTop (mkF m 24 #[.val (.long q0), .second, .val (.int p1), .val (.int p2), .val (.ref b1), .unset, .unset, .unset, .unset, .unset] [(.ref b1)]))
  refine Go.of (fun t k => XS.iconst X5.here hx rfl (hb hby at_24) k) ?_
  show Go p e below s _ _ _ (T5.setTop (mkF m 25 #[.val (.long q0), .second, .val (.int p1), .val (.int p2), .val (.ref b1), .unset, .unset, .unset, .unset, .unset] [(.int (2 : Int32)), (.ref b1)]))
  refine Go.of (fun t k => XS.lloadN X5.here hx rfl (hb hby at_25) rfl k) ?_
  show Go p e below s _ _ _ (T5.setTop (mkF m 26 #[.val (.long q0), .second, .val (.int p1), .val (.int p2), .val (.ref b1), .unset, .unset, .unset, .unset, .unset] [(.long q0), (.int (2 : Int32)), (.ref b1)]))
  refine Go.of (fun t k => XS.bipush X5.here hx rfl (hb hby at_26) k) ?_
  show Go p e below s _ _ _ (T5.setTop (mkF m 28 #[.val (.long q0), .second, .val (.int p1), .val (.int p2), .val (.ref b1), .unset, .unset, .unset, .unset, .unset] [(.int (16 : Int32)), (.long q0), (.int (2 : Int32)), (.ref b1)]))
  refine Go.of (fun t k => XS.lushr X5.here hx rfl (hb hby at_28) rfl k) ?_
  show Go p e below s _ _ _ (T5.setTop (mkF m 29 #[.val (.long q0), .second, .val (.int p1), .val (.int p2), .val (.ref b1), .unset, .unset, .unset, .unset, .unset] [(.long ((q0.toUInt64 >>> ((16 : Int32) &&& 0x3f).toInt64.toUInt64).toInt64)), (.int (2 : Int32)), (.ref b1)]))
  refine Go.of (fun t k => XS.l2i X5.here hx rfl (hb hby at_29) rfl k) ?_
  show Go p e below s _ _ _ (T5.setTop (mkF m 30 #[.val (.long q0), .second, .val (.int p1), .val (.int p2), .val (.ref b1), .unset, .unset, .unset, .unset, .unset] [(.int (((q0.toUInt64 >>> ((16 : Int32) &&& 0x3f).toInt64.toUInt64).toInt64).toInt32)), (.int (2 : Int32)), (.ref b1)]))
  refine Go.of (fun t k => XS.i2b X5.here hx rfl (hb hby at_30) rfl k) ?_
  show Go p e below s _ _ _ (T5.setTop (mkF m 31 #[.val (.long q0), .second, .val (.int p1), .val (.int p2), .val (.ref b1), .unset, .unset, .unset, .unset, .unset] [(.int ((((q0.toUInt64 >>> ((16 : Int32) &&& 0x3f).toInt64.toUInt64).toInt64).toInt32).toInt8.toInt32)), (.int (2 : Int32)), (.ref b1)]))
  obtain ⟨cl7, Ar7, q7, S7, M7, H7, G7⟩ := id f6
  have hin7 : ¬ ((2 : Int32) < 0 ∨ cl7.slots.size ≤ ((2 : Int32)).toNatClampNeg) := (inb_of S7 ⟨by decide, by decide⟩)
  obtain ⟨T7, h7, X7, e7, W7, st7⟩ := stB X5 hx hZ e5 Ar7 (j := (2 : Int32)) hin7 (g := (mkF m 31 #[.val (.long q0), .second, .val (.int p1), .val (.int p2), .val (.ref b1), .unset, .unset, .unset, .unset, .unset] [(.int ((((q0.toUInt64 >>> ((16 : Int32) &&& 0x3f).toInt64.toUInt64).toInt64).toInt32).toInt8.toInt32)), (.int (2 : Int32)), (.ref b1)])) rfl rfl (hb hby at_31)
  have f8 : Arv Z h7 b1 k1 .byte (5 : Int32) [(.int (nar .byte ((q0.toInt32).toInt8.toInt32))), (.int (nar .byte ((((q0.toUInt64 >>> ((8 : Int32) &&& 0x3f).toInt64.toUInt64).toInt64).toInt32).toInt8.toInt32))), (.int (nar .byte ((((q0.toUInt64 >>> ((16 : Int32) &&& 0x3f).toInt64.toUInt64).toInt64).toInt32).toInt8.toInt32))), (.int (0 : Int32)), (.int (0 : Int32))] (.int (0 : Int32)) := Arv.set Ar7 q7 S7 M7 H7 G7 (fits_nar_byte _) W7 2 rfl (Nat.le_of_ble_eq_true rfl)
  have N7 := Fr.snoc X7 N5 g_b1
  have K7 : Keep h0 h7 [] := Keep.wr K5 W7 (Or.inr sz_b1)
  refine Go.of st7 ?_
  show Go p e below s _ _ _ (T7.setTop (mkF m 32 #[.val (.long q0), .second, .val (.int p1), .val (.int p2), .val (.ref b1), .unset, .unset, .unset, .unset, .unset] []))
  refine Go.of (fun t k => XS.aload X7.here hx rfl (hb hby at_32) rfl rfl k) ?_
  show Go p e below s _ _ _ (T7.setTop (mkF m 34 #[.val (.long q0), .second, .val (.int p1), .val (.int p2), .val (.ref b1), .unset, .unset, .unset, .unset, .unset] [(.ref b1)]))
  refine Go.of (fun t k => XS.iconst X7.here hx rfl (hb hby at_34) k) ?_
  show Go p e below s _ _ _ (T7.setTop (mkF m 35 #[.val (.long q0), .second, .val (.int p1), .val (.int p2), .val (.ref b1), .unset, .unset, .unset, .unset, .unset] [(.int (3 : Int32)), (.ref b1)]))
  refine Go.of (fun t k => XS.lloadN X7.here hx rfl (hb hby at_35) rfl k) ?_
  show Go p e below s _ _ _ (T7.setTop (mkF m 36 #[.val (.long q0), .second, .val (.int p1), .val (.int p2), .val (.ref b1), .unset, .unset, .unset, .unset, .unset] [(.long q0), (.int (3 : Int32)), (.ref b1)]))
  refine Go.of (fun t k => XS.bipush X7.here hx rfl (hb hby at_36) k) ?_
  show Go p e below s _ _ _ (T7.setTop (mkF m 38 #[.val (.long q0), .second, .val (.int p1), .val (.int p2), .val (.ref b1), .unset, .unset, .unset, .unset, .unset] [(.int (24 : Int32)), (.long q0), (.int (3 : Int32)), (.ref b1)]))
  refine Go.of (fun t k => XS.lushr X7.here hx rfl (hb hby at_38) rfl k) ?_
  show Go p e below s _ _ _ (T7.setTop (mkF m 39 #[.val (.long q0), .second, .val (.int p1), .val (.int p2), .val (.ref b1), .unset, .unset, .unset, .unset, .unset] [(.long ((q0.toUInt64 >>> ((24 : Int32) &&& 0x3f).toInt64.toUInt64).toInt64)), (.int (3 : Int32)), (.ref b1)]))
  refine Go.of (fun t k => XS.l2i X7.here hx rfl (hb hby at_39) rfl k) ?_
  show Go p e below s _ _ _ (T7.setTop (mkF m 40 #[.val (.long q0), .second, .val (.int p1), .val (.int p2), .val (.ref b1), .unset, .unset, .unset, .unset, .unset] [(.int (((q0.toUInt64 >>> ((24 : Int32) &&& 0x3f).toInt64.toUInt64).toInt64).toInt32)), (.int (3 : Int32)), (.ref b1)]))
  refine Go.of (fun t k => XS.i2b X7.here hx rfl (hb hby at_40) rfl k) ?_
  show Go p e below s _ _ _ (T7.setTop (mkF m 41 #[.val (.long q0), .second, .val (.int p1), .val (.int p2), .val (.ref b1), .unset, .unset, .unset, .unset, .unset] [(.int ((((q0.toUInt64 >>> ((24 : Int32) &&& 0x3f).toInt64.toUInt64).toInt64).toInt32).toInt8.toInt32)), (.int (3 : Int32)), (.ref b1)]))
  obtain ⟨cl9, Ar9, q9, S9, M9, H9, G9⟩ := id f8
  have hin9 : ¬ ((3 : Int32) < 0 ∨ cl9.slots.size ≤ ((3 : Int32)).toNatClampNeg) := (inb_of S9 ⟨by decide, by decide⟩)
  obtain ⟨T9, h9, X9, e9, W9, st9⟩ := stB X7 hx hZ e7 Ar9 (j := (3 : Int32)) hin9 (g := (mkF m 41 #[.val (.long q0), .second, .val (.int p1), .val (.int p2), .val (.ref b1), .unset, .unset, .unset, .unset, .unset] [(.int ((((q0.toUInt64 >>> ((24 : Int32) &&& 0x3f).toInt64.toUInt64).toInt64).toInt32).toInt8.toInt32)), (.int (3 : Int32)), (.ref b1)])) rfl rfl (hb hby at_41)
  have f10 : Arv Z h9 b1 k1 .byte (5 : Int32) [(.int (nar .byte ((q0.toInt32).toInt8.toInt32))), (.int (nar .byte ((((q0.toUInt64 >>> ((8 : Int32) &&& 0x3f).toInt64.toUInt64).toInt64).toInt32).toInt8.toInt32))), (.int (nar .byte ((((q0.toUInt64 >>> ((16 : Int32) &&& 0x3f).toInt64.toUInt64).toInt64).toInt32).toInt8.toInt32))), (.int (nar .byte ((((q0.toUInt64 >>> ((24 : Int32) &&& 0x3f).toInt64.toUInt64).toInt64).toInt32).toInt8.toInt32))), (.int (0 : Int32))] (.int (0 : Int32)) := Arv.set Ar9 q9 S9 M9 H9 G9 (fits_nar_byte _) W9 3 rfl (Nat.le_of_ble_eq_true rfl)
  have N9 := Fr.snoc X9 N7 g_b1
  have K9 : Keep h0 h9 [] := Keep.wr K7 W9 (Or.inr sz_b1)
  refine Go.of st9 ?_
  show Go p e below s _ _ _ (T9.setTop (mkF m 42 #[.val (.long q0), .second, .val (.int p1), .val (.int p2), .val (.ref b1), .unset, .unset, .unset, .unset, .unset] []))
  refine Go.of (fun t k => XS.aload X9.here hx rfl (hb hby at_42) rfl rfl k) ?_
  show Go p e below s _ _ _ (T9.setTop (mkF m 44 #[.val (.long q0), .second, .val (.int p1), .val (.int p2), .val (.ref b1), .unset, .unset, .unset, .unset, .unset] [(.ref b1)]))
  refine Go.of (fun t k => XS.iconst X9.here hx rfl (hb hby at_44) k) ?_
  show Go p e below s _ _ _ (T9.setTop (mkF m 45 #[.val (.long q0), .second, .val (.int p1), .val (.int p2), .val (.ref b1), .unset, .unset, .unset, .unset, .unset] [(.int (4 : Int32)), (.ref b1)]))
  refine Go.of (fun t k => XS.lloadN X9.here hx rfl (hb hby at_45) rfl k) ?_
  show Go p e below s _ _ _ (T9.setTop (mkF m 46 #[.val (.long q0), .second, .val (.int p1), .val (.int p2), .val (.ref b1), .unset, .unset, .unset, .unset, .unset] [(.long q0), (.int (4 : Int32)), (.ref b1)]))
  refine Go.of (fun t k => XS.bipush X9.here hx rfl (hb hby at_46) k) ?_
  show Go p e below s _ _ _ (T9.setTop (mkF m 48 #[.val (.long q0), .second, .val (.int p1), .val (.int p2), .val (.ref b1), .unset, .unset, .unset, .unset, .unset] [(.int (32 : Int32)), (.long q0), (.int (4 : Int32)), (.ref b1)]))
  refine Go.of (fun t k => XS.lushr X9.here hx rfl (hb hby at_48) rfl k) ?_
  show Go p e below s _ _ _ (T9.setTop (mkF m 49 #[.val (.long q0), .second, .val (.int p1), .val (.int p2), .val (.ref b1), .unset, .unset, .unset, .unset, .unset] [(.long ((q0.toUInt64 >>> ((32 : Int32) &&& 0x3f).toInt64.toUInt64).toInt64)), (.int (4 : Int32)), (.ref b1)]))
  refine Go.of (fun t k => XS.l2i X9.here hx rfl (hb hby at_49) rfl k) ?_
  show Go p e below s _ _ _ (T9.setTop (mkF m 50 #[.val (.long q0), .second, .val (.int p1), .val (.int p2), .val (.ref b1), .unset, .unset, .unset, .unset, .unset] [(.int (((q0.toUInt64 >>> ((32 : Int32) &&& 0x3f).toInt64.toUInt64).toInt64).toInt32)), (.int (4 : Int32)), (.ref b1)]))
  refine Go.of (fun t k => XS.i2b X9.here hx rfl (hb hby at_50) rfl k) ?_
  show Go p e below s _ _ _ (T9.setTop (mkF m 51 #[.val (.long q0), .second, .val (.int p1), .val (.int p2), .val (.ref b1), .unset, .unset, .unset, .unset, .unset] [(.int ((((q0.toUInt64 >>> ((32 : Int32) &&& 0x3f).toInt64.toUInt64).toInt64).toInt32).toInt8.toInt32)), (.int (4 : Int32)), (.ref b1)]))
  obtain ⟨cl11, Ar11, q11, S11, M11, H11, G11⟩ := id f10
  have hin11 : ¬ ((4 : Int32) < 0 ∨ cl11.slots.size ≤ ((4 : Int32)).toNatClampNeg) := (inb_of S11 ⟨by decide, by decide⟩)
  obtain ⟨T11, h11, X11, e11, W11, st11⟩ := stB X9 hx hZ e9 Ar11 (j := (4 : Int32)) hin11 (g := (mkF m 51 #[.val (.long q0), .second, .val (.int p1), .val (.int p2), .val (.ref b1), .unset, .unset, .unset, .unset, .unset] [(.int ((((q0.toUInt64 >>> ((32 : Int32) &&& 0x3f).toInt64.toUInt64).toInt64).toInt32).toInt8.toInt32)), (.int (4 : Int32)), (.ref b1)])) rfl rfl (hb hby at_51)
  have f12 : Arv Z h11 b1 k1 .byte (5 : Int32) [(.int (nar .byte ((q0.toInt32).toInt8.toInt32))), (.int (nar .byte ((((q0.toUInt64 >>> ((8 : Int32) &&& 0x3f).toInt64.toUInt64).toInt64).toInt32).toInt8.toInt32))), (.int (nar .byte ((((q0.toUInt64 >>> ((16 : Int32) &&& 0x3f).toInt64.toUInt64).toInt64).toInt32).toInt8.toInt32))), (.int (nar .byte ((((q0.toUInt64 >>> ((24 : Int32) &&& 0x3f).toInt64.toUInt64).toInt64).toInt32).toInt8.toInt32))), (.int (nar .byte ((((q0.toUInt64 >>> ((32 : Int32) &&& 0x3f).toInt64.toUInt64).toInt64).toInt32).toInt8.toInt32)))] (.int (0 : Int32)) := Arv.set Ar11 q11 S11 M11 H11 G11 (fits_nar_byte _) W11 4 rfl (Nat.le_of_ble_eq_true rfl)
  have N11 := Fr.snoc X11 N9 g_b1
  have K11 : Keep h0 h11 [] := Keep.wr K9 W11 (Or.inr sz_b1)
  refine Go.of st11 ?_
  show Go p e below s _ _ _ (T11.setTop (mkF m 52 #[.val (.long q0), .second, .val (.int p1), .val (.int p2), .val (.ref b1), .unset, .unset, .unset, .unset, .unset] []))
  refine Go.of (fun t k => XS.iloadN X11.here hx rfl (hb hby at_52) rfl k) ?_
  show Go p e below s _ _ _ (T11.setTop (mkF m 53 #[.val (.long q0), .second, .val (.int p1), .val (.int p2), .val (.ref b1), .unset, .unset, .unset, .unset, .unset] [(.int p1)]))
  refine Go.of (fun t k => XS.bipush X11.here hx rfl (hb hby at_53) k) ?_
  show Go p e below s _ _ _ (T11.setTop (mkF m 55 #[.val (.long q0), .second, .val (.int p1), .val (.int p2), .val (.ref b1), .unset, .unset, .unset, .unset, .unset] [(.int (7 : Int32)), (.int p1)]))
  refine Go.of (fun t k => XS.iand X11.here hx rfl (hb hby at_55) rfl k) ?_
  show Go p e below s _ _ _ (T11.setTop (mkF m 56 #[.val (.long q0), .second, .val (.int p1), .val (.int p2), .val (.ref b1), .unset, .unset, .unset, .unset, .unset] [(.int (p1 &&& (7 : Int32)))]))
  refine Go.of (fun t k => XS.bipush X11.here hx rfl (hb hby at_56) k) ?_
  show Go p e below s _ _ _ (T11.setTop (mkF m 58 #[.val (.long q0), .second, .val (.int p1), .val (.int p2), .val (.ref b1), .unset, .unset, .unset, .unset, .unset] [(.int (6 : Int32)), (.int (p1 &&& (7 : Int32)))]))
  refine Go.of (fun t k => iremM X11 hx rfl (hb hby at_58) rfl (by decide) k) ?_
  show Go p e below s _ _ _ (T11.setTop (mkF m 59 #[.val (.long q0), .second, .val (.int p1), .val (.int p2), .val (.ref b1), .unset, .unset, .unset, .unset, .unset] [(.int ((p1 &&& (7 : Int32)) % (6 : Int32)))]))
  refine Go.of (fun t k => XS.istore X11.here hx rfl (hb hby at_59) rfl (l' := #[.val (.long q0), .second, .val (.int p1), .val (.int p2), .val (.ref b1), .val (.int ((p1 &&& (7 : Int32)) % (6 : Int32))), .unset, .unset, .unset, .unset]) rfl k) ?_
  show Go p e below s _ _ _ (T11.setTop (mkF m 61 #[.val (.long q0), .second, .val (.int p1), .val (.int p2), .val (.ref b1), .val (.int ((p1 &&& (7 : Int32)) % (6 : Int32))), .unset, .unset, .unset, .unset] []))
  refine Go.of (fun t k => XS.iload X11.here hx rfl (hb hby at_61) rfl k) ?_
  show Go p e below s _ _ _ (T11.setTop (mkF m 63 #[.val (.long q0), .second, .val (.int p1), .val (.int p2), .val (.ref b1), .val (.int ((p1 &&& (7 : Int32)) % (6 : Int32))), .unset, .unset, .unset, .unset] [(.int ((p1 &&& (7 : Int32)) % (6 : Int32)))]))
  refine Go.of (fun t k => XS.iloadN X11.here hx rfl (hb hby at_63) rfl k) ?_
  show Go p e below s _ _ _ (T11.setTop (mkF m 64 #[.val (.long q0), .second, .val (.int p1), .val (.int p2), .val (.ref b1), .val (.int ((p1 &&& (7 : Int32)) % (6 : Int32))), .unset, .unset, .unset, .unset] [(.int p1), (.int ((p1 &&& (7 : Int32)) % (6 : Int32)))]))
  refine Go.of (fun t k => XS.iconst X11.here hx rfl (hb hby at_64) k) ?_
  show Go p e below s _ _ _ (T11.setTop (mkF m 65 #[.val (.long q0), .second, .val (.int p1), .val (.int p2), .val (.ref b1), .val (.int ((p1 &&& (7 : Int32)) % (6 : Int32))), .unset, .unset, .unset, .unset] [(.int (3 : Int32)), (.int p1), (.int ((p1 &&& (7 : Int32)) % (6 : Int32)))]))
  refine Go.of (fun t k => XS.iushr X11.here hx rfl (hb hby at_65) rfl k) ?_
  show Go p e below s _ _ _ (T11.setTop (mkF m 66 #[.val (.long q0), .second, .val (.int p1), .val (.int p2), .val (.ref b1), .val (.int ((p1 &&& (7 : Int32)) % (6 : Int32))), .unset, .unset, .unset, .unset] [(.int ((p1.toUInt32 >>> ((3 : Int32) &&& 31).toUInt32).toInt32)), (.int ((p1 &&& (7 : Int32)) % (6 : Int32)))]))
  refine Go.of (fun t k => XS.bipush X11.here hx rfl (hb hby at_66) k) ?_
  show Go p e below s _ _ _ (T11.setTop (mkF m 68 #[.val (.long q0), .second, .val (.int p1), .val (.int p2), .val (.ref b1), .val (.int ((p1 &&& (7 : Int32)) % (6 : Int32))), .unset, .unset, .unset, .unset] [(.int (7 : Int32)), (.int ((p1.toUInt32 >>> ((3 : Int32) &&& 31).toUInt32).toInt32)), (.int ((p1 &&& (7 : Int32)) % (6 : Int32)))]))
  refine Go.of (fun t k => XS.iand X11.here hx rfl (hb hby at_68) rfl k) ?_
  show Go p e below s _ _ _ (T11.setTop (mkF m 69 #[.val (.long q0), .second, .val (.int p1), .val (.int p2), .val (.ref b1), .val (.int ((p1 &&& (7 : Int32)) % (6 : Int32))), .unset, .unset, .unset, .unset] [(.int (((p1.toUInt32 >>> ((3 : Int32) &&& 31).toUInt32).toInt32) &&& (7 : Int32))), (.int ((p1 &&& (7 : Int32)) % (6 : Int32)))]))
  refine Go.of (fun t k => XS.bipush X11.here hx rfl (hb hby at_69) k) ?_
  show Go p e below s _ _ _ (T11.setTop (mkF m 71 #[.val (.long q0), .second, .val (.int p1), .val (.int p2), .val (.ref b1), .val (.int ((p1 &&& (7 : Int32)) % (6 : Int32))), .unset, .unset, .unset, .unset] [(.int (6 : Int32)), (.int (((p1.toUInt32 >>> ((3 : Int32) &&& 31).toUInt32).toInt32) &&& (7 : Int32))), (.int ((p1 &&& (7 : Int32)) % (6 : Int32)))]))
  refine Go.of (fun t k => XS.iload X11.here hx rfl (hb hby at_71) rfl k) ?_
  show Go p e below s _ _ _ (T11.setTop (mkF m 73 #[.val (.long q0), .second, .val (.int p1), .val (.int p2), .val (.ref b1), .val (.int ((p1 &&& (7 : Int32)) % (6 : Int32))), .unset, .unset, .unset, .unset] [(.int ((p1 &&& (7 : Int32)) % (6 : Int32))), (.int (6 : Int32)), (.int (((p1.toUInt32 >>> ((3 : Int32) &&& 31).toUInt32).toInt32) &&& (7 : Int32))), (.int ((p1 &&& (7 : Int32)) % (6 : Int32)))]))
  refine Go.of (fun t k => XS.isub X11.here hx rfl (hb hby at_73) rfl k) ?_
  show Go p e below s _ _ _ (T11.setTop (mkF m 74 #[.val (.long q0), .second, .val (.int p1), .val (.int p2), .val (.ref b1), .val (.int ((p1 &&& (7 : Int32)) % (6 : Int32))), .unset, .unset, .unset, .unset] [(.int ((6 : Int32) - ((p1 &&& (7 : Int32)) % (6 : Int32)))), (.int (((p1.toUInt32 >>> ((3 : Int32) &&& 31).toUInt32).toInt32) &&& (7 : Int32))), (.int ((p1 &&& (7 : Int32)) % (6 : Int32)))]))
  refine Go.of (fun t k => iremM X11 hx rfl (hb hby at_74) rfl (own_nz p1) k) ?_
  show Go p e below s _ _ _ (T11.setTop (mkF m 75 #[.val (.long q0), .second, .val (.int p1), .val (.int p2), .val (.ref b1), .val (.int ((p1 &&& (7 : Int32)) % (6 : Int32))), .unset, .unset, .unset, .unset] [(.int ((((p1.toUInt32 >>> ((3 : Int32) &&& 31).toUInt32).toInt32) &&& (7 : Int32)) % ((6 : Int32) - ((p1 &&& (7 : Int32)) % (6 : Int32))))), (.int ((p1 &&& (7 : Int32)) % (6 : Int32)))]))
  refine Go.of (fun t k => XS.iadd X11.here hx rfl (hb hby at_75) rfl k) ?_
  show Go p e below s _ _ _ (T11.setTop (mkF m 76 #[.val (.long q0), .second, .val (.int p1), .val (.int p2), .val (.ref b1), .val (.int ((p1 &&& (7 : Int32)) % (6 : Int32))), .unset, .unset, .unset, .unset] [(.int (((p1 &&& (7 : Int32)) % (6 : Int32)) + ((((p1.toUInt32 >>> ((3 : Int32) &&& 31).toUInt32).toInt32) &&& (7 : Int32)) % ((6 : Int32) - ((p1 &&& (7 : Int32)) % (6 : Int32))))))]))
  refine Go.of (fun t k => XS.istore X11.here hx rfl (hb hby at_76) rfl (l' := #[.val (.long q0), .second, .val (.int p1), .val (.int p2), .val (.ref b1), .val (.int ((p1 &&& (7 : Int32)) % (6 : Int32))), .val (.int (((p1 &&& (7 : Int32)) % (6 : Int32)) + ((((p1.toUInt32 >>> ((3 : Int32) &&& 31).toUInt32).toInt32) &&& (7 : Int32)) % ((6 : Int32) - ((p1 &&& (7 : Int32)) % (6 : Int32)))))), .unset, .unset, .unset]) rfl k) ?_
  show Go p e below s _ _ _ (T11.setTop (mkF m 78 #[.val (.long q0), .second, .val (.int p1), .val (.int p2), .val (.ref b1), .val (.int ((p1 &&& (7 : Int32)) % (6 : Int32))), .val (.int (((p1 &&& (7 : Int32)) % (6 : Int32)) + ((((p1.toUInt32 >>> ((3 : Int32) &&& 31).toUInt32).toInt32) &&& (7 : Int32)) % ((6 : Int32) - ((p1 &&& (7 : Int32)) % (6 : Int32)))))), .unset, .unset, .unset] []))
  have jn78c : ∀ (v5_78c : Int32) (v6_78c : Int32) (hse_78c : 0 ≤ v5_78c.toInt ∧ v5_78c.toInt ≤ v6_78c.toInt ∧ v6_78c.toInt ≤ 5), Go p e below s (QL (some (.int (F0_78c q0 p2 v5_78c v6_78c))) n0) room_1.cells room_1.slots (T11.setTop (mkF m 78 #[.val (.long q0), .second, .val (.int p1), .val (.int p2), .val (.ref b1), .val (.int v5_78c), .val (.int v6_78c), .unset, .unset, .unset] [])) := by
    intro v5_78c v6_78c hse_78c
    unfold F0_78c
    refine Go.of (fun t k => XS.iloadN X11.here hx rfl (hb hby at_78) rfl k) ?_
    show Go p e below s _ _ _ (T11.setTop (mkF m 79 #[.val (.long q0), .second, .val (.int p1), .val (.int p2), .val (.ref b1), .val (.int v5_78c), .val (.int v6_78c), .unset, .unset, .unset] [(.int p2)]))
    refine Go.of (fun t k => XS.iconst X11.here hx rfl (hb hby at_79) k) ?_
    show Go p e below s _ _ _ (T11.setTop (mkF m 80 #[.val (.long q0), .second, .val (.int p1), .val (.int p2), .val (.ref b1), .val (.int v5_78c), .val (.int v6_78c), .unset, .unset, .unset] [(.int (1 : Int32)), (.int p2)]))
    refine Go.of (fun t k => XS.iand X11.here hx rfl (hb hby at_80) rfl k) ?_
    show Go p e below s _ _ _ (T11.setTop (mkF m 81 #[.val (.long q0), .second, .val (.int p1), .val (.int p2), .val (.ref b1), .val (.int v5_78c), .val (.int v6_78c), .unset, .unset, .unset] [(.int (p2 &&& (1 : Int32)))]))
    have jn106 : ∀ (v7_106 : Int32) (T_106 : State) (l_106 : List Loc) (X_106 : Stand p l e room_1 s m #[(.long q0), (.int p1), (.int p2)] below meth c T_106 l_106 1 5) (e_106 : T_106.heap = h11) (N_106 : Fr n0 l_106), Go p e below s (QL (some (.int (F0_106 q0 v5_78c v6_78c v7_106))) n0) room_1.cells room_1.slots (T_106.setTop (mkF m 106 #[.val (.long q0), .second, .val (.int p1), .val (.int p2), .val (.ref b1), .val (.int v5_78c), .val (.int v6_78c), .val (.int v7_106), .unset, .unset] [])) := by
      intro v7_106 T_106 l_106 X_106 e_106 N_106
      unfold F0_106
      obtain ⟨T13, h13, X13, e13, E13, A13, D13, -, st13⟩ := newO X_106 hx hZ hown (hw _ (List.mem_of_getElem? (i := 1) rfl)) (hw _ (List.mem_of_getElem? (i := 2) rfl)) (hw _ (List.mem_of_getElem? (i := 3) rfl)) e_106 (g := (mkF m 106 #[.val (.long q0), .second, .val (.int p1), .val (.int p2), .val (.ref b1), .val (.int v5_78c), .val (.int v6_78c), .val (.int v7_106), .unset, .unset] [])) rfl (hb hby at_106) (by decide) (by decide)
      obtain ⟨b13, ga13⟩ : ∃ z, z = h11.size := ⟨_, rfl⟩
      rw [← ga13] at A13 D13 st13
      have g_b13 : n0 ≤ b13 := Nat.le_trans (Nat.le_trans Z0 K11.1) (Nat.le_of_eq ga13.symm)
      have sz_b13 : h0.size ≤ b13 := Nat.le_trans K11.1 (Nat.le_of_eq ga13.symm)
      have ne14 : b1 ≠ b13 := Nat.ne_of_lt (Nat.lt_of_lt_of_le f12.lt (Nat.le_of_eq ga13.symm))
      have f15 := f12.ext E13
      have f16 : Fld Z h13 b13 "com/example/tallyfold/tallyfold/Bytes" "array" "[B" .null := D13 (Or.inl (hw _ (List.mem_of_getElem? (i := 11) rfl))) (ty := (.array .byte)) (by decide)
      have f17 : Fld Z h13 b13 "com/example/tallyfold/tallyfold/Bytes" "start" "I" (.int (0 : Int32)) := D13 (Or.inl (hw _ (List.mem_of_getElem? (i := 18) rfl))) (ty := .int) (by decide)
      have f18 : Fld Z h13 b13 "com/example/tallyfold/tallyfold/Bytes" "end" "I" (.int (0 : Int32)) := D13 (Or.inl (hw _ (List.mem_of_getElem? (i := 20) rfl))) (ty := .int) (by decide)
      have K13 : Keep h0 h13 [] := Keep.ext K11 E13
      refine Go.of st13 ?_
      show Go p e below s _ _ _ (T13.setTop (mkF m 109 #[.val (.long q0), .second, .val (.int p1), .val (.int p2), .val (.ref b1), .val (.int v5_78c), .val (.int v6_78c), .val (.int v7_106), .unset, .unset] [(.ref b13)]))
      refine Go.of (fun t k => XS.dup X13.here hx rfl (hb hby at_109) rfl rfl k) ?_
      show Go p e below s _ _ _ (T13.setTop (mkF m 110 #[.val (.long q0), .second, .val (.int p1), .val (.int p2), .val (.ref b1), .val (.int v5_78c), .val (.int v6_78c), .val (.int v7_106), .unset, .unset] [(.ref b13), (.ref b13)]))
      obtain ⟨_, _, ⟨T19, L19, k19, n19⟩, -, X19, ⟨Lc19, hQ19, l19, y19, z19⟩, st19⟩ := X13.specialBack hx (y := (⟨"com/example/tallyfold/tallyfold/Bytes", "<init>", "()V"⟩ : MethodName)) rfl hown (mvT hZ (hw _ (List.mem_of_getElem? (i := 4) rfl))) (mvT hZ (hw _ (List.mem_of_getElem? (i := 5) rfl))) (mvT hZ (hw _ (List.mem_of_getElem? (i := 6) rfl))) (by decide) (backOf (W := 1) (rm1 l Z az hw [] b13 .null (.int (0 : Int32)) (.int (0 : Int32)) h13 n0 (Nat.le_trans Z0 K13.1) A13 f16 f17 f18 g_b13) hZ (hw _ (List.mem_of_getElem? (i := 6) rfl)) (hw _ (List.mem_of_getElem? (i := 3) rfl)) (by decide) (by decide)) (g := (mkF m 110 #[.val (.long q0), .second, .val (.int p1), .val (.int p2), .val (.ref b1), .val (.int v5_78c), .val (.int v6_78c), .val (.int v7_106), .unset, .unset] [(.ref b13), (.ref b13)])) rfl (by rw [hml]; rfl) (Steps.refl _) (a := b13) (argsL := []) (rest := [(.ref b13)]) (lenOf own_pd0 rfl) rfl (by show 2 * 0 + _ ≤ _; exact Nat.le_of_eq rfl) (hb hby at_110) (fun _ _ => ⟨rfl, e13, (by decide : 2 + 1 ≤ _), (by decide : 8 + 0 ≤ _)⟩)
      dsimp only [Pt.U, Pt.locs, Pt.cells, Pt.slots] at X19 l19 y19 z19 st19 hQ19
      subst l19 y19 z19
      obtain ⟨rfl, N19q, Kq19, f20, ⟨b22, szqb22, g_b22, f21⟩, f23, f24⟩ := hQ19
      have N19 := Fr.app N_106 N19q
      have f25 := f15.keep Kq19 (ninS ne14 nin0)
      have K19 : Keep h0 T19.heap [] := Keep.trans K13 Kq19 (allS (Or.inr sz_b13) all0)
      refine Go.of (fun t k => st19.trans k) ?_
      show Go p e below s _ _ _ (T19.setTop (mkF m 113 #[.val (.long q0), .second, .val (.int p1), .val (.int p2), .val (.ref b1), .val (.int v5_78c), .val (.int v6_78c), .val (.int v7_106), .unset, .unset] [(.ref b13)]))
      refine Go.of (fun t k => XS.astore X19.here hx rfl (hb hby at_113) rfl rfl (l' := #[.val (.long q0), .second, .val (.int p1), .val (.int p2), .val (.ref b1), .val (.int v5_78c), .val (.int v6_78c), .val (.int v7_106), .val (.ref b13), .unset]) rfl k) ?_
      show Go p e below s _ _ _ (T19.setTop (mkF m 115 #[.val (.long q0), .second, .val (.int p1), .val (.int p2), .val (.ref b1), .val (.int v5_78c), .val (.int v6_78c), .val (.int v7_106), .val (.ref b13), .unset] []))
      refine Go.of (fun t k => XS.aload X19.here hx rfl (hb hby at_115) rfl rfl k) ?_
      show Go p e below s _ _ _ (T19.setTop (mkF m 117 #[.val (.long q0), .second, .val (.int p1), .val (.int p2), .val (.ref b1), .val (.int v5_78c), .val (.int v6_78c), .val (.int v7_106), .val (.ref b13), .unset] [(.ref b13)]))
      refine Go.of (fun t k => XS.aload X19.here hx rfl (hb hby at_117) rfl rfl k) ?_
      show Go p e below s _ _ _ (T19.setTop (mkF m 119 #[.val (.long q0), .second, .val (.int p1), .val (.int p2), .val (.ref b1), .val (.int v5_78c), .val (.int v6_78c), .val (.int v7_106), .val (.ref b13), .unset] [(.ref b1), (.ref b13)]))
      refine Go.of (fun t k => XS.iload X19.here hx rfl (hb hby at_119) rfl k) ?_
      show Go p e below s _ _ _ (T19.setTop (mkF m 121 #[.val (.long q0), .second, .val (.int p1), .val (.int p2), .val (.ref b1), .val (.int v5_78c), .val (.int v6_78c), .val (.int v7_106), .val (.ref b13), .unset] [(.int v5_78c), (.ref b1), (.ref b13)]))
      refine Go.of (fun t k => XS.iload X19.here hx rfl (hb hby at_121) rfl k) ?_
      show Go p e below s _ _ _ (T19.setTop (mkF m 123 #[.val (.long q0), .second, .val (.int p1), .val (.int p2), .val (.ref b1), .val (.int v5_78c), .val (.int v6_78c), .val (.int v7_106), .val (.ref b13), .unset] [(.int v6_78c), (.int v5_78c), (.ref b1), (.ref b13)]))
      obtain ⟨cq26, kq26, q26a, q26b, q26c⟩ := isOf hZ rfl f20
      obtain ⟨_, _, ⟨T26, L26, k26, n26⟩, -, X26, ⟨Lc26, hQ26, l26, y26, z26⟩, st26⟩ := X19.virtualBack hx (y := (⟨"com/example/tallyfold/tallyfold/Bytes", "set", "([BII)V"⟩ : MethodName)) (z := (⟨"com/example/tallyfold/tallyfold/Bytes", "set", "([BII)V"⟩ : MethodName)) hown (mvT hZ (hw _ (List.mem_of_getElem? (i := 12) rfl))) (mvT hZ (hw _ (List.mem_of_getElem? (i := 13) rfl))) (notFace_of_selects (args := #[]) (mvT hZ (hw _ (List.mem_of_getElem? (i := 15) rfl)))) (mvT hZ (hw _ (List.mem_of_getElem? (i := 15) rfl))) (mvT hZ (hw _ (List.mem_of_getElem? (i := 14) rfl))) (by decide) (backOf (W := 0) (rm3 l Z az hw [] b13 b1 v5_78c v6_78c (.ref b22) (.int (0 : Int32)) (.int (0 : Int32)) T19.heap n0 (Nat.le_trans Z0 K19.1) f20 f21 f23 f24 g_b13) hZ (hw _ (List.mem_of_getElem? (i := 16) rfl)) (hw _ (List.mem_of_getElem? (i := 3) rfl)) (by decide) (by decide)) q26a q26c (g := (mkF m 123 #[.val (.long q0), .second, .val (.int p1), .val (.int p2), .val (.ref b1), .val (.int v5_78c), .val (.int v6_78c), .val (.int v7_106), .val (.ref b13), .unset] [(.int v6_78c), (.int v5_78c), (.ref b1), (.ref b13)])) rfl (by rw [hml]; rfl) (Steps.refl _) (argsL := [(.ref b1), (.int v5_78c), (.int v6_78c)]) (rest := []) (lenOf own_pd1 rfl) rfl (by show 2 * 0 + _ ≤ _; exact Nat.le_of_eq rfl) (hb hby at_123) (fun _ _ => ⟨rfl, rfl, (by decide : 3 + 0 ≤ _), (by decide : 8 + 0 ≤ _)⟩)
      dsimp only [Pt.U, Pt.locs, Pt.cells, Pt.slots] at X26 l26 y26 z26 st26 hQ26
      subst l26 y26 z26
      obtain ⟨rfl, N26q, Kq26, f27, f28, f29, f30⟩ := hQ26
      have N26 := Fr.app N19 N26q
      have f31 := f25.keep Kq26 (ninS ne14 nin0)
      have K26 : Keep h0 T26.heap [] := Keep.trans K19 Kq26 (allS (Or.inr sz_b13) all0)
      refine Go.of (fun t k => st26.trans k) ?_
      show Go p e below s _ _ _ (T26.setTop (mkF m 126 #[.val (.long q0), .second, .val (.int p1), .val (.int p2), .val (.ref b1), .val (.int v5_78c), .val (.int v6_78c), .val (.int v7_106), .val (.ref b13), .unset] []))
      refine Go.of (fun t k => XS.aload X26.here hx rfl (hb hby at_126) rfl rfl k) ?_
      show Go p e below s _ _ _ (T26.setTop (mkF m 128 #[.val (.long q0), .second, .val (.int p1), .val (.int p2), .val (.ref b1), .val (.int v5_78c), .val (.int v6_78c), .val (.int v7_106), .val (.ref b13), .unset] [(.ref b1)]))
      refine Go.of (fun t k => XS.iload X26.here hx rfl (hb hby at_128) rfl k) ?_
      show Go p e below s _ _ _ (T26.setTop (mkF m 130 #[.val (.long q0), .second, .val (.int p1), .val (.int p2), .val (.ref b1), .val (.int v5_78c), .val (.int v6_78c), .val (.int v7_106), .val (.ref b13), .unset] [(.int v5_78c), (.ref b1)]))
      refine Go.of (fun t k => XS.iload X26.here hx rfl (hb hby at_130) rfl k) ?_
      show Go p e below s _ _ _ (T26.setTop (mkF m 132 #[.val (.long q0), .second, .val (.int p1), .val (.int p2), .val (.ref b1), .val (.int v5_78c), .val (.int v6_78c), .val (.int v7_106), .val (.ref b13), .unset] [(.int v6_78c), (.int v5_78c), (.ref b1)]))
      refine Go.of (fun t k => XS.iconst X26.here hx rfl (hb hby at_132) k) ?_
      show Go p e below s _ _ _ (T26.setTop (mkF m 133 #[.val (.long q0), .second, .val (.int p1), .val (.int p2), .val (.ref b1), .val (.int v5_78c), .val (.int v6_78c), .val (.int v7_106), .val (.ref b13), .unset] [(.int (0 : Int32)), (.int v6_78c), (.int v5_78c), (.ref b1)]))
      refine Go.of (fun t k => XS.iload X26.here hx rfl (hb hby at_133) rfl k) ?_
      show Go p e below s _ _ _ (T26.setTop (mkF m 135 #[.val (.long q0), .second, .val (.int p1), .val (.int p2), .val (.ref b1), .val (.int v5_78c), .val (.int v6_78c), .val (.int v7_106), .val (.ref b13), .unset] [(.int v7_106), (.int (0 : Int32)), (.int v6_78c), (.int v5_78c), (.ref b1)]))
      obtain ⟨_, _, ⟨T32, L32, k32, n32⟩, -, X32, ⟨Lc32, hQ32, l32, y32, z32⟩, st32⟩ := Jvm.LawKit.callS X26 hx (y := (⟨"com/example/tallyfold/tallyfold/BytesContainsPinLaw", "hit", "([BIIIB)Z"⟩ : MethodName)) hown (mvT hZ (hw _ (List.mem_of_getElem? (i := 21) rfl))) (mvT hZ (hw _ (List.mem_of_getElem? (i := 22) rfl))) (mvT hZ (hw _ (List.mem_of_getElem? (i := 23) rfl))) (mvT hZ (hw _ (List.mem_of_getElem? (i := 24) rfl))) (by decide) (backOf (W := 0) (rm4 l Z az hw [] b1 v5_78c v6_78c (0 : Int32) v7_106 k1 [(nar .byte ((q0.toInt32).toInt8.toInt32)), (nar .byte ((((q0.toUInt64 >>> ((8 : Int32) &&& 0x3f).toInt64.toUInt64).toInt64).toInt32).toInt8.toInt32)), (nar .byte ((((q0.toUInt64 >>> ((16 : Int32) &&& 0x3f).toInt64.toUInt64).toInt64).toInt32).toInt8.toInt32)), (nar .byte ((((q0.toUInt64 >>> ((24 : Int32) &&& 0x3f).toInt64.toUInt64).toInt64).toInt32).toInt8.toInt32)), (nar .byte ((((q0.toUInt64 >>> ((32 : Int32) &&& 0x3f).toInt64.toUInt64).toInt64).toInt32).toInt8.toInt32))] T26.heap n0 (Nat.le_trans Z0 K26.1) f31 (by decide)) hZ (hw _ (List.mem_of_getElem? (i := 24) rfl)) (hw _ (List.mem_of_getElem? (i := 23) rfl)) (by decide) (by decide)) (g := (mkF m 135 #[.val (.long q0), .second, .val (.int p1), .val (.int p2), .val (.ref b1), .val (.int v5_78c), .val (.int v6_78c), .val (.int v7_106), .val (.ref b13), .unset] [(.int v7_106), (.int (0 : Int32)), (.int v6_78c), (.int v5_78c), (.ref b1)])) rfl (by rw [hml]; rfl) (argsL := [(.ref b1), (.int v5_78c), (.int v6_78c), (.int (0 : Int32)), (.int v7_106)]) (rest := []) (lenOf own_pd2 rfl) rfl (by show 2 * 0 + _ ≤ _; exact Nat.le_of_eq rfl) (hb hby at_135) (fun _ _ => ⟨rfl, rfl, (by decide : 3 + 0 ≤ _), (by decide : 8 + 0 ≤ _)⟩)
      dsimp only [Pt.U, Pt.locs, Pt.cells, Pt.slots] at X32 l32 y32 z32 st32 hQ32
      subst l32 y32 z32
      obtain ⟨rfl, N32q, e32⟩ := hQ32
      have N32 := Fr.app N26 N32q
      refine Go.of st32 ?_
      show Go p e below s _ _ _ (T32.setTop (mkF m 138 #[.val (.long q0), .second, .val (.int p1), .val (.int p2), .val (.ref b1), .val (.int v5_78c), .val (.int v6_78c), .val (.int v7_106), .val (.ref b13), .unset] [(.int (F4 v5_78c v6_78c (0 : Int32) v7_106 [(nar .byte ((q0.toInt32).toInt8.toInt32)), (nar .byte ((((q0.toUInt64 >>> ((8 : Int32) &&& 0x3f).toInt64.toUInt64).toInt64).toInt32).toInt8.toInt32)), (nar .byte ((((q0.toUInt64 >>> ((16 : Int32) &&& 0x3f).toInt64.toUInt64).toInt64).toInt32).toInt8.toInt32)), (nar .byte ((((q0.toUInt64 >>> ((24 : Int32) &&& 0x3f).toInt64.toUInt64).toInt64).toInt32).toInt8.toInt32)), (nar .byte ((((q0.toUInt64 >>> ((32 : Int32) &&& 0x3f).toInt64.toUInt64).toInt64).toInt32).toInt8.toInt32))]))]))
      have jn206 : ∀ (w0_206 : Int32) (T_206 : State) (l_206 : List Loc) (X_206 : Stand p l e room_1 s m #[(.long q0), (.int p1), (.int p2)] below meth c T_206 l_206 3 8) (e_206 : T_206.heap = T26.heap) (N_206 : Fr n0 l_206), Go p e below s (QL (some (.int (F0_206 q0 v5_78c v6_78c v7_106 w0_206))) n0) room_1.cells room_1.slots (T_206.setTop (mkF m 206 #[.val (.long q0), .second, .val (.int p1), .val (.int p2), .val (.ref b1), .val (.int v5_78c), .val (.int v6_78c), .val (.int v7_106), .val (.ref b13), .unset] [(.int w0_206)])) := by
        intro w0_206 T_206 l_206 X_206 e_206 N_206
        unfold F0_206
        refine Go.of (fun t k => XS.istore X_206.here hx rfl (hb hby at_206) rfl (l' := #[.val (.long q0), .second, .val (.int p1), .val (.int p2), .val (.ref b1), .val (.int v5_78c), .val (.int v6_78c), .val (.int v7_106), .val (.ref b13), .val (.int w0_206)]) rfl k) ?_
        show Go p e below s _ _ _ (T_206.setTop (mkF m 208 #[.val (.long q0), .second, .val (.int p1), .val (.int p2), .val (.ref b1), .val (.int v5_78c), .val (.int v6_78c), .val (.int v7_106), .val (.ref b13), .val (.int w0_206)] []))
        refine Go.of (fun t k => XS.aload X_206.here hx rfl (hb hby at_208) rfl rfl k) ?_
        show Go p e below s _ _ _ (T_206.setTop (mkF m 210 #[.val (.long q0), .second, .val (.int p1), .val (.int p2), .val (.ref b1), .val (.int v5_78c), .val (.int v6_78c), .val (.int v7_106), .val (.ref b13), .val (.int w0_206)] [(.ref b13)]))
        refine Go.of (fun t k => XS.iload X_206.here hx rfl (hb hby at_210) rfl k) ?_
        show Go p e below s _ _ _ (T_206.setTop (mkF m 212 #[.val (.long q0), .second, .val (.int p1), .val (.int p2), .val (.ref b1), .val (.int v5_78c), .val (.int v6_78c), .val (.int v7_106), .val (.ref b13), .val (.int w0_206)] [(.int v7_106), (.ref b13)]))
        obtain ⟨cq33, kq33, q33a, q33b, q33c⟩ := isOf hZ e_206 f27
        obtain ⟨_, _, ⟨T33, L33, k33, n33⟩, -, X33, ⟨Lc33, hQ33, l33, y33, z33⟩, st33⟩ := X_206.virtualBack hx (y := (⟨"com/example/tallyfold/tallyfold/Bytes", "contains", "(B)Z"⟩ : MethodName)) (z := (⟨"com/example/tallyfold/tallyfold/Bytes", "contains", "(B)Z"⟩ : MethodName)) hown (mvT hZ (hw _ (List.mem_of_getElem? (i := 25) rfl))) (mvT hZ (hw _ (List.mem_of_getElem? (i := 26) rfl))) (notFace_of_selects (args := #[]) (mvT hZ (hw _ (List.mem_of_getElem? (i := 28) rfl)))) (mvT hZ (hw _ (List.mem_of_getElem? (i := 28) rfl))) (mvT hZ (hw _ (List.mem_of_getElem? (i := 27) rfl))) (by decide) (backOf (W := 0) (rm5 l Z az hw [] b13 v7_106 b1 v5_78c v6_78c k1 [(nar .byte ((q0.toInt32).toInt8.toInt32)), (nar .byte ((((q0.toUInt64 >>> ((8 : Int32) &&& 0x3f).toInt64.toUInt64).toInt64).toInt32).toInt8.toInt32)), (nar .byte ((((q0.toUInt64 >>> ((16 : Int32) &&& 0x3f).toInt64.toUInt64).toInt64).toInt32).toInt8.toInt32)), (nar .byte ((((q0.toUInt64 >>> ((24 : Int32) &&& 0x3f).toInt64.toUInt64).toInt64).toInt32).toInt8.toInt32)), (nar .byte ((((q0.toUInt64 >>> ((32 : Int32) &&& 0x3f).toInt64.toUInt64).toInt64).toInt32).toInt8.toInt32))] T26.heap n0 (Nat.le_trans Z0 K26.1) f28 f29 f30 f31 (hse_78c)) hZ (hw _ (List.mem_of_getElem? (i := 29) rfl)) (hw _ (List.mem_of_getElem? (i := 3) rfl)) (by decide) (by decide)) q33a q33c (g := (mkF m 212 #[.val (.long q0), .second, .val (.int p1), .val (.int p2), .val (.ref b1), .val (.int v5_78c), .val (.int v6_78c), .val (.int v7_106), .val (.ref b13), .val (.int w0_206)] [(.int v7_106), (.ref b13)])) rfl (by rw [hml]; rfl) (Steps.refl _) (argsL := [(.int v7_106)]) (rest := []) (lenOf own_pd3 rfl) rfl (by show 2 * 0 + _ ≤ _; exact Nat.le_of_eq rfl) (hb hby at_212) (fun _ _ => ⟨rfl, e_206, (by decide : 3 + 0 ≤ _), (by decide : 8 + 0 ≤ _)⟩)
        dsimp only [Pt.U, Pt.locs, Pt.cells, Pt.slots] at X33 l33 y33 z33 st33 hQ33
        subst l33 y33 z33
        obtain ⟨rfl, N33q, e33⟩ := hQ33
        have N33 := Fr.app N_206 N33q
        refine Go.of (fun t k => st33.trans k) ?_
        show Go p e below s _ _ _ (T33.setTop (mkF m 215 #[.val (.long q0), .second, .val (.int p1), .val (.int p2), .val (.ref b1), .val (.int v5_78c), .val (.int v6_78c), .val (.int v7_106), .val (.ref b13), .val (.int w0_206)] [(.int (F5 v7_106 v5_78c v6_78c [(nar .byte ((q0.toInt32).toInt8.toInt32)), (nar .byte ((((q0.toUInt64 >>> ((8 : Int32) &&& 0x3f).toInt64.toUInt64).toInt64).toInt32).toInt8.toInt32)), (nar .byte ((((q0.toUInt64 >>> ((16 : Int32) &&& 0x3f).toInt64.toUInt64).toInt64).toInt32).toInt8.toInt32)), (nar .byte ((((q0.toUInt64 >>> ((24 : Int32) &&& 0x3f).toInt64.toUInt64).toInt64).toInt32).toInt8.toInt32)), (nar .byte ((((q0.toUInt64 >>> ((32 : Int32) &&& 0x3f).toInt64.toUInt64).toInt64).toInt32).toInt8.toInt32))]))]))
        refine Go.of (fun t k => XS.iload X33.here hx rfl (hb hby at_215) rfl k) ?_
        show Go p e below s _ _ _ (T33.setTop (mkF m 217 #[.val (.long q0), .second, .val (.int p1), .val (.int p2), .val (.ref b1), .val (.int v5_78c), .val (.int v6_78c), .val (.int v7_106), .val (.ref b13), .val (.int w0_206)] [(.int w0_206), (.int (F5 v7_106 v5_78c v6_78c [(nar .byte ((q0.toInt32).toInt8.toInt32)), (nar .byte ((((q0.toUInt64 >>> ((8 : Int32) &&& 0x3f).toInt64.toUInt64).toInt64).toInt32).toInt8.toInt32)), (nar .byte ((((q0.toUInt64 >>> ((16 : Int32) &&& 0x3f).toInt64.toUInt64).toInt64).toInt32).toInt8.toInt32)), (nar .byte ((((q0.toUInt64 >>> ((24 : Int32) &&& 0x3f).toInt64.toUInt64).toInt64).toInt32).toInt8.toInt32)), (nar .byte ((((q0.toUInt64 >>> ((32 : Int32) &&& 0x3f).toInt64.toUInt64).toInt64).toInt32).toInt8.toInt32))]))]))
        by_cases hc217_34 : (F5 v7_106 v5_78c v6_78c [(nar .byte ((q0.toInt32).toInt8.toInt32)), (nar .byte ((((q0.toUInt64 >>> ((8 : Int32) &&& 0x3f).toInt64.toUInt64).toInt64).toInt32).toInt8.toInt32)), (nar .byte ((((q0.toUInt64 >>> ((16 : Int32) &&& 0x3f).toInt64.toUInt64).toInt64).toInt32).toInt8.toInt32)), (nar .byte ((((q0.toUInt64 >>> ((24 : Int32) &&& 0x3f).toInt64.toUInt64).toInt64).toInt32).toInt8.toInt32)), (nar .byte ((((q0.toUInt64 >>> ((32 : Int32) &&& 0x3f).toInt64.toUInt64).toInt64).toInt32).toInt8.toInt32))]) = w0_206
        · rewrite [if_pos hc217_34]
          refine Go.of (fun t k => XS.icmpNo X33.here hx rfl (hb hby at_217) rfl (teq hc217_34).2 k) ?_
          show Go p e below s _ _ _ (T33.setTop (mkF m 220 #[.val (.long q0), .second, .val (.int p1), .val (.int p2), .val (.ref b1), .val (.int v5_78c), .val (.int v6_78c), .val (.int v7_106), .val (.ref b13), .val (.int w0_206)] []))
          refine Go.of (fun t k => XS.iconst X33.here hx rfl (hb hby at_220) k) ?_
          show Go p e below s _ _ _ (T33.setTop (mkF m 221 #[.val (.long q0), .second, .val (.int p1), .val (.int p2), .val (.ref b1), .val (.int v5_78c), .val (.int v6_78c), .val (.int v7_106), .val (.ref b13), .val (.int w0_206)] [(.int (1 : Int32))]))
          refine Go.of (fun t k => XS.goto X33.here hx rfl (pc0 := 221) (pc' := 225) rfl (hb hby at_221) (by decide) (by decide) k) ?_
          show Go p e below s _ _ _ (T33.setTop (mkF m 225 #[.val (.long q0), .second, .val (.int p1), .val (.int p2), .val (.ref b1), .val (.int v5_78c), .val (.int v6_78c), .val (.int v7_106), .val (.ref b13), .val (.int w0_206)] [(.int (1 : Int32))]))
          exact Go.ret X33 (some (.int (1 : Int32))) (fun h => by rw [Bd.returns] at h; cases h) hlk ⟨rfl, N33⟩ (by decide) (by decide) (fun fs hr => (retN X33 hx (t := .boolean) Bd.returns (by simp) (hb hby at_225) hr))
        · rewrite [if_neg hc217_34]
          refine Go.of (fun t k => XS.icmpYes X33.here hx rfl (pc0 := 217) (pc' := 224) rfl (hb hby at_217) rfl (feq hc217_34).2 (by decide) (by decide) k) ?_
          show Go p e below s _ _ _ (T33.setTop (mkF m 224 #[.val (.long q0), .second, .val (.int p1), .val (.int p2), .val (.ref b1), .val (.int v5_78c), .val (.int v6_78c), .val (.int v7_106), .val (.ref b13), .val (.int w0_206)] []))
          refine Go.of (fun t k => XS.iconst X33.here hx rfl (hb hby at_224) k) ?_
          show Go p e below s _ _ _ (T33.setTop (mkF m 225 #[.val (.long q0), .second, .val (.int p1), .val (.int p2), .val (.ref b1), .val (.int v5_78c), .val (.int v6_78c), .val (.int v7_106), .val (.ref b13), .val (.int w0_206)] [(.int (0 : Int32))]))
          exact Go.ret X33 (some (.int (0 : Int32))) (fun h => by rw [Bd.returns] at h; cases h) hlk ⟨rfl, N33⟩ (by decide) (by decide) (fun fs hr => (retN X33 hx (t := .boolean) Bd.returns (by simp) (hb hby at_225) hr))
      have jn201 : ∀ (T_201 : State) (l_201 : List Loc) (X_201 : Stand p l e room_1 s m #[(.long q0), (.int p1), (.int p2)] below meth c T_201 l_201 3 8) (e_201 : T_201.heap = T26.heap) (N_201 : Fr n0 l_201), Go p e below s (QL (some (.int (F0_201 q0 v5_78c v6_78c v7_106))) n0) room_1.cells room_1.slots (T_201.setTop (mkF m 201 #[.val (.long q0), .second, .val (.int p1), .val (.int p2), .val (.ref b1), .val (.int v5_78c), .val (.int v6_78c), .val (.int v7_106), .val (.ref b13), .unset] [])) := by
        intro T_201 l_201 X_201 e_201 N_201
        unfold F0_201
        refine Go.of (fun t k => XS.iconst X_201.here hx rfl (hb hby at_201) k) ?_
        show Go p e below s _ _ _ (T_201.setTop (mkF m 202 #[.val (.long q0), .second, .val (.int p1), .val (.int p2), .val (.ref b1), .val (.int v5_78c), .val (.int v6_78c), .val (.int v7_106), .val (.ref b13), .unset] [(.int (1 : Int32))]))
        refine Go.of (fun t k => XS.goto X_201.here hx rfl (pc0 := 202) (pc' := 206) rfl (hb hby at_202) (by decide) (by decide) k) ?_
        show Go p e below s _ _ _ (T_201.setTop (mkF m 206 #[.val (.long q0), .second, .val (.int p1), .val (.int p2), .val (.ref b1), .val (.int v5_78c), .val (.int v6_78c), .val (.int v7_106), .val (.ref b13), .unset] [(.int (1 : Int32))]))
        exact jn206 (1 : Int32)  T_201 _ X_201 e_201 N_201  
      by_cases hc138_35 : (F4 v5_78c v6_78c (0 : Int32) v7_106 [(nar .byte ((q0.toInt32).toInt8.toInt32)), (nar .byte ((((q0.toUInt64 >>> ((8 : Int32) &&& 0x3f).toInt64.toUInt64).toInt64).toInt32).toInt8.toInt32)), (nar .byte ((((q0.toUInt64 >>> ((16 : Int32) &&& 0x3f).toInt64.toUInt64).toInt64).toInt32).toInt8.toInt32)), (nar .byte ((((q0.toUInt64 >>> ((24 : Int32) &&& 0x3f).toInt64.toUInt64).toInt64).toInt32).toInt8.toInt32)), (nar .byte ((((q0.toUInt64 >>> ((32 : Int32) &&& 0x3f).toInt64.toUInt64).toInt64).toInt32).toInt8.toInt32))]) = (0 : Int32)
      · rewrite [if_pos hc138_35]
        refine Go.of (fun t k => XS.ifNo X32.here hx rfl (hb hby at_138) rfl ((if0 _ _).trans (teq hc138_35).2) k) ?_
        show Go p e below s _ _ _ (T32.setTop (mkF m 141 #[.val (.long q0), .second, .val (.int p1), .val (.int p2), .val (.ref b1), .val (.int v5_78c), .val (.int v6_78c), .val (.int v7_106), .val (.ref b13), .unset] []))
        refine Go.of (fun t k => XS.aload X32.here hx rfl (hb hby at_141) rfl rfl k) ?_
        show Go p e below s _ _ _ (T32.setTop (mkF m 143 #[.val (.long q0), .second, .val (.int p1), .val (.int p2), .val (.ref b1), .val (.int v5_78c), .val (.int v6_78c), .val (.int v7_106), .val (.ref b13), .unset] [(.ref b1)]))
        refine Go.of (fun t k => XS.iload X32.here hx rfl (hb hby at_143) rfl k) ?_
        show Go p e below s _ _ _ (T32.setTop (mkF m 145 #[.val (.long q0), .second, .val (.int p1), .val (.int p2), .val (.ref b1), .val (.int v5_78c), .val (.int v6_78c), .val (.int v7_106), .val (.ref b13), .unset] [(.int v5_78c), (.ref b1)]))
        refine Go.of (fun t k => XS.iload X32.here hx rfl (hb hby at_145) rfl k) ?_
        show Go p e below s _ _ _ (T32.setTop (mkF m 147 #[.val (.long q0), .second, .val (.int p1), .val (.int p2), .val (.ref b1), .val (.int v5_78c), .val (.int v6_78c), .val (.int v7_106), .val (.ref b13), .unset] [(.int v6_78c), (.int v5_78c), (.ref b1)]))
        refine Go.of (fun t k => XS.iconst X32.here hx rfl (hb hby at_147) k) ?_
        show Go p e below s _ _ _ (T32.setTop (mkF m 148 #[.val (.long q0), .second, .val (.int p1), .val (.int p2), .val (.ref b1), .val (.int v5_78c), .val (.int v6_78c), .val (.int v7_106), .val (.ref b13), .unset] [(.int (1 : Int32)), (.int v6_78c), (.int v5_78c), (.ref b1)]))
        refine Go.of (fun t k => XS.iload X32.here hx rfl (hb hby at_148) rfl k) ?_
        show Go p e below s _ _ _ (T32.setTop (mkF m 150 #[.val (.long q0), .second, .val (.int p1), .val (.int p2), .val (.ref b1), .val (.int v5_78c), .val (.int v6_78c), .val (.int v7_106), .val (.ref b13), .unset] [(.int v7_106), (.int (1 : Int32)), (.int v6_78c), (.int v5_78c), (.ref b1)]))
        obtain ⟨_, _, ⟨T36, L36, k36, n36⟩, -, X36, ⟨Lc36, hQ36, l36, y36, z36⟩, st36⟩ := Jvm.LawKit.callS X32 hx (y := (⟨"com/example/tallyfold/tallyfold/BytesContainsPinLaw", "hit", "([BIIIB)Z"⟩ : MethodName)) hown (mvT hZ (hw _ (List.mem_of_getElem? (i := 21) rfl))) (mvT hZ (hw _ (List.mem_of_getElem? (i := 22) rfl))) (mvT hZ (hw _ (List.mem_of_getElem? (i := 23) rfl))) (mvT hZ (hw _ (List.mem_of_getElem? (i := 24) rfl))) (by decide) (backOf (W := 0) (rm4 l Z az hw [] b1 v5_78c v6_78c (1 : Int32) v7_106 k1 [(nar .byte ((q0.toInt32).toInt8.toInt32)), (nar .byte ((((q0.toUInt64 >>> ((8 : Int32) &&& 0x3f).toInt64.toUInt64).toInt64).toInt32).toInt8.toInt32)), (nar .byte ((((q0.toUInt64 >>> ((16 : Int32) &&& 0x3f).toInt64.toUInt64).toInt64).toInt32).toInt8.toInt32)), (nar .byte ((((q0.toUInt64 >>> ((24 : Int32) &&& 0x3f).toInt64.toUInt64).toInt64).toInt32).toInt8.toInt32)), (nar .byte ((((q0.toUInt64 >>> ((32 : Int32) &&& 0x3f).toInt64.toUInt64).toInt64).toInt32).toInt8.toInt32))] T26.heap n0 (Nat.le_trans Z0 K26.1) f31 (by decide)) hZ (hw _ (List.mem_of_getElem? (i := 24) rfl)) (hw _ (List.mem_of_getElem? (i := 23) rfl)) (by decide) (by decide)) (g := (mkF m 150 #[.val (.long q0), .second, .val (.int p1), .val (.int p2), .val (.ref b1), .val (.int v5_78c), .val (.int v6_78c), .val (.int v7_106), .val (.ref b13), .unset] [(.int v7_106), (.int (1 : Int32)), (.int v6_78c), (.int v5_78c), (.ref b1)])) rfl (by rw [hml]; rfl) (argsL := [(.ref b1), (.int v5_78c), (.int v6_78c), (.int (1 : Int32)), (.int v7_106)]) (rest := []) (lenOf own_pd2 rfl) rfl (by show 2 * 0 + _ ≤ _; exact Nat.le_of_eq rfl) (hb hby at_150) (fun _ _ => ⟨rfl, e32, (by decide : 3 + 0 ≤ _), (by decide : 8 + 0 ≤ _)⟩)
        dsimp only [Pt.U, Pt.locs, Pt.cells, Pt.slots] at X36 l36 y36 z36 st36 hQ36
        subst l36 y36 z36
        obtain ⟨rfl, N36q, e36⟩ := hQ36
        have N36 := Fr.app N32 N36q
        refine Go.of st36 ?_
        show Go p e below s _ _ _ (T36.setTop (mkF m 153 #[.val (.long q0), .second, .val (.int p1), .val (.int p2), .val (.ref b1), .val (.int v5_78c), .val (.int v6_78c), .val (.int v7_106), .val (.ref b13), .unset] [(.int (F4 v5_78c v6_78c (1 : Int32) v7_106 [(nar .byte ((q0.toInt32).toInt8.toInt32)), (nar .byte ((((q0.toUInt64 >>> ((8 : Int32) &&& 0x3f).toInt64.toUInt64).toInt64).toInt32).toInt8.toInt32)), (nar .byte ((((q0.toUInt64 >>> ((16 : Int32) &&& 0x3f).toInt64.toUInt64).toInt64).toInt32).toInt8.toInt32)), (nar .byte ((((q0.toUInt64 >>> ((24 : Int32) &&& 0x3f).toInt64.toUInt64).toInt64).toInt32).toInt8.toInt32)), (nar .byte ((((q0.toUInt64 >>> ((32 : Int32) &&& 0x3f).toInt64.toUInt64).toInt64).toInt32).toInt8.toInt32))]))]))
        by_cases hc153_37 : (F4 v5_78c v6_78c (1 : Int32) v7_106 [(nar .byte ((q0.toInt32).toInt8.toInt32)), (nar .byte ((((q0.toUInt64 >>> ((8 : Int32) &&& 0x3f).toInt64.toUInt64).toInt64).toInt32).toInt8.toInt32)), (nar .byte ((((q0.toUInt64 >>> ((16 : Int32) &&& 0x3f).toInt64.toUInt64).toInt64).toInt32).toInt8.toInt32)), (nar .byte ((((q0.toUInt64 >>> ((24 : Int32) &&& 0x3f).toInt64.toUInt64).toInt64).toInt32).toInt8.toInt32)), (nar .byte ((((q0.toUInt64 >>> ((32 : Int32) &&& 0x3f).toInt64.toUInt64).toInt64).toInt32).toInt8.toInt32))]) = (0 : Int32)
        · rewrite [if_pos hc153_37]
          refine Go.of (fun t k => XS.ifNo X36.here hx rfl (hb hby at_153) rfl ((if0 _ _).trans (teq hc153_37).2) k) ?_
          show Go p e below s _ _ _ (T36.setTop (mkF m 156 #[.val (.long q0), .second, .val (.int p1), .val (.int p2), .val (.ref b1), .val (.int v5_78c), .val (.int v6_78c), .val (.int v7_106), .val (.ref b13), .unset] []))
          refine Go.of (fun t k => XS.aload X36.here hx rfl (hb hby at_156) rfl rfl k) ?_
          show Go p e below s _ _ _ (T36.setTop (mkF m 158 #[.val (.long q0), .second, .val (.int p1), .val (.int p2), .val (.ref b1), .val (.int v5_78c), .val (.int v6_78c), .val (.int v7_106), .val (.ref b13), .unset] [(.ref b1)]))
          refine Go.of (fun t k => XS.iload X36.here hx rfl (hb hby at_158) rfl k) ?_
          show Go p e below s _ _ _ (T36.setTop (mkF m 160 #[.val (.long q0), .second, .val (.int p1), .val (.int p2), .val (.ref b1), .val (.int v5_78c), .val (.int v6_78c), .val (.int v7_106), .val (.ref b13), .unset] [(.int v5_78c), (.ref b1)]))
          refine Go.of (fun t k => XS.iload X36.here hx rfl (hb hby at_160) rfl k) ?_
          show Go p e below s _ _ _ (T36.setTop (mkF m 162 #[.val (.long q0), .second, .val (.int p1), .val (.int p2), .val (.ref b1), .val (.int v5_78c), .val (.int v6_78c), .val (.int v7_106), .val (.ref b13), .unset] [(.int v6_78c), (.int v5_78c), (.ref b1)]))
          refine Go.of (fun t k => XS.iconst X36.here hx rfl (hb hby at_162) k) ?_
          show Go p e below s _ _ _ (T36.setTop (mkF m 163 #[.val (.long q0), .second, .val (.int p1), .val (.int p2), .val (.ref b1), .val (.int v5_78c), .val (.int v6_78c), .val (.int v7_106), .val (.ref b13), .unset] [(.int (2 : Int32)), (.int v6_78c), (.int v5_78c), (.ref b1)]))
          refine Go.of (fun t k => XS.iload X36.here hx rfl (hb hby at_163) rfl k) ?_
          show Go p e below s _ _ _ (T36.setTop (mkF m 165 #[.val (.long q0), .second, .val (.int p1), .val (.int p2), .val (.ref b1), .val (.int v5_78c), .val (.int v6_78c), .val (.int v7_106), .val (.ref b13), .unset] [(.int v7_106), (.int (2 : Int32)), (.int v6_78c), (.int v5_78c), (.ref b1)]))
          obtain ⟨_, _, ⟨T38, L38, k38, n38⟩, -, X38, ⟨Lc38, hQ38, l38, y38, z38⟩, st38⟩ := Jvm.LawKit.callS X36 hx (y := (⟨"com/example/tallyfold/tallyfold/BytesContainsPinLaw", "hit", "([BIIIB)Z"⟩ : MethodName)) hown (mvT hZ (hw _ (List.mem_of_getElem? (i := 21) rfl))) (mvT hZ (hw _ (List.mem_of_getElem? (i := 22) rfl))) (mvT hZ (hw _ (List.mem_of_getElem? (i := 23) rfl))) (mvT hZ (hw _ (List.mem_of_getElem? (i := 24) rfl))) (by decide) (backOf (W := 0) (rm4 l Z az hw [] b1 v5_78c v6_78c (2 : Int32) v7_106 k1 [(nar .byte ((q0.toInt32).toInt8.toInt32)), (nar .byte ((((q0.toUInt64 >>> ((8 : Int32) &&& 0x3f).toInt64.toUInt64).toInt64).toInt32).toInt8.toInt32)), (nar .byte ((((q0.toUInt64 >>> ((16 : Int32) &&& 0x3f).toInt64.toUInt64).toInt64).toInt32).toInt8.toInt32)), (nar .byte ((((q0.toUInt64 >>> ((24 : Int32) &&& 0x3f).toInt64.toUInt64).toInt64).toInt32).toInt8.toInt32)), (nar .byte ((((q0.toUInt64 >>> ((32 : Int32) &&& 0x3f).toInt64.toUInt64).toInt64).toInt32).toInt8.toInt32))] T26.heap n0 (Nat.le_trans Z0 K26.1) f31 (by decide)) hZ (hw _ (List.mem_of_getElem? (i := 24) rfl)) (hw _ (List.mem_of_getElem? (i := 23) rfl)) (by decide) (by decide)) (g := (mkF m 165 #[.val (.long q0), .second, .val (.int p1), .val (.int p2), .val (.ref b1), .val (.int v5_78c), .val (.int v6_78c), .val (.int v7_106), .val (.ref b13), .unset] [(.int v7_106), (.int (2 : Int32)), (.int v6_78c), (.int v5_78c), (.ref b1)])) rfl (by rw [hml]; rfl) (argsL := [(.ref b1), (.int v5_78c), (.int v6_78c), (.int (2 : Int32)), (.int v7_106)]) (rest := []) (lenOf own_pd2 rfl) rfl (by show 2 * 0 + _ ≤ _; exact Nat.le_of_eq rfl) (hb hby at_165) (fun _ _ => ⟨rfl, e36, (by decide : 3 + 0 ≤ _), (by decide : 8 + 0 ≤ _)⟩)
          dsimp only [Pt.U, Pt.locs, Pt.cells, Pt.slots] at X38 l38 y38 z38 st38 hQ38
          subst l38 y38 z38
          obtain ⟨rfl, N38q, e38⟩ := hQ38
          have N38 := Fr.app N36 N38q
          refine Go.of st38 ?_
          show Go p e below s _ _ _ (T38.setTop (mkF m 168 #[.val (.long q0), .second, .val (.int p1), .val (.int p2), .val (.ref b1), .val (.int v5_78c), .val (.int v6_78c), .val (.int v7_106), .val (.ref b13), .unset] [(.int (F4 v5_78c v6_78c (2 : Int32) v7_106 [(nar .byte ((q0.toInt32).toInt8.toInt32)), (nar .byte ((((q0.toUInt64 >>> ((8 : Int32) &&& 0x3f).toInt64.toUInt64).toInt64).toInt32).toInt8.toInt32)), (nar .byte ((((q0.toUInt64 >>> ((16 : Int32) &&& 0x3f).toInt64.toUInt64).toInt64).toInt32).toInt8.toInt32)), (nar .byte ((((q0.toUInt64 >>> ((24 : Int32) &&& 0x3f).toInt64.toUInt64).toInt64).toInt32).toInt8.toInt32)), (nar .byte ((((q0.toUInt64 >>> ((32 : Int32) &&& 0x3f).toInt64.toUInt64).toInt64).toInt32).toInt8.toInt32))]))]))
          by_cases hc168_39 : (F4 v5_78c v6_78c (2 : Int32) v7_106 [(nar .byte ((q0.toInt32).toInt8.toInt32)), (nar .byte ((((q0.toUInt64 >>> ((8 : Int32) &&& 0x3f).toInt64.toUInt64).toInt64).toInt32).toInt8.toInt32)), (nar .byte ((((q0.toUInt64 >>> ((16 : Int32) &&& 0x3f).toInt64.toUInt64).toInt64).toInt32).toInt8.toInt32)), (nar .byte ((((q0.toUInt64 >>> ((24 : Int32) &&& 0x3f).toInt64.toUInt64).toInt64).toInt32).toInt8.toInt32)), (nar .byte ((((q0.toUInt64 >>> ((32 : Int32) &&& 0x3f).toInt64.toUInt64).toInt64).toInt32).toInt8.toInt32))]) = (0 : Int32)
          · rewrite [if_pos hc168_39]
            refine Go.of (fun t k => XS.ifNo X38.here hx rfl (hb hby at_168) rfl ((if0 _ _).trans (teq hc168_39).2) k) ?_
            show Go p e below s _ _ _ (T38.setTop (mkF m 171 #[.val (.long q0), .second, .val (.int p1), .val (.int p2), .val (.ref b1), .val (.int v5_78c), .val (.int v6_78c), .val (.int v7_106), .val (.ref b13), .unset] []))
            refine Go.of (fun t k => XS.aload X38.here hx rfl (hb hby at_171) rfl rfl k) ?_
            show Go p e below s _ _ _ (T38.setTop (mkF m 173 #[.val (.long q0), .second, .val (.int p1), .val (.int p2), .val (.ref b1), .val (.int v5_78c), .val (.int v6_78c), .val (.int v7_106), .val (.ref b13), .unset] [(.ref b1)]))
            refine Go.of (fun t k => XS.iload X38.here hx rfl (hb hby at_173) rfl k) ?_
            show Go p e below s _ _ _ (T38.setTop (mkF m 175 #[.val (.long q0), .second, .val (.int p1), .val (.int p2), .val (.ref b1), .val (.int v5_78c), .val (.int v6_78c), .val (.int v7_106), .val (.ref b13), .unset] [(.int v5_78c), (.ref b1)]))
            refine Go.of (fun t k => XS.iload X38.here hx rfl (hb hby at_175) rfl k) ?_
            show Go p e below s _ _ _ (T38.setTop (mkF m 177 #[.val (.long q0), .second, .val (.int p1), .val (.int p2), .val (.ref b1), .val (.int v5_78c), .val (.int v6_78c), .val (.int v7_106), .val (.ref b13), .unset] [(.int v6_78c), (.int v5_78c), (.ref b1)]))
            refine Go.of (fun t k => XS.iconst X38.here hx rfl (hb hby at_177) k) ?_
            show Go p e below s _ _ _ (T38.setTop (mkF m 178 #[.val (.long q0), .second, .val (.int p1), .val (.int p2), .val (.ref b1), .val (.int v5_78c), .val (.int v6_78c), .val (.int v7_106), .val (.ref b13), .unset] [(.int (3 : Int32)), (.int v6_78c), (.int v5_78c), (.ref b1)]))
            refine Go.of (fun t k => XS.iload X38.here hx rfl (hb hby at_178) rfl k) ?_
            show Go p e below s _ _ _ (T38.setTop (mkF m 180 #[.val (.long q0), .second, .val (.int p1), .val (.int p2), .val (.ref b1), .val (.int v5_78c), .val (.int v6_78c), .val (.int v7_106), .val (.ref b13), .unset] [(.int v7_106), (.int (3 : Int32)), (.int v6_78c), (.int v5_78c), (.ref b1)]))
            obtain ⟨_, _, ⟨T40, L40, k40, n40⟩, -, X40, ⟨Lc40, hQ40, l40, y40, z40⟩, st40⟩ := Jvm.LawKit.callS X38 hx (y := (⟨"com/example/tallyfold/tallyfold/BytesContainsPinLaw", "hit", "([BIIIB)Z"⟩ : MethodName)) hown (mvT hZ (hw _ (List.mem_of_getElem? (i := 21) rfl))) (mvT hZ (hw _ (List.mem_of_getElem? (i := 22) rfl))) (mvT hZ (hw _ (List.mem_of_getElem? (i := 23) rfl))) (mvT hZ (hw _ (List.mem_of_getElem? (i := 24) rfl))) (by decide) (backOf (W := 0) (rm4 l Z az hw [] b1 v5_78c v6_78c (3 : Int32) v7_106 k1 [(nar .byte ((q0.toInt32).toInt8.toInt32)), (nar .byte ((((q0.toUInt64 >>> ((8 : Int32) &&& 0x3f).toInt64.toUInt64).toInt64).toInt32).toInt8.toInt32)), (nar .byte ((((q0.toUInt64 >>> ((16 : Int32) &&& 0x3f).toInt64.toUInt64).toInt64).toInt32).toInt8.toInt32)), (nar .byte ((((q0.toUInt64 >>> ((24 : Int32) &&& 0x3f).toInt64.toUInt64).toInt64).toInt32).toInt8.toInt32)), (nar .byte ((((q0.toUInt64 >>> ((32 : Int32) &&& 0x3f).toInt64.toUInt64).toInt64).toInt32).toInt8.toInt32))] T26.heap n0 (Nat.le_trans Z0 K26.1) f31 (by decide)) hZ (hw _ (List.mem_of_getElem? (i := 24) rfl)) (hw _ (List.mem_of_getElem? (i := 23) rfl)) (by decide) (by decide)) (g := (mkF m 180 #[.val (.long q0), .second, .val (.int p1), .val (.int p2), .val (.ref b1), .val (.int v5_78c), .val (.int v6_78c), .val (.int v7_106), .val (.ref b13), .unset] [(.int v7_106), (.int (3 : Int32)), (.int v6_78c), (.int v5_78c), (.ref b1)])) rfl (by rw [hml]; rfl) (argsL := [(.ref b1), (.int v5_78c), (.int v6_78c), (.int (3 : Int32)), (.int v7_106)]) (rest := []) (lenOf own_pd2 rfl) rfl (by show 2 * 0 + _ ≤ _; exact Nat.le_of_eq rfl) (hb hby at_180) (fun _ _ => ⟨rfl, e38, (by decide : 3 + 0 ≤ _), (by decide : 8 + 0 ≤ _)⟩)
            dsimp only [Pt.U, Pt.locs, Pt.cells, Pt.slots] at X40 l40 y40 z40 st40 hQ40
            subst l40 y40 z40
            obtain ⟨rfl, N40q, e40⟩ := hQ40
            have N40 := Fr.app N38 N40q
            refine Go.of st40 ?_
            show Go p e below s _ _ _ (T40.setTop (mkF m 183 #[.val (.long q0), .second, .val (.int p1), .val (.int p2), .val (.ref b1), .val (.int v5_78c), .val (.int v6_78c), .val (.int v7_106), .val (.ref b13), .unset] [(.int (F4 v5_78c v6_78c (3 : Int32) v7_106 [(nar .byte ((q0.toInt32).toInt8.toInt32)), (nar .byte ((((q0.toUInt64 >>> ((8 : Int32) &&& 0x3f).toInt64.toUInt64).toInt64).toInt32).toInt8.toInt32)), (nar .byte ((((q0.toUInt64 >>> ((16 : Int32) &&& 0x3f).toInt64.toUInt64).toInt64).toInt32).toInt8.toInt32)), (nar .byte ((((q0.toUInt64 >>> ((24 : Int32) &&& 0x3f).toInt64.toUInt64).toInt64).toInt32).toInt8.toInt32)), (nar .byte ((((q0.toUInt64 >>> ((32 : Int32) &&& 0x3f).toInt64.toUInt64).toInt64).toInt32).toInt8.toInt32))]))]))
            by_cases hc183_41 : (F4 v5_78c v6_78c (3 : Int32) v7_106 [(nar .byte ((q0.toInt32).toInt8.toInt32)), (nar .byte ((((q0.toUInt64 >>> ((8 : Int32) &&& 0x3f).toInt64.toUInt64).toInt64).toInt32).toInt8.toInt32)), (nar .byte ((((q0.toUInt64 >>> ((16 : Int32) &&& 0x3f).toInt64.toUInt64).toInt64).toInt32).toInt8.toInt32)), (nar .byte ((((q0.toUInt64 >>> ((24 : Int32) &&& 0x3f).toInt64.toUInt64).toInt64).toInt32).toInt8.toInt32)), (nar .byte ((((q0.toUInt64 >>> ((32 : Int32) &&& 0x3f).toInt64.toUInt64).toInt64).toInt32).toInt8.toInt32))]) = (0 : Int32)
            · rewrite [if_pos hc183_41]
              refine Go.of (fun t k => XS.ifNo X40.here hx rfl (hb hby at_183) rfl ((if0 _ _).trans (teq hc183_41).2) k) ?_
              show Go p e below s _ _ _ (T40.setTop (mkF m 186 #[.val (.long q0), .second, .val (.int p1), .val (.int p2), .val (.ref b1), .val (.int v5_78c), .val (.int v6_78c), .val (.int v7_106), .val (.ref b13), .unset] []))
              refine Go.of (fun t k => XS.aload X40.here hx rfl (hb hby at_186) rfl rfl k) ?_
              show Go p e below s _ _ _ (T40.setTop (mkF m 188 #[.val (.long q0), .second, .val (.int p1), .val (.int p2), .val (.ref b1), .val (.int v5_78c), .val (.int v6_78c), .val (.int v7_106), .val (.ref b13), .unset] [(.ref b1)]))
              refine Go.of (fun t k => XS.iload X40.here hx rfl (hb hby at_188) rfl k) ?_
              show Go p e below s _ _ _ (T40.setTop (mkF m 190 #[.val (.long q0), .second, .val (.int p1), .val (.int p2), .val (.ref b1), .val (.int v5_78c), .val (.int v6_78c), .val (.int v7_106), .val (.ref b13), .unset] [(.int v5_78c), (.ref b1)]))
              refine Go.of (fun t k => XS.iload X40.here hx rfl (hb hby at_190) rfl k) ?_
              show Go p e below s _ _ _ (T40.setTop (mkF m 192 #[.val (.long q0), .second, .val (.int p1), .val (.int p2), .val (.ref b1), .val (.int v5_78c), .val (.int v6_78c), .val (.int v7_106), .val (.ref b13), .unset] [(.int v6_78c), (.int v5_78c), (.ref b1)]))
              refine Go.of (fun t k => XS.iconst X40.here hx rfl (hb hby at_192) k) ?_
              show Go p e below s _ _ _ (T40.setTop (mkF m 193 #[.val (.long q0), .second, .val (.int p1), .val (.int p2), .val (.ref b1), .val (.int v5_78c), .val (.int v6_78c), .val (.int v7_106), .val (.ref b13), .unset] [(.int (4 : Int32)), (.int v6_78c), (.int v5_78c), (.ref b1)]))
              refine Go.of (fun t k => XS.iload X40.here hx rfl (hb hby at_193) rfl k) ?_
              show Go p e below s _ _ _ (T40.setTop (mkF m 195 #[.val (.long q0), .second, .val (.int p1), .val (.int p2), .val (.ref b1), .val (.int v5_78c), .val (.int v6_78c), .val (.int v7_106), .val (.ref b13), .unset] [(.int v7_106), (.int (4 : Int32)), (.int v6_78c), (.int v5_78c), (.ref b1)]))
              obtain ⟨_, _, ⟨T42, L42, k42, n42⟩, -, X42, ⟨Lc42, hQ42, l42, y42, z42⟩, st42⟩ := Jvm.LawKit.callS X40 hx (y := (⟨"com/example/tallyfold/tallyfold/BytesContainsPinLaw", "hit", "([BIIIB)Z"⟩ : MethodName)) hown (mvT hZ (hw _ (List.mem_of_getElem? (i := 21) rfl))) (mvT hZ (hw _ (List.mem_of_getElem? (i := 22) rfl))) (mvT hZ (hw _ (List.mem_of_getElem? (i := 23) rfl))) (mvT hZ (hw _ (List.mem_of_getElem? (i := 24) rfl))) (by decide) (backOf (W := 0) (rm4 l Z az hw [] b1 v5_78c v6_78c (4 : Int32) v7_106 k1 [(nar .byte ((q0.toInt32).toInt8.toInt32)), (nar .byte ((((q0.toUInt64 >>> ((8 : Int32) &&& 0x3f).toInt64.toUInt64).toInt64).toInt32).toInt8.toInt32)), (nar .byte ((((q0.toUInt64 >>> ((16 : Int32) &&& 0x3f).toInt64.toUInt64).toInt64).toInt32).toInt8.toInt32)), (nar .byte ((((q0.toUInt64 >>> ((24 : Int32) &&& 0x3f).toInt64.toUInt64).toInt64).toInt32).toInt8.toInt32)), (nar .byte ((((q0.toUInt64 >>> ((32 : Int32) &&& 0x3f).toInt64.toUInt64).toInt64).toInt32).toInt8.toInt32))] T26.heap n0 (Nat.le_trans Z0 K26.1) f31 (by decide)) hZ (hw _ (List.mem_of_getElem? (i := 24) rfl)) (hw _ (List.mem_of_getElem? (i := 23) rfl)) (by decide) (by decide)) (g := (mkF m 195 #[.val (.long q0), .second, .val (.int p1), .val (.int p2), .val (.ref b1), .val (.int v5_78c), .val (.int v6_78c), .val (.int v7_106), .val (.ref b13), .unset] [(.int v7_106), (.int (4 : Int32)), (.int v6_78c), (.int v5_78c), (.ref b1)])) rfl (by rw [hml]; rfl) (argsL := [(.ref b1), (.int v5_78c), (.int v6_78c), (.int (4 : Int32)), (.int v7_106)]) (rest := []) (lenOf own_pd2 rfl) rfl (by show 2 * 0 + _ ≤ _; exact Nat.le_of_eq rfl) (hb hby at_195) (fun _ _ => ⟨rfl, e40, (by decide : 3 + 0 ≤ _), (by decide : 8 + 0 ≤ _)⟩)
              dsimp only [Pt.U, Pt.locs, Pt.cells, Pt.slots] at X42 l42 y42 z42 st42 hQ42
              subst l42 y42 z42
              obtain ⟨rfl, N42q, e42⟩ := hQ42
              have N42 := Fr.app N40 N42q
              refine Go.of st42 ?_
              show Go p e below s _ _ _ (T42.setTop (mkF m 198 #[.val (.long q0), .second, .val (.int p1), .val (.int p2), .val (.ref b1), .val (.int v5_78c), .val (.int v6_78c), .val (.int v7_106), .val (.ref b13), .unset] [(.int (F4 v5_78c v6_78c (4 : Int32) v7_106 [(nar .byte ((q0.toInt32).toInt8.toInt32)), (nar .byte ((((q0.toUInt64 >>> ((8 : Int32) &&& 0x3f).toInt64.toUInt64).toInt64).toInt32).toInt8.toInt32)), (nar .byte ((((q0.toUInt64 >>> ((16 : Int32) &&& 0x3f).toInt64.toUInt64).toInt64).toInt32).toInt8.toInt32)), (nar .byte ((((q0.toUInt64 >>> ((24 : Int32) &&& 0x3f).toInt64.toUInt64).toInt64).toInt32).toInt8.toInt32)), (nar .byte ((((q0.toUInt64 >>> ((32 : Int32) &&& 0x3f).toInt64.toUInt64).toInt64).toInt32).toInt8.toInt32))]))]))
              by_cases hc198_43 : (F4 v5_78c v6_78c (4 : Int32) v7_106 [(nar .byte ((q0.toInt32).toInt8.toInt32)), (nar .byte ((((q0.toUInt64 >>> ((8 : Int32) &&& 0x3f).toInt64.toUInt64).toInt64).toInt32).toInt8.toInt32)), (nar .byte ((((q0.toUInt64 >>> ((16 : Int32) &&& 0x3f).toInt64.toUInt64).toInt64).toInt32).toInt8.toInt32)), (nar .byte ((((q0.toUInt64 >>> ((24 : Int32) &&& 0x3f).toInt64.toUInt64).toInt64).toInt32).toInt8.toInt32)), (nar .byte ((((q0.toUInt64 >>> ((32 : Int32) &&& 0x3f).toInt64.toUInt64).toInt64).toInt32).toInt8.toInt32))]) = (0 : Int32)
              · rewrite [if_pos hc198_43]
                refine Go.of (fun t k => XS.ifYes X42.here hx rfl (pc0 := 198) (pc' := 205) rfl (hb hby at_198) rfl ((if0 _ _).trans (teq hc198_43).1) (by decide) (by decide) k) ?_
                show Go p e below s _ _ _ (T42.setTop (mkF m 205 #[.val (.long q0), .second, .val (.int p1), .val (.int p2), .val (.ref b1), .val (.int v5_78c), .val (.int v6_78c), .val (.int v7_106), .val (.ref b13), .unset] []))
                refine Go.of (fun t k => XS.iconst X42.here hx rfl (hb hby at_205) k) ?_
                show Go p e below s _ _ _ (T42.setTop (mkF m 206 #[.val (.long q0), .second, .val (.int p1), .val (.int p2), .val (.ref b1), .val (.int v5_78c), .val (.int v6_78c), .val (.int v7_106), .val (.ref b13), .unset] [(.int (0 : Int32))]))
                exact jn206 (0 : Int32)  T42 _ X42 e42 N42  
              · rewrite [if_neg hc198_43]
                refine Go.of (fun t k => XS.ifNo X42.here hx rfl (hb hby at_198) rfl ((if0 _ _).trans (feq hc198_43).1) k) ?_
                show Go p e below s _ _ _ (T42.setTop (mkF m 201 #[.val (.long q0), .second, .val (.int p1), .val (.int p2), .val (.ref b1), .val (.int v5_78c), .val (.int v6_78c), .val (.int v7_106), .val (.ref b13), .unset] []))
                exact jn201   T42 _ X42 e42 N42  
            · rewrite [if_neg hc183_41]
              refine Go.of (fun t k => XS.ifYes X40.here hx rfl (pc0 := 183) (pc' := 201) rfl (hb hby at_183) rfl ((if0 _ _).trans (feq hc183_41).2) (by decide) (by decide) k) ?_
              show Go p e below s _ _ _ (T40.setTop (mkF m 201 #[.val (.long q0), .second, .val (.int p1), .val (.int p2), .val (.ref b1), .val (.int v5_78c), .val (.int v6_78c), .val (.int v7_106), .val (.ref b13), .unset] []))
              exact jn201   T40 _ X40 e40 N40  
          · rewrite [if_neg hc168_39]
            refine Go.of (fun t k => XS.ifYes X38.here hx rfl (pc0 := 168) (pc' := 201) rfl (hb hby at_168) rfl ((if0 _ _).trans (feq hc168_39).2) (by decide) (by decide) k) ?_
            show Go p e below s _ _ _ (T38.setTop (mkF m 201 #[.val (.long q0), .second, .val (.int p1), .val (.int p2), .val (.ref b1), .val (.int v5_78c), .val (.int v6_78c), .val (.int v7_106), .val (.ref b13), .unset] []))
            exact jn201   T38 _ X38 e38 N38  
        · rewrite [if_neg hc153_37]
          refine Go.of (fun t k => XS.ifYes X36.here hx rfl (pc0 := 153) (pc' := 201) rfl (hb hby at_153) rfl ((if0 _ _).trans (feq hc153_37).2) (by decide) (by decide) k) ?_
          show Go p e below s _ _ _ (T36.setTop (mkF m 201 #[.val (.long q0), .second, .val (.int p1), .val (.int p2), .val (.ref b1), .val (.int v5_78c), .val (.int v6_78c), .val (.int v7_106), .val (.ref b13), .unset] []))
          exact jn201   T36 _ X36 e36 N36  
      · rewrite [if_neg hc138_35]
        refine Go.of (fun t k => XS.ifYes X32.here hx rfl (pc0 := 138) (pc' := 201) rfl (hb hby at_138) rfl ((if0 _ _).trans (feq hc138_35).2) (by decide) (by decide) k) ?_
        show Go p e below s _ _ _ (T32.setTop (mkF m 201 #[.val (.long q0), .second, .val (.int p1), .val (.int p2), .val (.ref b1), .val (.int v5_78c), .val (.int v6_78c), .val (.int v7_106), .val (.ref b13), .unset] []))
        exact jn201   T32 _ X32 e32 N32  
    by_cases hc81_44 : (p2 &&& (1 : Int32)) = (0 : Int32)
    · rewrite [if_pos hc81_44]
      refine Go.of (fun t k => XS.ifYes X11.here hx rfl (pc0 := 81) (pc' := 100) rfl (hb hby at_81) rfl ((if0 _ _).trans (teq hc81_44).1) (by decide) (by decide) k) ?_
      show Go p e below s _ _ _ (T11.setTop (mkF m 100 #[.val (.long q0), .second, .val (.int p1), .val (.int p2), .val (.ref b1), .val (.int v5_78c), .val (.int v6_78c), .unset, .unset, .unset] []))
      refine Go.of (fun t k => XS.iloadN X11.here hx rfl (hb hby at_100) rfl k) ?_
      show Go p e below s _ _ _ (T11.setTop (mkF m 101 #[.val (.long q0), .second, .val (.int p1), .val (.int p2), .val (.ref b1), .val (.int v5_78c), .val (.int v6_78c), .unset, .unset, .unset] [(.int p2)]))
      refine Go.of (fun t k => XS.iconst X11.here hx rfl (hb hby at_101) k) ?_
      show Go p e below s _ _ _ (T11.setTop (mkF m 102 #[.val (.long q0), .second, .val (.int p1), .val (.int p2), .val (.ref b1), .val (.int v5_78c), .val (.int v6_78c), .unset, .unset, .unset] [(.int (1 : Int32)), (.int p2)]))
      refine Go.of (fun t k => XS.iushr X11.here hx rfl (hb hby at_102) rfl k) ?_
      show Go p e below s _ _ _ (T11.setTop (mkF m 103 #[.val (.long q0), .second, .val (.int p1), .val (.int p2), .val (.ref b1), .val (.int v5_78c), .val (.int v6_78c), .unset, .unset, .unset] [(.int ((p2.toUInt32 >>> ((1 : Int32) &&& 31).toUInt32).toInt32))]))
      refine Go.of (fun t k => XS.i2b X11.here hx rfl (hb hby at_103) rfl k) ?_
      show Go p e below s _ _ _ (T11.setTop (mkF m 104 #[.val (.long q0), .second, .val (.int p1), .val (.int p2), .val (.ref b1), .val (.int v5_78c), .val (.int v6_78c), .unset, .unset, .unset] [(.int (((p2.toUInt32 >>> ((1 : Int32) &&& 31).toUInt32).toInt32).toInt8.toInt32))]))
      refine Go.of (fun t k => XS.istore X11.here hx rfl (hb hby at_104) rfl (l' := #[.val (.long q0), .second, .val (.int p1), .val (.int p2), .val (.ref b1), .val (.int v5_78c), .val (.int v6_78c), .val (.int (((p2.toUInt32 >>> ((1 : Int32) &&& 31).toUInt32).toInt32).toInt8.toInt32)), .unset, .unset]) rfl k) ?_
      show Go p e below s _ _ _ (T11.setTop (mkF m 106 #[.val (.long q0), .second, .val (.int p1), .val (.int p2), .val (.ref b1), .val (.int v5_78c), .val (.int v6_78c), .val (.int (((p2.toUInt32 >>> ((1 : Int32) &&& 31).toUInt32).toInt32).toInt8.toInt32)), .unset, .unset] []))
      exact jn106 (((p2.toUInt32 >>> ((1 : Int32) &&& 31).toUInt32).toInt32).toInt8.toInt32)  T11 _ X11 e11 N11  
    · rewrite [if_neg hc81_44]
      refine Go.of (fun t k => XS.ifNo X11.here hx rfl (hb hby at_81) rfl ((if0 _ _).trans (feq hc81_44).1) k) ?_
      show Go p e below s _ _ _ (T11.setTop (mkF m 84 #[.val (.long q0), .second, .val (.int p1), .val (.int p2), .val (.ref b1), .val (.int v5_78c), .val (.int v6_78c), .unset, .unset, .unset] []))
      refine Go.of (fun t k => XS.aload X11.here hx rfl (hb hby at_84) rfl rfl k) ?_
      show Go p e below s _ _ _ (T11.setTop (mkF m 86 #[.val (.long q0), .second, .val (.int p1), .val (.int p2), .val (.ref b1), .val (.int v5_78c), .val (.int v6_78c), .unset, .unset, .unset] [(.ref b1)]))
      refine Go.of (fun t k => XS.iloadN X11.here hx rfl (hb hby at_86) rfl k) ?_
      show Go p e below s _ _ _ (T11.setTop (mkF m 87 #[.val (.long q0), .second, .val (.int p1), .val (.int p2), .val (.ref b1), .val (.int v5_78c), .val (.int v6_78c), .unset, .unset, .unset] [(.int p2), (.ref b1)]))
      refine Go.of (fun t k => XS.iconst X11.here hx rfl (hb hby at_87) k) ?_
      show Go p e below s _ _ _ (T11.setTop (mkF m 88 #[.val (.long q0), .second, .val (.int p1), .val (.int p2), .val (.ref b1), .val (.int v5_78c), .val (.int v6_78c), .unset, .unset, .unset] [(.int (1 : Int32)), (.int p2), (.ref b1)]))
      refine Go.of (fun t k => XS.iushr X11.here hx rfl (hb hby at_88) rfl k) ?_
      show Go p e below s _ _ _ (T11.setTop (mkF m 89 #[.val (.long q0), .second, .val (.int p1), .val (.int p2), .val (.ref b1), .val (.int v5_78c), .val (.int v6_78c), .unset, .unset, .unset] [(.int ((p2.toUInt32 >>> ((1 : Int32) &&& 31).toUInt32).toInt32)), (.ref b1)]))
      refine Go.of (fun t k => XS.bipush X11.here hx rfl (hb hby at_89) k) ?_
      show Go p e below s _ _ _ (T11.setTop (mkF m 91 #[.val (.long q0), .second, .val (.int p1), .val (.int p2), .val (.ref b1), .val (.int v5_78c), .val (.int v6_78c), .unset, .unset, .unset] [(.int (7 : Int32)), (.int ((p2.toUInt32 >>> ((1 : Int32) &&& 31).toUInt32).toInt32)), (.ref b1)]))
      refine Go.of (fun t k => XS.iand X11.here hx rfl (hb hby at_91) rfl k) ?_
      show Go p e below s _ _ _ (T11.setTop (mkF m 92 #[.val (.long q0), .second, .val (.int p1), .val (.int p2), .val (.ref b1), .val (.int v5_78c), .val (.int v6_78c), .unset, .unset, .unset] [(.int (((p2.toUInt32 >>> ((1 : Int32) &&& 31).toUInt32).toInt32) &&& (7 : Int32))), (.ref b1)]))
      refine Go.of (fun t k => XS.iconst X11.here hx rfl (hb hby at_92) k) ?_
      show Go p e below s _ _ _ (T11.setTop (mkF m 93 #[.val (.long q0), .second, .val (.int p1), .val (.int p2), .val (.ref b1), .val (.int v5_78c), .val (.int v6_78c), .unset, .unset, .unset] [(.int (5 : Int32)), (.int (((p2.toUInt32 >>> ((1 : Int32) &&& 31).toUInt32).toInt32) &&& (7 : Int32))), (.ref b1)]))
      refine Go.of (fun t k => iremM X11 hx rfl (hb hby at_93) rfl (by decide) k) ?_
      show Go p e below s _ _ _ (T11.setTop (mkF m 94 #[.val (.long q0), .second, .val (.int p1), .val (.int p2), .val (.ref b1), .val (.int v5_78c), .val (.int v6_78c), .unset, .unset, .unset] [(.int ((((p2.toUInt32 >>> ((1 : Int32) &&& 31).toUInt32).toInt32) &&& (7 : Int32)) % (5 : Int32))), (.ref b1)]))
      obtain ⟨cl45, Ar45, q45, S45, M45, H45, G45⟩ := id f12
      have hin45 : ¬ (((((p2.toUInt32 >>> ((1 : Int32) &&& 31).toUInt32).toInt32) &&& (7 : Int32)) % (5 : Int32)) < 0 ∨ cl45.slots.size ≤ (((((p2.toUInt32 >>> ((1 : Int32) &&& 31).toUInt32).toInt32) &&& (7 : Int32)) % (5 : Int32))).toNatClampNeg) := (inb_of S45 (own_pi p2))
      refine Go.of (X11.baloadBytes hx (j := ((((p2.toUInt32 >>> ((1 : Int32) &&& 31).toUInt32).toInt32) &&& (7 : Int32)) % (5 : Int32))) (v := (.int ([(nar .byte ((q0.toInt32).toInt8.toInt32)), (nar .byte ((((q0.toUInt64 >>> ((8 : Int32) &&& 0x3f).toInt64.toUInt64).toInt64).toInt32).toInt8.toInt32)), (nar .byte ((((q0.toUInt64 >>> ((16 : Int32) &&& 0x3f).toInt64.toUInt64).toInt64).toInt32).toInt8.toInt32)), (nar .byte ((((q0.toUInt64 >>> ((24 : Int32) &&& 0x3f).toInt64.toUInt64).toInt64).toInt32).toInt8.toInt32)), (nar .byte ((((q0.toUInt64 >>> ((32 : Int32) &&& 0x3f).toInt64.toUInt64).toInt64).toInt32).toInt8.toInt32))].getD (((((p2.toUInt32 >>> ((1 : Int32) &&& 31).toUInt32).toInt32) &&& (7 : Int32)) % (5 : Int32))).toNatClampNeg 0))) (by rw [e11]; exact Ar45.1) (State.isArrayOf_alike hZ.alike Ar45.2.1) Ar45.2.2 hin45 (Has.at H45 hin45 (own_getDI [(nar .byte ((q0.toInt32).toInt8.toInt32)), (nar .byte ((((q0.toUInt64 >>> ((8 : Int32) &&& 0x3f).toInt64.toUInt64).toInt64).toInt32).toInt8.toInt32)), (nar .byte ((((q0.toUInt64 >>> ((16 : Int32) &&& 0x3f).toInt64.toUInt64).toInt64).toInt32).toInt8.toInt32)), (nar .byte ((((q0.toUInt64 >>> ((24 : Int32) &&& 0x3f).toInt64.toUInt64).toInt64).toInt32).toInt8.toInt32)), (nar .byte ((((q0.toUInt64 >>> ((32 : Int32) &&& 0x3f).toInt64.toUInt64).toInt64).toInt32).toInt8.toInt32))] _)) (g := (mkF m 94 #[.val (.long q0), .second, .val (.int p1), .val (.int p2), .val (.ref b1), .val (.int v5_78c), .val (.int v6_78c), .unset, .unset, .unset] [(.int ((((p2.toUInt32 >>> ((1 : Int32) &&& 31).toUInt32).toInt32) &&& (7 : Int32)) % (5 : Int32))), (.ref b1)])) rfl rfl (hb hby at_94)) ?_
      show Go p e below s _ _ _ (T11.setTop (mkF m 95 #[.val (.long q0), .second, .val (.int p1), .val (.int p2), .val (.ref b1), .val (.int v5_78c), .val (.int v6_78c), .unset, .unset, .unset] [(.int ([(nar .byte ((q0.toInt32).toInt8.toInt32)), (nar .byte ((((q0.toUInt64 >>> ((8 : Int32) &&& 0x3f).toInt64.toUInt64).toInt64).toInt32).toInt8.toInt32)), (nar .byte ((((q0.toUInt64 >>> ((16 : Int32) &&& 0x3f).toInt64.toUInt64).toInt64).toInt32).toInt8.toInt32)), (nar .byte ((((q0.toUInt64 >>> ((24 : Int32) &&& 0x3f).toInt64.toUInt64).toInt64).toInt32).toInt8.toInt32)), (nar .byte ((((q0.toUInt64 >>> ((32 : Int32) &&& 0x3f).toInt64.toUInt64).toInt64).toInt32).toInt8.toInt32))].getD (((((p2.toUInt32 >>> ((1 : Int32) &&& 31).toUInt32).toInt32) &&& (7 : Int32)) % (5 : Int32))).toNatClampNeg 0))]))
      refine Go.of (fun t k => XS.istore X11.here hx rfl (hb hby at_95) rfl (l' := #[.val (.long q0), .second, .val (.int p1), .val (.int p2), .val (.ref b1), .val (.int v5_78c), .val (.int v6_78c), .val (.int ([(nar .byte ((q0.toInt32).toInt8.toInt32)), (nar .byte ((((q0.toUInt64 >>> ((8 : Int32) &&& 0x3f).toInt64.toUInt64).toInt64).toInt32).toInt8.toInt32)), (nar .byte ((((q0.toUInt64 >>> ((16 : Int32) &&& 0x3f).toInt64.toUInt64).toInt64).toInt32).toInt8.toInt32)), (nar .byte ((((q0.toUInt64 >>> ((24 : Int32) &&& 0x3f).toInt64.toUInt64).toInt64).toInt32).toInt8.toInt32)), (nar .byte ((((q0.toUInt64 >>> ((32 : Int32) &&& 0x3f).toInt64.toUInt64).toInt64).toInt32).toInt8.toInt32))].getD (((((p2.toUInt32 >>> ((1 : Int32) &&& 31).toUInt32).toInt32) &&& (7 : Int32)) % (5 : Int32))).toNatClampNeg 0)), .unset, .unset]) rfl k) ?_
      show Go p e below s _ _ _ (T11.setTop (mkF m 97 #[.val (.long q0), .second, .val (.int p1), .val (.int p2), .val (.ref b1), .val (.int v5_78c), .val (.int v6_78c), .val (.int ([(nar .byte ((q0.toInt32).toInt8.toInt32)), (nar .byte ((((q0.toUInt64 >>> ((8 : Int32) &&& 0x3f).toInt64.toUInt64).toInt64).toInt32).toInt8.toInt32)), (nar .byte ((((q0.toUInt64 >>> ((16 : Int32) &&& 0x3f).toInt64.toUInt64).toInt64).toInt32).toInt8.toInt32)), (nar .byte ((((q0.toUInt64 >>> ((24 : Int32) &&& 0x3f).toInt64.toUInt64).toInt64).toInt32).toInt8.toInt32)), (nar .byte ((((q0.toUInt64 >>> ((32 : Int32) &&& 0x3f).toInt64.toUInt64).toInt64).toInt32).toInt8.toInt32))].getD (((((p2.toUInt32 >>> ((1 : Int32) &&& 31).toUInt32).toInt32) &&& (7 : Int32)) % (5 : Int32))).toNatClampNeg 0)), .unset, .unset] []))
      refine Go.of (fun t k => XS.goto X11.here hx rfl (pc0 := 97) (pc' := 106) rfl (hb hby at_97) (by decide) (by decide) k) ?_
      show Go p e below s _ _ _ (T11.setTop (mkF m 106 #[.val (.long q0), .second, .val (.int p1), .val (.int p2), .val (.ref b1), .val (.int v5_78c), .val (.int v6_78c), .val (.int ([(nar .byte ((q0.toInt32).toInt8.toInt32)), (nar .byte ((((q0.toUInt64 >>> ((8 : Int32) &&& 0x3f).toInt64.toUInt64).toInt64).toInt32).toInt8.toInt32)), (nar .byte ((((q0.toUInt64 >>> ((16 : Int32) &&& 0x3f).toInt64.toUInt64).toInt64).toInt32).toInt8.toInt32)), (nar .byte ((((q0.toUInt64 >>> ((24 : Int32) &&& 0x3f).toInt64.toUInt64).toInt64).toInt32).toInt8.toInt32)), (nar .byte ((((q0.toUInt64 >>> ((32 : Int32) &&& 0x3f).toInt64.toUInt64).toInt64).toInt32).toInt8.toInt32))].getD (((((p2.toUInt32 >>> ((1 : Int32) &&& 31).toUInt32).toInt32) &&& (7 : Int32)) % (5 : Int32))).toNatClampNeg 0)), .unset, .unset] []))
      exact jn106 ([(nar .byte ((q0.toInt32).toInt8.toInt32)), (nar .byte ((((q0.toUInt64 >>> ((8 : Int32) &&& 0x3f).toInt64.toUInt64).toInt64).toInt32).toInt8.toInt32)), (nar .byte ((((q0.toUInt64 >>> ((16 : Int32) &&& 0x3f).toInt64.toUInt64).toInt64).toInt32).toInt8.toInt32)), (nar .byte ((((q0.toUInt64 >>> ((24 : Int32) &&& 0x3f).toInt64.toUInt64).toInt64).toInt32).toInt8.toInt32)), (nar .byte ((((q0.toUInt64 >>> ((32 : Int32) &&& 0x3f).toInt64.toUInt64).toInt64).toInt32).toInt8.toInt32))].getD (((((p2.toUInt32 >>> ((1 : Int32) &&& 31).toUInt32).toInt32) &&& (7 : Int32)) % (5 : Int32))).toNatClampNeg 0)  T11 _ X11 e11 N11  
  exact jn78c ((p1 &&& (7 : Int32)) % (6 : Int32)) (((p1 &&& (7 : Int32)) % (6 : Int32)) + ((((p1.toUInt32 >>> ((3 : Int32) &&& 31).toUInt32).toInt32) &&& (7 : Int32)) % ((6 : Int32) - ((p1 &&& (7 : Int32)) % (6 : Int32))))) (own_se p1)
theorem own_F4 (s e k b : Int32) (L : List Int32) : F4 s e k b L = 0 ↔ ¬ (s.toInt ≤ k.toInt ∧ k.toInt < e.toInt ∧ L.getD k.toNatClampNeg 0 = b) := by
  unfold F4
  simp only [Int32.lt_iff_toInt_lt]
  by_cases h1 : k.toInt < s.toInt
  · simp [h1, show ¬ s.toInt ≤ k.toInt by omega]
  · rw [if_neg h1]
    by_cases h2 : k.toInt < e.toInt
    · rw [if_pos h2]
      by_cases h3 : L.getD k.toNatClampNeg 0 = b
      · rw [if_pos h3]
        exact ⟨fun q => absurd q (by decide), fun q => absurd ⟨by omega, h2, h3⟩ q⟩
      · rw [if_neg h3]
        exact ⟨fun _ q => h3 q.2.2, fun _ => rfl⟩
    · rw [if_neg h2]
      exact ⟨fun _ q => h2 q.2.1, fun _ => rfl⟩
theorem own_scan (b e : Int32) (L : List Int32) (he : e.toInt ≤ 5) : ∀ (n : Nat) (i : Int32), 0 ≤ i.toInt → i.toInt ≤ e.toInt → (e.toInt - i.toInt).toNat < n →
    (F5_5 b e L n i = 1 ∧ ∃ j : Nat, i.toInt ≤ j ∧ (j : Int) < e.toInt ∧ L.getD j 0 = b) ∨ (F5_5 b e L n i = 0 ∧ ∀ j : Nat, i.toInt ≤ j → (j : Int) < e.toInt → ¬ L.getD j 0 = b)
  | 0, i, _, _, h => absurd h (Nat.not_lt_zero _)
  | n + 1, i, h0, h1, h2 => by
    rw [F5_5]
    simp only [Int32.lt_iff_toInt_lt]
    have hz : ¬ i < 0 := by rw [Int32.lt_iff_toInt_lt, own_z]; omega
    have hn := nat_of hz
    by_cases k : i.toInt < e.toInt
    · rw [if_pos k]
      by_cases q : L.getD i.toNatClampNeg 0 = b
      · rw [if_pos q]
        exact Or.inl ⟨rfl, i.toNatClampNeg, by omega, by omega, q⟩
      · rw [if_neg q]
        have hi : (i + (1 : Int32)).toInt = i.toInt + 1 := by
          have a := c_iadd i 1
          have r := rng32 (i + 1)
          have z := own_e1
          omega
        rcases own_scan b e L he n (i + 1) (by omega) (by omega) (by omega) with ⟨r, j, j1, j2, j3⟩ | ⟨r, a⟩
        · exact Or.inl ⟨r, j, by omega, j2, j3⟩
        · refine Or.inr ⟨r, fun j j1 j2 => ?_⟩
          by_cases w : (j : Int) = i.toInt
          · have : j = i.toNatClampNeg := by omega
            rw [this]; exact q
          · exact a j (by omega) j2
    · rw [if_neg k]
      exact Or.inr ⟨rfl, fun j j1 j2 => by omega⟩
theorem own_t0 : (0 : Int32).toNatClampNeg = 0 := by decide
theorem own_t1 : (1 : Int32).toNatClampNeg = 1 := by decide
theorem own_t2 : (2 : Int32).toNatClampNeg = 2 := by decide
theorem own_t3 : (3 : Int32).toNatClampNeg = 3 := by decide
theorem own_t4 : (4 : Int32).toNatClampNeg = 4 := by decide
theorem own_e2 : (2 : Int32).toInt = 2 := by decide
theorem own_e3 : (3 : Int32).toInt = 3 := by decide
theorem own_e4 : (4 : Int32).toInt = 4 := by decide
theorem own_106 (q : Int64) (s e b : Int32) (h : 0 ≤ s.toInt ∧ s.toInt ≤ e.toInt ∧ e.toInt ≤ 5) : F0_106 q s e b = 1 := by
  unfold F0_106 F0_201 F0_206 F5
  generalize [(nar .byte ((q.toInt32).toInt8.toInt32)), (nar .byte ((((q.toUInt64 >>> ((8 : Int32) &&& 0x3f).toInt64.toUInt64).toInt64).toInt32).toInt8.toInt32)), (nar .byte ((((q.toUInt64 >>> ((16 : Int32) &&& 0x3f).toInt64.toUInt64).toInt64).toInt32).toInt8.toInt32)), (nar .byte ((((q.toUInt64 >>> ((24 : Int32) &&& 0x3f).toInt64.toUInt64).toInt64).toInt32).toInt8.toInt32)), (nar .byte ((((q.toUInt64 >>> ((32 : Int32) &&& 0x3f).toInt64.toUInt64).toInt64).toInt32).toInt8.toInt32))] = L
  simp only [own_F4, own_z, own_e1, own_e2, own_e3, own_e4, own_t0, own_t1, own_t2, own_t3, own_t4]
  rcases own_scan b e L h.2.2 6 s h.1 h.2.1 (by omega) with ⟨r, j, j1, j2, j3⟩ | ⟨r, a⟩
  · rw [r]
    have hj : j = 0 ∨ j = 1 ∨ j = 2 ∨ j = 3 ∨ j = 4 := by omega
    rcases hj with rfl | rfl | rfl | rfl | rfl
    · rw [if_neg (fun z => z ⟨by omega, by omega, j3⟩), if_pos rfl]
    · split
      · rw [if_neg (fun z => z ⟨by omega, by omega, j3⟩), if_pos rfl]
      · rw [if_pos rfl]
    · split
      · split
        · rw [if_neg (fun z => z ⟨by omega, by omega, j3⟩), if_pos rfl]
        · rw [if_pos rfl]
      · rw [if_pos rfl]
    · split
      · split
        · split
          · rw [if_neg (fun z => z ⟨by omega, by omega, j3⟩), if_pos rfl]
          · rw [if_pos rfl]
        · rw [if_pos rfl]
      · rw [if_pos rfl]
    · split
      · split
        · split
          · split
            · rw [if_neg (fun z => z ⟨by omega, by omega, j3⟩), if_pos rfl]
            · rw [if_pos rfl]
          · rw [if_pos rfl]
        · rw [if_pos rfl]
      · rw [if_pos rfl]
  · rw [r]
    have a0 := a 0
    have a1 := a 1
    have a2 := a 2
    have a3 := a 3
    have a4 := a 4
    rw [if_pos (fun z => a0 (by omega) (by omega) z.2.2), if_pos (fun z => a1 (by omega) (by omega) z.2.2), if_pos (fun z => a2 (by omega) (by omega) z.2.2), if_pos (fun z => a3 (by omega) (by omega) z.2.2), if_pos (fun z => a4 (by omega) (by omega) z.2.2)]
    rfl
theorem own_law (a : Int64) (b c : Int32) : F0 a b c = 1 := by
  have h := own_se b
  unfold F0 F0_78c
  split <;> exact own_106 _ _ _ _ h
set_option maxRecDepth 65536 in
set_option maxHeartbeats 40000000 in
theorem comes_1 {Post : Tables → Env → Array Value → State → Outcome → State → Prop} (hpost : ∀ tb e args s v u, (limb_1_1.after args s (.returned v) u = true ∧ limb_1_2.after args s (.returned v) u = true ∧ True) → FrameEnd s (.returned v) u (Jvm.fieldLocs frame_1_writes args s ++ Jvm.arrayLocs frame_1_arrays args s ++ Jvm.staticLocs frame_1_statics s) 16 128 → Post tb e args s (.returned v) u) :
    ArmFor flags0 classFile x code maxLocals ret World_1 tables_1 room_1 Calls_1 rest_1 Pre_1 Post := by
  intro l hfl _ _ p e ha hc hk s m args below hf hA hF happ hP
  obtain ⟨hcalls, hrest, hpre⟩ := hP
  obtain ⟨-, -, -, hnamed, -, -, -, hat⟩ := (Spec.applies_iff hf).mp happ
  obtain ⟨hg, hn⟩ := and_e (Cond.before_iff.mp (show (Jvm.Cond.and given_1 narrow_1).before args s = true from hpre))
  obtain ⟨g0, g1⟩ := and_e hg
  obtain ⟨a0, g2⟩ := and_e g1
  obtain ⟨a1, g3⟩ := and_e g2
  have a2 := g3
  obtain ⟨w0, w1, w2, rfl⟩ : ∃ w0 w1 w2 : Value, args = #[w0, w1, w2] := by
    have hs : args.size = 3 := by simpa [Cond.value, given_1] using g0
    obtain ⟨L⟩ := args
    match L, hs with
    | [w0, w1, w2], _ => exact ⟨w0, w1, w2, rfl⟩
  have hw := fun d (hd : d ∈ tables_1) => atoms_spec (ws := Jvm.Cond.code x code maxLocals ret :: tables_1) hat d (List.mem_cons_of_mem _ hd)
  obtain ⟨i0, ei0⟩ := isL_v a0
  obtain rfl : w0 = (.long i0) := Option.some.inj ei0
  obtain ⟨i1, ei1⟩ := is_v a1
  obtain rfl : w1 = (.int i1) := Option.some.inj ei1
  obtain ⟨i2, ei2⟩ := is_v a2
  obtain rfl : w2 = (.int i2) := Option.some.inj ei2
  obtain ⟨n, o, h1, h2, h3, _, L, rfl, ⟨rfl, N⟩, hq⟩ := rm0 l s _ hw tables_1 i0 i1 i2 s.heap s.heap.size (Nat.le_refl _) p e ha hc hk s m _ below hf ((Spec.applies_iff_loose hf).mp happ).1 ⟨rfl, State.Warmed39.refl s, rfl⟩ trivial
  have hone : (F0 i0 i1 i2) = 1 := own_law i0 i1 i2
  refine ⟨n, _, h1, h2, h3, hpost _ _ _ _ _ _ ⟨Cond.after_iff.mpr rfl, Cond.after_iff.mpr (eq_i res_at (Term.int_eval (1)) (by rw [hone])), trivial⟩ ⟨hq.1, hq.2.1, (hq.2.2.sift fun y hy => Or.inr (N y hy)).mono (by decide) (by decide)⟩⟩
theorem main_1_1 : Claimed_1_1 := comes_1 fun _ _ _ _ _ _ h hF => ⟨h.1, hF⟩
theorem main_1_2 : Claimed_1_2 := comes_1 fun _ _ _ _ _ _ h hF => ⟨h.2.1, hF⟩
end Jvm.Pilot.@@N@@
namespace Jvm.Pilot.@@N@@
open Jvm Jvm.ClassFile Sem Op Lib Jvm.Free Jvm.Stand Jvm.Pilot.@@N@@.Jvm.D
/-! MADE BY PROGRAM (witnessworld.py) out of the Statement's table words and the real class files: 9 classes; the members and pool entries that the words name. The judged class is class 1, her method 1. -/
namespace start1
open Jvm.ClassFile
def u (s : String) : CpInfo := .utf8 (stringToUtf16 s)
/-- a pool by its gaps: so many unusable entries, then the entry; so many at the end -/
def gap : Nat → List CpInfo → List CpInfo
  | 0, r => r
  | n + 1, r => .unusable :: gap n r
def poolList (es : List (Nat × CpInfo)) (last : Nat) : List CpInfo := es.foldr (fun e r => gap e.1 (e.2 :: r)) (gap last [])
def pool (es : List (Nat × CpInfo)) (last : Nat) : Array CpInfo := ⟨poolList es last⟩
def fileOf (pool : Array CpInfo) (this : Nat) (attrs : Array Attribute := #[]) (ms : Array MethodInfo := #[]) (fl : Nat := 33) (sup : Nat := 0) (ifs : Array Nat := #[]) (fds : Array FieldInfo := #[]) : ClassFile where
  minorVersion := 0
  majorVersion := 65
  constantPool := pool
  accessFlags := fl
  thisClass := this
  superClass := sup
  interfaces := ifs
  fields := fds
  methods := ms
  attributes := attrs
def plain (name : String) (sup : Option ClassId) : Class where
  name := name
  kind := .ordinary
  loader := none
  accessFlags := 33
  super := sup
  interfaces := #[]
  cf := none
  fields := #[]
  methods := #[]
  instanceTypes := #[]
  staticTypes := #[]
  resolved := #[]
  callSites := []
  init := .initialized
  statics := none
  mirror := none

def pool0 : Array CpInfo := pool [(5, u "<init>"), (0, u "()V"), (1, .class_ 10), (1, u "java/lang/Object")] 113

def k0c0 : Code := { maxStack := 0, maxLocals := 1, code := object_method_1_code, exceptionTable := #[], attributes := #[] }
def k0m0 : Method := { name := "<init>", desc := "()V", sig := { parameters := [], returnType := none }, accessFlags := 1, code := some k0c0 }
/-- java/lang/Object -/
def k0 : Class := { plain "java/lang/Object" none with
  accessFlags := 33
  interfaces := #[]
  cf := some (fileOf pool0 8 #[] #[{ accessFlags := 1, nameIndex := 5, descriptorIndex := 6, attributes := #[] }] 33 0 #[] #[])
  fields := #[]
  methods := #[k0m0]
  instanceTypes := #[]
  staticTypes := #[]
  resolved := Array.replicate 124 none
  statics := none }

def pool1 : Array CpInfo := pool [(2, .class_ 4), (0, .nameAndType 5 6), (0, u "java/lang/Object"), (0, u "<init>"), (0, u "()V"), (0, .class_ 8), (0, u "com/example/tallyfold/tallyfold/Bytes"), (0, .methodref 7 3), (0, .methodref 7 11), (0, .nameAndType 12 13), (0, u "set"), (0, u "([BII)V"), (0, .methodref 15 16), (0, .class_ 17), (0, .nameAndType 18 19), (0, u "com/example/tallyfold/tallyfold/BytesContainsPinLaw"), (0, u "hit"), (0, u "([BIIIB)Z"), (0, .methodref 7 21), (0, .nameAndType 22 23), (0, u "contains"), (0, u "(B)Z"), (2, u "law"), (0, u "(JII)Z")] 5

def k1m0 : Method := { name := "<init>", desc := "()V", sig := { parameters := [], returnType := none }, accessFlags := 1, code := none }
def k1c1 : Code := { maxStack := 5, maxLocals := 10, code := code, exceptionTable := #[], attributes := #[] }
def k1m1 : Method := { name := "law", desc := "(JII)Z", sig := { parameters := [.long, .int, .int], returnType := some .boolean }, accessFlags := 9, code := some k1c1 }
def k1c2 : Code := { maxStack := 2, maxLocals := 5, code := method_3_code, exceptionTable := #[], attributes := #[] }
def k1m2 : Method := { name := "hit", desc := "([BIIIB)Z", sig := { parameters := [(.array .byte), .int, .int, .int, .byte], returnType := some .boolean }, accessFlags := 10, code := some k1c2 }
/-- com/example/tallyfold/tallyfold/BytesContainsPinLaw -/
def k1 : Class := { plain "com/example/tallyfold/tallyfold/BytesContainsPinLaw" (some 0) with
  accessFlags := 49
  interfaces := #[]
  cf := some (fileOf pool1 15 #[] #[{ accessFlags := 1, nameIndex := 5, descriptorIndex := 6, attributes := #[] }, { accessFlags := 9, nameIndex := 26, descriptorIndex := 27, attributes := #[] }, { accessFlags := 10, nameIndex := 18, descriptorIndex := 19, attributes := #[] }] 49 2 #[] #[])
  fields := #[]
  methods := #[k1m0, k1m1, k1m2]
  instanceTypes := #[]
  staticTypes := #[]
  resolved := Array.replicate 33 none
  statics := none }

def pool2 : Array CpInfo := pool [(1, .methodref 2 3), (0, .class_ 4), (0, .nameAndType 5 6), (0, u "java/lang/Object"), (0, u "<init>"), (0, u "()V"), (0, .fieldref 8 9), (0, .class_ 10), (0, .nameAndType 11 12), (0, u "com/example/tallyfold/tallyfold/Bytes"), (0, u "array"), (0, u "[B"), (0, .fieldref 8 14), (0, .nameAndType 15 16), (0, u "start"), (0, u "I"), (0, .fieldref 8 18), (0, .nameAndType 19 16), (0, u "end"), (24, u "LONGS"), (0, u "Ljava/lang/invoke/VarHandle;"), (7, u "set"), (13, u "([BII)V"), (25, u "LOW_BITS"), (0, u "J"), (1, u "HIGH_BITS"), (22, u "contains"), (0, u "(B)Z")] 7

def k2c0 : Code := { maxStack := 2, maxLocals := 1, code := prog_1_method_1_code, exceptionTable := #[], attributes := #[] }
def k2m0 : Method := { name := "<init>", desc := "()V", sig := { parameters := [], returnType := none }, accessFlags := 0, code := some k2c0 }
def k2c1 : Code := { maxStack := 2, maxLocals := 4, code := prog_1_method_2_code, exceptionTable := #[], attributes := #[] }
def k2m1 : Method := { name := "set", desc := "([BII)V", sig := { parameters := [(.array .byte), .int, .int], returnType := none }, accessFlags := 0, code := some k2c1 }
def k2c2 : Code := { maxStack := 2, maxLocals := 3, code := prog_1_method_18_code, exceptionTable := #[], attributes := #[] }
def k2m2 : Method := { name := "contains", desc := "(B)Z", sig := { parameters := [.byte], returnType := some .boolean }, accessFlags := 0, code := some k2c2 }
/-- com/example/tallyfold/tallyfold/Bytes -/
def k2 : Class := { plain "com/example/tallyfold/tallyfold/Bytes" (some 0) with
  accessFlags := 48
  interfaces := #[]
  cf := some (fileOf pool2 8 #[] #[{ accessFlags := 0, nameIndex := 5, descriptorIndex := 6, attributes := #[] }, { accessFlags := 0, nameIndex := 53, descriptorIndex := 67, attributes := #[] }, { accessFlags := 0, nameIndex := 119, descriptorIndex := 120, attributes := #[] }] 48 2 #[] #[{ accessFlags := 26, nameIndex := 44, descriptorIndex := 45, attributes := #[] }, { accessFlags := 26, nameIndex := 93, descriptorIndex := 94, attributes := #[] }, { accessFlags := 26, nameIndex := 96, descriptorIndex := 94, attributes := #[] }, { accessFlags := 2, nameIndex := 11, descriptorIndex := 12, attributes := #[] }, { accessFlags := 2, nameIndex := 15, descriptorIndex := 16, attributes := #[] }, { accessFlags := 2, nameIndex := 19, descriptorIndex := 16, attributes := #[] }])
  fields := #[{ name := "LONGS", type := (.object "java/lang/invoke/VarHandle"), accessFlags := 26, slot := 0, constantValue := 0 }, { name := "LOW_BITS", type := .long, accessFlags := 26, slot := 1, constantValue := 0 }, { name := "HIGH_BITS", type := .long, accessFlags := 26, slot := 2, constantValue := 0 }, { name := "array", type := (.array .byte), accessFlags := 2, slot := 0, constantValue := 0 }, { name := "start", type := .int, accessFlags := 2, slot := 1, constantValue := 0 }, { name := "end", type := .int, accessFlags := 2, slot := 2, constantValue := 0 }]
  methods := #[k2m0, k2m1, k2m2]
  instanceTypes := #[(.array .byte), .int, .int]
  staticTypes := #[(.object "java/lang/invoke/VarHandle"), .long, .long]
  resolved := Array.replicate 128 none
  statics := none }

def pool3 : Array CpInfo := pool [(1, u "java/lang/Cloneable"), (0, .class_ 1), (0, u "java/lang/Object"), (0, .class_ 3)] 3

/-- java/lang/Cloneable -/
def k3 : Class := { plain "java/lang/Cloneable" (some 0) with
  accessFlags := 1537
  interfaces := #[]
  cf := some (fileOf pool3 2 #[] #[] 1537 4 #[] #[])
  fields := #[]
  methods := #[]
  instanceTypes := #[]
  staticTypes := #[]
  resolved := Array.replicate 8 none
  statics := none }

def pool4 : Array CpInfo := pool [(1, u "java/io/Serializable"), (0, .class_ 1), (0, u "java/lang/Object"), (0, .class_ 3)] 3

/-- java/io/Serializable -/
def k4 : Class := { plain "java/io/Serializable" (some 0) with
  accessFlags := 1537
  interfaces := #[]
  cf := some (fileOf pool4 2 #[] #[] 1537 4 #[] #[])
  fields := #[]
  methods := #[]
  instanceTypes := #[]
  staticTypes := #[]
  resolved := Array.replicate 8 none
  statics := none }

/-- the primitive byte -/
def k5 : Class := { plain "byte" none with kind := .primitive 'B', accessFlags := 0x411 }
/-- [B -/
def k6 : Class := { plain "[B" (some 0) with kind := .array 5 .byte, interfaces := #[3, 4], accessFlags := 1041 }

/-- the primitive int -/
def k7 : Class := { plain "int" none with kind := .primitive 'I', accessFlags := 0x411 }
/-- [I -/
def k8 : Class := { plain "[I" (some 0) with kind := .array 7 .int, interfaces := #[3, 4], accessFlags := 1041 }

def heap : Heap := #[]
def classes : Array Class := #[k0, k1, k2, k3, k4, k5, k6, k7, k8]
def interned : List (Array UInt16 × Addr) := []
def slotsUsed : Nat := 0
def theMethod : MethodId := ⟨1, 1⟩
def args0 : Array Value := #[.long 5, .int 6, .int 7]
def aboutOver (below : List Frame) : State where
  vm := { classes := classes, interned := interned.toArray }
  heap := heap
  slotsUsed := slotsUsed
  threads := #[{ frames := .invoking theMethod args0 :: below }]
def below0 : List Frame := [.native { method := ⟨0, 0⟩, args := #[] }]
def about1 : State := aboutOver below0
def p0 : Program := .bare "" "" ""
def e0 : Env := launch0.env 0 0 0
theorem w_frames : about1.frames = Frame.invoking theMethod args0 :: below0 := rfl
set_option maxRecDepth 65536 in
theorem w_args : argsFit about1.vm theMethod args0 = true := by decide +kernel
set_option maxRecDepth 65536 in
theorem w_heap : heapFits about1 = true := by decide +kernel
set_option maxRecDepth 65536 in
theorem w_runnable : about1.curStatus? = some .runnable := by decide +kernel
set_option maxRecDepth 65536 in
theorem w_alone : about1.alone = true := by decide +kernel
set_option maxRecDepth 65536 in
theorem w_named : about1.methodNamed? x = some theMethod := by decide +kernel
set_option maxRecDepth 65536 in
theorem w_hears : about1.hears theMethod below0 = true := by decide +kernel
set_option maxRecDepth 65536 in
theorem w_ripe : about1.ripe theMethod args0 below0 = true := by decide +kernel
theorem w_running : about1.status = .running := rfl
set_option maxRecDepth 65536 in
theorem w_room : about1.hasRoom e0.platform room_1 = true :=
  launch0.hasRoom_least _ room_1 (by decide +kernel) (by decide +kernel) (by decide +kernel) (by decide +kernel) (by decide +kernel) (by decide +kernel)
theorem allAtoms_all (ts : List Jvm.Cond) (a : Array Jvm.Value) (st : Jvm.State) : (allAtoms ts).before a st = ts.all (fun c => c.before a st) := by
  induction ts with
  | nil => rfl
  | cons c t ih =>
    show (Jvm.Cond.and c (allAtoms t)).before a st = _
    rw [Jvm.Cond.before_and, ih, List.all_cons]
def words1 : List Jvm.Cond := Jvm.Cond.code x code maxLocals ret :: tables_1
/-- a 'code' word, met by the world's own term for the bytes: nothing is compared byte by byte -/
theorem code_word {y : MethodName} {bytes : ByteArray} {mx : Nat} {rt : Option FieldType} {a : Array Value} {s : State} {m : MethodId} {meth : Method} {c : Code} (h1 : s.methodNamed? y = some m) (h2 : s.vm.method? m = some meth) (h3 : meth.code = some c) (h4 : c.code = bytes)
    (h5 : (c.maxLocals == mx && c.exceptionTable.isEmpty && decide (c.maxStack ≤ mostOperands) && decide (meth.sig.returnType = rt) && !meth.locks && decide (parseMethodDescriptor y.desc = some meth.sig)) = true) : (Jvm.Cond.code y bytes mx rt).before a s = true := by
  simp only [Bool.and_eq_true, beq_iff_eq, Bool.not_eq_true', decide_eq_true_eq] at h5
  obtain ⟨⟨⟨⟨⟨g1, g2⟩, g3⟩, g4⟩, g5⟩, g6⟩ := h5
  simp [Cond.before, Cond.holds, Cond.value, h1, h2, h3, h4, g1, g2, g3, g4, g5, g6]
def isCode : Jvm.Cond → Bool
  | .code _ _ _ _ => true
  | _ => false
theorem all_split {L : List Jvm.Cond} {P : Jvm.Cond → Bool} (h1 : L.all (fun c => isCode c || P c) = true) (h2 : ∀ c ∈ L.filter isCode, P c = true) : L.all P = true := by
  refine List.all_eq_true.mpr fun c hc => ?_
  have h := List.all_eq_true.mp h1 c hc
  rcases Bool.eq_false_or_eq_true (isCode c) with hi | hi
  · exact h2 c (List.mem_filter.mpr ⟨hc, hi⟩)
  · simpa [hi] using h
set_option maxRecDepth 65536 in
theorem w_c0 : (Jvm.Cond.code x code maxLocals ret).before args0 about1 = true := code_word (m := ⟨1, 1⟩) (meth := k1m1) (c := k1c1) (by decide +kernel) rfl rfl rfl (by decide +kernel)
set_option maxRecDepth 65536 in
theorem w_c1 : (Jvm.Cond.code ({ cls := "com/example/tallyfold/tallyfold/Bytes", name := "<init>", desc := "()V" } : Jvm.MethodName) prog_1_method_1_code (1 : Nat) (Option.none : Option Jvm.ClassFile.FieldType)).before args0 about1 = true := code_word (m := ⟨2, 0⟩) (meth := k2m0) (c := k2c0) (by decide +kernel) rfl rfl rfl (by decide +kernel)
set_option maxRecDepth 65536 in
theorem w_c2 : (Jvm.Cond.code ({ cls := "java/lang/Object", name := "<init>", desc := "()V" } : Jvm.MethodName) object_method_1_code (1 : Nat) (Option.none : Option Jvm.ClassFile.FieldType)).before args0 about1 = true := code_word (m := ⟨0, 0⟩) (meth := k0m0) (c := k0c0) (by decide +kernel) rfl rfl rfl (by decide +kernel)
set_option maxRecDepth 65536 in
theorem w_c3 : (Jvm.Cond.code ({ cls := "com/example/tallyfold/tallyfold/Bytes", name := "set", desc := "([BII)V" } : Jvm.MethodName) prog_1_method_2_code (4 : Nat) (Option.none : Option Jvm.ClassFile.FieldType)).before args0 about1 = true := code_word (m := ⟨2, 1⟩) (meth := k2m1) (c := k2c1) (by decide +kernel) rfl rfl rfl (by decide +kernel)
set_option maxRecDepth 65536 in
theorem w_c4 : (Jvm.Cond.code ({ cls := "com/example/tallyfold/tallyfold/BytesContainsPinLaw", name := "hit", desc := "([BIIIB)Z" } : Jvm.MethodName) method_3_code (5 : Nat) (Option.some Jvm.ClassFile.FieldType.boolean)).before args0 about1 = true := code_word (m := ⟨1, 2⟩) (meth := k1m2) (c := k1c2) (by decide +kernel) rfl rfl rfl (by decide +kernel)
set_option maxRecDepth 65536 in
theorem w_c5 : (Jvm.Cond.code ({ cls := "com/example/tallyfold/tallyfold/Bytes", name := "contains", desc := "(B)Z" } : Jvm.MethodName) prog_1_method_18_code (3 : Nat) (Option.some Jvm.ClassFile.FieldType.boolean)).before args0 about1 = true := code_word (m := ⟨2, 2⟩) (meth := k2m2) (c := k2c2) (by decide +kernel) rfl rfl rfl (by decide +kernel)
def codes1 : List Jvm.Cond := [Jvm.Cond.code x code maxLocals ret, Jvm.Cond.code ({ cls := "com/example/tallyfold/tallyfold/Bytes", name := "<init>", desc := "()V" } : Jvm.MethodName) prog_1_method_1_code (1 : Nat) (Option.none : Option Jvm.ClassFile.FieldType), Jvm.Cond.code ({ cls := "java/lang/Object", name := "<init>", desc := "()V" } : Jvm.MethodName) object_method_1_code (1 : Nat) (Option.none : Option Jvm.ClassFile.FieldType), Jvm.Cond.code ({ cls := "com/example/tallyfold/tallyfold/Bytes", name := "set", desc := "([BII)V" } : Jvm.MethodName) prog_1_method_2_code (4 : Nat) (Option.none : Option Jvm.ClassFile.FieldType), Jvm.Cond.code ({ cls := "com/example/tallyfold/tallyfold/BytesContainsPinLaw", name := "hit", desc := "([BIIIB)Z" } : Jvm.MethodName) method_3_code (5 : Nat) (Option.some Jvm.ClassFile.FieldType.boolean), Jvm.Cond.code ({ cls := "com/example/tallyfold/tallyfold/Bytes", name := "contains", desc := "(B)Z" } : Jvm.MethodName) prog_1_method_18_code (3 : Nat) (Option.some Jvm.ClassFile.FieldType.boolean)]
set_option maxRecDepth 65536 in
theorem codes_eq : words1.filter isCode = codes1 := rfl
theorem w_codes : ∀ c ∈ words1.filter isCode, c.before args0 about1 = true := by
  rw [codes_eq]
  intro c hc
  simp only [codes1, List.mem_cons, List.not_mem_nil, or_false] at hc
  rcases hc with rfl | rfl | rfl | rfl | rfl | rfl
  · exact w_c0
  · exact w_c1
  · exact w_c2
  · exact w_c3
  · exact w_c4
  · exact w_c5
set_option maxRecDepth 65536 in
theorem w_t1 : (words1.take 24).all (fun c => isCode c || c.before args0 about1) = true := by decide +kernel
set_option maxRecDepth 65536 in
theorem w_t2 : (words1.drop 24).all (fun c => isCode c || c.before args0 about1) = true := by decide +kernel
theorem w_tables : (allAtoms (Jvm.Cond.code x code maxLocals ret :: tables_1)).before args0 about1 = true := by
  rw [allAtoms_all]
  show words1.all (fun c => c.before args0 about1) = true
  refine all_split ?_ w_codes
  rw [← List.take_append_drop 24 words1, List.all_append, w_t1, w_t2]
  rfl
set_option maxRecDepth 65536 in
theorem w_case : (Jvm.Cond.and given_1 narrow_1).before args0 about1 = true := by decide +kernel
theorem w_applies : (headSpec (Jvm.Cond.code x code maxLocals ret :: tables_1) room_1).applies x e0.platform about1 = true :=
  (Spec.applies_iff w_frames).mpr ⟨w_running, w_runnable, w_alone, w_named, w_hears, w_ripe, w_room, w_tables⟩
theorem atStart : AtStart classFile x code maxLocals ret World_1 tables_1 room_1 Calls_1 rest_1 Pre_1 launch0 p0 e0 about1 theMethod args0 below0 :=
  ⟨lists_1, trivial, launch0.admits_env _ _ _, launch0.least_env, fairChoices_fair.cas, fairChoices_fair.clock, w_frames, w_args, w_heap, w_applies, trivial, trivial, w_case⟩
end start1
theorem witness_1 : WitnessClaimed_1 := ⟨start1.p0, start1.e0, start1.about1, start1.theMethod, start1.args0, start1.below0, start1.atStart⟩
end Jvm.Pilot.@@N@@
